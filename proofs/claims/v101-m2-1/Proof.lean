import JvmDerived
import JvmDerived.Pilot.@@N@@Statement
import JvmDerived.Pilot.@@N@@Code
set_option linter.unusedVariables false
set_option linter.unusedSimpArgs false
/- laws to paste: Road.eqW, Road.lenW, Road.empW, Road.chN (cut by pick.py; bodies as the Statement names them) -/
namespace Jvm.Pilot.@@N@@
namespace StrChars
open Jvm Sem ClassFile Op Lib Jvm.Stand Jvm.Free.XT Jvm.Free.ALB Jvm.Free.JM Jvm.Free
open Jvm.Lib.Cold (StaticIs)
/-- the byte that i2b leaves of a char -/
def lo8 (x : Int32) : Int32 := x.toInt8.toInt32
theorem fits_lo8 (y : Int32) : fits .byte (.int (lo8 y)) = true := by
  have h1 := y.toInt8.le_toInt
  have h2 := y.toInt8.toInt_lt
  simp only [lo8, fits, Bool.and_eq_true, decide_eq_true_eq, Int32.le_iff_toInt_le, Int8.toInt_toInt32, show (-128 : Int32).toInt = -128 from by decide, show (127 : Int32).toInt = 127 from by decide]
  omega
/-- the byte, read back as charAt reads it, is the char -/
theorem lo8_mask {x : Int32} (h0 : ¬ x < 0) (h1 : ¬ 255 < x) : lo8 x &&& 255 = x := by
  have t : ∀ k : Fin 256, lo8 (Int32.ofNat k.val) &&& 255 = Int32.ofNat k.val := by decide +kernel
  rw [Int32.lt_iff_toInt_lt] at h0 h1
  have e0 : (0 : Int32).toInt = 0 := rfl
  have e1 : (255 : Int32).toInt = 255 := rfl
  obtain ⟨k, hk⟩ : ∃ k : Nat, x.toInt = k := ⟨x.toInt.toNat, by omega⟩
  have hx : x = Int32.ofNat k := Int32.toInt_inj.mp (by rw [hk, Int32.toInt_ofNat_small (by omega)])
  rw [hx]
  exact t ⟨k, by omega⟩
end StrChars
namespace StrChars.Road
open Jvm Sem ClassFile Op Lib Jvm.Stand Jvm.Free Jvm.Free.XT
open Jvm.Lib.Cold (StaticIs)
abbrev ST : String := "java/lang/String"
end StrChars.Road
namespace StrChars
open Jvm Sem ClassFile Op Lib Jvm.Stand Jvm.Free.XT Jvm.Free.ALB Jvm.Free.JM Jvm.Free
open Jvm.Lib.Cold (StaticIs)
def hi8 (x : Int32) : Int32 := lo8 (x >>> ((8 : Int32) &&& 31))
/-- what StringUTF16.getChar makes of two bytes -/
def pairCh (u v : Int32) : Int32 := (((u &&& 255) <<< ((0 : Int32) &&& 31)) ||| ((v &&& 255) <<< ((8 : Int32) &&& 31))).toUInt32.toUInt16.toUInt32.toInt32
theorem shr0 (c : Int32) : c >>> ((0 : Int32) &&& 31) = c := by
  have e : ((0 : Int32) &&& 31) = 0 := by decide
  rw [e]
  apply Int32.toBitVec_inj.mp
  rw [Int32.toBitVec_shiftRight]
  have e1 : ((0 : Int32).toBitVec.smod 32) = 0#32 := by decide
  rw [e1, BitVec.sshiftRight_eq']
  exact BitVec.sshiftRight_zero
theorem lo8_and (x : Int32) : (lo8 x &&& 255).toBitVec.toNat = x.toBitVec.toNat % 256 := by
  have h : (lo8 x).toBitVec = (x.toBitVec.signExtend 8).signExtend 32 := by rw [lo8, Int8.toBitVec_toInt32, Int32.toBitVec_toInt8]
  rw [Int32.toBitVec_and, BitVec.toNat_and, h]
  have e : ((x.toBitVec.signExtend 8).signExtend 32).toNat % 256 = x.toBitVec.toNat % 256 := by
    rw [BitVec.toNat_signExtend]
    have hlt := x.toBitVec.isLt
    simp only [BitVec.toNat_setWidth, BitVec.toNat_signExtend]
    split <;> split <;> omega
  rw [← e]
  exact Nat.and_two_pow_sub_one_eq_mod _ 8
theorem pair_says {c : Int32} (h0 : ¬ c < 0) (h1 : ¬ 65535 < c) : pairCh (lo8 c) (hi8 c) = c := by
  rw [Int32.lt_iff_toInt_lt] at h0 h1
  have e0 : (0 : Int32).toInt = 0 := rfl
  have e1 : (65535 : Int32).toInt = 65535 := rfl
  have hc : c.toInt = c.toBitVec.toNat := by
    have := c.toBitVec.isLt
    have e : c.toInt = c.toBitVec.toInt := rfl
    rw [e] at h0 h1
    rw [e]
    rw [BitVec.toInt_eq_toNat_cond] at h0 h1 ⊢
    split at h0 <;> split <;> omega
  have hn : c.toBitVec.toNat < 65536 := by omega
  have a1 := lo8_and c
  have a2 : (hi8 c &&& 255).toBitVec.toNat = c.toBitVec.toNat / 256 := by
    rw [hi8, lo8_and]
    have e : ((8 : Int32) &&& 31) = 8 := by decide
    rw [e, Int32.toBitVec_shiftRight]
    have e2 : ((8 : Int32).toBitVec.smod 32) = 8#32 := by decide
    rw [e2, BitVec.sshiftRight_eq', BitVec.toNat_sshiftRight_of_msb_false (by rw [BitVec.msb_eq_false_iff_two_mul_lt]; omega)]
    show c.toBitVec.toNat >>> 8 % 256 = _
    rw [Nat.shiftRight_eq_div_pow]
    omega
  unfold pairCh
  apply Int32.toBitVec_inj.mp
  apply BitVec.eq_of_toNat_eq
  have f0 : ((0 : Int32) &&& 31) = 0 := by decide
  have f8 : ((8 : Int32) &&& 31) = 8 := by decide
  rw [f0, f8]
  have g : (((lo8 c &&& 255) <<< (0 : Int32)) ||| ((hi8 c &&& 255) <<< (8 : Int32))).toBitVec.toNat = c.toBitVec.toNat := by
    rw [Int32.toBitVec_or, Int32.toBitVec_shiftLeft, Int32.toBitVec_shiftLeft]
    have s0 : ((0 : Int32).toBitVec.smod 32) = 0#32 := by decide
    have s8 : ((8 : Int32).toBitVec.smod 32) = 8#32 := by decide
    rw [s0, s8, BitVec.toNat_or]
    simp only [BitVec.shiftLeft_eq', BitVec.toNat_shiftLeft, a1, a2]
    show (c.toBitVec.toNat % 256) <<< 0 % 2 ^ 32 ||| (c.toBitVec.toNat / 256) <<< 8 % 2 ^ 32 = _
    rw [Nat.shiftLeft_zero, Nat.mod_eq_of_lt (show c.toBitVec.toNat % 256 < 2 ^ 32 by omega), Nat.mod_eq_of_lt (show (c.toBitVec.toNat / 256) <<< 8 < 2 ^ 32 by rw [Nat.shiftLeft_eq]; omega), Nat.or_comm, ← Nat.shiftLeft_add_eq_or_of_lt (by omega), Nat.shiftLeft_eq]
    omega
  show BitVec.toNat (((((lo8 c &&& 255) <<< (0 : Int32)) ||| ((hi8 c &&& 255) <<< (8 : Int32))).toBitVec.setWidth 16).setWidth 32) = _
  rw [BitVec.toNat_setWidth, BitVec.toNat_setWidth, g]
  omega
end StrChars
namespace StrChars
open Jvm Sem ClassFile Op Lib Jvm.Stand Jvm.Free.XT Jvm.Free.ALB Jvm.Free.JM Jvm.Free
open Jvm.Lib.Cold (StaticIs)
theorem shr1 {n : Nat} (h : 2 * n < 2 ^ 31) : Int32.ofNat (2 * n) >>> ((1 : Int32) &&& 31) = Int32.ofNat n := by
  have e : ((1 : Int32) &&& 31) = 1 := by decide
  rw [e]
  apply Int32.toBitVec_inj.mp
  rw [Int32.toBitVec_shiftRight]
  have e1 : ((1 : Int32).toBitVec.smod 32) = 1#32 := by decide
  have hm : (BitVec.ofNat 32 (2 * n)).toNat = 2 * n := by rw [BitVec.toNat_ofNat, Nat.mod_eq_of_lt (by omega)]
  rw [e1, BitVec.sshiftRight_eq']
  apply BitVec.eq_of_toNat_eq
  show ((BitVec.ofNat 32 (2 * n)).sshiftRight 1).toNat = (BitVec.ofNat 32 n).toNat
  rw [BitVec.toNat_sshiftRight_of_msb_false (by rw [BitVec.msb_eq_false_iff_two_mul_lt, hm]; omega), hm, BitVec.toNat_ofNat, Nat.shiftRight_eq_div_pow]
  omega
/-- charAt's cast of a byte read back -/
def chr8 (u : Int32) : Int32 := (u &&& 255).toUInt32.toUInt16.toUInt32.toInt32
theorem chr8_lo8 {c : Int32} (h0 : ¬ c < 0) (h1 : ¬ 255 < c) : chr8 (lo8 c) = c := by
  have t : ∀ k : Fin 256, (Int32.ofNat k.val).toUInt32.toUInt16.toUInt32.toInt32 = Int32.ofNat k.val := by decide +kernel
  unfold chr8
  rw [lo8_mask h0 h1]
  rw [Int32.lt_iff_toInt_lt] at h0 h1
  have e0 : (0 : Int32).toInt = 0 := rfl
  have e1 : (255 : Int32).toInt = 255 := rfl
  obtain ⟨k, hk⟩ : ∃ k : Nat, c.toInt = k := ⟨c.toInt.toNat, by omega⟩
  have hx : c = Int32.ofNat k := Int32.toInt_inj.mp (by rw [hk, Int32.toInt_ofNat_small (by omega)])
  rw [hx]
  exact t ⟨k, by omega⟩
theorem narrow_ch {c : Int32} (h0 : ¬ c < 0) (h1 : ¬ 65535 < c) : narrow .char (.int c) = .int c := by
  have q : narrow .char (.int (pairCh (lo8 c) (hi8 c))) = .int (pairCh (lo8 c) (hi8 c)) := narrow_c _
  rwa [pair_says h0 h1] at q
/-- the array's cell V codes the n chars f 0 .. f (n - 1) by the coder cd, as the JDK does: coder 1 just where some char is above 255 -/
def Cod (cd : Int32) (n : Nat) (f : Nat → Int32) (V : Cell) : Prop := (cd = 0 ∧ V.slots.size = n ∧ ∀ j, j < n → V.slots[j]? = some (.int (lo8 (f j))) ∧ ¬ 255 < f j) ∨ (cd = 1 ∧ V.slots.size = 2 * n ∧ (∀ j, j < n → V.slots[2 * j]? = some (.int (lo8 (f j))) ∧ V.slots[2 * j + 1]? = some (.int (hi8 (f j)))) ∧ ∃ j, j < n ∧ 255 < f j)
theorem Cod.cd {cd : Int32} {n : Nat} {f : Nat → Int32} {V : Cell} (h : Cod cd n f V) : cd = 0 ∨ cd = 1 := h.imp (fun q => q.1) fun q => q.1
theorem Cod.len {cd : Int32} {n : Nat} {f : Nat → Int32} {V : Cell} (h : Cod cd n f V) (hs : V.slots.size < 2 ^ 31) : Int32.ofNat V.slots.size >>> (cd &&& 31) = Int32.ofNat n := by
  rcases h with ⟨rfl, h, -⟩ | ⟨rfl, h, -⟩
  · rw [shr0, h]
  · rw [h, shr1 (by omega)]
/-- **x is a String of the n chars f 0 .. f (n - 1)**, Latin-1 or UTF-16; its array at t has the cell V -/
def Txt (x t : Addr) (V : Cell) (cd : Int32) (n : Nat) (f : Nat → Int32) (U : State) : Prop := Exact "java/lang/String" x U ∧ Has x "java/lang/String" "value" "[B" (.ref t) U ∧ Has x "java/lang/String" "coder" "B" (.int cd) U ∧ XT.Arr .byte t V U ∧ Cod cd n f V ∧ ∀ j, j < n → ¬ f j < 0 ∧ ¬ 65535 < f j
theorem Txt.mv {x t : Addr} {V : Cell} {cd : Int32} {n : Nat} {f : Nat → Int32} {U U' : State} (h : Txt x t V cd n f U) (hal : U.vm.Alike U'.vm) (hh : U'.heap = U.heap) : Txt x t V cd n f U' := ⟨h.1.mv hal hh, h.2.1.mv hal hh, h.2.2.1.mv hal hh, h.2.2.2.1.mv hal hh, h.2.2.2.2⟩
namespace Cdr
def yN : MethodName := ⟨"java/lang/String", "coder", "()B"⟩
abbrev yB : ByteArray := jdk_42_method_152_code
theorem d0 : decode yB 0 = .ok (.getstatic 38, 3) := by decide +kernel
theorem d3 : decode yB 3 = .ok (.ifCond (.eq) 10, 3) := by decide +kernel
theorem d6 : decode yB 6 = .ok (.aload_n 0, 1) := by decide +kernel
theorem d7 : decode yB 7 = .ok (.getfield 15, 3) := by decide +kernel
theorem d10 : decode yB 10 = .ok (.goto 4, 3) := by decide +kernel
theorem d14 : decode yB 14 = .ok (.ireturn, 1) := by decide +kernel
def site : List Cond := [.fieldLink "java/lang/String" 38 "java/lang/String" "COMPACT_STRINGS" "Z", .fieldLink "java/lang/String" 15 "java/lang/String" "coder" "B"]
def tab : Cond := tabOf yN yB 1 (some .byte) site
def P (x : Addr) (cd z : Int32) (args : Array Value) (s : State) : Prop := args = #[.ref x] ∧ Has x "java/lang/String" "coder" "B" (.int cd) s ∧ (cd = 0 ∨ cd = 1) ∧ StaticIs s "java/lang/String" "COMPACT_STRINGS" "Z" (.int z) ∧ ¬ z = 0
def E (cd : Int32) (r : Option Value) (s u : State) : Prop := XT.PureE (some (.int cd)) r s u
theorem law (l : Launch) (x : Addr) (cd z : Int32) : Law l yN 1 0 0 0 yB 1 (some .byte) site (P x cd z) (E cd) [] 0 0 := by
  refine Law.of_walk (plainFor_of_name (by decide +kernel)) (by decide +kernel) (by decide +kernel) (by decide) (fun _ _ h => by rw [h.1]; rfl) (fun _ U U' hal hh h => ⟨h.1, h.2.1.mv hal hh, h.2.2.1, h.2.2.2.1.there hal hh, h.2.2.2.2⟩) (fun r U U' V V' h1 hal h2 h => XT.PureE.mv r U U' V V' h1 hal h2 h) ?_
  intro p e s m args below meth c s₁ X0 hexec hbytes hml hret hlk hnm hown hh0 W hP
  obtain ⟨rfl, hx, hc, s1, hz⟩ := hP
  have c1 : Steps p.tables e below (s₁.setTop (entryFrame m #[.ref x] 1)) (s₁.setTop (mkF m 0 #[.val (.ref x)] [])) := entry rfl
  obtain ⟨T2, X2, q2, st2⟩ := X0.sget hexec hown (wk W (.fieldLink "java/lang/String" 38 "java/lang/String" "COMPACT_STRINGS" "Z")) s1 (fun _ _ h => by rw [hh0]; exact h) (g := (mkF m 0 #[.val (.ref x)] [])) rfl (hb hbytes d0)
  have hh2 := q2.trans hh0
  have c3 : Steps p.tables e below (s₁.setTop (entryFrame m #[.ref x] 1)) (T2.setTop (mkF m 7 #[.val (.ref x)] [.ref x])) := (c1.trans (st2 _ (Steps.refl _))).trans (by
    refine XS.ifNo X2.here hexec rfl (hb hbytes d3) rfl (i0_eq_f hz) ?_
    refine XS.aloadN X2.here hexec rfl (hb hbytes d6) rfl rfl ?_
    exact Steps.refl _)
  obtain ⟨T4, X4, q4, st4⟩ := X2.hget hexec hown (wk W (.fieldLink "java/lang/String" 15 "java/lang/String" "coder" "B")) (hx.mv X2.warmed.alike hh2) (g := (mkF m 7 #[.val (.ref x)] [.ref x])) rfl (rest := []) rfl (hb hbytes d7)
  have c5 : Steps p.tables e below (s₁.setTop (entryFrame m #[.ref x] 1)) (T4.setTop (mkF m 14 #[.val (.ref x)] [.int cd])) := (c3.trans (st4 _ (Steps.refl _))).trans (by
    refine XS.goto X4.here hexec rfl (pc0 := 10) rfl (hb hbytes d10) (by decide) rfl ?_
    exact Steps.refl _)
  exact ⟨T4, some (.int cd), _, _, _, X4, rfl, rfl, rfl, (fun h => by cases h), ⟨rfl, q4.trans hh2⟩, fun fs hl => c5.trans (X4.ireturnOut hexec hret (by rcases hc with rfl | rfl <;> rfl) (Or.inr (Or.inr (Or.inl rfl))) (hb hbytes d14) hl)⟩
end Cdr
namespace Len
def yN : MethodName := ⟨"java/lang/String", "length", "()I"⟩
abbrev yB : ByteArray := jdk_42_method_54_code
theorem d0 : decode yB 0 = .ok (.aload_n 0, 1) := by decide +kernel
theorem d1 : decode yB 1 = .ok (.getfield 9, 3) := by decide +kernel
theorem d4 : decode yB 4 = .ok (.arraylength, 1) := by decide +kernel
theorem d5 : decode yB 5 = .ok (.aload_n 0, 1) := by decide +kernel
theorem d6 : decode yB 6 = .ok (.invokevirtual 335, 3) := by decide +kernel
theorem d9 : decode yB 9 = .ok (.ishr, 1) := by decide +kernel
theorem d10 : decode yB 10 = .ok (.ireturn, 1) := by decide +kernel
def site : List Cond := [.fieldLink "java/lang/String" 9 "java/lang/String" "value" "[B", Cdr.tab] ++ virtW "java/lang/String" 335 "java/lang/String" Cdr.yN Cdr.yN
def tab : Cond := tabOf yN yB 1 (some .int) site
def P (x t : Addr) (V : Cell) (cd : Int32) (n : Nat) (f : Nat → Int32) (z : Int32) (args : Array Value) (s : State) : Prop := args = #[.ref x] ∧ Txt x t V cd n f s ∧ StaticIs s "java/lang/String" "COMPACT_STRINGS" "Z" (.int z) ∧ ¬ z = 0
def E (n : Nat) (r : Option Value) (s u : State) : Prop := XT.PureE (some (.int (Int32.ofNat n))) r s u
/-- length() of a String of n chars, in either coding -/
theorem law (l : Launch) (x t : Addr) (V : Cell) (cd : Int32) (n : Nat) (f : Nat → Int32) (z : Int32) : Law l yN 1 0 1 13 yB 1 (some .int) site (P x t V cd n f z) (E n) [] 0 0 := by
  refine Law.of_walk (plainFor_of_name (by decide +kernel)) (by decide +kernel) (by decide +kernel) (by decide) (fun _ _ h => by rw [h.1]; rfl) (fun _ U U' hal hh h => ⟨h.1, h.2.1.mv hal hh, h.2.2.1.there hal hh, h.2.2.2⟩) (fun r U U' V V' h1 hal h2 h => XT.PureE.mv r U U' V V' h1 hal h2 h) ?_
  intro p e s m args below meth c s₁ X0 hexec hbytes hml hret hlk hnm hown hh0 W hP
  obtain ⟨rfl, hx, s1, hz⟩ := hP
  have v31 := hx.2.2.2.1.2.2.2
  have c1 : Steps p.tables e below (s₁.setTop (entryFrame m #[.ref x] 1)) (s₁.setTop (mkF m 1 #[.val (.ref x)] [.ref x])) := Steps.trans (entry rfl) (by
    show Steps p.tables e below (s₁.setTop (mkF m 0 #[.val (.ref x)] [])) _
    refine XS.aloadN X0.here hexec rfl (hb hbytes d0) rfl rfl ?_
    exact Steps.refl _)
  obtain ⟨T2, X2, q2, st2⟩ := X0.hget hexec hown (wk W (.fieldLink "java/lang/String" 9 "java/lang/String" "value" "[B")) (hx.mv X0.warmed.alike hh0).2.1 (g := (mkF m 1 #[.val (.ref x)] [.ref x])) rfl (rest := []) rfl (hb hbytes d1)
  have hh2 := q2.trans hh0
  have hx2 := hx.mv X2.warmed.alike hh2
  have c3 : Steps p.tables e below (s₁.setTop (entryFrame m #[.ref x] 1)) (T2.setTop (mkF m 6 #[.val (.ref x)] [.ref x, .int (Int32.ofNat V.slots.size)])) := (c1.trans (st2 _ (Steps.refl _))).trans (by
    refine X2.alen hexec hx2.2.2.2.1 rfl rfl (hb hbytes d4) ?_
    refine XS.aloadN X2.here hexec rfl (hb hbytes d5) rfl rfl ?_
    exact Steps.refl _)
  obtain ⟨v4, T4, X4, E4, g4⟩ := X2.callV hexec (Cdr.law l x cd z) hown (wks W (virtW "java/lang/String" 335 "java/lang/String" Cdr.yN Cdr.yN)) rfl (by decide) (wk W Cdr.tab) (W := 1) (Nat.le_of_ble_eq_true rfl) (Nat.le_of_ble_eq_true rfl) (Nat.le_refl _) (Nat.le_refl _) (hx2.1.fc X2.warmed.alike) hx2.1.is (g := (mkF m 6 #[.val (.ref x)] [.ref x, .int (Int32.ofNat V.slots.size)])) rfl (by rw [hml]; rfl) c3 (argsL := []) (rest := [.int (Int32.ofNat V.slots.size)]) rfl rfl (by show 2 * 0 + (1 + 0) ≤ _; decide) (hb hbytes d6) (⟨rfl, hx2.2.2.1, hx.2.2.2.2.1.cd, s1.there X2.warmed.alike hh2, hz⟩)
  obtain ⟨rfl, q4⟩ := E4
  have c5 : Steps p.tables e below (s₁.setTop (entryFrame m #[.ref x] 1)) (T4.setTop (mkF m 10 #[.val (.ref x)] [.int (Int32.ofNat V.slots.size >>> (cd &&& 31))])) := Steps.trans g4 (by
    refine ishr X4.here hexec rfl (hb hbytes d9) rfl ?_
    exact Steps.refl _)
  rw [hx.2.2.2.2.1.len v31] at c5
  exact ⟨T4, some (.int (Int32.ofNat n)), _, _, _, X4, rfl, rfl, rfl, (fun h => by cases h), ⟨rfl, q4.trans hh2⟩, fun fs hl => c5.trans (X4.ireturnOut hexec hret rfl (Or.inl rfl) (hb hbytes d10) hl)⟩
theorem pays {l : Launch} {R : Room} {p : Program} {e : Env} {below : List Frame} {s : State} {sargs : Array Value} {len W : Nat} (x t : Addr) (V : Cell) (cd : Int32) (n : Nat) (f : Nat → Int32) (z : Int32) (htab : tab.before sargs s = true) (hfr : 2 ≤ R.frames) (hlo : W + 25 ≤ R.locals) :
    Back l R p e below s sargs yN len W (fun A₁ a₁ => A₁.cells + 0 ≤ R.cells ∧ A₁.slots + 0 ≤ R.slots ∧ P x t V cd n f z a₁ A₁.U) (fun A₁ _ v₁ B₁ => E n v₁ A₁.U B₁.U ∧ B₁.locs = A₁.locs ++ [] ∧ B₁.cells = A₁.cells + 0 ∧ B₁.slots = A₁.slots + 0) :=
  (law l x t V cd n f z).pays htab hfr (by omega)
end Len
namespace IsL
def yN : MethodName := ⟨"java/lang/String", "isLatin1", "()Z"⟩
abbrev yB : ByteArray := jdk_42_method_154_code
theorem d0 : decode yB 0 = .ok (.getstatic 38, 3) := by decide +kernel
theorem d3 : decode yB 3 = .ok (.ifCond (.eq) 14, 3) := by decide +kernel
theorem d6 : decode yB 6 = .ok (.aload_n 0, 1) := by decide +kernel
theorem d7 : decode yB 7 = .ok (.getfield 15, 3) := by decide +kernel
theorem d10 : decode yB 10 = .ok (.ifCond (.ne) 7, 3) := by decide +kernel
theorem d13 : decode yB 13 = .ok (.iconst 1, 1) := by decide +kernel
theorem d14 : decode yB 14 = .ok (.goto 4, 3) := by decide +kernel
theorem d17 : decode yB 17 = .ok (.iconst 0, 1) := by decide +kernel
theorem d18 : decode yB 18 = .ok (.ireturn, 1) := by decide +kernel
def site : List Cond := [.fieldLink "java/lang/String" 38 "java/lang/String" "COMPACT_STRINGS" "Z", .fieldLink "java/lang/String" 15 "java/lang/String" "coder" "B"]
def tab : Cond := tabOf yN yB 1 (some .boolean) site
def P (x : Addr) (cd z : Int32) (args : Array Value) (s : State) : Prop := args = #[.ref x] ∧ Has x "java/lang/String" "coder" "B" (.int cd) s ∧ (cd = 0 ∨ cd = 1) ∧ StaticIs s "java/lang/String" "COMPACT_STRINGS" "Z" (.int z) ∧ ¬ z = 0
def E (cd : Int32) (r : Option Value) (s u : State) : Prop := XT.PureE (some (.int (1 - cd))) r s u
theorem law (l : Launch) (x : Addr) (cd z : Int32) : Law l yN 1 0 0 0 yB 1 (some .boolean) site (P x cd z) (E cd) [] 0 0 := by
  refine Law.of_walk (plainFor_of_name (by decide +kernel)) (by decide +kernel) (by decide +kernel) (by decide) (fun _ _ h => by rw [h.1]; rfl) (fun _ U U' hal hh h => ⟨h.1, h.2.1.mv hal hh, h.2.2.1, h.2.2.2.1.there hal hh, h.2.2.2.2⟩) (fun r U U' V V' h1 hal h2 h => XT.PureE.mv r U U' V V' h1 hal h2 h) ?_
  intro p e s m args below meth c s₁ X0 hexec hbytes hml hret hlk hnm hown hh0 W hP
  obtain ⟨rfl, hx, hc, s1, hz⟩ := hP
  have c1 : Steps p.tables e below (s₁.setTop (entryFrame m #[.ref x] 1)) (s₁.setTop (mkF m 0 #[.val (.ref x)] [])) := entry rfl
  obtain ⟨T2, X2, q2, st2⟩ := X0.sget hexec hown (wk W (.fieldLink "java/lang/String" 38 "java/lang/String" "COMPACT_STRINGS" "Z")) s1 (fun _ _ h => by rw [hh0]; exact h) (g := (mkF m 0 #[.val (.ref x)] [])) rfl (hb hbytes d0)
  have hh2 := q2.trans hh0
  have c3 : Steps p.tables e below (s₁.setTop (entryFrame m #[.ref x] 1)) (T2.setTop (mkF m 7 #[.val (.ref x)] [.ref x])) := (c1.trans (st2 _ (Steps.refl _))).trans (by
    refine XS.ifNo X2.here hexec rfl (hb hbytes d3) rfl (i0_eq_f hz) ?_
    refine XS.aloadN X2.here hexec rfl (hb hbytes d6) rfl rfl ?_
    exact Steps.refl _)
  obtain ⟨T4, X4, q4, st4⟩ := X2.hget hexec hown (wk W (.fieldLink "java/lang/String" 15 "java/lang/String" "coder" "B")) (hx.mv X2.warmed.alike hh2) (g := (mkF m 7 #[.val (.ref x)] [.ref x])) rfl (rest := []) rfl (hb hbytes d7)
  have c5 : Steps p.tables e below (s₁.setTop (entryFrame m #[.ref x] 1)) (T4.setTop (mkF m 10 #[.val (.ref x)] [.int cd])) := c3.trans (st4 _ (Steps.refl _))
  have c6 : Steps p.tables e below (s₁.setTop (entryFrame m #[.ref x] 1)) (T4.setTop (mkF m 18 #[.val (.ref x)] [.int (1 - cd)])) := by
    rcases hc with rfl | rfl
    · exact c5.trans (by
        refine XS.ifNo X4.here hexec rfl (hb hbytes d10) rfl (i0_ne_f rfl) ?_
        refine iconstV X4.here hexec rfl 1 (hb hbytes d13) (by decide) ?_
        refine XS.goto X4.here hexec rfl (pc0 := 14) rfl (hb hbytes d14) (by decide) rfl ?_
        exact Steps.refl _)
    · exact c5.trans (by
        refine XS.ifYes X4.here hexec rfl (pc0 := 10) rfl (hb hbytes d10) rfl (i0_ne_t (by decide)) (by decide) rfl ?_
        refine iconstV X4.here hexec rfl 0 (hb hbytes d17) (by decide) ?_
        exact Steps.refl _)
  exact ⟨T4, some (.int (1 - cd)), _, _, _, X4, rfl, rfl, rfl, (fun h => by cases h), ⟨rfl, q4.trans hh2⟩, fun fs hl => c6.trans (X4.ireturnOut hexec hret (by rcases hc with rfl | rfl <;> rfl) (Or.inr (Or.inl rfl)) (hb hbytes d18) hl)⟩
end IsL
namespace LChA
def yN : MethodName := ⟨"java/lang/StringLatin1", "charAt", "([BI)C"⟩
abbrev yB : ByteArray := jdk_43_method_2_code
theorem d0 : decode yB 0 = .ok (.iload_n 1, 1) := by decide +kernel
theorem d1 : decode yB 1 = .ok (.aload_n 0, 1) := by decide +kernel
theorem d2 : decode yB 2 = .ok (.arraylength, 1) := by decide +kernel
theorem d3 : decode yB 3 = .ok (.invokestatic 9, 3) := by decide +kernel
theorem d6 : decode yB 6 = .ok (.aload_n 0, 1) := by decide +kernel
theorem d7 : decode yB 7 = .ok (.iload_n 1, 1) := by decide +kernel
theorem d8 : decode yB 8 = .ok (.baload, 1) := by decide +kernel
theorem d9 : decode yB 9 = .ok (.sipush 255, 3) := by decide +kernel
theorem d12 : decode yB 12 = .ok (.iand, 1) := by decide +kernel
theorem d13 : decode yB 13 = .ok (.i2c, 1) := by decide +kernel
theorem d14 : decode yB 14 = .ok (.ireturn, 1) := by decide +kernel
def site : List Cond := [JO.Str_checkIndex.tab] ++ staticW "java/lang/StringLatin1" 9 JO.Str_checkIndex.yN
def tab : Cond := tabOf yN yB 2 (some .char) site
def P (t : Addr) (V : Cell) (i : Nat) (u : Int32) (fm : Value) (args : Array Value) (s : State) : Prop := args = #[.ref t, .int (Int32.ofNat i)] ∧ XT.Arr .byte t V s ∧ V.slots[i]? = some (.int u) ∧ (StaticIs s "jdk/internal/util/Preconditions" "SIOOBE_FORMATTER" "Ljava/util/function/BiFunction;" fm ∧ fm.isRef = true)
def E (u : Int32) (r : Option Value) (s w : State) : Prop := XT.PureE (some (.int (chr8 u))) r s w
theorem law (l : Launch) (t : Addr) (V : Cell) (i : Nat) (u : Int32) (fm : Value) : Law l yN 2 2 2 27 yB 2 (some .char) site (P t V i u fm) (E u) [] 0 0 := by
  refine Law.of_walk (plainFor_of_name (by decide +kernel)) (by decide +kernel) (by decide +kernel) (by decide) (fun _ _ h => by rw [h.1]; rfl) (fun _ U U' hal hh h => ⟨h.1, h.2.1.mv hal hh, h.2.2.1, h.2.2.2.1.there hal hh, h.2.2.2.2⟩) (fun r U U' V V' h1 hal h2 h => XT.PureE.mv r U U' V V' h1 hal h2 h) ?_
  intro p e s m args below meth c s₁ X0 hexec hbytes hml hret hlk hnm hown hh0 W hP
  obtain ⟨rfl, hV, hu, s1, rf⟩ := hP
  have v31 := hV.2.2.2
  have hi : i < V.slots.size := (Array.getElem?_eq_some_iff.mp hu).1
  have c1 : Steps p.tables e below (s₁.setTop (entryFrame m #[.ref t, .int (Int32.ofNat i)] 2)) (s₁.setTop (mkF m 0 #[.val (.ref t), .val (.int (Int32.ofNat i))] [])) := entry rfl
  have c2 : Steps p.tables e below (s₁.setTop (entryFrame m #[.ref t, .int (Int32.ofNat i)] 2)) (s₁.setTop (mkF m 3 #[.val (.ref t), .val (.int (Int32.ofNat i))] [.int (Int32.ofNat V.slots.size), .int (Int32.ofNat i)])) := c1.trans (by
    refine XS.iloadN X0.here hexec rfl (hb hbytes d0) rfl ?_
    refine XS.aloadN X0.here hexec rfl (hb hbytes d1) rfl rfl ?_
    refine X0.alen hexec (hV.mv X0.warmed.alike hh0) rfl rfl (hb hbytes d2) ?_
    exact Steps.refl _)
  obtain ⟨v3, T3, X3, E3, g3⟩ := X0.callS hexec (JO.Str_checkIndex.law l (Int32.ofNat i) (Int32.ofNat V.slots.size) fm) hown (wks W (staticW "java/lang/StringLatin1" 9 JO.Str_checkIndex.yN)) (wk W JO.Str_checkIndex.tab) (W := 0) (Nat.le_of_ble_eq_true rfl) (Nat.le_of_ble_eq_true rfl) (Nat.le_refl _) (Nat.le_refl _) (g := (mkF m 3 #[.val (.ref t), .val (.int (Int32.ofNat i))] [.int (Int32.ofNat V.slots.size), .int (Int32.ofNat i)])) rfl (by rw [hml]; rfl) c2 (argsL := [.int (Int32.ofNat i), .int (Int32.ofNat V.slots.size)]) (rest := []) rfl rfl (by show 2 * 0 + 0 ≤ _; decide) (hb hbytes d3) (⟨rfl, rf, s1.there X0.warmed.alike hh0, Int32.ofNat_not_neg (by omega), lt32 v31 hi⟩)
  obtain ⟨rfl, q3⟩ := E3
  have hh3 := q3.trans hh0
  have c4 : Steps p.tables e below (s₁.setTop (entryFrame m #[.ref t, .int (Int32.ofNat i)] 2)) (T3.setTop (mkF m 14 #[.val (.ref t), .val (.int (Int32.ofNat i))] [.int (chr8 u)])) := Steps.trans g3 (by
    refine XS.aloadN X3.here hexec rfl (hb hbytes d6) rfl rfl ?_
    refine XS.iloadN X3.here hexec rfl (hb hbytes d7) rfl ?_
    refine X3.aget hexec (hV.mv X3.warmed.alike hh3) rfl hu rfl rfl (hb hbytes d8) ?_
    refine sipushV X3.here hexec rfl 255 (hb hbytes d9) (by decide) ?_
    refine XS.iand X3.here hexec rfl (hb hbytes d12) rfl ?_
    refine i2c X3.here hexec rfl (hb hbytes d13) rfl ?_
    exact Steps.refl _)
  exact ⟨T3, some (.int (chr8 u)), _, _, _, X3, rfl, rfl, rfl, (fun h => by cases h), ⟨rfl, hh3⟩, fun fs hl => c4.trans (X3.ireturnOut hexec hret (narrow_c _) (Or.inr (Or.inr (Or.inr (Or.inl rfl)))) (hb hbytes d14) hl)⟩
end LChA
end StrChars
namespace StrChars.Road
open Jvm Sem ClassFile Op Lib Jvm.Stand Jvm.Free Jvm.Free.XT
open Jvm.Lib.Cold (StaticIs)
theorem consq {a : Array Value} {s : State} {c : Jvm.Cond} {L : List Jvm.Cond} (h0 : c.before a s = true) (h : ∀ w ∈ L, w.before a s = true) : ∀ w ∈ c :: L, w.before a s = true := fun w hw => (List.mem_cons.mp hw).elim (fun e => e ▸ h0) (h w)
/-- what is asked by String.length(), either coding -/
abbrev wordsLen : List Jvm.Cond := [.code Len.yN Len.yB 1 (some .int), .initialized ST, .fieldLink ST 9 ST "value" "[B", .fieldLink ST 38 ST "COMPACT_STRINGS" "Z", .fieldLink ST 15 ST "coder" "B", .code Cdr.yN Cdr.yB 1 (some .byte), .methodLink ST 335 Cdr.yN, .declares Cdr.yN, .selects ST Cdr.yN Cdr.yN, .instanceMethod Cdr.yN]
theorem tabLen_of {a : Array Value} {s : State} (h : ∀ w ∈ wordsLen, w.before a s = true) : Len.tab.before a s = true := by
  have hc : Cdr.tab.before a s = true := unparts (wk h (.code Cdr.yN Cdr.yB 1 (some .byte))) (wks h (.initialized Cdr.yN.cls :: Cdr.site))
  have q := consq hc h
  exact unparts (wk q (.code Len.yN Len.yB 1 (some .int))) (wks q (.initialized Len.yN.cls :: Len.site))
theorem movedLen {Z s : State} {a0 args : Array Value} (hZ : Z.Warmed39 s.vm) (hw : ∀ d ∈ wordsLen, d.before a0 Z = true) : ∀ d ∈ wordsLen, d.before args s = true := fun d hd => by
  have q := hw d hd
  have t : ∀ d ∈ wordsLen, d = .arrayClass .byte ∨ (d.onTables && d.keepsFace) = true := by decide +kernel
  rcases t d hd with rfl | t
  · exact RoadKit.mvA hZ q
  · exact RoadKit.mv hZ q t
/-- the bytes of the chars cs, low before high -/
def wideBytes : List Int32 → List Value
  | [] => []
  | c :: cs => .int (lo8 c) :: .int (hi8 c) :: wideBytes cs
theorem wide_lo (d : Value) : ∀ (cs : List Int32) (j : Nat), j < cs.length → (wideBytes cs).getD (2 * j) d = .int (lo8 (cs.getD j 0))
  | [], j, h => absurd h (Nat.not_lt_zero j)
  | c :: cs, 0, _ => rfl
  | c :: cs, j + 1, h => by
    have q := wide_lo d cs j (by simpa using h)
    rw [show 2 * (j + 1) = 2 * j + 1 + 1 from by omega]
    simpa [wideBytes] using q
theorem wide_hi (d : Value) : ∀ (cs : List Int32) (j : Nat), j < cs.length → (wideBytes cs).getD (2 * j + 1) d = .int (hi8 (cs.getD j 0))
  | [], j, h => absurd h (Nat.not_lt_zero j)
  | c :: cs, 0, _ => rfl
  | c :: cs, j + 1, h => by
    have q := wide_hi d cs j (by simpa using h)
    rw [show 2 * (j + 1) + 1 = 2 * j + 1 + 1 + 1 from by omega]
    simpa [wideBytes] using q
theorem low_at (d : Value) (cs : List Int32) (j : Nat) (h : j < cs.length) : (cs.map fun c => Value.int (lo8 c)).getD j d = .int (lo8 (cs.getD j 0)) := by
  simp [List.getD_eq_getElem?_getD, h]
/-- an array of N2 bytes vs codes the chars cs by the coder cd -/
def CodA (cs : List Int32) (cd N2 : Int32) (vs : List Value) : Prop := (cd = 0 ∧ N2 = Int32.ofNat cs.length ∧ vs = (cs.map fun c => Value.int (lo8 c)) ∧ ∀ c ∈ cs, ¬ 255 < c) ∨ (cd = 1 ∧ N2 = Int32.ofNat (2 * cs.length) ∧ vs = wideBytes cs ∧ ∃ c ∈ cs, 255 < c)
theorem CodA.cod {cs : List Int32} {cd N2 : Int32} {vs : List Value} {V : Cell} (h : CodA cs cd N2 vs) (hn : 2 * cs.length < 2 ^ 31) (hs : V.slots.size = N2.toNatClampNeg) (hv : RoadKit.Has V vs (.int 0)) : Cod cd cs.length (fun j => cs.getD j 0) V := by
  rcases h with ⟨rfl, rfl, rfl, h⟩ | ⟨rfl, rfl, rfl, c, hc, hw⟩
  · rw [n32 (by omega)] at hs
    exact Or.inl ⟨rfl, hs, fun j hj => ⟨by rw [hv j (by omega), low_at _ _ _ hj], by
      have e : cs.getD j 0 = cs[j] := by simp [List.getD_eq_getElem?_getD, hj]
      show ¬ 255 < cs.getD j 0
      rw [e]; exact h _ (List.getElem_mem _)⟩⟩
  · rw [n32 (by omega)] at hs
    obtain ⟨j, hj, rfl⟩ := List.getElem_of_mem hc
    exact Or.inr ⟨rfl, hs, fun j hj => ⟨by rw [hv _ (by omega), wide_lo _ _ _ hj], by rw [hv _ (by omega), wide_hi _ _ _ hj]⟩, j, hj, by
      have e : cs.getD j 0 = cs[j] := by simp [List.getD_eq_getElem?_getD, hj]
      show 255 < cs.getD j 0
      rw [e]; exact hw⟩
/-- an object of exactly java/lang/String, its two fields found: as the laws ask it -/
theorem strObj {Z U : State} {a0 : Array Value} {kI : Nat} (wi : (Jvm.Cond.instantiable ST kI).before a0 Z = true) (al : Z.vm.Alike U.vm) {x : Addr} {v0 c0 : Value} (E : RoadKit.Exa Z U.heap x ST) (V : RoadKit.Fld Z U.heap x ST "value" "[B" v0) (C : RoadKit.Fld Z U.heap x ST "coder" "B" c0) :
    ∃ (D : Cell) (fV fC : Field), Blank ST x D U ∧ Found ST "value" "[B" fV U ∧ Found ST "coder" "B" fC U ∧ D.slots[fV.slot]? = some v0 ∧ D.slots[fC.slot]? = some c0 ∧ RoadKit.slotOf Z ST "value" "[B" = fV.slot ∧ RoadKit.slotOf Z ST "coder" "B" = fC.slot := by
  obtain ⟨D, cfV, kV, iV, fV, hD, gV, stV, knV, obV, asV, slV⟩ := V
  obtain ⟨D', cfC, kC, iC, fC, hD', gC, stC, -, -, asC, slC⟩ := C
  cases hD.symm.trans hD'
  obtain ⟨D2, kD, e1, e2, e3, e4, e5⟩ := E
  cases hD.symm.trans e1
  obtain ⟨c2, k2, i1, i2, i3, -⟩ := Cond.instantiable_spec wi
  cases e2.symm.trans i1
  cases e3.symm.trans i2
  obtain ⟨kU, u1, u2⟩ := al.2.2 _ _ e3
  exact ⟨D, fV, fC, ⟨hD, ⟨knV, fun q hq => by rw [hq] at obV; cases obV⟩, by rw [al.findClass]; exact e2, kU, u1, by rw [u2]; exact i3, by rw [u2]; exact e5 i3⟩, ⟨SBG.found_only al ⟨cfV, kV, iV, gV⟩, stV⟩, ⟨SBG.found_only al ⟨cfC, kC, iC, gC⟩, stC⟩, slV, slC, by simp [RoadKit.slotOf, gV], by simp [RoadKit.slotOf, gC]⟩
theorem sta_is {Z U : State} (al : Z.vm.Alike U.vm) {C n d : String} {v : Value} (S : RoadKit.Sta Z U.heap C n d v) : StaticIs U C n d v := by
  obtain ⟨cfS, iS, kS, fS, st, cS, t1, t2, t3, t4, t5, t6, t7⟩ := S
  exact StaticIs.there (s := { Z with heap := U.heap }) ⟨cfS, iS, kS, fS, st, cS, t1, t2, t3, t4, t5, (fun q => by rw [q] at t6; cases t6), t7⟩ al rfl
/-- **length() OF SUCH A STRING** -/
theorem lenW {p : Program} {l : Launch} {e : Env} {R : Room} {s : State} {args : Array Value} {below : List Frame} {len W : Nat} {Z : State} {a0 : Array Value} {h : Heap} (hZ : Z.Warmed39 s.vm) (hw : ∀ d ∈ wordsLen, d.before a0 Z = true) {kI : Nat} (wi : (Jvm.Cond.instantiable ST kI).before a0 Z = true)
    {x t : Addr} {kb : ClassId} {cs : List Int32} {cd N2 z : Int32} {vs : List Value} (E : RoadKit.Exa Z h x ST) (V : RoadKit.Fld Z h x ST "value" "[B" (.ref t)) (C : RoadKit.Fld Z h x ST "coder" "B" (.int cd)) (K : RoadKit.Arv Z h t kb .byte N2 vs (.int 0)) (hc : CodA cs cd N2 vs) (hb : ∀ c ∈ cs, ¬ c < 0 ∧ ¬ (65535 : Int32) < c)
    (S : RoadKit.Sta Z h ST "COMPACT_STRINGS" "Z" (.int z)) (hz : ¬ z = 0) (l2 : cs.length ≤ 4000) (hfr : 2 ≤ R.frames) (hlo : W + 25 ≤ R.locals) :
    Back l R p e below s args (⟨"java/lang/String", "length", "()I"⟩ : MethodName) len W (fun P a => a = #[.ref x] ∧ P.U.heap = h ∧ P.cells + 0 ≤ R.cells ∧ P.slots + 0 ≤ R.slots)
      (fun P _ v B => ∃ L, (v = some (.int (Int32.ofNat cs.length)) ∧ L = [] ∧ B.U.heap = h) ∧ B.locs = P.locs ++ L ∧ B.cells = P.cells + 0 ∧ B.slots = P.slots + 0) := by
  obtain ⟨A, K1, K2, K3, K4, K5, K6⟩ := K
  have hcod := hc.cod (by omega) K3 K5
  intro m meth c P g ig mk a X hg hsize hdg hW hn hp'
  obtain ⟨rfl, rfl, r1, r2⟩ := hp'
  have al : Z.vm.Alike P.U.vm := hZ.alike.trans X.warmed.alike
  obtain ⟨D, fV, fC, hB, F1, F2, g1, g2, -, -⟩ := strObj wi al E V C
  have hx : Txt x t A cd cs.length (fun j => cs.getD j 0) P.U := ⟨⟨_, hB.2.2.1, D, hB.1, rfl, by cases q : D.vm <;> first | rfl | exact absurd q (hB.2.1.2 _)⟩, Has.of hB F1 g1, Has.of hB F2 g2, ⟨K1.1, State.isArrayOf_alike al K1.2.1, K1.2.2, by rcases hcod with ⟨-, q, -⟩ | ⟨-, q, -⟩ <;> omega⟩, hcod, fun j hj => by
    have e : cs.getD j 0 = cs[j] := by simp [List.getD_eq_getElem?_getD, hj]
    show ¬ cs.getD j 0 < 0 ∧ ¬ 65535 < cs.getD j 0
    rw [e]; exact hb _ (List.getElem_mem _)⟩
  obtain ⟨v, B, X', ⟨⟨hv, hh⟩, hl, hk, hs⟩, st⟩ := Len.pays x t A cd cs.length (fun j => cs.getD j 0) z (tabLen_of (movedLen hZ hw)) hfr hlo m meth c P g ig mk _ X hg hsize hdg hW hn ⟨r1, r2, rfl, hx, sta_is al S, hz⟩
  exact ⟨v, B, X', ⟨[], ⟨hv, rfl, hh⟩, hl, hk, hs⟩, st⟩
end StrChars.Road
namespace StrChars
open Jvm Sem ClassFile Op Lib Jvm.Stand Jvm.Free.XT Jvm.Free.ALB Jvm.Free.JM Jvm.Free
open Jvm.Lib.Cold (StaticIs)
namespace Emp
def yN : MethodName := ⟨"java/lang/String", "isEmpty", "()Z"⟩
abbrev yB : ByteArray := jdk_42_method_55_code
theorem d0 : decode yB 0 = .ok (.aload_n 0, 1) := by decide +kernel
theorem d1 : decode yB 1 = .ok (.getfield 9, 3) := by decide +kernel
theorem d4 : decode yB 4 = .ok (.arraylength, 1) := by decide +kernel
theorem d5 : decode yB 5 = .ok (.ifCond (.ne) 7, 3) := by decide +kernel
theorem d8 : decode yB 8 = .ok (.iconst 1, 1) := by decide +kernel
theorem d9 : decode yB 9 = .ok (.goto 4, 3) := by decide +kernel
theorem d12 : decode yB 12 = .ok (.iconst 0, 1) := by decide +kernel
theorem d13 : decode yB 13 = .ok (.ireturn, 1) := by decide +kernel
def site : List Cond := [.fieldLink "java/lang/String" 9 "java/lang/String" "value" "[B"]
def tab : Cond := tabOf yN yB 1 (some .boolean) site
def P (x t : Addr) (V : Cell) (cd : Int32) (n : Nat) (f : Nat → Int32) (args : Array Value) (s : State) : Prop := args = #[.ref x] ∧ Txt x t V cd n f s
def E (n : Nat) (r : Option Value) (s u : State) : Prop := XT.PureE (some (.int (if n = 0 then 1 else 0))) r s u
/-- isEmpty() of a String of n chars -/
theorem law (l : Launch) (x t : Addr) (V : Cell) (cd : Int32) (n : Nat) (f : Nat → Int32) : Law l yN 1 0 0 0 yB 1 (some .boolean) site (P x t V cd n f) (E n) [] 0 0 := by
  refine Law.of_walk (plainFor_of_name (by decide +kernel)) (by decide +kernel) (by decide +kernel) (by decide) (fun _ _ h => by rw [h.1]; rfl) (fun _ U U' hal hh h => ⟨h.1, h.2.mv hal hh⟩) (fun r U U' V V' h1 hal h2 h => XT.PureE.mv r U U' V V' h1 hal h2 h) ?_
  intro p e s m args below meth c s₁ X0 hexec hbytes hml hret hlk hnm hown hh0 W hP
  obtain ⟨rfl, hx⟩ := hP
  have v31 := hx.2.2.2.1.2.2.2
  have c1 : Steps p.tables e below (s₁.setTop (entryFrame m #[.ref x] 1)) (s₁.setTop (mkF m 1 #[.val (.ref x)] [.ref x])) := Steps.trans (entry rfl) (by
    show Steps p.tables e below (s₁.setTop (mkF m 0 #[.val (.ref x)] [])) _
    refine XS.aloadN X0.here hexec rfl (hb hbytes d0) rfl rfl ?_
    exact Steps.refl _)
  obtain ⟨T2, X2, q2, st2⟩ := X0.hget hexec hown (wk W (.fieldLink "java/lang/String" 9 "java/lang/String" "value" "[B")) (hx.mv X0.warmed.alike hh0).2.1 (g := (mkF m 1 #[.val (.ref x)] [.ref x])) rfl (rest := []) rfl (hb hbytes d1)
  have hh2 := q2.trans hh0
  have hx2 := hx.mv X2.warmed.alike hh2
  have c3 : Steps p.tables e below (s₁.setTop (entryFrame m #[.ref x] 1)) (T2.setTop (mkF m 5 #[.val (.ref x)] [.int (Int32.ofNat V.slots.size)])) := (c1.trans (st2 _ (Steps.refl _))).trans (by
    refine X2.alen hexec hx2.2.2.2.1 rfl rfl (hb hbytes d4) ?_
    exact Steps.refl _)
  have hz : V.slots.size = 0 ↔ n = 0 := by
    rcases hx.2.2.2.2.1 with ⟨-, q, -⟩ | ⟨-, q, -⟩ <;> omega
  by_cases h0 : n = 0
  · have c4 : Steps p.tables e below (s₁.setTop (entryFrame m #[.ref x] 1)) (T2.setTop (mkF m 13 #[.val (.ref x)] [.int 1])) := c3.trans (by
      refine XS.ifNo X2.here hexec rfl (hb hbytes d5) rfl (i0_ne_f (by rw [hz.mpr h0]; rfl)) ?_
      refine iconstV X2.here hexec rfl 1 (hb hbytes d8) (by decide) ?_
      refine XS.goto X2.here hexec rfl (pc0 := 9) rfl (hb hbytes d9) (by decide) rfl ?_
      exact Steps.refl _)
    exact ⟨T2, some (.int 1), _, _, _, X2, rfl, rfl, rfl, (fun h => by cases h), ⟨by rw [if_pos h0], hh2⟩, fun fs hl => c4.trans (X2.ireturnOut hexec hret rfl (Or.inr (Or.inl rfl)) (hb hbytes d13) hl)⟩
  · have c4 : Steps p.tables e below (s₁.setTop (entryFrame m #[.ref x] 1)) (T2.setTop (mkF m 13 #[.val (.ref x)] [.int 0])) := c3.trans (by
      refine XS.ifYes X2.here hexec rfl (pc0 := 5) rfl (hb hbytes d5) rfl (i0_ne_t (nz32 v31 (by omega))) (by decide) rfl ?_
      refine iconstV X2.here hexec rfl 0 (hb hbytes d12) (by decide) ?_
      exact Steps.refl _)
    exact ⟨T2, some (.int 0), _, _, _, X2, rfl, rfl, rfl, (fun h => by cases h), ⟨by rw [if_neg h0], hh2⟩, fun fs hl => c4.trans (X2.ireturnOut hexec hret rfl (Or.inr (Or.inl rfl)) (hb hbytes d13) hl)⟩
theorem pays {l : Launch} {R : Room} {p : Program} {e : Env} {below : List Frame} {s : State} {sargs : Array Value} {len W : Nat} (x t : Addr) (V : Cell) (cd : Int32) (n : Nat) (f : Nat → Int32) (htab : tab.before sargs s = true) (hfr : 1 ≤ R.frames) (hlo : W + 12 ≤ R.locals) :
    Back l R p e below s sargs yN len W (fun A₁ a₁ => A₁.cells + 0 ≤ R.cells ∧ A₁.slots + 0 ≤ R.slots ∧ P x t V cd n f a₁ A₁.U) (fun A₁ _ v₁ B₁ => E n v₁ A₁.U B₁.U ∧ B₁.locs = A₁.locs ++ [] ∧ B₁.cells = A₁.cells + 0 ∧ B₁.slots = A₁.slots + 0) :=
  (law l x t V cd n f).pays htab hfr (by omega)
end Emp
/-- what place i of a byte[]'s cell holds -/
def yv (A : Cell) (i : Nat) : Int32 := match A.slots[i]? with | some (.int x) => x | _ => 0
theorem yv_get {a : Addr} {A : Cell} {U : State} (h : XT.Arr .byte a A U) (ht : Typed .byte A) {i : Nat} (hi : i < A.slots.size) : A.slots[i]? = some (.int (yv A i)) := by
  have e := Array.getElem?_eq_getElem hi
  have f := ht i _ e
  unfold yv; rw [e]
  generalize A.slots[i] = v at f
  cases v <;> simp [fits] at f ⊢
/-- the two arrays are equal, place for place -/
def EqC (A B : Cell) : Prop := A.slots.size = B.slots.size ∧ ∀ i, i < A.slots.size → yv A i = yv B i
/-- a boolean that says whether p -/
def Says01 (q : Prop) (r : Option Value) (s u : State) : Prop := ∃ v : Int32, r = some (.int v) ∧ u.heap = s.heap ∧ ((v = 1 ∧ q) ∨ (v = 0 ∧ ¬ q))
theorem Says01.mv {q : Prop} : ∀ r (U U' V V' : State), U'.heap = U.heap → V.vm.Alike V'.vm → V'.heap = V.heap → Says01 q r U V → Says01 q r U' V' :=
  fun r U U' V V' h1 _ h2 ⟨v, a, b, c⟩ => ⟨v, a, by rw [h1, h2]; exact b, c⟩
namespace LEq
def yN : MethodName := ⟨"java/lang/StringLatin1", "equals", "([B[B)Z"⟩
abbrev yB : ByteArray := jdk_43_method_13_code
theorem d0 : decode yB 0 = .ok (.aload_n 0, 1) := by decide +kernel
theorem d1 : decode yB 1 = .ok (.arraylength, 1) := by decide +kernel
theorem d2 : decode yB 2 = .ok (.aload_n 1, 1) := by decide +kernel
theorem d3 : decode yB 3 = .ok (.arraylength, 1) := by decide +kernel
theorem d4 : decode yB 4 = .ok (.if_icmp (.ne) 30, 3) := by decide +kernel
theorem d7 : decode yB 7 = .ok (.iconst 0, 1) := by decide +kernel
theorem d8 : decode yB 8 = .ok (.istore_n 2, 1) := by decide +kernel
theorem d9 : decode yB 9 = .ok (.iload_n 2, 1) := by decide +kernel
theorem d10 : decode yB 10 = .ok (.aload_n 0, 1) := by decide +kernel
theorem d11 : decode yB 11 = .ok (.arraylength, 1) := by decide +kernel
theorem d12 : decode yB 12 = .ok (.if_icmp (.ge) 20, 3) := by decide +kernel
theorem d15 : decode yB 15 = .ok (.aload_n 0, 1) := by decide +kernel
theorem d16 : decode yB 16 = .ok (.iload_n 2, 1) := by decide +kernel
theorem d17 : decode yB 17 = .ok (.baload, 1) := by decide +kernel
theorem d18 : decode yB 18 = .ok (.aload_n 1, 1) := by decide +kernel
theorem d19 : decode yB 19 = .ok (.iload_n 2, 1) := by decide +kernel
theorem d20 : decode yB 20 = .ok (.baload, 1) := by decide +kernel
theorem d21 : decode yB 21 = .ok (.if_icmp (.eq) 5, 3) := by decide +kernel
theorem d24 : decode yB 24 = .ok (.iconst 0, 1) := by decide +kernel
theorem d25 : decode yB 25 = .ok (.ireturn, 1) := by decide +kernel
theorem d26 : decode yB 26 = .ok (.iinc 2 1, 3) := by decide +kernel
theorem d29 : decode yB 29 = .ok (.goto (-20), 3) := by decide +kernel
theorem d32 : decode yB 32 = .ok (.iconst 1, 1) := by decide +kernel
theorem d33 : decode yB 33 = .ok (.ireturn, 1) := by decide +kernel
theorem d34 : decode yB 34 = .ok (.iconst 0, 1) := by decide +kernel
theorem d35 : decode yB 35 = .ok (.ireturn, 1) := by decide +kernel
def site : List Cond := []
def tab : Cond := tabOf yN yB 3 (some .boolean) site
def P (a : Addr) (A : Cell) (b : Addr) (B : Cell) (args : Array Value) (s : State) : Prop := args = #[.ref a, .ref b] ∧ XT.Arr .byte a A s ∧ Typed .byte A ∧ XT.Arr .byte b B s ∧ Typed .byte B
/-- whether two byte[] are equal, place for place -/
theorem law (l : Launch) (a : Addr) (A : Cell) (b : Addr) (B : Cell) : Law l yN 2 2 0 0 yB 3 (some .boolean) site (P a A b B) (Says01 (EqC A B)) [] 0 0 := by
  refine Law.of_walk (plainFor_of_name (by decide +kernel)) (by decide +kernel) (by decide +kernel) (by decide) (fun _ _ h => by rw [h.1]; rfl) (fun _ U U' hal hh h => ⟨h.1, h.2.1.mv hal hh, h.2.2.1, h.2.2.2.1.mv hal hh, h.2.2.2.2⟩) (fun r U U' V V' h1 hal h2 h => Says01.mv r U U' V V' h1 hal h2 h) ?_
  intro p e s m args below meth c s₁ X0 hexec hbytes hml hret hlk hnm hown hh0 W hP
  obtain ⟨rfl, hA, tA, hB, tB⟩ := hP
  have a31 := hA.2.2.2
  have b31 := hB.2.2.2
  have hA0 := hA.mv X0.warmed.alike hh0
  have hB0 := hB.mv X0.warmed.alike hh0
  have c1 : Steps p.tables e below (s₁.setTop (entryFrame m #[.ref a, .ref b] 3)) (s₁.setTop (mkF m 0 #[.val (.ref a), .val (.ref b), .unset] [])) := entry rfl
  have c2 : Steps p.tables e below (s₁.setTop (entryFrame m #[.ref a, .ref b] 3)) (s₁.setTop (mkF m 4 #[.val (.ref a), .val (.ref b), .unset] [.int (Int32.ofNat B.slots.size), .int (Int32.ofNat A.slots.size)])) := c1.trans (by
    refine XS.aloadN X0.here hexec rfl (hb hbytes d0) rfl rfl ?_
    refine X0.alen hexec hA0 rfl rfl (hb hbytes d1) ?_
    refine XS.aloadN X0.here hexec rfl (hb hbytes d2) rfl rfl ?_
    refine X0.alen hexec hB0 rfl rfl (hb hbytes d3) ?_
    exact Steps.refl _)
  by_cases hs : A.slots.size = B.slots.size
  · have c3 : Steps p.tables e below (s₁.setTop (entryFrame m #[.ref a, .ref b] 3)) (s₁.setTop (mkF m 9 #[.val (.ref a), .val (.ref b), .val (.int 0)] [])) := c2.trans (by
      refine XS.icmpNo X0.here hexec rfl (hb hbytes d4) rfl (ii_ne_f (by rw [hs])) ?_
      refine iconstV X0.here hexec rfl 0 (hb hbytes d7) (by decide) ?_
      refine XS.istoreN X0.here hexec rfl (hb hbytes d8) rfl rfl ?_
      exact Steps.refl _)
    have loop : ∀ (r i : Nat), i + r = A.slots.size → (∀ j, j < i → yv A j = yv B j) → Steps p.tables e below (s₁.setTop (entryFrame m #[.ref a, .ref b] 3)) (s₁.setTop (mkF m 9 #[.val (.ref a), .val (.ref b), .val (.int (Int32.ofNat i))] [])) → ∃ (pc : Nat) (Ls : Array Slot) (v : Int32), (pc = 25 ∨ pc = 33) ∧ ((v = 1 ∧ EqC A B) ∨ (v = 0 ∧ ¬ EqC A B)) ∧ Steps p.tables e below (s₁.setTop (entryFrame m #[.ref a, .ref b] 3)) (s₁.setTop (mkF m pc Ls [.int v])) := by
      intro r
      induction r with
      | zero =>
        intro i hi he cl
        exact ⟨33, _, 1, Or.inr rfl, Or.inl ⟨rfl, hs, fun j hj => he j (by omega)⟩, cl.trans (by
          refine XS.iloadN X0.here hexec rfl (hb hbytes d9) rfl ?_
          refine XS.aloadN X0.here hexec rfl (hb hbytes d10) rfl rfl ?_
          refine X0.alen hexec hA0 rfl rfl (hb hbytes d11) ?_
          refine XS.icmpYes X0.here hexec rfl (pc0 := 12) rfl (hb hbytes d12) rfl (ii_ge_t (nlt32 (by omega) (by omega))) (by decide) rfl ?_
          refine iconstV X0.here hexec rfl 1 (hb hbytes d32) (by decide) ?_
          exact Steps.refl _)⟩
      | succ r ih =>
        intro i hi he cl
        have c4 : Steps p.tables e below (s₁.setTop (entryFrame m #[.ref a, .ref b] 3)) (s₁.setTop (mkF m 21 #[.val (.ref a), .val (.ref b), .val (.int (Int32.ofNat i))] [.int (yv B i), .int (yv A i)])) := cl.trans (by
          refine XS.iloadN X0.here hexec rfl (hb hbytes d9) rfl ?_
          refine XS.aloadN X0.here hexec rfl (hb hbytes d10) rfl rfl ?_
          refine X0.alen hexec hA0 rfl rfl (hb hbytes d11) ?_
          refine XS.icmpNo X0.here hexec rfl (hb hbytes d12) rfl (ii_ge_f (lt32 (by omega) (by omega))) ?_
          refine XS.aloadN X0.here hexec rfl (hb hbytes d15) rfl rfl ?_
          refine XS.iloadN X0.here hexec rfl (hb hbytes d16) rfl ?_
          refine X0.aget hexec hA0 rfl (yv_get hA tA (i := i) (by omega)) rfl rfl (hb hbytes d17) ?_
          refine XS.aloadN X0.here hexec rfl (hb hbytes d18) rfl rfl ?_
          refine XS.iloadN X0.here hexec rfl (hb hbytes d19) rfl ?_
          refine X0.aget hexec hB0 rfl (yv_get hB tB (i := i) (by omega)) rfl rfl (hb hbytes d20) ?_
          exact Steps.refl _)
        by_cases hv : yv A i = yv B i
        · have c5 : Steps p.tables e below (s₁.setTop (entryFrame m #[.ref a, .ref b] 3)) (s₁.setTop (mkF m 9 #[.val (.ref a), .val (.ref b), .val (.int (Int32.ofNat i + 1))] [])) := c4.trans (by
            refine XS.icmpYes X0.here hexec rfl (pc0 := 21) rfl (hb hbytes d21) rfl (ii_eq_t hv) (by decide) rfl ?_
            refine iincV X0.here hexec rfl 1 (hb hbytes d26) (by decide) rfl rfl ?_
            refine XS.goto X0.here hexec rfl (pc0 := 29) rfl (hb hbytes d29) (by decide) rfl ?_
            exact Steps.refl _)
          rw [succ32] at c5
          exact ih (i + 1) (by omega) (fun j hj => by
            by_cases e : j = i
            · rw [e]; exact hv
            · exact he j (by omega)) c5
        · exact ⟨25, _, 0, Or.inl rfl, Or.inr ⟨rfl, fun q => hv (q.2 i (by omega))⟩, c4.trans (by
            refine XS.icmpNo X0.here hexec rfl (hb hbytes d21) rfl (ii_eq_f hv) ?_
            refine iconstV X0.here hexec rfl 0 (hb hbytes d24) (by decide) ?_
            exact Steps.refl _)⟩
    obtain ⟨pc, Ls, v, hpc, hv, cz⟩ := loop A.slots.size 0 (by omega) (fun j hj => absurd hj (Nat.not_lt_zero j)) c3
    have nv : narrow .boolean (.int v) = .int v := by rcases hv with ⟨rfl, -⟩ | ⟨rfl, -⟩ <;> rfl
    rcases hpc with rfl | rfl
    · exact ⟨s₁, some (.int v), _, _, _, X0, rfl, rfl, rfl, (fun h => by cases h), ⟨v, rfl, hh0, hv⟩, fun fs hl => cz.trans (X0.ireturnOut hexec hret nv (Or.inr (Or.inl rfl)) (hb hbytes d25) hl)⟩
    · exact ⟨s₁, some (.int v), _, _, _, X0, rfl, rfl, rfl, (fun h => by cases h), ⟨v, rfl, hh0, hv⟩, fun fs hl => cz.trans (X0.ireturnOut hexec hret nv (Or.inr (Or.inl rfl)) (hb hbytes d33) hl)⟩
  · have c3 : Steps p.tables e below (s₁.setTop (entryFrame m #[.ref a, .ref b] 3)) (s₁.setTop (mkF m 35 #[.val (.ref a), .val (.ref b), .unset] [.int 0])) := c2.trans (by
      refine XS.icmpYes X0.here hexec rfl (pc0 := 4) rfl (hb hbytes d4) rfl (ii_ne_t (ne32 a31 b31 hs)) (by decide) rfl ?_
      refine iconstV X0.here hexec rfl 0 (hb hbytes d34) (by decide) ?_
      exact Steps.refl _)
    exact ⟨s₁, some (.int 0), _, _, _, X0, rfl, rfl, rfl, (fun h => by cases h), ⟨0, rfl, hh0, Or.inr ⟨rfl, fun q => hs q.1⟩⟩, fun fs hl => c3.trans (X0.ireturnOut hexec hret rfl (Or.inr (Or.inl rfl)) (hb hbytes d35) hl)⟩
end LEq
theorem Cod.ty {cd : Int32} {n : Nat} {f : Nat → Int32} {V : Cell} (h : Cod cd n f V) : Typed .byte V := fun i v hv => by
  have hi : i < V.slots.size := (Array.getElem?_eq_some_iff.mp hv).1
  rcases h with ⟨-, k1, k2⟩ | ⟨-, k1, k2, -⟩
  · rw [(k2 i (by omega)).1] at hv; cases hv; exact fits_lo8 _
  · rcases Nat.mod_two_eq_zero_or_one i with e | e
    · obtain ⟨j, rfl⟩ : ∃ j, i = 2 * j := ⟨i / 2, by omega⟩
      rw [(k2 j (by omega)).1] at hv; cases hv; exact fits_lo8 _
    · obtain ⟨j, rfl⟩ : ∃ j, i = 2 * j + 1 := ⟨i / 2, by omega⟩
      rw [(k2 j (by omega)).2] at hv; cases hv; exact fits_lo8 _
/-- the same text -/
def SameT (n : Nat) (f : Nat → Int32) (k : Nat) (g : Nat → Int32) : Prop := n = k ∧ ∀ j, j < n → f j = g j
theorem lo8_inj {x y : Int32} (h0 : ¬ x < 0) (h1 : ¬ 255 < x) (k0 : ¬ y < 0) (k1 : ¬ 255 < y) (h : lo8 x = lo8 y) : x = y := by
  rw [← lo8_mask h0 h1, ← lo8_mask k0 k1, h]
/-- arrays coded by one coder are equal just where the texts are -/
theorem Cod.eqv {cd : Int32} {n k : Nat} {f g : Nat → Int32} {V V' : Cell} (h : Cod cd n f V) (h' : Cod cd k g V') (hf : ∀ j, j < n → ¬ f j < 0 ∧ ¬ 65535 < f j) (hg : ∀ j, j < k → ¬ g j < 0 ∧ ¬ 65535 < g j) : EqC V V' ↔ SameT n f k g := by
  have yvv : ∀ {W : Cell} {i : Nat} {x : Int32}, W.slots[i]? = some (.int x) → yv W i = x := fun q => by unfold yv; rw [q]
  rcases h with ⟨rfl, k1, k2⟩ | ⟨rfl, k1, k2, -⟩
  · rcases h' with ⟨-, m1, m2⟩ | ⟨e, -⟩
    · constructor
      · rintro ⟨e1, e2⟩
        refine ⟨by omega, fun j hj => ?_⟩
        have q := e2 j (by omega)
        rw [yvv (k2 j hj).1, yvv (m2 j (by omega)).1] at q
        exact lo8_inj (hf j hj).1 (k2 j hj).2 (hg j (by omega)).1 (m2 j (by omega)).2 q
      · rintro ⟨rfl, e2⟩
        refine ⟨by omega, fun j hj => ?_⟩
        rw [yvv (k2 j (by omega)).1, yvv (m2 j (by omega)).1, e2 j (by omega)]
    · exact absurd e (by decide)
  · rcases h' with ⟨e, -⟩ | ⟨-, m1, m2, -⟩
    · exact absurd e (by decide)
    · constructor
      · rintro ⟨e1, e2⟩
        refine ⟨by omega, fun j hj => ?_⟩
        have q1 := e2 (2 * j) (by omega)
        have q2 := e2 (2 * j + 1) (by omega)
        rw [yvv (k2 j hj).1, yvv (m2 j (by omega)).1] at q1
        rw [yvv (k2 j hj).2, yvv (m2 j (by omega)).2] at q2
        rw [← pair_says (hf j hj).1 (hf j hj).2, ← pair_says (hg j (by omega)).1 (hg j (by omega)).2, q1, q2]
      · rintro ⟨rfl, e2⟩
        refine ⟨by omega, fun i hi => ?_⟩
        rcases Nat.mod_two_eq_zero_or_one i with e | e
        · obtain ⟨j, rfl⟩ : ∃ j, i = 2 * j := ⟨i / 2, by omega⟩
          rw [yvv (k2 j (by omega)).1, yvv (m2 j (by omega)).1, e2 j (by omega)]
        · obtain ⟨j, rfl⟩ : ∃ j, i = 2 * j + 1 := ⟨i / 2, by omega⟩
          rw [yvv (k2 j (by omega)).2, yvv (m2 j (by omega)).2, e2 j (by omega)]
/-- two codings differ: so do the texts -/
theorem Cod.dif {cd cd' : Int32} {n k : Nat} {f g : Nat → Int32} {V V' : Cell} (h : Cod cd n f V) (h' : Cod cd' k g V') (hne : ¬ cd = cd') : ¬ SameT n f k g := by
  rintro ⟨rfl, e⟩
  rcases h with ⟨rfl, -, k2⟩ | ⟨rfl, -, -, j, hj, hw⟩
  · rcases h' with ⟨rfl, -⟩ | ⟨-, -, -, j, hj, hw⟩
    · exact hne rfl
    · exact (k2 j hj).2 (by rw [e j hj]; exact hw)
  · rcases h' with ⟨-, -, m2⟩ | ⟨rfl, -⟩
    · exact (m2 j hj).2 (by rw [← e j hj]; exact hw)
    · exact hne rfl
/-- an object of exactly C is an instance of C -/
theorem cinst {p : Program} {l : Launch} {e : Env} {R : Room} {s : State} {m : MethodId} {args : Array Value} {below : List Frame} {meth : Method} {c : Code} {T : State} {locs : List Loc} {cells slots : Nat} (X : Stand p l e R s m args below meth c T locs cells slots) (hexec : p.tables.exec = Jvm.exec) {own C : String} {index : Nat} (hown : s.vm.findClass own = some m.cls) (hlink : (Cond.classLink own index C).before args s = true) {a : Addr} (hE : Exact C a T)
    {g : JFrame} (hg : g.method = m) {rest : List Value} (hstack : g.stack = .ref a :: rest) (hdg : decode c.code g.pc = .ok (.instanceof index, 3)) :
    ∃ T', Stand p l e R s m args below meth c T' locs cells slots ∧ T'.heap = T.heap ∧ ∀ target, Steps p.tables e below (T'.setTop { g with pc := g.pc + 3, stack := .int 1 :: rest }) target → Steps p.tables e below (T.setTop g) target := by
  obtain ⟨cB, h1, D, h2, h3, h4⟩ := hE
  have h1' : s.vm.findClass C = some cB := by rw [← X.warmed.alike.findClass]; exact h1
  obtain ⟨vm', X', st⟩ := X.instanceofYes hexec hown hlink h2 h4 h1' (by rw [h3]; exact Jvm.Free.SB.assignable_self _ _) hg hstack hdg
  exact ⟨_, X', rfl, st⟩
theorem cself {p : Program} {l : Launch} {e : Env} {R : Room} {s : State} {m : MethodId} {args : Array Value} {below : List Frame} {meth : Method} {c : Code} {T : State} {locs : List Loc} {cells slots : Nat} (X : Stand p l e R s m args below meth c T locs cells slots) (hexec : p.tables.exec = Jvm.exec) {own C : String} {index : Nat} (hown : s.vm.findClass own = some m.cls) (hlink : (Cond.classLink own index C).before args s = true) {a : Addr} (hE : Exact C a T)
    {g : JFrame} (hg : g.method = m) {rest : List Value} (hstack : g.stack = .ref a :: rest) (hdg : decode c.code g.pc = .ok (.checkcast index, 3)) :
    ∃ T', Stand p l e R s m args below meth c T' locs cells slots ∧ T'.heap = T.heap ∧ ∀ target, Steps p.tables e below (T'.setTop { g with pc := g.pc + 3, stack := .ref a :: rest }) target → Steps p.tables e below (T.setTop g) target := by
  obtain ⟨cB, h1, D, h2, h3, h4⟩ := hE
  have h1' : s.vm.findClass C = some cB := by rw [← X.warmed.alike.findClass]; exact h1
  obtain ⟨vm', X', st⟩ := X.checkcastYes hexec hown hlink h2 h4 h1' (by rw [h3]; exact Jvm.Free.SB.assignable_self _ _) hg hstack hdg
  exact ⟨_, X', rfl, fun t h => st t (by rw [← hstack] at h; exact h)⟩
namespace SEq
def yN : MethodName := ⟨"java/lang/String", "equals", "(Ljava/lang/Object;)Z"⟩
abbrev yB : ByteArray := jdk_42_method_66_code
theorem d0 : decode yB 0 = .ok (.aload_n 0, 1) := by decide +kernel
theorem d1 : decode yB 1 = .ok (.aload_n 1, 1) := by decide +kernel
theorem d2 : decode yB 2 = .ok (.if_acmp (.ne) 5, 3) := by decide +kernel
theorem d5 : decode yB 5 = .ok (.iconst 1, 1) := by decide +kernel
theorem d6 : decode yB 6 = .ok (.ireturn, 1) := by decide +kernel
theorem d7 : decode yB 7 = .ok (.aload_n 1, 1) := by decide +kernel
theorem d8 : decode yB 8 = .ok (.instanceof 10, 3) := by decide +kernel
theorem d11 : decode yB 11 = .ok (.ifCond (.eq) 43, 3) := by decide +kernel
theorem d14 : decode yB 14 = .ok (.aload_n 1, 1) := by decide +kernel
theorem d15 : decode yB 15 = .ok (.checkcast 10, 3) := by decide +kernel
theorem d18 : decode yB 18 = .ok (.astore_n 2, 1) := by decide +kernel
theorem d19 : decode yB 19 = .ok (.getstatic 38, 3) := by decide +kernel
theorem d22 : decode yB 22 = .ok (.ifCond (.eq) 14, 3) := by decide +kernel
theorem d25 : decode yB 25 = .ok (.aload_n 0, 1) := by decide +kernel
theorem d26 : decode yB 26 = .ok (.getfield 15, 3) := by decide +kernel
theorem d29 : decode yB 29 = .ok (.aload_n 2, 1) := by decide +kernel
theorem d30 : decode yB 30 = .ok (.getfield 15, 3) := by decide +kernel
theorem d33 : decode yB 33 = .ok (.if_icmp (.ne) 21, 3) := by decide +kernel
theorem d36 : decode yB 36 = .ok (.aload_n 0, 1) := by decide +kernel
theorem d37 : decode yB 37 = .ok (.getfield 9, 3) := by decide +kernel
theorem d40 : decode yB 40 = .ok (.aload_n 2, 1) := by decide +kernel
theorem d41 : decode yB 41 = .ok (.getfield 9, 3) := by decide +kernel
theorem d44 : decode yB 44 = .ok (.invokestatic 541, 3) := by decide +kernel
theorem d47 : decode yB 47 = .ok (.ifCond (.eq) 7, 3) := by decide +kernel
theorem d50 : decode yB 50 = .ok (.iconst 1, 1) := by decide +kernel
theorem d51 : decode yB 51 = .ok (.goto 4, 3) := by decide +kernel
theorem d54 : decode yB 54 = .ok (.iconst 0, 1) := by decide +kernel
theorem d55 : decode yB 55 = .ok (.ireturn, 1) := by decide +kernel
def site : List Cond := [.classLink "java/lang/String" 10 "java/lang/String", .fieldLink "java/lang/String" 38 "java/lang/String" "COMPACT_STRINGS" "Z", .fieldLink "java/lang/String" 15 "java/lang/String" "coder" "B", .fieldLink "java/lang/String" 9 "java/lang/String" "value" "[B", LEq.tab] ++ staticW "java/lang/String" 541 LEq.yN
def tab : Cond := tabOf yN yB 3 (some .boolean) site
def P (x t : Addr) (V : Cell) (cd : Int32) (n : Nat) (f : Nat → Int32) (y t' : Addr) (V' : Cell) (cd' : Int32) (k : Nat) (g : Nat → Int32) (z : Int32) (args : Array Value) (s : State) : Prop := args = #[.ref x, .ref y] ∧ Txt x t V cd n f s ∧ Txt y t' V' cd' k g s ∧ StaticIs s "java/lang/String" "COMPACT_STRINGS" "Z" (.int z) ∧ ¬ z = 0
/-- equals(Object) of two Strings: whether the texts are the same -/
theorem law (l : Launch) (x t : Addr) (V : Cell) (cd : Int32) (n : Nat) (f : Nat → Int32) (y t' : Addr) (V' : Cell) (cd' : Int32) (k : Nat) (g : Nat → Int32) (z : Int32) : Law l yN 2 1 1 14 yB 3 (some .boolean) site (P x t V cd n f y t' V' cd' k g z) (Says01 (SameT n f k g)) [] 0 0 := by
  refine Law.of_walk (plainFor_of_name (by decide +kernel)) (by decide +kernel) (by decide +kernel) (by decide) (fun _ _ h => by rw [h.1]; rfl) (fun _ U U' hal hh h => ⟨h.1, h.2.1.mv hal hh, h.2.2.1.mv hal hh, h.2.2.2.1.there hal hh, h.2.2.2.2⟩) (fun r U U' V V' h1 hal h2 h => Says01.mv r U U' V V' h1 hal h2 h) ?_
  intro p e s m args below meth c s₁ X0 hexec hbytes hml hret hlk hnm hown hh0 W hP
  obtain ⟨rfl, hx, hy, s1, hz⟩ := hP
  have c1 : Steps p.tables e below (s₁.setTop (entryFrame m #[.ref x, .ref y] 3)) (s₁.setTop (mkF m 2 #[.val (.ref x), .val (.ref y), .unset] [.ref y, .ref x])) := Steps.trans (entry rfl) (by
    show Steps p.tables e below (s₁.setTop (mkF m 0 #[.val (.ref x), .val (.ref y), .unset] [])) _
    refine XS.aloadN X0.here hexec rfl (hb hbytes d0) rfl rfl ?_
    refine XS.aloadN X0.here hexec rfl (hb hbytes d1) rfl rfl ?_
    exact Steps.refl _)
  by_cases hxy : x = y
  · have c2 : Steps p.tables e below (s₁.setTop (entryFrame m #[.ref x, .ref y] 3)) (s₁.setTop (mkF m 6 #[.val (.ref x), .val (.ref y), .unset] [.int 1])) := c1.trans (by
      refine acmpNo X0.here hexec rfl (hb hbytes d2) rfl rfl rfl (by simp [acmp, hxy]) ?_
      refine iconstV X0.here hexec rfl 1 (hb hbytes d5) (by decide) ?_
      exact Steps.refl _)
    subst hxy
    have ec : cd = cd' := by
      obtain ⟨D, fd, a1, a2, a3⟩ := hx.2.2.1
      obtain ⟨D', fd', b1, b2, b3⟩ := hy.2.2.1
      cases a1.symm.trans b1
      obtain ⟨q1, q2, q3, q4⟩ := a2.1
      obtain ⟨r1, r2, r3, r4⟩ := b2.1
      cases q4.symm.trans r4
      cases a3.symm.trans b3; rfl
    have et : t = t' := by
      obtain ⟨D, fd, a1, a2, a3⟩ := hx.2.1
      obtain ⟨D', fd', b1, b2, b3⟩ := hy.2.1
      cases a1.symm.trans b1
      obtain ⟨q1, q2, q3, q4⟩ := a2.1
      obtain ⟨r1, r2, r3, r4⟩ := b2.1
      cases q4.symm.trans r4
      cases a3.symm.trans b3; rfl
    subst ec et
    have ev : V = V' := by cases hx.2.2.2.1.1.symm.trans hy.2.2.2.1.1; rfl
    subst ev
    have hs : SameT n f k g := (Cod.eqv hx.2.2.2.2.1 hy.2.2.2.2.1 hx.2.2.2.2.2 hy.2.2.2.2.2).mp ⟨rfl, fun _ _ => rfl⟩
    exact ⟨s₁, some (.int 1), _, _, _, X0, rfl, rfl, rfl, (fun h => by cases h), ⟨1, rfl, hh0, Or.inl ⟨rfl, hs⟩⟩, fun fs hl => c2.trans (X0.ireturnOut hexec hret rfl (Or.inr (Or.inl rfl)) (hb hbytes d6) hl)⟩
  · have c2 : Steps p.tables e below (s₁.setTop (entryFrame m #[.ref x, .ref y] 3)) (s₁.setTop (mkF m 8 #[.val (.ref x), .val (.ref y), .unset] [.ref y])) := c1.trans (by
      refine acmpYes X0.here hexec rfl (pc0 := 2) rfl (hb hbytes d2) rfl rfl rfl (by simp [acmp, hxy]) (by decide) rfl ?_
      refine XS.aloadN X0.here hexec rfl (hb hbytes d7) rfl rfl ?_
      exact Steps.refl _)
    obtain ⟨T3, X3, q3, st3⟩ := cinst X0 hexec hown (wk W (.classLink "java/lang/String" 10 "java/lang/String")) (hy.mv X0.warmed.alike hh0).1 (g := (mkF m 8 #[.val (.ref x), .val (.ref y), .unset] [.ref y])) rfl (rest := []) rfl (hb hbytes d8)
    have hh3 := q3.trans hh0
    have c4 : Steps p.tables e below (s₁.setTop (entryFrame m #[.ref x, .ref y] 3)) (T3.setTop (mkF m 15 #[.val (.ref x), .val (.ref y), .unset] [.ref y])) := (c2.trans (st3 _ (Steps.refl _))).trans (by
      refine XS.ifNo X3.here hexec rfl (hb hbytes d11) rfl (i0_eq_f (by decide)) ?_
      refine XS.aloadN X3.here hexec rfl (hb hbytes d14) rfl rfl ?_
      exact Steps.refl _)
    obtain ⟨T5, X5, q5, st5⟩ := cself X3 hexec hown (wk W (.classLink "java/lang/String" 10 "java/lang/String")) (hy.mv X3.warmed.alike hh3).1 (g := (mkF m 15 #[.val (.ref x), .val (.ref y), .unset] [.ref y])) rfl (rest := []) rfl (hb hbytes d15)
    have hh5 := q5.trans hh3
    have c6 : Steps p.tables e below (s₁.setTop (entryFrame m #[.ref x, .ref y] 3)) (T5.setTop (mkF m 19 #[.val (.ref x), .val (.ref y), .val (.ref y)] [])) := (c4.trans (st5 _ (Steps.refl _))).trans (by
      refine XS.astoreN X5.here hexec rfl (hb hbytes d18) rfl rfl rfl ?_
      exact Steps.refl _)
    obtain ⟨T7, X7, q7, st7⟩ := X5.sget hexec hown (wk W (.fieldLink "java/lang/String" 38 "java/lang/String" "COMPACT_STRINGS" "Z")) s1 (fun _ _ h => by rw [hh5]; exact h) (g := (mkF m 19 #[.val (.ref x), .val (.ref y), .val (.ref y)] [])) rfl (hb hbytes d19)
    have hh7 := q7.trans hh5
    have c8 : Steps p.tables e below (s₁.setTop (entryFrame m #[.ref x, .ref y] 3)) (T7.setTop (mkF m 26 #[.val (.ref x), .val (.ref y), .val (.ref y)] [.ref x])) := (c6.trans (st7 _ (Steps.refl _))).trans (by
      refine XS.ifNo X7.here hexec rfl (hb hbytes d22) rfl (i0_eq_f hz) ?_
      refine XS.aloadN X7.here hexec rfl (hb hbytes d25) rfl rfl ?_
      exact Steps.refl _)
    obtain ⟨T9, X9, q9, st9⟩ := X7.hget hexec hown (wk W (.fieldLink "java/lang/String" 15 "java/lang/String" "coder" "B")) (hx.mv X7.warmed.alike hh7).2.2.1 (g := (mkF m 26 #[.val (.ref x), .val (.ref y), .val (.ref y)] [.ref x])) rfl (rest := []) rfl (hb hbytes d26)
    have hh9 := q9.trans hh7
    have c10 : Steps p.tables e below (s₁.setTop (entryFrame m #[.ref x, .ref y] 3)) (T9.setTop (mkF m 30 #[.val (.ref x), .val (.ref y), .val (.ref y)] [.ref y, .int cd])) := (c8.trans (st9 _ (Steps.refl _))).trans (by
      refine XS.aloadN X9.here hexec rfl (hb hbytes d29) rfl rfl ?_
      exact Steps.refl _)
    obtain ⟨T11, X11, q11, st11⟩ := X9.hget hexec hown (wk W (.fieldLink "java/lang/String" 15 "java/lang/String" "coder" "B")) (hy.mv X9.warmed.alike hh9).2.2.1 (g := (mkF m 30 #[.val (.ref x), .val (.ref y), .val (.ref y)] [.ref y, .int cd])) rfl (rest := [.int cd]) rfl (hb hbytes d30)
    have hh11 := q11.trans hh9
    have c12 : Steps p.tables e below (s₁.setTop (entryFrame m #[.ref x, .ref y] 3)) (T11.setTop (mkF m 33 #[.val (.ref x), .val (.ref y), .val (.ref y)] [.int cd', .int cd])) := c10.trans (st11 _ (Steps.refl _))
    by_cases hcd : cd = cd'
    · subst hcd
      have c13 : Steps p.tables e below (s₁.setTop (entryFrame m #[.ref x, .ref y] 3)) (T11.setTop (mkF m 37 #[.val (.ref x), .val (.ref y), .val (.ref y)] [.ref x])) := c12.trans (by
        refine XS.icmpNo X11.here hexec rfl (hb hbytes d33) rfl (ii_ne_f rfl) ?_
        refine XS.aloadN X11.here hexec rfl (hb hbytes d36) rfl rfl ?_
        exact Steps.refl _)
      obtain ⟨T14, X14, q14, st14⟩ := X11.hget hexec hown (wk W (.fieldLink "java/lang/String" 9 "java/lang/String" "value" "[B")) (hx.mv X11.warmed.alike hh11).2.1 (g := (mkF m 37 #[.val (.ref x), .val (.ref y), .val (.ref y)] [.ref x])) rfl (rest := []) rfl (hb hbytes d37)
      have hh14 := q14.trans hh11
      have c15 : Steps p.tables e below (s₁.setTop (entryFrame m #[.ref x, .ref y] 3)) (T14.setTop (mkF m 41 #[.val (.ref x), .val (.ref y), .val (.ref y)] [.ref y, .ref t])) := (c13.trans (st14 _ (Steps.refl _))).trans (by
        refine XS.aloadN X14.here hexec rfl (hb hbytes d40) rfl rfl ?_
        exact Steps.refl _)
      obtain ⟨T16, X16, q16, st16⟩ := X14.hget hexec hown (wk W (.fieldLink "java/lang/String" 9 "java/lang/String" "value" "[B")) (hy.mv X14.warmed.alike hh14).2.1 (g := (mkF m 41 #[.val (.ref x), .val (.ref y), .val (.ref y)] [.ref y, .ref t])) rfl (rest := [.ref t]) rfl (hb hbytes d41)
      have hh16 := q16.trans hh14
      have c17 : Steps p.tables e below (s₁.setTop (entryFrame m #[.ref x, .ref y] 3)) (T16.setTop (mkF m 44 #[.val (.ref x), .val (.ref y), .val (.ref y)] [.ref t', .ref t])) := c15.trans (st16 _ (Steps.refl _))
      obtain ⟨v18, T18, X18, E18, g18⟩ := X16.callS hexec (LEq.law l t V t' V') hown (wks W (staticW "java/lang/String" 541 LEq.yN)) (wk W LEq.tab) (W := 0) (Nat.le_of_ble_eq_true rfl) (Nat.le_of_ble_eq_true rfl) (Nat.le_refl _) (Nat.le_refl _) (g := (mkF m 44 #[.val (.ref x), .val (.ref y), .val (.ref y)] [.ref t', .ref t])) rfl (by rw [hml]; rfl) c17 (argsL := [.ref t, .ref t']) (rest := []) rfl rfl (by show 2 * 0 + 0 ≤ _; decide) (hb hbytes d44) (⟨rfl, hx.2.2.2.1.mv X16.warmed.alike hh16, hx.2.2.2.2.1.ty, hy.2.2.2.1.mv X16.warmed.alike hh16, hy.2.2.2.2.1.ty⟩)
      obtain ⟨v, rfl, q18, hv⟩ := E18
      have iff := Cod.eqv hx.2.2.2.2.1 hy.2.2.2.2.1 hx.2.2.2.2.2 hy.2.2.2.2.2
      rcases hv with ⟨rfl, he⟩ | ⟨rfl, he⟩
      · have c19 : Steps p.tables e below (s₁.setTop (entryFrame m #[.ref x, .ref y] 3)) (T18.setTop (mkF m 55 #[.val (.ref x), .val (.ref y), .val (.ref y)] [.int 1])) := Steps.trans g18 (by
          refine XS.ifNo X18.here hexec rfl (hb hbytes d47) rfl (i0_eq_f (by decide)) ?_
          refine iconstV X18.here hexec rfl 1 (hb hbytes d50) (by decide) ?_
          refine XS.goto X18.here hexec rfl (pc0 := 51) rfl (hb hbytes d51) (by decide) rfl ?_
          exact Steps.refl _)
        exact ⟨T18, some (.int 1), _, _, _, X18, rfl, rfl, rfl, (fun h => by cases h), ⟨1, rfl, q18.trans hh16, Or.inl ⟨rfl, iff.mp he⟩⟩, fun fs hl => c19.trans (X18.ireturnOut hexec hret rfl (Or.inr (Or.inl rfl)) (hb hbytes d55) hl)⟩
      · have c19 : Steps p.tables e below (s₁.setTop (entryFrame m #[.ref x, .ref y] 3)) (T18.setTop (mkF m 55 #[.val (.ref x), .val (.ref y), .val (.ref y)] [.int 0])) := Steps.trans g18 (by
          refine XS.ifYes X18.here hexec rfl (pc0 := 47) rfl (hb hbytes d47) rfl (i0_eq_t rfl) (by decide) rfl ?_
          refine iconstV X18.here hexec rfl 0 (hb hbytes d54) (by decide) ?_
          exact Steps.refl _)
        exact ⟨T18, some (.int 0), _, _, _, X18, rfl, rfl, rfl, (fun h => by cases h), ⟨0, rfl, q18.trans hh16, Or.inr ⟨rfl, fun q => he (iff.mpr q)⟩⟩, fun fs hl => c19.trans (X18.ireturnOut hexec hret rfl (Or.inr (Or.inl rfl)) (hb hbytes d55) hl)⟩
    · have c13 : Steps p.tables e below (s₁.setTop (entryFrame m #[.ref x, .ref y] 3)) (T11.setTop (mkF m 55 #[.val (.ref x), .val (.ref y), .val (.ref y)] [.int 0])) := c12.trans (by
        refine XS.icmpYes X11.here hexec rfl (pc0 := 33) rfl (hb hbytes d33) rfl (ii_ne_t hcd) (by decide) rfl ?_
        refine iconstV X11.here hexec rfl 0 (hb hbytes d54) (by decide) ?_
        exact Steps.refl _)
      exact ⟨T11, some (.int 0), _, _, _, X11, rfl, rfl, rfl, (fun h => by cases h), ⟨0, rfl, hh11, Or.inr ⟨rfl, Cod.dif hx.2.2.2.2.1 hy.2.2.2.2.1 hcd⟩⟩, fun fs hl => c13.trans (X11.ireturnOut hexec hret rfl (Or.inr (Or.inl rfl)) (hb hbytes d55) hl)⟩
theorem pays {l : Launch} {R : Room} {p : Program} {e : Env} {below : List Frame} {s : State} {sargs : Array Value} {len W : Nat} (x t : Addr) (V : Cell) (cd : Int32) (n : Nat) (f : Nat → Int32) (y t' : Addr) (V' : Cell) (cd' : Int32) (k : Nat) (g : Nat → Int32) (z : Int32) (htab : tab.before sargs s = true) (hfr : 2 ≤ R.frames) (hlo : W + 28 ≤ R.locals) :
    Back l R p e below s sargs yN len W (fun A₁ a₁ => A₁.cells + 0 ≤ R.cells ∧ A₁.slots + 0 ≤ R.slots ∧ P x t V cd n f y t' V' cd' k g z a₁ A₁.U) (fun A₁ _ v₁ B₁ => Says01 (SameT n f k g) v₁ A₁.U B₁.U ∧ B₁.locs = A₁.locs ++ [] ∧ B₁.cells = A₁.cells + 0 ∧ B₁.slots = A₁.slots + 0) :=
  (law l x t V cd n f y t' V' cd' k g z).pays htab hfr (by omega)
end SEq
end StrChars
namespace StrChars.Road
open Jvm Sem ClassFile Op Lib Jvm.Stand Jvm.Free Jvm.Free.XT
open Jvm.Lib.Cold (StaticIs)
/-- what is asked by String.isEmpty() -/
abbrev wordsEmp : List Jvm.Cond := [.code Emp.yN Emp.yB 1 (some .boolean), .initialized ST, .fieldLink ST 9 ST "value" "[B"]
theorem tabEmp_of {a : Array Value} {s : State} (h : ∀ w ∈ wordsEmp, w.before a s = true) : Emp.tab.before a s = true := unparts (wk h (.code Emp.yN Emp.yB 1 (some .boolean))) (wks h (.initialized Emp.yN.cls :: Emp.site))
theorem movedEmp {Z s : State} {a0 args : Array Value} (hZ : Z.Warmed39 s.vm) (hw : ∀ d ∈ wordsEmp, d.before a0 Z = true) : ∀ d ∈ wordsEmp, d.before args s = true := fun d hd => by
  have t : ∀ d ∈ wordsEmp, (d.onTables && d.keepsFace) = true := by decide +kernel
  exact RoadKit.mv hZ (hw d hd) (t d hd)
/-- what is asked by String.equals(Object) -/
abbrev wordsEq : List Jvm.Cond := [.code SEq.yN SEq.yB 3 (some .boolean), .initialized ST, .classLink ST 10 ST, .fieldLink ST 38 ST "COMPACT_STRINGS" "Z", .fieldLink ST 15 ST "coder" "B", .fieldLink ST 9 ST "value" "[B", .methodLink ST 541 LEq.yN, .static LEq.yN, .code LEq.yN LEq.yB 3 (some .boolean), .initialized "java/lang/StringLatin1"]
theorem tabEq_of {a : Array Value} {s : State} (h : ∀ w ∈ wordsEq, w.before a s = true) : SEq.tab.before a s = true := by
  have hl : LEq.tab.before a s = true := unparts (wk h (.code LEq.yN LEq.yB 3 (some .boolean))) (wks h (.initialized LEq.yN.cls :: LEq.site))
  have q := consq hl h
  exact unparts (wk q (.code SEq.yN SEq.yB 3 (some .boolean))) (wks q (.initialized SEq.yN.cls :: SEq.site))
theorem movedEq {Z s : State} {a0 args : Array Value} (hZ : Z.Warmed39 s.vm) (hw : ∀ d ∈ wordsEq, d.before a0 Z = true) : ∀ d ∈ wordsEq, d.before args s = true := fun d hd => by
  have t : ∀ d ∈ wordsEq, (d.onTables && d.keepsFace) = true := by decide +kernel
  exact RoadKit.mv hZ (hw d hd) (t d hd)
/-- the road's facts of a String, as the laws ask it -/
theorem txt_of {Z U : State} {a0 : Array Value} {kI : Nat} (wi : (Jvm.Cond.instantiable ST kI).before a0 Z = true) (al : Z.vm.Alike U.vm) {x t : Addr} {kb : ClassId} {cs : List Int32} {cd N2 : Int32} {vs : List Value} (E : RoadKit.Exa Z U.heap x ST) (V : RoadKit.Fld Z U.heap x ST "value" "[B" (.ref t)) (C : RoadKit.Fld Z U.heap x ST "coder" "B" (.int cd)) (K : RoadKit.Arv Z U.heap t kb .byte N2 vs (.int 0)) (hc : CodA cs cd N2 vs) (hb : ∀ c ∈ cs, ¬ c < 0 ∧ ¬ (65535 : Int32) < c) (l2 : cs.length ≤ 4000) :
    ∃ A, Txt x t A cd cs.length (fun j => cs.getD j 0) U := by
  obtain ⟨A, K1, K2, K3, K4, K5, K6⟩ := K
  have hcod := hc.cod (by omega) K3 K5
  obtain ⟨D, fV, fC, hB, F1, F2, g1, g2, -, -⟩ := strObj wi al E V C
  exact ⟨A, ⟨_, hB.2.2.1, D, hB.1, rfl, by cases q : D.vm <;> first | rfl | exact absurd q (hB.2.1.2 _)⟩, Has.of hB F1 g1, Has.of hB F2 g2, ⟨K1.1, State.isArrayOf_alike al K1.2.1, K1.2.2, by rcases hcod with ⟨-, q, -⟩ | ⟨-, q, -⟩ <;> omega⟩, hcod, fun j hj => by
    have e : cs.getD j 0 = cs[j] := by simp [List.getD_eq_getElem?_getD, hj]
    show ¬ cs.getD j 0 < 0 ∧ ¬ 65535 < cs.getD j 0
    rw [e]; exact hb _ (List.getElem_mem _)⟩
theorem same_list (cs ds : List Int32) : SameT cs.length (fun j => cs.getD j 0) ds.length (fun j => ds.getD j 0) ↔ cs = ds := by
  constructor
  · rintro ⟨e, q⟩
    refine List.ext_getElem e fun j h1 h2 => ?_
    have := q j h1
    simpa [List.getD_eq_getElem?_getD, h1, h2] using this
  · rintro rfl
    exact ⟨rfl, fun _ _ => rfl⟩
/-- **isEmpty() OF SUCH A STRING** -/
theorem empW {p : Program} {l : Launch} {e : Env} {R : Room} {s : State} {args : Array Value} {below : List Frame} {len W : Nat} {Z : State} {a0 : Array Value} {h : Heap} (hZ : Z.Warmed39 s.vm) (hw : ∀ d ∈ wordsEmp, d.before a0 Z = true) {kI : Nat} (wi : (Jvm.Cond.instantiable ST kI).before a0 Z = true)
    {x t : Addr} {kb : ClassId} {cs : List Int32} {cd N2 : Int32} {vs : List Value} (E : RoadKit.Exa Z h x ST) (V : RoadKit.Fld Z h x ST "value" "[B" (.ref t)) (C : RoadKit.Fld Z h x ST "coder" "B" (.int cd)) (K : RoadKit.Arv Z h t kb .byte N2 vs (.int 0)) (hc : CodA cs cd N2 vs) (hb : ∀ c ∈ cs, ¬ c < 0 ∧ ¬ (65535 : Int32) < c) (l2 : cs.length ≤ 4000) (hfr : 1 ≤ R.frames) (hlo : W + 12 ≤ R.locals) :
    Back l R p e below s args (⟨"java/lang/String", "isEmpty", "()Z"⟩ : MethodName) len W (fun P a => a = #[.ref x] ∧ P.U.heap = h ∧ P.cells + 0 ≤ R.cells ∧ P.slots + 0 ≤ R.slots)
      (fun P _ v B => ∃ L, (v = some (.int (if cs.length = 0 then 1 else 0)) ∧ L = [] ∧ B.U.heap = h) ∧ B.locs = P.locs ++ L ∧ B.cells = P.cells + 0 ∧ B.slots = P.slots + 0) := by
  intro m meth c P g ig mk a X hg hsize hdg hW hn hp'
  obtain ⟨rfl, rfl, r1, r2⟩ := hp'
  have al : Z.vm.Alike P.U.vm := hZ.alike.trans X.warmed.alike
  obtain ⟨A, hx⟩ := txt_of wi al E V C K hc hb l2
  obtain ⟨v, B, X', ⟨⟨hv, hh⟩, hl, hk, hs⟩, st⟩ := Emp.pays x t A cd cs.length (fun j => cs.getD j 0) (tabEmp_of (movedEmp hZ hw)) hfr hlo m meth c P g ig mk _ X hg hsize hdg hW hn ⟨r1, r2, rfl, hx⟩
  exact ⟨v, B, X', ⟨[], ⟨hv, rfl, hh⟩, hl, hk, hs⟩, st⟩
/-- **equals(Object) OF TWO SUCH STRINGS**: 1 just where the chars are the same -/
theorem eqW {p : Program} {l : Launch} {e : Env} {R : Room} {s : State} {args : Array Value} {below : List Frame} {len W : Nat} {Z : State} {a0 : Array Value} {h : Heap} (hZ : Z.Warmed39 s.vm) (hw : ∀ d ∈ wordsEq, d.before a0 Z = true) {kI : Nat} (wi : (Jvm.Cond.instantiable ST kI).before a0 Z = true)
    {x t : Addr} {kb : ClassId} {cs : List Int32} {cd N2 : Int32} {vs : List Value} (E : RoadKit.Exa Z h x ST) (V : RoadKit.Fld Z h x ST "value" "[B" (.ref t)) (C : RoadKit.Fld Z h x ST "coder" "B" (.int cd)) (K : RoadKit.Arv Z h t kb .byte N2 vs (.int 0)) (hc : CodA cs cd N2 vs) (hb : ∀ c ∈ cs, ¬ c < 0 ∧ ¬ (65535 : Int32) < c) (l2 : cs.length ≤ 4000)
    {y t' : Addr} {kb' : ClassId} {ds : List Int32} {cd' N2' : Int32} {vs' : List Value} (E' : RoadKit.Exa Z h y ST) (V' : RoadKit.Fld Z h y ST "value" "[B" (.ref t')) (C' : RoadKit.Fld Z h y ST "coder" "B" (.int cd')) (K' : RoadKit.Arv Z h t' kb' .byte N2' vs' (.int 0)) (hc' : CodA ds cd' N2' vs') (hb' : ∀ c ∈ ds, ¬ c < 0 ∧ ¬ (65535 : Int32) < c) (l2' : ds.length ≤ 4000)
    {z : Int32} (S : RoadKit.Sta Z h ST "COMPACT_STRINGS" "Z" (.int z)) (hz : ¬ z = 0) (hfr : 2 ≤ R.frames) (hlo : W + 28 ≤ R.locals) :
    Back l R p e below s args (⟨"java/lang/String", "equals", "(Ljava/lang/Object;)Z"⟩ : MethodName) len W (fun P a => a = #[.ref x, .ref y] ∧ P.U.heap = h ∧ P.cells + 0 ≤ R.cells ∧ P.slots + 0 ≤ R.slots)
      (fun P _ v B => ∃ L, (((v = some (.int 1) ∧ cs = ds) ∨ (v = some (.int 0) ∧ ¬ cs = ds)) ∧ L = [] ∧ B.U.heap = h) ∧ B.locs = P.locs ++ L ∧ B.cells = P.cells + 0 ∧ B.slots = P.slots + 0) := by
  intro m meth c P g ig mk a X hg hsize hdg hW hn hp'
  obtain ⟨rfl, rfl, r1, r2⟩ := hp'
  have al : Z.vm.Alike P.U.vm := hZ.alike.trans X.warmed.alike
  obtain ⟨A, hx⟩ := txt_of wi al E V C K hc hb l2
  obtain ⟨A', hy⟩ := txt_of wi al E' V' C' K' hc' hb' l2'
  obtain ⟨v, B, X', ⟨⟨w, hv, hh, hq⟩, hl, hk, hs⟩, st⟩ := SEq.pays x t A cd cs.length (fun j => cs.getD j 0) y t' A' cd' ds.length (fun j => ds.getD j 0) z (tabEq_of (movedEq hZ hw)) hfr hlo m meth c P g ig mk _ X hg hsize hdg hW hn ⟨r1, r2, rfl, hx, hy, sta_is al S, hz⟩
  refine ⟨v, B, X', ⟨[], ⟨?_, rfl, hh⟩, hl, hk, hs⟩, st⟩
  rcases hq with ⟨rfl, q⟩ | ⟨rfl, q⟩
  · exact Or.inl ⟨hv, (same_list cs ds).mp q⟩
  · exact Or.inr ⟨hv, fun e => q ((same_list cs ds).mpr e)⟩
end StrChars.Road
namespace StrChars
open Jvm Sem ClassFile Op Lib Jvm.Stand Jvm.Free.XT Jvm.Free.ALB Jvm.Free.JM Jvm.Free
open Jvm.Lib.Cold (StaticIs)
namespace ChN
def yN : MethodName := ⟨"java/lang/String", "charAt", "(I)C"⟩
abbrev yB : ByteArray := jdk_42_method_56_code
theorem d0 : decode yB 0 = .ok (.aload_n 0, 1) := by decide +kernel
theorem d1 : decode yB 1 = .ok (.invokevirtual 492, 3) := by decide +kernel
theorem d4 : decode yB 4 = .ok (.ifCond (.eq) 12, 3) := by decide +kernel
theorem d7 : decode yB 7 = .ok (.aload_n 0, 1) := by decide +kernel
theorem d8 : decode yB 8 = .ok (.getfield 9, 3) := by decide +kernel
theorem d11 : decode yB 11 = .ok (.iload_n 1, 1) := by decide +kernel
theorem d12 : decode yB 12 = .ok (.invokestatic 495, 3) := by decide +kernel
theorem d15 : decode yB 15 = .ok (.ireturn, 1) := by decide +kernel
def site : List Cond := [.fieldLink "java/lang/String" 9 "java/lang/String" "value" "[B", IsL.tab, LChA.tab] ++ virtW "java/lang/String" 492 "java/lang/String" IsL.yN IsL.yN ++ staticW "java/lang/String" 495 LChA.yN
def tab : Cond := tabOf yN yB 2 (some .char) site
def P (x t : Addr) (V : Cell) (n : Nat) (f : Nat → Int32) (z : Int32) (fm : Value) (i : Nat) (args : Array Value) (s : State) : Prop := args = #[.ref x, .int (Int32.ofNat i)] ∧ Txt x t V 0 n f s ∧ i < n ∧ StaticIs s "java/lang/String" "COMPACT_STRINGS" "Z" (.int z) ∧ ¬ z = 0 ∧ StaticIs s "jdk/internal/util/Preconditions" "SIOOBE_FORMATTER" "Ljava/util/function/BiFunction;" fm ∧ fm.isRef = true
def E (f : Nat → Int32) (i : Nat) (r : Option Value) (s u : State) : Prop := XT.PureE (some (.int (f i))) r s u
/-- charAt(i) of a Latin-1 String of n chars, i < n: f i -/
theorem law (l : Launch) (x t : Addr) (V : Cell) (n : Nat) (f : Nat → Int32) (z : Int32) (fm : Value) (i : Nat) : Law l yN 2 1 3 40 yB 2 (some .char) site (P x t V n f z fm i) (E f i) [] 0 0 := by
  refine Law.of_walk (plainFor_of_name (by decide +kernel)) (by decide +kernel) (by decide +kernel) (by decide) (fun _ _ h => by rw [h.1]; rfl) (fun _ U U' hal hh h => ⟨h.1, h.2.1.mv hal hh, h.2.2.1, h.2.2.2.1.there hal hh, h.2.2.2.2.1, h.2.2.2.2.2.1.there hal hh, h.2.2.2.2.2.2⟩) (fun r U U' V V' h1 hal h2 h => XT.PureE.mv r U U' V V' h1 hal h2 h) ?_
  intro p e s m args below meth c s₁ X0 hexec hbytes hml hret hlk hnm hown hh0 W hP
  obtain ⟨rfl, hx, hi, s1, hz, s3, rf⟩ := hP
  have v31 := hx.2.2.2.1.2.2.2
  have hr := hx.2.2.2.2.2 i hi
  have hx0 := hx.mv X0.warmed.alike hh0
  have c1 : Steps p.tables e below (s₁.setTop (entryFrame m #[.ref x, .int (Int32.ofNat i)] 2)) (s₁.setTop (mkF m 1 #[.val (.ref x), .val (.int (Int32.ofNat i))] [.ref x])) := Steps.trans (entry rfl) (by
    show Steps p.tables e below (s₁.setTop (mkF m 0 #[.val (.ref x), .val (.int (Int32.ofNat i))] [])) _
    refine XS.aloadN X0.here hexec rfl (hb hbytes d0) rfl rfl ?_
    exact Steps.refl _)
  obtain ⟨v2, T2, X2, E2, g2⟩ := X0.callV hexec (IsL.law l x 0 z) hown (wks W (virtW "java/lang/String" 492 "java/lang/String" IsL.yN IsL.yN)) rfl (by decide) (wk W IsL.tab) (W := 0) (Nat.le_of_ble_eq_true rfl) (Nat.le_of_ble_eq_true rfl) (Nat.le_refl _) (Nat.le_refl _) (hx0.1.fc X0.warmed.alike) hx0.1.is (g := (mkF m 1 #[.val (.ref x), .val (.int (Int32.ofNat i))] [.ref x])) rfl (by rw [hml]; rfl) c1 (argsL := []) (rest := []) rfl rfl (by show 2 * 0 + 0 ≤ _; decide) (hb hbytes d1) (⟨rfl, hx0.2.2.1, hx.2.2.2.2.1.cd, s1.there X0.warmed.alike hh0, hz⟩)
  obtain ⟨rfl, q2⟩ := E2
  have hh2 := q2.trans hh0
  have hx2 := hx.mv X2.warmed.alike hh2
  obtain ⟨-, k1, k2⟩ | ⟨k0, -⟩ := hx.2.2.2.2.1
  · have c3 : Steps p.tables e below (s₁.setTop (entryFrame m #[.ref x, .int (Int32.ofNat i)] 2)) (T2.setTop (mkF m 8 #[.val (.ref x), .val (.int (Int32.ofNat i))] [.ref x])) := Steps.trans g2 (by
      refine XS.ifNo X2.here hexec rfl (hb hbytes d4) rfl (i0_eq_f (by decide)) ?_
      refine XS.aloadN X2.here hexec rfl (hb hbytes d7) rfl rfl ?_
      exact Steps.refl _)
    obtain ⟨T4, X4, q4, st4⟩ := X2.hget hexec hown (wk W (.fieldLink "java/lang/String" 9 "java/lang/String" "value" "[B")) hx2.2.1 (g := (mkF m 8 #[.val (.ref x), .val (.int (Int32.ofNat i))] [.ref x])) rfl (rest := []) rfl (hb hbytes d8)
    have hh4 := q4.trans hh2
    have c5 : Steps p.tables e below (s₁.setTop (entryFrame m #[.ref x, .int (Int32.ofNat i)] 2)) (T4.setTop (mkF m 12 #[.val (.ref x), .val (.int (Int32.ofNat i))] [.int (Int32.ofNat i), .ref t])) := (c3.trans (st4 _ (Steps.refl _))).trans (by
      refine XS.iloadN X4.here hexec rfl (hb hbytes d11) rfl ?_
      exact Steps.refl _)
    obtain ⟨v6, T6, X6, E6, g6⟩ := X4.callS hexec (LChA.law l t V i (lo8 (f i)) fm) hown (wks W (staticW "java/lang/String" 495 LChA.yN)) (wk W LChA.tab) (W := 0) (Nat.le_of_ble_eq_true rfl) (Nat.le_of_ble_eq_true rfl) (Nat.le_refl _) (Nat.le_refl _) (g := (mkF m 12 #[.val (.ref x), .val (.int (Int32.ofNat i))] [.int (Int32.ofNat i), .ref t])) rfl (by rw [hml]; rfl) c5 (argsL := [.ref t, .int (Int32.ofNat i)]) (rest := []) rfl rfl (by show 2 * 0 + 0 ≤ _; decide) (hb hbytes d12) (⟨rfl, hx.2.2.2.1.mv X4.warmed.alike hh4, (k2 i hi).1, s3.there X4.warmed.alike hh4, rf⟩)
    obtain ⟨rfl, q6⟩ := E6
    rw [chr8_lo8 hr.1 (k2 i hi).2] at g6
    exact ⟨T6, some (.int (f i)), _, _, _, X6, rfl, rfl, rfl, (fun h => by cases h), ⟨rfl, q6.trans hh4⟩, fun fs hl => Steps.trans g6 (X6.ireturnOut hexec hret (narrow_ch hr.1 hr.2) (Or.inr (Or.inr (Or.inr (Or.inl rfl)))) (hb hbytes d15) hl)⟩
  · exact absurd k0 (by decide)
theorem pays {l : Launch} {R : Room} {p : Program} {e : Env} {below : List Frame} {s : State} {sargs : Array Value} {len W : Nat} (x t : Addr) (V : Cell) (n : Nat) (f : Nat → Int32) (z : Int32) (fm : Value) (i : Nat) (htab : tab.before sargs s = true) (hfr : 4 ≤ R.frames) (hlo : W + 53 ≤ R.locals) :
    Back l R p e below s sargs yN len W (fun A₁ a₁ => A₁.cells + 0 ≤ R.cells ∧ A₁.slots + 0 ≤ R.slots ∧ P x t V n f z fm i a₁ A₁.U) (fun A₁ _ v₁ B₁ => E f i v₁ A₁.U B₁.U ∧ B₁.locs = A₁.locs ++ [] ∧ B₁.cells = A₁.cells + 0 ∧ B₁.slots = A₁.slots + 0) :=
  (law l x t V n f z fm i).pays htab hfr (by omega)
end ChN
end StrChars
namespace StrChars.Road
open Jvm Sem ClassFile Op Lib Jvm.Stand Jvm.Free Jvm.Free.XT
open Jvm.Lib.Cold (StaticIs)
/-- what is asked by String.charAt(int), the Latin-1 road alone -/
abbrev wordsChN : List Jvm.Cond := [.code ChN.yN ChN.yB 2 (some .char), .initialized ST, .fieldLink ST 9 ST "value" "[B", .fieldLink ST 38 ST "COMPACT_STRINGS" "Z", .fieldLink ST 15 ST "coder" "B", .code IsL.yN IsL.yB 1 (some .boolean), .methodLink ST 492 IsL.yN, .declares IsL.yN, .selects ST IsL.yN IsL.yN, .instanceMethod IsL.yN,
  .methodLink ST 495 LChA.yN, .static LChA.yN, .code LChA.yN LChA.yB 2 (some .char), .initialized "java/lang/StringLatin1", .methodLink "java/lang/StringLatin1" 9 JO.Str_checkIndex.yN, .static JO.Str_checkIndex.yN, .code JO.Str_checkIndex.yN JO.Str_checkIndex.yB 2 none,
  .fieldLink ST 1053 "jdk/internal/util/Preconditions" "SIOOBE_FORMATTER" "Ljava/util/function/BiFunction;", .methodLink ST 1059 JC.PreCheck.yN, .static JC.PreCheck.yN, .code JC.PreCheck.yN JC.PreCheck.yB 3 (some .int), .initialized "jdk/internal/util/Preconditions"]
theorem tabChN_of {a : Array Value} {s : State} (h : ∀ w ∈ wordsChN, w.before a s = true) : ChN.tab.before a s = true := by
  have hp : JC.PreCheck.tab.before a s = true := unparts (wk h (.code JC.PreCheck.yN JC.PreCheck.yB 3 (some .int))) (wks h (.initialized JC.PreCheck.yN.cls :: JC.PreCheck.site))
  have qk := consq hp h
  have hk : JO.Str_checkIndex.tab.before a s = true := unparts (wk qk (.code JO.Str_checkIndex.yN JO.Str_checkIndex.yB 2 none)) (wks qk (.initialized JO.Str_checkIndex.yN.cls :: JO.Str_checkIndex.site))
  have ql := consq hk h
  have hl : LChA.tab.before a s = true := unparts (wk ql (.code LChA.yN LChA.yB 2 (some .char))) (wks ql (.initialized LChA.yN.cls :: LChA.site))
  have hi : IsL.tab.before a s = true := unparts (wk h (.code IsL.yN IsL.yB 1 (some .boolean))) (wks h (.initialized IsL.yN.cls :: IsL.site))
  have q := consq hi (consq hl h)
  exact unparts (wk q (.code ChN.yN ChN.yB 2 (some .char))) (wks q (.initialized ChN.yN.cls :: ChN.site))
theorem movedChN {Z s : State} {a0 args : Array Value} (hZ : Z.Warmed39 s.vm) (hw : ∀ d ∈ wordsChN, d.before a0 Z = true) : ∀ d ∈ wordsChN, d.before args s = true := fun d hd => by
  have t : ∀ d ∈ wordsChN, (d.onTables && d.keepsFace) = true := by decide +kernel
  exact RoadKit.mv hZ (hw d hd) (t d hd)
/-- **charAt(i) OF A LATIN-1 STRING**, i < n: the char -/
theorem chN {p : Program} {l : Launch} {e : Env} {R : Room} {s : State} {args : Array Value} {below : List Frame} {len W : Nat} {Z : State} {a0 : Array Value} {h : Heap} (hZ : Z.Warmed39 s.vm) (hw : ∀ d ∈ wordsChN, d.before a0 Z = true) {kI : Nat} (wi : (Jvm.Cond.instantiable ST kI).before a0 Z = true)
    {x t : Addr} {kb : ClassId} {cs : List Int32} {N2 z : Int32} {vs : List Value} {fm : Value} {i : Nat} {j : Int32} (E : RoadKit.Exa Z h x ST) (V : RoadKit.Fld Z h x ST "value" "[B" (.ref t)) (C : RoadKit.Fld Z h x ST "coder" "B" (.int 0)) (K : RoadKit.Arv Z h t kb .byte N2 vs (.int 0)) (hc : CodA cs 0 N2 vs) (hb : ∀ c ∈ cs, ¬ c < 0 ∧ ¬ (65535 : Int32) < c)
    (S : RoadKit.Sta Z h ST "COMPACT_STRINGS" "Z" (.int z)) (hz : ¬ z = 0) (F : RoadKit.Sta Z h "jdk/internal/util/Preconditions" "SIOOBE_FORMATTER" "Ljava/util/function/BiFunction;" fm) (rf : fm.isRef = true) (l2 : cs.length ≤ 4000) (hi : i < cs.length) (hj : j = Int32.ofNat i) (hfr : 4 ≤ R.frames) (hlo : W + 53 ≤ R.locals) :
    Back l R p e below s args (⟨"java/lang/String", "charAt", "(I)C"⟩ : MethodName) len W (fun P a => a = #[.ref x, .int j] ∧ P.U.heap = h ∧ P.cells + 0 ≤ R.cells ∧ P.slots + 0 ≤ R.slots)
      (fun P _ v B => ∃ L, (v = some (.int (cs.getD i 0)) ∧ L = [] ∧ B.U.heap = h) ∧ B.locs = P.locs ++ L ∧ B.cells = P.cells + 0 ∧ B.slots = P.slots + 0) := by
  subst hj
  intro m meth c P g ig mk a X hg hsize hdg hW hn hp'
  obtain ⟨rfl, rfl, r1, r2⟩ := hp'
  have al : Z.vm.Alike P.U.vm := hZ.alike.trans X.warmed.alike
  obtain ⟨A, hx⟩ := txt_of wi al E V C K hc hb l2
  obtain ⟨v, B, X', ⟨⟨hv, hh⟩, hl, hk, hs⟩, st⟩ := ChN.pays x t A cs.length (fun j => cs.getD j 0) z fm i (tabChN_of (movedChN hZ hw)) hfr hlo m meth c P g ig mk _ X hg hsize hdg hW hn ⟨r1, r2, rfl, hx, hi, sta_is al S, hz, sta_is al F, rf⟩
  exact ⟨v, B, X', ⟨[], ⟨hv, rfl, hh⟩, hl, hk, hs⟩, st⟩
end StrChars.Road
end Jvm.Pilot.@@N@@
namespace Jvm.Pilot.@@N@@
open Jvm Jvm.ClassFile Sem Op Lib Jvm.Free Jvm.Stand Jvm.LawKit Jvm.RoadKit Bundle Jvm.Pilot.@@N@@.Jvm.D
/-! what the case's words say of the start -/
section OwnS
variable {s : State} {args : Array Value} {t u : Term} {a b : Addr} {cl : Cell} {ty : FieldType} {v : Value}
theorem own_eqv (h : (Jvm.Cond.eq t u).value args s none s [] = some true) (hu : u.eval args s none [] s = some v) : t.eval args s none [] s = some v := by
  obtain ⟨x, y, ha, hb, -, -⟩ := cmp_v (Or.inl h)
  cases hb.symm.trans hu
  rw [ha]
  cases x <;> cases v <;> simp [Jvm.Cond.value, ha, hu] at h <;> simp [h]
theorem own_fld {C n d : String} (h : (Jvm.Cond.eq (Term.field t C n d) u).value args s none s [] = some true) (ht : t.eval args s none [] s = some (.ref a)) (hu : u.eval args s none [] s = some v) : Fld s s.heap a C n d v := by
  have q := own_eqv h hu
  rw [fld_at ht] at q
  exact Fld.start q
theorem own_len {z : Int32} (h : (Jvm.Cond.eq (Term.length t) u).value args s none s [] = some true) (ht : t.eval args s none [] s = some (.ref a)) (A : Arr s s.heap a cl ty) (hu : u.eval args s none [] s = some (.int z)) (hz : ¬ z < 0) : cl.slots.size = z.toNatClampNeg ∧ cl.slots.size < 2 ^ 31 := by
  have q := own_eqv h hu
  have f := Arr.fin (U := s) (Vm.Alike.refl _) A
  have hl : cl.slots.size < 2 ^ 31 := by
    apply Classical.byContradiction
    intro n
    simp [Term.eval, ht, f, n] at q
  rw [len_f ht f hl] at q
  have e : cl.slots.size.toInt32 = z := by simpa using q
  refine ⟨?_, hl⟩
  rw [← e]
  simp only [Int32.toNatClampNeg, len_toInt hl]
  rfl
theorem own_elem {j : Term} {z : Int32} (h : (Jvm.Cond.eq (Term.elem t j) u).value args s none s [] = some true) (ht : t.eval args s none [] s = some (.ref a)) (A : Arr s s.heap a cl ty) (hj : j.eval args s none [] s = some (.int z)) (hu : u.eval args s none [] s = some v) : cl.slots[z.toNatClampNeg]? = some v :=
  (elem_in (own_eqv h hu) ht hj A.1).2
theorem own_has3 {vs : List Value} {z : Int32} {dv : Value} (hf : Fit s) (A : Arr s s.heap a cl ty) (q : cl.slots.size < 2 ^ 31) (S : cl.slots.size = z.toNatClampNeg) (H : HasL cl 0 vs) (hl : z.toNatClampNeg = vs.length := by rfl) : Has cl vs dv ∧ ∀ i, i < cl.slots.size → fits ty (vs.getD i dv) = true := by
  have H' : Has cl vs dv := fun j hj => by
    have := HasL.at (dv := dv) vs 0 H j (by rw [← hl, ← S]; exact hj)
    rwa [Nat.zero_add] at this
  refine ⟨H', fun j hj => ?_⟩
  have e1 : (Nat.toInt32 j).toNatClampNeg = j := by simp only [Int32.toNatClampNeg, len_toInt (Nat.lt_trans hj q)]; rfl
  exact elem_fits (j := Nat.toInt32 j) hf A (idx_in hj q) (by rw [e1]; exact H' j hj)
theorem own_arv {vs : List Value} {z : Int32} (dv : Value) (hf : Fit s) (A : Arr s s.heap a cl ty) (q : cl.slots.size = z.toNatClampNeg ∧ cl.slots.size < 2 ^ 31) (hz : ¬ z < 0) (H : HasL cl 0 vs) (hl : z.toNatClampNeg = vs.length := by rfl) : Arv s s.heap a cl.cls ty z vs dv := by
  obtain ⟨h1, h2⟩ := own_has3 (dv := dv) hf A q.2 q.1 H hl
  exact ⟨cl, A, rfl, q.1, hz, h1, h2⟩
theorem own_fldr {C n d : String} (ht : t.eval args s none [] s = some (.ref a)) (hu : (Term.field t C n d).eval args s none [] s = some v) : Fld s s.heap a C n d v := Fld.start (by rw [← fld_at ht]; exact hu)
end OwnS
end Jvm.Pilot.@@N@@
namespace Jvm.Pilot.@@N@@
open Jvm Jvm.ClassFile Sem Op Lib Jvm.Free Jvm.Stand Jvm.LawKit Jvm.RoadKit Bundle Jvm.Pilot.@@N@@.Jvm.D
/-- from here the run comes to a state of which G holds -/
def OWay (p : Program) (e : Env) (below : List Frame) (G : State → Prop) (T : State) (g : JFrame) : Prop := ∃ t, Steps p.tables e below (T.setTop g) t ∧ G t
/-- how a body ends: it returned, with what Q says of its value, the heap and the places written -/
def OEnd (s : State) (below : List Frame) (Q : Option Value → Heap → List Loc → Prop) (cs sl : Nat) (t : State) : Prop := ∃ o, t.status = .running ∧ Ended t below o ∧ ∃ v L, o = .returned v ∧ Q v t.heap L ∧ FrameEnd s o t L cs sl
/-- a body's contract, as a call wants it -/
def OCon (l : Launch) (y : MethodName) (bytes : ByteArray) (maxL : Nat) (rt : Option FieldType) (ws : List Jvm.Cond) (rm : Room) (Z : State) (as' : Array Value) (h : Heap) (Q : Option Value → Heap → List Loc → Prop) : Prop :=
  MetFree l y (head1 (Jvm.Cond.code y bytes maxL rt :: ws) rm) (fun a U => a = as' ∧ Z.Warmed39 U.vm ∧ U.heap = h) (fun _ _ _ _ _ => True) (fun _ U o U' => ∃ v L, o = .returned v ∧ Q v U'.heap L ∧ FrameEnd U o U' L rm.cells rm.slots)
section Own
variable {p : Program} {l : Launch} {e : Env} {R : Room} {s : State} {m : MethodId} {args : Array Value} {below : List Frame} {meth : Method} {c : Code} {T T' : State} {locs : List Loc} {cells slots : Nat} {Z : State} {a0 : Array Value} {h : Heap} {G : State → Prop} {g g' : JFrame} {Q : Option Value → Heap → List Loc → Prop} {cs sl : Nat}
theorem ogo (q : ∀ t, Steps p.tables e below (T'.setTop g') t → Steps p.tables e below (T.setTop g) t) (w : OWay p e below G T' g') : OWay p e below G T g := by
  obtain ⟨t, h1, h2⟩ := w
  exact ⟨t, q t h1, h2⟩
theorem ogoS (q : Steps p.tables e below (T.setTop g) (T'.setTop g')) (w : OWay p e below G T' g') : OWay p e below G T g := ogo (fun _ k => q.trans k) w
theorem ogoE (q : g = g') (w : OWay p e below G T g') : OWay p e below G T g := q ▸ w
theorem ocon {y : MethodName} {bytes : ByteArray} {maxL : Nat} {rt : Option FieldType} {ws : List Jvm.Cond} {rm : Room} {as' : Array Value} (hp : plainFor y = true)
    (body : ∀ (p : Program) (e : Env) (s : State) (m : MethodId) (below : List Frame) (meth : Method) (c : Code) (s₁ : State), p.tables.exec = Jvm.exec → c.code = bytes → c.maxLocals = maxL → s.vm.findClass y.cls = some m.cls → meth.name = y.name → meth.sig.returnType = rt → meth.locks = false → Z.Warmed39 s.vm →
      Stand p l e rm s m as' below meth c s₁ [] 0 0 → s₁.heap = h → OWay p e below (OEnd s below Q rm.cells rm.slots) s₁ (entryFrame m as' maxL)) : OCon l y bytes maxL rt ws rm Z as' h Q := by
  refine MetFree.of_bodySF hp hisR ?_
  intro p e s m args below meth c s₁ Bd hml0 hP hK
  obtain ⟨rfl, hZ, hh⟩ := hP
  obtain ⟨t, h1, o, h2, h3, h4⟩ := body p e s m below meth c s₁ Bd.exec Bd.bytes hml0 (findClass_of_methodNamed Bd.named) (name_of_methodNamed Bd.named Bd.method).1 Bd.returns Bd.notSynchronized hZ (Stand.of_body Bd) (by rw [← hh, Bd.state]; rfl)
  exact ⟨t, o, h1, h2, h3, h4⟩
theorem wRetN (X : Stand p l e R s m args below meth c T locs cells slots) (hx : p.tables.exec = Jvm.exec) {pc : Nat} {Ls : Array Slot} {z : Int32} {t : FieldType} {rest : List Value} (hret : meth.sig.returnType = some t) (hlk : meth.locks = false) (ht : t = .boolean ∨ t = .byte ∨ t = .char ∨ t = .short)
    (hd : decode c.code pc = .ok (.ireturn, 1)) (hc : cells ≤ cs) (hs : slots ≤ sl) (eT : T.heap = h) (hq : Q (some (.int (nar t z))) h locs) : OWay p e below (OEnd s below Q cs sl) T (mkF m pc Ls (.int z :: rest)) := by
  obtain ⟨fs, hr, hrun, hended, hW, hsame⟩ := X.leave (v := some (.int (nar t z))) (fun q => by rw [hret] at q; cases q) hlk
  exact ⟨_, retN X hx hret ht hd hr, _, hrun, hended, _, _, rfl, by subst eT; exact hq, ⟨_, rfl⟩, hW, hsame.mono hc hs⟩
theorem wRet (X : Stand p l e R s m args below meth c T locs cells slots) (hx : p.tables.exec = Jvm.exec) {pc : Nat} {Ls : Array Slot} {w : Value} {t : FieldType} {i : Instr} {rest : List Value} (hret : meth.sig.returnType = some t) (hlk : meth.locks = false) (hn : narrow t w = w)
    (hi : (i = .ireturn ∧ (t = .int ∨ t = .boolean ∨ t = .byte ∨ t = .char ∨ t = .short) ∧ ∃ z, w = .int z) ∨ (i = .lreturn ∧ t = .long ∧ ∃ z, w = .long z) ∨ (i = .dreturn ∧ t = .double ∧ ∃ z, w = .double z) ∨ (i = .freturn ∧ t = .float ∧ ∃ z, w = .float z) ∨ (i = .areturn ∧ t.isReference = true ∧ w.isRef = true))
    (hd : decode c.code pc = .ok (i, 1)) (hc : cells ≤ cs) (hs : slots ≤ sl) (eT : T.heap = h) (hq : Q (some w) h locs) : OWay p e below (OEnd s below Q cs sl) T (mkF m pc Ls (w :: rest)) := by
  obtain ⟨fs, hr, hrun, hended, hW, hsame⟩ := X.leave (v := some w) (fun q => by rw [hret] at q; cases q) hlk
  exact ⟨_, retOut X hx hret hn hi hd hr, _, hrun, hended, _, _, rfl, by subst eT; exact hq, ⟨_, rfl⟩, hW, hsame.mono hc hs⟩
theorem wRetV (X : Stand p l e R s m args below meth c T locs cells slots) (hx : p.tables.exec = Jvm.exec) {pc : Nat} {Ls : Array Slot} (hret : meth.sig.returnType = none) (hlk : meth.locks = false)
    (hd : decode c.code pc = .ok (.return_, 1)) (hc : cells ≤ cs) (hs : slots ≤ sl) (eT : T.heap = h) (hq : Q none h locs) : OWay p e below (OEnd s below Q cs sl) T (mkF m pc Ls []) := by
  obtain ⟨fs, hr, hrun, hended, hW, hsame⟩ := X.leave (v := none) (fun _ => rfl) hlk
  exact ⟨_, X.returnOut hx hret hd hr, _, hrun, hended, _, _, rfl, by subst eT; exact hq, ⟨_, rfl⟩, hW, hsame.mono hc hs⟩
theorem wStatic (X : Stand p l e R s m args below meth c T locs cells slots) (hx : p.tables.exec = Jvm.exec) (hZ : Z.Warmed39 s.vm) {own : String} {index : Nat} {y : MethodName} {bytes : ByteArray} {maxL : Nat} {rt : Option FieldType} {rm : Room} {as' : Array Value} (hown : s.vm.findClass own = some m.cls)
    (w1 : (Jvm.Cond.methodLink own index y).before a0 Z = true) (w2 : (Jvm.Cond.static y).before a0 Z = true) (w3 : (Jvm.Cond.initialized y.cls).before a0 Z = true) (w4 : (Jvm.Cond.code y bytes maxL rt).before a0 Z = true) (hy : y.cls ≠ "java/lang/invoke/MethodHandle" ∧ y.cls ≠ "java/lang/invoke/VarHandle")
    (hM : OCon l y bytes maxL rt [] rm Z as' h Q) (W : Nat) (hf : rm.frames + 1 ≤ R.frames) (hl : W + (maxL + 11) + rm.locals ≤ R.locals) {g : JFrame} (hg : g.method = m) (hsize : g.locals.size = c.maxLocals) {argsL rest : List Value} (hlen : ∀ sig, parseMethodDescriptor y.desc = some sig → argsL.length = sig.parameters.length)
    (hstack : g.stack = argsL.reverse ++ rest) (hW : 2 * g.monitorRoom + (rest.map fun v => v.category).sum ≤ W) (hd : decode c.code g.pc = .ok (.invokestatic index, 3)) (has : argsL.toArray = as') (eT : T.heap = h) (hc : cells + rm.cells ≤ R.cells) (hs : slots + rm.slots ≤ R.slots) :
    ∃ (v : Option Value) (T' : State) (L : List Loc), Stand p l e R s m args below meth c T' (locs ++ L) (cells + rm.cells) (slots + rm.slots) ∧ Q v T'.heap L ∧ ∀ target, Steps p.tables e below (T'.setTop { g with pc := g.pc + 3, stack := v.toList ++ rest }) target → Steps p.tables e below (T.setTop g) target := by
  obtain ⟨v, _, ⟨T1, L1, k1, n1⟩, -, X1, ⟨Lc, hQ, l1, y1, z1⟩, st⟩ := Jvm.LawKit.callS X hx (y := y) hown (mvT hZ w1) (mvT hZ w2) (mvT hZ w3) (mvT hZ w4) hy (backOf (W := W) hM hZ w4 w3 hf hl) (g := g) hg hsize (argsL := argsL) (rest := rest) hlen hstack hW hd (fun _ _ => ⟨has, eT, hc, hs⟩)
  dsimp only [Pt.U, Pt.locs, Pt.cells, Pt.slots] at X1 l1 y1 z1 st hQ
  subst l1 y1 z1
  exact ⟨v, T1, Lc, X1, hQ, st⟩
theorem wInit (X : Stand p l e R s m args below meth c T locs cells slots) (hx : p.tables.exec = Jvm.exec) (hZ : Z.Warmed39 s.vm) {own : String} {index : Nat} {y : MethodName} {bytes : ByteArray} {maxL : Nat} {rm : Room} {as' : Array Value} (hy1 : y.name = "<init>") (hown : s.vm.findClass own = some m.cls)
    (w1 : (Jvm.Cond.methodLink own index y).before a0 Z = true) (w2 : (Jvm.Cond.instanceMethod y).before a0 Z = true) (w3 : (Jvm.Cond.initialized y.cls).before a0 Z = true) (w4 : (Jvm.Cond.code y bytes maxL none).before a0 Z = true) (hy : y.cls ≠ "java/lang/invoke/MethodHandle" ∧ y.cls ≠ "java/lang/invoke/VarHandle")
    (hM : OCon l y bytes maxL none [] rm Z as' h Q) (W : Nat) (hf : rm.frames + 1 ≤ R.frames) (hl : W + (maxL + 11) + rm.locals ≤ R.locals) {g : JFrame} (hg : g.method = m) (hsize : g.locals.size = c.maxLocals) {a : Addr} {argsL rest : List Value} (hlen : ∀ sig, parseMethodDescriptor y.desc = some sig → argsL.length = sig.parameters.length)
    (hstack : g.stack = argsL.reverse ++ .ref a :: rest) (hW : 2 * g.monitorRoom + (rest.map fun v => v.category).sum ≤ W) (hd : decode c.code g.pc = .ok (.invokespecial index, 3)) (has : (.ref a :: argsL).toArray = as') (eT : T.heap = h) (hc : cells + rm.cells ≤ R.cells) (hs : slots + rm.slots ≤ R.slots) :
    ∃ (v : Option Value) (T' : State) (L : List Loc), Stand p l e R s m args below meth c T' (locs ++ L) (cells + rm.cells) (slots + rm.slots) ∧ Q v T'.heap L ∧ Steps p.tables e below (T.setTop g) (T'.setTop { g with pc := g.pc + 3, stack := v.toList ++ rest }) := by
  obtain ⟨v, _, ⟨T1, L1, k1, n1⟩, -, X1, ⟨Lc, hQ, l1, y1, z1⟩, st⟩ := X.specialBack hx (y := y) hy1 hown (mvT hZ w1) (mvT hZ w2) (mvT hZ w4) hy (backOf (W := W) hM hZ w4 w3 hf hl) (g := g) hg hsize (Steps.refl _) (a := a) (argsL := argsL) (rest := rest) hlen hstack hW hd (fun _ _ => ⟨has, eT, hc, hs⟩)
  dsimp only [Pt.U, Pt.locs, Pt.cells, Pt.slots] at X1 l1 y1 z1 st hQ
  subst l1 y1 z1
  exact ⟨v, T1, Lc, X1, hQ, st⟩
theorem wVirtual (X : Stand p l e R s m args below meth c T locs cells slots) (hx : p.tables.exec = Jvm.exec) (hZ : Z.Warmed39 s.vm) {own C : String} {index : Nat} {y z : MethodName} {bytes : ByteArray} {maxL : Nat} {rt : Option FieldType} {rm : Room} {as' : Array Value} (hown : s.vm.findClass own = some m.cls)
    (w1 : (Jvm.Cond.methodLink own index y).before a0 Z = true) (w2 : (Jvm.Cond.declares y).before a0 Z = true) (nf : NotFace s y) (w5 : (Jvm.Cond.selects C y z).before a0 Z = true) (w6 : (Jvm.Cond.instanceMethod z).before a0 Z = true) (w3 : (Jvm.Cond.initialized z.cls).before a0 Z = true) (w4 : (Jvm.Cond.code z bytes maxL rt).before a0 Z = true)
    (hy : y.cls ≠ "java/lang/invoke/MethodHandle" ∧ y.cls ≠ "java/lang/invoke/VarHandle") (hM : OCon l z bytes maxL rt [] rm Z as' h Q) (W : Nat) (hf : rm.frames + 1 ≤ R.frames) (hl : W + (maxL + 11) + rm.locals ≤ R.locals) {b : Addr} (E : Exa Z h b C) {g : JFrame} (hg : g.method = m) (hsize : g.locals.size = c.maxLocals) {argsL rest : List Value} (hlen : ∀ sig, parseMethodDescriptor y.desc = some sig → argsL.length = sig.parameters.length)
    (hstack : g.stack = argsL.reverse ++ .ref b :: rest) (hW : 2 * g.monitorRoom + (rest.map fun v => v.category).sum ≤ W) (hd : decode c.code g.pc = .ok (.invokevirtual index, 3)) (has : (.ref b :: argsL).toArray = as') (eT : T.heap = h) (hc : cells + rm.cells ≤ R.cells) (hs : slots + rm.slots ≤ R.slots) :
    ∃ (v : Option Value) (T' : State) (L : List Loc), Stand p l e R s m args below meth c T' (locs ++ L) (cells + rm.cells) (slots + rm.slots) ∧ Q v T'.heap L ∧ Steps p.tables e below (T.setTop g) (T'.setTop { g with pc := g.pc + 3, stack := v.toList ++ rest }) := by
  obtain ⟨cq, kq, qa, qb, qc⟩ := isOf hZ eT E
  obtain ⟨v, _, ⟨T1, L1, k1, n1⟩, -, X1, ⟨Lc, hQ, l1, y1, z1⟩, st⟩ := X.virtualBack hx (y := y) (z := z) hown (mvT hZ w1) (mvT hZ w2) nf (mvT hZ w5) (mvT hZ w6) hy (backOf (W := W) hM hZ w4 w3 hf hl) qa qc (g := g) hg hsize (Steps.refl _) (argsL := argsL) (rest := rest) hlen hstack hW hd (fun _ _ => ⟨has, eT, hc, hs⟩)
  dsimp only [Pt.U, Pt.locs, Pt.cells, Pt.slots] at X1 l1 y1 z1 st hQ
  subst l1 y1 z1
  exact ⟨v, T1, Lc, X1, hQ, st⟩
end Own
end Jvm.Pilot.@@N@@
namespace Jvm.Pilot.@@N@@
open Jvm Jvm.ClassFile Sem Op Lib Jvm.Free Jvm.Stand Jvm.LawKit Jvm.RoadKit Bundle Jvm.Pilot.@@N@@.Jvm.D
/-- the same end, where the walk may have interned -/
def OEndW (s : State) (below : List Frame) (Q : Option Value → Heap → List Loc → Prop) (cs sl : Nat) (t : State) : Prop := ∃ o, t.status = .running ∧ Ended t below o ∧ ∃ v L, o = .returned v ∧ Q v t.heap L ∧ ReturnedEndW s o t L cs sl
def OConW (l : Launch) (y : MethodName) (bytes : ByteArray) (maxL : Nat) (rt : Option FieldType) (ws : List Jvm.Cond) (rm : Room) (Z : State) (as' : Array Value) (h : Heap) (Q : Option Value → Heap → List Loc → Prop) : Prop :=
  MetFree l y (head1 (Jvm.Cond.code y bytes maxL rt :: ws) rm) (fun a U => a = as' ∧ U = Z ∧ U.heap = h) (fun _ _ _ _ _ => True) (fun _ U o U' => ∃ v L, o = .returned v ∧ Q v U'.heap L ∧ ReturnedEndW U o U' L rm.cells rm.slots)
section OwnW
variable {p : Program} {l : Launch} {e : Env} {R : Room} {s : State} {m : MethodId} {args : Array Value} {below : List Frame} {meth : Method} {c : Code} {T T' : State} {locs : List Loc} {cells slots : Nat} {Z : State} {a0 : Array Value} {h : Heap} {G : State → Prop} {g g' : JFrame} {Q : Option Value → Heap → List Loc → Prop} {cs sl : Nat}
theorem oconW {y : MethodName} {bytes : ByteArray} {maxL : Nat} {rt : Option FieldType} {ws : List Jvm.Cond} {rm : Room} {as' : Array Value} (hp : plainFor y = true)
    (body : ∀ (p : Program) (e : Env) (s : State) (m : MethodId) (below : List Frame) (meth : Method) (c : Code) (s₁ : State), p.tables.exec = Jvm.exec → c.code = bytes → c.maxLocals = maxL → s.vm.findClass y.cls = some m.cls → meth.name = y.name → meth.sig.returnType = rt → meth.locks = false → Z.Warmed39 s.vm →
      Stand p l e rm s m as' below meth c s₁ [] 0 0 → s₁.heap = h → s.heap = h → s = Z → OWay p e below (OEndW s below Q rm.cells rm.slots) s₁ (entryFrame m as' maxL)) : OConW l y bytes maxL rt ws rm Z as' h Q := by
  refine MetFree.of_bodySF hp hisR ?_
  intro p e s m args below meth c s₁ Bd hml0 hP hK
  obtain ⟨rfl, hU, hh⟩ := hP
  have hZ : Z.Warmed39 s.vm := by rw [hU]; exact State.Warmed39.refl Z
  obtain ⟨t, h1, o, h2, h3, h4⟩ := body p e s m below meth c s₁ Bd.exec Bd.bytes hml0 (findClass_of_methodNamed Bd.named) (name_of_methodNamed Bd.named Bd.method).1 Bd.returns Bd.notSynchronized hZ (Stand.of_body Bd) (by rw [← hh, Bd.state]; rfl) hh hU
  exact ⟨t, o, h1, h2, h3, h4⟩
theorem wRetNW {vm0 : Vm} {k0 : Nat} (X : Stand p l e R (s.setVm vm0) m args below meth c T locs cells slots) (hx : p.tables.exec = Jvm.exec) {pc : Nat} {Ls : Array Slot} {z : Int32} {t : FieldType} {rest : List Value} (hret : meth.sig.returnType = some t) (hlk : meth.locks = false) (ht : t = .boolean ∨ t = .byte ∨ t = .char ∨ t = .short)
    (hd : decode c.code pc = .ok (.ireturn, 1)) (hc : cells ≤ cs) (hs : slots ≤ sl) (hS : s.Since vm0 k0) (hk : k0 ≤ h.size) (eT : T.heap = h) (hq : Q (some (.int (nar t z))) h locs) : OWay p e below (OEndW s below Q cs sl) T (mkF m pc Ls (.int z :: rest)) := by
  obtain ⟨fs, hr, hrun, hended, hE⟩ := X.leaveW hS (by rw [eT]; exact hk) (v := some (.int (nar t z))) (fun q => by rw [hret] at q; cases q) hlk
  exact ⟨_, retN X hx hret ht hd hr, _, hrun, hended, _, _, rfl, by subst eT; exact hq, hE.1, hE.2.1, hE.2.2.1, hE.2.2.2.mono hc hs⟩
end OwnW
end Jvm.Pilot.@@N@@
namespace Jvm.Pilot.@@N@@
open Jvm Jvm.ClassFile Sem Op Lib Jvm.Free Jvm.Stand Jvm.LawKit Jvm.RoadKit Bundle Jvm.Pilot.@@N@@.Jvm.D
/-- how a body ends that may have interned: what Q says of its value, the heap, the places written and the tables -/
def OEndL (s : State) (below : List Frame) (Q : Option Value → Heap → List Loc → Vm → Prop) (cs sl : Nat) (t : State) : Prop := ∃ o, t.status = .running ∧ Ended t below o ∧ ∃ v L, o = .returned v ∧ Q v t.heap L t.vm ∧ ReturnedEndW s o t L cs sl
def OConL (l : Launch) (y : MethodName) (bytes : ByteArray) (maxL : Nat) (rt : Option FieldType) (ws : List Jvm.Cond) (rm : Room) (Z : State) (as' : Array Value) (h : Heap) (Pv : Vm → Prop) (Q : Option Value → Heap → List Loc → Vm → Prop) : Prop :=
  MetFree l y (head1 (Jvm.Cond.code y bytes maxL rt :: ws) rm) (fun a U => a = as' ∧ Z.Warmed39 U.vm ∧ U.heap = h ∧ Pv U.vm) (fun _ _ _ _ _ => True) (fun _ U o U' => ∃ v L, o = .returned v ∧ Q v U'.heap L U'.vm ∧ ReturnedEndW U o U' L rm.cells rm.slots)
section OwnL
variable {p : Program} {l : Launch} {e : Env} {R : Room} {s : State} {m : MethodId} {args : Array Value} {below : List Frame} {meth : Method} {c : Code} {T T' : State} {locs : List Loc} {cells slots : Nat} {Z : State} {a0 : Array Value} {h : Heap} {cs sl : Nat} {Pv : Vm → Prop} {Q : Option Value → Heap → List Loc → Vm → Prop}
theorem oconL {y : MethodName} {bytes : ByteArray} {maxL : Nat} {rt : Option FieldType} {ws : List Jvm.Cond} {rm : Room} {as' : Array Value} (hp : plainFor y = true)
    (body : ∀ (p : Program) (e : Env) (s : State) (m : MethodId) (below : List Frame) (meth : Method) (c : Code) (s₁ : State), p.tables.exec = Jvm.exec → c.code = bytes → c.maxLocals = maxL → s.vm.findClass y.cls = some m.cls → meth.name = y.name → meth.sig.returnType = rt → meth.locks = false → Z.Warmed39 s.vm →
      Stand p l e rm s m as' below meth c s₁ [] 0 0 → s₁.heap = h → s.heap = h → Pv s.vm → OWay p e below (OEndL s below Q rm.cells rm.slots) s₁ (entryFrame m as' maxL)) : OConL l y bytes maxL rt ws rm Z as' h Pv Q := by
  refine MetFree.of_bodySF hp hisR ?_
  intro p e s m args below meth c s₁ Bd hml0 hP hK
  obtain ⟨rfl, hZ, hh, hv⟩ := hP
  obtain ⟨t, h1, o, h2, h3, h4⟩ := body p e s m below meth c s₁ Bd.exec Bd.bytes hml0 (findClass_of_methodNamed Bd.named) (name_of_methodNamed Bd.named Bd.method).1 Bd.returns Bd.notSynchronized hZ (Stand.of_body Bd) (by rw [← hh, Bd.state]; rfl) hh hv
  exact ⟨t, o, h1, h2, h3, h4⟩
theorem wRetL {vm0 : Vm} {k0 : Nat} (X : Stand p l e R (s.setVm vm0) m args below meth c T locs cells slots) (hx : p.tables.exec = Jvm.exec) {pc : Nat} {Ls : Array Slot} {a : Addr} {t : FieldType} {rest : List Value} (hret : meth.sig.returnType = some t) (hlk : meth.locks = false) (hn : narrow t (.ref a) = .ref a) (ht : t.isReference = true)
    (hd : decode c.code pc = .ok (.areturn, 1)) (hc : cells ≤ cs) (hs : slots ≤ sl) (hS : s.Since vm0 k0) (hk : k0 ≤ h.size) (eT : T.heap = h) (hq : Q (some (.ref a)) h locs T.vm) : OWay p e below (OEndL s below Q cs sl) T (mkF m pc Ls (.ref a :: rest)) := by
  obtain ⟨fs, hr, hrun, hended, hE⟩ := X.leaveW hS (by rw [eT]; exact hk) (v := some (.ref a)) (fun q => by rw [hret] at q; cases q) hlk
  exact ⟨_, retOut X hx hret hn (Or.inr (Or.inr (Or.inr (Or.inr ⟨rfl, ht, rfl⟩)))) hd hr, _, hrun, hended, _, _, rfl, by subst eT; exact hq, hE.1, hE.2.1, hE.2.2.1, hE.2.2.2.mono hc hs⟩
theorem backOfL {y : MethodName} {bytes : ByteArray} {maxL : Nat} {rt : Option FieldType} {rm : Room} {len W : Nat} {as' : Array Value} (hM : OConL l y bytes maxL rt [] rm Z as' h Pv Q)
    (hZ : Z.Warmed39 s.vm) (wc : (Jvm.Cond.code y bytes maxL rt).before a0 Z = true) (wz : (Jvm.Cond.initialized y.cls).before a0 Z = true) (hf : rm.frames + 1 ≤ R.frames) (hl : W + (maxL + 11) + rm.locals ≤ R.locals) :
    BackS l R p e below s args y len W (fun A a => a = as' ∧ A.U.heap = h ∧ Pv A.U.vm ∧ A.cells + rm.cells ≤ R.cells ∧ A.slots + rm.slots ≤ R.slots)
      (fun A _ v B => ∃ L, Q v B.U.heap L B.U.vm ∧ B.locs = A.locs ++ L ∧ B.cells = A.cells + rm.cells ∧ B.slots = A.slots + rm.slots) :=
  BackS.of_freeW (bytes := bytes) (maxL := maxL) (ret := rt) (E := fun _ _ o t L k n => k = rm.cells ∧ n = rm.slots ∧ ∃ v, o = .returned v ∧ Q v t.heap L t.vm) hM hf hl
    (fun m meth c A a Y hp => have hU : Z.Warmed39 A.U.vm := wtrans hZ Y.warmed
      ⟨by show (Jvm.Cond.and _ .tt).before a A.U = true; rw [Cond.before_and, mv hU wc]; rfl, mv hU wc, mv hU wz, hp.2.2.2.1, hp.2.2.2.2⟩)
    (fun m meth c A a g mk Y hp => ⟨hp.1, wtrans hZ Y.warmed, hp.2.1, hp.2.2.1⟩) (fun _ _ _ _ _ _ _ _ _ => trivial)
    (fun _ _ _ _ ⟨v, L, h1, h2, h3⟩ => ⟨L, _, _, h3, rfl, rfl, v, h1, h2⟩)
    (fun m meth c A a g mk v t L k n Y hp _ _ ⟨e1, e2, v', e3, e4⟩ => by cases e3; subst e1 e2; exact ⟨L, e4, rfl, rfl, rfl⟩)
theorem wVirtualL {vm0 : Vm} {k0 : Nat} (X : Stand p l e R (s.setVm vm0) m args below meth c T locs cells slots) (hx : p.tables.exec = Jvm.exec) (hZ : Z.Warmed39 (s.setVm vm0).vm) {own C : String} {index : Nat} {y z : MethodName} {bytes : ByteArray} {maxL : Nat} {rt : Option FieldType} {rm : Room} {as' : Array Value} (hown : (s.setVm vm0).vm.findClass own = some m.cls)
    (w1 : (Jvm.Cond.methodLink own index y).before a0 Z = true) (w2 : (Jvm.Cond.declares y).before a0 Z = true) (nf : NotFace (s.setVm vm0) y) (w5 : (Jvm.Cond.selects C y z).before a0 Z = true) (w6 : (Jvm.Cond.instanceMethod z).before a0 Z = true) (w3 : (Jvm.Cond.initialized z.cls).before a0 Z = true) (w4 : (Jvm.Cond.code z bytes maxL rt).before a0 Z = true)
    (hy : y.cls ≠ "java/lang/invoke/MethodHandle" ∧ y.cls ≠ "java/lang/invoke/VarHandle") (hM : OConL l z bytes maxL rt [] rm Z as' h Pv Q) (W : Nat) (hf : rm.frames + 1 ≤ R.frames) (hl : W + (maxL + 11) + rm.locals ≤ R.locals) {b : Addr} (E : Exa Z h b C) {g : JFrame} (hg : g.method = m) (hsize : g.locals.size = c.maxLocals) {argsL rest : List Value} (hlen : ∀ sig, parseMethodDescriptor y.desc = some sig → argsL.length = sig.parameters.length)
    (hstack : g.stack = argsL.reverse ++ .ref b :: rest) (hW : 2 * g.monitorRoom + (rest.map fun v => v.category).sum ≤ W) (hd : decode c.code g.pc = .ok (.invokevirtual index, 3)) (has : (.ref b :: argsL).toArray = as') (eT : T.heap = h) (hc : cells + rm.cells ≤ R.cells) (hs : slots + rm.slots ≤ R.slots)
    (hS : s.Since vm0 k0) (hk : k0 ≤ h.size) (hPv : ∀ vm1, (s.setVm vm0).WarmedH vm1 → Pv vm1) :
    ∃ (v : Option Value) (T' : State) (L : List Loc), Stand p l e R (s.setVm T'.vm) m args below meth c T' (locs ++ L) (cells + rm.cells) (slots + rm.slots) ∧ s.Since T'.vm T'.heap.size ∧ Z.Warmed39 (s.setVm T'.vm).vm ∧ (s.setVm T'.vm).vm.findClass own = some m.cls ∧ Q v T'.heap L T'.vm ∧
      Steps p.tables e below (T.setTop g) (T'.setTop { g with pc := g.pc + 3, stack := v.toList ++ rest }) := by
  obtain ⟨cq, kq, qa, qb, qc⟩ := isOf hZ eT E
  obtain ⟨v, _, ⟨T1, L1, k1, n1⟩, -, X1, hS1, hg1, ⟨Lc, hQ, l1, y1, z1⟩, st⟩ := X.virtualBackS hx (y := y) (z := z) hown (mvT hZ w1) (mvT hZ w2) nf (mvT hZ w5) (mvT hZ w6) hy (backOfL (W := W) hM hZ w4 w3 hf hl) qa qc (g := g) hg hsize (Steps.refl _) (argsL := argsL) (rest := rest) hlen hstack hW hd (fun vm1 q => ⟨has, eT, hPv vm1 q, hc, hs⟩)
  dsimp only [Pt.U, Pt.locs, Pt.cells, Pt.slots] at X1 hS1 hg1 l1 y1 z1 st hQ
  subst l1 y1 z1
  obtain ⟨r1, r2, r3, r4⟩ := rebS hS (by rw [eT]; exact hk) X1 hS1 hg1 hZ hown
  exact ⟨v, T1, Lc, r1, r2, r3, r4, hQ, st⟩
theorem wUp {Q : Option Value → Heap → List Loc → Prop} (X : Stand p l e R s m args below meth c T locs cells slots) (hx : p.tables.exec = Jvm.exec) (hZ : Z.Warmed39 s.vm) {own C owner : String} {index : Nat} {y z : MethodName} {bytes : ByteArray} {maxL : Nat} {rt : Option FieldType} {rm : Room} {as' : Array Value} (hown : s.vm.findClass own = some m.cls)
    (w1 : (Jvm.Cond.methodLink own index y).before a0 Z = true) (w7 : (Jvm.Cond.sameMethod y.cls owner y.name y.desc).before a0 Z = true) (w2 : (Jvm.Cond.declares ⟨owner, y.name, y.desc⟩).before a0 Z = true) (hy : owner ≠ "java/lang/invoke/MethodHandle" ∧ owner ≠ "java/lang/invoke/VarHandle") (w5 : (Jvm.Cond.selects C y z).before a0 Z = true) (w6 : (Jvm.Cond.instanceMethod z).before a0 Z = true) (w3 : (Jvm.Cond.initialized z.cls).before a0 Z = true) (w4 : (Jvm.Cond.code z bytes maxL rt).before a0 Z = true)
    (hM : OCon l z bytes maxL rt [] rm Z as' h Q) (W : Nat) (hf : rm.frames + 1 ≤ R.frames) (hl : W + (maxL + 11) + rm.locals ≤ R.locals) {b : Addr} (E : Exa Z h b C) {g : JFrame} (hg : g.method = m) (hsize : g.locals.size = c.maxLocals) {argsL rest : List Value} (hlen : ∀ sig, parseMethodDescriptor y.desc = some sig → argsL.length = sig.parameters.length)
    (hstack : g.stack = argsL.reverse ++ .ref b :: rest) (hW : 2 * g.monitorRoom + (rest.map fun v => v.category).sum ≤ W) (hd : decode c.code g.pc = .ok (.invokevirtual index, 3)) (has : (.ref b :: argsL).toArray = as') (eT : T.heap = h) (hc : cells + rm.cells ≤ R.cells) (hs : slots + rm.slots ≤ R.slots) :
    ∃ (v : Option Value) (T' : State) (L : List Loc), Stand p l e R s m args below meth c T' (locs ++ L) (cells + rm.cells) (slots + rm.slots) ∧ Q v T'.heap L ∧ Steps p.tables e below (T.setTop g) (T'.setTop { g with pc := g.pc + 3, stack := v.toList ++ rest }) := by
  obtain ⟨cq, kq, qa, qb, qc⟩ := isOf hZ eT E
  obtain ⟨v, _, ⟨T1, L1, k1, n1⟩, -, X1, ⟨Lc, hQ, l1, y1, z1⟩, st⟩ := X.virtualBackUp hx (x := y) (y := z) hown (mvT hZ w1) (mvT hZ w7) (mvT hZ w2) hy (mvT hZ w5) (mvT hZ w6) (backOf (W := W) hM hZ w4 w3 hf hl) qa qc (g := g) hg hsize (Steps.refl _) (argsL := argsL) (rest := rest) hlen hstack hW hd (fun _ _ => ⟨has, eT, hc, hs⟩)
  dsimp only [Pt.U, Pt.locs, Pt.cells, Pt.slots] at X1 l1 y1 z1 st hQ
  subst l1 y1 z1
  exact ⟨v, T1, Lc, X1, hQ, st⟩
theorem own_ibW {vm0 vm1 : Vm} {Ts : List String} (I : IB Z vm0 Ts) (q : (s.setVm vm0).WarmedH vm1) : IB Z vm1 Ts := by
  obtain ⟨more, e, hm⟩ := I
  exact ⟨more, q.interned_eq.trans e, hm⟩
theorem own_litW {vm0 vm1 : Vm} {own : String} {index : Nat} {a : Addr} (L : Lit (Z.setVm vm0) own index a) (q : (s.setVm vm0).WarmedH vm1) : Lit (Z.setVm vm1) own index a := by
  have L' : Lit (s.setVm vm0) own index a := L
  have r : Lit (s.setVm vm1) own index a := L'.stays q.wide
  exact r
end OwnL
end Jvm.Pilot.@@N@@
namespace Jvm.Pilot.@@N@@
open Jvm Jvm.ClassFile Sem Op Lib Jvm.Free Jvm.Stand Jvm.LawKit Jvm.RoadKit Bundle Jvm.Pilot.@@N@@.Jvm.D
def txs (w : Int32) : String := if w = (0 : Int32) then "shorter than the envelope" else if w = (1 : Int32) then "longer than 1200 bytes" else if w = (2 : Int32) then "without the MRDK magic" else if w = (3 : Int32) then "of another version" else if w = (4 : Int32) then "of a type that their version does not define" else if w = (5 : Int32) then "with a body length field that differs from the body" else if w = (6 : Int32) then "not signed with the group's secret" else if w = (7 : Int32) then "from a sender that is not a peer" else "with a body that does not decode"
def tx (w : Int32) : List Int32 := if w = (0 : Int32) then [115, 104, 111, 114, 116, 101, 114, 32, 116, 104, 97, 110, 32, 116, 104, 101, 32, 101, 110, 118, 101, 108, 111, 112, 101] else if w = (1 : Int32) then [108, 111, 110, 103, 101, 114, 32, 116, 104, 97, 110, 32, 49, 50, 48, 48, 32, 98, 121, 116, 101, 115] else if w = (2 : Int32) then [119, 105, 116, 104, 111, 117, 116, 32, 116, 104, 101, 32, 77, 82, 68, 75, 32, 109, 97, 103, 105, 99] else if w = (3 : Int32) then [111, 102, 32, 97, 110, 111, 116, 104, 101, 114, 32, 118, 101, 114, 115, 105, 111, 110] else if w = (4 : Int32) then [111, 102, 32, 97, 32, 116, 121, 112, 101, 32, 116, 104, 97, 116, 32, 116, 104, 101, 105, 114, 32, 118, 101, 114, 115, 105, 111, 110, 32, 100, 111, 101, 115, 32, 110, 111, 116, 32, 100, 101, 102, 105, 110, 101] else if w = (5 : Int32) then [119, 105, 116, 104, 32, 97, 32, 98, 111, 100, 121, 32, 108, 101, 110, 103, 116, 104, 32, 102, 105, 101, 108, 100, 32, 116, 104, 97, 116, 32, 100, 105, 102, 102, 101, 114, 115, 32, 102, 114, 111, 109, 32, 116, 104, 101, 32, 98, 111, 100, 121] else if w = (6 : Int32) then [110, 111, 116, 32, 115, 105, 103, 110, 101, 100, 32, 119, 105, 116, 104, 32, 116, 104, 101, 32, 103, 114, 111, 117, 112, 39, 115, 32, 115, 101, 99, 114, 101, 116] else if w = (7 : Int32) then [102, 114, 111, 109, 32, 97, 32, 115, 101, 110, 100, 101, 114, 32, 116, 104, 97, 116, 32, 105, 115, 32, 110, 111, 116, 32, 97, 32, 112, 101, 101, 114] else [119, 105, 116, 104, 32, 97, 32, 98, 111, 100, 121, 32, 116, 104, 97, 116, 32, 100, 111, 101, 115, 32, 110, 111, 116, 32, 100, 101, 99, 111, 100, 101]
def ix (w : Int32) : Nat := if w = (0 : Int32) then 59 else if w = (1 : Int32) then 63 else if w = (2 : Int32) then 65 else if w = (3 : Int32) then 67 else if w = (4 : Int32) then 69 else if w = (5 : Int32) then 71 else if w = (6 : Int32) then 73 else if w = (7 : Int32) then 75 else 77
theorem txs_0 : txs (0 : Int32) = "shorter than the envelope" := by decide +kernel
theorem ix_0 : ix (0 : Int32) = 59 := by decide +kernel
theorem txs_1 : txs (1 : Int32) = "longer than 1200 bytes" := by decide +kernel
theorem ix_1 : ix (1 : Int32) = 63 := by decide +kernel
theorem txs_2 : txs (2 : Int32) = "without the MRDK magic" := by decide +kernel
theorem ix_2 : ix (2 : Int32) = 65 := by decide +kernel
theorem txs_3 : txs (3 : Int32) = "of another version" := by decide +kernel
theorem ix_3 : ix (3 : Int32) = 67 := by decide +kernel
theorem txs_4 : txs (4 : Int32) = "of a type that their version does not define" := by decide +kernel
theorem ix_4 : ix (4 : Int32) = 69 := by decide +kernel
theorem txs_5 : txs (5 : Int32) = "with a body length field that differs from the body" := by decide +kernel
theorem ix_5 : ix (5 : Int32) = 71 := by decide +kernel
theorem txs_6 : txs (6 : Int32) = "not signed with the group's secret" := by decide +kernel
theorem ix_6 : ix (6 : Int32) = 73 := by decide +kernel
theorem txs_7 : txs (7 : Int32) = "from a sender that is not a peer" := by decide +kernel
theorem ix_7 : ix (7 : Int32) = 75 := by decide +kernel
theorem txs_8 : txs (8 : Int32) = "with a body that does not decode" := by decide +kernel
theorem ix_8 : ix (8 : Int32) = 77 := by decide +kernel
def rg (w : Int32) : Prop := w = (0 : Int32) ∨ w = (1 : Int32) ∨ w = (2 : Int32) ∨ w = (3 : Int32) ∨ w = (4 : Int32) ∨ w = (5 : Int32) ∨ w = (6 : Int32) ∨ w = (7 : Int32) ∨ w = (8 : Int32)
theorem own_inj (a b : Int32) (ha : rg a) (hb : rg b) (h : tx a = tx b) : a = b := by
  rcases ha with rfl | rfl | rfl | rfl | rfl | rfl | rfl | rfl | rfl <;> rcases hb with rfl | rfl | rfl | rfl | rfl | rfl | rfl | rfl | rfl <;> first | rfl | exact absurd h (by decide +kernel)
theorem own_txs (a b : Int32) (ha : rg a) (hb : rg b) (h : txs a = txs b) : a = b := by
  rcases ha with rfl | rfl | rfl | rfl | rfl | rfl | rfl | rfl | rfl <;> rcases hb with rfl | rfl | rfl | rfl | rfl | rfl | rfl | rfl | rfl <;> first | rfl | exact absurd h (by decide +kernel)
theorem own_no (a b : Int32) (ha : rg a) (hb : rg b) (h : ¬ a = b) : txs b ∉ [txs a] := by
  intro q
  exact h (own_txs a b ha hb (List.mem_singleton.mp q).symm)
def wl (cs : List Int32) : Prop := 1 ≤ cs.length ∧ cs.length ≤ 60 ∧ (∀ c ∈ cs, ¬ c < 0 ∧ ¬ (255 : Int32) < c) ∧ ¬ (cs.getD 0 0 < (97 : Int32)) ∧ ¬ ((122 : Int32) < cs.getD 0 0) ∧ ¬ (cs.getD (cs.length - 1) 0 = (32 : Int32))
theorem own_wl (a : Int32) (ha : rg a) : wl (tx a) := by
  rcases ha with rfl | rfl | rfl | rfl | rfl | rfl | rfl | rfl | rfl <;> (refine ⟨?_, ?_, ?_, ?_, ?_, ?_⟩ <;> decide +kernel)
theorem own_rg (p v : Int32) (h : v = ((p &&& (2147483647 : Int32)) % (9 : Int32))) : rg v := by
  have m := c_mask p 2147483647 31 (by decide) (by decide)
  have d := (c_irem (p &&& 2147483647) 9 9 (by decide)).1 (by omega)
  rw [← h] at d
  have e0 : (0 : Int32).toInt = 0 := by decide
  have e1 : (1 : Int32).toInt = 1 := by decide
  have e2 : (2 : Int32).toInt = 2 := by decide
  have e3 : (3 : Int32).toInt = 3 := by decide
  have e4 : (4 : Int32).toInt = 4 := by decide
  have e5 : (5 : Int32).toInt = 5 := by decide
  have e6 : (6 : Int32).toInt = 6 := by decide
  have e7 : (7 : Int32).toInt = 7 := by decide
  have e8 : (8 : Int32).toInt = 8 := by decide
  unfold rg
  simp only [← Int32.toInt_inj, e0, e1, e2, e3, e4, e5, e6, e7, e8]
  omega
theorem own_last (cs : List Int32) (h : 1 ≤ cs.length ∧ cs.length ≤ 60) : Int32.ofNat cs.length - (1 : Int32) = Int32.ofNat (cs.length - 1) := by
  generalize cs.length = n at h
  obtain ⟨h1, h2⟩ := h
  have key : ∀ k : Fin 61, 1 ≤ k.val → Int32.ofNat k.val - (1 : Int32) = Int32.ofNat (k.val - 1) := by decide +kernel
  exact key ⟨n, by omega⟩ h1
theorem own_cod (cs : List Int32) (h : ∀ c ∈ cs, ¬ c < 0 ∧ ¬ (255 : Int32) < c) : StrChars.Road.CodA cs 0 (Int32.ofNat cs.length) (cs.map fun c => Value.int (StrChars.lo8 c)) := Or.inl ⟨rfl, rfl, rfl, fun c hc => (h c hc).2⟩
theorem own_chr (cs : List Int32) (h : ∀ c ∈ cs, ¬ c < 0 ∧ ¬ (255 : Int32) < c) : ∀ c ∈ cs, ¬ c < 0 ∧ ¬ (65535 : Int32) < c := fun c hc => ⟨(h c hc).1, fun q => (h c hc).2 (Int32.lt_trans (by decide) q)⟩
theorem pn_com_example_marduk_marduk_io_DropReasonDescriptionPinLaw : plainName "com/example/marduk/marduk/io/DropReasonDescriptionPinLaw" = true := by first | (simp [plainName, overriddenIn]; done) | decide +kernel
theorem d1_0 : decode method_2_code 0 = .ok (.iload_n 0, 1) := by decide +kernel
theorem d1_1 : decode method_2_code 1 = .ok (.ifCond .ne 7, 3) := by decide +kernel
theorem d1_4 : decode method_2_code 4 = .ok (.getstatic 7, 3) := by decide +kernel
theorem d1_7 : decode method_2_code 7 = .ok (.areturn, 1) := by decide +kernel
theorem d1_8 : decode method_2_code 8 = .ok (.iload_n 0, 1) := by decide +kernel
theorem d1_9 : decode method_2_code 9 = .ok (.iconst 1, 1) := by decide +kernel
theorem d1_10 : decode method_2_code 10 = .ok (.if_icmp .ne 7, 3) := by decide +kernel
theorem d1_13 : decode method_2_code 13 = .ok (.getstatic 13, 3) := by decide +kernel
theorem d1_16 : decode method_2_code 16 = .ok (.areturn, 1) := by decide +kernel
theorem d1_17 : decode method_2_code 17 = .ok (.iload_n 0, 1) := by decide +kernel
theorem d1_18 : decode method_2_code 18 = .ok (.iconst 2, 1) := by decide +kernel
theorem d1_19 : decode method_2_code 19 = .ok (.if_icmp .ne 7, 3) := by decide +kernel
theorem d1_22 : decode method_2_code 22 = .ok (.getstatic 16, 3) := by decide +kernel
theorem d1_25 : decode method_2_code 25 = .ok (.areturn, 1) := by decide +kernel
theorem d1_26 : decode method_2_code 26 = .ok (.iload_n 0, 1) := by decide +kernel
theorem d1_27 : decode method_2_code 27 = .ok (.iconst 3, 1) := by decide +kernel
theorem d1_28 : decode method_2_code 28 = .ok (.if_icmp .ne 7, 3) := by decide +kernel
theorem d1_31 : decode method_2_code 31 = .ok (.getstatic 19, 3) := by decide +kernel
theorem d1_34 : decode method_2_code 34 = .ok (.areturn, 1) := by decide +kernel
theorem d1_35 : decode method_2_code 35 = .ok (.iload_n 0, 1) := by decide +kernel
theorem d1_36 : decode method_2_code 36 = .ok (.iconst 4, 1) := by decide +kernel
theorem d1_37 : decode method_2_code 37 = .ok (.if_icmp .ne 7, 3) := by decide +kernel
theorem d1_40 : decode method_2_code 40 = .ok (.getstatic 22, 3) := by decide +kernel
theorem d1_43 : decode method_2_code 43 = .ok (.areturn, 1) := by decide +kernel
theorem d1_44 : decode method_2_code 44 = .ok (.iload_n 0, 1) := by decide +kernel
theorem d1_45 : decode method_2_code 45 = .ok (.iconst 5, 1) := by decide +kernel
theorem d1_46 : decode method_2_code 46 = .ok (.if_icmp .ne 7, 3) := by decide +kernel
theorem d1_49 : decode method_2_code 49 = .ok (.getstatic 25, 3) := by decide +kernel
theorem d1_52 : decode method_2_code 52 = .ok (.areturn, 1) := by decide +kernel
theorem d1_53 : decode method_2_code 53 = .ok (.iload_n 0, 1) := by decide +kernel
theorem d1_54 : decode method_2_code 54 = .ok (.bipush 6, 2) := by decide +kernel
theorem d1_56 : decode method_2_code 56 = .ok (.if_icmp .ne 7, 3) := by decide +kernel
theorem d1_59 : decode method_2_code 59 = .ok (.getstatic 28, 3) := by decide +kernel
theorem d1_62 : decode method_2_code 62 = .ok (.areturn, 1) := by decide +kernel
theorem d1_63 : decode method_2_code 63 = .ok (.iload_n 0, 1) := by decide +kernel
theorem d1_64 : decode method_2_code 64 = .ok (.bipush 7, 2) := by decide +kernel
theorem d1_66 : decode method_2_code 66 = .ok (.if_icmp .ne 7, 3) := by decide +kernel
theorem d1_69 : decode method_2_code 69 = .ok (.getstatic 31, 3) := by decide +kernel
theorem d1_72 : decode method_2_code 72 = .ok (.areturn, 1) := by decide +kernel
theorem d1_73 : decode method_2_code 73 = .ok (.getstatic 34, 3) := by decide +kernel
theorem d1_76 : decode method_2_code 76 = .ok (.areturn, 1) := by decide +kernel
def reason_b_rm : Room := { frames := 0, cells := 0, slots := 0, locals := 0 }
def reason_b_Q (Z : State) (p0 : Int32) (e0 : Addr) (e1 : Addr) (e2 : Addr) (e3 : Addr) (e4 : Addr) (e5 : Addr) (e6 : Addr) (e7 : Addr) (e8 : Addr) (h0 : Heap) (n0 : Nat) (v : Option Value) (h : Heap) (L : List Loc) : Prop := ∃ r : Addr, (v = some (.ref r)) ∧ (Fr n0 L) ∧ (h = h0) ∧ (Exa Z Z.heap r "com/example/marduk/marduk/io/DropReason") ∧ (Fld Z Z.heap r "java/lang/Enum" "ordinal" "I" (.int p0))
theorem reason_b_ef (m : MethodId) (p0 : Int32) : entryFrame m #[(.int p0)] 1 = mkF m 0 #[.val (.int p0)] [] := by first | (simp [entryFrame, mkF, argsToLocals, Value.category]; done) | rfl
set_option maxRecDepth 65536 in
set_option maxHeartbeats 40000000 in
theorem reason_b_c (l : Launch) (Z : State) (az : Array Value) (hw : ∀ d ∈ tables_1, d.before az Z = true) (ws : List Jvm.Cond) (p0 : Int32) (e0 : Addr) (e1 : Addr) (e2 : Addr) (e3 : Addr) (e4 : Addr) (e5 : Addr) (e6 : Addr) (e7 : Addr) (e8 : Addr) (h0 : Heap) (n0 : Nat) (Z0 : n0 ≤ h0.size) (hp0 : Sta Z Z.heap "com/example/marduk/marduk/io/DropReason" "TOO_SHORT" "Lcom/example/marduk/marduk/io/DropReason;" (.ref e0)) (hp1 : Sta Z Z.heap "com/example/marduk/marduk/io/DropReason" "TOO_LONG" "Lcom/example/marduk/marduk/io/DropReason;" (.ref e1)) (hp2 : Sta Z Z.heap "com/example/marduk/marduk/io/DropReason" "NO_MAGIC" "Lcom/example/marduk/marduk/io/DropReason;" (.ref e2)) (hp3 : Sta Z Z.heap "com/example/marduk/marduk/io/DropReason" "OTHER_VERSION" "Lcom/example/marduk/marduk/io/DropReason;" (.ref e3)) (hp4 : Sta Z Z.heap "com/example/marduk/marduk/io/DropReason" "UNDEFINED_TYPE" "Lcom/example/marduk/marduk/io/DropReason;" (.ref e4)) (hp5 : Sta Z Z.heap "com/example/marduk/marduk/io/DropReason" "WRONG_LENGTH" "Lcom/example/marduk/marduk/io/DropReason;" (.ref e5)) (hp6 : Sta Z Z.heap "com/example/marduk/marduk/io/DropReason" "UNSIGNED" "Lcom/example/marduk/marduk/io/DropReason;" (.ref e6)) (hp7 : Sta Z Z.heap "com/example/marduk/marduk/io/DropReason" "NOT_A_PEER" "Lcom/example/marduk/marduk/io/DropReason;" (.ref e7)) (hp8 : Sta Z Z.heap "com/example/marduk/marduk/io/DropReason" "BAD_BODY" "Lcom/example/marduk/marduk/io/DropReason;" (.ref e8)) (hp9 : Exa Z Z.heap e0 "com/example/marduk/marduk/io/DropReason") (hp10 : Exa Z Z.heap e1 "com/example/marduk/marduk/io/DropReason") (hp11 : Exa Z Z.heap e2 "com/example/marduk/marduk/io/DropReason") (hp12 : Exa Z Z.heap e3 "com/example/marduk/marduk/io/DropReason") (hp13 : Exa Z Z.heap e4 "com/example/marduk/marduk/io/DropReason") (hp14 : Exa Z Z.heap e5 "com/example/marduk/marduk/io/DropReason") (hp15 : Exa Z Z.heap e6 "com/example/marduk/marduk/io/DropReason") (hp16 : Exa Z Z.heap e7 "com/example/marduk/marduk/io/DropReason") (hp17 : Exa Z Z.heap e8 "com/example/marduk/marduk/io/DropReason") (hp18 : Fld Z Z.heap e0 "java/lang/Enum" "ordinal" "I" (.int (0 : Int32))) (hp19 : Fld Z Z.heap e1 "java/lang/Enum" "ordinal" "I" (.int (1 : Int32))) (hp20 : Fld Z Z.heap e2 "java/lang/Enum" "ordinal" "I" (.int (2 : Int32))) (hp21 : Fld Z Z.heap e3 "java/lang/Enum" "ordinal" "I" (.int (3 : Int32))) (hp22 : Fld Z Z.heap e4 "java/lang/Enum" "ordinal" "I" (.int (4 : Int32))) (hp23 : Fld Z Z.heap e5 "java/lang/Enum" "ordinal" "I" (.int (5 : Int32))) (hp24 : Fld Z Z.heap e6 "java/lang/Enum" "ordinal" "I" (.int (6 : Int32))) (hp25 : Fld Z Z.heap e7 "java/lang/Enum" "ordinal" "I" (.int (7 : Int32))) (hp26 : Fld Z Z.heap e8 "java/lang/Enum" "ordinal" "I" (.int (8 : Int32))) (hp27 : Old Z n0 h0) (hr : rg p0) :
    OCon l (⟨"com/example/marduk/marduk/io/DropReasonDescriptionPinLaw", "reason", "(I)Lcom/example/marduk/marduk/io/DropReason;"⟩ : MethodName) method_2_code 1 (some (.object "com/example/marduk/marduk/io/DropReason")) ws reason_b_rm Z #[(.int p0)] h0 (reason_b_Q Z p0 e0 e1 e2 e3 e4 e5 e6 e7 e8 h0 n0) := by
  refine ocon (plainFor_of_name pn_com_example_marduk_marduk_io_DropReasonDescriptionPinLaw) ?_
  intro p e s m below meth c s₁ hx hby hml hown hnm hret hlk hZ X0 eh0
  have N0 := Fr.nil n0
  have K0 := Keep.refl h0 []
  refine ogoE (reason_b_ef m p0) ?_
  generalize hG : (OEnd s below (reason_b_Q Z p0 e0 e1 e2 e3 e4 e5 e6 e7 e8 h0 n0) reason_b_rm.cells reason_b_rm.slots) = G
  show OWay p e below G s₁ (mkF m 0 #[.val (.int p0)] [])
  rcases (hr : p0 = (0 : Int32) ∨ p0 = (1 : Int32) ∨ p0 = (2 : Int32) ∨ p0 = (3 : Int32) ∨ p0 = (4 : Int32) ∨ p0 = (5 : Int32) ∨ p0 = (6 : Int32) ∨ p0 = (7 : Int32) ∨ p0 = (8 : Int32)) with rfl | rfl | rfl | rfl | rfl | rfl | rfl | rfl | rfl
  · show OWay p e below G s₁ (mkF m 0 #[.val (.int (0 : Int32))] [])
    refine ogo (fun _ z_ => XS.iloadN X0.here hx rfl (hb hby d1_0) rfl z_) ?_
    show OWay p e below G s₁ (mkF m 1 #[.val (.int (0 : Int32))] [(.int (0 : Int32))])
    refine ogo (fun _ z_ => XS.ifNo X0.here hx rfl (hb hby d1_1) rfl ((if0 _ _).trans (teq rfl).2) z_) ?_
    show OWay p e below G s₁ (mkF m 4 #[.val (.int (0 : Int32))] [])
    obtain ⟨T1, X1, eT1, st1⟩ := getS2 X0 hx hZ hown (host := "") (Or.inl (hw _ (List.mem_of_getElem? (i := 5) rfl))) Via.refl eh0 (hp0.ext hp27.2) (g := (mkF m 4 #[.val (.int (0 : Int32))] [])) rfl (hb hby d1_4)
    refine ogo st1 ?_
    show OWay p e below G T1 (mkF m 7 #[.val (.int (0 : Int32))] [(.ref e0)])
    subst hG
    refine wRet X1 hx hret hlk rfl (Or.inr (Or.inr (Or.inr (Or.inr ⟨rfl, rfl, rfl⟩)))) (hb hby d1_7) (by decide) (by decide) eT1 ?_
    exact ⟨e0, rfl, N0, rfl, hp9, hp18⟩
  · show OWay p e below G s₁ (mkF m 0 #[.val (.int (1 : Int32))] [])
    refine ogo (fun _ z_ => XS.iloadN X0.here hx rfl (hb hby d1_0) rfl z_) ?_
    show OWay p e below G s₁ (mkF m 1 #[.val (.int (1 : Int32))] [(.int (1 : Int32))])
    refine ogo (fun _ z_ => XS.ifYes X0.here hx rfl (pc0 := 1) (pc' := 8) rfl (hb hby d1_1) rfl ((if0 _ _).trans (feq (by decide)).2) (by decide) (by decide) z_) ?_
    show OWay p e below G s₁ (mkF m 8 #[.val (.int (1 : Int32))] [])
    refine ogo (fun _ z_ => XS.iloadN X0.here hx rfl (hb hby d1_8) rfl z_) ?_
    show OWay p e below G s₁ (mkF m 9 #[.val (.int (1 : Int32))] [(.int (1 : Int32))])
    refine ogo (fun _ z_ => XS.iconst X0.here hx rfl (hb hby d1_9) z_) ?_
    show OWay p e below G s₁ (mkF m 10 #[.val (.int (1 : Int32))] [(.int (1 : Int32)), (.int (1 : Int32))])
    refine ogo (fun _ z_ => XS.icmpNo X0.here hx rfl (hb hby d1_10) rfl (teq rfl).2 z_) ?_
    show OWay p e below G s₁ (mkF m 13 #[.val (.int (1 : Int32))] [])
    obtain ⟨T2, X2, eT2, st2⟩ := getS2 X0 hx hZ hown (host := "") (Or.inl (hw _ (List.mem_of_getElem? (i := 89) rfl))) Via.refl eh0 (hp1.ext hp27.2) (g := (mkF m 13 #[.val (.int (1 : Int32))] [])) rfl (hb hby d1_13)
    refine ogo st2 ?_
    show OWay p e below G T2 (mkF m 16 #[.val (.int (1 : Int32))] [(.ref e1)])
    subst hG
    refine wRet X2 hx hret hlk rfl (Or.inr (Or.inr (Or.inr (Or.inr ⟨rfl, rfl, rfl⟩)))) (hb hby d1_16) (by decide) (by decide) eT2 ?_
    exact ⟨e1, rfl, N0, rfl, hp10, hp19⟩
  · show OWay p e below G s₁ (mkF m 0 #[.val (.int (2 : Int32))] [])
    refine ogo (fun _ z_ => XS.iloadN X0.here hx rfl (hb hby d1_0) rfl z_) ?_
    show OWay p e below G s₁ (mkF m 1 #[.val (.int (2 : Int32))] [(.int (2 : Int32))])
    refine ogo (fun _ z_ => XS.ifYes X0.here hx rfl (pc0 := 1) (pc' := 8) rfl (hb hby d1_1) rfl ((if0 _ _).trans (feq (by decide)).2) (by decide) (by decide) z_) ?_
    show OWay p e below G s₁ (mkF m 8 #[.val (.int (2 : Int32))] [])
    refine ogo (fun _ z_ => XS.iloadN X0.here hx rfl (hb hby d1_8) rfl z_) ?_
    show OWay p e below G s₁ (mkF m 9 #[.val (.int (2 : Int32))] [(.int (2 : Int32))])
    refine ogo (fun _ z_ => XS.iconst X0.here hx rfl (hb hby d1_9) z_) ?_
    show OWay p e below G s₁ (mkF m 10 #[.val (.int (2 : Int32))] [(.int (1 : Int32)), (.int (2 : Int32))])
    refine ogo (fun _ z_ => XS.icmpYes X0.here hx rfl (pc0 := 10) (pc' := 17) rfl (hb hby d1_10) rfl (feq (by decide)).2 (by decide) (by decide) z_) ?_
    show OWay p e below G s₁ (mkF m 17 #[.val (.int (2 : Int32))] [])
    refine ogo (fun _ z_ => XS.iloadN X0.here hx rfl (hb hby d1_17) rfl z_) ?_
    show OWay p e below G s₁ (mkF m 18 #[.val (.int (2 : Int32))] [(.int (2 : Int32))])
    refine ogo (fun _ z_ => XS.iconst X0.here hx rfl (hb hby d1_18) z_) ?_
    show OWay p e below G s₁ (mkF m 19 #[.val (.int (2 : Int32))] [(.int (2 : Int32)), (.int (2 : Int32))])
    refine ogo (fun _ z_ => XS.icmpNo X0.here hx rfl (hb hby d1_19) rfl (teq rfl).2 z_) ?_
    show OWay p e below G s₁ (mkF m 22 #[.val (.int (2 : Int32))] [])
    obtain ⟨T3, X3, eT3, st3⟩ := getS2 X0 hx hZ hown (host := "") (Or.inl (hw _ (List.mem_of_getElem? (i := 92) rfl))) Via.refl eh0 (hp2.ext hp27.2) (g := (mkF m 22 #[.val (.int (2 : Int32))] [])) rfl (hb hby d1_22)
    refine ogo st3 ?_
    show OWay p e below G T3 (mkF m 25 #[.val (.int (2 : Int32))] [(.ref e2)])
    subst hG
    refine wRet X3 hx hret hlk rfl (Or.inr (Or.inr (Or.inr (Or.inr ⟨rfl, rfl, rfl⟩)))) (hb hby d1_25) (by decide) (by decide) eT3 ?_
    exact ⟨e2, rfl, N0, rfl, hp11, hp20⟩
  · show OWay p e below G s₁ (mkF m 0 #[.val (.int (3 : Int32))] [])
    refine ogo (fun _ z_ => XS.iloadN X0.here hx rfl (hb hby d1_0) rfl z_) ?_
    show OWay p e below G s₁ (mkF m 1 #[.val (.int (3 : Int32))] [(.int (3 : Int32))])
    refine ogo (fun _ z_ => XS.ifYes X0.here hx rfl (pc0 := 1) (pc' := 8) rfl (hb hby d1_1) rfl ((if0 _ _).trans (feq (by decide)).2) (by decide) (by decide) z_) ?_
    show OWay p e below G s₁ (mkF m 8 #[.val (.int (3 : Int32))] [])
    refine ogo (fun _ z_ => XS.iloadN X0.here hx rfl (hb hby d1_8) rfl z_) ?_
    show OWay p e below G s₁ (mkF m 9 #[.val (.int (3 : Int32))] [(.int (3 : Int32))])
    refine ogo (fun _ z_ => XS.iconst X0.here hx rfl (hb hby d1_9) z_) ?_
    show OWay p e below G s₁ (mkF m 10 #[.val (.int (3 : Int32))] [(.int (1 : Int32)), (.int (3 : Int32))])
    refine ogo (fun _ z_ => XS.icmpYes X0.here hx rfl (pc0 := 10) (pc' := 17) rfl (hb hby d1_10) rfl (feq (by decide)).2 (by decide) (by decide) z_) ?_
    show OWay p e below G s₁ (mkF m 17 #[.val (.int (3 : Int32))] [])
    refine ogo (fun _ z_ => XS.iloadN X0.here hx rfl (hb hby d1_17) rfl z_) ?_
    show OWay p e below G s₁ (mkF m 18 #[.val (.int (3 : Int32))] [(.int (3 : Int32))])
    refine ogo (fun _ z_ => XS.iconst X0.here hx rfl (hb hby d1_18) z_) ?_
    show OWay p e below G s₁ (mkF m 19 #[.val (.int (3 : Int32))] [(.int (2 : Int32)), (.int (3 : Int32))])
    refine ogo (fun _ z_ => XS.icmpYes X0.here hx rfl (pc0 := 19) (pc' := 26) rfl (hb hby d1_19) rfl (feq (by decide)).2 (by decide) (by decide) z_) ?_
    show OWay p e below G s₁ (mkF m 26 #[.val (.int (3 : Int32))] [])
    refine ogo (fun _ z_ => XS.iloadN X0.here hx rfl (hb hby d1_26) rfl z_) ?_
    show OWay p e below G s₁ (mkF m 27 #[.val (.int (3 : Int32))] [(.int (3 : Int32))])
    refine ogo (fun _ z_ => XS.iconst X0.here hx rfl (hb hby d1_27) z_) ?_
    show OWay p e below G s₁ (mkF m 28 #[.val (.int (3 : Int32))] [(.int (3 : Int32)), (.int (3 : Int32))])
    refine ogo (fun _ z_ => XS.icmpNo X0.here hx rfl (hb hby d1_28) rfl (teq rfl).2 z_) ?_
    show OWay p e below G s₁ (mkF m 31 #[.val (.int (3 : Int32))] [])
    obtain ⟨T4, X4, eT4, st4⟩ := getS2 X0 hx hZ hown (host := "") (Or.inl (hw _ (List.mem_of_getElem? (i := 30) rfl))) Via.refl eh0 (hp3.ext hp27.2) (g := (mkF m 31 #[.val (.int (3 : Int32))] [])) rfl (hb hby d1_31)
    refine ogo st4 ?_
    show OWay p e below G T4 (mkF m 34 #[.val (.int (3 : Int32))] [(.ref e3)])
    subst hG
    refine wRet X4 hx hret hlk rfl (Or.inr (Or.inr (Or.inr (Or.inr ⟨rfl, rfl, rfl⟩)))) (hb hby d1_34) (by decide) (by decide) eT4 ?_
    exact ⟨e3, rfl, N0, rfl, hp12, hp21⟩
  · show OWay p e below G s₁ (mkF m 0 #[.val (.int (4 : Int32))] [])
    refine ogo (fun _ z_ => XS.iloadN X0.here hx rfl (hb hby d1_0) rfl z_) ?_
    show OWay p e below G s₁ (mkF m 1 #[.val (.int (4 : Int32))] [(.int (4 : Int32))])
    refine ogo (fun _ z_ => XS.ifYes X0.here hx rfl (pc0 := 1) (pc' := 8) rfl (hb hby d1_1) rfl ((if0 _ _).trans (feq (by decide)).2) (by decide) (by decide) z_) ?_
    show OWay p e below G s₁ (mkF m 8 #[.val (.int (4 : Int32))] [])
    refine ogo (fun _ z_ => XS.iloadN X0.here hx rfl (hb hby d1_8) rfl z_) ?_
    show OWay p e below G s₁ (mkF m 9 #[.val (.int (4 : Int32))] [(.int (4 : Int32))])
    refine ogo (fun _ z_ => XS.iconst X0.here hx rfl (hb hby d1_9) z_) ?_
    show OWay p e below G s₁ (mkF m 10 #[.val (.int (4 : Int32))] [(.int (1 : Int32)), (.int (4 : Int32))])
    refine ogo (fun _ z_ => XS.icmpYes X0.here hx rfl (pc0 := 10) (pc' := 17) rfl (hb hby d1_10) rfl (feq (by decide)).2 (by decide) (by decide) z_) ?_
    show OWay p e below G s₁ (mkF m 17 #[.val (.int (4 : Int32))] [])
    refine ogo (fun _ z_ => XS.iloadN X0.here hx rfl (hb hby d1_17) rfl z_) ?_
    show OWay p e below G s₁ (mkF m 18 #[.val (.int (4 : Int32))] [(.int (4 : Int32))])
    refine ogo (fun _ z_ => XS.iconst X0.here hx rfl (hb hby d1_18) z_) ?_
    show OWay p e below G s₁ (mkF m 19 #[.val (.int (4 : Int32))] [(.int (2 : Int32)), (.int (4 : Int32))])
    refine ogo (fun _ z_ => XS.icmpYes X0.here hx rfl (pc0 := 19) (pc' := 26) rfl (hb hby d1_19) rfl (feq (by decide)).2 (by decide) (by decide) z_) ?_
    show OWay p e below G s₁ (mkF m 26 #[.val (.int (4 : Int32))] [])
    refine ogo (fun _ z_ => XS.iloadN X0.here hx rfl (hb hby d1_26) rfl z_) ?_
    show OWay p e below G s₁ (mkF m 27 #[.val (.int (4 : Int32))] [(.int (4 : Int32))])
    refine ogo (fun _ z_ => XS.iconst X0.here hx rfl (hb hby d1_27) z_) ?_
    show OWay p e below G s₁ (mkF m 28 #[.val (.int (4 : Int32))] [(.int (3 : Int32)), (.int (4 : Int32))])
    refine ogo (fun _ z_ => XS.icmpYes X0.here hx rfl (pc0 := 28) (pc' := 35) rfl (hb hby d1_28) rfl (feq (by decide)).2 (by decide) (by decide) z_) ?_
    show OWay p e below G s₁ (mkF m 35 #[.val (.int (4 : Int32))] [])
    refine ogo (fun _ z_ => XS.iloadN X0.here hx rfl (hb hby d1_35) rfl z_) ?_
    show OWay p e below G s₁ (mkF m 36 #[.val (.int (4 : Int32))] [(.int (4 : Int32))])
    refine ogo (fun _ z_ => XS.iconst X0.here hx rfl (hb hby d1_36) z_) ?_
    show OWay p e below G s₁ (mkF m 37 #[.val (.int (4 : Int32))] [(.int (4 : Int32)), (.int (4 : Int32))])
    refine ogo (fun _ z_ => XS.icmpNo X0.here hx rfl (hb hby d1_37) rfl (teq rfl).2 z_) ?_
    show OWay p e below G s₁ (mkF m 40 #[.val (.int (4 : Int32))] [])
    obtain ⟨T5, X5, eT5, st5⟩ := getS2 X0 hx hZ hown (host := "") (Or.inl (hw _ (List.mem_of_getElem? (i := 95) rfl))) Via.refl eh0 (hp4.ext hp27.2) (g := (mkF m 40 #[.val (.int (4 : Int32))] [])) rfl (hb hby d1_40)
    refine ogo st5 ?_
    show OWay p e below G T5 (mkF m 43 #[.val (.int (4 : Int32))] [(.ref e4)])
    subst hG
    refine wRet X5 hx hret hlk rfl (Or.inr (Or.inr (Or.inr (Or.inr ⟨rfl, rfl, rfl⟩)))) (hb hby d1_43) (by decide) (by decide) eT5 ?_
    exact ⟨e4, rfl, N0, rfl, hp13, hp22⟩
  · show OWay p e below G s₁ (mkF m 0 #[.val (.int (5 : Int32))] [])
    refine ogo (fun _ z_ => XS.iloadN X0.here hx rfl (hb hby d1_0) rfl z_) ?_
    show OWay p e below G s₁ (mkF m 1 #[.val (.int (5 : Int32))] [(.int (5 : Int32))])
    refine ogo (fun _ z_ => XS.ifYes X0.here hx rfl (pc0 := 1) (pc' := 8) rfl (hb hby d1_1) rfl ((if0 _ _).trans (feq (by decide)).2) (by decide) (by decide) z_) ?_
    show OWay p e below G s₁ (mkF m 8 #[.val (.int (5 : Int32))] [])
    refine ogo (fun _ z_ => XS.iloadN X0.here hx rfl (hb hby d1_8) rfl z_) ?_
    show OWay p e below G s₁ (mkF m 9 #[.val (.int (5 : Int32))] [(.int (5 : Int32))])
    refine ogo (fun _ z_ => XS.iconst X0.here hx rfl (hb hby d1_9) z_) ?_
    show OWay p e below G s₁ (mkF m 10 #[.val (.int (5 : Int32))] [(.int (1 : Int32)), (.int (5 : Int32))])
    refine ogo (fun _ z_ => XS.icmpYes X0.here hx rfl (pc0 := 10) (pc' := 17) rfl (hb hby d1_10) rfl (feq (by decide)).2 (by decide) (by decide) z_) ?_
    show OWay p e below G s₁ (mkF m 17 #[.val (.int (5 : Int32))] [])
    refine ogo (fun _ z_ => XS.iloadN X0.here hx rfl (hb hby d1_17) rfl z_) ?_
    show OWay p e below G s₁ (mkF m 18 #[.val (.int (5 : Int32))] [(.int (5 : Int32))])
    refine ogo (fun _ z_ => XS.iconst X0.here hx rfl (hb hby d1_18) z_) ?_
    show OWay p e below G s₁ (mkF m 19 #[.val (.int (5 : Int32))] [(.int (2 : Int32)), (.int (5 : Int32))])
    refine ogo (fun _ z_ => XS.icmpYes X0.here hx rfl (pc0 := 19) (pc' := 26) rfl (hb hby d1_19) rfl (feq (by decide)).2 (by decide) (by decide) z_) ?_
    show OWay p e below G s₁ (mkF m 26 #[.val (.int (5 : Int32))] [])
    refine ogo (fun _ z_ => XS.iloadN X0.here hx rfl (hb hby d1_26) rfl z_) ?_
    show OWay p e below G s₁ (mkF m 27 #[.val (.int (5 : Int32))] [(.int (5 : Int32))])
    refine ogo (fun _ z_ => XS.iconst X0.here hx rfl (hb hby d1_27) z_) ?_
    show OWay p e below G s₁ (mkF m 28 #[.val (.int (5 : Int32))] [(.int (3 : Int32)), (.int (5 : Int32))])
    refine ogo (fun _ z_ => XS.icmpYes X0.here hx rfl (pc0 := 28) (pc' := 35) rfl (hb hby d1_28) rfl (feq (by decide)).2 (by decide) (by decide) z_) ?_
    show OWay p e below G s₁ (mkF m 35 #[.val (.int (5 : Int32))] [])
    refine ogo (fun _ z_ => XS.iloadN X0.here hx rfl (hb hby d1_35) rfl z_) ?_
    show OWay p e below G s₁ (mkF m 36 #[.val (.int (5 : Int32))] [(.int (5 : Int32))])
    refine ogo (fun _ z_ => XS.iconst X0.here hx rfl (hb hby d1_36) z_) ?_
    show OWay p e below G s₁ (mkF m 37 #[.val (.int (5 : Int32))] [(.int (4 : Int32)), (.int (5 : Int32))])
    refine ogo (fun _ z_ => XS.icmpYes X0.here hx rfl (pc0 := 37) (pc' := 44) rfl (hb hby d1_37) rfl (feq (by decide)).2 (by decide) (by decide) z_) ?_
    show OWay p e below G s₁ (mkF m 44 #[.val (.int (5 : Int32))] [])
    refine ogo (fun _ z_ => XS.iloadN X0.here hx rfl (hb hby d1_44) rfl z_) ?_
    show OWay p e below G s₁ (mkF m 45 #[.val (.int (5 : Int32))] [(.int (5 : Int32))])
    refine ogo (fun _ z_ => XS.iconst X0.here hx rfl (hb hby d1_45) z_) ?_
    show OWay p e below G s₁ (mkF m 46 #[.val (.int (5 : Int32))] [(.int (5 : Int32)), (.int (5 : Int32))])
    refine ogo (fun _ z_ => XS.icmpNo X0.here hx rfl (hb hby d1_46) rfl (teq rfl).2 z_) ?_
    show OWay p e below G s₁ (mkF m 49 #[.val (.int (5 : Int32))] [])
    obtain ⟨T6, X6, eT6, st6⟩ := getS2 X0 hx hZ hown (host := "") (Or.inl (hw _ (List.mem_of_getElem? (i := 86) rfl))) Via.refl eh0 (hp5.ext hp27.2) (g := (mkF m 49 #[.val (.int (5 : Int32))] [])) rfl (hb hby d1_49)
    refine ogo st6 ?_
    show OWay p e below G T6 (mkF m 52 #[.val (.int (5 : Int32))] [(.ref e5)])
    subst hG
    refine wRet X6 hx hret hlk rfl (Or.inr (Or.inr (Or.inr (Or.inr ⟨rfl, rfl, rfl⟩)))) (hb hby d1_52) (by decide) (by decide) eT6 ?_
    exact ⟨e5, rfl, N0, rfl, hp14, hp23⟩
  · show OWay p e below G s₁ (mkF m 0 #[.val (.int (6 : Int32))] [])
    refine ogo (fun _ z_ => XS.iloadN X0.here hx rfl (hb hby d1_0) rfl z_) ?_
    show OWay p e below G s₁ (mkF m 1 #[.val (.int (6 : Int32))] [(.int (6 : Int32))])
    refine ogo (fun _ z_ => XS.ifYes X0.here hx rfl (pc0 := 1) (pc' := 8) rfl (hb hby d1_1) rfl ((if0 _ _).trans (feq (by decide)).2) (by decide) (by decide) z_) ?_
    show OWay p e below G s₁ (mkF m 8 #[.val (.int (6 : Int32))] [])
    refine ogo (fun _ z_ => XS.iloadN X0.here hx rfl (hb hby d1_8) rfl z_) ?_
    show OWay p e below G s₁ (mkF m 9 #[.val (.int (6 : Int32))] [(.int (6 : Int32))])
    refine ogo (fun _ z_ => XS.iconst X0.here hx rfl (hb hby d1_9) z_) ?_
    show OWay p e below G s₁ (mkF m 10 #[.val (.int (6 : Int32))] [(.int (1 : Int32)), (.int (6 : Int32))])
    refine ogo (fun _ z_ => XS.icmpYes X0.here hx rfl (pc0 := 10) (pc' := 17) rfl (hb hby d1_10) rfl (feq (by decide)).2 (by decide) (by decide) z_) ?_
    show OWay p e below G s₁ (mkF m 17 #[.val (.int (6 : Int32))] [])
    refine ogo (fun _ z_ => XS.iloadN X0.here hx rfl (hb hby d1_17) rfl z_) ?_
    show OWay p e below G s₁ (mkF m 18 #[.val (.int (6 : Int32))] [(.int (6 : Int32))])
    refine ogo (fun _ z_ => XS.iconst X0.here hx rfl (hb hby d1_18) z_) ?_
    show OWay p e below G s₁ (mkF m 19 #[.val (.int (6 : Int32))] [(.int (2 : Int32)), (.int (6 : Int32))])
    refine ogo (fun _ z_ => XS.icmpYes X0.here hx rfl (pc0 := 19) (pc' := 26) rfl (hb hby d1_19) rfl (feq (by decide)).2 (by decide) (by decide) z_) ?_
    show OWay p e below G s₁ (mkF m 26 #[.val (.int (6 : Int32))] [])
    refine ogo (fun _ z_ => XS.iloadN X0.here hx rfl (hb hby d1_26) rfl z_) ?_
    show OWay p e below G s₁ (mkF m 27 #[.val (.int (6 : Int32))] [(.int (6 : Int32))])
    refine ogo (fun _ z_ => XS.iconst X0.here hx rfl (hb hby d1_27) z_) ?_
    show OWay p e below G s₁ (mkF m 28 #[.val (.int (6 : Int32))] [(.int (3 : Int32)), (.int (6 : Int32))])
    refine ogo (fun _ z_ => XS.icmpYes X0.here hx rfl (pc0 := 28) (pc' := 35) rfl (hb hby d1_28) rfl (feq (by decide)).2 (by decide) (by decide) z_) ?_
    show OWay p e below G s₁ (mkF m 35 #[.val (.int (6 : Int32))] [])
    refine ogo (fun _ z_ => XS.iloadN X0.here hx rfl (hb hby d1_35) rfl z_) ?_
    show OWay p e below G s₁ (mkF m 36 #[.val (.int (6 : Int32))] [(.int (6 : Int32))])
    refine ogo (fun _ z_ => XS.iconst X0.here hx rfl (hb hby d1_36) z_) ?_
    show OWay p e below G s₁ (mkF m 37 #[.val (.int (6 : Int32))] [(.int (4 : Int32)), (.int (6 : Int32))])
    refine ogo (fun _ z_ => XS.icmpYes X0.here hx rfl (pc0 := 37) (pc' := 44) rfl (hb hby d1_37) rfl (feq (by decide)).2 (by decide) (by decide) z_) ?_
    show OWay p e below G s₁ (mkF m 44 #[.val (.int (6 : Int32))] [])
    refine ogo (fun _ z_ => XS.iloadN X0.here hx rfl (hb hby d1_44) rfl z_) ?_
    show OWay p e below G s₁ (mkF m 45 #[.val (.int (6 : Int32))] [(.int (6 : Int32))])
    refine ogo (fun _ z_ => XS.iconst X0.here hx rfl (hb hby d1_45) z_) ?_
    show OWay p e below G s₁ (mkF m 46 #[.val (.int (6 : Int32))] [(.int (5 : Int32)), (.int (6 : Int32))])
    refine ogo (fun _ z_ => XS.icmpYes X0.here hx rfl (pc0 := 46) (pc' := 53) rfl (hb hby d1_46) rfl (feq (by decide)).2 (by decide) (by decide) z_) ?_
    show OWay p e below G s₁ (mkF m 53 #[.val (.int (6 : Int32))] [])
    refine ogo (fun _ z_ => XS.iloadN X0.here hx rfl (hb hby d1_53) rfl z_) ?_
    show OWay p e below G s₁ (mkF m 54 #[.val (.int (6 : Int32))] [(.int (6 : Int32))])
    refine ogo (fun _ z_ => XS.bipush X0.here hx rfl (hb hby d1_54) z_) ?_
    show OWay p e below G s₁ (mkF m 56 #[.val (.int (6 : Int32))] [(.int (6 : Int32)), (.int (6 : Int32))])
    refine ogo (fun _ z_ => XS.icmpNo X0.here hx rfl (hb hby d1_56) rfl (teq rfl).2 z_) ?_
    show OWay p e below G s₁ (mkF m 59 #[.val (.int (6 : Int32))] [])
    obtain ⟨T7, X7, eT7, st7⟩ := getS2 X0 hx hZ hown (host := "") (Or.inl (hw _ (List.mem_of_getElem? (i := 98) rfl))) Via.refl eh0 (hp6.ext hp27.2) (g := (mkF m 59 #[.val (.int (6 : Int32))] [])) rfl (hb hby d1_59)
    refine ogo st7 ?_
    show OWay p e below G T7 (mkF m 62 #[.val (.int (6 : Int32))] [(.ref e6)])
    subst hG
    refine wRet X7 hx hret hlk rfl (Or.inr (Or.inr (Or.inr (Or.inr ⟨rfl, rfl, rfl⟩)))) (hb hby d1_62) (by decide) (by decide) eT7 ?_
    exact ⟨e6, rfl, N0, rfl, hp15, hp24⟩
  · show OWay p e below G s₁ (mkF m 0 #[.val (.int (7 : Int32))] [])
    refine ogo (fun _ z_ => XS.iloadN X0.here hx rfl (hb hby d1_0) rfl z_) ?_
    show OWay p e below G s₁ (mkF m 1 #[.val (.int (7 : Int32))] [(.int (7 : Int32))])
    refine ogo (fun _ z_ => XS.ifYes X0.here hx rfl (pc0 := 1) (pc' := 8) rfl (hb hby d1_1) rfl ((if0 _ _).trans (feq (by decide)).2) (by decide) (by decide) z_) ?_
    show OWay p e below G s₁ (mkF m 8 #[.val (.int (7 : Int32))] [])
    refine ogo (fun _ z_ => XS.iloadN X0.here hx rfl (hb hby d1_8) rfl z_) ?_
    show OWay p e below G s₁ (mkF m 9 #[.val (.int (7 : Int32))] [(.int (7 : Int32))])
    refine ogo (fun _ z_ => XS.iconst X0.here hx rfl (hb hby d1_9) z_) ?_
    show OWay p e below G s₁ (mkF m 10 #[.val (.int (7 : Int32))] [(.int (1 : Int32)), (.int (7 : Int32))])
    refine ogo (fun _ z_ => XS.icmpYes X0.here hx rfl (pc0 := 10) (pc' := 17) rfl (hb hby d1_10) rfl (feq (by decide)).2 (by decide) (by decide) z_) ?_
    show OWay p e below G s₁ (mkF m 17 #[.val (.int (7 : Int32))] [])
    refine ogo (fun _ z_ => XS.iloadN X0.here hx rfl (hb hby d1_17) rfl z_) ?_
    show OWay p e below G s₁ (mkF m 18 #[.val (.int (7 : Int32))] [(.int (7 : Int32))])
    refine ogo (fun _ z_ => XS.iconst X0.here hx rfl (hb hby d1_18) z_) ?_
    show OWay p e below G s₁ (mkF m 19 #[.val (.int (7 : Int32))] [(.int (2 : Int32)), (.int (7 : Int32))])
    refine ogo (fun _ z_ => XS.icmpYes X0.here hx rfl (pc0 := 19) (pc' := 26) rfl (hb hby d1_19) rfl (feq (by decide)).2 (by decide) (by decide) z_) ?_
    show OWay p e below G s₁ (mkF m 26 #[.val (.int (7 : Int32))] [])
    refine ogo (fun _ z_ => XS.iloadN X0.here hx rfl (hb hby d1_26) rfl z_) ?_
    show OWay p e below G s₁ (mkF m 27 #[.val (.int (7 : Int32))] [(.int (7 : Int32))])
    refine ogo (fun _ z_ => XS.iconst X0.here hx rfl (hb hby d1_27) z_) ?_
    show OWay p e below G s₁ (mkF m 28 #[.val (.int (7 : Int32))] [(.int (3 : Int32)), (.int (7 : Int32))])
    refine ogo (fun _ z_ => XS.icmpYes X0.here hx rfl (pc0 := 28) (pc' := 35) rfl (hb hby d1_28) rfl (feq (by decide)).2 (by decide) (by decide) z_) ?_
    show OWay p e below G s₁ (mkF m 35 #[.val (.int (7 : Int32))] [])
    refine ogo (fun _ z_ => XS.iloadN X0.here hx rfl (hb hby d1_35) rfl z_) ?_
    show OWay p e below G s₁ (mkF m 36 #[.val (.int (7 : Int32))] [(.int (7 : Int32))])
    refine ogo (fun _ z_ => XS.iconst X0.here hx rfl (hb hby d1_36) z_) ?_
    show OWay p e below G s₁ (mkF m 37 #[.val (.int (7 : Int32))] [(.int (4 : Int32)), (.int (7 : Int32))])
    refine ogo (fun _ z_ => XS.icmpYes X0.here hx rfl (pc0 := 37) (pc' := 44) rfl (hb hby d1_37) rfl (feq (by decide)).2 (by decide) (by decide) z_) ?_
    show OWay p e below G s₁ (mkF m 44 #[.val (.int (7 : Int32))] [])
    refine ogo (fun _ z_ => XS.iloadN X0.here hx rfl (hb hby d1_44) rfl z_) ?_
    show OWay p e below G s₁ (mkF m 45 #[.val (.int (7 : Int32))] [(.int (7 : Int32))])
    refine ogo (fun _ z_ => XS.iconst X0.here hx rfl (hb hby d1_45) z_) ?_
    show OWay p e below G s₁ (mkF m 46 #[.val (.int (7 : Int32))] [(.int (5 : Int32)), (.int (7 : Int32))])
    refine ogo (fun _ z_ => XS.icmpYes X0.here hx rfl (pc0 := 46) (pc' := 53) rfl (hb hby d1_46) rfl (feq (by decide)).2 (by decide) (by decide) z_) ?_
    show OWay p e below G s₁ (mkF m 53 #[.val (.int (7 : Int32))] [])
    refine ogo (fun _ z_ => XS.iloadN X0.here hx rfl (hb hby d1_53) rfl z_) ?_
    show OWay p e below G s₁ (mkF m 54 #[.val (.int (7 : Int32))] [(.int (7 : Int32))])
    refine ogo (fun _ z_ => XS.bipush X0.here hx rfl (hb hby d1_54) z_) ?_
    show OWay p e below G s₁ (mkF m 56 #[.val (.int (7 : Int32))] [(.int (6 : Int32)), (.int (7 : Int32))])
    refine ogo (fun _ z_ => XS.icmpYes X0.here hx rfl (pc0 := 56) (pc' := 63) rfl (hb hby d1_56) rfl (feq (by decide)).2 (by decide) (by decide) z_) ?_
    show OWay p e below G s₁ (mkF m 63 #[.val (.int (7 : Int32))] [])
    refine ogo (fun _ z_ => XS.iloadN X0.here hx rfl (hb hby d1_63) rfl z_) ?_
    show OWay p e below G s₁ (mkF m 64 #[.val (.int (7 : Int32))] [(.int (7 : Int32))])
    refine ogo (fun _ z_ => XS.bipush X0.here hx rfl (hb hby d1_64) z_) ?_
    show OWay p e below G s₁ (mkF m 66 #[.val (.int (7 : Int32))] [(.int (7 : Int32)), (.int (7 : Int32))])
    refine ogo (fun _ z_ => XS.icmpNo X0.here hx rfl (hb hby d1_66) rfl (teq rfl).2 z_) ?_
    show OWay p e below G s₁ (mkF m 69 #[.val (.int (7 : Int32))] [])
    obtain ⟨T8, X8, eT8, st8⟩ := getS2 X0 hx hZ hown (host := "") (Or.inl (hw _ (List.mem_of_getElem? (i := 104) rfl))) Via.refl eh0 (hp7.ext hp27.2) (g := (mkF m 69 #[.val (.int (7 : Int32))] [])) rfl (hb hby d1_69)
    refine ogo st8 ?_
    show OWay p e below G T8 (mkF m 72 #[.val (.int (7 : Int32))] [(.ref e7)])
    subst hG
    refine wRet X8 hx hret hlk rfl (Or.inr (Or.inr (Or.inr (Or.inr ⟨rfl, rfl, rfl⟩)))) (hb hby d1_72) (by decide) (by decide) eT8 ?_
    exact ⟨e7, rfl, N0, rfl, hp16, hp25⟩
  · show OWay p e below G s₁ (mkF m 0 #[.val (.int (8 : Int32))] [])
    refine ogo (fun _ z_ => XS.iloadN X0.here hx rfl (hb hby d1_0) rfl z_) ?_
    show OWay p e below G s₁ (mkF m 1 #[.val (.int (8 : Int32))] [(.int (8 : Int32))])
    refine ogo (fun _ z_ => XS.ifYes X0.here hx rfl (pc0 := 1) (pc' := 8) rfl (hb hby d1_1) rfl ((if0 _ _).trans (feq (by decide)).2) (by decide) (by decide) z_) ?_
    show OWay p e below G s₁ (mkF m 8 #[.val (.int (8 : Int32))] [])
    refine ogo (fun _ z_ => XS.iloadN X0.here hx rfl (hb hby d1_8) rfl z_) ?_
    show OWay p e below G s₁ (mkF m 9 #[.val (.int (8 : Int32))] [(.int (8 : Int32))])
    refine ogo (fun _ z_ => XS.iconst X0.here hx rfl (hb hby d1_9) z_) ?_
    show OWay p e below G s₁ (mkF m 10 #[.val (.int (8 : Int32))] [(.int (1 : Int32)), (.int (8 : Int32))])
    refine ogo (fun _ z_ => XS.icmpYes X0.here hx rfl (pc0 := 10) (pc' := 17) rfl (hb hby d1_10) rfl (feq (by decide)).2 (by decide) (by decide) z_) ?_
    show OWay p e below G s₁ (mkF m 17 #[.val (.int (8 : Int32))] [])
    refine ogo (fun _ z_ => XS.iloadN X0.here hx rfl (hb hby d1_17) rfl z_) ?_
    show OWay p e below G s₁ (mkF m 18 #[.val (.int (8 : Int32))] [(.int (8 : Int32))])
    refine ogo (fun _ z_ => XS.iconst X0.here hx rfl (hb hby d1_18) z_) ?_
    show OWay p e below G s₁ (mkF m 19 #[.val (.int (8 : Int32))] [(.int (2 : Int32)), (.int (8 : Int32))])
    refine ogo (fun _ z_ => XS.icmpYes X0.here hx rfl (pc0 := 19) (pc' := 26) rfl (hb hby d1_19) rfl (feq (by decide)).2 (by decide) (by decide) z_) ?_
    show OWay p e below G s₁ (mkF m 26 #[.val (.int (8 : Int32))] [])
    refine ogo (fun _ z_ => XS.iloadN X0.here hx rfl (hb hby d1_26) rfl z_) ?_
    show OWay p e below G s₁ (mkF m 27 #[.val (.int (8 : Int32))] [(.int (8 : Int32))])
    refine ogo (fun _ z_ => XS.iconst X0.here hx rfl (hb hby d1_27) z_) ?_
    show OWay p e below G s₁ (mkF m 28 #[.val (.int (8 : Int32))] [(.int (3 : Int32)), (.int (8 : Int32))])
    refine ogo (fun _ z_ => XS.icmpYes X0.here hx rfl (pc0 := 28) (pc' := 35) rfl (hb hby d1_28) rfl (feq (by decide)).2 (by decide) (by decide) z_) ?_
    show OWay p e below G s₁ (mkF m 35 #[.val (.int (8 : Int32))] [])
    refine ogo (fun _ z_ => XS.iloadN X0.here hx rfl (hb hby d1_35) rfl z_) ?_
    show OWay p e below G s₁ (mkF m 36 #[.val (.int (8 : Int32))] [(.int (8 : Int32))])
    refine ogo (fun _ z_ => XS.iconst X0.here hx rfl (hb hby d1_36) z_) ?_
    show OWay p e below G s₁ (mkF m 37 #[.val (.int (8 : Int32))] [(.int (4 : Int32)), (.int (8 : Int32))])
    refine ogo (fun _ z_ => XS.icmpYes X0.here hx rfl (pc0 := 37) (pc' := 44) rfl (hb hby d1_37) rfl (feq (by decide)).2 (by decide) (by decide) z_) ?_
    show OWay p e below G s₁ (mkF m 44 #[.val (.int (8 : Int32))] [])
    refine ogo (fun _ z_ => XS.iloadN X0.here hx rfl (hb hby d1_44) rfl z_) ?_
    show OWay p e below G s₁ (mkF m 45 #[.val (.int (8 : Int32))] [(.int (8 : Int32))])
    refine ogo (fun _ z_ => XS.iconst X0.here hx rfl (hb hby d1_45) z_) ?_
    show OWay p e below G s₁ (mkF m 46 #[.val (.int (8 : Int32))] [(.int (5 : Int32)), (.int (8 : Int32))])
    refine ogo (fun _ z_ => XS.icmpYes X0.here hx rfl (pc0 := 46) (pc' := 53) rfl (hb hby d1_46) rfl (feq (by decide)).2 (by decide) (by decide) z_) ?_
    show OWay p e below G s₁ (mkF m 53 #[.val (.int (8 : Int32))] [])
    refine ogo (fun _ z_ => XS.iloadN X0.here hx rfl (hb hby d1_53) rfl z_) ?_
    show OWay p e below G s₁ (mkF m 54 #[.val (.int (8 : Int32))] [(.int (8 : Int32))])
    refine ogo (fun _ z_ => XS.bipush X0.here hx rfl (hb hby d1_54) z_) ?_
    show OWay p e below G s₁ (mkF m 56 #[.val (.int (8 : Int32))] [(.int (6 : Int32)), (.int (8 : Int32))])
    refine ogo (fun _ z_ => XS.icmpYes X0.here hx rfl (pc0 := 56) (pc' := 63) rfl (hb hby d1_56) rfl (feq (by decide)).2 (by decide) (by decide) z_) ?_
    show OWay p e below G s₁ (mkF m 63 #[.val (.int (8 : Int32))] [])
    refine ogo (fun _ z_ => XS.iloadN X0.here hx rfl (hb hby d1_63) rfl z_) ?_
    show OWay p e below G s₁ (mkF m 64 #[.val (.int (8 : Int32))] [(.int (8 : Int32))])
    refine ogo (fun _ z_ => XS.bipush X0.here hx rfl (hb hby d1_64) z_) ?_
    show OWay p e below G s₁ (mkF m 66 #[.val (.int (8 : Int32))] [(.int (7 : Int32)), (.int (8 : Int32))])
    refine ogo (fun _ z_ => XS.icmpYes X0.here hx rfl (pc0 := 66) (pc' := 73) rfl (hb hby d1_66) rfl (feq (by decide)).2 (by decide) (by decide) z_) ?_
    show OWay p e below G s₁ (mkF m 73 #[.val (.int (8 : Int32))] [])
    obtain ⟨T9, X9, eT9, st9⟩ := getS2 X0 hx hZ hown (host := "") (Or.inl (hw _ (List.mem_of_getElem? (i := 101) rfl))) Via.refl eh0 (hp8.ext hp27.2) (g := (mkF m 73 #[.val (.int (8 : Int32))] [])) rfl (hb hby d1_73)
    refine ogo st9 ?_
    show OWay p e below G T9 (mkF m 76 #[.val (.int (8 : Int32))] [(.ref e8)])
    subst hG
    refine wRet X9 hx hret hlk rfl (Or.inr (Or.inr (Or.inr (Or.inr ⟨rfl, rfl, rfl⟩)))) (hb hby d1_76) (by decide) (by decide) eT9 ?_
    exact ⟨e8, rfl, N0, rfl, hp17, hp26⟩
theorem pn_java_lang_Enum : plainName "java/lang/Enum" = true := by first | (simp [plainName, overriddenIn]; done) | decide +kernel
theorem d3_0 : decode jdk_37_method_2_code 0 = .ok (.aload_n 0, 1) := by decide +kernel
theorem d3_1 : decode jdk_37_method_2_code 1 = .ok (.getfield 7, 3) := by decide +kernel
theorem d3_4 : decode jdk_37_method_2_code 4 = .ok (.ireturn, 1) := by decide +kernel
def ord_rm : Room := { frames := 0, cells := 0, slots := 0, locals := 0 }
def ord_Q (Z : State) (a0 : Addr) (w : Int32) (h0 : Heap) (n0 : Nat) (v : Option Value) (h : Heap) (L : List Loc) : Prop := (v = some (.int w)) ∧ (Fr n0 L) ∧ (h = h0)
theorem ord_ef (m : MethodId) (a0 : Addr) : entryFrame m #[(.ref a0)] 1 = mkF m 0 #[.val (.ref a0)] [] := by first | (simp [entryFrame, mkF, argsToLocals, Value.category]; done) | rfl
set_option maxRecDepth 65536 in
set_option maxHeartbeats 40000000 in
theorem ord_c (l : Launch) (Z : State) (az : Array Value) (hw : ∀ d ∈ tables_1, d.before az Z = true) (ws : List Jvm.Cond) (a0 : Addr) (w : Int32) (h0 : Heap) (n0 : Nat) (Z0 : n0 ≤ h0.size) (hp0 : Fld Z h0 a0 "java/lang/Enum" "ordinal" "I" (.int w)) :
    OCon l (⟨"java/lang/Enum", "ordinal", "()I"⟩ : MethodName) jdk_37_method_2_code 1 (some .int) ws ord_rm Z #[(.ref a0)] h0 (ord_Q Z a0 w h0 n0) := by
  refine ocon (plainFor_of_name pn_java_lang_Enum) ?_
  intro p e s m below meth c s₁ hx hby hml hown hnm hret hlk hZ X0 eh0
  have N0 := Fr.nil n0
  have K0 := Keep.refl h0 []
  refine ogoE (ord_ef m a0) ?_
  generalize hG : (OEnd s below (ord_Q Z a0 w h0 n0) ord_rm.cells ord_rm.slots) = G
  show OWay p e below G s₁ (mkF m 0 #[.val (.ref a0)] [])
  refine ogo (fun _ z_ => XS.aloadN X0.here hx rfl (hb hby d3_0) rfl rfl z_) ?_
  show OWay p e below G s₁ (mkF m 1 #[.val (.ref a0)] [(.ref a0)])
  obtain ⟨T1, X1, eT1, st1⟩ := getF X0 hx hZ hown (host := "") (Or.inl (hw _ (List.mem_of_getElem? (i := 20) rfl))) Via.refl eh0 hp0 (g := (mkF m 1 #[.val (.ref a0)] [(.ref a0)])) rfl rfl (hb hby d3_1)
  refine ogo st1 ?_
  show OWay p e below G T1 (mkF m 4 #[.val (.ref a0)] [(.int w)])
  subst hG
  refine wRet X1 hx hret hlk rfl (Or.inl ⟨rfl, Or.inl rfl, _, rfl⟩) (hb hby d3_4) (by decide) (by decide) eT1 ?_
  exact ⟨rfl, N0, rfl⟩
theorem d4_0 : decode method_3_code 0 = .ok (.aload_n 0, 1) := by decide +kernel
theorem d4_1 : decode method_3_code 1 = .ok (.ifnull 10, 3) := by decide +kernel
theorem d4_4 : decode method_3_code 4 = .ok (.aload_n 0, 1) := by decide +kernel
theorem d4_5 : decode method_3_code 5 = .ok (.invokevirtual 37, 3) := by decide +kernel
theorem pd___Z : parseMethodDescriptor "()Z" = some ⟨[], some .boolean⟩ := by decide +kernel
theorem d4_8 : decode method_3_code 8 = .ok (.ifCond .eq 5, 3) := by decide +kernel
theorem d4_13 : decode method_3_code 13 = .ok (.aload_n 0, 1) := by decide +kernel
theorem d4_14 : decode method_3_code 14 = .ok (.iconst 0, 1) := by decide +kernel
theorem d4_15 : decode method_3_code 15 = .ok (.invokevirtual 43, 3) := by decide +kernel
theorem pd__I_C : parseMethodDescriptor "(I)C" = some ⟨[.int], some .char⟩ := by decide +kernel
theorem d4_18 : decode method_3_code 18 = .ok (.istore_n 1, 1) := by decide +kernel
theorem d4_19 : decode method_3_code 19 = .ok (.aload_n 0, 1) := by decide +kernel
theorem d4_20 : decode method_3_code 20 = .ok (.aload_n 0, 1) := by decide +kernel
theorem d4_21 : decode method_3_code 21 = .ok (.invokevirtual 47, 3) := by decide +kernel
theorem pd___I : parseMethodDescriptor "()I" = some ⟨[], some .int⟩ := by decide +kernel
theorem d4_24 : decode method_3_code 24 = .ok (.iconst 1, 1) := by decide +kernel
theorem d4_25 : decode method_3_code 25 = .ok (.isub, 1) := by decide +kernel
theorem d4_26 : decode method_3_code 26 = .ok (.invokevirtual 43, 3) := by decide +kernel
theorem d4_29 : decode method_3_code 29 = .ok (.istore_n 2, 1) := by decide +kernel
theorem d4_30 : decode method_3_code 30 = .ok (.iload_n 1, 1) := by decide +kernel
theorem d4_31 : decode method_3_code 31 = .ok (.bipush 97, 2) := by decide +kernel
theorem d4_33 : decode method_3_code 33 = .ok (.if_icmp .lt 19, 3) := by decide +kernel
theorem d4_36 : decode method_3_code 36 = .ok (.iload_n 1, 1) := by decide +kernel
theorem d4_37 : decode method_3_code 37 = .ok (.bipush 122, 2) := by decide +kernel
theorem d4_39 : decode method_3_code 39 = .ok (.if_icmp .gt 13, 3) := by decide +kernel
theorem d4_42 : decode method_3_code 42 = .ok (.iload_n 2, 1) := by decide +kernel
theorem d4_43 : decode method_3_code 43 = .ok (.bipush 32, 2) := by decide +kernel
theorem d4_45 : decode method_3_code 45 = .ok (.if_icmp .eq 7, 3) := by decide +kernel
theorem d4_48 : decode method_3_code 48 = .ok (.iconst 1, 1) := by decide +kernel
theorem d4_49 : decode method_3_code 49 = .ok (.goto 4, 3) := by decide +kernel
theorem d4_53 : decode method_3_code 53 = .ok (.ireturn, 1) := by decide +kernel
def wf_b_rm : Room := { frames := 4, cells := 0, slots := 0, locals := 53 }
def wf_b_Q (Z : State) (a0 : Addr) (b : Addr) (k : ClassId) (cs : List Int32) (G1 : Int32) (fm : Value) (h0 : Heap) (n0 : Nat) (v : Option Value) (h : Heap) (L : List Loc) : Prop := (v = some (.int (1 : Int32))) ∧ (Fr n0 L) ∧ (h = h0)
theorem wf_b_ef (m : MethodId) (a0 : Addr) : entryFrame m #[(.ref a0)] 3 = mkF m 0 #[.val (.ref a0), .unset, .unset] [] := by first | (simp [entryFrame, mkF, argsToLocals, Value.category]; done) | rfl
set_option maxRecDepth 65536 in
set_option maxHeartbeats 40000000 in
theorem wf_b_c (l : Launch) (Z : State) (az : Array Value) (hw : ∀ d ∈ tables_1, d.before az Z = true) (ws : List Jvm.Cond) (a0 : Addr) (b : Addr) (k : ClassId) (cs : List Int32) (G1 : Int32) (fm : Value) (h0 : Heap) (n0 : Nat) (Z0 : n0 ≤ h0.size) (hp0 : Exa Z h0 a0 "java/lang/String") (hp1 : Fld Z h0 a0 "java/lang/String" "coder" "B" (.int (0 : Int32))) (hp2 : Fld Z h0 a0 "java/lang/String" "value" "[B" (.ref b)) (hp3 : Arv Z h0 b k .byte (Int32.ofNat cs.length) (cs.map fun c => Value.int (StrChars.lo8 c)) (.int (0 : Int32))) (hp4 : Sta Z Z.heap "java/lang/String" "COMPACT_STRINGS" "Z" (.int G1)) (hp5 : Sta Z Z.heap "jdk/internal/util/Preconditions" "SIOOBE_FORMATTER" "Ljava/util/function/BiFunction;" fm) (hp6 : Old Z n0 h0) (hwl : wl cs) (hcp : ¬ (G1 = (0 : Int32))) (hfm : fm.isRef = true) :
    OCon l (⟨"com/example/marduk/marduk/io/DropReasonDescriptionPinLaw", "wellFormed", "(Ljava/lang/String;)Z"⟩ : MethodName) method_3_code 3 (some .boolean) ws wf_b_rm Z #[(.ref a0)] h0 (wf_b_Q Z a0 b k cs G1 fm h0 n0) := by
  refine ocon (plainFor_of_name pn_com_example_marduk_marduk_io_DropReasonDescriptionPinLaw) ?_
  intro p e s m below meth c s₁ hx hby hml hown hnm hret hlk hZ X0 eh0
  have N0 := Fr.nil n0
  have K0 := Keep.refl h0 []
  refine ogoE (wf_b_ef m a0) ?_
  generalize hG : (OEnd s below (wf_b_Q Z a0 b k cs G1 fm h0 n0) wf_b_rm.cells wf_b_rm.slots) = G
  show OWay p e below G s₁ (mkF m 0 #[.val (.ref a0), .unset, .unset] [])
  refine ogo (fun _ z_ => XS.aloadN X0.here hx rfl (hb hby d4_0) rfl rfl z_) ?_
  show OWay p e below G s₁ (mkF m 1 #[.val (.ref a0), .unset, .unset] [(.ref a0)])
  refine ogo (fun _ z_ => XS.ifnullNo X0.here hx rfl (hb hby d4_1) rfl z_) ?_
  show OWay p e below G s₁ (mkF m 4 #[.val (.ref a0), .unset, .unset] [])
  have hlen := hwl.1
  refine ogo (fun _ z_ => XS.aloadN X0.here hx rfl (hb hby d4_4) rfl rfl z_) ?_
  show OWay p e below G s₁ (mkF m 5 #[.val (.ref a0), .unset, .unset] [(.ref a0)])
  have hws : ∀ d ∈ StrChars.Road.wordsEmp, d.before az Z = true := fun d hd => hw d ((by decide +kernel : ∀ d ∈ StrChars.Road.wordsEmp, d ∈ tables_1) d hd)
  obtain ⟨cq1, kq1, q1a, q1b, q1c⟩ := isOf hZ eh0 hp0
  obtain ⟨v1, _, ⟨T1, L1, k1, n1⟩, -, X1, ⟨Lc1, hQ1, l1, y1, z1⟩, st1⟩ := X0.virtualBack hx (y := (⟨"java/lang/String", "isEmpty", "()Z"⟩ : MethodName)) (z := (⟨"java/lang/String", "isEmpty", "()Z"⟩ : MethodName)) hown (mvT hZ (hw _ (List.mem_of_getElem? (i := 36) rfl))) (mvT hZ (hw _ (List.mem_of_getElem? (i := 37) rfl))) (notFace_of_selects (args := #[]) (mvT hZ (hw _ (List.mem_of_getElem? (i := 39) rfl)))) (mvT hZ (hw _ (List.mem_of_getElem? (i := 39) rfl))) (mvT hZ (hw _ (List.mem_of_getElem? (i := 38) rfl))) (by decide) (StrChars.Road.empW (W := 0) hZ hws (kI := 4) (hw _ (List.mem_of_getElem? (i := 24) rfl)) hp0 hp2 hp1 hp3 (own_cod cs hwl.2.2.1) (own_chr cs hwl.2.2.1) (Nat.le_trans hwl.2.1 (by decide)) (by decide) (by decide)) q1a q1c (g := (mkF m 5 #[.val (.ref a0), .unset, .unset] [(.ref a0)])) rfl (by rw [hml]; rfl) (Steps.refl _) (argsL := []) (rest := []) (lenOf pd___Z rfl) rfl (by show 2 * 0 + _ ≤ _; exact Nat.le_of_eq rfl) (hb hby d4_5) (fun _ _ => ⟨rfl, eh0, (by decide : 0 + 0 ≤ wf_b_rm.cells), (by decide : 0 + 0 ≤ wf_b_rm.slots)⟩)
  dsimp only [Pt.U, Pt.locs, Pt.cells, Pt.slots] at X1 l1 y1 z1 st1 hQ1
  subst l1 y1 z1
  obtain ⟨hv1, rfl, eq1⟩ := hQ1
  obtain rfl : v1 = some (.int (0 : Int32)) := by rw [hv1, if_neg (by omega)]
  have N1 := Fr.app N0 (Fr.nil n0)
  refine ogoS st1 ?_
  show OWay p e below G T1 (mkF m 8 #[.val (.ref a0), .unset, .unset] [(.int (0 : Int32))])
  refine ogo (fun _ z_ => XS.ifYes X1.here hx rfl (pc0 := 8) (pc' := 13) rfl (hb hby d4_8) rfl ((if0 _ _).trans (teq rfl).1) (by decide) (by decide) z_) ?_
  show OWay p e below G T1 (mkF m 13 #[.val (.ref a0), .unset, .unset] [])
  refine ogo (fun _ z_ => XS.aloadN X1.here hx rfl (hb hby d4_13) rfl rfl z_) ?_
  show OWay p e below G T1 (mkF m 14 #[.val (.ref a0), .unset, .unset] [(.ref a0)])
  refine ogo (fun _ z_ => XS.iconst X1.here hx rfl (hb hby d4_14) z_) ?_
  show OWay p e below G T1 (mkF m 15 #[.val (.ref a0), .unset, .unset] [(.int (0 : Int32)), (.ref a0)])
  have hws : ∀ d ∈ StrChars.Road.wordsChN, d.before az Z = true := fun d hd => hw d ((by decide +kernel : ∀ d ∈ StrChars.Road.wordsChN, d ∈ tables_1) d hd)
  obtain ⟨cq2, kq2, q2a, q2b, q2c⟩ := isOf hZ eq1 hp0
  obtain ⟨v2, _, ⟨T2, L2, k2, n2⟩, -, X2, ⟨Lc2, hQ2, l2, y2, z2⟩, st2⟩ := X1.virtualBack hx (y := (⟨"java/lang/String", "charAt", "(I)C"⟩ : MethodName)) (z := (⟨"java/lang/String", "charAt", "(I)C"⟩ : MethodName)) hown (mvT hZ (hw _ (List.mem_of_getElem? (i := 42) rfl))) (mvT hZ (hw _ (List.mem_of_getElem? (i := 43) rfl))) (notFace_of_selects (args := #[]) (mvT hZ (hw _ (List.mem_of_getElem? (i := 45) rfl)))) (mvT hZ (hw _ (List.mem_of_getElem? (i := 45) rfl))) (mvT hZ (hw _ (List.mem_of_getElem? (i := 44) rfl))) (by decide) (StrChars.Road.chN (W := 0) hZ hws (kI := 4) (hw _ (List.mem_of_getElem? (i := 24) rfl)) (cs := cs) (i := 0) (j := (0 : Int32)) hp0 hp2 hp1 hp3 (own_cod cs hwl.2.2.1) (own_chr cs hwl.2.2.1) (hp4.ext hp6.2) hcp (hp5.ext hp6.2) hfm (Nat.le_trans hwl.2.1 (by decide)) (by omega) rfl (by decide) (by decide)) q2a q2c (g := (mkF m 15 #[.val (.ref a0), .unset, .unset] [(.int (0 : Int32)), (.ref a0)])) rfl (by rw [hml]; rfl) (Steps.refl _) (argsL := [(.int (0 : Int32))]) (rest := []) (lenOf pd__I_C rfl) rfl (by show 2 * 0 + _ ≤ _; exact Nat.le_of_eq rfl) (hb hby d4_15) (fun _ _ => ⟨rfl, eq1, (by decide : 0 + 0 ≤ wf_b_rm.cells), (by decide : 0 + 0 ≤ wf_b_rm.slots)⟩)
  dsimp only [Pt.U, Pt.locs, Pt.cells, Pt.slots] at X2 l2 y2 z2 st2 hQ2
  subst l2 y2 z2
  obtain ⟨hv2, rfl, eq2⟩ := hQ2
  obtain rfl : v2 = some (.int (cs.getD 0 0)) := hv2
  have N2 := Fr.app N1 (Fr.nil n0)
  refine ogoS st2 ?_
  show OWay p e below G T2 (mkF m 18 #[.val (.ref a0), .unset, .unset] [(.int (cs.getD 0 0))])
  suffices Jv1_3 : ∀ v1_3 : Int32, v1_3 = (cs.getD 0 0) → OWay p e below G T2 (mkF m 18 #[.val (.ref a0), .unset, .unset] [(.int v1_3)]) from Jv1_3 _ rfl
  intro v1_3 hv1_3
  refine ogo (fun _ z_ => XS.istoreN X2.here hx rfl (hb hby d4_18) rfl (l' := #[.val (.ref a0), .val (.int v1_3), .unset]) rfl z_) ?_
  show OWay p e below G T2 (mkF m 19 #[.val (.ref a0), .val (.int v1_3), .unset] [])
  refine ogo (fun _ z_ => XS.aloadN X2.here hx rfl (hb hby d4_19) rfl rfl z_) ?_
  show OWay p e below G T2 (mkF m 20 #[.val (.ref a0), .val (.int v1_3), .unset] [(.ref a0)])
  refine ogo (fun _ z_ => XS.aloadN X2.here hx rfl (hb hby d4_20) rfl rfl z_) ?_
  show OWay p e below G T2 (mkF m 21 #[.val (.ref a0), .val (.int v1_3), .unset] [(.ref a0), (.ref a0)])
  have hws : ∀ d ∈ StrChars.Road.wordsLen, d.before az Z = true := fun d hd => hw d ((by decide +kernel : ∀ d ∈ StrChars.Road.wordsLen, d ∈ tables_1) d hd)
  obtain ⟨cq4, kq4, q4a, q4b, q4c⟩ := isOf hZ eq2 hp0
  obtain ⟨v4, _, ⟨T4, L4, k4, n4⟩, -, X4, ⟨Lc4, hQ4, l4, y4, z4⟩, st4⟩ := X2.virtualBack hx (y := (⟨"java/lang/String", "length", "()I"⟩ : MethodName)) (z := (⟨"java/lang/String", "length", "()I"⟩ : MethodName)) hown (mvT hZ (hw _ (List.mem_of_getElem? (i := 66) rfl))) (mvT hZ (hw _ (List.mem_of_getElem? (i := 67) rfl))) (notFace_of_selects (args := #[]) (mvT hZ (hw _ (List.mem_of_getElem? (i := 69) rfl)))) (mvT hZ (hw _ (List.mem_of_getElem? (i := 69) rfl))) (mvT hZ (hw _ (List.mem_of_getElem? (i := 68) rfl))) (by decide) (StrChars.Road.lenW (W := 1) hZ hws (kI := 4) (hw _ (List.mem_of_getElem? (i := 24) rfl)) hp0 hp2 hp1 hp3 (own_cod cs hwl.2.2.1) (own_chr cs hwl.2.2.1) (hp4.ext hp6.2) hcp (Nat.le_trans hwl.2.1 (by decide)) (by decide) (by decide)) q4a q4c (g := (mkF m 21 #[.val (.ref a0), .val (.int v1_3), .unset] [(.ref a0), (.ref a0)])) rfl (by rw [hml]; rfl) (Steps.refl _) (argsL := []) (rest := [(.ref a0)]) (lenOf pd___I rfl) rfl (by show 2 * 0 + _ ≤ _; exact Nat.le_of_eq rfl) (hb hby d4_21) (fun _ _ => ⟨rfl, eq2, (by decide : 0 + 0 ≤ wf_b_rm.cells), (by decide : 0 + 0 ≤ wf_b_rm.slots)⟩)
  dsimp only [Pt.U, Pt.locs, Pt.cells, Pt.slots] at X4 l4 y4 z4 st4 hQ4
  subst l4 y4 z4
  obtain ⟨hv4, rfl, eq4⟩ := hQ4
  obtain rfl : v4 = some (.int (Int32.ofNat cs.length)) := hv4
  have N4 := Fr.app N2 (Fr.nil n0)
  refine ogoS st4 ?_
  show OWay p e below G T4 (mkF m 24 #[.val (.ref a0), .val (.int v1_3), .unset] [(.int (Int32.ofNat cs.length)), (.ref a0)])
  refine ogo (fun _ z_ => XS.iconst X4.here hx rfl (hb hby d4_24) z_) ?_
  show OWay p e below G T4 (mkF m 25 #[.val (.ref a0), .val (.int v1_3), .unset] [(.int (1 : Int32)), (.int (Int32.ofNat cs.length)), (.ref a0)])
  refine ogo (fun _ z_ => XS.isub X4.here hx rfl (hb hby d4_25) rfl z_) ?_
  show OWay p e below G T4 (mkF m 26 #[.val (.ref a0), .val (.int v1_3), .unset] [(.int ((Int32.ofNat cs.length) - (1 : Int32))), (.ref a0)])
  have hws : ∀ d ∈ StrChars.Road.wordsChN, d.before az Z = true := fun d hd => hw d ((by decide +kernel : ∀ d ∈ StrChars.Road.wordsChN, d ∈ tables_1) d hd)
  obtain ⟨cq5, kq5, q5a, q5b, q5c⟩ := isOf hZ eq4 hp0
  obtain ⟨v5, _, ⟨T5, L5, k5, n5⟩, -, X5, ⟨Lc5, hQ5, l5, y5, z5⟩, st5⟩ := X4.virtualBack hx (y := (⟨"java/lang/String", "charAt", "(I)C"⟩ : MethodName)) (z := (⟨"java/lang/String", "charAt", "(I)C"⟩ : MethodName)) hown (mvT hZ (hw _ (List.mem_of_getElem? (i := 42) rfl))) (mvT hZ (hw _ (List.mem_of_getElem? (i := 43) rfl))) (notFace_of_selects (args := #[]) (mvT hZ (hw _ (List.mem_of_getElem? (i := 45) rfl)))) (mvT hZ (hw _ (List.mem_of_getElem? (i := 45) rfl))) (mvT hZ (hw _ (List.mem_of_getElem? (i := 44) rfl))) (by decide) (StrChars.Road.chN (W := 0) hZ hws (kI := 4) (hw _ (List.mem_of_getElem? (i := 24) rfl)) (cs := cs) (i := (cs.length - 1)) (j := ((Int32.ofNat cs.length) - (1 : Int32))) hp0 hp2 hp1 hp3 (own_cod cs hwl.2.2.1) (own_chr cs hwl.2.2.1) (hp4.ext hp6.2) hcp (hp5.ext hp6.2) hfm (Nat.le_trans hwl.2.1 (by decide)) (by omega) (own_last cs ⟨hwl.1, hwl.2.1⟩) (by decide) (by decide)) q5a q5c (g := (mkF m 26 #[.val (.ref a0), .val (.int v1_3), .unset] [(.int ((Int32.ofNat cs.length) - (1 : Int32))), (.ref a0)])) rfl (by rw [hml]; rfl) (Steps.refl _) (argsL := [(.int ((Int32.ofNat cs.length) - (1 : Int32)))]) (rest := []) (lenOf pd__I_C rfl) rfl (by show 2 * 0 + _ ≤ _; exact Nat.le_of_eq rfl) (hb hby d4_26) (fun _ _ => ⟨rfl, eq4, (by decide : 0 + 0 ≤ wf_b_rm.cells), (by decide : 0 + 0 ≤ wf_b_rm.slots)⟩)
  dsimp only [Pt.U, Pt.locs, Pt.cells, Pt.slots] at X5 l5 y5 z5 st5 hQ5
  subst l5 y5 z5
  obtain ⟨hv5, rfl, eq5⟩ := hQ5
  obtain rfl : v5 = some (.int (cs.getD (cs.length - 1) 0)) := hv5
  have N5 := Fr.app N4 (Fr.nil n0)
  refine ogoS st5 ?_
  show OWay p e below G T5 (mkF m 29 #[.val (.ref a0), .val (.int v1_3), .unset] [(.int (cs.getD (cs.length - 1) 0))])
  suffices Jv2_6 : ∀ v2_6 : Int32, v2_6 = (cs.getD (cs.length - 1) 0) → OWay p e below G T5 (mkF m 29 #[.val (.ref a0), .val (.int v1_3), .unset] [(.int v2_6)]) from Jv2_6 _ rfl
  intro v2_6 hv2_6
  refine ogo (fun _ z_ => XS.istoreN X5.here hx rfl (hb hby d4_29) rfl (l' := #[.val (.ref a0), .val (.int v1_3), .val (.int v2_6)]) rfl z_) ?_
  show OWay p e below G T5 (mkF m 30 #[.val (.ref a0), .val (.int v1_3), .val (.int v2_6)] [])
  refine ogo (fun _ z_ => XS.iloadN X5.here hx rfl (hb hby d4_30) rfl z_) ?_
  show OWay p e below G T5 (mkF m 31 #[.val (.ref a0), .val (.int v1_3), .val (.int v2_6)] [(.int v1_3)])
  refine ogo (fun _ z_ => XS.bipush X5.here hx rfl (hb hby d4_31) z_) ?_
  show OWay p e below G T5 (mkF m 33 #[.val (.ref a0), .val (.int v1_3), .val (.int v2_6)] [(.int (97 : Int32)), (.int v1_3)])
  refine ogo (fun _ z_ => XS.icmpNo X5.here hx rfl (hb hby d4_33) rfl (flt (by rw [hv1_3]; exact hwl.2.2.2.1)).1 z_) ?_
  show OWay p e below G T5 (mkF m 36 #[.val (.ref a0), .val (.int v1_3), .val (.int v2_6)] [])
  refine ogo (fun _ z_ => XS.iloadN X5.here hx rfl (hb hby d4_36) rfl z_) ?_
  show OWay p e below G T5 (mkF m 37 #[.val (.ref a0), .val (.int v1_3), .val (.int v2_6)] [(.int v1_3)])
  refine ogo (fun _ z_ => XS.bipush X5.here hx rfl (hb hby d4_37) z_) ?_
  show OWay p e below G T5 (mkF m 39 #[.val (.ref a0), .val (.int v1_3), .val (.int v2_6)] [(.int (122 : Int32)), (.int v1_3)])
  refine ogo (fun _ z_ => XS.icmpNo X5.here hx rfl (hb hby d4_39) rfl (flt (by rw [hv1_3]; exact hwl.2.2.2.2.1)).2.2.1 z_) ?_
  show OWay p e below G T5 (mkF m 42 #[.val (.ref a0), .val (.int v1_3), .val (.int v2_6)] [])
  refine ogo (fun _ z_ => XS.iloadN X5.here hx rfl (hb hby d4_42) rfl z_) ?_
  show OWay p e below G T5 (mkF m 43 #[.val (.ref a0), .val (.int v1_3), .val (.int v2_6)] [(.int v2_6)])
  refine ogo (fun _ z_ => XS.bipush X5.here hx rfl (hb hby d4_43) z_) ?_
  show OWay p e below G T5 (mkF m 45 #[.val (.ref a0), .val (.int v1_3), .val (.int v2_6)] [(.int (32 : Int32)), (.int v2_6)])
  refine ogo (fun _ z_ => XS.icmpNo X5.here hx rfl (hb hby d4_45) rfl (feq (by rw [hv2_6]; exact hwl.2.2.2.2.2)).1 z_) ?_
  show OWay p e below G T5 (mkF m 48 #[.val (.ref a0), .val (.int v1_3), .val (.int v2_6)] [])
  refine ogo (fun _ z_ => XS.iconst X5.here hx rfl (hb hby d4_48) z_) ?_
  show OWay p e below G T5 (mkF m 49 #[.val (.ref a0), .val (.int v1_3), .val (.int v2_6)] [(.int (1 : Int32))])
  refine ogo (fun _ z_ => XS.goto X5.here hx rfl (pc0 := 49) (pc' := 53) rfl (hb hby d4_49) (by decide) (by decide) z_) ?_
  show OWay p e below G T5 (mkF m 53 #[.val (.ref a0), .val (.int v1_3), .val (.int v2_6)] [(.int (1 : Int32))])
  subst hG
  refine wRetN X5 hx (t := .boolean) hret hlk (by simp) (hb hby d4_53) (by decide) (by decide) eq5 ?_
  exact ⟨rfl, N5, rfl⟩
def desc_rm : Room := { frames := 1, cells := 2, slots := 208, locals := 12 }
def desc_Q (Z : State) (w : Int32) (Ts : List String) (h0 : Heap) (n0 : Nat) (v : Option Value) (h : Heap) (L : List Loc) (vm : Vm) : Prop := ∃ (a b : Addr) (k : ClassId), v = some (.ref a) ∧ Fr n0 L ∧ Ext h0 h ∧ Exa Z h a "java/lang/String" ∧ Fld Z h a "java/lang/String" "coder" "B" (.int 0) ∧ Fld Z h a "java/lang/String" "value" "[B" (.ref b) ∧ Arv Z h b k .byte (Int32.ofNat (tx w).length) ((tx w).map fun c => Value.int (StrChars.lo8 c)) (.int 0) ∧ IB Z vm (txs w :: Ts) ∧ Lit (Z.setVm vm) "com/example/marduk/marduk/io/DropReason" (ix w) a
def descA_Q (a : Addr) (h0 : Heap) (n0 : Nat) (v : Option Value) (h : Heap) (L : List Loc) (vm : Vm) : Prop := v = some (.ref a) ∧ Fr n0 L ∧ h = h0
theorem desc_ef (m : MethodId) (a0 : Addr) : entryFrame m #[(.ref a0)] 1 = mkF m 0 #[.val (.ref a0)] [] := by first | (simp [entryFrame, mkF, argsToLocals, Value.category]; done) | rfl
theorem own_wS {Z : State} {az : Array Value} (hw : ∀ d ∈ tables_1, d.before az Z = true) : ∀ a ∈ Bundle.stringAtoms, a.before az Z = true := by
  intro a ha
  simp only [Bundle.stringAtoms, List.mem_cons, List.not_mem_nil, or_false] at ha
  rcases ha with rfl | rfl | rfl | rfl | rfl | rfl | rfl
  · exact (hw _ (List.mem_of_getElem? (i := 23) rfl))
  · exact (hw _ (List.mem_of_getElem? (i := 24) rfl))
  · exact (hw _ (List.mem_of_getElem? (i := 25) rfl))
  · exact (hw _ (List.mem_of_getElem? (i := 26) rfl))
  · exact (hw _ (List.mem_of_getElem? (i := 27) rfl))
  · exact (hw _ (List.mem_of_getElem? (i := 28) rfl))
  · exact (hw _ (List.mem_of_getElem? (i := 29) rfl))
theorem pn_com_example_marduk_marduk_io_DropReason : plainName "com/example/marduk/marduk/io/DropReason" = true := by first | (simp [plainName, overriddenIn]; done) | decide +kernel
theorem pd___Ljava_lang_String_ : parseMethodDescriptor "()Ljava/lang/String;" = some ⟨[], some (.object "java/lang/String")⟩ := by decide +kernel
theorem d2_0 : decode prog_7_method_4_code 0 = .ok (.aload_n 0, 1) := by decide +kernel
theorem d2_1 : decode prog_7_method_4_code 1 = .ok (.invokevirtual 50, 3) := by decide +kernel
theorem d2_4 : decode prog_7_method_4_code 4 = .ok (.tableswitch 52 0 8 #[62, 67, 72, 77, 82, 87, 92, 97, 102], 52) := by decide +kernel
theorem d2_108 : decode prog_7_method_4_code 108 = .ok (.areturn, 1) := by decide +kernel
theorem d2_66 : decode prog_7_method_4_code 66 = .ok (.ldc 59, 2) := by decide +kernel
theorem d2_68 : decode prog_7_method_4_code 68 = .ok (.goto 40, 3) := by decide +kernel
theorem d2_71 : decode prog_7_method_4_code 71 = .ok (.ldc 63, 2) := by decide +kernel
theorem d2_73 : decode prog_7_method_4_code 73 = .ok (.goto 35, 3) := by decide +kernel
theorem d2_76 : decode prog_7_method_4_code 76 = .ok (.ldc 65, 2) := by decide +kernel
theorem d2_78 : decode prog_7_method_4_code 78 = .ok (.goto 30, 3) := by decide +kernel
theorem d2_81 : decode prog_7_method_4_code 81 = .ok (.ldc 67, 2) := by decide +kernel
theorem d2_83 : decode prog_7_method_4_code 83 = .ok (.goto 25, 3) := by decide +kernel
theorem d2_86 : decode prog_7_method_4_code 86 = .ok (.ldc 69, 2) := by decide +kernel
theorem d2_88 : decode prog_7_method_4_code 88 = .ok (.goto 20, 3) := by decide +kernel
theorem d2_91 : decode prog_7_method_4_code 91 = .ok (.ldc 71, 2) := by decide +kernel
theorem d2_93 : decode prog_7_method_4_code 93 = .ok (.goto 15, 3) := by decide +kernel
theorem d2_96 : decode prog_7_method_4_code 96 = .ok (.ldc 73, 2) := by decide +kernel
theorem d2_98 : decode prog_7_method_4_code 98 = .ok (.goto 10, 3) := by decide +kernel
theorem d2_101 : decode prog_7_method_4_code 101 = .ok (.ldc 75, 2) := by decide +kernel
theorem d2_103 : decode prog_7_method_4_code 103 = .ok (.goto 5, 3) := by decide +kernel
theorem d2_106 : decode prog_7_method_4_code 106 = .ok (.ldc 77, 2) := by decide +kernel
set_option maxRecDepth 65536 in
set_option maxHeartbeats 40000000 in
theorem desc_c (l : Launch) (Z : State) (az : Array Value) (hw : ∀ d ∈ tables_1, d.before az Z = true) (ws : List Jvm.Cond) (a0 : Addr) (w : Int32) (Ts : List String) (h0 : Heap) (n0 : Nat) (Z0 : n0 ≤ h0.size) (hE : Exa Z h0 a0 "com/example/marduk/marduk/io/DropReason") (hF : Fld Z h0 a0 "java/lang/Enum" "ordinal" "I" (.int w)) (hr : rg w) (hO : Old Z n0 h0) (hnot : txs w ∉ Ts) (hcw : Jvm.Lit.compactW.before az Z = true) (hh59 : Jvm.Lit.constHeld Z "com/example/marduk/marduk/io/DropReason" 59) (hh63 : Jvm.Lit.constHeld Z "com/example/marduk/marduk/io/DropReason" 63) (hh65 : Jvm.Lit.constHeld Z "com/example/marduk/marduk/io/DropReason" 65) (hh67 : Jvm.Lit.constHeld Z "com/example/marduk/marduk/io/DropReason" 67) (hh69 : Jvm.Lit.constHeld Z "com/example/marduk/marduk/io/DropReason" 69) (hh71 : Jvm.Lit.constHeld Z "com/example/marduk/marduk/io/DropReason" 71) (hh73 : Jvm.Lit.constHeld Z "com/example/marduk/marduk/io/DropReason" 73) (hh75 : Jvm.Lit.constHeld Z "com/example/marduk/marduk/io/DropReason" 75) (hh77 : Jvm.Lit.constHeld Z "com/example/marduk/marduk/io/DropReason" 77) :
    OConL l (⟨"com/example/marduk/marduk/io/DropReason", "description", "()Ljava/lang/String;"⟩ : MethodName) prog_7_method_4_code 1 (some (.object "java/lang/String")) ws desc_rm Z #[(.ref a0)] h0 (fun vm => IB Z vm Ts) (desc_Q Z w Ts h0 n0) := by
  refine oconL (plainFor_of_name pn_com_example_marduk_marduk_io_DropReason) ?_
  intro p e s m below meth c s₁ hx hby hml hown hnm hret hlk hZ X0 e0 hh hI
  have hS0 : s.Since s.vm s.heap.size := (State.WarmedH.refl s).since _
  have hk0 : s.heap.size ≤ h0.size := Nat.le_of_eq (by rw [hh])
  refine ogoE (desc_ef m a0) ?_
  generalize hG : (OEndL s below (desc_Q Z w Ts h0 n0) desc_rm.cells desc_rm.slots) = G
  show OWay p e below G s₁ (mkF m 0 #[.val (.ref a0)] [])
  refine ogo (fun _ k => XS.aloadN X0.here hx rfl (hb hby d2_0) rfl rfl k) ?_
  show OWay p e below G s₁ (mkF m 1 #[.val (.ref a0)] [(.ref a0)])
  obtain ⟨_, T1, L1, X1, hQ1, st1⟩ := wUp X0 hx hZ (y := (⟨"com/example/marduk/marduk/io/DropReason", "ordinal", "()I"⟩ : MethodName)) (z := (⟨"java/lang/Enum", "ordinal", "()I"⟩ : MethodName)) (owner := "java/lang/Enum") hown (hw _ (List.mem_of_getElem? (i := 13) rfl)) (hw _ (List.mem_of_getElem? (i := 14) rfl)) (hw _ (List.mem_of_getElem? (i := 15) rfl)) (by decide) (hw _ (List.mem_of_getElem? (i := 17) rfl)) (hw _ (List.mem_of_getElem? (i := 16) rfl)) (hw _ (List.mem_of_getElem? (i := 18) rfl)) (hw _ (List.mem_of_getElem? (i := 19) rfl)) (ord_c l Z az hw [] a0 w h0 h0.size (Nat.le_refl _) hF) 0 (by decide) (by decide) hE (g := (mkF m 1 #[.val (.ref a0)] [(.ref a0)])) rfl (by rw [hml]; rfl) (argsL := []) (rest := []) (lenOf pd___I rfl) rfl (by show 2 * 0 + _ ≤ _; exact Nat.le_of_eq rfl) (hb hby d2_1) rfl e0 (by decide) (by decide)
  obtain ⟨rfl, N1q, eq1⟩ := hQ1
  have N1 := Fr.app (Fr.nil h0.size) N1q
  have N2 : Fr n0 ([] ++ L1) := fun y hy => Nat.le_trans Z0 (N1 y hy)
  refine ogoS st1 ?_
  show OWay p e below G T1 (mkF m 4 #[.val (.ref a0)] [(.int w)])
  rcases hr with rfl | rfl | rfl | rfl | rfl | rfl | rfl | rfl | rfl
  · refine ogo (fun _ k => XS.tswIn X1.here hx rfl (pc0 := 4) (pc' := 66) (o := 62) rfl (hb hby d2_4) rfl (by decide) rfl (by decide) (by decide) k) ?_
    show OWay p e below G T1 (mkF m 66 #[.val (.ref a0)] [])
    have hno : "shorter than the envelope" ∉ Ts := by rw [txs_0] at hnot; exact hnot
    obtain ⟨a2, T2, h2, k2, b2, kc2, X2, e2, E2, hS2, hk2, hZ2, hown2, Ex2, Co2, Va2, Ar2, la2, lb2, IB2, Li2, st2⟩ := ldcSVL (s := s) (vm0 := s.vm) (Z := Z) (Ts := Ts) X1 hx hZ hown (hw _ (List.mem_of_getElem? (i := 22) rfl)) (own_wS hw) eq1 hS0 hk0 (by rw [hh]; exact N1) (fun b cl q => by rw [hh]; exact hO.2.2 b cl q) hI hno hh59 hcw (vs := (tx (0 : Int32)).map fun c => Value.int (StrChars.lo8 c)) (z := Int32.ofNat (tx (0 : Int32)).length) ⟨by decide +kernel, by decide +kernel⟩ (by decide +kernel) (by decide +kernel) (g := (mkF m 66 #[.val (.ref a0)] [])) rfl (hb hby d2_66) (n := 100) (by decide +kernel) (by decide) (by decide) (by decide)
    refine ogo st2 ?_
    show OWay p e below G T2 (mkF m 68 #[.val (.ref a0)] [(.ref a2)])
    refine ogo (fun _ k => XS.goto X2.here hx rfl (pc0 := 68) (pc' := 108) rfl (hb hby d2_68) (by decide) (by decide) k) ?_
    show OWay p e below G T2 (mkF m 108 #[.val (.ref a0)] [(.ref a2)])
    subst hG
    exact wRetL (s := s) (vm0 := T2.vm) X2 hx hret hlk rfl rfl (hb hby d2_108) (by decide) (by decide) hS2 hk2 e2 ⟨a2, b2, kc2, rfl, N2, E2, Ex2, Co2, Va2, Ar2, by rw [txs_0]; exact IB2, by rw [ix_0]; exact Li2⟩
  · refine ogo (fun _ k => XS.tswIn X1.here hx rfl (pc0 := 4) (pc' := 71) (o := 67) rfl (hb hby d2_4) rfl (by decide) rfl (by decide) (by decide) k) ?_
    show OWay p e below G T1 (mkF m 71 #[.val (.ref a0)] [])
    have hno : "longer than 1200 bytes" ∉ Ts := by rw [txs_1] at hnot; exact hnot
    obtain ⟨a2, T2, h2, k2, b2, kc2, X2, e2, E2, hS2, hk2, hZ2, hown2, Ex2, Co2, Va2, Ar2, la2, lb2, IB2, Li2, st2⟩ := ldcSVL (s := s) (vm0 := s.vm) (Z := Z) (Ts := Ts) X1 hx hZ hown (hw _ (List.mem_of_getElem? (i := 91) rfl)) (own_wS hw) eq1 hS0 hk0 (by rw [hh]; exact N1) (fun b cl q => by rw [hh]; exact hO.2.2 b cl q) hI hno hh63 hcw (vs := (tx (1 : Int32)).map fun c => Value.int (StrChars.lo8 c)) (z := Int32.ofNat (tx (1 : Int32)).length) ⟨by decide +kernel, by decide +kernel⟩ (by decide +kernel) (by decide +kernel) (g := (mkF m 71 #[.val (.ref a0)] [])) rfl (hb hby d2_71) (n := 88) (by decide +kernel) (by decide) (by decide) (by decide)
    refine ogo st2 ?_
    show OWay p e below G T2 (mkF m 73 #[.val (.ref a0)] [(.ref a2)])
    refine ogo (fun _ k => XS.goto X2.here hx rfl (pc0 := 73) (pc' := 108) rfl (hb hby d2_73) (by decide) (by decide) k) ?_
    show OWay p e below G T2 (mkF m 108 #[.val (.ref a0)] [(.ref a2)])
    subst hG
    exact wRetL (s := s) (vm0 := T2.vm) X2 hx hret hlk rfl rfl (hb hby d2_108) (by decide) (by decide) hS2 hk2 e2 ⟨a2, b2, kc2, rfl, N2, E2, Ex2, Co2, Va2, Ar2, by rw [txs_1]; exact IB2, by rw [ix_1]; exact Li2⟩
  · refine ogo (fun _ k => XS.tswIn X1.here hx rfl (pc0 := 4) (pc' := 76) (o := 72) rfl (hb hby d2_4) rfl (by decide) rfl (by decide) (by decide) k) ?_
    show OWay p e below G T1 (mkF m 76 #[.val (.ref a0)] [])
    have hno : "without the MRDK magic" ∉ Ts := by rw [txs_2] at hnot; exact hnot
    obtain ⟨a2, T2, h2, k2, b2, kc2, X2, e2, E2, hS2, hk2, hZ2, hown2, Ex2, Co2, Va2, Ar2, la2, lb2, IB2, Li2, st2⟩ := ldcSVL (s := s) (vm0 := s.vm) (Z := Z) (Ts := Ts) X1 hx hZ hown (hw _ (List.mem_of_getElem? (i := 94) rfl)) (own_wS hw) eq1 hS0 hk0 (by rw [hh]; exact N1) (fun b cl q => by rw [hh]; exact hO.2.2 b cl q) hI hno hh65 hcw (vs := (tx (2 : Int32)).map fun c => Value.int (StrChars.lo8 c)) (z := Int32.ofNat (tx (2 : Int32)).length) ⟨by decide +kernel, by decide +kernel⟩ (by decide +kernel) (by decide +kernel) (g := (mkF m 76 #[.val (.ref a0)] [])) rfl (hb hby d2_76) (n := 88) (by decide +kernel) (by decide) (by decide) (by decide)
    refine ogo st2 ?_
    show OWay p e below G T2 (mkF m 78 #[.val (.ref a0)] [(.ref a2)])
    refine ogo (fun _ k => XS.goto X2.here hx rfl (pc0 := 78) (pc' := 108) rfl (hb hby d2_78) (by decide) (by decide) k) ?_
    show OWay p e below G T2 (mkF m 108 #[.val (.ref a0)] [(.ref a2)])
    subst hG
    exact wRetL (s := s) (vm0 := T2.vm) X2 hx hret hlk rfl rfl (hb hby d2_108) (by decide) (by decide) hS2 hk2 e2 ⟨a2, b2, kc2, rfl, N2, E2, Ex2, Co2, Va2, Ar2, by rw [txs_2]; exact IB2, by rw [ix_2]; exact Li2⟩
  · refine ogo (fun _ k => XS.tswIn X1.here hx rfl (pc0 := 4) (pc' := 81) (o := 77) rfl (hb hby d2_4) rfl (by decide) rfl (by decide) (by decide) k) ?_
    show OWay p e below G T1 (mkF m 81 #[.val (.ref a0)] [])
    have hno : "of another version" ∉ Ts := by rw [txs_3] at hnot; exact hnot
    obtain ⟨a2, T2, h2, k2, b2, kc2, X2, e2, E2, hS2, hk2, hZ2, hown2, Ex2, Co2, Va2, Ar2, la2, lb2, IB2, Li2, st2⟩ := ldcSVL (s := s) (vm0 := s.vm) (Z := Z) (Ts := Ts) X1 hx hZ hown (hw _ (List.mem_of_getElem? (i := 32) rfl)) (own_wS hw) eq1 hS0 hk0 (by rw [hh]; exact N1) (fun b cl q => by rw [hh]; exact hO.2.2 b cl q) hI hno hh67 hcw (vs := (tx (3 : Int32)).map fun c => Value.int (StrChars.lo8 c)) (z := Int32.ofNat (tx (3 : Int32)).length) ⟨by decide +kernel, by decide +kernel⟩ (by decide +kernel) (by decide +kernel) (g := (mkF m 81 #[.val (.ref a0)] [])) rfl (hb hby d2_81) (n := 72) (by decide +kernel) (by decide) (by decide) (by decide)
    refine ogo st2 ?_
    show OWay p e below G T2 (mkF m 83 #[.val (.ref a0)] [(.ref a2)])
    refine ogo (fun _ k => XS.goto X2.here hx rfl (pc0 := 83) (pc' := 108) rfl (hb hby d2_83) (by decide) (by decide) k) ?_
    show OWay p e below G T2 (mkF m 108 #[.val (.ref a0)] [(.ref a2)])
    subst hG
    exact wRetL (s := s) (vm0 := T2.vm) X2 hx hret hlk rfl rfl (hb hby d2_108) (by decide) (by decide) hS2 hk2 e2 ⟨a2, b2, kc2, rfl, N2, E2, Ex2, Co2, Va2, Ar2, by rw [txs_3]; exact IB2, by rw [ix_3]; exact Li2⟩
  · refine ogo (fun _ k => XS.tswIn X1.here hx rfl (pc0 := 4) (pc' := 86) (o := 82) rfl (hb hby d2_4) rfl (by decide) rfl (by decide) (by decide) k) ?_
    show OWay p e below G T1 (mkF m 86 #[.val (.ref a0)] [])
    have hno : "of a type that their version does not define" ∉ Ts := by rw [txs_4] at hnot; exact hnot
    obtain ⟨a2, T2, h2, k2, b2, kc2, X2, e2, E2, hS2, hk2, hZ2, hown2, Ex2, Co2, Va2, Ar2, la2, lb2, IB2, Li2, st2⟩ := ldcSVL (s := s) (vm0 := s.vm) (Z := Z) (Ts := Ts) X1 hx hZ hown (hw _ (List.mem_of_getElem? (i := 97) rfl)) (own_wS hw) eq1 hS0 hk0 (by rw [hh]; exact N1) (fun b cl q => by rw [hh]; exact hO.2.2 b cl q) hI hno hh69 hcw (vs := (tx (4 : Int32)).map fun c => Value.int (StrChars.lo8 c)) (z := Int32.ofNat (tx (4 : Int32)).length) ⟨by decide +kernel, by decide +kernel⟩ (by decide +kernel) (by decide +kernel) (g := (mkF m 86 #[.val (.ref a0)] [])) rfl (hb hby d2_86) (n := 176) (by decide +kernel) (by decide) (by decide) (by decide)
    refine ogo st2 ?_
    show OWay p e below G T2 (mkF m 88 #[.val (.ref a0)] [(.ref a2)])
    refine ogo (fun _ k => XS.goto X2.here hx rfl (pc0 := 88) (pc' := 108) rfl (hb hby d2_88) (by decide) (by decide) k) ?_
    show OWay p e below G T2 (mkF m 108 #[.val (.ref a0)] [(.ref a2)])
    subst hG
    exact wRetL (s := s) (vm0 := T2.vm) X2 hx hret hlk rfl rfl (hb hby d2_108) (by decide) (by decide) hS2 hk2 e2 ⟨a2, b2, kc2, rfl, N2, E2, Ex2, Co2, Va2, Ar2, by rw [txs_4]; exact IB2, by rw [ix_4]; exact Li2⟩
  · refine ogo (fun _ k => XS.tswIn X1.here hx rfl (pc0 := 4) (pc' := 91) (o := 87) rfl (hb hby d2_4) rfl (by decide) rfl (by decide) (by decide) k) ?_
    show OWay p e below G T1 (mkF m 91 #[.val (.ref a0)] [])
    have hno : "with a body length field that differs from the body" ∉ Ts := by rw [txs_5] at hnot; exact hnot
    obtain ⟨a2, T2, h2, k2, b2, kc2, X2, e2, E2, hS2, hk2, hZ2, hown2, Ex2, Co2, Va2, Ar2, la2, lb2, IB2, Li2, st2⟩ := ldcSVL (s := s) (vm0 := s.vm) (Z := Z) (Ts := Ts) X1 hx hZ hown (hw _ (List.mem_of_getElem? (i := 88) rfl)) (own_wS hw) eq1 hS0 hk0 (by rw [hh]; exact N1) (fun b cl q => by rw [hh]; exact hO.2.2 b cl q) hI hno hh71 hcw (vs := (tx (5 : Int32)).map fun c => Value.int (StrChars.lo8 c)) (z := Int32.ofNat (tx (5 : Int32)).length) ⟨by decide +kernel, by decide +kernel⟩ (by decide +kernel) (by decide +kernel) (g := (mkF m 91 #[.val (.ref a0)] [])) rfl (hb hby d2_91) (n := 204) (by decide +kernel) (by decide) (by decide) (by decide)
    refine ogo st2 ?_
    show OWay p e below G T2 (mkF m 93 #[.val (.ref a0)] [(.ref a2)])
    refine ogo (fun _ k => XS.goto X2.here hx rfl (pc0 := 93) (pc' := 108) rfl (hb hby d2_93) (by decide) (by decide) k) ?_
    show OWay p e below G T2 (mkF m 108 #[.val (.ref a0)] [(.ref a2)])
    subst hG
    exact wRetL (s := s) (vm0 := T2.vm) X2 hx hret hlk rfl rfl (hb hby d2_108) (by decide) (by decide) hS2 hk2 e2 ⟨a2, b2, kc2, rfl, N2, E2, Ex2, Co2, Va2, Ar2, by rw [txs_5]; exact IB2, by rw [ix_5]; exact Li2⟩
  · refine ogo (fun _ k => XS.tswIn X1.here hx rfl (pc0 := 4) (pc' := 96) (o := 92) rfl (hb hby d2_4) rfl (by decide) rfl (by decide) (by decide) k) ?_
    show OWay p e below G T1 (mkF m 96 #[.val (.ref a0)] [])
    have hno : "not signed with the group's secret" ∉ Ts := by rw [txs_6] at hnot; exact hnot
    obtain ⟨a2, T2, h2, k2, b2, kc2, X2, e2, E2, hS2, hk2, hZ2, hown2, Ex2, Co2, Va2, Ar2, la2, lb2, IB2, Li2, st2⟩ := ldcSVL (s := s) (vm0 := s.vm) (Z := Z) (Ts := Ts) X1 hx hZ hown (hw _ (List.mem_of_getElem? (i := 100) rfl)) (own_wS hw) eq1 hS0 hk0 (by rw [hh]; exact N1) (fun b cl q => by rw [hh]; exact hO.2.2 b cl q) hI hno hh73 hcw (vs := (tx (6 : Int32)).map fun c => Value.int (StrChars.lo8 c)) (z := Int32.ofNat (tx (6 : Int32)).length) ⟨by decide +kernel, by decide +kernel⟩ (by decide +kernel) (by decide +kernel) (g := (mkF m 96 #[.val (.ref a0)] [])) rfl (hb hby d2_96) (n := 136) (by decide +kernel) (by decide) (by decide) (by decide)
    refine ogo st2 ?_
    show OWay p e below G T2 (mkF m 98 #[.val (.ref a0)] [(.ref a2)])
    refine ogo (fun _ k => XS.goto X2.here hx rfl (pc0 := 98) (pc' := 108) rfl (hb hby d2_98) (by decide) (by decide) k) ?_
    show OWay p e below G T2 (mkF m 108 #[.val (.ref a0)] [(.ref a2)])
    subst hG
    exact wRetL (s := s) (vm0 := T2.vm) X2 hx hret hlk rfl rfl (hb hby d2_108) (by decide) (by decide) hS2 hk2 e2 ⟨a2, b2, kc2, rfl, N2, E2, Ex2, Co2, Va2, Ar2, by rw [txs_6]; exact IB2, by rw [ix_6]; exact Li2⟩
  · refine ogo (fun _ k => XS.tswIn X1.here hx rfl (pc0 := 4) (pc' := 101) (o := 97) rfl (hb hby d2_4) rfl (by decide) rfl (by decide) (by decide) k) ?_
    show OWay p e below G T1 (mkF m 101 #[.val (.ref a0)] [])
    have hno : "from a sender that is not a peer" ∉ Ts := by rw [txs_7] at hnot; exact hnot
    obtain ⟨a2, T2, h2, k2, b2, kc2, X2, e2, E2, hS2, hk2, hZ2, hown2, Ex2, Co2, Va2, Ar2, la2, lb2, IB2, Li2, st2⟩ := ldcSVL (s := s) (vm0 := s.vm) (Z := Z) (Ts := Ts) X1 hx hZ hown (hw _ (List.mem_of_getElem? (i := 106) rfl)) (own_wS hw) eq1 hS0 hk0 (by rw [hh]; exact N1) (fun b cl q => by rw [hh]; exact hO.2.2 b cl q) hI hno hh75 hcw (vs := (tx (7 : Int32)).map fun c => Value.int (StrChars.lo8 c)) (z := Int32.ofNat (tx (7 : Int32)).length) ⟨by decide +kernel, by decide +kernel⟩ (by decide +kernel) (by decide +kernel) (g := (mkF m 101 #[.val (.ref a0)] [])) rfl (hb hby d2_101) (n := 128) (by decide +kernel) (by decide) (by decide) (by decide)
    refine ogo st2 ?_
    show OWay p e below G T2 (mkF m 103 #[.val (.ref a0)] [(.ref a2)])
    refine ogo (fun _ k => XS.goto X2.here hx rfl (pc0 := 103) (pc' := 108) rfl (hb hby d2_103) (by decide) (by decide) k) ?_
    show OWay p e below G T2 (mkF m 108 #[.val (.ref a0)] [(.ref a2)])
    subst hG
    exact wRetL (s := s) (vm0 := T2.vm) X2 hx hret hlk rfl rfl (hb hby d2_108) (by decide) (by decide) hS2 hk2 e2 ⟨a2, b2, kc2, rfl, N2, E2, Ex2, Co2, Va2, Ar2, by rw [txs_7]; exact IB2, by rw [ix_7]; exact Li2⟩
  · refine ogo (fun _ k => XS.tswIn X1.here hx rfl (pc0 := 4) (pc' := 106) (o := 102) rfl (hb hby d2_4) rfl (by decide) rfl (by decide) (by decide) k) ?_
    show OWay p e below G T1 (mkF m 106 #[.val (.ref a0)] [])
    have hno : "with a body that does not decode" ∉ Ts := by rw [txs_8] at hnot; exact hnot
    obtain ⟨a2, T2, h2, k2, b2, kc2, X2, e2, E2, hS2, hk2, hZ2, hown2, Ex2, Co2, Va2, Ar2, la2, lb2, IB2, Li2, st2⟩ := ldcSVL (s := s) (vm0 := s.vm) (Z := Z) (Ts := Ts) X1 hx hZ hown (hw _ (List.mem_of_getElem? (i := 103) rfl)) (own_wS hw) eq1 hS0 hk0 (by rw [hh]; exact N1) (fun b cl q => by rw [hh]; exact hO.2.2 b cl q) hI hno hh77 hcw (vs := (tx (8 : Int32)).map fun c => Value.int (StrChars.lo8 c)) (z := Int32.ofNat (tx (8 : Int32)).length) ⟨by decide +kernel, by decide +kernel⟩ (by decide +kernel) (by decide +kernel) (g := (mkF m 106 #[.val (.ref a0)] [])) rfl (hb hby d2_106) (n := 128) (by decide +kernel) (by decide) (by decide) (by decide)
    refine ogo st2 ?_
    show OWay p e below G T2 (mkF m 108 #[.val (.ref a0)] [(.ref a2)])
    subst hG
    exact wRetL (s := s) (vm0 := T2.vm) X2 hx hret hlk rfl rfl (hb hby d2_108) (by decide) (by decide) hS2 hk2 e2 ⟨a2, b2, kc2, rfl, N2, E2, Ex2, Co2, Va2, Ar2, by rw [txs_8]; exact IB2, by rw [ix_8]; exact Li2⟩
set_option maxRecDepth 65536 in
set_option maxHeartbeats 40000000 in
theorem descA_c (l : Launch) (Z : State) (az : Array Value) (hw : ∀ d ∈ tables_1, d.before az Z = true) (ws : List Jvm.Cond) (a0 : Addr) (w : Int32) (a : Addr) (h0 : Heap) (n0 : Nat) (Z0 : n0 ≤ h0.size) (hE : Exa Z h0 a0 "com/example/marduk/marduk/io/DropReason") (hF : Fld Z h0 a0 "java/lang/Enum" "ordinal" "I" (.int w)) (hr : rg w) :
    OConL l (⟨"com/example/marduk/marduk/io/DropReason", "description", "()Ljava/lang/String;"⟩ : MethodName) prog_7_method_4_code 1 (some (.object "java/lang/String")) ws desc_rm Z #[(.ref a0)] h0 (fun vm => Lit (Z.setVm vm) "com/example/marduk/marduk/io/DropReason" (ix w) a) (descA_Q a h0 n0) := by
  refine oconL (plainFor_of_name pn_com_example_marduk_marduk_io_DropReason) ?_
  intro p e s m below meth c s₁ hx hby hml hown hnm hret hlk hZ X0 e0 hh hI
  have hS0 : s.Since s.vm s.heap.size := (State.WarmedH.refl s).since _
  have hk0 : s.heap.size ≤ h0.size := Nat.le_of_eq (by rw [hh])
  refine ogoE (desc_ef m a0) ?_
  generalize hG : (OEndL s below (descA_Q a h0 n0) desc_rm.cells desc_rm.slots) = G
  show OWay p e below G s₁ (mkF m 0 #[.val (.ref a0)] [])
  refine ogo (fun _ k => XS.aloadN X0.here hx rfl (hb hby d2_0) rfl rfl k) ?_
  show OWay p e below G s₁ (mkF m 1 #[.val (.ref a0)] [(.ref a0)])
  obtain ⟨_, T1, L1, X1, hQ1, st1⟩ := wUp X0 hx hZ (y := (⟨"com/example/marduk/marduk/io/DropReason", "ordinal", "()I"⟩ : MethodName)) (z := (⟨"java/lang/Enum", "ordinal", "()I"⟩ : MethodName)) (owner := "java/lang/Enum") hown (hw _ (List.mem_of_getElem? (i := 13) rfl)) (hw _ (List.mem_of_getElem? (i := 14) rfl)) (hw _ (List.mem_of_getElem? (i := 15) rfl)) (by decide) (hw _ (List.mem_of_getElem? (i := 17) rfl)) (hw _ (List.mem_of_getElem? (i := 16) rfl)) (hw _ (List.mem_of_getElem? (i := 18) rfl)) (hw _ (List.mem_of_getElem? (i := 19) rfl)) (ord_c l Z az hw [] a0 w h0 h0.size (Nat.le_refl _) hF) 0 (by decide) (by decide) hE (g := (mkF m 1 #[.val (.ref a0)] [(.ref a0)])) rfl (by rw [hml]; rfl) (argsL := []) (rest := []) (lenOf pd___I rfl) rfl (by show 2 * 0 + _ ≤ _; exact Nat.le_of_eq rfl) (hb hby d2_1) rfl e0 (by decide) (by decide)
  obtain ⟨rfl, N1q, eq1⟩ := hQ1
  have N1 := Fr.app (Fr.nil h0.size) N1q
  have N2 : Fr n0 ([] ++ L1) := fun y hy => Nat.le_trans Z0 (N1 y hy)
  refine ogoS st1 ?_
  show OWay p e below G T1 (mkF m 4 #[.val (.ref a0)] [(.int w)])
  rcases hr with rfl | rfl | rfl | rfl | rfl | rfl | rfl | rfl | rfl
  · refine ogo (fun _ k => XS.tswIn X1.here hx rfl (pc0 := 4) (pc' := 66) (o := 62) rfl (hb hby d2_4) rfl (by decide) rfl (by decide) (by decide) k) ?_
    show OWay p e below G T1 (mkF m 66 #[.val (.ref a0)] [])
    have hL : Lit (s.setVm s.vm) "com/example/marduk/marduk/io/DropReason" 59 a := by rw [ix_0] at hI; exact hI
    refine ogo (ldcAgain (s := s) (vm0 := s.vm) (Z := Z) X1 hx hZ hown (hw _ (List.mem_of_getElem? (i := 22) rfl)) hL (g := (mkF m 66 #[.val (.ref a0)] [])) rfl (hb hby d2_66)) ?_
    show OWay p e below G T1 (mkF m 68 #[.val (.ref a0)] [(.ref a)])
    refine ogo (fun _ k => XS.goto X1.here hx rfl (pc0 := 68) (pc' := 108) rfl (hb hby d2_68) (by decide) (by decide) k) ?_
    show OWay p e below G T1 (mkF m 108 #[.val (.ref a0)] [(.ref a)])
    subst hG
    exact wRetL (s := s) (vm0 := s.vm) X1 hx hret hlk rfl rfl (hb hby d2_108) (by decide) (by decide) hS0 hk0 eq1 ⟨rfl, N2, rfl⟩
  · refine ogo (fun _ k => XS.tswIn X1.here hx rfl (pc0 := 4) (pc' := 71) (o := 67) rfl (hb hby d2_4) rfl (by decide) rfl (by decide) (by decide) k) ?_
    show OWay p e below G T1 (mkF m 71 #[.val (.ref a0)] [])
    have hL : Lit (s.setVm s.vm) "com/example/marduk/marduk/io/DropReason" 63 a := by rw [ix_1] at hI; exact hI
    refine ogo (ldcAgain (s := s) (vm0 := s.vm) (Z := Z) X1 hx hZ hown (hw _ (List.mem_of_getElem? (i := 91) rfl)) hL (g := (mkF m 71 #[.val (.ref a0)] [])) rfl (hb hby d2_71)) ?_
    show OWay p e below G T1 (mkF m 73 #[.val (.ref a0)] [(.ref a)])
    refine ogo (fun _ k => XS.goto X1.here hx rfl (pc0 := 73) (pc' := 108) rfl (hb hby d2_73) (by decide) (by decide) k) ?_
    show OWay p e below G T1 (mkF m 108 #[.val (.ref a0)] [(.ref a)])
    subst hG
    exact wRetL (s := s) (vm0 := s.vm) X1 hx hret hlk rfl rfl (hb hby d2_108) (by decide) (by decide) hS0 hk0 eq1 ⟨rfl, N2, rfl⟩
  · refine ogo (fun _ k => XS.tswIn X1.here hx rfl (pc0 := 4) (pc' := 76) (o := 72) rfl (hb hby d2_4) rfl (by decide) rfl (by decide) (by decide) k) ?_
    show OWay p e below G T1 (mkF m 76 #[.val (.ref a0)] [])
    have hL : Lit (s.setVm s.vm) "com/example/marduk/marduk/io/DropReason" 65 a := by rw [ix_2] at hI; exact hI
    refine ogo (ldcAgain (s := s) (vm0 := s.vm) (Z := Z) X1 hx hZ hown (hw _ (List.mem_of_getElem? (i := 94) rfl)) hL (g := (mkF m 76 #[.val (.ref a0)] [])) rfl (hb hby d2_76)) ?_
    show OWay p e below G T1 (mkF m 78 #[.val (.ref a0)] [(.ref a)])
    refine ogo (fun _ k => XS.goto X1.here hx rfl (pc0 := 78) (pc' := 108) rfl (hb hby d2_78) (by decide) (by decide) k) ?_
    show OWay p e below G T1 (mkF m 108 #[.val (.ref a0)] [(.ref a)])
    subst hG
    exact wRetL (s := s) (vm0 := s.vm) X1 hx hret hlk rfl rfl (hb hby d2_108) (by decide) (by decide) hS0 hk0 eq1 ⟨rfl, N2, rfl⟩
  · refine ogo (fun _ k => XS.tswIn X1.here hx rfl (pc0 := 4) (pc' := 81) (o := 77) rfl (hb hby d2_4) rfl (by decide) rfl (by decide) (by decide) k) ?_
    show OWay p e below G T1 (mkF m 81 #[.val (.ref a0)] [])
    have hL : Lit (s.setVm s.vm) "com/example/marduk/marduk/io/DropReason" 67 a := by rw [ix_3] at hI; exact hI
    refine ogo (ldcAgain (s := s) (vm0 := s.vm) (Z := Z) X1 hx hZ hown (hw _ (List.mem_of_getElem? (i := 32) rfl)) hL (g := (mkF m 81 #[.val (.ref a0)] [])) rfl (hb hby d2_81)) ?_
    show OWay p e below G T1 (mkF m 83 #[.val (.ref a0)] [(.ref a)])
    refine ogo (fun _ k => XS.goto X1.here hx rfl (pc0 := 83) (pc' := 108) rfl (hb hby d2_83) (by decide) (by decide) k) ?_
    show OWay p e below G T1 (mkF m 108 #[.val (.ref a0)] [(.ref a)])
    subst hG
    exact wRetL (s := s) (vm0 := s.vm) X1 hx hret hlk rfl rfl (hb hby d2_108) (by decide) (by decide) hS0 hk0 eq1 ⟨rfl, N2, rfl⟩
  · refine ogo (fun _ k => XS.tswIn X1.here hx rfl (pc0 := 4) (pc' := 86) (o := 82) rfl (hb hby d2_4) rfl (by decide) rfl (by decide) (by decide) k) ?_
    show OWay p e below G T1 (mkF m 86 #[.val (.ref a0)] [])
    have hL : Lit (s.setVm s.vm) "com/example/marduk/marduk/io/DropReason" 69 a := by rw [ix_4] at hI; exact hI
    refine ogo (ldcAgain (s := s) (vm0 := s.vm) (Z := Z) X1 hx hZ hown (hw _ (List.mem_of_getElem? (i := 97) rfl)) hL (g := (mkF m 86 #[.val (.ref a0)] [])) rfl (hb hby d2_86)) ?_
    show OWay p e below G T1 (mkF m 88 #[.val (.ref a0)] [(.ref a)])
    refine ogo (fun _ k => XS.goto X1.here hx rfl (pc0 := 88) (pc' := 108) rfl (hb hby d2_88) (by decide) (by decide) k) ?_
    show OWay p e below G T1 (mkF m 108 #[.val (.ref a0)] [(.ref a)])
    subst hG
    exact wRetL (s := s) (vm0 := s.vm) X1 hx hret hlk rfl rfl (hb hby d2_108) (by decide) (by decide) hS0 hk0 eq1 ⟨rfl, N2, rfl⟩
  · refine ogo (fun _ k => XS.tswIn X1.here hx rfl (pc0 := 4) (pc' := 91) (o := 87) rfl (hb hby d2_4) rfl (by decide) rfl (by decide) (by decide) k) ?_
    show OWay p e below G T1 (mkF m 91 #[.val (.ref a0)] [])
    have hL : Lit (s.setVm s.vm) "com/example/marduk/marduk/io/DropReason" 71 a := by rw [ix_5] at hI; exact hI
    refine ogo (ldcAgain (s := s) (vm0 := s.vm) (Z := Z) X1 hx hZ hown (hw _ (List.mem_of_getElem? (i := 88) rfl)) hL (g := (mkF m 91 #[.val (.ref a0)] [])) rfl (hb hby d2_91)) ?_
    show OWay p e below G T1 (mkF m 93 #[.val (.ref a0)] [(.ref a)])
    refine ogo (fun _ k => XS.goto X1.here hx rfl (pc0 := 93) (pc' := 108) rfl (hb hby d2_93) (by decide) (by decide) k) ?_
    show OWay p e below G T1 (mkF m 108 #[.val (.ref a0)] [(.ref a)])
    subst hG
    exact wRetL (s := s) (vm0 := s.vm) X1 hx hret hlk rfl rfl (hb hby d2_108) (by decide) (by decide) hS0 hk0 eq1 ⟨rfl, N2, rfl⟩
  · refine ogo (fun _ k => XS.tswIn X1.here hx rfl (pc0 := 4) (pc' := 96) (o := 92) rfl (hb hby d2_4) rfl (by decide) rfl (by decide) (by decide) k) ?_
    show OWay p e below G T1 (mkF m 96 #[.val (.ref a0)] [])
    have hL : Lit (s.setVm s.vm) "com/example/marduk/marduk/io/DropReason" 73 a := by rw [ix_6] at hI; exact hI
    refine ogo (ldcAgain (s := s) (vm0 := s.vm) (Z := Z) X1 hx hZ hown (hw _ (List.mem_of_getElem? (i := 100) rfl)) hL (g := (mkF m 96 #[.val (.ref a0)] [])) rfl (hb hby d2_96)) ?_
    show OWay p e below G T1 (mkF m 98 #[.val (.ref a0)] [(.ref a)])
    refine ogo (fun _ k => XS.goto X1.here hx rfl (pc0 := 98) (pc' := 108) rfl (hb hby d2_98) (by decide) (by decide) k) ?_
    show OWay p e below G T1 (mkF m 108 #[.val (.ref a0)] [(.ref a)])
    subst hG
    exact wRetL (s := s) (vm0 := s.vm) X1 hx hret hlk rfl rfl (hb hby d2_108) (by decide) (by decide) hS0 hk0 eq1 ⟨rfl, N2, rfl⟩
  · refine ogo (fun _ k => XS.tswIn X1.here hx rfl (pc0 := 4) (pc' := 101) (o := 97) rfl (hb hby d2_4) rfl (by decide) rfl (by decide) (by decide) k) ?_
    show OWay p e below G T1 (mkF m 101 #[.val (.ref a0)] [])
    have hL : Lit (s.setVm s.vm) "com/example/marduk/marduk/io/DropReason" 75 a := by rw [ix_7] at hI; exact hI
    refine ogo (ldcAgain (s := s) (vm0 := s.vm) (Z := Z) X1 hx hZ hown (hw _ (List.mem_of_getElem? (i := 106) rfl)) hL (g := (mkF m 101 #[.val (.ref a0)] [])) rfl (hb hby d2_101)) ?_
    show OWay p e below G T1 (mkF m 103 #[.val (.ref a0)] [(.ref a)])
    refine ogo (fun _ k => XS.goto X1.here hx rfl (pc0 := 103) (pc' := 108) rfl (hb hby d2_103) (by decide) (by decide) k) ?_
    show OWay p e below G T1 (mkF m 108 #[.val (.ref a0)] [(.ref a)])
    subst hG
    exact wRetL (s := s) (vm0 := s.vm) X1 hx hret hlk rfl rfl (hb hby d2_108) (by decide) (by decide) hS0 hk0 eq1 ⟨rfl, N2, rfl⟩
  · refine ogo (fun _ k => XS.tswIn X1.here hx rfl (pc0 := 4) (pc' := 106) (o := 102) rfl (hb hby d2_4) rfl (by decide) rfl (by decide) (by decide) k) ?_
    show OWay p e below G T1 (mkF m 106 #[.val (.ref a0)] [])
    have hL : Lit (s.setVm s.vm) "com/example/marduk/marduk/io/DropReason" 77 a := by rw [ix_8] at hI; exact hI
    refine ogo (ldcAgain (s := s) (vm0 := s.vm) (Z := Z) X1 hx hZ hown (hw _ (List.mem_of_getElem? (i := 103) rfl)) hL (g := (mkF m 106 #[.val (.ref a0)] [])) rfl (hb hby d2_106)) ?_
    show OWay p e below G T1 (mkF m 108 #[.val (.ref a0)] [(.ref a)])
    subst hG
    exact wRetL (s := s) (vm0 := s.vm) X1 hx hret hlk rfl rfl (hb hby d2_108) (by decide) (by decide) hS0 hk0 eq1 ⟨rfl, N2, rfl⟩
theorem pd__I_Lcom_example_marduk_marduk_io_DropReason_ : parseMethodDescriptor "(I)Lcom/example/marduk/marduk/io/DropReason;" = some ⟨[.int], some (.object "com/example/marduk/marduk/io/DropReason")⟩ := by decide +kernel
theorem pd__Ljava_lang_String__Z : parseMethodDescriptor "(Ljava/lang/String;)Z" = some ⟨[(.object "java/lang/String")], some .boolean⟩ := by decide +kernel
theorem pd__Ljava_lang_Object__Z : parseMethodDescriptor "(Ljava/lang/Object;)Z" = some ⟨[(.object "java/lang/Object")], some .boolean⟩ := by decide +kernel
def law_Q (Z : State) (p0 : Int32) (p1 : Int32) (G1 : Int32) (fm : Value) (e0 : Addr) (e1 : Addr) (e2 : Addr) (e3 : Addr) (e4 : Addr) (e5 : Addr) (e6 : Addr) (e7 : Addr) (e8 : Addr) (h0 : Heap) (n0 : Nat) (v : Option Value) (h : Heap) (L : List Loc) : Prop := v = some (.int 1) ∧ Fr n0 L
theorem law_ef (m : MethodId) (p0 : Int32) (p1 : Int32) : entryFrame m #[(.int p0), (.int p1)] maxLocals = mkF m 0 #[.val (.int p0), .val (.int p1), .unset, .unset, .unset, .unset] [] := by first | (simp [entryFrame, mkF, argsToLocals, Value.category, maxLocals]; done) | rfl
set_option maxRecDepth 65536 in
set_option maxHeartbeats 40000000 in
theorem law_c (l : Launch) (Z : State) (az : Array Value) (hw : ∀ d ∈ tables_1, d.before az Z = true) (ws : List Jvm.Cond) (p0 : Int32) (p1 : Int32) (G1 : Int32) (fm : Value) (e0 : Addr) (e1 : Addr) (e2 : Addr) (e3 : Addr) (e4 : Addr) (e5 : Addr) (e6 : Addr) (e7 : Addr) (e8 : Addr) (h0 : Heap) (n0 : Nat) (Z0 : n0 ≤ h0.size) (hp0 : Sta Z Z.heap "java/lang/String" "COMPACT_STRINGS" "Z" (.int G1)) (hp1 : Sta Z Z.heap "jdk/internal/util/Preconditions" "SIOOBE_FORMATTER" "Ljava/util/function/BiFunction;" fm) (hp2 : Old Z n0 h0) (hp3 : Sta Z Z.heap "com/example/marduk/marduk/io/DropReason" "TOO_SHORT" "Lcom/example/marduk/marduk/io/DropReason;" (.ref e0)) (hp4 : Sta Z Z.heap "com/example/marduk/marduk/io/DropReason" "TOO_LONG" "Lcom/example/marduk/marduk/io/DropReason;" (.ref e1)) (hp5 : Sta Z Z.heap "com/example/marduk/marduk/io/DropReason" "NO_MAGIC" "Lcom/example/marduk/marduk/io/DropReason;" (.ref e2)) (hp6 : Sta Z Z.heap "com/example/marduk/marduk/io/DropReason" "OTHER_VERSION" "Lcom/example/marduk/marduk/io/DropReason;" (.ref e3)) (hp7 : Sta Z Z.heap "com/example/marduk/marduk/io/DropReason" "UNDEFINED_TYPE" "Lcom/example/marduk/marduk/io/DropReason;" (.ref e4)) (hp8 : Sta Z Z.heap "com/example/marduk/marduk/io/DropReason" "WRONG_LENGTH" "Lcom/example/marduk/marduk/io/DropReason;" (.ref e5)) (hp9 : Sta Z Z.heap "com/example/marduk/marduk/io/DropReason" "UNSIGNED" "Lcom/example/marduk/marduk/io/DropReason;" (.ref e6)) (hp10 : Sta Z Z.heap "com/example/marduk/marduk/io/DropReason" "NOT_A_PEER" "Lcom/example/marduk/marduk/io/DropReason;" (.ref e7)) (hp11 : Sta Z Z.heap "com/example/marduk/marduk/io/DropReason" "BAD_BODY" "Lcom/example/marduk/marduk/io/DropReason;" (.ref e8)) (hp12 : Exa Z Z.heap e0 "com/example/marduk/marduk/io/DropReason") (hp13 : Exa Z Z.heap e1 "com/example/marduk/marduk/io/DropReason") (hp14 : Exa Z Z.heap e2 "com/example/marduk/marduk/io/DropReason") (hp15 : Exa Z Z.heap e3 "com/example/marduk/marduk/io/DropReason") (hp16 : Exa Z Z.heap e4 "com/example/marduk/marduk/io/DropReason") (hp17 : Exa Z Z.heap e5 "com/example/marduk/marduk/io/DropReason") (hp18 : Exa Z Z.heap e6 "com/example/marduk/marduk/io/DropReason") (hp19 : Exa Z Z.heap e7 "com/example/marduk/marduk/io/DropReason") (hp20 : Exa Z Z.heap e8 "com/example/marduk/marduk/io/DropReason") (hp21 : Fld Z Z.heap e0 "java/lang/Enum" "ordinal" "I" (.int (0 : Int32))) (hp22 : Fld Z Z.heap e1 "java/lang/Enum" "ordinal" "I" (.int (1 : Int32))) (hp23 : Fld Z Z.heap e2 "java/lang/Enum" "ordinal" "I" (.int (2 : Int32))) (hp24 : Fld Z Z.heap e3 "java/lang/Enum" "ordinal" "I" (.int (3 : Int32))) (hp25 : Fld Z Z.heap e4 "java/lang/Enum" "ordinal" "I" (.int (4 : Int32))) (hp26 : Fld Z Z.heap e5 "java/lang/Enum" "ordinal" "I" (.int (5 : Int32))) (hp27 : Fld Z Z.heap e6 "java/lang/Enum" "ordinal" "I" (.int (6 : Int32))) (hp28 : Fld Z Z.heap e7 "java/lang/Enum" "ordinal" "I" (.int (7 : Int32))) (hp29 : Fld Z Z.heap e8 "java/lang/Enum" "ordinal" "I" (.int (8 : Int32))) (hcp : ¬ (G1 = (0 : Int32))) (hfm : fm.isRef = true) (hcw : Jvm.Lit.compactW.before az Z = true) (hh59 : Jvm.Lit.constHeld Z "com/example/marduk/marduk/io/DropReason" 59) (hh63 : Jvm.Lit.constHeld Z "com/example/marduk/marduk/io/DropReason" 63) (hh65 : Jvm.Lit.constHeld Z "com/example/marduk/marduk/io/DropReason" 65) (hh67 : Jvm.Lit.constHeld Z "com/example/marduk/marduk/io/DropReason" 67) (hh69 : Jvm.Lit.constHeld Z "com/example/marduk/marduk/io/DropReason" 69) (hh71 : Jvm.Lit.constHeld Z "com/example/marduk/marduk/io/DropReason" 71) (hh73 : Jvm.Lit.constHeld Z "com/example/marduk/marduk/io/DropReason" 73) (hh75 : Jvm.Lit.constHeld Z "com/example/marduk/marduk/io/DropReason" 75) (hh77 : Jvm.Lit.constHeld Z "com/example/marduk/marduk/io/DropReason" 77) :
    OConW l x code maxLocals ret ws room_1 Z #[(.int p0), (.int p1)] h0 (law_Q Z p0 p1 G1 fm e0 e1 e2 e3 e4 e5 e6 e7 e8 h0 n0) := by
  refine oconW (plainFor_of_name pn_com_example_marduk_marduk_io_DropReasonDescriptionPinLaw) ?_
  intro p e s m below meth c s₁ hx hby hml hown hnm hret hlk hZ X0 eh0 hh0 hU0
  have hS0 : s.Since s.vm s.heap.size := (State.WarmedH.refl s).since _
  have hk0 : s.heap.size ≤ h0.size := Nat.le_of_eq (by rw [hh0])
  have N0 := Fr.nil n0
  have K0 := Keep.refl h0 []
  refine ogoE (law_ef m p0 p1) ?_
  generalize hG : (OEndW s below (law_Q Z p0 p1 G1 fm e0 e1 e2 e3 e4 e5 e6 e7 e8 h0 n0) room_1.cells room_1.slots) = G
  show OWay p e below G s₁ (mkF m 0 #[.val (.int p0), .val (.int p1), .unset, .unset, .unset, .unset] [])
  refine ogo (fun _ z_ => XS.iloadN X0.here hx rfl (hb hby at_0) rfl z_) ?_
  show OWay p e below G s₁ (mkF m 1 #[.val (.int p0), .val (.int p1), .unset, .unset, .unset, .unset] [(.int p0)])
  refine ogo (fun _ z_ => X0.ldcInt hx hown (mvT hZ (hw _ (List.mem_of_getElem? (i := 0) rfl))) (g := (mkF m 1 #[.val (.int p0), .val (.int p1), .unset, .unset, .unset, .unset] [(.int p0)])) rfl (hb hby at_1) _ z_) ?_
  show OWay p e below G s₁ (mkF m 3 #[.val (.int p0), .val (.int p1), .unset, .unset, .unset, .unset] [(.int (2147483647 : Int32)), (.int p0)])
  refine ogo (fun _ z_ => XS.iand X0.here hx rfl (hb hby at_3) rfl z_) ?_
  show OWay p e below G s₁ (mkF m 4 #[.val (.int p0), .val (.int p1), .unset, .unset, .unset, .unset] [(.int (p0 &&& (2147483647 : Int32)))])
  refine ogo (fun _ z_ => XS.bipush X0.here hx rfl (hb hby at_4) z_) ?_
  show OWay p e below G s₁ (mkF m 6 #[.val (.int p0), .val (.int p1), .unset, .unset, .unset, .unset] [(.int (9 : Int32)), (.int (p0 &&& (2147483647 : Int32)))])
  refine ogo (fun _ z_ => iremM X0 hx rfl (hb hby at_6) rfl (by decide) z_) ?_
  show OWay p e below G s₁ (mkF m 7 #[.val (.int p0), .val (.int p1), .unset, .unset, .unset, .unset] [(.int ((p0 &&& (2147483647 : Int32)) % (9 : Int32)))])
  suffices Jv2_1 : ∀ v2_1 : Int32, v2_1 = ((p0 &&& (2147483647 : Int32)) % (9 : Int32)) → OWay p e below G s₁ (mkF m 7 #[.val (.int p0), .val (.int p1), .unset, .unset, .unset, .unset] [(.int v2_1)]) from Jv2_1 _ rfl
  intro v2_1 hv2_1
  refine ogo (fun _ z_ => XS.istoreN X0.here hx rfl (hb hby at_7) rfl (l' := #[.val (.int p0), .val (.int p1), .val (.int v2_1), .unset, .unset, .unset]) rfl z_) ?_
  show OWay p e below G s₁ (mkF m 8 #[.val (.int p0), .val (.int p1), .val (.int v2_1), .unset, .unset, .unset] [])
  refine ogo (fun _ z_ => XS.iloadN X0.here hx rfl (hb hby at_8) rfl z_) ?_
  show OWay p e below G s₁ (mkF m 9 #[.val (.int p0), .val (.int p1), .val (.int v2_1), .unset, .unset, .unset] [(.int p1)])
  refine ogo (fun _ z_ => X0.ldcInt hx hown (mvT hZ (hw _ (List.mem_of_getElem? (i := 0) rfl))) (g := (mkF m 9 #[.val (.int p0), .val (.int p1), .val (.int v2_1), .unset, .unset, .unset] [(.int p1)])) rfl (hb hby at_9) _ z_) ?_
  show OWay p e below G s₁ (mkF m 11 #[.val (.int p0), .val (.int p1), .val (.int v2_1), .unset, .unset, .unset] [(.int (2147483647 : Int32)), (.int p1)])
  refine ogo (fun _ z_ => XS.iand X0.here hx rfl (hb hby at_11) rfl z_) ?_
  show OWay p e below G s₁ (mkF m 12 #[.val (.int p0), .val (.int p1), .val (.int v2_1), .unset, .unset, .unset] [(.int (p1 &&& (2147483647 : Int32)))])
  refine ogo (fun _ z_ => XS.bipush X0.here hx rfl (hb hby at_12) z_) ?_
  show OWay p e below G s₁ (mkF m 14 #[.val (.int p0), .val (.int p1), .val (.int v2_1), .unset, .unset, .unset] [(.int (9 : Int32)), (.int (p1 &&& (2147483647 : Int32)))])
  refine ogo (fun _ z_ => iremM X0 hx rfl (hb hby at_14) rfl (by decide) z_) ?_
  show OWay p e below G s₁ (mkF m 15 #[.val (.int p0), .val (.int p1), .val (.int v2_1), .unset, .unset, .unset] [(.int ((p1 &&& (2147483647 : Int32)) % (9 : Int32)))])
  suffices Jv3_2 : ∀ v3_2 : Int32, v3_2 = ((p1 &&& (2147483647 : Int32)) % (9 : Int32)) → OWay p e below G s₁ (mkF m 15 #[.val (.int p0), .val (.int p1), .val (.int v2_1), .unset, .unset, .unset] [(.int v3_2)]) from Jv3_2 _ rfl
  intro v3_2 hv3_2
  refine ogo (fun _ z_ => XS.istoreN X0.here hx rfl (hb hby at_15) rfl (l' := #[.val (.int p0), .val (.int p1), .val (.int v2_1), .val (.int v3_2), .unset, .unset]) rfl z_) ?_
  show OWay p e below G s₁ (mkF m 16 #[.val (.int p0), .val (.int p1), .val (.int v2_1), .val (.int v3_2), .unset, .unset] [])
  refine ogo (fun _ z_ => XS.iloadN X0.here hx rfl (hb hby at_16) rfl z_) ?_
  show OWay p e below G s₁ (mkF m 17 #[.val (.int p0), .val (.int p1), .val (.int v2_1), .val (.int v3_2), .unset, .unset] [(.int v2_1)])
  obtain ⟨_, T3, L3, X3, hQ3, st3⟩ := wStatic X0 hx hZ (y := (⟨"com/example/marduk/marduk/io/DropReasonDescriptionPinLaw", "reason", "(I)Lcom/example/marduk/marduk/io/DropReason;"⟩ : MethodName)) hown (hw _ (List.mem_of_getElem? (i := 1) rfl)) (hw _ (List.mem_of_getElem? (i := 2) rfl)) (hw _ (List.mem_of_getElem? (i := 3) rfl)) (hw _ (List.mem_of_getElem? (i := 4) rfl)) (by decide) (reason_b_c l Z az hw [] v2_1 e0 e1 e2 e3 e4 e5 e6 e7 e8 h0 n0 Z0 hp3 hp4 hp5 hp6 hp7 hp8 hp9 hp10 hp11 hp12 hp13 hp14 hp15 hp16 hp17 hp18 hp19 hp20 hp21 hp22 hp23 hp24 hp25 hp26 hp27 hp28 hp29 hp2 (own_rg p0 v2_1 hv2_1)) 0 (by decide) (by decide) (g := (mkF m 17 #[.val (.int p0), .val (.int p1), .val (.int v2_1), .val (.int v3_2), .unset, .unset] [(.int v2_1)])) rfl (by rw [hml]; rfl) (argsL := [(.int v2_1)]) (rest := []) (lenOf pd__I_Lcom_example_marduk_marduk_io_DropReason_ rfl) rfl (by show 2 * 0 + _ ≤ _; exact Nat.le_of_eq rfl) (hb hby at_17) rfl eh0 (by decide) (by decide)
  obtain ⟨r_4, rfl, N3q, eq3, ex_5, fo_6⟩ := hQ3
  have N3 := Fr.app N0 N3q
  refine ogo st3 ?_
  show OWay p e below G T3 (mkF m 20 #[.val (.int p0), .val (.int p1), .val (.int v2_1), .val (.int v3_2), .unset, .unset] [(.ref r_4)])
  have hr2 := own_rg p0 v2_1 hv2_1
  have I0 : IB Z s.vm [] := by rw [hU0]; exact IB.start
  obtain ⟨_, T7, L7, X7, hS7, hZ7, hown7, hQ7, st7⟩ := wVirtualL (s := s) (vm0 := s.vm) X3 hx hZ (y := (⟨"com/example/marduk/marduk/io/DropReason", "description", "()Ljava/lang/String;"⟩ : MethodName)) (z := (⟨"com/example/marduk/marduk/io/DropReason", "description", "()Ljava/lang/String;"⟩ : MethodName)) hown (hw _ (List.mem_of_getElem? (i := 8) rfl)) (hw _ (List.mem_of_getElem? (i := 9) rfl)) (notFace_of_selects (args := #[]) (mvT hZ (hw _ (List.mem_of_getElem? (i := 11) rfl)))) (hw _ (List.mem_of_getElem? (i := 11) rfl)) (hw _ (List.mem_of_getElem? (i := 10) rfl)) (hw _ (List.mem_of_getElem? (i := 6) rfl)) (hw _ (List.mem_of_getElem? (i := 12) rfl)) (by decide) (desc_c l Z az hw [] r_4 v2_1 [] h0 n0 Z0 (ex_5.ext hp2.2) (fo_6.ext hp2.2) hr2 hp2 (by simp) hcw hh59 hh63 hh65 hh67 hh69 hh71 hh73 hh75 hh77) 0 (by decide) (by decide) (ex_5.ext hp2.2) (g := (mkF m 20 #[.val (.int p0), .val (.int p1), .val (.int v2_1), .val (.int v3_2), .unset, .unset] [(.ref r_4)])) rfl (by rw [hml]; rfl) (argsL := []) (rest := []) (lenOf pd___Ljava_lang_String_ rfl) rfl (by show 2 * 0 + _ ≤ _; exact Nat.le_of_eq rfl) (hb hby at_20) rfl eq3 (by decide) (by decide) hS0 hk0 (fun vm1 z => own_ibW (s := s) I0 z)
  have hZ := hZ7
  have hown := hown7
  obtain ⟨a7, b7, k7, rfl, N7q, Eq7, Ex7, Co7, Va7, Ar7, IB7, Li7⟩ := hQ7
  have K8 : Keep h0 T7.heap [] := K0.ext Eq7
  have N7 := Fr.app N3 N7q
  refine ogoS st7 ?_
  show OWay p e below G T7 (mkF m 23 #[.val (.int p0), .val (.int p1), .val (.int v2_1), .val (.int v3_2), .unset, .unset] [(.ref a7)])
  refine ogo (fun _ z_ => XS.astore X7.here hx rfl (hb hby at_23) rfl rfl (l' := #[.val (.int p0), .val (.int p1), .val (.int v2_1), .val (.int v3_2), .val (.ref a7), .unset]) rfl z_) ?_
  show OWay p e below G T7 (mkF m 25 #[.val (.int p0), .val (.int p1), .val (.int v2_1), .val (.int v3_2), .val (.ref a7), .unset] [])
  by_cases cij : v2_1 = v3_2
  · show OWay p e below G T7 (mkF m 25 #[.val (.int p0), .val (.int p1), .val (.int v2_1), .val (.int v3_2), .val (.ref a7), .unset] [])
    refine ogo (fun _ z_ => XS.iloadN X7.here hx rfl (hb hby at_25) rfl z_) ?_
    show OWay p e below G T7 (mkF m 26 #[.val (.int p0), .val (.int p1), .val (.int v2_1), .val (.int v3_2), .val (.ref a7), .unset] [(.int v3_2)])
    have F9 : Old Z n0 T7.heap := (hp2.ext Eq7)
    obtain ⟨_, T10, L10, X10, hQ10, st10⟩ := wStatic X7 hx hZ (y := (⟨"com/example/marduk/marduk/io/DropReasonDescriptionPinLaw", "reason", "(I)Lcom/example/marduk/marduk/io/DropReason;"⟩ : MethodName)) hown (hw _ (List.mem_of_getElem? (i := 1) rfl)) (hw _ (List.mem_of_getElem? (i := 2) rfl)) (hw _ (List.mem_of_getElem? (i := 3) rfl)) (hw _ (List.mem_of_getElem? (i := 4) rfl)) (by decide) (reason_b_c l Z az hw [] v3_2 e0 e1 e2 e3 e4 e5 e6 e7 e8 T7.heap n0 (Nat.le_trans Z0 Eq7.1) hp3 hp4 hp5 hp6 hp7 hp8 hp9 hp10 hp11 hp12 hp13 hp14 hp15 hp16 hp17 hp18 hp19 hp20 hp21 hp22 hp23 hp24 hp25 hp26 hp27 hp28 hp29 F9 (own_rg p1 v3_2 hv3_2)) 0 (by decide) (by decide) (g := (mkF m 26 #[.val (.int p0), .val (.int p1), .val (.int v2_1), .val (.int v3_2), .val (.ref a7), .unset] [(.int v3_2)])) rfl (by rw [hml]; rfl) (argsL := [(.int v3_2)]) (rest := []) (lenOf pd__I_Lcom_example_marduk_marduk_io_DropReason_ rfl) rfl (by show 2 * 0 + _ ≤ _; exact Nat.le_of_eq rfl) (hb hby at_26) rfl rfl (by decide) (by decide)
    obtain ⟨r_11, rfl, N10q, eq10, ex_12, fo_13⟩ := hQ10
    have N10 := Fr.app N7 N10q
    refine ogo st10 ?_
    show OWay p e below G T10 (mkF m 29 #[.val (.int p0), .val (.int p1), .val (.int v2_1), .val (.int v3_2), .val (.ref a7), .unset] [(.ref r_11)])
    have hr3 := own_rg p1 v3_2 hv3_2
    obtain ⟨_, T14, L14, X14, hS14, hZ14, hown14, hQ14, st14⟩ := wVirtualL (s := s) (vm0 := T7.vm) X10 hx hZ (y := (⟨"com/example/marduk/marduk/io/DropReason", "description", "()Ljava/lang/String;"⟩ : MethodName)) (z := (⟨"com/example/marduk/marduk/io/DropReason", "description", "()Ljava/lang/String;"⟩ : MethodName)) hown (hw _ (List.mem_of_getElem? (i := 8) rfl)) (hw _ (List.mem_of_getElem? (i := 9) rfl)) (notFace_of_selects (args := #[]) (mvT hZ (hw _ (List.mem_of_getElem? (i := 11) rfl)))) (hw _ (List.mem_of_getElem? (i := 11) rfl)) (hw _ (List.mem_of_getElem? (i := 10) rfl)) (hw _ (List.mem_of_getElem? (i := 6) rfl)) (hw _ (List.mem_of_getElem? (i := 12) rfl)) (by decide) (descA_c l Z az hw [] r_11 v3_2 a7 T7.heap n0 (Nat.le_trans Z0 Eq7.1) (ex_12.ext F9.2) (fo_13.ext F9.2) hr3) 0 (by decide) (by decide) (ex_12.ext F9.2) (g := (mkF m 29 #[.val (.int p0), .val (.int p1), .val (.int v2_1), .val (.int v3_2), .val (.ref a7), .unset] [(.ref r_11)])) rfl (by rw [hml]; rfl) (argsL := []) (rest := []) (lenOf pd___Ljava_lang_String_ rfl) rfl (by show 2 * 0 + _ ≤ _; exact Nat.le_of_eq rfl) (hb hby at_29) rfl eq10 (by decide) (by decide) hS7 (Nat.le_refl _) (fun vm1 z => own_litW (s := s) (show Lit _ _ (ix v3_2) _ from cij ▸ Li7) z)
    have hZ := hZ14
    have hown := hown14
    obtain ⟨rfl, N14q, eq14⟩ := hQ14
    have N14 := Fr.app N10 N14q
    refine ogoS st14 ?_
    show OWay p e below G T14 (mkF m 32 #[.val (.int p0), .val (.int p1), .val (.int v2_1), .val (.int v3_2), .val (.ref a7), .unset] [(.ref a7)])
    refine ogo (fun _ z_ => XS.astore X14.here hx rfl (hb hby at_32) rfl rfl (l' := #[.val (.int p0), .val (.int p1), .val (.int v2_1), .val (.int v3_2), .val (.ref a7), .val (.ref a7)]) rfl z_) ?_
    show OWay p e below G T14 (mkF m 34 #[.val (.int p0), .val (.int p1), .val (.int v2_1), .val (.int v3_2), .val (.ref a7), .val (.ref a7)] [])
    refine ogo (fun _ z_ => XS.aload X14.here hx rfl (hb hby at_34) rfl rfl z_) ?_
    show OWay p e below G T14 (mkF m 36 #[.val (.int p0), .val (.int p1), .val (.int v2_1), .val (.int v3_2), .val (.ref a7), .val (.ref a7)] [(.ref a7)])
    obtain ⟨_, T15, L15, X15, hQ15, st15⟩ := wStatic X14 hx hZ (y := (⟨"com/example/marduk/marduk/io/DropReasonDescriptionPinLaw", "wellFormed", "(Ljava/lang/String;)Z"⟩ : MethodName)) hown (hw _ (List.mem_of_getElem? (i := 33) rfl)) (hw _ (List.mem_of_getElem? (i := 34) rfl)) (hw _ (List.mem_of_getElem? (i := 3) rfl)) (hw _ (List.mem_of_getElem? (i := 35) rfl)) (by decide) (wf_b_c l Z az hw [] a7 b7 k7 (tx v2_1) G1 fm T7.heap n0 (Nat.le_trans Z0 Eq7.1) Ex7 Co7 Va7 Ar7 hp0 hp1 F9 (own_wl _ hr2) hcp hfm) 0 (by decide) (by decide) (g := (mkF m 36 #[.val (.int p0), .val (.int p1), .val (.int v2_1), .val (.int v3_2), .val (.ref a7), .val (.ref a7)] [(.ref a7)])) rfl (by rw [hml]; rfl) (argsL := [(.ref a7)]) (rest := []) (lenOf pd__Ljava_lang_String__Z rfl) rfl (by show 2 * 0 + _ ≤ _; exact Nat.le_of_eq rfl) (hb hby at_36) rfl eq14 (by decide) (by decide)
    obtain ⟨rfl, N15q, eq15⟩ := hQ15
    have N15 := Fr.app N14 N15q
    refine ogo st15 ?_
    show OWay p e below G T15 (mkF m 39 #[.val (.int p0), .val (.int p1), .val (.int v2_1), .val (.int v3_2), .val (.ref a7), .val (.ref a7)] [(.int (1 : Int32))])
    refine ogo (fun _ z_ => XS.ifNo X15.here hx rfl (hb hby at_39) rfl ((if0 _ _).trans (feq (by decide)).1) z_) ?_
    show OWay p e below G T15 (mkF m 42 #[.val (.int p0), .val (.int p1), .val (.int v2_1), .val (.int v3_2), .val (.ref a7), .val (.ref a7)] [])
    refine ogo (fun _ z_ => XS.aload X15.here hx rfl (hb hby at_42) rfl rfl z_) ?_
    show OWay p e below G T15 (mkF m 44 #[.val (.int p0), .val (.int p1), .val (.int v2_1), .val (.int v3_2), .val (.ref a7), .val (.ref a7)] [(.ref a7)])
    obtain ⟨_, T16, L16, X16, hQ16, st16⟩ := wStatic X15 hx hZ (y := (⟨"com/example/marduk/marduk/io/DropReasonDescriptionPinLaw", "wellFormed", "(Ljava/lang/String;)Z"⟩ : MethodName)) hown (hw _ (List.mem_of_getElem? (i := 33) rfl)) (hw _ (List.mem_of_getElem? (i := 34) rfl)) (hw _ (List.mem_of_getElem? (i := 3) rfl)) (hw _ (List.mem_of_getElem? (i := 35) rfl)) (by decide) (wf_b_c l Z az hw [] a7 b7 k7 (tx v2_1) G1 fm T7.heap n0 (Nat.le_trans Z0 Eq7.1) Ex7 Co7 Va7 Ar7 hp0 hp1 F9 (own_wl _ hr2) hcp hfm) 0 (by decide) (by decide) (g := (mkF m 44 #[.val (.int p0), .val (.int p1), .val (.int v2_1), .val (.int v3_2), .val (.ref a7), .val (.ref a7)] [(.ref a7)])) rfl (by rw [hml]; rfl) (argsL := [(.ref a7)]) (rest := []) (lenOf pd__Ljava_lang_String__Z rfl) rfl (by show 2 * 0 + _ ≤ _; exact Nat.le_of_eq rfl) (hb hby at_44) rfl eq15 (by decide) (by decide)
    obtain ⟨rfl, N16q, eq16⟩ := hQ16
    have N16 := Fr.app N15 N16q
    refine ogo st16 ?_
    show OWay p e below G T16 (mkF m 47 #[.val (.int p0), .val (.int p1), .val (.int v2_1), .val (.int v3_2), .val (.ref a7), .val (.ref a7)] [(.int (1 : Int32))])
    refine ogo (fun _ z_ => XS.ifYes X16.here hx rfl (pc0 := 47) (pc' := 52) rfl (hb hby at_47) rfl ((if0 _ _).trans (feq (by decide)).2) (by decide) (by decide) z_) ?_
    show OWay p e below G T16 (mkF m 52 #[.val (.int p0), .val (.int p1), .val (.int v2_1), .val (.int v3_2), .val (.ref a7), .val (.ref a7)] [])
    refine ogo (fun _ z_ => XS.iloadN X16.here hx rfl (hb hby at_52) rfl z_) ?_
    show OWay p e below G T16 (mkF m 53 #[.val (.int p0), .val (.int p1), .val (.int v2_1), .val (.int v3_2), .val (.ref a7), .val (.ref a7)] [(.int v2_1)])
    refine ogo (fun _ z_ => XS.iloadN X16.here hx rfl (hb hby at_53) rfl z_) ?_
    show OWay p e below G T16 (mkF m 54 #[.val (.int p0), .val (.int p1), .val (.int v2_1), .val (.int v3_2), .val (.ref a7), .val (.ref a7)] [(.int v3_2), (.int v2_1)])
    refine ogo (fun _ z_ => XS.icmpNo X16.here hx rfl (hb hby at_54) rfl (teq cij).2 z_) ?_
    show OWay p e below G T16 (mkF m 57 #[.val (.int p0), .val (.int p1), .val (.int v2_1), .val (.int v3_2), .val (.ref a7), .val (.ref a7)] [])
    refine ogo (fun _ z_ => XS.aload X16.here hx rfl (hb hby at_57) rfl rfl z_) ?_
    show OWay p e below G T16 (mkF m 59 #[.val (.int p0), .val (.int p1), .val (.int v2_1), .val (.int v3_2), .val (.ref a7), .val (.ref a7)] [(.ref a7)])
    refine ogo (fun _ z_ => XS.aload X16.here hx rfl (hb hby at_59) rfl rfl z_) ?_
    show OWay p e below G T16 (mkF m 61 #[.val (.int p0), .val (.int p1), .val (.int v2_1), .val (.int v3_2), .val (.ref a7), .val (.ref a7)] [(.ref a7), (.ref a7)])
    have hws : ∀ d ∈ StrChars.Road.wordsEq, d.before az Z = true := fun d hd => hw d ((by decide +kernel : ∀ d ∈ StrChars.Road.wordsEq, d ∈ tables_1) d hd)
    obtain ⟨cq17, kq17, q17a, q17b, q17c⟩ := isOf hZ eq16 Ex7
    obtain ⟨v17, _, ⟨T17, L17, k17, n17⟩, -, X17, ⟨Lc17, hQ17, l17, y17, z17⟩, st17⟩ := X16.virtualBack hx (y := (⟨"java/lang/String", "equals", "(Ljava/lang/Object;)Z"⟩ : MethodName)) (z := (⟨"java/lang/String", "equals", "(Ljava/lang/Object;)Z"⟩ : MethodName)) hown (mvT hZ (hw _ (List.mem_of_getElem? (i := 76) rfl))) (mvT hZ (hw _ (List.mem_of_getElem? (i := 77) rfl))) (notFace_of_selects (args := #[]) (mvT hZ (hw _ (List.mem_of_getElem? (i := 79) rfl)))) (mvT hZ (hw _ (List.mem_of_getElem? (i := 79) rfl))) (mvT hZ (hw _ (List.mem_of_getElem? (i := 78) rfl))) (by decide) (StrChars.Road.eqW (W := 0) hZ hws (kI := 4) (hw _ (List.mem_of_getElem? (i := 24) rfl)) Ex7 Va7 Co7 Ar7 (own_cod _ (own_wl v2_1 hr2).2.2.1) (own_chr _ (own_wl v2_1 hr2).2.2.1) (Nat.le_trans (own_wl v2_1 hr2).2.1 (by decide)) Ex7 Va7 Co7 Ar7 (own_cod _ (own_wl v2_1 hr2).2.2.1) (own_chr _ (own_wl v2_1 hr2).2.2.1) (Nat.le_trans (own_wl v2_1 hr2).2.1 (by decide)) (hp0.ext F9.2) hcp (by decide) (by decide)) q17a q17c (g := (mkF m 61 #[.val (.int p0), .val (.int p1), .val (.int v2_1), .val (.int v3_2), .val (.ref a7), .val (.ref a7)] [(.ref a7), (.ref a7)])) rfl (by rw [hml]; rfl) (Steps.refl _) (argsL := [(.ref a7)]) (rest := []) (lenOf pd__Ljava_lang_Object__Z rfl) rfl (by show 2 * 0 + _ ≤ _; exact Nat.le_of_eq rfl) (hb hby at_61) (fun _ _ => ⟨rfl, eq16, (by decide : 4 + 0 ≤ room_1.cells), (by decide : 416 + 0 ≤ room_1.slots)⟩)
    dsimp only [Pt.U, Pt.locs, Pt.cells, Pt.slots] at X17 l17 y17 z17 st17 hQ17
    subst l17 y17 z17
    obtain ⟨hv17, rfl, eq17⟩ := hQ17
    obtain rfl : v17 = some (.int (1 : Int32)) := hv17.elim And.left (fun q => absurd rfl q.2)
    have N17 := Fr.app N16 (Fr.nil n0)
    refine ogoS st17 ?_
    show OWay p e below G T17 (mkF m 64 #[.val (.int p0), .val (.int p1), .val (.int v2_1), .val (.int v3_2), .val (.ref a7), .val (.ref a7)] [(.int (1 : Int32))])
    subst hG
    refine wRetNW (s := s) (vm0 := T14.vm) X17 hx (t := .boolean) hret hlk (by simp) (hb hby at_64) (by decide) (by decide) hS14 (Nat.le_of_eq (congrArg Array.size eq14)) eq17 ?_
    exact ⟨rfl, N17⟩
  · show OWay p e below G T7 (mkF m 25 #[.val (.int p0), .val (.int p1), .val (.int v2_1), .val (.int v3_2), .val (.ref a7), .unset] [])
    refine ogo (fun _ z_ => XS.iloadN X7.here hx rfl (hb hby at_25) rfl z_) ?_
    show OWay p e below G T7 (mkF m 26 #[.val (.int p0), .val (.int p1), .val (.int v2_1), .val (.int v3_2), .val (.ref a7), .unset] [(.int v3_2)])
    have F18 : Old Z n0 T7.heap := (hp2.ext Eq7)
    obtain ⟨_, T19, L19, X19, hQ19, st19⟩ := wStatic X7 hx hZ (y := (⟨"com/example/marduk/marduk/io/DropReasonDescriptionPinLaw", "reason", "(I)Lcom/example/marduk/marduk/io/DropReason;"⟩ : MethodName)) hown (hw _ (List.mem_of_getElem? (i := 1) rfl)) (hw _ (List.mem_of_getElem? (i := 2) rfl)) (hw _ (List.mem_of_getElem? (i := 3) rfl)) (hw _ (List.mem_of_getElem? (i := 4) rfl)) (by decide) (reason_b_c l Z az hw [] v3_2 e0 e1 e2 e3 e4 e5 e6 e7 e8 T7.heap n0 (Nat.le_trans Z0 Eq7.1) hp3 hp4 hp5 hp6 hp7 hp8 hp9 hp10 hp11 hp12 hp13 hp14 hp15 hp16 hp17 hp18 hp19 hp20 hp21 hp22 hp23 hp24 hp25 hp26 hp27 hp28 hp29 F18 (own_rg p1 v3_2 hv3_2)) 0 (by decide) (by decide) (g := (mkF m 26 #[.val (.int p0), .val (.int p1), .val (.int v2_1), .val (.int v3_2), .val (.ref a7), .unset] [(.int v3_2)])) rfl (by rw [hml]; rfl) (argsL := [(.int v3_2)]) (rest := []) (lenOf pd__I_Lcom_example_marduk_marduk_io_DropReason_ rfl) rfl (by show 2 * 0 + _ ≤ _; exact Nat.le_of_eq rfl) (hb hby at_26) rfl rfl (by decide) (by decide)
    obtain ⟨r_20, rfl, N19q, eq19, ex_21, fo_22⟩ := hQ19
    have N19 := Fr.app N7 N19q
    refine ogo st19 ?_
    show OWay p e below G T19 (mkF m 29 #[.val (.int p0), .val (.int p1), .val (.int v2_1), .val (.int v3_2), .val (.ref a7), .unset] [(.ref r_20)])
    have hr3 := own_rg p1 v3_2 hv3_2
    obtain ⟨_, T23, L23, X23, hS23, hZ23, hown23, hQ23, st23⟩ := wVirtualL (s := s) (vm0 := T7.vm) X19 hx hZ (y := (⟨"com/example/marduk/marduk/io/DropReason", "description", "()Ljava/lang/String;"⟩ : MethodName)) (z := (⟨"com/example/marduk/marduk/io/DropReason", "description", "()Ljava/lang/String;"⟩ : MethodName)) hown (hw _ (List.mem_of_getElem? (i := 8) rfl)) (hw _ (List.mem_of_getElem? (i := 9) rfl)) (notFace_of_selects (args := #[]) (mvT hZ (hw _ (List.mem_of_getElem? (i := 11) rfl)))) (hw _ (List.mem_of_getElem? (i := 11) rfl)) (hw _ (List.mem_of_getElem? (i := 10) rfl)) (hw _ (List.mem_of_getElem? (i := 6) rfl)) (hw _ (List.mem_of_getElem? (i := 12) rfl)) (by decide) (desc_c l Z az hw [] r_20 v3_2 [txs v2_1] T7.heap n0 (Nat.le_trans Z0 Eq7.1) (ex_21.ext F18.2) (fo_22.ext F18.2) hr3 F18 (own_no _ _ hr2 hr3 cij) hcw hh59 hh63 hh65 hh67 hh69 hh71 hh73 hh75 hh77) 0 (by decide) (by decide) (ex_21.ext F18.2) (g := (mkF m 29 #[.val (.int p0), .val (.int p1), .val (.int v2_1), .val (.int v3_2), .val (.ref a7), .unset] [(.ref r_20)])) rfl (by rw [hml]; rfl) (argsL := []) (rest := []) (lenOf pd___Ljava_lang_String_ rfl) rfl (by show 2 * 0 + _ ≤ _; exact Nat.le_of_eq rfl) (hb hby at_29) rfl eq19 (by decide) (by decide) hS7 (Nat.le_refl _) (fun vm1 z => own_ibW (s := s) IB7 z)
    have hZ := hZ23
    have hown := hown23
    obtain ⟨a23, b23, k23, rfl, N23q, Eq23, Ex23, Co23, Va23, Ar23, IB23, Li23⟩ := hQ23
    have K24 : Keep h0 T23.heap [] := K8.ext Eq23
    have N23 := Fr.app N19 N23q
    refine ogoS st23 ?_
    show OWay p e below G T23 (mkF m 32 #[.val (.int p0), .val (.int p1), .val (.int v2_1), .val (.int v3_2), .val (.ref a7), .unset] [(.ref a23)])
    refine ogo (fun _ z_ => XS.astore X23.here hx rfl (hb hby at_32) rfl rfl (l' := #[.val (.int p0), .val (.int p1), .val (.int v2_1), .val (.int v3_2), .val (.ref a7), .val (.ref a23)]) rfl z_) ?_
    show OWay p e below G T23 (mkF m 34 #[.val (.int p0), .val (.int p1), .val (.int v2_1), .val (.int v3_2), .val (.ref a7), .val (.ref a23)] [])
    refine ogo (fun _ z_ => XS.aload X23.here hx rfl (hb hby at_34) rfl rfl z_) ?_
    show OWay p e below G T23 (mkF m 36 #[.val (.int p0), .val (.int p1), .val (.int v2_1), .val (.int v3_2), .val (.ref a7), .val (.ref a23)] [(.ref a7)])
    have F25 : Exa Z T23.heap a7 "java/lang/String" := (Ex7.ext Eq23)
    have F26 : Fld Z T23.heap a7 "java/lang/String" "coder" "B" (.int (0 : Int32)) := (Co7.ext Eq23)
    have F27 : Fld Z T23.heap a7 "java/lang/String" "value" "[B" (.ref b7) := (Va7.ext Eq23)
    have F28 : Arv Z T23.heap b7 k7 .byte (Int32.ofNat (tx v2_1).length) ((tx v2_1).map fun c => Value.int (StrChars.lo8 c)) (.int (0 : Int32)) := (Ar7.ext Eq23)
    have F29 : Old Z n0 T23.heap := (F18.ext Eq23)
    obtain ⟨_, T30, L30, X30, hQ30, st30⟩ := wStatic X23 hx hZ (y := (⟨"com/example/marduk/marduk/io/DropReasonDescriptionPinLaw", "wellFormed", "(Ljava/lang/String;)Z"⟩ : MethodName)) hown (hw _ (List.mem_of_getElem? (i := 33) rfl)) (hw _ (List.mem_of_getElem? (i := 34) rfl)) (hw _ (List.mem_of_getElem? (i := 3) rfl)) (hw _ (List.mem_of_getElem? (i := 35) rfl)) (by decide) (wf_b_c l Z az hw [] a7 b7 k7 (tx v2_1) G1 fm T23.heap n0 (Nat.le_trans (Nat.le_trans Z0 Eq7.1) Eq23.1) F25 F26 F27 F28 hp0 hp1 F29 (own_wl _ hr2) hcp hfm) 0 (by decide) (by decide) (g := (mkF m 36 #[.val (.int p0), .val (.int p1), .val (.int v2_1), .val (.int v3_2), .val (.ref a7), .val (.ref a23)] [(.ref a7)])) rfl (by rw [hml]; rfl) (argsL := [(.ref a7)]) (rest := []) (lenOf pd__Ljava_lang_String__Z rfl) rfl (by show 2 * 0 + _ ≤ _; exact Nat.le_of_eq rfl) (hb hby at_36) rfl rfl (by decide) (by decide)
    obtain ⟨rfl, N30q, eq30⟩ := hQ30
    have N30 := Fr.app N23 N30q
    refine ogo st30 ?_
    show OWay p e below G T30 (mkF m 39 #[.val (.int p0), .val (.int p1), .val (.int v2_1), .val (.int v3_2), .val (.ref a7), .val (.ref a23)] [(.int (1 : Int32))])
    refine ogo (fun _ z_ => XS.ifNo X30.here hx rfl (hb hby at_39) rfl ((if0 _ _).trans (feq (by decide)).1) z_) ?_
    show OWay p e below G T30 (mkF m 42 #[.val (.int p0), .val (.int p1), .val (.int v2_1), .val (.int v3_2), .val (.ref a7), .val (.ref a23)] [])
    refine ogo (fun _ z_ => XS.aload X30.here hx rfl (hb hby at_42) rfl rfl z_) ?_
    show OWay p e below G T30 (mkF m 44 #[.val (.int p0), .val (.int p1), .val (.int v2_1), .val (.int v3_2), .val (.ref a7), .val (.ref a23)] [(.ref a23)])
    obtain ⟨_, T31, L31, X31, hQ31, st31⟩ := wStatic X30 hx hZ (y := (⟨"com/example/marduk/marduk/io/DropReasonDescriptionPinLaw", "wellFormed", "(Ljava/lang/String;)Z"⟩ : MethodName)) hown (hw _ (List.mem_of_getElem? (i := 33) rfl)) (hw _ (List.mem_of_getElem? (i := 34) rfl)) (hw _ (List.mem_of_getElem? (i := 3) rfl)) (hw _ (List.mem_of_getElem? (i := 35) rfl)) (by decide) (wf_b_c l Z az hw [] a23 b23 k23 (tx v3_2) G1 fm T23.heap n0 (Nat.le_trans (Nat.le_trans Z0 Eq7.1) Eq23.1) Ex23 Co23 Va23 Ar23 hp0 hp1 F29 (own_wl _ hr3) hcp hfm) 0 (by decide) (by decide) (g := (mkF m 44 #[.val (.int p0), .val (.int p1), .val (.int v2_1), .val (.int v3_2), .val (.ref a7), .val (.ref a23)] [(.ref a23)])) rfl (by rw [hml]; rfl) (argsL := [(.ref a23)]) (rest := []) (lenOf pd__Ljava_lang_String__Z rfl) rfl (by show 2 * 0 + _ ≤ _; exact Nat.le_of_eq rfl) (hb hby at_44) rfl eq30 (by decide) (by decide)
    obtain ⟨rfl, N31q, eq31⟩ := hQ31
    have N31 := Fr.app N30 N31q
    refine ogo st31 ?_
    show OWay p e below G T31 (mkF m 47 #[.val (.int p0), .val (.int p1), .val (.int v2_1), .val (.int v3_2), .val (.ref a7), .val (.ref a23)] [(.int (1 : Int32))])
    refine ogo (fun _ z_ => XS.ifYes X31.here hx rfl (pc0 := 47) (pc' := 52) rfl (hb hby at_47) rfl ((if0 _ _).trans (feq (by decide)).2) (by decide) (by decide) z_) ?_
    show OWay p e below G T31 (mkF m 52 #[.val (.int p0), .val (.int p1), .val (.int v2_1), .val (.int v3_2), .val (.ref a7), .val (.ref a23)] [])
    refine ogo (fun _ z_ => XS.iloadN X31.here hx rfl (hb hby at_52) rfl z_) ?_
    show OWay p e below G T31 (mkF m 53 #[.val (.int p0), .val (.int p1), .val (.int v2_1), .val (.int v3_2), .val (.ref a7), .val (.ref a23)] [(.int v2_1)])
    refine ogo (fun _ z_ => XS.iloadN X31.here hx rfl (hb hby at_53) rfl z_) ?_
    show OWay p e below G T31 (mkF m 54 #[.val (.int p0), .val (.int p1), .val (.int v2_1), .val (.int v3_2), .val (.ref a7), .val (.ref a23)] [(.int v3_2), (.int v2_1)])
    refine ogo (fun _ z_ => XS.icmpYes X31.here hx rfl (pc0 := 54) (pc' := 65) rfl (hb hby at_54) rfl (feq cij).2 (by decide) (by decide) z_) ?_
    show OWay p e below G T31 (mkF m 65 #[.val (.int p0), .val (.int p1), .val (.int v2_1), .val (.int v3_2), .val (.ref a7), .val (.ref a23)] [])
    refine ogo (fun _ z_ => XS.aload X31.here hx rfl (hb hby at_65) rfl rfl z_) ?_
    show OWay p e below G T31 (mkF m 67 #[.val (.int p0), .val (.int p1), .val (.int v2_1), .val (.int v3_2), .val (.ref a7), .val (.ref a23)] [(.ref a7)])
    refine ogo (fun _ z_ => XS.aload X31.here hx rfl (hb hby at_67) rfl rfl z_) ?_
    show OWay p e below G T31 (mkF m 69 #[.val (.int p0), .val (.int p1), .val (.int v2_1), .val (.int v3_2), .val (.ref a7), .val (.ref a23)] [(.ref a23), (.ref a7)])
    have hws : ∀ d ∈ StrChars.Road.wordsEq, d.before az Z = true := fun d hd => hw d ((by decide +kernel : ∀ d ∈ StrChars.Road.wordsEq, d ∈ tables_1) d hd)
    obtain ⟨cq32, kq32, q32a, q32b, q32c⟩ := isOf hZ eq31 F25
    obtain ⟨v32, _, ⟨T32, L32, k32, n32⟩, -, X32, ⟨Lc32, hQ32, l32, y32, z32⟩, st32⟩ := X31.virtualBack hx (y := (⟨"java/lang/String", "equals", "(Ljava/lang/Object;)Z"⟩ : MethodName)) (z := (⟨"java/lang/String", "equals", "(Ljava/lang/Object;)Z"⟩ : MethodName)) hown (mvT hZ (hw _ (List.mem_of_getElem? (i := 76) rfl))) (mvT hZ (hw _ (List.mem_of_getElem? (i := 77) rfl))) (notFace_of_selects (args := #[]) (mvT hZ (hw _ (List.mem_of_getElem? (i := 79) rfl)))) (mvT hZ (hw _ (List.mem_of_getElem? (i := 79) rfl))) (mvT hZ (hw _ (List.mem_of_getElem? (i := 78) rfl))) (by decide) (StrChars.Road.eqW (W := 0) hZ hws (kI := 4) (hw _ (List.mem_of_getElem? (i := 24) rfl)) F25 F27 F26 F28 (own_cod _ (own_wl v2_1 hr2).2.2.1) (own_chr _ (own_wl v2_1 hr2).2.2.1) (Nat.le_trans (own_wl v2_1 hr2).2.1 (by decide)) Ex23 Va23 Co23 Ar23 (own_cod _ (own_wl v3_2 hr3).2.2.1) (own_chr _ (own_wl v3_2 hr3).2.2.1) (Nat.le_trans (own_wl v3_2 hr3).2.1 (by decide)) (hp0.ext F29.2) hcp (by decide) (by decide)) q32a q32c (g := (mkF m 69 #[.val (.int p0), .val (.int p1), .val (.int v2_1), .val (.int v3_2), .val (.ref a7), .val (.ref a23)] [(.ref a23), (.ref a7)])) rfl (by rw [hml]; rfl) (Steps.refl _) (argsL := [(.ref a23)]) (rest := []) (lenOf pd__Ljava_lang_Object__Z rfl) rfl (by show 2 * 0 + _ ≤ _; exact Nat.le_of_eq rfl) (hb hby at_69) (fun _ _ => ⟨rfl, eq31, (by decide : 4 + 0 ≤ room_1.cells), (by decide : 416 + 0 ≤ room_1.slots)⟩)
    dsimp only [Pt.U, Pt.locs, Pt.cells, Pt.slots] at X32 l32 y32 z32 st32 hQ32
    subst l32 y32 z32
    obtain ⟨hv32, rfl, eq32⟩ := hQ32
    obtain rfl : v32 = some (.int (0 : Int32)) := hv32.elim (fun q => absurd (own_inj _ _ hr2 hr3 q.2) cij) And.left
    have N32 := Fr.app N31 (Fr.nil n0)
    refine ogoS st32 ?_
    show OWay p e below G T32 (mkF m 72 #[.val (.int p0), .val (.int p1), .val (.int v2_1), .val (.int v3_2), .val (.ref a7), .val (.ref a23)] [(.int (0 : Int32))])
    refine ogo (fun _ z_ => XS.ifNo X32.here hx rfl (hb hby at_72) rfl ((if0 _ _).trans (teq rfl).2) z_) ?_
    show OWay p e below G T32 (mkF m 75 #[.val (.int p0), .val (.int p1), .val (.int v2_1), .val (.int v3_2), .val (.ref a7), .val (.ref a23)] [])
    refine ogo (fun _ z_ => XS.iconst X32.here hx rfl (hb hby at_75) z_) ?_
    show OWay p e below G T32 (mkF m 76 #[.val (.int p0), .val (.int p1), .val (.int v2_1), .val (.int v3_2), .val (.ref a7), .val (.ref a23)] [(.int (1 : Int32))])
    refine ogo (fun _ z_ => XS.goto X32.here hx rfl (pc0 := 76) (pc' := 80) rfl (hb hby at_76) (by decide) (by decide) z_) ?_
    show OWay p e below G T32 (mkF m 80 #[.val (.int p0), .val (.int p1), .val (.int v2_1), .val (.int v3_2), .val (.ref a7), .val (.ref a23)] [(.int (1 : Int32))])
    subst hG
    refine wRetNW (s := s) (vm0 := T23.vm) X32 hx (t := .boolean) hret hlk (by simp) (hb hby at_80) (by decide) (by decide) hS23 (Nat.le_refl _) eq32 ?_
    exact ⟨rfl, N32⟩
set_option maxRecDepth 65536 in
set_option maxHeartbeats 40000000 in
theorem comes_1 {Post : Tables → Env → Array Value → State → Outcome → State → Prop} (hpost : ∀ tb e args s v u, (limb_1_1.after args s (.returned v) u = true ∧ limb_1_2.after args s (.returned v) u = true ∧ True) → ReturnedEndW s (.returned v) u (Jvm.fieldLocs frame_1_writes args s ++ Jvm.arrayLocs frame_1_arrays args s ++ Jvm.staticLocs frame_1_statics s) 24 9280 → Post tb e args s (.returned v) u) :
    ArmFor flags0 classFile x code maxLocals ret World_1 tables_1 room_1 Calls_1 rest_1 Pre_1 Post := by
  intro l hfl _ _ p e ha hc hk s m args below hf hA hF happ hP
  obtain ⟨hcalls, hrest, hpre⟩ := hP
  obtain ⟨-, -, -, hnamed, -, -, -, hat⟩ := (Spec.applies_iff hf).mp happ
  obtain ⟨hg, hn⟩ := and_e (Cond.before_iff.mp (show (Jvm.Cond.and given_1 narrow_1).before args s = true from hpre))
  obtain ⟨g1, g2⟩ := and_e hg
  obtain ⟨g3, g4⟩ := and_e g2
  obtain ⟨w0, w1, rfl⟩ : ∃ w0 w1 : Value, args = #[w0, w1] := by
    have hs : args.size = 2 := by simpa [Cond.value, given_1] using g1
    obtain ⟨L⟩ := args
    match L, hs with
    | [w0, w1], _ => exact ⟨w0, w1, rfl⟩
  have hw := fun d (hd : d ∈ tables_1) => atoms_spec (ws := Jvm.Cond.code x code maxLocals ret :: tables_1) hat d (List.mem_cons_of_mem _ hd)
  have hfit : Fit s := fun {y c} hc i hi => by
    obtain ⟨ha, rfl⟩ := Array.getElem?_eq_some_iff.mp hc
    have q := List.all_eq_true.mp ((Array.all_eq_true_iff_forall_mem.mp hF) _ (Array.getElem_mem ha)) i (List.mem_range.mpr hi)
    simpa [Array.getElem?_eq_getElem hi] using q
  obtain ⟨hsets, hown0⟩ := atoms_of _ (rest_1_c_eq ▸ (show rest_1_c.before _ s = true from hrest))
  have hr0 := Cond.before_iff.mp hown0
  obtain ⟨i0, ei0⟩ := is_v g3
  obtain rfl : w0 = (.int i0) := Option.some.inj ei0
  obtain ⟨i1, ei1⟩ := is_v g4
  obtain rfl : w1 = (.int i1) := Option.some.inj ei1
  obtain ⟨m0, hn⟩ := and_e hn
  obtain ⟨m1, hn⟩ := and_e hn
  obtain ⟨m2, hn⟩ := and_e hn
  obtain ⟨m3, hn⟩ := and_e hn
  obtain ⟨m4, hn⟩ := and_e hn
  obtain ⟨m5, hn⟩ := and_e hn
  obtain ⟨m6, hn⟩ := and_e hn
  obtain ⟨m7, hn⟩ := and_e hn
  obtain ⟨m8, hn⟩ := and_e hn
  obtain ⟨m9, hn⟩ := and_e hn
  obtain ⟨m10, hn⟩ := and_e hn
  obtain ⟨m11, hn⟩ := and_e hn
  obtain ⟨m12, hn⟩ := and_e hn
  obtain ⟨m13, hn⟩ := and_e hn
  obtain ⟨m14, hn⟩ := and_e hn
  obtain ⟨m15, hn⟩ := and_e hn
  obtain ⟨m16, hn⟩ := and_e hn
  have m17 := hn
  have n3 := not_v (Cond.before_iff.mp (hsets _ (List.mem_of_getElem? (i := 2) rfl)))
  obtain ⟨iC, eC⟩ := is_v (Cond.before_iff.mp (hsets _ (List.mem_of_getElem? (i := 1) rfl)))
  have SC : Sta s s.heap "java/lang/String" "COMPACT_STRINGS" "Z" (.int iC) := Sta.start eC (Or.inl (hsets _ (List.mem_of_getElem? (i := 0) rfl)))
  have cC : ¬ (iC = (0 : Int32)) := gotF (Cond.eq_ints eC (Term.int_eval (0))) n3
  obtain ⟨vF, eF, rF⟩ := isR_v (Cond.before_iff.mp (hsets _ (List.mem_of_getElem? (i := 8) rfl)))
  have SF := Sta.start eF (Or.inl (hsets _ (List.mem_of_getElem? (i := 7) rfl)))
  obtain ⟨e0, qe0⟩ := exa_v m0
  have Ee0 := Exa.start qe0 m0
  have St0 := Sta.start qe0 (Or.inr ⟨(hw _ (List.mem_of_getElem? (i := 6) rfl)), (hw _ (List.mem_of_getElem? (i := 7) rfl))⟩)
  have Fo0 := own_fld m1 qe0 (Term.int_eval _)
  obtain ⟨e1, qe1⟩ := exa_v m6
  have Ee1 := Exa.start qe1 m6
  have St1 := Sta.start qe1 (Or.inr ⟨(hw _ (List.mem_of_getElem? (i := 6) rfl)), (hw _ (List.mem_of_getElem? (i := 90) rfl))⟩)
  have Fo1 := own_fld m7 qe1 (Term.int_eval _)
  obtain ⟨e2, qe2⟩ := exa_v m8
  have Ee2 := Exa.start qe2 m8
  have St2 := Sta.start qe2 (Or.inr ⟨(hw _ (List.mem_of_getElem? (i := 6) rfl)), (hw _ (List.mem_of_getElem? (i := 93) rfl))⟩)
  have Fo2 := own_fld m9 qe2 (Term.int_eval _)
  obtain ⟨e3, qe3⟩ := exa_v m2
  have Ee3 := Exa.start qe3 m2
  have St3 := Sta.start qe3 (Or.inr ⟨(hw _ (List.mem_of_getElem? (i := 6) rfl)), (hw _ (List.mem_of_getElem? (i := 31) rfl))⟩)
  have Fo3 := own_fld m3 qe3 (Term.int_eval _)
  obtain ⟨e4, qe4⟩ := exa_v m10
  have Ee4 := Exa.start qe4 m10
  have St4 := Sta.start qe4 (Or.inr ⟨(hw _ (List.mem_of_getElem? (i := 6) rfl)), (hw _ (List.mem_of_getElem? (i := 96) rfl))⟩)
  have Fo4 := own_fld m11 qe4 (Term.int_eval _)
  obtain ⟨e5, qe5⟩ := exa_v m4
  have Ee5 := Exa.start qe5 m4
  have St5 := Sta.start qe5 (Or.inr ⟨(hw _ (List.mem_of_getElem? (i := 6) rfl)), (hw _ (List.mem_of_getElem? (i := 87) rfl))⟩)
  have Fo5 := own_fld m5 qe5 (Term.int_eval _)
  obtain ⟨e6, qe6⟩ := exa_v m12
  have Ee6 := Exa.start qe6 m12
  have St6 := Sta.start qe6 (Or.inr ⟨(hw _ (List.mem_of_getElem? (i := 6) rfl)), (hw _ (List.mem_of_getElem? (i := 99) rfl))⟩)
  have Fo6 := own_fld m13 qe6 (Term.int_eval _)
  obtain ⟨e7, qe7⟩ := exa_v m16
  have Ee7 := Exa.start qe7 m16
  have St7 := Sta.start qe7 (Or.inr ⟨(hw _ (List.mem_of_getElem? (i := 6) rfl)), (hw _ (List.mem_of_getElem? (i := 105) rfl))⟩)
  have Fo7 := own_fld m17 qe7 (Term.int_eval _)
  obtain ⟨e8, qe8⟩ := exa_v m14
  have Ee8 := Exa.start qe8 m14
  have St8 := Sta.start qe8 (Or.inr ⟨(hw _ (List.mem_of_getElem? (i := 6) rfl)), (hw _ (List.mem_of_getElem? (i := 102) rfl))⟩)
  have Fo8 := own_fld m15 qe8 (Term.int_eval _)
  obtain ⟨n, o, h1, h2, h3, _, L, rfl, ⟨rfl, N⟩, hq⟩ := law_c l s _ hw tables_1 i0 i1 iC vF e0 e1 e2 e3 e4 e5 e6 e7 e8 s.heap s.heap.size (Nat.le_refl _) SC SF (Old.start s) St0 St1 St2 St3 St4 St5 St6 St7 St8 Ee0 Ee1 Ee2 Ee3 Ee4 Ee5 Ee6 Ee7 Ee8 Fo0 Fo1 Fo2 Fo3 Fo4 Fo5 Fo6 Fo7 Fo8 cC rF (hsets _ (List.mem_of_getElem? (i := 2) rfl)) (hcalls.1 ("com/example/marduk/marduk/io/DropReason", 59) (by simp [consts_1])) (hcalls.1 ("com/example/marduk/marduk/io/DropReason", 63) (by simp [consts_1])) (hcalls.1 ("com/example/marduk/marduk/io/DropReason", 65) (by simp [consts_1])) (hcalls.1 ("com/example/marduk/marduk/io/DropReason", 67) (by simp [consts_1])) (hcalls.1 ("com/example/marduk/marduk/io/DropReason", 69) (by simp [consts_1])) (hcalls.1 ("com/example/marduk/marduk/io/DropReason", 71) (by simp [consts_1])) (hcalls.1 ("com/example/marduk/marduk/io/DropReason", 73) (by simp [consts_1])) (hcalls.1 ("com/example/marduk/marduk/io/DropReason", 75) (by simp [consts_1])) (hcalls.1 ("com/example/marduk/marduk/io/DropReason", 77) (by simp [consts_1])) p e ha hc hk s m _ below hf ((Spec.applies_iff_loose hf).mp happ).1 ⟨rfl, rfl, rfl⟩ trivial
  refine ⟨n, _, h1, h2, h3, hpost _ _ _ _ _ _ ⟨Cond.after_iff.mpr rfl, Cond.after_iff.mpr (eq_i res_at (Term.int_eval (1)) rfl), trivial⟩ ⟨hq.1, hq.2.1, hq.2.2.1, (hq.2.2.2.sift fun y hy => Or.inr (N y hy)).mono (by decide) (by decide)⟩⟩
theorem main_1_1 : Claimed_1_1 := comes_1 fun _ _ _ _ _ _ h hF => ⟨h.1, hF⟩
theorem main_1_2 : Claimed_1_2 := comes_1 fun _ _ _ _ _ _ h hF => ⟨h.2.1, hF⟩
end Jvm.Pilot.@@N@@
namespace Jvm.Pilot.@@N@@
open Jvm Jvm.ClassFile Sem Op Lib Jvm.Free Jvm.Stand Jvm.Pilot.@@N@@.Jvm.D
/-! MADE BY PROGRAM (witnessworld.py) out of the Statement's table words and the real class files: 18 classes; the members and pool entries that the words name. The judged class is class 1, her method 3. -/
namespace start1
open Jvm.ClassFile
def u (s : String) : CpInfo := .utf8 (stringToUtf16 s)
/-- a pool by its gaps: so many unusable entries, then the entry; so many at the end -/
def gap : Nat → List CpInfo → List CpInfo
  | 0, r => r
  | n + 1, r => .unusable :: gap n r
def poolList (es : List (Nat × CpInfo)) (last : Nat) : List CpInfo := es.foldr (fun e r => gap e.1 (e.2 :: r)) (gap last [])
def pool (es : List (Nat × CpInfo)) (last : Nat) : Array CpInfo := ⟨poolList es last⟩
def fileOf (pool : Array CpInfo) (this : Nat) (attrs : Array Attribute := #[]) (ms : Array MethodInfo := #[]) (fl : Nat := 33) (sup : Nat := 0) (ifs : Array Nat := #[]) (fds : Array FieldInfo := #[]) : ClassFile where
  minorVersion := 0
  majorVersion := 65
  constantPool := pool
  accessFlags := fl
  thisClass := this
  superClass := sup
  interfaces := ifs
  fields := fds
  methods := ms
  attributes := attrs
def plain (name : String) (sup : Option ClassId) : Class where
  name := name
  kind := .ordinary
  loader := none
  accessFlags := 33
  super := sup
  interfaces := #[]
  cf := none
  fields := #[]
  methods := #[]
  instanceTypes := #[]
  staticTypes := #[]
  resolved := #[]
  callSites := []
  init := .initialized
  statics := none
  mirror := none

def pool0 : Array CpInfo := pool [(5, u "<init>"), (0, u "()V"), (1, .class_ 10), (1, u "java/lang/Object")] 113

def k0m0 : Method := { name := "<init>", desc := "()V", sig := { parameters := [], returnType := none }, accessFlags := 1, code := none }
/-- java/lang/Object -/
def k0 : Class := { plain "java/lang/Object" none with
  accessFlags := 33
  interfaces := #[]
  cf := some (fileOf pool0 8 #[] #[{ accessFlags := 1, nameIndex := 5, descriptorIndex := 6, attributes := #[] }] 33 0 #[] #[])
  fields := #[]
  methods := #[k0m0]
  instanceTypes := #[]
  staticTypes := #[]
  resolved := Array.replicate 124 none
  statics := none }

def pool1 : Array CpInfo := pool [(2, .class_ 4), (1, u "java/lang/Object"), (0, u "<init>"), (0, u "()V"), (0, .fieldref 8 9), (0, .class_ 10), (0, .nameAndType 11 12), (0, u "com/example/marduk/marduk/io/DropReason"), (0, u "TOO_SHORT"), (0, u "Lcom/example/marduk/marduk/io/DropReason;"), (0, .fieldref 8 14), (0, .nameAndType 15 12), (0, u "TOO_LONG"), (0, .fieldref 8 17), (0, .nameAndType 18 12), (0, u "NO_MAGIC"), (0, .fieldref 8 20), (0, .nameAndType 21 12), (0, u "OTHER_VERSION"), (0, .fieldref 8 23), (0, .nameAndType 24 12), (0, u "UNDEFINED_TYPE"), (0, .fieldref 8 26), (0, .nameAndType 27 12), (0, u "WRONG_LENGTH"), (0, .fieldref 8 29), (0, .nameAndType 30 12), (0, u "UNSIGNED"), (0, .fieldref 8 32), (0, .nameAndType 33 12), (0, u "NOT_A_PEER"), (0, .fieldref 8 35), (0, .nameAndType 36 12), (0, u "BAD_BODY"), (0, .methodref 38 39), (0, .class_ 40), (0, .nameAndType 41 42), (0, u "java/lang/String"), (0, u "isEmpty"), (0, u "()Z"), (0, .methodref 38 44), (0, .nameAndType 45 46), (0, u "charAt"), (0, u "(I)C"), (0, .methodref 38 48), (0, .nameAndType 49 50), (0, u "length"), (0, u "()I"), (0, .integer 2147483647), (0, .methodref 53 54), (0, .class_ 55), (0, .nameAndType 56 57), (0, u "com/example/marduk/marduk/io/DropReasonDescriptionPinLaw"), (0, u "reason"), (0, u "(I)Lcom/example/marduk/marduk/io/DropReason;"), (0, .methodref 8 59), (0, .nameAndType 60 61), (0, u "description"), (0, u "()Ljava/lang/String;"), (0, .methodref 53 63), (0, .nameAndType 64 65), (0, u "wellFormed"), (0, u "(Ljava/lang/String;)Z"), (0, .methodref 38 67), (0, .nameAndType 68 69), (0, u "equals"), (0, u "(Ljava/lang/Object;)Z"), (3, u "law"), (0, u "(II)Z")] 2

def k1m0 : Method := { name := "<init>", desc := "()V", sig := { parameters := [], returnType := none }, accessFlags := 2, code := none }
def k1c1 : Code := { maxStack := 2, maxLocals := 1, code := method_2_code, exceptionTable := #[], attributes := #[] }
def k1m1 : Method := { name := "reason", desc := "(I)Lcom/example/marduk/marduk/io/DropReason;", sig := { parameters := [.int], returnType := some (.object "com/example/marduk/marduk/io/DropReason") }, accessFlags := 10, code := some k1c1 }
def k1c2 : Code := { maxStack := 3, maxLocals := 3, code := method_3_code, exceptionTable := #[], attributes := #[] }
def k1m2 : Method := { name := "wellFormed", desc := "(Ljava/lang/String;)Z", sig := { parameters := [(.object "java/lang/String")], returnType := some .boolean }, accessFlags := 10, code := some k1c2 }
def k1c3 : Code := { maxStack := 2, maxLocals := 6, code := code, exceptionTable := #[], attributes := #[] }
def k1m3 : Method := { name := "law", desc := "(II)Z", sig := { parameters := [.int, .int], returnType := some .boolean }, accessFlags := 9, code := some k1c3 }
/-- com/example/marduk/marduk/io/DropReasonDescriptionPinLaw -/
def k1 : Class := { plain "com/example/marduk/marduk/io/DropReasonDescriptionPinLaw" (some 0) with
  accessFlags := 49
  interfaces := #[]
  cf := some (fileOf pool1 53 #[] #[{ accessFlags := 2, nameIndex := 5, descriptorIndex := 6, attributes := #[] }, { accessFlags := 10, nameIndex := 56, descriptorIndex := 57, attributes := #[] }, { accessFlags := 10, nameIndex := 64, descriptorIndex := 65, attributes := #[] }, { accessFlags := 9, nameIndex := 73, descriptorIndex := 74, attributes := #[] }] 49 2 #[] #[])
  fields := #[]
  methods := #[k1m0, k1m1, k1m2, k1m3]
  instanceTypes := #[]
  staticTypes := #[]
  resolved := Array.replicate 77 none
  statics := none }

def pool2 : Array CpInfo := pool [(1, .class_ 2), (0, u "java/lang/constant/Constable"), (0, .class_ 4), (0, u "java/lang/Object")] 6

/-- java/lang/constant/Constable -/
def k2 : Class := { plain "java/lang/constant/Constable" (some 0) with
  accessFlags := 1537
  interfaces := #[]
  cf := some (fileOf pool2 1 #[] #[] 1537 3 #[] #[])
  fields := #[]
  methods := #[]
  instanceTypes := #[]
  staticTypes := #[]
  resolved := Array.replicate 11 none
  statics := none }

def pool3 : Array CpInfo := pool [(1, .class_ 2), (0, u "java/lang/Comparable"), (0, .class_ 4), (0, u "java/lang/Object")] 7

/-- java/lang/Comparable -/
def k3 : Class := { plain "java/lang/Comparable" (some 0) with
  accessFlags := 1537
  interfaces := #[]
  cf := some (fileOf pool3 1 #[] #[] 1537 3 #[] #[])
  fields := #[]
  methods := #[]
  instanceTypes := #[]
  staticTypes := #[]
  resolved := Array.replicate 12 none
  statics := none }

def pool4 : Array CpInfo := pool [(1, .class_ 2), (0, u "java/io/Serializable"), (0, .class_ 4), (0, u "java/lang/Object")] 2

/-- java/io/Serializable -/
def k4 : Class := { plain "java/io/Serializable" (some 0) with
  accessFlags := 1537
  interfaces := #[]
  cf := some (fileOf pool4 1 #[] #[] 1537 3 #[] #[])
  fields := #[]
  methods := #[]
  instanceTypes := #[]
  staticTypes := #[]
  resolved := Array.replicate 7 none
  statics := none }

def pool5 : Array CpInfo := pool [(2, .class_ 4), (1, u "java/lang/Enum"), (0, u "name"), (0, u "Ljava/lang/String;"), (0, .fieldref 2 8), (0, .nameAndType 9 10), (0, u "ordinal"), (0, u "I"), (1, .class_ 14), (1, u "java/lang/Object"), (4, u "hash"), (86, .class_ 108), (1, u "java/lang/Enum$EnumDesc"), (2, .class_ 112), (0, u "java/lang/constant/Constable"), (0, .class_ 114), (0, u "java/lang/Comparable"), (0, .class_ 116), (0, u "java/io/Serializable"), (9, u "()I")] 77

def k5c0 : Code := { maxStack := 1, maxLocals := 1, code := jdk_37_method_2_code, exceptionTable := #[], attributes := #[] }
def k5m0 : Method := { name := "ordinal", desc := "()I", sig := { parameters := [], returnType := some .int }, accessFlags := 17, code := some k5c0 }
/-- java/lang/Enum -/
def k5 : Class := { plain "java/lang/Enum" (some 0) with
  accessFlags := 1057
  interfaces := #[2, 3, 4]
  cf := some (fileOf pool5 2 #[.nestMembers #[106]] #[{ accessFlags := 17, nameIndex := 9, descriptorIndex := 126, attributes := #[] }] 1057 12 #[111, 113, 115] #[{ accessFlags := 18, nameIndex := 5, descriptorIndex := 6, attributes := #[] }, { accessFlags := 18, nameIndex := 9, descriptorIndex := 10, attributes := #[] }, { accessFlags := 2, nameIndex := 19, descriptorIndex := 10, attributes := #[] }])
  fields := #[{ name := "name", type := (.object "java/lang/String"), accessFlags := 18, slot := 0, constantValue := 0 }, { name := "ordinal", type := .int, accessFlags := 18, slot := 1, constantValue := 0 }, { name := "hash", type := .int, accessFlags := 2, slot := 2, constantValue := 0 }]
  methods := #[k5m0]
  instanceTypes := #[(.object "java/lang/String"), .int, .int]
  staticTypes := #[]
  resolved := Array.replicate 204 none
  statics := none }

def pool6 : Array CpInfo := pool [(1, .class_ 2), (0, u "com/example/marduk/marduk/io/DropReason"), (2, u "TOO_SHORT"), (0, u "Lcom/example/marduk/marduk/io/DropReason;"), (2, u "TOO_LONG"), (2, u "NO_MAGIC"), (2, u "OTHER_VERSION"), (2, u "UNDEFINED_TYPE"), (2, u "WRONG_LENGTH"), (2, u "UNSIGNED"), (2, u "NOT_A_PEER"), (2, u "BAD_BODY"), (2, u "$VALUES"), (0, u "[Lcom/example/marduk/marduk/io/DropReason;"), (6, .class_ 43), (1, u "java/lang/Enum"), (6, .methodref 1 51), (0, .nameAndType 52 53), (0, u "ordinal"), (0, u "()I"), (5, .string 60), (0, u "shorter than the envelope"), (2, .string 64), (0, u "longer than 1200 bytes"), (0, .string 66), (0, u "without the MRDK magic"), (0, .string 68), (0, u "of another version"), (0, .string 70), (0, u "of a type that their version does not define"), (0, .string 72), (0, u "with a body length field that differs from the body"), (0, .string 74), (0, u "not signed with the group's secret"), (0, .string 76), (0, u "from a sender that is not a peer"), (0, .string 78), (0, u "with a body that does not decode"), (21, u "description"), (0, u "()Ljava/lang/String;")] 7

def k6c0 : Code := { maxStack := 4, maxLocals := 1, code := prog_7_method_4_code, exceptionTable := #[], attributes := #[] }
def k6m0 : Method := { name := "description", desc := "()Ljava/lang/String;", sig := { parameters := [], returnType := some (.object "java/lang/String") }, accessFlags := 1, code := some k6c0 }
/-- com/example/marduk/marduk/io/DropReason -/
def k6 : Class := { plain "com/example/marduk/marduk/io/DropReason" (some 5) with
  accessFlags := 16433
  interfaces := #[]
  cf := some (fileOf pool6 1 #[] #[{ accessFlags := 1, nameIndex := 100, descriptorIndex := 101, attributes := #[] }] 16433 41 #[] #[{ accessFlags := 16409, nameIndex := 5, descriptorIndex := 6, attributes := #[] }, { accessFlags := 16409, nameIndex := 9, descriptorIndex := 6, attributes := #[] }, { accessFlags := 16409, nameIndex := 12, descriptorIndex := 6, attributes := #[] }, { accessFlags := 16409, nameIndex := 15, descriptorIndex := 6, attributes := #[] }, { accessFlags := 16409, nameIndex := 18, descriptorIndex := 6, attributes := #[] }, { accessFlags := 16409, nameIndex := 21, descriptorIndex := 6, attributes := #[] }, { accessFlags := 16409, nameIndex := 24, descriptorIndex := 6, attributes := #[] }, { accessFlags := 16409, nameIndex := 27, descriptorIndex := 6, attributes := #[] }, { accessFlags := 16409, nameIndex := 30, descriptorIndex := 6, attributes := #[] }, { accessFlags := 4122, nameIndex := 33, descriptorIndex := 34, attributes := #[] }])
  fields := #[{ name := "TOO_SHORT", type := (.object "com/example/marduk/marduk/io/DropReason"), accessFlags := 16409, slot := 0, constantValue := 0 }, { name := "TOO_LONG", type := (.object "com/example/marduk/marduk/io/DropReason"), accessFlags := 16409, slot := 1, constantValue := 0 }, { name := "NO_MAGIC", type := (.object "com/example/marduk/marduk/io/DropReason"), accessFlags := 16409, slot := 2, constantValue := 0 }, { name := "OTHER_VERSION", type := (.object "com/example/marduk/marduk/io/DropReason"), accessFlags := 16409, slot := 3, constantValue := 0 }, { name := "UNDEFINED_TYPE", type := (.object "com/example/marduk/marduk/io/DropReason"), accessFlags := 16409, slot := 4, constantValue := 0 }, { name := "WRONG_LENGTH", type := (.object "com/example/marduk/marduk/io/DropReason"), accessFlags := 16409, slot := 5, constantValue := 0 }, { name := "UNSIGNED", type := (.object "com/example/marduk/marduk/io/DropReason"), accessFlags := 16409, slot := 6, constantValue := 0 }, { name := "NOT_A_PEER", type := (.object "com/example/marduk/marduk/io/DropReason"), accessFlags := 16409, slot := 7, constantValue := 0 }, { name := "BAD_BODY", type := (.object "com/example/marduk/marduk/io/DropReason"), accessFlags := 16409, slot := 8, constantValue := 0 }, { name := "$VALUES", type := (.array (.object "com/example/marduk/marduk/io/DropReason")), accessFlags := 4122, slot := 9, constantValue := 0 }]
  methods := #[k6m0]
  instanceTypes := #[(.object "java/lang/String"), .int, .int]
  staticTypes := #[(.object "com/example/marduk/marduk/io/DropReason"), (.object "com/example/marduk/marduk/io/DropReason"), (.object "com/example/marduk/marduk/io/DropReason"), (.object "com/example/marduk/marduk/io/DropReason"), (.object "com/example/marduk/marduk/io/DropReason"), (.object "com/example/marduk/marduk/io/DropReason"), (.object "com/example/marduk/marduk/io/DropReason"), (.object "com/example/marduk/marduk/io/DropReason"), (.object "com/example/marduk/marduk/io/DropReason"), (.array (.object "com/example/marduk/marduk/io/DropReason"))]
  resolved := Array.replicate 109 none
  statics := some 0 }

def pool7 : Array CpInfo := pool [(2, .class_ 4), (1, u "java/lang/CharSequence"), (42, .class_ 48), (0, u "java/lang/CharSequence$1CodePointIterator"), (10, .class_ 60), (0, u "java/lang/CharSequence$1CharIterator"), (5, .class_ 67), (0, u "java/lang/Object")] 63

/-- java/lang/CharSequence -/
def k7 : Class := { plain "java/lang/CharSequence" (some 0) with
  accessFlags := 1537
  interfaces := #[]
  cf := some (fileOf pool7 2 #[.nestMembers #[47, 59]] #[] 1537 66 #[] #[])
  fields := #[]
  methods := #[]
  instanceTypes := #[]
  staticTypes := #[]
  resolved := Array.replicate 131 none
  statics := none }

def pool8 : Array CpInfo := pool [(1, .class_ 2), (0, u "java/lang/constant/ConstantDesc"), (0, .class_ 4), (0, u "java/lang/Object")] 32

/-- java/lang/constant/ConstantDesc -/
def k8 : Class := { plain "java/lang/constant/ConstantDesc" (some 0) with
  accessFlags := 1537
  interfaces := #[]
  cf := some (fileOf pool8 1 #[] #[] 1537 3 #[] #[])
  fields := #[]
  methods := #[]
  instanceTypes := #[]
  staticTypes := #[]
  resolved := Array.replicate 37 none
  statics := none }

def pool9 : Array CpInfo := pool [(2, .class_ 4), (1, u "java/lang/Object"), (0, u "<init>"), (0, u "()V"), (2, .fieldref 10 11), (0, .class_ 12), (0, .nameAndType 13 14), (0, u "java/lang/String"), (0, u "value"), (0, u "[B"), (0, .fieldref 10 16), (0, .nameAndType 17 18), (0, u "coder"), (0, u "B"), (2, u "hash"), (0, u "I"), (2, u "hashIsZero"), (0, u "Z"), (11, .fieldref 10 39), (0, .nameAndType 40 26), (0, u "COMPACT_STRINGS"), (66, .class_ 109), (1, u "java/lang/StringLatin1"), (32, u "()Z"), (191, u "()I"), (0, .methodref 10 336), (0, .nameAndType 17 337), (0, u "()B"), (25, u "([BI)C"), (27, u "(II)V"), (35, u "(I)C"), (64, .methodref 10 493), (0, .nameAndType 494 142), (0, u "isLatin1"), (0, .methodref 107 496), (0, .nameAndType 497 363), (0, u "charAt"), (3, u "checkIndex"), (5, u "length"), (33, .methodref 107 542), (0, .nameAndType 543 544), (0, u "equals"), (0, u "([B[B)Z"), (28, u "(Ljava/lang/Object;)Z"), (1, .class_ 576), (0, u "java/lang/CharSequence"), (22, u "CASE_INSENSITIVE_ORDER"), (0, u "Ljava/util/Comparator;"), (91, u "isEmpty"), (360, .fieldref 1054 1055), (0, .class_ 1056), (0, .nameAndType 1057 1058), (0, u "jdk/internal/util/Preconditions"), (0, u "SIOOBE_FORMATTER"), (0, u "Ljava/util/function/BiFunction;"), (0, .methodref 1054 1060), (0, .nameAndType 501 1061), (0, u "(IILjava/util/function/BiFunction;)I"), (39, u "serialPersistentFields"), (0, u "[Ljava/io/ObjectStreamField;"), (0, .class_ 1104), (0, u "java/lang/String$CaseInsensitiveComparator"), (1, .class_ 1107), (0, u "java/io/Serializable"), (0, .class_ 1109), (0, u "java/lang/Comparable"), (0, .class_ 1111), (0, u "java/lang/constant/Constable"), (0, .class_ 1113), (0, u "java/lang/constant/ConstantDesc"), (2, u "serialVersionUID"), (0, u "J"), (3, u "REPL"), (0, u "C"), (2, u "LATIN1"), (1, u "UTF16")] 323

def k9m0 : Method := { name := "<init>", desc := "()V", sig := { parameters := [], returnType := none }, accessFlags := 1, code := none }
def k9c1 : Code := { maxStack := 2, maxLocals := 1, code := jdk_42_method_54_code, exceptionTable := #[], attributes := #[] }
def k9m1 : Method := { name := "length", desc := "()I", sig := { parameters := [], returnType := some .int }, accessFlags := 1, code := some k9c1 }
def k9c2 : Code := { maxStack := 1, maxLocals := 1, code := jdk_42_method_55_code, exceptionTable := #[], attributes := #[] }
def k9m2 : Method := { name := "isEmpty", desc := "()Z", sig := { parameters := [], returnType := some .boolean }, accessFlags := 1, code := some k9c2 }
def k9c3 : Code := { maxStack := 2, maxLocals := 2, code := jdk_42_method_56_code, exceptionTable := #[], attributes := #[] }
def k9m3 : Method := { name := "charAt", desc := "(I)C", sig := { parameters := [.int], returnType := some .char }, accessFlags := 1, code := some k9c3 }
def k9c4 : Code := { maxStack := 2, maxLocals := 3, code := jdk_42_method_66_code, exceptionTable := #[], attributes := #[] }
def k9m4 : Method := { name := "equals", desc := "(Ljava/lang/Object;)Z", sig := { parameters := [(.object "java/lang/Object")], returnType := some .boolean }, accessFlags := 1, code := some k9c4 }
def k9c5 : Code := { maxStack := 1, maxLocals := 1, code := jdk_42_method_152_code, exceptionTable := #[], attributes := #[] }
def k9m5 : Method := { name := "coder", desc := "()B", sig := { parameters := [], returnType := some .byte }, accessFlags := 0, code := some k9c5 }
def k9c6 : Code := { maxStack := 1, maxLocals := 1, code := jdk_42_method_154_code, exceptionTable := #[], attributes := #[] }
def k9m6 : Method := { name := "isLatin1", desc := "()Z", sig := { parameters := [], returnType := some .boolean }, accessFlags := 0, code := some k9c6 }
def k9c7 : Code := { maxStack := 3, maxLocals := 2, code := jdk_42_method_155_code, exceptionTable := #[], attributes := #[] }
def k9m7 : Method := { name := "checkIndex", desc := "(II)V", sig := { parameters := [.int, .int], returnType := none }, accessFlags := 8, code := some k9c7 }
/-- java/lang/String -/
def k9 : Class := { plain "java/lang/String" (some 0) with
  accessFlags := 49
  interfaces := #[4, 3, 7, 2, 8]
  cf := some (fileOf pool9 10 #[.nestMembers #[1103]] #[{ accessFlags := 1, nameIndex := 5, descriptorIndex := 6, attributes := #[] }, { accessFlags := 1, nameIndex := 507, descriptorIndex := 334, attributes := #[] }, { accessFlags := 1, nameIndex := 692, descriptorIndex := 142, attributes := #[] }, { accessFlags := 1, nameIndex := 497, descriptorIndex := 427, attributes := #[] }, { accessFlags := 1, nameIndex := 543, descriptorIndex := 573, attributes := #[] }, { accessFlags := 0, nameIndex := 17, descriptorIndex := 337, attributes := #[] }, { accessFlags := 0, nameIndex := 494, descriptorIndex := 142, attributes := #[] }, { accessFlags := 8, nameIndex := 501, descriptorIndex := 391, attributes := #[] }] 49 2 #[1106, 1108, 575, 1110, 1112] #[{ accessFlags := 18, nameIndex := 13, descriptorIndex := 14, attributes := #[] }, { accessFlags := 18, nameIndex := 17, descriptorIndex := 18, attributes := #[] }, { accessFlags := 2, nameIndex := 21, descriptorIndex := 22, attributes := #[] }, { accessFlags := 2, nameIndex := 25, descriptorIndex := 26, attributes := #[] }, { accessFlags := 26, nameIndex := 1116, descriptorIndex := 1117, attributes := #[] }, { accessFlags := 24, nameIndex := 40, descriptorIndex := 26, attributes := #[] }, { accessFlags := 26, nameIndex := 1101, descriptorIndex := 1102, attributes := #[] }, { accessFlags := 26, nameIndex := 1121, descriptorIndex := 1122, attributes := #[] }, { accessFlags := 25, nameIndex := 599, descriptorIndex := 600, attributes := #[] }, { accessFlags := 24, nameIndex := 1125, descriptorIndex := 18, attributes := #[] }, { accessFlags := 24, nameIndex := 1127, descriptorIndex := 18, attributes := #[] }])
  fields := #[{ name := "value", type := (.array .byte), accessFlags := 18, slot := 0, constantValue := 0 }, { name := "coder", type := .byte, accessFlags := 18, slot := 1, constantValue := 0 }, { name := "hash", type := .int, accessFlags := 2, slot := 2, constantValue := 0 }, { name := "hashIsZero", type := .boolean, accessFlags := 2, slot := 3, constantValue := 0 }, { name := "serialVersionUID", type := .long, accessFlags := 26, slot := 0, constantValue := 0 }, { name := "COMPACT_STRINGS", type := .boolean, accessFlags := 24, slot := 1, constantValue := 0 }, { name := "serialPersistentFields", type := (.array (.object "java/io/ObjectStreamField")), accessFlags := 26, slot := 2, constantValue := 0 }, { name := "REPL", type := .char, accessFlags := 26, slot := 3, constantValue := 0 }, { name := "CASE_INSENSITIVE_ORDER", type := (.object "java/util/Comparator"), accessFlags := 25, slot := 4, constantValue := 0 }, { name := "LATIN1", type := .byte, accessFlags := 24, slot := 5, constantValue := 0 }, { name := "UTF16", type := .byte, accessFlags := 24, slot := 6, constantValue := 0 }]
  methods := #[k9m0, k9m1, k9m2, k9m3, k9m4, k9m5, k9m6, k9m7]
  instanceTypes := #[(.array .byte), .byte, .int, .boolean]
  staticTypes := #[.long, .boolean, (.array (.object "java/io/ObjectStreamField")), .char, (.object "java/util/Comparator"), .byte, .byte]
  resolved := Array.replicate 1451 none
  statics := some 1 }

def pool10 : Array CpInfo := pool [(1, .class_ 2), (0, u "java/lang/String"), (1, .class_ 6), (1, u "java/lang/Object"), (0, u "<init>"), (0, u "()V"), (0, .methodref 1 10), (0, .nameAndType 11 12), (0, u "checkIndex"), (0, u "(II)V"), (1, .class_ 16), (1, u "java/lang/StringLatin1"), (36, u "([BI)C"), (67, u "$assertionsDisabled"), (0, u "Z"), (98, .class_ 223), (1, u "java/lang/StringLatin1$LinesSpliterator"), (28, u "charAt"), (28, u "equals"), (0, u "([B[B)Z"), (107, .class_ 391), (0, u "java/lang/StringLatin1$CharsSpliterator")] 3

def k10m0 : Method := { name := "<init>", desc := "()V", sig := { parameters := [], returnType := none }, accessFlags := 0, code := none }
def k10c1 : Code := { maxStack := 2, maxLocals := 2, code := jdk_43_method_2_code, exceptionTable := #[], attributes := #[] }
def k10m1 : Method := { name := "charAt", desc := "([BI)C", sig := { parameters := [(.array .byte), .int], returnType := some .char }, accessFlags := 9, code := some k10c1 }
def k10c2 : Code := { maxStack := 3, maxLocals := 3, code := jdk_43_method_13_code, exceptionTable := #[], attributes := #[] }
def k10m2 : Method := { name := "equals", desc := "([B[B)Z", sig := { parameters := [(.array .byte), (.array .byte)], returnType := some .boolean }, accessFlags := 9, code := some k10c2 }
/-- java/lang/StringLatin1 -/
def k10 : Class := { plain "java/lang/StringLatin1" (some 0) with
  accessFlags := 48
  interfaces := #[]
  cf := some (fileOf pool10 14 #[.nestMembers #[390, 221]] #[{ accessFlags := 0, nameIndex := 7, descriptorIndex := 8, attributes := #[] }, { accessFlags := 9, nameIndex := 252, descriptorIndex := 53, attributes := #[] }, { accessFlags := 9, nameIndex := 281, descriptorIndex := 282, attributes := #[] }] 48 4 #[] #[{ accessFlags := 4120, nameIndex := 121, descriptorIndex := 122, attributes := #[] }])
  fields := #[{ name := "$assertionsDisabled", type := .boolean, accessFlags := 4120, slot := 0, constantValue := 0 }]
  methods := #[k10m0, k10m1, k10m2]
  instanceTypes := #[]
  staticTypes := #[.boolean]
  resolved := Array.replicate 395 none
  statics := none }

def pool11 : Array CpInfo := pool [(2, .class_ 4), (1, u "java/lang/Object"), (0, u "<init>"), (0, u "()V"), (17, .class_ 26), (1, u "jdk/internal/util/Preconditions"), (6, u "checkIndex"), (21, .class_ 56), (0, u "jdk/internal/util/Preconditions$4"), (57, .class_ 115), (0, u "jdk/internal/util/Preconditions$1"), (7, u "SIOOBE_FORMATTER"), (0, u "Ljava/util/function/BiFunction;"), (0, .class_ 126), (0, u "jdk/internal/util/Preconditions$2"), (3, u "AIOOBE_FORMATTER"), (0, .class_ 132), (0, u "jdk/internal/util/Preconditions$3"), (3, u "IOOBE_FORMATTER"), (41, u "(IILjava/util/function/BiFunction;)I")] 15

def k11m0 : Method := { name := "<init>", desc := "()V", sig := { parameters := [], returnType := none }, accessFlags := 1, code := none }
def k11c1 : Code := { maxStack := 3, maxLocals := 3, code := jdk_41_method_11_code, exceptionTable := #[], attributes := #[] }
def k11m1 : Method := { name := "checkIndex", desc := "(IILjava/util/function/BiFunction;)I", sig := { parameters := [.int, .int, (.object "java/util/function/BiFunction")], returnType := some .int }, accessFlags := 9, code := some k11c1 }
/-- jdk/internal/util/Preconditions -/
def k11 : Class := { plain "jdk/internal/util/Preconditions" (some 0) with
  accessFlags := 33
  interfaces := #[]
  cf := some (fileOf pool11 24 #[.nestMembers #[55, 131, 125, 114]] #[{ accessFlags := 1, nameIndex := 5, descriptorIndex := 6, attributes := #[] }, { accessFlags := 9, nameIndex := 33, descriptorIndex := 178, attributes := #[] }] 33 2 #[] #[{ accessFlags := 25, nameIndex := 123, descriptorIndex := 124, attributes := #[] }, { accessFlags := 25, nameIndex := 130, descriptorIndex := 124, attributes := #[] }, { accessFlags := 25, nameIndex := 136, descriptorIndex := 124, attributes := #[] }])
  fields := #[{ name := "SIOOBE_FORMATTER", type := (.object "java/util/function/BiFunction"), accessFlags := 25, slot := 0, constantValue := 0 }, { name := "AIOOBE_FORMATTER", type := (.object "java/util/function/BiFunction"), accessFlags := 25, slot := 1, constantValue := 0 }, { name := "IOOBE_FORMATTER", type := (.object "java/util/function/BiFunction"), accessFlags := 25, slot := 2, constantValue := 0 }]
  methods := #[k11m0, k11m1]
  instanceTypes := #[]
  staticTypes := #[(.object "java/util/function/BiFunction"), (.object "java/util/function/BiFunction"), (.object "java/util/function/BiFunction")]
  resolved := Array.replicate 194 none
  statics := some 2 }

def pool12 : Array CpInfo := pool [(9, u "<init>"), (6, .class_ 18), (1, u "java/lang/Object"), (0, u "()V"), (1, .class_ 23), (1, u "jdk/internal/util/ArraysSupport"), (0, u "LOG2_ARRAY_LONG_INDEX_SCALE"), (0, u "I"), (2, u "U"), (0, u "Ljdk/internal/misc/Unsafe;"), (8, u "BIG_ENDIAN"), (0, u "Z"), (8, u "LOG2_BYTE_BIT_SIZE"), (4, u "LOG2_ARRAY_INT_INDEX_SCALE"), (54, u "JLA"), (0, u "Ljdk/internal/access/JavaLangAccess;"), (11, u "LOG2_ARRAY_BOOLEAN_INDEX_SCALE"), (9, u "LOG2_ARRAY_BYTE_INDEX_SCALE"), (5, u "LOG2_ARRAY_CHAR_INDEX_SCALE"), (5, u "LOG2_ARRAY_SHORT_INDEX_SCALE"), (18, u "LOG2_ARRAY_FLOAT_INDEX_SCALE"), (24, u "LOG2_ARRAY_DOUBLE_INDEX_SCALE"), (89, u "T_BOOLEAN"), (2, u "T_CHAR"), (1, u "T_FLOAT"), (1, u "T_DOUBLE"), (1, u "T_BYTE"), (1, u "T_SHORT"), (1, u "T_INT"), (1, u "T_LONG"), (1, u "SOFT_MAX_ARRAY_LENGTH")] 83

def k12m0 : Method := { name := "<init>", desc := "()V", sig := { parameters := [], returnType := none }, accessFlags := 2, code := none }
/-- jdk/internal/util/ArraysSupport -/
def k12 : Class := { plain "jdk/internal/util/ArraysSupport" (some 0) with
  accessFlags := 33
  interfaces := #[]
  cf := some (fileOf pool12 21 #[] #[{ accessFlags := 2, nameIndex := 9, descriptorIndex := 19, attributes := #[] }] 33 16 #[] #[{ accessFlags := 24, nameIndex := 28, descriptorIndex := 29, attributes := #[] }, { accessFlags := 26, nameIndex := 38, descriptorIndex := 39, attributes := #[] }, { accessFlags := 25, nameIndex := 121, descriptorIndex := 25, attributes := #[] }, { accessFlags := 25, nameIndex := 131, descriptorIndex := 25, attributes := #[] }, { accessFlags := 25, nameIndex := 137, descriptorIndex := 25, attributes := #[] }, { accessFlags := 25, nameIndex := 143, descriptorIndex := 25, attributes := #[] }, { accessFlags := 25, nameIndex := 53, descriptorIndex := 25, attributes := #[] }, { accessFlags := 25, nameIndex := 24, descriptorIndex := 25, attributes := #[] }, { accessFlags := 25, nameIndex := 162, descriptorIndex := 25, attributes := #[] }, { accessFlags := 25, nameIndex := 187, descriptorIndex := 25, attributes := #[] }, { accessFlags := 26, nameIndex := 48, descriptorIndex := 25, attributes := #[] }, { accessFlags := 25, nameIndex := 277, descriptorIndex := 25, attributes := #[] }, { accessFlags := 25, nameIndex := 280, descriptorIndex := 25, attributes := #[] }, { accessFlags := 25, nameIndex := 282, descriptorIndex := 25, attributes := #[] }, { accessFlags := 25, nameIndex := 284, descriptorIndex := 25, attributes := #[] }, { accessFlags := 25, nameIndex := 286, descriptorIndex := 25, attributes := #[] }, { accessFlags := 25, nameIndex := 288, descriptorIndex := 25, attributes := #[] }, { accessFlags := 25, nameIndex := 290, descriptorIndex := 25, attributes := #[] }, { accessFlags := 25, nameIndex := 292, descriptorIndex := 25, attributes := #[] }, { accessFlags := 26, nameIndex := 108, descriptorIndex := 109, attributes := #[] }, { accessFlags := 25, nameIndex := 294, descriptorIndex := 25, attributes := #[] }])
  fields := #[{ name := "U", type := (.object "jdk/internal/misc/Unsafe"), accessFlags := 24, slot := 0, constantValue := 0 }, { name := "BIG_ENDIAN", type := .boolean, accessFlags := 26, slot := 1, constantValue := 0 }, { name := "LOG2_ARRAY_BOOLEAN_INDEX_SCALE", type := .int, accessFlags := 25, slot := 2, constantValue := 0 }, { name := "LOG2_ARRAY_BYTE_INDEX_SCALE", type := .int, accessFlags := 25, slot := 3, constantValue := 0 }, { name := "LOG2_ARRAY_CHAR_INDEX_SCALE", type := .int, accessFlags := 25, slot := 4, constantValue := 0 }, { name := "LOG2_ARRAY_SHORT_INDEX_SCALE", type := .int, accessFlags := 25, slot := 5, constantValue := 0 }, { name := "LOG2_ARRAY_INT_INDEX_SCALE", type := .int, accessFlags := 25, slot := 6, constantValue := 0 }, { name := "LOG2_ARRAY_LONG_INDEX_SCALE", type := .int, accessFlags := 25, slot := 7, constantValue := 0 }, { name := "LOG2_ARRAY_FLOAT_INDEX_SCALE", type := .int, accessFlags := 25, slot := 8, constantValue := 0 }, { name := "LOG2_ARRAY_DOUBLE_INDEX_SCALE", type := .int, accessFlags := 25, slot := 9, constantValue := 0 }, { name := "LOG2_BYTE_BIT_SIZE", type := .int, accessFlags := 26, slot := 10, constantValue := 0 }, { name := "T_BOOLEAN", type := .int, accessFlags := 25, slot := 11, constantValue := 0 }, { name := "T_CHAR", type := .int, accessFlags := 25, slot := 12, constantValue := 0 }, { name := "T_FLOAT", type := .int, accessFlags := 25, slot := 13, constantValue := 0 }, { name := "T_DOUBLE", type := .int, accessFlags := 25, slot := 14, constantValue := 0 }, { name := "T_BYTE", type := .int, accessFlags := 25, slot := 15, constantValue := 0 }, { name := "T_SHORT", type := .int, accessFlags := 25, slot := 16, constantValue := 0 }, { name := "T_INT", type := .int, accessFlags := 25, slot := 17, constantValue := 0 }, { name := "T_LONG", type := .int, accessFlags := 25, slot := 18, constantValue := 0 }, { name := "JLA", type := (.object "jdk/internal/access/JavaLangAccess"), accessFlags := 26, slot := 19, constantValue := 0 }, { name := "SOFT_MAX_ARRAY_LENGTH", type := .int, accessFlags := 25, slot := 20, constantValue := 0 }]
  methods := #[k12m0]
  instanceTypes := #[]
  staticTypes := #[(.object "jdk/internal/misc/Unsafe"), .boolean, .int, .int, .int, .int, .int, .int, .int, .int, .int, .int, .int, .int, .int, .int, .int, .int, .int, (.object "jdk/internal/access/JavaLangAccess"), .int]
  resolved := Array.replicate 378 none
  statics := none }

def pool13 : Array CpInfo := pool [(1, u "java/lang/Cloneable"), (0, .class_ 1), (0, u "java/lang/Object"), (0, .class_ 3)] 3

/-- java/lang/Cloneable -/
def k13 : Class := { plain "java/lang/Cloneable" (some 0) with
  accessFlags := 1537
  interfaces := #[]
  cf := some (fileOf pool13 2 #[] #[] 1537 4 #[] #[])
  fields := #[]
  methods := #[]
  instanceTypes := #[]
  staticTypes := #[]
  resolved := Array.replicate 8 none
  statics := none }

/-- the primitive byte -/
def k14 : Class := { plain "byte" none with kind := .primitive 'B', accessFlags := 0x411 }
/-- [B -/
def k15 : Class := { plain "[B" (some 0) with kind := .array 14 .byte, interfaces := #[13, 4], accessFlags := 1041 }

/-- the primitive int -/
def k16 : Class := { plain "int" none with kind := .primitive 'I', accessFlags := 0x411 }
/-- [I -/
def k17 : Class := { plain "[I" (some 0) with kind := .array 16 .int, interfaces := #[13, 4], accessFlags := 1041 }

def heap : Heap := #[{ cls := 6, slots := #[.ref 3, .ref 4, .ref 5, .ref 6, .ref 7, .ref 8, .ref 9, .ref 10, .ref 11, .null], vm := .statics 6 },
  { cls := 9, slots := #[.long 0, .int 1, .null, .int 0, .null, .int 0, .int 0], vm := .statics 9 },
  { cls := 11, slots := #[.null, .null, .null], vm := .statics 11 },
  { cls := 6, slots := #[.null, .int 0, .int 0], vm := .none },
  { cls := 6, slots := #[.null, .int 1, .int 0], vm := .none },
  { cls := 6, slots := #[.null, .int 2, .int 0], vm := .none },
  { cls := 6, slots := #[.null, .int 3, .int 0], vm := .none },
  { cls := 6, slots := #[.null, .int 4, .int 0], vm := .none },
  { cls := 6, slots := #[.null, .int 5, .int 0], vm := .none },
  { cls := 6, slots := #[.null, .int 6, .int 0], vm := .none },
  { cls := 6, slots := #[.null, .int 7, .int 0], vm := .none },
  { cls := 6, slots := #[.null, .int 8, .int 0], vm := .none }]
def classes : Array Class := #[k0, k1, k2, k3, k4, k5, k6, k7, k8, k9, k10, k11, k12, k13, k14, k15, k16, k17]
def interned : List (Array UInt16 × Addr) := []
def slotsUsed : Nat := 47
def theMethod : MethodId := ⟨1, 3⟩
def args0 : Array Value := #[.int 1, .int 2]
def aboutOver (below : List Frame) : State where
  vm := { classes := classes, interned := interned.toArray }
  heap := heap
  slotsUsed := slotsUsed
  threads := #[{ frames := .invoking theMethod args0 :: below }]
def below0 : List Frame := [.native { method := ⟨0, 0⟩, args := #[] }]
def about1 : State := aboutOver below0
def p0 : Program := .bare "" "" ""
def e0 : Env := launch0.env 0 0 0
theorem w_frames : about1.frames = Frame.invoking theMethod args0 :: below0 := rfl
set_option maxRecDepth 65536 in
theorem w_args : argsFit about1.vm theMethod args0 = true := by decide +kernel
set_option maxRecDepth 65536 in
theorem w_heap : heapFits about1 = true := by decide +kernel
set_option maxRecDepth 65536 in
theorem w_runnable : about1.curStatus? = some .runnable := by decide +kernel
set_option maxRecDepth 65536 in
theorem w_alone : about1.alone = true := by decide +kernel
set_option maxRecDepth 65536 in
theorem w_named : about1.methodNamed? x = some theMethod := by decide +kernel
set_option maxRecDepth 65536 in
theorem w_hears : about1.hears theMethod below0 = true := by decide +kernel
set_option maxRecDepth 65536 in
theorem w_ripe : about1.ripe theMethod args0 below0 = true := by decide +kernel
theorem w_running : about1.status = .running := rfl
set_option maxRecDepth 65536 in
theorem w_room : about1.hasRoom e0.platform room_1 = true :=
  launch0.hasRoom_least _ room_1 (by decide +kernel) (by decide +kernel) (by decide +kernel) (by decide +kernel) (by decide +kernel) (by decide +kernel)
theorem allAtoms_all (ts : List Jvm.Cond) (a : Array Jvm.Value) (st : Jvm.State) : (allAtoms ts).before a st = ts.all (fun c => c.before a st) := by
  induction ts with
  | nil => rfl
  | cons c t ih =>
    show (Jvm.Cond.and c (allAtoms t)).before a st = _
    rw [Jvm.Cond.before_and, ih, List.all_cons]
def words1 : List Jvm.Cond := Jvm.Cond.code x code maxLocals ret :: tables_1
/-- a 'code' word, met by the world's own term for the bytes: nothing is compared byte by byte -/
theorem code_word {y : MethodName} {bytes : ByteArray} {mx : Nat} {rt : Option FieldType} {a : Array Value} {s : State} {m : MethodId} {meth : Method} {c : Code} (h1 : s.methodNamed? y = some m) (h2 : s.vm.method? m = some meth) (h3 : meth.code = some c) (h4 : c.code = bytes)
    (h5 : (c.maxLocals == mx && c.exceptionTable.isEmpty && decide (c.maxStack ≤ mostOperands) && decide (meth.sig.returnType = rt) && !meth.locks && decide (parseMethodDescriptor y.desc = some meth.sig)) = true) : (Jvm.Cond.code y bytes mx rt).before a s = true := by
  simp only [Bool.and_eq_true, beq_iff_eq, Bool.not_eq_true', decide_eq_true_eq] at h5
  obtain ⟨⟨⟨⟨⟨g1, g2⟩, g3⟩, g4⟩, g5⟩, g6⟩ := h5
  simp [Cond.before, Cond.holds, Cond.value, h1, h2, h3, h4, g1, g2, g3, g4, g5, g6]
def isCode : Jvm.Cond → Bool
  | .code _ _ _ _ => true
  | _ => false
theorem all_split {L : List Jvm.Cond} {P : Jvm.Cond → Bool} (h1 : L.all (fun c => isCode c || P c) = true) (h2 : ∀ c ∈ L.filter isCode, P c = true) : L.all P = true := by
  refine List.all_eq_true.mpr fun c hc => ?_
  have h := List.all_eq_true.mp h1 c hc
  rcases Bool.eq_false_or_eq_true (isCode c) with hi | hi
  · exact h2 c (List.mem_filter.mpr ⟨hc, hi⟩)
  · simpa [hi] using h
set_option maxRecDepth 65536 in
theorem w_c0 : (Jvm.Cond.code x code maxLocals ret).before args0 about1 = true := code_word (m := ⟨1, 3⟩) (meth := k1m3) (c := k1c3) (by decide +kernel) rfl rfl rfl (by decide +kernel)
set_option maxRecDepth 65536 in
theorem w_c1 : (Jvm.Cond.code ({ cls := "com/example/marduk/marduk/io/DropReasonDescriptionPinLaw", name := "reason", desc := "(I)Lcom/example/marduk/marduk/io/DropReason;" } : Jvm.MethodName) method_2_code (1 : Nat) (Option.some (Jvm.ClassFile.FieldType.object "com/example/marduk/marduk/io/DropReason"))).before args0 about1 = true := code_word (m := ⟨1, 1⟩) (meth := k1m1) (c := k1c1) (by decide +kernel) rfl rfl rfl (by decide +kernel)
set_option maxRecDepth 65536 in
theorem w_c2 : (Jvm.Cond.code ({ cls := "com/example/marduk/marduk/io/DropReason", name := "description", desc := "()Ljava/lang/String;" } : Jvm.MethodName) prog_7_method_4_code (1 : Nat) (Option.some (Jvm.ClassFile.FieldType.object "java/lang/String"))).before args0 about1 = true := code_word (m := ⟨6, 0⟩) (meth := k6m0) (c := k6c0) (by decide +kernel) rfl rfl rfl (by decide +kernel)
set_option maxRecDepth 65536 in
theorem w_c3 : (Jvm.Cond.code ({ cls := "java/lang/Enum", name := "ordinal", desc := "()I" } : Jvm.MethodName) jdk_37_method_2_code (1 : Nat) (Option.some Jvm.ClassFile.FieldType.int)).before args0 about1 = true := code_word (m := ⟨5, 0⟩) (meth := k5m0) (c := k5c0) (by decide +kernel) rfl rfl rfl (by decide +kernel)
set_option maxRecDepth 65536 in
theorem w_c4 : (Jvm.Cond.code ({ cls := "com/example/marduk/marduk/io/DropReasonDescriptionPinLaw", name := "wellFormed", desc := "(Ljava/lang/String;)Z" } : Jvm.MethodName) method_3_code (3 : Nat) (Option.some Jvm.ClassFile.FieldType.boolean)).before args0 about1 = true := code_word (m := ⟨1, 2⟩) (meth := k1m2) (c := k1c2) (by decide +kernel) rfl rfl rfl (by decide +kernel)
set_option maxRecDepth 65536 in
theorem w_c5 : (Jvm.Cond.code ({ cls := "java/lang/String", name := "isEmpty", desc := "()Z" } : Jvm.MethodName) jdk_42_method_55_code (1 : Nat) (Option.some Jvm.ClassFile.FieldType.boolean)).before args0 about1 = true := code_word (m := ⟨9, 2⟩) (meth := k9m2) (c := k9c2) (by decide +kernel) rfl rfl rfl (by decide +kernel)
set_option maxRecDepth 65536 in
theorem w_c6 : (Jvm.Cond.code ({ cls := "java/lang/String", name := "charAt", desc := "(I)C" } : Jvm.MethodName) jdk_42_method_56_code (2 : Nat) (Option.some Jvm.ClassFile.FieldType.char)).before args0 about1 = true := code_word (m := ⟨9, 3⟩) (meth := k9m3) (c := k9c3) (by decide +kernel) rfl rfl rfl (by decide +kernel)
set_option maxRecDepth 65536 in
theorem w_c7 : (Jvm.Cond.code ({ cls := "java/lang/String", name := "isLatin1", desc := "()Z" } : Jvm.MethodName) jdk_42_method_154_code (1 : Nat) (Option.some Jvm.ClassFile.FieldType.boolean)).before args0 about1 = true := code_word (m := ⟨9, 6⟩) (meth := k9m6) (c := k9c6) (by decide +kernel) rfl rfl rfl (by decide +kernel)
set_option maxRecDepth 65536 in
theorem w_c8 : (Jvm.Cond.code ({ cls := "java/lang/StringLatin1", name := "charAt", desc := "([BI)C" } : Jvm.MethodName) jdk_43_method_2_code (2 : Nat) (Option.some Jvm.ClassFile.FieldType.char)).before args0 about1 = true := code_word (m := ⟨10, 1⟩) (meth := k10m1) (c := k10c1) (by decide +kernel) rfl rfl rfl (by decide +kernel)
set_option maxRecDepth 65536 in
theorem w_c9 : (Jvm.Cond.code ({ cls := "java/lang/String", name := "checkIndex", desc := "(II)V" } : Jvm.MethodName) jdk_42_method_155_code (2 : Nat) (Option.none : Option Jvm.ClassFile.FieldType)).before args0 about1 = true := code_word (m := ⟨9, 7⟩) (meth := k9m7) (c := k9c7) (by decide +kernel) rfl rfl rfl (by decide +kernel)
set_option maxRecDepth 65536 in
theorem w_c10 : (Jvm.Cond.code ({ cls := "jdk/internal/util/Preconditions", name := "checkIndex", desc := "(IILjava/util/function/BiFunction;)I" } : Jvm.MethodName) jdk_41_method_11_code (3 : Nat) (Option.some Jvm.ClassFile.FieldType.int)).before args0 about1 = true := code_word (m := ⟨11, 1⟩) (meth := k11m1) (c := k11c1) (by decide +kernel) rfl rfl rfl (by decide +kernel)
set_option maxRecDepth 65536 in
theorem w_c11 : (Jvm.Cond.code ({ cls := "java/lang/String", name := "length", desc := "()I" } : Jvm.MethodName) jdk_42_method_54_code (1 : Nat) (Option.some Jvm.ClassFile.FieldType.int)).before args0 about1 = true := code_word (m := ⟨9, 1⟩) (meth := k9m1) (c := k9c1) (by decide +kernel) rfl rfl rfl (by decide +kernel)
set_option maxRecDepth 65536 in
theorem w_c12 : (Jvm.Cond.code ({ cls := "java/lang/String", name := "coder", desc := "()B" } : Jvm.MethodName) jdk_42_method_152_code (1 : Nat) (Option.some Jvm.ClassFile.FieldType.byte)).before args0 about1 = true := code_word (m := ⟨9, 5⟩) (meth := k9m5) (c := k9c5) (by decide +kernel) rfl rfl rfl (by decide +kernel)
set_option maxRecDepth 65536 in
theorem w_c13 : (Jvm.Cond.code ({ cls := "java/lang/String", name := "equals", desc := "(Ljava/lang/Object;)Z" } : Jvm.MethodName) jdk_42_method_66_code (3 : Nat) (Option.some Jvm.ClassFile.FieldType.boolean)).before args0 about1 = true := code_word (m := ⟨9, 4⟩) (meth := k9m4) (c := k9c4) (by decide +kernel) rfl rfl rfl (by decide +kernel)
set_option maxRecDepth 65536 in
theorem w_c14 : (Jvm.Cond.code ({ cls := "java/lang/StringLatin1", name := "equals", desc := "([B[B)Z" } : Jvm.MethodName) jdk_43_method_13_code (3 : Nat) (Option.some Jvm.ClassFile.FieldType.boolean)).before args0 about1 = true := code_word (m := ⟨10, 2⟩) (meth := k10m2) (c := k10c2) (by decide +kernel) rfl rfl rfl (by decide +kernel)
def codes1 : List Jvm.Cond := [Jvm.Cond.code x code maxLocals ret, Jvm.Cond.code ({ cls := "com/example/marduk/marduk/io/DropReasonDescriptionPinLaw", name := "reason", desc := "(I)Lcom/example/marduk/marduk/io/DropReason;" } : Jvm.MethodName) method_2_code (1 : Nat) (Option.some (Jvm.ClassFile.FieldType.object "com/example/marduk/marduk/io/DropReason")), Jvm.Cond.code ({ cls := "com/example/marduk/marduk/io/DropReason", name := "description", desc := "()Ljava/lang/String;" } : Jvm.MethodName) prog_7_method_4_code (1 : Nat) (Option.some (Jvm.ClassFile.FieldType.object "java/lang/String")), Jvm.Cond.code ({ cls := "java/lang/Enum", name := "ordinal", desc := "()I" } : Jvm.MethodName) jdk_37_method_2_code (1 : Nat) (Option.some Jvm.ClassFile.FieldType.int), Jvm.Cond.code ({ cls := "com/example/marduk/marduk/io/DropReasonDescriptionPinLaw", name := "wellFormed", desc := "(Ljava/lang/String;)Z" } : Jvm.MethodName) method_3_code (3 : Nat) (Option.some Jvm.ClassFile.FieldType.boolean), Jvm.Cond.code ({ cls := "java/lang/String", name := "isEmpty", desc := "()Z" } : Jvm.MethodName) jdk_42_method_55_code (1 : Nat) (Option.some Jvm.ClassFile.FieldType.boolean), Jvm.Cond.code ({ cls := "java/lang/String", name := "charAt", desc := "(I)C" } : Jvm.MethodName) jdk_42_method_56_code (2 : Nat) (Option.some Jvm.ClassFile.FieldType.char), Jvm.Cond.code ({ cls := "java/lang/String", name := "isLatin1", desc := "()Z" } : Jvm.MethodName) jdk_42_method_154_code (1 : Nat) (Option.some Jvm.ClassFile.FieldType.boolean), Jvm.Cond.code ({ cls := "java/lang/StringLatin1", name := "charAt", desc := "([BI)C" } : Jvm.MethodName) jdk_43_method_2_code (2 : Nat) (Option.some Jvm.ClassFile.FieldType.char), Jvm.Cond.code ({ cls := "java/lang/String", name := "checkIndex", desc := "(II)V" } : Jvm.MethodName) jdk_42_method_155_code (2 : Nat) (Option.none : Option Jvm.ClassFile.FieldType), Jvm.Cond.code ({ cls := "jdk/internal/util/Preconditions", name := "checkIndex", desc := "(IILjava/util/function/BiFunction;)I" } : Jvm.MethodName) jdk_41_method_11_code (3 : Nat) (Option.some Jvm.ClassFile.FieldType.int), Jvm.Cond.code ({ cls := "java/lang/String", name := "length", desc := "()I" } : Jvm.MethodName) jdk_42_method_54_code (1 : Nat) (Option.some Jvm.ClassFile.FieldType.int), Jvm.Cond.code ({ cls := "java/lang/String", name := "coder", desc := "()B" } : Jvm.MethodName) jdk_42_method_152_code (1 : Nat) (Option.some Jvm.ClassFile.FieldType.byte), Jvm.Cond.code ({ cls := "java/lang/String", name := "equals", desc := "(Ljava/lang/Object;)Z" } : Jvm.MethodName) jdk_42_method_66_code (3 : Nat) (Option.some Jvm.ClassFile.FieldType.boolean), Jvm.Cond.code ({ cls := "java/lang/StringLatin1", name := "equals", desc := "([B[B)Z" } : Jvm.MethodName) jdk_43_method_13_code (3 : Nat) (Option.some Jvm.ClassFile.FieldType.boolean)]
set_option maxRecDepth 65536 in
theorem codes_eq : words1.filter isCode = codes1 := rfl
theorem w_codes : ∀ c ∈ words1.filter isCode, c.before args0 about1 = true := by
  rw [codes_eq]
  intro c hc
  simp only [codes1, List.mem_cons, List.not_mem_nil, or_false] at hc
  rcases hc with rfl | rfl | rfl | rfl | rfl | rfl | rfl | rfl | rfl | rfl | rfl | rfl | rfl | rfl | rfl
  · exact w_c0
  · exact w_c1
  · exact w_c2
  · exact w_c3
  · exact w_c4
  · exact w_c5
  · exact w_c6
  · exact w_c7
  · exact w_c8
  · exact w_c9
  · exact w_c10
  · exact w_c11
  · exact w_c12
  · exact w_c13
  · exact w_c14
set_option maxRecDepth 65536 in
theorem w_t1 : (words1.take 24).all (fun c => isCode c || c.before args0 about1) = true := by decide +kernel
set_option maxRecDepth 65536 in
theorem w_t2 : ((words1.drop 24).take 24).all (fun c => isCode c || c.before args0 about1) = true := by decide +kernel
set_option maxRecDepth 65536 in
theorem w_t3 : (((words1.drop 24).drop 24).take 24).all (fun c => isCode c || c.before args0 about1) = true := by decide +kernel
set_option maxRecDepth 65536 in
theorem w_t4 : ((((words1.drop 24).drop 24).drop 24).take 24).all (fun c => isCode c || c.before args0 about1) = true := by decide +kernel
set_option maxRecDepth 65536 in
theorem w_t5 : ((((words1.drop 24).drop 24).drop 24).drop 24).all (fun c => isCode c || c.before args0 about1) = true := by decide +kernel
theorem w_tables : (allAtoms (Jvm.Cond.code x code maxLocals ret :: tables_1)).before args0 about1 = true := by
  rw [allAtoms_all]
  show words1.all (fun c => c.before args0 about1) = true
  refine all_split ?_ w_codes
  rw [← List.take_append_drop 24 words1, List.all_append, w_t1, ← List.take_append_drop 24 (words1.drop 24), List.all_append, w_t2, ← List.take_append_drop 24 ((words1.drop 24).drop 24), List.all_append, w_t3, ← List.take_append_drop 24 (((words1.drop 24).drop 24).drop 24), List.all_append, w_t4, w_t5]
  rfl
set_option maxRecDepth 65536 in
theorem w_rest : rest_1_c.before args0 about1 = true := by decide +kernel
set_option maxRecDepth 65536 in
theorem w_case : (Jvm.Cond.and given_1 narrow_1).before args0 about1 = true := by decide +kernel
set_option maxRecDepth 65536 in
theorem w_consts : constsHeld consts_1 about1 := Jvm.Lit.constsHeldB_iff.mp (by decide +kernel)
theorem w_applies : (headSpec (Jvm.Cond.code x code maxLocals ret :: tables_1) room_1).applies x e0.platform about1 = true :=
  (Spec.applies_iff w_frames).mpr ⟨w_running, w_runnable, w_alone, w_named, w_hears, w_ripe, w_room, w_tables⟩
theorem atStart : AtStart classFile x code maxLocals ret World_1 tables_1 room_1 Calls_1 rest_1 Pre_1 launch0 p0 e0 about1 theMethod args0 below0 :=
  ⟨lists_1, trivial, launch0.admits_env _ _ _, launch0.least_env, fairChoices_fair.cas, fairChoices_fair.clock, w_frames, w_args, w_heap, w_applies, ⟨w_consts, trivial⟩, w_rest, w_case⟩
end start1
theorem witness_1 : WitnessClaimed_1 := ⟨start1.p0, start1.e0, start1.about1, start1.theMethod, start1.args0, start1.below0, start1.atStart⟩
end Jvm.Pilot.@@N@@
