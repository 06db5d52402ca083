import JvmDerived
import JvmDerived.Pilot.@@N@@Statement
import JvmDerived.Pilot.@@N@@Code
set_option linter.unusedVariables false
set_option linter.unusedSimpArgs false
namespace Jvm.Pilot.@@N@@
open Jvm Jvm.ClassFile Sem Op Lib Jvm.Free Jvm.Stand Jvm.LawKit Jvm.RoadKit Bundle Jvm.Pilot.@@N@@.Jvm.D
/-- from here the run comes to a state of which G holds -/
def OWay (p : Program) (e : Env) (below : List Frame) (G : State → Prop) (T : State) (g : JFrame) : Prop := ∃ t, Steps p.tables e below (T.setTop g) t ∧ G t
/-- how a body ends: it returned, with what Q says of its value, the heap and the places written -/
def OEnd (s : State) (below : List Frame) (Q : Option Value → Heap → List Loc → Prop) (cs sl : Nat) (t : State) : Prop := ∃ o, t.status = .running ∧ Ended t below o ∧ ∃ v L, o = .returned v ∧ Q v t.heap L ∧ FrameEnd s o t L cs sl
/-- a body's contract, as a call wants it -/
def OCon (l : Launch) (y : MethodName) (bytes : ByteArray) (maxL : Nat) (rt : Option FieldType) (ws : List Jvm.Cond) (rm : Room) (Z : State) (as' : Array Value) (h : Heap) (Q : Option Value → Heap → List Loc → Prop) : Prop :=
  MetFree l y (head1 (Jvm.Cond.code y bytes maxL rt :: ws) rm) (fun a U => a = as' ∧ Z.Warmed39 U.vm ∧ U.heap = h) (fun _ _ _ _ _ => True) (fun _ U o U' => ∃ v L, o = .returned v ∧ Q v U'.heap L ∧ FrameEnd U o U' L rm.cells rm.slots)
section Own
variable {p : Program} {l : Launch} {e : Env} {R : Room} {s : State} {m : MethodId} {args : Array Value} {below : List Frame} {meth : Method} {c : Code} {T T' : State} {locs : List Loc} {cells slots : Nat} {Z : State} {a0 : Array Value} {h : Heap} {G : State → Prop} {g g' : JFrame} {Q : Option Value → Heap → List Loc → Prop} {cs sl : Nat}
theorem ogo (q : ∀ t, Steps p.tables e below (T'.setTop g') t → Steps p.tables e below (T.setTop g) t) (w : OWay p e below G T' g') : OWay p e below G T g := by
  obtain ⟨t, h1, h2⟩ := w
  exact ⟨t, q t h1, h2⟩
theorem ogoS (q : Steps p.tables e below (T.setTop g) (T'.setTop g')) (w : OWay p e below G T' g') : OWay p e below G T g := ogo (fun _ k => q.trans k) w
theorem ogoE (q : g = g') (w : OWay p e below G T g') : OWay p e below G T g := q ▸ w
theorem ocon {y : MethodName} {bytes : ByteArray} {maxL : Nat} {rt : Option FieldType} {ws : List Jvm.Cond} {rm : Room} {as' : Array Value} (hp : plainFor y = true)
    (body : ∀ (p : Program) (e : Env) (s : State) (m : MethodId) (below : List Frame) (meth : Method) (c : Code) (s₁ : State), p.tables.exec = Jvm.exec → c.code = bytes → c.maxLocals = maxL → s.vm.findClass y.cls = some m.cls → meth.name = y.name → meth.sig.returnType = rt → meth.locks = false → Z.Warmed39 s.vm →
      Stand p l e rm s m as' below meth c s₁ [] 0 0 → s₁.heap = h → OWay p e below (OEnd s below Q rm.cells rm.slots) s₁ (entryFrame m as' maxL)) : OCon l y bytes maxL rt ws rm Z as' h Q := by
  refine MetFree.of_bodySF hp hisR ?_
  intro p e s m args below meth c s₁ Bd hml0 hP hK
  obtain ⟨rfl, hZ, hh⟩ := hP
  obtain ⟨t, h1, o, h2, h3, h4⟩ := body p e s m below meth c s₁ Bd.exec Bd.bytes hml0 (findClass_of_methodNamed Bd.named) (name_of_methodNamed Bd.named Bd.method).1 Bd.returns Bd.notSynchronized hZ (Stand.of_body Bd) (by rw [← hh, Bd.state]; rfl)
  exact ⟨t, o, h1, h2, h3, h4⟩
theorem wRetN (X : Stand p l e R s m args below meth c T locs cells slots) (hx : p.tables.exec = Jvm.exec) {pc : Nat} {Ls : Array Slot} {z : Int32} {t : FieldType} {rest : List Value} (hret : meth.sig.returnType = some t) (hlk : meth.locks = false) (ht : t = .boolean ∨ t = .byte ∨ t = .char ∨ t = .short)
    (hd : decode c.code pc = .ok (.ireturn, 1)) (hc : cells ≤ cs) (hs : slots ≤ sl) (eT : T.heap = h) (hq : Q (some (.int (nar t z))) h locs) : OWay p e below (OEnd s below Q cs sl) T (mkF m pc Ls (.int z :: rest)) := by
  obtain ⟨fs, hr, hrun, hended, hW, hsame⟩ := X.leave (v := some (.int (nar t z))) (fun q => by rw [hret] at q; cases q) hlk
  exact ⟨_, retN X hx hret ht hd hr, _, hrun, hended, _, _, rfl, by subst eT; exact hq, ⟨_, rfl⟩, hW, hsame.mono hc hs⟩
theorem wRet (X : Stand p l e R s m args below meth c T locs cells slots) (hx : p.tables.exec = Jvm.exec) {pc : Nat} {Ls : Array Slot} {w : Value} {t : FieldType} {i : Instr} {rest : List Value} (hret : meth.sig.returnType = some t) (hlk : meth.locks = false) (hn : narrow t w = w)
    (hi : (i = .ireturn ∧ (t = .int ∨ t = .boolean ∨ t = .byte ∨ t = .char ∨ t = .short) ∧ ∃ z, w = .int z) ∨ (i = .lreturn ∧ t = .long ∧ ∃ z, w = .long z) ∨ (i = .dreturn ∧ t = .double ∧ ∃ z, w = .double z) ∨ (i = .freturn ∧ t = .float ∧ ∃ z, w = .float z) ∨ (i = .areturn ∧ t.isReference = true ∧ w.isRef = true))
    (hd : decode c.code pc = .ok (i, 1)) (hc : cells ≤ cs) (hs : slots ≤ sl) (eT : T.heap = h) (hq : Q (some w) h locs) : OWay p e below (OEnd s below Q cs sl) T (mkF m pc Ls (w :: rest)) := by
  obtain ⟨fs, hr, hrun, hended, hW, hsame⟩ := X.leave (v := some w) (fun q => by rw [hret] at q; cases q) hlk
  exact ⟨_, retOut X hx hret hn hi hd hr, _, hrun, hended, _, _, rfl, by subst eT; exact hq, ⟨_, rfl⟩, hW, hsame.mono hc hs⟩
theorem wRetV (X : Stand p l e R s m args below meth c T locs cells slots) (hx : p.tables.exec = Jvm.exec) {pc : Nat} {Ls : Array Slot} (hret : meth.sig.returnType = none) (hlk : meth.locks = false)
    (hd : decode c.code pc = .ok (.return_, 1)) (hc : cells ≤ cs) (hs : slots ≤ sl) (eT : T.heap = h) (hq : Q none h locs) : OWay p e below (OEnd s below Q cs sl) T (mkF m pc Ls []) := by
  obtain ⟨fs, hr, hrun, hended, hW, hsame⟩ := X.leave (v := none) (fun _ => rfl) hlk
  exact ⟨_, X.returnOut hx hret hd hr, _, hrun, hended, _, _, rfl, by subst eT; exact hq, ⟨_, rfl⟩, hW, hsame.mono hc hs⟩
theorem wStatic (X : Stand p l e R s m args below meth c T locs cells slots) (hx : p.tables.exec = Jvm.exec) (hZ : Z.Warmed39 s.vm) {own : String} {index : Nat} {y : MethodName} {bytes : ByteArray} {maxL : Nat} {rt : Option FieldType} {rm : Room} {as' : Array Value} (hown : s.vm.findClass own = some m.cls)
    (w1 : (Jvm.Cond.methodLink own index y).before a0 Z = true) (w2 : (Jvm.Cond.static y).before a0 Z = true) (w3 : (Jvm.Cond.initialized y.cls).before a0 Z = true) (w4 : (Jvm.Cond.code y bytes maxL rt).before a0 Z = true) (hy : y.cls ≠ "java/lang/invoke/MethodHandle" ∧ y.cls ≠ "java/lang/invoke/VarHandle")
    (hM : OCon l y bytes maxL rt [] rm Z as' h Q) (W : Nat) (hf : rm.frames + 1 ≤ R.frames) (hl : W + (maxL + 11) + rm.locals ≤ R.locals) {g : JFrame} (hg : g.method = m) (hsize : g.locals.size = c.maxLocals) {argsL rest : List Value} (hlen : ∀ sig, parseMethodDescriptor y.desc = some sig → argsL.length = sig.parameters.length)
    (hstack : g.stack = argsL.reverse ++ rest) (hW : 2 * g.monitorRoom + (rest.map fun v => v.category).sum ≤ W) (hd : decode c.code g.pc = .ok (.invokestatic index, 3)) (has : argsL.toArray = as') (eT : T.heap = h) (hc : cells + rm.cells ≤ R.cells) (hs : slots + rm.slots ≤ R.slots) :
    ∃ (v : Option Value) (T' : State) (L : List Loc), Stand p l e R s m args below meth c T' (locs ++ L) (cells + rm.cells) (slots + rm.slots) ∧ Q v T'.heap L ∧ ∀ target, Steps p.tables e below (T'.setTop { g with pc := g.pc + 3, stack := v.toList ++ rest }) target → Steps p.tables e below (T.setTop g) target := by
  obtain ⟨v, _, ⟨T1, L1, k1, n1⟩, -, X1, ⟨Lc, hQ, l1, y1, z1⟩, st⟩ := Jvm.LawKit.callS X hx (y := y) hown (mvT hZ w1) (mvT hZ w2) (mvT hZ w3) (mvT hZ w4) hy (backOf (W := W) hM hZ w4 w3 hf hl) (g := g) hg hsize (argsL := argsL) (rest := rest) hlen hstack hW hd (fun _ _ => ⟨has, eT, hc, hs⟩)
  dsimp only [Pt.U, Pt.locs, Pt.cells, Pt.slots] at X1 l1 y1 z1 st hQ
  subst l1 y1 z1
  exact ⟨v, T1, Lc, X1, hQ, st⟩
theorem wInit (X : Stand p l e R s m args below meth c T locs cells slots) (hx : p.tables.exec = Jvm.exec) (hZ : Z.Warmed39 s.vm) {own : String} {index : Nat} {y : MethodName} {bytes : ByteArray} {maxL : Nat} {rm : Room} {as' : Array Value} (hy1 : y.name = "<init>") (hown : s.vm.findClass own = some m.cls)
    (w1 : (Jvm.Cond.methodLink own index y).before a0 Z = true) (w2 : (Jvm.Cond.instanceMethod y).before a0 Z = true) (w3 : (Jvm.Cond.initialized y.cls).before a0 Z = true) (w4 : (Jvm.Cond.code y bytes maxL none).before a0 Z = true) (hy : y.cls ≠ "java/lang/invoke/MethodHandle" ∧ y.cls ≠ "java/lang/invoke/VarHandle")
    (hM : OCon l y bytes maxL none [] rm Z as' h Q) (W : Nat) (hf : rm.frames + 1 ≤ R.frames) (hl : W + (maxL + 11) + rm.locals ≤ R.locals) {g : JFrame} (hg : g.method = m) (hsize : g.locals.size = c.maxLocals) {a : Addr} {argsL rest : List Value} (hlen : ∀ sig, parseMethodDescriptor y.desc = some sig → argsL.length = sig.parameters.length)
    (hstack : g.stack = argsL.reverse ++ .ref a :: rest) (hW : 2 * g.monitorRoom + (rest.map fun v => v.category).sum ≤ W) (hd : decode c.code g.pc = .ok (.invokespecial index, 3)) (has : (.ref a :: argsL).toArray = as') (eT : T.heap = h) (hc : cells + rm.cells ≤ R.cells) (hs : slots + rm.slots ≤ R.slots) :
    ∃ (v : Option Value) (T' : State) (L : List Loc), Stand p l e R s m args below meth c T' (locs ++ L) (cells + rm.cells) (slots + rm.slots) ∧ Q v T'.heap L ∧ Steps p.tables e below (T.setTop g) (T'.setTop { g with pc := g.pc + 3, stack := v.toList ++ rest }) := by
  obtain ⟨v, _, ⟨T1, L1, k1, n1⟩, -, X1, ⟨Lc, hQ, l1, y1, z1⟩, st⟩ := X.specialBack hx (y := y) hy1 hown (mvT hZ w1) (mvT hZ w2) (mvT hZ w4) hy (backOf (W := W) hM hZ w4 w3 hf hl) (g := g) hg hsize (Steps.refl _) (a := a) (argsL := argsL) (rest := rest) hlen hstack hW hd (fun _ _ => ⟨has, eT, hc, hs⟩)
  dsimp only [Pt.U, Pt.locs, Pt.cells, Pt.slots] at X1 l1 y1 z1 st hQ
  subst l1 y1 z1
  exact ⟨v, T1, Lc, X1, hQ, st⟩
theorem wVirtual (X : Stand p l e R s m args below meth c T locs cells slots) (hx : p.tables.exec = Jvm.exec) (hZ : Z.Warmed39 s.vm) {own C : String} {index : Nat} {y z : MethodName} {bytes : ByteArray} {maxL : Nat} {rt : Option FieldType} {rm : Room} {as' : Array Value} (hown : s.vm.findClass own = some m.cls)
    (w1 : (Jvm.Cond.methodLink own index y).before a0 Z = true) (w2 : (Jvm.Cond.declares y).before a0 Z = true) (nf : NotFace s y) (w5 : (Jvm.Cond.selects C y z).before a0 Z = true) (w6 : (Jvm.Cond.instanceMethod z).before a0 Z = true) (w3 : (Jvm.Cond.initialized z.cls).before a0 Z = true) (w4 : (Jvm.Cond.code z bytes maxL rt).before a0 Z = true)
    (hy : y.cls ≠ "java/lang/invoke/MethodHandle" ∧ y.cls ≠ "java/lang/invoke/VarHandle") (hM : OCon l z bytes maxL rt [] rm Z as' h Q) (W : Nat) (hf : rm.frames + 1 ≤ R.frames) (hl : W + (maxL + 11) + rm.locals ≤ R.locals) {b : Addr} (E : Exa Z h b C) {g : JFrame} (hg : g.method = m) (hsize : g.locals.size = c.maxLocals) {argsL rest : List Value} (hlen : ∀ sig, parseMethodDescriptor y.desc = some sig → argsL.length = sig.parameters.length)
    (hstack : g.stack = argsL.reverse ++ .ref b :: rest) (hW : 2 * g.monitorRoom + (rest.map fun v => v.category).sum ≤ W) (hd : decode c.code g.pc = .ok (.invokevirtual index, 3)) (has : (.ref b :: argsL).toArray = as') (eT : T.heap = h) (hc : cells + rm.cells ≤ R.cells) (hs : slots + rm.slots ≤ R.slots) :
    ∃ (v : Option Value) (T' : State) (L : List Loc), Stand p l e R s m args below meth c T' (locs ++ L) (cells + rm.cells) (slots + rm.slots) ∧ Q v T'.heap L ∧ Steps p.tables e below (T.setTop g) (T'.setTop { g with pc := g.pc + 3, stack := v.toList ++ rest }) := by
  obtain ⟨cq, kq, qa, qb, qc⟩ := isOf hZ eT E
  obtain ⟨v, _, ⟨T1, L1, k1, n1⟩, -, X1, ⟨Lc, hQ, l1, y1, z1⟩, st⟩ := X.virtualBack hx (y := y) (z := z) hown (mvT hZ w1) (mvT hZ w2) nf (mvT hZ w5) (mvT hZ w6) hy (backOf (W := W) hM hZ w4 w3 hf hl) qa qc (g := g) hg hsize (Steps.refl _) (argsL := argsL) (rest := rest) hlen hstack hW hd (fun _ _ => ⟨has, eT, hc, hs⟩)
  dsimp only [Pt.U, Pt.locs, Pt.cells, Pt.slots] at X1 l1 y1 z1 st hQ
  subst l1 y1 z1
  exact ⟨v, T1, Lc, X1, hQ, st⟩
end Own
end Jvm.Pilot.@@N@@
namespace Jvm.Pilot.@@N@@
open Jvm Jvm.ClassFile Sem Op Lib Jvm.Free Jvm.Stand Jvm.LawKit Jvm.RoadKit Bundle Jvm.Pilot.@@N@@.Jvm.D
def dev (n : Int64) (mn mx : Int32) : Int64 := if n < mn.toInt64 then mn.toInt64 - n else if mx.toInt64 < n then n - mx.toInt64 else 0
theorem own_mm (a b : Int32) (mn mx : Int32) (h1 : mn = (if b < a then b else a)) (h2 : mx = (if a < b then b else a)) : mn.toInt ≤ mx.toInt := by
  subst h1 h2
  by_cases q : b < a <;> by_cases r : a < b <;> simp only [q, r, if_true, if_false] <;> simp only [Int32.lt_iff_toInt_lt] at q r <;> omega
theorem own_nn (a b : Int32) (mn : Int32) (h1 : mn = (if b < a then b else a)) (ha : 0 ≤ a.toInt) (hb : 0 ≤ b.toInt) : 0 ≤ mn.toInt := by
  subst h1
  by_cases q : b < a <;> simp only [q, if_true, if_false] <;> assumption
theorem own_low (n : Int64) (mn mx : Int32) (h0 : 0 ≤ mn.toInt) (hl : ¬ n < mn.toInt64 - 9223372036854775807) (h : n < mn.toInt64) : 0 < dev n mn mx ∧ n + dev n mn mx = mn.toInt64 := by
  unfold dev
  rw [if_pos h]
  have e : (9223372036854775807 : Int64).toInt = 9223372036854775807 := by decide
  have e0 : (0 : Int64).toInt = 0 := by decide
  have c1 := c_lsub mn.toInt64 9223372036854775807
  have c2 := c_lsub mn.toInt64 n
  have c3 := c_ladd n (mn.toInt64 - n)
  have r1 := rng64 (mn.toInt64 - 9223372036854775807)
  have r2 := rng64 (mn.toInt64 - n)
  have r3 := rng64 (n + (mn.toInt64 - n))
  have r4 := rng64 n
  have r5 := rng32 mn
  have i1 := c_i2l mn
  rw [Int64.lt_iff_toInt_lt] at hl h ⊢
  rw [← Int64.toInt_inj]
  constructor <;> omega
theorem own_high (n : Int64) (mn mx : Int32) (h0 : 0 ≤ mx.toInt) (hl : ¬ n < mn.toInt64) (h : mx.toInt64 < n) : 0 < dev n mn mx ∧ n - dev n mn mx = mx.toInt64 := by
  unfold dev
  rw [if_neg hl, if_pos h]
  have e0 : (0 : Int64).toInt = 0 := by decide
  have c2 := c_lsub n mx.toInt64
  have c3 := c_lsub n (n - mx.toInt64)
  have r2 := rng64 (n - mx.toInt64)
  have r3 := rng64 (n - (n - mx.toInt64))
  have r4 := rng64 n
  have r5 := rng32 mx
  have i1 := c_i2l mx
  rw [Int64.lt_iff_toInt_lt] at h ⊢
  rw [← Int64.toInt_inj]
  constructor <;> omega
theorem own_mid (n : Int64) (mn mx : Int32) (hl : ¬ n < mn.toInt64) (h : ¬ mx.toInt64 < n) : dev n mn mx = 0 := by
  unfold dev
  rw [if_neg hl, if_neg h]
def imin (a b : Int32) : Int32 := if b < a then b else a
theorem d1_0 : decode jdk_29_method_69_code 0 = .ok (.iload_n 0, 1) := by decide +kernel
theorem d1_1 : decode jdk_29_method_69_code 1 = .ok (.iload_n 1, 1) := by decide +kernel
theorem d1_2 : decode jdk_29_method_69_code 2 = .ok (.if_icmp .gt 7, 3) := by decide +kernel
theorem d1_9 : decode jdk_29_method_69_code 9 = .ok (.iload_n 1, 1) := by decide +kernel
theorem d1_10 : decode jdk_29_method_69_code 10 = .ok (.ireturn, 1) := by decide +kernel
theorem d1_5 : decode jdk_29_method_69_code 5 = .ok (.iload_n 0, 1) := by decide +kernel
theorem d1_6 : decode jdk_29_method_69_code 6 = .ok (.goto 4, 3) := by decide +kernel
def imin_b_rm : Room := { frames := 0, cells := 0, slots := 0, locals := 0 }
def imin_b_Q (Z : State) (p0 : Int32) (p1 : Int32) (h0 : Heap) (n0 : Nat) (v : Option Value) (h : Heap) (L : List Loc) : Prop := (v = some (.int (imin p0 p1))) ∧ (Fr n0 L) ∧ (h = h0)
theorem imin_b_ef (m : MethodId) (p0 : Int32) (p1 : Int32) : entryFrame m #[(.int p0), (.int p1)] 2 = mkF m 0 #[.val (.int p0), .val (.int p1)] [] := by first | (simp [entryFrame, mkF, argsToLocals, Value.category]; done) | rfl
set_option maxRecDepth 65536 in
set_option maxHeartbeats 40000000 in
theorem imin_b_c (l : Launch) (Z : State) (az : Array Value) (hw : ∀ d ∈ tables_1, d.before az Z = true) (ws : List Jvm.Cond) (p0 : Int32) (p1 : Int32) (h0 : Heap) (n0 : Nat) (Z0 : n0 ≤ h0.size) :
    OCon l (⟨"java/lang/Math", "min", "(II)I"⟩ : MethodName) jdk_29_method_69_code 2 (some .int) ws imin_b_rm Z #[(.int p0), (.int p1)] h0 (imin_b_Q Z p0 p1 h0 n0) := by
  refine ocon (Jvm.Free.JP.mathPlain rfl (by decide +kernel)) ?_
  intro p e s m below meth c s₁ hx hby hml hown hnm hret hlk hZ X0 eh0
  have N0 := Fr.nil n0
  have K0 := Keep.refl h0 []
  refine ogoE (imin_b_ef m p0 p1) ?_
  generalize hG : (OEnd s below (imin_b_Q Z p0 p1 h0 n0) imin_b_rm.cells imin_b_rm.slots) = G
  show OWay p e below G s₁ (mkF m 0 #[.val (.int p0), .val (.int p1)] [])
  refine ogo (fun _ z_ => XS.iloadN X0.here hx rfl (hb hby d1_0) rfl z_) ?_
  show OWay p e below G s₁ (mkF m 1 #[.val (.int p0), .val (.int p1)] [(.int p0)])
  refine ogo (fun _ z_ => XS.iloadN X0.here hx rfl (hb hby d1_1) rfl z_) ?_
  show OWay p e below G s₁ (mkF m 2 #[.val (.int p0), .val (.int p1)] [(.int p1), (.int p0)])
  by_cases c2 : p1 < p0
  · refine ogo (fun _ z_ => XS.icmpYes X0.here hx rfl (pc0 := 2) (pc' := 9) rfl (hb hby d1_2) rfl (tlt c2).2.2.1 (by decide) (by decide) z_) ?_
    show OWay p e below G s₁ (mkF m 9 #[.val (.int p0), .val (.int p1)] [])
    refine ogo (fun _ z_ => XS.iloadN X0.here hx rfl (hb hby d1_9) rfl z_) ?_
    show OWay p e below G s₁ (mkF m 10 #[.val (.int p0), .val (.int p1)] [(.int p1)])
    subst hG
    refine wRet X0 hx hret hlk rfl (Or.inl ⟨rfl, Or.inl rfl, _, rfl⟩) (hb hby d1_10) (by decide) (by decide) eh0 ?_
    exact ⟨(congrArg some (congrArg Value.int (show _ = imin p0 p1 from by unfold imin; rw [if_pos c2]))), N0, rfl⟩
  · refine ogo (fun _ z_ => XS.icmpNo X0.here hx rfl (hb hby d1_2) rfl (flt c2).2.2.1 z_) ?_
    show OWay p e below G s₁ (mkF m 5 #[.val (.int p0), .val (.int p1)] [])
    refine ogo (fun _ z_ => XS.iloadN X0.here hx rfl (hb hby d1_5) rfl z_) ?_
    show OWay p e below G s₁ (mkF m 6 #[.val (.int p0), .val (.int p1)] [(.int p0)])
    refine ogo (fun _ z_ => XS.goto X0.here hx rfl (pc0 := 6) (pc' := 10) rfl (hb hby d1_6) (by decide) (by decide) z_) ?_
    show OWay p e below G s₁ (mkF m 10 #[.val (.int p0), .val (.int p1)] [(.int p0)])
    subst hG
    refine wRet X0 hx hret hlk rfl (Or.inl ⟨rfl, Or.inl rfl, _, rfl⟩) (hb hby d1_10) (by decide) (by decide) eh0 ?_
    exact ⟨(congrArg some (congrArg Value.int (show _ = imin p0 p1 from by unfold imin; rw [if_neg c2]))), N0, rfl⟩
def imax (a b : Int32) : Int32 := if a < b then b else a
theorem d2_0 : decode jdk_29_method_65_code 0 = .ok (.iload_n 0, 1) := by decide +kernel
theorem d2_1 : decode jdk_29_method_65_code 1 = .ok (.iload_n 1, 1) := by decide +kernel
theorem d2_2 : decode jdk_29_method_65_code 2 = .ok (.if_icmp .lt 7, 3) := by decide +kernel
theorem d2_9 : decode jdk_29_method_65_code 9 = .ok (.iload_n 1, 1) := by decide +kernel
theorem d2_10 : decode jdk_29_method_65_code 10 = .ok (.ireturn, 1) := by decide +kernel
theorem d2_5 : decode jdk_29_method_65_code 5 = .ok (.iload_n 0, 1) := by decide +kernel
theorem d2_6 : decode jdk_29_method_65_code 6 = .ok (.goto 4, 3) := by decide +kernel
def imax_b_rm : Room := { frames := 0, cells := 0, slots := 0, locals := 0 }
def imax_b_Q (Z : State) (p0 : Int32) (p1 : Int32) (h0 : Heap) (n0 : Nat) (v : Option Value) (h : Heap) (L : List Loc) : Prop := (v = some (.int (imax p0 p1))) ∧ (Fr n0 L) ∧ (h = h0)
theorem imax_b_ef (m : MethodId) (p0 : Int32) (p1 : Int32) : entryFrame m #[(.int p0), (.int p1)] 2 = mkF m 0 #[.val (.int p0), .val (.int p1)] [] := by first | (simp [entryFrame, mkF, argsToLocals, Value.category]; done) | rfl
set_option maxRecDepth 65536 in
set_option maxHeartbeats 40000000 in
theorem imax_b_c (l : Launch) (Z : State) (az : Array Value) (hw : ∀ d ∈ tables_1, d.before az Z = true) (ws : List Jvm.Cond) (p0 : Int32) (p1 : Int32) (h0 : Heap) (n0 : Nat) (Z0 : n0 ≤ h0.size) :
    OCon l (⟨"java/lang/Math", "max", "(II)I"⟩ : MethodName) jdk_29_method_65_code 2 (some .int) ws imax_b_rm Z #[(.int p0), (.int p1)] h0 (imax_b_Q Z p0 p1 h0 n0) := by
  refine ocon (Jvm.Free.JP.mathPlain rfl (by decide +kernel)) ?_
  intro p e s m below meth c s₁ hx hby hml hown hnm hret hlk hZ X0 eh0
  have N0 := Fr.nil n0
  have K0 := Keep.refl h0 []
  refine ogoE (imax_b_ef m p0 p1) ?_
  generalize hG : (OEnd s below (imax_b_Q Z p0 p1 h0 n0) imax_b_rm.cells imax_b_rm.slots) = G
  show OWay p e below G s₁ (mkF m 0 #[.val (.int p0), .val (.int p1)] [])
  refine ogo (fun _ z_ => XS.iloadN X0.here hx rfl (hb hby d2_0) rfl z_) ?_
  show OWay p e below G s₁ (mkF m 1 #[.val (.int p0), .val (.int p1)] [(.int p0)])
  refine ogo (fun _ z_ => XS.iloadN X0.here hx rfl (hb hby d2_1) rfl z_) ?_
  show OWay p e below G s₁ (mkF m 2 #[.val (.int p0), .val (.int p1)] [(.int p1), (.int p0)])
  by_cases c2 : p0 < p1
  · refine ogo (fun _ z_ => XS.icmpYes X0.here hx rfl (pc0 := 2) (pc' := 9) rfl (hb hby d2_2) rfl (tlt c2).1 (by decide) (by decide) z_) ?_
    show OWay p e below G s₁ (mkF m 9 #[.val (.int p0), .val (.int p1)] [])
    refine ogo (fun _ z_ => XS.iloadN X0.here hx rfl (hb hby d2_9) rfl z_) ?_
    show OWay p e below G s₁ (mkF m 10 #[.val (.int p0), .val (.int p1)] [(.int p1)])
    subst hG
    refine wRet X0 hx hret hlk rfl (Or.inl ⟨rfl, Or.inl rfl, _, rfl⟩) (hb hby d2_10) (by decide) (by decide) eh0 ?_
    exact ⟨(congrArg some (congrArg Value.int (show _ = imax p0 p1 from by unfold imax; rw [if_pos c2]))), N0, rfl⟩
  · refine ogo (fun _ z_ => XS.icmpNo X0.here hx rfl (hb hby d2_2) rfl (flt c2).1 z_) ?_
    show OWay p e below G s₁ (mkF m 5 #[.val (.int p0), .val (.int p1)] [])
    refine ogo (fun _ z_ => XS.iloadN X0.here hx rfl (hb hby d2_5) rfl z_) ?_
    show OWay p e below G s₁ (mkF m 6 #[.val (.int p0), .val (.int p1)] [(.int p0)])
    refine ogo (fun _ z_ => XS.goto X0.here hx rfl (pc0 := 6) (pc' := 10) rfl (hb hby d2_6) (by decide) (by decide) z_) ?_
    show OWay p e below G s₁ (mkF m 10 #[.val (.int p0), .val (.int p1)] [(.int p0)])
    subst hG
    refine wRet X0 hx hret hlk rfl (Or.inl ⟨rfl, Or.inl rfl, _, rfl⟩) (hb hby d2_10) (by decide) (by decide) eh0 ?_
    exact ⟨(congrArg some (congrArg Value.int (show _ = imax p0 p1 from by unfold imax; rw [if_neg c2]))), N0, rfl⟩
theorem pn_java_lang_Record : plainName "java/lang/Record" = true := by first | (simp [plainName, overriddenIn]; done) | decide +kernel
theorem d4_0 : decode jdk_30_method_1_code 0 = .ok (.aload_n 0, 1) := by decide +kernel
theorem d4_1 : decode jdk_30_method_1_code 1 = .ok (.invokespecial 1, 3) := by decide +kernel
theorem d4_4 : decode jdk_30_method_1_code 4 = .ok (.return_, 1) := by decide +kernel
def recinit_rm : Room := { frames := 1, cells := 0, slots := 0, locals := 12 }
def recinit_Q (Z : State) (a0 : Addr) (h0 : Heap) (n0 : Nat) (v : Option Value) (h : Heap) (L : List Loc) : Prop := (v = none) ∧ (Fr n0 L) ∧ (h = h0)
theorem recinit_ef (m : MethodId) (a0 : Addr) : entryFrame m #[(.ref a0)] 1 = mkF m 0 #[.val (.ref a0)] [] := by first | (simp [entryFrame, mkF, argsToLocals, Value.category]; done) | rfl
set_option maxRecDepth 65536 in
set_option maxHeartbeats 40000000 in
theorem recinit_c (l : Launch) (Z : State) (az : Array Value) (hw : ∀ d ∈ tables_1, d.before az Z = true) (ws : List Jvm.Cond) (a0 : Addr) (h0 : Heap) (n0 : Nat) (Z0 : n0 ≤ h0.size) :
    OCon l (⟨"java/lang/Record", "<init>", "()V"⟩ : MethodName) jdk_30_method_1_code 1 none ws recinit_rm Z #[(.ref a0)] h0 (recinit_Q Z a0 h0 n0) := by
  refine ocon (plainFor_of_name pn_java_lang_Record) ?_
  intro p e s m below meth c s₁ hx hby hml hown hnm hret hlk hZ X0 eh0
  have N0 := Fr.nil n0
  have K0 := Keep.refl h0 []
  refine ogoE (recinit_ef m a0) ?_
  generalize hG : (OEnd s below (recinit_Q Z a0 h0 n0) recinit_rm.cells recinit_rm.slots) = G
  show OWay p e below G s₁ (mkF m 0 #[.val (.ref a0)] [])
  refine ogo (fun _ z_ => XS.aloadN X0.here hx rfl (hb hby d4_0) rfl rfl z_) ?_
  show OWay p e below G s₁ (mkF m 1 #[.val (.ref a0)] [(.ref a0)])
  obtain ⟨T1, X1, eT1, st1⟩ := initO X0 hx hZ hown (hw _ (List.mem_of_getElem? (i := 20) rfl)) (hw _ (List.mem_of_getElem? (i := 21) rfl)) (hw _ (List.mem_of_getElem? (i := 22) rfl)) eh0 (g := (mkF m 1 #[.val (.ref a0)] [(.ref a0)])) rfl (by rw [hml]; rfl) rfl (hb hby d4_1) (by decide) (W := 0) (by show 2 * 0 + _ ≤ _; exact Nat.le_of_eq rfl) (by decide)
  refine ogo st1 ?_
  show OWay p e below G T1 (mkF m 4 #[.val (.ref a0)] [])
  subst hG
  refine wRetV X1 hx hret hlk (hb hby d4_4) (by decide) (by decide) eT1 ?_
  exact ⟨rfl, N0, rfl⟩
theorem pn_com_example_slotwright_slotwright_Bounds : plainName "com/example/slotwright/slotwright/Bounds" = true := by first | (simp [plainName, overriddenIn]; done) | decide +kernel
theorem d3_0 : decode prog_13_method_1_code 0 = .ok (.aload_n 0, 1) := by decide +kernel
theorem d3_1 : decode prog_13_method_1_code 1 = .ok (.invokespecial 1, 3) := by decide +kernel
theorem pd___V : parseMethodDescriptor "()V" = some ⟨[], none⟩ := by decide +kernel
theorem d3_4 : decode prog_13_method_1_code 4 = .ok (.aload_n 0, 1) := by decide +kernel
theorem d3_5 : decode prog_13_method_1_code 5 = .ok (.iload_n 1, 1) := by decide +kernel
theorem d3_6 : decode prog_13_method_1_code 6 = .ok (.putfield 7, 3) := by decide +kernel
theorem d3_9 : decode prog_13_method_1_code 9 = .ok (.aload_n 0, 1) := by decide +kernel
theorem d3_10 : decode prog_13_method_1_code 10 = .ok (.iload_n 2, 1) := by decide +kernel
theorem d3_11 : decode prog_13_method_1_code 11 = .ok (.putfield 13, 3) := by decide +kernel
theorem d3_14 : decode prog_13_method_1_code 14 = .ok (.return_, 1) := by decide +kernel
def ctor3_rm : Room := { frames := 2, cells := 0, slots := 0, locals := 24 }
def ctor3_Q (Z : State) (a0 : Addr) (p1 : Int32) (p2 : Int32) (h0 : Heap) (n0 : Nat) (v : Option Value) (h : Heap) (L : List Loc) : Prop := (v = none) ∧ (Fr n0 L) ∧ (Keep h0 h [a0]) ∧ (Fld Z h a0 "com/example/slotwright/slotwright/Bounds" "minimum" "I" (.int p1)) ∧ (Fld Z h a0 "com/example/slotwright/slotwright/Bounds" "maximum" "I" (.int p2))
theorem ctor3_ef (m : MethodId) (a0 : Addr) (p1 : Int32) (p2 : Int32) : entryFrame m #[(.ref a0), (.int p1), (.int p2)] 3 = mkF m 0 #[.val (.ref a0), .val (.int p1), .val (.int p2)] [] := by first | (simp [entryFrame, mkF, argsToLocals, Value.category]; done) | rfl
set_option maxRecDepth 65536 in
set_option maxHeartbeats 40000000 in
theorem ctor3_c (l : Launch) (Z : State) (az : Array Value) (hw : ∀ d ∈ tables_1, d.before az Z = true) (ws : List Jvm.Cond) (a0 : Addr) (p1 : Int32) (p2 : Int32) (h0 : Heap) (n0 : Nat) (Z0 : n0 ≤ h0.size) (hp0 : Exa Z h0 a0 "com/example/slotwright/slotwright/Bounds") (hp1 : n0 ≤ a0) (hp2 : Fld Z h0 a0 "com/example/slotwright/slotwright/Bounds" "minimum" "I" (.int (0 : Int32))) (hp3 : Fld Z h0 a0 "com/example/slotwright/slotwright/Bounds" "maximum" "I" (.int (0 : Int32))) :
    OCon l (⟨"com/example/slotwright/slotwright/Bounds", "<init>", "(II)V"⟩ : MethodName) prog_13_method_1_code 3 none ws ctor3_rm Z #[(.ref a0), (.int p1), (.int p2)] h0 (ctor3_Q Z a0 p1 p2 h0 n0) := by
  refine ocon (plainFor_of_name pn_com_example_slotwright_slotwright_Bounds) ?_
  intro p e s m below meth c s₁ hx hby hml hown hnm hret hlk hZ X0 eh0
  have N0 := Fr.nil n0
  have K0 := Keep.refl h0 [a0]
  refine ogoE (ctor3_ef m a0 p1 p2) ?_
  have g_a0 := hp1
  generalize hG : (OEnd s below (ctor3_Q Z a0 p1 p2 h0 n0) ctor3_rm.cells ctor3_rm.slots) = G
  show OWay p e below G s₁ (mkF m 0 #[.val (.ref a0), .val (.int p1), .val (.int p2)] [])
  refine ogo (fun _ z_ => XS.aloadN X0.here hx rfl (hb hby d3_0) rfl rfl z_) ?_
  show OWay p e below G s₁ (mkF m 1 #[.val (.ref a0), .val (.int p1), .val (.int p2)] [(.ref a0)])
  obtain ⟨_, T1, L1, X1, hQ1, st1⟩ := wInit X0 hx hZ (y := (⟨"java/lang/Record", "<init>", "()V"⟩ : MethodName)) rfl hown (hw _ (List.mem_of_getElem? (i := 15) rfl)) (hw _ (List.mem_of_getElem? (i := 16) rfl)) (hw _ (List.mem_of_getElem? (i := 18) rfl)) (hw _ (List.mem_of_getElem? (i := 19) rfl)) (by decide) (recinit_c l Z az hw [] a0 h0 n0 Z0) 0 (by decide) (by decide) (g := (mkF m 1 #[.val (.ref a0), .val (.int p1), .val (.int p2)] [(.ref a0)])) rfl (by rw [hml]; rfl) (a := a0) (argsL := []) (rest := []) (lenOf pd___V rfl) rfl (by show 2 * 0 + _ ≤ _; exact Nat.le_of_eq rfl) (hb hby d3_1) rfl eh0 (by decide) (by decide)
  obtain ⟨rfl, N1q, eq1⟩ := hQ1
  have N1 := Fr.app N0 N1q
  refine ogoS st1 ?_
  show OWay p e below G T1 (mkF m 4 #[.val (.ref a0), .val (.int p1), .val (.int p2)] [])
  refine ogo (fun _ z_ => XS.aloadN X1.here hx rfl (hb hby d3_4) rfl rfl z_) ?_
  show OWay p e below G T1 (mkF m 5 #[.val (.ref a0), .val (.int p1), .val (.int p2)] [(.ref a0)])
  refine ogo (fun _ z_ => XS.iloadN X1.here hx rfl (hb hby d3_5) rfl z_) ?_
  show OWay p e below G T1 (mkF m 6 #[.val (.ref a0), .val (.int p1), .val (.int p2)] [(.int p1), (.ref a0)])
  obtain ⟨T2, h2, X2, eT2, W2, st2⟩ := putF X1 hx hZ hown (host := "") (Or.inl (hw _ (List.mem_of_getElem? (i := 23) rfl))) Via.refl eq1 hp2 hp0 (Or.inr ⟨(hw _ (List.mem_of_getElem? (i := 24) rfl)), rfl, hnm⟩) (hw _ (List.mem_of_getElem? (i := 10) rfl)) (ty := .int) (by decide) rfl rfl (g := (mkF m 6 #[.val (.ref a0), .val (.int p1), .val (.int p2)] [(.int p1), (.ref a0)])) rfl rfl (hb hby d3_6)
  have K3 : Keep h0 h2 [a0] := K0.wr W2 (Or.inl (List.mem_of_getElem? (i := 0) rfl))
  have Fw2 : Fld Z h2 a0 "com/example/slotwright/slotwright/Bounds" "minimum" "I" (.int p1) := hp2.same W2
  have N2 := Fr.snoc X2 N1 g_a0
  refine ogo st2 ?_
  show OWay p e below G T2 (mkF m 9 #[.val (.ref a0), .val (.int p1), .val (.int p2)] [])
  refine ogo (fun _ z_ => XS.aloadN X2.here hx rfl (hb hby d3_9) rfl rfl z_) ?_
  show OWay p e below G T2 (mkF m 10 #[.val (.ref a0), .val (.int p1), .val (.int p2)] [(.ref a0)])
  refine ogo (fun _ z_ => XS.iloadN X2.here hx rfl (hb hby d3_10) rfl z_) ?_
  show OWay p e below G T2 (mkF m 11 #[.val (.ref a0), .val (.int p1), .val (.int p2)] [(.int p2), (.ref a0)])
  have F4 : Exa Z h2 a0 "com/example/slotwright/slotwright/Bounds" := (hp0.wr W2)
  have F5 : Fld Z h2 a0 "com/example/slotwright/slotwright/Bounds" "maximum" "I" (.int (0 : Int32)) := (hp3.other W2 (Or.inr (slot_ne (Or.inr (hw _ (List.mem_of_getElem? (i := 26) rfl))) (Or.inr (hw _ (List.mem_of_getElem? (i := 24) rfl))) (by decide) (t := .int) (t' := .int) (by decide) (by decide))))
  obtain ⟨T6, h6, X6, eT6, W6, st6⟩ := putF X2 hx hZ hown (host := "") (Or.inl (hw _ (List.mem_of_getElem? (i := 25) rfl))) Via.refl eT2 F5 F4 (Or.inr ⟨(hw _ (List.mem_of_getElem? (i := 26) rfl)), rfl, hnm⟩) (hw _ (List.mem_of_getElem? (i := 10) rfl)) (ty := .int) (by decide) rfl rfl (g := (mkF m 11 #[.val (.ref a0), .val (.int p1), .val (.int p2)] [(.int p2), (.ref a0)])) rfl rfl (hb hby d3_11)
  have K7 : Keep h0 h6 [a0] := K3.wr W6 (Or.inl (List.mem_of_getElem? (i := 0) rfl))
  have Fw6 : Fld Z h6 a0 "com/example/slotwright/slotwright/Bounds" "maximum" "I" (.int p2) := F5.same W6
  have N6 := Fr.snoc X6 N2 g_a0
  refine ogo st6 ?_
  show OWay p e below G T6 (mkF m 14 #[.val (.ref a0), .val (.int p1), .val (.int p2)] [])
  subst hG
  refine wRetV X6 hx hret hlk (hb hby d3_14) (by decide) (by decide) eT6 ?_
  exact ⟨rfl, N6, K7, (Fw2.other W6 (Or.inr (slot_ne (Or.inr (hw _ (List.mem_of_getElem? (i := 24) rfl))) (Or.inr (hw _ (List.mem_of_getElem? (i := 26) rfl))) (by decide) (t := .int) (t' := .int) (by decide) (by decide)))), Fw6⟩
theorem d6_0 : decode prog_13_method_3_code 0 = .ok (.lload_n 1, 1) := by decide +kernel
theorem d6_1 : decode prog_13_method_3_code 1 = .ok (.aload_n 0, 1) := by decide +kernel
theorem d6_2 : decode prog_13_method_3_code 2 = .ok (.getfield 7, 3) := by decide +kernel
theorem d6_5 : decode prog_13_method_3_code 5 = .ok (.i2l, 1) := by decide +kernel
theorem d6_6 : decode prog_13_method_3_code 6 = .ok (.lcmp, 1) := by decide +kernel
theorem d6_7 : decode prog_13_method_3_code 7 = .ok (.ifCond .ge 11, 3) := by decide +kernel
theorem d6_10 : decode prog_13_method_3_code 10 = .ok (.aload_n 0, 1) := by decide +kernel
theorem d6_11 : decode prog_13_method_3_code 11 = .ok (.getfield 7, 3) := by decide +kernel
theorem d6_14 : decode prog_13_method_3_code 14 = .ok (.i2l, 1) := by decide +kernel
theorem d6_15 : decode prog_13_method_3_code 15 = .ok (.lload_n 1, 1) := by decide +kernel
theorem d6_16 : decode prog_13_method_3_code 16 = .ok (.lsub, 1) := by decide +kernel
theorem d6_17 : decode prog_13_method_3_code 17 = .ok (.lreturn, 1) := by decide +kernel
theorem d6_18 : decode prog_13_method_3_code 18 = .ok (.lload_n 1, 1) := by decide +kernel
theorem d6_19 : decode prog_13_method_3_code 19 = .ok (.aload_n 0, 1) := by decide +kernel
theorem d6_20 : decode prog_13_method_3_code 20 = .ok (.getfield 13, 3) := by decide +kernel
theorem d6_23 : decode prog_13_method_3_code 23 = .ok (.i2l, 1) := by decide +kernel
theorem d6_24 : decode prog_13_method_3_code 24 = .ok (.lcmp, 1) := by decide +kernel
theorem d6_25 : decode prog_13_method_3_code 25 = .ok (.ifCond .le 13, 3) := by decide +kernel
theorem d6_28 : decode prog_13_method_3_code 28 = .ok (.lload_n 1, 1) := by decide +kernel
theorem d6_29 : decode prog_13_method_3_code 29 = .ok (.aload_n 0, 1) := by decide +kernel
theorem d6_30 : decode prog_13_method_3_code 30 = .ok (.getfield 13, 3) := by decide +kernel
theorem d6_33 : decode prog_13_method_3_code 33 = .ok (.i2l, 1) := by decide +kernel
theorem d6_34 : decode prog_13_method_3_code 34 = .ok (.lsub, 1) := by decide +kernel
theorem d6_35 : decode prog_13_method_3_code 35 = .ok (.goto 4, 3) := by decide +kernel
theorem d6_39 : decode prog_13_method_3_code 39 = .ok (.lreturn, 1) := by decide +kernel
theorem d6_38 : decode prog_13_method_3_code 38 = .ok (.lconst 0, 1) := by decide +kernel
def dev_b_rm : Room := { frames := 0, cells := 0, slots := 0, locals := 0 }
def dev_b_Q (Z : State) (a0 : Addr) (q1 : Int64) (w1 : Int32) (w2 : Int32) (h0 : Heap) (n0 : Nat) (v : Option Value) (h : Heap) (L : List Loc) : Prop := (v = some (.long (dev q1 w1 w2))) ∧ (Fr n0 L) ∧ (h = h0)
theorem dev_b_ef (m : MethodId) (a0 : Addr) (q1 : Int64) : entryFrame m #[(.ref a0), (.long q1)] 3 = mkF m 0 #[.val (.ref a0), .val (.long q1), .second] [] := by first | (simp [entryFrame, mkF, argsToLocals, Value.category]; done) | rfl
set_option maxRecDepth 65536 in
set_option maxHeartbeats 40000000 in
theorem dev_b_c (l : Launch) (Z : State) (az : Array Value) (hw : ∀ d ∈ tables_1, d.before az Z = true) (ws : List Jvm.Cond) (a0 : Addr) (q1 : Int64) (w1 : Int32) (w2 : Int32) (h0 : Heap) (n0 : Nat) (Z0 : n0 ≤ h0.size) (hp0 : Fld Z h0 a0 "com/example/slotwright/slotwright/Bounds" "minimum" "I" (.int w1)) (hp1 : Fld Z h0 a0 "com/example/slotwright/slotwright/Bounds" "maximum" "I" (.int w2)) :
    OCon l (⟨"com/example/slotwright/slotwright/Bounds", "deviation", "(J)J"⟩ : MethodName) prog_13_method_3_code 3 (some .long) ws dev_b_rm Z #[(.ref a0), (.long q1)] h0 (dev_b_Q Z a0 q1 w1 w2 h0 n0) := by
  refine ocon (plainFor_of_name pn_com_example_slotwright_slotwright_Bounds) ?_
  intro p e s m below meth c s₁ hx hby hml hown hnm hret hlk hZ X0 eh0
  have N0 := Fr.nil n0
  have K0 := Keep.refl h0 []
  refine ogoE (dev_b_ef m a0 q1) ?_
  generalize hG : (OEnd s below (dev_b_Q Z a0 q1 w1 w2 h0 n0) dev_b_rm.cells dev_b_rm.slots) = G
  show OWay p e below G s₁ (mkF m 0 #[.val (.ref a0), .val (.long q1), .second] [])
  refine ogo (fun _ z_ => XS.lloadN X0.here hx rfl (hb hby d6_0) rfl z_) ?_
  show OWay p e below G s₁ (mkF m 1 #[.val (.ref a0), .val (.long q1), .second] [(.long q1)])
  refine ogo (fun _ z_ => XS.aloadN X0.here hx rfl (hb hby d6_1) rfl rfl z_) ?_
  show OWay p e below G s₁ (mkF m 2 #[.val (.ref a0), .val (.long q1), .second] [(.ref a0), (.long q1)])
  obtain ⟨T1, X1, eT1, st1⟩ := getF X0 hx hZ hown (host := "") (Or.inl (hw _ (List.mem_of_getElem? (i := 23) rfl))) Via.refl eh0 hp0 (g := (mkF m 2 #[.val (.ref a0), .val (.long q1), .second] [(.ref a0), (.long q1)])) rfl rfl (hb hby d6_2)
  refine ogo st1 ?_
  show OWay p e below G T1 (mkF m 5 #[.val (.ref a0), .val (.long q1), .second] [(.int w1), (.long q1)])
  refine ogo (fun _ z_ => XS.i2l X1.here hx rfl (hb hby d6_5) rfl z_) ?_
  show OWay p e below G T1 (mkF m 6 #[.val (.ref a0), .val (.long q1), .second] [(.long (w1.toInt64)), (.long q1)])
  refine ogo (fun _ z_ => XS.lcmp X1.here hx rfl (hb hby d6_6) rfl z_) ?_
  show OWay p e below G T1 (mkF m 7 #[.val (.ref a0), .val (.long q1), .second] [(.int (lcmpW q1 (w1.toInt64)))])
  by_cases c7 : q1 < (w1.toInt64)
  · refine ogo (fun _ z_ => XS.ifNo X1.here hx rfl (hb hby d6_7) rfl ((if0 _ _).trans (tlt ((lw_lt _ _).mpr c7)).2.1) z_) ?_
    show OWay p e below G T1 (mkF m 10 #[.val (.ref a0), .val (.long q1), .second] [])
    refine ogo (fun _ z_ => XS.aloadN X1.here hx rfl (hb hby d6_10) rfl rfl z_) ?_
    show OWay p e below G T1 (mkF m 11 #[.val (.ref a0), .val (.long q1), .second] [(.ref a0)])
    obtain ⟨T2, X2, eT2, st2⟩ := getF X1 hx hZ hown (host := "") (Or.inl (hw _ (List.mem_of_getElem? (i := 23) rfl))) Via.refl eT1 hp0 (g := (mkF m 11 #[.val (.ref a0), .val (.long q1), .second] [(.ref a0)])) rfl rfl (hb hby d6_11)
    refine ogo st2 ?_
    show OWay p e below G T2 (mkF m 14 #[.val (.ref a0), .val (.long q1), .second] [(.int w1)])
    refine ogo (fun _ z_ => XS.i2l X2.here hx rfl (hb hby d6_14) rfl z_) ?_
    show OWay p e below G T2 (mkF m 15 #[.val (.ref a0), .val (.long q1), .second] [(.long (w1.toInt64))])
    refine ogo (fun _ z_ => XS.lloadN X2.here hx rfl (hb hby d6_15) rfl z_) ?_
    show OWay p e below G T2 (mkF m 16 #[.val (.ref a0), .val (.long q1), .second] [(.long q1), (.long (w1.toInt64))])
    refine ogo (fun _ z_ => XS.lsub X2.here hx rfl (hb hby d6_16) rfl z_) ?_
    show OWay p e below G T2 (mkF m 17 #[.val (.ref a0), .val (.long q1), .second] [(.long ((w1.toInt64) - q1))])
    subst hG
    refine wRet X2 hx hret hlk rfl (Or.inr (Or.inl ⟨rfl, rfl, _, rfl⟩)) (hb hby d6_17) (by decide) (by decide) eT2 ?_
    exact ⟨(congrArg some (congrArg Value.long (show _ = dev q1 w1 w2 from by unfold dev; rw [if_pos c7]))), N0, rfl⟩
  · refine ogo (fun _ z_ => XS.ifYes X1.here hx rfl (pc0 := 7) (pc' := 18) rfl (hb hby d6_7) rfl ((if0 _ _).trans (flt (fun q => c7 ((lw_lt _ _).mp q))).2.1) (by decide) (by decide) z_) ?_
    show OWay p e below G T1 (mkF m 18 #[.val (.ref a0), .val (.long q1), .second] [])
    refine ogo (fun _ z_ => XS.lloadN X1.here hx rfl (hb hby d6_18) rfl z_) ?_
    show OWay p e below G T1 (mkF m 19 #[.val (.ref a0), .val (.long q1), .second] [(.long q1)])
    refine ogo (fun _ z_ => XS.aloadN X1.here hx rfl (hb hby d6_19) rfl rfl z_) ?_
    show OWay p e below G T1 (mkF m 20 #[.val (.ref a0), .val (.long q1), .second] [(.ref a0), (.long q1)])
    obtain ⟨T3, X3, eT3, st3⟩ := getF X1 hx hZ hown (host := "") (Or.inl (hw _ (List.mem_of_getElem? (i := 25) rfl))) Via.refl eT1 hp1 (g := (mkF m 20 #[.val (.ref a0), .val (.long q1), .second] [(.ref a0), (.long q1)])) rfl rfl (hb hby d6_20)
    refine ogo st3 ?_
    show OWay p e below G T3 (mkF m 23 #[.val (.ref a0), .val (.long q1), .second] [(.int w2), (.long q1)])
    refine ogo (fun _ z_ => XS.i2l X3.here hx rfl (hb hby d6_23) rfl z_) ?_
    show OWay p e below G T3 (mkF m 24 #[.val (.ref a0), .val (.long q1), .second] [(.long (w2.toInt64)), (.long q1)])
    refine ogo (fun _ z_ => XS.lcmp X3.here hx rfl (hb hby d6_24) rfl z_) ?_
    show OWay p e below G T3 (mkF m 25 #[.val (.ref a0), .val (.long q1), .second] [(.int (lcmpW q1 (w2.toInt64)))])
    by_cases c25 : (w2.toInt64) < q1
    · refine ogo (fun _ z_ => XS.ifNo X3.here hx rfl (hb hby d6_25) rfl ((if0 _ _).trans (tlt ((lw_gt _ _).mpr c25)).2.2.2) z_) ?_
      show OWay p e below G T3 (mkF m 28 #[.val (.ref a0), .val (.long q1), .second] [])
      refine ogo (fun _ z_ => XS.lloadN X3.here hx rfl (hb hby d6_28) rfl z_) ?_
      show OWay p e below G T3 (mkF m 29 #[.val (.ref a0), .val (.long q1), .second] [(.long q1)])
      refine ogo (fun _ z_ => XS.aloadN X3.here hx rfl (hb hby d6_29) rfl rfl z_) ?_
      show OWay p e below G T3 (mkF m 30 #[.val (.ref a0), .val (.long q1), .second] [(.ref a0), (.long q1)])
      obtain ⟨T4, X4, eT4, st4⟩ := getF X3 hx hZ hown (host := "") (Or.inl (hw _ (List.mem_of_getElem? (i := 25) rfl))) Via.refl eT3 hp1 (g := (mkF m 30 #[.val (.ref a0), .val (.long q1), .second] [(.ref a0), (.long q1)])) rfl rfl (hb hby d6_30)
      refine ogo st4 ?_
      show OWay p e below G T4 (mkF m 33 #[.val (.ref a0), .val (.long q1), .second] [(.int w2), (.long q1)])
      refine ogo (fun _ z_ => XS.i2l X4.here hx rfl (hb hby d6_33) rfl z_) ?_
      show OWay p e below G T4 (mkF m 34 #[.val (.ref a0), .val (.long q1), .second] [(.long (w2.toInt64)), (.long q1)])
      refine ogo (fun _ z_ => XS.lsub X4.here hx rfl (hb hby d6_34) rfl z_) ?_
      show OWay p e below G T4 (mkF m 35 #[.val (.ref a0), .val (.long q1), .second] [(.long (q1 - (w2.toInt64)))])
      refine ogo (fun _ z_ => XS.goto X4.here hx rfl (pc0 := 35) (pc' := 39) rfl (hb hby d6_35) (by decide) (by decide) z_) ?_
      show OWay p e below G T4 (mkF m 39 #[.val (.ref a0), .val (.long q1), .second] [(.long (q1 - (w2.toInt64)))])
      subst hG
      refine wRet X4 hx hret hlk rfl (Or.inr (Or.inl ⟨rfl, rfl, _, rfl⟩)) (hb hby d6_39) (by decide) (by decide) eT4 ?_
      exact ⟨(congrArg some (congrArg Value.long (show _ = dev q1 w1 w2 from by unfold dev; rw [if_neg c7, if_pos c25]))), N0, rfl⟩
    · refine ogo (fun _ z_ => XS.ifYes X3.here hx rfl (pc0 := 25) (pc' := 38) rfl (hb hby d6_25) rfl ((if0 _ _).trans (flt (fun q => c25 ((lw_gt _ _).mp q))).2.2.2) (by decide) (by decide) z_) ?_
      show OWay p e below G T3 (mkF m 38 #[.val (.ref a0), .val (.long q1), .second] [])
      refine ogo (fun _ z_ => XS.lconst X3.here hx rfl (hb hby d6_38) z_) ?_
      show OWay p e below G T3 (mkF m 39 #[.val (.ref a0), .val (.long q1), .second] [(.long (0 : Int64))])
      subst hG
      refine wRet X3 hx hret hlk rfl (Or.inr (Or.inl ⟨rfl, rfl, _, rfl⟩)) (hb hby d6_39) (by decide) (by decide) eT3 ?_
      exact ⟨(congrArg some (congrArg Value.long (show _ = dev q1 w1 w2 from by unfold dev; rw [if_neg c7, if_neg c25]))), N0, rfl⟩
theorem pn_com_example_slotwright_slotwright_BoundsDeviationPinLaw : plainName "com/example/slotwright/slotwright/BoundsDeviationPinLaw" = true := by first | (simp [plainName, overriddenIn]; done) | decide +kernel
theorem pd__II_I : parseMethodDescriptor "(II)I" = some ⟨[.int, .int], some .int⟩ := by decide +kernel
theorem pd__II_V : parseMethodDescriptor "(II)V" = some ⟨[.int, .int], none⟩ := by decide +kernel
theorem pd__J_J : parseMethodDescriptor "(J)J" = some ⟨[.long], some .long⟩ := by decide +kernel
def law_Q (Z : State) (p0 : Int32) (p1 : Int32) (q2 : Int64) (h0 : Heap) (n0 : Nat) (v : Option Value) (h : Heap) (L : List Loc) : Prop := v = some (.int 1) ∧ Fr n0 L
theorem law_ef (m : MethodId) (p0 : Int32) (p1 : Int32) (q2 : Int64) : entryFrame m #[(.int p0), (.int p1), (.long q2)] maxLocals = mkF m 0 #[.val (.int p0), .val (.int p1), .val (.long q2), .second, .unset, .unset, .unset, .unset, .unset, .unset, .unset] [] := by first | (simp [entryFrame, mkF, argsToLocals, Value.category, maxLocals]; done) | rfl
set_option maxRecDepth 65536 in
set_option maxHeartbeats 40000000 in
theorem law_c (l : Launch) (Z : State) (az : Array Value) (hw : ∀ d ∈ tables_1, d.before az Z = true) (ws : List Jvm.Cond) (p0 : Int32) (p1 : Int32) (q2 : Int64) (h0 : Heap) (n0 : Nat) (Z0 : n0 ≤ h0.size) :
    OCon l x code maxLocals ret ws room_1 Z #[(.int p0), (.int p1), (.long q2)] h0 (law_Q Z p0 p1 q2 h0 n0) := by
  refine ocon (plainFor_of_name pn_com_example_slotwright_slotwright_BoundsDeviationPinLaw) ?_
  intro p e s m below meth c s₁ hx hby hml hown hnm hret hlk hZ X0 eh0
  have N0 := Fr.nil n0
  have K0 := Keep.refl h0 []
  refine ogoE (law_ef m p0 p1 q2) ?_
  generalize hG : (OEnd s below (law_Q Z p0 p1 q2 h0 n0) room_1.cells room_1.slots) = G
  show OWay p e below G s₁ (mkF m 0 #[.val (.int p0), .val (.int p1), .val (.long q2), .second, .unset, .unset, .unset, .unset, .unset, .unset, .unset] [])
  refine ogo (fun _ z_ => XS.iloadN X0.here hx rfl (hb hby at_0) rfl z_) ?_
  show OWay p e below G s₁ (mkF m 1 #[.val (.int p0), .val (.int p1), .val (.long q2), .second, .unset, .unset, .unset, .unset, .unset, .unset, .unset] [(.int p0)])
  refine ogo (fun _ z_ => X0.ldcInt hx hown (mvT hZ (hw _ (List.mem_of_getElem? (i := 0) rfl))) (g := (mkF m 1 #[.val (.int p0), .val (.int p1), .val (.long q2), .second, .unset, .unset, .unset, .unset, .unset, .unset, .unset] [(.int p0)])) rfl (hb hby at_1) _ z_) ?_
  show OWay p e below G s₁ (mkF m 3 #[.val (.int p0), .val (.int p1), .val (.long q2), .second, .unset, .unset, .unset, .unset, .unset, .unset, .unset] [(.int (2147483647 : Int32)), (.int p0)])
  refine ogo (fun _ z_ => XS.iand X0.here hx rfl (hb hby at_3) rfl z_) ?_
  show OWay p e below G s₁ (mkF m 4 #[.val (.int p0), .val (.int p1), .val (.long q2), .second, .unset, .unset, .unset, .unset, .unset, .unset, .unset] [(.int (p0 &&& (2147483647 : Int32)))])
  suffices Jv4_1 : ∀ v4_1 : Int32, v4_1 = (p0 &&& (2147483647 : Int32)) → OWay p e below G s₁ (mkF m 4 #[.val (.int p0), .val (.int p1), .val (.long q2), .second, .unset, .unset, .unset, .unset, .unset, .unset, .unset] [(.int v4_1)]) from Jv4_1 _ rfl
  intro v4_1 hv4_1
  refine ogo (fun _ z_ => XS.istore X0.here hx rfl (hb hby at_4) rfl (l' := #[.val (.int p0), .val (.int p1), .val (.long q2), .second, .val (.int v4_1), .unset, .unset, .unset, .unset, .unset, .unset]) rfl z_) ?_
  show OWay p e below G s₁ (mkF m 6 #[.val (.int p0), .val (.int p1), .val (.long q2), .second, .val (.int v4_1), .unset, .unset, .unset, .unset, .unset, .unset] [])
  refine ogo (fun _ z_ => XS.iloadN X0.here hx rfl (hb hby at_6) rfl z_) ?_
  show OWay p e below G s₁ (mkF m 7 #[.val (.int p0), .val (.int p1), .val (.long q2), .second, .val (.int v4_1), .unset, .unset, .unset, .unset, .unset, .unset] [(.int p1)])
  refine ogo (fun _ z_ => X0.ldcInt hx hown (mvT hZ (hw _ (List.mem_of_getElem? (i := 0) rfl))) (g := (mkF m 7 #[.val (.int p0), .val (.int p1), .val (.long q2), .second, .val (.int v4_1), .unset, .unset, .unset, .unset, .unset, .unset] [(.int p1)])) rfl (hb hby at_7) _ z_) ?_
  show OWay p e below G s₁ (mkF m 9 #[.val (.int p0), .val (.int p1), .val (.long q2), .second, .val (.int v4_1), .unset, .unset, .unset, .unset, .unset, .unset] [(.int (2147483647 : Int32)), (.int p1)])
  refine ogo (fun _ z_ => XS.iand X0.here hx rfl (hb hby at_9) rfl z_) ?_
  show OWay p e below G s₁ (mkF m 10 #[.val (.int p0), .val (.int p1), .val (.long q2), .second, .val (.int v4_1), .unset, .unset, .unset, .unset, .unset, .unset] [(.int (p1 &&& (2147483647 : Int32)))])
  suffices Jv5_2 : ∀ v5_2 : Int32, v5_2 = (p1 &&& (2147483647 : Int32)) → OWay p e below G s₁ (mkF m 10 #[.val (.int p0), .val (.int p1), .val (.long q2), .second, .val (.int v4_1), .unset, .unset, .unset, .unset, .unset, .unset] [(.int v5_2)]) from Jv5_2 _ rfl
  intro v5_2 hv5_2
  refine ogo (fun _ z_ => XS.istore X0.here hx rfl (hb hby at_10) rfl (l' := #[.val (.int p0), .val (.int p1), .val (.long q2), .second, .val (.int v4_1), .val (.int v5_2), .unset, .unset, .unset, .unset, .unset]) rfl z_) ?_
  show OWay p e below G s₁ (mkF m 12 #[.val (.int p0), .val (.int p1), .val (.long q2), .second, .val (.int v4_1), .val (.int v5_2), .unset, .unset, .unset, .unset, .unset] [])
  refine ogo (fun _ z_ => XS.iload X0.here hx rfl (hb hby at_12) rfl z_) ?_
  show OWay p e below G s₁ (mkF m 14 #[.val (.int p0), .val (.int p1), .val (.long q2), .second, .val (.int v4_1), .val (.int v5_2), .unset, .unset, .unset, .unset, .unset] [(.int v4_1)])
  refine ogo (fun _ z_ => XS.iload X0.here hx rfl (hb hby at_14) rfl z_) ?_
  show OWay p e below G s₁ (mkF m 16 #[.val (.int p0), .val (.int p1), .val (.long q2), .second, .val (.int v4_1), .val (.int v5_2), .unset, .unset, .unset, .unset, .unset] [(.int v5_2), (.int v4_1)])
  obtain ⟨_, T3, L3, X3, hQ3, st3⟩ := wStatic X0 hx hZ (y := (⟨"java/lang/Math", "min", "(II)I"⟩ : MethodName)) hown (hw _ (List.mem_of_getElem? (i := 1) rfl)) (hw _ (List.mem_of_getElem? (i := 2) rfl)) (hw _ (List.mem_of_getElem? (i := 3) rfl)) (hw _ (List.mem_of_getElem? (i := 4) rfl)) (by decide) (imin_b_c l Z az hw [] v4_1 v5_2 h0 n0 Z0) 0 (by decide) (by decide) (g := (mkF m 16 #[.val (.int p0), .val (.int p1), .val (.long q2), .second, .val (.int v4_1), .val (.int v5_2), .unset, .unset, .unset, .unset, .unset] [(.int v5_2), (.int v4_1)])) rfl (by rw [hml]; rfl) (argsL := [(.int v4_1), (.int v5_2)]) (rest := []) (lenOf pd__II_I rfl) rfl (by show 2 * 0 + _ ≤ _; exact Nat.le_of_eq rfl) (hb hby at_16) rfl eh0 (by decide) (by decide)
  obtain ⟨rfl, N3q, eq3⟩ := hQ3
  have N3 := Fr.app N0 N3q
  refine ogo st3 ?_
  show OWay p e below G T3 (mkF m 19 #[.val (.int p0), .val (.int p1), .val (.long q2), .second, .val (.int v4_1), .val (.int v5_2), .unset, .unset, .unset, .unset, .unset] [(.int (imin v4_1 v5_2))])
  suffices Jv6_4 : ∀ v6_4 : Int32, v6_4 = (imin v4_1 v5_2) → OWay p e below G T3 (mkF m 19 #[.val (.int p0), .val (.int p1), .val (.long q2), .second, .val (.int v4_1), .val (.int v5_2), .unset, .unset, .unset, .unset, .unset] [(.int v6_4)]) from Jv6_4 _ rfl
  intro v6_4 hv6_4
  refine ogo (fun _ z_ => XS.istore X3.here hx rfl (hb hby at_19) rfl (l' := #[.val (.int p0), .val (.int p1), .val (.long q2), .second, .val (.int v4_1), .val (.int v5_2), .val (.int v6_4), .unset, .unset, .unset, .unset]) rfl z_) ?_
  show OWay p e below G T3 (mkF m 21 #[.val (.int p0), .val (.int p1), .val (.long q2), .second, .val (.int v4_1), .val (.int v5_2), .val (.int v6_4), .unset, .unset, .unset, .unset] [])
  refine ogo (fun _ z_ => XS.iload X3.here hx rfl (hb hby at_21) rfl z_) ?_
  show OWay p e below G T3 (mkF m 23 #[.val (.int p0), .val (.int p1), .val (.long q2), .second, .val (.int v4_1), .val (.int v5_2), .val (.int v6_4), .unset, .unset, .unset, .unset] [(.int v4_1)])
  refine ogo (fun _ z_ => XS.iload X3.here hx rfl (hb hby at_23) rfl z_) ?_
  show OWay p e below G T3 (mkF m 25 #[.val (.int p0), .val (.int p1), .val (.long q2), .second, .val (.int v4_1), .val (.int v5_2), .val (.int v6_4), .unset, .unset, .unset, .unset] [(.int v5_2), (.int v4_1)])
  obtain ⟨_, T5, L5, X5, hQ5, st5⟩ := wStatic X3 hx hZ (y := (⟨"java/lang/Math", "max", "(II)I"⟩ : MethodName)) hown (hw _ (List.mem_of_getElem? (i := 5) rfl)) (hw _ (List.mem_of_getElem? (i := 6) rfl)) (hw _ (List.mem_of_getElem? (i := 3) rfl)) (hw _ (List.mem_of_getElem? (i := 7) rfl)) (by decide) (imax_b_c l Z az hw [] v4_1 v5_2 h0 n0 Z0) 0 (by decide) (by decide) (g := (mkF m 25 #[.val (.int p0), .val (.int p1), .val (.long q2), .second, .val (.int v4_1), .val (.int v5_2), .val (.int v6_4), .unset, .unset, .unset, .unset] [(.int v5_2), (.int v4_1)])) rfl (by rw [hml]; rfl) (argsL := [(.int v4_1), (.int v5_2)]) (rest := []) (lenOf pd__II_I rfl) rfl (by show 2 * 0 + _ ≤ _; exact Nat.le_of_eq rfl) (hb hby at_25) rfl eq3 (by decide) (by decide)
  obtain ⟨rfl, N5q, eq5⟩ := hQ5
  have N5 := Fr.app N3 N5q
  refine ogo st5 ?_
  show OWay p e below G T5 (mkF m 28 #[.val (.int p0), .val (.int p1), .val (.long q2), .second, .val (.int v4_1), .val (.int v5_2), .val (.int v6_4), .unset, .unset, .unset, .unset] [(.int (imax v4_1 v5_2))])
  suffices Jv7_6 : ∀ v7_6 : Int32, v7_6 = (imax v4_1 v5_2) → OWay p e below G T5 (mkF m 28 #[.val (.int p0), .val (.int p1), .val (.long q2), .second, .val (.int v4_1), .val (.int v5_2), .val (.int v6_4), .unset, .unset, .unset, .unset] [(.int v7_6)]) from Jv7_6 _ rfl
  intro v7_6 hv7_6
  refine ogo (fun _ z_ => XS.istore X5.here hx rfl (hb hby at_28) rfl (l' := #[.val (.int p0), .val (.int p1), .val (.long q2), .second, .val (.int v4_1), .val (.int v5_2), .val (.int v6_4), .val (.int v7_6), .unset, .unset, .unset]) rfl z_) ?_
  show OWay p e below G T5 (mkF m 30 #[.val (.int p0), .val (.int p1), .val (.long q2), .second, .val (.int v4_1), .val (.int v5_2), .val (.int v6_4), .val (.int v7_6), .unset, .unset, .unset] [])
  have nn_v4_1 : 0 ≤ v4_1.toInt := by rw [hv4_1]; have q := c_mask p0 2147483647 31 (by decide) (by decide); rw [q]; exact Int.emod_nonneg _ (by decide)
  have nn_v5_2 : 0 ≤ v5_2.toInt := by rw [hv5_2]; have q := c_mask p1 2147483647 31 (by decide) (by decide); rw [q]; exact Int.emod_nonneg _ (by decide)
  have hmm := own_mm v4_1 v5_2 v6_4 v7_6 hv6_4 hv7_6
  have hnn := own_nn v4_1 v5_2 v6_4 hv6_4 nn_v4_1 nn_v5_2
  refine ogo (fun _ z_ => XS.lloadN X5.here hx rfl (hb hby at_30) rfl z_) ?_
  show OWay p e below G T5 (mkF m 31 #[.val (.int p0), .val (.int p1), .val (.long q2), .second, .val (.int v4_1), .val (.int v5_2), .val (.int v6_4), .val (.int v7_6), .unset, .unset, .unset] [(.long q2)])
  refine ogo (fun _ z_ => XS.iload X5.here hx rfl (hb hby at_31) rfl z_) ?_
  show OWay p e below G T5 (mkF m 33 #[.val (.int p0), .val (.int p1), .val (.long q2), .second, .val (.int v4_1), .val (.int v5_2), .val (.int v6_4), .val (.int v7_6), .unset, .unset, .unset] [(.int v6_4), (.long q2)])
  refine ogo (fun _ z_ => XS.i2l X5.here hx rfl (hb hby at_33) rfl z_) ?_
  show OWay p e below G T5 (mkF m 34 #[.val (.int p0), .val (.int p1), .val (.long q2), .second, .val (.int v4_1), .val (.int v5_2), .val (.int v6_4), .val (.int v7_6), .unset, .unset, .unset] [(.long (v6_4.toInt64)), (.long q2)])
  refine ogo (fun _ z_ => X5.ldc2Long hx hown (mvT hZ (hw _ (List.mem_of_getElem? (i := 8) rfl))) (g := (mkF m 34 #[.val (.int p0), .val (.int p1), .val (.long q2), .second, .val (.int v4_1), .val (.int v5_2), .val (.int v6_4), .val (.int v7_6), .unset, .unset, .unset] [(.long (v6_4.toInt64)), (.long q2)])) rfl (hb hby at_34) _ z_) ?_
  show OWay p e below G T5 (mkF m 37 #[.val (.int p0), .val (.int p1), .val (.long q2), .second, .val (.int v4_1), .val (.int v5_2), .val (.int v6_4), .val (.int v7_6), .unset, .unset, .unset] [(.long (9223372036854775807 : Int64)), (.long (v6_4.toInt64)), (.long q2)])
  refine ogo (fun _ z_ => XS.lsub X5.here hx rfl (hb hby at_37) rfl z_) ?_
  show OWay p e below G T5 (mkF m 38 #[.val (.int p0), .val (.int p1), .val (.long q2), .second, .val (.int v4_1), .val (.int v5_2), .val (.int v6_4), .val (.int v7_6), .unset, .unset, .unset] [(.long ((v6_4.toInt64) - (9223372036854775807 : Int64))), (.long q2)])
  refine ogo (fun _ z_ => XS.lcmp X5.here hx rfl (hb hby at_38) rfl z_) ?_
  show OWay p e below G T5 (mkF m 39 #[.val (.int p0), .val (.int p1), .val (.long q2), .second, .val (.int v4_1), .val (.int v5_2), .val (.int v6_4), .val (.int v7_6), .unset, .unset, .unset] [(.int (lcmpW q2 ((v6_4.toInt64) - (9223372036854775807 : Int64))))])
  by_cases c39 : q2 < ((v6_4.toInt64) - (9223372036854775807 : Int64))
  · refine ogo (fun _ z_ => XS.ifNo X5.here hx rfl (hb hby at_39) rfl ((if0 _ _).trans (tlt ((lw_lt _ _).mpr c39)).2.1) z_) ?_
    show OWay p e below G T5 (mkF m 42 #[.val (.int p0), .val (.int p1), .val (.long q2), .second, .val (.int v4_1), .val (.int v5_2), .val (.int v6_4), .val (.int v7_6), .unset, .unset, .unset] [])
    refine ogo (fun _ z_ => XS.iconst X5.here hx rfl (hb hby at_42) z_) ?_
    show OWay p e below G T5 (mkF m 43 #[.val (.int p0), .val (.int p1), .val (.long q2), .second, .val (.int v4_1), .val (.int v5_2), .val (.int v6_4), .val (.int v7_6), .unset, .unset, .unset] [(.int (1 : Int32))])
    subst hG
    refine wRetN X5 hx (t := .boolean) hret hlk (by simp) (hb hby at_43) (by decide) (by decide) eq5 ?_
    exact ⟨rfl, N5⟩
  · refine ogo (fun _ z_ => XS.ifYes X5.here hx rfl (pc0 := 39) (pc' := 44) rfl (hb hby at_39) rfl ((if0 _ _).trans (flt (fun q => c39 ((lw_lt _ _).mp q))).2.1) (by decide) (by decide) z_) ?_
    show OWay p e below G T5 (mkF m 44 #[.val (.int p0), .val (.int p1), .val (.long q2), .second, .val (.int v4_1), .val (.int v5_2), .val (.int v6_4), .val (.int v7_6), .unset, .unset, .unset] [])
    obtain ⟨T7, h7, X7, eT7, E7, A7, D7, -, st7⟩ := newO X5 hx hZ hown (hw _ (List.mem_of_getElem? (i := 9) rfl)) (hw _ (List.mem_of_getElem? (i := 10) rfl)) (hw _ (List.mem_of_getElem? (i := 11) rfl)) eq5 (g := (mkF m 44 #[.val (.int p0), .val (.int p1), .val (.long q2), .second, .val (.int v4_1), .val (.int v5_2), .val (.int v6_4), .val (.int v7_6), .unset, .unset, .unset] [])) rfl (hb hby at_44) (by decide) (by decide)
    obtain ⟨b7, g7⟩ : ∃ z, z = h0.size := ⟨_, rfl⟩
    rw [← g7] at A7 D7 st7
    have g_b7 : n0 ≤ b7 := Nat.le_trans Z0 (Nat.le_of_eq g7.symm)
    have sz_b7 : h0.size ≤ b7 := Nat.le_trans K0.1 (Nat.le_of_eq g7.symm)
    have K8 : Keep h0 h7 [] := K0.ext E7
    have F_minimum_b7 : Fld Z h7 b7 "com/example/slotwright/slotwright/Bounds" "minimum" "I" (.int (0 : Int32)) := D7 (Or.inr (hw _ (List.mem_of_getElem? (i := 24) rfl))) (ty := .int) (by decide)
    have F_maximum_b7 : Fld Z h7 b7 "com/example/slotwright/slotwright/Bounds" "maximum" "I" (.int (0 : Int32)) := D7 (Or.inr (hw _ (List.mem_of_getElem? (i := 26) rfl))) (ty := .int) (by decide)
    refine ogo st7 ?_
    show OWay p e below G T7 (mkF m 47 #[.val (.int p0), .val (.int p1), .val (.long q2), .second, .val (.int v4_1), .val (.int v5_2), .val (.int v6_4), .val (.int v7_6), .unset, .unset, .unset] [(.ref b7)])
    refine ogo (fun _ z_ => XS.dup X7.here hx rfl (hb hby at_47) rfl rfl z_) ?_
    show OWay p e below G T7 (mkF m 48 #[.val (.int p0), .val (.int p1), .val (.long q2), .second, .val (.int v4_1), .val (.int v5_2), .val (.int v6_4), .val (.int v7_6), .unset, .unset, .unset] [(.ref b7), (.ref b7)])
    refine ogo (fun _ z_ => XS.iload X7.here hx rfl (hb hby at_48) rfl z_) ?_
    show OWay p e below G T7 (mkF m 50 #[.val (.int p0), .val (.int p1), .val (.long q2), .second, .val (.int v4_1), .val (.int v5_2), .val (.int v6_4), .val (.int v7_6), .unset, .unset, .unset] [(.int v6_4), (.ref b7), (.ref b7)])
    refine ogo (fun _ z_ => XS.iload X7.here hx rfl (hb hby at_50) rfl z_) ?_
    show OWay p e below G T7 (mkF m 52 #[.val (.int p0), .val (.int p1), .val (.long q2), .second, .val (.int v4_1), .val (.int v5_2), .val (.int v6_4), .val (.int v7_6), .unset, .unset, .unset] [(.int v7_6), (.int v6_4), (.ref b7), (.ref b7)])
    obtain ⟨_, T9, L9, X9, hQ9, st9⟩ := wInit X7 hx hZ (y := (⟨"com/example/slotwright/slotwright/Bounds", "<init>", "(II)V"⟩ : MethodName)) rfl hown (hw _ (List.mem_of_getElem? (i := 12) rfl)) (hw _ (List.mem_of_getElem? (i := 13) rfl)) (hw _ (List.mem_of_getElem? (i := 11) rfl)) (hw _ (List.mem_of_getElem? (i := 14) rfl)) (by decide) (ctor3_c l Z az hw [] b7 v6_4 v7_6 h7 n0 (Nat.le_trans Z0 E7.1) A7 g_b7 F_minimum_b7 F_maximum_b7) 1 (by decide) (by decide) (g := (mkF m 52 #[.val (.int p0), .val (.int p1), .val (.long q2), .second, .val (.int v4_1), .val (.int v5_2), .val (.int v6_4), .val (.int v7_6), .unset, .unset, .unset] [(.int v7_6), (.int v6_4), (.ref b7), (.ref b7)])) rfl (by rw [hml]; rfl) (a := b7) (argsL := [(.int v6_4), (.int v7_6)]) (rest := [(.ref b7)]) (lenOf pd__II_V rfl) rfl (by show 2 * 0 + _ ≤ _; exact Nat.le_of_eq rfl) (hb hby at_52) rfl eT7 (by decide) (by decide)
    obtain ⟨rfl, N9q, Kq9, P10, P11⟩ := hQ9
    have N9 := Fr.app N5 N9q
    have K12 : Keep h0 T9.heap [] := K8.trans Kq9 (allS (Or.inr sz_b7) all0)
    refine ogoS st9 ?_
    show OWay p e below G T9 (mkF m 55 #[.val (.int p0), .val (.int p1), .val (.long q2), .second, .val (.int v4_1), .val (.int v5_2), .val (.int v6_4), .val (.int v7_6), .unset, .unset, .unset] [(.ref b7)])
    refine ogo (fun _ z_ => XS.astore X9.here hx rfl (hb hby at_55) rfl rfl (l' := #[.val (.int p0), .val (.int p1), .val (.long q2), .second, .val (.int v4_1), .val (.int v5_2), .val (.int v6_4), .val (.int v7_6), .val (.ref b7), .unset, .unset]) rfl z_) ?_
    show OWay p e below G T9 (mkF m 57 #[.val (.int p0), .val (.int p1), .val (.long q2), .second, .val (.int v4_1), .val (.int v5_2), .val (.int v6_4), .val (.int v7_6), .val (.ref b7), .unset, .unset] [])
    refine ogo (fun _ z_ => XS.aload X9.here hx rfl (hb hby at_57) rfl rfl z_) ?_
    show OWay p e below G T9 (mkF m 59 #[.val (.int p0), .val (.int p1), .val (.long q2), .second, .val (.int v4_1), .val (.int v5_2), .val (.int v6_4), .val (.int v7_6), .val (.ref b7), .unset, .unset] [(.ref b7)])
    refine ogo (fun _ z_ => XS.lloadN X9.here hx rfl (hb hby at_59) rfl z_) ?_
    show OWay p e below G T9 (mkF m 60 #[.val (.int p0), .val (.int p1), .val (.long q2), .second, .val (.int v4_1), .val (.int v5_2), .val (.int v6_4), .val (.int v7_6), .val (.ref b7), .unset, .unset] [(.long q2), (.ref b7)])
    have F14 : Exa Z T9.heap b7 "com/example/slotwright/slotwright/Bounds" := (A7.keep Kq9)
    obtain ⟨_, T13, L13, X13, hQ13, st13⟩ := wVirtual X9 hx hZ (y := (⟨"com/example/slotwright/slotwright/Bounds", "deviation", "(J)J"⟩ : MethodName)) (z := (⟨"com/example/slotwright/slotwright/Bounds", "deviation", "(J)J"⟩ : MethodName)) hown (hw _ (List.mem_of_getElem? (i := 27) rfl)) (hw _ (List.mem_of_getElem? (i := 28) rfl)) (notFace_of_selects (args := #[]) (mvT hZ (hw _ (List.mem_of_getElem? (i := 30) rfl)))) (hw _ (List.mem_of_getElem? (i := 30) rfl)) (hw _ (List.mem_of_getElem? (i := 29) rfl)) (hw _ (List.mem_of_getElem? (i := 11) rfl)) (hw _ (List.mem_of_getElem? (i := 31) rfl)) (by decide) (dev_b_c l Z az hw [] b7 q2 v6_4 v7_6 T9.heap n0 (Nat.le_trans (Nat.le_trans Z0 E7.1) Kq9.1) P10 P11) 0 (by decide) (by decide) F14 (g := (mkF m 60 #[.val (.int p0), .val (.int p1), .val (.long q2), .second, .val (.int v4_1), .val (.int v5_2), .val (.int v6_4), .val (.int v7_6), .val (.ref b7), .unset, .unset] [(.long q2), (.ref b7)])) rfl (by rw [hml]; rfl) (argsL := [(.long q2)]) (rest := []) (lenOf pd__J_J rfl) rfl (by show 2 * 0 + _ ≤ _; exact Nat.le_of_eq rfl) (hb hby at_60) rfl rfl (by decide) (by decide)
    obtain ⟨rfl, N13q, eq13⟩ := hQ13
    have N13 := Fr.app N9 N13q
    refine ogoS st13 ?_
    show OWay p e below G T13 (mkF m 63 #[.val (.int p0), .val (.int p1), .val (.long q2), .second, .val (.int v4_1), .val (.int v5_2), .val (.int v6_4), .val (.int v7_6), .val (.ref b7), .unset, .unset] [(.long (dev q2 v6_4 v7_6))])
    suffices Jv9_15 : ∀ v9_15 : Int64, v9_15 = (dev q2 v6_4 v7_6) → OWay p e below G T13 (mkF m 63 #[.val (.int p0), .val (.int p1), .val (.long q2), .second, .val (.int v4_1), .val (.int v5_2), .val (.int v6_4), .val (.int v7_6), .val (.ref b7), .unset, .unset] [(.long v9_15)]) from Jv9_15 _ rfl
    intro v9_15 hv9_15
    refine ogo (fun _ z_ => XS.lstore X13.here hx rfl (hb hby at_63) rfl (l' := #[.val (.int p0), .val (.int p1), .val (.long q2), .second, .val (.int v4_1), .val (.int v5_2), .val (.int v6_4), .val (.int v7_6), .val (.ref b7), .val (.long v9_15), .second]) rfl z_) ?_
    show OWay p e below G T13 (mkF m 65 #[.val (.int p0), .val (.int p1), .val (.long q2), .second, .val (.int v4_1), .val (.int v5_2), .val (.int v6_4), .val (.int v7_6), .val (.ref b7), .val (.long v9_15), .second] [])
    refine ogo (fun _ z_ => XS.lloadN X13.here hx rfl (hb hby at_65) rfl z_) ?_
    show OWay p e below G T13 (mkF m 66 #[.val (.int p0), .val (.int p1), .val (.long q2), .second, .val (.int v4_1), .val (.int v5_2), .val (.int v6_4), .val (.int v7_6), .val (.ref b7), .val (.long v9_15), .second] [(.long q2)])
    refine ogo (fun _ z_ => XS.iload X13.here hx rfl (hb hby at_66) rfl z_) ?_
    show OWay p e below G T13 (mkF m 68 #[.val (.int p0), .val (.int p1), .val (.long q2), .second, .val (.int v4_1), .val (.int v5_2), .val (.int v6_4), .val (.int v7_6), .val (.ref b7), .val (.long v9_15), .second] [(.int v6_4), (.long q2)])
    refine ogo (fun _ z_ => XS.i2l X13.here hx rfl (hb hby at_68) rfl z_) ?_
    show OWay p e below G T13 (mkF m 69 #[.val (.int p0), .val (.int p1), .val (.long q2), .second, .val (.int v4_1), .val (.int v5_2), .val (.int v6_4), .val (.int v7_6), .val (.ref b7), .val (.long v9_15), .second] [(.long (v6_4.toInt64)), (.long q2)])
    refine ogo (fun _ z_ => XS.lcmp X13.here hx rfl (hb hby at_69) rfl z_) ?_
    show OWay p e below G T13 (mkF m 70 #[.val (.int p0), .val (.int p1), .val (.long q2), .second, .val (.int v4_1), .val (.int v5_2), .val (.int v6_4), .val (.int v7_6), .val (.ref b7), .val (.long v9_15), .second] [(.int (lcmpW q2 (v6_4.toInt64)))])
    by_cases c70 : q2 < (v6_4.toInt64)
    · refine ogo (fun _ z_ => XS.ifNo X13.here hx rfl (hb hby at_70) rfl ((if0 _ _).trans (tlt ((lw_lt _ _).mpr c70)).2.1) z_) ?_
      show OWay p e below G T13 (mkF m 73 #[.val (.int p0), .val (.int p1), .val (.long q2), .second, .val (.int v4_1), .val (.int v5_2), .val (.int v6_4), .val (.int v7_6), .val (.ref b7), .val (.long v9_15), .second] [])
      refine ogo (fun _ z_ => XS.lload X13.here hx rfl (hb hby at_73) rfl z_) ?_
      show OWay p e below G T13 (mkF m 75 #[.val (.int p0), .val (.int p1), .val (.long q2), .second, .val (.int v4_1), .val (.int v5_2), .val (.int v6_4), .val (.int v7_6), .val (.ref b7), .val (.long v9_15), .second] [(.long v9_15)])
      refine ogo (fun _ z_ => XS.lconst X13.here hx rfl (hb hby at_75) z_) ?_
      show OWay p e below G T13 (mkF m 76 #[.val (.int p0), .val (.int p1), .val (.long q2), .second, .val (.int v4_1), .val (.int v5_2), .val (.int v6_4), .val (.int v7_6), .val (.ref b7), .val (.long v9_15), .second] [(.long (0 : Int64)), (.long v9_15)])
      refine ogo (fun _ z_ => XS.lcmp X13.here hx rfl (hb hby at_76) rfl z_) ?_
      show OWay p e below G T13 (mkF m 77 #[.val (.int p0), .val (.int p1), .val (.long q2), .second, .val (.int v4_1), .val (.int v5_2), .val (.int v6_4), .val (.int v7_6), .val (.ref b7), .val (.long v9_15), .second] [(.int (lcmpW v9_15 (0 : Int64)))])
      refine ogo (fun _ z_ => XS.ifNo X13.here hx rfl (hb hby at_77) rfl ((if0 _ _).trans (tlt ((lw_gt _ _).mpr (by rw [hv9_15]; exact (own_low q2 v6_4 v7_6 hnn c39 c70).1))).2.2.2) z_) ?_
      show OWay p e below G T13 (mkF m 80 #[.val (.int p0), .val (.int p1), .val (.long q2), .second, .val (.int v4_1), .val (.int v5_2), .val (.int v6_4), .val (.int v7_6), .val (.ref b7), .val (.long v9_15), .second] [])
      refine ogo (fun _ z_ => XS.lloadN X13.here hx rfl (hb hby at_80) rfl z_) ?_
      show OWay p e below G T13 (mkF m 81 #[.val (.int p0), .val (.int p1), .val (.long q2), .second, .val (.int v4_1), .val (.int v5_2), .val (.int v6_4), .val (.int v7_6), .val (.ref b7), .val (.long v9_15), .second] [(.long q2)])
      refine ogo (fun _ z_ => XS.lload X13.here hx rfl (hb hby at_81) rfl z_) ?_
      show OWay p e below G T13 (mkF m 83 #[.val (.int p0), .val (.int p1), .val (.long q2), .second, .val (.int v4_1), .val (.int v5_2), .val (.int v6_4), .val (.int v7_6), .val (.ref b7), .val (.long v9_15), .second] [(.long v9_15), (.long q2)])
      refine ogo (fun _ z_ => XS.ladd X13.here hx rfl (hb hby at_83) rfl z_) ?_
      show OWay p e below G T13 (mkF m 84 #[.val (.int p0), .val (.int p1), .val (.long q2), .second, .val (.int v4_1), .val (.int v5_2), .val (.int v6_4), .val (.int v7_6), .val (.ref b7), .val (.long v9_15), .second] [(.long (q2 + v9_15))])
      refine ogo (fun _ z_ => XS.iload X13.here hx rfl (hb hby at_84) rfl z_) ?_
      show OWay p e below G T13 (mkF m 86 #[.val (.int p0), .val (.int p1), .val (.long q2), .second, .val (.int v4_1), .val (.int v5_2), .val (.int v6_4), .val (.int v7_6), .val (.ref b7), .val (.long v9_15), .second] [(.int v6_4), (.long (q2 + v9_15))])
      refine ogo (fun _ z_ => XS.i2l X13.here hx rfl (hb hby at_86) rfl z_) ?_
      show OWay p e below G T13 (mkF m 87 #[.val (.int p0), .val (.int p1), .val (.long q2), .second, .val (.int v4_1), .val (.int v5_2), .val (.int v6_4), .val (.int v7_6), .val (.ref b7), .val (.long v9_15), .second] [(.long (v6_4.toInt64)), (.long (q2 + v9_15))])
      refine ogo (fun _ z_ => XS.lcmp X13.here hx rfl (hb hby at_87) rfl z_) ?_
      show OWay p e below G T13 (mkF m 88 #[.val (.int p0), .val (.int p1), .val (.long q2), .second, .val (.int v4_1), .val (.int v5_2), .val (.int v6_4), .val (.int v7_6), .val (.ref b7), .val (.long v9_15), .second] [(.int (lcmpW (q2 + v9_15) (v6_4.toInt64)))])
      refine ogo (fun _ z_ => XS.ifNo X13.here hx rfl (hb hby at_88) rfl ((if0 _ _).trans (teq ((lw_eq _ _).mpr (by rw [hv9_15]; exact (own_low q2 v6_4 v7_6 hnn c39 c70).2))).2) z_) ?_
      show OWay p e below G T13 (mkF m 91 #[.val (.int p0), .val (.int p1), .val (.long q2), .second, .val (.int v4_1), .val (.int v5_2), .val (.int v6_4), .val (.int v7_6), .val (.ref b7), .val (.long v9_15), .second] [])
      refine ogo (fun _ z_ => XS.iconst X13.here hx rfl (hb hby at_91) z_) ?_
      show OWay p e below G T13 (mkF m 92 #[.val (.int p0), .val (.int p1), .val (.long q2), .second, .val (.int v4_1), .val (.int v5_2), .val (.int v6_4), .val (.int v7_6), .val (.ref b7), .val (.long v9_15), .second] [(.int (1 : Int32))])
      refine ogo (fun _ z_ => XS.goto X13.here hx rfl (pc0 := 92) (pc' := 96) rfl (hb hby at_92) (by decide) (by decide) z_) ?_
      show OWay p e below G T13 (mkF m 96 #[.val (.int p0), .val (.int p1), .val (.long q2), .second, .val (.int v4_1), .val (.int v5_2), .val (.int v6_4), .val (.int v7_6), .val (.ref b7), .val (.long v9_15), .second] [(.int (1 : Int32))])
      subst hG
      refine wRetN X13 hx (t := .boolean) hret hlk (by simp) (hb hby at_96) (by decide) (by decide) eq13 ?_
      exact ⟨rfl, N13⟩
    · refine ogo (fun _ z_ => XS.ifYes X13.here hx rfl (pc0 := 70) (pc' := 97) rfl (hb hby at_70) rfl ((if0 _ _).trans (flt (fun q => c70 ((lw_lt _ _).mp q))).2.1) (by decide) (by decide) z_) ?_
      show OWay p e below G T13 (mkF m 97 #[.val (.int p0), .val (.int p1), .val (.long q2), .second, .val (.int v4_1), .val (.int v5_2), .val (.int v6_4), .val (.int v7_6), .val (.ref b7), .val (.long v9_15), .second] [])
      refine ogo (fun _ z_ => XS.lloadN X13.here hx rfl (hb hby at_97) rfl z_) ?_
      show OWay p e below G T13 (mkF m 98 #[.val (.int p0), .val (.int p1), .val (.long q2), .second, .val (.int v4_1), .val (.int v5_2), .val (.int v6_4), .val (.int v7_6), .val (.ref b7), .val (.long v9_15), .second] [(.long q2)])
      refine ogo (fun _ z_ => XS.iload X13.here hx rfl (hb hby at_98) rfl z_) ?_
      show OWay p e below G T13 (mkF m 100 #[.val (.int p0), .val (.int p1), .val (.long q2), .second, .val (.int v4_1), .val (.int v5_2), .val (.int v6_4), .val (.int v7_6), .val (.ref b7), .val (.long v9_15), .second] [(.int v7_6), (.long q2)])
      refine ogo (fun _ z_ => XS.i2l X13.here hx rfl (hb hby at_100) rfl z_) ?_
      show OWay p e below G T13 (mkF m 101 #[.val (.int p0), .val (.int p1), .val (.long q2), .second, .val (.int v4_1), .val (.int v5_2), .val (.int v6_4), .val (.int v7_6), .val (.ref b7), .val (.long v9_15), .second] [(.long (v7_6.toInt64)), (.long q2)])
      refine ogo (fun _ z_ => XS.lcmp X13.here hx rfl (hb hby at_101) rfl z_) ?_
      show OWay p e below G T13 (mkF m 102 #[.val (.int p0), .val (.int p1), .val (.long q2), .second, .val (.int v4_1), .val (.int v5_2), .val (.int v6_4), .val (.int v7_6), .val (.ref b7), .val (.long v9_15), .second] [(.int (lcmpW q2 (v7_6.toInt64)))])
      by_cases c102 : (v7_6.toInt64) < q2
      · refine ogo (fun _ z_ => XS.ifNo X13.here hx rfl (hb hby at_102) rfl ((if0 _ _).trans (tlt ((lw_gt _ _).mpr c102)).2.2.2) z_) ?_
        show OWay p e below G T13 (mkF m 105 #[.val (.int p0), .val (.int p1), .val (.long q2), .second, .val (.int v4_1), .val (.int v5_2), .val (.int v6_4), .val (.int v7_6), .val (.ref b7), .val (.long v9_15), .second] [])
        refine ogo (fun _ z_ => XS.lload X13.here hx rfl (hb hby at_105) rfl z_) ?_
        show OWay p e below G T13 (mkF m 107 #[.val (.int p0), .val (.int p1), .val (.long q2), .second, .val (.int v4_1), .val (.int v5_2), .val (.int v6_4), .val (.int v7_6), .val (.ref b7), .val (.long v9_15), .second] [(.long v9_15)])
        refine ogo (fun _ z_ => XS.lconst X13.here hx rfl (hb hby at_107) z_) ?_
        show OWay p e below G T13 (mkF m 108 #[.val (.int p0), .val (.int p1), .val (.long q2), .second, .val (.int v4_1), .val (.int v5_2), .val (.int v6_4), .val (.int v7_6), .val (.ref b7), .val (.long v9_15), .second] [(.long (0 : Int64)), (.long v9_15)])
        refine ogo (fun _ z_ => XS.lcmp X13.here hx rfl (hb hby at_108) rfl z_) ?_
        show OWay p e below G T13 (mkF m 109 #[.val (.int p0), .val (.int p1), .val (.long q2), .second, .val (.int v4_1), .val (.int v5_2), .val (.int v6_4), .val (.int v7_6), .val (.ref b7), .val (.long v9_15), .second] [(.int (lcmpW v9_15 (0 : Int64)))])
        refine ogo (fun _ z_ => XS.ifNo X13.here hx rfl (hb hby at_109) rfl ((if0 _ _).trans (tlt ((lw_gt _ _).mpr (by rw [hv9_15]; exact (own_high q2 v6_4 v7_6 (by omega) c70 c102).1))).2.2.2) z_) ?_
        show OWay p e below G T13 (mkF m 112 #[.val (.int p0), .val (.int p1), .val (.long q2), .second, .val (.int v4_1), .val (.int v5_2), .val (.int v6_4), .val (.int v7_6), .val (.ref b7), .val (.long v9_15), .second] [])
        refine ogo (fun _ z_ => XS.lloadN X13.here hx rfl (hb hby at_112) rfl z_) ?_
        show OWay p e below G T13 (mkF m 113 #[.val (.int p0), .val (.int p1), .val (.long q2), .second, .val (.int v4_1), .val (.int v5_2), .val (.int v6_4), .val (.int v7_6), .val (.ref b7), .val (.long v9_15), .second] [(.long q2)])
        refine ogo (fun _ z_ => XS.lload X13.here hx rfl (hb hby at_113) rfl z_) ?_
        show OWay p e below G T13 (mkF m 115 #[.val (.int p0), .val (.int p1), .val (.long q2), .second, .val (.int v4_1), .val (.int v5_2), .val (.int v6_4), .val (.int v7_6), .val (.ref b7), .val (.long v9_15), .second] [(.long v9_15), (.long q2)])
        refine ogo (fun _ z_ => XS.lsub X13.here hx rfl (hb hby at_115) rfl z_) ?_
        show OWay p e below G T13 (mkF m 116 #[.val (.int p0), .val (.int p1), .val (.long q2), .second, .val (.int v4_1), .val (.int v5_2), .val (.int v6_4), .val (.int v7_6), .val (.ref b7), .val (.long v9_15), .second] [(.long (q2 - v9_15))])
        refine ogo (fun _ z_ => XS.iload X13.here hx rfl (hb hby at_116) rfl z_) ?_
        show OWay p e below G T13 (mkF m 118 #[.val (.int p0), .val (.int p1), .val (.long q2), .second, .val (.int v4_1), .val (.int v5_2), .val (.int v6_4), .val (.int v7_6), .val (.ref b7), .val (.long v9_15), .second] [(.int v7_6), (.long (q2 - v9_15))])
        refine ogo (fun _ z_ => XS.i2l X13.here hx rfl (hb hby at_118) rfl z_) ?_
        show OWay p e below G T13 (mkF m 119 #[.val (.int p0), .val (.int p1), .val (.long q2), .second, .val (.int v4_1), .val (.int v5_2), .val (.int v6_4), .val (.int v7_6), .val (.ref b7), .val (.long v9_15), .second] [(.long (v7_6.toInt64)), (.long (q2 - v9_15))])
        refine ogo (fun _ z_ => XS.lcmp X13.here hx rfl (hb hby at_119) rfl z_) ?_
        show OWay p e below G T13 (mkF m 120 #[.val (.int p0), .val (.int p1), .val (.long q2), .second, .val (.int v4_1), .val (.int v5_2), .val (.int v6_4), .val (.int v7_6), .val (.ref b7), .val (.long v9_15), .second] [(.int (lcmpW (q2 - v9_15) (v7_6.toInt64)))])
        refine ogo (fun _ z_ => XS.ifNo X13.here hx rfl (hb hby at_120) rfl ((if0 _ _).trans (teq ((lw_eq _ _).mpr (by rw [hv9_15]; exact (own_high q2 v6_4 v7_6 (by omega) c70 c102).2))).2) z_) ?_
        show OWay p e below G T13 (mkF m 123 #[.val (.int p0), .val (.int p1), .val (.long q2), .second, .val (.int v4_1), .val (.int v5_2), .val (.int v6_4), .val (.int v7_6), .val (.ref b7), .val (.long v9_15), .second] [])
        refine ogo (fun _ z_ => XS.iconst X13.here hx rfl (hb hby at_123) z_) ?_
        show OWay p e below G T13 (mkF m 124 #[.val (.int p0), .val (.int p1), .val (.long q2), .second, .val (.int v4_1), .val (.int v5_2), .val (.int v6_4), .val (.int v7_6), .val (.ref b7), .val (.long v9_15), .second] [(.int (1 : Int32))])
        refine ogo (fun _ z_ => XS.goto X13.here hx rfl (pc0 := 124) (pc' := 128) rfl (hb hby at_124) (by decide) (by decide) z_) ?_
        show OWay p e below G T13 (mkF m 128 #[.val (.int p0), .val (.int p1), .val (.long q2), .second, .val (.int v4_1), .val (.int v5_2), .val (.int v6_4), .val (.int v7_6), .val (.ref b7), .val (.long v9_15), .second] [(.int (1 : Int32))])
        subst hG
        refine wRetN X13 hx (t := .boolean) hret hlk (by simp) (hb hby at_128) (by decide) (by decide) eq13 ?_
        exact ⟨rfl, N13⟩
      · refine ogo (fun _ z_ => XS.ifYes X13.here hx rfl (pc0 := 102) (pc' := 129) rfl (hb hby at_102) rfl ((if0 _ _).trans (flt (fun q => c102 ((lw_gt _ _).mp q))).2.2.2) (by decide) (by decide) z_) ?_
        show OWay p e below G T13 (mkF m 129 #[.val (.int p0), .val (.int p1), .val (.long q2), .second, .val (.int v4_1), .val (.int v5_2), .val (.int v6_4), .val (.int v7_6), .val (.ref b7), .val (.long v9_15), .second] [])
        refine ogo (fun _ z_ => XS.lload X13.here hx rfl (hb hby at_129) rfl z_) ?_
        show OWay p e below G T13 (mkF m 131 #[.val (.int p0), .val (.int p1), .val (.long q2), .second, .val (.int v4_1), .val (.int v5_2), .val (.int v6_4), .val (.int v7_6), .val (.ref b7), .val (.long v9_15), .second] [(.long v9_15)])
        refine ogo (fun _ z_ => XS.lconst X13.here hx rfl (hb hby at_131) z_) ?_
        show OWay p e below G T13 (mkF m 132 #[.val (.int p0), .val (.int p1), .val (.long q2), .second, .val (.int v4_1), .val (.int v5_2), .val (.int v6_4), .val (.int v7_6), .val (.ref b7), .val (.long v9_15), .second] [(.long (0 : Int64)), (.long v9_15)])
        refine ogo (fun _ z_ => XS.lcmp X13.here hx rfl (hb hby at_132) rfl z_) ?_
        show OWay p e below G T13 (mkF m 133 #[.val (.int p0), .val (.int p1), .val (.long q2), .second, .val (.int v4_1), .val (.int v5_2), .val (.int v6_4), .val (.int v7_6), .val (.ref b7), .val (.long v9_15), .second] [(.int (lcmpW v9_15 (0 : Int64)))])
        refine ogo (fun _ z_ => XS.ifNo X13.here hx rfl (hb hby at_133) rfl ((if0 _ _).trans (teq ((lw_eq _ _).mpr (by rw [hv9_15]; exact own_mid q2 v6_4 v7_6 c70 c102))).2) z_) ?_
        show OWay p e below G T13 (mkF m 136 #[.val (.int p0), .val (.int p1), .val (.long q2), .second, .val (.int v4_1), .val (.int v5_2), .val (.int v6_4), .val (.int v7_6), .val (.ref b7), .val (.long v9_15), .second] [])
        refine ogo (fun _ z_ => XS.iconst X13.here hx rfl (hb hby at_136) z_) ?_
        show OWay p e below G T13 (mkF m 137 #[.val (.int p0), .val (.int p1), .val (.long q2), .second, .val (.int v4_1), .val (.int v5_2), .val (.int v6_4), .val (.int v7_6), .val (.ref b7), .val (.long v9_15), .second] [(.int (1 : Int32))])
        refine ogo (fun _ z_ => XS.goto X13.here hx rfl (pc0 := 137) (pc' := 141) rfl (hb hby at_137) (by decide) (by decide) z_) ?_
        show OWay p e below G T13 (mkF m 141 #[.val (.int p0), .val (.int p1), .val (.long q2), .second, .val (.int v4_1), .val (.int v5_2), .val (.int v6_4), .val (.int v7_6), .val (.ref b7), .val (.long v9_15), .second] [(.int (1 : Int32))])
        subst hG
        refine wRetN X13 hx (t := .boolean) hret hlk (by simp) (hb hby at_141) (by decide) (by decide) eq13 ?_
        exact ⟨rfl, N13⟩
set_option maxRecDepth 65536 in
set_option maxHeartbeats 40000000 in
theorem comes_1 {Post : Tables → Env → Array Value → State → Outcome → State → Prop} (hpost : ∀ tb e args s v u, (limb_1_1.after args s (.returned v) u = true ∧ limb_1_2.after args s (.returned v) u = true ∧ True) → FrameEnd s (.returned v) u (Jvm.fieldLocs frame_1_writes args s ++ Jvm.arrayLocs frame_1_arrays args s ++ Jvm.staticLocs frame_1_statics s) 16 128 → Post tb e args s (.returned v) u) :
    ArmFor flags0 classFile x code maxLocals ret World_1 tables_1 room_1 Calls_1 rest_1 Pre_1 Post := by
  intro l hfl _ _ p e ha hc hk s m args below hf hA hF happ hP
  obtain ⟨hcalls, hrest, hpre⟩ := hP
  obtain ⟨-, -, -, hnamed, -, -, -, hat⟩ := (Spec.applies_iff hf).mp happ
  obtain ⟨hg, hn⟩ := and_e (Cond.before_iff.mp (show (Jvm.Cond.and given_1 narrow_1).before args s = true from hpre))
  obtain ⟨g1, g2⟩ := and_e hg
  obtain ⟨g3, g4⟩ := and_e g2
  obtain ⟨g5, g6⟩ := and_e g4
  obtain ⟨w0, w1, w2, rfl⟩ : ∃ w0 w1 w2 : Value, args = #[w0, w1, w2] := by
    have hs : args.size = 3 := by simpa [Cond.value, given_1] using g1
    obtain ⟨L⟩ := args
    match L, hs with
    | [w0, w1, w2], _ => exact ⟨w0, w1, w2, rfl⟩
  have hw := fun d (hd : d ∈ tables_1) => atoms_spec (ws := Jvm.Cond.code x code maxLocals ret :: tables_1) hat d (List.mem_cons_of_mem _ hd)
  have hfit : Fit s := fun {y c} hc i hi => by
    obtain ⟨ha, rfl⟩ := Array.getElem?_eq_some_iff.mp hc
    have q := List.all_eq_true.mp ((Array.all_eq_true_iff_forall_mem.mp hF) _ (Array.getElem_mem ha)) i (List.mem_range.mpr hi)
    simpa [Array.getElem?_eq_getElem hi] using q
  obtain ⟨i0, ei0⟩ := is_v g3
  obtain rfl : w0 = (.int i0) := Option.some.inj ei0
  obtain ⟨i1, ei1⟩ := is_v g5
  obtain rfl : w1 = (.int i1) := Option.some.inj ei1
  obtain ⟨i2, ei2⟩ := isL_v g6
  obtain rfl : w2 = (.long i2) := Option.some.inj ei2
  obtain ⟨n, o, h1, h2, h3, _, L, rfl, ⟨rfl, N⟩, hq⟩ := law_c l s _ hw tables_1 i0 i1 i2 s.heap s.heap.size (Nat.le_refl _) p e ha hc hk s m _ below hf ((Spec.applies_iff_loose hf).mp happ).1 ⟨rfl, State.Warmed39.refl s, rfl⟩ trivial
  refine ⟨n, _, h1, h2, h3, hpost _ _ _ _ _ _ ⟨Cond.after_iff.mpr rfl, Cond.after_iff.mpr (eq_i res_at (Term.int_eval (1)) rfl), trivial⟩ ⟨hq.1, hq.2.1, (hq.2.2.sift fun y hy => Or.inr (N y hy)).mono (by decide) (by decide)⟩⟩
theorem main_1_1 : Claimed_1_1 := comes_1 fun _ _ _ _ _ _ h hF => ⟨h.1, hF⟩
theorem main_1_2 : Claimed_1_2 := comes_1 fun _ _ _ _ _ _ h hF => ⟨h.2.1, hF⟩
end Jvm.Pilot.@@N@@
namespace Jvm.Pilot.@@N@@
open Jvm Jvm.ClassFile Sem Op Lib Jvm.Free Jvm.Stand Jvm.Pilot.@@N@@.Jvm.D
/-! MADE BY PROGRAM (witnessworld.py) out of the Statement's table words and the real class files: 11 classes; the members and pool entries that the words name. The judged class is class 1, her method 1. -/
namespace start1
open Jvm.ClassFile
def u (s : String) : CpInfo := .utf8 (stringToUtf16 s)
/-- a pool by its gaps: so many unusable entries, then the entry; so many at the end -/
def gap : Nat → List CpInfo → List CpInfo
  | 0, r => r
  | n + 1, r => .unusable :: gap n r
def poolList (es : List (Nat × CpInfo)) (last : Nat) : List CpInfo := es.foldr (fun e r => gap e.1 (e.2 :: r)) (gap last [])
def pool (es : List (Nat × CpInfo)) (last : Nat) : Array CpInfo := ⟨poolList es last⟩
def fileOf (pool : Array CpInfo) (this : Nat) (attrs : Array Attribute := #[]) (ms : Array MethodInfo := #[]) (fl : Nat := 33) (sup : Nat := 0) (ifs : Array Nat := #[]) (fds : Array FieldInfo := #[]) : ClassFile where
  minorVersion := 0
  majorVersion := 65
  constantPool := pool
  accessFlags := fl
  thisClass := this
  superClass := sup
  interfaces := ifs
  fields := fds
  methods := ms
  attributes := attrs
def plain (name : String) (sup : Option ClassId) : Class where
  name := name
  kind := .ordinary
  loader := none
  accessFlags := 33
  super := sup
  interfaces := #[]
  cf := none
  fields := #[]
  methods := #[]
  instanceTypes := #[]
  staticTypes := #[]
  resolved := #[]
  callSites := []
  init := .initialized
  statics := none
  mirror := none

def pool0 : Array CpInfo := pool [(5, u "<init>"), (0, u "()V"), (1, .class_ 10), (1, u "java/lang/Object")] 113

def k0c0 : Code := { maxStack := 0, maxLocals := 1, code := object_method_1_code, exceptionTable := #[], attributes := #[] }
def k0m0 : Method := { name := "<init>", desc := "()V", sig := { parameters := [], returnType := none }, accessFlags := 1, code := some k0c0 }
/-- java/lang/Object -/
def k0 : Class := { plain "java/lang/Object" none with
  accessFlags := 33
  interfaces := #[]
  cf := some (fileOf pool0 8 #[] #[{ accessFlags := 1, nameIndex := 5, descriptorIndex := 6, attributes := #[] }] 33 0 #[] #[])
  fields := #[]
  methods := #[k0m0]
  instanceTypes := #[]
  staticTypes := #[]
  resolved := Array.replicate 124 none
  statics := none }

def pool1 : Array CpInfo := pool [(2, .class_ 4), (1, u "java/lang/Object"), (0, u "<init>"), (0, u "()V"), (0, .integer 2147483647), (0, .methodref 9 10), (0, .class_ 11), (0, .nameAndType 12 13), (0, u "java/lang/Math"), (0, u "min"), (0, u "(II)I"), (0, .methodref 9 15), (0, .nameAndType 16 13), (0, u "max"), (2, .long 9223372036854775807), (1, .class_ 22), (0, u "com/example/slotwright/slotwright/Bounds"), (0, .methodref 21 24), (0, .nameAndType 5 25), (0, u "(II)V"), (0, .methodref 21 27), (0, .nameAndType 28 29), (0, u "deviation"), (0, u "(J)J"), (0, .class_ 31), (0, u "com/example/slotwright/slotwright/BoundsDeviationPinLaw"), (2, u "law"), (0, u "(IIJ)Z")] 3

def k1m0 : Method := { name := "<init>", desc := "()V", sig := { parameters := [], returnType := none }, accessFlags := 2, code := none }
def k1c1 : Code := { maxStack := 6, maxLocals := 11, code := code, exceptionTable := #[], attributes := #[] }
def k1m1 : Method := { name := "law", desc := "(IIJ)Z", sig := { parameters := [.int, .int, .long], returnType := some .boolean }, accessFlags := 9, code := some k1c1 }
/-- com/example/slotwright/slotwright/BoundsDeviationPinLaw -/
def k1 : Class := { plain "com/example/slotwright/slotwright/BoundsDeviationPinLaw" (some 0) with
  accessFlags := 49
  interfaces := #[]
  cf := some (fileOf pool1 30 #[] #[{ accessFlags := 2, nameIndex := 5, descriptorIndex := 6, attributes := #[] }, { accessFlags := 9, nameIndex := 34, descriptorIndex := 35, attributes := #[] }] 49 2 #[] #[])
  fields := #[]
  methods := #[k1m0, k1m1]
  instanceTypes := #[]
  staticTypes := #[]
  resolved := Array.replicate 39 none
  statics := none }

def pool2 : Array CpInfo := pool [(1, .class_ 2), (0, u "java/lang/Math"), (1, .class_ 6), (1, u "java/lang/Object"), (0, u "<init>"), (0, u "()V"), (89, .class_ 100), (1, u "java/lang/Math$RandomNumberGeneratorHolder"), (71, u "negativeZeroFloatBits"), (0, u "J"), (2, u "negativeZeroDoubleBits"), (21, u "max"), (2, u "min"), (43, u "$assertionsDisabled"), (0, u "Z"), (88, u "(II)I"), (2, u "twoToTheDoubleScaleDown"), (0, u "D"), (4, u "twoToTheDoubleScaleUp"), (9, u "E"), (3, u "PI"), (2, u "TAU"), (2, u "DEGREES_TO_RADIANS"), (0, u "RADIANS_TO_DEGREES")] 94

def k2m0 : Method := { name := "<init>", desc := "()V", sig := { parameters := [], returnType := none }, accessFlags := 2, code := none }
def k2c1 : Code := { maxStack := 2, maxLocals := 2, code := jdk_29_method_65_code, exceptionTable := #[], attributes := #[] }
def k2m1 : Method := { name := "max", desc := "(II)I", sig := { parameters := [.int, .int], returnType := some .int }, accessFlags := 9, code := some k2c1 }
def k2c2 : Code := { maxStack := 2, maxLocals := 2, code := jdk_29_method_69_code, exceptionTable := #[], attributes := #[] }
def k2m2 : Method := { name := "min", desc := "(II)I", sig := { parameters := [.int, .int], returnType := some .int }, accessFlags := 9, code := some k2c2 }
/-- java/lang/Math -/
def k2 : Class := { plain "java/lang/Math" (some 0) with
  accessFlags := 49
  interfaces := #[]
  cf := some (fileOf pool2 1 #[.nestMembers #[98]] #[{ accessFlags := 2, nameIndex := 7, descriptorIndex := 8, attributes := #[] }, { accessFlags := 9, nameIndex := 198, descriptorIndex := 335, attributes := #[] }, { accessFlags := 9, nameIndex := 201, descriptorIndex := 335, attributes := #[] }] 49 4 #[] #[{ accessFlags := 25, nameIndex := 354, descriptorIndex := 339, attributes := #[] }, { accessFlags := 25, nameIndex := 358, descriptorIndex := 339, attributes := #[] }, { accessFlags := 25, nameIndex := 361, descriptorIndex := 339, attributes := #[] }, { accessFlags := 26, nameIndex := 364, descriptorIndex := 339, attributes := #[] }, { accessFlags := 26, nameIndex := 365, descriptorIndex := 339, attributes := #[] }, { accessFlags := 26, nameIndex := 172, descriptorIndex := 173, attributes := #[] }, { accessFlags := 26, nameIndex := 176, descriptorIndex := 173, attributes := #[] }, { accessFlags := 8, nameIndex := 344, descriptorIndex := 339, attributes := #[] }, { accessFlags := 8, nameIndex := 338, descriptorIndex := 339, attributes := #[] }, { accessFlags := 4120, nameIndex := 245, descriptorIndex := 246, attributes := #[] }])
  fields := #[{ name := "E", type := .double, accessFlags := 25, slot := 0, constantValue := 0 }, { name := "PI", type := .double, accessFlags := 25, slot := 1, constantValue := 0 }, { name := "TAU", type := .double, accessFlags := 25, slot := 2, constantValue := 0 }, { name := "DEGREES_TO_RADIANS", type := .double, accessFlags := 26, slot := 3, constantValue := 0 }, { name := "RADIANS_TO_DEGREES", type := .double, accessFlags := 26, slot := 4, constantValue := 0 }, { name := "negativeZeroFloatBits", type := .long, accessFlags := 26, slot := 5, constantValue := 0 }, { name := "negativeZeroDoubleBits", type := .long, accessFlags := 26, slot := 6, constantValue := 0 }, { name := "twoToTheDoubleScaleUp", type := .double, accessFlags := 8, slot := 7, constantValue := 0 }, { name := "twoToTheDoubleScaleDown", type := .double, accessFlags := 8, slot := 8, constantValue := 0 }, { name := "$assertionsDisabled", type := .boolean, accessFlags := 4120, slot := 9, constantValue := 0 }]
  methods := #[k2m0, k2m1, k2m2]
  instanceTypes := #[]
  staticTypes := #[.double, .double, .double, .double, .double, .long, .long, .double, .double, .boolean]
  resolved := Array.replicate 460 none
  statics := none }

def pool3 : Array CpInfo := pool [(1, .methodref 2 3), (0, .class_ 4), (0, .nameAndType 5 6), (0, u "java/lang/Object"), (0, u "<init>"), (0, u "()V"), (0, .class_ 8), (0, u "java/lang/Record")] 13

def k3c0 : Code := { maxStack := 1, maxLocals := 1, code := jdk_30_method_1_code, exceptionTable := #[], attributes := #[] }
def k3m0 : Method := { name := "<init>", desc := "()V", sig := { parameters := [], returnType := none }, accessFlags := 4, code := some k3c0 }
/-- java/lang/Record -/
def k3 : Class := { plain "java/lang/Record" (some 0) with
  accessFlags := 1057
  interfaces := #[]
  cf := some (fileOf pool3 7 #[] #[{ accessFlags := 4, nameIndex := 5, descriptorIndex := 6, attributes := #[] }] 1057 2 #[] #[])
  fields := #[]
  methods := #[k3m0]
  instanceTypes := #[]
  staticTypes := #[]
  resolved := Array.replicate 22 none
  statics := none }

def pool4 : Array CpInfo := pool [(1, .methodref 2 3), (0, .class_ 4), (0, .nameAndType 5 6), (0, u "java/lang/Record"), (0, u "<init>"), (0, u "()V"), (0, .fieldref 8 9), (0, .class_ 10), (0, .nameAndType 11 12), (0, u "com/example/slotwright/slotwright/Bounds"), (0, u "minimum"), (0, u "I"), (0, .fieldref 8 14), (0, .nameAndType 15 12), (0, u "maximum"), (8, u "deviation"), (0, u "(J)J"), (15, u "(II)V")] 31

def k4c0 : Code := { maxStack := 2, maxLocals := 3, code := prog_13_method_1_code, exceptionTable := #[], attributes := #[] }
def k4m0 : Method := { name := "<init>", desc := "(II)V", sig := { parameters := [.int, .int], returnType := none }, accessFlags := 0, code := some k4c0 }
def k4c1 : Code := { maxStack := 4, maxLocals := 3, code := prog_13_method_3_code, exceptionTable := #[], attributes := #[] }
def k4m1 : Method := { name := "deviation", desc := "(J)J", sig := { parameters := [.long], returnType := some .long }, accessFlags := 0, code := some k4c1 }
/-- com/example/slotwright/slotwright/Bounds -/
def k4 : Class := { plain "com/example/slotwright/slotwright/Bounds" (some 3) with
  accessFlags := 48
  interfaces := #[]
  cf := some (fileOf pool4 8 #[] #[{ accessFlags := 0, nameIndex := 5, descriptorIndex := 41, attributes := #[] }, { accessFlags := 0, nameIndex := 24, descriptorIndex := 25, attributes := #[] }] 48 2 #[] #[{ accessFlags := 18, nameIndex := 11, descriptorIndex := 12, attributes := #[] }, { accessFlags := 18, nameIndex := 15, descriptorIndex := 12, attributes := #[] }])
  fields := #[{ name := "minimum", type := .int, accessFlags := 18, slot := 0, constantValue := 0 }, { name := "maximum", type := .int, accessFlags := 18, slot := 1, constantValue := 0 }]
  methods := #[k4m0, k4m1]
  instanceTypes := #[.int, .int]
  staticTypes := #[]
  resolved := Array.replicate 73 none
  statics := none }

def pool5 : Array CpInfo := pool [(1, u "java/lang/Cloneable"), (0, .class_ 1), (0, u "java/lang/Object"), (0, .class_ 3)] 3

/-- java/lang/Cloneable -/
def k5 : Class := { plain "java/lang/Cloneable" (some 0) with
  accessFlags := 1537
  interfaces := #[]
  cf := some (fileOf pool5 2 #[] #[] 1537 4 #[] #[])
  fields := #[]
  methods := #[]
  instanceTypes := #[]
  staticTypes := #[]
  resolved := Array.replicate 8 none
  statics := none }

def pool6 : Array CpInfo := pool [(1, u "java/io/Serializable"), (0, .class_ 1), (0, u "java/lang/Object"), (0, .class_ 3)] 3

/-- java/io/Serializable -/
def k6 : Class := { plain "java/io/Serializable" (some 0) with
  accessFlags := 1537
  interfaces := #[]
  cf := some (fileOf pool6 2 #[] #[] 1537 4 #[] #[])
  fields := #[]
  methods := #[]
  instanceTypes := #[]
  staticTypes := #[]
  resolved := Array.replicate 8 none
  statics := none }

/-- the primitive byte -/
def k7 : Class := { plain "byte" none with kind := .primitive 'B', accessFlags := 0x411 }
/-- [B -/
def k8 : Class := { plain "[B" (some 0) with kind := .array 7 .byte, interfaces := #[5, 6], accessFlags := 1041 }

/-- the primitive int -/
def k9 : Class := { plain "int" none with kind := .primitive 'I', accessFlags := 0x411 }
/-- [I -/
def k10 : Class := { plain "[I" (some 0) with kind := .array 9 .int, interfaces := #[5, 6], accessFlags := 1041 }

def heap : Heap := #[]
def classes : Array Class := #[k0, k1, k2, k3, k4, k5, k6, k7, k8, k9, k10]
def interned : List (Array UInt16 × Addr) := []
def slotsUsed : Nat := 0
def theMethod : MethodId := ⟨1, 1⟩
def args0 : Array Value := #[.int 3, .int 9, .long 5]
def aboutOver (below : List Frame) : State where
  vm := { classes := classes, interned := interned.toArray }
  heap := heap
  slotsUsed := slotsUsed
  threads := #[{ frames := .invoking theMethod args0 :: below }]
def below0 : List Frame := [.native { method := ⟨0, 0⟩, args := #[] }]
def about1 : State := aboutOver below0
def p0 : Program := .bare "" "" ""
def e0 : Env := launch0.env 0 0 0
theorem w_frames : about1.frames = Frame.invoking theMethod args0 :: below0 := rfl
set_option maxRecDepth 65536 in
theorem w_args : argsFit about1.vm theMethod args0 = true := by decide +kernel
set_option maxRecDepth 65536 in
theorem w_heap : heapFits about1 = true := by decide +kernel
set_option maxRecDepth 65536 in
theorem w_runnable : about1.curStatus? = some .runnable := by decide +kernel
set_option maxRecDepth 65536 in
theorem w_alone : about1.alone = true := by decide +kernel
set_option maxRecDepth 65536 in
theorem w_named : about1.methodNamed? x = some theMethod := by decide +kernel
set_option maxRecDepth 65536 in
theorem w_hears : about1.hears theMethod below0 = true := by decide +kernel
set_option maxRecDepth 65536 in
theorem w_ripe : about1.ripe theMethod args0 below0 = true := by decide +kernel
theorem w_running : about1.status = .running := rfl
set_option maxRecDepth 65536 in
theorem w_room : about1.hasRoom e0.platform room_1 = true :=
  launch0.hasRoom_least _ room_1 (by decide +kernel) (by decide +kernel) (by decide +kernel) (by decide +kernel) (by decide +kernel) (by decide +kernel)
theorem allAtoms_all (ts : List Jvm.Cond) (a : Array Jvm.Value) (st : Jvm.State) : (allAtoms ts).before a st = ts.all (fun c => c.before a st) := by
  induction ts with
  | nil => rfl
  | cons c t ih =>
    show (Jvm.Cond.and c (allAtoms t)).before a st = _
    rw [Jvm.Cond.before_and, ih, List.all_cons]
def words1 : List Jvm.Cond := Jvm.Cond.code x code maxLocals ret :: tables_1
/-- a 'code' word, met by the world's own term for the bytes: nothing is compared byte by byte -/
theorem code_word {y : MethodName} {bytes : ByteArray} {mx : Nat} {rt : Option FieldType} {a : Array Value} {s : State} {m : MethodId} {meth : Method} {c : Code} (h1 : s.methodNamed? y = some m) (h2 : s.vm.method? m = some meth) (h3 : meth.code = some c) (h4 : c.code = bytes)
    (h5 : (c.maxLocals == mx && c.exceptionTable.isEmpty && decide (c.maxStack ≤ mostOperands) && decide (meth.sig.returnType = rt) && !meth.locks && decide (parseMethodDescriptor y.desc = some meth.sig)) = true) : (Jvm.Cond.code y bytes mx rt).before a s = true := by
  simp only [Bool.and_eq_true, beq_iff_eq, Bool.not_eq_true', decide_eq_true_eq] at h5
  obtain ⟨⟨⟨⟨⟨g1, g2⟩, g3⟩, g4⟩, g5⟩, g6⟩ := h5
  simp [Cond.before, Cond.holds, Cond.value, h1, h2, h3, h4, g1, g2, g3, g4, g5, g6]
def isCode : Jvm.Cond → Bool
  | .code _ _ _ _ => true
  | _ => false
theorem all_split {L : List Jvm.Cond} {P : Jvm.Cond → Bool} (h1 : L.all (fun c => isCode c || P c) = true) (h2 : ∀ c ∈ L.filter isCode, P c = true) : L.all P = true := by
  refine List.all_eq_true.mpr fun c hc => ?_
  have h := List.all_eq_true.mp h1 c hc
  rcases Bool.eq_false_or_eq_true (isCode c) with hi | hi
  · exact h2 c (List.mem_filter.mpr ⟨hc, hi⟩)
  · simpa [hi] using h
set_option maxRecDepth 65536 in
theorem w_c0 : (Jvm.Cond.code x code maxLocals ret).before args0 about1 = true := code_word (m := ⟨1, 1⟩) (meth := k1m1) (c := k1c1) (by decide +kernel) rfl rfl rfl (by decide +kernel)
set_option maxRecDepth 65536 in
theorem w_c1 : (Jvm.Cond.code ({ cls := "java/lang/Math", name := "min", desc := "(II)I" } : Jvm.MethodName) jdk_29_method_69_code (2 : Nat) (Option.some Jvm.ClassFile.FieldType.int)).before args0 about1 = true := code_word (m := ⟨2, 2⟩) (meth := k2m2) (c := k2c2) (by decide +kernel) rfl rfl rfl (by decide +kernel)
set_option maxRecDepth 65536 in
theorem w_c2 : (Jvm.Cond.code ({ cls := "java/lang/Math", name := "max", desc := "(II)I" } : Jvm.MethodName) jdk_29_method_65_code (2 : Nat) (Option.some Jvm.ClassFile.FieldType.int)).before args0 about1 = true := code_word (m := ⟨2, 1⟩) (meth := k2m1) (c := k2c1) (by decide +kernel) rfl rfl rfl (by decide +kernel)
set_option maxRecDepth 65536 in
theorem w_c3 : (Jvm.Cond.code ({ cls := "com/example/slotwright/slotwright/Bounds", name := "<init>", desc := "(II)V" } : Jvm.MethodName) prog_13_method_1_code (3 : Nat) (Option.none : Option Jvm.ClassFile.FieldType)).before args0 about1 = true := code_word (m := ⟨4, 0⟩) (meth := k4m0) (c := k4c0) (by decide +kernel) rfl rfl rfl (by decide +kernel)
set_option maxRecDepth 65536 in
theorem w_c4 : (Jvm.Cond.code ({ cls := "java/lang/Record", name := "<init>", desc := "()V" } : Jvm.MethodName) jdk_30_method_1_code (1 : Nat) (Option.none : Option Jvm.ClassFile.FieldType)).before args0 about1 = true := code_word (m := ⟨3, 0⟩) (meth := k3m0) (c := k3c0) (by decide +kernel) rfl rfl rfl (by decide +kernel)
set_option maxRecDepth 65536 in
theorem w_c5 : (Jvm.Cond.code ({ cls := "java/lang/Object", name := "<init>", desc := "()V" } : Jvm.MethodName) object_method_1_code (1 : Nat) (Option.none : Option Jvm.ClassFile.FieldType)).before args0 about1 = true := code_word (m := ⟨0, 0⟩) (meth := k0m0) (c := k0c0) (by decide +kernel) rfl rfl rfl (by decide +kernel)
set_option maxRecDepth 65536 in
theorem w_c6 : (Jvm.Cond.code ({ cls := "com/example/slotwright/slotwright/Bounds", name := "deviation", desc := "(J)J" } : Jvm.MethodName) prog_13_method_3_code (3 : Nat) (Option.some Jvm.ClassFile.FieldType.long)).before args0 about1 = true := code_word (m := ⟨4, 1⟩) (meth := k4m1) (c := k4c1) (by decide +kernel) rfl rfl rfl (by decide +kernel)
def codes1 : List Jvm.Cond := [Jvm.Cond.code x code maxLocals ret, Jvm.Cond.code ({ cls := "java/lang/Math", name := "min", desc := "(II)I" } : Jvm.MethodName) jdk_29_method_69_code (2 : Nat) (Option.some Jvm.ClassFile.FieldType.int), Jvm.Cond.code ({ cls := "java/lang/Math", name := "max", desc := "(II)I" } : Jvm.MethodName) jdk_29_method_65_code (2 : Nat) (Option.some Jvm.ClassFile.FieldType.int), Jvm.Cond.code ({ cls := "com/example/slotwright/slotwright/Bounds", name := "<init>", desc := "(II)V" } : Jvm.MethodName) prog_13_method_1_code (3 : Nat) (Option.none : Option Jvm.ClassFile.FieldType), Jvm.Cond.code ({ cls := "java/lang/Record", name := "<init>", desc := "()V" } : Jvm.MethodName) jdk_30_method_1_code (1 : Nat) (Option.none : Option Jvm.ClassFile.FieldType), Jvm.Cond.code ({ cls := "java/lang/Object", name := "<init>", desc := "()V" } : Jvm.MethodName) object_method_1_code (1 : Nat) (Option.none : Option Jvm.ClassFile.FieldType), Jvm.Cond.code ({ cls := "com/example/slotwright/slotwright/Bounds", name := "deviation", desc := "(J)J" } : Jvm.MethodName) prog_13_method_3_code (3 : Nat) (Option.some Jvm.ClassFile.FieldType.long)]
set_option maxRecDepth 65536 in
theorem codes_eq : words1.filter isCode = codes1 := rfl
theorem w_codes : ∀ c ∈ words1.filter isCode, c.before args0 about1 = true := by
  rw [codes_eq]
  intro c hc
  simp only [codes1, List.mem_cons, List.not_mem_nil, or_false] at hc
  rcases hc with rfl | rfl | rfl | rfl | rfl | rfl | rfl
  · exact w_c0
  · exact w_c1
  · exact w_c2
  · exact w_c3
  · exact w_c4
  · exact w_c5
  · exact w_c6
set_option maxRecDepth 65536 in
theorem w_t1 : (words1.take 24).all (fun c => isCode c || c.before args0 about1) = true := by decide +kernel
set_option maxRecDepth 65536 in
theorem w_t2 : (words1.drop 24).all (fun c => isCode c || c.before args0 about1) = true := by decide +kernel
theorem w_tables : (allAtoms (Jvm.Cond.code x code maxLocals ret :: tables_1)).before args0 about1 = true := by
  rw [allAtoms_all]
  show words1.all (fun c => c.before args0 about1) = true
  refine all_split ?_ w_codes
  rw [← List.take_append_drop 24 words1, List.all_append, w_t1, w_t2]
  rfl
set_option maxRecDepth 65536 in
theorem w_case : (Jvm.Cond.and given_1 narrow_1).before args0 about1 = true := by decide +kernel
theorem w_applies : (headSpec (Jvm.Cond.code x code maxLocals ret :: tables_1) room_1).applies x e0.platform about1 = true :=
  (Spec.applies_iff w_frames).mpr ⟨w_running, w_runnable, w_alone, w_named, w_hears, w_ripe, w_room, w_tables⟩
theorem atStart : AtStart classFile x code maxLocals ret World_1 tables_1 room_1 Calls_1 rest_1 Pre_1 launch0 p0 e0 about1 theMethod args0 below0 :=
  ⟨lists_1, trivial, launch0.admits_env _ _ _, launch0.least_env, fairChoices_fair.cas, fairChoices_fair.clock, w_frames, w_args, w_heap, w_applies, trivial, trivial, w_case⟩
end start1
theorem witness_1 : WitnessClaimed_1 := ⟨start1.p0, start1.e0, start1.about1, start1.theMethod, start1.args0, start1.below0, start1.atStart⟩
end Jvm.Pilot.@@N@@
