import JvmDerived
import JvmDerived.Pilot.@@N@@Statement
import JvmDerived.Pilot.@@N@@Code
set_option linter.unusedVariables false
set_option linter.unusedSimpArgs false
namespace Jvm.Pilot.@@N@@
open Jvm Jvm.ClassFile Sem Op Lib Jvm.Free Jvm.Stand Jvm.LawKit Jvm.RoadKit Bundle Jvm.Pilot.@@N@@.Jvm.D
/-- from here the run comes to a state of which G holds -/
def OWay (p : Program) (e : Env) (below : List Frame) (G : State → Prop) (T : State) (g : JFrame) : Prop := ∃ t, Steps p.tables e below (T.setTop g) t ∧ G t
/-- how a body ends: it returned, with what Q says of its value, the heap and the places written -/
def OEnd (s : State) (below : List Frame) (Q : Option Value → Heap → List Loc → Prop) (cs sl : Nat) (t : State) : Prop := ∃ o, t.status = .running ∧ Ended t below o ∧ ∃ v L, o = .returned v ∧ Q v t.heap L ∧ FrameEnd s o t L cs sl
/-- a body's contract, as a call wants it -/
def OCon (l : Launch) (y : MethodName) (bytes : ByteArray) (maxL : Nat) (rt : Option FieldType) (ws : List Jvm.Cond) (rm : Room) (Z : State) (as' : Array Value) (h : Heap) (Q : Option Value → Heap → List Loc → Prop) : Prop :=
  MetFree l y (head1 (Jvm.Cond.code y bytes maxL rt :: ws) rm) (fun a U => a = as' ∧ Z.Warmed39 U.vm ∧ U.heap = h) (fun _ _ _ _ _ => True) (fun _ U o U' => ∃ v L, o = .returned v ∧ Q v U'.heap L ∧ FrameEnd U o U' L rm.cells rm.slots)
section Own
variable {p : Program} {l : Launch} {e : Env} {R : Room} {s : State} {m : MethodId} {args : Array Value} {below : List Frame} {meth : Method} {c : Code} {T T' : State} {locs : List Loc} {cells slots : Nat} {Z : State} {a0 : Array Value} {h : Heap} {G : State → Prop} {g g' : JFrame} {Q : Option Value → Heap → List Loc → Prop} {cs sl : Nat}
theorem ogo (q : ∀ t, Steps p.tables e below (T'.setTop g') t → Steps p.tables e below (T.setTop g) t) (w : OWay p e below G T' g') : OWay p e below G T g := by
  obtain ⟨t, h1, h2⟩ := w
  exact ⟨t, q t h1, h2⟩
theorem ogoS (q : Steps p.tables e below (T.setTop g) (T'.setTop g')) (w : OWay p e below G T' g') : OWay p e below G T g := ogo (fun _ k => q.trans k) w
theorem ogoE (q : g = g') (w : OWay p e below G T g') : OWay p e below G T g := q ▸ w
theorem ocon {y : MethodName} {bytes : ByteArray} {maxL : Nat} {rt : Option FieldType} {ws : List Jvm.Cond} {rm : Room} {as' : Array Value} (hp : plainFor y = true)
    (body : ∀ (p : Program) (e : Env) (s : State) (m : MethodId) (below : List Frame) (meth : Method) (c : Code) (s₁ : State), p.tables.exec = Jvm.exec → c.code = bytes → c.maxLocals = maxL → s.vm.findClass y.cls = some m.cls → meth.name = y.name → meth.sig.returnType = rt → meth.locks = false → Z.Warmed39 s.vm →
      Stand p l e rm s m as' below meth c s₁ [] 0 0 → s₁.heap = h → OWay p e below (OEnd s below Q rm.cells rm.slots) s₁ (entryFrame m as' maxL)) : OCon l y bytes maxL rt ws rm Z as' h Q := by
  refine MetFree.of_bodySF hp hisR ?_
  intro p e s m args below meth c s₁ Bd hml0 hP hK
  obtain ⟨rfl, hZ, hh⟩ := hP
  obtain ⟨t, h1, o, h2, h3, h4⟩ := body p e s m below meth c s₁ Bd.exec Bd.bytes hml0 (findClass_of_methodNamed Bd.named) (name_of_methodNamed Bd.named Bd.method).1 Bd.returns Bd.notSynchronized hZ (Stand.of_body Bd) (by rw [← hh, Bd.state]; rfl)
  exact ⟨t, o, h1, h2, h3, h4⟩
theorem wRetN (X : Stand p l e R s m args below meth c T locs cells slots) (hx : p.tables.exec = Jvm.exec) {pc : Nat} {Ls : Array Slot} {z : Int32} {t : FieldType} {rest : List Value} (hret : meth.sig.returnType = some t) (hlk : meth.locks = false) (ht : t = .boolean ∨ t = .byte ∨ t = .char ∨ t = .short)
    (hd : decode c.code pc = .ok (.ireturn, 1)) (hc : cells ≤ cs) (hs : slots ≤ sl) (eT : T.heap = h) (hq : Q (some (.int (nar t z))) h locs) : OWay p e below (OEnd s below Q cs sl) T (mkF m pc Ls (.int z :: rest)) := by
  obtain ⟨fs, hr, hrun, hended, hW, hsame⟩ := X.leave (v := some (.int (nar t z))) (fun q => by rw [hret] at q; cases q) hlk
  exact ⟨_, retN X hx hret ht hd hr, _, hrun, hended, _, _, rfl, by subst eT; exact hq, ⟨_, rfl⟩, hW, hsame.mono hc hs⟩
theorem wRet (X : Stand p l e R s m args below meth c T locs cells slots) (hx : p.tables.exec = Jvm.exec) {pc : Nat} {Ls : Array Slot} {w : Value} {t : FieldType} {i : Instr} {rest : List Value} (hret : meth.sig.returnType = some t) (hlk : meth.locks = false) (hn : narrow t w = w)
    (hi : (i = .ireturn ∧ (t = .int ∨ t = .boolean ∨ t = .byte ∨ t = .char ∨ t = .short) ∧ ∃ z, w = .int z) ∨ (i = .lreturn ∧ t = .long ∧ ∃ z, w = .long z) ∨ (i = .dreturn ∧ t = .double ∧ ∃ z, w = .double z) ∨ (i = .freturn ∧ t = .float ∧ ∃ z, w = .float z) ∨ (i = .areturn ∧ t.isReference = true ∧ w.isRef = true))
    (hd : decode c.code pc = .ok (i, 1)) (hc : cells ≤ cs) (hs : slots ≤ sl) (eT : T.heap = h) (hq : Q (some w) h locs) : OWay p e below (OEnd s below Q cs sl) T (mkF m pc Ls (w :: rest)) := by
  obtain ⟨fs, hr, hrun, hended, hW, hsame⟩ := X.leave (v := some w) (fun q => by rw [hret] at q; cases q) hlk
  exact ⟨_, retOut X hx hret hn hi hd hr, _, hrun, hended, _, _, rfl, by subst eT; exact hq, ⟨_, rfl⟩, hW, hsame.mono hc hs⟩
theorem wRetV (X : Stand p l e R s m args below meth c T locs cells slots) (hx : p.tables.exec = Jvm.exec) {pc : Nat} {Ls : Array Slot} (hret : meth.sig.returnType = none) (hlk : meth.locks = false)
    (hd : decode c.code pc = .ok (.return_, 1)) (hc : cells ≤ cs) (hs : slots ≤ sl) (eT : T.heap = h) (hq : Q none h locs) : OWay p e below (OEnd s below Q cs sl) T (mkF m pc Ls []) := by
  obtain ⟨fs, hr, hrun, hended, hW, hsame⟩ := X.leave (v := none) (fun _ => rfl) hlk
  exact ⟨_, X.returnOut hx hret hd hr, _, hrun, hended, _, _, rfl, by subst eT; exact hq, ⟨_, rfl⟩, hW, hsame.mono hc hs⟩
theorem wStatic (X : Stand p l e R s m args below meth c T locs cells slots) (hx : p.tables.exec = Jvm.exec) (hZ : Z.Warmed39 s.vm) {own : String} {index : Nat} {y : MethodName} {bytes : ByteArray} {maxL : Nat} {rt : Option FieldType} {rm : Room} {as' : Array Value} (hown : s.vm.findClass own = some m.cls)
    (w1 : (Jvm.Cond.methodLink own index y).before a0 Z = true) (w2 : (Jvm.Cond.static y).before a0 Z = true) (w3 : (Jvm.Cond.initialized y.cls).before a0 Z = true) (w4 : (Jvm.Cond.code y bytes maxL rt).before a0 Z = true) (hy : y.cls ≠ "java/lang/invoke/MethodHandle" ∧ y.cls ≠ "java/lang/invoke/VarHandle")
    (hM : OCon l y bytes maxL rt [] rm Z as' h Q) (W : Nat) (hf : rm.frames + 1 ≤ R.frames) (hl : W + (maxL + 11) + rm.locals ≤ R.locals) {g : JFrame} (hg : g.method = m) (hsize : g.locals.size = c.maxLocals) {argsL rest : List Value} (hlen : ∀ sig, parseMethodDescriptor y.desc = some sig → argsL.length = sig.parameters.length)
    (hstack : g.stack = argsL.reverse ++ rest) (hW : 2 * g.monitorRoom + (rest.map fun v => v.category).sum ≤ W) (hd : decode c.code g.pc = .ok (.invokestatic index, 3)) (has : argsL.toArray = as') (eT : T.heap = h) (hc : cells + rm.cells ≤ R.cells) (hs : slots + rm.slots ≤ R.slots) :
    ∃ (v : Option Value) (T' : State) (L : List Loc), Stand p l e R s m args below meth c T' (locs ++ L) (cells + rm.cells) (slots + rm.slots) ∧ Q v T'.heap L ∧ ∀ target, Steps p.tables e below (T'.setTop { g with pc := g.pc + 3, stack := v.toList ++ rest }) target → Steps p.tables e below (T.setTop g) target := by
  obtain ⟨v, _, ⟨T1, L1, k1, n1⟩, -, X1, ⟨Lc, hQ, l1, y1, z1⟩, st⟩ := Jvm.LawKit.callS X hx (y := y) hown (mvT hZ w1) (mvT hZ w2) (mvT hZ w3) (mvT hZ w4) hy (backOf (W := W) hM hZ w4 w3 hf hl) (g := g) hg hsize (argsL := argsL) (rest := rest) hlen hstack hW hd (fun _ _ => ⟨has, eT, hc, hs⟩)
  dsimp only [Pt.U, Pt.locs, Pt.cells, Pt.slots] at X1 l1 y1 z1 st hQ
  subst l1 y1 z1
  exact ⟨v, T1, Lc, X1, hQ, st⟩
theorem wInit (X : Stand p l e R s m args below meth c T locs cells slots) (hx : p.tables.exec = Jvm.exec) (hZ : Z.Warmed39 s.vm) {own : String} {index : Nat} {y : MethodName} {bytes : ByteArray} {maxL : Nat} {rm : Room} {as' : Array Value} (hy1 : y.name = "<init>") (hown : s.vm.findClass own = some m.cls)
    (w1 : (Jvm.Cond.methodLink own index y).before a0 Z = true) (w2 : (Jvm.Cond.instanceMethod y).before a0 Z = true) (w3 : (Jvm.Cond.initialized y.cls).before a0 Z = true) (w4 : (Jvm.Cond.code y bytes maxL none).before a0 Z = true) (hy : y.cls ≠ "java/lang/invoke/MethodHandle" ∧ y.cls ≠ "java/lang/invoke/VarHandle")
    (hM : OCon l y bytes maxL none [] rm Z as' h Q) (W : Nat) (hf : rm.frames + 1 ≤ R.frames) (hl : W + (maxL + 11) + rm.locals ≤ R.locals) {g : JFrame} (hg : g.method = m) (hsize : g.locals.size = c.maxLocals) {a : Addr} {argsL rest : List Value} (hlen : ∀ sig, parseMethodDescriptor y.desc = some sig → argsL.length = sig.parameters.length)
    (hstack : g.stack = argsL.reverse ++ .ref a :: rest) (hW : 2 * g.monitorRoom + (rest.map fun v => v.category).sum ≤ W) (hd : decode c.code g.pc = .ok (.invokespecial index, 3)) (has : (.ref a :: argsL).toArray = as') (eT : T.heap = h) (hc : cells + rm.cells ≤ R.cells) (hs : slots + rm.slots ≤ R.slots) :
    ∃ (v : Option Value) (T' : State) (L : List Loc), Stand p l e R s m args below meth c T' (locs ++ L) (cells + rm.cells) (slots + rm.slots) ∧ Q v T'.heap L ∧ Steps p.tables e below (T.setTop g) (T'.setTop { g with pc := g.pc + 3, stack := v.toList ++ rest }) := by
  obtain ⟨v, _, ⟨T1, L1, k1, n1⟩, -, X1, ⟨Lc, hQ, l1, y1, z1⟩, st⟩ := X.specialBack hx (y := y) hy1 hown (mvT hZ w1) (mvT hZ w2) (mvT hZ w4) hy (backOf (W := W) hM hZ w4 w3 hf hl) (g := g) hg hsize (Steps.refl _) (a := a) (argsL := argsL) (rest := rest) hlen hstack hW hd (fun _ _ => ⟨has, eT, hc, hs⟩)
  dsimp only [Pt.U, Pt.locs, Pt.cells, Pt.slots] at X1 l1 y1 z1 st hQ
  subst l1 y1 z1
  exact ⟨v, T1, Lc, X1, hQ, st⟩
theorem wVirtual (X : Stand p l e R s m args below meth c T locs cells slots) (hx : p.tables.exec = Jvm.exec) (hZ : Z.Warmed39 s.vm) {own C : String} {index : Nat} {y z : MethodName} {bytes : ByteArray} {maxL : Nat} {rt : Option FieldType} {rm : Room} {as' : Array Value} (hown : s.vm.findClass own = some m.cls)
    (w1 : (Jvm.Cond.methodLink own index y).before a0 Z = true) (w2 : (Jvm.Cond.declares y).before a0 Z = true) (nf : NotFace s y) (w5 : (Jvm.Cond.selects C y z).before a0 Z = true) (w6 : (Jvm.Cond.instanceMethod z).before a0 Z = true) (w3 : (Jvm.Cond.initialized z.cls).before a0 Z = true) (w4 : (Jvm.Cond.code z bytes maxL rt).before a0 Z = true)
    (hy : y.cls ≠ "java/lang/invoke/MethodHandle" ∧ y.cls ≠ "java/lang/invoke/VarHandle") (hM : OCon l z bytes maxL rt [] rm Z as' h Q) (W : Nat) (hf : rm.frames + 1 ≤ R.frames) (hl : W + (maxL + 11) + rm.locals ≤ R.locals) {b : Addr} (E : Exa Z h b C) {g : JFrame} (hg : g.method = m) (hsize : g.locals.size = c.maxLocals) {argsL rest : List Value} (hlen : ∀ sig, parseMethodDescriptor y.desc = some sig → argsL.length = sig.parameters.length)
    (hstack : g.stack = argsL.reverse ++ .ref b :: rest) (hW : 2 * g.monitorRoom + (rest.map fun v => v.category).sum ≤ W) (hd : decode c.code g.pc = .ok (.invokevirtual index, 3)) (has : (.ref b :: argsL).toArray = as') (eT : T.heap = h) (hc : cells + rm.cells ≤ R.cells) (hs : slots + rm.slots ≤ R.slots) :
    ∃ (v : Option Value) (T' : State) (L : List Loc), Stand p l e R s m args below meth c T' (locs ++ L) (cells + rm.cells) (slots + rm.slots) ∧ Q v T'.heap L ∧ Steps p.tables e below (T.setTop g) (T'.setTop { g with pc := g.pc + 3, stack := v.toList ++ rest }) := by
  obtain ⟨cq, kq, qa, qb, qc⟩ := isOf hZ eT E
  obtain ⟨v, _, ⟨T1, L1, k1, n1⟩, -, X1, ⟨Lc, hQ, l1, y1, z1⟩, st⟩ := X.virtualBack hx (y := y) (z := z) hown (mvT hZ w1) (mvT hZ w2) nf (mvT hZ w5) (mvT hZ w6) hy (backOf (W := W) hM hZ w4 w3 hf hl) qa qc (g := g) hg hsize (Steps.refl _) (argsL := argsL) (rest := rest) hlen hstack hW hd (fun _ _ => ⟨has, eT, hc, hs⟩)
  dsimp only [Pt.U, Pt.locs, Pt.cells, Pt.slots] at X1 l1 y1 z1 st hQ
  subst l1 y1 z1
  exact ⟨v, T1, Lc, X1, hQ, st⟩
end Own
end Jvm.Pilot.@@N@@
namespace Jvm.Pilot.@@N@@
open Jvm Jvm.ClassFile Sem Op Lib Jvm.Free Jvm.Stand Jvm.LawKit Jvm.RoadKit Bundle Jvm.Pilot.@@N@@.Jvm.D
def alw (n : Int64) (mn mx : Int32) : Int32 := if n < mn.toInt64 then 0 else if mx.toInt64 < n then 0 else 1
theorem own_lo (mn mx : Int32) : alw mn.toInt64 mn mx = (if mx < mn then 0 else 1) := by
  have i1 := c_i2l mn
  have i2 := c_i2l mx
  unfold alw
  simp only [Int64.lt_iff_toInt_lt, Int32.lt_iff_toInt_lt, i1, i2, Int.lt_irrefl, if_false]
theorem own_hi (mn mx : Int32) : alw mx.toInt64 mn mx = (if mx < mn then 0 else 1) := by
  have i1 := c_i2l mn
  have i2 := c_i2l mx
  unfold alw
  simp only [Int64.lt_iff_toInt_lt, Int32.lt_iff_toInt_lt, i1, i2, Int.lt_irrefl, if_false]
theorem own_lo1 (mn mx : Int32) : alw (mn.toInt64 - 1) mn mx = 0 := by
  have i1 := c_i2l mn
  have r := rng32 mn
  have e1 : (1 : Int64).toInt = 1 := by decide
  have c1 := c_lsub mn.toInt64 1
  have r1 := rng64 (mn.toInt64 - 1)
  unfold alw
  rw [if_pos (by rw [Int64.lt_iff_toInt_lt]; omega)]
theorem own_hi1 (mn mx : Int32) : alw (mx.toInt64 + 1) mn mx = 0 := by
  have i1 := c_i2l mx
  have r := rng32 mx
  have e1 : (1 : Int64).toInt = 1 := by decide
  have c1 := c_ladd mx.toInt64 1
  have r1 := rng64 (mx.toInt64 + 1)
  unfold alw
  by_cases q : mx.toInt64 + 1 < mn.toInt64
  · rw [if_pos q]
  · rw [if_neg q, if_pos (by rw [Int64.lt_iff_toInt_lt]; omega)]
theorem own_no (n : Int64) (mn mx : Int32) (h : mx < mn) : alw n mn mx = 0 := by
  have i1 := c_i2l mn
  have i2 := c_i2l mx
  unfold alw
  rw [Int32.lt_iff_toInt_lt] at h
  by_cases q : n < mn.toInt64
  · rw [if_pos q]
  · rw [Int64.lt_iff_toInt_lt] at q
    rw [if_neg (by rw [Int64.lt_iff_toInt_lt]; exact q), if_pos (by rw [Int64.lt_iff_toInt_lt]; omega)]
theorem own_yes (n : Int64) (mn mx : Int32) (h : ¬ mx < mn) : alw n mn mx = (if (if mx.toInt64 < (if n < mn.toInt64 then mn.toInt64 else n) then mx.toInt64 else (if n < mn.toInt64 then mn.toInt64 else n)) = n then 1 else 0) := by
  have i1 := c_i2l mn
  have i2 := c_i2l mx
  unfold alw
  rw [Int32.lt_iff_toInt_lt] at h
  by_cases q : n < mn.toInt64
  · have r : ¬ mx.toInt64 < mn.toInt64 := by rw [Int64.lt_iff_toInt_lt]; omega
    simp only [if_pos q, if_neg r]
    rw [if_neg]
    rw [← Int64.toInt_inj]
    rw [Int64.lt_iff_toInt_lt] at q
    omega
  · simp only [if_neg q]
    by_cases r : mx.toInt64 < n
    · simp only [if_pos r]
      rw [if_neg]
      rw [← Int64.toInt_inj]
      rw [Int64.lt_iff_toInt_lt] at r
      omega
    · simp only [if_neg r, if_true]
def lmax (a b : Int64) : Int64 := if a < b then b else a
theorem d4_0 : decode jdk_29_method_66_code 0 = .ok (.lload_n 0, 1) := by decide +kernel
theorem d4_1 : decode jdk_29_method_66_code 1 = .ok (.lload_n 2, 1) := by decide +kernel
theorem d4_2 : decode jdk_29_method_66_code 2 = .ok (.lcmp, 1) := by decide +kernel
theorem d4_3 : decode jdk_29_method_66_code 3 = .ok (.ifCond .lt 7, 3) := by decide +kernel
theorem d4_10 : decode jdk_29_method_66_code 10 = .ok (.lload_n 2, 1) := by decide +kernel
theorem d4_11 : decode jdk_29_method_66_code 11 = .ok (.lreturn, 1) := by decide +kernel
theorem d4_6 : decode jdk_29_method_66_code 6 = .ok (.lload_n 0, 1) := by decide +kernel
theorem d4_7 : decode jdk_29_method_66_code 7 = .ok (.goto 4, 3) := by decide +kernel
def lmax_b_rm : Room := { frames := 0, cells := 0, slots := 0, locals := 0 }
def lmax_b_Q (Z : State) (q0 : Int64) (q1 : Int64) (h0 : Heap) (n0 : Nat) (v : Option Value) (h : Heap) (L : List Loc) : Prop := (v = some (.long (lmax q0 q1))) ∧ (Fr n0 L) ∧ (h = h0)
theorem lmax_b_ef (m : MethodId) (q0 : Int64) (q1 : Int64) : entryFrame m #[(.long q0), (.long q1)] 4 = mkF m 0 #[.val (.long q0), .second, .val (.long q1), .second] [] := by first | (simp [entryFrame, mkF, argsToLocals, Value.category]; done) | rfl
set_option maxRecDepth 65536 in
set_option maxHeartbeats 40000000 in
theorem lmax_b_c (l : Launch) (Z : State) (az : Array Value) (hw : ∀ d ∈ tables_1, d.before az Z = true) (ws : List Jvm.Cond) (q0 : Int64) (q1 : Int64) (h0 : Heap) (n0 : Nat) (Z0 : n0 ≤ h0.size) :
    OCon l (⟨"java/lang/Math", "max", "(JJ)J"⟩ : MethodName) jdk_29_method_66_code 4 (some .long) ws lmax_b_rm Z #[(.long q0), (.long q1)] h0 (lmax_b_Q Z q0 q1 h0 n0) := by
  refine ocon (Jvm.Free.JP.mathPlain rfl (by decide +kernel)) ?_
  intro p e s m below meth c s₁ hx hby hml hown hnm hret hlk hZ X0 eh0
  have N0 := Fr.nil n0
  have K0 := Keep.refl h0 []
  refine ogoE (lmax_b_ef m q0 q1) ?_
  generalize hG : (OEnd s below (lmax_b_Q Z q0 q1 h0 n0) lmax_b_rm.cells lmax_b_rm.slots) = G
  show OWay p e below G s₁ (mkF m 0 #[.val (.long q0), .second, .val (.long q1), .second] [])
  refine ogo (fun _ z_ => XS.lloadN X0.here hx rfl (hb hby d4_0) rfl z_) ?_
  show OWay p e below G s₁ (mkF m 1 #[.val (.long q0), .second, .val (.long q1), .second] [(.long q0)])
  refine ogo (fun _ z_ => XS.lloadN X0.here hx rfl (hb hby d4_1) rfl z_) ?_
  show OWay p e below G s₁ (mkF m 2 #[.val (.long q0), .second, .val (.long q1), .second] [(.long q1), (.long q0)])
  refine ogo (fun _ z_ => XS.lcmp X0.here hx rfl (hb hby d4_2) rfl z_) ?_
  show OWay p e below G s₁ (mkF m 3 #[.val (.long q0), .second, .val (.long q1), .second] [(.int (lcmpW q0 q1))])
  by_cases c3 : q0 < q1
  · refine ogo (fun _ z_ => XS.ifYes X0.here hx rfl (pc0 := 3) (pc' := 10) rfl (hb hby d4_3) rfl ((if0 _ _).trans (tlt ((lw_lt _ _).mpr c3)).1) (by decide) (by decide) z_) ?_
    show OWay p e below G s₁ (mkF m 10 #[.val (.long q0), .second, .val (.long q1), .second] [])
    refine ogo (fun _ z_ => XS.lloadN X0.here hx rfl (hb hby d4_10) rfl z_) ?_
    show OWay p e below G s₁ (mkF m 11 #[.val (.long q0), .second, .val (.long q1), .second] [(.long q1)])
    subst hG
    refine wRet X0 hx hret hlk rfl (Or.inr (Or.inl ⟨rfl, rfl, _, rfl⟩)) (hb hby d4_11) (by decide) (by decide) eh0 ?_
    exact ⟨(congrArg some (congrArg Value.long (show _ = lmax q0 q1 from by unfold lmax; rw [if_pos c3]))), N0, rfl⟩
  · refine ogo (fun _ z_ => XS.ifNo X0.here hx rfl (hb hby d4_3) rfl ((if0 _ _).trans (flt (fun q => c3 ((lw_lt _ _).mp q))).1) z_) ?_
    show OWay p e below G s₁ (mkF m 6 #[.val (.long q0), .second, .val (.long q1), .second] [])
    refine ogo (fun _ z_ => XS.lloadN X0.here hx rfl (hb hby d4_6) rfl z_) ?_
    show OWay p e below G s₁ (mkF m 7 #[.val (.long q0), .second, .val (.long q1), .second] [(.long q0)])
    refine ogo (fun _ z_ => XS.goto X0.here hx rfl (pc0 := 7) (pc' := 11) rfl (hb hby d4_7) (by decide) (by decide) z_) ?_
    show OWay p e below G s₁ (mkF m 11 #[.val (.long q0), .second, .val (.long q1), .second] [(.long q0)])
    subst hG
    refine wRet X0 hx hret hlk rfl (Or.inr (Or.inl ⟨rfl, rfl, _, rfl⟩)) (hb hby d4_11) (by decide) (by decide) eh0 ?_
    exact ⟨(congrArg some (congrArg Value.long (show _ = lmax q0 q1 from by unfold lmax; rw [if_neg c3]))), N0, rfl⟩
def lmin (a b : Int64) : Int64 := if b < a then b else a
theorem d5_0 : decode jdk_29_method_70_code 0 = .ok (.lload_n 0, 1) := by decide +kernel
theorem d5_1 : decode jdk_29_method_70_code 1 = .ok (.lload_n 2, 1) := by decide +kernel
theorem d5_2 : decode jdk_29_method_70_code 2 = .ok (.lcmp, 1) := by decide +kernel
theorem d5_3 : decode jdk_29_method_70_code 3 = .ok (.ifCond .gt 7, 3) := by decide +kernel
theorem d5_10 : decode jdk_29_method_70_code 10 = .ok (.lload_n 2, 1) := by decide +kernel
theorem d5_11 : decode jdk_29_method_70_code 11 = .ok (.lreturn, 1) := by decide +kernel
theorem d5_6 : decode jdk_29_method_70_code 6 = .ok (.lload_n 0, 1) := by decide +kernel
theorem d5_7 : decode jdk_29_method_70_code 7 = .ok (.goto 4, 3) := by decide +kernel
def lmin_b_rm : Room := { frames := 0, cells := 0, slots := 0, locals := 0 }
def lmin_b_Q (Z : State) (q0 : Int64) (q1 : Int64) (h0 : Heap) (n0 : Nat) (v : Option Value) (h : Heap) (L : List Loc) : Prop := (v = some (.long (lmin q0 q1))) ∧ (Fr n0 L) ∧ (h = h0)
theorem lmin_b_ef (m : MethodId) (q0 : Int64) (q1 : Int64) : entryFrame m #[(.long q0), (.long q1)] 4 = mkF m 0 #[.val (.long q0), .second, .val (.long q1), .second] [] := by first | (simp [entryFrame, mkF, argsToLocals, Value.category]; done) | rfl
set_option maxRecDepth 65536 in
set_option maxHeartbeats 40000000 in
theorem lmin_b_c (l : Launch) (Z : State) (az : Array Value) (hw : ∀ d ∈ tables_1, d.before az Z = true) (ws : List Jvm.Cond) (q0 : Int64) (q1 : Int64) (h0 : Heap) (n0 : Nat) (Z0 : n0 ≤ h0.size) :
    OCon l (⟨"java/lang/Math", "min", "(JJ)J"⟩ : MethodName) jdk_29_method_70_code 4 (some .long) ws lmin_b_rm Z #[(.long q0), (.long q1)] h0 (lmin_b_Q Z q0 q1 h0 n0) := by
  refine ocon (Jvm.Free.JP.mathPlain rfl (by decide +kernel)) ?_
  intro p e s m below meth c s₁ hx hby hml hown hnm hret hlk hZ X0 eh0
  have N0 := Fr.nil n0
  have K0 := Keep.refl h0 []
  refine ogoE (lmin_b_ef m q0 q1) ?_
  generalize hG : (OEnd s below (lmin_b_Q Z q0 q1 h0 n0) lmin_b_rm.cells lmin_b_rm.slots) = G
  show OWay p e below G s₁ (mkF m 0 #[.val (.long q0), .second, .val (.long q1), .second] [])
  refine ogo (fun _ z_ => XS.lloadN X0.here hx rfl (hb hby d5_0) rfl z_) ?_
  show OWay p e below G s₁ (mkF m 1 #[.val (.long q0), .second, .val (.long q1), .second] [(.long q0)])
  refine ogo (fun _ z_ => XS.lloadN X0.here hx rfl (hb hby d5_1) rfl z_) ?_
  show OWay p e below G s₁ (mkF m 2 #[.val (.long q0), .second, .val (.long q1), .second] [(.long q1), (.long q0)])
  refine ogo (fun _ z_ => XS.lcmp X0.here hx rfl (hb hby d5_2) rfl z_) ?_
  show OWay p e below G s₁ (mkF m 3 #[.val (.long q0), .second, .val (.long q1), .second] [(.int (lcmpW q0 q1))])
  by_cases c3 : q1 < q0
  · refine ogo (fun _ z_ => XS.ifYes X0.here hx rfl (pc0 := 3) (pc' := 10) rfl (hb hby d5_3) rfl ((if0 _ _).trans (tlt ((lw_gt _ _).mpr c3)).2.2.1) (by decide) (by decide) z_) ?_
    show OWay p e below G s₁ (mkF m 10 #[.val (.long q0), .second, .val (.long q1), .second] [])
    refine ogo (fun _ z_ => XS.lloadN X0.here hx rfl (hb hby d5_10) rfl z_) ?_
    show OWay p e below G s₁ (mkF m 11 #[.val (.long q0), .second, .val (.long q1), .second] [(.long q1)])
    subst hG
    refine wRet X0 hx hret hlk rfl (Or.inr (Or.inl ⟨rfl, rfl, _, rfl⟩)) (hb hby d5_11) (by decide) (by decide) eh0 ?_
    exact ⟨(congrArg some (congrArg Value.long (show _ = lmin q0 q1 from by unfold lmin; rw [if_pos c3]))), N0, rfl⟩
  · refine ogo (fun _ z_ => XS.ifNo X0.here hx rfl (hb hby d5_3) rfl ((if0 _ _).trans (flt (fun q => c3 ((lw_gt _ _).mp q))).2.2.1) z_) ?_
    show OWay p e below G s₁ (mkF m 6 #[.val (.long q0), .second, .val (.long q1), .second] [])
    refine ogo (fun _ z_ => XS.lloadN X0.here hx rfl (hb hby d5_6) rfl z_) ?_
    show OWay p e below G s₁ (mkF m 7 #[.val (.long q0), .second, .val (.long q1), .second] [(.long q0)])
    refine ogo (fun _ z_ => XS.goto X0.here hx rfl (pc0 := 7) (pc' := 11) rfl (hb hby d5_7) (by decide) (by decide) z_) ?_
    show OWay p e below G s₁ (mkF m 11 #[.val (.long q0), .second, .val (.long q1), .second] [(.long q0)])
    subst hG
    refine wRet X0 hx hret hlk rfl (Or.inr (Or.inl ⟨rfl, rfl, _, rfl⟩)) (hb hby d5_11) (by decide) (by decide) eh0 ?_
    exact ⟨(congrArg some (congrArg Value.long (show _ = lmin q0 q1 from by unfold lmin; rw [if_neg c3]))), N0, rfl⟩
theorem pn_java_lang_Record : plainName "java/lang/Record" = true := by first | (simp [plainName, overriddenIn]; done) | decide +kernel
theorem d2_0 : decode jdk_30_method_1_code 0 = .ok (.aload_n 0, 1) := by decide +kernel
theorem d2_1 : decode jdk_30_method_1_code 1 = .ok (.invokespecial 1, 3) := by decide +kernel
theorem d2_4 : decode jdk_30_method_1_code 4 = .ok (.return_, 1) := by decide +kernel
def recinit_rm : Room := { frames := 1, cells := 0, slots := 0, locals := 12 }
def recinit_Q (Z : State) (a0 : Addr) (h0 : Heap) (n0 : Nat) (v : Option Value) (h : Heap) (L : List Loc) : Prop := (v = none) ∧ (Fr n0 L) ∧ (h = h0)
theorem recinit_ef (m : MethodId) (a0 : Addr) : entryFrame m #[(.ref a0)] 1 = mkF m 0 #[.val (.ref a0)] [] := by first | (simp [entryFrame, mkF, argsToLocals, Value.category]; done) | rfl
set_option maxRecDepth 65536 in
set_option maxHeartbeats 40000000 in
theorem recinit_c (l : Launch) (Z : State) (az : Array Value) (hw : ∀ d ∈ tables_1, d.before az Z = true) (ws : List Jvm.Cond) (a0 : Addr) (h0 : Heap) (n0 : Nat) (Z0 : n0 ≤ h0.size) :
    OCon l (⟨"java/lang/Record", "<init>", "()V"⟩ : MethodName) jdk_30_method_1_code 1 none ws recinit_rm Z #[(.ref a0)] h0 (recinit_Q Z a0 h0 n0) := by
  refine ocon (plainFor_of_name pn_java_lang_Record) ?_
  intro p e s m below meth c s₁ hx hby hml hown hnm hret hlk hZ X0 eh0
  have N0 := Fr.nil n0
  have K0 := Keep.refl h0 []
  refine ogoE (recinit_ef m a0) ?_
  generalize hG : (OEnd s below (recinit_Q Z a0 h0 n0) recinit_rm.cells recinit_rm.slots) = G
  show OWay p e below G s₁ (mkF m 0 #[.val (.ref a0)] [])
  refine ogo (fun _ z_ => XS.aloadN X0.here hx rfl (hb hby d2_0) rfl rfl z_) ?_
  show OWay p e below G s₁ (mkF m 1 #[.val (.ref a0)] [(.ref a0)])
  obtain ⟨T1, X1, eT1, st1⟩ := initO X0 hx hZ hown (hw _ (List.mem_of_getElem? (i := 12) rfl)) (hw _ (List.mem_of_getElem? (i := 13) rfl)) (hw _ (List.mem_of_getElem? (i := 14) rfl)) eh0 (g := (mkF m 1 #[.val (.ref a0)] [(.ref a0)])) rfl (by rw [hml]; rfl) rfl (hb hby d2_1) (by decide) (W := 0) (by show 2 * 0 + _ ≤ _; exact Nat.le_of_eq rfl) (by decide)
  refine ogo st1 ?_
  show OWay p e below G T1 (mkF m 4 #[.val (.ref a0)] [])
  subst hG
  refine wRetV X1 hx hret hlk (hb hby d2_4) (by decide) (by decide) eT1 ?_
  exact ⟨rfl, N0, rfl⟩
theorem pn_com_example_slotwright_slotwright_Bounds : plainName "com/example/slotwright/slotwright/Bounds" = true := by first | (simp [plainName, overriddenIn]; done) | decide +kernel
theorem d1_0 : decode prog_13_method_1_code 0 = .ok (.aload_n 0, 1) := by decide +kernel
theorem d1_1 : decode prog_13_method_1_code 1 = .ok (.invokespecial 1, 3) := by decide +kernel
theorem pd___V : parseMethodDescriptor "()V" = some ⟨[], none⟩ := by decide +kernel
theorem d1_4 : decode prog_13_method_1_code 4 = .ok (.aload_n 0, 1) := by decide +kernel
theorem d1_5 : decode prog_13_method_1_code 5 = .ok (.iload_n 1, 1) := by decide +kernel
theorem d1_6 : decode prog_13_method_1_code 6 = .ok (.putfield 7, 3) := by decide +kernel
theorem d1_9 : decode prog_13_method_1_code 9 = .ok (.aload_n 0, 1) := by decide +kernel
theorem d1_10 : decode prog_13_method_1_code 10 = .ok (.iload_n 2, 1) := by decide +kernel
theorem d1_11 : decode prog_13_method_1_code 11 = .ok (.putfield 13, 3) := by decide +kernel
theorem d1_14 : decode prog_13_method_1_code 14 = .ok (.return_, 1) := by decide +kernel
def ctor1_rm : Room := { frames := 2, cells := 0, slots := 0, locals := 24 }
def ctor1_Q (Z : State) (a0 : Addr) (p1 : Int32) (p2 : Int32) (h0 : Heap) (n0 : Nat) (v : Option Value) (h : Heap) (L : List Loc) : Prop := (v = none) ∧ (Fr n0 L) ∧ (Keep h0 h [a0]) ∧ (Fld Z h a0 "com/example/slotwright/slotwright/Bounds" "minimum" "I" (.int p1)) ∧ (Fld Z h a0 "com/example/slotwright/slotwright/Bounds" "maximum" "I" (.int p2))
theorem ctor1_ef (m : MethodId) (a0 : Addr) (p1 : Int32) (p2 : Int32) : entryFrame m #[(.ref a0), (.int p1), (.int p2)] 3 = mkF m 0 #[.val (.ref a0), .val (.int p1), .val (.int p2)] [] := by first | (simp [entryFrame, mkF, argsToLocals, Value.category]; done) | rfl
set_option maxRecDepth 65536 in
set_option maxHeartbeats 40000000 in
theorem ctor1_c (l : Launch) (Z : State) (az : Array Value) (hw : ∀ d ∈ tables_1, d.before az Z = true) (ws : List Jvm.Cond) (a0 : Addr) (p1 : Int32) (p2 : Int32) (h0 : Heap) (n0 : Nat) (Z0 : n0 ≤ h0.size) (hp0 : Exa Z h0 a0 "com/example/slotwright/slotwright/Bounds") (hp1 : n0 ≤ a0) (hp2 : Fld Z h0 a0 "com/example/slotwright/slotwright/Bounds" "minimum" "I" (.int (0 : Int32))) (hp3 : Fld Z h0 a0 "com/example/slotwright/slotwright/Bounds" "maximum" "I" (.int (0 : Int32))) :
    OCon l (⟨"com/example/slotwright/slotwright/Bounds", "<init>", "(II)V"⟩ : MethodName) prog_13_method_1_code 3 none ws ctor1_rm Z #[(.ref a0), (.int p1), (.int p2)] h0 (ctor1_Q Z a0 p1 p2 h0 n0) := by
  refine ocon (plainFor_of_name pn_com_example_slotwright_slotwright_Bounds) ?_
  intro p e s m below meth c s₁ hx hby hml hown hnm hret hlk hZ X0 eh0
  have N0 := Fr.nil n0
  have K0 := Keep.refl h0 [a0]
  refine ogoE (ctor1_ef m a0 p1 p2) ?_
  have g_a0 := hp1
  generalize hG : (OEnd s below (ctor1_Q Z a0 p1 p2 h0 n0) ctor1_rm.cells ctor1_rm.slots) = G
  show OWay p e below G s₁ (mkF m 0 #[.val (.ref a0), .val (.int p1), .val (.int p2)] [])
  refine ogo (fun _ z_ => XS.aloadN X0.here hx rfl (hb hby d1_0) rfl rfl z_) ?_
  show OWay p e below G s₁ (mkF m 1 #[.val (.ref a0), .val (.int p1), .val (.int p2)] [(.ref a0)])
  obtain ⟨_, T1, L1, X1, hQ1, st1⟩ := wInit X0 hx hZ (y := (⟨"java/lang/Record", "<init>", "()V"⟩ : MethodName)) rfl hown (hw _ (List.mem_of_getElem? (i := 7) rfl)) (hw _ (List.mem_of_getElem? (i := 8) rfl)) (hw _ (List.mem_of_getElem? (i := 10) rfl)) (hw _ (List.mem_of_getElem? (i := 11) rfl)) (by decide) (recinit_c l Z az hw [] a0 h0 n0 Z0) 0 (by decide) (by decide) (g := (mkF m 1 #[.val (.ref a0), .val (.int p1), .val (.int p2)] [(.ref a0)])) rfl (by rw [hml]; rfl) (a := a0) (argsL := []) (rest := []) (lenOf pd___V rfl) rfl (by show 2 * 0 + _ ≤ _; exact Nat.le_of_eq rfl) (hb hby d1_1) rfl eh0 (by decide) (by decide)
  obtain ⟨rfl, N1q, eq1⟩ := hQ1
  have N1 := Fr.app N0 N1q
  refine ogoS st1 ?_
  show OWay p e below G T1 (mkF m 4 #[.val (.ref a0), .val (.int p1), .val (.int p2)] [])
  refine ogo (fun _ z_ => XS.aloadN X1.here hx rfl (hb hby d1_4) rfl rfl z_) ?_
  show OWay p e below G T1 (mkF m 5 #[.val (.ref a0), .val (.int p1), .val (.int p2)] [(.ref a0)])
  refine ogo (fun _ z_ => XS.iloadN X1.here hx rfl (hb hby d1_5) rfl z_) ?_
  show OWay p e below G T1 (mkF m 6 #[.val (.ref a0), .val (.int p1), .val (.int p2)] [(.int p1), (.ref a0)])
  obtain ⟨T2, h2, X2, eT2, W2, st2⟩ := putF X1 hx hZ hown (host := "") (Or.inl (hw _ (List.mem_of_getElem? (i := 15) rfl))) Via.refl eq1 hp2 hp0 (Or.inr ⟨(hw _ (List.mem_of_getElem? (i := 16) rfl)), rfl, hnm⟩) (hw _ (List.mem_of_getElem? (i := 2) rfl)) (ty := .int) (by decide) rfl rfl (g := (mkF m 6 #[.val (.ref a0), .val (.int p1), .val (.int p2)] [(.int p1), (.ref a0)])) rfl rfl (hb hby d1_6)
  have K3 : Keep h0 h2 [a0] := K0.wr W2 (Or.inl (List.mem_of_getElem? (i := 0) rfl))
  have Fw2 : Fld Z h2 a0 "com/example/slotwright/slotwright/Bounds" "minimum" "I" (.int p1) := hp2.same W2
  have N2 := Fr.snoc X2 N1 g_a0
  refine ogo st2 ?_
  show OWay p e below G T2 (mkF m 9 #[.val (.ref a0), .val (.int p1), .val (.int p2)] [])
  refine ogo (fun _ z_ => XS.aloadN X2.here hx rfl (hb hby d1_9) rfl rfl z_) ?_
  show OWay p e below G T2 (mkF m 10 #[.val (.ref a0), .val (.int p1), .val (.int p2)] [(.ref a0)])
  refine ogo (fun _ z_ => XS.iloadN X2.here hx rfl (hb hby d1_10) rfl z_) ?_
  show OWay p e below G T2 (mkF m 11 #[.val (.ref a0), .val (.int p1), .val (.int p2)] [(.int p2), (.ref a0)])
  have F4 : Exa Z h2 a0 "com/example/slotwright/slotwright/Bounds" := (hp0.wr W2)
  have F5 : Fld Z h2 a0 "com/example/slotwright/slotwright/Bounds" "maximum" "I" (.int (0 : Int32)) := (hp3.other W2 (Or.inr (slot_ne (Or.inr (hw _ (List.mem_of_getElem? (i := 18) rfl))) (Or.inr (hw _ (List.mem_of_getElem? (i := 16) rfl))) (by decide) (t := .int) (t' := .int) (by decide) (by decide))))
  obtain ⟨T6, h6, X6, eT6, W6, st6⟩ := putF X2 hx hZ hown (host := "") (Or.inl (hw _ (List.mem_of_getElem? (i := 17) rfl))) Via.refl eT2 F5 F4 (Or.inr ⟨(hw _ (List.mem_of_getElem? (i := 18) rfl)), rfl, hnm⟩) (hw _ (List.mem_of_getElem? (i := 2) rfl)) (ty := .int) (by decide) rfl rfl (g := (mkF m 11 #[.val (.ref a0), .val (.int p1), .val (.int p2)] [(.int p2), (.ref a0)])) rfl rfl (hb hby d1_11)
  have K7 : Keep h0 h6 [a0] := K3.wr W6 (Or.inl (List.mem_of_getElem? (i := 0) rfl))
  have Fw6 : Fld Z h6 a0 "com/example/slotwright/slotwright/Bounds" "maximum" "I" (.int p2) := F5.same W6
  have N6 := Fr.snoc X6 N2 g_a0
  refine ogo st6 ?_
  show OWay p e below G T6 (mkF m 14 #[.val (.ref a0), .val (.int p1), .val (.int p2)] [])
  subst hG
  refine wRetV X6 hx hret hlk (hb hby d1_14) (by decide) (by decide) eT6 ?_
  exact ⟨rfl, N6, K7, (Fw2.other W6 (Or.inr (slot_ne (Or.inr (hw _ (List.mem_of_getElem? (i := 16) rfl))) (Or.inr (hw _ (List.mem_of_getElem? (i := 18) rfl))) (by decide) (t := .int) (t' := .int) (by decide) (by decide)))), Fw6⟩
theorem d6_0 : decode prog_13_method_2_code 0 = .ok (.lload_n 1, 1) := by decide +kernel
theorem d6_1 : decode prog_13_method_2_code 1 = .ok (.aload_n 0, 1) := by decide +kernel
theorem d6_2 : decode prog_13_method_2_code 2 = .ok (.getfield 7, 3) := by decide +kernel
theorem d6_5 : decode prog_13_method_2_code 5 = .ok (.i2l, 1) := by decide +kernel
theorem d6_6 : decode prog_13_method_2_code 6 = .ok (.lcmp, 1) := by decide +kernel
theorem d6_7 : decode prog_13_method_2_code 7 = .ok (.ifCond .lt 17, 3) := by decide +kernel
theorem d6_24 : decode prog_13_method_2_code 24 = .ok (.iconst 0, 1) := by decide +kernel
theorem d6_25 : decode prog_13_method_2_code 25 = .ok (.ireturn, 1) := by decide +kernel
theorem d6_10 : decode prog_13_method_2_code 10 = .ok (.lload_n 1, 1) := by decide +kernel
theorem d6_11 : decode prog_13_method_2_code 11 = .ok (.aload_n 0, 1) := by decide +kernel
theorem d6_12 : decode prog_13_method_2_code 12 = .ok (.getfield 13, 3) := by decide +kernel
theorem d6_15 : decode prog_13_method_2_code 15 = .ok (.i2l, 1) := by decide +kernel
theorem d6_16 : decode prog_13_method_2_code 16 = .ok (.lcmp, 1) := by decide +kernel
theorem d6_17 : decode prog_13_method_2_code 17 = .ok (.ifCond .gt 7, 3) := by decide +kernel
theorem d6_20 : decode prog_13_method_2_code 20 = .ok (.iconst 1, 1) := by decide +kernel
theorem d6_21 : decode prog_13_method_2_code 21 = .ok (.goto 4, 3) := by decide +kernel
def alw_b_rm : Room := { frames := 0, cells := 0, slots := 0, locals := 0 }
def alw_b_Q (Z : State) (a0 : Addr) (q1 : Int64) (w1 : Int32) (w2 : Int32) (h0 : Heap) (n0 : Nat) (v : Option Value) (h : Heap) (L : List Loc) : Prop := (v = some (.int (alw q1 w1 w2))) ∧ (Fr n0 L) ∧ (h = h0)
theorem alw_b_ef (m : MethodId) (a0 : Addr) (q1 : Int64) : entryFrame m #[(.ref a0), (.long q1)] 3 = mkF m 0 #[.val (.ref a0), .val (.long q1), .second] [] := by first | (simp [entryFrame, mkF, argsToLocals, Value.category]; done) | rfl
set_option maxRecDepth 65536 in
set_option maxHeartbeats 40000000 in
theorem alw_b_c (l : Launch) (Z : State) (az : Array Value) (hw : ∀ d ∈ tables_1, d.before az Z = true) (ws : List Jvm.Cond) (a0 : Addr) (q1 : Int64) (w1 : Int32) (w2 : Int32) (h0 : Heap) (n0 : Nat) (Z0 : n0 ≤ h0.size) (hp0 : Fld Z h0 a0 "com/example/slotwright/slotwright/Bounds" "minimum" "I" (.int w1)) (hp1 : Fld Z h0 a0 "com/example/slotwright/slotwright/Bounds" "maximum" "I" (.int w2)) :
    OCon l (⟨"com/example/slotwright/slotwright/Bounds", "allows", "(J)Z"⟩ : MethodName) prog_13_method_2_code 3 (some .boolean) ws alw_b_rm Z #[(.ref a0), (.long q1)] h0 (alw_b_Q Z a0 q1 w1 w2 h0 n0) := by
  refine ocon (plainFor_of_name pn_com_example_slotwright_slotwright_Bounds) ?_
  intro p e s m below meth c s₁ hx hby hml hown hnm hret hlk hZ X0 eh0
  have N0 := Fr.nil n0
  have K0 := Keep.refl h0 []
  refine ogoE (alw_b_ef m a0 q1) ?_
  generalize hG : (OEnd s below (alw_b_Q Z a0 q1 w1 w2 h0 n0) alw_b_rm.cells alw_b_rm.slots) = G
  show OWay p e below G s₁ (mkF m 0 #[.val (.ref a0), .val (.long q1), .second] [])
  refine ogo (fun _ z_ => XS.lloadN X0.here hx rfl (hb hby d6_0) rfl z_) ?_
  show OWay p e below G s₁ (mkF m 1 #[.val (.ref a0), .val (.long q1), .second] [(.long q1)])
  refine ogo (fun _ z_ => XS.aloadN X0.here hx rfl (hb hby d6_1) rfl rfl z_) ?_
  show OWay p e below G s₁ (mkF m 2 #[.val (.ref a0), .val (.long q1), .second] [(.ref a0), (.long q1)])
  obtain ⟨T1, X1, eT1, st1⟩ := getF X0 hx hZ hown (host := "") (Or.inl (hw _ (List.mem_of_getElem? (i := 15) rfl))) Via.refl eh0 hp0 (g := (mkF m 2 #[.val (.ref a0), .val (.long q1), .second] [(.ref a0), (.long q1)])) rfl rfl (hb hby d6_2)
  refine ogo st1 ?_
  show OWay p e below G T1 (mkF m 5 #[.val (.ref a0), .val (.long q1), .second] [(.int w1), (.long q1)])
  refine ogo (fun _ z_ => XS.i2l X1.here hx rfl (hb hby d6_5) rfl z_) ?_
  show OWay p e below G T1 (mkF m 6 #[.val (.ref a0), .val (.long q1), .second] [(.long (w1.toInt64)), (.long q1)])
  refine ogo (fun _ z_ => XS.lcmp X1.here hx rfl (hb hby d6_6) rfl z_) ?_
  show OWay p e below G T1 (mkF m 7 #[.val (.ref a0), .val (.long q1), .second] [(.int (lcmpW q1 (w1.toInt64)))])
  by_cases c7 : q1 < (w1.toInt64)
  · refine ogo (fun _ z_ => XS.ifYes X1.here hx rfl (pc0 := 7) (pc' := 24) rfl (hb hby d6_7) rfl ((if0 _ _).trans (tlt ((lw_lt _ _).mpr c7)).1) (by decide) (by decide) z_) ?_
    show OWay p e below G T1 (mkF m 24 #[.val (.ref a0), .val (.long q1), .second] [])
    refine ogo (fun _ z_ => XS.iconst X1.here hx rfl (hb hby d6_24) z_) ?_
    show OWay p e below G T1 (mkF m 25 #[.val (.ref a0), .val (.long q1), .second] [(.int (0 : Int32))])
    subst hG
    refine wRetN X1 hx (t := .boolean) hret hlk (by simp) (hb hby d6_25) (by decide) (by decide) eT1 ?_
    exact ⟨(congrArg some (congrArg Value.int (show _ = alw q1 w1 w2 from by unfold alw; rw [if_pos c7]; rfl))), N0, rfl⟩
  · refine ogo (fun _ z_ => XS.ifNo X1.here hx rfl (hb hby d6_7) rfl ((if0 _ _).trans (flt (fun q => c7 ((lw_lt _ _).mp q))).1) z_) ?_
    show OWay p e below G T1 (mkF m 10 #[.val (.ref a0), .val (.long q1), .second] [])
    refine ogo (fun _ z_ => XS.lloadN X1.here hx rfl (hb hby d6_10) rfl z_) ?_
    show OWay p e below G T1 (mkF m 11 #[.val (.ref a0), .val (.long q1), .second] [(.long q1)])
    refine ogo (fun _ z_ => XS.aloadN X1.here hx rfl (hb hby d6_11) rfl rfl z_) ?_
    show OWay p e below G T1 (mkF m 12 #[.val (.ref a0), .val (.long q1), .second] [(.ref a0), (.long q1)])
    obtain ⟨T2, X2, eT2, st2⟩ := getF X1 hx hZ hown (host := "") (Or.inl (hw _ (List.mem_of_getElem? (i := 17) rfl))) Via.refl eT1 hp1 (g := (mkF m 12 #[.val (.ref a0), .val (.long q1), .second] [(.ref a0), (.long q1)])) rfl rfl (hb hby d6_12)
    refine ogo st2 ?_
    show OWay p e below G T2 (mkF m 15 #[.val (.ref a0), .val (.long q1), .second] [(.int w2), (.long q1)])
    refine ogo (fun _ z_ => XS.i2l X2.here hx rfl (hb hby d6_15) rfl z_) ?_
    show OWay p e below G T2 (mkF m 16 #[.val (.ref a0), .val (.long q1), .second] [(.long (w2.toInt64)), (.long q1)])
    refine ogo (fun _ z_ => XS.lcmp X2.here hx rfl (hb hby d6_16) rfl z_) ?_
    show OWay p e below G T2 (mkF m 17 #[.val (.ref a0), .val (.long q1), .second] [(.int (lcmpW q1 (w2.toInt64)))])
    by_cases c17 : (w2.toInt64) < q1
    · refine ogo (fun _ z_ => XS.ifYes X2.here hx rfl (pc0 := 17) (pc' := 24) rfl (hb hby d6_17) rfl ((if0 _ _).trans (tlt ((lw_gt _ _).mpr c17)).2.2.1) (by decide) (by decide) z_) ?_
      show OWay p e below G T2 (mkF m 24 #[.val (.ref a0), .val (.long q1), .second] [])
      refine ogo (fun _ z_ => XS.iconst X2.here hx rfl (hb hby d6_24) z_) ?_
      show OWay p e below G T2 (mkF m 25 #[.val (.ref a0), .val (.long q1), .second] [(.int (0 : Int32))])
      subst hG
      refine wRetN X2 hx (t := .boolean) hret hlk (by simp) (hb hby d6_25) (by decide) (by decide) eT2 ?_
      exact ⟨(congrArg some (congrArg Value.int (show _ = alw q1 w1 w2 from by unfold alw; rw [if_neg c7, if_pos c17]; rfl))), N0, rfl⟩
    · refine ogo (fun _ z_ => XS.ifNo X2.here hx rfl (hb hby d6_17) rfl ((if0 _ _).trans (flt (fun q => c17 ((lw_gt _ _).mp q))).2.2.1) z_) ?_
      show OWay p e below G T2 (mkF m 20 #[.val (.ref a0), .val (.long q1), .second] [])
      refine ogo (fun _ z_ => XS.iconst X2.here hx rfl (hb hby d6_20) z_) ?_
      show OWay p e below G T2 (mkF m 21 #[.val (.ref a0), .val (.long q1), .second] [(.int (1 : Int32))])
      refine ogo (fun _ z_ => XS.goto X2.here hx rfl (pc0 := 21) (pc' := 25) rfl (hb hby d6_21) (by decide) (by decide) z_) ?_
      show OWay p e below G T2 (mkF m 25 #[.val (.ref a0), .val (.long q1), .second] [(.int (1 : Int32))])
      subst hG
      refine wRetN X2 hx (t := .boolean) hret hlk (by simp) (hb hby d6_25) (by decide) (by decide) eT2 ?_
      exact ⟨(congrArg some (congrArg Value.int (show _ = alw q1 w1 w2 from by unfold alw; rw [if_neg c7, if_neg c17]; rfl))), N0, rfl⟩
theorem pn_com_example_slotwright_slotwright_BoundsAllowsPinLaw : plainName "com/example/slotwright/slotwright/BoundsAllowsPinLaw" = true := by first | (simp [plainName, overriddenIn]; done) | decide +kernel
theorem pd__II_V : parseMethodDescriptor "(II)V" = some ⟨[.int, .int], none⟩ := by decide +kernel
theorem pd__J_Z : parseMethodDescriptor "(J)Z" = some ⟨[.long], some .boolean⟩ := by decide +kernel
theorem pd__JJ_J : parseMethodDescriptor "(JJ)J" = some ⟨[.long, .long], some .long⟩ := by decide +kernel
def law_Q (Z : State) (p0 : Int32) (p1 : Int32) (q2 : Int64) (p3 : Int32) (h0 : Heap) (n0 : Nat) (v : Option Value) (h : Heap) (L : List Loc) : Prop := v = some (.int 1) ∧ Fr n0 L
theorem law_ef (m : MethodId) (p0 : Int32) (p1 : Int32) (q2 : Int64) (p3 : Int32) : entryFrame m #[(.int p0), (.int p1), (.long q2), (.int p3)] maxLocals = mkF m 0 #[.val (.int p0), .val (.int p1), .val (.long q2), .second, .val (.int p3), .unset, .unset, .unset, .unset, .unset, .unset, .unset, .unset, .unset] [] := by first | (simp [entryFrame, mkF, argsToLocals, Value.category, maxLocals]; done) | rfl
set_option maxRecDepth 65536 in
set_option maxHeartbeats 40000000 in
theorem law_c (l : Launch) (Z : State) (az : Array Value) (hw : ∀ d ∈ tables_1, d.before az Z = true) (ws : List Jvm.Cond) (p0 : Int32) (p1 : Int32) (q2 : Int64) (p3 : Int32) (h0 : Heap) (n0 : Nat) (Z0 : n0 ≤ h0.size) :
    OCon l x code maxLocals ret ws room_1 Z #[(.int p0), (.int p1), (.long q2), (.int p3)] h0 (law_Q Z p0 p1 q2 p3 h0 n0) := by
  refine ocon (plainFor_of_name pn_com_example_slotwright_slotwright_BoundsAllowsPinLaw) ?_
  intro p e s m below meth c s₁ hx hby hml hown hnm hret hlk hZ X0 eh0
  have N0 := Fr.nil n0
  have K0 := Keep.refl h0 []
  refine ogoE (law_ef m p0 p1 q2 p3) ?_
  generalize hG : (OEnd s below (law_Q Z p0 p1 q2 p3 h0 n0) room_1.cells room_1.slots) = G
  show OWay p e below G s₁ (mkF m 0 #[.val (.int p0), .val (.int p1), .val (.long q2), .second, .val (.int p3), .unset, .unset, .unset, .unset, .unset, .unset, .unset, .unset, .unset] [])
  refine ogo (fun _ z_ => XS.iloadN X0.here hx rfl (hb hby at_0) rfl z_) ?_
  show OWay p e below G s₁ (mkF m 1 #[.val (.int p0), .val (.int p1), .val (.long q2), .second, .val (.int p3), .unset, .unset, .unset, .unset, .unset, .unset, .unset, .unset, .unset] [(.int p0)])
  refine ogo (fun _ z_ => X0.ldcInt hx hown (mvT hZ (hw _ (List.mem_of_getElem? (i := 0) rfl))) (g := (mkF m 1 #[.val (.int p0), .val (.int p1), .val (.long q2), .second, .val (.int p3), .unset, .unset, .unset, .unset, .unset, .unset, .unset, .unset, .unset] [(.int p0)])) rfl (hb hby at_1) _ z_) ?_
  show OWay p e below G s₁ (mkF m 3 #[.val (.int p0), .val (.int p1), .val (.long q2), .second, .val (.int p3), .unset, .unset, .unset, .unset, .unset, .unset, .unset, .unset, .unset] [(.int (2147483647 : Int32)), (.int p0)])
  refine ogo (fun _ z_ => XS.iand X0.here hx rfl (hb hby at_3) rfl z_) ?_
  show OWay p e below G s₁ (mkF m 4 #[.val (.int p0), .val (.int p1), .val (.long q2), .second, .val (.int p3), .unset, .unset, .unset, .unset, .unset, .unset, .unset, .unset, .unset] [(.int (p0 &&& (2147483647 : Int32)))])
  suffices Jv5_1 : ∀ v5_1 : Int32, v5_1 = (p0 &&& (2147483647 : Int32)) → OWay p e below G s₁ (mkF m 4 #[.val (.int p0), .val (.int p1), .val (.long q2), .second, .val (.int p3), .unset, .unset, .unset, .unset, .unset, .unset, .unset, .unset, .unset] [(.int v5_1)]) from Jv5_1 _ rfl
  intro v5_1 hv5_1
  refine ogo (fun _ z_ => XS.istore X0.here hx rfl (hb hby at_4) rfl (l' := #[.val (.int p0), .val (.int p1), .val (.long q2), .second, .val (.int p3), .val (.int v5_1), .unset, .unset, .unset, .unset, .unset, .unset, .unset, .unset]) rfl z_) ?_
  show OWay p e below G s₁ (mkF m 6 #[.val (.int p0), .val (.int p1), .val (.long q2), .second, .val (.int p3), .val (.int v5_1), .unset, .unset, .unset, .unset, .unset, .unset, .unset, .unset] [])
  refine ogo (fun _ z_ => XS.iload X0.here hx rfl (hb hby at_6) rfl z_) ?_
  show OWay p e below G s₁ (mkF m 8 #[.val (.int p0), .val (.int p1), .val (.long q2), .second, .val (.int p3), .val (.int v5_1), .unset, .unset, .unset, .unset, .unset, .unset, .unset, .unset] [(.int p3)])
  refine ogo (fun _ z_ => XS.iconst X0.here hx rfl (hb hby at_8) z_) ?_
  show OWay p e below G s₁ (mkF m 9 #[.val (.int p0), .val (.int p1), .val (.long q2), .second, .val (.int p3), .val (.int v5_1), .unset, .unset, .unset, .unset, .unset, .unset, .unset, .unset] [(.int (4 : Int32)), (.int p3)])
  refine ogo (fun _ z_ => XS.iand X0.here hx rfl (hb hby at_9) rfl z_) ?_
  show OWay p e below G s₁ (mkF m 10 #[.val (.int p0), .val (.int p1), .val (.long q2), .second, .val (.int p3), .val (.int v5_1), .unset, .unset, .unset, .unset, .unset, .unset, .unset, .unset] [(.int (p3 &&& (4 : Int32)))])
  have J3 : ∀ (us0_2 : Int32), us0_2 = (if (p3 &&& (4 : Int32)) = (0 : Int32) then (p1 &&& (2147483647 : Int32)) else v5_1) → OWay p e below G s₁ (mkF m 22 #[.val (.int p0), .val (.int p1), .val (.long q2), .second, .val (.int p3), .val (.int v5_1), .unset, .unset, .unset, .unset, .unset, .unset, .unset, .unset] [(.int us0_2)]) := by
    intro us0_2 hus0_2
    refine ogo (fun _ z_ => XS.istore X0.here hx rfl (hb hby at_22) rfl (l' := #[.val (.int p0), .val (.int p1), .val (.long q2), .second, .val (.int p3), .val (.int v5_1), .val (.int us0_2), .unset, .unset, .unset, .unset, .unset, .unset, .unset]) rfl z_) ?_
    show OWay p e below G s₁ (mkF m 24 #[.val (.int p0), .val (.int p1), .val (.long q2), .second, .val (.int p3), .val (.int v5_1), .val (.int us0_2), .unset, .unset, .unset, .unset, .unset, .unset, .unset] [])
    obtain ⟨T4, h4, X4, eT4, E4, A4, D4, -, st4⟩ := newO X0 hx hZ hown (hw _ (List.mem_of_getElem? (i := 1) rfl)) (hw _ (List.mem_of_getElem? (i := 2) rfl)) (hw _ (List.mem_of_getElem? (i := 3) rfl)) eh0 (g := (mkF m 24 #[.val (.int p0), .val (.int p1), .val (.long q2), .second, .val (.int p3), .val (.int v5_1), .val (.int us0_2), .unset, .unset, .unset, .unset, .unset, .unset, .unset] [])) rfl (hb hby at_24) (by decide) (by decide)
    obtain ⟨b4, g4⟩ : ∃ z, z = h0.size := ⟨_, rfl⟩
    rw [← g4] at A4 D4 st4
    have g_b4 : n0 ≤ b4 := Nat.le_trans Z0 (Nat.le_of_eq g4.symm)
    have sz_b4 : h0.size ≤ b4 := Nat.le_trans K0.1 (Nat.le_of_eq g4.symm)
    have K5 : Keep h0 h4 [] := K0.ext E4
    have F_minimum_b4 : Fld Z h4 b4 "com/example/slotwright/slotwright/Bounds" "minimum" "I" (.int (0 : Int32)) := D4 (Or.inr (hw _ (List.mem_of_getElem? (i := 16) rfl))) (ty := .int) (by decide)
    have F_maximum_b4 : Fld Z h4 b4 "com/example/slotwright/slotwright/Bounds" "maximum" "I" (.int (0 : Int32)) := D4 (Or.inr (hw _ (List.mem_of_getElem? (i := 18) rfl))) (ty := .int) (by decide)
    refine ogo st4 ?_
    show OWay p e below G T4 (mkF m 27 #[.val (.int p0), .val (.int p1), .val (.long q2), .second, .val (.int p3), .val (.int v5_1), .val (.int us0_2), .unset, .unset, .unset, .unset, .unset, .unset, .unset] [(.ref b4)])
    refine ogo (fun _ z_ => XS.dup X4.here hx rfl (hb hby at_27) rfl rfl z_) ?_
    show OWay p e below G T4 (mkF m 28 #[.val (.int p0), .val (.int p1), .val (.long q2), .second, .val (.int p3), .val (.int v5_1), .val (.int us0_2), .unset, .unset, .unset, .unset, .unset, .unset, .unset] [(.ref b4), (.ref b4)])
    refine ogo (fun _ z_ => XS.iload X4.here hx rfl (hb hby at_28) rfl z_) ?_
    show OWay p e below G T4 (mkF m 30 #[.val (.int p0), .val (.int p1), .val (.long q2), .second, .val (.int p3), .val (.int v5_1), .val (.int us0_2), .unset, .unset, .unset, .unset, .unset, .unset, .unset] [(.int v5_1), (.ref b4), (.ref b4)])
    refine ogo (fun _ z_ => XS.iload X4.here hx rfl (hb hby at_30) rfl z_) ?_
    show OWay p e below G T4 (mkF m 32 #[.val (.int p0), .val (.int p1), .val (.long q2), .second, .val (.int p3), .val (.int v5_1), .val (.int us0_2), .unset, .unset, .unset, .unset, .unset, .unset, .unset] [(.int us0_2), (.int v5_1), (.ref b4), (.ref b4)])
    obtain ⟨_, T6, L6, X6, hQ6, st6⟩ := wInit X4 hx hZ (y := (⟨"com/example/slotwright/slotwright/Bounds", "<init>", "(II)V"⟩ : MethodName)) rfl hown (hw _ (List.mem_of_getElem? (i := 4) rfl)) (hw _ (List.mem_of_getElem? (i := 5) rfl)) (hw _ (List.mem_of_getElem? (i := 3) rfl)) (hw _ (List.mem_of_getElem? (i := 6) rfl)) (by decide) (ctor1_c l Z az hw [] b4 v5_1 us0_2 h4 n0 (Nat.le_trans Z0 E4.1) A4 g_b4 F_minimum_b4 F_maximum_b4) 1 (by decide) (by decide) (g := (mkF m 32 #[.val (.int p0), .val (.int p1), .val (.long q2), .second, .val (.int p3), .val (.int v5_1), .val (.int us0_2), .unset, .unset, .unset, .unset, .unset, .unset, .unset] [(.int us0_2), (.int v5_1), (.ref b4), (.ref b4)])) rfl (by rw [hml]; rfl) (a := b4) (argsL := [(.int v5_1), (.int us0_2)]) (rest := [(.ref b4)]) (lenOf pd__II_V rfl) rfl (by show 2 * 0 + _ ≤ _; exact Nat.le_of_eq rfl) (hb hby at_32) rfl eT4 (by decide) (by decide)
    obtain ⟨rfl, N6q, Kq6, P7, P8⟩ := hQ6
    have N6 := Fr.app N0 N6q
    have K9 : Keep h0 T6.heap [] := K5.trans Kq6 (allS (Or.inr sz_b4) all0)
    refine ogoS st6 ?_
    show OWay p e below G T6 (mkF m 35 #[.val (.int p0), .val (.int p1), .val (.long q2), .second, .val (.int p3), .val (.int v5_1), .val (.int us0_2), .unset, .unset, .unset, .unset, .unset, .unset, .unset] [(.ref b4)])
    refine ogo (fun _ z_ => XS.astore X6.here hx rfl (hb hby at_35) rfl rfl (l' := #[.val (.int p0), .val (.int p1), .val (.long q2), .second, .val (.int p3), .val (.int v5_1), .val (.int us0_2), .val (.ref b4), .unset, .unset, .unset, .unset, .unset, .unset]) rfl z_) ?_
    show OWay p e below G T6 (mkF m 37 #[.val (.int p0), .val (.int p1), .val (.long q2), .second, .val (.int p3), .val (.int v5_1), .val (.int us0_2), .val (.ref b4), .unset, .unset, .unset, .unset, .unset, .unset] [])
    refine ogo (fun _ z_ => XS.iload X6.here hx rfl (hb hby at_37) rfl z_) ?_
    show OWay p e below G T6 (mkF m 39 #[.val (.int p0), .val (.int p1), .val (.long q2), .second, .val (.int p3), .val (.int v5_1), .val (.int us0_2), .val (.ref b4), .unset, .unset, .unset, .unset, .unset, .unset] [(.int p3)])
    refine ogo (fun _ z_ => XS.iconst X6.here hx rfl (hb hby at_39) z_) ?_
    show OWay p e below G T6 (mkF m 40 #[.val (.int p0), .val (.int p1), .val (.long q2), .second, .val (.int p3), .val (.int v5_1), .val (.int us0_2), .val (.ref b4), .unset, .unset, .unset, .unset, .unset, .unset] [(.int (3 : Int32)), (.int p3)])
    refine ogo (fun _ z_ => XS.iand X6.here hx rfl (hb hby at_40) rfl z_) ?_
    show OWay p e below G T6 (mkF m 41 #[.val (.int p0), .val (.int p1), .val (.long q2), .second, .val (.int p3), .val (.int v5_1), .val (.int us0_2), .val (.ref b4), .unset, .unset, .unset, .unset, .unset, .unset] [(.int (p3 &&& (3 : Int32)))])
    suffices Jv8_10 : ∀ v8_10 : Int32, v8_10 = (p3 &&& (3 : Int32)) → OWay p e below G T6 (mkF m 41 #[.val (.int p0), .val (.int p1), .val (.long q2), .second, .val (.int p3), .val (.int v5_1), .val (.int us0_2), .val (.ref b4), .unset, .unset, .unset, .unset, .unset, .unset] [(.int v8_10)]) from Jv8_10 _ rfl
    intro v8_10 hv8_10
    refine ogo (fun _ z_ => XS.istore X6.here hx rfl (hb hby at_41) rfl (l' := #[.val (.int p0), .val (.int p1), .val (.long q2), .second, .val (.int p3), .val (.int v5_1), .val (.int us0_2), .val (.ref b4), .val (.int v8_10), .unset, .unset, .unset, .unset, .unset]) rfl z_) ?_
    show OWay p e below G T6 (mkF m 43 #[.val (.int p0), .val (.int p1), .val (.long q2), .second, .val (.int p3), .val (.int v5_1), .val (.int us0_2), .val (.ref b4), .val (.int v8_10), .unset, .unset, .unset, .unset, .unset] [])
    refine ogo (fun _ z_ => XS.iload X6.here hx rfl (hb hby at_43) rfl z_) ?_
    show OWay p e below G T6 (mkF m 45 #[.val (.int p0), .val (.int p1), .val (.long q2), .second, .val (.int p3), .val (.int v5_1), .val (.int us0_2), .val (.ref b4), .val (.int v8_10), .unset, .unset, .unset, .unset, .unset] [(.int v8_10)])
    refine ogo (fun _ z_ => XS.iconst X6.here hx rfl (hb hby at_45) z_) ?_
    show OWay p e below G T6 (mkF m 46 #[.val (.int p0), .val (.int p1), .val (.long q2), .second, .val (.int p3), .val (.int v5_1), .val (.int us0_2), .val (.ref b4), .val (.int v8_10), .unset, .unset, .unset, .unset, .unset] [(.int (1 : Int32)), (.int v8_10)])
    have J12 : ∀ (u9_11 : Int64), u9_11 = (if v8_10 = (1 : Int32) then (((v5_1.toInt64) + (q2 &&& (3 : Int64))) - (2 : Int64)) else (if v8_10 = (2 : Int32) then (((us0_2.toInt64) + (q2 &&& (3 : Int64))) - (1 : Int64)) else q2)) → OWay p e below G T6 (mkF m 92 #[.val (.int p0), .val (.int p1), .val (.long q2), .second, .val (.int p3), .val (.int v5_1), .val (.int us0_2), .val (.ref b4), .val (.int v8_10), .val (.long u9_11), .second, .unset, .unset, .unset] []) := by
      intro u9_11 hu9_11
      refine ogo (fun _ z_ => XS.iload X6.here hx rfl (hb hby at_92) rfl z_) ?_
      show OWay p e below G T6 (mkF m 94 #[.val (.int p0), .val (.int p1), .val (.long q2), .second, .val (.int p3), .val (.int v5_1), .val (.int us0_2), .val (.ref b4), .val (.int v8_10), .val (.long u9_11), .second, .unset, .unset, .unset] [(.int v5_1)])
      refine ogo (fun _ z_ => XS.iload X6.here hx rfl (hb hby at_94) rfl z_) ?_
      show OWay p e below G T6 (mkF m 96 #[.val (.int p0), .val (.int p1), .val (.long q2), .second, .val (.int p3), .val (.int v5_1), .val (.int us0_2), .val (.ref b4), .val (.int v8_10), .val (.long u9_11), .second, .unset, .unset, .unset] [(.int us0_2), (.int v5_1)])
      have J14 : ∀ (us0_13 : Int32), us0_13 = (if us0_2 < v5_1 then (0 : Int32) else (1 : Int32)) → OWay p e below G T6 (mkF m 104 #[.val (.int p0), .val (.int p1), .val (.long q2), .second, .val (.int p3), .val (.int v5_1), .val (.int us0_2), .val (.ref b4), .val (.int v8_10), .val (.long u9_11), .second, .unset, .unset, .unset] [(.int us0_13)]) := by
        intro us0_13 hus0_13
        refine ogo (fun _ z_ => XS.istore X6.here hx rfl (hb hby at_104) rfl (l' := #[.val (.int p0), .val (.int p1), .val (.long q2), .second, .val (.int p3), .val (.int v5_1), .val (.int us0_2), .val (.ref b4), .val (.int v8_10), .val (.long u9_11), .second, .val (.int us0_13), .unset, .unset]) rfl z_) ?_
        show OWay p e below G T6 (mkF m 106 #[.val (.int p0), .val (.int p1), .val (.long q2), .second, .val (.int p3), .val (.int v5_1), .val (.int us0_2), .val (.ref b4), .val (.int v8_10), .val (.long u9_11), .second, .val (.int us0_13), .unset, .unset] [])
        refine ogo (fun _ z_ => XS.iload X6.here hx rfl (hb hby at_106) rfl z_) ?_
        show OWay p e below G T6 (mkF m 108 #[.val (.int p0), .val (.int p1), .val (.long q2), .second, .val (.int p3), .val (.int v5_1), .val (.int us0_2), .val (.ref b4), .val (.int v8_10), .val (.long u9_11), .second, .val (.int us0_13), .unset, .unset] [(.int us0_13)])
        by_cases c108 : us0_13 = (0 : Int32)
        · refine ogo (fun _ z_ => XS.ifYes X6.here hx rfl (pc0 := 108) (pc' := 135) rfl (hb hby at_108) rfl ((if0 _ _).trans (teq c108).1) (by decide) (by decide) z_) ?_
          show OWay p e below G T6 (mkF m 135 #[.val (.int p0), .val (.int p1), .val (.long q2), .second, .val (.int p3), .val (.int v5_1), .val (.int us0_2), .val (.ref b4), .val (.int v8_10), .val (.long u9_11), .second, .val (.int us0_13), .unset, .unset] [])
          refine ogo (fun _ z_ => XS.iconst X6.here hx rfl (hb hby at_135) z_) ?_
          show OWay p e below G T6 (mkF m 136 #[.val (.int p0), .val (.int p1), .val (.long q2), .second, .val (.int p3), .val (.int v5_1), .val (.int us0_2), .val (.ref b4), .val (.int v8_10), .val (.long u9_11), .second, .val (.int us0_13), .unset, .unset] [(.int (0 : Int32))])
          refine ogo (fun _ z_ => XS.istore X6.here hx rfl (hb hby at_136) rfl (l' := #[.val (.int p0), .val (.int p1), .val (.long q2), .second, .val (.int p3), .val (.int v5_1), .val (.int us0_2), .val (.ref b4), .val (.int v8_10), .val (.long u9_11), .second, .val (.int us0_13), .val (.int (0 : Int32)), .unset]) rfl z_) ?_
          show OWay p e below G T6 (mkF m 138 #[.val (.int p0), .val (.int p1), .val (.long q2), .second, .val (.int p3), .val (.int v5_1), .val (.int us0_2), .val (.ref b4), .val (.int v8_10), .val (.long u9_11), .second, .val (.int us0_13), .val (.int (0 : Int32)), .unset] [])
          refine ogo (fun _ z_ => XS.aload X6.here hx rfl (hb hby at_138) rfl rfl z_) ?_
          show OWay p e below G T6 (mkF m 140 #[.val (.int p0), .val (.int p1), .val (.long q2), .second, .val (.int p3), .val (.int v5_1), .val (.int us0_2), .val (.ref b4), .val (.int v8_10), .val (.long u9_11), .second, .val (.int us0_13), .val (.int (0 : Int32)), .unset] [(.ref b4)])
          refine ogo (fun _ z_ => XS.lload X6.here hx rfl (hb hby at_140) rfl z_) ?_
          show OWay p e below G T6 (mkF m 142 #[.val (.int p0), .val (.int p1), .val (.long q2), .second, .val (.int p3), .val (.int v5_1), .val (.int us0_2), .val (.ref b4), .val (.int v8_10), .val (.long u9_11), .second, .val (.int us0_13), .val (.int (0 : Int32)), .unset] [(.long u9_11), (.ref b4)])
          have F16 : Exa Z T6.heap b4 "com/example/slotwright/slotwright/Bounds" := (A4.keep Kq6)
          obtain ⟨_, T15, L15, X15, hQ15, st15⟩ := wVirtual X6 hx hZ (y := (⟨"com/example/slotwright/slotwright/Bounds", "allows", "(J)Z"⟩ : MethodName)) (z := (⟨"com/example/slotwright/slotwright/Bounds", "allows", "(J)Z"⟩ : MethodName)) hown (hw _ (List.mem_of_getElem? (i := 26) rfl)) (hw _ (List.mem_of_getElem? (i := 27) rfl)) (notFace_of_selects (args := #[]) (mvT hZ (hw _ (List.mem_of_getElem? (i := 29) rfl)))) (hw _ (List.mem_of_getElem? (i := 29) rfl)) (hw _ (List.mem_of_getElem? (i := 28) rfl)) (hw _ (List.mem_of_getElem? (i := 3) rfl)) (hw _ (List.mem_of_getElem? (i := 30) rfl)) (by decide) (alw_b_c l Z az hw [] b4 u9_11 v5_1 us0_2 T6.heap n0 (Nat.le_trans (Nat.le_trans Z0 E4.1) Kq6.1) P7 P8) 0 (by decide) (by decide) F16 (g := (mkF m 142 #[.val (.int p0), .val (.int p1), .val (.long q2), .second, .val (.int p3), .val (.int v5_1), .val (.int us0_2), .val (.ref b4), .val (.int v8_10), .val (.long u9_11), .second, .val (.int us0_13), .val (.int (0 : Int32)), .unset] [(.long u9_11), (.ref b4)])) rfl (by rw [hml]; rfl) (argsL := [(.long u9_11)]) (rest := []) (lenOf pd__J_Z rfl) rfl (by show 2 * 0 + _ ≤ _; exact Nat.le_of_eq rfl) (hb hby at_142) rfl rfl (by decide) (by decide)
          obtain ⟨rfl, N15q, eq15⟩ := hQ15
          have N15 := Fr.app N6 N15q
          refine ogoS st15 ?_
          show OWay p e below G T15 (mkF m 145 #[.val (.int p0), .val (.int p1), .val (.long q2), .second, .val (.int p3), .val (.int v5_1), .val (.int us0_2), .val (.ref b4), .val (.int v8_10), .val (.long u9_11), .second, .val (.int us0_13), .val (.int (0 : Int32)), .unset] [(.int (alw u9_11 v5_1 us0_2))])
          refine ogo (fun _ z_ => XS.iload X15.here hx rfl (hb hby at_145) rfl z_) ?_
          show OWay p e below G T15 (mkF m 147 #[.val (.int p0), .val (.int p1), .val (.long q2), .second, .val (.int p3), .val (.int v5_1), .val (.int us0_2), .val (.ref b4), .val (.int v8_10), .val (.long u9_11), .second, .val (.int us0_13), .val (.int (0 : Int32)), .unset] [(.int (0 : Int32)), (.int (alw u9_11 v5_1 us0_2))])
          refine ogo (fun _ z_ => XS.icmpNo X15.here hx rfl (hb hby at_147) rfl (teq (by
              have z : us0_2 < v5_1 := by
                by_cases q : us0_2 < v5_1
                · exact q
                · rw [hus0_13, if_neg q] at c108
                  exact absurd c108 (by decide)
              exact own_no u9_11 v5_1 us0_2 z)).2 z_) ?_
          show OWay p e below G T15 (mkF m 150 #[.val (.int p0), .val (.int p1), .val (.long q2), .second, .val (.int p3), .val (.int v5_1), .val (.int us0_2), .val (.ref b4), .val (.int v8_10), .val (.long u9_11), .second, .val (.int us0_13), .val (.int (0 : Int32)), .unset] [])
          refine ogo (fun _ z_ => XS.iconst X15.here hx rfl (hb hby at_150) z_) ?_
          show OWay p e below G T15 (mkF m 151 #[.val (.int p0), .val (.int p1), .val (.long q2), .second, .val (.int p3), .val (.int v5_1), .val (.int us0_2), .val (.ref b4), .val (.int v8_10), .val (.long u9_11), .second, .val (.int us0_13), .val (.int (0 : Int32)), .unset] [(.int (1 : Int32))])
          refine ogo (fun _ z_ => XS.goto X15.here hx rfl (pc0 := 151) (pc' := 155) rfl (hb hby at_151) (by decide) (by decide) z_) ?_
          show OWay p e below G T15 (mkF m 155 #[.val (.int p0), .val (.int p1), .val (.long q2), .second, .val (.int p3), .val (.int v5_1), .val (.int us0_2), .val (.ref b4), .val (.int v8_10), .val (.long u9_11), .second, .val (.int us0_13), .val (.int (0 : Int32)), .unset] [(.int (1 : Int32))])
          refine ogo (fun _ z_ => XS.istore X15.here hx rfl (hb hby at_155) rfl (l' := #[.val (.int p0), .val (.int p1), .val (.long q2), .second, .val (.int p3), .val (.int v5_1), .val (.int us0_2), .val (.ref b4), .val (.int v8_10), .val (.long u9_11), .second, .val (.int us0_13), .val (.int (0 : Int32)), .val (.int (1 : Int32))]) rfl z_) ?_
          show OWay p e below G T15 (mkF m 157 #[.val (.int p0), .val (.int p1), .val (.long q2), .second, .val (.int p3), .val (.int v5_1), .val (.int us0_2), .val (.ref b4), .val (.int v8_10), .val (.long u9_11), .second, .val (.int us0_13), .val (.int (0 : Int32)), .val (.int (1 : Int32))] [])
          refine ogo (fun _ z_ => XS.iload X15.here hx rfl (hb hby at_157) rfl z_) ?_
          show OWay p e below G T15 (mkF m 159 #[.val (.int p0), .val (.int p1), .val (.long q2), .second, .val (.int p3), .val (.int v5_1), .val (.int us0_2), .val (.ref b4), .val (.int v8_10), .val (.long u9_11), .second, .val (.int us0_13), .val (.int (0 : Int32)), .val (.int (1 : Int32))] [(.int (1 : Int32))])
          refine ogo (fun _ z_ => XS.ifNo X15.here hx rfl (hb hby at_159) rfl ((if0 _ _).trans (feq (by decide)).1) z_) ?_
          show OWay p e below G T15 (mkF m 162 #[.val (.int p0), .val (.int p1), .val (.long q2), .second, .val (.int p3), .val (.int v5_1), .val (.int us0_2), .val (.ref b4), .val (.int v8_10), .val (.long u9_11), .second, .val (.int us0_13), .val (.int (0 : Int32)), .val (.int (1 : Int32))] [])
          refine ogo (fun _ z_ => XS.aload X15.here hx rfl (hb hby at_162) rfl rfl z_) ?_
          show OWay p e below G T15 (mkF m 164 #[.val (.int p0), .val (.int p1), .val (.long q2), .second, .val (.int p3), .val (.int v5_1), .val (.int us0_2), .val (.ref b4), .val (.int v8_10), .val (.long u9_11), .second, .val (.int us0_13), .val (.int (0 : Int32)), .val (.int (1 : Int32))] [(.ref b4)])
          refine ogo (fun _ z_ => XS.iload X15.here hx rfl (hb hby at_164) rfl z_) ?_
          show OWay p e below G T15 (mkF m 166 #[.val (.int p0), .val (.int p1), .val (.long q2), .second, .val (.int p3), .val (.int v5_1), .val (.int us0_2), .val (.ref b4), .val (.int v8_10), .val (.long u9_11), .second, .val (.int us0_13), .val (.int (0 : Int32)), .val (.int (1 : Int32))] [(.int v5_1), (.ref b4)])
          refine ogo (fun _ z_ => XS.i2l X15.here hx rfl (hb hby at_166) rfl z_) ?_
          show OWay p e below G T15 (mkF m 167 #[.val (.int p0), .val (.int p1), .val (.long q2), .second, .val (.int p3), .val (.int v5_1), .val (.int us0_2), .val (.ref b4), .val (.int v8_10), .val (.long u9_11), .second, .val (.int us0_13), .val (.int (0 : Int32)), .val (.int (1 : Int32))] [(.long (v5_1.toInt64)), (.ref b4)])
          obtain ⟨_, T17, L17, X17, hQ17, st17⟩ := wVirtual X15 hx hZ (y := (⟨"com/example/slotwright/slotwright/Bounds", "allows", "(J)Z"⟩ : MethodName)) (z := (⟨"com/example/slotwright/slotwright/Bounds", "allows", "(J)Z"⟩ : MethodName)) hown (hw _ (List.mem_of_getElem? (i := 26) rfl)) (hw _ (List.mem_of_getElem? (i := 27) rfl)) (notFace_of_selects (args := #[]) (mvT hZ (hw _ (List.mem_of_getElem? (i := 29) rfl)))) (hw _ (List.mem_of_getElem? (i := 29) rfl)) (hw _ (List.mem_of_getElem? (i := 28) rfl)) (hw _ (List.mem_of_getElem? (i := 3) rfl)) (hw _ (List.mem_of_getElem? (i := 30) rfl)) (by decide) (alw_b_c l Z az hw [] b4 (v5_1.toInt64) v5_1 us0_2 T6.heap n0 (Nat.le_trans (Nat.le_trans Z0 E4.1) Kq6.1) P7 P8) 0 (by decide) (by decide) F16 (g := (mkF m 167 #[.val (.int p0), .val (.int p1), .val (.long q2), .second, .val (.int p3), .val (.int v5_1), .val (.int us0_2), .val (.ref b4), .val (.int v8_10), .val (.long u9_11), .second, .val (.int us0_13), .val (.int (0 : Int32)), .val (.int (1 : Int32))] [(.long (v5_1.toInt64)), (.ref b4)])) rfl (by rw [hml]; rfl) (argsL := [(.long (v5_1.toInt64))]) (rest := []) (lenOf pd__J_Z rfl) rfl (by show 2 * 0 + _ ≤ _; exact Nat.le_of_eq rfl) (hb hby at_167) rfl eq15 (by decide) (by decide)
          obtain ⟨rfl, N17q, eq17⟩ := hQ17
          have N17 := Fr.app N15 N17q
          refine ogoS st17 ?_
          show OWay p e below G T17 (mkF m 170 #[.val (.int p0), .val (.int p1), .val (.long q2), .second, .val (.int p3), .val (.int v5_1), .val (.int us0_2), .val (.ref b4), .val (.int v8_10), .val (.long u9_11), .second, .val (.int us0_13), .val (.int (0 : Int32)), .val (.int (1 : Int32))] [(.int (alw (v5_1.toInt64) v5_1 us0_2))])
          refine ogo (fun _ z_ => XS.iload X17.here hx rfl (hb hby at_170) rfl z_) ?_
          show OWay p e below G T17 (mkF m 172 #[.val (.int p0), .val (.int p1), .val (.long q2), .second, .val (.int p3), .val (.int v5_1), .val (.int us0_2), .val (.ref b4), .val (.int v8_10), .val (.long u9_11), .second, .val (.int us0_13), .val (.int (0 : Int32)), .val (.int (1 : Int32))] [(.int us0_13), (.int (alw (v5_1.toInt64) v5_1 us0_2))])
          refine ogo (fun _ z_ => XS.icmpNo X17.here hx rfl (hb hby at_172) rfl (teq (by rw [hus0_13]; exact own_lo v5_1 us0_2)).2 z_) ?_
          show OWay p e below G T17 (mkF m 175 #[.val (.int p0), .val (.int p1), .val (.long q2), .second, .val (.int p3), .val (.int v5_1), .val (.int us0_2), .val (.ref b4), .val (.int v8_10), .val (.long u9_11), .second, .val (.int us0_13), .val (.int (0 : Int32)), .val (.int (1 : Int32))] [])
          refine ogo (fun _ z_ => XS.iconst X17.here hx rfl (hb hby at_175) z_) ?_
          show OWay p e below G T17 (mkF m 176 #[.val (.int p0), .val (.int p1), .val (.long q2), .second, .val (.int p3), .val (.int v5_1), .val (.int us0_2), .val (.ref b4), .val (.int v8_10), .val (.long u9_11), .second, .val (.int us0_13), .val (.int (0 : Int32)), .val (.int (1 : Int32))] [(.int (1 : Int32))])
          refine ogo (fun _ z_ => XS.goto X17.here hx rfl (pc0 := 176) (pc' := 180) rfl (hb hby at_176) (by decide) (by decide) z_) ?_
          show OWay p e below G T17 (mkF m 180 #[.val (.int p0), .val (.int p1), .val (.long q2), .second, .val (.int p3), .val (.int v5_1), .val (.int us0_2), .val (.ref b4), .val (.int v8_10), .val (.long u9_11), .second, .val (.int us0_13), .val (.int (0 : Int32)), .val (.int (1 : Int32))] [(.int (1 : Int32))])
          refine ogo (fun _ z_ => XS.istore X17.here hx rfl (hb hby at_180) rfl (l' := #[.val (.int p0), .val (.int p1), .val (.long q2), .second, .val (.int p3), .val (.int v5_1), .val (.int us0_2), .val (.ref b4), .val (.int v8_10), .val (.long u9_11), .second, .val (.int us0_13), .val (.int (0 : Int32)), .val (.int (1 : Int32))]) rfl z_) ?_
          show OWay p e below G T17 (mkF m 182 #[.val (.int p0), .val (.int p1), .val (.long q2), .second, .val (.int p3), .val (.int v5_1), .val (.int us0_2), .val (.ref b4), .val (.int v8_10), .val (.long u9_11), .second, .val (.int us0_13), .val (.int (0 : Int32)), .val (.int (1 : Int32))] [])
          refine ogo (fun _ z_ => XS.iload X17.here hx rfl (hb hby at_182) rfl z_) ?_
          show OWay p e below G T17 (mkF m 184 #[.val (.int p0), .val (.int p1), .val (.long q2), .second, .val (.int p3), .val (.int v5_1), .val (.int us0_2), .val (.ref b4), .val (.int v8_10), .val (.long u9_11), .second, .val (.int us0_13), .val (.int (0 : Int32)), .val (.int (1 : Int32))] [(.int (1 : Int32))])
          refine ogo (fun _ z_ => XS.ifNo X17.here hx rfl (hb hby at_184) rfl ((if0 _ _).trans (feq (by decide)).1) z_) ?_
          show OWay p e below G T17 (mkF m 187 #[.val (.int p0), .val (.int p1), .val (.long q2), .second, .val (.int p3), .val (.int v5_1), .val (.int us0_2), .val (.ref b4), .val (.int v8_10), .val (.long u9_11), .second, .val (.int us0_13), .val (.int (0 : Int32)), .val (.int (1 : Int32))] [])
          refine ogo (fun _ z_ => XS.aload X17.here hx rfl (hb hby at_187) rfl rfl z_) ?_
          show OWay p e below G T17 (mkF m 189 #[.val (.int p0), .val (.int p1), .val (.long q2), .second, .val (.int p3), .val (.int v5_1), .val (.int us0_2), .val (.ref b4), .val (.int v8_10), .val (.long u9_11), .second, .val (.int us0_13), .val (.int (0 : Int32)), .val (.int (1 : Int32))] [(.ref b4)])
          refine ogo (fun _ z_ => XS.iload X17.here hx rfl (hb hby at_189) rfl z_) ?_
          show OWay p e below G T17 (mkF m 191 #[.val (.int p0), .val (.int p1), .val (.long q2), .second, .val (.int p3), .val (.int v5_1), .val (.int us0_2), .val (.ref b4), .val (.int v8_10), .val (.long u9_11), .second, .val (.int us0_13), .val (.int (0 : Int32)), .val (.int (1 : Int32))] [(.int us0_2), (.ref b4)])
          refine ogo (fun _ z_ => XS.i2l X17.here hx rfl (hb hby at_191) rfl z_) ?_
          show OWay p e below G T17 (mkF m 192 #[.val (.int p0), .val (.int p1), .val (.long q2), .second, .val (.int p3), .val (.int v5_1), .val (.int us0_2), .val (.ref b4), .val (.int v8_10), .val (.long u9_11), .second, .val (.int us0_13), .val (.int (0 : Int32)), .val (.int (1 : Int32))] [(.long (us0_2.toInt64)), (.ref b4)])
          obtain ⟨_, T18, L18, X18, hQ18, st18⟩ := wVirtual X17 hx hZ (y := (⟨"com/example/slotwright/slotwright/Bounds", "allows", "(J)Z"⟩ : MethodName)) (z := (⟨"com/example/slotwright/slotwright/Bounds", "allows", "(J)Z"⟩ : MethodName)) hown (hw _ (List.mem_of_getElem? (i := 26) rfl)) (hw _ (List.mem_of_getElem? (i := 27) rfl)) (notFace_of_selects (args := #[]) (mvT hZ (hw _ (List.mem_of_getElem? (i := 29) rfl)))) (hw _ (List.mem_of_getElem? (i := 29) rfl)) (hw _ (List.mem_of_getElem? (i := 28) rfl)) (hw _ (List.mem_of_getElem? (i := 3) rfl)) (hw _ (List.mem_of_getElem? (i := 30) rfl)) (by decide) (alw_b_c l Z az hw [] b4 (us0_2.toInt64) v5_1 us0_2 T6.heap n0 (Nat.le_trans (Nat.le_trans Z0 E4.1) Kq6.1) P7 P8) 0 (by decide) (by decide) F16 (g := (mkF m 192 #[.val (.int p0), .val (.int p1), .val (.long q2), .second, .val (.int p3), .val (.int v5_1), .val (.int us0_2), .val (.ref b4), .val (.int v8_10), .val (.long u9_11), .second, .val (.int us0_13), .val (.int (0 : Int32)), .val (.int (1 : Int32))] [(.long (us0_2.toInt64)), (.ref b4)])) rfl (by rw [hml]; rfl) (argsL := [(.long (us0_2.toInt64))]) (rest := []) (lenOf pd__J_Z rfl) rfl (by show 2 * 0 + _ ≤ _; exact Nat.le_of_eq rfl) (hb hby at_192) rfl eq17 (by decide) (by decide)
          obtain ⟨rfl, N18q, eq18⟩ := hQ18
          have N18 := Fr.app N17 N18q
          refine ogoS st18 ?_
          show OWay p e below G T18 (mkF m 195 #[.val (.int p0), .val (.int p1), .val (.long q2), .second, .val (.int p3), .val (.int v5_1), .val (.int us0_2), .val (.ref b4), .val (.int v8_10), .val (.long u9_11), .second, .val (.int us0_13), .val (.int (0 : Int32)), .val (.int (1 : Int32))] [(.int (alw (us0_2.toInt64) v5_1 us0_2))])
          refine ogo (fun _ z_ => XS.iload X18.here hx rfl (hb hby at_195) rfl z_) ?_
          show OWay p e below G T18 (mkF m 197 #[.val (.int p0), .val (.int p1), .val (.long q2), .second, .val (.int p3), .val (.int v5_1), .val (.int us0_2), .val (.ref b4), .val (.int v8_10), .val (.long u9_11), .second, .val (.int us0_13), .val (.int (0 : Int32)), .val (.int (1 : Int32))] [(.int us0_13), (.int (alw (us0_2.toInt64) v5_1 us0_2))])
          refine ogo (fun _ z_ => XS.icmpNo X18.here hx rfl (hb hby at_197) rfl (teq (by rw [hus0_13]; exact own_hi v5_1 us0_2)).2 z_) ?_
          show OWay p e below G T18 (mkF m 200 #[.val (.int p0), .val (.int p1), .val (.long q2), .second, .val (.int p3), .val (.int v5_1), .val (.int us0_2), .val (.ref b4), .val (.int v8_10), .val (.long u9_11), .second, .val (.int us0_13), .val (.int (0 : Int32)), .val (.int (1 : Int32))] [])
          refine ogo (fun _ z_ => XS.iconst X18.here hx rfl (hb hby at_200) z_) ?_
          show OWay p e below G T18 (mkF m 201 #[.val (.int p0), .val (.int p1), .val (.long q2), .second, .val (.int p3), .val (.int v5_1), .val (.int us0_2), .val (.ref b4), .val (.int v8_10), .val (.long u9_11), .second, .val (.int us0_13), .val (.int (0 : Int32)), .val (.int (1 : Int32))] [(.int (1 : Int32))])
          refine ogo (fun _ z_ => XS.goto X18.here hx rfl (pc0 := 201) (pc' := 205) rfl (hb hby at_201) (by decide) (by decide) z_) ?_
          show OWay p e below G T18 (mkF m 205 #[.val (.int p0), .val (.int p1), .val (.long q2), .second, .val (.int p3), .val (.int v5_1), .val (.int us0_2), .val (.ref b4), .val (.int v8_10), .val (.long u9_11), .second, .val (.int us0_13), .val (.int (0 : Int32)), .val (.int (1 : Int32))] [(.int (1 : Int32))])
          refine ogo (fun _ z_ => XS.istore X18.here hx rfl (hb hby at_205) rfl (l' := #[.val (.int p0), .val (.int p1), .val (.long q2), .second, .val (.int p3), .val (.int v5_1), .val (.int us0_2), .val (.ref b4), .val (.int v8_10), .val (.long u9_11), .second, .val (.int us0_13), .val (.int (0 : Int32)), .val (.int (1 : Int32))]) rfl z_) ?_
          show OWay p e below G T18 (mkF m 207 #[.val (.int p0), .val (.int p1), .val (.long q2), .second, .val (.int p3), .val (.int v5_1), .val (.int us0_2), .val (.ref b4), .val (.int v8_10), .val (.long u9_11), .second, .val (.int us0_13), .val (.int (0 : Int32)), .val (.int (1 : Int32))] [])
          refine ogo (fun _ z_ => XS.iload X18.here hx rfl (hb hby at_207) rfl z_) ?_
          show OWay p e below G T18 (mkF m 209 #[.val (.int p0), .val (.int p1), .val (.long q2), .second, .val (.int p3), .val (.int v5_1), .val (.int us0_2), .val (.ref b4), .val (.int v8_10), .val (.long u9_11), .second, .val (.int us0_13), .val (.int (0 : Int32)), .val (.int (1 : Int32))] [(.int (1 : Int32))])
          refine ogo (fun _ z_ => XS.ifNo X18.here hx rfl (hb hby at_209) rfl ((if0 _ _).trans (feq (by decide)).1) z_) ?_
          show OWay p e below G T18 (mkF m 212 #[.val (.int p0), .val (.int p1), .val (.long q2), .second, .val (.int p3), .val (.int v5_1), .val (.int us0_2), .val (.ref b4), .val (.int v8_10), .val (.long u9_11), .second, .val (.int us0_13), .val (.int (0 : Int32)), .val (.int (1 : Int32))] [])
          refine ogo (fun _ z_ => XS.aload X18.here hx rfl (hb hby at_212) rfl rfl z_) ?_
          show OWay p e below G T18 (mkF m 214 #[.val (.int p0), .val (.int p1), .val (.long q2), .second, .val (.int p3), .val (.int v5_1), .val (.int us0_2), .val (.ref b4), .val (.int v8_10), .val (.long u9_11), .second, .val (.int us0_13), .val (.int (0 : Int32)), .val (.int (1 : Int32))] [(.ref b4)])
          refine ogo (fun _ z_ => XS.iload X18.here hx rfl (hb hby at_214) rfl z_) ?_
          show OWay p e below G T18 (mkF m 216 #[.val (.int p0), .val (.int p1), .val (.long q2), .second, .val (.int p3), .val (.int v5_1), .val (.int us0_2), .val (.ref b4), .val (.int v8_10), .val (.long u9_11), .second, .val (.int us0_13), .val (.int (0 : Int32)), .val (.int (1 : Int32))] [(.int v5_1), (.ref b4)])
          refine ogo (fun _ z_ => XS.i2l X18.here hx rfl (hb hby at_216) rfl z_) ?_
          show OWay p e below G T18 (mkF m 217 #[.val (.int p0), .val (.int p1), .val (.long q2), .second, .val (.int p3), .val (.int v5_1), .val (.int us0_2), .val (.ref b4), .val (.int v8_10), .val (.long u9_11), .second, .val (.int us0_13), .val (.int (0 : Int32)), .val (.int (1 : Int32))] [(.long (v5_1.toInt64)), (.ref b4)])
          refine ogo (fun _ z_ => XS.lconst X18.here hx rfl (hb hby at_217) z_) ?_
          show OWay p e below G T18 (mkF m 218 #[.val (.int p0), .val (.int p1), .val (.long q2), .second, .val (.int p3), .val (.int v5_1), .val (.int us0_2), .val (.ref b4), .val (.int v8_10), .val (.long u9_11), .second, .val (.int us0_13), .val (.int (0 : Int32)), .val (.int (1 : Int32))] [(.long (1 : Int64)), (.long (v5_1.toInt64)), (.ref b4)])
          refine ogo (fun _ z_ => XS.lsub X18.here hx rfl (hb hby at_218) rfl z_) ?_
          show OWay p e below G T18 (mkF m 219 #[.val (.int p0), .val (.int p1), .val (.long q2), .second, .val (.int p3), .val (.int v5_1), .val (.int us0_2), .val (.ref b4), .val (.int v8_10), .val (.long u9_11), .second, .val (.int us0_13), .val (.int (0 : Int32)), .val (.int (1 : Int32))] [(.long ((v5_1.toInt64) - (1 : Int64))), (.ref b4)])
          obtain ⟨_, T19, L19, X19, hQ19, st19⟩ := wVirtual X18 hx hZ (y := (⟨"com/example/slotwright/slotwright/Bounds", "allows", "(J)Z"⟩ : MethodName)) (z := (⟨"com/example/slotwright/slotwright/Bounds", "allows", "(J)Z"⟩ : MethodName)) hown (hw _ (List.mem_of_getElem? (i := 26) rfl)) (hw _ (List.mem_of_getElem? (i := 27) rfl)) (notFace_of_selects (args := #[]) (mvT hZ (hw _ (List.mem_of_getElem? (i := 29) rfl)))) (hw _ (List.mem_of_getElem? (i := 29) rfl)) (hw _ (List.mem_of_getElem? (i := 28) rfl)) (hw _ (List.mem_of_getElem? (i := 3) rfl)) (hw _ (List.mem_of_getElem? (i := 30) rfl)) (by decide) (alw_b_c l Z az hw [] b4 ((v5_1.toInt64) - (1 : Int64)) v5_1 us0_2 T6.heap n0 (Nat.le_trans (Nat.le_trans Z0 E4.1) Kq6.1) P7 P8) 0 (by decide) (by decide) F16 (g := (mkF m 219 #[.val (.int p0), .val (.int p1), .val (.long q2), .second, .val (.int p3), .val (.int v5_1), .val (.int us0_2), .val (.ref b4), .val (.int v8_10), .val (.long u9_11), .second, .val (.int us0_13), .val (.int (0 : Int32)), .val (.int (1 : Int32))] [(.long ((v5_1.toInt64) - (1 : Int64))), (.ref b4)])) rfl (by rw [hml]; rfl) (argsL := [(.long ((v5_1.toInt64) - (1 : Int64)))]) (rest := []) (lenOf pd__J_Z rfl) rfl (by show 2 * 0 + _ ≤ _; exact Nat.le_of_eq rfl) (hb hby at_219) rfl eq18 (by decide) (by decide)
          obtain ⟨rfl, N19q, eq19⟩ := hQ19
          have N19 := Fr.app N18 N19q
          refine ogoS st19 ?_
          show OWay p e below G T19 (mkF m 222 #[.val (.int p0), .val (.int p1), .val (.long q2), .second, .val (.int p3), .val (.int v5_1), .val (.int us0_2), .val (.ref b4), .val (.int v8_10), .val (.long u9_11), .second, .val (.int us0_13), .val (.int (0 : Int32)), .val (.int (1 : Int32))] [(.int (alw ((v5_1.toInt64) - (1 : Int64)) v5_1 us0_2))])
          refine ogo (fun _ z_ => XS.ifNo X19.here hx rfl (hb hby at_222) rfl ((if0 _ _).trans (teq (own_lo1 v5_1 us0_2)).2) z_) ?_
          show OWay p e below G T19 (mkF m 225 #[.val (.int p0), .val (.int p1), .val (.long q2), .second, .val (.int p3), .val (.int v5_1), .val (.int us0_2), .val (.ref b4), .val (.int v8_10), .val (.long u9_11), .second, .val (.int us0_13), .val (.int (0 : Int32)), .val (.int (1 : Int32))] [])
          refine ogo (fun _ z_ => XS.iconst X19.here hx rfl (hb hby at_225) z_) ?_
          show OWay p e below G T19 (mkF m 226 #[.val (.int p0), .val (.int p1), .val (.long q2), .second, .val (.int p3), .val (.int v5_1), .val (.int us0_2), .val (.ref b4), .val (.int v8_10), .val (.long u9_11), .second, .val (.int us0_13), .val (.int (0 : Int32)), .val (.int (1 : Int32))] [(.int (1 : Int32))])
          refine ogo (fun _ z_ => XS.goto X19.here hx rfl (pc0 := 226) (pc' := 230) rfl (hb hby at_226) (by decide) (by decide) z_) ?_
          show OWay p e below G T19 (mkF m 230 #[.val (.int p0), .val (.int p1), .val (.long q2), .second, .val (.int p3), .val (.int v5_1), .val (.int us0_2), .val (.ref b4), .val (.int v8_10), .val (.long u9_11), .second, .val (.int us0_13), .val (.int (0 : Int32)), .val (.int (1 : Int32))] [(.int (1 : Int32))])
          refine ogo (fun _ z_ => XS.istore X19.here hx rfl (hb hby at_230) rfl (l' := #[.val (.int p0), .val (.int p1), .val (.long q2), .second, .val (.int p3), .val (.int v5_1), .val (.int us0_2), .val (.ref b4), .val (.int v8_10), .val (.long u9_11), .second, .val (.int us0_13), .val (.int (0 : Int32)), .val (.int (1 : Int32))]) rfl z_) ?_
          show OWay p e below G T19 (mkF m 232 #[.val (.int p0), .val (.int p1), .val (.long q2), .second, .val (.int p3), .val (.int v5_1), .val (.int us0_2), .val (.ref b4), .val (.int v8_10), .val (.long u9_11), .second, .val (.int us0_13), .val (.int (0 : Int32)), .val (.int (1 : Int32))] [])
          refine ogo (fun _ z_ => XS.iload X19.here hx rfl (hb hby at_232) rfl z_) ?_
          show OWay p e below G T19 (mkF m 234 #[.val (.int p0), .val (.int p1), .val (.long q2), .second, .val (.int p3), .val (.int v5_1), .val (.int us0_2), .val (.ref b4), .val (.int v8_10), .val (.long u9_11), .second, .val (.int us0_13), .val (.int (0 : Int32)), .val (.int (1 : Int32))] [(.int (1 : Int32))])
          refine ogo (fun _ z_ => XS.ifNo X19.here hx rfl (hb hby at_234) rfl ((if0 _ _).trans (feq (by decide)).1) z_) ?_
          show OWay p e below G T19 (mkF m 237 #[.val (.int p0), .val (.int p1), .val (.long q2), .second, .val (.int p3), .val (.int v5_1), .val (.int us0_2), .val (.ref b4), .val (.int v8_10), .val (.long u9_11), .second, .val (.int us0_13), .val (.int (0 : Int32)), .val (.int (1 : Int32))] [])
          refine ogo (fun _ z_ => XS.aload X19.here hx rfl (hb hby at_237) rfl rfl z_) ?_
          show OWay p e below G T19 (mkF m 239 #[.val (.int p0), .val (.int p1), .val (.long q2), .second, .val (.int p3), .val (.int v5_1), .val (.int us0_2), .val (.ref b4), .val (.int v8_10), .val (.long u9_11), .second, .val (.int us0_13), .val (.int (0 : Int32)), .val (.int (1 : Int32))] [(.ref b4)])
          refine ogo (fun _ z_ => XS.iload X19.here hx rfl (hb hby at_239) rfl z_) ?_
          show OWay p e below G T19 (mkF m 241 #[.val (.int p0), .val (.int p1), .val (.long q2), .second, .val (.int p3), .val (.int v5_1), .val (.int us0_2), .val (.ref b4), .val (.int v8_10), .val (.long u9_11), .second, .val (.int us0_13), .val (.int (0 : Int32)), .val (.int (1 : Int32))] [(.int us0_2), (.ref b4)])
          refine ogo (fun _ z_ => XS.i2l X19.here hx rfl (hb hby at_241) rfl z_) ?_
          show OWay p e below G T19 (mkF m 242 #[.val (.int p0), .val (.int p1), .val (.long q2), .second, .val (.int p3), .val (.int v5_1), .val (.int us0_2), .val (.ref b4), .val (.int v8_10), .val (.long u9_11), .second, .val (.int us0_13), .val (.int (0 : Int32)), .val (.int (1 : Int32))] [(.long (us0_2.toInt64)), (.ref b4)])
          refine ogo (fun _ z_ => XS.lconst X19.here hx rfl (hb hby at_242) z_) ?_
          show OWay p e below G T19 (mkF m 243 #[.val (.int p0), .val (.int p1), .val (.long q2), .second, .val (.int p3), .val (.int v5_1), .val (.int us0_2), .val (.ref b4), .val (.int v8_10), .val (.long u9_11), .second, .val (.int us0_13), .val (.int (0 : Int32)), .val (.int (1 : Int32))] [(.long (1 : Int64)), (.long (us0_2.toInt64)), (.ref b4)])
          refine ogo (fun _ z_ => XS.ladd X19.here hx rfl (hb hby at_243) rfl z_) ?_
          show OWay p e below G T19 (mkF m 244 #[.val (.int p0), .val (.int p1), .val (.long q2), .second, .val (.int p3), .val (.int v5_1), .val (.int us0_2), .val (.ref b4), .val (.int v8_10), .val (.long u9_11), .second, .val (.int us0_13), .val (.int (0 : Int32)), .val (.int (1 : Int32))] [(.long ((us0_2.toInt64) + (1 : Int64))), (.ref b4)])
          obtain ⟨_, T20, L20, X20, hQ20, st20⟩ := wVirtual X19 hx hZ (y := (⟨"com/example/slotwright/slotwright/Bounds", "allows", "(J)Z"⟩ : MethodName)) (z := (⟨"com/example/slotwright/slotwright/Bounds", "allows", "(J)Z"⟩ : MethodName)) hown (hw _ (List.mem_of_getElem? (i := 26) rfl)) (hw _ (List.mem_of_getElem? (i := 27) rfl)) (notFace_of_selects (args := #[]) (mvT hZ (hw _ (List.mem_of_getElem? (i := 29) rfl)))) (hw _ (List.mem_of_getElem? (i := 29) rfl)) (hw _ (List.mem_of_getElem? (i := 28) rfl)) (hw _ (List.mem_of_getElem? (i := 3) rfl)) (hw _ (List.mem_of_getElem? (i := 30) rfl)) (by decide) (alw_b_c l Z az hw [] b4 ((us0_2.toInt64) + (1 : Int64)) v5_1 us0_2 T6.heap n0 (Nat.le_trans (Nat.le_trans Z0 E4.1) Kq6.1) P7 P8) 0 (by decide) (by decide) F16 (g := (mkF m 244 #[.val (.int p0), .val (.int p1), .val (.long q2), .second, .val (.int p3), .val (.int v5_1), .val (.int us0_2), .val (.ref b4), .val (.int v8_10), .val (.long u9_11), .second, .val (.int us0_13), .val (.int (0 : Int32)), .val (.int (1 : Int32))] [(.long ((us0_2.toInt64) + (1 : Int64))), (.ref b4)])) rfl (by rw [hml]; rfl) (argsL := [(.long ((us0_2.toInt64) + (1 : Int64)))]) (rest := []) (lenOf pd__J_Z rfl) rfl (by show 2 * 0 + _ ≤ _; exact Nat.le_of_eq rfl) (hb hby at_244) rfl eq19 (by decide) (by decide)
          obtain ⟨rfl, N20q, eq20⟩ := hQ20
          have N20 := Fr.app N19 N20q
          refine ogoS st20 ?_
          show OWay p e below G T20 (mkF m 247 #[.val (.int p0), .val (.int p1), .val (.long q2), .second, .val (.int p3), .val (.int v5_1), .val (.int us0_2), .val (.ref b4), .val (.int v8_10), .val (.long u9_11), .second, .val (.int us0_13), .val (.int (0 : Int32)), .val (.int (1 : Int32))] [(.int (alw ((us0_2.toInt64) + (1 : Int64)) v5_1 us0_2))])
          refine ogo (fun _ z_ => XS.ifNo X20.here hx rfl (hb hby at_247) rfl ((if0 _ _).trans (teq (own_hi1 v5_1 us0_2)).2) z_) ?_
          show OWay p e below G T20 (mkF m 250 #[.val (.int p0), .val (.int p1), .val (.long q2), .second, .val (.int p3), .val (.int v5_1), .val (.int us0_2), .val (.ref b4), .val (.int v8_10), .val (.long u9_11), .second, .val (.int us0_13), .val (.int (0 : Int32)), .val (.int (1 : Int32))] [])
          refine ogo (fun _ z_ => XS.iconst X20.here hx rfl (hb hby at_250) z_) ?_
          show OWay p e below G T20 (mkF m 251 #[.val (.int p0), .val (.int p1), .val (.long q2), .second, .val (.int p3), .val (.int v5_1), .val (.int us0_2), .val (.ref b4), .val (.int v8_10), .val (.long u9_11), .second, .val (.int us0_13), .val (.int (0 : Int32)), .val (.int (1 : Int32))] [(.int (1 : Int32))])
          refine ogo (fun _ z_ => XS.goto X20.here hx rfl (pc0 := 251) (pc' := 255) rfl (hb hby at_251) (by decide) (by decide) z_) ?_
          show OWay p e below G T20 (mkF m 255 #[.val (.int p0), .val (.int p1), .val (.long q2), .second, .val (.int p3), .val (.int v5_1), .val (.int us0_2), .val (.ref b4), .val (.int v8_10), .val (.long u9_11), .second, .val (.int us0_13), .val (.int (0 : Int32)), .val (.int (1 : Int32))] [(.int (1 : Int32))])
          refine ogo (fun _ z_ => XS.istore X20.here hx rfl (hb hby at_255) rfl (l' := #[.val (.int p0), .val (.int p1), .val (.long q2), .second, .val (.int p3), .val (.int v5_1), .val (.int us0_2), .val (.ref b4), .val (.int v8_10), .val (.long u9_11), .second, .val (.int us0_13), .val (.int (0 : Int32)), .val (.int (1 : Int32))]) rfl z_) ?_
          show OWay p e below G T20 (mkF m 257 #[.val (.int p0), .val (.int p1), .val (.long q2), .second, .val (.int p3), .val (.int v5_1), .val (.int us0_2), .val (.ref b4), .val (.int v8_10), .val (.long u9_11), .second, .val (.int us0_13), .val (.int (0 : Int32)), .val (.int (1 : Int32))] [])
          refine ogo (fun _ z_ => XS.iload X20.here hx rfl (hb hby at_257) rfl z_) ?_
          show OWay p e below G T20 (mkF m 259 #[.val (.int p0), .val (.int p1), .val (.long q2), .second, .val (.int p3), .val (.int v5_1), .val (.int us0_2), .val (.ref b4), .val (.int v8_10), .val (.long u9_11), .second, .val (.int us0_13), .val (.int (0 : Int32)), .val (.int (1 : Int32))] [(.int (1 : Int32))])
          subst hG
          refine wRetN X20 hx (t := .boolean) hret hlk (by simp) (hb hby at_259) (by decide) (by decide) eq20 ?_
          exact ⟨rfl, N20⟩
        · refine ogo (fun _ z_ => XS.ifNo X6.here hx rfl (hb hby at_108) rfl ((if0 _ _).trans (feq c108).1) z_) ?_
          show OWay p e below G T6 (mkF m 111 #[.val (.int p0), .val (.int p1), .val (.long q2), .second, .val (.int p3), .val (.int v5_1), .val (.int us0_2), .val (.ref b4), .val (.int v8_10), .val (.long u9_11), .second, .val (.int us0_13), .unset, .unset] [])
          refine ogo (fun _ z_ => XS.lload X6.here hx rfl (hb hby at_111) rfl z_) ?_
          show OWay p e below G T6 (mkF m 113 #[.val (.int p0), .val (.int p1), .val (.long q2), .second, .val (.int p3), .val (.int v5_1), .val (.int us0_2), .val (.ref b4), .val (.int v8_10), .val (.long u9_11), .second, .val (.int us0_13), .unset, .unset] [(.long u9_11)])
          refine ogo (fun _ z_ => XS.iload X6.here hx rfl (hb hby at_113) rfl z_) ?_
          show OWay p e below G T6 (mkF m 115 #[.val (.int p0), .val (.int p1), .val (.long q2), .second, .val (.int p3), .val (.int v5_1), .val (.int us0_2), .val (.ref b4), .val (.int v8_10), .val (.long u9_11), .second, .val (.int us0_13), .unset, .unset] [(.int v5_1), (.long u9_11)])
          refine ogo (fun _ z_ => XS.i2l X6.here hx rfl (hb hby at_115) rfl z_) ?_
          show OWay p e below G T6 (mkF m 116 #[.val (.int p0), .val (.int p1), .val (.long q2), .second, .val (.int p3), .val (.int v5_1), .val (.int us0_2), .val (.ref b4), .val (.int v8_10), .val (.long u9_11), .second, .val (.int us0_13), .unset, .unset] [(.long (v5_1.toInt64)), (.long u9_11)])
          obtain ⟨_, T21, L21, X21, hQ21, st21⟩ := wStatic X6 hx hZ (y := (⟨"java/lang/Math", "max", "(JJ)J"⟩ : MethodName)) hown (hw _ (List.mem_of_getElem? (i := 19) rfl)) (hw _ (List.mem_of_getElem? (i := 20) rfl)) (hw _ (List.mem_of_getElem? (i := 21) rfl)) (hw _ (List.mem_of_getElem? (i := 22) rfl)) (by decide) (lmax_b_c l Z az hw [] u9_11 (v5_1.toInt64) T6.heap n0 (Nat.le_trans (Nat.le_trans Z0 E4.1) Kq6.1)) 0 (by decide) (by decide) (g := (mkF m 116 #[.val (.int p0), .val (.int p1), .val (.long q2), .second, .val (.int p3), .val (.int v5_1), .val (.int us0_2), .val (.ref b4), .val (.int v8_10), .val (.long u9_11), .second, .val (.int us0_13), .unset, .unset] [(.long (v5_1.toInt64)), (.long u9_11)])) rfl (by rw [hml]; rfl) (argsL := [(.long u9_11), (.long (v5_1.toInt64))]) (rest := []) (lenOf pd__JJ_J rfl) rfl (by show 2 * 0 + _ ≤ _; exact Nat.le_of_eq rfl) (hb hby at_116) rfl rfl (by decide) (by decide)
          obtain ⟨rfl, N21q, eq21⟩ := hQ21
          have N21 := Fr.app N6 N21q
          refine ogo st21 ?_
          show OWay p e below G T21 (mkF m 119 #[.val (.int p0), .val (.int p1), .val (.long q2), .second, .val (.int p3), .val (.int v5_1), .val (.int us0_2), .val (.ref b4), .val (.int v8_10), .val (.long u9_11), .second, .val (.int us0_13), .unset, .unset] [(.long (lmax u9_11 (v5_1.toInt64)))])
          refine ogo (fun _ z_ => XS.iload X21.here hx rfl (hb hby at_119) rfl z_) ?_
          show OWay p e below G T21 (mkF m 121 #[.val (.int p0), .val (.int p1), .val (.long q2), .second, .val (.int p3), .val (.int v5_1), .val (.int us0_2), .val (.ref b4), .val (.int v8_10), .val (.long u9_11), .second, .val (.int us0_13), .unset, .unset] [(.int us0_2), (.long (lmax u9_11 (v5_1.toInt64)))])
          refine ogo (fun _ z_ => XS.i2l X21.here hx rfl (hb hby at_121) rfl z_) ?_
          show OWay p e below G T21 (mkF m 122 #[.val (.int p0), .val (.int p1), .val (.long q2), .second, .val (.int p3), .val (.int v5_1), .val (.int us0_2), .val (.ref b4), .val (.int v8_10), .val (.long u9_11), .second, .val (.int us0_13), .unset, .unset] [(.long (us0_2.toInt64)), (.long (lmax u9_11 (v5_1.toInt64)))])
          obtain ⟨_, T22, L22, X22, hQ22, st22⟩ := wStatic X21 hx hZ (y := (⟨"java/lang/Math", "min", "(JJ)J"⟩ : MethodName)) hown (hw _ (List.mem_of_getElem? (i := 23) rfl)) (hw _ (List.mem_of_getElem? (i := 24) rfl)) (hw _ (List.mem_of_getElem? (i := 21) rfl)) (hw _ (List.mem_of_getElem? (i := 25) rfl)) (by decide) (lmin_b_c l Z az hw [] (lmax u9_11 (v5_1.toInt64)) (us0_2.toInt64) T6.heap n0 (Nat.le_trans (Nat.le_trans Z0 E4.1) Kq6.1)) 0 (by decide) (by decide) (g := (mkF m 122 #[.val (.int p0), .val (.int p1), .val (.long q2), .second, .val (.int p3), .val (.int v5_1), .val (.int us0_2), .val (.ref b4), .val (.int v8_10), .val (.long u9_11), .second, .val (.int us0_13), .unset, .unset] [(.long (us0_2.toInt64)), (.long (lmax u9_11 (v5_1.toInt64)))])) rfl (by rw [hml]; rfl) (argsL := [(.long (lmax u9_11 (v5_1.toInt64))), (.long (us0_2.toInt64))]) (rest := []) (lenOf pd__JJ_J rfl) rfl (by show 2 * 0 + _ ≤ _; exact Nat.le_of_eq rfl) (hb hby at_122) rfl eq21 (by decide) (by decide)
          obtain ⟨rfl, N22q, eq22⟩ := hQ22
          have N22 := Fr.app N21 N22q
          refine ogo st22 ?_
          show OWay p e below G T22 (mkF m 125 #[.val (.int p0), .val (.int p1), .val (.long q2), .second, .val (.int p3), .val (.int v5_1), .val (.int us0_2), .val (.ref b4), .val (.int v8_10), .val (.long u9_11), .second, .val (.int us0_13), .unset, .unset] [(.long (lmin (lmax u9_11 (v5_1.toInt64)) (us0_2.toInt64)))])
          refine ogo (fun _ z_ => XS.lload X22.here hx rfl (hb hby at_125) rfl z_) ?_
          show OWay p e below G T22 (mkF m 127 #[.val (.int p0), .val (.int p1), .val (.long q2), .second, .val (.int p3), .val (.int v5_1), .val (.int us0_2), .val (.ref b4), .val (.int v8_10), .val (.long u9_11), .second, .val (.int us0_13), .unset, .unset] [(.long u9_11), (.long (lmin (lmax u9_11 (v5_1.toInt64)) (us0_2.toInt64)))])
          refine ogo (fun _ z_ => XS.lcmp X22.here hx rfl (hb hby at_127) rfl z_) ?_
          show OWay p e below G T22 (mkF m 128 #[.val (.int p0), .val (.int p1), .val (.long q2), .second, .val (.int p3), .val (.int v5_1), .val (.int us0_2), .val (.ref b4), .val (.int v8_10), .val (.long u9_11), .second, .val (.int us0_13), .unset, .unset] [(.int (lcmpW (lmin (lmax u9_11 (v5_1.toInt64)) (us0_2.toInt64)) u9_11))])
          have J24 : ∀ (us0_23 : Int32), us0_23 = (if (lmin (lmax u9_11 (v5_1.toInt64)) (us0_2.toInt64)) = u9_11 then (1 : Int32) else (0 : Int32)) → OWay p e below G T22 (mkF m 136 #[.val (.int p0), .val (.int p1), .val (.long q2), .second, .val (.int p3), .val (.int v5_1), .val (.int us0_2), .val (.ref b4), .val (.int v8_10), .val (.long u9_11), .second, .val (.int us0_13), .unset, .unset] [(.int us0_23)]) := by
            intro us0_23 hus0_23
            refine ogo (fun _ z_ => XS.istore X22.here hx rfl (hb hby at_136) rfl (l' := #[.val (.int p0), .val (.int p1), .val (.long q2), .second, .val (.int p3), .val (.int v5_1), .val (.int us0_2), .val (.ref b4), .val (.int v8_10), .val (.long u9_11), .second, .val (.int us0_13), .val (.int us0_23), .unset]) rfl z_) ?_
            show OWay p e below G T22 (mkF m 138 #[.val (.int p0), .val (.int p1), .val (.long q2), .second, .val (.int p3), .val (.int v5_1), .val (.int us0_2), .val (.ref b4), .val (.int v8_10), .val (.long u9_11), .second, .val (.int us0_13), .val (.int us0_23), .unset] [])
            refine ogo (fun _ z_ => XS.aload X22.here hx rfl (hb hby at_138) rfl rfl z_) ?_
            show OWay p e below G T22 (mkF m 140 #[.val (.int p0), .val (.int p1), .val (.long q2), .second, .val (.int p3), .val (.int v5_1), .val (.int us0_2), .val (.ref b4), .val (.int v8_10), .val (.long u9_11), .second, .val (.int us0_13), .val (.int us0_23), .unset] [(.ref b4)])
            refine ogo (fun _ z_ => XS.lload X22.here hx rfl (hb hby at_140) rfl z_) ?_
            show OWay p e below G T22 (mkF m 142 #[.val (.int p0), .val (.int p1), .val (.long q2), .second, .val (.int p3), .val (.int v5_1), .val (.int us0_2), .val (.ref b4), .val (.int v8_10), .val (.long u9_11), .second, .val (.int us0_13), .val (.int us0_23), .unset] [(.long u9_11), (.ref b4)])
            have F26 : Exa Z T6.heap b4 "com/example/slotwright/slotwright/Bounds" := (A4.keep Kq6)
            obtain ⟨_, T25, L25, X25, hQ25, st25⟩ := wVirtual X22 hx hZ (y := (⟨"com/example/slotwright/slotwright/Bounds", "allows", "(J)Z"⟩ : MethodName)) (z := (⟨"com/example/slotwright/slotwright/Bounds", "allows", "(J)Z"⟩ : MethodName)) hown (hw _ (List.mem_of_getElem? (i := 26) rfl)) (hw _ (List.mem_of_getElem? (i := 27) rfl)) (notFace_of_selects (args := #[]) (mvT hZ (hw _ (List.mem_of_getElem? (i := 29) rfl)))) (hw _ (List.mem_of_getElem? (i := 29) rfl)) (hw _ (List.mem_of_getElem? (i := 28) rfl)) (hw _ (List.mem_of_getElem? (i := 3) rfl)) (hw _ (List.mem_of_getElem? (i := 30) rfl)) (by decide) (alw_b_c l Z az hw [] b4 u9_11 v5_1 us0_2 T6.heap n0 (Nat.le_trans (Nat.le_trans Z0 E4.1) Kq6.1) P7 P8) 0 (by decide) (by decide) F26 (g := (mkF m 142 #[.val (.int p0), .val (.int p1), .val (.long q2), .second, .val (.int p3), .val (.int v5_1), .val (.int us0_2), .val (.ref b4), .val (.int v8_10), .val (.long u9_11), .second, .val (.int us0_13), .val (.int us0_23), .unset] [(.long u9_11), (.ref b4)])) rfl (by rw [hml]; rfl) (argsL := [(.long u9_11)]) (rest := []) (lenOf pd__J_Z rfl) rfl (by show 2 * 0 + _ ≤ _; exact Nat.le_of_eq rfl) (hb hby at_142) rfl eq22 (by decide) (by decide)
            obtain ⟨rfl, N25q, eq25⟩ := hQ25
            have N25 := Fr.app N22 N25q
            refine ogoS st25 ?_
            show OWay p e below G T25 (mkF m 145 #[.val (.int p0), .val (.int p1), .val (.long q2), .second, .val (.int p3), .val (.int v5_1), .val (.int us0_2), .val (.ref b4), .val (.int v8_10), .val (.long u9_11), .second, .val (.int us0_13), .val (.int us0_23), .unset] [(.int (alw u9_11 v5_1 us0_2))])
            refine ogo (fun _ z_ => XS.iload X25.here hx rfl (hb hby at_145) rfl z_) ?_
            show OWay p e below G T25 (mkF m 147 #[.val (.int p0), .val (.int p1), .val (.long q2), .second, .val (.int p3), .val (.int v5_1), .val (.int us0_2), .val (.ref b4), .val (.int v8_10), .val (.long u9_11), .second, .val (.int us0_13), .val (.int us0_23), .unset] [(.int us0_23), (.int (alw u9_11 v5_1 us0_2))])
            refine ogo (fun _ z_ => XS.icmpNo X25.here hx rfl (hb hby at_147) rfl (teq (by
                have z : ¬ us0_2 < v5_1 := fun q => c108 (by rw [hus0_13, if_pos q])
                rw [hus0_23]
                exact own_yes u9_11 v5_1 us0_2 z)).2 z_) ?_
            show OWay p e below G T25 (mkF m 150 #[.val (.int p0), .val (.int p1), .val (.long q2), .second, .val (.int p3), .val (.int v5_1), .val (.int us0_2), .val (.ref b4), .val (.int v8_10), .val (.long u9_11), .second, .val (.int us0_13), .val (.int us0_23), .unset] [])
            refine ogo (fun _ z_ => XS.iconst X25.here hx rfl (hb hby at_150) z_) ?_
            show OWay p e below G T25 (mkF m 151 #[.val (.int p0), .val (.int p1), .val (.long q2), .second, .val (.int p3), .val (.int v5_1), .val (.int us0_2), .val (.ref b4), .val (.int v8_10), .val (.long u9_11), .second, .val (.int us0_13), .val (.int us0_23), .unset] [(.int (1 : Int32))])
            refine ogo (fun _ z_ => XS.goto X25.here hx rfl (pc0 := 151) (pc' := 155) rfl (hb hby at_151) (by decide) (by decide) z_) ?_
            show OWay p e below G T25 (mkF m 155 #[.val (.int p0), .val (.int p1), .val (.long q2), .second, .val (.int p3), .val (.int v5_1), .val (.int us0_2), .val (.ref b4), .val (.int v8_10), .val (.long u9_11), .second, .val (.int us0_13), .val (.int us0_23), .unset] [(.int (1 : Int32))])
            refine ogo (fun _ z_ => XS.istore X25.here hx rfl (hb hby at_155) rfl (l' := #[.val (.int p0), .val (.int p1), .val (.long q2), .second, .val (.int p3), .val (.int v5_1), .val (.int us0_2), .val (.ref b4), .val (.int v8_10), .val (.long u9_11), .second, .val (.int us0_13), .val (.int us0_23), .val (.int (1 : Int32))]) rfl z_) ?_
            show OWay p e below G T25 (mkF m 157 #[.val (.int p0), .val (.int p1), .val (.long q2), .second, .val (.int p3), .val (.int v5_1), .val (.int us0_2), .val (.ref b4), .val (.int v8_10), .val (.long u9_11), .second, .val (.int us0_13), .val (.int us0_23), .val (.int (1 : Int32))] [])
            refine ogo (fun _ z_ => XS.iload X25.here hx rfl (hb hby at_157) rfl z_) ?_
            show OWay p e below G T25 (mkF m 159 #[.val (.int p0), .val (.int p1), .val (.long q2), .second, .val (.int p3), .val (.int v5_1), .val (.int us0_2), .val (.ref b4), .val (.int v8_10), .val (.long u9_11), .second, .val (.int us0_13), .val (.int us0_23), .val (.int (1 : Int32))] [(.int (1 : Int32))])
            refine ogo (fun _ z_ => XS.ifNo X25.here hx rfl (hb hby at_159) rfl ((if0 _ _).trans (feq (by decide)).1) z_) ?_
            show OWay p e below G T25 (mkF m 162 #[.val (.int p0), .val (.int p1), .val (.long q2), .second, .val (.int p3), .val (.int v5_1), .val (.int us0_2), .val (.ref b4), .val (.int v8_10), .val (.long u9_11), .second, .val (.int us0_13), .val (.int us0_23), .val (.int (1 : Int32))] [])
            refine ogo (fun _ z_ => XS.aload X25.here hx rfl (hb hby at_162) rfl rfl z_) ?_
            show OWay p e below G T25 (mkF m 164 #[.val (.int p0), .val (.int p1), .val (.long q2), .second, .val (.int p3), .val (.int v5_1), .val (.int us0_2), .val (.ref b4), .val (.int v8_10), .val (.long u9_11), .second, .val (.int us0_13), .val (.int us0_23), .val (.int (1 : Int32))] [(.ref b4)])
            refine ogo (fun _ z_ => XS.iload X25.here hx rfl (hb hby at_164) rfl z_) ?_
            show OWay p e below G T25 (mkF m 166 #[.val (.int p0), .val (.int p1), .val (.long q2), .second, .val (.int p3), .val (.int v5_1), .val (.int us0_2), .val (.ref b4), .val (.int v8_10), .val (.long u9_11), .second, .val (.int us0_13), .val (.int us0_23), .val (.int (1 : Int32))] [(.int v5_1), (.ref b4)])
            refine ogo (fun _ z_ => XS.i2l X25.here hx rfl (hb hby at_166) rfl z_) ?_
            show OWay p e below G T25 (mkF m 167 #[.val (.int p0), .val (.int p1), .val (.long q2), .second, .val (.int p3), .val (.int v5_1), .val (.int us0_2), .val (.ref b4), .val (.int v8_10), .val (.long u9_11), .second, .val (.int us0_13), .val (.int us0_23), .val (.int (1 : Int32))] [(.long (v5_1.toInt64)), (.ref b4)])
            obtain ⟨_, T27, L27, X27, hQ27, st27⟩ := wVirtual X25 hx hZ (y := (⟨"com/example/slotwright/slotwright/Bounds", "allows", "(J)Z"⟩ : MethodName)) (z := (⟨"com/example/slotwright/slotwright/Bounds", "allows", "(J)Z"⟩ : MethodName)) hown (hw _ (List.mem_of_getElem? (i := 26) rfl)) (hw _ (List.mem_of_getElem? (i := 27) rfl)) (notFace_of_selects (args := #[]) (mvT hZ (hw _ (List.mem_of_getElem? (i := 29) rfl)))) (hw _ (List.mem_of_getElem? (i := 29) rfl)) (hw _ (List.mem_of_getElem? (i := 28) rfl)) (hw _ (List.mem_of_getElem? (i := 3) rfl)) (hw _ (List.mem_of_getElem? (i := 30) rfl)) (by decide) (alw_b_c l Z az hw [] b4 (v5_1.toInt64) v5_1 us0_2 T6.heap n0 (Nat.le_trans (Nat.le_trans Z0 E4.1) Kq6.1) P7 P8) 0 (by decide) (by decide) F26 (g := (mkF m 167 #[.val (.int p0), .val (.int p1), .val (.long q2), .second, .val (.int p3), .val (.int v5_1), .val (.int us0_2), .val (.ref b4), .val (.int v8_10), .val (.long u9_11), .second, .val (.int us0_13), .val (.int us0_23), .val (.int (1 : Int32))] [(.long (v5_1.toInt64)), (.ref b4)])) rfl (by rw [hml]; rfl) (argsL := [(.long (v5_1.toInt64))]) (rest := []) (lenOf pd__J_Z rfl) rfl (by show 2 * 0 + _ ≤ _; exact Nat.le_of_eq rfl) (hb hby at_167) rfl eq25 (by decide) (by decide)
            obtain ⟨rfl, N27q, eq27⟩ := hQ27
            have N27 := Fr.app N25 N27q
            refine ogoS st27 ?_
            show OWay p e below G T27 (mkF m 170 #[.val (.int p0), .val (.int p1), .val (.long q2), .second, .val (.int p3), .val (.int v5_1), .val (.int us0_2), .val (.ref b4), .val (.int v8_10), .val (.long u9_11), .second, .val (.int us0_13), .val (.int us0_23), .val (.int (1 : Int32))] [(.int (alw (v5_1.toInt64) v5_1 us0_2))])
            refine ogo (fun _ z_ => XS.iload X27.here hx rfl (hb hby at_170) rfl z_) ?_
            show OWay p e below G T27 (mkF m 172 #[.val (.int p0), .val (.int p1), .val (.long q2), .second, .val (.int p3), .val (.int v5_1), .val (.int us0_2), .val (.ref b4), .val (.int v8_10), .val (.long u9_11), .second, .val (.int us0_13), .val (.int us0_23), .val (.int (1 : Int32))] [(.int us0_13), (.int (alw (v5_1.toInt64) v5_1 us0_2))])
            refine ogo (fun _ z_ => XS.icmpNo X27.here hx rfl (hb hby at_172) rfl (teq (by rw [hus0_13]; exact own_lo v5_1 us0_2)).2 z_) ?_
            show OWay p e below G T27 (mkF m 175 #[.val (.int p0), .val (.int p1), .val (.long q2), .second, .val (.int p3), .val (.int v5_1), .val (.int us0_2), .val (.ref b4), .val (.int v8_10), .val (.long u9_11), .second, .val (.int us0_13), .val (.int us0_23), .val (.int (1 : Int32))] [])
            refine ogo (fun _ z_ => XS.iconst X27.here hx rfl (hb hby at_175) z_) ?_
            show OWay p e below G T27 (mkF m 176 #[.val (.int p0), .val (.int p1), .val (.long q2), .second, .val (.int p3), .val (.int v5_1), .val (.int us0_2), .val (.ref b4), .val (.int v8_10), .val (.long u9_11), .second, .val (.int us0_13), .val (.int us0_23), .val (.int (1 : Int32))] [(.int (1 : Int32))])
            refine ogo (fun _ z_ => XS.goto X27.here hx rfl (pc0 := 176) (pc' := 180) rfl (hb hby at_176) (by decide) (by decide) z_) ?_
            show OWay p e below G T27 (mkF m 180 #[.val (.int p0), .val (.int p1), .val (.long q2), .second, .val (.int p3), .val (.int v5_1), .val (.int us0_2), .val (.ref b4), .val (.int v8_10), .val (.long u9_11), .second, .val (.int us0_13), .val (.int us0_23), .val (.int (1 : Int32))] [(.int (1 : Int32))])
            refine ogo (fun _ z_ => XS.istore X27.here hx rfl (hb hby at_180) rfl (l' := #[.val (.int p0), .val (.int p1), .val (.long q2), .second, .val (.int p3), .val (.int v5_1), .val (.int us0_2), .val (.ref b4), .val (.int v8_10), .val (.long u9_11), .second, .val (.int us0_13), .val (.int us0_23), .val (.int (1 : Int32))]) rfl z_) ?_
            show OWay p e below G T27 (mkF m 182 #[.val (.int p0), .val (.int p1), .val (.long q2), .second, .val (.int p3), .val (.int v5_1), .val (.int us0_2), .val (.ref b4), .val (.int v8_10), .val (.long u9_11), .second, .val (.int us0_13), .val (.int us0_23), .val (.int (1 : Int32))] [])
            refine ogo (fun _ z_ => XS.iload X27.here hx rfl (hb hby at_182) rfl z_) ?_
            show OWay p e below G T27 (mkF m 184 #[.val (.int p0), .val (.int p1), .val (.long q2), .second, .val (.int p3), .val (.int v5_1), .val (.int us0_2), .val (.ref b4), .val (.int v8_10), .val (.long u9_11), .second, .val (.int us0_13), .val (.int us0_23), .val (.int (1 : Int32))] [(.int (1 : Int32))])
            refine ogo (fun _ z_ => XS.ifNo X27.here hx rfl (hb hby at_184) rfl ((if0 _ _).trans (feq (by decide)).1) z_) ?_
            show OWay p e below G T27 (mkF m 187 #[.val (.int p0), .val (.int p1), .val (.long q2), .second, .val (.int p3), .val (.int v5_1), .val (.int us0_2), .val (.ref b4), .val (.int v8_10), .val (.long u9_11), .second, .val (.int us0_13), .val (.int us0_23), .val (.int (1 : Int32))] [])
            refine ogo (fun _ z_ => XS.aload X27.here hx rfl (hb hby at_187) rfl rfl z_) ?_
            show OWay p e below G T27 (mkF m 189 #[.val (.int p0), .val (.int p1), .val (.long q2), .second, .val (.int p3), .val (.int v5_1), .val (.int us0_2), .val (.ref b4), .val (.int v8_10), .val (.long u9_11), .second, .val (.int us0_13), .val (.int us0_23), .val (.int (1 : Int32))] [(.ref b4)])
            refine ogo (fun _ z_ => XS.iload X27.here hx rfl (hb hby at_189) rfl z_) ?_
            show OWay p e below G T27 (mkF m 191 #[.val (.int p0), .val (.int p1), .val (.long q2), .second, .val (.int p3), .val (.int v5_1), .val (.int us0_2), .val (.ref b4), .val (.int v8_10), .val (.long u9_11), .second, .val (.int us0_13), .val (.int us0_23), .val (.int (1 : Int32))] [(.int us0_2), (.ref b4)])
            refine ogo (fun _ z_ => XS.i2l X27.here hx rfl (hb hby at_191) rfl z_) ?_
            show OWay p e below G T27 (mkF m 192 #[.val (.int p0), .val (.int p1), .val (.long q2), .second, .val (.int p3), .val (.int v5_1), .val (.int us0_2), .val (.ref b4), .val (.int v8_10), .val (.long u9_11), .second, .val (.int us0_13), .val (.int us0_23), .val (.int (1 : Int32))] [(.long (us0_2.toInt64)), (.ref b4)])
            obtain ⟨_, T28, L28, X28, hQ28, st28⟩ := wVirtual X27 hx hZ (y := (⟨"com/example/slotwright/slotwright/Bounds", "allows", "(J)Z"⟩ : MethodName)) (z := (⟨"com/example/slotwright/slotwright/Bounds", "allows", "(J)Z"⟩ : MethodName)) hown (hw _ (List.mem_of_getElem? (i := 26) rfl)) (hw _ (List.mem_of_getElem? (i := 27) rfl)) (notFace_of_selects (args := #[]) (mvT hZ (hw _ (List.mem_of_getElem? (i := 29) rfl)))) (hw _ (List.mem_of_getElem? (i := 29) rfl)) (hw _ (List.mem_of_getElem? (i := 28) rfl)) (hw _ (List.mem_of_getElem? (i := 3) rfl)) (hw _ (List.mem_of_getElem? (i := 30) rfl)) (by decide) (alw_b_c l Z az hw [] b4 (us0_2.toInt64) v5_1 us0_2 T6.heap n0 (Nat.le_trans (Nat.le_trans Z0 E4.1) Kq6.1) P7 P8) 0 (by decide) (by decide) F26 (g := (mkF m 192 #[.val (.int p0), .val (.int p1), .val (.long q2), .second, .val (.int p3), .val (.int v5_1), .val (.int us0_2), .val (.ref b4), .val (.int v8_10), .val (.long u9_11), .second, .val (.int us0_13), .val (.int us0_23), .val (.int (1 : Int32))] [(.long (us0_2.toInt64)), (.ref b4)])) rfl (by rw [hml]; rfl) (argsL := [(.long (us0_2.toInt64))]) (rest := []) (lenOf pd__J_Z rfl) rfl (by show 2 * 0 + _ ≤ _; exact Nat.le_of_eq rfl) (hb hby at_192) rfl eq27 (by decide) (by decide)
            obtain ⟨rfl, N28q, eq28⟩ := hQ28
            have N28 := Fr.app N27 N28q
            refine ogoS st28 ?_
            show OWay p e below G T28 (mkF m 195 #[.val (.int p0), .val (.int p1), .val (.long q2), .second, .val (.int p3), .val (.int v5_1), .val (.int us0_2), .val (.ref b4), .val (.int v8_10), .val (.long u9_11), .second, .val (.int us0_13), .val (.int us0_23), .val (.int (1 : Int32))] [(.int (alw (us0_2.toInt64) v5_1 us0_2))])
            refine ogo (fun _ z_ => XS.iload X28.here hx rfl (hb hby at_195) rfl z_) ?_
            show OWay p e below G T28 (mkF m 197 #[.val (.int p0), .val (.int p1), .val (.long q2), .second, .val (.int p3), .val (.int v5_1), .val (.int us0_2), .val (.ref b4), .val (.int v8_10), .val (.long u9_11), .second, .val (.int us0_13), .val (.int us0_23), .val (.int (1 : Int32))] [(.int us0_13), (.int (alw (us0_2.toInt64) v5_1 us0_2))])
            refine ogo (fun _ z_ => XS.icmpNo X28.here hx rfl (hb hby at_197) rfl (teq (by rw [hus0_13]; exact own_hi v5_1 us0_2)).2 z_) ?_
            show OWay p e below G T28 (mkF m 200 #[.val (.int p0), .val (.int p1), .val (.long q2), .second, .val (.int p3), .val (.int v5_1), .val (.int us0_2), .val (.ref b4), .val (.int v8_10), .val (.long u9_11), .second, .val (.int us0_13), .val (.int us0_23), .val (.int (1 : Int32))] [])
            refine ogo (fun _ z_ => XS.iconst X28.here hx rfl (hb hby at_200) z_) ?_
            show OWay p e below G T28 (mkF m 201 #[.val (.int p0), .val (.int p1), .val (.long q2), .second, .val (.int p3), .val (.int v5_1), .val (.int us0_2), .val (.ref b4), .val (.int v8_10), .val (.long u9_11), .second, .val (.int us0_13), .val (.int us0_23), .val (.int (1 : Int32))] [(.int (1 : Int32))])
            refine ogo (fun _ z_ => XS.goto X28.here hx rfl (pc0 := 201) (pc' := 205) rfl (hb hby at_201) (by decide) (by decide) z_) ?_
            show OWay p e below G T28 (mkF m 205 #[.val (.int p0), .val (.int p1), .val (.long q2), .second, .val (.int p3), .val (.int v5_1), .val (.int us0_2), .val (.ref b4), .val (.int v8_10), .val (.long u9_11), .second, .val (.int us0_13), .val (.int us0_23), .val (.int (1 : Int32))] [(.int (1 : Int32))])
            refine ogo (fun _ z_ => XS.istore X28.here hx rfl (hb hby at_205) rfl (l' := #[.val (.int p0), .val (.int p1), .val (.long q2), .second, .val (.int p3), .val (.int v5_1), .val (.int us0_2), .val (.ref b4), .val (.int v8_10), .val (.long u9_11), .second, .val (.int us0_13), .val (.int us0_23), .val (.int (1 : Int32))]) rfl z_) ?_
            show OWay p e below G T28 (mkF m 207 #[.val (.int p0), .val (.int p1), .val (.long q2), .second, .val (.int p3), .val (.int v5_1), .val (.int us0_2), .val (.ref b4), .val (.int v8_10), .val (.long u9_11), .second, .val (.int us0_13), .val (.int us0_23), .val (.int (1 : Int32))] [])
            refine ogo (fun _ z_ => XS.iload X28.here hx rfl (hb hby at_207) rfl z_) ?_
            show OWay p e below G T28 (mkF m 209 #[.val (.int p0), .val (.int p1), .val (.long q2), .second, .val (.int p3), .val (.int v5_1), .val (.int us0_2), .val (.ref b4), .val (.int v8_10), .val (.long u9_11), .second, .val (.int us0_13), .val (.int us0_23), .val (.int (1 : Int32))] [(.int (1 : Int32))])
            refine ogo (fun _ z_ => XS.ifNo X28.here hx rfl (hb hby at_209) rfl ((if0 _ _).trans (feq (by decide)).1) z_) ?_
            show OWay p e below G T28 (mkF m 212 #[.val (.int p0), .val (.int p1), .val (.long q2), .second, .val (.int p3), .val (.int v5_1), .val (.int us0_2), .val (.ref b4), .val (.int v8_10), .val (.long u9_11), .second, .val (.int us0_13), .val (.int us0_23), .val (.int (1 : Int32))] [])
            refine ogo (fun _ z_ => XS.aload X28.here hx rfl (hb hby at_212) rfl rfl z_) ?_
            show OWay p e below G T28 (mkF m 214 #[.val (.int p0), .val (.int p1), .val (.long q2), .second, .val (.int p3), .val (.int v5_1), .val (.int us0_2), .val (.ref b4), .val (.int v8_10), .val (.long u9_11), .second, .val (.int us0_13), .val (.int us0_23), .val (.int (1 : Int32))] [(.ref b4)])
            refine ogo (fun _ z_ => XS.iload X28.here hx rfl (hb hby at_214) rfl z_) ?_
            show OWay p e below G T28 (mkF m 216 #[.val (.int p0), .val (.int p1), .val (.long q2), .second, .val (.int p3), .val (.int v5_1), .val (.int us0_2), .val (.ref b4), .val (.int v8_10), .val (.long u9_11), .second, .val (.int us0_13), .val (.int us0_23), .val (.int (1 : Int32))] [(.int v5_1), (.ref b4)])
            refine ogo (fun _ z_ => XS.i2l X28.here hx rfl (hb hby at_216) rfl z_) ?_
            show OWay p e below G T28 (mkF m 217 #[.val (.int p0), .val (.int p1), .val (.long q2), .second, .val (.int p3), .val (.int v5_1), .val (.int us0_2), .val (.ref b4), .val (.int v8_10), .val (.long u9_11), .second, .val (.int us0_13), .val (.int us0_23), .val (.int (1 : Int32))] [(.long (v5_1.toInt64)), (.ref b4)])
            refine ogo (fun _ z_ => XS.lconst X28.here hx rfl (hb hby at_217) z_) ?_
            show OWay p e below G T28 (mkF m 218 #[.val (.int p0), .val (.int p1), .val (.long q2), .second, .val (.int p3), .val (.int v5_1), .val (.int us0_2), .val (.ref b4), .val (.int v8_10), .val (.long u9_11), .second, .val (.int us0_13), .val (.int us0_23), .val (.int (1 : Int32))] [(.long (1 : Int64)), (.long (v5_1.toInt64)), (.ref b4)])
            refine ogo (fun _ z_ => XS.lsub X28.here hx rfl (hb hby at_218) rfl z_) ?_
            show OWay p e below G T28 (mkF m 219 #[.val (.int p0), .val (.int p1), .val (.long q2), .second, .val (.int p3), .val (.int v5_1), .val (.int us0_2), .val (.ref b4), .val (.int v8_10), .val (.long u9_11), .second, .val (.int us0_13), .val (.int us0_23), .val (.int (1 : Int32))] [(.long ((v5_1.toInt64) - (1 : Int64))), (.ref b4)])
            obtain ⟨_, T29, L29, X29, hQ29, st29⟩ := wVirtual X28 hx hZ (y := (⟨"com/example/slotwright/slotwright/Bounds", "allows", "(J)Z"⟩ : MethodName)) (z := (⟨"com/example/slotwright/slotwright/Bounds", "allows", "(J)Z"⟩ : MethodName)) hown (hw _ (List.mem_of_getElem? (i := 26) rfl)) (hw _ (List.mem_of_getElem? (i := 27) rfl)) (notFace_of_selects (args := #[]) (mvT hZ (hw _ (List.mem_of_getElem? (i := 29) rfl)))) (hw _ (List.mem_of_getElem? (i := 29) rfl)) (hw _ (List.mem_of_getElem? (i := 28) rfl)) (hw _ (List.mem_of_getElem? (i := 3) rfl)) (hw _ (List.mem_of_getElem? (i := 30) rfl)) (by decide) (alw_b_c l Z az hw [] b4 ((v5_1.toInt64) - (1 : Int64)) v5_1 us0_2 T6.heap n0 (Nat.le_trans (Nat.le_trans Z0 E4.1) Kq6.1) P7 P8) 0 (by decide) (by decide) F26 (g := (mkF m 219 #[.val (.int p0), .val (.int p1), .val (.long q2), .second, .val (.int p3), .val (.int v5_1), .val (.int us0_2), .val (.ref b4), .val (.int v8_10), .val (.long u9_11), .second, .val (.int us0_13), .val (.int us0_23), .val (.int (1 : Int32))] [(.long ((v5_1.toInt64) - (1 : Int64))), (.ref b4)])) rfl (by rw [hml]; rfl) (argsL := [(.long ((v5_1.toInt64) - (1 : Int64)))]) (rest := []) (lenOf pd__J_Z rfl) rfl (by show 2 * 0 + _ ≤ _; exact Nat.le_of_eq rfl) (hb hby at_219) rfl eq28 (by decide) (by decide)
            obtain ⟨rfl, N29q, eq29⟩ := hQ29
            have N29 := Fr.app N28 N29q
            refine ogoS st29 ?_
            show OWay p e below G T29 (mkF m 222 #[.val (.int p0), .val (.int p1), .val (.long q2), .second, .val (.int p3), .val (.int v5_1), .val (.int us0_2), .val (.ref b4), .val (.int v8_10), .val (.long u9_11), .second, .val (.int us0_13), .val (.int us0_23), .val (.int (1 : Int32))] [(.int (alw ((v5_1.toInt64) - (1 : Int64)) v5_1 us0_2))])
            refine ogo (fun _ z_ => XS.ifNo X29.here hx rfl (hb hby at_222) rfl ((if0 _ _).trans (teq (own_lo1 v5_1 us0_2)).2) z_) ?_
            show OWay p e below G T29 (mkF m 225 #[.val (.int p0), .val (.int p1), .val (.long q2), .second, .val (.int p3), .val (.int v5_1), .val (.int us0_2), .val (.ref b4), .val (.int v8_10), .val (.long u9_11), .second, .val (.int us0_13), .val (.int us0_23), .val (.int (1 : Int32))] [])
            refine ogo (fun _ z_ => XS.iconst X29.here hx rfl (hb hby at_225) z_) ?_
            show OWay p e below G T29 (mkF m 226 #[.val (.int p0), .val (.int p1), .val (.long q2), .second, .val (.int p3), .val (.int v5_1), .val (.int us0_2), .val (.ref b4), .val (.int v8_10), .val (.long u9_11), .second, .val (.int us0_13), .val (.int us0_23), .val (.int (1 : Int32))] [(.int (1 : Int32))])
            refine ogo (fun _ z_ => XS.goto X29.here hx rfl (pc0 := 226) (pc' := 230) rfl (hb hby at_226) (by decide) (by decide) z_) ?_
            show OWay p e below G T29 (mkF m 230 #[.val (.int p0), .val (.int p1), .val (.long q2), .second, .val (.int p3), .val (.int v5_1), .val (.int us0_2), .val (.ref b4), .val (.int v8_10), .val (.long u9_11), .second, .val (.int us0_13), .val (.int us0_23), .val (.int (1 : Int32))] [(.int (1 : Int32))])
            refine ogo (fun _ z_ => XS.istore X29.here hx rfl (hb hby at_230) rfl (l' := #[.val (.int p0), .val (.int p1), .val (.long q2), .second, .val (.int p3), .val (.int v5_1), .val (.int us0_2), .val (.ref b4), .val (.int v8_10), .val (.long u9_11), .second, .val (.int us0_13), .val (.int us0_23), .val (.int (1 : Int32))]) rfl z_) ?_
            show OWay p e below G T29 (mkF m 232 #[.val (.int p0), .val (.int p1), .val (.long q2), .second, .val (.int p3), .val (.int v5_1), .val (.int us0_2), .val (.ref b4), .val (.int v8_10), .val (.long u9_11), .second, .val (.int us0_13), .val (.int us0_23), .val (.int (1 : Int32))] [])
            refine ogo (fun _ z_ => XS.iload X29.here hx rfl (hb hby at_232) rfl z_) ?_
            show OWay p e below G T29 (mkF m 234 #[.val (.int p0), .val (.int p1), .val (.long q2), .second, .val (.int p3), .val (.int v5_1), .val (.int us0_2), .val (.ref b4), .val (.int v8_10), .val (.long u9_11), .second, .val (.int us0_13), .val (.int us0_23), .val (.int (1 : Int32))] [(.int (1 : Int32))])
            refine ogo (fun _ z_ => XS.ifNo X29.here hx rfl (hb hby at_234) rfl ((if0 _ _).trans (feq (by decide)).1) z_) ?_
            show OWay p e below G T29 (mkF m 237 #[.val (.int p0), .val (.int p1), .val (.long q2), .second, .val (.int p3), .val (.int v5_1), .val (.int us0_2), .val (.ref b4), .val (.int v8_10), .val (.long u9_11), .second, .val (.int us0_13), .val (.int us0_23), .val (.int (1 : Int32))] [])
            refine ogo (fun _ z_ => XS.aload X29.here hx rfl (hb hby at_237) rfl rfl z_) ?_
            show OWay p e below G T29 (mkF m 239 #[.val (.int p0), .val (.int p1), .val (.long q2), .second, .val (.int p3), .val (.int v5_1), .val (.int us0_2), .val (.ref b4), .val (.int v8_10), .val (.long u9_11), .second, .val (.int us0_13), .val (.int us0_23), .val (.int (1 : Int32))] [(.ref b4)])
            refine ogo (fun _ z_ => XS.iload X29.here hx rfl (hb hby at_239) rfl z_) ?_
            show OWay p e below G T29 (mkF m 241 #[.val (.int p0), .val (.int p1), .val (.long q2), .second, .val (.int p3), .val (.int v5_1), .val (.int us0_2), .val (.ref b4), .val (.int v8_10), .val (.long u9_11), .second, .val (.int us0_13), .val (.int us0_23), .val (.int (1 : Int32))] [(.int us0_2), (.ref b4)])
            refine ogo (fun _ z_ => XS.i2l X29.here hx rfl (hb hby at_241) rfl z_) ?_
            show OWay p e below G T29 (mkF m 242 #[.val (.int p0), .val (.int p1), .val (.long q2), .second, .val (.int p3), .val (.int v5_1), .val (.int us0_2), .val (.ref b4), .val (.int v8_10), .val (.long u9_11), .second, .val (.int us0_13), .val (.int us0_23), .val (.int (1 : Int32))] [(.long (us0_2.toInt64)), (.ref b4)])
            refine ogo (fun _ z_ => XS.lconst X29.here hx rfl (hb hby at_242) z_) ?_
            show OWay p e below G T29 (mkF m 243 #[.val (.int p0), .val (.int p1), .val (.long q2), .second, .val (.int p3), .val (.int v5_1), .val (.int us0_2), .val (.ref b4), .val (.int v8_10), .val (.long u9_11), .second, .val (.int us0_13), .val (.int us0_23), .val (.int (1 : Int32))] [(.long (1 : Int64)), (.long (us0_2.toInt64)), (.ref b4)])
            refine ogo (fun _ z_ => XS.ladd X29.here hx rfl (hb hby at_243) rfl z_) ?_
            show OWay p e below G T29 (mkF m 244 #[.val (.int p0), .val (.int p1), .val (.long q2), .second, .val (.int p3), .val (.int v5_1), .val (.int us0_2), .val (.ref b4), .val (.int v8_10), .val (.long u9_11), .second, .val (.int us0_13), .val (.int us0_23), .val (.int (1 : Int32))] [(.long ((us0_2.toInt64) + (1 : Int64))), (.ref b4)])
            obtain ⟨_, T30, L30, X30, hQ30, st30⟩ := wVirtual X29 hx hZ (y := (⟨"com/example/slotwright/slotwright/Bounds", "allows", "(J)Z"⟩ : MethodName)) (z := (⟨"com/example/slotwright/slotwright/Bounds", "allows", "(J)Z"⟩ : MethodName)) hown (hw _ (List.mem_of_getElem? (i := 26) rfl)) (hw _ (List.mem_of_getElem? (i := 27) rfl)) (notFace_of_selects (args := #[]) (mvT hZ (hw _ (List.mem_of_getElem? (i := 29) rfl)))) (hw _ (List.mem_of_getElem? (i := 29) rfl)) (hw _ (List.mem_of_getElem? (i := 28) rfl)) (hw _ (List.mem_of_getElem? (i := 3) rfl)) (hw _ (List.mem_of_getElem? (i := 30) rfl)) (by decide) (alw_b_c l Z az hw [] b4 ((us0_2.toInt64) + (1 : Int64)) v5_1 us0_2 T6.heap n0 (Nat.le_trans (Nat.le_trans Z0 E4.1) Kq6.1) P7 P8) 0 (by decide) (by decide) F26 (g := (mkF m 244 #[.val (.int p0), .val (.int p1), .val (.long q2), .second, .val (.int p3), .val (.int v5_1), .val (.int us0_2), .val (.ref b4), .val (.int v8_10), .val (.long u9_11), .second, .val (.int us0_13), .val (.int us0_23), .val (.int (1 : Int32))] [(.long ((us0_2.toInt64) + (1 : Int64))), (.ref b4)])) rfl (by rw [hml]; rfl) (argsL := [(.long ((us0_2.toInt64) + (1 : Int64)))]) (rest := []) (lenOf pd__J_Z rfl) rfl (by show 2 * 0 + _ ≤ _; exact Nat.le_of_eq rfl) (hb hby at_244) rfl eq29 (by decide) (by decide)
            obtain ⟨rfl, N30q, eq30⟩ := hQ30
            have N30 := Fr.app N29 N30q
            refine ogoS st30 ?_
            show OWay p e below G T30 (mkF m 247 #[.val (.int p0), .val (.int p1), .val (.long q2), .second, .val (.int p3), .val (.int v5_1), .val (.int us0_2), .val (.ref b4), .val (.int v8_10), .val (.long u9_11), .second, .val (.int us0_13), .val (.int us0_23), .val (.int (1 : Int32))] [(.int (alw ((us0_2.toInt64) + (1 : Int64)) v5_1 us0_2))])
            refine ogo (fun _ z_ => XS.ifNo X30.here hx rfl (hb hby at_247) rfl ((if0 _ _).trans (teq (own_hi1 v5_1 us0_2)).2) z_) ?_
            show OWay p e below G T30 (mkF m 250 #[.val (.int p0), .val (.int p1), .val (.long q2), .second, .val (.int p3), .val (.int v5_1), .val (.int us0_2), .val (.ref b4), .val (.int v8_10), .val (.long u9_11), .second, .val (.int us0_13), .val (.int us0_23), .val (.int (1 : Int32))] [])
            refine ogo (fun _ z_ => XS.iconst X30.here hx rfl (hb hby at_250) z_) ?_
            show OWay p e below G T30 (mkF m 251 #[.val (.int p0), .val (.int p1), .val (.long q2), .second, .val (.int p3), .val (.int v5_1), .val (.int us0_2), .val (.ref b4), .val (.int v8_10), .val (.long u9_11), .second, .val (.int us0_13), .val (.int us0_23), .val (.int (1 : Int32))] [(.int (1 : Int32))])
            refine ogo (fun _ z_ => XS.goto X30.here hx rfl (pc0 := 251) (pc' := 255) rfl (hb hby at_251) (by decide) (by decide) z_) ?_
            show OWay p e below G T30 (mkF m 255 #[.val (.int p0), .val (.int p1), .val (.long q2), .second, .val (.int p3), .val (.int v5_1), .val (.int us0_2), .val (.ref b4), .val (.int v8_10), .val (.long u9_11), .second, .val (.int us0_13), .val (.int us0_23), .val (.int (1 : Int32))] [(.int (1 : Int32))])
            refine ogo (fun _ z_ => XS.istore X30.here hx rfl (hb hby at_255) rfl (l' := #[.val (.int p0), .val (.int p1), .val (.long q2), .second, .val (.int p3), .val (.int v5_1), .val (.int us0_2), .val (.ref b4), .val (.int v8_10), .val (.long u9_11), .second, .val (.int us0_13), .val (.int us0_23), .val (.int (1 : Int32))]) rfl z_) ?_
            show OWay p e below G T30 (mkF m 257 #[.val (.int p0), .val (.int p1), .val (.long q2), .second, .val (.int p3), .val (.int v5_1), .val (.int us0_2), .val (.ref b4), .val (.int v8_10), .val (.long u9_11), .second, .val (.int us0_13), .val (.int us0_23), .val (.int (1 : Int32))] [])
            refine ogo (fun _ z_ => XS.iload X30.here hx rfl (hb hby at_257) rfl z_) ?_
            show OWay p e below G T30 (mkF m 259 #[.val (.int p0), .val (.int p1), .val (.long q2), .second, .val (.int p3), .val (.int v5_1), .val (.int us0_2), .val (.ref b4), .val (.int v8_10), .val (.long u9_11), .second, .val (.int us0_13), .val (.int us0_23), .val (.int (1 : Int32))] [(.int (1 : Int32))])
            subst hG
            refine wRetN X30 hx (t := .boolean) hret hlk (by simp) (hb hby at_259) (by decide) (by decide) eq30 ?_
            exact ⟨rfl, N30⟩
          by_cases c128 : (lmin (lmax u9_11 (v5_1.toInt64)) (us0_2.toInt64)) = u9_11
          · refine ogo (fun _ z_ => XS.ifNo X22.here hx rfl (hb hby at_128) rfl ((if0 _ _).trans (teq ((lw_eq _ _).mpr c128)).2) z_) ?_
            show OWay p e below G T22 (mkF m 131 #[.val (.int p0), .val (.int p1), .val (.long q2), .second, .val (.int p3), .val (.int v5_1), .val (.int us0_2), .val (.ref b4), .val (.int v8_10), .val (.long u9_11), .second, .val (.int us0_13), .unset, .unset] [])
            refine ogo (fun _ z_ => XS.iconst X22.here hx rfl (hb hby at_131) z_) ?_
            show OWay p e below G T22 (mkF m 132 #[.val (.int p0), .val (.int p1), .val (.long q2), .second, .val (.int p3), .val (.int v5_1), .val (.int us0_2), .val (.ref b4), .val (.int v8_10), .val (.long u9_11), .second, .val (.int us0_13), .unset, .unset] [(.int (1 : Int32))])
            refine ogo (fun _ z_ => XS.goto X22.here hx rfl (pc0 := 132) (pc' := 136) rfl (hb hby at_132) (by decide) (by decide) z_) ?_
            show OWay p e below G T22 (mkF m 136 #[.val (.int p0), .val (.int p1), .val (.long q2), .second, .val (.int p3), .val (.int v5_1), .val (.int us0_2), .val (.ref b4), .val (.int v8_10), .val (.long u9_11), .second, .val (.int us0_13), .unset, .unset] [(.int (1 : Int32))])
            exact J24 _ ((if_pos c128).trans rfl).symm
          · refine ogo (fun _ z_ => XS.ifYes X22.here hx rfl (pc0 := 128) (pc' := 135) rfl (hb hby at_128) rfl ((if0 _ _).trans (feq (fun q => c128 ((lw_eq _ _).mp q))).2) (by decide) (by decide) z_) ?_
            show OWay p e below G T22 (mkF m 135 #[.val (.int p0), .val (.int p1), .val (.long q2), .second, .val (.int p3), .val (.int v5_1), .val (.int us0_2), .val (.ref b4), .val (.int v8_10), .val (.long u9_11), .second, .val (.int us0_13), .unset, .unset] [])
            refine ogo (fun _ z_ => XS.iconst X22.here hx rfl (hb hby at_135) z_) ?_
            show OWay p e below G T22 (mkF m 136 #[.val (.int p0), .val (.int p1), .val (.long q2), .second, .val (.int p3), .val (.int v5_1), .val (.int us0_2), .val (.ref b4), .val (.int v8_10), .val (.long u9_11), .second, .val (.int us0_13), .unset, .unset] [(.int (0 : Int32))])
            exact J24 _ ((if_neg c128).trans rfl).symm
      by_cases c96 : us0_2 < v5_1
      · refine ogo (fun _ z_ => XS.icmpYes X6.here hx rfl (pc0 := 96) (pc' := 103) rfl (hb hby at_96) rfl (tlt c96).2.2.1 (by decide) (by decide) z_) ?_
        show OWay p e below G T6 (mkF m 103 #[.val (.int p0), .val (.int p1), .val (.long q2), .second, .val (.int p3), .val (.int v5_1), .val (.int us0_2), .val (.ref b4), .val (.int v8_10), .val (.long u9_11), .second, .unset, .unset, .unset] [])
        refine ogo (fun _ z_ => XS.iconst X6.here hx rfl (hb hby at_103) z_) ?_
        show OWay p e below G T6 (mkF m 104 #[.val (.int p0), .val (.int p1), .val (.long q2), .second, .val (.int p3), .val (.int v5_1), .val (.int us0_2), .val (.ref b4), .val (.int v8_10), .val (.long u9_11), .second, .unset, .unset, .unset] [(.int (0 : Int32))])
        exact J14 _ ((if_pos c96).trans rfl).symm
      · refine ogo (fun _ z_ => XS.icmpNo X6.here hx rfl (hb hby at_96) rfl (flt c96).2.2.1 z_) ?_
        show OWay p e below G T6 (mkF m 99 #[.val (.int p0), .val (.int p1), .val (.long q2), .second, .val (.int p3), .val (.int v5_1), .val (.int us0_2), .val (.ref b4), .val (.int v8_10), .val (.long u9_11), .second, .unset, .unset, .unset] [])
        refine ogo (fun _ z_ => XS.iconst X6.here hx rfl (hb hby at_99) z_) ?_
        show OWay p e below G T6 (mkF m 100 #[.val (.int p0), .val (.int p1), .val (.long q2), .second, .val (.int p3), .val (.int v5_1), .val (.int us0_2), .val (.ref b4), .val (.int v8_10), .val (.long u9_11), .second, .unset, .unset, .unset] [(.int (1 : Int32))])
        refine ogo (fun _ z_ => XS.goto X6.here hx rfl (pc0 := 100) (pc' := 104) rfl (hb hby at_100) (by decide) (by decide) z_) ?_
        show OWay p e below G T6 (mkF m 104 #[.val (.int p0), .val (.int p1), .val (.long q2), .second, .val (.int p3), .val (.int v5_1), .val (.int us0_2), .val (.ref b4), .val (.int v8_10), .val (.long u9_11), .second, .unset, .unset, .unset] [(.int (1 : Int32))])
        exact J14 _ ((if_neg c96).trans rfl).symm
    by_cases c46 : v8_10 = (1 : Int32)
    · refine ogo (fun _ z_ => XS.icmpNo X6.here hx rfl (hb hby at_46) rfl (teq c46).2 z_) ?_
      show OWay p e below G T6 (mkF m 49 #[.val (.int p0), .val (.int p1), .val (.long q2), .second, .val (.int p3), .val (.int v5_1), .val (.int us0_2), .val (.ref b4), .val (.int v8_10), .unset, .unset, .unset, .unset, .unset] [])
      refine ogo (fun _ z_ => XS.iload X6.here hx rfl (hb hby at_49) rfl z_) ?_
      show OWay p e below G T6 (mkF m 51 #[.val (.int p0), .val (.int p1), .val (.long q2), .second, .val (.int p3), .val (.int v5_1), .val (.int us0_2), .val (.ref b4), .val (.int v8_10), .unset, .unset, .unset, .unset, .unset] [(.int v5_1)])
      refine ogo (fun _ z_ => XS.i2l X6.here hx rfl (hb hby at_51) rfl z_) ?_
      show OWay p e below G T6 (mkF m 52 #[.val (.int p0), .val (.int p1), .val (.long q2), .second, .val (.int p3), .val (.int v5_1), .val (.int us0_2), .val (.ref b4), .val (.int v8_10), .unset, .unset, .unset, .unset, .unset] [(.long (v5_1.toInt64))])
      refine ogo (fun _ z_ => XS.lloadN X6.here hx rfl (hb hby at_52) rfl z_) ?_
      show OWay p e below G T6 (mkF m 53 #[.val (.int p0), .val (.int p1), .val (.long q2), .second, .val (.int p3), .val (.int v5_1), .val (.int us0_2), .val (.ref b4), .val (.int v8_10), .unset, .unset, .unset, .unset, .unset] [(.long q2), (.long (v5_1.toInt64))])
      refine ogo (fun _ z_ => X6.ldc2Long hx hown (mvT hZ (hw _ (List.mem_of_getElem? (i := 31) rfl))) (g := (mkF m 53 #[.val (.int p0), .val (.int p1), .val (.long q2), .second, .val (.int p3), .val (.int v5_1), .val (.int us0_2), .val (.ref b4), .val (.int v8_10), .unset, .unset, .unset, .unset, .unset] [(.long q2), (.long (v5_1.toInt64))])) rfl (hb hby at_53) _ z_) ?_
      show OWay p e below G T6 (mkF m 56 #[.val (.int p0), .val (.int p1), .val (.long q2), .second, .val (.int p3), .val (.int v5_1), .val (.int us0_2), .val (.ref b4), .val (.int v8_10), .unset, .unset, .unset, .unset, .unset] [(.long (3 : Int64)), (.long q2), (.long (v5_1.toInt64))])
      refine ogo (fun _ z_ => XS.land X6.here hx rfl (hb hby at_56) rfl z_) ?_
      show OWay p e below G T6 (mkF m 57 #[.val (.int p0), .val (.int p1), .val (.long q2), .second, .val (.int p3), .val (.int v5_1), .val (.int us0_2), .val (.ref b4), .val (.int v8_10), .unset, .unset, .unset, .unset, .unset] [(.long (q2 &&& (3 : Int64))), (.long (v5_1.toInt64))])
      refine ogo (fun _ z_ => XS.ladd X6.here hx rfl (hb hby at_57) rfl z_) ?_
      show OWay p e below G T6 (mkF m 58 #[.val (.int p0), .val (.int p1), .val (.long q2), .second, .val (.int p3), .val (.int v5_1), .val (.int us0_2), .val (.ref b4), .val (.int v8_10), .unset, .unset, .unset, .unset, .unset] [(.long ((v5_1.toInt64) + (q2 &&& (3 : Int64))))])
      refine ogo (fun _ z_ => X6.ldc2Long hx hown (mvT hZ (hw _ (List.mem_of_getElem? (i := 32) rfl))) (g := (mkF m 58 #[.val (.int p0), .val (.int p1), .val (.long q2), .second, .val (.int p3), .val (.int v5_1), .val (.int us0_2), .val (.ref b4), .val (.int v8_10), .unset, .unset, .unset, .unset, .unset] [(.long ((v5_1.toInt64) + (q2 &&& (3 : Int64))))])) rfl (hb hby at_58) _ z_) ?_
      show OWay p e below G T6 (mkF m 61 #[.val (.int p0), .val (.int p1), .val (.long q2), .second, .val (.int p3), .val (.int v5_1), .val (.int us0_2), .val (.ref b4), .val (.int v8_10), .unset, .unset, .unset, .unset, .unset] [(.long (2 : Int64)), (.long ((v5_1.toInt64) + (q2 &&& (3 : Int64))))])
      refine ogo (fun _ z_ => XS.lsub X6.here hx rfl (hb hby at_61) rfl z_) ?_
      show OWay p e below G T6 (mkF m 62 #[.val (.int p0), .val (.int p1), .val (.long q2), .second, .val (.int p3), .val (.int v5_1), .val (.int us0_2), .val (.ref b4), .val (.int v8_10), .unset, .unset, .unset, .unset, .unset] [(.long (((v5_1.toInt64) + (q2 &&& (3 : Int64))) - (2 : Int64)))])
      refine ogo (fun _ z_ => XS.lstore X6.here hx rfl (hb hby at_62) rfl (l' := #[.val (.int p0), .val (.int p1), .val (.long q2), .second, .val (.int p3), .val (.int v5_1), .val (.int us0_2), .val (.ref b4), .val (.int v8_10), .val (.long (((v5_1.toInt64) + (q2 &&& (3 : Int64))) - (2 : Int64))), .second, .unset, .unset, .unset]) rfl z_) ?_
      show OWay p e below G T6 (mkF m 64 #[.val (.int p0), .val (.int p1), .val (.long q2), .second, .val (.int p3), .val (.int v5_1), .val (.int us0_2), .val (.ref b4), .val (.int v8_10), .val (.long (((v5_1.toInt64) + (q2 &&& (3 : Int64))) - (2 : Int64))), .second, .unset, .unset, .unset] [])
      refine ogo (fun _ z_ => XS.goto X6.here hx rfl (pc0 := 64) (pc' := 92) rfl (hb hby at_64) (by decide) (by decide) z_) ?_
      show OWay p e below G T6 (mkF m 92 #[.val (.int p0), .val (.int p1), .val (.long q2), .second, .val (.int p3), .val (.int v5_1), .val (.int us0_2), .val (.ref b4), .val (.int v8_10), .val (.long (((v5_1.toInt64) + (q2 &&& (3 : Int64))) - (2 : Int64))), .second, .unset, .unset, .unset] [])
      exact J12 _ ((if_pos c46).trans rfl).symm
    · refine ogo (fun _ z_ => XS.icmpYes X6.here hx rfl (pc0 := 46) (pc' := 67) rfl (hb hby at_46) rfl (feq c46).2 (by decide) (by decide) z_) ?_
      show OWay p e below G T6 (mkF m 67 #[.val (.int p0), .val (.int p1), .val (.long q2), .second, .val (.int p3), .val (.int v5_1), .val (.int us0_2), .val (.ref b4), .val (.int v8_10), .unset, .unset, .unset, .unset, .unset] [])
      refine ogo (fun _ z_ => XS.iload X6.here hx rfl (hb hby at_67) rfl z_) ?_
      show OWay p e below G T6 (mkF m 69 #[.val (.int p0), .val (.int p1), .val (.long q2), .second, .val (.int p3), .val (.int v5_1), .val (.int us0_2), .val (.ref b4), .val (.int v8_10), .unset, .unset, .unset, .unset, .unset] [(.int v8_10)])
      refine ogo (fun _ z_ => XS.iconst X6.here hx rfl (hb hby at_69) z_) ?_
      show OWay p e below G T6 (mkF m 70 #[.val (.int p0), .val (.int p1), .val (.long q2), .second, .val (.int p3), .val (.int v5_1), .val (.int us0_2), .val (.ref b4), .val (.int v8_10), .unset, .unset, .unset, .unset, .unset] [(.int (2 : Int32)), (.int v8_10)])
      by_cases c70 : v8_10 = (2 : Int32)
      · refine ogo (fun _ z_ => XS.icmpNo X6.here hx rfl (hb hby at_70) rfl (teq c70).2 z_) ?_
        show OWay p e below G T6 (mkF m 73 #[.val (.int p0), .val (.int p1), .val (.long q2), .second, .val (.int p3), .val (.int v5_1), .val (.int us0_2), .val (.ref b4), .val (.int v8_10), .unset, .unset, .unset, .unset, .unset] [])
        refine ogo (fun _ z_ => XS.iload X6.here hx rfl (hb hby at_73) rfl z_) ?_
        show OWay p e below G T6 (mkF m 75 #[.val (.int p0), .val (.int p1), .val (.long q2), .second, .val (.int p3), .val (.int v5_1), .val (.int us0_2), .val (.ref b4), .val (.int v8_10), .unset, .unset, .unset, .unset, .unset] [(.int us0_2)])
        refine ogo (fun _ z_ => XS.i2l X6.here hx rfl (hb hby at_75) rfl z_) ?_
        show OWay p e below G T6 (mkF m 76 #[.val (.int p0), .val (.int p1), .val (.long q2), .second, .val (.int p3), .val (.int v5_1), .val (.int us0_2), .val (.ref b4), .val (.int v8_10), .unset, .unset, .unset, .unset, .unset] [(.long (us0_2.toInt64))])
        refine ogo (fun _ z_ => XS.lloadN X6.here hx rfl (hb hby at_76) rfl z_) ?_
        show OWay p e below G T6 (mkF m 77 #[.val (.int p0), .val (.int p1), .val (.long q2), .second, .val (.int p3), .val (.int v5_1), .val (.int us0_2), .val (.ref b4), .val (.int v8_10), .unset, .unset, .unset, .unset, .unset] [(.long q2), (.long (us0_2.toInt64))])
        refine ogo (fun _ z_ => X6.ldc2Long hx hown (mvT hZ (hw _ (List.mem_of_getElem? (i := 31) rfl))) (g := (mkF m 77 #[.val (.int p0), .val (.int p1), .val (.long q2), .second, .val (.int p3), .val (.int v5_1), .val (.int us0_2), .val (.ref b4), .val (.int v8_10), .unset, .unset, .unset, .unset, .unset] [(.long q2), (.long (us0_2.toInt64))])) rfl (hb hby at_77) _ z_) ?_
        show OWay p e below G T6 (mkF m 80 #[.val (.int p0), .val (.int p1), .val (.long q2), .second, .val (.int p3), .val (.int v5_1), .val (.int us0_2), .val (.ref b4), .val (.int v8_10), .unset, .unset, .unset, .unset, .unset] [(.long (3 : Int64)), (.long q2), (.long (us0_2.toInt64))])
        refine ogo (fun _ z_ => XS.land X6.here hx rfl (hb hby at_80) rfl z_) ?_
        show OWay p e below G T6 (mkF m 81 #[.val (.int p0), .val (.int p1), .val (.long q2), .second, .val (.int p3), .val (.int v5_1), .val (.int us0_2), .val (.ref b4), .val (.int v8_10), .unset, .unset, .unset, .unset, .unset] [(.long (q2 &&& (3 : Int64))), (.long (us0_2.toInt64))])
        refine ogo (fun _ z_ => XS.ladd X6.here hx rfl (hb hby at_81) rfl z_) ?_
        show OWay p e below G T6 (mkF m 82 #[.val (.int p0), .val (.int p1), .val (.long q2), .second, .val (.int p3), .val (.int v5_1), .val (.int us0_2), .val (.ref b4), .val (.int v8_10), .unset, .unset, .unset, .unset, .unset] [(.long ((us0_2.toInt64) + (q2 &&& (3 : Int64))))])
        refine ogo (fun _ z_ => XS.lconst X6.here hx rfl (hb hby at_82) z_) ?_
        show OWay p e below G T6 (mkF m 83 #[.val (.int p0), .val (.int p1), .val (.long q2), .second, .val (.int p3), .val (.int v5_1), .val (.int us0_2), .val (.ref b4), .val (.int v8_10), .unset, .unset, .unset, .unset, .unset] [(.long (1 : Int64)), (.long ((us0_2.toInt64) + (q2 &&& (3 : Int64))))])
        refine ogo (fun _ z_ => XS.lsub X6.here hx rfl (hb hby at_83) rfl z_) ?_
        show OWay p e below G T6 (mkF m 84 #[.val (.int p0), .val (.int p1), .val (.long q2), .second, .val (.int p3), .val (.int v5_1), .val (.int us0_2), .val (.ref b4), .val (.int v8_10), .unset, .unset, .unset, .unset, .unset] [(.long (((us0_2.toInt64) + (q2 &&& (3 : Int64))) - (1 : Int64)))])
        refine ogo (fun _ z_ => XS.lstore X6.here hx rfl (hb hby at_84) rfl (l' := #[.val (.int p0), .val (.int p1), .val (.long q2), .second, .val (.int p3), .val (.int v5_1), .val (.int us0_2), .val (.ref b4), .val (.int v8_10), .val (.long (((us0_2.toInt64) + (q2 &&& (3 : Int64))) - (1 : Int64))), .second, .unset, .unset, .unset]) rfl z_) ?_
        show OWay p e below G T6 (mkF m 86 #[.val (.int p0), .val (.int p1), .val (.long q2), .second, .val (.int p3), .val (.int v5_1), .val (.int us0_2), .val (.ref b4), .val (.int v8_10), .val (.long (((us0_2.toInt64) + (q2 &&& (3 : Int64))) - (1 : Int64))), .second, .unset, .unset, .unset] [])
        refine ogo (fun _ z_ => XS.goto X6.here hx rfl (pc0 := 86) (pc' := 92) rfl (hb hby at_86) (by decide) (by decide) z_) ?_
        show OWay p e below G T6 (mkF m 92 #[.val (.int p0), .val (.int p1), .val (.long q2), .second, .val (.int p3), .val (.int v5_1), .val (.int us0_2), .val (.ref b4), .val (.int v8_10), .val (.long (((us0_2.toInt64) + (q2 &&& (3 : Int64))) - (1 : Int64))), .second, .unset, .unset, .unset] [])
        exact J12 _ ((if_neg c46).trans ((if_pos c70).trans rfl)).symm
      · refine ogo (fun _ z_ => XS.icmpYes X6.here hx rfl (pc0 := 70) (pc' := 89) rfl (hb hby at_70) rfl (feq c70).2 (by decide) (by decide) z_) ?_
        show OWay p e below G T6 (mkF m 89 #[.val (.int p0), .val (.int p1), .val (.long q2), .second, .val (.int p3), .val (.int v5_1), .val (.int us0_2), .val (.ref b4), .val (.int v8_10), .unset, .unset, .unset, .unset, .unset] [])
        refine ogo (fun _ z_ => XS.lloadN X6.here hx rfl (hb hby at_89) rfl z_) ?_
        show OWay p e below G T6 (mkF m 90 #[.val (.int p0), .val (.int p1), .val (.long q2), .second, .val (.int p3), .val (.int v5_1), .val (.int us0_2), .val (.ref b4), .val (.int v8_10), .unset, .unset, .unset, .unset, .unset] [(.long q2)])
        refine ogo (fun _ z_ => XS.lstore X6.here hx rfl (hb hby at_90) rfl (l' := #[.val (.int p0), .val (.int p1), .val (.long q2), .second, .val (.int p3), .val (.int v5_1), .val (.int us0_2), .val (.ref b4), .val (.int v8_10), .val (.long q2), .second, .unset, .unset, .unset]) rfl z_) ?_
        show OWay p e below G T6 (mkF m 92 #[.val (.int p0), .val (.int p1), .val (.long q2), .second, .val (.int p3), .val (.int v5_1), .val (.int us0_2), .val (.ref b4), .val (.int v8_10), .val (.long q2), .second, .unset, .unset, .unset] [])
        exact J12 _ ((if_neg c46).trans ((if_neg c70).trans rfl)).symm
  by_cases c10 : (p3 &&& (4 : Int32)) = (0 : Int32)
  · refine ogo (fun _ z_ => XS.ifYes X0.here hx rfl (pc0 := 10) (pc' := 18) rfl (hb hby at_10) rfl ((if0 _ _).trans (teq c10).1) (by decide) (by decide) z_) ?_
    show OWay p e below G s₁ (mkF m 18 #[.val (.int p0), .val (.int p1), .val (.long q2), .second, .val (.int p3), .val (.int v5_1), .unset, .unset, .unset, .unset, .unset, .unset, .unset, .unset] [])
    refine ogo (fun _ z_ => XS.iloadN X0.here hx rfl (hb hby at_18) rfl z_) ?_
    show OWay p e below G s₁ (mkF m 19 #[.val (.int p0), .val (.int p1), .val (.long q2), .second, .val (.int p3), .val (.int v5_1), .unset, .unset, .unset, .unset, .unset, .unset, .unset, .unset] [(.int p1)])
    refine ogo (fun _ z_ => X0.ldcInt hx hown (mvT hZ (hw _ (List.mem_of_getElem? (i := 0) rfl))) (g := (mkF m 19 #[.val (.int p0), .val (.int p1), .val (.long q2), .second, .val (.int p3), .val (.int v5_1), .unset, .unset, .unset, .unset, .unset, .unset, .unset, .unset] [(.int p1)])) rfl (hb hby at_19) _ z_) ?_
    show OWay p e below G s₁ (mkF m 21 #[.val (.int p0), .val (.int p1), .val (.long q2), .second, .val (.int p3), .val (.int v5_1), .unset, .unset, .unset, .unset, .unset, .unset, .unset, .unset] [(.int (2147483647 : Int32)), (.int p1)])
    refine ogo (fun _ z_ => XS.iand X0.here hx rfl (hb hby at_21) rfl z_) ?_
    show OWay p e below G s₁ (mkF m 22 #[.val (.int p0), .val (.int p1), .val (.long q2), .second, .val (.int p3), .val (.int v5_1), .unset, .unset, .unset, .unset, .unset, .unset, .unset, .unset] [(.int (p1 &&& (2147483647 : Int32)))])
    exact J3 _ ((if_pos c10).trans rfl).symm
  · refine ogo (fun _ z_ => XS.ifNo X0.here hx rfl (hb hby at_10) rfl ((if0 _ _).trans (feq c10).1) z_) ?_
    show OWay p e below G s₁ (mkF m 13 #[.val (.int p0), .val (.int p1), .val (.long q2), .second, .val (.int p3), .val (.int v5_1), .unset, .unset, .unset, .unset, .unset, .unset, .unset, .unset] [])
    refine ogo (fun _ z_ => XS.iload X0.here hx rfl (hb hby at_13) rfl z_) ?_
    show OWay p e below G s₁ (mkF m 15 #[.val (.int p0), .val (.int p1), .val (.long q2), .second, .val (.int p3), .val (.int v5_1), .unset, .unset, .unset, .unset, .unset, .unset, .unset, .unset] [(.int v5_1)])
    refine ogo (fun _ z_ => XS.goto X0.here hx rfl (pc0 := 15) (pc' := 22) rfl (hb hby at_15) (by decide) (by decide) z_) ?_
    show OWay p e below G s₁ (mkF m 22 #[.val (.int p0), .val (.int p1), .val (.long q2), .second, .val (.int p3), .val (.int v5_1), .unset, .unset, .unset, .unset, .unset, .unset, .unset, .unset] [(.int v5_1)])
    exact J3 _ ((if_neg c10).trans rfl).symm
set_option maxRecDepth 65536 in
set_option maxHeartbeats 40000000 in
theorem comes_1 {Post : Tables → Env → Array Value → State → Outcome → State → Prop} (hpost : ∀ tb e args s v u, (limb_1_1.after args s (.returned v) u = true ∧ limb_1_2.after args s (.returned v) u = true ∧ True) → FrameEnd s (.returned v) u (Jvm.fieldLocs frame_1_writes args s ++ Jvm.arrayLocs frame_1_arrays args s ++ Jvm.staticLocs frame_1_statics s) 16 128 → Post tb e args s (.returned v) u) :
    ArmFor flags0 classFile x code maxLocals ret World_1 tables_1 room_1 Calls_1 rest_1 Pre_1 Post := by
  intro l hfl _ _ p e ha hc hk s m args below hf hA hF happ hP
  obtain ⟨hcalls, hrest, hpre⟩ := hP
  obtain ⟨-, -, -, hnamed, -, -, -, hat⟩ := (Spec.applies_iff hf).mp happ
  obtain ⟨hg, hn⟩ := and_e (Cond.before_iff.mp (show (Jvm.Cond.and given_1 narrow_1).before args s = true from hpre))
  obtain ⟨g1, g2⟩ := and_e hg
  obtain ⟨g3, g4⟩ := and_e g2
  obtain ⟨g5, g6⟩ := and_e g4
  obtain ⟨g7, g8⟩ := and_e g6
  obtain ⟨w0, w1, w2, w3, rfl⟩ : ∃ w0 w1 w2 w3 : Value, args = #[w0, w1, w2, w3] := by
    have hs : args.size = 4 := by simpa [Cond.value, given_1] using g1
    obtain ⟨L⟩ := args
    match L, hs with
    | [w0, w1, w2, w3], _ => exact ⟨w0, w1, w2, w3, rfl⟩
  have hw := fun d (hd : d ∈ tables_1) => atoms_spec (ws := Jvm.Cond.code x code maxLocals ret :: tables_1) hat d (List.mem_cons_of_mem _ hd)
  have hfit : Fit s := fun {y c} hc i hi => by
    obtain ⟨ha, rfl⟩ := Array.getElem?_eq_some_iff.mp hc
    have q := List.all_eq_true.mp ((Array.all_eq_true_iff_forall_mem.mp hF) _ (Array.getElem_mem ha)) i (List.mem_range.mpr hi)
    simpa [Array.getElem?_eq_getElem hi] using q
  obtain ⟨i0, ei0⟩ := is_v g3
  obtain rfl : w0 = (.int i0) := Option.some.inj ei0
  obtain ⟨i1, ei1⟩ := is_v g5
  obtain rfl : w1 = (.int i1) := Option.some.inj ei1
  obtain ⟨i2, ei2⟩ := isL_v g7
  obtain rfl : w2 = (.long i2) := Option.some.inj ei2
  obtain ⟨i3, ei3⟩ := is_v g8
  obtain rfl : w3 = (.int i3) := Option.some.inj ei3
  obtain ⟨n, o, h1, h2, h3, _, L, rfl, ⟨rfl, N⟩, hq⟩ := law_c l s _ hw tables_1 i0 i1 i2 i3 s.heap s.heap.size (Nat.le_refl _) p e ha hc hk s m _ below hf ((Spec.applies_iff_loose hf).mp happ).1 ⟨rfl, State.Warmed39.refl s, rfl⟩ trivial
  refine ⟨n, _, h1, h2, h3, hpost _ _ _ _ _ _ ⟨Cond.after_iff.mpr rfl, Cond.after_iff.mpr (eq_i res_at (Term.int_eval (1)) rfl), trivial⟩ ⟨hq.1, hq.2.1, (hq.2.2.sift fun y hy => Or.inr (N y hy)).mono (by decide) (by decide)⟩⟩
theorem main_1_1 : Claimed_1_1 := comes_1 fun _ _ _ _ _ _ h hF => ⟨h.1, hF⟩
theorem main_1_2 : Claimed_1_2 := comes_1 fun _ _ _ _ _ _ h hF => ⟨h.2.1, hF⟩
end Jvm.Pilot.@@N@@
namespace Jvm.Pilot.@@N@@
open Jvm Jvm.ClassFile Sem Op Lib Jvm.Free Jvm.Stand Jvm.Pilot.@@N@@.Jvm.D
/-! MADE BY PROGRAM (witnessworld.py) out of the Statement's table words and the real class files: 11 classes; the members and pool entries that the words name. The judged class is class 1, her method 1. -/
namespace start1
open Jvm.ClassFile
def u (s : String) : CpInfo := .utf8 (stringToUtf16 s)
/-- a pool by its gaps: so many unusable entries, then the entry; so many at the end -/
def gap : Nat → List CpInfo → List CpInfo
  | 0, r => r
  | n + 1, r => .unusable :: gap n r
def poolList (es : List (Nat × CpInfo)) (last : Nat) : List CpInfo := es.foldr (fun e r => gap e.1 (e.2 :: r)) (gap last [])
def pool (es : List (Nat × CpInfo)) (last : Nat) : Array CpInfo := ⟨poolList es last⟩
def fileOf (pool : Array CpInfo) (this : Nat) (attrs : Array Attribute := #[]) (ms : Array MethodInfo := #[]) (fl : Nat := 33) (sup : Nat := 0) (ifs : Array Nat := #[]) (fds : Array FieldInfo := #[]) : ClassFile where
  minorVersion := 0
  majorVersion := 65
  constantPool := pool
  accessFlags := fl
  thisClass := this
  superClass := sup
  interfaces := ifs
  fields := fds
  methods := ms
  attributes := attrs
def plain (name : String) (sup : Option ClassId) : Class where
  name := name
  kind := .ordinary
  loader := none
  accessFlags := 33
  super := sup
  interfaces := #[]
  cf := none
  fields := #[]
  methods := #[]
  instanceTypes := #[]
  staticTypes := #[]
  resolved := #[]
  callSites := []
  init := .initialized
  statics := none
  mirror := none

def pool0 : Array CpInfo := pool [(5, u "<init>"), (0, u "()V"), (1, .class_ 10), (1, u "java/lang/Object")] 113

def k0c0 : Code := { maxStack := 0, maxLocals := 1, code := object_method_1_code, exceptionTable := #[], attributes := #[] }
def k0m0 : Method := { name := "<init>", desc := "()V", sig := { parameters := [], returnType := none }, accessFlags := 1, code := some k0c0 }
/-- java/lang/Object -/
def k0 : Class := { plain "java/lang/Object" none with
  accessFlags := 33
  interfaces := #[]
  cf := some (fileOf pool0 8 #[] #[{ accessFlags := 1, nameIndex := 5, descriptorIndex := 6, attributes := #[] }] 33 0 #[] #[])
  fields := #[]
  methods := #[k0m0]
  instanceTypes := #[]
  staticTypes := #[]
  resolved := Array.replicate 124 none
  statics := none }

def pool1 : Array CpInfo := pool [(2, .class_ 4), (1, u "java/lang/Object"), (0, u "<init>"), (0, u "()V"), (0, .integer 2147483647), (0, .class_ 9), (0, u "com/example/slotwright/slotwright/Bounds"), (0, .methodref 8 11), (0, .nameAndType 5 12), (0, u "(II)V"), (0, .long 3), (1, .long 2), (1, .methodref 18 19), (0, .class_ 20), (0, .nameAndType 21 22), (0, u "java/lang/Math"), (0, u "max"), (0, u "(JJ)J"), (0, .methodref 18 24), (0, .nameAndType 25 22), (0, u "min"), (0, .methodref 8 27), (0, .nameAndType 28 29), (0, u "allows"), (0, u "(J)Z"), (0, .class_ 31), (0, u "com/example/slotwright/slotwright/BoundsAllowsPinLaw"), (2, u "law"), (0, u "(IIJI)Z")] 3

def k1m0 : Method := { name := "<init>", desc := "()V", sig := { parameters := [], returnType := none }, accessFlags := 1, code := none }
def k1c1 : Code := { maxStack := 6, maxLocals := 14, code := code, exceptionTable := #[], attributes := #[] }
def k1m1 : Method := { name := "law", desc := "(IIJI)Z", sig := { parameters := [.int, .int, .long, .int], returnType := some .boolean }, accessFlags := 9, code := some k1c1 }
/-- com/example/slotwright/slotwright/BoundsAllowsPinLaw -/
def k1 : Class := { plain "com/example/slotwright/slotwright/BoundsAllowsPinLaw" (some 0) with
  accessFlags := 49
  interfaces := #[]
  cf := some (fileOf pool1 30 #[] #[{ accessFlags := 1, nameIndex := 5, descriptorIndex := 6, attributes := #[] }, { accessFlags := 9, nameIndex := 34, descriptorIndex := 35, attributes := #[] }] 49 2 #[] #[])
  fields := #[]
  methods := #[k1m0, k1m1]
  instanceTypes := #[]
  staticTypes := #[]
  resolved := Array.replicate 39 none
  statics := none }

def pool2 : Array CpInfo := pool [(1, .methodref 2 3), (0, .class_ 4), (0, .nameAndType 5 6), (0, u "java/lang/Object"), (0, u "<init>"), (0, u "()V"), (0, .class_ 8), (0, u "java/lang/Record")] 13

def k2c0 : Code := { maxStack := 1, maxLocals := 1, code := jdk_30_method_1_code, exceptionTable := #[], attributes := #[] }
def k2m0 : Method := { name := "<init>", desc := "()V", sig := { parameters := [], returnType := none }, accessFlags := 4, code := some k2c0 }
/-- java/lang/Record -/
def k2 : Class := { plain "java/lang/Record" (some 0) with
  accessFlags := 1057
  interfaces := #[]
  cf := some (fileOf pool2 7 #[] #[{ accessFlags := 4, nameIndex := 5, descriptorIndex := 6, attributes := #[] }] 1057 2 #[] #[])
  fields := #[]
  methods := #[k2m0]
  instanceTypes := #[]
  staticTypes := #[]
  resolved := Array.replicate 22 none
  statics := none }

def pool3 : Array CpInfo := pool [(1, .methodref 2 3), (0, .class_ 4), (0, .nameAndType 5 6), (0, u "java/lang/Record"), (0, u "<init>"), (0, u "()V"), (0, .fieldref 8 9), (0, .class_ 10), (0, .nameAndType 11 12), (0, u "com/example/slotwright/slotwright/Bounds"), (0, u "minimum"), (0, u "I"), (0, .fieldref 8 14), (0, .nameAndType 15 12), (0, u "maximum"), (25, u "(II)V"), (3, u "allows"), (0, u "(J)Z")] 26

def k3c0 : Code := { maxStack := 2, maxLocals := 3, code := prog_13_method_1_code, exceptionTable := #[], attributes := #[] }
def k3m0 : Method := { name := "<init>", desc := "(II)V", sig := { parameters := [.int, .int], returnType := none }, accessFlags := 0, code := some k3c0 }
def k3c1 : Code := { maxStack := 4, maxLocals := 3, code := prog_13_method_2_code, exceptionTable := #[], attributes := #[] }
def k3m1 : Method := { name := "allows", desc := "(J)Z", sig := { parameters := [.long], returnType := some .boolean }, accessFlags := 0, code := some k3c1 }
/-- com/example/slotwright/slotwright/Bounds -/
def k3 : Class := { plain "com/example/slotwright/slotwright/Bounds" (some 2) with
  accessFlags := 48
  interfaces := #[]
  cf := some (fileOf pool3 8 #[] #[{ accessFlags := 0, nameIndex := 5, descriptorIndex := 41, attributes := #[] }, { accessFlags := 0, nameIndex := 45, descriptorIndex := 46, attributes := #[] }] 48 2 #[] #[{ accessFlags := 18, nameIndex := 11, descriptorIndex := 12, attributes := #[] }, { accessFlags := 18, nameIndex := 15, descriptorIndex := 12, attributes := #[] }])
  fields := #[{ name := "minimum", type := .int, accessFlags := 18, slot := 0, constantValue := 0 }, { name := "maximum", type := .int, accessFlags := 18, slot := 1, constantValue := 0 }]
  methods := #[k3m0, k3m1]
  instanceTypes := #[.int, .int]
  staticTypes := #[]
  resolved := Array.replicate 73 none
  statics := none }

def pool4 : Array CpInfo := pool [(1, .class_ 2), (0, u "java/lang/Math"), (1, .class_ 6), (1, u "java/lang/Object"), (0, u "<init>"), (0, u "()V"), (89, .class_ 100), (1, u "java/lang/Math$RandomNumberGeneratorHolder"), (20, u "(JJ)J"), (50, u "negativeZeroFloatBits"), (0, u "J"), (2, u "negativeZeroDoubleBits"), (21, u "max"), (2, u "min"), (43, u "$assertionsDisabled"), (0, u "Z"), (91, u "twoToTheDoubleScaleDown"), (0, u "D"), (4, u "twoToTheDoubleScaleUp"), (9, u "E"), (3, u "PI"), (2, u "TAU"), (2, u "DEGREES_TO_RADIANS"), (0, u "RADIANS_TO_DEGREES")] 94

def k4m0 : Method := { name := "<init>", desc := "()V", sig := { parameters := [], returnType := none }, accessFlags := 2, code := none }
def k4c1 : Code := { maxStack := 4, maxLocals := 4, code := jdk_29_method_66_code, exceptionTable := #[], attributes := #[] }
def k4m1 : Method := { name := "max", desc := "(JJ)J", sig := { parameters := [.long, .long], returnType := some .long }, accessFlags := 9, code := some k4c1 }
def k4c2 : Code := { maxStack := 4, maxLocals := 4, code := jdk_29_method_70_code, exceptionTable := #[], attributes := #[] }
def k4m2 : Method := { name := "min", desc := "(JJ)J", sig := { parameters := [.long, .long], returnType := some .long }, accessFlags := 9, code := some k4c2 }
/-- java/lang/Math -/
def k4 : Class := { plain "java/lang/Math" (some 0) with
  accessFlags := 49
  interfaces := #[]
  cf := some (fileOf pool4 1 #[.nestMembers #[98]] #[{ accessFlags := 2, nameIndex := 7, descriptorIndex := 8, attributes := #[] }, { accessFlags := 9, nameIndex := 198, descriptorIndex := 121, attributes := #[] }, { accessFlags := 9, nameIndex := 201, descriptorIndex := 121, attributes := #[] }] 49 4 #[] #[{ accessFlags := 25, nameIndex := 354, descriptorIndex := 339, attributes := #[] }, { accessFlags := 25, nameIndex := 358, descriptorIndex := 339, attributes := #[] }, { accessFlags := 25, nameIndex := 361, descriptorIndex := 339, attributes := #[] }, { accessFlags := 26, nameIndex := 364, descriptorIndex := 339, attributes := #[] }, { accessFlags := 26, nameIndex := 365, descriptorIndex := 339, attributes := #[] }, { accessFlags := 26, nameIndex := 172, descriptorIndex := 173, attributes := #[] }, { accessFlags := 26, nameIndex := 176, descriptorIndex := 173, attributes := #[] }, { accessFlags := 8, nameIndex := 344, descriptorIndex := 339, attributes := #[] }, { accessFlags := 8, nameIndex := 338, descriptorIndex := 339, attributes := #[] }, { accessFlags := 4120, nameIndex := 245, descriptorIndex := 246, attributes := #[] }])
  fields := #[{ name := "E", type := .double, accessFlags := 25, slot := 0, constantValue := 0 }, { name := "PI", type := .double, accessFlags := 25, slot := 1, constantValue := 0 }, { name := "TAU", type := .double, accessFlags := 25, slot := 2, constantValue := 0 }, { name := "DEGREES_TO_RADIANS", type := .double, accessFlags := 26, slot := 3, constantValue := 0 }, { name := "RADIANS_TO_DEGREES", type := .double, accessFlags := 26, slot := 4, constantValue := 0 }, { name := "negativeZeroFloatBits", type := .long, accessFlags := 26, slot := 5, constantValue := 0 }, { name := "negativeZeroDoubleBits", type := .long, accessFlags := 26, slot := 6, constantValue := 0 }, { name := "twoToTheDoubleScaleUp", type := .double, accessFlags := 8, slot := 7, constantValue := 0 }, { name := "twoToTheDoubleScaleDown", type := .double, accessFlags := 8, slot := 8, constantValue := 0 }, { name := "$assertionsDisabled", type := .boolean, accessFlags := 4120, slot := 9, constantValue := 0 }]
  methods := #[k4m0, k4m1, k4m2]
  instanceTypes := #[]
  staticTypes := #[.double, .double, .double, .double, .double, .long, .long, .double, .double, .boolean]
  resolved := Array.replicate 460 none
  statics := none }

def pool5 : Array CpInfo := pool [(1, u "java/lang/Cloneable"), (0, .class_ 1), (0, u "java/lang/Object"), (0, .class_ 3)] 3

/-- java/lang/Cloneable -/
def k5 : Class := { plain "java/lang/Cloneable" (some 0) with
  accessFlags := 1537
  interfaces := #[]
  cf := some (fileOf pool5 2 #[] #[] 1537 4 #[] #[])
  fields := #[]
  methods := #[]
  instanceTypes := #[]
  staticTypes := #[]
  resolved := Array.replicate 8 none
  statics := none }

def pool6 : Array CpInfo := pool [(1, u "java/io/Serializable"), (0, .class_ 1), (0, u "java/lang/Object"), (0, .class_ 3)] 3

/-- java/io/Serializable -/
def k6 : Class := { plain "java/io/Serializable" (some 0) with
  accessFlags := 1537
  interfaces := #[]
  cf := some (fileOf pool6 2 #[] #[] 1537 4 #[] #[])
  fields := #[]
  methods := #[]
  instanceTypes := #[]
  staticTypes := #[]
  resolved := Array.replicate 8 none
  statics := none }

/-- the primitive byte -/
def k7 : Class := { plain "byte" none with kind := .primitive 'B', accessFlags := 0x411 }
/-- [B -/
def k8 : Class := { plain "[B" (some 0) with kind := .array 7 .byte, interfaces := #[5, 6], accessFlags := 1041 }

/-- the primitive int -/
def k9 : Class := { plain "int" none with kind := .primitive 'I', accessFlags := 0x411 }
/-- [I -/
def k10 : Class := { plain "[I" (some 0) with kind := .array 9 .int, interfaces := #[5, 6], accessFlags := 1041 }

def heap : Heap := #[]
def classes : Array Class := #[k0, k1, k2, k3, k4, k5, k6, k7, k8, k9, k10]
def interned : List (Array UInt16 × Addr) := []
def slotsUsed : Nat := 0
def theMethod : MethodId := ⟨1, 1⟩
def args0 : Array Value := #[.int 3, .int 9, .long 5, .int 0]
def aboutOver (below : List Frame) : State where
  vm := { classes := classes, interned := interned.toArray }
  heap := heap
  slotsUsed := slotsUsed
  threads := #[{ frames := .invoking theMethod args0 :: below }]
def below0 : List Frame := [.native { method := ⟨0, 0⟩, args := #[] }]
def about1 : State := aboutOver below0
def p0 : Program := .bare "" "" ""
def e0 : Env := launch0.env 0 0 0
theorem w_frames : about1.frames = Frame.invoking theMethod args0 :: below0 := rfl
set_option maxRecDepth 65536 in
theorem w_args : argsFit about1.vm theMethod args0 = true := by decide +kernel
set_option maxRecDepth 65536 in
theorem w_heap : heapFits about1 = true := by decide +kernel
set_option maxRecDepth 65536 in
theorem w_runnable : about1.curStatus? = some .runnable := by decide +kernel
set_option maxRecDepth 65536 in
theorem w_alone : about1.alone = true := by decide +kernel
set_option maxRecDepth 65536 in
theorem w_named : about1.methodNamed? x = some theMethod := by decide +kernel
set_option maxRecDepth 65536 in
theorem w_hears : about1.hears theMethod below0 = true := by decide +kernel
set_option maxRecDepth 65536 in
theorem w_ripe : about1.ripe theMethod args0 below0 = true := by decide +kernel
theorem w_running : about1.status = .running := rfl
set_option maxRecDepth 65536 in
theorem w_room : about1.hasRoom e0.platform room_1 = true :=
  launch0.hasRoom_least _ room_1 (by decide +kernel) (by decide +kernel) (by decide +kernel) (by decide +kernel) (by decide +kernel) (by decide +kernel)
theorem allAtoms_all (ts : List Jvm.Cond) (a : Array Jvm.Value) (st : Jvm.State) : (allAtoms ts).before a st = ts.all (fun c => c.before a st) := by
  induction ts with
  | nil => rfl
  | cons c t ih =>
    show (Jvm.Cond.and c (allAtoms t)).before a st = _
    rw [Jvm.Cond.before_and, ih, List.all_cons]
def words1 : List Jvm.Cond := Jvm.Cond.code x code maxLocals ret :: tables_1
/-- a 'code' word, met by the world's own term for the bytes: nothing is compared byte by byte -/
theorem code_word {y : MethodName} {bytes : ByteArray} {mx : Nat} {rt : Option FieldType} {a : Array Value} {s : State} {m : MethodId} {meth : Method} {c : Code} (h1 : s.methodNamed? y = some m) (h2 : s.vm.method? m = some meth) (h3 : meth.code = some c) (h4 : c.code = bytes)
    (h5 : (c.maxLocals == mx && c.exceptionTable.isEmpty && decide (c.maxStack ≤ mostOperands) && decide (meth.sig.returnType = rt) && !meth.locks && decide (parseMethodDescriptor y.desc = some meth.sig)) = true) : (Jvm.Cond.code y bytes mx rt).before a s = true := by
  simp only [Bool.and_eq_true, beq_iff_eq, Bool.not_eq_true', decide_eq_true_eq] at h5
  obtain ⟨⟨⟨⟨⟨g1, g2⟩, g3⟩, g4⟩, g5⟩, g6⟩ := h5
  simp [Cond.before, Cond.holds, Cond.value, h1, h2, h3, h4, g1, g2, g3, g4, g5, g6]
def isCode : Jvm.Cond → Bool
  | .code _ _ _ _ => true
  | _ => false
theorem all_split {L : List Jvm.Cond} {P : Jvm.Cond → Bool} (h1 : L.all (fun c => isCode c || P c) = true) (h2 : ∀ c ∈ L.filter isCode, P c = true) : L.all P = true := by
  refine List.all_eq_true.mpr fun c hc => ?_
  have h := List.all_eq_true.mp h1 c hc
  rcases Bool.eq_false_or_eq_true (isCode c) with hi | hi
  · exact h2 c (List.mem_filter.mpr ⟨hc, hi⟩)
  · simpa [hi] using h
set_option maxRecDepth 65536 in
theorem w_c0 : (Jvm.Cond.code x code maxLocals ret).before args0 about1 = true := code_word (m := ⟨1, 1⟩) (meth := k1m1) (c := k1c1) (by decide +kernel) rfl rfl rfl (by decide +kernel)
set_option maxRecDepth 65536 in
theorem w_c1 : (Jvm.Cond.code ({ cls := "com/example/slotwright/slotwright/Bounds", name := "<init>", desc := "(II)V" } : Jvm.MethodName) prog_13_method_1_code (3 : Nat) (Option.none : Option Jvm.ClassFile.FieldType)).before args0 about1 = true := code_word (m := ⟨3, 0⟩) (meth := k3m0) (c := k3c0) (by decide +kernel) rfl rfl rfl (by decide +kernel)
set_option maxRecDepth 65536 in
theorem w_c2 : (Jvm.Cond.code ({ cls := "java/lang/Record", name := "<init>", desc := "()V" } : Jvm.MethodName) jdk_30_method_1_code (1 : Nat) (Option.none : Option Jvm.ClassFile.FieldType)).before args0 about1 = true := code_word (m := ⟨2, 0⟩) (meth := k2m0) (c := k2c0) (by decide +kernel) rfl rfl rfl (by decide +kernel)
set_option maxRecDepth 65536 in
theorem w_c3 : (Jvm.Cond.code ({ cls := "java/lang/Object", name := "<init>", desc := "()V" } : Jvm.MethodName) object_method_1_code (1 : Nat) (Option.none : Option Jvm.ClassFile.FieldType)).before args0 about1 = true := code_word (m := ⟨0, 0⟩) (meth := k0m0) (c := k0c0) (by decide +kernel) rfl rfl rfl (by decide +kernel)
set_option maxRecDepth 65536 in
theorem w_c4 : (Jvm.Cond.code ({ cls := "java/lang/Math", name := "max", desc := "(JJ)J" } : Jvm.MethodName) jdk_29_method_66_code (4 : Nat) (Option.some Jvm.ClassFile.FieldType.long)).before args0 about1 = true := code_word (m := ⟨4, 1⟩) (meth := k4m1) (c := k4c1) (by decide +kernel) rfl rfl rfl (by decide +kernel)
set_option maxRecDepth 65536 in
theorem w_c5 : (Jvm.Cond.code ({ cls := "java/lang/Math", name := "min", desc := "(JJ)J" } : Jvm.MethodName) jdk_29_method_70_code (4 : Nat) (Option.some Jvm.ClassFile.FieldType.long)).before args0 about1 = true := code_word (m := ⟨4, 2⟩) (meth := k4m2) (c := k4c2) (by decide +kernel) rfl rfl rfl (by decide +kernel)
set_option maxRecDepth 65536 in
theorem w_c6 : (Jvm.Cond.code ({ cls := "com/example/slotwright/slotwright/Bounds", name := "allows", desc := "(J)Z" } : Jvm.MethodName) prog_13_method_2_code (3 : Nat) (Option.some Jvm.ClassFile.FieldType.boolean)).before args0 about1 = true := code_word (m := ⟨3, 1⟩) (meth := k3m1) (c := k3c1) (by decide +kernel) rfl rfl rfl (by decide +kernel)
def codes1 : List Jvm.Cond := [Jvm.Cond.code x code maxLocals ret, Jvm.Cond.code ({ cls := "com/example/slotwright/slotwright/Bounds", name := "<init>", desc := "(II)V" } : Jvm.MethodName) prog_13_method_1_code (3 : Nat) (Option.none : Option Jvm.ClassFile.FieldType), Jvm.Cond.code ({ cls := "java/lang/Record", name := "<init>", desc := "()V" } : Jvm.MethodName) jdk_30_method_1_code (1 : Nat) (Option.none : Option Jvm.ClassFile.FieldType), Jvm.Cond.code ({ cls := "java/lang/Object", name := "<init>", desc := "()V" } : Jvm.MethodName) object_method_1_code (1 : Nat) (Option.none : Option Jvm.ClassFile.FieldType), Jvm.Cond.code ({ cls := "java/lang/Math", name := "max", desc := "(JJ)J" } : Jvm.MethodName) jdk_29_method_66_code (4 : Nat) (Option.some Jvm.ClassFile.FieldType.long), Jvm.Cond.code ({ cls := "java/lang/Math", name := "min", desc := "(JJ)J" } : Jvm.MethodName) jdk_29_method_70_code (4 : Nat) (Option.some Jvm.ClassFile.FieldType.long), Jvm.Cond.code ({ cls := "com/example/slotwright/slotwright/Bounds", name := "allows", desc := "(J)Z" } : Jvm.MethodName) prog_13_method_2_code (3 : Nat) (Option.some Jvm.ClassFile.FieldType.boolean)]
set_option maxRecDepth 65536 in
theorem codes_eq : words1.filter isCode = codes1 := rfl
theorem w_codes : ∀ c ∈ words1.filter isCode, c.before args0 about1 = true := by
  rw [codes_eq]
  intro c hc
  simp only [codes1, List.mem_cons, List.not_mem_nil, or_false] at hc
  rcases hc with rfl | rfl | rfl | rfl | rfl | rfl | rfl
  · exact w_c0
  · exact w_c1
  · exact w_c2
  · exact w_c3
  · exact w_c4
  · exact w_c5
  · exact w_c6
set_option maxRecDepth 65536 in
theorem w_t1 : (words1.take 24).all (fun c => isCode c || c.before args0 about1) = true := by decide +kernel
set_option maxRecDepth 65536 in
theorem w_t2 : (words1.drop 24).all (fun c => isCode c || c.before args0 about1) = true := by decide +kernel
theorem w_tables : (allAtoms (Jvm.Cond.code x code maxLocals ret :: tables_1)).before args0 about1 = true := by
  rw [allAtoms_all]
  show words1.all (fun c => c.before args0 about1) = true
  refine all_split ?_ w_codes
  rw [← List.take_append_drop 24 words1, List.all_append, w_t1, w_t2]
  rfl
set_option maxRecDepth 65536 in
theorem w_case : (Jvm.Cond.and given_1 narrow_1).before args0 about1 = true := by decide +kernel
theorem w_applies : (headSpec (Jvm.Cond.code x code maxLocals ret :: tables_1) room_1).applies x e0.platform about1 = true :=
  (Spec.applies_iff w_frames).mpr ⟨w_running, w_runnable, w_alone, w_named, w_hears, w_ripe, w_room, w_tables⟩
theorem atStart : AtStart classFile x code maxLocals ret World_1 tables_1 room_1 Calls_1 rest_1 Pre_1 launch0 p0 e0 about1 theMethod args0 below0 :=
  ⟨lists_1, trivial, launch0.admits_env _ _ _, launch0.least_env, fairChoices_fair.cas, fairChoices_fair.clock, w_frames, w_args, w_heap, w_applies, trivial, trivial, w_case⟩
end start1
theorem witness_1 : WitnessClaimed_1 := ⟨start1.p0, start1.e0, start1.about1, start1.theMethod, start1.args0, start1.below0, start1.atStart⟩
end Jvm.Pilot.@@N@@
