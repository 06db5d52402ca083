import JvmDerived
import JvmDerived.Pilot.@@N@@Statement
import JvmDerived.Pilot.@@N@@Code
set_option linter.unusedVariables false
set_option linter.unusedSimpArgs false
namespace Jvm.Pilot.@@N@@
open Jvm Jvm.ClassFile Sem Op Lib Jvm.Free Jvm.Stand Jvm.LawKit Jvm.RoadKit Bundle Jvm.Pilot.@@N@@.Jvm.D
/-- from here the run comes to a state of which G holds -/
def OWay (p : Program) (e : Env) (below : List Frame) (G : State → Prop) (T : State) (g : JFrame) : Prop := ∃ t, Steps p.tables e below (T.setTop g) t ∧ G t
/-- how a body ends: it returned, with what Q says of its value, the heap and the places written -/
def OEnd (s : State) (below : List Frame) (Q : Option Value → Heap → List Loc → Prop) (cs sl : Nat) (t : State) : Prop := ∃ o, t.status = .running ∧ Ended t below o ∧ ∃ v L, o = .returned v ∧ Q v t.heap L ∧ FrameEnd s o t L cs sl
/-- a body's contract, as a call wants it -/
def OCon (l : Launch) (y : MethodName) (bytes : ByteArray) (maxL : Nat) (rt : Option FieldType) (ws : List Jvm.Cond) (rm : Room) (Z : State) (as' : Array Value) (h : Heap) (Q : Option Value → Heap → List Loc → Prop) : Prop :=
  MetFree l y (head1 (Jvm.Cond.code y bytes maxL rt :: ws) rm) (fun a U => a = as' ∧ Z.Warmed39 U.vm ∧ U.heap = h) (fun _ _ _ _ _ => True) (fun _ U o U' => ∃ v L, o = .returned v ∧ Q v U'.heap L ∧ FrameEnd U o U' L rm.cells rm.slots)
section Own
variable {p : Program} {l : Launch} {e : Env} {R : Room} {s : State} {m : MethodId} {args : Array Value} {below : List Frame} {meth : Method} {c : Code} {T T' : State} {locs : List Loc} {cells slots : Nat} {Z : State} {a0 : Array Value} {h : Heap} {G : State → Prop} {g g' : JFrame} {Q : Option Value → Heap → List Loc → Prop} {cs sl : Nat}
theorem ogo (q : ∀ t, Steps p.tables e below (T'.setTop g') t → Steps p.tables e below (T.setTop g) t) (w : OWay p e below G T' g') : OWay p e below G T g := by
  obtain ⟨t, h1, h2⟩ := w
  exact ⟨t, q t h1, h2⟩
theorem ogoS (q : Steps p.tables e below (T.setTop g) (T'.setTop g')) (w : OWay p e below G T' g') : OWay p e below G T g := ogo (fun _ k => q.trans k) w
theorem ogoE (q : g = g') (w : OWay p e below G T g') : OWay p e below G T g := q ▸ w
theorem ocon {y : MethodName} {bytes : ByteArray} {maxL : Nat} {rt : Option FieldType} {ws : List Jvm.Cond} {rm : Room} {as' : Array Value} (hp : plainFor y = true)
    (body : ∀ (p : Program) (e : Env) (s : State) (m : MethodId) (below : List Frame) (meth : Method) (c : Code) (s₁ : State), p.tables.exec = Jvm.exec → c.code = bytes → c.maxLocals = maxL → s.vm.findClass y.cls = some m.cls → meth.name = y.name → meth.sig.returnType = rt → meth.locks = false → Z.Warmed39 s.vm →
      Stand p l e rm s m as' below meth c s₁ [] 0 0 → s₁.heap = h → OWay p e below (OEnd s below Q rm.cells rm.slots) s₁ (entryFrame m as' maxL)) : OCon l y bytes maxL rt ws rm Z as' h Q := by
  refine MetFree.of_bodySF hp hisR ?_
  intro p e s m args below meth c s₁ Bd hml0 hP hK
  obtain ⟨rfl, hZ, hh⟩ := hP
  obtain ⟨t, h1, o, h2, h3, h4⟩ := body p e s m below meth c s₁ Bd.exec Bd.bytes hml0 (findClass_of_methodNamed Bd.named) (name_of_methodNamed Bd.named Bd.method).1 Bd.returns Bd.notSynchronized hZ (Stand.of_body Bd) (by rw [← hh, Bd.state]; rfl)
  exact ⟨t, o, h1, h2, h3, h4⟩
theorem wRetN (X : Stand p l e R s m args below meth c T locs cells slots) (hx : p.tables.exec = Jvm.exec) {pc : Nat} {Ls : Array Slot} {z : Int32} {t : FieldType} {rest : List Value} (hret : meth.sig.returnType = some t) (hlk : meth.locks = false) (ht : t = .boolean ∨ t = .byte ∨ t = .char ∨ t = .short)
    (hd : decode c.code pc = .ok (.ireturn, 1)) (hc : cells ≤ cs) (hs : slots ≤ sl) (eT : T.heap = h) (hq : Q (some (.int (nar t z))) h locs) : OWay p e below (OEnd s below Q cs sl) T (mkF m pc Ls (.int z :: rest)) := by
  obtain ⟨fs, hr, hrun, hended, hW, hsame⟩ := X.leave (v := some (.int (nar t z))) (fun q => by rw [hret] at q; cases q) hlk
  exact ⟨_, retN X hx hret ht hd hr, _, hrun, hended, _, _, rfl, by subst eT; exact hq, ⟨_, rfl⟩, hW, hsame.mono hc hs⟩
theorem wRet (X : Stand p l e R s m args below meth c T locs cells slots) (hx : p.tables.exec = Jvm.exec) {pc : Nat} {Ls : Array Slot} {w : Value} {t : FieldType} {i : Instr} {rest : List Value} (hret : meth.sig.returnType = some t) (hlk : meth.locks = false) (hn : narrow t w = w)
    (hi : (i = .ireturn ∧ (t = .int ∨ t = .boolean ∨ t = .byte ∨ t = .char ∨ t = .short) ∧ ∃ z, w = .int z) ∨ (i = .lreturn ∧ t = .long ∧ ∃ z, w = .long z) ∨ (i = .dreturn ∧ t = .double ∧ ∃ z, w = .double z) ∨ (i = .freturn ∧ t = .float ∧ ∃ z, w = .float z) ∨ (i = .areturn ∧ t.isReference = true ∧ w.isRef = true))
    (hd : decode c.code pc = .ok (i, 1)) (hc : cells ≤ cs) (hs : slots ≤ sl) (eT : T.heap = h) (hq : Q (some w) h locs) : OWay p e below (OEnd s below Q cs sl) T (mkF m pc Ls (w :: rest)) := by
  obtain ⟨fs, hr, hrun, hended, hW, hsame⟩ := X.leave (v := some w) (fun q => by rw [hret] at q; cases q) hlk
  exact ⟨_, retOut X hx hret hn hi hd hr, _, hrun, hended, _, _, rfl, by subst eT; exact hq, ⟨_, rfl⟩, hW, hsame.mono hc hs⟩
theorem wRetV (X : Stand p l e R s m args below meth c T locs cells slots) (hx : p.tables.exec = Jvm.exec) {pc : Nat} {Ls : Array Slot} (hret : meth.sig.returnType = none) (hlk : meth.locks = false)
    (hd : decode c.code pc = .ok (.return_, 1)) (hc : cells ≤ cs) (hs : slots ≤ sl) (eT : T.heap = h) (hq : Q none h locs) : OWay p e below (OEnd s below Q cs sl) T (mkF m pc Ls []) := by
  obtain ⟨fs, hr, hrun, hended, hW, hsame⟩ := X.leave (v := none) (fun _ => rfl) hlk
  exact ⟨_, X.returnOut hx hret hd hr, _, hrun, hended, _, _, rfl, by subst eT; exact hq, ⟨_, rfl⟩, hW, hsame.mono hc hs⟩
theorem wStatic (X : Stand p l e R s m args below meth c T locs cells slots) (hx : p.tables.exec = Jvm.exec) (hZ : Z.Warmed39 s.vm) {own : String} {index : Nat} {y : MethodName} {bytes : ByteArray} {maxL : Nat} {rt : Option FieldType} {rm : Room} {as' : Array Value} (hown : s.vm.findClass own = some m.cls)
    (w1 : (Jvm.Cond.methodLink own index y).before a0 Z = true) (w2 : (Jvm.Cond.static y).before a0 Z = true) (w3 : (Jvm.Cond.initialized y.cls).before a0 Z = true) (w4 : (Jvm.Cond.code y bytes maxL rt).before a0 Z = true) (hy : y.cls ≠ "java/lang/invoke/MethodHandle" ∧ y.cls ≠ "java/lang/invoke/VarHandle")
    (hM : OCon l y bytes maxL rt [] rm Z as' h Q) (W : Nat) (hf : rm.frames + 1 ≤ R.frames) (hl : W + (maxL + 11) + rm.locals ≤ R.locals) {g : JFrame} (hg : g.method = m) (hsize : g.locals.size = c.maxLocals) {argsL rest : List Value} (hlen : ∀ sig, parseMethodDescriptor y.desc = some sig → argsL.length = sig.parameters.length)
    (hstack : g.stack = argsL.reverse ++ rest) (hW : 2 * g.monitorRoom + (rest.map fun v => v.category).sum ≤ W) (hd : decode c.code g.pc = .ok (.invokestatic index, 3)) (has : argsL.toArray = as') (eT : T.heap = h) (hc : cells + rm.cells ≤ R.cells) (hs : slots + rm.slots ≤ R.slots) :
    ∃ (v : Option Value) (T' : State) (L : List Loc), Stand p l e R s m args below meth c T' (locs ++ L) (cells + rm.cells) (slots + rm.slots) ∧ Q v T'.heap L ∧ ∀ target, Steps p.tables e below (T'.setTop { g with pc := g.pc + 3, stack := v.toList ++ rest }) target → Steps p.tables e below (T.setTop g) target := by
  obtain ⟨v, _, ⟨T1, L1, k1, n1⟩, -, X1, ⟨Lc, hQ, l1, y1, z1⟩, st⟩ := Jvm.LawKit.callS X hx (y := y) hown (mvT hZ w1) (mvT hZ w2) (mvT hZ w3) (mvT hZ w4) hy (backOf (W := W) hM hZ w4 w3 hf hl) (g := g) hg hsize (argsL := argsL) (rest := rest) hlen hstack hW hd (fun _ _ => ⟨has, eT, hc, hs⟩)
  dsimp only [Pt.U, Pt.locs, Pt.cells, Pt.slots] at X1 l1 y1 z1 st hQ
  subst l1 y1 z1
  exact ⟨v, T1, Lc, X1, hQ, st⟩
theorem wInit (X : Stand p l e R s m args below meth c T locs cells slots) (hx : p.tables.exec = Jvm.exec) (hZ : Z.Warmed39 s.vm) {own : String} {index : Nat} {y : MethodName} {bytes : ByteArray} {maxL : Nat} {rm : Room} {as' : Array Value} (hy1 : y.name = "<init>") (hown : s.vm.findClass own = some m.cls)
    (w1 : (Jvm.Cond.methodLink own index y).before a0 Z = true) (w2 : (Jvm.Cond.instanceMethod y).before a0 Z = true) (w3 : (Jvm.Cond.initialized y.cls).before a0 Z = true) (w4 : (Jvm.Cond.code y bytes maxL none).before a0 Z = true) (hy : y.cls ≠ "java/lang/invoke/MethodHandle" ∧ y.cls ≠ "java/lang/invoke/VarHandle")
    (hM : OCon l y bytes maxL none [] rm Z as' h Q) (W : Nat) (hf : rm.frames + 1 ≤ R.frames) (hl : W + (maxL + 11) + rm.locals ≤ R.locals) {g : JFrame} (hg : g.method = m) (hsize : g.locals.size = c.maxLocals) {a : Addr} {argsL rest : List Value} (hlen : ∀ sig, parseMethodDescriptor y.desc = some sig → argsL.length = sig.parameters.length)
    (hstack : g.stack = argsL.reverse ++ .ref a :: rest) (hW : 2 * g.monitorRoom + (rest.map fun v => v.category).sum ≤ W) (hd : decode c.code g.pc = .ok (.invokespecial index, 3)) (has : (.ref a :: argsL).toArray = as') (eT : T.heap = h) (hc : cells + rm.cells ≤ R.cells) (hs : slots + rm.slots ≤ R.slots) :
    ∃ (v : Option Value) (T' : State) (L : List Loc), Stand p l e R s m args below meth c T' (locs ++ L) (cells + rm.cells) (slots + rm.slots) ∧ Q v T'.heap L ∧ Steps p.tables e below (T.setTop g) (T'.setTop { g with pc := g.pc + 3, stack := v.toList ++ rest }) := by
  obtain ⟨v, _, ⟨T1, L1, k1, n1⟩, -, X1, ⟨Lc, hQ, l1, y1, z1⟩, st⟩ := X.specialBack hx (y := y) hy1 hown (mvT hZ w1) (mvT hZ w2) (mvT hZ w4) hy (backOf (W := W) hM hZ w4 w3 hf hl) (g := g) hg hsize (Steps.refl _) (a := a) (argsL := argsL) (rest := rest) hlen hstack hW hd (fun _ _ => ⟨has, eT, hc, hs⟩)
  dsimp only [Pt.U, Pt.locs, Pt.cells, Pt.slots] at X1 l1 y1 z1 st hQ
  subst l1 y1 z1
  exact ⟨v, T1, Lc, X1, hQ, st⟩
theorem wVirtual (X : Stand p l e R s m args below meth c T locs cells slots) (hx : p.tables.exec = Jvm.exec) (hZ : Z.Warmed39 s.vm) {own C : String} {index : Nat} {y z : MethodName} {bytes : ByteArray} {maxL : Nat} {rt : Option FieldType} {rm : Room} {as' : Array Value} (hown : s.vm.findClass own = some m.cls)
    (w1 : (Jvm.Cond.methodLink own index y).before a0 Z = true) (w2 : (Jvm.Cond.declares y).before a0 Z = true) (nf : NotFace s y) (w5 : (Jvm.Cond.selects C y z).before a0 Z = true) (w6 : (Jvm.Cond.instanceMethod z).before a0 Z = true) (w3 : (Jvm.Cond.initialized z.cls).before a0 Z = true) (w4 : (Jvm.Cond.code z bytes maxL rt).before a0 Z = true)
    (hy : y.cls ≠ "java/lang/invoke/MethodHandle" ∧ y.cls ≠ "java/lang/invoke/VarHandle") (hM : OCon l z bytes maxL rt [] rm Z as' h Q) (W : Nat) (hf : rm.frames + 1 ≤ R.frames) (hl : W + (maxL + 11) + rm.locals ≤ R.locals) {b : Addr} (E : Exa Z h b C) {g : JFrame} (hg : g.method = m) (hsize : g.locals.size = c.maxLocals) {argsL rest : List Value} (hlen : ∀ sig, parseMethodDescriptor y.desc = some sig → argsL.length = sig.parameters.length)
    (hstack : g.stack = argsL.reverse ++ .ref b :: rest) (hW : 2 * g.monitorRoom + (rest.map fun v => v.category).sum ≤ W) (hd : decode c.code g.pc = .ok (.invokevirtual index, 3)) (has : (.ref b :: argsL).toArray = as') (eT : T.heap = h) (hc : cells + rm.cells ≤ R.cells) (hs : slots + rm.slots ≤ R.slots) :
    ∃ (v : Option Value) (T' : State) (L : List Loc), Stand p l e R s m args below meth c T' (locs ++ L) (cells + rm.cells) (slots + rm.slots) ∧ Q v T'.heap L ∧ Steps p.tables e below (T.setTop g) (T'.setTop { g with pc := g.pc + 3, stack := v.toList ++ rest }) := by
  obtain ⟨cq, kq, qa, qb, qc⟩ := isOf hZ eT E
  obtain ⟨v, _, ⟨T1, L1, k1, n1⟩, -, X1, ⟨Lc, hQ, l1, y1, z1⟩, st⟩ := X.virtualBack hx (y := y) (z := z) hown (mvT hZ w1) (mvT hZ w2) nf (mvT hZ w5) (mvT hZ w6) hy (backOf (W := W) hM hZ w4 w3 hf hl) qa qc (g := g) hg hsize (Steps.refl _) (argsL := argsL) (rest := rest) hlen hstack hW hd (fun _ _ => ⟨has, eT, hc, hs⟩)
  dsimp only [Pt.U, Pt.locs, Pt.cells, Pt.slots] at X1 l1 y1 z1 st hQ
  subst l1 y1 z1
  exact ⟨v, T1, Lc, X1, hQ, st⟩
end Own
end Jvm.Pilot.@@N@@
namespace Jvm.Pilot.@@N@@
open Jvm Jvm.ClassFile Sem Op Lib Jvm.Free Jvm.Stand Jvm.LawKit Jvm.RoadKit Bundle Jvm.Pilot.@@N@@.Jvm.D
def lmin (a b : Int64) : Int64 := if b < a then b else a
def cas (i s : Int64) : Int64 := if i = 0 then 0 else lmin (s + 2) 4294967295
theorem own_s (p : Int32) (q u : Int64) (h : u = (if (p &&& (2 : Int32)) = (0 : Int32) then (q &&& (4294967295 : Int64)) else ((4294967295 : Int64) - (q &&& (3 : Int64))))) : 0 ≤ u.toInt ∧ u.toInt ≤ 4294967295 := by
  subst h
  split
  · have m1 := c_maskL q 4294967295 32 (by decide) (by decide)
    omega
  · have m1 := c_maskL q 3 2 (by decide) (by decide)
    have m2 := c_lsub 4294967295 (q &&& 3)
    have m3 : (4294967295 : Int64).toInt = 4294967295 := by decide
    have m4 := rng64 (4294967295 - (q &&& 3))
    omega
theorem own_v (i s : Int64) (hs : 0 ≤ s.toInt ∧ s.toInt ≤ 4294967295) : (¬ cas i s < 0) ∧ (¬ 4294967295 < cas i s) ∧ cas i s = (if i = 0 then 0 else if s < 4294967294 then s + 2 else 4294967295) := by
  have e0 : (0 : Int64).toInt = 0 := by decide
  have e1 : (4294967295 : Int64).toInt = 4294967295 := by decide
  have e2 : (4294967294 : Int64).toInt = 4294967294 := by decide
  have e3 : (2 : Int64).toInt = 2 := by decide
  have c1 := c_ladd s 2
  have r1 := rng64 (s + 2)
  have c2 : (s + 2).toInt = s.toInt + 2 := by omega
  unfold cas lmin
  by_cases q : i = 0
  · rw [if_pos q, if_pos q]
    exact ⟨by decide, by decide, rfl⟩
  · rw [if_neg q, if_neg q]
    by_cases r : (4294967295 : Int64) < s + 2
    · rw [if_pos r]
      rw [Int64.lt_iff_toInt_lt, c2, e1] at r
      rw [if_neg (by rw [Int64.lt_iff_toInt_lt]; omega)]
      exact ⟨by decide, by decide, rfl⟩
    · rw [if_neg r]
      rw [Int64.lt_iff_toInt_lt, c2, e1] at r
      refine ⟨by rw [Int64.lt_iff_toInt_lt]; omega, by rw [Int64.lt_iff_toInt_lt]; omega, ?_⟩
      by_cases t : s < 4294967294
      · rw [if_pos t]
      · rw [if_neg t, ← Int64.toInt_inj]
        rw [Int64.lt_iff_toInt_lt] at t
        omega
theorem d2_0 : decode jdk_29_method_70_code 0 = .ok (.lload_n 0, 1) := by decide +kernel
theorem d2_1 : decode jdk_29_method_70_code 1 = .ok (.lload_n 2, 1) := by decide +kernel
theorem d2_2 : decode jdk_29_method_70_code 2 = .ok (.lcmp, 1) := by decide +kernel
theorem d2_3 : decode jdk_29_method_70_code 3 = .ok (.ifCond .gt 7, 3) := by decide +kernel
theorem d2_10 : decode jdk_29_method_70_code 10 = .ok (.lload_n 2, 1) := by decide +kernel
theorem d2_11 : decode jdk_29_method_70_code 11 = .ok (.lreturn, 1) := by decide +kernel
theorem d2_6 : decode jdk_29_method_70_code 6 = .ok (.lload_n 0, 1) := by decide +kernel
theorem d2_7 : decode jdk_29_method_70_code 7 = .ok (.goto 4, 3) := by decide +kernel
def lmin_b_rm : Room := { frames := 0, cells := 0, slots := 0, locals := 0 }
def lmin_b_Q (Z : State) (q0 : Int64) (q1 : Int64) (h0 : Heap) (n0 : Nat) (v : Option Value) (h : Heap) (L : List Loc) : Prop := (v = some (.long (lmin q0 q1))) ∧ (Fr n0 L) ∧ (h = h0)
theorem lmin_b_ef (m : MethodId) (q0 : Int64) (q1 : Int64) : entryFrame m #[(.long q0), (.long q1)] 4 = mkF m 0 #[.val (.long q0), .second, .val (.long q1), .second] [] := by first | (simp [entryFrame, mkF, argsToLocals, Value.category]; done) | rfl
set_option maxRecDepth 65536 in
set_option maxHeartbeats 40000000 in
theorem lmin_b_c (l : Launch) (Z : State) (az : Array Value) (hw : ∀ d ∈ tables_1, d.before az Z = true) (ws : List Jvm.Cond) (q0 : Int64) (q1 : Int64) (h0 : Heap) (n0 : Nat) (Z0 : n0 ≤ h0.size) :
    OCon l (⟨"java/lang/Math", "min", "(JJ)J"⟩ : MethodName) jdk_29_method_70_code 4 (some .long) ws lmin_b_rm Z #[(.long q0), (.long q1)] h0 (lmin_b_Q Z q0 q1 h0 n0) := by
  refine ocon (Jvm.Free.JP.mathPlain rfl (by decide +kernel)) ?_
  intro p e s m below meth c s₁ hx hby hml hown hnm hret hlk hZ X0 eh0
  have N0 := Fr.nil n0
  have K0 := Keep.refl h0 []
  refine ogoE (lmin_b_ef m q0 q1) ?_
  generalize hG : (OEnd s below (lmin_b_Q Z q0 q1 h0 n0) lmin_b_rm.cells lmin_b_rm.slots) = G
  show OWay p e below G s₁ (mkF m 0 #[.val (.long q0), .second, .val (.long q1), .second] [])
  refine ogo (fun _ z_ => XS.lloadN X0.here hx rfl (hb hby d2_0) rfl z_) ?_
  show OWay p e below G s₁ (mkF m 1 #[.val (.long q0), .second, .val (.long q1), .second] [(.long q0)])
  refine ogo (fun _ z_ => XS.lloadN X0.here hx rfl (hb hby d2_1) rfl z_) ?_
  show OWay p e below G s₁ (mkF m 2 #[.val (.long q0), .second, .val (.long q1), .second] [(.long q1), (.long q0)])
  refine ogo (fun _ z_ => XS.lcmp X0.here hx rfl (hb hby d2_2) rfl z_) ?_
  show OWay p e below G s₁ (mkF m 3 #[.val (.long q0), .second, .val (.long q1), .second] [(.int (lcmpW q0 q1))])
  by_cases c3 : q1 < q0
  · refine ogo (fun _ z_ => XS.ifYes X0.here hx rfl (pc0 := 3) (pc' := 10) rfl (hb hby d2_3) rfl ((if0 _ _).trans (tlt ((lw_gt _ _).mpr c3)).2.2.1) (by decide) (by decide) z_) ?_
    show OWay p e below G s₁ (mkF m 10 #[.val (.long q0), .second, .val (.long q1), .second] [])
    refine ogo (fun _ z_ => XS.lloadN X0.here hx rfl (hb hby d2_10) rfl z_) ?_
    show OWay p e below G s₁ (mkF m 11 #[.val (.long q0), .second, .val (.long q1), .second] [(.long q1)])
    subst hG
    refine wRet X0 hx hret hlk rfl (Or.inr (Or.inl ⟨rfl, rfl, _, rfl⟩)) (hb hby d2_11) (by decide) (by decide) eh0 ?_
    exact ⟨(congrArg some (congrArg Value.long (show _ = lmin q0 q1 from by unfold lmin; rw [if_pos c3]))), N0, rfl⟩
  · refine ogo (fun _ z_ => XS.ifNo X0.here hx rfl (hb hby d2_3) rfl ((if0 _ _).trans (flt (fun q => c3 ((lw_gt _ _).mp q))).2.2.1) z_) ?_
    show OWay p e below G s₁ (mkF m 6 #[.val (.long q0), .second, .val (.long q1), .second] [])
    refine ogo (fun _ z_ => XS.lloadN X0.here hx rfl (hb hby d2_6) rfl z_) ?_
    show OWay p e below G s₁ (mkF m 7 #[.val (.long q0), .second, .val (.long q1), .second] [(.long q0)])
    refine ogo (fun _ z_ => XS.goto X0.here hx rfl (pc0 := 7) (pc' := 11) rfl (hb hby d2_7) (by decide) (by decide) z_) ?_
    show OWay p e below G s₁ (mkF m 11 #[.val (.long q0), .second, .val (.long q1), .second] [(.long q0)])
    subst hG
    refine wRet X0 hx hret hlk rfl (Or.inr (Or.inl ⟨rfl, rfl, _, rfl⟩)) (hb hby d2_11) (by decide) (by decide) eh0 ?_
    exact ⟨(congrArg some (congrArg Value.long (show _ = lmin q0 q1 from by unfold lmin; rw [if_neg c3]))), N0, rfl⟩
theorem pn_com_example_marduk_marduk_protocol_LeaderElection : plainName "com/example/marduk/marduk/protocol/LeaderElection" = true := by first | (simp [plainName, overriddenIn]; done) | decide +kernel
theorem d1_0 : decode prog_23_method_2_code 0 = .ok (.lload_n 0, 1) := by decide +kernel
theorem d1_1 : decode prog_23_method_2_code 1 = .ok (.lconst 0, 1) := by decide +kernel
theorem d1_2 : decode prog_23_method_2_code 2 = .ok (.lcmp, 1) := by decide +kernel
theorem d1_3 : decode prog_23_method_2_code 3 = .ok (.ifCond .ne 5, 3) := by decide +kernel
theorem d1_6 : decode prog_23_method_2_code 6 = .ok (.lconst 0, 1) := by decide +kernel
theorem d1_7 : decode prog_23_method_2_code 7 = .ok (.lreturn, 1) := by decide +kernel
theorem d1_8 : decode prog_23_method_2_code 8 = .ok (.lload_n 2, 1) := by decide +kernel
theorem d1_9 : decode prog_23_method_2_code 9 = .ok (.ldc2_w 130, 3) := by decide +kernel
theorem d1_12 : decode prog_23_method_2_code 12 = .ok (.ladd, 1) := by decide +kernel
theorem d1_13 : decode prog_23_method_2_code 13 = .ok (.ldc2_w 132, 3) := by decide +kernel
theorem d1_16 : decode prog_23_method_2_code 16 = .ok (.invokestatic 134, 3) := by decide +kernel
theorem pd__JJ_J : parseMethodDescriptor "(JJ)J" = some ⟨[.long, .long], some .long⟩ := by decide +kernel
theorem d1_19 : decode prog_23_method_2_code 19 = .ok (.lreturn, 1) := by decide +kernel
def cas_b_rm : Room := { frames := 1, cells := 0, slots := 0, locals := 15 }
def cas_b_Q (Z : State) (q0 : Int64) (q1 : Int64) (h0 : Heap) (n0 : Nat) (v : Option Value) (h : Heap) (L : List Loc) : Prop := (v = some (.long (cas q0 q1))) ∧ (Fr n0 L) ∧ (h = h0)
theorem cas_b_ef (m : MethodId) (q0 : Int64) (q1 : Int64) : entryFrame m #[(.long q0), (.long q1)] 4 = mkF m 0 #[.val (.long q0), .second, .val (.long q1), .second] [] := by first | (simp [entryFrame, mkF, argsToLocals, Value.category]; done) | rfl
set_option maxRecDepth 65536 in
set_option maxHeartbeats 40000000 in
theorem cas_b_c (l : Launch) (Z : State) (az : Array Value) (hw : ∀ d ∈ tables_1, d.before az Z = true) (ws : List Jvm.Cond) (q0 : Int64) (q1 : Int64) (h0 : Heap) (n0 : Nat) (Z0 : n0 ≤ h0.size) :
    OCon l (⟨"com/example/marduk/marduk/protocol/LeaderElection", "countAtStart", "(JJ)J"⟩ : MethodName) prog_23_method_2_code 4 (some .long) ws cas_b_rm Z #[(.long q0), (.long q1)] h0 (cas_b_Q Z q0 q1 h0 n0) := by
  refine ocon (plainFor_of_name pn_com_example_marduk_marduk_protocol_LeaderElection) ?_
  intro p e s m below meth c s₁ hx hby hml hown hnm hret hlk hZ X0 eh0
  have N0 := Fr.nil n0
  have K0 := Keep.refl h0 []
  refine ogoE (cas_b_ef m q0 q1) ?_
  generalize hG : (OEnd s below (cas_b_Q Z q0 q1 h0 n0) cas_b_rm.cells cas_b_rm.slots) = G
  show OWay p e below G s₁ (mkF m 0 #[.val (.long q0), .second, .val (.long q1), .second] [])
  refine ogo (fun _ z_ => XS.lloadN X0.here hx rfl (hb hby d1_0) rfl z_) ?_
  show OWay p e below G s₁ (mkF m 1 #[.val (.long q0), .second, .val (.long q1), .second] [(.long q0)])
  refine ogo (fun _ z_ => XS.lconst X0.here hx rfl (hb hby d1_1) z_) ?_
  show OWay p e below G s₁ (mkF m 2 #[.val (.long q0), .second, .val (.long q1), .second] [(.long (0 : Int64)), (.long q0)])
  refine ogo (fun _ z_ => XS.lcmp X0.here hx rfl (hb hby d1_2) rfl z_) ?_
  show OWay p e below G s₁ (mkF m 3 #[.val (.long q0), .second, .val (.long q1), .second] [(.int (lcmpW q0 (0 : Int64)))])
  by_cases c3 : q0 = (0 : Int64)
  · refine ogo (fun _ z_ => XS.ifNo X0.here hx rfl (hb hby d1_3) rfl ((if0 _ _).trans (teq ((lw_eq _ _).mpr c3)).2) z_) ?_
    show OWay p e below G s₁ (mkF m 6 #[.val (.long q0), .second, .val (.long q1), .second] [])
    refine ogo (fun _ z_ => XS.lconst X0.here hx rfl (hb hby d1_6) z_) ?_
    show OWay p e below G s₁ (mkF m 7 #[.val (.long q0), .second, .val (.long q1), .second] [(.long (0 : Int64))])
    subst hG
    refine wRet X0 hx hret hlk rfl (Or.inr (Or.inl ⟨rfl, rfl, _, rfl⟩)) (hb hby d1_7) (by decide) (by decide) eh0 ?_
    exact ⟨(congrArg some (congrArg Value.long (show _ = cas q0 q1 from by unfold cas; rw [if_pos c3]))), N0, rfl⟩
  · refine ogo (fun _ z_ => XS.ifYes X0.here hx rfl (pc0 := 3) (pc' := 8) rfl (hb hby d1_3) rfl ((if0 _ _).trans (feq (fun q => c3 ((lw_eq _ _).mp q))).2) (by decide) (by decide) z_) ?_
    show OWay p e below G s₁ (mkF m 8 #[.val (.long q0), .second, .val (.long q1), .second] [])
    refine ogo (fun _ z_ => XS.lloadN X0.here hx rfl (hb hby d1_8) rfl z_) ?_
    show OWay p e below G s₁ (mkF m 9 #[.val (.long q0), .second, .val (.long q1), .second] [(.long q1)])
    refine ogo (fun _ z_ => X0.ldc2Long hx hown (mvT hZ (hw _ (List.mem_of_getElem? (i := 5) rfl))) (g := (mkF m 9 #[.val (.long q0), .second, .val (.long q1), .second] [(.long q1)])) rfl (hb hby d1_9) _ z_) ?_
    show OWay p e below G s₁ (mkF m 12 #[.val (.long q0), .second, .val (.long q1), .second] [(.long (2 : Int64)), (.long q1)])
    refine ogo (fun _ z_ => XS.ladd X0.here hx rfl (hb hby d1_12) rfl z_) ?_
    show OWay p e below G s₁ (mkF m 13 #[.val (.long q0), .second, .val (.long q1), .second] [(.long (q1 + (2 : Int64)))])
    refine ogo (fun _ z_ => X0.ldc2Long hx hown (mvT hZ (hw _ (List.mem_of_getElem? (i := 6) rfl))) (g := (mkF m 13 #[.val (.long q0), .second, .val (.long q1), .second] [(.long (q1 + (2 : Int64)))])) rfl (hb hby d1_13) _ z_) ?_
    show OWay p e below G s₁ (mkF m 16 #[.val (.long q0), .second, .val (.long q1), .second] [(.long (4294967295 : Int64)), (.long (q1 + (2 : Int64)))])
    obtain ⟨_, T1, L1, X1, hQ1, st1⟩ := wStatic X0 hx hZ (y := (⟨"java/lang/Math", "min", "(JJ)J"⟩ : MethodName)) hown (hw _ (List.mem_of_getElem? (i := 7) rfl)) (hw _ (List.mem_of_getElem? (i := 8) rfl)) (hw _ (List.mem_of_getElem? (i := 9) rfl)) (hw _ (List.mem_of_getElem? (i := 10) rfl)) (by decide) (lmin_b_c l Z az hw [] (q1 + (2 : Int64)) (4294967295 : Int64) h0 n0 Z0) 0 (by decide) (by decide) (g := (mkF m 16 #[.val (.long q0), .second, .val (.long q1), .second] [(.long (4294967295 : Int64)), (.long (q1 + (2 : Int64)))])) rfl (by rw [hml]; rfl) (argsL := [(.long (q1 + (2 : Int64))), (.long (4294967295 : Int64))]) (rest := []) (lenOf pd__JJ_J rfl) rfl (by show 2 * 0 + _ ≤ _; exact Nat.le_of_eq rfl) (hb hby d1_16) rfl eh0 (by decide) (by decide)
    obtain ⟨rfl, N1q, eq1⟩ := hQ1
    have N1 := Fr.app N0 N1q
    refine ogo st1 ?_
    show OWay p e below G T1 (mkF m 19 #[.val (.long q0), .second, .val (.long q1), .second] [(.long (lmin (q1 + (2 : Int64)) (4294967295 : Int64)))])
    subst hG
    refine wRet X1 hx hret hlk rfl (Or.inr (Or.inl ⟨rfl, rfl, _, rfl⟩)) (hb hby d1_19) (by decide) (by decide) eq1 ?_
    exact ⟨(congrArg some (congrArg Value.long (show _ = cas q0 q1 from by unfold cas; rw [if_neg c3]))), N1, rfl⟩
theorem pn_com_example_marduk_marduk_protocol_LeaderElectionCountAtStartPinLaw : plainName "com/example/marduk/marduk/protocol/LeaderElectionCountAtStartPinLaw" = true := by first | (simp [plainName, overriddenIn]; done) | decide +kernel
def law_Q (Z : State) (q0 : Int64) (q1 : Int64) (p2 : Int32) (h0 : Heap) (n0 : Nat) (v : Option Value) (h : Heap) (L : List Loc) : Prop := v = some (.int 1) ∧ Fr n0 L
theorem law_ef (m : MethodId) (q0 : Int64) (q1 : Int64) (p2 : Int32) : entryFrame m #[(.long q0), (.long q1), (.int p2)] maxLocals = mkF m 0 #[.val (.long q0), .second, .val (.long q1), .second, .val (.int p2), .unset, .unset, .unset, .unset, .unset, .unset, .unset, .unset, .unset, .unset, .unset] [] := by first | (simp [entryFrame, mkF, argsToLocals, Value.category, maxLocals]; done) | rfl
set_option maxRecDepth 65536 in
set_option maxHeartbeats 40000000 in
theorem law_c (l : Launch) (Z : State) (az : Array Value) (hw : ∀ d ∈ tables_1, d.before az Z = true) (ws : List Jvm.Cond) (q0 : Int64) (q1 : Int64) (p2 : Int32) (h0 : Heap) (n0 : Nat) (Z0 : n0 ≤ h0.size) :
    OCon l x code maxLocals ret ws room_1 Z #[(.long q0), (.long q1), (.int p2)] h0 (law_Q Z q0 q1 p2 h0 n0) := by
  refine ocon (plainFor_of_name pn_com_example_marduk_marduk_protocol_LeaderElectionCountAtStartPinLaw) ?_
  intro p e s m below meth c s₁ hx hby hml hown hnm hret hlk hZ X0 eh0
  have N0 := Fr.nil n0
  have K0 := Keep.refl h0 []
  refine ogoE (law_ef m q0 q1 p2) ?_
  generalize hG : (OEnd s below (law_Q Z q0 q1 p2 h0 n0) room_1.cells room_1.slots) = G
  show OWay p e below G s₁ (mkF m 0 #[.val (.long q0), .second, .val (.long q1), .second, .val (.int p2), .unset, .unset, .unset, .unset, .unset, .unset, .unset, .unset, .unset, .unset, .unset] [])
  refine ogo (fun _ z_ => X0.ldc2Long hx hown (mvT hZ (hw _ (List.mem_of_getElem? (i := 0) rfl))) (g := (mkF m 0 #[.val (.long q0), .second, .val (.long q1), .second, .val (.int p2), .unset, .unset, .unset, .unset, .unset, .unset, .unset, .unset, .unset, .unset, .unset] [])) rfl (hb hby at_0) _ z_) ?_
  show OWay p e below G s₁ (mkF m 3 #[.val (.long q0), .second, .val (.long q1), .second, .val (.int p2), .unset, .unset, .unset, .unset, .unset, .unset, .unset, .unset, .unset, .unset, .unset] [(.long (4294967295 : Int64))])
  refine ogo (fun _ z_ => XS.lstore X0.here hx rfl (hb hby at_3) rfl (l' := #[.val (.long q0), .second, .val (.long q1), .second, .val (.int p2), .val (.long (4294967295 : Int64)), .second, .unset, .unset, .unset, .unset, .unset, .unset, .unset, .unset, .unset]) rfl z_) ?_
  show OWay p e below G s₁ (mkF m 5 #[.val (.long q0), .second, .val (.long q1), .second, .val (.int p2), .val (.long (4294967295 : Int64)), .second, .unset, .unset, .unset, .unset, .unset, .unset, .unset, .unset, .unset] [])
  refine ogo (fun _ z_ => XS.iload X0.here hx rfl (hb hby at_5) rfl z_) ?_
  show OWay p e below G s₁ (mkF m 7 #[.val (.long q0), .second, .val (.long q1), .second, .val (.int p2), .val (.long (4294967295 : Int64)), .second, .unset, .unset, .unset, .unset, .unset, .unset, .unset, .unset, .unset] [(.int p2)])
  refine ogo (fun _ z_ => XS.iconst X0.here hx rfl (hb hby at_7) z_) ?_
  show OWay p e below G s₁ (mkF m 8 #[.val (.long q0), .second, .val (.long q1), .second, .val (.int p2), .val (.long (4294967295 : Int64)), .second, .unset, .unset, .unset, .unset, .unset, .unset, .unset, .unset, .unset] [(.int (1 : Int32)), (.int p2)])
  refine ogo (fun _ z_ => XS.iand X0.here hx rfl (hb hby at_8) rfl z_) ?_
  show OWay p e below G s₁ (mkF m 9 #[.val (.long q0), .second, .val (.long q1), .second, .val (.int p2), .val (.long (4294967295 : Int64)), .second, .unset, .unset, .unset, .unset, .unset, .unset, .unset, .unset, .unset] [(.int (p2 &&& (1 : Int32)))])
  have J2 : ∀ (us0_1 : Int64), us0_1 = (if (p2 &&& (1 : Int32)) = (0 : Int32) then q0 else (0 : Int64)) → OWay p e below G s₁ (mkF m 17 #[.val (.long q0), .second, .val (.long q1), .second, .val (.int p2), .val (.long (4294967295 : Int64)), .second, .unset, .unset, .unset, .unset, .unset, .unset, .unset, .unset, .unset] [(.long us0_1)]) := by
    intro us0_1 hus0_1
    refine ogo (fun _ z_ => XS.lstore X0.here hx rfl (hb hby at_17) rfl (l' := #[.val (.long q0), .second, .val (.long q1), .second, .val (.int p2), .val (.long (4294967295 : Int64)), .second, .val (.long us0_1), .second, .unset, .unset, .unset, .unset, .unset, .unset, .unset]) rfl z_) ?_
    show OWay p e below G s₁ (mkF m 19 #[.val (.long q0), .second, .val (.long q1), .second, .val (.int p2), .val (.long (4294967295 : Int64)), .second, .val (.long us0_1), .second, .unset, .unset, .unset, .unset, .unset, .unset, .unset] [])
    refine ogo (fun _ z_ => XS.iload X0.here hx rfl (hb hby at_19) rfl z_) ?_
    show OWay p e below G s₁ (mkF m 21 #[.val (.long q0), .second, .val (.long q1), .second, .val (.int p2), .val (.long (4294967295 : Int64)), .second, .val (.long us0_1), .second, .unset, .unset, .unset, .unset, .unset, .unset, .unset] [(.int p2)])
    refine ogo (fun _ z_ => XS.iconst X0.here hx rfl (hb hby at_21) z_) ?_
    show OWay p e below G s₁ (mkF m 22 #[.val (.long q0), .second, .val (.long q1), .second, .val (.int p2), .val (.long (4294967295 : Int64)), .second, .val (.long us0_1), .second, .unset, .unset, .unset, .unset, .unset, .unset, .unset] [(.int (2 : Int32)), (.int p2)])
    refine ogo (fun _ z_ => XS.iand X0.here hx rfl (hb hby at_22) rfl z_) ?_
    show OWay p e below G s₁ (mkF m 23 #[.val (.long q0), .second, .val (.long q1), .second, .val (.int p2), .val (.long (4294967295 : Int64)), .second, .val (.long us0_1), .second, .unset, .unset, .unset, .unset, .unset, .unset, .unset] [(.int (p2 &&& (2 : Int32)))])
    have J4 : ∀ (us0_3 : Int64), us0_3 = (if (p2 &&& (2 : Int32)) = (0 : Int32) then (q1 &&& (4294967295 : Int64)) else ((4294967295 : Int64) - (q1 &&& (3 : Int64)))) → OWay p e below G s₁ (mkF m 42 #[.val (.long q0), .second, .val (.long q1), .second, .val (.int p2), .val (.long (4294967295 : Int64)), .second, .val (.long us0_1), .second, .unset, .unset, .unset, .unset, .unset, .unset, .unset] [(.long us0_3)]) := by
      intro us0_3 hus0_3
      refine ogo (fun _ z_ => XS.lstore X0.here hx rfl (hb hby at_42) rfl (l' := #[.val (.long q0), .second, .val (.long q1), .second, .val (.int p2), .val (.long (4294967295 : Int64)), .second, .val (.long us0_1), .second, .val (.long us0_3), .second, .unset, .unset, .unset, .unset, .unset]) rfl z_) ?_
      show OWay p e below G s₁ (mkF m 44 #[.val (.long q0), .second, .val (.long q1), .second, .val (.int p2), .val (.long (4294967295 : Int64)), .second, .val (.long us0_1), .second, .val (.long us0_3), .second, .unset, .unset, .unset, .unset, .unset] [])
      refine ogo (fun _ z_ => XS.lload X0.here hx rfl (hb hby at_44) rfl z_) ?_
      show OWay p e below G s₁ (mkF m 46 #[.val (.long q0), .second, .val (.long q1), .second, .val (.int p2), .val (.long (4294967295 : Int64)), .second, .val (.long us0_1), .second, .val (.long us0_3), .second, .unset, .unset, .unset, .unset, .unset] [(.long us0_1)])
      refine ogo (fun _ z_ => XS.lload X0.here hx rfl (hb hby at_46) rfl z_) ?_
      show OWay p e below G s₁ (mkF m 48 #[.val (.long q0), .second, .val (.long q1), .second, .val (.int p2), .val (.long (4294967295 : Int64)), .second, .val (.long us0_1), .second, .val (.long us0_3), .second, .unset, .unset, .unset, .unset, .unset] [(.long us0_3), (.long us0_1)])
      obtain ⟨_, T5, L5, X5, hQ5, st5⟩ := wStatic X0 hx hZ (y := (⟨"com/example/marduk/marduk/protocol/LeaderElection", "countAtStart", "(JJ)J"⟩ : MethodName)) hown (hw _ (List.mem_of_getElem? (i := 1) rfl)) (hw _ (List.mem_of_getElem? (i := 2) rfl)) (hw _ (List.mem_of_getElem? (i := 3) rfl)) (hw _ (List.mem_of_getElem? (i := 4) rfl)) (by decide) (cas_b_c l Z az hw [] us0_1 us0_3 h0 n0 Z0) 0 (by decide) (by decide) (g := (mkF m 48 #[.val (.long q0), .second, .val (.long q1), .second, .val (.int p2), .val (.long (4294967295 : Int64)), .second, .val (.long us0_1), .second, .val (.long us0_3), .second, .unset, .unset, .unset, .unset, .unset] [(.long us0_3), (.long us0_1)])) rfl (by rw [hml]; rfl) (argsL := [(.long us0_1), (.long us0_3)]) (rest := []) (lenOf pd__JJ_J rfl) rfl (by show 2 * 0 + _ ≤ _; exact Nat.le_of_eq rfl) (hb hby at_48) rfl eh0 (by decide) (by decide)
      obtain ⟨rfl, N5q, eq5⟩ := hQ5
      have N5 := Fr.app N0 N5q
      refine ogo st5 ?_
      show OWay p e below G T5 (mkF m 51 #[.val (.long q0), .second, .val (.long q1), .second, .val (.int p2), .val (.long (4294967295 : Int64)), .second, .val (.long us0_1), .second, .val (.long us0_3), .second, .unset, .unset, .unset, .unset, .unset] [(.long (cas us0_1 us0_3))])
      suffices Jv11_6 : ∀ v11_6 : Int64, v11_6 = (cas us0_1 us0_3) → OWay p e below G T5 (mkF m 51 #[.val (.long q0), .second, .val (.long q1), .second, .val (.int p2), .val (.long (4294967295 : Int64)), .second, .val (.long us0_1), .second, .val (.long us0_3), .second, .unset, .unset, .unset, .unset, .unset] [(.long v11_6)]) from Jv11_6 _ rfl
      intro v11_6 hv11_6
      refine ogo (fun _ z_ => XS.lstore X5.here hx rfl (hb hby at_51) rfl (l' := #[.val (.long q0), .second, .val (.long q1), .second, .val (.int p2), .val (.long (4294967295 : Int64)), .second, .val (.long us0_1), .second, .val (.long us0_3), .second, .val (.long v11_6), .second, .unset, .unset, .unset]) rfl z_) ?_
      show OWay p e below G T5 (mkF m 53 #[.val (.long q0), .second, .val (.long q1), .second, .val (.int p2), .val (.long (4294967295 : Int64)), .second, .val (.long us0_1), .second, .val (.long us0_3), .second, .val (.long v11_6), .second, .unset, .unset, .unset] [])
      have hv := own_v us0_1 us0_3 (own_s p2 q1 us0_3 hus0_3)
      rw [← hv11_6] at hv
      refine ogo (fun _ z_ => XS.lload X5.here hx rfl (hb hby at_53) rfl z_) ?_
      show OWay p e below G T5 (mkF m 55 #[.val (.long q0), .second, .val (.long q1), .second, .val (.int p2), .val (.long (4294967295 : Int64)), .second, .val (.long us0_1), .second, .val (.long us0_3), .second, .val (.long v11_6), .second, .unset, .unset, .unset] [(.long us0_1)])
      refine ogo (fun _ z_ => XS.lconst X5.here hx rfl (hb hby at_55) z_) ?_
      show OWay p e below G T5 (mkF m 56 #[.val (.long q0), .second, .val (.long q1), .second, .val (.int p2), .val (.long (4294967295 : Int64)), .second, .val (.long us0_1), .second, .val (.long us0_3), .second, .val (.long v11_6), .second, .unset, .unset, .unset] [(.long (0 : Int64)), (.long us0_1)])
      refine ogo (fun _ z_ => XS.lcmp X5.here hx rfl (hb hby at_56) rfl z_) ?_
      show OWay p e below G T5 (mkF m 57 #[.val (.long q0), .second, .val (.long q1), .second, .val (.int p2), .val (.long (4294967295 : Int64)), .second, .val (.long us0_1), .second, .val (.long us0_3), .second, .val (.long v11_6), .second, .unset, .unset, .unset] [(.int (lcmpW us0_1 (0 : Int64)))])
      have J8 : ∀ (u13_7 : Int64), u13_7 = (if us0_1 = (0 : Int64) then (0 : Int64) else (if us0_3 < (4294967294 : Int64) then (us0_3 + (2 : Int64)) else (4294967295 : Int64))) → OWay p e below G T5 (mkF m 91 #[.val (.long q0), .second, .val (.long q1), .second, .val (.int p2), .val (.long (4294967295 : Int64)), .second, .val (.long us0_1), .second, .val (.long us0_3), .second, .val (.long v11_6), .second, .val (.long u13_7), .second, .unset] []) := by
        intro u13_7 hu13_7
        refine ogo (fun _ z_ => XS.lload X5.here hx rfl (hb hby at_91) rfl z_) ?_
        show OWay p e below G T5 (mkF m 93 #[.val (.long q0), .second, .val (.long q1), .second, .val (.int p2), .val (.long (4294967295 : Int64)), .second, .val (.long us0_1), .second, .val (.long us0_3), .second, .val (.long v11_6), .second, .val (.long u13_7), .second, .unset] [(.long v11_6)])
        refine ogo (fun _ z_ => XS.lconst X5.here hx rfl (hb hby at_93) z_) ?_
        show OWay p e below G T5 (mkF m 94 #[.val (.long q0), .second, .val (.long q1), .second, .val (.int p2), .val (.long (4294967295 : Int64)), .second, .val (.long us0_1), .second, .val (.long us0_3), .second, .val (.long v11_6), .second, .val (.long u13_7), .second, .unset] [(.long (0 : Int64)), (.long v11_6)])
        refine ogo (fun _ z_ => XS.lcmp X5.here hx rfl (hb hby at_94) rfl z_) ?_
        show OWay p e below G T5 (mkF m 95 #[.val (.long q0), .second, .val (.long q1), .second, .val (.int p2), .val (.long (4294967295 : Int64)), .second, .val (.long us0_1), .second, .val (.long us0_3), .second, .val (.long v11_6), .second, .val (.long u13_7), .second, .unset] [(.int (lcmpW v11_6 (0 : Int64)))])
        refine ogo (fun _ z_ => XS.ifNo X5.here hx rfl (hb hby at_95) rfl ((if0 _ _).trans (flt (fun q => (hv.1) ((lw_lt _ _).mp q))).1) z_) ?_
        show OWay p e below G T5 (mkF m 98 #[.val (.long q0), .second, .val (.long q1), .second, .val (.int p2), .val (.long (4294967295 : Int64)), .second, .val (.long us0_1), .second, .val (.long us0_3), .second, .val (.long v11_6), .second, .val (.long u13_7), .second, .unset] [])
        refine ogo (fun _ z_ => XS.lload X5.here hx rfl (hb hby at_98) rfl z_) ?_
        show OWay p e below G T5 (mkF m 100 #[.val (.long q0), .second, .val (.long q1), .second, .val (.int p2), .val (.long (4294967295 : Int64)), .second, .val (.long us0_1), .second, .val (.long us0_3), .second, .val (.long v11_6), .second, .val (.long u13_7), .second, .unset] [(.long v11_6)])
        refine ogo (fun _ z_ => XS.lload X5.here hx rfl (hb hby at_100) rfl z_) ?_
        show OWay p e below G T5 (mkF m 102 #[.val (.long q0), .second, .val (.long q1), .second, .val (.int p2), .val (.long (4294967295 : Int64)), .second, .val (.long us0_1), .second, .val (.long us0_3), .second, .val (.long v11_6), .second, .val (.long u13_7), .second, .unset] [(.long (4294967295 : Int64)), (.long v11_6)])
        refine ogo (fun _ z_ => XS.lcmp X5.here hx rfl (hb hby at_102) rfl z_) ?_
        show OWay p e below G T5 (mkF m 103 #[.val (.long q0), .second, .val (.long q1), .second, .val (.int p2), .val (.long (4294967295 : Int64)), .second, .val (.long us0_1), .second, .val (.long us0_3), .second, .val (.long v11_6), .second, .val (.long u13_7), .second, .unset] [(.int (lcmpW v11_6 (4294967295 : Int64)))])
        refine ogo (fun _ z_ => XS.ifNo X5.here hx rfl (hb hby at_103) rfl ((if0 _ _).trans (flt (fun q => (hv.2.1) ((lw_gt _ _).mp q))).2.2.1) z_) ?_
        show OWay p e below G T5 (mkF m 106 #[.val (.long q0), .second, .val (.long q1), .second, .val (.int p2), .val (.long (4294967295 : Int64)), .second, .val (.long us0_1), .second, .val (.long us0_3), .second, .val (.long v11_6), .second, .val (.long u13_7), .second, .unset] [])
        refine ogo (fun _ z_ => XS.iconst X5.here hx rfl (hb hby at_106) z_) ?_
        show OWay p e below G T5 (mkF m 107 #[.val (.long q0), .second, .val (.long q1), .second, .val (.int p2), .val (.long (4294967295 : Int64)), .second, .val (.long us0_1), .second, .val (.long us0_3), .second, .val (.long v11_6), .second, .val (.long u13_7), .second, .unset] [(.int (1 : Int32))])
        refine ogo (fun _ z_ => XS.goto X5.here hx rfl (pc0 := 107) (pc' := 111) rfl (hb hby at_107) (by decide) (by decide) z_) ?_
        show OWay p e below G T5 (mkF m 111 #[.val (.long q0), .second, .val (.long q1), .second, .val (.int p2), .val (.long (4294967295 : Int64)), .second, .val (.long us0_1), .second, .val (.long us0_3), .second, .val (.long v11_6), .second, .val (.long u13_7), .second, .unset] [(.int (1 : Int32))])
        refine ogo (fun _ z_ => XS.istore X5.here hx rfl (hb hby at_111) rfl (l' := #[.val (.long q0), .second, .val (.long q1), .second, .val (.int p2), .val (.long (4294967295 : Int64)), .second, .val (.long us0_1), .second, .val (.long us0_3), .second, .val (.long v11_6), .second, .val (.long u13_7), .second, .val (.int (1 : Int32))]) rfl z_) ?_
        show OWay p e below G T5 (mkF m 113 #[.val (.long q0), .second, .val (.long q1), .second, .val (.int p2), .val (.long (4294967295 : Int64)), .second, .val (.long us0_1), .second, .val (.long us0_3), .second, .val (.long v11_6), .second, .val (.long u13_7), .second, .val (.int (1 : Int32))] [])
        refine ogo (fun _ z_ => XS.iload X5.here hx rfl (hb hby at_113) rfl z_) ?_
        show OWay p e below G T5 (mkF m 115 #[.val (.long q0), .second, .val (.long q1), .second, .val (.int p2), .val (.long (4294967295 : Int64)), .second, .val (.long us0_1), .second, .val (.long us0_3), .second, .val (.long v11_6), .second, .val (.long u13_7), .second, .val (.int (1 : Int32))] [(.int (1 : Int32))])
        refine ogo (fun _ z_ => XS.ifNo X5.here hx rfl (hb hby at_115) rfl ((if0 _ _).trans (feq (by decide)).1) z_) ?_
        show OWay p e below G T5 (mkF m 118 #[.val (.long q0), .second, .val (.long q1), .second, .val (.int p2), .val (.long (4294967295 : Int64)), .second, .val (.long us0_1), .second, .val (.long us0_3), .second, .val (.long v11_6), .second, .val (.long u13_7), .second, .val (.int (1 : Int32))] [])
        refine ogo (fun _ z_ => XS.lload X5.here hx rfl (hb hby at_118) rfl z_) ?_
        show OWay p e below G T5 (mkF m 120 #[.val (.long q0), .second, .val (.long q1), .second, .val (.int p2), .val (.long (4294967295 : Int64)), .second, .val (.long us0_1), .second, .val (.long us0_3), .second, .val (.long v11_6), .second, .val (.long u13_7), .second, .val (.int (1 : Int32))] [(.long v11_6)])
        refine ogo (fun _ z_ => XS.lload X5.here hx rfl (hb hby at_120) rfl z_) ?_
        show OWay p e below G T5 (mkF m 122 #[.val (.long q0), .second, .val (.long q1), .second, .val (.int p2), .val (.long (4294967295 : Int64)), .second, .val (.long us0_1), .second, .val (.long us0_3), .second, .val (.long v11_6), .second, .val (.long u13_7), .second, .val (.int (1 : Int32))] [(.long u13_7), (.long v11_6)])
        refine ogo (fun _ z_ => XS.lcmp X5.here hx rfl (hb hby at_122) rfl z_) ?_
        show OWay p e below G T5 (mkF m 123 #[.val (.long q0), .second, .val (.long q1), .second, .val (.int p2), .val (.long (4294967295 : Int64)), .second, .val (.long us0_1), .second, .val (.long us0_3), .second, .val (.long v11_6), .second, .val (.long u13_7), .second, .val (.int (1 : Int32))] [(.int (lcmpW v11_6 u13_7))])
        refine ogo (fun _ z_ => XS.ifNo X5.here hx rfl (hb hby at_123) rfl ((if0 _ _).trans (teq ((lw_eq _ _).mpr (by rw [hu13_7]; exact hv.2.2))).2) z_) ?_
        show OWay p e below G T5 (mkF m 126 #[.val (.long q0), .second, .val (.long q1), .second, .val (.int p2), .val (.long (4294967295 : Int64)), .second, .val (.long us0_1), .second, .val (.long us0_3), .second, .val (.long v11_6), .second, .val (.long u13_7), .second, .val (.int (1 : Int32))] [])
        refine ogo (fun _ z_ => XS.iconst X5.here hx rfl (hb hby at_126) z_) ?_
        show OWay p e below G T5 (mkF m 127 #[.val (.long q0), .second, .val (.long q1), .second, .val (.int p2), .val (.long (4294967295 : Int64)), .second, .val (.long us0_1), .second, .val (.long us0_3), .second, .val (.long v11_6), .second, .val (.long u13_7), .second, .val (.int (1 : Int32))] [(.int (1 : Int32))])
        refine ogo (fun _ z_ => XS.goto X5.here hx rfl (pc0 := 127) (pc' := 131) rfl (hb hby at_127) (by decide) (by decide) z_) ?_
        show OWay p e below G T5 (mkF m 131 #[.val (.long q0), .second, .val (.long q1), .second, .val (.int p2), .val (.long (4294967295 : Int64)), .second, .val (.long us0_1), .second, .val (.long us0_3), .second, .val (.long v11_6), .second, .val (.long u13_7), .second, .val (.int (1 : Int32))] [(.int (1 : Int32))])
        subst hG
        refine wRetN X5 hx (t := .boolean) hret hlk (by simp) (hb hby at_131) (by decide) (by decide) eq5 ?_
        exact ⟨rfl, N5⟩
      by_cases c57 : us0_1 = (0 : Int64)
      · refine ogo (fun _ z_ => XS.ifNo X5.here hx rfl (hb hby at_57) rfl ((if0 _ _).trans (teq ((lw_eq _ _).mpr c57)).2) z_) ?_
        show OWay p e below G T5 (mkF m 60 #[.val (.long q0), .second, .val (.long q1), .second, .val (.int p2), .val (.long (4294967295 : Int64)), .second, .val (.long us0_1), .second, .val (.long us0_3), .second, .val (.long v11_6), .second, .unset, .unset, .unset] [])
        refine ogo (fun _ z_ => XS.lconst X5.here hx rfl (hb hby at_60) z_) ?_
        show OWay p e below G T5 (mkF m 61 #[.val (.long q0), .second, .val (.long q1), .second, .val (.int p2), .val (.long (4294967295 : Int64)), .second, .val (.long us0_1), .second, .val (.long us0_3), .second, .val (.long v11_6), .second, .unset, .unset, .unset] [(.long (0 : Int64))])
        refine ogo (fun _ z_ => XS.lstore X5.here hx rfl (hb hby at_61) rfl (l' := #[.val (.long q0), .second, .val (.long q1), .second, .val (.int p2), .val (.long (4294967295 : Int64)), .second, .val (.long us0_1), .second, .val (.long us0_3), .second, .val (.long v11_6), .second, .val (.long (0 : Int64)), .second, .unset]) rfl z_) ?_
        show OWay p e below G T5 (mkF m 63 #[.val (.long q0), .second, .val (.long q1), .second, .val (.int p2), .val (.long (4294967295 : Int64)), .second, .val (.long us0_1), .second, .val (.long us0_3), .second, .val (.long v11_6), .second, .val (.long (0 : Int64)), .second, .unset] [])
        refine ogo (fun _ z_ => XS.goto X5.here hx rfl (pc0 := 63) (pc' := 91) rfl (hb hby at_63) (by decide) (by decide) z_) ?_
        show OWay p e below G T5 (mkF m 91 #[.val (.long q0), .second, .val (.long q1), .second, .val (.int p2), .val (.long (4294967295 : Int64)), .second, .val (.long us0_1), .second, .val (.long us0_3), .second, .val (.long v11_6), .second, .val (.long (0 : Int64)), .second, .unset] [])
        exact J8 _ ((if_pos c57).trans rfl).symm
      · refine ogo (fun _ z_ => XS.ifYes X5.here hx rfl (pc0 := 57) (pc' := 66) rfl (hb hby at_57) rfl ((if0 _ _).trans (feq (fun q => c57 ((lw_eq _ _).mp q))).2) (by decide) (by decide) z_) ?_
        show OWay p e below G T5 (mkF m 66 #[.val (.long q0), .second, .val (.long q1), .second, .val (.int p2), .val (.long (4294967295 : Int64)), .second, .val (.long us0_1), .second, .val (.long us0_3), .second, .val (.long v11_6), .second, .unset, .unset, .unset] [])
        refine ogo (fun _ z_ => XS.lload X5.here hx rfl (hb hby at_66) rfl z_) ?_
        show OWay p e below G T5 (mkF m 68 #[.val (.long q0), .second, .val (.long q1), .second, .val (.int p2), .val (.long (4294967295 : Int64)), .second, .val (.long us0_1), .second, .val (.long us0_3), .second, .val (.long v11_6), .second, .unset, .unset, .unset] [(.long us0_3)])
        refine ogo (fun _ z_ => XS.lload X5.here hx rfl (hb hby at_68) rfl z_) ?_
        show OWay p e below G T5 (mkF m 70 #[.val (.long q0), .second, .val (.long q1), .second, .val (.int p2), .val (.long (4294967295 : Int64)), .second, .val (.long us0_1), .second, .val (.long us0_3), .second, .val (.long v11_6), .second, .unset, .unset, .unset] [(.long (4294967295 : Int64)), (.long us0_3)])
        refine ogo (fun _ z_ => XS.lconst X5.here hx rfl (hb hby at_70) z_) ?_
        show OWay p e below G T5 (mkF m 71 #[.val (.long q0), .second, .val (.long q1), .second, .val (.int p2), .val (.long (4294967295 : Int64)), .second, .val (.long us0_1), .second, .val (.long us0_3), .second, .val (.long v11_6), .second, .unset, .unset, .unset] [(.long (1 : Int64)), (.long (4294967295 : Int64)), (.long us0_3)])
        refine ogo (fun _ z_ => XS.lsub X5.here hx rfl (hb hby at_71) rfl z_) ?_
        show OWay p e below G T5 (mkF m 72 #[.val (.long q0), .second, .val (.long q1), .second, .val (.int p2), .val (.long (4294967295 : Int64)), .second, .val (.long us0_1), .second, .val (.long us0_3), .second, .val (.long v11_6), .second, .unset, .unset, .unset] [(.long ((4294967295 : Int64) - (1 : Int64))), (.long us0_3)])
        refine ogoE (g' := (mkF m 72 #[.val (.long q0), .second, .val (.long q1), .second, .val (.int p2), .val (.long (4294967295 : Int64)), .second, .val (.long us0_1), .second, .val (.long us0_3), .second, .val (.long v11_6), .second, .unset, .unset, .unset] [(.long (4294967294 : Int64)), (.long us0_3)])) (by rw [show ((4294967295 : Int64) - (1 : Int64)) = (4294967294 : Int64) from by decide]) ?_
        refine ogo (fun _ z_ => XS.lcmp X5.here hx rfl (hb hby at_72) rfl z_) ?_
        show OWay p e below G T5 (mkF m 73 #[.val (.long q0), .second, .val (.long q1), .second, .val (.int p2), .val (.long (4294967295 : Int64)), .second, .val (.long us0_1), .second, .val (.long us0_3), .second, .val (.long v11_6), .second, .unset, .unset, .unset] [(.int (lcmpW us0_3 (4294967294 : Int64)))])
        by_cases c73 : us0_3 < (4294967294 : Int64)
        · refine ogo (fun _ z_ => XS.ifYes X5.here hx rfl (pc0 := 73) (pc' := 83) rfl (hb hby at_73) rfl ((if0 _ _).trans (tlt ((lw_lt _ _).mpr c73)).1) (by decide) (by decide) z_) ?_
          show OWay p e below G T5 (mkF m 83 #[.val (.long q0), .second, .val (.long q1), .second, .val (.int p2), .val (.long (4294967295 : Int64)), .second, .val (.long us0_1), .second, .val (.long us0_3), .second, .val (.long v11_6), .second, .unset, .unset, .unset] [])
          refine ogo (fun _ z_ => XS.lload X5.here hx rfl (hb hby at_83) rfl z_) ?_
          show OWay p e below G T5 (mkF m 85 #[.val (.long q0), .second, .val (.long q1), .second, .val (.int p2), .val (.long (4294967295 : Int64)), .second, .val (.long us0_1), .second, .val (.long us0_3), .second, .val (.long v11_6), .second, .unset, .unset, .unset] [(.long us0_3)])
          refine ogo (fun _ z_ => X5.ldc2Long hx hown (mvT hZ (hw _ (List.mem_of_getElem? (i := 11) rfl))) (g := (mkF m 85 #[.val (.long q0), .second, .val (.long q1), .second, .val (.int p2), .val (.long (4294967295 : Int64)), .second, .val (.long us0_1), .second, .val (.long us0_3), .second, .val (.long v11_6), .second, .unset, .unset, .unset] [(.long us0_3)])) rfl (hb hby at_85) _ z_) ?_
          show OWay p e below G T5 (mkF m 88 #[.val (.long q0), .second, .val (.long q1), .second, .val (.int p2), .val (.long (4294967295 : Int64)), .second, .val (.long us0_1), .second, .val (.long us0_3), .second, .val (.long v11_6), .second, .unset, .unset, .unset] [(.long (2 : Int64)), (.long us0_3)])
          refine ogo (fun _ z_ => XS.ladd X5.here hx rfl (hb hby at_88) rfl z_) ?_
          show OWay p e below G T5 (mkF m 89 #[.val (.long q0), .second, .val (.long q1), .second, .val (.int p2), .val (.long (4294967295 : Int64)), .second, .val (.long us0_1), .second, .val (.long us0_3), .second, .val (.long v11_6), .second, .unset, .unset, .unset] [(.long (us0_3 + (2 : Int64)))])
          refine ogo (fun _ z_ => XS.lstore X5.here hx rfl (hb hby at_89) rfl (l' := #[.val (.long q0), .second, .val (.long q1), .second, .val (.int p2), .val (.long (4294967295 : Int64)), .second, .val (.long us0_1), .second, .val (.long us0_3), .second, .val (.long v11_6), .second, .val (.long (us0_3 + (2 : Int64))), .second, .unset]) rfl z_) ?_
          show OWay p e below G T5 (mkF m 91 #[.val (.long q0), .second, .val (.long q1), .second, .val (.int p2), .val (.long (4294967295 : Int64)), .second, .val (.long us0_1), .second, .val (.long us0_3), .second, .val (.long v11_6), .second, .val (.long (us0_3 + (2 : Int64))), .second, .unset] [])
          exact J8 _ ((if_neg c57).trans ((if_pos c73).trans rfl)).symm
        · refine ogo (fun _ z_ => XS.ifNo X5.here hx rfl (hb hby at_73) rfl ((if0 _ _).trans (flt (fun q => c73 ((lw_lt _ _).mp q))).1) z_) ?_
          show OWay p e below G T5 (mkF m 76 #[.val (.long q0), .second, .val (.long q1), .second, .val (.int p2), .val (.long (4294967295 : Int64)), .second, .val (.long us0_1), .second, .val (.long us0_3), .second, .val (.long v11_6), .second, .unset, .unset, .unset] [])
          refine ogo (fun _ z_ => XS.lload X5.here hx rfl (hb hby at_76) rfl z_) ?_
          show OWay p e below G T5 (mkF m 78 #[.val (.long q0), .second, .val (.long q1), .second, .val (.int p2), .val (.long (4294967295 : Int64)), .second, .val (.long us0_1), .second, .val (.long us0_3), .second, .val (.long v11_6), .second, .unset, .unset, .unset] [(.long (4294967295 : Int64))])
          refine ogo (fun _ z_ => XS.lstore X5.here hx rfl (hb hby at_78) rfl (l' := #[.val (.long q0), .second, .val (.long q1), .second, .val (.int p2), .val (.long (4294967295 : Int64)), .second, .val (.long us0_1), .second, .val (.long us0_3), .second, .val (.long v11_6), .second, .val (.long (4294967295 : Int64)), .second, .unset]) rfl z_) ?_
          show OWay p e below G T5 (mkF m 80 #[.val (.long q0), .second, .val (.long q1), .second, .val (.int p2), .val (.long (4294967295 : Int64)), .second, .val (.long us0_1), .second, .val (.long us0_3), .second, .val (.long v11_6), .second, .val (.long (4294967295 : Int64)), .second, .unset] [])
          refine ogo (fun _ z_ => XS.goto X5.here hx rfl (pc0 := 80) (pc' := 91) rfl (hb hby at_80) (by decide) (by decide) z_) ?_
          show OWay p e below G T5 (mkF m 91 #[.val (.long q0), .second, .val (.long q1), .second, .val (.int p2), .val (.long (4294967295 : Int64)), .second, .val (.long us0_1), .second, .val (.long us0_3), .second, .val (.long v11_6), .second, .val (.long (4294967295 : Int64)), .second, .unset] [])
          exact J8 _ ((if_neg c57).trans ((if_neg c73).trans rfl)).symm
    by_cases c23 : (p2 &&& (2 : Int32)) = (0 : Int32)
    · refine ogo (fun _ z_ => XS.ifYes X0.here hx rfl (pc0 := 23) (pc' := 37) rfl (hb hby at_23) rfl ((if0 _ _).trans (teq c23).1) (by decide) (by decide) z_) ?_
      show OWay p e below G s₁ (mkF m 37 #[.val (.long q0), .second, .val (.long q1), .second, .val (.int p2), .val (.long (4294967295 : Int64)), .second, .val (.long us0_1), .second, .unset, .unset, .unset, .unset, .unset, .unset, .unset] [])
      refine ogo (fun _ z_ => XS.lloadN X0.here hx rfl (hb hby at_37) rfl z_) ?_
      show OWay p e below G s₁ (mkF m 38 #[.val (.long q0), .second, .val (.long q1), .second, .val (.int p2), .val (.long (4294967295 : Int64)), .second, .val (.long us0_1), .second, .unset, .unset, .unset, .unset, .unset, .unset, .unset] [(.long q1)])
      refine ogo (fun _ z_ => X0.ldc2Long hx hown (mvT hZ (hw _ (List.mem_of_getElem? (i := 0) rfl))) (g := (mkF m 38 #[.val (.long q0), .second, .val (.long q1), .second, .val (.int p2), .val (.long (4294967295 : Int64)), .second, .val (.long us0_1), .second, .unset, .unset, .unset, .unset, .unset, .unset, .unset] [(.long q1)])) rfl (hb hby at_38) _ z_) ?_
      show OWay p e below G s₁ (mkF m 41 #[.val (.long q0), .second, .val (.long q1), .second, .val (.int p2), .val (.long (4294967295 : Int64)), .second, .val (.long us0_1), .second, .unset, .unset, .unset, .unset, .unset, .unset, .unset] [(.long (4294967295 : Int64)), (.long q1)])
      refine ogo (fun _ z_ => XS.land X0.here hx rfl (hb hby at_41) rfl z_) ?_
      show OWay p e below G s₁ (mkF m 42 #[.val (.long q0), .second, .val (.long q1), .second, .val (.int p2), .val (.long (4294967295 : Int64)), .second, .val (.long us0_1), .second, .unset, .unset, .unset, .unset, .unset, .unset, .unset] [(.long (q1 &&& (4294967295 : Int64)))])
      exact J4 _ ((if_pos c23).trans rfl).symm
    · refine ogo (fun _ z_ => XS.ifNo X0.here hx rfl (hb hby at_23) rfl ((if0 _ _).trans (feq c23).1) z_) ?_
      show OWay p e below G s₁ (mkF m 26 #[.val (.long q0), .second, .val (.long q1), .second, .val (.int p2), .val (.long (4294967295 : Int64)), .second, .val (.long us0_1), .second, .unset, .unset, .unset, .unset, .unset, .unset, .unset] [])
      refine ogo (fun _ z_ => XS.lload X0.here hx rfl (hb hby at_26) rfl z_) ?_
      show OWay p e below G s₁ (mkF m 28 #[.val (.long q0), .second, .val (.long q1), .second, .val (.int p2), .val (.long (4294967295 : Int64)), .second, .val (.long us0_1), .second, .unset, .unset, .unset, .unset, .unset, .unset, .unset] [(.long (4294967295 : Int64))])
      refine ogo (fun _ z_ => XS.lloadN X0.here hx rfl (hb hby at_28) rfl z_) ?_
      show OWay p e below G s₁ (mkF m 29 #[.val (.long q0), .second, .val (.long q1), .second, .val (.int p2), .val (.long (4294967295 : Int64)), .second, .val (.long us0_1), .second, .unset, .unset, .unset, .unset, .unset, .unset, .unset] [(.long q1), (.long (4294967295 : Int64))])
      refine ogo (fun _ z_ => X0.ldc2Long hx hown (mvT hZ (hw _ (List.mem_of_getElem? (i := 12) rfl))) (g := (mkF m 29 #[.val (.long q0), .second, .val (.long q1), .second, .val (.int p2), .val (.long (4294967295 : Int64)), .second, .val (.long us0_1), .second, .unset, .unset, .unset, .unset, .unset, .unset, .unset] [(.long q1), (.long (4294967295 : Int64))])) rfl (hb hby at_29) _ z_) ?_
      show OWay p e below G s₁ (mkF m 32 #[.val (.long q0), .second, .val (.long q1), .second, .val (.int p2), .val (.long (4294967295 : Int64)), .second, .val (.long us0_1), .second, .unset, .unset, .unset, .unset, .unset, .unset, .unset] [(.long (3 : Int64)), (.long q1), (.long (4294967295 : Int64))])
      refine ogo (fun _ z_ => XS.land X0.here hx rfl (hb hby at_32) rfl z_) ?_
      show OWay p e below G s₁ (mkF m 33 #[.val (.long q0), .second, .val (.long q1), .second, .val (.int p2), .val (.long (4294967295 : Int64)), .second, .val (.long us0_1), .second, .unset, .unset, .unset, .unset, .unset, .unset, .unset] [(.long (q1 &&& (3 : Int64))), (.long (4294967295 : Int64))])
      refine ogo (fun _ z_ => XS.lsub X0.here hx rfl (hb hby at_33) rfl z_) ?_
      show OWay p e below G s₁ (mkF m 34 #[.val (.long q0), .second, .val (.long q1), .second, .val (.int p2), .val (.long (4294967295 : Int64)), .second, .val (.long us0_1), .second, .unset, .unset, .unset, .unset, .unset, .unset, .unset] [(.long ((4294967295 : Int64) - (q1 &&& (3 : Int64))))])
      refine ogo (fun _ z_ => XS.goto X0.here hx rfl (pc0 := 34) (pc' := 42) rfl (hb hby at_34) (by decide) (by decide) z_) ?_
      show OWay p e below G s₁ (mkF m 42 #[.val (.long q0), .second, .val (.long q1), .second, .val (.int p2), .val (.long (4294967295 : Int64)), .second, .val (.long us0_1), .second, .unset, .unset, .unset, .unset, .unset, .unset, .unset] [(.long ((4294967295 : Int64) - (q1 &&& (3 : Int64))))])
      exact J4 _ ((if_neg c23).trans rfl).symm
  by_cases c9 : (p2 &&& (1 : Int32)) = (0 : Int32)
  · refine ogo (fun _ z_ => XS.ifYes X0.here hx rfl (pc0 := 9) (pc' := 16) rfl (hb hby at_9) rfl ((if0 _ _).trans (teq c9).1) (by decide) (by decide) z_) ?_
    show OWay p e below G s₁ (mkF m 16 #[.val (.long q0), .second, .val (.long q1), .second, .val (.int p2), .val (.long (4294967295 : Int64)), .second, .unset, .unset, .unset, .unset, .unset, .unset, .unset, .unset, .unset] [])
    refine ogo (fun _ z_ => XS.lloadN X0.here hx rfl (hb hby at_16) rfl z_) ?_
    show OWay p e below G s₁ (mkF m 17 #[.val (.long q0), .second, .val (.long q1), .second, .val (.int p2), .val (.long (4294967295 : Int64)), .second, .unset, .unset, .unset, .unset, .unset, .unset, .unset, .unset, .unset] [(.long q0)])
    exact J2 _ ((if_pos c9).trans rfl).symm
  · refine ogo (fun _ z_ => XS.ifNo X0.here hx rfl (hb hby at_9) rfl ((if0 _ _).trans (feq c9).1) z_) ?_
    show OWay p e below G s₁ (mkF m 12 #[.val (.long q0), .second, .val (.long q1), .second, .val (.int p2), .val (.long (4294967295 : Int64)), .second, .unset, .unset, .unset, .unset, .unset, .unset, .unset, .unset, .unset] [])
    refine ogo (fun _ z_ => XS.lconst X0.here hx rfl (hb hby at_12) z_) ?_
    show OWay p e below G s₁ (mkF m 13 #[.val (.long q0), .second, .val (.long q1), .second, .val (.int p2), .val (.long (4294967295 : Int64)), .second, .unset, .unset, .unset, .unset, .unset, .unset, .unset, .unset, .unset] [(.long (0 : Int64))])
    refine ogo (fun _ z_ => XS.goto X0.here hx rfl (pc0 := 13) (pc' := 17) rfl (hb hby at_13) (by decide) (by decide) z_) ?_
    show OWay p e below G s₁ (mkF m 17 #[.val (.long q0), .second, .val (.long q1), .second, .val (.int p2), .val (.long (4294967295 : Int64)), .second, .unset, .unset, .unset, .unset, .unset, .unset, .unset, .unset, .unset] [(.long (0 : Int64))])
    exact J2 _ ((if_neg c9).trans rfl).symm
set_option maxRecDepth 65536 in
set_option maxHeartbeats 40000000 in
theorem comes_1 {Post : Tables → Env → Array Value → State → Outcome → State → Prop} (hpost : ∀ tb e args s v u, (limb_1_1.after args s (.returned v) u = true ∧ limb_1_2.after args s (.returned v) u = true ∧ True) → FrameEnd s (.returned v) u (Jvm.fieldLocs frame_1_writes args s ++ Jvm.arrayLocs frame_1_arrays args s ++ Jvm.staticLocs frame_1_statics s) 0 0 → Post tb e args s (.returned v) u) :
    ArmFor flags0 classFile x code maxLocals ret World_1 tables_1 room_1 Calls_1 rest_1 Pre_1 Post := by
  intro l hfl _ _ p e ha hc hk s m args below hf hA hF happ hP
  obtain ⟨hcalls, hrest, hpre⟩ := hP
  obtain ⟨-, -, -, hnamed, -, -, -, hat⟩ := (Spec.applies_iff hf).mp happ
  obtain ⟨hg, hn⟩ := and_e (Cond.before_iff.mp (show (Jvm.Cond.and given_1 narrow_1).before args s = true from hpre))
  obtain ⟨g1, g2⟩ := and_e hg
  obtain ⟨g3, g4⟩ := and_e g2
  obtain ⟨g5, g6⟩ := and_e g4
  obtain ⟨w0, w1, w2, rfl⟩ : ∃ w0 w1 w2 : Value, args = #[w0, w1, w2] := by
    have hs : args.size = 3 := by simpa [Cond.value, given_1] using g1
    obtain ⟨L⟩ := args
    match L, hs with
    | [w0, w1, w2], _ => exact ⟨w0, w1, w2, rfl⟩
  have hw := fun d (hd : d ∈ tables_1) => atoms_spec (ws := Jvm.Cond.code x code maxLocals ret :: tables_1) hat d (List.mem_cons_of_mem _ hd)
  have hfit : Fit s := fun {y c} hc i hi => by
    obtain ⟨ha, rfl⟩ := Array.getElem?_eq_some_iff.mp hc
    have q := List.all_eq_true.mp ((Array.all_eq_true_iff_forall_mem.mp hF) _ (Array.getElem_mem ha)) i (List.mem_range.mpr hi)
    simpa [Array.getElem?_eq_getElem hi] using q
  obtain ⟨i0, ei0⟩ := isL_v g3
  obtain rfl : w0 = (.long i0) := Option.some.inj ei0
  obtain ⟨i1, ei1⟩ := isL_v g5
  obtain rfl : w1 = (.long i1) := Option.some.inj ei1
  obtain ⟨i2, ei2⟩ := is_v g6
  obtain rfl : w2 = (.int i2) := Option.some.inj ei2
  obtain ⟨n, o, h1, h2, h3, _, L, rfl, ⟨rfl, N⟩, hq⟩ := law_c l s _ hw tables_1 i0 i1 i2 s.heap s.heap.size (Nat.le_refl _) p e ha hc hk s m _ below hf ((Spec.applies_iff_loose hf).mp happ).1 ⟨rfl, State.Warmed39.refl s, rfl⟩ trivial
  refine ⟨n, _, h1, h2, h3, hpost _ _ _ _ _ _ ⟨Cond.after_iff.mpr rfl, Cond.after_iff.mpr (eq_i res_at (Term.int_eval (1)) rfl), trivial⟩ ⟨hq.1, hq.2.1, (hq.2.2.sift fun y hy => Or.inr (N y hy)).mono (by decide) (by decide)⟩⟩
theorem main_1_1 : Claimed_1_1 := comes_1 fun _ _ _ _ _ _ h hF => ⟨h.1, hF⟩
theorem main_1_2 : Claimed_1_2 := comes_1 fun _ _ _ _ _ _ h hF => ⟨h.2.1, hF⟩
end Jvm.Pilot.@@N@@
namespace Jvm.Pilot.@@N@@
open Jvm Jvm.ClassFile Sem Op Lib Jvm.Free Jvm.Stand Jvm.Pilot.@@N@@.Jvm.D
/-! MADE BY PROGRAM (witnessworld.py) out of the Statement's table words and the real class files: 10 classes; the members and pool entries that the words name. The judged class is class 1, her method 1. -/
namespace start1
open Jvm.ClassFile
def u (s : String) : CpInfo := .utf8 (stringToUtf16 s)
/-- a pool by its gaps: so many unusable entries, then the entry; so many at the end -/
def gap : Nat → List CpInfo → List CpInfo
  | 0, r => r
  | n + 1, r => .unusable :: gap n r
def poolList (es : List (Nat × CpInfo)) (last : Nat) : List CpInfo := es.foldr (fun e r => gap e.1 (e.2 :: r)) (gap last [])
def pool (es : List (Nat × CpInfo)) (last : Nat) : Array CpInfo := ⟨poolList es last⟩
def fileOf (pool : Array CpInfo) (this : Nat) (attrs : Array Attribute := #[]) (ms : Array MethodInfo := #[]) (fl : Nat := 33) (sup : Nat := 0) (ifs : Array Nat := #[]) (fds : Array FieldInfo := #[]) : ClassFile where
  minorVersion := 0
  majorVersion := 65
  constantPool := pool
  accessFlags := fl
  thisClass := this
  superClass := sup
  interfaces := ifs
  fields := fds
  methods := ms
  attributes := attrs
def plain (name : String) (sup : Option ClassId) : Class where
  name := name
  kind := .ordinary
  loader := none
  accessFlags := 33
  super := sup
  interfaces := #[]
  cf := none
  fields := #[]
  methods := #[]
  instanceTypes := #[]
  staticTypes := #[]
  resolved := #[]
  callSites := []
  init := .initialized
  statics := none
  mirror := none

def pool0 : Array CpInfo := pool [(5, u "<init>"), (0, u "()V"), (1, .class_ 10), (1, u "java/lang/Object")] 113

def k0m0 : Method := { name := "<init>", desc := "()V", sig := { parameters := [], returnType := none }, accessFlags := 1, code := none }
/-- java/lang/Object -/
def k0 : Class := { plain "java/lang/Object" none with
  accessFlags := 33
  interfaces := #[]
  cf := some (fileOf pool0 8 #[] #[{ accessFlags := 1, nameIndex := 5, descriptorIndex := 6, attributes := #[] }] 33 0 #[] #[])
  fields := #[]
  methods := #[k0m0]
  instanceTypes := #[]
  staticTypes := #[]
  resolved := Array.replicate 124 none
  statics := none }

def pool1 : Array CpInfo := pool [(2, .class_ 4), (1, u "java/lang/Object"), (0, u "<init>"), (0, u "()V"), (2, .long 4294967295), (1, .long 3), (1, .methodref 14 15), (0, .class_ 16), (0, .nameAndType 17 18), (0, u "com/example/marduk/marduk/protocol/LeaderElection"), (0, u "countAtStart"), (0, u "(JJ)J"), (0, .long 2), (1, .class_ 22), (0, u "com/example/marduk/marduk/protocol/LeaderElectionCountAtStartPinLaw"), (2, u "law"), (0, u "(JJI)Z")] 3

def k1m0 : Method := { name := "<init>", desc := "()V", sig := { parameters := [], returnType := none }, accessFlags := 1, code := none }
def k1c1 : Code := { maxStack := 6, maxLocals := 16, code := code, exceptionTable := #[], attributes := #[] }
def k1m1 : Method := { name := "law", desc := "(JJI)Z", sig := { parameters := [.long, .long, .int], returnType := some .boolean }, accessFlags := 9, code := some k1c1 }
/-- com/example/marduk/marduk/protocol/LeaderElectionCountAtStartPinLaw -/
def k1 : Class := { plain "com/example/marduk/marduk/protocol/LeaderElectionCountAtStartPinLaw" (some 0) with
  accessFlags := 49
  interfaces := #[]
  cf := some (fileOf pool1 21 #[] #[{ accessFlags := 1, nameIndex := 5, descriptorIndex := 6, attributes := #[] }, { accessFlags := 9, nameIndex := 25, descriptorIndex := 26, attributes := #[] }] 49 2 #[] #[])
  fields := #[]
  methods := #[k1m0, k1m1]
  instanceTypes := #[]
  staticTypes := #[]
  resolved := Array.replicate 30 none
  statics := none }

def pool2 : Array CpInfo := pool [(4, .class_ 6), (1, u "java/lang/Object"), (6, .class_ 15), (1, u "com/example/marduk/marduk/protocol/LeaderElection"), (0, u "suspicions"), (0, u "Ljava/util/Map;"), (5, u "leavers"), (0, u "Ljava/util/Set;"), (2, u "cadences"), (2, u "starting"), (5, u "Lcom/example/marduk/marduk/model/SuspicionCounts;"), (2, u "counts"), (4, u "leaderHeardMs"), (0, u "J"), (1, u "self"), (10, u "Lcom/example/marduk/marduk/model/MemberId;"), (5, u "peers"), (30, u "heartbeatPeriodMs"), (1, u "output"), (0, .class_ 99), (0, u "com/example/marduk/marduk/protocol/LeaderElection$Output"), (2, u "Lcom/example/marduk/marduk/protocol/LeaderElection$Output;"), (7, u "timeouts"), (0, u "Lcom/example/marduk/marduk/protocol/Timeouts;"), (16, u "silenceFactor"), (0, u "D"), (0, .long 2), (1, .long 4294967295), (1, .methodref 135 136), (0, .class_ 137), (0, .nameAndType 138 139), (0, u "java/lang/Math"), (0, u "min"), (0, u "(JJ)J"), (5, u "leader"), (10, u "startWindowEndMs"), (27, .class_ 185), (0, u "com/example/marduk/marduk/protocol/LeaderElection$Cadence"), (83, u "wakeupMs"), (121, u "DEFAULT_HEARTBEAT_PERIOD_MS"), (3, u "DEFAULT_TIMEOUT_MS"), (2, u "MAX_CONFIGURED_MS"), (0, u "I"), (1, u "START_WINDOW_PERIODS"), (0, u "RUNNING_PERIODS"), (1, u "NOT_HEARD"), (9, u "countAtStart")] 56

def k2c0 : Code := { maxStack := 4, maxLocals := 4, code := prog_23_method_2_code, exceptionTable := #[], attributes := #[] }
def k2m0 : Method := { name := "countAtStart", desc := "(JJ)J", sig := { parameters := [.long, .long], returnType := some .long }, accessFlags := 9, code := some k2c0 }
/-- com/example/marduk/marduk/protocol/LeaderElection -/
def k2 : Class := { plain "com/example/marduk/marduk/protocol/LeaderElection" (some 0) with
  accessFlags := 49
  interfaces := #[]
  cf := some (fileOf pool2 13 #[.nestMembers #[184, 98]] #[{ accessFlags := 9, nameIndex := 414, descriptorIndex := 139, attributes := #[] }] 49 4 #[] #[{ accessFlags := 25, nameIndex := 391, descriptorIndex := 45, attributes := #[] }, { accessFlags := 25, nameIndex := 395, descriptorIndex := 45, attributes := #[] }, { accessFlags := 25, nameIndex := 398, descriptorIndex := 399, attributes := #[] }, { accessFlags := 24, nameIndex := 401, descriptorIndex := 45, attributes := #[] }, { accessFlags := 24, nameIndex := 402, descriptorIndex := 399, attributes := #[] }, { accessFlags := 26, nameIndex := 404, descriptorIndex := 45, attributes := #[] }, { accessFlags := 18, nameIndex := 47, descriptorIndex := 58, attributes := #[] }, { accessFlags := 18, nameIndex := 64, descriptorIndex := 24, attributes := #[] }, { accessFlags := 18, nameIndex := 95, descriptorIndex := 45, attributes := #[] }, { accessFlags := 18, nameIndex := 97, descriptorIndex := 102, attributes := #[] }, { accessFlags := 18, nameIndex := 110, descriptorIndex := 111, attributes := #[] }, { accessFlags := 18, nameIndex := 128, descriptorIndex := 129, attributes := #[] }, { accessFlags := 18, nameIndex := 16, descriptorIndex := 17, attributes := #[] }, { accessFlags := 18, nameIndex := 23, descriptorIndex := 24, attributes := #[] }, { accessFlags := 18, nameIndex := 27, descriptorIndex := 17, attributes := #[] }, { accessFlags := 18, nameIndex := 30, descriptorIndex := 24, attributes := #[] }, { accessFlags := 2, nameIndex := 156, descriptorIndex := 45, attributes := #[] }, { accessFlags := 2, nameIndex := 39, descriptorIndex := 36, attributes := #[] }, { accessFlags := 2, nameIndex := 145, descriptorIndex := 58, attributes := #[] }, { accessFlags := 2, nameIndex := 44, descriptorIndex := 45, attributes := #[] }, { accessFlags := 2, nameIndex := 269, descriptorIndex := 45, attributes := #[] }])
  fields := #[{ name := "DEFAULT_HEARTBEAT_PERIOD_MS", type := .long, accessFlags := 25, slot := 0, constantValue := 0 }, { name := "DEFAULT_TIMEOUT_MS", type := .long, accessFlags := 25, slot := 1, constantValue := 0 }, { name := "MAX_CONFIGURED_MS", type := .int, accessFlags := 25, slot := 2, constantValue := 0 }, { name := "START_WINDOW_PERIODS", type := .long, accessFlags := 24, slot := 3, constantValue := 0 }, { name := "RUNNING_PERIODS", type := .int, accessFlags := 24, slot := 4, constantValue := 0 }, { name := "NOT_HEARD", type := .long, accessFlags := 26, slot := 5, constantValue := 0 }, { name := "self", type := (.object "com/example/marduk/marduk/model/MemberId"), accessFlags := 18, slot := 0, constantValue := 0 }, { name := "peers", type := (.object "java/util/Set"), accessFlags := 18, slot := 1, constantValue := 0 }, { name := "heartbeatPeriodMs", type := .long, accessFlags := 18, slot := 2, constantValue := 0 }, { name := "output", type := (.object "com/example/marduk/marduk/protocol/LeaderElection$Output"), accessFlags := 18, slot := 3, constantValue := 0 }, { name := "timeouts", type := (.object "com/example/marduk/marduk/protocol/Timeouts"), accessFlags := 18, slot := 4, constantValue := 0 }, { name := "silenceFactor", type := .double, accessFlags := 18, slot := 5, constantValue := 0 }, { name := "suspicions", type := (.object "java/util/Map"), accessFlags := 18, slot := 6, constantValue := 0 }, { name := "leavers", type := (.object "java/util/Set"), accessFlags := 18, slot := 7, constantValue := 0 }, { name := "cadences", type := (.object "java/util/Map"), accessFlags := 18, slot := 8, constantValue := 0 }, { name := "starting", type := (.object "java/util/Set"), accessFlags := 18, slot := 9, constantValue := 0 }, { name := "startWindowEndMs", type := .long, accessFlags := 2, slot := 10, constantValue := 0 }, { name := "counts", type := (.object "com/example/marduk/marduk/model/SuspicionCounts"), accessFlags := 2, slot := 11, constantValue := 0 }, { name := "leader", type := (.object "com/example/marduk/marduk/model/MemberId"), accessFlags := 2, slot := 12, constantValue := 0 }, { name := "leaderHeardMs", type := .long, accessFlags := 2, slot := 13, constantValue := 0 }, { name := "wakeupMs", type := .long, accessFlags := 2, slot := 14, constantValue := 0 }]
  methods := #[k2m0]
  instanceTypes := #[(.object "com/example/marduk/marduk/model/MemberId"), (.object "java/util/Set"), .long, (.object "com/example/marduk/marduk/protocol/LeaderElection$Output"), (.object "com/example/marduk/marduk/protocol/Timeouts"), .double, (.object "java/util/Map"), (.object "java/util/Set"), (.object "java/util/Map"), (.object "java/util/Set"), .long, (.object "com/example/marduk/marduk/model/SuspicionCounts"), (.object "com/example/marduk/marduk/model/MemberId"), .long, .long]
  staticTypes := #[.long, .long, .int, .long, .int, .long]
  resolved := Array.replicate 471 none
  statics := none }

def pool3 : Array CpInfo := pool [(1, .class_ 2), (0, u "java/lang/Math"), (1, .class_ 6), (1, u "java/lang/Object"), (0, u "<init>"), (0, u "()V"), (89, .class_ 100), (1, u "java/lang/Math$RandomNumberGeneratorHolder"), (20, u "(JJ)J"), (50, u "negativeZeroFloatBits"), (0, u "J"), (2, u "negativeZeroDoubleBits"), (24, u "min"), (43, u "$assertionsDisabled"), (0, u "Z"), (91, u "twoToTheDoubleScaleDown"), (0, u "D"), (4, u "twoToTheDoubleScaleUp"), (9, u "E"), (3, u "PI"), (2, u "TAU"), (2, u "DEGREES_TO_RADIANS"), (0, u "RADIANS_TO_DEGREES")] 94

def k3m0 : Method := { name := "<init>", desc := "()V", sig := { parameters := [], returnType := none }, accessFlags := 2, code := none }
def k3c1 : Code := { maxStack := 4, maxLocals := 4, code := jdk_29_method_70_code, exceptionTable := #[], attributes := #[] }
def k3m1 : Method := { name := "min", desc := "(JJ)J", sig := { parameters := [.long, .long], returnType := some .long }, accessFlags := 9, code := some k3c1 }
/-- java/lang/Math -/
def k3 : Class := { plain "java/lang/Math" (some 0) with
  accessFlags := 49
  interfaces := #[]
  cf := some (fileOf pool3 1 #[.nestMembers #[98]] #[{ accessFlags := 2, nameIndex := 7, descriptorIndex := 8, attributes := #[] }, { accessFlags := 9, nameIndex := 201, descriptorIndex := 121, attributes := #[] }] 49 4 #[] #[{ accessFlags := 25, nameIndex := 354, descriptorIndex := 339, attributes := #[] }, { accessFlags := 25, nameIndex := 358, descriptorIndex := 339, attributes := #[] }, { accessFlags := 25, nameIndex := 361, descriptorIndex := 339, attributes := #[] }, { accessFlags := 26, nameIndex := 364, descriptorIndex := 339, attributes := #[] }, { accessFlags := 26, nameIndex := 365, descriptorIndex := 339, attributes := #[] }, { accessFlags := 26, nameIndex := 172, descriptorIndex := 173, attributes := #[] }, { accessFlags := 26, nameIndex := 176, descriptorIndex := 173, attributes := #[] }, { accessFlags := 8, nameIndex := 344, descriptorIndex := 339, attributes := #[] }, { accessFlags := 8, nameIndex := 338, descriptorIndex := 339, attributes := #[] }, { accessFlags := 4120, nameIndex := 245, descriptorIndex := 246, attributes := #[] }])
  fields := #[{ name := "E", type := .double, accessFlags := 25, slot := 0, constantValue := 0 }, { name := "PI", type := .double, accessFlags := 25, slot := 1, constantValue := 0 }, { name := "TAU", type := .double, accessFlags := 25, slot := 2, constantValue := 0 }, { name := "DEGREES_TO_RADIANS", type := .double, accessFlags := 26, slot := 3, constantValue := 0 }, { name := "RADIANS_TO_DEGREES", type := .double, accessFlags := 26, slot := 4, constantValue := 0 }, { name := "negativeZeroFloatBits", type := .long, accessFlags := 26, slot := 5, constantValue := 0 }, { name := "negativeZeroDoubleBits", type := .long, accessFlags := 26, slot := 6, constantValue := 0 }, { name := "twoToTheDoubleScaleUp", type := .double, accessFlags := 8, slot := 7, constantValue := 0 }, { name := "twoToTheDoubleScaleDown", type := .double, accessFlags := 8, slot := 8, constantValue := 0 }, { name := "$assertionsDisabled", type := .boolean, accessFlags := 4120, slot := 9, constantValue := 0 }]
  methods := #[k3m0, k3m1]
  instanceTypes := #[]
  staticTypes := #[.double, .double, .double, .double, .double, .long, .long, .double, .double, .boolean]
  resolved := Array.replicate 460 none
  statics := none }

def pool4 : Array CpInfo := pool [(1, u "java/lang/Cloneable"), (0, .class_ 1), (0, u "java/lang/Object"), (0, .class_ 3)] 3

/-- java/lang/Cloneable -/
def k4 : Class := { plain "java/lang/Cloneable" (some 0) with
  accessFlags := 1537
  interfaces := #[]
  cf := some (fileOf pool4 2 #[] #[] 1537 4 #[] #[])
  fields := #[]
  methods := #[]
  instanceTypes := #[]
  staticTypes := #[]
  resolved := Array.replicate 8 none
  statics := none }

def pool5 : Array CpInfo := pool [(1, u "java/io/Serializable"), (0, .class_ 1), (0, u "java/lang/Object"), (0, .class_ 3)] 3

/-- java/io/Serializable -/
def k5 : Class := { plain "java/io/Serializable" (some 0) with
  accessFlags := 1537
  interfaces := #[]
  cf := some (fileOf pool5 2 #[] #[] 1537 4 #[] #[])
  fields := #[]
  methods := #[]
  instanceTypes := #[]
  staticTypes := #[]
  resolved := Array.replicate 8 none
  statics := none }

/-- the primitive byte -/
def k6 : Class := { plain "byte" none with kind := .primitive 'B', accessFlags := 0x411 }
/-- [B -/
def k7 : Class := { plain "[B" (some 0) with kind := .array 6 .byte, interfaces := #[4, 5], accessFlags := 1041 }

/-- the primitive int -/
def k8 : Class := { plain "int" none with kind := .primitive 'I', accessFlags := 0x411 }
/-- [I -/
def k9 : Class := { plain "[I" (some 0) with kind := .array 8 .int, interfaces := #[4, 5], accessFlags := 1041 }

def heap : Heap := #[]
def classes : Array Class := #[k0, k1, k2, k3, k4, k5, k6, k7, k8, k9]
def interned : List (Array UInt16 × Addr) := []
def slotsUsed : Nat := 0
def theMethod : MethodId := ⟨1, 1⟩
def args0 : Array Value := #[.long 5, .long 7, .int 0]
def aboutOver (below : List Frame) : State where
  vm := { classes := classes, interned := interned.toArray }
  heap := heap
  slotsUsed := slotsUsed
  threads := #[{ frames := .invoking theMethod args0 :: below }]
def below0 : List Frame := [.native { method := ⟨0, 0⟩, args := #[] }]
def about1 : State := aboutOver below0
def p0 : Program := .bare "" "" ""
def e0 : Env := launch0.env 0 0 0
theorem w_frames : about1.frames = Frame.invoking theMethod args0 :: below0 := rfl
set_option maxRecDepth 65536 in
theorem w_args : argsFit about1.vm theMethod args0 = true := by decide +kernel
set_option maxRecDepth 65536 in
theorem w_heap : heapFits about1 = true := by decide +kernel
set_option maxRecDepth 65536 in
theorem w_runnable : about1.curStatus? = some .runnable := by decide +kernel
set_option maxRecDepth 65536 in
theorem w_alone : about1.alone = true := by decide +kernel
set_option maxRecDepth 65536 in
theorem w_named : about1.methodNamed? x = some theMethod := by decide +kernel
set_option maxRecDepth 65536 in
theorem w_hears : about1.hears theMethod below0 = true := by decide +kernel
set_option maxRecDepth 65536 in
theorem w_ripe : about1.ripe theMethod args0 below0 = true := by decide +kernel
theorem w_running : about1.status = .running := rfl
set_option maxRecDepth 65536 in
theorem w_room : about1.hasRoom e0.platform room_1 = true :=
  launch0.hasRoom_least _ room_1 (by decide +kernel) (by decide +kernel) (by decide +kernel) (by decide +kernel) (by decide +kernel) (by decide +kernel)
theorem allAtoms_all (ts : List Jvm.Cond) (a : Array Jvm.Value) (st : Jvm.State) : (allAtoms ts).before a st = ts.all (fun c => c.before a st) := by
  induction ts with
  | nil => rfl
  | cons c t ih =>
    show (Jvm.Cond.and c (allAtoms t)).before a st = _
    rw [Jvm.Cond.before_and, ih, List.all_cons]
def words1 : List Jvm.Cond := Jvm.Cond.code x code maxLocals ret :: tables_1
/-- a 'code' word, met by the world's own term for the bytes: nothing is compared byte by byte -/
theorem code_word {y : MethodName} {bytes : ByteArray} {mx : Nat} {rt : Option FieldType} {a : Array Value} {s : State} {m : MethodId} {meth : Method} {c : Code} (h1 : s.methodNamed? y = some m) (h2 : s.vm.method? m = some meth) (h3 : meth.code = some c) (h4 : c.code = bytes)
    (h5 : (c.maxLocals == mx && c.exceptionTable.isEmpty && decide (c.maxStack ≤ mostOperands) && decide (meth.sig.returnType = rt) && !meth.locks && decide (parseMethodDescriptor y.desc = some meth.sig)) = true) : (Jvm.Cond.code y bytes mx rt).before a s = true := by
  simp only [Bool.and_eq_true, beq_iff_eq, Bool.not_eq_true', decide_eq_true_eq] at h5
  obtain ⟨⟨⟨⟨⟨g1, g2⟩, g3⟩, g4⟩, g5⟩, g6⟩ := h5
  simp [Cond.before, Cond.holds, Cond.value, h1, h2, h3, h4, g1, g2, g3, g4, g5, g6]
def isCode : Jvm.Cond → Bool
  | .code _ _ _ _ => true
  | _ => false
theorem all_split {L : List Jvm.Cond} {P : Jvm.Cond → Bool} (h1 : L.all (fun c => isCode c || P c) = true) (h2 : ∀ c ∈ L.filter isCode, P c = true) : L.all P = true := by
  refine List.all_eq_true.mpr fun c hc => ?_
  have h := List.all_eq_true.mp h1 c hc
  rcases Bool.eq_false_or_eq_true (isCode c) with hi | hi
  · exact h2 c (List.mem_filter.mpr ⟨hc, hi⟩)
  · simpa [hi] using h
set_option maxRecDepth 65536 in
theorem w_c0 : (Jvm.Cond.code x code maxLocals ret).before args0 about1 = true := code_word (m := ⟨1, 1⟩) (meth := k1m1) (c := k1c1) (by decide +kernel) rfl rfl rfl (by decide +kernel)
set_option maxRecDepth 65536 in
theorem w_c1 : (Jvm.Cond.code ({ cls := "com/example/marduk/marduk/protocol/LeaderElection", name := "countAtStart", desc := "(JJ)J" } : Jvm.MethodName) prog_23_method_2_code (4 : Nat) (Option.some Jvm.ClassFile.FieldType.long)).before args0 about1 = true := code_word (m := ⟨2, 0⟩) (meth := k2m0) (c := k2c0) (by decide +kernel) rfl rfl rfl (by decide +kernel)
set_option maxRecDepth 65536 in
theorem w_c2 : (Jvm.Cond.code ({ cls := "java/lang/Math", name := "min", desc := "(JJ)J" } : Jvm.MethodName) jdk_29_method_70_code (4 : Nat) (Option.some Jvm.ClassFile.FieldType.long)).before args0 about1 = true := code_word (m := ⟨3, 1⟩) (meth := k3m1) (c := k3c1) (by decide +kernel) rfl rfl rfl (by decide +kernel)
def codes1 : List Jvm.Cond := [Jvm.Cond.code x code maxLocals ret, Jvm.Cond.code ({ cls := "com/example/marduk/marduk/protocol/LeaderElection", name := "countAtStart", desc := "(JJ)J" } : Jvm.MethodName) prog_23_method_2_code (4 : Nat) (Option.some Jvm.ClassFile.FieldType.long), Jvm.Cond.code ({ cls := "java/lang/Math", name := "min", desc := "(JJ)J" } : Jvm.MethodName) jdk_29_method_70_code (4 : Nat) (Option.some Jvm.ClassFile.FieldType.long)]
set_option maxRecDepth 65536 in
theorem codes_eq : words1.filter isCode = codes1 := rfl
theorem w_codes : ∀ c ∈ words1.filter isCode, c.before args0 about1 = true := by
  rw [codes_eq]
  intro c hc
  simp only [codes1, List.mem_cons, List.not_mem_nil, or_false] at hc
  rcases hc with rfl | rfl | rfl
  · exact w_c0
  · exact w_c1
  · exact w_c2
set_option maxRecDepth 65536 in
theorem w_t1 : words1.all (fun c => isCode c || c.before args0 about1) = true := by decide +kernel
theorem w_tables : (allAtoms (Jvm.Cond.code x code maxLocals ret :: tables_1)).before args0 about1 = true := by
  rw [allAtoms_all]
  show words1.all (fun c => c.before args0 about1) = true
  refine all_split ?_ w_codes
  rw [w_t1]
set_option maxRecDepth 65536 in
theorem w_case : (Jvm.Cond.and given_1 narrow_1).before args0 about1 = true := by decide +kernel
theorem w_applies : (headSpec (Jvm.Cond.code x code maxLocals ret :: tables_1) room_1).applies x e0.platform about1 = true :=
  (Spec.applies_iff w_frames).mpr ⟨w_running, w_runnable, w_alone, w_named, w_hears, w_ripe, w_room, w_tables⟩
theorem atStart : AtStart classFile x code maxLocals ret World_1 tables_1 room_1 Calls_1 rest_1 Pre_1 launch0 p0 e0 about1 theMethod args0 below0 :=
  ⟨lists_1, trivial, launch0.admits_env _ _ _, launch0.least_env, fairChoices_fair.cas, fairChoices_fair.clock, w_frames, w_args, w_heap, w_applies, trivial, trivial, w_case⟩
end start1
theorem witness_1 : WitnessClaimed_1 := ⟨start1.p0, start1.e0, start1.about1, start1.theMethod, start1.args0, start1.below0, start1.atStart⟩
end Jvm.Pilot.@@N@@
