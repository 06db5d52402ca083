import JvmDerived
import JvmDerived.Pilot.@@N@@Statement
import JvmDerived.Pilot.@@N@@Code
set_option linter.unusedVariables false
set_option linter.unusedSimpArgs false
namespace Jvm.Pilot.@@N@@
open Jvm Jvm.ClassFile Sem Op Lib Jvm.Free Jvm.Stand Jvm.LawKit Jvm.RoadKit Bundle Jvm.Pilot.@@N@@.Jvm.D
/-- from here the run comes to a state of which G holds -/
def OWay (p : Program) (e : Env) (below : List Frame) (G : State → Prop) (T : State) (g : JFrame) : Prop := ∃ t, Steps p.tables e below (T.setTop g) t ∧ G t
/-- how a body ends: it returned, with what Q says of its value, the heap and the places written -/
def OEnd (s : State) (below : List Frame) (Q : Option Value → Heap → List Loc → Prop) (cs sl : Nat) (t : State) : Prop := ∃ o, t.status = .running ∧ Ended t below o ∧ ∃ v L, o = .returned v ∧ Q v t.heap L ∧ FrameEnd s o t L cs sl
/-- a body's contract, as a call wants it -/
def OCon (l : Launch) (y : MethodName) (bytes : ByteArray) (maxL : Nat) (rt : Option FieldType) (ws : List Jvm.Cond) (rm : Room) (Z : State) (as' : Array Value) (h : Heap) (Q : Option Value → Heap → List Loc → Prop) : Prop :=
  MetFree l y (head1 (Jvm.Cond.code y bytes maxL rt :: ws) rm) (fun a U => a = as' ∧ Z.Warmed39 U.vm ∧ U.heap = h) (fun _ _ _ _ _ => True) (fun _ U o U' => ∃ v L, o = .returned v ∧ Q v U'.heap L ∧ FrameEnd U o U' L rm.cells rm.slots)
section Own
variable {p : Program} {l : Launch} {e : Env} {R : Room} {s : State} {m : MethodId} {args : Array Value} {below : List Frame} {meth : Method} {c : Code} {T T' : State} {locs : List Loc} {cells slots : Nat} {Z : State} {a0 : Array Value} {h : Heap} {G : State → Prop} {g g' : JFrame} {Q : Option Value → Heap → List Loc → Prop} {cs sl : Nat}
theorem ogo (q : ∀ t, Steps p.tables e below (T'.setTop g') t → Steps p.tables e below (T.setTop g) t) (w : OWay p e below G T' g') : OWay p e below G T g := by
  obtain ⟨t, h1, h2⟩ := w
  exact ⟨t, q t h1, h2⟩
theorem ogoS (q : Steps p.tables e below (T.setTop g) (T'.setTop g')) (w : OWay p e below G T' g') : OWay p e below G T g := ogo (fun _ k => q.trans k) w
theorem ogoE (q : g = g') (w : OWay p e below G T g') : OWay p e below G T g := q ▸ w
theorem ocon {y : MethodName} {bytes : ByteArray} {maxL : Nat} {rt : Option FieldType} {ws : List Jvm.Cond} {rm : Room} {as' : Array Value} (hp : plainFor y = true)
    (body : ∀ (p : Program) (e : Env) (s : State) (m : MethodId) (below : List Frame) (meth : Method) (c : Code) (s₁ : State), p.tables.exec = Jvm.exec → c.code = bytes → c.maxLocals = maxL → s.vm.findClass y.cls = some m.cls → meth.name = y.name → meth.sig.returnType = rt → meth.locks = false → Z.Warmed39 s.vm →
      Stand p l e rm s m as' below meth c s₁ [] 0 0 → s₁.heap = h → OWay p e below (OEnd s below Q rm.cells rm.slots) s₁ (entryFrame m as' maxL)) : OCon l y bytes maxL rt ws rm Z as' h Q := by
  refine MetFree.of_bodySF hp hisR ?_
  intro p e s m args below meth c s₁ Bd hml0 hP hK
  obtain ⟨rfl, hZ, hh⟩ := hP
  obtain ⟨t, h1, o, h2, h3, h4⟩ := body p e s m below meth c s₁ Bd.exec Bd.bytes hml0 (findClass_of_methodNamed Bd.named) (name_of_methodNamed Bd.named Bd.method).1 Bd.returns Bd.notSynchronized hZ (Stand.of_body Bd) (by rw [← hh, Bd.state]; rfl)
  exact ⟨t, o, h1, h2, h3, h4⟩
theorem wRetN (X : Stand p l e R s m args below meth c T locs cells slots) (hx : p.tables.exec = Jvm.exec) {pc : Nat} {Ls : Array Slot} {z : Int32} {t : FieldType} {rest : List Value} (hret : meth.sig.returnType = some t) (hlk : meth.locks = false) (ht : t = .boolean ∨ t = .byte ∨ t = .char ∨ t = .short)
    (hd : decode c.code pc = .ok (.ireturn, 1)) (hc : cells ≤ cs) (hs : slots ≤ sl) (eT : T.heap = h) (hq : Q (some (.int (nar t z))) h locs) : OWay p e below (OEnd s below Q cs sl) T (mkF m pc Ls (.int z :: rest)) := by
  obtain ⟨fs, hr, hrun, hended, hW, hsame⟩ := X.leave (v := some (.int (nar t z))) (fun q => by rw [hret] at q; cases q) hlk
  exact ⟨_, retN X hx hret ht hd hr, _, hrun, hended, _, _, rfl, by subst eT; exact hq, ⟨_, rfl⟩, hW, hsame.mono hc hs⟩
theorem wRet (X : Stand p l e R s m args below meth c T locs cells slots) (hx : p.tables.exec = Jvm.exec) {pc : Nat} {Ls : Array Slot} {w : Value} {t : FieldType} {i : Instr} {rest : List Value} (hret : meth.sig.returnType = some t) (hlk : meth.locks = false) (hn : narrow t w = w)
    (hi : (i = .ireturn ∧ (t = .int ∨ t = .boolean ∨ t = .byte ∨ t = .char ∨ t = .short) ∧ ∃ z, w = .int z) ∨ (i = .lreturn ∧ t = .long ∧ ∃ z, w = .long z) ∨ (i = .dreturn ∧ t = .double ∧ ∃ z, w = .double z) ∨ (i = .freturn ∧ t = .float ∧ ∃ z, w = .float z) ∨ (i = .areturn ∧ t.isReference = true ∧ w.isRef = true))
    (hd : decode c.code pc = .ok (i, 1)) (hc : cells ≤ cs) (hs : slots ≤ sl) (eT : T.heap = h) (hq : Q (some w) h locs) : OWay p e below (OEnd s below Q cs sl) T (mkF m pc Ls (w :: rest)) := by
  obtain ⟨fs, hr, hrun, hended, hW, hsame⟩ := X.leave (v := some w) (fun q => by rw [hret] at q; cases q) hlk
  exact ⟨_, retOut X hx hret hn hi hd hr, _, hrun, hended, _, _, rfl, by subst eT; exact hq, ⟨_, rfl⟩, hW, hsame.mono hc hs⟩
theorem wRetV (X : Stand p l e R s m args below meth c T locs cells slots) (hx : p.tables.exec = Jvm.exec) {pc : Nat} {Ls : Array Slot} (hret : meth.sig.returnType = none) (hlk : meth.locks = false)
    (hd : decode c.code pc = .ok (.return_, 1)) (hc : cells ≤ cs) (hs : slots ≤ sl) (eT : T.heap = h) (hq : Q none h locs) : OWay p e below (OEnd s below Q cs sl) T (mkF m pc Ls []) := by
  obtain ⟨fs, hr, hrun, hended, hW, hsame⟩ := X.leave (v := none) (fun _ => rfl) hlk
  exact ⟨_, X.returnOut hx hret hd hr, _, hrun, hended, _, _, rfl, by subst eT; exact hq, ⟨_, rfl⟩, hW, hsame.mono hc hs⟩
theorem wStatic (X : Stand p l e R s m args below meth c T locs cells slots) (hx : p.tables.exec = Jvm.exec) (hZ : Z.Warmed39 s.vm) {own : String} {index : Nat} {y : MethodName} {bytes : ByteArray} {maxL : Nat} {rt : Option FieldType} {rm : Room} {as' : Array Value} (hown : s.vm.findClass own = some m.cls)
    (w1 : (Jvm.Cond.methodLink own index y).before a0 Z = true) (w2 : (Jvm.Cond.static y).before a0 Z = true) (w3 : (Jvm.Cond.initialized y.cls).before a0 Z = true) (w4 : (Jvm.Cond.code y bytes maxL rt).before a0 Z = true) (hy : y.cls ≠ "java/lang/invoke/MethodHandle" ∧ y.cls ≠ "java/lang/invoke/VarHandle")
    (hM : OCon l y bytes maxL rt [] rm Z as' h Q) (W : Nat) (hf : rm.frames + 1 ≤ R.frames) (hl : W + (maxL + 11) + rm.locals ≤ R.locals) {g : JFrame} (hg : g.method = m) (hsize : g.locals.size = c.maxLocals) {argsL rest : List Value} (hlen : ∀ sig, parseMethodDescriptor y.desc = some sig → argsL.length = sig.parameters.length)
    (hstack : g.stack = argsL.reverse ++ rest) (hW : 2 * g.monitorRoom + (rest.map fun v => v.category).sum ≤ W) (hd : decode c.code g.pc = .ok (.invokestatic index, 3)) (has : argsL.toArray = as') (eT : T.heap = h) (hc : cells + rm.cells ≤ R.cells) (hs : slots + rm.slots ≤ R.slots) :
    ∃ (v : Option Value) (T' : State) (L : List Loc), Stand p l e R s m args below meth c T' (locs ++ L) (cells + rm.cells) (slots + rm.slots) ∧ Q v T'.heap L ∧ ∀ target, Steps p.tables e below (T'.setTop { g with pc := g.pc + 3, stack := v.toList ++ rest }) target → Steps p.tables e below (T.setTop g) target := by
  obtain ⟨v, _, ⟨T1, L1, k1, n1⟩, -, X1, ⟨Lc, hQ, l1, y1, z1⟩, st⟩ := Jvm.LawKit.callS X hx (y := y) hown (mvT hZ w1) (mvT hZ w2) (mvT hZ w3) (mvT hZ w4) hy (backOf (W := W) hM hZ w4 w3 hf hl) (g := g) hg hsize (argsL := argsL) (rest := rest) hlen hstack hW hd (fun _ _ => ⟨has, eT, hc, hs⟩)
  dsimp only [Pt.U, Pt.locs, Pt.cells, Pt.slots] at X1 l1 y1 z1 st hQ
  subst l1 y1 z1
  exact ⟨v, T1, Lc, X1, hQ, st⟩
theorem wInit (X : Stand p l e R s m args below meth c T locs cells slots) (hx : p.tables.exec = Jvm.exec) (hZ : Z.Warmed39 s.vm) {own : String} {index : Nat} {y : MethodName} {bytes : ByteArray} {maxL : Nat} {rm : Room} {as' : Array Value} (hy1 : y.name = "<init>") (hown : s.vm.findClass own = some m.cls)
    (w1 : (Jvm.Cond.methodLink own index y).before a0 Z = true) (w2 : (Jvm.Cond.instanceMethod y).before a0 Z = true) (w3 : (Jvm.Cond.initialized y.cls).before a0 Z = true) (w4 : (Jvm.Cond.code y bytes maxL none).before a0 Z = true) (hy : y.cls ≠ "java/lang/invoke/MethodHandle" ∧ y.cls ≠ "java/lang/invoke/VarHandle")
    (hM : OCon l y bytes maxL none [] rm Z as' h Q) (W : Nat) (hf : rm.frames + 1 ≤ R.frames) (hl : W + (maxL + 11) + rm.locals ≤ R.locals) {g : JFrame} (hg : g.method = m) (hsize : g.locals.size = c.maxLocals) {a : Addr} {argsL rest : List Value} (hlen : ∀ sig, parseMethodDescriptor y.desc = some sig → argsL.length = sig.parameters.length)
    (hstack : g.stack = argsL.reverse ++ .ref a :: rest) (hW : 2 * g.monitorRoom + (rest.map fun v => v.category).sum ≤ W) (hd : decode c.code g.pc = .ok (.invokespecial index, 3)) (has : (.ref a :: argsL).toArray = as') (eT : T.heap = h) (hc : cells + rm.cells ≤ R.cells) (hs : slots + rm.slots ≤ R.slots) :
    ∃ (v : Option Value) (T' : State) (L : List Loc), Stand p l e R s m args below meth c T' (locs ++ L) (cells + rm.cells) (slots + rm.slots) ∧ Q v T'.heap L ∧ Steps p.tables e below (T.setTop g) (T'.setTop { g with pc := g.pc + 3, stack := v.toList ++ rest }) := by
  obtain ⟨v, _, ⟨T1, L1, k1, n1⟩, -, X1, ⟨Lc, hQ, l1, y1, z1⟩, st⟩ := X.specialBack hx (y := y) hy1 hown (mvT hZ w1) (mvT hZ w2) (mvT hZ w4) hy (backOf (W := W) hM hZ w4 w3 hf hl) (g := g) hg hsize (Steps.refl _) (a := a) (argsL := argsL) (rest := rest) hlen hstack hW hd (fun _ _ => ⟨has, eT, hc, hs⟩)
  dsimp only [Pt.U, Pt.locs, Pt.cells, Pt.slots] at X1 l1 y1 z1 st hQ
  subst l1 y1 z1
  exact ⟨v, T1, Lc, X1, hQ, st⟩
theorem wVirtual (X : Stand p l e R s m args below meth c T locs cells slots) (hx : p.tables.exec = Jvm.exec) (hZ : Z.Warmed39 s.vm) {own C : String} {index : Nat} {y z : MethodName} {bytes : ByteArray} {maxL : Nat} {rt : Option FieldType} {rm : Room} {as' : Array Value} (hown : s.vm.findClass own = some m.cls)
    (w1 : (Jvm.Cond.methodLink own index y).before a0 Z = true) (w2 : (Jvm.Cond.declares y).before a0 Z = true) (nf : NotFace s y) (w5 : (Jvm.Cond.selects C y z).before a0 Z = true) (w6 : (Jvm.Cond.instanceMethod z).before a0 Z = true) (w3 : (Jvm.Cond.initialized z.cls).before a0 Z = true) (w4 : (Jvm.Cond.code z bytes maxL rt).before a0 Z = true)
    (hy : y.cls ≠ "java/lang/invoke/MethodHandle" ∧ y.cls ≠ "java/lang/invoke/VarHandle") (hM : OCon l z bytes maxL rt [] rm Z as' h Q) (W : Nat) (hf : rm.frames + 1 ≤ R.frames) (hl : W + (maxL + 11) + rm.locals ≤ R.locals) {b : Addr} (E : Exa Z h b C) {g : JFrame} (hg : g.method = m) (hsize : g.locals.size = c.maxLocals) {argsL rest : List Value} (hlen : ∀ sig, parseMethodDescriptor y.desc = some sig → argsL.length = sig.parameters.length)
    (hstack : g.stack = argsL.reverse ++ .ref b :: rest) (hW : 2 * g.monitorRoom + (rest.map fun v => v.category).sum ≤ W) (hd : decode c.code g.pc = .ok (.invokevirtual index, 3)) (has : (.ref b :: argsL).toArray = as') (eT : T.heap = h) (hc : cells + rm.cells ≤ R.cells) (hs : slots + rm.slots ≤ R.slots) :
    ∃ (v : Option Value) (T' : State) (L : List Loc), Stand p l e R s m args below meth c T' (locs ++ L) (cells + rm.cells) (slots + rm.slots) ∧ Q v T'.heap L ∧ Steps p.tables e below (T.setTop g) (T'.setTop { g with pc := g.pc + 3, stack := v.toList ++ rest }) := by
  obtain ⟨cq, kq, qa, qb, qc⟩ := isOf hZ eT E
  obtain ⟨v, _, ⟨T1, L1, k1, n1⟩, -, X1, ⟨Lc, hQ, l1, y1, z1⟩, st⟩ := X.virtualBack hx (y := y) (z := z) hown (mvT hZ w1) (mvT hZ w2) nf (mvT hZ w5) (mvT hZ w6) hy (backOf (W := W) hM hZ w4 w3 hf hl) qa qc (g := g) hg hsize (Steps.refl _) (argsL := argsL) (rest := rest) hlen hstack hW hd (fun _ _ => ⟨has, eT, hc, hs⟩)
  dsimp only [Pt.U, Pt.locs, Pt.cells, Pt.slots] at X1 l1 y1 z1 st hQ
  subst l1 y1 z1
  exact ⟨v, T1, Lc, X1, hQ, st⟩
end Own
end Jvm.Pilot.@@N@@
namespace Jvm.Pilot.@@N@@
open Jvm Jvm.ClassFile Sem Op Lib Jvm.Free Jvm.Stand Jvm.LawKit Jvm.RoadKit Bundle Jvm.Pilot.@@N@@.Jvm.D
def isf (i c : Int64) : Int32 := if i < c then 0 else 1
theorem own_law (i c : Int64) : isf i c = (if (if i < c then c else i) = i then 1 else 0) := by
  unfold isf
  by_cases q : i < c
  · rw [if_pos q, if_pos q, if_neg]
    rw [Int64.lt_iff_toInt_lt] at q
    rw [← Int64.toInt_inj]
    omega
  · rw [if_neg q, if_neg q, if_pos rfl]
def lmax (a b : Int64) : Int64 := if a < b then b else a
theorem d4_0 : decode jdk_29_method_66_code 0 = .ok (.lload_n 0, 1) := by decide +kernel
theorem d4_1 : decode jdk_29_method_66_code 1 = .ok (.lload_n 2, 1) := by decide +kernel
theorem d4_2 : decode jdk_29_method_66_code 2 = .ok (.lcmp, 1) := by decide +kernel
theorem d4_3 : decode jdk_29_method_66_code 3 = .ok (.ifCond .lt 7, 3) := by decide +kernel
theorem d4_10 : decode jdk_29_method_66_code 10 = .ok (.lload_n 2, 1) := by decide +kernel
theorem d4_11 : decode jdk_29_method_66_code 11 = .ok (.lreturn, 1) := by decide +kernel
theorem d4_6 : decode jdk_29_method_66_code 6 = .ok (.lload_n 0, 1) := by decide +kernel
theorem d4_7 : decode jdk_29_method_66_code 7 = .ok (.goto 4, 3) := by decide +kernel
def lmax_b_rm : Room := { frames := 0, cells := 0, slots := 0, locals := 0 }
def lmax_b_Q (Z : State) (q0 : Int64) (q1 : Int64) (h0 : Heap) (n0 : Nat) (v : Option Value) (h : Heap) (L : List Loc) : Prop := (v = some (.long (lmax q0 q1))) ∧ (Fr n0 L) ∧ (h = h0)
theorem lmax_b_ef (m : MethodId) (q0 : Int64) (q1 : Int64) : entryFrame m #[(.long q0), (.long q1)] 4 = mkF m 0 #[.val (.long q0), .second, .val (.long q1), .second] [] := by first | (simp [entryFrame, mkF, argsToLocals, Value.category]; done) | rfl
set_option maxRecDepth 65536 in
set_option maxHeartbeats 40000000 in
theorem lmax_b_c (l : Launch) (Z : State) (az : Array Value) (hw : ∀ d ∈ tables_1, d.before az Z = true) (ws : List Jvm.Cond) (q0 : Int64) (q1 : Int64) (h0 : Heap) (n0 : Nat) (Z0 : n0 ≤ h0.size) :
    OCon l (⟨"java/lang/Math", "max", "(JJ)J"⟩ : MethodName) jdk_29_method_66_code 4 (some .long) ws lmax_b_rm Z #[(.long q0), (.long q1)] h0 (lmax_b_Q Z q0 q1 h0 n0) := by
  refine ocon (Jvm.Free.JP.mathPlain rfl (by decide +kernel)) ?_
  intro p e s m below meth c s₁ hx hby hml hown hnm hret hlk hZ X0 eh0
  have N0 := Fr.nil n0
  have K0 := Keep.refl h0 []
  refine ogoE (lmax_b_ef m q0 q1) ?_
  generalize hG : (OEnd s below (lmax_b_Q Z q0 q1 h0 n0) lmax_b_rm.cells lmax_b_rm.slots) = G
  show OWay p e below G s₁ (mkF m 0 #[.val (.long q0), .second, .val (.long q1), .second] [])
  refine ogo (fun _ z_ => XS.lloadN X0.here hx rfl (hb hby d4_0) rfl z_) ?_
  show OWay p e below G s₁ (mkF m 1 #[.val (.long q0), .second, .val (.long q1), .second] [(.long q0)])
  refine ogo (fun _ z_ => XS.lloadN X0.here hx rfl (hb hby d4_1) rfl z_) ?_
  show OWay p e below G s₁ (mkF m 2 #[.val (.long q0), .second, .val (.long q1), .second] [(.long q1), (.long q0)])
  refine ogo (fun _ z_ => XS.lcmp X0.here hx rfl (hb hby d4_2) rfl z_) ?_
  show OWay p e below G s₁ (mkF m 3 #[.val (.long q0), .second, .val (.long q1), .second] [(.int (lcmpW q0 q1))])
  by_cases c3 : q0 < q1
  · refine ogo (fun _ z_ => XS.ifYes X0.here hx rfl (pc0 := 3) (pc' := 10) rfl (hb hby d4_3) rfl ((if0 _ _).trans (tlt ((lw_lt _ _).mpr c3)).1) (by decide) (by decide) z_) ?_
    show OWay p e below G s₁ (mkF m 10 #[.val (.long q0), .second, .val (.long q1), .second] [])
    refine ogo (fun _ z_ => XS.lloadN X0.here hx rfl (hb hby d4_10) rfl z_) ?_
    show OWay p e below G s₁ (mkF m 11 #[.val (.long q0), .second, .val (.long q1), .second] [(.long q1)])
    subst hG
    refine wRet X0 hx hret hlk rfl (Or.inr (Or.inl ⟨rfl, rfl, _, rfl⟩)) (hb hby d4_11) (by decide) (by decide) eh0 ?_
    exact ⟨(congrArg some (congrArg Value.long (show _ = lmax q0 q1 from by unfold lmax; rw [if_pos c3]))), N0, rfl⟩
  · refine ogo (fun _ z_ => XS.ifNo X0.here hx rfl (hb hby d4_3) rfl ((if0 _ _).trans (flt (fun q => c3 ((lw_lt _ _).mp q))).1) z_) ?_
    show OWay p e below G s₁ (mkF m 6 #[.val (.long q0), .second, .val (.long q1), .second] [])
    refine ogo (fun _ z_ => XS.lloadN X0.here hx rfl (hb hby d4_6) rfl z_) ?_
    show OWay p e below G s₁ (mkF m 7 #[.val (.long q0), .second, .val (.long q1), .second] [(.long q0)])
    refine ogo (fun _ z_ => XS.goto X0.here hx rfl (pc0 := 7) (pc' := 11) rfl (hb hby d4_7) (by decide) (by decide) z_) ?_
    show OWay p e below G s₁ (mkF m 11 #[.val (.long q0), .second, .val (.long q1), .second] [(.long q0)])
    subst hG
    refine wRet X0 hx hret hlk rfl (Or.inr (Or.inl ⟨rfl, rfl, _, rfl⟩)) (hb hby d4_11) (by decide) (by decide) eh0 ?_
    exact ⟨(congrArg some (congrArg Value.long (show _ = lmax q0 q1 from by unfold lmax; rw [if_neg c3]))), N0, rfl⟩
theorem pn_com_example_sito_sito_Slice : plainName "com/example/sito/sito/Slice" = true := by first | (simp [plainName, overriddenIn]; done) | decide +kernel
theorem d1_0 : decode prog_6_method_1_code 0 = .ok (.aload_n 0, 1) := by decide +kernel
theorem d1_1 : decode prog_6_method_1_code 1 = .ok (.invokespecial 5, 3) := by decide +kernel
theorem d1_4 : decode prog_6_method_1_code 4 = .ok (.aload_n 0, 1) := by decide +kernel
theorem d1_5 : decode prog_6_method_1_code 5 = .ok (.lload_n 1, 1) := by decide +kernel
theorem d1_6 : decode prog_6_method_1_code 6 = .ok (.putfield 11, 3) := by decide +kernel
theorem d1_9 : decode prog_6_method_1_code 9 = .ok (.aload_n 0, 1) := by decide +kernel
theorem d1_10 : decode prog_6_method_1_code 10 = .ok (.dload_n 3, 1) := by decide +kernel
theorem d1_11 : decode prog_6_method_1_code 11 = .ok (.putfield 15, 3) := by decide +kernel
theorem d1_14 : decode prog_6_method_1_code 14 = .ok (.aload_n 0, 1) := by decide +kernel
theorem d1_15 : decode prog_6_method_1_code 15 = .ok (.iload 5, 2) := by decide +kernel
theorem d1_17 : decode prog_6_method_1_code 17 = .ok (.putfield 19, 3) := by decide +kernel
theorem d1_20 : decode prog_6_method_1_code 20 = .ok (.aload_n 0, 1) := by decide +kernel
theorem d1_21 : decode prog_6_method_1_code 21 = .ok (.ldc2_w 23, 3) := by decide +kernel
theorem d1_24 : decode prog_6_method_1_code 24 = .ok (.aload 6, 2) := by decide +kernel
theorem d1_26 : decode prog_6_method_1_code 26 = .ok (.arraylength, 1) := by decide +kernel
theorem d1_27 : decode prog_6_method_1_code 27 = .ok (.i2l, 1) := by decide +kernel
theorem d1_28 : decode prog_6_method_1_code 28 = .ok (.lmul, 1) := by decide +kernel
theorem d1_29 : decode prog_6_method_1_code 29 = .ok (.putfield 25, 3) := by decide +kernel
theorem d1_32 : decode prog_6_method_1_code 32 = .ok (.aload_n 0, 1) := by decide +kernel
theorem d1_33 : decode prog_6_method_1_code 33 = .ok (.aload 6, 2) := by decide +kernel
theorem d1_35 : decode prog_6_method_1_code 35 = .ok (.putfield 28, 3) := by decide +kernel
theorem d1_38 : decode prog_6_method_1_code 38 = .ok (.aload_n 0, 1) := by decide +kernel
theorem d1_39 : decode prog_6_method_1_code 39 = .ok (.lload 7, 2) := by decide +kernel
theorem d1_41 : decode prog_6_method_1_code 41 = .ok (.putfield 32, 3) := by decide +kernel
theorem d1_44 : decode prog_6_method_1_code 44 = .ok (.return_, 1) := by decide +kernel
def ctor1_rm : Room := { frames := 1, cells := 0, slots := 0, locals := 12 }
def ctor1_Q (Z : State) (a0 : Addr) (q1 : Int64) (d2 : UInt64) (p3 : Int32) (a4 : Addr) (q5 : Int64) (kk : ClassId) (zz : Int32) (xx : Value) (h0 : Heap) (n0 : Nat) (v : Option Value) (h : Heap) (L : List Loc) : Prop := (v = none) ∧ (Fr n0 L) ∧ (Keep h0 h [a0]) ∧ (Fld Z h a0 "com/example/sito/sito/Slice" "capacity" "J" (.long q1)) ∧ (Fld Z h a0 "com/example/sito/sito/Slice" "bound" "D" (.double d2)) ∧ (Fld Z h a0 "com/example/sito/sito/Slice" "hashCount" "I" (.int p3)) ∧ (Fld Z h a0 "com/example/sito/sito/Slice" "bitCount" "J" (.long ((64 : Int64) * (zz.toInt64)))) ∧ (Fld Z h a0 "com/example/sito/sito/Slice" "words" "[J" (.ref a4)) ∧ (Fld Z h a0 "com/example/sito/sito/Slice" "items" "J" (.long q5))
theorem ctor1_ef (m : MethodId) (a0 : Addr) (q1 : Int64) (d2 : UInt64) (p3 : Int32) (a4 : Addr) (q5 : Int64) : entryFrame m #[(.ref a0), (.long q1), (.double d2), (.int p3), (.ref a4), (.long q5)] 9 = mkF m 0 #[.val (.ref a0), .val (.long q1), .second, .val (.double d2), .second, .val (.int p3), .val (.ref a4), .val (.long q5), .second] [] := by first | (simp [entryFrame, mkF, argsToLocals, Value.category]; done) | rfl
set_option maxRecDepth 65536 in
set_option maxHeartbeats 40000000 in
theorem ctor1_c (l : Launch) (Z : State) (az : Array Value) (hw : ∀ d ∈ tables_1, d.before az Z = true) (ws : List Jvm.Cond) (a0 : Addr) (q1 : Int64) (d2 : UInt64) (p3 : Int32) (a4 : Addr) (q5 : Int64) (kk : ClassId) (zz : Int32) (xx : Value) (h0 : Heap) (n0 : Nat) (Z0 : n0 ≤ h0.size) (hp0 : Arv Z h0 a4 kk .long zz [xx] (.long (0 : Int64))) (hp1 : a4 ≠ a0) (hp2 : Exa Z h0 a0 "com/example/sito/sito/Slice") (hp3 : n0 ≤ a0) (hp4 : Fld Z h0 a0 "com/example/sito/sito/Slice" "capacity" "J" (.long (0 : Int64))) (hp5 : Fld Z h0 a0 "com/example/sito/sito/Slice" "bound" "D" (.double (0 : UInt64))) (hp6 : Fld Z h0 a0 "com/example/sito/sito/Slice" "hashCount" "I" (.int (0 : Int32))) (hp7 : Fld Z h0 a0 "com/example/sito/sito/Slice" "bitCount" "J" (.long (0 : Int64))) (hp8 : Fld Z h0 a0 "com/example/sito/sito/Slice" "words" "[J" .null) (hp9 : Fld Z h0 a0 "com/example/sito/sito/Slice" "items" "J" (.long (0 : Int64))) :
    OCon l (⟨"com/example/sito/sito/Slice", "<init>", "(JDI[JJ)V"⟩ : MethodName) prog_6_method_1_code 9 none ws ctor1_rm Z #[(.ref a0), (.long q1), (.double d2), (.int p3), (.ref a4), (.long q5)] h0 (ctor1_Q Z a0 q1 d2 p3 a4 q5 kk zz xx h0 n0) := by
  refine ocon (plainFor_of_name pn_com_example_sito_sito_Slice) ?_
  intro p e s m below meth c s₁ hx hby hml hown hnm hret hlk hZ X0 eh0
  have N0 := Fr.nil n0
  have K0 := Keep.refl h0 [a0]
  refine ogoE (ctor1_ef m a0 q1 d2 p3 a4 q5) ?_
  have g_a0 := hp3
  generalize hG : (OEnd s below (ctor1_Q Z a0 q1 d2 p3 a4 q5 kk zz xx h0 n0) ctor1_rm.cells ctor1_rm.slots) = G
  show OWay p e below G s₁ (mkF m 0 #[.val (.ref a0), .val (.long q1), .second, .val (.double d2), .second, .val (.int p3), .val (.ref a4), .val (.long q5), .second] [])
  refine ogo (fun _ z_ => XS.aloadN X0.here hx rfl (hb hby d1_0) rfl rfl z_) ?_
  show OWay p e below G s₁ (mkF m 1 #[.val (.ref a0), .val (.long q1), .second, .val (.double d2), .second, .val (.int p3), .val (.ref a4), .val (.long q5), .second] [(.ref a0)])
  obtain ⟨T1, X1, eT1, st1⟩ := initO X0 hx hZ hown (hw _ (List.mem_of_getElem? (i := 8) rfl)) (hw _ (List.mem_of_getElem? (i := 9) rfl)) (hw _ (List.mem_of_getElem? (i := 10) rfl)) eh0 (g := (mkF m 1 #[.val (.ref a0), .val (.long q1), .second, .val (.double d2), .second, .val (.int p3), .val (.ref a4), .val (.long q5), .second] [(.ref a0)])) rfl (by rw [hml]; rfl) rfl (hb hby d1_1) (by decide) (W := 0) (by show 2 * 0 + _ ≤ _; exact Nat.le_of_eq rfl) (by decide)
  refine ogo st1 ?_
  show OWay p e below G T1 (mkF m 4 #[.val (.ref a0), .val (.long q1), .second, .val (.double d2), .second, .val (.int p3), .val (.ref a4), .val (.long q5), .second] [])
  refine ogo (fun _ z_ => XS.aloadN X1.here hx rfl (hb hby d1_4) rfl rfl z_) ?_
  show OWay p e below G T1 (mkF m 5 #[.val (.ref a0), .val (.long q1), .second, .val (.double d2), .second, .val (.int p3), .val (.ref a4), .val (.long q5), .second] [(.ref a0)])
  refine ogo (fun _ z_ => XS.lloadN X1.here hx rfl (hb hby d1_5) rfl z_) ?_
  show OWay p e below G T1 (mkF m 6 #[.val (.ref a0), .val (.long q1), .second, .val (.double d2), .second, .val (.int p3), .val (.ref a4), .val (.long q5), .second] [(.long q1), (.ref a0)])
  obtain ⟨T2, h2, X2, eT2, W2, st2⟩ := putF X1 hx hZ hown (host := "") (Or.inl (hw _ (List.mem_of_getElem? (i := 11) rfl))) Via.refl eT1 hp4 hp2 (Or.inr ⟨(hw _ (List.mem_of_getElem? (i := 12) rfl)), rfl, hnm⟩) (hw _ (List.mem_of_getElem? (i := 2) rfl)) (ty := .long) (by decide) rfl rfl (g := (mkF m 6 #[.val (.ref a0), .val (.long q1), .second, .val (.double d2), .second, .val (.int p3), .val (.ref a4), .val (.long q5), .second] [(.long q1), (.ref a0)])) rfl rfl (hb hby d1_6)
  have K3 : Keep h0 h2 [a0] := K0.wr W2 (Or.inl (List.mem_of_getElem? (i := 0) rfl))
  have Fw2 : Fld Z h2 a0 "com/example/sito/sito/Slice" "capacity" "J" (.long q1) := hp4.same W2
  have N2 := Fr.snoc X2 N0 g_a0
  refine ogo st2 ?_
  show OWay p e below G T2 (mkF m 9 #[.val (.ref a0), .val (.long q1), .second, .val (.double d2), .second, .val (.int p3), .val (.ref a4), .val (.long q5), .second] [])
  refine ogo (fun _ z_ => XS.aloadN X2.here hx rfl (hb hby d1_9) rfl rfl z_) ?_
  show OWay p e below G T2 (mkF m 10 #[.val (.ref a0), .val (.long q1), .second, .val (.double d2), .second, .val (.int p3), .val (.ref a4), .val (.long q5), .second] [(.ref a0)])
  refine ogo (fun _ z_ => XS.dloadN X2.here hx rfl (hb hby d1_10) rfl z_) ?_
  show OWay p e below G T2 (mkF m 11 #[.val (.ref a0), .val (.long q1), .second, .val (.double d2), .second, .val (.int p3), .val (.ref a4), .val (.long q5), .second] [(.double d2), (.ref a0)])
  have F4 : Exa Z h2 a0 "com/example/sito/sito/Slice" := (hp2.wr W2)
  have F5 : Fld Z h2 a0 "com/example/sito/sito/Slice" "bound" "D" (.double (0 : UInt64)) := (hp5.other W2 (Or.inr (slot_ne (Or.inr (hw _ (List.mem_of_getElem? (i := 14) rfl))) (Or.inr (hw _ (List.mem_of_getElem? (i := 12) rfl))) (by decide) (t := .double) (t' := .long) (by decide) (by decide))))
  obtain ⟨T6, h6, X6, eT6, W6, st6⟩ := putF X2 hx hZ hown (host := "") (Or.inl (hw _ (List.mem_of_getElem? (i := 13) rfl))) Via.refl eT2 F5 F4 (Or.inr ⟨(hw _ (List.mem_of_getElem? (i := 14) rfl)), rfl, hnm⟩) (hw _ (List.mem_of_getElem? (i := 2) rfl)) (ty := .double) (by decide) rfl rfl (g := (mkF m 11 #[.val (.ref a0), .val (.long q1), .second, .val (.double d2), .second, .val (.int p3), .val (.ref a4), .val (.long q5), .second] [(.double d2), (.ref a0)])) rfl rfl (hb hby d1_11)
  have K7 : Keep h0 h6 [a0] := K3.wr W6 (Or.inl (List.mem_of_getElem? (i := 0) rfl))
  have Fw6 : Fld Z h6 a0 "com/example/sito/sito/Slice" "bound" "D" (.double d2) := F5.same W6
  have N6 := Fr.snoc X6 N2 g_a0
  refine ogo st6 ?_
  show OWay p e below G T6 (mkF m 14 #[.val (.ref a0), .val (.long q1), .second, .val (.double d2), .second, .val (.int p3), .val (.ref a4), .val (.long q5), .second] [])
  refine ogo (fun _ z_ => XS.aloadN X6.here hx rfl (hb hby d1_14) rfl rfl z_) ?_
  show OWay p e below G T6 (mkF m 15 #[.val (.ref a0), .val (.long q1), .second, .val (.double d2), .second, .val (.int p3), .val (.ref a4), .val (.long q5), .second] [(.ref a0)])
  refine ogo (fun _ z_ => XS.iload X6.here hx rfl (hb hby d1_15) rfl z_) ?_
  show OWay p e below G T6 (mkF m 17 #[.val (.ref a0), .val (.long q1), .second, .val (.double d2), .second, .val (.int p3), .val (.ref a4), .val (.long q5), .second] [(.int p3), (.ref a0)])
  have F8 : Exa Z h6 a0 "com/example/sito/sito/Slice" := (F4.wr W6)
  have F9 : Fld Z h6 a0 "com/example/sito/sito/Slice" "hashCount" "I" (.int (0 : Int32)) := ((hp6.other W2 (Or.inr (slot_ne (Or.inr (hw _ (List.mem_of_getElem? (i := 16) rfl))) (Or.inr (hw _ (List.mem_of_getElem? (i := 12) rfl))) (by decide) (t := .int) (t' := .long) (by decide) (by decide)))).other W6 (Or.inr (slot_ne (Or.inr (hw _ (List.mem_of_getElem? (i := 16) rfl))) (Or.inr (hw _ (List.mem_of_getElem? (i := 14) rfl))) (by decide) (t := .int) (t' := .double) (by decide) (by decide))))
  obtain ⟨T10, h10, X10, eT10, W10, st10⟩ := putF X6 hx hZ hown (host := "") (Or.inl (hw _ (List.mem_of_getElem? (i := 15) rfl))) Via.refl eT6 F9 F8 (Or.inr ⟨(hw _ (List.mem_of_getElem? (i := 16) rfl)), rfl, hnm⟩) (hw _ (List.mem_of_getElem? (i := 2) rfl)) (ty := .int) (by decide) rfl rfl (g := (mkF m 17 #[.val (.ref a0), .val (.long q1), .second, .val (.double d2), .second, .val (.int p3), .val (.ref a4), .val (.long q5), .second] [(.int p3), (.ref a0)])) rfl rfl (hb hby d1_17)
  have K11 : Keep h0 h10 [a0] := K7.wr W10 (Or.inl (List.mem_of_getElem? (i := 0) rfl))
  have Fw10 : Fld Z h10 a0 "com/example/sito/sito/Slice" "hashCount" "I" (.int p3) := F9.same W10
  have N10 := Fr.snoc X10 N6 g_a0
  refine ogo st10 ?_
  show OWay p e below G T10 (mkF m 20 #[.val (.ref a0), .val (.long q1), .second, .val (.double d2), .second, .val (.int p3), .val (.ref a4), .val (.long q5), .second] [])
  refine ogo (fun _ z_ => XS.aloadN X10.here hx rfl (hb hby d1_20) rfl rfl z_) ?_
  show OWay p e below G T10 (mkF m 21 #[.val (.ref a0), .val (.long q1), .second, .val (.double d2), .second, .val (.int p3), .val (.ref a4), .val (.long q5), .second] [(.ref a0)])
  refine ogo (fun _ z_ => X10.ldc2Long hx hown (mvT hZ (hw _ (List.mem_of_getElem? (i := 17) rfl))) (g := (mkF m 21 #[.val (.ref a0), .val (.long q1), .second, .val (.double d2), .second, .val (.int p3), .val (.ref a4), .val (.long q5), .second] [(.ref a0)])) rfl (hb hby d1_21) _ z_) ?_
  show OWay p e below G T10 (mkF m 24 #[.val (.ref a0), .val (.long q1), .second, .val (.double d2), .second, .val (.int p3), .val (.ref a4), .val (.long q5), .second] [(.long (64 : Int64)), (.ref a0)])
  refine ogo (fun _ z_ => XS.aload X10.here hx rfl (hb hby d1_24) rfl rfl z_) ?_
  show OWay p e below G T10 (mkF m 26 #[.val (.ref a0), .val (.long q1), .second, .val (.double d2), .second, .val (.int p3), .val (.ref a4), .val (.long q5), .second] [(.ref a4), (.long (64 : Int64)), (.ref a0)])
  have F12 : Arv Z h10 a4 kk .long zz [xx] (.long (0 : Int64)) := (((hp0.other W2 hp1).other W6 hp1).other W10 hp1)
  obtain ⟨cl_o13, Ar_o13, -, S_o13, N_o13, -, -⟩ := id F12
  refine ogo (fun _ z_ => X10.arraylength hx (by rw [eT10]; exact Ar_o13.1) (State.isArrayOf_alike hZ.alike Ar_o13.2.1) (g := (mkF m 26 #[.val (.ref a0), .val (.long q1), .second, .val (.double d2), .second, .val (.int p3), .val (.ref a4), .val (.long q5), .second] [(.ref a4), (.long (64 : Int64)), (.ref a0)])) rfl rfl (hb hby d1_26) _ z_) ?_
  rw [len_of S_o13 N_o13]
  show OWay p e below G T10 (mkF m 27 #[.val (.ref a0), .val (.long q1), .second, .val (.double d2), .second, .val (.int p3), .val (.ref a4), .val (.long q5), .second] [(.int zz), (.long (64 : Int64)), (.ref a0)])
  refine ogo (fun _ z_ => XS.i2l X10.here hx rfl (hb hby d1_27) rfl z_) ?_
  show OWay p e below G T10 (mkF m 28 #[.val (.ref a0), .val (.long q1), .second, .val (.double d2), .second, .val (.int p3), .val (.ref a4), .val (.long q5), .second] [(.long (zz.toInt64)), (.long (64 : Int64)), (.ref a0)])
  refine ogo (fun _ z_ => XS.lmul X10.here hx rfl (hb hby d1_28) rfl z_) ?_
  show OWay p e below G T10 (mkF m 29 #[.val (.ref a0), .val (.long q1), .second, .val (.double d2), .second, .val (.int p3), .val (.ref a4), .val (.long q5), .second] [(.long ((64 : Int64) * (zz.toInt64))), (.ref a0)])
  have F14 : Exa Z h10 a0 "com/example/sito/sito/Slice" := (F8.wr W10)
  have F15 : Fld Z h10 a0 "com/example/sito/sito/Slice" "bitCount" "J" (.long (0 : Int64)) := (((hp7.other W2 (Or.inr (slot_ne (Or.inr (hw _ (List.mem_of_getElem? (i := 19) rfl))) (Or.inr (hw _ (List.mem_of_getElem? (i := 12) rfl))) (by decide) (t := .long) (t' := .long) (by decide) (by decide)))).other W6 (Or.inr (slot_ne (Or.inr (hw _ (List.mem_of_getElem? (i := 19) rfl))) (Or.inr (hw _ (List.mem_of_getElem? (i := 14) rfl))) (by decide) (t := .long) (t' := .double) (by decide) (by decide)))).other W10 (Or.inr (slot_ne (Or.inr (hw _ (List.mem_of_getElem? (i := 19) rfl))) (Or.inr (hw _ (List.mem_of_getElem? (i := 16) rfl))) (by decide) (t := .long) (t' := .int) (by decide) (by decide))))
  obtain ⟨T16, h16, X16, eT16, W16, st16⟩ := putF X10 hx hZ hown (host := "") (Or.inl (hw _ (List.mem_of_getElem? (i := 18) rfl))) Via.refl eT10 F15 F14 (Or.inr ⟨(hw _ (List.mem_of_getElem? (i := 19) rfl)), rfl, hnm⟩) (hw _ (List.mem_of_getElem? (i := 2) rfl)) (ty := .long) (by decide) rfl rfl (g := (mkF m 29 #[.val (.ref a0), .val (.long q1), .second, .val (.double d2), .second, .val (.int p3), .val (.ref a4), .val (.long q5), .second] [(.long ((64 : Int64) * (zz.toInt64))), (.ref a0)])) rfl rfl (hb hby d1_29)
  have K17 : Keep h0 h16 [a0] := K11.wr W16 (Or.inl (List.mem_of_getElem? (i := 0) rfl))
  have Fw16 : Fld Z h16 a0 "com/example/sito/sito/Slice" "bitCount" "J" (.long ((64 : Int64) * (zz.toInt64))) := F15.same W16
  have N16 := Fr.snoc X16 N10 g_a0
  refine ogo st16 ?_
  show OWay p e below G T16 (mkF m 32 #[.val (.ref a0), .val (.long q1), .second, .val (.double d2), .second, .val (.int p3), .val (.ref a4), .val (.long q5), .second] [])
  refine ogo (fun _ z_ => XS.aloadN X16.here hx rfl (hb hby d1_32) rfl rfl z_) ?_
  show OWay p e below G T16 (mkF m 33 #[.val (.ref a0), .val (.long q1), .second, .val (.double d2), .second, .val (.int p3), .val (.ref a4), .val (.long q5), .second] [(.ref a0)])
  refine ogo (fun _ z_ => XS.aload X16.here hx rfl (hb hby d1_33) rfl rfl z_) ?_
  show OWay p e below G T16 (mkF m 35 #[.val (.ref a0), .val (.long q1), .second, .val (.double d2), .second, .val (.int p3), .val (.ref a4), .val (.long q5), .second] [(.ref a4), (.ref a0)])
  have F18 : Exa Z h16 a0 "com/example/sito/sito/Slice" := (F14.wr W16)
  have F19 : Fld Z h16 a0 "com/example/sito/sito/Slice" "words" "[J" .null := ((((hp8.other W2 (Or.inr (slot_ne (Or.inr (hw _ (List.mem_of_getElem? (i := 21) rfl))) (Or.inr (hw _ (List.mem_of_getElem? (i := 12) rfl))) (by decide) (t := (.array .long)) (t' := .long) (by decide) (by decide)))).other W6 (Or.inr (slot_ne (Or.inr (hw _ (List.mem_of_getElem? (i := 21) rfl))) (Or.inr (hw _ (List.mem_of_getElem? (i := 14) rfl))) (by decide) (t := (.array .long)) (t' := .double) (by decide) (by decide)))).other W10 (Or.inr (slot_ne (Or.inr (hw _ (List.mem_of_getElem? (i := 21) rfl))) (Or.inr (hw _ (List.mem_of_getElem? (i := 16) rfl))) (by decide) (t := (.array .long)) (t' := .int) (by decide) (by decide)))).other W16 (Or.inr (slot_ne (Or.inr (hw _ (List.mem_of_getElem? (i := 21) rfl))) (Or.inr (hw _ (List.mem_of_getElem? (i := 19) rfl))) (by decide) (t := (.array .long)) (t' := .long) (by decide) (by decide))))
  obtain ⟨T20, h20, X20, eT20, W20, st20⟩ := putF X16 hx hZ hown (host := "") (Or.inl (hw _ (List.mem_of_getElem? (i := 20) rfl))) Via.refl eT16 F19 F18 (Or.inr ⟨(hw _ (List.mem_of_getElem? (i := 21) rfl)), rfl, hnm⟩) (hw _ (List.mem_of_getElem? (i := 2) rfl)) (ty := (.array .long)) (by decide) rfl rfl (g := (mkF m 35 #[.val (.ref a0), .val (.long q1), .second, .val (.double d2), .second, .val (.int p3), .val (.ref a4), .val (.long q5), .second] [(.ref a4), (.ref a0)])) rfl rfl (hb hby d1_35)
  have K21 : Keep h0 h20 [a0] := K17.wr W20 (Or.inl (List.mem_of_getElem? (i := 0) rfl))
  have Fw20 : Fld Z h20 a0 "com/example/sito/sito/Slice" "words" "[J" (.ref a4) := F19.same W20
  have N20 := Fr.snoc X20 N16 g_a0
  refine ogo st20 ?_
  show OWay p e below G T20 (mkF m 38 #[.val (.ref a0), .val (.long q1), .second, .val (.double d2), .second, .val (.int p3), .val (.ref a4), .val (.long q5), .second] [])
  refine ogo (fun _ z_ => XS.aloadN X20.here hx rfl (hb hby d1_38) rfl rfl z_) ?_
  show OWay p e below G T20 (mkF m 39 #[.val (.ref a0), .val (.long q1), .second, .val (.double d2), .second, .val (.int p3), .val (.ref a4), .val (.long q5), .second] [(.ref a0)])
  refine ogo (fun _ z_ => XS.lload X20.here hx rfl (hb hby d1_39) rfl z_) ?_
  show OWay p e below G T20 (mkF m 41 #[.val (.ref a0), .val (.long q1), .second, .val (.double d2), .second, .val (.int p3), .val (.ref a4), .val (.long q5), .second] [(.long q5), (.ref a0)])
  have F22 : Exa Z h20 a0 "com/example/sito/sito/Slice" := (F18.wr W20)
  have F23 : Fld Z h20 a0 "com/example/sito/sito/Slice" "items" "J" (.long (0 : Int64)) := (((((hp9.other W2 (Or.inr (slot_ne (Or.inl (hw _ (List.mem_of_getElem? (i := 23) rfl))) (Or.inr (hw _ (List.mem_of_getElem? (i := 12) rfl))) (by decide) (t := .long) (t' := .long) (by decide) (by decide)))).other W6 (Or.inr (slot_ne (Or.inl (hw _ (List.mem_of_getElem? (i := 23) rfl))) (Or.inr (hw _ (List.mem_of_getElem? (i := 14) rfl))) (by decide) (t := .long) (t' := .double) (by decide) (by decide)))).other W10 (Or.inr (slot_ne (Or.inl (hw _ (List.mem_of_getElem? (i := 23) rfl))) (Or.inr (hw _ (List.mem_of_getElem? (i := 16) rfl))) (by decide) (t := .long) (t' := .int) (by decide) (by decide)))).other W16 (Or.inr (slot_ne (Or.inl (hw _ (List.mem_of_getElem? (i := 23) rfl))) (Or.inr (hw _ (List.mem_of_getElem? (i := 19) rfl))) (by decide) (t := .long) (t' := .long) (by decide) (by decide)))).other W20 (Or.inr (slot_ne (Or.inl (hw _ (List.mem_of_getElem? (i := 23) rfl))) (Or.inr (hw _ (List.mem_of_getElem? (i := 21) rfl))) (by decide) (t := .long) (t' := (.array .long)) (by decide) (by decide))))
  obtain ⟨T24, h24, X24, eT24, W24, st24⟩ := putF X20 hx hZ hown (host := "") (Or.inl (hw _ (List.mem_of_getElem? (i := 22) rfl))) Via.refl eT20 F23 F22 (Or.inl (hw _ (List.mem_of_getElem? (i := 23) rfl))) (hw _ (List.mem_of_getElem? (i := 2) rfl)) (ty := .long) (by decide) rfl rfl (g := (mkF m 41 #[.val (.ref a0), .val (.long q1), .second, .val (.double d2), .second, .val (.int p3), .val (.ref a4), .val (.long q5), .second] [(.long q5), (.ref a0)])) rfl rfl (hb hby d1_41)
  have K25 : Keep h0 h24 [a0] := K21.wr W24 (Or.inl (List.mem_of_getElem? (i := 0) rfl))
  have Fw24 : Fld Z h24 a0 "com/example/sito/sito/Slice" "items" "J" (.long q5) := F23.same W24
  have N24 := Fr.snoc X24 N20 g_a0
  refine ogo st24 ?_
  show OWay p e below G T24 (mkF m 44 #[.val (.ref a0), .val (.long q1), .second, .val (.double d2), .second, .val (.int p3), .val (.ref a4), .val (.long q5), .second] [])
  subst hG
  refine wRetV X24 hx hret hlk (hb hby d1_44) (by decide) (by decide) eT24 ?_
  exact ⟨rfl, N24, K25, (((((Fw2.other W6 (Or.inr (slot_ne (Or.inr (hw _ (List.mem_of_getElem? (i := 12) rfl))) (Or.inr (hw _ (List.mem_of_getElem? (i := 14) rfl))) (by decide) (t := .long) (t' := .double) (by decide) (by decide)))).other W10 (Or.inr (slot_ne (Or.inr (hw _ (List.mem_of_getElem? (i := 12) rfl))) (Or.inr (hw _ (List.mem_of_getElem? (i := 16) rfl))) (by decide) (t := .long) (t' := .int) (by decide) (by decide)))).other W16 (Or.inr (slot_ne (Or.inr (hw _ (List.mem_of_getElem? (i := 12) rfl))) (Or.inr (hw _ (List.mem_of_getElem? (i := 19) rfl))) (by decide) (t := .long) (t' := .long) (by decide) (by decide)))).other W20 (Or.inr (slot_ne (Or.inr (hw _ (List.mem_of_getElem? (i := 12) rfl))) (Or.inr (hw _ (List.mem_of_getElem? (i := 21) rfl))) (by decide) (t := .long) (t' := (.array .long)) (by decide) (by decide)))).other W24 (Or.inr (slot_ne (Or.inr (hw _ (List.mem_of_getElem? (i := 12) rfl))) (Or.inl (hw _ (List.mem_of_getElem? (i := 23) rfl))) (by decide) (t := .long) (t' := .long) (by decide) (by decide)))), ((((Fw6.other W10 (Or.inr (slot_ne (Or.inr (hw _ (List.mem_of_getElem? (i := 14) rfl))) (Or.inr (hw _ (List.mem_of_getElem? (i := 16) rfl))) (by decide) (t := .double) (t' := .int) (by decide) (by decide)))).other W16 (Or.inr (slot_ne (Or.inr (hw _ (List.mem_of_getElem? (i := 14) rfl))) (Or.inr (hw _ (List.mem_of_getElem? (i := 19) rfl))) (by decide) (t := .double) (t' := .long) (by decide) (by decide)))).other W20 (Or.inr (slot_ne (Or.inr (hw _ (List.mem_of_getElem? (i := 14) rfl))) (Or.inr (hw _ (List.mem_of_getElem? (i := 21) rfl))) (by decide) (t := .double) (t' := (.array .long)) (by decide) (by decide)))).other W24 (Or.inr (slot_ne (Or.inr (hw _ (List.mem_of_getElem? (i := 14) rfl))) (Or.inl (hw _ (List.mem_of_getElem? (i := 23) rfl))) (by decide) (t := .double) (t' := .long) (by decide) (by decide)))), (((Fw10.other W16 (Or.inr (slot_ne (Or.inr (hw _ (List.mem_of_getElem? (i := 16) rfl))) (Or.inr (hw _ (List.mem_of_getElem? (i := 19) rfl))) (by decide) (t := .int) (t' := .long) (by decide) (by decide)))).other W20 (Or.inr (slot_ne (Or.inr (hw _ (List.mem_of_getElem? (i := 16) rfl))) (Or.inr (hw _ (List.mem_of_getElem? (i := 21) rfl))) (by decide) (t := .int) (t' := (.array .long)) (by decide) (by decide)))).other W24 (Or.inr (slot_ne (Or.inr (hw _ (List.mem_of_getElem? (i := 16) rfl))) (Or.inl (hw _ (List.mem_of_getElem? (i := 23) rfl))) (by decide) (t := .int) (t' := .long) (by decide) (by decide)))), ((Fw16.other W20 (Or.inr (slot_ne (Or.inr (hw _ (List.mem_of_getElem? (i := 19) rfl))) (Or.inr (hw _ (List.mem_of_getElem? (i := 21) rfl))) (by decide) (t := .long) (t' := (.array .long)) (by decide) (by decide)))).other W24 (Or.inr (slot_ne (Or.inr (hw _ (List.mem_of_getElem? (i := 19) rfl))) (Or.inl (hw _ (List.mem_of_getElem? (i := 23) rfl))) (by decide) (t := .long) (t' := .long) (by decide) (by decide)))), (Fw20.other W24 (Or.inr (slot_ne (Or.inr (hw _ (List.mem_of_getElem? (i := 21) rfl))) (Or.inl (hw _ (List.mem_of_getElem? (i := 23) rfl))) (by decide) (t := (.array .long)) (t' := .long) (by decide) (by decide)))), Fw24⟩
theorem d5_0 : decode prog_6_method_21_code 0 = .ok (.aload_n 0, 1) := by decide +kernel
theorem d5_1 : decode prog_6_method_21_code 1 = .ok (.getfield 32, 3) := by decide +kernel
theorem d5_4 : decode prog_6_method_21_code 4 = .ok (.lreturn, 1) := by decide +kernel
def get5_rm : Room := { frames := 0, cells := 0, slots := 0, locals := 0 }
def get5_Q (Z : State) (a0 : Addr) (w : Int64) (h0 : Heap) (n0 : Nat) (v : Option Value) (h : Heap) (L : List Loc) : Prop := (v = some (.long w)) ∧ (Fr n0 L) ∧ (h = h0)
theorem get5_ef (m : MethodId) (a0 : Addr) : entryFrame m #[(.ref a0)] 1 = mkF m 0 #[.val (.ref a0)] [] := by first | (simp [entryFrame, mkF, argsToLocals, Value.category]; done) | rfl
set_option maxRecDepth 65536 in
set_option maxHeartbeats 40000000 in
theorem get5_c (l : Launch) (Z : State) (az : Array Value) (hw : ∀ d ∈ tables_1, d.before az Z = true) (ws : List Jvm.Cond) (a0 : Addr) (w : Int64) (h0 : Heap) (n0 : Nat) (Z0 : n0 ≤ h0.size) (hp0 : Fld Z h0 a0 "com/example/sito/sito/Slice" "items" "J" (.long w)) :
    OCon l (⟨"com/example/sito/sito/Slice", "getItems", "()J"⟩ : MethodName) prog_6_method_21_code 1 (some .long) ws get5_rm Z #[(.ref a0)] h0 (get5_Q Z a0 w h0 n0) := by
  refine ocon (plainFor_of_name pn_com_example_sito_sito_Slice) ?_
  intro p e s m below meth c s₁ hx hby hml hown hnm hret hlk hZ X0 eh0
  have N0 := Fr.nil n0
  have K0 := Keep.refl h0 []
  refine ogoE (get5_ef m a0) ?_
  generalize hG : (OEnd s below (get5_Q Z a0 w h0 n0) get5_rm.cells get5_rm.slots) = G
  show OWay p e below G s₁ (mkF m 0 #[.val (.ref a0)] [])
  refine ogo (fun _ z_ => XS.aloadN X0.here hx rfl (hb hby d5_0) rfl rfl z_) ?_
  show OWay p e below G s₁ (mkF m 1 #[.val (.ref a0)] [(.ref a0)])
  obtain ⟨T1, X1, eT1, st1⟩ := getF X0 hx hZ hown (host := "") (Or.inl (hw _ (List.mem_of_getElem? (i := 22) rfl))) Via.refl eh0 hp0 (g := (mkF m 1 #[.val (.ref a0)] [(.ref a0)])) rfl rfl (hb hby d5_1)
  refine ogo st1 ?_
  show OWay p e below G T1 (mkF m 4 #[.val (.ref a0)] [(.long w)])
  subst hG
  refine wRet X1 hx hret hlk rfl (Or.inr (Or.inl ⟨rfl, rfl, _, rfl⟩)) (hb hby d5_4) (by decide) (by decide) eT1 ?_
  exact ⟨rfl, N0, rfl⟩
theorem d6_0 : decode prog_6_method_17_code 0 = .ok (.aload_n 0, 1) := by decide +kernel
theorem d6_1 : decode prog_6_method_17_code 1 = .ok (.getfield 11, 3) := by decide +kernel
theorem d6_4 : decode prog_6_method_17_code 4 = .ok (.lreturn, 1) := by decide +kernel
def get6_rm : Room := { frames := 0, cells := 0, slots := 0, locals := 0 }
def get6_Q (Z : State) (a0 : Addr) (w : Int64) (h0 : Heap) (n0 : Nat) (v : Option Value) (h : Heap) (L : List Loc) : Prop := (v = some (.long w)) ∧ (Fr n0 L) ∧ (h = h0)
theorem get6_ef (m : MethodId) (a0 : Addr) : entryFrame m #[(.ref a0)] 1 = mkF m 0 #[.val (.ref a0)] [] := by first | (simp [entryFrame, mkF, argsToLocals, Value.category]; done) | rfl
set_option maxRecDepth 65536 in
set_option maxHeartbeats 40000000 in
theorem get6_c (l : Launch) (Z : State) (az : Array Value) (hw : ∀ d ∈ tables_1, d.before az Z = true) (ws : List Jvm.Cond) (a0 : Addr) (w : Int64) (h0 : Heap) (n0 : Nat) (Z0 : n0 ≤ h0.size) (hp0 : Fld Z h0 a0 "com/example/sito/sito/Slice" "capacity" "J" (.long w)) :
    OCon l (⟨"com/example/sito/sito/Slice", "getCapacity", "()J"⟩ : MethodName) prog_6_method_17_code 1 (some .long) ws get6_rm Z #[(.ref a0)] h0 (get6_Q Z a0 w h0 n0) := by
  refine ocon (plainFor_of_name pn_com_example_sito_sito_Slice) ?_
  intro p e s m below meth c s₁ hx hby hml hown hnm hret hlk hZ X0 eh0
  have N0 := Fr.nil n0
  have K0 := Keep.refl h0 []
  refine ogoE (get6_ef m a0) ?_
  generalize hG : (OEnd s below (get6_Q Z a0 w h0 n0) get6_rm.cells get6_rm.slots) = G
  show OWay p e below G s₁ (mkF m 0 #[.val (.ref a0)] [])
  refine ogo (fun _ z_ => XS.aloadN X0.here hx rfl (hb hby d6_0) rfl rfl z_) ?_
  show OWay p e below G s₁ (mkF m 1 #[.val (.ref a0)] [(.ref a0)])
  obtain ⟨T1, X1, eT1, st1⟩ := getF X0 hx hZ hown (host := "") (Or.inl (hw _ (List.mem_of_getElem? (i := 11) rfl))) Via.refl eh0 hp0 (g := (mkF m 1 #[.val (.ref a0)] [(.ref a0)])) rfl rfl (hb hby d6_1)
  refine ogo st1 ?_
  show OWay p e below G T1 (mkF m 4 #[.val (.ref a0)] [(.long w)])
  subst hG
  refine wRet X1 hx hret hlk rfl (Or.inr (Or.inl ⟨rfl, rfl, _, rfl⟩)) (hb hby d6_4) (by decide) (by decide) eT1 ?_
  exact ⟨rfl, N0, rfl⟩
theorem d3_0 : decode prog_6_method_16_code 0 = .ok (.aload_n 0, 1) := by decide +kernel
theorem d3_1 : decode prog_6_method_16_code 1 = .ok (.getfield 32, 3) := by decide +kernel
theorem d3_4 : decode prog_6_method_16_code 4 = .ok (.aload_n 0, 1) := by decide +kernel
theorem d3_5 : decode prog_6_method_16_code 5 = .ok (.getfield 11, 3) := by decide +kernel
theorem d3_8 : decode prog_6_method_16_code 8 = .ok (.lcmp, 1) := by decide +kernel
theorem d3_9 : decode prog_6_method_16_code 9 = .ok (.ifCond .lt 7, 3) := by decide +kernel
theorem d3_16 : decode prog_6_method_16_code 16 = .ok (.iconst 0, 1) := by decide +kernel
theorem d3_17 : decode prog_6_method_16_code 17 = .ok (.ireturn, 1) := by decide +kernel
theorem d3_12 : decode prog_6_method_16_code 12 = .ok (.iconst 1, 1) := by decide +kernel
theorem d3_13 : decode prog_6_method_16_code 13 = .ok (.goto 4, 3) := by decide +kernel
def isf_b_rm : Room := { frames := 0, cells := 0, slots := 0, locals := 0 }
def isf_b_Q (Z : State) (a0 : Addr) (w1 : Int64) (w2 : Int64) (h0 : Heap) (n0 : Nat) (v : Option Value) (h : Heap) (L : List Loc) : Prop := (v = some (.int (isf w1 w2))) ∧ (Fr n0 L) ∧ (h = h0)
theorem isf_b_ef (m : MethodId) (a0 : Addr) : entryFrame m #[(.ref a0)] 1 = mkF m 0 #[.val (.ref a0)] [] := by first | (simp [entryFrame, mkF, argsToLocals, Value.category]; done) | rfl
set_option maxRecDepth 65536 in
set_option maxHeartbeats 40000000 in
theorem isf_b_c (l : Launch) (Z : State) (az : Array Value) (hw : ∀ d ∈ tables_1, d.before az Z = true) (ws : List Jvm.Cond) (a0 : Addr) (w1 : Int64) (w2 : Int64) (h0 : Heap) (n0 : Nat) (Z0 : n0 ≤ h0.size) (hp0 : Fld Z h0 a0 "com/example/sito/sito/Slice" "items" "J" (.long w1)) (hp1 : Fld Z h0 a0 "com/example/sito/sito/Slice" "capacity" "J" (.long w2)) :
    OCon l (⟨"com/example/sito/sito/Slice", "isFull", "()Z"⟩ : MethodName) prog_6_method_16_code 1 (some .boolean) ws isf_b_rm Z #[(.ref a0)] h0 (isf_b_Q Z a0 w1 w2 h0 n0) := by
  refine ocon (plainFor_of_name pn_com_example_sito_sito_Slice) ?_
  intro p e s m below meth c s₁ hx hby hml hown hnm hret hlk hZ X0 eh0
  have N0 := Fr.nil n0
  have K0 := Keep.refl h0 []
  refine ogoE (isf_b_ef m a0) ?_
  generalize hG : (OEnd s below (isf_b_Q Z a0 w1 w2 h0 n0) isf_b_rm.cells isf_b_rm.slots) = G
  show OWay p e below G s₁ (mkF m 0 #[.val (.ref a0)] [])
  refine ogo (fun _ z_ => XS.aloadN X0.here hx rfl (hb hby d3_0) rfl rfl z_) ?_
  show OWay p e below G s₁ (mkF m 1 #[.val (.ref a0)] [(.ref a0)])
  obtain ⟨T1, X1, eT1, st1⟩ := getF X0 hx hZ hown (host := "") (Or.inl (hw _ (List.mem_of_getElem? (i := 22) rfl))) Via.refl eh0 hp0 (g := (mkF m 1 #[.val (.ref a0)] [(.ref a0)])) rfl rfl (hb hby d3_1)
  refine ogo st1 ?_
  show OWay p e below G T1 (mkF m 4 #[.val (.ref a0)] [(.long w1)])
  refine ogo (fun _ z_ => XS.aloadN X1.here hx rfl (hb hby d3_4) rfl rfl z_) ?_
  show OWay p e below G T1 (mkF m 5 #[.val (.ref a0)] [(.ref a0), (.long w1)])
  obtain ⟨T2, X2, eT2, st2⟩ := getF X1 hx hZ hown (host := "") (Or.inl (hw _ (List.mem_of_getElem? (i := 11) rfl))) Via.refl eT1 hp1 (g := (mkF m 5 #[.val (.ref a0)] [(.ref a0), (.long w1)])) rfl rfl (hb hby d3_5)
  refine ogo st2 ?_
  show OWay p e below G T2 (mkF m 8 #[.val (.ref a0)] [(.long w2), (.long w1)])
  refine ogo (fun _ z_ => XS.lcmp X2.here hx rfl (hb hby d3_8) rfl z_) ?_
  show OWay p e below G T2 (mkF m 9 #[.val (.ref a0)] [(.int (lcmpW w1 w2))])
  by_cases c9 : w1 < w2
  · refine ogo (fun _ z_ => XS.ifYes X2.here hx rfl (pc0 := 9) (pc' := 16) rfl (hb hby d3_9) rfl ((if0 _ _).trans (tlt ((lw_lt _ _).mpr c9)).1) (by decide) (by decide) z_) ?_
    show OWay p e below G T2 (mkF m 16 #[.val (.ref a0)] [])
    refine ogo (fun _ z_ => XS.iconst X2.here hx rfl (hb hby d3_16) z_) ?_
    show OWay p e below G T2 (mkF m 17 #[.val (.ref a0)] [(.int (0 : Int32))])
    subst hG
    refine wRetN X2 hx (t := .boolean) hret hlk (by simp) (hb hby d3_17) (by decide) (by decide) eT2 ?_
    exact ⟨(congrArg some (congrArg Value.int (show _ = isf w1 w2 from by unfold isf; rw [if_pos c9]; rfl))), N0, rfl⟩
  · refine ogo (fun _ z_ => XS.ifNo X2.here hx rfl (hb hby d3_9) rfl ((if0 _ _).trans (flt (fun q => c9 ((lw_lt _ _).mp q))).1) z_) ?_
    show OWay p e below G T2 (mkF m 12 #[.val (.ref a0)] [])
    refine ogo (fun _ z_ => XS.iconst X2.here hx rfl (hb hby d3_12) z_) ?_
    show OWay p e below G T2 (mkF m 13 #[.val (.ref a0)] [(.int (1 : Int32))])
    refine ogo (fun _ z_ => XS.goto X2.here hx rfl (pc0 := 13) (pc' := 17) rfl (hb hby d3_13) (by decide) (by decide) z_) ?_
    show OWay p e below G T2 (mkF m 17 #[.val (.ref a0)] [(.int (1 : Int32))])
    subst hG
    refine wRetN X2 hx (t := .boolean) hret hlk (by simp) (hb hby d3_17) (by decide) (by decide) eT2 ?_
    exact ⟨(congrArg some (congrArg Value.int (show _ = isf w1 w2 from by unfold isf; rw [if_neg c9]; rfl))), N0, rfl⟩
theorem pn_com_example_sito_sito_SliceIsFullPinLaw : plainName "com/example/sito/sito/SliceIsFullPinLaw" = true := by first | (simp [plainName, overriddenIn]; done) | decide +kernel
theorem pd__JDI_JJ_V : parseMethodDescriptor "(JDI[JJ)V" = some ⟨[.long, .double, .int, (.array .long), .long], none⟩ := by decide +kernel
theorem pd___Z : parseMethodDescriptor "()Z" = some ⟨[], some .boolean⟩ := by decide +kernel
theorem pd__JJ_J : parseMethodDescriptor "(JJ)J" = some ⟨[.long, .long], some .long⟩ := by decide +kernel
theorem pd___J : parseMethodDescriptor "()J" = some ⟨[], some .long⟩ := by decide +kernel
def law_Q (Z : State) (q0 : Int64) (q1 : Int64) (p2 : Int32) (h0 : Heap) (n0 : Nat) (v : Option Value) (h : Heap) (L : List Loc) : Prop := v = some (.int 1) ∧ Fr n0 L
theorem law_ef (m : MethodId) (q0 : Int64) (q1 : Int64) (p2 : Int32) : entryFrame m #[(.long q0), (.long q1), (.int p2)] maxLocals = mkF m 0 #[.val (.long q0), .second, .val (.long q1), .second, .val (.int p2), .unset, .unset, .unset, .unset, .unset, .unset, .unset] [] := by first | (simp [entryFrame, mkF, argsToLocals, Value.category, maxLocals]; done) | rfl
set_option maxRecDepth 65536 in
set_option maxHeartbeats 40000000 in
theorem law_c (l : Launch) (Z : State) (az : Array Value) (hw : ∀ d ∈ tables_1, d.before az Z = true) (ws : List Jvm.Cond) (q0 : Int64) (q1 : Int64) (p2 : Int32) (h0 : Heap) (n0 : Nat) (Z0 : n0 ≤ h0.size) :
    OCon l x code maxLocals ret ws room_1 Z #[(.long q0), (.long q1), (.int p2)] h0 (law_Q Z q0 q1 p2 h0 n0) := by
  refine ocon (plainFor_of_name pn_com_example_sito_sito_SliceIsFullPinLaw) ?_
  intro p e s m below meth c s₁ hx hby hml hown hnm hret hlk hZ X0 eh0
  have N0 := Fr.nil n0
  have K0 := Keep.refl h0 []
  refine ogoE (law_ef m q0 q1 p2) ?_
  generalize hG : (OEnd s below (law_Q Z q0 q1 p2 h0 n0) room_1.cells room_1.slots) = G
  show OWay p e below G s₁ (mkF m 0 #[.val (.long q0), .second, .val (.long q1), .second, .val (.int p2), .unset, .unset, .unset, .unset, .unset, .unset, .unset] [])
  refine ogo (fun _ z_ => XS.iload X0.here hx rfl (hb hby at_0) rfl z_) ?_
  show OWay p e below G s₁ (mkF m 2 #[.val (.long q0), .second, .val (.long q1), .second, .val (.int p2), .unset, .unset, .unset, .unset, .unset, .unset, .unset] [(.int p2)])
  refine ogo (fun _ z_ => XS.iconst X0.here hx rfl (hb hby at_2) z_) ?_
  show OWay p e below G s₁ (mkF m 3 #[.val (.long q0), .second, .val (.long q1), .second, .val (.int p2), .unset, .unset, .unset, .unset, .unset, .unset, .unset] [(.int (4 : Int32)), (.int p2)])
  refine ogo (fun _ z_ => XS.iand X0.here hx rfl (hb hby at_3) rfl z_) ?_
  show OWay p e below G s₁ (mkF m 4 #[.val (.long q0), .second, .val (.long q1), .second, .val (.int p2), .unset, .unset, .unset, .unset, .unset, .unset, .unset] [(.int (p2 &&& (4 : Int32)))])
  have J2 : ∀ (us0_1 : Int64), us0_1 = (if (p2 &&& (4 : Int32)) = (0 : Int32) then (q0 + (((p2 &&& (3 : Int32)).toInt64) - (2 : Int64))) else q1) → OWay p e below G s₁ (mkF m 22 #[.val (.long q0), .second, .val (.long q1), .second, .val (.int p2), .unset, .unset, .unset, .unset, .unset, .unset, .unset] [(.long us0_1)]) := by
    intro us0_1 hus0_1
    refine ogo (fun _ z_ => XS.lstore X0.here hx rfl (hb hby at_22) rfl (l' := #[.val (.long q0), .second, .val (.long q1), .second, .val (.int p2), .val (.long us0_1), .second, .unset, .unset, .unset, .unset, .unset]) rfl z_) ?_
    show OWay p e below G s₁ (mkF m 24 #[.val (.long q0), .second, .val (.long q1), .second, .val (.int p2), .val (.long us0_1), .second, .unset, .unset, .unset, .unset, .unset] [])
    refine ogo (fun _ z_ => XS.iconst X0.here hx rfl (hb hby at_24) z_) ?_
    show OWay p e below G s₁ (mkF m 25 #[.val (.long q0), .second, .val (.long q1), .second, .val (.int p2), .val (.long us0_1), .second, .unset, .unset, .unset, .unset, .unset] [(.int (1 : Int32))])
    refine ogo (fun _ z_ => XS.iload X0.here hx rfl (hb hby at_25) rfl z_) ?_
    show OWay p e below G s₁ (mkF m 27 #[.val (.long q0), .second, .val (.long q1), .second, .val (.int p2), .val (.long us0_1), .second, .unset, .unset, .unset, .unset, .unset] [(.int p2), (.int (1 : Int32))])
    refine ogo (fun _ z_ => XS.iconst X0.here hx rfl (hb hby at_27) z_) ?_
    show OWay p e below G s₁ (mkF m 28 #[.val (.long q0), .second, .val (.long q1), .second, .val (.int p2), .val (.long us0_1), .second, .unset, .unset, .unset, .unset, .unset] [(.int (3 : Int32)), (.int p2), (.int (1 : Int32))])
    refine ogo (fun _ z_ => XS.iushr X0.here hx rfl (hb hby at_28) rfl z_) ?_
    show OWay p e below G s₁ (mkF m 29 #[.val (.long q0), .second, .val (.long q1), .second, .val (.int p2), .val (.long us0_1), .second, .unset, .unset, .unset, .unset, .unset] [(.int ((p2.toUInt32 >>> ((3 : Int32) &&& 31).toUInt32).toInt32)), (.int (1 : Int32))])
    refine ogo (fun _ z_ => XS.bipush X0.here hx rfl (hb hby at_29) z_) ?_
    show OWay p e below G s₁ (mkF m 31 #[.val (.long q0), .second, .val (.long q1), .second, .val (.int p2), .val (.long us0_1), .second, .unset, .unset, .unset, .unset, .unset] [(.int (7 : Int32)), (.int ((p2.toUInt32 >>> ((3 : Int32) &&& 31).toUInt32).toInt32)), (.int (1 : Int32))])
    refine ogo (fun _ z_ => XS.iand X0.here hx rfl (hb hby at_31) rfl z_) ?_
    show OWay p e below G s₁ (mkF m 32 #[.val (.long q0), .second, .val (.long q1), .second, .val (.int p2), .val (.long us0_1), .second, .unset, .unset, .unset, .unset, .unset] [(.int (((p2.toUInt32 >>> ((3 : Int32) &&& 31).toUInt32).toInt32) &&& (7 : Int32))), (.int (1 : Int32))])
    refine ogo (fun _ z_ => XS.iadd X0.here hx rfl (hb hby at_32) rfl z_) ?_
    show OWay p e below G s₁ (mkF m 33 #[.val (.long q0), .second, .val (.long q1), .second, .val (.int p2), .val (.long us0_1), .second, .unset, .unset, .unset, .unset, .unset] [(.int ((1 : Int32) + (((p2.toUInt32 >>> ((3 : Int32) &&& 31).toUInt32).toInt32) &&& (7 : Int32))))])
    suffices Jv7_3 : ∀ v7_3 : Int32, v7_3 = ((1 : Int32) + (((p2.toUInt32 >>> ((3 : Int32) &&& 31).toUInt32).toInt32) &&& (7 : Int32))) → OWay p e below G s₁ (mkF m 33 #[.val (.long q0), .second, .val (.long q1), .second, .val (.int p2), .val (.long us0_1), .second, .unset, .unset, .unset, .unset, .unset] [(.int v7_3)]) from Jv7_3 _ rfl
    intro v7_3 hv7_3
    refine ogo (fun _ z_ => XS.istore X0.here hx rfl (hb hby at_33) rfl (l' := #[.val (.long q0), .second, .val (.long q1), .second, .val (.int p2), .val (.long us0_1), .second, .val (.int v7_3), .unset, .unset, .unset, .unset]) rfl z_) ?_
    show OWay p e below G s₁ (mkF m 35 #[.val (.long q0), .second, .val (.long q1), .second, .val (.int p2), .val (.long us0_1), .second, .val (.int v7_3), .unset, .unset, .unset, .unset] [])
    obtain ⟨T4, h4, X4, eT4, E4, A4, D4, -, st4⟩ := newO X0 hx hZ hown (hw _ (List.mem_of_getElem? (i := 1) rfl)) (hw _ (List.mem_of_getElem? (i := 2) rfl)) (hw _ (List.mem_of_getElem? (i := 3) rfl)) eh0 (g := (mkF m 35 #[.val (.long q0), .second, .val (.long q1), .second, .val (.int p2), .val (.long us0_1), .second, .val (.int v7_3), .unset, .unset, .unset, .unset] [])) rfl (hb hby at_35) (by decide) (by decide)
    obtain ⟨b4, g4⟩ : ∃ z, z = h0.size := ⟨_, rfl⟩
    rw [← g4] at A4 D4 st4
    have g_b4 : n0 ≤ b4 := Nat.le_trans Z0 (Nat.le_of_eq g4.symm)
    have sz_b4 : h0.size ≤ b4 := Nat.le_trans K0.1 (Nat.le_of_eq g4.symm)
    have K5 : Keep h0 h4 [] := K0.ext E4
    have F_capacity_b4 : Fld Z h4 b4 "com/example/sito/sito/Slice" "capacity" "J" (.long (0 : Int64)) := D4 (Or.inr (hw _ (List.mem_of_getElem? (i := 12) rfl))) (ty := .long) (by decide)
    have F_bound_b4 : Fld Z h4 b4 "com/example/sito/sito/Slice" "bound" "D" (.double (0 : UInt64)) := D4 (Or.inr (hw _ (List.mem_of_getElem? (i := 14) rfl))) (ty := .double) (by decide)
    have F_hashCount_b4 : Fld Z h4 b4 "com/example/sito/sito/Slice" "hashCount" "I" (.int (0 : Int32)) := D4 (Or.inr (hw _ (List.mem_of_getElem? (i := 16) rfl))) (ty := .int) (by decide)
    have F_bitCount_b4 : Fld Z h4 b4 "com/example/sito/sito/Slice" "bitCount" "J" (.long (0 : Int64)) := D4 (Or.inr (hw _ (List.mem_of_getElem? (i := 19) rfl))) (ty := .long) (by decide)
    have F_words_b4 : Fld Z h4 b4 "com/example/sito/sito/Slice" "words" "[J" .null := D4 (Or.inr (hw _ (List.mem_of_getElem? (i := 21) rfl))) (ty := (.array .long)) (by decide)
    have F_items_b4 : Fld Z h4 b4 "com/example/sito/sito/Slice" "items" "J" (.long (0 : Int64)) := D4 (Or.inl (hw _ (List.mem_of_getElem? (i := 23) rfl))) (ty := .long) (by decide)
    refine ogo st4 ?_
    show OWay p e below G T4 (mkF m 38 #[.val (.long q0), .second, .val (.long q1), .second, .val (.int p2), .val (.long us0_1), .second, .val (.int v7_3), .unset, .unset, .unset, .unset] [(.ref b4)])
    refine ogo (fun _ z_ => XS.dup X4.here hx rfl (hb hby at_38) rfl rfl z_) ?_
    show OWay p e below G T4 (mkF m 39 #[.val (.long q0), .second, .val (.long q1), .second, .val (.int p2), .val (.long us0_1), .second, .val (.int v7_3), .unset, .unset, .unset, .unset] [(.ref b4), (.ref b4)])
    refine ogo (fun _ z_ => XS.lloadN X4.here hx rfl (hb hby at_39) rfl z_) ?_
    show OWay p e below G T4 (mkF m 40 #[.val (.long q0), .second, .val (.long q1), .second, .val (.int p2), .val (.long us0_1), .second, .val (.int v7_3), .unset, .unset, .unset, .unset] [(.long q0), (.ref b4), (.ref b4)])
    refine ogo (fun _ z_ => XS.dconst1 X4.here hx rfl (hb hby at_40) rfl z_) ?_
    show OWay p e below G T4 (mkF m 41 #[.val (.long q0), .second, .val (.long q1), .second, .val (.int p2), .val (.long us0_1), .second, .val (.int v7_3), .unset, .unset, .unset, .unset] [(.double FP.dconst1), (.long q0), (.ref b4), (.ref b4)])
    refine ogo (fun _ z_ => XS.iload X4.here hx rfl (hb hby at_41) rfl z_) ?_
    show OWay p e below G T4 (mkF m 43 #[.val (.long q0), .second, .val (.long q1), .second, .val (.int p2), .val (.long us0_1), .second, .val (.int v7_3), .unset, .unset, .unset, .unset] [(.int v7_3), (.double FP.dconst1), (.long q0), (.ref b4), (.ref b4)])
    refine ogo (fun _ z_ => XS.iconst X4.here hx rfl (hb hby at_43) z_) ?_
    show OWay p e below G T4 (mkF m 44 #[.val (.long q0), .second, .val (.long q1), .second, .val (.int p2), .val (.long us0_1), .second, .val (.int v7_3), .unset, .unset, .unset, .unset] [(.int (1 : Int32)), (.int v7_3), (.double FP.dconst1), (.long q0), (.ref b4), (.ref b4)])
    obtain ⟨T6, h6, k6, X6, eT6, E6, A6, st6⟩ := newP X4 hx hZ (hw _ (List.mem_of_getElem? (i := 4) rfl)) eT4 (g := (mkF m 44 #[.val (.long q0), .second, .val (.long q1), .second, .val (.int p2), .val (.long us0_1), .second, .val (.int v7_3), .unset, .unset, .unset, .unset] [(.int (1 : Int32)), (.int v7_3), (.double FP.dconst1), (.long q0), (.ref b4), (.ref b4)])) rfl (hb hby at_44) rfl (by decide) (cap := 1) (by decide) (by decide) (by decide) (by decide)
    obtain ⟨b6, g6⟩ : ∃ z, z = h4.size := ⟨_, rfl⟩
    rw [← g6] at A6 st6
    have g_b6 : n0 ≤ b6 := Nat.le_trans (Nat.le_trans Z0 E4.1) (Nat.le_of_eq g6.symm)
    have sz_b6 : h0.size ≤ b6 := Nat.le_trans K5.1 (Nat.le_of_eq g6.symm)
    have K7 : Keep h0 h6 [] := K5.ext E6
    have V_b6 : Arv Z h6 b6 k6 .long (1 : Int32) [(.long (0 : Int64))] (.long (0 : Int64)) := (Arv.new A6 (by decide)).pad (pad_rep [] (.long (0 : Int64)) 1)
    refine ogo st6 ?_
    show OWay p e below G T6 (mkF m 46 #[.val (.long q0), .second, .val (.long q1), .second, .val (.int p2), .val (.long us0_1), .second, .val (.int v7_3), .unset, .unset, .unset, .unset] [(.ref b6), (.int v7_3), (.double FP.dconst1), (.long q0), (.ref b4), (.ref b4)])
    refine ogo (fun _ z_ => XS.lload X6.here hx rfl (hb hby at_46) rfl z_) ?_
    show OWay p e below G T6 (mkF m 48 #[.val (.long q0), .second, .val (.long q1), .second, .val (.int p2), .val (.long us0_1), .second, .val (.int v7_3), .unset, .unset, .unset, .unset] [(.long us0_1), (.ref b6), (.int v7_3), (.double FP.dconst1), (.long q0), (.ref b4), (.ref b4)])
    have F8 : Exa Z h6 b4 "com/example/sito/sito/Slice" := (A4.ext E6)
    have F9 : Fld Z h6 b4 "com/example/sito/sito/Slice" "capacity" "J" (.long (0 : Int64)) := (F_capacity_b4.ext E6)
    have F10 : Fld Z h6 b4 "com/example/sito/sito/Slice" "bound" "D" (.double (0 : UInt64)) := (F_bound_b4.ext E6)
    have F11 : Fld Z h6 b4 "com/example/sito/sito/Slice" "hashCount" "I" (.int (0 : Int32)) := (F_hashCount_b4.ext E6)
    have F12 : Fld Z h6 b4 "com/example/sito/sito/Slice" "bitCount" "J" (.long (0 : Int64)) := (F_bitCount_b4.ext E6)
    have F13 : Fld Z h6 b4 "com/example/sito/sito/Slice" "words" "[J" .null := (F_words_b4.ext E6)
    have F14 : Fld Z h6 b4 "com/example/sito/sito/Slice" "items" "J" (.long (0 : Int64)) := (F_items_b4.ext E6)
    obtain ⟨_, T15, L15, X15, hQ15, st15⟩ := wInit X6 hx hZ (y := (⟨"com/example/sito/sito/Slice", "<init>", "(JDI[JJ)V"⟩ : MethodName)) rfl hown (hw _ (List.mem_of_getElem? (i := 5) rfl)) (hw _ (List.mem_of_getElem? (i := 6) rfl)) (hw _ (List.mem_of_getElem? (i := 3) rfl)) (hw _ (List.mem_of_getElem? (i := 7) rfl)) (by decide) (ctor1_c l Z az hw [] b4 q0 FP.dconst1 v7_3 b6 us0_1 k6 (1 : Int32) (.long (0 : Int64)) h6 n0 (Nat.le_trans (Nat.le_trans Z0 E4.1) E6.1) V_b6 (Ne.symm (Nat.ne_of_lt (Nat.lt_of_lt_of_le A4.lt (Nat.le_of_eq g6.symm)))) F8 g_b4 F9 F10 F11 F12 F13 F14) 1 (by decide) (by decide) (g := (mkF m 48 #[.val (.long q0), .second, .val (.long q1), .second, .val (.int p2), .val (.long us0_1), .second, .val (.int v7_3), .unset, .unset, .unset, .unset] [(.long us0_1), (.ref b6), (.int v7_3), (.double FP.dconst1), (.long q0), (.ref b4), (.ref b4)])) rfl (by rw [hml]; rfl) (a := b4) (argsL := [(.long q0), (.double FP.dconst1), (.int v7_3), (.ref b6), (.long us0_1)]) (rest := [(.ref b4)]) (lenOf pd__JDI_JJ_V rfl) rfl (by show 2 * 0 + _ ≤ _; exact Nat.le_of_eq rfl) (hb hby at_48) rfl eT6 (by decide) (by decide)
    obtain ⟨rfl, N15q, Kq15, P16, P17, P18, P19, P20, P21⟩ := hQ15
    have N15 := Fr.app N0 N15q
    have K22 : Keep h0 T15.heap [] := K7.trans Kq15 (allS (Or.inr sz_b4) all0)
    refine ogoS st15 ?_
    show OWay p e below G T15 (mkF m 51 #[.val (.long q0), .second, .val (.long q1), .second, .val (.int p2), .val (.long us0_1), .second, .val (.int v7_3), .unset, .unset, .unset, .unset] [(.ref b4)])
    refine ogo (fun _ z_ => XS.astore X15.here hx rfl (hb hby at_51) rfl rfl (l' := #[.val (.long q0), .second, .val (.long q1), .second, .val (.int p2), .val (.long us0_1), .second, .val (.int v7_3), .val (.ref b4), .unset, .unset, .unset]) rfl z_) ?_
    show OWay p e below G T15 (mkF m 53 #[.val (.long q0), .second, .val (.long q1), .second, .val (.int p2), .val (.long us0_1), .second, .val (.int v7_3), .val (.ref b4), .unset, .unset, .unset] [])
    refine ogo (fun _ z_ => XS.aload X15.here hx rfl (hb hby at_53) rfl rfl z_) ?_
    show OWay p e below G T15 (mkF m 55 #[.val (.long q0), .second, .val (.long q1), .second, .val (.int p2), .val (.long us0_1), .second, .val (.int v7_3), .val (.ref b4), .unset, .unset, .unset] [(.ref b4)])
    have F24 : Exa Z T15.heap b4 "com/example/sito/sito/Slice" := (F8.keep Kq15)
    obtain ⟨_, T23, L23, X23, hQ23, st23⟩ := wVirtual X15 hx hZ (y := (⟨"com/example/sito/sito/Slice", "isFull", "()Z"⟩ : MethodName)) (z := (⟨"com/example/sito/sito/Slice", "isFull", "()Z"⟩ : MethodName)) hown (hw _ (List.mem_of_getElem? (i := 24) rfl)) (hw _ (List.mem_of_getElem? (i := 25) rfl)) (notFace_of_selects (args := #[]) (mvT hZ (hw _ (List.mem_of_getElem? (i := 27) rfl)))) (hw _ (List.mem_of_getElem? (i := 27) rfl)) (hw _ (List.mem_of_getElem? (i := 26) rfl)) (hw _ (List.mem_of_getElem? (i := 3) rfl)) (hw _ (List.mem_of_getElem? (i := 28) rfl)) (by decide) (isf_b_c l Z az hw [] b4 us0_1 q0 T15.heap n0 (Nat.le_trans (Nat.le_trans (Nat.le_trans Z0 E4.1) E6.1) Kq15.1) P21 P16) 0 (by decide) (by decide) F24 (g := (mkF m 55 #[.val (.long q0), .second, .val (.long q1), .second, .val (.int p2), .val (.long us0_1), .second, .val (.int v7_3), .val (.ref b4), .unset, .unset, .unset] [(.ref b4)])) rfl (by rw [hml]; rfl) (argsL := []) (rest := []) (lenOf pd___Z rfl) rfl (by show 2 * 0 + _ ≤ _; exact Nat.le_of_eq rfl) (hb hby at_55) rfl rfl (by decide) (by decide)
    obtain ⟨rfl, N23q, eq23⟩ := hQ23
    have N23 := Fr.app N15 N23q
    refine ogoS st23 ?_
    show OWay p e below G T23 (mkF m 58 #[.val (.long q0), .second, .val (.long q1), .second, .val (.int p2), .val (.long us0_1), .second, .val (.int v7_3), .val (.ref b4), .unset, .unset, .unset] [(.int (isf us0_1 q0))])
    suffices Jv9_25 : ∀ v9_25 : Int32, v9_25 = (isf us0_1 q0) → OWay p e below G T23 (mkF m 58 #[.val (.long q0), .second, .val (.long q1), .second, .val (.int p2), .val (.long us0_1), .second, .val (.int v7_3), .val (.ref b4), .unset, .unset, .unset] [(.int v9_25)]) from Jv9_25 _ rfl
    intro v9_25 hv9_25
    refine ogo (fun _ z_ => XS.istore X23.here hx rfl (hb hby at_58) rfl (l' := #[.val (.long q0), .second, .val (.long q1), .second, .val (.int p2), .val (.long us0_1), .second, .val (.int v7_3), .val (.ref b4), .val (.int v9_25), .unset, .unset]) rfl z_) ?_
    show OWay p e below G T23 (mkF m 60 #[.val (.long q0), .second, .val (.long q1), .second, .val (.int p2), .val (.long us0_1), .second, .val (.int v7_3), .val (.ref b4), .val (.int v9_25), .unset, .unset] [])
    refine ogo (fun _ z_ => XS.lload X23.here hx rfl (hb hby at_60) rfl z_) ?_
    show OWay p e below G T23 (mkF m 62 #[.val (.long q0), .second, .val (.long q1), .second, .val (.int p2), .val (.long us0_1), .second, .val (.int v7_3), .val (.ref b4), .val (.int v9_25), .unset, .unset] [(.long us0_1)])
    refine ogo (fun _ z_ => XS.lloadN X23.here hx rfl (hb hby at_62) rfl z_) ?_
    show OWay p e below G T23 (mkF m 63 #[.val (.long q0), .second, .val (.long q1), .second, .val (.int p2), .val (.long us0_1), .second, .val (.int v7_3), .val (.ref b4), .val (.int v9_25), .unset, .unset] [(.long q0), (.long us0_1)])
    obtain ⟨_, T26, L26, X26, hQ26, st26⟩ := wStatic X23 hx hZ (y := (⟨"java/lang/Math", "max", "(JJ)J"⟩ : MethodName)) hown (hw _ (List.mem_of_getElem? (i := 29) rfl)) (hw _ (List.mem_of_getElem? (i := 30) rfl)) (hw _ (List.mem_of_getElem? (i := 31) rfl)) (hw _ (List.mem_of_getElem? (i := 32) rfl)) (by decide) (lmax_b_c l Z az hw [] us0_1 q0 T15.heap n0 (Nat.le_trans (Nat.le_trans (Nat.le_trans Z0 E4.1) E6.1) Kq15.1)) 0 (by decide) (by decide) (g := (mkF m 63 #[.val (.long q0), .second, .val (.long q1), .second, .val (.int p2), .val (.long us0_1), .second, .val (.int v7_3), .val (.ref b4), .val (.int v9_25), .unset, .unset] [(.long q0), (.long us0_1)])) rfl (by rw [hml]; rfl) (argsL := [(.long us0_1), (.long q0)]) (rest := []) (lenOf pd__JJ_J rfl) rfl (by show 2 * 0 + _ ≤ _; exact Nat.le_of_eq rfl) (hb hby at_63) rfl eq23 (by decide) (by decide)
    obtain ⟨rfl, N26q, eq26⟩ := hQ26
    have N26 := Fr.app N23 N26q
    refine ogo st26 ?_
    show OWay p e below G T26 (mkF m 66 #[.val (.long q0), .second, .val (.long q1), .second, .val (.int p2), .val (.long us0_1), .second, .val (.int v7_3), .val (.ref b4), .val (.int v9_25), .unset, .unset] [(.long (lmax us0_1 q0))])
    refine ogo (fun _ z_ => XS.lload X26.here hx rfl (hb hby at_66) rfl z_) ?_
    show OWay p e below G T26 (mkF m 68 #[.val (.long q0), .second, .val (.long q1), .second, .val (.int p2), .val (.long us0_1), .second, .val (.int v7_3), .val (.ref b4), .val (.int v9_25), .unset, .unset] [(.long us0_1), (.long (lmax us0_1 q0))])
    refine ogo (fun _ z_ => XS.lcmp X26.here hx rfl (hb hby at_68) rfl z_) ?_
    show OWay p e below G T26 (mkF m 69 #[.val (.long q0), .second, .val (.long q1), .second, .val (.int p2), .val (.long us0_1), .second, .val (.int v7_3), .val (.ref b4), .val (.int v9_25), .unset, .unset] [(.int (lcmpW (lmax us0_1 q0) us0_1))])
    have J28 : ∀ (us0_27 : Int32), us0_27 = (if (lmax us0_1 q0) = us0_1 then (1 : Int32) else (0 : Int32)) → OWay p e below G T26 (mkF m 77 #[.val (.long q0), .second, .val (.long q1), .second, .val (.int p2), .val (.long us0_1), .second, .val (.int v7_3), .val (.ref b4), .val (.int v9_25), .unset, .unset] [(.int us0_27)]) := by
      intro us0_27 hus0_27
      refine ogo (fun _ z_ => XS.istore X26.here hx rfl (hb hby at_77) rfl (l' := #[.val (.long q0), .second, .val (.long q1), .second, .val (.int p2), .val (.long us0_1), .second, .val (.int v7_3), .val (.ref b4), .val (.int v9_25), .val (.int us0_27), .unset]) rfl z_) ?_
      show OWay p e below G T26 (mkF m 79 #[.val (.long q0), .second, .val (.long q1), .second, .val (.int p2), .val (.long us0_1), .second, .val (.int v7_3), .val (.ref b4), .val (.int v9_25), .val (.int us0_27), .unset] [])
      refine ogo (fun _ z_ => XS.aload X26.here hx rfl (hb hby at_79) rfl rfl z_) ?_
      show OWay p e below G T26 (mkF m 81 #[.val (.long q0), .second, .val (.long q1), .second, .val (.int p2), .val (.long us0_1), .second, .val (.int v7_3), .val (.ref b4), .val (.int v9_25), .val (.int us0_27), .unset] [(.ref b4)])
      obtain ⟨_, T29, L29, X29, hQ29, st29⟩ := wVirtual X26 hx hZ (y := (⟨"com/example/sito/sito/Slice", "isFull", "()Z"⟩ : MethodName)) (z := (⟨"com/example/sito/sito/Slice", "isFull", "()Z"⟩ : MethodName)) hown (hw _ (List.mem_of_getElem? (i := 24) rfl)) (hw _ (List.mem_of_getElem? (i := 25) rfl)) (notFace_of_selects (args := #[]) (mvT hZ (hw _ (List.mem_of_getElem? (i := 27) rfl)))) (hw _ (List.mem_of_getElem? (i := 27) rfl)) (hw _ (List.mem_of_getElem? (i := 26) rfl)) (hw _ (List.mem_of_getElem? (i := 3) rfl)) (hw _ (List.mem_of_getElem? (i := 28) rfl)) (by decide) (isf_b_c l Z az hw [] b4 us0_1 q0 T15.heap n0 (Nat.le_trans (Nat.le_trans (Nat.le_trans Z0 E4.1) E6.1) Kq15.1) P21 P16) 0 (by decide) (by decide) F24 (g := (mkF m 81 #[.val (.long q0), .second, .val (.long q1), .second, .val (.int p2), .val (.long us0_1), .second, .val (.int v7_3), .val (.ref b4), .val (.int v9_25), .val (.int us0_27), .unset] [(.ref b4)])) rfl (by rw [hml]; rfl) (argsL := []) (rest := []) (lenOf pd___Z rfl) rfl (by show 2 * 0 + _ ≤ _; exact Nat.le_of_eq rfl) (hb hby at_81) rfl eq26 (by decide) (by decide)
      obtain ⟨rfl, N29q, eq29⟩ := hQ29
      have N29 := Fr.app N26 N29q
      refine ogoS st29 ?_
      show OWay p e below G T29 (mkF m 84 #[.val (.long q0), .second, .val (.long q1), .second, .val (.int p2), .val (.long us0_1), .second, .val (.int v7_3), .val (.ref b4), .val (.int v9_25), .val (.int us0_27), .unset] [(.int (isf us0_1 q0))])
      suffices Jv11_30 : ∀ v11_30 : Int32, v11_30 = (isf us0_1 q0) → OWay p e below G T29 (mkF m 84 #[.val (.long q0), .second, .val (.long q1), .second, .val (.int p2), .val (.long us0_1), .second, .val (.int v7_3), .val (.ref b4), .val (.int v9_25), .val (.int us0_27), .unset] [(.int v11_30)]) from Jv11_30 _ rfl
      intro v11_30 hv11_30
      refine ogo (fun _ z_ => XS.istore X29.here hx rfl (hb hby at_84) rfl (l' := #[.val (.long q0), .second, .val (.long q1), .second, .val (.int p2), .val (.long us0_1), .second, .val (.int v7_3), .val (.ref b4), .val (.int v9_25), .val (.int us0_27), .val (.int v11_30)]) rfl z_) ?_
      show OWay p e below G T29 (mkF m 86 #[.val (.long q0), .second, .val (.long q1), .second, .val (.int p2), .val (.long us0_1), .second, .val (.int v7_3), .val (.ref b4), .val (.int v9_25), .val (.int us0_27), .val (.int v11_30)] [])
      refine ogo (fun _ z_ => XS.iload X29.here hx rfl (hb hby at_86) rfl z_) ?_
      show OWay p e below G T29 (mkF m 88 #[.val (.long q0), .second, .val (.long q1), .second, .val (.int p2), .val (.long us0_1), .second, .val (.int v7_3), .val (.ref b4), .val (.int v9_25), .val (.int us0_27), .val (.int v11_30)] [(.int v9_25)])
      refine ogo (fun _ z_ => XS.iload X29.here hx rfl (hb hby at_88) rfl z_) ?_
      show OWay p e below G T29 (mkF m 90 #[.val (.long q0), .second, .val (.long q1), .second, .val (.int p2), .val (.long us0_1), .second, .val (.int v7_3), .val (.ref b4), .val (.int v9_25), .val (.int us0_27), .val (.int v11_30)] [(.int us0_27), (.int v9_25)])
      refine ogo (fun _ z_ => XS.icmpNo X29.here hx rfl (hb hby at_90) rfl (teq (by rw [hv9_25, hus0_27]; exact own_law _ _)).2 z_) ?_
      show OWay p e below G T29 (mkF m 93 #[.val (.long q0), .second, .val (.long q1), .second, .val (.int p2), .val (.long us0_1), .second, .val (.int v7_3), .val (.ref b4), .val (.int v9_25), .val (.int us0_27), .val (.int v11_30)] [])
      refine ogo (fun _ z_ => XS.iload X29.here hx rfl (hb hby at_93) rfl z_) ?_
      show OWay p e below G T29 (mkF m 95 #[.val (.long q0), .second, .val (.long q1), .second, .val (.int p2), .val (.long us0_1), .second, .val (.int v7_3), .val (.ref b4), .val (.int v9_25), .val (.int us0_27), .val (.int v11_30)] [(.int v11_30)])
      refine ogo (fun _ z_ => XS.iload X29.here hx rfl (hb hby at_95) rfl z_) ?_
      show OWay p e below G T29 (mkF m 97 #[.val (.long q0), .second, .val (.long q1), .second, .val (.int p2), .val (.long us0_1), .second, .val (.int v7_3), .val (.ref b4), .val (.int v9_25), .val (.int us0_27), .val (.int v11_30)] [(.int v9_25), (.int v11_30)])
      refine ogo (fun _ z_ => XS.icmpNo X29.here hx rfl (hb hby at_97) rfl (teq (by rw [hv11_30, hv9_25])).2 z_) ?_
      show OWay p e below G T29 (mkF m 100 #[.val (.long q0), .second, .val (.long q1), .second, .val (.int p2), .val (.long us0_1), .second, .val (.int v7_3), .val (.ref b4), .val (.int v9_25), .val (.int us0_27), .val (.int v11_30)] [])
      refine ogo (fun _ z_ => XS.aload X29.here hx rfl (hb hby at_100) rfl rfl z_) ?_
      show OWay p e below G T29 (mkF m 102 #[.val (.long q0), .second, .val (.long q1), .second, .val (.int p2), .val (.long us0_1), .second, .val (.int v7_3), .val (.ref b4), .val (.int v9_25), .val (.int us0_27), .val (.int v11_30)] [(.ref b4)])
      obtain ⟨_, T31, L31, X31, hQ31, st31⟩ := wVirtual X29 hx hZ (y := (⟨"com/example/sito/sito/Slice", "getItems", "()J"⟩ : MethodName)) (z := (⟨"com/example/sito/sito/Slice", "getItems", "()J"⟩ : MethodName)) hown (hw _ (List.mem_of_getElem? (i := 33) rfl)) (hw _ (List.mem_of_getElem? (i := 34) rfl)) (notFace_of_selects (args := #[]) (mvT hZ (hw _ (List.mem_of_getElem? (i := 36) rfl)))) (hw _ (List.mem_of_getElem? (i := 36) rfl)) (hw _ (List.mem_of_getElem? (i := 35) rfl)) (hw _ (List.mem_of_getElem? (i := 3) rfl)) (hw _ (List.mem_of_getElem? (i := 37) rfl)) (by decide) (get5_c l Z az hw [] b4 us0_1 T15.heap n0 (Nat.le_trans (Nat.le_trans (Nat.le_trans Z0 E4.1) E6.1) Kq15.1) P21) 0 (by decide) (by decide) F24 (g := (mkF m 102 #[.val (.long q0), .second, .val (.long q1), .second, .val (.int p2), .val (.long us0_1), .second, .val (.int v7_3), .val (.ref b4), .val (.int v9_25), .val (.int us0_27), .val (.int v11_30)] [(.ref b4)])) rfl (by rw [hml]; rfl) (argsL := []) (rest := []) (lenOf pd___J rfl) rfl (by show 2 * 0 + _ ≤ _; exact Nat.le_of_eq rfl) (hb hby at_102) rfl eq29 (by decide) (by decide)
      obtain ⟨rfl, N31q, eq31⟩ := hQ31
      have N31 := Fr.app N29 N31q
      refine ogoS st31 ?_
      show OWay p e below G T31 (mkF m 105 #[.val (.long q0), .second, .val (.long q1), .second, .val (.int p2), .val (.long us0_1), .second, .val (.int v7_3), .val (.ref b4), .val (.int v9_25), .val (.int us0_27), .val (.int v11_30)] [(.long us0_1)])
      refine ogo (fun _ z_ => XS.lload X31.here hx rfl (hb hby at_105) rfl z_) ?_
      show OWay p e below G T31 (mkF m 107 #[.val (.long q0), .second, .val (.long q1), .second, .val (.int p2), .val (.long us0_1), .second, .val (.int v7_3), .val (.ref b4), .val (.int v9_25), .val (.int us0_27), .val (.int v11_30)] [(.long us0_1), (.long us0_1)])
      refine ogo (fun _ z_ => XS.lcmp X31.here hx rfl (hb hby at_107) rfl z_) ?_
      show OWay p e below G T31 (mkF m 108 #[.val (.long q0), .second, .val (.long q1), .second, .val (.int p2), .val (.long us0_1), .second, .val (.int v7_3), .val (.ref b4), .val (.int v9_25), .val (.int us0_27), .val (.int v11_30)] [(.int (lcmpW us0_1 us0_1))])
      refine ogo (fun _ z_ => XS.ifNo X31.here hx rfl (hb hby at_108) rfl ((if0 _ _).trans (teq ((lw_eq _ _).mpr rfl)).2) z_) ?_
      show OWay p e below G T31 (mkF m 111 #[.val (.long q0), .second, .val (.long q1), .second, .val (.int p2), .val (.long us0_1), .second, .val (.int v7_3), .val (.ref b4), .val (.int v9_25), .val (.int us0_27), .val (.int v11_30)] [])
      refine ogo (fun _ z_ => XS.aload X31.here hx rfl (hb hby at_111) rfl rfl z_) ?_
      show OWay p e below G T31 (mkF m 113 #[.val (.long q0), .second, .val (.long q1), .second, .val (.int p2), .val (.long us0_1), .second, .val (.int v7_3), .val (.ref b4), .val (.int v9_25), .val (.int us0_27), .val (.int v11_30)] [(.ref b4)])
      obtain ⟨_, T32, L32, X32, hQ32, st32⟩ := wVirtual X31 hx hZ (y := (⟨"com/example/sito/sito/Slice", "getCapacity", "()J"⟩ : MethodName)) (z := (⟨"com/example/sito/sito/Slice", "getCapacity", "()J"⟩ : MethodName)) hown (hw _ (List.mem_of_getElem? (i := 38) rfl)) (hw _ (List.mem_of_getElem? (i := 39) rfl)) (notFace_of_selects (args := #[]) (mvT hZ (hw _ (List.mem_of_getElem? (i := 41) rfl)))) (hw _ (List.mem_of_getElem? (i := 41) rfl)) (hw _ (List.mem_of_getElem? (i := 40) rfl)) (hw _ (List.mem_of_getElem? (i := 3) rfl)) (hw _ (List.mem_of_getElem? (i := 42) rfl)) (by decide) (get6_c l Z az hw [] b4 q0 T15.heap n0 (Nat.le_trans (Nat.le_trans (Nat.le_trans Z0 E4.1) E6.1) Kq15.1) P16) 0 (by decide) (by decide) F24 (g := (mkF m 113 #[.val (.long q0), .second, .val (.long q1), .second, .val (.int p2), .val (.long us0_1), .second, .val (.int v7_3), .val (.ref b4), .val (.int v9_25), .val (.int us0_27), .val (.int v11_30)] [(.ref b4)])) rfl (by rw [hml]; rfl) (argsL := []) (rest := []) (lenOf pd___J rfl) rfl (by show 2 * 0 + _ ≤ _; exact Nat.le_of_eq rfl) (hb hby at_113) rfl eq31 (by decide) (by decide)
      obtain ⟨rfl, N32q, eq32⟩ := hQ32
      have N32 := Fr.app N31 N32q
      refine ogoS st32 ?_
      show OWay p e below G T32 (mkF m 116 #[.val (.long q0), .second, .val (.long q1), .second, .val (.int p2), .val (.long us0_1), .second, .val (.int v7_3), .val (.ref b4), .val (.int v9_25), .val (.int us0_27), .val (.int v11_30)] [(.long q0)])
      refine ogo (fun _ z_ => XS.lloadN X32.here hx rfl (hb hby at_116) rfl z_) ?_
      show OWay p e below G T32 (mkF m 117 #[.val (.long q0), .second, .val (.long q1), .second, .val (.int p2), .val (.long us0_1), .second, .val (.int v7_3), .val (.ref b4), .val (.int v9_25), .val (.int us0_27), .val (.int v11_30)] [(.long q0), (.long q0)])
      refine ogo (fun _ z_ => XS.lcmp X32.here hx rfl (hb hby at_117) rfl z_) ?_
      show OWay p e below G T32 (mkF m 118 #[.val (.long q0), .second, .val (.long q1), .second, .val (.int p2), .val (.long us0_1), .second, .val (.int v7_3), .val (.ref b4), .val (.int v9_25), .val (.int us0_27), .val (.int v11_30)] [(.int (lcmpW q0 q0))])
      refine ogo (fun _ z_ => XS.ifNo X32.here hx rfl (hb hby at_118) rfl ((if0 _ _).trans (teq ((lw_eq _ _).mpr rfl)).2) z_) ?_
      show OWay p e below G T32 (mkF m 121 #[.val (.long q0), .second, .val (.long q1), .second, .val (.int p2), .val (.long us0_1), .second, .val (.int v7_3), .val (.ref b4), .val (.int v9_25), .val (.int us0_27), .val (.int v11_30)] [])
      refine ogo (fun _ z_ => XS.iconst X32.here hx rfl (hb hby at_121) z_) ?_
      show OWay p e below G T32 (mkF m 122 #[.val (.long q0), .second, .val (.long q1), .second, .val (.int p2), .val (.long us0_1), .second, .val (.int v7_3), .val (.ref b4), .val (.int v9_25), .val (.int us0_27), .val (.int v11_30)] [(.int (1 : Int32))])
      refine ogo (fun _ z_ => XS.goto X32.here hx rfl (pc0 := 122) (pc' := 126) rfl (hb hby at_122) (by decide) (by decide) z_) ?_
      show OWay p e below G T32 (mkF m 126 #[.val (.long q0), .second, .val (.long q1), .second, .val (.int p2), .val (.long us0_1), .second, .val (.int v7_3), .val (.ref b4), .val (.int v9_25), .val (.int us0_27), .val (.int v11_30)] [(.int (1 : Int32))])
      subst hG
      refine wRetN X32 hx (t := .boolean) hret hlk (by simp) (hb hby at_126) (by decide) (by decide) eq32 ?_
      exact ⟨rfl, N32⟩
    by_cases c69 : (lmax us0_1 q0) = us0_1
    · refine ogo (fun _ z_ => XS.ifNo X26.here hx rfl (hb hby at_69) rfl ((if0 _ _).trans (teq ((lw_eq _ _).mpr c69)).2) z_) ?_
      show OWay p e below G T26 (mkF m 72 #[.val (.long q0), .second, .val (.long q1), .second, .val (.int p2), .val (.long us0_1), .second, .val (.int v7_3), .val (.ref b4), .val (.int v9_25), .unset, .unset] [])
      refine ogo (fun _ z_ => XS.iconst X26.here hx rfl (hb hby at_72) z_) ?_
      show OWay p e below G T26 (mkF m 73 #[.val (.long q0), .second, .val (.long q1), .second, .val (.int p2), .val (.long us0_1), .second, .val (.int v7_3), .val (.ref b4), .val (.int v9_25), .unset, .unset] [(.int (1 : Int32))])
      refine ogo (fun _ z_ => XS.goto X26.here hx rfl (pc0 := 73) (pc' := 77) rfl (hb hby at_73) (by decide) (by decide) z_) ?_
      show OWay p e below G T26 (mkF m 77 #[.val (.long q0), .second, .val (.long q1), .second, .val (.int p2), .val (.long us0_1), .second, .val (.int v7_3), .val (.ref b4), .val (.int v9_25), .unset, .unset] [(.int (1 : Int32))])
      exact J28 _ ((if_pos c69).trans rfl).symm
    · refine ogo (fun _ z_ => XS.ifYes X26.here hx rfl (pc0 := 69) (pc' := 76) rfl (hb hby at_69) rfl ((if0 _ _).trans (feq (fun q => c69 ((lw_eq _ _).mp q))).2) (by decide) (by decide) z_) ?_
      show OWay p e below G T26 (mkF m 76 #[.val (.long q0), .second, .val (.long q1), .second, .val (.int p2), .val (.long us0_1), .second, .val (.int v7_3), .val (.ref b4), .val (.int v9_25), .unset, .unset] [])
      refine ogo (fun _ z_ => XS.iconst X26.here hx rfl (hb hby at_76) z_) ?_
      show OWay p e below G T26 (mkF m 77 #[.val (.long q0), .second, .val (.long q1), .second, .val (.int p2), .val (.long us0_1), .second, .val (.int v7_3), .val (.ref b4), .val (.int v9_25), .unset, .unset] [(.int (0 : Int32))])
      exact J28 _ ((if_neg c69).trans rfl).symm
  by_cases c4 : (p2 &&& (4 : Int32)) = (0 : Int32)
  · refine ogo (fun _ z_ => XS.ifYes X0.here hx rfl (pc0 := 4) (pc' := 11) rfl (hb hby at_4) rfl ((if0 _ _).trans (teq c4).1) (by decide) (by decide) z_) ?_
    show OWay p e below G s₁ (mkF m 11 #[.val (.long q0), .second, .val (.long q1), .second, .val (.int p2), .unset, .unset, .unset, .unset, .unset, .unset, .unset] [])
    refine ogo (fun _ z_ => XS.lloadN X0.here hx rfl (hb hby at_11) rfl z_) ?_
    show OWay p e below G s₁ (mkF m 12 #[.val (.long q0), .second, .val (.long q1), .second, .val (.int p2), .unset, .unset, .unset, .unset, .unset, .unset, .unset] [(.long q0)])
    refine ogo (fun _ z_ => XS.iload X0.here hx rfl (hb hby at_12) rfl z_) ?_
    show OWay p e below G s₁ (mkF m 14 #[.val (.long q0), .second, .val (.long q1), .second, .val (.int p2), .unset, .unset, .unset, .unset, .unset, .unset, .unset] [(.int p2), (.long q0)])
    refine ogo (fun _ z_ => XS.iconst X0.here hx rfl (hb hby at_14) z_) ?_
    show OWay p e below G s₁ (mkF m 15 #[.val (.long q0), .second, .val (.long q1), .second, .val (.int p2), .unset, .unset, .unset, .unset, .unset, .unset, .unset] [(.int (3 : Int32)), (.int p2), (.long q0)])
    refine ogo (fun _ z_ => XS.iand X0.here hx rfl (hb hby at_15) rfl z_) ?_
    show OWay p e below G s₁ (mkF m 16 #[.val (.long q0), .second, .val (.long q1), .second, .val (.int p2), .unset, .unset, .unset, .unset, .unset, .unset, .unset] [(.int (p2 &&& (3 : Int32))), (.long q0)])
    refine ogo (fun _ z_ => XS.i2l X0.here hx rfl (hb hby at_16) rfl z_) ?_
    show OWay p e below G s₁ (mkF m 17 #[.val (.long q0), .second, .val (.long q1), .second, .val (.int p2), .unset, .unset, .unset, .unset, .unset, .unset, .unset] [(.long ((p2 &&& (3 : Int32)).toInt64)), (.long q0)])
    refine ogo (fun _ z_ => X0.ldc2Long hx hown (mvT hZ (hw _ (List.mem_of_getElem? (i := 0) rfl))) (g := (mkF m 17 #[.val (.long q0), .second, .val (.long q1), .second, .val (.int p2), .unset, .unset, .unset, .unset, .unset, .unset, .unset] [(.long ((p2 &&& (3 : Int32)).toInt64)), (.long q0)])) rfl (hb hby at_17) _ z_) ?_
    show OWay p e below G s₁ (mkF m 20 #[.val (.long q0), .second, .val (.long q1), .second, .val (.int p2), .unset, .unset, .unset, .unset, .unset, .unset, .unset] [(.long (2 : Int64)), (.long ((p2 &&& (3 : Int32)).toInt64)), (.long q0)])
    refine ogo (fun _ z_ => XS.lsub X0.here hx rfl (hb hby at_20) rfl z_) ?_
    show OWay p e below G s₁ (mkF m 21 #[.val (.long q0), .second, .val (.long q1), .second, .val (.int p2), .unset, .unset, .unset, .unset, .unset, .unset, .unset] [(.long (((p2 &&& (3 : Int32)).toInt64) - (2 : Int64))), (.long q0)])
    refine ogo (fun _ z_ => XS.ladd X0.here hx rfl (hb hby at_21) rfl z_) ?_
    show OWay p e below G s₁ (mkF m 22 #[.val (.long q0), .second, .val (.long q1), .second, .val (.int p2), .unset, .unset, .unset, .unset, .unset, .unset, .unset] [(.long (q0 + (((p2 &&& (3 : Int32)).toInt64) - (2 : Int64))))])
    exact J2 _ ((if_pos c4).trans rfl).symm
  · refine ogo (fun _ z_ => XS.ifNo X0.here hx rfl (hb hby at_4) rfl ((if0 _ _).trans (feq c4).1) z_) ?_
    show OWay p e below G s₁ (mkF m 7 #[.val (.long q0), .second, .val (.long q1), .second, .val (.int p2), .unset, .unset, .unset, .unset, .unset, .unset, .unset] [])
    refine ogo (fun _ z_ => XS.lloadN X0.here hx rfl (hb hby at_7) rfl z_) ?_
    show OWay p e below G s₁ (mkF m 8 #[.val (.long q0), .second, .val (.long q1), .second, .val (.int p2), .unset, .unset, .unset, .unset, .unset, .unset, .unset] [(.long q1)])
    refine ogo (fun _ z_ => XS.goto X0.here hx rfl (pc0 := 8) (pc' := 22) rfl (hb hby at_8) (by decide) (by decide) z_) ?_
    show OWay p e below G s₁ (mkF m 22 #[.val (.long q0), .second, .val (.long q1), .second, .val (.int p2), .unset, .unset, .unset, .unset, .unset, .unset, .unset] [(.long q1)])
    exact J2 _ ((if_neg c4).trans rfl).symm
set_option maxRecDepth 65536 in
set_option maxHeartbeats 40000000 in
theorem comes_1 {Post : Tables → Env → Array Value → State → Outcome → State → Prop} (hpost : ∀ tb e args s v u, (limb_1_1.after args s (.returned v) u = true ∧ limb_1_2.after args s (.returned v) u = true ∧ True) → FrameEnd s (.returned v) u (Jvm.fieldLocs frame_1_writes args s ++ Jvm.arrayLocs frame_1_arrays args s ++ Jvm.staticLocs frame_1_statics s) 16 128 → Post tb e args s (.returned v) u) :
    ArmFor flags0 classFile x code maxLocals ret World_1 tables_1 room_1 Calls_1 rest_1 Pre_1 Post := by
  intro l hfl _ _ p e ha hc hk s m args below hf hA hF happ hP
  obtain ⟨hcalls, hrest, hpre⟩ := hP
  obtain ⟨-, -, -, hnamed, -, -, -, hat⟩ := (Spec.applies_iff hf).mp happ
  obtain ⟨hg, hn⟩ := and_e (Cond.before_iff.mp (show (Jvm.Cond.and given_1 narrow_1).before args s = true from hpre))
  obtain ⟨g1, g2⟩ := and_e hg
  obtain ⟨g3, g4⟩ := and_e g2
  obtain ⟨g5, g6⟩ := and_e g4
  obtain ⟨w0, w1, w2, rfl⟩ : ∃ w0 w1 w2 : Value, args = #[w0, w1, w2] := by
    have hs : args.size = 3 := by simpa [Cond.value, given_1] using g1
    obtain ⟨L⟩ := args
    match L, hs with
    | [w0, w1, w2], _ => exact ⟨w0, w1, w2, rfl⟩
  have hw := fun d (hd : d ∈ tables_1) => atoms_spec (ws := Jvm.Cond.code x code maxLocals ret :: tables_1) hat d (List.mem_cons_of_mem _ hd)
  have hfit : Fit s := fun {y c} hc i hi => by
    obtain ⟨ha, rfl⟩ := Array.getElem?_eq_some_iff.mp hc
    have q := List.all_eq_true.mp ((Array.all_eq_true_iff_forall_mem.mp hF) _ (Array.getElem_mem ha)) i (List.mem_range.mpr hi)
    simpa [Array.getElem?_eq_getElem hi] using q
  obtain ⟨i0, ei0⟩ := isL_v g3
  obtain rfl : w0 = (.long i0) := Option.some.inj ei0
  obtain ⟨i1, ei1⟩ := isL_v g5
  obtain rfl : w1 = (.long i1) := Option.some.inj ei1
  obtain ⟨i2, ei2⟩ := is_v g6
  obtain rfl : w2 = (.int i2) := Option.some.inj ei2
  obtain ⟨n, o, h1, h2, h3, _, L, rfl, ⟨rfl, N⟩, hq⟩ := law_c l s _ hw tables_1 i0 i1 i2 s.heap s.heap.size (Nat.le_refl _) p e ha hc hk s m _ below hf ((Spec.applies_iff_loose hf).mp happ).1 ⟨rfl, State.Warmed39.refl s, rfl⟩ trivial
  refine ⟨n, _, h1, h2, h3, hpost _ _ _ _ _ _ ⟨Cond.after_iff.mpr rfl, Cond.after_iff.mpr (eq_i res_at (Term.int_eval (1)) rfl), trivial⟩ ⟨hq.1, hq.2.1, (hq.2.2.sift fun y hy => Or.inr (N y hy)).mono (by decide) (by decide)⟩⟩
theorem main_1_1 : Claimed_1_1 := comes_1 fun _ _ _ _ _ _ h hF => ⟨h.1, hF⟩
theorem main_1_2 : Claimed_1_2 := comes_1 fun _ _ _ _ _ _ h hF => ⟨h.2.1, hF⟩
end Jvm.Pilot.@@N@@
namespace Jvm.Pilot.@@N@@
open Jvm Jvm.ClassFile Sem Op Lib Jvm.Free Jvm.Stand Jvm.Pilot.@@N@@.Jvm.D
/-! MADE BY PROGRAM (witnessworld.py) out of the Statement's table words and the real class files: 12 classes; the members and pool entries that the words name. The judged class is class 1, her method 1. -/
namespace start1
open Jvm.ClassFile
def u (s : String) : CpInfo := .utf8 (stringToUtf16 s)
/-- a pool by its gaps: so many unusable entries, then the entry; so many at the end -/
def gap : Nat → List CpInfo → List CpInfo
  | 0, r => r
  | n + 1, r => .unusable :: gap n r
def poolList (es : List (Nat × CpInfo)) (last : Nat) : List CpInfo := es.foldr (fun e r => gap e.1 (e.2 :: r)) (gap last [])
def pool (es : List (Nat × CpInfo)) (last : Nat) : Array CpInfo := ⟨poolList es last⟩
def fileOf (pool : Array CpInfo) (this : Nat) (attrs : Array Attribute := #[]) (ms : Array MethodInfo := #[]) (fl : Nat := 33) (sup : Nat := 0) (ifs : Array Nat := #[]) (fds : Array FieldInfo := #[]) : ClassFile where
  minorVersion := 0
  majorVersion := 65
  constantPool := pool
  accessFlags := fl
  thisClass := this
  superClass := sup
  interfaces := ifs
  fields := fds
  methods := ms
  attributes := attrs
def plain (name : String) (sup : Option ClassId) : Class where
  name := name
  kind := .ordinary
  loader := none
  accessFlags := 33
  super := sup
  interfaces := #[]
  cf := none
  fields := #[]
  methods := #[]
  instanceTypes := #[]
  staticTypes := #[]
  resolved := #[]
  callSites := []
  init := .initialized
  statics := none
  mirror := none

def pool0 : Array CpInfo := pool [(5, u "<init>"), (0, u "()V"), (1, .class_ 10), (1, u "java/lang/Object")] 113

def k0c0 : Code := { maxStack := 0, maxLocals := 1, code := object_method_1_code, exceptionTable := #[], attributes := #[] }
def k0m0 : Method := { name := "<init>", desc := "()V", sig := { parameters := [], returnType := none }, accessFlags := 1, code := some k0c0 }
/-- java/lang/Object -/
def k0 : Class := { plain "java/lang/Object" none with
  accessFlags := 33
  interfaces := #[]
  cf := some (fileOf pool0 8 #[] #[{ accessFlags := 1, nameIndex := 5, descriptorIndex := 6, attributes := #[] }] 33 0 #[] #[])
  fields := #[]
  methods := #[k0m0]
  instanceTypes := #[]
  staticTypes := #[]
  resolved := Array.replicate 124 none
  statics := none }

def pool1 : Array CpInfo := pool [(2, .class_ 4), (1, u "java/lang/Object"), (0, u "<init>"), (0, u "()V"), (0, .long 2), (1, .class_ 10), (0, u "com/example/sito/sito/Slice"), (0, .methodref 9 12), (0, .nameAndType 5 13), (0, u "(JDI[JJ)V"), (0, .methodref 9 15), (0, .nameAndType 16 17), (0, u "isFull"), (0, u "()Z"), (0, .methodref 19 20), (0, .class_ 21), (0, .nameAndType 22 23), (0, u "java/lang/Math"), (0, u "max"), (0, u "(JJ)J"), (0, .methodref 9 25), (0, .nameAndType 26 27), (0, u "getItems"), (0, u "()J"), (0, .methodref 9 29), (0, .nameAndType 30 27), (0, u "getCapacity"), (0, .class_ 32), (0, u "com/example/sito/sito/SliceIsFullPinLaw"), (2, u "law"), (0, u "(JJI)Z")] 3

def k1m0 : Method := { name := "<init>", desc := "()V", sig := { parameters := [], returnType := none }, accessFlags := 2, code := none }
def k1c1 : Code := { maxStack := 10, maxLocals := 12, code := code, exceptionTable := #[], attributes := #[] }
def k1m1 : Method := { name := "law", desc := "(JJI)Z", sig := { parameters := [.long, .long, .int], returnType := some .boolean }, accessFlags := 9, code := some k1c1 }
/-- com/example/sito/sito/SliceIsFullPinLaw -/
def k1 : Class := { plain "com/example/sito/sito/SliceIsFullPinLaw" (some 0) with
  accessFlags := 49
  interfaces := #[]
  cf := some (fileOf pool1 31 #[] #[{ accessFlags := 2, nameIndex := 5, descriptorIndex := 6, attributes := #[] }, { accessFlags := 9, nameIndex := 35, descriptorIndex := 36, attributes := #[] }] 49 2 #[] #[])
  fields := #[]
  methods := #[k1m0, k1m1]
  instanceTypes := #[]
  staticTypes := #[]
  resolved := Array.replicate 40 none
  statics := none }

def pool2 : Array CpInfo := pool [(3, .class_ 4), (0, u "com/example/sito/sito/Slice"), (0, .methodref 6 7), (0, .class_ 8), (0, .nameAndType 9 10), (0, u "java/lang/Object"), (0, u "<init>"), (0, u "()V"), (0, .fieldref 3 12), (0, .nameAndType 13 14), (0, u "capacity"), (0, u "J"), (0, .fieldref 3 16), (0, .nameAndType 17 18), (0, u "bound"), (0, u "D"), (0, .fieldref 3 20), (0, .nameAndType 21 22), (0, u "hashCount"), (0, u "I"), (0, .long 64), (1, .fieldref 3 26), (0, .nameAndType 27 14), (0, u "bitCount"), (0, .fieldref 3 29), (0, .nameAndType 30 31), (0, u "words"), (0, u "[J"), (0, .fieldref 3 33), (0, .nameAndType 34 14), (0, u "items"), (21, u "(JDI[JJ)V"), (68, .class_ 126), (0, u "com/example/sito/sito/Slice$LogSum"), (19, .class_ 148), (1, u "com/example/sito/sito/Slice$Hash"), (20, u "MAX_WORDS"), (2, u "MAX_BITS"), (0, u "BLOCK_BITS"), (1, u "NEGLIGIBLE"), (13, u "isFull"), (0, u "()Z"), (0, u "getCapacity"), (0, u "()J"), (4, u "getItems")] 22

def k2c0 : Code := { maxStack := 5, maxLocals := 9, code := prog_6_method_1_code, exceptionTable := #[], attributes := #[] }
def k2m0 : Method := { name := "<init>", desc := "(JDI[JJ)V", sig := { parameters := [.long, .double, .int, (.array .long), .long], returnType := none }, accessFlags := 0, code := some k2c0 }
def k2c1 : Code := { maxStack := 4, maxLocals := 1, code := prog_6_method_16_code, exceptionTable := #[], attributes := #[] }
def k2m1 : Method := { name := "isFull", desc := "()Z", sig := { parameters := [], returnType := some .boolean }, accessFlags := 0, code := some k2c1 }
def k2c2 : Code := { maxStack := 2, maxLocals := 1, code := prog_6_method_17_code, exceptionTable := #[], attributes := #[] }
def k2m2 : Method := { name := "getCapacity", desc := "()J", sig := { parameters := [], returnType := some .long }, accessFlags := 0, code := some k2c2 }
def k2c3 : Code := { maxStack := 2, maxLocals := 1, code := prog_6_method_21_code, exceptionTable := #[], attributes := #[] }
def k2m3 : Method := { name := "getItems", desc := "()J", sig := { parameters := [], returnType := some .long }, accessFlags := 0, code := some k2c3 }
/-- com/example/sito/sito/Slice -/
def k2 : Class := { plain "com/example/sito/sito/Slice" (some 0) with
  accessFlags := 32
  interfaces := #[]
  cf := some (fileOf pool2 3 #[.nestMembers #[146, 125]] #[{ accessFlags := 0, nameIndex := 9, descriptorIndex := 56, attributes := #[] }, { accessFlags := 0, nameIndex := 189, descriptorIndex := 190, attributes := #[] }, { accessFlags := 0, nameIndex := 191, descriptorIndex := 192, attributes := #[] }, { accessFlags := 0, nameIndex := 197, descriptorIndex := 192, attributes := #[] }] 32 6 #[] #[{ accessFlags := 24, nameIndex := 169, descriptorIndex := 22, attributes := #[] }, { accessFlags := 24, nameIndex := 172, descriptorIndex := 14, attributes := #[] }, { accessFlags := 24, nameIndex := 173, descriptorIndex := 22, attributes := #[] }, { accessFlags := 26, nameIndex := 175, descriptorIndex := 18, attributes := #[] }, { accessFlags := 18, nameIndex := 13, descriptorIndex := 14, attributes := #[] }, { accessFlags := 18, nameIndex := 17, descriptorIndex := 18, attributes := #[] }, { accessFlags := 18, nameIndex := 21, descriptorIndex := 22, attributes := #[] }, { accessFlags := 18, nameIndex := 27, descriptorIndex := 14, attributes := #[] }, { accessFlags := 18, nameIndex := 30, descriptorIndex := 31, attributes := #[] }, { accessFlags := 2, nameIndex := 34, descriptorIndex := 14, attributes := #[] }])
  fields := #[{ name := "MAX_WORDS", type := .int, accessFlags := 24, slot := 0, constantValue := 0 }, { name := "MAX_BITS", type := .long, accessFlags := 24, slot := 1, constantValue := 0 }, { name := "BLOCK_BITS", type := .int, accessFlags := 24, slot := 2, constantValue := 0 }, { name := "NEGLIGIBLE", type := .double, accessFlags := 26, slot := 3, constantValue := 0 }, { name := "capacity", type := .long, accessFlags := 18, slot := 0, constantValue := 0 }, { name := "bound", type := .double, accessFlags := 18, slot := 1, constantValue := 0 }, { name := "hashCount", type := .int, accessFlags := 18, slot := 2, constantValue := 0 }, { name := "bitCount", type := .long, accessFlags := 18, slot := 3, constantValue := 0 }, { name := "words", type := (.array .long), accessFlags := 18, slot := 4, constantValue := 0 }, { name := "items", type := .long, accessFlags := 2, slot := 5, constantValue := 0 }]
  methods := #[k2m0, k2m1, k2m2, k2m3]
  instanceTypes := #[.long, .double, .int, .long, (.array .long), .long]
  staticTypes := #[.int, .long, .int, .double]
  resolved := Array.replicate 220 none
  statics := none }

def pool3 : Array CpInfo := pool [(1, .class_ 2), (0, u "java/lang/Math"), (1, .class_ 6), (1, u "java/lang/Object"), (0, u "<init>"), (0, u "()V"), (89, .class_ 100), (1, u "java/lang/Math$RandomNumberGeneratorHolder"), (20, u "(JJ)J"), (50, u "negativeZeroFloatBits"), (0, u "J"), (2, u "negativeZeroDoubleBits"), (21, u "max"), (46, u "$assertionsDisabled"), (0, u "Z"), (91, u "twoToTheDoubleScaleDown"), (0, u "D"), (4, u "twoToTheDoubleScaleUp"), (9, u "E"), (3, u "PI"), (2, u "TAU"), (2, u "DEGREES_TO_RADIANS"), (0, u "RADIANS_TO_DEGREES")] 94

def k3m0 : Method := { name := "<init>", desc := "()V", sig := { parameters := [], returnType := none }, accessFlags := 2, code := none }
def k3c1 : Code := { maxStack := 4, maxLocals := 4, code := jdk_29_method_66_code, exceptionTable := #[], attributes := #[] }
def k3m1 : Method := { name := "max", desc := "(JJ)J", sig := { parameters := [.long, .long], returnType := some .long }, accessFlags := 9, code := some k3c1 }
/-- java/lang/Math -/
def k3 : Class := { plain "java/lang/Math" (some 0) with
  accessFlags := 49
  interfaces := #[]
  cf := some (fileOf pool3 1 #[.nestMembers #[98]] #[{ accessFlags := 2, nameIndex := 7, descriptorIndex := 8, attributes := #[] }, { accessFlags := 9, nameIndex := 198, descriptorIndex := 121, attributes := #[] }] 49 4 #[] #[{ accessFlags := 25, nameIndex := 354, descriptorIndex := 339, attributes := #[] }, { accessFlags := 25, nameIndex := 358, descriptorIndex := 339, attributes := #[] }, { accessFlags := 25, nameIndex := 361, descriptorIndex := 339, attributes := #[] }, { accessFlags := 26, nameIndex := 364, descriptorIndex := 339, attributes := #[] }, { accessFlags := 26, nameIndex := 365, descriptorIndex := 339, attributes := #[] }, { accessFlags := 26, nameIndex := 172, descriptorIndex := 173, attributes := #[] }, { accessFlags := 26, nameIndex := 176, descriptorIndex := 173, attributes := #[] }, { accessFlags := 8, nameIndex := 344, descriptorIndex := 339, attributes := #[] }, { accessFlags := 8, nameIndex := 338, descriptorIndex := 339, attributes := #[] }, { accessFlags := 4120, nameIndex := 245, descriptorIndex := 246, attributes := #[] }])
  fields := #[{ name := "E", type := .double, accessFlags := 25, slot := 0, constantValue := 0 }, { name := "PI", type := .double, accessFlags := 25, slot := 1, constantValue := 0 }, { name := "TAU", type := .double, accessFlags := 25, slot := 2, constantValue := 0 }, { name := "DEGREES_TO_RADIANS", type := .double, accessFlags := 26, slot := 3, constantValue := 0 }, { name := "RADIANS_TO_DEGREES", type := .double, accessFlags := 26, slot := 4, constantValue := 0 }, { name := "negativeZeroFloatBits", type := .long, accessFlags := 26, slot := 5, constantValue := 0 }, { name := "negativeZeroDoubleBits", type := .long, accessFlags := 26, slot := 6, constantValue := 0 }, { name := "twoToTheDoubleScaleUp", type := .double, accessFlags := 8, slot := 7, constantValue := 0 }, { name := "twoToTheDoubleScaleDown", type := .double, accessFlags := 8, slot := 8, constantValue := 0 }, { name := "$assertionsDisabled", type := .boolean, accessFlags := 4120, slot := 9, constantValue := 0 }]
  methods := #[k3m0, k3m1]
  instanceTypes := #[]
  staticTypes := #[.double, .double, .double, .double, .double, .long, .long, .double, .double, .boolean]
  resolved := Array.replicate 460 none
  statics := none }

def pool4 : Array CpInfo := pool [(1, u "java/lang/Cloneable"), (0, .class_ 1), (0, u "java/lang/Object"), (0, .class_ 3)] 3

/-- java/lang/Cloneable -/
def k4 : Class := { plain "java/lang/Cloneable" (some 0) with
  accessFlags := 1537
  interfaces := #[]
  cf := some (fileOf pool4 2 #[] #[] 1537 4 #[] #[])
  fields := #[]
  methods := #[]
  instanceTypes := #[]
  staticTypes := #[]
  resolved := Array.replicate 8 none
  statics := none }

def pool5 : Array CpInfo := pool [(1, u "java/io/Serializable"), (0, .class_ 1), (0, u "java/lang/Object"), (0, .class_ 3)] 3

/-- java/io/Serializable -/
def k5 : Class := { plain "java/io/Serializable" (some 0) with
  accessFlags := 1537
  interfaces := #[]
  cf := some (fileOf pool5 2 #[] #[] 1537 4 #[] #[])
  fields := #[]
  methods := #[]
  instanceTypes := #[]
  staticTypes := #[]
  resolved := Array.replicate 8 none
  statics := none }

/-- the primitive byte -/
def k6 : Class := { plain "byte" none with kind := .primitive 'B', accessFlags := 0x411 }
/-- [B -/
def k7 : Class := { plain "[B" (some 0) with kind := .array 6 .byte, interfaces := #[4, 5], accessFlags := 1041 }

/-- the primitive int -/
def k8 : Class := { plain "int" none with kind := .primitive 'I', accessFlags := 0x411 }
/-- [I -/
def k9 : Class := { plain "[I" (some 0) with kind := .array 8 .int, interfaces := #[4, 5], accessFlags := 1041 }

/-- the primitive long -/
def k10 : Class := { plain "long" none with kind := .primitive 'J', accessFlags := 0x411 }
/-- [J -/
def k11 : Class := { plain "[J" (some 0) with kind := .array 10 .long, interfaces := #[4, 5], accessFlags := 1041 }

def heap : Heap := #[]
def classes : Array Class := #[k0, k1, k2, k3, k4, k5, k6, k7, k8, k9, k10, k11]
def interned : List (Array UInt16 × Addr) := []
def slotsUsed : Nat := 0
def theMethod : MethodId := ⟨1, 1⟩
def args0 : Array Value := #[.long 5, .long 6, .int 0]
def aboutOver (below : List Frame) : State where
  vm := { classes := classes, interned := interned.toArray }
  heap := heap
  slotsUsed := slotsUsed
  threads := #[{ frames := .invoking theMethod args0 :: below }]
def below0 : List Frame := [.native { method := ⟨0, 0⟩, args := #[] }]
def about1 : State := aboutOver below0
def p0 : Program := .bare "" "" ""
def e0 : Env := launch0.env 0 0 0
theorem w_frames : about1.frames = Frame.invoking theMethod args0 :: below0 := rfl
set_option maxRecDepth 65536 in
theorem w_args : argsFit about1.vm theMethod args0 = true := by decide +kernel
set_option maxRecDepth 65536 in
theorem w_heap : heapFits about1 = true := by decide +kernel
set_option maxRecDepth 65536 in
theorem w_runnable : about1.curStatus? = some .runnable := by decide +kernel
set_option maxRecDepth 65536 in
theorem w_alone : about1.alone = true := by decide +kernel
set_option maxRecDepth 65536 in
theorem w_named : about1.methodNamed? x = some theMethod := by decide +kernel
set_option maxRecDepth 65536 in
theorem w_hears : about1.hears theMethod below0 = true := by decide +kernel
set_option maxRecDepth 65536 in
theorem w_ripe : about1.ripe theMethod args0 below0 = true := by decide +kernel
theorem w_running : about1.status = .running := rfl
set_option maxRecDepth 65536 in
theorem w_room : about1.hasRoom e0.platform room_1 = true :=
  launch0.hasRoom_least _ room_1 (by decide +kernel) (by decide +kernel) (by decide +kernel) (by decide +kernel) (by decide +kernel) (by decide +kernel)
theorem allAtoms_all (ts : List Jvm.Cond) (a : Array Jvm.Value) (st : Jvm.State) : (allAtoms ts).before a st = ts.all (fun c => c.before a st) := by
  induction ts with
  | nil => rfl
  | cons c t ih =>
    show (Jvm.Cond.and c (allAtoms t)).before a st = _
    rw [Jvm.Cond.before_and, ih, List.all_cons]
def words1 : List Jvm.Cond := Jvm.Cond.code x code maxLocals ret :: tables_1
/-- a 'code' word, met by the world's own term for the bytes: nothing is compared byte by byte -/
theorem code_word {y : MethodName} {bytes : ByteArray} {mx : Nat} {rt : Option FieldType} {a : Array Value} {s : State} {m : MethodId} {meth : Method} {c : Code} (h1 : s.methodNamed? y = some m) (h2 : s.vm.method? m = some meth) (h3 : meth.code = some c) (h4 : c.code = bytes)
    (h5 : (c.maxLocals == mx && c.exceptionTable.isEmpty && decide (c.maxStack ≤ mostOperands) && decide (meth.sig.returnType = rt) && !meth.locks && decide (parseMethodDescriptor y.desc = some meth.sig)) = true) : (Jvm.Cond.code y bytes mx rt).before a s = true := by
  simp only [Bool.and_eq_true, beq_iff_eq, Bool.not_eq_true', decide_eq_true_eq] at h5
  obtain ⟨⟨⟨⟨⟨g1, g2⟩, g3⟩, g4⟩, g5⟩, g6⟩ := h5
  simp [Cond.before, Cond.holds, Cond.value, h1, h2, h3, h4, g1, g2, g3, g4, g5, g6]
def isCode : Jvm.Cond → Bool
  | .code _ _ _ _ => true
  | _ => false
theorem all_split {L : List Jvm.Cond} {P : Jvm.Cond → Bool} (h1 : L.all (fun c => isCode c || P c) = true) (h2 : ∀ c ∈ L.filter isCode, P c = true) : L.all P = true := by
  refine List.all_eq_true.mpr fun c hc => ?_
  have h := List.all_eq_true.mp h1 c hc
  rcases Bool.eq_false_or_eq_true (isCode c) with hi | hi
  · exact h2 c (List.mem_filter.mpr ⟨hc, hi⟩)
  · simpa [hi] using h
set_option maxRecDepth 65536 in
theorem w_c0 : (Jvm.Cond.code x code maxLocals ret).before args0 about1 = true := code_word (m := ⟨1, 1⟩) (meth := k1m1) (c := k1c1) (by decide +kernel) rfl rfl rfl (by decide +kernel)
set_option maxRecDepth 65536 in
theorem w_c1 : (Jvm.Cond.code ({ cls := "com/example/sito/sito/Slice", name := "<init>", desc := "(JDI[JJ)V" } : Jvm.MethodName) prog_6_method_1_code (9 : Nat) (Option.none : Option Jvm.ClassFile.FieldType)).before args0 about1 = true := code_word (m := ⟨2, 0⟩) (meth := k2m0) (c := k2c0) (by decide +kernel) rfl rfl rfl (by decide +kernel)
set_option maxRecDepth 65536 in
theorem w_c2 : (Jvm.Cond.code ({ cls := "java/lang/Object", name := "<init>", desc := "()V" } : Jvm.MethodName) object_method_1_code (1 : Nat) (Option.none : Option Jvm.ClassFile.FieldType)).before args0 about1 = true := code_word (m := ⟨0, 0⟩) (meth := k0m0) (c := k0c0) (by decide +kernel) rfl rfl rfl (by decide +kernel)
set_option maxRecDepth 65536 in
theorem w_c3 : (Jvm.Cond.code ({ cls := "com/example/sito/sito/Slice", name := "isFull", desc := "()Z" } : Jvm.MethodName) prog_6_method_16_code (1 : Nat) (Option.some Jvm.ClassFile.FieldType.boolean)).before args0 about1 = true := code_word (m := ⟨2, 1⟩) (meth := k2m1) (c := k2c1) (by decide +kernel) rfl rfl rfl (by decide +kernel)
set_option maxRecDepth 65536 in
theorem w_c4 : (Jvm.Cond.code ({ cls := "java/lang/Math", name := "max", desc := "(JJ)J" } : Jvm.MethodName) jdk_29_method_66_code (4 : Nat) (Option.some Jvm.ClassFile.FieldType.long)).before args0 about1 = true := code_word (m := ⟨3, 1⟩) (meth := k3m1) (c := k3c1) (by decide +kernel) rfl rfl rfl (by decide +kernel)
set_option maxRecDepth 65536 in
theorem w_c5 : (Jvm.Cond.code ({ cls := "com/example/sito/sito/Slice", name := "getItems", desc := "()J" } : Jvm.MethodName) prog_6_method_21_code (1 : Nat) (Option.some Jvm.ClassFile.FieldType.long)).before args0 about1 = true := code_word (m := ⟨2, 3⟩) (meth := k2m3) (c := k2c3) (by decide +kernel) rfl rfl rfl (by decide +kernel)
set_option maxRecDepth 65536 in
theorem w_c6 : (Jvm.Cond.code ({ cls := "com/example/sito/sito/Slice", name := "getCapacity", desc := "()J" } : Jvm.MethodName) prog_6_method_17_code (1 : Nat) (Option.some Jvm.ClassFile.FieldType.long)).before args0 about1 = true := code_word (m := ⟨2, 2⟩) (meth := k2m2) (c := k2c2) (by decide +kernel) rfl rfl rfl (by decide +kernel)
def codes1 : List Jvm.Cond := [Jvm.Cond.code x code maxLocals ret, Jvm.Cond.code ({ cls := "com/example/sito/sito/Slice", name := "<init>", desc := "(JDI[JJ)V" } : Jvm.MethodName) prog_6_method_1_code (9 : Nat) (Option.none : Option Jvm.ClassFile.FieldType), Jvm.Cond.code ({ cls := "java/lang/Object", name := "<init>", desc := "()V" } : Jvm.MethodName) object_method_1_code (1 : Nat) (Option.none : Option Jvm.ClassFile.FieldType), Jvm.Cond.code ({ cls := "com/example/sito/sito/Slice", name := "isFull", desc := "()Z" } : Jvm.MethodName) prog_6_method_16_code (1 : Nat) (Option.some Jvm.ClassFile.FieldType.boolean), Jvm.Cond.code ({ cls := "java/lang/Math", name := "max", desc := "(JJ)J" } : Jvm.MethodName) jdk_29_method_66_code (4 : Nat) (Option.some Jvm.ClassFile.FieldType.long), Jvm.Cond.code ({ cls := "com/example/sito/sito/Slice", name := "getItems", desc := "()J" } : Jvm.MethodName) prog_6_method_21_code (1 : Nat) (Option.some Jvm.ClassFile.FieldType.long), Jvm.Cond.code ({ cls := "com/example/sito/sito/Slice", name := "getCapacity", desc := "()J" } : Jvm.MethodName) prog_6_method_17_code (1 : Nat) (Option.some Jvm.ClassFile.FieldType.long)]
set_option maxRecDepth 65536 in
theorem codes_eq : words1.filter isCode = codes1 := rfl
theorem w_codes : ∀ c ∈ words1.filter isCode, c.before args0 about1 = true := by
  rw [codes_eq]
  intro c hc
  simp only [codes1, List.mem_cons, List.not_mem_nil, or_false] at hc
  rcases hc with rfl | rfl | rfl | rfl | rfl | rfl | rfl
  · exact w_c0
  · exact w_c1
  · exact w_c2
  · exact w_c3
  · exact w_c4
  · exact w_c5
  · exact w_c6
set_option maxRecDepth 65536 in
theorem w_t1 : (words1.take 24).all (fun c => isCode c || c.before args0 about1) = true := by decide +kernel
set_option maxRecDepth 65536 in
theorem w_t2 : (words1.drop 24).all (fun c => isCode c || c.before args0 about1) = true := by decide +kernel
theorem w_tables : (allAtoms (Jvm.Cond.code x code maxLocals ret :: tables_1)).before args0 about1 = true := by
  rw [allAtoms_all]
  show words1.all (fun c => c.before args0 about1) = true
  refine all_split ?_ w_codes
  rw [← List.take_append_drop 24 words1, List.all_append, w_t1, w_t2]
  rfl
set_option maxRecDepth 65536 in
theorem w_case : (Jvm.Cond.and given_1 narrow_1).before args0 about1 = true := by decide +kernel
theorem w_applies : (headSpec (Jvm.Cond.code x code maxLocals ret :: tables_1) room_1).applies x e0.platform about1 = true :=
  (Spec.applies_iff w_frames).mpr ⟨w_running, w_runnable, w_alone, w_named, w_hears, w_ripe, w_room, w_tables⟩
theorem atStart : AtStart classFile x code maxLocals ret World_1 tables_1 room_1 Calls_1 rest_1 Pre_1 launch0 p0 e0 about1 theMethod args0 below0 :=
  ⟨lists_1, trivial, launch0.admits_env _ _ _, launch0.least_env, fairChoices_fair.cas, fairChoices_fair.clock, w_frames, w_args, w_heap, w_applies, trivial, trivial, w_case⟩
end start1
theorem witness_1 : WitnessClaimed_1 := ⟨start1.p0, start1.e0, start1.about1, start1.theMethod, start1.args0, start1.below0, start1.atStart⟩
end Jvm.Pilot.@@N@@
