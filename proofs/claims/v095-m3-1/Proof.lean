import JvmDerived
import JvmDerived.Pilot.@@N@@Statement
import JvmDerived.Pilot.@@N@@Code
set_option linter.unusedVariables false
set_option linter.unusedSimpArgs false
namespace Jvm.Pilot.@@N@@
open Jvm Jvm.ClassFile Sem Op Lib Jvm.Free Jvm.Stand Jvm.LawKit Jvm.RoadKit Bundle Jvm.Pilot.@@N@@.Jvm.D
/-- from here the run comes to a state of which G holds -/
def OWay (p : Program) (e : Env) (below : List Frame) (G : State → Prop) (T : State) (g : JFrame) : Prop := ∃ t, Steps p.tables e below (T.setTop g) t ∧ G t
/-- how a body ends: it returned, with what Q says of its value, the heap and the places written -/
def OEnd (s : State) (below : List Frame) (Q : Option Value → Heap → List Loc → Prop) (cs sl : Nat) (t : State) : Prop := ∃ o, t.status = .running ∧ Ended t below o ∧ ∃ v L, o = .returned v ∧ Q v t.heap L ∧ FrameEnd s o t L cs sl
/-- a body's contract, as a call wants it -/
def OCon (l : Launch) (y : MethodName) (bytes : ByteArray) (maxL : Nat) (rt : Option FieldType) (ws : List Jvm.Cond) (rm : Room) (Z : State) (as' : Array Value) (h : Heap) (Q : Option Value → Heap → List Loc → Prop) : Prop :=
  MetFree l y (head1 (Jvm.Cond.code y bytes maxL rt :: ws) rm) (fun a U => a = as' ∧ Z.Warmed39 U.vm ∧ U.heap = h) (fun _ _ _ _ _ => True) (fun _ U o U' => ∃ v L, o = .returned v ∧ Q v U'.heap L ∧ FrameEnd U o U' L rm.cells rm.slots)
section Own
variable {p : Program} {l : Launch} {e : Env} {R : Room} {s : State} {m : MethodId} {args : Array Value} {below : List Frame} {meth : Method} {c : Code} {T T' : State} {locs : List Loc} {cells slots : Nat} {Z : State} {a0 : Array Value} {h : Heap} {G : State → Prop} {g g' : JFrame} {Q : Option Value → Heap → List Loc → Prop} {cs sl : Nat}
theorem ogo (q : ∀ t, Steps p.tables e below (T'.setTop g') t → Steps p.tables e below (T.setTop g) t) (w : OWay p e below G T' g') : OWay p e below G T g := by
  obtain ⟨t, h1, h2⟩ := w
  exact ⟨t, q t h1, h2⟩
theorem ogoS (q : Steps p.tables e below (T.setTop g) (T'.setTop g')) (w : OWay p e below G T' g') : OWay p e below G T g := ogo (fun _ k => q.trans k) w
theorem ogoE (q : g = g') (w : OWay p e below G T g') : OWay p e below G T g := q ▸ w
theorem ocon {y : MethodName} {bytes : ByteArray} {maxL : Nat} {rt : Option FieldType} {ws : List Jvm.Cond} {rm : Room} {as' : Array Value} (hp : plainFor y = true)
    (body : ∀ (p : Program) (e : Env) (s : State) (m : MethodId) (below : List Frame) (meth : Method) (c : Code) (s₁ : State), p.tables.exec = Jvm.exec → c.code = bytes → c.maxLocals = maxL → s.vm.findClass y.cls = some m.cls → meth.name = y.name → meth.sig.returnType = rt → meth.locks = false → Z.Warmed39 s.vm →
      Stand p l e rm s m as' below meth c s₁ [] 0 0 → s₁.heap = h → OWay p e below (OEnd s below Q rm.cells rm.slots) s₁ (entryFrame m as' maxL)) : OCon l y bytes maxL rt ws rm Z as' h Q := by
  refine MetFree.of_bodySF hp hisR ?_
  intro p e s m args below meth c s₁ Bd hml0 hP hK
  obtain ⟨rfl, hZ, hh⟩ := hP
  obtain ⟨t, h1, o, h2, h3, h4⟩ := body p e s m below meth c s₁ Bd.exec Bd.bytes hml0 (findClass_of_methodNamed Bd.named) (name_of_methodNamed Bd.named Bd.method).1 Bd.returns Bd.notSynchronized hZ (Stand.of_body Bd) (by rw [← hh, Bd.state]; rfl)
  exact ⟨t, o, h1, h2, h3, h4⟩
theorem wRetN (X : Stand p l e R s m args below meth c T locs cells slots) (hx : p.tables.exec = Jvm.exec) {pc : Nat} {Ls : Array Slot} {z : Int32} {t : FieldType} {rest : List Value} (hret : meth.sig.returnType = some t) (hlk : meth.locks = false) (ht : t = .boolean ∨ t = .byte ∨ t = .char ∨ t = .short)
    (hd : decode c.code pc = .ok (.ireturn, 1)) (hc : cells ≤ cs) (hs : slots ≤ sl) (eT : T.heap = h) (hq : Q (some (.int (nar t z))) h locs) : OWay p e below (OEnd s below Q cs sl) T (mkF m pc Ls (.int z :: rest)) := by
  obtain ⟨fs, hr, hrun, hended, hW, hsame⟩ := X.leave (v := some (.int (nar t z))) (fun q => by rw [hret] at q; cases q) hlk
  exact ⟨_, retN X hx hret ht hd hr, _, hrun, hended, _, _, rfl, by subst eT; exact hq, ⟨_, rfl⟩, hW, hsame.mono hc hs⟩
theorem wRet (X : Stand p l e R s m args below meth c T locs cells slots) (hx : p.tables.exec = Jvm.exec) {pc : Nat} {Ls : Array Slot} {w : Value} {t : FieldType} {i : Instr} {rest : List Value} (hret : meth.sig.returnType = some t) (hlk : meth.locks = false) (hn : narrow t w = w)
    (hi : (i = .ireturn ∧ (t = .int ∨ t = .boolean ∨ t = .byte ∨ t = .char ∨ t = .short) ∧ ∃ z, w = .int z) ∨ (i = .lreturn ∧ t = .long ∧ ∃ z, w = .long z) ∨ (i = .dreturn ∧ t = .double ∧ ∃ z, w = .double z) ∨ (i = .freturn ∧ t = .float ∧ ∃ z, w = .float z) ∨ (i = .areturn ∧ t.isReference = true ∧ w.isRef = true))
    (hd : decode c.code pc = .ok (i, 1)) (hc : cells ≤ cs) (hs : slots ≤ sl) (eT : T.heap = h) (hq : Q (some w) h locs) : OWay p e below (OEnd s below Q cs sl) T (mkF m pc Ls (w :: rest)) := by
  obtain ⟨fs, hr, hrun, hended, hW, hsame⟩ := X.leave (v := some w) (fun q => by rw [hret] at q; cases q) hlk
  exact ⟨_, retOut X hx hret hn hi hd hr, _, hrun, hended, _, _, rfl, by subst eT; exact hq, ⟨_, rfl⟩, hW, hsame.mono hc hs⟩
theorem wRetV (X : Stand p l e R s m args below meth c T locs cells slots) (hx : p.tables.exec = Jvm.exec) {pc : Nat} {Ls : Array Slot} (hret : meth.sig.returnType = none) (hlk : meth.locks = false)
    (hd : decode c.code pc = .ok (.return_, 1)) (hc : cells ≤ cs) (hs : slots ≤ sl) (eT : T.heap = h) (hq : Q none h locs) : OWay p e below (OEnd s below Q cs sl) T (mkF m pc Ls []) := by
  obtain ⟨fs, hr, hrun, hended, hW, hsame⟩ := X.leave (v := none) (fun _ => rfl) hlk
  exact ⟨_, X.returnOut hx hret hd hr, _, hrun, hended, _, _, rfl, by subst eT; exact hq, ⟨_, rfl⟩, hW, hsame.mono hc hs⟩
theorem wStatic (X : Stand p l e R s m args below meth c T locs cells slots) (hx : p.tables.exec = Jvm.exec) (hZ : Z.Warmed39 s.vm) {own : String} {index : Nat} {y : MethodName} {bytes : ByteArray} {maxL : Nat} {rt : Option FieldType} {rm : Room} {as' : Array Value} (hown : s.vm.findClass own = some m.cls)
    (w1 : (Jvm.Cond.methodLink own index y).before a0 Z = true) (w2 : (Jvm.Cond.static y).before a0 Z = true) (w3 : (Jvm.Cond.initialized y.cls).before a0 Z = true) (w4 : (Jvm.Cond.code y bytes maxL rt).before a0 Z = true) (hy : y.cls ≠ "java/lang/invoke/MethodHandle" ∧ y.cls ≠ "java/lang/invoke/VarHandle")
    (hM : OCon l y bytes maxL rt [] rm Z as' h Q) (W : Nat) (hf : rm.frames + 1 ≤ R.frames) (hl : W + (maxL + 11) + rm.locals ≤ R.locals) {g : JFrame} (hg : g.method = m) (hsize : g.locals.size = c.maxLocals) {argsL rest : List Value} (hlen : ∀ sig, parseMethodDescriptor y.desc = some sig → argsL.length = sig.parameters.length)
    (hstack : g.stack = argsL.reverse ++ rest) (hW : 2 * g.monitorRoom + (rest.map fun v => v.category).sum ≤ W) (hd : decode c.code g.pc = .ok (.invokestatic index, 3)) (has : argsL.toArray = as') (eT : T.heap = h) (hc : cells + rm.cells ≤ R.cells) (hs : slots + rm.slots ≤ R.slots) :
    ∃ (v : Option Value) (T' : State) (L : List Loc), Stand p l e R s m args below meth c T' (locs ++ L) (cells + rm.cells) (slots + rm.slots) ∧ Q v T'.heap L ∧ ∀ target, Steps p.tables e below (T'.setTop { g with pc := g.pc + 3, stack := v.toList ++ rest }) target → Steps p.tables e below (T.setTop g) target := by
  obtain ⟨v, _, ⟨T1, L1, k1, n1⟩, -, X1, ⟨Lc, hQ, l1, y1, z1⟩, st⟩ := Jvm.LawKit.callS X hx (y := y) hown (mvT hZ w1) (mvT hZ w2) (mvT hZ w3) (mvT hZ w4) hy (backOf (W := W) hM hZ w4 w3 hf hl) (g := g) hg hsize (argsL := argsL) (rest := rest) hlen hstack hW hd (fun _ _ => ⟨has, eT, hc, hs⟩)
  dsimp only [Pt.U, Pt.locs, Pt.cells, Pt.slots] at X1 l1 y1 z1 st hQ
  subst l1 y1 z1
  exact ⟨v, T1, Lc, X1, hQ, st⟩
theorem wInit (X : Stand p l e R s m args below meth c T locs cells slots) (hx : p.tables.exec = Jvm.exec) (hZ : Z.Warmed39 s.vm) {own : String} {index : Nat} {y : MethodName} {bytes : ByteArray} {maxL : Nat} {rm : Room} {as' : Array Value} (hy1 : y.name = "<init>") (hown : s.vm.findClass own = some m.cls)
    (w1 : (Jvm.Cond.methodLink own index y).before a0 Z = true) (w2 : (Jvm.Cond.instanceMethod y).before a0 Z = true) (w3 : (Jvm.Cond.initialized y.cls).before a0 Z = true) (w4 : (Jvm.Cond.code y bytes maxL none).before a0 Z = true) (hy : y.cls ≠ "java/lang/invoke/MethodHandle" ∧ y.cls ≠ "java/lang/invoke/VarHandle")
    (hM : OCon l y bytes maxL none [] rm Z as' h Q) (W : Nat) (hf : rm.frames + 1 ≤ R.frames) (hl : W + (maxL + 11) + rm.locals ≤ R.locals) {g : JFrame} (hg : g.method = m) (hsize : g.locals.size = c.maxLocals) {a : Addr} {argsL rest : List Value} (hlen : ∀ sig, parseMethodDescriptor y.desc = some sig → argsL.length = sig.parameters.length)
    (hstack : g.stack = argsL.reverse ++ .ref a :: rest) (hW : 2 * g.monitorRoom + (rest.map fun v => v.category).sum ≤ W) (hd : decode c.code g.pc = .ok (.invokespecial index, 3)) (has : (.ref a :: argsL).toArray = as') (eT : T.heap = h) (hc : cells + rm.cells ≤ R.cells) (hs : slots + rm.slots ≤ R.slots) :
    ∃ (v : Option Value) (T' : State) (L : List Loc), Stand p l e R s m args below meth c T' (locs ++ L) (cells + rm.cells) (slots + rm.slots) ∧ Q v T'.heap L ∧ Steps p.tables e below (T.setTop g) (T'.setTop { g with pc := g.pc + 3, stack := v.toList ++ rest }) := by
  obtain ⟨v, _, ⟨T1, L1, k1, n1⟩, -, X1, ⟨Lc, hQ, l1, y1, z1⟩, st⟩ := X.specialBack hx (y := y) hy1 hown (mvT hZ w1) (mvT hZ w2) (mvT hZ w4) hy (backOf (W := W) hM hZ w4 w3 hf hl) (g := g) hg hsize (Steps.refl _) (a := a) (argsL := argsL) (rest := rest) hlen hstack hW hd (fun _ _ => ⟨has, eT, hc, hs⟩)
  dsimp only [Pt.U, Pt.locs, Pt.cells, Pt.slots] at X1 l1 y1 z1 st hQ
  subst l1 y1 z1
  exact ⟨v, T1, Lc, X1, hQ, st⟩
theorem wVirtual (X : Stand p l e R s m args below meth c T locs cells slots) (hx : p.tables.exec = Jvm.exec) (hZ : Z.Warmed39 s.vm) {own C : String} {index : Nat} {y z : MethodName} {bytes : ByteArray} {maxL : Nat} {rt : Option FieldType} {rm : Room} {as' : Array Value} (hown : s.vm.findClass own = some m.cls)
    (w1 : (Jvm.Cond.methodLink own index y).before a0 Z = true) (w2 : (Jvm.Cond.declares y).before a0 Z = true) (nf : NotFace s y) (w5 : (Jvm.Cond.selects C y z).before a0 Z = true) (w6 : (Jvm.Cond.instanceMethod z).before a0 Z = true) (w3 : (Jvm.Cond.initialized z.cls).before a0 Z = true) (w4 : (Jvm.Cond.code z bytes maxL rt).before a0 Z = true)
    (hy : y.cls ≠ "java/lang/invoke/MethodHandle" ∧ y.cls ≠ "java/lang/invoke/VarHandle") (hM : OCon l z bytes maxL rt [] rm Z as' h Q) (W : Nat) (hf : rm.frames + 1 ≤ R.frames) (hl : W + (maxL + 11) + rm.locals ≤ R.locals) {b : Addr} (E : Exa Z h b C) {g : JFrame} (hg : g.method = m) (hsize : g.locals.size = c.maxLocals) {argsL rest : List Value} (hlen : ∀ sig, parseMethodDescriptor y.desc = some sig → argsL.length = sig.parameters.length)
    (hstack : g.stack = argsL.reverse ++ .ref b :: rest) (hW : 2 * g.monitorRoom + (rest.map fun v => v.category).sum ≤ W) (hd : decode c.code g.pc = .ok (.invokevirtual index, 3)) (has : (.ref b :: argsL).toArray = as') (eT : T.heap = h) (hc : cells + rm.cells ≤ R.cells) (hs : slots + rm.slots ≤ R.slots) :
    ∃ (v : Option Value) (T' : State) (L : List Loc), Stand p l e R s m args below meth c T' (locs ++ L) (cells + rm.cells) (slots + rm.slots) ∧ Q v T'.heap L ∧ Steps p.tables e below (T.setTop g) (T'.setTop { g with pc := g.pc + 3, stack := v.toList ++ rest }) := by
  obtain ⟨cq, kq, qa, qb, qc⟩ := isOf hZ eT E
  obtain ⟨v, _, ⟨T1, L1, k1, n1⟩, -, X1, ⟨Lc, hQ, l1, y1, z1⟩, st⟩ := X.virtualBack hx (y := y) (z := z) hown (mvT hZ w1) (mvT hZ w2) nf (mvT hZ w5) (mvT hZ w6) hy (backOf (W := W) hM hZ w4 w3 hf hl) qa qc (g := g) hg hsize (Steps.refl _) (argsL := argsL) (rest := rest) hlen hstack hW hd (fun _ _ => ⟨has, eT, hc, hs⟩)
  dsimp only [Pt.U, Pt.locs, Pt.cells, Pt.slots] at X1 l1 y1 z1 st hQ
  subst l1 y1 z1
  exact ⟨v, T1, Lc, X1, hQ, st⟩
end Own
end Jvm.Pilot.@@N@@
namespace Jvm.Pilot.@@N@@
open Jvm Jvm.ClassFile Sem Op Lib Jvm.Free Jvm.Stand Jvm.LawKit Jvm.RoadKit Bundle Jvm.Pilot.@@N@@.Jvm.D
theorem pn_java_lang_Record : plainName "java/lang/Record" = true := by first | (simp [plainName, overriddenIn]; done) | decide +kernel
theorem d2_0 : decode jdk_30_method_1_code 0 = .ok (.aload_n 0, 1) := by decide +kernel
theorem d2_1 : decode jdk_30_method_1_code 1 = .ok (.invokespecial 1, 3) := by decide +kernel
theorem d2_4 : decode jdk_30_method_1_code 4 = .ok (.return_, 1) := by decide +kernel
def recinit_rm : Room := { frames := 1, cells := 0, slots := 0, locals := 12 }
def recinit_Q (Z : State) (a0 : Addr) (h0 : Heap) (n0 : Nat) (v : Option Value) (h : Heap) (L : List Loc) : Prop := (v = none) ∧ (Fr n0 L) ∧ (h = h0)
theorem recinit_ef (m : MethodId) (a0 : Addr) : entryFrame m #[(.ref a0)] 1 = mkF m 0 #[.val (.ref a0)] [] := by first | (simp [entryFrame, mkF, argsToLocals, Value.category]; done) | rfl
set_option maxRecDepth 65536 in
set_option maxHeartbeats 40000000 in
theorem recinit_c (l : Launch) (Z : State) (az : Array Value) (hw : ∀ d ∈ tables_1, d.before az Z = true) (ws : List Jvm.Cond) (a0 : Addr) (h0 : Heap) (n0 : Nat) (Z0 : n0 ≤ h0.size) :
    OCon l (⟨"java/lang/Record", "<init>", "()V"⟩ : MethodName) jdk_30_method_1_code 1 none ws recinit_rm Z #[(.ref a0)] h0 (recinit_Q Z a0 h0 n0) := by
  refine ocon (plainFor_of_name pn_java_lang_Record) ?_
  intro p e s m below meth c s₁ hx hby hml hown hnm hret hlk hZ X0 eh0
  have N0 := Fr.nil n0
  have K0 := Keep.refl h0 []
  refine ogoE (recinit_ef m a0) ?_
  generalize hG : (OEnd s below (recinit_Q Z a0 h0 n0) recinit_rm.cells recinit_rm.slots) = G
  show OWay p e below G s₁ (mkF m 0 #[.val (.ref a0)] [])
  refine ogo (fun _ z_ => XS.aloadN X0.here hx rfl (hb hby d2_0) rfl rfl z_) ?_
  show OWay p e below G s₁ (mkF m 1 #[.val (.ref a0)] [(.ref a0)])
  obtain ⟨T1, X1, eT1, st1⟩ := initO X0 hx hZ hown (hw _ (List.mem_of_getElem? (i := 11) rfl)) (hw _ (List.mem_of_getElem? (i := 12) rfl)) (hw _ (List.mem_of_getElem? (i := 13) rfl)) eh0 (g := (mkF m 1 #[.val (.ref a0)] [(.ref a0)])) rfl (by rw [hml]; rfl) rfl (hb hby d2_1) (by decide) (W := 0) (by show 2 * 0 + _ ≤ _; exact Nat.le_of_eq rfl) (by decide)
  refine ogo st1 ?_
  show OWay p e below G T1 (mkF m 4 #[.val (.ref a0)] [])
  subst hG
  refine wRetV X1 hx hret hlk (hb hby d2_4) (by decide) (by decide) eT1 ?_
  exact ⟨rfl, N0, rfl⟩
theorem pn_com_example_wakeline_wakeline_similarity_SearchCounts : plainName "com/example/wakeline/wakeline/similarity/SearchCounts" = true := by first | (simp [plainName, overriddenIn]; done) | decide +kernel
theorem d1_0 : decode prog_45_method_1_code 0 = .ok (.aload_n 0, 1) := by decide +kernel
theorem d1_1 : decode prog_45_method_1_code 1 = .ok (.invokespecial 1, 3) := by decide +kernel
theorem pd___V : parseMethodDescriptor "()V" = some ⟨[], none⟩ := by decide +kernel
theorem d1_4 : decode prog_45_method_1_code 4 = .ok (.aload_n 0, 1) := by decide +kernel
theorem d1_5 : decode prog_45_method_1_code 5 = .ok (.lload_n 1, 1) := by decide +kernel
theorem d1_6 : decode prog_45_method_1_code 6 = .ok (.putfield 7, 3) := by decide +kernel
theorem d1_9 : decode prog_45_method_1_code 9 = .ok (.aload_n 0, 1) := by decide +kernel
theorem d1_10 : decode prog_45_method_1_code 10 = .ok (.lload_n 3, 1) := by decide +kernel
theorem d1_11 : decode prog_45_method_1_code 11 = .ok (.putfield 13, 3) := by decide +kernel
theorem d1_14 : decode prog_45_method_1_code 14 = .ok (.aload_n 0, 1) := by decide +kernel
theorem d1_15 : decode prog_45_method_1_code 15 = .ok (.lload 5, 2) := by decide +kernel
theorem d1_17 : decode prog_45_method_1_code 17 = .ok (.putfield 16, 3) := by decide +kernel
theorem d1_20 : decode prog_45_method_1_code 20 = .ok (.aload_n 0, 1) := by decide +kernel
theorem d1_21 : decode prog_45_method_1_code 21 = .ok (.lload 7, 2) := by decide +kernel
theorem d1_23 : decode prog_45_method_1_code 23 = .ok (.putfield 19, 3) := by decide +kernel
theorem d1_26 : decode prog_45_method_1_code 26 = .ok (.return_, 1) := by decide +kernel
def ctor1_rm : Room := { frames := 2, cells := 0, slots := 0, locals := 24 }
def ctor1_Q (Z : State) (a0 : Addr) (q1 : Int64) (q2 : Int64) (q3 : Int64) (q4 : Int64) (h0 : Heap) (n0 : Nat) (v : Option Value) (h : Heap) (L : List Loc) : Prop := (v = none) ∧ (Fr n0 L) ∧ (Keep h0 h [a0]) ∧ (Fld Z h a0 "com/example/wakeline/wakeline/similarity/SearchCounts" "retrieved" "J" (.long q1)) ∧ (Fld Z h a0 "com/example/wakeline/wakeline/similarity/SearchCounts" "elementRetrieved" "J" (.long q2)) ∧ (Fld Z h a0 "com/example/wakeline/wakeline/similarity/SearchCounts" "refined" "J" (.long q3)) ∧ (Fld Z h a0 "com/example/wakeline/wakeline/similarity/SearchCounts" "results" "J" (.long q4))
theorem ctor1_ef (m : MethodId) (a0 : Addr) (q1 : Int64) (q2 : Int64) (q3 : Int64) (q4 : Int64) : entryFrame m #[(.ref a0), (.long q1), (.long q2), (.long q3), (.long q4)] 9 = mkF m 0 #[.val (.ref a0), .val (.long q1), .second, .val (.long q2), .second, .val (.long q3), .second, .val (.long q4), .second] [] := by first | (simp [entryFrame, mkF, argsToLocals, Value.category]; done) | rfl
set_option maxRecDepth 65536 in
set_option maxHeartbeats 40000000 in
theorem ctor1_c (l : Launch) (Z : State) (az : Array Value) (hw : ∀ d ∈ tables_1, d.before az Z = true) (ws : List Jvm.Cond) (a0 : Addr) (q1 : Int64) (q2 : Int64) (q3 : Int64) (q4 : Int64) (h0 : Heap) (n0 : Nat) (Z0 : n0 ≤ h0.size) (hp0 : Exa Z h0 a0 "com/example/wakeline/wakeline/similarity/SearchCounts") (hp1 : n0 ≤ a0) (hp2 : Fld Z h0 a0 "com/example/wakeline/wakeline/similarity/SearchCounts" "retrieved" "J" (.long (0 : Int64))) (hp3 : Fld Z h0 a0 "com/example/wakeline/wakeline/similarity/SearchCounts" "elementRetrieved" "J" (.long (0 : Int64))) (hp4 : Fld Z h0 a0 "com/example/wakeline/wakeline/similarity/SearchCounts" "refined" "J" (.long (0 : Int64))) (hp5 : Fld Z h0 a0 "com/example/wakeline/wakeline/similarity/SearchCounts" "results" "J" (.long (0 : Int64))) :
    OCon l (⟨"com/example/wakeline/wakeline/similarity/SearchCounts", "<init>", "(JJJJ)V"⟩ : MethodName) prog_45_method_1_code 9 none ws ctor1_rm Z #[(.ref a0), (.long q1), (.long q2), (.long q3), (.long q4)] h0 (ctor1_Q Z a0 q1 q2 q3 q4 h0 n0) := by
  refine ocon (plainFor_of_name pn_com_example_wakeline_wakeline_similarity_SearchCounts) ?_
  intro p e s m below meth c s₁ hx hby hml hown hnm hret hlk hZ X0 eh0
  have N0 := Fr.nil n0
  have K0 := Keep.refl h0 [a0]
  refine ogoE (ctor1_ef m a0 q1 q2 q3 q4) ?_
  have g_a0 := hp1
  generalize hG : (OEnd s below (ctor1_Q Z a0 q1 q2 q3 q4 h0 n0) ctor1_rm.cells ctor1_rm.slots) = G
  show OWay p e below G s₁ (mkF m 0 #[.val (.ref a0), .val (.long q1), .second, .val (.long q2), .second, .val (.long q3), .second, .val (.long q4), .second] [])
  refine ogo (fun _ z_ => XS.aloadN X0.here hx rfl (hb hby d1_0) rfl rfl z_) ?_
  show OWay p e below G s₁ (mkF m 1 #[.val (.ref a0), .val (.long q1), .second, .val (.long q2), .second, .val (.long q3), .second, .val (.long q4), .second] [(.ref a0)])
  obtain ⟨_, T1, L1, X1, hQ1, st1⟩ := wInit X0 hx hZ (y := (⟨"java/lang/Record", "<init>", "()V"⟩ : MethodName)) rfl hown (hw _ (List.mem_of_getElem? (i := 6) rfl)) (hw _ (List.mem_of_getElem? (i := 7) rfl)) (hw _ (List.mem_of_getElem? (i := 9) rfl)) (hw _ (List.mem_of_getElem? (i := 10) rfl)) (by decide) (recinit_c l Z az hw [] a0 h0 n0 Z0) 0 (by decide) (by decide) (g := (mkF m 1 #[.val (.ref a0), .val (.long q1), .second, .val (.long q2), .second, .val (.long q3), .second, .val (.long q4), .second] [(.ref a0)])) rfl (by rw [hml]; rfl) (a := a0) (argsL := []) (rest := []) (lenOf pd___V rfl) rfl (by show 2 * 0 + _ ≤ _; exact Nat.le_of_eq rfl) (hb hby d1_1) rfl eh0 (by decide) (by decide)
  obtain ⟨rfl, N1q, eq1⟩ := hQ1
  have N1 := Fr.app N0 N1q
  refine ogoS st1 ?_
  show OWay p e below G T1 (mkF m 4 #[.val (.ref a0), .val (.long q1), .second, .val (.long q2), .second, .val (.long q3), .second, .val (.long q4), .second] [])
  refine ogo (fun _ z_ => XS.aloadN X1.here hx rfl (hb hby d1_4) rfl rfl z_) ?_
  show OWay p e below G T1 (mkF m 5 #[.val (.ref a0), .val (.long q1), .second, .val (.long q2), .second, .val (.long q3), .second, .val (.long q4), .second] [(.ref a0)])
  refine ogo (fun _ z_ => XS.lloadN X1.here hx rfl (hb hby d1_5) rfl z_) ?_
  show OWay p e below G T1 (mkF m 6 #[.val (.ref a0), .val (.long q1), .second, .val (.long q2), .second, .val (.long q3), .second, .val (.long q4), .second] [(.long q1), (.ref a0)])
  obtain ⟨T2, h2, X2, eT2, W2, st2⟩ := putF X1 hx hZ hown (host := "") (Or.inl (hw _ (List.mem_of_getElem? (i := 14) rfl))) Via.refl eq1 hp2 hp0 (Or.inr ⟨(hw _ (List.mem_of_getElem? (i := 15) rfl)), rfl, hnm⟩) (hw _ (List.mem_of_getElem? (i := 1) rfl)) (ty := .long) (by decide) rfl rfl (g := (mkF m 6 #[.val (.ref a0), .val (.long q1), .second, .val (.long q2), .second, .val (.long q3), .second, .val (.long q4), .second] [(.long q1), (.ref a0)])) rfl rfl (hb hby d1_6)
  have K3 : Keep h0 h2 [a0] := K0.wr W2 (Or.inl (List.mem_of_getElem? (i := 0) rfl))
  have Fw2 : Fld Z h2 a0 "com/example/wakeline/wakeline/similarity/SearchCounts" "retrieved" "J" (.long q1) := hp2.same W2
  have N2 := Fr.snoc X2 N1 g_a0
  refine ogo st2 ?_
  show OWay p e below G T2 (mkF m 9 #[.val (.ref a0), .val (.long q1), .second, .val (.long q2), .second, .val (.long q3), .second, .val (.long q4), .second] [])
  refine ogo (fun _ z_ => XS.aloadN X2.here hx rfl (hb hby d1_9) rfl rfl z_) ?_
  show OWay p e below G T2 (mkF m 10 #[.val (.ref a0), .val (.long q1), .second, .val (.long q2), .second, .val (.long q3), .second, .val (.long q4), .second] [(.ref a0)])
  refine ogo (fun _ z_ => XS.lloadN X2.here hx rfl (hb hby d1_10) rfl z_) ?_
  show OWay p e below G T2 (mkF m 11 #[.val (.ref a0), .val (.long q1), .second, .val (.long q2), .second, .val (.long q3), .second, .val (.long q4), .second] [(.long q2), (.ref a0)])
  have F4 : Exa Z h2 a0 "com/example/wakeline/wakeline/similarity/SearchCounts" := (hp0.wr W2)
  have F5 : Fld Z h2 a0 "com/example/wakeline/wakeline/similarity/SearchCounts" "elementRetrieved" "J" (.long (0 : Int64)) := (hp3.other W2 (Or.inr (slot_ne (Or.inr (hw _ (List.mem_of_getElem? (i := 17) rfl))) (Or.inr (hw _ (List.mem_of_getElem? (i := 15) rfl))) (by decide) (t := .long) (t' := .long) (by decide) (by decide))))
  obtain ⟨T6, h6, X6, eT6, W6, st6⟩ := putF X2 hx hZ hown (host := "") (Or.inl (hw _ (List.mem_of_getElem? (i := 16) rfl))) Via.refl eT2 F5 F4 (Or.inr ⟨(hw _ (List.mem_of_getElem? (i := 17) rfl)), rfl, hnm⟩) (hw _ (List.mem_of_getElem? (i := 1) rfl)) (ty := .long) (by decide) rfl rfl (g := (mkF m 11 #[.val (.ref a0), .val (.long q1), .second, .val (.long q2), .second, .val (.long q3), .second, .val (.long q4), .second] [(.long q2), (.ref a0)])) rfl rfl (hb hby d1_11)
  have K7 : Keep h0 h6 [a0] := K3.wr W6 (Or.inl (List.mem_of_getElem? (i := 0) rfl))
  have Fw6 : Fld Z h6 a0 "com/example/wakeline/wakeline/similarity/SearchCounts" "elementRetrieved" "J" (.long q2) := F5.same W6
  have N6 := Fr.snoc X6 N2 g_a0
  refine ogo st6 ?_
  show OWay p e below G T6 (mkF m 14 #[.val (.ref a0), .val (.long q1), .second, .val (.long q2), .second, .val (.long q3), .second, .val (.long q4), .second] [])
  refine ogo (fun _ z_ => XS.aloadN X6.here hx rfl (hb hby d1_14) rfl rfl z_) ?_
  show OWay p e below G T6 (mkF m 15 #[.val (.ref a0), .val (.long q1), .second, .val (.long q2), .second, .val (.long q3), .second, .val (.long q4), .second] [(.ref a0)])
  refine ogo (fun _ z_ => XS.lload X6.here hx rfl (hb hby d1_15) rfl z_) ?_
  show OWay p e below G T6 (mkF m 17 #[.val (.ref a0), .val (.long q1), .second, .val (.long q2), .second, .val (.long q3), .second, .val (.long q4), .second] [(.long q3), (.ref a0)])
  have F8 : Exa Z h6 a0 "com/example/wakeline/wakeline/similarity/SearchCounts" := (F4.wr W6)
  have F9 : Fld Z h6 a0 "com/example/wakeline/wakeline/similarity/SearchCounts" "refined" "J" (.long (0 : Int64)) := ((hp4.other W2 (Or.inr (slot_ne (Or.inr (hw _ (List.mem_of_getElem? (i := 19) rfl))) (Or.inr (hw _ (List.mem_of_getElem? (i := 15) rfl))) (by decide) (t := .long) (t' := .long) (by decide) (by decide)))).other W6 (Or.inr (slot_ne (Or.inr (hw _ (List.mem_of_getElem? (i := 19) rfl))) (Or.inr (hw _ (List.mem_of_getElem? (i := 17) rfl))) (by decide) (t := .long) (t' := .long) (by decide) (by decide))))
  obtain ⟨T10, h10, X10, eT10, W10, st10⟩ := putF X6 hx hZ hown (host := "") (Or.inl (hw _ (List.mem_of_getElem? (i := 18) rfl))) Via.refl eT6 F9 F8 (Or.inr ⟨(hw _ (List.mem_of_getElem? (i := 19) rfl)), rfl, hnm⟩) (hw _ (List.mem_of_getElem? (i := 1) rfl)) (ty := .long) (by decide) rfl rfl (g := (mkF m 17 #[.val (.ref a0), .val (.long q1), .second, .val (.long q2), .second, .val (.long q3), .second, .val (.long q4), .second] [(.long q3), (.ref a0)])) rfl rfl (hb hby d1_17)
  have K11 : Keep h0 h10 [a0] := K7.wr W10 (Or.inl (List.mem_of_getElem? (i := 0) rfl))
  have Fw10 : Fld Z h10 a0 "com/example/wakeline/wakeline/similarity/SearchCounts" "refined" "J" (.long q3) := F9.same W10
  have N10 := Fr.snoc X10 N6 g_a0
  refine ogo st10 ?_
  show OWay p e below G T10 (mkF m 20 #[.val (.ref a0), .val (.long q1), .second, .val (.long q2), .second, .val (.long q3), .second, .val (.long q4), .second] [])
  refine ogo (fun _ z_ => XS.aloadN X10.here hx rfl (hb hby d1_20) rfl rfl z_) ?_
  show OWay p e below G T10 (mkF m 21 #[.val (.ref a0), .val (.long q1), .second, .val (.long q2), .second, .val (.long q3), .second, .val (.long q4), .second] [(.ref a0)])
  refine ogo (fun _ z_ => XS.lload X10.here hx rfl (hb hby d1_21) rfl z_) ?_
  show OWay p e below G T10 (mkF m 23 #[.val (.ref a0), .val (.long q1), .second, .val (.long q2), .second, .val (.long q3), .second, .val (.long q4), .second] [(.long q4), (.ref a0)])
  have F12 : Exa Z h10 a0 "com/example/wakeline/wakeline/similarity/SearchCounts" := (F8.wr W10)
  have F13 : Fld Z h10 a0 "com/example/wakeline/wakeline/similarity/SearchCounts" "results" "J" (.long (0 : Int64)) := (((hp5.other W2 (Or.inr (slot_ne (Or.inr (hw _ (List.mem_of_getElem? (i := 21) rfl))) (Or.inr (hw _ (List.mem_of_getElem? (i := 15) rfl))) (by decide) (t := .long) (t' := .long) (by decide) (by decide)))).other W6 (Or.inr (slot_ne (Or.inr (hw _ (List.mem_of_getElem? (i := 21) rfl))) (Or.inr (hw _ (List.mem_of_getElem? (i := 17) rfl))) (by decide) (t := .long) (t' := .long) (by decide) (by decide)))).other W10 (Or.inr (slot_ne (Or.inr (hw _ (List.mem_of_getElem? (i := 21) rfl))) (Or.inr (hw _ (List.mem_of_getElem? (i := 19) rfl))) (by decide) (t := .long) (t' := .long) (by decide) (by decide))))
  obtain ⟨T14, h14, X14, eT14, W14, st14⟩ := putF X10 hx hZ hown (host := "") (Or.inl (hw _ (List.mem_of_getElem? (i := 20) rfl))) Via.refl eT10 F13 F12 (Or.inr ⟨(hw _ (List.mem_of_getElem? (i := 21) rfl)), rfl, hnm⟩) (hw _ (List.mem_of_getElem? (i := 1) rfl)) (ty := .long) (by decide) rfl rfl (g := (mkF m 23 #[.val (.ref a0), .val (.long q1), .second, .val (.long q2), .second, .val (.long q3), .second, .val (.long q4), .second] [(.long q4), (.ref a0)])) rfl rfl (hb hby d1_23)
  have K15 : Keep h0 h14 [a0] := K11.wr W14 (Or.inl (List.mem_of_getElem? (i := 0) rfl))
  have Fw14 : Fld Z h14 a0 "com/example/wakeline/wakeline/similarity/SearchCounts" "results" "J" (.long q4) := F13.same W14
  have N14 := Fr.snoc X14 N10 g_a0
  refine ogo st14 ?_
  show OWay p e below G T14 (mkF m 26 #[.val (.ref a0), .val (.long q1), .second, .val (.long q2), .second, .val (.long q3), .second, .val (.long q4), .second] [])
  subst hG
  refine wRetV X14 hx hret hlk (hb hby d1_26) (by decide) (by decide) eT14 ?_
  exact ⟨rfl, N14, K15, (((Fw2.other W6 (Or.inr (slot_ne (Or.inr (hw _ (List.mem_of_getElem? (i := 15) rfl))) (Or.inr (hw _ (List.mem_of_getElem? (i := 17) rfl))) (by decide) (t := .long) (t' := .long) (by decide) (by decide)))).other W10 (Or.inr (slot_ne (Or.inr (hw _ (List.mem_of_getElem? (i := 15) rfl))) (Or.inr (hw _ (List.mem_of_getElem? (i := 19) rfl))) (by decide) (t := .long) (t' := .long) (by decide) (by decide)))).other W14 (Or.inr (slot_ne (Or.inr (hw _ (List.mem_of_getElem? (i := 15) rfl))) (Or.inr (hw _ (List.mem_of_getElem? (i := 21) rfl))) (by decide) (t := .long) (t' := .long) (by decide) (by decide)))), ((Fw6.other W10 (Or.inr (slot_ne (Or.inr (hw _ (List.mem_of_getElem? (i := 17) rfl))) (Or.inr (hw _ (List.mem_of_getElem? (i := 19) rfl))) (by decide) (t := .long) (t' := .long) (by decide) (by decide)))).other W14 (Or.inr (slot_ne (Or.inr (hw _ (List.mem_of_getElem? (i := 17) rfl))) (Or.inr (hw _ (List.mem_of_getElem? (i := 21) rfl))) (by decide) (t := .long) (t' := .long) (by decide) (by decide)))), (Fw10.other W14 (Or.inr (slot_ne (Or.inr (hw _ (List.mem_of_getElem? (i := 19) rfl))) (Or.inr (hw _ (List.mem_of_getElem? (i := 21) rfl))) (by decide) (t := .long) (t' := .long) (by decide) (by decide)))), Fw14⟩
theorem d5_0 : decode prog_45_method_6_code 0 = .ok (.aload_n 0, 1) := by decide +kernel
theorem d5_1 : decode prog_45_method_6_code 1 = .ok (.getfield 7, 3) := by decide +kernel
theorem d5_4 : decode prog_45_method_6_code 4 = .ok (.lreturn, 1) := by decide +kernel
def get5_rm : Room := { frames := 0, cells := 0, slots := 0, locals := 0 }
def get5_Q (Z : State) (a0 : Addr) (w : Int64) (h0 : Heap) (n0 : Nat) (v : Option Value) (h : Heap) (L : List Loc) : Prop := (v = some (.long w)) ∧ (Fr n0 L) ∧ (h = h0)
theorem get5_ef (m : MethodId) (a0 : Addr) : entryFrame m #[(.ref a0)] 1 = mkF m 0 #[.val (.ref a0)] [] := by first | (simp [entryFrame, mkF, argsToLocals, Value.category]; done) | rfl
set_option maxRecDepth 65536 in
set_option maxHeartbeats 40000000 in
theorem get5_c (l : Launch) (Z : State) (az : Array Value) (hw : ∀ d ∈ tables_1, d.before az Z = true) (ws : List Jvm.Cond) (a0 : Addr) (w : Int64) (h0 : Heap) (n0 : Nat) (Z0 : n0 ≤ h0.size) (hp0 : Fld Z h0 a0 "com/example/wakeline/wakeline/similarity/SearchCounts" "retrieved" "J" (.long w)) :
    OCon l (⟨"com/example/wakeline/wakeline/similarity/SearchCounts", "retrieved", "()J"⟩ : MethodName) prog_45_method_6_code 1 (some .long) ws get5_rm Z #[(.ref a0)] h0 (get5_Q Z a0 w h0 n0) := by
  refine ocon (plainFor_of_name pn_com_example_wakeline_wakeline_similarity_SearchCounts) ?_
  intro p e s m below meth c s₁ hx hby hml hown hnm hret hlk hZ X0 eh0
  have N0 := Fr.nil n0
  have K0 := Keep.refl h0 []
  refine ogoE (get5_ef m a0) ?_
  generalize hG : (OEnd s below (get5_Q Z a0 w h0 n0) get5_rm.cells get5_rm.slots) = G
  show OWay p e below G s₁ (mkF m 0 #[.val (.ref a0)] [])
  refine ogo (fun _ z_ => XS.aloadN X0.here hx rfl (hb hby d5_0) rfl rfl z_) ?_
  show OWay p e below G s₁ (mkF m 1 #[.val (.ref a0)] [(.ref a0)])
  obtain ⟨T1, X1, eT1, st1⟩ := getF X0 hx hZ hown (host := "") (Or.inl (hw _ (List.mem_of_getElem? (i := 14) rfl))) Via.refl eh0 hp0 (g := (mkF m 1 #[.val (.ref a0)] [(.ref a0)])) rfl rfl (hb hby d5_1)
  refine ogo st1 ?_
  show OWay p e below G T1 (mkF m 4 #[.val (.ref a0)] [(.long w)])
  subst hG
  refine wRet X1 hx hret hlk rfl (Or.inr (Or.inl ⟨rfl, rfl, _, rfl⟩)) (hb hby d5_4) (by decide) (by decide) eT1 ?_
  exact ⟨rfl, N0, rfl⟩
theorem d6_0 : decode prog_45_method_7_code 0 = .ok (.aload_n 0, 1) := by decide +kernel
theorem d6_1 : decode prog_45_method_7_code 1 = .ok (.getfield 13, 3) := by decide +kernel
theorem d6_4 : decode prog_45_method_7_code 4 = .ok (.lreturn, 1) := by decide +kernel
def get6_rm : Room := { frames := 0, cells := 0, slots := 0, locals := 0 }
def get6_Q (Z : State) (a0 : Addr) (w : Int64) (h0 : Heap) (n0 : Nat) (v : Option Value) (h : Heap) (L : List Loc) : Prop := (v = some (.long w)) ∧ (Fr n0 L) ∧ (h = h0)
theorem get6_ef (m : MethodId) (a0 : Addr) : entryFrame m #[(.ref a0)] 1 = mkF m 0 #[.val (.ref a0)] [] := by first | (simp [entryFrame, mkF, argsToLocals, Value.category]; done) | rfl
set_option maxRecDepth 65536 in
set_option maxHeartbeats 40000000 in
theorem get6_c (l : Launch) (Z : State) (az : Array Value) (hw : ∀ d ∈ tables_1, d.before az Z = true) (ws : List Jvm.Cond) (a0 : Addr) (w : Int64) (h0 : Heap) (n0 : Nat) (Z0 : n0 ≤ h0.size) (hp0 : Fld Z h0 a0 "com/example/wakeline/wakeline/similarity/SearchCounts" "elementRetrieved" "J" (.long w)) :
    OCon l (⟨"com/example/wakeline/wakeline/similarity/SearchCounts", "elementRetrieved", "()J"⟩ : MethodName) prog_45_method_7_code 1 (some .long) ws get6_rm Z #[(.ref a0)] h0 (get6_Q Z a0 w h0 n0) := by
  refine ocon (plainFor_of_name pn_com_example_wakeline_wakeline_similarity_SearchCounts) ?_
  intro p e s m below meth c s₁ hx hby hml hown hnm hret hlk hZ X0 eh0
  have N0 := Fr.nil n0
  have K0 := Keep.refl h0 []
  refine ogoE (get6_ef m a0) ?_
  generalize hG : (OEnd s below (get6_Q Z a0 w h0 n0) get6_rm.cells get6_rm.slots) = G
  show OWay p e below G s₁ (mkF m 0 #[.val (.ref a0)] [])
  refine ogo (fun _ z_ => XS.aloadN X0.here hx rfl (hb hby d6_0) rfl rfl z_) ?_
  show OWay p e below G s₁ (mkF m 1 #[.val (.ref a0)] [(.ref a0)])
  obtain ⟨T1, X1, eT1, st1⟩ := getF X0 hx hZ hown (host := "") (Or.inl (hw _ (List.mem_of_getElem? (i := 16) rfl))) Via.refl eh0 hp0 (g := (mkF m 1 #[.val (.ref a0)] [(.ref a0)])) rfl rfl (hb hby d6_1)
  refine ogo st1 ?_
  show OWay p e below G T1 (mkF m 4 #[.val (.ref a0)] [(.long w)])
  subst hG
  refine wRet X1 hx hret hlk rfl (Or.inr (Or.inl ⟨rfl, rfl, _, rfl⟩)) (hb hby d6_4) (by decide) (by decide) eT1 ?_
  exact ⟨rfl, N0, rfl⟩
theorem d7_0 : decode prog_45_method_8_code 0 = .ok (.aload_n 0, 1) := by decide +kernel
theorem d7_1 : decode prog_45_method_8_code 1 = .ok (.getfield 16, 3) := by decide +kernel
theorem d7_4 : decode prog_45_method_8_code 4 = .ok (.lreturn, 1) := by decide +kernel
def get7_rm : Room := { frames := 0, cells := 0, slots := 0, locals := 0 }
def get7_Q (Z : State) (a0 : Addr) (w : Int64) (h0 : Heap) (n0 : Nat) (v : Option Value) (h : Heap) (L : List Loc) : Prop := (v = some (.long w)) ∧ (Fr n0 L) ∧ (h = h0)
theorem get7_ef (m : MethodId) (a0 : Addr) : entryFrame m #[(.ref a0)] 1 = mkF m 0 #[.val (.ref a0)] [] := by first | (simp [entryFrame, mkF, argsToLocals, Value.category]; done) | rfl
set_option maxRecDepth 65536 in
set_option maxHeartbeats 40000000 in
theorem get7_c (l : Launch) (Z : State) (az : Array Value) (hw : ∀ d ∈ tables_1, d.before az Z = true) (ws : List Jvm.Cond) (a0 : Addr) (w : Int64) (h0 : Heap) (n0 : Nat) (Z0 : n0 ≤ h0.size) (hp0 : Fld Z h0 a0 "com/example/wakeline/wakeline/similarity/SearchCounts" "refined" "J" (.long w)) :
    OCon l (⟨"com/example/wakeline/wakeline/similarity/SearchCounts", "refined", "()J"⟩ : MethodName) prog_45_method_8_code 1 (some .long) ws get7_rm Z #[(.ref a0)] h0 (get7_Q Z a0 w h0 n0) := by
  refine ocon (plainFor_of_name pn_com_example_wakeline_wakeline_similarity_SearchCounts) ?_
  intro p e s m below meth c s₁ hx hby hml hown hnm hret hlk hZ X0 eh0
  have N0 := Fr.nil n0
  have K0 := Keep.refl h0 []
  refine ogoE (get7_ef m a0) ?_
  generalize hG : (OEnd s below (get7_Q Z a0 w h0 n0) get7_rm.cells get7_rm.slots) = G
  show OWay p e below G s₁ (mkF m 0 #[.val (.ref a0)] [])
  refine ogo (fun _ z_ => XS.aloadN X0.here hx rfl (hb hby d7_0) rfl rfl z_) ?_
  show OWay p e below G s₁ (mkF m 1 #[.val (.ref a0)] [(.ref a0)])
  obtain ⟨T1, X1, eT1, st1⟩ := getF X0 hx hZ hown (host := "") (Or.inl (hw _ (List.mem_of_getElem? (i := 18) rfl))) Via.refl eh0 hp0 (g := (mkF m 1 #[.val (.ref a0)] [(.ref a0)])) rfl rfl (hb hby d7_1)
  refine ogo st1 ?_
  show OWay p e below G T1 (mkF m 4 #[.val (.ref a0)] [(.long w)])
  subst hG
  refine wRet X1 hx hret hlk rfl (Or.inr (Or.inl ⟨rfl, rfl, _, rfl⟩)) (hb hby d7_4) (by decide) (by decide) eT1 ?_
  exact ⟨rfl, N0, rfl⟩
theorem d8_0 : decode prog_45_method_9_code 0 = .ok (.aload_n 0, 1) := by decide +kernel
theorem d8_1 : decode prog_45_method_9_code 1 = .ok (.getfield 19, 3) := by decide +kernel
theorem d8_4 : decode prog_45_method_9_code 4 = .ok (.lreturn, 1) := by decide +kernel
def get8_rm : Room := { frames := 0, cells := 0, slots := 0, locals := 0 }
def get8_Q (Z : State) (a0 : Addr) (w : Int64) (h0 : Heap) (n0 : Nat) (v : Option Value) (h : Heap) (L : List Loc) : Prop := (v = some (.long w)) ∧ (Fr n0 L) ∧ (h = h0)
theorem get8_ef (m : MethodId) (a0 : Addr) : entryFrame m #[(.ref a0)] 1 = mkF m 0 #[.val (.ref a0)] [] := by first | (simp [entryFrame, mkF, argsToLocals, Value.category]; done) | rfl
set_option maxRecDepth 65536 in
set_option maxHeartbeats 40000000 in
theorem get8_c (l : Launch) (Z : State) (az : Array Value) (hw : ∀ d ∈ tables_1, d.before az Z = true) (ws : List Jvm.Cond) (a0 : Addr) (w : Int64) (h0 : Heap) (n0 : Nat) (Z0 : n0 ≤ h0.size) (hp0 : Fld Z h0 a0 "com/example/wakeline/wakeline/similarity/SearchCounts" "results" "J" (.long w)) :
    OCon l (⟨"com/example/wakeline/wakeline/similarity/SearchCounts", "results", "()J"⟩ : MethodName) prog_45_method_9_code 1 (some .long) ws get8_rm Z #[(.ref a0)] h0 (get8_Q Z a0 w h0 n0) := by
  refine ocon (plainFor_of_name pn_com_example_wakeline_wakeline_similarity_SearchCounts) ?_
  intro p e s m below meth c s₁ hx hby hml hown hnm hret hlk hZ X0 eh0
  have N0 := Fr.nil n0
  have K0 := Keep.refl h0 []
  refine ogoE (get8_ef m a0) ?_
  generalize hG : (OEnd s below (get8_Q Z a0 w h0 n0) get8_rm.cells get8_rm.slots) = G
  show OWay p e below G s₁ (mkF m 0 #[.val (.ref a0)] [])
  refine ogo (fun _ z_ => XS.aloadN X0.here hx rfl (hb hby d8_0) rfl rfl z_) ?_
  show OWay p e below G s₁ (mkF m 1 #[.val (.ref a0)] [(.ref a0)])
  obtain ⟨T1, X1, eT1, st1⟩ := getF X0 hx hZ hown (host := "") (Or.inl (hw _ (List.mem_of_getElem? (i := 20) rfl))) Via.refl eh0 hp0 (g := (mkF m 1 #[.val (.ref a0)] [(.ref a0)])) rfl rfl (hb hby d8_1)
  refine ogo st1 ?_
  show OWay p e below G T1 (mkF m 4 #[.val (.ref a0)] [(.long w)])
  subst hG
  refine wRet X1 hx hret hlk rfl (Or.inr (Or.inl ⟨rfl, rfl, _, rfl⟩)) (hb hby d8_4) (by decide) (by decide) eT1 ?_
  exact ⟨rfl, N0, rfl⟩
theorem d4_0 : decode prog_45_method_2_code 0 = .ok (.new 8, 3) := by decide +kernel
theorem d4_3 : decode prog_45_method_2_code 3 = .ok (.dup, 1) := by decide +kernel
theorem d4_4 : decode prog_45_method_2_code 4 = .ok (.aload_n 0, 1) := by decide +kernel
theorem d4_5 : decode prog_45_method_2_code 5 = .ok (.getfield 7, 3) := by decide +kernel
theorem d4_8 : decode prog_45_method_2_code 8 = .ok (.aload_n 1, 1) := by decide +kernel
theorem d4_9 : decode prog_45_method_2_code 9 = .ok (.getfield 7, 3) := by decide +kernel
theorem d4_12 : decode prog_45_method_2_code 12 = .ok (.ladd, 1) := by decide +kernel
theorem d4_13 : decode prog_45_method_2_code 13 = .ok (.aload_n 0, 1) := by decide +kernel
theorem d4_14 : decode prog_45_method_2_code 14 = .ok (.getfield 13, 3) := by decide +kernel
theorem d4_17 : decode prog_45_method_2_code 17 = .ok (.aload_n 1, 1) := by decide +kernel
theorem d4_18 : decode prog_45_method_2_code 18 = .ok (.getfield 13, 3) := by decide +kernel
theorem d4_21 : decode prog_45_method_2_code 21 = .ok (.ladd, 1) := by decide +kernel
theorem d4_22 : decode prog_45_method_2_code 22 = .ok (.aload_n 0, 1) := by decide +kernel
theorem d4_23 : decode prog_45_method_2_code 23 = .ok (.getfield 16, 3) := by decide +kernel
theorem d4_26 : decode prog_45_method_2_code 26 = .ok (.aload_n 1, 1) := by decide +kernel
theorem d4_27 : decode prog_45_method_2_code 27 = .ok (.getfield 16, 3) := by decide +kernel
theorem d4_30 : decode prog_45_method_2_code 30 = .ok (.ladd, 1) := by decide +kernel
theorem d4_31 : decode prog_45_method_2_code 31 = .ok (.aload_n 0, 1) := by decide +kernel
theorem d4_32 : decode prog_45_method_2_code 32 = .ok (.getfield 19, 3) := by decide +kernel
theorem d4_35 : decode prog_45_method_2_code 35 = .ok (.aload_n 1, 1) := by decide +kernel
theorem d4_36 : decode prog_45_method_2_code 36 = .ok (.getfield 19, 3) := by decide +kernel
theorem d4_39 : decode prog_45_method_2_code 39 = .ok (.ladd, 1) := by decide +kernel
theorem d4_40 : decode prog_45_method_2_code 40 = .ok (.invokespecial 22, 3) := by decide +kernel
theorem pd__JJJJ_V : parseMethodDescriptor "(JJJJ)V" = some ⟨[.long, .long, .long, .long], none⟩ := by decide +kernel
theorem d4_43 : decode prog_45_method_2_code 43 = .ok (.areturn, 1) := by decide +kernel
def plus_b_rm : Room := { frames := 3, cells := 1, slots := 4, locals := 45 }
def plus_b_Q (Z : State) (a0 : Addr) (a1 : Addr) (w0 : Int64) (w1 : Int64) (w2 : Int64) (w3 : Int64) (z0 : Int64) (z1 : Int64) (z2 : Int64) (z3 : Int64) (h0 : Heap) (n0 : Nat) (v : Option Value) (h : Heap) (L : List Loc) : Prop := ∃ b : Addr, (v = some (.ref b)) ∧ (Fr n0 L) ∧ (Keep h0 h []) ∧ (n0 ≤ b) ∧ (h0.size ≤ b) ∧ (Exa Z h b "com/example/wakeline/wakeline/similarity/SearchCounts") ∧ (Fld Z h b "com/example/wakeline/wakeline/similarity/SearchCounts" "retrieved" "J" (.long (w0 + z0))) ∧ (Fld Z h b "com/example/wakeline/wakeline/similarity/SearchCounts" "elementRetrieved" "J" (.long (w1 + z1))) ∧ (Fld Z h b "com/example/wakeline/wakeline/similarity/SearchCounts" "refined" "J" (.long (w2 + z2))) ∧ (Fld Z h b "com/example/wakeline/wakeline/similarity/SearchCounts" "results" "J" (.long (w3 + z3)))
theorem plus_b_ef (m : MethodId) (a0 : Addr) (a1 : Addr) : entryFrame m #[(.ref a0), (.ref a1)] 2 = mkF m 0 #[.val (.ref a0), .val (.ref a1)] [] := by first | (simp [entryFrame, mkF, argsToLocals, Value.category]; done) | rfl
set_option maxRecDepth 65536 in
set_option maxHeartbeats 40000000 in
theorem plus_b_c (l : Launch) (Z : State) (az : Array Value) (hw : ∀ d ∈ tables_1, d.before az Z = true) (ws : List Jvm.Cond) (a0 : Addr) (a1 : Addr) (w0 : Int64) (w1 : Int64) (w2 : Int64) (w3 : Int64) (z0 : Int64) (z1 : Int64) (z2 : Int64) (z3 : Int64) (h0 : Heap) (n0 : Nat) (Z0 : n0 ≤ h0.size) (hp0 : Fld Z h0 a0 "com/example/wakeline/wakeline/similarity/SearchCounts" "retrieved" "J" (.long w0)) (hp1 : Fld Z h0 a0 "com/example/wakeline/wakeline/similarity/SearchCounts" "elementRetrieved" "J" (.long w1)) (hp2 : Fld Z h0 a0 "com/example/wakeline/wakeline/similarity/SearchCounts" "refined" "J" (.long w2)) (hp3 : Fld Z h0 a0 "com/example/wakeline/wakeline/similarity/SearchCounts" "results" "J" (.long w3)) (hp4 : Fld Z h0 a1 "com/example/wakeline/wakeline/similarity/SearchCounts" "retrieved" "J" (.long z0)) (hp5 : Fld Z h0 a1 "com/example/wakeline/wakeline/similarity/SearchCounts" "elementRetrieved" "J" (.long z1)) (hp6 : Fld Z h0 a1 "com/example/wakeline/wakeline/similarity/SearchCounts" "refined" "J" (.long z2)) (hp7 : Fld Z h0 a1 "com/example/wakeline/wakeline/similarity/SearchCounts" "results" "J" (.long z3)) :
    OCon l (⟨"com/example/wakeline/wakeline/similarity/SearchCounts", "plus", "(Lcom/example/wakeline/wakeline/similarity/SearchCounts;)Lcom/example/wakeline/wakeline/similarity/SearchCounts;"⟩ : MethodName) prog_45_method_2_code 2 (some (.object "com/example/wakeline/wakeline/similarity/SearchCounts")) ws plus_b_rm Z #[(.ref a0), (.ref a1)] h0 (plus_b_Q Z a0 a1 w0 w1 w2 w3 z0 z1 z2 z3 h0 n0) := by
  refine ocon (plainFor_of_name pn_com_example_wakeline_wakeline_similarity_SearchCounts) ?_
  intro p e s m below meth c s₁ hx hby hml hown hnm hret hlk hZ X0 eh0
  have N0 := Fr.nil n0
  have K0 := Keep.refl h0 []
  refine ogoE (plus_b_ef m a0 a1) ?_
  generalize hG : (OEnd s below (plus_b_Q Z a0 a1 w0 w1 w2 w3 z0 z1 z2 z3 h0 n0) plus_b_rm.cells plus_b_rm.slots) = G
  show OWay p e below G s₁ (mkF m 0 #[.val (.ref a0), .val (.ref a1)] [])
  obtain ⟨T1, h1, X1, eT1, E1, A1, D1, -, st1⟩ := newO X0 hx hZ hown (hw _ (List.mem_of_getElem? (i := 27) rfl)) (hw _ (List.mem_of_getElem? (i := 1) rfl)) (hw _ (List.mem_of_getElem? (i := 2) rfl)) eh0 (g := (mkF m 0 #[.val (.ref a0), .val (.ref a1)] [])) rfl (hb hby d4_0) (by decide) (by decide)
  obtain ⟨b1, g1⟩ : ∃ z, z = h0.size := ⟨_, rfl⟩
  rw [← g1] at A1 D1 st1
  have g_b1 : n0 ≤ b1 := Nat.le_trans Z0 (Nat.le_of_eq g1.symm)
  have sz_b1 : h0.size ≤ b1 := Nat.le_trans K0.1 (Nat.le_of_eq g1.symm)
  have K2 : Keep h0 h1 [] := K0.ext E1
  have F_retrieved_b1 : Fld Z h1 b1 "com/example/wakeline/wakeline/similarity/SearchCounts" "retrieved" "J" (.long (0 : Int64)) := D1 (Or.inr (hw _ (List.mem_of_getElem? (i := 15) rfl))) (ty := .long) (by decide)
  have F_elementRetrieved_b1 : Fld Z h1 b1 "com/example/wakeline/wakeline/similarity/SearchCounts" "elementRetrieved" "J" (.long (0 : Int64)) := D1 (Or.inr (hw _ (List.mem_of_getElem? (i := 17) rfl))) (ty := .long) (by decide)
  have F_refined_b1 : Fld Z h1 b1 "com/example/wakeline/wakeline/similarity/SearchCounts" "refined" "J" (.long (0 : Int64)) := D1 (Or.inr (hw _ (List.mem_of_getElem? (i := 19) rfl))) (ty := .long) (by decide)
  have F_results_b1 : Fld Z h1 b1 "com/example/wakeline/wakeline/similarity/SearchCounts" "results" "J" (.long (0 : Int64)) := D1 (Or.inr (hw _ (List.mem_of_getElem? (i := 21) rfl))) (ty := .long) (by decide)
  refine ogo st1 ?_
  show OWay p e below G T1 (mkF m 3 #[.val (.ref a0), .val (.ref a1)] [(.ref b1)])
  refine ogo (fun _ z_ => XS.dup X1.here hx rfl (hb hby d4_3) rfl rfl z_) ?_
  show OWay p e below G T1 (mkF m 4 #[.val (.ref a0), .val (.ref a1)] [(.ref b1), (.ref b1)])
  refine ogo (fun _ z_ => XS.aloadN X1.here hx rfl (hb hby d4_4) rfl rfl z_) ?_
  show OWay p e below G T1 (mkF m 5 #[.val (.ref a0), .val (.ref a1)] [(.ref a0), (.ref b1), (.ref b1)])
  have F3 : Fld Z h1 a0 "com/example/wakeline/wakeline/similarity/SearchCounts" "retrieved" "J" (.long w0) := (hp0.ext E1)
  obtain ⟨T4, X4, eT4, st4⟩ := getF X1 hx hZ hown (host := "") (Or.inl (hw _ (List.mem_of_getElem? (i := 14) rfl))) Via.refl eT1 F3 (g := (mkF m 5 #[.val (.ref a0), .val (.ref a1)] [(.ref a0), (.ref b1), (.ref b1)])) rfl rfl (hb hby d4_5)
  refine ogo st4 ?_
  show OWay p e below G T4 (mkF m 8 #[.val (.ref a0), .val (.ref a1)] [(.long w0), (.ref b1), (.ref b1)])
  refine ogo (fun _ z_ => XS.aloadN X4.here hx rfl (hb hby d4_8) rfl rfl z_) ?_
  show OWay p e below G T4 (mkF m 9 #[.val (.ref a0), .val (.ref a1)] [(.ref a1), (.long w0), (.ref b1), (.ref b1)])
  have F5 : Fld Z h1 a1 "com/example/wakeline/wakeline/similarity/SearchCounts" "retrieved" "J" (.long z0) := (hp4.ext E1)
  obtain ⟨T6, X6, eT6, st6⟩ := getF X4 hx hZ hown (host := "") (Or.inl (hw _ (List.mem_of_getElem? (i := 14) rfl))) Via.refl eT4 F5 (g := (mkF m 9 #[.val (.ref a0), .val (.ref a1)] [(.ref a1), (.long w0), (.ref b1), (.ref b1)])) rfl rfl (hb hby d4_9)
  refine ogo st6 ?_
  show OWay p e below G T6 (mkF m 12 #[.val (.ref a0), .val (.ref a1)] [(.long z0), (.long w0), (.ref b1), (.ref b1)])
  refine ogo (fun _ z_ => XS.ladd X6.here hx rfl (hb hby d4_12) rfl z_) ?_
  show OWay p e below G T6 (mkF m 13 #[.val (.ref a0), .val (.ref a1)] [(.long (w0 + z0)), (.ref b1), (.ref b1)])
  refine ogo (fun _ z_ => XS.aloadN X6.here hx rfl (hb hby d4_13) rfl rfl z_) ?_
  show OWay p e below G T6 (mkF m 14 #[.val (.ref a0), .val (.ref a1)] [(.ref a0), (.long (w0 + z0)), (.ref b1), (.ref b1)])
  have F7 : Fld Z h1 a0 "com/example/wakeline/wakeline/similarity/SearchCounts" "elementRetrieved" "J" (.long w1) := (hp1.ext E1)
  obtain ⟨T8, X8, eT8, st8⟩ := getF X6 hx hZ hown (host := "") (Or.inl (hw _ (List.mem_of_getElem? (i := 16) rfl))) Via.refl eT6 F7 (g := (mkF m 14 #[.val (.ref a0), .val (.ref a1)] [(.ref a0), (.long (w0 + z0)), (.ref b1), (.ref b1)])) rfl rfl (hb hby d4_14)
  refine ogo st8 ?_
  show OWay p e below G T8 (mkF m 17 #[.val (.ref a0), .val (.ref a1)] [(.long w1), (.long (w0 + z0)), (.ref b1), (.ref b1)])
  refine ogo (fun _ z_ => XS.aloadN X8.here hx rfl (hb hby d4_17) rfl rfl z_) ?_
  show OWay p e below G T8 (mkF m 18 #[.val (.ref a0), .val (.ref a1)] [(.ref a1), (.long w1), (.long (w0 + z0)), (.ref b1), (.ref b1)])
  have F9 : Fld Z h1 a1 "com/example/wakeline/wakeline/similarity/SearchCounts" "elementRetrieved" "J" (.long z1) := (hp5.ext E1)
  obtain ⟨T10, X10, eT10, st10⟩ := getF X8 hx hZ hown (host := "") (Or.inl (hw _ (List.mem_of_getElem? (i := 16) rfl))) Via.refl eT8 F9 (g := (mkF m 18 #[.val (.ref a0), .val (.ref a1)] [(.ref a1), (.long w1), (.long (w0 + z0)), (.ref b1), (.ref b1)])) rfl rfl (hb hby d4_18)
  refine ogo st10 ?_
  show OWay p e below G T10 (mkF m 21 #[.val (.ref a0), .val (.ref a1)] [(.long z1), (.long w1), (.long (w0 + z0)), (.ref b1), (.ref b1)])
  refine ogo (fun _ z_ => XS.ladd X10.here hx rfl (hb hby d4_21) rfl z_) ?_
  show OWay p e below G T10 (mkF m 22 #[.val (.ref a0), .val (.ref a1)] [(.long (w1 + z1)), (.long (w0 + z0)), (.ref b1), (.ref b1)])
  refine ogo (fun _ z_ => XS.aloadN X10.here hx rfl (hb hby d4_22) rfl rfl z_) ?_
  show OWay p e below G T10 (mkF m 23 #[.val (.ref a0), .val (.ref a1)] [(.ref a0), (.long (w1 + z1)), (.long (w0 + z0)), (.ref b1), (.ref b1)])
  have F11 : Fld Z h1 a0 "com/example/wakeline/wakeline/similarity/SearchCounts" "refined" "J" (.long w2) := (hp2.ext E1)
  obtain ⟨T12, X12, eT12, st12⟩ := getF X10 hx hZ hown (host := "") (Or.inl (hw _ (List.mem_of_getElem? (i := 18) rfl))) Via.refl eT10 F11 (g := (mkF m 23 #[.val (.ref a0), .val (.ref a1)] [(.ref a0), (.long (w1 + z1)), (.long (w0 + z0)), (.ref b1), (.ref b1)])) rfl rfl (hb hby d4_23)
  refine ogo st12 ?_
  show OWay p e below G T12 (mkF m 26 #[.val (.ref a0), .val (.ref a1)] [(.long w2), (.long (w1 + z1)), (.long (w0 + z0)), (.ref b1), (.ref b1)])
  refine ogo (fun _ z_ => XS.aloadN X12.here hx rfl (hb hby d4_26) rfl rfl z_) ?_
  show OWay p e below G T12 (mkF m 27 #[.val (.ref a0), .val (.ref a1)] [(.ref a1), (.long w2), (.long (w1 + z1)), (.long (w0 + z0)), (.ref b1), (.ref b1)])
  have F13 : Fld Z h1 a1 "com/example/wakeline/wakeline/similarity/SearchCounts" "refined" "J" (.long z2) := (hp6.ext E1)
  obtain ⟨T14, X14, eT14, st14⟩ := getF X12 hx hZ hown (host := "") (Or.inl (hw _ (List.mem_of_getElem? (i := 18) rfl))) Via.refl eT12 F13 (g := (mkF m 27 #[.val (.ref a0), .val (.ref a1)] [(.ref a1), (.long w2), (.long (w1 + z1)), (.long (w0 + z0)), (.ref b1), (.ref b1)])) rfl rfl (hb hby d4_27)
  refine ogo st14 ?_
  show OWay p e below G T14 (mkF m 30 #[.val (.ref a0), .val (.ref a1)] [(.long z2), (.long w2), (.long (w1 + z1)), (.long (w0 + z0)), (.ref b1), (.ref b1)])
  refine ogo (fun _ z_ => XS.ladd X14.here hx rfl (hb hby d4_30) rfl z_) ?_
  show OWay p e below G T14 (mkF m 31 #[.val (.ref a0), .val (.ref a1)] [(.long (w2 + z2)), (.long (w1 + z1)), (.long (w0 + z0)), (.ref b1), (.ref b1)])
  refine ogo (fun _ z_ => XS.aloadN X14.here hx rfl (hb hby d4_31) rfl rfl z_) ?_
  show OWay p e below G T14 (mkF m 32 #[.val (.ref a0), .val (.ref a1)] [(.ref a0), (.long (w2 + z2)), (.long (w1 + z1)), (.long (w0 + z0)), (.ref b1), (.ref b1)])
  have F15 : Fld Z h1 a0 "com/example/wakeline/wakeline/similarity/SearchCounts" "results" "J" (.long w3) := (hp3.ext E1)
  obtain ⟨T16, X16, eT16, st16⟩ := getF X14 hx hZ hown (host := "") (Or.inl (hw _ (List.mem_of_getElem? (i := 20) rfl))) Via.refl eT14 F15 (g := (mkF m 32 #[.val (.ref a0), .val (.ref a1)] [(.ref a0), (.long (w2 + z2)), (.long (w1 + z1)), (.long (w0 + z0)), (.ref b1), (.ref b1)])) rfl rfl (hb hby d4_32)
  refine ogo st16 ?_
  show OWay p e below G T16 (mkF m 35 #[.val (.ref a0), .val (.ref a1)] [(.long w3), (.long (w2 + z2)), (.long (w1 + z1)), (.long (w0 + z0)), (.ref b1), (.ref b1)])
  refine ogo (fun _ z_ => XS.aloadN X16.here hx rfl (hb hby d4_35) rfl rfl z_) ?_
  show OWay p e below G T16 (mkF m 36 #[.val (.ref a0), .val (.ref a1)] [(.ref a1), (.long w3), (.long (w2 + z2)), (.long (w1 + z1)), (.long (w0 + z0)), (.ref b1), (.ref b1)])
  have F17 : Fld Z h1 a1 "com/example/wakeline/wakeline/similarity/SearchCounts" "results" "J" (.long z3) := (hp7.ext E1)
  obtain ⟨T18, X18, eT18, st18⟩ := getF X16 hx hZ hown (host := "") (Or.inl (hw _ (List.mem_of_getElem? (i := 20) rfl))) Via.refl eT16 F17 (g := (mkF m 36 #[.val (.ref a0), .val (.ref a1)] [(.ref a1), (.long w3), (.long (w2 + z2)), (.long (w1 + z1)), (.long (w0 + z0)), (.ref b1), (.ref b1)])) rfl rfl (hb hby d4_36)
  refine ogo st18 ?_
  show OWay p e below G T18 (mkF m 39 #[.val (.ref a0), .val (.ref a1)] [(.long z3), (.long w3), (.long (w2 + z2)), (.long (w1 + z1)), (.long (w0 + z0)), (.ref b1), (.ref b1)])
  refine ogo (fun _ z_ => XS.ladd X18.here hx rfl (hb hby d4_39) rfl z_) ?_
  show OWay p e below G T18 (mkF m 40 #[.val (.ref a0), .val (.ref a1)] [(.long (w3 + z3)), (.long (w2 + z2)), (.long (w1 + z1)), (.long (w0 + z0)), (.ref b1), (.ref b1)])
  obtain ⟨_, T19, L19, X19, hQ19, st19⟩ := wInit X18 hx hZ (y := (⟨"com/example/wakeline/wakeline/similarity/SearchCounts", "<init>", "(JJJJ)V"⟩ : MethodName)) rfl hown (hw _ (List.mem_of_getElem? (i := 28) rfl)) (hw _ (List.mem_of_getElem? (i := 4) rfl)) (hw _ (List.mem_of_getElem? (i := 2) rfl)) (hw _ (List.mem_of_getElem? (i := 5) rfl)) (by decide) (ctor1_c l Z az hw [] b1 (w0 + z0) (w1 + z1) (w2 + z2) (w3 + z3) h1 n0 (Nat.le_trans Z0 E1.1) A1 g_b1 F_retrieved_b1 F_elementRetrieved_b1 F_refined_b1 F_results_b1) 1 (by decide) (by decide) (g := (mkF m 40 #[.val (.ref a0), .val (.ref a1)] [(.long (w3 + z3)), (.long (w2 + z2)), (.long (w1 + z1)), (.long (w0 + z0)), (.ref b1), (.ref b1)])) rfl (by rw [hml]; rfl) (a := b1) (argsL := [(.long (w0 + z0)), (.long (w1 + z1)), (.long (w2 + z2)), (.long (w3 + z3))]) (rest := [(.ref b1)]) (lenOf pd__JJJJ_V rfl) rfl (by show 2 * 0 + _ ≤ _; exact Nat.le_of_eq rfl) (hb hby d4_40) rfl eT18 (by decide) (by decide)
  obtain ⟨rfl, N19q, Kq19, P20, P21, P22, P23⟩ := hQ19
  have N19 := Fr.app N0 N19q
  have K24 : Keep h0 T19.heap [] := K2.trans Kq19 (allS (Or.inr sz_b1) all0)
  refine ogoS st19 ?_
  show OWay p e below G T19 (mkF m 43 #[.val (.ref a0), .val (.ref a1)] [(.ref b1)])
  subst hG
  refine wRet X19 hx hret hlk rfl (Or.inr (Or.inr (Or.inr (Or.inr ⟨rfl, rfl, rfl⟩)))) (hb hby d4_43) (by decide) (by decide) rfl ?_
  exact ⟨b1, rfl, N19, K24, g_b1, sz_b1, (A1.keep Kq19), P20, P21, P22, P23⟩
theorem pn_com_example_wakeline_wakeline_similarity_SearchCountsPlusPinLaw : plainName "com/example/wakeline/wakeline/similarity/SearchCountsPlusPinLaw" = true := by first | (simp [plainName, overriddenIn]; done) | decide +kernel
theorem pd__Lcom_example_wakeline_wakeline_similarity_SearchCounts__Lcom_example_wakeline_wakeline_similarity_SearchCounts_ : parseMethodDescriptor "(Lcom/example/wakeline/wakeline/similarity/SearchCounts;)Lcom/example/wakeline/wakeline/similarity/SearchCounts;" = some ⟨[(.object "com/example/wakeline/wakeline/similarity/SearchCounts")], some (.object "com/example/wakeline/wakeline/similarity/SearchCounts")⟩ := by decide +kernel
theorem pd___J : parseMethodDescriptor "()J" = some ⟨[], some .long⟩ := by decide +kernel
def law_Q (Z : State) (q0 : Int64) (q1 : Int64) (q2 : Int64) (q3 : Int64) (q4 : Int64) (q5 : Int64) (h0 : Heap) (n0 : Nat) (v : Option Value) (h : Heap) (L : List Loc) : Prop := v = some (.int 1) ∧ Fr n0 L
theorem law_ef (m : MethodId) (q0 : Int64) (q1 : Int64) (q2 : Int64) (q3 : Int64) (q4 : Int64) (q5 : Int64) : entryFrame m #[(.long q0), (.long q1), (.long q2), (.long q3), (.long q4), (.long q5)] maxLocals = mkF m 0 #[.val (.long q0), .second, .val (.long q1), .second, .val (.long q2), .second, .val (.long q3), .second, .val (.long q4), .second, .val (.long q5), .second, .unset, .unset, .unset] [] := by first | (simp [entryFrame, mkF, argsToLocals, Value.category, maxLocals]; done) | rfl
set_option maxRecDepth 65536 in
set_option maxHeartbeats 40000000 in
theorem law_c (l : Launch) (Z : State) (az : Array Value) (hw : ∀ d ∈ tables_1, d.before az Z = true) (ws : List Jvm.Cond) (q0 : Int64) (q1 : Int64) (q2 : Int64) (q3 : Int64) (q4 : Int64) (q5 : Int64) (h0 : Heap) (n0 : Nat) (Z0 : n0 ≤ h0.size) :
    OCon l x code maxLocals ret ws room_1 Z #[(.long q0), (.long q1), (.long q2), (.long q3), (.long q4), (.long q5)] h0 (law_Q Z q0 q1 q2 q3 q4 q5 h0 n0) := by
  refine ocon (plainFor_of_name pn_com_example_wakeline_wakeline_similarity_SearchCountsPlusPinLaw) ?_
  intro p e s m below meth c s₁ hx hby hml hown hnm hret hlk hZ X0 eh0
  have N0 := Fr.nil n0
  have K0 := Keep.refl h0 []
  refine ogoE (law_ef m q0 q1 q2 q3 q4 q5) ?_
  generalize hG : (OEnd s below (law_Q Z q0 q1 q2 q3 q4 q5 h0 n0) room_1.cells room_1.slots) = G
  show OWay p e below G s₁ (mkF m 0 #[.val (.long q0), .second, .val (.long q1), .second, .val (.long q2), .second, .val (.long q3), .second, .val (.long q4), .second, .val (.long q5), .second, .unset, .unset, .unset] [])
  obtain ⟨T1, h1, X1, eT1, E1, A1, D1, -, st1⟩ := newO X0 hx hZ hown (hw _ (List.mem_of_getElem? (i := 0) rfl)) (hw _ (List.mem_of_getElem? (i := 1) rfl)) (hw _ (List.mem_of_getElem? (i := 2) rfl)) eh0 (g := (mkF m 0 #[.val (.long q0), .second, .val (.long q1), .second, .val (.long q2), .second, .val (.long q3), .second, .val (.long q4), .second, .val (.long q5), .second, .unset, .unset, .unset] [])) rfl (hb hby at_0) (by decide) (by decide)
  obtain ⟨b1, g1⟩ : ∃ z, z = h0.size := ⟨_, rfl⟩
  rw [← g1] at A1 D1 st1
  have g_b1 : n0 ≤ b1 := Nat.le_trans Z0 (Nat.le_of_eq g1.symm)
  have sz_b1 : h0.size ≤ b1 := Nat.le_trans K0.1 (Nat.le_of_eq g1.symm)
  have K2 : Keep h0 h1 [] := K0.ext E1
  have F_retrieved_b1 : Fld Z h1 b1 "com/example/wakeline/wakeline/similarity/SearchCounts" "retrieved" "J" (.long (0 : Int64)) := D1 (Or.inr (hw _ (List.mem_of_getElem? (i := 15) rfl))) (ty := .long) (by decide)
  have F_elementRetrieved_b1 : Fld Z h1 b1 "com/example/wakeline/wakeline/similarity/SearchCounts" "elementRetrieved" "J" (.long (0 : Int64)) := D1 (Or.inr (hw _ (List.mem_of_getElem? (i := 17) rfl))) (ty := .long) (by decide)
  have F_refined_b1 : Fld Z h1 b1 "com/example/wakeline/wakeline/similarity/SearchCounts" "refined" "J" (.long (0 : Int64)) := D1 (Or.inr (hw _ (List.mem_of_getElem? (i := 19) rfl))) (ty := .long) (by decide)
  have F_results_b1 : Fld Z h1 b1 "com/example/wakeline/wakeline/similarity/SearchCounts" "results" "J" (.long (0 : Int64)) := D1 (Or.inr (hw _ (List.mem_of_getElem? (i := 21) rfl))) (ty := .long) (by decide)
  refine ogo st1 ?_
  show OWay p e below G T1 (mkF m 3 #[.val (.long q0), .second, .val (.long q1), .second, .val (.long q2), .second, .val (.long q3), .second, .val (.long q4), .second, .val (.long q5), .second, .unset, .unset, .unset] [(.ref b1)])
  refine ogo (fun _ z_ => XS.dup X1.here hx rfl (hb hby at_3) rfl rfl z_) ?_
  show OWay p e below G T1 (mkF m 4 #[.val (.long q0), .second, .val (.long q1), .second, .val (.long q2), .second, .val (.long q3), .second, .val (.long q4), .second, .val (.long q5), .second, .unset, .unset, .unset] [(.ref b1), (.ref b1)])
  refine ogo (fun _ z_ => XS.lloadN X1.here hx rfl (hb hby at_4) rfl z_) ?_
  show OWay p e below G T1 (mkF m 5 #[.val (.long q0), .second, .val (.long q1), .second, .val (.long q2), .second, .val (.long q3), .second, .val (.long q4), .second, .val (.long q5), .second, .unset, .unset, .unset] [(.long q0), (.ref b1), (.ref b1)])
  refine ogo (fun _ z_ => XS.lloadN X1.here hx rfl (hb hby at_5) rfl z_) ?_
  show OWay p e below G T1 (mkF m 6 #[.val (.long q0), .second, .val (.long q1), .second, .val (.long q2), .second, .val (.long q3), .second, .val (.long q4), .second, .val (.long q5), .second, .unset, .unset, .unset] [(.long q1), (.long q0), (.ref b1), (.ref b1)])
  refine ogo (fun _ z_ => XS.lload X1.here hx rfl (hb hby at_6) rfl z_) ?_
  show OWay p e below G T1 (mkF m 8 #[.val (.long q0), .second, .val (.long q1), .second, .val (.long q2), .second, .val (.long q3), .second, .val (.long q4), .second, .val (.long q5), .second, .unset, .unset, .unset] [(.long q2), (.long q1), (.long q0), (.ref b1), (.ref b1)])
  refine ogo (fun _ z_ => XS.lload X1.here hx rfl (hb hby at_8) rfl z_) ?_
  show OWay p e below G T1 (mkF m 10 #[.val (.long q0), .second, .val (.long q1), .second, .val (.long q2), .second, .val (.long q3), .second, .val (.long q4), .second, .val (.long q5), .second, .unset, .unset, .unset] [(.long q3), (.long q2), (.long q1), (.long q0), (.ref b1), (.ref b1)])
  obtain ⟨_, T3, L3, X3, hQ3, st3⟩ := wInit X1 hx hZ (y := (⟨"com/example/wakeline/wakeline/similarity/SearchCounts", "<init>", "(JJJJ)V"⟩ : MethodName)) rfl hown (hw _ (List.mem_of_getElem? (i := 3) rfl)) (hw _ (List.mem_of_getElem? (i := 4) rfl)) (hw _ (List.mem_of_getElem? (i := 2) rfl)) (hw _ (List.mem_of_getElem? (i := 5) rfl)) (by decide) (ctor1_c l Z az hw [] b1 q0 q1 q2 q3 h1 n0 (Nat.le_trans Z0 E1.1) A1 g_b1 F_retrieved_b1 F_elementRetrieved_b1 F_refined_b1 F_results_b1) 1 (by decide) (by decide) (g := (mkF m 10 #[.val (.long q0), .second, .val (.long q1), .second, .val (.long q2), .second, .val (.long q3), .second, .val (.long q4), .second, .val (.long q5), .second, .unset, .unset, .unset] [(.long q3), (.long q2), (.long q1), (.long q0), (.ref b1), (.ref b1)])) rfl (by rw [hml]; rfl) (a := b1) (argsL := [(.long q0), (.long q1), (.long q2), (.long q3)]) (rest := [(.ref b1)]) (lenOf pd__JJJJ_V rfl) rfl (by show 2 * 0 + _ ≤ _; exact Nat.le_of_eq rfl) (hb hby at_10) rfl eT1 (by decide) (by decide)
  obtain ⟨rfl, N3q, Kq3, P4, P5, P6, P7⟩ := hQ3
  have N3 := Fr.app N0 N3q
  have K8 : Keep h0 T3.heap [] := K2.trans Kq3 (allS (Or.inr sz_b1) all0)
  refine ogoS st3 ?_
  show OWay p e below G T3 (mkF m 13 #[.val (.long q0), .second, .val (.long q1), .second, .val (.long q2), .second, .val (.long q3), .second, .val (.long q4), .second, .val (.long q5), .second, .unset, .unset, .unset] [(.ref b1)])
  refine ogo (fun _ z_ => XS.astore X3.here hx rfl (hb hby at_13) rfl rfl (l' := #[.val (.long q0), .second, .val (.long q1), .second, .val (.long q2), .second, .val (.long q3), .second, .val (.long q4), .second, .val (.long q5), .second, .val (.ref b1), .unset, .unset]) rfl z_) ?_
  show OWay p e below G T3 (mkF m 15 #[.val (.long q0), .second, .val (.long q1), .second, .val (.long q2), .second, .val (.long q3), .second, .val (.long q4), .second, .val (.long q5), .second, .val (.ref b1), .unset, .unset] [])
  obtain ⟨T9, h9, X9, eT9, E9, A9, D9, -, st9⟩ := newO X3 hx hZ hown (hw _ (List.mem_of_getElem? (i := 0) rfl)) (hw _ (List.mem_of_getElem? (i := 1) rfl)) (hw _ (List.mem_of_getElem? (i := 2) rfl)) rfl (g := (mkF m 15 #[.val (.long q0), .second, .val (.long q1), .second, .val (.long q2), .second, .val (.long q3), .second, .val (.long q4), .second, .val (.long q5), .second, .val (.ref b1), .unset, .unset] [])) rfl (hb hby at_15) (by decide) (by decide)
  obtain ⟨b9, g9⟩ : ∃ z, z = T3.heap.size := ⟨_, rfl⟩
  rw [← g9] at A9 D9 st9
  have g_b9 : n0 ≤ b9 := Nat.le_trans (Nat.le_trans (Nat.le_trans Z0 E1.1) Kq3.1) (Nat.le_of_eq g9.symm)
  have sz_b9 : h0.size ≤ b9 := Nat.le_trans K8.1 (Nat.le_of_eq g9.symm)
  have K10 : Keep h0 h9 [] := K8.ext E9
  have F_retrieved_b9 : Fld Z h9 b9 "com/example/wakeline/wakeline/similarity/SearchCounts" "retrieved" "J" (.long (0 : Int64)) := D9 (Or.inr (hw _ (List.mem_of_getElem? (i := 15) rfl))) (ty := .long) (by decide)
  have F_elementRetrieved_b9 : Fld Z h9 b9 "com/example/wakeline/wakeline/similarity/SearchCounts" "elementRetrieved" "J" (.long (0 : Int64)) := D9 (Or.inr (hw _ (List.mem_of_getElem? (i := 17) rfl))) (ty := .long) (by decide)
  have F_refined_b9 : Fld Z h9 b9 "com/example/wakeline/wakeline/similarity/SearchCounts" "refined" "J" (.long (0 : Int64)) := D9 (Or.inr (hw _ (List.mem_of_getElem? (i := 19) rfl))) (ty := .long) (by decide)
  have F_results_b9 : Fld Z h9 b9 "com/example/wakeline/wakeline/similarity/SearchCounts" "results" "J" (.long (0 : Int64)) := D9 (Or.inr (hw _ (List.mem_of_getElem? (i := 21) rfl))) (ty := .long) (by decide)
  refine ogo st9 ?_
  show OWay p e below G T9 (mkF m 18 #[.val (.long q0), .second, .val (.long q1), .second, .val (.long q2), .second, .val (.long q3), .second, .val (.long q4), .second, .val (.long q5), .second, .val (.ref b1), .unset, .unset] [(.ref b9)])
  refine ogo (fun _ z_ => XS.dup X9.here hx rfl (hb hby at_18) rfl rfl z_) ?_
  show OWay p e below G T9 (mkF m 19 #[.val (.long q0), .second, .val (.long q1), .second, .val (.long q2), .second, .val (.long q3), .second, .val (.long q4), .second, .val (.long q5), .second, .val (.ref b1), .unset, .unset] [(.ref b9), (.ref b9)])
  refine ogo (fun _ z_ => XS.lload X9.here hx rfl (hb hby at_19) rfl z_) ?_
  show OWay p e below G T9 (mkF m 21 #[.val (.long q0), .second, .val (.long q1), .second, .val (.long q2), .second, .val (.long q3), .second, .val (.long q4), .second, .val (.long q5), .second, .val (.ref b1), .unset, .unset] [(.long q4), (.ref b9), (.ref b9)])
  refine ogo (fun _ z_ => XS.lload X9.here hx rfl (hb hby at_21) rfl z_) ?_
  show OWay p e below G T9 (mkF m 23 #[.val (.long q0), .second, .val (.long q1), .second, .val (.long q2), .second, .val (.long q3), .second, .val (.long q4), .second, .val (.long q5), .second, .val (.ref b1), .unset, .unset] [(.long q5), (.long q4), (.ref b9), (.ref b9)])
  refine ogo (fun _ z_ => XS.lload X9.here hx rfl (hb hby at_23) rfl z_) ?_
  show OWay p e below G T9 (mkF m 25 #[.val (.long q0), .second, .val (.long q1), .second, .val (.long q2), .second, .val (.long q3), .second, .val (.long q4), .second, .val (.long q5), .second, .val (.ref b1), .unset, .unset] [(.long q4), (.long q5), (.long q4), (.ref b9), (.ref b9)])
  refine ogo (fun _ z_ => XS.lload X9.here hx rfl (hb hby at_25) rfl z_) ?_
  show OWay p e below G T9 (mkF m 27 #[.val (.long q0), .second, .val (.long q1), .second, .val (.long q2), .second, .val (.long q3), .second, .val (.long q4), .second, .val (.long q5), .second, .val (.ref b1), .unset, .unset] [(.long q3), (.long q4), (.long q5), (.long q4), (.ref b9), (.ref b9)])
  refine ogo (fun _ z_ => XS.lxor X9.here hx rfl (hb hby at_27) rfl z_) ?_
  show OWay p e below G T9 (mkF m 28 #[.val (.long q0), .second, .val (.long q1), .second, .val (.long q2), .second, .val (.long q3), .second, .val (.long q4), .second, .val (.long q5), .second, .val (.ref b1), .unset, .unset] [(.long (q4 ^^^ q3)), (.long q5), (.long q4), (.ref b9), (.ref b9)])
  refine ogo (fun _ z_ => XS.lload X9.here hx rfl (hb hby at_28) rfl z_) ?_
  show OWay p e below G T9 (mkF m 30 #[.val (.long q0), .second, .val (.long q1), .second, .val (.long q2), .second, .val (.long q3), .second, .val (.long q4), .second, .val (.long q5), .second, .val (.ref b1), .unset, .unset] [(.long q5), (.long (q4 ^^^ q3)), (.long q5), (.long q4), (.ref b9), (.ref b9)])
  refine ogo (fun _ z_ => XS.lload X9.here hx rfl (hb hby at_30) rfl z_) ?_
  show OWay p e below G T9 (mkF m 32 #[.val (.long q0), .second, .val (.long q1), .second, .val (.long q2), .second, .val (.long q3), .second, .val (.long q4), .second, .val (.long q5), .second, .val (.ref b1), .unset, .unset] [(.long q2), (.long q5), (.long (q4 ^^^ q3)), (.long q5), (.long q4), (.ref b9), (.ref b9)])
  refine ogo (fun _ z_ => XS.lxor X9.here hx rfl (hb hby at_32) rfl z_) ?_
  show OWay p e below G T9 (mkF m 33 #[.val (.long q0), .second, .val (.long q1), .second, .val (.long q2), .second, .val (.long q3), .second, .val (.long q4), .second, .val (.long q5), .second, .val (.ref b1), .unset, .unset] [(.long (q5 ^^^ q2)), (.long (q4 ^^^ q3)), (.long q5), (.long q4), (.ref b9), (.ref b9)])
  obtain ⟨_, T11, L11, X11, hQ11, st11⟩ := wInit X9 hx hZ (y := (⟨"com/example/wakeline/wakeline/similarity/SearchCounts", "<init>", "(JJJJ)V"⟩ : MethodName)) rfl hown (hw _ (List.mem_of_getElem? (i := 3) rfl)) (hw _ (List.mem_of_getElem? (i := 4) rfl)) (hw _ (List.mem_of_getElem? (i := 2) rfl)) (hw _ (List.mem_of_getElem? (i := 5) rfl)) (by decide) (ctor1_c l Z az hw [] b9 q4 q5 (q4 ^^^ q3) (q5 ^^^ q2) h9 n0 (Nat.le_trans (Nat.le_trans (Nat.le_trans Z0 E1.1) Kq3.1) E9.1) A9 g_b9 F_retrieved_b9 F_elementRetrieved_b9 F_refined_b9 F_results_b9) 1 (by decide) (by decide) (g := (mkF m 33 #[.val (.long q0), .second, .val (.long q1), .second, .val (.long q2), .second, .val (.long q3), .second, .val (.long q4), .second, .val (.long q5), .second, .val (.ref b1), .unset, .unset] [(.long (q5 ^^^ q2)), (.long (q4 ^^^ q3)), (.long q5), (.long q4), (.ref b9), (.ref b9)])) rfl (by rw [hml]; rfl) (a := b9) (argsL := [(.long q4), (.long q5), (.long (q4 ^^^ q3)), (.long (q5 ^^^ q2))]) (rest := [(.ref b9)]) (lenOf pd__JJJJ_V rfl) rfl (by show 2 * 0 + _ ≤ _; exact Nat.le_of_eq rfl) (hb hby at_33) rfl eT9 (by decide) (by decide)
  obtain ⟨rfl, N11q, Kq11, P12, P13, P14, P15⟩ := hQ11
  have N11 := Fr.app N3 N11q
  have K16 : Keep h0 T11.heap [] := K10.trans Kq11 (allS (Or.inr sz_b9) all0)
  refine ogoS st11 ?_
  show OWay p e below G T11 (mkF m 36 #[.val (.long q0), .second, .val (.long q1), .second, .val (.long q2), .second, .val (.long q3), .second, .val (.long q4), .second, .val (.long q5), .second, .val (.ref b1), .unset, .unset] [(.ref b9)])
  refine ogo (fun _ z_ => XS.astore X11.here hx rfl (hb hby at_36) rfl rfl (l' := #[.val (.long q0), .second, .val (.long q1), .second, .val (.long q2), .second, .val (.long q3), .second, .val (.long q4), .second, .val (.long q5), .second, .val (.ref b1), .val (.ref b9), .unset]) rfl z_) ?_
  show OWay p e below G T11 (mkF m 38 #[.val (.long q0), .second, .val (.long q1), .second, .val (.long q2), .second, .val (.long q3), .second, .val (.long q4), .second, .val (.long q5), .second, .val (.ref b1), .val (.ref b9), .unset] [])
  refine ogo (fun _ z_ => XS.aload X11.here hx rfl (hb hby at_38) rfl rfl z_) ?_
  show OWay p e below G T11 (mkF m 40 #[.val (.long q0), .second, .val (.long q1), .second, .val (.long q2), .second, .val (.long q3), .second, .val (.long q4), .second, .val (.long q5), .second, .val (.ref b1), .val (.ref b9), .unset] [(.ref b1)])
  refine ogo (fun _ z_ => XS.aload X11.here hx rfl (hb hby at_40) rfl rfl z_) ?_
  show OWay p e below G T11 (mkF m 42 #[.val (.long q0), .second, .val (.long q1), .second, .val (.long q2), .second, .val (.long q3), .second, .val (.long q4), .second, .val (.long q5), .second, .val (.ref b1), .val (.ref b9), .unset] [(.ref b9), (.ref b1)])
  have F17 : Fld Z T11.heap b1 "com/example/wakeline/wakeline/similarity/SearchCounts" "retrieved" "J" (.long q0) := ((P4.ext E9).keep Kq11 (ninS (Nat.ne_of_lt (Nat.lt_of_lt_of_le P4.lt (Nat.le_of_eq g9.symm))) nin0))
  have F18 : Fld Z T11.heap b1 "com/example/wakeline/wakeline/similarity/SearchCounts" "elementRetrieved" "J" (.long q1) := ((P5.ext E9).keep Kq11 (ninS (Nat.ne_of_lt (Nat.lt_of_lt_of_le P5.lt (Nat.le_of_eq g9.symm))) nin0))
  have F19 : Fld Z T11.heap b1 "com/example/wakeline/wakeline/similarity/SearchCounts" "refined" "J" (.long q2) := ((P6.ext E9).keep Kq11 (ninS (Nat.ne_of_lt (Nat.lt_of_lt_of_le P6.lt (Nat.le_of_eq g9.symm))) nin0))
  have F20 : Fld Z T11.heap b1 "com/example/wakeline/wakeline/similarity/SearchCounts" "results" "J" (.long q3) := ((P7.ext E9).keep Kq11 (ninS (Nat.ne_of_lt (Nat.lt_of_lt_of_le P7.lt (Nat.le_of_eq g9.symm))) nin0))
  have F22 : Exa Z T11.heap b1 "com/example/wakeline/wakeline/similarity/SearchCounts" := (((A1.keep Kq3).ext E9).keep Kq11)
  obtain ⟨_, T21, L21, X21, hQ21, st21⟩ := wVirtual X11 hx hZ (y := (⟨"com/example/wakeline/wakeline/similarity/SearchCounts", "plus", "(Lcom/example/wakeline/wakeline/similarity/SearchCounts;)Lcom/example/wakeline/wakeline/similarity/SearchCounts;"⟩ : MethodName)) (z := (⟨"com/example/wakeline/wakeline/similarity/SearchCounts", "plus", "(Lcom/example/wakeline/wakeline/similarity/SearchCounts;)Lcom/example/wakeline/wakeline/similarity/SearchCounts;"⟩ : MethodName)) hown (hw _ (List.mem_of_getElem? (i := 22) rfl)) (hw _ (List.mem_of_getElem? (i := 23) rfl)) (notFace_of_selects (args := #[]) (mvT hZ (hw _ (List.mem_of_getElem? (i := 25) rfl)))) (hw _ (List.mem_of_getElem? (i := 25) rfl)) (hw _ (List.mem_of_getElem? (i := 24) rfl)) (hw _ (List.mem_of_getElem? (i := 2) rfl)) (hw _ (List.mem_of_getElem? (i := 26) rfl)) (by decide) (plus_b_c l Z az hw [] b1 b9 q0 q1 q2 q3 q4 q5 (q4 ^^^ q3) (q5 ^^^ q2) T11.heap n0 (Nat.le_trans (Nat.le_trans (Nat.le_trans (Nat.le_trans Z0 E1.1) Kq3.1) E9.1) Kq11.1) F17 F18 F19 F20 P12 P13 P14 P15) 0 (by decide) (by decide) F22 (g := (mkF m 42 #[.val (.long q0), .second, .val (.long q1), .second, .val (.long q2), .second, .val (.long q3), .second, .val (.long q4), .second, .val (.long q5), .second, .val (.ref b1), .val (.ref b9), .unset] [(.ref b9), (.ref b1)])) rfl (by rw [hml]; rfl) (argsL := [(.ref b9)]) (rest := []) (lenOf pd__Lcom_example_wakeline_wakeline_similarity_SearchCounts__Lcom_example_wakeline_wakeline_similarity_SearchCounts_ rfl) rfl (by show 2 * 0 + _ ≤ _; exact Nat.le_of_eq rfl) (hb hby at_42) rfl rfl (by decide) (by decide)
  obtain ⟨b_23, rfl, N21q, Kq21, P24, P25, P26, P27, P28, P29, P30⟩ := hQ21
  have N21 := Fr.app N11 N21q
  have K31 : Keep h0 T21.heap [] := K16.trans Kq21 all0
  have g_b_23 := P24
  have sz_b_23 : h0.size ≤ b_23 := Nat.le_trans K16.1 P25
  refine ogoS st21 ?_
  show OWay p e below G T21 (mkF m 45 #[.val (.long q0), .second, .val (.long q1), .second, .val (.long q2), .second, .val (.long q3), .second, .val (.long q4), .second, .val (.long q5), .second, .val (.ref b1), .val (.ref b9), .unset] [(.ref b_23)])
  refine ogo (fun _ z_ => XS.astore X21.here hx rfl (hb hby at_45) rfl rfl (l' := #[.val (.long q0), .second, .val (.long q1), .second, .val (.long q2), .second, .val (.long q3), .second, .val (.long q4), .second, .val (.long q5), .second, .val (.ref b1), .val (.ref b9), .val (.ref b_23)]) rfl z_) ?_
  show OWay p e below G T21 (mkF m 47 #[.val (.long q0), .second, .val (.long q1), .second, .val (.long q2), .second, .val (.long q3), .second, .val (.long q4), .second, .val (.long q5), .second, .val (.ref b1), .val (.ref b9), .val (.ref b_23)] [])
  refine ogo (fun _ z_ => XS.aload X21.here hx rfl (hb hby at_47) rfl rfl z_) ?_
  show OWay p e below G T21 (mkF m 49 #[.val (.long q0), .second, .val (.long q1), .second, .val (.long q2), .second, .val (.long q3), .second, .val (.long q4), .second, .val (.long q5), .second, .val (.ref b1), .val (.ref b9), .val (.ref b_23)] [(.ref b_23)])
  obtain ⟨_, T32, L32, X32, hQ32, st32⟩ := wVirtual X21 hx hZ (y := (⟨"com/example/wakeline/wakeline/similarity/SearchCounts", "retrieved", "()J"⟩ : MethodName)) (z := (⟨"com/example/wakeline/wakeline/similarity/SearchCounts", "retrieved", "()J"⟩ : MethodName)) hown (hw _ (List.mem_of_getElem? (i := 29) rfl)) (hw _ (List.mem_of_getElem? (i := 30) rfl)) (notFace_of_selects (args := #[]) (mvT hZ (hw _ (List.mem_of_getElem? (i := 32) rfl)))) (hw _ (List.mem_of_getElem? (i := 32) rfl)) (hw _ (List.mem_of_getElem? (i := 31) rfl)) (hw _ (List.mem_of_getElem? (i := 2) rfl)) (hw _ (List.mem_of_getElem? (i := 33) rfl)) (by decide) (get5_c l Z az hw [] b_23 (q0 + q4) T21.heap n0 (Nat.le_trans (Nat.le_trans (Nat.le_trans (Nat.le_trans (Nat.le_trans Z0 E1.1) Kq3.1) E9.1) Kq11.1) Kq21.1) P27) 0 (by decide) (by decide) P26 (g := (mkF m 49 #[.val (.long q0), .second, .val (.long q1), .second, .val (.long q2), .second, .val (.long q3), .second, .val (.long q4), .second, .val (.long q5), .second, .val (.ref b1), .val (.ref b9), .val (.ref b_23)] [(.ref b_23)])) rfl (by rw [hml]; rfl) (argsL := []) (rest := []) (lenOf pd___J rfl) rfl (by show 2 * 0 + _ ≤ _; exact Nat.le_of_eq rfl) (hb hby at_49) rfl rfl (by decide) (by decide)
  obtain ⟨rfl, N32q, eq32⟩ := hQ32
  have N32 := Fr.app N21 N32q
  refine ogoS st32 ?_
  show OWay p e below G T32 (mkF m 52 #[.val (.long q0), .second, .val (.long q1), .second, .val (.long q2), .second, .val (.long q3), .second, .val (.long q4), .second, .val (.long q5), .second, .val (.ref b1), .val (.ref b9), .val (.ref b_23)] [(.long (q0 + q4))])
  refine ogo (fun _ z_ => XS.aload X32.here hx rfl (hb hby at_52) rfl rfl z_) ?_
  show OWay p e below G T32 (mkF m 54 #[.val (.long q0), .second, .val (.long q1), .second, .val (.long q2), .second, .val (.long q3), .second, .val (.long q4), .second, .val (.long q5), .second, .val (.ref b1), .val (.ref b9), .val (.ref b_23)] [(.ref b9), (.long (q0 + q4))])
  have F33 : Fld Z T21.heap b9 "com/example/wakeline/wakeline/similarity/SearchCounts" "retrieved" "J" (.long q4) := (P12.keep Kq21 nin0)
  have F35 : Exa Z T21.heap b9 "com/example/wakeline/wakeline/similarity/SearchCounts" := ((A9.keep Kq11).keep Kq21)
  obtain ⟨_, T34, L34, X34, hQ34, st34⟩ := wVirtual X32 hx hZ (y := (⟨"com/example/wakeline/wakeline/similarity/SearchCounts", "retrieved", "()J"⟩ : MethodName)) (z := (⟨"com/example/wakeline/wakeline/similarity/SearchCounts", "retrieved", "()J"⟩ : MethodName)) hown (hw _ (List.mem_of_getElem? (i := 29) rfl)) (hw _ (List.mem_of_getElem? (i := 30) rfl)) (notFace_of_selects (args := #[]) (mvT hZ (hw _ (List.mem_of_getElem? (i := 32) rfl)))) (hw _ (List.mem_of_getElem? (i := 32) rfl)) (hw _ (List.mem_of_getElem? (i := 31) rfl)) (hw _ (List.mem_of_getElem? (i := 2) rfl)) (hw _ (List.mem_of_getElem? (i := 33) rfl)) (by decide) (get5_c l Z az hw [] b9 q4 T21.heap n0 (Nat.le_trans (Nat.le_trans (Nat.le_trans (Nat.le_trans (Nat.le_trans Z0 E1.1) Kq3.1) E9.1) Kq11.1) Kq21.1) F33) 2 (by decide) (by decide) F35 (g := (mkF m 54 #[.val (.long q0), .second, .val (.long q1), .second, .val (.long q2), .second, .val (.long q3), .second, .val (.long q4), .second, .val (.long q5), .second, .val (.ref b1), .val (.ref b9), .val (.ref b_23)] [(.ref b9), (.long (q0 + q4))])) rfl (by rw [hml]; rfl) (argsL := []) (rest := [(.long (q0 + q4))]) (lenOf pd___J rfl) rfl (by show 2 * 0 + _ ≤ _; exact Nat.le_of_eq rfl) (hb hby at_54) rfl eq32 (by decide) (by decide)
  obtain ⟨rfl, N34q, eq34⟩ := hQ34
  have N34 := Fr.app N32 N34q
  refine ogoS st34 ?_
  show OWay p e below G T34 (mkF m 57 #[.val (.long q0), .second, .val (.long q1), .second, .val (.long q2), .second, .val (.long q3), .second, .val (.long q4), .second, .val (.long q5), .second, .val (.ref b1), .val (.ref b9), .val (.ref b_23)] [(.long q4), (.long (q0 + q4))])
  refine ogo (fun _ z_ => XS.lsub X34.here hx rfl (hb hby at_57) rfl z_) ?_
  show OWay p e below G T34 (mkF m 58 #[.val (.long q0), .second, .val (.long q1), .second, .val (.long q2), .second, .val (.long q3), .second, .val (.long q4), .second, .val (.long q5), .second, .val (.ref b1), .val (.ref b9), .val (.ref b_23)] [(.long ((q0 + q4) - q4))])
  refine ogo (fun _ z_ => XS.aload X34.here hx rfl (hb hby at_58) rfl rfl z_) ?_
  show OWay p e below G T34 (mkF m 60 #[.val (.long q0), .second, .val (.long q1), .second, .val (.long q2), .second, .val (.long q3), .second, .val (.long q4), .second, .val (.long q5), .second, .val (.ref b1), .val (.ref b9), .val (.ref b_23)] [(.ref b1), (.long ((q0 + q4) - q4))])
  have F36 : Fld Z T21.heap b1 "com/example/wakeline/wakeline/similarity/SearchCounts" "retrieved" "J" (.long q0) := (F17.keep Kq21 nin0)
  have F38 : Exa Z T21.heap b1 "com/example/wakeline/wakeline/similarity/SearchCounts" := (F22.keep Kq21)
  obtain ⟨_, T37, L37, X37, hQ37, st37⟩ := wVirtual X34 hx hZ (y := (⟨"com/example/wakeline/wakeline/similarity/SearchCounts", "retrieved", "()J"⟩ : MethodName)) (z := (⟨"com/example/wakeline/wakeline/similarity/SearchCounts", "retrieved", "()J"⟩ : MethodName)) hown (hw _ (List.mem_of_getElem? (i := 29) rfl)) (hw _ (List.mem_of_getElem? (i := 30) rfl)) (notFace_of_selects (args := #[]) (mvT hZ (hw _ (List.mem_of_getElem? (i := 32) rfl)))) (hw _ (List.mem_of_getElem? (i := 32) rfl)) (hw _ (List.mem_of_getElem? (i := 31) rfl)) (hw _ (List.mem_of_getElem? (i := 2) rfl)) (hw _ (List.mem_of_getElem? (i := 33) rfl)) (by decide) (get5_c l Z az hw [] b1 q0 T21.heap n0 (Nat.le_trans (Nat.le_trans (Nat.le_trans (Nat.le_trans (Nat.le_trans Z0 E1.1) Kq3.1) E9.1) Kq11.1) Kq21.1) F36) 2 (by decide) (by decide) F38 (g := (mkF m 60 #[.val (.long q0), .second, .val (.long q1), .second, .val (.long q2), .second, .val (.long q3), .second, .val (.long q4), .second, .val (.long q5), .second, .val (.ref b1), .val (.ref b9), .val (.ref b_23)] [(.ref b1), (.long ((q0 + q4) - q4))])) rfl (by rw [hml]; rfl) (argsL := []) (rest := [(.long ((q0 + q4) - q4))]) (lenOf pd___J rfl) rfl (by show 2 * 0 + _ ≤ _; exact Nat.le_of_eq rfl) (hb hby at_60) rfl eq34 (by decide) (by decide)
  obtain ⟨rfl, N37q, eq37⟩ := hQ37
  have N37 := Fr.app N34 N37q
  refine ogoS st37 ?_
  show OWay p e below G T37 (mkF m 63 #[.val (.long q0), .second, .val (.long q1), .second, .val (.long q2), .second, .val (.long q3), .second, .val (.long q4), .second, .val (.long q5), .second, .val (.ref b1), .val (.ref b9), .val (.ref b_23)] [(.long q0), (.long ((q0 + q4) - q4))])
  refine ogo (fun _ z_ => XS.lcmp X37.here hx rfl (hb hby at_63) rfl z_) ?_
  show OWay p e below G T37 (mkF m 64 #[.val (.long q0), .second, .val (.long q1), .second, .val (.long q2), .second, .val (.long q3), .second, .val (.long q4), .second, .val (.long q5), .second, .val (.ref b1), .val (.ref b9), .val (.ref b_23)] [(.int (lcmpW ((q0 + q4) - q4) q0))])
  refine ogo (fun _ z_ => XS.ifNo X37.here hx rfl (hb hby at_64) rfl ((if0 _ _).trans (teq ((lw_eq _ _).mpr (Int64.add_sub_cancel _ _))).2) z_) ?_
  show OWay p e below G T37 (mkF m 67 #[.val (.long q0), .second, .val (.long q1), .second, .val (.long q2), .second, .val (.long q3), .second, .val (.long q4), .second, .val (.long q5), .second, .val (.ref b1), .val (.ref b9), .val (.ref b_23)] [])
  refine ogo (fun _ z_ => XS.aload X37.here hx rfl (hb hby at_67) rfl rfl z_) ?_
  show OWay p e below G T37 (mkF m 69 #[.val (.long q0), .second, .val (.long q1), .second, .val (.long q2), .second, .val (.long q3), .second, .val (.long q4), .second, .val (.long q5), .second, .val (.ref b1), .val (.ref b9), .val (.ref b_23)] [(.ref b_23)])
  obtain ⟨_, T39, L39, X39, hQ39, st39⟩ := wVirtual X37 hx hZ (y := (⟨"com/example/wakeline/wakeline/similarity/SearchCounts", "elementRetrieved", "()J"⟩ : MethodName)) (z := (⟨"com/example/wakeline/wakeline/similarity/SearchCounts", "elementRetrieved", "()J"⟩ : MethodName)) hown (hw _ (List.mem_of_getElem? (i := 34) rfl)) (hw _ (List.mem_of_getElem? (i := 35) rfl)) (notFace_of_selects (args := #[]) (mvT hZ (hw _ (List.mem_of_getElem? (i := 37) rfl)))) (hw _ (List.mem_of_getElem? (i := 37) rfl)) (hw _ (List.mem_of_getElem? (i := 36) rfl)) (hw _ (List.mem_of_getElem? (i := 2) rfl)) (hw _ (List.mem_of_getElem? (i := 38) rfl)) (by decide) (get6_c l Z az hw [] b_23 (q1 + q5) T21.heap n0 (Nat.le_trans (Nat.le_trans (Nat.le_trans (Nat.le_trans (Nat.le_trans Z0 E1.1) Kq3.1) E9.1) Kq11.1) Kq21.1) P28) 0 (by decide) (by decide) P26 (g := (mkF m 69 #[.val (.long q0), .second, .val (.long q1), .second, .val (.long q2), .second, .val (.long q3), .second, .val (.long q4), .second, .val (.long q5), .second, .val (.ref b1), .val (.ref b9), .val (.ref b_23)] [(.ref b_23)])) rfl (by rw [hml]; rfl) (argsL := []) (rest := []) (lenOf pd___J rfl) rfl (by show 2 * 0 + _ ≤ _; exact Nat.le_of_eq rfl) (hb hby at_69) rfl eq37 (by decide) (by decide)
  obtain ⟨rfl, N39q, eq39⟩ := hQ39
  have N39 := Fr.app N37 N39q
  refine ogoS st39 ?_
  show OWay p e below G T39 (mkF m 72 #[.val (.long q0), .second, .val (.long q1), .second, .val (.long q2), .second, .val (.long q3), .second, .val (.long q4), .second, .val (.long q5), .second, .val (.ref b1), .val (.ref b9), .val (.ref b_23)] [(.long (q1 + q5))])
  refine ogo (fun _ z_ => XS.aload X39.here hx rfl (hb hby at_72) rfl rfl z_) ?_
  show OWay p e below G T39 (mkF m 74 #[.val (.long q0), .second, .val (.long q1), .second, .val (.long q2), .second, .val (.long q3), .second, .val (.long q4), .second, .val (.long q5), .second, .val (.ref b1), .val (.ref b9), .val (.ref b_23)] [(.ref b9), (.long (q1 + q5))])
  have F40 : Fld Z T21.heap b9 "com/example/wakeline/wakeline/similarity/SearchCounts" "elementRetrieved" "J" (.long q5) := (P13.keep Kq21 nin0)
  obtain ⟨_, T41, L41, X41, hQ41, st41⟩ := wVirtual X39 hx hZ (y := (⟨"com/example/wakeline/wakeline/similarity/SearchCounts", "elementRetrieved", "()J"⟩ : MethodName)) (z := (⟨"com/example/wakeline/wakeline/similarity/SearchCounts", "elementRetrieved", "()J"⟩ : MethodName)) hown (hw _ (List.mem_of_getElem? (i := 34) rfl)) (hw _ (List.mem_of_getElem? (i := 35) rfl)) (notFace_of_selects (args := #[]) (mvT hZ (hw _ (List.mem_of_getElem? (i := 37) rfl)))) (hw _ (List.mem_of_getElem? (i := 37) rfl)) (hw _ (List.mem_of_getElem? (i := 36) rfl)) (hw _ (List.mem_of_getElem? (i := 2) rfl)) (hw _ (List.mem_of_getElem? (i := 38) rfl)) (by decide) (get6_c l Z az hw [] b9 q5 T21.heap n0 (Nat.le_trans (Nat.le_trans (Nat.le_trans (Nat.le_trans (Nat.le_trans Z0 E1.1) Kq3.1) E9.1) Kq11.1) Kq21.1) F40) 2 (by decide) (by decide) F35 (g := (mkF m 74 #[.val (.long q0), .second, .val (.long q1), .second, .val (.long q2), .second, .val (.long q3), .second, .val (.long q4), .second, .val (.long q5), .second, .val (.ref b1), .val (.ref b9), .val (.ref b_23)] [(.ref b9), (.long (q1 + q5))])) rfl (by rw [hml]; rfl) (argsL := []) (rest := [(.long (q1 + q5))]) (lenOf pd___J rfl) rfl (by show 2 * 0 + _ ≤ _; exact Nat.le_of_eq rfl) (hb hby at_74) rfl eq39 (by decide) (by decide)
  obtain ⟨rfl, N41q, eq41⟩ := hQ41
  have N41 := Fr.app N39 N41q
  refine ogoS st41 ?_
  show OWay p e below G T41 (mkF m 77 #[.val (.long q0), .second, .val (.long q1), .second, .val (.long q2), .second, .val (.long q3), .second, .val (.long q4), .second, .val (.long q5), .second, .val (.ref b1), .val (.ref b9), .val (.ref b_23)] [(.long q5), (.long (q1 + q5))])
  refine ogo (fun _ z_ => XS.lsub X41.here hx rfl (hb hby at_77) rfl z_) ?_
  show OWay p e below G T41 (mkF m 78 #[.val (.long q0), .second, .val (.long q1), .second, .val (.long q2), .second, .val (.long q3), .second, .val (.long q4), .second, .val (.long q5), .second, .val (.ref b1), .val (.ref b9), .val (.ref b_23)] [(.long ((q1 + q5) - q5))])
  refine ogo (fun _ z_ => XS.aload X41.here hx rfl (hb hby at_78) rfl rfl z_) ?_
  show OWay p e below G T41 (mkF m 80 #[.val (.long q0), .second, .val (.long q1), .second, .val (.long q2), .second, .val (.long q3), .second, .val (.long q4), .second, .val (.long q5), .second, .val (.ref b1), .val (.ref b9), .val (.ref b_23)] [(.ref b1), (.long ((q1 + q5) - q5))])
  have F42 : Fld Z T21.heap b1 "com/example/wakeline/wakeline/similarity/SearchCounts" "elementRetrieved" "J" (.long q1) := (F18.keep Kq21 nin0)
  obtain ⟨_, T43, L43, X43, hQ43, st43⟩ := wVirtual X41 hx hZ (y := (⟨"com/example/wakeline/wakeline/similarity/SearchCounts", "elementRetrieved", "()J"⟩ : MethodName)) (z := (⟨"com/example/wakeline/wakeline/similarity/SearchCounts", "elementRetrieved", "()J"⟩ : MethodName)) hown (hw _ (List.mem_of_getElem? (i := 34) rfl)) (hw _ (List.mem_of_getElem? (i := 35) rfl)) (notFace_of_selects (args := #[]) (mvT hZ (hw _ (List.mem_of_getElem? (i := 37) rfl)))) (hw _ (List.mem_of_getElem? (i := 37) rfl)) (hw _ (List.mem_of_getElem? (i := 36) rfl)) (hw _ (List.mem_of_getElem? (i := 2) rfl)) (hw _ (List.mem_of_getElem? (i := 38) rfl)) (by decide) (get6_c l Z az hw [] b1 q1 T21.heap n0 (Nat.le_trans (Nat.le_trans (Nat.le_trans (Nat.le_trans (Nat.le_trans Z0 E1.1) Kq3.1) E9.1) Kq11.1) Kq21.1) F42) 2 (by decide) (by decide) F38 (g := (mkF m 80 #[.val (.long q0), .second, .val (.long q1), .second, .val (.long q2), .second, .val (.long q3), .second, .val (.long q4), .second, .val (.long q5), .second, .val (.ref b1), .val (.ref b9), .val (.ref b_23)] [(.ref b1), (.long ((q1 + q5) - q5))])) rfl (by rw [hml]; rfl) (argsL := []) (rest := [(.long ((q1 + q5) - q5))]) (lenOf pd___J rfl) rfl (by show 2 * 0 + _ ≤ _; exact Nat.le_of_eq rfl) (hb hby at_80) rfl eq41 (by decide) (by decide)
  obtain ⟨rfl, N43q, eq43⟩ := hQ43
  have N43 := Fr.app N41 N43q
  refine ogoS st43 ?_
  show OWay p e below G T43 (mkF m 83 #[.val (.long q0), .second, .val (.long q1), .second, .val (.long q2), .second, .val (.long q3), .second, .val (.long q4), .second, .val (.long q5), .second, .val (.ref b1), .val (.ref b9), .val (.ref b_23)] [(.long q1), (.long ((q1 + q5) - q5))])
  refine ogo (fun _ z_ => XS.lcmp X43.here hx rfl (hb hby at_83) rfl z_) ?_
  show OWay p e below G T43 (mkF m 84 #[.val (.long q0), .second, .val (.long q1), .second, .val (.long q2), .second, .val (.long q3), .second, .val (.long q4), .second, .val (.long q5), .second, .val (.ref b1), .val (.ref b9), .val (.ref b_23)] [(.int (lcmpW ((q1 + q5) - q5) q1))])
  refine ogo (fun _ z_ => XS.ifNo X43.here hx rfl (hb hby at_84) rfl ((if0 _ _).trans (teq ((lw_eq _ _).mpr (Int64.add_sub_cancel _ _))).2) z_) ?_
  show OWay p e below G T43 (mkF m 87 #[.val (.long q0), .second, .val (.long q1), .second, .val (.long q2), .second, .val (.long q3), .second, .val (.long q4), .second, .val (.long q5), .second, .val (.ref b1), .val (.ref b9), .val (.ref b_23)] [])
  refine ogo (fun _ z_ => XS.aload X43.here hx rfl (hb hby at_87) rfl rfl z_) ?_
  show OWay p e below G T43 (mkF m 89 #[.val (.long q0), .second, .val (.long q1), .second, .val (.long q2), .second, .val (.long q3), .second, .val (.long q4), .second, .val (.long q5), .second, .val (.ref b1), .val (.ref b9), .val (.ref b_23)] [(.ref b_23)])
  obtain ⟨_, T44, L44, X44, hQ44, st44⟩ := wVirtual X43 hx hZ (y := (⟨"com/example/wakeline/wakeline/similarity/SearchCounts", "refined", "()J"⟩ : MethodName)) (z := (⟨"com/example/wakeline/wakeline/similarity/SearchCounts", "refined", "()J"⟩ : MethodName)) hown (hw _ (List.mem_of_getElem? (i := 39) rfl)) (hw _ (List.mem_of_getElem? (i := 40) rfl)) (notFace_of_selects (args := #[]) (mvT hZ (hw _ (List.mem_of_getElem? (i := 42) rfl)))) (hw _ (List.mem_of_getElem? (i := 42) rfl)) (hw _ (List.mem_of_getElem? (i := 41) rfl)) (hw _ (List.mem_of_getElem? (i := 2) rfl)) (hw _ (List.mem_of_getElem? (i := 43) rfl)) (by decide) (get7_c l Z az hw [] b_23 (q2 + (q4 ^^^ q3)) T21.heap n0 (Nat.le_trans (Nat.le_trans (Nat.le_trans (Nat.le_trans (Nat.le_trans Z0 E1.1) Kq3.1) E9.1) Kq11.1) Kq21.1) P29) 0 (by decide) (by decide) P26 (g := (mkF m 89 #[.val (.long q0), .second, .val (.long q1), .second, .val (.long q2), .second, .val (.long q3), .second, .val (.long q4), .second, .val (.long q5), .second, .val (.ref b1), .val (.ref b9), .val (.ref b_23)] [(.ref b_23)])) rfl (by rw [hml]; rfl) (argsL := []) (rest := []) (lenOf pd___J rfl) rfl (by show 2 * 0 + _ ≤ _; exact Nat.le_of_eq rfl) (hb hby at_89) rfl eq43 (by decide) (by decide)
  obtain ⟨rfl, N44q, eq44⟩ := hQ44
  have N44 := Fr.app N43 N44q
  refine ogoS st44 ?_
  show OWay p e below G T44 (mkF m 92 #[.val (.long q0), .second, .val (.long q1), .second, .val (.long q2), .second, .val (.long q3), .second, .val (.long q4), .second, .val (.long q5), .second, .val (.ref b1), .val (.ref b9), .val (.ref b_23)] [(.long (q2 + (q4 ^^^ q3)))])
  refine ogo (fun _ z_ => XS.aload X44.here hx rfl (hb hby at_92) rfl rfl z_) ?_
  show OWay p e below G T44 (mkF m 94 #[.val (.long q0), .second, .val (.long q1), .second, .val (.long q2), .second, .val (.long q3), .second, .val (.long q4), .second, .val (.long q5), .second, .val (.ref b1), .val (.ref b9), .val (.ref b_23)] [(.ref b9), (.long (q2 + (q4 ^^^ q3)))])
  have F45 : Fld Z T21.heap b9 "com/example/wakeline/wakeline/similarity/SearchCounts" "refined" "J" (.long (q4 ^^^ q3)) := (P14.keep Kq21 nin0)
  obtain ⟨_, T46, L46, X46, hQ46, st46⟩ := wVirtual X44 hx hZ (y := (⟨"com/example/wakeline/wakeline/similarity/SearchCounts", "refined", "()J"⟩ : MethodName)) (z := (⟨"com/example/wakeline/wakeline/similarity/SearchCounts", "refined", "()J"⟩ : MethodName)) hown (hw _ (List.mem_of_getElem? (i := 39) rfl)) (hw _ (List.mem_of_getElem? (i := 40) rfl)) (notFace_of_selects (args := #[]) (mvT hZ (hw _ (List.mem_of_getElem? (i := 42) rfl)))) (hw _ (List.mem_of_getElem? (i := 42) rfl)) (hw _ (List.mem_of_getElem? (i := 41) rfl)) (hw _ (List.mem_of_getElem? (i := 2) rfl)) (hw _ (List.mem_of_getElem? (i := 43) rfl)) (by decide) (get7_c l Z az hw [] b9 (q4 ^^^ q3) T21.heap n0 (Nat.le_trans (Nat.le_trans (Nat.le_trans (Nat.le_trans (Nat.le_trans Z0 E1.1) Kq3.1) E9.1) Kq11.1) Kq21.1) F45) 2 (by decide) (by decide) F35 (g := (mkF m 94 #[.val (.long q0), .second, .val (.long q1), .second, .val (.long q2), .second, .val (.long q3), .second, .val (.long q4), .second, .val (.long q5), .second, .val (.ref b1), .val (.ref b9), .val (.ref b_23)] [(.ref b9), (.long (q2 + (q4 ^^^ q3)))])) rfl (by rw [hml]; rfl) (argsL := []) (rest := [(.long (q2 + (q4 ^^^ q3)))]) (lenOf pd___J rfl) rfl (by show 2 * 0 + _ ≤ _; exact Nat.le_of_eq rfl) (hb hby at_94) rfl eq44 (by decide) (by decide)
  obtain ⟨rfl, N46q, eq46⟩ := hQ46
  have N46 := Fr.app N44 N46q
  refine ogoS st46 ?_
  show OWay p e below G T46 (mkF m 97 #[.val (.long q0), .second, .val (.long q1), .second, .val (.long q2), .second, .val (.long q3), .second, .val (.long q4), .second, .val (.long q5), .second, .val (.ref b1), .val (.ref b9), .val (.ref b_23)] [(.long (q4 ^^^ q3)), (.long (q2 + (q4 ^^^ q3)))])
  refine ogo (fun _ z_ => XS.lsub X46.here hx rfl (hb hby at_97) rfl z_) ?_
  show OWay p e below G T46 (mkF m 98 #[.val (.long q0), .second, .val (.long q1), .second, .val (.long q2), .second, .val (.long q3), .second, .val (.long q4), .second, .val (.long q5), .second, .val (.ref b1), .val (.ref b9), .val (.ref b_23)] [(.long ((q2 + (q4 ^^^ q3)) - (q4 ^^^ q3)))])
  refine ogo (fun _ z_ => XS.aload X46.here hx rfl (hb hby at_98) rfl rfl z_) ?_
  show OWay p e below G T46 (mkF m 100 #[.val (.long q0), .second, .val (.long q1), .second, .val (.long q2), .second, .val (.long q3), .second, .val (.long q4), .second, .val (.long q5), .second, .val (.ref b1), .val (.ref b9), .val (.ref b_23)] [(.ref b1), (.long ((q2 + (q4 ^^^ q3)) - (q4 ^^^ q3)))])
  have F47 : Fld Z T21.heap b1 "com/example/wakeline/wakeline/similarity/SearchCounts" "refined" "J" (.long q2) := (F19.keep Kq21 nin0)
  obtain ⟨_, T48, L48, X48, hQ48, st48⟩ := wVirtual X46 hx hZ (y := (⟨"com/example/wakeline/wakeline/similarity/SearchCounts", "refined", "()J"⟩ : MethodName)) (z := (⟨"com/example/wakeline/wakeline/similarity/SearchCounts", "refined", "()J"⟩ : MethodName)) hown (hw _ (List.mem_of_getElem? (i := 39) rfl)) (hw _ (List.mem_of_getElem? (i := 40) rfl)) (notFace_of_selects (args := #[]) (mvT hZ (hw _ (List.mem_of_getElem? (i := 42) rfl)))) (hw _ (List.mem_of_getElem? (i := 42) rfl)) (hw _ (List.mem_of_getElem? (i := 41) rfl)) (hw _ (List.mem_of_getElem? (i := 2) rfl)) (hw _ (List.mem_of_getElem? (i := 43) rfl)) (by decide) (get7_c l Z az hw [] b1 q2 T21.heap n0 (Nat.le_trans (Nat.le_trans (Nat.le_trans (Nat.le_trans (Nat.le_trans Z0 E1.1) Kq3.1) E9.1) Kq11.1) Kq21.1) F47) 2 (by decide) (by decide) F38 (g := (mkF m 100 #[.val (.long q0), .second, .val (.long q1), .second, .val (.long q2), .second, .val (.long q3), .second, .val (.long q4), .second, .val (.long q5), .second, .val (.ref b1), .val (.ref b9), .val (.ref b_23)] [(.ref b1), (.long ((q2 + (q4 ^^^ q3)) - (q4 ^^^ q3)))])) rfl (by rw [hml]; rfl) (argsL := []) (rest := [(.long ((q2 + (q4 ^^^ q3)) - (q4 ^^^ q3)))]) (lenOf pd___J rfl) rfl (by show 2 * 0 + _ ≤ _; exact Nat.le_of_eq rfl) (hb hby at_100) rfl eq46 (by decide) (by decide)
  obtain ⟨rfl, N48q, eq48⟩ := hQ48
  have N48 := Fr.app N46 N48q
  refine ogoS st48 ?_
  show OWay p e below G T48 (mkF m 103 #[.val (.long q0), .second, .val (.long q1), .second, .val (.long q2), .second, .val (.long q3), .second, .val (.long q4), .second, .val (.long q5), .second, .val (.ref b1), .val (.ref b9), .val (.ref b_23)] [(.long q2), (.long ((q2 + (q4 ^^^ q3)) - (q4 ^^^ q3)))])
  refine ogo (fun _ z_ => XS.lcmp X48.here hx rfl (hb hby at_103) rfl z_) ?_
  show OWay p e below G T48 (mkF m 104 #[.val (.long q0), .second, .val (.long q1), .second, .val (.long q2), .second, .val (.long q3), .second, .val (.long q4), .second, .val (.long q5), .second, .val (.ref b1), .val (.ref b9), .val (.ref b_23)] [(.int (lcmpW ((q2 + (q4 ^^^ q3)) - (q4 ^^^ q3)) q2))])
  refine ogo (fun _ z_ => XS.ifNo X48.here hx rfl (hb hby at_104) rfl ((if0 _ _).trans (teq ((lw_eq _ _).mpr (Int64.add_sub_cancel _ _))).2) z_) ?_
  show OWay p e below G T48 (mkF m 107 #[.val (.long q0), .second, .val (.long q1), .second, .val (.long q2), .second, .val (.long q3), .second, .val (.long q4), .second, .val (.long q5), .second, .val (.ref b1), .val (.ref b9), .val (.ref b_23)] [])
  refine ogo (fun _ z_ => XS.aload X48.here hx rfl (hb hby at_107) rfl rfl z_) ?_
  show OWay p e below G T48 (mkF m 109 #[.val (.long q0), .second, .val (.long q1), .second, .val (.long q2), .second, .val (.long q3), .second, .val (.long q4), .second, .val (.long q5), .second, .val (.ref b1), .val (.ref b9), .val (.ref b_23)] [(.ref b_23)])
  obtain ⟨_, T49, L49, X49, hQ49, st49⟩ := wVirtual X48 hx hZ (y := (⟨"com/example/wakeline/wakeline/similarity/SearchCounts", "results", "()J"⟩ : MethodName)) (z := (⟨"com/example/wakeline/wakeline/similarity/SearchCounts", "results", "()J"⟩ : MethodName)) hown (hw _ (List.mem_of_getElem? (i := 44) rfl)) (hw _ (List.mem_of_getElem? (i := 45) rfl)) (notFace_of_selects (args := #[]) (mvT hZ (hw _ (List.mem_of_getElem? (i := 47) rfl)))) (hw _ (List.mem_of_getElem? (i := 47) rfl)) (hw _ (List.mem_of_getElem? (i := 46) rfl)) (hw _ (List.mem_of_getElem? (i := 2) rfl)) (hw _ (List.mem_of_getElem? (i := 48) rfl)) (by decide) (get8_c l Z az hw [] b_23 (q3 + (q5 ^^^ q2)) T21.heap n0 (Nat.le_trans (Nat.le_trans (Nat.le_trans (Nat.le_trans (Nat.le_trans Z0 E1.1) Kq3.1) E9.1) Kq11.1) Kq21.1) P30) 0 (by decide) (by decide) P26 (g := (mkF m 109 #[.val (.long q0), .second, .val (.long q1), .second, .val (.long q2), .second, .val (.long q3), .second, .val (.long q4), .second, .val (.long q5), .second, .val (.ref b1), .val (.ref b9), .val (.ref b_23)] [(.ref b_23)])) rfl (by rw [hml]; rfl) (argsL := []) (rest := []) (lenOf pd___J rfl) rfl (by show 2 * 0 + _ ≤ _; exact Nat.le_of_eq rfl) (hb hby at_109) rfl eq48 (by decide) (by decide)
  obtain ⟨rfl, N49q, eq49⟩ := hQ49
  have N49 := Fr.app N48 N49q
  refine ogoS st49 ?_
  show OWay p e below G T49 (mkF m 112 #[.val (.long q0), .second, .val (.long q1), .second, .val (.long q2), .second, .val (.long q3), .second, .val (.long q4), .second, .val (.long q5), .second, .val (.ref b1), .val (.ref b9), .val (.ref b_23)] [(.long (q3 + (q5 ^^^ q2)))])
  refine ogo (fun _ z_ => XS.aload X49.here hx rfl (hb hby at_112) rfl rfl z_) ?_
  show OWay p e below G T49 (mkF m 114 #[.val (.long q0), .second, .val (.long q1), .second, .val (.long q2), .second, .val (.long q3), .second, .val (.long q4), .second, .val (.long q5), .second, .val (.ref b1), .val (.ref b9), .val (.ref b_23)] [(.ref b9), (.long (q3 + (q5 ^^^ q2)))])
  have F50 : Fld Z T21.heap b9 "com/example/wakeline/wakeline/similarity/SearchCounts" "results" "J" (.long (q5 ^^^ q2)) := (P15.keep Kq21 nin0)
  obtain ⟨_, T51, L51, X51, hQ51, st51⟩ := wVirtual X49 hx hZ (y := (⟨"com/example/wakeline/wakeline/similarity/SearchCounts", "results", "()J"⟩ : MethodName)) (z := (⟨"com/example/wakeline/wakeline/similarity/SearchCounts", "results", "()J"⟩ : MethodName)) hown (hw _ (List.mem_of_getElem? (i := 44) rfl)) (hw _ (List.mem_of_getElem? (i := 45) rfl)) (notFace_of_selects (args := #[]) (mvT hZ (hw _ (List.mem_of_getElem? (i := 47) rfl)))) (hw _ (List.mem_of_getElem? (i := 47) rfl)) (hw _ (List.mem_of_getElem? (i := 46) rfl)) (hw _ (List.mem_of_getElem? (i := 2) rfl)) (hw _ (List.mem_of_getElem? (i := 48) rfl)) (by decide) (get8_c l Z az hw [] b9 (q5 ^^^ q2) T21.heap n0 (Nat.le_trans (Nat.le_trans (Nat.le_trans (Nat.le_trans (Nat.le_trans Z0 E1.1) Kq3.1) E9.1) Kq11.1) Kq21.1) F50) 2 (by decide) (by decide) F35 (g := (mkF m 114 #[.val (.long q0), .second, .val (.long q1), .second, .val (.long q2), .second, .val (.long q3), .second, .val (.long q4), .second, .val (.long q5), .second, .val (.ref b1), .val (.ref b9), .val (.ref b_23)] [(.ref b9), (.long (q3 + (q5 ^^^ q2)))])) rfl (by rw [hml]; rfl) (argsL := []) (rest := [(.long (q3 + (q5 ^^^ q2)))]) (lenOf pd___J rfl) rfl (by show 2 * 0 + _ ≤ _; exact Nat.le_of_eq rfl) (hb hby at_114) rfl eq49 (by decide) (by decide)
  obtain ⟨rfl, N51q, eq51⟩ := hQ51
  have N51 := Fr.app N49 N51q
  refine ogoS st51 ?_
  show OWay p e below G T51 (mkF m 117 #[.val (.long q0), .second, .val (.long q1), .second, .val (.long q2), .second, .val (.long q3), .second, .val (.long q4), .second, .val (.long q5), .second, .val (.ref b1), .val (.ref b9), .val (.ref b_23)] [(.long (q5 ^^^ q2)), (.long (q3 + (q5 ^^^ q2)))])
  refine ogo (fun _ z_ => XS.lsub X51.here hx rfl (hb hby at_117) rfl z_) ?_
  show OWay p e below G T51 (mkF m 118 #[.val (.long q0), .second, .val (.long q1), .second, .val (.long q2), .second, .val (.long q3), .second, .val (.long q4), .second, .val (.long q5), .second, .val (.ref b1), .val (.ref b9), .val (.ref b_23)] [(.long ((q3 + (q5 ^^^ q2)) - (q5 ^^^ q2)))])
  refine ogo (fun _ z_ => XS.aload X51.here hx rfl (hb hby at_118) rfl rfl z_) ?_
  show OWay p e below G T51 (mkF m 120 #[.val (.long q0), .second, .val (.long q1), .second, .val (.long q2), .second, .val (.long q3), .second, .val (.long q4), .second, .val (.long q5), .second, .val (.ref b1), .val (.ref b9), .val (.ref b_23)] [(.ref b1), (.long ((q3 + (q5 ^^^ q2)) - (q5 ^^^ q2)))])
  have F52 : Fld Z T21.heap b1 "com/example/wakeline/wakeline/similarity/SearchCounts" "results" "J" (.long q3) := (F20.keep Kq21 nin0)
  obtain ⟨_, T53, L53, X53, hQ53, st53⟩ := wVirtual X51 hx hZ (y := (⟨"com/example/wakeline/wakeline/similarity/SearchCounts", "results", "()J"⟩ : MethodName)) (z := (⟨"com/example/wakeline/wakeline/similarity/SearchCounts", "results", "()J"⟩ : MethodName)) hown (hw _ (List.mem_of_getElem? (i := 44) rfl)) (hw _ (List.mem_of_getElem? (i := 45) rfl)) (notFace_of_selects (args := #[]) (mvT hZ (hw _ (List.mem_of_getElem? (i := 47) rfl)))) (hw _ (List.mem_of_getElem? (i := 47) rfl)) (hw _ (List.mem_of_getElem? (i := 46) rfl)) (hw _ (List.mem_of_getElem? (i := 2) rfl)) (hw _ (List.mem_of_getElem? (i := 48) rfl)) (by decide) (get8_c l Z az hw [] b1 q3 T21.heap n0 (Nat.le_trans (Nat.le_trans (Nat.le_trans (Nat.le_trans (Nat.le_trans Z0 E1.1) Kq3.1) E9.1) Kq11.1) Kq21.1) F52) 2 (by decide) (by decide) F38 (g := (mkF m 120 #[.val (.long q0), .second, .val (.long q1), .second, .val (.long q2), .second, .val (.long q3), .second, .val (.long q4), .second, .val (.long q5), .second, .val (.ref b1), .val (.ref b9), .val (.ref b_23)] [(.ref b1), (.long ((q3 + (q5 ^^^ q2)) - (q5 ^^^ q2)))])) rfl (by rw [hml]; rfl) (argsL := []) (rest := [(.long ((q3 + (q5 ^^^ q2)) - (q5 ^^^ q2)))]) (lenOf pd___J rfl) rfl (by show 2 * 0 + _ ≤ _; exact Nat.le_of_eq rfl) (hb hby at_120) rfl eq51 (by decide) (by decide)
  obtain ⟨rfl, N53q, eq53⟩ := hQ53
  have N53 := Fr.app N51 N53q
  refine ogoS st53 ?_
  show OWay p e below G T53 (mkF m 123 #[.val (.long q0), .second, .val (.long q1), .second, .val (.long q2), .second, .val (.long q3), .second, .val (.long q4), .second, .val (.long q5), .second, .val (.ref b1), .val (.ref b9), .val (.ref b_23)] [(.long q3), (.long ((q3 + (q5 ^^^ q2)) - (q5 ^^^ q2)))])
  refine ogo (fun _ z_ => XS.lcmp X53.here hx rfl (hb hby at_123) rfl z_) ?_
  show OWay p e below G T53 (mkF m 124 #[.val (.long q0), .second, .val (.long q1), .second, .val (.long q2), .second, .val (.long q3), .second, .val (.long q4), .second, .val (.long q5), .second, .val (.ref b1), .val (.ref b9), .val (.ref b_23)] [(.int (lcmpW ((q3 + (q5 ^^^ q2)) - (q5 ^^^ q2)) q3))])
  refine ogo (fun _ z_ => XS.ifNo X53.here hx rfl (hb hby at_124) rfl ((if0 _ _).trans (teq ((lw_eq _ _).mpr (Int64.add_sub_cancel _ _))).2) z_) ?_
  show OWay p e below G T53 (mkF m 127 #[.val (.long q0), .second, .val (.long q1), .second, .val (.long q2), .second, .val (.long q3), .second, .val (.long q4), .second, .val (.long q5), .second, .val (.ref b1), .val (.ref b9), .val (.ref b_23)] [])
  refine ogo (fun _ z_ => XS.iconst X53.here hx rfl (hb hby at_127) z_) ?_
  show OWay p e below G T53 (mkF m 128 #[.val (.long q0), .second, .val (.long q1), .second, .val (.long q2), .second, .val (.long q3), .second, .val (.long q4), .second, .val (.long q5), .second, .val (.ref b1), .val (.ref b9), .val (.ref b_23)] [(.int (1 : Int32))])
  refine ogo (fun _ z_ => XS.goto X53.here hx rfl (pc0 := 128) (pc' := 132) rfl (hb hby at_128) (by decide) (by decide) z_) ?_
  show OWay p e below G T53 (mkF m 132 #[.val (.long q0), .second, .val (.long q1), .second, .val (.long q2), .second, .val (.long q3), .second, .val (.long q4), .second, .val (.long q5), .second, .val (.ref b1), .val (.ref b9), .val (.ref b_23)] [(.int (1 : Int32))])
  subst hG
  refine wRetN X53 hx (t := .boolean) hret hlk (by simp) (hb hby at_132) (by decide) (by decide) eq53 ?_
  exact ⟨rfl, N53⟩
set_option maxRecDepth 65536 in
set_option maxHeartbeats 40000000 in
theorem comes_1 {Post : Tables → Env → Array Value → State → Outcome → State → Prop} (hpost : ∀ tb e args s v u, (limb_1_1.after args s (.returned v) u = true ∧ limb_1_2.after args s (.returned v) u = true ∧ True) → FrameEnd s (.returned v) u (Jvm.fieldLocs frame_1_writes args s ++ Jvm.arrayLocs frame_1_arrays args s ++ Jvm.staticLocs frame_1_statics s) 16 128 → Post tb e args s (.returned v) u) :
    ArmFor flags0 classFile x code maxLocals ret World_1 tables_1 room_1 Calls_1 rest_1 Pre_1 Post := by
  intro l hfl _ _ p e ha hc hk s m args below hf hA hF happ hP
  obtain ⟨hcalls, hrest, hpre⟩ := hP
  obtain ⟨-, -, -, hnamed, -, -, -, hat⟩ := (Spec.applies_iff hf).mp happ
  obtain ⟨hg, hn⟩ := and_e (Cond.before_iff.mp (show (Jvm.Cond.and given_1 narrow_1).before args s = true from hpre))
  obtain ⟨g1, g2⟩ := and_e hg
  obtain ⟨g3, g4⟩ := and_e g2
  obtain ⟨g5, g6⟩ := and_e g4
  obtain ⟨g7, g8⟩ := and_e g6
  obtain ⟨g9, g10⟩ := and_e g8
  obtain ⟨g11, g12⟩ := and_e g10
  obtain ⟨w0, w1, w2, w3, w4, w5, rfl⟩ : ∃ w0 w1 w2 w3 w4 w5 : Value, args = #[w0, w1, w2, w3, w4, w5] := by
    have hs : args.size = 6 := by simpa [Cond.value, given_1] using g1
    obtain ⟨L⟩ := args
    match L, hs with
    | [w0, w1, w2, w3, w4, w5], _ => exact ⟨w0, w1, w2, w3, w4, w5, rfl⟩
  have hw := fun d (hd : d ∈ tables_1) => atoms_spec (ws := Jvm.Cond.code x code maxLocals ret :: tables_1) hat d (List.mem_cons_of_mem _ hd)
  have hfit : Fit s := fun {y c} hc i hi => by
    obtain ⟨ha, rfl⟩ := Array.getElem?_eq_some_iff.mp hc
    have q := List.all_eq_true.mp ((Array.all_eq_true_iff_forall_mem.mp hF) _ (Array.getElem_mem ha)) i (List.mem_range.mpr hi)
    simpa [Array.getElem?_eq_getElem hi] using q
  obtain ⟨i0, ei0⟩ := isL_v g3
  obtain rfl : w0 = (.long i0) := Option.some.inj ei0
  obtain ⟨i1, ei1⟩ := isL_v g5
  obtain rfl : w1 = (.long i1) := Option.some.inj ei1
  obtain ⟨i2, ei2⟩ := isL_v g7
  obtain rfl : w2 = (.long i2) := Option.some.inj ei2
  obtain ⟨i3, ei3⟩ := isL_v g9
  obtain rfl : w3 = (.long i3) := Option.some.inj ei3
  obtain ⟨i4, ei4⟩ := isL_v g11
  obtain rfl : w4 = (.long i4) := Option.some.inj ei4
  obtain ⟨i5, ei5⟩ := isL_v g12
  obtain rfl : w5 = (.long i5) := Option.some.inj ei5
  obtain ⟨n, o, h1, h2, h3, _, L, rfl, ⟨rfl, N⟩, hq⟩ := law_c l s _ hw tables_1 i0 i1 i2 i3 i4 i5 s.heap s.heap.size (Nat.le_refl _) p e ha hc hk s m _ below hf ((Spec.applies_iff_loose hf).mp happ).1 ⟨rfl, State.Warmed39.refl s, rfl⟩ trivial
  refine ⟨n, _, h1, h2, h3, hpost _ _ _ _ _ _ ⟨Cond.after_iff.mpr rfl, Cond.after_iff.mpr (eq_i res_at (Term.int_eval (1)) rfl), trivial⟩ ⟨hq.1, hq.2.1, (hq.2.2.sift fun y hy => Or.inr (N y hy)).mono (by decide) (by decide)⟩⟩
theorem main_1_1 : Claimed_1_1 := comes_1 fun _ _ _ _ _ _ h hF => ⟨h.1, hF⟩
theorem main_1_2 : Claimed_1_2 := comes_1 fun _ _ _ _ _ _ h hF => ⟨h.2.1, hF⟩
end Jvm.Pilot.@@N@@
namespace Jvm.Pilot.@@N@@
open Jvm Jvm.ClassFile Sem Op Lib Jvm.Free Jvm.Stand Jvm.Pilot.@@N@@.Jvm.D
/-! MADE BY PROGRAM (witnessworld.py) out of the Statement's table words and the real class files: 10 classes; the members and pool entries that the words name. The judged class is class 1, her method 1. -/
namespace start1
open Jvm.ClassFile
def u (s : String) : CpInfo := .utf8 (stringToUtf16 s)
/-- a pool by its gaps: so many unusable entries, then the entry; so many at the end -/
def gap : Nat → List CpInfo → List CpInfo
  | 0, r => r
  | n + 1, r => .unusable :: gap n r
def poolList (es : List (Nat × CpInfo)) (last : Nat) : List CpInfo := es.foldr (fun e r => gap e.1 (e.2 :: r)) (gap last [])
def pool (es : List (Nat × CpInfo)) (last : Nat) : Array CpInfo := ⟨poolList es last⟩
def fileOf (pool : Array CpInfo) (this : Nat) (attrs : Array Attribute := #[]) (ms : Array MethodInfo := #[]) (fl : Nat := 33) (sup : Nat := 0) (ifs : Array Nat := #[]) (fds : Array FieldInfo := #[]) : ClassFile where
  minorVersion := 0
  majorVersion := 65
  constantPool := pool
  accessFlags := fl
  thisClass := this
  superClass := sup
  interfaces := ifs
  fields := fds
  methods := ms
  attributes := attrs
def plain (name : String) (sup : Option ClassId) : Class where
  name := name
  kind := .ordinary
  loader := none
  accessFlags := 33
  super := sup
  interfaces := #[]
  cf := none
  fields := #[]
  methods := #[]
  instanceTypes := #[]
  staticTypes := #[]
  resolved := #[]
  callSites := []
  init := .initialized
  statics := none
  mirror := none

def pool0 : Array CpInfo := pool [(5, u "<init>"), (0, u "()V"), (1, .class_ 10), (1, u "java/lang/Object")] 113

def k0c0 : Code := { maxStack := 0, maxLocals := 1, code := object_method_1_code, exceptionTable := #[], attributes := #[] }
def k0m0 : Method := { name := "<init>", desc := "()V", sig := { parameters := [], returnType := none }, accessFlags := 1, code := some k0c0 }
/-- java/lang/Object -/
def k0 : Class := { plain "java/lang/Object" none with
  accessFlags := 33
  interfaces := #[]
  cf := some (fileOf pool0 8 #[] #[{ accessFlags := 1, nameIndex := 5, descriptorIndex := 6, attributes := #[] }] 33 0 #[] #[])
  fields := #[]
  methods := #[k0m0]
  instanceTypes := #[]
  staticTypes := #[]
  resolved := Array.replicate 124 none
  statics := none }

def pool1 : Array CpInfo := pool [(2, .class_ 4), (1, u "java/lang/Object"), (0, u "<init>"), (0, u "()V"), (0, .class_ 8), (0, u "com/example/wakeline/wakeline/similarity/SearchCounts"), (0, .methodref 7 10), (0, .nameAndType 5 11), (0, u "(JJJJ)V"), (0, .methodref 7 13), (0, .nameAndType 14 15), (0, u "plus"), (0, u "(Lcom/example/wakeline/wakeline/similarity/SearchCounts;)Lcom/example/wakeline/wakeline/similarity/SearchCounts;"), (0, .methodref 7 17), (0, .nameAndType 18 19), (0, u "retrieved"), (0, u "()J"), (0, .methodref 7 21), (0, .nameAndType 22 19), (0, u "elementRetrieved"), (0, .methodref 7 24), (0, .nameAndType 25 19), (0, u "refined"), (0, .methodref 7 27), (0, .nameAndType 28 19), (0, u "results"), (0, .class_ 30), (0, u "com/example/wakeline/wakeline/similarity/SearchCountsPlusPinLaw"), (2, u "law"), (0, u "(JJJJJJ)Z")] 3

def k1m0 : Method := { name := "<init>", desc := "()V", sig := { parameters := [], returnType := none }, accessFlags := 1, code := none }
def k1c1 : Code := { maxStack := 12, maxLocals := 15, code := code, exceptionTable := #[], attributes := #[] }
def k1m1 : Method := { name := "law", desc := "(JJJJJJ)Z", sig := { parameters := [.long, .long, .long, .long, .long, .long], returnType := some .boolean }, accessFlags := 9, code := some k1c1 }
/-- com/example/wakeline/wakeline/similarity/SearchCountsPlusPinLaw -/
def k1 : Class := { plain "com/example/wakeline/wakeline/similarity/SearchCountsPlusPinLaw" (some 0) with
  accessFlags := 49
  interfaces := #[]
  cf := some (fileOf pool1 29 #[] #[{ accessFlags := 1, nameIndex := 5, descriptorIndex := 6, attributes := #[] }, { accessFlags := 9, nameIndex := 33, descriptorIndex := 34, attributes := #[] }] 49 2 #[] #[])
  fields := #[]
  methods := #[k1m0, k1m1]
  instanceTypes := #[]
  staticTypes := #[]
  resolved := Array.replicate 38 none
  statics := none }

def pool2 : Array CpInfo := pool [(1, .methodref 2 3), (0, .class_ 4), (0, .nameAndType 5 6), (0, u "java/lang/Object"), (0, u "<init>"), (0, u "()V"), (0, .class_ 8), (0, u "java/lang/Record")] 13

def k2c0 : Code := { maxStack := 1, maxLocals := 1, code := jdk_30_method_1_code, exceptionTable := #[], attributes := #[] }
def k2m0 : Method := { name := "<init>", desc := "()V", sig := { parameters := [], returnType := none }, accessFlags := 4, code := some k2c0 }
/-- java/lang/Record -/
def k2 : Class := { plain "java/lang/Record" (some 0) with
  accessFlags := 1057
  interfaces := #[]
  cf := some (fileOf pool2 7 #[] #[{ accessFlags := 4, nameIndex := 5, descriptorIndex := 6, attributes := #[] }] 1057 2 #[] #[])
  fields := #[]
  methods := #[k2m0]
  instanceTypes := #[]
  staticTypes := #[]
  resolved := Array.replicate 22 none
  statics := none }

def pool3 : Array CpInfo := pool [(1, .methodref 2 3), (0, .class_ 4), (0, .nameAndType 5 6), (0, u "java/lang/Record"), (0, u "<init>"), (0, u "()V"), (0, .fieldref 8 9), (0, .class_ 10), (0, .nameAndType 11 12), (0, u "com/example/wakeline/wakeline/similarity/SearchCounts"), (0, u "retrieved"), (0, u "J"), (0, .fieldref 8 14), (0, .nameAndType 15 12), (0, u "elementRetrieved"), (0, .fieldref 8 17), (0, .nameAndType 18 12), (0, u "refined"), (0, .fieldref 8 20), (0, .nameAndType 21 12), (0, u "results"), (0, .methodref 8 23), (0, .nameAndType 5 24), (0, u "(JJJJ)V"), (14, u "NONE"), (0, u "Lcom/example/wakeline/wakeline/similarity/SearchCounts;"), (3, u "plus"), (0, u "(Lcom/example/wakeline/wakeline/similarity/SearchCounts;)Lcom/example/wakeline/wakeline/similarity/SearchCounts;"), (3, u "()J")] 24

def k3c0 : Code := { maxStack := 3, maxLocals := 9, code := prog_45_method_1_code, exceptionTable := #[], attributes := #[] }
def k3m0 : Method := { name := "<init>", desc := "(JJJJ)V", sig := { parameters := [.long, .long, .long, .long], returnType := none }, accessFlags := 1, code := some k3c0 }
def k3c1 : Code := { maxStack := 12, maxLocals := 2, code := prog_45_method_2_code, exceptionTable := #[], attributes := #[] }
def k3m1 : Method := { name := "plus", desc := "(Lcom/example/wakeline/wakeline/similarity/SearchCounts;)Lcom/example/wakeline/wakeline/similarity/SearchCounts;", sig := { parameters := [(.object "com/example/wakeline/wakeline/similarity/SearchCounts")], returnType := some (.object "com/example/wakeline/wakeline/similarity/SearchCounts") }, accessFlags := 1, code := some k3c1 }
def k3c2 : Code := { maxStack := 2, maxLocals := 1, code := prog_45_method_6_code, exceptionTable := #[], attributes := #[] }
def k3m2 : Method := { name := "retrieved", desc := "()J", sig := { parameters := [], returnType := some .long }, accessFlags := 1, code := some k3c2 }
def k3c3 : Code := { maxStack := 2, maxLocals := 1, code := prog_45_method_7_code, exceptionTable := #[], attributes := #[] }
def k3m3 : Method := { name := "elementRetrieved", desc := "()J", sig := { parameters := [], returnType := some .long }, accessFlags := 1, code := some k3c3 }
def k3c4 : Code := { maxStack := 2, maxLocals := 1, code := prog_45_method_8_code, exceptionTable := #[], attributes := #[] }
def k3m4 : Method := { name := "refined", desc := "()J", sig := { parameters := [], returnType := some .long }, accessFlags := 1, code := some k3c4 }
def k3c5 : Code := { maxStack := 2, maxLocals := 1, code := prog_45_method_9_code, exceptionTable := #[], attributes := #[] }
def k3m5 : Method := { name := "results", desc := "()J", sig := { parameters := [], returnType := some .long }, accessFlags := 1, code := some k3c5 }
/-- com/example/wakeline/wakeline/similarity/SearchCounts -/
def k3 : Class := { plain "com/example/wakeline/wakeline/similarity/SearchCounts" (some 2) with
  accessFlags := 49
  interfaces := #[]
  cf := some (fileOf pool3 8 #[] #[{ accessFlags := 1, nameIndex := 5, descriptorIndex := 24, attributes := #[] }, { accessFlags := 1, nameIndex := 44, descriptorIndex := 45, attributes := #[] }, { accessFlags := 1, nameIndex := 11, descriptorIndex := 49, attributes := #[] }, { accessFlags := 1, nameIndex := 15, descriptorIndex := 49, attributes := #[] }, { accessFlags := 1, nameIndex := 18, descriptorIndex := 49, attributes := #[] }, { accessFlags := 1, nameIndex := 21, descriptorIndex := 49, attributes := #[] }] 49 2 #[] #[{ accessFlags := 18, nameIndex := 11, descriptorIndex := 12, attributes := #[] }, { accessFlags := 18, nameIndex := 15, descriptorIndex := 12, attributes := #[] }, { accessFlags := 18, nameIndex := 18, descriptorIndex := 12, attributes := #[] }, { accessFlags := 18, nameIndex := 21, descriptorIndex := 12, attributes := #[] }, { accessFlags := 25, nameIndex := 39, descriptorIndex := 40, attributes := #[] }])
  fields := #[{ name := "retrieved", type := .long, accessFlags := 18, slot := 0, constantValue := 0 }, { name := "elementRetrieved", type := .long, accessFlags := 18, slot := 1, constantValue := 0 }, { name := "refined", type := .long, accessFlags := 18, slot := 2, constantValue := 0 }, { name := "results", type := .long, accessFlags := 18, slot := 3, constantValue := 0 }, { name := "NONE", type := (.object "com/example/wakeline/wakeline/similarity/SearchCounts"), accessFlags := 25, slot := 0, constantValue := 0 }]
  methods := #[k3m0, k3m1, k3m2, k3m3, k3m4, k3m5]
  instanceTypes := #[.long, .long, .long, .long]
  staticTypes := #[(.object "com/example/wakeline/wakeline/similarity/SearchCounts")]
  resolved := Array.replicate 74 none
  statics := none }

def pool4 : Array CpInfo := pool [(1, u "java/lang/Cloneable"), (0, .class_ 1), (0, u "java/lang/Object"), (0, .class_ 3)] 3

/-- java/lang/Cloneable -/
def k4 : Class := { plain "java/lang/Cloneable" (some 0) with
  accessFlags := 1537
  interfaces := #[]
  cf := some (fileOf pool4 2 #[] #[] 1537 4 #[] #[])
  fields := #[]
  methods := #[]
  instanceTypes := #[]
  staticTypes := #[]
  resolved := Array.replicate 8 none
  statics := none }

def pool5 : Array CpInfo := pool [(1, u "java/io/Serializable"), (0, .class_ 1), (0, u "java/lang/Object"), (0, .class_ 3)] 3

/-- java/io/Serializable -/
def k5 : Class := { plain "java/io/Serializable" (some 0) with
  accessFlags := 1537
  interfaces := #[]
  cf := some (fileOf pool5 2 #[] #[] 1537 4 #[] #[])
  fields := #[]
  methods := #[]
  instanceTypes := #[]
  staticTypes := #[]
  resolved := Array.replicate 8 none
  statics := none }

/-- the primitive byte -/
def k6 : Class := { plain "byte" none with kind := .primitive 'B', accessFlags := 0x411 }
/-- [B -/
def k7 : Class := { plain "[B" (some 0) with kind := .array 6 .byte, interfaces := #[4, 5], accessFlags := 1041 }

/-- the primitive int -/
def k8 : Class := { plain "int" none with kind := .primitive 'I', accessFlags := 0x411 }
/-- [I -/
def k9 : Class := { plain "[I" (some 0) with kind := .array 8 .int, interfaces := #[4, 5], accessFlags := 1041 }

def heap : Heap := #[]
def classes : Array Class := #[k0, k1, k2, k3, k4, k5, k6, k7, k8, k9]
def interned : List (Array UInt16 × Addr) := []
def slotsUsed : Nat := 0
def theMethod : MethodId := ⟨1, 1⟩
def args0 : Array Value := #[.long 1, .long 2, .long 3, .long 4, .long 5, .long 6]
def aboutOver (below : List Frame) : State where
  vm := { classes := classes, interned := interned.toArray }
  heap := heap
  slotsUsed := slotsUsed
  threads := #[{ frames := .invoking theMethod args0 :: below }]
def below0 : List Frame := [.native { method := ⟨0, 0⟩, args := #[] }]
def about1 : State := aboutOver below0
def p0 : Program := .bare "" "" ""
def e0 : Env := launch0.env 0 0 0
theorem w_frames : about1.frames = Frame.invoking theMethod args0 :: below0 := rfl
set_option maxRecDepth 65536 in
theorem w_args : argsFit about1.vm theMethod args0 = true := by decide +kernel
set_option maxRecDepth 65536 in
theorem w_heap : heapFits about1 = true := by decide +kernel
set_option maxRecDepth 65536 in
theorem w_runnable : about1.curStatus? = some .runnable := by decide +kernel
set_option maxRecDepth 65536 in
theorem w_alone : about1.alone = true := by decide +kernel
set_option maxRecDepth 65536 in
theorem w_named : about1.methodNamed? x = some theMethod := by decide +kernel
set_option maxRecDepth 65536 in
theorem w_hears : about1.hears theMethod below0 = true := by decide +kernel
set_option maxRecDepth 65536 in
theorem w_ripe : about1.ripe theMethod args0 below0 = true := by decide +kernel
theorem w_running : about1.status = .running := rfl
set_option maxRecDepth 65536 in
theorem w_room : about1.hasRoom e0.platform room_1 = true :=
  launch0.hasRoom_least _ room_1 (by decide +kernel) (by decide +kernel) (by decide +kernel) (by decide +kernel) (by decide +kernel) (by decide +kernel)
theorem allAtoms_all (ts : List Jvm.Cond) (a : Array Jvm.Value) (st : Jvm.State) : (allAtoms ts).before a st = ts.all (fun c => c.before a st) := by
  induction ts with
  | nil => rfl
  | cons c t ih =>
    show (Jvm.Cond.and c (allAtoms t)).before a st = _
    rw [Jvm.Cond.before_and, ih, List.all_cons]
def words1 : List Jvm.Cond := Jvm.Cond.code x code maxLocals ret :: tables_1
/-- a 'code' word, met by the world's own term for the bytes: nothing is compared byte by byte -/
theorem code_word {y : MethodName} {bytes : ByteArray} {mx : Nat} {rt : Option FieldType} {a : Array Value} {s : State} {m : MethodId} {meth : Method} {c : Code} (h1 : s.methodNamed? y = some m) (h2 : s.vm.method? m = some meth) (h3 : meth.code = some c) (h4 : c.code = bytes)
    (h5 : (c.maxLocals == mx && c.exceptionTable.isEmpty && decide (c.maxStack ≤ mostOperands) && decide (meth.sig.returnType = rt) && !meth.locks && decide (parseMethodDescriptor y.desc = some meth.sig)) = true) : (Jvm.Cond.code y bytes mx rt).before a s = true := by
  simp only [Bool.and_eq_true, beq_iff_eq, Bool.not_eq_true', decide_eq_true_eq] at h5
  obtain ⟨⟨⟨⟨⟨g1, g2⟩, g3⟩, g4⟩, g5⟩, g6⟩ := h5
  simp [Cond.before, Cond.holds, Cond.value, h1, h2, h3, h4, g1, g2, g3, g4, g5, g6]
def isCode : Jvm.Cond → Bool
  | .code _ _ _ _ => true
  | _ => false
theorem all_split {L : List Jvm.Cond} {P : Jvm.Cond → Bool} (h1 : L.all (fun c => isCode c || P c) = true) (h2 : ∀ c ∈ L.filter isCode, P c = true) : L.all P = true := by
  refine List.all_eq_true.mpr fun c hc => ?_
  have h := List.all_eq_true.mp h1 c hc
  rcases Bool.eq_false_or_eq_true (isCode c) with hi | hi
  · exact h2 c (List.mem_filter.mpr ⟨hc, hi⟩)
  · simpa [hi] using h
set_option maxRecDepth 65536 in
theorem w_c0 : (Jvm.Cond.code x code maxLocals ret).before args0 about1 = true := code_word (m := ⟨1, 1⟩) (meth := k1m1) (c := k1c1) (by decide +kernel) rfl rfl rfl (by decide +kernel)
set_option maxRecDepth 65536 in
theorem w_c1 : (Jvm.Cond.code ({ cls := "com/example/wakeline/wakeline/similarity/SearchCounts", name := "<init>", desc := "(JJJJ)V" } : Jvm.MethodName) prog_45_method_1_code (9 : Nat) (Option.none : Option Jvm.ClassFile.FieldType)).before args0 about1 = true := code_word (m := ⟨3, 0⟩) (meth := k3m0) (c := k3c0) (by decide +kernel) rfl rfl rfl (by decide +kernel)
set_option maxRecDepth 65536 in
theorem w_c2 : (Jvm.Cond.code ({ cls := "java/lang/Record", name := "<init>", desc := "()V" } : Jvm.MethodName) jdk_30_method_1_code (1 : Nat) (Option.none : Option Jvm.ClassFile.FieldType)).before args0 about1 = true := code_word (m := ⟨2, 0⟩) (meth := k2m0) (c := k2c0) (by decide +kernel) rfl rfl rfl (by decide +kernel)
set_option maxRecDepth 65536 in
theorem w_c3 : (Jvm.Cond.code ({ cls := "java/lang/Object", name := "<init>", desc := "()V" } : Jvm.MethodName) object_method_1_code (1 : Nat) (Option.none : Option Jvm.ClassFile.FieldType)).before args0 about1 = true := code_word (m := ⟨0, 0⟩) (meth := k0m0) (c := k0c0) (by decide +kernel) rfl rfl rfl (by decide +kernel)
set_option maxRecDepth 65536 in
theorem w_c4 : (Jvm.Cond.code ({ cls := "com/example/wakeline/wakeline/similarity/SearchCounts", name := "plus", desc := "(Lcom/example/wakeline/wakeline/similarity/SearchCounts;)Lcom/example/wakeline/wakeline/similarity/SearchCounts;" } : Jvm.MethodName) prog_45_method_2_code (2 : Nat) (Option.some (Jvm.ClassFile.FieldType.object "com/example/wakeline/wakeline/similarity/SearchCounts"))).before args0 about1 = true := code_word (m := ⟨3, 1⟩) (meth := k3m1) (c := k3c1) (by decide +kernel) rfl rfl rfl (by decide +kernel)
set_option maxRecDepth 65536 in
theorem w_c5 : (Jvm.Cond.code ({ cls := "com/example/wakeline/wakeline/similarity/SearchCounts", name := "retrieved", desc := "()J" } : Jvm.MethodName) prog_45_method_6_code (1 : Nat) (Option.some Jvm.ClassFile.FieldType.long)).before args0 about1 = true := code_word (m := ⟨3, 2⟩) (meth := k3m2) (c := k3c2) (by decide +kernel) rfl rfl rfl (by decide +kernel)
set_option maxRecDepth 65536 in
theorem w_c6 : (Jvm.Cond.code ({ cls := "com/example/wakeline/wakeline/similarity/SearchCounts", name := "elementRetrieved", desc := "()J" } : Jvm.MethodName) prog_45_method_7_code (1 : Nat) (Option.some Jvm.ClassFile.FieldType.long)).before args0 about1 = true := code_word (m := ⟨3, 3⟩) (meth := k3m3) (c := k3c3) (by decide +kernel) rfl rfl rfl (by decide +kernel)
set_option maxRecDepth 65536 in
theorem w_c7 : (Jvm.Cond.code ({ cls := "com/example/wakeline/wakeline/similarity/SearchCounts", name := "refined", desc := "()J" } : Jvm.MethodName) prog_45_method_8_code (1 : Nat) (Option.some Jvm.ClassFile.FieldType.long)).before args0 about1 = true := code_word (m := ⟨3, 4⟩) (meth := k3m4) (c := k3c4) (by decide +kernel) rfl rfl rfl (by decide +kernel)
set_option maxRecDepth 65536 in
theorem w_c8 : (Jvm.Cond.code ({ cls := "com/example/wakeline/wakeline/similarity/SearchCounts", name := "results", desc := "()J" } : Jvm.MethodName) prog_45_method_9_code (1 : Nat) (Option.some Jvm.ClassFile.FieldType.long)).before args0 about1 = true := code_word (m := ⟨3, 5⟩) (meth := k3m5) (c := k3c5) (by decide +kernel) rfl rfl rfl (by decide +kernel)
def codes1 : List Jvm.Cond := [Jvm.Cond.code x code maxLocals ret, Jvm.Cond.code ({ cls := "com/example/wakeline/wakeline/similarity/SearchCounts", name := "<init>", desc := "(JJJJ)V" } : Jvm.MethodName) prog_45_method_1_code (9 : Nat) (Option.none : Option Jvm.ClassFile.FieldType), Jvm.Cond.code ({ cls := "java/lang/Record", name := "<init>", desc := "()V" } : Jvm.MethodName) jdk_30_method_1_code (1 : Nat) (Option.none : Option Jvm.ClassFile.FieldType), Jvm.Cond.code ({ cls := "java/lang/Object", name := "<init>", desc := "()V" } : Jvm.MethodName) object_method_1_code (1 : Nat) (Option.none : Option Jvm.ClassFile.FieldType), Jvm.Cond.code ({ cls := "com/example/wakeline/wakeline/similarity/SearchCounts", name := "plus", desc := "(Lcom/example/wakeline/wakeline/similarity/SearchCounts;)Lcom/example/wakeline/wakeline/similarity/SearchCounts;" } : Jvm.MethodName) prog_45_method_2_code (2 : Nat) (Option.some (Jvm.ClassFile.FieldType.object "com/example/wakeline/wakeline/similarity/SearchCounts")), Jvm.Cond.code ({ cls := "com/example/wakeline/wakeline/similarity/SearchCounts", name := "retrieved", desc := "()J" } : Jvm.MethodName) prog_45_method_6_code (1 : Nat) (Option.some Jvm.ClassFile.FieldType.long), Jvm.Cond.code ({ cls := "com/example/wakeline/wakeline/similarity/SearchCounts", name := "elementRetrieved", desc := "()J" } : Jvm.MethodName) prog_45_method_7_code (1 : Nat) (Option.some Jvm.ClassFile.FieldType.long), Jvm.Cond.code ({ cls := "com/example/wakeline/wakeline/similarity/SearchCounts", name := "refined", desc := "()J" } : Jvm.MethodName) prog_45_method_8_code (1 : Nat) (Option.some Jvm.ClassFile.FieldType.long), Jvm.Cond.code ({ cls := "com/example/wakeline/wakeline/similarity/SearchCounts", name := "results", desc := "()J" } : Jvm.MethodName) prog_45_method_9_code (1 : Nat) (Option.some Jvm.ClassFile.FieldType.long)]
set_option maxRecDepth 65536 in
theorem codes_eq : words1.filter isCode = codes1 := rfl
theorem w_codes : ∀ c ∈ words1.filter isCode, c.before args0 about1 = true := by
  rw [codes_eq]
  intro c hc
  simp only [codes1, List.mem_cons, List.not_mem_nil, or_false] at hc
  rcases hc with rfl | rfl | rfl | rfl | rfl | rfl | rfl | rfl | rfl
  · exact w_c0
  · exact w_c1
  · exact w_c2
  · exact w_c3
  · exact w_c4
  · exact w_c5
  · exact w_c6
  · exact w_c7
  · exact w_c8
set_option maxRecDepth 65536 in
theorem w_t1 : (words1.take 24).all (fun c => isCode c || c.before args0 about1) = true := by decide +kernel
set_option maxRecDepth 65536 in
theorem w_t2 : ((words1.drop 24).take 24).all (fun c => isCode c || c.before args0 about1) = true := by decide +kernel
set_option maxRecDepth 65536 in
theorem w_t3 : ((words1.drop 24).drop 24).all (fun c => isCode c || c.before args0 about1) = true := by decide +kernel
theorem w_tables : (allAtoms (Jvm.Cond.code x code maxLocals ret :: tables_1)).before args0 about1 = true := by
  rw [allAtoms_all]
  show words1.all (fun c => c.before args0 about1) = true
  refine all_split ?_ w_codes
  rw [← List.take_append_drop 24 words1, List.all_append, w_t1, ← List.take_append_drop 24 (words1.drop 24), List.all_append, w_t2, w_t3]
  rfl
set_option maxRecDepth 65536 in
theorem w_case : (Jvm.Cond.and given_1 narrow_1).before args0 about1 = true := by decide +kernel
theorem w_applies : (headSpec (Jvm.Cond.code x code maxLocals ret :: tables_1) room_1).applies x e0.platform about1 = true :=
  (Spec.applies_iff w_frames).mpr ⟨w_running, w_runnable, w_alone, w_named, w_hears, w_ripe, w_room, w_tables⟩
theorem atStart : AtStart classFile x code maxLocals ret World_1 tables_1 room_1 Calls_1 rest_1 Pre_1 launch0 p0 e0 about1 theMethod args0 below0 :=
  ⟨lists_1, trivial, launch0.admits_env _ _ _, launch0.least_env, fairChoices_fair.cas, fairChoices_fair.clock, w_frames, w_args, w_heap, w_applies, trivial, trivial, w_case⟩
end start1
theorem witness_1 : WitnessClaimed_1 := ⟨start1.p0, start1.e0, start1.about1, start1.theMethod, start1.args0, start1.below0, start1.atStart⟩
end Jvm.Pilot.@@N@@
