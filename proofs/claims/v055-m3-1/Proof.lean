import JvmDerived
import JvmDerived.Pilot.@@N@@Statement
import JvmDerived.Pilot.@@N@@Code
set_option linter.unusedVariables false
set_option linter.unusedSimpArgs false
namespace Jvm.Pilot.@@N@@
open Jvm Jvm.ClassFile Sem Op Lib Jvm.Free Jvm.Stand Jvm.LawKit Jvm.RoadKit Bundle Jvm.Pilot.@@N@@.Jvm.D
/-- from here the run comes to a state of which G holds -/
def OWay (p : Program) (e : Env) (below : List Frame) (G : State → Prop) (T : State) (g : JFrame) : Prop := ∃ t, Steps p.tables e below (T.setTop g) t ∧ G t
/-- how a body ends: it returned, with what Q says of its value, the heap and the places written -/
def OEnd (s : State) (below : List Frame) (Q : Option Value → Heap → List Loc → Prop) (cs sl : Nat) (t : State) : Prop := ∃ o, t.status = .running ∧ Ended t below o ∧ ∃ v L, o = .returned v ∧ Q v t.heap L ∧ FrameEnd s o t L cs sl
/-- a body's contract, as a call wants it -/
def OCon (l : Launch) (y : MethodName) (bytes : ByteArray) (maxL : Nat) (rt : Option FieldType) (ws : List Jvm.Cond) (rm : Room) (Z : State) (as' : Array Value) (h : Heap) (Q : Option Value → Heap → List Loc → Prop) : Prop :=
  MetFree l y (head1 (Jvm.Cond.code y bytes maxL rt :: ws) rm) (fun a U => a = as' ∧ Z.Warmed39 U.vm ∧ U.heap = h) (fun _ _ _ _ _ => True) (fun _ U o U' => ∃ v L, o = .returned v ∧ Q v U'.heap L ∧ FrameEnd U o U' L rm.cells rm.slots)
section Own
variable {p : Program} {l : Launch} {e : Env} {R : Room} {s : State} {m : MethodId} {args : Array Value} {below : List Frame} {meth : Method} {c : Code} {T T' : State} {locs : List Loc} {cells slots : Nat} {Z : State} {a0 : Array Value} {h : Heap} {G : State → Prop} {g g' : JFrame} {Q : Option Value → Heap → List Loc → Prop} {cs sl : Nat}
theorem ogo (q : ∀ t, Steps p.tables e below (T'.setTop g') t → Steps p.tables e below (T.setTop g) t) (w : OWay p e below G T' g') : OWay p e below G T g := by
  obtain ⟨t, h1, h2⟩ := w
  exact ⟨t, q t h1, h2⟩
theorem ogoS (q : Steps p.tables e below (T.setTop g) (T'.setTop g')) (w : OWay p e below G T' g') : OWay p e below G T g := ogo (fun _ k => q.trans k) w
theorem ogoE (q : g = g') (w : OWay p e below G T g') : OWay p e below G T g := q ▸ w
theorem ocon {y : MethodName} {bytes : ByteArray} {maxL : Nat} {rt : Option FieldType} {ws : List Jvm.Cond} {rm : Room} {as' : Array Value} (hp : plainFor y = true)
    (body : ∀ (p : Program) (e : Env) (s : State) (m : MethodId) (below : List Frame) (meth : Method) (c : Code) (s₁ : State), p.tables.exec = Jvm.exec → c.code = bytes → c.maxLocals = maxL → s.vm.findClass y.cls = some m.cls → meth.name = y.name → meth.sig.returnType = rt → meth.locks = false → Z.Warmed39 s.vm →
      Stand p l e rm s m as' below meth c s₁ [] 0 0 → s₁.heap = h → OWay p e below (OEnd s below Q rm.cells rm.slots) s₁ (entryFrame m as' maxL)) : OCon l y bytes maxL rt ws rm Z as' h Q := by
  refine MetFree.of_bodySF hp hisR ?_
  intro p e s m args below meth c s₁ Bd hml0 hP hK
  obtain ⟨rfl, hZ, hh⟩ := hP
  obtain ⟨t, h1, o, h2, h3, h4⟩ := body p e s m below meth c s₁ Bd.exec Bd.bytes hml0 (findClass_of_methodNamed Bd.named) (name_of_methodNamed Bd.named Bd.method).1 Bd.returns Bd.notSynchronized hZ (Stand.of_body Bd) (by rw [← hh, Bd.state]; rfl)
  exact ⟨t, o, h1, h2, h3, h4⟩
theorem wRetN (X : Stand p l e R s m args below meth c T locs cells slots) (hx : p.tables.exec = Jvm.exec) {pc : Nat} {Ls : Array Slot} {z : Int32} {t : FieldType} {rest : List Value} (hret : meth.sig.returnType = some t) (hlk : meth.locks = false) (ht : t = .boolean ∨ t = .byte ∨ t = .char ∨ t = .short)
    (hd : decode c.code pc = .ok (.ireturn, 1)) (hc : cells ≤ cs) (hs : slots ≤ sl) (eT : T.heap = h) (hq : Q (some (.int (nar t z))) h locs) : OWay p e below (OEnd s below Q cs sl) T (mkF m pc Ls (.int z :: rest)) := by
  obtain ⟨fs, hr, hrun, hended, hW, hsame⟩ := X.leave (v := some (.int (nar t z))) (fun q => by rw [hret] at q; cases q) hlk
  exact ⟨_, retN X hx hret ht hd hr, _, hrun, hended, _, _, rfl, by subst eT; exact hq, ⟨_, rfl⟩, hW, hsame.mono hc hs⟩
theorem wRet (X : Stand p l e R s m args below meth c T locs cells slots) (hx : p.tables.exec = Jvm.exec) {pc : Nat} {Ls : Array Slot} {w : Value} {t : FieldType} {i : Instr} {rest : List Value} (hret : meth.sig.returnType = some t) (hlk : meth.locks = false) (hn : narrow t w = w)
    (hi : (i = .ireturn ∧ (t = .int ∨ t = .boolean ∨ t = .byte ∨ t = .char ∨ t = .short) ∧ ∃ z, w = .int z) ∨ (i = .lreturn ∧ t = .long ∧ ∃ z, w = .long z) ∨ (i = .dreturn ∧ t = .double ∧ ∃ z, w = .double z) ∨ (i = .freturn ∧ t = .float ∧ ∃ z, w = .float z) ∨ (i = .areturn ∧ t.isReference = true ∧ w.isRef = true))
    (hd : decode c.code pc = .ok (i, 1)) (hc : cells ≤ cs) (hs : slots ≤ sl) (eT : T.heap = h) (hq : Q (some w) h locs) : OWay p e below (OEnd s below Q cs sl) T (mkF m pc Ls (w :: rest)) := by
  obtain ⟨fs, hr, hrun, hended, hW, hsame⟩ := X.leave (v := some w) (fun q => by rw [hret] at q; cases q) hlk
  exact ⟨_, retOut X hx hret hn hi hd hr, _, hrun, hended, _, _, rfl, by subst eT; exact hq, ⟨_, rfl⟩, hW, hsame.mono hc hs⟩
theorem wRetV (X : Stand p l e R s m args below meth c T locs cells slots) (hx : p.tables.exec = Jvm.exec) {pc : Nat} {Ls : Array Slot} (hret : meth.sig.returnType = none) (hlk : meth.locks = false)
    (hd : decode c.code pc = .ok (.return_, 1)) (hc : cells ≤ cs) (hs : slots ≤ sl) (eT : T.heap = h) (hq : Q none h locs) : OWay p e below (OEnd s below Q cs sl) T (mkF m pc Ls []) := by
  obtain ⟨fs, hr, hrun, hended, hW, hsame⟩ := X.leave (v := none) (fun _ => rfl) hlk
  exact ⟨_, X.returnOut hx hret hd hr, _, hrun, hended, _, _, rfl, by subst eT; exact hq, ⟨_, rfl⟩, hW, hsame.mono hc hs⟩
theorem wStatic (X : Stand p l e R s m args below meth c T locs cells slots) (hx : p.tables.exec = Jvm.exec) (hZ : Z.Warmed39 s.vm) {own : String} {index : Nat} {y : MethodName} {bytes : ByteArray} {maxL : Nat} {rt : Option FieldType} {rm : Room} {as' : Array Value} (hown : s.vm.findClass own = some m.cls)
    (w1 : (Jvm.Cond.methodLink own index y).before a0 Z = true) (w2 : (Jvm.Cond.static y).before a0 Z = true) (w3 : (Jvm.Cond.initialized y.cls).before a0 Z = true) (w4 : (Jvm.Cond.code y bytes maxL rt).before a0 Z = true) (hy : y.cls ≠ "java/lang/invoke/MethodHandle" ∧ y.cls ≠ "java/lang/invoke/VarHandle")
    (hM : OCon l y bytes maxL rt [] rm Z as' h Q) (W : Nat) (hf : rm.frames + 1 ≤ R.frames) (hl : W + (maxL + 11) + rm.locals ≤ R.locals) {g : JFrame} (hg : g.method = m) (hsize : g.locals.size = c.maxLocals) {argsL rest : List Value} (hlen : ∀ sig, parseMethodDescriptor y.desc = some sig → argsL.length = sig.parameters.length)
    (hstack : g.stack = argsL.reverse ++ rest) (hW : 2 * g.monitorRoom + (rest.map fun v => v.category).sum ≤ W) (hd : decode c.code g.pc = .ok (.invokestatic index, 3)) (has : argsL.toArray = as') (eT : T.heap = h) (hc : cells + rm.cells ≤ R.cells) (hs : slots + rm.slots ≤ R.slots) :
    ∃ (v : Option Value) (T' : State) (L : List Loc), Stand p l e R s m args below meth c T' (locs ++ L) (cells + rm.cells) (slots + rm.slots) ∧ Q v T'.heap L ∧ ∀ target, Steps p.tables e below (T'.setTop { g with pc := g.pc + 3, stack := v.toList ++ rest }) target → Steps p.tables e below (T.setTop g) target := by
  obtain ⟨v, _, ⟨T1, L1, k1, n1⟩, -, X1, ⟨Lc, hQ, l1, y1, z1⟩, st⟩ := Jvm.LawKit.callS X hx (y := y) hown (mvT hZ w1) (mvT hZ w2) (mvT hZ w3) (mvT hZ w4) hy (backOf (W := W) hM hZ w4 w3 hf hl) (g := g) hg hsize (argsL := argsL) (rest := rest) hlen hstack hW hd (fun _ _ => ⟨has, eT, hc, hs⟩)
  dsimp only [Pt.U, Pt.locs, Pt.cells, Pt.slots] at X1 l1 y1 z1 st hQ
  subst l1 y1 z1
  exact ⟨v, T1, Lc, X1, hQ, st⟩
theorem wInit (X : Stand p l e R s m args below meth c T locs cells slots) (hx : p.tables.exec = Jvm.exec) (hZ : Z.Warmed39 s.vm) {own : String} {index : Nat} {y : MethodName} {bytes : ByteArray} {maxL : Nat} {rm : Room} {as' : Array Value} (hy1 : y.name = "<init>") (hown : s.vm.findClass own = some m.cls)
    (w1 : (Jvm.Cond.methodLink own index y).before a0 Z = true) (w2 : (Jvm.Cond.instanceMethod y).before a0 Z = true) (w3 : (Jvm.Cond.initialized y.cls).before a0 Z = true) (w4 : (Jvm.Cond.code y bytes maxL none).before a0 Z = true) (hy : y.cls ≠ "java/lang/invoke/MethodHandle" ∧ y.cls ≠ "java/lang/invoke/VarHandle")
    (hM : OCon l y bytes maxL none [] rm Z as' h Q) (W : Nat) (hf : rm.frames + 1 ≤ R.frames) (hl : W + (maxL + 11) + rm.locals ≤ R.locals) {g : JFrame} (hg : g.method = m) (hsize : g.locals.size = c.maxLocals) {a : Addr} {argsL rest : List Value} (hlen : ∀ sig, parseMethodDescriptor y.desc = some sig → argsL.length = sig.parameters.length)
    (hstack : g.stack = argsL.reverse ++ .ref a :: rest) (hW : 2 * g.monitorRoom + (rest.map fun v => v.category).sum ≤ W) (hd : decode c.code g.pc = .ok (.invokespecial index, 3)) (has : (.ref a :: argsL).toArray = as') (eT : T.heap = h) (hc : cells + rm.cells ≤ R.cells) (hs : slots + rm.slots ≤ R.slots) :
    ∃ (v : Option Value) (T' : State) (L : List Loc), Stand p l e R s m args below meth c T' (locs ++ L) (cells + rm.cells) (slots + rm.slots) ∧ Q v T'.heap L ∧ Steps p.tables e below (T.setTop g) (T'.setTop { g with pc := g.pc + 3, stack := v.toList ++ rest }) := by
  obtain ⟨v, _, ⟨T1, L1, k1, n1⟩, -, X1, ⟨Lc, hQ, l1, y1, z1⟩, st⟩ := X.specialBack hx (y := y) hy1 hown (mvT hZ w1) (mvT hZ w2) (mvT hZ w4) hy (backOf (W := W) hM hZ w4 w3 hf hl) (g := g) hg hsize (Steps.refl _) (a := a) (argsL := argsL) (rest := rest) hlen hstack hW hd (fun _ _ => ⟨has, eT, hc, hs⟩)
  dsimp only [Pt.U, Pt.locs, Pt.cells, Pt.slots] at X1 l1 y1 z1 st hQ
  subst l1 y1 z1
  exact ⟨v, T1, Lc, X1, hQ, st⟩
theorem wVirtual (X : Stand p l e R s m args below meth c T locs cells slots) (hx : p.tables.exec = Jvm.exec) (hZ : Z.Warmed39 s.vm) {own C : String} {index : Nat} {y z : MethodName} {bytes : ByteArray} {maxL : Nat} {rt : Option FieldType} {rm : Room} {as' : Array Value} (hown : s.vm.findClass own = some m.cls)
    (w1 : (Jvm.Cond.methodLink own index y).before a0 Z = true) (w2 : (Jvm.Cond.declares y).before a0 Z = true) (nf : NotFace s y) (w5 : (Jvm.Cond.selects C y z).before a0 Z = true) (w6 : (Jvm.Cond.instanceMethod z).before a0 Z = true) (w3 : (Jvm.Cond.initialized z.cls).before a0 Z = true) (w4 : (Jvm.Cond.code z bytes maxL rt).before a0 Z = true)
    (hy : y.cls ≠ "java/lang/invoke/MethodHandle" ∧ y.cls ≠ "java/lang/invoke/VarHandle") (hM : OCon l z bytes maxL rt [] rm Z as' h Q) (W : Nat) (hf : rm.frames + 1 ≤ R.frames) (hl : W + (maxL + 11) + rm.locals ≤ R.locals) {b : Addr} (E : Exa Z h b C) {g : JFrame} (hg : g.method = m) (hsize : g.locals.size = c.maxLocals) {argsL rest : List Value} (hlen : ∀ sig, parseMethodDescriptor y.desc = some sig → argsL.length = sig.parameters.length)
    (hstack : g.stack = argsL.reverse ++ .ref b :: rest) (hW : 2 * g.monitorRoom + (rest.map fun v => v.category).sum ≤ W) (hd : decode c.code g.pc = .ok (.invokevirtual index, 3)) (has : (.ref b :: argsL).toArray = as') (eT : T.heap = h) (hc : cells + rm.cells ≤ R.cells) (hs : slots + rm.slots ≤ R.slots) :
    ∃ (v : Option Value) (T' : State) (L : List Loc), Stand p l e R s m args below meth c T' (locs ++ L) (cells + rm.cells) (slots + rm.slots) ∧ Q v T'.heap L ∧ Steps p.tables e below (T.setTop g) (T'.setTop { g with pc := g.pc + 3, stack := v.toList ++ rest }) := by
  obtain ⟨cq, kq, qa, qb, qc⟩ := isOf hZ eT E
  obtain ⟨v, _, ⟨T1, L1, k1, n1⟩, -, X1, ⟨Lc, hQ, l1, y1, z1⟩, st⟩ := X.virtualBack hx (y := y) (z := z) hown (mvT hZ w1) (mvT hZ w2) nf (mvT hZ w5) (mvT hZ w6) hy (backOf (W := W) hM hZ w4 w3 hf hl) qa qc (g := g) hg hsize (Steps.refl _) (argsL := argsL) (rest := rest) hlen hstack hW hd (fun _ _ => ⟨has, eT, hc, hs⟩)
  dsimp only [Pt.U, Pt.locs, Pt.cells, Pt.slots] at X1 l1 y1 z1 st hQ
  subst l1 y1 z1
  exact ⟨v, T1, Lc, X1, hQ, st⟩
end Own
end Jvm.Pilot.@@N@@
namespace Jvm.Pilot.@@N@@
open Jvm Jvm.ClassFile Sem Op Lib Jvm.Free Jvm.Stand Jvm.LawKit Jvm.RoadKit Bundle Jvm.Pilot.@@N@@.Jvm.D
theorem pn_com_example_geotide_geotide_MembersFindPinLaw : plainName "com/example/geotide/geotide/MembersFindPinLaw" = true := by first | (simp [plainName, overriddenIn]; done) | decide +kernel
theorem d1_0 : decode method_3_code 0 = .ok (.aload_n 0, 1) := by decide +kernel
theorem d1_1 : decode method_3_code 1 = .ok (.iload_n 1, 1) := by decide +kernel
theorem d1_2 : decode method_3_code 2 = .ok (.iload_n 2, 1) := by decide +kernel
theorem d1_3 : decode method_3_code 3 = .ok (.iastore, 1) := by decide +kernel
theorem d1_4 : decode method_3_code 4 = .ok (.aload_n 0, 1) := by decide +kernel
theorem d1_5 : decode method_3_code 5 = .ok (.iload_n 1, 1) := by decide +kernel
theorem d1_6 : decode method_3_code 6 = .ok (.iconst 1, 1) := by decide +kernel
theorem d1_7 : decode method_3_code 7 = .ok (.iadd, 1) := by decide +kernel
theorem d1_8 : decode method_3_code 8 = .ok (.iload_n 3, 1) := by decide +kernel
theorem d1_9 : decode method_3_code 9 = .ok (.iastore, 1) := by decide +kernel
theorem d1_10 : decode method_3_code 10 = .ok (.aload_n 0, 1) := by decide +kernel
theorem d1_11 : decode method_3_code 11 = .ok (.iload_n 1, 1) := by decide +kernel
theorem d1_12 : decode method_3_code 12 = .ok (.iconst 2, 1) := by decide +kernel
theorem d1_13 : decode method_3_code 13 = .ok (.iadd, 1) := by decide +kernel
theorem d1_14 : decode method_3_code 14 = .ok (.iload_n 3, 1) := by decide +kernel
theorem d1_15 : decode method_3_code 15 = .ok (.iastore, 1) := by decide +kernel
theorem d1_16 : decode method_3_code 16 = .ok (.aload_n 0, 1) := by decide +kernel
theorem d1_17 : decode method_3_code 17 = .ok (.iload_n 1, 1) := by decide +kernel
theorem d1_18 : decode method_3_code 18 = .ok (.iconst 3, 1) := by decide +kernel
theorem d1_19 : decode method_3_code 19 = .ok (.iadd, 1) := by decide +kernel
theorem d1_20 : decode method_3_code 20 = .ok (.iload_n 3, 1) := by decide +kernel
theorem d1_21 : decode method_3_code 21 = .ok (.iastore, 1) := by decide +kernel
theorem d1_22 : decode method_3_code 22 = .ok (.aload_n 0, 1) := by decide +kernel
theorem d1_23 : decode method_3_code 23 = .ok (.iload_n 1, 1) := by decide +kernel
theorem d1_24 : decode method_3_code 24 = .ok (.iconst 4, 1) := by decide +kernel
theorem d1_25 : decode method_3_code 25 = .ok (.iadd, 1) := by decide +kernel
theorem d1_26 : decode method_3_code 26 = .ok (.iload_n 3, 1) := by decide +kernel
theorem d1_27 : decode method_3_code 27 = .ok (.iastore, 1) := by decide +kernel
theorem d1_28 : decode method_3_code 28 = .ok (.aload_n 0, 1) := by decide +kernel
theorem d1_29 : decode method_3_code 29 = .ok (.iload_n 1, 1) := by decide +kernel
theorem d1_30 : decode method_3_code 30 = .ok (.iconst 5, 1) := by decide +kernel
theorem d1_31 : decode method_3_code 31 = .ok (.iadd, 1) := by decide +kernel
theorem d1_32 : decode method_3_code 32 = .ok (.iload_n 3, 1) := by decide +kernel
theorem d1_33 : decode method_3_code 33 = .ok (.iastore, 1) := by decide +kernel
theorem d1_34 : decode method_3_code 34 = .ok (.return_, 1) := by decide +kernel
def fill0_rm : Room := { frames := 0, cells := 0, slots := 0, locals := 0 }
def fill0_Q (Z : State) (a0 : Addr) (p2 : Int32) (p3 : Int32) (kk : ClassId) (x0 : Value) (x1 : Value) (x2 : Value) (x3 : Value) (x4 : Value) (x5 : Value) (x6 : Value) (x7 : Value) (x8 : Value) (x9 : Value) (x10 : Value) (x11 : Value) (x12 : Value) (x13 : Value) (x14 : Value) (x15 : Value) (x16 : Value) (x17 : Value) (x18 : Value) (x19 : Value) (x20 : Value) (x21 : Value) (x22 : Value) (x23 : Value) (h0 : Heap) (n0 : Nat) (v : Option Value) (h : Heap) (L : List Loc) : Prop := (v = none) ∧ (Fr n0 L) ∧ (Keep h0 h [a0]) ∧ (Arv Z h a0 kk .int (24 : Int32) [(.int p2), (.int p3), (.int p3), (.int p3), (.int p3), (.int p3), x6, x7, x8, x9, x10, x11, x12, x13, x14, x15, x16, x17, x18, x19, x20, x21, x22, x23] (.int (0 : Int32)))
theorem fill0_ef (m : MethodId) (a0 : Addr) (p2 : Int32) (p3 : Int32) : entryFrame m #[(.ref a0), (.int (0 : Int32)), (.int p2), (.int p3)] 4 = mkF m 0 #[.val (.ref a0), .val (.int (0 : Int32)), .val (.int p2), .val (.int p3)] [] := by first | (simp [entryFrame, mkF, argsToLocals, Value.category]; done) | rfl
set_option maxRecDepth 65536 in
set_option maxHeartbeats 40000000 in
theorem fill0_c (l : Launch) (Z : State) (az : Array Value) (hw : ∀ d ∈ tables_1, d.before az Z = true) (ws : List Jvm.Cond) (a0 : Addr) (p2 : Int32) (p3 : Int32) (kk : ClassId) (x0 : Value) (x1 : Value) (x2 : Value) (x3 : Value) (x4 : Value) (x5 : Value) (x6 : Value) (x7 : Value) (x8 : Value) (x9 : Value) (x10 : Value) (x11 : Value) (x12 : Value) (x13 : Value) (x14 : Value) (x15 : Value) (x16 : Value) (x17 : Value) (x18 : Value) (x19 : Value) (x20 : Value) (x21 : Value) (x22 : Value) (x23 : Value) (h0 : Heap) (n0 : Nat) (Z0 : n0 ≤ h0.size) (hp0 : Arv Z h0 a0 kk .int (24 : Int32) [x0, x1, x2, x3, x4, x5, x6, x7, x8, x9, x10, x11, x12, x13, x14, x15, x16, x17, x18, x19, x20, x21, x22, x23] (.int (0 : Int32))) (hp1 : n0 ≤ a0) :
    OCon l (⟨"com/example/geotide/geotide/MembersFindPinLaw", "fill", "([IIII)V"⟩ : MethodName) method_3_code 4 none ws fill0_rm Z #[(.ref a0), (.int (0 : Int32)), (.int p2), (.int p3)] h0 (fill0_Q Z a0 p2 p3 kk x0 x1 x2 x3 x4 x5 x6 x7 x8 x9 x10 x11 x12 x13 x14 x15 x16 x17 x18 x19 x20 x21 x22 x23 h0 n0) := by
  refine ocon (plainFor_of_name pn_com_example_geotide_geotide_MembersFindPinLaw) ?_
  intro p e s m below meth c s₁ hx hby hml hown hnm hret hlk hZ X0 eh0
  have N0 := Fr.nil n0
  have K0 := Keep.refl h0 [a0]
  refine ogoE (fill0_ef m a0 p2 p3) ?_
  have g_a0 := hp1
  generalize hG : (OEnd s below (fill0_Q Z a0 p2 p3 kk x0 x1 x2 x3 x4 x5 x6 x7 x8 x9 x10 x11 x12 x13 x14 x15 x16 x17 x18 x19 x20 x21 x22 x23 h0 n0) fill0_rm.cells fill0_rm.slots) = G
  show OWay p e below G s₁ (mkF m 0 #[.val (.ref a0), .val (.int (0 : Int32)), .val (.int p2), .val (.int p3)] [])
  refine ogo (fun _ z_ => XS.aloadN X0.here hx rfl (hb hby d1_0) rfl rfl z_) ?_
  show OWay p e below G s₁ (mkF m 1 #[.val (.ref a0), .val (.int (0 : Int32)), .val (.int p2), .val (.int p3)] [(.ref a0)])
  refine ogo (fun _ z_ => XS.iloadN X0.here hx rfl (hb hby d1_1) rfl z_) ?_
  show OWay p e below G s₁ (mkF m 2 #[.val (.ref a0), .val (.int (0 : Int32)), .val (.int p2), .val (.int p3)] [(.int (0 : Int32)), (.ref a0)])
  refine ogo (fun _ z_ => XS.iloadN X0.here hx rfl (hb hby d1_2) rfl z_) ?_
  show OWay p e below G s₁ (mkF m 3 #[.val (.ref a0), .val (.int (0 : Int32)), .val (.int p2), .val (.int p3)] [(.int p2), (.int (0 : Int32)), (.ref a0)])
  obtain ⟨cl_o1, Ar_o1, q_o1, S_o1, N_o1, H_o1, G_o1⟩ := id hp0
  have hin_o1 : ¬ ((0 : Int32) < 0 ∨ cl_o1.slots.size ≤ ((0 : Int32)).toNatClampNeg) := inb_of S_o1 ⟨by decide, by decide⟩
  obtain ⟨T2, h2, X2, eT2, W2, st2⟩ := stI X0 hx hZ eh0 Ar_o1 (j := (0 : Int32)) hin_o1 (g := (mkF m 3 #[.val (.ref a0), .val (.int (0 : Int32)), .val (.int p2), .val (.int p3)] [(.int p2), (.int (0 : Int32)), (.ref a0)])) rfl rfl (hb hby d1_3)
  have K3 : Keep h0 h2 [a0] := K0.wr W2 (Or.inl (List.mem_of_getElem? (i := 0) rfl))
  have V_2 : Arv Z h2 a0 kk .int (24 : Int32) [(.int p2), x1, x2, x3, x4, x5, x6, x7, x8, x9, x10, x11, x12, x13, x14, x15, x16, x17, x18, x19, x20, x21, x22, x23] (.int (0 : Int32)) := Arv.set Ar_o1 q_o1 S_o1 N_o1 H_o1 G_o1 rfl W2 0 rfl (Nat.le_of_ble_eq_true rfl)
  have N2 := Fr.snoc X2 N0 g_a0
  refine ogo st2 ?_
  show OWay p e below G T2 (mkF m 4 #[.val (.ref a0), .val (.int (0 : Int32)), .val (.int p2), .val (.int p3)] [])
  refine ogo (fun _ z_ => XS.aloadN X2.here hx rfl (hb hby d1_4) rfl rfl z_) ?_
  show OWay p e below G T2 (mkF m 5 #[.val (.ref a0), .val (.int (0 : Int32)), .val (.int p2), .val (.int p3)] [(.ref a0)])
  refine ogo (fun _ z_ => XS.iloadN X2.here hx rfl (hb hby d1_5) rfl z_) ?_
  show OWay p e below G T2 (mkF m 6 #[.val (.ref a0), .val (.int (0 : Int32)), .val (.int p2), .val (.int p3)] [(.int (0 : Int32)), (.ref a0)])
  refine ogo (fun _ z_ => XS.iconst X2.here hx rfl (hb hby d1_6) z_) ?_
  show OWay p e below G T2 (mkF m 7 #[.val (.ref a0), .val (.int (0 : Int32)), .val (.int p2), .val (.int p3)] [(.int (1 : Int32)), (.int (0 : Int32)), (.ref a0)])
  refine ogo (fun _ z_ => XS.iadd X2.here hx rfl (hb hby d1_7) rfl z_) ?_
  show OWay p e below G T2 (mkF m 8 #[.val (.ref a0), .val (.int (0 : Int32)), .val (.int p2), .val (.int p3)] [(.int ((0 : Int32) + (1 : Int32))), (.ref a0)])
  refine ogoE (g' := (mkF m 8 #[.val (.ref a0), .val (.int (0 : Int32)), .val (.int p2), .val (.int p3)] [(.int (1 : Int32)), (.ref a0)])) (by rw [show ((0 : Int32) + (1 : Int32)) = (1 : Int32) from by decide]) ?_
  refine ogo (fun _ z_ => XS.iloadN X2.here hx rfl (hb hby d1_8) rfl z_) ?_
  show OWay p e below G T2 (mkF m 9 #[.val (.ref a0), .val (.int (0 : Int32)), .val (.int p2), .val (.int p3)] [(.int p3), (.int (1 : Int32)), (.ref a0)])
  obtain ⟨cl_o4, Ar_o4, q_o4, S_o4, N_o4, H_o4, G_o4⟩ := id V_2
  have hin_o4 : ¬ ((1 : Int32) < 0 ∨ cl_o4.slots.size ≤ ((1 : Int32)).toNatClampNeg) := inb_of S_o4 ⟨by decide, by decide⟩
  obtain ⟨T5, h5, X5, eT5, W5, st5⟩ := stI X2 hx hZ eT2 Ar_o4 (j := (1 : Int32)) hin_o4 (g := (mkF m 9 #[.val (.ref a0), .val (.int (0 : Int32)), .val (.int p2), .val (.int p3)] [(.int p3), (.int (1 : Int32)), (.ref a0)])) rfl rfl (hb hby d1_9)
  have K6 : Keep h0 h5 [a0] := K3.wr W5 (Or.inl (List.mem_of_getElem? (i := 0) rfl))
  have V_5 : Arv Z h5 a0 kk .int (24 : Int32) [(.int p2), (.int p3), x2, x3, x4, x5, x6, x7, x8, x9, x10, x11, x12, x13, x14, x15, x16, x17, x18, x19, x20, x21, x22, x23] (.int (0 : Int32)) := Arv.set Ar_o4 q_o4 S_o4 N_o4 H_o4 G_o4 rfl W5 1 rfl (Nat.le_of_ble_eq_true rfl)
  have N5 := Fr.snoc X5 N2 g_a0
  refine ogo st5 ?_
  show OWay p e below G T5 (mkF m 10 #[.val (.ref a0), .val (.int (0 : Int32)), .val (.int p2), .val (.int p3)] [])
  refine ogo (fun _ z_ => XS.aloadN X5.here hx rfl (hb hby d1_10) rfl rfl z_) ?_
  show OWay p e below G T5 (mkF m 11 #[.val (.ref a0), .val (.int (0 : Int32)), .val (.int p2), .val (.int p3)] [(.ref a0)])
  refine ogo (fun _ z_ => XS.iloadN X5.here hx rfl (hb hby d1_11) rfl z_) ?_
  show OWay p e below G T5 (mkF m 12 #[.val (.ref a0), .val (.int (0 : Int32)), .val (.int p2), .val (.int p3)] [(.int (0 : Int32)), (.ref a0)])
  refine ogo (fun _ z_ => XS.iconst X5.here hx rfl (hb hby d1_12) z_) ?_
  show OWay p e below G T5 (mkF m 13 #[.val (.ref a0), .val (.int (0 : Int32)), .val (.int p2), .val (.int p3)] [(.int (2 : Int32)), (.int (0 : Int32)), (.ref a0)])
  refine ogo (fun _ z_ => XS.iadd X5.here hx rfl (hb hby d1_13) rfl z_) ?_
  show OWay p e below G T5 (mkF m 14 #[.val (.ref a0), .val (.int (0 : Int32)), .val (.int p2), .val (.int p3)] [(.int ((0 : Int32) + (2 : Int32))), (.ref a0)])
  refine ogoE (g' := (mkF m 14 #[.val (.ref a0), .val (.int (0 : Int32)), .val (.int p2), .val (.int p3)] [(.int (2 : Int32)), (.ref a0)])) (by rw [show ((0 : Int32) + (2 : Int32)) = (2 : Int32) from by decide]) ?_
  refine ogo (fun _ z_ => XS.iloadN X5.here hx rfl (hb hby d1_14) rfl z_) ?_
  show OWay p e below G T5 (mkF m 15 #[.val (.ref a0), .val (.int (0 : Int32)), .val (.int p2), .val (.int p3)] [(.int p3), (.int (2 : Int32)), (.ref a0)])
  obtain ⟨cl_o7, Ar_o7, q_o7, S_o7, N_o7, H_o7, G_o7⟩ := id V_5
  have hin_o7 : ¬ ((2 : Int32) < 0 ∨ cl_o7.slots.size ≤ ((2 : Int32)).toNatClampNeg) := inb_of S_o7 ⟨by decide, by decide⟩
  obtain ⟨T8, h8, X8, eT8, W8, st8⟩ := stI X5 hx hZ eT5 Ar_o7 (j := (2 : Int32)) hin_o7 (g := (mkF m 15 #[.val (.ref a0), .val (.int (0 : Int32)), .val (.int p2), .val (.int p3)] [(.int p3), (.int (2 : Int32)), (.ref a0)])) rfl rfl (hb hby d1_15)
  have K9 : Keep h0 h8 [a0] := K6.wr W8 (Or.inl (List.mem_of_getElem? (i := 0) rfl))
  have V_8 : Arv Z h8 a0 kk .int (24 : Int32) [(.int p2), (.int p3), (.int p3), x3, x4, x5, x6, x7, x8, x9, x10, x11, x12, x13, x14, x15, x16, x17, x18, x19, x20, x21, x22, x23] (.int (0 : Int32)) := Arv.set Ar_o7 q_o7 S_o7 N_o7 H_o7 G_o7 rfl W8 2 rfl (Nat.le_of_ble_eq_true rfl)
  have N8 := Fr.snoc X8 N5 g_a0
  refine ogo st8 ?_
  show OWay p e below G T8 (mkF m 16 #[.val (.ref a0), .val (.int (0 : Int32)), .val (.int p2), .val (.int p3)] [])
  refine ogo (fun _ z_ => XS.aloadN X8.here hx rfl (hb hby d1_16) rfl rfl z_) ?_
  show OWay p e below G T8 (mkF m 17 #[.val (.ref a0), .val (.int (0 : Int32)), .val (.int p2), .val (.int p3)] [(.ref a0)])
  refine ogo (fun _ z_ => XS.iloadN X8.here hx rfl (hb hby d1_17) rfl z_) ?_
  show OWay p e below G T8 (mkF m 18 #[.val (.ref a0), .val (.int (0 : Int32)), .val (.int p2), .val (.int p3)] [(.int (0 : Int32)), (.ref a0)])
  refine ogo (fun _ z_ => XS.iconst X8.here hx rfl (hb hby d1_18) z_) ?_
  show OWay p e below G T8 (mkF m 19 #[.val (.ref a0), .val (.int (0 : Int32)), .val (.int p2), .val (.int p3)] [(.int (3 : Int32)), (.int (0 : Int32)), (.ref a0)])
  refine ogo (fun _ z_ => XS.iadd X8.here hx rfl (hb hby d1_19) rfl z_) ?_
  show OWay p e below G T8 (mkF m 20 #[.val (.ref a0), .val (.int (0 : Int32)), .val (.int p2), .val (.int p3)] [(.int ((0 : Int32) + (3 : Int32))), (.ref a0)])
  refine ogoE (g' := (mkF m 20 #[.val (.ref a0), .val (.int (0 : Int32)), .val (.int p2), .val (.int p3)] [(.int (3 : Int32)), (.ref a0)])) (by rw [show ((0 : Int32) + (3 : Int32)) = (3 : Int32) from by decide]) ?_
  refine ogo (fun _ z_ => XS.iloadN X8.here hx rfl (hb hby d1_20) rfl z_) ?_
  show OWay p e below G T8 (mkF m 21 #[.val (.ref a0), .val (.int (0 : Int32)), .val (.int p2), .val (.int p3)] [(.int p3), (.int (3 : Int32)), (.ref a0)])
  obtain ⟨cl_o10, Ar_o10, q_o10, S_o10, N_o10, H_o10, G_o10⟩ := id V_8
  have hin_o10 : ¬ ((3 : Int32) < 0 ∨ cl_o10.slots.size ≤ ((3 : Int32)).toNatClampNeg) := inb_of S_o10 ⟨by decide, by decide⟩
  obtain ⟨T11, h11, X11, eT11, W11, st11⟩ := stI X8 hx hZ eT8 Ar_o10 (j := (3 : Int32)) hin_o10 (g := (mkF m 21 #[.val (.ref a0), .val (.int (0 : Int32)), .val (.int p2), .val (.int p3)] [(.int p3), (.int (3 : Int32)), (.ref a0)])) rfl rfl (hb hby d1_21)
  have K12 : Keep h0 h11 [a0] := K9.wr W11 (Or.inl (List.mem_of_getElem? (i := 0) rfl))
  have V_11 : Arv Z h11 a0 kk .int (24 : Int32) [(.int p2), (.int p3), (.int p3), (.int p3), x4, x5, x6, x7, x8, x9, x10, x11, x12, x13, x14, x15, x16, x17, x18, x19, x20, x21, x22, x23] (.int (0 : Int32)) := Arv.set Ar_o10 q_o10 S_o10 N_o10 H_o10 G_o10 rfl W11 3 rfl (Nat.le_of_ble_eq_true rfl)
  have N11 := Fr.snoc X11 N8 g_a0
  refine ogo st11 ?_
  show OWay p e below G T11 (mkF m 22 #[.val (.ref a0), .val (.int (0 : Int32)), .val (.int p2), .val (.int p3)] [])
  refine ogo (fun _ z_ => XS.aloadN X11.here hx rfl (hb hby d1_22) rfl rfl z_) ?_
  show OWay p e below G T11 (mkF m 23 #[.val (.ref a0), .val (.int (0 : Int32)), .val (.int p2), .val (.int p3)] [(.ref a0)])
  refine ogo (fun _ z_ => XS.iloadN X11.here hx rfl (hb hby d1_23) rfl z_) ?_
  show OWay p e below G T11 (mkF m 24 #[.val (.ref a0), .val (.int (0 : Int32)), .val (.int p2), .val (.int p3)] [(.int (0 : Int32)), (.ref a0)])
  refine ogo (fun _ z_ => XS.iconst X11.here hx rfl (hb hby d1_24) z_) ?_
  show OWay p e below G T11 (mkF m 25 #[.val (.ref a0), .val (.int (0 : Int32)), .val (.int p2), .val (.int p3)] [(.int (4 : Int32)), (.int (0 : Int32)), (.ref a0)])
  refine ogo (fun _ z_ => XS.iadd X11.here hx rfl (hb hby d1_25) rfl z_) ?_
  show OWay p e below G T11 (mkF m 26 #[.val (.ref a0), .val (.int (0 : Int32)), .val (.int p2), .val (.int p3)] [(.int ((0 : Int32) + (4 : Int32))), (.ref a0)])
  refine ogoE (g' := (mkF m 26 #[.val (.ref a0), .val (.int (0 : Int32)), .val (.int p2), .val (.int p3)] [(.int (4 : Int32)), (.ref a0)])) (by rw [show ((0 : Int32) + (4 : Int32)) = (4 : Int32) from by decide]) ?_
  refine ogo (fun _ z_ => XS.iloadN X11.here hx rfl (hb hby d1_26) rfl z_) ?_
  show OWay p e below G T11 (mkF m 27 #[.val (.ref a0), .val (.int (0 : Int32)), .val (.int p2), .val (.int p3)] [(.int p3), (.int (4 : Int32)), (.ref a0)])
  obtain ⟨cl_o13, Ar_o13, q_o13, S_o13, N_o13, H_o13, G_o13⟩ := id V_11
  have hin_o13 : ¬ ((4 : Int32) < 0 ∨ cl_o13.slots.size ≤ ((4 : Int32)).toNatClampNeg) := inb_of S_o13 ⟨by decide, by decide⟩
  obtain ⟨T14, h14, X14, eT14, W14, st14⟩ := stI X11 hx hZ eT11 Ar_o13 (j := (4 : Int32)) hin_o13 (g := (mkF m 27 #[.val (.ref a0), .val (.int (0 : Int32)), .val (.int p2), .val (.int p3)] [(.int p3), (.int (4 : Int32)), (.ref a0)])) rfl rfl (hb hby d1_27)
  have K15 : Keep h0 h14 [a0] := K12.wr W14 (Or.inl (List.mem_of_getElem? (i := 0) rfl))
  have V_14 : Arv Z h14 a0 kk .int (24 : Int32) [(.int p2), (.int p3), (.int p3), (.int p3), (.int p3), x5, x6, x7, x8, x9, x10, x11, x12, x13, x14, x15, x16, x17, x18, x19, x20, x21, x22, x23] (.int (0 : Int32)) := Arv.set Ar_o13 q_o13 S_o13 N_o13 H_o13 G_o13 rfl W14 4 rfl (Nat.le_of_ble_eq_true rfl)
  have N14 := Fr.snoc X14 N11 g_a0
  refine ogo st14 ?_
  show OWay p e below G T14 (mkF m 28 #[.val (.ref a0), .val (.int (0 : Int32)), .val (.int p2), .val (.int p3)] [])
  refine ogo (fun _ z_ => XS.aloadN X14.here hx rfl (hb hby d1_28) rfl rfl z_) ?_
  show OWay p e below G T14 (mkF m 29 #[.val (.ref a0), .val (.int (0 : Int32)), .val (.int p2), .val (.int p3)] [(.ref a0)])
  refine ogo (fun _ z_ => XS.iloadN X14.here hx rfl (hb hby d1_29) rfl z_) ?_
  show OWay p e below G T14 (mkF m 30 #[.val (.ref a0), .val (.int (0 : Int32)), .val (.int p2), .val (.int p3)] [(.int (0 : Int32)), (.ref a0)])
  refine ogo (fun _ z_ => XS.iconst X14.here hx rfl (hb hby d1_30) z_) ?_
  show OWay p e below G T14 (mkF m 31 #[.val (.ref a0), .val (.int (0 : Int32)), .val (.int p2), .val (.int p3)] [(.int (5 : Int32)), (.int (0 : Int32)), (.ref a0)])
  refine ogo (fun _ z_ => XS.iadd X14.here hx rfl (hb hby d1_31) rfl z_) ?_
  show OWay p e below G T14 (mkF m 32 #[.val (.ref a0), .val (.int (0 : Int32)), .val (.int p2), .val (.int p3)] [(.int ((0 : Int32) + (5 : Int32))), (.ref a0)])
  refine ogoE (g' := (mkF m 32 #[.val (.ref a0), .val (.int (0 : Int32)), .val (.int p2), .val (.int p3)] [(.int (5 : Int32)), (.ref a0)])) (by rw [show ((0 : Int32) + (5 : Int32)) = (5 : Int32) from by decide]) ?_
  refine ogo (fun _ z_ => XS.iloadN X14.here hx rfl (hb hby d1_32) rfl z_) ?_
  show OWay p e below G T14 (mkF m 33 #[.val (.ref a0), .val (.int (0 : Int32)), .val (.int p2), .val (.int p3)] [(.int p3), (.int (5 : Int32)), (.ref a0)])
  obtain ⟨cl_o16, Ar_o16, q_o16, S_o16, N_o16, H_o16, G_o16⟩ := id V_14
  have hin_o16 : ¬ ((5 : Int32) < 0 ∨ cl_o16.slots.size ≤ ((5 : Int32)).toNatClampNeg) := inb_of S_o16 ⟨by decide, by decide⟩
  obtain ⟨T17, h17, X17, eT17, W17, st17⟩ := stI X14 hx hZ eT14 Ar_o16 (j := (5 : Int32)) hin_o16 (g := (mkF m 33 #[.val (.ref a0), .val (.int (0 : Int32)), .val (.int p2), .val (.int p3)] [(.int p3), (.int (5 : Int32)), (.ref a0)])) rfl rfl (hb hby d1_33)
  have K18 : Keep h0 h17 [a0] := K15.wr W17 (Or.inl (List.mem_of_getElem? (i := 0) rfl))
  have V_17 : Arv Z h17 a0 kk .int (24 : Int32) [(.int p2), (.int p3), (.int p3), (.int p3), (.int p3), (.int p3), x6, x7, x8, x9, x10, x11, x12, x13, x14, x15, x16, x17, x18, x19, x20, x21, x22, x23] (.int (0 : Int32)) := Arv.set Ar_o16 q_o16 S_o16 N_o16 H_o16 G_o16 rfl W17 5 rfl (Nat.le_of_ble_eq_true rfl)
  have N17 := Fr.snoc X17 N14 g_a0
  refine ogo st17 ?_
  show OWay p e below G T17 (mkF m 34 #[.val (.ref a0), .val (.int (0 : Int32)), .val (.int p2), .val (.int p3)] [])
  subst hG
  refine wRetV X17 hx hret hlk (hb hby d1_34) (by decide) (by decide) eT17 ?_
  exact ⟨rfl, N17, K18, V_17⟩
def fill6_rm : Room := { frames := 0, cells := 0, slots := 0, locals := 0 }
def fill6_Q (Z : State) (a0 : Addr) (p2 : Int32) (p3 : Int32) (kk : ClassId) (x0 : Value) (x1 : Value) (x2 : Value) (x3 : Value) (x4 : Value) (x5 : Value) (x6 : Value) (x7 : Value) (x8 : Value) (x9 : Value) (x10 : Value) (x11 : Value) (x12 : Value) (x13 : Value) (x14 : Value) (x15 : Value) (x16 : Value) (x17 : Value) (x18 : Value) (x19 : Value) (x20 : Value) (x21 : Value) (x22 : Value) (x23 : Value) (h0 : Heap) (n0 : Nat) (v : Option Value) (h : Heap) (L : List Loc) : Prop := (v = none) ∧ (Fr n0 L) ∧ (Keep h0 h [a0]) ∧ (Arv Z h a0 kk .int (24 : Int32) [x0, x1, x2, x3, x4, x5, (.int p2), (.int p3), (.int p3), (.int p3), (.int p3), (.int p3), x12, x13, x14, x15, x16, x17, x18, x19, x20, x21, x22, x23] (.int (0 : Int32)))
theorem fill6_ef (m : MethodId) (a0 : Addr) (p2 : Int32) (p3 : Int32) : entryFrame m #[(.ref a0), (.int (6 : Int32)), (.int p2), (.int p3)] 4 = mkF m 0 #[.val (.ref a0), .val (.int (6 : Int32)), .val (.int p2), .val (.int p3)] [] := by first | (simp [entryFrame, mkF, argsToLocals, Value.category]; done) | rfl
set_option maxRecDepth 65536 in
set_option maxHeartbeats 40000000 in
theorem fill6_c (l : Launch) (Z : State) (az : Array Value) (hw : ∀ d ∈ tables_1, d.before az Z = true) (ws : List Jvm.Cond) (a0 : Addr) (p2 : Int32) (p3 : Int32) (kk : ClassId) (x0 : Value) (x1 : Value) (x2 : Value) (x3 : Value) (x4 : Value) (x5 : Value) (x6 : Value) (x7 : Value) (x8 : Value) (x9 : Value) (x10 : Value) (x11 : Value) (x12 : Value) (x13 : Value) (x14 : Value) (x15 : Value) (x16 : Value) (x17 : Value) (x18 : Value) (x19 : Value) (x20 : Value) (x21 : Value) (x22 : Value) (x23 : Value) (h0 : Heap) (n0 : Nat) (Z0 : n0 ≤ h0.size) (hp0 : Arv Z h0 a0 kk .int (24 : Int32) [x0, x1, x2, x3, x4, x5, x6, x7, x8, x9, x10, x11, x12, x13, x14, x15, x16, x17, x18, x19, x20, x21, x22, x23] (.int (0 : Int32))) (hp1 : n0 ≤ a0) :
    OCon l (⟨"com/example/geotide/geotide/MembersFindPinLaw", "fill", "([IIII)V"⟩ : MethodName) method_3_code 4 none ws fill6_rm Z #[(.ref a0), (.int (6 : Int32)), (.int p2), (.int p3)] h0 (fill6_Q Z a0 p2 p3 kk x0 x1 x2 x3 x4 x5 x6 x7 x8 x9 x10 x11 x12 x13 x14 x15 x16 x17 x18 x19 x20 x21 x22 x23 h0 n0) := by
  refine ocon (plainFor_of_name pn_com_example_geotide_geotide_MembersFindPinLaw) ?_
  intro p e s m below meth c s₁ hx hby hml hown hnm hret hlk hZ X0 eh0
  have N0 := Fr.nil n0
  have K0 := Keep.refl h0 [a0]
  refine ogoE (fill6_ef m a0 p2 p3) ?_
  have g_a0 := hp1
  generalize hG : (OEnd s below (fill6_Q Z a0 p2 p3 kk x0 x1 x2 x3 x4 x5 x6 x7 x8 x9 x10 x11 x12 x13 x14 x15 x16 x17 x18 x19 x20 x21 x22 x23 h0 n0) fill6_rm.cells fill6_rm.slots) = G
  show OWay p e below G s₁ (mkF m 0 #[.val (.ref a0), .val (.int (6 : Int32)), .val (.int p2), .val (.int p3)] [])
  refine ogo (fun _ z_ => XS.aloadN X0.here hx rfl (hb hby d1_0) rfl rfl z_) ?_
  show OWay p e below G s₁ (mkF m 1 #[.val (.ref a0), .val (.int (6 : Int32)), .val (.int p2), .val (.int p3)] [(.ref a0)])
  refine ogo (fun _ z_ => XS.iloadN X0.here hx rfl (hb hby d1_1) rfl z_) ?_
  show OWay p e below G s₁ (mkF m 2 #[.val (.ref a0), .val (.int (6 : Int32)), .val (.int p2), .val (.int p3)] [(.int (6 : Int32)), (.ref a0)])
  refine ogo (fun _ z_ => XS.iloadN X0.here hx rfl (hb hby d1_2) rfl z_) ?_
  show OWay p e below G s₁ (mkF m 3 #[.val (.ref a0), .val (.int (6 : Int32)), .val (.int p2), .val (.int p3)] [(.int p2), (.int (6 : Int32)), (.ref a0)])
  obtain ⟨cl_o1, Ar_o1, q_o1, S_o1, N_o1, H_o1, G_o1⟩ := id hp0
  have hin_o1 : ¬ ((6 : Int32) < 0 ∨ cl_o1.slots.size ≤ ((6 : Int32)).toNatClampNeg) := inb_of S_o1 ⟨by decide, by decide⟩
  obtain ⟨T2, h2, X2, eT2, W2, st2⟩ := stI X0 hx hZ eh0 Ar_o1 (j := (6 : Int32)) hin_o1 (g := (mkF m 3 #[.val (.ref a0), .val (.int (6 : Int32)), .val (.int p2), .val (.int p3)] [(.int p2), (.int (6 : Int32)), (.ref a0)])) rfl rfl (hb hby d1_3)
  have K3 : Keep h0 h2 [a0] := K0.wr W2 (Or.inl (List.mem_of_getElem? (i := 0) rfl))
  have V_2 : Arv Z h2 a0 kk .int (24 : Int32) [x0, x1, x2, x3, x4, x5, (.int p2), x7, x8, x9, x10, x11, x12, x13, x14, x15, x16, x17, x18, x19, x20, x21, x22, x23] (.int (0 : Int32)) := Arv.set Ar_o1 q_o1 S_o1 N_o1 H_o1 G_o1 rfl W2 6 rfl (Nat.le_of_ble_eq_true rfl)
  have N2 := Fr.snoc X2 N0 g_a0
  refine ogo st2 ?_
  show OWay p e below G T2 (mkF m 4 #[.val (.ref a0), .val (.int (6 : Int32)), .val (.int p2), .val (.int p3)] [])
  refine ogo (fun _ z_ => XS.aloadN X2.here hx rfl (hb hby d1_4) rfl rfl z_) ?_
  show OWay p e below G T2 (mkF m 5 #[.val (.ref a0), .val (.int (6 : Int32)), .val (.int p2), .val (.int p3)] [(.ref a0)])
  refine ogo (fun _ z_ => XS.iloadN X2.here hx rfl (hb hby d1_5) rfl z_) ?_
  show OWay p e below G T2 (mkF m 6 #[.val (.ref a0), .val (.int (6 : Int32)), .val (.int p2), .val (.int p3)] [(.int (6 : Int32)), (.ref a0)])
  refine ogo (fun _ z_ => XS.iconst X2.here hx rfl (hb hby d1_6) z_) ?_
  show OWay p e below G T2 (mkF m 7 #[.val (.ref a0), .val (.int (6 : Int32)), .val (.int p2), .val (.int p3)] [(.int (1 : Int32)), (.int (6 : Int32)), (.ref a0)])
  refine ogo (fun _ z_ => XS.iadd X2.here hx rfl (hb hby d1_7) rfl z_) ?_
  show OWay p e below G T2 (mkF m 8 #[.val (.ref a0), .val (.int (6 : Int32)), .val (.int p2), .val (.int p3)] [(.int ((6 : Int32) + (1 : Int32))), (.ref a0)])
  refine ogoE (g' := (mkF m 8 #[.val (.ref a0), .val (.int (6 : Int32)), .val (.int p2), .val (.int p3)] [(.int (7 : Int32)), (.ref a0)])) (by rw [show ((6 : Int32) + (1 : Int32)) = (7 : Int32) from by decide]) ?_
  refine ogo (fun _ z_ => XS.iloadN X2.here hx rfl (hb hby d1_8) rfl z_) ?_
  show OWay p e below G T2 (mkF m 9 #[.val (.ref a0), .val (.int (6 : Int32)), .val (.int p2), .val (.int p3)] [(.int p3), (.int (7 : Int32)), (.ref a0)])
  obtain ⟨cl_o4, Ar_o4, q_o4, S_o4, N_o4, H_o4, G_o4⟩ := id V_2
  have hin_o4 : ¬ ((7 : Int32) < 0 ∨ cl_o4.slots.size ≤ ((7 : Int32)).toNatClampNeg) := inb_of S_o4 ⟨by decide, by decide⟩
  obtain ⟨T5, h5, X5, eT5, W5, st5⟩ := stI X2 hx hZ eT2 Ar_o4 (j := (7 : Int32)) hin_o4 (g := (mkF m 9 #[.val (.ref a0), .val (.int (6 : Int32)), .val (.int p2), .val (.int p3)] [(.int p3), (.int (7 : Int32)), (.ref a0)])) rfl rfl (hb hby d1_9)
  have K6 : Keep h0 h5 [a0] := K3.wr W5 (Or.inl (List.mem_of_getElem? (i := 0) rfl))
  have V_5 : Arv Z h5 a0 kk .int (24 : Int32) [x0, x1, x2, x3, x4, x5, (.int p2), (.int p3), x8, x9, x10, x11, x12, x13, x14, x15, x16, x17, x18, x19, x20, x21, x22, x23] (.int (0 : Int32)) := Arv.set Ar_o4 q_o4 S_o4 N_o4 H_o4 G_o4 rfl W5 7 rfl (Nat.le_of_ble_eq_true rfl)
  have N5 := Fr.snoc X5 N2 g_a0
  refine ogo st5 ?_
  show OWay p e below G T5 (mkF m 10 #[.val (.ref a0), .val (.int (6 : Int32)), .val (.int p2), .val (.int p3)] [])
  refine ogo (fun _ z_ => XS.aloadN X5.here hx rfl (hb hby d1_10) rfl rfl z_) ?_
  show OWay p e below G T5 (mkF m 11 #[.val (.ref a0), .val (.int (6 : Int32)), .val (.int p2), .val (.int p3)] [(.ref a0)])
  refine ogo (fun _ z_ => XS.iloadN X5.here hx rfl (hb hby d1_11) rfl z_) ?_
  show OWay p e below G T5 (mkF m 12 #[.val (.ref a0), .val (.int (6 : Int32)), .val (.int p2), .val (.int p3)] [(.int (6 : Int32)), (.ref a0)])
  refine ogo (fun _ z_ => XS.iconst X5.here hx rfl (hb hby d1_12) z_) ?_
  show OWay p e below G T5 (mkF m 13 #[.val (.ref a0), .val (.int (6 : Int32)), .val (.int p2), .val (.int p3)] [(.int (2 : Int32)), (.int (6 : Int32)), (.ref a0)])
  refine ogo (fun _ z_ => XS.iadd X5.here hx rfl (hb hby d1_13) rfl z_) ?_
  show OWay p e below G T5 (mkF m 14 #[.val (.ref a0), .val (.int (6 : Int32)), .val (.int p2), .val (.int p3)] [(.int ((6 : Int32) + (2 : Int32))), (.ref a0)])
  refine ogoE (g' := (mkF m 14 #[.val (.ref a0), .val (.int (6 : Int32)), .val (.int p2), .val (.int p3)] [(.int (8 : Int32)), (.ref a0)])) (by rw [show ((6 : Int32) + (2 : Int32)) = (8 : Int32) from by decide]) ?_
  refine ogo (fun _ z_ => XS.iloadN X5.here hx rfl (hb hby d1_14) rfl z_) ?_
  show OWay p e below G T5 (mkF m 15 #[.val (.ref a0), .val (.int (6 : Int32)), .val (.int p2), .val (.int p3)] [(.int p3), (.int (8 : Int32)), (.ref a0)])
  obtain ⟨cl_o7, Ar_o7, q_o7, S_o7, N_o7, H_o7, G_o7⟩ := id V_5
  have hin_o7 : ¬ ((8 : Int32) < 0 ∨ cl_o7.slots.size ≤ ((8 : Int32)).toNatClampNeg) := inb_of S_o7 ⟨by decide, by decide⟩
  obtain ⟨T8, h8, X8, eT8, W8, st8⟩ := stI X5 hx hZ eT5 Ar_o7 (j := (8 : Int32)) hin_o7 (g := (mkF m 15 #[.val (.ref a0), .val (.int (6 : Int32)), .val (.int p2), .val (.int p3)] [(.int p3), (.int (8 : Int32)), (.ref a0)])) rfl rfl (hb hby d1_15)
  have K9 : Keep h0 h8 [a0] := K6.wr W8 (Or.inl (List.mem_of_getElem? (i := 0) rfl))
  have V_8 : Arv Z h8 a0 kk .int (24 : Int32) [x0, x1, x2, x3, x4, x5, (.int p2), (.int p3), (.int p3), x9, x10, x11, x12, x13, x14, x15, x16, x17, x18, x19, x20, x21, x22, x23] (.int (0 : Int32)) := Arv.set Ar_o7 q_o7 S_o7 N_o7 H_o7 G_o7 rfl W8 8 rfl (Nat.le_of_ble_eq_true rfl)
  have N8 := Fr.snoc X8 N5 g_a0
  refine ogo st8 ?_
  show OWay p e below G T8 (mkF m 16 #[.val (.ref a0), .val (.int (6 : Int32)), .val (.int p2), .val (.int p3)] [])
  refine ogo (fun _ z_ => XS.aloadN X8.here hx rfl (hb hby d1_16) rfl rfl z_) ?_
  show OWay p e below G T8 (mkF m 17 #[.val (.ref a0), .val (.int (6 : Int32)), .val (.int p2), .val (.int p3)] [(.ref a0)])
  refine ogo (fun _ z_ => XS.iloadN X8.here hx rfl (hb hby d1_17) rfl z_) ?_
  show OWay p e below G T8 (mkF m 18 #[.val (.ref a0), .val (.int (6 : Int32)), .val (.int p2), .val (.int p3)] [(.int (6 : Int32)), (.ref a0)])
  refine ogo (fun _ z_ => XS.iconst X8.here hx rfl (hb hby d1_18) z_) ?_
  show OWay p e below G T8 (mkF m 19 #[.val (.ref a0), .val (.int (6 : Int32)), .val (.int p2), .val (.int p3)] [(.int (3 : Int32)), (.int (6 : Int32)), (.ref a0)])
  refine ogo (fun _ z_ => XS.iadd X8.here hx rfl (hb hby d1_19) rfl z_) ?_
  show OWay p e below G T8 (mkF m 20 #[.val (.ref a0), .val (.int (6 : Int32)), .val (.int p2), .val (.int p3)] [(.int ((6 : Int32) + (3 : Int32))), (.ref a0)])
  refine ogoE (g' := (mkF m 20 #[.val (.ref a0), .val (.int (6 : Int32)), .val (.int p2), .val (.int p3)] [(.int (9 : Int32)), (.ref a0)])) (by rw [show ((6 : Int32) + (3 : Int32)) = (9 : Int32) from by decide]) ?_
  refine ogo (fun _ z_ => XS.iloadN X8.here hx rfl (hb hby d1_20) rfl z_) ?_
  show OWay p e below G T8 (mkF m 21 #[.val (.ref a0), .val (.int (6 : Int32)), .val (.int p2), .val (.int p3)] [(.int p3), (.int (9 : Int32)), (.ref a0)])
  obtain ⟨cl_o10, Ar_o10, q_o10, S_o10, N_o10, H_o10, G_o10⟩ := id V_8
  have hin_o10 : ¬ ((9 : Int32) < 0 ∨ cl_o10.slots.size ≤ ((9 : Int32)).toNatClampNeg) := inb_of S_o10 ⟨by decide, by decide⟩
  obtain ⟨T11, h11, X11, eT11, W11, st11⟩ := stI X8 hx hZ eT8 Ar_o10 (j := (9 : Int32)) hin_o10 (g := (mkF m 21 #[.val (.ref a0), .val (.int (6 : Int32)), .val (.int p2), .val (.int p3)] [(.int p3), (.int (9 : Int32)), (.ref a0)])) rfl rfl (hb hby d1_21)
  have K12 : Keep h0 h11 [a0] := K9.wr W11 (Or.inl (List.mem_of_getElem? (i := 0) rfl))
  have V_11 : Arv Z h11 a0 kk .int (24 : Int32) [x0, x1, x2, x3, x4, x5, (.int p2), (.int p3), (.int p3), (.int p3), x10, x11, x12, x13, x14, x15, x16, x17, x18, x19, x20, x21, x22, x23] (.int (0 : Int32)) := Arv.set Ar_o10 q_o10 S_o10 N_o10 H_o10 G_o10 rfl W11 9 rfl (Nat.le_of_ble_eq_true rfl)
  have N11 := Fr.snoc X11 N8 g_a0
  refine ogo st11 ?_
  show OWay p e below G T11 (mkF m 22 #[.val (.ref a0), .val (.int (6 : Int32)), .val (.int p2), .val (.int p3)] [])
  refine ogo (fun _ z_ => XS.aloadN X11.here hx rfl (hb hby d1_22) rfl rfl z_) ?_
  show OWay p e below G T11 (mkF m 23 #[.val (.ref a0), .val (.int (6 : Int32)), .val (.int p2), .val (.int p3)] [(.ref a0)])
  refine ogo (fun _ z_ => XS.iloadN X11.here hx rfl (hb hby d1_23) rfl z_) ?_
  show OWay p e below G T11 (mkF m 24 #[.val (.ref a0), .val (.int (6 : Int32)), .val (.int p2), .val (.int p3)] [(.int (6 : Int32)), (.ref a0)])
  refine ogo (fun _ z_ => XS.iconst X11.here hx rfl (hb hby d1_24) z_) ?_
  show OWay p e below G T11 (mkF m 25 #[.val (.ref a0), .val (.int (6 : Int32)), .val (.int p2), .val (.int p3)] [(.int (4 : Int32)), (.int (6 : Int32)), (.ref a0)])
  refine ogo (fun _ z_ => XS.iadd X11.here hx rfl (hb hby d1_25) rfl z_) ?_
  show OWay p e below G T11 (mkF m 26 #[.val (.ref a0), .val (.int (6 : Int32)), .val (.int p2), .val (.int p3)] [(.int ((6 : Int32) + (4 : Int32))), (.ref a0)])
  refine ogoE (g' := (mkF m 26 #[.val (.ref a0), .val (.int (6 : Int32)), .val (.int p2), .val (.int p3)] [(.int (10 : Int32)), (.ref a0)])) (by rw [show ((6 : Int32) + (4 : Int32)) = (10 : Int32) from by decide]) ?_
  refine ogo (fun _ z_ => XS.iloadN X11.here hx rfl (hb hby d1_26) rfl z_) ?_
  show OWay p e below G T11 (mkF m 27 #[.val (.ref a0), .val (.int (6 : Int32)), .val (.int p2), .val (.int p3)] [(.int p3), (.int (10 : Int32)), (.ref a0)])
  obtain ⟨cl_o13, Ar_o13, q_o13, S_o13, N_o13, H_o13, G_o13⟩ := id V_11
  have hin_o13 : ¬ ((10 : Int32) < 0 ∨ cl_o13.slots.size ≤ ((10 : Int32)).toNatClampNeg) := inb_of S_o13 ⟨by decide, by decide⟩
  obtain ⟨T14, h14, X14, eT14, W14, st14⟩ := stI X11 hx hZ eT11 Ar_o13 (j := (10 : Int32)) hin_o13 (g := (mkF m 27 #[.val (.ref a0), .val (.int (6 : Int32)), .val (.int p2), .val (.int p3)] [(.int p3), (.int (10 : Int32)), (.ref a0)])) rfl rfl (hb hby d1_27)
  have K15 : Keep h0 h14 [a0] := K12.wr W14 (Or.inl (List.mem_of_getElem? (i := 0) rfl))
  have V_14 : Arv Z h14 a0 kk .int (24 : Int32) [x0, x1, x2, x3, x4, x5, (.int p2), (.int p3), (.int p3), (.int p3), (.int p3), x11, x12, x13, x14, x15, x16, x17, x18, x19, x20, x21, x22, x23] (.int (0 : Int32)) := Arv.set Ar_o13 q_o13 S_o13 N_o13 H_o13 G_o13 rfl W14 10 rfl (Nat.le_of_ble_eq_true rfl)
  have N14 := Fr.snoc X14 N11 g_a0
  refine ogo st14 ?_
  show OWay p e below G T14 (mkF m 28 #[.val (.ref a0), .val (.int (6 : Int32)), .val (.int p2), .val (.int p3)] [])
  refine ogo (fun _ z_ => XS.aloadN X14.here hx rfl (hb hby d1_28) rfl rfl z_) ?_
  show OWay p e below G T14 (mkF m 29 #[.val (.ref a0), .val (.int (6 : Int32)), .val (.int p2), .val (.int p3)] [(.ref a0)])
  refine ogo (fun _ z_ => XS.iloadN X14.here hx rfl (hb hby d1_29) rfl z_) ?_
  show OWay p e below G T14 (mkF m 30 #[.val (.ref a0), .val (.int (6 : Int32)), .val (.int p2), .val (.int p3)] [(.int (6 : Int32)), (.ref a0)])
  refine ogo (fun _ z_ => XS.iconst X14.here hx rfl (hb hby d1_30) z_) ?_
  show OWay p e below G T14 (mkF m 31 #[.val (.ref a0), .val (.int (6 : Int32)), .val (.int p2), .val (.int p3)] [(.int (5 : Int32)), (.int (6 : Int32)), (.ref a0)])
  refine ogo (fun _ z_ => XS.iadd X14.here hx rfl (hb hby d1_31) rfl z_) ?_
  show OWay p e below G T14 (mkF m 32 #[.val (.ref a0), .val (.int (6 : Int32)), .val (.int p2), .val (.int p3)] [(.int ((6 : Int32) + (5 : Int32))), (.ref a0)])
  refine ogoE (g' := (mkF m 32 #[.val (.ref a0), .val (.int (6 : Int32)), .val (.int p2), .val (.int p3)] [(.int (11 : Int32)), (.ref a0)])) (by rw [show ((6 : Int32) + (5 : Int32)) = (11 : Int32) from by decide]) ?_
  refine ogo (fun _ z_ => XS.iloadN X14.here hx rfl (hb hby d1_32) rfl z_) ?_
  show OWay p e below G T14 (mkF m 33 #[.val (.ref a0), .val (.int (6 : Int32)), .val (.int p2), .val (.int p3)] [(.int p3), (.int (11 : Int32)), (.ref a0)])
  obtain ⟨cl_o16, Ar_o16, q_o16, S_o16, N_o16, H_o16, G_o16⟩ := id V_14
  have hin_o16 : ¬ ((11 : Int32) < 0 ∨ cl_o16.slots.size ≤ ((11 : Int32)).toNatClampNeg) := inb_of S_o16 ⟨by decide, by decide⟩
  obtain ⟨T17, h17, X17, eT17, W17, st17⟩ := stI X14 hx hZ eT14 Ar_o16 (j := (11 : Int32)) hin_o16 (g := (mkF m 33 #[.val (.ref a0), .val (.int (6 : Int32)), .val (.int p2), .val (.int p3)] [(.int p3), (.int (11 : Int32)), (.ref a0)])) rfl rfl (hb hby d1_33)
  have K18 : Keep h0 h17 [a0] := K15.wr W17 (Or.inl (List.mem_of_getElem? (i := 0) rfl))
  have V_17 : Arv Z h17 a0 kk .int (24 : Int32) [x0, x1, x2, x3, x4, x5, (.int p2), (.int p3), (.int p3), (.int p3), (.int p3), (.int p3), x12, x13, x14, x15, x16, x17, x18, x19, x20, x21, x22, x23] (.int (0 : Int32)) := Arv.set Ar_o16 q_o16 S_o16 N_o16 H_o16 G_o16 rfl W17 11 rfl (Nat.le_of_ble_eq_true rfl)
  have N17 := Fr.snoc X17 N14 g_a0
  refine ogo st17 ?_
  show OWay p e below G T17 (mkF m 34 #[.val (.ref a0), .val (.int (6 : Int32)), .val (.int p2), .val (.int p3)] [])
  subst hG
  refine wRetV X17 hx hret hlk (hb hby d1_34) (by decide) (by decide) eT17 ?_
  exact ⟨rfl, N17, K18, V_17⟩
def fill12_rm : Room := { frames := 0, cells := 0, slots := 0, locals := 0 }
def fill12_Q (Z : State) (a0 : Addr) (p2 : Int32) (p3 : Int32) (kk : ClassId) (x0 : Value) (x1 : Value) (x2 : Value) (x3 : Value) (x4 : Value) (x5 : Value) (x6 : Value) (x7 : Value) (x8 : Value) (x9 : Value) (x10 : Value) (x11 : Value) (x12 : Value) (x13 : Value) (x14 : Value) (x15 : Value) (x16 : Value) (x17 : Value) (x18 : Value) (x19 : Value) (x20 : Value) (x21 : Value) (x22 : Value) (x23 : Value) (h0 : Heap) (n0 : Nat) (v : Option Value) (h : Heap) (L : List Loc) : Prop := (v = none) ∧ (Fr n0 L) ∧ (Keep h0 h [a0]) ∧ (Arv Z h a0 kk .int (24 : Int32) [x0, x1, x2, x3, x4, x5, x6, x7, x8, x9, x10, x11, (.int p2), (.int p3), (.int p3), (.int p3), (.int p3), (.int p3), x18, x19, x20, x21, x22, x23] (.int (0 : Int32)))
theorem fill12_ef (m : MethodId) (a0 : Addr) (p2 : Int32) (p3 : Int32) : entryFrame m #[(.ref a0), (.int (12 : Int32)), (.int p2), (.int p3)] 4 = mkF m 0 #[.val (.ref a0), .val (.int (12 : Int32)), .val (.int p2), .val (.int p3)] [] := by first | (simp [entryFrame, mkF, argsToLocals, Value.category]; done) | rfl
set_option maxRecDepth 65536 in
set_option maxHeartbeats 40000000 in
theorem fill12_c (l : Launch) (Z : State) (az : Array Value) (hw : ∀ d ∈ tables_1, d.before az Z = true) (ws : List Jvm.Cond) (a0 : Addr) (p2 : Int32) (p3 : Int32) (kk : ClassId) (x0 : Value) (x1 : Value) (x2 : Value) (x3 : Value) (x4 : Value) (x5 : Value) (x6 : Value) (x7 : Value) (x8 : Value) (x9 : Value) (x10 : Value) (x11 : Value) (x12 : Value) (x13 : Value) (x14 : Value) (x15 : Value) (x16 : Value) (x17 : Value) (x18 : Value) (x19 : Value) (x20 : Value) (x21 : Value) (x22 : Value) (x23 : Value) (h0 : Heap) (n0 : Nat) (Z0 : n0 ≤ h0.size) (hp0 : Arv Z h0 a0 kk .int (24 : Int32) [x0, x1, x2, x3, x4, x5, x6, x7, x8, x9, x10, x11, x12, x13, x14, x15, x16, x17, x18, x19, x20, x21, x22, x23] (.int (0 : Int32))) (hp1 : n0 ≤ a0) :
    OCon l (⟨"com/example/geotide/geotide/MembersFindPinLaw", "fill", "([IIII)V"⟩ : MethodName) method_3_code 4 none ws fill12_rm Z #[(.ref a0), (.int (12 : Int32)), (.int p2), (.int p3)] h0 (fill12_Q Z a0 p2 p3 kk x0 x1 x2 x3 x4 x5 x6 x7 x8 x9 x10 x11 x12 x13 x14 x15 x16 x17 x18 x19 x20 x21 x22 x23 h0 n0) := by
  refine ocon (plainFor_of_name pn_com_example_geotide_geotide_MembersFindPinLaw) ?_
  intro p e s m below meth c s₁ hx hby hml hown hnm hret hlk hZ X0 eh0
  have N0 := Fr.nil n0
  have K0 := Keep.refl h0 [a0]
  refine ogoE (fill12_ef m a0 p2 p3) ?_
  have g_a0 := hp1
  generalize hG : (OEnd s below (fill12_Q Z a0 p2 p3 kk x0 x1 x2 x3 x4 x5 x6 x7 x8 x9 x10 x11 x12 x13 x14 x15 x16 x17 x18 x19 x20 x21 x22 x23 h0 n0) fill12_rm.cells fill12_rm.slots) = G
  show OWay p e below G s₁ (mkF m 0 #[.val (.ref a0), .val (.int (12 : Int32)), .val (.int p2), .val (.int p3)] [])
  refine ogo (fun _ z_ => XS.aloadN X0.here hx rfl (hb hby d1_0) rfl rfl z_) ?_
  show OWay p e below G s₁ (mkF m 1 #[.val (.ref a0), .val (.int (12 : Int32)), .val (.int p2), .val (.int p3)] [(.ref a0)])
  refine ogo (fun _ z_ => XS.iloadN X0.here hx rfl (hb hby d1_1) rfl z_) ?_
  show OWay p e below G s₁ (mkF m 2 #[.val (.ref a0), .val (.int (12 : Int32)), .val (.int p2), .val (.int p3)] [(.int (12 : Int32)), (.ref a0)])
  refine ogo (fun _ z_ => XS.iloadN X0.here hx rfl (hb hby d1_2) rfl z_) ?_
  show OWay p e below G s₁ (mkF m 3 #[.val (.ref a0), .val (.int (12 : Int32)), .val (.int p2), .val (.int p3)] [(.int p2), (.int (12 : Int32)), (.ref a0)])
  obtain ⟨cl_o1, Ar_o1, q_o1, S_o1, N_o1, H_o1, G_o1⟩ := id hp0
  have hin_o1 : ¬ ((12 : Int32) < 0 ∨ cl_o1.slots.size ≤ ((12 : Int32)).toNatClampNeg) := inb_of S_o1 ⟨by decide, by decide⟩
  obtain ⟨T2, h2, X2, eT2, W2, st2⟩ := stI X0 hx hZ eh0 Ar_o1 (j := (12 : Int32)) hin_o1 (g := (mkF m 3 #[.val (.ref a0), .val (.int (12 : Int32)), .val (.int p2), .val (.int p3)] [(.int p2), (.int (12 : Int32)), (.ref a0)])) rfl rfl (hb hby d1_3)
  have K3 : Keep h0 h2 [a0] := K0.wr W2 (Or.inl (List.mem_of_getElem? (i := 0) rfl))
  have V_2 : Arv Z h2 a0 kk .int (24 : Int32) [x0, x1, x2, x3, x4, x5, x6, x7, x8, x9, x10, x11, (.int p2), x13, x14, x15, x16, x17, x18, x19, x20, x21, x22, x23] (.int (0 : Int32)) := Arv.set Ar_o1 q_o1 S_o1 N_o1 H_o1 G_o1 rfl W2 12 rfl (Nat.le_of_ble_eq_true rfl)
  have N2 := Fr.snoc X2 N0 g_a0
  refine ogo st2 ?_
  show OWay p e below G T2 (mkF m 4 #[.val (.ref a0), .val (.int (12 : Int32)), .val (.int p2), .val (.int p3)] [])
  refine ogo (fun _ z_ => XS.aloadN X2.here hx rfl (hb hby d1_4) rfl rfl z_) ?_
  show OWay p e below G T2 (mkF m 5 #[.val (.ref a0), .val (.int (12 : Int32)), .val (.int p2), .val (.int p3)] [(.ref a0)])
  refine ogo (fun _ z_ => XS.iloadN X2.here hx rfl (hb hby d1_5) rfl z_) ?_
  show OWay p e below G T2 (mkF m 6 #[.val (.ref a0), .val (.int (12 : Int32)), .val (.int p2), .val (.int p3)] [(.int (12 : Int32)), (.ref a0)])
  refine ogo (fun _ z_ => XS.iconst X2.here hx rfl (hb hby d1_6) z_) ?_
  show OWay p e below G T2 (mkF m 7 #[.val (.ref a0), .val (.int (12 : Int32)), .val (.int p2), .val (.int p3)] [(.int (1 : Int32)), (.int (12 : Int32)), (.ref a0)])
  refine ogo (fun _ z_ => XS.iadd X2.here hx rfl (hb hby d1_7) rfl z_) ?_
  show OWay p e below G T2 (mkF m 8 #[.val (.ref a0), .val (.int (12 : Int32)), .val (.int p2), .val (.int p3)] [(.int ((12 : Int32) + (1 : Int32))), (.ref a0)])
  refine ogoE (g' := (mkF m 8 #[.val (.ref a0), .val (.int (12 : Int32)), .val (.int p2), .val (.int p3)] [(.int (13 : Int32)), (.ref a0)])) (by rw [show ((12 : Int32) + (1 : Int32)) = (13 : Int32) from by decide]) ?_
  refine ogo (fun _ z_ => XS.iloadN X2.here hx rfl (hb hby d1_8) rfl z_) ?_
  show OWay p e below G T2 (mkF m 9 #[.val (.ref a0), .val (.int (12 : Int32)), .val (.int p2), .val (.int p3)] [(.int p3), (.int (13 : Int32)), (.ref a0)])
  obtain ⟨cl_o4, Ar_o4, q_o4, S_o4, N_o4, H_o4, G_o4⟩ := id V_2
  have hin_o4 : ¬ ((13 : Int32) < 0 ∨ cl_o4.slots.size ≤ ((13 : Int32)).toNatClampNeg) := inb_of S_o4 ⟨by decide, by decide⟩
  obtain ⟨T5, h5, X5, eT5, W5, st5⟩ := stI X2 hx hZ eT2 Ar_o4 (j := (13 : Int32)) hin_o4 (g := (mkF m 9 #[.val (.ref a0), .val (.int (12 : Int32)), .val (.int p2), .val (.int p3)] [(.int p3), (.int (13 : Int32)), (.ref a0)])) rfl rfl (hb hby d1_9)
  have K6 : Keep h0 h5 [a0] := K3.wr W5 (Or.inl (List.mem_of_getElem? (i := 0) rfl))
  have V_5 : Arv Z h5 a0 kk .int (24 : Int32) [x0, x1, x2, x3, x4, x5, x6, x7, x8, x9, x10, x11, (.int p2), (.int p3), x14, x15, x16, x17, x18, x19, x20, x21, x22, x23] (.int (0 : Int32)) := Arv.set Ar_o4 q_o4 S_o4 N_o4 H_o4 G_o4 rfl W5 13 rfl (Nat.le_of_ble_eq_true rfl)
  have N5 := Fr.snoc X5 N2 g_a0
  refine ogo st5 ?_
  show OWay p e below G T5 (mkF m 10 #[.val (.ref a0), .val (.int (12 : Int32)), .val (.int p2), .val (.int p3)] [])
  refine ogo (fun _ z_ => XS.aloadN X5.here hx rfl (hb hby d1_10) rfl rfl z_) ?_
  show OWay p e below G T5 (mkF m 11 #[.val (.ref a0), .val (.int (12 : Int32)), .val (.int p2), .val (.int p3)] [(.ref a0)])
  refine ogo (fun _ z_ => XS.iloadN X5.here hx rfl (hb hby d1_11) rfl z_) ?_
  show OWay p e below G T5 (mkF m 12 #[.val (.ref a0), .val (.int (12 : Int32)), .val (.int p2), .val (.int p3)] [(.int (12 : Int32)), (.ref a0)])
  refine ogo (fun _ z_ => XS.iconst X5.here hx rfl (hb hby d1_12) z_) ?_
  show OWay p e below G T5 (mkF m 13 #[.val (.ref a0), .val (.int (12 : Int32)), .val (.int p2), .val (.int p3)] [(.int (2 : Int32)), (.int (12 : Int32)), (.ref a0)])
  refine ogo (fun _ z_ => XS.iadd X5.here hx rfl (hb hby d1_13) rfl z_) ?_
  show OWay p e below G T5 (mkF m 14 #[.val (.ref a0), .val (.int (12 : Int32)), .val (.int p2), .val (.int p3)] [(.int ((12 : Int32) + (2 : Int32))), (.ref a0)])
  refine ogoE (g' := (mkF m 14 #[.val (.ref a0), .val (.int (12 : Int32)), .val (.int p2), .val (.int p3)] [(.int (14 : Int32)), (.ref a0)])) (by rw [show ((12 : Int32) + (2 : Int32)) = (14 : Int32) from by decide]) ?_
  refine ogo (fun _ z_ => XS.iloadN X5.here hx rfl (hb hby d1_14) rfl z_) ?_
  show OWay p e below G T5 (mkF m 15 #[.val (.ref a0), .val (.int (12 : Int32)), .val (.int p2), .val (.int p3)] [(.int p3), (.int (14 : Int32)), (.ref a0)])
  obtain ⟨cl_o7, Ar_o7, q_o7, S_o7, N_o7, H_o7, G_o7⟩ := id V_5
  have hin_o7 : ¬ ((14 : Int32) < 0 ∨ cl_o7.slots.size ≤ ((14 : Int32)).toNatClampNeg) := inb_of S_o7 ⟨by decide, by decide⟩
  obtain ⟨T8, h8, X8, eT8, W8, st8⟩ := stI X5 hx hZ eT5 Ar_o7 (j := (14 : Int32)) hin_o7 (g := (mkF m 15 #[.val (.ref a0), .val (.int (12 : Int32)), .val (.int p2), .val (.int p3)] [(.int p3), (.int (14 : Int32)), (.ref a0)])) rfl rfl (hb hby d1_15)
  have K9 : Keep h0 h8 [a0] := K6.wr W8 (Or.inl (List.mem_of_getElem? (i := 0) rfl))
  have V_8 : Arv Z h8 a0 kk .int (24 : Int32) [x0, x1, x2, x3, x4, x5, x6, x7, x8, x9, x10, x11, (.int p2), (.int p3), (.int p3), x15, x16, x17, x18, x19, x20, x21, x22, x23] (.int (0 : Int32)) := Arv.set Ar_o7 q_o7 S_o7 N_o7 H_o7 G_o7 rfl W8 14 rfl (Nat.le_of_ble_eq_true rfl)
  have N8 := Fr.snoc X8 N5 g_a0
  refine ogo st8 ?_
  show OWay p e below G T8 (mkF m 16 #[.val (.ref a0), .val (.int (12 : Int32)), .val (.int p2), .val (.int p3)] [])
  refine ogo (fun _ z_ => XS.aloadN X8.here hx rfl (hb hby d1_16) rfl rfl z_) ?_
  show OWay p e below G T8 (mkF m 17 #[.val (.ref a0), .val (.int (12 : Int32)), .val (.int p2), .val (.int p3)] [(.ref a0)])
  refine ogo (fun _ z_ => XS.iloadN X8.here hx rfl (hb hby d1_17) rfl z_) ?_
  show OWay p e below G T8 (mkF m 18 #[.val (.ref a0), .val (.int (12 : Int32)), .val (.int p2), .val (.int p3)] [(.int (12 : Int32)), (.ref a0)])
  refine ogo (fun _ z_ => XS.iconst X8.here hx rfl (hb hby d1_18) z_) ?_
  show OWay p e below G T8 (mkF m 19 #[.val (.ref a0), .val (.int (12 : Int32)), .val (.int p2), .val (.int p3)] [(.int (3 : Int32)), (.int (12 : Int32)), (.ref a0)])
  refine ogo (fun _ z_ => XS.iadd X8.here hx rfl (hb hby d1_19) rfl z_) ?_
  show OWay p e below G T8 (mkF m 20 #[.val (.ref a0), .val (.int (12 : Int32)), .val (.int p2), .val (.int p3)] [(.int ((12 : Int32) + (3 : Int32))), (.ref a0)])
  refine ogoE (g' := (mkF m 20 #[.val (.ref a0), .val (.int (12 : Int32)), .val (.int p2), .val (.int p3)] [(.int (15 : Int32)), (.ref a0)])) (by rw [show ((12 : Int32) + (3 : Int32)) = (15 : Int32) from by decide]) ?_
  refine ogo (fun _ z_ => XS.iloadN X8.here hx rfl (hb hby d1_20) rfl z_) ?_
  show OWay p e below G T8 (mkF m 21 #[.val (.ref a0), .val (.int (12 : Int32)), .val (.int p2), .val (.int p3)] [(.int p3), (.int (15 : Int32)), (.ref a0)])
  obtain ⟨cl_o10, Ar_o10, q_o10, S_o10, N_o10, H_o10, G_o10⟩ := id V_8
  have hin_o10 : ¬ ((15 : Int32) < 0 ∨ cl_o10.slots.size ≤ ((15 : Int32)).toNatClampNeg) := inb_of S_o10 ⟨by decide, by decide⟩
  obtain ⟨T11, h11, X11, eT11, W11, st11⟩ := stI X8 hx hZ eT8 Ar_o10 (j := (15 : Int32)) hin_o10 (g := (mkF m 21 #[.val (.ref a0), .val (.int (12 : Int32)), .val (.int p2), .val (.int p3)] [(.int p3), (.int (15 : Int32)), (.ref a0)])) rfl rfl (hb hby d1_21)
  have K12 : Keep h0 h11 [a0] := K9.wr W11 (Or.inl (List.mem_of_getElem? (i := 0) rfl))
  have V_11 : Arv Z h11 a0 kk .int (24 : Int32) [x0, x1, x2, x3, x4, x5, x6, x7, x8, x9, x10, x11, (.int p2), (.int p3), (.int p3), (.int p3), x16, x17, x18, x19, x20, x21, x22, x23] (.int (0 : Int32)) := Arv.set Ar_o10 q_o10 S_o10 N_o10 H_o10 G_o10 rfl W11 15 rfl (Nat.le_of_ble_eq_true rfl)
  have N11 := Fr.snoc X11 N8 g_a0
  refine ogo st11 ?_
  show OWay p e below G T11 (mkF m 22 #[.val (.ref a0), .val (.int (12 : Int32)), .val (.int p2), .val (.int p3)] [])
  refine ogo (fun _ z_ => XS.aloadN X11.here hx rfl (hb hby d1_22) rfl rfl z_) ?_
  show OWay p e below G T11 (mkF m 23 #[.val (.ref a0), .val (.int (12 : Int32)), .val (.int p2), .val (.int p3)] [(.ref a0)])
  refine ogo (fun _ z_ => XS.iloadN X11.here hx rfl (hb hby d1_23) rfl z_) ?_
  show OWay p e below G T11 (mkF m 24 #[.val (.ref a0), .val (.int (12 : Int32)), .val (.int p2), .val (.int p3)] [(.int (12 : Int32)), (.ref a0)])
  refine ogo (fun _ z_ => XS.iconst X11.here hx rfl (hb hby d1_24) z_) ?_
  show OWay p e below G T11 (mkF m 25 #[.val (.ref a0), .val (.int (12 : Int32)), .val (.int p2), .val (.int p3)] [(.int (4 : Int32)), (.int (12 : Int32)), (.ref a0)])
  refine ogo (fun _ z_ => XS.iadd X11.here hx rfl (hb hby d1_25) rfl z_) ?_
  show OWay p e below G T11 (mkF m 26 #[.val (.ref a0), .val (.int (12 : Int32)), .val (.int p2), .val (.int p3)] [(.int ((12 : Int32) + (4 : Int32))), (.ref a0)])
  refine ogoE (g' := (mkF m 26 #[.val (.ref a0), .val (.int (12 : Int32)), .val (.int p2), .val (.int p3)] [(.int (16 : Int32)), (.ref a0)])) (by rw [show ((12 : Int32) + (4 : Int32)) = (16 : Int32) from by decide]) ?_
  refine ogo (fun _ z_ => XS.iloadN X11.here hx rfl (hb hby d1_26) rfl z_) ?_
  show OWay p e below G T11 (mkF m 27 #[.val (.ref a0), .val (.int (12 : Int32)), .val (.int p2), .val (.int p3)] [(.int p3), (.int (16 : Int32)), (.ref a0)])
  obtain ⟨cl_o13, Ar_o13, q_o13, S_o13, N_o13, H_o13, G_o13⟩ := id V_11
  have hin_o13 : ¬ ((16 : Int32) < 0 ∨ cl_o13.slots.size ≤ ((16 : Int32)).toNatClampNeg) := inb_of S_o13 ⟨by decide, by decide⟩
  obtain ⟨T14, h14, X14, eT14, W14, st14⟩ := stI X11 hx hZ eT11 Ar_o13 (j := (16 : Int32)) hin_o13 (g := (mkF m 27 #[.val (.ref a0), .val (.int (12 : Int32)), .val (.int p2), .val (.int p3)] [(.int p3), (.int (16 : Int32)), (.ref a0)])) rfl rfl (hb hby d1_27)
  have K15 : Keep h0 h14 [a0] := K12.wr W14 (Or.inl (List.mem_of_getElem? (i := 0) rfl))
  have V_14 : Arv Z h14 a0 kk .int (24 : Int32) [x0, x1, x2, x3, x4, x5, x6, x7, x8, x9, x10, x11, (.int p2), (.int p3), (.int p3), (.int p3), (.int p3), x17, x18, x19, x20, x21, x22, x23] (.int (0 : Int32)) := Arv.set Ar_o13 q_o13 S_o13 N_o13 H_o13 G_o13 rfl W14 16 rfl (Nat.le_of_ble_eq_true rfl)
  have N14 := Fr.snoc X14 N11 g_a0
  refine ogo st14 ?_
  show OWay p e below G T14 (mkF m 28 #[.val (.ref a0), .val (.int (12 : Int32)), .val (.int p2), .val (.int p3)] [])
  refine ogo (fun _ z_ => XS.aloadN X14.here hx rfl (hb hby d1_28) rfl rfl z_) ?_
  show OWay p e below G T14 (mkF m 29 #[.val (.ref a0), .val (.int (12 : Int32)), .val (.int p2), .val (.int p3)] [(.ref a0)])
  refine ogo (fun _ z_ => XS.iloadN X14.here hx rfl (hb hby d1_29) rfl z_) ?_
  show OWay p e below G T14 (mkF m 30 #[.val (.ref a0), .val (.int (12 : Int32)), .val (.int p2), .val (.int p3)] [(.int (12 : Int32)), (.ref a0)])
  refine ogo (fun _ z_ => XS.iconst X14.here hx rfl (hb hby d1_30) z_) ?_
  show OWay p e below G T14 (mkF m 31 #[.val (.ref a0), .val (.int (12 : Int32)), .val (.int p2), .val (.int p3)] [(.int (5 : Int32)), (.int (12 : Int32)), (.ref a0)])
  refine ogo (fun _ z_ => XS.iadd X14.here hx rfl (hb hby d1_31) rfl z_) ?_
  show OWay p e below G T14 (mkF m 32 #[.val (.ref a0), .val (.int (12 : Int32)), .val (.int p2), .val (.int p3)] [(.int ((12 : Int32) + (5 : Int32))), (.ref a0)])
  refine ogoE (g' := (mkF m 32 #[.val (.ref a0), .val (.int (12 : Int32)), .val (.int p2), .val (.int p3)] [(.int (17 : Int32)), (.ref a0)])) (by rw [show ((12 : Int32) + (5 : Int32)) = (17 : Int32) from by decide]) ?_
  refine ogo (fun _ z_ => XS.iloadN X14.here hx rfl (hb hby d1_32) rfl z_) ?_
  show OWay p e below G T14 (mkF m 33 #[.val (.ref a0), .val (.int (12 : Int32)), .val (.int p2), .val (.int p3)] [(.int p3), (.int (17 : Int32)), (.ref a0)])
  obtain ⟨cl_o16, Ar_o16, q_o16, S_o16, N_o16, H_o16, G_o16⟩ := id V_14
  have hin_o16 : ¬ ((17 : Int32) < 0 ∨ cl_o16.slots.size ≤ ((17 : Int32)).toNatClampNeg) := inb_of S_o16 ⟨by decide, by decide⟩
  obtain ⟨T17, h17, X17, eT17, W17, st17⟩ := stI X14 hx hZ eT14 Ar_o16 (j := (17 : Int32)) hin_o16 (g := (mkF m 33 #[.val (.ref a0), .val (.int (12 : Int32)), .val (.int p2), .val (.int p3)] [(.int p3), (.int (17 : Int32)), (.ref a0)])) rfl rfl (hb hby d1_33)
  have K18 : Keep h0 h17 [a0] := K15.wr W17 (Or.inl (List.mem_of_getElem? (i := 0) rfl))
  have V_17 : Arv Z h17 a0 kk .int (24 : Int32) [x0, x1, x2, x3, x4, x5, x6, x7, x8, x9, x10, x11, (.int p2), (.int p3), (.int p3), (.int p3), (.int p3), (.int p3), x18, x19, x20, x21, x22, x23] (.int (0 : Int32)) := Arv.set Ar_o16 q_o16 S_o16 N_o16 H_o16 G_o16 rfl W17 17 rfl (Nat.le_of_ble_eq_true rfl)
  have N17 := Fr.snoc X17 N14 g_a0
  refine ogo st17 ?_
  show OWay p e below G T17 (mkF m 34 #[.val (.ref a0), .val (.int (12 : Int32)), .val (.int p2), .val (.int p3)] [])
  subst hG
  refine wRetV X17 hx hret hlk (hb hby d1_34) (by decide) (by decide) eT17 ?_
  exact ⟨rfl, N17, K18, V_17⟩
def fill18_rm : Room := { frames := 0, cells := 0, slots := 0, locals := 0 }
def fill18_Q (Z : State) (a0 : Addr) (p2 : Int32) (p3 : Int32) (kk : ClassId) (x0 : Value) (x1 : Value) (x2 : Value) (x3 : Value) (x4 : Value) (x5 : Value) (x6 : Value) (x7 : Value) (x8 : Value) (x9 : Value) (x10 : Value) (x11 : Value) (x12 : Value) (x13 : Value) (x14 : Value) (x15 : Value) (x16 : Value) (x17 : Value) (x18 : Value) (x19 : Value) (x20 : Value) (x21 : Value) (x22 : Value) (x23 : Value) (h0 : Heap) (n0 : Nat) (v : Option Value) (h : Heap) (L : List Loc) : Prop := (v = none) ∧ (Fr n0 L) ∧ (Keep h0 h [a0]) ∧ (Arv Z h a0 kk .int (24 : Int32) [x0, x1, x2, x3, x4, x5, x6, x7, x8, x9, x10, x11, x12, x13, x14, x15, x16, x17, (.int p2), (.int p3), (.int p3), (.int p3), (.int p3), (.int p3)] (.int (0 : Int32)))
theorem fill18_ef (m : MethodId) (a0 : Addr) (p2 : Int32) (p3 : Int32) : entryFrame m #[(.ref a0), (.int (18 : Int32)), (.int p2), (.int p3)] 4 = mkF m 0 #[.val (.ref a0), .val (.int (18 : Int32)), .val (.int p2), .val (.int p3)] [] := by first | (simp [entryFrame, mkF, argsToLocals, Value.category]; done) | rfl
set_option maxRecDepth 65536 in
set_option maxHeartbeats 40000000 in
theorem fill18_c (l : Launch) (Z : State) (az : Array Value) (hw : ∀ d ∈ tables_1, d.before az Z = true) (ws : List Jvm.Cond) (a0 : Addr) (p2 : Int32) (p3 : Int32) (kk : ClassId) (x0 : Value) (x1 : Value) (x2 : Value) (x3 : Value) (x4 : Value) (x5 : Value) (x6 : Value) (x7 : Value) (x8 : Value) (x9 : Value) (x10 : Value) (x11 : Value) (x12 : Value) (x13 : Value) (x14 : Value) (x15 : Value) (x16 : Value) (x17 : Value) (x18 : Value) (x19 : Value) (x20 : Value) (x21 : Value) (x22 : Value) (x23 : Value) (h0 : Heap) (n0 : Nat) (Z0 : n0 ≤ h0.size) (hp0 : Arv Z h0 a0 kk .int (24 : Int32) [x0, x1, x2, x3, x4, x5, x6, x7, x8, x9, x10, x11, x12, x13, x14, x15, x16, x17, x18, x19, x20, x21, x22, x23] (.int (0 : Int32))) (hp1 : n0 ≤ a0) :
    OCon l (⟨"com/example/geotide/geotide/MembersFindPinLaw", "fill", "([IIII)V"⟩ : MethodName) method_3_code 4 none ws fill18_rm Z #[(.ref a0), (.int (18 : Int32)), (.int p2), (.int p3)] h0 (fill18_Q Z a0 p2 p3 kk x0 x1 x2 x3 x4 x5 x6 x7 x8 x9 x10 x11 x12 x13 x14 x15 x16 x17 x18 x19 x20 x21 x22 x23 h0 n0) := by
  refine ocon (plainFor_of_name pn_com_example_geotide_geotide_MembersFindPinLaw) ?_
  intro p e s m below meth c s₁ hx hby hml hown hnm hret hlk hZ X0 eh0
  have N0 := Fr.nil n0
  have K0 := Keep.refl h0 [a0]
  refine ogoE (fill18_ef m a0 p2 p3) ?_
  have g_a0 := hp1
  generalize hG : (OEnd s below (fill18_Q Z a0 p2 p3 kk x0 x1 x2 x3 x4 x5 x6 x7 x8 x9 x10 x11 x12 x13 x14 x15 x16 x17 x18 x19 x20 x21 x22 x23 h0 n0) fill18_rm.cells fill18_rm.slots) = G
  show OWay p e below G s₁ (mkF m 0 #[.val (.ref a0), .val (.int (18 : Int32)), .val (.int p2), .val (.int p3)] [])
  refine ogo (fun _ z_ => XS.aloadN X0.here hx rfl (hb hby d1_0) rfl rfl z_) ?_
  show OWay p e below G s₁ (mkF m 1 #[.val (.ref a0), .val (.int (18 : Int32)), .val (.int p2), .val (.int p3)] [(.ref a0)])
  refine ogo (fun _ z_ => XS.iloadN X0.here hx rfl (hb hby d1_1) rfl z_) ?_
  show OWay p e below G s₁ (mkF m 2 #[.val (.ref a0), .val (.int (18 : Int32)), .val (.int p2), .val (.int p3)] [(.int (18 : Int32)), (.ref a0)])
  refine ogo (fun _ z_ => XS.iloadN X0.here hx rfl (hb hby d1_2) rfl z_) ?_
  show OWay p e below G s₁ (mkF m 3 #[.val (.ref a0), .val (.int (18 : Int32)), .val (.int p2), .val (.int p3)] [(.int p2), (.int (18 : Int32)), (.ref a0)])
  obtain ⟨cl_o1, Ar_o1, q_o1, S_o1, N_o1, H_o1, G_o1⟩ := id hp0
  have hin_o1 : ¬ ((18 : Int32) < 0 ∨ cl_o1.slots.size ≤ ((18 : Int32)).toNatClampNeg) := inb_of S_o1 ⟨by decide, by decide⟩
  obtain ⟨T2, h2, X2, eT2, W2, st2⟩ := stI X0 hx hZ eh0 Ar_o1 (j := (18 : Int32)) hin_o1 (g := (mkF m 3 #[.val (.ref a0), .val (.int (18 : Int32)), .val (.int p2), .val (.int p3)] [(.int p2), (.int (18 : Int32)), (.ref a0)])) rfl rfl (hb hby d1_3)
  have K3 : Keep h0 h2 [a0] := K0.wr W2 (Or.inl (List.mem_of_getElem? (i := 0) rfl))
  have V_2 : Arv Z h2 a0 kk .int (24 : Int32) [x0, x1, x2, x3, x4, x5, x6, x7, x8, x9, x10, x11, x12, x13, x14, x15, x16, x17, (.int p2), x19, x20, x21, x22, x23] (.int (0 : Int32)) := Arv.set Ar_o1 q_o1 S_o1 N_o1 H_o1 G_o1 rfl W2 18 rfl (Nat.le_of_ble_eq_true rfl)
  have N2 := Fr.snoc X2 N0 g_a0
  refine ogo st2 ?_
  show OWay p e below G T2 (mkF m 4 #[.val (.ref a0), .val (.int (18 : Int32)), .val (.int p2), .val (.int p3)] [])
  refine ogo (fun _ z_ => XS.aloadN X2.here hx rfl (hb hby d1_4) rfl rfl z_) ?_
  show OWay p e below G T2 (mkF m 5 #[.val (.ref a0), .val (.int (18 : Int32)), .val (.int p2), .val (.int p3)] [(.ref a0)])
  refine ogo (fun _ z_ => XS.iloadN X2.here hx rfl (hb hby d1_5) rfl z_) ?_
  show OWay p e below G T2 (mkF m 6 #[.val (.ref a0), .val (.int (18 : Int32)), .val (.int p2), .val (.int p3)] [(.int (18 : Int32)), (.ref a0)])
  refine ogo (fun _ z_ => XS.iconst X2.here hx rfl (hb hby d1_6) z_) ?_
  show OWay p e below G T2 (mkF m 7 #[.val (.ref a0), .val (.int (18 : Int32)), .val (.int p2), .val (.int p3)] [(.int (1 : Int32)), (.int (18 : Int32)), (.ref a0)])
  refine ogo (fun _ z_ => XS.iadd X2.here hx rfl (hb hby d1_7) rfl z_) ?_
  show OWay p e below G T2 (mkF m 8 #[.val (.ref a0), .val (.int (18 : Int32)), .val (.int p2), .val (.int p3)] [(.int ((18 : Int32) + (1 : Int32))), (.ref a0)])
  refine ogoE (g' := (mkF m 8 #[.val (.ref a0), .val (.int (18 : Int32)), .val (.int p2), .val (.int p3)] [(.int (19 : Int32)), (.ref a0)])) (by rw [show ((18 : Int32) + (1 : Int32)) = (19 : Int32) from by decide]) ?_
  refine ogo (fun _ z_ => XS.iloadN X2.here hx rfl (hb hby d1_8) rfl z_) ?_
  show OWay p e below G T2 (mkF m 9 #[.val (.ref a0), .val (.int (18 : Int32)), .val (.int p2), .val (.int p3)] [(.int p3), (.int (19 : Int32)), (.ref a0)])
  obtain ⟨cl_o4, Ar_o4, q_o4, S_o4, N_o4, H_o4, G_o4⟩ := id V_2
  have hin_o4 : ¬ ((19 : Int32) < 0 ∨ cl_o4.slots.size ≤ ((19 : Int32)).toNatClampNeg) := inb_of S_o4 ⟨by decide, by decide⟩
  obtain ⟨T5, h5, X5, eT5, W5, st5⟩ := stI X2 hx hZ eT2 Ar_o4 (j := (19 : Int32)) hin_o4 (g := (mkF m 9 #[.val (.ref a0), .val (.int (18 : Int32)), .val (.int p2), .val (.int p3)] [(.int p3), (.int (19 : Int32)), (.ref a0)])) rfl rfl (hb hby d1_9)
  have K6 : Keep h0 h5 [a0] := K3.wr W5 (Or.inl (List.mem_of_getElem? (i := 0) rfl))
  have V_5 : Arv Z h5 a0 kk .int (24 : Int32) [x0, x1, x2, x3, x4, x5, x6, x7, x8, x9, x10, x11, x12, x13, x14, x15, x16, x17, (.int p2), (.int p3), x20, x21, x22, x23] (.int (0 : Int32)) := Arv.set Ar_o4 q_o4 S_o4 N_o4 H_o4 G_o4 rfl W5 19 rfl (Nat.le_of_ble_eq_true rfl)
  have N5 := Fr.snoc X5 N2 g_a0
  refine ogo st5 ?_
  show OWay p e below G T5 (mkF m 10 #[.val (.ref a0), .val (.int (18 : Int32)), .val (.int p2), .val (.int p3)] [])
  refine ogo (fun _ z_ => XS.aloadN X5.here hx rfl (hb hby d1_10) rfl rfl z_) ?_
  show OWay p e below G T5 (mkF m 11 #[.val (.ref a0), .val (.int (18 : Int32)), .val (.int p2), .val (.int p3)] [(.ref a0)])
  refine ogo (fun _ z_ => XS.iloadN X5.here hx rfl (hb hby d1_11) rfl z_) ?_
  show OWay p e below G T5 (mkF m 12 #[.val (.ref a0), .val (.int (18 : Int32)), .val (.int p2), .val (.int p3)] [(.int (18 : Int32)), (.ref a0)])
  refine ogo (fun _ z_ => XS.iconst X5.here hx rfl (hb hby d1_12) z_) ?_
  show OWay p e below G T5 (mkF m 13 #[.val (.ref a0), .val (.int (18 : Int32)), .val (.int p2), .val (.int p3)] [(.int (2 : Int32)), (.int (18 : Int32)), (.ref a0)])
  refine ogo (fun _ z_ => XS.iadd X5.here hx rfl (hb hby d1_13) rfl z_) ?_
  show OWay p e below G T5 (mkF m 14 #[.val (.ref a0), .val (.int (18 : Int32)), .val (.int p2), .val (.int p3)] [(.int ((18 : Int32) + (2 : Int32))), (.ref a0)])
  refine ogoE (g' := (mkF m 14 #[.val (.ref a0), .val (.int (18 : Int32)), .val (.int p2), .val (.int p3)] [(.int (20 : Int32)), (.ref a0)])) (by rw [show ((18 : Int32) + (2 : Int32)) = (20 : Int32) from by decide]) ?_
  refine ogo (fun _ z_ => XS.iloadN X5.here hx rfl (hb hby d1_14) rfl z_) ?_
  show OWay p e below G T5 (mkF m 15 #[.val (.ref a0), .val (.int (18 : Int32)), .val (.int p2), .val (.int p3)] [(.int p3), (.int (20 : Int32)), (.ref a0)])
  obtain ⟨cl_o7, Ar_o7, q_o7, S_o7, N_o7, H_o7, G_o7⟩ := id V_5
  have hin_o7 : ¬ ((20 : Int32) < 0 ∨ cl_o7.slots.size ≤ ((20 : Int32)).toNatClampNeg) := inb_of S_o7 ⟨by decide, by decide⟩
  obtain ⟨T8, h8, X8, eT8, W8, st8⟩ := stI X5 hx hZ eT5 Ar_o7 (j := (20 : Int32)) hin_o7 (g := (mkF m 15 #[.val (.ref a0), .val (.int (18 : Int32)), .val (.int p2), .val (.int p3)] [(.int p3), (.int (20 : Int32)), (.ref a0)])) rfl rfl (hb hby d1_15)
  have K9 : Keep h0 h8 [a0] := K6.wr W8 (Or.inl (List.mem_of_getElem? (i := 0) rfl))
  have V_8 : Arv Z h8 a0 kk .int (24 : Int32) [x0, x1, x2, x3, x4, x5, x6, x7, x8, x9, x10, x11, x12, x13, x14, x15, x16, x17, (.int p2), (.int p3), (.int p3), x21, x22, x23] (.int (0 : Int32)) := Arv.set Ar_o7 q_o7 S_o7 N_o7 H_o7 G_o7 rfl W8 20 rfl (Nat.le_of_ble_eq_true rfl)
  have N8 := Fr.snoc X8 N5 g_a0
  refine ogo st8 ?_
  show OWay p e below G T8 (mkF m 16 #[.val (.ref a0), .val (.int (18 : Int32)), .val (.int p2), .val (.int p3)] [])
  refine ogo (fun _ z_ => XS.aloadN X8.here hx rfl (hb hby d1_16) rfl rfl z_) ?_
  show OWay p e below G T8 (mkF m 17 #[.val (.ref a0), .val (.int (18 : Int32)), .val (.int p2), .val (.int p3)] [(.ref a0)])
  refine ogo (fun _ z_ => XS.iloadN X8.here hx rfl (hb hby d1_17) rfl z_) ?_
  show OWay p e below G T8 (mkF m 18 #[.val (.ref a0), .val (.int (18 : Int32)), .val (.int p2), .val (.int p3)] [(.int (18 : Int32)), (.ref a0)])
  refine ogo (fun _ z_ => XS.iconst X8.here hx rfl (hb hby d1_18) z_) ?_
  show OWay p e below G T8 (mkF m 19 #[.val (.ref a0), .val (.int (18 : Int32)), .val (.int p2), .val (.int p3)] [(.int (3 : Int32)), (.int (18 : Int32)), (.ref a0)])
  refine ogo (fun _ z_ => XS.iadd X8.here hx rfl (hb hby d1_19) rfl z_) ?_
  show OWay p e below G T8 (mkF m 20 #[.val (.ref a0), .val (.int (18 : Int32)), .val (.int p2), .val (.int p3)] [(.int ((18 : Int32) + (3 : Int32))), (.ref a0)])
  refine ogoE (g' := (mkF m 20 #[.val (.ref a0), .val (.int (18 : Int32)), .val (.int p2), .val (.int p3)] [(.int (21 : Int32)), (.ref a0)])) (by rw [show ((18 : Int32) + (3 : Int32)) = (21 : Int32) from by decide]) ?_
  refine ogo (fun _ z_ => XS.iloadN X8.here hx rfl (hb hby d1_20) rfl z_) ?_
  show OWay p e below G T8 (mkF m 21 #[.val (.ref a0), .val (.int (18 : Int32)), .val (.int p2), .val (.int p3)] [(.int p3), (.int (21 : Int32)), (.ref a0)])
  obtain ⟨cl_o10, Ar_o10, q_o10, S_o10, N_o10, H_o10, G_o10⟩ := id V_8
  have hin_o10 : ¬ ((21 : Int32) < 0 ∨ cl_o10.slots.size ≤ ((21 : Int32)).toNatClampNeg) := inb_of S_o10 ⟨by decide, by decide⟩
  obtain ⟨T11, h11, X11, eT11, W11, st11⟩ := stI X8 hx hZ eT8 Ar_o10 (j := (21 : Int32)) hin_o10 (g := (mkF m 21 #[.val (.ref a0), .val (.int (18 : Int32)), .val (.int p2), .val (.int p3)] [(.int p3), (.int (21 : Int32)), (.ref a0)])) rfl rfl (hb hby d1_21)
  have K12 : Keep h0 h11 [a0] := K9.wr W11 (Or.inl (List.mem_of_getElem? (i := 0) rfl))
  have V_11 : Arv Z h11 a0 kk .int (24 : Int32) [x0, x1, x2, x3, x4, x5, x6, x7, x8, x9, x10, x11, x12, x13, x14, x15, x16, x17, (.int p2), (.int p3), (.int p3), (.int p3), x22, x23] (.int (0 : Int32)) := Arv.set Ar_o10 q_o10 S_o10 N_o10 H_o10 G_o10 rfl W11 21 rfl (Nat.le_of_ble_eq_true rfl)
  have N11 := Fr.snoc X11 N8 g_a0
  refine ogo st11 ?_
  show OWay p e below G T11 (mkF m 22 #[.val (.ref a0), .val (.int (18 : Int32)), .val (.int p2), .val (.int p3)] [])
  refine ogo (fun _ z_ => XS.aloadN X11.here hx rfl (hb hby d1_22) rfl rfl z_) ?_
  show OWay p e below G T11 (mkF m 23 #[.val (.ref a0), .val (.int (18 : Int32)), .val (.int p2), .val (.int p3)] [(.ref a0)])
  refine ogo (fun _ z_ => XS.iloadN X11.here hx rfl (hb hby d1_23) rfl z_) ?_
  show OWay p e below G T11 (mkF m 24 #[.val (.ref a0), .val (.int (18 : Int32)), .val (.int p2), .val (.int p3)] [(.int (18 : Int32)), (.ref a0)])
  refine ogo (fun _ z_ => XS.iconst X11.here hx rfl (hb hby d1_24) z_) ?_
  show OWay p e below G T11 (mkF m 25 #[.val (.ref a0), .val (.int (18 : Int32)), .val (.int p2), .val (.int p3)] [(.int (4 : Int32)), (.int (18 : Int32)), (.ref a0)])
  refine ogo (fun _ z_ => XS.iadd X11.here hx rfl (hb hby d1_25) rfl z_) ?_
  show OWay p e below G T11 (mkF m 26 #[.val (.ref a0), .val (.int (18 : Int32)), .val (.int p2), .val (.int p3)] [(.int ((18 : Int32) + (4 : Int32))), (.ref a0)])
  refine ogoE (g' := (mkF m 26 #[.val (.ref a0), .val (.int (18 : Int32)), .val (.int p2), .val (.int p3)] [(.int (22 : Int32)), (.ref a0)])) (by rw [show ((18 : Int32) + (4 : Int32)) = (22 : Int32) from by decide]) ?_
  refine ogo (fun _ z_ => XS.iloadN X11.here hx rfl (hb hby d1_26) rfl z_) ?_
  show OWay p e below G T11 (mkF m 27 #[.val (.ref a0), .val (.int (18 : Int32)), .val (.int p2), .val (.int p3)] [(.int p3), (.int (22 : Int32)), (.ref a0)])
  obtain ⟨cl_o13, Ar_o13, q_o13, S_o13, N_o13, H_o13, G_o13⟩ := id V_11
  have hin_o13 : ¬ ((22 : Int32) < 0 ∨ cl_o13.slots.size ≤ ((22 : Int32)).toNatClampNeg) := inb_of S_o13 ⟨by decide, by decide⟩
  obtain ⟨T14, h14, X14, eT14, W14, st14⟩ := stI X11 hx hZ eT11 Ar_o13 (j := (22 : Int32)) hin_o13 (g := (mkF m 27 #[.val (.ref a0), .val (.int (18 : Int32)), .val (.int p2), .val (.int p3)] [(.int p3), (.int (22 : Int32)), (.ref a0)])) rfl rfl (hb hby d1_27)
  have K15 : Keep h0 h14 [a0] := K12.wr W14 (Or.inl (List.mem_of_getElem? (i := 0) rfl))
  have V_14 : Arv Z h14 a0 kk .int (24 : Int32) [x0, x1, x2, x3, x4, x5, x6, x7, x8, x9, x10, x11, x12, x13, x14, x15, x16, x17, (.int p2), (.int p3), (.int p3), (.int p3), (.int p3), x23] (.int (0 : Int32)) := Arv.set Ar_o13 q_o13 S_o13 N_o13 H_o13 G_o13 rfl W14 22 rfl (Nat.le_of_ble_eq_true rfl)
  have N14 := Fr.snoc X14 N11 g_a0
  refine ogo st14 ?_
  show OWay p e below G T14 (mkF m 28 #[.val (.ref a0), .val (.int (18 : Int32)), .val (.int p2), .val (.int p3)] [])
  refine ogo (fun _ z_ => XS.aloadN X14.here hx rfl (hb hby d1_28) rfl rfl z_) ?_
  show OWay p e below G T14 (mkF m 29 #[.val (.ref a0), .val (.int (18 : Int32)), .val (.int p2), .val (.int p3)] [(.ref a0)])
  refine ogo (fun _ z_ => XS.iloadN X14.here hx rfl (hb hby d1_29) rfl z_) ?_
  show OWay p e below G T14 (mkF m 30 #[.val (.ref a0), .val (.int (18 : Int32)), .val (.int p2), .val (.int p3)] [(.int (18 : Int32)), (.ref a0)])
  refine ogo (fun _ z_ => XS.iconst X14.here hx rfl (hb hby d1_30) z_) ?_
  show OWay p e below G T14 (mkF m 31 #[.val (.ref a0), .val (.int (18 : Int32)), .val (.int p2), .val (.int p3)] [(.int (5 : Int32)), (.int (18 : Int32)), (.ref a0)])
  refine ogo (fun _ z_ => XS.iadd X14.here hx rfl (hb hby d1_31) rfl z_) ?_
  show OWay p e below G T14 (mkF m 32 #[.val (.ref a0), .val (.int (18 : Int32)), .val (.int p2), .val (.int p3)] [(.int ((18 : Int32) + (5 : Int32))), (.ref a0)])
  refine ogoE (g' := (mkF m 32 #[.val (.ref a0), .val (.int (18 : Int32)), .val (.int p2), .val (.int p3)] [(.int (23 : Int32)), (.ref a0)])) (by rw [show ((18 : Int32) + (5 : Int32)) = (23 : Int32) from by decide]) ?_
  refine ogo (fun _ z_ => XS.iloadN X14.here hx rfl (hb hby d1_32) rfl z_) ?_
  show OWay p e below G T14 (mkF m 33 #[.val (.ref a0), .val (.int (18 : Int32)), .val (.int p2), .val (.int p3)] [(.int p3), (.int (23 : Int32)), (.ref a0)])
  obtain ⟨cl_o16, Ar_o16, q_o16, S_o16, N_o16, H_o16, G_o16⟩ := id V_14
  have hin_o16 : ¬ ((23 : Int32) < 0 ∨ cl_o16.slots.size ≤ ((23 : Int32)).toNatClampNeg) := inb_of S_o16 ⟨by decide, by decide⟩
  obtain ⟨T17, h17, X17, eT17, W17, st17⟩ := stI X14 hx hZ eT14 Ar_o16 (j := (23 : Int32)) hin_o16 (g := (mkF m 33 #[.val (.ref a0), .val (.int (18 : Int32)), .val (.int p2), .val (.int p3)] [(.int p3), (.int (23 : Int32)), (.ref a0)])) rfl rfl (hb hby d1_33)
  have K18 : Keep h0 h17 [a0] := K15.wr W17 (Or.inl (List.mem_of_getElem? (i := 0) rfl))
  have V_17 : Arv Z h17 a0 kk .int (24 : Int32) [x0, x1, x2, x3, x4, x5, x6, x7, x8, x9, x10, x11, x12, x13, x14, x15, x16, x17, (.int p2), (.int p3), (.int p3), (.int p3), (.int p3), (.int p3)] (.int (0 : Int32)) := Arv.set Ar_o16 q_o16 S_o16 N_o16 H_o16 G_o16 rfl W17 23 rfl (Nat.le_of_ble_eq_true rfl)
  have N17 := Fr.snoc X17 N14 g_a0
  refine ogo st17 ?_
  show OWay p e below G T17 (mkF m 34 #[.val (.ref a0), .val (.int (18 : Int32)), .val (.int p2), .val (.int p3)] [])
  subst hG
  refine wRetV X17 hx hret hlk (hb hby d1_34) (by decide) (by decide) eT17 ?_
  exact ⟨rfl, N17, K18, V_17⟩
theorem pn_com_example_geotide_geotide_Members : plainName "com/example/geotide/geotide/Members" = true := by first | (simp [plainName, overriddenIn]; done) | decide +kernel
theorem d2_0 : decode prog_44_method_7_code 0 = .ok (.iconst 0, 1) := by decide +kernel
theorem d2_1 : decode prog_44_method_7_code 1 = .ok (.istore_n 3, 1) := by decide +kernel
theorem d2_2 : decode prog_44_method_7_code 2 = .ok (.iload_n 3, 1) := by decide +kernel
theorem d2_3 : decode prog_44_method_7_code 3 = .ok (.iload_n 1, 1) := by decide +kernel
theorem d2_4 : decode prog_44_method_7_code 4 = .ok (.if_icmp .gt 20, 3) := by decide +kernel
theorem d2_24 : decode prog_44_method_7_code 24 = .ok (.iconst (-1), 1) := by decide +kernel
theorem d2_25 : decode prog_44_method_7_code 25 = .ok (.ireturn, 1) := by decide +kernel
def findm6_rm : Room := { frames := 0, cells := 0, slots := 0, locals := 0 }
def findm6_Q (Z : State) (a0 : Addr) (p2 : Int32) (kk : ClassId) (x0 : Value) (x1 : Value) (x2 : Value) (x3 : Value) (x4 : Value) (x5 : Value) (x6 : Value) (x7 : Value) (x8 : Value) (x9 : Value) (x10 : Value) (x11 : Value) (x12 : Value) (x13 : Value) (x14 : Value) (x15 : Value) (x16 : Value) (x17 : Value) (x18 : Value) (x19 : Value) (x20 : Value) (x21 : Value) (x22 : Value) (x23 : Value) (h0 : Heap) (n0 : Nat) (v : Option Value) (h : Heap) (L : List Loc) : Prop := (v = some (.int (-1 : Int32))) ∧ (Fr n0 L) ∧ (h = h0)
theorem findm6_ef (m : MethodId) (a0 : Addr) (p2 : Int32) : entryFrame m #[(.ref a0), (.int (-6 : Int32)), (.int p2)] 4 = mkF m 0 #[.val (.ref a0), .val (.int (-6 : Int32)), .val (.int p2), .unset] [] := by first | (simp [entryFrame, mkF, argsToLocals, Value.category]; done) | rfl
set_option maxRecDepth 65536 in
set_option maxHeartbeats 40000000 in
theorem findm6_c (l : Launch) (Z : State) (az : Array Value) (hw : ∀ d ∈ tables_1, d.before az Z = true) (ws : List Jvm.Cond) (a0 : Addr) (p2 : Int32) (kk : ClassId) (x0 : Value) (x1 : Value) (x2 : Value) (x3 : Value) (x4 : Value) (x5 : Value) (x6 : Value) (x7 : Value) (x8 : Value) (x9 : Value) (x10 : Value) (x11 : Value) (x12 : Value) (x13 : Value) (x14 : Value) (x15 : Value) (x16 : Value) (x17 : Value) (x18 : Value) (x19 : Value) (x20 : Value) (x21 : Value) (x22 : Value) (x23 : Value) (h0 : Heap) (n0 : Nat) (Z0 : n0 ≤ h0.size) (hp0 : Arv Z h0 a0 kk .int (24 : Int32) [x0, x1, x2, x3, x4, x5, x6, x7, x8, x9, x10, x11, x12, x13, x14, x15, x16, x17, x18, x19, x20, x21, x22, x23] (.int (0 : Int32))) :
    OCon l (⟨"com/example/geotide/geotide/Members", "find", "([III)I"⟩ : MethodName) prog_44_method_7_code 4 (some .int) ws findm6_rm Z #[(.ref a0), (.int (-6 : Int32)), (.int p2)] h0 (findm6_Q Z a0 p2 kk x0 x1 x2 x3 x4 x5 x6 x7 x8 x9 x10 x11 x12 x13 x14 x15 x16 x17 x18 x19 x20 x21 x22 x23 h0 n0) := by
  refine ocon (plainFor_of_name pn_com_example_geotide_geotide_Members) ?_
  intro p e s m below meth c s₁ hx hby hml hown hnm hret hlk hZ X0 eh0
  have N0 := Fr.nil n0
  have K0 := Keep.refl h0 []
  refine ogoE (findm6_ef m a0 p2) ?_
  generalize hG : (OEnd s below (findm6_Q Z a0 p2 kk x0 x1 x2 x3 x4 x5 x6 x7 x8 x9 x10 x11 x12 x13 x14 x15 x16 x17 x18 x19 x20 x21 x22 x23 h0 n0) findm6_rm.cells findm6_rm.slots) = G
  show OWay p e below G s₁ (mkF m 0 #[.val (.ref a0), .val (.int (-6 : Int32)), .val (.int p2), .unset] [])
  refine ogo (fun _ z_ => XS.iconst X0.here hx rfl (hb hby d2_0) z_) ?_
  show OWay p e below G s₁ (mkF m 1 #[.val (.ref a0), .val (.int (-6 : Int32)), .val (.int p2), .unset] [(.int (0 : Int32))])
  refine ogo (fun _ z_ => XS.istoreN X0.here hx rfl (hb hby d2_1) rfl (l' := #[.val (.ref a0), .val (.int (-6 : Int32)), .val (.int p2), .val (.int (0 : Int32))]) rfl z_) ?_
  show OWay p e below G s₁ (mkF m 2 #[.val (.ref a0), .val (.int (-6 : Int32)), .val (.int p2), .val (.int (0 : Int32))] [])
  refine ogo (fun _ z_ => XS.iloadN X0.here hx rfl (hb hby d2_2) rfl z_) ?_
  show OWay p e below G s₁ (mkF m 3 #[.val (.ref a0), .val (.int (-6 : Int32)), .val (.int p2), .val (.int (0 : Int32))] [(.int (0 : Int32))])
  refine ogo (fun _ z_ => XS.iloadN X0.here hx rfl (hb hby d2_3) rfl z_) ?_
  show OWay p e below G s₁ (mkF m 4 #[.val (.ref a0), .val (.int (-6 : Int32)), .val (.int p2), .val (.int (0 : Int32))] [(.int (-6 : Int32)), (.int (0 : Int32))])
  refine ogo (fun _ z_ => XS.icmpYes X0.here hx rfl (pc0 := 4) (pc' := 24) rfl (hb hby d2_4) rfl (tlt (by decide)).2.2.1 (by decide) (by decide) z_) ?_
  show OWay p e below G s₁ (mkF m 24 #[.val (.ref a0), .val (.int (-6 : Int32)), .val (.int p2), .val (.int (0 : Int32))] [])
  refine ogo (fun _ z_ => XS.iconst X0.here hx rfl (hb hby d2_24) z_) ?_
  show OWay p e below G s₁ (mkF m 25 #[.val (.ref a0), .val (.int (-6 : Int32)), .val (.int p2), .val (.int (0 : Int32))] [(.int (-1 : Int32))])
  subst hG
  refine wRet X0 hx hret hlk rfl (Or.inl ⟨rfl, Or.inl rfl, _, rfl⟩) (hb hby d2_25) (by decide) (by decide) eh0 ?_
  exact ⟨(congrArg some (congrArg Value.int (show (-1 : Int32) = (-1 : Int32) from rfl.symm))), N0, rfl⟩
theorem d2_7 : decode prog_44_method_7_code 7 = .ok (.aload_n 0, 1) := by decide +kernel
theorem d2_8 : decode prog_44_method_7_code 8 = .ok (.iload_n 3, 1) := by decide +kernel
theorem d2_9 : decode prog_44_method_7_code 9 = .ok (.iconst 0, 1) := by decide +kernel
theorem d2_10 : decode prog_44_method_7_code 10 = .ok (.iadd, 1) := by decide +kernel
theorem d2_11 : decode prog_44_method_7_code 11 = .ok (.iaload, 1) := by decide +kernel
theorem d2_12 : decode prog_44_method_7_code 12 = .ok (.iload_n 2, 1) := by decide +kernel
theorem d2_13 : decode prog_44_method_7_code 13 = .ok (.if_icmp .ne 5, 3) := by decide +kernel
theorem d2_16 : decode prog_44_method_7_code 16 = .ok (.iload_n 3, 1) := by decide +kernel
theorem d2_17 : decode prog_44_method_7_code 17 = .ok (.ireturn, 1) := by decide +kernel
theorem d2_18 : decode prog_44_method_7_code 18 = .ok (.iinc 3 6, 3) := by decide +kernel
theorem d2_21 : decode prog_44_method_7_code 21 = .ok (.goto (-19), 3) := by decide +kernel
def find0_rm : Room := { frames := 0, cells := 0, slots := 0, locals := 0 }
def find0_Q (Z : State) (a0 : Addr) (p2 : Int32) (kk : ClassId) (y0 : Int32) (x1 : Value) (x2 : Value) (x3 : Value) (x4 : Value) (x5 : Value) (x6 : Value) (x7 : Value) (x8 : Value) (x9 : Value) (x10 : Value) (x11 : Value) (x12 : Value) (x13 : Value) (x14 : Value) (x15 : Value) (x16 : Value) (x17 : Value) (x18 : Value) (x19 : Value) (x20 : Value) (x21 : Value) (x22 : Value) (x23 : Value) (h0 : Heap) (n0 : Nat) (v : Option Value) (h : Heap) (L : List Loc) : Prop := (v = some (.int (if y0 = p2 then (0 : Int32) else (-1 : Int32)))) ∧ (Fr n0 L) ∧ (h = h0)
theorem find0_ef (m : MethodId) (a0 : Addr) (p2 : Int32) : entryFrame m #[(.ref a0), (.int (0 : Int32)), (.int p2)] 4 = mkF m 0 #[.val (.ref a0), .val (.int (0 : Int32)), .val (.int p2), .unset] [] := by first | (simp [entryFrame, mkF, argsToLocals, Value.category]; done) | rfl
set_option maxRecDepth 65536 in
set_option maxHeartbeats 40000000 in
theorem find0_c (l : Launch) (Z : State) (az : Array Value) (hw : ∀ d ∈ tables_1, d.before az Z = true) (ws : List Jvm.Cond) (a0 : Addr) (p2 : Int32) (kk : ClassId) (y0 : Int32) (x1 : Value) (x2 : Value) (x3 : Value) (x4 : Value) (x5 : Value) (x6 : Value) (x7 : Value) (x8 : Value) (x9 : Value) (x10 : Value) (x11 : Value) (x12 : Value) (x13 : Value) (x14 : Value) (x15 : Value) (x16 : Value) (x17 : Value) (x18 : Value) (x19 : Value) (x20 : Value) (x21 : Value) (x22 : Value) (x23 : Value) (h0 : Heap) (n0 : Nat) (Z0 : n0 ≤ h0.size) (hp0 : Arv Z h0 a0 kk .int (24 : Int32) [(.int y0), x1, x2, x3, x4, x5, x6, x7, x8, x9, x10, x11, x12, x13, x14, x15, x16, x17, x18, x19, x20, x21, x22, x23] (.int (0 : Int32))) :
    OCon l (⟨"com/example/geotide/geotide/Members", "find", "([III)I"⟩ : MethodName) prog_44_method_7_code 4 (some .int) ws find0_rm Z #[(.ref a0), (.int (0 : Int32)), (.int p2)] h0 (find0_Q Z a0 p2 kk y0 x1 x2 x3 x4 x5 x6 x7 x8 x9 x10 x11 x12 x13 x14 x15 x16 x17 x18 x19 x20 x21 x22 x23 h0 n0) := by
  refine ocon (plainFor_of_name pn_com_example_geotide_geotide_Members) ?_
  intro p e s m below meth c s₁ hx hby hml hown hnm hret hlk hZ X0 eh0
  have N0 := Fr.nil n0
  have K0 := Keep.refl h0 []
  refine ogoE (find0_ef m a0 p2) ?_
  generalize hG : (OEnd s below (find0_Q Z a0 p2 kk y0 x1 x2 x3 x4 x5 x6 x7 x8 x9 x10 x11 x12 x13 x14 x15 x16 x17 x18 x19 x20 x21 x22 x23 h0 n0) find0_rm.cells find0_rm.slots) = G
  show OWay p e below G s₁ (mkF m 0 #[.val (.ref a0), .val (.int (0 : Int32)), .val (.int p2), .unset] [])
  refine ogo (fun _ z_ => XS.iconst X0.here hx rfl (hb hby d2_0) z_) ?_
  show OWay p e below G s₁ (mkF m 1 #[.val (.ref a0), .val (.int (0 : Int32)), .val (.int p2), .unset] [(.int (0 : Int32))])
  refine ogo (fun _ z_ => XS.istoreN X0.here hx rfl (hb hby d2_1) rfl (l' := #[.val (.ref a0), .val (.int (0 : Int32)), .val (.int p2), .val (.int (0 : Int32))]) rfl z_) ?_
  show OWay p e below G s₁ (mkF m 2 #[.val (.ref a0), .val (.int (0 : Int32)), .val (.int p2), .val (.int (0 : Int32))] [])
  refine ogo (fun _ z_ => XS.iloadN X0.here hx rfl (hb hby d2_2) rfl z_) ?_
  show OWay p e below G s₁ (mkF m 3 #[.val (.ref a0), .val (.int (0 : Int32)), .val (.int p2), .val (.int (0 : Int32))] [(.int (0 : Int32))])
  refine ogo (fun _ z_ => XS.iloadN X0.here hx rfl (hb hby d2_3) rfl z_) ?_
  show OWay p e below G s₁ (mkF m 4 #[.val (.ref a0), .val (.int (0 : Int32)), .val (.int p2), .val (.int (0 : Int32))] [(.int (0 : Int32)), (.int (0 : Int32))])
  refine ogo (fun _ z_ => XS.icmpNo X0.here hx rfl (hb hby d2_4) rfl (flt (by decide)).2.2.1 z_) ?_
  show OWay p e below G s₁ (mkF m 7 #[.val (.ref a0), .val (.int (0 : Int32)), .val (.int p2), .val (.int (0 : Int32))] [])
  refine ogo (fun _ z_ => XS.aloadN X0.here hx rfl (hb hby d2_7) rfl rfl z_) ?_
  show OWay p e below G s₁ (mkF m 8 #[.val (.ref a0), .val (.int (0 : Int32)), .val (.int p2), .val (.int (0 : Int32))] [(.ref a0)])
  refine ogo (fun _ z_ => XS.iloadN X0.here hx rfl (hb hby d2_8) rfl z_) ?_
  show OWay p e below G s₁ (mkF m 9 #[.val (.ref a0), .val (.int (0 : Int32)), .val (.int p2), .val (.int (0 : Int32))] [(.int (0 : Int32)), (.ref a0)])
  refine ogo (fun _ z_ => XS.iconst X0.here hx rfl (hb hby d2_9) z_) ?_
  show OWay p e below G s₁ (mkF m 10 #[.val (.ref a0), .val (.int (0 : Int32)), .val (.int p2), .val (.int (0 : Int32))] [(.int (0 : Int32)), (.int (0 : Int32)), (.ref a0)])
  refine ogo (fun _ z_ => XS.iadd X0.here hx rfl (hb hby d2_10) rfl z_) ?_
  show OWay p e below G s₁ (mkF m 11 #[.val (.ref a0), .val (.int (0 : Int32)), .val (.int p2), .val (.int (0 : Int32))] [(.int ((0 : Int32) + (0 : Int32))), (.ref a0)])
  refine ogoE (g' := (mkF m 11 #[.val (.ref a0), .val (.int (0 : Int32)), .val (.int p2), .val (.int (0 : Int32))] [(.int (0 : Int32)), (.ref a0)])) (by rw [show ((0 : Int32) + (0 : Int32)) = (0 : Int32) from by decide]) ?_
  obtain ⟨cl_o1, Ar_o1, q_o1, S_o1, N_o1, H_o1, G_o1⟩ := id hp0
  have hin_o1 : ¬ ((0 : Int32) < 0 ∨ cl_o1.slots.size ≤ ((0 : Int32)).toNatClampNeg) := inb_of S_o1 ⟨by decide, by decide⟩
  have hat_o1 : cl_o1.slots[((0 : Int32)).toNatClampNeg]? = some (.int y0) := H_o1.at hin_o1 rfl
  refine ogo (fun _ z_ => X0.iaload hx (j := (0 : Int32)) (v := (.int y0)) (by rw [eh0]; exact Ar_o1.1) (State.isArrayOf_alike hZ.alike Ar_o1.2.1) Ar_o1.2.2 hin_o1 hat_o1 (g := (mkF m 11 #[.val (.ref a0), .val (.int (0 : Int32)), .val (.int p2), .val (.int (0 : Int32))] [(.int (0 : Int32)), (.ref a0)])) rfl rfl (hb hby d2_11) _ z_) ?_
  show OWay p e below G s₁ (mkF m 12 #[.val (.ref a0), .val (.int (0 : Int32)), .val (.int p2), .val (.int (0 : Int32))] [(.int y0)])
  refine ogo (fun _ z_ => XS.iloadN X0.here hx rfl (hb hby d2_12) rfl z_) ?_
  show OWay p e below G s₁ (mkF m 13 #[.val (.ref a0), .val (.int (0 : Int32)), .val (.int p2), .val (.int (0 : Int32))] [(.int p2), (.int y0)])
  by_cases c13 : y0 = p2
  · refine ogo (fun _ z_ => XS.icmpNo X0.here hx rfl (hb hby d2_13) rfl (teq c13).2 z_) ?_
    show OWay p e below G s₁ (mkF m 16 #[.val (.ref a0), .val (.int (0 : Int32)), .val (.int p2), .val (.int (0 : Int32))] [])
    refine ogo (fun _ z_ => XS.iloadN X0.here hx rfl (hb hby d2_16) rfl z_) ?_
    show OWay p e below G s₁ (mkF m 17 #[.val (.ref a0), .val (.int (0 : Int32)), .val (.int p2), .val (.int (0 : Int32))] [(.int (0 : Int32))])
    subst hG
    refine wRet X0 hx hret hlk rfl (Or.inl ⟨rfl, Or.inl rfl, _, rfl⟩) (hb hby d2_17) (by decide) (by decide) eh0 ?_
    exact ⟨(congrArg some (congrArg Value.int (show (0 : Int32) = (if y0 = p2 then (0 : Int32) else (-1 : Int32)) from ((if_pos c13).trans rfl).symm))), N0, rfl⟩
  · refine ogo (fun _ z_ => XS.icmpYes X0.here hx rfl (pc0 := 13) (pc' := 18) rfl (hb hby d2_13) rfl (feq c13).2 (by decide) (by decide) z_) ?_
    show OWay p e below G s₁ (mkF m 18 #[.val (.ref a0), .val (.int (0 : Int32)), .val (.int p2), .val (.int (0 : Int32))] [])
    refine ogo (fun _ z_ => XS.iinc X0.here hx rfl (hb hby d2_18) rfl (l' := #[.val (.ref a0), .val (.int (0 : Int32)), .val (.int p2), .val (.int ((0 : Int32) + (6 : Int32)))]) rfl z_) ?_
    show OWay p e below G s₁ (mkF m 21 #[.val (.ref a0), .val (.int (0 : Int32)), .val (.int p2), .val (.int ((0 : Int32) + (6 : Int32)))] [])
    refine ogoE (g' := (mkF m 21 #[.val (.ref a0), .val (.int (0 : Int32)), .val (.int p2), .val (.int (6 : Int32))] [])) (by rw [show ((0 : Int32) + (6 : Int32)) = (6 : Int32) from by decide]) ?_
    refine ogo (fun _ z_ => XS.goto X0.here hx rfl (pc0 := 21) (pc' := 2) rfl (hb hby d2_21) (by decide) (by decide) z_) ?_
    show OWay p e below G s₁ (mkF m 2 #[.val (.ref a0), .val (.int (0 : Int32)), .val (.int p2), .val (.int (6 : Int32))] [])
    refine ogo (fun _ z_ => XS.iloadN X0.here hx rfl (hb hby d2_2) rfl z_) ?_
    show OWay p e below G s₁ (mkF m 3 #[.val (.ref a0), .val (.int (0 : Int32)), .val (.int p2), .val (.int (6 : Int32))] [(.int (6 : Int32))])
    refine ogo (fun _ z_ => XS.iloadN X0.here hx rfl (hb hby d2_3) rfl z_) ?_
    show OWay p e below G s₁ (mkF m 4 #[.val (.ref a0), .val (.int (0 : Int32)), .val (.int p2), .val (.int (6 : Int32))] [(.int (0 : Int32)), (.int (6 : Int32))])
    refine ogo (fun _ z_ => XS.icmpYes X0.here hx rfl (pc0 := 4) (pc' := 24) rfl (hb hby d2_4) rfl (tlt (by decide)).2.2.1 (by decide) (by decide) z_) ?_
    show OWay p e below G s₁ (mkF m 24 #[.val (.ref a0), .val (.int (0 : Int32)), .val (.int p2), .val (.int (6 : Int32))] [])
    refine ogo (fun _ z_ => XS.iconst X0.here hx rfl (hb hby d2_24) z_) ?_
    show OWay p e below G s₁ (mkF m 25 #[.val (.ref a0), .val (.int (0 : Int32)), .val (.int p2), .val (.int (6 : Int32))] [(.int (-1 : Int32))])
    subst hG
    refine wRet X0 hx hret hlk rfl (Or.inl ⟨rfl, Or.inl rfl, _, rfl⟩) (hb hby d2_25) (by decide) (by decide) eh0 ?_
    exact ⟨(congrArg some (congrArg Value.int (show (-1 : Int32) = (if y0 = p2 then (0 : Int32) else (-1 : Int32)) from ((if_neg c13).trans rfl).symm))), N0, rfl⟩
def find6_rm : Room := { frames := 0, cells := 0, slots := 0, locals := 0 }
def find6_Q (Z : State) (a0 : Addr) (p2 : Int32) (kk : ClassId) (y0 : Int32) (x1 : Value) (x2 : Value) (x3 : Value) (x4 : Value) (x5 : Value) (y6 : Int32) (x7 : Value) (x8 : Value) (x9 : Value) (x10 : Value) (x11 : Value) (x12 : Value) (x13 : Value) (x14 : Value) (x15 : Value) (x16 : Value) (x17 : Value) (x18 : Value) (x19 : Value) (x20 : Value) (x21 : Value) (x22 : Value) (x23 : Value) (h0 : Heap) (n0 : Nat) (v : Option Value) (h : Heap) (L : List Loc) : Prop := (v = some (.int (if y0 = p2 then (0 : Int32) else (if y6 = p2 then (6 : Int32) else (-1 : Int32))))) ∧ (Fr n0 L) ∧ (h = h0)
theorem find6_ef (m : MethodId) (a0 : Addr) (p2 : Int32) : entryFrame m #[(.ref a0), (.int (6 : Int32)), (.int p2)] 4 = mkF m 0 #[.val (.ref a0), .val (.int (6 : Int32)), .val (.int p2), .unset] [] := by first | (simp [entryFrame, mkF, argsToLocals, Value.category]; done) | rfl
set_option maxRecDepth 65536 in
set_option maxHeartbeats 40000000 in
theorem find6_c (l : Launch) (Z : State) (az : Array Value) (hw : ∀ d ∈ tables_1, d.before az Z = true) (ws : List Jvm.Cond) (a0 : Addr) (p2 : Int32) (kk : ClassId) (y0 : Int32) (x1 : Value) (x2 : Value) (x3 : Value) (x4 : Value) (x5 : Value) (y6 : Int32) (x7 : Value) (x8 : Value) (x9 : Value) (x10 : Value) (x11 : Value) (x12 : Value) (x13 : Value) (x14 : Value) (x15 : Value) (x16 : Value) (x17 : Value) (x18 : Value) (x19 : Value) (x20 : Value) (x21 : Value) (x22 : Value) (x23 : Value) (h0 : Heap) (n0 : Nat) (Z0 : n0 ≤ h0.size) (hp0 : Arv Z h0 a0 kk .int (24 : Int32) [(.int y0), x1, x2, x3, x4, x5, (.int y6), x7, x8, x9, x10, x11, x12, x13, x14, x15, x16, x17, x18, x19, x20, x21, x22, x23] (.int (0 : Int32))) :
    OCon l (⟨"com/example/geotide/geotide/Members", "find", "([III)I"⟩ : MethodName) prog_44_method_7_code 4 (some .int) ws find6_rm Z #[(.ref a0), (.int (6 : Int32)), (.int p2)] h0 (find6_Q Z a0 p2 kk y0 x1 x2 x3 x4 x5 y6 x7 x8 x9 x10 x11 x12 x13 x14 x15 x16 x17 x18 x19 x20 x21 x22 x23 h0 n0) := by
  refine ocon (plainFor_of_name pn_com_example_geotide_geotide_Members) ?_
  intro p e s m below meth c s₁ hx hby hml hown hnm hret hlk hZ X0 eh0
  have N0 := Fr.nil n0
  have K0 := Keep.refl h0 []
  refine ogoE (find6_ef m a0 p2) ?_
  generalize hG : (OEnd s below (find6_Q Z a0 p2 kk y0 x1 x2 x3 x4 x5 y6 x7 x8 x9 x10 x11 x12 x13 x14 x15 x16 x17 x18 x19 x20 x21 x22 x23 h0 n0) find6_rm.cells find6_rm.slots) = G
  show OWay p e below G s₁ (mkF m 0 #[.val (.ref a0), .val (.int (6 : Int32)), .val (.int p2), .unset] [])
  refine ogo (fun _ z_ => XS.iconst X0.here hx rfl (hb hby d2_0) z_) ?_
  show OWay p e below G s₁ (mkF m 1 #[.val (.ref a0), .val (.int (6 : Int32)), .val (.int p2), .unset] [(.int (0 : Int32))])
  refine ogo (fun _ z_ => XS.istoreN X0.here hx rfl (hb hby d2_1) rfl (l' := #[.val (.ref a0), .val (.int (6 : Int32)), .val (.int p2), .val (.int (0 : Int32))]) rfl z_) ?_
  show OWay p e below G s₁ (mkF m 2 #[.val (.ref a0), .val (.int (6 : Int32)), .val (.int p2), .val (.int (0 : Int32))] [])
  refine ogo (fun _ z_ => XS.iloadN X0.here hx rfl (hb hby d2_2) rfl z_) ?_
  show OWay p e below G s₁ (mkF m 3 #[.val (.ref a0), .val (.int (6 : Int32)), .val (.int p2), .val (.int (0 : Int32))] [(.int (0 : Int32))])
  refine ogo (fun _ z_ => XS.iloadN X0.here hx rfl (hb hby d2_3) rfl z_) ?_
  show OWay p e below G s₁ (mkF m 4 #[.val (.ref a0), .val (.int (6 : Int32)), .val (.int p2), .val (.int (0 : Int32))] [(.int (6 : Int32)), (.int (0 : Int32))])
  refine ogo (fun _ z_ => XS.icmpNo X0.here hx rfl (hb hby d2_4) rfl (flt (by decide)).2.2.1 z_) ?_
  show OWay p e below G s₁ (mkF m 7 #[.val (.ref a0), .val (.int (6 : Int32)), .val (.int p2), .val (.int (0 : Int32))] [])
  refine ogo (fun _ z_ => XS.aloadN X0.here hx rfl (hb hby d2_7) rfl rfl z_) ?_
  show OWay p e below G s₁ (mkF m 8 #[.val (.ref a0), .val (.int (6 : Int32)), .val (.int p2), .val (.int (0 : Int32))] [(.ref a0)])
  refine ogo (fun _ z_ => XS.iloadN X0.here hx rfl (hb hby d2_8) rfl z_) ?_
  show OWay p e below G s₁ (mkF m 9 #[.val (.ref a0), .val (.int (6 : Int32)), .val (.int p2), .val (.int (0 : Int32))] [(.int (0 : Int32)), (.ref a0)])
  refine ogo (fun _ z_ => XS.iconst X0.here hx rfl (hb hby d2_9) z_) ?_
  show OWay p e below G s₁ (mkF m 10 #[.val (.ref a0), .val (.int (6 : Int32)), .val (.int p2), .val (.int (0 : Int32))] [(.int (0 : Int32)), (.int (0 : Int32)), (.ref a0)])
  refine ogo (fun _ z_ => XS.iadd X0.here hx rfl (hb hby d2_10) rfl z_) ?_
  show OWay p e below G s₁ (mkF m 11 #[.val (.ref a0), .val (.int (6 : Int32)), .val (.int p2), .val (.int (0 : Int32))] [(.int ((0 : Int32) + (0 : Int32))), (.ref a0)])
  refine ogoE (g' := (mkF m 11 #[.val (.ref a0), .val (.int (6 : Int32)), .val (.int p2), .val (.int (0 : Int32))] [(.int (0 : Int32)), (.ref a0)])) (by rw [show ((0 : Int32) + (0 : Int32)) = (0 : Int32) from by decide]) ?_
  obtain ⟨cl_o1, Ar_o1, q_o1, S_o1, N_o1, H_o1, G_o1⟩ := id hp0
  have hin_o1 : ¬ ((0 : Int32) < 0 ∨ cl_o1.slots.size ≤ ((0 : Int32)).toNatClampNeg) := inb_of S_o1 ⟨by decide, by decide⟩
  have hat_o1 : cl_o1.slots[((0 : Int32)).toNatClampNeg]? = some (.int y0) := H_o1.at hin_o1 rfl
  refine ogo (fun _ z_ => X0.iaload hx (j := (0 : Int32)) (v := (.int y0)) (by rw [eh0]; exact Ar_o1.1) (State.isArrayOf_alike hZ.alike Ar_o1.2.1) Ar_o1.2.2 hin_o1 hat_o1 (g := (mkF m 11 #[.val (.ref a0), .val (.int (6 : Int32)), .val (.int p2), .val (.int (0 : Int32))] [(.int (0 : Int32)), (.ref a0)])) rfl rfl (hb hby d2_11) _ z_) ?_
  show OWay p e below G s₁ (mkF m 12 #[.val (.ref a0), .val (.int (6 : Int32)), .val (.int p2), .val (.int (0 : Int32))] [(.int y0)])
  refine ogo (fun _ z_ => XS.iloadN X0.here hx rfl (hb hby d2_12) rfl z_) ?_
  show OWay p e below G s₁ (mkF m 13 #[.val (.ref a0), .val (.int (6 : Int32)), .val (.int p2), .val (.int (0 : Int32))] [(.int p2), (.int y0)])
  by_cases c13 : y0 = p2
  · refine ogo (fun _ z_ => XS.icmpNo X0.here hx rfl (hb hby d2_13) rfl (teq c13).2 z_) ?_
    show OWay p e below G s₁ (mkF m 16 #[.val (.ref a0), .val (.int (6 : Int32)), .val (.int p2), .val (.int (0 : Int32))] [])
    refine ogo (fun _ z_ => XS.iloadN X0.here hx rfl (hb hby d2_16) rfl z_) ?_
    show OWay p e below G s₁ (mkF m 17 #[.val (.ref a0), .val (.int (6 : Int32)), .val (.int p2), .val (.int (0 : Int32))] [(.int (0 : Int32))])
    subst hG
    refine wRet X0 hx hret hlk rfl (Or.inl ⟨rfl, Or.inl rfl, _, rfl⟩) (hb hby d2_17) (by decide) (by decide) eh0 ?_
    exact ⟨(congrArg some (congrArg Value.int (show (0 : Int32) = (if y0 = p2 then (0 : Int32) else (if y6 = p2 then (6 : Int32) else (-1 : Int32))) from ((if_pos c13).trans rfl).symm))), N0, rfl⟩
  · refine ogo (fun _ z_ => XS.icmpYes X0.here hx rfl (pc0 := 13) (pc' := 18) rfl (hb hby d2_13) rfl (feq c13).2 (by decide) (by decide) z_) ?_
    show OWay p e below G s₁ (mkF m 18 #[.val (.ref a0), .val (.int (6 : Int32)), .val (.int p2), .val (.int (0 : Int32))] [])
    refine ogo (fun _ z_ => XS.iinc X0.here hx rfl (hb hby d2_18) rfl (l' := #[.val (.ref a0), .val (.int (6 : Int32)), .val (.int p2), .val (.int ((0 : Int32) + (6 : Int32)))]) rfl z_) ?_
    show OWay p e below G s₁ (mkF m 21 #[.val (.ref a0), .val (.int (6 : Int32)), .val (.int p2), .val (.int ((0 : Int32) + (6 : Int32)))] [])
    refine ogoE (g' := (mkF m 21 #[.val (.ref a0), .val (.int (6 : Int32)), .val (.int p2), .val (.int (6 : Int32))] [])) (by rw [show ((0 : Int32) + (6 : Int32)) = (6 : Int32) from by decide]) ?_
    refine ogo (fun _ z_ => XS.goto X0.here hx rfl (pc0 := 21) (pc' := 2) rfl (hb hby d2_21) (by decide) (by decide) z_) ?_
    show OWay p e below G s₁ (mkF m 2 #[.val (.ref a0), .val (.int (6 : Int32)), .val (.int p2), .val (.int (6 : Int32))] [])
    refine ogo (fun _ z_ => XS.iloadN X0.here hx rfl (hb hby d2_2) rfl z_) ?_
    show OWay p e below G s₁ (mkF m 3 #[.val (.ref a0), .val (.int (6 : Int32)), .val (.int p2), .val (.int (6 : Int32))] [(.int (6 : Int32))])
    refine ogo (fun _ z_ => XS.iloadN X0.here hx rfl (hb hby d2_3) rfl z_) ?_
    show OWay p e below G s₁ (mkF m 4 #[.val (.ref a0), .val (.int (6 : Int32)), .val (.int p2), .val (.int (6 : Int32))] [(.int (6 : Int32)), (.int (6 : Int32))])
    refine ogo (fun _ z_ => XS.icmpNo X0.here hx rfl (hb hby d2_4) rfl (flt (by decide)).2.2.1 z_) ?_
    show OWay p e below G s₁ (mkF m 7 #[.val (.ref a0), .val (.int (6 : Int32)), .val (.int p2), .val (.int (6 : Int32))] [])
    refine ogo (fun _ z_ => XS.aloadN X0.here hx rfl (hb hby d2_7) rfl rfl z_) ?_
    show OWay p e below G s₁ (mkF m 8 #[.val (.ref a0), .val (.int (6 : Int32)), .val (.int p2), .val (.int (6 : Int32))] [(.ref a0)])
    refine ogo (fun _ z_ => XS.iloadN X0.here hx rfl (hb hby d2_8) rfl z_) ?_
    show OWay p e below G s₁ (mkF m 9 #[.val (.ref a0), .val (.int (6 : Int32)), .val (.int p2), .val (.int (6 : Int32))] [(.int (6 : Int32)), (.ref a0)])
    refine ogo (fun _ z_ => XS.iconst X0.here hx rfl (hb hby d2_9) z_) ?_
    show OWay p e below G s₁ (mkF m 10 #[.val (.ref a0), .val (.int (6 : Int32)), .val (.int p2), .val (.int (6 : Int32))] [(.int (0 : Int32)), (.int (6 : Int32)), (.ref a0)])
    refine ogo (fun _ z_ => XS.iadd X0.here hx rfl (hb hby d2_10) rfl z_) ?_
    show OWay p e below G s₁ (mkF m 11 #[.val (.ref a0), .val (.int (6 : Int32)), .val (.int p2), .val (.int (6 : Int32))] [(.int ((6 : Int32) + (0 : Int32))), (.ref a0)])
    refine ogoE (g' := (mkF m 11 #[.val (.ref a0), .val (.int (6 : Int32)), .val (.int p2), .val (.int (6 : Int32))] [(.int (6 : Int32)), (.ref a0)])) (by rw [show ((6 : Int32) + (0 : Int32)) = (6 : Int32) from by decide]) ?_
    obtain ⟨cl_o2, Ar_o2, q_o2, S_o2, N_o2, H_o2, G_o2⟩ := id hp0
    have hin_o2 : ¬ ((6 : Int32) < 0 ∨ cl_o2.slots.size ≤ ((6 : Int32)).toNatClampNeg) := inb_of S_o2 ⟨by decide, by decide⟩
    have hat_o2 : cl_o2.slots[((6 : Int32)).toNatClampNeg]? = some (.int y6) := H_o2.at hin_o2 rfl
    refine ogo (fun _ z_ => X0.iaload hx (j := (6 : Int32)) (v := (.int y6)) (by rw [eh0]; exact Ar_o2.1) (State.isArrayOf_alike hZ.alike Ar_o2.2.1) Ar_o2.2.2 hin_o2 hat_o2 (g := (mkF m 11 #[.val (.ref a0), .val (.int (6 : Int32)), .val (.int p2), .val (.int (6 : Int32))] [(.int (6 : Int32)), (.ref a0)])) rfl rfl (hb hby d2_11) _ z_) ?_
    show OWay p e below G s₁ (mkF m 12 #[.val (.ref a0), .val (.int (6 : Int32)), .val (.int p2), .val (.int (6 : Int32))] [(.int y6)])
    refine ogo (fun _ z_ => XS.iloadN X0.here hx rfl (hb hby d2_12) rfl z_) ?_
    show OWay p e below G s₁ (mkF m 13 #[.val (.ref a0), .val (.int (6 : Int32)), .val (.int p2), .val (.int (6 : Int32))] [(.int p2), (.int y6)])
    by_cases c13' : y6 = p2
    · refine ogo (fun _ z_ => XS.icmpNo X0.here hx rfl (hb hby d2_13) rfl (teq c13').2 z_) ?_
      show OWay p e below G s₁ (mkF m 16 #[.val (.ref a0), .val (.int (6 : Int32)), .val (.int p2), .val (.int (6 : Int32))] [])
      refine ogo (fun _ z_ => XS.iloadN X0.here hx rfl (hb hby d2_16) rfl z_) ?_
      show OWay p e below G s₁ (mkF m 17 #[.val (.ref a0), .val (.int (6 : Int32)), .val (.int p2), .val (.int (6 : Int32))] [(.int (6 : Int32))])
      subst hG
      refine wRet X0 hx hret hlk rfl (Or.inl ⟨rfl, Or.inl rfl, _, rfl⟩) (hb hby d2_17) (by decide) (by decide) eh0 ?_
      exact ⟨(congrArg some (congrArg Value.int (show (6 : Int32) = (if y0 = p2 then (0 : Int32) else (if y6 = p2 then (6 : Int32) else (-1 : Int32))) from ((if_neg c13).trans ((if_pos c13').trans rfl)).symm))), N0, rfl⟩
    · refine ogo (fun _ z_ => XS.icmpYes X0.here hx rfl (pc0 := 13) (pc' := 18) rfl (hb hby d2_13) rfl (feq c13').2 (by decide) (by decide) z_) ?_
      show OWay p e below G s₁ (mkF m 18 #[.val (.ref a0), .val (.int (6 : Int32)), .val (.int p2), .val (.int (6 : Int32))] [])
      refine ogo (fun _ z_ => XS.iinc X0.here hx rfl (hb hby d2_18) rfl (l' := #[.val (.ref a0), .val (.int (6 : Int32)), .val (.int p2), .val (.int ((6 : Int32) + (6 : Int32)))]) rfl z_) ?_
      show OWay p e below G s₁ (mkF m 21 #[.val (.ref a0), .val (.int (6 : Int32)), .val (.int p2), .val (.int ((6 : Int32) + (6 : Int32)))] [])
      refine ogoE (g' := (mkF m 21 #[.val (.ref a0), .val (.int (6 : Int32)), .val (.int p2), .val (.int (12 : Int32))] [])) (by rw [show ((6 : Int32) + (6 : Int32)) = (12 : Int32) from by decide]) ?_
      refine ogo (fun _ z_ => XS.goto X0.here hx rfl (pc0 := 21) (pc' := 2) rfl (hb hby d2_21) (by decide) (by decide) z_) ?_
      show OWay p e below G s₁ (mkF m 2 #[.val (.ref a0), .val (.int (6 : Int32)), .val (.int p2), .val (.int (12 : Int32))] [])
      refine ogo (fun _ z_ => XS.iloadN X0.here hx rfl (hb hby d2_2) rfl z_) ?_
      show OWay p e below G s₁ (mkF m 3 #[.val (.ref a0), .val (.int (6 : Int32)), .val (.int p2), .val (.int (12 : Int32))] [(.int (12 : Int32))])
      refine ogo (fun _ z_ => XS.iloadN X0.here hx rfl (hb hby d2_3) rfl z_) ?_
      show OWay p e below G s₁ (mkF m 4 #[.val (.ref a0), .val (.int (6 : Int32)), .val (.int p2), .val (.int (12 : Int32))] [(.int (6 : Int32)), (.int (12 : Int32))])
      refine ogo (fun _ z_ => XS.icmpYes X0.here hx rfl (pc0 := 4) (pc' := 24) rfl (hb hby d2_4) rfl (tlt (by decide)).2.2.1 (by decide) (by decide) z_) ?_
      show OWay p e below G s₁ (mkF m 24 #[.val (.ref a0), .val (.int (6 : Int32)), .val (.int p2), .val (.int (12 : Int32))] [])
      refine ogo (fun _ z_ => XS.iconst X0.here hx rfl (hb hby d2_24) z_) ?_
      show OWay p e below G s₁ (mkF m 25 #[.val (.ref a0), .val (.int (6 : Int32)), .val (.int p2), .val (.int (12 : Int32))] [(.int (-1 : Int32))])
      subst hG
      refine wRet X0 hx hret hlk rfl (Or.inl ⟨rfl, Or.inl rfl, _, rfl⟩) (hb hby d2_25) (by decide) (by decide) eh0 ?_
      exact ⟨(congrArg some (congrArg Value.int (show (-1 : Int32) = (if y0 = p2 then (0 : Int32) else (if y6 = p2 then (6 : Int32) else (-1 : Int32))) from ((if_neg c13).trans ((if_neg c13').trans rfl)).symm))), N0, rfl⟩
def find12_rm : Room := { frames := 0, cells := 0, slots := 0, locals := 0 }
def find12_Q (Z : State) (a0 : Addr) (p2 : Int32) (kk : ClassId) (y0 : Int32) (x1 : Value) (x2 : Value) (x3 : Value) (x4 : Value) (x5 : Value) (y6 : Int32) (x7 : Value) (x8 : Value) (x9 : Value) (x10 : Value) (x11 : Value) (y12 : Int32) (x13 : Value) (x14 : Value) (x15 : Value) (x16 : Value) (x17 : Value) (x18 : Value) (x19 : Value) (x20 : Value) (x21 : Value) (x22 : Value) (x23 : Value) (h0 : Heap) (n0 : Nat) (v : Option Value) (h : Heap) (L : List Loc) : Prop := (v = some (.int (if y0 = p2 then (0 : Int32) else (if y6 = p2 then (6 : Int32) else (if y12 = p2 then (12 : Int32) else (-1 : Int32)))))) ∧ (Fr n0 L) ∧ (h = h0)
theorem find12_ef (m : MethodId) (a0 : Addr) (p2 : Int32) : entryFrame m #[(.ref a0), (.int (12 : Int32)), (.int p2)] 4 = mkF m 0 #[.val (.ref a0), .val (.int (12 : Int32)), .val (.int p2), .unset] [] := by first | (simp [entryFrame, mkF, argsToLocals, Value.category]; done) | rfl
set_option maxRecDepth 65536 in
set_option maxHeartbeats 40000000 in
theorem find12_c (l : Launch) (Z : State) (az : Array Value) (hw : ∀ d ∈ tables_1, d.before az Z = true) (ws : List Jvm.Cond) (a0 : Addr) (p2 : Int32) (kk : ClassId) (y0 : Int32) (x1 : Value) (x2 : Value) (x3 : Value) (x4 : Value) (x5 : Value) (y6 : Int32) (x7 : Value) (x8 : Value) (x9 : Value) (x10 : Value) (x11 : Value) (y12 : Int32) (x13 : Value) (x14 : Value) (x15 : Value) (x16 : Value) (x17 : Value) (x18 : Value) (x19 : Value) (x20 : Value) (x21 : Value) (x22 : Value) (x23 : Value) (h0 : Heap) (n0 : Nat) (Z0 : n0 ≤ h0.size) (hp0 : Arv Z h0 a0 kk .int (24 : Int32) [(.int y0), x1, x2, x3, x4, x5, (.int y6), x7, x8, x9, x10, x11, (.int y12), x13, x14, x15, x16, x17, x18, x19, x20, x21, x22, x23] (.int (0 : Int32))) :
    OCon l (⟨"com/example/geotide/geotide/Members", "find", "([III)I"⟩ : MethodName) prog_44_method_7_code 4 (some .int) ws find12_rm Z #[(.ref a0), (.int (12 : Int32)), (.int p2)] h0 (find12_Q Z a0 p2 kk y0 x1 x2 x3 x4 x5 y6 x7 x8 x9 x10 x11 y12 x13 x14 x15 x16 x17 x18 x19 x20 x21 x22 x23 h0 n0) := by
  refine ocon (plainFor_of_name pn_com_example_geotide_geotide_Members) ?_
  intro p e s m below meth c s₁ hx hby hml hown hnm hret hlk hZ X0 eh0
  have N0 := Fr.nil n0
  have K0 := Keep.refl h0 []
  refine ogoE (find12_ef m a0 p2) ?_
  generalize hG : (OEnd s below (find12_Q Z a0 p2 kk y0 x1 x2 x3 x4 x5 y6 x7 x8 x9 x10 x11 y12 x13 x14 x15 x16 x17 x18 x19 x20 x21 x22 x23 h0 n0) find12_rm.cells find12_rm.slots) = G
  show OWay p e below G s₁ (mkF m 0 #[.val (.ref a0), .val (.int (12 : Int32)), .val (.int p2), .unset] [])
  refine ogo (fun _ z_ => XS.iconst X0.here hx rfl (hb hby d2_0) z_) ?_
  show OWay p e below G s₁ (mkF m 1 #[.val (.ref a0), .val (.int (12 : Int32)), .val (.int p2), .unset] [(.int (0 : Int32))])
  refine ogo (fun _ z_ => XS.istoreN X0.here hx rfl (hb hby d2_1) rfl (l' := #[.val (.ref a0), .val (.int (12 : Int32)), .val (.int p2), .val (.int (0 : Int32))]) rfl z_) ?_
  show OWay p e below G s₁ (mkF m 2 #[.val (.ref a0), .val (.int (12 : Int32)), .val (.int p2), .val (.int (0 : Int32))] [])
  refine ogo (fun _ z_ => XS.iloadN X0.here hx rfl (hb hby d2_2) rfl z_) ?_
  show OWay p e below G s₁ (mkF m 3 #[.val (.ref a0), .val (.int (12 : Int32)), .val (.int p2), .val (.int (0 : Int32))] [(.int (0 : Int32))])
  refine ogo (fun _ z_ => XS.iloadN X0.here hx rfl (hb hby d2_3) rfl z_) ?_
  show OWay p e below G s₁ (mkF m 4 #[.val (.ref a0), .val (.int (12 : Int32)), .val (.int p2), .val (.int (0 : Int32))] [(.int (12 : Int32)), (.int (0 : Int32))])
  refine ogo (fun _ z_ => XS.icmpNo X0.here hx rfl (hb hby d2_4) rfl (flt (by decide)).2.2.1 z_) ?_
  show OWay p e below G s₁ (mkF m 7 #[.val (.ref a0), .val (.int (12 : Int32)), .val (.int p2), .val (.int (0 : Int32))] [])
  refine ogo (fun _ z_ => XS.aloadN X0.here hx rfl (hb hby d2_7) rfl rfl z_) ?_
  show OWay p e below G s₁ (mkF m 8 #[.val (.ref a0), .val (.int (12 : Int32)), .val (.int p2), .val (.int (0 : Int32))] [(.ref a0)])
  refine ogo (fun _ z_ => XS.iloadN X0.here hx rfl (hb hby d2_8) rfl z_) ?_
  show OWay p e below G s₁ (mkF m 9 #[.val (.ref a0), .val (.int (12 : Int32)), .val (.int p2), .val (.int (0 : Int32))] [(.int (0 : Int32)), (.ref a0)])
  refine ogo (fun _ z_ => XS.iconst X0.here hx rfl (hb hby d2_9) z_) ?_
  show OWay p e below G s₁ (mkF m 10 #[.val (.ref a0), .val (.int (12 : Int32)), .val (.int p2), .val (.int (0 : Int32))] [(.int (0 : Int32)), (.int (0 : Int32)), (.ref a0)])
  refine ogo (fun _ z_ => XS.iadd X0.here hx rfl (hb hby d2_10) rfl z_) ?_
  show OWay p e below G s₁ (mkF m 11 #[.val (.ref a0), .val (.int (12 : Int32)), .val (.int p2), .val (.int (0 : Int32))] [(.int ((0 : Int32) + (0 : Int32))), (.ref a0)])
  refine ogoE (g' := (mkF m 11 #[.val (.ref a0), .val (.int (12 : Int32)), .val (.int p2), .val (.int (0 : Int32))] [(.int (0 : Int32)), (.ref a0)])) (by rw [show ((0 : Int32) + (0 : Int32)) = (0 : Int32) from by decide]) ?_
  obtain ⟨cl_o1, Ar_o1, q_o1, S_o1, N_o1, H_o1, G_o1⟩ := id hp0
  have hin_o1 : ¬ ((0 : Int32) < 0 ∨ cl_o1.slots.size ≤ ((0 : Int32)).toNatClampNeg) := inb_of S_o1 ⟨by decide, by decide⟩
  have hat_o1 : cl_o1.slots[((0 : Int32)).toNatClampNeg]? = some (.int y0) := H_o1.at hin_o1 rfl
  refine ogo (fun _ z_ => X0.iaload hx (j := (0 : Int32)) (v := (.int y0)) (by rw [eh0]; exact Ar_o1.1) (State.isArrayOf_alike hZ.alike Ar_o1.2.1) Ar_o1.2.2 hin_o1 hat_o1 (g := (mkF m 11 #[.val (.ref a0), .val (.int (12 : Int32)), .val (.int p2), .val (.int (0 : Int32))] [(.int (0 : Int32)), (.ref a0)])) rfl rfl (hb hby d2_11) _ z_) ?_
  show OWay p e below G s₁ (mkF m 12 #[.val (.ref a0), .val (.int (12 : Int32)), .val (.int p2), .val (.int (0 : Int32))] [(.int y0)])
  refine ogo (fun _ z_ => XS.iloadN X0.here hx rfl (hb hby d2_12) rfl z_) ?_
  show OWay p e below G s₁ (mkF m 13 #[.val (.ref a0), .val (.int (12 : Int32)), .val (.int p2), .val (.int (0 : Int32))] [(.int p2), (.int y0)])
  by_cases c13 : y0 = p2
  · refine ogo (fun _ z_ => XS.icmpNo X0.here hx rfl (hb hby d2_13) rfl (teq c13).2 z_) ?_
    show OWay p e below G s₁ (mkF m 16 #[.val (.ref a0), .val (.int (12 : Int32)), .val (.int p2), .val (.int (0 : Int32))] [])
    refine ogo (fun _ z_ => XS.iloadN X0.here hx rfl (hb hby d2_16) rfl z_) ?_
    show OWay p e below G s₁ (mkF m 17 #[.val (.ref a0), .val (.int (12 : Int32)), .val (.int p2), .val (.int (0 : Int32))] [(.int (0 : Int32))])
    subst hG
    refine wRet X0 hx hret hlk rfl (Or.inl ⟨rfl, Or.inl rfl, _, rfl⟩) (hb hby d2_17) (by decide) (by decide) eh0 ?_
    exact ⟨(congrArg some (congrArg Value.int (show (0 : Int32) = (if y0 = p2 then (0 : Int32) else (if y6 = p2 then (6 : Int32) else (if y12 = p2 then (12 : Int32) else (-1 : Int32)))) from ((if_pos c13).trans rfl).symm))), N0, rfl⟩
  · refine ogo (fun _ z_ => XS.icmpYes X0.here hx rfl (pc0 := 13) (pc' := 18) rfl (hb hby d2_13) rfl (feq c13).2 (by decide) (by decide) z_) ?_
    show OWay p e below G s₁ (mkF m 18 #[.val (.ref a0), .val (.int (12 : Int32)), .val (.int p2), .val (.int (0 : Int32))] [])
    refine ogo (fun _ z_ => XS.iinc X0.here hx rfl (hb hby d2_18) rfl (l' := #[.val (.ref a0), .val (.int (12 : Int32)), .val (.int p2), .val (.int ((0 : Int32) + (6 : Int32)))]) rfl z_) ?_
    show OWay p e below G s₁ (mkF m 21 #[.val (.ref a0), .val (.int (12 : Int32)), .val (.int p2), .val (.int ((0 : Int32) + (6 : Int32)))] [])
    refine ogoE (g' := (mkF m 21 #[.val (.ref a0), .val (.int (12 : Int32)), .val (.int p2), .val (.int (6 : Int32))] [])) (by rw [show ((0 : Int32) + (6 : Int32)) = (6 : Int32) from by decide]) ?_
    refine ogo (fun _ z_ => XS.goto X0.here hx rfl (pc0 := 21) (pc' := 2) rfl (hb hby d2_21) (by decide) (by decide) z_) ?_
    show OWay p e below G s₁ (mkF m 2 #[.val (.ref a0), .val (.int (12 : Int32)), .val (.int p2), .val (.int (6 : Int32))] [])
    refine ogo (fun _ z_ => XS.iloadN X0.here hx rfl (hb hby d2_2) rfl z_) ?_
    show OWay p e below G s₁ (mkF m 3 #[.val (.ref a0), .val (.int (12 : Int32)), .val (.int p2), .val (.int (6 : Int32))] [(.int (6 : Int32))])
    refine ogo (fun _ z_ => XS.iloadN X0.here hx rfl (hb hby d2_3) rfl z_) ?_
    show OWay p e below G s₁ (mkF m 4 #[.val (.ref a0), .val (.int (12 : Int32)), .val (.int p2), .val (.int (6 : Int32))] [(.int (12 : Int32)), (.int (6 : Int32))])
    refine ogo (fun _ z_ => XS.icmpNo X0.here hx rfl (hb hby d2_4) rfl (flt (by decide)).2.2.1 z_) ?_
    show OWay p e below G s₁ (mkF m 7 #[.val (.ref a0), .val (.int (12 : Int32)), .val (.int p2), .val (.int (6 : Int32))] [])
    refine ogo (fun _ z_ => XS.aloadN X0.here hx rfl (hb hby d2_7) rfl rfl z_) ?_
    show OWay p e below G s₁ (mkF m 8 #[.val (.ref a0), .val (.int (12 : Int32)), .val (.int p2), .val (.int (6 : Int32))] [(.ref a0)])
    refine ogo (fun _ z_ => XS.iloadN X0.here hx rfl (hb hby d2_8) rfl z_) ?_
    show OWay p e below G s₁ (mkF m 9 #[.val (.ref a0), .val (.int (12 : Int32)), .val (.int p2), .val (.int (6 : Int32))] [(.int (6 : Int32)), (.ref a0)])
    refine ogo (fun _ z_ => XS.iconst X0.here hx rfl (hb hby d2_9) z_) ?_
    show OWay p e below G s₁ (mkF m 10 #[.val (.ref a0), .val (.int (12 : Int32)), .val (.int p2), .val (.int (6 : Int32))] [(.int (0 : Int32)), (.int (6 : Int32)), (.ref a0)])
    refine ogo (fun _ z_ => XS.iadd X0.here hx rfl (hb hby d2_10) rfl z_) ?_
    show OWay p e below G s₁ (mkF m 11 #[.val (.ref a0), .val (.int (12 : Int32)), .val (.int p2), .val (.int (6 : Int32))] [(.int ((6 : Int32) + (0 : Int32))), (.ref a0)])
    refine ogoE (g' := (mkF m 11 #[.val (.ref a0), .val (.int (12 : Int32)), .val (.int p2), .val (.int (6 : Int32))] [(.int (6 : Int32)), (.ref a0)])) (by rw [show ((6 : Int32) + (0 : Int32)) = (6 : Int32) from by decide]) ?_
    obtain ⟨cl_o2, Ar_o2, q_o2, S_o2, N_o2, H_o2, G_o2⟩ := id hp0
    have hin_o2 : ¬ ((6 : Int32) < 0 ∨ cl_o2.slots.size ≤ ((6 : Int32)).toNatClampNeg) := inb_of S_o2 ⟨by decide, by decide⟩
    have hat_o2 : cl_o2.slots[((6 : Int32)).toNatClampNeg]? = some (.int y6) := H_o2.at hin_o2 rfl
    refine ogo (fun _ z_ => X0.iaload hx (j := (6 : Int32)) (v := (.int y6)) (by rw [eh0]; exact Ar_o2.1) (State.isArrayOf_alike hZ.alike Ar_o2.2.1) Ar_o2.2.2 hin_o2 hat_o2 (g := (mkF m 11 #[.val (.ref a0), .val (.int (12 : Int32)), .val (.int p2), .val (.int (6 : Int32))] [(.int (6 : Int32)), (.ref a0)])) rfl rfl (hb hby d2_11) _ z_) ?_
    show OWay p e below G s₁ (mkF m 12 #[.val (.ref a0), .val (.int (12 : Int32)), .val (.int p2), .val (.int (6 : Int32))] [(.int y6)])
    refine ogo (fun _ z_ => XS.iloadN X0.here hx rfl (hb hby d2_12) rfl z_) ?_
    show OWay p e below G s₁ (mkF m 13 #[.val (.ref a0), .val (.int (12 : Int32)), .val (.int p2), .val (.int (6 : Int32))] [(.int p2), (.int y6)])
    by_cases c13' : y6 = p2
    · refine ogo (fun _ z_ => XS.icmpNo X0.here hx rfl (hb hby d2_13) rfl (teq c13').2 z_) ?_
      show OWay p e below G s₁ (mkF m 16 #[.val (.ref a0), .val (.int (12 : Int32)), .val (.int p2), .val (.int (6 : Int32))] [])
      refine ogo (fun _ z_ => XS.iloadN X0.here hx rfl (hb hby d2_16) rfl z_) ?_
      show OWay p e below G s₁ (mkF m 17 #[.val (.ref a0), .val (.int (12 : Int32)), .val (.int p2), .val (.int (6 : Int32))] [(.int (6 : Int32))])
      subst hG
      refine wRet X0 hx hret hlk rfl (Or.inl ⟨rfl, Or.inl rfl, _, rfl⟩) (hb hby d2_17) (by decide) (by decide) eh0 ?_
      exact ⟨(congrArg some (congrArg Value.int (show (6 : Int32) = (if y0 = p2 then (0 : Int32) else (if y6 = p2 then (6 : Int32) else (if y12 = p2 then (12 : Int32) else (-1 : Int32)))) from ((if_neg c13).trans ((if_pos c13').trans rfl)).symm))), N0, rfl⟩
    · refine ogo (fun _ z_ => XS.icmpYes X0.here hx rfl (pc0 := 13) (pc' := 18) rfl (hb hby d2_13) rfl (feq c13').2 (by decide) (by decide) z_) ?_
      show OWay p e below G s₁ (mkF m 18 #[.val (.ref a0), .val (.int (12 : Int32)), .val (.int p2), .val (.int (6 : Int32))] [])
      refine ogo (fun _ z_ => XS.iinc X0.here hx rfl (hb hby d2_18) rfl (l' := #[.val (.ref a0), .val (.int (12 : Int32)), .val (.int p2), .val (.int ((6 : Int32) + (6 : Int32)))]) rfl z_) ?_
      show OWay p e below G s₁ (mkF m 21 #[.val (.ref a0), .val (.int (12 : Int32)), .val (.int p2), .val (.int ((6 : Int32) + (6 : Int32)))] [])
      refine ogoE (g' := (mkF m 21 #[.val (.ref a0), .val (.int (12 : Int32)), .val (.int p2), .val (.int (12 : Int32))] [])) (by rw [show ((6 : Int32) + (6 : Int32)) = (12 : Int32) from by decide]) ?_
      refine ogo (fun _ z_ => XS.goto X0.here hx rfl (pc0 := 21) (pc' := 2) rfl (hb hby d2_21) (by decide) (by decide) z_) ?_
      show OWay p e below G s₁ (mkF m 2 #[.val (.ref a0), .val (.int (12 : Int32)), .val (.int p2), .val (.int (12 : Int32))] [])
      refine ogo (fun _ z_ => XS.iloadN X0.here hx rfl (hb hby d2_2) rfl z_) ?_
      show OWay p e below G s₁ (mkF m 3 #[.val (.ref a0), .val (.int (12 : Int32)), .val (.int p2), .val (.int (12 : Int32))] [(.int (12 : Int32))])
      refine ogo (fun _ z_ => XS.iloadN X0.here hx rfl (hb hby d2_3) rfl z_) ?_
      show OWay p e below G s₁ (mkF m 4 #[.val (.ref a0), .val (.int (12 : Int32)), .val (.int p2), .val (.int (12 : Int32))] [(.int (12 : Int32)), (.int (12 : Int32))])
      refine ogo (fun _ z_ => XS.icmpNo X0.here hx rfl (hb hby d2_4) rfl (flt (by decide)).2.2.1 z_) ?_
      show OWay p e below G s₁ (mkF m 7 #[.val (.ref a0), .val (.int (12 : Int32)), .val (.int p2), .val (.int (12 : Int32))] [])
      refine ogo (fun _ z_ => XS.aloadN X0.here hx rfl (hb hby d2_7) rfl rfl z_) ?_
      show OWay p e below G s₁ (mkF m 8 #[.val (.ref a0), .val (.int (12 : Int32)), .val (.int p2), .val (.int (12 : Int32))] [(.ref a0)])
      refine ogo (fun _ z_ => XS.iloadN X0.here hx rfl (hb hby d2_8) rfl z_) ?_
      show OWay p e below G s₁ (mkF m 9 #[.val (.ref a0), .val (.int (12 : Int32)), .val (.int p2), .val (.int (12 : Int32))] [(.int (12 : Int32)), (.ref a0)])
      refine ogo (fun _ z_ => XS.iconst X0.here hx rfl (hb hby d2_9) z_) ?_
      show OWay p e below G s₁ (mkF m 10 #[.val (.ref a0), .val (.int (12 : Int32)), .val (.int p2), .val (.int (12 : Int32))] [(.int (0 : Int32)), (.int (12 : Int32)), (.ref a0)])
      refine ogo (fun _ z_ => XS.iadd X0.here hx rfl (hb hby d2_10) rfl z_) ?_
      show OWay p e below G s₁ (mkF m 11 #[.val (.ref a0), .val (.int (12 : Int32)), .val (.int p2), .val (.int (12 : Int32))] [(.int ((12 : Int32) + (0 : Int32))), (.ref a0)])
      refine ogoE (g' := (mkF m 11 #[.val (.ref a0), .val (.int (12 : Int32)), .val (.int p2), .val (.int (12 : Int32))] [(.int (12 : Int32)), (.ref a0)])) (by rw [show ((12 : Int32) + (0 : Int32)) = (12 : Int32) from by decide]) ?_
      obtain ⟨cl_o3, Ar_o3, q_o3, S_o3, N_o3, H_o3, G_o3⟩ := id hp0
      have hin_o3 : ¬ ((12 : Int32) < 0 ∨ cl_o3.slots.size ≤ ((12 : Int32)).toNatClampNeg) := inb_of S_o3 ⟨by decide, by decide⟩
      have hat_o3 : cl_o3.slots[((12 : Int32)).toNatClampNeg]? = some (.int y12) := H_o3.at hin_o3 rfl
      refine ogo (fun _ z_ => X0.iaload hx (j := (12 : Int32)) (v := (.int y12)) (by rw [eh0]; exact Ar_o3.1) (State.isArrayOf_alike hZ.alike Ar_o3.2.1) Ar_o3.2.2 hin_o3 hat_o3 (g := (mkF m 11 #[.val (.ref a0), .val (.int (12 : Int32)), .val (.int p2), .val (.int (12 : Int32))] [(.int (12 : Int32)), (.ref a0)])) rfl rfl (hb hby d2_11) _ z_) ?_
      show OWay p e below G s₁ (mkF m 12 #[.val (.ref a0), .val (.int (12 : Int32)), .val (.int p2), .val (.int (12 : Int32))] [(.int y12)])
      refine ogo (fun _ z_ => XS.iloadN X0.here hx rfl (hb hby d2_12) rfl z_) ?_
      show OWay p e below G s₁ (mkF m 13 #[.val (.ref a0), .val (.int (12 : Int32)), .val (.int p2), .val (.int (12 : Int32))] [(.int p2), (.int y12)])
      by_cases c13'' : y12 = p2
      · refine ogo (fun _ z_ => XS.icmpNo X0.here hx rfl (hb hby d2_13) rfl (teq c13'').2 z_) ?_
        show OWay p e below G s₁ (mkF m 16 #[.val (.ref a0), .val (.int (12 : Int32)), .val (.int p2), .val (.int (12 : Int32))] [])
        refine ogo (fun _ z_ => XS.iloadN X0.here hx rfl (hb hby d2_16) rfl z_) ?_
        show OWay p e below G s₁ (mkF m 17 #[.val (.ref a0), .val (.int (12 : Int32)), .val (.int p2), .val (.int (12 : Int32))] [(.int (12 : Int32))])
        subst hG
        refine wRet X0 hx hret hlk rfl (Or.inl ⟨rfl, Or.inl rfl, _, rfl⟩) (hb hby d2_17) (by decide) (by decide) eh0 ?_
        exact ⟨(congrArg some (congrArg Value.int (show (12 : Int32) = (if y0 = p2 then (0 : Int32) else (if y6 = p2 then (6 : Int32) else (if y12 = p2 then (12 : Int32) else (-1 : Int32)))) from ((if_neg c13).trans ((if_neg c13').trans ((if_pos c13'').trans rfl))).symm))), N0, rfl⟩
      · refine ogo (fun _ z_ => XS.icmpYes X0.here hx rfl (pc0 := 13) (pc' := 18) rfl (hb hby d2_13) rfl (feq c13'').2 (by decide) (by decide) z_) ?_
        show OWay p e below G s₁ (mkF m 18 #[.val (.ref a0), .val (.int (12 : Int32)), .val (.int p2), .val (.int (12 : Int32))] [])
        refine ogo (fun _ z_ => XS.iinc X0.here hx rfl (hb hby d2_18) rfl (l' := #[.val (.ref a0), .val (.int (12 : Int32)), .val (.int p2), .val (.int ((12 : Int32) + (6 : Int32)))]) rfl z_) ?_
        show OWay p e below G s₁ (mkF m 21 #[.val (.ref a0), .val (.int (12 : Int32)), .val (.int p2), .val (.int ((12 : Int32) + (6 : Int32)))] [])
        refine ogoE (g' := (mkF m 21 #[.val (.ref a0), .val (.int (12 : Int32)), .val (.int p2), .val (.int (18 : Int32))] [])) (by rw [show ((12 : Int32) + (6 : Int32)) = (18 : Int32) from by decide]) ?_
        refine ogo (fun _ z_ => XS.goto X0.here hx rfl (pc0 := 21) (pc' := 2) rfl (hb hby d2_21) (by decide) (by decide) z_) ?_
        show OWay p e below G s₁ (mkF m 2 #[.val (.ref a0), .val (.int (12 : Int32)), .val (.int p2), .val (.int (18 : Int32))] [])
        refine ogo (fun _ z_ => XS.iloadN X0.here hx rfl (hb hby d2_2) rfl z_) ?_
        show OWay p e below G s₁ (mkF m 3 #[.val (.ref a0), .val (.int (12 : Int32)), .val (.int p2), .val (.int (18 : Int32))] [(.int (18 : Int32))])
        refine ogo (fun _ z_ => XS.iloadN X0.here hx rfl (hb hby d2_3) rfl z_) ?_
        show OWay p e below G s₁ (mkF m 4 #[.val (.ref a0), .val (.int (12 : Int32)), .val (.int p2), .val (.int (18 : Int32))] [(.int (12 : Int32)), (.int (18 : Int32))])
        refine ogo (fun _ z_ => XS.icmpYes X0.here hx rfl (pc0 := 4) (pc' := 24) rfl (hb hby d2_4) rfl (tlt (by decide)).2.2.1 (by decide) (by decide) z_) ?_
        show OWay p e below G s₁ (mkF m 24 #[.val (.ref a0), .val (.int (12 : Int32)), .val (.int p2), .val (.int (18 : Int32))] [])
        refine ogo (fun _ z_ => XS.iconst X0.here hx rfl (hb hby d2_24) z_) ?_
        show OWay p e below G s₁ (mkF m 25 #[.val (.ref a0), .val (.int (12 : Int32)), .val (.int p2), .val (.int (18 : Int32))] [(.int (-1 : Int32))])
        subst hG
        refine wRet X0 hx hret hlk rfl (Or.inl ⟨rfl, Or.inl rfl, _, rfl⟩) (hb hby d2_25) (by decide) (by decide) eh0 ?_
        exact ⟨(congrArg some (congrArg Value.int (show (-1 : Int32) = (if y0 = p2 then (0 : Int32) else (if y6 = p2 then (6 : Int32) else (if y12 = p2 then (12 : Int32) else (-1 : Int32)))) from ((if_neg c13).trans ((if_neg c13').trans ((if_neg c13'').trans rfl))).symm))), N0, rfl⟩
theorem own_c (p v : Int32) (h : v = (p &&& (3 : Int32))) : v = (0 : Int32) ∨ v = (1 : Int32) ∨ v = (2 : Int32) ∨ v = (3 : Int32) := by
  have m := c_mask p 3 2 (by decide) (by decide)
  rw [← h] at m
  have e0 : (0 : Int32).toInt = 0 := by decide
  have e1 : (1 : Int32).toInt = 1 := by decide
  have e2 : (2 : Int32).toInt = 2 := by decide
  have e3 : (3 : Int32).toInt = 3 := by decide
  simp only [← Int32.toInt_inj, e0, e1, e2, e3]
  omega
theorem pd___IIII_V : parseMethodDescriptor "([IIII)V" = some ⟨[(.array .int), .int, .int, .int], none⟩ := by decide +kernel
theorem pd___III_I : parseMethodDescriptor "([III)I" = some ⟨[(.array .int), .int, .int], some .int⟩ := by decide +kernel
def law_Q (Z : State) (p0 : Int32) (p1 : Int32) (p2 : Int32) (p3 : Int32) (p4 : Int32) (h0 : Heap) (n0 : Nat) (v : Option Value) (h : Heap) (L : List Loc) : Prop := v = some (.int 1) ∧ Fr n0 L
theorem law_ef (m : MethodId) (p0 : Int32) (p1 : Int32) (p2 : Int32) (p3 : Int32) (p4 : Int32) : entryFrame m #[(.int p0), (.int p1), (.int p2), (.int p3), (.int p4)] maxLocals = mkF m 0 #[.val (.int p0), .val (.int p1), .val (.int p2), .val (.int p3), .val (.int p4), .unset, .unset, .unset, .unset, .unset, .unset] [] := by first | (simp [entryFrame, mkF, argsToLocals, Value.category, maxLocals]; done) | rfl
set_option maxRecDepth 65536 in
set_option maxHeartbeats 40000000 in
theorem law_c (l : Launch) (Z : State) (az : Array Value) (hw : ∀ d ∈ tables_1, d.before az Z = true) (ws : List Jvm.Cond) (p0 : Int32) (p1 : Int32) (p2 : Int32) (p3 : Int32) (p4 : Int32) (h0 : Heap) (n0 : Nat) (Z0 : n0 ≤ h0.size) :
    OCon l x code maxLocals ret ws room_1 Z #[(.int p0), (.int p1), (.int p2), (.int p3), (.int p4)] h0 (law_Q Z p0 p1 p2 p3 p4 h0 n0) := by
  refine ocon (plainFor_of_name pn_com_example_geotide_geotide_MembersFindPinLaw) ?_
  intro p e s m below meth c s₁ hx hby hml hown hnm hret hlk hZ X0 eh0
  have N0 := Fr.nil n0
  have K0 := Keep.refl h0 []
  refine ogoE (law_ef m p0 p1 p2 p3 p4) ?_
  generalize hG : (OEnd s below (law_Q Z p0 p1 p2 p3 p4 h0 n0) room_1.cells room_1.slots) = G
  show OWay p e below G s₁ (mkF m 0 #[.val (.int p0), .val (.int p1), .val (.int p2), .val (.int p3), .val (.int p4), .unset, .unset, .unset, .unset, .unset, .unset] [])
  refine ogo (fun _ z_ => XS.iload X0.here hx rfl (hb hby at_0) rfl z_) ?_
  show OWay p e below G s₁ (mkF m 2 #[.val (.int p0), .val (.int p1), .val (.int p2), .val (.int p3), .val (.int p4), .unset, .unset, .unset, .unset, .unset, .unset] [(.int p4)])
  refine ogo (fun _ z_ => XS.iconst X0.here hx rfl (hb hby at_2) z_) ?_
  show OWay p e below G s₁ (mkF m 3 #[.val (.int p0), .val (.int p1), .val (.int p2), .val (.int p3), .val (.int p4), .unset, .unset, .unset, .unset, .unset, .unset] [(.int (3 : Int32)), (.int p4)])
  refine ogo (fun _ z_ => XS.iand X0.here hx rfl (hb hby at_3) rfl z_) ?_
  show OWay p e below G s₁ (mkF m 4 #[.val (.int p0), .val (.int p1), .val (.int p2), .val (.int p3), .val (.int p4), .unset, .unset, .unset, .unset, .unset, .unset] [(.int (p4 &&& (3 : Int32)))])
  suffices Jv5_1 : ∀ v5_1 : Int32, v5_1 = (p4 &&& (3 : Int32)) → OWay p e below G s₁ (mkF m 4 #[.val (.int p0), .val (.int p1), .val (.int p2), .val (.int p3), .val (.int p4), .unset, .unset, .unset, .unset, .unset, .unset] [(.int v5_1)]) from Jv5_1 _ rfl
  intro v5_1 hv5_1
  refine ogo (fun _ z_ => XS.istore X0.here hx rfl (hb hby at_4) rfl (l' := #[.val (.int p0), .val (.int p1), .val (.int p2), .val (.int p3), .val (.int p4), .val (.int v5_1), .unset, .unset, .unset, .unset, .unset]) rfl z_) ?_
  show OWay p e below G s₁ (mkF m 6 #[.val (.int p0), .val (.int p1), .val (.int p2), .val (.int p3), .val (.int p4), .val (.int v5_1), .unset, .unset, .unset, .unset, .unset] [])
  refine ogo (fun _ z_ => XS.iload X0.here hx rfl (hb hby at_6) rfl z_) ?_
  show OWay p e below G s₁ (mkF m 8 #[.val (.int p0), .val (.int p1), .val (.int p2), .val (.int p3), .val (.int p4), .val (.int v5_1), .unset, .unset, .unset, .unset, .unset] [(.int p4)])
  refine ogo (fun _ z_ => XS.iconst X0.here hx rfl (hb hby at_8) z_) ?_
  show OWay p e below G s₁ (mkF m 9 #[.val (.int p0), .val (.int p1), .val (.int p2), .val (.int p3), .val (.int p4), .val (.int v5_1), .unset, .unset, .unset, .unset, .unset] [(.int (2 : Int32)), (.int p4)])
  refine ogo (fun _ z_ => XS.iushr X0.here hx rfl (hb hby at_9) rfl z_) ?_
  show OWay p e below G s₁ (mkF m 10 #[.val (.int p0), .val (.int p1), .val (.int p2), .val (.int p3), .val (.int p4), .val (.int v5_1), .unset, .unset, .unset, .unset, .unset] [(.int ((p4.toUInt32 >>> ((2 : Int32) &&& 31).toUInt32).toInt32))])
  refine ogo (fun _ z_ => XS.iconst X0.here hx rfl (hb hby at_10) z_) ?_
  show OWay p e below G s₁ (mkF m 11 #[.val (.int p0), .val (.int p1), .val (.int p2), .val (.int p3), .val (.int p4), .val (.int v5_1), .unset, .unset, .unset, .unset, .unset] [(.int (3 : Int32)), (.int ((p4.toUInt32 >>> ((2 : Int32) &&& 31).toUInt32).toInt32))])
  refine ogo (fun _ z_ => XS.iand X0.here hx rfl (hb hby at_11) rfl z_) ?_
  show OWay p e below G s₁ (mkF m 12 #[.val (.int p0), .val (.int p1), .val (.int p2), .val (.int p3), .val (.int p4), .val (.int v5_1), .unset, .unset, .unset, .unset, .unset] [(.int (((p4.toUInt32 >>> ((2 : Int32) &&& 31).toUInt32).toInt32) &&& (3 : Int32)))])
  suffices Jv6_2 : ∀ v6_2 : Int32, v6_2 = (((p4.toUInt32 >>> ((2 : Int32) &&& 31).toUInt32).toInt32) &&& (3 : Int32)) → OWay p e below G s₁ (mkF m 12 #[.val (.int p0), .val (.int p1), .val (.int p2), .val (.int p3), .val (.int p4), .val (.int v5_1), .unset, .unset, .unset, .unset, .unset] [(.int v6_2)]) from Jv6_2 _ rfl
  intro v6_2 hv6_2
  refine ogo (fun _ z_ => XS.istore X0.here hx rfl (hb hby at_12) rfl (l' := #[.val (.int p0), .val (.int p1), .val (.int p2), .val (.int p3), .val (.int p4), .val (.int v5_1), .val (.int v6_2), .unset, .unset, .unset, .unset]) rfl z_) ?_
  show OWay p e below G s₁ (mkF m 14 #[.val (.int p0), .val (.int p1), .val (.int p2), .val (.int p3), .val (.int p4), .val (.int v5_1), .val (.int v6_2), .unset, .unset, .unset, .unset] [])
  refine ogo (fun _ z_ => XS.iload X0.here hx rfl (hb hby at_14) rfl z_) ?_
  show OWay p e below G s₁ (mkF m 16 #[.val (.int p0), .val (.int p1), .val (.int p2), .val (.int p3), .val (.int p4), .val (.int v5_1), .val (.int v6_2), .unset, .unset, .unset, .unset] [(.int v6_2)])
  have J4 : ∀ (us0_3 : Int32), us0_3 = (if v6_2 = (0 : Int32) then p3 else (if v6_2 = (1 : Int32) then p0 else (if v6_2 = (2 : Int32) then p1 else p2))) → OWay p e below G s₁ (mkF m 44 #[.val (.int p0), .val (.int p1), .val (.int p2), .val (.int p3), .val (.int p4), .val (.int v5_1), .val (.int v6_2), .unset, .unset, .unset, .unset] [(.int us0_3)]) := by
    intro us0_3 hus0_3
    refine ogo (fun _ z_ => XS.istore X0.here hx rfl (hb hby at_44) rfl (l' := #[.val (.int p0), .val (.int p1), .val (.int p2), .val (.int p3), .val (.int p4), .val (.int v5_1), .val (.int v6_2), .val (.int us0_3), .unset, .unset, .unset]) rfl z_) ?_
    show OWay p e below G s₁ (mkF m 46 #[.val (.int p0), .val (.int p1), .val (.int p2), .val (.int p3), .val (.int p4), .val (.int v5_1), .val (.int v6_2), .val (.int us0_3), .unset, .unset, .unset] [])
    refine ogo (fun _ z_ => XS.bipush X0.here hx rfl (hb hby at_46) z_) ?_
    show OWay p e below G s₁ (mkF m 48 #[.val (.int p0), .val (.int p1), .val (.int p2), .val (.int p3), .val (.int p4), .val (.int v5_1), .val (.int v6_2), .val (.int us0_3), .unset, .unset, .unset] [(.int (24 : Int32))])
    obtain ⟨T5, h5, k5, X5, eT5, E5, A5, st5⟩ := newP X0 hx hZ (hw _ (List.mem_of_getElem? (i := 0) rfl)) eh0 (g := (mkF m 48 #[.val (.int p0), .val (.int p1), .val (.int p2), .val (.int p3), .val (.int p4), .val (.int v5_1), .val (.int v6_2), .val (.int us0_3), .unset, .unset, .unset] [(.int (24 : Int32))])) rfl (hb hby at_48) rfl (by decide) (cap := 24) (by decide) (by decide) (by decide) (by decide)
    obtain ⟨b5, g5⟩ : ∃ z, z = h0.size := ⟨_, rfl⟩
    rw [← g5] at A5 st5
    have g_b5 : n0 ≤ b5 := Nat.le_trans Z0 (Nat.le_of_eq g5.symm)
    have sz_b5 : h0.size ≤ b5 := Nat.le_trans K0.1 (Nat.le_of_eq g5.symm)
    have K6 : Keep h0 h5 [] := K0.ext E5
    have V_b5 : Arv Z h5 b5 k5 .int (24 : Int32) [(.int (0 : Int32)), (.int (0 : Int32)), (.int (0 : Int32)), (.int (0 : Int32)), (.int (0 : Int32)), (.int (0 : Int32)), (.int (0 : Int32)), (.int (0 : Int32)), (.int (0 : Int32)), (.int (0 : Int32)), (.int (0 : Int32)), (.int (0 : Int32)), (.int (0 : Int32)), (.int (0 : Int32)), (.int (0 : Int32)), (.int (0 : Int32)), (.int (0 : Int32)), (.int (0 : Int32)), (.int (0 : Int32)), (.int (0 : Int32)), (.int (0 : Int32)), (.int (0 : Int32)), (.int (0 : Int32)), (.int (0 : Int32))] (.int (0 : Int32)) := (Arv.new A5 (by decide)).pad (pad_rep [] (.int (0 : Int32)) 24)
    refine ogo st5 ?_
    show OWay p e below G T5 (mkF m 50 #[.val (.int p0), .val (.int p1), .val (.int p2), .val (.int p3), .val (.int p4), .val (.int v5_1), .val (.int v6_2), .val (.int us0_3), .unset, .unset, .unset] [(.ref b5)])
    refine ogo (fun _ z_ => XS.astore X5.here hx rfl (hb hby at_50) rfl rfl (l' := #[.val (.int p0), .val (.int p1), .val (.int p2), .val (.int p3), .val (.int p4), .val (.int v5_1), .val (.int v6_2), .val (.int us0_3), .val (.ref b5), .unset, .unset]) rfl z_) ?_
    show OWay p e below G T5 (mkF m 52 #[.val (.int p0), .val (.int p1), .val (.int p2), .val (.int p3), .val (.int p4), .val (.int v5_1), .val (.int v6_2), .val (.int us0_3), .val (.ref b5), .unset, .unset] [])
    refine ogo (fun _ z_ => XS.aload X5.here hx rfl (hb hby at_52) rfl rfl z_) ?_
    show OWay p e below G T5 (mkF m 54 #[.val (.int p0), .val (.int p1), .val (.int p2), .val (.int p3), .val (.int p4), .val (.int v5_1), .val (.int v6_2), .val (.int us0_3), .val (.ref b5), .unset, .unset] [(.ref b5)])
    refine ogo (fun _ z_ => XS.iconst X5.here hx rfl (hb hby at_54) z_) ?_
    show OWay p e below G T5 (mkF m 55 #[.val (.int p0), .val (.int p1), .val (.int p2), .val (.int p3), .val (.int p4), .val (.int v5_1), .val (.int v6_2), .val (.int us0_3), .val (.ref b5), .unset, .unset] [(.int (0 : Int32)), (.ref b5)])
    refine ogo (fun _ z_ => XS.iloadN X5.here hx rfl (hb hby at_55) rfl z_) ?_
    show OWay p e below G T5 (mkF m 56 #[.val (.int p0), .val (.int p1), .val (.int p2), .val (.int p3), .val (.int p4), .val (.int v5_1), .val (.int v6_2), .val (.int us0_3), .val (.ref b5), .unset, .unset] [(.int p0), (.int (0 : Int32)), (.ref b5)])
    refine ogo (fun _ z_ => XS.iload X5.here hx rfl (hb hby at_56) rfl z_) ?_
    show OWay p e below G T5 (mkF m 58 #[.val (.int p0), .val (.int p1), .val (.int p2), .val (.int p3), .val (.int p4), .val (.int v5_1), .val (.int v6_2), .val (.int us0_3), .val (.ref b5), .unset, .unset] [(.int us0_3), (.int p0), (.int (0 : Int32)), (.ref b5)])
    obtain ⟨_, T7, L7, X7, hQ7, st7⟩ := wStatic X5 hx hZ (y := (⟨"com/example/geotide/geotide/MembersFindPinLaw", "fill", "([IIII)V"⟩ : MethodName)) hown (hw _ (List.mem_of_getElem? (i := 1) rfl)) (hw _ (List.mem_of_getElem? (i := 2) rfl)) (hw _ (List.mem_of_getElem? (i := 3) rfl)) (hw _ (List.mem_of_getElem? (i := 4) rfl)) (by decide) (fill0_c l Z az hw [] b5 p0 us0_3 k5 (.int (0 : Int32)) (.int (0 : Int32)) (.int (0 : Int32)) (.int (0 : Int32)) (.int (0 : Int32)) (.int (0 : Int32)) (.int (0 : Int32)) (.int (0 : Int32)) (.int (0 : Int32)) (.int (0 : Int32)) (.int (0 : Int32)) (.int (0 : Int32)) (.int (0 : Int32)) (.int (0 : Int32)) (.int (0 : Int32)) (.int (0 : Int32)) (.int (0 : Int32)) (.int (0 : Int32)) (.int (0 : Int32)) (.int (0 : Int32)) (.int (0 : Int32)) (.int (0 : Int32)) (.int (0 : Int32)) (.int (0 : Int32)) h5 n0 (Nat.le_trans Z0 E5.1) V_b5 g_b5) 0 (by decide) (by decide) (g := (mkF m 58 #[.val (.int p0), .val (.int p1), .val (.int p2), .val (.int p3), .val (.int p4), .val (.int v5_1), .val (.int v6_2), .val (.int us0_3), .val (.ref b5), .unset, .unset] [(.int us0_3), (.int p0), (.int (0 : Int32)), (.ref b5)])) rfl (by rw [hml]; rfl) (argsL := [(.ref b5), (.int (0 : Int32)), (.int p0), (.int us0_3)]) (rest := []) (lenOf pd___IIII_V rfl) rfl (by show 2 * 0 + _ ≤ _; exact Nat.le_of_eq rfl) (hb hby at_58) rfl eT5 (by decide) (by decide)
    obtain ⟨rfl, N7q, Kq7, P8⟩ := hQ7
    have N7 := Fr.app N0 N7q
    have K9 : Keep h0 T7.heap [] := K6.trans Kq7 (allS (Or.inr sz_b5) all0)
    refine ogo st7 ?_
    show OWay p e below G T7 (mkF m 61 #[.val (.int p0), .val (.int p1), .val (.int p2), .val (.int p3), .val (.int p4), .val (.int v5_1), .val (.int v6_2), .val (.int us0_3), .val (.ref b5), .unset, .unset] [])
    refine ogo (fun _ z_ => XS.aload X7.here hx rfl (hb hby at_61) rfl rfl z_) ?_
    show OWay p e below G T7 (mkF m 63 #[.val (.int p0), .val (.int p1), .val (.int p2), .val (.int p3), .val (.int p4), .val (.int v5_1), .val (.int v6_2), .val (.int us0_3), .val (.ref b5), .unset, .unset] [(.ref b5)])
    refine ogo (fun _ z_ => XS.bipush X7.here hx rfl (hb hby at_63) z_) ?_
    show OWay p e below G T7 (mkF m 65 #[.val (.int p0), .val (.int p1), .val (.int p2), .val (.int p3), .val (.int p4), .val (.int v5_1), .val (.int v6_2), .val (.int us0_3), .val (.ref b5), .unset, .unset] [(.int (6 : Int32)), (.ref b5)])
    refine ogo (fun _ z_ => XS.iloadN X7.here hx rfl (hb hby at_65) rfl z_) ?_
    show OWay p e below G T7 (mkF m 66 #[.val (.int p0), .val (.int p1), .val (.int p2), .val (.int p3), .val (.int p4), .val (.int v5_1), .val (.int v6_2), .val (.int us0_3), .val (.ref b5), .unset, .unset] [(.int p1), (.int (6 : Int32)), (.ref b5)])
    refine ogo (fun _ z_ => XS.iload X7.here hx rfl (hb hby at_66) rfl z_) ?_
    show OWay p e below G T7 (mkF m 68 #[.val (.int p0), .val (.int p1), .val (.int p2), .val (.int p3), .val (.int p4), .val (.int v5_1), .val (.int v6_2), .val (.int us0_3), .val (.ref b5), .unset, .unset] [(.int us0_3), (.int p1), (.int (6 : Int32)), (.ref b5)])
    obtain ⟨_, T10, L10, X10, hQ10, st10⟩ := wStatic X7 hx hZ (y := (⟨"com/example/geotide/geotide/MembersFindPinLaw", "fill", "([IIII)V"⟩ : MethodName)) hown (hw _ (List.mem_of_getElem? (i := 1) rfl)) (hw _ (List.mem_of_getElem? (i := 2) rfl)) (hw _ (List.mem_of_getElem? (i := 3) rfl)) (hw _ (List.mem_of_getElem? (i := 4) rfl)) (by decide) (fill6_c l Z az hw [] b5 p1 us0_3 k5 (.int p0) (.int us0_3) (.int us0_3) (.int us0_3) (.int us0_3) (.int us0_3) (.int (0 : Int32)) (.int (0 : Int32)) (.int (0 : Int32)) (.int (0 : Int32)) (.int (0 : Int32)) (.int (0 : Int32)) (.int (0 : Int32)) (.int (0 : Int32)) (.int (0 : Int32)) (.int (0 : Int32)) (.int (0 : Int32)) (.int (0 : Int32)) (.int (0 : Int32)) (.int (0 : Int32)) (.int (0 : Int32)) (.int (0 : Int32)) (.int (0 : Int32)) (.int (0 : Int32)) T7.heap n0 (Nat.le_trans (Nat.le_trans Z0 E5.1) Kq7.1) P8 g_b5) 0 (by decide) (by decide) (g := (mkF m 68 #[.val (.int p0), .val (.int p1), .val (.int p2), .val (.int p3), .val (.int p4), .val (.int v5_1), .val (.int v6_2), .val (.int us0_3), .val (.ref b5), .unset, .unset] [(.int us0_3), (.int p1), (.int (6 : Int32)), (.ref b5)])) rfl (by rw [hml]; rfl) (argsL := [(.ref b5), (.int (6 : Int32)), (.int p1), (.int us0_3)]) (rest := []) (lenOf pd___IIII_V rfl) rfl (by show 2 * 0 + _ ≤ _; exact Nat.le_of_eq rfl) (hb hby at_68) rfl rfl (by decide) (by decide)
    obtain ⟨rfl, N10q, Kq10, P11⟩ := hQ10
    have N10 := Fr.app N7 N10q
    have K12 : Keep h0 T10.heap [] := K9.trans Kq10 (allS (Or.inr sz_b5) all0)
    refine ogo st10 ?_
    show OWay p e below G T10 (mkF m 71 #[.val (.int p0), .val (.int p1), .val (.int p2), .val (.int p3), .val (.int p4), .val (.int v5_1), .val (.int v6_2), .val (.int us0_3), .val (.ref b5), .unset, .unset] [])
    refine ogo (fun _ z_ => XS.aload X10.here hx rfl (hb hby at_71) rfl rfl z_) ?_
    show OWay p e below G T10 (mkF m 73 #[.val (.int p0), .val (.int p1), .val (.int p2), .val (.int p3), .val (.int p4), .val (.int v5_1), .val (.int v6_2), .val (.int us0_3), .val (.ref b5), .unset, .unset] [(.ref b5)])
    refine ogo (fun _ z_ => XS.bipush X10.here hx rfl (hb hby at_73) z_) ?_
    show OWay p e below G T10 (mkF m 75 #[.val (.int p0), .val (.int p1), .val (.int p2), .val (.int p3), .val (.int p4), .val (.int v5_1), .val (.int v6_2), .val (.int us0_3), .val (.ref b5), .unset, .unset] [(.int (12 : Int32)), (.ref b5)])
    refine ogo (fun _ z_ => XS.iloadN X10.here hx rfl (hb hby at_75) rfl z_) ?_
    show OWay p e below G T10 (mkF m 76 #[.val (.int p0), .val (.int p1), .val (.int p2), .val (.int p3), .val (.int p4), .val (.int v5_1), .val (.int v6_2), .val (.int us0_3), .val (.ref b5), .unset, .unset] [(.int p2), (.int (12 : Int32)), (.ref b5)])
    refine ogo (fun _ z_ => XS.iload X10.here hx rfl (hb hby at_76) rfl z_) ?_
    show OWay p e below G T10 (mkF m 78 #[.val (.int p0), .val (.int p1), .val (.int p2), .val (.int p3), .val (.int p4), .val (.int v5_1), .val (.int v6_2), .val (.int us0_3), .val (.ref b5), .unset, .unset] [(.int us0_3), (.int p2), (.int (12 : Int32)), (.ref b5)])
    obtain ⟨_, T13, L13, X13, hQ13, st13⟩ := wStatic X10 hx hZ (y := (⟨"com/example/geotide/geotide/MembersFindPinLaw", "fill", "([IIII)V"⟩ : MethodName)) hown (hw _ (List.mem_of_getElem? (i := 1) rfl)) (hw _ (List.mem_of_getElem? (i := 2) rfl)) (hw _ (List.mem_of_getElem? (i := 3) rfl)) (hw _ (List.mem_of_getElem? (i := 4) rfl)) (by decide) (fill12_c l Z az hw [] b5 p2 us0_3 k5 (.int p0) (.int us0_3) (.int us0_3) (.int us0_3) (.int us0_3) (.int us0_3) (.int p1) (.int us0_3) (.int us0_3) (.int us0_3) (.int us0_3) (.int us0_3) (.int (0 : Int32)) (.int (0 : Int32)) (.int (0 : Int32)) (.int (0 : Int32)) (.int (0 : Int32)) (.int (0 : Int32)) (.int (0 : Int32)) (.int (0 : Int32)) (.int (0 : Int32)) (.int (0 : Int32)) (.int (0 : Int32)) (.int (0 : Int32)) T10.heap n0 (Nat.le_trans (Nat.le_trans (Nat.le_trans Z0 E5.1) Kq7.1) Kq10.1) P11 g_b5) 0 (by decide) (by decide) (g := (mkF m 78 #[.val (.int p0), .val (.int p1), .val (.int p2), .val (.int p3), .val (.int p4), .val (.int v5_1), .val (.int v6_2), .val (.int us0_3), .val (.ref b5), .unset, .unset] [(.int us0_3), (.int p2), (.int (12 : Int32)), (.ref b5)])) rfl (by rw [hml]; rfl) (argsL := [(.ref b5), (.int (12 : Int32)), (.int p2), (.int us0_3)]) (rest := []) (lenOf pd___IIII_V rfl) rfl (by show 2 * 0 + _ ≤ _; exact Nat.le_of_eq rfl) (hb hby at_78) rfl rfl (by decide) (by decide)
    obtain ⟨rfl, N13q, Kq13, P14⟩ := hQ13
    have N13 := Fr.app N10 N13q
    have K15 : Keep h0 T13.heap [] := K12.trans Kq13 (allS (Or.inr sz_b5) all0)
    refine ogo st13 ?_
    show OWay p e below G T13 (mkF m 81 #[.val (.int p0), .val (.int p1), .val (.int p2), .val (.int p3), .val (.int p4), .val (.int v5_1), .val (.int v6_2), .val (.int us0_3), .val (.ref b5), .unset, .unset] [])
    refine ogo (fun _ z_ => XS.aload X13.here hx rfl (hb hby at_81) rfl rfl z_) ?_
    show OWay p e below G T13 (mkF m 83 #[.val (.int p0), .val (.int p1), .val (.int p2), .val (.int p3), .val (.int p4), .val (.int v5_1), .val (.int v6_2), .val (.int us0_3), .val (.ref b5), .unset, .unset] [(.ref b5)])
    refine ogo (fun _ z_ => XS.bipush X13.here hx rfl (hb hby at_83) z_) ?_
    show OWay p e below G T13 (mkF m 85 #[.val (.int p0), .val (.int p1), .val (.int p2), .val (.int p3), .val (.int p4), .val (.int v5_1), .val (.int v6_2), .val (.int us0_3), .val (.ref b5), .unset, .unset] [(.int (18 : Int32)), (.ref b5)])
    refine ogo (fun _ z_ => XS.iload X13.here hx rfl (hb hby at_85) rfl z_) ?_
    show OWay p e below G T13 (mkF m 87 #[.val (.int p0), .val (.int p1), .val (.int p2), .val (.int p3), .val (.int p4), .val (.int v5_1), .val (.int v6_2), .val (.int us0_3), .val (.ref b5), .unset, .unset] [(.int us0_3), (.int (18 : Int32)), (.ref b5)])
    refine ogo (fun _ z_ => XS.iload X13.here hx rfl (hb hby at_87) rfl z_) ?_
    show OWay p e below G T13 (mkF m 89 #[.val (.int p0), .val (.int p1), .val (.int p2), .val (.int p3), .val (.int p4), .val (.int v5_1), .val (.int v6_2), .val (.int us0_3), .val (.ref b5), .unset, .unset] [(.int us0_3), (.int us0_3), (.int (18 : Int32)), (.ref b5)])
    obtain ⟨_, T16, L16, X16, hQ16, st16⟩ := wStatic X13 hx hZ (y := (⟨"com/example/geotide/geotide/MembersFindPinLaw", "fill", "([IIII)V"⟩ : MethodName)) hown (hw _ (List.mem_of_getElem? (i := 1) rfl)) (hw _ (List.mem_of_getElem? (i := 2) rfl)) (hw _ (List.mem_of_getElem? (i := 3) rfl)) (hw _ (List.mem_of_getElem? (i := 4) rfl)) (by decide) (fill18_c l Z az hw [] b5 us0_3 us0_3 k5 (.int p0) (.int us0_3) (.int us0_3) (.int us0_3) (.int us0_3) (.int us0_3) (.int p1) (.int us0_3) (.int us0_3) (.int us0_3) (.int us0_3) (.int us0_3) (.int p2) (.int us0_3) (.int us0_3) (.int us0_3) (.int us0_3) (.int us0_3) (.int (0 : Int32)) (.int (0 : Int32)) (.int (0 : Int32)) (.int (0 : Int32)) (.int (0 : Int32)) (.int (0 : Int32)) T13.heap n0 (Nat.le_trans (Nat.le_trans (Nat.le_trans (Nat.le_trans Z0 E5.1) Kq7.1) Kq10.1) Kq13.1) P14 g_b5) 0 (by decide) (by decide) (g := (mkF m 89 #[.val (.int p0), .val (.int p1), .val (.int p2), .val (.int p3), .val (.int p4), .val (.int v5_1), .val (.int v6_2), .val (.int us0_3), .val (.ref b5), .unset, .unset] [(.int us0_3), (.int us0_3), (.int (18 : Int32)), (.ref b5)])) rfl (by rw [hml]; rfl) (argsL := [(.ref b5), (.int (18 : Int32)), (.int us0_3), (.int us0_3)]) (rest := []) (lenOf pd___IIII_V rfl) rfl (by show 2 * 0 + _ ≤ _; exact Nat.le_of_eq rfl) (hb hby at_89) rfl rfl (by decide) (by decide)
    obtain ⟨rfl, N16q, Kq16, P17⟩ := hQ16
    have N16 := Fr.app N13 N16q
    have K18 : Keep h0 T16.heap [] := K15.trans Kq16 (allS (Or.inr sz_b5) all0)
    refine ogo st16 ?_
    show OWay p e below G T16 (mkF m 92 #[.val (.int p0), .val (.int p1), .val (.int p2), .val (.int p3), .val (.int p4), .val (.int v5_1), .val (.int v6_2), .val (.int us0_3), .val (.ref b5), .unset, .unset] [])
    rcases (own_c p4 v5_1 hv5_1 : v5_1 = (0 : Int32) ∨ v5_1 = (1 : Int32) ∨ v5_1 = (2 : Int32) ∨ v5_1 = (3 : Int32)) with rfl | rfl | rfl | rfl
    · show OWay p e below G T16 (mkF m 92 #[.val (.int p0), .val (.int p1), .val (.int p2), .val (.int p3), .val (.int p4), .val (.int (0 : Int32)), .val (.int v6_2), .val (.int us0_3), .val (.ref b5), .unset, .unset] [])
      refine ogo (fun _ z_ => XS.bipush X16.here hx rfl (hb hby at_92) z_) ?_
      show OWay p e below G T16 (mkF m 94 #[.val (.int p0), .val (.int p1), .val (.int p2), .val (.int p3), .val (.int p4), .val (.int (0 : Int32)), .val (.int v6_2), .val (.int us0_3), .val (.ref b5), .unset, .unset] [(.int (6 : Int32))])
      refine ogo (fun _ z_ => XS.iload X16.here hx rfl (hb hby at_94) rfl z_) ?_
      show OWay p e below G T16 (mkF m 96 #[.val (.int p0), .val (.int p1), .val (.int p2), .val (.int p3), .val (.int p4), .val (.int (0 : Int32)), .val (.int v6_2), .val (.int us0_3), .val (.ref b5), .unset, .unset] [(.int (0 : Int32)), (.int (6 : Int32))])
      refine ogo (fun _ z_ => XS.imul X16.here hx rfl (hb hby at_96) rfl z_) ?_
      show OWay p e below G T16 (mkF m 97 #[.val (.int p0), .val (.int p1), .val (.int p2), .val (.int p3), .val (.int p4), .val (.int (0 : Int32)), .val (.int v6_2), .val (.int us0_3), .val (.ref b5), .unset, .unset] [(.int ((6 : Int32) * (0 : Int32)))])
      refine ogoE (g' := (mkF m 97 #[.val (.int p0), .val (.int p1), .val (.int p2), .val (.int p3), .val (.int p4), .val (.int (0 : Int32)), .val (.int v6_2), .val (.int us0_3), .val (.ref b5), .unset, .unset] [(.int (0 : Int32))])) (by rw [show ((6 : Int32) * (0 : Int32)) = (0 : Int32) from by decide]) ?_
      refine ogo (fun _ z_ => XS.bipush X16.here hx rfl (hb hby at_97) z_) ?_
      show OWay p e below G T16 (mkF m 99 #[.val (.int p0), .val (.int p1), .val (.int p2), .val (.int p3), .val (.int p4), .val (.int (0 : Int32)), .val (.int v6_2), .val (.int us0_3), .val (.ref b5), .unset, .unset] [(.int (6 : Int32)), (.int (0 : Int32))])
      refine ogo (fun _ z_ => XS.isub X16.here hx rfl (hb hby at_99) rfl z_) ?_
      show OWay p e below G T16 (mkF m 100 #[.val (.int p0), .val (.int p1), .val (.int p2), .val (.int p3), .val (.int p4), .val (.int (0 : Int32)), .val (.int v6_2), .val (.int us0_3), .val (.ref b5), .unset, .unset] [(.int ((0 : Int32) - (6 : Int32)))])
      refine ogoE (g' := (mkF m 100 #[.val (.int p0), .val (.int p1), .val (.int p2), .val (.int p3), .val (.int p4), .val (.int (0 : Int32)), .val (.int v6_2), .val (.int us0_3), .val (.ref b5), .unset, .unset] [(.int (-6 : Int32))])) (by rw [show ((0 : Int32) - (6 : Int32)) = (-6 : Int32) from by decide]) ?_
      refine ogo (fun _ z_ => XS.istore X16.here hx rfl (hb hby at_100) rfl (l' := #[.val (.int p0), .val (.int p1), .val (.int p2), .val (.int p3), .val (.int p4), .val (.int (0 : Int32)), .val (.int v6_2), .val (.int us0_3), .val (.ref b5), .val (.int (-6 : Int32)), .unset]) rfl z_) ?_
      show OWay p e below G T16 (mkF m 102 #[.val (.int p0), .val (.int p1), .val (.int p2), .val (.int p3), .val (.int p4), .val (.int (0 : Int32)), .val (.int v6_2), .val (.int us0_3), .val (.ref b5), .val (.int (-6 : Int32)), .unset] [])
      refine ogo (fun _ z_ => XS.iload X16.here hx rfl (hb hby at_102) rfl z_) ?_
      show OWay p e below G T16 (mkF m 104 #[.val (.int p0), .val (.int p1), .val (.int p2), .val (.int p3), .val (.int p4), .val (.int (0 : Int32)), .val (.int v6_2), .val (.int us0_3), .val (.ref b5), .val (.int (-6 : Int32)), .unset] [(.int (0 : Int32))])
      refine ogo (fun _ z_ => XS.iconst X16.here hx rfl (hb hby at_104) z_) ?_
      show OWay p e below G T16 (mkF m 105 #[.val (.int p0), .val (.int p1), .val (.int p2), .val (.int p3), .val (.int p4), .val (.int (0 : Int32)), .val (.int v6_2), .val (.int us0_3), .val (.ref b5), .val (.int (-6 : Int32)), .unset] [(.int (1 : Int32)), (.int (0 : Int32))])
      refine ogo (fun _ z_ => XS.icmpYes X16.here hx rfl (pc0 := 105) (pc' := 120) rfl (hb hby at_105) rfl (tlt (by decide)).1 (by decide) (by decide) z_) ?_
      show OWay p e below G T16 (mkF m 120 #[.val (.int p0), .val (.int p1), .val (.int p2), .val (.int p3), .val (.int p4), .val (.int (0 : Int32)), .val (.int v6_2), .val (.int us0_3), .val (.ref b5), .val (.int (-6 : Int32)), .unset] [])
      refine ogo (fun _ z_ => XS.iload X16.here hx rfl (hb hby at_120) rfl z_) ?_
      show OWay p e below G T16 (mkF m 122 #[.val (.int p0), .val (.int p1), .val (.int p2), .val (.int p3), .val (.int p4), .val (.int (0 : Int32)), .val (.int v6_2), .val (.int us0_3), .val (.ref b5), .val (.int (-6 : Int32)), .unset] [(.int (0 : Int32))])
      refine ogo (fun _ z_ => XS.iconst X16.here hx rfl (hb hby at_122) z_) ?_
      show OWay p e below G T16 (mkF m 123 #[.val (.int p0), .val (.int p1), .val (.int p2), .val (.int p3), .val (.int p4), .val (.int (0 : Int32)), .val (.int v6_2), .val (.int us0_3), .val (.ref b5), .val (.int (-6 : Int32)), .unset] [(.int (2 : Int32)), (.int (0 : Int32))])
      refine ogo (fun _ z_ => XS.icmpYes X16.here hx rfl (pc0 := 123) (pc' := 139) rfl (hb hby at_123) rfl (tlt (by decide)).1 (by decide) (by decide) z_) ?_
      show OWay p e below G T16 (mkF m 139 #[.val (.int p0), .val (.int p1), .val (.int p2), .val (.int p3), .val (.int p4), .val (.int (0 : Int32)), .val (.int v6_2), .val (.int us0_3), .val (.ref b5), .val (.int (-6 : Int32)), .unset] [])
      refine ogo (fun _ z_ => XS.iload X16.here hx rfl (hb hby at_139) rfl z_) ?_
      show OWay p e below G T16 (mkF m 141 #[.val (.int p0), .val (.int p1), .val (.int p2), .val (.int p3), .val (.int p4), .val (.int (0 : Int32)), .val (.int v6_2), .val (.int us0_3), .val (.ref b5), .val (.int (-6 : Int32)), .unset] [(.int (0 : Int32))])
      refine ogo (fun _ z_ => XS.iconst X16.here hx rfl (hb hby at_141) z_) ?_
      show OWay p e below G T16 (mkF m 142 #[.val (.int p0), .val (.int p1), .val (.int p2), .val (.int p3), .val (.int p4), .val (.int (0 : Int32)), .val (.int v6_2), .val (.int us0_3), .val (.ref b5), .val (.int (-6 : Int32)), .unset] [(.int (3 : Int32)), (.int (0 : Int32))])
      refine ogo (fun _ z_ => XS.icmpYes X16.here hx rfl (pc0 := 142) (pc' := 158) rfl (hb hby at_142) rfl (tlt (by decide)).1 (by decide) (by decide) z_) ?_
      show OWay p e below G T16 (mkF m 158 #[.val (.int p0), .val (.int p1), .val (.int p2), .val (.int p3), .val (.int p4), .val (.int (0 : Int32)), .val (.int v6_2), .val (.int us0_3), .val (.ref b5), .val (.int (-6 : Int32)), .unset] [])
      refine ogo (fun _ z_ => XS.iconst X16.here hx rfl (hb hby at_158) z_) ?_
      show OWay p e below G T16 (mkF m 159 #[.val (.int p0), .val (.int p1), .val (.int p2), .val (.int p3), .val (.int p4), .val (.int (0 : Int32)), .val (.int v6_2), .val (.int us0_3), .val (.ref b5), .val (.int (-6 : Int32)), .unset] [(.int (-1 : Int32))])
      refine ogo (fun _ z_ => XS.istore X16.here hx rfl (hb hby at_159) rfl (l' := #[.val (.int p0), .val (.int p1), .val (.int p2), .val (.int p3), .val (.int p4), .val (.int (0 : Int32)), .val (.int v6_2), .val (.int us0_3), .val (.ref b5), .val (.int (-6 : Int32)), .val (.int (-1 : Int32))]) rfl z_) ?_
      show OWay p e below G T16 (mkF m 161 #[.val (.int p0), .val (.int p1), .val (.int p2), .val (.int p3), .val (.int p4), .val (.int (0 : Int32)), .val (.int v6_2), .val (.int us0_3), .val (.ref b5), .val (.int (-6 : Int32)), .val (.int (-1 : Int32))] [])
      refine ogo (fun _ z_ => XS.aload X16.here hx rfl (hb hby at_161) rfl rfl z_) ?_
      show OWay p e below G T16 (mkF m 163 #[.val (.int p0), .val (.int p1), .val (.int p2), .val (.int p3), .val (.int p4), .val (.int (0 : Int32)), .val (.int v6_2), .val (.int us0_3), .val (.ref b5), .val (.int (-6 : Int32)), .val (.int (-1 : Int32))] [(.ref b5)])
      refine ogo (fun _ z_ => XS.iload X16.here hx rfl (hb hby at_163) rfl z_) ?_
      show OWay p e below G T16 (mkF m 165 #[.val (.int p0), .val (.int p1), .val (.int p2), .val (.int p3), .val (.int p4), .val (.int (0 : Int32)), .val (.int v6_2), .val (.int us0_3), .val (.ref b5), .val (.int (-6 : Int32)), .val (.int (-1 : Int32))] [(.int (-6 : Int32)), (.ref b5)])
      refine ogo (fun _ z_ => XS.iload X16.here hx rfl (hb hby at_165) rfl z_) ?_
      show OWay p e below G T16 (mkF m 167 #[.val (.int p0), .val (.int p1), .val (.int p2), .val (.int p3), .val (.int p4), .val (.int (0 : Int32)), .val (.int v6_2), .val (.int us0_3), .val (.ref b5), .val (.int (-6 : Int32)), .val (.int (-1 : Int32))] [(.int us0_3), (.int (-6 : Int32)), (.ref b5)])
      obtain ⟨_, T19, L19, X19, hQ19, st19⟩ := wStatic X16 hx hZ (y := (⟨"com/example/geotide/geotide/Members", "find", "([III)I"⟩ : MethodName)) hown (hw _ (List.mem_of_getElem? (i := 5) rfl)) (hw _ (List.mem_of_getElem? (i := 6) rfl)) (hw _ (List.mem_of_getElem? (i := 7) rfl)) (hw _ (List.mem_of_getElem? (i := 8) rfl)) (by decide) (findm6_c l Z az hw [] b5 us0_3 k5 (.int p0) (.int us0_3) (.int us0_3) (.int us0_3) (.int us0_3) (.int us0_3) (.int p1) (.int us0_3) (.int us0_3) (.int us0_3) (.int us0_3) (.int us0_3) (.int p2) (.int us0_3) (.int us0_3) (.int us0_3) (.int us0_3) (.int us0_3) (.int us0_3) (.int us0_3) (.int us0_3) (.int us0_3) (.int us0_3) (.int us0_3) T16.heap n0 (Nat.le_trans (Nat.le_trans (Nat.le_trans (Nat.le_trans (Nat.le_trans Z0 E5.1) Kq7.1) Kq10.1) Kq13.1) Kq16.1) P17) 0 (by decide) (by decide) (g := (mkF m 167 #[.val (.int p0), .val (.int p1), .val (.int p2), .val (.int p3), .val (.int p4), .val (.int (0 : Int32)), .val (.int v6_2), .val (.int us0_3), .val (.ref b5), .val (.int (-6 : Int32)), .val (.int (-1 : Int32))] [(.int us0_3), (.int (-6 : Int32)), (.ref b5)])) rfl (by rw [hml]; rfl) (argsL := [(.ref b5), (.int (-6 : Int32)), (.int us0_3)]) (rest := []) (lenOf pd___III_I rfl) rfl (by show 2 * 0 + _ ≤ _; exact Nat.le_of_eq rfl) (hb hby at_167) rfl rfl (by decide) (by decide)
      obtain ⟨rfl, N19q, eq19⟩ := hQ19
      have N19 := Fr.app N16 N19q
      refine ogo st19 ?_
      show OWay p e below G T19 (mkF m 170 #[.val (.int p0), .val (.int p1), .val (.int p2), .val (.int p3), .val (.int p4), .val (.int (0 : Int32)), .val (.int v6_2), .val (.int us0_3), .val (.ref b5), .val (.int (-6 : Int32)), .val (.int (-1 : Int32))] [(.int (-1 : Int32))])
      refine ogo (fun _ z_ => XS.iload X19.here hx rfl (hb hby at_170) rfl z_) ?_
      show OWay p e below G T19 (mkF m 172 #[.val (.int p0), .val (.int p1), .val (.int p2), .val (.int p3), .val (.int p4), .val (.int (0 : Int32)), .val (.int v6_2), .val (.int us0_3), .val (.ref b5), .val (.int (-6 : Int32)), .val (.int (-1 : Int32))] [(.int (-1 : Int32)), (.int (-1 : Int32))])
      refine ogo (fun _ z_ => XS.icmpNo X19.here hx rfl (hb hby at_172) rfl (teq rfl).2 z_) ?_
      show OWay p e below G T19 (mkF m 175 #[.val (.int p0), .val (.int p1), .val (.int p2), .val (.int p3), .val (.int p4), .val (.int (0 : Int32)), .val (.int v6_2), .val (.int us0_3), .val (.ref b5), .val (.int (-6 : Int32)), .val (.int (-1 : Int32))] [])
      refine ogo (fun _ z_ => XS.iconst X19.here hx rfl (hb hby at_175) z_) ?_
      show OWay p e below G T19 (mkF m 176 #[.val (.int p0), .val (.int p1), .val (.int p2), .val (.int p3), .val (.int p4), .val (.int (0 : Int32)), .val (.int v6_2), .val (.int us0_3), .val (.ref b5), .val (.int (-6 : Int32)), .val (.int (-1 : Int32))] [(.int (1 : Int32))])
      refine ogo (fun _ z_ => XS.goto X19.here hx rfl (pc0 := 176) (pc' := 180) rfl (hb hby at_176) (by decide) (by decide) z_) ?_
      show OWay p e below G T19 (mkF m 180 #[.val (.int p0), .val (.int p1), .val (.int p2), .val (.int p3), .val (.int p4), .val (.int (0 : Int32)), .val (.int v6_2), .val (.int us0_3), .val (.ref b5), .val (.int (-6 : Int32)), .val (.int (-1 : Int32))] [(.int (1 : Int32))])
      subst hG
      refine wRetN X19 hx (t := .boolean) hret hlk (by simp) (hb hby at_180) (by decide) (by decide) eq19 ?_
      exact ⟨rfl, N19⟩
    · show OWay p e below G T16 (mkF m 92 #[.val (.int p0), .val (.int p1), .val (.int p2), .val (.int p3), .val (.int p4), .val (.int (1 : Int32)), .val (.int v6_2), .val (.int us0_3), .val (.ref b5), .unset, .unset] [])
      refine ogo (fun _ z_ => XS.bipush X16.here hx rfl (hb hby at_92) z_) ?_
      show OWay p e below G T16 (mkF m 94 #[.val (.int p0), .val (.int p1), .val (.int p2), .val (.int p3), .val (.int p4), .val (.int (1 : Int32)), .val (.int v6_2), .val (.int us0_3), .val (.ref b5), .unset, .unset] [(.int (6 : Int32))])
      refine ogo (fun _ z_ => XS.iload X16.here hx rfl (hb hby at_94) rfl z_) ?_
      show OWay p e below G T16 (mkF m 96 #[.val (.int p0), .val (.int p1), .val (.int p2), .val (.int p3), .val (.int p4), .val (.int (1 : Int32)), .val (.int v6_2), .val (.int us0_3), .val (.ref b5), .unset, .unset] [(.int (1 : Int32)), (.int (6 : Int32))])
      refine ogo (fun _ z_ => XS.imul X16.here hx rfl (hb hby at_96) rfl z_) ?_
      show OWay p e below G T16 (mkF m 97 #[.val (.int p0), .val (.int p1), .val (.int p2), .val (.int p3), .val (.int p4), .val (.int (1 : Int32)), .val (.int v6_2), .val (.int us0_3), .val (.ref b5), .unset, .unset] [(.int ((6 : Int32) * (1 : Int32)))])
      refine ogoE (g' := (mkF m 97 #[.val (.int p0), .val (.int p1), .val (.int p2), .val (.int p3), .val (.int p4), .val (.int (1 : Int32)), .val (.int v6_2), .val (.int us0_3), .val (.ref b5), .unset, .unset] [(.int (6 : Int32))])) (by rw [show ((6 : Int32) * (1 : Int32)) = (6 : Int32) from by decide]) ?_
      refine ogo (fun _ z_ => XS.bipush X16.here hx rfl (hb hby at_97) z_) ?_
      show OWay p e below G T16 (mkF m 99 #[.val (.int p0), .val (.int p1), .val (.int p2), .val (.int p3), .val (.int p4), .val (.int (1 : Int32)), .val (.int v6_2), .val (.int us0_3), .val (.ref b5), .unset, .unset] [(.int (6 : Int32)), (.int (6 : Int32))])
      refine ogo (fun _ z_ => XS.isub X16.here hx rfl (hb hby at_99) rfl z_) ?_
      show OWay p e below G T16 (mkF m 100 #[.val (.int p0), .val (.int p1), .val (.int p2), .val (.int p3), .val (.int p4), .val (.int (1 : Int32)), .val (.int v6_2), .val (.int us0_3), .val (.ref b5), .unset, .unset] [(.int ((6 : Int32) - (6 : Int32)))])
      refine ogoE (g' := (mkF m 100 #[.val (.int p0), .val (.int p1), .val (.int p2), .val (.int p3), .val (.int p4), .val (.int (1 : Int32)), .val (.int v6_2), .val (.int us0_3), .val (.ref b5), .unset, .unset] [(.int (0 : Int32))])) (by rw [show ((6 : Int32) - (6 : Int32)) = (0 : Int32) from by decide]) ?_
      refine ogo (fun _ z_ => XS.istore X16.here hx rfl (hb hby at_100) rfl (l' := #[.val (.int p0), .val (.int p1), .val (.int p2), .val (.int p3), .val (.int p4), .val (.int (1 : Int32)), .val (.int v6_2), .val (.int us0_3), .val (.ref b5), .val (.int (0 : Int32)), .unset]) rfl z_) ?_
      show OWay p e below G T16 (mkF m 102 #[.val (.int p0), .val (.int p1), .val (.int p2), .val (.int p3), .val (.int p4), .val (.int (1 : Int32)), .val (.int v6_2), .val (.int us0_3), .val (.ref b5), .val (.int (0 : Int32)), .unset] [])
      refine ogo (fun _ z_ => XS.iload X16.here hx rfl (hb hby at_102) rfl z_) ?_
      show OWay p e below G T16 (mkF m 104 #[.val (.int p0), .val (.int p1), .val (.int p2), .val (.int p3), .val (.int p4), .val (.int (1 : Int32)), .val (.int v6_2), .val (.int us0_3), .val (.ref b5), .val (.int (0 : Int32)), .unset] [(.int (1 : Int32))])
      refine ogo (fun _ z_ => XS.iconst X16.here hx rfl (hb hby at_104) z_) ?_
      show OWay p e below G T16 (mkF m 105 #[.val (.int p0), .val (.int p1), .val (.int p2), .val (.int p3), .val (.int p4), .val (.int (1 : Int32)), .val (.int v6_2), .val (.int us0_3), .val (.ref b5), .val (.int (0 : Int32)), .unset] [(.int (1 : Int32)), (.int (1 : Int32))])
      refine ogo (fun _ z_ => XS.icmpNo X16.here hx rfl (hb hby at_105) rfl (flt (by decide)).1 z_) ?_
      show OWay p e below G T16 (mkF m 108 #[.val (.int p0), .val (.int p1), .val (.int p2), .val (.int p3), .val (.int p4), .val (.int (1 : Int32)), .val (.int v6_2), .val (.int us0_3), .val (.ref b5), .val (.int (0 : Int32)), .unset] [])
      refine ogo (fun _ z_ => XS.iloadN X16.here hx rfl (hb hby at_108) rfl z_) ?_
      show OWay p e below G T16 (mkF m 109 #[.val (.int p0), .val (.int p1), .val (.int p2), .val (.int p3), .val (.int p4), .val (.int (1 : Int32)), .val (.int v6_2), .val (.int us0_3), .val (.ref b5), .val (.int (0 : Int32)), .unset] [(.int p0)])
      refine ogo (fun _ z_ => XS.iload X16.here hx rfl (hb hby at_109) rfl z_) ?_
      show OWay p e below G T16 (mkF m 111 #[.val (.int p0), .val (.int p1), .val (.int p2), .val (.int p3), .val (.int p4), .val (.int (1 : Int32)), .val (.int v6_2), .val (.int us0_3), .val (.ref b5), .val (.int (0 : Int32)), .unset] [(.int us0_3), (.int p0)])
      have J21 : ∀ (u10_20 : Int32), u10_20 = (if p0 = us0_3 then (0 : Int32) else (-1 : Int32)) → OWay p e below G T16 (mkF m 161 #[.val (.int p0), .val (.int p1), .val (.int p2), .val (.int p3), .val (.int p4), .val (.int (1 : Int32)), .val (.int v6_2), .val (.int us0_3), .val (.ref b5), .val (.int (0 : Int32)), .val (.int u10_20)] []) := by
        intro u10_20 hu10_20
        refine ogo (fun _ z_ => XS.aload X16.here hx rfl (hb hby at_161) rfl rfl z_) ?_
        show OWay p e below G T16 (mkF m 163 #[.val (.int p0), .val (.int p1), .val (.int p2), .val (.int p3), .val (.int p4), .val (.int (1 : Int32)), .val (.int v6_2), .val (.int us0_3), .val (.ref b5), .val (.int (0 : Int32)), .val (.int u10_20)] [(.ref b5)])
        refine ogo (fun _ z_ => XS.iload X16.here hx rfl (hb hby at_163) rfl z_) ?_
        show OWay p e below G T16 (mkF m 165 #[.val (.int p0), .val (.int p1), .val (.int p2), .val (.int p3), .val (.int p4), .val (.int (1 : Int32)), .val (.int v6_2), .val (.int us0_3), .val (.ref b5), .val (.int (0 : Int32)), .val (.int u10_20)] [(.int (0 : Int32)), (.ref b5)])
        refine ogo (fun _ z_ => XS.iload X16.here hx rfl (hb hby at_165) rfl z_) ?_
        show OWay p e below G T16 (mkF m 167 #[.val (.int p0), .val (.int p1), .val (.int p2), .val (.int p3), .val (.int p4), .val (.int (1 : Int32)), .val (.int v6_2), .val (.int us0_3), .val (.ref b5), .val (.int (0 : Int32)), .val (.int u10_20)] [(.int us0_3), (.int (0 : Int32)), (.ref b5)])
        obtain ⟨_, T22, L22, X22, hQ22, st22⟩ := wStatic X16 hx hZ (y := (⟨"com/example/geotide/geotide/Members", "find", "([III)I"⟩ : MethodName)) hown (hw _ (List.mem_of_getElem? (i := 5) rfl)) (hw _ (List.mem_of_getElem? (i := 6) rfl)) (hw _ (List.mem_of_getElem? (i := 7) rfl)) (hw _ (List.mem_of_getElem? (i := 8) rfl)) (by decide) (find0_c l Z az hw [] b5 us0_3 k5 p0 (.int us0_3) (.int us0_3) (.int us0_3) (.int us0_3) (.int us0_3) (.int p1) (.int us0_3) (.int us0_3) (.int us0_3) (.int us0_3) (.int us0_3) (.int p2) (.int us0_3) (.int us0_3) (.int us0_3) (.int us0_3) (.int us0_3) (.int us0_3) (.int us0_3) (.int us0_3) (.int us0_3) (.int us0_3) (.int us0_3) T16.heap n0 (Nat.le_trans (Nat.le_trans (Nat.le_trans (Nat.le_trans (Nat.le_trans Z0 E5.1) Kq7.1) Kq10.1) Kq13.1) Kq16.1) P17) 0 (by decide) (by decide) (g := (mkF m 167 #[.val (.int p0), .val (.int p1), .val (.int p2), .val (.int p3), .val (.int p4), .val (.int (1 : Int32)), .val (.int v6_2), .val (.int us0_3), .val (.ref b5), .val (.int (0 : Int32)), .val (.int u10_20)] [(.int us0_3), (.int (0 : Int32)), (.ref b5)])) rfl (by rw [hml]; rfl) (argsL := [(.ref b5), (.int (0 : Int32)), (.int us0_3)]) (rest := []) (lenOf pd___III_I rfl) rfl (by show 2 * 0 + _ ≤ _; exact Nat.le_of_eq rfl) (hb hby at_167) rfl rfl (by decide) (by decide)
        obtain ⟨rfl, N22q, eq22⟩ := hQ22
        have N22 := Fr.app N16 N22q
        refine ogo st22 ?_
        show OWay p e below G T22 (mkF m 170 #[.val (.int p0), .val (.int p1), .val (.int p2), .val (.int p3), .val (.int p4), .val (.int (1 : Int32)), .val (.int v6_2), .val (.int us0_3), .val (.ref b5), .val (.int (0 : Int32)), .val (.int u10_20)] [(.int (if p0 = us0_3 then (0 : Int32) else (-1 : Int32)))])
        refine ogo (fun _ z_ => XS.iload X22.here hx rfl (hb hby at_170) rfl z_) ?_
        show OWay p e below G T22 (mkF m 172 #[.val (.int p0), .val (.int p1), .val (.int p2), .val (.int p3), .val (.int p4), .val (.int (1 : Int32)), .val (.int v6_2), .val (.int us0_3), .val (.ref b5), .val (.int (0 : Int32)), .val (.int u10_20)] [(.int u10_20), (.int (if p0 = us0_3 then (0 : Int32) else (-1 : Int32)))])
        refine ogo (fun _ z_ => XS.icmpNo X22.here hx rfl (hb hby at_172) rfl (teq (by rw [hu10_20])).2 z_) ?_
        show OWay p e below G T22 (mkF m 175 #[.val (.int p0), .val (.int p1), .val (.int p2), .val (.int p3), .val (.int p4), .val (.int (1 : Int32)), .val (.int v6_2), .val (.int us0_3), .val (.ref b5), .val (.int (0 : Int32)), .val (.int u10_20)] [])
        refine ogo (fun _ z_ => XS.iconst X22.here hx rfl (hb hby at_175) z_) ?_
        show OWay p e below G T22 (mkF m 176 #[.val (.int p0), .val (.int p1), .val (.int p2), .val (.int p3), .val (.int p4), .val (.int (1 : Int32)), .val (.int v6_2), .val (.int us0_3), .val (.ref b5), .val (.int (0 : Int32)), .val (.int u10_20)] [(.int (1 : Int32))])
        refine ogo (fun _ z_ => XS.goto X22.here hx rfl (pc0 := 176) (pc' := 180) rfl (hb hby at_176) (by decide) (by decide) z_) ?_
        show OWay p e below G T22 (mkF m 180 #[.val (.int p0), .val (.int p1), .val (.int p2), .val (.int p3), .val (.int p4), .val (.int (1 : Int32)), .val (.int v6_2), .val (.int us0_3), .val (.ref b5), .val (.int (0 : Int32)), .val (.int u10_20)] [(.int (1 : Int32))])
        subst hG
        refine wRetN X22 hx (t := .boolean) hret hlk (by simp) (hb hby at_180) (by decide) (by decide) eq22 ?_
        exact ⟨rfl, N22⟩
      by_cases c111 : p0 = us0_3
      · refine ogo (fun _ z_ => XS.icmpNo X16.here hx rfl (hb hby at_111) rfl (teq c111).2 z_) ?_
        show OWay p e below G T16 (mkF m 114 #[.val (.int p0), .val (.int p1), .val (.int p2), .val (.int p3), .val (.int p4), .val (.int (1 : Int32)), .val (.int v6_2), .val (.int us0_3), .val (.ref b5), .val (.int (0 : Int32)), .unset] [])
        refine ogo (fun _ z_ => XS.iconst X16.here hx rfl (hb hby at_114) z_) ?_
        show OWay p e below G T16 (mkF m 115 #[.val (.int p0), .val (.int p1), .val (.int p2), .val (.int p3), .val (.int p4), .val (.int (1 : Int32)), .val (.int v6_2), .val (.int us0_3), .val (.ref b5), .val (.int (0 : Int32)), .unset] [(.int (0 : Int32))])
        refine ogo (fun _ z_ => XS.istore X16.here hx rfl (hb hby at_115) rfl (l' := #[.val (.int p0), .val (.int p1), .val (.int p2), .val (.int p3), .val (.int p4), .val (.int (1 : Int32)), .val (.int v6_2), .val (.int us0_3), .val (.ref b5), .val (.int (0 : Int32)), .val (.int (0 : Int32))]) rfl z_) ?_
        show OWay p e below G T16 (mkF m 117 #[.val (.int p0), .val (.int p1), .val (.int p2), .val (.int p3), .val (.int p4), .val (.int (1 : Int32)), .val (.int v6_2), .val (.int us0_3), .val (.ref b5), .val (.int (0 : Int32)), .val (.int (0 : Int32))] [])
        refine ogo (fun _ z_ => XS.goto X16.here hx rfl (pc0 := 117) (pc' := 161) rfl (hb hby at_117) (by decide) (by decide) z_) ?_
        show OWay p e below G T16 (mkF m 161 #[.val (.int p0), .val (.int p1), .val (.int p2), .val (.int p3), .val (.int p4), .val (.int (1 : Int32)), .val (.int v6_2), .val (.int us0_3), .val (.ref b5), .val (.int (0 : Int32)), .val (.int (0 : Int32))] [])
        exact J21 _ ((if_pos c111).trans rfl).symm
      · refine ogo (fun _ z_ => XS.icmpYes X16.here hx rfl (pc0 := 111) (pc' := 120) rfl (hb hby at_111) rfl (feq c111).2 (by decide) (by decide) z_) ?_
        show OWay p e below G T16 (mkF m 120 #[.val (.int p0), .val (.int p1), .val (.int p2), .val (.int p3), .val (.int p4), .val (.int (1 : Int32)), .val (.int v6_2), .val (.int us0_3), .val (.ref b5), .val (.int (0 : Int32)), .unset] [])
        refine ogo (fun _ z_ => XS.iload X16.here hx rfl (hb hby at_120) rfl z_) ?_
        show OWay p e below G T16 (mkF m 122 #[.val (.int p0), .val (.int p1), .val (.int p2), .val (.int p3), .val (.int p4), .val (.int (1 : Int32)), .val (.int v6_2), .val (.int us0_3), .val (.ref b5), .val (.int (0 : Int32)), .unset] [(.int (1 : Int32))])
        refine ogo (fun _ z_ => XS.iconst X16.here hx rfl (hb hby at_122) z_) ?_
        show OWay p e below G T16 (mkF m 123 #[.val (.int p0), .val (.int p1), .val (.int p2), .val (.int p3), .val (.int p4), .val (.int (1 : Int32)), .val (.int v6_2), .val (.int us0_3), .val (.ref b5), .val (.int (0 : Int32)), .unset] [(.int (2 : Int32)), (.int (1 : Int32))])
        refine ogo (fun _ z_ => XS.icmpYes X16.here hx rfl (pc0 := 123) (pc' := 139) rfl (hb hby at_123) rfl (tlt (by decide)).1 (by decide) (by decide) z_) ?_
        show OWay p e below G T16 (mkF m 139 #[.val (.int p0), .val (.int p1), .val (.int p2), .val (.int p3), .val (.int p4), .val (.int (1 : Int32)), .val (.int v6_2), .val (.int us0_3), .val (.ref b5), .val (.int (0 : Int32)), .unset] [])
        refine ogo (fun _ z_ => XS.iload X16.here hx rfl (hb hby at_139) rfl z_) ?_
        show OWay p e below G T16 (mkF m 141 #[.val (.int p0), .val (.int p1), .val (.int p2), .val (.int p3), .val (.int p4), .val (.int (1 : Int32)), .val (.int v6_2), .val (.int us0_3), .val (.ref b5), .val (.int (0 : Int32)), .unset] [(.int (1 : Int32))])
        refine ogo (fun _ z_ => XS.iconst X16.here hx rfl (hb hby at_141) z_) ?_
        show OWay p e below G T16 (mkF m 142 #[.val (.int p0), .val (.int p1), .val (.int p2), .val (.int p3), .val (.int p4), .val (.int (1 : Int32)), .val (.int v6_2), .val (.int us0_3), .val (.ref b5), .val (.int (0 : Int32)), .unset] [(.int (3 : Int32)), (.int (1 : Int32))])
        refine ogo (fun _ z_ => XS.icmpYes X16.here hx rfl (pc0 := 142) (pc' := 158) rfl (hb hby at_142) rfl (tlt (by decide)).1 (by decide) (by decide) z_) ?_
        show OWay p e below G T16 (mkF m 158 #[.val (.int p0), .val (.int p1), .val (.int p2), .val (.int p3), .val (.int p4), .val (.int (1 : Int32)), .val (.int v6_2), .val (.int us0_3), .val (.ref b5), .val (.int (0 : Int32)), .unset] [])
        refine ogo (fun _ z_ => XS.iconst X16.here hx rfl (hb hby at_158) z_) ?_
        show OWay p e below G T16 (mkF m 159 #[.val (.int p0), .val (.int p1), .val (.int p2), .val (.int p3), .val (.int p4), .val (.int (1 : Int32)), .val (.int v6_2), .val (.int us0_3), .val (.ref b5), .val (.int (0 : Int32)), .unset] [(.int (-1 : Int32))])
        refine ogo (fun _ z_ => XS.istore X16.here hx rfl (hb hby at_159) rfl (l' := #[.val (.int p0), .val (.int p1), .val (.int p2), .val (.int p3), .val (.int p4), .val (.int (1 : Int32)), .val (.int v6_2), .val (.int us0_3), .val (.ref b5), .val (.int (0 : Int32)), .val (.int (-1 : Int32))]) rfl z_) ?_
        show OWay p e below G T16 (mkF m 161 #[.val (.int p0), .val (.int p1), .val (.int p2), .val (.int p3), .val (.int p4), .val (.int (1 : Int32)), .val (.int v6_2), .val (.int us0_3), .val (.ref b5), .val (.int (0 : Int32)), .val (.int (-1 : Int32))] [])
        exact J21 _ ((if_neg c111).trans rfl).symm
    · show OWay p e below G T16 (mkF m 92 #[.val (.int p0), .val (.int p1), .val (.int p2), .val (.int p3), .val (.int p4), .val (.int (2 : Int32)), .val (.int v6_2), .val (.int us0_3), .val (.ref b5), .unset, .unset] [])
      refine ogo (fun _ z_ => XS.bipush X16.here hx rfl (hb hby at_92) z_) ?_
      show OWay p e below G T16 (mkF m 94 #[.val (.int p0), .val (.int p1), .val (.int p2), .val (.int p3), .val (.int p4), .val (.int (2 : Int32)), .val (.int v6_2), .val (.int us0_3), .val (.ref b5), .unset, .unset] [(.int (6 : Int32))])
      refine ogo (fun _ z_ => XS.iload X16.here hx rfl (hb hby at_94) rfl z_) ?_
      show OWay p e below G T16 (mkF m 96 #[.val (.int p0), .val (.int p1), .val (.int p2), .val (.int p3), .val (.int p4), .val (.int (2 : Int32)), .val (.int v6_2), .val (.int us0_3), .val (.ref b5), .unset, .unset] [(.int (2 : Int32)), (.int (6 : Int32))])
      refine ogo (fun _ z_ => XS.imul X16.here hx rfl (hb hby at_96) rfl z_) ?_
      show OWay p e below G T16 (mkF m 97 #[.val (.int p0), .val (.int p1), .val (.int p2), .val (.int p3), .val (.int p4), .val (.int (2 : Int32)), .val (.int v6_2), .val (.int us0_3), .val (.ref b5), .unset, .unset] [(.int ((6 : Int32) * (2 : Int32)))])
      refine ogoE (g' := (mkF m 97 #[.val (.int p0), .val (.int p1), .val (.int p2), .val (.int p3), .val (.int p4), .val (.int (2 : Int32)), .val (.int v6_2), .val (.int us0_3), .val (.ref b5), .unset, .unset] [(.int (12 : Int32))])) (by rw [show ((6 : Int32) * (2 : Int32)) = (12 : Int32) from by decide]) ?_
      refine ogo (fun _ z_ => XS.bipush X16.here hx rfl (hb hby at_97) z_) ?_
      show OWay p e below G T16 (mkF m 99 #[.val (.int p0), .val (.int p1), .val (.int p2), .val (.int p3), .val (.int p4), .val (.int (2 : Int32)), .val (.int v6_2), .val (.int us0_3), .val (.ref b5), .unset, .unset] [(.int (6 : Int32)), (.int (12 : Int32))])
      refine ogo (fun _ z_ => XS.isub X16.here hx rfl (hb hby at_99) rfl z_) ?_
      show OWay p e below G T16 (mkF m 100 #[.val (.int p0), .val (.int p1), .val (.int p2), .val (.int p3), .val (.int p4), .val (.int (2 : Int32)), .val (.int v6_2), .val (.int us0_3), .val (.ref b5), .unset, .unset] [(.int ((12 : Int32) - (6 : Int32)))])
      refine ogoE (g' := (mkF m 100 #[.val (.int p0), .val (.int p1), .val (.int p2), .val (.int p3), .val (.int p4), .val (.int (2 : Int32)), .val (.int v6_2), .val (.int us0_3), .val (.ref b5), .unset, .unset] [(.int (6 : Int32))])) (by rw [show ((12 : Int32) - (6 : Int32)) = (6 : Int32) from by decide]) ?_
      refine ogo (fun _ z_ => XS.istore X16.here hx rfl (hb hby at_100) rfl (l' := #[.val (.int p0), .val (.int p1), .val (.int p2), .val (.int p3), .val (.int p4), .val (.int (2 : Int32)), .val (.int v6_2), .val (.int us0_3), .val (.ref b5), .val (.int (6 : Int32)), .unset]) rfl z_) ?_
      show OWay p e below G T16 (mkF m 102 #[.val (.int p0), .val (.int p1), .val (.int p2), .val (.int p3), .val (.int p4), .val (.int (2 : Int32)), .val (.int v6_2), .val (.int us0_3), .val (.ref b5), .val (.int (6 : Int32)), .unset] [])
      refine ogo (fun _ z_ => XS.iload X16.here hx rfl (hb hby at_102) rfl z_) ?_
      show OWay p e below G T16 (mkF m 104 #[.val (.int p0), .val (.int p1), .val (.int p2), .val (.int p3), .val (.int p4), .val (.int (2 : Int32)), .val (.int v6_2), .val (.int us0_3), .val (.ref b5), .val (.int (6 : Int32)), .unset] [(.int (2 : Int32))])
      refine ogo (fun _ z_ => XS.iconst X16.here hx rfl (hb hby at_104) z_) ?_
      show OWay p e below G T16 (mkF m 105 #[.val (.int p0), .val (.int p1), .val (.int p2), .val (.int p3), .val (.int p4), .val (.int (2 : Int32)), .val (.int v6_2), .val (.int us0_3), .val (.ref b5), .val (.int (6 : Int32)), .unset] [(.int (1 : Int32)), (.int (2 : Int32))])
      refine ogo (fun _ z_ => XS.icmpNo X16.here hx rfl (hb hby at_105) rfl (flt (by decide)).1 z_) ?_
      show OWay p e below G T16 (mkF m 108 #[.val (.int p0), .val (.int p1), .val (.int p2), .val (.int p3), .val (.int p4), .val (.int (2 : Int32)), .val (.int v6_2), .val (.int us0_3), .val (.ref b5), .val (.int (6 : Int32)), .unset] [])
      refine ogo (fun _ z_ => XS.iloadN X16.here hx rfl (hb hby at_108) rfl z_) ?_
      show OWay p e below G T16 (mkF m 109 #[.val (.int p0), .val (.int p1), .val (.int p2), .val (.int p3), .val (.int p4), .val (.int (2 : Int32)), .val (.int v6_2), .val (.int us0_3), .val (.ref b5), .val (.int (6 : Int32)), .unset] [(.int p0)])
      refine ogo (fun _ z_ => XS.iload X16.here hx rfl (hb hby at_109) rfl z_) ?_
      show OWay p e below G T16 (mkF m 111 #[.val (.int p0), .val (.int p1), .val (.int p2), .val (.int p3), .val (.int p4), .val (.int (2 : Int32)), .val (.int v6_2), .val (.int us0_3), .val (.ref b5), .val (.int (6 : Int32)), .unset] [(.int us0_3), (.int p0)])
      have J24 : ∀ (u10_23 : Int32), u10_23 = (if p0 = us0_3 then (0 : Int32) else (if p1 = us0_3 then (6 : Int32) else (-1 : Int32))) → OWay p e below G T16 (mkF m 161 #[.val (.int p0), .val (.int p1), .val (.int p2), .val (.int p3), .val (.int p4), .val (.int (2 : Int32)), .val (.int v6_2), .val (.int us0_3), .val (.ref b5), .val (.int (6 : Int32)), .val (.int u10_23)] []) := by
        intro u10_23 hu10_23
        refine ogo (fun _ z_ => XS.aload X16.here hx rfl (hb hby at_161) rfl rfl z_) ?_
        show OWay p e below G T16 (mkF m 163 #[.val (.int p0), .val (.int p1), .val (.int p2), .val (.int p3), .val (.int p4), .val (.int (2 : Int32)), .val (.int v6_2), .val (.int us0_3), .val (.ref b5), .val (.int (6 : Int32)), .val (.int u10_23)] [(.ref b5)])
        refine ogo (fun _ z_ => XS.iload X16.here hx rfl (hb hby at_163) rfl z_) ?_
        show OWay p e below G T16 (mkF m 165 #[.val (.int p0), .val (.int p1), .val (.int p2), .val (.int p3), .val (.int p4), .val (.int (2 : Int32)), .val (.int v6_2), .val (.int us0_3), .val (.ref b5), .val (.int (6 : Int32)), .val (.int u10_23)] [(.int (6 : Int32)), (.ref b5)])
        refine ogo (fun _ z_ => XS.iload X16.here hx rfl (hb hby at_165) rfl z_) ?_
        show OWay p e below G T16 (mkF m 167 #[.val (.int p0), .val (.int p1), .val (.int p2), .val (.int p3), .val (.int p4), .val (.int (2 : Int32)), .val (.int v6_2), .val (.int us0_3), .val (.ref b5), .val (.int (6 : Int32)), .val (.int u10_23)] [(.int us0_3), (.int (6 : Int32)), (.ref b5)])
        obtain ⟨_, T25, L25, X25, hQ25, st25⟩ := wStatic X16 hx hZ (y := (⟨"com/example/geotide/geotide/Members", "find", "([III)I"⟩ : MethodName)) hown (hw _ (List.mem_of_getElem? (i := 5) rfl)) (hw _ (List.mem_of_getElem? (i := 6) rfl)) (hw _ (List.mem_of_getElem? (i := 7) rfl)) (hw _ (List.mem_of_getElem? (i := 8) rfl)) (by decide) (find6_c l Z az hw [] b5 us0_3 k5 p0 (.int us0_3) (.int us0_3) (.int us0_3) (.int us0_3) (.int us0_3) p1 (.int us0_3) (.int us0_3) (.int us0_3) (.int us0_3) (.int us0_3) (.int p2) (.int us0_3) (.int us0_3) (.int us0_3) (.int us0_3) (.int us0_3) (.int us0_3) (.int us0_3) (.int us0_3) (.int us0_3) (.int us0_3) (.int us0_3) T16.heap n0 (Nat.le_trans (Nat.le_trans (Nat.le_trans (Nat.le_trans (Nat.le_trans Z0 E5.1) Kq7.1) Kq10.1) Kq13.1) Kq16.1) P17) 0 (by decide) (by decide) (g := (mkF m 167 #[.val (.int p0), .val (.int p1), .val (.int p2), .val (.int p3), .val (.int p4), .val (.int (2 : Int32)), .val (.int v6_2), .val (.int us0_3), .val (.ref b5), .val (.int (6 : Int32)), .val (.int u10_23)] [(.int us0_3), (.int (6 : Int32)), (.ref b5)])) rfl (by rw [hml]; rfl) (argsL := [(.ref b5), (.int (6 : Int32)), (.int us0_3)]) (rest := []) (lenOf pd___III_I rfl) rfl (by show 2 * 0 + _ ≤ _; exact Nat.le_of_eq rfl) (hb hby at_167) rfl rfl (by decide) (by decide)
        obtain ⟨rfl, N25q, eq25⟩ := hQ25
        have N25 := Fr.app N16 N25q
        refine ogo st25 ?_
        show OWay p e below G T25 (mkF m 170 #[.val (.int p0), .val (.int p1), .val (.int p2), .val (.int p3), .val (.int p4), .val (.int (2 : Int32)), .val (.int v6_2), .val (.int us0_3), .val (.ref b5), .val (.int (6 : Int32)), .val (.int u10_23)] [(.int (if p0 = us0_3 then (0 : Int32) else (if p1 = us0_3 then (6 : Int32) else (-1 : Int32))))])
        refine ogo (fun _ z_ => XS.iload X25.here hx rfl (hb hby at_170) rfl z_) ?_
        show OWay p e below G T25 (mkF m 172 #[.val (.int p0), .val (.int p1), .val (.int p2), .val (.int p3), .val (.int p4), .val (.int (2 : Int32)), .val (.int v6_2), .val (.int us0_3), .val (.ref b5), .val (.int (6 : Int32)), .val (.int u10_23)] [(.int u10_23), (.int (if p0 = us0_3 then (0 : Int32) else (if p1 = us0_3 then (6 : Int32) else (-1 : Int32))))])
        refine ogo (fun _ z_ => XS.icmpNo X25.here hx rfl (hb hby at_172) rfl (teq (by rw [hu10_23])).2 z_) ?_
        show OWay p e below G T25 (mkF m 175 #[.val (.int p0), .val (.int p1), .val (.int p2), .val (.int p3), .val (.int p4), .val (.int (2 : Int32)), .val (.int v6_2), .val (.int us0_3), .val (.ref b5), .val (.int (6 : Int32)), .val (.int u10_23)] [])
        refine ogo (fun _ z_ => XS.iconst X25.here hx rfl (hb hby at_175) z_) ?_
        show OWay p e below G T25 (mkF m 176 #[.val (.int p0), .val (.int p1), .val (.int p2), .val (.int p3), .val (.int p4), .val (.int (2 : Int32)), .val (.int v6_2), .val (.int us0_3), .val (.ref b5), .val (.int (6 : Int32)), .val (.int u10_23)] [(.int (1 : Int32))])
        refine ogo (fun _ z_ => XS.goto X25.here hx rfl (pc0 := 176) (pc' := 180) rfl (hb hby at_176) (by decide) (by decide) z_) ?_
        show OWay p e below G T25 (mkF m 180 #[.val (.int p0), .val (.int p1), .val (.int p2), .val (.int p3), .val (.int p4), .val (.int (2 : Int32)), .val (.int v6_2), .val (.int us0_3), .val (.ref b5), .val (.int (6 : Int32)), .val (.int u10_23)] [(.int (1 : Int32))])
        subst hG
        refine wRetN X25 hx (t := .boolean) hret hlk (by simp) (hb hby at_180) (by decide) (by decide) eq25 ?_
        exact ⟨rfl, N25⟩
      by_cases c111 : p0 = us0_3
      · refine ogo (fun _ z_ => XS.icmpNo X16.here hx rfl (hb hby at_111) rfl (teq c111).2 z_) ?_
        show OWay p e below G T16 (mkF m 114 #[.val (.int p0), .val (.int p1), .val (.int p2), .val (.int p3), .val (.int p4), .val (.int (2 : Int32)), .val (.int v6_2), .val (.int us0_3), .val (.ref b5), .val (.int (6 : Int32)), .unset] [])
        refine ogo (fun _ z_ => XS.iconst X16.here hx rfl (hb hby at_114) z_) ?_
        show OWay p e below G T16 (mkF m 115 #[.val (.int p0), .val (.int p1), .val (.int p2), .val (.int p3), .val (.int p4), .val (.int (2 : Int32)), .val (.int v6_2), .val (.int us0_3), .val (.ref b5), .val (.int (6 : Int32)), .unset] [(.int (0 : Int32))])
        refine ogo (fun _ z_ => XS.istore X16.here hx rfl (hb hby at_115) rfl (l' := #[.val (.int p0), .val (.int p1), .val (.int p2), .val (.int p3), .val (.int p4), .val (.int (2 : Int32)), .val (.int v6_2), .val (.int us0_3), .val (.ref b5), .val (.int (6 : Int32)), .val (.int (0 : Int32))]) rfl z_) ?_
        show OWay p e below G T16 (mkF m 117 #[.val (.int p0), .val (.int p1), .val (.int p2), .val (.int p3), .val (.int p4), .val (.int (2 : Int32)), .val (.int v6_2), .val (.int us0_3), .val (.ref b5), .val (.int (6 : Int32)), .val (.int (0 : Int32))] [])
        refine ogo (fun _ z_ => XS.goto X16.here hx rfl (pc0 := 117) (pc' := 161) rfl (hb hby at_117) (by decide) (by decide) z_) ?_
        show OWay p e below G T16 (mkF m 161 #[.val (.int p0), .val (.int p1), .val (.int p2), .val (.int p3), .val (.int p4), .val (.int (2 : Int32)), .val (.int v6_2), .val (.int us0_3), .val (.ref b5), .val (.int (6 : Int32)), .val (.int (0 : Int32))] [])
        exact J24 _ ((if_pos c111).trans rfl).symm
      · refine ogo (fun _ z_ => XS.icmpYes X16.here hx rfl (pc0 := 111) (pc' := 120) rfl (hb hby at_111) rfl (feq c111).2 (by decide) (by decide) z_) ?_
        show OWay p e below G T16 (mkF m 120 #[.val (.int p0), .val (.int p1), .val (.int p2), .val (.int p3), .val (.int p4), .val (.int (2 : Int32)), .val (.int v6_2), .val (.int us0_3), .val (.ref b5), .val (.int (6 : Int32)), .unset] [])
        refine ogo (fun _ z_ => XS.iload X16.here hx rfl (hb hby at_120) rfl z_) ?_
        show OWay p e below G T16 (mkF m 122 #[.val (.int p0), .val (.int p1), .val (.int p2), .val (.int p3), .val (.int p4), .val (.int (2 : Int32)), .val (.int v6_2), .val (.int us0_3), .val (.ref b5), .val (.int (6 : Int32)), .unset] [(.int (2 : Int32))])
        refine ogo (fun _ z_ => XS.iconst X16.here hx rfl (hb hby at_122) z_) ?_
        show OWay p e below G T16 (mkF m 123 #[.val (.int p0), .val (.int p1), .val (.int p2), .val (.int p3), .val (.int p4), .val (.int (2 : Int32)), .val (.int v6_2), .val (.int us0_3), .val (.ref b5), .val (.int (6 : Int32)), .unset] [(.int (2 : Int32)), (.int (2 : Int32))])
        refine ogo (fun _ z_ => XS.icmpNo X16.here hx rfl (hb hby at_123) rfl (flt (by decide)).1 z_) ?_
        show OWay p e below G T16 (mkF m 126 #[.val (.int p0), .val (.int p1), .val (.int p2), .val (.int p3), .val (.int p4), .val (.int (2 : Int32)), .val (.int v6_2), .val (.int us0_3), .val (.ref b5), .val (.int (6 : Int32)), .unset] [])
        refine ogo (fun _ z_ => XS.iloadN X16.here hx rfl (hb hby at_126) rfl z_) ?_
        show OWay p e below G T16 (mkF m 127 #[.val (.int p0), .val (.int p1), .val (.int p2), .val (.int p3), .val (.int p4), .val (.int (2 : Int32)), .val (.int v6_2), .val (.int us0_3), .val (.ref b5), .val (.int (6 : Int32)), .unset] [(.int p1)])
        refine ogo (fun _ z_ => XS.iload X16.here hx rfl (hb hby at_127) rfl z_) ?_
        show OWay p e below G T16 (mkF m 129 #[.val (.int p0), .val (.int p1), .val (.int p2), .val (.int p3), .val (.int p4), .val (.int (2 : Int32)), .val (.int v6_2), .val (.int us0_3), .val (.ref b5), .val (.int (6 : Int32)), .unset] [(.int us0_3), (.int p1)])
        by_cases c129 : p1 = us0_3
        · refine ogo (fun _ z_ => XS.icmpNo X16.here hx rfl (hb hby at_129) rfl (teq c129).2 z_) ?_
          show OWay p e below G T16 (mkF m 132 #[.val (.int p0), .val (.int p1), .val (.int p2), .val (.int p3), .val (.int p4), .val (.int (2 : Int32)), .val (.int v6_2), .val (.int us0_3), .val (.ref b5), .val (.int (6 : Int32)), .unset] [])
          refine ogo (fun _ z_ => XS.bipush X16.here hx rfl (hb hby at_132) z_) ?_
          show OWay p e below G T16 (mkF m 134 #[.val (.int p0), .val (.int p1), .val (.int p2), .val (.int p3), .val (.int p4), .val (.int (2 : Int32)), .val (.int v6_2), .val (.int us0_3), .val (.ref b5), .val (.int (6 : Int32)), .unset] [(.int (6 : Int32))])
          refine ogo (fun _ z_ => XS.istore X16.here hx rfl (hb hby at_134) rfl (l' := #[.val (.int p0), .val (.int p1), .val (.int p2), .val (.int p3), .val (.int p4), .val (.int (2 : Int32)), .val (.int v6_2), .val (.int us0_3), .val (.ref b5), .val (.int (6 : Int32)), .val (.int (6 : Int32))]) rfl z_) ?_
          show OWay p e below G T16 (mkF m 136 #[.val (.int p0), .val (.int p1), .val (.int p2), .val (.int p3), .val (.int p4), .val (.int (2 : Int32)), .val (.int v6_2), .val (.int us0_3), .val (.ref b5), .val (.int (6 : Int32)), .val (.int (6 : Int32))] [])
          refine ogo (fun _ z_ => XS.goto X16.here hx rfl (pc0 := 136) (pc' := 161) rfl (hb hby at_136) (by decide) (by decide) z_) ?_
          show OWay p e below G T16 (mkF m 161 #[.val (.int p0), .val (.int p1), .val (.int p2), .val (.int p3), .val (.int p4), .val (.int (2 : Int32)), .val (.int v6_2), .val (.int us0_3), .val (.ref b5), .val (.int (6 : Int32)), .val (.int (6 : Int32))] [])
          exact J24 _ ((if_neg c111).trans ((if_pos c129).trans rfl)).symm
        · refine ogo (fun _ z_ => XS.icmpYes X16.here hx rfl (pc0 := 129) (pc' := 139) rfl (hb hby at_129) rfl (feq c129).2 (by decide) (by decide) z_) ?_
          show OWay p e below G T16 (mkF m 139 #[.val (.int p0), .val (.int p1), .val (.int p2), .val (.int p3), .val (.int p4), .val (.int (2 : Int32)), .val (.int v6_2), .val (.int us0_3), .val (.ref b5), .val (.int (6 : Int32)), .unset] [])
          refine ogo (fun _ z_ => XS.iload X16.here hx rfl (hb hby at_139) rfl z_) ?_
          show OWay p e below G T16 (mkF m 141 #[.val (.int p0), .val (.int p1), .val (.int p2), .val (.int p3), .val (.int p4), .val (.int (2 : Int32)), .val (.int v6_2), .val (.int us0_3), .val (.ref b5), .val (.int (6 : Int32)), .unset] [(.int (2 : Int32))])
          refine ogo (fun _ z_ => XS.iconst X16.here hx rfl (hb hby at_141) z_) ?_
          show OWay p e below G T16 (mkF m 142 #[.val (.int p0), .val (.int p1), .val (.int p2), .val (.int p3), .val (.int p4), .val (.int (2 : Int32)), .val (.int v6_2), .val (.int us0_3), .val (.ref b5), .val (.int (6 : Int32)), .unset] [(.int (3 : Int32)), (.int (2 : Int32))])
          refine ogo (fun _ z_ => XS.icmpYes X16.here hx rfl (pc0 := 142) (pc' := 158) rfl (hb hby at_142) rfl (tlt (by decide)).1 (by decide) (by decide) z_) ?_
          show OWay p e below G T16 (mkF m 158 #[.val (.int p0), .val (.int p1), .val (.int p2), .val (.int p3), .val (.int p4), .val (.int (2 : Int32)), .val (.int v6_2), .val (.int us0_3), .val (.ref b5), .val (.int (6 : Int32)), .unset] [])
          refine ogo (fun _ z_ => XS.iconst X16.here hx rfl (hb hby at_158) z_) ?_
          show OWay p e below G T16 (mkF m 159 #[.val (.int p0), .val (.int p1), .val (.int p2), .val (.int p3), .val (.int p4), .val (.int (2 : Int32)), .val (.int v6_2), .val (.int us0_3), .val (.ref b5), .val (.int (6 : Int32)), .unset] [(.int (-1 : Int32))])
          refine ogo (fun _ z_ => XS.istore X16.here hx rfl (hb hby at_159) rfl (l' := #[.val (.int p0), .val (.int p1), .val (.int p2), .val (.int p3), .val (.int p4), .val (.int (2 : Int32)), .val (.int v6_2), .val (.int us0_3), .val (.ref b5), .val (.int (6 : Int32)), .val (.int (-1 : Int32))]) rfl z_) ?_
          show OWay p e below G T16 (mkF m 161 #[.val (.int p0), .val (.int p1), .val (.int p2), .val (.int p3), .val (.int p4), .val (.int (2 : Int32)), .val (.int v6_2), .val (.int us0_3), .val (.ref b5), .val (.int (6 : Int32)), .val (.int (-1 : Int32))] [])
          exact J24 _ ((if_neg c111).trans ((if_neg c129).trans rfl)).symm
    · show OWay p e below G T16 (mkF m 92 #[.val (.int p0), .val (.int p1), .val (.int p2), .val (.int p3), .val (.int p4), .val (.int (3 : Int32)), .val (.int v6_2), .val (.int us0_3), .val (.ref b5), .unset, .unset] [])
      refine ogo (fun _ z_ => XS.bipush X16.here hx rfl (hb hby at_92) z_) ?_
      show OWay p e below G T16 (mkF m 94 #[.val (.int p0), .val (.int p1), .val (.int p2), .val (.int p3), .val (.int p4), .val (.int (3 : Int32)), .val (.int v6_2), .val (.int us0_3), .val (.ref b5), .unset, .unset] [(.int (6 : Int32))])
      refine ogo (fun _ z_ => XS.iload X16.here hx rfl (hb hby at_94) rfl z_) ?_
      show OWay p e below G T16 (mkF m 96 #[.val (.int p0), .val (.int p1), .val (.int p2), .val (.int p3), .val (.int p4), .val (.int (3 : Int32)), .val (.int v6_2), .val (.int us0_3), .val (.ref b5), .unset, .unset] [(.int (3 : Int32)), (.int (6 : Int32))])
      refine ogo (fun _ z_ => XS.imul X16.here hx rfl (hb hby at_96) rfl z_) ?_
      show OWay p e below G T16 (mkF m 97 #[.val (.int p0), .val (.int p1), .val (.int p2), .val (.int p3), .val (.int p4), .val (.int (3 : Int32)), .val (.int v6_2), .val (.int us0_3), .val (.ref b5), .unset, .unset] [(.int ((6 : Int32) * (3 : Int32)))])
      refine ogoE (g' := (mkF m 97 #[.val (.int p0), .val (.int p1), .val (.int p2), .val (.int p3), .val (.int p4), .val (.int (3 : Int32)), .val (.int v6_2), .val (.int us0_3), .val (.ref b5), .unset, .unset] [(.int (18 : Int32))])) (by rw [show ((6 : Int32) * (3 : Int32)) = (18 : Int32) from by decide]) ?_
      refine ogo (fun _ z_ => XS.bipush X16.here hx rfl (hb hby at_97) z_) ?_
      show OWay p e below G T16 (mkF m 99 #[.val (.int p0), .val (.int p1), .val (.int p2), .val (.int p3), .val (.int p4), .val (.int (3 : Int32)), .val (.int v6_2), .val (.int us0_3), .val (.ref b5), .unset, .unset] [(.int (6 : Int32)), (.int (18 : Int32))])
      refine ogo (fun _ z_ => XS.isub X16.here hx rfl (hb hby at_99) rfl z_) ?_
      show OWay p e below G T16 (mkF m 100 #[.val (.int p0), .val (.int p1), .val (.int p2), .val (.int p3), .val (.int p4), .val (.int (3 : Int32)), .val (.int v6_2), .val (.int us0_3), .val (.ref b5), .unset, .unset] [(.int ((18 : Int32) - (6 : Int32)))])
      refine ogoE (g' := (mkF m 100 #[.val (.int p0), .val (.int p1), .val (.int p2), .val (.int p3), .val (.int p4), .val (.int (3 : Int32)), .val (.int v6_2), .val (.int us0_3), .val (.ref b5), .unset, .unset] [(.int (12 : Int32))])) (by rw [show ((18 : Int32) - (6 : Int32)) = (12 : Int32) from by decide]) ?_
      refine ogo (fun _ z_ => XS.istore X16.here hx rfl (hb hby at_100) rfl (l' := #[.val (.int p0), .val (.int p1), .val (.int p2), .val (.int p3), .val (.int p4), .val (.int (3 : Int32)), .val (.int v6_2), .val (.int us0_3), .val (.ref b5), .val (.int (12 : Int32)), .unset]) rfl z_) ?_
      show OWay p e below G T16 (mkF m 102 #[.val (.int p0), .val (.int p1), .val (.int p2), .val (.int p3), .val (.int p4), .val (.int (3 : Int32)), .val (.int v6_2), .val (.int us0_3), .val (.ref b5), .val (.int (12 : Int32)), .unset] [])
      refine ogo (fun _ z_ => XS.iload X16.here hx rfl (hb hby at_102) rfl z_) ?_
      show OWay p e below G T16 (mkF m 104 #[.val (.int p0), .val (.int p1), .val (.int p2), .val (.int p3), .val (.int p4), .val (.int (3 : Int32)), .val (.int v6_2), .val (.int us0_3), .val (.ref b5), .val (.int (12 : Int32)), .unset] [(.int (3 : Int32))])
      refine ogo (fun _ z_ => XS.iconst X16.here hx rfl (hb hby at_104) z_) ?_
      show OWay p e below G T16 (mkF m 105 #[.val (.int p0), .val (.int p1), .val (.int p2), .val (.int p3), .val (.int p4), .val (.int (3 : Int32)), .val (.int v6_2), .val (.int us0_3), .val (.ref b5), .val (.int (12 : Int32)), .unset] [(.int (1 : Int32)), (.int (3 : Int32))])
      refine ogo (fun _ z_ => XS.icmpNo X16.here hx rfl (hb hby at_105) rfl (flt (by decide)).1 z_) ?_
      show OWay p e below G T16 (mkF m 108 #[.val (.int p0), .val (.int p1), .val (.int p2), .val (.int p3), .val (.int p4), .val (.int (3 : Int32)), .val (.int v6_2), .val (.int us0_3), .val (.ref b5), .val (.int (12 : Int32)), .unset] [])
      refine ogo (fun _ z_ => XS.iloadN X16.here hx rfl (hb hby at_108) rfl z_) ?_
      show OWay p e below G T16 (mkF m 109 #[.val (.int p0), .val (.int p1), .val (.int p2), .val (.int p3), .val (.int p4), .val (.int (3 : Int32)), .val (.int v6_2), .val (.int us0_3), .val (.ref b5), .val (.int (12 : Int32)), .unset] [(.int p0)])
      refine ogo (fun _ z_ => XS.iload X16.here hx rfl (hb hby at_109) rfl z_) ?_
      show OWay p e below G T16 (mkF m 111 #[.val (.int p0), .val (.int p1), .val (.int p2), .val (.int p3), .val (.int p4), .val (.int (3 : Int32)), .val (.int v6_2), .val (.int us0_3), .val (.ref b5), .val (.int (12 : Int32)), .unset] [(.int us0_3), (.int p0)])
      have J27 : ∀ (u10_26 : Int32), u10_26 = (if p0 = us0_3 then (0 : Int32) else (if p1 = us0_3 then (6 : Int32) else (if p2 = us0_3 then (12 : Int32) else (-1 : Int32)))) → OWay p e below G T16 (mkF m 161 #[.val (.int p0), .val (.int p1), .val (.int p2), .val (.int p3), .val (.int p4), .val (.int (3 : Int32)), .val (.int v6_2), .val (.int us0_3), .val (.ref b5), .val (.int (12 : Int32)), .val (.int u10_26)] []) := by
        intro u10_26 hu10_26
        refine ogo (fun _ z_ => XS.aload X16.here hx rfl (hb hby at_161) rfl rfl z_) ?_
        show OWay p e below G T16 (mkF m 163 #[.val (.int p0), .val (.int p1), .val (.int p2), .val (.int p3), .val (.int p4), .val (.int (3 : Int32)), .val (.int v6_2), .val (.int us0_3), .val (.ref b5), .val (.int (12 : Int32)), .val (.int u10_26)] [(.ref b5)])
        refine ogo (fun _ z_ => XS.iload X16.here hx rfl (hb hby at_163) rfl z_) ?_
        show OWay p e below G T16 (mkF m 165 #[.val (.int p0), .val (.int p1), .val (.int p2), .val (.int p3), .val (.int p4), .val (.int (3 : Int32)), .val (.int v6_2), .val (.int us0_3), .val (.ref b5), .val (.int (12 : Int32)), .val (.int u10_26)] [(.int (12 : Int32)), (.ref b5)])
        refine ogo (fun _ z_ => XS.iload X16.here hx rfl (hb hby at_165) rfl z_) ?_
        show OWay p e below G T16 (mkF m 167 #[.val (.int p0), .val (.int p1), .val (.int p2), .val (.int p3), .val (.int p4), .val (.int (3 : Int32)), .val (.int v6_2), .val (.int us0_3), .val (.ref b5), .val (.int (12 : Int32)), .val (.int u10_26)] [(.int us0_3), (.int (12 : Int32)), (.ref b5)])
        obtain ⟨_, T28, L28, X28, hQ28, st28⟩ := wStatic X16 hx hZ (y := (⟨"com/example/geotide/geotide/Members", "find", "([III)I"⟩ : MethodName)) hown (hw _ (List.mem_of_getElem? (i := 5) rfl)) (hw _ (List.mem_of_getElem? (i := 6) rfl)) (hw _ (List.mem_of_getElem? (i := 7) rfl)) (hw _ (List.mem_of_getElem? (i := 8) rfl)) (by decide) (find12_c l Z az hw [] b5 us0_3 k5 p0 (.int us0_3) (.int us0_3) (.int us0_3) (.int us0_3) (.int us0_3) p1 (.int us0_3) (.int us0_3) (.int us0_3) (.int us0_3) (.int us0_3) p2 (.int us0_3) (.int us0_3) (.int us0_3) (.int us0_3) (.int us0_3) (.int us0_3) (.int us0_3) (.int us0_3) (.int us0_3) (.int us0_3) (.int us0_3) T16.heap n0 (Nat.le_trans (Nat.le_trans (Nat.le_trans (Nat.le_trans (Nat.le_trans Z0 E5.1) Kq7.1) Kq10.1) Kq13.1) Kq16.1) P17) 0 (by decide) (by decide) (g := (mkF m 167 #[.val (.int p0), .val (.int p1), .val (.int p2), .val (.int p3), .val (.int p4), .val (.int (3 : Int32)), .val (.int v6_2), .val (.int us0_3), .val (.ref b5), .val (.int (12 : Int32)), .val (.int u10_26)] [(.int us0_3), (.int (12 : Int32)), (.ref b5)])) rfl (by rw [hml]; rfl) (argsL := [(.ref b5), (.int (12 : Int32)), (.int us0_3)]) (rest := []) (lenOf pd___III_I rfl) rfl (by show 2 * 0 + _ ≤ _; exact Nat.le_of_eq rfl) (hb hby at_167) rfl rfl (by decide) (by decide)
        obtain ⟨rfl, N28q, eq28⟩ := hQ28
        have N28 := Fr.app N16 N28q
        refine ogo st28 ?_
        show OWay p e below G T28 (mkF m 170 #[.val (.int p0), .val (.int p1), .val (.int p2), .val (.int p3), .val (.int p4), .val (.int (3 : Int32)), .val (.int v6_2), .val (.int us0_3), .val (.ref b5), .val (.int (12 : Int32)), .val (.int u10_26)] [(.int (if p0 = us0_3 then (0 : Int32) else (if p1 = us0_3 then (6 : Int32) else (if p2 = us0_3 then (12 : Int32) else (-1 : Int32)))))])
        refine ogo (fun _ z_ => XS.iload X28.here hx rfl (hb hby at_170) rfl z_) ?_
        show OWay p e below G T28 (mkF m 172 #[.val (.int p0), .val (.int p1), .val (.int p2), .val (.int p3), .val (.int p4), .val (.int (3 : Int32)), .val (.int v6_2), .val (.int us0_3), .val (.ref b5), .val (.int (12 : Int32)), .val (.int u10_26)] [(.int u10_26), (.int (if p0 = us0_3 then (0 : Int32) else (if p1 = us0_3 then (6 : Int32) else (if p2 = us0_3 then (12 : Int32) else (-1 : Int32)))))])
        refine ogo (fun _ z_ => XS.icmpNo X28.here hx rfl (hb hby at_172) rfl (teq (by rw [hu10_26])).2 z_) ?_
        show OWay p e below G T28 (mkF m 175 #[.val (.int p0), .val (.int p1), .val (.int p2), .val (.int p3), .val (.int p4), .val (.int (3 : Int32)), .val (.int v6_2), .val (.int us0_3), .val (.ref b5), .val (.int (12 : Int32)), .val (.int u10_26)] [])
        refine ogo (fun _ z_ => XS.iconst X28.here hx rfl (hb hby at_175) z_) ?_
        show OWay p e below G T28 (mkF m 176 #[.val (.int p0), .val (.int p1), .val (.int p2), .val (.int p3), .val (.int p4), .val (.int (3 : Int32)), .val (.int v6_2), .val (.int us0_3), .val (.ref b5), .val (.int (12 : Int32)), .val (.int u10_26)] [(.int (1 : Int32))])
        refine ogo (fun _ z_ => XS.goto X28.here hx rfl (pc0 := 176) (pc' := 180) rfl (hb hby at_176) (by decide) (by decide) z_) ?_
        show OWay p e below G T28 (mkF m 180 #[.val (.int p0), .val (.int p1), .val (.int p2), .val (.int p3), .val (.int p4), .val (.int (3 : Int32)), .val (.int v6_2), .val (.int us0_3), .val (.ref b5), .val (.int (12 : Int32)), .val (.int u10_26)] [(.int (1 : Int32))])
        subst hG
        refine wRetN X28 hx (t := .boolean) hret hlk (by simp) (hb hby at_180) (by decide) (by decide) eq28 ?_
        exact ⟨rfl, N28⟩
      by_cases c111 : p0 = us0_3
      · refine ogo (fun _ z_ => XS.icmpNo X16.here hx rfl (hb hby at_111) rfl (teq c111).2 z_) ?_
        show OWay p e below G T16 (mkF m 114 #[.val (.int p0), .val (.int p1), .val (.int p2), .val (.int p3), .val (.int p4), .val (.int (3 : Int32)), .val (.int v6_2), .val (.int us0_3), .val (.ref b5), .val (.int (12 : Int32)), .unset] [])
        refine ogo (fun _ z_ => XS.iconst X16.here hx rfl (hb hby at_114) z_) ?_
        show OWay p e below G T16 (mkF m 115 #[.val (.int p0), .val (.int p1), .val (.int p2), .val (.int p3), .val (.int p4), .val (.int (3 : Int32)), .val (.int v6_2), .val (.int us0_3), .val (.ref b5), .val (.int (12 : Int32)), .unset] [(.int (0 : Int32))])
        refine ogo (fun _ z_ => XS.istore X16.here hx rfl (hb hby at_115) rfl (l' := #[.val (.int p0), .val (.int p1), .val (.int p2), .val (.int p3), .val (.int p4), .val (.int (3 : Int32)), .val (.int v6_2), .val (.int us0_3), .val (.ref b5), .val (.int (12 : Int32)), .val (.int (0 : Int32))]) rfl z_) ?_
        show OWay p e below G T16 (mkF m 117 #[.val (.int p0), .val (.int p1), .val (.int p2), .val (.int p3), .val (.int p4), .val (.int (3 : Int32)), .val (.int v6_2), .val (.int us0_3), .val (.ref b5), .val (.int (12 : Int32)), .val (.int (0 : Int32))] [])
        refine ogo (fun _ z_ => XS.goto X16.here hx rfl (pc0 := 117) (pc' := 161) rfl (hb hby at_117) (by decide) (by decide) z_) ?_
        show OWay p e below G T16 (mkF m 161 #[.val (.int p0), .val (.int p1), .val (.int p2), .val (.int p3), .val (.int p4), .val (.int (3 : Int32)), .val (.int v6_2), .val (.int us0_3), .val (.ref b5), .val (.int (12 : Int32)), .val (.int (0 : Int32))] [])
        exact J27 _ ((if_pos c111).trans rfl).symm
      · refine ogo (fun _ z_ => XS.icmpYes X16.here hx rfl (pc0 := 111) (pc' := 120) rfl (hb hby at_111) rfl (feq c111).2 (by decide) (by decide) z_) ?_
        show OWay p e below G T16 (mkF m 120 #[.val (.int p0), .val (.int p1), .val (.int p2), .val (.int p3), .val (.int p4), .val (.int (3 : Int32)), .val (.int v6_2), .val (.int us0_3), .val (.ref b5), .val (.int (12 : Int32)), .unset] [])
        refine ogo (fun _ z_ => XS.iload X16.here hx rfl (hb hby at_120) rfl z_) ?_
        show OWay p e below G T16 (mkF m 122 #[.val (.int p0), .val (.int p1), .val (.int p2), .val (.int p3), .val (.int p4), .val (.int (3 : Int32)), .val (.int v6_2), .val (.int us0_3), .val (.ref b5), .val (.int (12 : Int32)), .unset] [(.int (3 : Int32))])
        refine ogo (fun _ z_ => XS.iconst X16.here hx rfl (hb hby at_122) z_) ?_
        show OWay p e below G T16 (mkF m 123 #[.val (.int p0), .val (.int p1), .val (.int p2), .val (.int p3), .val (.int p4), .val (.int (3 : Int32)), .val (.int v6_2), .val (.int us0_3), .val (.ref b5), .val (.int (12 : Int32)), .unset] [(.int (2 : Int32)), (.int (3 : Int32))])
        refine ogo (fun _ z_ => XS.icmpNo X16.here hx rfl (hb hby at_123) rfl (flt (by decide)).1 z_) ?_
        show OWay p e below G T16 (mkF m 126 #[.val (.int p0), .val (.int p1), .val (.int p2), .val (.int p3), .val (.int p4), .val (.int (3 : Int32)), .val (.int v6_2), .val (.int us0_3), .val (.ref b5), .val (.int (12 : Int32)), .unset] [])
        refine ogo (fun _ z_ => XS.iloadN X16.here hx rfl (hb hby at_126) rfl z_) ?_
        show OWay p e below G T16 (mkF m 127 #[.val (.int p0), .val (.int p1), .val (.int p2), .val (.int p3), .val (.int p4), .val (.int (3 : Int32)), .val (.int v6_2), .val (.int us0_3), .val (.ref b5), .val (.int (12 : Int32)), .unset] [(.int p1)])
        refine ogo (fun _ z_ => XS.iload X16.here hx rfl (hb hby at_127) rfl z_) ?_
        show OWay p e below G T16 (mkF m 129 #[.val (.int p0), .val (.int p1), .val (.int p2), .val (.int p3), .val (.int p4), .val (.int (3 : Int32)), .val (.int v6_2), .val (.int us0_3), .val (.ref b5), .val (.int (12 : Int32)), .unset] [(.int us0_3), (.int p1)])
        by_cases c129 : p1 = us0_3
        · refine ogo (fun _ z_ => XS.icmpNo X16.here hx rfl (hb hby at_129) rfl (teq c129).2 z_) ?_
          show OWay p e below G T16 (mkF m 132 #[.val (.int p0), .val (.int p1), .val (.int p2), .val (.int p3), .val (.int p4), .val (.int (3 : Int32)), .val (.int v6_2), .val (.int us0_3), .val (.ref b5), .val (.int (12 : Int32)), .unset] [])
          refine ogo (fun _ z_ => XS.bipush X16.here hx rfl (hb hby at_132) z_) ?_
          show OWay p e below G T16 (mkF m 134 #[.val (.int p0), .val (.int p1), .val (.int p2), .val (.int p3), .val (.int p4), .val (.int (3 : Int32)), .val (.int v6_2), .val (.int us0_3), .val (.ref b5), .val (.int (12 : Int32)), .unset] [(.int (6 : Int32))])
          refine ogo (fun _ z_ => XS.istore X16.here hx rfl (hb hby at_134) rfl (l' := #[.val (.int p0), .val (.int p1), .val (.int p2), .val (.int p3), .val (.int p4), .val (.int (3 : Int32)), .val (.int v6_2), .val (.int us0_3), .val (.ref b5), .val (.int (12 : Int32)), .val (.int (6 : Int32))]) rfl z_) ?_
          show OWay p e below G T16 (mkF m 136 #[.val (.int p0), .val (.int p1), .val (.int p2), .val (.int p3), .val (.int p4), .val (.int (3 : Int32)), .val (.int v6_2), .val (.int us0_3), .val (.ref b5), .val (.int (12 : Int32)), .val (.int (6 : Int32))] [])
          refine ogo (fun _ z_ => XS.goto X16.here hx rfl (pc0 := 136) (pc' := 161) rfl (hb hby at_136) (by decide) (by decide) z_) ?_
          show OWay p e below G T16 (mkF m 161 #[.val (.int p0), .val (.int p1), .val (.int p2), .val (.int p3), .val (.int p4), .val (.int (3 : Int32)), .val (.int v6_2), .val (.int us0_3), .val (.ref b5), .val (.int (12 : Int32)), .val (.int (6 : Int32))] [])
          exact J27 _ ((if_neg c111).trans ((if_pos c129).trans rfl)).symm
        · refine ogo (fun _ z_ => XS.icmpYes X16.here hx rfl (pc0 := 129) (pc' := 139) rfl (hb hby at_129) rfl (feq c129).2 (by decide) (by decide) z_) ?_
          show OWay p e below G T16 (mkF m 139 #[.val (.int p0), .val (.int p1), .val (.int p2), .val (.int p3), .val (.int p4), .val (.int (3 : Int32)), .val (.int v6_2), .val (.int us0_3), .val (.ref b5), .val (.int (12 : Int32)), .unset] [])
          refine ogo (fun _ z_ => XS.iload X16.here hx rfl (hb hby at_139) rfl z_) ?_
          show OWay p e below G T16 (mkF m 141 #[.val (.int p0), .val (.int p1), .val (.int p2), .val (.int p3), .val (.int p4), .val (.int (3 : Int32)), .val (.int v6_2), .val (.int us0_3), .val (.ref b5), .val (.int (12 : Int32)), .unset] [(.int (3 : Int32))])
          refine ogo (fun _ z_ => XS.iconst X16.here hx rfl (hb hby at_141) z_) ?_
          show OWay p e below G T16 (mkF m 142 #[.val (.int p0), .val (.int p1), .val (.int p2), .val (.int p3), .val (.int p4), .val (.int (3 : Int32)), .val (.int v6_2), .val (.int us0_3), .val (.ref b5), .val (.int (12 : Int32)), .unset] [(.int (3 : Int32)), (.int (3 : Int32))])
          refine ogo (fun _ z_ => XS.icmpNo X16.here hx rfl (hb hby at_142) rfl (flt (by decide)).1 z_) ?_
          show OWay p e below G T16 (mkF m 145 #[.val (.int p0), .val (.int p1), .val (.int p2), .val (.int p3), .val (.int p4), .val (.int (3 : Int32)), .val (.int v6_2), .val (.int us0_3), .val (.ref b5), .val (.int (12 : Int32)), .unset] [])
          refine ogo (fun _ z_ => XS.iloadN X16.here hx rfl (hb hby at_145) rfl z_) ?_
          show OWay p e below G T16 (mkF m 146 #[.val (.int p0), .val (.int p1), .val (.int p2), .val (.int p3), .val (.int p4), .val (.int (3 : Int32)), .val (.int v6_2), .val (.int us0_3), .val (.ref b5), .val (.int (12 : Int32)), .unset] [(.int p2)])
          refine ogo (fun _ z_ => XS.iload X16.here hx rfl (hb hby at_146) rfl z_) ?_
          show OWay p e below G T16 (mkF m 148 #[.val (.int p0), .val (.int p1), .val (.int p2), .val (.int p3), .val (.int p4), .val (.int (3 : Int32)), .val (.int v6_2), .val (.int us0_3), .val (.ref b5), .val (.int (12 : Int32)), .unset] [(.int us0_3), (.int p2)])
          by_cases c148 : p2 = us0_3
          · refine ogo (fun _ z_ => XS.icmpNo X16.here hx rfl (hb hby at_148) rfl (teq c148).2 z_) ?_
            show OWay p e below G T16 (mkF m 151 #[.val (.int p0), .val (.int p1), .val (.int p2), .val (.int p3), .val (.int p4), .val (.int (3 : Int32)), .val (.int v6_2), .val (.int us0_3), .val (.ref b5), .val (.int (12 : Int32)), .unset] [])
            refine ogo (fun _ z_ => XS.bipush X16.here hx rfl (hb hby at_151) z_) ?_
            show OWay p e below G T16 (mkF m 153 #[.val (.int p0), .val (.int p1), .val (.int p2), .val (.int p3), .val (.int p4), .val (.int (3 : Int32)), .val (.int v6_2), .val (.int us0_3), .val (.ref b5), .val (.int (12 : Int32)), .unset] [(.int (12 : Int32))])
            refine ogo (fun _ z_ => XS.istore X16.here hx rfl (hb hby at_153) rfl (l' := #[.val (.int p0), .val (.int p1), .val (.int p2), .val (.int p3), .val (.int p4), .val (.int (3 : Int32)), .val (.int v6_2), .val (.int us0_3), .val (.ref b5), .val (.int (12 : Int32)), .val (.int (12 : Int32))]) rfl z_) ?_
            show OWay p e below G T16 (mkF m 155 #[.val (.int p0), .val (.int p1), .val (.int p2), .val (.int p3), .val (.int p4), .val (.int (3 : Int32)), .val (.int v6_2), .val (.int us0_3), .val (.ref b5), .val (.int (12 : Int32)), .val (.int (12 : Int32))] [])
            refine ogo (fun _ z_ => XS.goto X16.here hx rfl (pc0 := 155) (pc' := 161) rfl (hb hby at_155) (by decide) (by decide) z_) ?_
            show OWay p e below G T16 (mkF m 161 #[.val (.int p0), .val (.int p1), .val (.int p2), .val (.int p3), .val (.int p4), .val (.int (3 : Int32)), .val (.int v6_2), .val (.int us0_3), .val (.ref b5), .val (.int (12 : Int32)), .val (.int (12 : Int32))] [])
            exact J27 _ ((if_neg c111).trans ((if_neg c129).trans ((if_pos c148).trans rfl))).symm
          · refine ogo (fun _ z_ => XS.icmpYes X16.here hx rfl (pc0 := 148) (pc' := 158) rfl (hb hby at_148) rfl (feq c148).2 (by decide) (by decide) z_) ?_
            show OWay p e below G T16 (mkF m 158 #[.val (.int p0), .val (.int p1), .val (.int p2), .val (.int p3), .val (.int p4), .val (.int (3 : Int32)), .val (.int v6_2), .val (.int us0_3), .val (.ref b5), .val (.int (12 : Int32)), .unset] [])
            refine ogo (fun _ z_ => XS.iconst X16.here hx rfl (hb hby at_158) z_) ?_
            show OWay p e below G T16 (mkF m 159 #[.val (.int p0), .val (.int p1), .val (.int p2), .val (.int p3), .val (.int p4), .val (.int (3 : Int32)), .val (.int v6_2), .val (.int us0_3), .val (.ref b5), .val (.int (12 : Int32)), .unset] [(.int (-1 : Int32))])
            refine ogo (fun _ z_ => XS.istore X16.here hx rfl (hb hby at_159) rfl (l' := #[.val (.int p0), .val (.int p1), .val (.int p2), .val (.int p3), .val (.int p4), .val (.int (3 : Int32)), .val (.int v6_2), .val (.int us0_3), .val (.ref b5), .val (.int (12 : Int32)), .val (.int (-1 : Int32))]) rfl z_) ?_
            show OWay p e below G T16 (mkF m 161 #[.val (.int p0), .val (.int p1), .val (.int p2), .val (.int p3), .val (.int p4), .val (.int (3 : Int32)), .val (.int v6_2), .val (.int us0_3), .val (.ref b5), .val (.int (12 : Int32)), .val (.int (-1 : Int32))] [])
            exact J27 _ ((if_neg c111).trans ((if_neg c129).trans ((if_neg c148).trans rfl))).symm
  by_cases c16 : v6_2 = (0 : Int32)
  · refine ogo (fun _ z_ => XS.ifNo X0.here hx rfl (hb hby at_16) rfl ((if0 _ _).trans (teq c16).2) z_) ?_
    show OWay p e below G s₁ (mkF m 19 #[.val (.int p0), .val (.int p1), .val (.int p2), .val (.int p3), .val (.int p4), .val (.int v5_1), .val (.int v6_2), .unset, .unset, .unset, .unset] [])
    refine ogo (fun _ z_ => XS.iloadN X0.here hx rfl (hb hby at_19) rfl z_) ?_
    show OWay p e below G s₁ (mkF m 20 #[.val (.int p0), .val (.int p1), .val (.int p2), .val (.int p3), .val (.int p4), .val (.int v5_1), .val (.int v6_2), .unset, .unset, .unset, .unset] [(.int p3)])
    refine ogo (fun _ z_ => XS.goto X0.here hx rfl (pc0 := 20) (pc' := 44) rfl (hb hby at_20) (by decide) (by decide) z_) ?_
    show OWay p e below G s₁ (mkF m 44 #[.val (.int p0), .val (.int p1), .val (.int p2), .val (.int p3), .val (.int p4), .val (.int v5_1), .val (.int v6_2), .unset, .unset, .unset, .unset] [(.int p3)])
    exact J4 _ ((if_pos c16).trans rfl).symm
  · refine ogo (fun _ z_ => XS.ifYes X0.here hx rfl (pc0 := 16) (pc' := 23) rfl (hb hby at_16) rfl ((if0 _ _).trans (feq c16).2) (by decide) (by decide) z_) ?_
    show OWay p e below G s₁ (mkF m 23 #[.val (.int p0), .val (.int p1), .val (.int p2), .val (.int p3), .val (.int p4), .val (.int v5_1), .val (.int v6_2), .unset, .unset, .unset, .unset] [])
    refine ogo (fun _ z_ => XS.iload X0.here hx rfl (hb hby at_23) rfl z_) ?_
    show OWay p e below G s₁ (mkF m 25 #[.val (.int p0), .val (.int p1), .val (.int p2), .val (.int p3), .val (.int p4), .val (.int v5_1), .val (.int v6_2), .unset, .unset, .unset, .unset] [(.int v6_2)])
    refine ogo (fun _ z_ => XS.iconst X0.here hx rfl (hb hby at_25) z_) ?_
    show OWay p e below G s₁ (mkF m 26 #[.val (.int p0), .val (.int p1), .val (.int p2), .val (.int p3), .val (.int p4), .val (.int v5_1), .val (.int v6_2), .unset, .unset, .unset, .unset] [(.int (1 : Int32)), (.int v6_2)])
    by_cases c26 : v6_2 = (1 : Int32)
    · refine ogo (fun _ z_ => XS.icmpNo X0.here hx rfl (hb hby at_26) rfl (teq c26).2 z_) ?_
      show OWay p e below G s₁ (mkF m 29 #[.val (.int p0), .val (.int p1), .val (.int p2), .val (.int p3), .val (.int p4), .val (.int v5_1), .val (.int v6_2), .unset, .unset, .unset, .unset] [])
      refine ogo (fun _ z_ => XS.iloadN X0.here hx rfl (hb hby at_29) rfl z_) ?_
      show OWay p e below G s₁ (mkF m 30 #[.val (.int p0), .val (.int p1), .val (.int p2), .val (.int p3), .val (.int p4), .val (.int v5_1), .val (.int v6_2), .unset, .unset, .unset, .unset] [(.int p0)])
      refine ogo (fun _ z_ => XS.goto X0.here hx rfl (pc0 := 30) (pc' := 44) rfl (hb hby at_30) (by decide) (by decide) z_) ?_
      show OWay p e below G s₁ (mkF m 44 #[.val (.int p0), .val (.int p1), .val (.int p2), .val (.int p3), .val (.int p4), .val (.int v5_1), .val (.int v6_2), .unset, .unset, .unset, .unset] [(.int p0)])
      exact J4 _ ((if_neg c16).trans ((if_pos c26).trans rfl)).symm
    · refine ogo (fun _ z_ => XS.icmpYes X0.here hx rfl (pc0 := 26) (pc' := 33) rfl (hb hby at_26) rfl (feq c26).2 (by decide) (by decide) z_) ?_
      show OWay p e below G s₁ (mkF m 33 #[.val (.int p0), .val (.int p1), .val (.int p2), .val (.int p3), .val (.int p4), .val (.int v5_1), .val (.int v6_2), .unset, .unset, .unset, .unset] [])
      refine ogo (fun _ z_ => XS.iload X0.here hx rfl (hb hby at_33) rfl z_) ?_
      show OWay p e below G s₁ (mkF m 35 #[.val (.int p0), .val (.int p1), .val (.int p2), .val (.int p3), .val (.int p4), .val (.int v5_1), .val (.int v6_2), .unset, .unset, .unset, .unset] [(.int v6_2)])
      refine ogo (fun _ z_ => XS.iconst X0.here hx rfl (hb hby at_35) z_) ?_
      show OWay p e below G s₁ (mkF m 36 #[.val (.int p0), .val (.int p1), .val (.int p2), .val (.int p3), .val (.int p4), .val (.int v5_1), .val (.int v6_2), .unset, .unset, .unset, .unset] [(.int (2 : Int32)), (.int v6_2)])
      by_cases c36 : v6_2 = (2 : Int32)
      · refine ogo (fun _ z_ => XS.icmpNo X0.here hx rfl (hb hby at_36) rfl (teq c36).2 z_) ?_
        show OWay p e below G s₁ (mkF m 39 #[.val (.int p0), .val (.int p1), .val (.int p2), .val (.int p3), .val (.int p4), .val (.int v5_1), .val (.int v6_2), .unset, .unset, .unset, .unset] [])
        refine ogo (fun _ z_ => XS.iloadN X0.here hx rfl (hb hby at_39) rfl z_) ?_
        show OWay p e below G s₁ (mkF m 40 #[.val (.int p0), .val (.int p1), .val (.int p2), .val (.int p3), .val (.int p4), .val (.int v5_1), .val (.int v6_2), .unset, .unset, .unset, .unset] [(.int p1)])
        refine ogo (fun _ z_ => XS.goto X0.here hx rfl (pc0 := 40) (pc' := 44) rfl (hb hby at_40) (by decide) (by decide) z_) ?_
        show OWay p e below G s₁ (mkF m 44 #[.val (.int p0), .val (.int p1), .val (.int p2), .val (.int p3), .val (.int p4), .val (.int v5_1), .val (.int v6_2), .unset, .unset, .unset, .unset] [(.int p1)])
        exact J4 _ ((if_neg c16).trans ((if_neg c26).trans ((if_pos c36).trans rfl))).symm
      · refine ogo (fun _ z_ => XS.icmpYes X0.here hx rfl (pc0 := 36) (pc' := 43) rfl (hb hby at_36) rfl (feq c36).2 (by decide) (by decide) z_) ?_
        show OWay p e below G s₁ (mkF m 43 #[.val (.int p0), .val (.int p1), .val (.int p2), .val (.int p3), .val (.int p4), .val (.int v5_1), .val (.int v6_2), .unset, .unset, .unset, .unset] [])
        refine ogo (fun _ z_ => XS.iloadN X0.here hx rfl (hb hby at_43) rfl z_) ?_
        show OWay p e below G s₁ (mkF m 44 #[.val (.int p0), .val (.int p1), .val (.int p2), .val (.int p3), .val (.int p4), .val (.int v5_1), .val (.int v6_2), .unset, .unset, .unset, .unset] [(.int p2)])
        exact J4 _ ((if_neg c16).trans ((if_neg c26).trans ((if_neg c36).trans rfl))).symm
set_option maxRecDepth 65536 in
set_option maxHeartbeats 40000000 in
theorem comes_1 {Post : Tables → Env → Array Value → State → Outcome → State → Prop} (hpost : ∀ tb e args s v u, (limb_1_1.after args s (.returned v) u = true ∧ limb_1_2.after args s (.returned v) u = true ∧ True) → FrameEnd s (.returned v) u (Jvm.fieldLocs frame_1_writes args s ++ Jvm.arrayLocs frame_1_arrays args s ++ Jvm.staticLocs frame_1_statics s) 16 128 → Post tb e args s (.returned v) u) :
    ArmFor flags0 classFile x code maxLocals ret World_1 tables_1 room_1 Calls_1 rest_1 Pre_1 Post := by
  intro l hfl _ _ p e ha hc hk s m args below hf hA hF happ hP
  obtain ⟨hcalls, hrest, hpre⟩ := hP
  obtain ⟨-, -, -, hnamed, -, -, -, hat⟩ := (Spec.applies_iff hf).mp happ
  obtain ⟨hg, hn⟩ := and_e (Cond.before_iff.mp (show (Jvm.Cond.and given_1 narrow_1).before args s = true from hpre))
  obtain ⟨g1, g2⟩ := and_e hg
  obtain ⟨g3, g4⟩ := and_e g2
  obtain ⟨g5, g6⟩ := and_e g4
  obtain ⟨g7, g8⟩ := and_e g6
  obtain ⟨g9, g10⟩ := and_e g8
  obtain ⟨w0, w1, w2, w3, w4, rfl⟩ : ∃ w0 w1 w2 w3 w4 : Value, args = #[w0, w1, w2, w3, w4] := by
    have hs : args.size = 5 := by simpa [Cond.value, given_1] using g1
    obtain ⟨L⟩ := args
    match L, hs with
    | [w0, w1, w2, w3, w4], _ => exact ⟨w0, w1, w2, w3, w4, rfl⟩
  have hw := fun d (hd : d ∈ tables_1) => atoms_spec (ws := Jvm.Cond.code x code maxLocals ret :: tables_1) hat d (List.mem_cons_of_mem _ hd)
  have hfit : Fit s := fun {y c} hc i hi => by
    obtain ⟨ha, rfl⟩ := Array.getElem?_eq_some_iff.mp hc
    have q := List.all_eq_true.mp ((Array.all_eq_true_iff_forall_mem.mp hF) _ (Array.getElem_mem ha)) i (List.mem_range.mpr hi)
    simpa [Array.getElem?_eq_getElem hi] using q
  obtain ⟨i0, ei0⟩ := is_v g3
  obtain rfl : w0 = (.int i0) := Option.some.inj ei0
  obtain ⟨i1, ei1⟩ := is_v g5
  obtain rfl : w1 = (.int i1) := Option.some.inj ei1
  obtain ⟨i2, ei2⟩ := is_v g7
  obtain rfl : w2 = (.int i2) := Option.some.inj ei2
  obtain ⟨i3, ei3⟩ := is_v g9
  obtain rfl : w3 = (.int i3) := Option.some.inj ei3
  obtain ⟨i4, ei4⟩ := is_v g10
  obtain rfl : w4 = (.int i4) := Option.some.inj ei4
  obtain ⟨n, o, h1, h2, h3, _, L, rfl, ⟨rfl, N⟩, hq⟩ := law_c l s _ hw tables_1 i0 i1 i2 i3 i4 s.heap s.heap.size (Nat.le_refl _) p e ha hc hk s m _ below hf ((Spec.applies_iff_loose hf).mp happ).1 ⟨rfl, State.Warmed39.refl s, rfl⟩ trivial
  refine ⟨n, _, h1, h2, h3, hpost _ _ _ _ _ _ ⟨Cond.after_iff.mpr rfl, Cond.after_iff.mpr (eq_i res_at (Term.int_eval (1)) rfl), trivial⟩ ⟨hq.1, hq.2.1, (hq.2.2.sift fun y hy => Or.inr (N y hy)).mono (by decide) (by decide)⟩⟩
theorem main_1_1 : Claimed_1_1 := comes_1 fun _ _ _ _ _ _ h hF => ⟨h.1, hF⟩
theorem main_1_2 : Claimed_1_2 := comes_1 fun _ _ _ _ _ _ h hF => ⟨h.2.1, hF⟩
end Jvm.Pilot.@@N@@
namespace Jvm.Pilot.@@N@@
open Jvm Jvm.ClassFile Sem Op Lib Jvm.Free Jvm.Stand Jvm.Pilot.@@N@@.Jvm.D
/-! MADE BY PROGRAM (witnessworld.py) out of the Statement's table words and the real class files: 9 classes; the members and pool entries that the words name. The judged class is class 1, her method 1. -/
namespace start1
open Jvm.ClassFile
def u (s : String) : CpInfo := .utf8 (stringToUtf16 s)
/-- a pool by its gaps: so many unusable entries, then the entry; so many at the end -/
def gap : Nat → List CpInfo → List CpInfo
  | 0, r => r
  | n + 1, r => .unusable :: gap n r
def poolList (es : List (Nat × CpInfo)) (last : Nat) : List CpInfo := es.foldr (fun e r => gap e.1 (e.2 :: r)) (gap last [])
def pool (es : List (Nat × CpInfo)) (last : Nat) : Array CpInfo := ⟨poolList es last⟩
def fileOf (pool : Array CpInfo) (this : Nat) (attrs : Array Attribute := #[]) (ms : Array MethodInfo := #[]) (fl : Nat := 33) (sup : Nat := 0) (ifs : Array Nat := #[]) (fds : Array FieldInfo := #[]) : ClassFile where
  minorVersion := 0
  majorVersion := 65
  constantPool := pool
  accessFlags := fl
  thisClass := this
  superClass := sup
  interfaces := ifs
  fields := fds
  methods := ms
  attributes := attrs
def plain (name : String) (sup : Option ClassId) : Class where
  name := name
  kind := .ordinary
  loader := none
  accessFlags := 33
  super := sup
  interfaces := #[]
  cf := none
  fields := #[]
  methods := #[]
  instanceTypes := #[]
  staticTypes := #[]
  resolved := #[]
  callSites := []
  init := .initialized
  statics := none
  mirror := none

def pool0 : Array CpInfo := pool [(5, u "<init>"), (0, u "()V"), (1, .class_ 10), (1, u "java/lang/Object")] 113

def k0m0 : Method := { name := "<init>", desc := "()V", sig := { parameters := [], returnType := none }, accessFlags := 1, code := none }
/-- java/lang/Object -/
def k0 : Class := { plain "java/lang/Object" none with
  accessFlags := 33
  interfaces := #[]
  cf := some (fileOf pool0 8 #[] #[{ accessFlags := 1, nameIndex := 5, descriptorIndex := 6, attributes := #[] }] 33 0 #[] #[])
  fields := #[]
  methods := #[k0m0]
  instanceTypes := #[]
  staticTypes := #[]
  resolved := Array.replicate 124 none
  statics := none }

def pool1 : Array CpInfo := pool [(2, .class_ 4), (1, u "java/lang/Object"), (0, u "<init>"), (0, u "()V"), (0, .methodref 8 9), (0, .class_ 10), (0, .nameAndType 11 12), (0, u "com/example/geotide/geotide/MembersFindPinLaw"), (0, u "fill"), (0, u "([IIII)V"), (0, .methodref 14 15), (0, .class_ 16), (0, .nameAndType 17 18), (0, u "com/example/geotide/geotide/Members"), (0, u "find"), (0, u "([III)I"), (2, u "law"), (0, u "(IIIII)Z")] 5

def k1m0 : Method := { name := "<init>", desc := "()V", sig := { parameters := [], returnType := none }, accessFlags := 1, code := none }
def k1c1 : Code := { maxStack := 4, maxLocals := 11, code := code, exceptionTable := #[], attributes := #[] }
def k1m1 : Method := { name := "law", desc := "(IIIII)Z", sig := { parameters := [.int, .int, .int, .int, .int], returnType := some .boolean }, accessFlags := 9, code := some k1c1 }
def k1c2 : Code := { maxStack := 3, maxLocals := 4, code := method_3_code, exceptionTable := #[], attributes := #[] }
def k1m2 : Method := { name := "fill", desc := "([IIII)V", sig := { parameters := [(.array .int), .int, .int, .int], returnType := none }, accessFlags := 10, code := some k1c2 }
/-- com/example/geotide/geotide/MembersFindPinLaw -/
def k1 : Class := { plain "com/example/geotide/geotide/MembersFindPinLaw" (some 0) with
  accessFlags := 49
  interfaces := #[]
  cf := some (fileOf pool1 8 #[] #[{ accessFlags := 1, nameIndex := 5, descriptorIndex := 6, attributes := #[] }, { accessFlags := 9, nameIndex := 21, descriptorIndex := 22, attributes := #[] }, { accessFlags := 10, nameIndex := 11, descriptorIndex := 12, attributes := #[] }] 49 2 #[] #[])
  fields := #[]
  methods := #[k1m0, k1m1, k1m2]
  instanceTypes := #[]
  staticTypes := #[]
  resolved := Array.replicate 28 none
  statics := none }

def pool2 : Array CpInfo := pool [(2, .class_ 4), (1, u "java/lang/Object"), (0, u "<init>"), (0, u "()V"), (0, .class_ 8), (0, u "com/example/geotide/geotide/Members"), (59, u "find"), (0, u "([III)I"), (6, u "POSITION"), (0, u "I"), (2, u "KEY"), (1, u "ALPHA"), (1, u "X"), (1, u "Y"), (1, u "Z"), (1, u "STRIDE"), (1, u "MEASURE_SPREAD"), (0, u "D")] 15

def k2m0 : Method := { name := "<init>", desc := "()V", sig := { parameters := [], returnType := none }, accessFlags := 2, code := none }
def k2c1 : Code := { maxStack := 3, maxLocals := 4, code := prog_44_method_7_code, exceptionTable := #[], attributes := #[] }
def k2m1 : Method := { name := "find", desc := "([III)I", sig := { parameters := [(.array .int), .int, .int], returnType := some .int }, accessFlags := 8, code := some k2c1 }
/-- com/example/geotide/geotide/Members -/
def k2 : Class := { plain "com/example/geotide/geotide/Members" (some 0) with
  accessFlags := 48
  interfaces := #[]
  cf := some (fileOf pool2 7 #[] #[{ accessFlags := 2, nameIndex := 5, descriptorIndex := 6, attributes := #[] }, { accessFlags := 8, nameIndex := 68, descriptorIndex := 69, attributes := #[] }] 48 2 #[] #[{ accessFlags := 24, nameIndex := 76, descriptorIndex := 77, attributes := #[] }, { accessFlags := 24, nameIndex := 80, descriptorIndex := 77, attributes := #[] }, { accessFlags := 24, nameIndex := 82, descriptorIndex := 77, attributes := #[] }, { accessFlags := 24, nameIndex := 84, descriptorIndex := 77, attributes := #[] }, { accessFlags := 24, nameIndex := 86, descriptorIndex := 77, attributes := #[] }, { accessFlags := 24, nameIndex := 88, descriptorIndex := 77, attributes := #[] }, { accessFlags := 24, nameIndex := 90, descriptorIndex := 77, attributes := #[] }, { accessFlags := 24, nameIndex := 92, descriptorIndex := 93, attributes := #[] }])
  fields := #[{ name := "POSITION", type := .int, accessFlags := 24, slot := 0, constantValue := 0 }, { name := "KEY", type := .int, accessFlags := 24, slot := 1, constantValue := 0 }, { name := "ALPHA", type := .int, accessFlags := 24, slot := 2, constantValue := 0 }, { name := "X", type := .int, accessFlags := 24, slot := 3, constantValue := 0 }, { name := "Y", type := .int, accessFlags := 24, slot := 4, constantValue := 0 }, { name := "Z", type := .int, accessFlags := 24, slot := 5, constantValue := 0 }, { name := "STRIDE", type := .int, accessFlags := 24, slot := 6, constantValue := 0 }, { name := "MEASURE_SPREAD", type := .double, accessFlags := 24, slot := 7, constantValue := 0 }]
  methods := #[k2m0, k2m1]
  instanceTypes := #[]
  staticTypes := #[.int, .int, .int, .int, .int, .int, .int, .double]
  resolved := Array.replicate 109 none
  statics := none }

def pool3 : Array CpInfo := pool [(1, u "java/lang/Cloneable"), (0, .class_ 1), (0, u "java/lang/Object"), (0, .class_ 3)] 3

/-- java/lang/Cloneable -/
def k3 : Class := { plain "java/lang/Cloneable" (some 0) with
  accessFlags := 1537
  interfaces := #[]
  cf := some (fileOf pool3 2 #[] #[] 1537 4 #[] #[])
  fields := #[]
  methods := #[]
  instanceTypes := #[]
  staticTypes := #[]
  resolved := Array.replicate 8 none
  statics := none }

def pool4 : Array CpInfo := pool [(1, u "java/io/Serializable"), (0, .class_ 1), (0, u "java/lang/Object"), (0, .class_ 3)] 3

/-- java/io/Serializable -/
def k4 : Class := { plain "java/io/Serializable" (some 0) with
  accessFlags := 1537
  interfaces := #[]
  cf := some (fileOf pool4 2 #[] #[] 1537 4 #[] #[])
  fields := #[]
  methods := #[]
  instanceTypes := #[]
  staticTypes := #[]
  resolved := Array.replicate 8 none
  statics := none }

/-- the primitive byte -/
def k5 : Class := { plain "byte" none with kind := .primitive 'B', accessFlags := 0x411 }
/-- [B -/
def k6 : Class := { plain "[B" (some 0) with kind := .array 5 .byte, interfaces := #[3, 4], accessFlags := 1041 }

/-- the primitive int -/
def k7 : Class := { plain "int" none with kind := .primitive 'I', accessFlags := 0x411 }
/-- [I -/
def k8 : Class := { plain "[I" (some 0) with kind := .array 7 .int, interfaces := #[3, 4], accessFlags := 1041 }

def heap : Heap := #[]
def classes : Array Class := #[k0, k1, k2, k3, k4, k5, k6, k7, k8]
def interned : List (Array UInt16 × Addr) := []
def slotsUsed : Nat := 0
def theMethod : MethodId := ⟨1, 1⟩
def args0 : Array Value := #[.int 1, .int 2, .int 3, .int 2, .int 3]
def aboutOver (below : List Frame) : State where
  vm := { classes := classes, interned := interned.toArray }
  heap := heap
  slotsUsed := slotsUsed
  threads := #[{ frames := .invoking theMethod args0 :: below }]
def below0 : List Frame := [.native { method := ⟨0, 0⟩, args := #[] }]
def about1 : State := aboutOver below0
def p0 : Program := .bare "" "" ""
def e0 : Env := launch0.env 0 0 0
theorem w_frames : about1.frames = Frame.invoking theMethod args0 :: below0 := rfl
set_option maxRecDepth 65536 in
theorem w_args : argsFit about1.vm theMethod args0 = true := by decide +kernel
set_option maxRecDepth 65536 in
theorem w_heap : heapFits about1 = true := by decide +kernel
set_option maxRecDepth 65536 in
theorem w_runnable : about1.curStatus? = some .runnable := by decide +kernel
set_option maxRecDepth 65536 in
theorem w_alone : about1.alone = true := by decide +kernel
set_option maxRecDepth 65536 in
theorem w_named : about1.methodNamed? x = some theMethod := by decide +kernel
set_option maxRecDepth 65536 in
theorem w_hears : about1.hears theMethod below0 = true := by decide +kernel
set_option maxRecDepth 65536 in
theorem w_ripe : about1.ripe theMethod args0 below0 = true := by decide +kernel
theorem w_running : about1.status = .running := rfl
set_option maxRecDepth 65536 in
theorem w_room : about1.hasRoom e0.platform room_1 = true :=
  launch0.hasRoom_least _ room_1 (by decide +kernel) (by decide +kernel) (by decide +kernel) (by decide +kernel) (by decide +kernel) (by decide +kernel)
theorem allAtoms_all (ts : List Jvm.Cond) (a : Array Jvm.Value) (st : Jvm.State) : (allAtoms ts).before a st = ts.all (fun c => c.before a st) := by
  induction ts with
  | nil => rfl
  | cons c t ih =>
    show (Jvm.Cond.and c (allAtoms t)).before a st = _
    rw [Jvm.Cond.before_and, ih, List.all_cons]
def words1 : List Jvm.Cond := Jvm.Cond.code x code maxLocals ret :: tables_1
/-- a 'code' word, met by the world's own term for the bytes: nothing is compared byte by byte -/
theorem code_word {y : MethodName} {bytes : ByteArray} {mx : Nat} {rt : Option FieldType} {a : Array Value} {s : State} {m : MethodId} {meth : Method} {c : Code} (h1 : s.methodNamed? y = some m) (h2 : s.vm.method? m = some meth) (h3 : meth.code = some c) (h4 : c.code = bytes)
    (h5 : (c.maxLocals == mx && c.exceptionTable.isEmpty && decide (c.maxStack ≤ mostOperands) && decide (meth.sig.returnType = rt) && !meth.locks && decide (parseMethodDescriptor y.desc = some meth.sig)) = true) : (Jvm.Cond.code y bytes mx rt).before a s = true := by
  simp only [Bool.and_eq_true, beq_iff_eq, Bool.not_eq_true', decide_eq_true_eq] at h5
  obtain ⟨⟨⟨⟨⟨g1, g2⟩, g3⟩, g4⟩, g5⟩, g6⟩ := h5
  simp [Cond.before, Cond.holds, Cond.value, h1, h2, h3, h4, g1, g2, g3, g4, g5, g6]
def isCode : Jvm.Cond → Bool
  | .code _ _ _ _ => true
  | _ => false
theorem all_split {L : List Jvm.Cond} {P : Jvm.Cond → Bool} (h1 : L.all (fun c => isCode c || P c) = true) (h2 : ∀ c ∈ L.filter isCode, P c = true) : L.all P = true := by
  refine List.all_eq_true.mpr fun c hc => ?_
  have h := List.all_eq_true.mp h1 c hc
  rcases Bool.eq_false_or_eq_true (isCode c) with hi | hi
  · exact h2 c (List.mem_filter.mpr ⟨hc, hi⟩)
  · simpa [hi] using h
set_option maxRecDepth 65536 in
theorem w_c0 : (Jvm.Cond.code x code maxLocals ret).before args0 about1 = true := code_word (m := ⟨1, 1⟩) (meth := k1m1) (c := k1c1) (by decide +kernel) rfl rfl rfl (by decide +kernel)
set_option maxRecDepth 65536 in
theorem w_c1 : (Jvm.Cond.code ({ cls := "com/example/geotide/geotide/MembersFindPinLaw", name := "fill", desc := "([IIII)V" } : Jvm.MethodName) method_3_code (4 : Nat) (Option.none : Option Jvm.ClassFile.FieldType)).before args0 about1 = true := code_word (m := ⟨1, 2⟩) (meth := k1m2) (c := k1c2) (by decide +kernel) rfl rfl rfl (by decide +kernel)
set_option maxRecDepth 65536 in
theorem w_c2 : (Jvm.Cond.code ({ cls := "com/example/geotide/geotide/Members", name := "find", desc := "([III)I" } : Jvm.MethodName) prog_44_method_7_code (4 : Nat) (Option.some Jvm.ClassFile.FieldType.int)).before args0 about1 = true := code_word (m := ⟨2, 1⟩) (meth := k2m1) (c := k2c1) (by decide +kernel) rfl rfl rfl (by decide +kernel)
def codes1 : List Jvm.Cond := [Jvm.Cond.code x code maxLocals ret, Jvm.Cond.code ({ cls := "com/example/geotide/geotide/MembersFindPinLaw", name := "fill", desc := "([IIII)V" } : Jvm.MethodName) method_3_code (4 : Nat) (Option.none : Option Jvm.ClassFile.FieldType), Jvm.Cond.code ({ cls := "com/example/geotide/geotide/Members", name := "find", desc := "([III)I" } : Jvm.MethodName) prog_44_method_7_code (4 : Nat) (Option.some Jvm.ClassFile.FieldType.int)]
set_option maxRecDepth 65536 in
theorem codes_eq : words1.filter isCode = codes1 := rfl
theorem w_codes : ∀ c ∈ words1.filter isCode, c.before args0 about1 = true := by
  rw [codes_eq]
  intro c hc
  simp only [codes1, List.mem_cons, List.not_mem_nil, or_false] at hc
  rcases hc with rfl | rfl | rfl
  · exact w_c0
  · exact w_c1
  · exact w_c2
set_option maxRecDepth 65536 in
theorem w_t1 : words1.all (fun c => isCode c || c.before args0 about1) = true := by decide +kernel
theorem w_tables : (allAtoms (Jvm.Cond.code x code maxLocals ret :: tables_1)).before args0 about1 = true := by
  rw [allAtoms_all]
  show words1.all (fun c => c.before args0 about1) = true
  refine all_split ?_ w_codes
  rw [w_t1]
set_option maxRecDepth 65536 in
theorem w_case : (Jvm.Cond.and given_1 narrow_1).before args0 about1 = true := by decide +kernel
theorem w_applies : (headSpec (Jvm.Cond.code x code maxLocals ret :: tables_1) room_1).applies x e0.platform about1 = true :=
  (Spec.applies_iff w_frames).mpr ⟨w_running, w_runnable, w_alone, w_named, w_hears, w_ripe, w_room, w_tables⟩
theorem atStart : AtStart classFile x code maxLocals ret World_1 tables_1 room_1 Calls_1 rest_1 Pre_1 launch0 p0 e0 about1 theMethod args0 below0 :=
  ⟨lists_1, trivial, launch0.admits_env _ _ _, launch0.least_env, fairChoices_fair.cas, fairChoices_fair.clock, w_frames, w_args, w_heap, w_applies, trivial, trivial, w_case⟩
end start1
theorem witness_1 : WitnessClaimed_1 := ⟨start1.p0, start1.e0, start1.about1, start1.theMethod, start1.args0, start1.below0, start1.atStart⟩
end Jvm.Pilot.@@N@@
