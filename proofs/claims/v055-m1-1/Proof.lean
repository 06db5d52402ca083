import JvmDerived
import JvmDerived.Pilot.@@N@@Statement
import JvmDerived.Pilot.@@N@@Code
set_option linter.unusedVariables false
set_option linter.unusedSimpArgs false
namespace Jvm.Pilot.@@N@@
open Jvm Jvm.ClassFile Sem Op Lib Jvm.Free Jvm.Stand Jvm.LawKit Jvm.RoadKit Bundle Jvm.Pilot.@@N@@.Jvm.D
/-- from here the run comes to a state of which G holds -/
def OWay (p : Program) (e : Env) (below : List Frame) (G : State → Prop) (T : State) (g : JFrame) : Prop := ∃ t, Steps p.tables e below (T.setTop g) t ∧ G t
/-- how a body ends: it returned, with what Q says of its value, the heap and the places written -/
def OEnd (s : State) (below : List Frame) (Q : Option Value → Heap → List Loc → Prop) (cs sl : Nat) (t : State) : Prop := ∃ o, t.status = .running ∧ Ended t below o ∧ ∃ v L, o = .returned v ∧ Q v t.heap L ∧ FrameEnd s o t L cs sl
/-- a body's contract, as a call wants it -/
def OCon (l : Launch) (y : MethodName) (bytes : ByteArray) (maxL : Nat) (rt : Option FieldType) (ws : List Jvm.Cond) (rm : Room) (Z : State) (as' : Array Value) (h : Heap) (Q : Option Value → Heap → List Loc → Prop) : Prop :=
  MetFree l y (head1 (Jvm.Cond.code y bytes maxL rt :: ws) rm) (fun a U => a = as' ∧ Z.Warmed39 U.vm ∧ U.heap = h) (fun _ _ _ _ _ => True) (fun _ U o U' => ∃ v L, o = .returned v ∧ Q v U'.heap L ∧ FrameEnd U o U' L rm.cells rm.slots)
section Own
variable {p : Program} {l : Launch} {e : Env} {R : Room} {s : State} {m : MethodId} {args : Array Value} {below : List Frame} {meth : Method} {c : Code} {T T' : State} {locs : List Loc} {cells slots : Nat} {Z : State} {a0 : Array Value} {h : Heap} {G : State → Prop} {g g' : JFrame} {Q : Option Value → Heap → List Loc → Prop} {cs sl : Nat}
theorem ogo (q : ∀ t, Steps p.tables e below (T'.setTop g') t → Steps p.tables e below (T.setTop g) t) (w : OWay p e below G T' g') : OWay p e below G T g := by
  obtain ⟨t, h1, h2⟩ := w
  exact ⟨t, q t h1, h2⟩
theorem ogoS (q : Steps p.tables e below (T.setTop g) (T'.setTop g')) (w : OWay p e below G T' g') : OWay p e below G T g := ogo (fun _ k => q.trans k) w
theorem ogoE (q : g = g') (w : OWay p e below G T g') : OWay p e below G T g := q ▸ w
theorem ocon {y : MethodName} {bytes : ByteArray} {maxL : Nat} {rt : Option FieldType} {ws : List Jvm.Cond} {rm : Room} {as' : Array Value} (hp : plainFor y = true)
    (body : ∀ (p : Program) (e : Env) (s : State) (m : MethodId) (below : List Frame) (meth : Method) (c : Code) (s₁ : State), p.tables.exec = Jvm.exec → c.code = bytes → c.maxLocals = maxL → s.vm.findClass y.cls = some m.cls → meth.name = y.name → meth.sig.returnType = rt → meth.locks = false → Z.Warmed39 s.vm →
      Stand p l e rm s m as' below meth c s₁ [] 0 0 → s₁.heap = h → OWay p e below (OEnd s below Q rm.cells rm.slots) s₁ (entryFrame m as' maxL)) : OCon l y bytes maxL rt ws rm Z as' h Q := by
  refine MetFree.of_bodySF hp hisR ?_
  intro p e s m args below meth c s₁ Bd hml0 hP hK
  obtain ⟨rfl, hZ, hh⟩ := hP
  obtain ⟨t, h1, o, h2, h3, h4⟩ := body p e s m below meth c s₁ Bd.exec Bd.bytes hml0 (findClass_of_methodNamed Bd.named) (name_of_methodNamed Bd.named Bd.method).1 Bd.returns Bd.notSynchronized hZ (Stand.of_body Bd) (by rw [← hh, Bd.state]; rfl)
  exact ⟨t, o, h1, h2, h3, h4⟩
theorem wRetN (X : Stand p l e R s m args below meth c T locs cells slots) (hx : p.tables.exec = Jvm.exec) {pc : Nat} {Ls : Array Slot} {z : Int32} {t : FieldType} {rest : List Value} (hret : meth.sig.returnType = some t) (hlk : meth.locks = false) (ht : t = .boolean ∨ t = .byte ∨ t = .char ∨ t = .short)
    (hd : decode c.code pc = .ok (.ireturn, 1)) (hc : cells ≤ cs) (hs : slots ≤ sl) (eT : T.heap = h) (hq : Q (some (.int (nar t z))) h locs) : OWay p e below (OEnd s below Q cs sl) T (mkF m pc Ls (.int z :: rest)) := by
  obtain ⟨fs, hr, hrun, hended, hW, hsame⟩ := X.leave (v := some (.int (nar t z))) (fun q => by rw [hret] at q; cases q) hlk
  exact ⟨_, retN X hx hret ht hd hr, _, hrun, hended, _, _, rfl, by subst eT; exact hq, ⟨_, rfl⟩, hW, hsame.mono hc hs⟩
theorem wRet (X : Stand p l e R s m args below meth c T locs cells slots) (hx : p.tables.exec = Jvm.exec) {pc : Nat} {Ls : Array Slot} {w : Value} {t : FieldType} {i : Instr} {rest : List Value} (hret : meth.sig.returnType = some t) (hlk : meth.locks = false) (hn : narrow t w = w)
    (hi : (i = .ireturn ∧ (t = .int ∨ t = .boolean ∨ t = .byte ∨ t = .char ∨ t = .short) ∧ ∃ z, w = .int z) ∨ (i = .lreturn ∧ t = .long ∧ ∃ z, w = .long z) ∨ (i = .dreturn ∧ t = .double ∧ ∃ z, w = .double z) ∨ (i = .freturn ∧ t = .float ∧ ∃ z, w = .float z) ∨ (i = .areturn ∧ t.isReference = true ∧ w.isRef = true))
    (hd : decode c.code pc = .ok (i, 1)) (hc : cells ≤ cs) (hs : slots ≤ sl) (eT : T.heap = h) (hq : Q (some w) h locs) : OWay p e below (OEnd s below Q cs sl) T (mkF m pc Ls (w :: rest)) := by
  obtain ⟨fs, hr, hrun, hended, hW, hsame⟩ := X.leave (v := some w) (fun q => by rw [hret] at q; cases q) hlk
  exact ⟨_, retOut X hx hret hn hi hd hr, _, hrun, hended, _, _, rfl, by subst eT; exact hq, ⟨_, rfl⟩, hW, hsame.mono hc hs⟩
theorem wRetV (X : Stand p l e R s m args below meth c T locs cells slots) (hx : p.tables.exec = Jvm.exec) {pc : Nat} {Ls : Array Slot} (hret : meth.sig.returnType = none) (hlk : meth.locks = false)
    (hd : decode c.code pc = .ok (.return_, 1)) (hc : cells ≤ cs) (hs : slots ≤ sl) (eT : T.heap = h) (hq : Q none h locs) : OWay p e below (OEnd s below Q cs sl) T (mkF m pc Ls []) := by
  obtain ⟨fs, hr, hrun, hended, hW, hsame⟩ := X.leave (v := none) (fun _ => rfl) hlk
  exact ⟨_, X.returnOut hx hret hd hr, _, hrun, hended, _, _, rfl, by subst eT; exact hq, ⟨_, rfl⟩, hW, hsame.mono hc hs⟩
theorem wStatic (X : Stand p l e R s m args below meth c T locs cells slots) (hx : p.tables.exec = Jvm.exec) (hZ : Z.Warmed39 s.vm) {own : String} {index : Nat} {y : MethodName} {bytes : ByteArray} {maxL : Nat} {rt : Option FieldType} {rm : Room} {as' : Array Value} (hown : s.vm.findClass own = some m.cls)
    (w1 : (Jvm.Cond.methodLink own index y).before a0 Z = true) (w2 : (Jvm.Cond.static y).before a0 Z = true) (w3 : (Jvm.Cond.initialized y.cls).before a0 Z = true) (w4 : (Jvm.Cond.code y bytes maxL rt).before a0 Z = true) (hy : y.cls ≠ "java/lang/invoke/MethodHandle" ∧ y.cls ≠ "java/lang/invoke/VarHandle")
    (hM : OCon l y bytes maxL rt [] rm Z as' h Q) (W : Nat) (hf : rm.frames + 1 ≤ R.frames) (hl : W + (maxL + 11) + rm.locals ≤ R.locals) {g : JFrame} (hg : g.method = m) (hsize : g.locals.size = c.maxLocals) {argsL rest : List Value} (hlen : ∀ sig, parseMethodDescriptor y.desc = some sig → argsL.length = sig.parameters.length)
    (hstack : g.stack = argsL.reverse ++ rest) (hW : 2 * g.monitorRoom + (rest.map fun v => v.category).sum ≤ W) (hd : decode c.code g.pc = .ok (.invokestatic index, 3)) (has : argsL.toArray = as') (eT : T.heap = h) (hc : cells + rm.cells ≤ R.cells) (hs : slots + rm.slots ≤ R.slots) :
    ∃ (v : Option Value) (T' : State) (L : List Loc), Stand p l e R s m args below meth c T' (locs ++ L) (cells + rm.cells) (slots + rm.slots) ∧ Q v T'.heap L ∧ ∀ target, Steps p.tables e below (T'.setTop { g with pc := g.pc + 3, stack := v.toList ++ rest }) target → Steps p.tables e below (T.setTop g) target := by
  obtain ⟨v, _, ⟨T1, L1, k1, n1⟩, -, X1, ⟨Lc, hQ, l1, y1, z1⟩, st⟩ := Jvm.LawKit.callS X hx (y := y) hown (mvT hZ w1) (mvT hZ w2) (mvT hZ w3) (mvT hZ w4) hy (backOf (W := W) hM hZ w4 w3 hf hl) (g := g) hg hsize (argsL := argsL) (rest := rest) hlen hstack hW hd (fun _ _ => ⟨has, eT, hc, hs⟩)
  dsimp only [Pt.U, Pt.locs, Pt.cells, Pt.slots] at X1 l1 y1 z1 st hQ
  subst l1 y1 z1
  exact ⟨v, T1, Lc, X1, hQ, st⟩
theorem wInit (X : Stand p l e R s m args below meth c T locs cells slots) (hx : p.tables.exec = Jvm.exec) (hZ : Z.Warmed39 s.vm) {own : String} {index : Nat} {y : MethodName} {bytes : ByteArray} {maxL : Nat} {rm : Room} {as' : Array Value} (hy1 : y.name = "<init>") (hown : s.vm.findClass own = some m.cls)
    (w1 : (Jvm.Cond.methodLink own index y).before a0 Z = true) (w2 : (Jvm.Cond.instanceMethod y).before a0 Z = true) (w3 : (Jvm.Cond.initialized y.cls).before a0 Z = true) (w4 : (Jvm.Cond.code y bytes maxL none).before a0 Z = true) (hy : y.cls ≠ "java/lang/invoke/MethodHandle" ∧ y.cls ≠ "java/lang/invoke/VarHandle")
    (hM : OCon l y bytes maxL none [] rm Z as' h Q) (W : Nat) (hf : rm.frames + 1 ≤ R.frames) (hl : W + (maxL + 11) + rm.locals ≤ R.locals) {g : JFrame} (hg : g.method = m) (hsize : g.locals.size = c.maxLocals) {a : Addr} {argsL rest : List Value} (hlen : ∀ sig, parseMethodDescriptor y.desc = some sig → argsL.length = sig.parameters.length)
    (hstack : g.stack = argsL.reverse ++ .ref a :: rest) (hW : 2 * g.monitorRoom + (rest.map fun v => v.category).sum ≤ W) (hd : decode c.code g.pc = .ok (.invokespecial index, 3)) (has : (.ref a :: argsL).toArray = as') (eT : T.heap = h) (hc : cells + rm.cells ≤ R.cells) (hs : slots + rm.slots ≤ R.slots) :
    ∃ (v : Option Value) (T' : State) (L : List Loc), Stand p l e R s m args below meth c T' (locs ++ L) (cells + rm.cells) (slots + rm.slots) ∧ Q v T'.heap L ∧ Steps p.tables e below (T.setTop g) (T'.setTop { g with pc := g.pc + 3, stack := v.toList ++ rest }) := by
  obtain ⟨v, _, ⟨T1, L1, k1, n1⟩, -, X1, ⟨Lc, hQ, l1, y1, z1⟩, st⟩ := X.specialBack hx (y := y) hy1 hown (mvT hZ w1) (mvT hZ w2) (mvT hZ w4) hy (backOf (W := W) hM hZ w4 w3 hf hl) (g := g) hg hsize (Steps.refl _) (a := a) (argsL := argsL) (rest := rest) hlen hstack hW hd (fun _ _ => ⟨has, eT, hc, hs⟩)
  dsimp only [Pt.U, Pt.locs, Pt.cells, Pt.slots] at X1 l1 y1 z1 st hQ
  subst l1 y1 z1
  exact ⟨v, T1, Lc, X1, hQ, st⟩
theorem wVirtual (X : Stand p l e R s m args below meth c T locs cells slots) (hx : p.tables.exec = Jvm.exec) (hZ : Z.Warmed39 s.vm) {own C : String} {index : Nat} {y z : MethodName} {bytes : ByteArray} {maxL : Nat} {rt : Option FieldType} {rm : Room} {as' : Array Value} (hown : s.vm.findClass own = some m.cls)
    (w1 : (Jvm.Cond.methodLink own index y).before a0 Z = true) (w2 : (Jvm.Cond.declares y).before a0 Z = true) (nf : NotFace s y) (w5 : (Jvm.Cond.selects C y z).before a0 Z = true) (w6 : (Jvm.Cond.instanceMethod z).before a0 Z = true) (w3 : (Jvm.Cond.initialized z.cls).before a0 Z = true) (w4 : (Jvm.Cond.code z bytes maxL rt).before a0 Z = true)
    (hy : y.cls ≠ "java/lang/invoke/MethodHandle" ∧ y.cls ≠ "java/lang/invoke/VarHandle") (hM : OCon l z bytes maxL rt [] rm Z as' h Q) (W : Nat) (hf : rm.frames + 1 ≤ R.frames) (hl : W + (maxL + 11) + rm.locals ≤ R.locals) {b : Addr} (E : Exa Z h b C) {g : JFrame} (hg : g.method = m) (hsize : g.locals.size = c.maxLocals) {argsL rest : List Value} (hlen : ∀ sig, parseMethodDescriptor y.desc = some sig → argsL.length = sig.parameters.length)
    (hstack : g.stack = argsL.reverse ++ .ref b :: rest) (hW : 2 * g.monitorRoom + (rest.map fun v => v.category).sum ≤ W) (hd : decode c.code g.pc = .ok (.invokevirtual index, 3)) (has : (.ref b :: argsL).toArray = as') (eT : T.heap = h) (hc : cells + rm.cells ≤ R.cells) (hs : slots + rm.slots ≤ R.slots) :
    ∃ (v : Option Value) (T' : State) (L : List Loc), Stand p l e R s m args below meth c T' (locs ++ L) (cells + rm.cells) (slots + rm.slots) ∧ Q v T'.heap L ∧ Steps p.tables e below (T.setTop g) (T'.setTop { g with pc := g.pc + 3, stack := v.toList ++ rest }) := by
  obtain ⟨cq, kq, qa, qb, qc⟩ := isOf hZ eT E
  obtain ⟨v, _, ⟨T1, L1, k1, n1⟩, -, X1, ⟨Lc, hQ, l1, y1, z1⟩, st⟩ := X.virtualBack hx (y := y) (z := z) hown (mvT hZ w1) (mvT hZ w2) nf (mvT hZ w5) (mvT hZ w6) hy (backOf (W := W) hM hZ w4 w3 hf hl) qa qc (g := g) hg hsize (Steps.refl _) (argsL := argsL) (rest := rest) hlen hstack hW hd (fun _ _ => ⟨has, eT, hc, hs⟩)
  dsimp only [Pt.U, Pt.locs, Pt.cells, Pt.slots] at X1 l1 y1 z1 st hQ
  subst l1 y1 z1
  exact ⟨v, T1, Lc, X1, hQ, st⟩
end Own
end Jvm.Pilot.@@N@@
namespace Jvm.Pilot.@@N@@
open Jvm Jvm.ClassFile Sem Op Lib Jvm.Free Jvm.Stand Jvm.LawKit Jvm.RoadKit Bundle Jvm.Pilot.@@N@@.Jvm.D
def src (i a o : Int32) : Int32 := if (i / (6 : Int32)) = a then ((o * (6 : Int32)) + (i % (6 : Int32))) else (if (i / (6 : Int32)) = o then ((a * (6 : Int32)) + (i % (6 : Int32))) else i)
theorem own_el {Z : State} {h : Heap} {a : Addr} {k : ClassId} {n : Int32} {vs : List Value} {dv : Value} (F : Arv Z h a k .int n vs dv) (j e : Int32) (hj : ¬ j < 0 ∧ j < n) (hv : vs.getD j.toNatClampNeg dv = .int e) : ∃ cl : Cell, Arr Z h a cl .int ∧ ¬ (j < 0 ∨ cl.slots.size ≤ j.toNatClampNeg) ∧ cl.slots[j.toNatClampNeg]? = some (.int e) := by
  obtain ⟨cl, A, -, S, N, H, G⟩ := F
  have hin := inb_of S hj
  exact ⟨cl, A, hin, H.at hin hv⟩
theorem own_m3 (x v : Int32) (h0 : 0 ≤ x.toInt) (h : v = (x % (3 : Int32))) : v = (0 : Int32) ∨ v = (1 : Int32) ∨ v = (2 : Int32) := by
  have m := (c_irem x 3 3 (by decide)).1 h0
  rw [← h] at m
  have e0 : (0 : Int32).toInt = 0 := by decide
  have e1 : (1 : Int32).toInt = 1 := by decide
  have e2 : (2 : Int32).toInt = 2 := by decide
  simp only [← Int32.toInt_inj, e0, e1, e2]
  omega
theorem own_and (x : Int32) : 0 ≤ (x &&& (255 : Int32)).toInt := (c_and x 255 (by decide)).1
theorem pn_com_example_geotide_geotide_MembersSwapPinLaw : plainName "com/example/geotide/geotide/MembersSwapPinLaw" = true := by first | (simp [plainName, overriddenIn]; done) | decide +kernel
theorem d1_0 : decode method_3_code 0 = .ok (.iload_n 0, 1) := by decide +kernel
theorem d1_1 : decode method_3_code 1 = .ok (.iload_n 2, 1) := by decide +kernel
theorem d1_2 : decode method_3_code 2 = .ok (.iload_n 1, 1) := by decide +kernel
theorem d1_3 : decode method_3_code 3 = .ok (.imul, 1) := by decide +kernel
theorem d1_4 : decode method_3_code 4 = .ok (.iadd, 1) := by decide +kernel
theorem d1_5 : decode method_3_code 5 = .ok (.ireturn, 1) := by decide +kernel
def v_b_rm : Room := { frames := 0, cells := 0, slots := 0, locals := 0 }
def v_b_Q (Z : State) (p0 : Int32) (p1 : Int32) (p2 : Int32) (h0 : Heap) (n0 : Nat) (v : Option Value) (h : Heap) (L : List Loc) : Prop := (v = some (.int (p0 + (p2 * p1)))) ∧ (Fr n0 L) ∧ (h = h0)
theorem v_b_ef (m : MethodId) (p0 : Int32) (p1 : Int32) (p2 : Int32) : entryFrame m #[(.int p0), (.int p1), (.int p2)] 3 = mkF m 0 #[.val (.int p0), .val (.int p1), .val (.int p2)] [] := by first | (simp [entryFrame, mkF, argsToLocals, Value.category]; done) | rfl
set_option maxRecDepth 65536 in
set_option maxHeartbeats 40000000 in
theorem v_b_c (l : Launch) (Z : State) (az : Array Value) (hw : ∀ d ∈ tables_1, d.before az Z = true) (ws : List Jvm.Cond) (p0 : Int32) (p1 : Int32) (p2 : Int32) (h0 : Heap) (n0 : Nat) (Z0 : n0 ≤ h0.size) :
    OCon l (⟨"com/example/geotide/geotide/MembersSwapPinLaw", "v", "(III)I"⟩ : MethodName) method_3_code 3 (some .int) ws v_b_rm Z #[(.int p0), (.int p1), (.int p2)] h0 (v_b_Q Z p0 p1 p2 h0 n0) := by
  refine ocon (plainFor_of_name pn_com_example_geotide_geotide_MembersSwapPinLaw) ?_
  intro p e s m below meth c s₁ hx hby hml hown hnm hret hlk hZ X0 eh0
  have N0 := Fr.nil n0
  have K0 := Keep.refl h0 []
  refine ogoE (v_b_ef m p0 p1 p2) ?_
  generalize hG : (OEnd s below (v_b_Q Z p0 p1 p2 h0 n0) v_b_rm.cells v_b_rm.slots) = G
  show OWay p e below G s₁ (mkF m 0 #[.val (.int p0), .val (.int p1), .val (.int p2)] [])
  refine ogo (fun _ z_ => XS.iloadN X0.here hx rfl (hb hby d1_0) rfl z_) ?_
  show OWay p e below G s₁ (mkF m 1 #[.val (.int p0), .val (.int p1), .val (.int p2)] [(.int p0)])
  refine ogo (fun _ z_ => XS.iloadN X0.here hx rfl (hb hby d1_1) rfl z_) ?_
  show OWay p e below G s₁ (mkF m 2 #[.val (.int p0), .val (.int p1), .val (.int p2)] [(.int p2), (.int p0)])
  refine ogo (fun _ z_ => XS.iloadN X0.here hx rfl (hb hby d1_2) rfl z_) ?_
  show OWay p e below G s₁ (mkF m 3 #[.val (.int p0), .val (.int p1), .val (.int p2)] [(.int p1), (.int p2), (.int p0)])
  refine ogo (fun _ z_ => XS.imul X0.here hx rfl (hb hby d1_3) rfl z_) ?_
  show OWay p e below G s₁ (mkF m 4 #[.val (.int p0), .val (.int p1), .val (.int p2)] [(.int (p2 * p1)), (.int p0)])
  refine ogo (fun _ z_ => XS.iadd X0.here hx rfl (hb hby d1_4) rfl z_) ?_
  show OWay p e below G s₁ (mkF m 5 #[.val (.int p0), .val (.int p1), .val (.int p2)] [(.int (p0 + (p2 * p1)))])
  subst hG
  refine wRet X0 hx hret hlk rfl (Or.inl ⟨rfl, Or.inl rfl, _, rfl⟩) (hb hby d1_5) (by decide) (by decide) eh0 ?_
  exact ⟨rfl, N0, rfl⟩
theorem pn_com_example_geotide_geotide_Members : plainName "com/example/geotide/geotide/Members" = true := by first | (simp [plainName, overriddenIn]; done) | decide +kernel
theorem d2_0 : decode prog_44_method_8_code 0 = .ok (.iconst 0, 1) := by decide +kernel
theorem d2_1 : decode prog_44_method_8_code 1 = .ok (.istore_n 3, 1) := by decide +kernel
theorem d2_2 : decode prog_44_method_8_code 2 = .ok (.iload_n 3, 1) := by decide +kernel
theorem d2_3 : decode prog_44_method_8_code 3 = .ok (.bipush 6, 2) := by decide +kernel
theorem d2_5 : decode prog_44_method_8_code 5 = .ok (.if_icmp .ge 33, 3) := by decide +kernel
theorem d2_8 : decode prog_44_method_8_code 8 = .ok (.aload_n 0, 1) := by decide +kernel
theorem d2_9 : decode prog_44_method_8_code 9 = .ok (.iload_n 1, 1) := by decide +kernel
theorem d2_10 : decode prog_44_method_8_code 10 = .ok (.iload_n 3, 1) := by decide +kernel
theorem d2_11 : decode prog_44_method_8_code 11 = .ok (.iadd, 1) := by decide +kernel
theorem d2_12 : decode prog_44_method_8_code 12 = .ok (.iaload, 1) := by decide +kernel
theorem d2_13 : decode prog_44_method_8_code 13 = .ok (.istore 4, 2) := by decide +kernel
theorem d2_15 : decode prog_44_method_8_code 15 = .ok (.aload_n 0, 1) := by decide +kernel
theorem d2_16 : decode prog_44_method_8_code 16 = .ok (.iload_n 1, 1) := by decide +kernel
theorem d2_17 : decode prog_44_method_8_code 17 = .ok (.iload_n 3, 1) := by decide +kernel
theorem d2_18 : decode prog_44_method_8_code 18 = .ok (.iadd, 1) := by decide +kernel
theorem d2_19 : decode prog_44_method_8_code 19 = .ok (.aload_n 0, 1) := by decide +kernel
theorem d2_20 : decode prog_44_method_8_code 20 = .ok (.iload_n 2, 1) := by decide +kernel
theorem d2_21 : decode prog_44_method_8_code 21 = .ok (.iload_n 3, 1) := by decide +kernel
theorem d2_22 : decode prog_44_method_8_code 22 = .ok (.iadd, 1) := by decide +kernel
theorem d2_23 : decode prog_44_method_8_code 23 = .ok (.iaload, 1) := by decide +kernel
theorem d2_24 : decode prog_44_method_8_code 24 = .ok (.iastore, 1) := by decide +kernel
theorem d2_25 : decode prog_44_method_8_code 25 = .ok (.aload_n 0, 1) := by decide +kernel
theorem d2_26 : decode prog_44_method_8_code 26 = .ok (.iload_n 2, 1) := by decide +kernel
theorem d2_27 : decode prog_44_method_8_code 27 = .ok (.iload_n 3, 1) := by decide +kernel
theorem d2_28 : decode prog_44_method_8_code 28 = .ok (.iadd, 1) := by decide +kernel
theorem d2_29 : decode prog_44_method_8_code 29 = .ok (.iload 4, 2) := by decide +kernel
theorem d2_31 : decode prog_44_method_8_code 31 = .ok (.iastore, 1) := by decide +kernel
theorem d2_32 : decode prog_44_method_8_code 32 = .ok (.iinc 3 1, 3) := by decide +kernel
theorem d2_35 : decode prog_44_method_8_code 35 = .ok (.goto (-33), 3) := by decide +kernel
theorem d2_38 : decode prog_44_method_8_code 38 = .ok (.return_, 1) := by decide +kernel
def swap00_rm : Room := { frames := 0, cells := 0, slots := 0, locals := 0 }
def swap00_Q (Z : State) (a0 : Addr) (kk : ClassId) (y0 : Int32) (y1 : Int32) (y2 : Int32) (y3 : Int32) (y4 : Int32) (y5 : Int32) (y6 : Int32) (y7 : Int32) (y8 : Int32) (y9 : Int32) (y10 : Int32) (y11 : Int32) (y12 : Int32) (y13 : Int32) (y14 : Int32) (y15 : Int32) (y16 : Int32) (y17 : Int32) (h0 : Heap) (n0 : Nat) (v : Option Value) (h : Heap) (L : List Loc) : Prop := (v = none) ∧ (Fr n0 L) ∧ (Keep h0 h [a0]) ∧ (Arv Z h a0 kk .int (18 : Int32) [(.int y0), (.int y1), (.int y2), (.int y3), (.int y4), (.int y5), (.int y6), (.int y7), (.int y8), (.int y9), (.int y10), (.int y11), (.int y12), (.int y13), (.int y14), (.int y15), (.int y16), (.int y17)] (.int (0 : Int32)))
theorem swap00_ef (m : MethodId) (a0 : Addr) : entryFrame m #[(.ref a0), (.int (0 : Int32)), (.int (0 : Int32))] 5 = mkF m 0 #[.val (.ref a0), .val (.int (0 : Int32)), .val (.int (0 : Int32)), .unset, .unset] [] := by first | (simp [entryFrame, mkF, argsToLocals, Value.category]; done) | rfl
set_option maxRecDepth 65536 in
set_option maxHeartbeats 40000000 in
theorem swap00_c (l : Launch) (Z : State) (az : Array Value) (hw : ∀ d ∈ tables_1, d.before az Z = true) (ws : List Jvm.Cond) (a0 : Addr) (kk : ClassId) (y0 : Int32) (y1 : Int32) (y2 : Int32) (y3 : Int32) (y4 : Int32) (y5 : Int32) (y6 : Int32) (y7 : Int32) (y8 : Int32) (y9 : Int32) (y10 : Int32) (y11 : Int32) (y12 : Int32) (y13 : Int32) (y14 : Int32) (y15 : Int32) (y16 : Int32) (y17 : Int32) (h0 : Heap) (n0 : Nat) (Z0 : n0 ≤ h0.size) (hp0 : Arv Z h0 a0 kk .int (18 : Int32) [(.int y0), (.int y1), (.int y2), (.int y3), (.int y4), (.int y5), (.int y6), (.int y7), (.int y8), (.int y9), (.int y10), (.int y11), (.int y12), (.int y13), (.int y14), (.int y15), (.int y16), (.int y17)] (.int (0 : Int32))) (hp1 : n0 ≤ a0) :
    OCon l (⟨"com/example/geotide/geotide/Members", "swap", "([III)V"⟩ : MethodName) prog_44_method_8_code 5 none ws swap00_rm Z #[(.ref a0), (.int (0 : Int32)), (.int (0 : Int32))] h0 (swap00_Q Z a0 kk y0 y1 y2 y3 y4 y5 y6 y7 y8 y9 y10 y11 y12 y13 y14 y15 y16 y17 h0 n0) := by
  refine ocon (plainFor_of_name pn_com_example_geotide_geotide_Members) ?_
  intro p e s m below meth c s₁ hx hby hml hown hnm hret hlk hZ X0 eh0
  have N0 := Fr.nil n0
  have K0 := Keep.refl h0 [a0]
  refine ogoE (swap00_ef m a0) ?_
  have g_a0 := hp1
  generalize hG : (OEnd s below (swap00_Q Z a0 kk y0 y1 y2 y3 y4 y5 y6 y7 y8 y9 y10 y11 y12 y13 y14 y15 y16 y17 h0 n0) swap00_rm.cells swap00_rm.slots) = G
  show OWay p e below G s₁ (mkF m 0 #[.val (.ref a0), .val (.int (0 : Int32)), .val (.int (0 : Int32)), .unset, .unset] [])
  refine ogo (fun _ z_ => XS.iconst X0.here hx rfl (hb hby d2_0) z_) ?_
  show OWay p e below G s₁ (mkF m 1 #[.val (.ref a0), .val (.int (0 : Int32)), .val (.int (0 : Int32)), .unset, .unset] [(.int (0 : Int32))])
  refine ogo (fun _ z_ => XS.istoreN X0.here hx rfl (hb hby d2_1) rfl (l' := #[.val (.ref a0), .val (.int (0 : Int32)), .val (.int (0 : Int32)), .val (.int (0 : Int32)), .unset]) rfl z_) ?_
  show OWay p e below G s₁ (mkF m 2 #[.val (.ref a0), .val (.int (0 : Int32)), .val (.int (0 : Int32)), .val (.int (0 : Int32)), .unset] [])
  refine ogo (fun _ z_ => XS.iloadN X0.here hx rfl (hb hby d2_2) rfl z_) ?_
  show OWay p e below G s₁ (mkF m 3 #[.val (.ref a0), .val (.int (0 : Int32)), .val (.int (0 : Int32)), .val (.int (0 : Int32)), .unset] [(.int (0 : Int32))])
  refine ogo (fun _ z_ => XS.bipush X0.here hx rfl (hb hby d2_3) z_) ?_
  show OWay p e below G s₁ (mkF m 5 #[.val (.ref a0), .val (.int (0 : Int32)), .val (.int (0 : Int32)), .val (.int (0 : Int32)), .unset] [(.int (6 : Int32)), (.int (0 : Int32))])
  refine ogo (fun _ z_ => XS.icmpNo X0.here hx rfl (hb hby d2_5) rfl (tlt (by decide)).2.1 z_) ?_
  show OWay p e below G s₁ (mkF m 8 #[.val (.ref a0), .val (.int (0 : Int32)), .val (.int (0 : Int32)), .val (.int (0 : Int32)), .unset] [])
  refine ogo (fun _ z_ => XS.aloadN X0.here hx rfl (hb hby d2_8) rfl rfl z_) ?_
  show OWay p e below G s₁ (mkF m 9 #[.val (.ref a0), .val (.int (0 : Int32)), .val (.int (0 : Int32)), .val (.int (0 : Int32)), .unset] [(.ref a0)])
  refine ogo (fun _ z_ => XS.iloadN X0.here hx rfl (hb hby d2_9) rfl z_) ?_
  show OWay p e below G s₁ (mkF m 10 #[.val (.ref a0), .val (.int (0 : Int32)), .val (.int (0 : Int32)), .val (.int (0 : Int32)), .unset] [(.int (0 : Int32)), (.ref a0)])
  refine ogo (fun _ z_ => XS.iloadN X0.here hx rfl (hb hby d2_10) rfl z_) ?_
  show OWay p e below G s₁ (mkF m 11 #[.val (.ref a0), .val (.int (0 : Int32)), .val (.int (0 : Int32)), .val (.int (0 : Int32)), .unset] [(.int (0 : Int32)), (.int (0 : Int32)), (.ref a0)])
  refine ogo (fun _ z_ => XS.iadd X0.here hx rfl (hb hby d2_11) rfl z_) ?_
  show OWay p e below G s₁ (mkF m 12 #[.val (.ref a0), .val (.int (0 : Int32)), .val (.int (0 : Int32)), .val (.int (0 : Int32)), .unset] [(.int ((0 : Int32) + (0 : Int32))), (.ref a0)])
  refine ogoE (g' := (mkF m 12 #[.val (.ref a0), .val (.int (0 : Int32)), .val (.int (0 : Int32)), .val (.int (0 : Int32)), .unset] [(.int (0 : Int32)), (.ref a0)])) (by rw [show ((0 : Int32) + (0 : Int32)) = (0 : Int32) from by decide]) ?_
  obtain ⟨cl_o1, Ar_o1, q_o1, S_o1, N_o1, H_o1, G_o1⟩ := id hp0
  have hin_o1 : ¬ ((0 : Int32) < 0 ∨ cl_o1.slots.size ≤ ((0 : Int32)).toNatClampNeg) := inb_of S_o1 ⟨by decide, by decide⟩
  have hat_o1 : cl_o1.slots[((0 : Int32)).toNatClampNeg]? = some (.int y0) := H_o1.at hin_o1 rfl
  refine ogo (fun _ z_ => X0.iaload hx (j := (0 : Int32)) (v := (.int y0)) (by rw [eh0]; exact Ar_o1.1) (State.isArrayOf_alike hZ.alike Ar_o1.2.1) Ar_o1.2.2 hin_o1 hat_o1 (g := (mkF m 12 #[.val (.ref a0), .val (.int (0 : Int32)), .val (.int (0 : Int32)), .val (.int (0 : Int32)), .unset] [(.int (0 : Int32)), (.ref a0)])) rfl rfl (hb hby d2_12) _ z_) ?_
  show OWay p e below G s₁ (mkF m 13 #[.val (.ref a0), .val (.int (0 : Int32)), .val (.int (0 : Int32)), .val (.int (0 : Int32)), .unset] [(.int y0)])
  refine ogo (fun _ z_ => XS.istore X0.here hx rfl (hb hby d2_13) rfl (l' := #[.val (.ref a0), .val (.int (0 : Int32)), .val (.int (0 : Int32)), .val (.int (0 : Int32)), .val (.int y0)]) rfl z_) ?_
  show OWay p e below G s₁ (mkF m 15 #[.val (.ref a0), .val (.int (0 : Int32)), .val (.int (0 : Int32)), .val (.int (0 : Int32)), .val (.int y0)] [])
  refine ogo (fun _ z_ => XS.aloadN X0.here hx rfl (hb hby d2_15) rfl rfl z_) ?_
  show OWay p e below G s₁ (mkF m 16 #[.val (.ref a0), .val (.int (0 : Int32)), .val (.int (0 : Int32)), .val (.int (0 : Int32)), .val (.int y0)] [(.ref a0)])
  refine ogo (fun _ z_ => XS.iloadN X0.here hx rfl (hb hby d2_16) rfl z_) ?_
  show OWay p e below G s₁ (mkF m 17 #[.val (.ref a0), .val (.int (0 : Int32)), .val (.int (0 : Int32)), .val (.int (0 : Int32)), .val (.int y0)] [(.int (0 : Int32)), (.ref a0)])
  refine ogo (fun _ z_ => XS.iloadN X0.here hx rfl (hb hby d2_17) rfl z_) ?_
  show OWay p e below G s₁ (mkF m 18 #[.val (.ref a0), .val (.int (0 : Int32)), .val (.int (0 : Int32)), .val (.int (0 : Int32)), .val (.int y0)] [(.int (0 : Int32)), (.int (0 : Int32)), (.ref a0)])
  refine ogo (fun _ z_ => XS.iadd X0.here hx rfl (hb hby d2_18) rfl z_) ?_
  show OWay p e below G s₁ (mkF m 19 #[.val (.ref a0), .val (.int (0 : Int32)), .val (.int (0 : Int32)), .val (.int (0 : Int32)), .val (.int y0)] [(.int ((0 : Int32) + (0 : Int32))), (.ref a0)])
  refine ogoE (g' := (mkF m 19 #[.val (.ref a0), .val (.int (0 : Int32)), .val (.int (0 : Int32)), .val (.int (0 : Int32)), .val (.int y0)] [(.int (0 : Int32)), (.ref a0)])) (by rw [show ((0 : Int32) + (0 : Int32)) = (0 : Int32) from by decide]) ?_
  refine ogo (fun _ z_ => XS.aloadN X0.here hx rfl (hb hby d2_19) rfl rfl z_) ?_
  show OWay p e below G s₁ (mkF m 20 #[.val (.ref a0), .val (.int (0 : Int32)), .val (.int (0 : Int32)), .val (.int (0 : Int32)), .val (.int y0)] [(.ref a0), (.int (0 : Int32)), (.ref a0)])
  refine ogo (fun _ z_ => XS.iloadN X0.here hx rfl (hb hby d2_20) rfl z_) ?_
  show OWay p e below G s₁ (mkF m 21 #[.val (.ref a0), .val (.int (0 : Int32)), .val (.int (0 : Int32)), .val (.int (0 : Int32)), .val (.int y0)] [(.int (0 : Int32)), (.ref a0), (.int (0 : Int32)), (.ref a0)])
  refine ogo (fun _ z_ => XS.iloadN X0.here hx rfl (hb hby d2_21) rfl z_) ?_
  show OWay p e below G s₁ (mkF m 22 #[.val (.ref a0), .val (.int (0 : Int32)), .val (.int (0 : Int32)), .val (.int (0 : Int32)), .val (.int y0)] [(.int (0 : Int32)), (.int (0 : Int32)), (.ref a0), (.int (0 : Int32)), (.ref a0)])
  refine ogo (fun _ z_ => XS.iadd X0.here hx rfl (hb hby d2_22) rfl z_) ?_
  show OWay p e below G s₁ (mkF m 23 #[.val (.ref a0), .val (.int (0 : Int32)), .val (.int (0 : Int32)), .val (.int (0 : Int32)), .val (.int y0)] [(.int ((0 : Int32) + (0 : Int32))), (.ref a0), (.int (0 : Int32)), (.ref a0)])
  refine ogoE (g' := (mkF m 23 #[.val (.ref a0), .val (.int (0 : Int32)), .val (.int (0 : Int32)), .val (.int (0 : Int32)), .val (.int y0)] [(.int (0 : Int32)), (.ref a0), (.int (0 : Int32)), (.ref a0)])) (by rw [show ((0 : Int32) + (0 : Int32)) = (0 : Int32) from by decide]) ?_
  obtain ⟨cl_o2, Ar_o2, q_o2, S_o2, N_o2, H_o2, G_o2⟩ := id hp0
  have hin_o2 : ¬ ((0 : Int32) < 0 ∨ cl_o2.slots.size ≤ ((0 : Int32)).toNatClampNeg) := inb_of S_o2 ⟨by decide, by decide⟩
  have hat_o2 : cl_o2.slots[((0 : Int32)).toNatClampNeg]? = some (.int y0) := H_o2.at hin_o2 rfl
  refine ogo (fun _ z_ => X0.iaload hx (j := (0 : Int32)) (v := (.int y0)) (by rw [eh0]; exact Ar_o2.1) (State.isArrayOf_alike hZ.alike Ar_o2.2.1) Ar_o2.2.2 hin_o2 hat_o2 (g := (mkF m 23 #[.val (.ref a0), .val (.int (0 : Int32)), .val (.int (0 : Int32)), .val (.int (0 : Int32)), .val (.int y0)] [(.int (0 : Int32)), (.ref a0), (.int (0 : Int32)), (.ref a0)])) rfl rfl (hb hby d2_23) _ z_) ?_
  show OWay p e below G s₁ (mkF m 24 #[.val (.ref a0), .val (.int (0 : Int32)), .val (.int (0 : Int32)), .val (.int (0 : Int32)), .val (.int y0)] [(.int y0), (.int (0 : Int32)), (.ref a0)])
  obtain ⟨cl_o3, Ar_o3, q_o3, S_o3, N_o3, H_o3, G_o3⟩ := id hp0
  have hin_o3 : ¬ ((0 : Int32) < 0 ∨ cl_o3.slots.size ≤ ((0 : Int32)).toNatClampNeg) := inb_of S_o3 ⟨by decide, by decide⟩
  obtain ⟨T4, h4, X4, eT4, W4, st4⟩ := stI X0 hx hZ eh0 Ar_o3 (j := (0 : Int32)) hin_o3 (g := (mkF m 24 #[.val (.ref a0), .val (.int (0 : Int32)), .val (.int (0 : Int32)), .val (.int (0 : Int32)), .val (.int y0)] [(.int y0), (.int (0 : Int32)), (.ref a0)])) rfl rfl (hb hby d2_24)
  have K5 : Keep h0 h4 [a0] := K0.wr W4 (Or.inl (List.mem_of_getElem? (i := 0) rfl))
  have V_4 : Arv Z h4 a0 kk .int (18 : Int32) [(.int y0), (.int y1), (.int y2), (.int y3), (.int y4), (.int y5), (.int y6), (.int y7), (.int y8), (.int y9), (.int y10), (.int y11), (.int y12), (.int y13), (.int y14), (.int y15), (.int y16), (.int y17)] (.int (0 : Int32)) := Arv.set Ar_o3 q_o3 S_o3 N_o3 H_o3 G_o3 rfl W4 0 rfl (Nat.le_of_ble_eq_true rfl)
  have N4 := Fr.snoc X4 N0 g_a0
  refine ogo st4 ?_
  show OWay p e below G T4 (mkF m 25 #[.val (.ref a0), .val (.int (0 : Int32)), .val (.int (0 : Int32)), .val (.int (0 : Int32)), .val (.int y0)] [])
  refine ogo (fun _ z_ => XS.aloadN X4.here hx rfl (hb hby d2_25) rfl rfl z_) ?_
  show OWay p e below G T4 (mkF m 26 #[.val (.ref a0), .val (.int (0 : Int32)), .val (.int (0 : Int32)), .val (.int (0 : Int32)), .val (.int y0)] [(.ref a0)])
  refine ogo (fun _ z_ => XS.iloadN X4.here hx rfl (hb hby d2_26) rfl z_) ?_
  show OWay p e below G T4 (mkF m 27 #[.val (.ref a0), .val (.int (0 : Int32)), .val (.int (0 : Int32)), .val (.int (0 : Int32)), .val (.int y0)] [(.int (0 : Int32)), (.ref a0)])
  refine ogo (fun _ z_ => XS.iloadN X4.here hx rfl (hb hby d2_27) rfl z_) ?_
  show OWay p e below G T4 (mkF m 28 #[.val (.ref a0), .val (.int (0 : Int32)), .val (.int (0 : Int32)), .val (.int (0 : Int32)), .val (.int y0)] [(.int (0 : Int32)), (.int (0 : Int32)), (.ref a0)])
  refine ogo (fun _ z_ => XS.iadd X4.here hx rfl (hb hby d2_28) rfl z_) ?_
  show OWay p e below G T4 (mkF m 29 #[.val (.ref a0), .val (.int (0 : Int32)), .val (.int (0 : Int32)), .val (.int (0 : Int32)), .val (.int y0)] [(.int ((0 : Int32) + (0 : Int32))), (.ref a0)])
  refine ogoE (g' := (mkF m 29 #[.val (.ref a0), .val (.int (0 : Int32)), .val (.int (0 : Int32)), .val (.int (0 : Int32)), .val (.int y0)] [(.int (0 : Int32)), (.ref a0)])) (by rw [show ((0 : Int32) + (0 : Int32)) = (0 : Int32) from by decide]) ?_
  refine ogo (fun _ z_ => XS.iload X4.here hx rfl (hb hby d2_29) rfl z_) ?_
  show OWay p e below G T4 (mkF m 31 #[.val (.ref a0), .val (.int (0 : Int32)), .val (.int (0 : Int32)), .val (.int (0 : Int32)), .val (.int y0)] [(.int y0), (.int (0 : Int32)), (.ref a0)])
  obtain ⟨cl_o6, Ar_o6, q_o6, S_o6, N_o6, H_o6, G_o6⟩ := id V_4
  have hin_o6 : ¬ ((0 : Int32) < 0 ∨ cl_o6.slots.size ≤ ((0 : Int32)).toNatClampNeg) := inb_of S_o6 ⟨by decide, by decide⟩
  obtain ⟨T7, h7, X7, eT7, W7, st7⟩ := stI X4 hx hZ eT4 Ar_o6 (j := (0 : Int32)) hin_o6 (g := (mkF m 31 #[.val (.ref a0), .val (.int (0 : Int32)), .val (.int (0 : Int32)), .val (.int (0 : Int32)), .val (.int y0)] [(.int y0), (.int (0 : Int32)), (.ref a0)])) rfl rfl (hb hby d2_31)
  have K8 : Keep h0 h7 [a0] := K5.wr W7 (Or.inl (List.mem_of_getElem? (i := 0) rfl))
  have V_7 : Arv Z h7 a0 kk .int (18 : Int32) [(.int y0), (.int y1), (.int y2), (.int y3), (.int y4), (.int y5), (.int y6), (.int y7), (.int y8), (.int y9), (.int y10), (.int y11), (.int y12), (.int y13), (.int y14), (.int y15), (.int y16), (.int y17)] (.int (0 : Int32)) := Arv.set Ar_o6 q_o6 S_o6 N_o6 H_o6 G_o6 rfl W7 0 rfl (Nat.le_of_ble_eq_true rfl)
  have N7 := Fr.snoc X7 N4 g_a0
  refine ogo st7 ?_
  show OWay p e below G T7 (mkF m 32 #[.val (.ref a0), .val (.int (0 : Int32)), .val (.int (0 : Int32)), .val (.int (0 : Int32)), .val (.int y0)] [])
  refine ogo (fun _ z_ => XS.iinc X7.here hx rfl (hb hby d2_32) rfl (l' := #[.val (.ref a0), .val (.int (0 : Int32)), .val (.int (0 : Int32)), .val (.int ((0 : Int32) + (1 : Int32))), .val (.int y0)]) rfl z_) ?_
  show OWay p e below G T7 (mkF m 35 #[.val (.ref a0), .val (.int (0 : Int32)), .val (.int (0 : Int32)), .val (.int ((0 : Int32) + (1 : Int32))), .val (.int y0)] [])
  refine ogoE (g' := (mkF m 35 #[.val (.ref a0), .val (.int (0 : Int32)), .val (.int (0 : Int32)), .val (.int (1 : Int32)), .val (.int y0)] [])) (by rw [show ((0 : Int32) + (1 : Int32)) = (1 : Int32) from by decide]) ?_
  refine ogo (fun _ z_ => XS.goto X7.here hx rfl (pc0 := 35) (pc' := 2) rfl (hb hby d2_35) (by decide) (by decide) z_) ?_
  show OWay p e below G T7 (mkF m 2 #[.val (.ref a0), .val (.int (0 : Int32)), .val (.int (0 : Int32)), .val (.int (1 : Int32)), .val (.int y0)] [])
  refine ogo (fun _ z_ => XS.iloadN X7.here hx rfl (hb hby d2_2) rfl z_) ?_
  show OWay p e below G T7 (mkF m 3 #[.val (.ref a0), .val (.int (0 : Int32)), .val (.int (0 : Int32)), .val (.int (1 : Int32)), .val (.int y0)] [(.int (1 : Int32))])
  refine ogo (fun _ z_ => XS.bipush X7.here hx rfl (hb hby d2_3) z_) ?_
  show OWay p e below G T7 (mkF m 5 #[.val (.ref a0), .val (.int (0 : Int32)), .val (.int (0 : Int32)), .val (.int (1 : Int32)), .val (.int y0)] [(.int (6 : Int32)), (.int (1 : Int32))])
  refine ogo (fun _ z_ => XS.icmpNo X7.here hx rfl (hb hby d2_5) rfl (tlt (by decide)).2.1 z_) ?_
  show OWay p e below G T7 (mkF m 8 #[.val (.ref a0), .val (.int (0 : Int32)), .val (.int (0 : Int32)), .val (.int (1 : Int32)), .val (.int y0)] [])
  refine ogo (fun _ z_ => XS.aloadN X7.here hx rfl (hb hby d2_8) rfl rfl z_) ?_
  show OWay p e below G T7 (mkF m 9 #[.val (.ref a0), .val (.int (0 : Int32)), .val (.int (0 : Int32)), .val (.int (1 : Int32)), .val (.int y0)] [(.ref a0)])
  refine ogo (fun _ z_ => XS.iloadN X7.here hx rfl (hb hby d2_9) rfl z_) ?_
  show OWay p e below G T7 (mkF m 10 #[.val (.ref a0), .val (.int (0 : Int32)), .val (.int (0 : Int32)), .val (.int (1 : Int32)), .val (.int y0)] [(.int (0 : Int32)), (.ref a0)])
  refine ogo (fun _ z_ => XS.iloadN X7.here hx rfl (hb hby d2_10) rfl z_) ?_
  show OWay p e below G T7 (mkF m 11 #[.val (.ref a0), .val (.int (0 : Int32)), .val (.int (0 : Int32)), .val (.int (1 : Int32)), .val (.int y0)] [(.int (1 : Int32)), (.int (0 : Int32)), (.ref a0)])
  refine ogo (fun _ z_ => XS.iadd X7.here hx rfl (hb hby d2_11) rfl z_) ?_
  show OWay p e below G T7 (mkF m 12 #[.val (.ref a0), .val (.int (0 : Int32)), .val (.int (0 : Int32)), .val (.int (1 : Int32)), .val (.int y0)] [(.int ((0 : Int32) + (1 : Int32))), (.ref a0)])
  refine ogoE (g' := (mkF m 12 #[.val (.ref a0), .val (.int (0 : Int32)), .val (.int (0 : Int32)), .val (.int (1 : Int32)), .val (.int y0)] [(.int (1 : Int32)), (.ref a0)])) (by rw [show ((0 : Int32) + (1 : Int32)) = (1 : Int32) from by decide]) ?_
  obtain ⟨cl_o9, Ar_o9, q_o9, S_o9, N_o9, H_o9, G_o9⟩ := id V_7
  have hin_o9 : ¬ ((1 : Int32) < 0 ∨ cl_o9.slots.size ≤ ((1 : Int32)).toNatClampNeg) := inb_of S_o9 ⟨by decide, by decide⟩
  have hat_o9 : cl_o9.slots[((1 : Int32)).toNatClampNeg]? = some (.int y1) := H_o9.at hin_o9 rfl
  refine ogo (fun _ z_ => X7.iaload hx (j := (1 : Int32)) (v := (.int y1)) (by rw [eT7]; exact Ar_o9.1) (State.isArrayOf_alike hZ.alike Ar_o9.2.1) Ar_o9.2.2 hin_o9 hat_o9 (g := (mkF m 12 #[.val (.ref a0), .val (.int (0 : Int32)), .val (.int (0 : Int32)), .val (.int (1 : Int32)), .val (.int y0)] [(.int (1 : Int32)), (.ref a0)])) rfl rfl (hb hby d2_12) _ z_) ?_
  show OWay p e below G T7 (mkF m 13 #[.val (.ref a0), .val (.int (0 : Int32)), .val (.int (0 : Int32)), .val (.int (1 : Int32)), .val (.int y0)] [(.int y1)])
  refine ogo (fun _ z_ => XS.istore X7.here hx rfl (hb hby d2_13) rfl (l' := #[.val (.ref a0), .val (.int (0 : Int32)), .val (.int (0 : Int32)), .val (.int (1 : Int32)), .val (.int y1)]) rfl z_) ?_
  show OWay p e below G T7 (mkF m 15 #[.val (.ref a0), .val (.int (0 : Int32)), .val (.int (0 : Int32)), .val (.int (1 : Int32)), .val (.int y1)] [])
  refine ogo (fun _ z_ => XS.aloadN X7.here hx rfl (hb hby d2_15) rfl rfl z_) ?_
  show OWay p e below G T7 (mkF m 16 #[.val (.ref a0), .val (.int (0 : Int32)), .val (.int (0 : Int32)), .val (.int (1 : Int32)), .val (.int y1)] [(.ref a0)])
  refine ogo (fun _ z_ => XS.iloadN X7.here hx rfl (hb hby d2_16) rfl z_) ?_
  show OWay p e below G T7 (mkF m 17 #[.val (.ref a0), .val (.int (0 : Int32)), .val (.int (0 : Int32)), .val (.int (1 : Int32)), .val (.int y1)] [(.int (0 : Int32)), (.ref a0)])
  refine ogo (fun _ z_ => XS.iloadN X7.here hx rfl (hb hby d2_17) rfl z_) ?_
  show OWay p e below G T7 (mkF m 18 #[.val (.ref a0), .val (.int (0 : Int32)), .val (.int (0 : Int32)), .val (.int (1 : Int32)), .val (.int y1)] [(.int (1 : Int32)), (.int (0 : Int32)), (.ref a0)])
  refine ogo (fun _ z_ => XS.iadd X7.here hx rfl (hb hby d2_18) rfl z_) ?_
  show OWay p e below G T7 (mkF m 19 #[.val (.ref a0), .val (.int (0 : Int32)), .val (.int (0 : Int32)), .val (.int (1 : Int32)), .val (.int y1)] [(.int ((0 : Int32) + (1 : Int32))), (.ref a0)])
  refine ogoE (g' := (mkF m 19 #[.val (.ref a0), .val (.int (0 : Int32)), .val (.int (0 : Int32)), .val (.int (1 : Int32)), .val (.int y1)] [(.int (1 : Int32)), (.ref a0)])) (by rw [show ((0 : Int32) + (1 : Int32)) = (1 : Int32) from by decide]) ?_
  refine ogo (fun _ z_ => XS.aloadN X7.here hx rfl (hb hby d2_19) rfl rfl z_) ?_
  show OWay p e below G T7 (mkF m 20 #[.val (.ref a0), .val (.int (0 : Int32)), .val (.int (0 : Int32)), .val (.int (1 : Int32)), .val (.int y1)] [(.ref a0), (.int (1 : Int32)), (.ref a0)])
  refine ogo (fun _ z_ => XS.iloadN X7.here hx rfl (hb hby d2_20) rfl z_) ?_
  show OWay p e below G T7 (mkF m 21 #[.val (.ref a0), .val (.int (0 : Int32)), .val (.int (0 : Int32)), .val (.int (1 : Int32)), .val (.int y1)] [(.int (0 : Int32)), (.ref a0), (.int (1 : Int32)), (.ref a0)])
  refine ogo (fun _ z_ => XS.iloadN X7.here hx rfl (hb hby d2_21) rfl z_) ?_
  show OWay p e below G T7 (mkF m 22 #[.val (.ref a0), .val (.int (0 : Int32)), .val (.int (0 : Int32)), .val (.int (1 : Int32)), .val (.int y1)] [(.int (1 : Int32)), (.int (0 : Int32)), (.ref a0), (.int (1 : Int32)), (.ref a0)])
  refine ogo (fun _ z_ => XS.iadd X7.here hx rfl (hb hby d2_22) rfl z_) ?_
  show OWay p e below G T7 (mkF m 23 #[.val (.ref a0), .val (.int (0 : Int32)), .val (.int (0 : Int32)), .val (.int (1 : Int32)), .val (.int y1)] [(.int ((0 : Int32) + (1 : Int32))), (.ref a0), (.int (1 : Int32)), (.ref a0)])
  refine ogoE (g' := (mkF m 23 #[.val (.ref a0), .val (.int (0 : Int32)), .val (.int (0 : Int32)), .val (.int (1 : Int32)), .val (.int y1)] [(.int (1 : Int32)), (.ref a0), (.int (1 : Int32)), (.ref a0)])) (by rw [show ((0 : Int32) + (1 : Int32)) = (1 : Int32) from by decide]) ?_
  obtain ⟨cl_o10, Ar_o10, q_o10, S_o10, N_o10, H_o10, G_o10⟩ := id V_7
  have hin_o10 : ¬ ((1 : Int32) < 0 ∨ cl_o10.slots.size ≤ ((1 : Int32)).toNatClampNeg) := inb_of S_o10 ⟨by decide, by decide⟩
  have hat_o10 : cl_o10.slots[((1 : Int32)).toNatClampNeg]? = some (.int y1) := H_o10.at hin_o10 rfl
  refine ogo (fun _ z_ => X7.iaload hx (j := (1 : Int32)) (v := (.int y1)) (by rw [eT7]; exact Ar_o10.1) (State.isArrayOf_alike hZ.alike Ar_o10.2.1) Ar_o10.2.2 hin_o10 hat_o10 (g := (mkF m 23 #[.val (.ref a0), .val (.int (0 : Int32)), .val (.int (0 : Int32)), .val (.int (1 : Int32)), .val (.int y1)] [(.int (1 : Int32)), (.ref a0), (.int (1 : Int32)), (.ref a0)])) rfl rfl (hb hby d2_23) _ z_) ?_
  show OWay p e below G T7 (mkF m 24 #[.val (.ref a0), .val (.int (0 : Int32)), .val (.int (0 : Int32)), .val (.int (1 : Int32)), .val (.int y1)] [(.int y1), (.int (1 : Int32)), (.ref a0)])
  obtain ⟨cl_o11, Ar_o11, q_o11, S_o11, N_o11, H_o11, G_o11⟩ := id V_7
  have hin_o11 : ¬ ((1 : Int32) < 0 ∨ cl_o11.slots.size ≤ ((1 : Int32)).toNatClampNeg) := inb_of S_o11 ⟨by decide, by decide⟩
  obtain ⟨T12, h12, X12, eT12, W12, st12⟩ := stI X7 hx hZ eT7 Ar_o11 (j := (1 : Int32)) hin_o11 (g := (mkF m 24 #[.val (.ref a0), .val (.int (0 : Int32)), .val (.int (0 : Int32)), .val (.int (1 : Int32)), .val (.int y1)] [(.int y1), (.int (1 : Int32)), (.ref a0)])) rfl rfl (hb hby d2_24)
  have K13 : Keep h0 h12 [a0] := K8.wr W12 (Or.inl (List.mem_of_getElem? (i := 0) rfl))
  have V_12 : Arv Z h12 a0 kk .int (18 : Int32) [(.int y0), (.int y1), (.int y2), (.int y3), (.int y4), (.int y5), (.int y6), (.int y7), (.int y8), (.int y9), (.int y10), (.int y11), (.int y12), (.int y13), (.int y14), (.int y15), (.int y16), (.int y17)] (.int (0 : Int32)) := Arv.set Ar_o11 q_o11 S_o11 N_o11 H_o11 G_o11 rfl W12 1 rfl (Nat.le_of_ble_eq_true rfl)
  have N12 := Fr.snoc X12 N7 g_a0
  refine ogo st12 ?_
  show OWay p e below G T12 (mkF m 25 #[.val (.ref a0), .val (.int (0 : Int32)), .val (.int (0 : Int32)), .val (.int (1 : Int32)), .val (.int y1)] [])
  refine ogo (fun _ z_ => XS.aloadN X12.here hx rfl (hb hby d2_25) rfl rfl z_) ?_
  show OWay p e below G T12 (mkF m 26 #[.val (.ref a0), .val (.int (0 : Int32)), .val (.int (0 : Int32)), .val (.int (1 : Int32)), .val (.int y1)] [(.ref a0)])
  refine ogo (fun _ z_ => XS.iloadN X12.here hx rfl (hb hby d2_26) rfl z_) ?_
  show OWay p e below G T12 (mkF m 27 #[.val (.ref a0), .val (.int (0 : Int32)), .val (.int (0 : Int32)), .val (.int (1 : Int32)), .val (.int y1)] [(.int (0 : Int32)), (.ref a0)])
  refine ogo (fun _ z_ => XS.iloadN X12.here hx rfl (hb hby d2_27) rfl z_) ?_
  show OWay p e below G T12 (mkF m 28 #[.val (.ref a0), .val (.int (0 : Int32)), .val (.int (0 : Int32)), .val (.int (1 : Int32)), .val (.int y1)] [(.int (1 : Int32)), (.int (0 : Int32)), (.ref a0)])
  refine ogo (fun _ z_ => XS.iadd X12.here hx rfl (hb hby d2_28) rfl z_) ?_
  show OWay p e below G T12 (mkF m 29 #[.val (.ref a0), .val (.int (0 : Int32)), .val (.int (0 : Int32)), .val (.int (1 : Int32)), .val (.int y1)] [(.int ((0 : Int32) + (1 : Int32))), (.ref a0)])
  refine ogoE (g' := (mkF m 29 #[.val (.ref a0), .val (.int (0 : Int32)), .val (.int (0 : Int32)), .val (.int (1 : Int32)), .val (.int y1)] [(.int (1 : Int32)), (.ref a0)])) (by rw [show ((0 : Int32) + (1 : Int32)) = (1 : Int32) from by decide]) ?_
  refine ogo (fun _ z_ => XS.iload X12.here hx rfl (hb hby d2_29) rfl z_) ?_
  show OWay p e below G T12 (mkF m 31 #[.val (.ref a0), .val (.int (0 : Int32)), .val (.int (0 : Int32)), .val (.int (1 : Int32)), .val (.int y1)] [(.int y1), (.int (1 : Int32)), (.ref a0)])
  obtain ⟨cl_o14, Ar_o14, q_o14, S_o14, N_o14, H_o14, G_o14⟩ := id V_12
  have hin_o14 : ¬ ((1 : Int32) < 0 ∨ cl_o14.slots.size ≤ ((1 : Int32)).toNatClampNeg) := inb_of S_o14 ⟨by decide, by decide⟩
  obtain ⟨T15, h15, X15, eT15, W15, st15⟩ := stI X12 hx hZ eT12 Ar_o14 (j := (1 : Int32)) hin_o14 (g := (mkF m 31 #[.val (.ref a0), .val (.int (0 : Int32)), .val (.int (0 : Int32)), .val (.int (1 : Int32)), .val (.int y1)] [(.int y1), (.int (1 : Int32)), (.ref a0)])) rfl rfl (hb hby d2_31)
  have K16 : Keep h0 h15 [a0] := K13.wr W15 (Or.inl (List.mem_of_getElem? (i := 0) rfl))
  have V_15 : Arv Z h15 a0 kk .int (18 : Int32) [(.int y0), (.int y1), (.int y2), (.int y3), (.int y4), (.int y5), (.int y6), (.int y7), (.int y8), (.int y9), (.int y10), (.int y11), (.int y12), (.int y13), (.int y14), (.int y15), (.int y16), (.int y17)] (.int (0 : Int32)) := Arv.set Ar_o14 q_o14 S_o14 N_o14 H_o14 G_o14 rfl W15 1 rfl (Nat.le_of_ble_eq_true rfl)
  have N15 := Fr.snoc X15 N12 g_a0
  refine ogo st15 ?_
  show OWay p e below G T15 (mkF m 32 #[.val (.ref a0), .val (.int (0 : Int32)), .val (.int (0 : Int32)), .val (.int (1 : Int32)), .val (.int y1)] [])
  refine ogo (fun _ z_ => XS.iinc X15.here hx rfl (hb hby d2_32) rfl (l' := #[.val (.ref a0), .val (.int (0 : Int32)), .val (.int (0 : Int32)), .val (.int ((1 : Int32) + (1 : Int32))), .val (.int y1)]) rfl z_) ?_
  show OWay p e below G T15 (mkF m 35 #[.val (.ref a0), .val (.int (0 : Int32)), .val (.int (0 : Int32)), .val (.int ((1 : Int32) + (1 : Int32))), .val (.int y1)] [])
  refine ogoE (g' := (mkF m 35 #[.val (.ref a0), .val (.int (0 : Int32)), .val (.int (0 : Int32)), .val (.int (2 : Int32)), .val (.int y1)] [])) (by rw [show ((1 : Int32) + (1 : Int32)) = (2 : Int32) from by decide]) ?_
  refine ogo (fun _ z_ => XS.goto X15.here hx rfl (pc0 := 35) (pc' := 2) rfl (hb hby d2_35) (by decide) (by decide) z_) ?_
  show OWay p e below G T15 (mkF m 2 #[.val (.ref a0), .val (.int (0 : Int32)), .val (.int (0 : Int32)), .val (.int (2 : Int32)), .val (.int y1)] [])
  refine ogo (fun _ z_ => XS.iloadN X15.here hx rfl (hb hby d2_2) rfl z_) ?_
  show OWay p e below G T15 (mkF m 3 #[.val (.ref a0), .val (.int (0 : Int32)), .val (.int (0 : Int32)), .val (.int (2 : Int32)), .val (.int y1)] [(.int (2 : Int32))])
  refine ogo (fun _ z_ => XS.bipush X15.here hx rfl (hb hby d2_3) z_) ?_
  show OWay p e below G T15 (mkF m 5 #[.val (.ref a0), .val (.int (0 : Int32)), .val (.int (0 : Int32)), .val (.int (2 : Int32)), .val (.int y1)] [(.int (6 : Int32)), (.int (2 : Int32))])
  refine ogo (fun _ z_ => XS.icmpNo X15.here hx rfl (hb hby d2_5) rfl (tlt (by decide)).2.1 z_) ?_
  show OWay p e below G T15 (mkF m 8 #[.val (.ref a0), .val (.int (0 : Int32)), .val (.int (0 : Int32)), .val (.int (2 : Int32)), .val (.int y1)] [])
  refine ogo (fun _ z_ => XS.aloadN X15.here hx rfl (hb hby d2_8) rfl rfl z_) ?_
  show OWay p e below G T15 (mkF m 9 #[.val (.ref a0), .val (.int (0 : Int32)), .val (.int (0 : Int32)), .val (.int (2 : Int32)), .val (.int y1)] [(.ref a0)])
  refine ogo (fun _ z_ => XS.iloadN X15.here hx rfl (hb hby d2_9) rfl z_) ?_
  show OWay p e below G T15 (mkF m 10 #[.val (.ref a0), .val (.int (0 : Int32)), .val (.int (0 : Int32)), .val (.int (2 : Int32)), .val (.int y1)] [(.int (0 : Int32)), (.ref a0)])
  refine ogo (fun _ z_ => XS.iloadN X15.here hx rfl (hb hby d2_10) rfl z_) ?_
  show OWay p e below G T15 (mkF m 11 #[.val (.ref a0), .val (.int (0 : Int32)), .val (.int (0 : Int32)), .val (.int (2 : Int32)), .val (.int y1)] [(.int (2 : Int32)), (.int (0 : Int32)), (.ref a0)])
  refine ogo (fun _ z_ => XS.iadd X15.here hx rfl (hb hby d2_11) rfl z_) ?_
  show OWay p e below G T15 (mkF m 12 #[.val (.ref a0), .val (.int (0 : Int32)), .val (.int (0 : Int32)), .val (.int (2 : Int32)), .val (.int y1)] [(.int ((0 : Int32) + (2 : Int32))), (.ref a0)])
  refine ogoE (g' := (mkF m 12 #[.val (.ref a0), .val (.int (0 : Int32)), .val (.int (0 : Int32)), .val (.int (2 : Int32)), .val (.int y1)] [(.int (2 : Int32)), (.ref a0)])) (by rw [show ((0 : Int32) + (2 : Int32)) = (2 : Int32) from by decide]) ?_
  obtain ⟨cl_o17, Ar_o17, q_o17, S_o17, N_o17, H_o17, G_o17⟩ := id V_15
  have hin_o17 : ¬ ((2 : Int32) < 0 ∨ cl_o17.slots.size ≤ ((2 : Int32)).toNatClampNeg) := inb_of S_o17 ⟨by decide, by decide⟩
  have hat_o17 : cl_o17.slots[((2 : Int32)).toNatClampNeg]? = some (.int y2) := H_o17.at hin_o17 rfl
  refine ogo (fun _ z_ => X15.iaload hx (j := (2 : Int32)) (v := (.int y2)) (by rw [eT15]; exact Ar_o17.1) (State.isArrayOf_alike hZ.alike Ar_o17.2.1) Ar_o17.2.2 hin_o17 hat_o17 (g := (mkF m 12 #[.val (.ref a0), .val (.int (0 : Int32)), .val (.int (0 : Int32)), .val (.int (2 : Int32)), .val (.int y1)] [(.int (2 : Int32)), (.ref a0)])) rfl rfl (hb hby d2_12) _ z_) ?_
  show OWay p e below G T15 (mkF m 13 #[.val (.ref a0), .val (.int (0 : Int32)), .val (.int (0 : Int32)), .val (.int (2 : Int32)), .val (.int y1)] [(.int y2)])
  refine ogo (fun _ z_ => XS.istore X15.here hx rfl (hb hby d2_13) rfl (l' := #[.val (.ref a0), .val (.int (0 : Int32)), .val (.int (0 : Int32)), .val (.int (2 : Int32)), .val (.int y2)]) rfl z_) ?_
  show OWay p e below G T15 (mkF m 15 #[.val (.ref a0), .val (.int (0 : Int32)), .val (.int (0 : Int32)), .val (.int (2 : Int32)), .val (.int y2)] [])
  refine ogo (fun _ z_ => XS.aloadN X15.here hx rfl (hb hby d2_15) rfl rfl z_) ?_
  show OWay p e below G T15 (mkF m 16 #[.val (.ref a0), .val (.int (0 : Int32)), .val (.int (0 : Int32)), .val (.int (2 : Int32)), .val (.int y2)] [(.ref a0)])
  refine ogo (fun _ z_ => XS.iloadN X15.here hx rfl (hb hby d2_16) rfl z_) ?_
  show OWay p e below G T15 (mkF m 17 #[.val (.ref a0), .val (.int (0 : Int32)), .val (.int (0 : Int32)), .val (.int (2 : Int32)), .val (.int y2)] [(.int (0 : Int32)), (.ref a0)])
  refine ogo (fun _ z_ => XS.iloadN X15.here hx rfl (hb hby d2_17) rfl z_) ?_
  show OWay p e below G T15 (mkF m 18 #[.val (.ref a0), .val (.int (0 : Int32)), .val (.int (0 : Int32)), .val (.int (2 : Int32)), .val (.int y2)] [(.int (2 : Int32)), (.int (0 : Int32)), (.ref a0)])
  refine ogo (fun _ z_ => XS.iadd X15.here hx rfl (hb hby d2_18) rfl z_) ?_
  show OWay p e below G T15 (mkF m 19 #[.val (.ref a0), .val (.int (0 : Int32)), .val (.int (0 : Int32)), .val (.int (2 : Int32)), .val (.int y2)] [(.int ((0 : Int32) + (2 : Int32))), (.ref a0)])
  refine ogoE (g' := (mkF m 19 #[.val (.ref a0), .val (.int (0 : Int32)), .val (.int (0 : Int32)), .val (.int (2 : Int32)), .val (.int y2)] [(.int (2 : Int32)), (.ref a0)])) (by rw [show ((0 : Int32) + (2 : Int32)) = (2 : Int32) from by decide]) ?_
  refine ogo (fun _ z_ => XS.aloadN X15.here hx rfl (hb hby d2_19) rfl rfl z_) ?_
  show OWay p e below G T15 (mkF m 20 #[.val (.ref a0), .val (.int (0 : Int32)), .val (.int (0 : Int32)), .val (.int (2 : Int32)), .val (.int y2)] [(.ref a0), (.int (2 : Int32)), (.ref a0)])
  refine ogo (fun _ z_ => XS.iloadN X15.here hx rfl (hb hby d2_20) rfl z_) ?_
  show OWay p e below G T15 (mkF m 21 #[.val (.ref a0), .val (.int (0 : Int32)), .val (.int (0 : Int32)), .val (.int (2 : Int32)), .val (.int y2)] [(.int (0 : Int32)), (.ref a0), (.int (2 : Int32)), (.ref a0)])
  refine ogo (fun _ z_ => XS.iloadN X15.here hx rfl (hb hby d2_21) rfl z_) ?_
  show OWay p e below G T15 (mkF m 22 #[.val (.ref a0), .val (.int (0 : Int32)), .val (.int (0 : Int32)), .val (.int (2 : Int32)), .val (.int y2)] [(.int (2 : Int32)), (.int (0 : Int32)), (.ref a0), (.int (2 : Int32)), (.ref a0)])
  refine ogo (fun _ z_ => XS.iadd X15.here hx rfl (hb hby d2_22) rfl z_) ?_
  show OWay p e below G T15 (mkF m 23 #[.val (.ref a0), .val (.int (0 : Int32)), .val (.int (0 : Int32)), .val (.int (2 : Int32)), .val (.int y2)] [(.int ((0 : Int32) + (2 : Int32))), (.ref a0), (.int (2 : Int32)), (.ref a0)])
  refine ogoE (g' := (mkF m 23 #[.val (.ref a0), .val (.int (0 : Int32)), .val (.int (0 : Int32)), .val (.int (2 : Int32)), .val (.int y2)] [(.int (2 : Int32)), (.ref a0), (.int (2 : Int32)), (.ref a0)])) (by rw [show ((0 : Int32) + (2 : Int32)) = (2 : Int32) from by decide]) ?_
  obtain ⟨cl_o18, Ar_o18, q_o18, S_o18, N_o18, H_o18, G_o18⟩ := id V_15
  have hin_o18 : ¬ ((2 : Int32) < 0 ∨ cl_o18.slots.size ≤ ((2 : Int32)).toNatClampNeg) := inb_of S_o18 ⟨by decide, by decide⟩
  have hat_o18 : cl_o18.slots[((2 : Int32)).toNatClampNeg]? = some (.int y2) := H_o18.at hin_o18 rfl
  refine ogo (fun _ z_ => X15.iaload hx (j := (2 : Int32)) (v := (.int y2)) (by rw [eT15]; exact Ar_o18.1) (State.isArrayOf_alike hZ.alike Ar_o18.2.1) Ar_o18.2.2 hin_o18 hat_o18 (g := (mkF m 23 #[.val (.ref a0), .val (.int (0 : Int32)), .val (.int (0 : Int32)), .val (.int (2 : Int32)), .val (.int y2)] [(.int (2 : Int32)), (.ref a0), (.int (2 : Int32)), (.ref a0)])) rfl rfl (hb hby d2_23) _ z_) ?_
  show OWay p e below G T15 (mkF m 24 #[.val (.ref a0), .val (.int (0 : Int32)), .val (.int (0 : Int32)), .val (.int (2 : Int32)), .val (.int y2)] [(.int y2), (.int (2 : Int32)), (.ref a0)])
  obtain ⟨cl_o19, Ar_o19, q_o19, S_o19, N_o19, H_o19, G_o19⟩ := id V_15
  have hin_o19 : ¬ ((2 : Int32) < 0 ∨ cl_o19.slots.size ≤ ((2 : Int32)).toNatClampNeg) := inb_of S_o19 ⟨by decide, by decide⟩
  obtain ⟨T20, h20, X20, eT20, W20, st20⟩ := stI X15 hx hZ eT15 Ar_o19 (j := (2 : Int32)) hin_o19 (g := (mkF m 24 #[.val (.ref a0), .val (.int (0 : Int32)), .val (.int (0 : Int32)), .val (.int (2 : Int32)), .val (.int y2)] [(.int y2), (.int (2 : Int32)), (.ref a0)])) rfl rfl (hb hby d2_24)
  have K21 : Keep h0 h20 [a0] := K16.wr W20 (Or.inl (List.mem_of_getElem? (i := 0) rfl))
  have V_20 : Arv Z h20 a0 kk .int (18 : Int32) [(.int y0), (.int y1), (.int y2), (.int y3), (.int y4), (.int y5), (.int y6), (.int y7), (.int y8), (.int y9), (.int y10), (.int y11), (.int y12), (.int y13), (.int y14), (.int y15), (.int y16), (.int y17)] (.int (0 : Int32)) := Arv.set Ar_o19 q_o19 S_o19 N_o19 H_o19 G_o19 rfl W20 2 rfl (Nat.le_of_ble_eq_true rfl)
  have N20 := Fr.snoc X20 N15 g_a0
  refine ogo st20 ?_
  show OWay p e below G T20 (mkF m 25 #[.val (.ref a0), .val (.int (0 : Int32)), .val (.int (0 : Int32)), .val (.int (2 : Int32)), .val (.int y2)] [])
  refine ogo (fun _ z_ => XS.aloadN X20.here hx rfl (hb hby d2_25) rfl rfl z_) ?_
  show OWay p e below G T20 (mkF m 26 #[.val (.ref a0), .val (.int (0 : Int32)), .val (.int (0 : Int32)), .val (.int (2 : Int32)), .val (.int y2)] [(.ref a0)])
  refine ogo (fun _ z_ => XS.iloadN X20.here hx rfl (hb hby d2_26) rfl z_) ?_
  show OWay p e below G T20 (mkF m 27 #[.val (.ref a0), .val (.int (0 : Int32)), .val (.int (0 : Int32)), .val (.int (2 : Int32)), .val (.int y2)] [(.int (0 : Int32)), (.ref a0)])
  refine ogo (fun _ z_ => XS.iloadN X20.here hx rfl (hb hby d2_27) rfl z_) ?_
  show OWay p e below G T20 (mkF m 28 #[.val (.ref a0), .val (.int (0 : Int32)), .val (.int (0 : Int32)), .val (.int (2 : Int32)), .val (.int y2)] [(.int (2 : Int32)), (.int (0 : Int32)), (.ref a0)])
  refine ogo (fun _ z_ => XS.iadd X20.here hx rfl (hb hby d2_28) rfl z_) ?_
  show OWay p e below G T20 (mkF m 29 #[.val (.ref a0), .val (.int (0 : Int32)), .val (.int (0 : Int32)), .val (.int (2 : Int32)), .val (.int y2)] [(.int ((0 : Int32) + (2 : Int32))), (.ref a0)])
  refine ogoE (g' := (mkF m 29 #[.val (.ref a0), .val (.int (0 : Int32)), .val (.int (0 : Int32)), .val (.int (2 : Int32)), .val (.int y2)] [(.int (2 : Int32)), (.ref a0)])) (by rw [show ((0 : Int32) + (2 : Int32)) = (2 : Int32) from by decide]) ?_
  refine ogo (fun _ z_ => XS.iload X20.here hx rfl (hb hby d2_29) rfl z_) ?_
  show OWay p e below G T20 (mkF m 31 #[.val (.ref a0), .val (.int (0 : Int32)), .val (.int (0 : Int32)), .val (.int (2 : Int32)), .val (.int y2)] [(.int y2), (.int (2 : Int32)), (.ref a0)])
  obtain ⟨cl_o22, Ar_o22, q_o22, S_o22, N_o22, H_o22, G_o22⟩ := id V_20
  have hin_o22 : ¬ ((2 : Int32) < 0 ∨ cl_o22.slots.size ≤ ((2 : Int32)).toNatClampNeg) := inb_of S_o22 ⟨by decide, by decide⟩
  obtain ⟨T23, h23, X23, eT23, W23, st23⟩ := stI X20 hx hZ eT20 Ar_o22 (j := (2 : Int32)) hin_o22 (g := (mkF m 31 #[.val (.ref a0), .val (.int (0 : Int32)), .val (.int (0 : Int32)), .val (.int (2 : Int32)), .val (.int y2)] [(.int y2), (.int (2 : Int32)), (.ref a0)])) rfl rfl (hb hby d2_31)
  have K24 : Keep h0 h23 [a0] := K21.wr W23 (Or.inl (List.mem_of_getElem? (i := 0) rfl))
  have V_23 : Arv Z h23 a0 kk .int (18 : Int32) [(.int y0), (.int y1), (.int y2), (.int y3), (.int y4), (.int y5), (.int y6), (.int y7), (.int y8), (.int y9), (.int y10), (.int y11), (.int y12), (.int y13), (.int y14), (.int y15), (.int y16), (.int y17)] (.int (0 : Int32)) := Arv.set Ar_o22 q_o22 S_o22 N_o22 H_o22 G_o22 rfl W23 2 rfl (Nat.le_of_ble_eq_true rfl)
  have N23 := Fr.snoc X23 N20 g_a0
  refine ogo st23 ?_
  show OWay p e below G T23 (mkF m 32 #[.val (.ref a0), .val (.int (0 : Int32)), .val (.int (0 : Int32)), .val (.int (2 : Int32)), .val (.int y2)] [])
  refine ogo (fun _ z_ => XS.iinc X23.here hx rfl (hb hby d2_32) rfl (l' := #[.val (.ref a0), .val (.int (0 : Int32)), .val (.int (0 : Int32)), .val (.int ((2 : Int32) + (1 : Int32))), .val (.int y2)]) rfl z_) ?_
  show OWay p e below G T23 (mkF m 35 #[.val (.ref a0), .val (.int (0 : Int32)), .val (.int (0 : Int32)), .val (.int ((2 : Int32) + (1 : Int32))), .val (.int y2)] [])
  refine ogoE (g' := (mkF m 35 #[.val (.ref a0), .val (.int (0 : Int32)), .val (.int (0 : Int32)), .val (.int (3 : Int32)), .val (.int y2)] [])) (by rw [show ((2 : Int32) + (1 : Int32)) = (3 : Int32) from by decide]) ?_
  refine ogo (fun _ z_ => XS.goto X23.here hx rfl (pc0 := 35) (pc' := 2) rfl (hb hby d2_35) (by decide) (by decide) z_) ?_
  show OWay p e below G T23 (mkF m 2 #[.val (.ref a0), .val (.int (0 : Int32)), .val (.int (0 : Int32)), .val (.int (3 : Int32)), .val (.int y2)] [])
  refine ogo (fun _ z_ => XS.iloadN X23.here hx rfl (hb hby d2_2) rfl z_) ?_
  show OWay p e below G T23 (mkF m 3 #[.val (.ref a0), .val (.int (0 : Int32)), .val (.int (0 : Int32)), .val (.int (3 : Int32)), .val (.int y2)] [(.int (3 : Int32))])
  refine ogo (fun _ z_ => XS.bipush X23.here hx rfl (hb hby d2_3) z_) ?_
  show OWay p e below G T23 (mkF m 5 #[.val (.ref a0), .val (.int (0 : Int32)), .val (.int (0 : Int32)), .val (.int (3 : Int32)), .val (.int y2)] [(.int (6 : Int32)), (.int (3 : Int32))])
  refine ogo (fun _ z_ => XS.icmpNo X23.here hx rfl (hb hby d2_5) rfl (tlt (by decide)).2.1 z_) ?_
  show OWay p e below G T23 (mkF m 8 #[.val (.ref a0), .val (.int (0 : Int32)), .val (.int (0 : Int32)), .val (.int (3 : Int32)), .val (.int y2)] [])
  refine ogo (fun _ z_ => XS.aloadN X23.here hx rfl (hb hby d2_8) rfl rfl z_) ?_
  show OWay p e below G T23 (mkF m 9 #[.val (.ref a0), .val (.int (0 : Int32)), .val (.int (0 : Int32)), .val (.int (3 : Int32)), .val (.int y2)] [(.ref a0)])
  refine ogo (fun _ z_ => XS.iloadN X23.here hx rfl (hb hby d2_9) rfl z_) ?_
  show OWay p e below G T23 (mkF m 10 #[.val (.ref a0), .val (.int (0 : Int32)), .val (.int (0 : Int32)), .val (.int (3 : Int32)), .val (.int y2)] [(.int (0 : Int32)), (.ref a0)])
  refine ogo (fun _ z_ => XS.iloadN X23.here hx rfl (hb hby d2_10) rfl z_) ?_
  show OWay p e below G T23 (mkF m 11 #[.val (.ref a0), .val (.int (0 : Int32)), .val (.int (0 : Int32)), .val (.int (3 : Int32)), .val (.int y2)] [(.int (3 : Int32)), (.int (0 : Int32)), (.ref a0)])
  refine ogo (fun _ z_ => XS.iadd X23.here hx rfl (hb hby d2_11) rfl z_) ?_
  show OWay p e below G T23 (mkF m 12 #[.val (.ref a0), .val (.int (0 : Int32)), .val (.int (0 : Int32)), .val (.int (3 : Int32)), .val (.int y2)] [(.int ((0 : Int32) + (3 : Int32))), (.ref a0)])
  refine ogoE (g' := (mkF m 12 #[.val (.ref a0), .val (.int (0 : Int32)), .val (.int (0 : Int32)), .val (.int (3 : Int32)), .val (.int y2)] [(.int (3 : Int32)), (.ref a0)])) (by rw [show ((0 : Int32) + (3 : Int32)) = (3 : Int32) from by decide]) ?_
  obtain ⟨cl_o25, Ar_o25, q_o25, S_o25, N_o25, H_o25, G_o25⟩ := id V_23
  have hin_o25 : ¬ ((3 : Int32) < 0 ∨ cl_o25.slots.size ≤ ((3 : Int32)).toNatClampNeg) := inb_of S_o25 ⟨by decide, by decide⟩
  have hat_o25 : cl_o25.slots[((3 : Int32)).toNatClampNeg]? = some (.int y3) := H_o25.at hin_o25 rfl
  refine ogo (fun _ z_ => X23.iaload hx (j := (3 : Int32)) (v := (.int y3)) (by rw [eT23]; exact Ar_o25.1) (State.isArrayOf_alike hZ.alike Ar_o25.2.1) Ar_o25.2.2 hin_o25 hat_o25 (g := (mkF m 12 #[.val (.ref a0), .val (.int (0 : Int32)), .val (.int (0 : Int32)), .val (.int (3 : Int32)), .val (.int y2)] [(.int (3 : Int32)), (.ref a0)])) rfl rfl (hb hby d2_12) _ z_) ?_
  show OWay p e below G T23 (mkF m 13 #[.val (.ref a0), .val (.int (0 : Int32)), .val (.int (0 : Int32)), .val (.int (3 : Int32)), .val (.int y2)] [(.int y3)])
  refine ogo (fun _ z_ => XS.istore X23.here hx rfl (hb hby d2_13) rfl (l' := #[.val (.ref a0), .val (.int (0 : Int32)), .val (.int (0 : Int32)), .val (.int (3 : Int32)), .val (.int y3)]) rfl z_) ?_
  show OWay p e below G T23 (mkF m 15 #[.val (.ref a0), .val (.int (0 : Int32)), .val (.int (0 : Int32)), .val (.int (3 : Int32)), .val (.int y3)] [])
  refine ogo (fun _ z_ => XS.aloadN X23.here hx rfl (hb hby d2_15) rfl rfl z_) ?_
  show OWay p e below G T23 (mkF m 16 #[.val (.ref a0), .val (.int (0 : Int32)), .val (.int (0 : Int32)), .val (.int (3 : Int32)), .val (.int y3)] [(.ref a0)])
  refine ogo (fun _ z_ => XS.iloadN X23.here hx rfl (hb hby d2_16) rfl z_) ?_
  show OWay p e below G T23 (mkF m 17 #[.val (.ref a0), .val (.int (0 : Int32)), .val (.int (0 : Int32)), .val (.int (3 : Int32)), .val (.int y3)] [(.int (0 : Int32)), (.ref a0)])
  refine ogo (fun _ z_ => XS.iloadN X23.here hx rfl (hb hby d2_17) rfl z_) ?_
  show OWay p e below G T23 (mkF m 18 #[.val (.ref a0), .val (.int (0 : Int32)), .val (.int (0 : Int32)), .val (.int (3 : Int32)), .val (.int y3)] [(.int (3 : Int32)), (.int (0 : Int32)), (.ref a0)])
  refine ogo (fun _ z_ => XS.iadd X23.here hx rfl (hb hby d2_18) rfl z_) ?_
  show OWay p e below G T23 (mkF m 19 #[.val (.ref a0), .val (.int (0 : Int32)), .val (.int (0 : Int32)), .val (.int (3 : Int32)), .val (.int y3)] [(.int ((0 : Int32) + (3 : Int32))), (.ref a0)])
  refine ogoE (g' := (mkF m 19 #[.val (.ref a0), .val (.int (0 : Int32)), .val (.int (0 : Int32)), .val (.int (3 : Int32)), .val (.int y3)] [(.int (3 : Int32)), (.ref a0)])) (by rw [show ((0 : Int32) + (3 : Int32)) = (3 : Int32) from by decide]) ?_
  refine ogo (fun _ z_ => XS.aloadN X23.here hx rfl (hb hby d2_19) rfl rfl z_) ?_
  show OWay p e below G T23 (mkF m 20 #[.val (.ref a0), .val (.int (0 : Int32)), .val (.int (0 : Int32)), .val (.int (3 : Int32)), .val (.int y3)] [(.ref a0), (.int (3 : Int32)), (.ref a0)])
  refine ogo (fun _ z_ => XS.iloadN X23.here hx rfl (hb hby d2_20) rfl z_) ?_
  show OWay p e below G T23 (mkF m 21 #[.val (.ref a0), .val (.int (0 : Int32)), .val (.int (0 : Int32)), .val (.int (3 : Int32)), .val (.int y3)] [(.int (0 : Int32)), (.ref a0), (.int (3 : Int32)), (.ref a0)])
  refine ogo (fun _ z_ => XS.iloadN X23.here hx rfl (hb hby d2_21) rfl z_) ?_
  show OWay p e below G T23 (mkF m 22 #[.val (.ref a0), .val (.int (0 : Int32)), .val (.int (0 : Int32)), .val (.int (3 : Int32)), .val (.int y3)] [(.int (3 : Int32)), (.int (0 : Int32)), (.ref a0), (.int (3 : Int32)), (.ref a0)])
  refine ogo (fun _ z_ => XS.iadd X23.here hx rfl (hb hby d2_22) rfl z_) ?_
  show OWay p e below G T23 (mkF m 23 #[.val (.ref a0), .val (.int (0 : Int32)), .val (.int (0 : Int32)), .val (.int (3 : Int32)), .val (.int y3)] [(.int ((0 : Int32) + (3 : Int32))), (.ref a0), (.int (3 : Int32)), (.ref a0)])
  refine ogoE (g' := (mkF m 23 #[.val (.ref a0), .val (.int (0 : Int32)), .val (.int (0 : Int32)), .val (.int (3 : Int32)), .val (.int y3)] [(.int (3 : Int32)), (.ref a0), (.int (3 : Int32)), (.ref a0)])) (by rw [show ((0 : Int32) + (3 : Int32)) = (3 : Int32) from by decide]) ?_
  obtain ⟨cl_o26, Ar_o26, q_o26, S_o26, N_o26, H_o26, G_o26⟩ := id V_23
  have hin_o26 : ¬ ((3 : Int32) < 0 ∨ cl_o26.slots.size ≤ ((3 : Int32)).toNatClampNeg) := inb_of S_o26 ⟨by decide, by decide⟩
  have hat_o26 : cl_o26.slots[((3 : Int32)).toNatClampNeg]? = some (.int y3) := H_o26.at hin_o26 rfl
  refine ogo (fun _ z_ => X23.iaload hx (j := (3 : Int32)) (v := (.int y3)) (by rw [eT23]; exact Ar_o26.1) (State.isArrayOf_alike hZ.alike Ar_o26.2.1) Ar_o26.2.2 hin_o26 hat_o26 (g := (mkF m 23 #[.val (.ref a0), .val (.int (0 : Int32)), .val (.int (0 : Int32)), .val (.int (3 : Int32)), .val (.int y3)] [(.int (3 : Int32)), (.ref a0), (.int (3 : Int32)), (.ref a0)])) rfl rfl (hb hby d2_23) _ z_) ?_
  show OWay p e below G T23 (mkF m 24 #[.val (.ref a0), .val (.int (0 : Int32)), .val (.int (0 : Int32)), .val (.int (3 : Int32)), .val (.int y3)] [(.int y3), (.int (3 : Int32)), (.ref a0)])
  obtain ⟨cl_o27, Ar_o27, q_o27, S_o27, N_o27, H_o27, G_o27⟩ := id V_23
  have hin_o27 : ¬ ((3 : Int32) < 0 ∨ cl_o27.slots.size ≤ ((3 : Int32)).toNatClampNeg) := inb_of S_o27 ⟨by decide, by decide⟩
  obtain ⟨T28, h28, X28, eT28, W28, st28⟩ := stI X23 hx hZ eT23 Ar_o27 (j := (3 : Int32)) hin_o27 (g := (mkF m 24 #[.val (.ref a0), .val (.int (0 : Int32)), .val (.int (0 : Int32)), .val (.int (3 : Int32)), .val (.int y3)] [(.int y3), (.int (3 : Int32)), (.ref a0)])) rfl rfl (hb hby d2_24)
  have K29 : Keep h0 h28 [a0] := K24.wr W28 (Or.inl (List.mem_of_getElem? (i := 0) rfl))
  have V_28 : Arv Z h28 a0 kk .int (18 : Int32) [(.int y0), (.int y1), (.int y2), (.int y3), (.int y4), (.int y5), (.int y6), (.int y7), (.int y8), (.int y9), (.int y10), (.int y11), (.int y12), (.int y13), (.int y14), (.int y15), (.int y16), (.int y17)] (.int (0 : Int32)) := Arv.set Ar_o27 q_o27 S_o27 N_o27 H_o27 G_o27 rfl W28 3 rfl (Nat.le_of_ble_eq_true rfl)
  have N28 := Fr.snoc X28 N23 g_a0
  refine ogo st28 ?_
  show OWay p e below G T28 (mkF m 25 #[.val (.ref a0), .val (.int (0 : Int32)), .val (.int (0 : Int32)), .val (.int (3 : Int32)), .val (.int y3)] [])
  refine ogo (fun _ z_ => XS.aloadN X28.here hx rfl (hb hby d2_25) rfl rfl z_) ?_
  show OWay p e below G T28 (mkF m 26 #[.val (.ref a0), .val (.int (0 : Int32)), .val (.int (0 : Int32)), .val (.int (3 : Int32)), .val (.int y3)] [(.ref a0)])
  refine ogo (fun _ z_ => XS.iloadN X28.here hx rfl (hb hby d2_26) rfl z_) ?_
  show OWay p e below G T28 (mkF m 27 #[.val (.ref a0), .val (.int (0 : Int32)), .val (.int (0 : Int32)), .val (.int (3 : Int32)), .val (.int y3)] [(.int (0 : Int32)), (.ref a0)])
  refine ogo (fun _ z_ => XS.iloadN X28.here hx rfl (hb hby d2_27) rfl z_) ?_
  show OWay p e below G T28 (mkF m 28 #[.val (.ref a0), .val (.int (0 : Int32)), .val (.int (0 : Int32)), .val (.int (3 : Int32)), .val (.int y3)] [(.int (3 : Int32)), (.int (0 : Int32)), (.ref a0)])
  refine ogo (fun _ z_ => XS.iadd X28.here hx rfl (hb hby d2_28) rfl z_) ?_
  show OWay p e below G T28 (mkF m 29 #[.val (.ref a0), .val (.int (0 : Int32)), .val (.int (0 : Int32)), .val (.int (3 : Int32)), .val (.int y3)] [(.int ((0 : Int32) + (3 : Int32))), (.ref a0)])
  refine ogoE (g' := (mkF m 29 #[.val (.ref a0), .val (.int (0 : Int32)), .val (.int (0 : Int32)), .val (.int (3 : Int32)), .val (.int y3)] [(.int (3 : Int32)), (.ref a0)])) (by rw [show ((0 : Int32) + (3 : Int32)) = (3 : Int32) from by decide]) ?_
  refine ogo (fun _ z_ => XS.iload X28.here hx rfl (hb hby d2_29) rfl z_) ?_
  show OWay p e below G T28 (mkF m 31 #[.val (.ref a0), .val (.int (0 : Int32)), .val (.int (0 : Int32)), .val (.int (3 : Int32)), .val (.int y3)] [(.int y3), (.int (3 : Int32)), (.ref a0)])
  obtain ⟨cl_o30, Ar_o30, q_o30, S_o30, N_o30, H_o30, G_o30⟩ := id V_28
  have hin_o30 : ¬ ((3 : Int32) < 0 ∨ cl_o30.slots.size ≤ ((3 : Int32)).toNatClampNeg) := inb_of S_o30 ⟨by decide, by decide⟩
  obtain ⟨T31, h31, X31, eT31, W31, st31⟩ := stI X28 hx hZ eT28 Ar_o30 (j := (3 : Int32)) hin_o30 (g := (mkF m 31 #[.val (.ref a0), .val (.int (0 : Int32)), .val (.int (0 : Int32)), .val (.int (3 : Int32)), .val (.int y3)] [(.int y3), (.int (3 : Int32)), (.ref a0)])) rfl rfl (hb hby d2_31)
  have K32 : Keep h0 h31 [a0] := K29.wr W31 (Or.inl (List.mem_of_getElem? (i := 0) rfl))
  have V_31 : Arv Z h31 a0 kk .int (18 : Int32) [(.int y0), (.int y1), (.int y2), (.int y3), (.int y4), (.int y5), (.int y6), (.int y7), (.int y8), (.int y9), (.int y10), (.int y11), (.int y12), (.int y13), (.int y14), (.int y15), (.int y16), (.int y17)] (.int (0 : Int32)) := Arv.set Ar_o30 q_o30 S_o30 N_o30 H_o30 G_o30 rfl W31 3 rfl (Nat.le_of_ble_eq_true rfl)
  have N31 := Fr.snoc X31 N28 g_a0
  refine ogo st31 ?_
  show OWay p e below G T31 (mkF m 32 #[.val (.ref a0), .val (.int (0 : Int32)), .val (.int (0 : Int32)), .val (.int (3 : Int32)), .val (.int y3)] [])
  refine ogo (fun _ z_ => XS.iinc X31.here hx rfl (hb hby d2_32) rfl (l' := #[.val (.ref a0), .val (.int (0 : Int32)), .val (.int (0 : Int32)), .val (.int ((3 : Int32) + (1 : Int32))), .val (.int y3)]) rfl z_) ?_
  show OWay p e below G T31 (mkF m 35 #[.val (.ref a0), .val (.int (0 : Int32)), .val (.int (0 : Int32)), .val (.int ((3 : Int32) + (1 : Int32))), .val (.int y3)] [])
  refine ogoE (g' := (mkF m 35 #[.val (.ref a0), .val (.int (0 : Int32)), .val (.int (0 : Int32)), .val (.int (4 : Int32)), .val (.int y3)] [])) (by rw [show ((3 : Int32) + (1 : Int32)) = (4 : Int32) from by decide]) ?_
  refine ogo (fun _ z_ => XS.goto X31.here hx rfl (pc0 := 35) (pc' := 2) rfl (hb hby d2_35) (by decide) (by decide) z_) ?_
  show OWay p e below G T31 (mkF m 2 #[.val (.ref a0), .val (.int (0 : Int32)), .val (.int (0 : Int32)), .val (.int (4 : Int32)), .val (.int y3)] [])
  refine ogo (fun _ z_ => XS.iloadN X31.here hx rfl (hb hby d2_2) rfl z_) ?_
  show OWay p e below G T31 (mkF m 3 #[.val (.ref a0), .val (.int (0 : Int32)), .val (.int (0 : Int32)), .val (.int (4 : Int32)), .val (.int y3)] [(.int (4 : Int32))])
  refine ogo (fun _ z_ => XS.bipush X31.here hx rfl (hb hby d2_3) z_) ?_
  show OWay p e below G T31 (mkF m 5 #[.val (.ref a0), .val (.int (0 : Int32)), .val (.int (0 : Int32)), .val (.int (4 : Int32)), .val (.int y3)] [(.int (6 : Int32)), (.int (4 : Int32))])
  refine ogo (fun _ z_ => XS.icmpNo X31.here hx rfl (hb hby d2_5) rfl (tlt (by decide)).2.1 z_) ?_
  show OWay p e below G T31 (mkF m 8 #[.val (.ref a0), .val (.int (0 : Int32)), .val (.int (0 : Int32)), .val (.int (4 : Int32)), .val (.int y3)] [])
  refine ogo (fun _ z_ => XS.aloadN X31.here hx rfl (hb hby d2_8) rfl rfl z_) ?_
  show OWay p e below G T31 (mkF m 9 #[.val (.ref a0), .val (.int (0 : Int32)), .val (.int (0 : Int32)), .val (.int (4 : Int32)), .val (.int y3)] [(.ref a0)])
  refine ogo (fun _ z_ => XS.iloadN X31.here hx rfl (hb hby d2_9) rfl z_) ?_
  show OWay p e below G T31 (mkF m 10 #[.val (.ref a0), .val (.int (0 : Int32)), .val (.int (0 : Int32)), .val (.int (4 : Int32)), .val (.int y3)] [(.int (0 : Int32)), (.ref a0)])
  refine ogo (fun _ z_ => XS.iloadN X31.here hx rfl (hb hby d2_10) rfl z_) ?_
  show OWay p e below G T31 (mkF m 11 #[.val (.ref a0), .val (.int (0 : Int32)), .val (.int (0 : Int32)), .val (.int (4 : Int32)), .val (.int y3)] [(.int (4 : Int32)), (.int (0 : Int32)), (.ref a0)])
  refine ogo (fun _ z_ => XS.iadd X31.here hx rfl (hb hby d2_11) rfl z_) ?_
  show OWay p e below G T31 (mkF m 12 #[.val (.ref a0), .val (.int (0 : Int32)), .val (.int (0 : Int32)), .val (.int (4 : Int32)), .val (.int y3)] [(.int ((0 : Int32) + (4 : Int32))), (.ref a0)])
  refine ogoE (g' := (mkF m 12 #[.val (.ref a0), .val (.int (0 : Int32)), .val (.int (0 : Int32)), .val (.int (4 : Int32)), .val (.int y3)] [(.int (4 : Int32)), (.ref a0)])) (by rw [show ((0 : Int32) + (4 : Int32)) = (4 : Int32) from by decide]) ?_
  obtain ⟨cl_o33, Ar_o33, q_o33, S_o33, N_o33, H_o33, G_o33⟩ := id V_31
  have hin_o33 : ¬ ((4 : Int32) < 0 ∨ cl_o33.slots.size ≤ ((4 : Int32)).toNatClampNeg) := inb_of S_o33 ⟨by decide, by decide⟩
  have hat_o33 : cl_o33.slots[((4 : Int32)).toNatClampNeg]? = some (.int y4) := H_o33.at hin_o33 rfl
  refine ogo (fun _ z_ => X31.iaload hx (j := (4 : Int32)) (v := (.int y4)) (by rw [eT31]; exact Ar_o33.1) (State.isArrayOf_alike hZ.alike Ar_o33.2.1) Ar_o33.2.2 hin_o33 hat_o33 (g := (mkF m 12 #[.val (.ref a0), .val (.int (0 : Int32)), .val (.int (0 : Int32)), .val (.int (4 : Int32)), .val (.int y3)] [(.int (4 : Int32)), (.ref a0)])) rfl rfl (hb hby d2_12) _ z_) ?_
  show OWay p e below G T31 (mkF m 13 #[.val (.ref a0), .val (.int (0 : Int32)), .val (.int (0 : Int32)), .val (.int (4 : Int32)), .val (.int y3)] [(.int y4)])
  refine ogo (fun _ z_ => XS.istore X31.here hx rfl (hb hby d2_13) rfl (l' := #[.val (.ref a0), .val (.int (0 : Int32)), .val (.int (0 : Int32)), .val (.int (4 : Int32)), .val (.int y4)]) rfl z_) ?_
  show OWay p e below G T31 (mkF m 15 #[.val (.ref a0), .val (.int (0 : Int32)), .val (.int (0 : Int32)), .val (.int (4 : Int32)), .val (.int y4)] [])
  refine ogo (fun _ z_ => XS.aloadN X31.here hx rfl (hb hby d2_15) rfl rfl z_) ?_
  show OWay p e below G T31 (mkF m 16 #[.val (.ref a0), .val (.int (0 : Int32)), .val (.int (0 : Int32)), .val (.int (4 : Int32)), .val (.int y4)] [(.ref a0)])
  refine ogo (fun _ z_ => XS.iloadN X31.here hx rfl (hb hby d2_16) rfl z_) ?_
  show OWay p e below G T31 (mkF m 17 #[.val (.ref a0), .val (.int (0 : Int32)), .val (.int (0 : Int32)), .val (.int (4 : Int32)), .val (.int y4)] [(.int (0 : Int32)), (.ref a0)])
  refine ogo (fun _ z_ => XS.iloadN X31.here hx rfl (hb hby d2_17) rfl z_) ?_
  show OWay p e below G T31 (mkF m 18 #[.val (.ref a0), .val (.int (0 : Int32)), .val (.int (0 : Int32)), .val (.int (4 : Int32)), .val (.int y4)] [(.int (4 : Int32)), (.int (0 : Int32)), (.ref a0)])
  refine ogo (fun _ z_ => XS.iadd X31.here hx rfl (hb hby d2_18) rfl z_) ?_
  show OWay p e below G T31 (mkF m 19 #[.val (.ref a0), .val (.int (0 : Int32)), .val (.int (0 : Int32)), .val (.int (4 : Int32)), .val (.int y4)] [(.int ((0 : Int32) + (4 : Int32))), (.ref a0)])
  refine ogoE (g' := (mkF m 19 #[.val (.ref a0), .val (.int (0 : Int32)), .val (.int (0 : Int32)), .val (.int (4 : Int32)), .val (.int y4)] [(.int (4 : Int32)), (.ref a0)])) (by rw [show ((0 : Int32) + (4 : Int32)) = (4 : Int32) from by decide]) ?_
  refine ogo (fun _ z_ => XS.aloadN X31.here hx rfl (hb hby d2_19) rfl rfl z_) ?_
  show OWay p e below G T31 (mkF m 20 #[.val (.ref a0), .val (.int (0 : Int32)), .val (.int (0 : Int32)), .val (.int (4 : Int32)), .val (.int y4)] [(.ref a0), (.int (4 : Int32)), (.ref a0)])
  refine ogo (fun _ z_ => XS.iloadN X31.here hx rfl (hb hby d2_20) rfl z_) ?_
  show OWay p e below G T31 (mkF m 21 #[.val (.ref a0), .val (.int (0 : Int32)), .val (.int (0 : Int32)), .val (.int (4 : Int32)), .val (.int y4)] [(.int (0 : Int32)), (.ref a0), (.int (4 : Int32)), (.ref a0)])
  refine ogo (fun _ z_ => XS.iloadN X31.here hx rfl (hb hby d2_21) rfl z_) ?_
  show OWay p e below G T31 (mkF m 22 #[.val (.ref a0), .val (.int (0 : Int32)), .val (.int (0 : Int32)), .val (.int (4 : Int32)), .val (.int y4)] [(.int (4 : Int32)), (.int (0 : Int32)), (.ref a0), (.int (4 : Int32)), (.ref a0)])
  refine ogo (fun _ z_ => XS.iadd X31.here hx rfl (hb hby d2_22) rfl z_) ?_
  show OWay p e below G T31 (mkF m 23 #[.val (.ref a0), .val (.int (0 : Int32)), .val (.int (0 : Int32)), .val (.int (4 : Int32)), .val (.int y4)] [(.int ((0 : Int32) + (4 : Int32))), (.ref a0), (.int (4 : Int32)), (.ref a0)])
  refine ogoE (g' := (mkF m 23 #[.val (.ref a0), .val (.int (0 : Int32)), .val (.int (0 : Int32)), .val (.int (4 : Int32)), .val (.int y4)] [(.int (4 : Int32)), (.ref a0), (.int (4 : Int32)), (.ref a0)])) (by rw [show ((0 : Int32) + (4 : Int32)) = (4 : Int32) from by decide]) ?_
  obtain ⟨cl_o34, Ar_o34, q_o34, S_o34, N_o34, H_o34, G_o34⟩ := id V_31
  have hin_o34 : ¬ ((4 : Int32) < 0 ∨ cl_o34.slots.size ≤ ((4 : Int32)).toNatClampNeg) := inb_of S_o34 ⟨by decide, by decide⟩
  have hat_o34 : cl_o34.slots[((4 : Int32)).toNatClampNeg]? = some (.int y4) := H_o34.at hin_o34 rfl
  refine ogo (fun _ z_ => X31.iaload hx (j := (4 : Int32)) (v := (.int y4)) (by rw [eT31]; exact Ar_o34.1) (State.isArrayOf_alike hZ.alike Ar_o34.2.1) Ar_o34.2.2 hin_o34 hat_o34 (g := (mkF m 23 #[.val (.ref a0), .val (.int (0 : Int32)), .val (.int (0 : Int32)), .val (.int (4 : Int32)), .val (.int y4)] [(.int (4 : Int32)), (.ref a0), (.int (4 : Int32)), (.ref a0)])) rfl rfl (hb hby d2_23) _ z_) ?_
  show OWay p e below G T31 (mkF m 24 #[.val (.ref a0), .val (.int (0 : Int32)), .val (.int (0 : Int32)), .val (.int (4 : Int32)), .val (.int y4)] [(.int y4), (.int (4 : Int32)), (.ref a0)])
  obtain ⟨cl_o35, Ar_o35, q_o35, S_o35, N_o35, H_o35, G_o35⟩ := id V_31
  have hin_o35 : ¬ ((4 : Int32) < 0 ∨ cl_o35.slots.size ≤ ((4 : Int32)).toNatClampNeg) := inb_of S_o35 ⟨by decide, by decide⟩
  obtain ⟨T36, h36, X36, eT36, W36, st36⟩ := stI X31 hx hZ eT31 Ar_o35 (j := (4 : Int32)) hin_o35 (g := (mkF m 24 #[.val (.ref a0), .val (.int (0 : Int32)), .val (.int (0 : Int32)), .val (.int (4 : Int32)), .val (.int y4)] [(.int y4), (.int (4 : Int32)), (.ref a0)])) rfl rfl (hb hby d2_24)
  have K37 : Keep h0 h36 [a0] := K32.wr W36 (Or.inl (List.mem_of_getElem? (i := 0) rfl))
  have V_36 : Arv Z h36 a0 kk .int (18 : Int32) [(.int y0), (.int y1), (.int y2), (.int y3), (.int y4), (.int y5), (.int y6), (.int y7), (.int y8), (.int y9), (.int y10), (.int y11), (.int y12), (.int y13), (.int y14), (.int y15), (.int y16), (.int y17)] (.int (0 : Int32)) := Arv.set Ar_o35 q_o35 S_o35 N_o35 H_o35 G_o35 rfl W36 4 rfl (Nat.le_of_ble_eq_true rfl)
  have N36 := Fr.snoc X36 N31 g_a0
  refine ogo st36 ?_
  show OWay p e below G T36 (mkF m 25 #[.val (.ref a0), .val (.int (0 : Int32)), .val (.int (0 : Int32)), .val (.int (4 : Int32)), .val (.int y4)] [])
  refine ogo (fun _ z_ => XS.aloadN X36.here hx rfl (hb hby d2_25) rfl rfl z_) ?_
  show OWay p e below G T36 (mkF m 26 #[.val (.ref a0), .val (.int (0 : Int32)), .val (.int (0 : Int32)), .val (.int (4 : Int32)), .val (.int y4)] [(.ref a0)])
  refine ogo (fun _ z_ => XS.iloadN X36.here hx rfl (hb hby d2_26) rfl z_) ?_
  show OWay p e below G T36 (mkF m 27 #[.val (.ref a0), .val (.int (0 : Int32)), .val (.int (0 : Int32)), .val (.int (4 : Int32)), .val (.int y4)] [(.int (0 : Int32)), (.ref a0)])
  refine ogo (fun _ z_ => XS.iloadN X36.here hx rfl (hb hby d2_27) rfl z_) ?_
  show OWay p e below G T36 (mkF m 28 #[.val (.ref a0), .val (.int (0 : Int32)), .val (.int (0 : Int32)), .val (.int (4 : Int32)), .val (.int y4)] [(.int (4 : Int32)), (.int (0 : Int32)), (.ref a0)])
  refine ogo (fun _ z_ => XS.iadd X36.here hx rfl (hb hby d2_28) rfl z_) ?_
  show OWay p e below G T36 (mkF m 29 #[.val (.ref a0), .val (.int (0 : Int32)), .val (.int (0 : Int32)), .val (.int (4 : Int32)), .val (.int y4)] [(.int ((0 : Int32) + (4 : Int32))), (.ref a0)])
  refine ogoE (g' := (mkF m 29 #[.val (.ref a0), .val (.int (0 : Int32)), .val (.int (0 : Int32)), .val (.int (4 : Int32)), .val (.int y4)] [(.int (4 : Int32)), (.ref a0)])) (by rw [show ((0 : Int32) + (4 : Int32)) = (4 : Int32) from by decide]) ?_
  refine ogo (fun _ z_ => XS.iload X36.here hx rfl (hb hby d2_29) rfl z_) ?_
  show OWay p e below G T36 (mkF m 31 #[.val (.ref a0), .val (.int (0 : Int32)), .val (.int (0 : Int32)), .val (.int (4 : Int32)), .val (.int y4)] [(.int y4), (.int (4 : Int32)), (.ref a0)])
  obtain ⟨cl_o38, Ar_o38, q_o38, S_o38, N_o38, H_o38, G_o38⟩ := id V_36
  have hin_o38 : ¬ ((4 : Int32) < 0 ∨ cl_o38.slots.size ≤ ((4 : Int32)).toNatClampNeg) := inb_of S_o38 ⟨by decide, by decide⟩
  obtain ⟨T39, h39, X39, eT39, W39, st39⟩ := stI X36 hx hZ eT36 Ar_o38 (j := (4 : Int32)) hin_o38 (g := (mkF m 31 #[.val (.ref a0), .val (.int (0 : Int32)), .val (.int (0 : Int32)), .val (.int (4 : Int32)), .val (.int y4)] [(.int y4), (.int (4 : Int32)), (.ref a0)])) rfl rfl (hb hby d2_31)
  have K40 : Keep h0 h39 [a0] := K37.wr W39 (Or.inl (List.mem_of_getElem? (i := 0) rfl))
  have V_39 : Arv Z h39 a0 kk .int (18 : Int32) [(.int y0), (.int y1), (.int y2), (.int y3), (.int y4), (.int y5), (.int y6), (.int y7), (.int y8), (.int y9), (.int y10), (.int y11), (.int y12), (.int y13), (.int y14), (.int y15), (.int y16), (.int y17)] (.int (0 : Int32)) := Arv.set Ar_o38 q_o38 S_o38 N_o38 H_o38 G_o38 rfl W39 4 rfl (Nat.le_of_ble_eq_true rfl)
  have N39 := Fr.snoc X39 N36 g_a0
  refine ogo st39 ?_
  show OWay p e below G T39 (mkF m 32 #[.val (.ref a0), .val (.int (0 : Int32)), .val (.int (0 : Int32)), .val (.int (4 : Int32)), .val (.int y4)] [])
  refine ogo (fun _ z_ => XS.iinc X39.here hx rfl (hb hby d2_32) rfl (l' := #[.val (.ref a0), .val (.int (0 : Int32)), .val (.int (0 : Int32)), .val (.int ((4 : Int32) + (1 : Int32))), .val (.int y4)]) rfl z_) ?_
  show OWay p e below G T39 (mkF m 35 #[.val (.ref a0), .val (.int (0 : Int32)), .val (.int (0 : Int32)), .val (.int ((4 : Int32) + (1 : Int32))), .val (.int y4)] [])
  refine ogoE (g' := (mkF m 35 #[.val (.ref a0), .val (.int (0 : Int32)), .val (.int (0 : Int32)), .val (.int (5 : Int32)), .val (.int y4)] [])) (by rw [show ((4 : Int32) + (1 : Int32)) = (5 : Int32) from by decide]) ?_
  refine ogo (fun _ z_ => XS.goto X39.here hx rfl (pc0 := 35) (pc' := 2) rfl (hb hby d2_35) (by decide) (by decide) z_) ?_
  show OWay p e below G T39 (mkF m 2 #[.val (.ref a0), .val (.int (0 : Int32)), .val (.int (0 : Int32)), .val (.int (5 : Int32)), .val (.int y4)] [])
  refine ogo (fun _ z_ => XS.iloadN X39.here hx rfl (hb hby d2_2) rfl z_) ?_
  show OWay p e below G T39 (mkF m 3 #[.val (.ref a0), .val (.int (0 : Int32)), .val (.int (0 : Int32)), .val (.int (5 : Int32)), .val (.int y4)] [(.int (5 : Int32))])
  refine ogo (fun _ z_ => XS.bipush X39.here hx rfl (hb hby d2_3) z_) ?_
  show OWay p e below G T39 (mkF m 5 #[.val (.ref a0), .val (.int (0 : Int32)), .val (.int (0 : Int32)), .val (.int (5 : Int32)), .val (.int y4)] [(.int (6 : Int32)), (.int (5 : Int32))])
  refine ogo (fun _ z_ => XS.icmpNo X39.here hx rfl (hb hby d2_5) rfl (tlt (by decide)).2.1 z_) ?_
  show OWay p e below G T39 (mkF m 8 #[.val (.ref a0), .val (.int (0 : Int32)), .val (.int (0 : Int32)), .val (.int (5 : Int32)), .val (.int y4)] [])
  refine ogo (fun _ z_ => XS.aloadN X39.here hx rfl (hb hby d2_8) rfl rfl z_) ?_
  show OWay p e below G T39 (mkF m 9 #[.val (.ref a0), .val (.int (0 : Int32)), .val (.int (0 : Int32)), .val (.int (5 : Int32)), .val (.int y4)] [(.ref a0)])
  refine ogo (fun _ z_ => XS.iloadN X39.here hx rfl (hb hby d2_9) rfl z_) ?_
  show OWay p e below G T39 (mkF m 10 #[.val (.ref a0), .val (.int (0 : Int32)), .val (.int (0 : Int32)), .val (.int (5 : Int32)), .val (.int y4)] [(.int (0 : Int32)), (.ref a0)])
  refine ogo (fun _ z_ => XS.iloadN X39.here hx rfl (hb hby d2_10) rfl z_) ?_
  show OWay p e below G T39 (mkF m 11 #[.val (.ref a0), .val (.int (0 : Int32)), .val (.int (0 : Int32)), .val (.int (5 : Int32)), .val (.int y4)] [(.int (5 : Int32)), (.int (0 : Int32)), (.ref a0)])
  refine ogo (fun _ z_ => XS.iadd X39.here hx rfl (hb hby d2_11) rfl z_) ?_
  show OWay p e below G T39 (mkF m 12 #[.val (.ref a0), .val (.int (0 : Int32)), .val (.int (0 : Int32)), .val (.int (5 : Int32)), .val (.int y4)] [(.int ((0 : Int32) + (5 : Int32))), (.ref a0)])
  refine ogoE (g' := (mkF m 12 #[.val (.ref a0), .val (.int (0 : Int32)), .val (.int (0 : Int32)), .val (.int (5 : Int32)), .val (.int y4)] [(.int (5 : Int32)), (.ref a0)])) (by rw [show ((0 : Int32) + (5 : Int32)) = (5 : Int32) from by decide]) ?_
  obtain ⟨cl_o41, Ar_o41, q_o41, S_o41, N_o41, H_o41, G_o41⟩ := id V_39
  have hin_o41 : ¬ ((5 : Int32) < 0 ∨ cl_o41.slots.size ≤ ((5 : Int32)).toNatClampNeg) := inb_of S_o41 ⟨by decide, by decide⟩
  have hat_o41 : cl_o41.slots[((5 : Int32)).toNatClampNeg]? = some (.int y5) := H_o41.at hin_o41 rfl
  refine ogo (fun _ z_ => X39.iaload hx (j := (5 : Int32)) (v := (.int y5)) (by rw [eT39]; exact Ar_o41.1) (State.isArrayOf_alike hZ.alike Ar_o41.2.1) Ar_o41.2.2 hin_o41 hat_o41 (g := (mkF m 12 #[.val (.ref a0), .val (.int (0 : Int32)), .val (.int (0 : Int32)), .val (.int (5 : Int32)), .val (.int y4)] [(.int (5 : Int32)), (.ref a0)])) rfl rfl (hb hby d2_12) _ z_) ?_
  show OWay p e below G T39 (mkF m 13 #[.val (.ref a0), .val (.int (0 : Int32)), .val (.int (0 : Int32)), .val (.int (5 : Int32)), .val (.int y4)] [(.int y5)])
  refine ogo (fun _ z_ => XS.istore X39.here hx rfl (hb hby d2_13) rfl (l' := #[.val (.ref a0), .val (.int (0 : Int32)), .val (.int (0 : Int32)), .val (.int (5 : Int32)), .val (.int y5)]) rfl z_) ?_
  show OWay p e below G T39 (mkF m 15 #[.val (.ref a0), .val (.int (0 : Int32)), .val (.int (0 : Int32)), .val (.int (5 : Int32)), .val (.int y5)] [])
  refine ogo (fun _ z_ => XS.aloadN X39.here hx rfl (hb hby d2_15) rfl rfl z_) ?_
  show OWay p e below G T39 (mkF m 16 #[.val (.ref a0), .val (.int (0 : Int32)), .val (.int (0 : Int32)), .val (.int (5 : Int32)), .val (.int y5)] [(.ref a0)])
  refine ogo (fun _ z_ => XS.iloadN X39.here hx rfl (hb hby d2_16) rfl z_) ?_
  show OWay p e below G T39 (mkF m 17 #[.val (.ref a0), .val (.int (0 : Int32)), .val (.int (0 : Int32)), .val (.int (5 : Int32)), .val (.int y5)] [(.int (0 : Int32)), (.ref a0)])
  refine ogo (fun _ z_ => XS.iloadN X39.here hx rfl (hb hby d2_17) rfl z_) ?_
  show OWay p e below G T39 (mkF m 18 #[.val (.ref a0), .val (.int (0 : Int32)), .val (.int (0 : Int32)), .val (.int (5 : Int32)), .val (.int y5)] [(.int (5 : Int32)), (.int (0 : Int32)), (.ref a0)])
  refine ogo (fun _ z_ => XS.iadd X39.here hx rfl (hb hby d2_18) rfl z_) ?_
  show OWay p e below G T39 (mkF m 19 #[.val (.ref a0), .val (.int (0 : Int32)), .val (.int (0 : Int32)), .val (.int (5 : Int32)), .val (.int y5)] [(.int ((0 : Int32) + (5 : Int32))), (.ref a0)])
  refine ogoE (g' := (mkF m 19 #[.val (.ref a0), .val (.int (0 : Int32)), .val (.int (0 : Int32)), .val (.int (5 : Int32)), .val (.int y5)] [(.int (5 : Int32)), (.ref a0)])) (by rw [show ((0 : Int32) + (5 : Int32)) = (5 : Int32) from by decide]) ?_
  refine ogo (fun _ z_ => XS.aloadN X39.here hx rfl (hb hby d2_19) rfl rfl z_) ?_
  show OWay p e below G T39 (mkF m 20 #[.val (.ref a0), .val (.int (0 : Int32)), .val (.int (0 : Int32)), .val (.int (5 : Int32)), .val (.int y5)] [(.ref a0), (.int (5 : Int32)), (.ref a0)])
  refine ogo (fun _ z_ => XS.iloadN X39.here hx rfl (hb hby d2_20) rfl z_) ?_
  show OWay p e below G T39 (mkF m 21 #[.val (.ref a0), .val (.int (0 : Int32)), .val (.int (0 : Int32)), .val (.int (5 : Int32)), .val (.int y5)] [(.int (0 : Int32)), (.ref a0), (.int (5 : Int32)), (.ref a0)])
  refine ogo (fun _ z_ => XS.iloadN X39.here hx rfl (hb hby d2_21) rfl z_) ?_
  show OWay p e below G T39 (mkF m 22 #[.val (.ref a0), .val (.int (0 : Int32)), .val (.int (0 : Int32)), .val (.int (5 : Int32)), .val (.int y5)] [(.int (5 : Int32)), (.int (0 : Int32)), (.ref a0), (.int (5 : Int32)), (.ref a0)])
  refine ogo (fun _ z_ => XS.iadd X39.here hx rfl (hb hby d2_22) rfl z_) ?_
  show OWay p e below G T39 (mkF m 23 #[.val (.ref a0), .val (.int (0 : Int32)), .val (.int (0 : Int32)), .val (.int (5 : Int32)), .val (.int y5)] [(.int ((0 : Int32) + (5 : Int32))), (.ref a0), (.int (5 : Int32)), (.ref a0)])
  refine ogoE (g' := (mkF m 23 #[.val (.ref a0), .val (.int (0 : Int32)), .val (.int (0 : Int32)), .val (.int (5 : Int32)), .val (.int y5)] [(.int (5 : Int32)), (.ref a0), (.int (5 : Int32)), (.ref a0)])) (by rw [show ((0 : Int32) + (5 : Int32)) = (5 : Int32) from by decide]) ?_
  obtain ⟨cl_o42, Ar_o42, q_o42, S_o42, N_o42, H_o42, G_o42⟩ := id V_39
  have hin_o42 : ¬ ((5 : Int32) < 0 ∨ cl_o42.slots.size ≤ ((5 : Int32)).toNatClampNeg) := inb_of S_o42 ⟨by decide, by decide⟩
  have hat_o42 : cl_o42.slots[((5 : Int32)).toNatClampNeg]? = some (.int y5) := H_o42.at hin_o42 rfl
  refine ogo (fun _ z_ => X39.iaload hx (j := (5 : Int32)) (v := (.int y5)) (by rw [eT39]; exact Ar_o42.1) (State.isArrayOf_alike hZ.alike Ar_o42.2.1) Ar_o42.2.2 hin_o42 hat_o42 (g := (mkF m 23 #[.val (.ref a0), .val (.int (0 : Int32)), .val (.int (0 : Int32)), .val (.int (5 : Int32)), .val (.int y5)] [(.int (5 : Int32)), (.ref a0), (.int (5 : Int32)), (.ref a0)])) rfl rfl (hb hby d2_23) _ z_) ?_
  show OWay p e below G T39 (mkF m 24 #[.val (.ref a0), .val (.int (0 : Int32)), .val (.int (0 : Int32)), .val (.int (5 : Int32)), .val (.int y5)] [(.int y5), (.int (5 : Int32)), (.ref a0)])
  obtain ⟨cl_o43, Ar_o43, q_o43, S_o43, N_o43, H_o43, G_o43⟩ := id V_39
  have hin_o43 : ¬ ((5 : Int32) < 0 ∨ cl_o43.slots.size ≤ ((5 : Int32)).toNatClampNeg) := inb_of S_o43 ⟨by decide, by decide⟩
  obtain ⟨T44, h44, X44, eT44, W44, st44⟩ := stI X39 hx hZ eT39 Ar_o43 (j := (5 : Int32)) hin_o43 (g := (mkF m 24 #[.val (.ref a0), .val (.int (0 : Int32)), .val (.int (0 : Int32)), .val (.int (5 : Int32)), .val (.int y5)] [(.int y5), (.int (5 : Int32)), (.ref a0)])) rfl rfl (hb hby d2_24)
  have K45 : Keep h0 h44 [a0] := K40.wr W44 (Or.inl (List.mem_of_getElem? (i := 0) rfl))
  have V_44 : Arv Z h44 a0 kk .int (18 : Int32) [(.int y0), (.int y1), (.int y2), (.int y3), (.int y4), (.int y5), (.int y6), (.int y7), (.int y8), (.int y9), (.int y10), (.int y11), (.int y12), (.int y13), (.int y14), (.int y15), (.int y16), (.int y17)] (.int (0 : Int32)) := Arv.set Ar_o43 q_o43 S_o43 N_o43 H_o43 G_o43 rfl W44 5 rfl (Nat.le_of_ble_eq_true rfl)
  have N44 := Fr.snoc X44 N39 g_a0
  refine ogo st44 ?_
  show OWay p e below G T44 (mkF m 25 #[.val (.ref a0), .val (.int (0 : Int32)), .val (.int (0 : Int32)), .val (.int (5 : Int32)), .val (.int y5)] [])
  refine ogo (fun _ z_ => XS.aloadN X44.here hx rfl (hb hby d2_25) rfl rfl z_) ?_
  show OWay p e below G T44 (mkF m 26 #[.val (.ref a0), .val (.int (0 : Int32)), .val (.int (0 : Int32)), .val (.int (5 : Int32)), .val (.int y5)] [(.ref a0)])
  refine ogo (fun _ z_ => XS.iloadN X44.here hx rfl (hb hby d2_26) rfl z_) ?_
  show OWay p e below G T44 (mkF m 27 #[.val (.ref a0), .val (.int (0 : Int32)), .val (.int (0 : Int32)), .val (.int (5 : Int32)), .val (.int y5)] [(.int (0 : Int32)), (.ref a0)])
  refine ogo (fun _ z_ => XS.iloadN X44.here hx rfl (hb hby d2_27) rfl z_) ?_
  show OWay p e below G T44 (mkF m 28 #[.val (.ref a0), .val (.int (0 : Int32)), .val (.int (0 : Int32)), .val (.int (5 : Int32)), .val (.int y5)] [(.int (5 : Int32)), (.int (0 : Int32)), (.ref a0)])
  refine ogo (fun _ z_ => XS.iadd X44.here hx rfl (hb hby d2_28) rfl z_) ?_
  show OWay p e below G T44 (mkF m 29 #[.val (.ref a0), .val (.int (0 : Int32)), .val (.int (0 : Int32)), .val (.int (5 : Int32)), .val (.int y5)] [(.int ((0 : Int32) + (5 : Int32))), (.ref a0)])
  refine ogoE (g' := (mkF m 29 #[.val (.ref a0), .val (.int (0 : Int32)), .val (.int (0 : Int32)), .val (.int (5 : Int32)), .val (.int y5)] [(.int (5 : Int32)), (.ref a0)])) (by rw [show ((0 : Int32) + (5 : Int32)) = (5 : Int32) from by decide]) ?_
  refine ogo (fun _ z_ => XS.iload X44.here hx rfl (hb hby d2_29) rfl z_) ?_
  show OWay p e below G T44 (mkF m 31 #[.val (.ref a0), .val (.int (0 : Int32)), .val (.int (0 : Int32)), .val (.int (5 : Int32)), .val (.int y5)] [(.int y5), (.int (5 : Int32)), (.ref a0)])
  obtain ⟨cl_o46, Ar_o46, q_o46, S_o46, N_o46, H_o46, G_o46⟩ := id V_44
  have hin_o46 : ¬ ((5 : Int32) < 0 ∨ cl_o46.slots.size ≤ ((5 : Int32)).toNatClampNeg) := inb_of S_o46 ⟨by decide, by decide⟩
  obtain ⟨T47, h47, X47, eT47, W47, st47⟩ := stI X44 hx hZ eT44 Ar_o46 (j := (5 : Int32)) hin_o46 (g := (mkF m 31 #[.val (.ref a0), .val (.int (0 : Int32)), .val (.int (0 : Int32)), .val (.int (5 : Int32)), .val (.int y5)] [(.int y5), (.int (5 : Int32)), (.ref a0)])) rfl rfl (hb hby d2_31)
  have K48 : Keep h0 h47 [a0] := K45.wr W47 (Or.inl (List.mem_of_getElem? (i := 0) rfl))
  have V_47 : Arv Z h47 a0 kk .int (18 : Int32) [(.int y0), (.int y1), (.int y2), (.int y3), (.int y4), (.int y5), (.int y6), (.int y7), (.int y8), (.int y9), (.int y10), (.int y11), (.int y12), (.int y13), (.int y14), (.int y15), (.int y16), (.int y17)] (.int (0 : Int32)) := Arv.set Ar_o46 q_o46 S_o46 N_o46 H_o46 G_o46 rfl W47 5 rfl (Nat.le_of_ble_eq_true rfl)
  have N47 := Fr.snoc X47 N44 g_a0
  refine ogo st47 ?_
  show OWay p e below G T47 (mkF m 32 #[.val (.ref a0), .val (.int (0 : Int32)), .val (.int (0 : Int32)), .val (.int (5 : Int32)), .val (.int y5)] [])
  refine ogo (fun _ z_ => XS.iinc X47.here hx rfl (hb hby d2_32) rfl (l' := #[.val (.ref a0), .val (.int (0 : Int32)), .val (.int (0 : Int32)), .val (.int ((5 : Int32) + (1 : Int32))), .val (.int y5)]) rfl z_) ?_
  show OWay p e below G T47 (mkF m 35 #[.val (.ref a0), .val (.int (0 : Int32)), .val (.int (0 : Int32)), .val (.int ((5 : Int32) + (1 : Int32))), .val (.int y5)] [])
  refine ogoE (g' := (mkF m 35 #[.val (.ref a0), .val (.int (0 : Int32)), .val (.int (0 : Int32)), .val (.int (6 : Int32)), .val (.int y5)] [])) (by rw [show ((5 : Int32) + (1 : Int32)) = (6 : Int32) from by decide]) ?_
  refine ogo (fun _ z_ => XS.goto X47.here hx rfl (pc0 := 35) (pc' := 2) rfl (hb hby d2_35) (by decide) (by decide) z_) ?_
  show OWay p e below G T47 (mkF m 2 #[.val (.ref a0), .val (.int (0 : Int32)), .val (.int (0 : Int32)), .val (.int (6 : Int32)), .val (.int y5)] [])
  refine ogo (fun _ z_ => XS.iloadN X47.here hx rfl (hb hby d2_2) rfl z_) ?_
  show OWay p e below G T47 (mkF m 3 #[.val (.ref a0), .val (.int (0 : Int32)), .val (.int (0 : Int32)), .val (.int (6 : Int32)), .val (.int y5)] [(.int (6 : Int32))])
  refine ogo (fun _ z_ => XS.bipush X47.here hx rfl (hb hby d2_3) z_) ?_
  show OWay p e below G T47 (mkF m 5 #[.val (.ref a0), .val (.int (0 : Int32)), .val (.int (0 : Int32)), .val (.int (6 : Int32)), .val (.int y5)] [(.int (6 : Int32)), (.int (6 : Int32))])
  refine ogo (fun _ z_ => XS.icmpYes X47.here hx rfl (pc0 := 5) (pc' := 38) rfl (hb hby d2_5) rfl (flt (by decide)).2.1 (by decide) (by decide) z_) ?_
  show OWay p e below G T47 (mkF m 38 #[.val (.ref a0), .val (.int (0 : Int32)), .val (.int (0 : Int32)), .val (.int (6 : Int32)), .val (.int y5)] [])
  subst hG
  refine wRetV X47 hx hret hlk (hb hby d2_38) (by decide) (by decide) eT47 ?_
  exact ⟨rfl, N47, K48, V_47⟩
def swap01_rm : Room := { frames := 0, cells := 0, slots := 0, locals := 0 }
def swap01_Q (Z : State) (a0 : Addr) (kk : ClassId) (y0 : Int32) (y1 : Int32) (y2 : Int32) (y3 : Int32) (y4 : Int32) (y5 : Int32) (y6 : Int32) (y7 : Int32) (y8 : Int32) (y9 : Int32) (y10 : Int32) (y11 : Int32) (y12 : Int32) (y13 : Int32) (y14 : Int32) (y15 : Int32) (y16 : Int32) (y17 : Int32) (h0 : Heap) (n0 : Nat) (v : Option Value) (h : Heap) (L : List Loc) : Prop := (v = none) ∧ (Fr n0 L) ∧ (Keep h0 h [a0]) ∧ (Arv Z h a0 kk .int (18 : Int32) [(.int y6), (.int y7), (.int y8), (.int y9), (.int y10), (.int y11), (.int y0), (.int y1), (.int y2), (.int y3), (.int y4), (.int y5), (.int y12), (.int y13), (.int y14), (.int y15), (.int y16), (.int y17)] (.int (0 : Int32)))
theorem swap01_ef (m : MethodId) (a0 : Addr) : entryFrame m #[(.ref a0), (.int (0 : Int32)), (.int (6 : Int32))] 5 = mkF m 0 #[.val (.ref a0), .val (.int (0 : Int32)), .val (.int (6 : Int32)), .unset, .unset] [] := by first | (simp [entryFrame, mkF, argsToLocals, Value.category]; done) | rfl
set_option maxRecDepth 65536 in
set_option maxHeartbeats 40000000 in
theorem swap01_c (l : Launch) (Z : State) (az : Array Value) (hw : ∀ d ∈ tables_1, d.before az Z = true) (ws : List Jvm.Cond) (a0 : Addr) (kk : ClassId) (y0 : Int32) (y1 : Int32) (y2 : Int32) (y3 : Int32) (y4 : Int32) (y5 : Int32) (y6 : Int32) (y7 : Int32) (y8 : Int32) (y9 : Int32) (y10 : Int32) (y11 : Int32) (y12 : Int32) (y13 : Int32) (y14 : Int32) (y15 : Int32) (y16 : Int32) (y17 : Int32) (h0 : Heap) (n0 : Nat) (Z0 : n0 ≤ h0.size) (hp0 : Arv Z h0 a0 kk .int (18 : Int32) [(.int y0), (.int y1), (.int y2), (.int y3), (.int y4), (.int y5), (.int y6), (.int y7), (.int y8), (.int y9), (.int y10), (.int y11), (.int y12), (.int y13), (.int y14), (.int y15), (.int y16), (.int y17)] (.int (0 : Int32))) (hp1 : n0 ≤ a0) :
    OCon l (⟨"com/example/geotide/geotide/Members", "swap", "([III)V"⟩ : MethodName) prog_44_method_8_code 5 none ws swap01_rm Z #[(.ref a0), (.int (0 : Int32)), (.int (6 : Int32))] h0 (swap01_Q Z a0 kk y0 y1 y2 y3 y4 y5 y6 y7 y8 y9 y10 y11 y12 y13 y14 y15 y16 y17 h0 n0) := by
  refine ocon (plainFor_of_name pn_com_example_geotide_geotide_Members) ?_
  intro p e s m below meth c s₁ hx hby hml hown hnm hret hlk hZ X0 eh0
  have N0 := Fr.nil n0
  have K0 := Keep.refl h0 [a0]
  refine ogoE (swap01_ef m a0) ?_
  have g_a0 := hp1
  generalize hG : (OEnd s below (swap01_Q Z a0 kk y0 y1 y2 y3 y4 y5 y6 y7 y8 y9 y10 y11 y12 y13 y14 y15 y16 y17 h0 n0) swap01_rm.cells swap01_rm.slots) = G
  show OWay p e below G s₁ (mkF m 0 #[.val (.ref a0), .val (.int (0 : Int32)), .val (.int (6 : Int32)), .unset, .unset] [])
  refine ogo (fun _ z_ => XS.iconst X0.here hx rfl (hb hby d2_0) z_) ?_
  show OWay p e below G s₁ (mkF m 1 #[.val (.ref a0), .val (.int (0 : Int32)), .val (.int (6 : Int32)), .unset, .unset] [(.int (0 : Int32))])
  refine ogo (fun _ z_ => XS.istoreN X0.here hx rfl (hb hby d2_1) rfl (l' := #[.val (.ref a0), .val (.int (0 : Int32)), .val (.int (6 : Int32)), .val (.int (0 : Int32)), .unset]) rfl z_) ?_
  show OWay p e below G s₁ (mkF m 2 #[.val (.ref a0), .val (.int (0 : Int32)), .val (.int (6 : Int32)), .val (.int (0 : Int32)), .unset] [])
  refine ogo (fun _ z_ => XS.iloadN X0.here hx rfl (hb hby d2_2) rfl z_) ?_
  show OWay p e below G s₁ (mkF m 3 #[.val (.ref a0), .val (.int (0 : Int32)), .val (.int (6 : Int32)), .val (.int (0 : Int32)), .unset] [(.int (0 : Int32))])
  refine ogo (fun _ z_ => XS.bipush X0.here hx rfl (hb hby d2_3) z_) ?_
  show OWay p e below G s₁ (mkF m 5 #[.val (.ref a0), .val (.int (0 : Int32)), .val (.int (6 : Int32)), .val (.int (0 : Int32)), .unset] [(.int (6 : Int32)), (.int (0 : Int32))])
  refine ogo (fun _ z_ => XS.icmpNo X0.here hx rfl (hb hby d2_5) rfl (tlt (by decide)).2.1 z_) ?_
  show OWay p e below G s₁ (mkF m 8 #[.val (.ref a0), .val (.int (0 : Int32)), .val (.int (6 : Int32)), .val (.int (0 : Int32)), .unset] [])
  refine ogo (fun _ z_ => XS.aloadN X0.here hx rfl (hb hby d2_8) rfl rfl z_) ?_
  show OWay p e below G s₁ (mkF m 9 #[.val (.ref a0), .val (.int (0 : Int32)), .val (.int (6 : Int32)), .val (.int (0 : Int32)), .unset] [(.ref a0)])
  refine ogo (fun _ z_ => XS.iloadN X0.here hx rfl (hb hby d2_9) rfl z_) ?_
  show OWay p e below G s₁ (mkF m 10 #[.val (.ref a0), .val (.int (0 : Int32)), .val (.int (6 : Int32)), .val (.int (0 : Int32)), .unset] [(.int (0 : Int32)), (.ref a0)])
  refine ogo (fun _ z_ => XS.iloadN X0.here hx rfl (hb hby d2_10) rfl z_) ?_
  show OWay p e below G s₁ (mkF m 11 #[.val (.ref a0), .val (.int (0 : Int32)), .val (.int (6 : Int32)), .val (.int (0 : Int32)), .unset] [(.int (0 : Int32)), (.int (0 : Int32)), (.ref a0)])
  refine ogo (fun _ z_ => XS.iadd X0.here hx rfl (hb hby d2_11) rfl z_) ?_
  show OWay p e below G s₁ (mkF m 12 #[.val (.ref a0), .val (.int (0 : Int32)), .val (.int (6 : Int32)), .val (.int (0 : Int32)), .unset] [(.int ((0 : Int32) + (0 : Int32))), (.ref a0)])
  refine ogoE (g' := (mkF m 12 #[.val (.ref a0), .val (.int (0 : Int32)), .val (.int (6 : Int32)), .val (.int (0 : Int32)), .unset] [(.int (0 : Int32)), (.ref a0)])) (by rw [show ((0 : Int32) + (0 : Int32)) = (0 : Int32) from by decide]) ?_
  obtain ⟨cl_o1, Ar_o1, q_o1, S_o1, N_o1, H_o1, G_o1⟩ := id hp0
  have hin_o1 : ¬ ((0 : Int32) < 0 ∨ cl_o1.slots.size ≤ ((0 : Int32)).toNatClampNeg) := inb_of S_o1 ⟨by decide, by decide⟩
  have hat_o1 : cl_o1.slots[((0 : Int32)).toNatClampNeg]? = some (.int y0) := H_o1.at hin_o1 rfl
  refine ogo (fun _ z_ => X0.iaload hx (j := (0 : Int32)) (v := (.int y0)) (by rw [eh0]; exact Ar_o1.1) (State.isArrayOf_alike hZ.alike Ar_o1.2.1) Ar_o1.2.2 hin_o1 hat_o1 (g := (mkF m 12 #[.val (.ref a0), .val (.int (0 : Int32)), .val (.int (6 : Int32)), .val (.int (0 : Int32)), .unset] [(.int (0 : Int32)), (.ref a0)])) rfl rfl (hb hby d2_12) _ z_) ?_
  show OWay p e below G s₁ (mkF m 13 #[.val (.ref a0), .val (.int (0 : Int32)), .val (.int (6 : Int32)), .val (.int (0 : Int32)), .unset] [(.int y0)])
  refine ogo (fun _ z_ => XS.istore X0.here hx rfl (hb hby d2_13) rfl (l' := #[.val (.ref a0), .val (.int (0 : Int32)), .val (.int (6 : Int32)), .val (.int (0 : Int32)), .val (.int y0)]) rfl z_) ?_
  show OWay p e below G s₁ (mkF m 15 #[.val (.ref a0), .val (.int (0 : Int32)), .val (.int (6 : Int32)), .val (.int (0 : Int32)), .val (.int y0)] [])
  refine ogo (fun _ z_ => XS.aloadN X0.here hx rfl (hb hby d2_15) rfl rfl z_) ?_
  show OWay p e below G s₁ (mkF m 16 #[.val (.ref a0), .val (.int (0 : Int32)), .val (.int (6 : Int32)), .val (.int (0 : Int32)), .val (.int y0)] [(.ref a0)])
  refine ogo (fun _ z_ => XS.iloadN X0.here hx rfl (hb hby d2_16) rfl z_) ?_
  show OWay p e below G s₁ (mkF m 17 #[.val (.ref a0), .val (.int (0 : Int32)), .val (.int (6 : Int32)), .val (.int (0 : Int32)), .val (.int y0)] [(.int (0 : Int32)), (.ref a0)])
  refine ogo (fun _ z_ => XS.iloadN X0.here hx rfl (hb hby d2_17) rfl z_) ?_
  show OWay p e below G s₁ (mkF m 18 #[.val (.ref a0), .val (.int (0 : Int32)), .val (.int (6 : Int32)), .val (.int (0 : Int32)), .val (.int y0)] [(.int (0 : Int32)), (.int (0 : Int32)), (.ref a0)])
  refine ogo (fun _ z_ => XS.iadd X0.here hx rfl (hb hby d2_18) rfl z_) ?_
  show OWay p e below G s₁ (mkF m 19 #[.val (.ref a0), .val (.int (0 : Int32)), .val (.int (6 : Int32)), .val (.int (0 : Int32)), .val (.int y0)] [(.int ((0 : Int32) + (0 : Int32))), (.ref a0)])
  refine ogoE (g' := (mkF m 19 #[.val (.ref a0), .val (.int (0 : Int32)), .val (.int (6 : Int32)), .val (.int (0 : Int32)), .val (.int y0)] [(.int (0 : Int32)), (.ref a0)])) (by rw [show ((0 : Int32) + (0 : Int32)) = (0 : Int32) from by decide]) ?_
  refine ogo (fun _ z_ => XS.aloadN X0.here hx rfl (hb hby d2_19) rfl rfl z_) ?_
  show OWay p e below G s₁ (mkF m 20 #[.val (.ref a0), .val (.int (0 : Int32)), .val (.int (6 : Int32)), .val (.int (0 : Int32)), .val (.int y0)] [(.ref a0), (.int (0 : Int32)), (.ref a0)])
  refine ogo (fun _ z_ => XS.iloadN X0.here hx rfl (hb hby d2_20) rfl z_) ?_
  show OWay p e below G s₁ (mkF m 21 #[.val (.ref a0), .val (.int (0 : Int32)), .val (.int (6 : Int32)), .val (.int (0 : Int32)), .val (.int y0)] [(.int (6 : Int32)), (.ref a0), (.int (0 : Int32)), (.ref a0)])
  refine ogo (fun _ z_ => XS.iloadN X0.here hx rfl (hb hby d2_21) rfl z_) ?_
  show OWay p e below G s₁ (mkF m 22 #[.val (.ref a0), .val (.int (0 : Int32)), .val (.int (6 : Int32)), .val (.int (0 : Int32)), .val (.int y0)] [(.int (0 : Int32)), (.int (6 : Int32)), (.ref a0), (.int (0 : Int32)), (.ref a0)])
  refine ogo (fun _ z_ => XS.iadd X0.here hx rfl (hb hby d2_22) rfl z_) ?_
  show OWay p e below G s₁ (mkF m 23 #[.val (.ref a0), .val (.int (0 : Int32)), .val (.int (6 : Int32)), .val (.int (0 : Int32)), .val (.int y0)] [(.int ((6 : Int32) + (0 : Int32))), (.ref a0), (.int (0 : Int32)), (.ref a0)])
  refine ogoE (g' := (mkF m 23 #[.val (.ref a0), .val (.int (0 : Int32)), .val (.int (6 : Int32)), .val (.int (0 : Int32)), .val (.int y0)] [(.int (6 : Int32)), (.ref a0), (.int (0 : Int32)), (.ref a0)])) (by rw [show ((6 : Int32) + (0 : Int32)) = (6 : Int32) from by decide]) ?_
  obtain ⟨cl_o2, Ar_o2, q_o2, S_o2, N_o2, H_o2, G_o2⟩ := id hp0
  have hin_o2 : ¬ ((6 : Int32) < 0 ∨ cl_o2.slots.size ≤ ((6 : Int32)).toNatClampNeg) := inb_of S_o2 ⟨by decide, by decide⟩
  have hat_o2 : cl_o2.slots[((6 : Int32)).toNatClampNeg]? = some (.int y6) := H_o2.at hin_o2 rfl
  refine ogo (fun _ z_ => X0.iaload hx (j := (6 : Int32)) (v := (.int y6)) (by rw [eh0]; exact Ar_o2.1) (State.isArrayOf_alike hZ.alike Ar_o2.2.1) Ar_o2.2.2 hin_o2 hat_o2 (g := (mkF m 23 #[.val (.ref a0), .val (.int (0 : Int32)), .val (.int (6 : Int32)), .val (.int (0 : Int32)), .val (.int y0)] [(.int (6 : Int32)), (.ref a0), (.int (0 : Int32)), (.ref a0)])) rfl rfl (hb hby d2_23) _ z_) ?_
  show OWay p e below G s₁ (mkF m 24 #[.val (.ref a0), .val (.int (0 : Int32)), .val (.int (6 : Int32)), .val (.int (0 : Int32)), .val (.int y0)] [(.int y6), (.int (0 : Int32)), (.ref a0)])
  obtain ⟨cl_o3, Ar_o3, q_o3, S_o3, N_o3, H_o3, G_o3⟩ := id hp0
  have hin_o3 : ¬ ((0 : Int32) < 0 ∨ cl_o3.slots.size ≤ ((0 : Int32)).toNatClampNeg) := inb_of S_o3 ⟨by decide, by decide⟩
  obtain ⟨T4, h4, X4, eT4, W4, st4⟩ := stI X0 hx hZ eh0 Ar_o3 (j := (0 : Int32)) hin_o3 (g := (mkF m 24 #[.val (.ref a0), .val (.int (0 : Int32)), .val (.int (6 : Int32)), .val (.int (0 : Int32)), .val (.int y0)] [(.int y6), (.int (0 : Int32)), (.ref a0)])) rfl rfl (hb hby d2_24)
  have K5 : Keep h0 h4 [a0] := K0.wr W4 (Or.inl (List.mem_of_getElem? (i := 0) rfl))
  have V_4 : Arv Z h4 a0 kk .int (18 : Int32) [(.int y6), (.int y1), (.int y2), (.int y3), (.int y4), (.int y5), (.int y6), (.int y7), (.int y8), (.int y9), (.int y10), (.int y11), (.int y12), (.int y13), (.int y14), (.int y15), (.int y16), (.int y17)] (.int (0 : Int32)) := Arv.set Ar_o3 q_o3 S_o3 N_o3 H_o3 G_o3 rfl W4 0 rfl (Nat.le_of_ble_eq_true rfl)
  have N4 := Fr.snoc X4 N0 g_a0
  refine ogo st4 ?_
  show OWay p e below G T4 (mkF m 25 #[.val (.ref a0), .val (.int (0 : Int32)), .val (.int (6 : Int32)), .val (.int (0 : Int32)), .val (.int y0)] [])
  refine ogo (fun _ z_ => XS.aloadN X4.here hx rfl (hb hby d2_25) rfl rfl z_) ?_
  show OWay p e below G T4 (mkF m 26 #[.val (.ref a0), .val (.int (0 : Int32)), .val (.int (6 : Int32)), .val (.int (0 : Int32)), .val (.int y0)] [(.ref a0)])
  refine ogo (fun _ z_ => XS.iloadN X4.here hx rfl (hb hby d2_26) rfl z_) ?_
  show OWay p e below G T4 (mkF m 27 #[.val (.ref a0), .val (.int (0 : Int32)), .val (.int (6 : Int32)), .val (.int (0 : Int32)), .val (.int y0)] [(.int (6 : Int32)), (.ref a0)])
  refine ogo (fun _ z_ => XS.iloadN X4.here hx rfl (hb hby d2_27) rfl z_) ?_
  show OWay p e below G T4 (mkF m 28 #[.val (.ref a0), .val (.int (0 : Int32)), .val (.int (6 : Int32)), .val (.int (0 : Int32)), .val (.int y0)] [(.int (0 : Int32)), (.int (6 : Int32)), (.ref a0)])
  refine ogo (fun _ z_ => XS.iadd X4.here hx rfl (hb hby d2_28) rfl z_) ?_
  show OWay p e below G T4 (mkF m 29 #[.val (.ref a0), .val (.int (0 : Int32)), .val (.int (6 : Int32)), .val (.int (0 : Int32)), .val (.int y0)] [(.int ((6 : Int32) + (0 : Int32))), (.ref a0)])
  refine ogoE (g' := (mkF m 29 #[.val (.ref a0), .val (.int (0 : Int32)), .val (.int (6 : Int32)), .val (.int (0 : Int32)), .val (.int y0)] [(.int (6 : Int32)), (.ref a0)])) (by rw [show ((6 : Int32) + (0 : Int32)) = (6 : Int32) from by decide]) ?_
  refine ogo (fun _ z_ => XS.iload X4.here hx rfl (hb hby d2_29) rfl z_) ?_
  show OWay p e below G T4 (mkF m 31 #[.val (.ref a0), .val (.int (0 : Int32)), .val (.int (6 : Int32)), .val (.int (0 : Int32)), .val (.int y0)] [(.int y0), (.int (6 : Int32)), (.ref a0)])
  obtain ⟨cl_o6, Ar_o6, q_o6, S_o6, N_o6, H_o6, G_o6⟩ := id V_4
  have hin_o6 : ¬ ((6 : Int32) < 0 ∨ cl_o6.slots.size ≤ ((6 : Int32)).toNatClampNeg) := inb_of S_o6 ⟨by decide, by decide⟩
  obtain ⟨T7, h7, X7, eT7, W7, st7⟩ := stI X4 hx hZ eT4 Ar_o6 (j := (6 : Int32)) hin_o6 (g := (mkF m 31 #[.val (.ref a0), .val (.int (0 : Int32)), .val (.int (6 : Int32)), .val (.int (0 : Int32)), .val (.int y0)] [(.int y0), (.int (6 : Int32)), (.ref a0)])) rfl rfl (hb hby d2_31)
  have K8 : Keep h0 h7 [a0] := K5.wr W7 (Or.inl (List.mem_of_getElem? (i := 0) rfl))
  have V_7 : Arv Z h7 a0 kk .int (18 : Int32) [(.int y6), (.int y1), (.int y2), (.int y3), (.int y4), (.int y5), (.int y0), (.int y7), (.int y8), (.int y9), (.int y10), (.int y11), (.int y12), (.int y13), (.int y14), (.int y15), (.int y16), (.int y17)] (.int (0 : Int32)) := Arv.set Ar_o6 q_o6 S_o6 N_o6 H_o6 G_o6 rfl W7 6 rfl (Nat.le_of_ble_eq_true rfl)
  have N7 := Fr.snoc X7 N4 g_a0
  refine ogo st7 ?_
  show OWay p e below G T7 (mkF m 32 #[.val (.ref a0), .val (.int (0 : Int32)), .val (.int (6 : Int32)), .val (.int (0 : Int32)), .val (.int y0)] [])
  refine ogo (fun _ z_ => XS.iinc X7.here hx rfl (hb hby d2_32) rfl (l' := #[.val (.ref a0), .val (.int (0 : Int32)), .val (.int (6 : Int32)), .val (.int ((0 : Int32) + (1 : Int32))), .val (.int y0)]) rfl z_) ?_
  show OWay p e below G T7 (mkF m 35 #[.val (.ref a0), .val (.int (0 : Int32)), .val (.int (6 : Int32)), .val (.int ((0 : Int32) + (1 : Int32))), .val (.int y0)] [])
  refine ogoE (g' := (mkF m 35 #[.val (.ref a0), .val (.int (0 : Int32)), .val (.int (6 : Int32)), .val (.int (1 : Int32)), .val (.int y0)] [])) (by rw [show ((0 : Int32) + (1 : Int32)) = (1 : Int32) from by decide]) ?_
  refine ogo (fun _ z_ => XS.goto X7.here hx rfl (pc0 := 35) (pc' := 2) rfl (hb hby d2_35) (by decide) (by decide) z_) ?_
  show OWay p e below G T7 (mkF m 2 #[.val (.ref a0), .val (.int (0 : Int32)), .val (.int (6 : Int32)), .val (.int (1 : Int32)), .val (.int y0)] [])
  refine ogo (fun _ z_ => XS.iloadN X7.here hx rfl (hb hby d2_2) rfl z_) ?_
  show OWay p e below G T7 (mkF m 3 #[.val (.ref a0), .val (.int (0 : Int32)), .val (.int (6 : Int32)), .val (.int (1 : Int32)), .val (.int y0)] [(.int (1 : Int32))])
  refine ogo (fun _ z_ => XS.bipush X7.here hx rfl (hb hby d2_3) z_) ?_
  show OWay p e below G T7 (mkF m 5 #[.val (.ref a0), .val (.int (0 : Int32)), .val (.int (6 : Int32)), .val (.int (1 : Int32)), .val (.int y0)] [(.int (6 : Int32)), (.int (1 : Int32))])
  refine ogo (fun _ z_ => XS.icmpNo X7.here hx rfl (hb hby d2_5) rfl (tlt (by decide)).2.1 z_) ?_
  show OWay p e below G T7 (mkF m 8 #[.val (.ref a0), .val (.int (0 : Int32)), .val (.int (6 : Int32)), .val (.int (1 : Int32)), .val (.int y0)] [])
  refine ogo (fun _ z_ => XS.aloadN X7.here hx rfl (hb hby d2_8) rfl rfl z_) ?_
  show OWay p e below G T7 (mkF m 9 #[.val (.ref a0), .val (.int (0 : Int32)), .val (.int (6 : Int32)), .val (.int (1 : Int32)), .val (.int y0)] [(.ref a0)])
  refine ogo (fun _ z_ => XS.iloadN X7.here hx rfl (hb hby d2_9) rfl z_) ?_
  show OWay p e below G T7 (mkF m 10 #[.val (.ref a0), .val (.int (0 : Int32)), .val (.int (6 : Int32)), .val (.int (1 : Int32)), .val (.int y0)] [(.int (0 : Int32)), (.ref a0)])
  refine ogo (fun _ z_ => XS.iloadN X7.here hx rfl (hb hby d2_10) rfl z_) ?_
  show OWay p e below G T7 (mkF m 11 #[.val (.ref a0), .val (.int (0 : Int32)), .val (.int (6 : Int32)), .val (.int (1 : Int32)), .val (.int y0)] [(.int (1 : Int32)), (.int (0 : Int32)), (.ref a0)])
  refine ogo (fun _ z_ => XS.iadd X7.here hx rfl (hb hby d2_11) rfl z_) ?_
  show OWay p e below G T7 (mkF m 12 #[.val (.ref a0), .val (.int (0 : Int32)), .val (.int (6 : Int32)), .val (.int (1 : Int32)), .val (.int y0)] [(.int ((0 : Int32) + (1 : Int32))), (.ref a0)])
  refine ogoE (g' := (mkF m 12 #[.val (.ref a0), .val (.int (0 : Int32)), .val (.int (6 : Int32)), .val (.int (1 : Int32)), .val (.int y0)] [(.int (1 : Int32)), (.ref a0)])) (by rw [show ((0 : Int32) + (1 : Int32)) = (1 : Int32) from by decide]) ?_
  obtain ⟨cl_o9, Ar_o9, q_o9, S_o9, N_o9, H_o9, G_o9⟩ := id V_7
  have hin_o9 : ¬ ((1 : Int32) < 0 ∨ cl_o9.slots.size ≤ ((1 : Int32)).toNatClampNeg) := inb_of S_o9 ⟨by decide, by decide⟩
  have hat_o9 : cl_o9.slots[((1 : Int32)).toNatClampNeg]? = some (.int y1) := H_o9.at hin_o9 rfl
  refine ogo (fun _ z_ => X7.iaload hx (j := (1 : Int32)) (v := (.int y1)) (by rw [eT7]; exact Ar_o9.1) (State.isArrayOf_alike hZ.alike Ar_o9.2.1) Ar_o9.2.2 hin_o9 hat_o9 (g := (mkF m 12 #[.val (.ref a0), .val (.int (0 : Int32)), .val (.int (6 : Int32)), .val (.int (1 : Int32)), .val (.int y0)] [(.int (1 : Int32)), (.ref a0)])) rfl rfl (hb hby d2_12) _ z_) ?_
  show OWay p e below G T7 (mkF m 13 #[.val (.ref a0), .val (.int (0 : Int32)), .val (.int (6 : Int32)), .val (.int (1 : Int32)), .val (.int y0)] [(.int y1)])
  refine ogo (fun _ z_ => XS.istore X7.here hx rfl (hb hby d2_13) rfl (l' := #[.val (.ref a0), .val (.int (0 : Int32)), .val (.int (6 : Int32)), .val (.int (1 : Int32)), .val (.int y1)]) rfl z_) ?_
  show OWay p e below G T7 (mkF m 15 #[.val (.ref a0), .val (.int (0 : Int32)), .val (.int (6 : Int32)), .val (.int (1 : Int32)), .val (.int y1)] [])
  refine ogo (fun _ z_ => XS.aloadN X7.here hx rfl (hb hby d2_15) rfl rfl z_) ?_
  show OWay p e below G T7 (mkF m 16 #[.val (.ref a0), .val (.int (0 : Int32)), .val (.int (6 : Int32)), .val (.int (1 : Int32)), .val (.int y1)] [(.ref a0)])
  refine ogo (fun _ z_ => XS.iloadN X7.here hx rfl (hb hby d2_16) rfl z_) ?_
  show OWay p e below G T7 (mkF m 17 #[.val (.ref a0), .val (.int (0 : Int32)), .val (.int (6 : Int32)), .val (.int (1 : Int32)), .val (.int y1)] [(.int (0 : Int32)), (.ref a0)])
  refine ogo (fun _ z_ => XS.iloadN X7.here hx rfl (hb hby d2_17) rfl z_) ?_
  show OWay p e below G T7 (mkF m 18 #[.val (.ref a0), .val (.int (0 : Int32)), .val (.int (6 : Int32)), .val (.int (1 : Int32)), .val (.int y1)] [(.int (1 : Int32)), (.int (0 : Int32)), (.ref a0)])
  refine ogo (fun _ z_ => XS.iadd X7.here hx rfl (hb hby d2_18) rfl z_) ?_
  show OWay p e below G T7 (mkF m 19 #[.val (.ref a0), .val (.int (0 : Int32)), .val (.int (6 : Int32)), .val (.int (1 : Int32)), .val (.int y1)] [(.int ((0 : Int32) + (1 : Int32))), (.ref a0)])
  refine ogoE (g' := (mkF m 19 #[.val (.ref a0), .val (.int (0 : Int32)), .val (.int (6 : Int32)), .val (.int (1 : Int32)), .val (.int y1)] [(.int (1 : Int32)), (.ref a0)])) (by rw [show ((0 : Int32) + (1 : Int32)) = (1 : Int32) from by decide]) ?_
  refine ogo (fun _ z_ => XS.aloadN X7.here hx rfl (hb hby d2_19) rfl rfl z_) ?_
  show OWay p e below G T7 (mkF m 20 #[.val (.ref a0), .val (.int (0 : Int32)), .val (.int (6 : Int32)), .val (.int (1 : Int32)), .val (.int y1)] [(.ref a0), (.int (1 : Int32)), (.ref a0)])
  refine ogo (fun _ z_ => XS.iloadN X7.here hx rfl (hb hby d2_20) rfl z_) ?_
  show OWay p e below G T7 (mkF m 21 #[.val (.ref a0), .val (.int (0 : Int32)), .val (.int (6 : Int32)), .val (.int (1 : Int32)), .val (.int y1)] [(.int (6 : Int32)), (.ref a0), (.int (1 : Int32)), (.ref a0)])
  refine ogo (fun _ z_ => XS.iloadN X7.here hx rfl (hb hby d2_21) rfl z_) ?_
  show OWay p e below G T7 (mkF m 22 #[.val (.ref a0), .val (.int (0 : Int32)), .val (.int (6 : Int32)), .val (.int (1 : Int32)), .val (.int y1)] [(.int (1 : Int32)), (.int (6 : Int32)), (.ref a0), (.int (1 : Int32)), (.ref a0)])
  refine ogo (fun _ z_ => XS.iadd X7.here hx rfl (hb hby d2_22) rfl z_) ?_
  show OWay p e below G T7 (mkF m 23 #[.val (.ref a0), .val (.int (0 : Int32)), .val (.int (6 : Int32)), .val (.int (1 : Int32)), .val (.int y1)] [(.int ((6 : Int32) + (1 : Int32))), (.ref a0), (.int (1 : Int32)), (.ref a0)])
  refine ogoE (g' := (mkF m 23 #[.val (.ref a0), .val (.int (0 : Int32)), .val (.int (6 : Int32)), .val (.int (1 : Int32)), .val (.int y1)] [(.int (7 : Int32)), (.ref a0), (.int (1 : Int32)), (.ref a0)])) (by rw [show ((6 : Int32) + (1 : Int32)) = (7 : Int32) from by decide]) ?_
  obtain ⟨cl_o10, Ar_o10, q_o10, S_o10, N_o10, H_o10, G_o10⟩ := id V_7
  have hin_o10 : ¬ ((7 : Int32) < 0 ∨ cl_o10.slots.size ≤ ((7 : Int32)).toNatClampNeg) := inb_of S_o10 ⟨by decide, by decide⟩
  have hat_o10 : cl_o10.slots[((7 : Int32)).toNatClampNeg]? = some (.int y7) := H_o10.at hin_o10 rfl
  refine ogo (fun _ z_ => X7.iaload hx (j := (7 : Int32)) (v := (.int y7)) (by rw [eT7]; exact Ar_o10.1) (State.isArrayOf_alike hZ.alike Ar_o10.2.1) Ar_o10.2.2 hin_o10 hat_o10 (g := (mkF m 23 #[.val (.ref a0), .val (.int (0 : Int32)), .val (.int (6 : Int32)), .val (.int (1 : Int32)), .val (.int y1)] [(.int (7 : Int32)), (.ref a0), (.int (1 : Int32)), (.ref a0)])) rfl rfl (hb hby d2_23) _ z_) ?_
  show OWay p e below G T7 (mkF m 24 #[.val (.ref a0), .val (.int (0 : Int32)), .val (.int (6 : Int32)), .val (.int (1 : Int32)), .val (.int y1)] [(.int y7), (.int (1 : Int32)), (.ref a0)])
  obtain ⟨cl_o11, Ar_o11, q_o11, S_o11, N_o11, H_o11, G_o11⟩ := id V_7
  have hin_o11 : ¬ ((1 : Int32) < 0 ∨ cl_o11.slots.size ≤ ((1 : Int32)).toNatClampNeg) := inb_of S_o11 ⟨by decide, by decide⟩
  obtain ⟨T12, h12, X12, eT12, W12, st12⟩ := stI X7 hx hZ eT7 Ar_o11 (j := (1 : Int32)) hin_o11 (g := (mkF m 24 #[.val (.ref a0), .val (.int (0 : Int32)), .val (.int (6 : Int32)), .val (.int (1 : Int32)), .val (.int y1)] [(.int y7), (.int (1 : Int32)), (.ref a0)])) rfl rfl (hb hby d2_24)
  have K13 : Keep h0 h12 [a0] := K8.wr W12 (Or.inl (List.mem_of_getElem? (i := 0) rfl))
  have V_12 : Arv Z h12 a0 kk .int (18 : Int32) [(.int y6), (.int y7), (.int y2), (.int y3), (.int y4), (.int y5), (.int y0), (.int y7), (.int y8), (.int y9), (.int y10), (.int y11), (.int y12), (.int y13), (.int y14), (.int y15), (.int y16), (.int y17)] (.int (0 : Int32)) := Arv.set Ar_o11 q_o11 S_o11 N_o11 H_o11 G_o11 rfl W12 1 rfl (Nat.le_of_ble_eq_true rfl)
  have N12 := Fr.snoc X12 N7 g_a0
  refine ogo st12 ?_
  show OWay p e below G T12 (mkF m 25 #[.val (.ref a0), .val (.int (0 : Int32)), .val (.int (6 : Int32)), .val (.int (1 : Int32)), .val (.int y1)] [])
  refine ogo (fun _ z_ => XS.aloadN X12.here hx rfl (hb hby d2_25) rfl rfl z_) ?_
  show OWay p e below G T12 (mkF m 26 #[.val (.ref a0), .val (.int (0 : Int32)), .val (.int (6 : Int32)), .val (.int (1 : Int32)), .val (.int y1)] [(.ref a0)])
  refine ogo (fun _ z_ => XS.iloadN X12.here hx rfl (hb hby d2_26) rfl z_) ?_
  show OWay p e below G T12 (mkF m 27 #[.val (.ref a0), .val (.int (0 : Int32)), .val (.int (6 : Int32)), .val (.int (1 : Int32)), .val (.int y1)] [(.int (6 : Int32)), (.ref a0)])
  refine ogo (fun _ z_ => XS.iloadN X12.here hx rfl (hb hby d2_27) rfl z_) ?_
  show OWay p e below G T12 (mkF m 28 #[.val (.ref a0), .val (.int (0 : Int32)), .val (.int (6 : Int32)), .val (.int (1 : Int32)), .val (.int y1)] [(.int (1 : Int32)), (.int (6 : Int32)), (.ref a0)])
  refine ogo (fun _ z_ => XS.iadd X12.here hx rfl (hb hby d2_28) rfl z_) ?_
  show OWay p e below G T12 (mkF m 29 #[.val (.ref a0), .val (.int (0 : Int32)), .val (.int (6 : Int32)), .val (.int (1 : Int32)), .val (.int y1)] [(.int ((6 : Int32) + (1 : Int32))), (.ref a0)])
  refine ogoE (g' := (mkF m 29 #[.val (.ref a0), .val (.int (0 : Int32)), .val (.int (6 : Int32)), .val (.int (1 : Int32)), .val (.int y1)] [(.int (7 : Int32)), (.ref a0)])) (by rw [show ((6 : Int32) + (1 : Int32)) = (7 : Int32) from by decide]) ?_
  refine ogo (fun _ z_ => XS.iload X12.here hx rfl (hb hby d2_29) rfl z_) ?_
  show OWay p e below G T12 (mkF m 31 #[.val (.ref a0), .val (.int (0 : Int32)), .val (.int (6 : Int32)), .val (.int (1 : Int32)), .val (.int y1)] [(.int y1), (.int (7 : Int32)), (.ref a0)])
  obtain ⟨cl_o14, Ar_o14, q_o14, S_o14, N_o14, H_o14, G_o14⟩ := id V_12
  have hin_o14 : ¬ ((7 : Int32) < 0 ∨ cl_o14.slots.size ≤ ((7 : Int32)).toNatClampNeg) := inb_of S_o14 ⟨by decide, by decide⟩
  obtain ⟨T15, h15, X15, eT15, W15, st15⟩ := stI X12 hx hZ eT12 Ar_o14 (j := (7 : Int32)) hin_o14 (g := (mkF m 31 #[.val (.ref a0), .val (.int (0 : Int32)), .val (.int (6 : Int32)), .val (.int (1 : Int32)), .val (.int y1)] [(.int y1), (.int (7 : Int32)), (.ref a0)])) rfl rfl (hb hby d2_31)
  have K16 : Keep h0 h15 [a0] := K13.wr W15 (Or.inl (List.mem_of_getElem? (i := 0) rfl))
  have V_15 : Arv Z h15 a0 kk .int (18 : Int32) [(.int y6), (.int y7), (.int y2), (.int y3), (.int y4), (.int y5), (.int y0), (.int y1), (.int y8), (.int y9), (.int y10), (.int y11), (.int y12), (.int y13), (.int y14), (.int y15), (.int y16), (.int y17)] (.int (0 : Int32)) := Arv.set Ar_o14 q_o14 S_o14 N_o14 H_o14 G_o14 rfl W15 7 rfl (Nat.le_of_ble_eq_true rfl)
  have N15 := Fr.snoc X15 N12 g_a0
  refine ogo st15 ?_
  show OWay p e below G T15 (mkF m 32 #[.val (.ref a0), .val (.int (0 : Int32)), .val (.int (6 : Int32)), .val (.int (1 : Int32)), .val (.int y1)] [])
  refine ogo (fun _ z_ => XS.iinc X15.here hx rfl (hb hby d2_32) rfl (l' := #[.val (.ref a0), .val (.int (0 : Int32)), .val (.int (6 : Int32)), .val (.int ((1 : Int32) + (1 : Int32))), .val (.int y1)]) rfl z_) ?_
  show OWay p e below G T15 (mkF m 35 #[.val (.ref a0), .val (.int (0 : Int32)), .val (.int (6 : Int32)), .val (.int ((1 : Int32) + (1 : Int32))), .val (.int y1)] [])
  refine ogoE (g' := (mkF m 35 #[.val (.ref a0), .val (.int (0 : Int32)), .val (.int (6 : Int32)), .val (.int (2 : Int32)), .val (.int y1)] [])) (by rw [show ((1 : Int32) + (1 : Int32)) = (2 : Int32) from by decide]) ?_
  refine ogo (fun _ z_ => XS.goto X15.here hx rfl (pc0 := 35) (pc' := 2) rfl (hb hby d2_35) (by decide) (by decide) z_) ?_
  show OWay p e below G T15 (mkF m 2 #[.val (.ref a0), .val (.int (0 : Int32)), .val (.int (6 : Int32)), .val (.int (2 : Int32)), .val (.int y1)] [])
  refine ogo (fun _ z_ => XS.iloadN X15.here hx rfl (hb hby d2_2) rfl z_) ?_
  show OWay p e below G T15 (mkF m 3 #[.val (.ref a0), .val (.int (0 : Int32)), .val (.int (6 : Int32)), .val (.int (2 : Int32)), .val (.int y1)] [(.int (2 : Int32))])
  refine ogo (fun _ z_ => XS.bipush X15.here hx rfl (hb hby d2_3) z_) ?_
  show OWay p e below G T15 (mkF m 5 #[.val (.ref a0), .val (.int (0 : Int32)), .val (.int (6 : Int32)), .val (.int (2 : Int32)), .val (.int y1)] [(.int (6 : Int32)), (.int (2 : Int32))])
  refine ogo (fun _ z_ => XS.icmpNo X15.here hx rfl (hb hby d2_5) rfl (tlt (by decide)).2.1 z_) ?_
  show OWay p e below G T15 (mkF m 8 #[.val (.ref a0), .val (.int (0 : Int32)), .val (.int (6 : Int32)), .val (.int (2 : Int32)), .val (.int y1)] [])
  refine ogo (fun _ z_ => XS.aloadN X15.here hx rfl (hb hby d2_8) rfl rfl z_) ?_
  show OWay p e below G T15 (mkF m 9 #[.val (.ref a0), .val (.int (0 : Int32)), .val (.int (6 : Int32)), .val (.int (2 : Int32)), .val (.int y1)] [(.ref a0)])
  refine ogo (fun _ z_ => XS.iloadN X15.here hx rfl (hb hby d2_9) rfl z_) ?_
  show OWay p e below G T15 (mkF m 10 #[.val (.ref a0), .val (.int (0 : Int32)), .val (.int (6 : Int32)), .val (.int (2 : Int32)), .val (.int y1)] [(.int (0 : Int32)), (.ref a0)])
  refine ogo (fun _ z_ => XS.iloadN X15.here hx rfl (hb hby d2_10) rfl z_) ?_
  show OWay p e below G T15 (mkF m 11 #[.val (.ref a0), .val (.int (0 : Int32)), .val (.int (6 : Int32)), .val (.int (2 : Int32)), .val (.int y1)] [(.int (2 : Int32)), (.int (0 : Int32)), (.ref a0)])
  refine ogo (fun _ z_ => XS.iadd X15.here hx rfl (hb hby d2_11) rfl z_) ?_
  show OWay p e below G T15 (mkF m 12 #[.val (.ref a0), .val (.int (0 : Int32)), .val (.int (6 : Int32)), .val (.int (2 : Int32)), .val (.int y1)] [(.int ((0 : Int32) + (2 : Int32))), (.ref a0)])
  refine ogoE (g' := (mkF m 12 #[.val (.ref a0), .val (.int (0 : Int32)), .val (.int (6 : Int32)), .val (.int (2 : Int32)), .val (.int y1)] [(.int (2 : Int32)), (.ref a0)])) (by rw [show ((0 : Int32) + (2 : Int32)) = (2 : Int32) from by decide]) ?_
  obtain ⟨cl_o17, Ar_o17, q_o17, S_o17, N_o17, H_o17, G_o17⟩ := id V_15
  have hin_o17 : ¬ ((2 : Int32) < 0 ∨ cl_o17.slots.size ≤ ((2 : Int32)).toNatClampNeg) := inb_of S_o17 ⟨by decide, by decide⟩
  have hat_o17 : cl_o17.slots[((2 : Int32)).toNatClampNeg]? = some (.int y2) := H_o17.at hin_o17 rfl
  refine ogo (fun _ z_ => X15.iaload hx (j := (2 : Int32)) (v := (.int y2)) (by rw [eT15]; exact Ar_o17.1) (State.isArrayOf_alike hZ.alike Ar_o17.2.1) Ar_o17.2.2 hin_o17 hat_o17 (g := (mkF m 12 #[.val (.ref a0), .val (.int (0 : Int32)), .val (.int (6 : Int32)), .val (.int (2 : Int32)), .val (.int y1)] [(.int (2 : Int32)), (.ref a0)])) rfl rfl (hb hby d2_12) _ z_) ?_
  show OWay p e below G T15 (mkF m 13 #[.val (.ref a0), .val (.int (0 : Int32)), .val (.int (6 : Int32)), .val (.int (2 : Int32)), .val (.int y1)] [(.int y2)])
  refine ogo (fun _ z_ => XS.istore X15.here hx rfl (hb hby d2_13) rfl (l' := #[.val (.ref a0), .val (.int (0 : Int32)), .val (.int (6 : Int32)), .val (.int (2 : Int32)), .val (.int y2)]) rfl z_) ?_
  show OWay p e below G T15 (mkF m 15 #[.val (.ref a0), .val (.int (0 : Int32)), .val (.int (6 : Int32)), .val (.int (2 : Int32)), .val (.int y2)] [])
  refine ogo (fun _ z_ => XS.aloadN X15.here hx rfl (hb hby d2_15) rfl rfl z_) ?_
  show OWay p e below G T15 (mkF m 16 #[.val (.ref a0), .val (.int (0 : Int32)), .val (.int (6 : Int32)), .val (.int (2 : Int32)), .val (.int y2)] [(.ref a0)])
  refine ogo (fun _ z_ => XS.iloadN X15.here hx rfl (hb hby d2_16) rfl z_) ?_
  show OWay p e below G T15 (mkF m 17 #[.val (.ref a0), .val (.int (0 : Int32)), .val (.int (6 : Int32)), .val (.int (2 : Int32)), .val (.int y2)] [(.int (0 : Int32)), (.ref a0)])
  refine ogo (fun _ z_ => XS.iloadN X15.here hx rfl (hb hby d2_17) rfl z_) ?_
  show OWay p e below G T15 (mkF m 18 #[.val (.ref a0), .val (.int (0 : Int32)), .val (.int (6 : Int32)), .val (.int (2 : Int32)), .val (.int y2)] [(.int (2 : Int32)), (.int (0 : Int32)), (.ref a0)])
  refine ogo (fun _ z_ => XS.iadd X15.here hx rfl (hb hby d2_18) rfl z_) ?_
  show OWay p e below G T15 (mkF m 19 #[.val (.ref a0), .val (.int (0 : Int32)), .val (.int (6 : Int32)), .val (.int (2 : Int32)), .val (.int y2)] [(.int ((0 : Int32) + (2 : Int32))), (.ref a0)])
  refine ogoE (g' := (mkF m 19 #[.val (.ref a0), .val (.int (0 : Int32)), .val (.int (6 : Int32)), .val (.int (2 : Int32)), .val (.int y2)] [(.int (2 : Int32)), (.ref a0)])) (by rw [show ((0 : Int32) + (2 : Int32)) = (2 : Int32) from by decide]) ?_
  refine ogo (fun _ z_ => XS.aloadN X15.here hx rfl (hb hby d2_19) rfl rfl z_) ?_
  show OWay p e below G T15 (mkF m 20 #[.val (.ref a0), .val (.int (0 : Int32)), .val (.int (6 : Int32)), .val (.int (2 : Int32)), .val (.int y2)] [(.ref a0), (.int (2 : Int32)), (.ref a0)])
  refine ogo (fun _ z_ => XS.iloadN X15.here hx rfl (hb hby d2_20) rfl z_) ?_
  show OWay p e below G T15 (mkF m 21 #[.val (.ref a0), .val (.int (0 : Int32)), .val (.int (6 : Int32)), .val (.int (2 : Int32)), .val (.int y2)] [(.int (6 : Int32)), (.ref a0), (.int (2 : Int32)), (.ref a0)])
  refine ogo (fun _ z_ => XS.iloadN X15.here hx rfl (hb hby d2_21) rfl z_) ?_
  show OWay p e below G T15 (mkF m 22 #[.val (.ref a0), .val (.int (0 : Int32)), .val (.int (6 : Int32)), .val (.int (2 : Int32)), .val (.int y2)] [(.int (2 : Int32)), (.int (6 : Int32)), (.ref a0), (.int (2 : Int32)), (.ref a0)])
  refine ogo (fun _ z_ => XS.iadd X15.here hx rfl (hb hby d2_22) rfl z_) ?_
  show OWay p e below G T15 (mkF m 23 #[.val (.ref a0), .val (.int (0 : Int32)), .val (.int (6 : Int32)), .val (.int (2 : Int32)), .val (.int y2)] [(.int ((6 : Int32) + (2 : Int32))), (.ref a0), (.int (2 : Int32)), (.ref a0)])
  refine ogoE (g' := (mkF m 23 #[.val (.ref a0), .val (.int (0 : Int32)), .val (.int (6 : Int32)), .val (.int (2 : Int32)), .val (.int y2)] [(.int (8 : Int32)), (.ref a0), (.int (2 : Int32)), (.ref a0)])) (by rw [show ((6 : Int32) + (2 : Int32)) = (8 : Int32) from by decide]) ?_
  obtain ⟨cl_o18, Ar_o18, q_o18, S_o18, N_o18, H_o18, G_o18⟩ := id V_15
  have hin_o18 : ¬ ((8 : Int32) < 0 ∨ cl_o18.slots.size ≤ ((8 : Int32)).toNatClampNeg) := inb_of S_o18 ⟨by decide, by decide⟩
  have hat_o18 : cl_o18.slots[((8 : Int32)).toNatClampNeg]? = some (.int y8) := H_o18.at hin_o18 rfl
  refine ogo (fun _ z_ => X15.iaload hx (j := (8 : Int32)) (v := (.int y8)) (by rw [eT15]; exact Ar_o18.1) (State.isArrayOf_alike hZ.alike Ar_o18.2.1) Ar_o18.2.2 hin_o18 hat_o18 (g := (mkF m 23 #[.val (.ref a0), .val (.int (0 : Int32)), .val (.int (6 : Int32)), .val (.int (2 : Int32)), .val (.int y2)] [(.int (8 : Int32)), (.ref a0), (.int (2 : Int32)), (.ref a0)])) rfl rfl (hb hby d2_23) _ z_) ?_
  show OWay p e below G T15 (mkF m 24 #[.val (.ref a0), .val (.int (0 : Int32)), .val (.int (6 : Int32)), .val (.int (2 : Int32)), .val (.int y2)] [(.int y8), (.int (2 : Int32)), (.ref a0)])
  obtain ⟨cl_o19, Ar_o19, q_o19, S_o19, N_o19, H_o19, G_o19⟩ := id V_15
  have hin_o19 : ¬ ((2 : Int32) < 0 ∨ cl_o19.slots.size ≤ ((2 : Int32)).toNatClampNeg) := inb_of S_o19 ⟨by decide, by decide⟩
  obtain ⟨T20, h20, X20, eT20, W20, st20⟩ := stI X15 hx hZ eT15 Ar_o19 (j := (2 : Int32)) hin_o19 (g := (mkF m 24 #[.val (.ref a0), .val (.int (0 : Int32)), .val (.int (6 : Int32)), .val (.int (2 : Int32)), .val (.int y2)] [(.int y8), (.int (2 : Int32)), (.ref a0)])) rfl rfl (hb hby d2_24)
  have K21 : Keep h0 h20 [a0] := K16.wr W20 (Or.inl (List.mem_of_getElem? (i := 0) rfl))
  have V_20 : Arv Z h20 a0 kk .int (18 : Int32) [(.int y6), (.int y7), (.int y8), (.int y3), (.int y4), (.int y5), (.int y0), (.int y1), (.int y8), (.int y9), (.int y10), (.int y11), (.int y12), (.int y13), (.int y14), (.int y15), (.int y16), (.int y17)] (.int (0 : Int32)) := Arv.set Ar_o19 q_o19 S_o19 N_o19 H_o19 G_o19 rfl W20 2 rfl (Nat.le_of_ble_eq_true rfl)
  have N20 := Fr.snoc X20 N15 g_a0
  refine ogo st20 ?_
  show OWay p e below G T20 (mkF m 25 #[.val (.ref a0), .val (.int (0 : Int32)), .val (.int (6 : Int32)), .val (.int (2 : Int32)), .val (.int y2)] [])
  refine ogo (fun _ z_ => XS.aloadN X20.here hx rfl (hb hby d2_25) rfl rfl z_) ?_
  show OWay p e below G T20 (mkF m 26 #[.val (.ref a0), .val (.int (0 : Int32)), .val (.int (6 : Int32)), .val (.int (2 : Int32)), .val (.int y2)] [(.ref a0)])
  refine ogo (fun _ z_ => XS.iloadN X20.here hx rfl (hb hby d2_26) rfl z_) ?_
  show OWay p e below G T20 (mkF m 27 #[.val (.ref a0), .val (.int (0 : Int32)), .val (.int (6 : Int32)), .val (.int (2 : Int32)), .val (.int y2)] [(.int (6 : Int32)), (.ref a0)])
  refine ogo (fun _ z_ => XS.iloadN X20.here hx rfl (hb hby d2_27) rfl z_) ?_
  show OWay p e below G T20 (mkF m 28 #[.val (.ref a0), .val (.int (0 : Int32)), .val (.int (6 : Int32)), .val (.int (2 : Int32)), .val (.int y2)] [(.int (2 : Int32)), (.int (6 : Int32)), (.ref a0)])
  refine ogo (fun _ z_ => XS.iadd X20.here hx rfl (hb hby d2_28) rfl z_) ?_
  show OWay p e below G T20 (mkF m 29 #[.val (.ref a0), .val (.int (0 : Int32)), .val (.int (6 : Int32)), .val (.int (2 : Int32)), .val (.int y2)] [(.int ((6 : Int32) + (2 : Int32))), (.ref a0)])
  refine ogoE (g' := (mkF m 29 #[.val (.ref a0), .val (.int (0 : Int32)), .val (.int (6 : Int32)), .val (.int (2 : Int32)), .val (.int y2)] [(.int (8 : Int32)), (.ref a0)])) (by rw [show ((6 : Int32) + (2 : Int32)) = (8 : Int32) from by decide]) ?_
  refine ogo (fun _ z_ => XS.iload X20.here hx rfl (hb hby d2_29) rfl z_) ?_
  show OWay p e below G T20 (mkF m 31 #[.val (.ref a0), .val (.int (0 : Int32)), .val (.int (6 : Int32)), .val (.int (2 : Int32)), .val (.int y2)] [(.int y2), (.int (8 : Int32)), (.ref a0)])
  obtain ⟨cl_o22, Ar_o22, q_o22, S_o22, N_o22, H_o22, G_o22⟩ := id V_20
  have hin_o22 : ¬ ((8 : Int32) < 0 ∨ cl_o22.slots.size ≤ ((8 : Int32)).toNatClampNeg) := inb_of S_o22 ⟨by decide, by decide⟩
  obtain ⟨T23, h23, X23, eT23, W23, st23⟩ := stI X20 hx hZ eT20 Ar_o22 (j := (8 : Int32)) hin_o22 (g := (mkF m 31 #[.val (.ref a0), .val (.int (0 : Int32)), .val (.int (6 : Int32)), .val (.int (2 : Int32)), .val (.int y2)] [(.int y2), (.int (8 : Int32)), (.ref a0)])) rfl rfl (hb hby d2_31)
  have K24 : Keep h0 h23 [a0] := K21.wr W23 (Or.inl (List.mem_of_getElem? (i := 0) rfl))
  have V_23 : Arv Z h23 a0 kk .int (18 : Int32) [(.int y6), (.int y7), (.int y8), (.int y3), (.int y4), (.int y5), (.int y0), (.int y1), (.int y2), (.int y9), (.int y10), (.int y11), (.int y12), (.int y13), (.int y14), (.int y15), (.int y16), (.int y17)] (.int (0 : Int32)) := Arv.set Ar_o22 q_o22 S_o22 N_o22 H_o22 G_o22 rfl W23 8 rfl (Nat.le_of_ble_eq_true rfl)
  have N23 := Fr.snoc X23 N20 g_a0
  refine ogo st23 ?_
  show OWay p e below G T23 (mkF m 32 #[.val (.ref a0), .val (.int (0 : Int32)), .val (.int (6 : Int32)), .val (.int (2 : Int32)), .val (.int y2)] [])
  refine ogo (fun _ z_ => XS.iinc X23.here hx rfl (hb hby d2_32) rfl (l' := #[.val (.ref a0), .val (.int (0 : Int32)), .val (.int (6 : Int32)), .val (.int ((2 : Int32) + (1 : Int32))), .val (.int y2)]) rfl z_) ?_
  show OWay p e below G T23 (mkF m 35 #[.val (.ref a0), .val (.int (0 : Int32)), .val (.int (6 : Int32)), .val (.int ((2 : Int32) + (1 : Int32))), .val (.int y2)] [])
  refine ogoE (g' := (mkF m 35 #[.val (.ref a0), .val (.int (0 : Int32)), .val (.int (6 : Int32)), .val (.int (3 : Int32)), .val (.int y2)] [])) (by rw [show ((2 : Int32) + (1 : Int32)) = (3 : Int32) from by decide]) ?_
  refine ogo (fun _ z_ => XS.goto X23.here hx rfl (pc0 := 35) (pc' := 2) rfl (hb hby d2_35) (by decide) (by decide) z_) ?_
  show OWay p e below G T23 (mkF m 2 #[.val (.ref a0), .val (.int (0 : Int32)), .val (.int (6 : Int32)), .val (.int (3 : Int32)), .val (.int y2)] [])
  refine ogo (fun _ z_ => XS.iloadN X23.here hx rfl (hb hby d2_2) rfl z_) ?_
  show OWay p e below G T23 (mkF m 3 #[.val (.ref a0), .val (.int (0 : Int32)), .val (.int (6 : Int32)), .val (.int (3 : Int32)), .val (.int y2)] [(.int (3 : Int32))])
  refine ogo (fun _ z_ => XS.bipush X23.here hx rfl (hb hby d2_3) z_) ?_
  show OWay p e below G T23 (mkF m 5 #[.val (.ref a0), .val (.int (0 : Int32)), .val (.int (6 : Int32)), .val (.int (3 : Int32)), .val (.int y2)] [(.int (6 : Int32)), (.int (3 : Int32))])
  refine ogo (fun _ z_ => XS.icmpNo X23.here hx rfl (hb hby d2_5) rfl (tlt (by decide)).2.1 z_) ?_
  show OWay p e below G T23 (mkF m 8 #[.val (.ref a0), .val (.int (0 : Int32)), .val (.int (6 : Int32)), .val (.int (3 : Int32)), .val (.int y2)] [])
  refine ogo (fun _ z_ => XS.aloadN X23.here hx rfl (hb hby d2_8) rfl rfl z_) ?_
  show OWay p e below G T23 (mkF m 9 #[.val (.ref a0), .val (.int (0 : Int32)), .val (.int (6 : Int32)), .val (.int (3 : Int32)), .val (.int y2)] [(.ref a0)])
  refine ogo (fun _ z_ => XS.iloadN X23.here hx rfl (hb hby d2_9) rfl z_) ?_
  show OWay p e below G T23 (mkF m 10 #[.val (.ref a0), .val (.int (0 : Int32)), .val (.int (6 : Int32)), .val (.int (3 : Int32)), .val (.int y2)] [(.int (0 : Int32)), (.ref a0)])
  refine ogo (fun _ z_ => XS.iloadN X23.here hx rfl (hb hby d2_10) rfl z_) ?_
  show OWay p e below G T23 (mkF m 11 #[.val (.ref a0), .val (.int (0 : Int32)), .val (.int (6 : Int32)), .val (.int (3 : Int32)), .val (.int y2)] [(.int (3 : Int32)), (.int (0 : Int32)), (.ref a0)])
  refine ogo (fun _ z_ => XS.iadd X23.here hx rfl (hb hby d2_11) rfl z_) ?_
  show OWay p e below G T23 (mkF m 12 #[.val (.ref a0), .val (.int (0 : Int32)), .val (.int (6 : Int32)), .val (.int (3 : Int32)), .val (.int y2)] [(.int ((0 : Int32) + (3 : Int32))), (.ref a0)])
  refine ogoE (g' := (mkF m 12 #[.val (.ref a0), .val (.int (0 : Int32)), .val (.int (6 : Int32)), .val (.int (3 : Int32)), .val (.int y2)] [(.int (3 : Int32)), (.ref a0)])) (by rw [show ((0 : Int32) + (3 : Int32)) = (3 : Int32) from by decide]) ?_
  obtain ⟨cl_o25, Ar_o25, q_o25, S_o25, N_o25, H_o25, G_o25⟩ := id V_23
  have hin_o25 : ¬ ((3 : Int32) < 0 ∨ cl_o25.slots.size ≤ ((3 : Int32)).toNatClampNeg) := inb_of S_o25 ⟨by decide, by decide⟩
  have hat_o25 : cl_o25.slots[((3 : Int32)).toNatClampNeg]? = some (.int y3) := H_o25.at hin_o25 rfl
  refine ogo (fun _ z_ => X23.iaload hx (j := (3 : Int32)) (v := (.int y3)) (by rw [eT23]; exact Ar_o25.1) (State.isArrayOf_alike hZ.alike Ar_o25.2.1) Ar_o25.2.2 hin_o25 hat_o25 (g := (mkF m 12 #[.val (.ref a0), .val (.int (0 : Int32)), .val (.int (6 : Int32)), .val (.int (3 : Int32)), .val (.int y2)] [(.int (3 : Int32)), (.ref a0)])) rfl rfl (hb hby d2_12) _ z_) ?_
  show OWay p e below G T23 (mkF m 13 #[.val (.ref a0), .val (.int (0 : Int32)), .val (.int (6 : Int32)), .val (.int (3 : Int32)), .val (.int y2)] [(.int y3)])
  refine ogo (fun _ z_ => XS.istore X23.here hx rfl (hb hby d2_13) rfl (l' := #[.val (.ref a0), .val (.int (0 : Int32)), .val (.int (6 : Int32)), .val (.int (3 : Int32)), .val (.int y3)]) rfl z_) ?_
  show OWay p e below G T23 (mkF m 15 #[.val (.ref a0), .val (.int (0 : Int32)), .val (.int (6 : Int32)), .val (.int (3 : Int32)), .val (.int y3)] [])
  refine ogo (fun _ z_ => XS.aloadN X23.here hx rfl (hb hby d2_15) rfl rfl z_) ?_
  show OWay p e below G T23 (mkF m 16 #[.val (.ref a0), .val (.int (0 : Int32)), .val (.int (6 : Int32)), .val (.int (3 : Int32)), .val (.int y3)] [(.ref a0)])
  refine ogo (fun _ z_ => XS.iloadN X23.here hx rfl (hb hby d2_16) rfl z_) ?_
  show OWay p e below G T23 (mkF m 17 #[.val (.ref a0), .val (.int (0 : Int32)), .val (.int (6 : Int32)), .val (.int (3 : Int32)), .val (.int y3)] [(.int (0 : Int32)), (.ref a0)])
  refine ogo (fun _ z_ => XS.iloadN X23.here hx rfl (hb hby d2_17) rfl z_) ?_
  show OWay p e below G T23 (mkF m 18 #[.val (.ref a0), .val (.int (0 : Int32)), .val (.int (6 : Int32)), .val (.int (3 : Int32)), .val (.int y3)] [(.int (3 : Int32)), (.int (0 : Int32)), (.ref a0)])
  refine ogo (fun _ z_ => XS.iadd X23.here hx rfl (hb hby d2_18) rfl z_) ?_
  show OWay p e below G T23 (mkF m 19 #[.val (.ref a0), .val (.int (0 : Int32)), .val (.int (6 : Int32)), .val (.int (3 : Int32)), .val (.int y3)] [(.int ((0 : Int32) + (3 : Int32))), (.ref a0)])
  refine ogoE (g' := (mkF m 19 #[.val (.ref a0), .val (.int (0 : Int32)), .val (.int (6 : Int32)), .val (.int (3 : Int32)), .val (.int y3)] [(.int (3 : Int32)), (.ref a0)])) (by rw [show ((0 : Int32) + (3 : Int32)) = (3 : Int32) from by decide]) ?_
  refine ogo (fun _ z_ => XS.aloadN X23.here hx rfl (hb hby d2_19) rfl rfl z_) ?_
  show OWay p e below G T23 (mkF m 20 #[.val (.ref a0), .val (.int (0 : Int32)), .val (.int (6 : Int32)), .val (.int (3 : Int32)), .val (.int y3)] [(.ref a0), (.int (3 : Int32)), (.ref a0)])
  refine ogo (fun _ z_ => XS.iloadN X23.here hx rfl (hb hby d2_20) rfl z_) ?_
  show OWay p e below G T23 (mkF m 21 #[.val (.ref a0), .val (.int (0 : Int32)), .val (.int (6 : Int32)), .val (.int (3 : Int32)), .val (.int y3)] [(.int (6 : Int32)), (.ref a0), (.int (3 : Int32)), (.ref a0)])
  refine ogo (fun _ z_ => XS.iloadN X23.here hx rfl (hb hby d2_21) rfl z_) ?_
  show OWay p e below G T23 (mkF m 22 #[.val (.ref a0), .val (.int (0 : Int32)), .val (.int (6 : Int32)), .val (.int (3 : Int32)), .val (.int y3)] [(.int (3 : Int32)), (.int (6 : Int32)), (.ref a0), (.int (3 : Int32)), (.ref a0)])
  refine ogo (fun _ z_ => XS.iadd X23.here hx rfl (hb hby d2_22) rfl z_) ?_
  show OWay p e below G T23 (mkF m 23 #[.val (.ref a0), .val (.int (0 : Int32)), .val (.int (6 : Int32)), .val (.int (3 : Int32)), .val (.int y3)] [(.int ((6 : Int32) + (3 : Int32))), (.ref a0), (.int (3 : Int32)), (.ref a0)])
  refine ogoE (g' := (mkF m 23 #[.val (.ref a0), .val (.int (0 : Int32)), .val (.int (6 : Int32)), .val (.int (3 : Int32)), .val (.int y3)] [(.int (9 : Int32)), (.ref a0), (.int (3 : Int32)), (.ref a0)])) (by rw [show ((6 : Int32) + (3 : Int32)) = (9 : Int32) from by decide]) ?_
  obtain ⟨cl_o26, Ar_o26, q_o26, S_o26, N_o26, H_o26, G_o26⟩ := id V_23
  have hin_o26 : ¬ ((9 : Int32) < 0 ∨ cl_o26.slots.size ≤ ((9 : Int32)).toNatClampNeg) := inb_of S_o26 ⟨by decide, by decide⟩
  have hat_o26 : cl_o26.slots[((9 : Int32)).toNatClampNeg]? = some (.int y9) := H_o26.at hin_o26 rfl
  refine ogo (fun _ z_ => X23.iaload hx (j := (9 : Int32)) (v := (.int y9)) (by rw [eT23]; exact Ar_o26.1) (State.isArrayOf_alike hZ.alike Ar_o26.2.1) Ar_o26.2.2 hin_o26 hat_o26 (g := (mkF m 23 #[.val (.ref a0), .val (.int (0 : Int32)), .val (.int (6 : Int32)), .val (.int (3 : Int32)), .val (.int y3)] [(.int (9 : Int32)), (.ref a0), (.int (3 : Int32)), (.ref a0)])) rfl rfl (hb hby d2_23) _ z_) ?_
  show OWay p e below G T23 (mkF m 24 #[.val (.ref a0), .val (.int (0 : Int32)), .val (.int (6 : Int32)), .val (.int (3 : Int32)), .val (.int y3)] [(.int y9), (.int (3 : Int32)), (.ref a0)])
  obtain ⟨cl_o27, Ar_o27, q_o27, S_o27, N_o27, H_o27, G_o27⟩ := id V_23
  have hin_o27 : ¬ ((3 : Int32) < 0 ∨ cl_o27.slots.size ≤ ((3 : Int32)).toNatClampNeg) := inb_of S_o27 ⟨by decide, by decide⟩
  obtain ⟨T28, h28, X28, eT28, W28, st28⟩ := stI X23 hx hZ eT23 Ar_o27 (j := (3 : Int32)) hin_o27 (g := (mkF m 24 #[.val (.ref a0), .val (.int (0 : Int32)), .val (.int (6 : Int32)), .val (.int (3 : Int32)), .val (.int y3)] [(.int y9), (.int (3 : Int32)), (.ref a0)])) rfl rfl (hb hby d2_24)
  have K29 : Keep h0 h28 [a0] := K24.wr W28 (Or.inl (List.mem_of_getElem? (i := 0) rfl))
  have V_28 : Arv Z h28 a0 kk .int (18 : Int32) [(.int y6), (.int y7), (.int y8), (.int y9), (.int y4), (.int y5), (.int y0), (.int y1), (.int y2), (.int y9), (.int y10), (.int y11), (.int y12), (.int y13), (.int y14), (.int y15), (.int y16), (.int y17)] (.int (0 : Int32)) := Arv.set Ar_o27 q_o27 S_o27 N_o27 H_o27 G_o27 rfl W28 3 rfl (Nat.le_of_ble_eq_true rfl)
  have N28 := Fr.snoc X28 N23 g_a0
  refine ogo st28 ?_
  show OWay p e below G T28 (mkF m 25 #[.val (.ref a0), .val (.int (0 : Int32)), .val (.int (6 : Int32)), .val (.int (3 : Int32)), .val (.int y3)] [])
  refine ogo (fun _ z_ => XS.aloadN X28.here hx rfl (hb hby d2_25) rfl rfl z_) ?_
  show OWay p e below G T28 (mkF m 26 #[.val (.ref a0), .val (.int (0 : Int32)), .val (.int (6 : Int32)), .val (.int (3 : Int32)), .val (.int y3)] [(.ref a0)])
  refine ogo (fun _ z_ => XS.iloadN X28.here hx rfl (hb hby d2_26) rfl z_) ?_
  show OWay p e below G T28 (mkF m 27 #[.val (.ref a0), .val (.int (0 : Int32)), .val (.int (6 : Int32)), .val (.int (3 : Int32)), .val (.int y3)] [(.int (6 : Int32)), (.ref a0)])
  refine ogo (fun _ z_ => XS.iloadN X28.here hx rfl (hb hby d2_27) rfl z_) ?_
  show OWay p e below G T28 (mkF m 28 #[.val (.ref a0), .val (.int (0 : Int32)), .val (.int (6 : Int32)), .val (.int (3 : Int32)), .val (.int y3)] [(.int (3 : Int32)), (.int (6 : Int32)), (.ref a0)])
  refine ogo (fun _ z_ => XS.iadd X28.here hx rfl (hb hby d2_28) rfl z_) ?_
  show OWay p e below G T28 (mkF m 29 #[.val (.ref a0), .val (.int (0 : Int32)), .val (.int (6 : Int32)), .val (.int (3 : Int32)), .val (.int y3)] [(.int ((6 : Int32) + (3 : Int32))), (.ref a0)])
  refine ogoE (g' := (mkF m 29 #[.val (.ref a0), .val (.int (0 : Int32)), .val (.int (6 : Int32)), .val (.int (3 : Int32)), .val (.int y3)] [(.int (9 : Int32)), (.ref a0)])) (by rw [show ((6 : Int32) + (3 : Int32)) = (9 : Int32) from by decide]) ?_
  refine ogo (fun _ z_ => XS.iload X28.here hx rfl (hb hby d2_29) rfl z_) ?_
  show OWay p e below G T28 (mkF m 31 #[.val (.ref a0), .val (.int (0 : Int32)), .val (.int (6 : Int32)), .val (.int (3 : Int32)), .val (.int y3)] [(.int y3), (.int (9 : Int32)), (.ref a0)])
  obtain ⟨cl_o30, Ar_o30, q_o30, S_o30, N_o30, H_o30, G_o30⟩ := id V_28
  have hin_o30 : ¬ ((9 : Int32) < 0 ∨ cl_o30.slots.size ≤ ((9 : Int32)).toNatClampNeg) := inb_of S_o30 ⟨by decide, by decide⟩
  obtain ⟨T31, h31, X31, eT31, W31, st31⟩ := stI X28 hx hZ eT28 Ar_o30 (j := (9 : Int32)) hin_o30 (g := (mkF m 31 #[.val (.ref a0), .val (.int (0 : Int32)), .val (.int (6 : Int32)), .val (.int (3 : Int32)), .val (.int y3)] [(.int y3), (.int (9 : Int32)), (.ref a0)])) rfl rfl (hb hby d2_31)
  have K32 : Keep h0 h31 [a0] := K29.wr W31 (Or.inl (List.mem_of_getElem? (i := 0) rfl))
  have V_31 : Arv Z h31 a0 kk .int (18 : Int32) [(.int y6), (.int y7), (.int y8), (.int y9), (.int y4), (.int y5), (.int y0), (.int y1), (.int y2), (.int y3), (.int y10), (.int y11), (.int y12), (.int y13), (.int y14), (.int y15), (.int y16), (.int y17)] (.int (0 : Int32)) := Arv.set Ar_o30 q_o30 S_o30 N_o30 H_o30 G_o30 rfl W31 9 rfl (Nat.le_of_ble_eq_true rfl)
  have N31 := Fr.snoc X31 N28 g_a0
  refine ogo st31 ?_
  show OWay p e below G T31 (mkF m 32 #[.val (.ref a0), .val (.int (0 : Int32)), .val (.int (6 : Int32)), .val (.int (3 : Int32)), .val (.int y3)] [])
  refine ogo (fun _ z_ => XS.iinc X31.here hx rfl (hb hby d2_32) rfl (l' := #[.val (.ref a0), .val (.int (0 : Int32)), .val (.int (6 : Int32)), .val (.int ((3 : Int32) + (1 : Int32))), .val (.int y3)]) rfl z_) ?_
  show OWay p e below G T31 (mkF m 35 #[.val (.ref a0), .val (.int (0 : Int32)), .val (.int (6 : Int32)), .val (.int ((3 : Int32) + (1 : Int32))), .val (.int y3)] [])
  refine ogoE (g' := (mkF m 35 #[.val (.ref a0), .val (.int (0 : Int32)), .val (.int (6 : Int32)), .val (.int (4 : Int32)), .val (.int y3)] [])) (by rw [show ((3 : Int32) + (1 : Int32)) = (4 : Int32) from by decide]) ?_
  refine ogo (fun _ z_ => XS.goto X31.here hx rfl (pc0 := 35) (pc' := 2) rfl (hb hby d2_35) (by decide) (by decide) z_) ?_
  show OWay p e below G T31 (mkF m 2 #[.val (.ref a0), .val (.int (0 : Int32)), .val (.int (6 : Int32)), .val (.int (4 : Int32)), .val (.int y3)] [])
  refine ogo (fun _ z_ => XS.iloadN X31.here hx rfl (hb hby d2_2) rfl z_) ?_
  show OWay p e below G T31 (mkF m 3 #[.val (.ref a0), .val (.int (0 : Int32)), .val (.int (6 : Int32)), .val (.int (4 : Int32)), .val (.int y3)] [(.int (4 : Int32))])
  refine ogo (fun _ z_ => XS.bipush X31.here hx rfl (hb hby d2_3) z_) ?_
  show OWay p e below G T31 (mkF m 5 #[.val (.ref a0), .val (.int (0 : Int32)), .val (.int (6 : Int32)), .val (.int (4 : Int32)), .val (.int y3)] [(.int (6 : Int32)), (.int (4 : Int32))])
  refine ogo (fun _ z_ => XS.icmpNo X31.here hx rfl (hb hby d2_5) rfl (tlt (by decide)).2.1 z_) ?_
  show OWay p e below G T31 (mkF m 8 #[.val (.ref a0), .val (.int (0 : Int32)), .val (.int (6 : Int32)), .val (.int (4 : Int32)), .val (.int y3)] [])
  refine ogo (fun _ z_ => XS.aloadN X31.here hx rfl (hb hby d2_8) rfl rfl z_) ?_
  show OWay p e below G T31 (mkF m 9 #[.val (.ref a0), .val (.int (0 : Int32)), .val (.int (6 : Int32)), .val (.int (4 : Int32)), .val (.int y3)] [(.ref a0)])
  refine ogo (fun _ z_ => XS.iloadN X31.here hx rfl (hb hby d2_9) rfl z_) ?_
  show OWay p e below G T31 (mkF m 10 #[.val (.ref a0), .val (.int (0 : Int32)), .val (.int (6 : Int32)), .val (.int (4 : Int32)), .val (.int y3)] [(.int (0 : Int32)), (.ref a0)])
  refine ogo (fun _ z_ => XS.iloadN X31.here hx rfl (hb hby d2_10) rfl z_) ?_
  show OWay p e below G T31 (mkF m 11 #[.val (.ref a0), .val (.int (0 : Int32)), .val (.int (6 : Int32)), .val (.int (4 : Int32)), .val (.int y3)] [(.int (4 : Int32)), (.int (0 : Int32)), (.ref a0)])
  refine ogo (fun _ z_ => XS.iadd X31.here hx rfl (hb hby d2_11) rfl z_) ?_
  show OWay p e below G T31 (mkF m 12 #[.val (.ref a0), .val (.int (0 : Int32)), .val (.int (6 : Int32)), .val (.int (4 : Int32)), .val (.int y3)] [(.int ((0 : Int32) + (4 : Int32))), (.ref a0)])
  refine ogoE (g' := (mkF m 12 #[.val (.ref a0), .val (.int (0 : Int32)), .val (.int (6 : Int32)), .val (.int (4 : Int32)), .val (.int y3)] [(.int (4 : Int32)), (.ref a0)])) (by rw [show ((0 : Int32) + (4 : Int32)) = (4 : Int32) from by decide]) ?_
  obtain ⟨cl_o33, Ar_o33, q_o33, S_o33, N_o33, H_o33, G_o33⟩ := id V_31
  have hin_o33 : ¬ ((4 : Int32) < 0 ∨ cl_o33.slots.size ≤ ((4 : Int32)).toNatClampNeg) := inb_of S_o33 ⟨by decide, by decide⟩
  have hat_o33 : cl_o33.slots[((4 : Int32)).toNatClampNeg]? = some (.int y4) := H_o33.at hin_o33 rfl
  refine ogo (fun _ z_ => X31.iaload hx (j := (4 : Int32)) (v := (.int y4)) (by rw [eT31]; exact Ar_o33.1) (State.isArrayOf_alike hZ.alike Ar_o33.2.1) Ar_o33.2.2 hin_o33 hat_o33 (g := (mkF m 12 #[.val (.ref a0), .val (.int (0 : Int32)), .val (.int (6 : Int32)), .val (.int (4 : Int32)), .val (.int y3)] [(.int (4 : Int32)), (.ref a0)])) rfl rfl (hb hby d2_12) _ z_) ?_
  show OWay p e below G T31 (mkF m 13 #[.val (.ref a0), .val (.int (0 : Int32)), .val (.int (6 : Int32)), .val (.int (4 : Int32)), .val (.int y3)] [(.int y4)])
  refine ogo (fun _ z_ => XS.istore X31.here hx rfl (hb hby d2_13) rfl (l' := #[.val (.ref a0), .val (.int (0 : Int32)), .val (.int (6 : Int32)), .val (.int (4 : Int32)), .val (.int y4)]) rfl z_) ?_
  show OWay p e below G T31 (mkF m 15 #[.val (.ref a0), .val (.int (0 : Int32)), .val (.int (6 : Int32)), .val (.int (4 : Int32)), .val (.int y4)] [])
  refine ogo (fun _ z_ => XS.aloadN X31.here hx rfl (hb hby d2_15) rfl rfl z_) ?_
  show OWay p e below G T31 (mkF m 16 #[.val (.ref a0), .val (.int (0 : Int32)), .val (.int (6 : Int32)), .val (.int (4 : Int32)), .val (.int y4)] [(.ref a0)])
  refine ogo (fun _ z_ => XS.iloadN X31.here hx rfl (hb hby d2_16) rfl z_) ?_
  show OWay p e below G T31 (mkF m 17 #[.val (.ref a0), .val (.int (0 : Int32)), .val (.int (6 : Int32)), .val (.int (4 : Int32)), .val (.int y4)] [(.int (0 : Int32)), (.ref a0)])
  refine ogo (fun _ z_ => XS.iloadN X31.here hx rfl (hb hby d2_17) rfl z_) ?_
  show OWay p e below G T31 (mkF m 18 #[.val (.ref a0), .val (.int (0 : Int32)), .val (.int (6 : Int32)), .val (.int (4 : Int32)), .val (.int y4)] [(.int (4 : Int32)), (.int (0 : Int32)), (.ref a0)])
  refine ogo (fun _ z_ => XS.iadd X31.here hx rfl (hb hby d2_18) rfl z_) ?_
  show OWay p e below G T31 (mkF m 19 #[.val (.ref a0), .val (.int (0 : Int32)), .val (.int (6 : Int32)), .val (.int (4 : Int32)), .val (.int y4)] [(.int ((0 : Int32) + (4 : Int32))), (.ref a0)])
  refine ogoE (g' := (mkF m 19 #[.val (.ref a0), .val (.int (0 : Int32)), .val (.int (6 : Int32)), .val (.int (4 : Int32)), .val (.int y4)] [(.int (4 : Int32)), (.ref a0)])) (by rw [show ((0 : Int32) + (4 : Int32)) = (4 : Int32) from by decide]) ?_
  refine ogo (fun _ z_ => XS.aloadN X31.here hx rfl (hb hby d2_19) rfl rfl z_) ?_
  show OWay p e below G T31 (mkF m 20 #[.val (.ref a0), .val (.int (0 : Int32)), .val (.int (6 : Int32)), .val (.int (4 : Int32)), .val (.int y4)] [(.ref a0), (.int (4 : Int32)), (.ref a0)])
  refine ogo (fun _ z_ => XS.iloadN X31.here hx rfl (hb hby d2_20) rfl z_) ?_
  show OWay p e below G T31 (mkF m 21 #[.val (.ref a0), .val (.int (0 : Int32)), .val (.int (6 : Int32)), .val (.int (4 : Int32)), .val (.int y4)] [(.int (6 : Int32)), (.ref a0), (.int (4 : Int32)), (.ref a0)])
  refine ogo (fun _ z_ => XS.iloadN X31.here hx rfl (hb hby d2_21) rfl z_) ?_
  show OWay p e below G T31 (mkF m 22 #[.val (.ref a0), .val (.int (0 : Int32)), .val (.int (6 : Int32)), .val (.int (4 : Int32)), .val (.int y4)] [(.int (4 : Int32)), (.int (6 : Int32)), (.ref a0), (.int (4 : Int32)), (.ref a0)])
  refine ogo (fun _ z_ => XS.iadd X31.here hx rfl (hb hby d2_22) rfl z_) ?_
  show OWay p e below G T31 (mkF m 23 #[.val (.ref a0), .val (.int (0 : Int32)), .val (.int (6 : Int32)), .val (.int (4 : Int32)), .val (.int y4)] [(.int ((6 : Int32) + (4 : Int32))), (.ref a0), (.int (4 : Int32)), (.ref a0)])
  refine ogoE (g' := (mkF m 23 #[.val (.ref a0), .val (.int (0 : Int32)), .val (.int (6 : Int32)), .val (.int (4 : Int32)), .val (.int y4)] [(.int (10 : Int32)), (.ref a0), (.int (4 : Int32)), (.ref a0)])) (by rw [show ((6 : Int32) + (4 : Int32)) = (10 : Int32) from by decide]) ?_
  obtain ⟨cl_o34, Ar_o34, q_o34, S_o34, N_o34, H_o34, G_o34⟩ := id V_31
  have hin_o34 : ¬ ((10 : Int32) < 0 ∨ cl_o34.slots.size ≤ ((10 : Int32)).toNatClampNeg) := inb_of S_o34 ⟨by decide, by decide⟩
  have hat_o34 : cl_o34.slots[((10 : Int32)).toNatClampNeg]? = some (.int y10) := H_o34.at hin_o34 rfl
  refine ogo (fun _ z_ => X31.iaload hx (j := (10 : Int32)) (v := (.int y10)) (by rw [eT31]; exact Ar_o34.1) (State.isArrayOf_alike hZ.alike Ar_o34.2.1) Ar_o34.2.2 hin_o34 hat_o34 (g := (mkF m 23 #[.val (.ref a0), .val (.int (0 : Int32)), .val (.int (6 : Int32)), .val (.int (4 : Int32)), .val (.int y4)] [(.int (10 : Int32)), (.ref a0), (.int (4 : Int32)), (.ref a0)])) rfl rfl (hb hby d2_23) _ z_) ?_
  show OWay p e below G T31 (mkF m 24 #[.val (.ref a0), .val (.int (0 : Int32)), .val (.int (6 : Int32)), .val (.int (4 : Int32)), .val (.int y4)] [(.int y10), (.int (4 : Int32)), (.ref a0)])
  obtain ⟨cl_o35, Ar_o35, q_o35, S_o35, N_o35, H_o35, G_o35⟩ := id V_31
  have hin_o35 : ¬ ((4 : Int32) < 0 ∨ cl_o35.slots.size ≤ ((4 : Int32)).toNatClampNeg) := inb_of S_o35 ⟨by decide, by decide⟩
  obtain ⟨T36, h36, X36, eT36, W36, st36⟩ := stI X31 hx hZ eT31 Ar_o35 (j := (4 : Int32)) hin_o35 (g := (mkF m 24 #[.val (.ref a0), .val (.int (0 : Int32)), .val (.int (6 : Int32)), .val (.int (4 : Int32)), .val (.int y4)] [(.int y10), (.int (4 : Int32)), (.ref a0)])) rfl rfl (hb hby d2_24)
  have K37 : Keep h0 h36 [a0] := K32.wr W36 (Or.inl (List.mem_of_getElem? (i := 0) rfl))
  have V_36 : Arv Z h36 a0 kk .int (18 : Int32) [(.int y6), (.int y7), (.int y8), (.int y9), (.int y10), (.int y5), (.int y0), (.int y1), (.int y2), (.int y3), (.int y10), (.int y11), (.int y12), (.int y13), (.int y14), (.int y15), (.int y16), (.int y17)] (.int (0 : Int32)) := Arv.set Ar_o35 q_o35 S_o35 N_o35 H_o35 G_o35 rfl W36 4 rfl (Nat.le_of_ble_eq_true rfl)
  have N36 := Fr.snoc X36 N31 g_a0
  refine ogo st36 ?_
  show OWay p e below G T36 (mkF m 25 #[.val (.ref a0), .val (.int (0 : Int32)), .val (.int (6 : Int32)), .val (.int (4 : Int32)), .val (.int y4)] [])
  refine ogo (fun _ z_ => XS.aloadN X36.here hx rfl (hb hby d2_25) rfl rfl z_) ?_
  show OWay p e below G T36 (mkF m 26 #[.val (.ref a0), .val (.int (0 : Int32)), .val (.int (6 : Int32)), .val (.int (4 : Int32)), .val (.int y4)] [(.ref a0)])
  refine ogo (fun _ z_ => XS.iloadN X36.here hx rfl (hb hby d2_26) rfl z_) ?_
  show OWay p e below G T36 (mkF m 27 #[.val (.ref a0), .val (.int (0 : Int32)), .val (.int (6 : Int32)), .val (.int (4 : Int32)), .val (.int y4)] [(.int (6 : Int32)), (.ref a0)])
  refine ogo (fun _ z_ => XS.iloadN X36.here hx rfl (hb hby d2_27) rfl z_) ?_
  show OWay p e below G T36 (mkF m 28 #[.val (.ref a0), .val (.int (0 : Int32)), .val (.int (6 : Int32)), .val (.int (4 : Int32)), .val (.int y4)] [(.int (4 : Int32)), (.int (6 : Int32)), (.ref a0)])
  refine ogo (fun _ z_ => XS.iadd X36.here hx rfl (hb hby d2_28) rfl z_) ?_
  show OWay p e below G T36 (mkF m 29 #[.val (.ref a0), .val (.int (0 : Int32)), .val (.int (6 : Int32)), .val (.int (4 : Int32)), .val (.int y4)] [(.int ((6 : Int32) + (4 : Int32))), (.ref a0)])
  refine ogoE (g' := (mkF m 29 #[.val (.ref a0), .val (.int (0 : Int32)), .val (.int (6 : Int32)), .val (.int (4 : Int32)), .val (.int y4)] [(.int (10 : Int32)), (.ref a0)])) (by rw [show ((6 : Int32) + (4 : Int32)) = (10 : Int32) from by decide]) ?_
  refine ogo (fun _ z_ => XS.iload X36.here hx rfl (hb hby d2_29) rfl z_) ?_
  show OWay p e below G T36 (mkF m 31 #[.val (.ref a0), .val (.int (0 : Int32)), .val (.int (6 : Int32)), .val (.int (4 : Int32)), .val (.int y4)] [(.int y4), (.int (10 : Int32)), (.ref a0)])
  obtain ⟨cl_o38, Ar_o38, q_o38, S_o38, N_o38, H_o38, G_o38⟩ := id V_36
  have hin_o38 : ¬ ((10 : Int32) < 0 ∨ cl_o38.slots.size ≤ ((10 : Int32)).toNatClampNeg) := inb_of S_o38 ⟨by decide, by decide⟩
  obtain ⟨T39, h39, X39, eT39, W39, st39⟩ := stI X36 hx hZ eT36 Ar_o38 (j := (10 : Int32)) hin_o38 (g := (mkF m 31 #[.val (.ref a0), .val (.int (0 : Int32)), .val (.int (6 : Int32)), .val (.int (4 : Int32)), .val (.int y4)] [(.int y4), (.int (10 : Int32)), (.ref a0)])) rfl rfl (hb hby d2_31)
  have K40 : Keep h0 h39 [a0] := K37.wr W39 (Or.inl (List.mem_of_getElem? (i := 0) rfl))
  have V_39 : Arv Z h39 a0 kk .int (18 : Int32) [(.int y6), (.int y7), (.int y8), (.int y9), (.int y10), (.int y5), (.int y0), (.int y1), (.int y2), (.int y3), (.int y4), (.int y11), (.int y12), (.int y13), (.int y14), (.int y15), (.int y16), (.int y17)] (.int (0 : Int32)) := Arv.set Ar_o38 q_o38 S_o38 N_o38 H_o38 G_o38 rfl W39 10 rfl (Nat.le_of_ble_eq_true rfl)
  have N39 := Fr.snoc X39 N36 g_a0
  refine ogo st39 ?_
  show OWay p e below G T39 (mkF m 32 #[.val (.ref a0), .val (.int (0 : Int32)), .val (.int (6 : Int32)), .val (.int (4 : Int32)), .val (.int y4)] [])
  refine ogo (fun _ z_ => XS.iinc X39.here hx rfl (hb hby d2_32) rfl (l' := #[.val (.ref a0), .val (.int (0 : Int32)), .val (.int (6 : Int32)), .val (.int ((4 : Int32) + (1 : Int32))), .val (.int y4)]) rfl z_) ?_
  show OWay p e below G T39 (mkF m 35 #[.val (.ref a0), .val (.int (0 : Int32)), .val (.int (6 : Int32)), .val (.int ((4 : Int32) + (1 : Int32))), .val (.int y4)] [])
  refine ogoE (g' := (mkF m 35 #[.val (.ref a0), .val (.int (0 : Int32)), .val (.int (6 : Int32)), .val (.int (5 : Int32)), .val (.int y4)] [])) (by rw [show ((4 : Int32) + (1 : Int32)) = (5 : Int32) from by decide]) ?_
  refine ogo (fun _ z_ => XS.goto X39.here hx rfl (pc0 := 35) (pc' := 2) rfl (hb hby d2_35) (by decide) (by decide) z_) ?_
  show OWay p e below G T39 (mkF m 2 #[.val (.ref a0), .val (.int (0 : Int32)), .val (.int (6 : Int32)), .val (.int (5 : Int32)), .val (.int y4)] [])
  refine ogo (fun _ z_ => XS.iloadN X39.here hx rfl (hb hby d2_2) rfl z_) ?_
  show OWay p e below G T39 (mkF m 3 #[.val (.ref a0), .val (.int (0 : Int32)), .val (.int (6 : Int32)), .val (.int (5 : Int32)), .val (.int y4)] [(.int (5 : Int32))])
  refine ogo (fun _ z_ => XS.bipush X39.here hx rfl (hb hby d2_3) z_) ?_
  show OWay p e below G T39 (mkF m 5 #[.val (.ref a0), .val (.int (0 : Int32)), .val (.int (6 : Int32)), .val (.int (5 : Int32)), .val (.int y4)] [(.int (6 : Int32)), (.int (5 : Int32))])
  refine ogo (fun _ z_ => XS.icmpNo X39.here hx rfl (hb hby d2_5) rfl (tlt (by decide)).2.1 z_) ?_
  show OWay p e below G T39 (mkF m 8 #[.val (.ref a0), .val (.int (0 : Int32)), .val (.int (6 : Int32)), .val (.int (5 : Int32)), .val (.int y4)] [])
  refine ogo (fun _ z_ => XS.aloadN X39.here hx rfl (hb hby d2_8) rfl rfl z_) ?_
  show OWay p e below G T39 (mkF m 9 #[.val (.ref a0), .val (.int (0 : Int32)), .val (.int (6 : Int32)), .val (.int (5 : Int32)), .val (.int y4)] [(.ref a0)])
  refine ogo (fun _ z_ => XS.iloadN X39.here hx rfl (hb hby d2_9) rfl z_) ?_
  show OWay p e below G T39 (mkF m 10 #[.val (.ref a0), .val (.int (0 : Int32)), .val (.int (6 : Int32)), .val (.int (5 : Int32)), .val (.int y4)] [(.int (0 : Int32)), (.ref a0)])
  refine ogo (fun _ z_ => XS.iloadN X39.here hx rfl (hb hby d2_10) rfl z_) ?_
  show OWay p e below G T39 (mkF m 11 #[.val (.ref a0), .val (.int (0 : Int32)), .val (.int (6 : Int32)), .val (.int (5 : Int32)), .val (.int y4)] [(.int (5 : Int32)), (.int (0 : Int32)), (.ref a0)])
  refine ogo (fun _ z_ => XS.iadd X39.here hx rfl (hb hby d2_11) rfl z_) ?_
  show OWay p e below G T39 (mkF m 12 #[.val (.ref a0), .val (.int (0 : Int32)), .val (.int (6 : Int32)), .val (.int (5 : Int32)), .val (.int y4)] [(.int ((0 : Int32) + (5 : Int32))), (.ref a0)])
  refine ogoE (g' := (mkF m 12 #[.val (.ref a0), .val (.int (0 : Int32)), .val (.int (6 : Int32)), .val (.int (5 : Int32)), .val (.int y4)] [(.int (5 : Int32)), (.ref a0)])) (by rw [show ((0 : Int32) + (5 : Int32)) = (5 : Int32) from by decide]) ?_
  obtain ⟨cl_o41, Ar_o41, q_o41, S_o41, N_o41, H_o41, G_o41⟩ := id V_39
  have hin_o41 : ¬ ((5 : Int32) < 0 ∨ cl_o41.slots.size ≤ ((5 : Int32)).toNatClampNeg) := inb_of S_o41 ⟨by decide, by decide⟩
  have hat_o41 : cl_o41.slots[((5 : Int32)).toNatClampNeg]? = some (.int y5) := H_o41.at hin_o41 rfl
  refine ogo (fun _ z_ => X39.iaload hx (j := (5 : Int32)) (v := (.int y5)) (by rw [eT39]; exact Ar_o41.1) (State.isArrayOf_alike hZ.alike Ar_o41.2.1) Ar_o41.2.2 hin_o41 hat_o41 (g := (mkF m 12 #[.val (.ref a0), .val (.int (0 : Int32)), .val (.int (6 : Int32)), .val (.int (5 : Int32)), .val (.int y4)] [(.int (5 : Int32)), (.ref a0)])) rfl rfl (hb hby d2_12) _ z_) ?_
  show OWay p e below G T39 (mkF m 13 #[.val (.ref a0), .val (.int (0 : Int32)), .val (.int (6 : Int32)), .val (.int (5 : Int32)), .val (.int y4)] [(.int y5)])
  refine ogo (fun _ z_ => XS.istore X39.here hx rfl (hb hby d2_13) rfl (l' := #[.val (.ref a0), .val (.int (0 : Int32)), .val (.int (6 : Int32)), .val (.int (5 : Int32)), .val (.int y5)]) rfl z_) ?_
  show OWay p e below G T39 (mkF m 15 #[.val (.ref a0), .val (.int (0 : Int32)), .val (.int (6 : Int32)), .val (.int (5 : Int32)), .val (.int y5)] [])
  refine ogo (fun _ z_ => XS.aloadN X39.here hx rfl (hb hby d2_15) rfl rfl z_) ?_
  show OWay p e below G T39 (mkF m 16 #[.val (.ref a0), .val (.int (0 : Int32)), .val (.int (6 : Int32)), .val (.int (5 : Int32)), .val (.int y5)] [(.ref a0)])
  refine ogo (fun _ z_ => XS.iloadN X39.here hx rfl (hb hby d2_16) rfl z_) ?_
  show OWay p e below G T39 (mkF m 17 #[.val (.ref a0), .val (.int (0 : Int32)), .val (.int (6 : Int32)), .val (.int (5 : Int32)), .val (.int y5)] [(.int (0 : Int32)), (.ref a0)])
  refine ogo (fun _ z_ => XS.iloadN X39.here hx rfl (hb hby d2_17) rfl z_) ?_
  show OWay p e below G T39 (mkF m 18 #[.val (.ref a0), .val (.int (0 : Int32)), .val (.int (6 : Int32)), .val (.int (5 : Int32)), .val (.int y5)] [(.int (5 : Int32)), (.int (0 : Int32)), (.ref a0)])
  refine ogo (fun _ z_ => XS.iadd X39.here hx rfl (hb hby d2_18) rfl z_) ?_
  show OWay p e below G T39 (mkF m 19 #[.val (.ref a0), .val (.int (0 : Int32)), .val (.int (6 : Int32)), .val (.int (5 : Int32)), .val (.int y5)] [(.int ((0 : Int32) + (5 : Int32))), (.ref a0)])
  refine ogoE (g' := (mkF m 19 #[.val (.ref a0), .val (.int (0 : Int32)), .val (.int (6 : Int32)), .val (.int (5 : Int32)), .val (.int y5)] [(.int (5 : Int32)), (.ref a0)])) (by rw [show ((0 : Int32) + (5 : Int32)) = (5 : Int32) from by decide]) ?_
  refine ogo (fun _ z_ => XS.aloadN X39.here hx rfl (hb hby d2_19) rfl rfl z_) ?_
  show OWay p e below G T39 (mkF m 20 #[.val (.ref a0), .val (.int (0 : Int32)), .val (.int (6 : Int32)), .val (.int (5 : Int32)), .val (.int y5)] [(.ref a0), (.int (5 : Int32)), (.ref a0)])
  refine ogo (fun _ z_ => XS.iloadN X39.here hx rfl (hb hby d2_20) rfl z_) ?_
  show OWay p e below G T39 (mkF m 21 #[.val (.ref a0), .val (.int (0 : Int32)), .val (.int (6 : Int32)), .val (.int (5 : Int32)), .val (.int y5)] [(.int (6 : Int32)), (.ref a0), (.int (5 : Int32)), (.ref a0)])
  refine ogo (fun _ z_ => XS.iloadN X39.here hx rfl (hb hby d2_21) rfl z_) ?_
  show OWay p e below G T39 (mkF m 22 #[.val (.ref a0), .val (.int (0 : Int32)), .val (.int (6 : Int32)), .val (.int (5 : Int32)), .val (.int y5)] [(.int (5 : Int32)), (.int (6 : Int32)), (.ref a0), (.int (5 : Int32)), (.ref a0)])
  refine ogo (fun _ z_ => XS.iadd X39.here hx rfl (hb hby d2_22) rfl z_) ?_
  show OWay p e below G T39 (mkF m 23 #[.val (.ref a0), .val (.int (0 : Int32)), .val (.int (6 : Int32)), .val (.int (5 : Int32)), .val (.int y5)] [(.int ((6 : Int32) + (5 : Int32))), (.ref a0), (.int (5 : Int32)), (.ref a0)])
  refine ogoE (g' := (mkF m 23 #[.val (.ref a0), .val (.int (0 : Int32)), .val (.int (6 : Int32)), .val (.int (5 : Int32)), .val (.int y5)] [(.int (11 : Int32)), (.ref a0), (.int (5 : Int32)), (.ref a0)])) (by rw [show ((6 : Int32) + (5 : Int32)) = (11 : Int32) from by decide]) ?_
  obtain ⟨cl_o42, Ar_o42, q_o42, S_o42, N_o42, H_o42, G_o42⟩ := id V_39
  have hin_o42 : ¬ ((11 : Int32) < 0 ∨ cl_o42.slots.size ≤ ((11 : Int32)).toNatClampNeg) := inb_of S_o42 ⟨by decide, by decide⟩
  have hat_o42 : cl_o42.slots[((11 : Int32)).toNatClampNeg]? = some (.int y11) := H_o42.at hin_o42 rfl
  refine ogo (fun _ z_ => X39.iaload hx (j := (11 : Int32)) (v := (.int y11)) (by rw [eT39]; exact Ar_o42.1) (State.isArrayOf_alike hZ.alike Ar_o42.2.1) Ar_o42.2.2 hin_o42 hat_o42 (g := (mkF m 23 #[.val (.ref a0), .val (.int (0 : Int32)), .val (.int (6 : Int32)), .val (.int (5 : Int32)), .val (.int y5)] [(.int (11 : Int32)), (.ref a0), (.int (5 : Int32)), (.ref a0)])) rfl rfl (hb hby d2_23) _ z_) ?_
  show OWay p e below G T39 (mkF m 24 #[.val (.ref a0), .val (.int (0 : Int32)), .val (.int (6 : Int32)), .val (.int (5 : Int32)), .val (.int y5)] [(.int y11), (.int (5 : Int32)), (.ref a0)])
  obtain ⟨cl_o43, Ar_o43, q_o43, S_o43, N_o43, H_o43, G_o43⟩ := id V_39
  have hin_o43 : ¬ ((5 : Int32) < 0 ∨ cl_o43.slots.size ≤ ((5 : Int32)).toNatClampNeg) := inb_of S_o43 ⟨by decide, by decide⟩
  obtain ⟨T44, h44, X44, eT44, W44, st44⟩ := stI X39 hx hZ eT39 Ar_o43 (j := (5 : Int32)) hin_o43 (g := (mkF m 24 #[.val (.ref a0), .val (.int (0 : Int32)), .val (.int (6 : Int32)), .val (.int (5 : Int32)), .val (.int y5)] [(.int y11), (.int (5 : Int32)), (.ref a0)])) rfl rfl (hb hby d2_24)
  have K45 : Keep h0 h44 [a0] := K40.wr W44 (Or.inl (List.mem_of_getElem? (i := 0) rfl))
  have V_44 : Arv Z h44 a0 kk .int (18 : Int32) [(.int y6), (.int y7), (.int y8), (.int y9), (.int y10), (.int y11), (.int y0), (.int y1), (.int y2), (.int y3), (.int y4), (.int y11), (.int y12), (.int y13), (.int y14), (.int y15), (.int y16), (.int y17)] (.int (0 : Int32)) := Arv.set Ar_o43 q_o43 S_o43 N_o43 H_o43 G_o43 rfl W44 5 rfl (Nat.le_of_ble_eq_true rfl)
  have N44 := Fr.snoc X44 N39 g_a0
  refine ogo st44 ?_
  show OWay p e below G T44 (mkF m 25 #[.val (.ref a0), .val (.int (0 : Int32)), .val (.int (6 : Int32)), .val (.int (5 : Int32)), .val (.int y5)] [])
  refine ogo (fun _ z_ => XS.aloadN X44.here hx rfl (hb hby d2_25) rfl rfl z_) ?_
  show OWay p e below G T44 (mkF m 26 #[.val (.ref a0), .val (.int (0 : Int32)), .val (.int (6 : Int32)), .val (.int (5 : Int32)), .val (.int y5)] [(.ref a0)])
  refine ogo (fun _ z_ => XS.iloadN X44.here hx rfl (hb hby d2_26) rfl z_) ?_
  show OWay p e below G T44 (mkF m 27 #[.val (.ref a0), .val (.int (0 : Int32)), .val (.int (6 : Int32)), .val (.int (5 : Int32)), .val (.int y5)] [(.int (6 : Int32)), (.ref a0)])
  refine ogo (fun _ z_ => XS.iloadN X44.here hx rfl (hb hby d2_27) rfl z_) ?_
  show OWay p e below G T44 (mkF m 28 #[.val (.ref a0), .val (.int (0 : Int32)), .val (.int (6 : Int32)), .val (.int (5 : Int32)), .val (.int y5)] [(.int (5 : Int32)), (.int (6 : Int32)), (.ref a0)])
  refine ogo (fun _ z_ => XS.iadd X44.here hx rfl (hb hby d2_28) rfl z_) ?_
  show OWay p e below G T44 (mkF m 29 #[.val (.ref a0), .val (.int (0 : Int32)), .val (.int (6 : Int32)), .val (.int (5 : Int32)), .val (.int y5)] [(.int ((6 : Int32) + (5 : Int32))), (.ref a0)])
  refine ogoE (g' := (mkF m 29 #[.val (.ref a0), .val (.int (0 : Int32)), .val (.int (6 : Int32)), .val (.int (5 : Int32)), .val (.int y5)] [(.int (11 : Int32)), (.ref a0)])) (by rw [show ((6 : Int32) + (5 : Int32)) = (11 : Int32) from by decide]) ?_
  refine ogo (fun _ z_ => XS.iload X44.here hx rfl (hb hby d2_29) rfl z_) ?_
  show OWay p e below G T44 (mkF m 31 #[.val (.ref a0), .val (.int (0 : Int32)), .val (.int (6 : Int32)), .val (.int (5 : Int32)), .val (.int y5)] [(.int y5), (.int (11 : Int32)), (.ref a0)])
  obtain ⟨cl_o46, Ar_o46, q_o46, S_o46, N_o46, H_o46, G_o46⟩ := id V_44
  have hin_o46 : ¬ ((11 : Int32) < 0 ∨ cl_o46.slots.size ≤ ((11 : Int32)).toNatClampNeg) := inb_of S_o46 ⟨by decide, by decide⟩
  obtain ⟨T47, h47, X47, eT47, W47, st47⟩ := stI X44 hx hZ eT44 Ar_o46 (j := (11 : Int32)) hin_o46 (g := (mkF m 31 #[.val (.ref a0), .val (.int (0 : Int32)), .val (.int (6 : Int32)), .val (.int (5 : Int32)), .val (.int y5)] [(.int y5), (.int (11 : Int32)), (.ref a0)])) rfl rfl (hb hby d2_31)
  have K48 : Keep h0 h47 [a0] := K45.wr W47 (Or.inl (List.mem_of_getElem? (i := 0) rfl))
  have V_47 : Arv Z h47 a0 kk .int (18 : Int32) [(.int y6), (.int y7), (.int y8), (.int y9), (.int y10), (.int y11), (.int y0), (.int y1), (.int y2), (.int y3), (.int y4), (.int y5), (.int y12), (.int y13), (.int y14), (.int y15), (.int y16), (.int y17)] (.int (0 : Int32)) := Arv.set Ar_o46 q_o46 S_o46 N_o46 H_o46 G_o46 rfl W47 11 rfl (Nat.le_of_ble_eq_true rfl)
  have N47 := Fr.snoc X47 N44 g_a0
  refine ogo st47 ?_
  show OWay p e below G T47 (mkF m 32 #[.val (.ref a0), .val (.int (0 : Int32)), .val (.int (6 : Int32)), .val (.int (5 : Int32)), .val (.int y5)] [])
  refine ogo (fun _ z_ => XS.iinc X47.here hx rfl (hb hby d2_32) rfl (l' := #[.val (.ref a0), .val (.int (0 : Int32)), .val (.int (6 : Int32)), .val (.int ((5 : Int32) + (1 : Int32))), .val (.int y5)]) rfl z_) ?_
  show OWay p e below G T47 (mkF m 35 #[.val (.ref a0), .val (.int (0 : Int32)), .val (.int (6 : Int32)), .val (.int ((5 : Int32) + (1 : Int32))), .val (.int y5)] [])
  refine ogoE (g' := (mkF m 35 #[.val (.ref a0), .val (.int (0 : Int32)), .val (.int (6 : Int32)), .val (.int (6 : Int32)), .val (.int y5)] [])) (by rw [show ((5 : Int32) + (1 : Int32)) = (6 : Int32) from by decide]) ?_
  refine ogo (fun _ z_ => XS.goto X47.here hx rfl (pc0 := 35) (pc' := 2) rfl (hb hby d2_35) (by decide) (by decide) z_) ?_
  show OWay p e below G T47 (mkF m 2 #[.val (.ref a0), .val (.int (0 : Int32)), .val (.int (6 : Int32)), .val (.int (6 : Int32)), .val (.int y5)] [])
  refine ogo (fun _ z_ => XS.iloadN X47.here hx rfl (hb hby d2_2) rfl z_) ?_
  show OWay p e below G T47 (mkF m 3 #[.val (.ref a0), .val (.int (0 : Int32)), .val (.int (6 : Int32)), .val (.int (6 : Int32)), .val (.int y5)] [(.int (6 : Int32))])
  refine ogo (fun _ z_ => XS.bipush X47.here hx rfl (hb hby d2_3) z_) ?_
  show OWay p e below G T47 (mkF m 5 #[.val (.ref a0), .val (.int (0 : Int32)), .val (.int (6 : Int32)), .val (.int (6 : Int32)), .val (.int y5)] [(.int (6 : Int32)), (.int (6 : Int32))])
  refine ogo (fun _ z_ => XS.icmpYes X47.here hx rfl (pc0 := 5) (pc' := 38) rfl (hb hby d2_5) rfl (flt (by decide)).2.1 (by decide) (by decide) z_) ?_
  show OWay p e below G T47 (mkF m 38 #[.val (.ref a0), .val (.int (0 : Int32)), .val (.int (6 : Int32)), .val (.int (6 : Int32)), .val (.int y5)] [])
  subst hG
  refine wRetV X47 hx hret hlk (hb hby d2_38) (by decide) (by decide) eT47 ?_
  exact ⟨rfl, N47, K48, V_47⟩
def swap02_rm : Room := { frames := 0, cells := 0, slots := 0, locals := 0 }
def swap02_Q (Z : State) (a0 : Addr) (kk : ClassId) (y0 : Int32) (y1 : Int32) (y2 : Int32) (y3 : Int32) (y4 : Int32) (y5 : Int32) (y6 : Int32) (y7 : Int32) (y8 : Int32) (y9 : Int32) (y10 : Int32) (y11 : Int32) (y12 : Int32) (y13 : Int32) (y14 : Int32) (y15 : Int32) (y16 : Int32) (y17 : Int32) (h0 : Heap) (n0 : Nat) (v : Option Value) (h : Heap) (L : List Loc) : Prop := (v = none) ∧ (Fr n0 L) ∧ (Keep h0 h [a0]) ∧ (Arv Z h a0 kk .int (18 : Int32) [(.int y12), (.int y13), (.int y14), (.int y15), (.int y16), (.int y17), (.int y6), (.int y7), (.int y8), (.int y9), (.int y10), (.int y11), (.int y0), (.int y1), (.int y2), (.int y3), (.int y4), (.int y5)] (.int (0 : Int32)))
theorem swap02_ef (m : MethodId) (a0 : Addr) : entryFrame m #[(.ref a0), (.int (0 : Int32)), (.int (12 : Int32))] 5 = mkF m 0 #[.val (.ref a0), .val (.int (0 : Int32)), .val (.int (12 : Int32)), .unset, .unset] [] := by first | (simp [entryFrame, mkF, argsToLocals, Value.category]; done) | rfl
set_option maxRecDepth 65536 in
set_option maxHeartbeats 40000000 in
theorem swap02_c (l : Launch) (Z : State) (az : Array Value) (hw : ∀ d ∈ tables_1, d.before az Z = true) (ws : List Jvm.Cond) (a0 : Addr) (kk : ClassId) (y0 : Int32) (y1 : Int32) (y2 : Int32) (y3 : Int32) (y4 : Int32) (y5 : Int32) (y6 : Int32) (y7 : Int32) (y8 : Int32) (y9 : Int32) (y10 : Int32) (y11 : Int32) (y12 : Int32) (y13 : Int32) (y14 : Int32) (y15 : Int32) (y16 : Int32) (y17 : Int32) (h0 : Heap) (n0 : Nat) (Z0 : n0 ≤ h0.size) (hp0 : Arv Z h0 a0 kk .int (18 : Int32) [(.int y0), (.int y1), (.int y2), (.int y3), (.int y4), (.int y5), (.int y6), (.int y7), (.int y8), (.int y9), (.int y10), (.int y11), (.int y12), (.int y13), (.int y14), (.int y15), (.int y16), (.int y17)] (.int (0 : Int32))) (hp1 : n0 ≤ a0) :
    OCon l (⟨"com/example/geotide/geotide/Members", "swap", "([III)V"⟩ : MethodName) prog_44_method_8_code 5 none ws swap02_rm Z #[(.ref a0), (.int (0 : Int32)), (.int (12 : Int32))] h0 (swap02_Q Z a0 kk y0 y1 y2 y3 y4 y5 y6 y7 y8 y9 y10 y11 y12 y13 y14 y15 y16 y17 h0 n0) := by
  refine ocon (plainFor_of_name pn_com_example_geotide_geotide_Members) ?_
  intro p e s m below meth c s₁ hx hby hml hown hnm hret hlk hZ X0 eh0
  have N0 := Fr.nil n0
  have K0 := Keep.refl h0 [a0]
  refine ogoE (swap02_ef m a0) ?_
  have g_a0 := hp1
  generalize hG : (OEnd s below (swap02_Q Z a0 kk y0 y1 y2 y3 y4 y5 y6 y7 y8 y9 y10 y11 y12 y13 y14 y15 y16 y17 h0 n0) swap02_rm.cells swap02_rm.slots) = G
  show OWay p e below G s₁ (mkF m 0 #[.val (.ref a0), .val (.int (0 : Int32)), .val (.int (12 : Int32)), .unset, .unset] [])
  refine ogo (fun _ z_ => XS.iconst X0.here hx rfl (hb hby d2_0) z_) ?_
  show OWay p e below G s₁ (mkF m 1 #[.val (.ref a0), .val (.int (0 : Int32)), .val (.int (12 : Int32)), .unset, .unset] [(.int (0 : Int32))])
  refine ogo (fun _ z_ => XS.istoreN X0.here hx rfl (hb hby d2_1) rfl (l' := #[.val (.ref a0), .val (.int (0 : Int32)), .val (.int (12 : Int32)), .val (.int (0 : Int32)), .unset]) rfl z_) ?_
  show OWay p e below G s₁ (mkF m 2 #[.val (.ref a0), .val (.int (0 : Int32)), .val (.int (12 : Int32)), .val (.int (0 : Int32)), .unset] [])
  refine ogo (fun _ z_ => XS.iloadN X0.here hx rfl (hb hby d2_2) rfl z_) ?_
  show OWay p e below G s₁ (mkF m 3 #[.val (.ref a0), .val (.int (0 : Int32)), .val (.int (12 : Int32)), .val (.int (0 : Int32)), .unset] [(.int (0 : Int32))])
  refine ogo (fun _ z_ => XS.bipush X0.here hx rfl (hb hby d2_3) z_) ?_
  show OWay p e below G s₁ (mkF m 5 #[.val (.ref a0), .val (.int (0 : Int32)), .val (.int (12 : Int32)), .val (.int (0 : Int32)), .unset] [(.int (6 : Int32)), (.int (0 : Int32))])
  refine ogo (fun _ z_ => XS.icmpNo X0.here hx rfl (hb hby d2_5) rfl (tlt (by decide)).2.1 z_) ?_
  show OWay p e below G s₁ (mkF m 8 #[.val (.ref a0), .val (.int (0 : Int32)), .val (.int (12 : Int32)), .val (.int (0 : Int32)), .unset] [])
  refine ogo (fun _ z_ => XS.aloadN X0.here hx rfl (hb hby d2_8) rfl rfl z_) ?_
  show OWay p e below G s₁ (mkF m 9 #[.val (.ref a0), .val (.int (0 : Int32)), .val (.int (12 : Int32)), .val (.int (0 : Int32)), .unset] [(.ref a0)])
  refine ogo (fun _ z_ => XS.iloadN X0.here hx rfl (hb hby d2_9) rfl z_) ?_
  show OWay p e below G s₁ (mkF m 10 #[.val (.ref a0), .val (.int (0 : Int32)), .val (.int (12 : Int32)), .val (.int (0 : Int32)), .unset] [(.int (0 : Int32)), (.ref a0)])
  refine ogo (fun _ z_ => XS.iloadN X0.here hx rfl (hb hby d2_10) rfl z_) ?_
  show OWay p e below G s₁ (mkF m 11 #[.val (.ref a0), .val (.int (0 : Int32)), .val (.int (12 : Int32)), .val (.int (0 : Int32)), .unset] [(.int (0 : Int32)), (.int (0 : Int32)), (.ref a0)])
  refine ogo (fun _ z_ => XS.iadd X0.here hx rfl (hb hby d2_11) rfl z_) ?_
  show OWay p e below G s₁ (mkF m 12 #[.val (.ref a0), .val (.int (0 : Int32)), .val (.int (12 : Int32)), .val (.int (0 : Int32)), .unset] [(.int ((0 : Int32) + (0 : Int32))), (.ref a0)])
  refine ogoE (g' := (mkF m 12 #[.val (.ref a0), .val (.int (0 : Int32)), .val (.int (12 : Int32)), .val (.int (0 : Int32)), .unset] [(.int (0 : Int32)), (.ref a0)])) (by rw [show ((0 : Int32) + (0 : Int32)) = (0 : Int32) from by decide]) ?_
  obtain ⟨cl_o1, Ar_o1, q_o1, S_o1, N_o1, H_o1, G_o1⟩ := id hp0
  have hin_o1 : ¬ ((0 : Int32) < 0 ∨ cl_o1.slots.size ≤ ((0 : Int32)).toNatClampNeg) := inb_of S_o1 ⟨by decide, by decide⟩
  have hat_o1 : cl_o1.slots[((0 : Int32)).toNatClampNeg]? = some (.int y0) := H_o1.at hin_o1 rfl
  refine ogo (fun _ z_ => X0.iaload hx (j := (0 : Int32)) (v := (.int y0)) (by rw [eh0]; exact Ar_o1.1) (State.isArrayOf_alike hZ.alike Ar_o1.2.1) Ar_o1.2.2 hin_o1 hat_o1 (g := (mkF m 12 #[.val (.ref a0), .val (.int (0 : Int32)), .val (.int (12 : Int32)), .val (.int (0 : Int32)), .unset] [(.int (0 : Int32)), (.ref a0)])) rfl rfl (hb hby d2_12) _ z_) ?_
  show OWay p e below G s₁ (mkF m 13 #[.val (.ref a0), .val (.int (0 : Int32)), .val (.int (12 : Int32)), .val (.int (0 : Int32)), .unset] [(.int y0)])
  refine ogo (fun _ z_ => XS.istore X0.here hx rfl (hb hby d2_13) rfl (l' := #[.val (.ref a0), .val (.int (0 : Int32)), .val (.int (12 : Int32)), .val (.int (0 : Int32)), .val (.int y0)]) rfl z_) ?_
  show OWay p e below G s₁ (mkF m 15 #[.val (.ref a0), .val (.int (0 : Int32)), .val (.int (12 : Int32)), .val (.int (0 : Int32)), .val (.int y0)] [])
  refine ogo (fun _ z_ => XS.aloadN X0.here hx rfl (hb hby d2_15) rfl rfl z_) ?_
  show OWay p e below G s₁ (mkF m 16 #[.val (.ref a0), .val (.int (0 : Int32)), .val (.int (12 : Int32)), .val (.int (0 : Int32)), .val (.int y0)] [(.ref a0)])
  refine ogo (fun _ z_ => XS.iloadN X0.here hx rfl (hb hby d2_16) rfl z_) ?_
  show OWay p e below G s₁ (mkF m 17 #[.val (.ref a0), .val (.int (0 : Int32)), .val (.int (12 : Int32)), .val (.int (0 : Int32)), .val (.int y0)] [(.int (0 : Int32)), (.ref a0)])
  refine ogo (fun _ z_ => XS.iloadN X0.here hx rfl (hb hby d2_17) rfl z_) ?_
  show OWay p e below G s₁ (mkF m 18 #[.val (.ref a0), .val (.int (0 : Int32)), .val (.int (12 : Int32)), .val (.int (0 : Int32)), .val (.int y0)] [(.int (0 : Int32)), (.int (0 : Int32)), (.ref a0)])
  refine ogo (fun _ z_ => XS.iadd X0.here hx rfl (hb hby d2_18) rfl z_) ?_
  show OWay p e below G s₁ (mkF m 19 #[.val (.ref a0), .val (.int (0 : Int32)), .val (.int (12 : Int32)), .val (.int (0 : Int32)), .val (.int y0)] [(.int ((0 : Int32) + (0 : Int32))), (.ref a0)])
  refine ogoE (g' := (mkF m 19 #[.val (.ref a0), .val (.int (0 : Int32)), .val (.int (12 : Int32)), .val (.int (0 : Int32)), .val (.int y0)] [(.int (0 : Int32)), (.ref a0)])) (by rw [show ((0 : Int32) + (0 : Int32)) = (0 : Int32) from by decide]) ?_
  refine ogo (fun _ z_ => XS.aloadN X0.here hx rfl (hb hby d2_19) rfl rfl z_) ?_
  show OWay p e below G s₁ (mkF m 20 #[.val (.ref a0), .val (.int (0 : Int32)), .val (.int (12 : Int32)), .val (.int (0 : Int32)), .val (.int y0)] [(.ref a0), (.int (0 : Int32)), (.ref a0)])
  refine ogo (fun _ z_ => XS.iloadN X0.here hx rfl (hb hby d2_20) rfl z_) ?_
  show OWay p e below G s₁ (mkF m 21 #[.val (.ref a0), .val (.int (0 : Int32)), .val (.int (12 : Int32)), .val (.int (0 : Int32)), .val (.int y0)] [(.int (12 : Int32)), (.ref a0), (.int (0 : Int32)), (.ref a0)])
  refine ogo (fun _ z_ => XS.iloadN X0.here hx rfl (hb hby d2_21) rfl z_) ?_
  show OWay p e below G s₁ (mkF m 22 #[.val (.ref a0), .val (.int (0 : Int32)), .val (.int (12 : Int32)), .val (.int (0 : Int32)), .val (.int y0)] [(.int (0 : Int32)), (.int (12 : Int32)), (.ref a0), (.int (0 : Int32)), (.ref a0)])
  refine ogo (fun _ z_ => XS.iadd X0.here hx rfl (hb hby d2_22) rfl z_) ?_
  show OWay p e below G s₁ (mkF m 23 #[.val (.ref a0), .val (.int (0 : Int32)), .val (.int (12 : Int32)), .val (.int (0 : Int32)), .val (.int y0)] [(.int ((12 : Int32) + (0 : Int32))), (.ref a0), (.int (0 : Int32)), (.ref a0)])
  refine ogoE (g' := (mkF m 23 #[.val (.ref a0), .val (.int (0 : Int32)), .val (.int (12 : Int32)), .val (.int (0 : Int32)), .val (.int y0)] [(.int (12 : Int32)), (.ref a0), (.int (0 : Int32)), (.ref a0)])) (by rw [show ((12 : Int32) + (0 : Int32)) = (12 : Int32) from by decide]) ?_
  obtain ⟨cl_o2, Ar_o2, q_o2, S_o2, N_o2, H_o2, G_o2⟩ := id hp0
  have hin_o2 : ¬ ((12 : Int32) < 0 ∨ cl_o2.slots.size ≤ ((12 : Int32)).toNatClampNeg) := inb_of S_o2 ⟨by decide, by decide⟩
  have hat_o2 : cl_o2.slots[((12 : Int32)).toNatClampNeg]? = some (.int y12) := H_o2.at hin_o2 rfl
  refine ogo (fun _ z_ => X0.iaload hx (j := (12 : Int32)) (v := (.int y12)) (by rw [eh0]; exact Ar_o2.1) (State.isArrayOf_alike hZ.alike Ar_o2.2.1) Ar_o2.2.2 hin_o2 hat_o2 (g := (mkF m 23 #[.val (.ref a0), .val (.int (0 : Int32)), .val (.int (12 : Int32)), .val (.int (0 : Int32)), .val (.int y0)] [(.int (12 : Int32)), (.ref a0), (.int (0 : Int32)), (.ref a0)])) rfl rfl (hb hby d2_23) _ z_) ?_
  show OWay p e below G s₁ (mkF m 24 #[.val (.ref a0), .val (.int (0 : Int32)), .val (.int (12 : Int32)), .val (.int (0 : Int32)), .val (.int y0)] [(.int y12), (.int (0 : Int32)), (.ref a0)])
  obtain ⟨cl_o3, Ar_o3, q_o3, S_o3, N_o3, H_o3, G_o3⟩ := id hp0
  have hin_o3 : ¬ ((0 : Int32) < 0 ∨ cl_o3.slots.size ≤ ((0 : Int32)).toNatClampNeg) := inb_of S_o3 ⟨by decide, by decide⟩
  obtain ⟨T4, h4, X4, eT4, W4, st4⟩ := stI X0 hx hZ eh0 Ar_o3 (j := (0 : Int32)) hin_o3 (g := (mkF m 24 #[.val (.ref a0), .val (.int (0 : Int32)), .val (.int (12 : Int32)), .val (.int (0 : Int32)), .val (.int y0)] [(.int y12), (.int (0 : Int32)), (.ref a0)])) rfl rfl (hb hby d2_24)
  have K5 : Keep h0 h4 [a0] := K0.wr W4 (Or.inl (List.mem_of_getElem? (i := 0) rfl))
  have V_4 : Arv Z h4 a0 kk .int (18 : Int32) [(.int y12), (.int y1), (.int y2), (.int y3), (.int y4), (.int y5), (.int y6), (.int y7), (.int y8), (.int y9), (.int y10), (.int y11), (.int y12), (.int y13), (.int y14), (.int y15), (.int y16), (.int y17)] (.int (0 : Int32)) := Arv.set Ar_o3 q_o3 S_o3 N_o3 H_o3 G_o3 rfl W4 0 rfl (Nat.le_of_ble_eq_true rfl)
  have N4 := Fr.snoc X4 N0 g_a0
  refine ogo st4 ?_
  show OWay p e below G T4 (mkF m 25 #[.val (.ref a0), .val (.int (0 : Int32)), .val (.int (12 : Int32)), .val (.int (0 : Int32)), .val (.int y0)] [])
  refine ogo (fun _ z_ => XS.aloadN X4.here hx rfl (hb hby d2_25) rfl rfl z_) ?_
  show OWay p e below G T4 (mkF m 26 #[.val (.ref a0), .val (.int (0 : Int32)), .val (.int (12 : Int32)), .val (.int (0 : Int32)), .val (.int y0)] [(.ref a0)])
  refine ogo (fun _ z_ => XS.iloadN X4.here hx rfl (hb hby d2_26) rfl z_) ?_
  show OWay p e below G T4 (mkF m 27 #[.val (.ref a0), .val (.int (0 : Int32)), .val (.int (12 : Int32)), .val (.int (0 : Int32)), .val (.int y0)] [(.int (12 : Int32)), (.ref a0)])
  refine ogo (fun _ z_ => XS.iloadN X4.here hx rfl (hb hby d2_27) rfl z_) ?_
  show OWay p e below G T4 (mkF m 28 #[.val (.ref a0), .val (.int (0 : Int32)), .val (.int (12 : Int32)), .val (.int (0 : Int32)), .val (.int y0)] [(.int (0 : Int32)), (.int (12 : Int32)), (.ref a0)])
  refine ogo (fun _ z_ => XS.iadd X4.here hx rfl (hb hby d2_28) rfl z_) ?_
  show OWay p e below G T4 (mkF m 29 #[.val (.ref a0), .val (.int (0 : Int32)), .val (.int (12 : Int32)), .val (.int (0 : Int32)), .val (.int y0)] [(.int ((12 : Int32) + (0 : Int32))), (.ref a0)])
  refine ogoE (g' := (mkF m 29 #[.val (.ref a0), .val (.int (0 : Int32)), .val (.int (12 : Int32)), .val (.int (0 : Int32)), .val (.int y0)] [(.int (12 : Int32)), (.ref a0)])) (by rw [show ((12 : Int32) + (0 : Int32)) = (12 : Int32) from by decide]) ?_
  refine ogo (fun _ z_ => XS.iload X4.here hx rfl (hb hby d2_29) rfl z_) ?_
  show OWay p e below G T4 (mkF m 31 #[.val (.ref a0), .val (.int (0 : Int32)), .val (.int (12 : Int32)), .val (.int (0 : Int32)), .val (.int y0)] [(.int y0), (.int (12 : Int32)), (.ref a0)])
  obtain ⟨cl_o6, Ar_o6, q_o6, S_o6, N_o6, H_o6, G_o6⟩ := id V_4
  have hin_o6 : ¬ ((12 : Int32) < 0 ∨ cl_o6.slots.size ≤ ((12 : Int32)).toNatClampNeg) := inb_of S_o6 ⟨by decide, by decide⟩
  obtain ⟨T7, h7, X7, eT7, W7, st7⟩ := stI X4 hx hZ eT4 Ar_o6 (j := (12 : Int32)) hin_o6 (g := (mkF m 31 #[.val (.ref a0), .val (.int (0 : Int32)), .val (.int (12 : Int32)), .val (.int (0 : Int32)), .val (.int y0)] [(.int y0), (.int (12 : Int32)), (.ref a0)])) rfl rfl (hb hby d2_31)
  have K8 : Keep h0 h7 [a0] := K5.wr W7 (Or.inl (List.mem_of_getElem? (i := 0) rfl))
  have V_7 : Arv Z h7 a0 kk .int (18 : Int32) [(.int y12), (.int y1), (.int y2), (.int y3), (.int y4), (.int y5), (.int y6), (.int y7), (.int y8), (.int y9), (.int y10), (.int y11), (.int y0), (.int y13), (.int y14), (.int y15), (.int y16), (.int y17)] (.int (0 : Int32)) := Arv.set Ar_o6 q_o6 S_o6 N_o6 H_o6 G_o6 rfl W7 12 rfl (Nat.le_of_ble_eq_true rfl)
  have N7 := Fr.snoc X7 N4 g_a0
  refine ogo st7 ?_
  show OWay p e below G T7 (mkF m 32 #[.val (.ref a0), .val (.int (0 : Int32)), .val (.int (12 : Int32)), .val (.int (0 : Int32)), .val (.int y0)] [])
  refine ogo (fun _ z_ => XS.iinc X7.here hx rfl (hb hby d2_32) rfl (l' := #[.val (.ref a0), .val (.int (0 : Int32)), .val (.int (12 : Int32)), .val (.int ((0 : Int32) + (1 : Int32))), .val (.int y0)]) rfl z_) ?_
  show OWay p e below G T7 (mkF m 35 #[.val (.ref a0), .val (.int (0 : Int32)), .val (.int (12 : Int32)), .val (.int ((0 : Int32) + (1 : Int32))), .val (.int y0)] [])
  refine ogoE (g' := (mkF m 35 #[.val (.ref a0), .val (.int (0 : Int32)), .val (.int (12 : Int32)), .val (.int (1 : Int32)), .val (.int y0)] [])) (by rw [show ((0 : Int32) + (1 : Int32)) = (1 : Int32) from by decide]) ?_
  refine ogo (fun _ z_ => XS.goto X7.here hx rfl (pc0 := 35) (pc' := 2) rfl (hb hby d2_35) (by decide) (by decide) z_) ?_
  show OWay p e below G T7 (mkF m 2 #[.val (.ref a0), .val (.int (0 : Int32)), .val (.int (12 : Int32)), .val (.int (1 : Int32)), .val (.int y0)] [])
  refine ogo (fun _ z_ => XS.iloadN X7.here hx rfl (hb hby d2_2) rfl z_) ?_
  show OWay p e below G T7 (mkF m 3 #[.val (.ref a0), .val (.int (0 : Int32)), .val (.int (12 : Int32)), .val (.int (1 : Int32)), .val (.int y0)] [(.int (1 : Int32))])
  refine ogo (fun _ z_ => XS.bipush X7.here hx rfl (hb hby d2_3) z_) ?_
  show OWay p e below G T7 (mkF m 5 #[.val (.ref a0), .val (.int (0 : Int32)), .val (.int (12 : Int32)), .val (.int (1 : Int32)), .val (.int y0)] [(.int (6 : Int32)), (.int (1 : Int32))])
  refine ogo (fun _ z_ => XS.icmpNo X7.here hx rfl (hb hby d2_5) rfl (tlt (by decide)).2.1 z_) ?_
  show OWay p e below G T7 (mkF m 8 #[.val (.ref a0), .val (.int (0 : Int32)), .val (.int (12 : Int32)), .val (.int (1 : Int32)), .val (.int y0)] [])
  refine ogo (fun _ z_ => XS.aloadN X7.here hx rfl (hb hby d2_8) rfl rfl z_) ?_
  show OWay p e below G T7 (mkF m 9 #[.val (.ref a0), .val (.int (0 : Int32)), .val (.int (12 : Int32)), .val (.int (1 : Int32)), .val (.int y0)] [(.ref a0)])
  refine ogo (fun _ z_ => XS.iloadN X7.here hx rfl (hb hby d2_9) rfl z_) ?_
  show OWay p e below G T7 (mkF m 10 #[.val (.ref a0), .val (.int (0 : Int32)), .val (.int (12 : Int32)), .val (.int (1 : Int32)), .val (.int y0)] [(.int (0 : Int32)), (.ref a0)])
  refine ogo (fun _ z_ => XS.iloadN X7.here hx rfl (hb hby d2_10) rfl z_) ?_
  show OWay p e below G T7 (mkF m 11 #[.val (.ref a0), .val (.int (0 : Int32)), .val (.int (12 : Int32)), .val (.int (1 : Int32)), .val (.int y0)] [(.int (1 : Int32)), (.int (0 : Int32)), (.ref a0)])
  refine ogo (fun _ z_ => XS.iadd X7.here hx rfl (hb hby d2_11) rfl z_) ?_
  show OWay p e below G T7 (mkF m 12 #[.val (.ref a0), .val (.int (0 : Int32)), .val (.int (12 : Int32)), .val (.int (1 : Int32)), .val (.int y0)] [(.int ((0 : Int32) + (1 : Int32))), (.ref a0)])
  refine ogoE (g' := (mkF m 12 #[.val (.ref a0), .val (.int (0 : Int32)), .val (.int (12 : Int32)), .val (.int (1 : Int32)), .val (.int y0)] [(.int (1 : Int32)), (.ref a0)])) (by rw [show ((0 : Int32) + (1 : Int32)) = (1 : Int32) from by decide]) ?_
  obtain ⟨cl_o9, Ar_o9, q_o9, S_o9, N_o9, H_o9, G_o9⟩ := id V_7
  have hin_o9 : ¬ ((1 : Int32) < 0 ∨ cl_o9.slots.size ≤ ((1 : Int32)).toNatClampNeg) := inb_of S_o9 ⟨by decide, by decide⟩
  have hat_o9 : cl_o9.slots[((1 : Int32)).toNatClampNeg]? = some (.int y1) := H_o9.at hin_o9 rfl
  refine ogo (fun _ z_ => X7.iaload hx (j := (1 : Int32)) (v := (.int y1)) (by rw [eT7]; exact Ar_o9.1) (State.isArrayOf_alike hZ.alike Ar_o9.2.1) Ar_o9.2.2 hin_o9 hat_o9 (g := (mkF m 12 #[.val (.ref a0), .val (.int (0 : Int32)), .val (.int (12 : Int32)), .val (.int (1 : Int32)), .val (.int y0)] [(.int (1 : Int32)), (.ref a0)])) rfl rfl (hb hby d2_12) _ z_) ?_
  show OWay p e below G T7 (mkF m 13 #[.val (.ref a0), .val (.int (0 : Int32)), .val (.int (12 : Int32)), .val (.int (1 : Int32)), .val (.int y0)] [(.int y1)])
  refine ogo (fun _ z_ => XS.istore X7.here hx rfl (hb hby d2_13) rfl (l' := #[.val (.ref a0), .val (.int (0 : Int32)), .val (.int (12 : Int32)), .val (.int (1 : Int32)), .val (.int y1)]) rfl z_) ?_
  show OWay p e below G T7 (mkF m 15 #[.val (.ref a0), .val (.int (0 : Int32)), .val (.int (12 : Int32)), .val (.int (1 : Int32)), .val (.int y1)] [])
  refine ogo (fun _ z_ => XS.aloadN X7.here hx rfl (hb hby d2_15) rfl rfl z_) ?_
  show OWay p e below G T7 (mkF m 16 #[.val (.ref a0), .val (.int (0 : Int32)), .val (.int (12 : Int32)), .val (.int (1 : Int32)), .val (.int y1)] [(.ref a0)])
  refine ogo (fun _ z_ => XS.iloadN X7.here hx rfl (hb hby d2_16) rfl z_) ?_
  show OWay p e below G T7 (mkF m 17 #[.val (.ref a0), .val (.int (0 : Int32)), .val (.int (12 : Int32)), .val (.int (1 : Int32)), .val (.int y1)] [(.int (0 : Int32)), (.ref a0)])
  refine ogo (fun _ z_ => XS.iloadN X7.here hx rfl (hb hby d2_17) rfl z_) ?_
  show OWay p e below G T7 (mkF m 18 #[.val (.ref a0), .val (.int (0 : Int32)), .val (.int (12 : Int32)), .val (.int (1 : Int32)), .val (.int y1)] [(.int (1 : Int32)), (.int (0 : Int32)), (.ref a0)])
  refine ogo (fun _ z_ => XS.iadd X7.here hx rfl (hb hby d2_18) rfl z_) ?_
  show OWay p e below G T7 (mkF m 19 #[.val (.ref a0), .val (.int (0 : Int32)), .val (.int (12 : Int32)), .val (.int (1 : Int32)), .val (.int y1)] [(.int ((0 : Int32) + (1 : Int32))), (.ref a0)])
  refine ogoE (g' := (mkF m 19 #[.val (.ref a0), .val (.int (0 : Int32)), .val (.int (12 : Int32)), .val (.int (1 : Int32)), .val (.int y1)] [(.int (1 : Int32)), (.ref a0)])) (by rw [show ((0 : Int32) + (1 : Int32)) = (1 : Int32) from by decide]) ?_
  refine ogo (fun _ z_ => XS.aloadN X7.here hx rfl (hb hby d2_19) rfl rfl z_) ?_
  show OWay p e below G T7 (mkF m 20 #[.val (.ref a0), .val (.int (0 : Int32)), .val (.int (12 : Int32)), .val (.int (1 : Int32)), .val (.int y1)] [(.ref a0), (.int (1 : Int32)), (.ref a0)])
  refine ogo (fun _ z_ => XS.iloadN X7.here hx rfl (hb hby d2_20) rfl z_) ?_
  show OWay p e below G T7 (mkF m 21 #[.val (.ref a0), .val (.int (0 : Int32)), .val (.int (12 : Int32)), .val (.int (1 : Int32)), .val (.int y1)] [(.int (12 : Int32)), (.ref a0), (.int (1 : Int32)), (.ref a0)])
  refine ogo (fun _ z_ => XS.iloadN X7.here hx rfl (hb hby d2_21) rfl z_) ?_
  show OWay p e below G T7 (mkF m 22 #[.val (.ref a0), .val (.int (0 : Int32)), .val (.int (12 : Int32)), .val (.int (1 : Int32)), .val (.int y1)] [(.int (1 : Int32)), (.int (12 : Int32)), (.ref a0), (.int (1 : Int32)), (.ref a0)])
  refine ogo (fun _ z_ => XS.iadd X7.here hx rfl (hb hby d2_22) rfl z_) ?_
  show OWay p e below G T7 (mkF m 23 #[.val (.ref a0), .val (.int (0 : Int32)), .val (.int (12 : Int32)), .val (.int (1 : Int32)), .val (.int y1)] [(.int ((12 : Int32) + (1 : Int32))), (.ref a0), (.int (1 : Int32)), (.ref a0)])
  refine ogoE (g' := (mkF m 23 #[.val (.ref a0), .val (.int (0 : Int32)), .val (.int (12 : Int32)), .val (.int (1 : Int32)), .val (.int y1)] [(.int (13 : Int32)), (.ref a0), (.int (1 : Int32)), (.ref a0)])) (by rw [show ((12 : Int32) + (1 : Int32)) = (13 : Int32) from by decide]) ?_
  obtain ⟨cl_o10, Ar_o10, q_o10, S_o10, N_o10, H_o10, G_o10⟩ := id V_7
  have hin_o10 : ¬ ((13 : Int32) < 0 ∨ cl_o10.slots.size ≤ ((13 : Int32)).toNatClampNeg) := inb_of S_o10 ⟨by decide, by decide⟩
  have hat_o10 : cl_o10.slots[((13 : Int32)).toNatClampNeg]? = some (.int y13) := H_o10.at hin_o10 rfl
  refine ogo (fun _ z_ => X7.iaload hx (j := (13 : Int32)) (v := (.int y13)) (by rw [eT7]; exact Ar_o10.1) (State.isArrayOf_alike hZ.alike Ar_o10.2.1) Ar_o10.2.2 hin_o10 hat_o10 (g := (mkF m 23 #[.val (.ref a0), .val (.int (0 : Int32)), .val (.int (12 : Int32)), .val (.int (1 : Int32)), .val (.int y1)] [(.int (13 : Int32)), (.ref a0), (.int (1 : Int32)), (.ref a0)])) rfl rfl (hb hby d2_23) _ z_) ?_
  show OWay p e below G T7 (mkF m 24 #[.val (.ref a0), .val (.int (0 : Int32)), .val (.int (12 : Int32)), .val (.int (1 : Int32)), .val (.int y1)] [(.int y13), (.int (1 : Int32)), (.ref a0)])
  obtain ⟨cl_o11, Ar_o11, q_o11, S_o11, N_o11, H_o11, G_o11⟩ := id V_7
  have hin_o11 : ¬ ((1 : Int32) < 0 ∨ cl_o11.slots.size ≤ ((1 : Int32)).toNatClampNeg) := inb_of S_o11 ⟨by decide, by decide⟩
  obtain ⟨T12, h12, X12, eT12, W12, st12⟩ := stI X7 hx hZ eT7 Ar_o11 (j := (1 : Int32)) hin_o11 (g := (mkF m 24 #[.val (.ref a0), .val (.int (0 : Int32)), .val (.int (12 : Int32)), .val (.int (1 : Int32)), .val (.int y1)] [(.int y13), (.int (1 : Int32)), (.ref a0)])) rfl rfl (hb hby d2_24)
  have K13 : Keep h0 h12 [a0] := K8.wr W12 (Or.inl (List.mem_of_getElem? (i := 0) rfl))
  have V_12 : Arv Z h12 a0 kk .int (18 : Int32) [(.int y12), (.int y13), (.int y2), (.int y3), (.int y4), (.int y5), (.int y6), (.int y7), (.int y8), (.int y9), (.int y10), (.int y11), (.int y0), (.int y13), (.int y14), (.int y15), (.int y16), (.int y17)] (.int (0 : Int32)) := Arv.set Ar_o11 q_o11 S_o11 N_o11 H_o11 G_o11 rfl W12 1 rfl (Nat.le_of_ble_eq_true rfl)
  have N12 := Fr.snoc X12 N7 g_a0
  refine ogo st12 ?_
  show OWay p e below G T12 (mkF m 25 #[.val (.ref a0), .val (.int (0 : Int32)), .val (.int (12 : Int32)), .val (.int (1 : Int32)), .val (.int y1)] [])
  refine ogo (fun _ z_ => XS.aloadN X12.here hx rfl (hb hby d2_25) rfl rfl z_) ?_
  show OWay p e below G T12 (mkF m 26 #[.val (.ref a0), .val (.int (0 : Int32)), .val (.int (12 : Int32)), .val (.int (1 : Int32)), .val (.int y1)] [(.ref a0)])
  refine ogo (fun _ z_ => XS.iloadN X12.here hx rfl (hb hby d2_26) rfl z_) ?_
  show OWay p e below G T12 (mkF m 27 #[.val (.ref a0), .val (.int (0 : Int32)), .val (.int (12 : Int32)), .val (.int (1 : Int32)), .val (.int y1)] [(.int (12 : Int32)), (.ref a0)])
  refine ogo (fun _ z_ => XS.iloadN X12.here hx rfl (hb hby d2_27) rfl z_) ?_
  show OWay p e below G T12 (mkF m 28 #[.val (.ref a0), .val (.int (0 : Int32)), .val (.int (12 : Int32)), .val (.int (1 : Int32)), .val (.int y1)] [(.int (1 : Int32)), (.int (12 : Int32)), (.ref a0)])
  refine ogo (fun _ z_ => XS.iadd X12.here hx rfl (hb hby d2_28) rfl z_) ?_
  show OWay p e below G T12 (mkF m 29 #[.val (.ref a0), .val (.int (0 : Int32)), .val (.int (12 : Int32)), .val (.int (1 : Int32)), .val (.int y1)] [(.int ((12 : Int32) + (1 : Int32))), (.ref a0)])
  refine ogoE (g' := (mkF m 29 #[.val (.ref a0), .val (.int (0 : Int32)), .val (.int (12 : Int32)), .val (.int (1 : Int32)), .val (.int y1)] [(.int (13 : Int32)), (.ref a0)])) (by rw [show ((12 : Int32) + (1 : Int32)) = (13 : Int32) from by decide]) ?_
  refine ogo (fun _ z_ => XS.iload X12.here hx rfl (hb hby d2_29) rfl z_) ?_
  show OWay p e below G T12 (mkF m 31 #[.val (.ref a0), .val (.int (0 : Int32)), .val (.int (12 : Int32)), .val (.int (1 : Int32)), .val (.int y1)] [(.int y1), (.int (13 : Int32)), (.ref a0)])
  obtain ⟨cl_o14, Ar_o14, q_o14, S_o14, N_o14, H_o14, G_o14⟩ := id V_12
  have hin_o14 : ¬ ((13 : Int32) < 0 ∨ cl_o14.slots.size ≤ ((13 : Int32)).toNatClampNeg) := inb_of S_o14 ⟨by decide, by decide⟩
  obtain ⟨T15, h15, X15, eT15, W15, st15⟩ := stI X12 hx hZ eT12 Ar_o14 (j := (13 : Int32)) hin_o14 (g := (mkF m 31 #[.val (.ref a0), .val (.int (0 : Int32)), .val (.int (12 : Int32)), .val (.int (1 : Int32)), .val (.int y1)] [(.int y1), (.int (13 : Int32)), (.ref a0)])) rfl rfl (hb hby d2_31)
  have K16 : Keep h0 h15 [a0] := K13.wr W15 (Or.inl (List.mem_of_getElem? (i := 0) rfl))
  have V_15 : Arv Z h15 a0 kk .int (18 : Int32) [(.int y12), (.int y13), (.int y2), (.int y3), (.int y4), (.int y5), (.int y6), (.int y7), (.int y8), (.int y9), (.int y10), (.int y11), (.int y0), (.int y1), (.int y14), (.int y15), (.int y16), (.int y17)] (.int (0 : Int32)) := Arv.set Ar_o14 q_o14 S_o14 N_o14 H_o14 G_o14 rfl W15 13 rfl (Nat.le_of_ble_eq_true rfl)
  have N15 := Fr.snoc X15 N12 g_a0
  refine ogo st15 ?_
  show OWay p e below G T15 (mkF m 32 #[.val (.ref a0), .val (.int (0 : Int32)), .val (.int (12 : Int32)), .val (.int (1 : Int32)), .val (.int y1)] [])
  refine ogo (fun _ z_ => XS.iinc X15.here hx rfl (hb hby d2_32) rfl (l' := #[.val (.ref a0), .val (.int (0 : Int32)), .val (.int (12 : Int32)), .val (.int ((1 : Int32) + (1 : Int32))), .val (.int y1)]) rfl z_) ?_
  show OWay p e below G T15 (mkF m 35 #[.val (.ref a0), .val (.int (0 : Int32)), .val (.int (12 : Int32)), .val (.int ((1 : Int32) + (1 : Int32))), .val (.int y1)] [])
  refine ogoE (g' := (mkF m 35 #[.val (.ref a0), .val (.int (0 : Int32)), .val (.int (12 : Int32)), .val (.int (2 : Int32)), .val (.int y1)] [])) (by rw [show ((1 : Int32) + (1 : Int32)) = (2 : Int32) from by decide]) ?_
  refine ogo (fun _ z_ => XS.goto X15.here hx rfl (pc0 := 35) (pc' := 2) rfl (hb hby d2_35) (by decide) (by decide) z_) ?_
  show OWay p e below G T15 (mkF m 2 #[.val (.ref a0), .val (.int (0 : Int32)), .val (.int (12 : Int32)), .val (.int (2 : Int32)), .val (.int y1)] [])
  refine ogo (fun _ z_ => XS.iloadN X15.here hx rfl (hb hby d2_2) rfl z_) ?_
  show OWay p e below G T15 (mkF m 3 #[.val (.ref a0), .val (.int (0 : Int32)), .val (.int (12 : Int32)), .val (.int (2 : Int32)), .val (.int y1)] [(.int (2 : Int32))])
  refine ogo (fun _ z_ => XS.bipush X15.here hx rfl (hb hby d2_3) z_) ?_
  show OWay p e below G T15 (mkF m 5 #[.val (.ref a0), .val (.int (0 : Int32)), .val (.int (12 : Int32)), .val (.int (2 : Int32)), .val (.int y1)] [(.int (6 : Int32)), (.int (2 : Int32))])
  refine ogo (fun _ z_ => XS.icmpNo X15.here hx rfl (hb hby d2_5) rfl (tlt (by decide)).2.1 z_) ?_
  show OWay p e below G T15 (mkF m 8 #[.val (.ref a0), .val (.int (0 : Int32)), .val (.int (12 : Int32)), .val (.int (2 : Int32)), .val (.int y1)] [])
  refine ogo (fun _ z_ => XS.aloadN X15.here hx rfl (hb hby d2_8) rfl rfl z_) ?_
  show OWay p e below G T15 (mkF m 9 #[.val (.ref a0), .val (.int (0 : Int32)), .val (.int (12 : Int32)), .val (.int (2 : Int32)), .val (.int y1)] [(.ref a0)])
  refine ogo (fun _ z_ => XS.iloadN X15.here hx rfl (hb hby d2_9) rfl z_) ?_
  show OWay p e below G T15 (mkF m 10 #[.val (.ref a0), .val (.int (0 : Int32)), .val (.int (12 : Int32)), .val (.int (2 : Int32)), .val (.int y1)] [(.int (0 : Int32)), (.ref a0)])
  refine ogo (fun _ z_ => XS.iloadN X15.here hx rfl (hb hby d2_10) rfl z_) ?_
  show OWay p e below G T15 (mkF m 11 #[.val (.ref a0), .val (.int (0 : Int32)), .val (.int (12 : Int32)), .val (.int (2 : Int32)), .val (.int y1)] [(.int (2 : Int32)), (.int (0 : Int32)), (.ref a0)])
  refine ogo (fun _ z_ => XS.iadd X15.here hx rfl (hb hby d2_11) rfl z_) ?_
  show OWay p e below G T15 (mkF m 12 #[.val (.ref a0), .val (.int (0 : Int32)), .val (.int (12 : Int32)), .val (.int (2 : Int32)), .val (.int y1)] [(.int ((0 : Int32) + (2 : Int32))), (.ref a0)])
  refine ogoE (g' := (mkF m 12 #[.val (.ref a0), .val (.int (0 : Int32)), .val (.int (12 : Int32)), .val (.int (2 : Int32)), .val (.int y1)] [(.int (2 : Int32)), (.ref a0)])) (by rw [show ((0 : Int32) + (2 : Int32)) = (2 : Int32) from by decide]) ?_
  obtain ⟨cl_o17, Ar_o17, q_o17, S_o17, N_o17, H_o17, G_o17⟩ := id V_15
  have hin_o17 : ¬ ((2 : Int32) < 0 ∨ cl_o17.slots.size ≤ ((2 : Int32)).toNatClampNeg) := inb_of S_o17 ⟨by decide, by decide⟩
  have hat_o17 : cl_o17.slots[((2 : Int32)).toNatClampNeg]? = some (.int y2) := H_o17.at hin_o17 rfl
  refine ogo (fun _ z_ => X15.iaload hx (j := (2 : Int32)) (v := (.int y2)) (by rw [eT15]; exact Ar_o17.1) (State.isArrayOf_alike hZ.alike Ar_o17.2.1) Ar_o17.2.2 hin_o17 hat_o17 (g := (mkF m 12 #[.val (.ref a0), .val (.int (0 : Int32)), .val (.int (12 : Int32)), .val (.int (2 : Int32)), .val (.int y1)] [(.int (2 : Int32)), (.ref a0)])) rfl rfl (hb hby d2_12) _ z_) ?_
  show OWay p e below G T15 (mkF m 13 #[.val (.ref a0), .val (.int (0 : Int32)), .val (.int (12 : Int32)), .val (.int (2 : Int32)), .val (.int y1)] [(.int y2)])
  refine ogo (fun _ z_ => XS.istore X15.here hx rfl (hb hby d2_13) rfl (l' := #[.val (.ref a0), .val (.int (0 : Int32)), .val (.int (12 : Int32)), .val (.int (2 : Int32)), .val (.int y2)]) rfl z_) ?_
  show OWay p e below G T15 (mkF m 15 #[.val (.ref a0), .val (.int (0 : Int32)), .val (.int (12 : Int32)), .val (.int (2 : Int32)), .val (.int y2)] [])
  refine ogo (fun _ z_ => XS.aloadN X15.here hx rfl (hb hby d2_15) rfl rfl z_) ?_
  show OWay p e below G T15 (mkF m 16 #[.val (.ref a0), .val (.int (0 : Int32)), .val (.int (12 : Int32)), .val (.int (2 : Int32)), .val (.int y2)] [(.ref a0)])
  refine ogo (fun _ z_ => XS.iloadN X15.here hx rfl (hb hby d2_16) rfl z_) ?_
  show OWay p e below G T15 (mkF m 17 #[.val (.ref a0), .val (.int (0 : Int32)), .val (.int (12 : Int32)), .val (.int (2 : Int32)), .val (.int y2)] [(.int (0 : Int32)), (.ref a0)])
  refine ogo (fun _ z_ => XS.iloadN X15.here hx rfl (hb hby d2_17) rfl z_) ?_
  show OWay p e below G T15 (mkF m 18 #[.val (.ref a0), .val (.int (0 : Int32)), .val (.int (12 : Int32)), .val (.int (2 : Int32)), .val (.int y2)] [(.int (2 : Int32)), (.int (0 : Int32)), (.ref a0)])
  refine ogo (fun _ z_ => XS.iadd X15.here hx rfl (hb hby d2_18) rfl z_) ?_
  show OWay p e below G T15 (mkF m 19 #[.val (.ref a0), .val (.int (0 : Int32)), .val (.int (12 : Int32)), .val (.int (2 : Int32)), .val (.int y2)] [(.int ((0 : Int32) + (2 : Int32))), (.ref a0)])
  refine ogoE (g' := (mkF m 19 #[.val (.ref a0), .val (.int (0 : Int32)), .val (.int (12 : Int32)), .val (.int (2 : Int32)), .val (.int y2)] [(.int (2 : Int32)), (.ref a0)])) (by rw [show ((0 : Int32) + (2 : Int32)) = (2 : Int32) from by decide]) ?_
  refine ogo (fun _ z_ => XS.aloadN X15.here hx rfl (hb hby d2_19) rfl rfl z_) ?_
  show OWay p e below G T15 (mkF m 20 #[.val (.ref a0), .val (.int (0 : Int32)), .val (.int (12 : Int32)), .val (.int (2 : Int32)), .val (.int y2)] [(.ref a0), (.int (2 : Int32)), (.ref a0)])
  refine ogo (fun _ z_ => XS.iloadN X15.here hx rfl (hb hby d2_20) rfl z_) ?_
  show OWay p e below G T15 (mkF m 21 #[.val (.ref a0), .val (.int (0 : Int32)), .val (.int (12 : Int32)), .val (.int (2 : Int32)), .val (.int y2)] [(.int (12 : Int32)), (.ref a0), (.int (2 : Int32)), (.ref a0)])
  refine ogo (fun _ z_ => XS.iloadN X15.here hx rfl (hb hby d2_21) rfl z_) ?_
  show OWay p e below G T15 (mkF m 22 #[.val (.ref a0), .val (.int (0 : Int32)), .val (.int (12 : Int32)), .val (.int (2 : Int32)), .val (.int y2)] [(.int (2 : Int32)), (.int (12 : Int32)), (.ref a0), (.int (2 : Int32)), (.ref a0)])
  refine ogo (fun _ z_ => XS.iadd X15.here hx rfl (hb hby d2_22) rfl z_) ?_
  show OWay p e below G T15 (mkF m 23 #[.val (.ref a0), .val (.int (0 : Int32)), .val (.int (12 : Int32)), .val (.int (2 : Int32)), .val (.int y2)] [(.int ((12 : Int32) + (2 : Int32))), (.ref a0), (.int (2 : Int32)), (.ref a0)])
  refine ogoE (g' := (mkF m 23 #[.val (.ref a0), .val (.int (0 : Int32)), .val (.int (12 : Int32)), .val (.int (2 : Int32)), .val (.int y2)] [(.int (14 : Int32)), (.ref a0), (.int (2 : Int32)), (.ref a0)])) (by rw [show ((12 : Int32) + (2 : Int32)) = (14 : Int32) from by decide]) ?_
  obtain ⟨cl_o18, Ar_o18, q_o18, S_o18, N_o18, H_o18, G_o18⟩ := id V_15
  have hin_o18 : ¬ ((14 : Int32) < 0 ∨ cl_o18.slots.size ≤ ((14 : Int32)).toNatClampNeg) := inb_of S_o18 ⟨by decide, by decide⟩
  have hat_o18 : cl_o18.slots[((14 : Int32)).toNatClampNeg]? = some (.int y14) := H_o18.at hin_o18 rfl
  refine ogo (fun _ z_ => X15.iaload hx (j := (14 : Int32)) (v := (.int y14)) (by rw [eT15]; exact Ar_o18.1) (State.isArrayOf_alike hZ.alike Ar_o18.2.1) Ar_o18.2.2 hin_o18 hat_o18 (g := (mkF m 23 #[.val (.ref a0), .val (.int (0 : Int32)), .val (.int (12 : Int32)), .val (.int (2 : Int32)), .val (.int y2)] [(.int (14 : Int32)), (.ref a0), (.int (2 : Int32)), (.ref a0)])) rfl rfl (hb hby d2_23) _ z_) ?_
  show OWay p e below G T15 (mkF m 24 #[.val (.ref a0), .val (.int (0 : Int32)), .val (.int (12 : Int32)), .val (.int (2 : Int32)), .val (.int y2)] [(.int y14), (.int (2 : Int32)), (.ref a0)])
  obtain ⟨cl_o19, Ar_o19, q_o19, S_o19, N_o19, H_o19, G_o19⟩ := id V_15
  have hin_o19 : ¬ ((2 : Int32) < 0 ∨ cl_o19.slots.size ≤ ((2 : Int32)).toNatClampNeg) := inb_of S_o19 ⟨by decide, by decide⟩
  obtain ⟨T20, h20, X20, eT20, W20, st20⟩ := stI X15 hx hZ eT15 Ar_o19 (j := (2 : Int32)) hin_o19 (g := (mkF m 24 #[.val (.ref a0), .val (.int (0 : Int32)), .val (.int (12 : Int32)), .val (.int (2 : Int32)), .val (.int y2)] [(.int y14), (.int (2 : Int32)), (.ref a0)])) rfl rfl (hb hby d2_24)
  have K21 : Keep h0 h20 [a0] := K16.wr W20 (Or.inl (List.mem_of_getElem? (i := 0) rfl))
  have V_20 : Arv Z h20 a0 kk .int (18 : Int32) [(.int y12), (.int y13), (.int y14), (.int y3), (.int y4), (.int y5), (.int y6), (.int y7), (.int y8), (.int y9), (.int y10), (.int y11), (.int y0), (.int y1), (.int y14), (.int y15), (.int y16), (.int y17)] (.int (0 : Int32)) := Arv.set Ar_o19 q_o19 S_o19 N_o19 H_o19 G_o19 rfl W20 2 rfl (Nat.le_of_ble_eq_true rfl)
  have N20 := Fr.snoc X20 N15 g_a0
  refine ogo st20 ?_
  show OWay p e below G T20 (mkF m 25 #[.val (.ref a0), .val (.int (0 : Int32)), .val (.int (12 : Int32)), .val (.int (2 : Int32)), .val (.int y2)] [])
  refine ogo (fun _ z_ => XS.aloadN X20.here hx rfl (hb hby d2_25) rfl rfl z_) ?_
  show OWay p e below G T20 (mkF m 26 #[.val (.ref a0), .val (.int (0 : Int32)), .val (.int (12 : Int32)), .val (.int (2 : Int32)), .val (.int y2)] [(.ref a0)])
  refine ogo (fun _ z_ => XS.iloadN X20.here hx rfl (hb hby d2_26) rfl z_) ?_
  show OWay p e below G T20 (mkF m 27 #[.val (.ref a0), .val (.int (0 : Int32)), .val (.int (12 : Int32)), .val (.int (2 : Int32)), .val (.int y2)] [(.int (12 : Int32)), (.ref a0)])
  refine ogo (fun _ z_ => XS.iloadN X20.here hx rfl (hb hby d2_27) rfl z_) ?_
  show OWay p e below G T20 (mkF m 28 #[.val (.ref a0), .val (.int (0 : Int32)), .val (.int (12 : Int32)), .val (.int (2 : Int32)), .val (.int y2)] [(.int (2 : Int32)), (.int (12 : Int32)), (.ref a0)])
  refine ogo (fun _ z_ => XS.iadd X20.here hx rfl (hb hby d2_28) rfl z_) ?_
  show OWay p e below G T20 (mkF m 29 #[.val (.ref a0), .val (.int (0 : Int32)), .val (.int (12 : Int32)), .val (.int (2 : Int32)), .val (.int y2)] [(.int ((12 : Int32) + (2 : Int32))), (.ref a0)])
  refine ogoE (g' := (mkF m 29 #[.val (.ref a0), .val (.int (0 : Int32)), .val (.int (12 : Int32)), .val (.int (2 : Int32)), .val (.int y2)] [(.int (14 : Int32)), (.ref a0)])) (by rw [show ((12 : Int32) + (2 : Int32)) = (14 : Int32) from by decide]) ?_
  refine ogo (fun _ z_ => XS.iload X20.here hx rfl (hb hby d2_29) rfl z_) ?_
  show OWay p e below G T20 (mkF m 31 #[.val (.ref a0), .val (.int (0 : Int32)), .val (.int (12 : Int32)), .val (.int (2 : Int32)), .val (.int y2)] [(.int y2), (.int (14 : Int32)), (.ref a0)])
  obtain ⟨cl_o22, Ar_o22, q_o22, S_o22, N_o22, H_o22, G_o22⟩ := id V_20
  have hin_o22 : ¬ ((14 : Int32) < 0 ∨ cl_o22.slots.size ≤ ((14 : Int32)).toNatClampNeg) := inb_of S_o22 ⟨by decide, by decide⟩
  obtain ⟨T23, h23, X23, eT23, W23, st23⟩ := stI X20 hx hZ eT20 Ar_o22 (j := (14 : Int32)) hin_o22 (g := (mkF m 31 #[.val (.ref a0), .val (.int (0 : Int32)), .val (.int (12 : Int32)), .val (.int (2 : Int32)), .val (.int y2)] [(.int y2), (.int (14 : Int32)), (.ref a0)])) rfl rfl (hb hby d2_31)
  have K24 : Keep h0 h23 [a0] := K21.wr W23 (Or.inl (List.mem_of_getElem? (i := 0) rfl))
  have V_23 : Arv Z h23 a0 kk .int (18 : Int32) [(.int y12), (.int y13), (.int y14), (.int y3), (.int y4), (.int y5), (.int y6), (.int y7), (.int y8), (.int y9), (.int y10), (.int y11), (.int y0), (.int y1), (.int y2), (.int y15), (.int y16), (.int y17)] (.int (0 : Int32)) := Arv.set Ar_o22 q_o22 S_o22 N_o22 H_o22 G_o22 rfl W23 14 rfl (Nat.le_of_ble_eq_true rfl)
  have N23 := Fr.snoc X23 N20 g_a0
  refine ogo st23 ?_
  show OWay p e below G T23 (mkF m 32 #[.val (.ref a0), .val (.int (0 : Int32)), .val (.int (12 : Int32)), .val (.int (2 : Int32)), .val (.int y2)] [])
  refine ogo (fun _ z_ => XS.iinc X23.here hx rfl (hb hby d2_32) rfl (l' := #[.val (.ref a0), .val (.int (0 : Int32)), .val (.int (12 : Int32)), .val (.int ((2 : Int32) + (1 : Int32))), .val (.int y2)]) rfl z_) ?_
  show OWay p e below G T23 (mkF m 35 #[.val (.ref a0), .val (.int (0 : Int32)), .val (.int (12 : Int32)), .val (.int ((2 : Int32) + (1 : Int32))), .val (.int y2)] [])
  refine ogoE (g' := (mkF m 35 #[.val (.ref a0), .val (.int (0 : Int32)), .val (.int (12 : Int32)), .val (.int (3 : Int32)), .val (.int y2)] [])) (by rw [show ((2 : Int32) + (1 : Int32)) = (3 : Int32) from by decide]) ?_
  refine ogo (fun _ z_ => XS.goto X23.here hx rfl (pc0 := 35) (pc' := 2) rfl (hb hby d2_35) (by decide) (by decide) z_) ?_
  show OWay p e below G T23 (mkF m 2 #[.val (.ref a0), .val (.int (0 : Int32)), .val (.int (12 : Int32)), .val (.int (3 : Int32)), .val (.int y2)] [])
  refine ogo (fun _ z_ => XS.iloadN X23.here hx rfl (hb hby d2_2) rfl z_) ?_
  show OWay p e below G T23 (mkF m 3 #[.val (.ref a0), .val (.int (0 : Int32)), .val (.int (12 : Int32)), .val (.int (3 : Int32)), .val (.int y2)] [(.int (3 : Int32))])
  refine ogo (fun _ z_ => XS.bipush X23.here hx rfl (hb hby d2_3) z_) ?_
  show OWay p e below G T23 (mkF m 5 #[.val (.ref a0), .val (.int (0 : Int32)), .val (.int (12 : Int32)), .val (.int (3 : Int32)), .val (.int y2)] [(.int (6 : Int32)), (.int (3 : Int32))])
  refine ogo (fun _ z_ => XS.icmpNo X23.here hx rfl (hb hby d2_5) rfl (tlt (by decide)).2.1 z_) ?_
  show OWay p e below G T23 (mkF m 8 #[.val (.ref a0), .val (.int (0 : Int32)), .val (.int (12 : Int32)), .val (.int (3 : Int32)), .val (.int y2)] [])
  refine ogo (fun _ z_ => XS.aloadN X23.here hx rfl (hb hby d2_8) rfl rfl z_) ?_
  show OWay p e below G T23 (mkF m 9 #[.val (.ref a0), .val (.int (0 : Int32)), .val (.int (12 : Int32)), .val (.int (3 : Int32)), .val (.int y2)] [(.ref a0)])
  refine ogo (fun _ z_ => XS.iloadN X23.here hx rfl (hb hby d2_9) rfl z_) ?_
  show OWay p e below G T23 (mkF m 10 #[.val (.ref a0), .val (.int (0 : Int32)), .val (.int (12 : Int32)), .val (.int (3 : Int32)), .val (.int y2)] [(.int (0 : Int32)), (.ref a0)])
  refine ogo (fun _ z_ => XS.iloadN X23.here hx rfl (hb hby d2_10) rfl z_) ?_
  show OWay p e below G T23 (mkF m 11 #[.val (.ref a0), .val (.int (0 : Int32)), .val (.int (12 : Int32)), .val (.int (3 : Int32)), .val (.int y2)] [(.int (3 : Int32)), (.int (0 : Int32)), (.ref a0)])
  refine ogo (fun _ z_ => XS.iadd X23.here hx rfl (hb hby d2_11) rfl z_) ?_
  show OWay p e below G T23 (mkF m 12 #[.val (.ref a0), .val (.int (0 : Int32)), .val (.int (12 : Int32)), .val (.int (3 : Int32)), .val (.int y2)] [(.int ((0 : Int32) + (3 : Int32))), (.ref a0)])
  refine ogoE (g' := (mkF m 12 #[.val (.ref a0), .val (.int (0 : Int32)), .val (.int (12 : Int32)), .val (.int (3 : Int32)), .val (.int y2)] [(.int (3 : Int32)), (.ref a0)])) (by rw [show ((0 : Int32) + (3 : Int32)) = (3 : Int32) from by decide]) ?_
  obtain ⟨cl_o25, Ar_o25, q_o25, S_o25, N_o25, H_o25, G_o25⟩ := id V_23
  have hin_o25 : ¬ ((3 : Int32) < 0 ∨ cl_o25.slots.size ≤ ((3 : Int32)).toNatClampNeg) := inb_of S_o25 ⟨by decide, by decide⟩
  have hat_o25 : cl_o25.slots[((3 : Int32)).toNatClampNeg]? = some (.int y3) := H_o25.at hin_o25 rfl
  refine ogo (fun _ z_ => X23.iaload hx (j := (3 : Int32)) (v := (.int y3)) (by rw [eT23]; exact Ar_o25.1) (State.isArrayOf_alike hZ.alike Ar_o25.2.1) Ar_o25.2.2 hin_o25 hat_o25 (g := (mkF m 12 #[.val (.ref a0), .val (.int (0 : Int32)), .val (.int (12 : Int32)), .val (.int (3 : Int32)), .val (.int y2)] [(.int (3 : Int32)), (.ref a0)])) rfl rfl (hb hby d2_12) _ z_) ?_
  show OWay p e below G T23 (mkF m 13 #[.val (.ref a0), .val (.int (0 : Int32)), .val (.int (12 : Int32)), .val (.int (3 : Int32)), .val (.int y2)] [(.int y3)])
  refine ogo (fun _ z_ => XS.istore X23.here hx rfl (hb hby d2_13) rfl (l' := #[.val (.ref a0), .val (.int (0 : Int32)), .val (.int (12 : Int32)), .val (.int (3 : Int32)), .val (.int y3)]) rfl z_) ?_
  show OWay p e below G T23 (mkF m 15 #[.val (.ref a0), .val (.int (0 : Int32)), .val (.int (12 : Int32)), .val (.int (3 : Int32)), .val (.int y3)] [])
  refine ogo (fun _ z_ => XS.aloadN X23.here hx rfl (hb hby d2_15) rfl rfl z_) ?_
  show OWay p e below G T23 (mkF m 16 #[.val (.ref a0), .val (.int (0 : Int32)), .val (.int (12 : Int32)), .val (.int (3 : Int32)), .val (.int y3)] [(.ref a0)])
  refine ogo (fun _ z_ => XS.iloadN X23.here hx rfl (hb hby d2_16) rfl z_) ?_
  show OWay p e below G T23 (mkF m 17 #[.val (.ref a0), .val (.int (0 : Int32)), .val (.int (12 : Int32)), .val (.int (3 : Int32)), .val (.int y3)] [(.int (0 : Int32)), (.ref a0)])
  refine ogo (fun _ z_ => XS.iloadN X23.here hx rfl (hb hby d2_17) rfl z_) ?_
  show OWay p e below G T23 (mkF m 18 #[.val (.ref a0), .val (.int (0 : Int32)), .val (.int (12 : Int32)), .val (.int (3 : Int32)), .val (.int y3)] [(.int (3 : Int32)), (.int (0 : Int32)), (.ref a0)])
  refine ogo (fun _ z_ => XS.iadd X23.here hx rfl (hb hby d2_18) rfl z_) ?_
  show OWay p e below G T23 (mkF m 19 #[.val (.ref a0), .val (.int (0 : Int32)), .val (.int (12 : Int32)), .val (.int (3 : Int32)), .val (.int y3)] [(.int ((0 : Int32) + (3 : Int32))), (.ref a0)])
  refine ogoE (g' := (mkF m 19 #[.val (.ref a0), .val (.int (0 : Int32)), .val (.int (12 : Int32)), .val (.int (3 : Int32)), .val (.int y3)] [(.int (3 : Int32)), (.ref a0)])) (by rw [show ((0 : Int32) + (3 : Int32)) = (3 : Int32) from by decide]) ?_
  refine ogo (fun _ z_ => XS.aloadN X23.here hx rfl (hb hby d2_19) rfl rfl z_) ?_
  show OWay p e below G T23 (mkF m 20 #[.val (.ref a0), .val (.int (0 : Int32)), .val (.int (12 : Int32)), .val (.int (3 : Int32)), .val (.int y3)] [(.ref a0), (.int (3 : Int32)), (.ref a0)])
  refine ogo (fun _ z_ => XS.iloadN X23.here hx rfl (hb hby d2_20) rfl z_) ?_
  show OWay p e below G T23 (mkF m 21 #[.val (.ref a0), .val (.int (0 : Int32)), .val (.int (12 : Int32)), .val (.int (3 : Int32)), .val (.int y3)] [(.int (12 : Int32)), (.ref a0), (.int (3 : Int32)), (.ref a0)])
  refine ogo (fun _ z_ => XS.iloadN X23.here hx rfl (hb hby d2_21) rfl z_) ?_
  show OWay p e below G T23 (mkF m 22 #[.val (.ref a0), .val (.int (0 : Int32)), .val (.int (12 : Int32)), .val (.int (3 : Int32)), .val (.int y3)] [(.int (3 : Int32)), (.int (12 : Int32)), (.ref a0), (.int (3 : Int32)), (.ref a0)])
  refine ogo (fun _ z_ => XS.iadd X23.here hx rfl (hb hby d2_22) rfl z_) ?_
  show OWay p e below G T23 (mkF m 23 #[.val (.ref a0), .val (.int (0 : Int32)), .val (.int (12 : Int32)), .val (.int (3 : Int32)), .val (.int y3)] [(.int ((12 : Int32) + (3 : Int32))), (.ref a0), (.int (3 : Int32)), (.ref a0)])
  refine ogoE (g' := (mkF m 23 #[.val (.ref a0), .val (.int (0 : Int32)), .val (.int (12 : Int32)), .val (.int (3 : Int32)), .val (.int y3)] [(.int (15 : Int32)), (.ref a0), (.int (3 : Int32)), (.ref a0)])) (by rw [show ((12 : Int32) + (3 : Int32)) = (15 : Int32) from by decide]) ?_
  obtain ⟨cl_o26, Ar_o26, q_o26, S_o26, N_o26, H_o26, G_o26⟩ := id V_23
  have hin_o26 : ¬ ((15 : Int32) < 0 ∨ cl_o26.slots.size ≤ ((15 : Int32)).toNatClampNeg) := inb_of S_o26 ⟨by decide, by decide⟩
  have hat_o26 : cl_o26.slots[((15 : Int32)).toNatClampNeg]? = some (.int y15) := H_o26.at hin_o26 rfl
  refine ogo (fun _ z_ => X23.iaload hx (j := (15 : Int32)) (v := (.int y15)) (by rw [eT23]; exact Ar_o26.1) (State.isArrayOf_alike hZ.alike Ar_o26.2.1) Ar_o26.2.2 hin_o26 hat_o26 (g := (mkF m 23 #[.val (.ref a0), .val (.int (0 : Int32)), .val (.int (12 : Int32)), .val (.int (3 : Int32)), .val (.int y3)] [(.int (15 : Int32)), (.ref a0), (.int (3 : Int32)), (.ref a0)])) rfl rfl (hb hby d2_23) _ z_) ?_
  show OWay p e below G T23 (mkF m 24 #[.val (.ref a0), .val (.int (0 : Int32)), .val (.int (12 : Int32)), .val (.int (3 : Int32)), .val (.int y3)] [(.int y15), (.int (3 : Int32)), (.ref a0)])
  obtain ⟨cl_o27, Ar_o27, q_o27, S_o27, N_o27, H_o27, G_o27⟩ := id V_23
  have hin_o27 : ¬ ((3 : Int32) < 0 ∨ cl_o27.slots.size ≤ ((3 : Int32)).toNatClampNeg) := inb_of S_o27 ⟨by decide, by decide⟩
  obtain ⟨T28, h28, X28, eT28, W28, st28⟩ := stI X23 hx hZ eT23 Ar_o27 (j := (3 : Int32)) hin_o27 (g := (mkF m 24 #[.val (.ref a0), .val (.int (0 : Int32)), .val (.int (12 : Int32)), .val (.int (3 : Int32)), .val (.int y3)] [(.int y15), (.int (3 : Int32)), (.ref a0)])) rfl rfl (hb hby d2_24)
  have K29 : Keep h0 h28 [a0] := K24.wr W28 (Or.inl (List.mem_of_getElem? (i := 0) rfl))
  have V_28 : Arv Z h28 a0 kk .int (18 : Int32) [(.int y12), (.int y13), (.int y14), (.int y15), (.int y4), (.int y5), (.int y6), (.int y7), (.int y8), (.int y9), (.int y10), (.int y11), (.int y0), (.int y1), (.int y2), (.int y15), (.int y16), (.int y17)] (.int (0 : Int32)) := Arv.set Ar_o27 q_o27 S_o27 N_o27 H_o27 G_o27 rfl W28 3 rfl (Nat.le_of_ble_eq_true rfl)
  have N28 := Fr.snoc X28 N23 g_a0
  refine ogo st28 ?_
  show OWay p e below G T28 (mkF m 25 #[.val (.ref a0), .val (.int (0 : Int32)), .val (.int (12 : Int32)), .val (.int (3 : Int32)), .val (.int y3)] [])
  refine ogo (fun _ z_ => XS.aloadN X28.here hx rfl (hb hby d2_25) rfl rfl z_) ?_
  show OWay p e below G T28 (mkF m 26 #[.val (.ref a0), .val (.int (0 : Int32)), .val (.int (12 : Int32)), .val (.int (3 : Int32)), .val (.int y3)] [(.ref a0)])
  refine ogo (fun _ z_ => XS.iloadN X28.here hx rfl (hb hby d2_26) rfl z_) ?_
  show OWay p e below G T28 (mkF m 27 #[.val (.ref a0), .val (.int (0 : Int32)), .val (.int (12 : Int32)), .val (.int (3 : Int32)), .val (.int y3)] [(.int (12 : Int32)), (.ref a0)])
  refine ogo (fun _ z_ => XS.iloadN X28.here hx rfl (hb hby d2_27) rfl z_) ?_
  show OWay p e below G T28 (mkF m 28 #[.val (.ref a0), .val (.int (0 : Int32)), .val (.int (12 : Int32)), .val (.int (3 : Int32)), .val (.int y3)] [(.int (3 : Int32)), (.int (12 : Int32)), (.ref a0)])
  refine ogo (fun _ z_ => XS.iadd X28.here hx rfl (hb hby d2_28) rfl z_) ?_
  show OWay p e below G T28 (mkF m 29 #[.val (.ref a0), .val (.int (0 : Int32)), .val (.int (12 : Int32)), .val (.int (3 : Int32)), .val (.int y3)] [(.int ((12 : Int32) + (3 : Int32))), (.ref a0)])
  refine ogoE (g' := (mkF m 29 #[.val (.ref a0), .val (.int (0 : Int32)), .val (.int (12 : Int32)), .val (.int (3 : Int32)), .val (.int y3)] [(.int (15 : Int32)), (.ref a0)])) (by rw [show ((12 : Int32) + (3 : Int32)) = (15 : Int32) from by decide]) ?_
  refine ogo (fun _ z_ => XS.iload X28.here hx rfl (hb hby d2_29) rfl z_) ?_
  show OWay p e below G T28 (mkF m 31 #[.val (.ref a0), .val (.int (0 : Int32)), .val (.int (12 : Int32)), .val (.int (3 : Int32)), .val (.int y3)] [(.int y3), (.int (15 : Int32)), (.ref a0)])
  obtain ⟨cl_o30, Ar_o30, q_o30, S_o30, N_o30, H_o30, G_o30⟩ := id V_28
  have hin_o30 : ¬ ((15 : Int32) < 0 ∨ cl_o30.slots.size ≤ ((15 : Int32)).toNatClampNeg) := inb_of S_o30 ⟨by decide, by decide⟩
  obtain ⟨T31, h31, X31, eT31, W31, st31⟩ := stI X28 hx hZ eT28 Ar_o30 (j := (15 : Int32)) hin_o30 (g := (mkF m 31 #[.val (.ref a0), .val (.int (0 : Int32)), .val (.int (12 : Int32)), .val (.int (3 : Int32)), .val (.int y3)] [(.int y3), (.int (15 : Int32)), (.ref a0)])) rfl rfl (hb hby d2_31)
  have K32 : Keep h0 h31 [a0] := K29.wr W31 (Or.inl (List.mem_of_getElem? (i := 0) rfl))
  have V_31 : Arv Z h31 a0 kk .int (18 : Int32) [(.int y12), (.int y13), (.int y14), (.int y15), (.int y4), (.int y5), (.int y6), (.int y7), (.int y8), (.int y9), (.int y10), (.int y11), (.int y0), (.int y1), (.int y2), (.int y3), (.int y16), (.int y17)] (.int (0 : Int32)) := Arv.set Ar_o30 q_o30 S_o30 N_o30 H_o30 G_o30 rfl W31 15 rfl (Nat.le_of_ble_eq_true rfl)
  have N31 := Fr.snoc X31 N28 g_a0
  refine ogo st31 ?_
  show OWay p e below G T31 (mkF m 32 #[.val (.ref a0), .val (.int (0 : Int32)), .val (.int (12 : Int32)), .val (.int (3 : Int32)), .val (.int y3)] [])
  refine ogo (fun _ z_ => XS.iinc X31.here hx rfl (hb hby d2_32) rfl (l' := #[.val (.ref a0), .val (.int (0 : Int32)), .val (.int (12 : Int32)), .val (.int ((3 : Int32) + (1 : Int32))), .val (.int y3)]) rfl z_) ?_
  show OWay p e below G T31 (mkF m 35 #[.val (.ref a0), .val (.int (0 : Int32)), .val (.int (12 : Int32)), .val (.int ((3 : Int32) + (1 : Int32))), .val (.int y3)] [])
  refine ogoE (g' := (mkF m 35 #[.val (.ref a0), .val (.int (0 : Int32)), .val (.int (12 : Int32)), .val (.int (4 : Int32)), .val (.int y3)] [])) (by rw [show ((3 : Int32) + (1 : Int32)) = (4 : Int32) from by decide]) ?_
  refine ogo (fun _ z_ => XS.goto X31.here hx rfl (pc0 := 35) (pc' := 2) rfl (hb hby d2_35) (by decide) (by decide) z_) ?_
  show OWay p e below G T31 (mkF m 2 #[.val (.ref a0), .val (.int (0 : Int32)), .val (.int (12 : Int32)), .val (.int (4 : Int32)), .val (.int y3)] [])
  refine ogo (fun _ z_ => XS.iloadN X31.here hx rfl (hb hby d2_2) rfl z_) ?_
  show OWay p e below G T31 (mkF m 3 #[.val (.ref a0), .val (.int (0 : Int32)), .val (.int (12 : Int32)), .val (.int (4 : Int32)), .val (.int y3)] [(.int (4 : Int32))])
  refine ogo (fun _ z_ => XS.bipush X31.here hx rfl (hb hby d2_3) z_) ?_
  show OWay p e below G T31 (mkF m 5 #[.val (.ref a0), .val (.int (0 : Int32)), .val (.int (12 : Int32)), .val (.int (4 : Int32)), .val (.int y3)] [(.int (6 : Int32)), (.int (4 : Int32))])
  refine ogo (fun _ z_ => XS.icmpNo X31.here hx rfl (hb hby d2_5) rfl (tlt (by decide)).2.1 z_) ?_
  show OWay p e below G T31 (mkF m 8 #[.val (.ref a0), .val (.int (0 : Int32)), .val (.int (12 : Int32)), .val (.int (4 : Int32)), .val (.int y3)] [])
  refine ogo (fun _ z_ => XS.aloadN X31.here hx rfl (hb hby d2_8) rfl rfl z_) ?_
  show OWay p e below G T31 (mkF m 9 #[.val (.ref a0), .val (.int (0 : Int32)), .val (.int (12 : Int32)), .val (.int (4 : Int32)), .val (.int y3)] [(.ref a0)])
  refine ogo (fun _ z_ => XS.iloadN X31.here hx rfl (hb hby d2_9) rfl z_) ?_
  show OWay p e below G T31 (mkF m 10 #[.val (.ref a0), .val (.int (0 : Int32)), .val (.int (12 : Int32)), .val (.int (4 : Int32)), .val (.int y3)] [(.int (0 : Int32)), (.ref a0)])
  refine ogo (fun _ z_ => XS.iloadN X31.here hx rfl (hb hby d2_10) rfl z_) ?_
  show OWay p e below G T31 (mkF m 11 #[.val (.ref a0), .val (.int (0 : Int32)), .val (.int (12 : Int32)), .val (.int (4 : Int32)), .val (.int y3)] [(.int (4 : Int32)), (.int (0 : Int32)), (.ref a0)])
  refine ogo (fun _ z_ => XS.iadd X31.here hx rfl (hb hby d2_11) rfl z_) ?_
  show OWay p e below G T31 (mkF m 12 #[.val (.ref a0), .val (.int (0 : Int32)), .val (.int (12 : Int32)), .val (.int (4 : Int32)), .val (.int y3)] [(.int ((0 : Int32) + (4 : Int32))), (.ref a0)])
  refine ogoE (g' := (mkF m 12 #[.val (.ref a0), .val (.int (0 : Int32)), .val (.int (12 : Int32)), .val (.int (4 : Int32)), .val (.int y3)] [(.int (4 : Int32)), (.ref a0)])) (by rw [show ((0 : Int32) + (4 : Int32)) = (4 : Int32) from by decide]) ?_
  obtain ⟨cl_o33, Ar_o33, q_o33, S_o33, N_o33, H_o33, G_o33⟩ := id V_31
  have hin_o33 : ¬ ((4 : Int32) < 0 ∨ cl_o33.slots.size ≤ ((4 : Int32)).toNatClampNeg) := inb_of S_o33 ⟨by decide, by decide⟩
  have hat_o33 : cl_o33.slots[((4 : Int32)).toNatClampNeg]? = some (.int y4) := H_o33.at hin_o33 rfl
  refine ogo (fun _ z_ => X31.iaload hx (j := (4 : Int32)) (v := (.int y4)) (by rw [eT31]; exact Ar_o33.1) (State.isArrayOf_alike hZ.alike Ar_o33.2.1) Ar_o33.2.2 hin_o33 hat_o33 (g := (mkF m 12 #[.val (.ref a0), .val (.int (0 : Int32)), .val (.int (12 : Int32)), .val (.int (4 : Int32)), .val (.int y3)] [(.int (4 : Int32)), (.ref a0)])) rfl rfl (hb hby d2_12) _ z_) ?_
  show OWay p e below G T31 (mkF m 13 #[.val (.ref a0), .val (.int (0 : Int32)), .val (.int (12 : Int32)), .val (.int (4 : Int32)), .val (.int y3)] [(.int y4)])
  refine ogo (fun _ z_ => XS.istore X31.here hx rfl (hb hby d2_13) rfl (l' := #[.val (.ref a0), .val (.int (0 : Int32)), .val (.int (12 : Int32)), .val (.int (4 : Int32)), .val (.int y4)]) rfl z_) ?_
  show OWay p e below G T31 (mkF m 15 #[.val (.ref a0), .val (.int (0 : Int32)), .val (.int (12 : Int32)), .val (.int (4 : Int32)), .val (.int y4)] [])
  refine ogo (fun _ z_ => XS.aloadN X31.here hx rfl (hb hby d2_15) rfl rfl z_) ?_
  show OWay p e below G T31 (mkF m 16 #[.val (.ref a0), .val (.int (0 : Int32)), .val (.int (12 : Int32)), .val (.int (4 : Int32)), .val (.int y4)] [(.ref a0)])
  refine ogo (fun _ z_ => XS.iloadN X31.here hx rfl (hb hby d2_16) rfl z_) ?_
  show OWay p e below G T31 (mkF m 17 #[.val (.ref a0), .val (.int (0 : Int32)), .val (.int (12 : Int32)), .val (.int (4 : Int32)), .val (.int y4)] [(.int (0 : Int32)), (.ref a0)])
  refine ogo (fun _ z_ => XS.iloadN X31.here hx rfl (hb hby d2_17) rfl z_) ?_
  show OWay p e below G T31 (mkF m 18 #[.val (.ref a0), .val (.int (0 : Int32)), .val (.int (12 : Int32)), .val (.int (4 : Int32)), .val (.int y4)] [(.int (4 : Int32)), (.int (0 : Int32)), (.ref a0)])
  refine ogo (fun _ z_ => XS.iadd X31.here hx rfl (hb hby d2_18) rfl z_) ?_
  show OWay p e below G T31 (mkF m 19 #[.val (.ref a0), .val (.int (0 : Int32)), .val (.int (12 : Int32)), .val (.int (4 : Int32)), .val (.int y4)] [(.int ((0 : Int32) + (4 : Int32))), (.ref a0)])
  refine ogoE (g' := (mkF m 19 #[.val (.ref a0), .val (.int (0 : Int32)), .val (.int (12 : Int32)), .val (.int (4 : Int32)), .val (.int y4)] [(.int (4 : Int32)), (.ref a0)])) (by rw [show ((0 : Int32) + (4 : Int32)) = (4 : Int32) from by decide]) ?_
  refine ogo (fun _ z_ => XS.aloadN X31.here hx rfl (hb hby d2_19) rfl rfl z_) ?_
  show OWay p e below G T31 (mkF m 20 #[.val (.ref a0), .val (.int (0 : Int32)), .val (.int (12 : Int32)), .val (.int (4 : Int32)), .val (.int y4)] [(.ref a0), (.int (4 : Int32)), (.ref a0)])
  refine ogo (fun _ z_ => XS.iloadN X31.here hx rfl (hb hby d2_20) rfl z_) ?_
  show OWay p e below G T31 (mkF m 21 #[.val (.ref a0), .val (.int (0 : Int32)), .val (.int (12 : Int32)), .val (.int (4 : Int32)), .val (.int y4)] [(.int (12 : Int32)), (.ref a0), (.int (4 : Int32)), (.ref a0)])
  refine ogo (fun _ z_ => XS.iloadN X31.here hx rfl (hb hby d2_21) rfl z_) ?_
  show OWay p e below G T31 (mkF m 22 #[.val (.ref a0), .val (.int (0 : Int32)), .val (.int (12 : Int32)), .val (.int (4 : Int32)), .val (.int y4)] [(.int (4 : Int32)), (.int (12 : Int32)), (.ref a0), (.int (4 : Int32)), (.ref a0)])
  refine ogo (fun _ z_ => XS.iadd X31.here hx rfl (hb hby d2_22) rfl z_) ?_
  show OWay p e below G T31 (mkF m 23 #[.val (.ref a0), .val (.int (0 : Int32)), .val (.int (12 : Int32)), .val (.int (4 : Int32)), .val (.int y4)] [(.int ((12 : Int32) + (4 : Int32))), (.ref a0), (.int (4 : Int32)), (.ref a0)])
  refine ogoE (g' := (mkF m 23 #[.val (.ref a0), .val (.int (0 : Int32)), .val (.int (12 : Int32)), .val (.int (4 : Int32)), .val (.int y4)] [(.int (16 : Int32)), (.ref a0), (.int (4 : Int32)), (.ref a0)])) (by rw [show ((12 : Int32) + (4 : Int32)) = (16 : Int32) from by decide]) ?_
  obtain ⟨cl_o34, Ar_o34, q_o34, S_o34, N_o34, H_o34, G_o34⟩ := id V_31
  have hin_o34 : ¬ ((16 : Int32) < 0 ∨ cl_o34.slots.size ≤ ((16 : Int32)).toNatClampNeg) := inb_of S_o34 ⟨by decide, by decide⟩
  have hat_o34 : cl_o34.slots[((16 : Int32)).toNatClampNeg]? = some (.int y16) := H_o34.at hin_o34 rfl
  refine ogo (fun _ z_ => X31.iaload hx (j := (16 : Int32)) (v := (.int y16)) (by rw [eT31]; exact Ar_o34.1) (State.isArrayOf_alike hZ.alike Ar_o34.2.1) Ar_o34.2.2 hin_o34 hat_o34 (g := (mkF m 23 #[.val (.ref a0), .val (.int (0 : Int32)), .val (.int (12 : Int32)), .val (.int (4 : Int32)), .val (.int y4)] [(.int (16 : Int32)), (.ref a0), (.int (4 : Int32)), (.ref a0)])) rfl rfl (hb hby d2_23) _ z_) ?_
  show OWay p e below G T31 (mkF m 24 #[.val (.ref a0), .val (.int (0 : Int32)), .val (.int (12 : Int32)), .val (.int (4 : Int32)), .val (.int y4)] [(.int y16), (.int (4 : Int32)), (.ref a0)])
  obtain ⟨cl_o35, Ar_o35, q_o35, S_o35, N_o35, H_o35, G_o35⟩ := id V_31
  have hin_o35 : ¬ ((4 : Int32) < 0 ∨ cl_o35.slots.size ≤ ((4 : Int32)).toNatClampNeg) := inb_of S_o35 ⟨by decide, by decide⟩
  obtain ⟨T36, h36, X36, eT36, W36, st36⟩ := stI X31 hx hZ eT31 Ar_o35 (j := (4 : Int32)) hin_o35 (g := (mkF m 24 #[.val (.ref a0), .val (.int (0 : Int32)), .val (.int (12 : Int32)), .val (.int (4 : Int32)), .val (.int y4)] [(.int y16), (.int (4 : Int32)), (.ref a0)])) rfl rfl (hb hby d2_24)
  have K37 : Keep h0 h36 [a0] := K32.wr W36 (Or.inl (List.mem_of_getElem? (i := 0) rfl))
  have V_36 : Arv Z h36 a0 kk .int (18 : Int32) [(.int y12), (.int y13), (.int y14), (.int y15), (.int y16), (.int y5), (.int y6), (.int y7), (.int y8), (.int y9), (.int y10), (.int y11), (.int y0), (.int y1), (.int y2), (.int y3), (.int y16), (.int y17)] (.int (0 : Int32)) := Arv.set Ar_o35 q_o35 S_o35 N_o35 H_o35 G_o35 rfl W36 4 rfl (Nat.le_of_ble_eq_true rfl)
  have N36 := Fr.snoc X36 N31 g_a0
  refine ogo st36 ?_
  show OWay p e below G T36 (mkF m 25 #[.val (.ref a0), .val (.int (0 : Int32)), .val (.int (12 : Int32)), .val (.int (4 : Int32)), .val (.int y4)] [])
  refine ogo (fun _ z_ => XS.aloadN X36.here hx rfl (hb hby d2_25) rfl rfl z_) ?_
  show OWay p e below G T36 (mkF m 26 #[.val (.ref a0), .val (.int (0 : Int32)), .val (.int (12 : Int32)), .val (.int (4 : Int32)), .val (.int y4)] [(.ref a0)])
  refine ogo (fun _ z_ => XS.iloadN X36.here hx rfl (hb hby d2_26) rfl z_) ?_
  show OWay p e below G T36 (mkF m 27 #[.val (.ref a0), .val (.int (0 : Int32)), .val (.int (12 : Int32)), .val (.int (4 : Int32)), .val (.int y4)] [(.int (12 : Int32)), (.ref a0)])
  refine ogo (fun _ z_ => XS.iloadN X36.here hx rfl (hb hby d2_27) rfl z_) ?_
  show OWay p e below G T36 (mkF m 28 #[.val (.ref a0), .val (.int (0 : Int32)), .val (.int (12 : Int32)), .val (.int (4 : Int32)), .val (.int y4)] [(.int (4 : Int32)), (.int (12 : Int32)), (.ref a0)])
  refine ogo (fun _ z_ => XS.iadd X36.here hx rfl (hb hby d2_28) rfl z_) ?_
  show OWay p e below G T36 (mkF m 29 #[.val (.ref a0), .val (.int (0 : Int32)), .val (.int (12 : Int32)), .val (.int (4 : Int32)), .val (.int y4)] [(.int ((12 : Int32) + (4 : Int32))), (.ref a0)])
  refine ogoE (g' := (mkF m 29 #[.val (.ref a0), .val (.int (0 : Int32)), .val (.int (12 : Int32)), .val (.int (4 : Int32)), .val (.int y4)] [(.int (16 : Int32)), (.ref a0)])) (by rw [show ((12 : Int32) + (4 : Int32)) = (16 : Int32) from by decide]) ?_
  refine ogo (fun _ z_ => XS.iload X36.here hx rfl (hb hby d2_29) rfl z_) ?_
  show OWay p e below G T36 (mkF m 31 #[.val (.ref a0), .val (.int (0 : Int32)), .val (.int (12 : Int32)), .val (.int (4 : Int32)), .val (.int y4)] [(.int y4), (.int (16 : Int32)), (.ref a0)])
  obtain ⟨cl_o38, Ar_o38, q_o38, S_o38, N_o38, H_o38, G_o38⟩ := id V_36
  have hin_o38 : ¬ ((16 : Int32) < 0 ∨ cl_o38.slots.size ≤ ((16 : Int32)).toNatClampNeg) := inb_of S_o38 ⟨by decide, by decide⟩
  obtain ⟨T39, h39, X39, eT39, W39, st39⟩ := stI X36 hx hZ eT36 Ar_o38 (j := (16 : Int32)) hin_o38 (g := (mkF m 31 #[.val (.ref a0), .val (.int (0 : Int32)), .val (.int (12 : Int32)), .val (.int (4 : Int32)), .val (.int y4)] [(.int y4), (.int (16 : Int32)), (.ref a0)])) rfl rfl (hb hby d2_31)
  have K40 : Keep h0 h39 [a0] := K37.wr W39 (Or.inl (List.mem_of_getElem? (i := 0) rfl))
  have V_39 : Arv Z h39 a0 kk .int (18 : Int32) [(.int y12), (.int y13), (.int y14), (.int y15), (.int y16), (.int y5), (.int y6), (.int y7), (.int y8), (.int y9), (.int y10), (.int y11), (.int y0), (.int y1), (.int y2), (.int y3), (.int y4), (.int y17)] (.int (0 : Int32)) := Arv.set Ar_o38 q_o38 S_o38 N_o38 H_o38 G_o38 rfl W39 16 rfl (Nat.le_of_ble_eq_true rfl)
  have N39 := Fr.snoc X39 N36 g_a0
  refine ogo st39 ?_
  show OWay p e below G T39 (mkF m 32 #[.val (.ref a0), .val (.int (0 : Int32)), .val (.int (12 : Int32)), .val (.int (4 : Int32)), .val (.int y4)] [])
  refine ogo (fun _ z_ => XS.iinc X39.here hx rfl (hb hby d2_32) rfl (l' := #[.val (.ref a0), .val (.int (0 : Int32)), .val (.int (12 : Int32)), .val (.int ((4 : Int32) + (1 : Int32))), .val (.int y4)]) rfl z_) ?_
  show OWay p e below G T39 (mkF m 35 #[.val (.ref a0), .val (.int (0 : Int32)), .val (.int (12 : Int32)), .val (.int ((4 : Int32) + (1 : Int32))), .val (.int y4)] [])
  refine ogoE (g' := (mkF m 35 #[.val (.ref a0), .val (.int (0 : Int32)), .val (.int (12 : Int32)), .val (.int (5 : Int32)), .val (.int y4)] [])) (by rw [show ((4 : Int32) + (1 : Int32)) = (5 : Int32) from by decide]) ?_
  refine ogo (fun _ z_ => XS.goto X39.here hx rfl (pc0 := 35) (pc' := 2) rfl (hb hby d2_35) (by decide) (by decide) z_) ?_
  show OWay p e below G T39 (mkF m 2 #[.val (.ref a0), .val (.int (0 : Int32)), .val (.int (12 : Int32)), .val (.int (5 : Int32)), .val (.int y4)] [])
  refine ogo (fun _ z_ => XS.iloadN X39.here hx rfl (hb hby d2_2) rfl z_) ?_
  show OWay p e below G T39 (mkF m 3 #[.val (.ref a0), .val (.int (0 : Int32)), .val (.int (12 : Int32)), .val (.int (5 : Int32)), .val (.int y4)] [(.int (5 : Int32))])
  refine ogo (fun _ z_ => XS.bipush X39.here hx rfl (hb hby d2_3) z_) ?_
  show OWay p e below G T39 (mkF m 5 #[.val (.ref a0), .val (.int (0 : Int32)), .val (.int (12 : Int32)), .val (.int (5 : Int32)), .val (.int y4)] [(.int (6 : Int32)), (.int (5 : Int32))])
  refine ogo (fun _ z_ => XS.icmpNo X39.here hx rfl (hb hby d2_5) rfl (tlt (by decide)).2.1 z_) ?_
  show OWay p e below G T39 (mkF m 8 #[.val (.ref a0), .val (.int (0 : Int32)), .val (.int (12 : Int32)), .val (.int (5 : Int32)), .val (.int y4)] [])
  refine ogo (fun _ z_ => XS.aloadN X39.here hx rfl (hb hby d2_8) rfl rfl z_) ?_
  show OWay p e below G T39 (mkF m 9 #[.val (.ref a0), .val (.int (0 : Int32)), .val (.int (12 : Int32)), .val (.int (5 : Int32)), .val (.int y4)] [(.ref a0)])
  refine ogo (fun _ z_ => XS.iloadN X39.here hx rfl (hb hby d2_9) rfl z_) ?_
  show OWay p e below G T39 (mkF m 10 #[.val (.ref a0), .val (.int (0 : Int32)), .val (.int (12 : Int32)), .val (.int (5 : Int32)), .val (.int y4)] [(.int (0 : Int32)), (.ref a0)])
  refine ogo (fun _ z_ => XS.iloadN X39.here hx rfl (hb hby d2_10) rfl z_) ?_
  show OWay p e below G T39 (mkF m 11 #[.val (.ref a0), .val (.int (0 : Int32)), .val (.int (12 : Int32)), .val (.int (5 : Int32)), .val (.int y4)] [(.int (5 : Int32)), (.int (0 : Int32)), (.ref a0)])
  refine ogo (fun _ z_ => XS.iadd X39.here hx rfl (hb hby d2_11) rfl z_) ?_
  show OWay p e below G T39 (mkF m 12 #[.val (.ref a0), .val (.int (0 : Int32)), .val (.int (12 : Int32)), .val (.int (5 : Int32)), .val (.int y4)] [(.int ((0 : Int32) + (5 : Int32))), (.ref a0)])
  refine ogoE (g' := (mkF m 12 #[.val (.ref a0), .val (.int (0 : Int32)), .val (.int (12 : Int32)), .val (.int (5 : Int32)), .val (.int y4)] [(.int (5 : Int32)), (.ref a0)])) (by rw [show ((0 : Int32) + (5 : Int32)) = (5 : Int32) from by decide]) ?_
  obtain ⟨cl_o41, Ar_o41, q_o41, S_o41, N_o41, H_o41, G_o41⟩ := id V_39
  have hin_o41 : ¬ ((5 : Int32) < 0 ∨ cl_o41.slots.size ≤ ((5 : Int32)).toNatClampNeg) := inb_of S_o41 ⟨by decide, by decide⟩
  have hat_o41 : cl_o41.slots[((5 : Int32)).toNatClampNeg]? = some (.int y5) := H_o41.at hin_o41 rfl
  refine ogo (fun _ z_ => X39.iaload hx (j := (5 : Int32)) (v := (.int y5)) (by rw [eT39]; exact Ar_o41.1) (State.isArrayOf_alike hZ.alike Ar_o41.2.1) Ar_o41.2.2 hin_o41 hat_o41 (g := (mkF m 12 #[.val (.ref a0), .val (.int (0 : Int32)), .val (.int (12 : Int32)), .val (.int (5 : Int32)), .val (.int y4)] [(.int (5 : Int32)), (.ref a0)])) rfl rfl (hb hby d2_12) _ z_) ?_
  show OWay p e below G T39 (mkF m 13 #[.val (.ref a0), .val (.int (0 : Int32)), .val (.int (12 : Int32)), .val (.int (5 : Int32)), .val (.int y4)] [(.int y5)])
  refine ogo (fun _ z_ => XS.istore X39.here hx rfl (hb hby d2_13) rfl (l' := #[.val (.ref a0), .val (.int (0 : Int32)), .val (.int (12 : Int32)), .val (.int (5 : Int32)), .val (.int y5)]) rfl z_) ?_
  show OWay p e below G T39 (mkF m 15 #[.val (.ref a0), .val (.int (0 : Int32)), .val (.int (12 : Int32)), .val (.int (5 : Int32)), .val (.int y5)] [])
  refine ogo (fun _ z_ => XS.aloadN X39.here hx rfl (hb hby d2_15) rfl rfl z_) ?_
  show OWay p e below G T39 (mkF m 16 #[.val (.ref a0), .val (.int (0 : Int32)), .val (.int (12 : Int32)), .val (.int (5 : Int32)), .val (.int y5)] [(.ref a0)])
  refine ogo (fun _ z_ => XS.iloadN X39.here hx rfl (hb hby d2_16) rfl z_) ?_
  show OWay p e below G T39 (mkF m 17 #[.val (.ref a0), .val (.int (0 : Int32)), .val (.int (12 : Int32)), .val (.int (5 : Int32)), .val (.int y5)] [(.int (0 : Int32)), (.ref a0)])
  refine ogo (fun _ z_ => XS.iloadN X39.here hx rfl (hb hby d2_17) rfl z_) ?_
  show OWay p e below G T39 (mkF m 18 #[.val (.ref a0), .val (.int (0 : Int32)), .val (.int (12 : Int32)), .val (.int (5 : Int32)), .val (.int y5)] [(.int (5 : Int32)), (.int (0 : Int32)), (.ref a0)])
  refine ogo (fun _ z_ => XS.iadd X39.here hx rfl (hb hby d2_18) rfl z_) ?_
  show OWay p e below G T39 (mkF m 19 #[.val (.ref a0), .val (.int (0 : Int32)), .val (.int (12 : Int32)), .val (.int (5 : Int32)), .val (.int y5)] [(.int ((0 : Int32) + (5 : Int32))), (.ref a0)])
  refine ogoE (g' := (mkF m 19 #[.val (.ref a0), .val (.int (0 : Int32)), .val (.int (12 : Int32)), .val (.int (5 : Int32)), .val (.int y5)] [(.int (5 : Int32)), (.ref a0)])) (by rw [show ((0 : Int32) + (5 : Int32)) = (5 : Int32) from by decide]) ?_
  refine ogo (fun _ z_ => XS.aloadN X39.here hx rfl (hb hby d2_19) rfl rfl z_) ?_
  show OWay p e below G T39 (mkF m 20 #[.val (.ref a0), .val (.int (0 : Int32)), .val (.int (12 : Int32)), .val (.int (5 : Int32)), .val (.int y5)] [(.ref a0), (.int (5 : Int32)), (.ref a0)])
  refine ogo (fun _ z_ => XS.iloadN X39.here hx rfl (hb hby d2_20) rfl z_) ?_
  show OWay p e below G T39 (mkF m 21 #[.val (.ref a0), .val (.int (0 : Int32)), .val (.int (12 : Int32)), .val (.int (5 : Int32)), .val (.int y5)] [(.int (12 : Int32)), (.ref a0), (.int (5 : Int32)), (.ref a0)])
  refine ogo (fun _ z_ => XS.iloadN X39.here hx rfl (hb hby d2_21) rfl z_) ?_
  show OWay p e below G T39 (mkF m 22 #[.val (.ref a0), .val (.int (0 : Int32)), .val (.int (12 : Int32)), .val (.int (5 : Int32)), .val (.int y5)] [(.int (5 : Int32)), (.int (12 : Int32)), (.ref a0), (.int (5 : Int32)), (.ref a0)])
  refine ogo (fun _ z_ => XS.iadd X39.here hx rfl (hb hby d2_22) rfl z_) ?_
  show OWay p e below G T39 (mkF m 23 #[.val (.ref a0), .val (.int (0 : Int32)), .val (.int (12 : Int32)), .val (.int (5 : Int32)), .val (.int y5)] [(.int ((12 : Int32) + (5 : Int32))), (.ref a0), (.int (5 : Int32)), (.ref a0)])
  refine ogoE (g' := (mkF m 23 #[.val (.ref a0), .val (.int (0 : Int32)), .val (.int (12 : Int32)), .val (.int (5 : Int32)), .val (.int y5)] [(.int (17 : Int32)), (.ref a0), (.int (5 : Int32)), (.ref a0)])) (by rw [show ((12 : Int32) + (5 : Int32)) = (17 : Int32) from by decide]) ?_
  obtain ⟨cl_o42, Ar_o42, q_o42, S_o42, N_o42, H_o42, G_o42⟩ := id V_39
  have hin_o42 : ¬ ((17 : Int32) < 0 ∨ cl_o42.slots.size ≤ ((17 : Int32)).toNatClampNeg) := inb_of S_o42 ⟨by decide, by decide⟩
  have hat_o42 : cl_o42.slots[((17 : Int32)).toNatClampNeg]? = some (.int y17) := H_o42.at hin_o42 rfl
  refine ogo (fun _ z_ => X39.iaload hx (j := (17 : Int32)) (v := (.int y17)) (by rw [eT39]; exact Ar_o42.1) (State.isArrayOf_alike hZ.alike Ar_o42.2.1) Ar_o42.2.2 hin_o42 hat_o42 (g := (mkF m 23 #[.val (.ref a0), .val (.int (0 : Int32)), .val (.int (12 : Int32)), .val (.int (5 : Int32)), .val (.int y5)] [(.int (17 : Int32)), (.ref a0), (.int (5 : Int32)), (.ref a0)])) rfl rfl (hb hby d2_23) _ z_) ?_
  show OWay p e below G T39 (mkF m 24 #[.val (.ref a0), .val (.int (0 : Int32)), .val (.int (12 : Int32)), .val (.int (5 : Int32)), .val (.int y5)] [(.int y17), (.int (5 : Int32)), (.ref a0)])
  obtain ⟨cl_o43, Ar_o43, q_o43, S_o43, N_o43, H_o43, G_o43⟩ := id V_39
  have hin_o43 : ¬ ((5 : Int32) < 0 ∨ cl_o43.slots.size ≤ ((5 : Int32)).toNatClampNeg) := inb_of S_o43 ⟨by decide, by decide⟩
  obtain ⟨T44, h44, X44, eT44, W44, st44⟩ := stI X39 hx hZ eT39 Ar_o43 (j := (5 : Int32)) hin_o43 (g := (mkF m 24 #[.val (.ref a0), .val (.int (0 : Int32)), .val (.int (12 : Int32)), .val (.int (5 : Int32)), .val (.int y5)] [(.int y17), (.int (5 : Int32)), (.ref a0)])) rfl rfl (hb hby d2_24)
  have K45 : Keep h0 h44 [a0] := K40.wr W44 (Or.inl (List.mem_of_getElem? (i := 0) rfl))
  have V_44 : Arv Z h44 a0 kk .int (18 : Int32) [(.int y12), (.int y13), (.int y14), (.int y15), (.int y16), (.int y17), (.int y6), (.int y7), (.int y8), (.int y9), (.int y10), (.int y11), (.int y0), (.int y1), (.int y2), (.int y3), (.int y4), (.int y17)] (.int (0 : Int32)) := Arv.set Ar_o43 q_o43 S_o43 N_o43 H_o43 G_o43 rfl W44 5 rfl (Nat.le_of_ble_eq_true rfl)
  have N44 := Fr.snoc X44 N39 g_a0
  refine ogo st44 ?_
  show OWay p e below G T44 (mkF m 25 #[.val (.ref a0), .val (.int (0 : Int32)), .val (.int (12 : Int32)), .val (.int (5 : Int32)), .val (.int y5)] [])
  refine ogo (fun _ z_ => XS.aloadN X44.here hx rfl (hb hby d2_25) rfl rfl z_) ?_
  show OWay p e below G T44 (mkF m 26 #[.val (.ref a0), .val (.int (0 : Int32)), .val (.int (12 : Int32)), .val (.int (5 : Int32)), .val (.int y5)] [(.ref a0)])
  refine ogo (fun _ z_ => XS.iloadN X44.here hx rfl (hb hby d2_26) rfl z_) ?_
  show OWay p e below G T44 (mkF m 27 #[.val (.ref a0), .val (.int (0 : Int32)), .val (.int (12 : Int32)), .val (.int (5 : Int32)), .val (.int y5)] [(.int (12 : Int32)), (.ref a0)])
  refine ogo (fun _ z_ => XS.iloadN X44.here hx rfl (hb hby d2_27) rfl z_) ?_
  show OWay p e below G T44 (mkF m 28 #[.val (.ref a0), .val (.int (0 : Int32)), .val (.int (12 : Int32)), .val (.int (5 : Int32)), .val (.int y5)] [(.int (5 : Int32)), (.int (12 : Int32)), (.ref a0)])
  refine ogo (fun _ z_ => XS.iadd X44.here hx rfl (hb hby d2_28) rfl z_) ?_
  show OWay p e below G T44 (mkF m 29 #[.val (.ref a0), .val (.int (0 : Int32)), .val (.int (12 : Int32)), .val (.int (5 : Int32)), .val (.int y5)] [(.int ((12 : Int32) + (5 : Int32))), (.ref a0)])
  refine ogoE (g' := (mkF m 29 #[.val (.ref a0), .val (.int (0 : Int32)), .val (.int (12 : Int32)), .val (.int (5 : Int32)), .val (.int y5)] [(.int (17 : Int32)), (.ref a0)])) (by rw [show ((12 : Int32) + (5 : Int32)) = (17 : Int32) from by decide]) ?_
  refine ogo (fun _ z_ => XS.iload X44.here hx rfl (hb hby d2_29) rfl z_) ?_
  show OWay p e below G T44 (mkF m 31 #[.val (.ref a0), .val (.int (0 : Int32)), .val (.int (12 : Int32)), .val (.int (5 : Int32)), .val (.int y5)] [(.int y5), (.int (17 : Int32)), (.ref a0)])
  obtain ⟨cl_o46, Ar_o46, q_o46, S_o46, N_o46, H_o46, G_o46⟩ := id V_44
  have hin_o46 : ¬ ((17 : Int32) < 0 ∨ cl_o46.slots.size ≤ ((17 : Int32)).toNatClampNeg) := inb_of S_o46 ⟨by decide, by decide⟩
  obtain ⟨T47, h47, X47, eT47, W47, st47⟩ := stI X44 hx hZ eT44 Ar_o46 (j := (17 : Int32)) hin_o46 (g := (mkF m 31 #[.val (.ref a0), .val (.int (0 : Int32)), .val (.int (12 : Int32)), .val (.int (5 : Int32)), .val (.int y5)] [(.int y5), (.int (17 : Int32)), (.ref a0)])) rfl rfl (hb hby d2_31)
  have K48 : Keep h0 h47 [a0] := K45.wr W47 (Or.inl (List.mem_of_getElem? (i := 0) rfl))
  have V_47 : Arv Z h47 a0 kk .int (18 : Int32) [(.int y12), (.int y13), (.int y14), (.int y15), (.int y16), (.int y17), (.int y6), (.int y7), (.int y8), (.int y9), (.int y10), (.int y11), (.int y0), (.int y1), (.int y2), (.int y3), (.int y4), (.int y5)] (.int (0 : Int32)) := Arv.set Ar_o46 q_o46 S_o46 N_o46 H_o46 G_o46 rfl W47 17 rfl (Nat.le_of_ble_eq_true rfl)
  have N47 := Fr.snoc X47 N44 g_a0
  refine ogo st47 ?_
  show OWay p e below G T47 (mkF m 32 #[.val (.ref a0), .val (.int (0 : Int32)), .val (.int (12 : Int32)), .val (.int (5 : Int32)), .val (.int y5)] [])
  refine ogo (fun _ z_ => XS.iinc X47.here hx rfl (hb hby d2_32) rfl (l' := #[.val (.ref a0), .val (.int (0 : Int32)), .val (.int (12 : Int32)), .val (.int ((5 : Int32) + (1 : Int32))), .val (.int y5)]) rfl z_) ?_
  show OWay p e below G T47 (mkF m 35 #[.val (.ref a0), .val (.int (0 : Int32)), .val (.int (12 : Int32)), .val (.int ((5 : Int32) + (1 : Int32))), .val (.int y5)] [])
  refine ogoE (g' := (mkF m 35 #[.val (.ref a0), .val (.int (0 : Int32)), .val (.int (12 : Int32)), .val (.int (6 : Int32)), .val (.int y5)] [])) (by rw [show ((5 : Int32) + (1 : Int32)) = (6 : Int32) from by decide]) ?_
  refine ogo (fun _ z_ => XS.goto X47.here hx rfl (pc0 := 35) (pc' := 2) rfl (hb hby d2_35) (by decide) (by decide) z_) ?_
  show OWay p e below G T47 (mkF m 2 #[.val (.ref a0), .val (.int (0 : Int32)), .val (.int (12 : Int32)), .val (.int (6 : Int32)), .val (.int y5)] [])
  refine ogo (fun _ z_ => XS.iloadN X47.here hx rfl (hb hby d2_2) rfl z_) ?_
  show OWay p e below G T47 (mkF m 3 #[.val (.ref a0), .val (.int (0 : Int32)), .val (.int (12 : Int32)), .val (.int (6 : Int32)), .val (.int y5)] [(.int (6 : Int32))])
  refine ogo (fun _ z_ => XS.bipush X47.here hx rfl (hb hby d2_3) z_) ?_
  show OWay p e below G T47 (mkF m 5 #[.val (.ref a0), .val (.int (0 : Int32)), .val (.int (12 : Int32)), .val (.int (6 : Int32)), .val (.int y5)] [(.int (6 : Int32)), (.int (6 : Int32))])
  refine ogo (fun _ z_ => XS.icmpYes X47.here hx rfl (pc0 := 5) (pc' := 38) rfl (hb hby d2_5) rfl (flt (by decide)).2.1 (by decide) (by decide) z_) ?_
  show OWay p e below G T47 (mkF m 38 #[.val (.ref a0), .val (.int (0 : Int32)), .val (.int (12 : Int32)), .val (.int (6 : Int32)), .val (.int y5)] [])
  subst hG
  refine wRetV X47 hx hret hlk (hb hby d2_38) (by decide) (by decide) eT47 ?_
  exact ⟨rfl, N47, K48, V_47⟩
def swap10_rm : Room := { frames := 0, cells := 0, slots := 0, locals := 0 }
def swap10_Q (Z : State) (a0 : Addr) (kk : ClassId) (y0 : Int32) (y1 : Int32) (y2 : Int32) (y3 : Int32) (y4 : Int32) (y5 : Int32) (y6 : Int32) (y7 : Int32) (y8 : Int32) (y9 : Int32) (y10 : Int32) (y11 : Int32) (y12 : Int32) (y13 : Int32) (y14 : Int32) (y15 : Int32) (y16 : Int32) (y17 : Int32) (h0 : Heap) (n0 : Nat) (v : Option Value) (h : Heap) (L : List Loc) : Prop := (v = none) ∧ (Fr n0 L) ∧ (Keep h0 h [a0]) ∧ (Arv Z h a0 kk .int (18 : Int32) [(.int y6), (.int y7), (.int y8), (.int y9), (.int y10), (.int y11), (.int y0), (.int y1), (.int y2), (.int y3), (.int y4), (.int y5), (.int y12), (.int y13), (.int y14), (.int y15), (.int y16), (.int y17)] (.int (0 : Int32)))
theorem swap10_ef (m : MethodId) (a0 : Addr) : entryFrame m #[(.ref a0), (.int (6 : Int32)), (.int (0 : Int32))] 5 = mkF m 0 #[.val (.ref a0), .val (.int (6 : Int32)), .val (.int (0 : Int32)), .unset, .unset] [] := by first | (simp [entryFrame, mkF, argsToLocals, Value.category]; done) | rfl
set_option maxRecDepth 65536 in
set_option maxHeartbeats 40000000 in
theorem swap10_c (l : Launch) (Z : State) (az : Array Value) (hw : ∀ d ∈ tables_1, d.before az Z = true) (ws : List Jvm.Cond) (a0 : Addr) (kk : ClassId) (y0 : Int32) (y1 : Int32) (y2 : Int32) (y3 : Int32) (y4 : Int32) (y5 : Int32) (y6 : Int32) (y7 : Int32) (y8 : Int32) (y9 : Int32) (y10 : Int32) (y11 : Int32) (y12 : Int32) (y13 : Int32) (y14 : Int32) (y15 : Int32) (y16 : Int32) (y17 : Int32) (h0 : Heap) (n0 : Nat) (Z0 : n0 ≤ h0.size) (hp0 : Arv Z h0 a0 kk .int (18 : Int32) [(.int y0), (.int y1), (.int y2), (.int y3), (.int y4), (.int y5), (.int y6), (.int y7), (.int y8), (.int y9), (.int y10), (.int y11), (.int y12), (.int y13), (.int y14), (.int y15), (.int y16), (.int y17)] (.int (0 : Int32))) (hp1 : n0 ≤ a0) :
    OCon l (⟨"com/example/geotide/geotide/Members", "swap", "([III)V"⟩ : MethodName) prog_44_method_8_code 5 none ws swap10_rm Z #[(.ref a0), (.int (6 : Int32)), (.int (0 : Int32))] h0 (swap10_Q Z a0 kk y0 y1 y2 y3 y4 y5 y6 y7 y8 y9 y10 y11 y12 y13 y14 y15 y16 y17 h0 n0) := by
  refine ocon (plainFor_of_name pn_com_example_geotide_geotide_Members) ?_
  intro p e s m below meth c s₁ hx hby hml hown hnm hret hlk hZ X0 eh0
  have N0 := Fr.nil n0
  have K0 := Keep.refl h0 [a0]
  refine ogoE (swap10_ef m a0) ?_
  have g_a0 := hp1
  generalize hG : (OEnd s below (swap10_Q Z a0 kk y0 y1 y2 y3 y4 y5 y6 y7 y8 y9 y10 y11 y12 y13 y14 y15 y16 y17 h0 n0) swap10_rm.cells swap10_rm.slots) = G
  show OWay p e below G s₁ (mkF m 0 #[.val (.ref a0), .val (.int (6 : Int32)), .val (.int (0 : Int32)), .unset, .unset] [])
  refine ogo (fun _ z_ => XS.iconst X0.here hx rfl (hb hby d2_0) z_) ?_
  show OWay p e below G s₁ (mkF m 1 #[.val (.ref a0), .val (.int (6 : Int32)), .val (.int (0 : Int32)), .unset, .unset] [(.int (0 : Int32))])
  refine ogo (fun _ z_ => XS.istoreN X0.here hx rfl (hb hby d2_1) rfl (l' := #[.val (.ref a0), .val (.int (6 : Int32)), .val (.int (0 : Int32)), .val (.int (0 : Int32)), .unset]) rfl z_) ?_
  show OWay p e below G s₁ (mkF m 2 #[.val (.ref a0), .val (.int (6 : Int32)), .val (.int (0 : Int32)), .val (.int (0 : Int32)), .unset] [])
  refine ogo (fun _ z_ => XS.iloadN X0.here hx rfl (hb hby d2_2) rfl z_) ?_
  show OWay p e below G s₁ (mkF m 3 #[.val (.ref a0), .val (.int (6 : Int32)), .val (.int (0 : Int32)), .val (.int (0 : Int32)), .unset] [(.int (0 : Int32))])
  refine ogo (fun _ z_ => XS.bipush X0.here hx rfl (hb hby d2_3) z_) ?_
  show OWay p e below G s₁ (mkF m 5 #[.val (.ref a0), .val (.int (6 : Int32)), .val (.int (0 : Int32)), .val (.int (0 : Int32)), .unset] [(.int (6 : Int32)), (.int (0 : Int32))])
  refine ogo (fun _ z_ => XS.icmpNo X0.here hx rfl (hb hby d2_5) rfl (tlt (by decide)).2.1 z_) ?_
  show OWay p e below G s₁ (mkF m 8 #[.val (.ref a0), .val (.int (6 : Int32)), .val (.int (0 : Int32)), .val (.int (0 : Int32)), .unset] [])
  refine ogo (fun _ z_ => XS.aloadN X0.here hx rfl (hb hby d2_8) rfl rfl z_) ?_
  show OWay p e below G s₁ (mkF m 9 #[.val (.ref a0), .val (.int (6 : Int32)), .val (.int (0 : Int32)), .val (.int (0 : Int32)), .unset] [(.ref a0)])
  refine ogo (fun _ z_ => XS.iloadN X0.here hx rfl (hb hby d2_9) rfl z_) ?_
  show OWay p e below G s₁ (mkF m 10 #[.val (.ref a0), .val (.int (6 : Int32)), .val (.int (0 : Int32)), .val (.int (0 : Int32)), .unset] [(.int (6 : Int32)), (.ref a0)])
  refine ogo (fun _ z_ => XS.iloadN X0.here hx rfl (hb hby d2_10) rfl z_) ?_
  show OWay p e below G s₁ (mkF m 11 #[.val (.ref a0), .val (.int (6 : Int32)), .val (.int (0 : Int32)), .val (.int (0 : Int32)), .unset] [(.int (0 : Int32)), (.int (6 : Int32)), (.ref a0)])
  refine ogo (fun _ z_ => XS.iadd X0.here hx rfl (hb hby d2_11) rfl z_) ?_
  show OWay p e below G s₁ (mkF m 12 #[.val (.ref a0), .val (.int (6 : Int32)), .val (.int (0 : Int32)), .val (.int (0 : Int32)), .unset] [(.int ((6 : Int32) + (0 : Int32))), (.ref a0)])
  refine ogoE (g' := (mkF m 12 #[.val (.ref a0), .val (.int (6 : Int32)), .val (.int (0 : Int32)), .val (.int (0 : Int32)), .unset] [(.int (6 : Int32)), (.ref a0)])) (by rw [show ((6 : Int32) + (0 : Int32)) = (6 : Int32) from by decide]) ?_
  obtain ⟨cl_o1, Ar_o1, q_o1, S_o1, N_o1, H_o1, G_o1⟩ := id hp0
  have hin_o1 : ¬ ((6 : Int32) < 0 ∨ cl_o1.slots.size ≤ ((6 : Int32)).toNatClampNeg) := inb_of S_o1 ⟨by decide, by decide⟩
  have hat_o1 : cl_o1.slots[((6 : Int32)).toNatClampNeg]? = some (.int y6) := H_o1.at hin_o1 rfl
  refine ogo (fun _ z_ => X0.iaload hx (j := (6 : Int32)) (v := (.int y6)) (by rw [eh0]; exact Ar_o1.1) (State.isArrayOf_alike hZ.alike Ar_o1.2.1) Ar_o1.2.2 hin_o1 hat_o1 (g := (mkF m 12 #[.val (.ref a0), .val (.int (6 : Int32)), .val (.int (0 : Int32)), .val (.int (0 : Int32)), .unset] [(.int (6 : Int32)), (.ref a0)])) rfl rfl (hb hby d2_12) _ z_) ?_
  show OWay p e below G s₁ (mkF m 13 #[.val (.ref a0), .val (.int (6 : Int32)), .val (.int (0 : Int32)), .val (.int (0 : Int32)), .unset] [(.int y6)])
  refine ogo (fun _ z_ => XS.istore X0.here hx rfl (hb hby d2_13) rfl (l' := #[.val (.ref a0), .val (.int (6 : Int32)), .val (.int (0 : Int32)), .val (.int (0 : Int32)), .val (.int y6)]) rfl z_) ?_
  show OWay p e below G s₁ (mkF m 15 #[.val (.ref a0), .val (.int (6 : Int32)), .val (.int (0 : Int32)), .val (.int (0 : Int32)), .val (.int y6)] [])
  refine ogo (fun _ z_ => XS.aloadN X0.here hx rfl (hb hby d2_15) rfl rfl z_) ?_
  show OWay p e below G s₁ (mkF m 16 #[.val (.ref a0), .val (.int (6 : Int32)), .val (.int (0 : Int32)), .val (.int (0 : Int32)), .val (.int y6)] [(.ref a0)])
  refine ogo (fun _ z_ => XS.iloadN X0.here hx rfl (hb hby d2_16) rfl z_) ?_
  show OWay p e below G s₁ (mkF m 17 #[.val (.ref a0), .val (.int (6 : Int32)), .val (.int (0 : Int32)), .val (.int (0 : Int32)), .val (.int y6)] [(.int (6 : Int32)), (.ref a0)])
  refine ogo (fun _ z_ => XS.iloadN X0.here hx rfl (hb hby d2_17) rfl z_) ?_
  show OWay p e below G s₁ (mkF m 18 #[.val (.ref a0), .val (.int (6 : Int32)), .val (.int (0 : Int32)), .val (.int (0 : Int32)), .val (.int y6)] [(.int (0 : Int32)), (.int (6 : Int32)), (.ref a0)])
  refine ogo (fun _ z_ => XS.iadd X0.here hx rfl (hb hby d2_18) rfl z_) ?_
  show OWay p e below G s₁ (mkF m 19 #[.val (.ref a0), .val (.int (6 : Int32)), .val (.int (0 : Int32)), .val (.int (0 : Int32)), .val (.int y6)] [(.int ((6 : Int32) + (0 : Int32))), (.ref a0)])
  refine ogoE (g' := (mkF m 19 #[.val (.ref a0), .val (.int (6 : Int32)), .val (.int (0 : Int32)), .val (.int (0 : Int32)), .val (.int y6)] [(.int (6 : Int32)), (.ref a0)])) (by rw [show ((6 : Int32) + (0 : Int32)) = (6 : Int32) from by decide]) ?_
  refine ogo (fun _ z_ => XS.aloadN X0.here hx rfl (hb hby d2_19) rfl rfl z_) ?_
  show OWay p e below G s₁ (mkF m 20 #[.val (.ref a0), .val (.int (6 : Int32)), .val (.int (0 : Int32)), .val (.int (0 : Int32)), .val (.int y6)] [(.ref a0), (.int (6 : Int32)), (.ref a0)])
  refine ogo (fun _ z_ => XS.iloadN X0.here hx rfl (hb hby d2_20) rfl z_) ?_
  show OWay p e below G s₁ (mkF m 21 #[.val (.ref a0), .val (.int (6 : Int32)), .val (.int (0 : Int32)), .val (.int (0 : Int32)), .val (.int y6)] [(.int (0 : Int32)), (.ref a0), (.int (6 : Int32)), (.ref a0)])
  refine ogo (fun _ z_ => XS.iloadN X0.here hx rfl (hb hby d2_21) rfl z_) ?_
  show OWay p e below G s₁ (mkF m 22 #[.val (.ref a0), .val (.int (6 : Int32)), .val (.int (0 : Int32)), .val (.int (0 : Int32)), .val (.int y6)] [(.int (0 : Int32)), (.int (0 : Int32)), (.ref a0), (.int (6 : Int32)), (.ref a0)])
  refine ogo (fun _ z_ => XS.iadd X0.here hx rfl (hb hby d2_22) rfl z_) ?_
  show OWay p e below G s₁ (mkF m 23 #[.val (.ref a0), .val (.int (6 : Int32)), .val (.int (0 : Int32)), .val (.int (0 : Int32)), .val (.int y6)] [(.int ((0 : Int32) + (0 : Int32))), (.ref a0), (.int (6 : Int32)), (.ref a0)])
  refine ogoE (g' := (mkF m 23 #[.val (.ref a0), .val (.int (6 : Int32)), .val (.int (0 : Int32)), .val (.int (0 : Int32)), .val (.int y6)] [(.int (0 : Int32)), (.ref a0), (.int (6 : Int32)), (.ref a0)])) (by rw [show ((0 : Int32) + (0 : Int32)) = (0 : Int32) from by decide]) ?_
  obtain ⟨cl_o2, Ar_o2, q_o2, S_o2, N_o2, H_o2, G_o2⟩ := id hp0
  have hin_o2 : ¬ ((0 : Int32) < 0 ∨ cl_o2.slots.size ≤ ((0 : Int32)).toNatClampNeg) := inb_of S_o2 ⟨by decide, by decide⟩
  have hat_o2 : cl_o2.slots[((0 : Int32)).toNatClampNeg]? = some (.int y0) := H_o2.at hin_o2 rfl
  refine ogo (fun _ z_ => X0.iaload hx (j := (0 : Int32)) (v := (.int y0)) (by rw [eh0]; exact Ar_o2.1) (State.isArrayOf_alike hZ.alike Ar_o2.2.1) Ar_o2.2.2 hin_o2 hat_o2 (g := (mkF m 23 #[.val (.ref a0), .val (.int (6 : Int32)), .val (.int (0 : Int32)), .val (.int (0 : Int32)), .val (.int y6)] [(.int (0 : Int32)), (.ref a0), (.int (6 : Int32)), (.ref a0)])) rfl rfl (hb hby d2_23) _ z_) ?_
  show OWay p e below G s₁ (mkF m 24 #[.val (.ref a0), .val (.int (6 : Int32)), .val (.int (0 : Int32)), .val (.int (0 : Int32)), .val (.int y6)] [(.int y0), (.int (6 : Int32)), (.ref a0)])
  obtain ⟨cl_o3, Ar_o3, q_o3, S_o3, N_o3, H_o3, G_o3⟩ := id hp0
  have hin_o3 : ¬ ((6 : Int32) < 0 ∨ cl_o3.slots.size ≤ ((6 : Int32)).toNatClampNeg) := inb_of S_o3 ⟨by decide, by decide⟩
  obtain ⟨T4, h4, X4, eT4, W4, st4⟩ := stI X0 hx hZ eh0 Ar_o3 (j := (6 : Int32)) hin_o3 (g := (mkF m 24 #[.val (.ref a0), .val (.int (6 : Int32)), .val (.int (0 : Int32)), .val (.int (0 : Int32)), .val (.int y6)] [(.int y0), (.int (6 : Int32)), (.ref a0)])) rfl rfl (hb hby d2_24)
  have K5 : Keep h0 h4 [a0] := K0.wr W4 (Or.inl (List.mem_of_getElem? (i := 0) rfl))
  have V_4 : Arv Z h4 a0 kk .int (18 : Int32) [(.int y0), (.int y1), (.int y2), (.int y3), (.int y4), (.int y5), (.int y0), (.int y7), (.int y8), (.int y9), (.int y10), (.int y11), (.int y12), (.int y13), (.int y14), (.int y15), (.int y16), (.int y17)] (.int (0 : Int32)) := Arv.set Ar_o3 q_o3 S_o3 N_o3 H_o3 G_o3 rfl W4 6 rfl (Nat.le_of_ble_eq_true rfl)
  have N4 := Fr.snoc X4 N0 g_a0
  refine ogo st4 ?_
  show OWay p e below G T4 (mkF m 25 #[.val (.ref a0), .val (.int (6 : Int32)), .val (.int (0 : Int32)), .val (.int (0 : Int32)), .val (.int y6)] [])
  refine ogo (fun _ z_ => XS.aloadN X4.here hx rfl (hb hby d2_25) rfl rfl z_) ?_
  show OWay p e below G T4 (mkF m 26 #[.val (.ref a0), .val (.int (6 : Int32)), .val (.int (0 : Int32)), .val (.int (0 : Int32)), .val (.int y6)] [(.ref a0)])
  refine ogo (fun _ z_ => XS.iloadN X4.here hx rfl (hb hby d2_26) rfl z_) ?_
  show OWay p e below G T4 (mkF m 27 #[.val (.ref a0), .val (.int (6 : Int32)), .val (.int (0 : Int32)), .val (.int (0 : Int32)), .val (.int y6)] [(.int (0 : Int32)), (.ref a0)])
  refine ogo (fun _ z_ => XS.iloadN X4.here hx rfl (hb hby d2_27) rfl z_) ?_
  show OWay p e below G T4 (mkF m 28 #[.val (.ref a0), .val (.int (6 : Int32)), .val (.int (0 : Int32)), .val (.int (0 : Int32)), .val (.int y6)] [(.int (0 : Int32)), (.int (0 : Int32)), (.ref a0)])
  refine ogo (fun _ z_ => XS.iadd X4.here hx rfl (hb hby d2_28) rfl z_) ?_
  show OWay p e below G T4 (mkF m 29 #[.val (.ref a0), .val (.int (6 : Int32)), .val (.int (0 : Int32)), .val (.int (0 : Int32)), .val (.int y6)] [(.int ((0 : Int32) + (0 : Int32))), (.ref a0)])
  refine ogoE (g' := (mkF m 29 #[.val (.ref a0), .val (.int (6 : Int32)), .val (.int (0 : Int32)), .val (.int (0 : Int32)), .val (.int y6)] [(.int (0 : Int32)), (.ref a0)])) (by rw [show ((0 : Int32) + (0 : Int32)) = (0 : Int32) from by decide]) ?_
  refine ogo (fun _ z_ => XS.iload X4.here hx rfl (hb hby d2_29) rfl z_) ?_
  show OWay p e below G T4 (mkF m 31 #[.val (.ref a0), .val (.int (6 : Int32)), .val (.int (0 : Int32)), .val (.int (0 : Int32)), .val (.int y6)] [(.int y6), (.int (0 : Int32)), (.ref a0)])
  obtain ⟨cl_o6, Ar_o6, q_o6, S_o6, N_o6, H_o6, G_o6⟩ := id V_4
  have hin_o6 : ¬ ((0 : Int32) < 0 ∨ cl_o6.slots.size ≤ ((0 : Int32)).toNatClampNeg) := inb_of S_o6 ⟨by decide, by decide⟩
  obtain ⟨T7, h7, X7, eT7, W7, st7⟩ := stI X4 hx hZ eT4 Ar_o6 (j := (0 : Int32)) hin_o6 (g := (mkF m 31 #[.val (.ref a0), .val (.int (6 : Int32)), .val (.int (0 : Int32)), .val (.int (0 : Int32)), .val (.int y6)] [(.int y6), (.int (0 : Int32)), (.ref a0)])) rfl rfl (hb hby d2_31)
  have K8 : Keep h0 h7 [a0] := K5.wr W7 (Or.inl (List.mem_of_getElem? (i := 0) rfl))
  have V_7 : Arv Z h7 a0 kk .int (18 : Int32) [(.int y6), (.int y1), (.int y2), (.int y3), (.int y4), (.int y5), (.int y0), (.int y7), (.int y8), (.int y9), (.int y10), (.int y11), (.int y12), (.int y13), (.int y14), (.int y15), (.int y16), (.int y17)] (.int (0 : Int32)) := Arv.set Ar_o6 q_o6 S_o6 N_o6 H_o6 G_o6 rfl W7 0 rfl (Nat.le_of_ble_eq_true rfl)
  have N7 := Fr.snoc X7 N4 g_a0
  refine ogo st7 ?_
  show OWay p e below G T7 (mkF m 32 #[.val (.ref a0), .val (.int (6 : Int32)), .val (.int (0 : Int32)), .val (.int (0 : Int32)), .val (.int y6)] [])
  refine ogo (fun _ z_ => XS.iinc X7.here hx rfl (hb hby d2_32) rfl (l' := #[.val (.ref a0), .val (.int (6 : Int32)), .val (.int (0 : Int32)), .val (.int ((0 : Int32) + (1 : Int32))), .val (.int y6)]) rfl z_) ?_
  show OWay p e below G T7 (mkF m 35 #[.val (.ref a0), .val (.int (6 : Int32)), .val (.int (0 : Int32)), .val (.int ((0 : Int32) + (1 : Int32))), .val (.int y6)] [])
  refine ogoE (g' := (mkF m 35 #[.val (.ref a0), .val (.int (6 : Int32)), .val (.int (0 : Int32)), .val (.int (1 : Int32)), .val (.int y6)] [])) (by rw [show ((0 : Int32) + (1 : Int32)) = (1 : Int32) from by decide]) ?_
  refine ogo (fun _ z_ => XS.goto X7.here hx rfl (pc0 := 35) (pc' := 2) rfl (hb hby d2_35) (by decide) (by decide) z_) ?_
  show OWay p e below G T7 (mkF m 2 #[.val (.ref a0), .val (.int (6 : Int32)), .val (.int (0 : Int32)), .val (.int (1 : Int32)), .val (.int y6)] [])
  refine ogo (fun _ z_ => XS.iloadN X7.here hx rfl (hb hby d2_2) rfl z_) ?_
  show OWay p e below G T7 (mkF m 3 #[.val (.ref a0), .val (.int (6 : Int32)), .val (.int (0 : Int32)), .val (.int (1 : Int32)), .val (.int y6)] [(.int (1 : Int32))])
  refine ogo (fun _ z_ => XS.bipush X7.here hx rfl (hb hby d2_3) z_) ?_
  show OWay p e below G T7 (mkF m 5 #[.val (.ref a0), .val (.int (6 : Int32)), .val (.int (0 : Int32)), .val (.int (1 : Int32)), .val (.int y6)] [(.int (6 : Int32)), (.int (1 : Int32))])
  refine ogo (fun _ z_ => XS.icmpNo X7.here hx rfl (hb hby d2_5) rfl (tlt (by decide)).2.1 z_) ?_
  show OWay p e below G T7 (mkF m 8 #[.val (.ref a0), .val (.int (6 : Int32)), .val (.int (0 : Int32)), .val (.int (1 : Int32)), .val (.int y6)] [])
  refine ogo (fun _ z_ => XS.aloadN X7.here hx rfl (hb hby d2_8) rfl rfl z_) ?_
  show OWay p e below G T7 (mkF m 9 #[.val (.ref a0), .val (.int (6 : Int32)), .val (.int (0 : Int32)), .val (.int (1 : Int32)), .val (.int y6)] [(.ref a0)])
  refine ogo (fun _ z_ => XS.iloadN X7.here hx rfl (hb hby d2_9) rfl z_) ?_
  show OWay p e below G T7 (mkF m 10 #[.val (.ref a0), .val (.int (6 : Int32)), .val (.int (0 : Int32)), .val (.int (1 : Int32)), .val (.int y6)] [(.int (6 : Int32)), (.ref a0)])
  refine ogo (fun _ z_ => XS.iloadN X7.here hx rfl (hb hby d2_10) rfl z_) ?_
  show OWay p e below G T7 (mkF m 11 #[.val (.ref a0), .val (.int (6 : Int32)), .val (.int (0 : Int32)), .val (.int (1 : Int32)), .val (.int y6)] [(.int (1 : Int32)), (.int (6 : Int32)), (.ref a0)])
  refine ogo (fun _ z_ => XS.iadd X7.here hx rfl (hb hby d2_11) rfl z_) ?_
  show OWay p e below G T7 (mkF m 12 #[.val (.ref a0), .val (.int (6 : Int32)), .val (.int (0 : Int32)), .val (.int (1 : Int32)), .val (.int y6)] [(.int ((6 : Int32) + (1 : Int32))), (.ref a0)])
  refine ogoE (g' := (mkF m 12 #[.val (.ref a0), .val (.int (6 : Int32)), .val (.int (0 : Int32)), .val (.int (1 : Int32)), .val (.int y6)] [(.int (7 : Int32)), (.ref a0)])) (by rw [show ((6 : Int32) + (1 : Int32)) = (7 : Int32) from by decide]) ?_
  obtain ⟨cl_o9, Ar_o9, q_o9, S_o9, N_o9, H_o9, G_o9⟩ := id V_7
  have hin_o9 : ¬ ((7 : Int32) < 0 ∨ cl_o9.slots.size ≤ ((7 : Int32)).toNatClampNeg) := inb_of S_o9 ⟨by decide, by decide⟩
  have hat_o9 : cl_o9.slots[((7 : Int32)).toNatClampNeg]? = some (.int y7) := H_o9.at hin_o9 rfl
  refine ogo (fun _ z_ => X7.iaload hx (j := (7 : Int32)) (v := (.int y7)) (by rw [eT7]; exact Ar_o9.1) (State.isArrayOf_alike hZ.alike Ar_o9.2.1) Ar_o9.2.2 hin_o9 hat_o9 (g := (mkF m 12 #[.val (.ref a0), .val (.int (6 : Int32)), .val (.int (0 : Int32)), .val (.int (1 : Int32)), .val (.int y6)] [(.int (7 : Int32)), (.ref a0)])) rfl rfl (hb hby d2_12) _ z_) ?_
  show OWay p e below G T7 (mkF m 13 #[.val (.ref a0), .val (.int (6 : Int32)), .val (.int (0 : Int32)), .val (.int (1 : Int32)), .val (.int y6)] [(.int y7)])
  refine ogo (fun _ z_ => XS.istore X7.here hx rfl (hb hby d2_13) rfl (l' := #[.val (.ref a0), .val (.int (6 : Int32)), .val (.int (0 : Int32)), .val (.int (1 : Int32)), .val (.int y7)]) rfl z_) ?_
  show OWay p e below G T7 (mkF m 15 #[.val (.ref a0), .val (.int (6 : Int32)), .val (.int (0 : Int32)), .val (.int (1 : Int32)), .val (.int y7)] [])
  refine ogo (fun _ z_ => XS.aloadN X7.here hx rfl (hb hby d2_15) rfl rfl z_) ?_
  show OWay p e below G T7 (mkF m 16 #[.val (.ref a0), .val (.int (6 : Int32)), .val (.int (0 : Int32)), .val (.int (1 : Int32)), .val (.int y7)] [(.ref a0)])
  refine ogo (fun _ z_ => XS.iloadN X7.here hx rfl (hb hby d2_16) rfl z_) ?_
  show OWay p e below G T7 (mkF m 17 #[.val (.ref a0), .val (.int (6 : Int32)), .val (.int (0 : Int32)), .val (.int (1 : Int32)), .val (.int y7)] [(.int (6 : Int32)), (.ref a0)])
  refine ogo (fun _ z_ => XS.iloadN X7.here hx rfl (hb hby d2_17) rfl z_) ?_
  show OWay p e below G T7 (mkF m 18 #[.val (.ref a0), .val (.int (6 : Int32)), .val (.int (0 : Int32)), .val (.int (1 : Int32)), .val (.int y7)] [(.int (1 : Int32)), (.int (6 : Int32)), (.ref a0)])
  refine ogo (fun _ z_ => XS.iadd X7.here hx rfl (hb hby d2_18) rfl z_) ?_
  show OWay p e below G T7 (mkF m 19 #[.val (.ref a0), .val (.int (6 : Int32)), .val (.int (0 : Int32)), .val (.int (1 : Int32)), .val (.int y7)] [(.int ((6 : Int32) + (1 : Int32))), (.ref a0)])
  refine ogoE (g' := (mkF m 19 #[.val (.ref a0), .val (.int (6 : Int32)), .val (.int (0 : Int32)), .val (.int (1 : Int32)), .val (.int y7)] [(.int (7 : Int32)), (.ref a0)])) (by rw [show ((6 : Int32) + (1 : Int32)) = (7 : Int32) from by decide]) ?_
  refine ogo (fun _ z_ => XS.aloadN X7.here hx rfl (hb hby d2_19) rfl rfl z_) ?_
  show OWay p e below G T7 (mkF m 20 #[.val (.ref a0), .val (.int (6 : Int32)), .val (.int (0 : Int32)), .val (.int (1 : Int32)), .val (.int y7)] [(.ref a0), (.int (7 : Int32)), (.ref a0)])
  refine ogo (fun _ z_ => XS.iloadN X7.here hx rfl (hb hby d2_20) rfl z_) ?_
  show OWay p e below G T7 (mkF m 21 #[.val (.ref a0), .val (.int (6 : Int32)), .val (.int (0 : Int32)), .val (.int (1 : Int32)), .val (.int y7)] [(.int (0 : Int32)), (.ref a0), (.int (7 : Int32)), (.ref a0)])
  refine ogo (fun _ z_ => XS.iloadN X7.here hx rfl (hb hby d2_21) rfl z_) ?_
  show OWay p e below G T7 (mkF m 22 #[.val (.ref a0), .val (.int (6 : Int32)), .val (.int (0 : Int32)), .val (.int (1 : Int32)), .val (.int y7)] [(.int (1 : Int32)), (.int (0 : Int32)), (.ref a0), (.int (7 : Int32)), (.ref a0)])
  refine ogo (fun _ z_ => XS.iadd X7.here hx rfl (hb hby d2_22) rfl z_) ?_
  show OWay p e below G T7 (mkF m 23 #[.val (.ref a0), .val (.int (6 : Int32)), .val (.int (0 : Int32)), .val (.int (1 : Int32)), .val (.int y7)] [(.int ((0 : Int32) + (1 : Int32))), (.ref a0), (.int (7 : Int32)), (.ref a0)])
  refine ogoE (g' := (mkF m 23 #[.val (.ref a0), .val (.int (6 : Int32)), .val (.int (0 : Int32)), .val (.int (1 : Int32)), .val (.int y7)] [(.int (1 : Int32)), (.ref a0), (.int (7 : Int32)), (.ref a0)])) (by rw [show ((0 : Int32) + (1 : Int32)) = (1 : Int32) from by decide]) ?_
  obtain ⟨cl_o10, Ar_o10, q_o10, S_o10, N_o10, H_o10, G_o10⟩ := id V_7
  have hin_o10 : ¬ ((1 : Int32) < 0 ∨ cl_o10.slots.size ≤ ((1 : Int32)).toNatClampNeg) := inb_of S_o10 ⟨by decide, by decide⟩
  have hat_o10 : cl_o10.slots[((1 : Int32)).toNatClampNeg]? = some (.int y1) := H_o10.at hin_o10 rfl
  refine ogo (fun _ z_ => X7.iaload hx (j := (1 : Int32)) (v := (.int y1)) (by rw [eT7]; exact Ar_o10.1) (State.isArrayOf_alike hZ.alike Ar_o10.2.1) Ar_o10.2.2 hin_o10 hat_o10 (g := (mkF m 23 #[.val (.ref a0), .val (.int (6 : Int32)), .val (.int (0 : Int32)), .val (.int (1 : Int32)), .val (.int y7)] [(.int (1 : Int32)), (.ref a0), (.int (7 : Int32)), (.ref a0)])) rfl rfl (hb hby d2_23) _ z_) ?_
  show OWay p e below G T7 (mkF m 24 #[.val (.ref a0), .val (.int (6 : Int32)), .val (.int (0 : Int32)), .val (.int (1 : Int32)), .val (.int y7)] [(.int y1), (.int (7 : Int32)), (.ref a0)])
  obtain ⟨cl_o11, Ar_o11, q_o11, S_o11, N_o11, H_o11, G_o11⟩ := id V_7
  have hin_o11 : ¬ ((7 : Int32) < 0 ∨ cl_o11.slots.size ≤ ((7 : Int32)).toNatClampNeg) := inb_of S_o11 ⟨by decide, by decide⟩
  obtain ⟨T12, h12, X12, eT12, W12, st12⟩ := stI X7 hx hZ eT7 Ar_o11 (j := (7 : Int32)) hin_o11 (g := (mkF m 24 #[.val (.ref a0), .val (.int (6 : Int32)), .val (.int (0 : Int32)), .val (.int (1 : Int32)), .val (.int y7)] [(.int y1), (.int (7 : Int32)), (.ref a0)])) rfl rfl (hb hby d2_24)
  have K13 : Keep h0 h12 [a0] := K8.wr W12 (Or.inl (List.mem_of_getElem? (i := 0) rfl))
  have V_12 : Arv Z h12 a0 kk .int (18 : Int32) [(.int y6), (.int y1), (.int y2), (.int y3), (.int y4), (.int y5), (.int y0), (.int y1), (.int y8), (.int y9), (.int y10), (.int y11), (.int y12), (.int y13), (.int y14), (.int y15), (.int y16), (.int y17)] (.int (0 : Int32)) := Arv.set Ar_o11 q_o11 S_o11 N_o11 H_o11 G_o11 rfl W12 7 rfl (Nat.le_of_ble_eq_true rfl)
  have N12 := Fr.snoc X12 N7 g_a0
  refine ogo st12 ?_
  show OWay p e below G T12 (mkF m 25 #[.val (.ref a0), .val (.int (6 : Int32)), .val (.int (0 : Int32)), .val (.int (1 : Int32)), .val (.int y7)] [])
  refine ogo (fun _ z_ => XS.aloadN X12.here hx rfl (hb hby d2_25) rfl rfl z_) ?_
  show OWay p e below G T12 (mkF m 26 #[.val (.ref a0), .val (.int (6 : Int32)), .val (.int (0 : Int32)), .val (.int (1 : Int32)), .val (.int y7)] [(.ref a0)])
  refine ogo (fun _ z_ => XS.iloadN X12.here hx rfl (hb hby d2_26) rfl z_) ?_
  show OWay p e below G T12 (mkF m 27 #[.val (.ref a0), .val (.int (6 : Int32)), .val (.int (0 : Int32)), .val (.int (1 : Int32)), .val (.int y7)] [(.int (0 : Int32)), (.ref a0)])
  refine ogo (fun _ z_ => XS.iloadN X12.here hx rfl (hb hby d2_27) rfl z_) ?_
  show OWay p e below G T12 (mkF m 28 #[.val (.ref a0), .val (.int (6 : Int32)), .val (.int (0 : Int32)), .val (.int (1 : Int32)), .val (.int y7)] [(.int (1 : Int32)), (.int (0 : Int32)), (.ref a0)])
  refine ogo (fun _ z_ => XS.iadd X12.here hx rfl (hb hby d2_28) rfl z_) ?_
  show OWay p e below G T12 (mkF m 29 #[.val (.ref a0), .val (.int (6 : Int32)), .val (.int (0 : Int32)), .val (.int (1 : Int32)), .val (.int y7)] [(.int ((0 : Int32) + (1 : Int32))), (.ref a0)])
  refine ogoE (g' := (mkF m 29 #[.val (.ref a0), .val (.int (6 : Int32)), .val (.int (0 : Int32)), .val (.int (1 : Int32)), .val (.int y7)] [(.int (1 : Int32)), (.ref a0)])) (by rw [show ((0 : Int32) + (1 : Int32)) = (1 : Int32) from by decide]) ?_
  refine ogo (fun _ z_ => XS.iload X12.here hx rfl (hb hby d2_29) rfl z_) ?_
  show OWay p e below G T12 (mkF m 31 #[.val (.ref a0), .val (.int (6 : Int32)), .val (.int (0 : Int32)), .val (.int (1 : Int32)), .val (.int y7)] [(.int y7), (.int (1 : Int32)), (.ref a0)])
  obtain ⟨cl_o14, Ar_o14, q_o14, S_o14, N_o14, H_o14, G_o14⟩ := id V_12
  have hin_o14 : ¬ ((1 : Int32) < 0 ∨ cl_o14.slots.size ≤ ((1 : Int32)).toNatClampNeg) := inb_of S_o14 ⟨by decide, by decide⟩
  obtain ⟨T15, h15, X15, eT15, W15, st15⟩ := stI X12 hx hZ eT12 Ar_o14 (j := (1 : Int32)) hin_o14 (g := (mkF m 31 #[.val (.ref a0), .val (.int (6 : Int32)), .val (.int (0 : Int32)), .val (.int (1 : Int32)), .val (.int y7)] [(.int y7), (.int (1 : Int32)), (.ref a0)])) rfl rfl (hb hby d2_31)
  have K16 : Keep h0 h15 [a0] := K13.wr W15 (Or.inl (List.mem_of_getElem? (i := 0) rfl))
  have V_15 : Arv Z h15 a0 kk .int (18 : Int32) [(.int y6), (.int y7), (.int y2), (.int y3), (.int y4), (.int y5), (.int y0), (.int y1), (.int y8), (.int y9), (.int y10), (.int y11), (.int y12), (.int y13), (.int y14), (.int y15), (.int y16), (.int y17)] (.int (0 : Int32)) := Arv.set Ar_o14 q_o14 S_o14 N_o14 H_o14 G_o14 rfl W15 1 rfl (Nat.le_of_ble_eq_true rfl)
  have N15 := Fr.snoc X15 N12 g_a0
  refine ogo st15 ?_
  show OWay p e below G T15 (mkF m 32 #[.val (.ref a0), .val (.int (6 : Int32)), .val (.int (0 : Int32)), .val (.int (1 : Int32)), .val (.int y7)] [])
  refine ogo (fun _ z_ => XS.iinc X15.here hx rfl (hb hby d2_32) rfl (l' := #[.val (.ref a0), .val (.int (6 : Int32)), .val (.int (0 : Int32)), .val (.int ((1 : Int32) + (1 : Int32))), .val (.int y7)]) rfl z_) ?_
  show OWay p e below G T15 (mkF m 35 #[.val (.ref a0), .val (.int (6 : Int32)), .val (.int (0 : Int32)), .val (.int ((1 : Int32) + (1 : Int32))), .val (.int y7)] [])
  refine ogoE (g' := (mkF m 35 #[.val (.ref a0), .val (.int (6 : Int32)), .val (.int (0 : Int32)), .val (.int (2 : Int32)), .val (.int y7)] [])) (by rw [show ((1 : Int32) + (1 : Int32)) = (2 : Int32) from by decide]) ?_
  refine ogo (fun _ z_ => XS.goto X15.here hx rfl (pc0 := 35) (pc' := 2) rfl (hb hby d2_35) (by decide) (by decide) z_) ?_
  show OWay p e below G T15 (mkF m 2 #[.val (.ref a0), .val (.int (6 : Int32)), .val (.int (0 : Int32)), .val (.int (2 : Int32)), .val (.int y7)] [])
  refine ogo (fun _ z_ => XS.iloadN X15.here hx rfl (hb hby d2_2) rfl z_) ?_
  show OWay p e below G T15 (mkF m 3 #[.val (.ref a0), .val (.int (6 : Int32)), .val (.int (0 : Int32)), .val (.int (2 : Int32)), .val (.int y7)] [(.int (2 : Int32))])
  refine ogo (fun _ z_ => XS.bipush X15.here hx rfl (hb hby d2_3) z_) ?_
  show OWay p e below G T15 (mkF m 5 #[.val (.ref a0), .val (.int (6 : Int32)), .val (.int (0 : Int32)), .val (.int (2 : Int32)), .val (.int y7)] [(.int (6 : Int32)), (.int (2 : Int32))])
  refine ogo (fun _ z_ => XS.icmpNo X15.here hx rfl (hb hby d2_5) rfl (tlt (by decide)).2.1 z_) ?_
  show OWay p e below G T15 (mkF m 8 #[.val (.ref a0), .val (.int (6 : Int32)), .val (.int (0 : Int32)), .val (.int (2 : Int32)), .val (.int y7)] [])
  refine ogo (fun _ z_ => XS.aloadN X15.here hx rfl (hb hby d2_8) rfl rfl z_) ?_
  show OWay p e below G T15 (mkF m 9 #[.val (.ref a0), .val (.int (6 : Int32)), .val (.int (0 : Int32)), .val (.int (2 : Int32)), .val (.int y7)] [(.ref a0)])
  refine ogo (fun _ z_ => XS.iloadN X15.here hx rfl (hb hby d2_9) rfl z_) ?_
  show OWay p e below G T15 (mkF m 10 #[.val (.ref a0), .val (.int (6 : Int32)), .val (.int (0 : Int32)), .val (.int (2 : Int32)), .val (.int y7)] [(.int (6 : Int32)), (.ref a0)])
  refine ogo (fun _ z_ => XS.iloadN X15.here hx rfl (hb hby d2_10) rfl z_) ?_
  show OWay p e below G T15 (mkF m 11 #[.val (.ref a0), .val (.int (6 : Int32)), .val (.int (0 : Int32)), .val (.int (2 : Int32)), .val (.int y7)] [(.int (2 : Int32)), (.int (6 : Int32)), (.ref a0)])
  refine ogo (fun _ z_ => XS.iadd X15.here hx rfl (hb hby d2_11) rfl z_) ?_
  show OWay p e below G T15 (mkF m 12 #[.val (.ref a0), .val (.int (6 : Int32)), .val (.int (0 : Int32)), .val (.int (2 : Int32)), .val (.int y7)] [(.int ((6 : Int32) + (2 : Int32))), (.ref a0)])
  refine ogoE (g' := (mkF m 12 #[.val (.ref a0), .val (.int (6 : Int32)), .val (.int (0 : Int32)), .val (.int (2 : Int32)), .val (.int y7)] [(.int (8 : Int32)), (.ref a0)])) (by rw [show ((6 : Int32) + (2 : Int32)) = (8 : Int32) from by decide]) ?_
  obtain ⟨cl_o17, Ar_o17, q_o17, S_o17, N_o17, H_o17, G_o17⟩ := id V_15
  have hin_o17 : ¬ ((8 : Int32) < 0 ∨ cl_o17.slots.size ≤ ((8 : Int32)).toNatClampNeg) := inb_of S_o17 ⟨by decide, by decide⟩
  have hat_o17 : cl_o17.slots[((8 : Int32)).toNatClampNeg]? = some (.int y8) := H_o17.at hin_o17 rfl
  refine ogo (fun _ z_ => X15.iaload hx (j := (8 : Int32)) (v := (.int y8)) (by rw [eT15]; exact Ar_o17.1) (State.isArrayOf_alike hZ.alike Ar_o17.2.1) Ar_o17.2.2 hin_o17 hat_o17 (g := (mkF m 12 #[.val (.ref a0), .val (.int (6 : Int32)), .val (.int (0 : Int32)), .val (.int (2 : Int32)), .val (.int y7)] [(.int (8 : Int32)), (.ref a0)])) rfl rfl (hb hby d2_12) _ z_) ?_
  show OWay p e below G T15 (mkF m 13 #[.val (.ref a0), .val (.int (6 : Int32)), .val (.int (0 : Int32)), .val (.int (2 : Int32)), .val (.int y7)] [(.int y8)])
  refine ogo (fun _ z_ => XS.istore X15.here hx rfl (hb hby d2_13) rfl (l' := #[.val (.ref a0), .val (.int (6 : Int32)), .val (.int (0 : Int32)), .val (.int (2 : Int32)), .val (.int y8)]) rfl z_) ?_
  show OWay p e below G T15 (mkF m 15 #[.val (.ref a0), .val (.int (6 : Int32)), .val (.int (0 : Int32)), .val (.int (2 : Int32)), .val (.int y8)] [])
  refine ogo (fun _ z_ => XS.aloadN X15.here hx rfl (hb hby d2_15) rfl rfl z_) ?_
  show OWay p e below G T15 (mkF m 16 #[.val (.ref a0), .val (.int (6 : Int32)), .val (.int (0 : Int32)), .val (.int (2 : Int32)), .val (.int y8)] [(.ref a0)])
  refine ogo (fun _ z_ => XS.iloadN X15.here hx rfl (hb hby d2_16) rfl z_) ?_
  show OWay p e below G T15 (mkF m 17 #[.val (.ref a0), .val (.int (6 : Int32)), .val (.int (0 : Int32)), .val (.int (2 : Int32)), .val (.int y8)] [(.int (6 : Int32)), (.ref a0)])
  refine ogo (fun _ z_ => XS.iloadN X15.here hx rfl (hb hby d2_17) rfl z_) ?_
  show OWay p e below G T15 (mkF m 18 #[.val (.ref a0), .val (.int (6 : Int32)), .val (.int (0 : Int32)), .val (.int (2 : Int32)), .val (.int y8)] [(.int (2 : Int32)), (.int (6 : Int32)), (.ref a0)])
  refine ogo (fun _ z_ => XS.iadd X15.here hx rfl (hb hby d2_18) rfl z_) ?_
  show OWay p e below G T15 (mkF m 19 #[.val (.ref a0), .val (.int (6 : Int32)), .val (.int (0 : Int32)), .val (.int (2 : Int32)), .val (.int y8)] [(.int ((6 : Int32) + (2 : Int32))), (.ref a0)])
  refine ogoE (g' := (mkF m 19 #[.val (.ref a0), .val (.int (6 : Int32)), .val (.int (0 : Int32)), .val (.int (2 : Int32)), .val (.int y8)] [(.int (8 : Int32)), (.ref a0)])) (by rw [show ((6 : Int32) + (2 : Int32)) = (8 : Int32) from by decide]) ?_
  refine ogo (fun _ z_ => XS.aloadN X15.here hx rfl (hb hby d2_19) rfl rfl z_) ?_
  show OWay p e below G T15 (mkF m 20 #[.val (.ref a0), .val (.int (6 : Int32)), .val (.int (0 : Int32)), .val (.int (2 : Int32)), .val (.int y8)] [(.ref a0), (.int (8 : Int32)), (.ref a0)])
  refine ogo (fun _ z_ => XS.iloadN X15.here hx rfl (hb hby d2_20) rfl z_) ?_
  show OWay p e below G T15 (mkF m 21 #[.val (.ref a0), .val (.int (6 : Int32)), .val (.int (0 : Int32)), .val (.int (2 : Int32)), .val (.int y8)] [(.int (0 : Int32)), (.ref a0), (.int (8 : Int32)), (.ref a0)])
  refine ogo (fun _ z_ => XS.iloadN X15.here hx rfl (hb hby d2_21) rfl z_) ?_
  show OWay p e below G T15 (mkF m 22 #[.val (.ref a0), .val (.int (6 : Int32)), .val (.int (0 : Int32)), .val (.int (2 : Int32)), .val (.int y8)] [(.int (2 : Int32)), (.int (0 : Int32)), (.ref a0), (.int (8 : Int32)), (.ref a0)])
  refine ogo (fun _ z_ => XS.iadd X15.here hx rfl (hb hby d2_22) rfl z_) ?_
  show OWay p e below G T15 (mkF m 23 #[.val (.ref a0), .val (.int (6 : Int32)), .val (.int (0 : Int32)), .val (.int (2 : Int32)), .val (.int y8)] [(.int ((0 : Int32) + (2 : Int32))), (.ref a0), (.int (8 : Int32)), (.ref a0)])
  refine ogoE (g' := (mkF m 23 #[.val (.ref a0), .val (.int (6 : Int32)), .val (.int (0 : Int32)), .val (.int (2 : Int32)), .val (.int y8)] [(.int (2 : Int32)), (.ref a0), (.int (8 : Int32)), (.ref a0)])) (by rw [show ((0 : Int32) + (2 : Int32)) = (2 : Int32) from by decide]) ?_
  obtain ⟨cl_o18, Ar_o18, q_o18, S_o18, N_o18, H_o18, G_o18⟩ := id V_15
  have hin_o18 : ¬ ((2 : Int32) < 0 ∨ cl_o18.slots.size ≤ ((2 : Int32)).toNatClampNeg) := inb_of S_o18 ⟨by decide, by decide⟩
  have hat_o18 : cl_o18.slots[((2 : Int32)).toNatClampNeg]? = some (.int y2) := H_o18.at hin_o18 rfl
  refine ogo (fun _ z_ => X15.iaload hx (j := (2 : Int32)) (v := (.int y2)) (by rw [eT15]; exact Ar_o18.1) (State.isArrayOf_alike hZ.alike Ar_o18.2.1) Ar_o18.2.2 hin_o18 hat_o18 (g := (mkF m 23 #[.val (.ref a0), .val (.int (6 : Int32)), .val (.int (0 : Int32)), .val (.int (2 : Int32)), .val (.int y8)] [(.int (2 : Int32)), (.ref a0), (.int (8 : Int32)), (.ref a0)])) rfl rfl (hb hby d2_23) _ z_) ?_
  show OWay p e below G T15 (mkF m 24 #[.val (.ref a0), .val (.int (6 : Int32)), .val (.int (0 : Int32)), .val (.int (2 : Int32)), .val (.int y8)] [(.int y2), (.int (8 : Int32)), (.ref a0)])
  obtain ⟨cl_o19, Ar_o19, q_o19, S_o19, N_o19, H_o19, G_o19⟩ := id V_15
  have hin_o19 : ¬ ((8 : Int32) < 0 ∨ cl_o19.slots.size ≤ ((8 : Int32)).toNatClampNeg) := inb_of S_o19 ⟨by decide, by decide⟩
  obtain ⟨T20, h20, X20, eT20, W20, st20⟩ := stI X15 hx hZ eT15 Ar_o19 (j := (8 : Int32)) hin_o19 (g := (mkF m 24 #[.val (.ref a0), .val (.int (6 : Int32)), .val (.int (0 : Int32)), .val (.int (2 : Int32)), .val (.int y8)] [(.int y2), (.int (8 : Int32)), (.ref a0)])) rfl rfl (hb hby d2_24)
  have K21 : Keep h0 h20 [a0] := K16.wr W20 (Or.inl (List.mem_of_getElem? (i := 0) rfl))
  have V_20 : Arv Z h20 a0 kk .int (18 : Int32) [(.int y6), (.int y7), (.int y2), (.int y3), (.int y4), (.int y5), (.int y0), (.int y1), (.int y2), (.int y9), (.int y10), (.int y11), (.int y12), (.int y13), (.int y14), (.int y15), (.int y16), (.int y17)] (.int (0 : Int32)) := Arv.set Ar_o19 q_o19 S_o19 N_o19 H_o19 G_o19 rfl W20 8 rfl (Nat.le_of_ble_eq_true rfl)
  have N20 := Fr.snoc X20 N15 g_a0
  refine ogo st20 ?_
  show OWay p e below G T20 (mkF m 25 #[.val (.ref a0), .val (.int (6 : Int32)), .val (.int (0 : Int32)), .val (.int (2 : Int32)), .val (.int y8)] [])
  refine ogo (fun _ z_ => XS.aloadN X20.here hx rfl (hb hby d2_25) rfl rfl z_) ?_
  show OWay p e below G T20 (mkF m 26 #[.val (.ref a0), .val (.int (6 : Int32)), .val (.int (0 : Int32)), .val (.int (2 : Int32)), .val (.int y8)] [(.ref a0)])
  refine ogo (fun _ z_ => XS.iloadN X20.here hx rfl (hb hby d2_26) rfl z_) ?_
  show OWay p e below G T20 (mkF m 27 #[.val (.ref a0), .val (.int (6 : Int32)), .val (.int (0 : Int32)), .val (.int (2 : Int32)), .val (.int y8)] [(.int (0 : Int32)), (.ref a0)])
  refine ogo (fun _ z_ => XS.iloadN X20.here hx rfl (hb hby d2_27) rfl z_) ?_
  show OWay p e below G T20 (mkF m 28 #[.val (.ref a0), .val (.int (6 : Int32)), .val (.int (0 : Int32)), .val (.int (2 : Int32)), .val (.int y8)] [(.int (2 : Int32)), (.int (0 : Int32)), (.ref a0)])
  refine ogo (fun _ z_ => XS.iadd X20.here hx rfl (hb hby d2_28) rfl z_) ?_
  show OWay p e below G T20 (mkF m 29 #[.val (.ref a0), .val (.int (6 : Int32)), .val (.int (0 : Int32)), .val (.int (2 : Int32)), .val (.int y8)] [(.int ((0 : Int32) + (2 : Int32))), (.ref a0)])
  refine ogoE (g' := (mkF m 29 #[.val (.ref a0), .val (.int (6 : Int32)), .val (.int (0 : Int32)), .val (.int (2 : Int32)), .val (.int y8)] [(.int (2 : Int32)), (.ref a0)])) (by rw [show ((0 : Int32) + (2 : Int32)) = (2 : Int32) from by decide]) ?_
  refine ogo (fun _ z_ => XS.iload X20.here hx rfl (hb hby d2_29) rfl z_) ?_
  show OWay p e below G T20 (mkF m 31 #[.val (.ref a0), .val (.int (6 : Int32)), .val (.int (0 : Int32)), .val (.int (2 : Int32)), .val (.int y8)] [(.int y8), (.int (2 : Int32)), (.ref a0)])
  obtain ⟨cl_o22, Ar_o22, q_o22, S_o22, N_o22, H_o22, G_o22⟩ := id V_20
  have hin_o22 : ¬ ((2 : Int32) < 0 ∨ cl_o22.slots.size ≤ ((2 : Int32)).toNatClampNeg) := inb_of S_o22 ⟨by decide, by decide⟩
  obtain ⟨T23, h23, X23, eT23, W23, st23⟩ := stI X20 hx hZ eT20 Ar_o22 (j := (2 : Int32)) hin_o22 (g := (mkF m 31 #[.val (.ref a0), .val (.int (6 : Int32)), .val (.int (0 : Int32)), .val (.int (2 : Int32)), .val (.int y8)] [(.int y8), (.int (2 : Int32)), (.ref a0)])) rfl rfl (hb hby d2_31)
  have K24 : Keep h0 h23 [a0] := K21.wr W23 (Or.inl (List.mem_of_getElem? (i := 0) rfl))
  have V_23 : Arv Z h23 a0 kk .int (18 : Int32) [(.int y6), (.int y7), (.int y8), (.int y3), (.int y4), (.int y5), (.int y0), (.int y1), (.int y2), (.int y9), (.int y10), (.int y11), (.int y12), (.int y13), (.int y14), (.int y15), (.int y16), (.int y17)] (.int (0 : Int32)) := Arv.set Ar_o22 q_o22 S_o22 N_o22 H_o22 G_o22 rfl W23 2 rfl (Nat.le_of_ble_eq_true rfl)
  have N23 := Fr.snoc X23 N20 g_a0
  refine ogo st23 ?_
  show OWay p e below G T23 (mkF m 32 #[.val (.ref a0), .val (.int (6 : Int32)), .val (.int (0 : Int32)), .val (.int (2 : Int32)), .val (.int y8)] [])
  refine ogo (fun _ z_ => XS.iinc X23.here hx rfl (hb hby d2_32) rfl (l' := #[.val (.ref a0), .val (.int (6 : Int32)), .val (.int (0 : Int32)), .val (.int ((2 : Int32) + (1 : Int32))), .val (.int y8)]) rfl z_) ?_
  show OWay p e below G T23 (mkF m 35 #[.val (.ref a0), .val (.int (6 : Int32)), .val (.int (0 : Int32)), .val (.int ((2 : Int32) + (1 : Int32))), .val (.int y8)] [])
  refine ogoE (g' := (mkF m 35 #[.val (.ref a0), .val (.int (6 : Int32)), .val (.int (0 : Int32)), .val (.int (3 : Int32)), .val (.int y8)] [])) (by rw [show ((2 : Int32) + (1 : Int32)) = (3 : Int32) from by decide]) ?_
  refine ogo (fun _ z_ => XS.goto X23.here hx rfl (pc0 := 35) (pc' := 2) rfl (hb hby d2_35) (by decide) (by decide) z_) ?_
  show OWay p e below G T23 (mkF m 2 #[.val (.ref a0), .val (.int (6 : Int32)), .val (.int (0 : Int32)), .val (.int (3 : Int32)), .val (.int y8)] [])
  refine ogo (fun _ z_ => XS.iloadN X23.here hx rfl (hb hby d2_2) rfl z_) ?_
  show OWay p e below G T23 (mkF m 3 #[.val (.ref a0), .val (.int (6 : Int32)), .val (.int (0 : Int32)), .val (.int (3 : Int32)), .val (.int y8)] [(.int (3 : Int32))])
  refine ogo (fun _ z_ => XS.bipush X23.here hx rfl (hb hby d2_3) z_) ?_
  show OWay p e below G T23 (mkF m 5 #[.val (.ref a0), .val (.int (6 : Int32)), .val (.int (0 : Int32)), .val (.int (3 : Int32)), .val (.int y8)] [(.int (6 : Int32)), (.int (3 : Int32))])
  refine ogo (fun _ z_ => XS.icmpNo X23.here hx rfl (hb hby d2_5) rfl (tlt (by decide)).2.1 z_) ?_
  show OWay p e below G T23 (mkF m 8 #[.val (.ref a0), .val (.int (6 : Int32)), .val (.int (0 : Int32)), .val (.int (3 : Int32)), .val (.int y8)] [])
  refine ogo (fun _ z_ => XS.aloadN X23.here hx rfl (hb hby d2_8) rfl rfl z_) ?_
  show OWay p e below G T23 (mkF m 9 #[.val (.ref a0), .val (.int (6 : Int32)), .val (.int (0 : Int32)), .val (.int (3 : Int32)), .val (.int y8)] [(.ref a0)])
  refine ogo (fun _ z_ => XS.iloadN X23.here hx rfl (hb hby d2_9) rfl z_) ?_
  show OWay p e below G T23 (mkF m 10 #[.val (.ref a0), .val (.int (6 : Int32)), .val (.int (0 : Int32)), .val (.int (3 : Int32)), .val (.int y8)] [(.int (6 : Int32)), (.ref a0)])
  refine ogo (fun _ z_ => XS.iloadN X23.here hx rfl (hb hby d2_10) rfl z_) ?_
  show OWay p e below G T23 (mkF m 11 #[.val (.ref a0), .val (.int (6 : Int32)), .val (.int (0 : Int32)), .val (.int (3 : Int32)), .val (.int y8)] [(.int (3 : Int32)), (.int (6 : Int32)), (.ref a0)])
  refine ogo (fun _ z_ => XS.iadd X23.here hx rfl (hb hby d2_11) rfl z_) ?_
  show OWay p e below G T23 (mkF m 12 #[.val (.ref a0), .val (.int (6 : Int32)), .val (.int (0 : Int32)), .val (.int (3 : Int32)), .val (.int y8)] [(.int ((6 : Int32) + (3 : Int32))), (.ref a0)])
  refine ogoE (g' := (mkF m 12 #[.val (.ref a0), .val (.int (6 : Int32)), .val (.int (0 : Int32)), .val (.int (3 : Int32)), .val (.int y8)] [(.int (9 : Int32)), (.ref a0)])) (by rw [show ((6 : Int32) + (3 : Int32)) = (9 : Int32) from by decide]) ?_
  obtain ⟨cl_o25, Ar_o25, q_o25, S_o25, N_o25, H_o25, G_o25⟩ := id V_23
  have hin_o25 : ¬ ((9 : Int32) < 0 ∨ cl_o25.slots.size ≤ ((9 : Int32)).toNatClampNeg) := inb_of S_o25 ⟨by decide, by decide⟩
  have hat_o25 : cl_o25.slots[((9 : Int32)).toNatClampNeg]? = some (.int y9) := H_o25.at hin_o25 rfl
  refine ogo (fun _ z_ => X23.iaload hx (j := (9 : Int32)) (v := (.int y9)) (by rw [eT23]; exact Ar_o25.1) (State.isArrayOf_alike hZ.alike Ar_o25.2.1) Ar_o25.2.2 hin_o25 hat_o25 (g := (mkF m 12 #[.val (.ref a0), .val (.int (6 : Int32)), .val (.int (0 : Int32)), .val (.int (3 : Int32)), .val (.int y8)] [(.int (9 : Int32)), (.ref a0)])) rfl rfl (hb hby d2_12) _ z_) ?_
  show OWay p e below G T23 (mkF m 13 #[.val (.ref a0), .val (.int (6 : Int32)), .val (.int (0 : Int32)), .val (.int (3 : Int32)), .val (.int y8)] [(.int y9)])
  refine ogo (fun _ z_ => XS.istore X23.here hx rfl (hb hby d2_13) rfl (l' := #[.val (.ref a0), .val (.int (6 : Int32)), .val (.int (0 : Int32)), .val (.int (3 : Int32)), .val (.int y9)]) rfl z_) ?_
  show OWay p e below G T23 (mkF m 15 #[.val (.ref a0), .val (.int (6 : Int32)), .val (.int (0 : Int32)), .val (.int (3 : Int32)), .val (.int y9)] [])
  refine ogo (fun _ z_ => XS.aloadN X23.here hx rfl (hb hby d2_15) rfl rfl z_) ?_
  show OWay p e below G T23 (mkF m 16 #[.val (.ref a0), .val (.int (6 : Int32)), .val (.int (0 : Int32)), .val (.int (3 : Int32)), .val (.int y9)] [(.ref a0)])
  refine ogo (fun _ z_ => XS.iloadN X23.here hx rfl (hb hby d2_16) rfl z_) ?_
  show OWay p e below G T23 (mkF m 17 #[.val (.ref a0), .val (.int (6 : Int32)), .val (.int (0 : Int32)), .val (.int (3 : Int32)), .val (.int y9)] [(.int (6 : Int32)), (.ref a0)])
  refine ogo (fun _ z_ => XS.iloadN X23.here hx rfl (hb hby d2_17) rfl z_) ?_
  show OWay p e below G T23 (mkF m 18 #[.val (.ref a0), .val (.int (6 : Int32)), .val (.int (0 : Int32)), .val (.int (3 : Int32)), .val (.int y9)] [(.int (3 : Int32)), (.int (6 : Int32)), (.ref a0)])
  refine ogo (fun _ z_ => XS.iadd X23.here hx rfl (hb hby d2_18) rfl z_) ?_
  show OWay p e below G T23 (mkF m 19 #[.val (.ref a0), .val (.int (6 : Int32)), .val (.int (0 : Int32)), .val (.int (3 : Int32)), .val (.int y9)] [(.int ((6 : Int32) + (3 : Int32))), (.ref a0)])
  refine ogoE (g' := (mkF m 19 #[.val (.ref a0), .val (.int (6 : Int32)), .val (.int (0 : Int32)), .val (.int (3 : Int32)), .val (.int y9)] [(.int (9 : Int32)), (.ref a0)])) (by rw [show ((6 : Int32) + (3 : Int32)) = (9 : Int32) from by decide]) ?_
  refine ogo (fun _ z_ => XS.aloadN X23.here hx rfl (hb hby d2_19) rfl rfl z_) ?_
  show OWay p e below G T23 (mkF m 20 #[.val (.ref a0), .val (.int (6 : Int32)), .val (.int (0 : Int32)), .val (.int (3 : Int32)), .val (.int y9)] [(.ref a0), (.int (9 : Int32)), (.ref a0)])
  refine ogo (fun _ z_ => XS.iloadN X23.here hx rfl (hb hby d2_20) rfl z_) ?_
  show OWay p e below G T23 (mkF m 21 #[.val (.ref a0), .val (.int (6 : Int32)), .val (.int (0 : Int32)), .val (.int (3 : Int32)), .val (.int y9)] [(.int (0 : Int32)), (.ref a0), (.int (9 : Int32)), (.ref a0)])
  refine ogo (fun _ z_ => XS.iloadN X23.here hx rfl (hb hby d2_21) rfl z_) ?_
  show OWay p e below G T23 (mkF m 22 #[.val (.ref a0), .val (.int (6 : Int32)), .val (.int (0 : Int32)), .val (.int (3 : Int32)), .val (.int y9)] [(.int (3 : Int32)), (.int (0 : Int32)), (.ref a0), (.int (9 : Int32)), (.ref a0)])
  refine ogo (fun _ z_ => XS.iadd X23.here hx rfl (hb hby d2_22) rfl z_) ?_
  show OWay p e below G T23 (mkF m 23 #[.val (.ref a0), .val (.int (6 : Int32)), .val (.int (0 : Int32)), .val (.int (3 : Int32)), .val (.int y9)] [(.int ((0 : Int32) + (3 : Int32))), (.ref a0), (.int (9 : Int32)), (.ref a0)])
  refine ogoE (g' := (mkF m 23 #[.val (.ref a0), .val (.int (6 : Int32)), .val (.int (0 : Int32)), .val (.int (3 : Int32)), .val (.int y9)] [(.int (3 : Int32)), (.ref a0), (.int (9 : Int32)), (.ref a0)])) (by rw [show ((0 : Int32) + (3 : Int32)) = (3 : Int32) from by decide]) ?_
  obtain ⟨cl_o26, Ar_o26, q_o26, S_o26, N_o26, H_o26, G_o26⟩ := id V_23
  have hin_o26 : ¬ ((3 : Int32) < 0 ∨ cl_o26.slots.size ≤ ((3 : Int32)).toNatClampNeg) := inb_of S_o26 ⟨by decide, by decide⟩
  have hat_o26 : cl_o26.slots[((3 : Int32)).toNatClampNeg]? = some (.int y3) := H_o26.at hin_o26 rfl
  refine ogo (fun _ z_ => X23.iaload hx (j := (3 : Int32)) (v := (.int y3)) (by rw [eT23]; exact Ar_o26.1) (State.isArrayOf_alike hZ.alike Ar_o26.2.1) Ar_o26.2.2 hin_o26 hat_o26 (g := (mkF m 23 #[.val (.ref a0), .val (.int (6 : Int32)), .val (.int (0 : Int32)), .val (.int (3 : Int32)), .val (.int y9)] [(.int (3 : Int32)), (.ref a0), (.int (9 : Int32)), (.ref a0)])) rfl rfl (hb hby d2_23) _ z_) ?_
  show OWay p e below G T23 (mkF m 24 #[.val (.ref a0), .val (.int (6 : Int32)), .val (.int (0 : Int32)), .val (.int (3 : Int32)), .val (.int y9)] [(.int y3), (.int (9 : Int32)), (.ref a0)])
  obtain ⟨cl_o27, Ar_o27, q_o27, S_o27, N_o27, H_o27, G_o27⟩ := id V_23
  have hin_o27 : ¬ ((9 : Int32) < 0 ∨ cl_o27.slots.size ≤ ((9 : Int32)).toNatClampNeg) := inb_of S_o27 ⟨by decide, by decide⟩
  obtain ⟨T28, h28, X28, eT28, W28, st28⟩ := stI X23 hx hZ eT23 Ar_o27 (j := (9 : Int32)) hin_o27 (g := (mkF m 24 #[.val (.ref a0), .val (.int (6 : Int32)), .val (.int (0 : Int32)), .val (.int (3 : Int32)), .val (.int y9)] [(.int y3), (.int (9 : Int32)), (.ref a0)])) rfl rfl (hb hby d2_24)
  have K29 : Keep h0 h28 [a0] := K24.wr W28 (Or.inl (List.mem_of_getElem? (i := 0) rfl))
  have V_28 : Arv Z h28 a0 kk .int (18 : Int32) [(.int y6), (.int y7), (.int y8), (.int y3), (.int y4), (.int y5), (.int y0), (.int y1), (.int y2), (.int y3), (.int y10), (.int y11), (.int y12), (.int y13), (.int y14), (.int y15), (.int y16), (.int y17)] (.int (0 : Int32)) := Arv.set Ar_o27 q_o27 S_o27 N_o27 H_o27 G_o27 rfl W28 9 rfl (Nat.le_of_ble_eq_true rfl)
  have N28 := Fr.snoc X28 N23 g_a0
  refine ogo st28 ?_
  show OWay p e below G T28 (mkF m 25 #[.val (.ref a0), .val (.int (6 : Int32)), .val (.int (0 : Int32)), .val (.int (3 : Int32)), .val (.int y9)] [])
  refine ogo (fun _ z_ => XS.aloadN X28.here hx rfl (hb hby d2_25) rfl rfl z_) ?_
  show OWay p e below G T28 (mkF m 26 #[.val (.ref a0), .val (.int (6 : Int32)), .val (.int (0 : Int32)), .val (.int (3 : Int32)), .val (.int y9)] [(.ref a0)])
  refine ogo (fun _ z_ => XS.iloadN X28.here hx rfl (hb hby d2_26) rfl z_) ?_
  show OWay p e below G T28 (mkF m 27 #[.val (.ref a0), .val (.int (6 : Int32)), .val (.int (0 : Int32)), .val (.int (3 : Int32)), .val (.int y9)] [(.int (0 : Int32)), (.ref a0)])
  refine ogo (fun _ z_ => XS.iloadN X28.here hx rfl (hb hby d2_27) rfl z_) ?_
  show OWay p e below G T28 (mkF m 28 #[.val (.ref a0), .val (.int (6 : Int32)), .val (.int (0 : Int32)), .val (.int (3 : Int32)), .val (.int y9)] [(.int (3 : Int32)), (.int (0 : Int32)), (.ref a0)])
  refine ogo (fun _ z_ => XS.iadd X28.here hx rfl (hb hby d2_28) rfl z_) ?_
  show OWay p e below G T28 (mkF m 29 #[.val (.ref a0), .val (.int (6 : Int32)), .val (.int (0 : Int32)), .val (.int (3 : Int32)), .val (.int y9)] [(.int ((0 : Int32) + (3 : Int32))), (.ref a0)])
  refine ogoE (g' := (mkF m 29 #[.val (.ref a0), .val (.int (6 : Int32)), .val (.int (0 : Int32)), .val (.int (3 : Int32)), .val (.int y9)] [(.int (3 : Int32)), (.ref a0)])) (by rw [show ((0 : Int32) + (3 : Int32)) = (3 : Int32) from by decide]) ?_
  refine ogo (fun _ z_ => XS.iload X28.here hx rfl (hb hby d2_29) rfl z_) ?_
  show OWay p e below G T28 (mkF m 31 #[.val (.ref a0), .val (.int (6 : Int32)), .val (.int (0 : Int32)), .val (.int (3 : Int32)), .val (.int y9)] [(.int y9), (.int (3 : Int32)), (.ref a0)])
  obtain ⟨cl_o30, Ar_o30, q_o30, S_o30, N_o30, H_o30, G_o30⟩ := id V_28
  have hin_o30 : ¬ ((3 : Int32) < 0 ∨ cl_o30.slots.size ≤ ((3 : Int32)).toNatClampNeg) := inb_of S_o30 ⟨by decide, by decide⟩
  obtain ⟨T31, h31, X31, eT31, W31, st31⟩ := stI X28 hx hZ eT28 Ar_o30 (j := (3 : Int32)) hin_o30 (g := (mkF m 31 #[.val (.ref a0), .val (.int (6 : Int32)), .val (.int (0 : Int32)), .val (.int (3 : Int32)), .val (.int y9)] [(.int y9), (.int (3 : Int32)), (.ref a0)])) rfl rfl (hb hby d2_31)
  have K32 : Keep h0 h31 [a0] := K29.wr W31 (Or.inl (List.mem_of_getElem? (i := 0) rfl))
  have V_31 : Arv Z h31 a0 kk .int (18 : Int32) [(.int y6), (.int y7), (.int y8), (.int y9), (.int y4), (.int y5), (.int y0), (.int y1), (.int y2), (.int y3), (.int y10), (.int y11), (.int y12), (.int y13), (.int y14), (.int y15), (.int y16), (.int y17)] (.int (0 : Int32)) := Arv.set Ar_o30 q_o30 S_o30 N_o30 H_o30 G_o30 rfl W31 3 rfl (Nat.le_of_ble_eq_true rfl)
  have N31 := Fr.snoc X31 N28 g_a0
  refine ogo st31 ?_
  show OWay p e below G T31 (mkF m 32 #[.val (.ref a0), .val (.int (6 : Int32)), .val (.int (0 : Int32)), .val (.int (3 : Int32)), .val (.int y9)] [])
  refine ogo (fun _ z_ => XS.iinc X31.here hx rfl (hb hby d2_32) rfl (l' := #[.val (.ref a0), .val (.int (6 : Int32)), .val (.int (0 : Int32)), .val (.int ((3 : Int32) + (1 : Int32))), .val (.int y9)]) rfl z_) ?_
  show OWay p e below G T31 (mkF m 35 #[.val (.ref a0), .val (.int (6 : Int32)), .val (.int (0 : Int32)), .val (.int ((3 : Int32) + (1 : Int32))), .val (.int y9)] [])
  refine ogoE (g' := (mkF m 35 #[.val (.ref a0), .val (.int (6 : Int32)), .val (.int (0 : Int32)), .val (.int (4 : Int32)), .val (.int y9)] [])) (by rw [show ((3 : Int32) + (1 : Int32)) = (4 : Int32) from by decide]) ?_
  refine ogo (fun _ z_ => XS.goto X31.here hx rfl (pc0 := 35) (pc' := 2) rfl (hb hby d2_35) (by decide) (by decide) z_) ?_
  show OWay p e below G T31 (mkF m 2 #[.val (.ref a0), .val (.int (6 : Int32)), .val (.int (0 : Int32)), .val (.int (4 : Int32)), .val (.int y9)] [])
  refine ogo (fun _ z_ => XS.iloadN X31.here hx rfl (hb hby d2_2) rfl z_) ?_
  show OWay p e below G T31 (mkF m 3 #[.val (.ref a0), .val (.int (6 : Int32)), .val (.int (0 : Int32)), .val (.int (4 : Int32)), .val (.int y9)] [(.int (4 : Int32))])
  refine ogo (fun _ z_ => XS.bipush X31.here hx rfl (hb hby d2_3) z_) ?_
  show OWay p e below G T31 (mkF m 5 #[.val (.ref a0), .val (.int (6 : Int32)), .val (.int (0 : Int32)), .val (.int (4 : Int32)), .val (.int y9)] [(.int (6 : Int32)), (.int (4 : Int32))])
  refine ogo (fun _ z_ => XS.icmpNo X31.here hx rfl (hb hby d2_5) rfl (tlt (by decide)).2.1 z_) ?_
  show OWay p e below G T31 (mkF m 8 #[.val (.ref a0), .val (.int (6 : Int32)), .val (.int (0 : Int32)), .val (.int (4 : Int32)), .val (.int y9)] [])
  refine ogo (fun _ z_ => XS.aloadN X31.here hx rfl (hb hby d2_8) rfl rfl z_) ?_
  show OWay p e below G T31 (mkF m 9 #[.val (.ref a0), .val (.int (6 : Int32)), .val (.int (0 : Int32)), .val (.int (4 : Int32)), .val (.int y9)] [(.ref a0)])
  refine ogo (fun _ z_ => XS.iloadN X31.here hx rfl (hb hby d2_9) rfl z_) ?_
  show OWay p e below G T31 (mkF m 10 #[.val (.ref a0), .val (.int (6 : Int32)), .val (.int (0 : Int32)), .val (.int (4 : Int32)), .val (.int y9)] [(.int (6 : Int32)), (.ref a0)])
  refine ogo (fun _ z_ => XS.iloadN X31.here hx rfl (hb hby d2_10) rfl z_) ?_
  show OWay p e below G T31 (mkF m 11 #[.val (.ref a0), .val (.int (6 : Int32)), .val (.int (0 : Int32)), .val (.int (4 : Int32)), .val (.int y9)] [(.int (4 : Int32)), (.int (6 : Int32)), (.ref a0)])
  refine ogo (fun _ z_ => XS.iadd X31.here hx rfl (hb hby d2_11) rfl z_) ?_
  show OWay p e below G T31 (mkF m 12 #[.val (.ref a0), .val (.int (6 : Int32)), .val (.int (0 : Int32)), .val (.int (4 : Int32)), .val (.int y9)] [(.int ((6 : Int32) + (4 : Int32))), (.ref a0)])
  refine ogoE (g' := (mkF m 12 #[.val (.ref a0), .val (.int (6 : Int32)), .val (.int (0 : Int32)), .val (.int (4 : Int32)), .val (.int y9)] [(.int (10 : Int32)), (.ref a0)])) (by rw [show ((6 : Int32) + (4 : Int32)) = (10 : Int32) from by decide]) ?_
  obtain ⟨cl_o33, Ar_o33, q_o33, S_o33, N_o33, H_o33, G_o33⟩ := id V_31
  have hin_o33 : ¬ ((10 : Int32) < 0 ∨ cl_o33.slots.size ≤ ((10 : Int32)).toNatClampNeg) := inb_of S_o33 ⟨by decide, by decide⟩
  have hat_o33 : cl_o33.slots[((10 : Int32)).toNatClampNeg]? = some (.int y10) := H_o33.at hin_o33 rfl
  refine ogo (fun _ z_ => X31.iaload hx (j := (10 : Int32)) (v := (.int y10)) (by rw [eT31]; exact Ar_o33.1) (State.isArrayOf_alike hZ.alike Ar_o33.2.1) Ar_o33.2.2 hin_o33 hat_o33 (g := (mkF m 12 #[.val (.ref a0), .val (.int (6 : Int32)), .val (.int (0 : Int32)), .val (.int (4 : Int32)), .val (.int y9)] [(.int (10 : Int32)), (.ref a0)])) rfl rfl (hb hby d2_12) _ z_) ?_
  show OWay p e below G T31 (mkF m 13 #[.val (.ref a0), .val (.int (6 : Int32)), .val (.int (0 : Int32)), .val (.int (4 : Int32)), .val (.int y9)] [(.int y10)])
  refine ogo (fun _ z_ => XS.istore X31.here hx rfl (hb hby d2_13) rfl (l' := #[.val (.ref a0), .val (.int (6 : Int32)), .val (.int (0 : Int32)), .val (.int (4 : Int32)), .val (.int y10)]) rfl z_) ?_
  show OWay p e below G T31 (mkF m 15 #[.val (.ref a0), .val (.int (6 : Int32)), .val (.int (0 : Int32)), .val (.int (4 : Int32)), .val (.int y10)] [])
  refine ogo (fun _ z_ => XS.aloadN X31.here hx rfl (hb hby d2_15) rfl rfl z_) ?_
  show OWay p e below G T31 (mkF m 16 #[.val (.ref a0), .val (.int (6 : Int32)), .val (.int (0 : Int32)), .val (.int (4 : Int32)), .val (.int y10)] [(.ref a0)])
  refine ogo (fun _ z_ => XS.iloadN X31.here hx rfl (hb hby d2_16) rfl z_) ?_
  show OWay p e below G T31 (mkF m 17 #[.val (.ref a0), .val (.int (6 : Int32)), .val (.int (0 : Int32)), .val (.int (4 : Int32)), .val (.int y10)] [(.int (6 : Int32)), (.ref a0)])
  refine ogo (fun _ z_ => XS.iloadN X31.here hx rfl (hb hby d2_17) rfl z_) ?_
  show OWay p e below G T31 (mkF m 18 #[.val (.ref a0), .val (.int (6 : Int32)), .val (.int (0 : Int32)), .val (.int (4 : Int32)), .val (.int y10)] [(.int (4 : Int32)), (.int (6 : Int32)), (.ref a0)])
  refine ogo (fun _ z_ => XS.iadd X31.here hx rfl (hb hby d2_18) rfl z_) ?_
  show OWay p e below G T31 (mkF m 19 #[.val (.ref a0), .val (.int (6 : Int32)), .val (.int (0 : Int32)), .val (.int (4 : Int32)), .val (.int y10)] [(.int ((6 : Int32) + (4 : Int32))), (.ref a0)])
  refine ogoE (g' := (mkF m 19 #[.val (.ref a0), .val (.int (6 : Int32)), .val (.int (0 : Int32)), .val (.int (4 : Int32)), .val (.int y10)] [(.int (10 : Int32)), (.ref a0)])) (by rw [show ((6 : Int32) + (4 : Int32)) = (10 : Int32) from by decide]) ?_
  refine ogo (fun _ z_ => XS.aloadN X31.here hx rfl (hb hby d2_19) rfl rfl z_) ?_
  show OWay p e below G T31 (mkF m 20 #[.val (.ref a0), .val (.int (6 : Int32)), .val (.int (0 : Int32)), .val (.int (4 : Int32)), .val (.int y10)] [(.ref a0), (.int (10 : Int32)), (.ref a0)])
  refine ogo (fun _ z_ => XS.iloadN X31.here hx rfl (hb hby d2_20) rfl z_) ?_
  show OWay p e below G T31 (mkF m 21 #[.val (.ref a0), .val (.int (6 : Int32)), .val (.int (0 : Int32)), .val (.int (4 : Int32)), .val (.int y10)] [(.int (0 : Int32)), (.ref a0), (.int (10 : Int32)), (.ref a0)])
  refine ogo (fun _ z_ => XS.iloadN X31.here hx rfl (hb hby d2_21) rfl z_) ?_
  show OWay p e below G T31 (mkF m 22 #[.val (.ref a0), .val (.int (6 : Int32)), .val (.int (0 : Int32)), .val (.int (4 : Int32)), .val (.int y10)] [(.int (4 : Int32)), (.int (0 : Int32)), (.ref a0), (.int (10 : Int32)), (.ref a0)])
  refine ogo (fun _ z_ => XS.iadd X31.here hx rfl (hb hby d2_22) rfl z_) ?_
  show OWay p e below G T31 (mkF m 23 #[.val (.ref a0), .val (.int (6 : Int32)), .val (.int (0 : Int32)), .val (.int (4 : Int32)), .val (.int y10)] [(.int ((0 : Int32) + (4 : Int32))), (.ref a0), (.int (10 : Int32)), (.ref a0)])
  refine ogoE (g' := (mkF m 23 #[.val (.ref a0), .val (.int (6 : Int32)), .val (.int (0 : Int32)), .val (.int (4 : Int32)), .val (.int y10)] [(.int (4 : Int32)), (.ref a0), (.int (10 : Int32)), (.ref a0)])) (by rw [show ((0 : Int32) + (4 : Int32)) = (4 : Int32) from by decide]) ?_
  obtain ⟨cl_o34, Ar_o34, q_o34, S_o34, N_o34, H_o34, G_o34⟩ := id V_31
  have hin_o34 : ¬ ((4 : Int32) < 0 ∨ cl_o34.slots.size ≤ ((4 : Int32)).toNatClampNeg) := inb_of S_o34 ⟨by decide, by decide⟩
  have hat_o34 : cl_o34.slots[((4 : Int32)).toNatClampNeg]? = some (.int y4) := H_o34.at hin_o34 rfl
  refine ogo (fun _ z_ => X31.iaload hx (j := (4 : Int32)) (v := (.int y4)) (by rw [eT31]; exact Ar_o34.1) (State.isArrayOf_alike hZ.alike Ar_o34.2.1) Ar_o34.2.2 hin_o34 hat_o34 (g := (mkF m 23 #[.val (.ref a0), .val (.int (6 : Int32)), .val (.int (0 : Int32)), .val (.int (4 : Int32)), .val (.int y10)] [(.int (4 : Int32)), (.ref a0), (.int (10 : Int32)), (.ref a0)])) rfl rfl (hb hby d2_23) _ z_) ?_
  show OWay p e below G T31 (mkF m 24 #[.val (.ref a0), .val (.int (6 : Int32)), .val (.int (0 : Int32)), .val (.int (4 : Int32)), .val (.int y10)] [(.int y4), (.int (10 : Int32)), (.ref a0)])
  obtain ⟨cl_o35, Ar_o35, q_o35, S_o35, N_o35, H_o35, G_o35⟩ := id V_31
  have hin_o35 : ¬ ((10 : Int32) < 0 ∨ cl_o35.slots.size ≤ ((10 : Int32)).toNatClampNeg) := inb_of S_o35 ⟨by decide, by decide⟩
  obtain ⟨T36, h36, X36, eT36, W36, st36⟩ := stI X31 hx hZ eT31 Ar_o35 (j := (10 : Int32)) hin_o35 (g := (mkF m 24 #[.val (.ref a0), .val (.int (6 : Int32)), .val (.int (0 : Int32)), .val (.int (4 : Int32)), .val (.int y10)] [(.int y4), (.int (10 : Int32)), (.ref a0)])) rfl rfl (hb hby d2_24)
  have K37 : Keep h0 h36 [a0] := K32.wr W36 (Or.inl (List.mem_of_getElem? (i := 0) rfl))
  have V_36 : Arv Z h36 a0 kk .int (18 : Int32) [(.int y6), (.int y7), (.int y8), (.int y9), (.int y4), (.int y5), (.int y0), (.int y1), (.int y2), (.int y3), (.int y4), (.int y11), (.int y12), (.int y13), (.int y14), (.int y15), (.int y16), (.int y17)] (.int (0 : Int32)) := Arv.set Ar_o35 q_o35 S_o35 N_o35 H_o35 G_o35 rfl W36 10 rfl (Nat.le_of_ble_eq_true rfl)
  have N36 := Fr.snoc X36 N31 g_a0
  refine ogo st36 ?_
  show OWay p e below G T36 (mkF m 25 #[.val (.ref a0), .val (.int (6 : Int32)), .val (.int (0 : Int32)), .val (.int (4 : Int32)), .val (.int y10)] [])
  refine ogo (fun _ z_ => XS.aloadN X36.here hx rfl (hb hby d2_25) rfl rfl z_) ?_
  show OWay p e below G T36 (mkF m 26 #[.val (.ref a0), .val (.int (6 : Int32)), .val (.int (0 : Int32)), .val (.int (4 : Int32)), .val (.int y10)] [(.ref a0)])
  refine ogo (fun _ z_ => XS.iloadN X36.here hx rfl (hb hby d2_26) rfl z_) ?_
  show OWay p e below G T36 (mkF m 27 #[.val (.ref a0), .val (.int (6 : Int32)), .val (.int (0 : Int32)), .val (.int (4 : Int32)), .val (.int y10)] [(.int (0 : Int32)), (.ref a0)])
  refine ogo (fun _ z_ => XS.iloadN X36.here hx rfl (hb hby d2_27) rfl z_) ?_
  show OWay p e below G T36 (mkF m 28 #[.val (.ref a0), .val (.int (6 : Int32)), .val (.int (0 : Int32)), .val (.int (4 : Int32)), .val (.int y10)] [(.int (4 : Int32)), (.int (0 : Int32)), (.ref a0)])
  refine ogo (fun _ z_ => XS.iadd X36.here hx rfl (hb hby d2_28) rfl z_) ?_
  show OWay p e below G T36 (mkF m 29 #[.val (.ref a0), .val (.int (6 : Int32)), .val (.int (0 : Int32)), .val (.int (4 : Int32)), .val (.int y10)] [(.int ((0 : Int32) + (4 : Int32))), (.ref a0)])
  refine ogoE (g' := (mkF m 29 #[.val (.ref a0), .val (.int (6 : Int32)), .val (.int (0 : Int32)), .val (.int (4 : Int32)), .val (.int y10)] [(.int (4 : Int32)), (.ref a0)])) (by rw [show ((0 : Int32) + (4 : Int32)) = (4 : Int32) from by decide]) ?_
  refine ogo (fun _ z_ => XS.iload X36.here hx rfl (hb hby d2_29) rfl z_) ?_
  show OWay p e below G T36 (mkF m 31 #[.val (.ref a0), .val (.int (6 : Int32)), .val (.int (0 : Int32)), .val (.int (4 : Int32)), .val (.int y10)] [(.int y10), (.int (4 : Int32)), (.ref a0)])
  obtain ⟨cl_o38, Ar_o38, q_o38, S_o38, N_o38, H_o38, G_o38⟩ := id V_36
  have hin_o38 : ¬ ((4 : Int32) < 0 ∨ cl_o38.slots.size ≤ ((4 : Int32)).toNatClampNeg) := inb_of S_o38 ⟨by decide, by decide⟩
  obtain ⟨T39, h39, X39, eT39, W39, st39⟩ := stI X36 hx hZ eT36 Ar_o38 (j := (4 : Int32)) hin_o38 (g := (mkF m 31 #[.val (.ref a0), .val (.int (6 : Int32)), .val (.int (0 : Int32)), .val (.int (4 : Int32)), .val (.int y10)] [(.int y10), (.int (4 : Int32)), (.ref a0)])) rfl rfl (hb hby d2_31)
  have K40 : Keep h0 h39 [a0] := K37.wr W39 (Or.inl (List.mem_of_getElem? (i := 0) rfl))
  have V_39 : Arv Z h39 a0 kk .int (18 : Int32) [(.int y6), (.int y7), (.int y8), (.int y9), (.int y10), (.int y5), (.int y0), (.int y1), (.int y2), (.int y3), (.int y4), (.int y11), (.int y12), (.int y13), (.int y14), (.int y15), (.int y16), (.int y17)] (.int (0 : Int32)) := Arv.set Ar_o38 q_o38 S_o38 N_o38 H_o38 G_o38 rfl W39 4 rfl (Nat.le_of_ble_eq_true rfl)
  have N39 := Fr.snoc X39 N36 g_a0
  refine ogo st39 ?_
  show OWay p e below G T39 (mkF m 32 #[.val (.ref a0), .val (.int (6 : Int32)), .val (.int (0 : Int32)), .val (.int (4 : Int32)), .val (.int y10)] [])
  refine ogo (fun _ z_ => XS.iinc X39.here hx rfl (hb hby d2_32) rfl (l' := #[.val (.ref a0), .val (.int (6 : Int32)), .val (.int (0 : Int32)), .val (.int ((4 : Int32) + (1 : Int32))), .val (.int y10)]) rfl z_) ?_
  show OWay p e below G T39 (mkF m 35 #[.val (.ref a0), .val (.int (6 : Int32)), .val (.int (0 : Int32)), .val (.int ((4 : Int32) + (1 : Int32))), .val (.int y10)] [])
  refine ogoE (g' := (mkF m 35 #[.val (.ref a0), .val (.int (6 : Int32)), .val (.int (0 : Int32)), .val (.int (5 : Int32)), .val (.int y10)] [])) (by rw [show ((4 : Int32) + (1 : Int32)) = (5 : Int32) from by decide]) ?_
  refine ogo (fun _ z_ => XS.goto X39.here hx rfl (pc0 := 35) (pc' := 2) rfl (hb hby d2_35) (by decide) (by decide) z_) ?_
  show OWay p e below G T39 (mkF m 2 #[.val (.ref a0), .val (.int (6 : Int32)), .val (.int (0 : Int32)), .val (.int (5 : Int32)), .val (.int y10)] [])
  refine ogo (fun _ z_ => XS.iloadN X39.here hx rfl (hb hby d2_2) rfl z_) ?_
  show OWay p e below G T39 (mkF m 3 #[.val (.ref a0), .val (.int (6 : Int32)), .val (.int (0 : Int32)), .val (.int (5 : Int32)), .val (.int y10)] [(.int (5 : Int32))])
  refine ogo (fun _ z_ => XS.bipush X39.here hx rfl (hb hby d2_3) z_) ?_
  show OWay p e below G T39 (mkF m 5 #[.val (.ref a0), .val (.int (6 : Int32)), .val (.int (0 : Int32)), .val (.int (5 : Int32)), .val (.int y10)] [(.int (6 : Int32)), (.int (5 : Int32))])
  refine ogo (fun _ z_ => XS.icmpNo X39.here hx rfl (hb hby d2_5) rfl (tlt (by decide)).2.1 z_) ?_
  show OWay p e below G T39 (mkF m 8 #[.val (.ref a0), .val (.int (6 : Int32)), .val (.int (0 : Int32)), .val (.int (5 : Int32)), .val (.int y10)] [])
  refine ogo (fun _ z_ => XS.aloadN X39.here hx rfl (hb hby d2_8) rfl rfl z_) ?_
  show OWay p e below G T39 (mkF m 9 #[.val (.ref a0), .val (.int (6 : Int32)), .val (.int (0 : Int32)), .val (.int (5 : Int32)), .val (.int y10)] [(.ref a0)])
  refine ogo (fun _ z_ => XS.iloadN X39.here hx rfl (hb hby d2_9) rfl z_) ?_
  show OWay p e below G T39 (mkF m 10 #[.val (.ref a0), .val (.int (6 : Int32)), .val (.int (0 : Int32)), .val (.int (5 : Int32)), .val (.int y10)] [(.int (6 : Int32)), (.ref a0)])
  refine ogo (fun _ z_ => XS.iloadN X39.here hx rfl (hb hby d2_10) rfl z_) ?_
  show OWay p e below G T39 (mkF m 11 #[.val (.ref a0), .val (.int (6 : Int32)), .val (.int (0 : Int32)), .val (.int (5 : Int32)), .val (.int y10)] [(.int (5 : Int32)), (.int (6 : Int32)), (.ref a0)])
  refine ogo (fun _ z_ => XS.iadd X39.here hx rfl (hb hby d2_11) rfl z_) ?_
  show OWay p e below G T39 (mkF m 12 #[.val (.ref a0), .val (.int (6 : Int32)), .val (.int (0 : Int32)), .val (.int (5 : Int32)), .val (.int y10)] [(.int ((6 : Int32) + (5 : Int32))), (.ref a0)])
  refine ogoE (g' := (mkF m 12 #[.val (.ref a0), .val (.int (6 : Int32)), .val (.int (0 : Int32)), .val (.int (5 : Int32)), .val (.int y10)] [(.int (11 : Int32)), (.ref a0)])) (by rw [show ((6 : Int32) + (5 : Int32)) = (11 : Int32) from by decide]) ?_
  obtain ⟨cl_o41, Ar_o41, q_o41, S_o41, N_o41, H_o41, G_o41⟩ := id V_39
  have hin_o41 : ¬ ((11 : Int32) < 0 ∨ cl_o41.slots.size ≤ ((11 : Int32)).toNatClampNeg) := inb_of S_o41 ⟨by decide, by decide⟩
  have hat_o41 : cl_o41.slots[((11 : Int32)).toNatClampNeg]? = some (.int y11) := H_o41.at hin_o41 rfl
  refine ogo (fun _ z_ => X39.iaload hx (j := (11 : Int32)) (v := (.int y11)) (by rw [eT39]; exact Ar_o41.1) (State.isArrayOf_alike hZ.alike Ar_o41.2.1) Ar_o41.2.2 hin_o41 hat_o41 (g := (mkF m 12 #[.val (.ref a0), .val (.int (6 : Int32)), .val (.int (0 : Int32)), .val (.int (5 : Int32)), .val (.int y10)] [(.int (11 : Int32)), (.ref a0)])) rfl rfl (hb hby d2_12) _ z_) ?_
  show OWay p e below G T39 (mkF m 13 #[.val (.ref a0), .val (.int (6 : Int32)), .val (.int (0 : Int32)), .val (.int (5 : Int32)), .val (.int y10)] [(.int y11)])
  refine ogo (fun _ z_ => XS.istore X39.here hx rfl (hb hby d2_13) rfl (l' := #[.val (.ref a0), .val (.int (6 : Int32)), .val (.int (0 : Int32)), .val (.int (5 : Int32)), .val (.int y11)]) rfl z_) ?_
  show OWay p e below G T39 (mkF m 15 #[.val (.ref a0), .val (.int (6 : Int32)), .val (.int (0 : Int32)), .val (.int (5 : Int32)), .val (.int y11)] [])
  refine ogo (fun _ z_ => XS.aloadN X39.here hx rfl (hb hby d2_15) rfl rfl z_) ?_
  show OWay p e below G T39 (mkF m 16 #[.val (.ref a0), .val (.int (6 : Int32)), .val (.int (0 : Int32)), .val (.int (5 : Int32)), .val (.int y11)] [(.ref a0)])
  refine ogo (fun _ z_ => XS.iloadN X39.here hx rfl (hb hby d2_16) rfl z_) ?_
  show OWay p e below G T39 (mkF m 17 #[.val (.ref a0), .val (.int (6 : Int32)), .val (.int (0 : Int32)), .val (.int (5 : Int32)), .val (.int y11)] [(.int (6 : Int32)), (.ref a0)])
  refine ogo (fun _ z_ => XS.iloadN X39.here hx rfl (hb hby d2_17) rfl z_) ?_
  show OWay p e below G T39 (mkF m 18 #[.val (.ref a0), .val (.int (6 : Int32)), .val (.int (0 : Int32)), .val (.int (5 : Int32)), .val (.int y11)] [(.int (5 : Int32)), (.int (6 : Int32)), (.ref a0)])
  refine ogo (fun _ z_ => XS.iadd X39.here hx rfl (hb hby d2_18) rfl z_) ?_
  show OWay p e below G T39 (mkF m 19 #[.val (.ref a0), .val (.int (6 : Int32)), .val (.int (0 : Int32)), .val (.int (5 : Int32)), .val (.int y11)] [(.int ((6 : Int32) + (5 : Int32))), (.ref a0)])
  refine ogoE (g' := (mkF m 19 #[.val (.ref a0), .val (.int (6 : Int32)), .val (.int (0 : Int32)), .val (.int (5 : Int32)), .val (.int y11)] [(.int (11 : Int32)), (.ref a0)])) (by rw [show ((6 : Int32) + (5 : Int32)) = (11 : Int32) from by decide]) ?_
  refine ogo (fun _ z_ => XS.aloadN X39.here hx rfl (hb hby d2_19) rfl rfl z_) ?_
  show OWay p e below G T39 (mkF m 20 #[.val (.ref a0), .val (.int (6 : Int32)), .val (.int (0 : Int32)), .val (.int (5 : Int32)), .val (.int y11)] [(.ref a0), (.int (11 : Int32)), (.ref a0)])
  refine ogo (fun _ z_ => XS.iloadN X39.here hx rfl (hb hby d2_20) rfl z_) ?_
  show OWay p e below G T39 (mkF m 21 #[.val (.ref a0), .val (.int (6 : Int32)), .val (.int (0 : Int32)), .val (.int (5 : Int32)), .val (.int y11)] [(.int (0 : Int32)), (.ref a0), (.int (11 : Int32)), (.ref a0)])
  refine ogo (fun _ z_ => XS.iloadN X39.here hx rfl (hb hby d2_21) rfl z_) ?_
  show OWay p e below G T39 (mkF m 22 #[.val (.ref a0), .val (.int (6 : Int32)), .val (.int (0 : Int32)), .val (.int (5 : Int32)), .val (.int y11)] [(.int (5 : Int32)), (.int (0 : Int32)), (.ref a0), (.int (11 : Int32)), (.ref a0)])
  refine ogo (fun _ z_ => XS.iadd X39.here hx rfl (hb hby d2_22) rfl z_) ?_
  show OWay p e below G T39 (mkF m 23 #[.val (.ref a0), .val (.int (6 : Int32)), .val (.int (0 : Int32)), .val (.int (5 : Int32)), .val (.int y11)] [(.int ((0 : Int32) + (5 : Int32))), (.ref a0), (.int (11 : Int32)), (.ref a0)])
  refine ogoE (g' := (mkF m 23 #[.val (.ref a0), .val (.int (6 : Int32)), .val (.int (0 : Int32)), .val (.int (5 : Int32)), .val (.int y11)] [(.int (5 : Int32)), (.ref a0), (.int (11 : Int32)), (.ref a0)])) (by rw [show ((0 : Int32) + (5 : Int32)) = (5 : Int32) from by decide]) ?_
  obtain ⟨cl_o42, Ar_o42, q_o42, S_o42, N_o42, H_o42, G_o42⟩ := id V_39
  have hin_o42 : ¬ ((5 : Int32) < 0 ∨ cl_o42.slots.size ≤ ((5 : Int32)).toNatClampNeg) := inb_of S_o42 ⟨by decide, by decide⟩
  have hat_o42 : cl_o42.slots[((5 : Int32)).toNatClampNeg]? = some (.int y5) := H_o42.at hin_o42 rfl
  refine ogo (fun _ z_ => X39.iaload hx (j := (5 : Int32)) (v := (.int y5)) (by rw [eT39]; exact Ar_o42.1) (State.isArrayOf_alike hZ.alike Ar_o42.2.1) Ar_o42.2.2 hin_o42 hat_o42 (g := (mkF m 23 #[.val (.ref a0), .val (.int (6 : Int32)), .val (.int (0 : Int32)), .val (.int (5 : Int32)), .val (.int y11)] [(.int (5 : Int32)), (.ref a0), (.int (11 : Int32)), (.ref a0)])) rfl rfl (hb hby d2_23) _ z_) ?_
  show OWay p e below G T39 (mkF m 24 #[.val (.ref a0), .val (.int (6 : Int32)), .val (.int (0 : Int32)), .val (.int (5 : Int32)), .val (.int y11)] [(.int y5), (.int (11 : Int32)), (.ref a0)])
  obtain ⟨cl_o43, Ar_o43, q_o43, S_o43, N_o43, H_o43, G_o43⟩ := id V_39
  have hin_o43 : ¬ ((11 : Int32) < 0 ∨ cl_o43.slots.size ≤ ((11 : Int32)).toNatClampNeg) := inb_of S_o43 ⟨by decide, by decide⟩
  obtain ⟨T44, h44, X44, eT44, W44, st44⟩ := stI X39 hx hZ eT39 Ar_o43 (j := (11 : Int32)) hin_o43 (g := (mkF m 24 #[.val (.ref a0), .val (.int (6 : Int32)), .val (.int (0 : Int32)), .val (.int (5 : Int32)), .val (.int y11)] [(.int y5), (.int (11 : Int32)), (.ref a0)])) rfl rfl (hb hby d2_24)
  have K45 : Keep h0 h44 [a0] := K40.wr W44 (Or.inl (List.mem_of_getElem? (i := 0) rfl))
  have V_44 : Arv Z h44 a0 kk .int (18 : Int32) [(.int y6), (.int y7), (.int y8), (.int y9), (.int y10), (.int y5), (.int y0), (.int y1), (.int y2), (.int y3), (.int y4), (.int y5), (.int y12), (.int y13), (.int y14), (.int y15), (.int y16), (.int y17)] (.int (0 : Int32)) := Arv.set Ar_o43 q_o43 S_o43 N_o43 H_o43 G_o43 rfl W44 11 rfl (Nat.le_of_ble_eq_true rfl)
  have N44 := Fr.snoc X44 N39 g_a0
  refine ogo st44 ?_
  show OWay p e below G T44 (mkF m 25 #[.val (.ref a0), .val (.int (6 : Int32)), .val (.int (0 : Int32)), .val (.int (5 : Int32)), .val (.int y11)] [])
  refine ogo (fun _ z_ => XS.aloadN X44.here hx rfl (hb hby d2_25) rfl rfl z_) ?_
  show OWay p e below G T44 (mkF m 26 #[.val (.ref a0), .val (.int (6 : Int32)), .val (.int (0 : Int32)), .val (.int (5 : Int32)), .val (.int y11)] [(.ref a0)])
  refine ogo (fun _ z_ => XS.iloadN X44.here hx rfl (hb hby d2_26) rfl z_) ?_
  show OWay p e below G T44 (mkF m 27 #[.val (.ref a0), .val (.int (6 : Int32)), .val (.int (0 : Int32)), .val (.int (5 : Int32)), .val (.int y11)] [(.int (0 : Int32)), (.ref a0)])
  refine ogo (fun _ z_ => XS.iloadN X44.here hx rfl (hb hby d2_27) rfl z_) ?_
  show OWay p e below G T44 (mkF m 28 #[.val (.ref a0), .val (.int (6 : Int32)), .val (.int (0 : Int32)), .val (.int (5 : Int32)), .val (.int y11)] [(.int (5 : Int32)), (.int (0 : Int32)), (.ref a0)])
  refine ogo (fun _ z_ => XS.iadd X44.here hx rfl (hb hby d2_28) rfl z_) ?_
  show OWay p e below G T44 (mkF m 29 #[.val (.ref a0), .val (.int (6 : Int32)), .val (.int (0 : Int32)), .val (.int (5 : Int32)), .val (.int y11)] [(.int ((0 : Int32) + (5 : Int32))), (.ref a0)])
  refine ogoE (g' := (mkF m 29 #[.val (.ref a0), .val (.int (6 : Int32)), .val (.int (0 : Int32)), .val (.int (5 : Int32)), .val (.int y11)] [(.int (5 : Int32)), (.ref a0)])) (by rw [show ((0 : Int32) + (5 : Int32)) = (5 : Int32) from by decide]) ?_
  refine ogo (fun _ z_ => XS.iload X44.here hx rfl (hb hby d2_29) rfl z_) ?_
  show OWay p e below G T44 (mkF m 31 #[.val (.ref a0), .val (.int (6 : Int32)), .val (.int (0 : Int32)), .val (.int (5 : Int32)), .val (.int y11)] [(.int y11), (.int (5 : Int32)), (.ref a0)])
  obtain ⟨cl_o46, Ar_o46, q_o46, S_o46, N_o46, H_o46, G_o46⟩ := id V_44
  have hin_o46 : ¬ ((5 : Int32) < 0 ∨ cl_o46.slots.size ≤ ((5 : Int32)).toNatClampNeg) := inb_of S_o46 ⟨by decide, by decide⟩
  obtain ⟨T47, h47, X47, eT47, W47, st47⟩ := stI X44 hx hZ eT44 Ar_o46 (j := (5 : Int32)) hin_o46 (g := (mkF m 31 #[.val (.ref a0), .val (.int (6 : Int32)), .val (.int (0 : Int32)), .val (.int (5 : Int32)), .val (.int y11)] [(.int y11), (.int (5 : Int32)), (.ref a0)])) rfl rfl (hb hby d2_31)
  have K48 : Keep h0 h47 [a0] := K45.wr W47 (Or.inl (List.mem_of_getElem? (i := 0) rfl))
  have V_47 : Arv Z h47 a0 kk .int (18 : Int32) [(.int y6), (.int y7), (.int y8), (.int y9), (.int y10), (.int y11), (.int y0), (.int y1), (.int y2), (.int y3), (.int y4), (.int y5), (.int y12), (.int y13), (.int y14), (.int y15), (.int y16), (.int y17)] (.int (0 : Int32)) := Arv.set Ar_o46 q_o46 S_o46 N_o46 H_o46 G_o46 rfl W47 5 rfl (Nat.le_of_ble_eq_true rfl)
  have N47 := Fr.snoc X47 N44 g_a0
  refine ogo st47 ?_
  show OWay p e below G T47 (mkF m 32 #[.val (.ref a0), .val (.int (6 : Int32)), .val (.int (0 : Int32)), .val (.int (5 : Int32)), .val (.int y11)] [])
  refine ogo (fun _ z_ => XS.iinc X47.here hx rfl (hb hby d2_32) rfl (l' := #[.val (.ref a0), .val (.int (6 : Int32)), .val (.int (0 : Int32)), .val (.int ((5 : Int32) + (1 : Int32))), .val (.int y11)]) rfl z_) ?_
  show OWay p e below G T47 (mkF m 35 #[.val (.ref a0), .val (.int (6 : Int32)), .val (.int (0 : Int32)), .val (.int ((5 : Int32) + (1 : Int32))), .val (.int y11)] [])
  refine ogoE (g' := (mkF m 35 #[.val (.ref a0), .val (.int (6 : Int32)), .val (.int (0 : Int32)), .val (.int (6 : Int32)), .val (.int y11)] [])) (by rw [show ((5 : Int32) + (1 : Int32)) = (6 : Int32) from by decide]) ?_
  refine ogo (fun _ z_ => XS.goto X47.here hx rfl (pc0 := 35) (pc' := 2) rfl (hb hby d2_35) (by decide) (by decide) z_) ?_
  show OWay p e below G T47 (mkF m 2 #[.val (.ref a0), .val (.int (6 : Int32)), .val (.int (0 : Int32)), .val (.int (6 : Int32)), .val (.int y11)] [])
  refine ogo (fun _ z_ => XS.iloadN X47.here hx rfl (hb hby d2_2) rfl z_) ?_
  show OWay p e below G T47 (mkF m 3 #[.val (.ref a0), .val (.int (6 : Int32)), .val (.int (0 : Int32)), .val (.int (6 : Int32)), .val (.int y11)] [(.int (6 : Int32))])
  refine ogo (fun _ z_ => XS.bipush X47.here hx rfl (hb hby d2_3) z_) ?_
  show OWay p e below G T47 (mkF m 5 #[.val (.ref a0), .val (.int (6 : Int32)), .val (.int (0 : Int32)), .val (.int (6 : Int32)), .val (.int y11)] [(.int (6 : Int32)), (.int (6 : Int32))])
  refine ogo (fun _ z_ => XS.icmpYes X47.here hx rfl (pc0 := 5) (pc' := 38) rfl (hb hby d2_5) rfl (flt (by decide)).2.1 (by decide) (by decide) z_) ?_
  show OWay p e below G T47 (mkF m 38 #[.val (.ref a0), .val (.int (6 : Int32)), .val (.int (0 : Int32)), .val (.int (6 : Int32)), .val (.int y11)] [])
  subst hG
  refine wRetV X47 hx hret hlk (hb hby d2_38) (by decide) (by decide) eT47 ?_
  exact ⟨rfl, N47, K48, V_47⟩
def swap11_rm : Room := { frames := 0, cells := 0, slots := 0, locals := 0 }
def swap11_Q (Z : State) (a0 : Addr) (kk : ClassId) (y0 : Int32) (y1 : Int32) (y2 : Int32) (y3 : Int32) (y4 : Int32) (y5 : Int32) (y6 : Int32) (y7 : Int32) (y8 : Int32) (y9 : Int32) (y10 : Int32) (y11 : Int32) (y12 : Int32) (y13 : Int32) (y14 : Int32) (y15 : Int32) (y16 : Int32) (y17 : Int32) (h0 : Heap) (n0 : Nat) (v : Option Value) (h : Heap) (L : List Loc) : Prop := (v = none) ∧ (Fr n0 L) ∧ (Keep h0 h [a0]) ∧ (Arv Z h a0 kk .int (18 : Int32) [(.int y0), (.int y1), (.int y2), (.int y3), (.int y4), (.int y5), (.int y6), (.int y7), (.int y8), (.int y9), (.int y10), (.int y11), (.int y12), (.int y13), (.int y14), (.int y15), (.int y16), (.int y17)] (.int (0 : Int32)))
theorem swap11_ef (m : MethodId) (a0 : Addr) : entryFrame m #[(.ref a0), (.int (6 : Int32)), (.int (6 : Int32))] 5 = mkF m 0 #[.val (.ref a0), .val (.int (6 : Int32)), .val (.int (6 : Int32)), .unset, .unset] [] := by first | (simp [entryFrame, mkF, argsToLocals, Value.category]; done) | rfl
set_option maxRecDepth 65536 in
set_option maxHeartbeats 40000000 in
theorem swap11_c (l : Launch) (Z : State) (az : Array Value) (hw : ∀ d ∈ tables_1, d.before az Z = true) (ws : List Jvm.Cond) (a0 : Addr) (kk : ClassId) (y0 : Int32) (y1 : Int32) (y2 : Int32) (y3 : Int32) (y4 : Int32) (y5 : Int32) (y6 : Int32) (y7 : Int32) (y8 : Int32) (y9 : Int32) (y10 : Int32) (y11 : Int32) (y12 : Int32) (y13 : Int32) (y14 : Int32) (y15 : Int32) (y16 : Int32) (y17 : Int32) (h0 : Heap) (n0 : Nat) (Z0 : n0 ≤ h0.size) (hp0 : Arv Z h0 a0 kk .int (18 : Int32) [(.int y0), (.int y1), (.int y2), (.int y3), (.int y4), (.int y5), (.int y6), (.int y7), (.int y8), (.int y9), (.int y10), (.int y11), (.int y12), (.int y13), (.int y14), (.int y15), (.int y16), (.int y17)] (.int (0 : Int32))) (hp1 : n0 ≤ a0) :
    OCon l (⟨"com/example/geotide/geotide/Members", "swap", "([III)V"⟩ : MethodName) prog_44_method_8_code 5 none ws swap11_rm Z #[(.ref a0), (.int (6 : Int32)), (.int (6 : Int32))] h0 (swap11_Q Z a0 kk y0 y1 y2 y3 y4 y5 y6 y7 y8 y9 y10 y11 y12 y13 y14 y15 y16 y17 h0 n0) := by
  refine ocon (plainFor_of_name pn_com_example_geotide_geotide_Members) ?_
  intro p e s m below meth c s₁ hx hby hml hown hnm hret hlk hZ X0 eh0
  have N0 := Fr.nil n0
  have K0 := Keep.refl h0 [a0]
  refine ogoE (swap11_ef m a0) ?_
  have g_a0 := hp1
  generalize hG : (OEnd s below (swap11_Q Z a0 kk y0 y1 y2 y3 y4 y5 y6 y7 y8 y9 y10 y11 y12 y13 y14 y15 y16 y17 h0 n0) swap11_rm.cells swap11_rm.slots) = G
  show OWay p e below G s₁ (mkF m 0 #[.val (.ref a0), .val (.int (6 : Int32)), .val (.int (6 : Int32)), .unset, .unset] [])
  refine ogo (fun _ z_ => XS.iconst X0.here hx rfl (hb hby d2_0) z_) ?_
  show OWay p e below G s₁ (mkF m 1 #[.val (.ref a0), .val (.int (6 : Int32)), .val (.int (6 : Int32)), .unset, .unset] [(.int (0 : Int32))])
  refine ogo (fun _ z_ => XS.istoreN X0.here hx rfl (hb hby d2_1) rfl (l' := #[.val (.ref a0), .val (.int (6 : Int32)), .val (.int (6 : Int32)), .val (.int (0 : Int32)), .unset]) rfl z_) ?_
  show OWay p e below G s₁ (mkF m 2 #[.val (.ref a0), .val (.int (6 : Int32)), .val (.int (6 : Int32)), .val (.int (0 : Int32)), .unset] [])
  refine ogo (fun _ z_ => XS.iloadN X0.here hx rfl (hb hby d2_2) rfl z_) ?_
  show OWay p e below G s₁ (mkF m 3 #[.val (.ref a0), .val (.int (6 : Int32)), .val (.int (6 : Int32)), .val (.int (0 : Int32)), .unset] [(.int (0 : Int32))])
  refine ogo (fun _ z_ => XS.bipush X0.here hx rfl (hb hby d2_3) z_) ?_
  show OWay p e below G s₁ (mkF m 5 #[.val (.ref a0), .val (.int (6 : Int32)), .val (.int (6 : Int32)), .val (.int (0 : Int32)), .unset] [(.int (6 : Int32)), (.int (0 : Int32))])
  refine ogo (fun _ z_ => XS.icmpNo X0.here hx rfl (hb hby d2_5) rfl (tlt (by decide)).2.1 z_) ?_
  show OWay p e below G s₁ (mkF m 8 #[.val (.ref a0), .val (.int (6 : Int32)), .val (.int (6 : Int32)), .val (.int (0 : Int32)), .unset] [])
  refine ogo (fun _ z_ => XS.aloadN X0.here hx rfl (hb hby d2_8) rfl rfl z_) ?_
  show OWay p e below G s₁ (mkF m 9 #[.val (.ref a0), .val (.int (6 : Int32)), .val (.int (6 : Int32)), .val (.int (0 : Int32)), .unset] [(.ref a0)])
  refine ogo (fun _ z_ => XS.iloadN X0.here hx rfl (hb hby d2_9) rfl z_) ?_
  show OWay p e below G s₁ (mkF m 10 #[.val (.ref a0), .val (.int (6 : Int32)), .val (.int (6 : Int32)), .val (.int (0 : Int32)), .unset] [(.int (6 : Int32)), (.ref a0)])
  refine ogo (fun _ z_ => XS.iloadN X0.here hx rfl (hb hby d2_10) rfl z_) ?_
  show OWay p e below G s₁ (mkF m 11 #[.val (.ref a0), .val (.int (6 : Int32)), .val (.int (6 : Int32)), .val (.int (0 : Int32)), .unset] [(.int (0 : Int32)), (.int (6 : Int32)), (.ref a0)])
  refine ogo (fun _ z_ => XS.iadd X0.here hx rfl (hb hby d2_11) rfl z_) ?_
  show OWay p e below G s₁ (mkF m 12 #[.val (.ref a0), .val (.int (6 : Int32)), .val (.int (6 : Int32)), .val (.int (0 : Int32)), .unset] [(.int ((6 : Int32) + (0 : Int32))), (.ref a0)])
  refine ogoE (g' := (mkF m 12 #[.val (.ref a0), .val (.int (6 : Int32)), .val (.int (6 : Int32)), .val (.int (0 : Int32)), .unset] [(.int (6 : Int32)), (.ref a0)])) (by rw [show ((6 : Int32) + (0 : Int32)) = (6 : Int32) from by decide]) ?_
  obtain ⟨cl_o1, Ar_o1, q_o1, S_o1, N_o1, H_o1, G_o1⟩ := id hp0
  have hin_o1 : ¬ ((6 : Int32) < 0 ∨ cl_o1.slots.size ≤ ((6 : Int32)).toNatClampNeg) := inb_of S_o1 ⟨by decide, by decide⟩
  have hat_o1 : cl_o1.slots[((6 : Int32)).toNatClampNeg]? = some (.int y6) := H_o1.at hin_o1 rfl
  refine ogo (fun _ z_ => X0.iaload hx (j := (6 : Int32)) (v := (.int y6)) (by rw [eh0]; exact Ar_o1.1) (State.isArrayOf_alike hZ.alike Ar_o1.2.1) Ar_o1.2.2 hin_o1 hat_o1 (g := (mkF m 12 #[.val (.ref a0), .val (.int (6 : Int32)), .val (.int (6 : Int32)), .val (.int (0 : Int32)), .unset] [(.int (6 : Int32)), (.ref a0)])) rfl rfl (hb hby d2_12) _ z_) ?_
  show OWay p e below G s₁ (mkF m 13 #[.val (.ref a0), .val (.int (6 : Int32)), .val (.int (6 : Int32)), .val (.int (0 : Int32)), .unset] [(.int y6)])
  refine ogo (fun _ z_ => XS.istore X0.here hx rfl (hb hby d2_13) rfl (l' := #[.val (.ref a0), .val (.int (6 : Int32)), .val (.int (6 : Int32)), .val (.int (0 : Int32)), .val (.int y6)]) rfl z_) ?_
  show OWay p e below G s₁ (mkF m 15 #[.val (.ref a0), .val (.int (6 : Int32)), .val (.int (6 : Int32)), .val (.int (0 : Int32)), .val (.int y6)] [])
  refine ogo (fun _ z_ => XS.aloadN X0.here hx rfl (hb hby d2_15) rfl rfl z_) ?_
  show OWay p e below G s₁ (mkF m 16 #[.val (.ref a0), .val (.int (6 : Int32)), .val (.int (6 : Int32)), .val (.int (0 : Int32)), .val (.int y6)] [(.ref a0)])
  refine ogo (fun _ z_ => XS.iloadN X0.here hx rfl (hb hby d2_16) rfl z_) ?_
  show OWay p e below G s₁ (mkF m 17 #[.val (.ref a0), .val (.int (6 : Int32)), .val (.int (6 : Int32)), .val (.int (0 : Int32)), .val (.int y6)] [(.int (6 : Int32)), (.ref a0)])
  refine ogo (fun _ z_ => XS.iloadN X0.here hx rfl (hb hby d2_17) rfl z_) ?_
  show OWay p e below G s₁ (mkF m 18 #[.val (.ref a0), .val (.int (6 : Int32)), .val (.int (6 : Int32)), .val (.int (0 : Int32)), .val (.int y6)] [(.int (0 : Int32)), (.int (6 : Int32)), (.ref a0)])
  refine ogo (fun _ z_ => XS.iadd X0.here hx rfl (hb hby d2_18) rfl z_) ?_
  show OWay p e below G s₁ (mkF m 19 #[.val (.ref a0), .val (.int (6 : Int32)), .val (.int (6 : Int32)), .val (.int (0 : Int32)), .val (.int y6)] [(.int ((6 : Int32) + (0 : Int32))), (.ref a0)])
  refine ogoE (g' := (mkF m 19 #[.val (.ref a0), .val (.int (6 : Int32)), .val (.int (6 : Int32)), .val (.int (0 : Int32)), .val (.int y6)] [(.int (6 : Int32)), (.ref a0)])) (by rw [show ((6 : Int32) + (0 : Int32)) = (6 : Int32) from by decide]) ?_
  refine ogo (fun _ z_ => XS.aloadN X0.here hx rfl (hb hby d2_19) rfl rfl z_) ?_
  show OWay p e below G s₁ (mkF m 20 #[.val (.ref a0), .val (.int (6 : Int32)), .val (.int (6 : Int32)), .val (.int (0 : Int32)), .val (.int y6)] [(.ref a0), (.int (6 : Int32)), (.ref a0)])
  refine ogo (fun _ z_ => XS.iloadN X0.here hx rfl (hb hby d2_20) rfl z_) ?_
  show OWay p e below G s₁ (mkF m 21 #[.val (.ref a0), .val (.int (6 : Int32)), .val (.int (6 : Int32)), .val (.int (0 : Int32)), .val (.int y6)] [(.int (6 : Int32)), (.ref a0), (.int (6 : Int32)), (.ref a0)])
  refine ogo (fun _ z_ => XS.iloadN X0.here hx rfl (hb hby d2_21) rfl z_) ?_
  show OWay p e below G s₁ (mkF m 22 #[.val (.ref a0), .val (.int (6 : Int32)), .val (.int (6 : Int32)), .val (.int (0 : Int32)), .val (.int y6)] [(.int (0 : Int32)), (.int (6 : Int32)), (.ref a0), (.int (6 : Int32)), (.ref a0)])
  refine ogo (fun _ z_ => XS.iadd X0.here hx rfl (hb hby d2_22) rfl z_) ?_
  show OWay p e below G s₁ (mkF m 23 #[.val (.ref a0), .val (.int (6 : Int32)), .val (.int (6 : Int32)), .val (.int (0 : Int32)), .val (.int y6)] [(.int ((6 : Int32) + (0 : Int32))), (.ref a0), (.int (6 : Int32)), (.ref a0)])
  refine ogoE (g' := (mkF m 23 #[.val (.ref a0), .val (.int (6 : Int32)), .val (.int (6 : Int32)), .val (.int (0 : Int32)), .val (.int y6)] [(.int (6 : Int32)), (.ref a0), (.int (6 : Int32)), (.ref a0)])) (by rw [show ((6 : Int32) + (0 : Int32)) = (6 : Int32) from by decide]) ?_
  obtain ⟨cl_o2, Ar_o2, q_o2, S_o2, N_o2, H_o2, G_o2⟩ := id hp0
  have hin_o2 : ¬ ((6 : Int32) < 0 ∨ cl_o2.slots.size ≤ ((6 : Int32)).toNatClampNeg) := inb_of S_o2 ⟨by decide, by decide⟩
  have hat_o2 : cl_o2.slots[((6 : Int32)).toNatClampNeg]? = some (.int y6) := H_o2.at hin_o2 rfl
  refine ogo (fun _ z_ => X0.iaload hx (j := (6 : Int32)) (v := (.int y6)) (by rw [eh0]; exact Ar_o2.1) (State.isArrayOf_alike hZ.alike Ar_o2.2.1) Ar_o2.2.2 hin_o2 hat_o2 (g := (mkF m 23 #[.val (.ref a0), .val (.int (6 : Int32)), .val (.int (6 : Int32)), .val (.int (0 : Int32)), .val (.int y6)] [(.int (6 : Int32)), (.ref a0), (.int (6 : Int32)), (.ref a0)])) rfl rfl (hb hby d2_23) _ z_) ?_
  show OWay p e below G s₁ (mkF m 24 #[.val (.ref a0), .val (.int (6 : Int32)), .val (.int (6 : Int32)), .val (.int (0 : Int32)), .val (.int y6)] [(.int y6), (.int (6 : Int32)), (.ref a0)])
  obtain ⟨cl_o3, Ar_o3, q_o3, S_o3, N_o3, H_o3, G_o3⟩ := id hp0
  have hin_o3 : ¬ ((6 : Int32) < 0 ∨ cl_o3.slots.size ≤ ((6 : Int32)).toNatClampNeg) := inb_of S_o3 ⟨by decide, by decide⟩
  obtain ⟨T4, h4, X4, eT4, W4, st4⟩ := stI X0 hx hZ eh0 Ar_o3 (j := (6 : Int32)) hin_o3 (g := (mkF m 24 #[.val (.ref a0), .val (.int (6 : Int32)), .val (.int (6 : Int32)), .val (.int (0 : Int32)), .val (.int y6)] [(.int y6), (.int (6 : Int32)), (.ref a0)])) rfl rfl (hb hby d2_24)
  have K5 : Keep h0 h4 [a0] := K0.wr W4 (Or.inl (List.mem_of_getElem? (i := 0) rfl))
  have V_4 : Arv Z h4 a0 kk .int (18 : Int32) [(.int y0), (.int y1), (.int y2), (.int y3), (.int y4), (.int y5), (.int y6), (.int y7), (.int y8), (.int y9), (.int y10), (.int y11), (.int y12), (.int y13), (.int y14), (.int y15), (.int y16), (.int y17)] (.int (0 : Int32)) := Arv.set Ar_o3 q_o3 S_o3 N_o3 H_o3 G_o3 rfl W4 6 rfl (Nat.le_of_ble_eq_true rfl)
  have N4 := Fr.snoc X4 N0 g_a0
  refine ogo st4 ?_
  show OWay p e below G T4 (mkF m 25 #[.val (.ref a0), .val (.int (6 : Int32)), .val (.int (6 : Int32)), .val (.int (0 : Int32)), .val (.int y6)] [])
  refine ogo (fun _ z_ => XS.aloadN X4.here hx rfl (hb hby d2_25) rfl rfl z_) ?_
  show OWay p e below G T4 (mkF m 26 #[.val (.ref a0), .val (.int (6 : Int32)), .val (.int (6 : Int32)), .val (.int (0 : Int32)), .val (.int y6)] [(.ref a0)])
  refine ogo (fun _ z_ => XS.iloadN X4.here hx rfl (hb hby d2_26) rfl z_) ?_
  show OWay p e below G T4 (mkF m 27 #[.val (.ref a0), .val (.int (6 : Int32)), .val (.int (6 : Int32)), .val (.int (0 : Int32)), .val (.int y6)] [(.int (6 : Int32)), (.ref a0)])
  refine ogo (fun _ z_ => XS.iloadN X4.here hx rfl (hb hby d2_27) rfl z_) ?_
  show OWay p e below G T4 (mkF m 28 #[.val (.ref a0), .val (.int (6 : Int32)), .val (.int (6 : Int32)), .val (.int (0 : Int32)), .val (.int y6)] [(.int (0 : Int32)), (.int (6 : Int32)), (.ref a0)])
  refine ogo (fun _ z_ => XS.iadd X4.here hx rfl (hb hby d2_28) rfl z_) ?_
  show OWay p e below G T4 (mkF m 29 #[.val (.ref a0), .val (.int (6 : Int32)), .val (.int (6 : Int32)), .val (.int (0 : Int32)), .val (.int y6)] [(.int ((6 : Int32) + (0 : Int32))), (.ref a0)])
  refine ogoE (g' := (mkF m 29 #[.val (.ref a0), .val (.int (6 : Int32)), .val (.int (6 : Int32)), .val (.int (0 : Int32)), .val (.int y6)] [(.int (6 : Int32)), (.ref a0)])) (by rw [show ((6 : Int32) + (0 : Int32)) = (6 : Int32) from by decide]) ?_
  refine ogo (fun _ z_ => XS.iload X4.here hx rfl (hb hby d2_29) rfl z_) ?_
  show OWay p e below G T4 (mkF m 31 #[.val (.ref a0), .val (.int (6 : Int32)), .val (.int (6 : Int32)), .val (.int (0 : Int32)), .val (.int y6)] [(.int y6), (.int (6 : Int32)), (.ref a0)])
  obtain ⟨cl_o6, Ar_o6, q_o6, S_o6, N_o6, H_o6, G_o6⟩ := id V_4
  have hin_o6 : ¬ ((6 : Int32) < 0 ∨ cl_o6.slots.size ≤ ((6 : Int32)).toNatClampNeg) := inb_of S_o6 ⟨by decide, by decide⟩
  obtain ⟨T7, h7, X7, eT7, W7, st7⟩ := stI X4 hx hZ eT4 Ar_o6 (j := (6 : Int32)) hin_o6 (g := (mkF m 31 #[.val (.ref a0), .val (.int (6 : Int32)), .val (.int (6 : Int32)), .val (.int (0 : Int32)), .val (.int y6)] [(.int y6), (.int (6 : Int32)), (.ref a0)])) rfl rfl (hb hby d2_31)
  have K8 : Keep h0 h7 [a0] := K5.wr W7 (Or.inl (List.mem_of_getElem? (i := 0) rfl))
  have V_7 : Arv Z h7 a0 kk .int (18 : Int32) [(.int y0), (.int y1), (.int y2), (.int y3), (.int y4), (.int y5), (.int y6), (.int y7), (.int y8), (.int y9), (.int y10), (.int y11), (.int y12), (.int y13), (.int y14), (.int y15), (.int y16), (.int y17)] (.int (0 : Int32)) := Arv.set Ar_o6 q_o6 S_o6 N_o6 H_o6 G_o6 rfl W7 6 rfl (Nat.le_of_ble_eq_true rfl)
  have N7 := Fr.snoc X7 N4 g_a0
  refine ogo st7 ?_
  show OWay p e below G T7 (mkF m 32 #[.val (.ref a0), .val (.int (6 : Int32)), .val (.int (6 : Int32)), .val (.int (0 : Int32)), .val (.int y6)] [])
  refine ogo (fun _ z_ => XS.iinc X7.here hx rfl (hb hby d2_32) rfl (l' := #[.val (.ref a0), .val (.int (6 : Int32)), .val (.int (6 : Int32)), .val (.int ((0 : Int32) + (1 : Int32))), .val (.int y6)]) rfl z_) ?_
  show OWay p e below G T7 (mkF m 35 #[.val (.ref a0), .val (.int (6 : Int32)), .val (.int (6 : Int32)), .val (.int ((0 : Int32) + (1 : Int32))), .val (.int y6)] [])
  refine ogoE (g' := (mkF m 35 #[.val (.ref a0), .val (.int (6 : Int32)), .val (.int (6 : Int32)), .val (.int (1 : Int32)), .val (.int y6)] [])) (by rw [show ((0 : Int32) + (1 : Int32)) = (1 : Int32) from by decide]) ?_
  refine ogo (fun _ z_ => XS.goto X7.here hx rfl (pc0 := 35) (pc' := 2) rfl (hb hby d2_35) (by decide) (by decide) z_) ?_
  show OWay p e below G T7 (mkF m 2 #[.val (.ref a0), .val (.int (6 : Int32)), .val (.int (6 : Int32)), .val (.int (1 : Int32)), .val (.int y6)] [])
  refine ogo (fun _ z_ => XS.iloadN X7.here hx rfl (hb hby d2_2) rfl z_) ?_
  show OWay p e below G T7 (mkF m 3 #[.val (.ref a0), .val (.int (6 : Int32)), .val (.int (6 : Int32)), .val (.int (1 : Int32)), .val (.int y6)] [(.int (1 : Int32))])
  refine ogo (fun _ z_ => XS.bipush X7.here hx rfl (hb hby d2_3) z_) ?_
  show OWay p e below G T7 (mkF m 5 #[.val (.ref a0), .val (.int (6 : Int32)), .val (.int (6 : Int32)), .val (.int (1 : Int32)), .val (.int y6)] [(.int (6 : Int32)), (.int (1 : Int32))])
  refine ogo (fun _ z_ => XS.icmpNo X7.here hx rfl (hb hby d2_5) rfl (tlt (by decide)).2.1 z_) ?_
  show OWay p e below G T7 (mkF m 8 #[.val (.ref a0), .val (.int (6 : Int32)), .val (.int (6 : Int32)), .val (.int (1 : Int32)), .val (.int y6)] [])
  refine ogo (fun _ z_ => XS.aloadN X7.here hx rfl (hb hby d2_8) rfl rfl z_) ?_
  show OWay p e below G T7 (mkF m 9 #[.val (.ref a0), .val (.int (6 : Int32)), .val (.int (6 : Int32)), .val (.int (1 : Int32)), .val (.int y6)] [(.ref a0)])
  refine ogo (fun _ z_ => XS.iloadN X7.here hx rfl (hb hby d2_9) rfl z_) ?_
  show OWay p e below G T7 (mkF m 10 #[.val (.ref a0), .val (.int (6 : Int32)), .val (.int (6 : Int32)), .val (.int (1 : Int32)), .val (.int y6)] [(.int (6 : Int32)), (.ref a0)])
  refine ogo (fun _ z_ => XS.iloadN X7.here hx rfl (hb hby d2_10) rfl z_) ?_
  show OWay p e below G T7 (mkF m 11 #[.val (.ref a0), .val (.int (6 : Int32)), .val (.int (6 : Int32)), .val (.int (1 : Int32)), .val (.int y6)] [(.int (1 : Int32)), (.int (6 : Int32)), (.ref a0)])
  refine ogo (fun _ z_ => XS.iadd X7.here hx rfl (hb hby d2_11) rfl z_) ?_
  show OWay p e below G T7 (mkF m 12 #[.val (.ref a0), .val (.int (6 : Int32)), .val (.int (6 : Int32)), .val (.int (1 : Int32)), .val (.int y6)] [(.int ((6 : Int32) + (1 : Int32))), (.ref a0)])
  refine ogoE (g' := (mkF m 12 #[.val (.ref a0), .val (.int (6 : Int32)), .val (.int (6 : Int32)), .val (.int (1 : Int32)), .val (.int y6)] [(.int (7 : Int32)), (.ref a0)])) (by rw [show ((6 : Int32) + (1 : Int32)) = (7 : Int32) from by decide]) ?_
  obtain ⟨cl_o9, Ar_o9, q_o9, S_o9, N_o9, H_o9, G_o9⟩ := id V_7
  have hin_o9 : ¬ ((7 : Int32) < 0 ∨ cl_o9.slots.size ≤ ((7 : Int32)).toNatClampNeg) := inb_of S_o9 ⟨by decide, by decide⟩
  have hat_o9 : cl_o9.slots[((7 : Int32)).toNatClampNeg]? = some (.int y7) := H_o9.at hin_o9 rfl
  refine ogo (fun _ z_ => X7.iaload hx (j := (7 : Int32)) (v := (.int y7)) (by rw [eT7]; exact Ar_o9.1) (State.isArrayOf_alike hZ.alike Ar_o9.2.1) Ar_o9.2.2 hin_o9 hat_o9 (g := (mkF m 12 #[.val (.ref a0), .val (.int (6 : Int32)), .val (.int (6 : Int32)), .val (.int (1 : Int32)), .val (.int y6)] [(.int (7 : Int32)), (.ref a0)])) rfl rfl (hb hby d2_12) _ z_) ?_
  show OWay p e below G T7 (mkF m 13 #[.val (.ref a0), .val (.int (6 : Int32)), .val (.int (6 : Int32)), .val (.int (1 : Int32)), .val (.int y6)] [(.int y7)])
  refine ogo (fun _ z_ => XS.istore X7.here hx rfl (hb hby d2_13) rfl (l' := #[.val (.ref a0), .val (.int (6 : Int32)), .val (.int (6 : Int32)), .val (.int (1 : Int32)), .val (.int y7)]) rfl z_) ?_
  show OWay p e below G T7 (mkF m 15 #[.val (.ref a0), .val (.int (6 : Int32)), .val (.int (6 : Int32)), .val (.int (1 : Int32)), .val (.int y7)] [])
  refine ogo (fun _ z_ => XS.aloadN X7.here hx rfl (hb hby d2_15) rfl rfl z_) ?_
  show OWay p e below G T7 (mkF m 16 #[.val (.ref a0), .val (.int (6 : Int32)), .val (.int (6 : Int32)), .val (.int (1 : Int32)), .val (.int y7)] [(.ref a0)])
  refine ogo (fun _ z_ => XS.iloadN X7.here hx rfl (hb hby d2_16) rfl z_) ?_
  show OWay p e below G T7 (mkF m 17 #[.val (.ref a0), .val (.int (6 : Int32)), .val (.int (6 : Int32)), .val (.int (1 : Int32)), .val (.int y7)] [(.int (6 : Int32)), (.ref a0)])
  refine ogo (fun _ z_ => XS.iloadN X7.here hx rfl (hb hby d2_17) rfl z_) ?_
  show OWay p e below G T7 (mkF m 18 #[.val (.ref a0), .val (.int (6 : Int32)), .val (.int (6 : Int32)), .val (.int (1 : Int32)), .val (.int y7)] [(.int (1 : Int32)), (.int (6 : Int32)), (.ref a0)])
  refine ogo (fun _ z_ => XS.iadd X7.here hx rfl (hb hby d2_18) rfl z_) ?_
  show OWay p e below G T7 (mkF m 19 #[.val (.ref a0), .val (.int (6 : Int32)), .val (.int (6 : Int32)), .val (.int (1 : Int32)), .val (.int y7)] [(.int ((6 : Int32) + (1 : Int32))), (.ref a0)])
  refine ogoE (g' := (mkF m 19 #[.val (.ref a0), .val (.int (6 : Int32)), .val (.int (6 : Int32)), .val (.int (1 : Int32)), .val (.int y7)] [(.int (7 : Int32)), (.ref a0)])) (by rw [show ((6 : Int32) + (1 : Int32)) = (7 : Int32) from by decide]) ?_
  refine ogo (fun _ z_ => XS.aloadN X7.here hx rfl (hb hby d2_19) rfl rfl z_) ?_
  show OWay p e below G T7 (mkF m 20 #[.val (.ref a0), .val (.int (6 : Int32)), .val (.int (6 : Int32)), .val (.int (1 : Int32)), .val (.int y7)] [(.ref a0), (.int (7 : Int32)), (.ref a0)])
  refine ogo (fun _ z_ => XS.iloadN X7.here hx rfl (hb hby d2_20) rfl z_) ?_
  show OWay p e below G T7 (mkF m 21 #[.val (.ref a0), .val (.int (6 : Int32)), .val (.int (6 : Int32)), .val (.int (1 : Int32)), .val (.int y7)] [(.int (6 : Int32)), (.ref a0), (.int (7 : Int32)), (.ref a0)])
  refine ogo (fun _ z_ => XS.iloadN X7.here hx rfl (hb hby d2_21) rfl z_) ?_
  show OWay p e below G T7 (mkF m 22 #[.val (.ref a0), .val (.int (6 : Int32)), .val (.int (6 : Int32)), .val (.int (1 : Int32)), .val (.int y7)] [(.int (1 : Int32)), (.int (6 : Int32)), (.ref a0), (.int (7 : Int32)), (.ref a0)])
  refine ogo (fun _ z_ => XS.iadd X7.here hx rfl (hb hby d2_22) rfl z_) ?_
  show OWay p e below G T7 (mkF m 23 #[.val (.ref a0), .val (.int (6 : Int32)), .val (.int (6 : Int32)), .val (.int (1 : Int32)), .val (.int y7)] [(.int ((6 : Int32) + (1 : Int32))), (.ref a0), (.int (7 : Int32)), (.ref a0)])
  refine ogoE (g' := (mkF m 23 #[.val (.ref a0), .val (.int (6 : Int32)), .val (.int (6 : Int32)), .val (.int (1 : Int32)), .val (.int y7)] [(.int (7 : Int32)), (.ref a0), (.int (7 : Int32)), (.ref a0)])) (by rw [show ((6 : Int32) + (1 : Int32)) = (7 : Int32) from by decide]) ?_
  obtain ⟨cl_o10, Ar_o10, q_o10, S_o10, N_o10, H_o10, G_o10⟩ := id V_7
  have hin_o10 : ¬ ((7 : Int32) < 0 ∨ cl_o10.slots.size ≤ ((7 : Int32)).toNatClampNeg) := inb_of S_o10 ⟨by decide, by decide⟩
  have hat_o10 : cl_o10.slots[((7 : Int32)).toNatClampNeg]? = some (.int y7) := H_o10.at hin_o10 rfl
  refine ogo (fun _ z_ => X7.iaload hx (j := (7 : Int32)) (v := (.int y7)) (by rw [eT7]; exact Ar_o10.1) (State.isArrayOf_alike hZ.alike Ar_o10.2.1) Ar_o10.2.2 hin_o10 hat_o10 (g := (mkF m 23 #[.val (.ref a0), .val (.int (6 : Int32)), .val (.int (6 : Int32)), .val (.int (1 : Int32)), .val (.int y7)] [(.int (7 : Int32)), (.ref a0), (.int (7 : Int32)), (.ref a0)])) rfl rfl (hb hby d2_23) _ z_) ?_
  show OWay p e below G T7 (mkF m 24 #[.val (.ref a0), .val (.int (6 : Int32)), .val (.int (6 : Int32)), .val (.int (1 : Int32)), .val (.int y7)] [(.int y7), (.int (7 : Int32)), (.ref a0)])
  obtain ⟨cl_o11, Ar_o11, q_o11, S_o11, N_o11, H_o11, G_o11⟩ := id V_7
  have hin_o11 : ¬ ((7 : Int32) < 0 ∨ cl_o11.slots.size ≤ ((7 : Int32)).toNatClampNeg) := inb_of S_o11 ⟨by decide, by decide⟩
  obtain ⟨T12, h12, X12, eT12, W12, st12⟩ := stI X7 hx hZ eT7 Ar_o11 (j := (7 : Int32)) hin_o11 (g := (mkF m 24 #[.val (.ref a0), .val (.int (6 : Int32)), .val (.int (6 : Int32)), .val (.int (1 : Int32)), .val (.int y7)] [(.int y7), (.int (7 : Int32)), (.ref a0)])) rfl rfl (hb hby d2_24)
  have K13 : Keep h0 h12 [a0] := K8.wr W12 (Or.inl (List.mem_of_getElem? (i := 0) rfl))
  have V_12 : Arv Z h12 a0 kk .int (18 : Int32) [(.int y0), (.int y1), (.int y2), (.int y3), (.int y4), (.int y5), (.int y6), (.int y7), (.int y8), (.int y9), (.int y10), (.int y11), (.int y12), (.int y13), (.int y14), (.int y15), (.int y16), (.int y17)] (.int (0 : Int32)) := Arv.set Ar_o11 q_o11 S_o11 N_o11 H_o11 G_o11 rfl W12 7 rfl (Nat.le_of_ble_eq_true rfl)
  have N12 := Fr.snoc X12 N7 g_a0
  refine ogo st12 ?_
  show OWay p e below G T12 (mkF m 25 #[.val (.ref a0), .val (.int (6 : Int32)), .val (.int (6 : Int32)), .val (.int (1 : Int32)), .val (.int y7)] [])
  refine ogo (fun _ z_ => XS.aloadN X12.here hx rfl (hb hby d2_25) rfl rfl z_) ?_
  show OWay p e below G T12 (mkF m 26 #[.val (.ref a0), .val (.int (6 : Int32)), .val (.int (6 : Int32)), .val (.int (1 : Int32)), .val (.int y7)] [(.ref a0)])
  refine ogo (fun _ z_ => XS.iloadN X12.here hx rfl (hb hby d2_26) rfl z_) ?_
  show OWay p e below G T12 (mkF m 27 #[.val (.ref a0), .val (.int (6 : Int32)), .val (.int (6 : Int32)), .val (.int (1 : Int32)), .val (.int y7)] [(.int (6 : Int32)), (.ref a0)])
  refine ogo (fun _ z_ => XS.iloadN X12.here hx rfl (hb hby d2_27) rfl z_) ?_
  show OWay p e below G T12 (mkF m 28 #[.val (.ref a0), .val (.int (6 : Int32)), .val (.int (6 : Int32)), .val (.int (1 : Int32)), .val (.int y7)] [(.int (1 : Int32)), (.int (6 : Int32)), (.ref a0)])
  refine ogo (fun _ z_ => XS.iadd X12.here hx rfl (hb hby d2_28) rfl z_) ?_
  show OWay p e below G T12 (mkF m 29 #[.val (.ref a0), .val (.int (6 : Int32)), .val (.int (6 : Int32)), .val (.int (1 : Int32)), .val (.int y7)] [(.int ((6 : Int32) + (1 : Int32))), (.ref a0)])
  refine ogoE (g' := (mkF m 29 #[.val (.ref a0), .val (.int (6 : Int32)), .val (.int (6 : Int32)), .val (.int (1 : Int32)), .val (.int y7)] [(.int (7 : Int32)), (.ref a0)])) (by rw [show ((6 : Int32) + (1 : Int32)) = (7 : Int32) from by decide]) ?_
  refine ogo (fun _ z_ => XS.iload X12.here hx rfl (hb hby d2_29) rfl z_) ?_
  show OWay p e below G T12 (mkF m 31 #[.val (.ref a0), .val (.int (6 : Int32)), .val (.int (6 : Int32)), .val (.int (1 : Int32)), .val (.int y7)] [(.int y7), (.int (7 : Int32)), (.ref a0)])
  obtain ⟨cl_o14, Ar_o14, q_o14, S_o14, N_o14, H_o14, G_o14⟩ := id V_12
  have hin_o14 : ¬ ((7 : Int32) < 0 ∨ cl_o14.slots.size ≤ ((7 : Int32)).toNatClampNeg) := inb_of S_o14 ⟨by decide, by decide⟩
  obtain ⟨T15, h15, X15, eT15, W15, st15⟩ := stI X12 hx hZ eT12 Ar_o14 (j := (7 : Int32)) hin_o14 (g := (mkF m 31 #[.val (.ref a0), .val (.int (6 : Int32)), .val (.int (6 : Int32)), .val (.int (1 : Int32)), .val (.int y7)] [(.int y7), (.int (7 : Int32)), (.ref a0)])) rfl rfl (hb hby d2_31)
  have K16 : Keep h0 h15 [a0] := K13.wr W15 (Or.inl (List.mem_of_getElem? (i := 0) rfl))
  have V_15 : Arv Z h15 a0 kk .int (18 : Int32) [(.int y0), (.int y1), (.int y2), (.int y3), (.int y4), (.int y5), (.int y6), (.int y7), (.int y8), (.int y9), (.int y10), (.int y11), (.int y12), (.int y13), (.int y14), (.int y15), (.int y16), (.int y17)] (.int (0 : Int32)) := Arv.set Ar_o14 q_o14 S_o14 N_o14 H_o14 G_o14 rfl W15 7 rfl (Nat.le_of_ble_eq_true rfl)
  have N15 := Fr.snoc X15 N12 g_a0
  refine ogo st15 ?_
  show OWay p e below G T15 (mkF m 32 #[.val (.ref a0), .val (.int (6 : Int32)), .val (.int (6 : Int32)), .val (.int (1 : Int32)), .val (.int y7)] [])
  refine ogo (fun _ z_ => XS.iinc X15.here hx rfl (hb hby d2_32) rfl (l' := #[.val (.ref a0), .val (.int (6 : Int32)), .val (.int (6 : Int32)), .val (.int ((1 : Int32) + (1 : Int32))), .val (.int y7)]) rfl z_) ?_
  show OWay p e below G T15 (mkF m 35 #[.val (.ref a0), .val (.int (6 : Int32)), .val (.int (6 : Int32)), .val (.int ((1 : Int32) + (1 : Int32))), .val (.int y7)] [])
  refine ogoE (g' := (mkF m 35 #[.val (.ref a0), .val (.int (6 : Int32)), .val (.int (6 : Int32)), .val (.int (2 : Int32)), .val (.int y7)] [])) (by rw [show ((1 : Int32) + (1 : Int32)) = (2 : Int32) from by decide]) ?_
  refine ogo (fun _ z_ => XS.goto X15.here hx rfl (pc0 := 35) (pc' := 2) rfl (hb hby d2_35) (by decide) (by decide) z_) ?_
  show OWay p e below G T15 (mkF m 2 #[.val (.ref a0), .val (.int (6 : Int32)), .val (.int (6 : Int32)), .val (.int (2 : Int32)), .val (.int y7)] [])
  refine ogo (fun _ z_ => XS.iloadN X15.here hx rfl (hb hby d2_2) rfl z_) ?_
  show OWay p e below G T15 (mkF m 3 #[.val (.ref a0), .val (.int (6 : Int32)), .val (.int (6 : Int32)), .val (.int (2 : Int32)), .val (.int y7)] [(.int (2 : Int32))])
  refine ogo (fun _ z_ => XS.bipush X15.here hx rfl (hb hby d2_3) z_) ?_
  show OWay p e below G T15 (mkF m 5 #[.val (.ref a0), .val (.int (6 : Int32)), .val (.int (6 : Int32)), .val (.int (2 : Int32)), .val (.int y7)] [(.int (6 : Int32)), (.int (2 : Int32))])
  refine ogo (fun _ z_ => XS.icmpNo X15.here hx rfl (hb hby d2_5) rfl (tlt (by decide)).2.1 z_) ?_
  show OWay p e below G T15 (mkF m 8 #[.val (.ref a0), .val (.int (6 : Int32)), .val (.int (6 : Int32)), .val (.int (2 : Int32)), .val (.int y7)] [])
  refine ogo (fun _ z_ => XS.aloadN X15.here hx rfl (hb hby d2_8) rfl rfl z_) ?_
  show OWay p e below G T15 (mkF m 9 #[.val (.ref a0), .val (.int (6 : Int32)), .val (.int (6 : Int32)), .val (.int (2 : Int32)), .val (.int y7)] [(.ref a0)])
  refine ogo (fun _ z_ => XS.iloadN X15.here hx rfl (hb hby d2_9) rfl z_) ?_
  show OWay p e below G T15 (mkF m 10 #[.val (.ref a0), .val (.int (6 : Int32)), .val (.int (6 : Int32)), .val (.int (2 : Int32)), .val (.int y7)] [(.int (6 : Int32)), (.ref a0)])
  refine ogo (fun _ z_ => XS.iloadN X15.here hx rfl (hb hby d2_10) rfl z_) ?_
  show OWay p e below G T15 (mkF m 11 #[.val (.ref a0), .val (.int (6 : Int32)), .val (.int (6 : Int32)), .val (.int (2 : Int32)), .val (.int y7)] [(.int (2 : Int32)), (.int (6 : Int32)), (.ref a0)])
  refine ogo (fun _ z_ => XS.iadd X15.here hx rfl (hb hby d2_11) rfl z_) ?_
  show OWay p e below G T15 (mkF m 12 #[.val (.ref a0), .val (.int (6 : Int32)), .val (.int (6 : Int32)), .val (.int (2 : Int32)), .val (.int y7)] [(.int ((6 : Int32) + (2 : Int32))), (.ref a0)])
  refine ogoE (g' := (mkF m 12 #[.val (.ref a0), .val (.int (6 : Int32)), .val (.int (6 : Int32)), .val (.int (2 : Int32)), .val (.int y7)] [(.int (8 : Int32)), (.ref a0)])) (by rw [show ((6 : Int32) + (2 : Int32)) = (8 : Int32) from by decide]) ?_
  obtain ⟨cl_o17, Ar_o17, q_o17, S_o17, N_o17, H_o17, G_o17⟩ := id V_15
  have hin_o17 : ¬ ((8 : Int32) < 0 ∨ cl_o17.slots.size ≤ ((8 : Int32)).toNatClampNeg) := inb_of S_o17 ⟨by decide, by decide⟩
  have hat_o17 : cl_o17.slots[((8 : Int32)).toNatClampNeg]? = some (.int y8) := H_o17.at hin_o17 rfl
  refine ogo (fun _ z_ => X15.iaload hx (j := (8 : Int32)) (v := (.int y8)) (by rw [eT15]; exact Ar_o17.1) (State.isArrayOf_alike hZ.alike Ar_o17.2.1) Ar_o17.2.2 hin_o17 hat_o17 (g := (mkF m 12 #[.val (.ref a0), .val (.int (6 : Int32)), .val (.int (6 : Int32)), .val (.int (2 : Int32)), .val (.int y7)] [(.int (8 : Int32)), (.ref a0)])) rfl rfl (hb hby d2_12) _ z_) ?_
  show OWay p e below G T15 (mkF m 13 #[.val (.ref a0), .val (.int (6 : Int32)), .val (.int (6 : Int32)), .val (.int (2 : Int32)), .val (.int y7)] [(.int y8)])
  refine ogo (fun _ z_ => XS.istore X15.here hx rfl (hb hby d2_13) rfl (l' := #[.val (.ref a0), .val (.int (6 : Int32)), .val (.int (6 : Int32)), .val (.int (2 : Int32)), .val (.int y8)]) rfl z_) ?_
  show OWay p e below G T15 (mkF m 15 #[.val (.ref a0), .val (.int (6 : Int32)), .val (.int (6 : Int32)), .val (.int (2 : Int32)), .val (.int y8)] [])
  refine ogo (fun _ z_ => XS.aloadN X15.here hx rfl (hb hby d2_15) rfl rfl z_) ?_
  show OWay p e below G T15 (mkF m 16 #[.val (.ref a0), .val (.int (6 : Int32)), .val (.int (6 : Int32)), .val (.int (2 : Int32)), .val (.int y8)] [(.ref a0)])
  refine ogo (fun _ z_ => XS.iloadN X15.here hx rfl (hb hby d2_16) rfl z_) ?_
  show OWay p e below G T15 (mkF m 17 #[.val (.ref a0), .val (.int (6 : Int32)), .val (.int (6 : Int32)), .val (.int (2 : Int32)), .val (.int y8)] [(.int (6 : Int32)), (.ref a0)])
  refine ogo (fun _ z_ => XS.iloadN X15.here hx rfl (hb hby d2_17) rfl z_) ?_
  show OWay p e below G T15 (mkF m 18 #[.val (.ref a0), .val (.int (6 : Int32)), .val (.int (6 : Int32)), .val (.int (2 : Int32)), .val (.int y8)] [(.int (2 : Int32)), (.int (6 : Int32)), (.ref a0)])
  refine ogo (fun _ z_ => XS.iadd X15.here hx rfl (hb hby d2_18) rfl z_) ?_
  show OWay p e below G T15 (mkF m 19 #[.val (.ref a0), .val (.int (6 : Int32)), .val (.int (6 : Int32)), .val (.int (2 : Int32)), .val (.int y8)] [(.int ((6 : Int32) + (2 : Int32))), (.ref a0)])
  refine ogoE (g' := (mkF m 19 #[.val (.ref a0), .val (.int (6 : Int32)), .val (.int (6 : Int32)), .val (.int (2 : Int32)), .val (.int y8)] [(.int (8 : Int32)), (.ref a0)])) (by rw [show ((6 : Int32) + (2 : Int32)) = (8 : Int32) from by decide]) ?_
  refine ogo (fun _ z_ => XS.aloadN X15.here hx rfl (hb hby d2_19) rfl rfl z_) ?_
  show OWay p e below G T15 (mkF m 20 #[.val (.ref a0), .val (.int (6 : Int32)), .val (.int (6 : Int32)), .val (.int (2 : Int32)), .val (.int y8)] [(.ref a0), (.int (8 : Int32)), (.ref a0)])
  refine ogo (fun _ z_ => XS.iloadN X15.here hx rfl (hb hby d2_20) rfl z_) ?_
  show OWay p e below G T15 (mkF m 21 #[.val (.ref a0), .val (.int (6 : Int32)), .val (.int (6 : Int32)), .val (.int (2 : Int32)), .val (.int y8)] [(.int (6 : Int32)), (.ref a0), (.int (8 : Int32)), (.ref a0)])
  refine ogo (fun _ z_ => XS.iloadN X15.here hx rfl (hb hby d2_21) rfl z_) ?_
  show OWay p e below G T15 (mkF m 22 #[.val (.ref a0), .val (.int (6 : Int32)), .val (.int (6 : Int32)), .val (.int (2 : Int32)), .val (.int y8)] [(.int (2 : Int32)), (.int (6 : Int32)), (.ref a0), (.int (8 : Int32)), (.ref a0)])
  refine ogo (fun _ z_ => XS.iadd X15.here hx rfl (hb hby d2_22) rfl z_) ?_
  show OWay p e below G T15 (mkF m 23 #[.val (.ref a0), .val (.int (6 : Int32)), .val (.int (6 : Int32)), .val (.int (2 : Int32)), .val (.int y8)] [(.int ((6 : Int32) + (2 : Int32))), (.ref a0), (.int (8 : Int32)), (.ref a0)])
  refine ogoE (g' := (mkF m 23 #[.val (.ref a0), .val (.int (6 : Int32)), .val (.int (6 : Int32)), .val (.int (2 : Int32)), .val (.int y8)] [(.int (8 : Int32)), (.ref a0), (.int (8 : Int32)), (.ref a0)])) (by rw [show ((6 : Int32) + (2 : Int32)) = (8 : Int32) from by decide]) ?_
  obtain ⟨cl_o18, Ar_o18, q_o18, S_o18, N_o18, H_o18, G_o18⟩ := id V_15
  have hin_o18 : ¬ ((8 : Int32) < 0 ∨ cl_o18.slots.size ≤ ((8 : Int32)).toNatClampNeg) := inb_of S_o18 ⟨by decide, by decide⟩
  have hat_o18 : cl_o18.slots[((8 : Int32)).toNatClampNeg]? = some (.int y8) := H_o18.at hin_o18 rfl
  refine ogo (fun _ z_ => X15.iaload hx (j := (8 : Int32)) (v := (.int y8)) (by rw [eT15]; exact Ar_o18.1) (State.isArrayOf_alike hZ.alike Ar_o18.2.1) Ar_o18.2.2 hin_o18 hat_o18 (g := (mkF m 23 #[.val (.ref a0), .val (.int (6 : Int32)), .val (.int (6 : Int32)), .val (.int (2 : Int32)), .val (.int y8)] [(.int (8 : Int32)), (.ref a0), (.int (8 : Int32)), (.ref a0)])) rfl rfl (hb hby d2_23) _ z_) ?_
  show OWay p e below G T15 (mkF m 24 #[.val (.ref a0), .val (.int (6 : Int32)), .val (.int (6 : Int32)), .val (.int (2 : Int32)), .val (.int y8)] [(.int y8), (.int (8 : Int32)), (.ref a0)])
  obtain ⟨cl_o19, Ar_o19, q_o19, S_o19, N_o19, H_o19, G_o19⟩ := id V_15
  have hin_o19 : ¬ ((8 : Int32) < 0 ∨ cl_o19.slots.size ≤ ((8 : Int32)).toNatClampNeg) := inb_of S_o19 ⟨by decide, by decide⟩
  obtain ⟨T20, h20, X20, eT20, W20, st20⟩ := stI X15 hx hZ eT15 Ar_o19 (j := (8 : Int32)) hin_o19 (g := (mkF m 24 #[.val (.ref a0), .val (.int (6 : Int32)), .val (.int (6 : Int32)), .val (.int (2 : Int32)), .val (.int y8)] [(.int y8), (.int (8 : Int32)), (.ref a0)])) rfl rfl (hb hby d2_24)
  have K21 : Keep h0 h20 [a0] := K16.wr W20 (Or.inl (List.mem_of_getElem? (i := 0) rfl))
  have V_20 : Arv Z h20 a0 kk .int (18 : Int32) [(.int y0), (.int y1), (.int y2), (.int y3), (.int y4), (.int y5), (.int y6), (.int y7), (.int y8), (.int y9), (.int y10), (.int y11), (.int y12), (.int y13), (.int y14), (.int y15), (.int y16), (.int y17)] (.int (0 : Int32)) := Arv.set Ar_o19 q_o19 S_o19 N_o19 H_o19 G_o19 rfl W20 8 rfl (Nat.le_of_ble_eq_true rfl)
  have N20 := Fr.snoc X20 N15 g_a0
  refine ogo st20 ?_
  show OWay p e below G T20 (mkF m 25 #[.val (.ref a0), .val (.int (6 : Int32)), .val (.int (6 : Int32)), .val (.int (2 : Int32)), .val (.int y8)] [])
  refine ogo (fun _ z_ => XS.aloadN X20.here hx rfl (hb hby d2_25) rfl rfl z_) ?_
  show OWay p e below G T20 (mkF m 26 #[.val (.ref a0), .val (.int (6 : Int32)), .val (.int (6 : Int32)), .val (.int (2 : Int32)), .val (.int y8)] [(.ref a0)])
  refine ogo (fun _ z_ => XS.iloadN X20.here hx rfl (hb hby d2_26) rfl z_) ?_
  show OWay p e below G T20 (mkF m 27 #[.val (.ref a0), .val (.int (6 : Int32)), .val (.int (6 : Int32)), .val (.int (2 : Int32)), .val (.int y8)] [(.int (6 : Int32)), (.ref a0)])
  refine ogo (fun _ z_ => XS.iloadN X20.here hx rfl (hb hby d2_27) rfl z_) ?_
  show OWay p e below G T20 (mkF m 28 #[.val (.ref a0), .val (.int (6 : Int32)), .val (.int (6 : Int32)), .val (.int (2 : Int32)), .val (.int y8)] [(.int (2 : Int32)), (.int (6 : Int32)), (.ref a0)])
  refine ogo (fun _ z_ => XS.iadd X20.here hx rfl (hb hby d2_28) rfl z_) ?_
  show OWay p e below G T20 (mkF m 29 #[.val (.ref a0), .val (.int (6 : Int32)), .val (.int (6 : Int32)), .val (.int (2 : Int32)), .val (.int y8)] [(.int ((6 : Int32) + (2 : Int32))), (.ref a0)])
  refine ogoE (g' := (mkF m 29 #[.val (.ref a0), .val (.int (6 : Int32)), .val (.int (6 : Int32)), .val (.int (2 : Int32)), .val (.int y8)] [(.int (8 : Int32)), (.ref a0)])) (by rw [show ((6 : Int32) + (2 : Int32)) = (8 : Int32) from by decide]) ?_
  refine ogo (fun _ z_ => XS.iload X20.here hx rfl (hb hby d2_29) rfl z_) ?_
  show OWay p e below G T20 (mkF m 31 #[.val (.ref a0), .val (.int (6 : Int32)), .val (.int (6 : Int32)), .val (.int (2 : Int32)), .val (.int y8)] [(.int y8), (.int (8 : Int32)), (.ref a0)])
  obtain ⟨cl_o22, Ar_o22, q_o22, S_o22, N_o22, H_o22, G_o22⟩ := id V_20
  have hin_o22 : ¬ ((8 : Int32) < 0 ∨ cl_o22.slots.size ≤ ((8 : Int32)).toNatClampNeg) := inb_of S_o22 ⟨by decide, by decide⟩
  obtain ⟨T23, h23, X23, eT23, W23, st23⟩ := stI X20 hx hZ eT20 Ar_o22 (j := (8 : Int32)) hin_o22 (g := (mkF m 31 #[.val (.ref a0), .val (.int (6 : Int32)), .val (.int (6 : Int32)), .val (.int (2 : Int32)), .val (.int y8)] [(.int y8), (.int (8 : Int32)), (.ref a0)])) rfl rfl (hb hby d2_31)
  have K24 : Keep h0 h23 [a0] := K21.wr W23 (Or.inl (List.mem_of_getElem? (i := 0) rfl))
  have V_23 : Arv Z h23 a0 kk .int (18 : Int32) [(.int y0), (.int y1), (.int y2), (.int y3), (.int y4), (.int y5), (.int y6), (.int y7), (.int y8), (.int y9), (.int y10), (.int y11), (.int y12), (.int y13), (.int y14), (.int y15), (.int y16), (.int y17)] (.int (0 : Int32)) := Arv.set Ar_o22 q_o22 S_o22 N_o22 H_o22 G_o22 rfl W23 8 rfl (Nat.le_of_ble_eq_true rfl)
  have N23 := Fr.snoc X23 N20 g_a0
  refine ogo st23 ?_
  show OWay p e below G T23 (mkF m 32 #[.val (.ref a0), .val (.int (6 : Int32)), .val (.int (6 : Int32)), .val (.int (2 : Int32)), .val (.int y8)] [])
  refine ogo (fun _ z_ => XS.iinc X23.here hx rfl (hb hby d2_32) rfl (l' := #[.val (.ref a0), .val (.int (6 : Int32)), .val (.int (6 : Int32)), .val (.int ((2 : Int32) + (1 : Int32))), .val (.int y8)]) rfl z_) ?_
  show OWay p e below G T23 (mkF m 35 #[.val (.ref a0), .val (.int (6 : Int32)), .val (.int (6 : Int32)), .val (.int ((2 : Int32) + (1 : Int32))), .val (.int y8)] [])
  refine ogoE (g' := (mkF m 35 #[.val (.ref a0), .val (.int (6 : Int32)), .val (.int (6 : Int32)), .val (.int (3 : Int32)), .val (.int y8)] [])) (by rw [show ((2 : Int32) + (1 : Int32)) = (3 : Int32) from by decide]) ?_
  refine ogo (fun _ z_ => XS.goto X23.here hx rfl (pc0 := 35) (pc' := 2) rfl (hb hby d2_35) (by decide) (by decide) z_) ?_
  show OWay p e below G T23 (mkF m 2 #[.val (.ref a0), .val (.int (6 : Int32)), .val (.int (6 : Int32)), .val (.int (3 : Int32)), .val (.int y8)] [])
  refine ogo (fun _ z_ => XS.iloadN X23.here hx rfl (hb hby d2_2) rfl z_) ?_
  show OWay p e below G T23 (mkF m 3 #[.val (.ref a0), .val (.int (6 : Int32)), .val (.int (6 : Int32)), .val (.int (3 : Int32)), .val (.int y8)] [(.int (3 : Int32))])
  refine ogo (fun _ z_ => XS.bipush X23.here hx rfl (hb hby d2_3) z_) ?_
  show OWay p e below G T23 (mkF m 5 #[.val (.ref a0), .val (.int (6 : Int32)), .val (.int (6 : Int32)), .val (.int (3 : Int32)), .val (.int y8)] [(.int (6 : Int32)), (.int (3 : Int32))])
  refine ogo (fun _ z_ => XS.icmpNo X23.here hx rfl (hb hby d2_5) rfl (tlt (by decide)).2.1 z_) ?_
  show OWay p e below G T23 (mkF m 8 #[.val (.ref a0), .val (.int (6 : Int32)), .val (.int (6 : Int32)), .val (.int (3 : Int32)), .val (.int y8)] [])
  refine ogo (fun _ z_ => XS.aloadN X23.here hx rfl (hb hby d2_8) rfl rfl z_) ?_
  show OWay p e below G T23 (mkF m 9 #[.val (.ref a0), .val (.int (6 : Int32)), .val (.int (6 : Int32)), .val (.int (3 : Int32)), .val (.int y8)] [(.ref a0)])
  refine ogo (fun _ z_ => XS.iloadN X23.here hx rfl (hb hby d2_9) rfl z_) ?_
  show OWay p e below G T23 (mkF m 10 #[.val (.ref a0), .val (.int (6 : Int32)), .val (.int (6 : Int32)), .val (.int (3 : Int32)), .val (.int y8)] [(.int (6 : Int32)), (.ref a0)])
  refine ogo (fun _ z_ => XS.iloadN X23.here hx rfl (hb hby d2_10) rfl z_) ?_
  show OWay p e below G T23 (mkF m 11 #[.val (.ref a0), .val (.int (6 : Int32)), .val (.int (6 : Int32)), .val (.int (3 : Int32)), .val (.int y8)] [(.int (3 : Int32)), (.int (6 : Int32)), (.ref a0)])
  refine ogo (fun _ z_ => XS.iadd X23.here hx rfl (hb hby d2_11) rfl z_) ?_
  show OWay p e below G T23 (mkF m 12 #[.val (.ref a0), .val (.int (6 : Int32)), .val (.int (6 : Int32)), .val (.int (3 : Int32)), .val (.int y8)] [(.int ((6 : Int32) + (3 : Int32))), (.ref a0)])
  refine ogoE (g' := (mkF m 12 #[.val (.ref a0), .val (.int (6 : Int32)), .val (.int (6 : Int32)), .val (.int (3 : Int32)), .val (.int y8)] [(.int (9 : Int32)), (.ref a0)])) (by rw [show ((6 : Int32) + (3 : Int32)) = (9 : Int32) from by decide]) ?_
  obtain ⟨cl_o25, Ar_o25, q_o25, S_o25, N_o25, H_o25, G_o25⟩ := id V_23
  have hin_o25 : ¬ ((9 : Int32) < 0 ∨ cl_o25.slots.size ≤ ((9 : Int32)).toNatClampNeg) := inb_of S_o25 ⟨by decide, by decide⟩
  have hat_o25 : cl_o25.slots[((9 : Int32)).toNatClampNeg]? = some (.int y9) := H_o25.at hin_o25 rfl
  refine ogo (fun _ z_ => X23.iaload hx (j := (9 : Int32)) (v := (.int y9)) (by rw [eT23]; exact Ar_o25.1) (State.isArrayOf_alike hZ.alike Ar_o25.2.1) Ar_o25.2.2 hin_o25 hat_o25 (g := (mkF m 12 #[.val (.ref a0), .val (.int (6 : Int32)), .val (.int (6 : Int32)), .val (.int (3 : Int32)), .val (.int y8)] [(.int (9 : Int32)), (.ref a0)])) rfl rfl (hb hby d2_12) _ z_) ?_
  show OWay p e below G T23 (mkF m 13 #[.val (.ref a0), .val (.int (6 : Int32)), .val (.int (6 : Int32)), .val (.int (3 : Int32)), .val (.int y8)] [(.int y9)])
  refine ogo (fun _ z_ => XS.istore X23.here hx rfl (hb hby d2_13) rfl (l' := #[.val (.ref a0), .val (.int (6 : Int32)), .val (.int (6 : Int32)), .val (.int (3 : Int32)), .val (.int y9)]) rfl z_) ?_
  show OWay p e below G T23 (mkF m 15 #[.val (.ref a0), .val (.int (6 : Int32)), .val (.int (6 : Int32)), .val (.int (3 : Int32)), .val (.int y9)] [])
  refine ogo (fun _ z_ => XS.aloadN X23.here hx rfl (hb hby d2_15) rfl rfl z_) ?_
  show OWay p e below G T23 (mkF m 16 #[.val (.ref a0), .val (.int (6 : Int32)), .val (.int (6 : Int32)), .val (.int (3 : Int32)), .val (.int y9)] [(.ref a0)])
  refine ogo (fun _ z_ => XS.iloadN X23.here hx rfl (hb hby d2_16) rfl z_) ?_
  show OWay p e below G T23 (mkF m 17 #[.val (.ref a0), .val (.int (6 : Int32)), .val (.int (6 : Int32)), .val (.int (3 : Int32)), .val (.int y9)] [(.int (6 : Int32)), (.ref a0)])
  refine ogo (fun _ z_ => XS.iloadN X23.here hx rfl (hb hby d2_17) rfl z_) ?_
  show OWay p e below G T23 (mkF m 18 #[.val (.ref a0), .val (.int (6 : Int32)), .val (.int (6 : Int32)), .val (.int (3 : Int32)), .val (.int y9)] [(.int (3 : Int32)), (.int (6 : Int32)), (.ref a0)])
  refine ogo (fun _ z_ => XS.iadd X23.here hx rfl (hb hby d2_18) rfl z_) ?_
  show OWay p e below G T23 (mkF m 19 #[.val (.ref a0), .val (.int (6 : Int32)), .val (.int (6 : Int32)), .val (.int (3 : Int32)), .val (.int y9)] [(.int ((6 : Int32) + (3 : Int32))), (.ref a0)])
  refine ogoE (g' := (mkF m 19 #[.val (.ref a0), .val (.int (6 : Int32)), .val (.int (6 : Int32)), .val (.int (3 : Int32)), .val (.int y9)] [(.int (9 : Int32)), (.ref a0)])) (by rw [show ((6 : Int32) + (3 : Int32)) = (9 : Int32) from by decide]) ?_
  refine ogo (fun _ z_ => XS.aloadN X23.here hx rfl (hb hby d2_19) rfl rfl z_) ?_
  show OWay p e below G T23 (mkF m 20 #[.val (.ref a0), .val (.int (6 : Int32)), .val (.int (6 : Int32)), .val (.int (3 : Int32)), .val (.int y9)] [(.ref a0), (.int (9 : Int32)), (.ref a0)])
  refine ogo (fun _ z_ => XS.iloadN X23.here hx rfl (hb hby d2_20) rfl z_) ?_
  show OWay p e below G T23 (mkF m 21 #[.val (.ref a0), .val (.int (6 : Int32)), .val (.int (6 : Int32)), .val (.int (3 : Int32)), .val (.int y9)] [(.int (6 : Int32)), (.ref a0), (.int (9 : Int32)), (.ref a0)])
  refine ogo (fun _ z_ => XS.iloadN X23.here hx rfl (hb hby d2_21) rfl z_) ?_
  show OWay p e below G T23 (mkF m 22 #[.val (.ref a0), .val (.int (6 : Int32)), .val (.int (6 : Int32)), .val (.int (3 : Int32)), .val (.int y9)] [(.int (3 : Int32)), (.int (6 : Int32)), (.ref a0), (.int (9 : Int32)), (.ref a0)])
  refine ogo (fun _ z_ => XS.iadd X23.here hx rfl (hb hby d2_22) rfl z_) ?_
  show OWay p e below G T23 (mkF m 23 #[.val (.ref a0), .val (.int (6 : Int32)), .val (.int (6 : Int32)), .val (.int (3 : Int32)), .val (.int y9)] [(.int ((6 : Int32) + (3 : Int32))), (.ref a0), (.int (9 : Int32)), (.ref a0)])
  refine ogoE (g' := (mkF m 23 #[.val (.ref a0), .val (.int (6 : Int32)), .val (.int (6 : Int32)), .val (.int (3 : Int32)), .val (.int y9)] [(.int (9 : Int32)), (.ref a0), (.int (9 : Int32)), (.ref a0)])) (by rw [show ((6 : Int32) + (3 : Int32)) = (9 : Int32) from by decide]) ?_
  obtain ⟨cl_o26, Ar_o26, q_o26, S_o26, N_o26, H_o26, G_o26⟩ := id V_23
  have hin_o26 : ¬ ((9 : Int32) < 0 ∨ cl_o26.slots.size ≤ ((9 : Int32)).toNatClampNeg) := inb_of S_o26 ⟨by decide, by decide⟩
  have hat_o26 : cl_o26.slots[((9 : Int32)).toNatClampNeg]? = some (.int y9) := H_o26.at hin_o26 rfl
  refine ogo (fun _ z_ => X23.iaload hx (j := (9 : Int32)) (v := (.int y9)) (by rw [eT23]; exact Ar_o26.1) (State.isArrayOf_alike hZ.alike Ar_o26.2.1) Ar_o26.2.2 hin_o26 hat_o26 (g := (mkF m 23 #[.val (.ref a0), .val (.int (6 : Int32)), .val (.int (6 : Int32)), .val (.int (3 : Int32)), .val (.int y9)] [(.int (9 : Int32)), (.ref a0), (.int (9 : Int32)), (.ref a0)])) rfl rfl (hb hby d2_23) _ z_) ?_
  show OWay p e below G T23 (mkF m 24 #[.val (.ref a0), .val (.int (6 : Int32)), .val (.int (6 : Int32)), .val (.int (3 : Int32)), .val (.int y9)] [(.int y9), (.int (9 : Int32)), (.ref a0)])
  obtain ⟨cl_o27, Ar_o27, q_o27, S_o27, N_o27, H_o27, G_o27⟩ := id V_23
  have hin_o27 : ¬ ((9 : Int32) < 0 ∨ cl_o27.slots.size ≤ ((9 : Int32)).toNatClampNeg) := inb_of S_o27 ⟨by decide, by decide⟩
  obtain ⟨T28, h28, X28, eT28, W28, st28⟩ := stI X23 hx hZ eT23 Ar_o27 (j := (9 : Int32)) hin_o27 (g := (mkF m 24 #[.val (.ref a0), .val (.int (6 : Int32)), .val (.int (6 : Int32)), .val (.int (3 : Int32)), .val (.int y9)] [(.int y9), (.int (9 : Int32)), (.ref a0)])) rfl rfl (hb hby d2_24)
  have K29 : Keep h0 h28 [a0] := K24.wr W28 (Or.inl (List.mem_of_getElem? (i := 0) rfl))
  have V_28 : Arv Z h28 a0 kk .int (18 : Int32) [(.int y0), (.int y1), (.int y2), (.int y3), (.int y4), (.int y5), (.int y6), (.int y7), (.int y8), (.int y9), (.int y10), (.int y11), (.int y12), (.int y13), (.int y14), (.int y15), (.int y16), (.int y17)] (.int (0 : Int32)) := Arv.set Ar_o27 q_o27 S_o27 N_o27 H_o27 G_o27 rfl W28 9 rfl (Nat.le_of_ble_eq_true rfl)
  have N28 := Fr.snoc X28 N23 g_a0
  refine ogo st28 ?_
  show OWay p e below G T28 (mkF m 25 #[.val (.ref a0), .val (.int (6 : Int32)), .val (.int (6 : Int32)), .val (.int (3 : Int32)), .val (.int y9)] [])
  refine ogo (fun _ z_ => XS.aloadN X28.here hx rfl (hb hby d2_25) rfl rfl z_) ?_
  show OWay p e below G T28 (mkF m 26 #[.val (.ref a0), .val (.int (6 : Int32)), .val (.int (6 : Int32)), .val (.int (3 : Int32)), .val (.int y9)] [(.ref a0)])
  refine ogo (fun _ z_ => XS.iloadN X28.here hx rfl (hb hby d2_26) rfl z_) ?_
  show OWay p e below G T28 (mkF m 27 #[.val (.ref a0), .val (.int (6 : Int32)), .val (.int (6 : Int32)), .val (.int (3 : Int32)), .val (.int y9)] [(.int (6 : Int32)), (.ref a0)])
  refine ogo (fun _ z_ => XS.iloadN X28.here hx rfl (hb hby d2_27) rfl z_) ?_
  show OWay p e below G T28 (mkF m 28 #[.val (.ref a0), .val (.int (6 : Int32)), .val (.int (6 : Int32)), .val (.int (3 : Int32)), .val (.int y9)] [(.int (3 : Int32)), (.int (6 : Int32)), (.ref a0)])
  refine ogo (fun _ z_ => XS.iadd X28.here hx rfl (hb hby d2_28) rfl z_) ?_
  show OWay p e below G T28 (mkF m 29 #[.val (.ref a0), .val (.int (6 : Int32)), .val (.int (6 : Int32)), .val (.int (3 : Int32)), .val (.int y9)] [(.int ((6 : Int32) + (3 : Int32))), (.ref a0)])
  refine ogoE (g' := (mkF m 29 #[.val (.ref a0), .val (.int (6 : Int32)), .val (.int (6 : Int32)), .val (.int (3 : Int32)), .val (.int y9)] [(.int (9 : Int32)), (.ref a0)])) (by rw [show ((6 : Int32) + (3 : Int32)) = (9 : Int32) from by decide]) ?_
  refine ogo (fun _ z_ => XS.iload X28.here hx rfl (hb hby d2_29) rfl z_) ?_
  show OWay p e below G T28 (mkF m 31 #[.val (.ref a0), .val (.int (6 : Int32)), .val (.int (6 : Int32)), .val (.int (3 : Int32)), .val (.int y9)] [(.int y9), (.int (9 : Int32)), (.ref a0)])
  obtain ⟨cl_o30, Ar_o30, q_o30, S_o30, N_o30, H_o30, G_o30⟩ := id V_28
  have hin_o30 : ¬ ((9 : Int32) < 0 ∨ cl_o30.slots.size ≤ ((9 : Int32)).toNatClampNeg) := inb_of S_o30 ⟨by decide, by decide⟩
  obtain ⟨T31, h31, X31, eT31, W31, st31⟩ := stI X28 hx hZ eT28 Ar_o30 (j := (9 : Int32)) hin_o30 (g := (mkF m 31 #[.val (.ref a0), .val (.int (6 : Int32)), .val (.int (6 : Int32)), .val (.int (3 : Int32)), .val (.int y9)] [(.int y9), (.int (9 : Int32)), (.ref a0)])) rfl rfl (hb hby d2_31)
  have K32 : Keep h0 h31 [a0] := K29.wr W31 (Or.inl (List.mem_of_getElem? (i := 0) rfl))
  have V_31 : Arv Z h31 a0 kk .int (18 : Int32) [(.int y0), (.int y1), (.int y2), (.int y3), (.int y4), (.int y5), (.int y6), (.int y7), (.int y8), (.int y9), (.int y10), (.int y11), (.int y12), (.int y13), (.int y14), (.int y15), (.int y16), (.int y17)] (.int (0 : Int32)) := Arv.set Ar_o30 q_o30 S_o30 N_o30 H_o30 G_o30 rfl W31 9 rfl (Nat.le_of_ble_eq_true rfl)
  have N31 := Fr.snoc X31 N28 g_a0
  refine ogo st31 ?_
  show OWay p e below G T31 (mkF m 32 #[.val (.ref a0), .val (.int (6 : Int32)), .val (.int (6 : Int32)), .val (.int (3 : Int32)), .val (.int y9)] [])
  refine ogo (fun _ z_ => XS.iinc X31.here hx rfl (hb hby d2_32) rfl (l' := #[.val (.ref a0), .val (.int (6 : Int32)), .val (.int (6 : Int32)), .val (.int ((3 : Int32) + (1 : Int32))), .val (.int y9)]) rfl z_) ?_
  show OWay p e below G T31 (mkF m 35 #[.val (.ref a0), .val (.int (6 : Int32)), .val (.int (6 : Int32)), .val (.int ((3 : Int32) + (1 : Int32))), .val (.int y9)] [])
  refine ogoE (g' := (mkF m 35 #[.val (.ref a0), .val (.int (6 : Int32)), .val (.int (6 : Int32)), .val (.int (4 : Int32)), .val (.int y9)] [])) (by rw [show ((3 : Int32) + (1 : Int32)) = (4 : Int32) from by decide]) ?_
  refine ogo (fun _ z_ => XS.goto X31.here hx rfl (pc0 := 35) (pc' := 2) rfl (hb hby d2_35) (by decide) (by decide) z_) ?_
  show OWay p e below G T31 (mkF m 2 #[.val (.ref a0), .val (.int (6 : Int32)), .val (.int (6 : Int32)), .val (.int (4 : Int32)), .val (.int y9)] [])
  refine ogo (fun _ z_ => XS.iloadN X31.here hx rfl (hb hby d2_2) rfl z_) ?_
  show OWay p e below G T31 (mkF m 3 #[.val (.ref a0), .val (.int (6 : Int32)), .val (.int (6 : Int32)), .val (.int (4 : Int32)), .val (.int y9)] [(.int (4 : Int32))])
  refine ogo (fun _ z_ => XS.bipush X31.here hx rfl (hb hby d2_3) z_) ?_
  show OWay p e below G T31 (mkF m 5 #[.val (.ref a0), .val (.int (6 : Int32)), .val (.int (6 : Int32)), .val (.int (4 : Int32)), .val (.int y9)] [(.int (6 : Int32)), (.int (4 : Int32))])
  refine ogo (fun _ z_ => XS.icmpNo X31.here hx rfl (hb hby d2_5) rfl (tlt (by decide)).2.1 z_) ?_
  show OWay p e below G T31 (mkF m 8 #[.val (.ref a0), .val (.int (6 : Int32)), .val (.int (6 : Int32)), .val (.int (4 : Int32)), .val (.int y9)] [])
  refine ogo (fun _ z_ => XS.aloadN X31.here hx rfl (hb hby d2_8) rfl rfl z_) ?_
  show OWay p e below G T31 (mkF m 9 #[.val (.ref a0), .val (.int (6 : Int32)), .val (.int (6 : Int32)), .val (.int (4 : Int32)), .val (.int y9)] [(.ref a0)])
  refine ogo (fun _ z_ => XS.iloadN X31.here hx rfl (hb hby d2_9) rfl z_) ?_
  show OWay p e below G T31 (mkF m 10 #[.val (.ref a0), .val (.int (6 : Int32)), .val (.int (6 : Int32)), .val (.int (4 : Int32)), .val (.int y9)] [(.int (6 : Int32)), (.ref a0)])
  refine ogo (fun _ z_ => XS.iloadN X31.here hx rfl (hb hby d2_10) rfl z_) ?_
  show OWay p e below G T31 (mkF m 11 #[.val (.ref a0), .val (.int (6 : Int32)), .val (.int (6 : Int32)), .val (.int (4 : Int32)), .val (.int y9)] [(.int (4 : Int32)), (.int (6 : Int32)), (.ref a0)])
  refine ogo (fun _ z_ => XS.iadd X31.here hx rfl (hb hby d2_11) rfl z_) ?_
  show OWay p e below G T31 (mkF m 12 #[.val (.ref a0), .val (.int (6 : Int32)), .val (.int (6 : Int32)), .val (.int (4 : Int32)), .val (.int y9)] [(.int ((6 : Int32) + (4 : Int32))), (.ref a0)])
  refine ogoE (g' := (mkF m 12 #[.val (.ref a0), .val (.int (6 : Int32)), .val (.int (6 : Int32)), .val (.int (4 : Int32)), .val (.int y9)] [(.int (10 : Int32)), (.ref a0)])) (by rw [show ((6 : Int32) + (4 : Int32)) = (10 : Int32) from by decide]) ?_
  obtain ⟨cl_o33, Ar_o33, q_o33, S_o33, N_o33, H_o33, G_o33⟩ := id V_31
  have hin_o33 : ¬ ((10 : Int32) < 0 ∨ cl_o33.slots.size ≤ ((10 : Int32)).toNatClampNeg) := inb_of S_o33 ⟨by decide, by decide⟩
  have hat_o33 : cl_o33.slots[((10 : Int32)).toNatClampNeg]? = some (.int y10) := H_o33.at hin_o33 rfl
  refine ogo (fun _ z_ => X31.iaload hx (j := (10 : Int32)) (v := (.int y10)) (by rw [eT31]; exact Ar_o33.1) (State.isArrayOf_alike hZ.alike Ar_o33.2.1) Ar_o33.2.2 hin_o33 hat_o33 (g := (mkF m 12 #[.val (.ref a0), .val (.int (6 : Int32)), .val (.int (6 : Int32)), .val (.int (4 : Int32)), .val (.int y9)] [(.int (10 : Int32)), (.ref a0)])) rfl rfl (hb hby d2_12) _ z_) ?_
  show OWay p e below G T31 (mkF m 13 #[.val (.ref a0), .val (.int (6 : Int32)), .val (.int (6 : Int32)), .val (.int (4 : Int32)), .val (.int y9)] [(.int y10)])
  refine ogo (fun _ z_ => XS.istore X31.here hx rfl (hb hby d2_13) rfl (l' := #[.val (.ref a0), .val (.int (6 : Int32)), .val (.int (6 : Int32)), .val (.int (4 : Int32)), .val (.int y10)]) rfl z_) ?_
  show OWay p e below G T31 (mkF m 15 #[.val (.ref a0), .val (.int (6 : Int32)), .val (.int (6 : Int32)), .val (.int (4 : Int32)), .val (.int y10)] [])
  refine ogo (fun _ z_ => XS.aloadN X31.here hx rfl (hb hby d2_15) rfl rfl z_) ?_
  show OWay p e below G T31 (mkF m 16 #[.val (.ref a0), .val (.int (6 : Int32)), .val (.int (6 : Int32)), .val (.int (4 : Int32)), .val (.int y10)] [(.ref a0)])
  refine ogo (fun _ z_ => XS.iloadN X31.here hx rfl (hb hby d2_16) rfl z_) ?_
  show OWay p e below G T31 (mkF m 17 #[.val (.ref a0), .val (.int (6 : Int32)), .val (.int (6 : Int32)), .val (.int (4 : Int32)), .val (.int y10)] [(.int (6 : Int32)), (.ref a0)])
  refine ogo (fun _ z_ => XS.iloadN X31.here hx rfl (hb hby d2_17) rfl z_) ?_
  show OWay p e below G T31 (mkF m 18 #[.val (.ref a0), .val (.int (6 : Int32)), .val (.int (6 : Int32)), .val (.int (4 : Int32)), .val (.int y10)] [(.int (4 : Int32)), (.int (6 : Int32)), (.ref a0)])
  refine ogo (fun _ z_ => XS.iadd X31.here hx rfl (hb hby d2_18) rfl z_) ?_
  show OWay p e below G T31 (mkF m 19 #[.val (.ref a0), .val (.int (6 : Int32)), .val (.int (6 : Int32)), .val (.int (4 : Int32)), .val (.int y10)] [(.int ((6 : Int32) + (4 : Int32))), (.ref a0)])
  refine ogoE (g' := (mkF m 19 #[.val (.ref a0), .val (.int (6 : Int32)), .val (.int (6 : Int32)), .val (.int (4 : Int32)), .val (.int y10)] [(.int (10 : Int32)), (.ref a0)])) (by rw [show ((6 : Int32) + (4 : Int32)) = (10 : Int32) from by decide]) ?_
  refine ogo (fun _ z_ => XS.aloadN X31.here hx rfl (hb hby d2_19) rfl rfl z_) ?_
  show OWay p e below G T31 (mkF m 20 #[.val (.ref a0), .val (.int (6 : Int32)), .val (.int (6 : Int32)), .val (.int (4 : Int32)), .val (.int y10)] [(.ref a0), (.int (10 : Int32)), (.ref a0)])
  refine ogo (fun _ z_ => XS.iloadN X31.here hx rfl (hb hby d2_20) rfl z_) ?_
  show OWay p e below G T31 (mkF m 21 #[.val (.ref a0), .val (.int (6 : Int32)), .val (.int (6 : Int32)), .val (.int (4 : Int32)), .val (.int y10)] [(.int (6 : Int32)), (.ref a0), (.int (10 : Int32)), (.ref a0)])
  refine ogo (fun _ z_ => XS.iloadN X31.here hx rfl (hb hby d2_21) rfl z_) ?_
  show OWay p e below G T31 (mkF m 22 #[.val (.ref a0), .val (.int (6 : Int32)), .val (.int (6 : Int32)), .val (.int (4 : Int32)), .val (.int y10)] [(.int (4 : Int32)), (.int (6 : Int32)), (.ref a0), (.int (10 : Int32)), (.ref a0)])
  refine ogo (fun _ z_ => XS.iadd X31.here hx rfl (hb hby d2_22) rfl z_) ?_
  show OWay p e below G T31 (mkF m 23 #[.val (.ref a0), .val (.int (6 : Int32)), .val (.int (6 : Int32)), .val (.int (4 : Int32)), .val (.int y10)] [(.int ((6 : Int32) + (4 : Int32))), (.ref a0), (.int (10 : Int32)), (.ref a0)])
  refine ogoE (g' := (mkF m 23 #[.val (.ref a0), .val (.int (6 : Int32)), .val (.int (6 : Int32)), .val (.int (4 : Int32)), .val (.int y10)] [(.int (10 : Int32)), (.ref a0), (.int (10 : Int32)), (.ref a0)])) (by rw [show ((6 : Int32) + (4 : Int32)) = (10 : Int32) from by decide]) ?_
  obtain ⟨cl_o34, Ar_o34, q_o34, S_o34, N_o34, H_o34, G_o34⟩ := id V_31
  have hin_o34 : ¬ ((10 : Int32) < 0 ∨ cl_o34.slots.size ≤ ((10 : Int32)).toNatClampNeg) := inb_of S_o34 ⟨by decide, by decide⟩
  have hat_o34 : cl_o34.slots[((10 : Int32)).toNatClampNeg]? = some (.int y10) := H_o34.at hin_o34 rfl
  refine ogo (fun _ z_ => X31.iaload hx (j := (10 : Int32)) (v := (.int y10)) (by rw [eT31]; exact Ar_o34.1) (State.isArrayOf_alike hZ.alike Ar_o34.2.1) Ar_o34.2.2 hin_o34 hat_o34 (g := (mkF m 23 #[.val (.ref a0), .val (.int (6 : Int32)), .val (.int (6 : Int32)), .val (.int (4 : Int32)), .val (.int y10)] [(.int (10 : Int32)), (.ref a0), (.int (10 : Int32)), (.ref a0)])) rfl rfl (hb hby d2_23) _ z_) ?_
  show OWay p e below G T31 (mkF m 24 #[.val (.ref a0), .val (.int (6 : Int32)), .val (.int (6 : Int32)), .val (.int (4 : Int32)), .val (.int y10)] [(.int y10), (.int (10 : Int32)), (.ref a0)])
  obtain ⟨cl_o35, Ar_o35, q_o35, S_o35, N_o35, H_o35, G_o35⟩ := id V_31
  have hin_o35 : ¬ ((10 : Int32) < 0 ∨ cl_o35.slots.size ≤ ((10 : Int32)).toNatClampNeg) := inb_of S_o35 ⟨by decide, by decide⟩
  obtain ⟨T36, h36, X36, eT36, W36, st36⟩ := stI X31 hx hZ eT31 Ar_o35 (j := (10 : Int32)) hin_o35 (g := (mkF m 24 #[.val (.ref a0), .val (.int (6 : Int32)), .val (.int (6 : Int32)), .val (.int (4 : Int32)), .val (.int y10)] [(.int y10), (.int (10 : Int32)), (.ref a0)])) rfl rfl (hb hby d2_24)
  have K37 : Keep h0 h36 [a0] := K32.wr W36 (Or.inl (List.mem_of_getElem? (i := 0) rfl))
  have V_36 : Arv Z h36 a0 kk .int (18 : Int32) [(.int y0), (.int y1), (.int y2), (.int y3), (.int y4), (.int y5), (.int y6), (.int y7), (.int y8), (.int y9), (.int y10), (.int y11), (.int y12), (.int y13), (.int y14), (.int y15), (.int y16), (.int y17)] (.int (0 : Int32)) := Arv.set Ar_o35 q_o35 S_o35 N_o35 H_o35 G_o35 rfl W36 10 rfl (Nat.le_of_ble_eq_true rfl)
  have N36 := Fr.snoc X36 N31 g_a0
  refine ogo st36 ?_
  show OWay p e below G T36 (mkF m 25 #[.val (.ref a0), .val (.int (6 : Int32)), .val (.int (6 : Int32)), .val (.int (4 : Int32)), .val (.int y10)] [])
  refine ogo (fun _ z_ => XS.aloadN X36.here hx rfl (hb hby d2_25) rfl rfl z_) ?_
  show OWay p e below G T36 (mkF m 26 #[.val (.ref a0), .val (.int (6 : Int32)), .val (.int (6 : Int32)), .val (.int (4 : Int32)), .val (.int y10)] [(.ref a0)])
  refine ogo (fun _ z_ => XS.iloadN X36.here hx rfl (hb hby d2_26) rfl z_) ?_
  show OWay p e below G T36 (mkF m 27 #[.val (.ref a0), .val (.int (6 : Int32)), .val (.int (6 : Int32)), .val (.int (4 : Int32)), .val (.int y10)] [(.int (6 : Int32)), (.ref a0)])
  refine ogo (fun _ z_ => XS.iloadN X36.here hx rfl (hb hby d2_27) rfl z_) ?_
  show OWay p e below G T36 (mkF m 28 #[.val (.ref a0), .val (.int (6 : Int32)), .val (.int (6 : Int32)), .val (.int (4 : Int32)), .val (.int y10)] [(.int (4 : Int32)), (.int (6 : Int32)), (.ref a0)])
  refine ogo (fun _ z_ => XS.iadd X36.here hx rfl (hb hby d2_28) rfl z_) ?_
  show OWay p e below G T36 (mkF m 29 #[.val (.ref a0), .val (.int (6 : Int32)), .val (.int (6 : Int32)), .val (.int (4 : Int32)), .val (.int y10)] [(.int ((6 : Int32) + (4 : Int32))), (.ref a0)])
  refine ogoE (g' := (mkF m 29 #[.val (.ref a0), .val (.int (6 : Int32)), .val (.int (6 : Int32)), .val (.int (4 : Int32)), .val (.int y10)] [(.int (10 : Int32)), (.ref a0)])) (by rw [show ((6 : Int32) + (4 : Int32)) = (10 : Int32) from by decide]) ?_
  refine ogo (fun _ z_ => XS.iload X36.here hx rfl (hb hby d2_29) rfl z_) ?_
  show OWay p e below G T36 (mkF m 31 #[.val (.ref a0), .val (.int (6 : Int32)), .val (.int (6 : Int32)), .val (.int (4 : Int32)), .val (.int y10)] [(.int y10), (.int (10 : Int32)), (.ref a0)])
  obtain ⟨cl_o38, Ar_o38, q_o38, S_o38, N_o38, H_o38, G_o38⟩ := id V_36
  have hin_o38 : ¬ ((10 : Int32) < 0 ∨ cl_o38.slots.size ≤ ((10 : Int32)).toNatClampNeg) := inb_of S_o38 ⟨by decide, by decide⟩
  obtain ⟨T39, h39, X39, eT39, W39, st39⟩ := stI X36 hx hZ eT36 Ar_o38 (j := (10 : Int32)) hin_o38 (g := (mkF m 31 #[.val (.ref a0), .val (.int (6 : Int32)), .val (.int (6 : Int32)), .val (.int (4 : Int32)), .val (.int y10)] [(.int y10), (.int (10 : Int32)), (.ref a0)])) rfl rfl (hb hby d2_31)
  have K40 : Keep h0 h39 [a0] := K37.wr W39 (Or.inl (List.mem_of_getElem? (i := 0) rfl))
  have V_39 : Arv Z h39 a0 kk .int (18 : Int32) [(.int y0), (.int y1), (.int y2), (.int y3), (.int y4), (.int y5), (.int y6), (.int y7), (.int y8), (.int y9), (.int y10), (.int y11), (.int y12), (.int y13), (.int y14), (.int y15), (.int y16), (.int y17)] (.int (0 : Int32)) := Arv.set Ar_o38 q_o38 S_o38 N_o38 H_o38 G_o38 rfl W39 10 rfl (Nat.le_of_ble_eq_true rfl)
  have N39 := Fr.snoc X39 N36 g_a0
  refine ogo st39 ?_
  show OWay p e below G T39 (mkF m 32 #[.val (.ref a0), .val (.int (6 : Int32)), .val (.int (6 : Int32)), .val (.int (4 : Int32)), .val (.int y10)] [])
  refine ogo (fun _ z_ => XS.iinc X39.here hx rfl (hb hby d2_32) rfl (l' := #[.val (.ref a0), .val (.int (6 : Int32)), .val (.int (6 : Int32)), .val (.int ((4 : Int32) + (1 : Int32))), .val (.int y10)]) rfl z_) ?_
  show OWay p e below G T39 (mkF m 35 #[.val (.ref a0), .val (.int (6 : Int32)), .val (.int (6 : Int32)), .val (.int ((4 : Int32) + (1 : Int32))), .val (.int y10)] [])
  refine ogoE (g' := (mkF m 35 #[.val (.ref a0), .val (.int (6 : Int32)), .val (.int (6 : Int32)), .val (.int (5 : Int32)), .val (.int y10)] [])) (by rw [show ((4 : Int32) + (1 : Int32)) = (5 : Int32) from by decide]) ?_
  refine ogo (fun _ z_ => XS.goto X39.here hx rfl (pc0 := 35) (pc' := 2) rfl (hb hby d2_35) (by decide) (by decide) z_) ?_
  show OWay p e below G T39 (mkF m 2 #[.val (.ref a0), .val (.int (6 : Int32)), .val (.int (6 : Int32)), .val (.int (5 : Int32)), .val (.int y10)] [])
  refine ogo (fun _ z_ => XS.iloadN X39.here hx rfl (hb hby d2_2) rfl z_) ?_
  show OWay p e below G T39 (mkF m 3 #[.val (.ref a0), .val (.int (6 : Int32)), .val (.int (6 : Int32)), .val (.int (5 : Int32)), .val (.int y10)] [(.int (5 : Int32))])
  refine ogo (fun _ z_ => XS.bipush X39.here hx rfl (hb hby d2_3) z_) ?_
  show OWay p e below G T39 (mkF m 5 #[.val (.ref a0), .val (.int (6 : Int32)), .val (.int (6 : Int32)), .val (.int (5 : Int32)), .val (.int y10)] [(.int (6 : Int32)), (.int (5 : Int32))])
  refine ogo (fun _ z_ => XS.icmpNo X39.here hx rfl (hb hby d2_5) rfl (tlt (by decide)).2.1 z_) ?_
  show OWay p e below G T39 (mkF m 8 #[.val (.ref a0), .val (.int (6 : Int32)), .val (.int (6 : Int32)), .val (.int (5 : Int32)), .val (.int y10)] [])
  refine ogo (fun _ z_ => XS.aloadN X39.here hx rfl (hb hby d2_8) rfl rfl z_) ?_
  show OWay p e below G T39 (mkF m 9 #[.val (.ref a0), .val (.int (6 : Int32)), .val (.int (6 : Int32)), .val (.int (5 : Int32)), .val (.int y10)] [(.ref a0)])
  refine ogo (fun _ z_ => XS.iloadN X39.here hx rfl (hb hby d2_9) rfl z_) ?_
  show OWay p e below G T39 (mkF m 10 #[.val (.ref a0), .val (.int (6 : Int32)), .val (.int (6 : Int32)), .val (.int (5 : Int32)), .val (.int y10)] [(.int (6 : Int32)), (.ref a0)])
  refine ogo (fun _ z_ => XS.iloadN X39.here hx rfl (hb hby d2_10) rfl z_) ?_
  show OWay p e below G T39 (mkF m 11 #[.val (.ref a0), .val (.int (6 : Int32)), .val (.int (6 : Int32)), .val (.int (5 : Int32)), .val (.int y10)] [(.int (5 : Int32)), (.int (6 : Int32)), (.ref a0)])
  refine ogo (fun _ z_ => XS.iadd X39.here hx rfl (hb hby d2_11) rfl z_) ?_
  show OWay p e below G T39 (mkF m 12 #[.val (.ref a0), .val (.int (6 : Int32)), .val (.int (6 : Int32)), .val (.int (5 : Int32)), .val (.int y10)] [(.int ((6 : Int32) + (5 : Int32))), (.ref a0)])
  refine ogoE (g' := (mkF m 12 #[.val (.ref a0), .val (.int (6 : Int32)), .val (.int (6 : Int32)), .val (.int (5 : Int32)), .val (.int y10)] [(.int (11 : Int32)), (.ref a0)])) (by rw [show ((6 : Int32) + (5 : Int32)) = (11 : Int32) from by decide]) ?_
  obtain ⟨cl_o41, Ar_o41, q_o41, S_o41, N_o41, H_o41, G_o41⟩ := id V_39
  have hin_o41 : ¬ ((11 : Int32) < 0 ∨ cl_o41.slots.size ≤ ((11 : Int32)).toNatClampNeg) := inb_of S_o41 ⟨by decide, by decide⟩
  have hat_o41 : cl_o41.slots[((11 : Int32)).toNatClampNeg]? = some (.int y11) := H_o41.at hin_o41 rfl
  refine ogo (fun _ z_ => X39.iaload hx (j := (11 : Int32)) (v := (.int y11)) (by rw [eT39]; exact Ar_o41.1) (State.isArrayOf_alike hZ.alike Ar_o41.2.1) Ar_o41.2.2 hin_o41 hat_o41 (g := (mkF m 12 #[.val (.ref a0), .val (.int (6 : Int32)), .val (.int (6 : Int32)), .val (.int (5 : Int32)), .val (.int y10)] [(.int (11 : Int32)), (.ref a0)])) rfl rfl (hb hby d2_12) _ z_) ?_
  show OWay p e below G T39 (mkF m 13 #[.val (.ref a0), .val (.int (6 : Int32)), .val (.int (6 : Int32)), .val (.int (5 : Int32)), .val (.int y10)] [(.int y11)])
  refine ogo (fun _ z_ => XS.istore X39.here hx rfl (hb hby d2_13) rfl (l' := #[.val (.ref a0), .val (.int (6 : Int32)), .val (.int (6 : Int32)), .val (.int (5 : Int32)), .val (.int y11)]) rfl z_) ?_
  show OWay p e below G T39 (mkF m 15 #[.val (.ref a0), .val (.int (6 : Int32)), .val (.int (6 : Int32)), .val (.int (5 : Int32)), .val (.int y11)] [])
  refine ogo (fun _ z_ => XS.aloadN X39.here hx rfl (hb hby d2_15) rfl rfl z_) ?_
  show OWay p e below G T39 (mkF m 16 #[.val (.ref a0), .val (.int (6 : Int32)), .val (.int (6 : Int32)), .val (.int (5 : Int32)), .val (.int y11)] [(.ref a0)])
  refine ogo (fun _ z_ => XS.iloadN X39.here hx rfl (hb hby d2_16) rfl z_) ?_
  show OWay p e below G T39 (mkF m 17 #[.val (.ref a0), .val (.int (6 : Int32)), .val (.int (6 : Int32)), .val (.int (5 : Int32)), .val (.int y11)] [(.int (6 : Int32)), (.ref a0)])
  refine ogo (fun _ z_ => XS.iloadN X39.here hx rfl (hb hby d2_17) rfl z_) ?_
  show OWay p e below G T39 (mkF m 18 #[.val (.ref a0), .val (.int (6 : Int32)), .val (.int (6 : Int32)), .val (.int (5 : Int32)), .val (.int y11)] [(.int (5 : Int32)), (.int (6 : Int32)), (.ref a0)])
  refine ogo (fun _ z_ => XS.iadd X39.here hx rfl (hb hby d2_18) rfl z_) ?_
  show OWay p e below G T39 (mkF m 19 #[.val (.ref a0), .val (.int (6 : Int32)), .val (.int (6 : Int32)), .val (.int (5 : Int32)), .val (.int y11)] [(.int ((6 : Int32) + (5 : Int32))), (.ref a0)])
  refine ogoE (g' := (mkF m 19 #[.val (.ref a0), .val (.int (6 : Int32)), .val (.int (6 : Int32)), .val (.int (5 : Int32)), .val (.int y11)] [(.int (11 : Int32)), (.ref a0)])) (by rw [show ((6 : Int32) + (5 : Int32)) = (11 : Int32) from by decide]) ?_
  refine ogo (fun _ z_ => XS.aloadN X39.here hx rfl (hb hby d2_19) rfl rfl z_) ?_
  show OWay p e below G T39 (mkF m 20 #[.val (.ref a0), .val (.int (6 : Int32)), .val (.int (6 : Int32)), .val (.int (5 : Int32)), .val (.int y11)] [(.ref a0), (.int (11 : Int32)), (.ref a0)])
  refine ogo (fun _ z_ => XS.iloadN X39.here hx rfl (hb hby d2_20) rfl z_) ?_
  show OWay p e below G T39 (mkF m 21 #[.val (.ref a0), .val (.int (6 : Int32)), .val (.int (6 : Int32)), .val (.int (5 : Int32)), .val (.int y11)] [(.int (6 : Int32)), (.ref a0), (.int (11 : Int32)), (.ref a0)])
  refine ogo (fun _ z_ => XS.iloadN X39.here hx rfl (hb hby d2_21) rfl z_) ?_
  show OWay p e below G T39 (mkF m 22 #[.val (.ref a0), .val (.int (6 : Int32)), .val (.int (6 : Int32)), .val (.int (5 : Int32)), .val (.int y11)] [(.int (5 : Int32)), (.int (6 : Int32)), (.ref a0), (.int (11 : Int32)), (.ref a0)])
  refine ogo (fun _ z_ => XS.iadd X39.here hx rfl (hb hby d2_22) rfl z_) ?_
  show OWay p e below G T39 (mkF m 23 #[.val (.ref a0), .val (.int (6 : Int32)), .val (.int (6 : Int32)), .val (.int (5 : Int32)), .val (.int y11)] [(.int ((6 : Int32) + (5 : Int32))), (.ref a0), (.int (11 : Int32)), (.ref a0)])
  refine ogoE (g' := (mkF m 23 #[.val (.ref a0), .val (.int (6 : Int32)), .val (.int (6 : Int32)), .val (.int (5 : Int32)), .val (.int y11)] [(.int (11 : Int32)), (.ref a0), (.int (11 : Int32)), (.ref a0)])) (by rw [show ((6 : Int32) + (5 : Int32)) = (11 : Int32) from by decide]) ?_
  obtain ⟨cl_o42, Ar_o42, q_o42, S_o42, N_o42, H_o42, G_o42⟩ := id V_39
  have hin_o42 : ¬ ((11 : Int32) < 0 ∨ cl_o42.slots.size ≤ ((11 : Int32)).toNatClampNeg) := inb_of S_o42 ⟨by decide, by decide⟩
  have hat_o42 : cl_o42.slots[((11 : Int32)).toNatClampNeg]? = some (.int y11) := H_o42.at hin_o42 rfl
  refine ogo (fun _ z_ => X39.iaload hx (j := (11 : Int32)) (v := (.int y11)) (by rw [eT39]; exact Ar_o42.1) (State.isArrayOf_alike hZ.alike Ar_o42.2.1) Ar_o42.2.2 hin_o42 hat_o42 (g := (mkF m 23 #[.val (.ref a0), .val (.int (6 : Int32)), .val (.int (6 : Int32)), .val (.int (5 : Int32)), .val (.int y11)] [(.int (11 : Int32)), (.ref a0), (.int (11 : Int32)), (.ref a0)])) rfl rfl (hb hby d2_23) _ z_) ?_
  show OWay p e below G T39 (mkF m 24 #[.val (.ref a0), .val (.int (6 : Int32)), .val (.int (6 : Int32)), .val (.int (5 : Int32)), .val (.int y11)] [(.int y11), (.int (11 : Int32)), (.ref a0)])
  obtain ⟨cl_o43, Ar_o43, q_o43, S_o43, N_o43, H_o43, G_o43⟩ := id V_39
  have hin_o43 : ¬ ((11 : Int32) < 0 ∨ cl_o43.slots.size ≤ ((11 : Int32)).toNatClampNeg) := inb_of S_o43 ⟨by decide, by decide⟩
  obtain ⟨T44, h44, X44, eT44, W44, st44⟩ := stI X39 hx hZ eT39 Ar_o43 (j := (11 : Int32)) hin_o43 (g := (mkF m 24 #[.val (.ref a0), .val (.int (6 : Int32)), .val (.int (6 : Int32)), .val (.int (5 : Int32)), .val (.int y11)] [(.int y11), (.int (11 : Int32)), (.ref a0)])) rfl rfl (hb hby d2_24)
  have K45 : Keep h0 h44 [a0] := K40.wr W44 (Or.inl (List.mem_of_getElem? (i := 0) rfl))
  have V_44 : Arv Z h44 a0 kk .int (18 : Int32) [(.int y0), (.int y1), (.int y2), (.int y3), (.int y4), (.int y5), (.int y6), (.int y7), (.int y8), (.int y9), (.int y10), (.int y11), (.int y12), (.int y13), (.int y14), (.int y15), (.int y16), (.int y17)] (.int (0 : Int32)) := Arv.set Ar_o43 q_o43 S_o43 N_o43 H_o43 G_o43 rfl W44 11 rfl (Nat.le_of_ble_eq_true rfl)
  have N44 := Fr.snoc X44 N39 g_a0
  refine ogo st44 ?_
  show OWay p e below G T44 (mkF m 25 #[.val (.ref a0), .val (.int (6 : Int32)), .val (.int (6 : Int32)), .val (.int (5 : Int32)), .val (.int y11)] [])
  refine ogo (fun _ z_ => XS.aloadN X44.here hx rfl (hb hby d2_25) rfl rfl z_) ?_
  show OWay p e below G T44 (mkF m 26 #[.val (.ref a0), .val (.int (6 : Int32)), .val (.int (6 : Int32)), .val (.int (5 : Int32)), .val (.int y11)] [(.ref a0)])
  refine ogo (fun _ z_ => XS.iloadN X44.here hx rfl (hb hby d2_26) rfl z_) ?_
  show OWay p e below G T44 (mkF m 27 #[.val (.ref a0), .val (.int (6 : Int32)), .val (.int (6 : Int32)), .val (.int (5 : Int32)), .val (.int y11)] [(.int (6 : Int32)), (.ref a0)])
  refine ogo (fun _ z_ => XS.iloadN X44.here hx rfl (hb hby d2_27) rfl z_) ?_
  show OWay p e below G T44 (mkF m 28 #[.val (.ref a0), .val (.int (6 : Int32)), .val (.int (6 : Int32)), .val (.int (5 : Int32)), .val (.int y11)] [(.int (5 : Int32)), (.int (6 : Int32)), (.ref a0)])
  refine ogo (fun _ z_ => XS.iadd X44.here hx rfl (hb hby d2_28) rfl z_) ?_
  show OWay p e below G T44 (mkF m 29 #[.val (.ref a0), .val (.int (6 : Int32)), .val (.int (6 : Int32)), .val (.int (5 : Int32)), .val (.int y11)] [(.int ((6 : Int32) + (5 : Int32))), (.ref a0)])
  refine ogoE (g' := (mkF m 29 #[.val (.ref a0), .val (.int (6 : Int32)), .val (.int (6 : Int32)), .val (.int (5 : Int32)), .val (.int y11)] [(.int (11 : Int32)), (.ref a0)])) (by rw [show ((6 : Int32) + (5 : Int32)) = (11 : Int32) from by decide]) ?_
  refine ogo (fun _ z_ => XS.iload X44.here hx rfl (hb hby d2_29) rfl z_) ?_
  show OWay p e below G T44 (mkF m 31 #[.val (.ref a0), .val (.int (6 : Int32)), .val (.int (6 : Int32)), .val (.int (5 : Int32)), .val (.int y11)] [(.int y11), (.int (11 : Int32)), (.ref a0)])
  obtain ⟨cl_o46, Ar_o46, q_o46, S_o46, N_o46, H_o46, G_o46⟩ := id V_44
  have hin_o46 : ¬ ((11 : Int32) < 0 ∨ cl_o46.slots.size ≤ ((11 : Int32)).toNatClampNeg) := inb_of S_o46 ⟨by decide, by decide⟩
  obtain ⟨T47, h47, X47, eT47, W47, st47⟩ := stI X44 hx hZ eT44 Ar_o46 (j := (11 : Int32)) hin_o46 (g := (mkF m 31 #[.val (.ref a0), .val (.int (6 : Int32)), .val (.int (6 : Int32)), .val (.int (5 : Int32)), .val (.int y11)] [(.int y11), (.int (11 : Int32)), (.ref a0)])) rfl rfl (hb hby d2_31)
  have K48 : Keep h0 h47 [a0] := K45.wr W47 (Or.inl (List.mem_of_getElem? (i := 0) rfl))
  have V_47 : Arv Z h47 a0 kk .int (18 : Int32) [(.int y0), (.int y1), (.int y2), (.int y3), (.int y4), (.int y5), (.int y6), (.int y7), (.int y8), (.int y9), (.int y10), (.int y11), (.int y12), (.int y13), (.int y14), (.int y15), (.int y16), (.int y17)] (.int (0 : Int32)) := Arv.set Ar_o46 q_o46 S_o46 N_o46 H_o46 G_o46 rfl W47 11 rfl (Nat.le_of_ble_eq_true rfl)
  have N47 := Fr.snoc X47 N44 g_a0
  refine ogo st47 ?_
  show OWay p e below G T47 (mkF m 32 #[.val (.ref a0), .val (.int (6 : Int32)), .val (.int (6 : Int32)), .val (.int (5 : Int32)), .val (.int y11)] [])
  refine ogo (fun _ z_ => XS.iinc X47.here hx rfl (hb hby d2_32) rfl (l' := #[.val (.ref a0), .val (.int (6 : Int32)), .val (.int (6 : Int32)), .val (.int ((5 : Int32) + (1 : Int32))), .val (.int y11)]) rfl z_) ?_
  show OWay p e below G T47 (mkF m 35 #[.val (.ref a0), .val (.int (6 : Int32)), .val (.int (6 : Int32)), .val (.int ((5 : Int32) + (1 : Int32))), .val (.int y11)] [])
  refine ogoE (g' := (mkF m 35 #[.val (.ref a0), .val (.int (6 : Int32)), .val (.int (6 : Int32)), .val (.int (6 : Int32)), .val (.int y11)] [])) (by rw [show ((5 : Int32) + (1 : Int32)) = (6 : Int32) from by decide]) ?_
  refine ogo (fun _ z_ => XS.goto X47.here hx rfl (pc0 := 35) (pc' := 2) rfl (hb hby d2_35) (by decide) (by decide) z_) ?_
  show OWay p e below G T47 (mkF m 2 #[.val (.ref a0), .val (.int (6 : Int32)), .val (.int (6 : Int32)), .val (.int (6 : Int32)), .val (.int y11)] [])
  refine ogo (fun _ z_ => XS.iloadN X47.here hx rfl (hb hby d2_2) rfl z_) ?_
  show OWay p e below G T47 (mkF m 3 #[.val (.ref a0), .val (.int (6 : Int32)), .val (.int (6 : Int32)), .val (.int (6 : Int32)), .val (.int y11)] [(.int (6 : Int32))])
  refine ogo (fun _ z_ => XS.bipush X47.here hx rfl (hb hby d2_3) z_) ?_
  show OWay p e below G T47 (mkF m 5 #[.val (.ref a0), .val (.int (6 : Int32)), .val (.int (6 : Int32)), .val (.int (6 : Int32)), .val (.int y11)] [(.int (6 : Int32)), (.int (6 : Int32))])
  refine ogo (fun _ z_ => XS.icmpYes X47.here hx rfl (pc0 := 5) (pc' := 38) rfl (hb hby d2_5) rfl (flt (by decide)).2.1 (by decide) (by decide) z_) ?_
  show OWay p e below G T47 (mkF m 38 #[.val (.ref a0), .val (.int (6 : Int32)), .val (.int (6 : Int32)), .val (.int (6 : Int32)), .val (.int y11)] [])
  subst hG
  refine wRetV X47 hx hret hlk (hb hby d2_38) (by decide) (by decide) eT47 ?_
  exact ⟨rfl, N47, K48, V_47⟩
def swap12_rm : Room := { frames := 0, cells := 0, slots := 0, locals := 0 }
def swap12_Q (Z : State) (a0 : Addr) (kk : ClassId) (y0 : Int32) (y1 : Int32) (y2 : Int32) (y3 : Int32) (y4 : Int32) (y5 : Int32) (y6 : Int32) (y7 : Int32) (y8 : Int32) (y9 : Int32) (y10 : Int32) (y11 : Int32) (y12 : Int32) (y13 : Int32) (y14 : Int32) (y15 : Int32) (y16 : Int32) (y17 : Int32) (h0 : Heap) (n0 : Nat) (v : Option Value) (h : Heap) (L : List Loc) : Prop := (v = none) ∧ (Fr n0 L) ∧ (Keep h0 h [a0]) ∧ (Arv Z h a0 kk .int (18 : Int32) [(.int y0), (.int y1), (.int y2), (.int y3), (.int y4), (.int y5), (.int y12), (.int y13), (.int y14), (.int y15), (.int y16), (.int y17), (.int y6), (.int y7), (.int y8), (.int y9), (.int y10), (.int y11)] (.int (0 : Int32)))
theorem swap12_ef (m : MethodId) (a0 : Addr) : entryFrame m #[(.ref a0), (.int (6 : Int32)), (.int (12 : Int32))] 5 = mkF m 0 #[.val (.ref a0), .val (.int (6 : Int32)), .val (.int (12 : Int32)), .unset, .unset] [] := by first | (simp [entryFrame, mkF, argsToLocals, Value.category]; done) | rfl
set_option maxRecDepth 65536 in
set_option maxHeartbeats 40000000 in
theorem swap12_c (l : Launch) (Z : State) (az : Array Value) (hw : ∀ d ∈ tables_1, d.before az Z = true) (ws : List Jvm.Cond) (a0 : Addr) (kk : ClassId) (y0 : Int32) (y1 : Int32) (y2 : Int32) (y3 : Int32) (y4 : Int32) (y5 : Int32) (y6 : Int32) (y7 : Int32) (y8 : Int32) (y9 : Int32) (y10 : Int32) (y11 : Int32) (y12 : Int32) (y13 : Int32) (y14 : Int32) (y15 : Int32) (y16 : Int32) (y17 : Int32) (h0 : Heap) (n0 : Nat) (Z0 : n0 ≤ h0.size) (hp0 : Arv Z h0 a0 kk .int (18 : Int32) [(.int y0), (.int y1), (.int y2), (.int y3), (.int y4), (.int y5), (.int y6), (.int y7), (.int y8), (.int y9), (.int y10), (.int y11), (.int y12), (.int y13), (.int y14), (.int y15), (.int y16), (.int y17)] (.int (0 : Int32))) (hp1 : n0 ≤ a0) :
    OCon l (⟨"com/example/geotide/geotide/Members", "swap", "([III)V"⟩ : MethodName) prog_44_method_8_code 5 none ws swap12_rm Z #[(.ref a0), (.int (6 : Int32)), (.int (12 : Int32))] h0 (swap12_Q Z a0 kk y0 y1 y2 y3 y4 y5 y6 y7 y8 y9 y10 y11 y12 y13 y14 y15 y16 y17 h0 n0) := by
  refine ocon (plainFor_of_name pn_com_example_geotide_geotide_Members) ?_
  intro p e s m below meth c s₁ hx hby hml hown hnm hret hlk hZ X0 eh0
  have N0 := Fr.nil n0
  have K0 := Keep.refl h0 [a0]
  refine ogoE (swap12_ef m a0) ?_
  have g_a0 := hp1
  generalize hG : (OEnd s below (swap12_Q Z a0 kk y0 y1 y2 y3 y4 y5 y6 y7 y8 y9 y10 y11 y12 y13 y14 y15 y16 y17 h0 n0) swap12_rm.cells swap12_rm.slots) = G
  show OWay p e below G s₁ (mkF m 0 #[.val (.ref a0), .val (.int (6 : Int32)), .val (.int (12 : Int32)), .unset, .unset] [])
  refine ogo (fun _ z_ => XS.iconst X0.here hx rfl (hb hby d2_0) z_) ?_
  show OWay p e below G s₁ (mkF m 1 #[.val (.ref a0), .val (.int (6 : Int32)), .val (.int (12 : Int32)), .unset, .unset] [(.int (0 : Int32))])
  refine ogo (fun _ z_ => XS.istoreN X0.here hx rfl (hb hby d2_1) rfl (l' := #[.val (.ref a0), .val (.int (6 : Int32)), .val (.int (12 : Int32)), .val (.int (0 : Int32)), .unset]) rfl z_) ?_
  show OWay p e below G s₁ (mkF m 2 #[.val (.ref a0), .val (.int (6 : Int32)), .val (.int (12 : Int32)), .val (.int (0 : Int32)), .unset] [])
  refine ogo (fun _ z_ => XS.iloadN X0.here hx rfl (hb hby d2_2) rfl z_) ?_
  show OWay p e below G s₁ (mkF m 3 #[.val (.ref a0), .val (.int (6 : Int32)), .val (.int (12 : Int32)), .val (.int (0 : Int32)), .unset] [(.int (0 : Int32))])
  refine ogo (fun _ z_ => XS.bipush X0.here hx rfl (hb hby d2_3) z_) ?_
  show OWay p e below G s₁ (mkF m 5 #[.val (.ref a0), .val (.int (6 : Int32)), .val (.int (12 : Int32)), .val (.int (0 : Int32)), .unset] [(.int (6 : Int32)), (.int (0 : Int32))])
  refine ogo (fun _ z_ => XS.icmpNo X0.here hx rfl (hb hby d2_5) rfl (tlt (by decide)).2.1 z_) ?_
  show OWay p e below G s₁ (mkF m 8 #[.val (.ref a0), .val (.int (6 : Int32)), .val (.int (12 : Int32)), .val (.int (0 : Int32)), .unset] [])
  refine ogo (fun _ z_ => XS.aloadN X0.here hx rfl (hb hby d2_8) rfl rfl z_) ?_
  show OWay p e below G s₁ (mkF m 9 #[.val (.ref a0), .val (.int (6 : Int32)), .val (.int (12 : Int32)), .val (.int (0 : Int32)), .unset] [(.ref a0)])
  refine ogo (fun _ z_ => XS.iloadN X0.here hx rfl (hb hby d2_9) rfl z_) ?_
  show OWay p e below G s₁ (mkF m 10 #[.val (.ref a0), .val (.int (6 : Int32)), .val (.int (12 : Int32)), .val (.int (0 : Int32)), .unset] [(.int (6 : Int32)), (.ref a0)])
  refine ogo (fun _ z_ => XS.iloadN X0.here hx rfl (hb hby d2_10) rfl z_) ?_
  show OWay p e below G s₁ (mkF m 11 #[.val (.ref a0), .val (.int (6 : Int32)), .val (.int (12 : Int32)), .val (.int (0 : Int32)), .unset] [(.int (0 : Int32)), (.int (6 : Int32)), (.ref a0)])
  refine ogo (fun _ z_ => XS.iadd X0.here hx rfl (hb hby d2_11) rfl z_) ?_
  show OWay p e below G s₁ (mkF m 12 #[.val (.ref a0), .val (.int (6 : Int32)), .val (.int (12 : Int32)), .val (.int (0 : Int32)), .unset] [(.int ((6 : Int32) + (0 : Int32))), (.ref a0)])
  refine ogoE (g' := (mkF m 12 #[.val (.ref a0), .val (.int (6 : Int32)), .val (.int (12 : Int32)), .val (.int (0 : Int32)), .unset] [(.int (6 : Int32)), (.ref a0)])) (by rw [show ((6 : Int32) + (0 : Int32)) = (6 : Int32) from by decide]) ?_
  obtain ⟨cl_o1, Ar_o1, q_o1, S_o1, N_o1, H_o1, G_o1⟩ := id hp0
  have hin_o1 : ¬ ((6 : Int32) < 0 ∨ cl_o1.slots.size ≤ ((6 : Int32)).toNatClampNeg) := inb_of S_o1 ⟨by decide, by decide⟩
  have hat_o1 : cl_o1.slots[((6 : Int32)).toNatClampNeg]? = some (.int y6) := H_o1.at hin_o1 rfl
  refine ogo (fun _ z_ => X0.iaload hx (j := (6 : Int32)) (v := (.int y6)) (by rw [eh0]; exact Ar_o1.1) (State.isArrayOf_alike hZ.alike Ar_o1.2.1) Ar_o1.2.2 hin_o1 hat_o1 (g := (mkF m 12 #[.val (.ref a0), .val (.int (6 : Int32)), .val (.int (12 : Int32)), .val (.int (0 : Int32)), .unset] [(.int (6 : Int32)), (.ref a0)])) rfl rfl (hb hby d2_12) _ z_) ?_
  show OWay p e below G s₁ (mkF m 13 #[.val (.ref a0), .val (.int (6 : Int32)), .val (.int (12 : Int32)), .val (.int (0 : Int32)), .unset] [(.int y6)])
  refine ogo (fun _ z_ => XS.istore X0.here hx rfl (hb hby d2_13) rfl (l' := #[.val (.ref a0), .val (.int (6 : Int32)), .val (.int (12 : Int32)), .val (.int (0 : Int32)), .val (.int y6)]) rfl z_) ?_
  show OWay p e below G s₁ (mkF m 15 #[.val (.ref a0), .val (.int (6 : Int32)), .val (.int (12 : Int32)), .val (.int (0 : Int32)), .val (.int y6)] [])
  refine ogo (fun _ z_ => XS.aloadN X0.here hx rfl (hb hby d2_15) rfl rfl z_) ?_
  show OWay p e below G s₁ (mkF m 16 #[.val (.ref a0), .val (.int (6 : Int32)), .val (.int (12 : Int32)), .val (.int (0 : Int32)), .val (.int y6)] [(.ref a0)])
  refine ogo (fun _ z_ => XS.iloadN X0.here hx rfl (hb hby d2_16) rfl z_) ?_
  show OWay p e below G s₁ (mkF m 17 #[.val (.ref a0), .val (.int (6 : Int32)), .val (.int (12 : Int32)), .val (.int (0 : Int32)), .val (.int y6)] [(.int (6 : Int32)), (.ref a0)])
  refine ogo (fun _ z_ => XS.iloadN X0.here hx rfl (hb hby d2_17) rfl z_) ?_
  show OWay p e below G s₁ (mkF m 18 #[.val (.ref a0), .val (.int (6 : Int32)), .val (.int (12 : Int32)), .val (.int (0 : Int32)), .val (.int y6)] [(.int (0 : Int32)), (.int (6 : Int32)), (.ref a0)])
  refine ogo (fun _ z_ => XS.iadd X0.here hx rfl (hb hby d2_18) rfl z_) ?_
  show OWay p e below G s₁ (mkF m 19 #[.val (.ref a0), .val (.int (6 : Int32)), .val (.int (12 : Int32)), .val (.int (0 : Int32)), .val (.int y6)] [(.int ((6 : Int32) + (0 : Int32))), (.ref a0)])
  refine ogoE (g' := (mkF m 19 #[.val (.ref a0), .val (.int (6 : Int32)), .val (.int (12 : Int32)), .val (.int (0 : Int32)), .val (.int y6)] [(.int (6 : Int32)), (.ref a0)])) (by rw [show ((6 : Int32) + (0 : Int32)) = (6 : Int32) from by decide]) ?_
  refine ogo (fun _ z_ => XS.aloadN X0.here hx rfl (hb hby d2_19) rfl rfl z_) ?_
  show OWay p e below G s₁ (mkF m 20 #[.val (.ref a0), .val (.int (6 : Int32)), .val (.int (12 : Int32)), .val (.int (0 : Int32)), .val (.int y6)] [(.ref a0), (.int (6 : Int32)), (.ref a0)])
  refine ogo (fun _ z_ => XS.iloadN X0.here hx rfl (hb hby d2_20) rfl z_) ?_
  show OWay p e below G s₁ (mkF m 21 #[.val (.ref a0), .val (.int (6 : Int32)), .val (.int (12 : Int32)), .val (.int (0 : Int32)), .val (.int y6)] [(.int (12 : Int32)), (.ref a0), (.int (6 : Int32)), (.ref a0)])
  refine ogo (fun _ z_ => XS.iloadN X0.here hx rfl (hb hby d2_21) rfl z_) ?_
  show OWay p e below G s₁ (mkF m 22 #[.val (.ref a0), .val (.int (6 : Int32)), .val (.int (12 : Int32)), .val (.int (0 : Int32)), .val (.int y6)] [(.int (0 : Int32)), (.int (12 : Int32)), (.ref a0), (.int (6 : Int32)), (.ref a0)])
  refine ogo (fun _ z_ => XS.iadd X0.here hx rfl (hb hby d2_22) rfl z_) ?_
  show OWay p e below G s₁ (mkF m 23 #[.val (.ref a0), .val (.int (6 : Int32)), .val (.int (12 : Int32)), .val (.int (0 : Int32)), .val (.int y6)] [(.int ((12 : Int32) + (0 : Int32))), (.ref a0), (.int (6 : Int32)), (.ref a0)])
  refine ogoE (g' := (mkF m 23 #[.val (.ref a0), .val (.int (6 : Int32)), .val (.int (12 : Int32)), .val (.int (0 : Int32)), .val (.int y6)] [(.int (12 : Int32)), (.ref a0), (.int (6 : Int32)), (.ref a0)])) (by rw [show ((12 : Int32) + (0 : Int32)) = (12 : Int32) from by decide]) ?_
  obtain ⟨cl_o2, Ar_o2, q_o2, S_o2, N_o2, H_o2, G_o2⟩ := id hp0
  have hin_o2 : ¬ ((12 : Int32) < 0 ∨ cl_o2.slots.size ≤ ((12 : Int32)).toNatClampNeg) := inb_of S_o2 ⟨by decide, by decide⟩
  have hat_o2 : cl_o2.slots[((12 : Int32)).toNatClampNeg]? = some (.int y12) := H_o2.at hin_o2 rfl
  refine ogo (fun _ z_ => X0.iaload hx (j := (12 : Int32)) (v := (.int y12)) (by rw [eh0]; exact Ar_o2.1) (State.isArrayOf_alike hZ.alike Ar_o2.2.1) Ar_o2.2.2 hin_o2 hat_o2 (g := (mkF m 23 #[.val (.ref a0), .val (.int (6 : Int32)), .val (.int (12 : Int32)), .val (.int (0 : Int32)), .val (.int y6)] [(.int (12 : Int32)), (.ref a0), (.int (6 : Int32)), (.ref a0)])) rfl rfl (hb hby d2_23) _ z_) ?_
  show OWay p e below G s₁ (mkF m 24 #[.val (.ref a0), .val (.int (6 : Int32)), .val (.int (12 : Int32)), .val (.int (0 : Int32)), .val (.int y6)] [(.int y12), (.int (6 : Int32)), (.ref a0)])
  obtain ⟨cl_o3, Ar_o3, q_o3, S_o3, N_o3, H_o3, G_o3⟩ := id hp0
  have hin_o3 : ¬ ((6 : Int32) < 0 ∨ cl_o3.slots.size ≤ ((6 : Int32)).toNatClampNeg) := inb_of S_o3 ⟨by decide, by decide⟩
  obtain ⟨T4, h4, X4, eT4, W4, st4⟩ := stI X0 hx hZ eh0 Ar_o3 (j := (6 : Int32)) hin_o3 (g := (mkF m 24 #[.val (.ref a0), .val (.int (6 : Int32)), .val (.int (12 : Int32)), .val (.int (0 : Int32)), .val (.int y6)] [(.int y12), (.int (6 : Int32)), (.ref a0)])) rfl rfl (hb hby d2_24)
  have K5 : Keep h0 h4 [a0] := K0.wr W4 (Or.inl (List.mem_of_getElem? (i := 0) rfl))
  have V_4 : Arv Z h4 a0 kk .int (18 : Int32) [(.int y0), (.int y1), (.int y2), (.int y3), (.int y4), (.int y5), (.int y12), (.int y7), (.int y8), (.int y9), (.int y10), (.int y11), (.int y12), (.int y13), (.int y14), (.int y15), (.int y16), (.int y17)] (.int (0 : Int32)) := Arv.set Ar_o3 q_o3 S_o3 N_o3 H_o3 G_o3 rfl W4 6 rfl (Nat.le_of_ble_eq_true rfl)
  have N4 := Fr.snoc X4 N0 g_a0
  refine ogo st4 ?_
  show OWay p e below G T4 (mkF m 25 #[.val (.ref a0), .val (.int (6 : Int32)), .val (.int (12 : Int32)), .val (.int (0 : Int32)), .val (.int y6)] [])
  refine ogo (fun _ z_ => XS.aloadN X4.here hx rfl (hb hby d2_25) rfl rfl z_) ?_
  show OWay p e below G T4 (mkF m 26 #[.val (.ref a0), .val (.int (6 : Int32)), .val (.int (12 : Int32)), .val (.int (0 : Int32)), .val (.int y6)] [(.ref a0)])
  refine ogo (fun _ z_ => XS.iloadN X4.here hx rfl (hb hby d2_26) rfl z_) ?_
  show OWay p e below G T4 (mkF m 27 #[.val (.ref a0), .val (.int (6 : Int32)), .val (.int (12 : Int32)), .val (.int (0 : Int32)), .val (.int y6)] [(.int (12 : Int32)), (.ref a0)])
  refine ogo (fun _ z_ => XS.iloadN X4.here hx rfl (hb hby d2_27) rfl z_) ?_
  show OWay p e below G T4 (mkF m 28 #[.val (.ref a0), .val (.int (6 : Int32)), .val (.int (12 : Int32)), .val (.int (0 : Int32)), .val (.int y6)] [(.int (0 : Int32)), (.int (12 : Int32)), (.ref a0)])
  refine ogo (fun _ z_ => XS.iadd X4.here hx rfl (hb hby d2_28) rfl z_) ?_
  show OWay p e below G T4 (mkF m 29 #[.val (.ref a0), .val (.int (6 : Int32)), .val (.int (12 : Int32)), .val (.int (0 : Int32)), .val (.int y6)] [(.int ((12 : Int32) + (0 : Int32))), (.ref a0)])
  refine ogoE (g' := (mkF m 29 #[.val (.ref a0), .val (.int (6 : Int32)), .val (.int (12 : Int32)), .val (.int (0 : Int32)), .val (.int y6)] [(.int (12 : Int32)), (.ref a0)])) (by rw [show ((12 : Int32) + (0 : Int32)) = (12 : Int32) from by decide]) ?_
  refine ogo (fun _ z_ => XS.iload X4.here hx rfl (hb hby d2_29) rfl z_) ?_
  show OWay p e below G T4 (mkF m 31 #[.val (.ref a0), .val (.int (6 : Int32)), .val (.int (12 : Int32)), .val (.int (0 : Int32)), .val (.int y6)] [(.int y6), (.int (12 : Int32)), (.ref a0)])
  obtain ⟨cl_o6, Ar_o6, q_o6, S_o6, N_o6, H_o6, G_o6⟩ := id V_4
  have hin_o6 : ¬ ((12 : Int32) < 0 ∨ cl_o6.slots.size ≤ ((12 : Int32)).toNatClampNeg) := inb_of S_o6 ⟨by decide, by decide⟩
  obtain ⟨T7, h7, X7, eT7, W7, st7⟩ := stI X4 hx hZ eT4 Ar_o6 (j := (12 : Int32)) hin_o6 (g := (mkF m 31 #[.val (.ref a0), .val (.int (6 : Int32)), .val (.int (12 : Int32)), .val (.int (0 : Int32)), .val (.int y6)] [(.int y6), (.int (12 : Int32)), (.ref a0)])) rfl rfl (hb hby d2_31)
  have K8 : Keep h0 h7 [a0] := K5.wr W7 (Or.inl (List.mem_of_getElem? (i := 0) rfl))
  have V_7 : Arv Z h7 a0 kk .int (18 : Int32) [(.int y0), (.int y1), (.int y2), (.int y3), (.int y4), (.int y5), (.int y12), (.int y7), (.int y8), (.int y9), (.int y10), (.int y11), (.int y6), (.int y13), (.int y14), (.int y15), (.int y16), (.int y17)] (.int (0 : Int32)) := Arv.set Ar_o6 q_o6 S_o6 N_o6 H_o6 G_o6 rfl W7 12 rfl (Nat.le_of_ble_eq_true rfl)
  have N7 := Fr.snoc X7 N4 g_a0
  refine ogo st7 ?_
  show OWay p e below G T7 (mkF m 32 #[.val (.ref a0), .val (.int (6 : Int32)), .val (.int (12 : Int32)), .val (.int (0 : Int32)), .val (.int y6)] [])
  refine ogo (fun _ z_ => XS.iinc X7.here hx rfl (hb hby d2_32) rfl (l' := #[.val (.ref a0), .val (.int (6 : Int32)), .val (.int (12 : Int32)), .val (.int ((0 : Int32) + (1 : Int32))), .val (.int y6)]) rfl z_) ?_
  show OWay p e below G T7 (mkF m 35 #[.val (.ref a0), .val (.int (6 : Int32)), .val (.int (12 : Int32)), .val (.int ((0 : Int32) + (1 : Int32))), .val (.int y6)] [])
  refine ogoE (g' := (mkF m 35 #[.val (.ref a0), .val (.int (6 : Int32)), .val (.int (12 : Int32)), .val (.int (1 : Int32)), .val (.int y6)] [])) (by rw [show ((0 : Int32) + (1 : Int32)) = (1 : Int32) from by decide]) ?_
  refine ogo (fun _ z_ => XS.goto X7.here hx rfl (pc0 := 35) (pc' := 2) rfl (hb hby d2_35) (by decide) (by decide) z_) ?_
  show OWay p e below G T7 (mkF m 2 #[.val (.ref a0), .val (.int (6 : Int32)), .val (.int (12 : Int32)), .val (.int (1 : Int32)), .val (.int y6)] [])
  refine ogo (fun _ z_ => XS.iloadN X7.here hx rfl (hb hby d2_2) rfl z_) ?_
  show OWay p e below G T7 (mkF m 3 #[.val (.ref a0), .val (.int (6 : Int32)), .val (.int (12 : Int32)), .val (.int (1 : Int32)), .val (.int y6)] [(.int (1 : Int32))])
  refine ogo (fun _ z_ => XS.bipush X7.here hx rfl (hb hby d2_3) z_) ?_
  show OWay p e below G T7 (mkF m 5 #[.val (.ref a0), .val (.int (6 : Int32)), .val (.int (12 : Int32)), .val (.int (1 : Int32)), .val (.int y6)] [(.int (6 : Int32)), (.int (1 : Int32))])
  refine ogo (fun _ z_ => XS.icmpNo X7.here hx rfl (hb hby d2_5) rfl (tlt (by decide)).2.1 z_) ?_
  show OWay p e below G T7 (mkF m 8 #[.val (.ref a0), .val (.int (6 : Int32)), .val (.int (12 : Int32)), .val (.int (1 : Int32)), .val (.int y6)] [])
  refine ogo (fun _ z_ => XS.aloadN X7.here hx rfl (hb hby d2_8) rfl rfl z_) ?_
  show OWay p e below G T7 (mkF m 9 #[.val (.ref a0), .val (.int (6 : Int32)), .val (.int (12 : Int32)), .val (.int (1 : Int32)), .val (.int y6)] [(.ref a0)])
  refine ogo (fun _ z_ => XS.iloadN X7.here hx rfl (hb hby d2_9) rfl z_) ?_
  show OWay p e below G T7 (mkF m 10 #[.val (.ref a0), .val (.int (6 : Int32)), .val (.int (12 : Int32)), .val (.int (1 : Int32)), .val (.int y6)] [(.int (6 : Int32)), (.ref a0)])
  refine ogo (fun _ z_ => XS.iloadN X7.here hx rfl (hb hby d2_10) rfl z_) ?_
  show OWay p e below G T7 (mkF m 11 #[.val (.ref a0), .val (.int (6 : Int32)), .val (.int (12 : Int32)), .val (.int (1 : Int32)), .val (.int y6)] [(.int (1 : Int32)), (.int (6 : Int32)), (.ref a0)])
  refine ogo (fun _ z_ => XS.iadd X7.here hx rfl (hb hby d2_11) rfl z_) ?_
  show OWay p e below G T7 (mkF m 12 #[.val (.ref a0), .val (.int (6 : Int32)), .val (.int (12 : Int32)), .val (.int (1 : Int32)), .val (.int y6)] [(.int ((6 : Int32) + (1 : Int32))), (.ref a0)])
  refine ogoE (g' := (mkF m 12 #[.val (.ref a0), .val (.int (6 : Int32)), .val (.int (12 : Int32)), .val (.int (1 : Int32)), .val (.int y6)] [(.int (7 : Int32)), (.ref a0)])) (by rw [show ((6 : Int32) + (1 : Int32)) = (7 : Int32) from by decide]) ?_
  obtain ⟨cl_o9, Ar_o9, q_o9, S_o9, N_o9, H_o9, G_o9⟩ := id V_7
  have hin_o9 : ¬ ((7 : Int32) < 0 ∨ cl_o9.slots.size ≤ ((7 : Int32)).toNatClampNeg) := inb_of S_o9 ⟨by decide, by decide⟩
  have hat_o9 : cl_o9.slots[((7 : Int32)).toNatClampNeg]? = some (.int y7) := H_o9.at hin_o9 rfl
  refine ogo (fun _ z_ => X7.iaload hx (j := (7 : Int32)) (v := (.int y7)) (by rw [eT7]; exact Ar_o9.1) (State.isArrayOf_alike hZ.alike Ar_o9.2.1) Ar_o9.2.2 hin_o9 hat_o9 (g := (mkF m 12 #[.val (.ref a0), .val (.int (6 : Int32)), .val (.int (12 : Int32)), .val (.int (1 : Int32)), .val (.int y6)] [(.int (7 : Int32)), (.ref a0)])) rfl rfl (hb hby d2_12) _ z_) ?_
  show OWay p e below G T7 (mkF m 13 #[.val (.ref a0), .val (.int (6 : Int32)), .val (.int (12 : Int32)), .val (.int (1 : Int32)), .val (.int y6)] [(.int y7)])
  refine ogo (fun _ z_ => XS.istore X7.here hx rfl (hb hby d2_13) rfl (l' := #[.val (.ref a0), .val (.int (6 : Int32)), .val (.int (12 : Int32)), .val (.int (1 : Int32)), .val (.int y7)]) rfl z_) ?_
  show OWay p e below G T7 (mkF m 15 #[.val (.ref a0), .val (.int (6 : Int32)), .val (.int (12 : Int32)), .val (.int (1 : Int32)), .val (.int y7)] [])
  refine ogo (fun _ z_ => XS.aloadN X7.here hx rfl (hb hby d2_15) rfl rfl z_) ?_
  show OWay p e below G T7 (mkF m 16 #[.val (.ref a0), .val (.int (6 : Int32)), .val (.int (12 : Int32)), .val (.int (1 : Int32)), .val (.int y7)] [(.ref a0)])
  refine ogo (fun _ z_ => XS.iloadN X7.here hx rfl (hb hby d2_16) rfl z_) ?_
  show OWay p e below G T7 (mkF m 17 #[.val (.ref a0), .val (.int (6 : Int32)), .val (.int (12 : Int32)), .val (.int (1 : Int32)), .val (.int y7)] [(.int (6 : Int32)), (.ref a0)])
  refine ogo (fun _ z_ => XS.iloadN X7.here hx rfl (hb hby d2_17) rfl z_) ?_
  show OWay p e below G T7 (mkF m 18 #[.val (.ref a0), .val (.int (6 : Int32)), .val (.int (12 : Int32)), .val (.int (1 : Int32)), .val (.int y7)] [(.int (1 : Int32)), (.int (6 : Int32)), (.ref a0)])
  refine ogo (fun _ z_ => XS.iadd X7.here hx rfl (hb hby d2_18) rfl z_) ?_
  show OWay p e below G T7 (mkF m 19 #[.val (.ref a0), .val (.int (6 : Int32)), .val (.int (12 : Int32)), .val (.int (1 : Int32)), .val (.int y7)] [(.int ((6 : Int32) + (1 : Int32))), (.ref a0)])
  refine ogoE (g' := (mkF m 19 #[.val (.ref a0), .val (.int (6 : Int32)), .val (.int (12 : Int32)), .val (.int (1 : Int32)), .val (.int y7)] [(.int (7 : Int32)), (.ref a0)])) (by rw [show ((6 : Int32) + (1 : Int32)) = (7 : Int32) from by decide]) ?_
  refine ogo (fun _ z_ => XS.aloadN X7.here hx rfl (hb hby d2_19) rfl rfl z_) ?_
  show OWay p e below G T7 (mkF m 20 #[.val (.ref a0), .val (.int (6 : Int32)), .val (.int (12 : Int32)), .val (.int (1 : Int32)), .val (.int y7)] [(.ref a0), (.int (7 : Int32)), (.ref a0)])
  refine ogo (fun _ z_ => XS.iloadN X7.here hx rfl (hb hby d2_20) rfl z_) ?_
  show OWay p e below G T7 (mkF m 21 #[.val (.ref a0), .val (.int (6 : Int32)), .val (.int (12 : Int32)), .val (.int (1 : Int32)), .val (.int y7)] [(.int (12 : Int32)), (.ref a0), (.int (7 : Int32)), (.ref a0)])
  refine ogo (fun _ z_ => XS.iloadN X7.here hx rfl (hb hby d2_21) rfl z_) ?_
  show OWay p e below G T7 (mkF m 22 #[.val (.ref a0), .val (.int (6 : Int32)), .val (.int (12 : Int32)), .val (.int (1 : Int32)), .val (.int y7)] [(.int (1 : Int32)), (.int (12 : Int32)), (.ref a0), (.int (7 : Int32)), (.ref a0)])
  refine ogo (fun _ z_ => XS.iadd X7.here hx rfl (hb hby d2_22) rfl z_) ?_
  show OWay p e below G T7 (mkF m 23 #[.val (.ref a0), .val (.int (6 : Int32)), .val (.int (12 : Int32)), .val (.int (1 : Int32)), .val (.int y7)] [(.int ((12 : Int32) + (1 : Int32))), (.ref a0), (.int (7 : Int32)), (.ref a0)])
  refine ogoE (g' := (mkF m 23 #[.val (.ref a0), .val (.int (6 : Int32)), .val (.int (12 : Int32)), .val (.int (1 : Int32)), .val (.int y7)] [(.int (13 : Int32)), (.ref a0), (.int (7 : Int32)), (.ref a0)])) (by rw [show ((12 : Int32) + (1 : Int32)) = (13 : Int32) from by decide]) ?_
  obtain ⟨cl_o10, Ar_o10, q_o10, S_o10, N_o10, H_o10, G_o10⟩ := id V_7
  have hin_o10 : ¬ ((13 : Int32) < 0 ∨ cl_o10.slots.size ≤ ((13 : Int32)).toNatClampNeg) := inb_of S_o10 ⟨by decide, by decide⟩
  have hat_o10 : cl_o10.slots[((13 : Int32)).toNatClampNeg]? = some (.int y13) := H_o10.at hin_o10 rfl
  refine ogo (fun _ z_ => X7.iaload hx (j := (13 : Int32)) (v := (.int y13)) (by rw [eT7]; exact Ar_o10.1) (State.isArrayOf_alike hZ.alike Ar_o10.2.1) Ar_o10.2.2 hin_o10 hat_o10 (g := (mkF m 23 #[.val (.ref a0), .val (.int (6 : Int32)), .val (.int (12 : Int32)), .val (.int (1 : Int32)), .val (.int y7)] [(.int (13 : Int32)), (.ref a0), (.int (7 : Int32)), (.ref a0)])) rfl rfl (hb hby d2_23) _ z_) ?_
  show OWay p e below G T7 (mkF m 24 #[.val (.ref a0), .val (.int (6 : Int32)), .val (.int (12 : Int32)), .val (.int (1 : Int32)), .val (.int y7)] [(.int y13), (.int (7 : Int32)), (.ref a0)])
  obtain ⟨cl_o11, Ar_o11, q_o11, S_o11, N_o11, H_o11, G_o11⟩ := id V_7
  have hin_o11 : ¬ ((7 : Int32) < 0 ∨ cl_o11.slots.size ≤ ((7 : Int32)).toNatClampNeg) := inb_of S_o11 ⟨by decide, by decide⟩
  obtain ⟨T12, h12, X12, eT12, W12, st12⟩ := stI X7 hx hZ eT7 Ar_o11 (j := (7 : Int32)) hin_o11 (g := (mkF m 24 #[.val (.ref a0), .val (.int (6 : Int32)), .val (.int (12 : Int32)), .val (.int (1 : Int32)), .val (.int y7)] [(.int y13), (.int (7 : Int32)), (.ref a0)])) rfl rfl (hb hby d2_24)
  have K13 : Keep h0 h12 [a0] := K8.wr W12 (Or.inl (List.mem_of_getElem? (i := 0) rfl))
  have V_12 : Arv Z h12 a0 kk .int (18 : Int32) [(.int y0), (.int y1), (.int y2), (.int y3), (.int y4), (.int y5), (.int y12), (.int y13), (.int y8), (.int y9), (.int y10), (.int y11), (.int y6), (.int y13), (.int y14), (.int y15), (.int y16), (.int y17)] (.int (0 : Int32)) := Arv.set Ar_o11 q_o11 S_o11 N_o11 H_o11 G_o11 rfl W12 7 rfl (Nat.le_of_ble_eq_true rfl)
  have N12 := Fr.snoc X12 N7 g_a0
  refine ogo st12 ?_
  show OWay p e below G T12 (mkF m 25 #[.val (.ref a0), .val (.int (6 : Int32)), .val (.int (12 : Int32)), .val (.int (1 : Int32)), .val (.int y7)] [])
  refine ogo (fun _ z_ => XS.aloadN X12.here hx rfl (hb hby d2_25) rfl rfl z_) ?_
  show OWay p e below G T12 (mkF m 26 #[.val (.ref a0), .val (.int (6 : Int32)), .val (.int (12 : Int32)), .val (.int (1 : Int32)), .val (.int y7)] [(.ref a0)])
  refine ogo (fun _ z_ => XS.iloadN X12.here hx rfl (hb hby d2_26) rfl z_) ?_
  show OWay p e below G T12 (mkF m 27 #[.val (.ref a0), .val (.int (6 : Int32)), .val (.int (12 : Int32)), .val (.int (1 : Int32)), .val (.int y7)] [(.int (12 : Int32)), (.ref a0)])
  refine ogo (fun _ z_ => XS.iloadN X12.here hx rfl (hb hby d2_27) rfl z_) ?_
  show OWay p e below G T12 (mkF m 28 #[.val (.ref a0), .val (.int (6 : Int32)), .val (.int (12 : Int32)), .val (.int (1 : Int32)), .val (.int y7)] [(.int (1 : Int32)), (.int (12 : Int32)), (.ref a0)])
  refine ogo (fun _ z_ => XS.iadd X12.here hx rfl (hb hby d2_28) rfl z_) ?_
  show OWay p e below G T12 (mkF m 29 #[.val (.ref a0), .val (.int (6 : Int32)), .val (.int (12 : Int32)), .val (.int (1 : Int32)), .val (.int y7)] [(.int ((12 : Int32) + (1 : Int32))), (.ref a0)])
  refine ogoE (g' := (mkF m 29 #[.val (.ref a0), .val (.int (6 : Int32)), .val (.int (12 : Int32)), .val (.int (1 : Int32)), .val (.int y7)] [(.int (13 : Int32)), (.ref a0)])) (by rw [show ((12 : Int32) + (1 : Int32)) = (13 : Int32) from by decide]) ?_
  refine ogo (fun _ z_ => XS.iload X12.here hx rfl (hb hby d2_29) rfl z_) ?_
  show OWay p e below G T12 (mkF m 31 #[.val (.ref a0), .val (.int (6 : Int32)), .val (.int (12 : Int32)), .val (.int (1 : Int32)), .val (.int y7)] [(.int y7), (.int (13 : Int32)), (.ref a0)])
  obtain ⟨cl_o14, Ar_o14, q_o14, S_o14, N_o14, H_o14, G_o14⟩ := id V_12
  have hin_o14 : ¬ ((13 : Int32) < 0 ∨ cl_o14.slots.size ≤ ((13 : Int32)).toNatClampNeg) := inb_of S_o14 ⟨by decide, by decide⟩
  obtain ⟨T15, h15, X15, eT15, W15, st15⟩ := stI X12 hx hZ eT12 Ar_o14 (j := (13 : Int32)) hin_o14 (g := (mkF m 31 #[.val (.ref a0), .val (.int (6 : Int32)), .val (.int (12 : Int32)), .val (.int (1 : Int32)), .val (.int y7)] [(.int y7), (.int (13 : Int32)), (.ref a0)])) rfl rfl (hb hby d2_31)
  have K16 : Keep h0 h15 [a0] := K13.wr W15 (Or.inl (List.mem_of_getElem? (i := 0) rfl))
  have V_15 : Arv Z h15 a0 kk .int (18 : Int32) [(.int y0), (.int y1), (.int y2), (.int y3), (.int y4), (.int y5), (.int y12), (.int y13), (.int y8), (.int y9), (.int y10), (.int y11), (.int y6), (.int y7), (.int y14), (.int y15), (.int y16), (.int y17)] (.int (0 : Int32)) := Arv.set Ar_o14 q_o14 S_o14 N_o14 H_o14 G_o14 rfl W15 13 rfl (Nat.le_of_ble_eq_true rfl)
  have N15 := Fr.snoc X15 N12 g_a0
  refine ogo st15 ?_
  show OWay p e below G T15 (mkF m 32 #[.val (.ref a0), .val (.int (6 : Int32)), .val (.int (12 : Int32)), .val (.int (1 : Int32)), .val (.int y7)] [])
  refine ogo (fun _ z_ => XS.iinc X15.here hx rfl (hb hby d2_32) rfl (l' := #[.val (.ref a0), .val (.int (6 : Int32)), .val (.int (12 : Int32)), .val (.int ((1 : Int32) + (1 : Int32))), .val (.int y7)]) rfl z_) ?_
  show OWay p e below G T15 (mkF m 35 #[.val (.ref a0), .val (.int (6 : Int32)), .val (.int (12 : Int32)), .val (.int ((1 : Int32) + (1 : Int32))), .val (.int y7)] [])
  refine ogoE (g' := (mkF m 35 #[.val (.ref a0), .val (.int (6 : Int32)), .val (.int (12 : Int32)), .val (.int (2 : Int32)), .val (.int y7)] [])) (by rw [show ((1 : Int32) + (1 : Int32)) = (2 : Int32) from by decide]) ?_
  refine ogo (fun _ z_ => XS.goto X15.here hx rfl (pc0 := 35) (pc' := 2) rfl (hb hby d2_35) (by decide) (by decide) z_) ?_
  show OWay p e below G T15 (mkF m 2 #[.val (.ref a0), .val (.int (6 : Int32)), .val (.int (12 : Int32)), .val (.int (2 : Int32)), .val (.int y7)] [])
  refine ogo (fun _ z_ => XS.iloadN X15.here hx rfl (hb hby d2_2) rfl z_) ?_
  show OWay p e below G T15 (mkF m 3 #[.val (.ref a0), .val (.int (6 : Int32)), .val (.int (12 : Int32)), .val (.int (2 : Int32)), .val (.int y7)] [(.int (2 : Int32))])
  refine ogo (fun _ z_ => XS.bipush X15.here hx rfl (hb hby d2_3) z_) ?_
  show OWay p e below G T15 (mkF m 5 #[.val (.ref a0), .val (.int (6 : Int32)), .val (.int (12 : Int32)), .val (.int (2 : Int32)), .val (.int y7)] [(.int (6 : Int32)), (.int (2 : Int32))])
  refine ogo (fun _ z_ => XS.icmpNo X15.here hx rfl (hb hby d2_5) rfl (tlt (by decide)).2.1 z_) ?_
  show OWay p e below G T15 (mkF m 8 #[.val (.ref a0), .val (.int (6 : Int32)), .val (.int (12 : Int32)), .val (.int (2 : Int32)), .val (.int y7)] [])
  refine ogo (fun _ z_ => XS.aloadN X15.here hx rfl (hb hby d2_8) rfl rfl z_) ?_
  show OWay p e below G T15 (mkF m 9 #[.val (.ref a0), .val (.int (6 : Int32)), .val (.int (12 : Int32)), .val (.int (2 : Int32)), .val (.int y7)] [(.ref a0)])
  refine ogo (fun _ z_ => XS.iloadN X15.here hx rfl (hb hby d2_9) rfl z_) ?_
  show OWay p e below G T15 (mkF m 10 #[.val (.ref a0), .val (.int (6 : Int32)), .val (.int (12 : Int32)), .val (.int (2 : Int32)), .val (.int y7)] [(.int (6 : Int32)), (.ref a0)])
  refine ogo (fun _ z_ => XS.iloadN X15.here hx rfl (hb hby d2_10) rfl z_) ?_
  show OWay p e below G T15 (mkF m 11 #[.val (.ref a0), .val (.int (6 : Int32)), .val (.int (12 : Int32)), .val (.int (2 : Int32)), .val (.int y7)] [(.int (2 : Int32)), (.int (6 : Int32)), (.ref a0)])
  refine ogo (fun _ z_ => XS.iadd X15.here hx rfl (hb hby d2_11) rfl z_) ?_
  show OWay p e below G T15 (mkF m 12 #[.val (.ref a0), .val (.int (6 : Int32)), .val (.int (12 : Int32)), .val (.int (2 : Int32)), .val (.int y7)] [(.int ((6 : Int32) + (2 : Int32))), (.ref a0)])
  refine ogoE (g' := (mkF m 12 #[.val (.ref a0), .val (.int (6 : Int32)), .val (.int (12 : Int32)), .val (.int (2 : Int32)), .val (.int y7)] [(.int (8 : Int32)), (.ref a0)])) (by rw [show ((6 : Int32) + (2 : Int32)) = (8 : Int32) from by decide]) ?_
  obtain ⟨cl_o17, Ar_o17, q_o17, S_o17, N_o17, H_o17, G_o17⟩ := id V_15
  have hin_o17 : ¬ ((8 : Int32) < 0 ∨ cl_o17.slots.size ≤ ((8 : Int32)).toNatClampNeg) := inb_of S_o17 ⟨by decide, by decide⟩
  have hat_o17 : cl_o17.slots[((8 : Int32)).toNatClampNeg]? = some (.int y8) := H_o17.at hin_o17 rfl
  refine ogo (fun _ z_ => X15.iaload hx (j := (8 : Int32)) (v := (.int y8)) (by rw [eT15]; exact Ar_o17.1) (State.isArrayOf_alike hZ.alike Ar_o17.2.1) Ar_o17.2.2 hin_o17 hat_o17 (g := (mkF m 12 #[.val (.ref a0), .val (.int (6 : Int32)), .val (.int (12 : Int32)), .val (.int (2 : Int32)), .val (.int y7)] [(.int (8 : Int32)), (.ref a0)])) rfl rfl (hb hby d2_12) _ z_) ?_
  show OWay p e below G T15 (mkF m 13 #[.val (.ref a0), .val (.int (6 : Int32)), .val (.int (12 : Int32)), .val (.int (2 : Int32)), .val (.int y7)] [(.int y8)])
  refine ogo (fun _ z_ => XS.istore X15.here hx rfl (hb hby d2_13) rfl (l' := #[.val (.ref a0), .val (.int (6 : Int32)), .val (.int (12 : Int32)), .val (.int (2 : Int32)), .val (.int y8)]) rfl z_) ?_
  show OWay p e below G T15 (mkF m 15 #[.val (.ref a0), .val (.int (6 : Int32)), .val (.int (12 : Int32)), .val (.int (2 : Int32)), .val (.int y8)] [])
  refine ogo (fun _ z_ => XS.aloadN X15.here hx rfl (hb hby d2_15) rfl rfl z_) ?_
  show OWay p e below G T15 (mkF m 16 #[.val (.ref a0), .val (.int (6 : Int32)), .val (.int (12 : Int32)), .val (.int (2 : Int32)), .val (.int y8)] [(.ref a0)])
  refine ogo (fun _ z_ => XS.iloadN X15.here hx rfl (hb hby d2_16) rfl z_) ?_
  show OWay p e below G T15 (mkF m 17 #[.val (.ref a0), .val (.int (6 : Int32)), .val (.int (12 : Int32)), .val (.int (2 : Int32)), .val (.int y8)] [(.int (6 : Int32)), (.ref a0)])
  refine ogo (fun _ z_ => XS.iloadN X15.here hx rfl (hb hby d2_17) rfl z_) ?_
  show OWay p e below G T15 (mkF m 18 #[.val (.ref a0), .val (.int (6 : Int32)), .val (.int (12 : Int32)), .val (.int (2 : Int32)), .val (.int y8)] [(.int (2 : Int32)), (.int (6 : Int32)), (.ref a0)])
  refine ogo (fun _ z_ => XS.iadd X15.here hx rfl (hb hby d2_18) rfl z_) ?_
  show OWay p e below G T15 (mkF m 19 #[.val (.ref a0), .val (.int (6 : Int32)), .val (.int (12 : Int32)), .val (.int (2 : Int32)), .val (.int y8)] [(.int ((6 : Int32) + (2 : Int32))), (.ref a0)])
  refine ogoE (g' := (mkF m 19 #[.val (.ref a0), .val (.int (6 : Int32)), .val (.int (12 : Int32)), .val (.int (2 : Int32)), .val (.int y8)] [(.int (8 : Int32)), (.ref a0)])) (by rw [show ((6 : Int32) + (2 : Int32)) = (8 : Int32) from by decide]) ?_
  refine ogo (fun _ z_ => XS.aloadN X15.here hx rfl (hb hby d2_19) rfl rfl z_) ?_
  show OWay p e below G T15 (mkF m 20 #[.val (.ref a0), .val (.int (6 : Int32)), .val (.int (12 : Int32)), .val (.int (2 : Int32)), .val (.int y8)] [(.ref a0), (.int (8 : Int32)), (.ref a0)])
  refine ogo (fun _ z_ => XS.iloadN X15.here hx rfl (hb hby d2_20) rfl z_) ?_
  show OWay p e below G T15 (mkF m 21 #[.val (.ref a0), .val (.int (6 : Int32)), .val (.int (12 : Int32)), .val (.int (2 : Int32)), .val (.int y8)] [(.int (12 : Int32)), (.ref a0), (.int (8 : Int32)), (.ref a0)])
  refine ogo (fun _ z_ => XS.iloadN X15.here hx rfl (hb hby d2_21) rfl z_) ?_
  show OWay p e below G T15 (mkF m 22 #[.val (.ref a0), .val (.int (6 : Int32)), .val (.int (12 : Int32)), .val (.int (2 : Int32)), .val (.int y8)] [(.int (2 : Int32)), (.int (12 : Int32)), (.ref a0), (.int (8 : Int32)), (.ref a0)])
  refine ogo (fun _ z_ => XS.iadd X15.here hx rfl (hb hby d2_22) rfl z_) ?_
  show OWay p e below G T15 (mkF m 23 #[.val (.ref a0), .val (.int (6 : Int32)), .val (.int (12 : Int32)), .val (.int (2 : Int32)), .val (.int y8)] [(.int ((12 : Int32) + (2 : Int32))), (.ref a0), (.int (8 : Int32)), (.ref a0)])
  refine ogoE (g' := (mkF m 23 #[.val (.ref a0), .val (.int (6 : Int32)), .val (.int (12 : Int32)), .val (.int (2 : Int32)), .val (.int y8)] [(.int (14 : Int32)), (.ref a0), (.int (8 : Int32)), (.ref a0)])) (by rw [show ((12 : Int32) + (2 : Int32)) = (14 : Int32) from by decide]) ?_
  obtain ⟨cl_o18, Ar_o18, q_o18, S_o18, N_o18, H_o18, G_o18⟩ := id V_15
  have hin_o18 : ¬ ((14 : Int32) < 0 ∨ cl_o18.slots.size ≤ ((14 : Int32)).toNatClampNeg) := inb_of S_o18 ⟨by decide, by decide⟩
  have hat_o18 : cl_o18.slots[((14 : Int32)).toNatClampNeg]? = some (.int y14) := H_o18.at hin_o18 rfl
  refine ogo (fun _ z_ => X15.iaload hx (j := (14 : Int32)) (v := (.int y14)) (by rw [eT15]; exact Ar_o18.1) (State.isArrayOf_alike hZ.alike Ar_o18.2.1) Ar_o18.2.2 hin_o18 hat_o18 (g := (mkF m 23 #[.val (.ref a0), .val (.int (6 : Int32)), .val (.int (12 : Int32)), .val (.int (2 : Int32)), .val (.int y8)] [(.int (14 : Int32)), (.ref a0), (.int (8 : Int32)), (.ref a0)])) rfl rfl (hb hby d2_23) _ z_) ?_
  show OWay p e below G T15 (mkF m 24 #[.val (.ref a0), .val (.int (6 : Int32)), .val (.int (12 : Int32)), .val (.int (2 : Int32)), .val (.int y8)] [(.int y14), (.int (8 : Int32)), (.ref a0)])
  obtain ⟨cl_o19, Ar_o19, q_o19, S_o19, N_o19, H_o19, G_o19⟩ := id V_15
  have hin_o19 : ¬ ((8 : Int32) < 0 ∨ cl_o19.slots.size ≤ ((8 : Int32)).toNatClampNeg) := inb_of S_o19 ⟨by decide, by decide⟩
  obtain ⟨T20, h20, X20, eT20, W20, st20⟩ := stI X15 hx hZ eT15 Ar_o19 (j := (8 : Int32)) hin_o19 (g := (mkF m 24 #[.val (.ref a0), .val (.int (6 : Int32)), .val (.int (12 : Int32)), .val (.int (2 : Int32)), .val (.int y8)] [(.int y14), (.int (8 : Int32)), (.ref a0)])) rfl rfl (hb hby d2_24)
  have K21 : Keep h0 h20 [a0] := K16.wr W20 (Or.inl (List.mem_of_getElem? (i := 0) rfl))
  have V_20 : Arv Z h20 a0 kk .int (18 : Int32) [(.int y0), (.int y1), (.int y2), (.int y3), (.int y4), (.int y5), (.int y12), (.int y13), (.int y14), (.int y9), (.int y10), (.int y11), (.int y6), (.int y7), (.int y14), (.int y15), (.int y16), (.int y17)] (.int (0 : Int32)) := Arv.set Ar_o19 q_o19 S_o19 N_o19 H_o19 G_o19 rfl W20 8 rfl (Nat.le_of_ble_eq_true rfl)
  have N20 := Fr.snoc X20 N15 g_a0
  refine ogo st20 ?_
  show OWay p e below G T20 (mkF m 25 #[.val (.ref a0), .val (.int (6 : Int32)), .val (.int (12 : Int32)), .val (.int (2 : Int32)), .val (.int y8)] [])
  refine ogo (fun _ z_ => XS.aloadN X20.here hx rfl (hb hby d2_25) rfl rfl z_) ?_
  show OWay p e below G T20 (mkF m 26 #[.val (.ref a0), .val (.int (6 : Int32)), .val (.int (12 : Int32)), .val (.int (2 : Int32)), .val (.int y8)] [(.ref a0)])
  refine ogo (fun _ z_ => XS.iloadN X20.here hx rfl (hb hby d2_26) rfl z_) ?_
  show OWay p e below G T20 (mkF m 27 #[.val (.ref a0), .val (.int (6 : Int32)), .val (.int (12 : Int32)), .val (.int (2 : Int32)), .val (.int y8)] [(.int (12 : Int32)), (.ref a0)])
  refine ogo (fun _ z_ => XS.iloadN X20.here hx rfl (hb hby d2_27) rfl z_) ?_
  show OWay p e below G T20 (mkF m 28 #[.val (.ref a0), .val (.int (6 : Int32)), .val (.int (12 : Int32)), .val (.int (2 : Int32)), .val (.int y8)] [(.int (2 : Int32)), (.int (12 : Int32)), (.ref a0)])
  refine ogo (fun _ z_ => XS.iadd X20.here hx rfl (hb hby d2_28) rfl z_) ?_
  show OWay p e below G T20 (mkF m 29 #[.val (.ref a0), .val (.int (6 : Int32)), .val (.int (12 : Int32)), .val (.int (2 : Int32)), .val (.int y8)] [(.int ((12 : Int32) + (2 : Int32))), (.ref a0)])
  refine ogoE (g' := (mkF m 29 #[.val (.ref a0), .val (.int (6 : Int32)), .val (.int (12 : Int32)), .val (.int (2 : Int32)), .val (.int y8)] [(.int (14 : Int32)), (.ref a0)])) (by rw [show ((12 : Int32) + (2 : Int32)) = (14 : Int32) from by decide]) ?_
  refine ogo (fun _ z_ => XS.iload X20.here hx rfl (hb hby d2_29) rfl z_) ?_
  show OWay p e below G T20 (mkF m 31 #[.val (.ref a0), .val (.int (6 : Int32)), .val (.int (12 : Int32)), .val (.int (2 : Int32)), .val (.int y8)] [(.int y8), (.int (14 : Int32)), (.ref a0)])
  obtain ⟨cl_o22, Ar_o22, q_o22, S_o22, N_o22, H_o22, G_o22⟩ := id V_20
  have hin_o22 : ¬ ((14 : Int32) < 0 ∨ cl_o22.slots.size ≤ ((14 : Int32)).toNatClampNeg) := inb_of S_o22 ⟨by decide, by decide⟩
  obtain ⟨T23, h23, X23, eT23, W23, st23⟩ := stI X20 hx hZ eT20 Ar_o22 (j := (14 : Int32)) hin_o22 (g := (mkF m 31 #[.val (.ref a0), .val (.int (6 : Int32)), .val (.int (12 : Int32)), .val (.int (2 : Int32)), .val (.int y8)] [(.int y8), (.int (14 : Int32)), (.ref a0)])) rfl rfl (hb hby d2_31)
  have K24 : Keep h0 h23 [a0] := K21.wr W23 (Or.inl (List.mem_of_getElem? (i := 0) rfl))
  have V_23 : Arv Z h23 a0 kk .int (18 : Int32) [(.int y0), (.int y1), (.int y2), (.int y3), (.int y4), (.int y5), (.int y12), (.int y13), (.int y14), (.int y9), (.int y10), (.int y11), (.int y6), (.int y7), (.int y8), (.int y15), (.int y16), (.int y17)] (.int (0 : Int32)) := Arv.set Ar_o22 q_o22 S_o22 N_o22 H_o22 G_o22 rfl W23 14 rfl (Nat.le_of_ble_eq_true rfl)
  have N23 := Fr.snoc X23 N20 g_a0
  refine ogo st23 ?_
  show OWay p e below G T23 (mkF m 32 #[.val (.ref a0), .val (.int (6 : Int32)), .val (.int (12 : Int32)), .val (.int (2 : Int32)), .val (.int y8)] [])
  refine ogo (fun _ z_ => XS.iinc X23.here hx rfl (hb hby d2_32) rfl (l' := #[.val (.ref a0), .val (.int (6 : Int32)), .val (.int (12 : Int32)), .val (.int ((2 : Int32) + (1 : Int32))), .val (.int y8)]) rfl z_) ?_
  show OWay p e below G T23 (mkF m 35 #[.val (.ref a0), .val (.int (6 : Int32)), .val (.int (12 : Int32)), .val (.int ((2 : Int32) + (1 : Int32))), .val (.int y8)] [])
  refine ogoE (g' := (mkF m 35 #[.val (.ref a0), .val (.int (6 : Int32)), .val (.int (12 : Int32)), .val (.int (3 : Int32)), .val (.int y8)] [])) (by rw [show ((2 : Int32) + (1 : Int32)) = (3 : Int32) from by decide]) ?_
  refine ogo (fun _ z_ => XS.goto X23.here hx rfl (pc0 := 35) (pc' := 2) rfl (hb hby d2_35) (by decide) (by decide) z_) ?_
  show OWay p e below G T23 (mkF m 2 #[.val (.ref a0), .val (.int (6 : Int32)), .val (.int (12 : Int32)), .val (.int (3 : Int32)), .val (.int y8)] [])
  refine ogo (fun _ z_ => XS.iloadN X23.here hx rfl (hb hby d2_2) rfl z_) ?_
  show OWay p e below G T23 (mkF m 3 #[.val (.ref a0), .val (.int (6 : Int32)), .val (.int (12 : Int32)), .val (.int (3 : Int32)), .val (.int y8)] [(.int (3 : Int32))])
  refine ogo (fun _ z_ => XS.bipush X23.here hx rfl (hb hby d2_3) z_) ?_
  show OWay p e below G T23 (mkF m 5 #[.val (.ref a0), .val (.int (6 : Int32)), .val (.int (12 : Int32)), .val (.int (3 : Int32)), .val (.int y8)] [(.int (6 : Int32)), (.int (3 : Int32))])
  refine ogo (fun _ z_ => XS.icmpNo X23.here hx rfl (hb hby d2_5) rfl (tlt (by decide)).2.1 z_) ?_
  show OWay p e below G T23 (mkF m 8 #[.val (.ref a0), .val (.int (6 : Int32)), .val (.int (12 : Int32)), .val (.int (3 : Int32)), .val (.int y8)] [])
  refine ogo (fun _ z_ => XS.aloadN X23.here hx rfl (hb hby d2_8) rfl rfl z_) ?_
  show OWay p e below G T23 (mkF m 9 #[.val (.ref a0), .val (.int (6 : Int32)), .val (.int (12 : Int32)), .val (.int (3 : Int32)), .val (.int y8)] [(.ref a0)])
  refine ogo (fun _ z_ => XS.iloadN X23.here hx rfl (hb hby d2_9) rfl z_) ?_
  show OWay p e below G T23 (mkF m 10 #[.val (.ref a0), .val (.int (6 : Int32)), .val (.int (12 : Int32)), .val (.int (3 : Int32)), .val (.int y8)] [(.int (6 : Int32)), (.ref a0)])
  refine ogo (fun _ z_ => XS.iloadN X23.here hx rfl (hb hby d2_10) rfl z_) ?_
  show OWay p e below G T23 (mkF m 11 #[.val (.ref a0), .val (.int (6 : Int32)), .val (.int (12 : Int32)), .val (.int (3 : Int32)), .val (.int y8)] [(.int (3 : Int32)), (.int (6 : Int32)), (.ref a0)])
  refine ogo (fun _ z_ => XS.iadd X23.here hx rfl (hb hby d2_11) rfl z_) ?_
  show OWay p e below G T23 (mkF m 12 #[.val (.ref a0), .val (.int (6 : Int32)), .val (.int (12 : Int32)), .val (.int (3 : Int32)), .val (.int y8)] [(.int ((6 : Int32) + (3 : Int32))), (.ref a0)])
  refine ogoE (g' := (mkF m 12 #[.val (.ref a0), .val (.int (6 : Int32)), .val (.int (12 : Int32)), .val (.int (3 : Int32)), .val (.int y8)] [(.int (9 : Int32)), (.ref a0)])) (by rw [show ((6 : Int32) + (3 : Int32)) = (9 : Int32) from by decide]) ?_
  obtain ⟨cl_o25, Ar_o25, q_o25, S_o25, N_o25, H_o25, G_o25⟩ := id V_23
  have hin_o25 : ¬ ((9 : Int32) < 0 ∨ cl_o25.slots.size ≤ ((9 : Int32)).toNatClampNeg) := inb_of S_o25 ⟨by decide, by decide⟩
  have hat_o25 : cl_o25.slots[((9 : Int32)).toNatClampNeg]? = some (.int y9) := H_o25.at hin_o25 rfl
  refine ogo (fun _ z_ => X23.iaload hx (j := (9 : Int32)) (v := (.int y9)) (by rw [eT23]; exact Ar_o25.1) (State.isArrayOf_alike hZ.alike Ar_o25.2.1) Ar_o25.2.2 hin_o25 hat_o25 (g := (mkF m 12 #[.val (.ref a0), .val (.int (6 : Int32)), .val (.int (12 : Int32)), .val (.int (3 : Int32)), .val (.int y8)] [(.int (9 : Int32)), (.ref a0)])) rfl rfl (hb hby d2_12) _ z_) ?_
  show OWay p e below G T23 (mkF m 13 #[.val (.ref a0), .val (.int (6 : Int32)), .val (.int (12 : Int32)), .val (.int (3 : Int32)), .val (.int y8)] [(.int y9)])
  refine ogo (fun _ z_ => XS.istore X23.here hx rfl (hb hby d2_13) rfl (l' := #[.val (.ref a0), .val (.int (6 : Int32)), .val (.int (12 : Int32)), .val (.int (3 : Int32)), .val (.int y9)]) rfl z_) ?_
  show OWay p e below G T23 (mkF m 15 #[.val (.ref a0), .val (.int (6 : Int32)), .val (.int (12 : Int32)), .val (.int (3 : Int32)), .val (.int y9)] [])
  refine ogo (fun _ z_ => XS.aloadN X23.here hx rfl (hb hby d2_15) rfl rfl z_) ?_
  show OWay p e below G T23 (mkF m 16 #[.val (.ref a0), .val (.int (6 : Int32)), .val (.int (12 : Int32)), .val (.int (3 : Int32)), .val (.int y9)] [(.ref a0)])
  refine ogo (fun _ z_ => XS.iloadN X23.here hx rfl (hb hby d2_16) rfl z_) ?_
  show OWay p e below G T23 (mkF m 17 #[.val (.ref a0), .val (.int (6 : Int32)), .val (.int (12 : Int32)), .val (.int (3 : Int32)), .val (.int y9)] [(.int (6 : Int32)), (.ref a0)])
  refine ogo (fun _ z_ => XS.iloadN X23.here hx rfl (hb hby d2_17) rfl z_) ?_
  show OWay p e below G T23 (mkF m 18 #[.val (.ref a0), .val (.int (6 : Int32)), .val (.int (12 : Int32)), .val (.int (3 : Int32)), .val (.int y9)] [(.int (3 : Int32)), (.int (6 : Int32)), (.ref a0)])
  refine ogo (fun _ z_ => XS.iadd X23.here hx rfl (hb hby d2_18) rfl z_) ?_
  show OWay p e below G T23 (mkF m 19 #[.val (.ref a0), .val (.int (6 : Int32)), .val (.int (12 : Int32)), .val (.int (3 : Int32)), .val (.int y9)] [(.int ((6 : Int32) + (3 : Int32))), (.ref a0)])
  refine ogoE (g' := (mkF m 19 #[.val (.ref a0), .val (.int (6 : Int32)), .val (.int (12 : Int32)), .val (.int (3 : Int32)), .val (.int y9)] [(.int (9 : Int32)), (.ref a0)])) (by rw [show ((6 : Int32) + (3 : Int32)) = (9 : Int32) from by decide]) ?_
  refine ogo (fun _ z_ => XS.aloadN X23.here hx rfl (hb hby d2_19) rfl rfl z_) ?_
  show OWay p e below G T23 (mkF m 20 #[.val (.ref a0), .val (.int (6 : Int32)), .val (.int (12 : Int32)), .val (.int (3 : Int32)), .val (.int y9)] [(.ref a0), (.int (9 : Int32)), (.ref a0)])
  refine ogo (fun _ z_ => XS.iloadN X23.here hx rfl (hb hby d2_20) rfl z_) ?_
  show OWay p e below G T23 (mkF m 21 #[.val (.ref a0), .val (.int (6 : Int32)), .val (.int (12 : Int32)), .val (.int (3 : Int32)), .val (.int y9)] [(.int (12 : Int32)), (.ref a0), (.int (9 : Int32)), (.ref a0)])
  refine ogo (fun _ z_ => XS.iloadN X23.here hx rfl (hb hby d2_21) rfl z_) ?_
  show OWay p e below G T23 (mkF m 22 #[.val (.ref a0), .val (.int (6 : Int32)), .val (.int (12 : Int32)), .val (.int (3 : Int32)), .val (.int y9)] [(.int (3 : Int32)), (.int (12 : Int32)), (.ref a0), (.int (9 : Int32)), (.ref a0)])
  refine ogo (fun _ z_ => XS.iadd X23.here hx rfl (hb hby d2_22) rfl z_) ?_
  show OWay p e below G T23 (mkF m 23 #[.val (.ref a0), .val (.int (6 : Int32)), .val (.int (12 : Int32)), .val (.int (3 : Int32)), .val (.int y9)] [(.int ((12 : Int32) + (3 : Int32))), (.ref a0), (.int (9 : Int32)), (.ref a0)])
  refine ogoE (g' := (mkF m 23 #[.val (.ref a0), .val (.int (6 : Int32)), .val (.int (12 : Int32)), .val (.int (3 : Int32)), .val (.int y9)] [(.int (15 : Int32)), (.ref a0), (.int (9 : Int32)), (.ref a0)])) (by rw [show ((12 : Int32) + (3 : Int32)) = (15 : Int32) from by decide]) ?_
  obtain ⟨cl_o26, Ar_o26, q_o26, S_o26, N_o26, H_o26, G_o26⟩ := id V_23
  have hin_o26 : ¬ ((15 : Int32) < 0 ∨ cl_o26.slots.size ≤ ((15 : Int32)).toNatClampNeg) := inb_of S_o26 ⟨by decide, by decide⟩
  have hat_o26 : cl_o26.slots[((15 : Int32)).toNatClampNeg]? = some (.int y15) := H_o26.at hin_o26 rfl
  refine ogo (fun _ z_ => X23.iaload hx (j := (15 : Int32)) (v := (.int y15)) (by rw [eT23]; exact Ar_o26.1) (State.isArrayOf_alike hZ.alike Ar_o26.2.1) Ar_o26.2.2 hin_o26 hat_o26 (g := (mkF m 23 #[.val (.ref a0), .val (.int (6 : Int32)), .val (.int (12 : Int32)), .val (.int (3 : Int32)), .val (.int y9)] [(.int (15 : Int32)), (.ref a0), (.int (9 : Int32)), (.ref a0)])) rfl rfl (hb hby d2_23) _ z_) ?_
  show OWay p e below G T23 (mkF m 24 #[.val (.ref a0), .val (.int (6 : Int32)), .val (.int (12 : Int32)), .val (.int (3 : Int32)), .val (.int y9)] [(.int y15), (.int (9 : Int32)), (.ref a0)])
  obtain ⟨cl_o27, Ar_o27, q_o27, S_o27, N_o27, H_o27, G_o27⟩ := id V_23
  have hin_o27 : ¬ ((9 : Int32) < 0 ∨ cl_o27.slots.size ≤ ((9 : Int32)).toNatClampNeg) := inb_of S_o27 ⟨by decide, by decide⟩
  obtain ⟨T28, h28, X28, eT28, W28, st28⟩ := stI X23 hx hZ eT23 Ar_o27 (j := (9 : Int32)) hin_o27 (g := (mkF m 24 #[.val (.ref a0), .val (.int (6 : Int32)), .val (.int (12 : Int32)), .val (.int (3 : Int32)), .val (.int y9)] [(.int y15), (.int (9 : Int32)), (.ref a0)])) rfl rfl (hb hby d2_24)
  have K29 : Keep h0 h28 [a0] := K24.wr W28 (Or.inl (List.mem_of_getElem? (i := 0) rfl))
  have V_28 : Arv Z h28 a0 kk .int (18 : Int32) [(.int y0), (.int y1), (.int y2), (.int y3), (.int y4), (.int y5), (.int y12), (.int y13), (.int y14), (.int y15), (.int y10), (.int y11), (.int y6), (.int y7), (.int y8), (.int y15), (.int y16), (.int y17)] (.int (0 : Int32)) := Arv.set Ar_o27 q_o27 S_o27 N_o27 H_o27 G_o27 rfl W28 9 rfl (Nat.le_of_ble_eq_true rfl)
  have N28 := Fr.snoc X28 N23 g_a0
  refine ogo st28 ?_
  show OWay p e below G T28 (mkF m 25 #[.val (.ref a0), .val (.int (6 : Int32)), .val (.int (12 : Int32)), .val (.int (3 : Int32)), .val (.int y9)] [])
  refine ogo (fun _ z_ => XS.aloadN X28.here hx rfl (hb hby d2_25) rfl rfl z_) ?_
  show OWay p e below G T28 (mkF m 26 #[.val (.ref a0), .val (.int (6 : Int32)), .val (.int (12 : Int32)), .val (.int (3 : Int32)), .val (.int y9)] [(.ref a0)])
  refine ogo (fun _ z_ => XS.iloadN X28.here hx rfl (hb hby d2_26) rfl z_) ?_
  show OWay p e below G T28 (mkF m 27 #[.val (.ref a0), .val (.int (6 : Int32)), .val (.int (12 : Int32)), .val (.int (3 : Int32)), .val (.int y9)] [(.int (12 : Int32)), (.ref a0)])
  refine ogo (fun _ z_ => XS.iloadN X28.here hx rfl (hb hby d2_27) rfl z_) ?_
  show OWay p e below G T28 (mkF m 28 #[.val (.ref a0), .val (.int (6 : Int32)), .val (.int (12 : Int32)), .val (.int (3 : Int32)), .val (.int y9)] [(.int (3 : Int32)), (.int (12 : Int32)), (.ref a0)])
  refine ogo (fun _ z_ => XS.iadd X28.here hx rfl (hb hby d2_28) rfl z_) ?_
  show OWay p e below G T28 (mkF m 29 #[.val (.ref a0), .val (.int (6 : Int32)), .val (.int (12 : Int32)), .val (.int (3 : Int32)), .val (.int y9)] [(.int ((12 : Int32) + (3 : Int32))), (.ref a0)])
  refine ogoE (g' := (mkF m 29 #[.val (.ref a0), .val (.int (6 : Int32)), .val (.int (12 : Int32)), .val (.int (3 : Int32)), .val (.int y9)] [(.int (15 : Int32)), (.ref a0)])) (by rw [show ((12 : Int32) + (3 : Int32)) = (15 : Int32) from by decide]) ?_
  refine ogo (fun _ z_ => XS.iload X28.here hx rfl (hb hby d2_29) rfl z_) ?_
  show OWay p e below G T28 (mkF m 31 #[.val (.ref a0), .val (.int (6 : Int32)), .val (.int (12 : Int32)), .val (.int (3 : Int32)), .val (.int y9)] [(.int y9), (.int (15 : Int32)), (.ref a0)])
  obtain ⟨cl_o30, Ar_o30, q_o30, S_o30, N_o30, H_o30, G_o30⟩ := id V_28
  have hin_o30 : ¬ ((15 : Int32) < 0 ∨ cl_o30.slots.size ≤ ((15 : Int32)).toNatClampNeg) := inb_of S_o30 ⟨by decide, by decide⟩
  obtain ⟨T31, h31, X31, eT31, W31, st31⟩ := stI X28 hx hZ eT28 Ar_o30 (j := (15 : Int32)) hin_o30 (g := (mkF m 31 #[.val (.ref a0), .val (.int (6 : Int32)), .val (.int (12 : Int32)), .val (.int (3 : Int32)), .val (.int y9)] [(.int y9), (.int (15 : Int32)), (.ref a0)])) rfl rfl (hb hby d2_31)
  have K32 : Keep h0 h31 [a0] := K29.wr W31 (Or.inl (List.mem_of_getElem? (i := 0) rfl))
  have V_31 : Arv Z h31 a0 kk .int (18 : Int32) [(.int y0), (.int y1), (.int y2), (.int y3), (.int y4), (.int y5), (.int y12), (.int y13), (.int y14), (.int y15), (.int y10), (.int y11), (.int y6), (.int y7), (.int y8), (.int y9), (.int y16), (.int y17)] (.int (0 : Int32)) := Arv.set Ar_o30 q_o30 S_o30 N_o30 H_o30 G_o30 rfl W31 15 rfl (Nat.le_of_ble_eq_true rfl)
  have N31 := Fr.snoc X31 N28 g_a0
  refine ogo st31 ?_
  show OWay p e below G T31 (mkF m 32 #[.val (.ref a0), .val (.int (6 : Int32)), .val (.int (12 : Int32)), .val (.int (3 : Int32)), .val (.int y9)] [])
  refine ogo (fun _ z_ => XS.iinc X31.here hx rfl (hb hby d2_32) rfl (l' := #[.val (.ref a0), .val (.int (6 : Int32)), .val (.int (12 : Int32)), .val (.int ((3 : Int32) + (1 : Int32))), .val (.int y9)]) rfl z_) ?_
  show OWay p e below G T31 (mkF m 35 #[.val (.ref a0), .val (.int (6 : Int32)), .val (.int (12 : Int32)), .val (.int ((3 : Int32) + (1 : Int32))), .val (.int y9)] [])
  refine ogoE (g' := (mkF m 35 #[.val (.ref a0), .val (.int (6 : Int32)), .val (.int (12 : Int32)), .val (.int (4 : Int32)), .val (.int y9)] [])) (by rw [show ((3 : Int32) + (1 : Int32)) = (4 : Int32) from by decide]) ?_
  refine ogo (fun _ z_ => XS.goto X31.here hx rfl (pc0 := 35) (pc' := 2) rfl (hb hby d2_35) (by decide) (by decide) z_) ?_
  show OWay p e below G T31 (mkF m 2 #[.val (.ref a0), .val (.int (6 : Int32)), .val (.int (12 : Int32)), .val (.int (4 : Int32)), .val (.int y9)] [])
  refine ogo (fun _ z_ => XS.iloadN X31.here hx rfl (hb hby d2_2) rfl z_) ?_
  show OWay p e below G T31 (mkF m 3 #[.val (.ref a0), .val (.int (6 : Int32)), .val (.int (12 : Int32)), .val (.int (4 : Int32)), .val (.int y9)] [(.int (4 : Int32))])
  refine ogo (fun _ z_ => XS.bipush X31.here hx rfl (hb hby d2_3) z_) ?_
  show OWay p e below G T31 (mkF m 5 #[.val (.ref a0), .val (.int (6 : Int32)), .val (.int (12 : Int32)), .val (.int (4 : Int32)), .val (.int y9)] [(.int (6 : Int32)), (.int (4 : Int32))])
  refine ogo (fun _ z_ => XS.icmpNo X31.here hx rfl (hb hby d2_5) rfl (tlt (by decide)).2.1 z_) ?_
  show OWay p e below G T31 (mkF m 8 #[.val (.ref a0), .val (.int (6 : Int32)), .val (.int (12 : Int32)), .val (.int (4 : Int32)), .val (.int y9)] [])
  refine ogo (fun _ z_ => XS.aloadN X31.here hx rfl (hb hby d2_8) rfl rfl z_) ?_
  show OWay p e below G T31 (mkF m 9 #[.val (.ref a0), .val (.int (6 : Int32)), .val (.int (12 : Int32)), .val (.int (4 : Int32)), .val (.int y9)] [(.ref a0)])
  refine ogo (fun _ z_ => XS.iloadN X31.here hx rfl (hb hby d2_9) rfl z_) ?_
  show OWay p e below G T31 (mkF m 10 #[.val (.ref a0), .val (.int (6 : Int32)), .val (.int (12 : Int32)), .val (.int (4 : Int32)), .val (.int y9)] [(.int (6 : Int32)), (.ref a0)])
  refine ogo (fun _ z_ => XS.iloadN X31.here hx rfl (hb hby d2_10) rfl z_) ?_
  show OWay p e below G T31 (mkF m 11 #[.val (.ref a0), .val (.int (6 : Int32)), .val (.int (12 : Int32)), .val (.int (4 : Int32)), .val (.int y9)] [(.int (4 : Int32)), (.int (6 : Int32)), (.ref a0)])
  refine ogo (fun _ z_ => XS.iadd X31.here hx rfl (hb hby d2_11) rfl z_) ?_
  show OWay p e below G T31 (mkF m 12 #[.val (.ref a0), .val (.int (6 : Int32)), .val (.int (12 : Int32)), .val (.int (4 : Int32)), .val (.int y9)] [(.int ((6 : Int32) + (4 : Int32))), (.ref a0)])
  refine ogoE (g' := (mkF m 12 #[.val (.ref a0), .val (.int (6 : Int32)), .val (.int (12 : Int32)), .val (.int (4 : Int32)), .val (.int y9)] [(.int (10 : Int32)), (.ref a0)])) (by rw [show ((6 : Int32) + (4 : Int32)) = (10 : Int32) from by decide]) ?_
  obtain ⟨cl_o33, Ar_o33, q_o33, S_o33, N_o33, H_o33, G_o33⟩ := id V_31
  have hin_o33 : ¬ ((10 : Int32) < 0 ∨ cl_o33.slots.size ≤ ((10 : Int32)).toNatClampNeg) := inb_of S_o33 ⟨by decide, by decide⟩
  have hat_o33 : cl_o33.slots[((10 : Int32)).toNatClampNeg]? = some (.int y10) := H_o33.at hin_o33 rfl
  refine ogo (fun _ z_ => X31.iaload hx (j := (10 : Int32)) (v := (.int y10)) (by rw [eT31]; exact Ar_o33.1) (State.isArrayOf_alike hZ.alike Ar_o33.2.1) Ar_o33.2.2 hin_o33 hat_o33 (g := (mkF m 12 #[.val (.ref a0), .val (.int (6 : Int32)), .val (.int (12 : Int32)), .val (.int (4 : Int32)), .val (.int y9)] [(.int (10 : Int32)), (.ref a0)])) rfl rfl (hb hby d2_12) _ z_) ?_
  show OWay p e below G T31 (mkF m 13 #[.val (.ref a0), .val (.int (6 : Int32)), .val (.int (12 : Int32)), .val (.int (4 : Int32)), .val (.int y9)] [(.int y10)])
  refine ogo (fun _ z_ => XS.istore X31.here hx rfl (hb hby d2_13) rfl (l' := #[.val (.ref a0), .val (.int (6 : Int32)), .val (.int (12 : Int32)), .val (.int (4 : Int32)), .val (.int y10)]) rfl z_) ?_
  show OWay p e below G T31 (mkF m 15 #[.val (.ref a0), .val (.int (6 : Int32)), .val (.int (12 : Int32)), .val (.int (4 : Int32)), .val (.int y10)] [])
  refine ogo (fun _ z_ => XS.aloadN X31.here hx rfl (hb hby d2_15) rfl rfl z_) ?_
  show OWay p e below G T31 (mkF m 16 #[.val (.ref a0), .val (.int (6 : Int32)), .val (.int (12 : Int32)), .val (.int (4 : Int32)), .val (.int y10)] [(.ref a0)])
  refine ogo (fun _ z_ => XS.iloadN X31.here hx rfl (hb hby d2_16) rfl z_) ?_
  show OWay p e below G T31 (mkF m 17 #[.val (.ref a0), .val (.int (6 : Int32)), .val (.int (12 : Int32)), .val (.int (4 : Int32)), .val (.int y10)] [(.int (6 : Int32)), (.ref a0)])
  refine ogo (fun _ z_ => XS.iloadN X31.here hx rfl (hb hby d2_17) rfl z_) ?_
  show OWay p e below G T31 (mkF m 18 #[.val (.ref a0), .val (.int (6 : Int32)), .val (.int (12 : Int32)), .val (.int (4 : Int32)), .val (.int y10)] [(.int (4 : Int32)), (.int (6 : Int32)), (.ref a0)])
  refine ogo (fun _ z_ => XS.iadd X31.here hx rfl (hb hby d2_18) rfl z_) ?_
  show OWay p e below G T31 (mkF m 19 #[.val (.ref a0), .val (.int (6 : Int32)), .val (.int (12 : Int32)), .val (.int (4 : Int32)), .val (.int y10)] [(.int ((6 : Int32) + (4 : Int32))), (.ref a0)])
  refine ogoE (g' := (mkF m 19 #[.val (.ref a0), .val (.int (6 : Int32)), .val (.int (12 : Int32)), .val (.int (4 : Int32)), .val (.int y10)] [(.int (10 : Int32)), (.ref a0)])) (by rw [show ((6 : Int32) + (4 : Int32)) = (10 : Int32) from by decide]) ?_
  refine ogo (fun _ z_ => XS.aloadN X31.here hx rfl (hb hby d2_19) rfl rfl z_) ?_
  show OWay p e below G T31 (mkF m 20 #[.val (.ref a0), .val (.int (6 : Int32)), .val (.int (12 : Int32)), .val (.int (4 : Int32)), .val (.int y10)] [(.ref a0), (.int (10 : Int32)), (.ref a0)])
  refine ogo (fun _ z_ => XS.iloadN X31.here hx rfl (hb hby d2_20) rfl z_) ?_
  show OWay p e below G T31 (mkF m 21 #[.val (.ref a0), .val (.int (6 : Int32)), .val (.int (12 : Int32)), .val (.int (4 : Int32)), .val (.int y10)] [(.int (12 : Int32)), (.ref a0), (.int (10 : Int32)), (.ref a0)])
  refine ogo (fun _ z_ => XS.iloadN X31.here hx rfl (hb hby d2_21) rfl z_) ?_
  show OWay p e below G T31 (mkF m 22 #[.val (.ref a0), .val (.int (6 : Int32)), .val (.int (12 : Int32)), .val (.int (4 : Int32)), .val (.int y10)] [(.int (4 : Int32)), (.int (12 : Int32)), (.ref a0), (.int (10 : Int32)), (.ref a0)])
  refine ogo (fun _ z_ => XS.iadd X31.here hx rfl (hb hby d2_22) rfl z_) ?_
  show OWay p e below G T31 (mkF m 23 #[.val (.ref a0), .val (.int (6 : Int32)), .val (.int (12 : Int32)), .val (.int (4 : Int32)), .val (.int y10)] [(.int ((12 : Int32) + (4 : Int32))), (.ref a0), (.int (10 : Int32)), (.ref a0)])
  refine ogoE (g' := (mkF m 23 #[.val (.ref a0), .val (.int (6 : Int32)), .val (.int (12 : Int32)), .val (.int (4 : Int32)), .val (.int y10)] [(.int (16 : Int32)), (.ref a0), (.int (10 : Int32)), (.ref a0)])) (by rw [show ((12 : Int32) + (4 : Int32)) = (16 : Int32) from by decide]) ?_
  obtain ⟨cl_o34, Ar_o34, q_o34, S_o34, N_o34, H_o34, G_o34⟩ := id V_31
  have hin_o34 : ¬ ((16 : Int32) < 0 ∨ cl_o34.slots.size ≤ ((16 : Int32)).toNatClampNeg) := inb_of S_o34 ⟨by decide, by decide⟩
  have hat_o34 : cl_o34.slots[((16 : Int32)).toNatClampNeg]? = some (.int y16) := H_o34.at hin_o34 rfl
  refine ogo (fun _ z_ => X31.iaload hx (j := (16 : Int32)) (v := (.int y16)) (by rw [eT31]; exact Ar_o34.1) (State.isArrayOf_alike hZ.alike Ar_o34.2.1) Ar_o34.2.2 hin_o34 hat_o34 (g := (mkF m 23 #[.val (.ref a0), .val (.int (6 : Int32)), .val (.int (12 : Int32)), .val (.int (4 : Int32)), .val (.int y10)] [(.int (16 : Int32)), (.ref a0), (.int (10 : Int32)), (.ref a0)])) rfl rfl (hb hby d2_23) _ z_) ?_
  show OWay p e below G T31 (mkF m 24 #[.val (.ref a0), .val (.int (6 : Int32)), .val (.int (12 : Int32)), .val (.int (4 : Int32)), .val (.int y10)] [(.int y16), (.int (10 : Int32)), (.ref a0)])
  obtain ⟨cl_o35, Ar_o35, q_o35, S_o35, N_o35, H_o35, G_o35⟩ := id V_31
  have hin_o35 : ¬ ((10 : Int32) < 0 ∨ cl_o35.slots.size ≤ ((10 : Int32)).toNatClampNeg) := inb_of S_o35 ⟨by decide, by decide⟩
  obtain ⟨T36, h36, X36, eT36, W36, st36⟩ := stI X31 hx hZ eT31 Ar_o35 (j := (10 : Int32)) hin_o35 (g := (mkF m 24 #[.val (.ref a0), .val (.int (6 : Int32)), .val (.int (12 : Int32)), .val (.int (4 : Int32)), .val (.int y10)] [(.int y16), (.int (10 : Int32)), (.ref a0)])) rfl rfl (hb hby d2_24)
  have K37 : Keep h0 h36 [a0] := K32.wr W36 (Or.inl (List.mem_of_getElem? (i := 0) rfl))
  have V_36 : Arv Z h36 a0 kk .int (18 : Int32) [(.int y0), (.int y1), (.int y2), (.int y3), (.int y4), (.int y5), (.int y12), (.int y13), (.int y14), (.int y15), (.int y16), (.int y11), (.int y6), (.int y7), (.int y8), (.int y9), (.int y16), (.int y17)] (.int (0 : Int32)) := Arv.set Ar_o35 q_o35 S_o35 N_o35 H_o35 G_o35 rfl W36 10 rfl (Nat.le_of_ble_eq_true rfl)
  have N36 := Fr.snoc X36 N31 g_a0
  refine ogo st36 ?_
  show OWay p e below G T36 (mkF m 25 #[.val (.ref a0), .val (.int (6 : Int32)), .val (.int (12 : Int32)), .val (.int (4 : Int32)), .val (.int y10)] [])
  refine ogo (fun _ z_ => XS.aloadN X36.here hx rfl (hb hby d2_25) rfl rfl z_) ?_
  show OWay p e below G T36 (mkF m 26 #[.val (.ref a0), .val (.int (6 : Int32)), .val (.int (12 : Int32)), .val (.int (4 : Int32)), .val (.int y10)] [(.ref a0)])
  refine ogo (fun _ z_ => XS.iloadN X36.here hx rfl (hb hby d2_26) rfl z_) ?_
  show OWay p e below G T36 (mkF m 27 #[.val (.ref a0), .val (.int (6 : Int32)), .val (.int (12 : Int32)), .val (.int (4 : Int32)), .val (.int y10)] [(.int (12 : Int32)), (.ref a0)])
  refine ogo (fun _ z_ => XS.iloadN X36.here hx rfl (hb hby d2_27) rfl z_) ?_
  show OWay p e below G T36 (mkF m 28 #[.val (.ref a0), .val (.int (6 : Int32)), .val (.int (12 : Int32)), .val (.int (4 : Int32)), .val (.int y10)] [(.int (4 : Int32)), (.int (12 : Int32)), (.ref a0)])
  refine ogo (fun _ z_ => XS.iadd X36.here hx rfl (hb hby d2_28) rfl z_) ?_
  show OWay p e below G T36 (mkF m 29 #[.val (.ref a0), .val (.int (6 : Int32)), .val (.int (12 : Int32)), .val (.int (4 : Int32)), .val (.int y10)] [(.int ((12 : Int32) + (4 : Int32))), (.ref a0)])
  refine ogoE (g' := (mkF m 29 #[.val (.ref a0), .val (.int (6 : Int32)), .val (.int (12 : Int32)), .val (.int (4 : Int32)), .val (.int y10)] [(.int (16 : Int32)), (.ref a0)])) (by rw [show ((12 : Int32) + (4 : Int32)) = (16 : Int32) from by decide]) ?_
  refine ogo (fun _ z_ => XS.iload X36.here hx rfl (hb hby d2_29) rfl z_) ?_
  show OWay p e below G T36 (mkF m 31 #[.val (.ref a0), .val (.int (6 : Int32)), .val (.int (12 : Int32)), .val (.int (4 : Int32)), .val (.int y10)] [(.int y10), (.int (16 : Int32)), (.ref a0)])
  obtain ⟨cl_o38, Ar_o38, q_o38, S_o38, N_o38, H_o38, G_o38⟩ := id V_36
  have hin_o38 : ¬ ((16 : Int32) < 0 ∨ cl_o38.slots.size ≤ ((16 : Int32)).toNatClampNeg) := inb_of S_o38 ⟨by decide, by decide⟩
  obtain ⟨T39, h39, X39, eT39, W39, st39⟩ := stI X36 hx hZ eT36 Ar_o38 (j := (16 : Int32)) hin_o38 (g := (mkF m 31 #[.val (.ref a0), .val (.int (6 : Int32)), .val (.int (12 : Int32)), .val (.int (4 : Int32)), .val (.int y10)] [(.int y10), (.int (16 : Int32)), (.ref a0)])) rfl rfl (hb hby d2_31)
  have K40 : Keep h0 h39 [a0] := K37.wr W39 (Or.inl (List.mem_of_getElem? (i := 0) rfl))
  have V_39 : Arv Z h39 a0 kk .int (18 : Int32) [(.int y0), (.int y1), (.int y2), (.int y3), (.int y4), (.int y5), (.int y12), (.int y13), (.int y14), (.int y15), (.int y16), (.int y11), (.int y6), (.int y7), (.int y8), (.int y9), (.int y10), (.int y17)] (.int (0 : Int32)) := Arv.set Ar_o38 q_o38 S_o38 N_o38 H_o38 G_o38 rfl W39 16 rfl (Nat.le_of_ble_eq_true rfl)
  have N39 := Fr.snoc X39 N36 g_a0
  refine ogo st39 ?_
  show OWay p e below G T39 (mkF m 32 #[.val (.ref a0), .val (.int (6 : Int32)), .val (.int (12 : Int32)), .val (.int (4 : Int32)), .val (.int y10)] [])
  refine ogo (fun _ z_ => XS.iinc X39.here hx rfl (hb hby d2_32) rfl (l' := #[.val (.ref a0), .val (.int (6 : Int32)), .val (.int (12 : Int32)), .val (.int ((4 : Int32) + (1 : Int32))), .val (.int y10)]) rfl z_) ?_
  show OWay p e below G T39 (mkF m 35 #[.val (.ref a0), .val (.int (6 : Int32)), .val (.int (12 : Int32)), .val (.int ((4 : Int32) + (1 : Int32))), .val (.int y10)] [])
  refine ogoE (g' := (mkF m 35 #[.val (.ref a0), .val (.int (6 : Int32)), .val (.int (12 : Int32)), .val (.int (5 : Int32)), .val (.int y10)] [])) (by rw [show ((4 : Int32) + (1 : Int32)) = (5 : Int32) from by decide]) ?_
  refine ogo (fun _ z_ => XS.goto X39.here hx rfl (pc0 := 35) (pc' := 2) rfl (hb hby d2_35) (by decide) (by decide) z_) ?_
  show OWay p e below G T39 (mkF m 2 #[.val (.ref a0), .val (.int (6 : Int32)), .val (.int (12 : Int32)), .val (.int (5 : Int32)), .val (.int y10)] [])
  refine ogo (fun _ z_ => XS.iloadN X39.here hx rfl (hb hby d2_2) rfl z_) ?_
  show OWay p e below G T39 (mkF m 3 #[.val (.ref a0), .val (.int (6 : Int32)), .val (.int (12 : Int32)), .val (.int (5 : Int32)), .val (.int y10)] [(.int (5 : Int32))])
  refine ogo (fun _ z_ => XS.bipush X39.here hx rfl (hb hby d2_3) z_) ?_
  show OWay p e below G T39 (mkF m 5 #[.val (.ref a0), .val (.int (6 : Int32)), .val (.int (12 : Int32)), .val (.int (5 : Int32)), .val (.int y10)] [(.int (6 : Int32)), (.int (5 : Int32))])
  refine ogo (fun _ z_ => XS.icmpNo X39.here hx rfl (hb hby d2_5) rfl (tlt (by decide)).2.1 z_) ?_
  show OWay p e below G T39 (mkF m 8 #[.val (.ref a0), .val (.int (6 : Int32)), .val (.int (12 : Int32)), .val (.int (5 : Int32)), .val (.int y10)] [])
  refine ogo (fun _ z_ => XS.aloadN X39.here hx rfl (hb hby d2_8) rfl rfl z_) ?_
  show OWay p e below G T39 (mkF m 9 #[.val (.ref a0), .val (.int (6 : Int32)), .val (.int (12 : Int32)), .val (.int (5 : Int32)), .val (.int y10)] [(.ref a0)])
  refine ogo (fun _ z_ => XS.iloadN X39.here hx rfl (hb hby d2_9) rfl z_) ?_
  show OWay p e below G T39 (mkF m 10 #[.val (.ref a0), .val (.int (6 : Int32)), .val (.int (12 : Int32)), .val (.int (5 : Int32)), .val (.int y10)] [(.int (6 : Int32)), (.ref a0)])
  refine ogo (fun _ z_ => XS.iloadN X39.here hx rfl (hb hby d2_10) rfl z_) ?_
  show OWay p e below G T39 (mkF m 11 #[.val (.ref a0), .val (.int (6 : Int32)), .val (.int (12 : Int32)), .val (.int (5 : Int32)), .val (.int y10)] [(.int (5 : Int32)), (.int (6 : Int32)), (.ref a0)])
  refine ogo (fun _ z_ => XS.iadd X39.here hx rfl (hb hby d2_11) rfl z_) ?_
  show OWay p e below G T39 (mkF m 12 #[.val (.ref a0), .val (.int (6 : Int32)), .val (.int (12 : Int32)), .val (.int (5 : Int32)), .val (.int y10)] [(.int ((6 : Int32) + (5 : Int32))), (.ref a0)])
  refine ogoE (g' := (mkF m 12 #[.val (.ref a0), .val (.int (6 : Int32)), .val (.int (12 : Int32)), .val (.int (5 : Int32)), .val (.int y10)] [(.int (11 : Int32)), (.ref a0)])) (by rw [show ((6 : Int32) + (5 : Int32)) = (11 : Int32) from by decide]) ?_
  obtain ⟨cl_o41, Ar_o41, q_o41, S_o41, N_o41, H_o41, G_o41⟩ := id V_39
  have hin_o41 : ¬ ((11 : Int32) < 0 ∨ cl_o41.slots.size ≤ ((11 : Int32)).toNatClampNeg) := inb_of S_o41 ⟨by decide, by decide⟩
  have hat_o41 : cl_o41.slots[((11 : Int32)).toNatClampNeg]? = some (.int y11) := H_o41.at hin_o41 rfl
  refine ogo (fun _ z_ => X39.iaload hx (j := (11 : Int32)) (v := (.int y11)) (by rw [eT39]; exact Ar_o41.1) (State.isArrayOf_alike hZ.alike Ar_o41.2.1) Ar_o41.2.2 hin_o41 hat_o41 (g := (mkF m 12 #[.val (.ref a0), .val (.int (6 : Int32)), .val (.int (12 : Int32)), .val (.int (5 : Int32)), .val (.int y10)] [(.int (11 : Int32)), (.ref a0)])) rfl rfl (hb hby d2_12) _ z_) ?_
  show OWay p e below G T39 (mkF m 13 #[.val (.ref a0), .val (.int (6 : Int32)), .val (.int (12 : Int32)), .val (.int (5 : Int32)), .val (.int y10)] [(.int y11)])
  refine ogo (fun _ z_ => XS.istore X39.here hx rfl (hb hby d2_13) rfl (l' := #[.val (.ref a0), .val (.int (6 : Int32)), .val (.int (12 : Int32)), .val (.int (5 : Int32)), .val (.int y11)]) rfl z_) ?_
  show OWay p e below G T39 (mkF m 15 #[.val (.ref a0), .val (.int (6 : Int32)), .val (.int (12 : Int32)), .val (.int (5 : Int32)), .val (.int y11)] [])
  refine ogo (fun _ z_ => XS.aloadN X39.here hx rfl (hb hby d2_15) rfl rfl z_) ?_
  show OWay p e below G T39 (mkF m 16 #[.val (.ref a0), .val (.int (6 : Int32)), .val (.int (12 : Int32)), .val (.int (5 : Int32)), .val (.int y11)] [(.ref a0)])
  refine ogo (fun _ z_ => XS.iloadN X39.here hx rfl (hb hby d2_16) rfl z_) ?_
  show OWay p e below G T39 (mkF m 17 #[.val (.ref a0), .val (.int (6 : Int32)), .val (.int (12 : Int32)), .val (.int (5 : Int32)), .val (.int y11)] [(.int (6 : Int32)), (.ref a0)])
  refine ogo (fun _ z_ => XS.iloadN X39.here hx rfl (hb hby d2_17) rfl z_) ?_
  show OWay p e below G T39 (mkF m 18 #[.val (.ref a0), .val (.int (6 : Int32)), .val (.int (12 : Int32)), .val (.int (5 : Int32)), .val (.int y11)] [(.int (5 : Int32)), (.int (6 : Int32)), (.ref a0)])
  refine ogo (fun _ z_ => XS.iadd X39.here hx rfl (hb hby d2_18) rfl z_) ?_
  show OWay p e below G T39 (mkF m 19 #[.val (.ref a0), .val (.int (6 : Int32)), .val (.int (12 : Int32)), .val (.int (5 : Int32)), .val (.int y11)] [(.int ((6 : Int32) + (5 : Int32))), (.ref a0)])
  refine ogoE (g' := (mkF m 19 #[.val (.ref a0), .val (.int (6 : Int32)), .val (.int (12 : Int32)), .val (.int (5 : Int32)), .val (.int y11)] [(.int (11 : Int32)), (.ref a0)])) (by rw [show ((6 : Int32) + (5 : Int32)) = (11 : Int32) from by decide]) ?_
  refine ogo (fun _ z_ => XS.aloadN X39.here hx rfl (hb hby d2_19) rfl rfl z_) ?_
  show OWay p e below G T39 (mkF m 20 #[.val (.ref a0), .val (.int (6 : Int32)), .val (.int (12 : Int32)), .val (.int (5 : Int32)), .val (.int y11)] [(.ref a0), (.int (11 : Int32)), (.ref a0)])
  refine ogo (fun _ z_ => XS.iloadN X39.here hx rfl (hb hby d2_20) rfl z_) ?_
  show OWay p e below G T39 (mkF m 21 #[.val (.ref a0), .val (.int (6 : Int32)), .val (.int (12 : Int32)), .val (.int (5 : Int32)), .val (.int y11)] [(.int (12 : Int32)), (.ref a0), (.int (11 : Int32)), (.ref a0)])
  refine ogo (fun _ z_ => XS.iloadN X39.here hx rfl (hb hby d2_21) rfl z_) ?_
  show OWay p e below G T39 (mkF m 22 #[.val (.ref a0), .val (.int (6 : Int32)), .val (.int (12 : Int32)), .val (.int (5 : Int32)), .val (.int y11)] [(.int (5 : Int32)), (.int (12 : Int32)), (.ref a0), (.int (11 : Int32)), (.ref a0)])
  refine ogo (fun _ z_ => XS.iadd X39.here hx rfl (hb hby d2_22) rfl z_) ?_
  show OWay p e below G T39 (mkF m 23 #[.val (.ref a0), .val (.int (6 : Int32)), .val (.int (12 : Int32)), .val (.int (5 : Int32)), .val (.int y11)] [(.int ((12 : Int32) + (5 : Int32))), (.ref a0), (.int (11 : Int32)), (.ref a0)])
  refine ogoE (g' := (mkF m 23 #[.val (.ref a0), .val (.int (6 : Int32)), .val (.int (12 : Int32)), .val (.int (5 : Int32)), .val (.int y11)] [(.int (17 : Int32)), (.ref a0), (.int (11 : Int32)), (.ref a0)])) (by rw [show ((12 : Int32) + (5 : Int32)) = (17 : Int32) from by decide]) ?_
  obtain ⟨cl_o42, Ar_o42, q_o42, S_o42, N_o42, H_o42, G_o42⟩ := id V_39
  have hin_o42 : ¬ ((17 : Int32) < 0 ∨ cl_o42.slots.size ≤ ((17 : Int32)).toNatClampNeg) := inb_of S_o42 ⟨by decide, by decide⟩
  have hat_o42 : cl_o42.slots[((17 : Int32)).toNatClampNeg]? = some (.int y17) := H_o42.at hin_o42 rfl
  refine ogo (fun _ z_ => X39.iaload hx (j := (17 : Int32)) (v := (.int y17)) (by rw [eT39]; exact Ar_o42.1) (State.isArrayOf_alike hZ.alike Ar_o42.2.1) Ar_o42.2.2 hin_o42 hat_o42 (g := (mkF m 23 #[.val (.ref a0), .val (.int (6 : Int32)), .val (.int (12 : Int32)), .val (.int (5 : Int32)), .val (.int y11)] [(.int (17 : Int32)), (.ref a0), (.int (11 : Int32)), (.ref a0)])) rfl rfl (hb hby d2_23) _ z_) ?_
  show OWay p e below G T39 (mkF m 24 #[.val (.ref a0), .val (.int (6 : Int32)), .val (.int (12 : Int32)), .val (.int (5 : Int32)), .val (.int y11)] [(.int y17), (.int (11 : Int32)), (.ref a0)])
  obtain ⟨cl_o43, Ar_o43, q_o43, S_o43, N_o43, H_o43, G_o43⟩ := id V_39
  have hin_o43 : ¬ ((11 : Int32) < 0 ∨ cl_o43.slots.size ≤ ((11 : Int32)).toNatClampNeg) := inb_of S_o43 ⟨by decide, by decide⟩
  obtain ⟨T44, h44, X44, eT44, W44, st44⟩ := stI X39 hx hZ eT39 Ar_o43 (j := (11 : Int32)) hin_o43 (g := (mkF m 24 #[.val (.ref a0), .val (.int (6 : Int32)), .val (.int (12 : Int32)), .val (.int (5 : Int32)), .val (.int y11)] [(.int y17), (.int (11 : Int32)), (.ref a0)])) rfl rfl (hb hby d2_24)
  have K45 : Keep h0 h44 [a0] := K40.wr W44 (Or.inl (List.mem_of_getElem? (i := 0) rfl))
  have V_44 : Arv Z h44 a0 kk .int (18 : Int32) [(.int y0), (.int y1), (.int y2), (.int y3), (.int y4), (.int y5), (.int y12), (.int y13), (.int y14), (.int y15), (.int y16), (.int y17), (.int y6), (.int y7), (.int y8), (.int y9), (.int y10), (.int y17)] (.int (0 : Int32)) := Arv.set Ar_o43 q_o43 S_o43 N_o43 H_o43 G_o43 rfl W44 11 rfl (Nat.le_of_ble_eq_true rfl)
  have N44 := Fr.snoc X44 N39 g_a0
  refine ogo st44 ?_
  show OWay p e below G T44 (mkF m 25 #[.val (.ref a0), .val (.int (6 : Int32)), .val (.int (12 : Int32)), .val (.int (5 : Int32)), .val (.int y11)] [])
  refine ogo (fun _ z_ => XS.aloadN X44.here hx rfl (hb hby d2_25) rfl rfl z_) ?_
  show OWay p e below G T44 (mkF m 26 #[.val (.ref a0), .val (.int (6 : Int32)), .val (.int (12 : Int32)), .val (.int (5 : Int32)), .val (.int y11)] [(.ref a0)])
  refine ogo (fun _ z_ => XS.iloadN X44.here hx rfl (hb hby d2_26) rfl z_) ?_
  show OWay p e below G T44 (mkF m 27 #[.val (.ref a0), .val (.int (6 : Int32)), .val (.int (12 : Int32)), .val (.int (5 : Int32)), .val (.int y11)] [(.int (12 : Int32)), (.ref a0)])
  refine ogo (fun _ z_ => XS.iloadN X44.here hx rfl (hb hby d2_27) rfl z_) ?_
  show OWay p e below G T44 (mkF m 28 #[.val (.ref a0), .val (.int (6 : Int32)), .val (.int (12 : Int32)), .val (.int (5 : Int32)), .val (.int y11)] [(.int (5 : Int32)), (.int (12 : Int32)), (.ref a0)])
  refine ogo (fun _ z_ => XS.iadd X44.here hx rfl (hb hby d2_28) rfl z_) ?_
  show OWay p e below G T44 (mkF m 29 #[.val (.ref a0), .val (.int (6 : Int32)), .val (.int (12 : Int32)), .val (.int (5 : Int32)), .val (.int y11)] [(.int ((12 : Int32) + (5 : Int32))), (.ref a0)])
  refine ogoE (g' := (mkF m 29 #[.val (.ref a0), .val (.int (6 : Int32)), .val (.int (12 : Int32)), .val (.int (5 : Int32)), .val (.int y11)] [(.int (17 : Int32)), (.ref a0)])) (by rw [show ((12 : Int32) + (5 : Int32)) = (17 : Int32) from by decide]) ?_
  refine ogo (fun _ z_ => XS.iload X44.here hx rfl (hb hby d2_29) rfl z_) ?_
  show OWay p e below G T44 (mkF m 31 #[.val (.ref a0), .val (.int (6 : Int32)), .val (.int (12 : Int32)), .val (.int (5 : Int32)), .val (.int y11)] [(.int y11), (.int (17 : Int32)), (.ref a0)])
  obtain ⟨cl_o46, Ar_o46, q_o46, S_o46, N_o46, H_o46, G_o46⟩ := id V_44
  have hin_o46 : ¬ ((17 : Int32) < 0 ∨ cl_o46.slots.size ≤ ((17 : Int32)).toNatClampNeg) := inb_of S_o46 ⟨by decide, by decide⟩
  obtain ⟨T47, h47, X47, eT47, W47, st47⟩ := stI X44 hx hZ eT44 Ar_o46 (j := (17 : Int32)) hin_o46 (g := (mkF m 31 #[.val (.ref a0), .val (.int (6 : Int32)), .val (.int (12 : Int32)), .val (.int (5 : Int32)), .val (.int y11)] [(.int y11), (.int (17 : Int32)), (.ref a0)])) rfl rfl (hb hby d2_31)
  have K48 : Keep h0 h47 [a0] := K45.wr W47 (Or.inl (List.mem_of_getElem? (i := 0) rfl))
  have V_47 : Arv Z h47 a0 kk .int (18 : Int32) [(.int y0), (.int y1), (.int y2), (.int y3), (.int y4), (.int y5), (.int y12), (.int y13), (.int y14), (.int y15), (.int y16), (.int y17), (.int y6), (.int y7), (.int y8), (.int y9), (.int y10), (.int y11)] (.int (0 : Int32)) := Arv.set Ar_o46 q_o46 S_o46 N_o46 H_o46 G_o46 rfl W47 17 rfl (Nat.le_of_ble_eq_true rfl)
  have N47 := Fr.snoc X47 N44 g_a0
  refine ogo st47 ?_
  show OWay p e below G T47 (mkF m 32 #[.val (.ref a0), .val (.int (6 : Int32)), .val (.int (12 : Int32)), .val (.int (5 : Int32)), .val (.int y11)] [])
  refine ogo (fun _ z_ => XS.iinc X47.here hx rfl (hb hby d2_32) rfl (l' := #[.val (.ref a0), .val (.int (6 : Int32)), .val (.int (12 : Int32)), .val (.int ((5 : Int32) + (1 : Int32))), .val (.int y11)]) rfl z_) ?_
  show OWay p e below G T47 (mkF m 35 #[.val (.ref a0), .val (.int (6 : Int32)), .val (.int (12 : Int32)), .val (.int ((5 : Int32) + (1 : Int32))), .val (.int y11)] [])
  refine ogoE (g' := (mkF m 35 #[.val (.ref a0), .val (.int (6 : Int32)), .val (.int (12 : Int32)), .val (.int (6 : Int32)), .val (.int y11)] [])) (by rw [show ((5 : Int32) + (1 : Int32)) = (6 : Int32) from by decide]) ?_
  refine ogo (fun _ z_ => XS.goto X47.here hx rfl (pc0 := 35) (pc' := 2) rfl (hb hby d2_35) (by decide) (by decide) z_) ?_
  show OWay p e below G T47 (mkF m 2 #[.val (.ref a0), .val (.int (6 : Int32)), .val (.int (12 : Int32)), .val (.int (6 : Int32)), .val (.int y11)] [])
  refine ogo (fun _ z_ => XS.iloadN X47.here hx rfl (hb hby d2_2) rfl z_) ?_
  show OWay p e below G T47 (mkF m 3 #[.val (.ref a0), .val (.int (6 : Int32)), .val (.int (12 : Int32)), .val (.int (6 : Int32)), .val (.int y11)] [(.int (6 : Int32))])
  refine ogo (fun _ z_ => XS.bipush X47.here hx rfl (hb hby d2_3) z_) ?_
  show OWay p e below G T47 (mkF m 5 #[.val (.ref a0), .val (.int (6 : Int32)), .val (.int (12 : Int32)), .val (.int (6 : Int32)), .val (.int y11)] [(.int (6 : Int32)), (.int (6 : Int32))])
  refine ogo (fun _ z_ => XS.icmpYes X47.here hx rfl (pc0 := 5) (pc' := 38) rfl (hb hby d2_5) rfl (flt (by decide)).2.1 (by decide) (by decide) z_) ?_
  show OWay p e below G T47 (mkF m 38 #[.val (.ref a0), .val (.int (6 : Int32)), .val (.int (12 : Int32)), .val (.int (6 : Int32)), .val (.int y11)] [])
  subst hG
  refine wRetV X47 hx hret hlk (hb hby d2_38) (by decide) (by decide) eT47 ?_
  exact ⟨rfl, N47, K48, V_47⟩
def swap20_rm : Room := { frames := 0, cells := 0, slots := 0, locals := 0 }
def swap20_Q (Z : State) (a0 : Addr) (kk : ClassId) (y0 : Int32) (y1 : Int32) (y2 : Int32) (y3 : Int32) (y4 : Int32) (y5 : Int32) (y6 : Int32) (y7 : Int32) (y8 : Int32) (y9 : Int32) (y10 : Int32) (y11 : Int32) (y12 : Int32) (y13 : Int32) (y14 : Int32) (y15 : Int32) (y16 : Int32) (y17 : Int32) (h0 : Heap) (n0 : Nat) (v : Option Value) (h : Heap) (L : List Loc) : Prop := (v = none) ∧ (Fr n0 L) ∧ (Keep h0 h [a0]) ∧ (Arv Z h a0 kk .int (18 : Int32) [(.int y12), (.int y13), (.int y14), (.int y15), (.int y16), (.int y17), (.int y6), (.int y7), (.int y8), (.int y9), (.int y10), (.int y11), (.int y0), (.int y1), (.int y2), (.int y3), (.int y4), (.int y5)] (.int (0 : Int32)))
theorem swap20_ef (m : MethodId) (a0 : Addr) : entryFrame m #[(.ref a0), (.int (12 : Int32)), (.int (0 : Int32))] 5 = mkF m 0 #[.val (.ref a0), .val (.int (12 : Int32)), .val (.int (0 : Int32)), .unset, .unset] [] := by first | (simp [entryFrame, mkF, argsToLocals, Value.category]; done) | rfl
set_option maxRecDepth 65536 in
set_option maxHeartbeats 40000000 in
theorem swap20_c (l : Launch) (Z : State) (az : Array Value) (hw : ∀ d ∈ tables_1, d.before az Z = true) (ws : List Jvm.Cond) (a0 : Addr) (kk : ClassId) (y0 : Int32) (y1 : Int32) (y2 : Int32) (y3 : Int32) (y4 : Int32) (y5 : Int32) (y6 : Int32) (y7 : Int32) (y8 : Int32) (y9 : Int32) (y10 : Int32) (y11 : Int32) (y12 : Int32) (y13 : Int32) (y14 : Int32) (y15 : Int32) (y16 : Int32) (y17 : Int32) (h0 : Heap) (n0 : Nat) (Z0 : n0 ≤ h0.size) (hp0 : Arv Z h0 a0 kk .int (18 : Int32) [(.int y0), (.int y1), (.int y2), (.int y3), (.int y4), (.int y5), (.int y6), (.int y7), (.int y8), (.int y9), (.int y10), (.int y11), (.int y12), (.int y13), (.int y14), (.int y15), (.int y16), (.int y17)] (.int (0 : Int32))) (hp1 : n0 ≤ a0) :
    OCon l (⟨"com/example/geotide/geotide/Members", "swap", "([III)V"⟩ : MethodName) prog_44_method_8_code 5 none ws swap20_rm Z #[(.ref a0), (.int (12 : Int32)), (.int (0 : Int32))] h0 (swap20_Q Z a0 kk y0 y1 y2 y3 y4 y5 y6 y7 y8 y9 y10 y11 y12 y13 y14 y15 y16 y17 h0 n0) := by
  refine ocon (plainFor_of_name pn_com_example_geotide_geotide_Members) ?_
  intro p e s m below meth c s₁ hx hby hml hown hnm hret hlk hZ X0 eh0
  have N0 := Fr.nil n0
  have K0 := Keep.refl h0 [a0]
  refine ogoE (swap20_ef m a0) ?_
  have g_a0 := hp1
  generalize hG : (OEnd s below (swap20_Q Z a0 kk y0 y1 y2 y3 y4 y5 y6 y7 y8 y9 y10 y11 y12 y13 y14 y15 y16 y17 h0 n0) swap20_rm.cells swap20_rm.slots) = G
  show OWay p e below G s₁ (mkF m 0 #[.val (.ref a0), .val (.int (12 : Int32)), .val (.int (0 : Int32)), .unset, .unset] [])
  refine ogo (fun _ z_ => XS.iconst X0.here hx rfl (hb hby d2_0) z_) ?_
  show OWay p e below G s₁ (mkF m 1 #[.val (.ref a0), .val (.int (12 : Int32)), .val (.int (0 : Int32)), .unset, .unset] [(.int (0 : Int32))])
  refine ogo (fun _ z_ => XS.istoreN X0.here hx rfl (hb hby d2_1) rfl (l' := #[.val (.ref a0), .val (.int (12 : Int32)), .val (.int (0 : Int32)), .val (.int (0 : Int32)), .unset]) rfl z_) ?_
  show OWay p e below G s₁ (mkF m 2 #[.val (.ref a0), .val (.int (12 : Int32)), .val (.int (0 : Int32)), .val (.int (0 : Int32)), .unset] [])
  refine ogo (fun _ z_ => XS.iloadN X0.here hx rfl (hb hby d2_2) rfl z_) ?_
  show OWay p e below G s₁ (mkF m 3 #[.val (.ref a0), .val (.int (12 : Int32)), .val (.int (0 : Int32)), .val (.int (0 : Int32)), .unset] [(.int (0 : Int32))])
  refine ogo (fun _ z_ => XS.bipush X0.here hx rfl (hb hby d2_3) z_) ?_
  show OWay p e below G s₁ (mkF m 5 #[.val (.ref a0), .val (.int (12 : Int32)), .val (.int (0 : Int32)), .val (.int (0 : Int32)), .unset] [(.int (6 : Int32)), (.int (0 : Int32))])
  refine ogo (fun _ z_ => XS.icmpNo X0.here hx rfl (hb hby d2_5) rfl (tlt (by decide)).2.1 z_) ?_
  show OWay p e below G s₁ (mkF m 8 #[.val (.ref a0), .val (.int (12 : Int32)), .val (.int (0 : Int32)), .val (.int (0 : Int32)), .unset] [])
  refine ogo (fun _ z_ => XS.aloadN X0.here hx rfl (hb hby d2_8) rfl rfl z_) ?_
  show OWay p e below G s₁ (mkF m 9 #[.val (.ref a0), .val (.int (12 : Int32)), .val (.int (0 : Int32)), .val (.int (0 : Int32)), .unset] [(.ref a0)])
  refine ogo (fun _ z_ => XS.iloadN X0.here hx rfl (hb hby d2_9) rfl z_) ?_
  show OWay p e below G s₁ (mkF m 10 #[.val (.ref a0), .val (.int (12 : Int32)), .val (.int (0 : Int32)), .val (.int (0 : Int32)), .unset] [(.int (12 : Int32)), (.ref a0)])
  refine ogo (fun _ z_ => XS.iloadN X0.here hx rfl (hb hby d2_10) rfl z_) ?_
  show OWay p e below G s₁ (mkF m 11 #[.val (.ref a0), .val (.int (12 : Int32)), .val (.int (0 : Int32)), .val (.int (0 : Int32)), .unset] [(.int (0 : Int32)), (.int (12 : Int32)), (.ref a0)])
  refine ogo (fun _ z_ => XS.iadd X0.here hx rfl (hb hby d2_11) rfl z_) ?_
  show OWay p e below G s₁ (mkF m 12 #[.val (.ref a0), .val (.int (12 : Int32)), .val (.int (0 : Int32)), .val (.int (0 : Int32)), .unset] [(.int ((12 : Int32) + (0 : Int32))), (.ref a0)])
  refine ogoE (g' := (mkF m 12 #[.val (.ref a0), .val (.int (12 : Int32)), .val (.int (0 : Int32)), .val (.int (0 : Int32)), .unset] [(.int (12 : Int32)), (.ref a0)])) (by rw [show ((12 : Int32) + (0 : Int32)) = (12 : Int32) from by decide]) ?_
  obtain ⟨cl_o1, Ar_o1, q_o1, S_o1, N_o1, H_o1, G_o1⟩ := id hp0
  have hin_o1 : ¬ ((12 : Int32) < 0 ∨ cl_o1.slots.size ≤ ((12 : Int32)).toNatClampNeg) := inb_of S_o1 ⟨by decide, by decide⟩
  have hat_o1 : cl_o1.slots[((12 : Int32)).toNatClampNeg]? = some (.int y12) := H_o1.at hin_o1 rfl
  refine ogo (fun _ z_ => X0.iaload hx (j := (12 : Int32)) (v := (.int y12)) (by rw [eh0]; exact Ar_o1.1) (State.isArrayOf_alike hZ.alike Ar_o1.2.1) Ar_o1.2.2 hin_o1 hat_o1 (g := (mkF m 12 #[.val (.ref a0), .val (.int (12 : Int32)), .val (.int (0 : Int32)), .val (.int (0 : Int32)), .unset] [(.int (12 : Int32)), (.ref a0)])) rfl rfl (hb hby d2_12) _ z_) ?_
  show OWay p e below G s₁ (mkF m 13 #[.val (.ref a0), .val (.int (12 : Int32)), .val (.int (0 : Int32)), .val (.int (0 : Int32)), .unset] [(.int y12)])
  refine ogo (fun _ z_ => XS.istore X0.here hx rfl (hb hby d2_13) rfl (l' := #[.val (.ref a0), .val (.int (12 : Int32)), .val (.int (0 : Int32)), .val (.int (0 : Int32)), .val (.int y12)]) rfl z_) ?_
  show OWay p e below G s₁ (mkF m 15 #[.val (.ref a0), .val (.int (12 : Int32)), .val (.int (0 : Int32)), .val (.int (0 : Int32)), .val (.int y12)] [])
  refine ogo (fun _ z_ => XS.aloadN X0.here hx rfl (hb hby d2_15) rfl rfl z_) ?_
  show OWay p e below G s₁ (mkF m 16 #[.val (.ref a0), .val (.int (12 : Int32)), .val (.int (0 : Int32)), .val (.int (0 : Int32)), .val (.int y12)] [(.ref a0)])
  refine ogo (fun _ z_ => XS.iloadN X0.here hx rfl (hb hby d2_16) rfl z_) ?_
  show OWay p e below G s₁ (mkF m 17 #[.val (.ref a0), .val (.int (12 : Int32)), .val (.int (0 : Int32)), .val (.int (0 : Int32)), .val (.int y12)] [(.int (12 : Int32)), (.ref a0)])
  refine ogo (fun _ z_ => XS.iloadN X0.here hx rfl (hb hby d2_17) rfl z_) ?_
  show OWay p e below G s₁ (mkF m 18 #[.val (.ref a0), .val (.int (12 : Int32)), .val (.int (0 : Int32)), .val (.int (0 : Int32)), .val (.int y12)] [(.int (0 : Int32)), (.int (12 : Int32)), (.ref a0)])
  refine ogo (fun _ z_ => XS.iadd X0.here hx rfl (hb hby d2_18) rfl z_) ?_
  show OWay p e below G s₁ (mkF m 19 #[.val (.ref a0), .val (.int (12 : Int32)), .val (.int (0 : Int32)), .val (.int (0 : Int32)), .val (.int y12)] [(.int ((12 : Int32) + (0 : Int32))), (.ref a0)])
  refine ogoE (g' := (mkF m 19 #[.val (.ref a0), .val (.int (12 : Int32)), .val (.int (0 : Int32)), .val (.int (0 : Int32)), .val (.int y12)] [(.int (12 : Int32)), (.ref a0)])) (by rw [show ((12 : Int32) + (0 : Int32)) = (12 : Int32) from by decide]) ?_
  refine ogo (fun _ z_ => XS.aloadN X0.here hx rfl (hb hby d2_19) rfl rfl z_) ?_
  show OWay p e below G s₁ (mkF m 20 #[.val (.ref a0), .val (.int (12 : Int32)), .val (.int (0 : Int32)), .val (.int (0 : Int32)), .val (.int y12)] [(.ref a0), (.int (12 : Int32)), (.ref a0)])
  refine ogo (fun _ z_ => XS.iloadN X0.here hx rfl (hb hby d2_20) rfl z_) ?_
  show OWay p e below G s₁ (mkF m 21 #[.val (.ref a0), .val (.int (12 : Int32)), .val (.int (0 : Int32)), .val (.int (0 : Int32)), .val (.int y12)] [(.int (0 : Int32)), (.ref a0), (.int (12 : Int32)), (.ref a0)])
  refine ogo (fun _ z_ => XS.iloadN X0.here hx rfl (hb hby d2_21) rfl z_) ?_
  show OWay p e below G s₁ (mkF m 22 #[.val (.ref a0), .val (.int (12 : Int32)), .val (.int (0 : Int32)), .val (.int (0 : Int32)), .val (.int y12)] [(.int (0 : Int32)), (.int (0 : Int32)), (.ref a0), (.int (12 : Int32)), (.ref a0)])
  refine ogo (fun _ z_ => XS.iadd X0.here hx rfl (hb hby d2_22) rfl z_) ?_
  show OWay p e below G s₁ (mkF m 23 #[.val (.ref a0), .val (.int (12 : Int32)), .val (.int (0 : Int32)), .val (.int (0 : Int32)), .val (.int y12)] [(.int ((0 : Int32) + (0 : Int32))), (.ref a0), (.int (12 : Int32)), (.ref a0)])
  refine ogoE (g' := (mkF m 23 #[.val (.ref a0), .val (.int (12 : Int32)), .val (.int (0 : Int32)), .val (.int (0 : Int32)), .val (.int y12)] [(.int (0 : Int32)), (.ref a0), (.int (12 : Int32)), (.ref a0)])) (by rw [show ((0 : Int32) + (0 : Int32)) = (0 : Int32) from by decide]) ?_
  obtain ⟨cl_o2, Ar_o2, q_o2, S_o2, N_o2, H_o2, G_o2⟩ := id hp0
  have hin_o2 : ¬ ((0 : Int32) < 0 ∨ cl_o2.slots.size ≤ ((0 : Int32)).toNatClampNeg) := inb_of S_o2 ⟨by decide, by decide⟩
  have hat_o2 : cl_o2.slots[((0 : Int32)).toNatClampNeg]? = some (.int y0) := H_o2.at hin_o2 rfl
  refine ogo (fun _ z_ => X0.iaload hx (j := (0 : Int32)) (v := (.int y0)) (by rw [eh0]; exact Ar_o2.1) (State.isArrayOf_alike hZ.alike Ar_o2.2.1) Ar_o2.2.2 hin_o2 hat_o2 (g := (mkF m 23 #[.val (.ref a0), .val (.int (12 : Int32)), .val (.int (0 : Int32)), .val (.int (0 : Int32)), .val (.int y12)] [(.int (0 : Int32)), (.ref a0), (.int (12 : Int32)), (.ref a0)])) rfl rfl (hb hby d2_23) _ z_) ?_
  show OWay p e below G s₁ (mkF m 24 #[.val (.ref a0), .val (.int (12 : Int32)), .val (.int (0 : Int32)), .val (.int (0 : Int32)), .val (.int y12)] [(.int y0), (.int (12 : Int32)), (.ref a0)])
  obtain ⟨cl_o3, Ar_o3, q_o3, S_o3, N_o3, H_o3, G_o3⟩ := id hp0
  have hin_o3 : ¬ ((12 : Int32) < 0 ∨ cl_o3.slots.size ≤ ((12 : Int32)).toNatClampNeg) := inb_of S_o3 ⟨by decide, by decide⟩
  obtain ⟨T4, h4, X4, eT4, W4, st4⟩ := stI X0 hx hZ eh0 Ar_o3 (j := (12 : Int32)) hin_o3 (g := (mkF m 24 #[.val (.ref a0), .val (.int (12 : Int32)), .val (.int (0 : Int32)), .val (.int (0 : Int32)), .val (.int y12)] [(.int y0), (.int (12 : Int32)), (.ref a0)])) rfl rfl (hb hby d2_24)
  have K5 : Keep h0 h4 [a0] := K0.wr W4 (Or.inl (List.mem_of_getElem? (i := 0) rfl))
  have V_4 : Arv Z h4 a0 kk .int (18 : Int32) [(.int y0), (.int y1), (.int y2), (.int y3), (.int y4), (.int y5), (.int y6), (.int y7), (.int y8), (.int y9), (.int y10), (.int y11), (.int y0), (.int y13), (.int y14), (.int y15), (.int y16), (.int y17)] (.int (0 : Int32)) := Arv.set Ar_o3 q_o3 S_o3 N_o3 H_o3 G_o3 rfl W4 12 rfl (Nat.le_of_ble_eq_true rfl)
  have N4 := Fr.snoc X4 N0 g_a0
  refine ogo st4 ?_
  show OWay p e below G T4 (mkF m 25 #[.val (.ref a0), .val (.int (12 : Int32)), .val (.int (0 : Int32)), .val (.int (0 : Int32)), .val (.int y12)] [])
  refine ogo (fun _ z_ => XS.aloadN X4.here hx rfl (hb hby d2_25) rfl rfl z_) ?_
  show OWay p e below G T4 (mkF m 26 #[.val (.ref a0), .val (.int (12 : Int32)), .val (.int (0 : Int32)), .val (.int (0 : Int32)), .val (.int y12)] [(.ref a0)])
  refine ogo (fun _ z_ => XS.iloadN X4.here hx rfl (hb hby d2_26) rfl z_) ?_
  show OWay p e below G T4 (mkF m 27 #[.val (.ref a0), .val (.int (12 : Int32)), .val (.int (0 : Int32)), .val (.int (0 : Int32)), .val (.int y12)] [(.int (0 : Int32)), (.ref a0)])
  refine ogo (fun _ z_ => XS.iloadN X4.here hx rfl (hb hby d2_27) rfl z_) ?_
  show OWay p e below G T4 (mkF m 28 #[.val (.ref a0), .val (.int (12 : Int32)), .val (.int (0 : Int32)), .val (.int (0 : Int32)), .val (.int y12)] [(.int (0 : Int32)), (.int (0 : Int32)), (.ref a0)])
  refine ogo (fun _ z_ => XS.iadd X4.here hx rfl (hb hby d2_28) rfl z_) ?_
  show OWay p e below G T4 (mkF m 29 #[.val (.ref a0), .val (.int (12 : Int32)), .val (.int (0 : Int32)), .val (.int (0 : Int32)), .val (.int y12)] [(.int ((0 : Int32) + (0 : Int32))), (.ref a0)])
  refine ogoE (g' := (mkF m 29 #[.val (.ref a0), .val (.int (12 : Int32)), .val (.int (0 : Int32)), .val (.int (0 : Int32)), .val (.int y12)] [(.int (0 : Int32)), (.ref a0)])) (by rw [show ((0 : Int32) + (0 : Int32)) = (0 : Int32) from by decide]) ?_
  refine ogo (fun _ z_ => XS.iload X4.here hx rfl (hb hby d2_29) rfl z_) ?_
  show OWay p e below G T4 (mkF m 31 #[.val (.ref a0), .val (.int (12 : Int32)), .val (.int (0 : Int32)), .val (.int (0 : Int32)), .val (.int y12)] [(.int y12), (.int (0 : Int32)), (.ref a0)])
  obtain ⟨cl_o6, Ar_o6, q_o6, S_o6, N_o6, H_o6, G_o6⟩ := id V_4
  have hin_o6 : ¬ ((0 : Int32) < 0 ∨ cl_o6.slots.size ≤ ((0 : Int32)).toNatClampNeg) := inb_of S_o6 ⟨by decide, by decide⟩
  obtain ⟨T7, h7, X7, eT7, W7, st7⟩ := stI X4 hx hZ eT4 Ar_o6 (j := (0 : Int32)) hin_o6 (g := (mkF m 31 #[.val (.ref a0), .val (.int (12 : Int32)), .val (.int (0 : Int32)), .val (.int (0 : Int32)), .val (.int y12)] [(.int y12), (.int (0 : Int32)), (.ref a0)])) rfl rfl (hb hby d2_31)
  have K8 : Keep h0 h7 [a0] := K5.wr W7 (Or.inl (List.mem_of_getElem? (i := 0) rfl))
  have V_7 : Arv Z h7 a0 kk .int (18 : Int32) [(.int y12), (.int y1), (.int y2), (.int y3), (.int y4), (.int y5), (.int y6), (.int y7), (.int y8), (.int y9), (.int y10), (.int y11), (.int y0), (.int y13), (.int y14), (.int y15), (.int y16), (.int y17)] (.int (0 : Int32)) := Arv.set Ar_o6 q_o6 S_o6 N_o6 H_o6 G_o6 rfl W7 0 rfl (Nat.le_of_ble_eq_true rfl)
  have N7 := Fr.snoc X7 N4 g_a0
  refine ogo st7 ?_
  show OWay p e below G T7 (mkF m 32 #[.val (.ref a0), .val (.int (12 : Int32)), .val (.int (0 : Int32)), .val (.int (0 : Int32)), .val (.int y12)] [])
  refine ogo (fun _ z_ => XS.iinc X7.here hx rfl (hb hby d2_32) rfl (l' := #[.val (.ref a0), .val (.int (12 : Int32)), .val (.int (0 : Int32)), .val (.int ((0 : Int32) + (1 : Int32))), .val (.int y12)]) rfl z_) ?_
  show OWay p e below G T7 (mkF m 35 #[.val (.ref a0), .val (.int (12 : Int32)), .val (.int (0 : Int32)), .val (.int ((0 : Int32) + (1 : Int32))), .val (.int y12)] [])
  refine ogoE (g' := (mkF m 35 #[.val (.ref a0), .val (.int (12 : Int32)), .val (.int (0 : Int32)), .val (.int (1 : Int32)), .val (.int y12)] [])) (by rw [show ((0 : Int32) + (1 : Int32)) = (1 : Int32) from by decide]) ?_
  refine ogo (fun _ z_ => XS.goto X7.here hx rfl (pc0 := 35) (pc' := 2) rfl (hb hby d2_35) (by decide) (by decide) z_) ?_
  show OWay p e below G T7 (mkF m 2 #[.val (.ref a0), .val (.int (12 : Int32)), .val (.int (0 : Int32)), .val (.int (1 : Int32)), .val (.int y12)] [])
  refine ogo (fun _ z_ => XS.iloadN X7.here hx rfl (hb hby d2_2) rfl z_) ?_
  show OWay p e below G T7 (mkF m 3 #[.val (.ref a0), .val (.int (12 : Int32)), .val (.int (0 : Int32)), .val (.int (1 : Int32)), .val (.int y12)] [(.int (1 : Int32))])
  refine ogo (fun _ z_ => XS.bipush X7.here hx rfl (hb hby d2_3) z_) ?_
  show OWay p e below G T7 (mkF m 5 #[.val (.ref a0), .val (.int (12 : Int32)), .val (.int (0 : Int32)), .val (.int (1 : Int32)), .val (.int y12)] [(.int (6 : Int32)), (.int (1 : Int32))])
  refine ogo (fun _ z_ => XS.icmpNo X7.here hx rfl (hb hby d2_5) rfl (tlt (by decide)).2.1 z_) ?_
  show OWay p e below G T7 (mkF m 8 #[.val (.ref a0), .val (.int (12 : Int32)), .val (.int (0 : Int32)), .val (.int (1 : Int32)), .val (.int y12)] [])
  refine ogo (fun _ z_ => XS.aloadN X7.here hx rfl (hb hby d2_8) rfl rfl z_) ?_
  show OWay p e below G T7 (mkF m 9 #[.val (.ref a0), .val (.int (12 : Int32)), .val (.int (0 : Int32)), .val (.int (1 : Int32)), .val (.int y12)] [(.ref a0)])
  refine ogo (fun _ z_ => XS.iloadN X7.here hx rfl (hb hby d2_9) rfl z_) ?_
  show OWay p e below G T7 (mkF m 10 #[.val (.ref a0), .val (.int (12 : Int32)), .val (.int (0 : Int32)), .val (.int (1 : Int32)), .val (.int y12)] [(.int (12 : Int32)), (.ref a0)])
  refine ogo (fun _ z_ => XS.iloadN X7.here hx rfl (hb hby d2_10) rfl z_) ?_
  show OWay p e below G T7 (mkF m 11 #[.val (.ref a0), .val (.int (12 : Int32)), .val (.int (0 : Int32)), .val (.int (1 : Int32)), .val (.int y12)] [(.int (1 : Int32)), (.int (12 : Int32)), (.ref a0)])
  refine ogo (fun _ z_ => XS.iadd X7.here hx rfl (hb hby d2_11) rfl z_) ?_
  show OWay p e below G T7 (mkF m 12 #[.val (.ref a0), .val (.int (12 : Int32)), .val (.int (0 : Int32)), .val (.int (1 : Int32)), .val (.int y12)] [(.int ((12 : Int32) + (1 : Int32))), (.ref a0)])
  refine ogoE (g' := (mkF m 12 #[.val (.ref a0), .val (.int (12 : Int32)), .val (.int (0 : Int32)), .val (.int (1 : Int32)), .val (.int y12)] [(.int (13 : Int32)), (.ref a0)])) (by rw [show ((12 : Int32) + (1 : Int32)) = (13 : Int32) from by decide]) ?_
  obtain ⟨cl_o9, Ar_o9, q_o9, S_o9, N_o9, H_o9, G_o9⟩ := id V_7
  have hin_o9 : ¬ ((13 : Int32) < 0 ∨ cl_o9.slots.size ≤ ((13 : Int32)).toNatClampNeg) := inb_of S_o9 ⟨by decide, by decide⟩
  have hat_o9 : cl_o9.slots[((13 : Int32)).toNatClampNeg]? = some (.int y13) := H_o9.at hin_o9 rfl
  refine ogo (fun _ z_ => X7.iaload hx (j := (13 : Int32)) (v := (.int y13)) (by rw [eT7]; exact Ar_o9.1) (State.isArrayOf_alike hZ.alike Ar_o9.2.1) Ar_o9.2.2 hin_o9 hat_o9 (g := (mkF m 12 #[.val (.ref a0), .val (.int (12 : Int32)), .val (.int (0 : Int32)), .val (.int (1 : Int32)), .val (.int y12)] [(.int (13 : Int32)), (.ref a0)])) rfl rfl (hb hby d2_12) _ z_) ?_
  show OWay p e below G T7 (mkF m 13 #[.val (.ref a0), .val (.int (12 : Int32)), .val (.int (0 : Int32)), .val (.int (1 : Int32)), .val (.int y12)] [(.int y13)])
  refine ogo (fun _ z_ => XS.istore X7.here hx rfl (hb hby d2_13) rfl (l' := #[.val (.ref a0), .val (.int (12 : Int32)), .val (.int (0 : Int32)), .val (.int (1 : Int32)), .val (.int y13)]) rfl z_) ?_
  show OWay p e below G T7 (mkF m 15 #[.val (.ref a0), .val (.int (12 : Int32)), .val (.int (0 : Int32)), .val (.int (1 : Int32)), .val (.int y13)] [])
  refine ogo (fun _ z_ => XS.aloadN X7.here hx rfl (hb hby d2_15) rfl rfl z_) ?_
  show OWay p e below G T7 (mkF m 16 #[.val (.ref a0), .val (.int (12 : Int32)), .val (.int (0 : Int32)), .val (.int (1 : Int32)), .val (.int y13)] [(.ref a0)])
  refine ogo (fun _ z_ => XS.iloadN X7.here hx rfl (hb hby d2_16) rfl z_) ?_
  show OWay p e below G T7 (mkF m 17 #[.val (.ref a0), .val (.int (12 : Int32)), .val (.int (0 : Int32)), .val (.int (1 : Int32)), .val (.int y13)] [(.int (12 : Int32)), (.ref a0)])
  refine ogo (fun _ z_ => XS.iloadN X7.here hx rfl (hb hby d2_17) rfl z_) ?_
  show OWay p e below G T7 (mkF m 18 #[.val (.ref a0), .val (.int (12 : Int32)), .val (.int (0 : Int32)), .val (.int (1 : Int32)), .val (.int y13)] [(.int (1 : Int32)), (.int (12 : Int32)), (.ref a0)])
  refine ogo (fun _ z_ => XS.iadd X7.here hx rfl (hb hby d2_18) rfl z_) ?_
  show OWay p e below G T7 (mkF m 19 #[.val (.ref a0), .val (.int (12 : Int32)), .val (.int (0 : Int32)), .val (.int (1 : Int32)), .val (.int y13)] [(.int ((12 : Int32) + (1 : Int32))), (.ref a0)])
  refine ogoE (g' := (mkF m 19 #[.val (.ref a0), .val (.int (12 : Int32)), .val (.int (0 : Int32)), .val (.int (1 : Int32)), .val (.int y13)] [(.int (13 : Int32)), (.ref a0)])) (by rw [show ((12 : Int32) + (1 : Int32)) = (13 : Int32) from by decide]) ?_
  refine ogo (fun _ z_ => XS.aloadN X7.here hx rfl (hb hby d2_19) rfl rfl z_) ?_
  show OWay p e below G T7 (mkF m 20 #[.val (.ref a0), .val (.int (12 : Int32)), .val (.int (0 : Int32)), .val (.int (1 : Int32)), .val (.int y13)] [(.ref a0), (.int (13 : Int32)), (.ref a0)])
  refine ogo (fun _ z_ => XS.iloadN X7.here hx rfl (hb hby d2_20) rfl z_) ?_
  show OWay p e below G T7 (mkF m 21 #[.val (.ref a0), .val (.int (12 : Int32)), .val (.int (0 : Int32)), .val (.int (1 : Int32)), .val (.int y13)] [(.int (0 : Int32)), (.ref a0), (.int (13 : Int32)), (.ref a0)])
  refine ogo (fun _ z_ => XS.iloadN X7.here hx rfl (hb hby d2_21) rfl z_) ?_
  show OWay p e below G T7 (mkF m 22 #[.val (.ref a0), .val (.int (12 : Int32)), .val (.int (0 : Int32)), .val (.int (1 : Int32)), .val (.int y13)] [(.int (1 : Int32)), (.int (0 : Int32)), (.ref a0), (.int (13 : Int32)), (.ref a0)])
  refine ogo (fun _ z_ => XS.iadd X7.here hx rfl (hb hby d2_22) rfl z_) ?_
  show OWay p e below G T7 (mkF m 23 #[.val (.ref a0), .val (.int (12 : Int32)), .val (.int (0 : Int32)), .val (.int (1 : Int32)), .val (.int y13)] [(.int ((0 : Int32) + (1 : Int32))), (.ref a0), (.int (13 : Int32)), (.ref a0)])
  refine ogoE (g' := (mkF m 23 #[.val (.ref a0), .val (.int (12 : Int32)), .val (.int (0 : Int32)), .val (.int (1 : Int32)), .val (.int y13)] [(.int (1 : Int32)), (.ref a0), (.int (13 : Int32)), (.ref a0)])) (by rw [show ((0 : Int32) + (1 : Int32)) = (1 : Int32) from by decide]) ?_
  obtain ⟨cl_o10, Ar_o10, q_o10, S_o10, N_o10, H_o10, G_o10⟩ := id V_7
  have hin_o10 : ¬ ((1 : Int32) < 0 ∨ cl_o10.slots.size ≤ ((1 : Int32)).toNatClampNeg) := inb_of S_o10 ⟨by decide, by decide⟩
  have hat_o10 : cl_o10.slots[((1 : Int32)).toNatClampNeg]? = some (.int y1) := H_o10.at hin_o10 rfl
  refine ogo (fun _ z_ => X7.iaload hx (j := (1 : Int32)) (v := (.int y1)) (by rw [eT7]; exact Ar_o10.1) (State.isArrayOf_alike hZ.alike Ar_o10.2.1) Ar_o10.2.2 hin_o10 hat_o10 (g := (mkF m 23 #[.val (.ref a0), .val (.int (12 : Int32)), .val (.int (0 : Int32)), .val (.int (1 : Int32)), .val (.int y13)] [(.int (1 : Int32)), (.ref a0), (.int (13 : Int32)), (.ref a0)])) rfl rfl (hb hby d2_23) _ z_) ?_
  show OWay p e below G T7 (mkF m 24 #[.val (.ref a0), .val (.int (12 : Int32)), .val (.int (0 : Int32)), .val (.int (1 : Int32)), .val (.int y13)] [(.int y1), (.int (13 : Int32)), (.ref a0)])
  obtain ⟨cl_o11, Ar_o11, q_o11, S_o11, N_o11, H_o11, G_o11⟩ := id V_7
  have hin_o11 : ¬ ((13 : Int32) < 0 ∨ cl_o11.slots.size ≤ ((13 : Int32)).toNatClampNeg) := inb_of S_o11 ⟨by decide, by decide⟩
  obtain ⟨T12, h12, X12, eT12, W12, st12⟩ := stI X7 hx hZ eT7 Ar_o11 (j := (13 : Int32)) hin_o11 (g := (mkF m 24 #[.val (.ref a0), .val (.int (12 : Int32)), .val (.int (0 : Int32)), .val (.int (1 : Int32)), .val (.int y13)] [(.int y1), (.int (13 : Int32)), (.ref a0)])) rfl rfl (hb hby d2_24)
  have K13 : Keep h0 h12 [a0] := K8.wr W12 (Or.inl (List.mem_of_getElem? (i := 0) rfl))
  have V_12 : Arv Z h12 a0 kk .int (18 : Int32) [(.int y12), (.int y1), (.int y2), (.int y3), (.int y4), (.int y5), (.int y6), (.int y7), (.int y8), (.int y9), (.int y10), (.int y11), (.int y0), (.int y1), (.int y14), (.int y15), (.int y16), (.int y17)] (.int (0 : Int32)) := Arv.set Ar_o11 q_o11 S_o11 N_o11 H_o11 G_o11 rfl W12 13 rfl (Nat.le_of_ble_eq_true rfl)
  have N12 := Fr.snoc X12 N7 g_a0
  refine ogo st12 ?_
  show OWay p e below G T12 (mkF m 25 #[.val (.ref a0), .val (.int (12 : Int32)), .val (.int (0 : Int32)), .val (.int (1 : Int32)), .val (.int y13)] [])
  refine ogo (fun _ z_ => XS.aloadN X12.here hx rfl (hb hby d2_25) rfl rfl z_) ?_
  show OWay p e below G T12 (mkF m 26 #[.val (.ref a0), .val (.int (12 : Int32)), .val (.int (0 : Int32)), .val (.int (1 : Int32)), .val (.int y13)] [(.ref a0)])
  refine ogo (fun _ z_ => XS.iloadN X12.here hx rfl (hb hby d2_26) rfl z_) ?_
  show OWay p e below G T12 (mkF m 27 #[.val (.ref a0), .val (.int (12 : Int32)), .val (.int (0 : Int32)), .val (.int (1 : Int32)), .val (.int y13)] [(.int (0 : Int32)), (.ref a0)])
  refine ogo (fun _ z_ => XS.iloadN X12.here hx rfl (hb hby d2_27) rfl z_) ?_
  show OWay p e below G T12 (mkF m 28 #[.val (.ref a0), .val (.int (12 : Int32)), .val (.int (0 : Int32)), .val (.int (1 : Int32)), .val (.int y13)] [(.int (1 : Int32)), (.int (0 : Int32)), (.ref a0)])
  refine ogo (fun _ z_ => XS.iadd X12.here hx rfl (hb hby d2_28) rfl z_) ?_
  show OWay p e below G T12 (mkF m 29 #[.val (.ref a0), .val (.int (12 : Int32)), .val (.int (0 : Int32)), .val (.int (1 : Int32)), .val (.int y13)] [(.int ((0 : Int32) + (1 : Int32))), (.ref a0)])
  refine ogoE (g' := (mkF m 29 #[.val (.ref a0), .val (.int (12 : Int32)), .val (.int (0 : Int32)), .val (.int (1 : Int32)), .val (.int y13)] [(.int (1 : Int32)), (.ref a0)])) (by rw [show ((0 : Int32) + (1 : Int32)) = (1 : Int32) from by decide]) ?_
  refine ogo (fun _ z_ => XS.iload X12.here hx rfl (hb hby d2_29) rfl z_) ?_
  show OWay p e below G T12 (mkF m 31 #[.val (.ref a0), .val (.int (12 : Int32)), .val (.int (0 : Int32)), .val (.int (1 : Int32)), .val (.int y13)] [(.int y13), (.int (1 : Int32)), (.ref a0)])
  obtain ⟨cl_o14, Ar_o14, q_o14, S_o14, N_o14, H_o14, G_o14⟩ := id V_12
  have hin_o14 : ¬ ((1 : Int32) < 0 ∨ cl_o14.slots.size ≤ ((1 : Int32)).toNatClampNeg) := inb_of S_o14 ⟨by decide, by decide⟩
  obtain ⟨T15, h15, X15, eT15, W15, st15⟩ := stI X12 hx hZ eT12 Ar_o14 (j := (1 : Int32)) hin_o14 (g := (mkF m 31 #[.val (.ref a0), .val (.int (12 : Int32)), .val (.int (0 : Int32)), .val (.int (1 : Int32)), .val (.int y13)] [(.int y13), (.int (1 : Int32)), (.ref a0)])) rfl rfl (hb hby d2_31)
  have K16 : Keep h0 h15 [a0] := K13.wr W15 (Or.inl (List.mem_of_getElem? (i := 0) rfl))
  have V_15 : Arv Z h15 a0 kk .int (18 : Int32) [(.int y12), (.int y13), (.int y2), (.int y3), (.int y4), (.int y5), (.int y6), (.int y7), (.int y8), (.int y9), (.int y10), (.int y11), (.int y0), (.int y1), (.int y14), (.int y15), (.int y16), (.int y17)] (.int (0 : Int32)) := Arv.set Ar_o14 q_o14 S_o14 N_o14 H_o14 G_o14 rfl W15 1 rfl (Nat.le_of_ble_eq_true rfl)
  have N15 := Fr.snoc X15 N12 g_a0
  refine ogo st15 ?_
  show OWay p e below G T15 (mkF m 32 #[.val (.ref a0), .val (.int (12 : Int32)), .val (.int (0 : Int32)), .val (.int (1 : Int32)), .val (.int y13)] [])
  refine ogo (fun _ z_ => XS.iinc X15.here hx rfl (hb hby d2_32) rfl (l' := #[.val (.ref a0), .val (.int (12 : Int32)), .val (.int (0 : Int32)), .val (.int ((1 : Int32) + (1 : Int32))), .val (.int y13)]) rfl z_) ?_
  show OWay p e below G T15 (mkF m 35 #[.val (.ref a0), .val (.int (12 : Int32)), .val (.int (0 : Int32)), .val (.int ((1 : Int32) + (1 : Int32))), .val (.int y13)] [])
  refine ogoE (g' := (mkF m 35 #[.val (.ref a0), .val (.int (12 : Int32)), .val (.int (0 : Int32)), .val (.int (2 : Int32)), .val (.int y13)] [])) (by rw [show ((1 : Int32) + (1 : Int32)) = (2 : Int32) from by decide]) ?_
  refine ogo (fun _ z_ => XS.goto X15.here hx rfl (pc0 := 35) (pc' := 2) rfl (hb hby d2_35) (by decide) (by decide) z_) ?_
  show OWay p e below G T15 (mkF m 2 #[.val (.ref a0), .val (.int (12 : Int32)), .val (.int (0 : Int32)), .val (.int (2 : Int32)), .val (.int y13)] [])
  refine ogo (fun _ z_ => XS.iloadN X15.here hx rfl (hb hby d2_2) rfl z_) ?_
  show OWay p e below G T15 (mkF m 3 #[.val (.ref a0), .val (.int (12 : Int32)), .val (.int (0 : Int32)), .val (.int (2 : Int32)), .val (.int y13)] [(.int (2 : Int32))])
  refine ogo (fun _ z_ => XS.bipush X15.here hx rfl (hb hby d2_3) z_) ?_
  show OWay p e below G T15 (mkF m 5 #[.val (.ref a0), .val (.int (12 : Int32)), .val (.int (0 : Int32)), .val (.int (2 : Int32)), .val (.int y13)] [(.int (6 : Int32)), (.int (2 : Int32))])
  refine ogo (fun _ z_ => XS.icmpNo X15.here hx rfl (hb hby d2_5) rfl (tlt (by decide)).2.1 z_) ?_
  show OWay p e below G T15 (mkF m 8 #[.val (.ref a0), .val (.int (12 : Int32)), .val (.int (0 : Int32)), .val (.int (2 : Int32)), .val (.int y13)] [])
  refine ogo (fun _ z_ => XS.aloadN X15.here hx rfl (hb hby d2_8) rfl rfl z_) ?_
  show OWay p e below G T15 (mkF m 9 #[.val (.ref a0), .val (.int (12 : Int32)), .val (.int (0 : Int32)), .val (.int (2 : Int32)), .val (.int y13)] [(.ref a0)])
  refine ogo (fun _ z_ => XS.iloadN X15.here hx rfl (hb hby d2_9) rfl z_) ?_
  show OWay p e below G T15 (mkF m 10 #[.val (.ref a0), .val (.int (12 : Int32)), .val (.int (0 : Int32)), .val (.int (2 : Int32)), .val (.int y13)] [(.int (12 : Int32)), (.ref a0)])
  refine ogo (fun _ z_ => XS.iloadN X15.here hx rfl (hb hby d2_10) rfl z_) ?_
  show OWay p e below G T15 (mkF m 11 #[.val (.ref a0), .val (.int (12 : Int32)), .val (.int (0 : Int32)), .val (.int (2 : Int32)), .val (.int y13)] [(.int (2 : Int32)), (.int (12 : Int32)), (.ref a0)])
  refine ogo (fun _ z_ => XS.iadd X15.here hx rfl (hb hby d2_11) rfl z_) ?_
  show OWay p e below G T15 (mkF m 12 #[.val (.ref a0), .val (.int (12 : Int32)), .val (.int (0 : Int32)), .val (.int (2 : Int32)), .val (.int y13)] [(.int ((12 : Int32) + (2 : Int32))), (.ref a0)])
  refine ogoE (g' := (mkF m 12 #[.val (.ref a0), .val (.int (12 : Int32)), .val (.int (0 : Int32)), .val (.int (2 : Int32)), .val (.int y13)] [(.int (14 : Int32)), (.ref a0)])) (by rw [show ((12 : Int32) + (2 : Int32)) = (14 : Int32) from by decide]) ?_
  obtain ⟨cl_o17, Ar_o17, q_o17, S_o17, N_o17, H_o17, G_o17⟩ := id V_15
  have hin_o17 : ¬ ((14 : Int32) < 0 ∨ cl_o17.slots.size ≤ ((14 : Int32)).toNatClampNeg) := inb_of S_o17 ⟨by decide, by decide⟩
  have hat_o17 : cl_o17.slots[((14 : Int32)).toNatClampNeg]? = some (.int y14) := H_o17.at hin_o17 rfl
  refine ogo (fun _ z_ => X15.iaload hx (j := (14 : Int32)) (v := (.int y14)) (by rw [eT15]; exact Ar_o17.1) (State.isArrayOf_alike hZ.alike Ar_o17.2.1) Ar_o17.2.2 hin_o17 hat_o17 (g := (mkF m 12 #[.val (.ref a0), .val (.int (12 : Int32)), .val (.int (0 : Int32)), .val (.int (2 : Int32)), .val (.int y13)] [(.int (14 : Int32)), (.ref a0)])) rfl rfl (hb hby d2_12) _ z_) ?_
  show OWay p e below G T15 (mkF m 13 #[.val (.ref a0), .val (.int (12 : Int32)), .val (.int (0 : Int32)), .val (.int (2 : Int32)), .val (.int y13)] [(.int y14)])
  refine ogo (fun _ z_ => XS.istore X15.here hx rfl (hb hby d2_13) rfl (l' := #[.val (.ref a0), .val (.int (12 : Int32)), .val (.int (0 : Int32)), .val (.int (2 : Int32)), .val (.int y14)]) rfl z_) ?_
  show OWay p e below G T15 (mkF m 15 #[.val (.ref a0), .val (.int (12 : Int32)), .val (.int (0 : Int32)), .val (.int (2 : Int32)), .val (.int y14)] [])
  refine ogo (fun _ z_ => XS.aloadN X15.here hx rfl (hb hby d2_15) rfl rfl z_) ?_
  show OWay p e below G T15 (mkF m 16 #[.val (.ref a0), .val (.int (12 : Int32)), .val (.int (0 : Int32)), .val (.int (2 : Int32)), .val (.int y14)] [(.ref a0)])
  refine ogo (fun _ z_ => XS.iloadN X15.here hx rfl (hb hby d2_16) rfl z_) ?_
  show OWay p e below G T15 (mkF m 17 #[.val (.ref a0), .val (.int (12 : Int32)), .val (.int (0 : Int32)), .val (.int (2 : Int32)), .val (.int y14)] [(.int (12 : Int32)), (.ref a0)])
  refine ogo (fun _ z_ => XS.iloadN X15.here hx rfl (hb hby d2_17) rfl z_) ?_
  show OWay p e below G T15 (mkF m 18 #[.val (.ref a0), .val (.int (12 : Int32)), .val (.int (0 : Int32)), .val (.int (2 : Int32)), .val (.int y14)] [(.int (2 : Int32)), (.int (12 : Int32)), (.ref a0)])
  refine ogo (fun _ z_ => XS.iadd X15.here hx rfl (hb hby d2_18) rfl z_) ?_
  show OWay p e below G T15 (mkF m 19 #[.val (.ref a0), .val (.int (12 : Int32)), .val (.int (0 : Int32)), .val (.int (2 : Int32)), .val (.int y14)] [(.int ((12 : Int32) + (2 : Int32))), (.ref a0)])
  refine ogoE (g' := (mkF m 19 #[.val (.ref a0), .val (.int (12 : Int32)), .val (.int (0 : Int32)), .val (.int (2 : Int32)), .val (.int y14)] [(.int (14 : Int32)), (.ref a0)])) (by rw [show ((12 : Int32) + (2 : Int32)) = (14 : Int32) from by decide]) ?_
  refine ogo (fun _ z_ => XS.aloadN X15.here hx rfl (hb hby d2_19) rfl rfl z_) ?_
  show OWay p e below G T15 (mkF m 20 #[.val (.ref a0), .val (.int (12 : Int32)), .val (.int (0 : Int32)), .val (.int (2 : Int32)), .val (.int y14)] [(.ref a0), (.int (14 : Int32)), (.ref a0)])
  refine ogo (fun _ z_ => XS.iloadN X15.here hx rfl (hb hby d2_20) rfl z_) ?_
  show OWay p e below G T15 (mkF m 21 #[.val (.ref a0), .val (.int (12 : Int32)), .val (.int (0 : Int32)), .val (.int (2 : Int32)), .val (.int y14)] [(.int (0 : Int32)), (.ref a0), (.int (14 : Int32)), (.ref a0)])
  refine ogo (fun _ z_ => XS.iloadN X15.here hx rfl (hb hby d2_21) rfl z_) ?_
  show OWay p e below G T15 (mkF m 22 #[.val (.ref a0), .val (.int (12 : Int32)), .val (.int (0 : Int32)), .val (.int (2 : Int32)), .val (.int y14)] [(.int (2 : Int32)), (.int (0 : Int32)), (.ref a0), (.int (14 : Int32)), (.ref a0)])
  refine ogo (fun _ z_ => XS.iadd X15.here hx rfl (hb hby d2_22) rfl z_) ?_
  show OWay p e below G T15 (mkF m 23 #[.val (.ref a0), .val (.int (12 : Int32)), .val (.int (0 : Int32)), .val (.int (2 : Int32)), .val (.int y14)] [(.int ((0 : Int32) + (2 : Int32))), (.ref a0), (.int (14 : Int32)), (.ref a0)])
  refine ogoE (g' := (mkF m 23 #[.val (.ref a0), .val (.int (12 : Int32)), .val (.int (0 : Int32)), .val (.int (2 : Int32)), .val (.int y14)] [(.int (2 : Int32)), (.ref a0), (.int (14 : Int32)), (.ref a0)])) (by rw [show ((0 : Int32) + (2 : Int32)) = (2 : Int32) from by decide]) ?_
  obtain ⟨cl_o18, Ar_o18, q_o18, S_o18, N_o18, H_o18, G_o18⟩ := id V_15
  have hin_o18 : ¬ ((2 : Int32) < 0 ∨ cl_o18.slots.size ≤ ((2 : Int32)).toNatClampNeg) := inb_of S_o18 ⟨by decide, by decide⟩
  have hat_o18 : cl_o18.slots[((2 : Int32)).toNatClampNeg]? = some (.int y2) := H_o18.at hin_o18 rfl
  refine ogo (fun _ z_ => X15.iaload hx (j := (2 : Int32)) (v := (.int y2)) (by rw [eT15]; exact Ar_o18.1) (State.isArrayOf_alike hZ.alike Ar_o18.2.1) Ar_o18.2.2 hin_o18 hat_o18 (g := (mkF m 23 #[.val (.ref a0), .val (.int (12 : Int32)), .val (.int (0 : Int32)), .val (.int (2 : Int32)), .val (.int y14)] [(.int (2 : Int32)), (.ref a0), (.int (14 : Int32)), (.ref a0)])) rfl rfl (hb hby d2_23) _ z_) ?_
  show OWay p e below G T15 (mkF m 24 #[.val (.ref a0), .val (.int (12 : Int32)), .val (.int (0 : Int32)), .val (.int (2 : Int32)), .val (.int y14)] [(.int y2), (.int (14 : Int32)), (.ref a0)])
  obtain ⟨cl_o19, Ar_o19, q_o19, S_o19, N_o19, H_o19, G_o19⟩ := id V_15
  have hin_o19 : ¬ ((14 : Int32) < 0 ∨ cl_o19.slots.size ≤ ((14 : Int32)).toNatClampNeg) := inb_of S_o19 ⟨by decide, by decide⟩
  obtain ⟨T20, h20, X20, eT20, W20, st20⟩ := stI X15 hx hZ eT15 Ar_o19 (j := (14 : Int32)) hin_o19 (g := (mkF m 24 #[.val (.ref a0), .val (.int (12 : Int32)), .val (.int (0 : Int32)), .val (.int (2 : Int32)), .val (.int y14)] [(.int y2), (.int (14 : Int32)), (.ref a0)])) rfl rfl (hb hby d2_24)
  have K21 : Keep h0 h20 [a0] := K16.wr W20 (Or.inl (List.mem_of_getElem? (i := 0) rfl))
  have V_20 : Arv Z h20 a0 kk .int (18 : Int32) [(.int y12), (.int y13), (.int y2), (.int y3), (.int y4), (.int y5), (.int y6), (.int y7), (.int y8), (.int y9), (.int y10), (.int y11), (.int y0), (.int y1), (.int y2), (.int y15), (.int y16), (.int y17)] (.int (0 : Int32)) := Arv.set Ar_o19 q_o19 S_o19 N_o19 H_o19 G_o19 rfl W20 14 rfl (Nat.le_of_ble_eq_true rfl)
  have N20 := Fr.snoc X20 N15 g_a0
  refine ogo st20 ?_
  show OWay p e below G T20 (mkF m 25 #[.val (.ref a0), .val (.int (12 : Int32)), .val (.int (0 : Int32)), .val (.int (2 : Int32)), .val (.int y14)] [])
  refine ogo (fun _ z_ => XS.aloadN X20.here hx rfl (hb hby d2_25) rfl rfl z_) ?_
  show OWay p e below G T20 (mkF m 26 #[.val (.ref a0), .val (.int (12 : Int32)), .val (.int (0 : Int32)), .val (.int (2 : Int32)), .val (.int y14)] [(.ref a0)])
  refine ogo (fun _ z_ => XS.iloadN X20.here hx rfl (hb hby d2_26) rfl z_) ?_
  show OWay p e below G T20 (mkF m 27 #[.val (.ref a0), .val (.int (12 : Int32)), .val (.int (0 : Int32)), .val (.int (2 : Int32)), .val (.int y14)] [(.int (0 : Int32)), (.ref a0)])
  refine ogo (fun _ z_ => XS.iloadN X20.here hx rfl (hb hby d2_27) rfl z_) ?_
  show OWay p e below G T20 (mkF m 28 #[.val (.ref a0), .val (.int (12 : Int32)), .val (.int (0 : Int32)), .val (.int (2 : Int32)), .val (.int y14)] [(.int (2 : Int32)), (.int (0 : Int32)), (.ref a0)])
  refine ogo (fun _ z_ => XS.iadd X20.here hx rfl (hb hby d2_28) rfl z_) ?_
  show OWay p e below G T20 (mkF m 29 #[.val (.ref a0), .val (.int (12 : Int32)), .val (.int (0 : Int32)), .val (.int (2 : Int32)), .val (.int y14)] [(.int ((0 : Int32) + (2 : Int32))), (.ref a0)])
  refine ogoE (g' := (mkF m 29 #[.val (.ref a0), .val (.int (12 : Int32)), .val (.int (0 : Int32)), .val (.int (2 : Int32)), .val (.int y14)] [(.int (2 : Int32)), (.ref a0)])) (by rw [show ((0 : Int32) + (2 : Int32)) = (2 : Int32) from by decide]) ?_
  refine ogo (fun _ z_ => XS.iload X20.here hx rfl (hb hby d2_29) rfl z_) ?_
  show OWay p e below G T20 (mkF m 31 #[.val (.ref a0), .val (.int (12 : Int32)), .val (.int (0 : Int32)), .val (.int (2 : Int32)), .val (.int y14)] [(.int y14), (.int (2 : Int32)), (.ref a0)])
  obtain ⟨cl_o22, Ar_o22, q_o22, S_o22, N_o22, H_o22, G_o22⟩ := id V_20
  have hin_o22 : ¬ ((2 : Int32) < 0 ∨ cl_o22.slots.size ≤ ((2 : Int32)).toNatClampNeg) := inb_of S_o22 ⟨by decide, by decide⟩
  obtain ⟨T23, h23, X23, eT23, W23, st23⟩ := stI X20 hx hZ eT20 Ar_o22 (j := (2 : Int32)) hin_o22 (g := (mkF m 31 #[.val (.ref a0), .val (.int (12 : Int32)), .val (.int (0 : Int32)), .val (.int (2 : Int32)), .val (.int y14)] [(.int y14), (.int (2 : Int32)), (.ref a0)])) rfl rfl (hb hby d2_31)
  have K24 : Keep h0 h23 [a0] := K21.wr W23 (Or.inl (List.mem_of_getElem? (i := 0) rfl))
  have V_23 : Arv Z h23 a0 kk .int (18 : Int32) [(.int y12), (.int y13), (.int y14), (.int y3), (.int y4), (.int y5), (.int y6), (.int y7), (.int y8), (.int y9), (.int y10), (.int y11), (.int y0), (.int y1), (.int y2), (.int y15), (.int y16), (.int y17)] (.int (0 : Int32)) := Arv.set Ar_o22 q_o22 S_o22 N_o22 H_o22 G_o22 rfl W23 2 rfl (Nat.le_of_ble_eq_true rfl)
  have N23 := Fr.snoc X23 N20 g_a0
  refine ogo st23 ?_
  show OWay p e below G T23 (mkF m 32 #[.val (.ref a0), .val (.int (12 : Int32)), .val (.int (0 : Int32)), .val (.int (2 : Int32)), .val (.int y14)] [])
  refine ogo (fun _ z_ => XS.iinc X23.here hx rfl (hb hby d2_32) rfl (l' := #[.val (.ref a0), .val (.int (12 : Int32)), .val (.int (0 : Int32)), .val (.int ((2 : Int32) + (1 : Int32))), .val (.int y14)]) rfl z_) ?_
  show OWay p e below G T23 (mkF m 35 #[.val (.ref a0), .val (.int (12 : Int32)), .val (.int (0 : Int32)), .val (.int ((2 : Int32) + (1 : Int32))), .val (.int y14)] [])
  refine ogoE (g' := (mkF m 35 #[.val (.ref a0), .val (.int (12 : Int32)), .val (.int (0 : Int32)), .val (.int (3 : Int32)), .val (.int y14)] [])) (by rw [show ((2 : Int32) + (1 : Int32)) = (3 : Int32) from by decide]) ?_
  refine ogo (fun _ z_ => XS.goto X23.here hx rfl (pc0 := 35) (pc' := 2) rfl (hb hby d2_35) (by decide) (by decide) z_) ?_
  show OWay p e below G T23 (mkF m 2 #[.val (.ref a0), .val (.int (12 : Int32)), .val (.int (0 : Int32)), .val (.int (3 : Int32)), .val (.int y14)] [])
  refine ogo (fun _ z_ => XS.iloadN X23.here hx rfl (hb hby d2_2) rfl z_) ?_
  show OWay p e below G T23 (mkF m 3 #[.val (.ref a0), .val (.int (12 : Int32)), .val (.int (0 : Int32)), .val (.int (3 : Int32)), .val (.int y14)] [(.int (3 : Int32))])
  refine ogo (fun _ z_ => XS.bipush X23.here hx rfl (hb hby d2_3) z_) ?_
  show OWay p e below G T23 (mkF m 5 #[.val (.ref a0), .val (.int (12 : Int32)), .val (.int (0 : Int32)), .val (.int (3 : Int32)), .val (.int y14)] [(.int (6 : Int32)), (.int (3 : Int32))])
  refine ogo (fun _ z_ => XS.icmpNo X23.here hx rfl (hb hby d2_5) rfl (tlt (by decide)).2.1 z_) ?_
  show OWay p e below G T23 (mkF m 8 #[.val (.ref a0), .val (.int (12 : Int32)), .val (.int (0 : Int32)), .val (.int (3 : Int32)), .val (.int y14)] [])
  refine ogo (fun _ z_ => XS.aloadN X23.here hx rfl (hb hby d2_8) rfl rfl z_) ?_
  show OWay p e below G T23 (mkF m 9 #[.val (.ref a0), .val (.int (12 : Int32)), .val (.int (0 : Int32)), .val (.int (3 : Int32)), .val (.int y14)] [(.ref a0)])
  refine ogo (fun _ z_ => XS.iloadN X23.here hx rfl (hb hby d2_9) rfl z_) ?_
  show OWay p e below G T23 (mkF m 10 #[.val (.ref a0), .val (.int (12 : Int32)), .val (.int (0 : Int32)), .val (.int (3 : Int32)), .val (.int y14)] [(.int (12 : Int32)), (.ref a0)])
  refine ogo (fun _ z_ => XS.iloadN X23.here hx rfl (hb hby d2_10) rfl z_) ?_
  show OWay p e below G T23 (mkF m 11 #[.val (.ref a0), .val (.int (12 : Int32)), .val (.int (0 : Int32)), .val (.int (3 : Int32)), .val (.int y14)] [(.int (3 : Int32)), (.int (12 : Int32)), (.ref a0)])
  refine ogo (fun _ z_ => XS.iadd X23.here hx rfl (hb hby d2_11) rfl z_) ?_
  show OWay p e below G T23 (mkF m 12 #[.val (.ref a0), .val (.int (12 : Int32)), .val (.int (0 : Int32)), .val (.int (3 : Int32)), .val (.int y14)] [(.int ((12 : Int32) + (3 : Int32))), (.ref a0)])
  refine ogoE (g' := (mkF m 12 #[.val (.ref a0), .val (.int (12 : Int32)), .val (.int (0 : Int32)), .val (.int (3 : Int32)), .val (.int y14)] [(.int (15 : Int32)), (.ref a0)])) (by rw [show ((12 : Int32) + (3 : Int32)) = (15 : Int32) from by decide]) ?_
  obtain ⟨cl_o25, Ar_o25, q_o25, S_o25, N_o25, H_o25, G_o25⟩ := id V_23
  have hin_o25 : ¬ ((15 : Int32) < 0 ∨ cl_o25.slots.size ≤ ((15 : Int32)).toNatClampNeg) := inb_of S_o25 ⟨by decide, by decide⟩
  have hat_o25 : cl_o25.slots[((15 : Int32)).toNatClampNeg]? = some (.int y15) := H_o25.at hin_o25 rfl
  refine ogo (fun _ z_ => X23.iaload hx (j := (15 : Int32)) (v := (.int y15)) (by rw [eT23]; exact Ar_o25.1) (State.isArrayOf_alike hZ.alike Ar_o25.2.1) Ar_o25.2.2 hin_o25 hat_o25 (g := (mkF m 12 #[.val (.ref a0), .val (.int (12 : Int32)), .val (.int (0 : Int32)), .val (.int (3 : Int32)), .val (.int y14)] [(.int (15 : Int32)), (.ref a0)])) rfl rfl (hb hby d2_12) _ z_) ?_
  show OWay p e below G T23 (mkF m 13 #[.val (.ref a0), .val (.int (12 : Int32)), .val (.int (0 : Int32)), .val (.int (3 : Int32)), .val (.int y14)] [(.int y15)])
  refine ogo (fun _ z_ => XS.istore X23.here hx rfl (hb hby d2_13) rfl (l' := #[.val (.ref a0), .val (.int (12 : Int32)), .val (.int (0 : Int32)), .val (.int (3 : Int32)), .val (.int y15)]) rfl z_) ?_
  show OWay p e below G T23 (mkF m 15 #[.val (.ref a0), .val (.int (12 : Int32)), .val (.int (0 : Int32)), .val (.int (3 : Int32)), .val (.int y15)] [])
  refine ogo (fun _ z_ => XS.aloadN X23.here hx rfl (hb hby d2_15) rfl rfl z_) ?_
  show OWay p e below G T23 (mkF m 16 #[.val (.ref a0), .val (.int (12 : Int32)), .val (.int (0 : Int32)), .val (.int (3 : Int32)), .val (.int y15)] [(.ref a0)])
  refine ogo (fun _ z_ => XS.iloadN X23.here hx rfl (hb hby d2_16) rfl z_) ?_
  show OWay p e below G T23 (mkF m 17 #[.val (.ref a0), .val (.int (12 : Int32)), .val (.int (0 : Int32)), .val (.int (3 : Int32)), .val (.int y15)] [(.int (12 : Int32)), (.ref a0)])
  refine ogo (fun _ z_ => XS.iloadN X23.here hx rfl (hb hby d2_17) rfl z_) ?_
  show OWay p e below G T23 (mkF m 18 #[.val (.ref a0), .val (.int (12 : Int32)), .val (.int (0 : Int32)), .val (.int (3 : Int32)), .val (.int y15)] [(.int (3 : Int32)), (.int (12 : Int32)), (.ref a0)])
  refine ogo (fun _ z_ => XS.iadd X23.here hx rfl (hb hby d2_18) rfl z_) ?_
  show OWay p e below G T23 (mkF m 19 #[.val (.ref a0), .val (.int (12 : Int32)), .val (.int (0 : Int32)), .val (.int (3 : Int32)), .val (.int y15)] [(.int ((12 : Int32) + (3 : Int32))), (.ref a0)])
  refine ogoE (g' := (mkF m 19 #[.val (.ref a0), .val (.int (12 : Int32)), .val (.int (0 : Int32)), .val (.int (3 : Int32)), .val (.int y15)] [(.int (15 : Int32)), (.ref a0)])) (by rw [show ((12 : Int32) + (3 : Int32)) = (15 : Int32) from by decide]) ?_
  refine ogo (fun _ z_ => XS.aloadN X23.here hx rfl (hb hby d2_19) rfl rfl z_) ?_
  show OWay p e below G T23 (mkF m 20 #[.val (.ref a0), .val (.int (12 : Int32)), .val (.int (0 : Int32)), .val (.int (3 : Int32)), .val (.int y15)] [(.ref a0), (.int (15 : Int32)), (.ref a0)])
  refine ogo (fun _ z_ => XS.iloadN X23.here hx rfl (hb hby d2_20) rfl z_) ?_
  show OWay p e below G T23 (mkF m 21 #[.val (.ref a0), .val (.int (12 : Int32)), .val (.int (0 : Int32)), .val (.int (3 : Int32)), .val (.int y15)] [(.int (0 : Int32)), (.ref a0), (.int (15 : Int32)), (.ref a0)])
  refine ogo (fun _ z_ => XS.iloadN X23.here hx rfl (hb hby d2_21) rfl z_) ?_
  show OWay p e below G T23 (mkF m 22 #[.val (.ref a0), .val (.int (12 : Int32)), .val (.int (0 : Int32)), .val (.int (3 : Int32)), .val (.int y15)] [(.int (3 : Int32)), (.int (0 : Int32)), (.ref a0), (.int (15 : Int32)), (.ref a0)])
  refine ogo (fun _ z_ => XS.iadd X23.here hx rfl (hb hby d2_22) rfl z_) ?_
  show OWay p e below G T23 (mkF m 23 #[.val (.ref a0), .val (.int (12 : Int32)), .val (.int (0 : Int32)), .val (.int (3 : Int32)), .val (.int y15)] [(.int ((0 : Int32) + (3 : Int32))), (.ref a0), (.int (15 : Int32)), (.ref a0)])
  refine ogoE (g' := (mkF m 23 #[.val (.ref a0), .val (.int (12 : Int32)), .val (.int (0 : Int32)), .val (.int (3 : Int32)), .val (.int y15)] [(.int (3 : Int32)), (.ref a0), (.int (15 : Int32)), (.ref a0)])) (by rw [show ((0 : Int32) + (3 : Int32)) = (3 : Int32) from by decide]) ?_
  obtain ⟨cl_o26, Ar_o26, q_o26, S_o26, N_o26, H_o26, G_o26⟩ := id V_23
  have hin_o26 : ¬ ((3 : Int32) < 0 ∨ cl_o26.slots.size ≤ ((3 : Int32)).toNatClampNeg) := inb_of S_o26 ⟨by decide, by decide⟩
  have hat_o26 : cl_o26.slots[((3 : Int32)).toNatClampNeg]? = some (.int y3) := H_o26.at hin_o26 rfl
  refine ogo (fun _ z_ => X23.iaload hx (j := (3 : Int32)) (v := (.int y3)) (by rw [eT23]; exact Ar_o26.1) (State.isArrayOf_alike hZ.alike Ar_o26.2.1) Ar_o26.2.2 hin_o26 hat_o26 (g := (mkF m 23 #[.val (.ref a0), .val (.int (12 : Int32)), .val (.int (0 : Int32)), .val (.int (3 : Int32)), .val (.int y15)] [(.int (3 : Int32)), (.ref a0), (.int (15 : Int32)), (.ref a0)])) rfl rfl (hb hby d2_23) _ z_) ?_
  show OWay p e below G T23 (mkF m 24 #[.val (.ref a0), .val (.int (12 : Int32)), .val (.int (0 : Int32)), .val (.int (3 : Int32)), .val (.int y15)] [(.int y3), (.int (15 : Int32)), (.ref a0)])
  obtain ⟨cl_o27, Ar_o27, q_o27, S_o27, N_o27, H_o27, G_o27⟩ := id V_23
  have hin_o27 : ¬ ((15 : Int32) < 0 ∨ cl_o27.slots.size ≤ ((15 : Int32)).toNatClampNeg) := inb_of S_o27 ⟨by decide, by decide⟩
  obtain ⟨T28, h28, X28, eT28, W28, st28⟩ := stI X23 hx hZ eT23 Ar_o27 (j := (15 : Int32)) hin_o27 (g := (mkF m 24 #[.val (.ref a0), .val (.int (12 : Int32)), .val (.int (0 : Int32)), .val (.int (3 : Int32)), .val (.int y15)] [(.int y3), (.int (15 : Int32)), (.ref a0)])) rfl rfl (hb hby d2_24)
  have K29 : Keep h0 h28 [a0] := K24.wr W28 (Or.inl (List.mem_of_getElem? (i := 0) rfl))
  have V_28 : Arv Z h28 a0 kk .int (18 : Int32) [(.int y12), (.int y13), (.int y14), (.int y3), (.int y4), (.int y5), (.int y6), (.int y7), (.int y8), (.int y9), (.int y10), (.int y11), (.int y0), (.int y1), (.int y2), (.int y3), (.int y16), (.int y17)] (.int (0 : Int32)) := Arv.set Ar_o27 q_o27 S_o27 N_o27 H_o27 G_o27 rfl W28 15 rfl (Nat.le_of_ble_eq_true rfl)
  have N28 := Fr.snoc X28 N23 g_a0
  refine ogo st28 ?_
  show OWay p e below G T28 (mkF m 25 #[.val (.ref a0), .val (.int (12 : Int32)), .val (.int (0 : Int32)), .val (.int (3 : Int32)), .val (.int y15)] [])
  refine ogo (fun _ z_ => XS.aloadN X28.here hx rfl (hb hby d2_25) rfl rfl z_) ?_
  show OWay p e below G T28 (mkF m 26 #[.val (.ref a0), .val (.int (12 : Int32)), .val (.int (0 : Int32)), .val (.int (3 : Int32)), .val (.int y15)] [(.ref a0)])
  refine ogo (fun _ z_ => XS.iloadN X28.here hx rfl (hb hby d2_26) rfl z_) ?_
  show OWay p e below G T28 (mkF m 27 #[.val (.ref a0), .val (.int (12 : Int32)), .val (.int (0 : Int32)), .val (.int (3 : Int32)), .val (.int y15)] [(.int (0 : Int32)), (.ref a0)])
  refine ogo (fun _ z_ => XS.iloadN X28.here hx rfl (hb hby d2_27) rfl z_) ?_
  show OWay p e below G T28 (mkF m 28 #[.val (.ref a0), .val (.int (12 : Int32)), .val (.int (0 : Int32)), .val (.int (3 : Int32)), .val (.int y15)] [(.int (3 : Int32)), (.int (0 : Int32)), (.ref a0)])
  refine ogo (fun _ z_ => XS.iadd X28.here hx rfl (hb hby d2_28) rfl z_) ?_
  show OWay p e below G T28 (mkF m 29 #[.val (.ref a0), .val (.int (12 : Int32)), .val (.int (0 : Int32)), .val (.int (3 : Int32)), .val (.int y15)] [(.int ((0 : Int32) + (3 : Int32))), (.ref a0)])
  refine ogoE (g' := (mkF m 29 #[.val (.ref a0), .val (.int (12 : Int32)), .val (.int (0 : Int32)), .val (.int (3 : Int32)), .val (.int y15)] [(.int (3 : Int32)), (.ref a0)])) (by rw [show ((0 : Int32) + (3 : Int32)) = (3 : Int32) from by decide]) ?_
  refine ogo (fun _ z_ => XS.iload X28.here hx rfl (hb hby d2_29) rfl z_) ?_
  show OWay p e below G T28 (mkF m 31 #[.val (.ref a0), .val (.int (12 : Int32)), .val (.int (0 : Int32)), .val (.int (3 : Int32)), .val (.int y15)] [(.int y15), (.int (3 : Int32)), (.ref a0)])
  obtain ⟨cl_o30, Ar_o30, q_o30, S_o30, N_o30, H_o30, G_o30⟩ := id V_28
  have hin_o30 : ¬ ((3 : Int32) < 0 ∨ cl_o30.slots.size ≤ ((3 : Int32)).toNatClampNeg) := inb_of S_o30 ⟨by decide, by decide⟩
  obtain ⟨T31, h31, X31, eT31, W31, st31⟩ := stI X28 hx hZ eT28 Ar_o30 (j := (3 : Int32)) hin_o30 (g := (mkF m 31 #[.val (.ref a0), .val (.int (12 : Int32)), .val (.int (0 : Int32)), .val (.int (3 : Int32)), .val (.int y15)] [(.int y15), (.int (3 : Int32)), (.ref a0)])) rfl rfl (hb hby d2_31)
  have K32 : Keep h0 h31 [a0] := K29.wr W31 (Or.inl (List.mem_of_getElem? (i := 0) rfl))
  have V_31 : Arv Z h31 a0 kk .int (18 : Int32) [(.int y12), (.int y13), (.int y14), (.int y15), (.int y4), (.int y5), (.int y6), (.int y7), (.int y8), (.int y9), (.int y10), (.int y11), (.int y0), (.int y1), (.int y2), (.int y3), (.int y16), (.int y17)] (.int (0 : Int32)) := Arv.set Ar_o30 q_o30 S_o30 N_o30 H_o30 G_o30 rfl W31 3 rfl (Nat.le_of_ble_eq_true rfl)
  have N31 := Fr.snoc X31 N28 g_a0
  refine ogo st31 ?_
  show OWay p e below G T31 (mkF m 32 #[.val (.ref a0), .val (.int (12 : Int32)), .val (.int (0 : Int32)), .val (.int (3 : Int32)), .val (.int y15)] [])
  refine ogo (fun _ z_ => XS.iinc X31.here hx rfl (hb hby d2_32) rfl (l' := #[.val (.ref a0), .val (.int (12 : Int32)), .val (.int (0 : Int32)), .val (.int ((3 : Int32) + (1 : Int32))), .val (.int y15)]) rfl z_) ?_
  show OWay p e below G T31 (mkF m 35 #[.val (.ref a0), .val (.int (12 : Int32)), .val (.int (0 : Int32)), .val (.int ((3 : Int32) + (1 : Int32))), .val (.int y15)] [])
  refine ogoE (g' := (mkF m 35 #[.val (.ref a0), .val (.int (12 : Int32)), .val (.int (0 : Int32)), .val (.int (4 : Int32)), .val (.int y15)] [])) (by rw [show ((3 : Int32) + (1 : Int32)) = (4 : Int32) from by decide]) ?_
  refine ogo (fun _ z_ => XS.goto X31.here hx rfl (pc0 := 35) (pc' := 2) rfl (hb hby d2_35) (by decide) (by decide) z_) ?_
  show OWay p e below G T31 (mkF m 2 #[.val (.ref a0), .val (.int (12 : Int32)), .val (.int (0 : Int32)), .val (.int (4 : Int32)), .val (.int y15)] [])
  refine ogo (fun _ z_ => XS.iloadN X31.here hx rfl (hb hby d2_2) rfl z_) ?_
  show OWay p e below G T31 (mkF m 3 #[.val (.ref a0), .val (.int (12 : Int32)), .val (.int (0 : Int32)), .val (.int (4 : Int32)), .val (.int y15)] [(.int (4 : Int32))])
  refine ogo (fun _ z_ => XS.bipush X31.here hx rfl (hb hby d2_3) z_) ?_
  show OWay p e below G T31 (mkF m 5 #[.val (.ref a0), .val (.int (12 : Int32)), .val (.int (0 : Int32)), .val (.int (4 : Int32)), .val (.int y15)] [(.int (6 : Int32)), (.int (4 : Int32))])
  refine ogo (fun _ z_ => XS.icmpNo X31.here hx rfl (hb hby d2_5) rfl (tlt (by decide)).2.1 z_) ?_
  show OWay p e below G T31 (mkF m 8 #[.val (.ref a0), .val (.int (12 : Int32)), .val (.int (0 : Int32)), .val (.int (4 : Int32)), .val (.int y15)] [])
  refine ogo (fun _ z_ => XS.aloadN X31.here hx rfl (hb hby d2_8) rfl rfl z_) ?_
  show OWay p e below G T31 (mkF m 9 #[.val (.ref a0), .val (.int (12 : Int32)), .val (.int (0 : Int32)), .val (.int (4 : Int32)), .val (.int y15)] [(.ref a0)])
  refine ogo (fun _ z_ => XS.iloadN X31.here hx rfl (hb hby d2_9) rfl z_) ?_
  show OWay p e below G T31 (mkF m 10 #[.val (.ref a0), .val (.int (12 : Int32)), .val (.int (0 : Int32)), .val (.int (4 : Int32)), .val (.int y15)] [(.int (12 : Int32)), (.ref a0)])
  refine ogo (fun _ z_ => XS.iloadN X31.here hx rfl (hb hby d2_10) rfl z_) ?_
  show OWay p e below G T31 (mkF m 11 #[.val (.ref a0), .val (.int (12 : Int32)), .val (.int (0 : Int32)), .val (.int (4 : Int32)), .val (.int y15)] [(.int (4 : Int32)), (.int (12 : Int32)), (.ref a0)])
  refine ogo (fun _ z_ => XS.iadd X31.here hx rfl (hb hby d2_11) rfl z_) ?_
  show OWay p e below G T31 (mkF m 12 #[.val (.ref a0), .val (.int (12 : Int32)), .val (.int (0 : Int32)), .val (.int (4 : Int32)), .val (.int y15)] [(.int ((12 : Int32) + (4 : Int32))), (.ref a0)])
  refine ogoE (g' := (mkF m 12 #[.val (.ref a0), .val (.int (12 : Int32)), .val (.int (0 : Int32)), .val (.int (4 : Int32)), .val (.int y15)] [(.int (16 : Int32)), (.ref a0)])) (by rw [show ((12 : Int32) + (4 : Int32)) = (16 : Int32) from by decide]) ?_
  obtain ⟨cl_o33, Ar_o33, q_o33, S_o33, N_o33, H_o33, G_o33⟩ := id V_31
  have hin_o33 : ¬ ((16 : Int32) < 0 ∨ cl_o33.slots.size ≤ ((16 : Int32)).toNatClampNeg) := inb_of S_o33 ⟨by decide, by decide⟩
  have hat_o33 : cl_o33.slots[((16 : Int32)).toNatClampNeg]? = some (.int y16) := H_o33.at hin_o33 rfl
  refine ogo (fun _ z_ => X31.iaload hx (j := (16 : Int32)) (v := (.int y16)) (by rw [eT31]; exact Ar_o33.1) (State.isArrayOf_alike hZ.alike Ar_o33.2.1) Ar_o33.2.2 hin_o33 hat_o33 (g := (mkF m 12 #[.val (.ref a0), .val (.int (12 : Int32)), .val (.int (0 : Int32)), .val (.int (4 : Int32)), .val (.int y15)] [(.int (16 : Int32)), (.ref a0)])) rfl rfl (hb hby d2_12) _ z_) ?_
  show OWay p e below G T31 (mkF m 13 #[.val (.ref a0), .val (.int (12 : Int32)), .val (.int (0 : Int32)), .val (.int (4 : Int32)), .val (.int y15)] [(.int y16)])
  refine ogo (fun _ z_ => XS.istore X31.here hx rfl (hb hby d2_13) rfl (l' := #[.val (.ref a0), .val (.int (12 : Int32)), .val (.int (0 : Int32)), .val (.int (4 : Int32)), .val (.int y16)]) rfl z_) ?_
  show OWay p e below G T31 (mkF m 15 #[.val (.ref a0), .val (.int (12 : Int32)), .val (.int (0 : Int32)), .val (.int (4 : Int32)), .val (.int y16)] [])
  refine ogo (fun _ z_ => XS.aloadN X31.here hx rfl (hb hby d2_15) rfl rfl z_) ?_
  show OWay p e below G T31 (mkF m 16 #[.val (.ref a0), .val (.int (12 : Int32)), .val (.int (0 : Int32)), .val (.int (4 : Int32)), .val (.int y16)] [(.ref a0)])
  refine ogo (fun _ z_ => XS.iloadN X31.here hx rfl (hb hby d2_16) rfl z_) ?_
  show OWay p e below G T31 (mkF m 17 #[.val (.ref a0), .val (.int (12 : Int32)), .val (.int (0 : Int32)), .val (.int (4 : Int32)), .val (.int y16)] [(.int (12 : Int32)), (.ref a0)])
  refine ogo (fun _ z_ => XS.iloadN X31.here hx rfl (hb hby d2_17) rfl z_) ?_
  show OWay p e below G T31 (mkF m 18 #[.val (.ref a0), .val (.int (12 : Int32)), .val (.int (0 : Int32)), .val (.int (4 : Int32)), .val (.int y16)] [(.int (4 : Int32)), (.int (12 : Int32)), (.ref a0)])
  refine ogo (fun _ z_ => XS.iadd X31.here hx rfl (hb hby d2_18) rfl z_) ?_
  show OWay p e below G T31 (mkF m 19 #[.val (.ref a0), .val (.int (12 : Int32)), .val (.int (0 : Int32)), .val (.int (4 : Int32)), .val (.int y16)] [(.int ((12 : Int32) + (4 : Int32))), (.ref a0)])
  refine ogoE (g' := (mkF m 19 #[.val (.ref a0), .val (.int (12 : Int32)), .val (.int (0 : Int32)), .val (.int (4 : Int32)), .val (.int y16)] [(.int (16 : Int32)), (.ref a0)])) (by rw [show ((12 : Int32) + (4 : Int32)) = (16 : Int32) from by decide]) ?_
  refine ogo (fun _ z_ => XS.aloadN X31.here hx rfl (hb hby d2_19) rfl rfl z_) ?_
  show OWay p e below G T31 (mkF m 20 #[.val (.ref a0), .val (.int (12 : Int32)), .val (.int (0 : Int32)), .val (.int (4 : Int32)), .val (.int y16)] [(.ref a0), (.int (16 : Int32)), (.ref a0)])
  refine ogo (fun _ z_ => XS.iloadN X31.here hx rfl (hb hby d2_20) rfl z_) ?_
  show OWay p e below G T31 (mkF m 21 #[.val (.ref a0), .val (.int (12 : Int32)), .val (.int (0 : Int32)), .val (.int (4 : Int32)), .val (.int y16)] [(.int (0 : Int32)), (.ref a0), (.int (16 : Int32)), (.ref a0)])
  refine ogo (fun _ z_ => XS.iloadN X31.here hx rfl (hb hby d2_21) rfl z_) ?_
  show OWay p e below G T31 (mkF m 22 #[.val (.ref a0), .val (.int (12 : Int32)), .val (.int (0 : Int32)), .val (.int (4 : Int32)), .val (.int y16)] [(.int (4 : Int32)), (.int (0 : Int32)), (.ref a0), (.int (16 : Int32)), (.ref a0)])
  refine ogo (fun _ z_ => XS.iadd X31.here hx rfl (hb hby d2_22) rfl z_) ?_
  show OWay p e below G T31 (mkF m 23 #[.val (.ref a0), .val (.int (12 : Int32)), .val (.int (0 : Int32)), .val (.int (4 : Int32)), .val (.int y16)] [(.int ((0 : Int32) + (4 : Int32))), (.ref a0), (.int (16 : Int32)), (.ref a0)])
  refine ogoE (g' := (mkF m 23 #[.val (.ref a0), .val (.int (12 : Int32)), .val (.int (0 : Int32)), .val (.int (4 : Int32)), .val (.int y16)] [(.int (4 : Int32)), (.ref a0), (.int (16 : Int32)), (.ref a0)])) (by rw [show ((0 : Int32) + (4 : Int32)) = (4 : Int32) from by decide]) ?_
  obtain ⟨cl_o34, Ar_o34, q_o34, S_o34, N_o34, H_o34, G_o34⟩ := id V_31
  have hin_o34 : ¬ ((4 : Int32) < 0 ∨ cl_o34.slots.size ≤ ((4 : Int32)).toNatClampNeg) := inb_of S_o34 ⟨by decide, by decide⟩
  have hat_o34 : cl_o34.slots[((4 : Int32)).toNatClampNeg]? = some (.int y4) := H_o34.at hin_o34 rfl
  refine ogo (fun _ z_ => X31.iaload hx (j := (4 : Int32)) (v := (.int y4)) (by rw [eT31]; exact Ar_o34.1) (State.isArrayOf_alike hZ.alike Ar_o34.2.1) Ar_o34.2.2 hin_o34 hat_o34 (g := (mkF m 23 #[.val (.ref a0), .val (.int (12 : Int32)), .val (.int (0 : Int32)), .val (.int (4 : Int32)), .val (.int y16)] [(.int (4 : Int32)), (.ref a0), (.int (16 : Int32)), (.ref a0)])) rfl rfl (hb hby d2_23) _ z_) ?_
  show OWay p e below G T31 (mkF m 24 #[.val (.ref a0), .val (.int (12 : Int32)), .val (.int (0 : Int32)), .val (.int (4 : Int32)), .val (.int y16)] [(.int y4), (.int (16 : Int32)), (.ref a0)])
  obtain ⟨cl_o35, Ar_o35, q_o35, S_o35, N_o35, H_o35, G_o35⟩ := id V_31
  have hin_o35 : ¬ ((16 : Int32) < 0 ∨ cl_o35.slots.size ≤ ((16 : Int32)).toNatClampNeg) := inb_of S_o35 ⟨by decide, by decide⟩
  obtain ⟨T36, h36, X36, eT36, W36, st36⟩ := stI X31 hx hZ eT31 Ar_o35 (j := (16 : Int32)) hin_o35 (g := (mkF m 24 #[.val (.ref a0), .val (.int (12 : Int32)), .val (.int (0 : Int32)), .val (.int (4 : Int32)), .val (.int y16)] [(.int y4), (.int (16 : Int32)), (.ref a0)])) rfl rfl (hb hby d2_24)
  have K37 : Keep h0 h36 [a0] := K32.wr W36 (Or.inl (List.mem_of_getElem? (i := 0) rfl))
  have V_36 : Arv Z h36 a0 kk .int (18 : Int32) [(.int y12), (.int y13), (.int y14), (.int y15), (.int y4), (.int y5), (.int y6), (.int y7), (.int y8), (.int y9), (.int y10), (.int y11), (.int y0), (.int y1), (.int y2), (.int y3), (.int y4), (.int y17)] (.int (0 : Int32)) := Arv.set Ar_o35 q_o35 S_o35 N_o35 H_o35 G_o35 rfl W36 16 rfl (Nat.le_of_ble_eq_true rfl)
  have N36 := Fr.snoc X36 N31 g_a0
  refine ogo st36 ?_
  show OWay p e below G T36 (mkF m 25 #[.val (.ref a0), .val (.int (12 : Int32)), .val (.int (0 : Int32)), .val (.int (4 : Int32)), .val (.int y16)] [])
  refine ogo (fun _ z_ => XS.aloadN X36.here hx rfl (hb hby d2_25) rfl rfl z_) ?_
  show OWay p e below G T36 (mkF m 26 #[.val (.ref a0), .val (.int (12 : Int32)), .val (.int (0 : Int32)), .val (.int (4 : Int32)), .val (.int y16)] [(.ref a0)])
  refine ogo (fun _ z_ => XS.iloadN X36.here hx rfl (hb hby d2_26) rfl z_) ?_
  show OWay p e below G T36 (mkF m 27 #[.val (.ref a0), .val (.int (12 : Int32)), .val (.int (0 : Int32)), .val (.int (4 : Int32)), .val (.int y16)] [(.int (0 : Int32)), (.ref a0)])
  refine ogo (fun _ z_ => XS.iloadN X36.here hx rfl (hb hby d2_27) rfl z_) ?_
  show OWay p e below G T36 (mkF m 28 #[.val (.ref a0), .val (.int (12 : Int32)), .val (.int (0 : Int32)), .val (.int (4 : Int32)), .val (.int y16)] [(.int (4 : Int32)), (.int (0 : Int32)), (.ref a0)])
  refine ogo (fun _ z_ => XS.iadd X36.here hx rfl (hb hby d2_28) rfl z_) ?_
  show OWay p e below G T36 (mkF m 29 #[.val (.ref a0), .val (.int (12 : Int32)), .val (.int (0 : Int32)), .val (.int (4 : Int32)), .val (.int y16)] [(.int ((0 : Int32) + (4 : Int32))), (.ref a0)])
  refine ogoE (g' := (mkF m 29 #[.val (.ref a0), .val (.int (12 : Int32)), .val (.int (0 : Int32)), .val (.int (4 : Int32)), .val (.int y16)] [(.int (4 : Int32)), (.ref a0)])) (by rw [show ((0 : Int32) + (4 : Int32)) = (4 : Int32) from by decide]) ?_
  refine ogo (fun _ z_ => XS.iload X36.here hx rfl (hb hby d2_29) rfl z_) ?_
  show OWay p e below G T36 (mkF m 31 #[.val (.ref a0), .val (.int (12 : Int32)), .val (.int (0 : Int32)), .val (.int (4 : Int32)), .val (.int y16)] [(.int y16), (.int (4 : Int32)), (.ref a0)])
  obtain ⟨cl_o38, Ar_o38, q_o38, S_o38, N_o38, H_o38, G_o38⟩ := id V_36
  have hin_o38 : ¬ ((4 : Int32) < 0 ∨ cl_o38.slots.size ≤ ((4 : Int32)).toNatClampNeg) := inb_of S_o38 ⟨by decide, by decide⟩
  obtain ⟨T39, h39, X39, eT39, W39, st39⟩ := stI X36 hx hZ eT36 Ar_o38 (j := (4 : Int32)) hin_o38 (g := (mkF m 31 #[.val (.ref a0), .val (.int (12 : Int32)), .val (.int (0 : Int32)), .val (.int (4 : Int32)), .val (.int y16)] [(.int y16), (.int (4 : Int32)), (.ref a0)])) rfl rfl (hb hby d2_31)
  have K40 : Keep h0 h39 [a0] := K37.wr W39 (Or.inl (List.mem_of_getElem? (i := 0) rfl))
  have V_39 : Arv Z h39 a0 kk .int (18 : Int32) [(.int y12), (.int y13), (.int y14), (.int y15), (.int y16), (.int y5), (.int y6), (.int y7), (.int y8), (.int y9), (.int y10), (.int y11), (.int y0), (.int y1), (.int y2), (.int y3), (.int y4), (.int y17)] (.int (0 : Int32)) := Arv.set Ar_o38 q_o38 S_o38 N_o38 H_o38 G_o38 rfl W39 4 rfl (Nat.le_of_ble_eq_true rfl)
  have N39 := Fr.snoc X39 N36 g_a0
  refine ogo st39 ?_
  show OWay p e below G T39 (mkF m 32 #[.val (.ref a0), .val (.int (12 : Int32)), .val (.int (0 : Int32)), .val (.int (4 : Int32)), .val (.int y16)] [])
  refine ogo (fun _ z_ => XS.iinc X39.here hx rfl (hb hby d2_32) rfl (l' := #[.val (.ref a0), .val (.int (12 : Int32)), .val (.int (0 : Int32)), .val (.int ((4 : Int32) + (1 : Int32))), .val (.int y16)]) rfl z_) ?_
  show OWay p e below G T39 (mkF m 35 #[.val (.ref a0), .val (.int (12 : Int32)), .val (.int (0 : Int32)), .val (.int ((4 : Int32) + (1 : Int32))), .val (.int y16)] [])
  refine ogoE (g' := (mkF m 35 #[.val (.ref a0), .val (.int (12 : Int32)), .val (.int (0 : Int32)), .val (.int (5 : Int32)), .val (.int y16)] [])) (by rw [show ((4 : Int32) + (1 : Int32)) = (5 : Int32) from by decide]) ?_
  refine ogo (fun _ z_ => XS.goto X39.here hx rfl (pc0 := 35) (pc' := 2) rfl (hb hby d2_35) (by decide) (by decide) z_) ?_
  show OWay p e below G T39 (mkF m 2 #[.val (.ref a0), .val (.int (12 : Int32)), .val (.int (0 : Int32)), .val (.int (5 : Int32)), .val (.int y16)] [])
  refine ogo (fun _ z_ => XS.iloadN X39.here hx rfl (hb hby d2_2) rfl z_) ?_
  show OWay p e below G T39 (mkF m 3 #[.val (.ref a0), .val (.int (12 : Int32)), .val (.int (0 : Int32)), .val (.int (5 : Int32)), .val (.int y16)] [(.int (5 : Int32))])
  refine ogo (fun _ z_ => XS.bipush X39.here hx rfl (hb hby d2_3) z_) ?_
  show OWay p e below G T39 (mkF m 5 #[.val (.ref a0), .val (.int (12 : Int32)), .val (.int (0 : Int32)), .val (.int (5 : Int32)), .val (.int y16)] [(.int (6 : Int32)), (.int (5 : Int32))])
  refine ogo (fun _ z_ => XS.icmpNo X39.here hx rfl (hb hby d2_5) rfl (tlt (by decide)).2.1 z_) ?_
  show OWay p e below G T39 (mkF m 8 #[.val (.ref a0), .val (.int (12 : Int32)), .val (.int (0 : Int32)), .val (.int (5 : Int32)), .val (.int y16)] [])
  refine ogo (fun _ z_ => XS.aloadN X39.here hx rfl (hb hby d2_8) rfl rfl z_) ?_
  show OWay p e below G T39 (mkF m 9 #[.val (.ref a0), .val (.int (12 : Int32)), .val (.int (0 : Int32)), .val (.int (5 : Int32)), .val (.int y16)] [(.ref a0)])
  refine ogo (fun _ z_ => XS.iloadN X39.here hx rfl (hb hby d2_9) rfl z_) ?_
  show OWay p e below G T39 (mkF m 10 #[.val (.ref a0), .val (.int (12 : Int32)), .val (.int (0 : Int32)), .val (.int (5 : Int32)), .val (.int y16)] [(.int (12 : Int32)), (.ref a0)])
  refine ogo (fun _ z_ => XS.iloadN X39.here hx rfl (hb hby d2_10) rfl z_) ?_
  show OWay p e below G T39 (mkF m 11 #[.val (.ref a0), .val (.int (12 : Int32)), .val (.int (0 : Int32)), .val (.int (5 : Int32)), .val (.int y16)] [(.int (5 : Int32)), (.int (12 : Int32)), (.ref a0)])
  refine ogo (fun _ z_ => XS.iadd X39.here hx rfl (hb hby d2_11) rfl z_) ?_
  show OWay p e below G T39 (mkF m 12 #[.val (.ref a0), .val (.int (12 : Int32)), .val (.int (0 : Int32)), .val (.int (5 : Int32)), .val (.int y16)] [(.int ((12 : Int32) + (5 : Int32))), (.ref a0)])
  refine ogoE (g' := (mkF m 12 #[.val (.ref a0), .val (.int (12 : Int32)), .val (.int (0 : Int32)), .val (.int (5 : Int32)), .val (.int y16)] [(.int (17 : Int32)), (.ref a0)])) (by rw [show ((12 : Int32) + (5 : Int32)) = (17 : Int32) from by decide]) ?_
  obtain ⟨cl_o41, Ar_o41, q_o41, S_o41, N_o41, H_o41, G_o41⟩ := id V_39
  have hin_o41 : ¬ ((17 : Int32) < 0 ∨ cl_o41.slots.size ≤ ((17 : Int32)).toNatClampNeg) := inb_of S_o41 ⟨by decide, by decide⟩
  have hat_o41 : cl_o41.slots[((17 : Int32)).toNatClampNeg]? = some (.int y17) := H_o41.at hin_o41 rfl
  refine ogo (fun _ z_ => X39.iaload hx (j := (17 : Int32)) (v := (.int y17)) (by rw [eT39]; exact Ar_o41.1) (State.isArrayOf_alike hZ.alike Ar_o41.2.1) Ar_o41.2.2 hin_o41 hat_o41 (g := (mkF m 12 #[.val (.ref a0), .val (.int (12 : Int32)), .val (.int (0 : Int32)), .val (.int (5 : Int32)), .val (.int y16)] [(.int (17 : Int32)), (.ref a0)])) rfl rfl (hb hby d2_12) _ z_) ?_
  show OWay p e below G T39 (mkF m 13 #[.val (.ref a0), .val (.int (12 : Int32)), .val (.int (0 : Int32)), .val (.int (5 : Int32)), .val (.int y16)] [(.int y17)])
  refine ogo (fun _ z_ => XS.istore X39.here hx rfl (hb hby d2_13) rfl (l' := #[.val (.ref a0), .val (.int (12 : Int32)), .val (.int (0 : Int32)), .val (.int (5 : Int32)), .val (.int y17)]) rfl z_) ?_
  show OWay p e below G T39 (mkF m 15 #[.val (.ref a0), .val (.int (12 : Int32)), .val (.int (0 : Int32)), .val (.int (5 : Int32)), .val (.int y17)] [])
  refine ogo (fun _ z_ => XS.aloadN X39.here hx rfl (hb hby d2_15) rfl rfl z_) ?_
  show OWay p e below G T39 (mkF m 16 #[.val (.ref a0), .val (.int (12 : Int32)), .val (.int (0 : Int32)), .val (.int (5 : Int32)), .val (.int y17)] [(.ref a0)])
  refine ogo (fun _ z_ => XS.iloadN X39.here hx rfl (hb hby d2_16) rfl z_) ?_
  show OWay p e below G T39 (mkF m 17 #[.val (.ref a0), .val (.int (12 : Int32)), .val (.int (0 : Int32)), .val (.int (5 : Int32)), .val (.int y17)] [(.int (12 : Int32)), (.ref a0)])
  refine ogo (fun _ z_ => XS.iloadN X39.here hx rfl (hb hby d2_17) rfl z_) ?_
  show OWay p e below G T39 (mkF m 18 #[.val (.ref a0), .val (.int (12 : Int32)), .val (.int (0 : Int32)), .val (.int (5 : Int32)), .val (.int y17)] [(.int (5 : Int32)), (.int (12 : Int32)), (.ref a0)])
  refine ogo (fun _ z_ => XS.iadd X39.here hx rfl (hb hby d2_18) rfl z_) ?_
  show OWay p e below G T39 (mkF m 19 #[.val (.ref a0), .val (.int (12 : Int32)), .val (.int (0 : Int32)), .val (.int (5 : Int32)), .val (.int y17)] [(.int ((12 : Int32) + (5 : Int32))), (.ref a0)])
  refine ogoE (g' := (mkF m 19 #[.val (.ref a0), .val (.int (12 : Int32)), .val (.int (0 : Int32)), .val (.int (5 : Int32)), .val (.int y17)] [(.int (17 : Int32)), (.ref a0)])) (by rw [show ((12 : Int32) + (5 : Int32)) = (17 : Int32) from by decide]) ?_
  refine ogo (fun _ z_ => XS.aloadN X39.here hx rfl (hb hby d2_19) rfl rfl z_) ?_
  show OWay p e below G T39 (mkF m 20 #[.val (.ref a0), .val (.int (12 : Int32)), .val (.int (0 : Int32)), .val (.int (5 : Int32)), .val (.int y17)] [(.ref a0), (.int (17 : Int32)), (.ref a0)])
  refine ogo (fun _ z_ => XS.iloadN X39.here hx rfl (hb hby d2_20) rfl z_) ?_
  show OWay p e below G T39 (mkF m 21 #[.val (.ref a0), .val (.int (12 : Int32)), .val (.int (0 : Int32)), .val (.int (5 : Int32)), .val (.int y17)] [(.int (0 : Int32)), (.ref a0), (.int (17 : Int32)), (.ref a0)])
  refine ogo (fun _ z_ => XS.iloadN X39.here hx rfl (hb hby d2_21) rfl z_) ?_
  show OWay p e below G T39 (mkF m 22 #[.val (.ref a0), .val (.int (12 : Int32)), .val (.int (0 : Int32)), .val (.int (5 : Int32)), .val (.int y17)] [(.int (5 : Int32)), (.int (0 : Int32)), (.ref a0), (.int (17 : Int32)), (.ref a0)])
  refine ogo (fun _ z_ => XS.iadd X39.here hx rfl (hb hby d2_22) rfl z_) ?_
  show OWay p e below G T39 (mkF m 23 #[.val (.ref a0), .val (.int (12 : Int32)), .val (.int (0 : Int32)), .val (.int (5 : Int32)), .val (.int y17)] [(.int ((0 : Int32) + (5 : Int32))), (.ref a0), (.int (17 : Int32)), (.ref a0)])
  refine ogoE (g' := (mkF m 23 #[.val (.ref a0), .val (.int (12 : Int32)), .val (.int (0 : Int32)), .val (.int (5 : Int32)), .val (.int y17)] [(.int (5 : Int32)), (.ref a0), (.int (17 : Int32)), (.ref a0)])) (by rw [show ((0 : Int32) + (5 : Int32)) = (5 : Int32) from by decide]) ?_
  obtain ⟨cl_o42, Ar_o42, q_o42, S_o42, N_o42, H_o42, G_o42⟩ := id V_39
  have hin_o42 : ¬ ((5 : Int32) < 0 ∨ cl_o42.slots.size ≤ ((5 : Int32)).toNatClampNeg) := inb_of S_o42 ⟨by decide, by decide⟩
  have hat_o42 : cl_o42.slots[((5 : Int32)).toNatClampNeg]? = some (.int y5) := H_o42.at hin_o42 rfl
  refine ogo (fun _ z_ => X39.iaload hx (j := (5 : Int32)) (v := (.int y5)) (by rw [eT39]; exact Ar_o42.1) (State.isArrayOf_alike hZ.alike Ar_o42.2.1) Ar_o42.2.2 hin_o42 hat_o42 (g := (mkF m 23 #[.val (.ref a0), .val (.int (12 : Int32)), .val (.int (0 : Int32)), .val (.int (5 : Int32)), .val (.int y17)] [(.int (5 : Int32)), (.ref a0), (.int (17 : Int32)), (.ref a0)])) rfl rfl (hb hby d2_23) _ z_) ?_
  show OWay p e below G T39 (mkF m 24 #[.val (.ref a0), .val (.int (12 : Int32)), .val (.int (0 : Int32)), .val (.int (5 : Int32)), .val (.int y17)] [(.int y5), (.int (17 : Int32)), (.ref a0)])
  obtain ⟨cl_o43, Ar_o43, q_o43, S_o43, N_o43, H_o43, G_o43⟩ := id V_39
  have hin_o43 : ¬ ((17 : Int32) < 0 ∨ cl_o43.slots.size ≤ ((17 : Int32)).toNatClampNeg) := inb_of S_o43 ⟨by decide, by decide⟩
  obtain ⟨T44, h44, X44, eT44, W44, st44⟩ := stI X39 hx hZ eT39 Ar_o43 (j := (17 : Int32)) hin_o43 (g := (mkF m 24 #[.val (.ref a0), .val (.int (12 : Int32)), .val (.int (0 : Int32)), .val (.int (5 : Int32)), .val (.int y17)] [(.int y5), (.int (17 : Int32)), (.ref a0)])) rfl rfl (hb hby d2_24)
  have K45 : Keep h0 h44 [a0] := K40.wr W44 (Or.inl (List.mem_of_getElem? (i := 0) rfl))
  have V_44 : Arv Z h44 a0 kk .int (18 : Int32) [(.int y12), (.int y13), (.int y14), (.int y15), (.int y16), (.int y5), (.int y6), (.int y7), (.int y8), (.int y9), (.int y10), (.int y11), (.int y0), (.int y1), (.int y2), (.int y3), (.int y4), (.int y5)] (.int (0 : Int32)) := Arv.set Ar_o43 q_o43 S_o43 N_o43 H_o43 G_o43 rfl W44 17 rfl (Nat.le_of_ble_eq_true rfl)
  have N44 := Fr.snoc X44 N39 g_a0
  refine ogo st44 ?_
  show OWay p e below G T44 (mkF m 25 #[.val (.ref a0), .val (.int (12 : Int32)), .val (.int (0 : Int32)), .val (.int (5 : Int32)), .val (.int y17)] [])
  refine ogo (fun _ z_ => XS.aloadN X44.here hx rfl (hb hby d2_25) rfl rfl z_) ?_
  show OWay p e below G T44 (mkF m 26 #[.val (.ref a0), .val (.int (12 : Int32)), .val (.int (0 : Int32)), .val (.int (5 : Int32)), .val (.int y17)] [(.ref a0)])
  refine ogo (fun _ z_ => XS.iloadN X44.here hx rfl (hb hby d2_26) rfl z_) ?_
  show OWay p e below G T44 (mkF m 27 #[.val (.ref a0), .val (.int (12 : Int32)), .val (.int (0 : Int32)), .val (.int (5 : Int32)), .val (.int y17)] [(.int (0 : Int32)), (.ref a0)])
  refine ogo (fun _ z_ => XS.iloadN X44.here hx rfl (hb hby d2_27) rfl z_) ?_
  show OWay p e below G T44 (mkF m 28 #[.val (.ref a0), .val (.int (12 : Int32)), .val (.int (0 : Int32)), .val (.int (5 : Int32)), .val (.int y17)] [(.int (5 : Int32)), (.int (0 : Int32)), (.ref a0)])
  refine ogo (fun _ z_ => XS.iadd X44.here hx rfl (hb hby d2_28) rfl z_) ?_
  show OWay p e below G T44 (mkF m 29 #[.val (.ref a0), .val (.int (12 : Int32)), .val (.int (0 : Int32)), .val (.int (5 : Int32)), .val (.int y17)] [(.int ((0 : Int32) + (5 : Int32))), (.ref a0)])
  refine ogoE (g' := (mkF m 29 #[.val (.ref a0), .val (.int (12 : Int32)), .val (.int (0 : Int32)), .val (.int (5 : Int32)), .val (.int y17)] [(.int (5 : Int32)), (.ref a0)])) (by rw [show ((0 : Int32) + (5 : Int32)) = (5 : Int32) from by decide]) ?_
  refine ogo (fun _ z_ => XS.iload X44.here hx rfl (hb hby d2_29) rfl z_) ?_
  show OWay p e below G T44 (mkF m 31 #[.val (.ref a0), .val (.int (12 : Int32)), .val (.int (0 : Int32)), .val (.int (5 : Int32)), .val (.int y17)] [(.int y17), (.int (5 : Int32)), (.ref a0)])
  obtain ⟨cl_o46, Ar_o46, q_o46, S_o46, N_o46, H_o46, G_o46⟩ := id V_44
  have hin_o46 : ¬ ((5 : Int32) < 0 ∨ cl_o46.slots.size ≤ ((5 : Int32)).toNatClampNeg) := inb_of S_o46 ⟨by decide, by decide⟩
  obtain ⟨T47, h47, X47, eT47, W47, st47⟩ := stI X44 hx hZ eT44 Ar_o46 (j := (5 : Int32)) hin_o46 (g := (mkF m 31 #[.val (.ref a0), .val (.int (12 : Int32)), .val (.int (0 : Int32)), .val (.int (5 : Int32)), .val (.int y17)] [(.int y17), (.int (5 : Int32)), (.ref a0)])) rfl rfl (hb hby d2_31)
  have K48 : Keep h0 h47 [a0] := K45.wr W47 (Or.inl (List.mem_of_getElem? (i := 0) rfl))
  have V_47 : Arv Z h47 a0 kk .int (18 : Int32) [(.int y12), (.int y13), (.int y14), (.int y15), (.int y16), (.int y17), (.int y6), (.int y7), (.int y8), (.int y9), (.int y10), (.int y11), (.int y0), (.int y1), (.int y2), (.int y3), (.int y4), (.int y5)] (.int (0 : Int32)) := Arv.set Ar_o46 q_o46 S_o46 N_o46 H_o46 G_o46 rfl W47 5 rfl (Nat.le_of_ble_eq_true rfl)
  have N47 := Fr.snoc X47 N44 g_a0
  refine ogo st47 ?_
  show OWay p e below G T47 (mkF m 32 #[.val (.ref a0), .val (.int (12 : Int32)), .val (.int (0 : Int32)), .val (.int (5 : Int32)), .val (.int y17)] [])
  refine ogo (fun _ z_ => XS.iinc X47.here hx rfl (hb hby d2_32) rfl (l' := #[.val (.ref a0), .val (.int (12 : Int32)), .val (.int (0 : Int32)), .val (.int ((5 : Int32) + (1 : Int32))), .val (.int y17)]) rfl z_) ?_
  show OWay p e below G T47 (mkF m 35 #[.val (.ref a0), .val (.int (12 : Int32)), .val (.int (0 : Int32)), .val (.int ((5 : Int32) + (1 : Int32))), .val (.int y17)] [])
  refine ogoE (g' := (mkF m 35 #[.val (.ref a0), .val (.int (12 : Int32)), .val (.int (0 : Int32)), .val (.int (6 : Int32)), .val (.int y17)] [])) (by rw [show ((5 : Int32) + (1 : Int32)) = (6 : Int32) from by decide]) ?_
  refine ogo (fun _ z_ => XS.goto X47.here hx rfl (pc0 := 35) (pc' := 2) rfl (hb hby d2_35) (by decide) (by decide) z_) ?_
  show OWay p e below G T47 (mkF m 2 #[.val (.ref a0), .val (.int (12 : Int32)), .val (.int (0 : Int32)), .val (.int (6 : Int32)), .val (.int y17)] [])
  refine ogo (fun _ z_ => XS.iloadN X47.here hx rfl (hb hby d2_2) rfl z_) ?_
  show OWay p e below G T47 (mkF m 3 #[.val (.ref a0), .val (.int (12 : Int32)), .val (.int (0 : Int32)), .val (.int (6 : Int32)), .val (.int y17)] [(.int (6 : Int32))])
  refine ogo (fun _ z_ => XS.bipush X47.here hx rfl (hb hby d2_3) z_) ?_
  show OWay p e below G T47 (mkF m 5 #[.val (.ref a0), .val (.int (12 : Int32)), .val (.int (0 : Int32)), .val (.int (6 : Int32)), .val (.int y17)] [(.int (6 : Int32)), (.int (6 : Int32))])
  refine ogo (fun _ z_ => XS.icmpYes X47.here hx rfl (pc0 := 5) (pc' := 38) rfl (hb hby d2_5) rfl (flt (by decide)).2.1 (by decide) (by decide) z_) ?_
  show OWay p e below G T47 (mkF m 38 #[.val (.ref a0), .val (.int (12 : Int32)), .val (.int (0 : Int32)), .val (.int (6 : Int32)), .val (.int y17)] [])
  subst hG
  refine wRetV X47 hx hret hlk (hb hby d2_38) (by decide) (by decide) eT47 ?_
  exact ⟨rfl, N47, K48, V_47⟩
def swap21_rm : Room := { frames := 0, cells := 0, slots := 0, locals := 0 }
def swap21_Q (Z : State) (a0 : Addr) (kk : ClassId) (y0 : Int32) (y1 : Int32) (y2 : Int32) (y3 : Int32) (y4 : Int32) (y5 : Int32) (y6 : Int32) (y7 : Int32) (y8 : Int32) (y9 : Int32) (y10 : Int32) (y11 : Int32) (y12 : Int32) (y13 : Int32) (y14 : Int32) (y15 : Int32) (y16 : Int32) (y17 : Int32) (h0 : Heap) (n0 : Nat) (v : Option Value) (h : Heap) (L : List Loc) : Prop := (v = none) ∧ (Fr n0 L) ∧ (Keep h0 h [a0]) ∧ (Arv Z h a0 kk .int (18 : Int32) [(.int y0), (.int y1), (.int y2), (.int y3), (.int y4), (.int y5), (.int y12), (.int y13), (.int y14), (.int y15), (.int y16), (.int y17), (.int y6), (.int y7), (.int y8), (.int y9), (.int y10), (.int y11)] (.int (0 : Int32)))
theorem swap21_ef (m : MethodId) (a0 : Addr) : entryFrame m #[(.ref a0), (.int (12 : Int32)), (.int (6 : Int32))] 5 = mkF m 0 #[.val (.ref a0), .val (.int (12 : Int32)), .val (.int (6 : Int32)), .unset, .unset] [] := by first | (simp [entryFrame, mkF, argsToLocals, Value.category]; done) | rfl
set_option maxRecDepth 65536 in
set_option maxHeartbeats 40000000 in
theorem swap21_c (l : Launch) (Z : State) (az : Array Value) (hw : ∀ d ∈ tables_1, d.before az Z = true) (ws : List Jvm.Cond) (a0 : Addr) (kk : ClassId) (y0 : Int32) (y1 : Int32) (y2 : Int32) (y3 : Int32) (y4 : Int32) (y5 : Int32) (y6 : Int32) (y7 : Int32) (y8 : Int32) (y9 : Int32) (y10 : Int32) (y11 : Int32) (y12 : Int32) (y13 : Int32) (y14 : Int32) (y15 : Int32) (y16 : Int32) (y17 : Int32) (h0 : Heap) (n0 : Nat) (Z0 : n0 ≤ h0.size) (hp0 : Arv Z h0 a0 kk .int (18 : Int32) [(.int y0), (.int y1), (.int y2), (.int y3), (.int y4), (.int y5), (.int y6), (.int y7), (.int y8), (.int y9), (.int y10), (.int y11), (.int y12), (.int y13), (.int y14), (.int y15), (.int y16), (.int y17)] (.int (0 : Int32))) (hp1 : n0 ≤ a0) :
    OCon l (⟨"com/example/geotide/geotide/Members", "swap", "([III)V"⟩ : MethodName) prog_44_method_8_code 5 none ws swap21_rm Z #[(.ref a0), (.int (12 : Int32)), (.int (6 : Int32))] h0 (swap21_Q Z a0 kk y0 y1 y2 y3 y4 y5 y6 y7 y8 y9 y10 y11 y12 y13 y14 y15 y16 y17 h0 n0) := by
  refine ocon (plainFor_of_name pn_com_example_geotide_geotide_Members) ?_
  intro p e s m below meth c s₁ hx hby hml hown hnm hret hlk hZ X0 eh0
  have N0 := Fr.nil n0
  have K0 := Keep.refl h0 [a0]
  refine ogoE (swap21_ef m a0) ?_
  have g_a0 := hp1
  generalize hG : (OEnd s below (swap21_Q Z a0 kk y0 y1 y2 y3 y4 y5 y6 y7 y8 y9 y10 y11 y12 y13 y14 y15 y16 y17 h0 n0) swap21_rm.cells swap21_rm.slots) = G
  show OWay p e below G s₁ (mkF m 0 #[.val (.ref a0), .val (.int (12 : Int32)), .val (.int (6 : Int32)), .unset, .unset] [])
  refine ogo (fun _ z_ => XS.iconst X0.here hx rfl (hb hby d2_0) z_) ?_
  show OWay p e below G s₁ (mkF m 1 #[.val (.ref a0), .val (.int (12 : Int32)), .val (.int (6 : Int32)), .unset, .unset] [(.int (0 : Int32))])
  refine ogo (fun _ z_ => XS.istoreN X0.here hx rfl (hb hby d2_1) rfl (l' := #[.val (.ref a0), .val (.int (12 : Int32)), .val (.int (6 : Int32)), .val (.int (0 : Int32)), .unset]) rfl z_) ?_
  show OWay p e below G s₁ (mkF m 2 #[.val (.ref a0), .val (.int (12 : Int32)), .val (.int (6 : Int32)), .val (.int (0 : Int32)), .unset] [])
  refine ogo (fun _ z_ => XS.iloadN X0.here hx rfl (hb hby d2_2) rfl z_) ?_
  show OWay p e below G s₁ (mkF m 3 #[.val (.ref a0), .val (.int (12 : Int32)), .val (.int (6 : Int32)), .val (.int (0 : Int32)), .unset] [(.int (0 : Int32))])
  refine ogo (fun _ z_ => XS.bipush X0.here hx rfl (hb hby d2_3) z_) ?_
  show OWay p e below G s₁ (mkF m 5 #[.val (.ref a0), .val (.int (12 : Int32)), .val (.int (6 : Int32)), .val (.int (0 : Int32)), .unset] [(.int (6 : Int32)), (.int (0 : Int32))])
  refine ogo (fun _ z_ => XS.icmpNo X0.here hx rfl (hb hby d2_5) rfl (tlt (by decide)).2.1 z_) ?_
  show OWay p e below G s₁ (mkF m 8 #[.val (.ref a0), .val (.int (12 : Int32)), .val (.int (6 : Int32)), .val (.int (0 : Int32)), .unset] [])
  refine ogo (fun _ z_ => XS.aloadN X0.here hx rfl (hb hby d2_8) rfl rfl z_) ?_
  show OWay p e below G s₁ (mkF m 9 #[.val (.ref a0), .val (.int (12 : Int32)), .val (.int (6 : Int32)), .val (.int (0 : Int32)), .unset] [(.ref a0)])
  refine ogo (fun _ z_ => XS.iloadN X0.here hx rfl (hb hby d2_9) rfl z_) ?_
  show OWay p e below G s₁ (mkF m 10 #[.val (.ref a0), .val (.int (12 : Int32)), .val (.int (6 : Int32)), .val (.int (0 : Int32)), .unset] [(.int (12 : Int32)), (.ref a0)])
  refine ogo (fun _ z_ => XS.iloadN X0.here hx rfl (hb hby d2_10) rfl z_) ?_
  show OWay p e below G s₁ (mkF m 11 #[.val (.ref a0), .val (.int (12 : Int32)), .val (.int (6 : Int32)), .val (.int (0 : Int32)), .unset] [(.int (0 : Int32)), (.int (12 : Int32)), (.ref a0)])
  refine ogo (fun _ z_ => XS.iadd X0.here hx rfl (hb hby d2_11) rfl z_) ?_
  show OWay p e below G s₁ (mkF m 12 #[.val (.ref a0), .val (.int (12 : Int32)), .val (.int (6 : Int32)), .val (.int (0 : Int32)), .unset] [(.int ((12 : Int32) + (0 : Int32))), (.ref a0)])
  refine ogoE (g' := (mkF m 12 #[.val (.ref a0), .val (.int (12 : Int32)), .val (.int (6 : Int32)), .val (.int (0 : Int32)), .unset] [(.int (12 : Int32)), (.ref a0)])) (by rw [show ((12 : Int32) + (0 : Int32)) = (12 : Int32) from by decide]) ?_
  obtain ⟨cl_o1, Ar_o1, q_o1, S_o1, N_o1, H_o1, G_o1⟩ := id hp0
  have hin_o1 : ¬ ((12 : Int32) < 0 ∨ cl_o1.slots.size ≤ ((12 : Int32)).toNatClampNeg) := inb_of S_o1 ⟨by decide, by decide⟩
  have hat_o1 : cl_o1.slots[((12 : Int32)).toNatClampNeg]? = some (.int y12) := H_o1.at hin_o1 rfl
  refine ogo (fun _ z_ => X0.iaload hx (j := (12 : Int32)) (v := (.int y12)) (by rw [eh0]; exact Ar_o1.1) (State.isArrayOf_alike hZ.alike Ar_o1.2.1) Ar_o1.2.2 hin_o1 hat_o1 (g := (mkF m 12 #[.val (.ref a0), .val (.int (12 : Int32)), .val (.int (6 : Int32)), .val (.int (0 : Int32)), .unset] [(.int (12 : Int32)), (.ref a0)])) rfl rfl (hb hby d2_12) _ z_) ?_
  show OWay p e below G s₁ (mkF m 13 #[.val (.ref a0), .val (.int (12 : Int32)), .val (.int (6 : Int32)), .val (.int (0 : Int32)), .unset] [(.int y12)])
  refine ogo (fun _ z_ => XS.istore X0.here hx rfl (hb hby d2_13) rfl (l' := #[.val (.ref a0), .val (.int (12 : Int32)), .val (.int (6 : Int32)), .val (.int (0 : Int32)), .val (.int y12)]) rfl z_) ?_
  show OWay p e below G s₁ (mkF m 15 #[.val (.ref a0), .val (.int (12 : Int32)), .val (.int (6 : Int32)), .val (.int (0 : Int32)), .val (.int y12)] [])
  refine ogo (fun _ z_ => XS.aloadN X0.here hx rfl (hb hby d2_15) rfl rfl z_) ?_
  show OWay p e below G s₁ (mkF m 16 #[.val (.ref a0), .val (.int (12 : Int32)), .val (.int (6 : Int32)), .val (.int (0 : Int32)), .val (.int y12)] [(.ref a0)])
  refine ogo (fun _ z_ => XS.iloadN X0.here hx rfl (hb hby d2_16) rfl z_) ?_
  show OWay p e below G s₁ (mkF m 17 #[.val (.ref a0), .val (.int (12 : Int32)), .val (.int (6 : Int32)), .val (.int (0 : Int32)), .val (.int y12)] [(.int (12 : Int32)), (.ref a0)])
  refine ogo (fun _ z_ => XS.iloadN X0.here hx rfl (hb hby d2_17) rfl z_) ?_
  show OWay p e below G s₁ (mkF m 18 #[.val (.ref a0), .val (.int (12 : Int32)), .val (.int (6 : Int32)), .val (.int (0 : Int32)), .val (.int y12)] [(.int (0 : Int32)), (.int (12 : Int32)), (.ref a0)])
  refine ogo (fun _ z_ => XS.iadd X0.here hx rfl (hb hby d2_18) rfl z_) ?_
  show OWay p e below G s₁ (mkF m 19 #[.val (.ref a0), .val (.int (12 : Int32)), .val (.int (6 : Int32)), .val (.int (0 : Int32)), .val (.int y12)] [(.int ((12 : Int32) + (0 : Int32))), (.ref a0)])
  refine ogoE (g' := (mkF m 19 #[.val (.ref a0), .val (.int (12 : Int32)), .val (.int (6 : Int32)), .val (.int (0 : Int32)), .val (.int y12)] [(.int (12 : Int32)), (.ref a0)])) (by rw [show ((12 : Int32) + (0 : Int32)) = (12 : Int32) from by decide]) ?_
  refine ogo (fun _ z_ => XS.aloadN X0.here hx rfl (hb hby d2_19) rfl rfl z_) ?_
  show OWay p e below G s₁ (mkF m 20 #[.val (.ref a0), .val (.int (12 : Int32)), .val (.int (6 : Int32)), .val (.int (0 : Int32)), .val (.int y12)] [(.ref a0), (.int (12 : Int32)), (.ref a0)])
  refine ogo (fun _ z_ => XS.iloadN X0.here hx rfl (hb hby d2_20) rfl z_) ?_
  show OWay p e below G s₁ (mkF m 21 #[.val (.ref a0), .val (.int (12 : Int32)), .val (.int (6 : Int32)), .val (.int (0 : Int32)), .val (.int y12)] [(.int (6 : Int32)), (.ref a0), (.int (12 : Int32)), (.ref a0)])
  refine ogo (fun _ z_ => XS.iloadN X0.here hx rfl (hb hby d2_21) rfl z_) ?_
  show OWay p e below G s₁ (mkF m 22 #[.val (.ref a0), .val (.int (12 : Int32)), .val (.int (6 : Int32)), .val (.int (0 : Int32)), .val (.int y12)] [(.int (0 : Int32)), (.int (6 : Int32)), (.ref a0), (.int (12 : Int32)), (.ref a0)])
  refine ogo (fun _ z_ => XS.iadd X0.here hx rfl (hb hby d2_22) rfl z_) ?_
  show OWay p e below G s₁ (mkF m 23 #[.val (.ref a0), .val (.int (12 : Int32)), .val (.int (6 : Int32)), .val (.int (0 : Int32)), .val (.int y12)] [(.int ((6 : Int32) + (0 : Int32))), (.ref a0), (.int (12 : Int32)), (.ref a0)])
  refine ogoE (g' := (mkF m 23 #[.val (.ref a0), .val (.int (12 : Int32)), .val (.int (6 : Int32)), .val (.int (0 : Int32)), .val (.int y12)] [(.int (6 : Int32)), (.ref a0), (.int (12 : Int32)), (.ref a0)])) (by rw [show ((6 : Int32) + (0 : Int32)) = (6 : Int32) from by decide]) ?_
  obtain ⟨cl_o2, Ar_o2, q_o2, S_o2, N_o2, H_o2, G_o2⟩ := id hp0
  have hin_o2 : ¬ ((6 : Int32) < 0 ∨ cl_o2.slots.size ≤ ((6 : Int32)).toNatClampNeg) := inb_of S_o2 ⟨by decide, by decide⟩
  have hat_o2 : cl_o2.slots[((6 : Int32)).toNatClampNeg]? = some (.int y6) := H_o2.at hin_o2 rfl
  refine ogo (fun _ z_ => X0.iaload hx (j := (6 : Int32)) (v := (.int y6)) (by rw [eh0]; exact Ar_o2.1) (State.isArrayOf_alike hZ.alike Ar_o2.2.1) Ar_o2.2.2 hin_o2 hat_o2 (g := (mkF m 23 #[.val (.ref a0), .val (.int (12 : Int32)), .val (.int (6 : Int32)), .val (.int (0 : Int32)), .val (.int y12)] [(.int (6 : Int32)), (.ref a0), (.int (12 : Int32)), (.ref a0)])) rfl rfl (hb hby d2_23) _ z_) ?_
  show OWay p e below G s₁ (mkF m 24 #[.val (.ref a0), .val (.int (12 : Int32)), .val (.int (6 : Int32)), .val (.int (0 : Int32)), .val (.int y12)] [(.int y6), (.int (12 : Int32)), (.ref a0)])
  obtain ⟨cl_o3, Ar_o3, q_o3, S_o3, N_o3, H_o3, G_o3⟩ := id hp0
  have hin_o3 : ¬ ((12 : Int32) < 0 ∨ cl_o3.slots.size ≤ ((12 : Int32)).toNatClampNeg) := inb_of S_o3 ⟨by decide, by decide⟩
  obtain ⟨T4, h4, X4, eT4, W4, st4⟩ := stI X0 hx hZ eh0 Ar_o3 (j := (12 : Int32)) hin_o3 (g := (mkF m 24 #[.val (.ref a0), .val (.int (12 : Int32)), .val (.int (6 : Int32)), .val (.int (0 : Int32)), .val (.int y12)] [(.int y6), (.int (12 : Int32)), (.ref a0)])) rfl rfl (hb hby d2_24)
  have K5 : Keep h0 h4 [a0] := K0.wr W4 (Or.inl (List.mem_of_getElem? (i := 0) rfl))
  have V_4 : Arv Z h4 a0 kk .int (18 : Int32) [(.int y0), (.int y1), (.int y2), (.int y3), (.int y4), (.int y5), (.int y6), (.int y7), (.int y8), (.int y9), (.int y10), (.int y11), (.int y6), (.int y13), (.int y14), (.int y15), (.int y16), (.int y17)] (.int (0 : Int32)) := Arv.set Ar_o3 q_o3 S_o3 N_o3 H_o3 G_o3 rfl W4 12 rfl (Nat.le_of_ble_eq_true rfl)
  have N4 := Fr.snoc X4 N0 g_a0
  refine ogo st4 ?_
  show OWay p e below G T4 (mkF m 25 #[.val (.ref a0), .val (.int (12 : Int32)), .val (.int (6 : Int32)), .val (.int (0 : Int32)), .val (.int y12)] [])
  refine ogo (fun _ z_ => XS.aloadN X4.here hx rfl (hb hby d2_25) rfl rfl z_) ?_
  show OWay p e below G T4 (mkF m 26 #[.val (.ref a0), .val (.int (12 : Int32)), .val (.int (6 : Int32)), .val (.int (0 : Int32)), .val (.int y12)] [(.ref a0)])
  refine ogo (fun _ z_ => XS.iloadN X4.here hx rfl (hb hby d2_26) rfl z_) ?_
  show OWay p e below G T4 (mkF m 27 #[.val (.ref a0), .val (.int (12 : Int32)), .val (.int (6 : Int32)), .val (.int (0 : Int32)), .val (.int y12)] [(.int (6 : Int32)), (.ref a0)])
  refine ogo (fun _ z_ => XS.iloadN X4.here hx rfl (hb hby d2_27) rfl z_) ?_
  show OWay p e below G T4 (mkF m 28 #[.val (.ref a0), .val (.int (12 : Int32)), .val (.int (6 : Int32)), .val (.int (0 : Int32)), .val (.int y12)] [(.int (0 : Int32)), (.int (6 : Int32)), (.ref a0)])
  refine ogo (fun _ z_ => XS.iadd X4.here hx rfl (hb hby d2_28) rfl z_) ?_
  show OWay p e below G T4 (mkF m 29 #[.val (.ref a0), .val (.int (12 : Int32)), .val (.int (6 : Int32)), .val (.int (0 : Int32)), .val (.int y12)] [(.int ((6 : Int32) + (0 : Int32))), (.ref a0)])
  refine ogoE (g' := (mkF m 29 #[.val (.ref a0), .val (.int (12 : Int32)), .val (.int (6 : Int32)), .val (.int (0 : Int32)), .val (.int y12)] [(.int (6 : Int32)), (.ref a0)])) (by rw [show ((6 : Int32) + (0 : Int32)) = (6 : Int32) from by decide]) ?_
  refine ogo (fun _ z_ => XS.iload X4.here hx rfl (hb hby d2_29) rfl z_) ?_
  show OWay p e below G T4 (mkF m 31 #[.val (.ref a0), .val (.int (12 : Int32)), .val (.int (6 : Int32)), .val (.int (0 : Int32)), .val (.int y12)] [(.int y12), (.int (6 : Int32)), (.ref a0)])
  obtain ⟨cl_o6, Ar_o6, q_o6, S_o6, N_o6, H_o6, G_o6⟩ := id V_4
  have hin_o6 : ¬ ((6 : Int32) < 0 ∨ cl_o6.slots.size ≤ ((6 : Int32)).toNatClampNeg) := inb_of S_o6 ⟨by decide, by decide⟩
  obtain ⟨T7, h7, X7, eT7, W7, st7⟩ := stI X4 hx hZ eT4 Ar_o6 (j := (6 : Int32)) hin_o6 (g := (mkF m 31 #[.val (.ref a0), .val (.int (12 : Int32)), .val (.int (6 : Int32)), .val (.int (0 : Int32)), .val (.int y12)] [(.int y12), (.int (6 : Int32)), (.ref a0)])) rfl rfl (hb hby d2_31)
  have K8 : Keep h0 h7 [a0] := K5.wr W7 (Or.inl (List.mem_of_getElem? (i := 0) rfl))
  have V_7 : Arv Z h7 a0 kk .int (18 : Int32) [(.int y0), (.int y1), (.int y2), (.int y3), (.int y4), (.int y5), (.int y12), (.int y7), (.int y8), (.int y9), (.int y10), (.int y11), (.int y6), (.int y13), (.int y14), (.int y15), (.int y16), (.int y17)] (.int (0 : Int32)) := Arv.set Ar_o6 q_o6 S_o6 N_o6 H_o6 G_o6 rfl W7 6 rfl (Nat.le_of_ble_eq_true rfl)
  have N7 := Fr.snoc X7 N4 g_a0
  refine ogo st7 ?_
  show OWay p e below G T7 (mkF m 32 #[.val (.ref a0), .val (.int (12 : Int32)), .val (.int (6 : Int32)), .val (.int (0 : Int32)), .val (.int y12)] [])
  refine ogo (fun _ z_ => XS.iinc X7.here hx rfl (hb hby d2_32) rfl (l' := #[.val (.ref a0), .val (.int (12 : Int32)), .val (.int (6 : Int32)), .val (.int ((0 : Int32) + (1 : Int32))), .val (.int y12)]) rfl z_) ?_
  show OWay p e below G T7 (mkF m 35 #[.val (.ref a0), .val (.int (12 : Int32)), .val (.int (6 : Int32)), .val (.int ((0 : Int32) + (1 : Int32))), .val (.int y12)] [])
  refine ogoE (g' := (mkF m 35 #[.val (.ref a0), .val (.int (12 : Int32)), .val (.int (6 : Int32)), .val (.int (1 : Int32)), .val (.int y12)] [])) (by rw [show ((0 : Int32) + (1 : Int32)) = (1 : Int32) from by decide]) ?_
  refine ogo (fun _ z_ => XS.goto X7.here hx rfl (pc0 := 35) (pc' := 2) rfl (hb hby d2_35) (by decide) (by decide) z_) ?_
  show OWay p e below G T7 (mkF m 2 #[.val (.ref a0), .val (.int (12 : Int32)), .val (.int (6 : Int32)), .val (.int (1 : Int32)), .val (.int y12)] [])
  refine ogo (fun _ z_ => XS.iloadN X7.here hx rfl (hb hby d2_2) rfl z_) ?_
  show OWay p e below G T7 (mkF m 3 #[.val (.ref a0), .val (.int (12 : Int32)), .val (.int (6 : Int32)), .val (.int (1 : Int32)), .val (.int y12)] [(.int (1 : Int32))])
  refine ogo (fun _ z_ => XS.bipush X7.here hx rfl (hb hby d2_3) z_) ?_
  show OWay p e below G T7 (mkF m 5 #[.val (.ref a0), .val (.int (12 : Int32)), .val (.int (6 : Int32)), .val (.int (1 : Int32)), .val (.int y12)] [(.int (6 : Int32)), (.int (1 : Int32))])
  refine ogo (fun _ z_ => XS.icmpNo X7.here hx rfl (hb hby d2_5) rfl (tlt (by decide)).2.1 z_) ?_
  show OWay p e below G T7 (mkF m 8 #[.val (.ref a0), .val (.int (12 : Int32)), .val (.int (6 : Int32)), .val (.int (1 : Int32)), .val (.int y12)] [])
  refine ogo (fun _ z_ => XS.aloadN X7.here hx rfl (hb hby d2_8) rfl rfl z_) ?_
  show OWay p e below G T7 (mkF m 9 #[.val (.ref a0), .val (.int (12 : Int32)), .val (.int (6 : Int32)), .val (.int (1 : Int32)), .val (.int y12)] [(.ref a0)])
  refine ogo (fun _ z_ => XS.iloadN X7.here hx rfl (hb hby d2_9) rfl z_) ?_
  show OWay p e below G T7 (mkF m 10 #[.val (.ref a0), .val (.int (12 : Int32)), .val (.int (6 : Int32)), .val (.int (1 : Int32)), .val (.int y12)] [(.int (12 : Int32)), (.ref a0)])
  refine ogo (fun _ z_ => XS.iloadN X7.here hx rfl (hb hby d2_10) rfl z_) ?_
  show OWay p e below G T7 (mkF m 11 #[.val (.ref a0), .val (.int (12 : Int32)), .val (.int (6 : Int32)), .val (.int (1 : Int32)), .val (.int y12)] [(.int (1 : Int32)), (.int (12 : Int32)), (.ref a0)])
  refine ogo (fun _ z_ => XS.iadd X7.here hx rfl (hb hby d2_11) rfl z_) ?_
  show OWay p e below G T7 (mkF m 12 #[.val (.ref a0), .val (.int (12 : Int32)), .val (.int (6 : Int32)), .val (.int (1 : Int32)), .val (.int y12)] [(.int ((12 : Int32) + (1 : Int32))), (.ref a0)])
  refine ogoE (g' := (mkF m 12 #[.val (.ref a0), .val (.int (12 : Int32)), .val (.int (6 : Int32)), .val (.int (1 : Int32)), .val (.int y12)] [(.int (13 : Int32)), (.ref a0)])) (by rw [show ((12 : Int32) + (1 : Int32)) = (13 : Int32) from by decide]) ?_
  obtain ⟨cl_o9, Ar_o9, q_o9, S_o9, N_o9, H_o9, G_o9⟩ := id V_7
  have hin_o9 : ¬ ((13 : Int32) < 0 ∨ cl_o9.slots.size ≤ ((13 : Int32)).toNatClampNeg) := inb_of S_o9 ⟨by decide, by decide⟩
  have hat_o9 : cl_o9.slots[((13 : Int32)).toNatClampNeg]? = some (.int y13) := H_o9.at hin_o9 rfl
  refine ogo (fun _ z_ => X7.iaload hx (j := (13 : Int32)) (v := (.int y13)) (by rw [eT7]; exact Ar_o9.1) (State.isArrayOf_alike hZ.alike Ar_o9.2.1) Ar_o9.2.2 hin_o9 hat_o9 (g := (mkF m 12 #[.val (.ref a0), .val (.int (12 : Int32)), .val (.int (6 : Int32)), .val (.int (1 : Int32)), .val (.int y12)] [(.int (13 : Int32)), (.ref a0)])) rfl rfl (hb hby d2_12) _ z_) ?_
  show OWay p e below G T7 (mkF m 13 #[.val (.ref a0), .val (.int (12 : Int32)), .val (.int (6 : Int32)), .val (.int (1 : Int32)), .val (.int y12)] [(.int y13)])
  refine ogo (fun _ z_ => XS.istore X7.here hx rfl (hb hby d2_13) rfl (l' := #[.val (.ref a0), .val (.int (12 : Int32)), .val (.int (6 : Int32)), .val (.int (1 : Int32)), .val (.int y13)]) rfl z_) ?_
  show OWay p e below G T7 (mkF m 15 #[.val (.ref a0), .val (.int (12 : Int32)), .val (.int (6 : Int32)), .val (.int (1 : Int32)), .val (.int y13)] [])
  refine ogo (fun _ z_ => XS.aloadN X7.here hx rfl (hb hby d2_15) rfl rfl z_) ?_
  show OWay p e below G T7 (mkF m 16 #[.val (.ref a0), .val (.int (12 : Int32)), .val (.int (6 : Int32)), .val (.int (1 : Int32)), .val (.int y13)] [(.ref a0)])
  refine ogo (fun _ z_ => XS.iloadN X7.here hx rfl (hb hby d2_16) rfl z_) ?_
  show OWay p e below G T7 (mkF m 17 #[.val (.ref a0), .val (.int (12 : Int32)), .val (.int (6 : Int32)), .val (.int (1 : Int32)), .val (.int y13)] [(.int (12 : Int32)), (.ref a0)])
  refine ogo (fun _ z_ => XS.iloadN X7.here hx rfl (hb hby d2_17) rfl z_) ?_
  show OWay p e below G T7 (mkF m 18 #[.val (.ref a0), .val (.int (12 : Int32)), .val (.int (6 : Int32)), .val (.int (1 : Int32)), .val (.int y13)] [(.int (1 : Int32)), (.int (12 : Int32)), (.ref a0)])
  refine ogo (fun _ z_ => XS.iadd X7.here hx rfl (hb hby d2_18) rfl z_) ?_
  show OWay p e below G T7 (mkF m 19 #[.val (.ref a0), .val (.int (12 : Int32)), .val (.int (6 : Int32)), .val (.int (1 : Int32)), .val (.int y13)] [(.int ((12 : Int32) + (1 : Int32))), (.ref a0)])
  refine ogoE (g' := (mkF m 19 #[.val (.ref a0), .val (.int (12 : Int32)), .val (.int (6 : Int32)), .val (.int (1 : Int32)), .val (.int y13)] [(.int (13 : Int32)), (.ref a0)])) (by rw [show ((12 : Int32) + (1 : Int32)) = (13 : Int32) from by decide]) ?_
  refine ogo (fun _ z_ => XS.aloadN X7.here hx rfl (hb hby d2_19) rfl rfl z_) ?_
  show OWay p e below G T7 (mkF m 20 #[.val (.ref a0), .val (.int (12 : Int32)), .val (.int (6 : Int32)), .val (.int (1 : Int32)), .val (.int y13)] [(.ref a0), (.int (13 : Int32)), (.ref a0)])
  refine ogo (fun _ z_ => XS.iloadN X7.here hx rfl (hb hby d2_20) rfl z_) ?_
  show OWay p e below G T7 (mkF m 21 #[.val (.ref a0), .val (.int (12 : Int32)), .val (.int (6 : Int32)), .val (.int (1 : Int32)), .val (.int y13)] [(.int (6 : Int32)), (.ref a0), (.int (13 : Int32)), (.ref a0)])
  refine ogo (fun _ z_ => XS.iloadN X7.here hx rfl (hb hby d2_21) rfl z_) ?_
  show OWay p e below G T7 (mkF m 22 #[.val (.ref a0), .val (.int (12 : Int32)), .val (.int (6 : Int32)), .val (.int (1 : Int32)), .val (.int y13)] [(.int (1 : Int32)), (.int (6 : Int32)), (.ref a0), (.int (13 : Int32)), (.ref a0)])
  refine ogo (fun _ z_ => XS.iadd X7.here hx rfl (hb hby d2_22) rfl z_) ?_
  show OWay p e below G T7 (mkF m 23 #[.val (.ref a0), .val (.int (12 : Int32)), .val (.int (6 : Int32)), .val (.int (1 : Int32)), .val (.int y13)] [(.int ((6 : Int32) + (1 : Int32))), (.ref a0), (.int (13 : Int32)), (.ref a0)])
  refine ogoE (g' := (mkF m 23 #[.val (.ref a0), .val (.int (12 : Int32)), .val (.int (6 : Int32)), .val (.int (1 : Int32)), .val (.int y13)] [(.int (7 : Int32)), (.ref a0), (.int (13 : Int32)), (.ref a0)])) (by rw [show ((6 : Int32) + (1 : Int32)) = (7 : Int32) from by decide]) ?_
  obtain ⟨cl_o10, Ar_o10, q_o10, S_o10, N_o10, H_o10, G_o10⟩ := id V_7
  have hin_o10 : ¬ ((7 : Int32) < 0 ∨ cl_o10.slots.size ≤ ((7 : Int32)).toNatClampNeg) := inb_of S_o10 ⟨by decide, by decide⟩
  have hat_o10 : cl_o10.slots[((7 : Int32)).toNatClampNeg]? = some (.int y7) := H_o10.at hin_o10 rfl
  refine ogo (fun _ z_ => X7.iaload hx (j := (7 : Int32)) (v := (.int y7)) (by rw [eT7]; exact Ar_o10.1) (State.isArrayOf_alike hZ.alike Ar_o10.2.1) Ar_o10.2.2 hin_o10 hat_o10 (g := (mkF m 23 #[.val (.ref a0), .val (.int (12 : Int32)), .val (.int (6 : Int32)), .val (.int (1 : Int32)), .val (.int y13)] [(.int (7 : Int32)), (.ref a0), (.int (13 : Int32)), (.ref a0)])) rfl rfl (hb hby d2_23) _ z_) ?_
  show OWay p e below G T7 (mkF m 24 #[.val (.ref a0), .val (.int (12 : Int32)), .val (.int (6 : Int32)), .val (.int (1 : Int32)), .val (.int y13)] [(.int y7), (.int (13 : Int32)), (.ref a0)])
  obtain ⟨cl_o11, Ar_o11, q_o11, S_o11, N_o11, H_o11, G_o11⟩ := id V_7
  have hin_o11 : ¬ ((13 : Int32) < 0 ∨ cl_o11.slots.size ≤ ((13 : Int32)).toNatClampNeg) := inb_of S_o11 ⟨by decide, by decide⟩
  obtain ⟨T12, h12, X12, eT12, W12, st12⟩ := stI X7 hx hZ eT7 Ar_o11 (j := (13 : Int32)) hin_o11 (g := (mkF m 24 #[.val (.ref a0), .val (.int (12 : Int32)), .val (.int (6 : Int32)), .val (.int (1 : Int32)), .val (.int y13)] [(.int y7), (.int (13 : Int32)), (.ref a0)])) rfl rfl (hb hby d2_24)
  have K13 : Keep h0 h12 [a0] := K8.wr W12 (Or.inl (List.mem_of_getElem? (i := 0) rfl))
  have V_12 : Arv Z h12 a0 kk .int (18 : Int32) [(.int y0), (.int y1), (.int y2), (.int y3), (.int y4), (.int y5), (.int y12), (.int y7), (.int y8), (.int y9), (.int y10), (.int y11), (.int y6), (.int y7), (.int y14), (.int y15), (.int y16), (.int y17)] (.int (0 : Int32)) := Arv.set Ar_o11 q_o11 S_o11 N_o11 H_o11 G_o11 rfl W12 13 rfl (Nat.le_of_ble_eq_true rfl)
  have N12 := Fr.snoc X12 N7 g_a0
  refine ogo st12 ?_
  show OWay p e below G T12 (mkF m 25 #[.val (.ref a0), .val (.int (12 : Int32)), .val (.int (6 : Int32)), .val (.int (1 : Int32)), .val (.int y13)] [])
  refine ogo (fun _ z_ => XS.aloadN X12.here hx rfl (hb hby d2_25) rfl rfl z_) ?_
  show OWay p e below G T12 (mkF m 26 #[.val (.ref a0), .val (.int (12 : Int32)), .val (.int (6 : Int32)), .val (.int (1 : Int32)), .val (.int y13)] [(.ref a0)])
  refine ogo (fun _ z_ => XS.iloadN X12.here hx rfl (hb hby d2_26) rfl z_) ?_
  show OWay p e below G T12 (mkF m 27 #[.val (.ref a0), .val (.int (12 : Int32)), .val (.int (6 : Int32)), .val (.int (1 : Int32)), .val (.int y13)] [(.int (6 : Int32)), (.ref a0)])
  refine ogo (fun _ z_ => XS.iloadN X12.here hx rfl (hb hby d2_27) rfl z_) ?_
  show OWay p e below G T12 (mkF m 28 #[.val (.ref a0), .val (.int (12 : Int32)), .val (.int (6 : Int32)), .val (.int (1 : Int32)), .val (.int y13)] [(.int (1 : Int32)), (.int (6 : Int32)), (.ref a0)])
  refine ogo (fun _ z_ => XS.iadd X12.here hx rfl (hb hby d2_28) rfl z_) ?_
  show OWay p e below G T12 (mkF m 29 #[.val (.ref a0), .val (.int (12 : Int32)), .val (.int (6 : Int32)), .val (.int (1 : Int32)), .val (.int y13)] [(.int ((6 : Int32) + (1 : Int32))), (.ref a0)])
  refine ogoE (g' := (mkF m 29 #[.val (.ref a0), .val (.int (12 : Int32)), .val (.int (6 : Int32)), .val (.int (1 : Int32)), .val (.int y13)] [(.int (7 : Int32)), (.ref a0)])) (by rw [show ((6 : Int32) + (1 : Int32)) = (7 : Int32) from by decide]) ?_
  refine ogo (fun _ z_ => XS.iload X12.here hx rfl (hb hby d2_29) rfl z_) ?_
  show OWay p e below G T12 (mkF m 31 #[.val (.ref a0), .val (.int (12 : Int32)), .val (.int (6 : Int32)), .val (.int (1 : Int32)), .val (.int y13)] [(.int y13), (.int (7 : Int32)), (.ref a0)])
  obtain ⟨cl_o14, Ar_o14, q_o14, S_o14, N_o14, H_o14, G_o14⟩ := id V_12
  have hin_o14 : ¬ ((7 : Int32) < 0 ∨ cl_o14.slots.size ≤ ((7 : Int32)).toNatClampNeg) := inb_of S_o14 ⟨by decide, by decide⟩
  obtain ⟨T15, h15, X15, eT15, W15, st15⟩ := stI X12 hx hZ eT12 Ar_o14 (j := (7 : Int32)) hin_o14 (g := (mkF m 31 #[.val (.ref a0), .val (.int (12 : Int32)), .val (.int (6 : Int32)), .val (.int (1 : Int32)), .val (.int y13)] [(.int y13), (.int (7 : Int32)), (.ref a0)])) rfl rfl (hb hby d2_31)
  have K16 : Keep h0 h15 [a0] := K13.wr W15 (Or.inl (List.mem_of_getElem? (i := 0) rfl))
  have V_15 : Arv Z h15 a0 kk .int (18 : Int32) [(.int y0), (.int y1), (.int y2), (.int y3), (.int y4), (.int y5), (.int y12), (.int y13), (.int y8), (.int y9), (.int y10), (.int y11), (.int y6), (.int y7), (.int y14), (.int y15), (.int y16), (.int y17)] (.int (0 : Int32)) := Arv.set Ar_o14 q_o14 S_o14 N_o14 H_o14 G_o14 rfl W15 7 rfl (Nat.le_of_ble_eq_true rfl)
  have N15 := Fr.snoc X15 N12 g_a0
  refine ogo st15 ?_
  show OWay p e below G T15 (mkF m 32 #[.val (.ref a0), .val (.int (12 : Int32)), .val (.int (6 : Int32)), .val (.int (1 : Int32)), .val (.int y13)] [])
  refine ogo (fun _ z_ => XS.iinc X15.here hx rfl (hb hby d2_32) rfl (l' := #[.val (.ref a0), .val (.int (12 : Int32)), .val (.int (6 : Int32)), .val (.int ((1 : Int32) + (1 : Int32))), .val (.int y13)]) rfl z_) ?_
  show OWay p e below G T15 (mkF m 35 #[.val (.ref a0), .val (.int (12 : Int32)), .val (.int (6 : Int32)), .val (.int ((1 : Int32) + (1 : Int32))), .val (.int y13)] [])
  refine ogoE (g' := (mkF m 35 #[.val (.ref a0), .val (.int (12 : Int32)), .val (.int (6 : Int32)), .val (.int (2 : Int32)), .val (.int y13)] [])) (by rw [show ((1 : Int32) + (1 : Int32)) = (2 : Int32) from by decide]) ?_
  refine ogo (fun _ z_ => XS.goto X15.here hx rfl (pc0 := 35) (pc' := 2) rfl (hb hby d2_35) (by decide) (by decide) z_) ?_
  show OWay p e below G T15 (mkF m 2 #[.val (.ref a0), .val (.int (12 : Int32)), .val (.int (6 : Int32)), .val (.int (2 : Int32)), .val (.int y13)] [])
  refine ogo (fun _ z_ => XS.iloadN X15.here hx rfl (hb hby d2_2) rfl z_) ?_
  show OWay p e below G T15 (mkF m 3 #[.val (.ref a0), .val (.int (12 : Int32)), .val (.int (6 : Int32)), .val (.int (2 : Int32)), .val (.int y13)] [(.int (2 : Int32))])
  refine ogo (fun _ z_ => XS.bipush X15.here hx rfl (hb hby d2_3) z_) ?_
  show OWay p e below G T15 (mkF m 5 #[.val (.ref a0), .val (.int (12 : Int32)), .val (.int (6 : Int32)), .val (.int (2 : Int32)), .val (.int y13)] [(.int (6 : Int32)), (.int (2 : Int32))])
  refine ogo (fun _ z_ => XS.icmpNo X15.here hx rfl (hb hby d2_5) rfl (tlt (by decide)).2.1 z_) ?_
  show OWay p e below G T15 (mkF m 8 #[.val (.ref a0), .val (.int (12 : Int32)), .val (.int (6 : Int32)), .val (.int (2 : Int32)), .val (.int y13)] [])
  refine ogo (fun _ z_ => XS.aloadN X15.here hx rfl (hb hby d2_8) rfl rfl z_) ?_
  show OWay p e below G T15 (mkF m 9 #[.val (.ref a0), .val (.int (12 : Int32)), .val (.int (6 : Int32)), .val (.int (2 : Int32)), .val (.int y13)] [(.ref a0)])
  refine ogo (fun _ z_ => XS.iloadN X15.here hx rfl (hb hby d2_9) rfl z_) ?_
  show OWay p e below G T15 (mkF m 10 #[.val (.ref a0), .val (.int (12 : Int32)), .val (.int (6 : Int32)), .val (.int (2 : Int32)), .val (.int y13)] [(.int (12 : Int32)), (.ref a0)])
  refine ogo (fun _ z_ => XS.iloadN X15.here hx rfl (hb hby d2_10) rfl z_) ?_
  show OWay p e below G T15 (mkF m 11 #[.val (.ref a0), .val (.int (12 : Int32)), .val (.int (6 : Int32)), .val (.int (2 : Int32)), .val (.int y13)] [(.int (2 : Int32)), (.int (12 : Int32)), (.ref a0)])
  refine ogo (fun _ z_ => XS.iadd X15.here hx rfl (hb hby d2_11) rfl z_) ?_
  show OWay p e below G T15 (mkF m 12 #[.val (.ref a0), .val (.int (12 : Int32)), .val (.int (6 : Int32)), .val (.int (2 : Int32)), .val (.int y13)] [(.int ((12 : Int32) + (2 : Int32))), (.ref a0)])
  refine ogoE (g' := (mkF m 12 #[.val (.ref a0), .val (.int (12 : Int32)), .val (.int (6 : Int32)), .val (.int (2 : Int32)), .val (.int y13)] [(.int (14 : Int32)), (.ref a0)])) (by rw [show ((12 : Int32) + (2 : Int32)) = (14 : Int32) from by decide]) ?_
  obtain ⟨cl_o17, Ar_o17, q_o17, S_o17, N_o17, H_o17, G_o17⟩ := id V_15
  have hin_o17 : ¬ ((14 : Int32) < 0 ∨ cl_o17.slots.size ≤ ((14 : Int32)).toNatClampNeg) := inb_of S_o17 ⟨by decide, by decide⟩
  have hat_o17 : cl_o17.slots[((14 : Int32)).toNatClampNeg]? = some (.int y14) := H_o17.at hin_o17 rfl
  refine ogo (fun _ z_ => X15.iaload hx (j := (14 : Int32)) (v := (.int y14)) (by rw [eT15]; exact Ar_o17.1) (State.isArrayOf_alike hZ.alike Ar_o17.2.1) Ar_o17.2.2 hin_o17 hat_o17 (g := (mkF m 12 #[.val (.ref a0), .val (.int (12 : Int32)), .val (.int (6 : Int32)), .val (.int (2 : Int32)), .val (.int y13)] [(.int (14 : Int32)), (.ref a0)])) rfl rfl (hb hby d2_12) _ z_) ?_
  show OWay p e below G T15 (mkF m 13 #[.val (.ref a0), .val (.int (12 : Int32)), .val (.int (6 : Int32)), .val (.int (2 : Int32)), .val (.int y13)] [(.int y14)])
  refine ogo (fun _ z_ => XS.istore X15.here hx rfl (hb hby d2_13) rfl (l' := #[.val (.ref a0), .val (.int (12 : Int32)), .val (.int (6 : Int32)), .val (.int (2 : Int32)), .val (.int y14)]) rfl z_) ?_
  show OWay p e below G T15 (mkF m 15 #[.val (.ref a0), .val (.int (12 : Int32)), .val (.int (6 : Int32)), .val (.int (2 : Int32)), .val (.int y14)] [])
  refine ogo (fun _ z_ => XS.aloadN X15.here hx rfl (hb hby d2_15) rfl rfl z_) ?_
  show OWay p e below G T15 (mkF m 16 #[.val (.ref a0), .val (.int (12 : Int32)), .val (.int (6 : Int32)), .val (.int (2 : Int32)), .val (.int y14)] [(.ref a0)])
  refine ogo (fun _ z_ => XS.iloadN X15.here hx rfl (hb hby d2_16) rfl z_) ?_
  show OWay p e below G T15 (mkF m 17 #[.val (.ref a0), .val (.int (12 : Int32)), .val (.int (6 : Int32)), .val (.int (2 : Int32)), .val (.int y14)] [(.int (12 : Int32)), (.ref a0)])
  refine ogo (fun _ z_ => XS.iloadN X15.here hx rfl (hb hby d2_17) rfl z_) ?_
  show OWay p e below G T15 (mkF m 18 #[.val (.ref a0), .val (.int (12 : Int32)), .val (.int (6 : Int32)), .val (.int (2 : Int32)), .val (.int y14)] [(.int (2 : Int32)), (.int (12 : Int32)), (.ref a0)])
  refine ogo (fun _ z_ => XS.iadd X15.here hx rfl (hb hby d2_18) rfl z_) ?_
  show OWay p e below G T15 (mkF m 19 #[.val (.ref a0), .val (.int (12 : Int32)), .val (.int (6 : Int32)), .val (.int (2 : Int32)), .val (.int y14)] [(.int ((12 : Int32) + (2 : Int32))), (.ref a0)])
  refine ogoE (g' := (mkF m 19 #[.val (.ref a0), .val (.int (12 : Int32)), .val (.int (6 : Int32)), .val (.int (2 : Int32)), .val (.int y14)] [(.int (14 : Int32)), (.ref a0)])) (by rw [show ((12 : Int32) + (2 : Int32)) = (14 : Int32) from by decide]) ?_
  refine ogo (fun _ z_ => XS.aloadN X15.here hx rfl (hb hby d2_19) rfl rfl z_) ?_
  show OWay p e below G T15 (mkF m 20 #[.val (.ref a0), .val (.int (12 : Int32)), .val (.int (6 : Int32)), .val (.int (2 : Int32)), .val (.int y14)] [(.ref a0), (.int (14 : Int32)), (.ref a0)])
  refine ogo (fun _ z_ => XS.iloadN X15.here hx rfl (hb hby d2_20) rfl z_) ?_
  show OWay p e below G T15 (mkF m 21 #[.val (.ref a0), .val (.int (12 : Int32)), .val (.int (6 : Int32)), .val (.int (2 : Int32)), .val (.int y14)] [(.int (6 : Int32)), (.ref a0), (.int (14 : Int32)), (.ref a0)])
  refine ogo (fun _ z_ => XS.iloadN X15.here hx rfl (hb hby d2_21) rfl z_) ?_
  show OWay p e below G T15 (mkF m 22 #[.val (.ref a0), .val (.int (12 : Int32)), .val (.int (6 : Int32)), .val (.int (2 : Int32)), .val (.int y14)] [(.int (2 : Int32)), (.int (6 : Int32)), (.ref a0), (.int (14 : Int32)), (.ref a0)])
  refine ogo (fun _ z_ => XS.iadd X15.here hx rfl (hb hby d2_22) rfl z_) ?_
  show OWay p e below G T15 (mkF m 23 #[.val (.ref a0), .val (.int (12 : Int32)), .val (.int (6 : Int32)), .val (.int (2 : Int32)), .val (.int y14)] [(.int ((6 : Int32) + (2 : Int32))), (.ref a0), (.int (14 : Int32)), (.ref a0)])
  refine ogoE (g' := (mkF m 23 #[.val (.ref a0), .val (.int (12 : Int32)), .val (.int (6 : Int32)), .val (.int (2 : Int32)), .val (.int y14)] [(.int (8 : Int32)), (.ref a0), (.int (14 : Int32)), (.ref a0)])) (by rw [show ((6 : Int32) + (2 : Int32)) = (8 : Int32) from by decide]) ?_
  obtain ⟨cl_o18, Ar_o18, q_o18, S_o18, N_o18, H_o18, G_o18⟩ := id V_15
  have hin_o18 : ¬ ((8 : Int32) < 0 ∨ cl_o18.slots.size ≤ ((8 : Int32)).toNatClampNeg) := inb_of S_o18 ⟨by decide, by decide⟩
  have hat_o18 : cl_o18.slots[((8 : Int32)).toNatClampNeg]? = some (.int y8) := H_o18.at hin_o18 rfl
  refine ogo (fun _ z_ => X15.iaload hx (j := (8 : Int32)) (v := (.int y8)) (by rw [eT15]; exact Ar_o18.1) (State.isArrayOf_alike hZ.alike Ar_o18.2.1) Ar_o18.2.2 hin_o18 hat_o18 (g := (mkF m 23 #[.val (.ref a0), .val (.int (12 : Int32)), .val (.int (6 : Int32)), .val (.int (2 : Int32)), .val (.int y14)] [(.int (8 : Int32)), (.ref a0), (.int (14 : Int32)), (.ref a0)])) rfl rfl (hb hby d2_23) _ z_) ?_
  show OWay p e below G T15 (mkF m 24 #[.val (.ref a0), .val (.int (12 : Int32)), .val (.int (6 : Int32)), .val (.int (2 : Int32)), .val (.int y14)] [(.int y8), (.int (14 : Int32)), (.ref a0)])
  obtain ⟨cl_o19, Ar_o19, q_o19, S_o19, N_o19, H_o19, G_o19⟩ := id V_15
  have hin_o19 : ¬ ((14 : Int32) < 0 ∨ cl_o19.slots.size ≤ ((14 : Int32)).toNatClampNeg) := inb_of S_o19 ⟨by decide, by decide⟩
  obtain ⟨T20, h20, X20, eT20, W20, st20⟩ := stI X15 hx hZ eT15 Ar_o19 (j := (14 : Int32)) hin_o19 (g := (mkF m 24 #[.val (.ref a0), .val (.int (12 : Int32)), .val (.int (6 : Int32)), .val (.int (2 : Int32)), .val (.int y14)] [(.int y8), (.int (14 : Int32)), (.ref a0)])) rfl rfl (hb hby d2_24)
  have K21 : Keep h0 h20 [a0] := K16.wr W20 (Or.inl (List.mem_of_getElem? (i := 0) rfl))
  have V_20 : Arv Z h20 a0 kk .int (18 : Int32) [(.int y0), (.int y1), (.int y2), (.int y3), (.int y4), (.int y5), (.int y12), (.int y13), (.int y8), (.int y9), (.int y10), (.int y11), (.int y6), (.int y7), (.int y8), (.int y15), (.int y16), (.int y17)] (.int (0 : Int32)) := Arv.set Ar_o19 q_o19 S_o19 N_o19 H_o19 G_o19 rfl W20 14 rfl (Nat.le_of_ble_eq_true rfl)
  have N20 := Fr.snoc X20 N15 g_a0
  refine ogo st20 ?_
  show OWay p e below G T20 (mkF m 25 #[.val (.ref a0), .val (.int (12 : Int32)), .val (.int (6 : Int32)), .val (.int (2 : Int32)), .val (.int y14)] [])
  refine ogo (fun _ z_ => XS.aloadN X20.here hx rfl (hb hby d2_25) rfl rfl z_) ?_
  show OWay p e below G T20 (mkF m 26 #[.val (.ref a0), .val (.int (12 : Int32)), .val (.int (6 : Int32)), .val (.int (2 : Int32)), .val (.int y14)] [(.ref a0)])
  refine ogo (fun _ z_ => XS.iloadN X20.here hx rfl (hb hby d2_26) rfl z_) ?_
  show OWay p e below G T20 (mkF m 27 #[.val (.ref a0), .val (.int (12 : Int32)), .val (.int (6 : Int32)), .val (.int (2 : Int32)), .val (.int y14)] [(.int (6 : Int32)), (.ref a0)])
  refine ogo (fun _ z_ => XS.iloadN X20.here hx rfl (hb hby d2_27) rfl z_) ?_
  show OWay p e below G T20 (mkF m 28 #[.val (.ref a0), .val (.int (12 : Int32)), .val (.int (6 : Int32)), .val (.int (2 : Int32)), .val (.int y14)] [(.int (2 : Int32)), (.int (6 : Int32)), (.ref a0)])
  refine ogo (fun _ z_ => XS.iadd X20.here hx rfl (hb hby d2_28) rfl z_) ?_
  show OWay p e below G T20 (mkF m 29 #[.val (.ref a0), .val (.int (12 : Int32)), .val (.int (6 : Int32)), .val (.int (2 : Int32)), .val (.int y14)] [(.int ((6 : Int32) + (2 : Int32))), (.ref a0)])
  refine ogoE (g' := (mkF m 29 #[.val (.ref a0), .val (.int (12 : Int32)), .val (.int (6 : Int32)), .val (.int (2 : Int32)), .val (.int y14)] [(.int (8 : Int32)), (.ref a0)])) (by rw [show ((6 : Int32) + (2 : Int32)) = (8 : Int32) from by decide]) ?_
  refine ogo (fun _ z_ => XS.iload X20.here hx rfl (hb hby d2_29) rfl z_) ?_
  show OWay p e below G T20 (mkF m 31 #[.val (.ref a0), .val (.int (12 : Int32)), .val (.int (6 : Int32)), .val (.int (2 : Int32)), .val (.int y14)] [(.int y14), (.int (8 : Int32)), (.ref a0)])
  obtain ⟨cl_o22, Ar_o22, q_o22, S_o22, N_o22, H_o22, G_o22⟩ := id V_20
  have hin_o22 : ¬ ((8 : Int32) < 0 ∨ cl_o22.slots.size ≤ ((8 : Int32)).toNatClampNeg) := inb_of S_o22 ⟨by decide, by decide⟩
  obtain ⟨T23, h23, X23, eT23, W23, st23⟩ := stI X20 hx hZ eT20 Ar_o22 (j := (8 : Int32)) hin_o22 (g := (mkF m 31 #[.val (.ref a0), .val (.int (12 : Int32)), .val (.int (6 : Int32)), .val (.int (2 : Int32)), .val (.int y14)] [(.int y14), (.int (8 : Int32)), (.ref a0)])) rfl rfl (hb hby d2_31)
  have K24 : Keep h0 h23 [a0] := K21.wr W23 (Or.inl (List.mem_of_getElem? (i := 0) rfl))
  have V_23 : Arv Z h23 a0 kk .int (18 : Int32) [(.int y0), (.int y1), (.int y2), (.int y3), (.int y4), (.int y5), (.int y12), (.int y13), (.int y14), (.int y9), (.int y10), (.int y11), (.int y6), (.int y7), (.int y8), (.int y15), (.int y16), (.int y17)] (.int (0 : Int32)) := Arv.set Ar_o22 q_o22 S_o22 N_o22 H_o22 G_o22 rfl W23 8 rfl (Nat.le_of_ble_eq_true rfl)
  have N23 := Fr.snoc X23 N20 g_a0
  refine ogo st23 ?_
  show OWay p e below G T23 (mkF m 32 #[.val (.ref a0), .val (.int (12 : Int32)), .val (.int (6 : Int32)), .val (.int (2 : Int32)), .val (.int y14)] [])
  refine ogo (fun _ z_ => XS.iinc X23.here hx rfl (hb hby d2_32) rfl (l' := #[.val (.ref a0), .val (.int (12 : Int32)), .val (.int (6 : Int32)), .val (.int ((2 : Int32) + (1 : Int32))), .val (.int y14)]) rfl z_) ?_
  show OWay p e below G T23 (mkF m 35 #[.val (.ref a0), .val (.int (12 : Int32)), .val (.int (6 : Int32)), .val (.int ((2 : Int32) + (1 : Int32))), .val (.int y14)] [])
  refine ogoE (g' := (mkF m 35 #[.val (.ref a0), .val (.int (12 : Int32)), .val (.int (6 : Int32)), .val (.int (3 : Int32)), .val (.int y14)] [])) (by rw [show ((2 : Int32) + (1 : Int32)) = (3 : Int32) from by decide]) ?_
  refine ogo (fun _ z_ => XS.goto X23.here hx rfl (pc0 := 35) (pc' := 2) rfl (hb hby d2_35) (by decide) (by decide) z_) ?_
  show OWay p e below G T23 (mkF m 2 #[.val (.ref a0), .val (.int (12 : Int32)), .val (.int (6 : Int32)), .val (.int (3 : Int32)), .val (.int y14)] [])
  refine ogo (fun _ z_ => XS.iloadN X23.here hx rfl (hb hby d2_2) rfl z_) ?_
  show OWay p e below G T23 (mkF m 3 #[.val (.ref a0), .val (.int (12 : Int32)), .val (.int (6 : Int32)), .val (.int (3 : Int32)), .val (.int y14)] [(.int (3 : Int32))])
  refine ogo (fun _ z_ => XS.bipush X23.here hx rfl (hb hby d2_3) z_) ?_
  show OWay p e below G T23 (mkF m 5 #[.val (.ref a0), .val (.int (12 : Int32)), .val (.int (6 : Int32)), .val (.int (3 : Int32)), .val (.int y14)] [(.int (6 : Int32)), (.int (3 : Int32))])
  refine ogo (fun _ z_ => XS.icmpNo X23.here hx rfl (hb hby d2_5) rfl (tlt (by decide)).2.1 z_) ?_
  show OWay p e below G T23 (mkF m 8 #[.val (.ref a0), .val (.int (12 : Int32)), .val (.int (6 : Int32)), .val (.int (3 : Int32)), .val (.int y14)] [])
  refine ogo (fun _ z_ => XS.aloadN X23.here hx rfl (hb hby d2_8) rfl rfl z_) ?_
  show OWay p e below G T23 (mkF m 9 #[.val (.ref a0), .val (.int (12 : Int32)), .val (.int (6 : Int32)), .val (.int (3 : Int32)), .val (.int y14)] [(.ref a0)])
  refine ogo (fun _ z_ => XS.iloadN X23.here hx rfl (hb hby d2_9) rfl z_) ?_
  show OWay p e below G T23 (mkF m 10 #[.val (.ref a0), .val (.int (12 : Int32)), .val (.int (6 : Int32)), .val (.int (3 : Int32)), .val (.int y14)] [(.int (12 : Int32)), (.ref a0)])
  refine ogo (fun _ z_ => XS.iloadN X23.here hx rfl (hb hby d2_10) rfl z_) ?_
  show OWay p e below G T23 (mkF m 11 #[.val (.ref a0), .val (.int (12 : Int32)), .val (.int (6 : Int32)), .val (.int (3 : Int32)), .val (.int y14)] [(.int (3 : Int32)), (.int (12 : Int32)), (.ref a0)])
  refine ogo (fun _ z_ => XS.iadd X23.here hx rfl (hb hby d2_11) rfl z_) ?_
  show OWay p e below G T23 (mkF m 12 #[.val (.ref a0), .val (.int (12 : Int32)), .val (.int (6 : Int32)), .val (.int (3 : Int32)), .val (.int y14)] [(.int ((12 : Int32) + (3 : Int32))), (.ref a0)])
  refine ogoE (g' := (mkF m 12 #[.val (.ref a0), .val (.int (12 : Int32)), .val (.int (6 : Int32)), .val (.int (3 : Int32)), .val (.int y14)] [(.int (15 : Int32)), (.ref a0)])) (by rw [show ((12 : Int32) + (3 : Int32)) = (15 : Int32) from by decide]) ?_
  obtain ⟨cl_o25, Ar_o25, q_o25, S_o25, N_o25, H_o25, G_o25⟩ := id V_23
  have hin_o25 : ¬ ((15 : Int32) < 0 ∨ cl_o25.slots.size ≤ ((15 : Int32)).toNatClampNeg) := inb_of S_o25 ⟨by decide, by decide⟩
  have hat_o25 : cl_o25.slots[((15 : Int32)).toNatClampNeg]? = some (.int y15) := H_o25.at hin_o25 rfl
  refine ogo (fun _ z_ => X23.iaload hx (j := (15 : Int32)) (v := (.int y15)) (by rw [eT23]; exact Ar_o25.1) (State.isArrayOf_alike hZ.alike Ar_o25.2.1) Ar_o25.2.2 hin_o25 hat_o25 (g := (mkF m 12 #[.val (.ref a0), .val (.int (12 : Int32)), .val (.int (6 : Int32)), .val (.int (3 : Int32)), .val (.int y14)] [(.int (15 : Int32)), (.ref a0)])) rfl rfl (hb hby d2_12) _ z_) ?_
  show OWay p e below G T23 (mkF m 13 #[.val (.ref a0), .val (.int (12 : Int32)), .val (.int (6 : Int32)), .val (.int (3 : Int32)), .val (.int y14)] [(.int y15)])
  refine ogo (fun _ z_ => XS.istore X23.here hx rfl (hb hby d2_13) rfl (l' := #[.val (.ref a0), .val (.int (12 : Int32)), .val (.int (6 : Int32)), .val (.int (3 : Int32)), .val (.int y15)]) rfl z_) ?_
  show OWay p e below G T23 (mkF m 15 #[.val (.ref a0), .val (.int (12 : Int32)), .val (.int (6 : Int32)), .val (.int (3 : Int32)), .val (.int y15)] [])
  refine ogo (fun _ z_ => XS.aloadN X23.here hx rfl (hb hby d2_15) rfl rfl z_) ?_
  show OWay p e below G T23 (mkF m 16 #[.val (.ref a0), .val (.int (12 : Int32)), .val (.int (6 : Int32)), .val (.int (3 : Int32)), .val (.int y15)] [(.ref a0)])
  refine ogo (fun _ z_ => XS.iloadN X23.here hx rfl (hb hby d2_16) rfl z_) ?_
  show OWay p e below G T23 (mkF m 17 #[.val (.ref a0), .val (.int (12 : Int32)), .val (.int (6 : Int32)), .val (.int (3 : Int32)), .val (.int y15)] [(.int (12 : Int32)), (.ref a0)])
  refine ogo (fun _ z_ => XS.iloadN X23.here hx rfl (hb hby d2_17) rfl z_) ?_
  show OWay p e below G T23 (mkF m 18 #[.val (.ref a0), .val (.int (12 : Int32)), .val (.int (6 : Int32)), .val (.int (3 : Int32)), .val (.int y15)] [(.int (3 : Int32)), (.int (12 : Int32)), (.ref a0)])
  refine ogo (fun _ z_ => XS.iadd X23.here hx rfl (hb hby d2_18) rfl z_) ?_
  show OWay p e below G T23 (mkF m 19 #[.val (.ref a0), .val (.int (12 : Int32)), .val (.int (6 : Int32)), .val (.int (3 : Int32)), .val (.int y15)] [(.int ((12 : Int32) + (3 : Int32))), (.ref a0)])
  refine ogoE (g' := (mkF m 19 #[.val (.ref a0), .val (.int (12 : Int32)), .val (.int (6 : Int32)), .val (.int (3 : Int32)), .val (.int y15)] [(.int (15 : Int32)), (.ref a0)])) (by rw [show ((12 : Int32) + (3 : Int32)) = (15 : Int32) from by decide]) ?_
  refine ogo (fun _ z_ => XS.aloadN X23.here hx rfl (hb hby d2_19) rfl rfl z_) ?_
  show OWay p e below G T23 (mkF m 20 #[.val (.ref a0), .val (.int (12 : Int32)), .val (.int (6 : Int32)), .val (.int (3 : Int32)), .val (.int y15)] [(.ref a0), (.int (15 : Int32)), (.ref a0)])
  refine ogo (fun _ z_ => XS.iloadN X23.here hx rfl (hb hby d2_20) rfl z_) ?_
  show OWay p e below G T23 (mkF m 21 #[.val (.ref a0), .val (.int (12 : Int32)), .val (.int (6 : Int32)), .val (.int (3 : Int32)), .val (.int y15)] [(.int (6 : Int32)), (.ref a0), (.int (15 : Int32)), (.ref a0)])
  refine ogo (fun _ z_ => XS.iloadN X23.here hx rfl (hb hby d2_21) rfl z_) ?_
  show OWay p e below G T23 (mkF m 22 #[.val (.ref a0), .val (.int (12 : Int32)), .val (.int (6 : Int32)), .val (.int (3 : Int32)), .val (.int y15)] [(.int (3 : Int32)), (.int (6 : Int32)), (.ref a0), (.int (15 : Int32)), (.ref a0)])
  refine ogo (fun _ z_ => XS.iadd X23.here hx rfl (hb hby d2_22) rfl z_) ?_
  show OWay p e below G T23 (mkF m 23 #[.val (.ref a0), .val (.int (12 : Int32)), .val (.int (6 : Int32)), .val (.int (3 : Int32)), .val (.int y15)] [(.int ((6 : Int32) + (3 : Int32))), (.ref a0), (.int (15 : Int32)), (.ref a0)])
  refine ogoE (g' := (mkF m 23 #[.val (.ref a0), .val (.int (12 : Int32)), .val (.int (6 : Int32)), .val (.int (3 : Int32)), .val (.int y15)] [(.int (9 : Int32)), (.ref a0), (.int (15 : Int32)), (.ref a0)])) (by rw [show ((6 : Int32) + (3 : Int32)) = (9 : Int32) from by decide]) ?_
  obtain ⟨cl_o26, Ar_o26, q_o26, S_o26, N_o26, H_o26, G_o26⟩ := id V_23
  have hin_o26 : ¬ ((9 : Int32) < 0 ∨ cl_o26.slots.size ≤ ((9 : Int32)).toNatClampNeg) := inb_of S_o26 ⟨by decide, by decide⟩
  have hat_o26 : cl_o26.slots[((9 : Int32)).toNatClampNeg]? = some (.int y9) := H_o26.at hin_o26 rfl
  refine ogo (fun _ z_ => X23.iaload hx (j := (9 : Int32)) (v := (.int y9)) (by rw [eT23]; exact Ar_o26.1) (State.isArrayOf_alike hZ.alike Ar_o26.2.1) Ar_o26.2.2 hin_o26 hat_o26 (g := (mkF m 23 #[.val (.ref a0), .val (.int (12 : Int32)), .val (.int (6 : Int32)), .val (.int (3 : Int32)), .val (.int y15)] [(.int (9 : Int32)), (.ref a0), (.int (15 : Int32)), (.ref a0)])) rfl rfl (hb hby d2_23) _ z_) ?_
  show OWay p e below G T23 (mkF m 24 #[.val (.ref a0), .val (.int (12 : Int32)), .val (.int (6 : Int32)), .val (.int (3 : Int32)), .val (.int y15)] [(.int y9), (.int (15 : Int32)), (.ref a0)])
  obtain ⟨cl_o27, Ar_o27, q_o27, S_o27, N_o27, H_o27, G_o27⟩ := id V_23
  have hin_o27 : ¬ ((15 : Int32) < 0 ∨ cl_o27.slots.size ≤ ((15 : Int32)).toNatClampNeg) := inb_of S_o27 ⟨by decide, by decide⟩
  obtain ⟨T28, h28, X28, eT28, W28, st28⟩ := stI X23 hx hZ eT23 Ar_o27 (j := (15 : Int32)) hin_o27 (g := (mkF m 24 #[.val (.ref a0), .val (.int (12 : Int32)), .val (.int (6 : Int32)), .val (.int (3 : Int32)), .val (.int y15)] [(.int y9), (.int (15 : Int32)), (.ref a0)])) rfl rfl (hb hby d2_24)
  have K29 : Keep h0 h28 [a0] := K24.wr W28 (Or.inl (List.mem_of_getElem? (i := 0) rfl))
  have V_28 : Arv Z h28 a0 kk .int (18 : Int32) [(.int y0), (.int y1), (.int y2), (.int y3), (.int y4), (.int y5), (.int y12), (.int y13), (.int y14), (.int y9), (.int y10), (.int y11), (.int y6), (.int y7), (.int y8), (.int y9), (.int y16), (.int y17)] (.int (0 : Int32)) := Arv.set Ar_o27 q_o27 S_o27 N_o27 H_o27 G_o27 rfl W28 15 rfl (Nat.le_of_ble_eq_true rfl)
  have N28 := Fr.snoc X28 N23 g_a0
  refine ogo st28 ?_
  show OWay p e below G T28 (mkF m 25 #[.val (.ref a0), .val (.int (12 : Int32)), .val (.int (6 : Int32)), .val (.int (3 : Int32)), .val (.int y15)] [])
  refine ogo (fun _ z_ => XS.aloadN X28.here hx rfl (hb hby d2_25) rfl rfl z_) ?_
  show OWay p e below G T28 (mkF m 26 #[.val (.ref a0), .val (.int (12 : Int32)), .val (.int (6 : Int32)), .val (.int (3 : Int32)), .val (.int y15)] [(.ref a0)])
  refine ogo (fun _ z_ => XS.iloadN X28.here hx rfl (hb hby d2_26) rfl z_) ?_
  show OWay p e below G T28 (mkF m 27 #[.val (.ref a0), .val (.int (12 : Int32)), .val (.int (6 : Int32)), .val (.int (3 : Int32)), .val (.int y15)] [(.int (6 : Int32)), (.ref a0)])
  refine ogo (fun _ z_ => XS.iloadN X28.here hx rfl (hb hby d2_27) rfl z_) ?_
  show OWay p e below G T28 (mkF m 28 #[.val (.ref a0), .val (.int (12 : Int32)), .val (.int (6 : Int32)), .val (.int (3 : Int32)), .val (.int y15)] [(.int (3 : Int32)), (.int (6 : Int32)), (.ref a0)])
  refine ogo (fun _ z_ => XS.iadd X28.here hx rfl (hb hby d2_28) rfl z_) ?_
  show OWay p e below G T28 (mkF m 29 #[.val (.ref a0), .val (.int (12 : Int32)), .val (.int (6 : Int32)), .val (.int (3 : Int32)), .val (.int y15)] [(.int ((6 : Int32) + (3 : Int32))), (.ref a0)])
  refine ogoE (g' := (mkF m 29 #[.val (.ref a0), .val (.int (12 : Int32)), .val (.int (6 : Int32)), .val (.int (3 : Int32)), .val (.int y15)] [(.int (9 : Int32)), (.ref a0)])) (by rw [show ((6 : Int32) + (3 : Int32)) = (9 : Int32) from by decide]) ?_
  refine ogo (fun _ z_ => XS.iload X28.here hx rfl (hb hby d2_29) rfl z_) ?_
  show OWay p e below G T28 (mkF m 31 #[.val (.ref a0), .val (.int (12 : Int32)), .val (.int (6 : Int32)), .val (.int (3 : Int32)), .val (.int y15)] [(.int y15), (.int (9 : Int32)), (.ref a0)])
  obtain ⟨cl_o30, Ar_o30, q_o30, S_o30, N_o30, H_o30, G_o30⟩ := id V_28
  have hin_o30 : ¬ ((9 : Int32) < 0 ∨ cl_o30.slots.size ≤ ((9 : Int32)).toNatClampNeg) := inb_of S_o30 ⟨by decide, by decide⟩
  obtain ⟨T31, h31, X31, eT31, W31, st31⟩ := stI X28 hx hZ eT28 Ar_o30 (j := (9 : Int32)) hin_o30 (g := (mkF m 31 #[.val (.ref a0), .val (.int (12 : Int32)), .val (.int (6 : Int32)), .val (.int (3 : Int32)), .val (.int y15)] [(.int y15), (.int (9 : Int32)), (.ref a0)])) rfl rfl (hb hby d2_31)
  have K32 : Keep h0 h31 [a0] := K29.wr W31 (Or.inl (List.mem_of_getElem? (i := 0) rfl))
  have V_31 : Arv Z h31 a0 kk .int (18 : Int32) [(.int y0), (.int y1), (.int y2), (.int y3), (.int y4), (.int y5), (.int y12), (.int y13), (.int y14), (.int y15), (.int y10), (.int y11), (.int y6), (.int y7), (.int y8), (.int y9), (.int y16), (.int y17)] (.int (0 : Int32)) := Arv.set Ar_o30 q_o30 S_o30 N_o30 H_o30 G_o30 rfl W31 9 rfl (Nat.le_of_ble_eq_true rfl)
  have N31 := Fr.snoc X31 N28 g_a0
  refine ogo st31 ?_
  show OWay p e below G T31 (mkF m 32 #[.val (.ref a0), .val (.int (12 : Int32)), .val (.int (6 : Int32)), .val (.int (3 : Int32)), .val (.int y15)] [])
  refine ogo (fun _ z_ => XS.iinc X31.here hx rfl (hb hby d2_32) rfl (l' := #[.val (.ref a0), .val (.int (12 : Int32)), .val (.int (6 : Int32)), .val (.int ((3 : Int32) + (1 : Int32))), .val (.int y15)]) rfl z_) ?_
  show OWay p e below G T31 (mkF m 35 #[.val (.ref a0), .val (.int (12 : Int32)), .val (.int (6 : Int32)), .val (.int ((3 : Int32) + (1 : Int32))), .val (.int y15)] [])
  refine ogoE (g' := (mkF m 35 #[.val (.ref a0), .val (.int (12 : Int32)), .val (.int (6 : Int32)), .val (.int (4 : Int32)), .val (.int y15)] [])) (by rw [show ((3 : Int32) + (1 : Int32)) = (4 : Int32) from by decide]) ?_
  refine ogo (fun _ z_ => XS.goto X31.here hx rfl (pc0 := 35) (pc' := 2) rfl (hb hby d2_35) (by decide) (by decide) z_) ?_
  show OWay p e below G T31 (mkF m 2 #[.val (.ref a0), .val (.int (12 : Int32)), .val (.int (6 : Int32)), .val (.int (4 : Int32)), .val (.int y15)] [])
  refine ogo (fun _ z_ => XS.iloadN X31.here hx rfl (hb hby d2_2) rfl z_) ?_
  show OWay p e below G T31 (mkF m 3 #[.val (.ref a0), .val (.int (12 : Int32)), .val (.int (6 : Int32)), .val (.int (4 : Int32)), .val (.int y15)] [(.int (4 : Int32))])
  refine ogo (fun _ z_ => XS.bipush X31.here hx rfl (hb hby d2_3) z_) ?_
  show OWay p e below G T31 (mkF m 5 #[.val (.ref a0), .val (.int (12 : Int32)), .val (.int (6 : Int32)), .val (.int (4 : Int32)), .val (.int y15)] [(.int (6 : Int32)), (.int (4 : Int32))])
  refine ogo (fun _ z_ => XS.icmpNo X31.here hx rfl (hb hby d2_5) rfl (tlt (by decide)).2.1 z_) ?_
  show OWay p e below G T31 (mkF m 8 #[.val (.ref a0), .val (.int (12 : Int32)), .val (.int (6 : Int32)), .val (.int (4 : Int32)), .val (.int y15)] [])
  refine ogo (fun _ z_ => XS.aloadN X31.here hx rfl (hb hby d2_8) rfl rfl z_) ?_
  show OWay p e below G T31 (mkF m 9 #[.val (.ref a0), .val (.int (12 : Int32)), .val (.int (6 : Int32)), .val (.int (4 : Int32)), .val (.int y15)] [(.ref a0)])
  refine ogo (fun _ z_ => XS.iloadN X31.here hx rfl (hb hby d2_9) rfl z_) ?_
  show OWay p e below G T31 (mkF m 10 #[.val (.ref a0), .val (.int (12 : Int32)), .val (.int (6 : Int32)), .val (.int (4 : Int32)), .val (.int y15)] [(.int (12 : Int32)), (.ref a0)])
  refine ogo (fun _ z_ => XS.iloadN X31.here hx rfl (hb hby d2_10) rfl z_) ?_
  show OWay p e below G T31 (mkF m 11 #[.val (.ref a0), .val (.int (12 : Int32)), .val (.int (6 : Int32)), .val (.int (4 : Int32)), .val (.int y15)] [(.int (4 : Int32)), (.int (12 : Int32)), (.ref a0)])
  refine ogo (fun _ z_ => XS.iadd X31.here hx rfl (hb hby d2_11) rfl z_) ?_
  show OWay p e below G T31 (mkF m 12 #[.val (.ref a0), .val (.int (12 : Int32)), .val (.int (6 : Int32)), .val (.int (4 : Int32)), .val (.int y15)] [(.int ((12 : Int32) + (4 : Int32))), (.ref a0)])
  refine ogoE (g' := (mkF m 12 #[.val (.ref a0), .val (.int (12 : Int32)), .val (.int (6 : Int32)), .val (.int (4 : Int32)), .val (.int y15)] [(.int (16 : Int32)), (.ref a0)])) (by rw [show ((12 : Int32) + (4 : Int32)) = (16 : Int32) from by decide]) ?_
  obtain ⟨cl_o33, Ar_o33, q_o33, S_o33, N_o33, H_o33, G_o33⟩ := id V_31
  have hin_o33 : ¬ ((16 : Int32) < 0 ∨ cl_o33.slots.size ≤ ((16 : Int32)).toNatClampNeg) := inb_of S_o33 ⟨by decide, by decide⟩
  have hat_o33 : cl_o33.slots[((16 : Int32)).toNatClampNeg]? = some (.int y16) := H_o33.at hin_o33 rfl
  refine ogo (fun _ z_ => X31.iaload hx (j := (16 : Int32)) (v := (.int y16)) (by rw [eT31]; exact Ar_o33.1) (State.isArrayOf_alike hZ.alike Ar_o33.2.1) Ar_o33.2.2 hin_o33 hat_o33 (g := (mkF m 12 #[.val (.ref a0), .val (.int (12 : Int32)), .val (.int (6 : Int32)), .val (.int (4 : Int32)), .val (.int y15)] [(.int (16 : Int32)), (.ref a0)])) rfl rfl (hb hby d2_12) _ z_) ?_
  show OWay p e below G T31 (mkF m 13 #[.val (.ref a0), .val (.int (12 : Int32)), .val (.int (6 : Int32)), .val (.int (4 : Int32)), .val (.int y15)] [(.int y16)])
  refine ogo (fun _ z_ => XS.istore X31.here hx rfl (hb hby d2_13) rfl (l' := #[.val (.ref a0), .val (.int (12 : Int32)), .val (.int (6 : Int32)), .val (.int (4 : Int32)), .val (.int y16)]) rfl z_) ?_
  show OWay p e below G T31 (mkF m 15 #[.val (.ref a0), .val (.int (12 : Int32)), .val (.int (6 : Int32)), .val (.int (4 : Int32)), .val (.int y16)] [])
  refine ogo (fun _ z_ => XS.aloadN X31.here hx rfl (hb hby d2_15) rfl rfl z_) ?_
  show OWay p e below G T31 (mkF m 16 #[.val (.ref a0), .val (.int (12 : Int32)), .val (.int (6 : Int32)), .val (.int (4 : Int32)), .val (.int y16)] [(.ref a0)])
  refine ogo (fun _ z_ => XS.iloadN X31.here hx rfl (hb hby d2_16) rfl z_) ?_
  show OWay p e below G T31 (mkF m 17 #[.val (.ref a0), .val (.int (12 : Int32)), .val (.int (6 : Int32)), .val (.int (4 : Int32)), .val (.int y16)] [(.int (12 : Int32)), (.ref a0)])
  refine ogo (fun _ z_ => XS.iloadN X31.here hx rfl (hb hby d2_17) rfl z_) ?_
  show OWay p e below G T31 (mkF m 18 #[.val (.ref a0), .val (.int (12 : Int32)), .val (.int (6 : Int32)), .val (.int (4 : Int32)), .val (.int y16)] [(.int (4 : Int32)), (.int (12 : Int32)), (.ref a0)])
  refine ogo (fun _ z_ => XS.iadd X31.here hx rfl (hb hby d2_18) rfl z_) ?_
  show OWay p e below G T31 (mkF m 19 #[.val (.ref a0), .val (.int (12 : Int32)), .val (.int (6 : Int32)), .val (.int (4 : Int32)), .val (.int y16)] [(.int ((12 : Int32) + (4 : Int32))), (.ref a0)])
  refine ogoE (g' := (mkF m 19 #[.val (.ref a0), .val (.int (12 : Int32)), .val (.int (6 : Int32)), .val (.int (4 : Int32)), .val (.int y16)] [(.int (16 : Int32)), (.ref a0)])) (by rw [show ((12 : Int32) + (4 : Int32)) = (16 : Int32) from by decide]) ?_
  refine ogo (fun _ z_ => XS.aloadN X31.here hx rfl (hb hby d2_19) rfl rfl z_) ?_
  show OWay p e below G T31 (mkF m 20 #[.val (.ref a0), .val (.int (12 : Int32)), .val (.int (6 : Int32)), .val (.int (4 : Int32)), .val (.int y16)] [(.ref a0), (.int (16 : Int32)), (.ref a0)])
  refine ogo (fun _ z_ => XS.iloadN X31.here hx rfl (hb hby d2_20) rfl z_) ?_
  show OWay p e below G T31 (mkF m 21 #[.val (.ref a0), .val (.int (12 : Int32)), .val (.int (6 : Int32)), .val (.int (4 : Int32)), .val (.int y16)] [(.int (6 : Int32)), (.ref a0), (.int (16 : Int32)), (.ref a0)])
  refine ogo (fun _ z_ => XS.iloadN X31.here hx rfl (hb hby d2_21) rfl z_) ?_
  show OWay p e below G T31 (mkF m 22 #[.val (.ref a0), .val (.int (12 : Int32)), .val (.int (6 : Int32)), .val (.int (4 : Int32)), .val (.int y16)] [(.int (4 : Int32)), (.int (6 : Int32)), (.ref a0), (.int (16 : Int32)), (.ref a0)])
  refine ogo (fun _ z_ => XS.iadd X31.here hx rfl (hb hby d2_22) rfl z_) ?_
  show OWay p e below G T31 (mkF m 23 #[.val (.ref a0), .val (.int (12 : Int32)), .val (.int (6 : Int32)), .val (.int (4 : Int32)), .val (.int y16)] [(.int ((6 : Int32) + (4 : Int32))), (.ref a0), (.int (16 : Int32)), (.ref a0)])
  refine ogoE (g' := (mkF m 23 #[.val (.ref a0), .val (.int (12 : Int32)), .val (.int (6 : Int32)), .val (.int (4 : Int32)), .val (.int y16)] [(.int (10 : Int32)), (.ref a0), (.int (16 : Int32)), (.ref a0)])) (by rw [show ((6 : Int32) + (4 : Int32)) = (10 : Int32) from by decide]) ?_
  obtain ⟨cl_o34, Ar_o34, q_o34, S_o34, N_o34, H_o34, G_o34⟩ := id V_31
  have hin_o34 : ¬ ((10 : Int32) < 0 ∨ cl_o34.slots.size ≤ ((10 : Int32)).toNatClampNeg) := inb_of S_o34 ⟨by decide, by decide⟩
  have hat_o34 : cl_o34.slots[((10 : Int32)).toNatClampNeg]? = some (.int y10) := H_o34.at hin_o34 rfl
  refine ogo (fun _ z_ => X31.iaload hx (j := (10 : Int32)) (v := (.int y10)) (by rw [eT31]; exact Ar_o34.1) (State.isArrayOf_alike hZ.alike Ar_o34.2.1) Ar_o34.2.2 hin_o34 hat_o34 (g := (mkF m 23 #[.val (.ref a0), .val (.int (12 : Int32)), .val (.int (6 : Int32)), .val (.int (4 : Int32)), .val (.int y16)] [(.int (10 : Int32)), (.ref a0), (.int (16 : Int32)), (.ref a0)])) rfl rfl (hb hby d2_23) _ z_) ?_
  show OWay p e below G T31 (mkF m 24 #[.val (.ref a0), .val (.int (12 : Int32)), .val (.int (6 : Int32)), .val (.int (4 : Int32)), .val (.int y16)] [(.int y10), (.int (16 : Int32)), (.ref a0)])
  obtain ⟨cl_o35, Ar_o35, q_o35, S_o35, N_o35, H_o35, G_o35⟩ := id V_31
  have hin_o35 : ¬ ((16 : Int32) < 0 ∨ cl_o35.slots.size ≤ ((16 : Int32)).toNatClampNeg) := inb_of S_o35 ⟨by decide, by decide⟩
  obtain ⟨T36, h36, X36, eT36, W36, st36⟩ := stI X31 hx hZ eT31 Ar_o35 (j := (16 : Int32)) hin_o35 (g := (mkF m 24 #[.val (.ref a0), .val (.int (12 : Int32)), .val (.int (6 : Int32)), .val (.int (4 : Int32)), .val (.int y16)] [(.int y10), (.int (16 : Int32)), (.ref a0)])) rfl rfl (hb hby d2_24)
  have K37 : Keep h0 h36 [a0] := K32.wr W36 (Or.inl (List.mem_of_getElem? (i := 0) rfl))
  have V_36 : Arv Z h36 a0 kk .int (18 : Int32) [(.int y0), (.int y1), (.int y2), (.int y3), (.int y4), (.int y5), (.int y12), (.int y13), (.int y14), (.int y15), (.int y10), (.int y11), (.int y6), (.int y7), (.int y8), (.int y9), (.int y10), (.int y17)] (.int (0 : Int32)) := Arv.set Ar_o35 q_o35 S_o35 N_o35 H_o35 G_o35 rfl W36 16 rfl (Nat.le_of_ble_eq_true rfl)
  have N36 := Fr.snoc X36 N31 g_a0
  refine ogo st36 ?_
  show OWay p e below G T36 (mkF m 25 #[.val (.ref a0), .val (.int (12 : Int32)), .val (.int (6 : Int32)), .val (.int (4 : Int32)), .val (.int y16)] [])
  refine ogo (fun _ z_ => XS.aloadN X36.here hx rfl (hb hby d2_25) rfl rfl z_) ?_
  show OWay p e below G T36 (mkF m 26 #[.val (.ref a0), .val (.int (12 : Int32)), .val (.int (6 : Int32)), .val (.int (4 : Int32)), .val (.int y16)] [(.ref a0)])
  refine ogo (fun _ z_ => XS.iloadN X36.here hx rfl (hb hby d2_26) rfl z_) ?_
  show OWay p e below G T36 (mkF m 27 #[.val (.ref a0), .val (.int (12 : Int32)), .val (.int (6 : Int32)), .val (.int (4 : Int32)), .val (.int y16)] [(.int (6 : Int32)), (.ref a0)])
  refine ogo (fun _ z_ => XS.iloadN X36.here hx rfl (hb hby d2_27) rfl z_) ?_
  show OWay p e below G T36 (mkF m 28 #[.val (.ref a0), .val (.int (12 : Int32)), .val (.int (6 : Int32)), .val (.int (4 : Int32)), .val (.int y16)] [(.int (4 : Int32)), (.int (6 : Int32)), (.ref a0)])
  refine ogo (fun _ z_ => XS.iadd X36.here hx rfl (hb hby d2_28) rfl z_) ?_
  show OWay p e below G T36 (mkF m 29 #[.val (.ref a0), .val (.int (12 : Int32)), .val (.int (6 : Int32)), .val (.int (4 : Int32)), .val (.int y16)] [(.int ((6 : Int32) + (4 : Int32))), (.ref a0)])
  refine ogoE (g' := (mkF m 29 #[.val (.ref a0), .val (.int (12 : Int32)), .val (.int (6 : Int32)), .val (.int (4 : Int32)), .val (.int y16)] [(.int (10 : Int32)), (.ref a0)])) (by rw [show ((6 : Int32) + (4 : Int32)) = (10 : Int32) from by decide]) ?_
  refine ogo (fun _ z_ => XS.iload X36.here hx rfl (hb hby d2_29) rfl z_) ?_
  show OWay p e below G T36 (mkF m 31 #[.val (.ref a0), .val (.int (12 : Int32)), .val (.int (6 : Int32)), .val (.int (4 : Int32)), .val (.int y16)] [(.int y16), (.int (10 : Int32)), (.ref a0)])
  obtain ⟨cl_o38, Ar_o38, q_o38, S_o38, N_o38, H_o38, G_o38⟩ := id V_36
  have hin_o38 : ¬ ((10 : Int32) < 0 ∨ cl_o38.slots.size ≤ ((10 : Int32)).toNatClampNeg) := inb_of S_o38 ⟨by decide, by decide⟩
  obtain ⟨T39, h39, X39, eT39, W39, st39⟩ := stI X36 hx hZ eT36 Ar_o38 (j := (10 : Int32)) hin_o38 (g := (mkF m 31 #[.val (.ref a0), .val (.int (12 : Int32)), .val (.int (6 : Int32)), .val (.int (4 : Int32)), .val (.int y16)] [(.int y16), (.int (10 : Int32)), (.ref a0)])) rfl rfl (hb hby d2_31)
  have K40 : Keep h0 h39 [a0] := K37.wr W39 (Or.inl (List.mem_of_getElem? (i := 0) rfl))
  have V_39 : Arv Z h39 a0 kk .int (18 : Int32) [(.int y0), (.int y1), (.int y2), (.int y3), (.int y4), (.int y5), (.int y12), (.int y13), (.int y14), (.int y15), (.int y16), (.int y11), (.int y6), (.int y7), (.int y8), (.int y9), (.int y10), (.int y17)] (.int (0 : Int32)) := Arv.set Ar_o38 q_o38 S_o38 N_o38 H_o38 G_o38 rfl W39 10 rfl (Nat.le_of_ble_eq_true rfl)
  have N39 := Fr.snoc X39 N36 g_a0
  refine ogo st39 ?_
  show OWay p e below G T39 (mkF m 32 #[.val (.ref a0), .val (.int (12 : Int32)), .val (.int (6 : Int32)), .val (.int (4 : Int32)), .val (.int y16)] [])
  refine ogo (fun _ z_ => XS.iinc X39.here hx rfl (hb hby d2_32) rfl (l' := #[.val (.ref a0), .val (.int (12 : Int32)), .val (.int (6 : Int32)), .val (.int ((4 : Int32) + (1 : Int32))), .val (.int y16)]) rfl z_) ?_
  show OWay p e below G T39 (mkF m 35 #[.val (.ref a0), .val (.int (12 : Int32)), .val (.int (6 : Int32)), .val (.int ((4 : Int32) + (1 : Int32))), .val (.int y16)] [])
  refine ogoE (g' := (mkF m 35 #[.val (.ref a0), .val (.int (12 : Int32)), .val (.int (6 : Int32)), .val (.int (5 : Int32)), .val (.int y16)] [])) (by rw [show ((4 : Int32) + (1 : Int32)) = (5 : Int32) from by decide]) ?_
  refine ogo (fun _ z_ => XS.goto X39.here hx rfl (pc0 := 35) (pc' := 2) rfl (hb hby d2_35) (by decide) (by decide) z_) ?_
  show OWay p e below G T39 (mkF m 2 #[.val (.ref a0), .val (.int (12 : Int32)), .val (.int (6 : Int32)), .val (.int (5 : Int32)), .val (.int y16)] [])
  refine ogo (fun _ z_ => XS.iloadN X39.here hx rfl (hb hby d2_2) rfl z_) ?_
  show OWay p e below G T39 (mkF m 3 #[.val (.ref a0), .val (.int (12 : Int32)), .val (.int (6 : Int32)), .val (.int (5 : Int32)), .val (.int y16)] [(.int (5 : Int32))])
  refine ogo (fun _ z_ => XS.bipush X39.here hx rfl (hb hby d2_3) z_) ?_
  show OWay p e below G T39 (mkF m 5 #[.val (.ref a0), .val (.int (12 : Int32)), .val (.int (6 : Int32)), .val (.int (5 : Int32)), .val (.int y16)] [(.int (6 : Int32)), (.int (5 : Int32))])
  refine ogo (fun _ z_ => XS.icmpNo X39.here hx rfl (hb hby d2_5) rfl (tlt (by decide)).2.1 z_) ?_
  show OWay p e below G T39 (mkF m 8 #[.val (.ref a0), .val (.int (12 : Int32)), .val (.int (6 : Int32)), .val (.int (5 : Int32)), .val (.int y16)] [])
  refine ogo (fun _ z_ => XS.aloadN X39.here hx rfl (hb hby d2_8) rfl rfl z_) ?_
  show OWay p e below G T39 (mkF m 9 #[.val (.ref a0), .val (.int (12 : Int32)), .val (.int (6 : Int32)), .val (.int (5 : Int32)), .val (.int y16)] [(.ref a0)])
  refine ogo (fun _ z_ => XS.iloadN X39.here hx rfl (hb hby d2_9) rfl z_) ?_
  show OWay p e below G T39 (mkF m 10 #[.val (.ref a0), .val (.int (12 : Int32)), .val (.int (6 : Int32)), .val (.int (5 : Int32)), .val (.int y16)] [(.int (12 : Int32)), (.ref a0)])
  refine ogo (fun _ z_ => XS.iloadN X39.here hx rfl (hb hby d2_10) rfl z_) ?_
  show OWay p e below G T39 (mkF m 11 #[.val (.ref a0), .val (.int (12 : Int32)), .val (.int (6 : Int32)), .val (.int (5 : Int32)), .val (.int y16)] [(.int (5 : Int32)), (.int (12 : Int32)), (.ref a0)])
  refine ogo (fun _ z_ => XS.iadd X39.here hx rfl (hb hby d2_11) rfl z_) ?_
  show OWay p e below G T39 (mkF m 12 #[.val (.ref a0), .val (.int (12 : Int32)), .val (.int (6 : Int32)), .val (.int (5 : Int32)), .val (.int y16)] [(.int ((12 : Int32) + (5 : Int32))), (.ref a0)])
  refine ogoE (g' := (mkF m 12 #[.val (.ref a0), .val (.int (12 : Int32)), .val (.int (6 : Int32)), .val (.int (5 : Int32)), .val (.int y16)] [(.int (17 : Int32)), (.ref a0)])) (by rw [show ((12 : Int32) + (5 : Int32)) = (17 : Int32) from by decide]) ?_
  obtain ⟨cl_o41, Ar_o41, q_o41, S_o41, N_o41, H_o41, G_o41⟩ := id V_39
  have hin_o41 : ¬ ((17 : Int32) < 0 ∨ cl_o41.slots.size ≤ ((17 : Int32)).toNatClampNeg) := inb_of S_o41 ⟨by decide, by decide⟩
  have hat_o41 : cl_o41.slots[((17 : Int32)).toNatClampNeg]? = some (.int y17) := H_o41.at hin_o41 rfl
  refine ogo (fun _ z_ => X39.iaload hx (j := (17 : Int32)) (v := (.int y17)) (by rw [eT39]; exact Ar_o41.1) (State.isArrayOf_alike hZ.alike Ar_o41.2.1) Ar_o41.2.2 hin_o41 hat_o41 (g := (mkF m 12 #[.val (.ref a0), .val (.int (12 : Int32)), .val (.int (6 : Int32)), .val (.int (5 : Int32)), .val (.int y16)] [(.int (17 : Int32)), (.ref a0)])) rfl rfl (hb hby d2_12) _ z_) ?_
  show OWay p e below G T39 (mkF m 13 #[.val (.ref a0), .val (.int (12 : Int32)), .val (.int (6 : Int32)), .val (.int (5 : Int32)), .val (.int y16)] [(.int y17)])
  refine ogo (fun _ z_ => XS.istore X39.here hx rfl (hb hby d2_13) rfl (l' := #[.val (.ref a0), .val (.int (12 : Int32)), .val (.int (6 : Int32)), .val (.int (5 : Int32)), .val (.int y17)]) rfl z_) ?_
  show OWay p e below G T39 (mkF m 15 #[.val (.ref a0), .val (.int (12 : Int32)), .val (.int (6 : Int32)), .val (.int (5 : Int32)), .val (.int y17)] [])
  refine ogo (fun _ z_ => XS.aloadN X39.here hx rfl (hb hby d2_15) rfl rfl z_) ?_
  show OWay p e below G T39 (mkF m 16 #[.val (.ref a0), .val (.int (12 : Int32)), .val (.int (6 : Int32)), .val (.int (5 : Int32)), .val (.int y17)] [(.ref a0)])
  refine ogo (fun _ z_ => XS.iloadN X39.here hx rfl (hb hby d2_16) rfl z_) ?_
  show OWay p e below G T39 (mkF m 17 #[.val (.ref a0), .val (.int (12 : Int32)), .val (.int (6 : Int32)), .val (.int (5 : Int32)), .val (.int y17)] [(.int (12 : Int32)), (.ref a0)])
  refine ogo (fun _ z_ => XS.iloadN X39.here hx rfl (hb hby d2_17) rfl z_) ?_
  show OWay p e below G T39 (mkF m 18 #[.val (.ref a0), .val (.int (12 : Int32)), .val (.int (6 : Int32)), .val (.int (5 : Int32)), .val (.int y17)] [(.int (5 : Int32)), (.int (12 : Int32)), (.ref a0)])
  refine ogo (fun _ z_ => XS.iadd X39.here hx rfl (hb hby d2_18) rfl z_) ?_
  show OWay p e below G T39 (mkF m 19 #[.val (.ref a0), .val (.int (12 : Int32)), .val (.int (6 : Int32)), .val (.int (5 : Int32)), .val (.int y17)] [(.int ((12 : Int32) + (5 : Int32))), (.ref a0)])
  refine ogoE (g' := (mkF m 19 #[.val (.ref a0), .val (.int (12 : Int32)), .val (.int (6 : Int32)), .val (.int (5 : Int32)), .val (.int y17)] [(.int (17 : Int32)), (.ref a0)])) (by rw [show ((12 : Int32) + (5 : Int32)) = (17 : Int32) from by decide]) ?_
  refine ogo (fun _ z_ => XS.aloadN X39.here hx rfl (hb hby d2_19) rfl rfl z_) ?_
  show OWay p e below G T39 (mkF m 20 #[.val (.ref a0), .val (.int (12 : Int32)), .val (.int (6 : Int32)), .val (.int (5 : Int32)), .val (.int y17)] [(.ref a0), (.int (17 : Int32)), (.ref a0)])
  refine ogo (fun _ z_ => XS.iloadN X39.here hx rfl (hb hby d2_20) rfl z_) ?_
  show OWay p e below G T39 (mkF m 21 #[.val (.ref a0), .val (.int (12 : Int32)), .val (.int (6 : Int32)), .val (.int (5 : Int32)), .val (.int y17)] [(.int (6 : Int32)), (.ref a0), (.int (17 : Int32)), (.ref a0)])
  refine ogo (fun _ z_ => XS.iloadN X39.here hx rfl (hb hby d2_21) rfl z_) ?_
  show OWay p e below G T39 (mkF m 22 #[.val (.ref a0), .val (.int (12 : Int32)), .val (.int (6 : Int32)), .val (.int (5 : Int32)), .val (.int y17)] [(.int (5 : Int32)), (.int (6 : Int32)), (.ref a0), (.int (17 : Int32)), (.ref a0)])
  refine ogo (fun _ z_ => XS.iadd X39.here hx rfl (hb hby d2_22) rfl z_) ?_
  show OWay p e below G T39 (mkF m 23 #[.val (.ref a0), .val (.int (12 : Int32)), .val (.int (6 : Int32)), .val (.int (5 : Int32)), .val (.int y17)] [(.int ((6 : Int32) + (5 : Int32))), (.ref a0), (.int (17 : Int32)), (.ref a0)])
  refine ogoE (g' := (mkF m 23 #[.val (.ref a0), .val (.int (12 : Int32)), .val (.int (6 : Int32)), .val (.int (5 : Int32)), .val (.int y17)] [(.int (11 : Int32)), (.ref a0), (.int (17 : Int32)), (.ref a0)])) (by rw [show ((6 : Int32) + (5 : Int32)) = (11 : Int32) from by decide]) ?_
  obtain ⟨cl_o42, Ar_o42, q_o42, S_o42, N_o42, H_o42, G_o42⟩ := id V_39
  have hin_o42 : ¬ ((11 : Int32) < 0 ∨ cl_o42.slots.size ≤ ((11 : Int32)).toNatClampNeg) := inb_of S_o42 ⟨by decide, by decide⟩
  have hat_o42 : cl_o42.slots[((11 : Int32)).toNatClampNeg]? = some (.int y11) := H_o42.at hin_o42 rfl
  refine ogo (fun _ z_ => X39.iaload hx (j := (11 : Int32)) (v := (.int y11)) (by rw [eT39]; exact Ar_o42.1) (State.isArrayOf_alike hZ.alike Ar_o42.2.1) Ar_o42.2.2 hin_o42 hat_o42 (g := (mkF m 23 #[.val (.ref a0), .val (.int (12 : Int32)), .val (.int (6 : Int32)), .val (.int (5 : Int32)), .val (.int y17)] [(.int (11 : Int32)), (.ref a0), (.int (17 : Int32)), (.ref a0)])) rfl rfl (hb hby d2_23) _ z_) ?_
  show OWay p e below G T39 (mkF m 24 #[.val (.ref a0), .val (.int (12 : Int32)), .val (.int (6 : Int32)), .val (.int (5 : Int32)), .val (.int y17)] [(.int y11), (.int (17 : Int32)), (.ref a0)])
  obtain ⟨cl_o43, Ar_o43, q_o43, S_o43, N_o43, H_o43, G_o43⟩ := id V_39
  have hin_o43 : ¬ ((17 : Int32) < 0 ∨ cl_o43.slots.size ≤ ((17 : Int32)).toNatClampNeg) := inb_of S_o43 ⟨by decide, by decide⟩
  obtain ⟨T44, h44, X44, eT44, W44, st44⟩ := stI X39 hx hZ eT39 Ar_o43 (j := (17 : Int32)) hin_o43 (g := (mkF m 24 #[.val (.ref a0), .val (.int (12 : Int32)), .val (.int (6 : Int32)), .val (.int (5 : Int32)), .val (.int y17)] [(.int y11), (.int (17 : Int32)), (.ref a0)])) rfl rfl (hb hby d2_24)
  have K45 : Keep h0 h44 [a0] := K40.wr W44 (Or.inl (List.mem_of_getElem? (i := 0) rfl))
  have V_44 : Arv Z h44 a0 kk .int (18 : Int32) [(.int y0), (.int y1), (.int y2), (.int y3), (.int y4), (.int y5), (.int y12), (.int y13), (.int y14), (.int y15), (.int y16), (.int y11), (.int y6), (.int y7), (.int y8), (.int y9), (.int y10), (.int y11)] (.int (0 : Int32)) := Arv.set Ar_o43 q_o43 S_o43 N_o43 H_o43 G_o43 rfl W44 17 rfl (Nat.le_of_ble_eq_true rfl)
  have N44 := Fr.snoc X44 N39 g_a0
  refine ogo st44 ?_
  show OWay p e below G T44 (mkF m 25 #[.val (.ref a0), .val (.int (12 : Int32)), .val (.int (6 : Int32)), .val (.int (5 : Int32)), .val (.int y17)] [])
  refine ogo (fun _ z_ => XS.aloadN X44.here hx rfl (hb hby d2_25) rfl rfl z_) ?_
  show OWay p e below G T44 (mkF m 26 #[.val (.ref a0), .val (.int (12 : Int32)), .val (.int (6 : Int32)), .val (.int (5 : Int32)), .val (.int y17)] [(.ref a0)])
  refine ogo (fun _ z_ => XS.iloadN X44.here hx rfl (hb hby d2_26) rfl z_) ?_
  show OWay p e below G T44 (mkF m 27 #[.val (.ref a0), .val (.int (12 : Int32)), .val (.int (6 : Int32)), .val (.int (5 : Int32)), .val (.int y17)] [(.int (6 : Int32)), (.ref a0)])
  refine ogo (fun _ z_ => XS.iloadN X44.here hx rfl (hb hby d2_27) rfl z_) ?_
  show OWay p e below G T44 (mkF m 28 #[.val (.ref a0), .val (.int (12 : Int32)), .val (.int (6 : Int32)), .val (.int (5 : Int32)), .val (.int y17)] [(.int (5 : Int32)), (.int (6 : Int32)), (.ref a0)])
  refine ogo (fun _ z_ => XS.iadd X44.here hx rfl (hb hby d2_28) rfl z_) ?_
  show OWay p e below G T44 (mkF m 29 #[.val (.ref a0), .val (.int (12 : Int32)), .val (.int (6 : Int32)), .val (.int (5 : Int32)), .val (.int y17)] [(.int ((6 : Int32) + (5 : Int32))), (.ref a0)])
  refine ogoE (g' := (mkF m 29 #[.val (.ref a0), .val (.int (12 : Int32)), .val (.int (6 : Int32)), .val (.int (5 : Int32)), .val (.int y17)] [(.int (11 : Int32)), (.ref a0)])) (by rw [show ((6 : Int32) + (5 : Int32)) = (11 : Int32) from by decide]) ?_
  refine ogo (fun _ z_ => XS.iload X44.here hx rfl (hb hby d2_29) rfl z_) ?_
  show OWay p e below G T44 (mkF m 31 #[.val (.ref a0), .val (.int (12 : Int32)), .val (.int (6 : Int32)), .val (.int (5 : Int32)), .val (.int y17)] [(.int y17), (.int (11 : Int32)), (.ref a0)])
  obtain ⟨cl_o46, Ar_o46, q_o46, S_o46, N_o46, H_o46, G_o46⟩ := id V_44
  have hin_o46 : ¬ ((11 : Int32) < 0 ∨ cl_o46.slots.size ≤ ((11 : Int32)).toNatClampNeg) := inb_of S_o46 ⟨by decide, by decide⟩
  obtain ⟨T47, h47, X47, eT47, W47, st47⟩ := stI X44 hx hZ eT44 Ar_o46 (j := (11 : Int32)) hin_o46 (g := (mkF m 31 #[.val (.ref a0), .val (.int (12 : Int32)), .val (.int (6 : Int32)), .val (.int (5 : Int32)), .val (.int y17)] [(.int y17), (.int (11 : Int32)), (.ref a0)])) rfl rfl (hb hby d2_31)
  have K48 : Keep h0 h47 [a0] := K45.wr W47 (Or.inl (List.mem_of_getElem? (i := 0) rfl))
  have V_47 : Arv Z h47 a0 kk .int (18 : Int32) [(.int y0), (.int y1), (.int y2), (.int y3), (.int y4), (.int y5), (.int y12), (.int y13), (.int y14), (.int y15), (.int y16), (.int y17), (.int y6), (.int y7), (.int y8), (.int y9), (.int y10), (.int y11)] (.int (0 : Int32)) := Arv.set Ar_o46 q_o46 S_o46 N_o46 H_o46 G_o46 rfl W47 11 rfl (Nat.le_of_ble_eq_true rfl)
  have N47 := Fr.snoc X47 N44 g_a0
  refine ogo st47 ?_
  show OWay p e below G T47 (mkF m 32 #[.val (.ref a0), .val (.int (12 : Int32)), .val (.int (6 : Int32)), .val (.int (5 : Int32)), .val (.int y17)] [])
  refine ogo (fun _ z_ => XS.iinc X47.here hx rfl (hb hby d2_32) rfl (l' := #[.val (.ref a0), .val (.int (12 : Int32)), .val (.int (6 : Int32)), .val (.int ((5 : Int32) + (1 : Int32))), .val (.int y17)]) rfl z_) ?_
  show OWay p e below G T47 (mkF m 35 #[.val (.ref a0), .val (.int (12 : Int32)), .val (.int (6 : Int32)), .val (.int ((5 : Int32) + (1 : Int32))), .val (.int y17)] [])
  refine ogoE (g' := (mkF m 35 #[.val (.ref a0), .val (.int (12 : Int32)), .val (.int (6 : Int32)), .val (.int (6 : Int32)), .val (.int y17)] [])) (by rw [show ((5 : Int32) + (1 : Int32)) = (6 : Int32) from by decide]) ?_
  refine ogo (fun _ z_ => XS.goto X47.here hx rfl (pc0 := 35) (pc' := 2) rfl (hb hby d2_35) (by decide) (by decide) z_) ?_
  show OWay p e below G T47 (mkF m 2 #[.val (.ref a0), .val (.int (12 : Int32)), .val (.int (6 : Int32)), .val (.int (6 : Int32)), .val (.int y17)] [])
  refine ogo (fun _ z_ => XS.iloadN X47.here hx rfl (hb hby d2_2) rfl z_) ?_
  show OWay p e below G T47 (mkF m 3 #[.val (.ref a0), .val (.int (12 : Int32)), .val (.int (6 : Int32)), .val (.int (6 : Int32)), .val (.int y17)] [(.int (6 : Int32))])
  refine ogo (fun _ z_ => XS.bipush X47.here hx rfl (hb hby d2_3) z_) ?_
  show OWay p e below G T47 (mkF m 5 #[.val (.ref a0), .val (.int (12 : Int32)), .val (.int (6 : Int32)), .val (.int (6 : Int32)), .val (.int y17)] [(.int (6 : Int32)), (.int (6 : Int32))])
  refine ogo (fun _ z_ => XS.icmpYes X47.here hx rfl (pc0 := 5) (pc' := 38) rfl (hb hby d2_5) rfl (flt (by decide)).2.1 (by decide) (by decide) z_) ?_
  show OWay p e below G T47 (mkF m 38 #[.val (.ref a0), .val (.int (12 : Int32)), .val (.int (6 : Int32)), .val (.int (6 : Int32)), .val (.int y17)] [])
  subst hG
  refine wRetV X47 hx hret hlk (hb hby d2_38) (by decide) (by decide) eT47 ?_
  exact ⟨rfl, N47, K48, V_47⟩
def swap22_rm : Room := { frames := 0, cells := 0, slots := 0, locals := 0 }
def swap22_Q (Z : State) (a0 : Addr) (kk : ClassId) (y0 : Int32) (y1 : Int32) (y2 : Int32) (y3 : Int32) (y4 : Int32) (y5 : Int32) (y6 : Int32) (y7 : Int32) (y8 : Int32) (y9 : Int32) (y10 : Int32) (y11 : Int32) (y12 : Int32) (y13 : Int32) (y14 : Int32) (y15 : Int32) (y16 : Int32) (y17 : Int32) (h0 : Heap) (n0 : Nat) (v : Option Value) (h : Heap) (L : List Loc) : Prop := (v = none) ∧ (Fr n0 L) ∧ (Keep h0 h [a0]) ∧ (Arv Z h a0 kk .int (18 : Int32) [(.int y0), (.int y1), (.int y2), (.int y3), (.int y4), (.int y5), (.int y6), (.int y7), (.int y8), (.int y9), (.int y10), (.int y11), (.int y12), (.int y13), (.int y14), (.int y15), (.int y16), (.int y17)] (.int (0 : Int32)))
theorem swap22_ef (m : MethodId) (a0 : Addr) : entryFrame m #[(.ref a0), (.int (12 : Int32)), (.int (12 : Int32))] 5 = mkF m 0 #[.val (.ref a0), .val (.int (12 : Int32)), .val (.int (12 : Int32)), .unset, .unset] [] := by first | (simp [entryFrame, mkF, argsToLocals, Value.category]; done) | rfl
set_option maxRecDepth 65536 in
set_option maxHeartbeats 40000000 in
theorem swap22_c (l : Launch) (Z : State) (az : Array Value) (hw : ∀ d ∈ tables_1, d.before az Z = true) (ws : List Jvm.Cond) (a0 : Addr) (kk : ClassId) (y0 : Int32) (y1 : Int32) (y2 : Int32) (y3 : Int32) (y4 : Int32) (y5 : Int32) (y6 : Int32) (y7 : Int32) (y8 : Int32) (y9 : Int32) (y10 : Int32) (y11 : Int32) (y12 : Int32) (y13 : Int32) (y14 : Int32) (y15 : Int32) (y16 : Int32) (y17 : Int32) (h0 : Heap) (n0 : Nat) (Z0 : n0 ≤ h0.size) (hp0 : Arv Z h0 a0 kk .int (18 : Int32) [(.int y0), (.int y1), (.int y2), (.int y3), (.int y4), (.int y5), (.int y6), (.int y7), (.int y8), (.int y9), (.int y10), (.int y11), (.int y12), (.int y13), (.int y14), (.int y15), (.int y16), (.int y17)] (.int (0 : Int32))) (hp1 : n0 ≤ a0) :
    OCon l (⟨"com/example/geotide/geotide/Members", "swap", "([III)V"⟩ : MethodName) prog_44_method_8_code 5 none ws swap22_rm Z #[(.ref a0), (.int (12 : Int32)), (.int (12 : Int32))] h0 (swap22_Q Z a0 kk y0 y1 y2 y3 y4 y5 y6 y7 y8 y9 y10 y11 y12 y13 y14 y15 y16 y17 h0 n0) := by
  refine ocon (plainFor_of_name pn_com_example_geotide_geotide_Members) ?_
  intro p e s m below meth c s₁ hx hby hml hown hnm hret hlk hZ X0 eh0
  have N0 := Fr.nil n0
  have K0 := Keep.refl h0 [a0]
  refine ogoE (swap22_ef m a0) ?_
  have g_a0 := hp1
  generalize hG : (OEnd s below (swap22_Q Z a0 kk y0 y1 y2 y3 y4 y5 y6 y7 y8 y9 y10 y11 y12 y13 y14 y15 y16 y17 h0 n0) swap22_rm.cells swap22_rm.slots) = G
  show OWay p e below G s₁ (mkF m 0 #[.val (.ref a0), .val (.int (12 : Int32)), .val (.int (12 : Int32)), .unset, .unset] [])
  refine ogo (fun _ z_ => XS.iconst X0.here hx rfl (hb hby d2_0) z_) ?_
  show OWay p e below G s₁ (mkF m 1 #[.val (.ref a0), .val (.int (12 : Int32)), .val (.int (12 : Int32)), .unset, .unset] [(.int (0 : Int32))])
  refine ogo (fun _ z_ => XS.istoreN X0.here hx rfl (hb hby d2_1) rfl (l' := #[.val (.ref a0), .val (.int (12 : Int32)), .val (.int (12 : Int32)), .val (.int (0 : Int32)), .unset]) rfl z_) ?_
  show OWay p e below G s₁ (mkF m 2 #[.val (.ref a0), .val (.int (12 : Int32)), .val (.int (12 : Int32)), .val (.int (0 : Int32)), .unset] [])
  refine ogo (fun _ z_ => XS.iloadN X0.here hx rfl (hb hby d2_2) rfl z_) ?_
  show OWay p e below G s₁ (mkF m 3 #[.val (.ref a0), .val (.int (12 : Int32)), .val (.int (12 : Int32)), .val (.int (0 : Int32)), .unset] [(.int (0 : Int32))])
  refine ogo (fun _ z_ => XS.bipush X0.here hx rfl (hb hby d2_3) z_) ?_
  show OWay p e below G s₁ (mkF m 5 #[.val (.ref a0), .val (.int (12 : Int32)), .val (.int (12 : Int32)), .val (.int (0 : Int32)), .unset] [(.int (6 : Int32)), (.int (0 : Int32))])
  refine ogo (fun _ z_ => XS.icmpNo X0.here hx rfl (hb hby d2_5) rfl (tlt (by decide)).2.1 z_) ?_
  show OWay p e below G s₁ (mkF m 8 #[.val (.ref a0), .val (.int (12 : Int32)), .val (.int (12 : Int32)), .val (.int (0 : Int32)), .unset] [])
  refine ogo (fun _ z_ => XS.aloadN X0.here hx rfl (hb hby d2_8) rfl rfl z_) ?_
  show OWay p e below G s₁ (mkF m 9 #[.val (.ref a0), .val (.int (12 : Int32)), .val (.int (12 : Int32)), .val (.int (0 : Int32)), .unset] [(.ref a0)])
  refine ogo (fun _ z_ => XS.iloadN X0.here hx rfl (hb hby d2_9) rfl z_) ?_
  show OWay p e below G s₁ (mkF m 10 #[.val (.ref a0), .val (.int (12 : Int32)), .val (.int (12 : Int32)), .val (.int (0 : Int32)), .unset] [(.int (12 : Int32)), (.ref a0)])
  refine ogo (fun _ z_ => XS.iloadN X0.here hx rfl (hb hby d2_10) rfl z_) ?_
  show OWay p e below G s₁ (mkF m 11 #[.val (.ref a0), .val (.int (12 : Int32)), .val (.int (12 : Int32)), .val (.int (0 : Int32)), .unset] [(.int (0 : Int32)), (.int (12 : Int32)), (.ref a0)])
  refine ogo (fun _ z_ => XS.iadd X0.here hx rfl (hb hby d2_11) rfl z_) ?_
  show OWay p e below G s₁ (mkF m 12 #[.val (.ref a0), .val (.int (12 : Int32)), .val (.int (12 : Int32)), .val (.int (0 : Int32)), .unset] [(.int ((12 : Int32) + (0 : Int32))), (.ref a0)])
  refine ogoE (g' := (mkF m 12 #[.val (.ref a0), .val (.int (12 : Int32)), .val (.int (12 : Int32)), .val (.int (0 : Int32)), .unset] [(.int (12 : Int32)), (.ref a0)])) (by rw [show ((12 : Int32) + (0 : Int32)) = (12 : Int32) from by decide]) ?_
  obtain ⟨cl_o1, Ar_o1, q_o1, S_o1, N_o1, H_o1, G_o1⟩ := id hp0
  have hin_o1 : ¬ ((12 : Int32) < 0 ∨ cl_o1.slots.size ≤ ((12 : Int32)).toNatClampNeg) := inb_of S_o1 ⟨by decide, by decide⟩
  have hat_o1 : cl_o1.slots[((12 : Int32)).toNatClampNeg]? = some (.int y12) := H_o1.at hin_o1 rfl
  refine ogo (fun _ z_ => X0.iaload hx (j := (12 : Int32)) (v := (.int y12)) (by rw [eh0]; exact Ar_o1.1) (State.isArrayOf_alike hZ.alike Ar_o1.2.1) Ar_o1.2.2 hin_o1 hat_o1 (g := (mkF m 12 #[.val (.ref a0), .val (.int (12 : Int32)), .val (.int (12 : Int32)), .val (.int (0 : Int32)), .unset] [(.int (12 : Int32)), (.ref a0)])) rfl rfl (hb hby d2_12) _ z_) ?_
  show OWay p e below G s₁ (mkF m 13 #[.val (.ref a0), .val (.int (12 : Int32)), .val (.int (12 : Int32)), .val (.int (0 : Int32)), .unset] [(.int y12)])
  refine ogo (fun _ z_ => XS.istore X0.here hx rfl (hb hby d2_13) rfl (l' := #[.val (.ref a0), .val (.int (12 : Int32)), .val (.int (12 : Int32)), .val (.int (0 : Int32)), .val (.int y12)]) rfl z_) ?_
  show OWay p e below G s₁ (mkF m 15 #[.val (.ref a0), .val (.int (12 : Int32)), .val (.int (12 : Int32)), .val (.int (0 : Int32)), .val (.int y12)] [])
  refine ogo (fun _ z_ => XS.aloadN X0.here hx rfl (hb hby d2_15) rfl rfl z_) ?_
  show OWay p e below G s₁ (mkF m 16 #[.val (.ref a0), .val (.int (12 : Int32)), .val (.int (12 : Int32)), .val (.int (0 : Int32)), .val (.int y12)] [(.ref a0)])
  refine ogo (fun _ z_ => XS.iloadN X0.here hx rfl (hb hby d2_16) rfl z_) ?_
  show OWay p e below G s₁ (mkF m 17 #[.val (.ref a0), .val (.int (12 : Int32)), .val (.int (12 : Int32)), .val (.int (0 : Int32)), .val (.int y12)] [(.int (12 : Int32)), (.ref a0)])
  refine ogo (fun _ z_ => XS.iloadN X0.here hx rfl (hb hby d2_17) rfl z_) ?_
  show OWay p e below G s₁ (mkF m 18 #[.val (.ref a0), .val (.int (12 : Int32)), .val (.int (12 : Int32)), .val (.int (0 : Int32)), .val (.int y12)] [(.int (0 : Int32)), (.int (12 : Int32)), (.ref a0)])
  refine ogo (fun _ z_ => XS.iadd X0.here hx rfl (hb hby d2_18) rfl z_) ?_
  show OWay p e below G s₁ (mkF m 19 #[.val (.ref a0), .val (.int (12 : Int32)), .val (.int (12 : Int32)), .val (.int (0 : Int32)), .val (.int y12)] [(.int ((12 : Int32) + (0 : Int32))), (.ref a0)])
  refine ogoE (g' := (mkF m 19 #[.val (.ref a0), .val (.int (12 : Int32)), .val (.int (12 : Int32)), .val (.int (0 : Int32)), .val (.int y12)] [(.int (12 : Int32)), (.ref a0)])) (by rw [show ((12 : Int32) + (0 : Int32)) = (12 : Int32) from by decide]) ?_
  refine ogo (fun _ z_ => XS.aloadN X0.here hx rfl (hb hby d2_19) rfl rfl z_) ?_
  show OWay p e below G s₁ (mkF m 20 #[.val (.ref a0), .val (.int (12 : Int32)), .val (.int (12 : Int32)), .val (.int (0 : Int32)), .val (.int y12)] [(.ref a0), (.int (12 : Int32)), (.ref a0)])
  refine ogo (fun _ z_ => XS.iloadN X0.here hx rfl (hb hby d2_20) rfl z_) ?_
  show OWay p e below G s₁ (mkF m 21 #[.val (.ref a0), .val (.int (12 : Int32)), .val (.int (12 : Int32)), .val (.int (0 : Int32)), .val (.int y12)] [(.int (12 : Int32)), (.ref a0), (.int (12 : Int32)), (.ref a0)])
  refine ogo (fun _ z_ => XS.iloadN X0.here hx rfl (hb hby d2_21) rfl z_) ?_
  show OWay p e below G s₁ (mkF m 22 #[.val (.ref a0), .val (.int (12 : Int32)), .val (.int (12 : Int32)), .val (.int (0 : Int32)), .val (.int y12)] [(.int (0 : Int32)), (.int (12 : Int32)), (.ref a0), (.int (12 : Int32)), (.ref a0)])
  refine ogo (fun _ z_ => XS.iadd X0.here hx rfl (hb hby d2_22) rfl z_) ?_
  show OWay p e below G s₁ (mkF m 23 #[.val (.ref a0), .val (.int (12 : Int32)), .val (.int (12 : Int32)), .val (.int (0 : Int32)), .val (.int y12)] [(.int ((12 : Int32) + (0 : Int32))), (.ref a0), (.int (12 : Int32)), (.ref a0)])
  refine ogoE (g' := (mkF m 23 #[.val (.ref a0), .val (.int (12 : Int32)), .val (.int (12 : Int32)), .val (.int (0 : Int32)), .val (.int y12)] [(.int (12 : Int32)), (.ref a0), (.int (12 : Int32)), (.ref a0)])) (by rw [show ((12 : Int32) + (0 : Int32)) = (12 : Int32) from by decide]) ?_
  obtain ⟨cl_o2, Ar_o2, q_o2, S_o2, N_o2, H_o2, G_o2⟩ := id hp0
  have hin_o2 : ¬ ((12 : Int32) < 0 ∨ cl_o2.slots.size ≤ ((12 : Int32)).toNatClampNeg) := inb_of S_o2 ⟨by decide, by decide⟩
  have hat_o2 : cl_o2.slots[((12 : Int32)).toNatClampNeg]? = some (.int y12) := H_o2.at hin_o2 rfl
  refine ogo (fun _ z_ => X0.iaload hx (j := (12 : Int32)) (v := (.int y12)) (by rw [eh0]; exact Ar_o2.1) (State.isArrayOf_alike hZ.alike Ar_o2.2.1) Ar_o2.2.2 hin_o2 hat_o2 (g := (mkF m 23 #[.val (.ref a0), .val (.int (12 : Int32)), .val (.int (12 : Int32)), .val (.int (0 : Int32)), .val (.int y12)] [(.int (12 : Int32)), (.ref a0), (.int (12 : Int32)), (.ref a0)])) rfl rfl (hb hby d2_23) _ z_) ?_
  show OWay p e below G s₁ (mkF m 24 #[.val (.ref a0), .val (.int (12 : Int32)), .val (.int (12 : Int32)), .val (.int (0 : Int32)), .val (.int y12)] [(.int y12), (.int (12 : Int32)), (.ref a0)])
  obtain ⟨cl_o3, Ar_o3, q_o3, S_o3, N_o3, H_o3, G_o3⟩ := id hp0
  have hin_o3 : ¬ ((12 : Int32) < 0 ∨ cl_o3.slots.size ≤ ((12 : Int32)).toNatClampNeg) := inb_of S_o3 ⟨by decide, by decide⟩
  obtain ⟨T4, h4, X4, eT4, W4, st4⟩ := stI X0 hx hZ eh0 Ar_o3 (j := (12 : Int32)) hin_o3 (g := (mkF m 24 #[.val (.ref a0), .val (.int (12 : Int32)), .val (.int (12 : Int32)), .val (.int (0 : Int32)), .val (.int y12)] [(.int y12), (.int (12 : Int32)), (.ref a0)])) rfl rfl (hb hby d2_24)
  have K5 : Keep h0 h4 [a0] := K0.wr W4 (Or.inl (List.mem_of_getElem? (i := 0) rfl))
  have V_4 : Arv Z h4 a0 kk .int (18 : Int32) [(.int y0), (.int y1), (.int y2), (.int y3), (.int y4), (.int y5), (.int y6), (.int y7), (.int y8), (.int y9), (.int y10), (.int y11), (.int y12), (.int y13), (.int y14), (.int y15), (.int y16), (.int y17)] (.int (0 : Int32)) := Arv.set Ar_o3 q_o3 S_o3 N_o3 H_o3 G_o3 rfl W4 12 rfl (Nat.le_of_ble_eq_true rfl)
  have N4 := Fr.snoc X4 N0 g_a0
  refine ogo st4 ?_
  show OWay p e below G T4 (mkF m 25 #[.val (.ref a0), .val (.int (12 : Int32)), .val (.int (12 : Int32)), .val (.int (0 : Int32)), .val (.int y12)] [])
  refine ogo (fun _ z_ => XS.aloadN X4.here hx rfl (hb hby d2_25) rfl rfl z_) ?_
  show OWay p e below G T4 (mkF m 26 #[.val (.ref a0), .val (.int (12 : Int32)), .val (.int (12 : Int32)), .val (.int (0 : Int32)), .val (.int y12)] [(.ref a0)])
  refine ogo (fun _ z_ => XS.iloadN X4.here hx rfl (hb hby d2_26) rfl z_) ?_
  show OWay p e below G T4 (mkF m 27 #[.val (.ref a0), .val (.int (12 : Int32)), .val (.int (12 : Int32)), .val (.int (0 : Int32)), .val (.int y12)] [(.int (12 : Int32)), (.ref a0)])
  refine ogo (fun _ z_ => XS.iloadN X4.here hx rfl (hb hby d2_27) rfl z_) ?_
  show OWay p e below G T4 (mkF m 28 #[.val (.ref a0), .val (.int (12 : Int32)), .val (.int (12 : Int32)), .val (.int (0 : Int32)), .val (.int y12)] [(.int (0 : Int32)), (.int (12 : Int32)), (.ref a0)])
  refine ogo (fun _ z_ => XS.iadd X4.here hx rfl (hb hby d2_28) rfl z_) ?_
  show OWay p e below G T4 (mkF m 29 #[.val (.ref a0), .val (.int (12 : Int32)), .val (.int (12 : Int32)), .val (.int (0 : Int32)), .val (.int y12)] [(.int ((12 : Int32) + (0 : Int32))), (.ref a0)])
  refine ogoE (g' := (mkF m 29 #[.val (.ref a0), .val (.int (12 : Int32)), .val (.int (12 : Int32)), .val (.int (0 : Int32)), .val (.int y12)] [(.int (12 : Int32)), (.ref a0)])) (by rw [show ((12 : Int32) + (0 : Int32)) = (12 : Int32) from by decide]) ?_
  refine ogo (fun _ z_ => XS.iload X4.here hx rfl (hb hby d2_29) rfl z_) ?_
  show OWay p e below G T4 (mkF m 31 #[.val (.ref a0), .val (.int (12 : Int32)), .val (.int (12 : Int32)), .val (.int (0 : Int32)), .val (.int y12)] [(.int y12), (.int (12 : Int32)), (.ref a0)])
  obtain ⟨cl_o6, Ar_o6, q_o6, S_o6, N_o6, H_o6, G_o6⟩ := id V_4
  have hin_o6 : ¬ ((12 : Int32) < 0 ∨ cl_o6.slots.size ≤ ((12 : Int32)).toNatClampNeg) := inb_of S_o6 ⟨by decide, by decide⟩
  obtain ⟨T7, h7, X7, eT7, W7, st7⟩ := stI X4 hx hZ eT4 Ar_o6 (j := (12 : Int32)) hin_o6 (g := (mkF m 31 #[.val (.ref a0), .val (.int (12 : Int32)), .val (.int (12 : Int32)), .val (.int (0 : Int32)), .val (.int y12)] [(.int y12), (.int (12 : Int32)), (.ref a0)])) rfl rfl (hb hby d2_31)
  have K8 : Keep h0 h7 [a0] := K5.wr W7 (Or.inl (List.mem_of_getElem? (i := 0) rfl))
  have V_7 : Arv Z h7 a0 kk .int (18 : Int32) [(.int y0), (.int y1), (.int y2), (.int y3), (.int y4), (.int y5), (.int y6), (.int y7), (.int y8), (.int y9), (.int y10), (.int y11), (.int y12), (.int y13), (.int y14), (.int y15), (.int y16), (.int y17)] (.int (0 : Int32)) := Arv.set Ar_o6 q_o6 S_o6 N_o6 H_o6 G_o6 rfl W7 12 rfl (Nat.le_of_ble_eq_true rfl)
  have N7 := Fr.snoc X7 N4 g_a0
  refine ogo st7 ?_
  show OWay p e below G T7 (mkF m 32 #[.val (.ref a0), .val (.int (12 : Int32)), .val (.int (12 : Int32)), .val (.int (0 : Int32)), .val (.int y12)] [])
  refine ogo (fun _ z_ => XS.iinc X7.here hx rfl (hb hby d2_32) rfl (l' := #[.val (.ref a0), .val (.int (12 : Int32)), .val (.int (12 : Int32)), .val (.int ((0 : Int32) + (1 : Int32))), .val (.int y12)]) rfl z_) ?_
  show OWay p e below G T7 (mkF m 35 #[.val (.ref a0), .val (.int (12 : Int32)), .val (.int (12 : Int32)), .val (.int ((0 : Int32) + (1 : Int32))), .val (.int y12)] [])
  refine ogoE (g' := (mkF m 35 #[.val (.ref a0), .val (.int (12 : Int32)), .val (.int (12 : Int32)), .val (.int (1 : Int32)), .val (.int y12)] [])) (by rw [show ((0 : Int32) + (1 : Int32)) = (1 : Int32) from by decide]) ?_
  refine ogo (fun _ z_ => XS.goto X7.here hx rfl (pc0 := 35) (pc' := 2) rfl (hb hby d2_35) (by decide) (by decide) z_) ?_
  show OWay p e below G T7 (mkF m 2 #[.val (.ref a0), .val (.int (12 : Int32)), .val (.int (12 : Int32)), .val (.int (1 : Int32)), .val (.int y12)] [])
  refine ogo (fun _ z_ => XS.iloadN X7.here hx rfl (hb hby d2_2) rfl z_) ?_
  show OWay p e below G T7 (mkF m 3 #[.val (.ref a0), .val (.int (12 : Int32)), .val (.int (12 : Int32)), .val (.int (1 : Int32)), .val (.int y12)] [(.int (1 : Int32))])
  refine ogo (fun _ z_ => XS.bipush X7.here hx rfl (hb hby d2_3) z_) ?_
  show OWay p e below G T7 (mkF m 5 #[.val (.ref a0), .val (.int (12 : Int32)), .val (.int (12 : Int32)), .val (.int (1 : Int32)), .val (.int y12)] [(.int (6 : Int32)), (.int (1 : Int32))])
  refine ogo (fun _ z_ => XS.icmpNo X7.here hx rfl (hb hby d2_5) rfl (tlt (by decide)).2.1 z_) ?_
  show OWay p e below G T7 (mkF m 8 #[.val (.ref a0), .val (.int (12 : Int32)), .val (.int (12 : Int32)), .val (.int (1 : Int32)), .val (.int y12)] [])
  refine ogo (fun _ z_ => XS.aloadN X7.here hx rfl (hb hby d2_8) rfl rfl z_) ?_
  show OWay p e below G T7 (mkF m 9 #[.val (.ref a0), .val (.int (12 : Int32)), .val (.int (12 : Int32)), .val (.int (1 : Int32)), .val (.int y12)] [(.ref a0)])
  refine ogo (fun _ z_ => XS.iloadN X7.here hx rfl (hb hby d2_9) rfl z_) ?_
  show OWay p e below G T7 (mkF m 10 #[.val (.ref a0), .val (.int (12 : Int32)), .val (.int (12 : Int32)), .val (.int (1 : Int32)), .val (.int y12)] [(.int (12 : Int32)), (.ref a0)])
  refine ogo (fun _ z_ => XS.iloadN X7.here hx rfl (hb hby d2_10) rfl z_) ?_
  show OWay p e below G T7 (mkF m 11 #[.val (.ref a0), .val (.int (12 : Int32)), .val (.int (12 : Int32)), .val (.int (1 : Int32)), .val (.int y12)] [(.int (1 : Int32)), (.int (12 : Int32)), (.ref a0)])
  refine ogo (fun _ z_ => XS.iadd X7.here hx rfl (hb hby d2_11) rfl z_) ?_
  show OWay p e below G T7 (mkF m 12 #[.val (.ref a0), .val (.int (12 : Int32)), .val (.int (12 : Int32)), .val (.int (1 : Int32)), .val (.int y12)] [(.int ((12 : Int32) + (1 : Int32))), (.ref a0)])
  refine ogoE (g' := (mkF m 12 #[.val (.ref a0), .val (.int (12 : Int32)), .val (.int (12 : Int32)), .val (.int (1 : Int32)), .val (.int y12)] [(.int (13 : Int32)), (.ref a0)])) (by rw [show ((12 : Int32) + (1 : Int32)) = (13 : Int32) from by decide]) ?_
  obtain ⟨cl_o9, Ar_o9, q_o9, S_o9, N_o9, H_o9, G_o9⟩ := id V_7
  have hin_o9 : ¬ ((13 : Int32) < 0 ∨ cl_o9.slots.size ≤ ((13 : Int32)).toNatClampNeg) := inb_of S_o9 ⟨by decide, by decide⟩
  have hat_o9 : cl_o9.slots[((13 : Int32)).toNatClampNeg]? = some (.int y13) := H_o9.at hin_o9 rfl
  refine ogo (fun _ z_ => X7.iaload hx (j := (13 : Int32)) (v := (.int y13)) (by rw [eT7]; exact Ar_o9.1) (State.isArrayOf_alike hZ.alike Ar_o9.2.1) Ar_o9.2.2 hin_o9 hat_o9 (g := (mkF m 12 #[.val (.ref a0), .val (.int (12 : Int32)), .val (.int (12 : Int32)), .val (.int (1 : Int32)), .val (.int y12)] [(.int (13 : Int32)), (.ref a0)])) rfl rfl (hb hby d2_12) _ z_) ?_
  show OWay p e below G T7 (mkF m 13 #[.val (.ref a0), .val (.int (12 : Int32)), .val (.int (12 : Int32)), .val (.int (1 : Int32)), .val (.int y12)] [(.int y13)])
  refine ogo (fun _ z_ => XS.istore X7.here hx rfl (hb hby d2_13) rfl (l' := #[.val (.ref a0), .val (.int (12 : Int32)), .val (.int (12 : Int32)), .val (.int (1 : Int32)), .val (.int y13)]) rfl z_) ?_
  show OWay p e below G T7 (mkF m 15 #[.val (.ref a0), .val (.int (12 : Int32)), .val (.int (12 : Int32)), .val (.int (1 : Int32)), .val (.int y13)] [])
  refine ogo (fun _ z_ => XS.aloadN X7.here hx rfl (hb hby d2_15) rfl rfl z_) ?_
  show OWay p e below G T7 (mkF m 16 #[.val (.ref a0), .val (.int (12 : Int32)), .val (.int (12 : Int32)), .val (.int (1 : Int32)), .val (.int y13)] [(.ref a0)])
  refine ogo (fun _ z_ => XS.iloadN X7.here hx rfl (hb hby d2_16) rfl z_) ?_
  show OWay p e below G T7 (mkF m 17 #[.val (.ref a0), .val (.int (12 : Int32)), .val (.int (12 : Int32)), .val (.int (1 : Int32)), .val (.int y13)] [(.int (12 : Int32)), (.ref a0)])
  refine ogo (fun _ z_ => XS.iloadN X7.here hx rfl (hb hby d2_17) rfl z_) ?_
  show OWay p e below G T7 (mkF m 18 #[.val (.ref a0), .val (.int (12 : Int32)), .val (.int (12 : Int32)), .val (.int (1 : Int32)), .val (.int y13)] [(.int (1 : Int32)), (.int (12 : Int32)), (.ref a0)])
  refine ogo (fun _ z_ => XS.iadd X7.here hx rfl (hb hby d2_18) rfl z_) ?_
  show OWay p e below G T7 (mkF m 19 #[.val (.ref a0), .val (.int (12 : Int32)), .val (.int (12 : Int32)), .val (.int (1 : Int32)), .val (.int y13)] [(.int ((12 : Int32) + (1 : Int32))), (.ref a0)])
  refine ogoE (g' := (mkF m 19 #[.val (.ref a0), .val (.int (12 : Int32)), .val (.int (12 : Int32)), .val (.int (1 : Int32)), .val (.int y13)] [(.int (13 : Int32)), (.ref a0)])) (by rw [show ((12 : Int32) + (1 : Int32)) = (13 : Int32) from by decide]) ?_
  refine ogo (fun _ z_ => XS.aloadN X7.here hx rfl (hb hby d2_19) rfl rfl z_) ?_
  show OWay p e below G T7 (mkF m 20 #[.val (.ref a0), .val (.int (12 : Int32)), .val (.int (12 : Int32)), .val (.int (1 : Int32)), .val (.int y13)] [(.ref a0), (.int (13 : Int32)), (.ref a0)])
  refine ogo (fun _ z_ => XS.iloadN X7.here hx rfl (hb hby d2_20) rfl z_) ?_
  show OWay p e below G T7 (mkF m 21 #[.val (.ref a0), .val (.int (12 : Int32)), .val (.int (12 : Int32)), .val (.int (1 : Int32)), .val (.int y13)] [(.int (12 : Int32)), (.ref a0), (.int (13 : Int32)), (.ref a0)])
  refine ogo (fun _ z_ => XS.iloadN X7.here hx rfl (hb hby d2_21) rfl z_) ?_
  show OWay p e below G T7 (mkF m 22 #[.val (.ref a0), .val (.int (12 : Int32)), .val (.int (12 : Int32)), .val (.int (1 : Int32)), .val (.int y13)] [(.int (1 : Int32)), (.int (12 : Int32)), (.ref a0), (.int (13 : Int32)), (.ref a0)])
  refine ogo (fun _ z_ => XS.iadd X7.here hx rfl (hb hby d2_22) rfl z_) ?_
  show OWay p e below G T7 (mkF m 23 #[.val (.ref a0), .val (.int (12 : Int32)), .val (.int (12 : Int32)), .val (.int (1 : Int32)), .val (.int y13)] [(.int ((12 : Int32) + (1 : Int32))), (.ref a0), (.int (13 : Int32)), (.ref a0)])
  refine ogoE (g' := (mkF m 23 #[.val (.ref a0), .val (.int (12 : Int32)), .val (.int (12 : Int32)), .val (.int (1 : Int32)), .val (.int y13)] [(.int (13 : Int32)), (.ref a0), (.int (13 : Int32)), (.ref a0)])) (by rw [show ((12 : Int32) + (1 : Int32)) = (13 : Int32) from by decide]) ?_
  obtain ⟨cl_o10, Ar_o10, q_o10, S_o10, N_o10, H_o10, G_o10⟩ := id V_7
  have hin_o10 : ¬ ((13 : Int32) < 0 ∨ cl_o10.slots.size ≤ ((13 : Int32)).toNatClampNeg) := inb_of S_o10 ⟨by decide, by decide⟩
  have hat_o10 : cl_o10.slots[((13 : Int32)).toNatClampNeg]? = some (.int y13) := H_o10.at hin_o10 rfl
  refine ogo (fun _ z_ => X7.iaload hx (j := (13 : Int32)) (v := (.int y13)) (by rw [eT7]; exact Ar_o10.1) (State.isArrayOf_alike hZ.alike Ar_o10.2.1) Ar_o10.2.2 hin_o10 hat_o10 (g := (mkF m 23 #[.val (.ref a0), .val (.int (12 : Int32)), .val (.int (12 : Int32)), .val (.int (1 : Int32)), .val (.int y13)] [(.int (13 : Int32)), (.ref a0), (.int (13 : Int32)), (.ref a0)])) rfl rfl (hb hby d2_23) _ z_) ?_
  show OWay p e below G T7 (mkF m 24 #[.val (.ref a0), .val (.int (12 : Int32)), .val (.int (12 : Int32)), .val (.int (1 : Int32)), .val (.int y13)] [(.int y13), (.int (13 : Int32)), (.ref a0)])
  obtain ⟨cl_o11, Ar_o11, q_o11, S_o11, N_o11, H_o11, G_o11⟩ := id V_7
  have hin_o11 : ¬ ((13 : Int32) < 0 ∨ cl_o11.slots.size ≤ ((13 : Int32)).toNatClampNeg) := inb_of S_o11 ⟨by decide, by decide⟩
  obtain ⟨T12, h12, X12, eT12, W12, st12⟩ := stI X7 hx hZ eT7 Ar_o11 (j := (13 : Int32)) hin_o11 (g := (mkF m 24 #[.val (.ref a0), .val (.int (12 : Int32)), .val (.int (12 : Int32)), .val (.int (1 : Int32)), .val (.int y13)] [(.int y13), (.int (13 : Int32)), (.ref a0)])) rfl rfl (hb hby d2_24)
  have K13 : Keep h0 h12 [a0] := K8.wr W12 (Or.inl (List.mem_of_getElem? (i := 0) rfl))
  have V_12 : Arv Z h12 a0 kk .int (18 : Int32) [(.int y0), (.int y1), (.int y2), (.int y3), (.int y4), (.int y5), (.int y6), (.int y7), (.int y8), (.int y9), (.int y10), (.int y11), (.int y12), (.int y13), (.int y14), (.int y15), (.int y16), (.int y17)] (.int (0 : Int32)) := Arv.set Ar_o11 q_o11 S_o11 N_o11 H_o11 G_o11 rfl W12 13 rfl (Nat.le_of_ble_eq_true rfl)
  have N12 := Fr.snoc X12 N7 g_a0
  refine ogo st12 ?_
  show OWay p e below G T12 (mkF m 25 #[.val (.ref a0), .val (.int (12 : Int32)), .val (.int (12 : Int32)), .val (.int (1 : Int32)), .val (.int y13)] [])
  refine ogo (fun _ z_ => XS.aloadN X12.here hx rfl (hb hby d2_25) rfl rfl z_) ?_
  show OWay p e below G T12 (mkF m 26 #[.val (.ref a0), .val (.int (12 : Int32)), .val (.int (12 : Int32)), .val (.int (1 : Int32)), .val (.int y13)] [(.ref a0)])
  refine ogo (fun _ z_ => XS.iloadN X12.here hx rfl (hb hby d2_26) rfl z_) ?_
  show OWay p e below G T12 (mkF m 27 #[.val (.ref a0), .val (.int (12 : Int32)), .val (.int (12 : Int32)), .val (.int (1 : Int32)), .val (.int y13)] [(.int (12 : Int32)), (.ref a0)])
  refine ogo (fun _ z_ => XS.iloadN X12.here hx rfl (hb hby d2_27) rfl z_) ?_
  show OWay p e below G T12 (mkF m 28 #[.val (.ref a0), .val (.int (12 : Int32)), .val (.int (12 : Int32)), .val (.int (1 : Int32)), .val (.int y13)] [(.int (1 : Int32)), (.int (12 : Int32)), (.ref a0)])
  refine ogo (fun _ z_ => XS.iadd X12.here hx rfl (hb hby d2_28) rfl z_) ?_
  show OWay p e below G T12 (mkF m 29 #[.val (.ref a0), .val (.int (12 : Int32)), .val (.int (12 : Int32)), .val (.int (1 : Int32)), .val (.int y13)] [(.int ((12 : Int32) + (1 : Int32))), (.ref a0)])
  refine ogoE (g' := (mkF m 29 #[.val (.ref a0), .val (.int (12 : Int32)), .val (.int (12 : Int32)), .val (.int (1 : Int32)), .val (.int y13)] [(.int (13 : Int32)), (.ref a0)])) (by rw [show ((12 : Int32) + (1 : Int32)) = (13 : Int32) from by decide]) ?_
  refine ogo (fun _ z_ => XS.iload X12.here hx rfl (hb hby d2_29) rfl z_) ?_
  show OWay p e below G T12 (mkF m 31 #[.val (.ref a0), .val (.int (12 : Int32)), .val (.int (12 : Int32)), .val (.int (1 : Int32)), .val (.int y13)] [(.int y13), (.int (13 : Int32)), (.ref a0)])
  obtain ⟨cl_o14, Ar_o14, q_o14, S_o14, N_o14, H_o14, G_o14⟩ := id V_12
  have hin_o14 : ¬ ((13 : Int32) < 0 ∨ cl_o14.slots.size ≤ ((13 : Int32)).toNatClampNeg) := inb_of S_o14 ⟨by decide, by decide⟩
  obtain ⟨T15, h15, X15, eT15, W15, st15⟩ := stI X12 hx hZ eT12 Ar_o14 (j := (13 : Int32)) hin_o14 (g := (mkF m 31 #[.val (.ref a0), .val (.int (12 : Int32)), .val (.int (12 : Int32)), .val (.int (1 : Int32)), .val (.int y13)] [(.int y13), (.int (13 : Int32)), (.ref a0)])) rfl rfl (hb hby d2_31)
  have K16 : Keep h0 h15 [a0] := K13.wr W15 (Or.inl (List.mem_of_getElem? (i := 0) rfl))
  have V_15 : Arv Z h15 a0 kk .int (18 : Int32) [(.int y0), (.int y1), (.int y2), (.int y3), (.int y4), (.int y5), (.int y6), (.int y7), (.int y8), (.int y9), (.int y10), (.int y11), (.int y12), (.int y13), (.int y14), (.int y15), (.int y16), (.int y17)] (.int (0 : Int32)) := Arv.set Ar_o14 q_o14 S_o14 N_o14 H_o14 G_o14 rfl W15 13 rfl (Nat.le_of_ble_eq_true rfl)
  have N15 := Fr.snoc X15 N12 g_a0
  refine ogo st15 ?_
  show OWay p e below G T15 (mkF m 32 #[.val (.ref a0), .val (.int (12 : Int32)), .val (.int (12 : Int32)), .val (.int (1 : Int32)), .val (.int y13)] [])
  refine ogo (fun _ z_ => XS.iinc X15.here hx rfl (hb hby d2_32) rfl (l' := #[.val (.ref a0), .val (.int (12 : Int32)), .val (.int (12 : Int32)), .val (.int ((1 : Int32) + (1 : Int32))), .val (.int y13)]) rfl z_) ?_
  show OWay p e below G T15 (mkF m 35 #[.val (.ref a0), .val (.int (12 : Int32)), .val (.int (12 : Int32)), .val (.int ((1 : Int32) + (1 : Int32))), .val (.int y13)] [])
  refine ogoE (g' := (mkF m 35 #[.val (.ref a0), .val (.int (12 : Int32)), .val (.int (12 : Int32)), .val (.int (2 : Int32)), .val (.int y13)] [])) (by rw [show ((1 : Int32) + (1 : Int32)) = (2 : Int32) from by decide]) ?_
  refine ogo (fun _ z_ => XS.goto X15.here hx rfl (pc0 := 35) (pc' := 2) rfl (hb hby d2_35) (by decide) (by decide) z_) ?_
  show OWay p e below G T15 (mkF m 2 #[.val (.ref a0), .val (.int (12 : Int32)), .val (.int (12 : Int32)), .val (.int (2 : Int32)), .val (.int y13)] [])
  refine ogo (fun _ z_ => XS.iloadN X15.here hx rfl (hb hby d2_2) rfl z_) ?_
  show OWay p e below G T15 (mkF m 3 #[.val (.ref a0), .val (.int (12 : Int32)), .val (.int (12 : Int32)), .val (.int (2 : Int32)), .val (.int y13)] [(.int (2 : Int32))])
  refine ogo (fun _ z_ => XS.bipush X15.here hx rfl (hb hby d2_3) z_) ?_
  show OWay p e below G T15 (mkF m 5 #[.val (.ref a0), .val (.int (12 : Int32)), .val (.int (12 : Int32)), .val (.int (2 : Int32)), .val (.int y13)] [(.int (6 : Int32)), (.int (2 : Int32))])
  refine ogo (fun _ z_ => XS.icmpNo X15.here hx rfl (hb hby d2_5) rfl (tlt (by decide)).2.1 z_) ?_
  show OWay p e below G T15 (mkF m 8 #[.val (.ref a0), .val (.int (12 : Int32)), .val (.int (12 : Int32)), .val (.int (2 : Int32)), .val (.int y13)] [])
  refine ogo (fun _ z_ => XS.aloadN X15.here hx rfl (hb hby d2_8) rfl rfl z_) ?_
  show OWay p e below G T15 (mkF m 9 #[.val (.ref a0), .val (.int (12 : Int32)), .val (.int (12 : Int32)), .val (.int (2 : Int32)), .val (.int y13)] [(.ref a0)])
  refine ogo (fun _ z_ => XS.iloadN X15.here hx rfl (hb hby d2_9) rfl z_) ?_
  show OWay p e below G T15 (mkF m 10 #[.val (.ref a0), .val (.int (12 : Int32)), .val (.int (12 : Int32)), .val (.int (2 : Int32)), .val (.int y13)] [(.int (12 : Int32)), (.ref a0)])
  refine ogo (fun _ z_ => XS.iloadN X15.here hx rfl (hb hby d2_10) rfl z_) ?_
  show OWay p e below G T15 (mkF m 11 #[.val (.ref a0), .val (.int (12 : Int32)), .val (.int (12 : Int32)), .val (.int (2 : Int32)), .val (.int y13)] [(.int (2 : Int32)), (.int (12 : Int32)), (.ref a0)])
  refine ogo (fun _ z_ => XS.iadd X15.here hx rfl (hb hby d2_11) rfl z_) ?_
  show OWay p e below G T15 (mkF m 12 #[.val (.ref a0), .val (.int (12 : Int32)), .val (.int (12 : Int32)), .val (.int (2 : Int32)), .val (.int y13)] [(.int ((12 : Int32) + (2 : Int32))), (.ref a0)])
  refine ogoE (g' := (mkF m 12 #[.val (.ref a0), .val (.int (12 : Int32)), .val (.int (12 : Int32)), .val (.int (2 : Int32)), .val (.int y13)] [(.int (14 : Int32)), (.ref a0)])) (by rw [show ((12 : Int32) + (2 : Int32)) = (14 : Int32) from by decide]) ?_
  obtain ⟨cl_o17, Ar_o17, q_o17, S_o17, N_o17, H_o17, G_o17⟩ := id V_15
  have hin_o17 : ¬ ((14 : Int32) < 0 ∨ cl_o17.slots.size ≤ ((14 : Int32)).toNatClampNeg) := inb_of S_o17 ⟨by decide, by decide⟩
  have hat_o17 : cl_o17.slots[((14 : Int32)).toNatClampNeg]? = some (.int y14) := H_o17.at hin_o17 rfl
  refine ogo (fun _ z_ => X15.iaload hx (j := (14 : Int32)) (v := (.int y14)) (by rw [eT15]; exact Ar_o17.1) (State.isArrayOf_alike hZ.alike Ar_o17.2.1) Ar_o17.2.2 hin_o17 hat_o17 (g := (mkF m 12 #[.val (.ref a0), .val (.int (12 : Int32)), .val (.int (12 : Int32)), .val (.int (2 : Int32)), .val (.int y13)] [(.int (14 : Int32)), (.ref a0)])) rfl rfl (hb hby d2_12) _ z_) ?_
  show OWay p e below G T15 (mkF m 13 #[.val (.ref a0), .val (.int (12 : Int32)), .val (.int (12 : Int32)), .val (.int (2 : Int32)), .val (.int y13)] [(.int y14)])
  refine ogo (fun _ z_ => XS.istore X15.here hx rfl (hb hby d2_13) rfl (l' := #[.val (.ref a0), .val (.int (12 : Int32)), .val (.int (12 : Int32)), .val (.int (2 : Int32)), .val (.int y14)]) rfl z_) ?_
  show OWay p e below G T15 (mkF m 15 #[.val (.ref a0), .val (.int (12 : Int32)), .val (.int (12 : Int32)), .val (.int (2 : Int32)), .val (.int y14)] [])
  refine ogo (fun _ z_ => XS.aloadN X15.here hx rfl (hb hby d2_15) rfl rfl z_) ?_
  show OWay p e below G T15 (mkF m 16 #[.val (.ref a0), .val (.int (12 : Int32)), .val (.int (12 : Int32)), .val (.int (2 : Int32)), .val (.int y14)] [(.ref a0)])
  refine ogo (fun _ z_ => XS.iloadN X15.here hx rfl (hb hby d2_16) rfl z_) ?_
  show OWay p e below G T15 (mkF m 17 #[.val (.ref a0), .val (.int (12 : Int32)), .val (.int (12 : Int32)), .val (.int (2 : Int32)), .val (.int y14)] [(.int (12 : Int32)), (.ref a0)])
  refine ogo (fun _ z_ => XS.iloadN X15.here hx rfl (hb hby d2_17) rfl z_) ?_
  show OWay p e below G T15 (mkF m 18 #[.val (.ref a0), .val (.int (12 : Int32)), .val (.int (12 : Int32)), .val (.int (2 : Int32)), .val (.int y14)] [(.int (2 : Int32)), (.int (12 : Int32)), (.ref a0)])
  refine ogo (fun _ z_ => XS.iadd X15.here hx rfl (hb hby d2_18) rfl z_) ?_
  show OWay p e below G T15 (mkF m 19 #[.val (.ref a0), .val (.int (12 : Int32)), .val (.int (12 : Int32)), .val (.int (2 : Int32)), .val (.int y14)] [(.int ((12 : Int32) + (2 : Int32))), (.ref a0)])
  refine ogoE (g' := (mkF m 19 #[.val (.ref a0), .val (.int (12 : Int32)), .val (.int (12 : Int32)), .val (.int (2 : Int32)), .val (.int y14)] [(.int (14 : Int32)), (.ref a0)])) (by rw [show ((12 : Int32) + (2 : Int32)) = (14 : Int32) from by decide]) ?_
  refine ogo (fun _ z_ => XS.aloadN X15.here hx rfl (hb hby d2_19) rfl rfl z_) ?_
  show OWay p e below G T15 (mkF m 20 #[.val (.ref a0), .val (.int (12 : Int32)), .val (.int (12 : Int32)), .val (.int (2 : Int32)), .val (.int y14)] [(.ref a0), (.int (14 : Int32)), (.ref a0)])
  refine ogo (fun _ z_ => XS.iloadN X15.here hx rfl (hb hby d2_20) rfl z_) ?_
  show OWay p e below G T15 (mkF m 21 #[.val (.ref a0), .val (.int (12 : Int32)), .val (.int (12 : Int32)), .val (.int (2 : Int32)), .val (.int y14)] [(.int (12 : Int32)), (.ref a0), (.int (14 : Int32)), (.ref a0)])
  refine ogo (fun _ z_ => XS.iloadN X15.here hx rfl (hb hby d2_21) rfl z_) ?_
  show OWay p e below G T15 (mkF m 22 #[.val (.ref a0), .val (.int (12 : Int32)), .val (.int (12 : Int32)), .val (.int (2 : Int32)), .val (.int y14)] [(.int (2 : Int32)), (.int (12 : Int32)), (.ref a0), (.int (14 : Int32)), (.ref a0)])
  refine ogo (fun _ z_ => XS.iadd X15.here hx rfl (hb hby d2_22) rfl z_) ?_
  show OWay p e below G T15 (mkF m 23 #[.val (.ref a0), .val (.int (12 : Int32)), .val (.int (12 : Int32)), .val (.int (2 : Int32)), .val (.int y14)] [(.int ((12 : Int32) + (2 : Int32))), (.ref a0), (.int (14 : Int32)), (.ref a0)])
  refine ogoE (g' := (mkF m 23 #[.val (.ref a0), .val (.int (12 : Int32)), .val (.int (12 : Int32)), .val (.int (2 : Int32)), .val (.int y14)] [(.int (14 : Int32)), (.ref a0), (.int (14 : Int32)), (.ref a0)])) (by rw [show ((12 : Int32) + (2 : Int32)) = (14 : Int32) from by decide]) ?_
  obtain ⟨cl_o18, Ar_o18, q_o18, S_o18, N_o18, H_o18, G_o18⟩ := id V_15
  have hin_o18 : ¬ ((14 : Int32) < 0 ∨ cl_o18.slots.size ≤ ((14 : Int32)).toNatClampNeg) := inb_of S_o18 ⟨by decide, by decide⟩
  have hat_o18 : cl_o18.slots[((14 : Int32)).toNatClampNeg]? = some (.int y14) := H_o18.at hin_o18 rfl
  refine ogo (fun _ z_ => X15.iaload hx (j := (14 : Int32)) (v := (.int y14)) (by rw [eT15]; exact Ar_o18.1) (State.isArrayOf_alike hZ.alike Ar_o18.2.1) Ar_o18.2.2 hin_o18 hat_o18 (g := (mkF m 23 #[.val (.ref a0), .val (.int (12 : Int32)), .val (.int (12 : Int32)), .val (.int (2 : Int32)), .val (.int y14)] [(.int (14 : Int32)), (.ref a0), (.int (14 : Int32)), (.ref a0)])) rfl rfl (hb hby d2_23) _ z_) ?_
  show OWay p e below G T15 (mkF m 24 #[.val (.ref a0), .val (.int (12 : Int32)), .val (.int (12 : Int32)), .val (.int (2 : Int32)), .val (.int y14)] [(.int y14), (.int (14 : Int32)), (.ref a0)])
  obtain ⟨cl_o19, Ar_o19, q_o19, S_o19, N_o19, H_o19, G_o19⟩ := id V_15
  have hin_o19 : ¬ ((14 : Int32) < 0 ∨ cl_o19.slots.size ≤ ((14 : Int32)).toNatClampNeg) := inb_of S_o19 ⟨by decide, by decide⟩
  obtain ⟨T20, h20, X20, eT20, W20, st20⟩ := stI X15 hx hZ eT15 Ar_o19 (j := (14 : Int32)) hin_o19 (g := (mkF m 24 #[.val (.ref a0), .val (.int (12 : Int32)), .val (.int (12 : Int32)), .val (.int (2 : Int32)), .val (.int y14)] [(.int y14), (.int (14 : Int32)), (.ref a0)])) rfl rfl (hb hby d2_24)
  have K21 : Keep h0 h20 [a0] := K16.wr W20 (Or.inl (List.mem_of_getElem? (i := 0) rfl))
  have V_20 : Arv Z h20 a0 kk .int (18 : Int32) [(.int y0), (.int y1), (.int y2), (.int y3), (.int y4), (.int y5), (.int y6), (.int y7), (.int y8), (.int y9), (.int y10), (.int y11), (.int y12), (.int y13), (.int y14), (.int y15), (.int y16), (.int y17)] (.int (0 : Int32)) := Arv.set Ar_o19 q_o19 S_o19 N_o19 H_o19 G_o19 rfl W20 14 rfl (Nat.le_of_ble_eq_true rfl)
  have N20 := Fr.snoc X20 N15 g_a0
  refine ogo st20 ?_
  show OWay p e below G T20 (mkF m 25 #[.val (.ref a0), .val (.int (12 : Int32)), .val (.int (12 : Int32)), .val (.int (2 : Int32)), .val (.int y14)] [])
  refine ogo (fun _ z_ => XS.aloadN X20.here hx rfl (hb hby d2_25) rfl rfl z_) ?_
  show OWay p e below G T20 (mkF m 26 #[.val (.ref a0), .val (.int (12 : Int32)), .val (.int (12 : Int32)), .val (.int (2 : Int32)), .val (.int y14)] [(.ref a0)])
  refine ogo (fun _ z_ => XS.iloadN X20.here hx rfl (hb hby d2_26) rfl z_) ?_
  show OWay p e below G T20 (mkF m 27 #[.val (.ref a0), .val (.int (12 : Int32)), .val (.int (12 : Int32)), .val (.int (2 : Int32)), .val (.int y14)] [(.int (12 : Int32)), (.ref a0)])
  refine ogo (fun _ z_ => XS.iloadN X20.here hx rfl (hb hby d2_27) rfl z_) ?_
  show OWay p e below G T20 (mkF m 28 #[.val (.ref a0), .val (.int (12 : Int32)), .val (.int (12 : Int32)), .val (.int (2 : Int32)), .val (.int y14)] [(.int (2 : Int32)), (.int (12 : Int32)), (.ref a0)])
  refine ogo (fun _ z_ => XS.iadd X20.here hx rfl (hb hby d2_28) rfl z_) ?_
  show OWay p e below G T20 (mkF m 29 #[.val (.ref a0), .val (.int (12 : Int32)), .val (.int (12 : Int32)), .val (.int (2 : Int32)), .val (.int y14)] [(.int ((12 : Int32) + (2 : Int32))), (.ref a0)])
  refine ogoE (g' := (mkF m 29 #[.val (.ref a0), .val (.int (12 : Int32)), .val (.int (12 : Int32)), .val (.int (2 : Int32)), .val (.int y14)] [(.int (14 : Int32)), (.ref a0)])) (by rw [show ((12 : Int32) + (2 : Int32)) = (14 : Int32) from by decide]) ?_
  refine ogo (fun _ z_ => XS.iload X20.here hx rfl (hb hby d2_29) rfl z_) ?_
  show OWay p e below G T20 (mkF m 31 #[.val (.ref a0), .val (.int (12 : Int32)), .val (.int (12 : Int32)), .val (.int (2 : Int32)), .val (.int y14)] [(.int y14), (.int (14 : Int32)), (.ref a0)])
  obtain ⟨cl_o22, Ar_o22, q_o22, S_o22, N_o22, H_o22, G_o22⟩ := id V_20
  have hin_o22 : ¬ ((14 : Int32) < 0 ∨ cl_o22.slots.size ≤ ((14 : Int32)).toNatClampNeg) := inb_of S_o22 ⟨by decide, by decide⟩
  obtain ⟨T23, h23, X23, eT23, W23, st23⟩ := stI X20 hx hZ eT20 Ar_o22 (j := (14 : Int32)) hin_o22 (g := (mkF m 31 #[.val (.ref a0), .val (.int (12 : Int32)), .val (.int (12 : Int32)), .val (.int (2 : Int32)), .val (.int y14)] [(.int y14), (.int (14 : Int32)), (.ref a0)])) rfl rfl (hb hby d2_31)
  have K24 : Keep h0 h23 [a0] := K21.wr W23 (Or.inl (List.mem_of_getElem? (i := 0) rfl))
  have V_23 : Arv Z h23 a0 kk .int (18 : Int32) [(.int y0), (.int y1), (.int y2), (.int y3), (.int y4), (.int y5), (.int y6), (.int y7), (.int y8), (.int y9), (.int y10), (.int y11), (.int y12), (.int y13), (.int y14), (.int y15), (.int y16), (.int y17)] (.int (0 : Int32)) := Arv.set Ar_o22 q_o22 S_o22 N_o22 H_o22 G_o22 rfl W23 14 rfl (Nat.le_of_ble_eq_true rfl)
  have N23 := Fr.snoc X23 N20 g_a0
  refine ogo st23 ?_
  show OWay p e below G T23 (mkF m 32 #[.val (.ref a0), .val (.int (12 : Int32)), .val (.int (12 : Int32)), .val (.int (2 : Int32)), .val (.int y14)] [])
  refine ogo (fun _ z_ => XS.iinc X23.here hx rfl (hb hby d2_32) rfl (l' := #[.val (.ref a0), .val (.int (12 : Int32)), .val (.int (12 : Int32)), .val (.int ((2 : Int32) + (1 : Int32))), .val (.int y14)]) rfl z_) ?_
  show OWay p e below G T23 (mkF m 35 #[.val (.ref a0), .val (.int (12 : Int32)), .val (.int (12 : Int32)), .val (.int ((2 : Int32) + (1 : Int32))), .val (.int y14)] [])
  refine ogoE (g' := (mkF m 35 #[.val (.ref a0), .val (.int (12 : Int32)), .val (.int (12 : Int32)), .val (.int (3 : Int32)), .val (.int y14)] [])) (by rw [show ((2 : Int32) + (1 : Int32)) = (3 : Int32) from by decide]) ?_
  refine ogo (fun _ z_ => XS.goto X23.here hx rfl (pc0 := 35) (pc' := 2) rfl (hb hby d2_35) (by decide) (by decide) z_) ?_
  show OWay p e below G T23 (mkF m 2 #[.val (.ref a0), .val (.int (12 : Int32)), .val (.int (12 : Int32)), .val (.int (3 : Int32)), .val (.int y14)] [])
  refine ogo (fun _ z_ => XS.iloadN X23.here hx rfl (hb hby d2_2) rfl z_) ?_
  show OWay p e below G T23 (mkF m 3 #[.val (.ref a0), .val (.int (12 : Int32)), .val (.int (12 : Int32)), .val (.int (3 : Int32)), .val (.int y14)] [(.int (3 : Int32))])
  refine ogo (fun _ z_ => XS.bipush X23.here hx rfl (hb hby d2_3) z_) ?_
  show OWay p e below G T23 (mkF m 5 #[.val (.ref a0), .val (.int (12 : Int32)), .val (.int (12 : Int32)), .val (.int (3 : Int32)), .val (.int y14)] [(.int (6 : Int32)), (.int (3 : Int32))])
  refine ogo (fun _ z_ => XS.icmpNo X23.here hx rfl (hb hby d2_5) rfl (tlt (by decide)).2.1 z_) ?_
  show OWay p e below G T23 (mkF m 8 #[.val (.ref a0), .val (.int (12 : Int32)), .val (.int (12 : Int32)), .val (.int (3 : Int32)), .val (.int y14)] [])
  refine ogo (fun _ z_ => XS.aloadN X23.here hx rfl (hb hby d2_8) rfl rfl z_) ?_
  show OWay p e below G T23 (mkF m 9 #[.val (.ref a0), .val (.int (12 : Int32)), .val (.int (12 : Int32)), .val (.int (3 : Int32)), .val (.int y14)] [(.ref a0)])
  refine ogo (fun _ z_ => XS.iloadN X23.here hx rfl (hb hby d2_9) rfl z_) ?_
  show OWay p e below G T23 (mkF m 10 #[.val (.ref a0), .val (.int (12 : Int32)), .val (.int (12 : Int32)), .val (.int (3 : Int32)), .val (.int y14)] [(.int (12 : Int32)), (.ref a0)])
  refine ogo (fun _ z_ => XS.iloadN X23.here hx rfl (hb hby d2_10) rfl z_) ?_
  show OWay p e below G T23 (mkF m 11 #[.val (.ref a0), .val (.int (12 : Int32)), .val (.int (12 : Int32)), .val (.int (3 : Int32)), .val (.int y14)] [(.int (3 : Int32)), (.int (12 : Int32)), (.ref a0)])
  refine ogo (fun _ z_ => XS.iadd X23.here hx rfl (hb hby d2_11) rfl z_) ?_
  show OWay p e below G T23 (mkF m 12 #[.val (.ref a0), .val (.int (12 : Int32)), .val (.int (12 : Int32)), .val (.int (3 : Int32)), .val (.int y14)] [(.int ((12 : Int32) + (3 : Int32))), (.ref a0)])
  refine ogoE (g' := (mkF m 12 #[.val (.ref a0), .val (.int (12 : Int32)), .val (.int (12 : Int32)), .val (.int (3 : Int32)), .val (.int y14)] [(.int (15 : Int32)), (.ref a0)])) (by rw [show ((12 : Int32) + (3 : Int32)) = (15 : Int32) from by decide]) ?_
  obtain ⟨cl_o25, Ar_o25, q_o25, S_o25, N_o25, H_o25, G_o25⟩ := id V_23
  have hin_o25 : ¬ ((15 : Int32) < 0 ∨ cl_o25.slots.size ≤ ((15 : Int32)).toNatClampNeg) := inb_of S_o25 ⟨by decide, by decide⟩
  have hat_o25 : cl_o25.slots[((15 : Int32)).toNatClampNeg]? = some (.int y15) := H_o25.at hin_o25 rfl
  refine ogo (fun _ z_ => X23.iaload hx (j := (15 : Int32)) (v := (.int y15)) (by rw [eT23]; exact Ar_o25.1) (State.isArrayOf_alike hZ.alike Ar_o25.2.1) Ar_o25.2.2 hin_o25 hat_o25 (g := (mkF m 12 #[.val (.ref a0), .val (.int (12 : Int32)), .val (.int (12 : Int32)), .val (.int (3 : Int32)), .val (.int y14)] [(.int (15 : Int32)), (.ref a0)])) rfl rfl (hb hby d2_12) _ z_) ?_
  show OWay p e below G T23 (mkF m 13 #[.val (.ref a0), .val (.int (12 : Int32)), .val (.int (12 : Int32)), .val (.int (3 : Int32)), .val (.int y14)] [(.int y15)])
  refine ogo (fun _ z_ => XS.istore X23.here hx rfl (hb hby d2_13) rfl (l' := #[.val (.ref a0), .val (.int (12 : Int32)), .val (.int (12 : Int32)), .val (.int (3 : Int32)), .val (.int y15)]) rfl z_) ?_
  show OWay p e below G T23 (mkF m 15 #[.val (.ref a0), .val (.int (12 : Int32)), .val (.int (12 : Int32)), .val (.int (3 : Int32)), .val (.int y15)] [])
  refine ogo (fun _ z_ => XS.aloadN X23.here hx rfl (hb hby d2_15) rfl rfl z_) ?_
  show OWay p e below G T23 (mkF m 16 #[.val (.ref a0), .val (.int (12 : Int32)), .val (.int (12 : Int32)), .val (.int (3 : Int32)), .val (.int y15)] [(.ref a0)])
  refine ogo (fun _ z_ => XS.iloadN X23.here hx rfl (hb hby d2_16) rfl z_) ?_
  show OWay p e below G T23 (mkF m 17 #[.val (.ref a0), .val (.int (12 : Int32)), .val (.int (12 : Int32)), .val (.int (3 : Int32)), .val (.int y15)] [(.int (12 : Int32)), (.ref a0)])
  refine ogo (fun _ z_ => XS.iloadN X23.here hx rfl (hb hby d2_17) rfl z_) ?_
  show OWay p e below G T23 (mkF m 18 #[.val (.ref a0), .val (.int (12 : Int32)), .val (.int (12 : Int32)), .val (.int (3 : Int32)), .val (.int y15)] [(.int (3 : Int32)), (.int (12 : Int32)), (.ref a0)])
  refine ogo (fun _ z_ => XS.iadd X23.here hx rfl (hb hby d2_18) rfl z_) ?_
  show OWay p e below G T23 (mkF m 19 #[.val (.ref a0), .val (.int (12 : Int32)), .val (.int (12 : Int32)), .val (.int (3 : Int32)), .val (.int y15)] [(.int ((12 : Int32) + (3 : Int32))), (.ref a0)])
  refine ogoE (g' := (mkF m 19 #[.val (.ref a0), .val (.int (12 : Int32)), .val (.int (12 : Int32)), .val (.int (3 : Int32)), .val (.int y15)] [(.int (15 : Int32)), (.ref a0)])) (by rw [show ((12 : Int32) + (3 : Int32)) = (15 : Int32) from by decide]) ?_
  refine ogo (fun _ z_ => XS.aloadN X23.here hx rfl (hb hby d2_19) rfl rfl z_) ?_
  show OWay p e below G T23 (mkF m 20 #[.val (.ref a0), .val (.int (12 : Int32)), .val (.int (12 : Int32)), .val (.int (3 : Int32)), .val (.int y15)] [(.ref a0), (.int (15 : Int32)), (.ref a0)])
  refine ogo (fun _ z_ => XS.iloadN X23.here hx rfl (hb hby d2_20) rfl z_) ?_
  show OWay p e below G T23 (mkF m 21 #[.val (.ref a0), .val (.int (12 : Int32)), .val (.int (12 : Int32)), .val (.int (3 : Int32)), .val (.int y15)] [(.int (12 : Int32)), (.ref a0), (.int (15 : Int32)), (.ref a0)])
  refine ogo (fun _ z_ => XS.iloadN X23.here hx rfl (hb hby d2_21) rfl z_) ?_
  show OWay p e below G T23 (mkF m 22 #[.val (.ref a0), .val (.int (12 : Int32)), .val (.int (12 : Int32)), .val (.int (3 : Int32)), .val (.int y15)] [(.int (3 : Int32)), (.int (12 : Int32)), (.ref a0), (.int (15 : Int32)), (.ref a0)])
  refine ogo (fun _ z_ => XS.iadd X23.here hx rfl (hb hby d2_22) rfl z_) ?_
  show OWay p e below G T23 (mkF m 23 #[.val (.ref a0), .val (.int (12 : Int32)), .val (.int (12 : Int32)), .val (.int (3 : Int32)), .val (.int y15)] [(.int ((12 : Int32) + (3 : Int32))), (.ref a0), (.int (15 : Int32)), (.ref a0)])
  refine ogoE (g' := (mkF m 23 #[.val (.ref a0), .val (.int (12 : Int32)), .val (.int (12 : Int32)), .val (.int (3 : Int32)), .val (.int y15)] [(.int (15 : Int32)), (.ref a0), (.int (15 : Int32)), (.ref a0)])) (by rw [show ((12 : Int32) + (3 : Int32)) = (15 : Int32) from by decide]) ?_
  obtain ⟨cl_o26, Ar_o26, q_o26, S_o26, N_o26, H_o26, G_o26⟩ := id V_23
  have hin_o26 : ¬ ((15 : Int32) < 0 ∨ cl_o26.slots.size ≤ ((15 : Int32)).toNatClampNeg) := inb_of S_o26 ⟨by decide, by decide⟩
  have hat_o26 : cl_o26.slots[((15 : Int32)).toNatClampNeg]? = some (.int y15) := H_o26.at hin_o26 rfl
  refine ogo (fun _ z_ => X23.iaload hx (j := (15 : Int32)) (v := (.int y15)) (by rw [eT23]; exact Ar_o26.1) (State.isArrayOf_alike hZ.alike Ar_o26.2.1) Ar_o26.2.2 hin_o26 hat_o26 (g := (mkF m 23 #[.val (.ref a0), .val (.int (12 : Int32)), .val (.int (12 : Int32)), .val (.int (3 : Int32)), .val (.int y15)] [(.int (15 : Int32)), (.ref a0), (.int (15 : Int32)), (.ref a0)])) rfl rfl (hb hby d2_23) _ z_) ?_
  show OWay p e below G T23 (mkF m 24 #[.val (.ref a0), .val (.int (12 : Int32)), .val (.int (12 : Int32)), .val (.int (3 : Int32)), .val (.int y15)] [(.int y15), (.int (15 : Int32)), (.ref a0)])
  obtain ⟨cl_o27, Ar_o27, q_o27, S_o27, N_o27, H_o27, G_o27⟩ := id V_23
  have hin_o27 : ¬ ((15 : Int32) < 0 ∨ cl_o27.slots.size ≤ ((15 : Int32)).toNatClampNeg) := inb_of S_o27 ⟨by decide, by decide⟩
  obtain ⟨T28, h28, X28, eT28, W28, st28⟩ := stI X23 hx hZ eT23 Ar_o27 (j := (15 : Int32)) hin_o27 (g := (mkF m 24 #[.val (.ref a0), .val (.int (12 : Int32)), .val (.int (12 : Int32)), .val (.int (3 : Int32)), .val (.int y15)] [(.int y15), (.int (15 : Int32)), (.ref a0)])) rfl rfl (hb hby d2_24)
  have K29 : Keep h0 h28 [a0] := K24.wr W28 (Or.inl (List.mem_of_getElem? (i := 0) rfl))
  have V_28 : Arv Z h28 a0 kk .int (18 : Int32) [(.int y0), (.int y1), (.int y2), (.int y3), (.int y4), (.int y5), (.int y6), (.int y7), (.int y8), (.int y9), (.int y10), (.int y11), (.int y12), (.int y13), (.int y14), (.int y15), (.int y16), (.int y17)] (.int (0 : Int32)) := Arv.set Ar_o27 q_o27 S_o27 N_o27 H_o27 G_o27 rfl W28 15 rfl (Nat.le_of_ble_eq_true rfl)
  have N28 := Fr.snoc X28 N23 g_a0
  refine ogo st28 ?_
  show OWay p e below G T28 (mkF m 25 #[.val (.ref a0), .val (.int (12 : Int32)), .val (.int (12 : Int32)), .val (.int (3 : Int32)), .val (.int y15)] [])
  refine ogo (fun _ z_ => XS.aloadN X28.here hx rfl (hb hby d2_25) rfl rfl z_) ?_
  show OWay p e below G T28 (mkF m 26 #[.val (.ref a0), .val (.int (12 : Int32)), .val (.int (12 : Int32)), .val (.int (3 : Int32)), .val (.int y15)] [(.ref a0)])
  refine ogo (fun _ z_ => XS.iloadN X28.here hx rfl (hb hby d2_26) rfl z_) ?_
  show OWay p e below G T28 (mkF m 27 #[.val (.ref a0), .val (.int (12 : Int32)), .val (.int (12 : Int32)), .val (.int (3 : Int32)), .val (.int y15)] [(.int (12 : Int32)), (.ref a0)])
  refine ogo (fun _ z_ => XS.iloadN X28.here hx rfl (hb hby d2_27) rfl z_) ?_
  show OWay p e below G T28 (mkF m 28 #[.val (.ref a0), .val (.int (12 : Int32)), .val (.int (12 : Int32)), .val (.int (3 : Int32)), .val (.int y15)] [(.int (3 : Int32)), (.int (12 : Int32)), (.ref a0)])
  refine ogo (fun _ z_ => XS.iadd X28.here hx rfl (hb hby d2_28) rfl z_) ?_
  show OWay p e below G T28 (mkF m 29 #[.val (.ref a0), .val (.int (12 : Int32)), .val (.int (12 : Int32)), .val (.int (3 : Int32)), .val (.int y15)] [(.int ((12 : Int32) + (3 : Int32))), (.ref a0)])
  refine ogoE (g' := (mkF m 29 #[.val (.ref a0), .val (.int (12 : Int32)), .val (.int (12 : Int32)), .val (.int (3 : Int32)), .val (.int y15)] [(.int (15 : Int32)), (.ref a0)])) (by rw [show ((12 : Int32) + (3 : Int32)) = (15 : Int32) from by decide]) ?_
  refine ogo (fun _ z_ => XS.iload X28.here hx rfl (hb hby d2_29) rfl z_) ?_
  show OWay p e below G T28 (mkF m 31 #[.val (.ref a0), .val (.int (12 : Int32)), .val (.int (12 : Int32)), .val (.int (3 : Int32)), .val (.int y15)] [(.int y15), (.int (15 : Int32)), (.ref a0)])
  obtain ⟨cl_o30, Ar_o30, q_o30, S_o30, N_o30, H_o30, G_o30⟩ := id V_28
  have hin_o30 : ¬ ((15 : Int32) < 0 ∨ cl_o30.slots.size ≤ ((15 : Int32)).toNatClampNeg) := inb_of S_o30 ⟨by decide, by decide⟩
  obtain ⟨T31, h31, X31, eT31, W31, st31⟩ := stI X28 hx hZ eT28 Ar_o30 (j := (15 : Int32)) hin_o30 (g := (mkF m 31 #[.val (.ref a0), .val (.int (12 : Int32)), .val (.int (12 : Int32)), .val (.int (3 : Int32)), .val (.int y15)] [(.int y15), (.int (15 : Int32)), (.ref a0)])) rfl rfl (hb hby d2_31)
  have K32 : Keep h0 h31 [a0] := K29.wr W31 (Or.inl (List.mem_of_getElem? (i := 0) rfl))
  have V_31 : Arv Z h31 a0 kk .int (18 : Int32) [(.int y0), (.int y1), (.int y2), (.int y3), (.int y4), (.int y5), (.int y6), (.int y7), (.int y8), (.int y9), (.int y10), (.int y11), (.int y12), (.int y13), (.int y14), (.int y15), (.int y16), (.int y17)] (.int (0 : Int32)) := Arv.set Ar_o30 q_o30 S_o30 N_o30 H_o30 G_o30 rfl W31 15 rfl (Nat.le_of_ble_eq_true rfl)
  have N31 := Fr.snoc X31 N28 g_a0
  refine ogo st31 ?_
  show OWay p e below G T31 (mkF m 32 #[.val (.ref a0), .val (.int (12 : Int32)), .val (.int (12 : Int32)), .val (.int (3 : Int32)), .val (.int y15)] [])
  refine ogo (fun _ z_ => XS.iinc X31.here hx rfl (hb hby d2_32) rfl (l' := #[.val (.ref a0), .val (.int (12 : Int32)), .val (.int (12 : Int32)), .val (.int ((3 : Int32) + (1 : Int32))), .val (.int y15)]) rfl z_) ?_
  show OWay p e below G T31 (mkF m 35 #[.val (.ref a0), .val (.int (12 : Int32)), .val (.int (12 : Int32)), .val (.int ((3 : Int32) + (1 : Int32))), .val (.int y15)] [])
  refine ogoE (g' := (mkF m 35 #[.val (.ref a0), .val (.int (12 : Int32)), .val (.int (12 : Int32)), .val (.int (4 : Int32)), .val (.int y15)] [])) (by rw [show ((3 : Int32) + (1 : Int32)) = (4 : Int32) from by decide]) ?_
  refine ogo (fun _ z_ => XS.goto X31.here hx rfl (pc0 := 35) (pc' := 2) rfl (hb hby d2_35) (by decide) (by decide) z_) ?_
  show OWay p e below G T31 (mkF m 2 #[.val (.ref a0), .val (.int (12 : Int32)), .val (.int (12 : Int32)), .val (.int (4 : Int32)), .val (.int y15)] [])
  refine ogo (fun _ z_ => XS.iloadN X31.here hx rfl (hb hby d2_2) rfl z_) ?_
  show OWay p e below G T31 (mkF m 3 #[.val (.ref a0), .val (.int (12 : Int32)), .val (.int (12 : Int32)), .val (.int (4 : Int32)), .val (.int y15)] [(.int (4 : Int32))])
  refine ogo (fun _ z_ => XS.bipush X31.here hx rfl (hb hby d2_3) z_) ?_
  show OWay p e below G T31 (mkF m 5 #[.val (.ref a0), .val (.int (12 : Int32)), .val (.int (12 : Int32)), .val (.int (4 : Int32)), .val (.int y15)] [(.int (6 : Int32)), (.int (4 : Int32))])
  refine ogo (fun _ z_ => XS.icmpNo X31.here hx rfl (hb hby d2_5) rfl (tlt (by decide)).2.1 z_) ?_
  show OWay p e below G T31 (mkF m 8 #[.val (.ref a0), .val (.int (12 : Int32)), .val (.int (12 : Int32)), .val (.int (4 : Int32)), .val (.int y15)] [])
  refine ogo (fun _ z_ => XS.aloadN X31.here hx rfl (hb hby d2_8) rfl rfl z_) ?_
  show OWay p e below G T31 (mkF m 9 #[.val (.ref a0), .val (.int (12 : Int32)), .val (.int (12 : Int32)), .val (.int (4 : Int32)), .val (.int y15)] [(.ref a0)])
  refine ogo (fun _ z_ => XS.iloadN X31.here hx rfl (hb hby d2_9) rfl z_) ?_
  show OWay p e below G T31 (mkF m 10 #[.val (.ref a0), .val (.int (12 : Int32)), .val (.int (12 : Int32)), .val (.int (4 : Int32)), .val (.int y15)] [(.int (12 : Int32)), (.ref a0)])
  refine ogo (fun _ z_ => XS.iloadN X31.here hx rfl (hb hby d2_10) rfl z_) ?_
  show OWay p e below G T31 (mkF m 11 #[.val (.ref a0), .val (.int (12 : Int32)), .val (.int (12 : Int32)), .val (.int (4 : Int32)), .val (.int y15)] [(.int (4 : Int32)), (.int (12 : Int32)), (.ref a0)])
  refine ogo (fun _ z_ => XS.iadd X31.here hx rfl (hb hby d2_11) rfl z_) ?_
  show OWay p e below G T31 (mkF m 12 #[.val (.ref a0), .val (.int (12 : Int32)), .val (.int (12 : Int32)), .val (.int (4 : Int32)), .val (.int y15)] [(.int ((12 : Int32) + (4 : Int32))), (.ref a0)])
  refine ogoE (g' := (mkF m 12 #[.val (.ref a0), .val (.int (12 : Int32)), .val (.int (12 : Int32)), .val (.int (4 : Int32)), .val (.int y15)] [(.int (16 : Int32)), (.ref a0)])) (by rw [show ((12 : Int32) + (4 : Int32)) = (16 : Int32) from by decide]) ?_
  obtain ⟨cl_o33, Ar_o33, q_o33, S_o33, N_o33, H_o33, G_o33⟩ := id V_31
  have hin_o33 : ¬ ((16 : Int32) < 0 ∨ cl_o33.slots.size ≤ ((16 : Int32)).toNatClampNeg) := inb_of S_o33 ⟨by decide, by decide⟩
  have hat_o33 : cl_o33.slots[((16 : Int32)).toNatClampNeg]? = some (.int y16) := H_o33.at hin_o33 rfl
  refine ogo (fun _ z_ => X31.iaload hx (j := (16 : Int32)) (v := (.int y16)) (by rw [eT31]; exact Ar_o33.1) (State.isArrayOf_alike hZ.alike Ar_o33.2.1) Ar_o33.2.2 hin_o33 hat_o33 (g := (mkF m 12 #[.val (.ref a0), .val (.int (12 : Int32)), .val (.int (12 : Int32)), .val (.int (4 : Int32)), .val (.int y15)] [(.int (16 : Int32)), (.ref a0)])) rfl rfl (hb hby d2_12) _ z_) ?_
  show OWay p e below G T31 (mkF m 13 #[.val (.ref a0), .val (.int (12 : Int32)), .val (.int (12 : Int32)), .val (.int (4 : Int32)), .val (.int y15)] [(.int y16)])
  refine ogo (fun _ z_ => XS.istore X31.here hx rfl (hb hby d2_13) rfl (l' := #[.val (.ref a0), .val (.int (12 : Int32)), .val (.int (12 : Int32)), .val (.int (4 : Int32)), .val (.int y16)]) rfl z_) ?_
  show OWay p e below G T31 (mkF m 15 #[.val (.ref a0), .val (.int (12 : Int32)), .val (.int (12 : Int32)), .val (.int (4 : Int32)), .val (.int y16)] [])
  refine ogo (fun _ z_ => XS.aloadN X31.here hx rfl (hb hby d2_15) rfl rfl z_) ?_
  show OWay p e below G T31 (mkF m 16 #[.val (.ref a0), .val (.int (12 : Int32)), .val (.int (12 : Int32)), .val (.int (4 : Int32)), .val (.int y16)] [(.ref a0)])
  refine ogo (fun _ z_ => XS.iloadN X31.here hx rfl (hb hby d2_16) rfl z_) ?_
  show OWay p e below G T31 (mkF m 17 #[.val (.ref a0), .val (.int (12 : Int32)), .val (.int (12 : Int32)), .val (.int (4 : Int32)), .val (.int y16)] [(.int (12 : Int32)), (.ref a0)])
  refine ogo (fun _ z_ => XS.iloadN X31.here hx rfl (hb hby d2_17) rfl z_) ?_
  show OWay p e below G T31 (mkF m 18 #[.val (.ref a0), .val (.int (12 : Int32)), .val (.int (12 : Int32)), .val (.int (4 : Int32)), .val (.int y16)] [(.int (4 : Int32)), (.int (12 : Int32)), (.ref a0)])
  refine ogo (fun _ z_ => XS.iadd X31.here hx rfl (hb hby d2_18) rfl z_) ?_
  show OWay p e below G T31 (mkF m 19 #[.val (.ref a0), .val (.int (12 : Int32)), .val (.int (12 : Int32)), .val (.int (4 : Int32)), .val (.int y16)] [(.int ((12 : Int32) + (4 : Int32))), (.ref a0)])
  refine ogoE (g' := (mkF m 19 #[.val (.ref a0), .val (.int (12 : Int32)), .val (.int (12 : Int32)), .val (.int (4 : Int32)), .val (.int y16)] [(.int (16 : Int32)), (.ref a0)])) (by rw [show ((12 : Int32) + (4 : Int32)) = (16 : Int32) from by decide]) ?_
  refine ogo (fun _ z_ => XS.aloadN X31.here hx rfl (hb hby d2_19) rfl rfl z_) ?_
  show OWay p e below G T31 (mkF m 20 #[.val (.ref a0), .val (.int (12 : Int32)), .val (.int (12 : Int32)), .val (.int (4 : Int32)), .val (.int y16)] [(.ref a0), (.int (16 : Int32)), (.ref a0)])
  refine ogo (fun _ z_ => XS.iloadN X31.here hx rfl (hb hby d2_20) rfl z_) ?_
  show OWay p e below G T31 (mkF m 21 #[.val (.ref a0), .val (.int (12 : Int32)), .val (.int (12 : Int32)), .val (.int (4 : Int32)), .val (.int y16)] [(.int (12 : Int32)), (.ref a0), (.int (16 : Int32)), (.ref a0)])
  refine ogo (fun _ z_ => XS.iloadN X31.here hx rfl (hb hby d2_21) rfl z_) ?_
  show OWay p e below G T31 (mkF m 22 #[.val (.ref a0), .val (.int (12 : Int32)), .val (.int (12 : Int32)), .val (.int (4 : Int32)), .val (.int y16)] [(.int (4 : Int32)), (.int (12 : Int32)), (.ref a0), (.int (16 : Int32)), (.ref a0)])
  refine ogo (fun _ z_ => XS.iadd X31.here hx rfl (hb hby d2_22) rfl z_) ?_
  show OWay p e below G T31 (mkF m 23 #[.val (.ref a0), .val (.int (12 : Int32)), .val (.int (12 : Int32)), .val (.int (4 : Int32)), .val (.int y16)] [(.int ((12 : Int32) + (4 : Int32))), (.ref a0), (.int (16 : Int32)), (.ref a0)])
  refine ogoE (g' := (mkF m 23 #[.val (.ref a0), .val (.int (12 : Int32)), .val (.int (12 : Int32)), .val (.int (4 : Int32)), .val (.int y16)] [(.int (16 : Int32)), (.ref a0), (.int (16 : Int32)), (.ref a0)])) (by rw [show ((12 : Int32) + (4 : Int32)) = (16 : Int32) from by decide]) ?_
  obtain ⟨cl_o34, Ar_o34, q_o34, S_o34, N_o34, H_o34, G_o34⟩ := id V_31
  have hin_o34 : ¬ ((16 : Int32) < 0 ∨ cl_o34.slots.size ≤ ((16 : Int32)).toNatClampNeg) := inb_of S_o34 ⟨by decide, by decide⟩
  have hat_o34 : cl_o34.slots[((16 : Int32)).toNatClampNeg]? = some (.int y16) := H_o34.at hin_o34 rfl
  refine ogo (fun _ z_ => X31.iaload hx (j := (16 : Int32)) (v := (.int y16)) (by rw [eT31]; exact Ar_o34.1) (State.isArrayOf_alike hZ.alike Ar_o34.2.1) Ar_o34.2.2 hin_o34 hat_o34 (g := (mkF m 23 #[.val (.ref a0), .val (.int (12 : Int32)), .val (.int (12 : Int32)), .val (.int (4 : Int32)), .val (.int y16)] [(.int (16 : Int32)), (.ref a0), (.int (16 : Int32)), (.ref a0)])) rfl rfl (hb hby d2_23) _ z_) ?_
  show OWay p e below G T31 (mkF m 24 #[.val (.ref a0), .val (.int (12 : Int32)), .val (.int (12 : Int32)), .val (.int (4 : Int32)), .val (.int y16)] [(.int y16), (.int (16 : Int32)), (.ref a0)])
  obtain ⟨cl_o35, Ar_o35, q_o35, S_o35, N_o35, H_o35, G_o35⟩ := id V_31
  have hin_o35 : ¬ ((16 : Int32) < 0 ∨ cl_o35.slots.size ≤ ((16 : Int32)).toNatClampNeg) := inb_of S_o35 ⟨by decide, by decide⟩
  obtain ⟨T36, h36, X36, eT36, W36, st36⟩ := stI X31 hx hZ eT31 Ar_o35 (j := (16 : Int32)) hin_o35 (g := (mkF m 24 #[.val (.ref a0), .val (.int (12 : Int32)), .val (.int (12 : Int32)), .val (.int (4 : Int32)), .val (.int y16)] [(.int y16), (.int (16 : Int32)), (.ref a0)])) rfl rfl (hb hby d2_24)
  have K37 : Keep h0 h36 [a0] := K32.wr W36 (Or.inl (List.mem_of_getElem? (i := 0) rfl))
  have V_36 : Arv Z h36 a0 kk .int (18 : Int32) [(.int y0), (.int y1), (.int y2), (.int y3), (.int y4), (.int y5), (.int y6), (.int y7), (.int y8), (.int y9), (.int y10), (.int y11), (.int y12), (.int y13), (.int y14), (.int y15), (.int y16), (.int y17)] (.int (0 : Int32)) := Arv.set Ar_o35 q_o35 S_o35 N_o35 H_o35 G_o35 rfl W36 16 rfl (Nat.le_of_ble_eq_true rfl)
  have N36 := Fr.snoc X36 N31 g_a0
  refine ogo st36 ?_
  show OWay p e below G T36 (mkF m 25 #[.val (.ref a0), .val (.int (12 : Int32)), .val (.int (12 : Int32)), .val (.int (4 : Int32)), .val (.int y16)] [])
  refine ogo (fun _ z_ => XS.aloadN X36.here hx rfl (hb hby d2_25) rfl rfl z_) ?_
  show OWay p e below G T36 (mkF m 26 #[.val (.ref a0), .val (.int (12 : Int32)), .val (.int (12 : Int32)), .val (.int (4 : Int32)), .val (.int y16)] [(.ref a0)])
  refine ogo (fun _ z_ => XS.iloadN X36.here hx rfl (hb hby d2_26) rfl z_) ?_
  show OWay p e below G T36 (mkF m 27 #[.val (.ref a0), .val (.int (12 : Int32)), .val (.int (12 : Int32)), .val (.int (4 : Int32)), .val (.int y16)] [(.int (12 : Int32)), (.ref a0)])
  refine ogo (fun _ z_ => XS.iloadN X36.here hx rfl (hb hby d2_27) rfl z_) ?_
  show OWay p e below G T36 (mkF m 28 #[.val (.ref a0), .val (.int (12 : Int32)), .val (.int (12 : Int32)), .val (.int (4 : Int32)), .val (.int y16)] [(.int (4 : Int32)), (.int (12 : Int32)), (.ref a0)])
  refine ogo (fun _ z_ => XS.iadd X36.here hx rfl (hb hby d2_28) rfl z_) ?_
  show OWay p e below G T36 (mkF m 29 #[.val (.ref a0), .val (.int (12 : Int32)), .val (.int (12 : Int32)), .val (.int (4 : Int32)), .val (.int y16)] [(.int ((12 : Int32) + (4 : Int32))), (.ref a0)])
  refine ogoE (g' := (mkF m 29 #[.val (.ref a0), .val (.int (12 : Int32)), .val (.int (12 : Int32)), .val (.int (4 : Int32)), .val (.int y16)] [(.int (16 : Int32)), (.ref a0)])) (by rw [show ((12 : Int32) + (4 : Int32)) = (16 : Int32) from by decide]) ?_
  refine ogo (fun _ z_ => XS.iload X36.here hx rfl (hb hby d2_29) rfl z_) ?_
  show OWay p e below G T36 (mkF m 31 #[.val (.ref a0), .val (.int (12 : Int32)), .val (.int (12 : Int32)), .val (.int (4 : Int32)), .val (.int y16)] [(.int y16), (.int (16 : Int32)), (.ref a0)])
  obtain ⟨cl_o38, Ar_o38, q_o38, S_o38, N_o38, H_o38, G_o38⟩ := id V_36
  have hin_o38 : ¬ ((16 : Int32) < 0 ∨ cl_o38.slots.size ≤ ((16 : Int32)).toNatClampNeg) := inb_of S_o38 ⟨by decide, by decide⟩
  obtain ⟨T39, h39, X39, eT39, W39, st39⟩ := stI X36 hx hZ eT36 Ar_o38 (j := (16 : Int32)) hin_o38 (g := (mkF m 31 #[.val (.ref a0), .val (.int (12 : Int32)), .val (.int (12 : Int32)), .val (.int (4 : Int32)), .val (.int y16)] [(.int y16), (.int (16 : Int32)), (.ref a0)])) rfl rfl (hb hby d2_31)
  have K40 : Keep h0 h39 [a0] := K37.wr W39 (Or.inl (List.mem_of_getElem? (i := 0) rfl))
  have V_39 : Arv Z h39 a0 kk .int (18 : Int32) [(.int y0), (.int y1), (.int y2), (.int y3), (.int y4), (.int y5), (.int y6), (.int y7), (.int y8), (.int y9), (.int y10), (.int y11), (.int y12), (.int y13), (.int y14), (.int y15), (.int y16), (.int y17)] (.int (0 : Int32)) := Arv.set Ar_o38 q_o38 S_o38 N_o38 H_o38 G_o38 rfl W39 16 rfl (Nat.le_of_ble_eq_true rfl)
  have N39 := Fr.snoc X39 N36 g_a0
  refine ogo st39 ?_
  show OWay p e below G T39 (mkF m 32 #[.val (.ref a0), .val (.int (12 : Int32)), .val (.int (12 : Int32)), .val (.int (4 : Int32)), .val (.int y16)] [])
  refine ogo (fun _ z_ => XS.iinc X39.here hx rfl (hb hby d2_32) rfl (l' := #[.val (.ref a0), .val (.int (12 : Int32)), .val (.int (12 : Int32)), .val (.int ((4 : Int32) + (1 : Int32))), .val (.int y16)]) rfl z_) ?_
  show OWay p e below G T39 (mkF m 35 #[.val (.ref a0), .val (.int (12 : Int32)), .val (.int (12 : Int32)), .val (.int ((4 : Int32) + (1 : Int32))), .val (.int y16)] [])
  refine ogoE (g' := (mkF m 35 #[.val (.ref a0), .val (.int (12 : Int32)), .val (.int (12 : Int32)), .val (.int (5 : Int32)), .val (.int y16)] [])) (by rw [show ((4 : Int32) + (1 : Int32)) = (5 : Int32) from by decide]) ?_
  refine ogo (fun _ z_ => XS.goto X39.here hx rfl (pc0 := 35) (pc' := 2) rfl (hb hby d2_35) (by decide) (by decide) z_) ?_
  show OWay p e below G T39 (mkF m 2 #[.val (.ref a0), .val (.int (12 : Int32)), .val (.int (12 : Int32)), .val (.int (5 : Int32)), .val (.int y16)] [])
  refine ogo (fun _ z_ => XS.iloadN X39.here hx rfl (hb hby d2_2) rfl z_) ?_
  show OWay p e below G T39 (mkF m 3 #[.val (.ref a0), .val (.int (12 : Int32)), .val (.int (12 : Int32)), .val (.int (5 : Int32)), .val (.int y16)] [(.int (5 : Int32))])
  refine ogo (fun _ z_ => XS.bipush X39.here hx rfl (hb hby d2_3) z_) ?_
  show OWay p e below G T39 (mkF m 5 #[.val (.ref a0), .val (.int (12 : Int32)), .val (.int (12 : Int32)), .val (.int (5 : Int32)), .val (.int y16)] [(.int (6 : Int32)), (.int (5 : Int32))])
  refine ogo (fun _ z_ => XS.icmpNo X39.here hx rfl (hb hby d2_5) rfl (tlt (by decide)).2.1 z_) ?_
  show OWay p e below G T39 (mkF m 8 #[.val (.ref a0), .val (.int (12 : Int32)), .val (.int (12 : Int32)), .val (.int (5 : Int32)), .val (.int y16)] [])
  refine ogo (fun _ z_ => XS.aloadN X39.here hx rfl (hb hby d2_8) rfl rfl z_) ?_
  show OWay p e below G T39 (mkF m 9 #[.val (.ref a0), .val (.int (12 : Int32)), .val (.int (12 : Int32)), .val (.int (5 : Int32)), .val (.int y16)] [(.ref a0)])
  refine ogo (fun _ z_ => XS.iloadN X39.here hx rfl (hb hby d2_9) rfl z_) ?_
  show OWay p e below G T39 (mkF m 10 #[.val (.ref a0), .val (.int (12 : Int32)), .val (.int (12 : Int32)), .val (.int (5 : Int32)), .val (.int y16)] [(.int (12 : Int32)), (.ref a0)])
  refine ogo (fun _ z_ => XS.iloadN X39.here hx rfl (hb hby d2_10) rfl z_) ?_
  show OWay p e below G T39 (mkF m 11 #[.val (.ref a0), .val (.int (12 : Int32)), .val (.int (12 : Int32)), .val (.int (5 : Int32)), .val (.int y16)] [(.int (5 : Int32)), (.int (12 : Int32)), (.ref a0)])
  refine ogo (fun _ z_ => XS.iadd X39.here hx rfl (hb hby d2_11) rfl z_) ?_
  show OWay p e below G T39 (mkF m 12 #[.val (.ref a0), .val (.int (12 : Int32)), .val (.int (12 : Int32)), .val (.int (5 : Int32)), .val (.int y16)] [(.int ((12 : Int32) + (5 : Int32))), (.ref a0)])
  refine ogoE (g' := (mkF m 12 #[.val (.ref a0), .val (.int (12 : Int32)), .val (.int (12 : Int32)), .val (.int (5 : Int32)), .val (.int y16)] [(.int (17 : Int32)), (.ref a0)])) (by rw [show ((12 : Int32) + (5 : Int32)) = (17 : Int32) from by decide]) ?_
  obtain ⟨cl_o41, Ar_o41, q_o41, S_o41, N_o41, H_o41, G_o41⟩ := id V_39
  have hin_o41 : ¬ ((17 : Int32) < 0 ∨ cl_o41.slots.size ≤ ((17 : Int32)).toNatClampNeg) := inb_of S_o41 ⟨by decide, by decide⟩
  have hat_o41 : cl_o41.slots[((17 : Int32)).toNatClampNeg]? = some (.int y17) := H_o41.at hin_o41 rfl
  refine ogo (fun _ z_ => X39.iaload hx (j := (17 : Int32)) (v := (.int y17)) (by rw [eT39]; exact Ar_o41.1) (State.isArrayOf_alike hZ.alike Ar_o41.2.1) Ar_o41.2.2 hin_o41 hat_o41 (g := (mkF m 12 #[.val (.ref a0), .val (.int (12 : Int32)), .val (.int (12 : Int32)), .val (.int (5 : Int32)), .val (.int y16)] [(.int (17 : Int32)), (.ref a0)])) rfl rfl (hb hby d2_12) _ z_) ?_
  show OWay p e below G T39 (mkF m 13 #[.val (.ref a0), .val (.int (12 : Int32)), .val (.int (12 : Int32)), .val (.int (5 : Int32)), .val (.int y16)] [(.int y17)])
  refine ogo (fun _ z_ => XS.istore X39.here hx rfl (hb hby d2_13) rfl (l' := #[.val (.ref a0), .val (.int (12 : Int32)), .val (.int (12 : Int32)), .val (.int (5 : Int32)), .val (.int y17)]) rfl z_) ?_
  show OWay p e below G T39 (mkF m 15 #[.val (.ref a0), .val (.int (12 : Int32)), .val (.int (12 : Int32)), .val (.int (5 : Int32)), .val (.int y17)] [])
  refine ogo (fun _ z_ => XS.aloadN X39.here hx rfl (hb hby d2_15) rfl rfl z_) ?_
  show OWay p e below G T39 (mkF m 16 #[.val (.ref a0), .val (.int (12 : Int32)), .val (.int (12 : Int32)), .val (.int (5 : Int32)), .val (.int y17)] [(.ref a0)])
  refine ogo (fun _ z_ => XS.iloadN X39.here hx rfl (hb hby d2_16) rfl z_) ?_
  show OWay p e below G T39 (mkF m 17 #[.val (.ref a0), .val (.int (12 : Int32)), .val (.int (12 : Int32)), .val (.int (5 : Int32)), .val (.int y17)] [(.int (12 : Int32)), (.ref a0)])
  refine ogo (fun _ z_ => XS.iloadN X39.here hx rfl (hb hby d2_17) rfl z_) ?_
  show OWay p e below G T39 (mkF m 18 #[.val (.ref a0), .val (.int (12 : Int32)), .val (.int (12 : Int32)), .val (.int (5 : Int32)), .val (.int y17)] [(.int (5 : Int32)), (.int (12 : Int32)), (.ref a0)])
  refine ogo (fun _ z_ => XS.iadd X39.here hx rfl (hb hby d2_18) rfl z_) ?_
  show OWay p e below G T39 (mkF m 19 #[.val (.ref a0), .val (.int (12 : Int32)), .val (.int (12 : Int32)), .val (.int (5 : Int32)), .val (.int y17)] [(.int ((12 : Int32) + (5 : Int32))), (.ref a0)])
  refine ogoE (g' := (mkF m 19 #[.val (.ref a0), .val (.int (12 : Int32)), .val (.int (12 : Int32)), .val (.int (5 : Int32)), .val (.int y17)] [(.int (17 : Int32)), (.ref a0)])) (by rw [show ((12 : Int32) + (5 : Int32)) = (17 : Int32) from by decide]) ?_
  refine ogo (fun _ z_ => XS.aloadN X39.here hx rfl (hb hby d2_19) rfl rfl z_) ?_
  show OWay p e below G T39 (mkF m 20 #[.val (.ref a0), .val (.int (12 : Int32)), .val (.int (12 : Int32)), .val (.int (5 : Int32)), .val (.int y17)] [(.ref a0), (.int (17 : Int32)), (.ref a0)])
  refine ogo (fun _ z_ => XS.iloadN X39.here hx rfl (hb hby d2_20) rfl z_) ?_
  show OWay p e below G T39 (mkF m 21 #[.val (.ref a0), .val (.int (12 : Int32)), .val (.int (12 : Int32)), .val (.int (5 : Int32)), .val (.int y17)] [(.int (12 : Int32)), (.ref a0), (.int (17 : Int32)), (.ref a0)])
  refine ogo (fun _ z_ => XS.iloadN X39.here hx rfl (hb hby d2_21) rfl z_) ?_
  show OWay p e below G T39 (mkF m 22 #[.val (.ref a0), .val (.int (12 : Int32)), .val (.int (12 : Int32)), .val (.int (5 : Int32)), .val (.int y17)] [(.int (5 : Int32)), (.int (12 : Int32)), (.ref a0), (.int (17 : Int32)), (.ref a0)])
  refine ogo (fun _ z_ => XS.iadd X39.here hx rfl (hb hby d2_22) rfl z_) ?_
  show OWay p e below G T39 (mkF m 23 #[.val (.ref a0), .val (.int (12 : Int32)), .val (.int (12 : Int32)), .val (.int (5 : Int32)), .val (.int y17)] [(.int ((12 : Int32) + (5 : Int32))), (.ref a0), (.int (17 : Int32)), (.ref a0)])
  refine ogoE (g' := (mkF m 23 #[.val (.ref a0), .val (.int (12 : Int32)), .val (.int (12 : Int32)), .val (.int (5 : Int32)), .val (.int y17)] [(.int (17 : Int32)), (.ref a0), (.int (17 : Int32)), (.ref a0)])) (by rw [show ((12 : Int32) + (5 : Int32)) = (17 : Int32) from by decide]) ?_
  obtain ⟨cl_o42, Ar_o42, q_o42, S_o42, N_o42, H_o42, G_o42⟩ := id V_39
  have hin_o42 : ¬ ((17 : Int32) < 0 ∨ cl_o42.slots.size ≤ ((17 : Int32)).toNatClampNeg) := inb_of S_o42 ⟨by decide, by decide⟩
  have hat_o42 : cl_o42.slots[((17 : Int32)).toNatClampNeg]? = some (.int y17) := H_o42.at hin_o42 rfl
  refine ogo (fun _ z_ => X39.iaload hx (j := (17 : Int32)) (v := (.int y17)) (by rw [eT39]; exact Ar_o42.1) (State.isArrayOf_alike hZ.alike Ar_o42.2.1) Ar_o42.2.2 hin_o42 hat_o42 (g := (mkF m 23 #[.val (.ref a0), .val (.int (12 : Int32)), .val (.int (12 : Int32)), .val (.int (5 : Int32)), .val (.int y17)] [(.int (17 : Int32)), (.ref a0), (.int (17 : Int32)), (.ref a0)])) rfl rfl (hb hby d2_23) _ z_) ?_
  show OWay p e below G T39 (mkF m 24 #[.val (.ref a0), .val (.int (12 : Int32)), .val (.int (12 : Int32)), .val (.int (5 : Int32)), .val (.int y17)] [(.int y17), (.int (17 : Int32)), (.ref a0)])
  obtain ⟨cl_o43, Ar_o43, q_o43, S_o43, N_o43, H_o43, G_o43⟩ := id V_39
  have hin_o43 : ¬ ((17 : Int32) < 0 ∨ cl_o43.slots.size ≤ ((17 : Int32)).toNatClampNeg) := inb_of S_o43 ⟨by decide, by decide⟩
  obtain ⟨T44, h44, X44, eT44, W44, st44⟩ := stI X39 hx hZ eT39 Ar_o43 (j := (17 : Int32)) hin_o43 (g := (mkF m 24 #[.val (.ref a0), .val (.int (12 : Int32)), .val (.int (12 : Int32)), .val (.int (5 : Int32)), .val (.int y17)] [(.int y17), (.int (17 : Int32)), (.ref a0)])) rfl rfl (hb hby d2_24)
  have K45 : Keep h0 h44 [a0] := K40.wr W44 (Or.inl (List.mem_of_getElem? (i := 0) rfl))
  have V_44 : Arv Z h44 a0 kk .int (18 : Int32) [(.int y0), (.int y1), (.int y2), (.int y3), (.int y4), (.int y5), (.int y6), (.int y7), (.int y8), (.int y9), (.int y10), (.int y11), (.int y12), (.int y13), (.int y14), (.int y15), (.int y16), (.int y17)] (.int (0 : Int32)) := Arv.set Ar_o43 q_o43 S_o43 N_o43 H_o43 G_o43 rfl W44 17 rfl (Nat.le_of_ble_eq_true rfl)
  have N44 := Fr.snoc X44 N39 g_a0
  refine ogo st44 ?_
  show OWay p e below G T44 (mkF m 25 #[.val (.ref a0), .val (.int (12 : Int32)), .val (.int (12 : Int32)), .val (.int (5 : Int32)), .val (.int y17)] [])
  refine ogo (fun _ z_ => XS.aloadN X44.here hx rfl (hb hby d2_25) rfl rfl z_) ?_
  show OWay p e below G T44 (mkF m 26 #[.val (.ref a0), .val (.int (12 : Int32)), .val (.int (12 : Int32)), .val (.int (5 : Int32)), .val (.int y17)] [(.ref a0)])
  refine ogo (fun _ z_ => XS.iloadN X44.here hx rfl (hb hby d2_26) rfl z_) ?_
  show OWay p e below G T44 (mkF m 27 #[.val (.ref a0), .val (.int (12 : Int32)), .val (.int (12 : Int32)), .val (.int (5 : Int32)), .val (.int y17)] [(.int (12 : Int32)), (.ref a0)])
  refine ogo (fun _ z_ => XS.iloadN X44.here hx rfl (hb hby d2_27) rfl z_) ?_
  show OWay p e below G T44 (mkF m 28 #[.val (.ref a0), .val (.int (12 : Int32)), .val (.int (12 : Int32)), .val (.int (5 : Int32)), .val (.int y17)] [(.int (5 : Int32)), (.int (12 : Int32)), (.ref a0)])
  refine ogo (fun _ z_ => XS.iadd X44.here hx rfl (hb hby d2_28) rfl z_) ?_
  show OWay p e below G T44 (mkF m 29 #[.val (.ref a0), .val (.int (12 : Int32)), .val (.int (12 : Int32)), .val (.int (5 : Int32)), .val (.int y17)] [(.int ((12 : Int32) + (5 : Int32))), (.ref a0)])
  refine ogoE (g' := (mkF m 29 #[.val (.ref a0), .val (.int (12 : Int32)), .val (.int (12 : Int32)), .val (.int (5 : Int32)), .val (.int y17)] [(.int (17 : Int32)), (.ref a0)])) (by rw [show ((12 : Int32) + (5 : Int32)) = (17 : Int32) from by decide]) ?_
  refine ogo (fun _ z_ => XS.iload X44.here hx rfl (hb hby d2_29) rfl z_) ?_
  show OWay p e below G T44 (mkF m 31 #[.val (.ref a0), .val (.int (12 : Int32)), .val (.int (12 : Int32)), .val (.int (5 : Int32)), .val (.int y17)] [(.int y17), (.int (17 : Int32)), (.ref a0)])
  obtain ⟨cl_o46, Ar_o46, q_o46, S_o46, N_o46, H_o46, G_o46⟩ := id V_44
  have hin_o46 : ¬ ((17 : Int32) < 0 ∨ cl_o46.slots.size ≤ ((17 : Int32)).toNatClampNeg) := inb_of S_o46 ⟨by decide, by decide⟩
  obtain ⟨T47, h47, X47, eT47, W47, st47⟩ := stI X44 hx hZ eT44 Ar_o46 (j := (17 : Int32)) hin_o46 (g := (mkF m 31 #[.val (.ref a0), .val (.int (12 : Int32)), .val (.int (12 : Int32)), .val (.int (5 : Int32)), .val (.int y17)] [(.int y17), (.int (17 : Int32)), (.ref a0)])) rfl rfl (hb hby d2_31)
  have K48 : Keep h0 h47 [a0] := K45.wr W47 (Or.inl (List.mem_of_getElem? (i := 0) rfl))
  have V_47 : Arv Z h47 a0 kk .int (18 : Int32) [(.int y0), (.int y1), (.int y2), (.int y3), (.int y4), (.int y5), (.int y6), (.int y7), (.int y8), (.int y9), (.int y10), (.int y11), (.int y12), (.int y13), (.int y14), (.int y15), (.int y16), (.int y17)] (.int (0 : Int32)) := Arv.set Ar_o46 q_o46 S_o46 N_o46 H_o46 G_o46 rfl W47 17 rfl (Nat.le_of_ble_eq_true rfl)
  have N47 := Fr.snoc X47 N44 g_a0
  refine ogo st47 ?_
  show OWay p e below G T47 (mkF m 32 #[.val (.ref a0), .val (.int (12 : Int32)), .val (.int (12 : Int32)), .val (.int (5 : Int32)), .val (.int y17)] [])
  refine ogo (fun _ z_ => XS.iinc X47.here hx rfl (hb hby d2_32) rfl (l' := #[.val (.ref a0), .val (.int (12 : Int32)), .val (.int (12 : Int32)), .val (.int ((5 : Int32) + (1 : Int32))), .val (.int y17)]) rfl z_) ?_
  show OWay p e below G T47 (mkF m 35 #[.val (.ref a0), .val (.int (12 : Int32)), .val (.int (12 : Int32)), .val (.int ((5 : Int32) + (1 : Int32))), .val (.int y17)] [])
  refine ogoE (g' := (mkF m 35 #[.val (.ref a0), .val (.int (12 : Int32)), .val (.int (12 : Int32)), .val (.int (6 : Int32)), .val (.int y17)] [])) (by rw [show ((5 : Int32) + (1 : Int32)) = (6 : Int32) from by decide]) ?_
  refine ogo (fun _ z_ => XS.goto X47.here hx rfl (pc0 := 35) (pc' := 2) rfl (hb hby d2_35) (by decide) (by decide) z_) ?_
  show OWay p e below G T47 (mkF m 2 #[.val (.ref a0), .val (.int (12 : Int32)), .val (.int (12 : Int32)), .val (.int (6 : Int32)), .val (.int y17)] [])
  refine ogo (fun _ z_ => XS.iloadN X47.here hx rfl (hb hby d2_2) rfl z_) ?_
  show OWay p e below G T47 (mkF m 3 #[.val (.ref a0), .val (.int (12 : Int32)), .val (.int (12 : Int32)), .val (.int (6 : Int32)), .val (.int y17)] [(.int (6 : Int32))])
  refine ogo (fun _ z_ => XS.bipush X47.here hx rfl (hb hby d2_3) z_) ?_
  show OWay p e below G T47 (mkF m 5 #[.val (.ref a0), .val (.int (12 : Int32)), .val (.int (12 : Int32)), .val (.int (6 : Int32)), .val (.int y17)] [(.int (6 : Int32)), (.int (6 : Int32))])
  refine ogo (fun _ z_ => XS.icmpYes X47.here hx rfl (pc0 := 5) (pc' := 38) rfl (hb hby d2_5) rfl (flt (by decide)).2.1 (by decide) (by decide) z_) ?_
  show OWay p e below G T47 (mkF m 38 #[.val (.ref a0), .val (.int (12 : Int32)), .val (.int (12 : Int32)), .val (.int (6 : Int32)), .val (.int y17)] [])
  subst hG
  refine wRetV X47 hx hret hlk (hb hby d2_38) (by decide) (by decide) eT47 ?_
  exact ⟨rfl, N47, K48, V_47⟩
def swapA_rm : Room := { frames := 0, cells := 0, slots := 0, locals := 0 }
def swapA_Q (Z : State) (a0 : Addr) (kk : ClassId) (Y : Int32 → Int32) (a : Int32) (o : Int32) (h0 : Heap) (n0 : Nat) (v : Option Value) (h : Heap) (L : List Loc) : Prop := (v = none) ∧ (Fr n0 L) ∧ (Keep h0 h [a0]) ∧ (Arv Z h a0 kk .int (18 : Int32) [(.int (Y (src (0 : Int32) a o))), (.int (Y (src (1 : Int32) a o))), (.int (Y (src (2 : Int32) a o))), (.int (Y (src (3 : Int32) a o))), (.int (Y (src (4 : Int32) a o))), (.int (Y (src (5 : Int32) a o))), (.int (Y (src (6 : Int32) a o))), (.int (Y (src (7 : Int32) a o))), (.int (Y (src (8 : Int32) a o))), (.int (Y (src (9 : Int32) a o))), (.int (Y (src (10 : Int32) a o))), (.int (Y (src (11 : Int32) a o))), (.int (Y (src (12 : Int32) a o))), (.int (Y (src (13 : Int32) a o))), (.int (Y (src (14 : Int32) a o))), (.int (Y (src (15 : Int32) a o))), (.int (Y (src (16 : Int32) a o))), (.int (Y (src (17 : Int32) a o)))] (.int (0 : Int32)))
theorem swapA_ef (m : MethodId) (a0 : Addr) : entryFrame m #[(.ref a0), (.int (a * (6 : Int32))), (.int (o * (6 : Int32)))] 5 = mkF m 0 #[.val (.ref a0), .val (.int (a * (6 : Int32))), .val (.int (o * (6 : Int32))), .unset, .unset] [] := by first | (simp [entryFrame, mkF, argsToLocals, Value.category]; done) | rfl
set_option maxRecDepth 65536 in
set_option maxHeartbeats 40000000 in
theorem swapA_c (l : Launch) (Z : State) (az : Array Value) (hw : ∀ d ∈ tables_1, d.before az Z = true) (ws : List Jvm.Cond) (a0 : Addr) (kk : ClassId) (Y : Int32 → Int32) (a : Int32) (o : Int32) (h0 : Heap) (n0 : Nat) (Z0 : n0 ≤ h0.size) (hp0 : Arv Z h0 a0 kk .int (18 : Int32) [(.int (Y (0 : Int32))), (.int (Y (1 : Int32))), (.int (Y (2 : Int32))), (.int (Y (3 : Int32))), (.int (Y (4 : Int32))), (.int (Y (5 : Int32))), (.int (Y (6 : Int32))), (.int (Y (7 : Int32))), (.int (Y (8 : Int32))), (.int (Y (9 : Int32))), (.int (Y (10 : Int32))), (.int (Y (11 : Int32))), (.int (Y (12 : Int32))), (.int (Y (13 : Int32))), (.int (Y (14 : Int32))), (.int (Y (15 : Int32))), (.int (Y (16 : Int32))), (.int (Y (17 : Int32)))] (.int (0 : Int32))) (hp1 : n0 ≤ a0) (ha : a = (0 : Int32) ∨ a = (1 : Int32) ∨ a = (2 : Int32)) (ho : o = (0 : Int32) ∨ o = (1 : Int32) ∨ o = (2 : Int32)) :
    OCon l (⟨"com/example/geotide/geotide/Members", "swap", "([III)V"⟩ : MethodName) prog_44_method_8_code 5 none ws swapA_rm Z #[(.ref a0), (.int (a * (6 : Int32))), (.int (o * (6 : Int32)))] h0 (swapA_Q Z a0 kk Y a o h0 n0) := by
  rcases ha with rfl | rfl | rfl <;> rcases ho with rfl | rfl | rfl
  · have q := swap00_c l Z az hw ws a0 kk (Y (0 : Int32)) (Y (1 : Int32)) (Y (2 : Int32)) (Y (3 : Int32)) (Y (4 : Int32)) (Y (5 : Int32)) (Y (6 : Int32)) (Y (7 : Int32)) (Y (8 : Int32)) (Y (9 : Int32)) (Y (10 : Int32)) (Y (11 : Int32)) (Y (12 : Int32)) (Y (13 : Int32)) (Y (14 : Int32)) (Y (15 : Int32)) (Y (16 : Int32)) (Y (17 : Int32)) h0 n0 Z0 hp0 hp1
    unfold swapA_Q
    rw [show ((0 : Int32) * (6 : Int32)) = (0 : Int32) from by decide, show src (0 : Int32) (0 : Int32) (0 : Int32) = (0 : Int32) from by decide, show src (1 : Int32) (0 : Int32) (0 : Int32) = (1 : Int32) from by decide, show src (2 : Int32) (0 : Int32) (0 : Int32) = (2 : Int32) from by decide, show src (3 : Int32) (0 : Int32) (0 : Int32) = (3 : Int32) from by decide, show src (4 : Int32) (0 : Int32) (0 : Int32) = (4 : Int32) from by decide, show src (5 : Int32) (0 : Int32) (0 : Int32) = (5 : Int32) from by decide, show src (6 : Int32) (0 : Int32) (0 : Int32) = (6 : Int32) from by decide, show src (7 : Int32) (0 : Int32) (0 : Int32) = (7 : Int32) from by decide, show src (8 : Int32) (0 : Int32) (0 : Int32) = (8 : Int32) from by decide, show src (9 : Int32) (0 : Int32) (0 : Int32) = (9 : Int32) from by decide, show src (10 : Int32) (0 : Int32) (0 : Int32) = (10 : Int32) from by decide, show src (11 : Int32) (0 : Int32) (0 : Int32) = (11 : Int32) from by decide, show src (12 : Int32) (0 : Int32) (0 : Int32) = (12 : Int32) from by decide, show src (13 : Int32) (0 : Int32) (0 : Int32) = (13 : Int32) from by decide, show src (14 : Int32) (0 : Int32) (0 : Int32) = (14 : Int32) from by decide, show src (15 : Int32) (0 : Int32) (0 : Int32) = (15 : Int32) from by decide, show src (16 : Int32) (0 : Int32) (0 : Int32) = (16 : Int32) from by decide, show src (17 : Int32) (0 : Int32) (0 : Int32) = (17 : Int32) from by decide]
    exact q
  · have q := swap01_c l Z az hw ws a0 kk (Y (0 : Int32)) (Y (1 : Int32)) (Y (2 : Int32)) (Y (3 : Int32)) (Y (4 : Int32)) (Y (5 : Int32)) (Y (6 : Int32)) (Y (7 : Int32)) (Y (8 : Int32)) (Y (9 : Int32)) (Y (10 : Int32)) (Y (11 : Int32)) (Y (12 : Int32)) (Y (13 : Int32)) (Y (14 : Int32)) (Y (15 : Int32)) (Y (16 : Int32)) (Y (17 : Int32)) h0 n0 Z0 hp0 hp1
    unfold swapA_Q
    rw [show ((0 : Int32) * (6 : Int32)) = (0 : Int32) from by decide, show ((1 : Int32) * (6 : Int32)) = (6 : Int32) from by decide, show src (0 : Int32) (0 : Int32) (1 : Int32) = (6 : Int32) from by decide, show src (1 : Int32) (0 : Int32) (1 : Int32) = (7 : Int32) from by decide, show src (2 : Int32) (0 : Int32) (1 : Int32) = (8 : Int32) from by decide, show src (3 : Int32) (0 : Int32) (1 : Int32) = (9 : Int32) from by decide, show src (4 : Int32) (0 : Int32) (1 : Int32) = (10 : Int32) from by decide, show src (5 : Int32) (0 : Int32) (1 : Int32) = (11 : Int32) from by decide, show src (6 : Int32) (0 : Int32) (1 : Int32) = (0 : Int32) from by decide, show src (7 : Int32) (0 : Int32) (1 : Int32) = (1 : Int32) from by decide, show src (8 : Int32) (0 : Int32) (1 : Int32) = (2 : Int32) from by decide, show src (9 : Int32) (0 : Int32) (1 : Int32) = (3 : Int32) from by decide, show src (10 : Int32) (0 : Int32) (1 : Int32) = (4 : Int32) from by decide, show src (11 : Int32) (0 : Int32) (1 : Int32) = (5 : Int32) from by decide, show src (12 : Int32) (0 : Int32) (1 : Int32) = (12 : Int32) from by decide, show src (13 : Int32) (0 : Int32) (1 : Int32) = (13 : Int32) from by decide, show src (14 : Int32) (0 : Int32) (1 : Int32) = (14 : Int32) from by decide, show src (15 : Int32) (0 : Int32) (1 : Int32) = (15 : Int32) from by decide, show src (16 : Int32) (0 : Int32) (1 : Int32) = (16 : Int32) from by decide, show src (17 : Int32) (0 : Int32) (1 : Int32) = (17 : Int32) from by decide]
    exact q
  · have q := swap02_c l Z az hw ws a0 kk (Y (0 : Int32)) (Y (1 : Int32)) (Y (2 : Int32)) (Y (3 : Int32)) (Y (4 : Int32)) (Y (5 : Int32)) (Y (6 : Int32)) (Y (7 : Int32)) (Y (8 : Int32)) (Y (9 : Int32)) (Y (10 : Int32)) (Y (11 : Int32)) (Y (12 : Int32)) (Y (13 : Int32)) (Y (14 : Int32)) (Y (15 : Int32)) (Y (16 : Int32)) (Y (17 : Int32)) h0 n0 Z0 hp0 hp1
    unfold swapA_Q
    rw [show ((0 : Int32) * (6 : Int32)) = (0 : Int32) from by decide, show ((2 : Int32) * (6 : Int32)) = (12 : Int32) from by decide, show src (0 : Int32) (0 : Int32) (2 : Int32) = (12 : Int32) from by decide, show src (1 : Int32) (0 : Int32) (2 : Int32) = (13 : Int32) from by decide, show src (2 : Int32) (0 : Int32) (2 : Int32) = (14 : Int32) from by decide, show src (3 : Int32) (0 : Int32) (2 : Int32) = (15 : Int32) from by decide, show src (4 : Int32) (0 : Int32) (2 : Int32) = (16 : Int32) from by decide, show src (5 : Int32) (0 : Int32) (2 : Int32) = (17 : Int32) from by decide, show src (6 : Int32) (0 : Int32) (2 : Int32) = (6 : Int32) from by decide, show src (7 : Int32) (0 : Int32) (2 : Int32) = (7 : Int32) from by decide, show src (8 : Int32) (0 : Int32) (2 : Int32) = (8 : Int32) from by decide, show src (9 : Int32) (0 : Int32) (2 : Int32) = (9 : Int32) from by decide, show src (10 : Int32) (0 : Int32) (2 : Int32) = (10 : Int32) from by decide, show src (11 : Int32) (0 : Int32) (2 : Int32) = (11 : Int32) from by decide, show src (12 : Int32) (0 : Int32) (2 : Int32) = (0 : Int32) from by decide, show src (13 : Int32) (0 : Int32) (2 : Int32) = (1 : Int32) from by decide, show src (14 : Int32) (0 : Int32) (2 : Int32) = (2 : Int32) from by decide, show src (15 : Int32) (0 : Int32) (2 : Int32) = (3 : Int32) from by decide, show src (16 : Int32) (0 : Int32) (2 : Int32) = (4 : Int32) from by decide, show src (17 : Int32) (0 : Int32) (2 : Int32) = (5 : Int32) from by decide]
    exact q
  · have q := swap10_c l Z az hw ws a0 kk (Y (0 : Int32)) (Y (1 : Int32)) (Y (2 : Int32)) (Y (3 : Int32)) (Y (4 : Int32)) (Y (5 : Int32)) (Y (6 : Int32)) (Y (7 : Int32)) (Y (8 : Int32)) (Y (9 : Int32)) (Y (10 : Int32)) (Y (11 : Int32)) (Y (12 : Int32)) (Y (13 : Int32)) (Y (14 : Int32)) (Y (15 : Int32)) (Y (16 : Int32)) (Y (17 : Int32)) h0 n0 Z0 hp0 hp1
    unfold swapA_Q
    rw [show ((1 : Int32) * (6 : Int32)) = (6 : Int32) from by decide, show ((0 : Int32) * (6 : Int32)) = (0 : Int32) from by decide, show src (0 : Int32) (1 : Int32) (0 : Int32) = (6 : Int32) from by decide, show src (1 : Int32) (1 : Int32) (0 : Int32) = (7 : Int32) from by decide, show src (2 : Int32) (1 : Int32) (0 : Int32) = (8 : Int32) from by decide, show src (3 : Int32) (1 : Int32) (0 : Int32) = (9 : Int32) from by decide, show src (4 : Int32) (1 : Int32) (0 : Int32) = (10 : Int32) from by decide, show src (5 : Int32) (1 : Int32) (0 : Int32) = (11 : Int32) from by decide, show src (6 : Int32) (1 : Int32) (0 : Int32) = (0 : Int32) from by decide, show src (7 : Int32) (1 : Int32) (0 : Int32) = (1 : Int32) from by decide, show src (8 : Int32) (1 : Int32) (0 : Int32) = (2 : Int32) from by decide, show src (9 : Int32) (1 : Int32) (0 : Int32) = (3 : Int32) from by decide, show src (10 : Int32) (1 : Int32) (0 : Int32) = (4 : Int32) from by decide, show src (11 : Int32) (1 : Int32) (0 : Int32) = (5 : Int32) from by decide, show src (12 : Int32) (1 : Int32) (0 : Int32) = (12 : Int32) from by decide, show src (13 : Int32) (1 : Int32) (0 : Int32) = (13 : Int32) from by decide, show src (14 : Int32) (1 : Int32) (0 : Int32) = (14 : Int32) from by decide, show src (15 : Int32) (1 : Int32) (0 : Int32) = (15 : Int32) from by decide, show src (16 : Int32) (1 : Int32) (0 : Int32) = (16 : Int32) from by decide, show src (17 : Int32) (1 : Int32) (0 : Int32) = (17 : Int32) from by decide]
    exact q
  · have q := swap11_c l Z az hw ws a0 kk (Y (0 : Int32)) (Y (1 : Int32)) (Y (2 : Int32)) (Y (3 : Int32)) (Y (4 : Int32)) (Y (5 : Int32)) (Y (6 : Int32)) (Y (7 : Int32)) (Y (8 : Int32)) (Y (9 : Int32)) (Y (10 : Int32)) (Y (11 : Int32)) (Y (12 : Int32)) (Y (13 : Int32)) (Y (14 : Int32)) (Y (15 : Int32)) (Y (16 : Int32)) (Y (17 : Int32)) h0 n0 Z0 hp0 hp1
    unfold swapA_Q
    rw [show ((1 : Int32) * (6 : Int32)) = (6 : Int32) from by decide, show src (0 : Int32) (1 : Int32) (1 : Int32) = (0 : Int32) from by decide, show src (1 : Int32) (1 : Int32) (1 : Int32) = (1 : Int32) from by decide, show src (2 : Int32) (1 : Int32) (1 : Int32) = (2 : Int32) from by decide, show src (3 : Int32) (1 : Int32) (1 : Int32) = (3 : Int32) from by decide, show src (4 : Int32) (1 : Int32) (1 : Int32) = (4 : Int32) from by decide, show src (5 : Int32) (1 : Int32) (1 : Int32) = (5 : Int32) from by decide, show src (6 : Int32) (1 : Int32) (1 : Int32) = (6 : Int32) from by decide, show src (7 : Int32) (1 : Int32) (1 : Int32) = (7 : Int32) from by decide, show src (8 : Int32) (1 : Int32) (1 : Int32) = (8 : Int32) from by decide, show src (9 : Int32) (1 : Int32) (1 : Int32) = (9 : Int32) from by decide, show src (10 : Int32) (1 : Int32) (1 : Int32) = (10 : Int32) from by decide, show src (11 : Int32) (1 : Int32) (1 : Int32) = (11 : Int32) from by decide, show src (12 : Int32) (1 : Int32) (1 : Int32) = (12 : Int32) from by decide, show src (13 : Int32) (1 : Int32) (1 : Int32) = (13 : Int32) from by decide, show src (14 : Int32) (1 : Int32) (1 : Int32) = (14 : Int32) from by decide, show src (15 : Int32) (1 : Int32) (1 : Int32) = (15 : Int32) from by decide, show src (16 : Int32) (1 : Int32) (1 : Int32) = (16 : Int32) from by decide, show src (17 : Int32) (1 : Int32) (1 : Int32) = (17 : Int32) from by decide]
    exact q
  · have q := swap12_c l Z az hw ws a0 kk (Y (0 : Int32)) (Y (1 : Int32)) (Y (2 : Int32)) (Y (3 : Int32)) (Y (4 : Int32)) (Y (5 : Int32)) (Y (6 : Int32)) (Y (7 : Int32)) (Y (8 : Int32)) (Y (9 : Int32)) (Y (10 : Int32)) (Y (11 : Int32)) (Y (12 : Int32)) (Y (13 : Int32)) (Y (14 : Int32)) (Y (15 : Int32)) (Y (16 : Int32)) (Y (17 : Int32)) h0 n0 Z0 hp0 hp1
    unfold swapA_Q
    rw [show ((1 : Int32) * (6 : Int32)) = (6 : Int32) from by decide, show ((2 : Int32) * (6 : Int32)) = (12 : Int32) from by decide, show src (0 : Int32) (1 : Int32) (2 : Int32) = (0 : Int32) from by decide, show src (1 : Int32) (1 : Int32) (2 : Int32) = (1 : Int32) from by decide, show src (2 : Int32) (1 : Int32) (2 : Int32) = (2 : Int32) from by decide, show src (3 : Int32) (1 : Int32) (2 : Int32) = (3 : Int32) from by decide, show src (4 : Int32) (1 : Int32) (2 : Int32) = (4 : Int32) from by decide, show src (5 : Int32) (1 : Int32) (2 : Int32) = (5 : Int32) from by decide, show src (6 : Int32) (1 : Int32) (2 : Int32) = (12 : Int32) from by decide, show src (7 : Int32) (1 : Int32) (2 : Int32) = (13 : Int32) from by decide, show src (8 : Int32) (1 : Int32) (2 : Int32) = (14 : Int32) from by decide, show src (9 : Int32) (1 : Int32) (2 : Int32) = (15 : Int32) from by decide, show src (10 : Int32) (1 : Int32) (2 : Int32) = (16 : Int32) from by decide, show src (11 : Int32) (1 : Int32) (2 : Int32) = (17 : Int32) from by decide, show src (12 : Int32) (1 : Int32) (2 : Int32) = (6 : Int32) from by decide, show src (13 : Int32) (1 : Int32) (2 : Int32) = (7 : Int32) from by decide, show src (14 : Int32) (1 : Int32) (2 : Int32) = (8 : Int32) from by decide, show src (15 : Int32) (1 : Int32) (2 : Int32) = (9 : Int32) from by decide, show src (16 : Int32) (1 : Int32) (2 : Int32) = (10 : Int32) from by decide, show src (17 : Int32) (1 : Int32) (2 : Int32) = (11 : Int32) from by decide]
    exact q
  · have q := swap20_c l Z az hw ws a0 kk (Y (0 : Int32)) (Y (1 : Int32)) (Y (2 : Int32)) (Y (3 : Int32)) (Y (4 : Int32)) (Y (5 : Int32)) (Y (6 : Int32)) (Y (7 : Int32)) (Y (8 : Int32)) (Y (9 : Int32)) (Y (10 : Int32)) (Y (11 : Int32)) (Y (12 : Int32)) (Y (13 : Int32)) (Y (14 : Int32)) (Y (15 : Int32)) (Y (16 : Int32)) (Y (17 : Int32)) h0 n0 Z0 hp0 hp1
    unfold swapA_Q
    rw [show ((2 : Int32) * (6 : Int32)) = (12 : Int32) from by decide, show ((0 : Int32) * (6 : Int32)) = (0 : Int32) from by decide, show src (0 : Int32) (2 : Int32) (0 : Int32) = (12 : Int32) from by decide, show src (1 : Int32) (2 : Int32) (0 : Int32) = (13 : Int32) from by decide, show src (2 : Int32) (2 : Int32) (0 : Int32) = (14 : Int32) from by decide, show src (3 : Int32) (2 : Int32) (0 : Int32) = (15 : Int32) from by decide, show src (4 : Int32) (2 : Int32) (0 : Int32) = (16 : Int32) from by decide, show src (5 : Int32) (2 : Int32) (0 : Int32) = (17 : Int32) from by decide, show src (6 : Int32) (2 : Int32) (0 : Int32) = (6 : Int32) from by decide, show src (7 : Int32) (2 : Int32) (0 : Int32) = (7 : Int32) from by decide, show src (8 : Int32) (2 : Int32) (0 : Int32) = (8 : Int32) from by decide, show src (9 : Int32) (2 : Int32) (0 : Int32) = (9 : Int32) from by decide, show src (10 : Int32) (2 : Int32) (0 : Int32) = (10 : Int32) from by decide, show src (11 : Int32) (2 : Int32) (0 : Int32) = (11 : Int32) from by decide, show src (12 : Int32) (2 : Int32) (0 : Int32) = (0 : Int32) from by decide, show src (13 : Int32) (2 : Int32) (0 : Int32) = (1 : Int32) from by decide, show src (14 : Int32) (2 : Int32) (0 : Int32) = (2 : Int32) from by decide, show src (15 : Int32) (2 : Int32) (0 : Int32) = (3 : Int32) from by decide, show src (16 : Int32) (2 : Int32) (0 : Int32) = (4 : Int32) from by decide, show src (17 : Int32) (2 : Int32) (0 : Int32) = (5 : Int32) from by decide]
    exact q
  · have q := swap21_c l Z az hw ws a0 kk (Y (0 : Int32)) (Y (1 : Int32)) (Y (2 : Int32)) (Y (3 : Int32)) (Y (4 : Int32)) (Y (5 : Int32)) (Y (6 : Int32)) (Y (7 : Int32)) (Y (8 : Int32)) (Y (9 : Int32)) (Y (10 : Int32)) (Y (11 : Int32)) (Y (12 : Int32)) (Y (13 : Int32)) (Y (14 : Int32)) (Y (15 : Int32)) (Y (16 : Int32)) (Y (17 : Int32)) h0 n0 Z0 hp0 hp1
    unfold swapA_Q
    rw [show ((2 : Int32) * (6 : Int32)) = (12 : Int32) from by decide, show ((1 : Int32) * (6 : Int32)) = (6 : Int32) from by decide, show src (0 : Int32) (2 : Int32) (1 : Int32) = (0 : Int32) from by decide, show src (1 : Int32) (2 : Int32) (1 : Int32) = (1 : Int32) from by decide, show src (2 : Int32) (2 : Int32) (1 : Int32) = (2 : Int32) from by decide, show src (3 : Int32) (2 : Int32) (1 : Int32) = (3 : Int32) from by decide, show src (4 : Int32) (2 : Int32) (1 : Int32) = (4 : Int32) from by decide, show src (5 : Int32) (2 : Int32) (1 : Int32) = (5 : Int32) from by decide, show src (6 : Int32) (2 : Int32) (1 : Int32) = (12 : Int32) from by decide, show src (7 : Int32) (2 : Int32) (1 : Int32) = (13 : Int32) from by decide, show src (8 : Int32) (2 : Int32) (1 : Int32) = (14 : Int32) from by decide, show src (9 : Int32) (2 : Int32) (1 : Int32) = (15 : Int32) from by decide, show src (10 : Int32) (2 : Int32) (1 : Int32) = (16 : Int32) from by decide, show src (11 : Int32) (2 : Int32) (1 : Int32) = (17 : Int32) from by decide, show src (12 : Int32) (2 : Int32) (1 : Int32) = (6 : Int32) from by decide, show src (13 : Int32) (2 : Int32) (1 : Int32) = (7 : Int32) from by decide, show src (14 : Int32) (2 : Int32) (1 : Int32) = (8 : Int32) from by decide, show src (15 : Int32) (2 : Int32) (1 : Int32) = (9 : Int32) from by decide, show src (16 : Int32) (2 : Int32) (1 : Int32) = (10 : Int32) from by decide, show src (17 : Int32) (2 : Int32) (1 : Int32) = (11 : Int32) from by decide]
    exact q
  · have q := swap22_c l Z az hw ws a0 kk (Y (0 : Int32)) (Y (1 : Int32)) (Y (2 : Int32)) (Y (3 : Int32)) (Y (4 : Int32)) (Y (5 : Int32)) (Y (6 : Int32)) (Y (7 : Int32)) (Y (8 : Int32)) (Y (9 : Int32)) (Y (10 : Int32)) (Y (11 : Int32)) (Y (12 : Int32)) (Y (13 : Int32)) (Y (14 : Int32)) (Y (15 : Int32)) (Y (16 : Int32)) (Y (17 : Int32)) h0 n0 Z0 hp0 hp1
    unfold swapA_Q
    rw [show ((2 : Int32) * (6 : Int32)) = (12 : Int32) from by decide, show src (0 : Int32) (2 : Int32) (2 : Int32) = (0 : Int32) from by decide, show src (1 : Int32) (2 : Int32) (2 : Int32) = (1 : Int32) from by decide, show src (2 : Int32) (2 : Int32) (2 : Int32) = (2 : Int32) from by decide, show src (3 : Int32) (2 : Int32) (2 : Int32) = (3 : Int32) from by decide, show src (4 : Int32) (2 : Int32) (2 : Int32) = (4 : Int32) from by decide, show src (5 : Int32) (2 : Int32) (2 : Int32) = (5 : Int32) from by decide, show src (6 : Int32) (2 : Int32) (2 : Int32) = (6 : Int32) from by decide, show src (7 : Int32) (2 : Int32) (2 : Int32) = (7 : Int32) from by decide, show src (8 : Int32) (2 : Int32) (2 : Int32) = (8 : Int32) from by decide, show src (9 : Int32) (2 : Int32) (2 : Int32) = (9 : Int32) from by decide, show src (10 : Int32) (2 : Int32) (2 : Int32) = (10 : Int32) from by decide, show src (11 : Int32) (2 : Int32) (2 : Int32) = (11 : Int32) from by decide, show src (12 : Int32) (2 : Int32) (2 : Int32) = (12 : Int32) from by decide, show src (13 : Int32) (2 : Int32) (2 : Int32) = (13 : Int32) from by decide, show src (14 : Int32) (2 : Int32) (2 : Int32) = (14 : Int32) from by decide, show src (15 : Int32) (2 : Int32) (2 : Int32) = (15 : Int32) from by decide, show src (16 : Int32) (2 : Int32) (2 : Int32) = (16 : Int32) from by decide, show src (17 : Int32) (2 : Int32) (2 : Int32) = (17 : Int32) from by decide]
    exact q
theorem d3_0 : decode method_4_code 0 = .ok (.iload_n 1, 1) := by decide +kernel
theorem d3_1 : decode method_4_code 1 = .ok (.bipush 6, 2) := by decide +kernel
theorem d3_3 : decode method_4_code 3 = .ok (.idiv, 1) := by decide +kernel
theorem d3_4 : decode method_4_code 4 = .ok (.istore 6, 2) := by decide +kernel
theorem d3_6 : decode method_4_code 6 = .ok (.iload_n 1, 1) := by decide +kernel
theorem d3_7 : decode method_4_code 7 = .ok (.bipush 6, 2) := by decide +kernel
theorem d3_9 : decode method_4_code 9 = .ok (.irem, 1) := by decide +kernel
theorem d3_10 : decode method_4_code 10 = .ok (.istore 7, 2) := by decide +kernel
theorem d3_12 : decode method_4_code 12 = .ok (.iload 6, 2) := by decide +kernel
theorem d3_14 : decode method_4_code 14 = .ok (.iload_n 2, 1) := by decide +kernel
theorem d3_15 : decode method_4_code 15 = .ok (.if_icmp .ne 15, 3) := by decide +kernel
theorem d3_18 : decode method_4_code 18 = .ok (.iload_n 3, 1) := by decide +kernel
theorem d3_19 : decode method_4_code 19 = .ok (.bipush 6, 2) := by decide +kernel
theorem d3_21 : decode method_4_code 21 = .ok (.imul, 1) := by decide +kernel
theorem d3_22 : decode method_4_code 22 = .ok (.iload 7, 2) := by decide +kernel
theorem d3_24 : decode method_4_code 24 = .ok (.iadd, 1) := by decide +kernel
theorem d3_25 : decode method_4_code 25 = .ok (.istore 8, 2) := by decide +kernel
theorem d3_27 : decode method_4_code 27 = .ok (.goto 24, 3) := by decide +kernel
theorem d3_30 : decode method_4_code 30 = .ok (.iload 6, 2) := by decide +kernel
theorem d3_32 : decode method_4_code 32 = .ok (.iload_n 3, 1) := by decide +kernel
theorem d3_33 : decode method_4_code 33 = .ok (.if_icmp .ne 15, 3) := by decide +kernel
theorem d3_36 : decode method_4_code 36 = .ok (.iload_n 2, 1) := by decide +kernel
theorem d3_37 : decode method_4_code 37 = .ok (.bipush 6, 2) := by decide +kernel
theorem d3_39 : decode method_4_code 39 = .ok (.imul, 1) := by decide +kernel
theorem d3_40 : decode method_4_code 40 = .ok (.iload 7, 2) := by decide +kernel
theorem d3_42 : decode method_4_code 42 = .ok (.iadd, 1) := by decide +kernel
theorem d3_43 : decode method_4_code 43 = .ok (.istore 8, 2) := by decide +kernel
theorem d3_45 : decode method_4_code 45 = .ok (.goto 6, 3) := by decide +kernel
theorem d3_48 : decode method_4_code 48 = .ok (.iload_n 1, 1) := by decide +kernel
theorem d3_49 : decode method_4_code 49 = .ok (.istore 8, 2) := by decide +kernel
theorem d3_51 : decode method_4_code 51 = .ok (.aload_n 0, 1) := by decide +kernel
theorem d3_52 : decode method_4_code 52 = .ok (.iload_n 1, 1) := by decide +kernel
theorem d3_53 : decode method_4_code 53 = .ok (.iaload, 1) := by decide +kernel
theorem d3_54 : decode method_4_code 54 = .ok (.iload 4, 2) := by decide +kernel
theorem d3_56 : decode method_4_code 56 = .ok (.iload 5, 2) := by decide +kernel
theorem d3_58 : decode method_4_code 58 = .ok (.iload 8, 2) := by decide +kernel
theorem d3_60 : decode method_4_code 60 = .ok (.invokestatic 7, 3) := by decide +kernel
theorem pd__III_I : parseMethodDescriptor "(III)I" = some ⟨[.int, .int, .int], some .int⟩ := by decide +kernel
theorem d3_63 : decode method_4_code 63 = .ok (.if_icmp .ne 7, 3) := by decide +kernel
theorem d3_66 : decode method_4_code 66 = .ok (.iconst 1, 1) := by decide +kernel
theorem d3_67 : decode method_4_code 67 = .ok (.goto 4, 3) := by decide +kernel
theorem d3_71 : decode method_4_code 71 = .ok (.ireturn, 1) := by decide +kernel
theorem d3_70 : decode method_4_code 70 = .ok (.iconst 0, 1) := by decide +kernel
def ok_b_rm : Room := { frames := 1, cells := 0, slots := 0, locals := 15 }
def ok_b_Q (Z : State) (a0 : Addr) (p1 : Int32) (p2 : Int32) (p3 : Int32) (p4 : Int32) (p5 : Int32) (ee : Int32) (h0 : Heap) (n0 : Nat) (v : Option Value) (h : Heap) (L : List Loc) : Prop := (v = some (.int (if ee = (p4 + ((src p1 p2 p3) * p5)) then (1 : Int32) else (0 : Int32)))) ∧ (Fr n0 L) ∧ (h = h0)
theorem ok_b_ef (m : MethodId) (a0 : Addr) (p1 : Int32) (p2 : Int32) (p3 : Int32) (p4 : Int32) (p5 : Int32) : entryFrame m #[(.ref a0), (.int p1), (.int p2), (.int p3), (.int p4), (.int p5)] 9 = mkF m 0 #[.val (.ref a0), .val (.int p1), .val (.int p2), .val (.int p3), .val (.int p4), .val (.int p5), .unset, .unset, .unset] [] := by first | (simp [entryFrame, mkF, argsToLocals, Value.category]; done) | rfl
set_option maxRecDepth 65536 in
set_option maxHeartbeats 40000000 in
theorem ok_b_c (l : Launch) (Z : State) (az : Array Value) (hw : ∀ d ∈ tables_1, d.before az Z = true) (ws : List Jvm.Cond) (a0 : Addr) (p1 : Int32) (p2 : Int32) (p3 : Int32) (p4 : Int32) (p5 : Int32) (ee : Int32) (h0 : Heap) (n0 : Nat) (Z0 : n0 ≤ h0.size) (hel : ∃ cl : Cell, Arr Z h0 a0 cl .int ∧ ¬ (p1 < 0 ∨ cl.slots.size ≤ p1.toNatClampNeg) ∧ cl.slots[p1.toNatClampNeg]? = some (.int ee)) :
    OCon l (⟨"com/example/geotide/geotide/MembersSwapPinLaw", "ok", "([IIIIII)Z"⟩ : MethodName) method_4_code 9 (some .boolean) ws ok_b_rm Z #[(.ref a0), (.int p1), (.int p2), (.int p3), (.int p4), (.int p5)] h0 (ok_b_Q Z a0 p1 p2 p3 p4 p5 ee h0 n0) := by
  refine ocon (plainFor_of_name pn_com_example_geotide_geotide_MembersSwapPinLaw) ?_
  intro p e s m below meth c s₁ hx hby hml hown hnm hret hlk hZ X0 eh0
  have N0 := Fr.nil n0
  have K0 := Keep.refl h0 []
  refine ogoE (ok_b_ef m a0 p1 p2 p3 p4 p5) ?_
  generalize hG : (OEnd s below (ok_b_Q Z a0 p1 p2 p3 p4 p5 ee h0 n0) ok_b_rm.cells ok_b_rm.slots) = G
  show OWay p e below G s₁ (mkF m 0 #[.val (.ref a0), .val (.int p1), .val (.int p2), .val (.int p3), .val (.int p4), .val (.int p5), .unset, .unset, .unset] [])
  refine ogo (fun _ z_ => XS.iloadN X0.here hx rfl (hb hby d3_0) rfl z_) ?_
  show OWay p e below G s₁ (mkF m 1 #[.val (.ref a0), .val (.int p1), .val (.int p2), .val (.int p3), .val (.int p4), .val (.int p5), .unset, .unset, .unset] [(.int p1)])
  refine ogo (fun _ z_ => XS.bipush X0.here hx rfl (hb hby d3_1) z_) ?_
  show OWay p e below G s₁ (mkF m 3 #[.val (.ref a0), .val (.int p1), .val (.int p2), .val (.int p3), .val (.int p4), .val (.int p5), .unset, .unset, .unset] [(.int (6 : Int32)), (.int p1)])
  refine ogo (fun _ z_ => XS.idiv X0.here hx rfl (hb hby d3_3) rfl (by decide) z_) ?_
  show OWay p e below G s₁ (mkF m 4 #[.val (.ref a0), .val (.int p1), .val (.int p2), .val (.int p3), .val (.int p4), .val (.int p5), .unset, .unset, .unset] [(.int (p1 / (6 : Int32)))])
  suffices Jv6_1 : ∀ v6_1 : Int32, v6_1 = (p1 / (6 : Int32)) → OWay p e below G s₁ (mkF m 4 #[.val (.ref a0), .val (.int p1), .val (.int p2), .val (.int p3), .val (.int p4), .val (.int p5), .unset, .unset, .unset] [(.int v6_1)]) from Jv6_1 _ rfl
  intro v6_1 hv6_1
  refine ogo (fun _ z_ => XS.istore X0.here hx rfl (hb hby d3_4) rfl (l' := #[.val (.ref a0), .val (.int p1), .val (.int p2), .val (.int p3), .val (.int p4), .val (.int p5), .val (.int v6_1), .unset, .unset]) rfl z_) ?_
  show OWay p e below G s₁ (mkF m 6 #[.val (.ref a0), .val (.int p1), .val (.int p2), .val (.int p3), .val (.int p4), .val (.int p5), .val (.int v6_1), .unset, .unset] [])
  refine ogo (fun _ z_ => XS.iloadN X0.here hx rfl (hb hby d3_6) rfl z_) ?_
  show OWay p e below G s₁ (mkF m 7 #[.val (.ref a0), .val (.int p1), .val (.int p2), .val (.int p3), .val (.int p4), .val (.int p5), .val (.int v6_1), .unset, .unset] [(.int p1)])
  refine ogo (fun _ z_ => XS.bipush X0.here hx rfl (hb hby d3_7) z_) ?_
  show OWay p e below G s₁ (mkF m 9 #[.val (.ref a0), .val (.int p1), .val (.int p2), .val (.int p3), .val (.int p4), .val (.int p5), .val (.int v6_1), .unset, .unset] [(.int (6 : Int32)), (.int p1)])
  refine ogo (fun _ z_ => iremM X0 hx rfl (hb hby d3_9) rfl (by decide) z_) ?_
  show OWay p e below G s₁ (mkF m 10 #[.val (.ref a0), .val (.int p1), .val (.int p2), .val (.int p3), .val (.int p4), .val (.int p5), .val (.int v6_1), .unset, .unset] [(.int (p1 % (6 : Int32)))])
  suffices Jv7_2 : ∀ v7_2 : Int32, v7_2 = (p1 % (6 : Int32)) → OWay p e below G s₁ (mkF m 10 #[.val (.ref a0), .val (.int p1), .val (.int p2), .val (.int p3), .val (.int p4), .val (.int p5), .val (.int v6_1), .unset, .unset] [(.int v7_2)]) from Jv7_2 _ rfl
  intro v7_2 hv7_2
  refine ogo (fun _ z_ => XS.istore X0.here hx rfl (hb hby d3_10) rfl (l' := #[.val (.ref a0), .val (.int p1), .val (.int p2), .val (.int p3), .val (.int p4), .val (.int p5), .val (.int v6_1), .val (.int v7_2), .unset]) rfl z_) ?_
  show OWay p e below G s₁ (mkF m 12 #[.val (.ref a0), .val (.int p1), .val (.int p2), .val (.int p3), .val (.int p4), .val (.int p5), .val (.int v6_1), .val (.int v7_2), .unset] [])
  refine ogo (fun _ z_ => XS.iload X0.here hx rfl (hb hby d3_12) rfl z_) ?_
  show OWay p e below G s₁ (mkF m 14 #[.val (.ref a0), .val (.int p1), .val (.int p2), .val (.int p3), .val (.int p4), .val (.int p5), .val (.int v6_1), .val (.int v7_2), .unset] [(.int v6_1)])
  refine ogo (fun _ z_ => XS.iloadN X0.here hx rfl (hb hby d3_14) rfl z_) ?_
  show OWay p e below G s₁ (mkF m 15 #[.val (.ref a0), .val (.int p1), .val (.int p2), .val (.int p3), .val (.int p4), .val (.int p5), .val (.int v6_1), .val (.int v7_2), .unset] [(.int p2), (.int v6_1)])
  have J4 : ∀ (u8_3 : Int32), u8_3 = (if v6_1 = p2 then ((p3 * (6 : Int32)) + v7_2) else (if v6_1 = p3 then ((p2 * (6 : Int32)) + v7_2) else p1)) → OWay p e below G s₁ (mkF m 51 #[.val (.ref a0), .val (.int p1), .val (.int p2), .val (.int p3), .val (.int p4), .val (.int p5), .val (.int v6_1), .val (.int v7_2), .val (.int u8_3)] []) := by
    intro u8_3 hu8_3
    refine ogo (fun _ z_ => XS.aloadN X0.here hx rfl (hb hby d3_51) rfl rfl z_) ?_
    show OWay p e below G s₁ (mkF m 52 #[.val (.ref a0), .val (.int p1), .val (.int p2), .val (.int p3), .val (.int p4), .val (.int p5), .val (.int v6_1), .val (.int v7_2), .val (.int u8_3)] [(.ref a0)])
    refine ogo (fun _ z_ => XS.iloadN X0.here hx rfl (hb hby d3_52) rfl z_) ?_
    show OWay p e below G s₁ (mkF m 53 #[.val (.ref a0), .val (.int p1), .val (.int p2), .val (.int p3), .val (.int p4), .val (.int p5), .val (.int v6_1), .val (.int v7_2), .val (.int u8_3)] [(.int p1), (.ref a0)])
    obtain ⟨clx, Arx, hinx, hatx⟩ := hel
    refine ogo (fun _ z_ => X0.iaload hx (j := p1) (v := (.int ee)) (by rw [eh0]; exact Arx.1) (State.isArrayOf_alike hZ.alike Arx.2.1) Arx.2.2 hinx hatx (g := (mkF m 53 #[.val (.ref a0), .val (.int p1), .val (.int p2), .val (.int p3), .val (.int p4), .val (.int p5), .val (.int v6_1), .val (.int v7_2), .val (.int u8_3)] [(.int p1), (.ref a0)])) rfl rfl (hb hby d3_53) _ z_) ?_
    show OWay p e below G s₁ (mkF m 54 #[.val (.ref a0), .val (.int p1), .val (.int p2), .val (.int p3), .val (.int p4), .val (.int p5), .val (.int v6_1), .val (.int v7_2), .val (.int u8_3)] [(.int ee)])
    refine ogo (fun _ z_ => XS.iload X0.here hx rfl (hb hby d3_54) rfl z_) ?_
    show OWay p e below G s₁ (mkF m 56 #[.val (.ref a0), .val (.int p1), .val (.int p2), .val (.int p3), .val (.int p4), .val (.int p5), .val (.int v6_1), .val (.int v7_2), .val (.int u8_3)] [(.int p4), (.int ee)])
    refine ogo (fun _ z_ => XS.iload X0.here hx rfl (hb hby d3_56) rfl z_) ?_
    show OWay p e below G s₁ (mkF m 58 #[.val (.ref a0), .val (.int p1), .val (.int p2), .val (.int p3), .val (.int p4), .val (.int p5), .val (.int v6_1), .val (.int v7_2), .val (.int u8_3)] [(.int p5), (.int p4), (.int ee)])
    refine ogo (fun _ z_ => XS.iload X0.here hx rfl (hb hby d3_58) rfl z_) ?_
    show OWay p e below G s₁ (mkF m 60 #[.val (.ref a0), .val (.int p1), .val (.int p2), .val (.int p3), .val (.int p4), .val (.int p5), .val (.int v6_1), .val (.int v7_2), .val (.int u8_3)] [(.int u8_3), (.int p5), (.int p4), (.int ee)])
    obtain ⟨_, T5, L5, X5, hQ5, st5⟩ := wStatic X0 hx hZ (y := (⟨"com/example/geotide/geotide/MembersSwapPinLaw", "v", "(III)I"⟩ : MethodName)) hown (hw _ (List.mem_of_getElem? (i := 1) rfl)) (hw _ (List.mem_of_getElem? (i := 2) rfl)) (hw _ (List.mem_of_getElem? (i := 3) rfl)) (hw _ (List.mem_of_getElem? (i := 4) rfl)) (by decide) (v_b_c l Z az hw [] p4 p5 u8_3 h0 n0 Z0) 1 (by decide) (by decide) (g := (mkF m 60 #[.val (.ref a0), .val (.int p1), .val (.int p2), .val (.int p3), .val (.int p4), .val (.int p5), .val (.int v6_1), .val (.int v7_2), .val (.int u8_3)] [(.int u8_3), (.int p5), (.int p4), (.int ee)])) rfl (by rw [hml]; rfl) (argsL := [(.int p4), (.int p5), (.int u8_3)]) (rest := [(.int ee)]) (lenOf pd__III_I rfl) rfl (by show 2 * 0 + _ ≤ _; exact Nat.le_of_eq rfl) (hb hby d3_60) rfl eh0 (by decide) (by decide)
    obtain ⟨rfl, N5q, eq5⟩ := hQ5
    have N5 := Fr.app N0 N5q
    refine ogo st5 ?_
    show OWay p e below G T5 (mkF m 63 #[.val (.ref a0), .val (.int p1), .val (.int p2), .val (.int p3), .val (.int p4), .val (.int p5), .val (.int v6_1), .val (.int v7_2), .val (.int u8_3)] [(.int (p4 + (u8_3 * p5))), (.int ee)])
    by_cases c63 : ee = (p4 + (u8_3 * p5))
    · refine ogo (fun _ z_ => XS.icmpNo X5.here hx rfl (hb hby d3_63) rfl (teq c63).2 z_) ?_
      show OWay p e below G T5 (mkF m 66 #[.val (.ref a0), .val (.int p1), .val (.int p2), .val (.int p3), .val (.int p4), .val (.int p5), .val (.int v6_1), .val (.int v7_2), .val (.int u8_3)] [])
      refine ogo (fun _ z_ => XS.iconst X5.here hx rfl (hb hby d3_66) z_) ?_
      show OWay p e below G T5 (mkF m 67 #[.val (.ref a0), .val (.int p1), .val (.int p2), .val (.int p3), .val (.int p4), .val (.int p5), .val (.int v6_1), .val (.int v7_2), .val (.int u8_3)] [(.int (1 : Int32))])
      refine ogo (fun _ z_ => XS.goto X5.here hx rfl (pc0 := 67) (pc' := 71) rfl (hb hby d3_67) (by decide) (by decide) z_) ?_
      show OWay p e below G T5 (mkF m 71 #[.val (.ref a0), .val (.int p1), .val (.int p2), .val (.int p3), .val (.int p4), .val (.int p5), .val (.int v6_1), .val (.int v7_2), .val (.int u8_3)] [(.int (1 : Int32))])
      subst hG
      refine wRetN X5 hx (t := .boolean) hret hlk (by simp) (hb hby d3_71) (by decide) (by decide) eq5 ?_
      subst hu8_3 hv7_2 hv6_1
      exact ⟨(congrArg some (congrArg Value.int (show nar .boolean (1 : Int32) = (if ee = (p4 + ((src p1 p2 p3) * p5)) then (1 : Int32) else (0 : Int32)) from (if_pos c63).symm))), N5, rfl⟩
    · refine ogo (fun _ z_ => XS.icmpYes X5.here hx rfl (pc0 := 63) (pc' := 70) rfl (hb hby d3_63) rfl (feq c63).2 (by decide) (by decide) z_) ?_
      show OWay p e below G T5 (mkF m 70 #[.val (.ref a0), .val (.int p1), .val (.int p2), .val (.int p3), .val (.int p4), .val (.int p5), .val (.int v6_1), .val (.int v7_2), .val (.int u8_3)] [])
      refine ogo (fun _ z_ => XS.iconst X5.here hx rfl (hb hby d3_70) z_) ?_
      show OWay p e below G T5 (mkF m 71 #[.val (.ref a0), .val (.int p1), .val (.int p2), .val (.int p3), .val (.int p4), .val (.int p5), .val (.int v6_1), .val (.int v7_2), .val (.int u8_3)] [(.int (0 : Int32))])
      subst hG
      refine wRetN X5 hx (t := .boolean) hret hlk (by simp) (hb hby d3_71) (by decide) (by decide) eq5 ?_
      subst hu8_3 hv7_2 hv6_1
      exact ⟨(congrArg some (congrArg Value.int (show nar .boolean (0 : Int32) = (if ee = (p4 + ((src p1 p2 p3) * p5)) then (1 : Int32) else (0 : Int32)) from (if_neg c63).symm))), N5, rfl⟩
  by_cases c15 : v6_1 = p2
  · refine ogo (fun _ z_ => XS.icmpNo X0.here hx rfl (hb hby d3_15) rfl (teq c15).2 z_) ?_
    show OWay p e below G s₁ (mkF m 18 #[.val (.ref a0), .val (.int p1), .val (.int p2), .val (.int p3), .val (.int p4), .val (.int p5), .val (.int v6_1), .val (.int v7_2), .unset] [])
    refine ogo (fun _ z_ => XS.iloadN X0.here hx rfl (hb hby d3_18) rfl z_) ?_
    show OWay p e below G s₁ (mkF m 19 #[.val (.ref a0), .val (.int p1), .val (.int p2), .val (.int p3), .val (.int p4), .val (.int p5), .val (.int v6_1), .val (.int v7_2), .unset] [(.int p3)])
    refine ogo (fun _ z_ => XS.bipush X0.here hx rfl (hb hby d3_19) z_) ?_
    show OWay p e below G s₁ (mkF m 21 #[.val (.ref a0), .val (.int p1), .val (.int p2), .val (.int p3), .val (.int p4), .val (.int p5), .val (.int v6_1), .val (.int v7_2), .unset] [(.int (6 : Int32)), (.int p3)])
    refine ogo (fun _ z_ => XS.imul X0.here hx rfl (hb hby d3_21) rfl z_) ?_
    show OWay p e below G s₁ (mkF m 22 #[.val (.ref a0), .val (.int p1), .val (.int p2), .val (.int p3), .val (.int p4), .val (.int p5), .val (.int v6_1), .val (.int v7_2), .unset] [(.int (p3 * (6 : Int32)))])
    refine ogo (fun _ z_ => XS.iload X0.here hx rfl (hb hby d3_22) rfl z_) ?_
    show OWay p e below G s₁ (mkF m 24 #[.val (.ref a0), .val (.int p1), .val (.int p2), .val (.int p3), .val (.int p4), .val (.int p5), .val (.int v6_1), .val (.int v7_2), .unset] [(.int v7_2), (.int (p3 * (6 : Int32)))])
    refine ogo (fun _ z_ => XS.iadd X0.here hx rfl (hb hby d3_24) rfl z_) ?_
    show OWay p e below G s₁ (mkF m 25 #[.val (.ref a0), .val (.int p1), .val (.int p2), .val (.int p3), .val (.int p4), .val (.int p5), .val (.int v6_1), .val (.int v7_2), .unset] [(.int ((p3 * (6 : Int32)) + v7_2))])
    refine ogo (fun _ z_ => XS.istore X0.here hx rfl (hb hby d3_25) rfl (l' := #[.val (.ref a0), .val (.int p1), .val (.int p2), .val (.int p3), .val (.int p4), .val (.int p5), .val (.int v6_1), .val (.int v7_2), .val (.int ((p3 * (6 : Int32)) + v7_2))]) rfl z_) ?_
    show OWay p e below G s₁ (mkF m 27 #[.val (.ref a0), .val (.int p1), .val (.int p2), .val (.int p3), .val (.int p4), .val (.int p5), .val (.int v6_1), .val (.int v7_2), .val (.int ((p3 * (6 : Int32)) + v7_2))] [])
    refine ogo (fun _ z_ => XS.goto X0.here hx rfl (pc0 := 27) (pc' := 51) rfl (hb hby d3_27) (by decide) (by decide) z_) ?_
    show OWay p e below G s₁ (mkF m 51 #[.val (.ref a0), .val (.int p1), .val (.int p2), .val (.int p3), .val (.int p4), .val (.int p5), .val (.int v6_1), .val (.int v7_2), .val (.int ((p3 * (6 : Int32)) + v7_2))] [])
    exact J4 _ ((if_pos c15).trans rfl).symm
  · refine ogo (fun _ z_ => XS.icmpYes X0.here hx rfl (pc0 := 15) (pc' := 30) rfl (hb hby d3_15) rfl (feq c15).2 (by decide) (by decide) z_) ?_
    show OWay p e below G s₁ (mkF m 30 #[.val (.ref a0), .val (.int p1), .val (.int p2), .val (.int p3), .val (.int p4), .val (.int p5), .val (.int v6_1), .val (.int v7_2), .unset] [])
    refine ogo (fun _ z_ => XS.iload X0.here hx rfl (hb hby d3_30) rfl z_) ?_
    show OWay p e below G s₁ (mkF m 32 #[.val (.ref a0), .val (.int p1), .val (.int p2), .val (.int p3), .val (.int p4), .val (.int p5), .val (.int v6_1), .val (.int v7_2), .unset] [(.int v6_1)])
    refine ogo (fun _ z_ => XS.iloadN X0.here hx rfl (hb hby d3_32) rfl z_) ?_
    show OWay p e below G s₁ (mkF m 33 #[.val (.ref a0), .val (.int p1), .val (.int p2), .val (.int p3), .val (.int p4), .val (.int p5), .val (.int v6_1), .val (.int v7_2), .unset] [(.int p3), (.int v6_1)])
    by_cases c33 : v6_1 = p3
    · refine ogo (fun _ z_ => XS.icmpNo X0.here hx rfl (hb hby d3_33) rfl (teq c33).2 z_) ?_
      show OWay p e below G s₁ (mkF m 36 #[.val (.ref a0), .val (.int p1), .val (.int p2), .val (.int p3), .val (.int p4), .val (.int p5), .val (.int v6_1), .val (.int v7_2), .unset] [])
      refine ogo (fun _ z_ => XS.iloadN X0.here hx rfl (hb hby d3_36) rfl z_) ?_
      show OWay p e below G s₁ (mkF m 37 #[.val (.ref a0), .val (.int p1), .val (.int p2), .val (.int p3), .val (.int p4), .val (.int p5), .val (.int v6_1), .val (.int v7_2), .unset] [(.int p2)])
      refine ogo (fun _ z_ => XS.bipush X0.here hx rfl (hb hby d3_37) z_) ?_
      show OWay p e below G s₁ (mkF m 39 #[.val (.ref a0), .val (.int p1), .val (.int p2), .val (.int p3), .val (.int p4), .val (.int p5), .val (.int v6_1), .val (.int v7_2), .unset] [(.int (6 : Int32)), (.int p2)])
      refine ogo (fun _ z_ => XS.imul X0.here hx rfl (hb hby d3_39) rfl z_) ?_
      show OWay p e below G s₁ (mkF m 40 #[.val (.ref a0), .val (.int p1), .val (.int p2), .val (.int p3), .val (.int p4), .val (.int p5), .val (.int v6_1), .val (.int v7_2), .unset] [(.int (p2 * (6 : Int32)))])
      refine ogo (fun _ z_ => XS.iload X0.here hx rfl (hb hby d3_40) rfl z_) ?_
      show OWay p e below G s₁ (mkF m 42 #[.val (.ref a0), .val (.int p1), .val (.int p2), .val (.int p3), .val (.int p4), .val (.int p5), .val (.int v6_1), .val (.int v7_2), .unset] [(.int v7_2), (.int (p2 * (6 : Int32)))])
      refine ogo (fun _ z_ => XS.iadd X0.here hx rfl (hb hby d3_42) rfl z_) ?_
      show OWay p e below G s₁ (mkF m 43 #[.val (.ref a0), .val (.int p1), .val (.int p2), .val (.int p3), .val (.int p4), .val (.int p5), .val (.int v6_1), .val (.int v7_2), .unset] [(.int ((p2 * (6 : Int32)) + v7_2))])
      refine ogo (fun _ z_ => XS.istore X0.here hx rfl (hb hby d3_43) rfl (l' := #[.val (.ref a0), .val (.int p1), .val (.int p2), .val (.int p3), .val (.int p4), .val (.int p5), .val (.int v6_1), .val (.int v7_2), .val (.int ((p2 * (6 : Int32)) + v7_2))]) rfl z_) ?_
      show OWay p e below G s₁ (mkF m 45 #[.val (.ref a0), .val (.int p1), .val (.int p2), .val (.int p3), .val (.int p4), .val (.int p5), .val (.int v6_1), .val (.int v7_2), .val (.int ((p2 * (6 : Int32)) + v7_2))] [])
      refine ogo (fun _ z_ => XS.goto X0.here hx rfl (pc0 := 45) (pc' := 51) rfl (hb hby d3_45) (by decide) (by decide) z_) ?_
      show OWay p e below G s₁ (mkF m 51 #[.val (.ref a0), .val (.int p1), .val (.int p2), .val (.int p3), .val (.int p4), .val (.int p5), .val (.int v6_1), .val (.int v7_2), .val (.int ((p2 * (6 : Int32)) + v7_2))] [])
      exact J4 _ ((if_neg c15).trans ((if_pos c33).trans rfl)).symm
    · refine ogo (fun _ z_ => XS.icmpYes X0.here hx rfl (pc0 := 33) (pc' := 48) rfl (hb hby d3_33) rfl (feq c33).2 (by decide) (by decide) z_) ?_
      show OWay p e below G s₁ (mkF m 48 #[.val (.ref a0), .val (.int p1), .val (.int p2), .val (.int p3), .val (.int p4), .val (.int p5), .val (.int v6_1), .val (.int v7_2), .unset] [])
      refine ogo (fun _ z_ => XS.iloadN X0.here hx rfl (hb hby d3_48) rfl z_) ?_
      show OWay p e below G s₁ (mkF m 49 #[.val (.ref a0), .val (.int p1), .val (.int p2), .val (.int p3), .val (.int p4), .val (.int p5), .val (.int v6_1), .val (.int v7_2), .unset] [(.int p1)])
      refine ogo (fun _ z_ => XS.istore X0.here hx rfl (hb hby d3_49) rfl (l' := #[.val (.ref a0), .val (.int p1), .val (.int p2), .val (.int p3), .val (.int p4), .val (.int p5), .val (.int v6_1), .val (.int v7_2), .val (.int p1)]) rfl z_) ?_
      show OWay p e below G s₁ (mkF m 51 #[.val (.ref a0), .val (.int p1), .val (.int p2), .val (.int p3), .val (.int p4), .val (.int p5), .val (.int v6_1), .val (.int v7_2), .val (.int p1)] [])
      exact J4 _ ((if_neg c15).trans ((if_neg c33).trans rfl)).symm
theorem pd___III_V : parseMethodDescriptor "([III)V" = some ⟨[(.array .int), .int, .int], none⟩ := by decide +kernel
theorem pd___IIIIII_Z : parseMethodDescriptor "([IIIIII)Z" = some ⟨[(.array .int), .int, .int, .int, .int, .int], some .boolean⟩ := by decide +kernel
def law_Q (Z : State) (p0 : Int32) (p1 : Int32) (p2 : Int32) (h0 : Heap) (n0 : Nat) (v : Option Value) (h : Heap) (L : List Loc) : Prop := v = some (.int 1) ∧ Fr n0 L
theorem law_ef (m : MethodId) (p0 : Int32) (p1 : Int32) (p2 : Int32) : entryFrame m #[(.int p0), (.int p1), (.int p2)] maxLocals = mkF m 0 #[.val (.int p0), .val (.int p1), .val (.int p2), .unset, .unset, .unset, .unset] [] := by first | (simp [entryFrame, mkF, argsToLocals, Value.category, maxLocals]; done) | rfl
set_option maxRecDepth 65536 in
set_option maxHeartbeats 40000000 in
theorem law_c (l : Launch) (Z : State) (az : Array Value) (hw : ∀ d ∈ tables_1, d.before az Z = true) (ws : List Jvm.Cond) (p0 : Int32) (p1 : Int32) (p2 : Int32) (h0 : Heap) (n0 : Nat) (Z0 : n0 ≤ h0.size) :
    OCon l x code maxLocals ret ws room_1 Z #[(.int p0), (.int p1), (.int p2)] h0 (law_Q Z p0 p1 p2 h0 n0) := by
  refine ocon (plainFor_of_name pn_com_example_geotide_geotide_MembersSwapPinLaw) ?_
  intro p e s m below meth c s₁ hx hby hml hown hnm hret hlk hZ X0 eh0
  have N0 := Fr.nil n0
  have K0 := Keep.refl h0 []
  refine ogoE (law_ef m p0 p1 p2) ?_
  generalize hG : (OEnd s below (law_Q Z p0 p1 p2 h0 n0) room_1.cells room_1.slots) = G
  show OWay p e below G s₁ (mkF m 0 #[.val (.int p0), .val (.int p1), .val (.int p2), .unset, .unset, .unset, .unset] [])
  refine ogo (fun _ z_ => XS.iloadN X0.here hx rfl (hb hby at_0) rfl z_) ?_
  show OWay p e below G s₁ (mkF m 1 #[.val (.int p0), .val (.int p1), .val (.int p2), .unset, .unset, .unset, .unset] [(.int p0)])
  refine ogo (fun _ z_ => XS.sipush X0.here hx rfl (hb hby at_1) z_) ?_
  show OWay p e below G s₁ (mkF m 4 #[.val (.int p0), .val (.int p1), .val (.int p2), .unset, .unset, .unset, .unset] [(.int (255 : Int32)), (.int p0)])
  refine ogo (fun _ z_ => XS.iand X0.here hx rfl (hb hby at_4) rfl z_) ?_
  show OWay p e below G s₁ (mkF m 5 #[.val (.int p0), .val (.int p1), .val (.int p2), .unset, .unset, .unset, .unset] [(.int (p0 &&& (255 : Int32)))])
  refine ogo (fun _ z_ => XS.iconst X0.here hx rfl (hb hby at_5) z_) ?_
  show OWay p e below G s₁ (mkF m 6 #[.val (.int p0), .val (.int p1), .val (.int p2), .unset, .unset, .unset, .unset] [(.int (3 : Int32)), (.int (p0 &&& (255 : Int32)))])
  refine ogo (fun _ z_ => iremM X0 hx rfl (hb hby at_6) rfl (by decide) z_) ?_
  show OWay p e below G s₁ (mkF m 7 #[.val (.int p0), .val (.int p1), .val (.int p2), .unset, .unset, .unset, .unset] [(.int ((p0 &&& (255 : Int32)) % (3 : Int32)))])
  suffices Jv3_1 : ∀ v3_1 : Int32, v3_1 = ((p0 &&& (255 : Int32)) % (3 : Int32)) → OWay p e below G s₁ (mkF m 7 #[.val (.int p0), .val (.int p1), .val (.int p2), .unset, .unset, .unset, .unset] [(.int v3_1)]) from Jv3_1 _ rfl
  intro v3_1 hv3_1
  refine ogo (fun _ z_ => XS.istoreN X0.here hx rfl (hb hby at_7) rfl (l' := #[.val (.int p0), .val (.int p1), .val (.int p2), .val (.int v3_1), .unset, .unset, .unset]) rfl z_) ?_
  show OWay p e below G s₁ (mkF m 8 #[.val (.int p0), .val (.int p1), .val (.int p2), .val (.int v3_1), .unset, .unset, .unset] [])
  refine ogo (fun _ z_ => XS.iloadN X0.here hx rfl (hb hby at_8) rfl z_) ?_
  show OWay p e below G s₁ (mkF m 9 #[.val (.int p0), .val (.int p1), .val (.int p2), .val (.int v3_1), .unset, .unset, .unset] [(.int p0)])
  refine ogo (fun _ z_ => XS.bipush X0.here hx rfl (hb hby at_9) z_) ?_
  show OWay p e below G s₁ (mkF m 11 #[.val (.int p0), .val (.int p1), .val (.int p2), .val (.int v3_1), .unset, .unset, .unset] [(.int (8 : Int32)), (.int p0)])
  refine ogo (fun _ z_ => XS.iushr X0.here hx rfl (hb hby at_11) rfl z_) ?_
  show OWay p e below G s₁ (mkF m 12 #[.val (.int p0), .val (.int p1), .val (.int p2), .val (.int v3_1), .unset, .unset, .unset] [(.int ((p0.toUInt32 >>> ((8 : Int32) &&& 31).toUInt32).toInt32))])
  refine ogo (fun _ z_ => XS.sipush X0.here hx rfl (hb hby at_12) z_) ?_
  show OWay p e below G s₁ (mkF m 15 #[.val (.int p0), .val (.int p1), .val (.int p2), .val (.int v3_1), .unset, .unset, .unset] [(.int (255 : Int32)), (.int ((p0.toUInt32 >>> ((8 : Int32) &&& 31).toUInt32).toInt32))])
  refine ogo (fun _ z_ => XS.iand X0.here hx rfl (hb hby at_15) rfl z_) ?_
  show OWay p e below G s₁ (mkF m 16 #[.val (.int p0), .val (.int p1), .val (.int p2), .val (.int v3_1), .unset, .unset, .unset] [(.int (((p0.toUInt32 >>> ((8 : Int32) &&& 31).toUInt32).toInt32) &&& (255 : Int32)))])
  refine ogo (fun _ z_ => XS.iconst X0.here hx rfl (hb hby at_16) z_) ?_
  show OWay p e below G s₁ (mkF m 17 #[.val (.int p0), .val (.int p1), .val (.int p2), .val (.int v3_1), .unset, .unset, .unset] [(.int (3 : Int32)), (.int (((p0.toUInt32 >>> ((8 : Int32) &&& 31).toUInt32).toInt32) &&& (255 : Int32)))])
  refine ogo (fun _ z_ => iremM X0 hx rfl (hb hby at_17) rfl (by decide) z_) ?_
  show OWay p e below G s₁ (mkF m 18 #[.val (.int p0), .val (.int p1), .val (.int p2), .val (.int v3_1), .unset, .unset, .unset] [(.int ((((p0.toUInt32 >>> ((8 : Int32) &&& 31).toUInt32).toInt32) &&& (255 : Int32)) % (3 : Int32)))])
  suffices Jv4_2 : ∀ v4_2 : Int32, v4_2 = ((((p0.toUInt32 >>> ((8 : Int32) &&& 31).toUInt32).toInt32) &&& (255 : Int32)) % (3 : Int32)) → OWay p e below G s₁ (mkF m 18 #[.val (.int p0), .val (.int p1), .val (.int p2), .val (.int v3_1), .unset, .unset, .unset] [(.int v4_2)]) from Jv4_2 _ rfl
  intro v4_2 hv4_2
  refine ogo (fun _ z_ => XS.istore X0.here hx rfl (hb hby at_18) rfl (l' := #[.val (.int p0), .val (.int p1), .val (.int p2), .val (.int v3_1), .val (.int v4_2), .unset, .unset]) rfl z_) ?_
  show OWay p e below G s₁ (mkF m 20 #[.val (.int p0), .val (.int p1), .val (.int p2), .val (.int v3_1), .val (.int v4_2), .unset, .unset] [])
  refine ogo (fun _ z_ => XS.iloadN X0.here hx rfl (hb hby at_20) rfl z_) ?_
  show OWay p e below G s₁ (mkF m 21 #[.val (.int p0), .val (.int p1), .val (.int p2), .val (.int v3_1), .val (.int v4_2), .unset, .unset] [(.int p2)])
  refine ogo (fun _ z_ => XS.iconst X0.here hx rfl (hb hby at_21) z_) ?_
  show OWay p e below G s₁ (mkF m 22 #[.val (.int p0), .val (.int p1), .val (.int p2), .val (.int v3_1), .val (.int v4_2), .unset, .unset] [(.int (1 : Int32)), (.int p2)])
  refine ogo (fun _ z_ => XS.ior X0.here hx rfl (hb hby at_22) rfl z_) ?_
  show OWay p e below G s₁ (mkF m 23 #[.val (.int p0), .val (.int p1), .val (.int p2), .val (.int v3_1), .val (.int v4_2), .unset, .unset] [(.int (p2 ||| (1 : Int32)))])
  suffices Jv5_3 : ∀ v5_3 : Int32, v5_3 = (p2 ||| (1 : Int32)) → OWay p e below G s₁ (mkF m 23 #[.val (.int p0), .val (.int p1), .val (.int p2), .val (.int v3_1), .val (.int v4_2), .unset, .unset] [(.int v5_3)]) from Jv5_3 _ rfl
  intro v5_3 hv5_3
  refine ogo (fun _ z_ => XS.istore X0.here hx rfl (hb hby at_23) rfl (l' := #[.val (.int p0), .val (.int p1), .val (.int p2), .val (.int v3_1), .val (.int v4_2), .val (.int v5_3), .unset]) rfl z_) ?_
  show OWay p e below G s₁ (mkF m 25 #[.val (.int p0), .val (.int p1), .val (.int p2), .val (.int v3_1), .val (.int v4_2), .val (.int v5_3), .unset] [])
  refine ogo (fun _ z_ => XS.bipush X0.here hx rfl (hb hby at_25) z_) ?_
  show OWay p e below G s₁ (mkF m 27 #[.val (.int p0), .val (.int p1), .val (.int p2), .val (.int v3_1), .val (.int v4_2), .val (.int v5_3), .unset] [(.int (18 : Int32))])
  obtain ⟨T4, h4, k4, X4, eT4, E4, A4, st4⟩ := newP X0 hx hZ (hw _ (List.mem_of_getElem? (i := 0) rfl)) eh0 (g := (mkF m 27 #[.val (.int p0), .val (.int p1), .val (.int p2), .val (.int v3_1), .val (.int v4_2), .val (.int v5_3), .unset] [(.int (18 : Int32))])) rfl (hb hby at_27) rfl (by decide) (cap := 18) (by decide) (by decide) (by decide) (by decide)
  obtain ⟨b4, g4⟩ : ∃ z, z = h0.size := ⟨_, rfl⟩
  rw [← g4] at A4 st4
  have g_b4 : n0 ≤ b4 := Nat.le_trans Z0 (Nat.le_of_eq g4.symm)
  have sz_b4 : h0.size ≤ b4 := Nat.le_trans K0.1 (Nat.le_of_eq g4.symm)
  have K5 : Keep h0 h4 [] := K0.ext E4
  have V_b4 : Arv Z h4 b4 k4 .int (18 : Int32) [(.int (0 : Int32)), (.int (0 : Int32)), (.int (0 : Int32)), (.int (0 : Int32)), (.int (0 : Int32)), (.int (0 : Int32)), (.int (0 : Int32)), (.int (0 : Int32)), (.int (0 : Int32)), (.int (0 : Int32)), (.int (0 : Int32)), (.int (0 : Int32)), (.int (0 : Int32)), (.int (0 : Int32)), (.int (0 : Int32)), (.int (0 : Int32)), (.int (0 : Int32)), (.int (0 : Int32))] (.int (0 : Int32)) := (Arv.new A4 (by decide)).pad (pad_rep [] (.int (0 : Int32)) 18)
  refine ogo st4 ?_
  show OWay p e below G T4 (mkF m 29 #[.val (.int p0), .val (.int p1), .val (.int p2), .val (.int v3_1), .val (.int v4_2), .val (.int v5_3), .unset] [(.ref b4)])
  refine ogo (fun _ z_ => XS.dup X4.here hx rfl (hb hby at_29) rfl rfl z_) ?_
  show OWay p e below G T4 (mkF m 30 #[.val (.int p0), .val (.int p1), .val (.int p2), .val (.int v3_1), .val (.int v4_2), .val (.int v5_3), .unset] [(.ref b4), (.ref b4)])
  refine ogo (fun _ z_ => XS.iconst X4.here hx rfl (hb hby at_30) z_) ?_
  show OWay p e below G T4 (mkF m 31 #[.val (.int p0), .val (.int p1), .val (.int p2), .val (.int v3_1), .val (.int v4_2), .val (.int v5_3), .unset] [(.int (0 : Int32)), (.ref b4), (.ref b4)])
  refine ogo (fun _ z_ => XS.iloadN X4.here hx rfl (hb hby at_31) rfl z_) ?_
  show OWay p e below G T4 (mkF m 32 #[.val (.int p0), .val (.int p1), .val (.int p2), .val (.int v3_1), .val (.int v4_2), .val (.int v5_3), .unset] [(.int p1), (.int (0 : Int32)), (.ref b4), (.ref b4)])
  refine ogo (fun _ z_ => XS.iload X4.here hx rfl (hb hby at_32) rfl z_) ?_
  show OWay p e below G T4 (mkF m 34 #[.val (.int p0), .val (.int p1), .val (.int p2), .val (.int v3_1), .val (.int v4_2), .val (.int v5_3), .unset] [(.int v5_3), (.int p1), (.int (0 : Int32)), (.ref b4), (.ref b4)])
  refine ogo (fun _ z_ => XS.iconst X4.here hx rfl (hb hby at_34) z_) ?_
  show OWay p e below G T4 (mkF m 35 #[.val (.int p0), .val (.int p1), .val (.int p2), .val (.int v3_1), .val (.int v4_2), .val (.int v5_3), .unset] [(.int (0 : Int32)), (.int v5_3), (.int p1), (.int (0 : Int32)), (.ref b4), (.ref b4)])
  obtain ⟨_, T6, L6, X6, hQ6, st6⟩ := wStatic X4 hx hZ (y := (⟨"com/example/geotide/geotide/MembersSwapPinLaw", "v", "(III)I"⟩ : MethodName)) hown (hw _ (List.mem_of_getElem? (i := 1) rfl)) (hw _ (List.mem_of_getElem? (i := 2) rfl)) (hw _ (List.mem_of_getElem? (i := 3) rfl)) (hw _ (List.mem_of_getElem? (i := 4) rfl)) (by decide) (v_b_c l Z az hw [] p1 v5_3 (0 : Int32) h4 n0 (Nat.le_trans Z0 E4.1)) 3 (by decide) (by decide) (g := (mkF m 35 #[.val (.int p0), .val (.int p1), .val (.int p2), .val (.int v3_1), .val (.int v4_2), .val (.int v5_3), .unset] [(.int (0 : Int32)), (.int v5_3), (.int p1), (.int (0 : Int32)), (.ref b4), (.ref b4)])) rfl (by rw [hml]; rfl) (argsL := [(.int p1), (.int v5_3), (.int (0 : Int32))]) (rest := [(.int (0 : Int32)), (.ref b4), (.ref b4)]) (lenOf pd__III_I rfl) rfl (by show 2 * 0 + _ ≤ _; exact Nat.le_of_eq rfl) (hb hby at_35) rfl eT4 (by decide) (by decide)
  obtain ⟨rfl, N6q, eq6⟩ := hQ6
  have N6 := Fr.app N0 N6q
  refine ogo st6 ?_
  show OWay p e below G T6 (mkF m 38 #[.val (.int p0), .val (.int p1), .val (.int p2), .val (.int v3_1), .val (.int v4_2), .val (.int v5_3), .unset] [(.int (p1 + ((0 : Int32) * v5_3))), (.int (0 : Int32)), (.ref b4), (.ref b4)])
  obtain ⟨cl_o7, Ar_o7, q_o7, S_o7, N_o7, H_o7, G_o7⟩ := id V_b4
  have hin_o7 : ¬ ((0 : Int32) < 0 ∨ cl_o7.slots.size ≤ ((0 : Int32)).toNatClampNeg) := inb_of S_o7 ⟨by decide, by decide⟩
  obtain ⟨T8, h8, X8, eT8, W8, st8⟩ := stI X6 hx hZ eq6 Ar_o7 (j := (0 : Int32)) hin_o7 (g := (mkF m 38 #[.val (.int p0), .val (.int p1), .val (.int p2), .val (.int v3_1), .val (.int v4_2), .val (.int v5_3), .unset] [(.int (p1 + ((0 : Int32) * v5_3))), (.int (0 : Int32)), (.ref b4), (.ref b4)])) rfl rfl (hb hby at_38)
  have K9 : Keep h0 h8 [] := K5.wr W8 (Or.inr sz_b4)
  have V_8 : Arv Z h8 b4 k4 .int (18 : Int32) [(.int (p1 + ((0 : Int32) * v5_3))), (.int (0 : Int32)), (.int (0 : Int32)), (.int (0 : Int32)), (.int (0 : Int32)), (.int (0 : Int32)), (.int (0 : Int32)), (.int (0 : Int32)), (.int (0 : Int32)), (.int (0 : Int32)), (.int (0 : Int32)), (.int (0 : Int32)), (.int (0 : Int32)), (.int (0 : Int32)), (.int (0 : Int32)), (.int (0 : Int32)), (.int (0 : Int32)), (.int (0 : Int32))] (.int (0 : Int32)) := Arv.set Ar_o7 q_o7 S_o7 N_o7 H_o7 G_o7 rfl W8 0 rfl (Nat.le_of_ble_eq_true rfl)
  have N8 := Fr.snoc X8 N6 g_b4
  refine ogo st8 ?_
  show OWay p e below G T8 (mkF m 39 #[.val (.int p0), .val (.int p1), .val (.int p2), .val (.int v3_1), .val (.int v4_2), .val (.int v5_3), .unset] [(.ref b4)])
  refine ogo (fun _ z_ => XS.dup X8.here hx rfl (hb hby at_39) rfl rfl z_) ?_
  show OWay p e below G T8 (mkF m 40 #[.val (.int p0), .val (.int p1), .val (.int p2), .val (.int v3_1), .val (.int v4_2), .val (.int v5_3), .unset] [(.ref b4), (.ref b4)])
  refine ogo (fun _ z_ => XS.iconst X8.here hx rfl (hb hby at_40) z_) ?_
  show OWay p e below G T8 (mkF m 41 #[.val (.int p0), .val (.int p1), .val (.int p2), .val (.int v3_1), .val (.int v4_2), .val (.int v5_3), .unset] [(.int (1 : Int32)), (.ref b4), (.ref b4)])
  refine ogo (fun _ z_ => XS.iloadN X8.here hx rfl (hb hby at_41) rfl z_) ?_
  show OWay p e below G T8 (mkF m 42 #[.val (.int p0), .val (.int p1), .val (.int p2), .val (.int v3_1), .val (.int v4_2), .val (.int v5_3), .unset] [(.int p1), (.int (1 : Int32)), (.ref b4), (.ref b4)])
  refine ogo (fun _ z_ => XS.iload X8.here hx rfl (hb hby at_42) rfl z_) ?_
  show OWay p e below G T8 (mkF m 44 #[.val (.int p0), .val (.int p1), .val (.int p2), .val (.int v3_1), .val (.int v4_2), .val (.int v5_3), .unset] [(.int v5_3), (.int p1), (.int (1 : Int32)), (.ref b4), (.ref b4)])
  refine ogo (fun _ z_ => XS.iconst X8.here hx rfl (hb hby at_44) z_) ?_
  show OWay p e below G T8 (mkF m 45 #[.val (.int p0), .val (.int p1), .val (.int p2), .val (.int v3_1), .val (.int v4_2), .val (.int v5_3), .unset] [(.int (1 : Int32)), (.int v5_3), (.int p1), (.int (1 : Int32)), (.ref b4), (.ref b4)])
  obtain ⟨_, T10, L10, X10, hQ10, st10⟩ := wStatic X8 hx hZ (y := (⟨"com/example/geotide/geotide/MembersSwapPinLaw", "v", "(III)I"⟩ : MethodName)) hown (hw _ (List.mem_of_getElem? (i := 1) rfl)) (hw _ (List.mem_of_getElem? (i := 2) rfl)) (hw _ (List.mem_of_getElem? (i := 3) rfl)) (hw _ (List.mem_of_getElem? (i := 4) rfl)) (by decide) (v_b_c l Z az hw [] p1 v5_3 (1 : Int32) h8 n0 (Nat.le_trans (Nat.le_trans Z0 E4.1) (Keep.of_wr W8).1)) 3 (by decide) (by decide) (g := (mkF m 45 #[.val (.int p0), .val (.int p1), .val (.int p2), .val (.int v3_1), .val (.int v4_2), .val (.int v5_3), .unset] [(.int (1 : Int32)), (.int v5_3), (.int p1), (.int (1 : Int32)), (.ref b4), (.ref b4)])) rfl (by rw [hml]; rfl) (argsL := [(.int p1), (.int v5_3), (.int (1 : Int32))]) (rest := [(.int (1 : Int32)), (.ref b4), (.ref b4)]) (lenOf pd__III_I rfl) rfl (by show 2 * 0 + _ ≤ _; exact Nat.le_of_eq rfl) (hb hby at_45) rfl eT8 (by decide) (by decide)
  obtain ⟨rfl, N10q, eq10⟩ := hQ10
  have N10 := Fr.app N8 N10q
  refine ogo st10 ?_
  show OWay p e below G T10 (mkF m 48 #[.val (.int p0), .val (.int p1), .val (.int p2), .val (.int v3_1), .val (.int v4_2), .val (.int v5_3), .unset] [(.int (p1 + ((1 : Int32) * v5_3))), (.int (1 : Int32)), (.ref b4), (.ref b4)])
  obtain ⟨cl_o11, Ar_o11, q_o11, S_o11, N_o11, H_o11, G_o11⟩ := id V_8
  have hin_o11 : ¬ ((1 : Int32) < 0 ∨ cl_o11.slots.size ≤ ((1 : Int32)).toNatClampNeg) := inb_of S_o11 ⟨by decide, by decide⟩
  obtain ⟨T12, h12, X12, eT12, W12, st12⟩ := stI X10 hx hZ eq10 Ar_o11 (j := (1 : Int32)) hin_o11 (g := (mkF m 48 #[.val (.int p0), .val (.int p1), .val (.int p2), .val (.int v3_1), .val (.int v4_2), .val (.int v5_3), .unset] [(.int (p1 + ((1 : Int32) * v5_3))), (.int (1 : Int32)), (.ref b4), (.ref b4)])) rfl rfl (hb hby at_48)
  have K13 : Keep h0 h12 [] := K9.wr W12 (Or.inr sz_b4)
  have V_12 : Arv Z h12 b4 k4 .int (18 : Int32) [(.int (p1 + ((0 : Int32) * v5_3))), (.int (p1 + ((1 : Int32) * v5_3))), (.int (0 : Int32)), (.int (0 : Int32)), (.int (0 : Int32)), (.int (0 : Int32)), (.int (0 : Int32)), (.int (0 : Int32)), (.int (0 : Int32)), (.int (0 : Int32)), (.int (0 : Int32)), (.int (0 : Int32)), (.int (0 : Int32)), (.int (0 : Int32)), (.int (0 : Int32)), (.int (0 : Int32)), (.int (0 : Int32)), (.int (0 : Int32))] (.int (0 : Int32)) := Arv.set Ar_o11 q_o11 S_o11 N_o11 H_o11 G_o11 rfl W12 1 rfl (Nat.le_of_ble_eq_true rfl)
  have N12 := Fr.snoc X12 N10 g_b4
  refine ogo st12 ?_
  show OWay p e below G T12 (mkF m 49 #[.val (.int p0), .val (.int p1), .val (.int p2), .val (.int v3_1), .val (.int v4_2), .val (.int v5_3), .unset] [(.ref b4)])
  refine ogo (fun _ z_ => XS.dup X12.here hx rfl (hb hby at_49) rfl rfl z_) ?_
  show OWay p e below G T12 (mkF m 50 #[.val (.int p0), .val (.int p1), .val (.int p2), .val (.int v3_1), .val (.int v4_2), .val (.int v5_3), .unset] [(.ref b4), (.ref b4)])
  refine ogo (fun _ z_ => XS.iconst X12.here hx rfl (hb hby at_50) z_) ?_
  show OWay p e below G T12 (mkF m 51 #[.val (.int p0), .val (.int p1), .val (.int p2), .val (.int v3_1), .val (.int v4_2), .val (.int v5_3), .unset] [(.int (2 : Int32)), (.ref b4), (.ref b4)])
  refine ogo (fun _ z_ => XS.iloadN X12.here hx rfl (hb hby at_51) rfl z_) ?_
  show OWay p e below G T12 (mkF m 52 #[.val (.int p0), .val (.int p1), .val (.int p2), .val (.int v3_1), .val (.int v4_2), .val (.int v5_3), .unset] [(.int p1), (.int (2 : Int32)), (.ref b4), (.ref b4)])
  refine ogo (fun _ z_ => XS.iload X12.here hx rfl (hb hby at_52) rfl z_) ?_
  show OWay p e below G T12 (mkF m 54 #[.val (.int p0), .val (.int p1), .val (.int p2), .val (.int v3_1), .val (.int v4_2), .val (.int v5_3), .unset] [(.int v5_3), (.int p1), (.int (2 : Int32)), (.ref b4), (.ref b4)])
  refine ogo (fun _ z_ => XS.iconst X12.here hx rfl (hb hby at_54) z_) ?_
  show OWay p e below G T12 (mkF m 55 #[.val (.int p0), .val (.int p1), .val (.int p2), .val (.int v3_1), .val (.int v4_2), .val (.int v5_3), .unset] [(.int (2 : Int32)), (.int v5_3), (.int p1), (.int (2 : Int32)), (.ref b4), (.ref b4)])
  obtain ⟨_, T14, L14, X14, hQ14, st14⟩ := wStatic X12 hx hZ (y := (⟨"com/example/geotide/geotide/MembersSwapPinLaw", "v", "(III)I"⟩ : MethodName)) hown (hw _ (List.mem_of_getElem? (i := 1) rfl)) (hw _ (List.mem_of_getElem? (i := 2) rfl)) (hw _ (List.mem_of_getElem? (i := 3) rfl)) (hw _ (List.mem_of_getElem? (i := 4) rfl)) (by decide) (v_b_c l Z az hw [] p1 v5_3 (2 : Int32) h12 n0 (Nat.le_trans (Nat.le_trans (Nat.le_trans Z0 E4.1) (Keep.of_wr W8).1) (Keep.of_wr W12).1)) 3 (by decide) (by decide) (g := (mkF m 55 #[.val (.int p0), .val (.int p1), .val (.int p2), .val (.int v3_1), .val (.int v4_2), .val (.int v5_3), .unset] [(.int (2 : Int32)), (.int v5_3), (.int p1), (.int (2 : Int32)), (.ref b4), (.ref b4)])) rfl (by rw [hml]; rfl) (argsL := [(.int p1), (.int v5_3), (.int (2 : Int32))]) (rest := [(.int (2 : Int32)), (.ref b4), (.ref b4)]) (lenOf pd__III_I rfl) rfl (by show 2 * 0 + _ ≤ _; exact Nat.le_of_eq rfl) (hb hby at_55) rfl eT12 (by decide) (by decide)
  obtain ⟨rfl, N14q, eq14⟩ := hQ14
  have N14 := Fr.app N12 N14q
  refine ogo st14 ?_
  show OWay p e below G T14 (mkF m 58 #[.val (.int p0), .val (.int p1), .val (.int p2), .val (.int v3_1), .val (.int v4_2), .val (.int v5_3), .unset] [(.int (p1 + ((2 : Int32) * v5_3))), (.int (2 : Int32)), (.ref b4), (.ref b4)])
  obtain ⟨cl_o15, Ar_o15, q_o15, S_o15, N_o15, H_o15, G_o15⟩ := id V_12
  have hin_o15 : ¬ ((2 : Int32) < 0 ∨ cl_o15.slots.size ≤ ((2 : Int32)).toNatClampNeg) := inb_of S_o15 ⟨by decide, by decide⟩
  obtain ⟨T16, h16, X16, eT16, W16, st16⟩ := stI X14 hx hZ eq14 Ar_o15 (j := (2 : Int32)) hin_o15 (g := (mkF m 58 #[.val (.int p0), .val (.int p1), .val (.int p2), .val (.int v3_1), .val (.int v4_2), .val (.int v5_3), .unset] [(.int (p1 + ((2 : Int32) * v5_3))), (.int (2 : Int32)), (.ref b4), (.ref b4)])) rfl rfl (hb hby at_58)
  have K17 : Keep h0 h16 [] := K13.wr W16 (Or.inr sz_b4)
  have V_16 : Arv Z h16 b4 k4 .int (18 : Int32) [(.int (p1 + ((0 : Int32) * v5_3))), (.int (p1 + ((1 : Int32) * v5_3))), (.int (p1 + ((2 : Int32) * v5_3))), (.int (0 : Int32)), (.int (0 : Int32)), (.int (0 : Int32)), (.int (0 : Int32)), (.int (0 : Int32)), (.int (0 : Int32)), (.int (0 : Int32)), (.int (0 : Int32)), (.int (0 : Int32)), (.int (0 : Int32)), (.int (0 : Int32)), (.int (0 : Int32)), (.int (0 : Int32)), (.int (0 : Int32)), (.int (0 : Int32))] (.int (0 : Int32)) := Arv.set Ar_o15 q_o15 S_o15 N_o15 H_o15 G_o15 rfl W16 2 rfl (Nat.le_of_ble_eq_true rfl)
  have N16 := Fr.snoc X16 N14 g_b4
  refine ogo st16 ?_
  show OWay p e below G T16 (mkF m 59 #[.val (.int p0), .val (.int p1), .val (.int p2), .val (.int v3_1), .val (.int v4_2), .val (.int v5_3), .unset] [(.ref b4)])
  refine ogo (fun _ z_ => XS.dup X16.here hx rfl (hb hby at_59) rfl rfl z_) ?_
  show OWay p e below G T16 (mkF m 60 #[.val (.int p0), .val (.int p1), .val (.int p2), .val (.int v3_1), .val (.int v4_2), .val (.int v5_3), .unset] [(.ref b4), (.ref b4)])
  refine ogo (fun _ z_ => XS.iconst X16.here hx rfl (hb hby at_60) z_) ?_
  show OWay p e below G T16 (mkF m 61 #[.val (.int p0), .val (.int p1), .val (.int p2), .val (.int v3_1), .val (.int v4_2), .val (.int v5_3), .unset] [(.int (3 : Int32)), (.ref b4), (.ref b4)])
  refine ogo (fun _ z_ => XS.iloadN X16.here hx rfl (hb hby at_61) rfl z_) ?_
  show OWay p e below G T16 (mkF m 62 #[.val (.int p0), .val (.int p1), .val (.int p2), .val (.int v3_1), .val (.int v4_2), .val (.int v5_3), .unset] [(.int p1), (.int (3 : Int32)), (.ref b4), (.ref b4)])
  refine ogo (fun _ z_ => XS.iload X16.here hx rfl (hb hby at_62) rfl z_) ?_
  show OWay p e below G T16 (mkF m 64 #[.val (.int p0), .val (.int p1), .val (.int p2), .val (.int v3_1), .val (.int v4_2), .val (.int v5_3), .unset] [(.int v5_3), (.int p1), (.int (3 : Int32)), (.ref b4), (.ref b4)])
  refine ogo (fun _ z_ => XS.iconst X16.here hx rfl (hb hby at_64) z_) ?_
  show OWay p e below G T16 (mkF m 65 #[.val (.int p0), .val (.int p1), .val (.int p2), .val (.int v3_1), .val (.int v4_2), .val (.int v5_3), .unset] [(.int (3 : Int32)), (.int v5_3), (.int p1), (.int (3 : Int32)), (.ref b4), (.ref b4)])
  obtain ⟨_, T18, L18, X18, hQ18, st18⟩ := wStatic X16 hx hZ (y := (⟨"com/example/geotide/geotide/MembersSwapPinLaw", "v", "(III)I"⟩ : MethodName)) hown (hw _ (List.mem_of_getElem? (i := 1) rfl)) (hw _ (List.mem_of_getElem? (i := 2) rfl)) (hw _ (List.mem_of_getElem? (i := 3) rfl)) (hw _ (List.mem_of_getElem? (i := 4) rfl)) (by decide) (v_b_c l Z az hw [] p1 v5_3 (3 : Int32) h16 n0 (Nat.le_trans (Nat.le_trans (Nat.le_trans (Nat.le_trans Z0 E4.1) (Keep.of_wr W8).1) (Keep.of_wr W12).1) (Keep.of_wr W16).1)) 3 (by decide) (by decide) (g := (mkF m 65 #[.val (.int p0), .val (.int p1), .val (.int p2), .val (.int v3_1), .val (.int v4_2), .val (.int v5_3), .unset] [(.int (3 : Int32)), (.int v5_3), (.int p1), (.int (3 : Int32)), (.ref b4), (.ref b4)])) rfl (by rw [hml]; rfl) (argsL := [(.int p1), (.int v5_3), (.int (3 : Int32))]) (rest := [(.int (3 : Int32)), (.ref b4), (.ref b4)]) (lenOf pd__III_I rfl) rfl (by show 2 * 0 + _ ≤ _; exact Nat.le_of_eq rfl) (hb hby at_65) rfl eT16 (by decide) (by decide)
  obtain ⟨rfl, N18q, eq18⟩ := hQ18
  have N18 := Fr.app N16 N18q
  refine ogo st18 ?_
  show OWay p e below G T18 (mkF m 68 #[.val (.int p0), .val (.int p1), .val (.int p2), .val (.int v3_1), .val (.int v4_2), .val (.int v5_3), .unset] [(.int (p1 + ((3 : Int32) * v5_3))), (.int (3 : Int32)), (.ref b4), (.ref b4)])
  obtain ⟨cl_o19, Ar_o19, q_o19, S_o19, N_o19, H_o19, G_o19⟩ := id V_16
  have hin_o19 : ¬ ((3 : Int32) < 0 ∨ cl_o19.slots.size ≤ ((3 : Int32)).toNatClampNeg) := inb_of S_o19 ⟨by decide, by decide⟩
  obtain ⟨T20, h20, X20, eT20, W20, st20⟩ := stI X18 hx hZ eq18 Ar_o19 (j := (3 : Int32)) hin_o19 (g := (mkF m 68 #[.val (.int p0), .val (.int p1), .val (.int p2), .val (.int v3_1), .val (.int v4_2), .val (.int v5_3), .unset] [(.int (p1 + ((3 : Int32) * v5_3))), (.int (3 : Int32)), (.ref b4), (.ref b4)])) rfl rfl (hb hby at_68)
  have K21 : Keep h0 h20 [] := K17.wr W20 (Or.inr sz_b4)
  have V_20 : Arv Z h20 b4 k4 .int (18 : Int32) [(.int (p1 + ((0 : Int32) * v5_3))), (.int (p1 + ((1 : Int32) * v5_3))), (.int (p1 + ((2 : Int32) * v5_3))), (.int (p1 + ((3 : Int32) * v5_3))), (.int (0 : Int32)), (.int (0 : Int32)), (.int (0 : Int32)), (.int (0 : Int32)), (.int (0 : Int32)), (.int (0 : Int32)), (.int (0 : Int32)), (.int (0 : Int32)), (.int (0 : Int32)), (.int (0 : Int32)), (.int (0 : Int32)), (.int (0 : Int32)), (.int (0 : Int32)), (.int (0 : Int32))] (.int (0 : Int32)) := Arv.set Ar_o19 q_o19 S_o19 N_o19 H_o19 G_o19 rfl W20 3 rfl (Nat.le_of_ble_eq_true rfl)
  have N20 := Fr.snoc X20 N18 g_b4
  refine ogo st20 ?_
  show OWay p e below G T20 (mkF m 69 #[.val (.int p0), .val (.int p1), .val (.int p2), .val (.int v3_1), .val (.int v4_2), .val (.int v5_3), .unset] [(.ref b4)])
  refine ogo (fun _ z_ => XS.dup X20.here hx rfl (hb hby at_69) rfl rfl z_) ?_
  show OWay p e below G T20 (mkF m 70 #[.val (.int p0), .val (.int p1), .val (.int p2), .val (.int v3_1), .val (.int v4_2), .val (.int v5_3), .unset] [(.ref b4), (.ref b4)])
  refine ogo (fun _ z_ => XS.iconst X20.here hx rfl (hb hby at_70) z_) ?_
  show OWay p e below G T20 (mkF m 71 #[.val (.int p0), .val (.int p1), .val (.int p2), .val (.int v3_1), .val (.int v4_2), .val (.int v5_3), .unset] [(.int (4 : Int32)), (.ref b4), (.ref b4)])
  refine ogo (fun _ z_ => XS.iloadN X20.here hx rfl (hb hby at_71) rfl z_) ?_
  show OWay p e below G T20 (mkF m 72 #[.val (.int p0), .val (.int p1), .val (.int p2), .val (.int v3_1), .val (.int v4_2), .val (.int v5_3), .unset] [(.int p1), (.int (4 : Int32)), (.ref b4), (.ref b4)])
  refine ogo (fun _ z_ => XS.iload X20.here hx rfl (hb hby at_72) rfl z_) ?_
  show OWay p e below G T20 (mkF m 74 #[.val (.int p0), .val (.int p1), .val (.int p2), .val (.int v3_1), .val (.int v4_2), .val (.int v5_3), .unset] [(.int v5_3), (.int p1), (.int (4 : Int32)), (.ref b4), (.ref b4)])
  refine ogo (fun _ z_ => XS.iconst X20.here hx rfl (hb hby at_74) z_) ?_
  show OWay p e below G T20 (mkF m 75 #[.val (.int p0), .val (.int p1), .val (.int p2), .val (.int v3_1), .val (.int v4_2), .val (.int v5_3), .unset] [(.int (4 : Int32)), (.int v5_3), (.int p1), (.int (4 : Int32)), (.ref b4), (.ref b4)])
  obtain ⟨_, T22, L22, X22, hQ22, st22⟩ := wStatic X20 hx hZ (y := (⟨"com/example/geotide/geotide/MembersSwapPinLaw", "v", "(III)I"⟩ : MethodName)) hown (hw _ (List.mem_of_getElem? (i := 1) rfl)) (hw _ (List.mem_of_getElem? (i := 2) rfl)) (hw _ (List.mem_of_getElem? (i := 3) rfl)) (hw _ (List.mem_of_getElem? (i := 4) rfl)) (by decide) (v_b_c l Z az hw [] p1 v5_3 (4 : Int32) h20 n0 (Nat.le_trans (Nat.le_trans (Nat.le_trans (Nat.le_trans (Nat.le_trans Z0 E4.1) (Keep.of_wr W8).1) (Keep.of_wr W12).1) (Keep.of_wr W16).1) (Keep.of_wr W20).1)) 3 (by decide) (by decide) (g := (mkF m 75 #[.val (.int p0), .val (.int p1), .val (.int p2), .val (.int v3_1), .val (.int v4_2), .val (.int v5_3), .unset] [(.int (4 : Int32)), (.int v5_3), (.int p1), (.int (4 : Int32)), (.ref b4), (.ref b4)])) rfl (by rw [hml]; rfl) (argsL := [(.int p1), (.int v5_3), (.int (4 : Int32))]) (rest := [(.int (4 : Int32)), (.ref b4), (.ref b4)]) (lenOf pd__III_I rfl) rfl (by show 2 * 0 + _ ≤ _; exact Nat.le_of_eq rfl) (hb hby at_75) rfl eT20 (by decide) (by decide)
  obtain ⟨rfl, N22q, eq22⟩ := hQ22
  have N22 := Fr.app N20 N22q
  refine ogo st22 ?_
  show OWay p e below G T22 (mkF m 78 #[.val (.int p0), .val (.int p1), .val (.int p2), .val (.int v3_1), .val (.int v4_2), .val (.int v5_3), .unset] [(.int (p1 + ((4 : Int32) * v5_3))), (.int (4 : Int32)), (.ref b4), (.ref b4)])
  obtain ⟨cl_o23, Ar_o23, q_o23, S_o23, N_o23, H_o23, G_o23⟩ := id V_20
  have hin_o23 : ¬ ((4 : Int32) < 0 ∨ cl_o23.slots.size ≤ ((4 : Int32)).toNatClampNeg) := inb_of S_o23 ⟨by decide, by decide⟩
  obtain ⟨T24, h24, X24, eT24, W24, st24⟩ := stI X22 hx hZ eq22 Ar_o23 (j := (4 : Int32)) hin_o23 (g := (mkF m 78 #[.val (.int p0), .val (.int p1), .val (.int p2), .val (.int v3_1), .val (.int v4_2), .val (.int v5_3), .unset] [(.int (p1 + ((4 : Int32) * v5_3))), (.int (4 : Int32)), (.ref b4), (.ref b4)])) rfl rfl (hb hby at_78)
  have K25 : Keep h0 h24 [] := K21.wr W24 (Or.inr sz_b4)
  have V_24 : Arv Z h24 b4 k4 .int (18 : Int32) [(.int (p1 + ((0 : Int32) * v5_3))), (.int (p1 + ((1 : Int32) * v5_3))), (.int (p1 + ((2 : Int32) * v5_3))), (.int (p1 + ((3 : Int32) * v5_3))), (.int (p1 + ((4 : Int32) * v5_3))), (.int (0 : Int32)), (.int (0 : Int32)), (.int (0 : Int32)), (.int (0 : Int32)), (.int (0 : Int32)), (.int (0 : Int32)), (.int (0 : Int32)), (.int (0 : Int32)), (.int (0 : Int32)), (.int (0 : Int32)), (.int (0 : Int32)), (.int (0 : Int32)), (.int (0 : Int32))] (.int (0 : Int32)) := Arv.set Ar_o23 q_o23 S_o23 N_o23 H_o23 G_o23 rfl W24 4 rfl (Nat.le_of_ble_eq_true rfl)
  have N24 := Fr.snoc X24 N22 g_b4
  refine ogo st24 ?_
  show OWay p e below G T24 (mkF m 79 #[.val (.int p0), .val (.int p1), .val (.int p2), .val (.int v3_1), .val (.int v4_2), .val (.int v5_3), .unset] [(.ref b4)])
  refine ogo (fun _ z_ => XS.dup X24.here hx rfl (hb hby at_79) rfl rfl z_) ?_
  show OWay p e below G T24 (mkF m 80 #[.val (.int p0), .val (.int p1), .val (.int p2), .val (.int v3_1), .val (.int v4_2), .val (.int v5_3), .unset] [(.ref b4), (.ref b4)])
  refine ogo (fun _ z_ => XS.iconst X24.here hx rfl (hb hby at_80) z_) ?_
  show OWay p e below G T24 (mkF m 81 #[.val (.int p0), .val (.int p1), .val (.int p2), .val (.int v3_1), .val (.int v4_2), .val (.int v5_3), .unset] [(.int (5 : Int32)), (.ref b4), (.ref b4)])
  refine ogo (fun _ z_ => XS.iloadN X24.here hx rfl (hb hby at_81) rfl z_) ?_
  show OWay p e below G T24 (mkF m 82 #[.val (.int p0), .val (.int p1), .val (.int p2), .val (.int v3_1), .val (.int v4_2), .val (.int v5_3), .unset] [(.int p1), (.int (5 : Int32)), (.ref b4), (.ref b4)])
  refine ogo (fun _ z_ => XS.iload X24.here hx rfl (hb hby at_82) rfl z_) ?_
  show OWay p e below G T24 (mkF m 84 #[.val (.int p0), .val (.int p1), .val (.int p2), .val (.int v3_1), .val (.int v4_2), .val (.int v5_3), .unset] [(.int v5_3), (.int p1), (.int (5 : Int32)), (.ref b4), (.ref b4)])
  refine ogo (fun _ z_ => XS.iconst X24.here hx rfl (hb hby at_84) z_) ?_
  show OWay p e below G T24 (mkF m 85 #[.val (.int p0), .val (.int p1), .val (.int p2), .val (.int v3_1), .val (.int v4_2), .val (.int v5_3), .unset] [(.int (5 : Int32)), (.int v5_3), (.int p1), (.int (5 : Int32)), (.ref b4), (.ref b4)])
  obtain ⟨_, T26, L26, X26, hQ26, st26⟩ := wStatic X24 hx hZ (y := (⟨"com/example/geotide/geotide/MembersSwapPinLaw", "v", "(III)I"⟩ : MethodName)) hown (hw _ (List.mem_of_getElem? (i := 1) rfl)) (hw _ (List.mem_of_getElem? (i := 2) rfl)) (hw _ (List.mem_of_getElem? (i := 3) rfl)) (hw _ (List.mem_of_getElem? (i := 4) rfl)) (by decide) (v_b_c l Z az hw [] p1 v5_3 (5 : Int32) h24 n0 (Nat.le_trans (Nat.le_trans (Nat.le_trans (Nat.le_trans (Nat.le_trans (Nat.le_trans Z0 E4.1) (Keep.of_wr W8).1) (Keep.of_wr W12).1) (Keep.of_wr W16).1) (Keep.of_wr W20).1) (Keep.of_wr W24).1)) 3 (by decide) (by decide) (g := (mkF m 85 #[.val (.int p0), .val (.int p1), .val (.int p2), .val (.int v3_1), .val (.int v4_2), .val (.int v5_3), .unset] [(.int (5 : Int32)), (.int v5_3), (.int p1), (.int (5 : Int32)), (.ref b4), (.ref b4)])) rfl (by rw [hml]; rfl) (argsL := [(.int p1), (.int v5_3), (.int (5 : Int32))]) (rest := [(.int (5 : Int32)), (.ref b4), (.ref b4)]) (lenOf pd__III_I rfl) rfl (by show 2 * 0 + _ ≤ _; exact Nat.le_of_eq rfl) (hb hby at_85) rfl eT24 (by decide) (by decide)
  obtain ⟨rfl, N26q, eq26⟩ := hQ26
  have N26 := Fr.app N24 N26q
  refine ogo st26 ?_
  show OWay p e below G T26 (mkF m 88 #[.val (.int p0), .val (.int p1), .val (.int p2), .val (.int v3_1), .val (.int v4_2), .val (.int v5_3), .unset] [(.int (p1 + ((5 : Int32) * v5_3))), (.int (5 : Int32)), (.ref b4), (.ref b4)])
  obtain ⟨cl_o27, Ar_o27, q_o27, S_o27, N_o27, H_o27, G_o27⟩ := id V_24
  have hin_o27 : ¬ ((5 : Int32) < 0 ∨ cl_o27.slots.size ≤ ((5 : Int32)).toNatClampNeg) := inb_of S_o27 ⟨by decide, by decide⟩
  obtain ⟨T28, h28, X28, eT28, W28, st28⟩ := stI X26 hx hZ eq26 Ar_o27 (j := (5 : Int32)) hin_o27 (g := (mkF m 88 #[.val (.int p0), .val (.int p1), .val (.int p2), .val (.int v3_1), .val (.int v4_2), .val (.int v5_3), .unset] [(.int (p1 + ((5 : Int32) * v5_3))), (.int (5 : Int32)), (.ref b4), (.ref b4)])) rfl rfl (hb hby at_88)
  have K29 : Keep h0 h28 [] := K25.wr W28 (Or.inr sz_b4)
  have V_28 : Arv Z h28 b4 k4 .int (18 : Int32) [(.int (p1 + ((0 : Int32) * v5_3))), (.int (p1 + ((1 : Int32) * v5_3))), (.int (p1 + ((2 : Int32) * v5_3))), (.int (p1 + ((3 : Int32) * v5_3))), (.int (p1 + ((4 : Int32) * v5_3))), (.int (p1 + ((5 : Int32) * v5_3))), (.int (0 : Int32)), (.int (0 : Int32)), (.int (0 : Int32)), (.int (0 : Int32)), (.int (0 : Int32)), (.int (0 : Int32)), (.int (0 : Int32)), (.int (0 : Int32)), (.int (0 : Int32)), (.int (0 : Int32)), (.int (0 : Int32)), (.int (0 : Int32))] (.int (0 : Int32)) := Arv.set Ar_o27 q_o27 S_o27 N_o27 H_o27 G_o27 rfl W28 5 rfl (Nat.le_of_ble_eq_true rfl)
  have N28 := Fr.snoc X28 N26 g_b4
  refine ogo st28 ?_
  show OWay p e below G T28 (mkF m 89 #[.val (.int p0), .val (.int p1), .val (.int p2), .val (.int v3_1), .val (.int v4_2), .val (.int v5_3), .unset] [(.ref b4)])
  refine ogo (fun _ z_ => XS.dup X28.here hx rfl (hb hby at_89) rfl rfl z_) ?_
  show OWay p e below G T28 (mkF m 90 #[.val (.int p0), .val (.int p1), .val (.int p2), .val (.int v3_1), .val (.int v4_2), .val (.int v5_3), .unset] [(.ref b4), (.ref b4)])
  refine ogo (fun _ z_ => XS.bipush X28.here hx rfl (hb hby at_90) z_) ?_
  show OWay p e below G T28 (mkF m 92 #[.val (.int p0), .val (.int p1), .val (.int p2), .val (.int v3_1), .val (.int v4_2), .val (.int v5_3), .unset] [(.int (6 : Int32)), (.ref b4), (.ref b4)])
  refine ogo (fun _ z_ => XS.iloadN X28.here hx rfl (hb hby at_92) rfl z_) ?_
  show OWay p e below G T28 (mkF m 93 #[.val (.int p0), .val (.int p1), .val (.int p2), .val (.int v3_1), .val (.int v4_2), .val (.int v5_3), .unset] [(.int p1), (.int (6 : Int32)), (.ref b4), (.ref b4)])
  refine ogo (fun _ z_ => XS.iload X28.here hx rfl (hb hby at_93) rfl z_) ?_
  show OWay p e below G T28 (mkF m 95 #[.val (.int p0), .val (.int p1), .val (.int p2), .val (.int v3_1), .val (.int v4_2), .val (.int v5_3), .unset] [(.int v5_3), (.int p1), (.int (6 : Int32)), (.ref b4), (.ref b4)])
  refine ogo (fun _ z_ => XS.bipush X28.here hx rfl (hb hby at_95) z_) ?_
  show OWay p e below G T28 (mkF m 97 #[.val (.int p0), .val (.int p1), .val (.int p2), .val (.int v3_1), .val (.int v4_2), .val (.int v5_3), .unset] [(.int (6 : Int32)), (.int v5_3), (.int p1), (.int (6 : Int32)), (.ref b4), (.ref b4)])
  obtain ⟨_, T30, L30, X30, hQ30, st30⟩ := wStatic X28 hx hZ (y := (⟨"com/example/geotide/geotide/MembersSwapPinLaw", "v", "(III)I"⟩ : MethodName)) hown (hw _ (List.mem_of_getElem? (i := 1) rfl)) (hw _ (List.mem_of_getElem? (i := 2) rfl)) (hw _ (List.mem_of_getElem? (i := 3) rfl)) (hw _ (List.mem_of_getElem? (i := 4) rfl)) (by decide) (v_b_c l Z az hw [] p1 v5_3 (6 : Int32) h28 n0 (Nat.le_trans (Nat.le_trans (Nat.le_trans (Nat.le_trans (Nat.le_trans (Nat.le_trans (Nat.le_trans Z0 E4.1) (Keep.of_wr W8).1) (Keep.of_wr W12).1) (Keep.of_wr W16).1) (Keep.of_wr W20).1) (Keep.of_wr W24).1) (Keep.of_wr W28).1)) 3 (by decide) (by decide) (g := (mkF m 97 #[.val (.int p0), .val (.int p1), .val (.int p2), .val (.int v3_1), .val (.int v4_2), .val (.int v5_3), .unset] [(.int (6 : Int32)), (.int v5_3), (.int p1), (.int (6 : Int32)), (.ref b4), (.ref b4)])) rfl (by rw [hml]; rfl) (argsL := [(.int p1), (.int v5_3), (.int (6 : Int32))]) (rest := [(.int (6 : Int32)), (.ref b4), (.ref b4)]) (lenOf pd__III_I rfl) rfl (by show 2 * 0 + _ ≤ _; exact Nat.le_of_eq rfl) (hb hby at_97) rfl eT28 (by decide) (by decide)
  obtain ⟨rfl, N30q, eq30⟩ := hQ30
  have N30 := Fr.app N28 N30q
  refine ogo st30 ?_
  show OWay p e below G T30 (mkF m 100 #[.val (.int p0), .val (.int p1), .val (.int p2), .val (.int v3_1), .val (.int v4_2), .val (.int v5_3), .unset] [(.int (p1 + ((6 : Int32) * v5_3))), (.int (6 : Int32)), (.ref b4), (.ref b4)])
  obtain ⟨cl_o31, Ar_o31, q_o31, S_o31, N_o31, H_o31, G_o31⟩ := id V_28
  have hin_o31 : ¬ ((6 : Int32) < 0 ∨ cl_o31.slots.size ≤ ((6 : Int32)).toNatClampNeg) := inb_of S_o31 ⟨by decide, by decide⟩
  obtain ⟨T32, h32, X32, eT32, W32, st32⟩ := stI X30 hx hZ eq30 Ar_o31 (j := (6 : Int32)) hin_o31 (g := (mkF m 100 #[.val (.int p0), .val (.int p1), .val (.int p2), .val (.int v3_1), .val (.int v4_2), .val (.int v5_3), .unset] [(.int (p1 + ((6 : Int32) * v5_3))), (.int (6 : Int32)), (.ref b4), (.ref b4)])) rfl rfl (hb hby at_100)
  have K33 : Keep h0 h32 [] := K29.wr W32 (Or.inr sz_b4)
  have V_32 : Arv Z h32 b4 k4 .int (18 : Int32) [(.int (p1 + ((0 : Int32) * v5_3))), (.int (p1 + ((1 : Int32) * v5_3))), (.int (p1 + ((2 : Int32) * v5_3))), (.int (p1 + ((3 : Int32) * v5_3))), (.int (p1 + ((4 : Int32) * v5_3))), (.int (p1 + ((5 : Int32) * v5_3))), (.int (p1 + ((6 : Int32) * v5_3))), (.int (0 : Int32)), (.int (0 : Int32)), (.int (0 : Int32)), (.int (0 : Int32)), (.int (0 : Int32)), (.int (0 : Int32)), (.int (0 : Int32)), (.int (0 : Int32)), (.int (0 : Int32)), (.int (0 : Int32)), (.int (0 : Int32))] (.int (0 : Int32)) := Arv.set Ar_o31 q_o31 S_o31 N_o31 H_o31 G_o31 rfl W32 6 rfl (Nat.le_of_ble_eq_true rfl)
  have N32 := Fr.snoc X32 N30 g_b4
  refine ogo st32 ?_
  show OWay p e below G T32 (mkF m 101 #[.val (.int p0), .val (.int p1), .val (.int p2), .val (.int v3_1), .val (.int v4_2), .val (.int v5_3), .unset] [(.ref b4)])
  refine ogo (fun _ z_ => XS.dup X32.here hx rfl (hb hby at_101) rfl rfl z_) ?_
  show OWay p e below G T32 (mkF m 102 #[.val (.int p0), .val (.int p1), .val (.int p2), .val (.int v3_1), .val (.int v4_2), .val (.int v5_3), .unset] [(.ref b4), (.ref b4)])
  refine ogo (fun _ z_ => XS.bipush X32.here hx rfl (hb hby at_102) z_) ?_
  show OWay p e below G T32 (mkF m 104 #[.val (.int p0), .val (.int p1), .val (.int p2), .val (.int v3_1), .val (.int v4_2), .val (.int v5_3), .unset] [(.int (7 : Int32)), (.ref b4), (.ref b4)])
  refine ogo (fun _ z_ => XS.iloadN X32.here hx rfl (hb hby at_104) rfl z_) ?_
  show OWay p e below G T32 (mkF m 105 #[.val (.int p0), .val (.int p1), .val (.int p2), .val (.int v3_1), .val (.int v4_2), .val (.int v5_3), .unset] [(.int p1), (.int (7 : Int32)), (.ref b4), (.ref b4)])
  refine ogo (fun _ z_ => XS.iload X32.here hx rfl (hb hby at_105) rfl z_) ?_
  show OWay p e below G T32 (mkF m 107 #[.val (.int p0), .val (.int p1), .val (.int p2), .val (.int v3_1), .val (.int v4_2), .val (.int v5_3), .unset] [(.int v5_3), (.int p1), (.int (7 : Int32)), (.ref b4), (.ref b4)])
  refine ogo (fun _ z_ => XS.bipush X32.here hx rfl (hb hby at_107) z_) ?_
  show OWay p e below G T32 (mkF m 109 #[.val (.int p0), .val (.int p1), .val (.int p2), .val (.int v3_1), .val (.int v4_2), .val (.int v5_3), .unset] [(.int (7 : Int32)), (.int v5_3), (.int p1), (.int (7 : Int32)), (.ref b4), (.ref b4)])
  obtain ⟨_, T34, L34, X34, hQ34, st34⟩ := wStatic X32 hx hZ (y := (⟨"com/example/geotide/geotide/MembersSwapPinLaw", "v", "(III)I"⟩ : MethodName)) hown (hw _ (List.mem_of_getElem? (i := 1) rfl)) (hw _ (List.mem_of_getElem? (i := 2) rfl)) (hw _ (List.mem_of_getElem? (i := 3) rfl)) (hw _ (List.mem_of_getElem? (i := 4) rfl)) (by decide) (v_b_c l Z az hw [] p1 v5_3 (7 : Int32) h32 n0 (Nat.le_trans (Nat.le_trans (Nat.le_trans (Nat.le_trans (Nat.le_trans (Nat.le_trans (Nat.le_trans (Nat.le_trans Z0 E4.1) (Keep.of_wr W8).1) (Keep.of_wr W12).1) (Keep.of_wr W16).1) (Keep.of_wr W20).1) (Keep.of_wr W24).1) (Keep.of_wr W28).1) (Keep.of_wr W32).1)) 3 (by decide) (by decide) (g := (mkF m 109 #[.val (.int p0), .val (.int p1), .val (.int p2), .val (.int v3_1), .val (.int v4_2), .val (.int v5_3), .unset] [(.int (7 : Int32)), (.int v5_3), (.int p1), (.int (7 : Int32)), (.ref b4), (.ref b4)])) rfl (by rw [hml]; rfl) (argsL := [(.int p1), (.int v5_3), (.int (7 : Int32))]) (rest := [(.int (7 : Int32)), (.ref b4), (.ref b4)]) (lenOf pd__III_I rfl) rfl (by show 2 * 0 + _ ≤ _; exact Nat.le_of_eq rfl) (hb hby at_109) rfl eT32 (by decide) (by decide)
  obtain ⟨rfl, N34q, eq34⟩ := hQ34
  have N34 := Fr.app N32 N34q
  refine ogo st34 ?_
  show OWay p e below G T34 (mkF m 112 #[.val (.int p0), .val (.int p1), .val (.int p2), .val (.int v3_1), .val (.int v4_2), .val (.int v5_3), .unset] [(.int (p1 + ((7 : Int32) * v5_3))), (.int (7 : Int32)), (.ref b4), (.ref b4)])
  obtain ⟨cl_o35, Ar_o35, q_o35, S_o35, N_o35, H_o35, G_o35⟩ := id V_32
  have hin_o35 : ¬ ((7 : Int32) < 0 ∨ cl_o35.slots.size ≤ ((7 : Int32)).toNatClampNeg) := inb_of S_o35 ⟨by decide, by decide⟩
  obtain ⟨T36, h36, X36, eT36, W36, st36⟩ := stI X34 hx hZ eq34 Ar_o35 (j := (7 : Int32)) hin_o35 (g := (mkF m 112 #[.val (.int p0), .val (.int p1), .val (.int p2), .val (.int v3_1), .val (.int v4_2), .val (.int v5_3), .unset] [(.int (p1 + ((7 : Int32) * v5_3))), (.int (7 : Int32)), (.ref b4), (.ref b4)])) rfl rfl (hb hby at_112)
  have K37 : Keep h0 h36 [] := K33.wr W36 (Or.inr sz_b4)
  have V_36 : Arv Z h36 b4 k4 .int (18 : Int32) [(.int (p1 + ((0 : Int32) * v5_3))), (.int (p1 + ((1 : Int32) * v5_3))), (.int (p1 + ((2 : Int32) * v5_3))), (.int (p1 + ((3 : Int32) * v5_3))), (.int (p1 + ((4 : Int32) * v5_3))), (.int (p1 + ((5 : Int32) * v5_3))), (.int (p1 + ((6 : Int32) * v5_3))), (.int (p1 + ((7 : Int32) * v5_3))), (.int (0 : Int32)), (.int (0 : Int32)), (.int (0 : Int32)), (.int (0 : Int32)), (.int (0 : Int32)), (.int (0 : Int32)), (.int (0 : Int32)), (.int (0 : Int32)), (.int (0 : Int32)), (.int (0 : Int32))] (.int (0 : Int32)) := Arv.set Ar_o35 q_o35 S_o35 N_o35 H_o35 G_o35 rfl W36 7 rfl (Nat.le_of_ble_eq_true rfl)
  have N36 := Fr.snoc X36 N34 g_b4
  refine ogo st36 ?_
  show OWay p e below G T36 (mkF m 113 #[.val (.int p0), .val (.int p1), .val (.int p2), .val (.int v3_1), .val (.int v4_2), .val (.int v5_3), .unset] [(.ref b4)])
  refine ogo (fun _ z_ => XS.dup X36.here hx rfl (hb hby at_113) rfl rfl z_) ?_
  show OWay p e below G T36 (mkF m 114 #[.val (.int p0), .val (.int p1), .val (.int p2), .val (.int v3_1), .val (.int v4_2), .val (.int v5_3), .unset] [(.ref b4), (.ref b4)])
  refine ogo (fun _ z_ => XS.bipush X36.here hx rfl (hb hby at_114) z_) ?_
  show OWay p e below G T36 (mkF m 116 #[.val (.int p0), .val (.int p1), .val (.int p2), .val (.int v3_1), .val (.int v4_2), .val (.int v5_3), .unset] [(.int (8 : Int32)), (.ref b4), (.ref b4)])
  refine ogo (fun _ z_ => XS.iloadN X36.here hx rfl (hb hby at_116) rfl z_) ?_
  show OWay p e below G T36 (mkF m 117 #[.val (.int p0), .val (.int p1), .val (.int p2), .val (.int v3_1), .val (.int v4_2), .val (.int v5_3), .unset] [(.int p1), (.int (8 : Int32)), (.ref b4), (.ref b4)])
  refine ogo (fun _ z_ => XS.iload X36.here hx rfl (hb hby at_117) rfl z_) ?_
  show OWay p e below G T36 (mkF m 119 #[.val (.int p0), .val (.int p1), .val (.int p2), .val (.int v3_1), .val (.int v4_2), .val (.int v5_3), .unset] [(.int v5_3), (.int p1), (.int (8 : Int32)), (.ref b4), (.ref b4)])
  refine ogo (fun _ z_ => XS.bipush X36.here hx rfl (hb hby at_119) z_) ?_
  show OWay p e below G T36 (mkF m 121 #[.val (.int p0), .val (.int p1), .val (.int p2), .val (.int v3_1), .val (.int v4_2), .val (.int v5_3), .unset] [(.int (8 : Int32)), (.int v5_3), (.int p1), (.int (8 : Int32)), (.ref b4), (.ref b4)])
  obtain ⟨_, T38, L38, X38, hQ38, st38⟩ := wStatic X36 hx hZ (y := (⟨"com/example/geotide/geotide/MembersSwapPinLaw", "v", "(III)I"⟩ : MethodName)) hown (hw _ (List.mem_of_getElem? (i := 1) rfl)) (hw _ (List.mem_of_getElem? (i := 2) rfl)) (hw _ (List.mem_of_getElem? (i := 3) rfl)) (hw _ (List.mem_of_getElem? (i := 4) rfl)) (by decide) (v_b_c l Z az hw [] p1 v5_3 (8 : Int32) h36 n0 (Nat.le_trans (Nat.le_trans (Nat.le_trans (Nat.le_trans (Nat.le_trans (Nat.le_trans (Nat.le_trans (Nat.le_trans (Nat.le_trans Z0 E4.1) (Keep.of_wr W8).1) (Keep.of_wr W12).1) (Keep.of_wr W16).1) (Keep.of_wr W20).1) (Keep.of_wr W24).1) (Keep.of_wr W28).1) (Keep.of_wr W32).1) (Keep.of_wr W36).1)) 3 (by decide) (by decide) (g := (mkF m 121 #[.val (.int p0), .val (.int p1), .val (.int p2), .val (.int v3_1), .val (.int v4_2), .val (.int v5_3), .unset] [(.int (8 : Int32)), (.int v5_3), (.int p1), (.int (8 : Int32)), (.ref b4), (.ref b4)])) rfl (by rw [hml]; rfl) (argsL := [(.int p1), (.int v5_3), (.int (8 : Int32))]) (rest := [(.int (8 : Int32)), (.ref b4), (.ref b4)]) (lenOf pd__III_I rfl) rfl (by show 2 * 0 + _ ≤ _; exact Nat.le_of_eq rfl) (hb hby at_121) rfl eT36 (by decide) (by decide)
  obtain ⟨rfl, N38q, eq38⟩ := hQ38
  have N38 := Fr.app N36 N38q
  refine ogo st38 ?_
  show OWay p e below G T38 (mkF m 124 #[.val (.int p0), .val (.int p1), .val (.int p2), .val (.int v3_1), .val (.int v4_2), .val (.int v5_3), .unset] [(.int (p1 + ((8 : Int32) * v5_3))), (.int (8 : Int32)), (.ref b4), (.ref b4)])
  obtain ⟨cl_o39, Ar_o39, q_o39, S_o39, N_o39, H_o39, G_o39⟩ := id V_36
  have hin_o39 : ¬ ((8 : Int32) < 0 ∨ cl_o39.slots.size ≤ ((8 : Int32)).toNatClampNeg) := inb_of S_o39 ⟨by decide, by decide⟩
  obtain ⟨T40, h40, X40, eT40, W40, st40⟩ := stI X38 hx hZ eq38 Ar_o39 (j := (8 : Int32)) hin_o39 (g := (mkF m 124 #[.val (.int p0), .val (.int p1), .val (.int p2), .val (.int v3_1), .val (.int v4_2), .val (.int v5_3), .unset] [(.int (p1 + ((8 : Int32) * v5_3))), (.int (8 : Int32)), (.ref b4), (.ref b4)])) rfl rfl (hb hby at_124)
  have K41 : Keep h0 h40 [] := K37.wr W40 (Or.inr sz_b4)
  have V_40 : Arv Z h40 b4 k4 .int (18 : Int32) [(.int (p1 + ((0 : Int32) * v5_3))), (.int (p1 + ((1 : Int32) * v5_3))), (.int (p1 + ((2 : Int32) * v5_3))), (.int (p1 + ((3 : Int32) * v5_3))), (.int (p1 + ((4 : Int32) * v5_3))), (.int (p1 + ((5 : Int32) * v5_3))), (.int (p1 + ((6 : Int32) * v5_3))), (.int (p1 + ((7 : Int32) * v5_3))), (.int (p1 + ((8 : Int32) * v5_3))), (.int (0 : Int32)), (.int (0 : Int32)), (.int (0 : Int32)), (.int (0 : Int32)), (.int (0 : Int32)), (.int (0 : Int32)), (.int (0 : Int32)), (.int (0 : Int32)), (.int (0 : Int32))] (.int (0 : Int32)) := Arv.set Ar_o39 q_o39 S_o39 N_o39 H_o39 G_o39 rfl W40 8 rfl (Nat.le_of_ble_eq_true rfl)
  have N40 := Fr.snoc X40 N38 g_b4
  refine ogo st40 ?_
  show OWay p e below G T40 (mkF m 125 #[.val (.int p0), .val (.int p1), .val (.int p2), .val (.int v3_1), .val (.int v4_2), .val (.int v5_3), .unset] [(.ref b4)])
  refine ogo (fun _ z_ => XS.dup X40.here hx rfl (hb hby at_125) rfl rfl z_) ?_
  show OWay p e below G T40 (mkF m 126 #[.val (.int p0), .val (.int p1), .val (.int p2), .val (.int v3_1), .val (.int v4_2), .val (.int v5_3), .unset] [(.ref b4), (.ref b4)])
  refine ogo (fun _ z_ => XS.bipush X40.here hx rfl (hb hby at_126) z_) ?_
  show OWay p e below G T40 (mkF m 128 #[.val (.int p0), .val (.int p1), .val (.int p2), .val (.int v3_1), .val (.int v4_2), .val (.int v5_3), .unset] [(.int (9 : Int32)), (.ref b4), (.ref b4)])
  refine ogo (fun _ z_ => XS.iloadN X40.here hx rfl (hb hby at_128) rfl z_) ?_
  show OWay p e below G T40 (mkF m 129 #[.val (.int p0), .val (.int p1), .val (.int p2), .val (.int v3_1), .val (.int v4_2), .val (.int v5_3), .unset] [(.int p1), (.int (9 : Int32)), (.ref b4), (.ref b4)])
  refine ogo (fun _ z_ => XS.iload X40.here hx rfl (hb hby at_129) rfl z_) ?_
  show OWay p e below G T40 (mkF m 131 #[.val (.int p0), .val (.int p1), .val (.int p2), .val (.int v3_1), .val (.int v4_2), .val (.int v5_3), .unset] [(.int v5_3), (.int p1), (.int (9 : Int32)), (.ref b4), (.ref b4)])
  refine ogo (fun _ z_ => XS.bipush X40.here hx rfl (hb hby at_131) z_) ?_
  show OWay p e below G T40 (mkF m 133 #[.val (.int p0), .val (.int p1), .val (.int p2), .val (.int v3_1), .val (.int v4_2), .val (.int v5_3), .unset] [(.int (9 : Int32)), (.int v5_3), (.int p1), (.int (9 : Int32)), (.ref b4), (.ref b4)])
  obtain ⟨_, T42, L42, X42, hQ42, st42⟩ := wStatic X40 hx hZ (y := (⟨"com/example/geotide/geotide/MembersSwapPinLaw", "v", "(III)I"⟩ : MethodName)) hown (hw _ (List.mem_of_getElem? (i := 1) rfl)) (hw _ (List.mem_of_getElem? (i := 2) rfl)) (hw _ (List.mem_of_getElem? (i := 3) rfl)) (hw _ (List.mem_of_getElem? (i := 4) rfl)) (by decide) (v_b_c l Z az hw [] p1 v5_3 (9 : Int32) h40 n0 (Nat.le_trans (Nat.le_trans (Nat.le_trans (Nat.le_trans (Nat.le_trans (Nat.le_trans (Nat.le_trans (Nat.le_trans (Nat.le_trans (Nat.le_trans Z0 E4.1) (Keep.of_wr W8).1) (Keep.of_wr W12).1) (Keep.of_wr W16).1) (Keep.of_wr W20).1) (Keep.of_wr W24).1) (Keep.of_wr W28).1) (Keep.of_wr W32).1) (Keep.of_wr W36).1) (Keep.of_wr W40).1)) 3 (by decide) (by decide) (g := (mkF m 133 #[.val (.int p0), .val (.int p1), .val (.int p2), .val (.int v3_1), .val (.int v4_2), .val (.int v5_3), .unset] [(.int (9 : Int32)), (.int v5_3), (.int p1), (.int (9 : Int32)), (.ref b4), (.ref b4)])) rfl (by rw [hml]; rfl) (argsL := [(.int p1), (.int v5_3), (.int (9 : Int32))]) (rest := [(.int (9 : Int32)), (.ref b4), (.ref b4)]) (lenOf pd__III_I rfl) rfl (by show 2 * 0 + _ ≤ _; exact Nat.le_of_eq rfl) (hb hby at_133) rfl eT40 (by decide) (by decide)
  obtain ⟨rfl, N42q, eq42⟩ := hQ42
  have N42 := Fr.app N40 N42q
  refine ogo st42 ?_
  show OWay p e below G T42 (mkF m 136 #[.val (.int p0), .val (.int p1), .val (.int p2), .val (.int v3_1), .val (.int v4_2), .val (.int v5_3), .unset] [(.int (p1 + ((9 : Int32) * v5_3))), (.int (9 : Int32)), (.ref b4), (.ref b4)])
  obtain ⟨cl_o43, Ar_o43, q_o43, S_o43, N_o43, H_o43, G_o43⟩ := id V_40
  have hin_o43 : ¬ ((9 : Int32) < 0 ∨ cl_o43.slots.size ≤ ((9 : Int32)).toNatClampNeg) := inb_of S_o43 ⟨by decide, by decide⟩
  obtain ⟨T44, h44, X44, eT44, W44, st44⟩ := stI X42 hx hZ eq42 Ar_o43 (j := (9 : Int32)) hin_o43 (g := (mkF m 136 #[.val (.int p0), .val (.int p1), .val (.int p2), .val (.int v3_1), .val (.int v4_2), .val (.int v5_3), .unset] [(.int (p1 + ((9 : Int32) * v5_3))), (.int (9 : Int32)), (.ref b4), (.ref b4)])) rfl rfl (hb hby at_136)
  have K45 : Keep h0 h44 [] := K41.wr W44 (Or.inr sz_b4)
  have V_44 : Arv Z h44 b4 k4 .int (18 : Int32) [(.int (p1 + ((0 : Int32) * v5_3))), (.int (p1 + ((1 : Int32) * v5_3))), (.int (p1 + ((2 : Int32) * v5_3))), (.int (p1 + ((3 : Int32) * v5_3))), (.int (p1 + ((4 : Int32) * v5_3))), (.int (p1 + ((5 : Int32) * v5_3))), (.int (p1 + ((6 : Int32) * v5_3))), (.int (p1 + ((7 : Int32) * v5_3))), (.int (p1 + ((8 : Int32) * v5_3))), (.int (p1 + ((9 : Int32) * v5_3))), (.int (0 : Int32)), (.int (0 : Int32)), (.int (0 : Int32)), (.int (0 : Int32)), (.int (0 : Int32)), (.int (0 : Int32)), (.int (0 : Int32)), (.int (0 : Int32))] (.int (0 : Int32)) := Arv.set Ar_o43 q_o43 S_o43 N_o43 H_o43 G_o43 rfl W44 9 rfl (Nat.le_of_ble_eq_true rfl)
  have N44 := Fr.snoc X44 N42 g_b4
  refine ogo st44 ?_
  show OWay p e below G T44 (mkF m 137 #[.val (.int p0), .val (.int p1), .val (.int p2), .val (.int v3_1), .val (.int v4_2), .val (.int v5_3), .unset] [(.ref b4)])
  refine ogo (fun _ z_ => XS.dup X44.here hx rfl (hb hby at_137) rfl rfl z_) ?_
  show OWay p e below G T44 (mkF m 138 #[.val (.int p0), .val (.int p1), .val (.int p2), .val (.int v3_1), .val (.int v4_2), .val (.int v5_3), .unset] [(.ref b4), (.ref b4)])
  refine ogo (fun _ z_ => XS.bipush X44.here hx rfl (hb hby at_138) z_) ?_
  show OWay p e below G T44 (mkF m 140 #[.val (.int p0), .val (.int p1), .val (.int p2), .val (.int v3_1), .val (.int v4_2), .val (.int v5_3), .unset] [(.int (10 : Int32)), (.ref b4), (.ref b4)])
  refine ogo (fun _ z_ => XS.iloadN X44.here hx rfl (hb hby at_140) rfl z_) ?_
  show OWay p e below G T44 (mkF m 141 #[.val (.int p0), .val (.int p1), .val (.int p2), .val (.int v3_1), .val (.int v4_2), .val (.int v5_3), .unset] [(.int p1), (.int (10 : Int32)), (.ref b4), (.ref b4)])
  refine ogo (fun _ z_ => XS.iload X44.here hx rfl (hb hby at_141) rfl z_) ?_
  show OWay p e below G T44 (mkF m 143 #[.val (.int p0), .val (.int p1), .val (.int p2), .val (.int v3_1), .val (.int v4_2), .val (.int v5_3), .unset] [(.int v5_3), (.int p1), (.int (10 : Int32)), (.ref b4), (.ref b4)])
  refine ogo (fun _ z_ => XS.bipush X44.here hx rfl (hb hby at_143) z_) ?_
  show OWay p e below G T44 (mkF m 145 #[.val (.int p0), .val (.int p1), .val (.int p2), .val (.int v3_1), .val (.int v4_2), .val (.int v5_3), .unset] [(.int (10 : Int32)), (.int v5_3), (.int p1), (.int (10 : Int32)), (.ref b4), (.ref b4)])
  obtain ⟨_, T46, L46, X46, hQ46, st46⟩ := wStatic X44 hx hZ (y := (⟨"com/example/geotide/geotide/MembersSwapPinLaw", "v", "(III)I"⟩ : MethodName)) hown (hw _ (List.mem_of_getElem? (i := 1) rfl)) (hw _ (List.mem_of_getElem? (i := 2) rfl)) (hw _ (List.mem_of_getElem? (i := 3) rfl)) (hw _ (List.mem_of_getElem? (i := 4) rfl)) (by decide) (v_b_c l Z az hw [] p1 v5_3 (10 : Int32) h44 n0 (Nat.le_trans (Nat.le_trans (Nat.le_trans (Nat.le_trans (Nat.le_trans (Nat.le_trans (Nat.le_trans (Nat.le_trans (Nat.le_trans (Nat.le_trans (Nat.le_trans Z0 E4.1) (Keep.of_wr W8).1) (Keep.of_wr W12).1) (Keep.of_wr W16).1) (Keep.of_wr W20).1) (Keep.of_wr W24).1) (Keep.of_wr W28).1) (Keep.of_wr W32).1) (Keep.of_wr W36).1) (Keep.of_wr W40).1) (Keep.of_wr W44).1)) 3 (by decide) (by decide) (g := (mkF m 145 #[.val (.int p0), .val (.int p1), .val (.int p2), .val (.int v3_1), .val (.int v4_2), .val (.int v5_3), .unset] [(.int (10 : Int32)), (.int v5_3), (.int p1), (.int (10 : Int32)), (.ref b4), (.ref b4)])) rfl (by rw [hml]; rfl) (argsL := [(.int p1), (.int v5_3), (.int (10 : Int32))]) (rest := [(.int (10 : Int32)), (.ref b4), (.ref b4)]) (lenOf pd__III_I rfl) rfl (by show 2 * 0 + _ ≤ _; exact Nat.le_of_eq rfl) (hb hby at_145) rfl eT44 (by decide) (by decide)
  obtain ⟨rfl, N46q, eq46⟩ := hQ46
  have N46 := Fr.app N44 N46q
  refine ogo st46 ?_
  show OWay p e below G T46 (mkF m 148 #[.val (.int p0), .val (.int p1), .val (.int p2), .val (.int v3_1), .val (.int v4_2), .val (.int v5_3), .unset] [(.int (p1 + ((10 : Int32) * v5_3))), (.int (10 : Int32)), (.ref b4), (.ref b4)])
  obtain ⟨cl_o47, Ar_o47, q_o47, S_o47, N_o47, H_o47, G_o47⟩ := id V_44
  have hin_o47 : ¬ ((10 : Int32) < 0 ∨ cl_o47.slots.size ≤ ((10 : Int32)).toNatClampNeg) := inb_of S_o47 ⟨by decide, by decide⟩
  obtain ⟨T48, h48, X48, eT48, W48, st48⟩ := stI X46 hx hZ eq46 Ar_o47 (j := (10 : Int32)) hin_o47 (g := (mkF m 148 #[.val (.int p0), .val (.int p1), .val (.int p2), .val (.int v3_1), .val (.int v4_2), .val (.int v5_3), .unset] [(.int (p1 + ((10 : Int32) * v5_3))), (.int (10 : Int32)), (.ref b4), (.ref b4)])) rfl rfl (hb hby at_148)
  have K49 : Keep h0 h48 [] := K45.wr W48 (Or.inr sz_b4)
  have V_48 : Arv Z h48 b4 k4 .int (18 : Int32) [(.int (p1 + ((0 : Int32) * v5_3))), (.int (p1 + ((1 : Int32) * v5_3))), (.int (p1 + ((2 : Int32) * v5_3))), (.int (p1 + ((3 : Int32) * v5_3))), (.int (p1 + ((4 : Int32) * v5_3))), (.int (p1 + ((5 : Int32) * v5_3))), (.int (p1 + ((6 : Int32) * v5_3))), (.int (p1 + ((7 : Int32) * v5_3))), (.int (p1 + ((8 : Int32) * v5_3))), (.int (p1 + ((9 : Int32) * v5_3))), (.int (p1 + ((10 : Int32) * v5_3))), (.int (0 : Int32)), (.int (0 : Int32)), (.int (0 : Int32)), (.int (0 : Int32)), (.int (0 : Int32)), (.int (0 : Int32)), (.int (0 : Int32))] (.int (0 : Int32)) := Arv.set Ar_o47 q_o47 S_o47 N_o47 H_o47 G_o47 rfl W48 10 rfl (Nat.le_of_ble_eq_true rfl)
  have N48 := Fr.snoc X48 N46 g_b4
  refine ogo st48 ?_
  show OWay p e below G T48 (mkF m 149 #[.val (.int p0), .val (.int p1), .val (.int p2), .val (.int v3_1), .val (.int v4_2), .val (.int v5_3), .unset] [(.ref b4)])
  refine ogo (fun _ z_ => XS.dup X48.here hx rfl (hb hby at_149) rfl rfl z_) ?_
  show OWay p e below G T48 (mkF m 150 #[.val (.int p0), .val (.int p1), .val (.int p2), .val (.int v3_1), .val (.int v4_2), .val (.int v5_3), .unset] [(.ref b4), (.ref b4)])
  refine ogo (fun _ z_ => XS.bipush X48.here hx rfl (hb hby at_150) z_) ?_
  show OWay p e below G T48 (mkF m 152 #[.val (.int p0), .val (.int p1), .val (.int p2), .val (.int v3_1), .val (.int v4_2), .val (.int v5_3), .unset] [(.int (11 : Int32)), (.ref b4), (.ref b4)])
  refine ogo (fun _ z_ => XS.iloadN X48.here hx rfl (hb hby at_152) rfl z_) ?_
  show OWay p e below G T48 (mkF m 153 #[.val (.int p0), .val (.int p1), .val (.int p2), .val (.int v3_1), .val (.int v4_2), .val (.int v5_3), .unset] [(.int p1), (.int (11 : Int32)), (.ref b4), (.ref b4)])
  refine ogo (fun _ z_ => XS.iload X48.here hx rfl (hb hby at_153) rfl z_) ?_
  show OWay p e below G T48 (mkF m 155 #[.val (.int p0), .val (.int p1), .val (.int p2), .val (.int v3_1), .val (.int v4_2), .val (.int v5_3), .unset] [(.int v5_3), (.int p1), (.int (11 : Int32)), (.ref b4), (.ref b4)])
  refine ogo (fun _ z_ => XS.bipush X48.here hx rfl (hb hby at_155) z_) ?_
  show OWay p e below G T48 (mkF m 157 #[.val (.int p0), .val (.int p1), .val (.int p2), .val (.int v3_1), .val (.int v4_2), .val (.int v5_3), .unset] [(.int (11 : Int32)), (.int v5_3), (.int p1), (.int (11 : Int32)), (.ref b4), (.ref b4)])
  obtain ⟨_, T50, L50, X50, hQ50, st50⟩ := wStatic X48 hx hZ (y := (⟨"com/example/geotide/geotide/MembersSwapPinLaw", "v", "(III)I"⟩ : MethodName)) hown (hw _ (List.mem_of_getElem? (i := 1) rfl)) (hw _ (List.mem_of_getElem? (i := 2) rfl)) (hw _ (List.mem_of_getElem? (i := 3) rfl)) (hw _ (List.mem_of_getElem? (i := 4) rfl)) (by decide) (v_b_c l Z az hw [] p1 v5_3 (11 : Int32) h48 n0 (Nat.le_trans (Nat.le_trans (Nat.le_trans (Nat.le_trans (Nat.le_trans (Nat.le_trans (Nat.le_trans (Nat.le_trans (Nat.le_trans (Nat.le_trans (Nat.le_trans (Nat.le_trans Z0 E4.1) (Keep.of_wr W8).1) (Keep.of_wr W12).1) (Keep.of_wr W16).1) (Keep.of_wr W20).1) (Keep.of_wr W24).1) (Keep.of_wr W28).1) (Keep.of_wr W32).1) (Keep.of_wr W36).1) (Keep.of_wr W40).1) (Keep.of_wr W44).1) (Keep.of_wr W48).1)) 3 (by decide) (by decide) (g := (mkF m 157 #[.val (.int p0), .val (.int p1), .val (.int p2), .val (.int v3_1), .val (.int v4_2), .val (.int v5_3), .unset] [(.int (11 : Int32)), (.int v5_3), (.int p1), (.int (11 : Int32)), (.ref b4), (.ref b4)])) rfl (by rw [hml]; rfl) (argsL := [(.int p1), (.int v5_3), (.int (11 : Int32))]) (rest := [(.int (11 : Int32)), (.ref b4), (.ref b4)]) (lenOf pd__III_I rfl) rfl (by show 2 * 0 + _ ≤ _; exact Nat.le_of_eq rfl) (hb hby at_157) rfl eT48 (by decide) (by decide)
  obtain ⟨rfl, N50q, eq50⟩ := hQ50
  have N50 := Fr.app N48 N50q
  refine ogo st50 ?_
  show OWay p e below G T50 (mkF m 160 #[.val (.int p0), .val (.int p1), .val (.int p2), .val (.int v3_1), .val (.int v4_2), .val (.int v5_3), .unset] [(.int (p1 + ((11 : Int32) * v5_3))), (.int (11 : Int32)), (.ref b4), (.ref b4)])
  obtain ⟨cl_o51, Ar_o51, q_o51, S_o51, N_o51, H_o51, G_o51⟩ := id V_48
  have hin_o51 : ¬ ((11 : Int32) < 0 ∨ cl_o51.slots.size ≤ ((11 : Int32)).toNatClampNeg) := inb_of S_o51 ⟨by decide, by decide⟩
  obtain ⟨T52, h52, X52, eT52, W52, st52⟩ := stI X50 hx hZ eq50 Ar_o51 (j := (11 : Int32)) hin_o51 (g := (mkF m 160 #[.val (.int p0), .val (.int p1), .val (.int p2), .val (.int v3_1), .val (.int v4_2), .val (.int v5_3), .unset] [(.int (p1 + ((11 : Int32) * v5_3))), (.int (11 : Int32)), (.ref b4), (.ref b4)])) rfl rfl (hb hby at_160)
  have K53 : Keep h0 h52 [] := K49.wr W52 (Or.inr sz_b4)
  have V_52 : Arv Z h52 b4 k4 .int (18 : Int32) [(.int (p1 + ((0 : Int32) * v5_3))), (.int (p1 + ((1 : Int32) * v5_3))), (.int (p1 + ((2 : Int32) * v5_3))), (.int (p1 + ((3 : Int32) * v5_3))), (.int (p1 + ((4 : Int32) * v5_3))), (.int (p1 + ((5 : Int32) * v5_3))), (.int (p1 + ((6 : Int32) * v5_3))), (.int (p1 + ((7 : Int32) * v5_3))), (.int (p1 + ((8 : Int32) * v5_3))), (.int (p1 + ((9 : Int32) * v5_3))), (.int (p1 + ((10 : Int32) * v5_3))), (.int (p1 + ((11 : Int32) * v5_3))), (.int (0 : Int32)), (.int (0 : Int32)), (.int (0 : Int32)), (.int (0 : Int32)), (.int (0 : Int32)), (.int (0 : Int32))] (.int (0 : Int32)) := Arv.set Ar_o51 q_o51 S_o51 N_o51 H_o51 G_o51 rfl W52 11 rfl (Nat.le_of_ble_eq_true rfl)
  have N52 := Fr.snoc X52 N50 g_b4
  refine ogo st52 ?_
  show OWay p e below G T52 (mkF m 161 #[.val (.int p0), .val (.int p1), .val (.int p2), .val (.int v3_1), .val (.int v4_2), .val (.int v5_3), .unset] [(.ref b4)])
  refine ogo (fun _ z_ => XS.dup X52.here hx rfl (hb hby at_161) rfl rfl z_) ?_
  show OWay p e below G T52 (mkF m 162 #[.val (.int p0), .val (.int p1), .val (.int p2), .val (.int v3_1), .val (.int v4_2), .val (.int v5_3), .unset] [(.ref b4), (.ref b4)])
  refine ogo (fun _ z_ => XS.bipush X52.here hx rfl (hb hby at_162) z_) ?_
  show OWay p e below G T52 (mkF m 164 #[.val (.int p0), .val (.int p1), .val (.int p2), .val (.int v3_1), .val (.int v4_2), .val (.int v5_3), .unset] [(.int (12 : Int32)), (.ref b4), (.ref b4)])
  refine ogo (fun _ z_ => XS.iloadN X52.here hx rfl (hb hby at_164) rfl z_) ?_
  show OWay p e below G T52 (mkF m 165 #[.val (.int p0), .val (.int p1), .val (.int p2), .val (.int v3_1), .val (.int v4_2), .val (.int v5_3), .unset] [(.int p1), (.int (12 : Int32)), (.ref b4), (.ref b4)])
  refine ogo (fun _ z_ => XS.iload X52.here hx rfl (hb hby at_165) rfl z_) ?_
  show OWay p e below G T52 (mkF m 167 #[.val (.int p0), .val (.int p1), .val (.int p2), .val (.int v3_1), .val (.int v4_2), .val (.int v5_3), .unset] [(.int v5_3), (.int p1), (.int (12 : Int32)), (.ref b4), (.ref b4)])
  refine ogo (fun _ z_ => XS.bipush X52.here hx rfl (hb hby at_167) z_) ?_
  show OWay p e below G T52 (mkF m 169 #[.val (.int p0), .val (.int p1), .val (.int p2), .val (.int v3_1), .val (.int v4_2), .val (.int v5_3), .unset] [(.int (12 : Int32)), (.int v5_3), (.int p1), (.int (12 : Int32)), (.ref b4), (.ref b4)])
  obtain ⟨_, T54, L54, X54, hQ54, st54⟩ := wStatic X52 hx hZ (y := (⟨"com/example/geotide/geotide/MembersSwapPinLaw", "v", "(III)I"⟩ : MethodName)) hown (hw _ (List.mem_of_getElem? (i := 1) rfl)) (hw _ (List.mem_of_getElem? (i := 2) rfl)) (hw _ (List.mem_of_getElem? (i := 3) rfl)) (hw _ (List.mem_of_getElem? (i := 4) rfl)) (by decide) (v_b_c l Z az hw [] p1 v5_3 (12 : Int32) h52 n0 (Nat.le_trans (Nat.le_trans (Nat.le_trans (Nat.le_trans (Nat.le_trans (Nat.le_trans (Nat.le_trans (Nat.le_trans (Nat.le_trans (Nat.le_trans (Nat.le_trans (Nat.le_trans (Nat.le_trans Z0 E4.1) (Keep.of_wr W8).1) (Keep.of_wr W12).1) (Keep.of_wr W16).1) (Keep.of_wr W20).1) (Keep.of_wr W24).1) (Keep.of_wr W28).1) (Keep.of_wr W32).1) (Keep.of_wr W36).1) (Keep.of_wr W40).1) (Keep.of_wr W44).1) (Keep.of_wr W48).1) (Keep.of_wr W52).1)) 3 (by decide) (by decide) (g := (mkF m 169 #[.val (.int p0), .val (.int p1), .val (.int p2), .val (.int v3_1), .val (.int v4_2), .val (.int v5_3), .unset] [(.int (12 : Int32)), (.int v5_3), (.int p1), (.int (12 : Int32)), (.ref b4), (.ref b4)])) rfl (by rw [hml]; rfl) (argsL := [(.int p1), (.int v5_3), (.int (12 : Int32))]) (rest := [(.int (12 : Int32)), (.ref b4), (.ref b4)]) (lenOf pd__III_I rfl) rfl (by show 2 * 0 + _ ≤ _; exact Nat.le_of_eq rfl) (hb hby at_169) rfl eT52 (by decide) (by decide)
  obtain ⟨rfl, N54q, eq54⟩ := hQ54
  have N54 := Fr.app N52 N54q
  refine ogo st54 ?_
  show OWay p e below G T54 (mkF m 172 #[.val (.int p0), .val (.int p1), .val (.int p2), .val (.int v3_1), .val (.int v4_2), .val (.int v5_3), .unset] [(.int (p1 + ((12 : Int32) * v5_3))), (.int (12 : Int32)), (.ref b4), (.ref b4)])
  obtain ⟨cl_o55, Ar_o55, q_o55, S_o55, N_o55, H_o55, G_o55⟩ := id V_52
  have hin_o55 : ¬ ((12 : Int32) < 0 ∨ cl_o55.slots.size ≤ ((12 : Int32)).toNatClampNeg) := inb_of S_o55 ⟨by decide, by decide⟩
  obtain ⟨T56, h56, X56, eT56, W56, st56⟩ := stI X54 hx hZ eq54 Ar_o55 (j := (12 : Int32)) hin_o55 (g := (mkF m 172 #[.val (.int p0), .val (.int p1), .val (.int p2), .val (.int v3_1), .val (.int v4_2), .val (.int v5_3), .unset] [(.int (p1 + ((12 : Int32) * v5_3))), (.int (12 : Int32)), (.ref b4), (.ref b4)])) rfl rfl (hb hby at_172)
  have K57 : Keep h0 h56 [] := K53.wr W56 (Or.inr sz_b4)
  have V_56 : Arv Z h56 b4 k4 .int (18 : Int32) [(.int (p1 + ((0 : Int32) * v5_3))), (.int (p1 + ((1 : Int32) * v5_3))), (.int (p1 + ((2 : Int32) * v5_3))), (.int (p1 + ((3 : Int32) * v5_3))), (.int (p1 + ((4 : Int32) * v5_3))), (.int (p1 + ((5 : Int32) * v5_3))), (.int (p1 + ((6 : Int32) * v5_3))), (.int (p1 + ((7 : Int32) * v5_3))), (.int (p1 + ((8 : Int32) * v5_3))), (.int (p1 + ((9 : Int32) * v5_3))), (.int (p1 + ((10 : Int32) * v5_3))), (.int (p1 + ((11 : Int32) * v5_3))), (.int (p1 + ((12 : Int32) * v5_3))), (.int (0 : Int32)), (.int (0 : Int32)), (.int (0 : Int32)), (.int (0 : Int32)), (.int (0 : Int32))] (.int (0 : Int32)) := Arv.set Ar_o55 q_o55 S_o55 N_o55 H_o55 G_o55 rfl W56 12 rfl (Nat.le_of_ble_eq_true rfl)
  have N56 := Fr.snoc X56 N54 g_b4
  refine ogo st56 ?_
  show OWay p e below G T56 (mkF m 173 #[.val (.int p0), .val (.int p1), .val (.int p2), .val (.int v3_1), .val (.int v4_2), .val (.int v5_3), .unset] [(.ref b4)])
  refine ogo (fun _ z_ => XS.dup X56.here hx rfl (hb hby at_173) rfl rfl z_) ?_
  show OWay p e below G T56 (mkF m 174 #[.val (.int p0), .val (.int p1), .val (.int p2), .val (.int v3_1), .val (.int v4_2), .val (.int v5_3), .unset] [(.ref b4), (.ref b4)])
  refine ogo (fun _ z_ => XS.bipush X56.here hx rfl (hb hby at_174) z_) ?_
  show OWay p e below G T56 (mkF m 176 #[.val (.int p0), .val (.int p1), .val (.int p2), .val (.int v3_1), .val (.int v4_2), .val (.int v5_3), .unset] [(.int (13 : Int32)), (.ref b4), (.ref b4)])
  refine ogo (fun _ z_ => XS.iloadN X56.here hx rfl (hb hby at_176) rfl z_) ?_
  show OWay p e below G T56 (mkF m 177 #[.val (.int p0), .val (.int p1), .val (.int p2), .val (.int v3_1), .val (.int v4_2), .val (.int v5_3), .unset] [(.int p1), (.int (13 : Int32)), (.ref b4), (.ref b4)])
  refine ogo (fun _ z_ => XS.iload X56.here hx rfl (hb hby at_177) rfl z_) ?_
  show OWay p e below G T56 (mkF m 179 #[.val (.int p0), .val (.int p1), .val (.int p2), .val (.int v3_1), .val (.int v4_2), .val (.int v5_3), .unset] [(.int v5_3), (.int p1), (.int (13 : Int32)), (.ref b4), (.ref b4)])
  refine ogo (fun _ z_ => XS.bipush X56.here hx rfl (hb hby at_179) z_) ?_
  show OWay p e below G T56 (mkF m 181 #[.val (.int p0), .val (.int p1), .val (.int p2), .val (.int v3_1), .val (.int v4_2), .val (.int v5_3), .unset] [(.int (13 : Int32)), (.int v5_3), (.int p1), (.int (13 : Int32)), (.ref b4), (.ref b4)])
  obtain ⟨_, T58, L58, X58, hQ58, st58⟩ := wStatic X56 hx hZ (y := (⟨"com/example/geotide/geotide/MembersSwapPinLaw", "v", "(III)I"⟩ : MethodName)) hown (hw _ (List.mem_of_getElem? (i := 1) rfl)) (hw _ (List.mem_of_getElem? (i := 2) rfl)) (hw _ (List.mem_of_getElem? (i := 3) rfl)) (hw _ (List.mem_of_getElem? (i := 4) rfl)) (by decide) (v_b_c l Z az hw [] p1 v5_3 (13 : Int32) h56 n0 (Nat.le_trans (Nat.le_trans (Nat.le_trans (Nat.le_trans (Nat.le_trans (Nat.le_trans (Nat.le_trans (Nat.le_trans (Nat.le_trans (Nat.le_trans (Nat.le_trans (Nat.le_trans (Nat.le_trans (Nat.le_trans Z0 E4.1) (Keep.of_wr W8).1) (Keep.of_wr W12).1) (Keep.of_wr W16).1) (Keep.of_wr W20).1) (Keep.of_wr W24).1) (Keep.of_wr W28).1) (Keep.of_wr W32).1) (Keep.of_wr W36).1) (Keep.of_wr W40).1) (Keep.of_wr W44).1) (Keep.of_wr W48).1) (Keep.of_wr W52).1) (Keep.of_wr W56).1)) 3 (by decide) (by decide) (g := (mkF m 181 #[.val (.int p0), .val (.int p1), .val (.int p2), .val (.int v3_1), .val (.int v4_2), .val (.int v5_3), .unset] [(.int (13 : Int32)), (.int v5_3), (.int p1), (.int (13 : Int32)), (.ref b4), (.ref b4)])) rfl (by rw [hml]; rfl) (argsL := [(.int p1), (.int v5_3), (.int (13 : Int32))]) (rest := [(.int (13 : Int32)), (.ref b4), (.ref b4)]) (lenOf pd__III_I rfl) rfl (by show 2 * 0 + _ ≤ _; exact Nat.le_of_eq rfl) (hb hby at_181) rfl eT56 (by decide) (by decide)
  obtain ⟨rfl, N58q, eq58⟩ := hQ58
  have N58 := Fr.app N56 N58q
  refine ogo st58 ?_
  show OWay p e below G T58 (mkF m 184 #[.val (.int p0), .val (.int p1), .val (.int p2), .val (.int v3_1), .val (.int v4_2), .val (.int v5_3), .unset] [(.int (p1 + ((13 : Int32) * v5_3))), (.int (13 : Int32)), (.ref b4), (.ref b4)])
  obtain ⟨cl_o59, Ar_o59, q_o59, S_o59, N_o59, H_o59, G_o59⟩ := id V_56
  have hin_o59 : ¬ ((13 : Int32) < 0 ∨ cl_o59.slots.size ≤ ((13 : Int32)).toNatClampNeg) := inb_of S_o59 ⟨by decide, by decide⟩
  obtain ⟨T60, h60, X60, eT60, W60, st60⟩ := stI X58 hx hZ eq58 Ar_o59 (j := (13 : Int32)) hin_o59 (g := (mkF m 184 #[.val (.int p0), .val (.int p1), .val (.int p2), .val (.int v3_1), .val (.int v4_2), .val (.int v5_3), .unset] [(.int (p1 + ((13 : Int32) * v5_3))), (.int (13 : Int32)), (.ref b4), (.ref b4)])) rfl rfl (hb hby at_184)
  have K61 : Keep h0 h60 [] := K57.wr W60 (Or.inr sz_b4)
  have V_60 : Arv Z h60 b4 k4 .int (18 : Int32) [(.int (p1 + ((0 : Int32) * v5_3))), (.int (p1 + ((1 : Int32) * v5_3))), (.int (p1 + ((2 : Int32) * v5_3))), (.int (p1 + ((3 : Int32) * v5_3))), (.int (p1 + ((4 : Int32) * v5_3))), (.int (p1 + ((5 : Int32) * v5_3))), (.int (p1 + ((6 : Int32) * v5_3))), (.int (p1 + ((7 : Int32) * v5_3))), (.int (p1 + ((8 : Int32) * v5_3))), (.int (p1 + ((9 : Int32) * v5_3))), (.int (p1 + ((10 : Int32) * v5_3))), (.int (p1 + ((11 : Int32) * v5_3))), (.int (p1 + ((12 : Int32) * v5_3))), (.int (p1 + ((13 : Int32) * v5_3))), (.int (0 : Int32)), (.int (0 : Int32)), (.int (0 : Int32)), (.int (0 : Int32))] (.int (0 : Int32)) := Arv.set Ar_o59 q_o59 S_o59 N_o59 H_o59 G_o59 rfl W60 13 rfl (Nat.le_of_ble_eq_true rfl)
  have N60 := Fr.snoc X60 N58 g_b4
  refine ogo st60 ?_
  show OWay p e below G T60 (mkF m 185 #[.val (.int p0), .val (.int p1), .val (.int p2), .val (.int v3_1), .val (.int v4_2), .val (.int v5_3), .unset] [(.ref b4)])
  refine ogo (fun _ z_ => XS.dup X60.here hx rfl (hb hby at_185) rfl rfl z_) ?_
  show OWay p e below G T60 (mkF m 186 #[.val (.int p0), .val (.int p1), .val (.int p2), .val (.int v3_1), .val (.int v4_2), .val (.int v5_3), .unset] [(.ref b4), (.ref b4)])
  refine ogo (fun _ z_ => XS.bipush X60.here hx rfl (hb hby at_186) z_) ?_
  show OWay p e below G T60 (mkF m 188 #[.val (.int p0), .val (.int p1), .val (.int p2), .val (.int v3_1), .val (.int v4_2), .val (.int v5_3), .unset] [(.int (14 : Int32)), (.ref b4), (.ref b4)])
  refine ogo (fun _ z_ => XS.iloadN X60.here hx rfl (hb hby at_188) rfl z_) ?_
  show OWay p e below G T60 (mkF m 189 #[.val (.int p0), .val (.int p1), .val (.int p2), .val (.int v3_1), .val (.int v4_2), .val (.int v5_3), .unset] [(.int p1), (.int (14 : Int32)), (.ref b4), (.ref b4)])
  refine ogo (fun _ z_ => XS.iload X60.here hx rfl (hb hby at_189) rfl z_) ?_
  show OWay p e below G T60 (mkF m 191 #[.val (.int p0), .val (.int p1), .val (.int p2), .val (.int v3_1), .val (.int v4_2), .val (.int v5_3), .unset] [(.int v5_3), (.int p1), (.int (14 : Int32)), (.ref b4), (.ref b4)])
  refine ogo (fun _ z_ => XS.bipush X60.here hx rfl (hb hby at_191) z_) ?_
  show OWay p e below G T60 (mkF m 193 #[.val (.int p0), .val (.int p1), .val (.int p2), .val (.int v3_1), .val (.int v4_2), .val (.int v5_3), .unset] [(.int (14 : Int32)), (.int v5_3), (.int p1), (.int (14 : Int32)), (.ref b4), (.ref b4)])
  obtain ⟨_, T62, L62, X62, hQ62, st62⟩ := wStatic X60 hx hZ (y := (⟨"com/example/geotide/geotide/MembersSwapPinLaw", "v", "(III)I"⟩ : MethodName)) hown (hw _ (List.mem_of_getElem? (i := 1) rfl)) (hw _ (List.mem_of_getElem? (i := 2) rfl)) (hw _ (List.mem_of_getElem? (i := 3) rfl)) (hw _ (List.mem_of_getElem? (i := 4) rfl)) (by decide) (v_b_c l Z az hw [] p1 v5_3 (14 : Int32) h60 n0 (Nat.le_trans (Nat.le_trans (Nat.le_trans (Nat.le_trans (Nat.le_trans (Nat.le_trans (Nat.le_trans (Nat.le_trans (Nat.le_trans (Nat.le_trans (Nat.le_trans (Nat.le_trans (Nat.le_trans (Nat.le_trans (Nat.le_trans Z0 E4.1) (Keep.of_wr W8).1) (Keep.of_wr W12).1) (Keep.of_wr W16).1) (Keep.of_wr W20).1) (Keep.of_wr W24).1) (Keep.of_wr W28).1) (Keep.of_wr W32).1) (Keep.of_wr W36).1) (Keep.of_wr W40).1) (Keep.of_wr W44).1) (Keep.of_wr W48).1) (Keep.of_wr W52).1) (Keep.of_wr W56).1) (Keep.of_wr W60).1)) 3 (by decide) (by decide) (g := (mkF m 193 #[.val (.int p0), .val (.int p1), .val (.int p2), .val (.int v3_1), .val (.int v4_2), .val (.int v5_3), .unset] [(.int (14 : Int32)), (.int v5_3), (.int p1), (.int (14 : Int32)), (.ref b4), (.ref b4)])) rfl (by rw [hml]; rfl) (argsL := [(.int p1), (.int v5_3), (.int (14 : Int32))]) (rest := [(.int (14 : Int32)), (.ref b4), (.ref b4)]) (lenOf pd__III_I rfl) rfl (by show 2 * 0 + _ ≤ _; exact Nat.le_of_eq rfl) (hb hby at_193) rfl eT60 (by decide) (by decide)
  obtain ⟨rfl, N62q, eq62⟩ := hQ62
  have N62 := Fr.app N60 N62q
  refine ogo st62 ?_
  show OWay p e below G T62 (mkF m 196 #[.val (.int p0), .val (.int p1), .val (.int p2), .val (.int v3_1), .val (.int v4_2), .val (.int v5_3), .unset] [(.int (p1 + ((14 : Int32) * v5_3))), (.int (14 : Int32)), (.ref b4), (.ref b4)])
  obtain ⟨cl_o63, Ar_o63, q_o63, S_o63, N_o63, H_o63, G_o63⟩ := id V_60
  have hin_o63 : ¬ ((14 : Int32) < 0 ∨ cl_o63.slots.size ≤ ((14 : Int32)).toNatClampNeg) := inb_of S_o63 ⟨by decide, by decide⟩
  obtain ⟨T64, h64, X64, eT64, W64, st64⟩ := stI X62 hx hZ eq62 Ar_o63 (j := (14 : Int32)) hin_o63 (g := (mkF m 196 #[.val (.int p0), .val (.int p1), .val (.int p2), .val (.int v3_1), .val (.int v4_2), .val (.int v5_3), .unset] [(.int (p1 + ((14 : Int32) * v5_3))), (.int (14 : Int32)), (.ref b4), (.ref b4)])) rfl rfl (hb hby at_196)
  have K65 : Keep h0 h64 [] := K61.wr W64 (Or.inr sz_b4)
  have V_64 : Arv Z h64 b4 k4 .int (18 : Int32) [(.int (p1 + ((0 : Int32) * v5_3))), (.int (p1 + ((1 : Int32) * v5_3))), (.int (p1 + ((2 : Int32) * v5_3))), (.int (p1 + ((3 : Int32) * v5_3))), (.int (p1 + ((4 : Int32) * v5_3))), (.int (p1 + ((5 : Int32) * v5_3))), (.int (p1 + ((6 : Int32) * v5_3))), (.int (p1 + ((7 : Int32) * v5_3))), (.int (p1 + ((8 : Int32) * v5_3))), (.int (p1 + ((9 : Int32) * v5_3))), (.int (p1 + ((10 : Int32) * v5_3))), (.int (p1 + ((11 : Int32) * v5_3))), (.int (p1 + ((12 : Int32) * v5_3))), (.int (p1 + ((13 : Int32) * v5_3))), (.int (p1 + ((14 : Int32) * v5_3))), (.int (0 : Int32)), (.int (0 : Int32)), (.int (0 : Int32))] (.int (0 : Int32)) := Arv.set Ar_o63 q_o63 S_o63 N_o63 H_o63 G_o63 rfl W64 14 rfl (Nat.le_of_ble_eq_true rfl)
  have N64 := Fr.snoc X64 N62 g_b4
  refine ogo st64 ?_
  show OWay p e below G T64 (mkF m 197 #[.val (.int p0), .val (.int p1), .val (.int p2), .val (.int v3_1), .val (.int v4_2), .val (.int v5_3), .unset] [(.ref b4)])
  refine ogo (fun _ z_ => XS.dup X64.here hx rfl (hb hby at_197) rfl rfl z_) ?_
  show OWay p e below G T64 (mkF m 198 #[.val (.int p0), .val (.int p1), .val (.int p2), .val (.int v3_1), .val (.int v4_2), .val (.int v5_3), .unset] [(.ref b4), (.ref b4)])
  refine ogo (fun _ z_ => XS.bipush X64.here hx rfl (hb hby at_198) z_) ?_
  show OWay p e below G T64 (mkF m 200 #[.val (.int p0), .val (.int p1), .val (.int p2), .val (.int v3_1), .val (.int v4_2), .val (.int v5_3), .unset] [(.int (15 : Int32)), (.ref b4), (.ref b4)])
  refine ogo (fun _ z_ => XS.iloadN X64.here hx rfl (hb hby at_200) rfl z_) ?_
  show OWay p e below G T64 (mkF m 201 #[.val (.int p0), .val (.int p1), .val (.int p2), .val (.int v3_1), .val (.int v4_2), .val (.int v5_3), .unset] [(.int p1), (.int (15 : Int32)), (.ref b4), (.ref b4)])
  refine ogo (fun _ z_ => XS.iload X64.here hx rfl (hb hby at_201) rfl z_) ?_
  show OWay p e below G T64 (mkF m 203 #[.val (.int p0), .val (.int p1), .val (.int p2), .val (.int v3_1), .val (.int v4_2), .val (.int v5_3), .unset] [(.int v5_3), (.int p1), (.int (15 : Int32)), (.ref b4), (.ref b4)])
  refine ogo (fun _ z_ => XS.bipush X64.here hx rfl (hb hby at_203) z_) ?_
  show OWay p e below G T64 (mkF m 205 #[.val (.int p0), .val (.int p1), .val (.int p2), .val (.int v3_1), .val (.int v4_2), .val (.int v5_3), .unset] [(.int (15 : Int32)), (.int v5_3), (.int p1), (.int (15 : Int32)), (.ref b4), (.ref b4)])
  obtain ⟨_, T66, L66, X66, hQ66, st66⟩ := wStatic X64 hx hZ (y := (⟨"com/example/geotide/geotide/MembersSwapPinLaw", "v", "(III)I"⟩ : MethodName)) hown (hw _ (List.mem_of_getElem? (i := 1) rfl)) (hw _ (List.mem_of_getElem? (i := 2) rfl)) (hw _ (List.mem_of_getElem? (i := 3) rfl)) (hw _ (List.mem_of_getElem? (i := 4) rfl)) (by decide) (v_b_c l Z az hw [] p1 v5_3 (15 : Int32) h64 n0 (Nat.le_trans (Nat.le_trans (Nat.le_trans (Nat.le_trans (Nat.le_trans (Nat.le_trans (Nat.le_trans (Nat.le_trans (Nat.le_trans (Nat.le_trans (Nat.le_trans (Nat.le_trans (Nat.le_trans (Nat.le_trans (Nat.le_trans (Nat.le_trans Z0 E4.1) (Keep.of_wr W8).1) (Keep.of_wr W12).1) (Keep.of_wr W16).1) (Keep.of_wr W20).1) (Keep.of_wr W24).1) (Keep.of_wr W28).1) (Keep.of_wr W32).1) (Keep.of_wr W36).1) (Keep.of_wr W40).1) (Keep.of_wr W44).1) (Keep.of_wr W48).1) (Keep.of_wr W52).1) (Keep.of_wr W56).1) (Keep.of_wr W60).1) (Keep.of_wr W64).1)) 3 (by decide) (by decide) (g := (mkF m 205 #[.val (.int p0), .val (.int p1), .val (.int p2), .val (.int v3_1), .val (.int v4_2), .val (.int v5_3), .unset] [(.int (15 : Int32)), (.int v5_3), (.int p1), (.int (15 : Int32)), (.ref b4), (.ref b4)])) rfl (by rw [hml]; rfl) (argsL := [(.int p1), (.int v5_3), (.int (15 : Int32))]) (rest := [(.int (15 : Int32)), (.ref b4), (.ref b4)]) (lenOf pd__III_I rfl) rfl (by show 2 * 0 + _ ≤ _; exact Nat.le_of_eq rfl) (hb hby at_205) rfl eT64 (by decide) (by decide)
  obtain ⟨rfl, N66q, eq66⟩ := hQ66
  have N66 := Fr.app N64 N66q
  refine ogo st66 ?_
  show OWay p e below G T66 (mkF m 208 #[.val (.int p0), .val (.int p1), .val (.int p2), .val (.int v3_1), .val (.int v4_2), .val (.int v5_3), .unset] [(.int (p1 + ((15 : Int32) * v5_3))), (.int (15 : Int32)), (.ref b4), (.ref b4)])
  obtain ⟨cl_o67, Ar_o67, q_o67, S_o67, N_o67, H_o67, G_o67⟩ := id V_64
  have hin_o67 : ¬ ((15 : Int32) < 0 ∨ cl_o67.slots.size ≤ ((15 : Int32)).toNatClampNeg) := inb_of S_o67 ⟨by decide, by decide⟩
  obtain ⟨T68, h68, X68, eT68, W68, st68⟩ := stI X66 hx hZ eq66 Ar_o67 (j := (15 : Int32)) hin_o67 (g := (mkF m 208 #[.val (.int p0), .val (.int p1), .val (.int p2), .val (.int v3_1), .val (.int v4_2), .val (.int v5_3), .unset] [(.int (p1 + ((15 : Int32) * v5_3))), (.int (15 : Int32)), (.ref b4), (.ref b4)])) rfl rfl (hb hby at_208)
  have K69 : Keep h0 h68 [] := K65.wr W68 (Or.inr sz_b4)
  have V_68 : Arv Z h68 b4 k4 .int (18 : Int32) [(.int (p1 + ((0 : Int32) * v5_3))), (.int (p1 + ((1 : Int32) * v5_3))), (.int (p1 + ((2 : Int32) * v5_3))), (.int (p1 + ((3 : Int32) * v5_3))), (.int (p1 + ((4 : Int32) * v5_3))), (.int (p1 + ((5 : Int32) * v5_3))), (.int (p1 + ((6 : Int32) * v5_3))), (.int (p1 + ((7 : Int32) * v5_3))), (.int (p1 + ((8 : Int32) * v5_3))), (.int (p1 + ((9 : Int32) * v5_3))), (.int (p1 + ((10 : Int32) * v5_3))), (.int (p1 + ((11 : Int32) * v5_3))), (.int (p1 + ((12 : Int32) * v5_3))), (.int (p1 + ((13 : Int32) * v5_3))), (.int (p1 + ((14 : Int32) * v5_3))), (.int (p1 + ((15 : Int32) * v5_3))), (.int (0 : Int32)), (.int (0 : Int32))] (.int (0 : Int32)) := Arv.set Ar_o67 q_o67 S_o67 N_o67 H_o67 G_o67 rfl W68 15 rfl (Nat.le_of_ble_eq_true rfl)
  have N68 := Fr.snoc X68 N66 g_b4
  refine ogo st68 ?_
  show OWay p e below G T68 (mkF m 209 #[.val (.int p0), .val (.int p1), .val (.int p2), .val (.int v3_1), .val (.int v4_2), .val (.int v5_3), .unset] [(.ref b4)])
  refine ogo (fun _ z_ => XS.dup X68.here hx rfl (hb hby at_209) rfl rfl z_) ?_
  show OWay p e below G T68 (mkF m 210 #[.val (.int p0), .val (.int p1), .val (.int p2), .val (.int v3_1), .val (.int v4_2), .val (.int v5_3), .unset] [(.ref b4), (.ref b4)])
  refine ogo (fun _ z_ => XS.bipush X68.here hx rfl (hb hby at_210) z_) ?_
  show OWay p e below G T68 (mkF m 212 #[.val (.int p0), .val (.int p1), .val (.int p2), .val (.int v3_1), .val (.int v4_2), .val (.int v5_3), .unset] [(.int (16 : Int32)), (.ref b4), (.ref b4)])
  refine ogo (fun _ z_ => XS.iloadN X68.here hx rfl (hb hby at_212) rfl z_) ?_
  show OWay p e below G T68 (mkF m 213 #[.val (.int p0), .val (.int p1), .val (.int p2), .val (.int v3_1), .val (.int v4_2), .val (.int v5_3), .unset] [(.int p1), (.int (16 : Int32)), (.ref b4), (.ref b4)])
  refine ogo (fun _ z_ => XS.iload X68.here hx rfl (hb hby at_213) rfl z_) ?_
  show OWay p e below G T68 (mkF m 215 #[.val (.int p0), .val (.int p1), .val (.int p2), .val (.int v3_1), .val (.int v4_2), .val (.int v5_3), .unset] [(.int v5_3), (.int p1), (.int (16 : Int32)), (.ref b4), (.ref b4)])
  refine ogo (fun _ z_ => XS.bipush X68.here hx rfl (hb hby at_215) z_) ?_
  show OWay p e below G T68 (mkF m 217 #[.val (.int p0), .val (.int p1), .val (.int p2), .val (.int v3_1), .val (.int v4_2), .val (.int v5_3), .unset] [(.int (16 : Int32)), (.int v5_3), (.int p1), (.int (16 : Int32)), (.ref b4), (.ref b4)])
  obtain ⟨_, T70, L70, X70, hQ70, st70⟩ := wStatic X68 hx hZ (y := (⟨"com/example/geotide/geotide/MembersSwapPinLaw", "v", "(III)I"⟩ : MethodName)) hown (hw _ (List.mem_of_getElem? (i := 1) rfl)) (hw _ (List.mem_of_getElem? (i := 2) rfl)) (hw _ (List.mem_of_getElem? (i := 3) rfl)) (hw _ (List.mem_of_getElem? (i := 4) rfl)) (by decide) (v_b_c l Z az hw [] p1 v5_3 (16 : Int32) h68 n0 (Nat.le_trans (Nat.le_trans (Nat.le_trans (Nat.le_trans (Nat.le_trans (Nat.le_trans (Nat.le_trans (Nat.le_trans (Nat.le_trans (Nat.le_trans (Nat.le_trans (Nat.le_trans (Nat.le_trans (Nat.le_trans (Nat.le_trans (Nat.le_trans (Nat.le_trans Z0 E4.1) (Keep.of_wr W8).1) (Keep.of_wr W12).1) (Keep.of_wr W16).1) (Keep.of_wr W20).1) (Keep.of_wr W24).1) (Keep.of_wr W28).1) (Keep.of_wr W32).1) (Keep.of_wr W36).1) (Keep.of_wr W40).1) (Keep.of_wr W44).1) (Keep.of_wr W48).1) (Keep.of_wr W52).1) (Keep.of_wr W56).1) (Keep.of_wr W60).1) (Keep.of_wr W64).1) (Keep.of_wr W68).1)) 3 (by decide) (by decide) (g := (mkF m 217 #[.val (.int p0), .val (.int p1), .val (.int p2), .val (.int v3_1), .val (.int v4_2), .val (.int v5_3), .unset] [(.int (16 : Int32)), (.int v5_3), (.int p1), (.int (16 : Int32)), (.ref b4), (.ref b4)])) rfl (by rw [hml]; rfl) (argsL := [(.int p1), (.int v5_3), (.int (16 : Int32))]) (rest := [(.int (16 : Int32)), (.ref b4), (.ref b4)]) (lenOf pd__III_I rfl) rfl (by show 2 * 0 + _ ≤ _; exact Nat.le_of_eq rfl) (hb hby at_217) rfl eT68 (by decide) (by decide)
  obtain ⟨rfl, N70q, eq70⟩ := hQ70
  have N70 := Fr.app N68 N70q
  refine ogo st70 ?_
  show OWay p e below G T70 (mkF m 220 #[.val (.int p0), .val (.int p1), .val (.int p2), .val (.int v3_1), .val (.int v4_2), .val (.int v5_3), .unset] [(.int (p1 + ((16 : Int32) * v5_3))), (.int (16 : Int32)), (.ref b4), (.ref b4)])
  obtain ⟨cl_o71, Ar_o71, q_o71, S_o71, N_o71, H_o71, G_o71⟩ := id V_68
  have hin_o71 : ¬ ((16 : Int32) < 0 ∨ cl_o71.slots.size ≤ ((16 : Int32)).toNatClampNeg) := inb_of S_o71 ⟨by decide, by decide⟩
  obtain ⟨T72, h72, X72, eT72, W72, st72⟩ := stI X70 hx hZ eq70 Ar_o71 (j := (16 : Int32)) hin_o71 (g := (mkF m 220 #[.val (.int p0), .val (.int p1), .val (.int p2), .val (.int v3_1), .val (.int v4_2), .val (.int v5_3), .unset] [(.int (p1 + ((16 : Int32) * v5_3))), (.int (16 : Int32)), (.ref b4), (.ref b4)])) rfl rfl (hb hby at_220)
  have K73 : Keep h0 h72 [] := K69.wr W72 (Or.inr sz_b4)
  have V_72 : Arv Z h72 b4 k4 .int (18 : Int32) [(.int (p1 + ((0 : Int32) * v5_3))), (.int (p1 + ((1 : Int32) * v5_3))), (.int (p1 + ((2 : Int32) * v5_3))), (.int (p1 + ((3 : Int32) * v5_3))), (.int (p1 + ((4 : Int32) * v5_3))), (.int (p1 + ((5 : Int32) * v5_3))), (.int (p1 + ((6 : Int32) * v5_3))), (.int (p1 + ((7 : Int32) * v5_3))), (.int (p1 + ((8 : Int32) * v5_3))), (.int (p1 + ((9 : Int32) * v5_3))), (.int (p1 + ((10 : Int32) * v5_3))), (.int (p1 + ((11 : Int32) * v5_3))), (.int (p1 + ((12 : Int32) * v5_3))), (.int (p1 + ((13 : Int32) * v5_3))), (.int (p1 + ((14 : Int32) * v5_3))), (.int (p1 + ((15 : Int32) * v5_3))), (.int (p1 + ((16 : Int32) * v5_3))), (.int (0 : Int32))] (.int (0 : Int32)) := Arv.set Ar_o71 q_o71 S_o71 N_o71 H_o71 G_o71 rfl W72 16 rfl (Nat.le_of_ble_eq_true rfl)
  have N72 := Fr.snoc X72 N70 g_b4
  refine ogo st72 ?_
  show OWay p e below G T72 (mkF m 221 #[.val (.int p0), .val (.int p1), .val (.int p2), .val (.int v3_1), .val (.int v4_2), .val (.int v5_3), .unset] [(.ref b4)])
  refine ogo (fun _ z_ => XS.dup X72.here hx rfl (hb hby at_221) rfl rfl z_) ?_
  show OWay p e below G T72 (mkF m 222 #[.val (.int p0), .val (.int p1), .val (.int p2), .val (.int v3_1), .val (.int v4_2), .val (.int v5_3), .unset] [(.ref b4), (.ref b4)])
  refine ogo (fun _ z_ => XS.bipush X72.here hx rfl (hb hby at_222) z_) ?_
  show OWay p e below G T72 (mkF m 224 #[.val (.int p0), .val (.int p1), .val (.int p2), .val (.int v3_1), .val (.int v4_2), .val (.int v5_3), .unset] [(.int (17 : Int32)), (.ref b4), (.ref b4)])
  refine ogo (fun _ z_ => XS.iloadN X72.here hx rfl (hb hby at_224) rfl z_) ?_
  show OWay p e below G T72 (mkF m 225 #[.val (.int p0), .val (.int p1), .val (.int p2), .val (.int v3_1), .val (.int v4_2), .val (.int v5_3), .unset] [(.int p1), (.int (17 : Int32)), (.ref b4), (.ref b4)])
  refine ogo (fun _ z_ => XS.iload X72.here hx rfl (hb hby at_225) rfl z_) ?_
  show OWay p e below G T72 (mkF m 227 #[.val (.int p0), .val (.int p1), .val (.int p2), .val (.int v3_1), .val (.int v4_2), .val (.int v5_3), .unset] [(.int v5_3), (.int p1), (.int (17 : Int32)), (.ref b4), (.ref b4)])
  refine ogo (fun _ z_ => XS.bipush X72.here hx rfl (hb hby at_227) z_) ?_
  show OWay p e below G T72 (mkF m 229 #[.val (.int p0), .val (.int p1), .val (.int p2), .val (.int v3_1), .val (.int v4_2), .val (.int v5_3), .unset] [(.int (17 : Int32)), (.int v5_3), (.int p1), (.int (17 : Int32)), (.ref b4), (.ref b4)])
  obtain ⟨_, T74, L74, X74, hQ74, st74⟩ := wStatic X72 hx hZ (y := (⟨"com/example/geotide/geotide/MembersSwapPinLaw", "v", "(III)I"⟩ : MethodName)) hown (hw _ (List.mem_of_getElem? (i := 1) rfl)) (hw _ (List.mem_of_getElem? (i := 2) rfl)) (hw _ (List.mem_of_getElem? (i := 3) rfl)) (hw _ (List.mem_of_getElem? (i := 4) rfl)) (by decide) (v_b_c l Z az hw [] p1 v5_3 (17 : Int32) h72 n0 (Nat.le_trans (Nat.le_trans (Nat.le_trans (Nat.le_trans (Nat.le_trans (Nat.le_trans (Nat.le_trans (Nat.le_trans (Nat.le_trans (Nat.le_trans (Nat.le_trans (Nat.le_trans (Nat.le_trans (Nat.le_trans (Nat.le_trans (Nat.le_trans (Nat.le_trans (Nat.le_trans Z0 E4.1) (Keep.of_wr W8).1) (Keep.of_wr W12).1) (Keep.of_wr W16).1) (Keep.of_wr W20).1) (Keep.of_wr W24).1) (Keep.of_wr W28).1) (Keep.of_wr W32).1) (Keep.of_wr W36).1) (Keep.of_wr W40).1) (Keep.of_wr W44).1) (Keep.of_wr W48).1) (Keep.of_wr W52).1) (Keep.of_wr W56).1) (Keep.of_wr W60).1) (Keep.of_wr W64).1) (Keep.of_wr W68).1) (Keep.of_wr W72).1)) 3 (by decide) (by decide) (g := (mkF m 229 #[.val (.int p0), .val (.int p1), .val (.int p2), .val (.int v3_1), .val (.int v4_2), .val (.int v5_3), .unset] [(.int (17 : Int32)), (.int v5_3), (.int p1), (.int (17 : Int32)), (.ref b4), (.ref b4)])) rfl (by rw [hml]; rfl) (argsL := [(.int p1), (.int v5_3), (.int (17 : Int32))]) (rest := [(.int (17 : Int32)), (.ref b4), (.ref b4)]) (lenOf pd__III_I rfl) rfl (by show 2 * 0 + _ ≤ _; exact Nat.le_of_eq rfl) (hb hby at_229) rfl eT72 (by decide) (by decide)
  obtain ⟨rfl, N74q, eq74⟩ := hQ74
  have N74 := Fr.app N72 N74q
  refine ogo st74 ?_
  show OWay p e below G T74 (mkF m 232 #[.val (.int p0), .val (.int p1), .val (.int p2), .val (.int v3_1), .val (.int v4_2), .val (.int v5_3), .unset] [(.int (p1 + ((17 : Int32) * v5_3))), (.int (17 : Int32)), (.ref b4), (.ref b4)])
  obtain ⟨cl_o75, Ar_o75, q_o75, S_o75, N_o75, H_o75, G_o75⟩ := id V_72
  have hin_o75 : ¬ ((17 : Int32) < 0 ∨ cl_o75.slots.size ≤ ((17 : Int32)).toNatClampNeg) := inb_of S_o75 ⟨by decide, by decide⟩
  obtain ⟨T76, h76, X76, eT76, W76, st76⟩ := stI X74 hx hZ eq74 Ar_o75 (j := (17 : Int32)) hin_o75 (g := (mkF m 232 #[.val (.int p0), .val (.int p1), .val (.int p2), .val (.int v3_1), .val (.int v4_2), .val (.int v5_3), .unset] [(.int (p1 + ((17 : Int32) * v5_3))), (.int (17 : Int32)), (.ref b4), (.ref b4)])) rfl rfl (hb hby at_232)
  have K77 : Keep h0 h76 [] := K73.wr W76 (Or.inr sz_b4)
  have V_76 : Arv Z h76 b4 k4 .int (18 : Int32) [(.int (p1 + ((0 : Int32) * v5_3))), (.int (p1 + ((1 : Int32) * v5_3))), (.int (p1 + ((2 : Int32) * v5_3))), (.int (p1 + ((3 : Int32) * v5_3))), (.int (p1 + ((4 : Int32) * v5_3))), (.int (p1 + ((5 : Int32) * v5_3))), (.int (p1 + ((6 : Int32) * v5_3))), (.int (p1 + ((7 : Int32) * v5_3))), (.int (p1 + ((8 : Int32) * v5_3))), (.int (p1 + ((9 : Int32) * v5_3))), (.int (p1 + ((10 : Int32) * v5_3))), (.int (p1 + ((11 : Int32) * v5_3))), (.int (p1 + ((12 : Int32) * v5_3))), (.int (p1 + ((13 : Int32) * v5_3))), (.int (p1 + ((14 : Int32) * v5_3))), (.int (p1 + ((15 : Int32) * v5_3))), (.int (p1 + ((16 : Int32) * v5_3))), (.int (p1 + ((17 : Int32) * v5_3)))] (.int (0 : Int32)) := Arv.set Ar_o75 q_o75 S_o75 N_o75 H_o75 G_o75 rfl W76 17 rfl (Nat.le_of_ble_eq_true rfl)
  have N76 := Fr.snoc X76 N74 g_b4
  refine ogo st76 ?_
  show OWay p e below G T76 (mkF m 233 #[.val (.int p0), .val (.int p1), .val (.int p2), .val (.int v3_1), .val (.int v4_2), .val (.int v5_3), .unset] [(.ref b4)])
  refine ogo (fun _ z_ => XS.astore X76.here hx rfl (hb hby at_233) rfl rfl (l' := #[.val (.int p0), .val (.int p1), .val (.int p2), .val (.int v3_1), .val (.int v4_2), .val (.int v5_3), .val (.ref b4)]) rfl z_) ?_
  show OWay p e below G T76 (mkF m 235 #[.val (.int p0), .val (.int p1), .val (.int p2), .val (.int v3_1), .val (.int v4_2), .val (.int v5_3), .val (.ref b4)] [])
  refine ogo (fun _ z_ => XS.aload X76.here hx rfl (hb hby at_235) rfl rfl z_) ?_
  show OWay p e below G T76 (mkF m 237 #[.val (.int p0), .val (.int p1), .val (.int p2), .val (.int v3_1), .val (.int v4_2), .val (.int v5_3), .val (.ref b4)] [(.ref b4)])
  refine ogo (fun _ z_ => XS.iloadN X76.here hx rfl (hb hby at_237) rfl z_) ?_
  show OWay p e below G T76 (mkF m 238 #[.val (.int p0), .val (.int p1), .val (.int p2), .val (.int v3_1), .val (.int v4_2), .val (.int v5_3), .val (.ref b4)] [(.int v3_1), (.ref b4)])
  refine ogo (fun _ z_ => XS.bipush X76.here hx rfl (hb hby at_238) z_) ?_
  show OWay p e below G T76 (mkF m 240 #[.val (.int p0), .val (.int p1), .val (.int p2), .val (.int v3_1), .val (.int v4_2), .val (.int v5_3), .val (.ref b4)] [(.int (6 : Int32)), (.int v3_1), (.ref b4)])
  refine ogo (fun _ z_ => XS.imul X76.here hx rfl (hb hby at_240) rfl z_) ?_
  show OWay p e below G T76 (mkF m 241 #[.val (.int p0), .val (.int p1), .val (.int p2), .val (.int v3_1), .val (.int v4_2), .val (.int v5_3), .val (.ref b4)] [(.int (v3_1 * (6 : Int32))), (.ref b4)])
  refine ogo (fun _ z_ => XS.iload X76.here hx rfl (hb hby at_241) rfl z_) ?_
  show OWay p e below G T76 (mkF m 243 #[.val (.int p0), .val (.int p1), .val (.int p2), .val (.int v3_1), .val (.int v4_2), .val (.int v5_3), .val (.ref b4)] [(.int v4_2), (.int (v3_1 * (6 : Int32))), (.ref b4)])
  refine ogo (fun _ z_ => XS.bipush X76.here hx rfl (hb hby at_243) z_) ?_
  show OWay p e below G T76 (mkF m 245 #[.val (.int p0), .val (.int p1), .val (.int p2), .val (.int v3_1), .val (.int v4_2), .val (.int v5_3), .val (.ref b4)] [(.int (6 : Int32)), (.int v4_2), (.int (v3_1 * (6 : Int32))), (.ref b4)])
  refine ogo (fun _ z_ => XS.imul X76.here hx rfl (hb hby at_245) rfl z_) ?_
  show OWay p e below G T76 (mkF m 246 #[.val (.int p0), .val (.int p1), .val (.int p2), .val (.int v3_1), .val (.int v4_2), .val (.int v5_3), .val (.ref b4)] [(.int (v4_2 * (6 : Int32))), (.int (v3_1 * (6 : Int32))), (.ref b4)])
  obtain ⟨_, T78, L78, X78, hQ78, st78⟩ := wStatic X76 hx hZ (y := (⟨"com/example/geotide/geotide/Members", "swap", "([III)V"⟩ : MethodName)) hown (hw _ (List.mem_of_getElem? (i := 5) rfl)) (hw _ (List.mem_of_getElem? (i := 6) rfl)) (hw _ (List.mem_of_getElem? (i := 7) rfl)) (hw _ (List.mem_of_getElem? (i := 8) rfl)) (by decide) (swapA_c l Z az hw [] b4 k4 (fun i => (p1 + (i * v5_3))) v3_1 v4_2 h76 n0 (Nat.le_trans (Nat.le_trans (Nat.le_trans (Nat.le_trans (Nat.le_trans (Nat.le_trans (Nat.le_trans (Nat.le_trans (Nat.le_trans (Nat.le_trans (Nat.le_trans (Nat.le_trans (Nat.le_trans (Nat.le_trans (Nat.le_trans (Nat.le_trans (Nat.le_trans (Nat.le_trans (Nat.le_trans Z0 E4.1) (Keep.of_wr W8).1) (Keep.of_wr W12).1) (Keep.of_wr W16).1) (Keep.of_wr W20).1) (Keep.of_wr W24).1) (Keep.of_wr W28).1) (Keep.of_wr W32).1) (Keep.of_wr W36).1) (Keep.of_wr W40).1) (Keep.of_wr W44).1) (Keep.of_wr W48).1) (Keep.of_wr W52).1) (Keep.of_wr W56).1) (Keep.of_wr W60).1) (Keep.of_wr W64).1) (Keep.of_wr W68).1) (Keep.of_wr W72).1) (Keep.of_wr W76).1) V_76 g_b4 (own_m3 _ _ (own_and _) hv3_1) (own_m3 _ _ (own_and _) hv4_2)) 0 (by decide) (by decide) (g := (mkF m 246 #[.val (.int p0), .val (.int p1), .val (.int p2), .val (.int v3_1), .val (.int v4_2), .val (.int v5_3), .val (.ref b4)] [(.int (v4_2 * (6 : Int32))), (.int (v3_1 * (6 : Int32))), (.ref b4)])) rfl (by rw [hml]; rfl) (argsL := [(.ref b4), (.int (v3_1 * (6 : Int32))), (.int (v4_2 * (6 : Int32)))]) (rest := []) (lenOf pd___III_V rfl) rfl (by show 2 * 0 + _ ≤ _; exact Nat.le_of_eq rfl) (hb hby at_246) rfl eT76 (by decide) (by decide)
  obtain ⟨rfl, N78q, Kq78, P79⟩ := hQ78
  have N78 := Fr.app N76 N78q
  have K80 : Keep h0 T78.heap [] := K77.trans Kq78 (allS (Or.inr sz_b4) all0)
  refine ogo st78 ?_
  show OWay p e below G T78 (mkF m 249 #[.val (.int p0), .val (.int p1), .val (.int p2), .val (.int v3_1), .val (.int v4_2), .val (.int v5_3), .val (.ref b4)] [])
  refine ogo (fun _ z_ => XS.aload X78.here hx rfl (hb hby at_249) rfl rfl z_) ?_
  show OWay p e below G T78 (mkF m 251 #[.val (.int p0), .val (.int p1), .val (.int p2), .val (.int v3_1), .val (.int v4_2), .val (.int v5_3), .val (.ref b4)] [(.ref b4)])
  refine ogo (fun _ z_ => XS.iconst X78.here hx rfl (hb hby at_251) z_) ?_
  show OWay p e below G T78 (mkF m 252 #[.val (.int p0), .val (.int p1), .val (.int p2), .val (.int v3_1), .val (.int v4_2), .val (.int v5_3), .val (.ref b4)] [(.int (0 : Int32)), (.ref b4)])
  refine ogo (fun _ z_ => XS.iloadN X78.here hx rfl (hb hby at_252) rfl z_) ?_
  show OWay p e below G T78 (mkF m 253 #[.val (.int p0), .val (.int p1), .val (.int p2), .val (.int v3_1), .val (.int v4_2), .val (.int v5_3), .val (.ref b4)] [(.int v3_1), (.int (0 : Int32)), (.ref b4)])
  refine ogo (fun _ z_ => XS.iload X78.here hx rfl (hb hby at_253) rfl z_) ?_
  show OWay p e below G T78 (mkF m 255 #[.val (.int p0), .val (.int p1), .val (.int p2), .val (.int v3_1), .val (.int v4_2), .val (.int v5_3), .val (.ref b4)] [(.int v4_2), (.int v3_1), (.int (0 : Int32)), (.ref b4)])
  refine ogo (fun _ z_ => XS.iloadN X78.here hx rfl (hb hby at_255) rfl z_) ?_
  show OWay p e below G T78 (mkF m 256 #[.val (.int p0), .val (.int p1), .val (.int p2), .val (.int v3_1), .val (.int v4_2), .val (.int v5_3), .val (.ref b4)] [(.int p1), (.int v4_2), (.int v3_1), (.int (0 : Int32)), (.ref b4)])
  refine ogo (fun _ z_ => XS.iload X78.here hx rfl (hb hby at_256) rfl z_) ?_
  show OWay p e below G T78 (mkF m 258 #[.val (.int p0), .val (.int p1), .val (.int p2), .val (.int v3_1), .val (.int v4_2), .val (.int v5_3), .val (.ref b4)] [(.int v5_3), (.int p1), (.int v4_2), (.int v3_1), (.int (0 : Int32)), (.ref b4)])
  obtain ⟨_, T81, L81, X81, hQ81, st81⟩ := wStatic X78 hx hZ (y := (⟨"com/example/geotide/geotide/MembersSwapPinLaw", "ok", "([IIIIII)Z"⟩ : MethodName)) hown (hw _ (List.mem_of_getElem? (i := 9) rfl)) (hw _ (List.mem_of_getElem? (i := 10) rfl)) (hw _ (List.mem_of_getElem? (i := 3) rfl)) (hw _ (List.mem_of_getElem? (i := 11) rfl)) (by decide) (ok_b_c l Z az hw [] b4 (0 : Int32) v3_1 v4_2 p1 v5_3 ((fun i => (p1 + (i * v5_3))) (src (0 : Int32) v3_1 v4_2)) T78.heap n0 (Nat.le_trans (Nat.le_trans (Nat.le_trans (Nat.le_trans (Nat.le_trans (Nat.le_trans (Nat.le_trans (Nat.le_trans (Nat.le_trans (Nat.le_trans (Nat.le_trans (Nat.le_trans (Nat.le_trans (Nat.le_trans (Nat.le_trans (Nat.le_trans (Nat.le_trans (Nat.le_trans (Nat.le_trans (Nat.le_trans Z0 E4.1) (Keep.of_wr W8).1) (Keep.of_wr W12).1) (Keep.of_wr W16).1) (Keep.of_wr W20).1) (Keep.of_wr W24).1) (Keep.of_wr W28).1) (Keep.of_wr W32).1) (Keep.of_wr W36).1) (Keep.of_wr W40).1) (Keep.of_wr W44).1) (Keep.of_wr W48).1) (Keep.of_wr W52).1) (Keep.of_wr W56).1) (Keep.of_wr W60).1) (Keep.of_wr W64).1) (Keep.of_wr W68).1) (Keep.of_wr W72).1) (Keep.of_wr W76).1) Kq78.1) (own_el P79 (0 : Int32) ((fun i => (p1 + (i * v5_3))) (src (0 : Int32) v3_1 v4_2)) ⟨by decide, by decide⟩ rfl)) 0 (by decide) (by decide) (g := (mkF m 258 #[.val (.int p0), .val (.int p1), .val (.int p2), .val (.int v3_1), .val (.int v4_2), .val (.int v5_3), .val (.ref b4)] [(.int v5_3), (.int p1), (.int v4_2), (.int v3_1), (.int (0 : Int32)), (.ref b4)])) rfl (by rw [hml]; rfl) (argsL := [(.ref b4), (.int (0 : Int32)), (.int v3_1), (.int v4_2), (.int p1), (.int v5_3)]) (rest := []) (lenOf pd___IIIIII_Z rfl) rfl (by show 2 * 0 + _ ≤ _; exact Nat.le_of_eq rfl) (hb hby at_258) rfl rfl (by decide) (by decide)
  obtain ⟨rfl, N81q, eq81⟩ := hQ81
  have N81 := Fr.app N78 N81q
  refine ogo st81 ?_
  show OWay p e below G T81 (mkF m 261 #[.val (.int p0), .val (.int p1), .val (.int p2), .val (.int v3_1), .val (.int v4_2), .val (.int v5_3), .val (.ref b4)] [(.int (if ((fun i => (p1 + (i * v5_3))) (src (0 : Int32) v3_1 v4_2)) = (p1 + ((src (0 : Int32) v3_1 v4_2) * v5_3)) then (1 : Int32) else (0 : Int32)))])
  refine ogo (fun _ z_ => XS.ifNo X81.here hx rfl (hb hby at_261) rfl ((if0 _ _).trans (feq (by rw [if_pos rfl]; decide)).1) z_) ?_
  show OWay p e below G T81 (mkF m 264 #[.val (.int p0), .val (.int p1), .val (.int p2), .val (.int v3_1), .val (.int v4_2), .val (.int v5_3), .val (.ref b4)] [])
  refine ogo (fun _ z_ => XS.aload X81.here hx rfl (hb hby at_264) rfl rfl z_) ?_
  show OWay p e below G T81 (mkF m 266 #[.val (.int p0), .val (.int p1), .val (.int p2), .val (.int v3_1), .val (.int v4_2), .val (.int v5_3), .val (.ref b4)] [(.ref b4)])
  refine ogo (fun _ z_ => XS.iconst X81.here hx rfl (hb hby at_266) z_) ?_
  show OWay p e below G T81 (mkF m 267 #[.val (.int p0), .val (.int p1), .val (.int p2), .val (.int v3_1), .val (.int v4_2), .val (.int v5_3), .val (.ref b4)] [(.int (1 : Int32)), (.ref b4)])
  refine ogo (fun _ z_ => XS.iloadN X81.here hx rfl (hb hby at_267) rfl z_) ?_
  show OWay p e below G T81 (mkF m 268 #[.val (.int p0), .val (.int p1), .val (.int p2), .val (.int v3_1), .val (.int v4_2), .val (.int v5_3), .val (.ref b4)] [(.int v3_1), (.int (1 : Int32)), (.ref b4)])
  refine ogo (fun _ z_ => XS.iload X81.here hx rfl (hb hby at_268) rfl z_) ?_
  show OWay p e below G T81 (mkF m 270 #[.val (.int p0), .val (.int p1), .val (.int p2), .val (.int v3_1), .val (.int v4_2), .val (.int v5_3), .val (.ref b4)] [(.int v4_2), (.int v3_1), (.int (1 : Int32)), (.ref b4)])
  refine ogo (fun _ z_ => XS.iloadN X81.here hx rfl (hb hby at_270) rfl z_) ?_
  show OWay p e below G T81 (mkF m 271 #[.val (.int p0), .val (.int p1), .val (.int p2), .val (.int v3_1), .val (.int v4_2), .val (.int v5_3), .val (.ref b4)] [(.int p1), (.int v4_2), (.int v3_1), (.int (1 : Int32)), (.ref b4)])
  refine ogo (fun _ z_ => XS.iload X81.here hx rfl (hb hby at_271) rfl z_) ?_
  show OWay p e below G T81 (mkF m 273 #[.val (.int p0), .val (.int p1), .val (.int p2), .val (.int v3_1), .val (.int v4_2), .val (.int v5_3), .val (.ref b4)] [(.int v5_3), (.int p1), (.int v4_2), (.int v3_1), (.int (1 : Int32)), (.ref b4)])
  obtain ⟨_, T82, L82, X82, hQ82, st82⟩ := wStatic X81 hx hZ (y := (⟨"com/example/geotide/geotide/MembersSwapPinLaw", "ok", "([IIIIII)Z"⟩ : MethodName)) hown (hw _ (List.mem_of_getElem? (i := 9) rfl)) (hw _ (List.mem_of_getElem? (i := 10) rfl)) (hw _ (List.mem_of_getElem? (i := 3) rfl)) (hw _ (List.mem_of_getElem? (i := 11) rfl)) (by decide) (ok_b_c l Z az hw [] b4 (1 : Int32) v3_1 v4_2 p1 v5_3 ((fun i => (p1 + (i * v5_3))) (src (1 : Int32) v3_1 v4_2)) T78.heap n0 (Nat.le_trans (Nat.le_trans (Nat.le_trans (Nat.le_trans (Nat.le_trans (Nat.le_trans (Nat.le_trans (Nat.le_trans (Nat.le_trans (Nat.le_trans (Nat.le_trans (Nat.le_trans (Nat.le_trans (Nat.le_trans (Nat.le_trans (Nat.le_trans (Nat.le_trans (Nat.le_trans (Nat.le_trans (Nat.le_trans Z0 E4.1) (Keep.of_wr W8).1) (Keep.of_wr W12).1) (Keep.of_wr W16).1) (Keep.of_wr W20).1) (Keep.of_wr W24).1) (Keep.of_wr W28).1) (Keep.of_wr W32).1) (Keep.of_wr W36).1) (Keep.of_wr W40).1) (Keep.of_wr W44).1) (Keep.of_wr W48).1) (Keep.of_wr W52).1) (Keep.of_wr W56).1) (Keep.of_wr W60).1) (Keep.of_wr W64).1) (Keep.of_wr W68).1) (Keep.of_wr W72).1) (Keep.of_wr W76).1) Kq78.1) (own_el P79 (1 : Int32) ((fun i => (p1 + (i * v5_3))) (src (1 : Int32) v3_1 v4_2)) ⟨by decide, by decide⟩ rfl)) 0 (by decide) (by decide) (g := (mkF m 273 #[.val (.int p0), .val (.int p1), .val (.int p2), .val (.int v3_1), .val (.int v4_2), .val (.int v5_3), .val (.ref b4)] [(.int v5_3), (.int p1), (.int v4_2), (.int v3_1), (.int (1 : Int32)), (.ref b4)])) rfl (by rw [hml]; rfl) (argsL := [(.ref b4), (.int (1 : Int32)), (.int v3_1), (.int v4_2), (.int p1), (.int v5_3)]) (rest := []) (lenOf pd___IIIIII_Z rfl) rfl (by show 2 * 0 + _ ≤ _; exact Nat.le_of_eq rfl) (hb hby at_273) rfl eq81 (by decide) (by decide)
  obtain ⟨rfl, N82q, eq82⟩ := hQ82
  have N82 := Fr.app N81 N82q
  refine ogo st82 ?_
  show OWay p e below G T82 (mkF m 276 #[.val (.int p0), .val (.int p1), .val (.int p2), .val (.int v3_1), .val (.int v4_2), .val (.int v5_3), .val (.ref b4)] [(.int (if ((fun i => (p1 + (i * v5_3))) (src (1 : Int32) v3_1 v4_2)) = (p1 + ((src (1 : Int32) v3_1 v4_2) * v5_3)) then (1 : Int32) else (0 : Int32)))])
  refine ogo (fun _ z_ => XS.ifNo X82.here hx rfl (hb hby at_276) rfl ((if0 _ _).trans (feq (by rw [if_pos rfl]; decide)).1) z_) ?_
  show OWay p e below G T82 (mkF m 279 #[.val (.int p0), .val (.int p1), .val (.int p2), .val (.int v3_1), .val (.int v4_2), .val (.int v5_3), .val (.ref b4)] [])
  refine ogo (fun _ z_ => XS.aload X82.here hx rfl (hb hby at_279) rfl rfl z_) ?_
  show OWay p e below G T82 (mkF m 281 #[.val (.int p0), .val (.int p1), .val (.int p2), .val (.int v3_1), .val (.int v4_2), .val (.int v5_3), .val (.ref b4)] [(.ref b4)])
  refine ogo (fun _ z_ => XS.iconst X82.here hx rfl (hb hby at_281) z_) ?_
  show OWay p e below G T82 (mkF m 282 #[.val (.int p0), .val (.int p1), .val (.int p2), .val (.int v3_1), .val (.int v4_2), .val (.int v5_3), .val (.ref b4)] [(.int (2 : Int32)), (.ref b4)])
  refine ogo (fun _ z_ => XS.iloadN X82.here hx rfl (hb hby at_282) rfl z_) ?_
  show OWay p e below G T82 (mkF m 283 #[.val (.int p0), .val (.int p1), .val (.int p2), .val (.int v3_1), .val (.int v4_2), .val (.int v5_3), .val (.ref b4)] [(.int v3_1), (.int (2 : Int32)), (.ref b4)])
  refine ogo (fun _ z_ => XS.iload X82.here hx rfl (hb hby at_283) rfl z_) ?_
  show OWay p e below G T82 (mkF m 285 #[.val (.int p0), .val (.int p1), .val (.int p2), .val (.int v3_1), .val (.int v4_2), .val (.int v5_3), .val (.ref b4)] [(.int v4_2), (.int v3_1), (.int (2 : Int32)), (.ref b4)])
  refine ogo (fun _ z_ => XS.iloadN X82.here hx rfl (hb hby at_285) rfl z_) ?_
  show OWay p e below G T82 (mkF m 286 #[.val (.int p0), .val (.int p1), .val (.int p2), .val (.int v3_1), .val (.int v4_2), .val (.int v5_3), .val (.ref b4)] [(.int p1), (.int v4_2), (.int v3_1), (.int (2 : Int32)), (.ref b4)])
  refine ogo (fun _ z_ => XS.iload X82.here hx rfl (hb hby at_286) rfl z_) ?_
  show OWay p e below G T82 (mkF m 288 #[.val (.int p0), .val (.int p1), .val (.int p2), .val (.int v3_1), .val (.int v4_2), .val (.int v5_3), .val (.ref b4)] [(.int v5_3), (.int p1), (.int v4_2), (.int v3_1), (.int (2 : Int32)), (.ref b4)])
  obtain ⟨_, T83, L83, X83, hQ83, st83⟩ := wStatic X82 hx hZ (y := (⟨"com/example/geotide/geotide/MembersSwapPinLaw", "ok", "([IIIIII)Z"⟩ : MethodName)) hown (hw _ (List.mem_of_getElem? (i := 9) rfl)) (hw _ (List.mem_of_getElem? (i := 10) rfl)) (hw _ (List.mem_of_getElem? (i := 3) rfl)) (hw _ (List.mem_of_getElem? (i := 11) rfl)) (by decide) (ok_b_c l Z az hw [] b4 (2 : Int32) v3_1 v4_2 p1 v5_3 ((fun i => (p1 + (i * v5_3))) (src (2 : Int32) v3_1 v4_2)) T78.heap n0 (Nat.le_trans (Nat.le_trans (Nat.le_trans (Nat.le_trans (Nat.le_trans (Nat.le_trans (Nat.le_trans (Nat.le_trans (Nat.le_trans (Nat.le_trans (Nat.le_trans (Nat.le_trans (Nat.le_trans (Nat.le_trans (Nat.le_trans (Nat.le_trans (Nat.le_trans (Nat.le_trans (Nat.le_trans (Nat.le_trans Z0 E4.1) (Keep.of_wr W8).1) (Keep.of_wr W12).1) (Keep.of_wr W16).1) (Keep.of_wr W20).1) (Keep.of_wr W24).1) (Keep.of_wr W28).1) (Keep.of_wr W32).1) (Keep.of_wr W36).1) (Keep.of_wr W40).1) (Keep.of_wr W44).1) (Keep.of_wr W48).1) (Keep.of_wr W52).1) (Keep.of_wr W56).1) (Keep.of_wr W60).1) (Keep.of_wr W64).1) (Keep.of_wr W68).1) (Keep.of_wr W72).1) (Keep.of_wr W76).1) Kq78.1) (own_el P79 (2 : Int32) ((fun i => (p1 + (i * v5_3))) (src (2 : Int32) v3_1 v4_2)) ⟨by decide, by decide⟩ rfl)) 0 (by decide) (by decide) (g := (mkF m 288 #[.val (.int p0), .val (.int p1), .val (.int p2), .val (.int v3_1), .val (.int v4_2), .val (.int v5_3), .val (.ref b4)] [(.int v5_3), (.int p1), (.int v4_2), (.int v3_1), (.int (2 : Int32)), (.ref b4)])) rfl (by rw [hml]; rfl) (argsL := [(.ref b4), (.int (2 : Int32)), (.int v3_1), (.int v4_2), (.int p1), (.int v5_3)]) (rest := []) (lenOf pd___IIIIII_Z rfl) rfl (by show 2 * 0 + _ ≤ _; exact Nat.le_of_eq rfl) (hb hby at_288) rfl eq82 (by decide) (by decide)
  obtain ⟨rfl, N83q, eq83⟩ := hQ83
  have N83 := Fr.app N82 N83q
  refine ogo st83 ?_
  show OWay p e below G T83 (mkF m 291 #[.val (.int p0), .val (.int p1), .val (.int p2), .val (.int v3_1), .val (.int v4_2), .val (.int v5_3), .val (.ref b4)] [(.int (if ((fun i => (p1 + (i * v5_3))) (src (2 : Int32) v3_1 v4_2)) = (p1 + ((src (2 : Int32) v3_1 v4_2) * v5_3)) then (1 : Int32) else (0 : Int32)))])
  refine ogo (fun _ z_ => XS.ifNo X83.here hx rfl (hb hby at_291) rfl ((if0 _ _).trans (feq (by rw [if_pos rfl]; decide)).1) z_) ?_
  show OWay p e below G T83 (mkF m 294 #[.val (.int p0), .val (.int p1), .val (.int p2), .val (.int v3_1), .val (.int v4_2), .val (.int v5_3), .val (.ref b4)] [])
  refine ogo (fun _ z_ => XS.aload X83.here hx rfl (hb hby at_294) rfl rfl z_) ?_
  show OWay p e below G T83 (mkF m 296 #[.val (.int p0), .val (.int p1), .val (.int p2), .val (.int v3_1), .val (.int v4_2), .val (.int v5_3), .val (.ref b4)] [(.ref b4)])
  refine ogo (fun _ z_ => XS.iconst X83.here hx rfl (hb hby at_296) z_) ?_
  show OWay p e below G T83 (mkF m 297 #[.val (.int p0), .val (.int p1), .val (.int p2), .val (.int v3_1), .val (.int v4_2), .val (.int v5_3), .val (.ref b4)] [(.int (3 : Int32)), (.ref b4)])
  refine ogo (fun _ z_ => XS.iloadN X83.here hx rfl (hb hby at_297) rfl z_) ?_
  show OWay p e below G T83 (mkF m 298 #[.val (.int p0), .val (.int p1), .val (.int p2), .val (.int v3_1), .val (.int v4_2), .val (.int v5_3), .val (.ref b4)] [(.int v3_1), (.int (3 : Int32)), (.ref b4)])
  refine ogo (fun _ z_ => XS.iload X83.here hx rfl (hb hby at_298) rfl z_) ?_
  show OWay p e below G T83 (mkF m 300 #[.val (.int p0), .val (.int p1), .val (.int p2), .val (.int v3_1), .val (.int v4_2), .val (.int v5_3), .val (.ref b4)] [(.int v4_2), (.int v3_1), (.int (3 : Int32)), (.ref b4)])
  refine ogo (fun _ z_ => XS.iloadN X83.here hx rfl (hb hby at_300) rfl z_) ?_
  show OWay p e below G T83 (mkF m 301 #[.val (.int p0), .val (.int p1), .val (.int p2), .val (.int v3_1), .val (.int v4_2), .val (.int v5_3), .val (.ref b4)] [(.int p1), (.int v4_2), (.int v3_1), (.int (3 : Int32)), (.ref b4)])
  refine ogo (fun _ z_ => XS.iload X83.here hx rfl (hb hby at_301) rfl z_) ?_
  show OWay p e below G T83 (mkF m 303 #[.val (.int p0), .val (.int p1), .val (.int p2), .val (.int v3_1), .val (.int v4_2), .val (.int v5_3), .val (.ref b4)] [(.int v5_3), (.int p1), (.int v4_2), (.int v3_1), (.int (3 : Int32)), (.ref b4)])
  obtain ⟨_, T84, L84, X84, hQ84, st84⟩ := wStatic X83 hx hZ (y := (⟨"com/example/geotide/geotide/MembersSwapPinLaw", "ok", "([IIIIII)Z"⟩ : MethodName)) hown (hw _ (List.mem_of_getElem? (i := 9) rfl)) (hw _ (List.mem_of_getElem? (i := 10) rfl)) (hw _ (List.mem_of_getElem? (i := 3) rfl)) (hw _ (List.mem_of_getElem? (i := 11) rfl)) (by decide) (ok_b_c l Z az hw [] b4 (3 : Int32) v3_1 v4_2 p1 v5_3 ((fun i => (p1 + (i * v5_3))) (src (3 : Int32) v3_1 v4_2)) T78.heap n0 (Nat.le_trans (Nat.le_trans (Nat.le_trans (Nat.le_trans (Nat.le_trans (Nat.le_trans (Nat.le_trans (Nat.le_trans (Nat.le_trans (Nat.le_trans (Nat.le_trans (Nat.le_trans (Nat.le_trans (Nat.le_trans (Nat.le_trans (Nat.le_trans (Nat.le_trans (Nat.le_trans (Nat.le_trans (Nat.le_trans Z0 E4.1) (Keep.of_wr W8).1) (Keep.of_wr W12).1) (Keep.of_wr W16).1) (Keep.of_wr W20).1) (Keep.of_wr W24).1) (Keep.of_wr W28).1) (Keep.of_wr W32).1) (Keep.of_wr W36).1) (Keep.of_wr W40).1) (Keep.of_wr W44).1) (Keep.of_wr W48).1) (Keep.of_wr W52).1) (Keep.of_wr W56).1) (Keep.of_wr W60).1) (Keep.of_wr W64).1) (Keep.of_wr W68).1) (Keep.of_wr W72).1) (Keep.of_wr W76).1) Kq78.1) (own_el P79 (3 : Int32) ((fun i => (p1 + (i * v5_3))) (src (3 : Int32) v3_1 v4_2)) ⟨by decide, by decide⟩ rfl)) 0 (by decide) (by decide) (g := (mkF m 303 #[.val (.int p0), .val (.int p1), .val (.int p2), .val (.int v3_1), .val (.int v4_2), .val (.int v5_3), .val (.ref b4)] [(.int v5_3), (.int p1), (.int v4_2), (.int v3_1), (.int (3 : Int32)), (.ref b4)])) rfl (by rw [hml]; rfl) (argsL := [(.ref b4), (.int (3 : Int32)), (.int v3_1), (.int v4_2), (.int p1), (.int v5_3)]) (rest := []) (lenOf pd___IIIIII_Z rfl) rfl (by show 2 * 0 + _ ≤ _; exact Nat.le_of_eq rfl) (hb hby at_303) rfl eq83 (by decide) (by decide)
  obtain ⟨rfl, N84q, eq84⟩ := hQ84
  have N84 := Fr.app N83 N84q
  refine ogo st84 ?_
  show OWay p e below G T84 (mkF m 306 #[.val (.int p0), .val (.int p1), .val (.int p2), .val (.int v3_1), .val (.int v4_2), .val (.int v5_3), .val (.ref b4)] [(.int (if ((fun i => (p1 + (i * v5_3))) (src (3 : Int32) v3_1 v4_2)) = (p1 + ((src (3 : Int32) v3_1 v4_2) * v5_3)) then (1 : Int32) else (0 : Int32)))])
  refine ogo (fun _ z_ => XS.ifNo X84.here hx rfl (hb hby at_306) rfl ((if0 _ _).trans (feq (by rw [if_pos rfl]; decide)).1) z_) ?_
  show OWay p e below G T84 (mkF m 309 #[.val (.int p0), .val (.int p1), .val (.int p2), .val (.int v3_1), .val (.int v4_2), .val (.int v5_3), .val (.ref b4)] [])
  refine ogo (fun _ z_ => XS.aload X84.here hx rfl (hb hby at_309) rfl rfl z_) ?_
  show OWay p e below G T84 (mkF m 311 #[.val (.int p0), .val (.int p1), .val (.int p2), .val (.int v3_1), .val (.int v4_2), .val (.int v5_3), .val (.ref b4)] [(.ref b4)])
  refine ogo (fun _ z_ => XS.iconst X84.here hx rfl (hb hby at_311) z_) ?_
  show OWay p e below G T84 (mkF m 312 #[.val (.int p0), .val (.int p1), .val (.int p2), .val (.int v3_1), .val (.int v4_2), .val (.int v5_3), .val (.ref b4)] [(.int (4 : Int32)), (.ref b4)])
  refine ogo (fun _ z_ => XS.iloadN X84.here hx rfl (hb hby at_312) rfl z_) ?_
  show OWay p e below G T84 (mkF m 313 #[.val (.int p0), .val (.int p1), .val (.int p2), .val (.int v3_1), .val (.int v4_2), .val (.int v5_3), .val (.ref b4)] [(.int v3_1), (.int (4 : Int32)), (.ref b4)])
  refine ogo (fun _ z_ => XS.iload X84.here hx rfl (hb hby at_313) rfl z_) ?_
  show OWay p e below G T84 (mkF m 315 #[.val (.int p0), .val (.int p1), .val (.int p2), .val (.int v3_1), .val (.int v4_2), .val (.int v5_3), .val (.ref b4)] [(.int v4_2), (.int v3_1), (.int (4 : Int32)), (.ref b4)])
  refine ogo (fun _ z_ => XS.iloadN X84.here hx rfl (hb hby at_315) rfl z_) ?_
  show OWay p e below G T84 (mkF m 316 #[.val (.int p0), .val (.int p1), .val (.int p2), .val (.int v3_1), .val (.int v4_2), .val (.int v5_3), .val (.ref b4)] [(.int p1), (.int v4_2), (.int v3_1), (.int (4 : Int32)), (.ref b4)])
  refine ogo (fun _ z_ => XS.iload X84.here hx rfl (hb hby at_316) rfl z_) ?_
  show OWay p e below G T84 (mkF m 318 #[.val (.int p0), .val (.int p1), .val (.int p2), .val (.int v3_1), .val (.int v4_2), .val (.int v5_3), .val (.ref b4)] [(.int v5_3), (.int p1), (.int v4_2), (.int v3_1), (.int (4 : Int32)), (.ref b4)])
  obtain ⟨_, T85, L85, X85, hQ85, st85⟩ := wStatic X84 hx hZ (y := (⟨"com/example/geotide/geotide/MembersSwapPinLaw", "ok", "([IIIIII)Z"⟩ : MethodName)) hown (hw _ (List.mem_of_getElem? (i := 9) rfl)) (hw _ (List.mem_of_getElem? (i := 10) rfl)) (hw _ (List.mem_of_getElem? (i := 3) rfl)) (hw _ (List.mem_of_getElem? (i := 11) rfl)) (by decide) (ok_b_c l Z az hw [] b4 (4 : Int32) v3_1 v4_2 p1 v5_3 ((fun i => (p1 + (i * v5_3))) (src (4 : Int32) v3_1 v4_2)) T78.heap n0 (Nat.le_trans (Nat.le_trans (Nat.le_trans (Nat.le_trans (Nat.le_trans (Nat.le_trans (Nat.le_trans (Nat.le_trans (Nat.le_trans (Nat.le_trans (Nat.le_trans (Nat.le_trans (Nat.le_trans (Nat.le_trans (Nat.le_trans (Nat.le_trans (Nat.le_trans (Nat.le_trans (Nat.le_trans (Nat.le_trans Z0 E4.1) (Keep.of_wr W8).1) (Keep.of_wr W12).1) (Keep.of_wr W16).1) (Keep.of_wr W20).1) (Keep.of_wr W24).1) (Keep.of_wr W28).1) (Keep.of_wr W32).1) (Keep.of_wr W36).1) (Keep.of_wr W40).1) (Keep.of_wr W44).1) (Keep.of_wr W48).1) (Keep.of_wr W52).1) (Keep.of_wr W56).1) (Keep.of_wr W60).1) (Keep.of_wr W64).1) (Keep.of_wr W68).1) (Keep.of_wr W72).1) (Keep.of_wr W76).1) Kq78.1) (own_el P79 (4 : Int32) ((fun i => (p1 + (i * v5_3))) (src (4 : Int32) v3_1 v4_2)) ⟨by decide, by decide⟩ rfl)) 0 (by decide) (by decide) (g := (mkF m 318 #[.val (.int p0), .val (.int p1), .val (.int p2), .val (.int v3_1), .val (.int v4_2), .val (.int v5_3), .val (.ref b4)] [(.int v5_3), (.int p1), (.int v4_2), (.int v3_1), (.int (4 : Int32)), (.ref b4)])) rfl (by rw [hml]; rfl) (argsL := [(.ref b4), (.int (4 : Int32)), (.int v3_1), (.int v4_2), (.int p1), (.int v5_3)]) (rest := []) (lenOf pd___IIIIII_Z rfl) rfl (by show 2 * 0 + _ ≤ _; exact Nat.le_of_eq rfl) (hb hby at_318) rfl eq84 (by decide) (by decide)
  obtain ⟨rfl, N85q, eq85⟩ := hQ85
  have N85 := Fr.app N84 N85q
  refine ogo st85 ?_
  show OWay p e below G T85 (mkF m 321 #[.val (.int p0), .val (.int p1), .val (.int p2), .val (.int v3_1), .val (.int v4_2), .val (.int v5_3), .val (.ref b4)] [(.int (if ((fun i => (p1 + (i * v5_3))) (src (4 : Int32) v3_1 v4_2)) = (p1 + ((src (4 : Int32) v3_1 v4_2) * v5_3)) then (1 : Int32) else (0 : Int32)))])
  refine ogo (fun _ z_ => XS.ifNo X85.here hx rfl (hb hby at_321) rfl ((if0 _ _).trans (feq (by rw [if_pos rfl]; decide)).1) z_) ?_
  show OWay p e below G T85 (mkF m 324 #[.val (.int p0), .val (.int p1), .val (.int p2), .val (.int v3_1), .val (.int v4_2), .val (.int v5_3), .val (.ref b4)] [])
  refine ogo (fun _ z_ => XS.aload X85.here hx rfl (hb hby at_324) rfl rfl z_) ?_
  show OWay p e below G T85 (mkF m 326 #[.val (.int p0), .val (.int p1), .val (.int p2), .val (.int v3_1), .val (.int v4_2), .val (.int v5_3), .val (.ref b4)] [(.ref b4)])
  refine ogo (fun _ z_ => XS.iconst X85.here hx rfl (hb hby at_326) z_) ?_
  show OWay p e below G T85 (mkF m 327 #[.val (.int p0), .val (.int p1), .val (.int p2), .val (.int v3_1), .val (.int v4_2), .val (.int v5_3), .val (.ref b4)] [(.int (5 : Int32)), (.ref b4)])
  refine ogo (fun _ z_ => XS.iloadN X85.here hx rfl (hb hby at_327) rfl z_) ?_
  show OWay p e below G T85 (mkF m 328 #[.val (.int p0), .val (.int p1), .val (.int p2), .val (.int v3_1), .val (.int v4_2), .val (.int v5_3), .val (.ref b4)] [(.int v3_1), (.int (5 : Int32)), (.ref b4)])
  refine ogo (fun _ z_ => XS.iload X85.here hx rfl (hb hby at_328) rfl z_) ?_
  show OWay p e below G T85 (mkF m 330 #[.val (.int p0), .val (.int p1), .val (.int p2), .val (.int v3_1), .val (.int v4_2), .val (.int v5_3), .val (.ref b4)] [(.int v4_2), (.int v3_1), (.int (5 : Int32)), (.ref b4)])
  refine ogo (fun _ z_ => XS.iloadN X85.here hx rfl (hb hby at_330) rfl z_) ?_
  show OWay p e below G T85 (mkF m 331 #[.val (.int p0), .val (.int p1), .val (.int p2), .val (.int v3_1), .val (.int v4_2), .val (.int v5_3), .val (.ref b4)] [(.int p1), (.int v4_2), (.int v3_1), (.int (5 : Int32)), (.ref b4)])
  refine ogo (fun _ z_ => XS.iload X85.here hx rfl (hb hby at_331) rfl z_) ?_
  show OWay p e below G T85 (mkF m 333 #[.val (.int p0), .val (.int p1), .val (.int p2), .val (.int v3_1), .val (.int v4_2), .val (.int v5_3), .val (.ref b4)] [(.int v5_3), (.int p1), (.int v4_2), (.int v3_1), (.int (5 : Int32)), (.ref b4)])
  obtain ⟨_, T86, L86, X86, hQ86, st86⟩ := wStatic X85 hx hZ (y := (⟨"com/example/geotide/geotide/MembersSwapPinLaw", "ok", "([IIIIII)Z"⟩ : MethodName)) hown (hw _ (List.mem_of_getElem? (i := 9) rfl)) (hw _ (List.mem_of_getElem? (i := 10) rfl)) (hw _ (List.mem_of_getElem? (i := 3) rfl)) (hw _ (List.mem_of_getElem? (i := 11) rfl)) (by decide) (ok_b_c l Z az hw [] b4 (5 : Int32) v3_1 v4_2 p1 v5_3 ((fun i => (p1 + (i * v5_3))) (src (5 : Int32) v3_1 v4_2)) T78.heap n0 (Nat.le_trans (Nat.le_trans (Nat.le_trans (Nat.le_trans (Nat.le_trans (Nat.le_trans (Nat.le_trans (Nat.le_trans (Nat.le_trans (Nat.le_trans (Nat.le_trans (Nat.le_trans (Nat.le_trans (Nat.le_trans (Nat.le_trans (Nat.le_trans (Nat.le_trans (Nat.le_trans (Nat.le_trans (Nat.le_trans Z0 E4.1) (Keep.of_wr W8).1) (Keep.of_wr W12).1) (Keep.of_wr W16).1) (Keep.of_wr W20).1) (Keep.of_wr W24).1) (Keep.of_wr W28).1) (Keep.of_wr W32).1) (Keep.of_wr W36).1) (Keep.of_wr W40).1) (Keep.of_wr W44).1) (Keep.of_wr W48).1) (Keep.of_wr W52).1) (Keep.of_wr W56).1) (Keep.of_wr W60).1) (Keep.of_wr W64).1) (Keep.of_wr W68).1) (Keep.of_wr W72).1) (Keep.of_wr W76).1) Kq78.1) (own_el P79 (5 : Int32) ((fun i => (p1 + (i * v5_3))) (src (5 : Int32) v3_1 v4_2)) ⟨by decide, by decide⟩ rfl)) 0 (by decide) (by decide) (g := (mkF m 333 #[.val (.int p0), .val (.int p1), .val (.int p2), .val (.int v3_1), .val (.int v4_2), .val (.int v5_3), .val (.ref b4)] [(.int v5_3), (.int p1), (.int v4_2), (.int v3_1), (.int (5 : Int32)), (.ref b4)])) rfl (by rw [hml]; rfl) (argsL := [(.ref b4), (.int (5 : Int32)), (.int v3_1), (.int v4_2), (.int p1), (.int v5_3)]) (rest := []) (lenOf pd___IIIIII_Z rfl) rfl (by show 2 * 0 + _ ≤ _; exact Nat.le_of_eq rfl) (hb hby at_333) rfl eq85 (by decide) (by decide)
  obtain ⟨rfl, N86q, eq86⟩ := hQ86
  have N86 := Fr.app N85 N86q
  refine ogo st86 ?_
  show OWay p e below G T86 (mkF m 336 #[.val (.int p0), .val (.int p1), .val (.int p2), .val (.int v3_1), .val (.int v4_2), .val (.int v5_3), .val (.ref b4)] [(.int (if ((fun i => (p1 + (i * v5_3))) (src (5 : Int32) v3_1 v4_2)) = (p1 + ((src (5 : Int32) v3_1 v4_2) * v5_3)) then (1 : Int32) else (0 : Int32)))])
  refine ogo (fun _ z_ => XS.ifNo X86.here hx rfl (hb hby at_336) rfl ((if0 _ _).trans (feq (by rw [if_pos rfl]; decide)).1) z_) ?_
  show OWay p e below G T86 (mkF m 339 #[.val (.int p0), .val (.int p1), .val (.int p2), .val (.int v3_1), .val (.int v4_2), .val (.int v5_3), .val (.ref b4)] [])
  refine ogo (fun _ z_ => XS.aload X86.here hx rfl (hb hby at_339) rfl rfl z_) ?_
  show OWay p e below G T86 (mkF m 341 #[.val (.int p0), .val (.int p1), .val (.int p2), .val (.int v3_1), .val (.int v4_2), .val (.int v5_3), .val (.ref b4)] [(.ref b4)])
  refine ogo (fun _ z_ => XS.bipush X86.here hx rfl (hb hby at_341) z_) ?_
  show OWay p e below G T86 (mkF m 343 #[.val (.int p0), .val (.int p1), .val (.int p2), .val (.int v3_1), .val (.int v4_2), .val (.int v5_3), .val (.ref b4)] [(.int (6 : Int32)), (.ref b4)])
  refine ogo (fun _ z_ => XS.iloadN X86.here hx rfl (hb hby at_343) rfl z_) ?_
  show OWay p e below G T86 (mkF m 344 #[.val (.int p0), .val (.int p1), .val (.int p2), .val (.int v3_1), .val (.int v4_2), .val (.int v5_3), .val (.ref b4)] [(.int v3_1), (.int (6 : Int32)), (.ref b4)])
  refine ogo (fun _ z_ => XS.iload X86.here hx rfl (hb hby at_344) rfl z_) ?_
  show OWay p e below G T86 (mkF m 346 #[.val (.int p0), .val (.int p1), .val (.int p2), .val (.int v3_1), .val (.int v4_2), .val (.int v5_3), .val (.ref b4)] [(.int v4_2), (.int v3_1), (.int (6 : Int32)), (.ref b4)])
  refine ogo (fun _ z_ => XS.iloadN X86.here hx rfl (hb hby at_346) rfl z_) ?_
  show OWay p e below G T86 (mkF m 347 #[.val (.int p0), .val (.int p1), .val (.int p2), .val (.int v3_1), .val (.int v4_2), .val (.int v5_3), .val (.ref b4)] [(.int p1), (.int v4_2), (.int v3_1), (.int (6 : Int32)), (.ref b4)])
  refine ogo (fun _ z_ => XS.iload X86.here hx rfl (hb hby at_347) rfl z_) ?_
  show OWay p e below G T86 (mkF m 349 #[.val (.int p0), .val (.int p1), .val (.int p2), .val (.int v3_1), .val (.int v4_2), .val (.int v5_3), .val (.ref b4)] [(.int v5_3), (.int p1), (.int v4_2), (.int v3_1), (.int (6 : Int32)), (.ref b4)])
  obtain ⟨_, T87, L87, X87, hQ87, st87⟩ := wStatic X86 hx hZ (y := (⟨"com/example/geotide/geotide/MembersSwapPinLaw", "ok", "([IIIIII)Z"⟩ : MethodName)) hown (hw _ (List.mem_of_getElem? (i := 9) rfl)) (hw _ (List.mem_of_getElem? (i := 10) rfl)) (hw _ (List.mem_of_getElem? (i := 3) rfl)) (hw _ (List.mem_of_getElem? (i := 11) rfl)) (by decide) (ok_b_c l Z az hw [] b4 (6 : Int32) v3_1 v4_2 p1 v5_3 ((fun i => (p1 + (i * v5_3))) (src (6 : Int32) v3_1 v4_2)) T78.heap n0 (Nat.le_trans (Nat.le_trans (Nat.le_trans (Nat.le_trans (Nat.le_trans (Nat.le_trans (Nat.le_trans (Nat.le_trans (Nat.le_trans (Nat.le_trans (Nat.le_trans (Nat.le_trans (Nat.le_trans (Nat.le_trans (Nat.le_trans (Nat.le_trans (Nat.le_trans (Nat.le_trans (Nat.le_trans (Nat.le_trans Z0 E4.1) (Keep.of_wr W8).1) (Keep.of_wr W12).1) (Keep.of_wr W16).1) (Keep.of_wr W20).1) (Keep.of_wr W24).1) (Keep.of_wr W28).1) (Keep.of_wr W32).1) (Keep.of_wr W36).1) (Keep.of_wr W40).1) (Keep.of_wr W44).1) (Keep.of_wr W48).1) (Keep.of_wr W52).1) (Keep.of_wr W56).1) (Keep.of_wr W60).1) (Keep.of_wr W64).1) (Keep.of_wr W68).1) (Keep.of_wr W72).1) (Keep.of_wr W76).1) Kq78.1) (own_el P79 (6 : Int32) ((fun i => (p1 + (i * v5_3))) (src (6 : Int32) v3_1 v4_2)) ⟨by decide, by decide⟩ rfl)) 0 (by decide) (by decide) (g := (mkF m 349 #[.val (.int p0), .val (.int p1), .val (.int p2), .val (.int v3_1), .val (.int v4_2), .val (.int v5_3), .val (.ref b4)] [(.int v5_3), (.int p1), (.int v4_2), (.int v3_1), (.int (6 : Int32)), (.ref b4)])) rfl (by rw [hml]; rfl) (argsL := [(.ref b4), (.int (6 : Int32)), (.int v3_1), (.int v4_2), (.int p1), (.int v5_3)]) (rest := []) (lenOf pd___IIIIII_Z rfl) rfl (by show 2 * 0 + _ ≤ _; exact Nat.le_of_eq rfl) (hb hby at_349) rfl eq86 (by decide) (by decide)
  obtain ⟨rfl, N87q, eq87⟩ := hQ87
  have N87 := Fr.app N86 N87q
  refine ogo st87 ?_
  show OWay p e below G T87 (mkF m 352 #[.val (.int p0), .val (.int p1), .val (.int p2), .val (.int v3_1), .val (.int v4_2), .val (.int v5_3), .val (.ref b4)] [(.int (if ((fun i => (p1 + (i * v5_3))) (src (6 : Int32) v3_1 v4_2)) = (p1 + ((src (6 : Int32) v3_1 v4_2) * v5_3)) then (1 : Int32) else (0 : Int32)))])
  refine ogo (fun _ z_ => XS.ifNo X87.here hx rfl (hb hby at_352) rfl ((if0 _ _).trans (feq (by rw [if_pos rfl]; decide)).1) z_) ?_
  show OWay p e below G T87 (mkF m 355 #[.val (.int p0), .val (.int p1), .val (.int p2), .val (.int v3_1), .val (.int v4_2), .val (.int v5_3), .val (.ref b4)] [])
  refine ogo (fun _ z_ => XS.aload X87.here hx rfl (hb hby at_355) rfl rfl z_) ?_
  show OWay p e below G T87 (mkF m 357 #[.val (.int p0), .val (.int p1), .val (.int p2), .val (.int v3_1), .val (.int v4_2), .val (.int v5_3), .val (.ref b4)] [(.ref b4)])
  refine ogo (fun _ z_ => XS.bipush X87.here hx rfl (hb hby at_357) z_) ?_
  show OWay p e below G T87 (mkF m 359 #[.val (.int p0), .val (.int p1), .val (.int p2), .val (.int v3_1), .val (.int v4_2), .val (.int v5_3), .val (.ref b4)] [(.int (7 : Int32)), (.ref b4)])
  refine ogo (fun _ z_ => XS.iloadN X87.here hx rfl (hb hby at_359) rfl z_) ?_
  show OWay p e below G T87 (mkF m 360 #[.val (.int p0), .val (.int p1), .val (.int p2), .val (.int v3_1), .val (.int v4_2), .val (.int v5_3), .val (.ref b4)] [(.int v3_1), (.int (7 : Int32)), (.ref b4)])
  refine ogo (fun _ z_ => XS.iload X87.here hx rfl (hb hby at_360) rfl z_) ?_
  show OWay p e below G T87 (mkF m 362 #[.val (.int p0), .val (.int p1), .val (.int p2), .val (.int v3_1), .val (.int v4_2), .val (.int v5_3), .val (.ref b4)] [(.int v4_2), (.int v3_1), (.int (7 : Int32)), (.ref b4)])
  refine ogo (fun _ z_ => XS.iloadN X87.here hx rfl (hb hby at_362) rfl z_) ?_
  show OWay p e below G T87 (mkF m 363 #[.val (.int p0), .val (.int p1), .val (.int p2), .val (.int v3_1), .val (.int v4_2), .val (.int v5_3), .val (.ref b4)] [(.int p1), (.int v4_2), (.int v3_1), (.int (7 : Int32)), (.ref b4)])
  refine ogo (fun _ z_ => XS.iload X87.here hx rfl (hb hby at_363) rfl z_) ?_
  show OWay p e below G T87 (mkF m 365 #[.val (.int p0), .val (.int p1), .val (.int p2), .val (.int v3_1), .val (.int v4_2), .val (.int v5_3), .val (.ref b4)] [(.int v5_3), (.int p1), (.int v4_2), (.int v3_1), (.int (7 : Int32)), (.ref b4)])
  obtain ⟨_, T88, L88, X88, hQ88, st88⟩ := wStatic X87 hx hZ (y := (⟨"com/example/geotide/geotide/MembersSwapPinLaw", "ok", "([IIIIII)Z"⟩ : MethodName)) hown (hw _ (List.mem_of_getElem? (i := 9) rfl)) (hw _ (List.mem_of_getElem? (i := 10) rfl)) (hw _ (List.mem_of_getElem? (i := 3) rfl)) (hw _ (List.mem_of_getElem? (i := 11) rfl)) (by decide) (ok_b_c l Z az hw [] b4 (7 : Int32) v3_1 v4_2 p1 v5_3 ((fun i => (p1 + (i * v5_3))) (src (7 : Int32) v3_1 v4_2)) T78.heap n0 (Nat.le_trans (Nat.le_trans (Nat.le_trans (Nat.le_trans (Nat.le_trans (Nat.le_trans (Nat.le_trans (Nat.le_trans (Nat.le_trans (Nat.le_trans (Nat.le_trans (Nat.le_trans (Nat.le_trans (Nat.le_trans (Nat.le_trans (Nat.le_trans (Nat.le_trans (Nat.le_trans (Nat.le_trans (Nat.le_trans Z0 E4.1) (Keep.of_wr W8).1) (Keep.of_wr W12).1) (Keep.of_wr W16).1) (Keep.of_wr W20).1) (Keep.of_wr W24).1) (Keep.of_wr W28).1) (Keep.of_wr W32).1) (Keep.of_wr W36).1) (Keep.of_wr W40).1) (Keep.of_wr W44).1) (Keep.of_wr W48).1) (Keep.of_wr W52).1) (Keep.of_wr W56).1) (Keep.of_wr W60).1) (Keep.of_wr W64).1) (Keep.of_wr W68).1) (Keep.of_wr W72).1) (Keep.of_wr W76).1) Kq78.1) (own_el P79 (7 : Int32) ((fun i => (p1 + (i * v5_3))) (src (7 : Int32) v3_1 v4_2)) ⟨by decide, by decide⟩ rfl)) 0 (by decide) (by decide) (g := (mkF m 365 #[.val (.int p0), .val (.int p1), .val (.int p2), .val (.int v3_1), .val (.int v4_2), .val (.int v5_3), .val (.ref b4)] [(.int v5_3), (.int p1), (.int v4_2), (.int v3_1), (.int (7 : Int32)), (.ref b4)])) rfl (by rw [hml]; rfl) (argsL := [(.ref b4), (.int (7 : Int32)), (.int v3_1), (.int v4_2), (.int p1), (.int v5_3)]) (rest := []) (lenOf pd___IIIIII_Z rfl) rfl (by show 2 * 0 + _ ≤ _; exact Nat.le_of_eq rfl) (hb hby at_365) rfl eq87 (by decide) (by decide)
  obtain ⟨rfl, N88q, eq88⟩ := hQ88
  have N88 := Fr.app N87 N88q
  refine ogo st88 ?_
  show OWay p e below G T88 (mkF m 368 #[.val (.int p0), .val (.int p1), .val (.int p2), .val (.int v3_1), .val (.int v4_2), .val (.int v5_3), .val (.ref b4)] [(.int (if ((fun i => (p1 + (i * v5_3))) (src (7 : Int32) v3_1 v4_2)) = (p1 + ((src (7 : Int32) v3_1 v4_2) * v5_3)) then (1 : Int32) else (0 : Int32)))])
  refine ogo (fun _ z_ => XS.ifNo X88.here hx rfl (hb hby at_368) rfl ((if0 _ _).trans (feq (by rw [if_pos rfl]; decide)).1) z_) ?_
  show OWay p e below G T88 (mkF m 371 #[.val (.int p0), .val (.int p1), .val (.int p2), .val (.int v3_1), .val (.int v4_2), .val (.int v5_3), .val (.ref b4)] [])
  refine ogo (fun _ z_ => XS.aload X88.here hx rfl (hb hby at_371) rfl rfl z_) ?_
  show OWay p e below G T88 (mkF m 373 #[.val (.int p0), .val (.int p1), .val (.int p2), .val (.int v3_1), .val (.int v4_2), .val (.int v5_3), .val (.ref b4)] [(.ref b4)])
  refine ogo (fun _ z_ => XS.bipush X88.here hx rfl (hb hby at_373) z_) ?_
  show OWay p e below G T88 (mkF m 375 #[.val (.int p0), .val (.int p1), .val (.int p2), .val (.int v3_1), .val (.int v4_2), .val (.int v5_3), .val (.ref b4)] [(.int (8 : Int32)), (.ref b4)])
  refine ogo (fun _ z_ => XS.iloadN X88.here hx rfl (hb hby at_375) rfl z_) ?_
  show OWay p e below G T88 (mkF m 376 #[.val (.int p0), .val (.int p1), .val (.int p2), .val (.int v3_1), .val (.int v4_2), .val (.int v5_3), .val (.ref b4)] [(.int v3_1), (.int (8 : Int32)), (.ref b4)])
  refine ogo (fun _ z_ => XS.iload X88.here hx rfl (hb hby at_376) rfl z_) ?_
  show OWay p e below G T88 (mkF m 378 #[.val (.int p0), .val (.int p1), .val (.int p2), .val (.int v3_1), .val (.int v4_2), .val (.int v5_3), .val (.ref b4)] [(.int v4_2), (.int v3_1), (.int (8 : Int32)), (.ref b4)])
  refine ogo (fun _ z_ => XS.iloadN X88.here hx rfl (hb hby at_378) rfl z_) ?_
  show OWay p e below G T88 (mkF m 379 #[.val (.int p0), .val (.int p1), .val (.int p2), .val (.int v3_1), .val (.int v4_2), .val (.int v5_3), .val (.ref b4)] [(.int p1), (.int v4_2), (.int v3_1), (.int (8 : Int32)), (.ref b4)])
  refine ogo (fun _ z_ => XS.iload X88.here hx rfl (hb hby at_379) rfl z_) ?_
  show OWay p e below G T88 (mkF m 381 #[.val (.int p0), .val (.int p1), .val (.int p2), .val (.int v3_1), .val (.int v4_2), .val (.int v5_3), .val (.ref b4)] [(.int v5_3), (.int p1), (.int v4_2), (.int v3_1), (.int (8 : Int32)), (.ref b4)])
  obtain ⟨_, T89, L89, X89, hQ89, st89⟩ := wStatic X88 hx hZ (y := (⟨"com/example/geotide/geotide/MembersSwapPinLaw", "ok", "([IIIIII)Z"⟩ : MethodName)) hown (hw _ (List.mem_of_getElem? (i := 9) rfl)) (hw _ (List.mem_of_getElem? (i := 10) rfl)) (hw _ (List.mem_of_getElem? (i := 3) rfl)) (hw _ (List.mem_of_getElem? (i := 11) rfl)) (by decide) (ok_b_c l Z az hw [] b4 (8 : Int32) v3_1 v4_2 p1 v5_3 ((fun i => (p1 + (i * v5_3))) (src (8 : Int32) v3_1 v4_2)) T78.heap n0 (Nat.le_trans (Nat.le_trans (Nat.le_trans (Nat.le_trans (Nat.le_trans (Nat.le_trans (Nat.le_trans (Nat.le_trans (Nat.le_trans (Nat.le_trans (Nat.le_trans (Nat.le_trans (Nat.le_trans (Nat.le_trans (Nat.le_trans (Nat.le_trans (Nat.le_trans (Nat.le_trans (Nat.le_trans (Nat.le_trans Z0 E4.1) (Keep.of_wr W8).1) (Keep.of_wr W12).1) (Keep.of_wr W16).1) (Keep.of_wr W20).1) (Keep.of_wr W24).1) (Keep.of_wr W28).1) (Keep.of_wr W32).1) (Keep.of_wr W36).1) (Keep.of_wr W40).1) (Keep.of_wr W44).1) (Keep.of_wr W48).1) (Keep.of_wr W52).1) (Keep.of_wr W56).1) (Keep.of_wr W60).1) (Keep.of_wr W64).1) (Keep.of_wr W68).1) (Keep.of_wr W72).1) (Keep.of_wr W76).1) Kq78.1) (own_el P79 (8 : Int32) ((fun i => (p1 + (i * v5_3))) (src (8 : Int32) v3_1 v4_2)) ⟨by decide, by decide⟩ rfl)) 0 (by decide) (by decide) (g := (mkF m 381 #[.val (.int p0), .val (.int p1), .val (.int p2), .val (.int v3_1), .val (.int v4_2), .val (.int v5_3), .val (.ref b4)] [(.int v5_3), (.int p1), (.int v4_2), (.int v3_1), (.int (8 : Int32)), (.ref b4)])) rfl (by rw [hml]; rfl) (argsL := [(.ref b4), (.int (8 : Int32)), (.int v3_1), (.int v4_2), (.int p1), (.int v5_3)]) (rest := []) (lenOf pd___IIIIII_Z rfl) rfl (by show 2 * 0 + _ ≤ _; exact Nat.le_of_eq rfl) (hb hby at_381) rfl eq88 (by decide) (by decide)
  obtain ⟨rfl, N89q, eq89⟩ := hQ89
  have N89 := Fr.app N88 N89q
  refine ogo st89 ?_
  show OWay p e below G T89 (mkF m 384 #[.val (.int p0), .val (.int p1), .val (.int p2), .val (.int v3_1), .val (.int v4_2), .val (.int v5_3), .val (.ref b4)] [(.int (if ((fun i => (p1 + (i * v5_3))) (src (8 : Int32) v3_1 v4_2)) = (p1 + ((src (8 : Int32) v3_1 v4_2) * v5_3)) then (1 : Int32) else (0 : Int32)))])
  refine ogo (fun _ z_ => XS.ifNo X89.here hx rfl (hb hby at_384) rfl ((if0 _ _).trans (feq (by rw [if_pos rfl]; decide)).1) z_) ?_
  show OWay p e below G T89 (mkF m 387 #[.val (.int p0), .val (.int p1), .val (.int p2), .val (.int v3_1), .val (.int v4_2), .val (.int v5_3), .val (.ref b4)] [])
  refine ogo (fun _ z_ => XS.aload X89.here hx rfl (hb hby at_387) rfl rfl z_) ?_
  show OWay p e below G T89 (mkF m 389 #[.val (.int p0), .val (.int p1), .val (.int p2), .val (.int v3_1), .val (.int v4_2), .val (.int v5_3), .val (.ref b4)] [(.ref b4)])
  refine ogo (fun _ z_ => XS.bipush X89.here hx rfl (hb hby at_389) z_) ?_
  show OWay p e below G T89 (mkF m 391 #[.val (.int p0), .val (.int p1), .val (.int p2), .val (.int v3_1), .val (.int v4_2), .val (.int v5_3), .val (.ref b4)] [(.int (9 : Int32)), (.ref b4)])
  refine ogo (fun _ z_ => XS.iloadN X89.here hx rfl (hb hby at_391) rfl z_) ?_
  show OWay p e below G T89 (mkF m 392 #[.val (.int p0), .val (.int p1), .val (.int p2), .val (.int v3_1), .val (.int v4_2), .val (.int v5_3), .val (.ref b4)] [(.int v3_1), (.int (9 : Int32)), (.ref b4)])
  refine ogo (fun _ z_ => XS.iload X89.here hx rfl (hb hby at_392) rfl z_) ?_
  show OWay p e below G T89 (mkF m 394 #[.val (.int p0), .val (.int p1), .val (.int p2), .val (.int v3_1), .val (.int v4_2), .val (.int v5_3), .val (.ref b4)] [(.int v4_2), (.int v3_1), (.int (9 : Int32)), (.ref b4)])
  refine ogo (fun _ z_ => XS.iloadN X89.here hx rfl (hb hby at_394) rfl z_) ?_
  show OWay p e below G T89 (mkF m 395 #[.val (.int p0), .val (.int p1), .val (.int p2), .val (.int v3_1), .val (.int v4_2), .val (.int v5_3), .val (.ref b4)] [(.int p1), (.int v4_2), (.int v3_1), (.int (9 : Int32)), (.ref b4)])
  refine ogo (fun _ z_ => XS.iload X89.here hx rfl (hb hby at_395) rfl z_) ?_
  show OWay p e below G T89 (mkF m 397 #[.val (.int p0), .val (.int p1), .val (.int p2), .val (.int v3_1), .val (.int v4_2), .val (.int v5_3), .val (.ref b4)] [(.int v5_3), (.int p1), (.int v4_2), (.int v3_1), (.int (9 : Int32)), (.ref b4)])
  obtain ⟨_, T90, L90, X90, hQ90, st90⟩ := wStatic X89 hx hZ (y := (⟨"com/example/geotide/geotide/MembersSwapPinLaw", "ok", "([IIIIII)Z"⟩ : MethodName)) hown (hw _ (List.mem_of_getElem? (i := 9) rfl)) (hw _ (List.mem_of_getElem? (i := 10) rfl)) (hw _ (List.mem_of_getElem? (i := 3) rfl)) (hw _ (List.mem_of_getElem? (i := 11) rfl)) (by decide) (ok_b_c l Z az hw [] b4 (9 : Int32) v3_1 v4_2 p1 v5_3 ((fun i => (p1 + (i * v5_3))) (src (9 : Int32) v3_1 v4_2)) T78.heap n0 (Nat.le_trans (Nat.le_trans (Nat.le_trans (Nat.le_trans (Nat.le_trans (Nat.le_trans (Nat.le_trans (Nat.le_trans (Nat.le_trans (Nat.le_trans (Nat.le_trans (Nat.le_trans (Nat.le_trans (Nat.le_trans (Nat.le_trans (Nat.le_trans (Nat.le_trans (Nat.le_trans (Nat.le_trans (Nat.le_trans Z0 E4.1) (Keep.of_wr W8).1) (Keep.of_wr W12).1) (Keep.of_wr W16).1) (Keep.of_wr W20).1) (Keep.of_wr W24).1) (Keep.of_wr W28).1) (Keep.of_wr W32).1) (Keep.of_wr W36).1) (Keep.of_wr W40).1) (Keep.of_wr W44).1) (Keep.of_wr W48).1) (Keep.of_wr W52).1) (Keep.of_wr W56).1) (Keep.of_wr W60).1) (Keep.of_wr W64).1) (Keep.of_wr W68).1) (Keep.of_wr W72).1) (Keep.of_wr W76).1) Kq78.1) (own_el P79 (9 : Int32) ((fun i => (p1 + (i * v5_3))) (src (9 : Int32) v3_1 v4_2)) ⟨by decide, by decide⟩ rfl)) 0 (by decide) (by decide) (g := (mkF m 397 #[.val (.int p0), .val (.int p1), .val (.int p2), .val (.int v3_1), .val (.int v4_2), .val (.int v5_3), .val (.ref b4)] [(.int v5_3), (.int p1), (.int v4_2), (.int v3_1), (.int (9 : Int32)), (.ref b4)])) rfl (by rw [hml]; rfl) (argsL := [(.ref b4), (.int (9 : Int32)), (.int v3_1), (.int v4_2), (.int p1), (.int v5_3)]) (rest := []) (lenOf pd___IIIIII_Z rfl) rfl (by show 2 * 0 + _ ≤ _; exact Nat.le_of_eq rfl) (hb hby at_397) rfl eq89 (by decide) (by decide)
  obtain ⟨rfl, N90q, eq90⟩ := hQ90
  have N90 := Fr.app N89 N90q
  refine ogo st90 ?_
  show OWay p e below G T90 (mkF m 400 #[.val (.int p0), .val (.int p1), .val (.int p2), .val (.int v3_1), .val (.int v4_2), .val (.int v5_3), .val (.ref b4)] [(.int (if ((fun i => (p1 + (i * v5_3))) (src (9 : Int32) v3_1 v4_2)) = (p1 + ((src (9 : Int32) v3_1 v4_2) * v5_3)) then (1 : Int32) else (0 : Int32)))])
  refine ogo (fun _ z_ => XS.ifNo X90.here hx rfl (hb hby at_400) rfl ((if0 _ _).trans (feq (by rw [if_pos rfl]; decide)).1) z_) ?_
  show OWay p e below G T90 (mkF m 403 #[.val (.int p0), .val (.int p1), .val (.int p2), .val (.int v3_1), .val (.int v4_2), .val (.int v5_3), .val (.ref b4)] [])
  refine ogo (fun _ z_ => XS.aload X90.here hx rfl (hb hby at_403) rfl rfl z_) ?_
  show OWay p e below G T90 (mkF m 405 #[.val (.int p0), .val (.int p1), .val (.int p2), .val (.int v3_1), .val (.int v4_2), .val (.int v5_3), .val (.ref b4)] [(.ref b4)])
  refine ogo (fun _ z_ => XS.bipush X90.here hx rfl (hb hby at_405) z_) ?_
  show OWay p e below G T90 (mkF m 407 #[.val (.int p0), .val (.int p1), .val (.int p2), .val (.int v3_1), .val (.int v4_2), .val (.int v5_3), .val (.ref b4)] [(.int (10 : Int32)), (.ref b4)])
  refine ogo (fun _ z_ => XS.iloadN X90.here hx rfl (hb hby at_407) rfl z_) ?_
  show OWay p e below G T90 (mkF m 408 #[.val (.int p0), .val (.int p1), .val (.int p2), .val (.int v3_1), .val (.int v4_2), .val (.int v5_3), .val (.ref b4)] [(.int v3_1), (.int (10 : Int32)), (.ref b4)])
  refine ogo (fun _ z_ => XS.iload X90.here hx rfl (hb hby at_408) rfl z_) ?_
  show OWay p e below G T90 (mkF m 410 #[.val (.int p0), .val (.int p1), .val (.int p2), .val (.int v3_1), .val (.int v4_2), .val (.int v5_3), .val (.ref b4)] [(.int v4_2), (.int v3_1), (.int (10 : Int32)), (.ref b4)])
  refine ogo (fun _ z_ => XS.iloadN X90.here hx rfl (hb hby at_410) rfl z_) ?_
  show OWay p e below G T90 (mkF m 411 #[.val (.int p0), .val (.int p1), .val (.int p2), .val (.int v3_1), .val (.int v4_2), .val (.int v5_3), .val (.ref b4)] [(.int p1), (.int v4_2), (.int v3_1), (.int (10 : Int32)), (.ref b4)])
  refine ogo (fun _ z_ => XS.iload X90.here hx rfl (hb hby at_411) rfl z_) ?_
  show OWay p e below G T90 (mkF m 413 #[.val (.int p0), .val (.int p1), .val (.int p2), .val (.int v3_1), .val (.int v4_2), .val (.int v5_3), .val (.ref b4)] [(.int v5_3), (.int p1), (.int v4_2), (.int v3_1), (.int (10 : Int32)), (.ref b4)])
  obtain ⟨_, T91, L91, X91, hQ91, st91⟩ := wStatic X90 hx hZ (y := (⟨"com/example/geotide/geotide/MembersSwapPinLaw", "ok", "([IIIIII)Z"⟩ : MethodName)) hown (hw _ (List.mem_of_getElem? (i := 9) rfl)) (hw _ (List.mem_of_getElem? (i := 10) rfl)) (hw _ (List.mem_of_getElem? (i := 3) rfl)) (hw _ (List.mem_of_getElem? (i := 11) rfl)) (by decide) (ok_b_c l Z az hw [] b4 (10 : Int32) v3_1 v4_2 p1 v5_3 ((fun i => (p1 + (i * v5_3))) (src (10 : Int32) v3_1 v4_2)) T78.heap n0 (Nat.le_trans (Nat.le_trans (Nat.le_trans (Nat.le_trans (Nat.le_trans (Nat.le_trans (Nat.le_trans (Nat.le_trans (Nat.le_trans (Nat.le_trans (Nat.le_trans (Nat.le_trans (Nat.le_trans (Nat.le_trans (Nat.le_trans (Nat.le_trans (Nat.le_trans (Nat.le_trans (Nat.le_trans (Nat.le_trans Z0 E4.1) (Keep.of_wr W8).1) (Keep.of_wr W12).1) (Keep.of_wr W16).1) (Keep.of_wr W20).1) (Keep.of_wr W24).1) (Keep.of_wr W28).1) (Keep.of_wr W32).1) (Keep.of_wr W36).1) (Keep.of_wr W40).1) (Keep.of_wr W44).1) (Keep.of_wr W48).1) (Keep.of_wr W52).1) (Keep.of_wr W56).1) (Keep.of_wr W60).1) (Keep.of_wr W64).1) (Keep.of_wr W68).1) (Keep.of_wr W72).1) (Keep.of_wr W76).1) Kq78.1) (own_el P79 (10 : Int32) ((fun i => (p1 + (i * v5_3))) (src (10 : Int32) v3_1 v4_2)) ⟨by decide, by decide⟩ rfl)) 0 (by decide) (by decide) (g := (mkF m 413 #[.val (.int p0), .val (.int p1), .val (.int p2), .val (.int v3_1), .val (.int v4_2), .val (.int v5_3), .val (.ref b4)] [(.int v5_3), (.int p1), (.int v4_2), (.int v3_1), (.int (10 : Int32)), (.ref b4)])) rfl (by rw [hml]; rfl) (argsL := [(.ref b4), (.int (10 : Int32)), (.int v3_1), (.int v4_2), (.int p1), (.int v5_3)]) (rest := []) (lenOf pd___IIIIII_Z rfl) rfl (by show 2 * 0 + _ ≤ _; exact Nat.le_of_eq rfl) (hb hby at_413) rfl eq90 (by decide) (by decide)
  obtain ⟨rfl, N91q, eq91⟩ := hQ91
  have N91 := Fr.app N90 N91q
  refine ogo st91 ?_
  show OWay p e below G T91 (mkF m 416 #[.val (.int p0), .val (.int p1), .val (.int p2), .val (.int v3_1), .val (.int v4_2), .val (.int v5_3), .val (.ref b4)] [(.int (if ((fun i => (p1 + (i * v5_3))) (src (10 : Int32) v3_1 v4_2)) = (p1 + ((src (10 : Int32) v3_1 v4_2) * v5_3)) then (1 : Int32) else (0 : Int32)))])
  refine ogo (fun _ z_ => XS.ifNo X91.here hx rfl (hb hby at_416) rfl ((if0 _ _).trans (feq (by rw [if_pos rfl]; decide)).1) z_) ?_
  show OWay p e below G T91 (mkF m 419 #[.val (.int p0), .val (.int p1), .val (.int p2), .val (.int v3_1), .val (.int v4_2), .val (.int v5_3), .val (.ref b4)] [])
  refine ogo (fun _ z_ => XS.aload X91.here hx rfl (hb hby at_419) rfl rfl z_) ?_
  show OWay p e below G T91 (mkF m 421 #[.val (.int p0), .val (.int p1), .val (.int p2), .val (.int v3_1), .val (.int v4_2), .val (.int v5_3), .val (.ref b4)] [(.ref b4)])
  refine ogo (fun _ z_ => XS.bipush X91.here hx rfl (hb hby at_421) z_) ?_
  show OWay p e below G T91 (mkF m 423 #[.val (.int p0), .val (.int p1), .val (.int p2), .val (.int v3_1), .val (.int v4_2), .val (.int v5_3), .val (.ref b4)] [(.int (11 : Int32)), (.ref b4)])
  refine ogo (fun _ z_ => XS.iloadN X91.here hx rfl (hb hby at_423) rfl z_) ?_
  show OWay p e below G T91 (mkF m 424 #[.val (.int p0), .val (.int p1), .val (.int p2), .val (.int v3_1), .val (.int v4_2), .val (.int v5_3), .val (.ref b4)] [(.int v3_1), (.int (11 : Int32)), (.ref b4)])
  refine ogo (fun _ z_ => XS.iload X91.here hx rfl (hb hby at_424) rfl z_) ?_
  show OWay p e below G T91 (mkF m 426 #[.val (.int p0), .val (.int p1), .val (.int p2), .val (.int v3_1), .val (.int v4_2), .val (.int v5_3), .val (.ref b4)] [(.int v4_2), (.int v3_1), (.int (11 : Int32)), (.ref b4)])
  refine ogo (fun _ z_ => XS.iloadN X91.here hx rfl (hb hby at_426) rfl z_) ?_
  show OWay p e below G T91 (mkF m 427 #[.val (.int p0), .val (.int p1), .val (.int p2), .val (.int v3_1), .val (.int v4_2), .val (.int v5_3), .val (.ref b4)] [(.int p1), (.int v4_2), (.int v3_1), (.int (11 : Int32)), (.ref b4)])
  refine ogo (fun _ z_ => XS.iload X91.here hx rfl (hb hby at_427) rfl z_) ?_
  show OWay p e below G T91 (mkF m 429 #[.val (.int p0), .val (.int p1), .val (.int p2), .val (.int v3_1), .val (.int v4_2), .val (.int v5_3), .val (.ref b4)] [(.int v5_3), (.int p1), (.int v4_2), (.int v3_1), (.int (11 : Int32)), (.ref b4)])
  obtain ⟨_, T92, L92, X92, hQ92, st92⟩ := wStatic X91 hx hZ (y := (⟨"com/example/geotide/geotide/MembersSwapPinLaw", "ok", "([IIIIII)Z"⟩ : MethodName)) hown (hw _ (List.mem_of_getElem? (i := 9) rfl)) (hw _ (List.mem_of_getElem? (i := 10) rfl)) (hw _ (List.mem_of_getElem? (i := 3) rfl)) (hw _ (List.mem_of_getElem? (i := 11) rfl)) (by decide) (ok_b_c l Z az hw [] b4 (11 : Int32) v3_1 v4_2 p1 v5_3 ((fun i => (p1 + (i * v5_3))) (src (11 : Int32) v3_1 v4_2)) T78.heap n0 (Nat.le_trans (Nat.le_trans (Nat.le_trans (Nat.le_trans (Nat.le_trans (Nat.le_trans (Nat.le_trans (Nat.le_trans (Nat.le_trans (Nat.le_trans (Nat.le_trans (Nat.le_trans (Nat.le_trans (Nat.le_trans (Nat.le_trans (Nat.le_trans (Nat.le_trans (Nat.le_trans (Nat.le_trans (Nat.le_trans Z0 E4.1) (Keep.of_wr W8).1) (Keep.of_wr W12).1) (Keep.of_wr W16).1) (Keep.of_wr W20).1) (Keep.of_wr W24).1) (Keep.of_wr W28).1) (Keep.of_wr W32).1) (Keep.of_wr W36).1) (Keep.of_wr W40).1) (Keep.of_wr W44).1) (Keep.of_wr W48).1) (Keep.of_wr W52).1) (Keep.of_wr W56).1) (Keep.of_wr W60).1) (Keep.of_wr W64).1) (Keep.of_wr W68).1) (Keep.of_wr W72).1) (Keep.of_wr W76).1) Kq78.1) (own_el P79 (11 : Int32) ((fun i => (p1 + (i * v5_3))) (src (11 : Int32) v3_1 v4_2)) ⟨by decide, by decide⟩ rfl)) 0 (by decide) (by decide) (g := (mkF m 429 #[.val (.int p0), .val (.int p1), .val (.int p2), .val (.int v3_1), .val (.int v4_2), .val (.int v5_3), .val (.ref b4)] [(.int v5_3), (.int p1), (.int v4_2), (.int v3_1), (.int (11 : Int32)), (.ref b4)])) rfl (by rw [hml]; rfl) (argsL := [(.ref b4), (.int (11 : Int32)), (.int v3_1), (.int v4_2), (.int p1), (.int v5_3)]) (rest := []) (lenOf pd___IIIIII_Z rfl) rfl (by show 2 * 0 + _ ≤ _; exact Nat.le_of_eq rfl) (hb hby at_429) rfl eq91 (by decide) (by decide)
  obtain ⟨rfl, N92q, eq92⟩ := hQ92
  have N92 := Fr.app N91 N92q
  refine ogo st92 ?_
  show OWay p e below G T92 (mkF m 432 #[.val (.int p0), .val (.int p1), .val (.int p2), .val (.int v3_1), .val (.int v4_2), .val (.int v5_3), .val (.ref b4)] [(.int (if ((fun i => (p1 + (i * v5_3))) (src (11 : Int32) v3_1 v4_2)) = (p1 + ((src (11 : Int32) v3_1 v4_2) * v5_3)) then (1 : Int32) else (0 : Int32)))])
  refine ogo (fun _ z_ => XS.ifNo X92.here hx rfl (hb hby at_432) rfl ((if0 _ _).trans (feq (by rw [if_pos rfl]; decide)).1) z_) ?_
  show OWay p e below G T92 (mkF m 435 #[.val (.int p0), .val (.int p1), .val (.int p2), .val (.int v3_1), .val (.int v4_2), .val (.int v5_3), .val (.ref b4)] [])
  refine ogo (fun _ z_ => XS.aload X92.here hx rfl (hb hby at_435) rfl rfl z_) ?_
  show OWay p e below G T92 (mkF m 437 #[.val (.int p0), .val (.int p1), .val (.int p2), .val (.int v3_1), .val (.int v4_2), .val (.int v5_3), .val (.ref b4)] [(.ref b4)])
  refine ogo (fun _ z_ => XS.bipush X92.here hx rfl (hb hby at_437) z_) ?_
  show OWay p e below G T92 (mkF m 439 #[.val (.int p0), .val (.int p1), .val (.int p2), .val (.int v3_1), .val (.int v4_2), .val (.int v5_3), .val (.ref b4)] [(.int (12 : Int32)), (.ref b4)])
  refine ogo (fun _ z_ => XS.iloadN X92.here hx rfl (hb hby at_439) rfl z_) ?_
  show OWay p e below G T92 (mkF m 440 #[.val (.int p0), .val (.int p1), .val (.int p2), .val (.int v3_1), .val (.int v4_2), .val (.int v5_3), .val (.ref b4)] [(.int v3_1), (.int (12 : Int32)), (.ref b4)])
  refine ogo (fun _ z_ => XS.iload X92.here hx rfl (hb hby at_440) rfl z_) ?_
  show OWay p e below G T92 (mkF m 442 #[.val (.int p0), .val (.int p1), .val (.int p2), .val (.int v3_1), .val (.int v4_2), .val (.int v5_3), .val (.ref b4)] [(.int v4_2), (.int v3_1), (.int (12 : Int32)), (.ref b4)])
  refine ogo (fun _ z_ => XS.iloadN X92.here hx rfl (hb hby at_442) rfl z_) ?_
  show OWay p e below G T92 (mkF m 443 #[.val (.int p0), .val (.int p1), .val (.int p2), .val (.int v3_1), .val (.int v4_2), .val (.int v5_3), .val (.ref b4)] [(.int p1), (.int v4_2), (.int v3_1), (.int (12 : Int32)), (.ref b4)])
  refine ogo (fun _ z_ => XS.iload X92.here hx rfl (hb hby at_443) rfl z_) ?_
  show OWay p e below G T92 (mkF m 445 #[.val (.int p0), .val (.int p1), .val (.int p2), .val (.int v3_1), .val (.int v4_2), .val (.int v5_3), .val (.ref b4)] [(.int v5_3), (.int p1), (.int v4_2), (.int v3_1), (.int (12 : Int32)), (.ref b4)])
  obtain ⟨_, T93, L93, X93, hQ93, st93⟩ := wStatic X92 hx hZ (y := (⟨"com/example/geotide/geotide/MembersSwapPinLaw", "ok", "([IIIIII)Z"⟩ : MethodName)) hown (hw _ (List.mem_of_getElem? (i := 9) rfl)) (hw _ (List.mem_of_getElem? (i := 10) rfl)) (hw _ (List.mem_of_getElem? (i := 3) rfl)) (hw _ (List.mem_of_getElem? (i := 11) rfl)) (by decide) (ok_b_c l Z az hw [] b4 (12 : Int32) v3_1 v4_2 p1 v5_3 ((fun i => (p1 + (i * v5_3))) (src (12 : Int32) v3_1 v4_2)) T78.heap n0 (Nat.le_trans (Nat.le_trans (Nat.le_trans (Nat.le_trans (Nat.le_trans (Nat.le_trans (Nat.le_trans (Nat.le_trans (Nat.le_trans (Nat.le_trans (Nat.le_trans (Nat.le_trans (Nat.le_trans (Nat.le_trans (Nat.le_trans (Nat.le_trans (Nat.le_trans (Nat.le_trans (Nat.le_trans (Nat.le_trans Z0 E4.1) (Keep.of_wr W8).1) (Keep.of_wr W12).1) (Keep.of_wr W16).1) (Keep.of_wr W20).1) (Keep.of_wr W24).1) (Keep.of_wr W28).1) (Keep.of_wr W32).1) (Keep.of_wr W36).1) (Keep.of_wr W40).1) (Keep.of_wr W44).1) (Keep.of_wr W48).1) (Keep.of_wr W52).1) (Keep.of_wr W56).1) (Keep.of_wr W60).1) (Keep.of_wr W64).1) (Keep.of_wr W68).1) (Keep.of_wr W72).1) (Keep.of_wr W76).1) Kq78.1) (own_el P79 (12 : Int32) ((fun i => (p1 + (i * v5_3))) (src (12 : Int32) v3_1 v4_2)) ⟨by decide, by decide⟩ rfl)) 0 (by decide) (by decide) (g := (mkF m 445 #[.val (.int p0), .val (.int p1), .val (.int p2), .val (.int v3_1), .val (.int v4_2), .val (.int v5_3), .val (.ref b4)] [(.int v5_3), (.int p1), (.int v4_2), (.int v3_1), (.int (12 : Int32)), (.ref b4)])) rfl (by rw [hml]; rfl) (argsL := [(.ref b4), (.int (12 : Int32)), (.int v3_1), (.int v4_2), (.int p1), (.int v5_3)]) (rest := []) (lenOf pd___IIIIII_Z rfl) rfl (by show 2 * 0 + _ ≤ _; exact Nat.le_of_eq rfl) (hb hby at_445) rfl eq92 (by decide) (by decide)
  obtain ⟨rfl, N93q, eq93⟩ := hQ93
  have N93 := Fr.app N92 N93q
  refine ogo st93 ?_
  show OWay p e below G T93 (mkF m 448 #[.val (.int p0), .val (.int p1), .val (.int p2), .val (.int v3_1), .val (.int v4_2), .val (.int v5_3), .val (.ref b4)] [(.int (if ((fun i => (p1 + (i * v5_3))) (src (12 : Int32) v3_1 v4_2)) = (p1 + ((src (12 : Int32) v3_1 v4_2) * v5_3)) then (1 : Int32) else (0 : Int32)))])
  refine ogo (fun _ z_ => XS.ifNo X93.here hx rfl (hb hby at_448) rfl ((if0 _ _).trans (feq (by rw [if_pos rfl]; decide)).1) z_) ?_
  show OWay p e below G T93 (mkF m 451 #[.val (.int p0), .val (.int p1), .val (.int p2), .val (.int v3_1), .val (.int v4_2), .val (.int v5_3), .val (.ref b4)] [])
  refine ogo (fun _ z_ => XS.aload X93.here hx rfl (hb hby at_451) rfl rfl z_) ?_
  show OWay p e below G T93 (mkF m 453 #[.val (.int p0), .val (.int p1), .val (.int p2), .val (.int v3_1), .val (.int v4_2), .val (.int v5_3), .val (.ref b4)] [(.ref b4)])
  refine ogo (fun _ z_ => XS.bipush X93.here hx rfl (hb hby at_453) z_) ?_
  show OWay p e below G T93 (mkF m 455 #[.val (.int p0), .val (.int p1), .val (.int p2), .val (.int v3_1), .val (.int v4_2), .val (.int v5_3), .val (.ref b4)] [(.int (13 : Int32)), (.ref b4)])
  refine ogo (fun _ z_ => XS.iloadN X93.here hx rfl (hb hby at_455) rfl z_) ?_
  show OWay p e below G T93 (mkF m 456 #[.val (.int p0), .val (.int p1), .val (.int p2), .val (.int v3_1), .val (.int v4_2), .val (.int v5_3), .val (.ref b4)] [(.int v3_1), (.int (13 : Int32)), (.ref b4)])
  refine ogo (fun _ z_ => XS.iload X93.here hx rfl (hb hby at_456) rfl z_) ?_
  show OWay p e below G T93 (mkF m 458 #[.val (.int p0), .val (.int p1), .val (.int p2), .val (.int v3_1), .val (.int v4_2), .val (.int v5_3), .val (.ref b4)] [(.int v4_2), (.int v3_1), (.int (13 : Int32)), (.ref b4)])
  refine ogo (fun _ z_ => XS.iloadN X93.here hx rfl (hb hby at_458) rfl z_) ?_
  show OWay p e below G T93 (mkF m 459 #[.val (.int p0), .val (.int p1), .val (.int p2), .val (.int v3_1), .val (.int v4_2), .val (.int v5_3), .val (.ref b4)] [(.int p1), (.int v4_2), (.int v3_1), (.int (13 : Int32)), (.ref b4)])
  refine ogo (fun _ z_ => XS.iload X93.here hx rfl (hb hby at_459) rfl z_) ?_
  show OWay p e below G T93 (mkF m 461 #[.val (.int p0), .val (.int p1), .val (.int p2), .val (.int v3_1), .val (.int v4_2), .val (.int v5_3), .val (.ref b4)] [(.int v5_3), (.int p1), (.int v4_2), (.int v3_1), (.int (13 : Int32)), (.ref b4)])
  obtain ⟨_, T94, L94, X94, hQ94, st94⟩ := wStatic X93 hx hZ (y := (⟨"com/example/geotide/geotide/MembersSwapPinLaw", "ok", "([IIIIII)Z"⟩ : MethodName)) hown (hw _ (List.mem_of_getElem? (i := 9) rfl)) (hw _ (List.mem_of_getElem? (i := 10) rfl)) (hw _ (List.mem_of_getElem? (i := 3) rfl)) (hw _ (List.mem_of_getElem? (i := 11) rfl)) (by decide) (ok_b_c l Z az hw [] b4 (13 : Int32) v3_1 v4_2 p1 v5_3 ((fun i => (p1 + (i * v5_3))) (src (13 : Int32) v3_1 v4_2)) T78.heap n0 (Nat.le_trans (Nat.le_trans (Nat.le_trans (Nat.le_trans (Nat.le_trans (Nat.le_trans (Nat.le_trans (Nat.le_trans (Nat.le_trans (Nat.le_trans (Nat.le_trans (Nat.le_trans (Nat.le_trans (Nat.le_trans (Nat.le_trans (Nat.le_trans (Nat.le_trans (Nat.le_trans (Nat.le_trans (Nat.le_trans Z0 E4.1) (Keep.of_wr W8).1) (Keep.of_wr W12).1) (Keep.of_wr W16).1) (Keep.of_wr W20).1) (Keep.of_wr W24).1) (Keep.of_wr W28).1) (Keep.of_wr W32).1) (Keep.of_wr W36).1) (Keep.of_wr W40).1) (Keep.of_wr W44).1) (Keep.of_wr W48).1) (Keep.of_wr W52).1) (Keep.of_wr W56).1) (Keep.of_wr W60).1) (Keep.of_wr W64).1) (Keep.of_wr W68).1) (Keep.of_wr W72).1) (Keep.of_wr W76).1) Kq78.1) (own_el P79 (13 : Int32) ((fun i => (p1 + (i * v5_3))) (src (13 : Int32) v3_1 v4_2)) ⟨by decide, by decide⟩ rfl)) 0 (by decide) (by decide) (g := (mkF m 461 #[.val (.int p0), .val (.int p1), .val (.int p2), .val (.int v3_1), .val (.int v4_2), .val (.int v5_3), .val (.ref b4)] [(.int v5_3), (.int p1), (.int v4_2), (.int v3_1), (.int (13 : Int32)), (.ref b4)])) rfl (by rw [hml]; rfl) (argsL := [(.ref b4), (.int (13 : Int32)), (.int v3_1), (.int v4_2), (.int p1), (.int v5_3)]) (rest := []) (lenOf pd___IIIIII_Z rfl) rfl (by show 2 * 0 + _ ≤ _; exact Nat.le_of_eq rfl) (hb hby at_461) rfl eq93 (by decide) (by decide)
  obtain ⟨rfl, N94q, eq94⟩ := hQ94
  have N94 := Fr.app N93 N94q
  refine ogo st94 ?_
  show OWay p e below G T94 (mkF m 464 #[.val (.int p0), .val (.int p1), .val (.int p2), .val (.int v3_1), .val (.int v4_2), .val (.int v5_3), .val (.ref b4)] [(.int (if ((fun i => (p1 + (i * v5_3))) (src (13 : Int32) v3_1 v4_2)) = (p1 + ((src (13 : Int32) v3_1 v4_2) * v5_3)) then (1 : Int32) else (0 : Int32)))])
  refine ogo (fun _ z_ => XS.ifNo X94.here hx rfl (hb hby at_464) rfl ((if0 _ _).trans (feq (by rw [if_pos rfl]; decide)).1) z_) ?_
  show OWay p e below G T94 (mkF m 467 #[.val (.int p0), .val (.int p1), .val (.int p2), .val (.int v3_1), .val (.int v4_2), .val (.int v5_3), .val (.ref b4)] [])
  refine ogo (fun _ z_ => XS.aload X94.here hx rfl (hb hby at_467) rfl rfl z_) ?_
  show OWay p e below G T94 (mkF m 469 #[.val (.int p0), .val (.int p1), .val (.int p2), .val (.int v3_1), .val (.int v4_2), .val (.int v5_3), .val (.ref b4)] [(.ref b4)])
  refine ogo (fun _ z_ => XS.bipush X94.here hx rfl (hb hby at_469) z_) ?_
  show OWay p e below G T94 (mkF m 471 #[.val (.int p0), .val (.int p1), .val (.int p2), .val (.int v3_1), .val (.int v4_2), .val (.int v5_3), .val (.ref b4)] [(.int (14 : Int32)), (.ref b4)])
  refine ogo (fun _ z_ => XS.iloadN X94.here hx rfl (hb hby at_471) rfl z_) ?_
  show OWay p e below G T94 (mkF m 472 #[.val (.int p0), .val (.int p1), .val (.int p2), .val (.int v3_1), .val (.int v4_2), .val (.int v5_3), .val (.ref b4)] [(.int v3_1), (.int (14 : Int32)), (.ref b4)])
  refine ogo (fun _ z_ => XS.iload X94.here hx rfl (hb hby at_472) rfl z_) ?_
  show OWay p e below G T94 (mkF m 474 #[.val (.int p0), .val (.int p1), .val (.int p2), .val (.int v3_1), .val (.int v4_2), .val (.int v5_3), .val (.ref b4)] [(.int v4_2), (.int v3_1), (.int (14 : Int32)), (.ref b4)])
  refine ogo (fun _ z_ => XS.iloadN X94.here hx rfl (hb hby at_474) rfl z_) ?_
  show OWay p e below G T94 (mkF m 475 #[.val (.int p0), .val (.int p1), .val (.int p2), .val (.int v3_1), .val (.int v4_2), .val (.int v5_3), .val (.ref b4)] [(.int p1), (.int v4_2), (.int v3_1), (.int (14 : Int32)), (.ref b4)])
  refine ogo (fun _ z_ => XS.iload X94.here hx rfl (hb hby at_475) rfl z_) ?_
  show OWay p e below G T94 (mkF m 477 #[.val (.int p0), .val (.int p1), .val (.int p2), .val (.int v3_1), .val (.int v4_2), .val (.int v5_3), .val (.ref b4)] [(.int v5_3), (.int p1), (.int v4_2), (.int v3_1), (.int (14 : Int32)), (.ref b4)])
  obtain ⟨_, T95, L95, X95, hQ95, st95⟩ := wStatic X94 hx hZ (y := (⟨"com/example/geotide/geotide/MembersSwapPinLaw", "ok", "([IIIIII)Z"⟩ : MethodName)) hown (hw _ (List.mem_of_getElem? (i := 9) rfl)) (hw _ (List.mem_of_getElem? (i := 10) rfl)) (hw _ (List.mem_of_getElem? (i := 3) rfl)) (hw _ (List.mem_of_getElem? (i := 11) rfl)) (by decide) (ok_b_c l Z az hw [] b4 (14 : Int32) v3_1 v4_2 p1 v5_3 ((fun i => (p1 + (i * v5_3))) (src (14 : Int32) v3_1 v4_2)) T78.heap n0 (Nat.le_trans (Nat.le_trans (Nat.le_trans (Nat.le_trans (Nat.le_trans (Nat.le_trans (Nat.le_trans (Nat.le_trans (Nat.le_trans (Nat.le_trans (Nat.le_trans (Nat.le_trans (Nat.le_trans (Nat.le_trans (Nat.le_trans (Nat.le_trans (Nat.le_trans (Nat.le_trans (Nat.le_trans (Nat.le_trans Z0 E4.1) (Keep.of_wr W8).1) (Keep.of_wr W12).1) (Keep.of_wr W16).1) (Keep.of_wr W20).1) (Keep.of_wr W24).1) (Keep.of_wr W28).1) (Keep.of_wr W32).1) (Keep.of_wr W36).1) (Keep.of_wr W40).1) (Keep.of_wr W44).1) (Keep.of_wr W48).1) (Keep.of_wr W52).1) (Keep.of_wr W56).1) (Keep.of_wr W60).1) (Keep.of_wr W64).1) (Keep.of_wr W68).1) (Keep.of_wr W72).1) (Keep.of_wr W76).1) Kq78.1) (own_el P79 (14 : Int32) ((fun i => (p1 + (i * v5_3))) (src (14 : Int32) v3_1 v4_2)) ⟨by decide, by decide⟩ rfl)) 0 (by decide) (by decide) (g := (mkF m 477 #[.val (.int p0), .val (.int p1), .val (.int p2), .val (.int v3_1), .val (.int v4_2), .val (.int v5_3), .val (.ref b4)] [(.int v5_3), (.int p1), (.int v4_2), (.int v3_1), (.int (14 : Int32)), (.ref b4)])) rfl (by rw [hml]; rfl) (argsL := [(.ref b4), (.int (14 : Int32)), (.int v3_1), (.int v4_2), (.int p1), (.int v5_3)]) (rest := []) (lenOf pd___IIIIII_Z rfl) rfl (by show 2 * 0 + _ ≤ _; exact Nat.le_of_eq rfl) (hb hby at_477) rfl eq94 (by decide) (by decide)
  obtain ⟨rfl, N95q, eq95⟩ := hQ95
  have N95 := Fr.app N94 N95q
  refine ogo st95 ?_
  show OWay p e below G T95 (mkF m 480 #[.val (.int p0), .val (.int p1), .val (.int p2), .val (.int v3_1), .val (.int v4_2), .val (.int v5_3), .val (.ref b4)] [(.int (if ((fun i => (p1 + (i * v5_3))) (src (14 : Int32) v3_1 v4_2)) = (p1 + ((src (14 : Int32) v3_1 v4_2) * v5_3)) then (1 : Int32) else (0 : Int32)))])
  refine ogo (fun _ z_ => XS.ifNo X95.here hx rfl (hb hby at_480) rfl ((if0 _ _).trans (feq (by rw [if_pos rfl]; decide)).1) z_) ?_
  show OWay p e below G T95 (mkF m 483 #[.val (.int p0), .val (.int p1), .val (.int p2), .val (.int v3_1), .val (.int v4_2), .val (.int v5_3), .val (.ref b4)] [])
  refine ogo (fun _ z_ => XS.aload X95.here hx rfl (hb hby at_483) rfl rfl z_) ?_
  show OWay p e below G T95 (mkF m 485 #[.val (.int p0), .val (.int p1), .val (.int p2), .val (.int v3_1), .val (.int v4_2), .val (.int v5_3), .val (.ref b4)] [(.ref b4)])
  refine ogo (fun _ z_ => XS.bipush X95.here hx rfl (hb hby at_485) z_) ?_
  show OWay p e below G T95 (mkF m 487 #[.val (.int p0), .val (.int p1), .val (.int p2), .val (.int v3_1), .val (.int v4_2), .val (.int v5_3), .val (.ref b4)] [(.int (15 : Int32)), (.ref b4)])
  refine ogo (fun _ z_ => XS.iloadN X95.here hx rfl (hb hby at_487) rfl z_) ?_
  show OWay p e below G T95 (mkF m 488 #[.val (.int p0), .val (.int p1), .val (.int p2), .val (.int v3_1), .val (.int v4_2), .val (.int v5_3), .val (.ref b4)] [(.int v3_1), (.int (15 : Int32)), (.ref b4)])
  refine ogo (fun _ z_ => XS.iload X95.here hx rfl (hb hby at_488) rfl z_) ?_
  show OWay p e below G T95 (mkF m 490 #[.val (.int p0), .val (.int p1), .val (.int p2), .val (.int v3_1), .val (.int v4_2), .val (.int v5_3), .val (.ref b4)] [(.int v4_2), (.int v3_1), (.int (15 : Int32)), (.ref b4)])
  refine ogo (fun _ z_ => XS.iloadN X95.here hx rfl (hb hby at_490) rfl z_) ?_
  show OWay p e below G T95 (mkF m 491 #[.val (.int p0), .val (.int p1), .val (.int p2), .val (.int v3_1), .val (.int v4_2), .val (.int v5_3), .val (.ref b4)] [(.int p1), (.int v4_2), (.int v3_1), (.int (15 : Int32)), (.ref b4)])
  refine ogo (fun _ z_ => XS.iload X95.here hx rfl (hb hby at_491) rfl z_) ?_
  show OWay p e below G T95 (mkF m 493 #[.val (.int p0), .val (.int p1), .val (.int p2), .val (.int v3_1), .val (.int v4_2), .val (.int v5_3), .val (.ref b4)] [(.int v5_3), (.int p1), (.int v4_2), (.int v3_1), (.int (15 : Int32)), (.ref b4)])
  obtain ⟨_, T96, L96, X96, hQ96, st96⟩ := wStatic X95 hx hZ (y := (⟨"com/example/geotide/geotide/MembersSwapPinLaw", "ok", "([IIIIII)Z"⟩ : MethodName)) hown (hw _ (List.mem_of_getElem? (i := 9) rfl)) (hw _ (List.mem_of_getElem? (i := 10) rfl)) (hw _ (List.mem_of_getElem? (i := 3) rfl)) (hw _ (List.mem_of_getElem? (i := 11) rfl)) (by decide) (ok_b_c l Z az hw [] b4 (15 : Int32) v3_1 v4_2 p1 v5_3 ((fun i => (p1 + (i * v5_3))) (src (15 : Int32) v3_1 v4_2)) T78.heap n0 (Nat.le_trans (Nat.le_trans (Nat.le_trans (Nat.le_trans (Nat.le_trans (Nat.le_trans (Nat.le_trans (Nat.le_trans (Nat.le_trans (Nat.le_trans (Nat.le_trans (Nat.le_trans (Nat.le_trans (Nat.le_trans (Nat.le_trans (Nat.le_trans (Nat.le_trans (Nat.le_trans (Nat.le_trans (Nat.le_trans Z0 E4.1) (Keep.of_wr W8).1) (Keep.of_wr W12).1) (Keep.of_wr W16).1) (Keep.of_wr W20).1) (Keep.of_wr W24).1) (Keep.of_wr W28).1) (Keep.of_wr W32).1) (Keep.of_wr W36).1) (Keep.of_wr W40).1) (Keep.of_wr W44).1) (Keep.of_wr W48).1) (Keep.of_wr W52).1) (Keep.of_wr W56).1) (Keep.of_wr W60).1) (Keep.of_wr W64).1) (Keep.of_wr W68).1) (Keep.of_wr W72).1) (Keep.of_wr W76).1) Kq78.1) (own_el P79 (15 : Int32) ((fun i => (p1 + (i * v5_3))) (src (15 : Int32) v3_1 v4_2)) ⟨by decide, by decide⟩ rfl)) 0 (by decide) (by decide) (g := (mkF m 493 #[.val (.int p0), .val (.int p1), .val (.int p2), .val (.int v3_1), .val (.int v4_2), .val (.int v5_3), .val (.ref b4)] [(.int v5_3), (.int p1), (.int v4_2), (.int v3_1), (.int (15 : Int32)), (.ref b4)])) rfl (by rw [hml]; rfl) (argsL := [(.ref b4), (.int (15 : Int32)), (.int v3_1), (.int v4_2), (.int p1), (.int v5_3)]) (rest := []) (lenOf pd___IIIIII_Z rfl) rfl (by show 2 * 0 + _ ≤ _; exact Nat.le_of_eq rfl) (hb hby at_493) rfl eq95 (by decide) (by decide)
  obtain ⟨rfl, N96q, eq96⟩ := hQ96
  have N96 := Fr.app N95 N96q
  refine ogo st96 ?_
  show OWay p e below G T96 (mkF m 496 #[.val (.int p0), .val (.int p1), .val (.int p2), .val (.int v3_1), .val (.int v4_2), .val (.int v5_3), .val (.ref b4)] [(.int (if ((fun i => (p1 + (i * v5_3))) (src (15 : Int32) v3_1 v4_2)) = (p1 + ((src (15 : Int32) v3_1 v4_2) * v5_3)) then (1 : Int32) else (0 : Int32)))])
  refine ogo (fun _ z_ => XS.ifNo X96.here hx rfl (hb hby at_496) rfl ((if0 _ _).trans (feq (by rw [if_pos rfl]; decide)).1) z_) ?_
  show OWay p e below G T96 (mkF m 499 #[.val (.int p0), .val (.int p1), .val (.int p2), .val (.int v3_1), .val (.int v4_2), .val (.int v5_3), .val (.ref b4)] [])
  refine ogo (fun _ z_ => XS.aload X96.here hx rfl (hb hby at_499) rfl rfl z_) ?_
  show OWay p e below G T96 (mkF m 501 #[.val (.int p0), .val (.int p1), .val (.int p2), .val (.int v3_1), .val (.int v4_2), .val (.int v5_3), .val (.ref b4)] [(.ref b4)])
  refine ogo (fun _ z_ => XS.bipush X96.here hx rfl (hb hby at_501) z_) ?_
  show OWay p e below G T96 (mkF m 503 #[.val (.int p0), .val (.int p1), .val (.int p2), .val (.int v3_1), .val (.int v4_2), .val (.int v5_3), .val (.ref b4)] [(.int (16 : Int32)), (.ref b4)])
  refine ogo (fun _ z_ => XS.iloadN X96.here hx rfl (hb hby at_503) rfl z_) ?_
  show OWay p e below G T96 (mkF m 504 #[.val (.int p0), .val (.int p1), .val (.int p2), .val (.int v3_1), .val (.int v4_2), .val (.int v5_3), .val (.ref b4)] [(.int v3_1), (.int (16 : Int32)), (.ref b4)])
  refine ogo (fun _ z_ => XS.iload X96.here hx rfl (hb hby at_504) rfl z_) ?_
  show OWay p e below G T96 (mkF m 506 #[.val (.int p0), .val (.int p1), .val (.int p2), .val (.int v3_1), .val (.int v4_2), .val (.int v5_3), .val (.ref b4)] [(.int v4_2), (.int v3_1), (.int (16 : Int32)), (.ref b4)])
  refine ogo (fun _ z_ => XS.iloadN X96.here hx rfl (hb hby at_506) rfl z_) ?_
  show OWay p e below G T96 (mkF m 507 #[.val (.int p0), .val (.int p1), .val (.int p2), .val (.int v3_1), .val (.int v4_2), .val (.int v5_3), .val (.ref b4)] [(.int p1), (.int v4_2), (.int v3_1), (.int (16 : Int32)), (.ref b4)])
  refine ogo (fun _ z_ => XS.iload X96.here hx rfl (hb hby at_507) rfl z_) ?_
  show OWay p e below G T96 (mkF m 509 #[.val (.int p0), .val (.int p1), .val (.int p2), .val (.int v3_1), .val (.int v4_2), .val (.int v5_3), .val (.ref b4)] [(.int v5_3), (.int p1), (.int v4_2), (.int v3_1), (.int (16 : Int32)), (.ref b4)])
  obtain ⟨_, T97, L97, X97, hQ97, st97⟩ := wStatic X96 hx hZ (y := (⟨"com/example/geotide/geotide/MembersSwapPinLaw", "ok", "([IIIIII)Z"⟩ : MethodName)) hown (hw _ (List.mem_of_getElem? (i := 9) rfl)) (hw _ (List.mem_of_getElem? (i := 10) rfl)) (hw _ (List.mem_of_getElem? (i := 3) rfl)) (hw _ (List.mem_of_getElem? (i := 11) rfl)) (by decide) (ok_b_c l Z az hw [] b4 (16 : Int32) v3_1 v4_2 p1 v5_3 ((fun i => (p1 + (i * v5_3))) (src (16 : Int32) v3_1 v4_2)) T78.heap n0 (Nat.le_trans (Nat.le_trans (Nat.le_trans (Nat.le_trans (Nat.le_trans (Nat.le_trans (Nat.le_trans (Nat.le_trans (Nat.le_trans (Nat.le_trans (Nat.le_trans (Nat.le_trans (Nat.le_trans (Nat.le_trans (Nat.le_trans (Nat.le_trans (Nat.le_trans (Nat.le_trans (Nat.le_trans (Nat.le_trans Z0 E4.1) (Keep.of_wr W8).1) (Keep.of_wr W12).1) (Keep.of_wr W16).1) (Keep.of_wr W20).1) (Keep.of_wr W24).1) (Keep.of_wr W28).1) (Keep.of_wr W32).1) (Keep.of_wr W36).1) (Keep.of_wr W40).1) (Keep.of_wr W44).1) (Keep.of_wr W48).1) (Keep.of_wr W52).1) (Keep.of_wr W56).1) (Keep.of_wr W60).1) (Keep.of_wr W64).1) (Keep.of_wr W68).1) (Keep.of_wr W72).1) (Keep.of_wr W76).1) Kq78.1) (own_el P79 (16 : Int32) ((fun i => (p1 + (i * v5_3))) (src (16 : Int32) v3_1 v4_2)) ⟨by decide, by decide⟩ rfl)) 0 (by decide) (by decide) (g := (mkF m 509 #[.val (.int p0), .val (.int p1), .val (.int p2), .val (.int v3_1), .val (.int v4_2), .val (.int v5_3), .val (.ref b4)] [(.int v5_3), (.int p1), (.int v4_2), (.int v3_1), (.int (16 : Int32)), (.ref b4)])) rfl (by rw [hml]; rfl) (argsL := [(.ref b4), (.int (16 : Int32)), (.int v3_1), (.int v4_2), (.int p1), (.int v5_3)]) (rest := []) (lenOf pd___IIIIII_Z rfl) rfl (by show 2 * 0 + _ ≤ _; exact Nat.le_of_eq rfl) (hb hby at_509) rfl eq96 (by decide) (by decide)
  obtain ⟨rfl, N97q, eq97⟩ := hQ97
  have N97 := Fr.app N96 N97q
  refine ogo st97 ?_
  show OWay p e below G T97 (mkF m 512 #[.val (.int p0), .val (.int p1), .val (.int p2), .val (.int v3_1), .val (.int v4_2), .val (.int v5_3), .val (.ref b4)] [(.int (if ((fun i => (p1 + (i * v5_3))) (src (16 : Int32) v3_1 v4_2)) = (p1 + ((src (16 : Int32) v3_1 v4_2) * v5_3)) then (1 : Int32) else (0 : Int32)))])
  refine ogo (fun _ z_ => XS.ifNo X97.here hx rfl (hb hby at_512) rfl ((if0 _ _).trans (feq (by rw [if_pos rfl]; decide)).1) z_) ?_
  show OWay p e below G T97 (mkF m 515 #[.val (.int p0), .val (.int p1), .val (.int p2), .val (.int v3_1), .val (.int v4_2), .val (.int v5_3), .val (.ref b4)] [])
  refine ogo (fun _ z_ => XS.aload X97.here hx rfl (hb hby at_515) rfl rfl z_) ?_
  show OWay p e below G T97 (mkF m 517 #[.val (.int p0), .val (.int p1), .val (.int p2), .val (.int v3_1), .val (.int v4_2), .val (.int v5_3), .val (.ref b4)] [(.ref b4)])
  refine ogo (fun _ z_ => XS.bipush X97.here hx rfl (hb hby at_517) z_) ?_
  show OWay p e below G T97 (mkF m 519 #[.val (.int p0), .val (.int p1), .val (.int p2), .val (.int v3_1), .val (.int v4_2), .val (.int v5_3), .val (.ref b4)] [(.int (17 : Int32)), (.ref b4)])
  refine ogo (fun _ z_ => XS.iloadN X97.here hx rfl (hb hby at_519) rfl z_) ?_
  show OWay p e below G T97 (mkF m 520 #[.val (.int p0), .val (.int p1), .val (.int p2), .val (.int v3_1), .val (.int v4_2), .val (.int v5_3), .val (.ref b4)] [(.int v3_1), (.int (17 : Int32)), (.ref b4)])
  refine ogo (fun _ z_ => XS.iload X97.here hx rfl (hb hby at_520) rfl z_) ?_
  show OWay p e below G T97 (mkF m 522 #[.val (.int p0), .val (.int p1), .val (.int p2), .val (.int v3_1), .val (.int v4_2), .val (.int v5_3), .val (.ref b4)] [(.int v4_2), (.int v3_1), (.int (17 : Int32)), (.ref b4)])
  refine ogo (fun _ z_ => XS.iloadN X97.here hx rfl (hb hby at_522) rfl z_) ?_
  show OWay p e below G T97 (mkF m 523 #[.val (.int p0), .val (.int p1), .val (.int p2), .val (.int v3_1), .val (.int v4_2), .val (.int v5_3), .val (.ref b4)] [(.int p1), (.int v4_2), (.int v3_1), (.int (17 : Int32)), (.ref b4)])
  refine ogo (fun _ z_ => XS.iload X97.here hx rfl (hb hby at_523) rfl z_) ?_
  show OWay p e below G T97 (mkF m 525 #[.val (.int p0), .val (.int p1), .val (.int p2), .val (.int v3_1), .val (.int v4_2), .val (.int v5_3), .val (.ref b4)] [(.int v5_3), (.int p1), (.int v4_2), (.int v3_1), (.int (17 : Int32)), (.ref b4)])
  obtain ⟨_, T98, L98, X98, hQ98, st98⟩ := wStatic X97 hx hZ (y := (⟨"com/example/geotide/geotide/MembersSwapPinLaw", "ok", "([IIIIII)Z"⟩ : MethodName)) hown (hw _ (List.mem_of_getElem? (i := 9) rfl)) (hw _ (List.mem_of_getElem? (i := 10) rfl)) (hw _ (List.mem_of_getElem? (i := 3) rfl)) (hw _ (List.mem_of_getElem? (i := 11) rfl)) (by decide) (ok_b_c l Z az hw [] b4 (17 : Int32) v3_1 v4_2 p1 v5_3 ((fun i => (p1 + (i * v5_3))) (src (17 : Int32) v3_1 v4_2)) T78.heap n0 (Nat.le_trans (Nat.le_trans (Nat.le_trans (Nat.le_trans (Nat.le_trans (Nat.le_trans (Nat.le_trans (Nat.le_trans (Nat.le_trans (Nat.le_trans (Nat.le_trans (Nat.le_trans (Nat.le_trans (Nat.le_trans (Nat.le_trans (Nat.le_trans (Nat.le_trans (Nat.le_trans (Nat.le_trans (Nat.le_trans Z0 E4.1) (Keep.of_wr W8).1) (Keep.of_wr W12).1) (Keep.of_wr W16).1) (Keep.of_wr W20).1) (Keep.of_wr W24).1) (Keep.of_wr W28).1) (Keep.of_wr W32).1) (Keep.of_wr W36).1) (Keep.of_wr W40).1) (Keep.of_wr W44).1) (Keep.of_wr W48).1) (Keep.of_wr W52).1) (Keep.of_wr W56).1) (Keep.of_wr W60).1) (Keep.of_wr W64).1) (Keep.of_wr W68).1) (Keep.of_wr W72).1) (Keep.of_wr W76).1) Kq78.1) (own_el P79 (17 : Int32) ((fun i => (p1 + (i * v5_3))) (src (17 : Int32) v3_1 v4_2)) ⟨by decide, by decide⟩ rfl)) 0 (by decide) (by decide) (g := (mkF m 525 #[.val (.int p0), .val (.int p1), .val (.int p2), .val (.int v3_1), .val (.int v4_2), .val (.int v5_3), .val (.ref b4)] [(.int v5_3), (.int p1), (.int v4_2), (.int v3_1), (.int (17 : Int32)), (.ref b4)])) rfl (by rw [hml]; rfl) (argsL := [(.ref b4), (.int (17 : Int32)), (.int v3_1), (.int v4_2), (.int p1), (.int v5_3)]) (rest := []) (lenOf pd___IIIIII_Z rfl) rfl (by show 2 * 0 + _ ≤ _; exact Nat.le_of_eq rfl) (hb hby at_525) rfl eq97 (by decide) (by decide)
  obtain ⟨rfl, N98q, eq98⟩ := hQ98
  have N98 := Fr.app N97 N98q
  refine ogo st98 ?_
  show OWay p e below G T98 (mkF m 528 #[.val (.int p0), .val (.int p1), .val (.int p2), .val (.int v3_1), .val (.int v4_2), .val (.int v5_3), .val (.ref b4)] [(.int (if ((fun i => (p1 + (i * v5_3))) (src (17 : Int32) v3_1 v4_2)) = (p1 + ((src (17 : Int32) v3_1 v4_2) * v5_3)) then (1 : Int32) else (0 : Int32)))])
  refine ogo (fun _ z_ => XS.ifNo X98.here hx rfl (hb hby at_528) rfl ((if0 _ _).trans (feq (by rw [if_pos rfl]; decide)).1) z_) ?_
  show OWay p e below G T98 (mkF m 531 #[.val (.int p0), .val (.int p1), .val (.int p2), .val (.int v3_1), .val (.int v4_2), .val (.int v5_3), .val (.ref b4)] [])
  refine ogo (fun _ z_ => XS.iconst X98.here hx rfl (hb hby at_531) z_) ?_
  show OWay p e below G T98 (mkF m 532 #[.val (.int p0), .val (.int p1), .val (.int p2), .val (.int v3_1), .val (.int v4_2), .val (.int v5_3), .val (.ref b4)] [(.int (1 : Int32))])
  refine ogo (fun _ z_ => XS.goto X98.here hx rfl (pc0 := 532) (pc' := 536) rfl (hb hby at_532) (by decide) (by decide) z_) ?_
  show OWay p e below G T98 (mkF m 536 #[.val (.int p0), .val (.int p1), .val (.int p2), .val (.int v3_1), .val (.int v4_2), .val (.int v5_3), .val (.ref b4)] [(.int (1 : Int32))])
  subst hG
  refine wRetN X98 hx (t := .boolean) hret hlk (by simp) (hb hby at_536) (by decide) (by decide) eq98 ?_
  exact ⟨rfl, N98⟩
set_option maxRecDepth 65536 in
set_option maxHeartbeats 40000000 in
theorem comes_1 {Post : Tables → Env → Array Value → State → Outcome → State → Prop} (hpost : ∀ tb e args s v u, (limb_1_1.after args s (.returned v) u = true ∧ limb_1_2.after args s (.returned v) u = true ∧ True) → FrameEnd s (.returned v) u (Jvm.fieldLocs frame_1_writes args s ++ Jvm.arrayLocs frame_1_arrays args s ++ Jvm.staticLocs frame_1_statics s) 16 128 → Post tb e args s (.returned v) u) :
    ArmFor flags0 classFile x code maxLocals ret World_1 tables_1 room_1 Calls_1 rest_1 Pre_1 Post := by
  intro l hfl _ _ p e ha hc hk s m args below hf hA hF happ hP
  obtain ⟨hcalls, hrest, hpre⟩ := hP
  obtain ⟨-, -, -, hnamed, -, -, -, hat⟩ := (Spec.applies_iff hf).mp happ
  obtain ⟨hg, hn⟩ := and_e (Cond.before_iff.mp (show (Jvm.Cond.and given_1 narrow_1).before args s = true from hpre))
  obtain ⟨g1, g2⟩ := and_e hg
  obtain ⟨g3, g4⟩ := and_e g2
  obtain ⟨g5, g6⟩ := and_e g4
  obtain ⟨w0, w1, w2, rfl⟩ : ∃ w0 w1 w2 : Value, args = #[w0, w1, w2] := by
    have hs : args.size = 3 := by simpa [Cond.value, given_1] using g1
    obtain ⟨L⟩ := args
    match L, hs with
    | [w0, w1, w2], _ => exact ⟨w0, w1, w2, rfl⟩
  have hw := fun d (hd : d ∈ tables_1) => atoms_spec (ws := Jvm.Cond.code x code maxLocals ret :: tables_1) hat d (List.mem_cons_of_mem _ hd)
  have hfit : Fit s := fun {y c} hc i hi => by
    obtain ⟨ha, rfl⟩ := Array.getElem?_eq_some_iff.mp hc
    have q := List.all_eq_true.mp ((Array.all_eq_true_iff_forall_mem.mp hF) _ (Array.getElem_mem ha)) i (List.mem_range.mpr hi)
    simpa [Array.getElem?_eq_getElem hi] using q
  obtain ⟨i0, ei0⟩ := is_v g3
  obtain rfl : w0 = (.int i0) := Option.some.inj ei0
  obtain ⟨i1, ei1⟩ := is_v g5
  obtain rfl : w1 = (.int i1) := Option.some.inj ei1
  obtain ⟨i2, ei2⟩ := is_v g6
  obtain rfl : w2 = (.int i2) := Option.some.inj ei2
  obtain ⟨n, o, h1, h2, h3, _, L, rfl, ⟨rfl, N⟩, hq⟩ := law_c l s _ hw tables_1 i0 i1 i2 s.heap s.heap.size (Nat.le_refl _) p e ha hc hk s m _ below hf ((Spec.applies_iff_loose hf).mp happ).1 ⟨rfl, State.Warmed39.refl s, rfl⟩ trivial
  refine ⟨n, _, h1, h2, h3, hpost _ _ _ _ _ _ ⟨Cond.after_iff.mpr rfl, Cond.after_iff.mpr (eq_i res_at (Term.int_eval (1)) rfl), trivial⟩ ⟨hq.1, hq.2.1, (hq.2.2.sift fun y hy => Or.inr (N y hy)).mono (by decide) (by decide)⟩⟩
theorem main_1_1 : Claimed_1_1 := comes_1 fun _ _ _ _ _ _ h hF => ⟨h.1, hF⟩
theorem main_1_2 : Claimed_1_2 := comes_1 fun _ _ _ _ _ _ h hF => ⟨h.2.1, hF⟩
end Jvm.Pilot.@@N@@
namespace Jvm.Pilot.@@N@@
open Jvm Jvm.ClassFile Sem Op Lib Jvm.Free Jvm.Stand Jvm.Pilot.@@N@@.Jvm.D
/-! MADE BY PROGRAM (witnessworld.py) out of the Statement's table words and the real class files: 9 classes; the members and pool entries that the words name. The judged class is class 1, her method 1. -/
namespace start1
open Jvm.ClassFile
def u (s : String) : CpInfo := .utf8 (stringToUtf16 s)
/-- a pool by its gaps: so many unusable entries, then the entry; so many at the end -/
def gap : Nat → List CpInfo → List CpInfo
  | 0, r => r
  | n + 1, r => .unusable :: gap n r
def poolList (es : List (Nat × CpInfo)) (last : Nat) : List CpInfo := es.foldr (fun e r => gap e.1 (e.2 :: r)) (gap last [])
def pool (es : List (Nat × CpInfo)) (last : Nat) : Array CpInfo := ⟨poolList es last⟩
def fileOf (pool : Array CpInfo) (this : Nat) (attrs : Array Attribute := #[]) (ms : Array MethodInfo := #[]) (fl : Nat := 33) (sup : Nat := 0) (ifs : Array Nat := #[]) (fds : Array FieldInfo := #[]) : ClassFile where
  minorVersion := 0
  majorVersion := 65
  constantPool := pool
  accessFlags := fl
  thisClass := this
  superClass := sup
  interfaces := ifs
  fields := fds
  methods := ms
  attributes := attrs
def plain (name : String) (sup : Option ClassId) : Class where
  name := name
  kind := .ordinary
  loader := none
  accessFlags := 33
  super := sup
  interfaces := #[]
  cf := none
  fields := #[]
  methods := #[]
  instanceTypes := #[]
  staticTypes := #[]
  resolved := #[]
  callSites := []
  init := .initialized
  statics := none
  mirror := none

def pool0 : Array CpInfo := pool [(5, u "<init>"), (0, u "()V"), (1, .class_ 10), (1, u "java/lang/Object")] 113

def k0m0 : Method := { name := "<init>", desc := "()V", sig := { parameters := [], returnType := none }, accessFlags := 1, code := none }
/-- java/lang/Object -/
def k0 : Class := { plain "java/lang/Object" none with
  accessFlags := 33
  interfaces := #[]
  cf := some (fileOf pool0 8 #[] #[{ accessFlags := 1, nameIndex := 5, descriptorIndex := 6, attributes := #[] }] 33 0 #[] #[])
  fields := #[]
  methods := #[k0m0]
  instanceTypes := #[]
  staticTypes := #[]
  resolved := Array.replicate 124 none
  statics := none }

def pool1 : Array CpInfo := pool [(2, .class_ 4), (1, u "java/lang/Object"), (0, u "<init>"), (0, u "()V"), (0, .methodref 8 9), (0, .class_ 10), (0, .nameAndType 11 12), (0, u "com/example/geotide/geotide/MembersSwapPinLaw"), (0, u "v"), (0, u "(III)I"), (0, .methodref 14 15), (0, .class_ 16), (0, .nameAndType 17 18), (0, u "com/example/geotide/geotide/Members"), (0, u "swap"), (0, u "([III)V"), (0, .methodref 8 20), (0, .nameAndType 21 22), (0, u "ok"), (0, u "([IIIIII)Z"), (2, u "law"), (0, u "(III)Z")] 5

def k1m0 : Method := { name := "<init>", desc := "()V", sig := { parameters := [], returnType := none }, accessFlags := 2, code := none }
def k1c1 : Code := { maxStack := 6, maxLocals := 7, code := code, exceptionTable := #[], attributes := #[] }
def k1m1 : Method := { name := "law", desc := "(III)Z", sig := { parameters := [.int, .int, .int], returnType := some .boolean }, accessFlags := 9, code := some k1c1 }
def k1c2 : Code := { maxStack := 3, maxLocals := 3, code := method_3_code, exceptionTable := #[], attributes := #[] }
def k1m2 : Method := { name := "v", desc := "(III)I", sig := { parameters := [.int, .int, .int], returnType := some .int }, accessFlags := 10, code := some k1c2 }
def k1c3 : Code := { maxStack := 4, maxLocals := 9, code := method_4_code, exceptionTable := #[], attributes := #[] }
def k1m3 : Method := { name := "ok", desc := "([IIIIII)Z", sig := { parameters := [(.array .int), .int, .int, .int, .int, .int], returnType := some .boolean }, accessFlags := 10, code := some k1c3 }
/-- com/example/geotide/geotide/MembersSwapPinLaw -/
def k1 : Class := { plain "com/example/geotide/geotide/MembersSwapPinLaw" (some 0) with
  accessFlags := 49
  interfaces := #[]
  cf := some (fileOf pool1 8 #[] #[{ accessFlags := 2, nameIndex := 5, descriptorIndex := 6, attributes := #[] }, { accessFlags := 9, nameIndex := 25, descriptorIndex := 26, attributes := #[] }, { accessFlags := 10, nameIndex := 11, descriptorIndex := 12, attributes := #[] }, { accessFlags := 10, nameIndex := 21, descriptorIndex := 22, attributes := #[] }] 49 2 #[] #[])
  fields := #[]
  methods := #[k1m0, k1m1, k1m2, k1m3]
  instanceTypes := #[]
  staticTypes := #[]
  resolved := Array.replicate 32 none
  statics := none }

def pool2 : Array CpInfo := pool [(2, .class_ 4), (1, u "java/lang/Object"), (0, u "<init>"), (0, u "()V"), (0, .class_ 8), (0, u "com/example/geotide/geotide/Members"), (67, u "POSITION"), (0, u "I"), (2, u "KEY"), (1, u "ALPHA"), (1, u "X"), (1, u "Y"), (1, u "Z"), (1, u "STRIDE"), (1, u "MEASURE_SPREAD"), (0, u "D"), (11, u "swap"), (0, u "([III)V")] 2

def k2m0 : Method := { name := "<init>", desc := "()V", sig := { parameters := [], returnType := none }, accessFlags := 2, code := none }
def k2c1 : Code := { maxStack := 5, maxLocals := 5, code := prog_44_method_8_code, exceptionTable := #[], attributes := #[] }
def k2m1 : Method := { name := "swap", desc := "([III)V", sig := { parameters := [(.array .int), .int, .int], returnType := none }, accessFlags := 8, code := some k2c1 }
/-- com/example/geotide/geotide/Members -/
def k2 : Class := { plain "com/example/geotide/geotide/Members" (some 0) with
  accessFlags := 48
  interfaces := #[]
  cf := some (fileOf pool2 7 #[] #[{ accessFlags := 2, nameIndex := 5, descriptorIndex := 6, attributes := #[] }, { accessFlags := 8, nameIndex := 105, descriptorIndex := 106, attributes := #[] }] 48 2 #[] #[{ accessFlags := 24, nameIndex := 76, descriptorIndex := 77, attributes := #[] }, { accessFlags := 24, nameIndex := 80, descriptorIndex := 77, attributes := #[] }, { accessFlags := 24, nameIndex := 82, descriptorIndex := 77, attributes := #[] }, { accessFlags := 24, nameIndex := 84, descriptorIndex := 77, attributes := #[] }, { accessFlags := 24, nameIndex := 86, descriptorIndex := 77, attributes := #[] }, { accessFlags := 24, nameIndex := 88, descriptorIndex := 77, attributes := #[] }, { accessFlags := 24, nameIndex := 90, descriptorIndex := 77, attributes := #[] }, { accessFlags := 24, nameIndex := 92, descriptorIndex := 93, attributes := #[] }])
  fields := #[{ name := "POSITION", type := .int, accessFlags := 24, slot := 0, constantValue := 0 }, { name := "KEY", type := .int, accessFlags := 24, slot := 1, constantValue := 0 }, { name := "ALPHA", type := .int, accessFlags := 24, slot := 2, constantValue := 0 }, { name := "X", type := .int, accessFlags := 24, slot := 3, constantValue := 0 }, { name := "Y", type := .int, accessFlags := 24, slot := 4, constantValue := 0 }, { name := "Z", type := .int, accessFlags := 24, slot := 5, constantValue := 0 }, { name := "STRIDE", type := .int, accessFlags := 24, slot := 6, constantValue := 0 }, { name := "MEASURE_SPREAD", type := .double, accessFlags := 24, slot := 7, constantValue := 0 }]
  methods := #[k2m0, k2m1]
  instanceTypes := #[]
  staticTypes := #[.int, .int, .int, .int, .int, .int, .int, .double]
  resolved := Array.replicate 109 none
  statics := none }

def pool3 : Array CpInfo := pool [(1, u "java/lang/Cloneable"), (0, .class_ 1), (0, u "java/lang/Object"), (0, .class_ 3)] 3

/-- java/lang/Cloneable -/
def k3 : Class := { plain "java/lang/Cloneable" (some 0) with
  accessFlags := 1537
  interfaces := #[]
  cf := some (fileOf pool3 2 #[] #[] 1537 4 #[] #[])
  fields := #[]
  methods := #[]
  instanceTypes := #[]
  staticTypes := #[]
  resolved := Array.replicate 8 none
  statics := none }

def pool4 : Array CpInfo := pool [(1, u "java/io/Serializable"), (0, .class_ 1), (0, u "java/lang/Object"), (0, .class_ 3)] 3

/-- java/io/Serializable -/
def k4 : Class := { plain "java/io/Serializable" (some 0) with
  accessFlags := 1537
  interfaces := #[]
  cf := some (fileOf pool4 2 #[] #[] 1537 4 #[] #[])
  fields := #[]
  methods := #[]
  instanceTypes := #[]
  staticTypes := #[]
  resolved := Array.replicate 8 none
  statics := none }

/-- the primitive byte -/
def k5 : Class := { plain "byte" none with kind := .primitive 'B', accessFlags := 0x411 }
/-- [B -/
def k6 : Class := { plain "[B" (some 0) with kind := .array 5 .byte, interfaces := #[3, 4], accessFlags := 1041 }

/-- the primitive int -/
def k7 : Class := { plain "int" none with kind := .primitive 'I', accessFlags := 0x411 }
/-- [I -/
def k8 : Class := { plain "[I" (some 0) with kind := .array 7 .int, interfaces := #[3, 4], accessFlags := 1041 }

def heap : Heap := #[]
def classes : Array Class := #[k0, k1, k2, k3, k4, k5, k6, k7, k8]
def interned : List (Array UInt16 × Addr) := []
def slotsUsed : Nat := 0
def theMethod : MethodId := ⟨1, 1⟩
def args0 : Array Value := #[.int 1, .int 2, .int 3]
def aboutOver (below : List Frame) : State where
  vm := { classes := classes, interned := interned.toArray }
  heap := heap
  slotsUsed := slotsUsed
  threads := #[{ frames := .invoking theMethod args0 :: below }]
def below0 : List Frame := [.native { method := ⟨0, 0⟩, args := #[] }]
def about1 : State := aboutOver below0
def p0 : Program := .bare "" "" ""
def e0 : Env := launch0.env 0 0 0
theorem w_frames : about1.frames = Frame.invoking theMethod args0 :: below0 := rfl
set_option maxRecDepth 65536 in
theorem w_args : argsFit about1.vm theMethod args0 = true := by decide +kernel
set_option maxRecDepth 65536 in
theorem w_heap : heapFits about1 = true := by decide +kernel
set_option maxRecDepth 65536 in
theorem w_runnable : about1.curStatus? = some .runnable := by decide +kernel
set_option maxRecDepth 65536 in
theorem w_alone : about1.alone = true := by decide +kernel
set_option maxRecDepth 65536 in
theorem w_named : about1.methodNamed? x = some theMethod := by decide +kernel
set_option maxRecDepth 65536 in
theorem w_hears : about1.hears theMethod below0 = true := by decide +kernel
set_option maxRecDepth 65536 in
theorem w_ripe : about1.ripe theMethod args0 below0 = true := by decide +kernel
theorem w_running : about1.status = .running := rfl
set_option maxRecDepth 65536 in
theorem w_room : about1.hasRoom e0.platform room_1 = true :=
  launch0.hasRoom_least _ room_1 (by decide +kernel) (by decide +kernel) (by decide +kernel) (by decide +kernel) (by decide +kernel) (by decide +kernel)
theorem allAtoms_all (ts : List Jvm.Cond) (a : Array Jvm.Value) (st : Jvm.State) : (allAtoms ts).before a st = ts.all (fun c => c.before a st) := by
  induction ts with
  | nil => rfl
  | cons c t ih =>
    show (Jvm.Cond.and c (allAtoms t)).before a st = _
    rw [Jvm.Cond.before_and, ih, List.all_cons]
def words1 : List Jvm.Cond := Jvm.Cond.code x code maxLocals ret :: tables_1
/-- a 'code' word, met by the world's own term for the bytes: nothing is compared byte by byte -/
theorem code_word {y : MethodName} {bytes : ByteArray} {mx : Nat} {rt : Option FieldType} {a : Array Value} {s : State} {m : MethodId} {meth : Method} {c : Code} (h1 : s.methodNamed? y = some m) (h2 : s.vm.method? m = some meth) (h3 : meth.code = some c) (h4 : c.code = bytes)
    (h5 : (c.maxLocals == mx && c.exceptionTable.isEmpty && decide (c.maxStack ≤ mostOperands) && decide (meth.sig.returnType = rt) && !meth.locks && decide (parseMethodDescriptor y.desc = some meth.sig)) = true) : (Jvm.Cond.code y bytes mx rt).before a s = true := by
  simp only [Bool.and_eq_true, beq_iff_eq, Bool.not_eq_true', decide_eq_true_eq] at h5
  obtain ⟨⟨⟨⟨⟨g1, g2⟩, g3⟩, g4⟩, g5⟩, g6⟩ := h5
  simp [Cond.before, Cond.holds, Cond.value, h1, h2, h3, h4, g1, g2, g3, g4, g5, g6]
def isCode : Jvm.Cond → Bool
  | .code _ _ _ _ => true
  | _ => false
theorem all_split {L : List Jvm.Cond} {P : Jvm.Cond → Bool} (h1 : L.all (fun c => isCode c || P c) = true) (h2 : ∀ c ∈ L.filter isCode, P c = true) : L.all P = true := by
  refine List.all_eq_true.mpr fun c hc => ?_
  have h := List.all_eq_true.mp h1 c hc
  rcases Bool.eq_false_or_eq_true (isCode c) with hi | hi
  · exact h2 c (List.mem_filter.mpr ⟨hc, hi⟩)
  · simpa [hi] using h
set_option maxRecDepth 65536 in
theorem w_c0 : (Jvm.Cond.code x code maxLocals ret).before args0 about1 = true := code_word (m := ⟨1, 1⟩) (meth := k1m1) (c := k1c1) (by decide +kernel) rfl rfl rfl (by decide +kernel)
set_option maxRecDepth 65536 in
theorem w_c1 : (Jvm.Cond.code ({ cls := "com/example/geotide/geotide/MembersSwapPinLaw", name := "v", desc := "(III)I" } : Jvm.MethodName) method_3_code (3 : Nat) (Option.some Jvm.ClassFile.FieldType.int)).before args0 about1 = true := code_word (m := ⟨1, 2⟩) (meth := k1m2) (c := k1c2) (by decide +kernel) rfl rfl rfl (by decide +kernel)
set_option maxRecDepth 65536 in
theorem w_c2 : (Jvm.Cond.code ({ cls := "com/example/geotide/geotide/Members", name := "swap", desc := "([III)V" } : Jvm.MethodName) prog_44_method_8_code (5 : Nat) (Option.none : Option Jvm.ClassFile.FieldType)).before args0 about1 = true := code_word (m := ⟨2, 1⟩) (meth := k2m1) (c := k2c1) (by decide +kernel) rfl rfl rfl (by decide +kernel)
set_option maxRecDepth 65536 in
theorem w_c3 : (Jvm.Cond.code ({ cls := "com/example/geotide/geotide/MembersSwapPinLaw", name := "ok", desc := "([IIIIII)Z" } : Jvm.MethodName) method_4_code (9 : Nat) (Option.some Jvm.ClassFile.FieldType.boolean)).before args0 about1 = true := code_word (m := ⟨1, 3⟩) (meth := k1m3) (c := k1c3) (by decide +kernel) rfl rfl rfl (by decide +kernel)
def codes1 : List Jvm.Cond := [Jvm.Cond.code x code maxLocals ret, Jvm.Cond.code ({ cls := "com/example/geotide/geotide/MembersSwapPinLaw", name := "v", desc := "(III)I" } : Jvm.MethodName) method_3_code (3 : Nat) (Option.some Jvm.ClassFile.FieldType.int), Jvm.Cond.code ({ cls := "com/example/geotide/geotide/Members", name := "swap", desc := "([III)V" } : Jvm.MethodName) prog_44_method_8_code (5 : Nat) (Option.none : Option Jvm.ClassFile.FieldType), Jvm.Cond.code ({ cls := "com/example/geotide/geotide/MembersSwapPinLaw", name := "ok", desc := "([IIIIII)Z" } : Jvm.MethodName) method_4_code (9 : Nat) (Option.some Jvm.ClassFile.FieldType.boolean)]
set_option maxRecDepth 65536 in
theorem codes_eq : words1.filter isCode = codes1 := rfl
theorem w_codes : ∀ c ∈ words1.filter isCode, c.before args0 about1 = true := by
  rw [codes_eq]
  intro c hc
  simp only [codes1, List.mem_cons, List.not_mem_nil, or_false] at hc
  rcases hc with rfl | rfl | rfl | rfl
  · exact w_c0
  · exact w_c1
  · exact w_c2
  · exact w_c3
set_option maxRecDepth 65536 in
theorem w_t1 : words1.all (fun c => isCode c || c.before args0 about1) = true := by decide +kernel
theorem w_tables : (allAtoms (Jvm.Cond.code x code maxLocals ret :: tables_1)).before args0 about1 = true := by
  rw [allAtoms_all]
  show words1.all (fun c => c.before args0 about1) = true
  refine all_split ?_ w_codes
  rw [w_t1]
set_option maxRecDepth 65536 in
theorem w_case : (Jvm.Cond.and given_1 narrow_1).before args0 about1 = true := by decide +kernel
theorem w_applies : (headSpec (Jvm.Cond.code x code maxLocals ret :: tables_1) room_1).applies x e0.platform about1 = true :=
  (Spec.applies_iff w_frames).mpr ⟨w_running, w_runnable, w_alone, w_named, w_hears, w_ripe, w_room, w_tables⟩
theorem atStart : AtStart classFile x code maxLocals ret World_1 tables_1 room_1 Calls_1 rest_1 Pre_1 launch0 p0 e0 about1 theMethod args0 below0 :=
  ⟨lists_1, trivial, launch0.admits_env _ _ _, launch0.least_env, fairChoices_fair.cas, fairChoices_fair.clock, w_frames, w_args, w_heap, w_applies, trivial, trivial, w_case⟩
end start1
theorem witness_1 : WitnessClaimed_1 := ⟨start1.p0, start1.e0, start1.about1, start1.theMethod, start1.args0, start1.below0, start1.atStart⟩
end Jvm.Pilot.@@N@@
