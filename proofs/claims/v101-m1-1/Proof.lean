import JvmDerived
import JvmDerived.Pilot.@@N@@Statement
import JvmDerived.Pilot.@@N@@Code
set_option linter.unusedVariables false
set_option linter.unusedSimpArgs false
namespace Jvm.Pilot.@@N@@
open Jvm Jvm.ClassFile Sem Op Lib Jvm.Free Jvm.Stand Jvm.LawKit Jvm.RoadKit Bundle Jvm.Pilot.@@N@@.Jvm.D
/-! what the case's words say of the start -/
section OwnS
variable {s : State} {args : Array Value} {t u : Term} {a b : Addr} {cl : Cell} {ty : FieldType} {v : Value}
theorem own_eqv (h : (Jvm.Cond.eq t u).value args s none s [] = some true) (hu : u.eval args s none [] s = some v) : t.eval args s none [] s = some v := by
  obtain ⟨x, y, ha, hb, -, -⟩ := cmp_v (Or.inl h)
  cases hb.symm.trans hu
  rw [ha]
  cases x <;> cases v <;> simp [Jvm.Cond.value, ha, hu] at h <;> simp [h]
theorem own_fld {C n d : String} (h : (Jvm.Cond.eq (Term.field t C n d) u).value args s none s [] = some true) (ht : t.eval args s none [] s = some (.ref a)) (hu : u.eval args s none [] s = some v) : Fld s s.heap a C n d v := by
  have q := own_eqv h hu
  rw [fld_at ht] at q
  exact Fld.start q
theorem own_len {z : Int32} (h : (Jvm.Cond.eq (Term.length t) u).value args s none s [] = some true) (ht : t.eval args s none [] s = some (.ref a)) (A : Arr s s.heap a cl ty) (hu : u.eval args s none [] s = some (.int z)) (hz : ¬ z < 0) : cl.slots.size = z.toNatClampNeg ∧ cl.slots.size < 2 ^ 31 := by
  have q := own_eqv h hu
  have f := Arr.fin (U := s) (Vm.Alike.refl _) A
  have hl : cl.slots.size < 2 ^ 31 := by
    apply Classical.byContradiction
    intro n
    simp [Term.eval, ht, f, n] at q
  rw [len_f ht f hl] at q
  have e : cl.slots.size.toInt32 = z := by simpa using q
  refine ⟨?_, hl⟩
  rw [← e]
  simp only [Int32.toNatClampNeg, len_toInt hl]
  rfl
theorem own_elem {j : Term} {z : Int32} (h : (Jvm.Cond.eq (Term.elem t j) u).value args s none s [] = some true) (ht : t.eval args s none [] s = some (.ref a)) (A : Arr s s.heap a cl ty) (hj : j.eval args s none [] s = some (.int z)) (hu : u.eval args s none [] s = some v) : cl.slots[z.toNatClampNeg]? = some v :=
  (elem_in (own_eqv h hu) ht hj A.1).2
theorem own_has3 {vs : List Value} {z : Int32} {dv : Value} (hf : Fit s) (A : Arr s s.heap a cl ty) (q : cl.slots.size < 2 ^ 31) (S : cl.slots.size = z.toNatClampNeg) (H : HasL cl 0 vs) (hl : z.toNatClampNeg = vs.length := by rfl) : Has cl vs dv ∧ ∀ i, i < cl.slots.size → fits ty (vs.getD i dv) = true := by
  have H' : Has cl vs dv := fun j hj => by
    have := HasL.at (dv := dv) vs 0 H j (by rw [← hl, ← S]; exact hj)
    rwa [Nat.zero_add] at this
  refine ⟨H', fun j hj => ?_⟩
  have e1 : (Nat.toInt32 j).toNatClampNeg = j := by simp only [Int32.toNatClampNeg, len_toInt (Nat.lt_trans hj q)]; rfl
  exact elem_fits (j := Nat.toInt32 j) hf A (idx_in hj q) (by rw [e1]; exact H' j hj)
theorem own_arv {vs : List Value} {z : Int32} (dv : Value) (hf : Fit s) (A : Arr s s.heap a cl ty) (q : cl.slots.size = z.toNatClampNeg ∧ cl.slots.size < 2 ^ 31) (hz : ¬ z < 0) (H : HasL cl 0 vs) (hl : z.toNatClampNeg = vs.length := by rfl) : Arv s s.heap a cl.cls ty z vs dv := by
  obtain ⟨h1, h2⟩ := own_has3 (dv := dv) hf A q.2 q.1 H hl
  exact ⟨cl, A, rfl, q.1, hz, h1, h2⟩
theorem own_fldr {C n d : String} (ht : t.eval args s none [] s = some (.ref a)) (hu : (Term.field t C n d).eval args s none [] s = some v) : Fld s s.heap a C n d v := Fld.start (by rw [← fld_at ht]; exact hu)
end OwnS
end Jvm.Pilot.@@N@@
namespace Jvm.Pilot.@@N@@
open Jvm Jvm.ClassFile Sem Op Lib Jvm.Free Jvm.Stand Jvm.LawKit Jvm.RoadKit Bundle Jvm.Pilot.@@N@@.Jvm.D
/-- from here the run comes to a state of which G holds -/
def OWay (p : Program) (e : Env) (below : List Frame) (G : State → Prop) (T : State) (g : JFrame) : Prop := ∃ t, Steps p.tables e below (T.setTop g) t ∧ G t
/-- how a body ends: it returned, with what Q says of its value, the heap and the places written -/
def OEnd (s : State) (below : List Frame) (Q : Option Value → Heap → List Loc → Prop) (cs sl : Nat) (t : State) : Prop := ∃ o, t.status = .running ∧ Ended t below o ∧ ∃ v L, o = .returned v ∧ Q v t.heap L ∧ FrameEnd s o t L cs sl
/-- a body's contract, as a call wants it -/
def OCon (l : Launch) (y : MethodName) (bytes : ByteArray) (maxL : Nat) (rt : Option FieldType) (ws : List Jvm.Cond) (rm : Room) (Z : State) (as' : Array Value) (h : Heap) (Q : Option Value → Heap → List Loc → Prop) : Prop :=
  MetFree l y (head1 (Jvm.Cond.code y bytes maxL rt :: ws) rm) (fun a U => a = as' ∧ Z.Warmed39 U.vm ∧ U.heap = h) (fun _ _ _ _ _ => True) (fun _ U o U' => ∃ v L, o = .returned v ∧ Q v U'.heap L ∧ FrameEnd U o U' L rm.cells rm.slots)
section Own
variable {p : Program} {l : Launch} {e : Env} {R : Room} {s : State} {m : MethodId} {args : Array Value} {below : List Frame} {meth : Method} {c : Code} {T T' : State} {locs : List Loc} {cells slots : Nat} {Z : State} {a0 : Array Value} {h : Heap} {G : State → Prop} {g g' : JFrame} {Q : Option Value → Heap → List Loc → Prop} {cs sl : Nat}
theorem ogo (q : ∀ t, Steps p.tables e below (T'.setTop g') t → Steps p.tables e below (T.setTop g) t) (w : OWay p e below G T' g') : OWay p e below G T g := by
  obtain ⟨t, h1, h2⟩ := w
  exact ⟨t, q t h1, h2⟩
theorem ogoS (q : Steps p.tables e below (T.setTop g) (T'.setTop g')) (w : OWay p e below G T' g') : OWay p e below G T g := ogo (fun _ k => q.trans k) w
theorem ogoE (q : g = g') (w : OWay p e below G T g') : OWay p e below G T g := q ▸ w
theorem ocon {y : MethodName} {bytes : ByteArray} {maxL : Nat} {rt : Option FieldType} {ws : List Jvm.Cond} {rm : Room} {as' : Array Value} (hp : plainFor y = true)
    (body : ∀ (p : Program) (e : Env) (s : State) (m : MethodId) (below : List Frame) (meth : Method) (c : Code) (s₁ : State), p.tables.exec = Jvm.exec → c.code = bytes → c.maxLocals = maxL → s.vm.findClass y.cls = some m.cls → meth.name = y.name → meth.sig.returnType = rt → meth.locks = false → Z.Warmed39 s.vm →
      Stand p l e rm s m as' below meth c s₁ [] 0 0 → s₁.heap = h → OWay p e below (OEnd s below Q rm.cells rm.slots) s₁ (entryFrame m as' maxL)) : OCon l y bytes maxL rt ws rm Z as' h Q := by
  refine MetFree.of_bodySF hp hisR ?_
  intro p e s m args below meth c s₁ Bd hml0 hP hK
  obtain ⟨rfl, hZ, hh⟩ := hP
  obtain ⟨t, h1, o, h2, h3, h4⟩ := body p e s m below meth c s₁ Bd.exec Bd.bytes hml0 (findClass_of_methodNamed Bd.named) (name_of_methodNamed Bd.named Bd.method).1 Bd.returns Bd.notSynchronized hZ (Stand.of_body Bd) (by rw [← hh, Bd.state]; rfl)
  exact ⟨t, o, h1, h2, h3, h4⟩
theorem wRetN (X : Stand p l e R s m args below meth c T locs cells slots) (hx : p.tables.exec = Jvm.exec) {pc : Nat} {Ls : Array Slot} {z : Int32} {t : FieldType} {rest : List Value} (hret : meth.sig.returnType = some t) (hlk : meth.locks = false) (ht : t = .boolean ∨ t = .byte ∨ t = .char ∨ t = .short)
    (hd : decode c.code pc = .ok (.ireturn, 1)) (hc : cells ≤ cs) (hs : slots ≤ sl) (eT : T.heap = h) (hq : Q (some (.int (nar t z))) h locs) : OWay p e below (OEnd s below Q cs sl) T (mkF m pc Ls (.int z :: rest)) := by
  obtain ⟨fs, hr, hrun, hended, hW, hsame⟩ := X.leave (v := some (.int (nar t z))) (fun q => by rw [hret] at q; cases q) hlk
  exact ⟨_, retN X hx hret ht hd hr, _, hrun, hended, _, _, rfl, by subst eT; exact hq, ⟨_, rfl⟩, hW, hsame.mono hc hs⟩
theorem wRet (X : Stand p l e R s m args below meth c T locs cells slots) (hx : p.tables.exec = Jvm.exec) {pc : Nat} {Ls : Array Slot} {w : Value} {t : FieldType} {i : Instr} {rest : List Value} (hret : meth.sig.returnType = some t) (hlk : meth.locks = false) (hn : narrow t w = w)
    (hi : (i = .ireturn ∧ (t = .int ∨ t = .boolean ∨ t = .byte ∨ t = .char ∨ t = .short) ∧ ∃ z, w = .int z) ∨ (i = .lreturn ∧ t = .long ∧ ∃ z, w = .long z) ∨ (i = .dreturn ∧ t = .double ∧ ∃ z, w = .double z) ∨ (i = .freturn ∧ t = .float ∧ ∃ z, w = .float z) ∨ (i = .areturn ∧ t.isReference = true ∧ w.isRef = true))
    (hd : decode c.code pc = .ok (i, 1)) (hc : cells ≤ cs) (hs : slots ≤ sl) (eT : T.heap = h) (hq : Q (some w) h locs) : OWay p e below (OEnd s below Q cs sl) T (mkF m pc Ls (w :: rest)) := by
  obtain ⟨fs, hr, hrun, hended, hW, hsame⟩ := X.leave (v := some w) (fun q => by rw [hret] at q; cases q) hlk
  exact ⟨_, retOut X hx hret hn hi hd hr, _, hrun, hended, _, _, rfl, by subst eT; exact hq, ⟨_, rfl⟩, hW, hsame.mono hc hs⟩
theorem wRetV (X : Stand p l e R s m args below meth c T locs cells slots) (hx : p.tables.exec = Jvm.exec) {pc : Nat} {Ls : Array Slot} (hret : meth.sig.returnType = none) (hlk : meth.locks = false)
    (hd : decode c.code pc = .ok (.return_, 1)) (hc : cells ≤ cs) (hs : slots ≤ sl) (eT : T.heap = h) (hq : Q none h locs) : OWay p e below (OEnd s below Q cs sl) T (mkF m pc Ls []) := by
  obtain ⟨fs, hr, hrun, hended, hW, hsame⟩ := X.leave (v := none) (fun _ => rfl) hlk
  exact ⟨_, X.returnOut hx hret hd hr, _, hrun, hended, _, _, rfl, by subst eT; exact hq, ⟨_, rfl⟩, hW, hsame.mono hc hs⟩
theorem wStatic (X : Stand p l e R s m args below meth c T locs cells slots) (hx : p.tables.exec = Jvm.exec) (hZ : Z.Warmed39 s.vm) {own : String} {index : Nat} {y : MethodName} {bytes : ByteArray} {maxL : Nat} {rt : Option FieldType} {rm : Room} {as' : Array Value} (hown : s.vm.findClass own = some m.cls)
    (w1 : (Jvm.Cond.methodLink own index y).before a0 Z = true) (w2 : (Jvm.Cond.static y).before a0 Z = true) (w3 : (Jvm.Cond.initialized y.cls).before a0 Z = true) (w4 : (Jvm.Cond.code y bytes maxL rt).before a0 Z = true) (hy : y.cls ≠ "java/lang/invoke/MethodHandle" ∧ y.cls ≠ "java/lang/invoke/VarHandle")
    (hM : OCon l y bytes maxL rt [] rm Z as' h Q) (W : Nat) (hf : rm.frames + 1 ≤ R.frames) (hl : W + (maxL + 11) + rm.locals ≤ R.locals) {g : JFrame} (hg : g.method = m) (hsize : g.locals.size = c.maxLocals) {argsL rest : List Value} (hlen : ∀ sig, parseMethodDescriptor y.desc = some sig → argsL.length = sig.parameters.length)
    (hstack : g.stack = argsL.reverse ++ rest) (hW : 2 * g.monitorRoom + (rest.map fun v => v.category).sum ≤ W) (hd : decode c.code g.pc = .ok (.invokestatic index, 3)) (has : argsL.toArray = as') (eT : T.heap = h) (hc : cells + rm.cells ≤ R.cells) (hs : slots + rm.slots ≤ R.slots) :
    ∃ (v : Option Value) (T' : State) (L : List Loc), Stand p l e R s m args below meth c T' (locs ++ L) (cells + rm.cells) (slots + rm.slots) ∧ Q v T'.heap L ∧ ∀ target, Steps p.tables e below (T'.setTop { g with pc := g.pc + 3, stack := v.toList ++ rest }) target → Steps p.tables e below (T.setTop g) target := by
  obtain ⟨v, _, ⟨T1, L1, k1, n1⟩, -, X1, ⟨Lc, hQ, l1, y1, z1⟩, st⟩ := Jvm.LawKit.callS X hx (y := y) hown (mvT hZ w1) (mvT hZ w2) (mvT hZ w3) (mvT hZ w4) hy (backOf (W := W) hM hZ w4 w3 hf hl) (g := g) hg hsize (argsL := argsL) (rest := rest) hlen hstack hW hd (fun _ _ => ⟨has, eT, hc, hs⟩)
  dsimp only [Pt.U, Pt.locs, Pt.cells, Pt.slots] at X1 l1 y1 z1 st hQ
  subst l1 y1 z1
  exact ⟨v, T1, Lc, X1, hQ, st⟩
theorem wInit (X : Stand p l e R s m args below meth c T locs cells slots) (hx : p.tables.exec = Jvm.exec) (hZ : Z.Warmed39 s.vm) {own : String} {index : Nat} {y : MethodName} {bytes : ByteArray} {maxL : Nat} {rm : Room} {as' : Array Value} (hy1 : y.name = "<init>") (hown : s.vm.findClass own = some m.cls)
    (w1 : (Jvm.Cond.methodLink own index y).before a0 Z = true) (w2 : (Jvm.Cond.instanceMethod y).before a0 Z = true) (w3 : (Jvm.Cond.initialized y.cls).before a0 Z = true) (w4 : (Jvm.Cond.code y bytes maxL none).before a0 Z = true) (hy : y.cls ≠ "java/lang/invoke/MethodHandle" ∧ y.cls ≠ "java/lang/invoke/VarHandle")
    (hM : OCon l y bytes maxL none [] rm Z as' h Q) (W : Nat) (hf : rm.frames + 1 ≤ R.frames) (hl : W + (maxL + 11) + rm.locals ≤ R.locals) {g : JFrame} (hg : g.method = m) (hsize : g.locals.size = c.maxLocals) {a : Addr} {argsL rest : List Value} (hlen : ∀ sig, parseMethodDescriptor y.desc = some sig → argsL.length = sig.parameters.length)
    (hstack : g.stack = argsL.reverse ++ .ref a :: rest) (hW : 2 * g.monitorRoom + (rest.map fun v => v.category).sum ≤ W) (hd : decode c.code g.pc = .ok (.invokespecial index, 3)) (has : (.ref a :: argsL).toArray = as') (eT : T.heap = h) (hc : cells + rm.cells ≤ R.cells) (hs : slots + rm.slots ≤ R.slots) :
    ∃ (v : Option Value) (T' : State) (L : List Loc), Stand p l e R s m args below meth c T' (locs ++ L) (cells + rm.cells) (slots + rm.slots) ∧ Q v T'.heap L ∧ Steps p.tables e below (T.setTop g) (T'.setTop { g with pc := g.pc + 3, stack := v.toList ++ rest }) := by
  obtain ⟨v, _, ⟨T1, L1, k1, n1⟩, -, X1, ⟨Lc, hQ, l1, y1, z1⟩, st⟩ := X.specialBack hx (y := y) hy1 hown (mvT hZ w1) (mvT hZ w2) (mvT hZ w4) hy (backOf (W := W) hM hZ w4 w3 hf hl) (g := g) hg hsize (Steps.refl _) (a := a) (argsL := argsL) (rest := rest) hlen hstack hW hd (fun _ _ => ⟨has, eT, hc, hs⟩)
  dsimp only [Pt.U, Pt.locs, Pt.cells, Pt.slots] at X1 l1 y1 z1 st hQ
  subst l1 y1 z1
  exact ⟨v, T1, Lc, X1, hQ, st⟩
theorem wVirtual (X : Stand p l e R s m args below meth c T locs cells slots) (hx : p.tables.exec = Jvm.exec) (hZ : Z.Warmed39 s.vm) {own C : String} {index : Nat} {y z : MethodName} {bytes : ByteArray} {maxL : Nat} {rt : Option FieldType} {rm : Room} {as' : Array Value} (hown : s.vm.findClass own = some m.cls)
    (w1 : (Jvm.Cond.methodLink own index y).before a0 Z = true) (w2 : (Jvm.Cond.declares y).before a0 Z = true) (nf : NotFace s y) (w5 : (Jvm.Cond.selects C y z).before a0 Z = true) (w6 : (Jvm.Cond.instanceMethod z).before a0 Z = true) (w3 : (Jvm.Cond.initialized z.cls).before a0 Z = true) (w4 : (Jvm.Cond.code z bytes maxL rt).before a0 Z = true)
    (hy : y.cls ≠ "java/lang/invoke/MethodHandle" ∧ y.cls ≠ "java/lang/invoke/VarHandle") (hM : OCon l z bytes maxL rt [] rm Z as' h Q) (W : Nat) (hf : rm.frames + 1 ≤ R.frames) (hl : W + (maxL + 11) + rm.locals ≤ R.locals) {b : Addr} (E : Exa Z h b C) {g : JFrame} (hg : g.method = m) (hsize : g.locals.size = c.maxLocals) {argsL rest : List Value} (hlen : ∀ sig, parseMethodDescriptor y.desc = some sig → argsL.length = sig.parameters.length)
    (hstack : g.stack = argsL.reverse ++ .ref b :: rest) (hW : 2 * g.monitorRoom + (rest.map fun v => v.category).sum ≤ W) (hd : decode c.code g.pc = .ok (.invokevirtual index, 3)) (has : (.ref b :: argsL).toArray = as') (eT : T.heap = h) (hc : cells + rm.cells ≤ R.cells) (hs : slots + rm.slots ≤ R.slots) :
    ∃ (v : Option Value) (T' : State) (L : List Loc), Stand p l e R s m args below meth c T' (locs ++ L) (cells + rm.cells) (slots + rm.slots) ∧ Q v T'.heap L ∧ Steps p.tables e below (T.setTop g) (T'.setTop { g with pc := g.pc + 3, stack := v.toList ++ rest }) := by
  obtain ⟨cq, kq, qa, qb, qc⟩ := isOf hZ eT E
  obtain ⟨v, _, ⟨T1, L1, k1, n1⟩, -, X1, ⟨Lc, hQ, l1, y1, z1⟩, st⟩ := X.virtualBack hx (y := y) (z := z) hown (mvT hZ w1) (mvT hZ w2) nf (mvT hZ w5) (mvT hZ w6) hy (backOf (W := W) hM hZ w4 w3 hf hl) qa qc (g := g) hg hsize (Steps.refl _) (argsL := argsL) (rest := rest) hlen hstack hW hd (fun _ _ => ⟨has, eT, hc, hs⟩)
  dsimp only [Pt.U, Pt.locs, Pt.cells, Pt.slots] at X1 l1 y1 z1 st hQ
  subst l1 y1 z1
  exact ⟨v, T1, Lc, X1, hQ, st⟩
end Own
end Jvm.Pilot.@@N@@
namespace Jvm.Pilot.@@N@@
open Jvm Jvm.ClassFile Sem Op Lib Jvm.Free Jvm.Stand Jvm.LawKit Jvm.RoadKit Bundle Jvm.Pilot.@@N@@.Jvm.D
theorem own_clone {Z : State} {h : Heap} {b : Addr} {c : Cell} {vs : List Value} {z : Int32} {ty : FieldType} {dv : Value} (A : Arr Z h b (cloneOf c) ty) (S : c.slots.size = z.toNatClampNeg) (N : ¬ z < 0) (H : Has c vs dv) (G : ∀ i, i < c.slots.size → fits ty (vs.getD i dv) = true) : Arv Z h b c.cls ty z vs dv := ⟨cloneOf c, A, rfl, S, N, H, G⟩
theorem pn_com_example_marduk_marduk_model_MessageType : plainName "com/example/marduk/marduk/model/MessageType" = true := by first | (simp [plainName, overriddenIn]; done) | decide +kernel
theorem d2_0 : decode prog_20_method_1_code 0 = .ok (.getstatic 13, 3) := by decide +kernel
theorem d2_3 : decode prog_20_method_1_code 3 = .ok (.invokevirtual 17, 3) := by decide +kernel
theorem d2_6 : decode prog_20_method_1_code 6 = .ok (.checkcast 18, 3) := by decide +kernel
theorem d2_9 : decode prog_20_method_1_code 9 = .ok (.areturn, 1) := by decide +kernel
def values_b_rm : Room := { frames := 1, cells := 1, slots := 3, locals := 14 }
def values_b_Q (Z : State) (av : Addr) (cl : Cell) (e1 : Addr) (e2 : Addr) (e3 : Addr) (h0 : Heap) (n0 : Nat) (v : Option Value) (h : Heap) (L : List Loc) : Prop := ∃ b : Addr, (v = some (.ref b)) ∧ (Fr n0 L) ∧ (Keep h0 h []) ∧ (n0 ≤ b) ∧ (h0.size ≤ b) ∧ (Arv Z h b cl.cls (.object "com/example/marduk/marduk/model/MessageType") (3 : Int32) [(.ref e1), (.ref e2), (.ref e3)] .null)
theorem values_b_ef (m : MethodId)  : entryFrame m #[] 0 = mkF m 0 #[] [] := by first | (simp [entryFrame, mkF, argsToLocals, Value.category]; done) | rfl
set_option maxRecDepth 65536 in
set_option maxHeartbeats 40000000 in
theorem values_b_c (l : Launch) (Z : State) (az : Array Value) (hw : ∀ d ∈ tables_1, d.before az Z = true) (ws : List Jvm.Cond) (av : Addr) (cl : Cell) (e1 : Addr) (e2 : Addr) (e3 : Addr) (h0 : Heap) (n0 : Nat) (Z0 : n0 ≤ h0.size) (hp0 : Sta Z Z.heap "com/example/marduk/marduk/model/MessageType" "$VALUES" "[Lcom/example/marduk/marduk/model/MessageType;" (.ref av)) (hp1 : Old Z n0 h0) (hA : Arr Z Z.heap av cl (.object "com/example/marduk/marduk/model/MessageType")) (hE : Exa Z Z.heap av "[Lcom/example/marduk/marduk/model/MessageType;") (hF : FitC Z cl) (hS : cl.slots.size = (3 : Int32).toNatClampNeg) (hH : Has cl [(.ref e1), (.ref e2), (.ref e3)] .null) (hGt : ∀ i, i < cl.slots.size → fits (.object "com/example/marduk/marduk/model/MessageType") (([(.ref e1), (.ref e2), (.ref e3)] : List Value).getD i .null) = true) :
    OCon l (⟨"com/example/marduk/marduk/model/MessageType", "values", "()[Lcom/example/marduk/marduk/model/MessageType;"⟩ : MethodName) prog_20_method_1_code 0 (some (.array (.object "com/example/marduk/marduk/model/MessageType"))) ws values_b_rm Z #[] h0 (values_b_Q Z av cl e1 e2 e3 h0 n0) := by
  refine ocon (plainFor_of_name pn_com_example_marduk_marduk_model_MessageType) ?_
  intro p e s m below meth c s₁ hx hby hml hown hnm hret hlk hZ X0 eh0
  have N0 := Fr.nil n0
  have K0 := Keep.refl h0 []
  refine ogoE (values_b_ef m ) ?_
  generalize hG : (OEnd s below (values_b_Q Z av cl e1 e2 e3 h0 n0) values_b_rm.cells values_b_rm.slots) = G
  show OWay p e below G s₁ (mkF m 0 #[] [])
  obtain ⟨T1, X1, eT1, st1⟩ := getS2 X0 hx hZ hown (host := "") (Or.inl (hw _ (List.mem_of_getElem? (i := 7) rfl))) Via.refl eh0 (hp0.ext hp1.2) (g := (mkF m 0 #[] [])) rfl (hb hby d2_0)
  refine ogo st1 ?_
  show OWay p e below G T1 (mkF m 3 #[] [(.ref av)])
  obtain ⟨T2, h2, X2, eT2, E2, A2, D2, st2⟩ := cloneA X1 hx hZ hown (hw _ (List.mem_of_getElem? (i := 9) rfl)) (hw _ (List.mem_of_getElem? (i := 10) rfl)) (hw _ (List.mem_of_getElem? (i := 14) rfl)) (hw _ (List.mem_of_getElem? (i := 12) rfl)) (hw _ (List.mem_of_getElem? (i := 13) rfl)) (hw _ (List.mem_of_getElem? (i := 15) rfl)) eT1 (hA.ext hp1.2) (hE.ext hp1.2) hF (g := (mkF m 3 #[] [(.ref av)])) rfl (by rw [hml]; rfl) rfl (hb hby d2_3) (by decide) (W := 0) (cap := 3) (by show 2 * 0 + _ ≤ _; exact Nat.le_of_eq rfl) (by decide) (by rw [hS]; decide) (by decide) (by decide)
  obtain ⟨b2, g2⟩ : ∃ z, z = h0.size := ⟨_, rfl⟩
  rw [← g2] at A2 D2 st2
  have g_b2 : n0 ≤ b2 := Nat.le_trans Z0 (Nat.le_of_eq g2.symm)
  have sz_b2 : h0.size ≤ b2 := Nat.le_trans K0.1 (Nat.le_of_eq g2.symm)
  have K3 : Keep h0 h2 [] := K0.ext E2
  have V_b2 : Arv Z h2 b2 cl.cls (.object "com/example/marduk/marduk/model/MessageType") (3 : Int32) [(.ref e1), (.ref e2), (.ref e3)] .null := own_clone A2 hS (by decide) hH hGt
  refine ogo st2 ?_
  show OWay p e below G T2 (mkF m 6 #[] [(.ref b2)])
  obtain ⟨T4, X4, eT4, st4⟩ := castY X2 hx hZ hown (hw _ (List.mem_of_getElem? (i := 20) rfl)) eT2 (Ins.self D2) (g := (mkF m 6 #[] [(.ref b2)])) rfl rfl (hb hby d2_6)
  refine ogo st4 ?_
  show OWay p e below G T4 (mkF m 9 #[] [(.ref b2)])
  subst hG
  refine wRet X4 hx hret hlk rfl (Or.inr (Or.inr (Or.inr (Or.inr ⟨rfl, rfl, rfl⟩)))) (hb hby d2_9) (by decide) (by decide) eT4 ?_
  exact ⟨b2, rfl, N0, K3, g_b2, sz_b2, V_b2⟩
theorem d1_0 : decode prog_20_method_6_code 0 = .ok (.invokestatic 39, 3) := by decide +kernel
theorem pd____Lcom_example_marduk_marduk_model_MessageType_ : parseMethodDescriptor "()[Lcom/example/marduk/marduk/model/MessageType;" = some ⟨[], some (.array (.object "com/example/marduk/marduk/model/MessageType"))⟩ := by decide +kernel
theorem d1_3 : decode prog_20_method_6_code 3 = .ok (.astore_n 1, 1) := by decide +kernel
theorem d1_4 : decode prog_20_method_6_code 4 = .ok (.aload_n 1, 1) := by decide +kernel
theorem d1_5 : decode prog_20_method_6_code 5 = .ok (.arraylength, 1) := by decide +kernel
theorem d1_6 : decode prog_20_method_6_code 6 = .ok (.istore_n 2, 1) := by decide +kernel
theorem d1_7 : decode prog_20_method_6_code 7 = .ok (.iconst 0, 1) := by decide +kernel
theorem d1_8 : decode prog_20_method_6_code 8 = .ok (.istore_n 3, 1) := by decide +kernel
theorem d1_9 : decode prog_20_method_6_code 9 = .ok (.iload_n 3, 1) := by decide +kernel
theorem d1_10 : decode prog_20_method_6_code 10 = .ok (.iload_n 2, 1) := by decide +kernel
theorem d1_11 : decode prog_20_method_6_code 11 = .ok (.if_icmp .ge 26, 3) := by decide +kernel
theorem d1_14 : decode prog_20_method_6_code 14 = .ok (.aload_n 1, 1) := by decide +kernel
theorem d1_15 : decode prog_20_method_6_code 15 = .ok (.iload_n 3, 1) := by decide +kernel
theorem d1_16 : decode prog_20_method_6_code 16 = .ok (.aaload, 1) := by decide +kernel
theorem d1_17 : decode prog_20_method_6_code 17 = .ok (.astore 4, 2) := by decide +kernel
theorem d1_19 : decode prog_20_method_6_code 19 = .ok (.aload 4, 2) := by decide +kernel
theorem d1_21 : decode prog_20_method_6_code 21 = .ok (.getfield 32, 3) := by decide +kernel
theorem d1_24 : decode prog_20_method_6_code 24 = .ok (.iload_n 0, 1) := by decide +kernel
theorem d1_25 : decode prog_20_method_6_code 25 = .ok (.if_icmp .ne 6, 3) := by decide +kernel
theorem d1_28 : decode prog_20_method_6_code 28 = .ok (.aload 4, 2) := by decide +kernel
theorem d1_30 : decode prog_20_method_6_code 30 = .ok (.areturn, 1) := by decide +kernel
def ofCode1_rm : Room := { frames := 2, cells := 1, slots := 3, locals := 25 }
def ofCode1_Q (Z : State) (p0 : Int32) (av : Addr) (cl : Cell) (e1 : Addr) (e2 : Addr) (e3 : Addr) (h0 : Heap) (n0 : Nat) (v : Option Value) (h : Heap) (L : List Loc) : Prop := (v = some (.ref e1)) ∧ (Fr n0 L) ∧ (Keep h0 h [])
theorem ofCode1_ef (m : MethodId) (p0 : Int32) : entryFrame m #[(.int p0)] 5 = mkF m 0 #[.val (.int p0), .unset, .unset, .unset, .unset] [] := by first | (simp [entryFrame, mkF, argsToLocals, Value.category]; done) | rfl
set_option maxRecDepth 65536 in
set_option maxHeartbeats 40000000 in
theorem ofCode1_c (l : Launch) (Z : State) (az : Array Value) (hw : ∀ d ∈ tables_1, d.before az Z = true) (ws : List Jvm.Cond) (p0 : Int32) (av : Addr) (cl : Cell) (e1 : Addr) (e2 : Addr) (e3 : Addr) (h0 : Heap) (n0 : Nat) (Z0 : n0 ≤ h0.size) (hp0 : Sta Z Z.heap "com/example/marduk/marduk/model/MessageType" "$VALUES" "[Lcom/example/marduk/marduk/model/MessageType;" (.ref av)) (hp1 : Old Z n0 h0) (hp2 : Fld Z Z.heap e1 "com/example/marduk/marduk/model/MessageType" "code" "I" (.int (1 : Int32))) (hp3 : Fld Z Z.heap e2 "com/example/marduk/marduk/model/MessageType" "code" "I" (.int (2 : Int32))) (hp4 : Fld Z Z.heap e3 "com/example/marduk/marduk/model/MessageType" "code" "I" (.int (3 : Int32))) (hA : Arr Z Z.heap av cl (.object "com/example/marduk/marduk/model/MessageType")) (hE : Exa Z Z.heap av "[Lcom/example/marduk/marduk/model/MessageType;") (hF : FitC Z cl) (hS : cl.slots.size = (3 : Int32).toNatClampNeg) (hH : Has cl [(.ref e1), (.ref e2), (.ref e3)] .null) (hGt : ∀ i, i < cl.slots.size → fits (.object "com/example/marduk/marduk/model/MessageType") (([(.ref e1), (.ref e2), (.ref e3)] : List Value).getD i .null) = true) (heq : (1 : Int32) = p0) :
    OCon l (⟨"com/example/marduk/marduk/model/MessageType", "ofCode", "(I)Lcom/example/marduk/marduk/model/MessageType;"⟩ : MethodName) prog_20_method_6_code 5 (some (.object "com/example/marduk/marduk/model/MessageType")) ws ofCode1_rm Z #[(.int p0)] h0 (ofCode1_Q Z p0 av cl e1 e2 e3 h0 n0) := by
  refine ocon (plainFor_of_name pn_com_example_marduk_marduk_model_MessageType) ?_
  intro p e s m below meth c s₁ hx hby hml hown hnm hret hlk hZ X0 eh0
  have N0 := Fr.nil n0
  have K0 := Keep.refl h0 []
  refine ogoE (ofCode1_ef m p0) ?_
  generalize hG : (OEnd s below (ofCode1_Q Z p0 av cl e1 e2 e3 h0 n0) ofCode1_rm.cells ofCode1_rm.slots) = G
  show OWay p e below G s₁ (mkF m 0 #[.val (.int p0), .unset, .unset, .unset, .unset] [])
  obtain ⟨_, T1, L1, X1, hQ1, st1⟩ := wStatic X0 hx hZ (y := (⟨"com/example/marduk/marduk/model/MessageType", "values", "()[Lcom/example/marduk/marduk/model/MessageType;"⟩ : MethodName)) hown (hw _ (List.mem_of_getElem? (i := 4) rfl)) (hw _ (List.mem_of_getElem? (i := 5) rfl)) (hw _ (List.mem_of_getElem? (i := 2) rfl)) (hw _ (List.mem_of_getElem? (i := 6) rfl)) (by decide) (values_b_c l Z az hw [] av cl e1 e2 e3 h0 n0 Z0 hp0 hp1 hA hE hF hS hH hGt) 0 (by decide) (by decide) (g := (mkF m 0 #[.val (.int p0), .unset, .unset, .unset, .unset] [])) rfl (by rw [hml]; rfl) (argsL := []) (rest := []) (lenOf pd____Lcom_example_marduk_marduk_model_MessageType_ rfl) rfl (by show 2 * 0 + _ ≤ _; exact Nat.le_of_eq rfl) (hb hby d1_0) rfl eh0 (by decide) (by decide)
  obtain ⟨b_2, rfl, N1q, Kq1, P3, P4, P5⟩ := hQ1
  have N1 := Fr.app N0 N1q
  have K6 : Keep h0 T1.heap [] := K0.trans Kq1 all0
  have g_b_2 := P3
  have sz_b_2 : h0.size ≤ b_2 := Nat.le_trans K0.1 P4
  refine ogo st1 ?_
  show OWay p e below G T1 (mkF m 3 #[.val (.int p0), .unset, .unset, .unset, .unset] [(.ref b_2)])
  refine ogo (fun _ z_ => XS.astoreN X1.here hx rfl (hb hby d1_3) rfl rfl (l' := #[.val (.int p0), .val (.ref b_2), .unset, .unset, .unset]) rfl z_) ?_
  show OWay p e below G T1 (mkF m 4 #[.val (.int p0), .val (.ref b_2), .unset, .unset, .unset] [])
  refine ogo (fun _ z_ => XS.aloadN X1.here hx rfl (hb hby d1_4) rfl rfl z_) ?_
  show OWay p e below G T1 (mkF m 5 #[.val (.int p0), .val (.ref b_2), .unset, .unset, .unset] [(.ref b_2)])
  obtain ⟨cl_o7, Ar_o7, -, S_o7, N_o7, -, -⟩ := id P5
  refine ogo (fun _ z_ => X1.arraylength hx Ar_o7.1 (State.isArrayOf_alike hZ.alike Ar_o7.2.1) (g := (mkF m 5 #[.val (.int p0), .val (.ref b_2), .unset, .unset, .unset] [(.ref b_2)])) rfl rfl (hb hby d1_5) _ z_) ?_
  rw [len_of S_o7 N_o7]
  show OWay p e below G T1 (mkF m 6 #[.val (.int p0), .val (.ref b_2), .unset, .unset, .unset] [(.int (3 : Int32))])
  refine ogo (fun _ z_ => XS.istoreN X1.here hx rfl (hb hby d1_6) rfl (l' := #[.val (.int p0), .val (.ref b_2), .val (.int (3 : Int32)), .unset, .unset]) rfl z_) ?_
  show OWay p e below G T1 (mkF m 7 #[.val (.int p0), .val (.ref b_2), .val (.int (3 : Int32)), .unset, .unset] [])
  refine ogo (fun _ z_ => XS.iconst X1.here hx rfl (hb hby d1_7) z_) ?_
  show OWay p e below G T1 (mkF m 8 #[.val (.int p0), .val (.ref b_2), .val (.int (3 : Int32)), .unset, .unset] [(.int (0 : Int32))])
  refine ogo (fun _ z_ => XS.istoreN X1.here hx rfl (hb hby d1_8) rfl (l' := #[.val (.int p0), .val (.ref b_2), .val (.int (3 : Int32)), .val (.int (0 : Int32)), .unset]) rfl z_) ?_
  show OWay p e below G T1 (mkF m 9 #[.val (.int p0), .val (.ref b_2), .val (.int (3 : Int32)), .val (.int (0 : Int32)), .unset] [])
  refine ogo (fun _ z_ => XS.iloadN X1.here hx rfl (hb hby d1_9) rfl z_) ?_
  show OWay p e below G T1 (mkF m 10 #[.val (.int p0), .val (.ref b_2), .val (.int (3 : Int32)), .val (.int (0 : Int32)), .unset] [(.int (0 : Int32))])
  refine ogo (fun _ z_ => XS.iloadN X1.here hx rfl (hb hby d1_10) rfl z_) ?_
  show OWay p e below G T1 (mkF m 11 #[.val (.int p0), .val (.ref b_2), .val (.int (3 : Int32)), .val (.int (0 : Int32)), .unset] [(.int (3 : Int32)), (.int (0 : Int32))])
  refine ogo (fun _ z_ => XS.icmpNo X1.here hx rfl (hb hby d1_11) rfl (tlt (by decide)).2.1 z_) ?_
  show OWay p e below G T1 (mkF m 14 #[.val (.int p0), .val (.ref b_2), .val (.int (3 : Int32)), .val (.int (0 : Int32)), .unset] [])
  refine ogo (fun _ z_ => XS.aloadN X1.here hx rfl (hb hby d1_14) rfl rfl z_) ?_
  show OWay p e below G T1 (mkF m 15 #[.val (.int p0), .val (.ref b_2), .val (.int (3 : Int32)), .val (.int (0 : Int32)), .unset] [(.ref b_2)])
  refine ogo (fun _ z_ => XS.iloadN X1.here hx rfl (hb hby d1_15) rfl z_) ?_
  show OWay p e below G T1 (mkF m 16 #[.val (.int p0), .val (.ref b_2), .val (.int (3 : Int32)), .val (.int (0 : Int32)), .unset] [(.int (0 : Int32)), (.ref b_2)])
  obtain ⟨cl_o8, Ar_o8, q_o8, S_o8, N_o8, H_o8, G_o8⟩ := id P5
  have hin_o8 : ¬ ((0 : Int32) < 0 ∨ cl_o8.slots.size ≤ ((0 : Int32)).toNatClampNeg) := inb_of S_o8 ⟨by decide, by decide⟩
  have hat_o8 : cl_o8.slots[((0 : Int32)).toNatClampNeg]? = some (.ref e1) := H_o8.at hin_o8 rfl
  refine ogo (fun _ z_ => X1.aaload hx (j := (0 : Int32)) (v := (.ref e1)) Ar_o8.1 (State.isArrayOf_alike hZ.alike Ar_o8.2.1) rfl Ar_o8.2.2 hin_o8 hat_o8 (g := (mkF m 16 #[.val (.int p0), .val (.ref b_2), .val (.int (3 : Int32)), .val (.int (0 : Int32)), .unset] [(.int (0 : Int32)), (.ref b_2)])) rfl rfl (hb hby d1_16) _ z_) ?_
  show OWay p e below G T1 (mkF m 17 #[.val (.int p0), .val (.ref b_2), .val (.int (3 : Int32)), .val (.int (0 : Int32)), .unset] [(.ref e1)])
  refine ogo (fun _ z_ => XS.astore X1.here hx rfl (hb hby d1_17) rfl rfl (l' := #[.val (.int p0), .val (.ref b_2), .val (.int (3 : Int32)), .val (.int (0 : Int32)), .val (.ref e1)]) rfl z_) ?_
  show OWay p e below G T1 (mkF m 19 #[.val (.int p0), .val (.ref b_2), .val (.int (3 : Int32)), .val (.int (0 : Int32)), .val (.ref e1)] [])
  refine ogo (fun _ z_ => XS.aload X1.here hx rfl (hb hby d1_19) rfl rfl z_) ?_
  show OWay p e below G T1 (mkF m 21 #[.val (.int p0), .val (.ref b_2), .val (.int (3 : Int32)), .val (.int (0 : Int32)), .val (.ref e1)] [(.ref e1)])
  have F9 : Old Z n0 T1.heap := (hp1.keep Kq1 all0)
  obtain ⟨T10, X10, eT10, st10⟩ := getF X1 hx hZ hown (host := "") (Or.inl (hw _ (List.mem_of_getElem? (i := 22) rfl))) Via.refl rfl (hp2.ext F9.2) (g := (mkF m 21 #[.val (.int p0), .val (.ref b_2), .val (.int (3 : Int32)), .val (.int (0 : Int32)), .val (.ref e1)] [(.ref e1)])) rfl rfl (hb hby d1_21)
  refine ogo st10 ?_
  show OWay p e below G T10 (mkF m 24 #[.val (.int p0), .val (.ref b_2), .val (.int (3 : Int32)), .val (.int (0 : Int32)), .val (.ref e1)] [(.int (1 : Int32))])
  refine ogo (fun _ z_ => XS.iloadN X10.here hx rfl (hb hby d1_24) rfl z_) ?_
  show OWay p e below G T10 (mkF m 25 #[.val (.int p0), .val (.ref b_2), .val (.int (3 : Int32)), .val (.int (0 : Int32)), .val (.ref e1)] [(.int p0), (.int (1 : Int32))])
  refine ogo (fun _ z_ => XS.icmpNo X10.here hx rfl (hb hby d1_25) rfl (teq (heq)).2 z_) ?_
  show OWay p e below G T10 (mkF m 28 #[.val (.int p0), .val (.ref b_2), .val (.int (3 : Int32)), .val (.int (0 : Int32)), .val (.ref e1)] [])
  refine ogo (fun _ z_ => XS.aload X10.here hx rfl (hb hby d1_28) rfl rfl z_) ?_
  show OWay p e below G T10 (mkF m 30 #[.val (.int p0), .val (.ref b_2), .val (.int (3 : Int32)), .val (.int (0 : Int32)), .val (.ref e1)] [(.ref e1)])
  subst hG
  refine wRet X10 hx hret hlk rfl (Or.inr (Or.inr (Or.inr (Or.inr ⟨rfl, rfl, rfl⟩)))) (hb hby d1_30) (by decide) (by decide) eT10 ?_
  exact ⟨rfl, N1, K6⟩
theorem pn_com_example_marduk_marduk_model_MessageTypeOfCodePinLaw : plainName "com/example/marduk/marduk/model/MessageTypeOfCodePinLaw" = true := by first | (simp [plainName, overriddenIn]; done) | decide +kernel
theorem d3_0 : decode method_2_code 0 = .ok (.iload_n 0, 1) := by decide +kernel
theorem d3_1 : decode method_2_code 1 = .ok (.iconst 1, 1) := by decide +kernel
theorem d3_2 : decode method_2_code 2 = .ok (.if_icmp .ne 7, 3) := by decide +kernel
theorem d3_5 : decode method_2_code 5 = .ok (.getstatic 7, 3) := by decide +kernel
theorem d3_8 : decode method_2_code 8 = .ok (.areturn, 1) := by decide +kernel
def expected1_rm : Room := { frames := 0, cells := 0, slots := 0, locals := 0 }
def expected1_Q (Z : State) (p0 : Int32) (e1 : Addr) (h0 : Heap) (n0 : Nat) (v : Option Value) (h : Heap) (L : List Loc) : Prop := (v = some (.ref e1)) ∧ (Fr n0 L) ∧ (h = h0)
theorem expected1_ef (m : MethodId) (p0 : Int32) : entryFrame m #[(.int p0)] 1 = mkF m 0 #[.val (.int p0)] [] := by first | (simp [entryFrame, mkF, argsToLocals, Value.category]; done) | rfl
set_option maxRecDepth 65536 in
set_option maxHeartbeats 40000000 in
theorem expected1_c (l : Launch) (Z : State) (az : Array Value) (hw : ∀ d ∈ tables_1, d.before az Z = true) (ws : List Jvm.Cond) (p0 : Int32) (e1 : Addr) (h0 : Heap) (n0 : Nat) (Z0 : n0 ≤ h0.size) (hp0 : Sta Z Z.heap "com/example/marduk/marduk/model/MessageType" "HEARTBEAT" "Lcom/example/marduk/marduk/model/MessageType;" (.ref e1)) (hp1 : Old Z n0 h0) (heq : p0 = (1 : Int32)) :
    OCon l (⟨"com/example/marduk/marduk/model/MessageTypeOfCodePinLaw", "expected", "(I)Lcom/example/marduk/marduk/model/MessageType;"⟩ : MethodName) method_2_code 1 (some (.object "com/example/marduk/marduk/model/MessageType")) ws expected1_rm Z #[(.int p0)] h0 (expected1_Q Z p0 e1 h0 n0) := by
  refine ocon (plainFor_of_name pn_com_example_marduk_marduk_model_MessageTypeOfCodePinLaw) ?_
  intro p e s m below meth c s₁ hx hby hml hown hnm hret hlk hZ X0 eh0
  have N0 := Fr.nil n0
  have K0 := Keep.refl h0 []
  refine ogoE (expected1_ef m p0) ?_
  generalize hG : (OEnd s below (expected1_Q Z p0 e1 h0 n0) expected1_rm.cells expected1_rm.slots) = G
  show OWay p e below G s₁ (mkF m 0 #[.val (.int p0)] [])
  refine ogo (fun _ z_ => XS.iloadN X0.here hx rfl (hb hby d3_0) rfl z_) ?_
  show OWay p e below G s₁ (mkF m 1 #[.val (.int p0)] [(.int p0)])
  refine ogo (fun _ z_ => XS.iconst X0.here hx rfl (hb hby d3_1) z_) ?_
  show OWay p e below G s₁ (mkF m 2 #[.val (.int p0)] [(.int (1 : Int32)), (.int p0)])
  refine ogo (fun _ z_ => XS.icmpNo X0.here hx rfl (hb hby d3_2) rfl (teq (heq)).2 z_) ?_
  show OWay p e below G s₁ (mkF m 5 #[.val (.int p0)] [])
  obtain ⟨T1, X1, eT1, st1⟩ := getS2 X0 hx hZ hown (host := "") (Or.inl (hw _ (List.mem_of_getElem? (i := 35) rfl))) Via.refl eh0 (hp0.ext hp1.2) (g := (mkF m 5 #[.val (.int p0)] [])) rfl (hb hby d3_5)
  refine ogo st1 ?_
  show OWay p e below G T1 (mkF m 8 #[.val (.int p0)] [(.ref e1)])
  subst hG
  refine wRet X1 hx hret hlk rfl (Or.inr (Or.inr (Or.inr (Or.inr ⟨rfl, rfl, rfl⟩)))) (hb hby d3_8) (by decide) (by decide) eT1 ?_
  exact ⟨rfl, N0, rfl⟩
theorem d1_31 : decode prog_20_method_6_code 31 = .ok (.iinc 3 1, 3) := by decide +kernel
theorem d1_34 : decode prog_20_method_6_code 34 = .ok (.goto (-25), 3) := by decide +kernel
def ofCode2_rm : Room := { frames := 2, cells := 1, slots := 3, locals := 25 }
def ofCode2_Q (Z : State) (p0 : Int32) (av : Addr) (cl : Cell) (e1 : Addr) (e2 : Addr) (e3 : Addr) (h0 : Heap) (n0 : Nat) (v : Option Value) (h : Heap) (L : List Loc) : Prop := (v = some (.ref e2)) ∧ (Fr n0 L) ∧ (Keep h0 h [])
theorem ofCode2_ef (m : MethodId) (p0 : Int32) : entryFrame m #[(.int p0)] 5 = mkF m 0 #[.val (.int p0), .unset, .unset, .unset, .unset] [] := by first | (simp [entryFrame, mkF, argsToLocals, Value.category]; done) | rfl
set_option maxRecDepth 65536 in
set_option maxHeartbeats 40000000 in
theorem ofCode2_c (l : Launch) (Z : State) (az : Array Value) (hw : ∀ d ∈ tables_1, d.before az Z = true) (ws : List Jvm.Cond) (p0 : Int32) (av : Addr) (cl : Cell) (e1 : Addr) (e2 : Addr) (e3 : Addr) (h0 : Heap) (n0 : Nat) (Z0 : n0 ≤ h0.size) (hp0 : Sta Z Z.heap "com/example/marduk/marduk/model/MessageType" "$VALUES" "[Lcom/example/marduk/marduk/model/MessageType;" (.ref av)) (hp1 : Old Z n0 h0) (hp2 : Fld Z Z.heap e1 "com/example/marduk/marduk/model/MessageType" "code" "I" (.int (1 : Int32))) (hp3 : Fld Z Z.heap e2 "com/example/marduk/marduk/model/MessageType" "code" "I" (.int (2 : Int32))) (hp4 : Fld Z Z.heap e3 "com/example/marduk/marduk/model/MessageType" "code" "I" (.int (3 : Int32))) (hA : Arr Z Z.heap av cl (.object "com/example/marduk/marduk/model/MessageType")) (hE : Exa Z Z.heap av "[Lcom/example/marduk/marduk/model/MessageType;") (hF : FitC Z cl) (hS : cl.slots.size = (3 : Int32).toNatClampNeg) (hH : Has cl [(.ref e1), (.ref e2), (.ref e3)] .null) (hGt : ∀ i, i < cl.slots.size → fits (.object "com/example/marduk/marduk/model/MessageType") (([(.ref e1), (.ref e2), (.ref e3)] : List Value).getD i .null) = true) (hne1 : ¬ ((1 : Int32) = p0)) (heq : (2 : Int32) = p0) :
    OCon l (⟨"com/example/marduk/marduk/model/MessageType", "ofCode", "(I)Lcom/example/marduk/marduk/model/MessageType;"⟩ : MethodName) prog_20_method_6_code 5 (some (.object "com/example/marduk/marduk/model/MessageType")) ws ofCode2_rm Z #[(.int p0)] h0 (ofCode2_Q Z p0 av cl e1 e2 e3 h0 n0) := by
  refine ocon (plainFor_of_name pn_com_example_marduk_marduk_model_MessageType) ?_
  intro p e s m below meth c s₁ hx hby hml hown hnm hret hlk hZ X0 eh0
  have N0 := Fr.nil n0
  have K0 := Keep.refl h0 []
  refine ogoE (ofCode2_ef m p0) ?_
  generalize hG : (OEnd s below (ofCode2_Q Z p0 av cl e1 e2 e3 h0 n0) ofCode2_rm.cells ofCode2_rm.slots) = G
  show OWay p e below G s₁ (mkF m 0 #[.val (.int p0), .unset, .unset, .unset, .unset] [])
  obtain ⟨_, T1, L1, X1, hQ1, st1⟩ := wStatic X0 hx hZ (y := (⟨"com/example/marduk/marduk/model/MessageType", "values", "()[Lcom/example/marduk/marduk/model/MessageType;"⟩ : MethodName)) hown (hw _ (List.mem_of_getElem? (i := 4) rfl)) (hw _ (List.mem_of_getElem? (i := 5) rfl)) (hw _ (List.mem_of_getElem? (i := 2) rfl)) (hw _ (List.mem_of_getElem? (i := 6) rfl)) (by decide) (values_b_c l Z az hw [] av cl e1 e2 e3 h0 n0 Z0 hp0 hp1 hA hE hF hS hH hGt) 0 (by decide) (by decide) (g := (mkF m 0 #[.val (.int p0), .unset, .unset, .unset, .unset] [])) rfl (by rw [hml]; rfl) (argsL := []) (rest := []) (lenOf pd____Lcom_example_marduk_marduk_model_MessageType_ rfl) rfl (by show 2 * 0 + _ ≤ _; exact Nat.le_of_eq rfl) (hb hby d1_0) rfl eh0 (by decide) (by decide)
  obtain ⟨b_2, rfl, N1q, Kq1, P3, P4, P5⟩ := hQ1
  have N1 := Fr.app N0 N1q
  have K6 : Keep h0 T1.heap [] := K0.trans Kq1 all0
  have g_b_2 := P3
  have sz_b_2 : h0.size ≤ b_2 := Nat.le_trans K0.1 P4
  refine ogo st1 ?_
  show OWay p e below G T1 (mkF m 3 #[.val (.int p0), .unset, .unset, .unset, .unset] [(.ref b_2)])
  refine ogo (fun _ z_ => XS.astoreN X1.here hx rfl (hb hby d1_3) rfl rfl (l' := #[.val (.int p0), .val (.ref b_2), .unset, .unset, .unset]) rfl z_) ?_
  show OWay p e below G T1 (mkF m 4 #[.val (.int p0), .val (.ref b_2), .unset, .unset, .unset] [])
  refine ogo (fun _ z_ => XS.aloadN X1.here hx rfl (hb hby d1_4) rfl rfl z_) ?_
  show OWay p e below G T1 (mkF m 5 #[.val (.int p0), .val (.ref b_2), .unset, .unset, .unset] [(.ref b_2)])
  obtain ⟨cl_o7, Ar_o7, -, S_o7, N_o7, -, -⟩ := id P5
  refine ogo (fun _ z_ => X1.arraylength hx Ar_o7.1 (State.isArrayOf_alike hZ.alike Ar_o7.2.1) (g := (mkF m 5 #[.val (.int p0), .val (.ref b_2), .unset, .unset, .unset] [(.ref b_2)])) rfl rfl (hb hby d1_5) _ z_) ?_
  rw [len_of S_o7 N_o7]
  show OWay p e below G T1 (mkF m 6 #[.val (.int p0), .val (.ref b_2), .unset, .unset, .unset] [(.int (3 : Int32))])
  refine ogo (fun _ z_ => XS.istoreN X1.here hx rfl (hb hby d1_6) rfl (l' := #[.val (.int p0), .val (.ref b_2), .val (.int (3 : Int32)), .unset, .unset]) rfl z_) ?_
  show OWay p e below G T1 (mkF m 7 #[.val (.int p0), .val (.ref b_2), .val (.int (3 : Int32)), .unset, .unset] [])
  refine ogo (fun _ z_ => XS.iconst X1.here hx rfl (hb hby d1_7) z_) ?_
  show OWay p e below G T1 (mkF m 8 #[.val (.int p0), .val (.ref b_2), .val (.int (3 : Int32)), .unset, .unset] [(.int (0 : Int32))])
  refine ogo (fun _ z_ => XS.istoreN X1.here hx rfl (hb hby d1_8) rfl (l' := #[.val (.int p0), .val (.ref b_2), .val (.int (3 : Int32)), .val (.int (0 : Int32)), .unset]) rfl z_) ?_
  show OWay p e below G T1 (mkF m 9 #[.val (.int p0), .val (.ref b_2), .val (.int (3 : Int32)), .val (.int (0 : Int32)), .unset] [])
  refine ogo (fun _ z_ => XS.iloadN X1.here hx rfl (hb hby d1_9) rfl z_) ?_
  show OWay p e below G T1 (mkF m 10 #[.val (.int p0), .val (.ref b_2), .val (.int (3 : Int32)), .val (.int (0 : Int32)), .unset] [(.int (0 : Int32))])
  refine ogo (fun _ z_ => XS.iloadN X1.here hx rfl (hb hby d1_10) rfl z_) ?_
  show OWay p e below G T1 (mkF m 11 #[.val (.int p0), .val (.ref b_2), .val (.int (3 : Int32)), .val (.int (0 : Int32)), .unset] [(.int (3 : Int32)), (.int (0 : Int32))])
  refine ogo (fun _ z_ => XS.icmpNo X1.here hx rfl (hb hby d1_11) rfl (tlt (by decide)).2.1 z_) ?_
  show OWay p e below G T1 (mkF m 14 #[.val (.int p0), .val (.ref b_2), .val (.int (3 : Int32)), .val (.int (0 : Int32)), .unset] [])
  refine ogo (fun _ z_ => XS.aloadN X1.here hx rfl (hb hby d1_14) rfl rfl z_) ?_
  show OWay p e below G T1 (mkF m 15 #[.val (.int p0), .val (.ref b_2), .val (.int (3 : Int32)), .val (.int (0 : Int32)), .unset] [(.ref b_2)])
  refine ogo (fun _ z_ => XS.iloadN X1.here hx rfl (hb hby d1_15) rfl z_) ?_
  show OWay p e below G T1 (mkF m 16 #[.val (.int p0), .val (.ref b_2), .val (.int (3 : Int32)), .val (.int (0 : Int32)), .unset] [(.int (0 : Int32)), (.ref b_2)])
  obtain ⟨cl_o8, Ar_o8, q_o8, S_o8, N_o8, H_o8, G_o8⟩ := id P5
  have hin_o8 : ¬ ((0 : Int32) < 0 ∨ cl_o8.slots.size ≤ ((0 : Int32)).toNatClampNeg) := inb_of S_o8 ⟨by decide, by decide⟩
  have hat_o8 : cl_o8.slots[((0 : Int32)).toNatClampNeg]? = some (.ref e1) := H_o8.at hin_o8 rfl
  refine ogo (fun _ z_ => X1.aaload hx (j := (0 : Int32)) (v := (.ref e1)) Ar_o8.1 (State.isArrayOf_alike hZ.alike Ar_o8.2.1) rfl Ar_o8.2.2 hin_o8 hat_o8 (g := (mkF m 16 #[.val (.int p0), .val (.ref b_2), .val (.int (3 : Int32)), .val (.int (0 : Int32)), .unset] [(.int (0 : Int32)), (.ref b_2)])) rfl rfl (hb hby d1_16) _ z_) ?_
  show OWay p e below G T1 (mkF m 17 #[.val (.int p0), .val (.ref b_2), .val (.int (3 : Int32)), .val (.int (0 : Int32)), .unset] [(.ref e1)])
  refine ogo (fun _ z_ => XS.astore X1.here hx rfl (hb hby d1_17) rfl rfl (l' := #[.val (.int p0), .val (.ref b_2), .val (.int (3 : Int32)), .val (.int (0 : Int32)), .val (.ref e1)]) rfl z_) ?_
  show OWay p e below G T1 (mkF m 19 #[.val (.int p0), .val (.ref b_2), .val (.int (3 : Int32)), .val (.int (0 : Int32)), .val (.ref e1)] [])
  refine ogo (fun _ z_ => XS.aload X1.here hx rfl (hb hby d1_19) rfl rfl z_) ?_
  show OWay p e below G T1 (mkF m 21 #[.val (.int p0), .val (.ref b_2), .val (.int (3 : Int32)), .val (.int (0 : Int32)), .val (.ref e1)] [(.ref e1)])
  have F9 : Old Z n0 T1.heap := (hp1.keep Kq1 all0)
  obtain ⟨T10, X10, eT10, st10⟩ := getF X1 hx hZ hown (host := "") (Or.inl (hw _ (List.mem_of_getElem? (i := 22) rfl))) Via.refl rfl (hp2.ext F9.2) (g := (mkF m 21 #[.val (.int p0), .val (.ref b_2), .val (.int (3 : Int32)), .val (.int (0 : Int32)), .val (.ref e1)] [(.ref e1)])) rfl rfl (hb hby d1_21)
  refine ogo st10 ?_
  show OWay p e below G T10 (mkF m 24 #[.val (.int p0), .val (.ref b_2), .val (.int (3 : Int32)), .val (.int (0 : Int32)), .val (.ref e1)] [(.int (1 : Int32))])
  refine ogo (fun _ z_ => XS.iloadN X10.here hx rfl (hb hby d1_24) rfl z_) ?_
  show OWay p e below G T10 (mkF m 25 #[.val (.int p0), .val (.ref b_2), .val (.int (3 : Int32)), .val (.int (0 : Int32)), .val (.ref e1)] [(.int p0), (.int (1 : Int32))])
  refine ogo (fun _ z_ => XS.icmpYes X10.here hx rfl (pc0 := 25) (pc' := 31) rfl (hb hby d1_25) rfl (feq (hne1)).2 (by decide) (by decide) z_) ?_
  show OWay p e below G T10 (mkF m 31 #[.val (.int p0), .val (.ref b_2), .val (.int (3 : Int32)), .val (.int (0 : Int32)), .val (.ref e1)] [])
  refine ogo (fun _ z_ => XS.iinc X10.here hx rfl (hb hby d1_31) rfl (l' := #[.val (.int p0), .val (.ref b_2), .val (.int (3 : Int32)), .val (.int ((0 : Int32) + (1 : Int32))), .val (.ref e1)]) rfl z_) ?_
  show OWay p e below G T10 (mkF m 34 #[.val (.int p0), .val (.ref b_2), .val (.int (3 : Int32)), .val (.int ((0 : Int32) + (1 : Int32))), .val (.ref e1)] [])
  refine ogoE (g' := (mkF m 34 #[.val (.int p0), .val (.ref b_2), .val (.int (3 : Int32)), .val (.int (1 : Int32)), .val (.ref e1)] [])) (by rw [show ((0 : Int32) + (1 : Int32)) = (1 : Int32) from by decide]) ?_
  refine ogo (fun _ z_ => XS.goto X10.here hx rfl (pc0 := 34) (pc' := 9) rfl (hb hby d1_34) (by decide) (by decide) z_) ?_
  show OWay p e below G T10 (mkF m 9 #[.val (.int p0), .val (.ref b_2), .val (.int (3 : Int32)), .val (.int (1 : Int32)), .val (.ref e1)] [])
  refine ogo (fun _ z_ => XS.iloadN X10.here hx rfl (hb hby d1_9) rfl z_) ?_
  show OWay p e below G T10 (mkF m 10 #[.val (.int p0), .val (.ref b_2), .val (.int (3 : Int32)), .val (.int (1 : Int32)), .val (.ref e1)] [(.int (1 : Int32))])
  refine ogo (fun _ z_ => XS.iloadN X10.here hx rfl (hb hby d1_10) rfl z_) ?_
  show OWay p e below G T10 (mkF m 11 #[.val (.int p0), .val (.ref b_2), .val (.int (3 : Int32)), .val (.int (1 : Int32)), .val (.ref e1)] [(.int (3 : Int32)), (.int (1 : Int32))])
  refine ogo (fun _ z_ => XS.icmpNo X10.here hx rfl (hb hby d1_11) rfl (tlt (by decide)).2.1 z_) ?_
  show OWay p e below G T10 (mkF m 14 #[.val (.int p0), .val (.ref b_2), .val (.int (3 : Int32)), .val (.int (1 : Int32)), .val (.ref e1)] [])
  refine ogo (fun _ z_ => XS.aloadN X10.here hx rfl (hb hby d1_14) rfl rfl z_) ?_
  show OWay p e below G T10 (mkF m 15 #[.val (.int p0), .val (.ref b_2), .val (.int (3 : Int32)), .val (.int (1 : Int32)), .val (.ref e1)] [(.ref b_2)])
  refine ogo (fun _ z_ => XS.iloadN X10.here hx rfl (hb hby d1_15) rfl z_) ?_
  show OWay p e below G T10 (mkF m 16 #[.val (.int p0), .val (.ref b_2), .val (.int (3 : Int32)), .val (.int (1 : Int32)), .val (.ref e1)] [(.int (1 : Int32)), (.ref b_2)])
  obtain ⟨cl_o11, Ar_o11, q_o11, S_o11, N_o11, H_o11, G_o11⟩ := id P5
  have hin_o11 : ¬ ((1 : Int32) < 0 ∨ cl_o11.slots.size ≤ ((1 : Int32)).toNatClampNeg) := inb_of S_o11 ⟨by decide, by decide⟩
  have hat_o11 : cl_o11.slots[((1 : Int32)).toNatClampNeg]? = some (.ref e2) := H_o11.at hin_o11 rfl
  refine ogo (fun _ z_ => X10.aaload hx (j := (1 : Int32)) (v := (.ref e2)) (by rw [eT10]; exact Ar_o11.1) (State.isArrayOf_alike hZ.alike Ar_o11.2.1) rfl Ar_o11.2.2 hin_o11 hat_o11 (g := (mkF m 16 #[.val (.int p0), .val (.ref b_2), .val (.int (3 : Int32)), .val (.int (1 : Int32)), .val (.ref e1)] [(.int (1 : Int32)), (.ref b_2)])) rfl rfl (hb hby d1_16) _ z_) ?_
  show OWay p e below G T10 (mkF m 17 #[.val (.int p0), .val (.ref b_2), .val (.int (3 : Int32)), .val (.int (1 : Int32)), .val (.ref e1)] [(.ref e2)])
  refine ogo (fun _ z_ => XS.astore X10.here hx rfl (hb hby d1_17) rfl rfl (l' := #[.val (.int p0), .val (.ref b_2), .val (.int (3 : Int32)), .val (.int (1 : Int32)), .val (.ref e2)]) rfl z_) ?_
  show OWay p e below G T10 (mkF m 19 #[.val (.int p0), .val (.ref b_2), .val (.int (3 : Int32)), .val (.int (1 : Int32)), .val (.ref e2)] [])
  refine ogo (fun _ z_ => XS.aload X10.here hx rfl (hb hby d1_19) rfl rfl z_) ?_
  show OWay p e below G T10 (mkF m 21 #[.val (.int p0), .val (.ref b_2), .val (.int (3 : Int32)), .val (.int (1 : Int32)), .val (.ref e2)] [(.ref e2)])
  obtain ⟨T12, X12, eT12, st12⟩ := getF X10 hx hZ hown (host := "") (Or.inl (hw _ (List.mem_of_getElem? (i := 22) rfl))) Via.refl eT10 (hp3.ext F9.2) (g := (mkF m 21 #[.val (.int p0), .val (.ref b_2), .val (.int (3 : Int32)), .val (.int (1 : Int32)), .val (.ref e2)] [(.ref e2)])) rfl rfl (hb hby d1_21)
  refine ogo st12 ?_
  show OWay p e below G T12 (mkF m 24 #[.val (.int p0), .val (.ref b_2), .val (.int (3 : Int32)), .val (.int (1 : Int32)), .val (.ref e2)] [(.int (2 : Int32))])
  refine ogo (fun _ z_ => XS.iloadN X12.here hx rfl (hb hby d1_24) rfl z_) ?_
  show OWay p e below G T12 (mkF m 25 #[.val (.int p0), .val (.ref b_2), .val (.int (3 : Int32)), .val (.int (1 : Int32)), .val (.ref e2)] [(.int p0), (.int (2 : Int32))])
  refine ogo (fun _ z_ => XS.icmpNo X12.here hx rfl (hb hby d1_25) rfl (teq (heq)).2 z_) ?_
  show OWay p e below G T12 (mkF m 28 #[.val (.int p0), .val (.ref b_2), .val (.int (3 : Int32)), .val (.int (1 : Int32)), .val (.ref e2)] [])
  refine ogo (fun _ z_ => XS.aload X12.here hx rfl (hb hby d1_28) rfl rfl z_) ?_
  show OWay p e below G T12 (mkF m 30 #[.val (.int p0), .val (.ref b_2), .val (.int (3 : Int32)), .val (.int (1 : Int32)), .val (.ref e2)] [(.ref e2)])
  subst hG
  refine wRet X12 hx hret hlk rfl (Or.inr (Or.inr (Or.inr (Or.inr ⟨rfl, rfl, rfl⟩)))) (hb hby d1_30) (by decide) (by decide) eT12 ?_
  exact ⟨rfl, N1, K6⟩
theorem d3_9 : decode method_2_code 9 = .ok (.iload_n 0, 1) := by decide +kernel
theorem d3_10 : decode method_2_code 10 = .ok (.iconst 2, 1) := by decide +kernel
theorem d3_11 : decode method_2_code 11 = .ok (.if_icmp .ne 7, 3) := by decide +kernel
theorem d3_14 : decode method_2_code 14 = .ok (.getstatic 13, 3) := by decide +kernel
theorem d3_17 : decode method_2_code 17 = .ok (.areturn, 1) := by decide +kernel
def expected2_rm : Room := { frames := 0, cells := 0, slots := 0, locals := 0 }
def expected2_Q (Z : State) (p0 : Int32) (e2 : Addr) (h0 : Heap) (n0 : Nat) (v : Option Value) (h : Heap) (L : List Loc) : Prop := (v = some (.ref e2)) ∧ (Fr n0 L) ∧ (h = h0)
theorem expected2_ef (m : MethodId) (p0 : Int32) : entryFrame m #[(.int p0)] 1 = mkF m 0 #[.val (.int p0)] [] := by first | (simp [entryFrame, mkF, argsToLocals, Value.category]; done) | rfl
set_option maxRecDepth 65536 in
set_option maxHeartbeats 40000000 in
theorem expected2_c (l : Launch) (Z : State) (az : Array Value) (hw : ∀ d ∈ tables_1, d.before az Z = true) (ws : List Jvm.Cond) (p0 : Int32) (e2 : Addr) (h0 : Heap) (n0 : Nat) (Z0 : n0 ≤ h0.size) (hp0 : Sta Z Z.heap "com/example/marduk/marduk/model/MessageType" "UPDATE" "Lcom/example/marduk/marduk/model/MessageType;" (.ref e2)) (hp1 : Old Z n0 h0) (hne1 : ¬ (p0 = (1 : Int32))) (heq : p0 = (2 : Int32)) :
    OCon l (⟨"com/example/marduk/marduk/model/MessageTypeOfCodePinLaw", "expected", "(I)Lcom/example/marduk/marduk/model/MessageType;"⟩ : MethodName) method_2_code 1 (some (.object "com/example/marduk/marduk/model/MessageType")) ws expected2_rm Z #[(.int p0)] h0 (expected2_Q Z p0 e2 h0 n0) := by
  refine ocon (plainFor_of_name pn_com_example_marduk_marduk_model_MessageTypeOfCodePinLaw) ?_
  intro p e s m below meth c s₁ hx hby hml hown hnm hret hlk hZ X0 eh0
  have N0 := Fr.nil n0
  have K0 := Keep.refl h0 []
  refine ogoE (expected2_ef m p0) ?_
  generalize hG : (OEnd s below (expected2_Q Z p0 e2 h0 n0) expected2_rm.cells expected2_rm.slots) = G
  show OWay p e below G s₁ (mkF m 0 #[.val (.int p0)] [])
  refine ogo (fun _ z_ => XS.iloadN X0.here hx rfl (hb hby d3_0) rfl z_) ?_
  show OWay p e below G s₁ (mkF m 1 #[.val (.int p0)] [(.int p0)])
  refine ogo (fun _ z_ => XS.iconst X0.here hx rfl (hb hby d3_1) z_) ?_
  show OWay p e below G s₁ (mkF m 2 #[.val (.int p0)] [(.int (1 : Int32)), (.int p0)])
  refine ogo (fun _ z_ => XS.icmpYes X0.here hx rfl (pc0 := 2) (pc' := 9) rfl (hb hby d3_2) rfl (feq (hne1)).2 (by decide) (by decide) z_) ?_
  show OWay p e below G s₁ (mkF m 9 #[.val (.int p0)] [])
  refine ogo (fun _ z_ => XS.iloadN X0.here hx rfl (hb hby d3_9) rfl z_) ?_
  show OWay p e below G s₁ (mkF m 10 #[.val (.int p0)] [(.int p0)])
  refine ogo (fun _ z_ => XS.iconst X0.here hx rfl (hb hby d3_10) z_) ?_
  show OWay p e below G s₁ (mkF m 11 #[.val (.int p0)] [(.int (2 : Int32)), (.int p0)])
  refine ogo (fun _ z_ => XS.icmpNo X0.here hx rfl (hb hby d3_11) rfl (teq (heq)).2 z_) ?_
  show OWay p e below G s₁ (mkF m 14 #[.val (.int p0)] [])
  obtain ⟨T1, X1, eT1, st1⟩ := getS2 X0 hx hZ hown (host := "") (Or.inl (hw _ (List.mem_of_getElem? (i := 28) rfl))) Via.refl eh0 (hp0.ext hp1.2) (g := (mkF m 14 #[.val (.int p0)] [])) rfl (hb hby d3_14)
  refine ogo st1 ?_
  show OWay p e below G T1 (mkF m 17 #[.val (.int p0)] [(.ref e2)])
  subst hG
  refine wRet X1 hx hret hlk rfl (Or.inr (Or.inr (Or.inr (Or.inr ⟨rfl, rfl, rfl⟩)))) (hb hby d3_17) (by decide) (by decide) eT1 ?_
  exact ⟨rfl, N0, rfl⟩
def ofCode3_rm : Room := { frames := 2, cells := 1, slots := 3, locals := 25 }
def ofCode3_Q (Z : State) (p0 : Int32) (av : Addr) (cl : Cell) (e1 : Addr) (e2 : Addr) (e3 : Addr) (h0 : Heap) (n0 : Nat) (v : Option Value) (h : Heap) (L : List Loc) : Prop := (v = some (.ref e3)) ∧ (Fr n0 L) ∧ (Keep h0 h [])
theorem ofCode3_ef (m : MethodId) (p0 : Int32) : entryFrame m #[(.int p0)] 5 = mkF m 0 #[.val (.int p0), .unset, .unset, .unset, .unset] [] := by first | (simp [entryFrame, mkF, argsToLocals, Value.category]; done) | rfl
set_option maxRecDepth 65536 in
set_option maxHeartbeats 40000000 in
theorem ofCode3_c (l : Launch) (Z : State) (az : Array Value) (hw : ∀ d ∈ tables_1, d.before az Z = true) (ws : List Jvm.Cond) (p0 : Int32) (av : Addr) (cl : Cell) (e1 : Addr) (e2 : Addr) (e3 : Addr) (h0 : Heap) (n0 : Nat) (Z0 : n0 ≤ h0.size) (hp0 : Sta Z Z.heap "com/example/marduk/marduk/model/MessageType" "$VALUES" "[Lcom/example/marduk/marduk/model/MessageType;" (.ref av)) (hp1 : Old Z n0 h0) (hp2 : Fld Z Z.heap e1 "com/example/marduk/marduk/model/MessageType" "code" "I" (.int (1 : Int32))) (hp3 : Fld Z Z.heap e2 "com/example/marduk/marduk/model/MessageType" "code" "I" (.int (2 : Int32))) (hp4 : Fld Z Z.heap e3 "com/example/marduk/marduk/model/MessageType" "code" "I" (.int (3 : Int32))) (hA : Arr Z Z.heap av cl (.object "com/example/marduk/marduk/model/MessageType")) (hE : Exa Z Z.heap av "[Lcom/example/marduk/marduk/model/MessageType;") (hF : FitC Z cl) (hS : cl.slots.size = (3 : Int32).toNatClampNeg) (hH : Has cl [(.ref e1), (.ref e2), (.ref e3)] .null) (hGt : ∀ i, i < cl.slots.size → fits (.object "com/example/marduk/marduk/model/MessageType") (([(.ref e1), (.ref e2), (.ref e3)] : List Value).getD i .null) = true) (hne1 : ¬ ((1 : Int32) = p0)) (hne2 : ¬ ((2 : Int32) = p0)) (heq : (3 : Int32) = p0) :
    OCon l (⟨"com/example/marduk/marduk/model/MessageType", "ofCode", "(I)Lcom/example/marduk/marduk/model/MessageType;"⟩ : MethodName) prog_20_method_6_code 5 (some (.object "com/example/marduk/marduk/model/MessageType")) ws ofCode3_rm Z #[(.int p0)] h0 (ofCode3_Q Z p0 av cl e1 e2 e3 h0 n0) := by
  refine ocon (plainFor_of_name pn_com_example_marduk_marduk_model_MessageType) ?_
  intro p e s m below meth c s₁ hx hby hml hown hnm hret hlk hZ X0 eh0
  have N0 := Fr.nil n0
  have K0 := Keep.refl h0 []
  refine ogoE (ofCode3_ef m p0) ?_
  generalize hG : (OEnd s below (ofCode3_Q Z p0 av cl e1 e2 e3 h0 n0) ofCode3_rm.cells ofCode3_rm.slots) = G
  show OWay p e below G s₁ (mkF m 0 #[.val (.int p0), .unset, .unset, .unset, .unset] [])
  obtain ⟨_, T1, L1, X1, hQ1, st1⟩ := wStatic X0 hx hZ (y := (⟨"com/example/marduk/marduk/model/MessageType", "values", "()[Lcom/example/marduk/marduk/model/MessageType;"⟩ : MethodName)) hown (hw _ (List.mem_of_getElem? (i := 4) rfl)) (hw _ (List.mem_of_getElem? (i := 5) rfl)) (hw _ (List.mem_of_getElem? (i := 2) rfl)) (hw _ (List.mem_of_getElem? (i := 6) rfl)) (by decide) (values_b_c l Z az hw [] av cl e1 e2 e3 h0 n0 Z0 hp0 hp1 hA hE hF hS hH hGt) 0 (by decide) (by decide) (g := (mkF m 0 #[.val (.int p0), .unset, .unset, .unset, .unset] [])) rfl (by rw [hml]; rfl) (argsL := []) (rest := []) (lenOf pd____Lcom_example_marduk_marduk_model_MessageType_ rfl) rfl (by show 2 * 0 + _ ≤ _; exact Nat.le_of_eq rfl) (hb hby d1_0) rfl eh0 (by decide) (by decide)
  obtain ⟨b_2, rfl, N1q, Kq1, P3, P4, P5⟩ := hQ1
  have N1 := Fr.app N0 N1q
  have K6 : Keep h0 T1.heap [] := K0.trans Kq1 all0
  have g_b_2 := P3
  have sz_b_2 : h0.size ≤ b_2 := Nat.le_trans K0.1 P4
  refine ogo st1 ?_
  show OWay p e below G T1 (mkF m 3 #[.val (.int p0), .unset, .unset, .unset, .unset] [(.ref b_2)])
  refine ogo (fun _ z_ => XS.astoreN X1.here hx rfl (hb hby d1_3) rfl rfl (l' := #[.val (.int p0), .val (.ref b_2), .unset, .unset, .unset]) rfl z_) ?_
  show OWay p e below G T1 (mkF m 4 #[.val (.int p0), .val (.ref b_2), .unset, .unset, .unset] [])
  refine ogo (fun _ z_ => XS.aloadN X1.here hx rfl (hb hby d1_4) rfl rfl z_) ?_
  show OWay p e below G T1 (mkF m 5 #[.val (.int p0), .val (.ref b_2), .unset, .unset, .unset] [(.ref b_2)])
  obtain ⟨cl_o7, Ar_o7, -, S_o7, N_o7, -, -⟩ := id P5
  refine ogo (fun _ z_ => X1.arraylength hx Ar_o7.1 (State.isArrayOf_alike hZ.alike Ar_o7.2.1) (g := (mkF m 5 #[.val (.int p0), .val (.ref b_2), .unset, .unset, .unset] [(.ref b_2)])) rfl rfl (hb hby d1_5) _ z_) ?_
  rw [len_of S_o7 N_o7]
  show OWay p e below G T1 (mkF m 6 #[.val (.int p0), .val (.ref b_2), .unset, .unset, .unset] [(.int (3 : Int32))])
  refine ogo (fun _ z_ => XS.istoreN X1.here hx rfl (hb hby d1_6) rfl (l' := #[.val (.int p0), .val (.ref b_2), .val (.int (3 : Int32)), .unset, .unset]) rfl z_) ?_
  show OWay p e below G T1 (mkF m 7 #[.val (.int p0), .val (.ref b_2), .val (.int (3 : Int32)), .unset, .unset] [])
  refine ogo (fun _ z_ => XS.iconst X1.here hx rfl (hb hby d1_7) z_) ?_
  show OWay p e below G T1 (mkF m 8 #[.val (.int p0), .val (.ref b_2), .val (.int (3 : Int32)), .unset, .unset] [(.int (0 : Int32))])
  refine ogo (fun _ z_ => XS.istoreN X1.here hx rfl (hb hby d1_8) rfl (l' := #[.val (.int p0), .val (.ref b_2), .val (.int (3 : Int32)), .val (.int (0 : Int32)), .unset]) rfl z_) ?_
  show OWay p e below G T1 (mkF m 9 #[.val (.int p0), .val (.ref b_2), .val (.int (3 : Int32)), .val (.int (0 : Int32)), .unset] [])
  refine ogo (fun _ z_ => XS.iloadN X1.here hx rfl (hb hby d1_9) rfl z_) ?_
  show OWay p e below G T1 (mkF m 10 #[.val (.int p0), .val (.ref b_2), .val (.int (3 : Int32)), .val (.int (0 : Int32)), .unset] [(.int (0 : Int32))])
  refine ogo (fun _ z_ => XS.iloadN X1.here hx rfl (hb hby d1_10) rfl z_) ?_
  show OWay p e below G T1 (mkF m 11 #[.val (.int p0), .val (.ref b_2), .val (.int (3 : Int32)), .val (.int (0 : Int32)), .unset] [(.int (3 : Int32)), (.int (0 : Int32))])
  refine ogo (fun _ z_ => XS.icmpNo X1.here hx rfl (hb hby d1_11) rfl (tlt (by decide)).2.1 z_) ?_
  show OWay p e below G T1 (mkF m 14 #[.val (.int p0), .val (.ref b_2), .val (.int (3 : Int32)), .val (.int (0 : Int32)), .unset] [])
  refine ogo (fun _ z_ => XS.aloadN X1.here hx rfl (hb hby d1_14) rfl rfl z_) ?_
  show OWay p e below G T1 (mkF m 15 #[.val (.int p0), .val (.ref b_2), .val (.int (3 : Int32)), .val (.int (0 : Int32)), .unset] [(.ref b_2)])
  refine ogo (fun _ z_ => XS.iloadN X1.here hx rfl (hb hby d1_15) rfl z_) ?_
  show OWay p e below G T1 (mkF m 16 #[.val (.int p0), .val (.ref b_2), .val (.int (3 : Int32)), .val (.int (0 : Int32)), .unset] [(.int (0 : Int32)), (.ref b_2)])
  obtain ⟨cl_o8, Ar_o8, q_o8, S_o8, N_o8, H_o8, G_o8⟩ := id P5
  have hin_o8 : ¬ ((0 : Int32) < 0 ∨ cl_o8.slots.size ≤ ((0 : Int32)).toNatClampNeg) := inb_of S_o8 ⟨by decide, by decide⟩
  have hat_o8 : cl_o8.slots[((0 : Int32)).toNatClampNeg]? = some (.ref e1) := H_o8.at hin_o8 rfl
  refine ogo (fun _ z_ => X1.aaload hx (j := (0 : Int32)) (v := (.ref e1)) Ar_o8.1 (State.isArrayOf_alike hZ.alike Ar_o8.2.1) rfl Ar_o8.2.2 hin_o8 hat_o8 (g := (mkF m 16 #[.val (.int p0), .val (.ref b_2), .val (.int (3 : Int32)), .val (.int (0 : Int32)), .unset] [(.int (0 : Int32)), (.ref b_2)])) rfl rfl (hb hby d1_16) _ z_) ?_
  show OWay p e below G T1 (mkF m 17 #[.val (.int p0), .val (.ref b_2), .val (.int (3 : Int32)), .val (.int (0 : Int32)), .unset] [(.ref e1)])
  refine ogo (fun _ z_ => XS.astore X1.here hx rfl (hb hby d1_17) rfl rfl (l' := #[.val (.int p0), .val (.ref b_2), .val (.int (3 : Int32)), .val (.int (0 : Int32)), .val (.ref e1)]) rfl z_) ?_
  show OWay p e below G T1 (mkF m 19 #[.val (.int p0), .val (.ref b_2), .val (.int (3 : Int32)), .val (.int (0 : Int32)), .val (.ref e1)] [])
  refine ogo (fun _ z_ => XS.aload X1.here hx rfl (hb hby d1_19) rfl rfl z_) ?_
  show OWay p e below G T1 (mkF m 21 #[.val (.int p0), .val (.ref b_2), .val (.int (3 : Int32)), .val (.int (0 : Int32)), .val (.ref e1)] [(.ref e1)])
  have F9 : Old Z n0 T1.heap := (hp1.keep Kq1 all0)
  obtain ⟨T10, X10, eT10, st10⟩ := getF X1 hx hZ hown (host := "") (Or.inl (hw _ (List.mem_of_getElem? (i := 22) rfl))) Via.refl rfl (hp2.ext F9.2) (g := (mkF m 21 #[.val (.int p0), .val (.ref b_2), .val (.int (3 : Int32)), .val (.int (0 : Int32)), .val (.ref e1)] [(.ref e1)])) rfl rfl (hb hby d1_21)
  refine ogo st10 ?_
  show OWay p e below G T10 (mkF m 24 #[.val (.int p0), .val (.ref b_2), .val (.int (3 : Int32)), .val (.int (0 : Int32)), .val (.ref e1)] [(.int (1 : Int32))])
  refine ogo (fun _ z_ => XS.iloadN X10.here hx rfl (hb hby d1_24) rfl z_) ?_
  show OWay p e below G T10 (mkF m 25 #[.val (.int p0), .val (.ref b_2), .val (.int (3 : Int32)), .val (.int (0 : Int32)), .val (.ref e1)] [(.int p0), (.int (1 : Int32))])
  refine ogo (fun _ z_ => XS.icmpYes X10.here hx rfl (pc0 := 25) (pc' := 31) rfl (hb hby d1_25) rfl (feq (hne1)).2 (by decide) (by decide) z_) ?_
  show OWay p e below G T10 (mkF m 31 #[.val (.int p0), .val (.ref b_2), .val (.int (3 : Int32)), .val (.int (0 : Int32)), .val (.ref e1)] [])
  refine ogo (fun _ z_ => XS.iinc X10.here hx rfl (hb hby d1_31) rfl (l' := #[.val (.int p0), .val (.ref b_2), .val (.int (3 : Int32)), .val (.int ((0 : Int32) + (1 : Int32))), .val (.ref e1)]) rfl z_) ?_
  show OWay p e below G T10 (mkF m 34 #[.val (.int p0), .val (.ref b_2), .val (.int (3 : Int32)), .val (.int ((0 : Int32) + (1 : Int32))), .val (.ref e1)] [])
  refine ogoE (g' := (mkF m 34 #[.val (.int p0), .val (.ref b_2), .val (.int (3 : Int32)), .val (.int (1 : Int32)), .val (.ref e1)] [])) (by rw [show ((0 : Int32) + (1 : Int32)) = (1 : Int32) from by decide]) ?_
  refine ogo (fun _ z_ => XS.goto X10.here hx rfl (pc0 := 34) (pc' := 9) rfl (hb hby d1_34) (by decide) (by decide) z_) ?_
  show OWay p e below G T10 (mkF m 9 #[.val (.int p0), .val (.ref b_2), .val (.int (3 : Int32)), .val (.int (1 : Int32)), .val (.ref e1)] [])
  refine ogo (fun _ z_ => XS.iloadN X10.here hx rfl (hb hby d1_9) rfl z_) ?_
  show OWay p e below G T10 (mkF m 10 #[.val (.int p0), .val (.ref b_2), .val (.int (3 : Int32)), .val (.int (1 : Int32)), .val (.ref e1)] [(.int (1 : Int32))])
  refine ogo (fun _ z_ => XS.iloadN X10.here hx rfl (hb hby d1_10) rfl z_) ?_
  show OWay p e below G T10 (mkF m 11 #[.val (.int p0), .val (.ref b_2), .val (.int (3 : Int32)), .val (.int (1 : Int32)), .val (.ref e1)] [(.int (3 : Int32)), (.int (1 : Int32))])
  refine ogo (fun _ z_ => XS.icmpNo X10.here hx rfl (hb hby d1_11) rfl (tlt (by decide)).2.1 z_) ?_
  show OWay p e below G T10 (mkF m 14 #[.val (.int p0), .val (.ref b_2), .val (.int (3 : Int32)), .val (.int (1 : Int32)), .val (.ref e1)] [])
  refine ogo (fun _ z_ => XS.aloadN X10.here hx rfl (hb hby d1_14) rfl rfl z_) ?_
  show OWay p e below G T10 (mkF m 15 #[.val (.int p0), .val (.ref b_2), .val (.int (3 : Int32)), .val (.int (1 : Int32)), .val (.ref e1)] [(.ref b_2)])
  refine ogo (fun _ z_ => XS.iloadN X10.here hx rfl (hb hby d1_15) rfl z_) ?_
  show OWay p e below G T10 (mkF m 16 #[.val (.int p0), .val (.ref b_2), .val (.int (3 : Int32)), .val (.int (1 : Int32)), .val (.ref e1)] [(.int (1 : Int32)), (.ref b_2)])
  obtain ⟨cl_o11, Ar_o11, q_o11, S_o11, N_o11, H_o11, G_o11⟩ := id P5
  have hin_o11 : ¬ ((1 : Int32) < 0 ∨ cl_o11.slots.size ≤ ((1 : Int32)).toNatClampNeg) := inb_of S_o11 ⟨by decide, by decide⟩
  have hat_o11 : cl_o11.slots[((1 : Int32)).toNatClampNeg]? = some (.ref e2) := H_o11.at hin_o11 rfl
  refine ogo (fun _ z_ => X10.aaload hx (j := (1 : Int32)) (v := (.ref e2)) (by rw [eT10]; exact Ar_o11.1) (State.isArrayOf_alike hZ.alike Ar_o11.2.1) rfl Ar_o11.2.2 hin_o11 hat_o11 (g := (mkF m 16 #[.val (.int p0), .val (.ref b_2), .val (.int (3 : Int32)), .val (.int (1 : Int32)), .val (.ref e1)] [(.int (1 : Int32)), (.ref b_2)])) rfl rfl (hb hby d1_16) _ z_) ?_
  show OWay p e below G T10 (mkF m 17 #[.val (.int p0), .val (.ref b_2), .val (.int (3 : Int32)), .val (.int (1 : Int32)), .val (.ref e1)] [(.ref e2)])
  refine ogo (fun _ z_ => XS.astore X10.here hx rfl (hb hby d1_17) rfl rfl (l' := #[.val (.int p0), .val (.ref b_2), .val (.int (3 : Int32)), .val (.int (1 : Int32)), .val (.ref e2)]) rfl z_) ?_
  show OWay p e below G T10 (mkF m 19 #[.val (.int p0), .val (.ref b_2), .val (.int (3 : Int32)), .val (.int (1 : Int32)), .val (.ref e2)] [])
  refine ogo (fun _ z_ => XS.aload X10.here hx rfl (hb hby d1_19) rfl rfl z_) ?_
  show OWay p e below G T10 (mkF m 21 #[.val (.int p0), .val (.ref b_2), .val (.int (3 : Int32)), .val (.int (1 : Int32)), .val (.ref e2)] [(.ref e2)])
  obtain ⟨T12, X12, eT12, st12⟩ := getF X10 hx hZ hown (host := "") (Or.inl (hw _ (List.mem_of_getElem? (i := 22) rfl))) Via.refl eT10 (hp3.ext F9.2) (g := (mkF m 21 #[.val (.int p0), .val (.ref b_2), .val (.int (3 : Int32)), .val (.int (1 : Int32)), .val (.ref e2)] [(.ref e2)])) rfl rfl (hb hby d1_21)
  refine ogo st12 ?_
  show OWay p e below G T12 (mkF m 24 #[.val (.int p0), .val (.ref b_2), .val (.int (3 : Int32)), .val (.int (1 : Int32)), .val (.ref e2)] [(.int (2 : Int32))])
  refine ogo (fun _ z_ => XS.iloadN X12.here hx rfl (hb hby d1_24) rfl z_) ?_
  show OWay p e below G T12 (mkF m 25 #[.val (.int p0), .val (.ref b_2), .val (.int (3 : Int32)), .val (.int (1 : Int32)), .val (.ref e2)] [(.int p0), (.int (2 : Int32))])
  refine ogo (fun _ z_ => XS.icmpYes X12.here hx rfl (pc0 := 25) (pc' := 31) rfl (hb hby d1_25) rfl (feq (hne2)).2 (by decide) (by decide) z_) ?_
  show OWay p e below G T12 (mkF m 31 #[.val (.int p0), .val (.ref b_2), .val (.int (3 : Int32)), .val (.int (1 : Int32)), .val (.ref e2)] [])
  refine ogo (fun _ z_ => XS.iinc X12.here hx rfl (hb hby d1_31) rfl (l' := #[.val (.int p0), .val (.ref b_2), .val (.int (3 : Int32)), .val (.int ((1 : Int32) + (1 : Int32))), .val (.ref e2)]) rfl z_) ?_
  show OWay p e below G T12 (mkF m 34 #[.val (.int p0), .val (.ref b_2), .val (.int (3 : Int32)), .val (.int ((1 : Int32) + (1 : Int32))), .val (.ref e2)] [])
  refine ogoE (g' := (mkF m 34 #[.val (.int p0), .val (.ref b_2), .val (.int (3 : Int32)), .val (.int (2 : Int32)), .val (.ref e2)] [])) (by rw [show ((1 : Int32) + (1 : Int32)) = (2 : Int32) from by decide]) ?_
  refine ogo (fun _ z_ => XS.goto X12.here hx rfl (pc0 := 34) (pc' := 9) rfl (hb hby d1_34) (by decide) (by decide) z_) ?_
  show OWay p e below G T12 (mkF m 9 #[.val (.int p0), .val (.ref b_2), .val (.int (3 : Int32)), .val (.int (2 : Int32)), .val (.ref e2)] [])
  refine ogo (fun _ z_ => XS.iloadN X12.here hx rfl (hb hby d1_9) rfl z_) ?_
  show OWay p e below G T12 (mkF m 10 #[.val (.int p0), .val (.ref b_2), .val (.int (3 : Int32)), .val (.int (2 : Int32)), .val (.ref e2)] [(.int (2 : Int32))])
  refine ogo (fun _ z_ => XS.iloadN X12.here hx rfl (hb hby d1_10) rfl z_) ?_
  show OWay p e below G T12 (mkF m 11 #[.val (.int p0), .val (.ref b_2), .val (.int (3 : Int32)), .val (.int (2 : Int32)), .val (.ref e2)] [(.int (3 : Int32)), (.int (2 : Int32))])
  refine ogo (fun _ z_ => XS.icmpNo X12.here hx rfl (hb hby d1_11) rfl (tlt (by decide)).2.1 z_) ?_
  show OWay p e below G T12 (mkF m 14 #[.val (.int p0), .val (.ref b_2), .val (.int (3 : Int32)), .val (.int (2 : Int32)), .val (.ref e2)] [])
  refine ogo (fun _ z_ => XS.aloadN X12.here hx rfl (hb hby d1_14) rfl rfl z_) ?_
  show OWay p e below G T12 (mkF m 15 #[.val (.int p0), .val (.ref b_2), .val (.int (3 : Int32)), .val (.int (2 : Int32)), .val (.ref e2)] [(.ref b_2)])
  refine ogo (fun _ z_ => XS.iloadN X12.here hx rfl (hb hby d1_15) rfl z_) ?_
  show OWay p e below G T12 (mkF m 16 #[.val (.int p0), .val (.ref b_2), .val (.int (3 : Int32)), .val (.int (2 : Int32)), .val (.ref e2)] [(.int (2 : Int32)), (.ref b_2)])
  obtain ⟨cl_o13, Ar_o13, q_o13, S_o13, N_o13, H_o13, G_o13⟩ := id P5
  have hin_o13 : ¬ ((2 : Int32) < 0 ∨ cl_o13.slots.size ≤ ((2 : Int32)).toNatClampNeg) := inb_of S_o13 ⟨by decide, by decide⟩
  have hat_o13 : cl_o13.slots[((2 : Int32)).toNatClampNeg]? = some (.ref e3) := H_o13.at hin_o13 rfl
  refine ogo (fun _ z_ => X12.aaload hx (j := (2 : Int32)) (v := (.ref e3)) (by rw [eT12]; exact Ar_o13.1) (State.isArrayOf_alike hZ.alike Ar_o13.2.1) rfl Ar_o13.2.2 hin_o13 hat_o13 (g := (mkF m 16 #[.val (.int p0), .val (.ref b_2), .val (.int (3 : Int32)), .val (.int (2 : Int32)), .val (.ref e2)] [(.int (2 : Int32)), (.ref b_2)])) rfl rfl (hb hby d1_16) _ z_) ?_
  show OWay p e below G T12 (mkF m 17 #[.val (.int p0), .val (.ref b_2), .val (.int (3 : Int32)), .val (.int (2 : Int32)), .val (.ref e2)] [(.ref e3)])
  refine ogo (fun _ z_ => XS.astore X12.here hx rfl (hb hby d1_17) rfl rfl (l' := #[.val (.int p0), .val (.ref b_2), .val (.int (3 : Int32)), .val (.int (2 : Int32)), .val (.ref e3)]) rfl z_) ?_
  show OWay p e below G T12 (mkF m 19 #[.val (.int p0), .val (.ref b_2), .val (.int (3 : Int32)), .val (.int (2 : Int32)), .val (.ref e3)] [])
  refine ogo (fun _ z_ => XS.aload X12.here hx rfl (hb hby d1_19) rfl rfl z_) ?_
  show OWay p e below G T12 (mkF m 21 #[.val (.int p0), .val (.ref b_2), .val (.int (3 : Int32)), .val (.int (2 : Int32)), .val (.ref e3)] [(.ref e3)])
  obtain ⟨T14, X14, eT14, st14⟩ := getF X12 hx hZ hown (host := "") (Or.inl (hw _ (List.mem_of_getElem? (i := 22) rfl))) Via.refl eT12 (hp4.ext F9.2) (g := (mkF m 21 #[.val (.int p0), .val (.ref b_2), .val (.int (3 : Int32)), .val (.int (2 : Int32)), .val (.ref e3)] [(.ref e3)])) rfl rfl (hb hby d1_21)
  refine ogo st14 ?_
  show OWay p e below G T14 (mkF m 24 #[.val (.int p0), .val (.ref b_2), .val (.int (3 : Int32)), .val (.int (2 : Int32)), .val (.ref e3)] [(.int (3 : Int32))])
  refine ogo (fun _ z_ => XS.iloadN X14.here hx rfl (hb hby d1_24) rfl z_) ?_
  show OWay p e below G T14 (mkF m 25 #[.val (.int p0), .val (.ref b_2), .val (.int (3 : Int32)), .val (.int (2 : Int32)), .val (.ref e3)] [(.int p0), (.int (3 : Int32))])
  refine ogo (fun _ z_ => XS.icmpNo X14.here hx rfl (hb hby d1_25) rfl (teq (heq)).2 z_) ?_
  show OWay p e below G T14 (mkF m 28 #[.val (.int p0), .val (.ref b_2), .val (.int (3 : Int32)), .val (.int (2 : Int32)), .val (.ref e3)] [])
  refine ogo (fun _ z_ => XS.aload X14.here hx rfl (hb hby d1_28) rfl rfl z_) ?_
  show OWay p e below G T14 (mkF m 30 #[.val (.int p0), .val (.ref b_2), .val (.int (3 : Int32)), .val (.int (2 : Int32)), .val (.ref e3)] [(.ref e3)])
  subst hG
  refine wRet X14 hx hret hlk rfl (Or.inr (Or.inr (Or.inr (Or.inr ⟨rfl, rfl, rfl⟩)))) (hb hby d1_30) (by decide) (by decide) eT14 ?_
  exact ⟨rfl, N1, K6⟩
theorem d3_18 : decode method_2_code 18 = .ok (.iload_n 0, 1) := by decide +kernel
theorem d3_19 : decode method_2_code 19 = .ok (.iconst 3, 1) := by decide +kernel
theorem d3_20 : decode method_2_code 20 = .ok (.if_icmp .ne 7, 3) := by decide +kernel
theorem d3_23 : decode method_2_code 23 = .ok (.getstatic 16, 3) := by decide +kernel
theorem d3_26 : decode method_2_code 26 = .ok (.areturn, 1) := by decide +kernel
def expected3_rm : Room := { frames := 0, cells := 0, slots := 0, locals := 0 }
def expected3_Q (Z : State) (p0 : Int32) (e3 : Addr) (h0 : Heap) (n0 : Nat) (v : Option Value) (h : Heap) (L : List Loc) : Prop := (v = some (.ref e3)) ∧ (Fr n0 L) ∧ (h = h0)
theorem expected3_ef (m : MethodId) (p0 : Int32) : entryFrame m #[(.int p0)] 1 = mkF m 0 #[.val (.int p0)] [] := by first | (simp [entryFrame, mkF, argsToLocals, Value.category]; done) | rfl
set_option maxRecDepth 65536 in
set_option maxHeartbeats 40000000 in
theorem expected3_c (l : Launch) (Z : State) (az : Array Value) (hw : ∀ d ∈ tables_1, d.before az Z = true) (ws : List Jvm.Cond) (p0 : Int32) (e3 : Addr) (h0 : Heap) (n0 : Nat) (Z0 : n0 ≤ h0.size) (hp0 : Sta Z Z.heap "com/example/marduk/marduk/model/MessageType" "LEAVE" "Lcom/example/marduk/marduk/model/MessageType;" (.ref e3)) (hp1 : Old Z n0 h0) (hne1 : ¬ (p0 = (1 : Int32))) (hne2 : ¬ (p0 = (2 : Int32))) (heq : p0 = (3 : Int32)) :
    OCon l (⟨"com/example/marduk/marduk/model/MessageTypeOfCodePinLaw", "expected", "(I)Lcom/example/marduk/marduk/model/MessageType;"⟩ : MethodName) method_2_code 1 (some (.object "com/example/marduk/marduk/model/MessageType")) ws expected3_rm Z #[(.int p0)] h0 (expected3_Q Z p0 e3 h0 n0) := by
  refine ocon (plainFor_of_name pn_com_example_marduk_marduk_model_MessageTypeOfCodePinLaw) ?_
  intro p e s m below meth c s₁ hx hby hml hown hnm hret hlk hZ X0 eh0
  have N0 := Fr.nil n0
  have K0 := Keep.refl h0 []
  refine ogoE (expected3_ef m p0) ?_
  generalize hG : (OEnd s below (expected3_Q Z p0 e3 h0 n0) expected3_rm.cells expected3_rm.slots) = G
  show OWay p e below G s₁ (mkF m 0 #[.val (.int p0)] [])
  refine ogo (fun _ z_ => XS.iloadN X0.here hx rfl (hb hby d3_0) rfl z_) ?_
  show OWay p e below G s₁ (mkF m 1 #[.val (.int p0)] [(.int p0)])
  refine ogo (fun _ z_ => XS.iconst X0.here hx rfl (hb hby d3_1) z_) ?_
  show OWay p e below G s₁ (mkF m 2 #[.val (.int p0)] [(.int (1 : Int32)), (.int p0)])
  refine ogo (fun _ z_ => XS.icmpYes X0.here hx rfl (pc0 := 2) (pc' := 9) rfl (hb hby d3_2) rfl (feq (hne1)).2 (by decide) (by decide) z_) ?_
  show OWay p e below G s₁ (mkF m 9 #[.val (.int p0)] [])
  refine ogo (fun _ z_ => XS.iloadN X0.here hx rfl (hb hby d3_9) rfl z_) ?_
  show OWay p e below G s₁ (mkF m 10 #[.val (.int p0)] [(.int p0)])
  refine ogo (fun _ z_ => XS.iconst X0.here hx rfl (hb hby d3_10) z_) ?_
  show OWay p e below G s₁ (mkF m 11 #[.val (.int p0)] [(.int (2 : Int32)), (.int p0)])
  refine ogo (fun _ z_ => XS.icmpYes X0.here hx rfl (pc0 := 11) (pc' := 18) rfl (hb hby d3_11) rfl (feq (hne2)).2 (by decide) (by decide) z_) ?_
  show OWay p e below G s₁ (mkF m 18 #[.val (.int p0)] [])
  refine ogo (fun _ z_ => XS.iloadN X0.here hx rfl (hb hby d3_18) rfl z_) ?_
  show OWay p e below G s₁ (mkF m 19 #[.val (.int p0)] [(.int p0)])
  refine ogo (fun _ z_ => XS.iconst X0.here hx rfl (hb hby d3_19) z_) ?_
  show OWay p e below G s₁ (mkF m 20 #[.val (.int p0)] [(.int (3 : Int32)), (.int p0)])
  refine ogo (fun _ z_ => XS.icmpNo X0.here hx rfl (hb hby d3_20) rfl (teq (heq)).2 z_) ?_
  show OWay p e below G s₁ (mkF m 23 #[.val (.int p0)] [])
  obtain ⟨T1, X1, eT1, st1⟩ := getS2 X0 hx hZ hown (host := "") (Or.inl (hw _ (List.mem_of_getElem? (i := 34) rfl))) Via.refl eh0 (hp0.ext hp1.2) (g := (mkF m 23 #[.val (.int p0)] [])) rfl (hb hby d3_23)
  refine ogo st1 ?_
  show OWay p e below G T1 (mkF m 26 #[.val (.int p0)] [(.ref e3)])
  subst hG
  refine wRet X1 hx hret hlk rfl (Or.inr (Or.inr (Or.inr (Or.inr ⟨rfl, rfl, rfl⟩)))) (hb hby d3_26) (by decide) (by decide) eT1 ?_
  exact ⟨rfl, N0, rfl⟩
theorem d1_37 : decode prog_20_method_6_code 37 = .ok (.aconst_null, 1) := by decide +kernel
theorem d1_38 : decode prog_20_method_6_code 38 = .ok (.areturn, 1) := by decide +kernel
def ofCode0_rm : Room := { frames := 2, cells := 1, slots := 3, locals := 25 }
def ofCode0_Q (Z : State) (p0 : Int32) (av : Addr) (cl : Cell) (e1 : Addr) (e2 : Addr) (e3 : Addr) (h0 : Heap) (n0 : Nat) (v : Option Value) (h : Heap) (L : List Loc) : Prop := (v = some .null) ∧ (Fr n0 L) ∧ (Keep h0 h [])
theorem ofCode0_ef (m : MethodId) (p0 : Int32) : entryFrame m #[(.int p0)] 5 = mkF m 0 #[.val (.int p0), .unset, .unset, .unset, .unset] [] := by first | (simp [entryFrame, mkF, argsToLocals, Value.category]; done) | rfl
set_option maxRecDepth 65536 in
set_option maxHeartbeats 40000000 in
theorem ofCode0_c (l : Launch) (Z : State) (az : Array Value) (hw : ∀ d ∈ tables_1, d.before az Z = true) (ws : List Jvm.Cond) (p0 : Int32) (av : Addr) (cl : Cell) (e1 : Addr) (e2 : Addr) (e3 : Addr) (h0 : Heap) (n0 : Nat) (Z0 : n0 ≤ h0.size) (hp0 : Sta Z Z.heap "com/example/marduk/marduk/model/MessageType" "$VALUES" "[Lcom/example/marduk/marduk/model/MessageType;" (.ref av)) (hp1 : Old Z n0 h0) (hp2 : Fld Z Z.heap e1 "com/example/marduk/marduk/model/MessageType" "code" "I" (.int (1 : Int32))) (hp3 : Fld Z Z.heap e2 "com/example/marduk/marduk/model/MessageType" "code" "I" (.int (2 : Int32))) (hp4 : Fld Z Z.heap e3 "com/example/marduk/marduk/model/MessageType" "code" "I" (.int (3 : Int32))) (hA : Arr Z Z.heap av cl (.object "com/example/marduk/marduk/model/MessageType")) (hE : Exa Z Z.heap av "[Lcom/example/marduk/marduk/model/MessageType;") (hF : FitC Z cl) (hS : cl.slots.size = (3 : Int32).toNatClampNeg) (hH : Has cl [(.ref e1), (.ref e2), (.ref e3)] .null) (hGt : ∀ i, i < cl.slots.size → fits (.object "com/example/marduk/marduk/model/MessageType") (([(.ref e1), (.ref e2), (.ref e3)] : List Value).getD i .null) = true) (hne1 : ¬ ((1 : Int32) = p0)) (hne2 : ¬ ((2 : Int32) = p0)) (hne3 : ¬ ((3 : Int32) = p0)) :
    OCon l (⟨"com/example/marduk/marduk/model/MessageType", "ofCode", "(I)Lcom/example/marduk/marduk/model/MessageType;"⟩ : MethodName) prog_20_method_6_code 5 (some (.object "com/example/marduk/marduk/model/MessageType")) ws ofCode0_rm Z #[(.int p0)] h0 (ofCode0_Q Z p0 av cl e1 e2 e3 h0 n0) := by
  refine ocon (plainFor_of_name pn_com_example_marduk_marduk_model_MessageType) ?_
  intro p e s m below meth c s₁ hx hby hml hown hnm hret hlk hZ X0 eh0
  have N0 := Fr.nil n0
  have K0 := Keep.refl h0 []
  refine ogoE (ofCode0_ef m p0) ?_
  generalize hG : (OEnd s below (ofCode0_Q Z p0 av cl e1 e2 e3 h0 n0) ofCode0_rm.cells ofCode0_rm.slots) = G
  show OWay p e below G s₁ (mkF m 0 #[.val (.int p0), .unset, .unset, .unset, .unset] [])
  obtain ⟨_, T1, L1, X1, hQ1, st1⟩ := wStatic X0 hx hZ (y := (⟨"com/example/marduk/marduk/model/MessageType", "values", "()[Lcom/example/marduk/marduk/model/MessageType;"⟩ : MethodName)) hown (hw _ (List.mem_of_getElem? (i := 4) rfl)) (hw _ (List.mem_of_getElem? (i := 5) rfl)) (hw _ (List.mem_of_getElem? (i := 2) rfl)) (hw _ (List.mem_of_getElem? (i := 6) rfl)) (by decide) (values_b_c l Z az hw [] av cl e1 e2 e3 h0 n0 Z0 hp0 hp1 hA hE hF hS hH hGt) 0 (by decide) (by decide) (g := (mkF m 0 #[.val (.int p0), .unset, .unset, .unset, .unset] [])) rfl (by rw [hml]; rfl) (argsL := []) (rest := []) (lenOf pd____Lcom_example_marduk_marduk_model_MessageType_ rfl) rfl (by show 2 * 0 + _ ≤ _; exact Nat.le_of_eq rfl) (hb hby d1_0) rfl eh0 (by decide) (by decide)
  obtain ⟨b_2, rfl, N1q, Kq1, P3, P4, P5⟩ := hQ1
  have N1 := Fr.app N0 N1q
  have K6 : Keep h0 T1.heap [] := K0.trans Kq1 all0
  have g_b_2 := P3
  have sz_b_2 : h0.size ≤ b_2 := Nat.le_trans K0.1 P4
  refine ogo st1 ?_
  show OWay p e below G T1 (mkF m 3 #[.val (.int p0), .unset, .unset, .unset, .unset] [(.ref b_2)])
  refine ogo (fun _ z_ => XS.astoreN X1.here hx rfl (hb hby d1_3) rfl rfl (l' := #[.val (.int p0), .val (.ref b_2), .unset, .unset, .unset]) rfl z_) ?_
  show OWay p e below G T1 (mkF m 4 #[.val (.int p0), .val (.ref b_2), .unset, .unset, .unset] [])
  refine ogo (fun _ z_ => XS.aloadN X1.here hx rfl (hb hby d1_4) rfl rfl z_) ?_
  show OWay p e below G T1 (mkF m 5 #[.val (.int p0), .val (.ref b_2), .unset, .unset, .unset] [(.ref b_2)])
  obtain ⟨cl_o7, Ar_o7, -, S_o7, N_o7, -, -⟩ := id P5
  refine ogo (fun _ z_ => X1.arraylength hx Ar_o7.1 (State.isArrayOf_alike hZ.alike Ar_o7.2.1) (g := (mkF m 5 #[.val (.int p0), .val (.ref b_2), .unset, .unset, .unset] [(.ref b_2)])) rfl rfl (hb hby d1_5) _ z_) ?_
  rw [len_of S_o7 N_o7]
  show OWay p e below G T1 (mkF m 6 #[.val (.int p0), .val (.ref b_2), .unset, .unset, .unset] [(.int (3 : Int32))])
  refine ogo (fun _ z_ => XS.istoreN X1.here hx rfl (hb hby d1_6) rfl (l' := #[.val (.int p0), .val (.ref b_2), .val (.int (3 : Int32)), .unset, .unset]) rfl z_) ?_
  show OWay p e below G T1 (mkF m 7 #[.val (.int p0), .val (.ref b_2), .val (.int (3 : Int32)), .unset, .unset] [])
  refine ogo (fun _ z_ => XS.iconst X1.here hx rfl (hb hby d1_7) z_) ?_
  show OWay p e below G T1 (mkF m 8 #[.val (.int p0), .val (.ref b_2), .val (.int (3 : Int32)), .unset, .unset] [(.int (0 : Int32))])
  refine ogo (fun _ z_ => XS.istoreN X1.here hx rfl (hb hby d1_8) rfl (l' := #[.val (.int p0), .val (.ref b_2), .val (.int (3 : Int32)), .val (.int (0 : Int32)), .unset]) rfl z_) ?_
  show OWay p e below G T1 (mkF m 9 #[.val (.int p0), .val (.ref b_2), .val (.int (3 : Int32)), .val (.int (0 : Int32)), .unset] [])
  refine ogo (fun _ z_ => XS.iloadN X1.here hx rfl (hb hby d1_9) rfl z_) ?_
  show OWay p e below G T1 (mkF m 10 #[.val (.int p0), .val (.ref b_2), .val (.int (3 : Int32)), .val (.int (0 : Int32)), .unset] [(.int (0 : Int32))])
  refine ogo (fun _ z_ => XS.iloadN X1.here hx rfl (hb hby d1_10) rfl z_) ?_
  show OWay p e below G T1 (mkF m 11 #[.val (.int p0), .val (.ref b_2), .val (.int (3 : Int32)), .val (.int (0 : Int32)), .unset] [(.int (3 : Int32)), (.int (0 : Int32))])
  refine ogo (fun _ z_ => XS.icmpNo X1.here hx rfl (hb hby d1_11) rfl (tlt (by decide)).2.1 z_) ?_
  show OWay p e below G T1 (mkF m 14 #[.val (.int p0), .val (.ref b_2), .val (.int (3 : Int32)), .val (.int (0 : Int32)), .unset] [])
  refine ogo (fun _ z_ => XS.aloadN X1.here hx rfl (hb hby d1_14) rfl rfl z_) ?_
  show OWay p e below G T1 (mkF m 15 #[.val (.int p0), .val (.ref b_2), .val (.int (3 : Int32)), .val (.int (0 : Int32)), .unset] [(.ref b_2)])
  refine ogo (fun _ z_ => XS.iloadN X1.here hx rfl (hb hby d1_15) rfl z_) ?_
  show OWay p e below G T1 (mkF m 16 #[.val (.int p0), .val (.ref b_2), .val (.int (3 : Int32)), .val (.int (0 : Int32)), .unset] [(.int (0 : Int32)), (.ref b_2)])
  obtain ⟨cl_o8, Ar_o8, q_o8, S_o8, N_o8, H_o8, G_o8⟩ := id P5
  have hin_o8 : ¬ ((0 : Int32) < 0 ∨ cl_o8.slots.size ≤ ((0 : Int32)).toNatClampNeg) := inb_of S_o8 ⟨by decide, by decide⟩
  have hat_o8 : cl_o8.slots[((0 : Int32)).toNatClampNeg]? = some (.ref e1) := H_o8.at hin_o8 rfl
  refine ogo (fun _ z_ => X1.aaload hx (j := (0 : Int32)) (v := (.ref e1)) Ar_o8.1 (State.isArrayOf_alike hZ.alike Ar_o8.2.1) rfl Ar_o8.2.2 hin_o8 hat_o8 (g := (mkF m 16 #[.val (.int p0), .val (.ref b_2), .val (.int (3 : Int32)), .val (.int (0 : Int32)), .unset] [(.int (0 : Int32)), (.ref b_2)])) rfl rfl (hb hby d1_16) _ z_) ?_
  show OWay p e below G T1 (mkF m 17 #[.val (.int p0), .val (.ref b_2), .val (.int (3 : Int32)), .val (.int (0 : Int32)), .unset] [(.ref e1)])
  refine ogo (fun _ z_ => XS.astore X1.here hx rfl (hb hby d1_17) rfl rfl (l' := #[.val (.int p0), .val (.ref b_2), .val (.int (3 : Int32)), .val (.int (0 : Int32)), .val (.ref e1)]) rfl z_) ?_
  show OWay p e below G T1 (mkF m 19 #[.val (.int p0), .val (.ref b_2), .val (.int (3 : Int32)), .val (.int (0 : Int32)), .val (.ref e1)] [])
  refine ogo (fun _ z_ => XS.aload X1.here hx rfl (hb hby d1_19) rfl rfl z_) ?_
  show OWay p e below G T1 (mkF m 21 #[.val (.int p0), .val (.ref b_2), .val (.int (3 : Int32)), .val (.int (0 : Int32)), .val (.ref e1)] [(.ref e1)])
  have F9 : Old Z n0 T1.heap := (hp1.keep Kq1 all0)
  obtain ⟨T10, X10, eT10, st10⟩ := getF X1 hx hZ hown (host := "") (Or.inl (hw _ (List.mem_of_getElem? (i := 22) rfl))) Via.refl rfl (hp2.ext F9.2) (g := (mkF m 21 #[.val (.int p0), .val (.ref b_2), .val (.int (3 : Int32)), .val (.int (0 : Int32)), .val (.ref e1)] [(.ref e1)])) rfl rfl (hb hby d1_21)
  refine ogo st10 ?_
  show OWay p e below G T10 (mkF m 24 #[.val (.int p0), .val (.ref b_2), .val (.int (3 : Int32)), .val (.int (0 : Int32)), .val (.ref e1)] [(.int (1 : Int32))])
  refine ogo (fun _ z_ => XS.iloadN X10.here hx rfl (hb hby d1_24) rfl z_) ?_
  show OWay p e below G T10 (mkF m 25 #[.val (.int p0), .val (.ref b_2), .val (.int (3 : Int32)), .val (.int (0 : Int32)), .val (.ref e1)] [(.int p0), (.int (1 : Int32))])
  refine ogo (fun _ z_ => XS.icmpYes X10.here hx rfl (pc0 := 25) (pc' := 31) rfl (hb hby d1_25) rfl (feq (hne1)).2 (by decide) (by decide) z_) ?_
  show OWay p e below G T10 (mkF m 31 #[.val (.int p0), .val (.ref b_2), .val (.int (3 : Int32)), .val (.int (0 : Int32)), .val (.ref e1)] [])
  refine ogo (fun _ z_ => XS.iinc X10.here hx rfl (hb hby d1_31) rfl (l' := #[.val (.int p0), .val (.ref b_2), .val (.int (3 : Int32)), .val (.int ((0 : Int32) + (1 : Int32))), .val (.ref e1)]) rfl z_) ?_
  show OWay p e below G T10 (mkF m 34 #[.val (.int p0), .val (.ref b_2), .val (.int (3 : Int32)), .val (.int ((0 : Int32) + (1 : Int32))), .val (.ref e1)] [])
  refine ogoE (g' := (mkF m 34 #[.val (.int p0), .val (.ref b_2), .val (.int (3 : Int32)), .val (.int (1 : Int32)), .val (.ref e1)] [])) (by rw [show ((0 : Int32) + (1 : Int32)) = (1 : Int32) from by decide]) ?_
  refine ogo (fun _ z_ => XS.goto X10.here hx rfl (pc0 := 34) (pc' := 9) rfl (hb hby d1_34) (by decide) (by decide) z_) ?_
  show OWay p e below G T10 (mkF m 9 #[.val (.int p0), .val (.ref b_2), .val (.int (3 : Int32)), .val (.int (1 : Int32)), .val (.ref e1)] [])
  refine ogo (fun _ z_ => XS.iloadN X10.here hx rfl (hb hby d1_9) rfl z_) ?_
  show OWay p e below G T10 (mkF m 10 #[.val (.int p0), .val (.ref b_2), .val (.int (3 : Int32)), .val (.int (1 : Int32)), .val (.ref e1)] [(.int (1 : Int32))])
  refine ogo (fun _ z_ => XS.iloadN X10.here hx rfl (hb hby d1_10) rfl z_) ?_
  show OWay p e below G T10 (mkF m 11 #[.val (.int p0), .val (.ref b_2), .val (.int (3 : Int32)), .val (.int (1 : Int32)), .val (.ref e1)] [(.int (3 : Int32)), (.int (1 : Int32))])
  refine ogo (fun _ z_ => XS.icmpNo X10.here hx rfl (hb hby d1_11) rfl (tlt (by decide)).2.1 z_) ?_
  show OWay p e below G T10 (mkF m 14 #[.val (.int p0), .val (.ref b_2), .val (.int (3 : Int32)), .val (.int (1 : Int32)), .val (.ref e1)] [])
  refine ogo (fun _ z_ => XS.aloadN X10.here hx rfl (hb hby d1_14) rfl rfl z_) ?_
  show OWay p e below G T10 (mkF m 15 #[.val (.int p0), .val (.ref b_2), .val (.int (3 : Int32)), .val (.int (1 : Int32)), .val (.ref e1)] [(.ref b_2)])
  refine ogo (fun _ z_ => XS.iloadN X10.here hx rfl (hb hby d1_15) rfl z_) ?_
  show OWay p e below G T10 (mkF m 16 #[.val (.int p0), .val (.ref b_2), .val (.int (3 : Int32)), .val (.int (1 : Int32)), .val (.ref e1)] [(.int (1 : Int32)), (.ref b_2)])
  obtain ⟨cl_o11, Ar_o11, q_o11, S_o11, N_o11, H_o11, G_o11⟩ := id P5
  have hin_o11 : ¬ ((1 : Int32) < 0 ∨ cl_o11.slots.size ≤ ((1 : Int32)).toNatClampNeg) := inb_of S_o11 ⟨by decide, by decide⟩
  have hat_o11 : cl_o11.slots[((1 : Int32)).toNatClampNeg]? = some (.ref e2) := H_o11.at hin_o11 rfl
  refine ogo (fun _ z_ => X10.aaload hx (j := (1 : Int32)) (v := (.ref e2)) (by rw [eT10]; exact Ar_o11.1) (State.isArrayOf_alike hZ.alike Ar_o11.2.1) rfl Ar_o11.2.2 hin_o11 hat_o11 (g := (mkF m 16 #[.val (.int p0), .val (.ref b_2), .val (.int (3 : Int32)), .val (.int (1 : Int32)), .val (.ref e1)] [(.int (1 : Int32)), (.ref b_2)])) rfl rfl (hb hby d1_16) _ z_) ?_
  show OWay p e below G T10 (mkF m 17 #[.val (.int p0), .val (.ref b_2), .val (.int (3 : Int32)), .val (.int (1 : Int32)), .val (.ref e1)] [(.ref e2)])
  refine ogo (fun _ z_ => XS.astore X10.here hx rfl (hb hby d1_17) rfl rfl (l' := #[.val (.int p0), .val (.ref b_2), .val (.int (3 : Int32)), .val (.int (1 : Int32)), .val (.ref e2)]) rfl z_) ?_
  show OWay p e below G T10 (mkF m 19 #[.val (.int p0), .val (.ref b_2), .val (.int (3 : Int32)), .val (.int (1 : Int32)), .val (.ref e2)] [])
  refine ogo (fun _ z_ => XS.aload X10.here hx rfl (hb hby d1_19) rfl rfl z_) ?_
  show OWay p e below G T10 (mkF m 21 #[.val (.int p0), .val (.ref b_2), .val (.int (3 : Int32)), .val (.int (1 : Int32)), .val (.ref e2)] [(.ref e2)])
  obtain ⟨T12, X12, eT12, st12⟩ := getF X10 hx hZ hown (host := "") (Or.inl (hw _ (List.mem_of_getElem? (i := 22) rfl))) Via.refl eT10 (hp3.ext F9.2) (g := (mkF m 21 #[.val (.int p0), .val (.ref b_2), .val (.int (3 : Int32)), .val (.int (1 : Int32)), .val (.ref e2)] [(.ref e2)])) rfl rfl (hb hby d1_21)
  refine ogo st12 ?_
  show OWay p e below G T12 (mkF m 24 #[.val (.int p0), .val (.ref b_2), .val (.int (3 : Int32)), .val (.int (1 : Int32)), .val (.ref e2)] [(.int (2 : Int32))])
  refine ogo (fun _ z_ => XS.iloadN X12.here hx rfl (hb hby d1_24) rfl z_) ?_
  show OWay p e below G T12 (mkF m 25 #[.val (.int p0), .val (.ref b_2), .val (.int (3 : Int32)), .val (.int (1 : Int32)), .val (.ref e2)] [(.int p0), (.int (2 : Int32))])
  refine ogo (fun _ z_ => XS.icmpYes X12.here hx rfl (pc0 := 25) (pc' := 31) rfl (hb hby d1_25) rfl (feq (hne2)).2 (by decide) (by decide) z_) ?_
  show OWay p e below G T12 (mkF m 31 #[.val (.int p0), .val (.ref b_2), .val (.int (3 : Int32)), .val (.int (1 : Int32)), .val (.ref e2)] [])
  refine ogo (fun _ z_ => XS.iinc X12.here hx rfl (hb hby d1_31) rfl (l' := #[.val (.int p0), .val (.ref b_2), .val (.int (3 : Int32)), .val (.int ((1 : Int32) + (1 : Int32))), .val (.ref e2)]) rfl z_) ?_
  show OWay p e below G T12 (mkF m 34 #[.val (.int p0), .val (.ref b_2), .val (.int (3 : Int32)), .val (.int ((1 : Int32) + (1 : Int32))), .val (.ref e2)] [])
  refine ogoE (g' := (mkF m 34 #[.val (.int p0), .val (.ref b_2), .val (.int (3 : Int32)), .val (.int (2 : Int32)), .val (.ref e2)] [])) (by rw [show ((1 : Int32) + (1 : Int32)) = (2 : Int32) from by decide]) ?_
  refine ogo (fun _ z_ => XS.goto X12.here hx rfl (pc0 := 34) (pc' := 9) rfl (hb hby d1_34) (by decide) (by decide) z_) ?_
  show OWay p e below G T12 (mkF m 9 #[.val (.int p0), .val (.ref b_2), .val (.int (3 : Int32)), .val (.int (2 : Int32)), .val (.ref e2)] [])
  refine ogo (fun _ z_ => XS.iloadN X12.here hx rfl (hb hby d1_9) rfl z_) ?_
  show OWay p e below G T12 (mkF m 10 #[.val (.int p0), .val (.ref b_2), .val (.int (3 : Int32)), .val (.int (2 : Int32)), .val (.ref e2)] [(.int (2 : Int32))])
  refine ogo (fun _ z_ => XS.iloadN X12.here hx rfl (hb hby d1_10) rfl z_) ?_
  show OWay p e below G T12 (mkF m 11 #[.val (.int p0), .val (.ref b_2), .val (.int (3 : Int32)), .val (.int (2 : Int32)), .val (.ref e2)] [(.int (3 : Int32)), (.int (2 : Int32))])
  refine ogo (fun _ z_ => XS.icmpNo X12.here hx rfl (hb hby d1_11) rfl (tlt (by decide)).2.1 z_) ?_
  show OWay p e below G T12 (mkF m 14 #[.val (.int p0), .val (.ref b_2), .val (.int (3 : Int32)), .val (.int (2 : Int32)), .val (.ref e2)] [])
  refine ogo (fun _ z_ => XS.aloadN X12.here hx rfl (hb hby d1_14) rfl rfl z_) ?_
  show OWay p e below G T12 (mkF m 15 #[.val (.int p0), .val (.ref b_2), .val (.int (3 : Int32)), .val (.int (2 : Int32)), .val (.ref e2)] [(.ref b_2)])
  refine ogo (fun _ z_ => XS.iloadN X12.here hx rfl (hb hby d1_15) rfl z_) ?_
  show OWay p e below G T12 (mkF m 16 #[.val (.int p0), .val (.ref b_2), .val (.int (3 : Int32)), .val (.int (2 : Int32)), .val (.ref e2)] [(.int (2 : Int32)), (.ref b_2)])
  obtain ⟨cl_o13, Ar_o13, q_o13, S_o13, N_o13, H_o13, G_o13⟩ := id P5
  have hin_o13 : ¬ ((2 : Int32) < 0 ∨ cl_o13.slots.size ≤ ((2 : Int32)).toNatClampNeg) := inb_of S_o13 ⟨by decide, by decide⟩
  have hat_o13 : cl_o13.slots[((2 : Int32)).toNatClampNeg]? = some (.ref e3) := H_o13.at hin_o13 rfl
  refine ogo (fun _ z_ => X12.aaload hx (j := (2 : Int32)) (v := (.ref e3)) (by rw [eT12]; exact Ar_o13.1) (State.isArrayOf_alike hZ.alike Ar_o13.2.1) rfl Ar_o13.2.2 hin_o13 hat_o13 (g := (mkF m 16 #[.val (.int p0), .val (.ref b_2), .val (.int (3 : Int32)), .val (.int (2 : Int32)), .val (.ref e2)] [(.int (2 : Int32)), (.ref b_2)])) rfl rfl (hb hby d1_16) _ z_) ?_
  show OWay p e below G T12 (mkF m 17 #[.val (.int p0), .val (.ref b_2), .val (.int (3 : Int32)), .val (.int (2 : Int32)), .val (.ref e2)] [(.ref e3)])
  refine ogo (fun _ z_ => XS.astore X12.here hx rfl (hb hby d1_17) rfl rfl (l' := #[.val (.int p0), .val (.ref b_2), .val (.int (3 : Int32)), .val (.int (2 : Int32)), .val (.ref e3)]) rfl z_) ?_
  show OWay p e below G T12 (mkF m 19 #[.val (.int p0), .val (.ref b_2), .val (.int (3 : Int32)), .val (.int (2 : Int32)), .val (.ref e3)] [])
  refine ogo (fun _ z_ => XS.aload X12.here hx rfl (hb hby d1_19) rfl rfl z_) ?_
  show OWay p e below G T12 (mkF m 21 #[.val (.int p0), .val (.ref b_2), .val (.int (3 : Int32)), .val (.int (2 : Int32)), .val (.ref e3)] [(.ref e3)])
  obtain ⟨T14, X14, eT14, st14⟩ := getF X12 hx hZ hown (host := "") (Or.inl (hw _ (List.mem_of_getElem? (i := 22) rfl))) Via.refl eT12 (hp4.ext F9.2) (g := (mkF m 21 #[.val (.int p0), .val (.ref b_2), .val (.int (3 : Int32)), .val (.int (2 : Int32)), .val (.ref e3)] [(.ref e3)])) rfl rfl (hb hby d1_21)
  refine ogo st14 ?_
  show OWay p e below G T14 (mkF m 24 #[.val (.int p0), .val (.ref b_2), .val (.int (3 : Int32)), .val (.int (2 : Int32)), .val (.ref e3)] [(.int (3 : Int32))])
  refine ogo (fun _ z_ => XS.iloadN X14.here hx rfl (hb hby d1_24) rfl z_) ?_
  show OWay p e below G T14 (mkF m 25 #[.val (.int p0), .val (.ref b_2), .val (.int (3 : Int32)), .val (.int (2 : Int32)), .val (.ref e3)] [(.int p0), (.int (3 : Int32))])
  refine ogo (fun _ z_ => XS.icmpYes X14.here hx rfl (pc0 := 25) (pc' := 31) rfl (hb hby d1_25) rfl (feq (hne3)).2 (by decide) (by decide) z_) ?_
  show OWay p e below G T14 (mkF m 31 #[.val (.int p0), .val (.ref b_2), .val (.int (3 : Int32)), .val (.int (2 : Int32)), .val (.ref e3)] [])
  refine ogo (fun _ z_ => XS.iinc X14.here hx rfl (hb hby d1_31) rfl (l' := #[.val (.int p0), .val (.ref b_2), .val (.int (3 : Int32)), .val (.int ((2 : Int32) + (1 : Int32))), .val (.ref e3)]) rfl z_) ?_
  show OWay p e below G T14 (mkF m 34 #[.val (.int p0), .val (.ref b_2), .val (.int (3 : Int32)), .val (.int ((2 : Int32) + (1 : Int32))), .val (.ref e3)] [])
  refine ogoE (g' := (mkF m 34 #[.val (.int p0), .val (.ref b_2), .val (.int (3 : Int32)), .val (.int (3 : Int32)), .val (.ref e3)] [])) (by rw [show ((2 : Int32) + (1 : Int32)) = (3 : Int32) from by decide]) ?_
  refine ogo (fun _ z_ => XS.goto X14.here hx rfl (pc0 := 34) (pc' := 9) rfl (hb hby d1_34) (by decide) (by decide) z_) ?_
  show OWay p e below G T14 (mkF m 9 #[.val (.int p0), .val (.ref b_2), .val (.int (3 : Int32)), .val (.int (3 : Int32)), .val (.ref e3)] [])
  refine ogo (fun _ z_ => XS.iloadN X14.here hx rfl (hb hby d1_9) rfl z_) ?_
  show OWay p e below G T14 (mkF m 10 #[.val (.int p0), .val (.ref b_2), .val (.int (3 : Int32)), .val (.int (3 : Int32)), .val (.ref e3)] [(.int (3 : Int32))])
  refine ogo (fun _ z_ => XS.iloadN X14.here hx rfl (hb hby d1_10) rfl z_) ?_
  show OWay p e below G T14 (mkF m 11 #[.val (.int p0), .val (.ref b_2), .val (.int (3 : Int32)), .val (.int (3 : Int32)), .val (.ref e3)] [(.int (3 : Int32)), (.int (3 : Int32))])
  refine ogo (fun _ z_ => XS.icmpYes X14.here hx rfl (pc0 := 11) (pc' := 37) rfl (hb hby d1_11) rfl (flt (by decide)).2.1 (by decide) (by decide) z_) ?_
  show OWay p e below G T14 (mkF m 37 #[.val (.int p0), .val (.ref b_2), .val (.int (3 : Int32)), .val (.int (3 : Int32)), .val (.ref e3)] [])
  refine ogo (fun _ z_ => XS.aconstNull X14.here hx rfl (hb hby d1_37) z_) ?_
  show OWay p e below G T14 (mkF m 38 #[.val (.int p0), .val (.ref b_2), .val (.int (3 : Int32)), .val (.int (3 : Int32)), .val (.ref e3)] [.null])
  subst hG
  refine wRet X14 hx hret hlk rfl (Or.inr (Or.inr (Or.inr (Or.inr ⟨rfl, rfl, rfl⟩)))) (hb hby d1_38) (by decide) (by decide) eT14 ?_
  exact ⟨rfl, N1, K6⟩
theorem d3_27 : decode method_2_code 27 = .ok (.aconst_null, 1) := by decide +kernel
theorem d3_28 : decode method_2_code 28 = .ok (.areturn, 1) := by decide +kernel
def expected0_rm : Room := { frames := 0, cells := 0, slots := 0, locals := 0 }
def expected0_Q (Z : State) (p0 : Int32) (h0 : Heap) (n0 : Nat) (v : Option Value) (h : Heap) (L : List Loc) : Prop := (v = some .null) ∧ (Fr n0 L) ∧ (h = h0)
theorem expected0_ef (m : MethodId) (p0 : Int32) : entryFrame m #[(.int p0)] 1 = mkF m 0 #[.val (.int p0)] [] := by first | (simp [entryFrame, mkF, argsToLocals, Value.category]; done) | rfl
set_option maxRecDepth 65536 in
set_option maxHeartbeats 40000000 in
theorem expected0_c (l : Launch) (Z : State) (az : Array Value) (hw : ∀ d ∈ tables_1, d.before az Z = true) (ws : List Jvm.Cond) (p0 : Int32) (h0 : Heap) (n0 : Nat) (Z0 : n0 ≤ h0.size) (hne1 : ¬ (p0 = (1 : Int32))) (hne2 : ¬ (p0 = (2 : Int32))) (hne3 : ¬ (p0 = (3 : Int32))) :
    OCon l (⟨"com/example/marduk/marduk/model/MessageTypeOfCodePinLaw", "expected", "(I)Lcom/example/marduk/marduk/model/MessageType;"⟩ : MethodName) method_2_code 1 (some (.object "com/example/marduk/marduk/model/MessageType")) ws expected0_rm Z #[(.int p0)] h0 (expected0_Q Z p0 h0 n0) := by
  refine ocon (plainFor_of_name pn_com_example_marduk_marduk_model_MessageTypeOfCodePinLaw) ?_
  intro p e s m below meth c s₁ hx hby hml hown hnm hret hlk hZ X0 eh0
  have N0 := Fr.nil n0
  have K0 := Keep.refl h0 []
  refine ogoE (expected0_ef m p0) ?_
  generalize hG : (OEnd s below (expected0_Q Z p0 h0 n0) expected0_rm.cells expected0_rm.slots) = G
  show OWay p e below G s₁ (mkF m 0 #[.val (.int p0)] [])
  refine ogo (fun _ z_ => XS.iloadN X0.here hx rfl (hb hby d3_0) rfl z_) ?_
  show OWay p e below G s₁ (mkF m 1 #[.val (.int p0)] [(.int p0)])
  refine ogo (fun _ z_ => XS.iconst X0.here hx rfl (hb hby d3_1) z_) ?_
  show OWay p e below G s₁ (mkF m 2 #[.val (.int p0)] [(.int (1 : Int32)), (.int p0)])
  refine ogo (fun _ z_ => XS.icmpYes X0.here hx rfl (pc0 := 2) (pc' := 9) rfl (hb hby d3_2) rfl (feq (hne1)).2 (by decide) (by decide) z_) ?_
  show OWay p e below G s₁ (mkF m 9 #[.val (.int p0)] [])
  refine ogo (fun _ z_ => XS.iloadN X0.here hx rfl (hb hby d3_9) rfl z_) ?_
  show OWay p e below G s₁ (mkF m 10 #[.val (.int p0)] [(.int p0)])
  refine ogo (fun _ z_ => XS.iconst X0.here hx rfl (hb hby d3_10) z_) ?_
  show OWay p e below G s₁ (mkF m 11 #[.val (.int p0)] [(.int (2 : Int32)), (.int p0)])
  refine ogo (fun _ z_ => XS.icmpYes X0.here hx rfl (pc0 := 11) (pc' := 18) rfl (hb hby d3_11) rfl (feq (hne2)).2 (by decide) (by decide) z_) ?_
  show OWay p e below G s₁ (mkF m 18 #[.val (.int p0)] [])
  refine ogo (fun _ z_ => XS.iloadN X0.here hx rfl (hb hby d3_18) rfl z_) ?_
  show OWay p e below G s₁ (mkF m 19 #[.val (.int p0)] [(.int p0)])
  refine ogo (fun _ z_ => XS.iconst X0.here hx rfl (hb hby d3_19) z_) ?_
  show OWay p e below G s₁ (mkF m 20 #[.val (.int p0)] [(.int (3 : Int32)), (.int p0)])
  refine ogo (fun _ z_ => XS.icmpYes X0.here hx rfl (pc0 := 20) (pc' := 27) rfl (hb hby d3_20) rfl (feq (hne3)).2 (by decide) (by decide) z_) ?_
  show OWay p e below G s₁ (mkF m 27 #[.val (.int p0)] [])
  refine ogo (fun _ z_ => XS.aconstNull X0.here hx rfl (hb hby d3_27) z_) ?_
  show OWay p e below G s₁ (mkF m 28 #[.val (.int p0)] [.null])
  subst hG
  refine wRet X0 hx hret hlk rfl (Or.inr (Or.inr (Or.inr (Or.inr ⟨rfl, rfl, rfl⟩)))) (hb hby d3_28) (by decide) (by decide) eh0 ?_
  exact ⟨rfl, N0, rfl⟩
theorem d4_0 : decode prog_20_method_4_code 0 = .ok (.aload_n 0, 1) := by decide +kernel
theorem d4_1 : decode prog_20_method_4_code 1 = .ok (.getfield 32, 3) := by decide +kernel
theorem d4_4 : decode prog_20_method_4_code 4 = .ok (.ireturn, 1) := by decide +kernel
def get4_rm : Room := { frames := 0, cells := 0, slots := 0, locals := 0 }
def get4_Q (Z : State) (a0 : Addr) (w : Int32) (h0 : Heap) (n0 : Nat) (v : Option Value) (h : Heap) (L : List Loc) : Prop := (v = some (.int w)) ∧ (Fr n0 L) ∧ (h = h0)
theorem get4_ef (m : MethodId) (a0 : Addr) : entryFrame m #[(.ref a0)] 1 = mkF m 0 #[.val (.ref a0)] [] := by first | (simp [entryFrame, mkF, argsToLocals, Value.category]; done) | rfl
set_option maxRecDepth 65536 in
set_option maxHeartbeats 40000000 in
theorem get4_c (l : Launch) (Z : State) (az : Array Value) (hw : ∀ d ∈ tables_1, d.before az Z = true) (ws : List Jvm.Cond) (a0 : Addr) (w : Int32) (h0 : Heap) (n0 : Nat) (Z0 : n0 ≤ h0.size) (hp0 : Fld Z h0 a0 "com/example/marduk/marduk/model/MessageType" "code" "I" (.int w)) :
    OCon l (⟨"com/example/marduk/marduk/model/MessageType", "code", "()I"⟩ : MethodName) prog_20_method_4_code 1 (some .int) ws get4_rm Z #[(.ref a0)] h0 (get4_Q Z a0 w h0 n0) := by
  refine ocon (plainFor_of_name pn_com_example_marduk_marduk_model_MessageType) ?_
  intro p e s m below meth c s₁ hx hby hml hown hnm hret hlk hZ X0 eh0
  have N0 := Fr.nil n0
  have K0 := Keep.refl h0 []
  refine ogoE (get4_ef m a0) ?_
  generalize hG : (OEnd s below (get4_Q Z a0 w h0 n0) get4_rm.cells get4_rm.slots) = G
  show OWay p e below G s₁ (mkF m 0 #[.val (.ref a0)] [])
  refine ogo (fun _ z_ => XS.aloadN X0.here hx rfl (hb hby d4_0) rfl rfl z_) ?_
  show OWay p e below G s₁ (mkF m 1 #[.val (.ref a0)] [(.ref a0)])
  obtain ⟨T1, X1, eT1, st1⟩ := getF X0 hx hZ hown (host := "") (Or.inl (hw _ (List.mem_of_getElem? (i := 22) rfl))) Via.refl eh0 hp0 (g := (mkF m 1 #[.val (.ref a0)] [(.ref a0)])) rfl rfl (hb hby d4_1)
  refine ogo st1 ?_
  show OWay p e below G T1 (mkF m 4 #[.val (.ref a0)] [(.int w)])
  subst hG
  refine wRet X1 hx hret hlk rfl (Or.inl ⟨rfl, Or.inl rfl, _, rfl⟩) (hb hby d4_4) (by decide) (by decide) eT1 ?_
  exact ⟨rfl, N0, rfl⟩
theorem pd__I_Lcom_example_marduk_marduk_model_MessageType_ : parseMethodDescriptor "(I)Lcom/example/marduk/marduk/model/MessageType;" = some ⟨[.int], some (.object "com/example/marduk/marduk/model/MessageType")⟩ := by decide +kernel
theorem pd___I : parseMethodDescriptor "()I" = some ⟨[], some .int⟩ := by decide +kernel
def law_Q (Z : State) (p0 : Int32) (p1 : Int32) (av : Addr) (cl : Cell) (e1 : Addr) (e2 : Addr) (e3 : Addr) (h0 : Heap) (n0 : Nat) (v : Option Value) (h : Heap) (L : List Loc) : Prop := v = some (.int 1) ∧ Fr n0 L
theorem law_ef (m : MethodId) (p0 : Int32) (p1 : Int32) : entryFrame m #[(.int p0), (.int p1)] maxLocals = mkF m 0 #[.val (.int p0), .val (.int p1), .unset, .unset] [] := by first | (simp [entryFrame, mkF, argsToLocals, Value.category, maxLocals]; done) | rfl
set_option maxRecDepth 65536 in
set_option maxHeartbeats 40000000 in
theorem law_c (l : Launch) (Z : State) (az : Array Value) (hw : ∀ d ∈ tables_1, d.before az Z = true) (ws : List Jvm.Cond) (p0 : Int32) (p1 : Int32) (av : Addr) (cl : Cell) (e1 : Addr) (e2 : Addr) (e3 : Addr) (h0 : Heap) (n0 : Nat) (Z0 : n0 ≤ h0.size) (hp0 : Sta Z Z.heap "com/example/marduk/marduk/model/MessageType" "$VALUES" "[Lcom/example/marduk/marduk/model/MessageType;" (.ref av)) (hp1 : Old Z n0 h0) (hp2 : Sta Z Z.heap "com/example/marduk/marduk/model/MessageType" "HEARTBEAT" "Lcom/example/marduk/marduk/model/MessageType;" (.ref e1)) (hp3 : Sta Z Z.heap "com/example/marduk/marduk/model/MessageType" "UPDATE" "Lcom/example/marduk/marduk/model/MessageType;" (.ref e2)) (hp4 : Sta Z Z.heap "com/example/marduk/marduk/model/MessageType" "LEAVE" "Lcom/example/marduk/marduk/model/MessageType;" (.ref e3)) (hp5 : Exa Z Z.heap e1 "com/example/marduk/marduk/model/MessageType") (hp6 : Exa Z Z.heap e2 "com/example/marduk/marduk/model/MessageType") (hp7 : Exa Z Z.heap e3 "com/example/marduk/marduk/model/MessageType") (hp8 : Fld Z Z.heap e1 "com/example/marduk/marduk/model/MessageType" "code" "I" (.int (1 : Int32))) (hp9 : Fld Z Z.heap e2 "com/example/marduk/marduk/model/MessageType" "code" "I" (.int (2 : Int32))) (hp10 : Fld Z Z.heap e3 "com/example/marduk/marduk/model/MessageType" "code" "I" (.int (3 : Int32))) (hA : Arr Z Z.heap av cl (.object "com/example/marduk/marduk/model/MessageType")) (hE : Exa Z Z.heap av "[Lcom/example/marduk/marduk/model/MessageType;") (hF : FitC Z cl) (hS : cl.slots.size = (3 : Int32).toNatClampNeg) (hH : Has cl [(.ref e1), (.ref e2), (.ref e3)] .null) (hGt : ∀ i, i < cl.slots.size → fits (.object "com/example/marduk/marduk/model/MessageType") (([(.ref e1), (.ref e2), (.ref e3)] : List Value).getD i .null) = true) :
    OCon l x code maxLocals ret ws room_1 Z #[(.int p0), (.int p1)] h0 (law_Q Z p0 p1 av cl e1 e2 e3 h0 n0) := by
  refine ocon (plainFor_of_name pn_com_example_marduk_marduk_model_MessageTypeOfCodePinLaw) ?_
  intro p e s m below meth c s₁ hx hby hml hown hnm hret hlk hZ X0 eh0
  have N0 := Fr.nil n0
  have K0 := Keep.refl h0 []
  refine ogoE (law_ef m p0 p1) ?_
  generalize hG : (OEnd s below (law_Q Z p0 p1 av cl e1 e2 e3 h0 n0) room_1.cells room_1.slots) = G
  show OWay p e below G s₁ (mkF m 0 #[.val (.int p0), .val (.int p1), .unset, .unset] [])
  refine ogo (fun _ z_ => XS.iloadN X0.here hx rfl (hb hby at_0) rfl z_) ?_
  show OWay p e below G s₁ (mkF m 1 #[.val (.int p0), .val (.int p1), .unset, .unset] [(.int p1)])
  refine ogo (fun _ z_ => XS.iconst X0.here hx rfl (hb hby at_1) z_) ?_
  show OWay p e below G s₁ (mkF m 2 #[.val (.int p0), .val (.int p1), .unset, .unset] [(.int (1 : Int32)), (.int p1)])
  refine ogo (fun _ z_ => XS.iand X0.here hx rfl (hb hby at_2) rfl z_) ?_
  show OWay p e below G s₁ (mkF m 3 #[.val (.int p0), .val (.int p1), .unset, .unset] [(.int (p1 &&& (1 : Int32)))])
  have J2 : ∀ (us0_1 : Int32), us0_1 = (if (p1 &&& (1 : Int32)) = (0 : Int32) then p0 else ((p0 &&& (7 : Int32)) - (2 : Int32))) → OWay p e below G s₁ (mkF m 16 #[.val (.int p0), .val (.int p1), .unset, .unset] [(.int us0_1)]) := by
    intro us0_1 hus0_1
    refine ogo (fun _ z_ => XS.istoreN X0.here hx rfl (hb hby at_16) rfl (l' := #[.val (.int p0), .val (.int p1), .val (.int us0_1), .unset]) rfl z_) ?_
    show OWay p e below G s₁ (mkF m 17 #[.val (.int p0), .val (.int p1), .val (.int us0_1), .unset] [])
    by_cases k1 : (1 : Int32) = us0_1
    · show OWay p e below G s₁ (mkF m 17 #[.val (.int p0), .val (.int p1), .val (.int us0_1), .unset] [])
      refine ogo (fun _ z_ => XS.iloadN X0.here hx rfl (hb hby at_17) rfl z_) ?_
      show OWay p e below G s₁ (mkF m 18 #[.val (.int p0), .val (.int p1), .val (.int us0_1), .unset] [(.int us0_1)])
      obtain ⟨_, T3, L3, X3, hQ3, st3⟩ := wStatic X0 hx hZ (y := (⟨"com/example/marduk/marduk/model/MessageType", "ofCode", "(I)Lcom/example/marduk/marduk/model/MessageType;"⟩ : MethodName)) hown (hw _ (List.mem_of_getElem? (i := 0) rfl)) (hw _ (List.mem_of_getElem? (i := 1) rfl)) (hw _ (List.mem_of_getElem? (i := 2) rfl)) (hw _ (List.mem_of_getElem? (i := 3) rfl)) (by decide) (ofCode1_c l Z az hw [] us0_1 av cl e1 e2 e3 h0 n0 Z0 hp0 hp1 hp8 hp9 hp10 hA hE hF hS hH hGt k1) 0 (by decide) (by decide) (g := (mkF m 18 #[.val (.int p0), .val (.int p1), .val (.int us0_1), .unset] [(.int us0_1)])) rfl (by rw [hml]; rfl) (argsL := [(.int us0_1)]) (rest := []) (lenOf pd__I_Lcom_example_marduk_marduk_model_MessageType_ rfl) rfl (by show 2 * 0 + _ ≤ _; exact Nat.le_of_eq rfl) (hb hby at_18) rfl eh0 (by decide) (by decide)
      obtain ⟨rfl, N3q, Kq3⟩ := hQ3
      have N3 := Fr.app N0 N3q
      have K4 : Keep h0 T3.heap [] := K0.trans Kq3 all0
      refine ogo st3 ?_
      show OWay p e below G T3 (mkF m 21 #[.val (.int p0), .val (.int p1), .val (.int us0_1), .unset] [(.ref e1)])
      refine ogo (fun _ z_ => XS.astoreN X3.here hx rfl (hb hby at_21) rfl rfl (l' := #[.val (.int p0), .val (.int p1), .val (.int us0_1), .val (.ref e1)]) rfl z_) ?_
      show OWay p e below G T3 (mkF m 22 #[.val (.int p0), .val (.int p1), .val (.int us0_1), .val (.ref e1)] [])
      refine ogo (fun _ z_ => XS.aloadN X3.here hx rfl (hb hby at_22) rfl rfl z_) ?_
      show OWay p e below G T3 (mkF m 23 #[.val (.int p0), .val (.int p1), .val (.int us0_1), .val (.ref e1)] [(.ref e1)])
      refine ogo (fun _ z_ => XS.iloadN X3.here hx rfl (hb hby at_23) rfl z_) ?_
      show OWay p e below G T3 (mkF m 24 #[.val (.int p0), .val (.int p1), .val (.int us0_1), .val (.ref e1)] [(.int us0_1), (.ref e1)])
      have F5 : Old Z n0 T3.heap := (hp1.keep Kq3 all0)
      obtain ⟨_, T6, L6, X6, hQ6, st6⟩ := wStatic X3 hx hZ (y := (⟨"com/example/marduk/marduk/model/MessageTypeOfCodePinLaw", "expected", "(I)Lcom/example/marduk/marduk/model/MessageType;"⟩ : MethodName)) hown (hw _ (List.mem_of_getElem? (i := 24) rfl)) (hw _ (List.mem_of_getElem? (i := 25) rfl)) (hw _ (List.mem_of_getElem? (i := 26) rfl)) (hw _ (List.mem_of_getElem? (i := 27) rfl)) (by decide) (expected1_c l Z az hw [] us0_1 e1 T3.heap n0 (Nat.le_trans Z0 Kq3.1) hp2 F5 k1.symm) 1 (by decide) (by decide) (g := (mkF m 24 #[.val (.int p0), .val (.int p1), .val (.int us0_1), .val (.ref e1)] [(.int us0_1), (.ref e1)])) rfl (by rw [hml]; rfl) (argsL := [(.int us0_1)]) (rest := [(.ref e1)]) (lenOf pd__I_Lcom_example_marduk_marduk_model_MessageType_ rfl) rfl (by show 2 * 0 + _ ≤ _; exact Nat.le_of_eq rfl) (hb hby at_24) rfl rfl (by decide) (by decide)
      obtain ⟨rfl, N6q, eq6⟩ := hQ6
      have N6 := Fr.app N3 N6q
      refine ogo st6 ?_
      show OWay p e below G T6 (mkF m 27 #[.val (.int p0), .val (.int p1), .val (.int us0_1), .val (.ref e1)] [(.ref e1), (.ref e1)])
      refine ogo (fun _ z_ => Jvm.RoadKit.acmp (g := (mkF m 27 #[.val (.int p0), .val (.int p1), .val (.int us0_1), .val (.ref e1)] [(.ref e1), (.ref e1)])) X6 hx rfl rfl rfl (pc0 := 27) (pc' := 32) (same := true) rfl (hb hby at_27) rfl (decide_eq_true rfl) (by decide) (by decide) z_) ?_
      show OWay p e below G T6 (mkF m 32 #[.val (.int p0), .val (.int p1), .val (.int us0_1), .val (.ref e1)] [])
      refine ogo (fun _ z_ => XS.aloadN X6.here hx rfl (hb hby at_32) rfl rfl z_) ?_
      show OWay p e below G T6 (mkF m 33 #[.val (.int p0), .val (.int p1), .val (.int us0_1), .val (.ref e1)] [(.ref e1)])
      refine ogo (fun _ z_ => XS.ifnullNo X6.here hx rfl (hb hby at_33) rfl z_) ?_
      show OWay p e below G T6 (mkF m 36 #[.val (.int p0), .val (.int p1), .val (.int us0_1), .val (.ref e1)] [])
      refine ogo (fun _ z_ => XS.aloadN X6.here hx rfl (hb hby at_36) rfl rfl z_) ?_
      show OWay p e below G T6 (mkF m 37 #[.val (.int p0), .val (.int p1), .val (.int us0_1), .val (.ref e1)] [(.ref e1)])
      obtain ⟨_, T7, L7, X7, hQ7, st7⟩ := wVirtual X6 hx hZ (y := (⟨"com/example/marduk/marduk/model/MessageType", "code", "()I"⟩ : MethodName)) (z := (⟨"com/example/marduk/marduk/model/MessageType", "code", "()I"⟩ : MethodName)) hown (hw _ (List.mem_of_getElem? (i := 29) rfl)) (hw _ (List.mem_of_getElem? (i := 30) rfl)) (notFace_of_selects (args := #[]) (mvT hZ (hw _ (List.mem_of_getElem? (i := 32) rfl)))) (hw _ (List.mem_of_getElem? (i := 32) rfl)) (hw _ (List.mem_of_getElem? (i := 31) rfl)) (hw _ (List.mem_of_getElem? (i := 2) rfl)) (hw _ (List.mem_of_getElem? (i := 33) rfl)) (by decide) (get4_c l Z az hw [] e1 (1 : Int32) T3.heap n0 (Nat.le_trans Z0 Kq3.1) (hp8.ext F5.2)) 0 (by decide) (by decide) (hp5.ext F5.2) (g := (mkF m 37 #[.val (.int p0), .val (.int p1), .val (.int us0_1), .val (.ref e1)] [(.ref e1)])) rfl (by rw [hml]; rfl) (argsL := []) (rest := []) (lenOf pd___I rfl) rfl (by show 2 * 0 + _ ≤ _; exact Nat.le_of_eq rfl) (hb hby at_37) rfl eq6 (by decide) (by decide)
      obtain ⟨rfl, N7q, eq7⟩ := hQ7
      have N7 := Fr.app N6 N7q
      refine ogoS st7 ?_
      show OWay p e below G T7 (mkF m 40 #[.val (.int p0), .val (.int p1), .val (.int us0_1), .val (.ref e1)] [(.int (1 : Int32))])
      refine ogo (fun _ z_ => XS.iloadN X7.here hx rfl (hb hby at_40) rfl z_) ?_
      show OWay p e below G T7 (mkF m 41 #[.val (.int p0), .val (.int p1), .val (.int us0_1), .val (.ref e1)] [(.int us0_1), (.int (1 : Int32))])
      refine ogo (fun _ z_ => XS.icmpNo X7.here hx rfl (hb hby at_41) rfl (teq k1).2 z_) ?_
      show OWay p e below G T7 (mkF m 44 #[.val (.int p0), .val (.int p1), .val (.int us0_1), .val (.ref e1)] [])
      refine ogo (fun _ z_ => XS.iconst X7.here hx rfl (hb hby at_44) z_) ?_
      show OWay p e below G T7 (mkF m 45 #[.val (.int p0), .val (.int p1), .val (.int us0_1), .val (.ref e1)] [(.int (1 : Int32))])
      refine ogo (fun _ z_ => XS.goto X7.here hx rfl (pc0 := 45) (pc' := 49) rfl (hb hby at_45) (by decide) (by decide) z_) ?_
      show OWay p e below G T7 (mkF m 49 #[.val (.int p0), .val (.int p1), .val (.int us0_1), .val (.ref e1)] [(.int (1 : Int32))])
      subst hG
      refine wRetN X7 hx (t := .boolean) hret hlk (by simp) (hb hby at_49) (by decide) (by decide) eq7 ?_
      exact ⟨rfl, N7⟩
    · show OWay p e below G s₁ (mkF m 17 #[.val (.int p0), .val (.int p1), .val (.int us0_1), .unset] [])
      by_cases k2 : (2 : Int32) = us0_1
      · show OWay p e below G s₁ (mkF m 17 #[.val (.int p0), .val (.int p1), .val (.int us0_1), .unset] [])
        refine ogo (fun _ z_ => XS.iloadN X0.here hx rfl (hb hby at_17) rfl z_) ?_
        show OWay p e below G s₁ (mkF m 18 #[.val (.int p0), .val (.int p1), .val (.int us0_1), .unset] [(.int us0_1)])
        obtain ⟨_, T8, L8, X8, hQ8, st8⟩ := wStatic X0 hx hZ (y := (⟨"com/example/marduk/marduk/model/MessageType", "ofCode", "(I)Lcom/example/marduk/marduk/model/MessageType;"⟩ : MethodName)) hown (hw _ (List.mem_of_getElem? (i := 0) rfl)) (hw _ (List.mem_of_getElem? (i := 1) rfl)) (hw _ (List.mem_of_getElem? (i := 2) rfl)) (hw _ (List.mem_of_getElem? (i := 3) rfl)) (by decide) (ofCode2_c l Z az hw [] us0_1 av cl e1 e2 e3 h0 n0 Z0 hp0 hp1 hp8 hp9 hp10 hA hE hF hS hH hGt k1 k2) 0 (by decide) (by decide) (g := (mkF m 18 #[.val (.int p0), .val (.int p1), .val (.int us0_1), .unset] [(.int us0_1)])) rfl (by rw [hml]; rfl) (argsL := [(.int us0_1)]) (rest := []) (lenOf pd__I_Lcom_example_marduk_marduk_model_MessageType_ rfl) rfl (by show 2 * 0 + _ ≤ _; exact Nat.le_of_eq rfl) (hb hby at_18) rfl eh0 (by decide) (by decide)
        obtain ⟨rfl, N8q, Kq8⟩ := hQ8
        have N8 := Fr.app N0 N8q
        have K9 : Keep h0 T8.heap [] := K0.trans Kq8 all0
        refine ogo st8 ?_
        show OWay p e below G T8 (mkF m 21 #[.val (.int p0), .val (.int p1), .val (.int us0_1), .unset] [(.ref e2)])
        refine ogo (fun _ z_ => XS.astoreN X8.here hx rfl (hb hby at_21) rfl rfl (l' := #[.val (.int p0), .val (.int p1), .val (.int us0_1), .val (.ref e2)]) rfl z_) ?_
        show OWay p e below G T8 (mkF m 22 #[.val (.int p0), .val (.int p1), .val (.int us0_1), .val (.ref e2)] [])
        refine ogo (fun _ z_ => XS.aloadN X8.here hx rfl (hb hby at_22) rfl rfl z_) ?_
        show OWay p e below G T8 (mkF m 23 #[.val (.int p0), .val (.int p1), .val (.int us0_1), .val (.ref e2)] [(.ref e2)])
        refine ogo (fun _ z_ => XS.iloadN X8.here hx rfl (hb hby at_23) rfl z_) ?_
        show OWay p e below G T8 (mkF m 24 #[.val (.int p0), .val (.int p1), .val (.int us0_1), .val (.ref e2)] [(.int us0_1), (.ref e2)])
        have F10 : Old Z n0 T8.heap := (hp1.keep Kq8 all0)
        obtain ⟨_, T11, L11, X11, hQ11, st11⟩ := wStatic X8 hx hZ (y := (⟨"com/example/marduk/marduk/model/MessageTypeOfCodePinLaw", "expected", "(I)Lcom/example/marduk/marduk/model/MessageType;"⟩ : MethodName)) hown (hw _ (List.mem_of_getElem? (i := 24) rfl)) (hw _ (List.mem_of_getElem? (i := 25) rfl)) (hw _ (List.mem_of_getElem? (i := 26) rfl)) (hw _ (List.mem_of_getElem? (i := 27) rfl)) (by decide) (expected2_c l Z az hw [] us0_1 e2 T8.heap n0 (Nat.le_trans Z0 Kq8.1) hp3 F10 (fun q => k1 q.symm) k2.symm) 1 (by decide) (by decide) (g := (mkF m 24 #[.val (.int p0), .val (.int p1), .val (.int us0_1), .val (.ref e2)] [(.int us0_1), (.ref e2)])) rfl (by rw [hml]; rfl) (argsL := [(.int us0_1)]) (rest := [(.ref e2)]) (lenOf pd__I_Lcom_example_marduk_marduk_model_MessageType_ rfl) rfl (by show 2 * 0 + _ ≤ _; exact Nat.le_of_eq rfl) (hb hby at_24) rfl rfl (by decide) (by decide)
        obtain ⟨rfl, N11q, eq11⟩ := hQ11
        have N11 := Fr.app N8 N11q
        refine ogo st11 ?_
        show OWay p e below G T11 (mkF m 27 #[.val (.int p0), .val (.int p1), .val (.int us0_1), .val (.ref e2)] [(.ref e2), (.ref e2)])
        refine ogo (fun _ z_ => Jvm.RoadKit.acmp (g := (mkF m 27 #[.val (.int p0), .val (.int p1), .val (.int us0_1), .val (.ref e2)] [(.ref e2), (.ref e2)])) X11 hx rfl rfl rfl (pc0 := 27) (pc' := 32) (same := true) rfl (hb hby at_27) rfl (decide_eq_true rfl) (by decide) (by decide) z_) ?_
        show OWay p e below G T11 (mkF m 32 #[.val (.int p0), .val (.int p1), .val (.int us0_1), .val (.ref e2)] [])
        refine ogo (fun _ z_ => XS.aloadN X11.here hx rfl (hb hby at_32) rfl rfl z_) ?_
        show OWay p e below G T11 (mkF m 33 #[.val (.int p0), .val (.int p1), .val (.int us0_1), .val (.ref e2)] [(.ref e2)])
        refine ogo (fun _ z_ => XS.ifnullNo X11.here hx rfl (hb hby at_33) rfl z_) ?_
        show OWay p e below G T11 (mkF m 36 #[.val (.int p0), .val (.int p1), .val (.int us0_1), .val (.ref e2)] [])
        refine ogo (fun _ z_ => XS.aloadN X11.here hx rfl (hb hby at_36) rfl rfl z_) ?_
        show OWay p e below G T11 (mkF m 37 #[.val (.int p0), .val (.int p1), .val (.int us0_1), .val (.ref e2)] [(.ref e2)])
        obtain ⟨_, T12, L12, X12, hQ12, st12⟩ := wVirtual X11 hx hZ (y := (⟨"com/example/marduk/marduk/model/MessageType", "code", "()I"⟩ : MethodName)) (z := (⟨"com/example/marduk/marduk/model/MessageType", "code", "()I"⟩ : MethodName)) hown (hw _ (List.mem_of_getElem? (i := 29) rfl)) (hw _ (List.mem_of_getElem? (i := 30) rfl)) (notFace_of_selects (args := #[]) (mvT hZ (hw _ (List.mem_of_getElem? (i := 32) rfl)))) (hw _ (List.mem_of_getElem? (i := 32) rfl)) (hw _ (List.mem_of_getElem? (i := 31) rfl)) (hw _ (List.mem_of_getElem? (i := 2) rfl)) (hw _ (List.mem_of_getElem? (i := 33) rfl)) (by decide) (get4_c l Z az hw [] e2 (2 : Int32) T8.heap n0 (Nat.le_trans Z0 Kq8.1) (hp9.ext F10.2)) 0 (by decide) (by decide) (hp6.ext F10.2) (g := (mkF m 37 #[.val (.int p0), .val (.int p1), .val (.int us0_1), .val (.ref e2)] [(.ref e2)])) rfl (by rw [hml]; rfl) (argsL := []) (rest := []) (lenOf pd___I rfl) rfl (by show 2 * 0 + _ ≤ _; exact Nat.le_of_eq rfl) (hb hby at_37) rfl eq11 (by decide) (by decide)
        obtain ⟨rfl, N12q, eq12⟩ := hQ12
        have N12 := Fr.app N11 N12q
        refine ogoS st12 ?_
        show OWay p e below G T12 (mkF m 40 #[.val (.int p0), .val (.int p1), .val (.int us0_1), .val (.ref e2)] [(.int (2 : Int32))])
        refine ogo (fun _ z_ => XS.iloadN X12.here hx rfl (hb hby at_40) rfl z_) ?_
        show OWay p e below G T12 (mkF m 41 #[.val (.int p0), .val (.int p1), .val (.int us0_1), .val (.ref e2)] [(.int us0_1), (.int (2 : Int32))])
        refine ogo (fun _ z_ => XS.icmpNo X12.here hx rfl (hb hby at_41) rfl (teq k2).2 z_) ?_
        show OWay p e below G T12 (mkF m 44 #[.val (.int p0), .val (.int p1), .val (.int us0_1), .val (.ref e2)] [])
        refine ogo (fun _ z_ => XS.iconst X12.here hx rfl (hb hby at_44) z_) ?_
        show OWay p e below G T12 (mkF m 45 #[.val (.int p0), .val (.int p1), .val (.int us0_1), .val (.ref e2)] [(.int (1 : Int32))])
        refine ogo (fun _ z_ => XS.goto X12.here hx rfl (pc0 := 45) (pc' := 49) rfl (hb hby at_45) (by decide) (by decide) z_) ?_
        show OWay p e below G T12 (mkF m 49 #[.val (.int p0), .val (.int p1), .val (.int us0_1), .val (.ref e2)] [(.int (1 : Int32))])
        subst hG
        refine wRetN X12 hx (t := .boolean) hret hlk (by simp) (hb hby at_49) (by decide) (by decide) eq12 ?_
        exact ⟨rfl, N12⟩
      · show OWay p e below G s₁ (mkF m 17 #[.val (.int p0), .val (.int p1), .val (.int us0_1), .unset] [])
        by_cases k3 : (3 : Int32) = us0_1
        · show OWay p e below G s₁ (mkF m 17 #[.val (.int p0), .val (.int p1), .val (.int us0_1), .unset] [])
          refine ogo (fun _ z_ => XS.iloadN X0.here hx rfl (hb hby at_17) rfl z_) ?_
          show OWay p e below G s₁ (mkF m 18 #[.val (.int p0), .val (.int p1), .val (.int us0_1), .unset] [(.int us0_1)])
          obtain ⟨_, T13, L13, X13, hQ13, st13⟩ := wStatic X0 hx hZ (y := (⟨"com/example/marduk/marduk/model/MessageType", "ofCode", "(I)Lcom/example/marduk/marduk/model/MessageType;"⟩ : MethodName)) hown (hw _ (List.mem_of_getElem? (i := 0) rfl)) (hw _ (List.mem_of_getElem? (i := 1) rfl)) (hw _ (List.mem_of_getElem? (i := 2) rfl)) (hw _ (List.mem_of_getElem? (i := 3) rfl)) (by decide) (ofCode3_c l Z az hw [] us0_1 av cl e1 e2 e3 h0 n0 Z0 hp0 hp1 hp8 hp9 hp10 hA hE hF hS hH hGt k1 k2 k3) 0 (by decide) (by decide) (g := (mkF m 18 #[.val (.int p0), .val (.int p1), .val (.int us0_1), .unset] [(.int us0_1)])) rfl (by rw [hml]; rfl) (argsL := [(.int us0_1)]) (rest := []) (lenOf pd__I_Lcom_example_marduk_marduk_model_MessageType_ rfl) rfl (by show 2 * 0 + _ ≤ _; exact Nat.le_of_eq rfl) (hb hby at_18) rfl eh0 (by decide) (by decide)
          obtain ⟨rfl, N13q, Kq13⟩ := hQ13
          have N13 := Fr.app N0 N13q
          have K14 : Keep h0 T13.heap [] := K0.trans Kq13 all0
          refine ogo st13 ?_
          show OWay p e below G T13 (mkF m 21 #[.val (.int p0), .val (.int p1), .val (.int us0_1), .unset] [(.ref e3)])
          refine ogo (fun _ z_ => XS.astoreN X13.here hx rfl (hb hby at_21) rfl rfl (l' := #[.val (.int p0), .val (.int p1), .val (.int us0_1), .val (.ref e3)]) rfl z_) ?_
          show OWay p e below G T13 (mkF m 22 #[.val (.int p0), .val (.int p1), .val (.int us0_1), .val (.ref e3)] [])
          refine ogo (fun _ z_ => XS.aloadN X13.here hx rfl (hb hby at_22) rfl rfl z_) ?_
          show OWay p e below G T13 (mkF m 23 #[.val (.int p0), .val (.int p1), .val (.int us0_1), .val (.ref e3)] [(.ref e3)])
          refine ogo (fun _ z_ => XS.iloadN X13.here hx rfl (hb hby at_23) rfl z_) ?_
          show OWay p e below G T13 (mkF m 24 #[.val (.int p0), .val (.int p1), .val (.int us0_1), .val (.ref e3)] [(.int us0_1), (.ref e3)])
          have F15 : Old Z n0 T13.heap := (hp1.keep Kq13 all0)
          obtain ⟨_, T16, L16, X16, hQ16, st16⟩ := wStatic X13 hx hZ (y := (⟨"com/example/marduk/marduk/model/MessageTypeOfCodePinLaw", "expected", "(I)Lcom/example/marduk/marduk/model/MessageType;"⟩ : MethodName)) hown (hw _ (List.mem_of_getElem? (i := 24) rfl)) (hw _ (List.mem_of_getElem? (i := 25) rfl)) (hw _ (List.mem_of_getElem? (i := 26) rfl)) (hw _ (List.mem_of_getElem? (i := 27) rfl)) (by decide) (expected3_c l Z az hw [] us0_1 e3 T13.heap n0 (Nat.le_trans Z0 Kq13.1) hp4 F15 (fun q => k1 q.symm) (fun q => k2 q.symm) k3.symm) 1 (by decide) (by decide) (g := (mkF m 24 #[.val (.int p0), .val (.int p1), .val (.int us0_1), .val (.ref e3)] [(.int us0_1), (.ref e3)])) rfl (by rw [hml]; rfl) (argsL := [(.int us0_1)]) (rest := [(.ref e3)]) (lenOf pd__I_Lcom_example_marduk_marduk_model_MessageType_ rfl) rfl (by show 2 * 0 + _ ≤ _; exact Nat.le_of_eq rfl) (hb hby at_24) rfl rfl (by decide) (by decide)
          obtain ⟨rfl, N16q, eq16⟩ := hQ16
          have N16 := Fr.app N13 N16q
          refine ogo st16 ?_
          show OWay p e below G T16 (mkF m 27 #[.val (.int p0), .val (.int p1), .val (.int us0_1), .val (.ref e3)] [(.ref e3), (.ref e3)])
          refine ogo (fun _ z_ => Jvm.RoadKit.acmp (g := (mkF m 27 #[.val (.int p0), .val (.int p1), .val (.int us0_1), .val (.ref e3)] [(.ref e3), (.ref e3)])) X16 hx rfl rfl rfl (pc0 := 27) (pc' := 32) (same := true) rfl (hb hby at_27) rfl (decide_eq_true rfl) (by decide) (by decide) z_) ?_
          show OWay p e below G T16 (mkF m 32 #[.val (.int p0), .val (.int p1), .val (.int us0_1), .val (.ref e3)] [])
          refine ogo (fun _ z_ => XS.aloadN X16.here hx rfl (hb hby at_32) rfl rfl z_) ?_
          show OWay p e below G T16 (mkF m 33 #[.val (.int p0), .val (.int p1), .val (.int us0_1), .val (.ref e3)] [(.ref e3)])
          refine ogo (fun _ z_ => XS.ifnullNo X16.here hx rfl (hb hby at_33) rfl z_) ?_
          show OWay p e below G T16 (mkF m 36 #[.val (.int p0), .val (.int p1), .val (.int us0_1), .val (.ref e3)] [])
          refine ogo (fun _ z_ => XS.aloadN X16.here hx rfl (hb hby at_36) rfl rfl z_) ?_
          show OWay p e below G T16 (mkF m 37 #[.val (.int p0), .val (.int p1), .val (.int us0_1), .val (.ref e3)] [(.ref e3)])
          obtain ⟨_, T17, L17, X17, hQ17, st17⟩ := wVirtual X16 hx hZ (y := (⟨"com/example/marduk/marduk/model/MessageType", "code", "()I"⟩ : MethodName)) (z := (⟨"com/example/marduk/marduk/model/MessageType", "code", "()I"⟩ : MethodName)) hown (hw _ (List.mem_of_getElem? (i := 29) rfl)) (hw _ (List.mem_of_getElem? (i := 30) rfl)) (notFace_of_selects (args := #[]) (mvT hZ (hw _ (List.mem_of_getElem? (i := 32) rfl)))) (hw _ (List.mem_of_getElem? (i := 32) rfl)) (hw _ (List.mem_of_getElem? (i := 31) rfl)) (hw _ (List.mem_of_getElem? (i := 2) rfl)) (hw _ (List.mem_of_getElem? (i := 33) rfl)) (by decide) (get4_c l Z az hw [] e3 (3 : Int32) T13.heap n0 (Nat.le_trans Z0 Kq13.1) (hp10.ext F15.2)) 0 (by decide) (by decide) (hp7.ext F15.2) (g := (mkF m 37 #[.val (.int p0), .val (.int p1), .val (.int us0_1), .val (.ref e3)] [(.ref e3)])) rfl (by rw [hml]; rfl) (argsL := []) (rest := []) (lenOf pd___I rfl) rfl (by show 2 * 0 + _ ≤ _; exact Nat.le_of_eq rfl) (hb hby at_37) rfl eq16 (by decide) (by decide)
          obtain ⟨rfl, N17q, eq17⟩ := hQ17
          have N17 := Fr.app N16 N17q
          refine ogoS st17 ?_
          show OWay p e below G T17 (mkF m 40 #[.val (.int p0), .val (.int p1), .val (.int us0_1), .val (.ref e3)] [(.int (3 : Int32))])
          refine ogo (fun _ z_ => XS.iloadN X17.here hx rfl (hb hby at_40) rfl z_) ?_
          show OWay p e below G T17 (mkF m 41 #[.val (.int p0), .val (.int p1), .val (.int us0_1), .val (.ref e3)] [(.int us0_1), (.int (3 : Int32))])
          refine ogo (fun _ z_ => XS.icmpNo X17.here hx rfl (hb hby at_41) rfl (teq k3).2 z_) ?_
          show OWay p e below G T17 (mkF m 44 #[.val (.int p0), .val (.int p1), .val (.int us0_1), .val (.ref e3)] [])
          refine ogo (fun _ z_ => XS.iconst X17.here hx rfl (hb hby at_44) z_) ?_
          show OWay p e below G T17 (mkF m 45 #[.val (.int p0), .val (.int p1), .val (.int us0_1), .val (.ref e3)] [(.int (1 : Int32))])
          refine ogo (fun _ z_ => XS.goto X17.here hx rfl (pc0 := 45) (pc' := 49) rfl (hb hby at_45) (by decide) (by decide) z_) ?_
          show OWay p e below G T17 (mkF m 49 #[.val (.int p0), .val (.int p1), .val (.int us0_1), .val (.ref e3)] [(.int (1 : Int32))])
          subst hG
          refine wRetN X17 hx (t := .boolean) hret hlk (by simp) (hb hby at_49) (by decide) (by decide) eq17 ?_
          exact ⟨rfl, N17⟩
        · show OWay p e below G s₁ (mkF m 17 #[.val (.int p0), .val (.int p1), .val (.int us0_1), .unset] [])
          refine ogo (fun _ z_ => XS.iloadN X0.here hx rfl (hb hby at_17) rfl z_) ?_
          show OWay p e below G s₁ (mkF m 18 #[.val (.int p0), .val (.int p1), .val (.int us0_1), .unset] [(.int us0_1)])
          obtain ⟨_, T18, L18, X18, hQ18, st18⟩ := wStatic X0 hx hZ (y := (⟨"com/example/marduk/marduk/model/MessageType", "ofCode", "(I)Lcom/example/marduk/marduk/model/MessageType;"⟩ : MethodName)) hown (hw _ (List.mem_of_getElem? (i := 0) rfl)) (hw _ (List.mem_of_getElem? (i := 1) rfl)) (hw _ (List.mem_of_getElem? (i := 2) rfl)) (hw _ (List.mem_of_getElem? (i := 3) rfl)) (by decide) (ofCode0_c l Z az hw [] us0_1 av cl e1 e2 e3 h0 n0 Z0 hp0 hp1 hp8 hp9 hp10 hA hE hF hS hH hGt k1 k2 k3) 0 (by decide) (by decide) (g := (mkF m 18 #[.val (.int p0), .val (.int p1), .val (.int us0_1), .unset] [(.int us0_1)])) rfl (by rw [hml]; rfl) (argsL := [(.int us0_1)]) (rest := []) (lenOf pd__I_Lcom_example_marduk_marduk_model_MessageType_ rfl) rfl (by show 2 * 0 + _ ≤ _; exact Nat.le_of_eq rfl) (hb hby at_18) rfl eh0 (by decide) (by decide)
          obtain ⟨rfl, N18q, Kq18⟩ := hQ18
          have N18 := Fr.app N0 N18q
          have K19 : Keep h0 T18.heap [] := K0.trans Kq18 all0
          refine ogo st18 ?_
          show OWay p e below G T18 (mkF m 21 #[.val (.int p0), .val (.int p1), .val (.int us0_1), .unset] [.null])
          refine ogo (fun _ z_ => XS.astoreN X18.here hx rfl (hb hby at_21) rfl rfl (l' := #[.val (.int p0), .val (.int p1), .val (.int us0_1), .val .null]) rfl z_) ?_
          show OWay p e below G T18 (mkF m 22 #[.val (.int p0), .val (.int p1), .val (.int us0_1), .val .null] [])
          refine ogo (fun _ z_ => XS.aloadN X18.here hx rfl (hb hby at_22) rfl rfl z_) ?_
          show OWay p e below G T18 (mkF m 23 #[.val (.int p0), .val (.int p1), .val (.int us0_1), .val .null] [.null])
          refine ogo (fun _ z_ => XS.iloadN X18.here hx rfl (hb hby at_23) rfl z_) ?_
          show OWay p e below G T18 (mkF m 24 #[.val (.int p0), .val (.int p1), .val (.int us0_1), .val .null] [(.int us0_1), .null])
          obtain ⟨_, T20, L20, X20, hQ20, st20⟩ := wStatic X18 hx hZ (y := (⟨"com/example/marduk/marduk/model/MessageTypeOfCodePinLaw", "expected", "(I)Lcom/example/marduk/marduk/model/MessageType;"⟩ : MethodName)) hown (hw _ (List.mem_of_getElem? (i := 24) rfl)) (hw _ (List.mem_of_getElem? (i := 25) rfl)) (hw _ (List.mem_of_getElem? (i := 26) rfl)) (hw _ (List.mem_of_getElem? (i := 27) rfl)) (by decide) (expected0_c l Z az hw [] us0_1 T18.heap n0 (Nat.le_trans Z0 Kq18.1) (fun q => k1 q.symm) (fun q => k2 q.symm) (fun q => k3 q.symm)) 1 (by decide) (by decide) (g := (mkF m 24 #[.val (.int p0), .val (.int p1), .val (.int us0_1), .val .null] [(.int us0_1), .null])) rfl (by rw [hml]; rfl) (argsL := [(.int us0_1)]) (rest := [.null]) (lenOf pd__I_Lcom_example_marduk_marduk_model_MessageType_ rfl) rfl (by show 2 * 0 + _ ≤ _; exact Nat.le_of_eq rfl) (hb hby at_24) rfl rfl (by decide) (by decide)
          obtain ⟨rfl, N20q, eq20⟩ := hQ20
          have N20 := Fr.app N18 N20q
          refine ogo st20 ?_
          show OWay p e below G T20 (mkF m 27 #[.val (.int p0), .val (.int p1), .val (.int us0_1), .val .null] [.null, .null])
          refine ogo (fun _ z_ => Jvm.RoadKit.acmp (g := (mkF m 27 #[.val (.int p0), .val (.int p1), .val (.int us0_1), .val .null] [.null, .null])) X20 hx rfl rfl rfl (pc0 := 27) (pc' := 32) (same := true) rfl (hb hby at_27) rfl (decide_eq_true rfl) (by decide) (by decide) z_) ?_
          show OWay p e below G T20 (mkF m 32 #[.val (.int p0), .val (.int p1), .val (.int us0_1), .val .null] [])
          refine ogo (fun _ z_ => XS.aloadN X20.here hx rfl (hb hby at_32) rfl rfl z_) ?_
          show OWay p e below G T20 (mkF m 33 #[.val (.int p0), .val (.int p1), .val (.int us0_1), .val .null] [.null])
          refine ogo (fun _ z_ => XS.ifnullYes X20.here hx rfl (pc0 := 33) (pc' := 44) rfl (hb hby at_33) rfl (by decide) (by decide) z_) ?_
          show OWay p e below G T20 (mkF m 44 #[.val (.int p0), .val (.int p1), .val (.int us0_1), .val .null] [])
          refine ogo (fun _ z_ => XS.iconst X20.here hx rfl (hb hby at_44) z_) ?_
          show OWay p e below G T20 (mkF m 45 #[.val (.int p0), .val (.int p1), .val (.int us0_1), .val .null] [(.int (1 : Int32))])
          refine ogo (fun _ z_ => XS.goto X20.here hx rfl (pc0 := 45) (pc' := 49) rfl (hb hby at_45) (by decide) (by decide) z_) ?_
          show OWay p e below G T20 (mkF m 49 #[.val (.int p0), .val (.int p1), .val (.int us0_1), .val .null] [(.int (1 : Int32))])
          subst hG
          refine wRetN X20 hx (t := .boolean) hret hlk (by simp) (hb hby at_49) (by decide) (by decide) eq20 ?_
          exact ⟨rfl, N20⟩
  by_cases c3 : (p1 &&& (1 : Int32)) = (0 : Int32)
  · refine ogo (fun _ z_ => XS.ifYes X0.here hx rfl (pc0 := 3) (pc' := 15) rfl (hb hby at_3) rfl ((if0 _ _).trans (teq c3).1) (by decide) (by decide) z_) ?_
    show OWay p e below G s₁ (mkF m 15 #[.val (.int p0), .val (.int p1), .unset, .unset] [])
    refine ogo (fun _ z_ => XS.iloadN X0.here hx rfl (hb hby at_15) rfl z_) ?_
    show OWay p e below G s₁ (mkF m 16 #[.val (.int p0), .val (.int p1), .unset, .unset] [(.int p0)])
    exact J2 _ ((if_pos c3).trans rfl).symm
  · refine ogo (fun _ z_ => XS.ifNo X0.here hx rfl (hb hby at_3) rfl ((if0 _ _).trans (feq c3).1) z_) ?_
    show OWay p e below G s₁ (mkF m 6 #[.val (.int p0), .val (.int p1), .unset, .unset] [])
    refine ogo (fun _ z_ => XS.iloadN X0.here hx rfl (hb hby at_6) rfl z_) ?_
    show OWay p e below G s₁ (mkF m 7 #[.val (.int p0), .val (.int p1), .unset, .unset] [(.int p0)])
    refine ogo (fun _ z_ => XS.bipush X0.here hx rfl (hb hby at_7) z_) ?_
    show OWay p e below G s₁ (mkF m 9 #[.val (.int p0), .val (.int p1), .unset, .unset] [(.int (7 : Int32)), (.int p0)])
    refine ogo (fun _ z_ => XS.iand X0.here hx rfl (hb hby at_9) rfl z_) ?_
    show OWay p e below G s₁ (mkF m 10 #[.val (.int p0), .val (.int p1), .unset, .unset] [(.int (p0 &&& (7 : Int32)))])
    refine ogo (fun _ z_ => XS.iconst X0.here hx rfl (hb hby at_10) z_) ?_
    show OWay p e below G s₁ (mkF m 11 #[.val (.int p0), .val (.int p1), .unset, .unset] [(.int (2 : Int32)), (.int (p0 &&& (7 : Int32)))])
    refine ogo (fun _ z_ => XS.isub X0.here hx rfl (hb hby at_11) rfl z_) ?_
    show OWay p e below G s₁ (mkF m 12 #[.val (.int p0), .val (.int p1), .unset, .unset] [(.int ((p0 &&& (7 : Int32)) - (2 : Int32)))])
    refine ogo (fun _ z_ => XS.goto X0.here hx rfl (pc0 := 12) (pc' := 16) rfl (hb hby at_12) (by decide) (by decide) z_) ?_
    show OWay p e below G s₁ (mkF m 16 #[.val (.int p0), .val (.int p1), .unset, .unset] [(.int ((p0 &&& (7 : Int32)) - (2 : Int32)))])
    exact J2 _ ((if_neg c3).trans rfl).symm
set_option maxRecDepth 65536 in
set_option maxHeartbeats 40000000 in
theorem comes_1 {Post : Tables → Env → Array Value → State → Outcome → State → Prop} (hpost : ∀ tb e args s v u, (limb_1_1.after args s (.returned v) u = true ∧ limb_1_2.after args s (.returned v) u = true ∧ True) → FrameEnd s (.returned v) u (Jvm.fieldLocs frame_1_writes args s ++ Jvm.arrayLocs frame_1_arrays args s ++ Jvm.staticLocs frame_1_statics s) 16 128 → Post tb e args s (.returned v) u) :
    ArmFor flags0 classFile x code maxLocals ret World_1 tables_1 room_1 Calls_1 rest_1 Pre_1 Post := by
  intro l hfl _ _ p e ha hc hk s m args below hf hA hF happ hP
  obtain ⟨hcalls, hrest, hpre⟩ := hP
  obtain ⟨-, -, -, hnamed, -, -, -, hat⟩ := (Spec.applies_iff hf).mp happ
  obtain ⟨hg, hn⟩ := and_e (Cond.before_iff.mp (show (Jvm.Cond.and given_1 narrow_1).before args s = true from hpre))
  obtain ⟨g1, g2⟩ := and_e hg
  obtain ⟨g3, g4⟩ := and_e g2
  obtain ⟨w0, w1, rfl⟩ : ∃ w0 w1 : Value, args = #[w0, w1] := by
    have hs : args.size = 2 := by simpa [Cond.value, given_1] using g1
    obtain ⟨L⟩ := args
    match L, hs with
    | [w0, w1], _ => exact ⟨w0, w1, rfl⟩
  have hw := fun d (hd : d ∈ tables_1) => atoms_spec (ws := Jvm.Cond.code x code maxLocals ret :: tables_1) hat d (List.mem_cons_of_mem _ hd)
  have hfit : Fit s := fun {y c} hc i hi => by
    obtain ⟨ha, rfl⟩ := Array.getElem?_eq_some_iff.mp hc
    have q := List.all_eq_true.mp ((Array.all_eq_true_iff_forall_mem.mp hF) _ (Array.getElem_mem ha)) i (List.mem_range.mpr hi)
    simpa [Array.getElem?_eq_getElem hi] using q
  obtain ⟨i0, ei0⟩ := is_v g3
  obtain rfl : w0 = (.int i0) := Option.some.inj ei0
  obtain ⟨i1, ei1⟩ := is_v g4
  obtain rfl : w1 = (.int i1) := Option.some.inj ei1
  obtain ⟨m1, hn⟩ := and_e hn
  obtain ⟨m2, hn⟩ := and_e hn
  obtain ⟨m3, hn⟩ := and_e hn
  obtain ⟨x1, hn⟩ := and_e hn
  obtain ⟨y1, hn⟩ := and_e hn
  obtain ⟨x2, hn⟩ := and_e hn
  obtain ⟨y2, hn⟩ := and_e hn
  obtain ⟨x3, hn⟩ := and_e hn
  obtain ⟨y3, hn⟩ := and_e hn
  obtain ⟨f1, hn⟩ := and_e hn
  obtain ⟨f2, f3⟩ := and_e hn
  obtain ⟨av, ea⟩ := arr_v m1
  obtain ⟨cl, hA⟩ := Arr.start ea m1
  have hE := Exa.start ea m2
  obtain ⟨e1, q1⟩ := exa_v x1
  have E1 := Exa.start q1 x1
  have F1 : Fld s s.heap e1 "com/example/marduk/marduk/model/MessageType" "code" "I" (.int (1 : Int32)) := own_fld f1 q1 (Term.int_eval _)
  obtain ⟨e2, q2⟩ := exa_v x2
  have E2 := Exa.start q2 x2
  have F2 : Fld s s.heap e2 "com/example/marduk/marduk/model/MessageType" "code" "I" (.int (2 : Int32)) := own_fld f2 q2 (Term.int_eval _)
  obtain ⟨e3, q3⟩ := exa_v x3
  have E3 := Exa.start q3 x3
  have F3 : Fld s s.heap e3 "com/example/marduk/marduk/model/MessageType" "code" "I" (.int (3 : Int32)) := own_fld f3 q3 (Term.int_eval _)
  have SV := Sta.start ea (Or.inr ⟨(hw _ (List.mem_of_getElem? (i := 2) rfl)), (hw _ (List.mem_of_getElem? (i := 8) rfl))⟩)
  have S1 := Sta.start q1 (Or.inr ⟨(hw _ (List.mem_of_getElem? (i := 2) rfl)), (hw _ (List.mem_of_getElem? (i := 16) rfl))⟩)
  have S2 := Sta.start q2 (Or.inr ⟨(hw _ (List.mem_of_getElem? (i := 2) rfl)), (hw _ (List.mem_of_getElem? (i := 17) rfl))⟩)
  have S3 := Sta.start q3 (Or.inr ⟨(hw _ (List.mem_of_getElem? (i := 2) rfl)), (hw _ (List.mem_of_getElem? (i := 18) rfl))⟩)
  have hF := FitC.start hfit hA
  obtain ⟨hS, hL⟩ := own_len m3 ea hA (Term.int_eval _) (by decide)
  have g1' := own_elem y1 ea hA (Term.int_eval _) q1
  have g2' := own_elem y2 ea hA (Term.int_eval _) q2
  have g3' := own_elem y3 ea hA (Term.int_eval _) q3
  obtain ⟨hH, hG⟩ := own_has3 (dv := .null) hfit hA hL hS (show HasL cl 0 [.ref e1, .ref e2, .ref e3] from ⟨g1', g2', g3', trivial⟩)
  obtain ⟨n, o, h1, h2, h3, _, L, rfl, ⟨rfl, N⟩, hq⟩ := law_c l s _ hw tables_1 i0 i1 av cl e1 e2 e3 s.heap s.heap.size (Nat.le_refl _) SV (Old.start s) S1 S2 S3 E1 E2 E3 F1 F2 F3 hA hE hF hS hH hG p e ha hc hk s m _ below hf ((Spec.applies_iff_loose hf).mp happ).1 ⟨rfl, State.Warmed39.refl s, rfl⟩ trivial
  refine ⟨n, _, h1, h2, h3, hpost _ _ _ _ _ _ ⟨Cond.after_iff.mpr rfl, Cond.after_iff.mpr (eq_i res_at (Term.int_eval (1)) rfl), trivial⟩ ⟨hq.1, hq.2.1, (hq.2.2.sift fun y hy => Or.inr (N y hy)).mono (by decide) (by decide)⟩⟩
theorem main_1_1 : Claimed_1_1 := comes_1 fun _ _ _ _ _ _ h hF => ⟨h.1, hF⟩
theorem main_1_2 : Claimed_1_2 := comes_1 fun _ _ _ _ _ _ h hF => ⟨h.2.1, hF⟩
end Jvm.Pilot.@@N@@
namespace Jvm.Pilot.@@N@@
open Jvm Jvm.ClassFile Sem Op Lib Jvm.Free Jvm.Stand Jvm.Pilot.@@N@@.Jvm.D
/-! MADE BY PROGRAM (witnessworld.py) out of the Statement's table words and the real class files: 13 classes; the members and pool entries that the words name. The judged class is class 1, her method 2. -/
namespace start1
open Jvm.ClassFile
def u (s : String) : CpInfo := .utf8 (stringToUtf16 s)
/-- a pool by its gaps: so many unusable entries, then the entry; so many at the end -/
def gap : Nat → List CpInfo → List CpInfo
  | 0, r => r
  | n + 1, r => .unusable :: gap n r
def poolList (es : List (Nat × CpInfo)) (last : Nat) : List CpInfo := es.foldr (fun e r => gap e.1 (e.2 :: r)) (gap last [])
def pool (es : List (Nat × CpInfo)) (last : Nat) : Array CpInfo := ⟨poolList es last⟩
def fileOf (pool : Array CpInfo) (this : Nat) (attrs : Array Attribute := #[]) (ms : Array MethodInfo := #[]) (fl : Nat := 33) (sup : Nat := 0) (ifs : Array Nat := #[]) (fds : Array FieldInfo := #[]) : ClassFile where
  minorVersion := 0
  majorVersion := 65
  constantPool := pool
  accessFlags := fl
  thisClass := this
  superClass := sup
  interfaces := ifs
  fields := fds
  methods := ms
  attributes := attrs
def plain (name : String) (sup : Option ClassId) : Class where
  name := name
  kind := .ordinary
  loader := none
  accessFlags := 33
  super := sup
  interfaces := #[]
  cf := none
  fields := #[]
  methods := #[]
  instanceTypes := #[]
  staticTypes := #[]
  resolved := #[]
  callSites := []
  init := .initialized
  statics := none
  mirror := none

def pool0 : Array CpInfo := pool [(5, u "<init>"), (0, u "()V"), (1, .class_ 10), (1, u "java/lang/Object"), (85, u "clone"), (0, u "()Ljava/lang/Object;")] 26

def k0m0 : Method := { name := "<init>", desc := "()V", sig := { parameters := [], returnType := none }, accessFlags := 1, code := none }
def k0m1 : Method := { name := "clone", desc := "()Ljava/lang/Object;", sig := { parameters := [], returnType := some (.object "java/lang/Object") }, accessFlags := 260, code := none }
/-- java/lang/Object -/
def k0 : Class := { plain "java/lang/Object" none with
  accessFlags := 33
  interfaces := #[]
  cf := some (fileOf pool0 8 #[] #[{ accessFlags := 1, nameIndex := 5, descriptorIndex := 6, attributes := #[] }, { accessFlags := 260, nameIndex := 96, descriptorIndex := 97, attributes := #[] }] 33 0 #[] #[])
  fields := #[]
  methods := #[k0m0, k0m1]
  instanceTypes := #[]
  staticTypes := #[]
  resolved := Array.replicate 124 none
  statics := none }

def pool1 : Array CpInfo := pool [(2, .class_ 4), (1, u "java/lang/Object"), (0, u "<init>"), (0, u "()V"), (0, .fieldref 8 9), (0, .class_ 10), (0, .nameAndType 11 12), (0, u "com/example/marduk/marduk/model/MessageType"), (0, u "HEARTBEAT"), (0, u "Lcom/example/marduk/marduk/model/MessageType;"), (0, .fieldref 8 14), (0, .nameAndType 15 12), (0, u "UPDATE"), (0, .fieldref 8 17), (0, .nameAndType 18 12), (0, u "LEAVE"), (0, .methodref 8 20), (0, .nameAndType 21 22), (0, u "ofCode"), (0, u "(I)Lcom/example/marduk/marduk/model/MessageType;"), (0, .methodref 24 25), (0, .class_ 26), (0, .nameAndType 27 22), (0, u "com/example/marduk/marduk/model/MessageTypeOfCodePinLaw"), (0, u "expected"), (0, .methodref 8 29), (0, .nameAndType 30 31), (0, u "code"), (0, u "()I"), (3, u "law"), (0, u "(II)Z")] 2

def k1m0 : Method := { name := "<init>", desc := "()V", sig := { parameters := [], returnType := none }, accessFlags := 2, code := none }
def k1c1 : Code := { maxStack := 2, maxLocals := 1, code := method_2_code, exceptionTable := #[], attributes := #[] }
def k1m1 : Method := { name := "expected", desc := "(I)Lcom/example/marduk/marduk/model/MessageType;", sig := { parameters := [.int], returnType := some (.object "com/example/marduk/marduk/model/MessageType") }, accessFlags := 10, code := some k1c1 }
def k1c2 : Code := { maxStack := 2, maxLocals := 4, code := code, exceptionTable := #[], attributes := #[] }
def k1m2 : Method := { name := "law", desc := "(II)Z", sig := { parameters := [.int, .int], returnType := some .boolean }, accessFlags := 9, code := some k1c2 }
/-- com/example/marduk/marduk/model/MessageTypeOfCodePinLaw -/
def k1 : Class := { plain "com/example/marduk/marduk/model/MessageTypeOfCodePinLaw" (some 0) with
  accessFlags := 49
  interfaces := #[]
  cf := some (fileOf pool1 24 #[] #[{ accessFlags := 2, nameIndex := 5, descriptorIndex := 6, attributes := #[] }, { accessFlags := 10, nameIndex := 27, descriptorIndex := 22, attributes := #[] }, { accessFlags := 9, nameIndex := 35, descriptorIndex := 36, attributes := #[] }] 49 2 #[] #[])
  fields := #[]
  methods := #[k1m0, k1m1, k1m2]
  instanceTypes := #[]
  staticTypes := #[]
  resolved := Array.replicate 39 none
  statics := none }

def pool2 : Array CpInfo := pool [(1, .class_ 2), (0, u "java/lang/constant/Constable"), (0, .class_ 4), (0, u "java/lang/Object")] 6

/-- java/lang/constant/Constable -/
def k2 : Class := { plain "java/lang/constant/Constable" (some 0) with
  accessFlags := 1537
  interfaces := #[]
  cf := some (fileOf pool2 1 #[] #[] 1537 3 #[] #[])
  fields := #[]
  methods := #[]
  instanceTypes := #[]
  staticTypes := #[]
  resolved := Array.replicate 11 none
  statics := none }

def pool3 : Array CpInfo := pool [(1, .class_ 2), (0, u "java/lang/Comparable"), (0, .class_ 4), (0, u "java/lang/Object")] 7

/-- java/lang/Comparable -/
def k3 : Class := { plain "java/lang/Comparable" (some 0) with
  accessFlags := 1537
  interfaces := #[]
  cf := some (fileOf pool3 1 #[] #[] 1537 3 #[] #[])
  fields := #[]
  methods := #[]
  instanceTypes := #[]
  staticTypes := #[]
  resolved := Array.replicate 12 none
  statics := none }

def pool4 : Array CpInfo := pool [(1, .class_ 2), (0, u "java/io/Serializable"), (0, .class_ 4), (0, u "java/lang/Object")] 2

/-- java/io/Serializable -/
def k4 : Class := { plain "java/io/Serializable" (some 0) with
  accessFlags := 1537
  interfaces := #[]
  cf := some (fileOf pool4 1 #[] #[] 1537 3 #[] #[])
  fields := #[]
  methods := #[]
  instanceTypes := #[]
  staticTypes := #[]
  resolved := Array.replicate 7 none
  statics := none }

def pool5 : Array CpInfo := pool [(2, .class_ 4), (1, u "java/lang/Enum"), (0, u "name"), (0, u "Ljava/lang/String;"), (2, u "ordinal"), (0, u "I"), (1, .class_ 14), (1, u "java/lang/Object"), (4, u "hash"), (86, .class_ 108), (1, u "java/lang/Enum$EnumDesc"), (2, .class_ 112), (0, u "java/lang/constant/Constable"), (0, .class_ 114), (0, u "java/lang/Comparable"), (0, .class_ 116), (0, u "java/io/Serializable")] 87

/-- java/lang/Enum -/
def k5 : Class := { plain "java/lang/Enum" (some 0) with
  accessFlags := 1057
  interfaces := #[2, 3, 4]
  cf := some (fileOf pool5 2 #[.nestMembers #[106]] #[] 1057 12 #[111, 113, 115] #[{ accessFlags := 18, nameIndex := 5, descriptorIndex := 6, attributes := #[] }, { accessFlags := 18, nameIndex := 9, descriptorIndex := 10, attributes := #[] }, { accessFlags := 2, nameIndex := 19, descriptorIndex := 10, attributes := #[] }])
  fields := #[{ name := "name", type := (.object "java/lang/String"), accessFlags := 18, slot := 0, constantValue := 0 }, { name := "ordinal", type := .int, accessFlags := 18, slot := 1, constantValue := 0 }, { name := "hash", type := .int, accessFlags := 2, slot := 2, constantValue := 0 }]
  methods := #[]
  instanceTypes := #[(.object "java/lang/String"), .int, .int]
  staticTypes := #[]
  resolved := Array.replicate 204 none
  statics := none }

def pool6 : Array CpInfo := pool [(1, .class_ 2), (0, u "com/example/marduk/marduk/model/MessageType"), (2, u "HEARTBEAT"), (0, u "Lcom/example/marduk/marduk/model/MessageType;"), (2, u "UPDATE"), (2, u "LEAVE"), (0, .fieldref 1 14), (0, .nameAndType 15 16), (0, u "$VALUES"), (0, u "[Lcom/example/marduk/marduk/model/MessageType;"), (0, .methodref 18 19), (0, .class_ 16), (0, .nameAndType 20 21), (0, u "clone"), (0, u "()Ljava/lang/Object;"), (1, .class_ 25), (1, u "java/lang/Enum"), (6, .fieldref 1 33), (0, .nameAndType 34 35), (0, u "code"), (0, u "I"), (2, u "firstVersion"), (0, .methodref 1 40), (0, .nameAndType 41 42), (0, u "values"), (0, u "()[Lcom/example/marduk/marduk/model/MessageType;"), (15, u "()I"), (0, u "ofCode"), (0, u "(I)Lcom/example/marduk/marduk/model/MessageType;")] 6

def k6c0 : Code := { maxStack := 1, maxLocals := 0, code := prog_20_method_1_code, exceptionTable := #[], attributes := #[] }
def k6m0 : Method := { name := "values", desc := "()[Lcom/example/marduk/marduk/model/MessageType;", sig := { parameters := [], returnType := some (.array (.object "com/example/marduk/marduk/model/MessageType")) }, accessFlags := 9, code := some k6c0 }
def k6c1 : Code := { maxStack := 1, maxLocals := 1, code := prog_20_method_4_code, exceptionTable := #[], attributes := #[] }
def k6m1 : Method := { name := "code", desc := "()I", sig := { parameters := [], returnType := some .int }, accessFlags := 1, code := some k6c1 }
def k6c2 : Code := { maxStack := 2, maxLocals := 5, code := prog_20_method_6_code, exceptionTable := #[], attributes := #[] }
def k6m2 : Method := { name := "ofCode", desc := "(I)Lcom/example/marduk/marduk/model/MessageType;", sig := { parameters := [.int], returnType := some (.object "com/example/marduk/marduk/model/MessageType") }, accessFlags := 9, code := some k6c2 }
/-- com/example/marduk/marduk/model/MessageType -/
def k6 : Class := { plain "com/example/marduk/marduk/model/MessageType" (some 5) with
  accessFlags := 16433
  interfaces := #[]
  cf := some (fileOf pool6 1 #[] #[{ accessFlags := 9, nameIndex := 41, descriptorIndex := 42, attributes := #[] }, { accessFlags := 1, nameIndex := 34, descriptorIndex := 58, attributes := #[] }, { accessFlags := 9, nameIndex := 59, descriptorIndex := 60, attributes := #[] }] 16433 23 #[] #[{ accessFlags := 16409, nameIndex := 5, descriptorIndex := 6, attributes := #[] }, { accessFlags := 16409, nameIndex := 9, descriptorIndex := 6, attributes := #[] }, { accessFlags := 16409, nameIndex := 12, descriptorIndex := 6, attributes := #[] }, { accessFlags := 18, nameIndex := 34, descriptorIndex := 35, attributes := #[] }, { accessFlags := 18, nameIndex := 38, descriptorIndex := 35, attributes := #[] }, { accessFlags := 4122, nameIndex := 15, descriptorIndex := 16, attributes := #[] }])
  fields := #[{ name := "HEARTBEAT", type := (.object "com/example/marduk/marduk/model/MessageType"), accessFlags := 16409, slot := 0, constantValue := 0 }, { name := "UPDATE", type := (.object "com/example/marduk/marduk/model/MessageType"), accessFlags := 16409, slot := 1, constantValue := 0 }, { name := "LEAVE", type := (.object "com/example/marduk/marduk/model/MessageType"), accessFlags := 16409, slot := 2, constantValue := 0 }, { name := "code", type := .int, accessFlags := 18, slot := 3, constantValue := 0 }, { name := "firstVersion", type := .int, accessFlags := 18, slot := 4, constantValue := 0 }, { name := "$VALUES", type := (.array (.object "com/example/marduk/marduk/model/MessageType")), accessFlags := 4122, slot := 3, constantValue := 0 }]
  methods := #[k6m0, k6m1, k6m2]
  instanceTypes := #[(.object "java/lang/String"), .int, .int, .int, .int]
  staticTypes := #[(.object "com/example/marduk/marduk/model/MessageType"), (.object "com/example/marduk/marduk/model/MessageType"), (.object "com/example/marduk/marduk/model/MessageType"), (.array (.object "com/example/marduk/marduk/model/MessageType"))]
  resolved := Array.replicate 67 none
  statics := some 0 }

def pool7 : Array CpInfo := pool [(1, .class_ 2), (0, u "java/lang/Cloneable"), (0, .class_ 4), (0, u "java/lang/Object")] 2

/-- java/lang/Cloneable -/
def k7 : Class := { plain "java/lang/Cloneable" (some 0) with
  accessFlags := 1537
  interfaces := #[]
  cf := some (fileOf pool7 1 #[] #[] 1537 3 #[] #[])
  fields := #[]
  methods := #[]
  instanceTypes := #[]
  staticTypes := #[]
  resolved := Array.replicate 7 none
  statics := none }

/-- the primitive byte -/
def k8 : Class := { plain "byte" none with kind := .primitive 'B', accessFlags := 0x411 }
/-- [B -/
def k9 : Class := { plain "[B" (some 0) with kind := .array 8 .byte, interfaces := #[7, 4], accessFlags := 1041 }

/-- the primitive int -/
def k10 : Class := { plain "int" none with kind := .primitive 'I', accessFlags := 0x411 }
/-- [I -/
def k11 : Class := { plain "[I" (some 0) with kind := .array 10 .int, interfaces := #[7, 4], accessFlags := 1041 }

/-- [Lcom/example/marduk/marduk/model/MessageType; -/
def k12 : Class := { plain "[Lcom/example/marduk/marduk/model/MessageType;" (some 0) with kind := .array 6 (.object "com/example/marduk/marduk/model/MessageType"), interfaces := #[7, 4], accessFlags := 1041 }

def heap : Heap := #[{ cls := 6, slots := #[.ref 2, .ref 3, .ref 4, .ref 1], vm := .statics 6 },
  { cls := 12, slots := #[.ref 2, .ref 3, .ref 4], vm := .none },
  { cls := 6, slots := #[.null, .int 0, .int 0, .int 1, .int 0], vm := .none },
  { cls := 6, slots := #[.null, .int 1, .int 0, .int 2, .int 0], vm := .none },
  { cls := 6, slots := #[.null, .int 2, .int 0, .int 3, .int 0], vm := .none }]
def classes : Array Class := #[k0, k1, k2, k3, k4, k5, k6, k7, k8, k9, k10, k11, k12]
def interned : List (Array UInt16 × Addr) := []
def slotsUsed : Nat := 22
def theMethod : MethodId := ⟨1, 2⟩
def args0 : Array Value := #[.int 1, .int 0]
def aboutOver (below : List Frame) : State where
  vm := { classes := classes, interned := interned.toArray }
  heap := heap
  slotsUsed := slotsUsed
  threads := #[{ frames := .invoking theMethod args0 :: below }]
def below0 : List Frame := [.native { method := ⟨0, 0⟩, args := #[] }]
def about1 : State := aboutOver below0
def p0 : Program := .bare "" "" ""
def e0 : Env := launch0.env 0 0 0
theorem w_frames : about1.frames = Frame.invoking theMethod args0 :: below0 := rfl
set_option maxRecDepth 65536 in
theorem w_args : argsFit about1.vm theMethod args0 = true := by decide +kernel
set_option maxRecDepth 65536 in
theorem w_heap : heapFits about1 = true := by decide +kernel
set_option maxRecDepth 65536 in
theorem w_runnable : about1.curStatus? = some .runnable := by decide +kernel
set_option maxRecDepth 65536 in
theorem w_alone : about1.alone = true := by decide +kernel
set_option maxRecDepth 65536 in
theorem w_named : about1.methodNamed? x = some theMethod := by decide +kernel
set_option maxRecDepth 65536 in
theorem w_hears : about1.hears theMethod below0 = true := by decide +kernel
set_option maxRecDepth 65536 in
theorem w_ripe : about1.ripe theMethod args0 below0 = true := by decide +kernel
theorem w_running : about1.status = .running := rfl
set_option maxRecDepth 65536 in
theorem w_room : about1.hasRoom e0.platform room_1 = true :=
  launch0.hasRoom_least _ room_1 (by decide +kernel) (by decide +kernel) (by decide +kernel) (by decide +kernel) (by decide +kernel) (by decide +kernel)
theorem allAtoms_all (ts : List Jvm.Cond) (a : Array Jvm.Value) (st : Jvm.State) : (allAtoms ts).before a st = ts.all (fun c => c.before a st) := by
  induction ts with
  | nil => rfl
  | cons c t ih =>
    show (Jvm.Cond.and c (allAtoms t)).before a st = _
    rw [Jvm.Cond.before_and, ih, List.all_cons]
def words1 : List Jvm.Cond := Jvm.Cond.code x code maxLocals ret :: tables_1
/-- a 'code' word, met by the world's own term for the bytes: nothing is compared byte by byte -/
theorem code_word {y : MethodName} {bytes : ByteArray} {mx : Nat} {rt : Option FieldType} {a : Array Value} {s : State} {m : MethodId} {meth : Method} {c : Code} (h1 : s.methodNamed? y = some m) (h2 : s.vm.method? m = some meth) (h3 : meth.code = some c) (h4 : c.code = bytes)
    (h5 : (c.maxLocals == mx && c.exceptionTable.isEmpty && decide (c.maxStack ≤ mostOperands) && decide (meth.sig.returnType = rt) && !meth.locks && decide (parseMethodDescriptor y.desc = some meth.sig)) = true) : (Jvm.Cond.code y bytes mx rt).before a s = true := by
  simp only [Bool.and_eq_true, beq_iff_eq, Bool.not_eq_true', decide_eq_true_eq] at h5
  obtain ⟨⟨⟨⟨⟨g1, g2⟩, g3⟩, g4⟩, g5⟩, g6⟩ := h5
  simp [Cond.before, Cond.holds, Cond.value, h1, h2, h3, h4, g1, g2, g3, g4, g5, g6]
def isCode : Jvm.Cond → Bool
  | .code _ _ _ _ => true
  | _ => false
theorem all_split {L : List Jvm.Cond} {P : Jvm.Cond → Bool} (h1 : L.all (fun c => isCode c || P c) = true) (h2 : ∀ c ∈ L.filter isCode, P c = true) : L.all P = true := by
  refine List.all_eq_true.mpr fun c hc => ?_
  have h := List.all_eq_true.mp h1 c hc
  rcases Bool.eq_false_or_eq_true (isCode c) with hi | hi
  · exact h2 c (List.mem_filter.mpr ⟨hc, hi⟩)
  · simpa [hi] using h
set_option maxRecDepth 65536 in
theorem w_c0 : (Jvm.Cond.code x code maxLocals ret).before args0 about1 = true := code_word (m := ⟨1, 2⟩) (meth := k1m2) (c := k1c2) (by decide +kernel) rfl rfl rfl (by decide +kernel)
set_option maxRecDepth 65536 in
theorem w_c1 : (Jvm.Cond.code ({ cls := "com/example/marduk/marduk/model/MessageType", name := "ofCode", desc := "(I)Lcom/example/marduk/marduk/model/MessageType;" } : Jvm.MethodName) prog_20_method_6_code (5 : Nat) (Option.some (Jvm.ClassFile.FieldType.object "com/example/marduk/marduk/model/MessageType"))).before args0 about1 = true := code_word (m := ⟨6, 2⟩) (meth := k6m2) (c := k6c2) (by decide +kernel) rfl rfl rfl (by decide +kernel)
set_option maxRecDepth 65536 in
theorem w_c2 : (Jvm.Cond.code ({ cls := "com/example/marduk/marduk/model/MessageType", name := "values", desc := "()[Lcom/example/marduk/marduk/model/MessageType;" } : Jvm.MethodName) prog_20_method_1_code (0 : Nat) (Option.some (Jvm.ClassFile.FieldType.array (Jvm.ClassFile.FieldType.object "com/example/marduk/marduk/model/MessageType")))).before args0 about1 = true := code_word (m := ⟨6, 0⟩) (meth := k6m0) (c := k6c0) (by decide +kernel) rfl rfl rfl (by decide +kernel)
set_option maxRecDepth 65536 in
theorem w_c3 : (Jvm.Cond.code ({ cls := "com/example/marduk/marduk/model/MessageTypeOfCodePinLaw", name := "expected", desc := "(I)Lcom/example/marduk/marduk/model/MessageType;" } : Jvm.MethodName) method_2_code (1 : Nat) (Option.some (Jvm.ClassFile.FieldType.object "com/example/marduk/marduk/model/MessageType"))).before args0 about1 = true := code_word (m := ⟨1, 1⟩) (meth := k1m1) (c := k1c1) (by decide +kernel) rfl rfl rfl (by decide +kernel)
set_option maxRecDepth 65536 in
theorem w_c4 : (Jvm.Cond.code ({ cls := "com/example/marduk/marduk/model/MessageType", name := "code", desc := "()I" } : Jvm.MethodName) prog_20_method_4_code (1 : Nat) (Option.some Jvm.ClassFile.FieldType.int)).before args0 about1 = true := code_word (m := ⟨6, 1⟩) (meth := k6m1) (c := k6c1) (by decide +kernel) rfl rfl rfl (by decide +kernel)
def codes1 : List Jvm.Cond := [Jvm.Cond.code x code maxLocals ret, Jvm.Cond.code ({ cls := "com/example/marduk/marduk/model/MessageType", name := "ofCode", desc := "(I)Lcom/example/marduk/marduk/model/MessageType;" } : Jvm.MethodName) prog_20_method_6_code (5 : Nat) (Option.some (Jvm.ClassFile.FieldType.object "com/example/marduk/marduk/model/MessageType")), Jvm.Cond.code ({ cls := "com/example/marduk/marduk/model/MessageType", name := "values", desc := "()[Lcom/example/marduk/marduk/model/MessageType;" } : Jvm.MethodName) prog_20_method_1_code (0 : Nat) (Option.some (Jvm.ClassFile.FieldType.array (Jvm.ClassFile.FieldType.object "com/example/marduk/marduk/model/MessageType"))), Jvm.Cond.code ({ cls := "com/example/marduk/marduk/model/MessageTypeOfCodePinLaw", name := "expected", desc := "(I)Lcom/example/marduk/marduk/model/MessageType;" } : Jvm.MethodName) method_2_code (1 : Nat) (Option.some (Jvm.ClassFile.FieldType.object "com/example/marduk/marduk/model/MessageType")), Jvm.Cond.code ({ cls := "com/example/marduk/marduk/model/MessageType", name := "code", desc := "()I" } : Jvm.MethodName) prog_20_method_4_code (1 : Nat) (Option.some Jvm.ClassFile.FieldType.int)]
set_option maxRecDepth 65536 in
theorem codes_eq : words1.filter isCode = codes1 := rfl
theorem w_codes : ∀ c ∈ words1.filter isCode, c.before args0 about1 = true := by
  rw [codes_eq]
  intro c hc
  simp only [codes1, List.mem_cons, List.not_mem_nil, or_false] at hc
  rcases hc with rfl | rfl | rfl | rfl | rfl
  · exact w_c0
  · exact w_c1
  · exact w_c2
  · exact w_c3
  · exact w_c4
set_option maxRecDepth 65536 in
theorem w_t1 : (words1.take 24).all (fun c => isCode c || c.before args0 about1) = true := by decide +kernel
set_option maxRecDepth 65536 in
theorem w_t2 : (words1.drop 24).all (fun c => isCode c || c.before args0 about1) = true := by decide +kernel
theorem w_tables : (allAtoms (Jvm.Cond.code x code maxLocals ret :: tables_1)).before args0 about1 = true := by
  rw [allAtoms_all]
  show words1.all (fun c => c.before args0 about1) = true
  refine all_split ?_ w_codes
  rw [← List.take_append_drop 24 words1, List.all_append, w_t1, w_t2]
  rfl
set_option maxRecDepth 65536 in
theorem w_case : (Jvm.Cond.and given_1 narrow_1).before args0 about1 = true := by decide +kernel
theorem w_applies : (headSpec (Jvm.Cond.code x code maxLocals ret :: tables_1) room_1).applies x e0.platform about1 = true :=
  (Spec.applies_iff w_frames).mpr ⟨w_running, w_runnable, w_alone, w_named, w_hears, w_ripe, w_room, w_tables⟩
theorem atStart : AtStart classFile x code maxLocals ret World_1 tables_1 room_1 Calls_1 rest_1 Pre_1 launch0 p0 e0 about1 theMethod args0 below0 :=
  ⟨lists_1, trivial, launch0.admits_env _ _ _, launch0.least_env, fairChoices_fair.cas, fairChoices_fair.clock, w_frames, w_args, w_heap, w_applies, trivial, trivial, w_case⟩
end start1
theorem witness_1 : WitnessClaimed_1 := ⟨start1.p0, start1.e0, start1.about1, start1.theMethod, start1.args0, start1.below0, start1.atStart⟩
end Jvm.Pilot.@@N@@
