import JvmDerived
import JvmDerived.Pilot.@@N@@Statement
import JvmDerived.Pilot.@@N@@Code
set_option linter.unusedVariables false
set_option linter.unusedSimpArgs false
namespace Jvm.Pilot.@@N@@
open Jvm Jvm.ClassFile Sem Op Lib Jvm.Free Jvm.Stand Jvm.LawKit Jvm.RoadKit Bundle Jvm.Pilot.@@N@@.Jvm.D
/-- from here the run comes to a state of which G holds -/
def OWay (p : Program) (e : Env) (below : List Frame) (G : State → Prop) (T : State) (g : JFrame) : Prop := ∃ t, Steps p.tables e below (T.setTop g) t ∧ G t
/-- how a body ends: it returned, with what Q says of its value, the heap and the places written -/
def OEnd (s : State) (below : List Frame) (Q : Option Value → Heap → List Loc → Prop) (cs sl : Nat) (t : State) : Prop := ∃ o, t.status = .running ∧ Ended t below o ∧ ∃ v L, o = .returned v ∧ Q v t.heap L ∧ FrameEnd s o t L cs sl
/-- a body's contract, as a call wants it -/
def OCon (l : Launch) (y : MethodName) (bytes : ByteArray) (maxL : Nat) (rt : Option FieldType) (ws : List Jvm.Cond) (rm : Room) (Z : State) (as' : Array Value) (h : Heap) (Q : Option Value → Heap → List Loc → Prop) : Prop :=
  MetFree l y (head1 (Jvm.Cond.code y bytes maxL rt :: ws) rm) (fun a U => a = as' ∧ Z.Warmed39 U.vm ∧ U.heap = h) (fun _ _ _ _ _ => True) (fun _ U o U' => ∃ v L, o = .returned v ∧ Q v U'.heap L ∧ FrameEnd U o U' L rm.cells rm.slots)
section Own
variable {p : Program} {l : Launch} {e : Env} {R : Room} {s : State} {m : MethodId} {args : Array Value} {below : List Frame} {meth : Method} {c : Code} {T T' : State} {locs : List Loc} {cells slots : Nat} {Z : State} {a0 : Array Value} {h : Heap} {G : State → Prop} {g g' : JFrame} {Q : Option Value → Heap → List Loc → Prop} {cs sl : Nat}
theorem ogo (q : ∀ t, Steps p.tables e below (T'.setTop g') t → Steps p.tables e below (T.setTop g) t) (w : OWay p e below G T' g') : OWay p e below G T g := by
  obtain ⟨t, h1, h2⟩ := w
  exact ⟨t, q t h1, h2⟩
theorem ogoS (q : Steps p.tables e below (T.setTop g) (T'.setTop g')) (w : OWay p e below G T' g') : OWay p e below G T g := ogo (fun _ k => q.trans k) w
theorem ogoE (q : g = g') (w : OWay p e below G T g') : OWay p e below G T g := q ▸ w
theorem ocon {y : MethodName} {bytes : ByteArray} {maxL : Nat} {rt : Option FieldType} {ws : List Jvm.Cond} {rm : Room} {as' : Array Value} (hp : plainFor y = true)
    (body : ∀ (p : Program) (e : Env) (s : State) (m : MethodId) (below : List Frame) (meth : Method) (c : Code) (s₁ : State), p.tables.exec = Jvm.exec → c.code = bytes → c.maxLocals = maxL → s.vm.findClass y.cls = some m.cls → meth.name = y.name → meth.sig.returnType = rt → meth.locks = false → Z.Warmed39 s.vm →
      Stand p l e rm s m as' below meth c s₁ [] 0 0 → s₁.heap = h → OWay p e below (OEnd s below Q rm.cells rm.slots) s₁ (entryFrame m as' maxL)) : OCon l y bytes maxL rt ws rm Z as' h Q := by
  refine MetFree.of_bodySF hp hisR ?_
  intro p e s m args below meth c s₁ Bd hml0 hP hK
  obtain ⟨rfl, hZ, hh⟩ := hP
  obtain ⟨t, h1, o, h2, h3, h4⟩ := body p e s m below meth c s₁ Bd.exec Bd.bytes hml0 (findClass_of_methodNamed Bd.named) (name_of_methodNamed Bd.named Bd.method).1 Bd.returns Bd.notSynchronized hZ (Stand.of_body Bd) (by rw [← hh, Bd.state]; rfl)
  exact ⟨t, o, h1, h2, h3, h4⟩
theorem wRetN (X : Stand p l e R s m args below meth c T locs cells slots) (hx : p.tables.exec = Jvm.exec) {pc : Nat} {Ls : Array Slot} {z : Int32} {t : FieldType} {rest : List Value} (hret : meth.sig.returnType = some t) (hlk : meth.locks = false) (ht : t = .boolean ∨ t = .byte ∨ t = .char ∨ t = .short)
    (hd : decode c.code pc = .ok (.ireturn, 1)) (hc : cells ≤ cs) (hs : slots ≤ sl) (eT : T.heap = h) (hq : Q (some (.int (nar t z))) h locs) : OWay p e below (OEnd s below Q cs sl) T (mkF m pc Ls (.int z :: rest)) := by
  obtain ⟨fs, hr, hrun, hended, hW, hsame⟩ := X.leave (v := some (.int (nar t z))) (fun q => by rw [hret] at q; cases q) hlk
  exact ⟨_, retN X hx hret ht hd hr, _, hrun, hended, _, _, rfl, by subst eT; exact hq, ⟨_, rfl⟩, hW, hsame.mono hc hs⟩
theorem wRet (X : Stand p l e R s m args below meth c T locs cells slots) (hx : p.tables.exec = Jvm.exec) {pc : Nat} {Ls : Array Slot} {w : Value} {t : FieldType} {i : Instr} {rest : List Value} (hret : meth.sig.returnType = some t) (hlk : meth.locks = false) (hn : narrow t w = w)
    (hi : (i = .ireturn ∧ (t = .int ∨ t = .boolean ∨ t = .byte ∨ t = .char ∨ t = .short) ∧ ∃ z, w = .int z) ∨ (i = .lreturn ∧ t = .long ∧ ∃ z, w = .long z) ∨ (i = .dreturn ∧ t = .double ∧ ∃ z, w = .double z) ∨ (i = .freturn ∧ t = .float ∧ ∃ z, w = .float z) ∨ (i = .areturn ∧ t.isReference = true ∧ w.isRef = true))
    (hd : decode c.code pc = .ok (i, 1)) (hc : cells ≤ cs) (hs : slots ≤ sl) (eT : T.heap = h) (hq : Q (some w) h locs) : OWay p e below (OEnd s below Q cs sl) T (mkF m pc Ls (w :: rest)) := by
  obtain ⟨fs, hr, hrun, hended, hW, hsame⟩ := X.leave (v := some w) (fun q => by rw [hret] at q; cases q) hlk
  exact ⟨_, retOut X hx hret hn hi hd hr, _, hrun, hended, _, _, rfl, by subst eT; exact hq, ⟨_, rfl⟩, hW, hsame.mono hc hs⟩
theorem wRetV (X : Stand p l e R s m args below meth c T locs cells slots) (hx : p.tables.exec = Jvm.exec) {pc : Nat} {Ls : Array Slot} (hret : meth.sig.returnType = none) (hlk : meth.locks = false)
    (hd : decode c.code pc = .ok (.return_, 1)) (hc : cells ≤ cs) (hs : slots ≤ sl) (eT : T.heap = h) (hq : Q none h locs) : OWay p e below (OEnd s below Q cs sl) T (mkF m pc Ls []) := by
  obtain ⟨fs, hr, hrun, hended, hW, hsame⟩ := X.leave (v := none) (fun _ => rfl) hlk
  exact ⟨_, X.returnOut hx hret hd hr, _, hrun, hended, _, _, rfl, by subst eT; exact hq, ⟨_, rfl⟩, hW, hsame.mono hc hs⟩
theorem wStatic (X : Stand p l e R s m args below meth c T locs cells slots) (hx : p.tables.exec = Jvm.exec) (hZ : Z.Warmed39 s.vm) {own : String} {index : Nat} {y : MethodName} {bytes : ByteArray} {maxL : Nat} {rt : Option FieldType} {rm : Room} {as' : Array Value} (hown : s.vm.findClass own = some m.cls)
    (w1 : (Jvm.Cond.methodLink own index y).before a0 Z = true) (w2 : (Jvm.Cond.static y).before a0 Z = true) (w3 : (Jvm.Cond.initialized y.cls).before a0 Z = true) (w4 : (Jvm.Cond.code y bytes maxL rt).before a0 Z = true) (hy : y.cls ≠ "java/lang/invoke/MethodHandle" ∧ y.cls ≠ "java/lang/invoke/VarHandle")
    (hM : OCon l y bytes maxL rt [] rm Z as' h Q) (W : Nat) (hf : rm.frames + 1 ≤ R.frames) (hl : W + (maxL + 11) + rm.locals ≤ R.locals) {g : JFrame} (hg : g.method = m) (hsize : g.locals.size = c.maxLocals) {argsL rest : List Value} (hlen : ∀ sig, parseMethodDescriptor y.desc = some sig → argsL.length = sig.parameters.length)
    (hstack : g.stack = argsL.reverse ++ rest) (hW : 2 * g.monitorRoom + (rest.map fun v => v.category).sum ≤ W) (hd : decode c.code g.pc = .ok (.invokestatic index, 3)) (has : argsL.toArray = as') (eT : T.heap = h) (hc : cells + rm.cells ≤ R.cells) (hs : slots + rm.slots ≤ R.slots) :
    ∃ (v : Option Value) (T' : State) (L : List Loc), Stand p l e R s m args below meth c T' (locs ++ L) (cells + rm.cells) (slots + rm.slots) ∧ Q v T'.heap L ∧ ∀ target, Steps p.tables e below (T'.setTop { g with pc := g.pc + 3, stack := v.toList ++ rest }) target → Steps p.tables e below (T.setTop g) target := by
  obtain ⟨v, _, ⟨T1, L1, k1, n1⟩, -, X1, ⟨Lc, hQ, l1, y1, z1⟩, st⟩ := Jvm.LawKit.callS X hx (y := y) hown (mvT hZ w1) (mvT hZ w2) (mvT hZ w3) (mvT hZ w4) hy (backOf (W := W) hM hZ w4 w3 hf hl) (g := g) hg hsize (argsL := argsL) (rest := rest) hlen hstack hW hd (fun _ _ => ⟨has, eT, hc, hs⟩)
  dsimp only [Pt.U, Pt.locs, Pt.cells, Pt.slots] at X1 l1 y1 z1 st hQ
  subst l1 y1 z1
  exact ⟨v, T1, Lc, X1, hQ, st⟩
theorem wInit (X : Stand p l e R s m args below meth c T locs cells slots) (hx : p.tables.exec = Jvm.exec) (hZ : Z.Warmed39 s.vm) {own : String} {index : Nat} {y : MethodName} {bytes : ByteArray} {maxL : Nat} {rm : Room} {as' : Array Value} (hy1 : y.name = "<init>") (hown : s.vm.findClass own = some m.cls)
    (w1 : (Jvm.Cond.methodLink own index y).before a0 Z = true) (w2 : (Jvm.Cond.instanceMethod y).before a0 Z = true) (w3 : (Jvm.Cond.initialized y.cls).before a0 Z = true) (w4 : (Jvm.Cond.code y bytes maxL none).before a0 Z = true) (hy : y.cls ≠ "java/lang/invoke/MethodHandle" ∧ y.cls ≠ "java/lang/invoke/VarHandle")
    (hM : OCon l y bytes maxL none [] rm Z as' h Q) (W : Nat) (hf : rm.frames + 1 ≤ R.frames) (hl : W + (maxL + 11) + rm.locals ≤ R.locals) {g : JFrame} (hg : g.method = m) (hsize : g.locals.size = c.maxLocals) {a : Addr} {argsL rest : List Value} (hlen : ∀ sig, parseMethodDescriptor y.desc = some sig → argsL.length = sig.parameters.length)
    (hstack : g.stack = argsL.reverse ++ .ref a :: rest) (hW : 2 * g.monitorRoom + (rest.map fun v => v.category).sum ≤ W) (hd : decode c.code g.pc = .ok (.invokespecial index, 3)) (has : (.ref a :: argsL).toArray = as') (eT : T.heap = h) (hc : cells + rm.cells ≤ R.cells) (hs : slots + rm.slots ≤ R.slots) :
    ∃ (v : Option Value) (T' : State) (L : List Loc), Stand p l e R s m args below meth c T' (locs ++ L) (cells + rm.cells) (slots + rm.slots) ∧ Q v T'.heap L ∧ Steps p.tables e below (T.setTop g) (T'.setTop { g with pc := g.pc + 3, stack := v.toList ++ rest }) := by
  obtain ⟨v, _, ⟨T1, L1, k1, n1⟩, -, X1, ⟨Lc, hQ, l1, y1, z1⟩, st⟩ := X.specialBack hx (y := y) hy1 hown (mvT hZ w1) (mvT hZ w2) (mvT hZ w4) hy (backOf (W := W) hM hZ w4 w3 hf hl) (g := g) hg hsize (Steps.refl _) (a := a) (argsL := argsL) (rest := rest) hlen hstack hW hd (fun _ _ => ⟨has, eT, hc, hs⟩)
  dsimp only [Pt.U, Pt.locs, Pt.cells, Pt.slots] at X1 l1 y1 z1 st hQ
  subst l1 y1 z1
  exact ⟨v, T1, Lc, X1, hQ, st⟩
theorem wVirtual (X : Stand p l e R s m args below meth c T locs cells slots) (hx : p.tables.exec = Jvm.exec) (hZ : Z.Warmed39 s.vm) {own C : String} {index : Nat} {y z : MethodName} {bytes : ByteArray} {maxL : Nat} {rt : Option FieldType} {rm : Room} {as' : Array Value} (hown : s.vm.findClass own = some m.cls)
    (w1 : (Jvm.Cond.methodLink own index y).before a0 Z = true) (w2 : (Jvm.Cond.declares y).before a0 Z = true) (nf : NotFace s y) (w5 : (Jvm.Cond.selects C y z).before a0 Z = true) (w6 : (Jvm.Cond.instanceMethod z).before a0 Z = true) (w3 : (Jvm.Cond.initialized z.cls).before a0 Z = true) (w4 : (Jvm.Cond.code z bytes maxL rt).before a0 Z = true)
    (hy : y.cls ≠ "java/lang/invoke/MethodHandle" ∧ y.cls ≠ "java/lang/invoke/VarHandle") (hM : OCon l z bytes maxL rt [] rm Z as' h Q) (W : Nat) (hf : rm.frames + 1 ≤ R.frames) (hl : W + (maxL + 11) + rm.locals ≤ R.locals) {b : Addr} (E : Exa Z h b C) {g : JFrame} (hg : g.method = m) (hsize : g.locals.size = c.maxLocals) {argsL rest : List Value} (hlen : ∀ sig, parseMethodDescriptor y.desc = some sig → argsL.length = sig.parameters.length)
    (hstack : g.stack = argsL.reverse ++ .ref b :: rest) (hW : 2 * g.monitorRoom + (rest.map fun v => v.category).sum ≤ W) (hd : decode c.code g.pc = .ok (.invokevirtual index, 3)) (has : (.ref b :: argsL).toArray = as') (eT : T.heap = h) (hc : cells + rm.cells ≤ R.cells) (hs : slots + rm.slots ≤ R.slots) :
    ∃ (v : Option Value) (T' : State) (L : List Loc), Stand p l e R s m args below meth c T' (locs ++ L) (cells + rm.cells) (slots + rm.slots) ∧ Q v T'.heap L ∧ Steps p.tables e below (T.setTop g) (T'.setTop { g with pc := g.pc + 3, stack := v.toList ++ rest }) := by
  obtain ⟨cq, kq, qa, qb, qc⟩ := isOf hZ eT E
  obtain ⟨v, _, ⟨T1, L1, k1, n1⟩, -, X1, ⟨Lc, hQ, l1, y1, z1⟩, st⟩ := X.virtualBack hx (y := y) (z := z) hown (mvT hZ w1) (mvT hZ w2) nf (mvT hZ w5) (mvT hZ w6) hy (backOf (W := W) hM hZ w4 w3 hf hl) qa qc (g := g) hg hsize (Steps.refl _) (argsL := argsL) (rest := rest) hlen hstack hW hd (fun _ _ => ⟨has, eT, hc, hs⟩)
  dsimp only [Pt.U, Pt.locs, Pt.cells, Pt.slots] at X1 l1 y1 z1 st hQ
  subst l1 y1 z1
  exact ⟨v, T1, Lc, X1, hQ, st⟩
end Own
end Jvm.Pilot.@@N@@
namespace Jvm.Pilot.@@N@@
open Jvm Jvm.ClassFile Sem Op Lib Jvm.Free Jvm.Stand Jvm.LawKit Jvm.RoadKit Bundle Jvm.Pilot.@@N@@.Jvm.D
/-- the same end, where the walk may have interned -/
def OEndW (s : State) (below : List Frame) (Q : Option Value → Heap → List Loc → Prop) (cs sl : Nat) (t : State) : Prop := ∃ o, t.status = .running ∧ Ended t below o ∧ ∃ v L, o = .returned v ∧ Q v t.heap L ∧ ReturnedEndW s o t L cs sl
def OConW (l : Launch) (y : MethodName) (bytes : ByteArray) (maxL : Nat) (rt : Option FieldType) (ws : List Jvm.Cond) (rm : Room) (Z : State) (as' : Array Value) (h : Heap) (Q : Option Value → Heap → List Loc → Prop) : Prop :=
  MetFree l y (head1 (Jvm.Cond.code y bytes maxL rt :: ws) rm) (fun a U => a = as' ∧ U = Z ∧ U.heap = h) (fun _ _ _ _ _ => True) (fun _ U o U' => ∃ v L, o = .returned v ∧ Q v U'.heap L ∧ ReturnedEndW U o U' L rm.cells rm.slots)
section OwnW
variable {p : Program} {l : Launch} {e : Env} {R : Room} {s : State} {m : MethodId} {args : Array Value} {below : List Frame} {meth : Method} {c : Code} {T T' : State} {locs : List Loc} {cells slots : Nat} {Z : State} {a0 : Array Value} {h : Heap} {G : State → Prop} {g g' : JFrame} {Q : Option Value → Heap → List Loc → Prop} {cs sl : Nat}
theorem oconW {y : MethodName} {bytes : ByteArray} {maxL : Nat} {rt : Option FieldType} {ws : List Jvm.Cond} {rm : Room} {as' : Array Value} (hp : plainFor y = true)
    (body : ∀ (p : Program) (e : Env) (s : State) (m : MethodId) (below : List Frame) (meth : Method) (c : Code) (s₁ : State), p.tables.exec = Jvm.exec → c.code = bytes → c.maxLocals = maxL → s.vm.findClass y.cls = some m.cls → meth.name = y.name → meth.sig.returnType = rt → meth.locks = false → Z.Warmed39 s.vm →
      Stand p l e rm s m as' below meth c s₁ [] 0 0 → s₁.heap = h → s.heap = h → s = Z → OWay p e below (OEndW s below Q rm.cells rm.slots) s₁ (entryFrame m as' maxL)) : OConW l y bytes maxL rt ws rm Z as' h Q := by
  refine MetFree.of_bodySF hp hisR ?_
  intro p e s m args below meth c s₁ Bd hml0 hP hK
  obtain ⟨rfl, hU, hh⟩ := hP
  have hZ : Z.Warmed39 s.vm := by rw [hU]; exact State.Warmed39.refl Z
  obtain ⟨t, h1, o, h2, h3, h4⟩ := body p e s m below meth c s₁ Bd.exec Bd.bytes hml0 (findClass_of_methodNamed Bd.named) (name_of_methodNamed Bd.named Bd.method).1 Bd.returns Bd.notSynchronized hZ (Stand.of_body Bd) (by rw [← hh, Bd.state]; rfl) hh hU
  exact ⟨t, o, h1, h2, h3, h4⟩
theorem wRetNW {vm0 : Vm} {k0 : Nat} (X : Stand p l e R (s.setVm vm0) m args below meth c T locs cells slots) (hx : p.tables.exec = Jvm.exec) {pc : Nat} {Ls : Array Slot} {z : Int32} {t : FieldType} {rest : List Value} (hret : meth.sig.returnType = some t) (hlk : meth.locks = false) (ht : t = .boolean ∨ t = .byte ∨ t = .char ∨ t = .short)
    (hd : decode c.code pc = .ok (.ireturn, 1)) (hc : cells ≤ cs) (hs : slots ≤ sl) (hS : s.Since vm0 k0) (hk : k0 ≤ h.size) (eT : T.heap = h) (hq : Q (some (.int (nar t z))) h locs) : OWay p e below (OEndW s below Q cs sl) T (mkF m pc Ls (.int z :: rest)) := by
  obtain ⟨fs, hr, hrun, hended, hE⟩ := X.leaveW hS (by rw [eT]; exact hk) (v := some (.int (nar t z))) (fun q => by rw [hret] at q; cases q) hlk
  exact ⟨_, retN X hx hret ht hd hr, _, hrun, hended, _, _, rfl, by subst eT; exact hq, hE.1, hE.2.1, hE.2.2.1, hE.2.2.2.mono hc hs⟩
end OwnW
end Jvm.Pilot.@@N@@
namespace Jvm.Pilot.@@N@@
open Jvm Jvm.ClassFile Sem Op Lib Jvm.Free Jvm.Stand Jvm.LawKit Jvm.RoadKit Bundle Jvm.Pilot.@@N@@.Jvm.D
def isa (m : Int32) (d : Int64) (a : Int32) : Int32 := if m = (0 : Int32) then (if (d - (d / (a.toInt64)) * (a.toInt64)) = (0 : Int64) then (1 : Int32) else (0 : Int32)) else (0 : Int32)
theorem own_al (p v : Int32) (h : v = (if (1 : Int32) < (p &&& (2147483647 : Int32)) then (p &&& (2147483647 : Int32)) else (1 : Int32))) : 1 ≤ v.toInt := by
  have e : (1 : Int32).toInt = 1 := by decide
  rw [h]
  split
  · rename_i q
    rw [Int32.lt_iff_toInt_lt] at q
    omega
  · omega
theorem own_rem (p r v : Int32) (c : Prop) [Decidable c] (hv : 1 ≤ v.toInt) (h : r = (if c then ((p &&& (2147483647 : Int32)) % v) else (0 : Int32))) : 0 ≤ r.toInt ∧ r.toInt < v.toInt := by
  have e : (0 : Int32).toInt = 0 := by decide
  have m := c_mask p 2147483647 31 (by decide) (by decide)
  have d := (c_iremV (p &&& 2147483647) v).1 (by omega) (by omega)
  rw [h]
  split
  · omega
  · omega
theorem own_mod (q Q : Int64) (a r : Int32) (d : Int64) (hq : Q = (q &&& (4294967295 : Int64))) (ha : 1 ≤ a.toInt) (hr : 0 ≤ r.toInt ∧ r.toInt < a.toInt) (hd : d = ((Q * (a.toInt64)) + (r.toInt64))) : (d - (d / (a.toInt64)) * (a.toInt64)).toInt = r.toInt := by
  have m := c_maskL q 4294967295 32 (by decide) (by decide)
  rw [← hq] at m
  have c1 := c_lmul Q a.toInt64
  have c2 := c_ladd (Q * a.toInt64) r.toInt64
  have i1 := c_i2l a
  have i2 := c_i2l r
  have r1 := rng32 a
  have r2 := rng64 (Q * a.toInt64)
  have r3 := rng64 d
  rw [← hd] at c2
  rw [i1] at c1
  rw [i2] at c2
  have b0 : 0 ≤ Q.toInt := by omega
  have b1 : Q.toInt ≤ 4294967295 := by omega
  have p0 : 0 ≤ Q.toInt * a.toInt := Int.mul_nonneg b0 (by omega)
  have p1 : Q.toInt * a.toInt ≤ 4294967295 * 2147483647 := Int.le_trans (Int.mul_le_mul_of_nonneg_right b1 (by omega)) (Int.mul_le_mul_of_nonneg_left (by omega) (by decide))
  have e1 : (Q * a.toInt64).toInt = Q.toInt * a.toInt := by
    generalize Q.toInt * a.toInt = z at *
    omega
  have e2 : d.toInt = Q.toInt * a.toInt + r.toInt := by
    rw [e1] at c2
    generalize Q.toInt * a.toInt = z at *
    omega
  have e3 := (c_lrem d a.toInt64 a.toInt i1).1 (by rw [e2]; generalize Q.toInt * a.toInt = z at *; omega)
  rw [e3, e2, Int.add_comm, Int.add_mul_emod_self_right, Int.emod_eq_of_lt hr.1 hr.2]
theorem own_law (m r a : Int32) (d : Int64) (u : Int32) (h : (d - (d / (a.toInt64)) * (a.toInt64)).toInt = r.toInt) (hu : u = (if m = (0 : Int32) then (if r = (0 : Int32) then (1 : Int32) else (0 : Int32)) else (0 : Int32))) : isa m d a = u := by
  have e : ((d - (d / (a.toInt64)) * (a.toInt64)) = (0 : Int64)) ↔ (r = (0 : Int32)) := by
    rw [← Int64.toInt_inj, ← Int32.toInt_inj, h]
    exact Iff.rfl
  unfold isa
  rw [hu]
  simp only [e]
theorem own_nz64 (a : Int32) (h : 1 ≤ a.toInt) : a.toInt64 ≠ 0 := by
  intro q
  have i := c_i2l a
  rw [q] at i
  have e : (0 : Int64).toInt = 0 := by decide
  omega
theorem own_nz (v : Int32) (h : 1 ≤ v.toInt) : v ≠ 0 := by
  intro q
  rw [q] at h
  exact absurd h (by decide)
def imax (a b : Int32) : Int32 := if a < b then b else a
theorem d1_0 : decode jdk_29_method_65_code 0 = .ok (.iload_n 0, 1) := by decide +kernel
theorem d1_1 : decode jdk_29_method_65_code 1 = .ok (.iload_n 1, 1) := by decide +kernel
theorem d1_2 : decode jdk_29_method_65_code 2 = .ok (.if_icmp .lt 7, 3) := by decide +kernel
theorem d1_9 : decode jdk_29_method_65_code 9 = .ok (.iload_n 1, 1) := by decide +kernel
theorem d1_10 : decode jdk_29_method_65_code 10 = .ok (.ireturn, 1) := by decide +kernel
theorem d1_5 : decode jdk_29_method_65_code 5 = .ok (.iload_n 0, 1) := by decide +kernel
theorem d1_6 : decode jdk_29_method_65_code 6 = .ok (.goto 4, 3) := by decide +kernel
def imax_b_rm : Room := { frames := 0, cells := 0, slots := 0, locals := 0 }
def imax_b_Q (Z : State) (p0 : Int32) (p1 : Int32) (h0 : Heap) (n0 : Nat) (v : Option Value) (h : Heap) (L : List Loc) : Prop := (v = some (.int (imax p0 p1))) ∧ (Fr n0 L) ∧ (h = h0)
theorem imax_b_ef (m : MethodId) (p0 : Int32) (p1 : Int32) : entryFrame m #[(.int p0), (.int p1)] 2 = mkF m 0 #[.val (.int p0), .val (.int p1)] [] := by first | (simp [entryFrame, mkF, argsToLocals, Value.category]; done) | rfl
set_option maxRecDepth 65536 in
set_option maxHeartbeats 40000000 in
theorem imax_b_c (l : Launch) (Z : State) (az : Array Value) (hw : ∀ d ∈ tables_1, d.before az Z = true) (ws : List Jvm.Cond) (p0 : Int32) (p1 : Int32) (h0 : Heap) (n0 : Nat) (Z0 : n0 ≤ h0.size) :
    OCon l (⟨"java/lang/Math", "max", "(II)I"⟩ : MethodName) jdk_29_method_65_code 2 (some .int) ws imax_b_rm Z #[(.int p0), (.int p1)] h0 (imax_b_Q Z p0 p1 h0 n0) := by
  refine ocon (Jvm.Free.JP.mathPlain rfl (by decide +kernel)) ?_
  intro p e s m below meth c s₁ hx hby hml hown hnm hret hlk hZ X0 eh0
  have N0 := Fr.nil n0
  have K0 := Keep.refl h0 []
  refine ogoE (imax_b_ef m p0 p1) ?_
  generalize hG : (OEnd s below (imax_b_Q Z p0 p1 h0 n0) imax_b_rm.cells imax_b_rm.slots) = G
  show OWay p e below G s₁ (mkF m 0 #[.val (.int p0), .val (.int p1)] [])
  refine ogo (fun _ z_ => XS.iloadN X0.here hx rfl (hb hby d1_0) rfl z_) ?_
  show OWay p e below G s₁ (mkF m 1 #[.val (.int p0), .val (.int p1)] [(.int p0)])
  refine ogo (fun _ z_ => XS.iloadN X0.here hx rfl (hb hby d1_1) rfl z_) ?_
  show OWay p e below G s₁ (mkF m 2 #[.val (.int p0), .val (.int p1)] [(.int p1), (.int p0)])
  by_cases c2 : p0 < p1
  · refine ogo (fun _ z_ => XS.icmpYes X0.here hx rfl (pc0 := 2) (pc' := 9) rfl (hb hby d1_2) rfl (tlt c2).1 (by decide) (by decide) z_) ?_
    show OWay p e below G s₁ (mkF m 9 #[.val (.int p0), .val (.int p1)] [])
    refine ogo (fun _ z_ => XS.iloadN X0.here hx rfl (hb hby d1_9) rfl z_) ?_
    show OWay p e below G s₁ (mkF m 10 #[.val (.int p0), .val (.int p1)] [(.int p1)])
    subst hG
    refine wRet X0 hx hret hlk rfl (Or.inl ⟨rfl, Or.inl rfl, _, rfl⟩) (hb hby d1_10) (by decide) (by decide) eh0 ?_
    exact ⟨(congrArg some (congrArg Value.int (show _ = imax p0 p1 from by unfold imax; rw [if_pos c2]))), N0, rfl⟩
  · refine ogo (fun _ z_ => XS.icmpNo X0.here hx rfl (hb hby d1_2) rfl (flt c2).1 z_) ?_
    show OWay p e below G s₁ (mkF m 5 #[.val (.int p0), .val (.int p1)] [])
    refine ogo (fun _ z_ => XS.iloadN X0.here hx rfl (hb hby d1_5) rfl z_) ?_
    show OWay p e below G s₁ (mkF m 6 #[.val (.int p0), .val (.int p1)] [(.int p0)])
    refine ogo (fun _ z_ => XS.goto X0.here hx rfl (pc0 := 6) (pc' := 10) rfl (hb hby d1_6) (by decide) (by decide) z_) ?_
    show OWay p e below G s₁ (mkF m 10 #[.val (.int p0), .val (.int p1)] [(.int p0)])
    subst hG
    refine wRet X0 hx hret hlk rfl (Or.inl ⟨rfl, Or.inl rfl, _, rfl⟩) (hb hby d1_10) (by decide) (by decide) eh0 ?_
    exact ⟨(congrArg some (congrArg Value.int (show _ = imax p0 p1 from by unfold imax; rw [if_neg c2]))), N0, rfl⟩
theorem pn_java_lang_Record : plainName "java/lang/Record" = true := by first | (simp [plainName, overriddenIn]; done) | decide +kernel
theorem d3_0 : decode jdk_30_method_1_code 0 = .ok (.aload_n 0, 1) := by decide +kernel
theorem d3_1 : decode jdk_30_method_1_code 1 = .ok (.invokespecial 1, 3) := by decide +kernel
theorem d3_4 : decode jdk_30_method_1_code 4 = .ok (.return_, 1) := by decide +kernel
def recinit_rm : Room := { frames := 1, cells := 0, slots := 0, locals := 12 }
def recinit_Q (Z : State) (a0 : Addr) (h0 : Heap) (n0 : Nat) (v : Option Value) (h : Heap) (L : List Loc) : Prop := (v = none) ∧ (Fr n0 L) ∧ (h = h0)
theorem recinit_ef (m : MethodId) (a0 : Addr) : entryFrame m #[(.ref a0)] 1 = mkF m 0 #[.val (.ref a0)] [] := by first | (simp [entryFrame, mkF, argsToLocals, Value.category]; done) | rfl
set_option maxRecDepth 65536 in
set_option maxHeartbeats 40000000 in
theorem recinit_c (l : Launch) (Z : State) (az : Array Value) (hw : ∀ d ∈ tables_1, d.before az Z = true) (ws : List Jvm.Cond) (a0 : Addr) (h0 : Heap) (n0 : Nat) (Z0 : n0 ≤ h0.size) :
    OCon l (⟨"java/lang/Record", "<init>", "()V"⟩ : MethodName) jdk_30_method_1_code 1 none ws recinit_rm Z #[(.ref a0)] h0 (recinit_Q Z a0 h0 n0) := by
  refine ocon (plainFor_of_name pn_java_lang_Record) ?_
  intro p e s m below meth c s₁ hx hby hml hown hnm hret hlk hZ X0 eh0
  have N0 := Fr.nil n0
  have K0 := Keep.refl h0 []
  refine ogoE (recinit_ef m a0) ?_
  generalize hG : (OEnd s below (recinit_Q Z a0 h0 n0) recinit_rm.cells recinit_rm.slots) = G
  show OWay p e below G s₁ (mkF m 0 #[.val (.ref a0)] [])
  refine ogo (fun _ z_ => XS.aloadN X0.here hx rfl (hb hby d3_0) rfl rfl z_) ?_
  show OWay p e below G s₁ (mkF m 1 #[.val (.ref a0)] [(.ref a0)])
  obtain ⟨T1, X1, eT1, st1⟩ := initO X0 hx hZ hown (hw _ (List.mem_of_getElem? (i := 25) rfl)) (hw _ (List.mem_of_getElem? (i := 26) rfl)) (hw _ (List.mem_of_getElem? (i := 27) rfl)) eh0 (g := (mkF m 1 #[.val (.ref a0)] [(.ref a0)])) rfl (by rw [hml]; rfl) rfl (hb hby d3_1) (by decide) (W := 0) (by show 2 * 0 + _ ≤ _; exact Nat.le_of_eq rfl) (by decide)
  refine ogo st1 ?_
  show OWay p e below G T1 (mkF m 4 #[.val (.ref a0)] [])
  subst hG
  refine wRetV X1 hx hret hlk (hb hby d3_4) (by decide) (by decide) eT1 ?_
  exact ⟨rfl, N0, rfl⟩
theorem pn_com_example_install_warden_installwarden_zip_ZipArchive_Entry : plainName "com/example/install_warden/installwarden/zip/ZipArchive$Entry" = true := by first | (simp [plainName, overriddenIn]; done) | decide +kernel
theorem d2_0 : decode prog_99_method_1_code 0 = .ok (.aload_n 0, 1) := by decide +kernel
theorem d2_1 : decode prog_99_method_1_code 1 = .ok (.invokespecial 3, 3) := by decide +kernel
theorem pd___V : parseMethodDescriptor "()V" = some ⟨[], none⟩ := by decide +kernel
theorem d2_4 : decode prog_99_method_1_code 4 = .ok (.aload_n 0, 1) := by decide +kernel
theorem d2_5 : decode prog_99_method_1_code 5 = .ok (.aload_n 1, 1) := by decide +kernel
theorem d2_6 : decode prog_99_method_1_code 6 = .ok (.putfield 9, 3) := by decide +kernel
theorem d2_9 : decode prog_99_method_1_code 9 = .ok (.aload_n 0, 1) := by decide +kernel
theorem d2_10 : decode prog_99_method_1_code 10 = .ok (.iload_n 2, 1) := by decide +kernel
theorem d2_11 : decode prog_99_method_1_code 11 = .ok (.putfield 15, 3) := by decide +kernel
theorem d2_14 : decode prog_99_method_1_code 14 = .ok (.aload_n 0, 1) := by decide +kernel
theorem d2_15 : decode prog_99_method_1_code 15 = .ok (.iload_n 3, 1) := by decide +kernel
theorem d2_16 : decode prog_99_method_1_code 16 = .ok (.putfield 19, 3) := by decide +kernel
theorem d2_19 : decode prog_99_method_1_code 19 = .ok (.aload_n 0, 1) := by decide +kernel
theorem d2_20 : decode prog_99_method_1_code 20 = .ok (.lload 4, 2) := by decide +kernel
theorem d2_22 : decode prog_99_method_1_code 22 = .ok (.putfield 22, 3) := by decide +kernel
theorem d2_25 : decode prog_99_method_1_code 25 = .ok (.aload_n 0, 1) := by decide +kernel
theorem d2_26 : decode prog_99_method_1_code 26 = .ok (.lload 6, 2) := by decide +kernel
theorem d2_28 : decode prog_99_method_1_code 28 = .ok (.putfield 26, 3) := by decide +kernel
theorem d2_31 : decode prog_99_method_1_code 31 = .ok (.aload_n 0, 1) := by decide +kernel
theorem d2_32 : decode prog_99_method_1_code 32 = .ok (.lload 8, 2) := by decide +kernel
theorem d2_34 : decode prog_99_method_1_code 34 = .ok (.putfield 29, 3) := by decide +kernel
theorem d2_37 : decode prog_99_method_1_code 37 = .ok (.aload_n 0, 1) := by decide +kernel
theorem d2_38 : decode prog_99_method_1_code 38 = .ok (.lload 10, 2) := by decide +kernel
theorem d2_40 : decode prog_99_method_1_code 40 = .ok (.putfield 32, 3) := by decide +kernel
theorem d2_43 : decode prog_99_method_1_code 43 = .ok (.return_, 1) := by decide +kernel
def ctor2_rm : Room := { frames := 2, cells := 0, slots := 0, locals := 24 }
def ctor2_Q (Z : State) (a0 : Addr) (a1 : Addr) (p2 : Int32) (p3 : Int32) (q4 : Int64) (q5 : Int64) (q6 : Int64) (q7 : Int64) (h0 : Heap) (n0 : Nat) (v : Option Value) (h : Heap) (L : List Loc) : Prop := (v = none) ∧ (Fr n0 L) ∧ (Keep h0 h [a0]) ∧ (Fld Z h a0 "com/example/install_warden/installwarden/zip/ZipArchive$Entry" "name" "Ljava/lang/String;" (.ref a1)) ∧ (Fld Z h a0 "com/example/install_warden/installwarden/zip/ZipArchive$Entry" "method" "I" (.int p2)) ∧ (Fld Z h a0 "com/example/install_warden/installwarden/zip/ZipArchive$Entry" "crc32" "I" (.int p3)) ∧ (Fld Z h a0 "com/example/install_warden/installwarden/zip/ZipArchive$Entry" "compressedSize" "J" (.long q4)) ∧ (Fld Z h a0 "com/example/install_warden/installwarden/zip/ZipArchive$Entry" "size" "J" (.long q5)) ∧ (Fld Z h a0 "com/example/install_warden/installwarden/zip/ZipArchive$Entry" "localHeaderOffset" "J" (.long q6)) ∧ (Fld Z h a0 "com/example/install_warden/installwarden/zip/ZipArchive$Entry" "dataOffset" "J" (.long q7))
theorem ctor2_ef (m : MethodId) (a0 : Addr) (a1 : Addr) (p2 : Int32) (p3 : Int32) (q4 : Int64) (q5 : Int64) (q6 : Int64) (q7 : Int64) : entryFrame m #[(.ref a0), (.ref a1), (.int p2), (.int p3), (.long q4), (.long q5), (.long q6), (.long q7)] 12 = mkF m 0 #[.val (.ref a0), .val (.ref a1), .val (.int p2), .val (.int p3), .val (.long q4), .second, .val (.long q5), .second, .val (.long q6), .second, .val (.long q7), .second] [] := by first | (simp [entryFrame, mkF, argsToLocals, Value.category]; done) | rfl
set_option maxRecDepth 65536 in
set_option maxHeartbeats 40000000 in
theorem ctor2_c (l : Launch) (Z : State) (az : Array Value) (hw : ∀ d ∈ tables_1, d.before az Z = true) (ws : List Jvm.Cond) (a0 : Addr) (a1 : Addr) (p2 : Int32) (p3 : Int32) (q4 : Int64) (q5 : Int64) (q6 : Int64) (q7 : Int64) (h0 : Heap) (n0 : Nat) (Z0 : n0 ≤ h0.size) (hp0 : Exa Z h0 a0 "com/example/install_warden/installwarden/zip/ZipArchive$Entry") (hp1 : n0 ≤ a0) (hp2 : Fld Z h0 a0 "com/example/install_warden/installwarden/zip/ZipArchive$Entry" "name" "Ljava/lang/String;" .null) (hp3 : Fld Z h0 a0 "com/example/install_warden/installwarden/zip/ZipArchive$Entry" "method" "I" (.int (0 : Int32))) (hp4 : Fld Z h0 a0 "com/example/install_warden/installwarden/zip/ZipArchive$Entry" "crc32" "I" (.int (0 : Int32))) (hp5 : Fld Z h0 a0 "com/example/install_warden/installwarden/zip/ZipArchive$Entry" "compressedSize" "J" (.long (0 : Int64))) (hp6 : Fld Z h0 a0 "com/example/install_warden/installwarden/zip/ZipArchive$Entry" "size" "J" (.long (0 : Int64))) (hp7 : Fld Z h0 a0 "com/example/install_warden/installwarden/zip/ZipArchive$Entry" "localHeaderOffset" "J" (.long (0 : Int64))) (hp8 : Fld Z h0 a0 "com/example/install_warden/installwarden/zip/ZipArchive$Entry" "dataOffset" "J" (.long (0 : Int64))) :
    OCon l (⟨"com/example/install_warden/installwarden/zip/ZipArchive$Entry", "<init>", "(Ljava/lang/String;IIJJJJ)V"⟩ : MethodName) prog_99_method_1_code 12 none ws ctor2_rm Z #[(.ref a0), (.ref a1), (.int p2), (.int p3), (.long q4), (.long q5), (.long q6), (.long q7)] h0 (ctor2_Q Z a0 a1 p2 p3 q4 q5 q6 q7 h0 n0) := by
  refine ocon (plainFor_of_name pn_com_example_install_warden_installwarden_zip_ZipArchive_Entry) ?_
  intro p e s m below meth c s₁ hx hby hml hown hnm hret hlk hZ X0 eh0
  have N0 := Fr.nil n0
  have K0 := Keep.refl h0 [a0]
  refine ogoE (ctor2_ef m a0 a1 p2 p3 q4 q5 q6 q7) ?_
  have g_a0 := hp1
  generalize hG : (OEnd s below (ctor2_Q Z a0 a1 p2 p3 q4 q5 q6 q7 h0 n0) ctor2_rm.cells ctor2_rm.slots) = G
  show OWay p e below G s₁ (mkF m 0 #[.val (.ref a0), .val (.ref a1), .val (.int p2), .val (.int p3), .val (.long q4), .second, .val (.long q5), .second, .val (.long q6), .second, .val (.long q7), .second] [])
  refine ogo (fun _ z_ => XS.aloadN X0.here hx rfl (hb hby d2_0) rfl rfl z_) ?_
  show OWay p e below G s₁ (mkF m 1 #[.val (.ref a0), .val (.ref a1), .val (.int p2), .val (.int p3), .val (.long q4), .second, .val (.long q5), .second, .val (.long q6), .second, .val (.long q7), .second] [(.ref a0)])
  obtain ⟨_, T1, L1, X1, hQ1, st1⟩ := wInit X0 hx hZ (y := (⟨"java/lang/Record", "<init>", "()V"⟩ : MethodName)) rfl hown (hw _ (List.mem_of_getElem? (i := 20) rfl)) (hw _ (List.mem_of_getElem? (i := 21) rfl)) (hw _ (List.mem_of_getElem? (i := 23) rfl)) (hw _ (List.mem_of_getElem? (i := 24) rfl)) (by decide) (recinit_c l Z az hw [] a0 h0 n0 Z0) 0 (by decide) (by decide) (g := (mkF m 1 #[.val (.ref a0), .val (.ref a1), .val (.int p2), .val (.int p3), .val (.long q4), .second, .val (.long q5), .second, .val (.long q6), .second, .val (.long q7), .second] [(.ref a0)])) rfl (by rw [hml]; rfl) (a := a0) (argsL := []) (rest := []) (lenOf pd___V rfl) rfl (by show 2 * 0 + _ ≤ _; exact Nat.le_of_eq rfl) (hb hby d2_1) rfl eh0 (by decide) (by decide)
  obtain ⟨rfl, N1q, eq1⟩ := hQ1
  have N1 := Fr.app N0 N1q
  refine ogoS st1 ?_
  show OWay p e below G T1 (mkF m 4 #[.val (.ref a0), .val (.ref a1), .val (.int p2), .val (.int p3), .val (.long q4), .second, .val (.long q5), .second, .val (.long q6), .second, .val (.long q7), .second] [])
  refine ogo (fun _ z_ => XS.aloadN X1.here hx rfl (hb hby d2_4) rfl rfl z_) ?_
  show OWay p e below G T1 (mkF m 5 #[.val (.ref a0), .val (.ref a1), .val (.int p2), .val (.int p3), .val (.long q4), .second, .val (.long q5), .second, .val (.long q6), .second, .val (.long q7), .second] [(.ref a0)])
  refine ogo (fun _ z_ => XS.aloadN X1.here hx rfl (hb hby d2_5) rfl rfl z_) ?_
  show OWay p e below G T1 (mkF m 6 #[.val (.ref a0), .val (.ref a1), .val (.int p2), .val (.int p3), .val (.long q4), .second, .val (.long q5), .second, .val (.long q6), .second, .val (.long q7), .second] [(.ref a1), (.ref a0)])
  obtain ⟨T2, h2, X2, eT2, W2, st2⟩ := putF X1 hx hZ hown (host := "") (Or.inl (hw _ (List.mem_of_getElem? (i := 28) rfl))) Via.refl eq1 hp2 hp0 (Or.inr ⟨(hw _ (List.mem_of_getElem? (i := 29) rfl)), rfl, hnm⟩) (hw _ (List.mem_of_getElem? (i := 7) rfl)) (ty := (.object "java/lang/String")) (by decide) rfl rfl (g := (mkF m 6 #[.val (.ref a0), .val (.ref a1), .val (.int p2), .val (.int p3), .val (.long q4), .second, .val (.long q5), .second, .val (.long q6), .second, .val (.long q7), .second] [(.ref a1), (.ref a0)])) rfl rfl (hb hby d2_6)
  have K3 : Keep h0 h2 [a0] := K0.wr W2 (Or.inl (List.mem_of_getElem? (i := 0) rfl))
  have Fw2 : Fld Z h2 a0 "com/example/install_warden/installwarden/zip/ZipArchive$Entry" "name" "Ljava/lang/String;" (.ref a1) := hp2.same W2
  have N2 := Fr.snoc X2 N1 g_a0
  refine ogo st2 ?_
  show OWay p e below G T2 (mkF m 9 #[.val (.ref a0), .val (.ref a1), .val (.int p2), .val (.int p3), .val (.long q4), .second, .val (.long q5), .second, .val (.long q6), .second, .val (.long q7), .second] [])
  refine ogo (fun _ z_ => XS.aloadN X2.here hx rfl (hb hby d2_9) rfl rfl z_) ?_
  show OWay p e below G T2 (mkF m 10 #[.val (.ref a0), .val (.ref a1), .val (.int p2), .val (.int p3), .val (.long q4), .second, .val (.long q5), .second, .val (.long q6), .second, .val (.long q7), .second] [(.ref a0)])
  refine ogo (fun _ z_ => XS.iloadN X2.here hx rfl (hb hby d2_10) rfl z_) ?_
  show OWay p e below G T2 (mkF m 11 #[.val (.ref a0), .val (.ref a1), .val (.int p2), .val (.int p3), .val (.long q4), .second, .val (.long q5), .second, .val (.long q6), .second, .val (.long q7), .second] [(.int p2), (.ref a0)])
  have F4 : Exa Z h2 a0 "com/example/install_warden/installwarden/zip/ZipArchive$Entry" := (hp0.wr W2)
  have F5 : Fld Z h2 a0 "com/example/install_warden/installwarden/zip/ZipArchive$Entry" "method" "I" (.int (0 : Int32)) := (hp3.other W2 (Or.inr (slot_ne (Or.inr (hw _ (List.mem_of_getElem? (i := 31) rfl))) (Or.inr (hw _ (List.mem_of_getElem? (i := 29) rfl))) (by decide) (t := .int) (t' := (.object "java/lang/String")) (by decide) (by decide))))
  obtain ⟨T6, h6, X6, eT6, W6, st6⟩ := putF X2 hx hZ hown (host := "") (Or.inl (hw _ (List.mem_of_getElem? (i := 30) rfl))) Via.refl eT2 F5 F4 (Or.inr ⟨(hw _ (List.mem_of_getElem? (i := 31) rfl)), rfl, hnm⟩) (hw _ (List.mem_of_getElem? (i := 7) rfl)) (ty := .int) (by decide) rfl rfl (g := (mkF m 11 #[.val (.ref a0), .val (.ref a1), .val (.int p2), .val (.int p3), .val (.long q4), .second, .val (.long q5), .second, .val (.long q6), .second, .val (.long q7), .second] [(.int p2), (.ref a0)])) rfl rfl (hb hby d2_11)
  have K7 : Keep h0 h6 [a0] := K3.wr W6 (Or.inl (List.mem_of_getElem? (i := 0) rfl))
  have Fw6 : Fld Z h6 a0 "com/example/install_warden/installwarden/zip/ZipArchive$Entry" "method" "I" (.int p2) := F5.same W6
  have N6 := Fr.snoc X6 N2 g_a0
  refine ogo st6 ?_
  show OWay p e below G T6 (mkF m 14 #[.val (.ref a0), .val (.ref a1), .val (.int p2), .val (.int p3), .val (.long q4), .second, .val (.long q5), .second, .val (.long q6), .second, .val (.long q7), .second] [])
  refine ogo (fun _ z_ => XS.aloadN X6.here hx rfl (hb hby d2_14) rfl rfl z_) ?_
  show OWay p e below G T6 (mkF m 15 #[.val (.ref a0), .val (.ref a1), .val (.int p2), .val (.int p3), .val (.long q4), .second, .val (.long q5), .second, .val (.long q6), .second, .val (.long q7), .second] [(.ref a0)])
  refine ogo (fun _ z_ => XS.iloadN X6.here hx rfl (hb hby d2_15) rfl z_) ?_
  show OWay p e below G T6 (mkF m 16 #[.val (.ref a0), .val (.ref a1), .val (.int p2), .val (.int p3), .val (.long q4), .second, .val (.long q5), .second, .val (.long q6), .second, .val (.long q7), .second] [(.int p3), (.ref a0)])
  have F8 : Exa Z h6 a0 "com/example/install_warden/installwarden/zip/ZipArchive$Entry" := (F4.wr W6)
  have F9 : Fld Z h6 a0 "com/example/install_warden/installwarden/zip/ZipArchive$Entry" "crc32" "I" (.int (0 : Int32)) := ((hp4.other W2 (Or.inr (slot_ne (Or.inr (hw _ (List.mem_of_getElem? (i := 33) rfl))) (Or.inr (hw _ (List.mem_of_getElem? (i := 29) rfl))) (by decide) (t := .int) (t' := (.object "java/lang/String")) (by decide) (by decide)))).other W6 (Or.inr (slot_ne (Or.inr (hw _ (List.mem_of_getElem? (i := 33) rfl))) (Or.inr (hw _ (List.mem_of_getElem? (i := 31) rfl))) (by decide) (t := .int) (t' := .int) (by decide) (by decide))))
  obtain ⟨T10, h10, X10, eT10, W10, st10⟩ := putF X6 hx hZ hown (host := "") (Or.inl (hw _ (List.mem_of_getElem? (i := 32) rfl))) Via.refl eT6 F9 F8 (Or.inr ⟨(hw _ (List.mem_of_getElem? (i := 33) rfl)), rfl, hnm⟩) (hw _ (List.mem_of_getElem? (i := 7) rfl)) (ty := .int) (by decide) rfl rfl (g := (mkF m 16 #[.val (.ref a0), .val (.ref a1), .val (.int p2), .val (.int p3), .val (.long q4), .second, .val (.long q5), .second, .val (.long q6), .second, .val (.long q7), .second] [(.int p3), (.ref a0)])) rfl rfl (hb hby d2_16)
  have K11 : Keep h0 h10 [a0] := K7.wr W10 (Or.inl (List.mem_of_getElem? (i := 0) rfl))
  have Fw10 : Fld Z h10 a0 "com/example/install_warden/installwarden/zip/ZipArchive$Entry" "crc32" "I" (.int p3) := F9.same W10
  have N10 := Fr.snoc X10 N6 g_a0
  refine ogo st10 ?_
  show OWay p e below G T10 (mkF m 19 #[.val (.ref a0), .val (.ref a1), .val (.int p2), .val (.int p3), .val (.long q4), .second, .val (.long q5), .second, .val (.long q6), .second, .val (.long q7), .second] [])
  refine ogo (fun _ z_ => XS.aloadN X10.here hx rfl (hb hby d2_19) rfl rfl z_) ?_
  show OWay p e below G T10 (mkF m 20 #[.val (.ref a0), .val (.ref a1), .val (.int p2), .val (.int p3), .val (.long q4), .second, .val (.long q5), .second, .val (.long q6), .second, .val (.long q7), .second] [(.ref a0)])
  refine ogo (fun _ z_ => XS.lload X10.here hx rfl (hb hby d2_20) rfl z_) ?_
  show OWay p e below G T10 (mkF m 22 #[.val (.ref a0), .val (.ref a1), .val (.int p2), .val (.int p3), .val (.long q4), .second, .val (.long q5), .second, .val (.long q6), .second, .val (.long q7), .second] [(.long q4), (.ref a0)])
  have F12 : Exa Z h10 a0 "com/example/install_warden/installwarden/zip/ZipArchive$Entry" := (F8.wr W10)
  have F13 : Fld Z h10 a0 "com/example/install_warden/installwarden/zip/ZipArchive$Entry" "compressedSize" "J" (.long (0 : Int64)) := (((hp5.other W2 (Or.inr (slot_ne (Or.inr (hw _ (List.mem_of_getElem? (i := 35) rfl))) (Or.inr (hw _ (List.mem_of_getElem? (i := 29) rfl))) (by decide) (t := .long) (t' := (.object "java/lang/String")) (by decide) (by decide)))).other W6 (Or.inr (slot_ne (Or.inr (hw _ (List.mem_of_getElem? (i := 35) rfl))) (Or.inr (hw _ (List.mem_of_getElem? (i := 31) rfl))) (by decide) (t := .long) (t' := .int) (by decide) (by decide)))).other W10 (Or.inr (slot_ne (Or.inr (hw _ (List.mem_of_getElem? (i := 35) rfl))) (Or.inr (hw _ (List.mem_of_getElem? (i := 33) rfl))) (by decide) (t := .long) (t' := .int) (by decide) (by decide))))
  obtain ⟨T14, h14, X14, eT14, W14, st14⟩ := putF X10 hx hZ hown (host := "") (Or.inl (hw _ (List.mem_of_getElem? (i := 34) rfl))) Via.refl eT10 F13 F12 (Or.inr ⟨(hw _ (List.mem_of_getElem? (i := 35) rfl)), rfl, hnm⟩) (hw _ (List.mem_of_getElem? (i := 7) rfl)) (ty := .long) (by decide) rfl rfl (g := (mkF m 22 #[.val (.ref a0), .val (.ref a1), .val (.int p2), .val (.int p3), .val (.long q4), .second, .val (.long q5), .second, .val (.long q6), .second, .val (.long q7), .second] [(.long q4), (.ref a0)])) rfl rfl (hb hby d2_22)
  have K15 : Keep h0 h14 [a0] := K11.wr W14 (Or.inl (List.mem_of_getElem? (i := 0) rfl))
  have Fw14 : Fld Z h14 a0 "com/example/install_warden/installwarden/zip/ZipArchive$Entry" "compressedSize" "J" (.long q4) := F13.same W14
  have N14 := Fr.snoc X14 N10 g_a0
  refine ogo st14 ?_
  show OWay p e below G T14 (mkF m 25 #[.val (.ref a0), .val (.ref a1), .val (.int p2), .val (.int p3), .val (.long q4), .second, .val (.long q5), .second, .val (.long q6), .second, .val (.long q7), .second] [])
  refine ogo (fun _ z_ => XS.aloadN X14.here hx rfl (hb hby d2_25) rfl rfl z_) ?_
  show OWay p e below G T14 (mkF m 26 #[.val (.ref a0), .val (.ref a1), .val (.int p2), .val (.int p3), .val (.long q4), .second, .val (.long q5), .second, .val (.long q6), .second, .val (.long q7), .second] [(.ref a0)])
  refine ogo (fun _ z_ => XS.lload X14.here hx rfl (hb hby d2_26) rfl z_) ?_
  show OWay p e below G T14 (mkF m 28 #[.val (.ref a0), .val (.ref a1), .val (.int p2), .val (.int p3), .val (.long q4), .second, .val (.long q5), .second, .val (.long q6), .second, .val (.long q7), .second] [(.long q5), (.ref a0)])
  have F16 : Exa Z h14 a0 "com/example/install_warden/installwarden/zip/ZipArchive$Entry" := (F12.wr W14)
  have F17 : Fld Z h14 a0 "com/example/install_warden/installwarden/zip/ZipArchive$Entry" "size" "J" (.long (0 : Int64)) := ((((hp6.other W2 (Or.inr (slot_ne (Or.inr (hw _ (List.mem_of_getElem? (i := 37) rfl))) (Or.inr (hw _ (List.mem_of_getElem? (i := 29) rfl))) (by decide) (t := .long) (t' := (.object "java/lang/String")) (by decide) (by decide)))).other W6 (Or.inr (slot_ne (Or.inr (hw _ (List.mem_of_getElem? (i := 37) rfl))) (Or.inr (hw _ (List.mem_of_getElem? (i := 31) rfl))) (by decide) (t := .long) (t' := .int) (by decide) (by decide)))).other W10 (Or.inr (slot_ne (Or.inr (hw _ (List.mem_of_getElem? (i := 37) rfl))) (Or.inr (hw _ (List.mem_of_getElem? (i := 33) rfl))) (by decide) (t := .long) (t' := .int) (by decide) (by decide)))).other W14 (Or.inr (slot_ne (Or.inr (hw _ (List.mem_of_getElem? (i := 37) rfl))) (Or.inr (hw _ (List.mem_of_getElem? (i := 35) rfl))) (by decide) (t := .long) (t' := .long) (by decide) (by decide))))
  obtain ⟨T18, h18, X18, eT18, W18, st18⟩ := putF X14 hx hZ hown (host := "") (Or.inl (hw _ (List.mem_of_getElem? (i := 36) rfl))) Via.refl eT14 F17 F16 (Or.inr ⟨(hw _ (List.mem_of_getElem? (i := 37) rfl)), rfl, hnm⟩) (hw _ (List.mem_of_getElem? (i := 7) rfl)) (ty := .long) (by decide) rfl rfl (g := (mkF m 28 #[.val (.ref a0), .val (.ref a1), .val (.int p2), .val (.int p3), .val (.long q4), .second, .val (.long q5), .second, .val (.long q6), .second, .val (.long q7), .second] [(.long q5), (.ref a0)])) rfl rfl (hb hby d2_28)
  have K19 : Keep h0 h18 [a0] := K15.wr W18 (Or.inl (List.mem_of_getElem? (i := 0) rfl))
  have Fw18 : Fld Z h18 a0 "com/example/install_warden/installwarden/zip/ZipArchive$Entry" "size" "J" (.long q5) := F17.same W18
  have N18 := Fr.snoc X18 N14 g_a0
  refine ogo st18 ?_
  show OWay p e below G T18 (mkF m 31 #[.val (.ref a0), .val (.ref a1), .val (.int p2), .val (.int p3), .val (.long q4), .second, .val (.long q5), .second, .val (.long q6), .second, .val (.long q7), .second] [])
  refine ogo (fun _ z_ => XS.aloadN X18.here hx rfl (hb hby d2_31) rfl rfl z_) ?_
  show OWay p e below G T18 (mkF m 32 #[.val (.ref a0), .val (.ref a1), .val (.int p2), .val (.int p3), .val (.long q4), .second, .val (.long q5), .second, .val (.long q6), .second, .val (.long q7), .second] [(.ref a0)])
  refine ogo (fun _ z_ => XS.lload X18.here hx rfl (hb hby d2_32) rfl z_) ?_
  show OWay p e below G T18 (mkF m 34 #[.val (.ref a0), .val (.ref a1), .val (.int p2), .val (.int p3), .val (.long q4), .second, .val (.long q5), .second, .val (.long q6), .second, .val (.long q7), .second] [(.long q6), (.ref a0)])
  have F20 : Exa Z h18 a0 "com/example/install_warden/installwarden/zip/ZipArchive$Entry" := (F16.wr W18)
  have F21 : Fld Z h18 a0 "com/example/install_warden/installwarden/zip/ZipArchive$Entry" "localHeaderOffset" "J" (.long (0 : Int64)) := (((((hp7.other W2 (Or.inr (slot_ne (Or.inr (hw _ (List.mem_of_getElem? (i := 39) rfl))) (Or.inr (hw _ (List.mem_of_getElem? (i := 29) rfl))) (by decide) (t := .long) (t' := (.object "java/lang/String")) (by decide) (by decide)))).other W6 (Or.inr (slot_ne (Or.inr (hw _ (List.mem_of_getElem? (i := 39) rfl))) (Or.inr (hw _ (List.mem_of_getElem? (i := 31) rfl))) (by decide) (t := .long) (t' := .int) (by decide) (by decide)))).other W10 (Or.inr (slot_ne (Or.inr (hw _ (List.mem_of_getElem? (i := 39) rfl))) (Or.inr (hw _ (List.mem_of_getElem? (i := 33) rfl))) (by decide) (t := .long) (t' := .int) (by decide) (by decide)))).other W14 (Or.inr (slot_ne (Or.inr (hw _ (List.mem_of_getElem? (i := 39) rfl))) (Or.inr (hw _ (List.mem_of_getElem? (i := 35) rfl))) (by decide) (t := .long) (t' := .long) (by decide) (by decide)))).other W18 (Or.inr (slot_ne (Or.inr (hw _ (List.mem_of_getElem? (i := 39) rfl))) (Or.inr (hw _ (List.mem_of_getElem? (i := 37) rfl))) (by decide) (t := .long) (t' := .long) (by decide) (by decide))))
  obtain ⟨T22, h22, X22, eT22, W22, st22⟩ := putF X18 hx hZ hown (host := "") (Or.inl (hw _ (List.mem_of_getElem? (i := 38) rfl))) Via.refl eT18 F21 F20 (Or.inr ⟨(hw _ (List.mem_of_getElem? (i := 39) rfl)), rfl, hnm⟩) (hw _ (List.mem_of_getElem? (i := 7) rfl)) (ty := .long) (by decide) rfl rfl (g := (mkF m 34 #[.val (.ref a0), .val (.ref a1), .val (.int p2), .val (.int p3), .val (.long q4), .second, .val (.long q5), .second, .val (.long q6), .second, .val (.long q7), .second] [(.long q6), (.ref a0)])) rfl rfl (hb hby d2_34)
  have K23 : Keep h0 h22 [a0] := K19.wr W22 (Or.inl (List.mem_of_getElem? (i := 0) rfl))
  have Fw22 : Fld Z h22 a0 "com/example/install_warden/installwarden/zip/ZipArchive$Entry" "localHeaderOffset" "J" (.long q6) := F21.same W22
  have N22 := Fr.snoc X22 N18 g_a0
  refine ogo st22 ?_
  show OWay p e below G T22 (mkF m 37 #[.val (.ref a0), .val (.ref a1), .val (.int p2), .val (.int p3), .val (.long q4), .second, .val (.long q5), .second, .val (.long q6), .second, .val (.long q7), .second] [])
  refine ogo (fun _ z_ => XS.aloadN X22.here hx rfl (hb hby d2_37) rfl rfl z_) ?_
  show OWay p e below G T22 (mkF m 38 #[.val (.ref a0), .val (.ref a1), .val (.int p2), .val (.int p3), .val (.long q4), .second, .val (.long q5), .second, .val (.long q6), .second, .val (.long q7), .second] [(.ref a0)])
  refine ogo (fun _ z_ => XS.lload X22.here hx rfl (hb hby d2_38) rfl z_) ?_
  show OWay p e below G T22 (mkF m 40 #[.val (.ref a0), .val (.ref a1), .val (.int p2), .val (.int p3), .val (.long q4), .second, .val (.long q5), .second, .val (.long q6), .second, .val (.long q7), .second] [(.long q7), (.ref a0)])
  have F24 : Exa Z h22 a0 "com/example/install_warden/installwarden/zip/ZipArchive$Entry" := (F20.wr W22)
  have F25 : Fld Z h22 a0 "com/example/install_warden/installwarden/zip/ZipArchive$Entry" "dataOffset" "J" (.long (0 : Int64)) := ((((((hp8.other W2 (Or.inr (slot_ne (Or.inr (hw _ (List.mem_of_getElem? (i := 41) rfl))) (Or.inr (hw _ (List.mem_of_getElem? (i := 29) rfl))) (by decide) (t := .long) (t' := (.object "java/lang/String")) (by decide) (by decide)))).other W6 (Or.inr (slot_ne (Or.inr (hw _ (List.mem_of_getElem? (i := 41) rfl))) (Or.inr (hw _ (List.mem_of_getElem? (i := 31) rfl))) (by decide) (t := .long) (t' := .int) (by decide) (by decide)))).other W10 (Or.inr (slot_ne (Or.inr (hw _ (List.mem_of_getElem? (i := 41) rfl))) (Or.inr (hw _ (List.mem_of_getElem? (i := 33) rfl))) (by decide) (t := .long) (t' := .int) (by decide) (by decide)))).other W14 (Or.inr (slot_ne (Or.inr (hw _ (List.mem_of_getElem? (i := 41) rfl))) (Or.inr (hw _ (List.mem_of_getElem? (i := 35) rfl))) (by decide) (t := .long) (t' := .long) (by decide) (by decide)))).other W18 (Or.inr (slot_ne (Or.inr (hw _ (List.mem_of_getElem? (i := 41) rfl))) (Or.inr (hw _ (List.mem_of_getElem? (i := 37) rfl))) (by decide) (t := .long) (t' := .long) (by decide) (by decide)))).other W22 (Or.inr (slot_ne (Or.inr (hw _ (List.mem_of_getElem? (i := 41) rfl))) (Or.inr (hw _ (List.mem_of_getElem? (i := 39) rfl))) (by decide) (t := .long) (t' := .long) (by decide) (by decide))))
  obtain ⟨T26, h26, X26, eT26, W26, st26⟩ := putF X22 hx hZ hown (host := "") (Or.inl (hw _ (List.mem_of_getElem? (i := 40) rfl))) Via.refl eT22 F25 F24 (Or.inr ⟨(hw _ (List.mem_of_getElem? (i := 41) rfl)), rfl, hnm⟩) (hw _ (List.mem_of_getElem? (i := 7) rfl)) (ty := .long) (by decide) rfl rfl (g := (mkF m 40 #[.val (.ref a0), .val (.ref a1), .val (.int p2), .val (.int p3), .val (.long q4), .second, .val (.long q5), .second, .val (.long q6), .second, .val (.long q7), .second] [(.long q7), (.ref a0)])) rfl rfl (hb hby d2_40)
  have K27 : Keep h0 h26 [a0] := K23.wr W26 (Or.inl (List.mem_of_getElem? (i := 0) rfl))
  have Fw26 : Fld Z h26 a0 "com/example/install_warden/installwarden/zip/ZipArchive$Entry" "dataOffset" "J" (.long q7) := F25.same W26
  have N26 := Fr.snoc X26 N22 g_a0
  refine ogo st26 ?_
  show OWay p e below G T26 (mkF m 43 #[.val (.ref a0), .val (.ref a1), .val (.int p2), .val (.int p3), .val (.long q4), .second, .val (.long q5), .second, .val (.long q6), .second, .val (.long q7), .second] [])
  subst hG
  refine wRetV X26 hx hret hlk (hb hby d2_43) (by decide) (by decide) eT26 ?_
  exact ⟨rfl, N26, K27, ((((((Fw2.other W6 (Or.inr (slot_ne (Or.inr (hw _ (List.mem_of_getElem? (i := 29) rfl))) (Or.inr (hw _ (List.mem_of_getElem? (i := 31) rfl))) (by decide) (t := (.object "java/lang/String")) (t' := .int) (by decide) (by decide)))).other W10 (Or.inr (slot_ne (Or.inr (hw _ (List.mem_of_getElem? (i := 29) rfl))) (Or.inr (hw _ (List.mem_of_getElem? (i := 33) rfl))) (by decide) (t := (.object "java/lang/String")) (t' := .int) (by decide) (by decide)))).other W14 (Or.inr (slot_ne (Or.inr (hw _ (List.mem_of_getElem? (i := 29) rfl))) (Or.inr (hw _ (List.mem_of_getElem? (i := 35) rfl))) (by decide) (t := (.object "java/lang/String")) (t' := .long) (by decide) (by decide)))).other W18 (Or.inr (slot_ne (Or.inr (hw _ (List.mem_of_getElem? (i := 29) rfl))) (Or.inr (hw _ (List.mem_of_getElem? (i := 37) rfl))) (by decide) (t := (.object "java/lang/String")) (t' := .long) (by decide) (by decide)))).other W22 (Or.inr (slot_ne (Or.inr (hw _ (List.mem_of_getElem? (i := 29) rfl))) (Or.inr (hw _ (List.mem_of_getElem? (i := 39) rfl))) (by decide) (t := (.object "java/lang/String")) (t' := .long) (by decide) (by decide)))).other W26 (Or.inr (slot_ne (Or.inr (hw _ (List.mem_of_getElem? (i := 29) rfl))) (Or.inr (hw _ (List.mem_of_getElem? (i := 41) rfl))) (by decide) (t := (.object "java/lang/String")) (t' := .long) (by decide) (by decide)))), (((((Fw6.other W10 (Or.inr (slot_ne (Or.inr (hw _ (List.mem_of_getElem? (i := 31) rfl))) (Or.inr (hw _ (List.mem_of_getElem? (i := 33) rfl))) (by decide) (t := .int) (t' := .int) (by decide) (by decide)))).other W14 (Or.inr (slot_ne (Or.inr (hw _ (List.mem_of_getElem? (i := 31) rfl))) (Or.inr (hw _ (List.mem_of_getElem? (i := 35) rfl))) (by decide) (t := .int) (t' := .long) (by decide) (by decide)))).other W18 (Or.inr (slot_ne (Or.inr (hw _ (List.mem_of_getElem? (i := 31) rfl))) (Or.inr (hw _ (List.mem_of_getElem? (i := 37) rfl))) (by decide) (t := .int) (t' := .long) (by decide) (by decide)))).other W22 (Or.inr (slot_ne (Or.inr (hw _ (List.mem_of_getElem? (i := 31) rfl))) (Or.inr (hw _ (List.mem_of_getElem? (i := 39) rfl))) (by decide) (t := .int) (t' := .long) (by decide) (by decide)))).other W26 (Or.inr (slot_ne (Or.inr (hw _ (List.mem_of_getElem? (i := 31) rfl))) (Or.inr (hw _ (List.mem_of_getElem? (i := 41) rfl))) (by decide) (t := .int) (t' := .long) (by decide) (by decide)))), ((((Fw10.other W14 (Or.inr (slot_ne (Or.inr (hw _ (List.mem_of_getElem? (i := 33) rfl))) (Or.inr (hw _ (List.mem_of_getElem? (i := 35) rfl))) (by decide) (t := .int) (t' := .long) (by decide) (by decide)))).other W18 (Or.inr (slot_ne (Or.inr (hw _ (List.mem_of_getElem? (i := 33) rfl))) (Or.inr (hw _ (List.mem_of_getElem? (i := 37) rfl))) (by decide) (t := .int) (t' := .long) (by decide) (by decide)))).other W22 (Or.inr (slot_ne (Or.inr (hw _ (List.mem_of_getElem? (i := 33) rfl))) (Or.inr (hw _ (List.mem_of_getElem? (i := 39) rfl))) (by decide) (t := .int) (t' := .long) (by decide) (by decide)))).other W26 (Or.inr (slot_ne (Or.inr (hw _ (List.mem_of_getElem? (i := 33) rfl))) (Or.inr (hw _ (List.mem_of_getElem? (i := 41) rfl))) (by decide) (t := .int) (t' := .long) (by decide) (by decide)))), (((Fw14.other W18 (Or.inr (slot_ne (Or.inr (hw _ (List.mem_of_getElem? (i := 35) rfl))) (Or.inr (hw _ (List.mem_of_getElem? (i := 37) rfl))) (by decide) (t := .long) (t' := .long) (by decide) (by decide)))).other W22 (Or.inr (slot_ne (Or.inr (hw _ (List.mem_of_getElem? (i := 35) rfl))) (Or.inr (hw _ (List.mem_of_getElem? (i := 39) rfl))) (by decide) (t := .long) (t' := .long) (by decide) (by decide)))).other W26 (Or.inr (slot_ne (Or.inr (hw _ (List.mem_of_getElem? (i := 35) rfl))) (Or.inr (hw _ (List.mem_of_getElem? (i := 41) rfl))) (by decide) (t := .long) (t' := .long) (by decide) (by decide)))), ((Fw18.other W22 (Or.inr (slot_ne (Or.inr (hw _ (List.mem_of_getElem? (i := 37) rfl))) (Or.inr (hw _ (List.mem_of_getElem? (i := 39) rfl))) (by decide) (t := .long) (t' := .long) (by decide) (by decide)))).other W26 (Or.inr (slot_ne (Or.inr (hw _ (List.mem_of_getElem? (i := 37) rfl))) (Or.inr (hw _ (List.mem_of_getElem? (i := 41) rfl))) (by decide) (t := .long) (t' := .long) (by decide) (by decide)))), (Fw22.other W26 (Or.inr (slot_ne (Or.inr (hw _ (List.mem_of_getElem? (i := 39) rfl))) (Or.inr (hw _ (List.mem_of_getElem? (i := 41) rfl))) (by decide) (t := .long) (t' := .long) (by decide) (by decide)))), Fw26⟩
theorem d5_0 : decode prog_99_method_2_code 0 = .ok (.aload_n 0, 1) := by decide +kernel
theorem d5_1 : decode prog_99_method_2_code 1 = .ok (.getfield 15, 3) := by decide +kernel
theorem d5_4 : decode prog_99_method_2_code 4 = .ok (.ifCond .ne 19, 3) := by decide +kernel
theorem d5_7 : decode prog_99_method_2_code 7 = .ok (.aload_n 0, 1) := by decide +kernel
theorem d5_8 : decode prog_99_method_2_code 8 = .ok (.getfield 32, 3) := by decide +kernel
theorem d5_11 : decode prog_99_method_2_code 11 = .ok (.iload_n 1, 1) := by decide +kernel
theorem d5_12 : decode prog_99_method_2_code 12 = .ok (.i2l, 1) := by decide +kernel
theorem d5_13 : decode prog_99_method_2_code 13 = .ok (.lrem, 1) := by decide +kernel
theorem d5_14 : decode prog_99_method_2_code 14 = .ok (.lconst 0, 1) := by decide +kernel
theorem d5_15 : decode prog_99_method_2_code 15 = .ok (.lcmp, 1) := by decide +kernel
theorem d5_16 : decode prog_99_method_2_code 16 = .ok (.ifCond .ne 7, 3) := by decide +kernel
theorem d5_19 : decode prog_99_method_2_code 19 = .ok (.iconst 1, 1) := by decide +kernel
theorem d5_20 : decode prog_99_method_2_code 20 = .ok (.goto 4, 3) := by decide +kernel
theorem d5_24 : decode prog_99_method_2_code 24 = .ok (.ireturn, 1) := by decide +kernel
theorem d5_23 : decode prog_99_method_2_code 23 = .ok (.iconst 0, 1) := by decide +kernel
def isa_b_rm : Room := { frames := 0, cells := 0, slots := 0, locals := 0 }
def isa_b_Q (Z : State) (a0 : Addr) (p1 : Int32) (w1 : Int32) (w2 : Int64) (h0 : Heap) (n0 : Nat) (v : Option Value) (h : Heap) (L : List Loc) : Prop := (v = some (.int (isa w1 w2 p1))) ∧ (Fr n0 L) ∧ (h = h0)
theorem isa_b_ef (m : MethodId) (a0 : Addr) (p1 : Int32) : entryFrame m #[(.ref a0), (.int p1)] 2 = mkF m 0 #[.val (.ref a0), .val (.int p1)] [] := by first | (simp [entryFrame, mkF, argsToLocals, Value.category]; done) | rfl
set_option maxRecDepth 65536 in
set_option maxHeartbeats 40000000 in
theorem isa_b_c (l : Launch) (Z : State) (az : Array Value) (hw : ∀ d ∈ tables_1, d.before az Z = true) (ws : List Jvm.Cond) (a0 : Addr) (p1 : Int32) (w1 : Int32) (w2 : Int64) (h0 : Heap) (n0 : Nat) (Z0 : n0 ≤ h0.size) (hp0 : Fld Z h0 a0 "com/example/install_warden/installwarden/zip/ZipArchive$Entry" "method" "I" (.int w1)) (hp1 : Fld Z h0 a0 "com/example/install_warden/installwarden/zip/ZipArchive$Entry" "dataOffset" "J" (.long w2)) (hnz : (p1.toInt64) ≠ 0) :
    OCon l (⟨"com/example/install_warden/installwarden/zip/ZipArchive$Entry", "isStoredAligned", "(I)Z"⟩ : MethodName) prog_99_method_2_code 2 (some .boolean) ws isa_b_rm Z #[(.ref a0), (.int p1)] h0 (isa_b_Q Z a0 p1 w1 w2 h0 n0) := by
  refine ocon (plainFor_of_name pn_com_example_install_warden_installwarden_zip_ZipArchive_Entry) ?_
  intro p e s m below meth c s₁ hx hby hml hown hnm hret hlk hZ X0 eh0
  have N0 := Fr.nil n0
  have K0 := Keep.refl h0 []
  refine ogoE (isa_b_ef m a0 p1) ?_
  generalize hG : (OEnd s below (isa_b_Q Z a0 p1 w1 w2 h0 n0) isa_b_rm.cells isa_b_rm.slots) = G
  show OWay p e below G s₁ (mkF m 0 #[.val (.ref a0), .val (.int p1)] [])
  refine ogo (fun _ z_ => XS.aloadN X0.here hx rfl (hb hby d5_0) rfl rfl z_) ?_
  show OWay p e below G s₁ (mkF m 1 #[.val (.ref a0), .val (.int p1)] [(.ref a0)])
  obtain ⟨T1, X1, eT1, st1⟩ := getF X0 hx hZ hown (host := "") (Or.inl (hw _ (List.mem_of_getElem? (i := 30) rfl))) Via.refl eh0 hp0 (g := (mkF m 1 #[.val (.ref a0), .val (.int p1)] [(.ref a0)])) rfl rfl (hb hby d5_1)
  refine ogo st1 ?_
  show OWay p e below G T1 (mkF m 4 #[.val (.ref a0), .val (.int p1)] [(.int w1)])
  by_cases c4 : w1 = (0 : Int32)
  · refine ogo (fun _ z_ => XS.ifNo X1.here hx rfl (hb hby d5_4) rfl ((if0 _ _).trans (teq c4).2) z_) ?_
    show OWay p e below G T1 (mkF m 7 #[.val (.ref a0), .val (.int p1)] [])
    refine ogo (fun _ z_ => XS.aloadN X1.here hx rfl (hb hby d5_7) rfl rfl z_) ?_
    show OWay p e below G T1 (mkF m 8 #[.val (.ref a0), .val (.int p1)] [(.ref a0)])
    obtain ⟨T2, X2, eT2, st2⟩ := getF X1 hx hZ hown (host := "") (Or.inl (hw _ (List.mem_of_getElem? (i := 40) rfl))) Via.refl eT1 hp1 (g := (mkF m 8 #[.val (.ref a0), .val (.int p1)] [(.ref a0)])) rfl rfl (hb hby d5_8)
    refine ogo st2 ?_
    show OWay p e below G T2 (mkF m 11 #[.val (.ref a0), .val (.int p1)] [(.long w2)])
    refine ogo (fun _ z_ => XS.iloadN X2.here hx rfl (hb hby d5_11) rfl z_) ?_
    show OWay p e below G T2 (mkF m 12 #[.val (.ref a0), .val (.int p1)] [(.int p1), (.long w2)])
    refine ogo (fun _ z_ => XS.i2l X2.here hx rfl (hb hby d5_12) rfl z_) ?_
    show OWay p e below G T2 (mkF m 13 #[.val (.ref a0), .val (.int p1)] [(.long (p1.toInt64)), (.long w2)])
    refine ogo (fun _ z_ => XS.lrem X2.here hx rfl (hb hby d5_13) rfl hnz z_) ?_
    show OWay p e below G T2 (mkF m 14 #[.val (.ref a0), .val (.int p1)] [(.long (w2 - (w2 / (p1.toInt64)) * (p1.toInt64)))])
    refine ogo (fun _ z_ => XS.lconst X2.here hx rfl (hb hby d5_14) z_) ?_
    show OWay p e below G T2 (mkF m 15 #[.val (.ref a0), .val (.int p1)] [(.long (0 : Int64)), (.long (w2 - (w2 / (p1.toInt64)) * (p1.toInt64)))])
    refine ogo (fun _ z_ => XS.lcmp X2.here hx rfl (hb hby d5_15) rfl z_) ?_
    show OWay p e below G T2 (mkF m 16 #[.val (.ref a0), .val (.int p1)] [(.int (lcmpW (w2 - (w2 / (p1.toInt64)) * (p1.toInt64)) (0 : Int64)))])
    by_cases c16 : (w2 - (w2 / (p1.toInt64)) * (p1.toInt64)) = (0 : Int64)
    · refine ogo (fun _ z_ => XS.ifNo X2.here hx rfl (hb hby d5_16) rfl ((if0 _ _).trans (teq ((lw_eq _ _).mpr c16)).2) z_) ?_
      show OWay p e below G T2 (mkF m 19 #[.val (.ref a0), .val (.int p1)] [])
      refine ogo (fun _ z_ => XS.iconst X2.here hx rfl (hb hby d5_19) z_) ?_
      show OWay p e below G T2 (mkF m 20 #[.val (.ref a0), .val (.int p1)] [(.int (1 : Int32))])
      refine ogo (fun _ z_ => XS.goto X2.here hx rfl (pc0 := 20) (pc' := 24) rfl (hb hby d5_20) (by decide) (by decide) z_) ?_
      show OWay p e below G T2 (mkF m 24 #[.val (.ref a0), .val (.int p1)] [(.int (1 : Int32))])
      subst hG
      refine wRetN X2 hx (t := .boolean) hret hlk (by simp) (hb hby d5_24) (by decide) (by decide) eT2 ?_
      exact ⟨(congrArg some (congrArg Value.int (show _ = isa w1 w2 p1 from by unfold isa; rw [if_pos c4, if_pos c16]; rfl))), N0, rfl⟩
    · refine ogo (fun _ z_ => XS.ifYes X2.here hx rfl (pc0 := 16) (pc' := 23) rfl (hb hby d5_16) rfl ((if0 _ _).trans (feq (fun q => c16 ((lw_eq _ _).mp q))).2) (by decide) (by decide) z_) ?_
      show OWay p e below G T2 (mkF m 23 #[.val (.ref a0), .val (.int p1)] [])
      refine ogo (fun _ z_ => XS.iconst X2.here hx rfl (hb hby d5_23) z_) ?_
      show OWay p e below G T2 (mkF m 24 #[.val (.ref a0), .val (.int p1)] [(.int (0 : Int32))])
      subst hG
      refine wRetN X2 hx (t := .boolean) hret hlk (by simp) (hb hby d5_24) (by decide) (by decide) eT2 ?_
      exact ⟨(congrArg some (congrArg Value.int (show _ = isa w1 w2 p1 from by unfold isa; rw [if_pos c4, if_neg c16]; rfl))), N0, rfl⟩
  · refine ogo (fun _ z_ => XS.ifYes X1.here hx rfl (pc0 := 4) (pc' := 23) rfl (hb hby d5_4) rfl ((if0 _ _).trans (feq c4).2) (by decide) (by decide) z_) ?_
    show OWay p e below G T1 (mkF m 23 #[.val (.ref a0), .val (.int p1)] [])
    refine ogo (fun _ z_ => XS.iconst X1.here hx rfl (hb hby d5_23) z_) ?_
    show OWay p e below G T1 (mkF m 24 #[.val (.ref a0), .val (.int p1)] [(.int (0 : Int32))])
    subst hG
    refine wRetN X1 hx (t := .boolean) hret hlk (by simp) (hb hby d5_24) (by decide) (by decide) eT1 ?_
    exact ⟨(congrArg some (congrArg Value.int (show _ = isa w1 w2 p1 from by unfold isa; rw [if_neg c4]; rfl))), N0, rfl⟩
theorem pn_com_example_install_warden_installwarden_zip_EntryIsStoredAlignedPinLaw : plainName "com/example/install_warden/installwarden/zip/EntryIsStoredAlignedPinLaw" = true := by first | (simp [plainName, overriddenIn]; done) | decide +kernel
theorem pd__II_I : parseMethodDescriptor "(II)I" = some ⟨[.int, .int], some .int⟩ := by decide +kernel
theorem own_wS {Z : State} {az : Array Value} (hw : ∀ d ∈ tables_1, d.before az Z = true) : ∀ a ∈ Bundle.stringAtoms, a.before az Z = true := by
  intro a ha
  simp only [Bundle.stringAtoms, List.mem_cons, List.not_mem_nil, or_false] at ha
  rcases ha with rfl | rfl | rfl | rfl | rfl | rfl | rfl
  · exact (hw _ (List.mem_of_getElem? (i := 10) rfl))
  · exact (hw _ (List.mem_of_getElem? (i := 11) rfl))
  · exact (hw _ (List.mem_of_getElem? (i := 12) rfl))
  · exact (hw _ (List.mem_of_getElem? (i := 13) rfl))
  · exact (hw _ (List.mem_of_getElem? (i := 14) rfl))
  · exact (hw _ (List.mem_of_getElem? (i := 15) rfl))
  · exact (hw _ (List.mem_of_getElem? (i := 16) rfl))
theorem pd__Ljava_lang_String_IIJJJJ_V : parseMethodDescriptor "(Ljava/lang/String;IIJJJJ)V" = some ⟨[(.object "java/lang/String"), .int, .int, .long, .long, .long, .long], none⟩ := by decide +kernel
theorem pd__I_Z : parseMethodDescriptor "(I)Z" = some ⟨[.int], some .boolean⟩ := by decide +kernel
def law_Q (Z : State) (p0 : Int32) (p1 : Int32) (p2 : Int32) (q3 : Int64) (p4 : Int32) (h0 : Heap) (n0 : Nat) (v : Option Value) (h : Heap) (L : List Loc) : Prop := v = some (.int 1) ∧ Fr n0 L
theorem law_ef (m : MethodId) (p0 : Int32) (p1 : Int32) (p2 : Int32) (q3 : Int64) (p4 : Int32) : entryFrame m #[(.int p0), (.int p1), (.int p2), (.long q3), (.int p4)] maxLocals = mkF m 0 #[.val (.int p0), .val (.int p1), .val (.int p2), .val (.long q3), .second, .val (.int p4), .unset, .unset, .unset, .unset, .unset, .unset, .unset, .unset, .unset] [] := by first | (simp [entryFrame, mkF, argsToLocals, Value.category, maxLocals]; done) | rfl
set_option maxRecDepth 65536 in
set_option maxHeartbeats 40000000 in
theorem law_c (l : Launch) (Z : State) (az : Array Value) (hw : ∀ d ∈ tables_1, d.before az Z = true) (ws : List Jvm.Cond) (p0 : Int32) (p1 : Int32) (p2 : Int32) (q3 : Int64) (p4 : Int32) (h0 : Heap) (n0 : Nat) (Z0 : n0 ≤ h0.size) :
    OConW l x code maxLocals ret ws room_1 Z #[(.int p0), (.int p1), (.int p2), (.long q3), (.int p4)] h0 (law_Q Z p0 p1 p2 q3 p4 h0 n0) := by
  refine oconW (plainFor_of_name pn_com_example_install_warden_installwarden_zip_EntryIsStoredAlignedPinLaw) ?_
  intro p e s m below meth c s₁ hx hby hml hown hnm hret hlk hZ X0 eh0 hh0 hU0
  have hS0 : s.Since s.vm s.heap.size := (State.WarmedH.refl s).since _
  have hk0 : s.heap.size ≤ h0.size := Nat.le_of_eq (by rw [hh0])
  have N0 := Fr.nil n0
  have K0 := Keep.refl h0 []
  refine ogoE (law_ef m p0 p1 p2 q3 p4) ?_
  generalize hG : (OEndW s below (law_Q Z p0 p1 p2 q3 p4 h0 n0) room_1.cells room_1.slots) = G
  show OWay p e below G s₁ (mkF m 0 #[.val (.int p0), .val (.int p1), .val (.int p2), .val (.long q3), .second, .val (.int p4), .unset, .unset, .unset, .unset, .unset, .unset, .unset, .unset, .unset] [])
  refine ogo (fun _ z_ => XS.iconst X0.here hx rfl (hb hby at_0) z_) ?_
  show OWay p e below G s₁ (mkF m 1 #[.val (.int p0), .val (.int p1), .val (.int p2), .val (.long q3), .second, .val (.int p4), .unset, .unset, .unset, .unset, .unset, .unset, .unset, .unset, .unset] [(.int (1 : Int32))])
  refine ogo (fun _ z_ => XS.iloadN X0.here hx rfl (hb hby at_1) rfl z_) ?_
  show OWay p e below G s₁ (mkF m 2 #[.val (.int p0), .val (.int p1), .val (.int p2), .val (.long q3), .second, .val (.int p4), .unset, .unset, .unset, .unset, .unset, .unset, .unset, .unset, .unset] [(.int p2), (.int (1 : Int32))])
  refine ogo (fun _ z_ => X0.ldcInt hx hown (mvT hZ (hw _ (List.mem_of_getElem? (i := 0) rfl))) (g := (mkF m 2 #[.val (.int p0), .val (.int p1), .val (.int p2), .val (.long q3), .second, .val (.int p4), .unset, .unset, .unset, .unset, .unset, .unset, .unset, .unset, .unset] [(.int p2), (.int (1 : Int32))])) rfl (hb hby at_2) _ z_) ?_
  show OWay p e below G s₁ (mkF m 4 #[.val (.int p0), .val (.int p1), .val (.int p2), .val (.long q3), .second, .val (.int p4), .unset, .unset, .unset, .unset, .unset, .unset, .unset, .unset, .unset] [(.int (2147483647 : Int32)), (.int p2), (.int (1 : Int32))])
  refine ogo (fun _ z_ => XS.iand X0.here hx rfl (hb hby at_4) rfl z_) ?_
  show OWay p e below G s₁ (mkF m 5 #[.val (.int p0), .val (.int p1), .val (.int p2), .val (.long q3), .second, .val (.int p4), .unset, .unset, .unset, .unset, .unset, .unset, .unset, .unset, .unset] [(.int (p2 &&& (2147483647 : Int32))), (.int (1 : Int32))])
  obtain ⟨_, T1, L1, X1, hQ1, st1⟩ := wStatic X0 hx hZ (y := (⟨"java/lang/Math", "max", "(II)I"⟩ : MethodName)) hown (hw _ (List.mem_of_getElem? (i := 1) rfl)) (hw _ (List.mem_of_getElem? (i := 2) rfl)) (hw _ (List.mem_of_getElem? (i := 3) rfl)) (hw _ (List.mem_of_getElem? (i := 4) rfl)) (by decide) (imax_b_c l Z az hw [] (1 : Int32) (p2 &&& (2147483647 : Int32)) h0 n0 Z0) 0 (by decide) (by decide) (g := (mkF m 5 #[.val (.int p0), .val (.int p1), .val (.int p2), .val (.long q3), .second, .val (.int p4), .unset, .unset, .unset, .unset, .unset, .unset, .unset, .unset, .unset] [(.int (p2 &&& (2147483647 : Int32))), (.int (1 : Int32))])) rfl (by rw [hml]; rfl) (argsL := [(.int (1 : Int32)), (.int (p2 &&& (2147483647 : Int32)))]) (rest := []) (lenOf pd__II_I rfl) rfl (by show 2 * 0 + _ ≤ _; exact Nat.le_of_eq rfl) (hb hby at_5) rfl eh0 (by decide) (by decide)
  obtain ⟨rfl, N1q, eq1⟩ := hQ1
  have N1 := Fr.app N0 N1q
  refine ogo st1 ?_
  show OWay p e below G T1 (mkF m 8 #[.val (.int p0), .val (.int p1), .val (.int p2), .val (.long q3), .second, .val (.int p4), .unset, .unset, .unset, .unset, .unset, .unset, .unset, .unset, .unset] [(.int (imax (1 : Int32) (p2 &&& (2147483647 : Int32))))])
  suffices Jv6_2 : ∀ v6_2 : Int32, v6_2 = (imax (1 : Int32) (p2 &&& (2147483647 : Int32))) → OWay p e below G T1 (mkF m 8 #[.val (.int p0), .val (.int p1), .val (.int p2), .val (.long q3), .second, .val (.int p4), .unset, .unset, .unset, .unset, .unset, .unset, .unset, .unset, .unset] [(.int v6_2)]) from Jv6_2 _ rfl
  intro v6_2 hv6_2
  refine ogo (fun _ z_ => XS.istore X1.here hx rfl (hb hby at_8) rfl (l' := #[.val (.int p0), .val (.int p1), .val (.int p2), .val (.long q3), .second, .val (.int p4), .val (.int v6_2), .unset, .unset, .unset, .unset, .unset, .unset, .unset, .unset]) rfl z_) ?_
  show OWay p e below G T1 (mkF m 10 #[.val (.int p0), .val (.int p1), .val (.int p2), .val (.long q3), .second, .val (.int p4), .val (.int v6_2), .unset, .unset, .unset, .unset, .unset, .unset, .unset, .unset] [])
  have hA := own_al p2 v6_2 hv6_2
  refine ogo (fun _ z_ => XS.lloadN X1.here hx rfl (hb hby at_10) rfl z_) ?_
  show OWay p e below G T1 (mkF m 11 #[.val (.int p0), .val (.int p1), .val (.int p2), .val (.long q3), .second, .val (.int p4), .val (.int v6_2), .unset, .unset, .unset, .unset, .unset, .unset, .unset, .unset] [(.long q3)])
  refine ogo (fun _ z_ => X1.ldc2Long hx hown (mvT hZ (hw _ (List.mem_of_getElem? (i := 5) rfl))) (g := (mkF m 11 #[.val (.int p0), .val (.int p1), .val (.int p2), .val (.long q3), .second, .val (.int p4), .val (.int v6_2), .unset, .unset, .unset, .unset, .unset, .unset, .unset, .unset] [(.long q3)])) rfl (hb hby at_11) _ z_) ?_
  show OWay p e below G T1 (mkF m 14 #[.val (.int p0), .val (.int p1), .val (.int p2), .val (.long q3), .second, .val (.int p4), .val (.int v6_2), .unset, .unset, .unset, .unset, .unset, .unset, .unset, .unset] [(.long (4294967295 : Int64)), (.long q3)])
  refine ogo (fun _ z_ => XS.land X1.here hx rfl (hb hby at_14) rfl z_) ?_
  show OWay p e below G T1 (mkF m 15 #[.val (.int p0), .val (.int p1), .val (.int p2), .val (.long q3), .second, .val (.int p4), .val (.int v6_2), .unset, .unset, .unset, .unset, .unset, .unset, .unset, .unset] [(.long (q3 &&& (4294967295 : Int64)))])
  suffices Jv7_3 : ∀ v7_3 : Int64, v7_3 = (q3 &&& (4294967295 : Int64)) → OWay p e below G T1 (mkF m 15 #[.val (.int p0), .val (.int p1), .val (.int p2), .val (.long q3), .second, .val (.int p4), .val (.int v6_2), .unset, .unset, .unset, .unset, .unset, .unset, .unset, .unset] [(.long v7_3)]) from Jv7_3 _ rfl
  intro v7_3 hv7_3
  refine ogo (fun _ z_ => XS.lstore X1.here hx rfl (hb hby at_15) rfl (l' := #[.val (.int p0), .val (.int p1), .val (.int p2), .val (.long q3), .second, .val (.int p4), .val (.int v6_2), .val (.long v7_3), .second, .unset, .unset, .unset, .unset, .unset, .unset]) rfl z_) ?_
  show OWay p e below G T1 (mkF m 17 #[.val (.int p0), .val (.int p1), .val (.int p2), .val (.long q3), .second, .val (.int p4), .val (.int v6_2), .val (.long v7_3), .second, .unset, .unset, .unset, .unset, .unset, .unset] [])
  refine ogo (fun _ z_ => XS.iloadN X1.here hx rfl (hb hby at_17) rfl z_) ?_
  show OWay p e below G T1 (mkF m 18 #[.val (.int p0), .val (.int p1), .val (.int p2), .val (.long q3), .second, .val (.int p4), .val (.int v6_2), .val (.long v7_3), .second, .unset, .unset, .unset, .unset, .unset, .unset] [(.int p1)])
  refine ogo (fun _ z_ => XS.iconst X1.here hx rfl (hb hby at_18) z_) ?_
  show OWay p e below G T1 (mkF m 19 #[.val (.int p0), .val (.int p1), .val (.int p2), .val (.long q3), .second, .val (.int p4), .val (.int v6_2), .val (.long v7_3), .second, .unset, .unset, .unset, .unset, .unset, .unset] [(.int (2 : Int32)), (.int p1)])
  refine ogo (fun _ z_ => XS.iand X1.here hx rfl (hb hby at_19) rfl z_) ?_
  show OWay p e below G T1 (mkF m 20 #[.val (.int p0), .val (.int p1), .val (.int p2), .val (.long q3), .second, .val (.int p4), .val (.int v6_2), .val (.long v7_3), .second, .unset, .unset, .unset, .unset, .unset, .unset] [(.int (p1 &&& (2 : Int32)))])
  have J5 : ∀ (us0_4 : Int32), us0_4 = (if (p1 &&& (2 : Int32)) = (0 : Int32) then ((p4 &&& (2147483647 : Int32)) % v6_2) else (0 : Int32)) → OWay p e below G T1 (mkF m 35 #[.val (.int p0), .val (.int p1), .val (.int p2), .val (.long q3), .second, .val (.int p4), .val (.int v6_2), .val (.long v7_3), .second, .unset, .unset, .unset, .unset, .unset, .unset] [(.int us0_4)]) := by
    intro us0_4 hus0_4
    refine ogo (fun _ z_ => XS.istore X1.here hx rfl (hb hby at_35) rfl (l' := #[.val (.int p0), .val (.int p1), .val (.int p2), .val (.long q3), .second, .val (.int p4), .val (.int v6_2), .val (.long v7_3), .second, .val (.int us0_4), .unset, .unset, .unset, .unset, .unset]) rfl z_) ?_
    show OWay p e below G T1 (mkF m 37 #[.val (.int p0), .val (.int p1), .val (.int p2), .val (.long q3), .second, .val (.int p4), .val (.int v6_2), .val (.long v7_3), .second, .val (.int us0_4), .unset, .unset, .unset, .unset, .unset] [])
    refine ogo (fun _ z_ => XS.iloadN X1.here hx rfl (hb hby at_37) rfl z_) ?_
    show OWay p e below G T1 (mkF m 38 #[.val (.int p0), .val (.int p1), .val (.int p2), .val (.long q3), .second, .val (.int p4), .val (.int v6_2), .val (.long v7_3), .second, .val (.int us0_4), .unset, .unset, .unset, .unset, .unset] [(.int p1)])
    refine ogo (fun _ z_ => XS.iconst X1.here hx rfl (hb hby at_38) z_) ?_
    show OWay p e below G T1 (mkF m 39 #[.val (.int p0), .val (.int p1), .val (.int p2), .val (.long q3), .second, .val (.int p4), .val (.int v6_2), .val (.long v7_3), .second, .val (.int us0_4), .unset, .unset, .unset, .unset, .unset] [(.int (1 : Int32)), (.int p1)])
    refine ogo (fun _ z_ => XS.iand X1.here hx rfl (hb hby at_39) rfl z_) ?_
    show OWay p e below G T1 (mkF m 40 #[.val (.int p0), .val (.int p1), .val (.int p2), .val (.long q3), .second, .val (.int p4), .val (.int v6_2), .val (.long v7_3), .second, .val (.int us0_4), .unset, .unset, .unset, .unset, .unset] [(.int (p1 &&& (1 : Int32)))])
    have J7 : ∀ (us0_6 : Int32), us0_6 = (if (p1 &&& (1 : Int32)) = (0 : Int32) then p0 else (0 : Int32)) → OWay p e below G T1 (mkF m 48 #[.val (.int p0), .val (.int p1), .val (.int p2), .val (.long q3), .second, .val (.int p4), .val (.int v6_2), .val (.long v7_3), .second, .val (.int us0_4), .unset, .unset, .unset, .unset, .unset] [(.int us0_6)]) := by
      intro us0_6 hus0_6
      refine ogo (fun _ z_ => XS.istore X1.here hx rfl (hb hby at_48) rfl (l' := #[.val (.int p0), .val (.int p1), .val (.int p2), .val (.long q3), .second, .val (.int p4), .val (.int v6_2), .val (.long v7_3), .second, .val (.int us0_4), .val (.int us0_6), .unset, .unset, .unset, .unset]) rfl z_) ?_
      show OWay p e below G T1 (mkF m 50 #[.val (.int p0), .val (.int p1), .val (.int p2), .val (.long q3), .second, .val (.int p4), .val (.int v6_2), .val (.long v7_3), .second, .val (.int us0_4), .val (.int us0_6), .unset, .unset, .unset, .unset] [])
      refine ogo (fun _ z_ => XS.lload X1.here hx rfl (hb hby at_50) rfl z_) ?_
      show OWay p e below G T1 (mkF m 52 #[.val (.int p0), .val (.int p1), .val (.int p2), .val (.long q3), .second, .val (.int p4), .val (.int v6_2), .val (.long v7_3), .second, .val (.int us0_4), .val (.int us0_6), .unset, .unset, .unset, .unset] [(.long v7_3)])
      refine ogo (fun _ z_ => XS.iload X1.here hx rfl (hb hby at_52) rfl z_) ?_
      show OWay p e below G T1 (mkF m 54 #[.val (.int p0), .val (.int p1), .val (.int p2), .val (.long q3), .second, .val (.int p4), .val (.int v6_2), .val (.long v7_3), .second, .val (.int us0_4), .val (.int us0_6), .unset, .unset, .unset, .unset] [(.int v6_2), (.long v7_3)])
      refine ogo (fun _ z_ => XS.i2l X1.here hx rfl (hb hby at_54) rfl z_) ?_
      show OWay p e below G T1 (mkF m 55 #[.val (.int p0), .val (.int p1), .val (.int p2), .val (.long q3), .second, .val (.int p4), .val (.int v6_2), .val (.long v7_3), .second, .val (.int us0_4), .val (.int us0_6), .unset, .unset, .unset, .unset] [(.long (v6_2.toInt64)), (.long v7_3)])
      refine ogo (fun _ z_ => XS.lmul X1.here hx rfl (hb hby at_55) rfl z_) ?_
      show OWay p e below G T1 (mkF m 56 #[.val (.int p0), .val (.int p1), .val (.int p2), .val (.long q3), .second, .val (.int p4), .val (.int v6_2), .val (.long v7_3), .second, .val (.int us0_4), .val (.int us0_6), .unset, .unset, .unset, .unset] [(.long (v7_3 * (v6_2.toInt64)))])
      refine ogo (fun _ z_ => XS.iload X1.here hx rfl (hb hby at_56) rfl z_) ?_
      show OWay p e below G T1 (mkF m 58 #[.val (.int p0), .val (.int p1), .val (.int p2), .val (.long q3), .second, .val (.int p4), .val (.int v6_2), .val (.long v7_3), .second, .val (.int us0_4), .val (.int us0_6), .unset, .unset, .unset, .unset] [(.int us0_4), (.long (v7_3 * (v6_2.toInt64)))])
      refine ogo (fun _ z_ => XS.i2l X1.here hx rfl (hb hby at_58) rfl z_) ?_
      show OWay p e below G T1 (mkF m 59 #[.val (.int p0), .val (.int p1), .val (.int p2), .val (.long q3), .second, .val (.int p4), .val (.int v6_2), .val (.long v7_3), .second, .val (.int us0_4), .val (.int us0_6), .unset, .unset, .unset, .unset] [(.long (us0_4.toInt64)), (.long (v7_3 * (v6_2.toInt64)))])
      refine ogo (fun _ z_ => XS.ladd X1.here hx rfl (hb hby at_59) rfl z_) ?_
      show OWay p e below G T1 (mkF m 60 #[.val (.int p0), .val (.int p1), .val (.int p2), .val (.long q3), .second, .val (.int p4), .val (.int v6_2), .val (.long v7_3), .second, .val (.int us0_4), .val (.int us0_6), .unset, .unset, .unset, .unset] [(.long ((v7_3 * (v6_2.toInt64)) + (us0_4.toInt64)))])
      suffices Jv11_8 : ∀ v11_8 : Int64, v11_8 = ((v7_3 * (v6_2.toInt64)) + (us0_4.toInt64)) → OWay p e below G T1 (mkF m 60 #[.val (.int p0), .val (.int p1), .val (.int p2), .val (.long q3), .second, .val (.int p4), .val (.int v6_2), .val (.long v7_3), .second, .val (.int us0_4), .val (.int us0_6), .unset, .unset, .unset, .unset] [(.long v11_8)]) from Jv11_8 _ rfl
      intro v11_8 hv11_8
      refine ogo (fun _ z_ => XS.lstore X1.here hx rfl (hb hby at_60) rfl (l' := #[.val (.int p0), .val (.int p1), .val (.int p2), .val (.long q3), .second, .val (.int p4), .val (.int v6_2), .val (.long v7_3), .second, .val (.int us0_4), .val (.int us0_6), .val (.long v11_8), .second, .unset, .unset]) rfl z_) ?_
      show OWay p e below G T1 (mkF m 62 #[.val (.int p0), .val (.int p1), .val (.int p2), .val (.long q3), .second, .val (.int p4), .val (.int v6_2), .val (.long v7_3), .second, .val (.int us0_4), .val (.int us0_6), .val (.long v11_8), .second, .unset, .unset] [])
      have hR := own_rem p4 us0_4 v6_2 _ hA hus0_4
      have hM := own_mod q3 v7_3 v6_2 us0_4 v11_8 hv7_3 hA hR hv11_8
      obtain ⟨T9, h9, X9, eT9, E9, A9, D9, -, st9⟩ := newO X1 hx hZ hown (hw _ (List.mem_of_getElem? (i := 6) rfl)) (hw _ (List.mem_of_getElem? (i := 7) rfl)) (hw _ (List.mem_of_getElem? (i := 8) rfl)) eq1 (g := (mkF m 62 #[.val (.int p0), .val (.int p1), .val (.int p2), .val (.long q3), .second, .val (.int p4), .val (.int v6_2), .val (.long v7_3), .second, .val (.int us0_4), .val (.int us0_6), .val (.long v11_8), .second, .unset, .unset] [])) rfl (hb hby at_62) (by decide) (by decide)
      obtain ⟨b9, g9⟩ : ∃ z, z = h0.size := ⟨_, rfl⟩
      rw [← g9] at A9 D9 st9
      have g_b9 : n0 ≤ b9 := Nat.le_trans Z0 (Nat.le_of_eq g9.symm)
      have sz_b9 : h0.size ≤ b9 := Nat.le_trans K0.1 (Nat.le_of_eq g9.symm)
      have K10 : Keep h0 h9 [] := K0.ext E9
      have F_name_b9 : Fld Z h9 b9 "com/example/install_warden/installwarden/zip/ZipArchive$Entry" "name" "Ljava/lang/String;" .null := D9 (Or.inr (hw _ (List.mem_of_getElem? (i := 29) rfl))) (ty := (.object "java/lang/String")) (by decide)
      have F_method_b9 : Fld Z h9 b9 "com/example/install_warden/installwarden/zip/ZipArchive$Entry" "method" "I" (.int (0 : Int32)) := D9 (Or.inr (hw _ (List.mem_of_getElem? (i := 31) rfl))) (ty := .int) (by decide)
      have F_crc32_b9 : Fld Z h9 b9 "com/example/install_warden/installwarden/zip/ZipArchive$Entry" "crc32" "I" (.int (0 : Int32)) := D9 (Or.inr (hw _ (List.mem_of_getElem? (i := 33) rfl))) (ty := .int) (by decide)
      have F_compressedSize_b9 : Fld Z h9 b9 "com/example/install_warden/installwarden/zip/ZipArchive$Entry" "compressedSize" "J" (.long (0 : Int64)) := D9 (Or.inr (hw _ (List.mem_of_getElem? (i := 35) rfl))) (ty := .long) (by decide)
      have F_size_b9 : Fld Z h9 b9 "com/example/install_warden/installwarden/zip/ZipArchive$Entry" "size" "J" (.long (0 : Int64)) := D9 (Or.inr (hw _ (List.mem_of_getElem? (i := 37) rfl))) (ty := .long) (by decide)
      have F_localHeaderOffset_b9 : Fld Z h9 b9 "com/example/install_warden/installwarden/zip/ZipArchive$Entry" "localHeaderOffset" "J" (.long (0 : Int64)) := D9 (Or.inr (hw _ (List.mem_of_getElem? (i := 39) rfl))) (ty := .long) (by decide)
      have F_dataOffset_b9 : Fld Z h9 b9 "com/example/install_warden/installwarden/zip/ZipArchive$Entry" "dataOffset" "J" (.long (0 : Int64)) := D9 (Or.inr (hw _ (List.mem_of_getElem? (i := 41) rfl))) (ty := .long) (by decide)
      refine ogo st9 ?_
      show OWay p e below G T9 (mkF m 65 #[.val (.int p0), .val (.int p1), .val (.int p2), .val (.long q3), .second, .val (.int p4), .val (.int v6_2), .val (.long v7_3), .second, .val (.int us0_4), .val (.int us0_6), .val (.long v11_8), .second, .unset, .unset] [(.ref b9)])
      refine ogo (fun _ z_ => XS.dup X9.here hx rfl (hb hby at_65) rfl rfl z_) ?_
      show OWay p e below G T9 (mkF m 66 #[.val (.int p0), .val (.int p1), .val (.int p2), .val (.long q3), .second, .val (.int p4), .val (.int v6_2), .val (.long v7_3), .second, .val (.int us0_4), .val (.int us0_6), .val (.long v11_8), .second, .unset, .unset] [(.ref b9), (.ref b9)])
      obtain ⟨a11, T11, h11, k11, X11, eT11, E11, hS11, hk11, hZ11, hown11, st11⟩ := ldcS (s := s) (vm0 := s.vm) X9 hx hZ hown (hw _ (List.mem_of_getElem? (i := 9) rfl)) (own_wS hw) eT9 hS0 (Nat.le_trans hk0 E9.1) (g := (mkF m 66 #[.val (.int p0), .val (.int p1), .val (.int p2), .val (.long q3), .second, .val (.int p4), .val (.int v6_2), .val (.long v7_3), .second, .val (.int us0_4), .val (.int us0_6), .val (.long v11_8), .second, .unset, .unset] [(.ref b9), (.ref b9)])) rfl (hb hby at_66) (n := 4) (by decide) (by decide) (by decide) (by decide)
      have hZ := hZ11
      have hown := hown11
      have K12 : Keep h0 h11 [] := K10.ext E11
      refine ogo st11 ?_
      show OWay p e below G T11 (mkF m 68 #[.val (.int p0), .val (.int p1), .val (.int p2), .val (.long q3), .second, .val (.int p4), .val (.int v6_2), .val (.long v7_3), .second, .val (.int us0_4), .val (.int us0_6), .val (.long v11_8), .second, .unset, .unset] [(.ref a11), (.ref b9), (.ref b9)])
      refine ogo (fun _ z_ => XS.iload X11.here hx rfl (hb hby at_68) rfl z_) ?_
      show OWay p e below G T11 (mkF m 70 #[.val (.int p0), .val (.int p1), .val (.int p2), .val (.long q3), .second, .val (.int p4), .val (.int v6_2), .val (.long v7_3), .second, .val (.int us0_4), .val (.int us0_6), .val (.long v11_8), .second, .unset, .unset] [(.int us0_6), (.ref a11), (.ref b9), (.ref b9)])
      refine ogo (fun _ z_ => XS.iload X11.here hx rfl (hb hby at_70) rfl z_) ?_
      show OWay p e below G T11 (mkF m 72 #[.val (.int p0), .val (.int p1), .val (.int p2), .val (.long q3), .second, .val (.int p4), .val (.int v6_2), .val (.long v7_3), .second, .val (.int us0_4), .val (.int us0_6), .val (.long v11_8), .second, .unset, .unset] [(.int p4), (.int us0_6), (.ref a11), (.ref b9), (.ref b9)])
      refine ogo (fun _ z_ => XS.lload X11.here hx rfl (hb hby at_72) rfl z_) ?_
      show OWay p e below G T11 (mkF m 74 #[.val (.int p0), .val (.int p1), .val (.int p2), .val (.long q3), .second, .val (.int p4), .val (.int v6_2), .val (.long v7_3), .second, .val (.int us0_4), .val (.int us0_6), .val (.long v11_8), .second, .unset, .unset] [(.long v7_3), (.int p4), (.int us0_6), (.ref a11), (.ref b9), (.ref b9)])
      refine ogo (fun _ z_ => XS.lload X11.here hx rfl (hb hby at_74) rfl z_) ?_
      show OWay p e below G T11 (mkF m 76 #[.val (.int p0), .val (.int p1), .val (.int p2), .val (.long q3), .second, .val (.int p4), .val (.int v6_2), .val (.long v7_3), .second, .val (.int us0_4), .val (.int us0_6), .val (.long v11_8), .second, .unset, .unset] [(.long v7_3), (.long v7_3), (.int p4), (.int us0_6), (.ref a11), (.ref b9), (.ref b9)])
      refine ogo (fun _ z_ => XS.lconst X11.here hx rfl (hb hby at_76) z_) ?_
      show OWay p e below G T11 (mkF m 77 #[.val (.int p0), .val (.int p1), .val (.int p2), .val (.long q3), .second, .val (.int p4), .val (.int v6_2), .val (.long v7_3), .second, .val (.int us0_4), .val (.int us0_6), .val (.long v11_8), .second, .unset, .unset] [(.long (0 : Int64)), (.long v7_3), (.long v7_3), (.int p4), (.int us0_6), (.ref a11), (.ref b9), (.ref b9)])
      refine ogo (fun _ z_ => XS.lload X11.here hx rfl (hb hby at_77) rfl z_) ?_
      show OWay p e below G T11 (mkF m 79 #[.val (.int p0), .val (.int p1), .val (.int p2), .val (.long q3), .second, .val (.int p4), .val (.int v6_2), .val (.long v7_3), .second, .val (.int us0_4), .val (.int us0_6), .val (.long v11_8), .second, .unset, .unset] [(.long v11_8), (.long (0 : Int64)), (.long v7_3), (.long v7_3), (.int p4), (.int us0_6), (.ref a11), (.ref b9), (.ref b9)])
      have F13 : Exa Z h11 b9 "com/example/install_warden/installwarden/zip/ZipArchive$Entry" := (A9.ext E11)
      have F14 : Fld Z h11 b9 "com/example/install_warden/installwarden/zip/ZipArchive$Entry" "name" "Ljava/lang/String;" .null := (F_name_b9.ext E11)
      have F15 : Fld Z h11 b9 "com/example/install_warden/installwarden/zip/ZipArchive$Entry" "method" "I" (.int (0 : Int32)) := (F_method_b9.ext E11)
      have F16 : Fld Z h11 b9 "com/example/install_warden/installwarden/zip/ZipArchive$Entry" "crc32" "I" (.int (0 : Int32)) := (F_crc32_b9.ext E11)
      have F17 : Fld Z h11 b9 "com/example/install_warden/installwarden/zip/ZipArchive$Entry" "compressedSize" "J" (.long (0 : Int64)) := (F_compressedSize_b9.ext E11)
      have F18 : Fld Z h11 b9 "com/example/install_warden/installwarden/zip/ZipArchive$Entry" "size" "J" (.long (0 : Int64)) := (F_size_b9.ext E11)
      have F19 : Fld Z h11 b9 "com/example/install_warden/installwarden/zip/ZipArchive$Entry" "localHeaderOffset" "J" (.long (0 : Int64)) := (F_localHeaderOffset_b9.ext E11)
      have F20 : Fld Z h11 b9 "com/example/install_warden/installwarden/zip/ZipArchive$Entry" "dataOffset" "J" (.long (0 : Int64)) := (F_dataOffset_b9.ext E11)
      obtain ⟨_, T21, L21, X21, hQ21, st21⟩ := wInit X11 hx hZ (y := (⟨"com/example/install_warden/installwarden/zip/ZipArchive$Entry", "<init>", "(Ljava/lang/String;IIJJJJ)V"⟩ : MethodName)) rfl hown (hw _ (List.mem_of_getElem? (i := 17) rfl)) (hw _ (List.mem_of_getElem? (i := 18) rfl)) (hw _ (List.mem_of_getElem? (i := 8) rfl)) (hw _ (List.mem_of_getElem? (i := 19) rfl)) (by decide) (ctor2_c l Z az hw [] b9 a11 us0_6 p4 v7_3 v7_3 (0 : Int64) v11_8 h11 n0 (Nat.le_trans (Nat.le_trans Z0 E9.1) E11.1) F13 g_b9 F14 F15 F16 F17 F18 F19 F20) 1 (by decide) (by decide) (g := (mkF m 79 #[.val (.int p0), .val (.int p1), .val (.int p2), .val (.long q3), .second, .val (.int p4), .val (.int v6_2), .val (.long v7_3), .second, .val (.int us0_4), .val (.int us0_6), .val (.long v11_8), .second, .unset, .unset] [(.long v11_8), (.long (0 : Int64)), (.long v7_3), (.long v7_3), (.int p4), (.int us0_6), (.ref a11), (.ref b9), (.ref b9)])) rfl (by rw [hml]; rfl) (a := b9) (argsL := [(.ref a11), (.int us0_6), (.int p4), (.long v7_3), (.long v7_3), (.long (0 : Int64)), (.long v11_8)]) (rest := [(.ref b9)]) (lenOf pd__Ljava_lang_String_IIJJJJ_V rfl) rfl (by show 2 * 0 + _ ≤ _; exact Nat.le_of_eq rfl) (hb hby at_79) rfl eT11 (by decide) (by decide)
      obtain ⟨rfl, N21q, Kq21, P22, P23, P24, P25, P26, P27, P28⟩ := hQ21
      have N21 := Fr.app N1 N21q
      have K29 : Keep h0 T21.heap [] := K12.trans Kq21 (allS (Or.inr sz_b9) all0)
      refine ogoS st21 ?_
      show OWay p e below G T21 (mkF m 82 #[.val (.int p0), .val (.int p1), .val (.int p2), .val (.long q3), .second, .val (.int p4), .val (.int v6_2), .val (.long v7_3), .second, .val (.int us0_4), .val (.int us0_6), .val (.long v11_8), .second, .unset, .unset] [(.ref b9)])
      refine ogo (fun _ z_ => XS.astore X21.here hx rfl (hb hby at_82) rfl rfl (l' := #[.val (.int p0), .val (.int p1), .val (.int p2), .val (.long q3), .second, .val (.int p4), .val (.int v6_2), .val (.long v7_3), .second, .val (.int us0_4), .val (.int us0_6), .val (.long v11_8), .second, .val (.ref b9), .unset]) rfl z_) ?_
      show OWay p e below G T21 (mkF m 84 #[.val (.int p0), .val (.int p1), .val (.int p2), .val (.long q3), .second, .val (.int p4), .val (.int v6_2), .val (.long v7_3), .second, .val (.int us0_4), .val (.int us0_6), .val (.long v11_8), .second, .val (.ref b9), .unset] [])
      refine ogo (fun _ z_ => XS.iload X21.here hx rfl (hb hby at_84) rfl z_) ?_
      show OWay p e below G T21 (mkF m 86 #[.val (.int p0), .val (.int p1), .val (.int p2), .val (.long q3), .second, .val (.int p4), .val (.int v6_2), .val (.long v7_3), .second, .val (.int us0_4), .val (.int us0_6), .val (.long v11_8), .second, .val (.ref b9), .unset] [(.int us0_6)])
      have J31 : ∀ (us0_30 : Int32), us0_30 = (if us0_6 = (0 : Int32) then (if us0_4 = (0 : Int32) then (1 : Int32) else (0 : Int32)) else (0 : Int32)) → OWay p e below G T21 (mkF m 99 #[.val (.int p0), .val (.int p1), .val (.int p2), .val (.long q3), .second, .val (.int p4), .val (.int v6_2), .val (.long v7_3), .second, .val (.int us0_4), .val (.int us0_6), .val (.long v11_8), .second, .val (.ref b9), .unset] [(.int us0_30)]) := by
        intro us0_30 hus0_30
        refine ogo (fun _ z_ => XS.istore X21.here hx rfl (hb hby at_99) rfl (l' := #[.val (.int p0), .val (.int p1), .val (.int p2), .val (.long q3), .second, .val (.int p4), .val (.int v6_2), .val (.long v7_3), .second, .val (.int us0_4), .val (.int us0_6), .val (.long v11_8), .second, .val (.ref b9), .val (.int us0_30)]) rfl z_) ?_
        show OWay p e below G T21 (mkF m 101 #[.val (.int p0), .val (.int p1), .val (.int p2), .val (.long q3), .second, .val (.int p4), .val (.int v6_2), .val (.long v7_3), .second, .val (.int us0_4), .val (.int us0_6), .val (.long v11_8), .second, .val (.ref b9), .val (.int us0_30)] [])
        refine ogo (fun _ z_ => XS.aload X21.here hx rfl (hb hby at_101) rfl rfl z_) ?_
        show OWay p e below G T21 (mkF m 103 #[.val (.int p0), .val (.int p1), .val (.int p2), .val (.long q3), .second, .val (.int p4), .val (.int v6_2), .val (.long v7_3), .second, .val (.int us0_4), .val (.int us0_6), .val (.long v11_8), .second, .val (.ref b9), .val (.int us0_30)] [(.ref b9)])
        refine ogo (fun _ z_ => XS.iload X21.here hx rfl (hb hby at_103) rfl z_) ?_
        show OWay p e below G T21 (mkF m 105 #[.val (.int p0), .val (.int p1), .val (.int p2), .val (.long q3), .second, .val (.int p4), .val (.int v6_2), .val (.long v7_3), .second, .val (.int us0_4), .val (.int us0_6), .val (.long v11_8), .second, .val (.ref b9), .val (.int us0_30)] [(.int v6_2), (.ref b9)])
        have F33 : Exa Z T21.heap b9 "com/example/install_warden/installwarden/zip/ZipArchive$Entry" := (F13.keep Kq21)
        obtain ⟨_, T32, L32, X32, hQ32, st32⟩ := wVirtual X21 hx hZ (y := (⟨"com/example/install_warden/installwarden/zip/ZipArchive$Entry", "isStoredAligned", "(I)Z"⟩ : MethodName)) (z := (⟨"com/example/install_warden/installwarden/zip/ZipArchive$Entry", "isStoredAligned", "(I)Z"⟩ : MethodName)) hown (hw _ (List.mem_of_getElem? (i := 42) rfl)) (hw _ (List.mem_of_getElem? (i := 43) rfl)) (notFace_of_selects (args := #[]) (mvT hZ (hw _ (List.mem_of_getElem? (i := 45) rfl)))) (hw _ (List.mem_of_getElem? (i := 45) rfl)) (hw _ (List.mem_of_getElem? (i := 44) rfl)) (hw _ (List.mem_of_getElem? (i := 8) rfl)) (hw _ (List.mem_of_getElem? (i := 46) rfl)) (by decide) (isa_b_c l Z az hw [] b9 v6_2 us0_6 v11_8 T21.heap n0 (Nat.le_trans (Nat.le_trans (Nat.le_trans Z0 E9.1) E11.1) Kq21.1) P23 P28 (own_nz64 _ hA)) 0 (by decide) (by decide) F33 (g := (mkF m 105 #[.val (.int p0), .val (.int p1), .val (.int p2), .val (.long q3), .second, .val (.int p4), .val (.int v6_2), .val (.long v7_3), .second, .val (.int us0_4), .val (.int us0_6), .val (.long v11_8), .second, .val (.ref b9), .val (.int us0_30)] [(.int v6_2), (.ref b9)])) rfl (by rw [hml]; rfl) (argsL := [(.int v6_2)]) (rest := []) (lenOf pd__I_Z rfl) rfl (by show 2 * 0 + _ ≤ _; exact Nat.le_of_eq rfl) (hb hby at_105) rfl rfl (by decide) (by decide)
        obtain ⟨rfl, N32q, eq32⟩ := hQ32
        have N32 := Fr.app N21 N32q
        refine ogoS st32 ?_
        show OWay p e below G T32 (mkF m 108 #[.val (.int p0), .val (.int p1), .val (.int p2), .val (.long q3), .second, .val (.int p4), .val (.int v6_2), .val (.long v7_3), .second, .val (.int us0_4), .val (.int us0_6), .val (.long v11_8), .second, .val (.ref b9), .val (.int us0_30)] [(.int (isa us0_6 v11_8 v6_2))])
        refine ogo (fun _ z_ => XS.iload X32.here hx rfl (hb hby at_108) rfl z_) ?_
        show OWay p e below G T32 (mkF m 110 #[.val (.int p0), .val (.int p1), .val (.int p2), .val (.long q3), .second, .val (.int p4), .val (.int v6_2), .val (.long v7_3), .second, .val (.int us0_4), .val (.int us0_6), .val (.long v11_8), .second, .val (.ref b9), .val (.int us0_30)] [(.int us0_30), (.int (isa us0_6 v11_8 v6_2))])
        refine ogo (fun _ z_ => XS.icmpNo X32.here hx rfl (hb hby at_110) rfl (teq (own_law _ _ _ _ _ hM hus0_30)).2 z_) ?_
        show OWay p e below G T32 (mkF m 113 #[.val (.int p0), .val (.int p1), .val (.int p2), .val (.long q3), .second, .val (.int p4), .val (.int v6_2), .val (.long v7_3), .second, .val (.int us0_4), .val (.int us0_6), .val (.long v11_8), .second, .val (.ref b9), .val (.int us0_30)] [])
        refine ogo (fun _ z_ => XS.iconst X32.here hx rfl (hb hby at_113) z_) ?_
        show OWay p e below G T32 (mkF m 114 #[.val (.int p0), .val (.int p1), .val (.int p2), .val (.long q3), .second, .val (.int p4), .val (.int v6_2), .val (.long v7_3), .second, .val (.int us0_4), .val (.int us0_6), .val (.long v11_8), .second, .val (.ref b9), .val (.int us0_30)] [(.int (1 : Int32))])
        refine ogo (fun _ z_ => XS.goto X32.here hx rfl (pc0 := 114) (pc' := 118) rfl (hb hby at_114) (by decide) (by decide) z_) ?_
        show OWay p e below G T32 (mkF m 118 #[.val (.int p0), .val (.int p1), .val (.int p2), .val (.long q3), .second, .val (.int p4), .val (.int v6_2), .val (.long v7_3), .second, .val (.int us0_4), .val (.int us0_6), .val (.long v11_8), .second, .val (.ref b9), .val (.int us0_30)] [(.int (1 : Int32))])
        subst hG
        refine wRetNW (s := s) (vm0 := T11.vm) X32 hx (t := .boolean) hret hlk (by simp) (hb hby at_118) (by decide) (by decide) hS11 (Nat.le_trans hk11 Kq21.1) eq32 ?_
        exact ⟨rfl, N32⟩
      by_cases c86 : us0_6 = (0 : Int32)
      · refine ogo (fun _ z_ => XS.ifNo X21.here hx rfl (hb hby at_86) rfl ((if0 _ _).trans (teq c86).2) z_) ?_
        show OWay p e below G T21 (mkF m 89 #[.val (.int p0), .val (.int p1), .val (.int p2), .val (.long q3), .second, .val (.int p4), .val (.int v6_2), .val (.long v7_3), .second, .val (.int us0_4), .val (.int us0_6), .val (.long v11_8), .second, .val (.ref b9), .unset] [])
        refine ogo (fun _ z_ => XS.iload X21.here hx rfl (hb hby at_89) rfl z_) ?_
        show OWay p e below G T21 (mkF m 91 #[.val (.int p0), .val (.int p1), .val (.int p2), .val (.long q3), .second, .val (.int p4), .val (.int v6_2), .val (.long v7_3), .second, .val (.int us0_4), .val (.int us0_6), .val (.long v11_8), .second, .val (.ref b9), .unset] [(.int us0_4)])
        by_cases c91 : us0_4 = (0 : Int32)
        · refine ogo (fun _ z_ => XS.ifNo X21.here hx rfl (hb hby at_91) rfl ((if0 _ _).trans (teq c91).2) z_) ?_
          show OWay p e below G T21 (mkF m 94 #[.val (.int p0), .val (.int p1), .val (.int p2), .val (.long q3), .second, .val (.int p4), .val (.int v6_2), .val (.long v7_3), .second, .val (.int us0_4), .val (.int us0_6), .val (.long v11_8), .second, .val (.ref b9), .unset] [])
          refine ogo (fun _ z_ => XS.iconst X21.here hx rfl (hb hby at_94) z_) ?_
          show OWay p e below G T21 (mkF m 95 #[.val (.int p0), .val (.int p1), .val (.int p2), .val (.long q3), .second, .val (.int p4), .val (.int v6_2), .val (.long v7_3), .second, .val (.int us0_4), .val (.int us0_6), .val (.long v11_8), .second, .val (.ref b9), .unset] [(.int (1 : Int32))])
          refine ogo (fun _ z_ => XS.goto X21.here hx rfl (pc0 := 95) (pc' := 99) rfl (hb hby at_95) (by decide) (by decide) z_) ?_
          show OWay p e below G T21 (mkF m 99 #[.val (.int p0), .val (.int p1), .val (.int p2), .val (.long q3), .second, .val (.int p4), .val (.int v6_2), .val (.long v7_3), .second, .val (.int us0_4), .val (.int us0_6), .val (.long v11_8), .second, .val (.ref b9), .unset] [(.int (1 : Int32))])
          exact J31 _ ((if_pos c86).trans ((if_pos c91).trans rfl)).symm
        · refine ogo (fun _ z_ => XS.ifYes X21.here hx rfl (pc0 := 91) (pc' := 98) rfl (hb hby at_91) rfl ((if0 _ _).trans (feq c91).2) (by decide) (by decide) z_) ?_
          show OWay p e below G T21 (mkF m 98 #[.val (.int p0), .val (.int p1), .val (.int p2), .val (.long q3), .second, .val (.int p4), .val (.int v6_2), .val (.long v7_3), .second, .val (.int us0_4), .val (.int us0_6), .val (.long v11_8), .second, .val (.ref b9), .unset] [])
          refine ogo (fun _ z_ => XS.iconst X21.here hx rfl (hb hby at_98) z_) ?_
          show OWay p e below G T21 (mkF m 99 #[.val (.int p0), .val (.int p1), .val (.int p2), .val (.long q3), .second, .val (.int p4), .val (.int v6_2), .val (.long v7_3), .second, .val (.int us0_4), .val (.int us0_6), .val (.long v11_8), .second, .val (.ref b9), .unset] [(.int (0 : Int32))])
          exact J31 _ ((if_pos c86).trans ((if_neg c91).trans rfl)).symm
      · refine ogo (fun _ z_ => XS.ifYes X21.here hx rfl (pc0 := 86) (pc' := 98) rfl (hb hby at_86) rfl ((if0 _ _).trans (feq c86).2) (by decide) (by decide) z_) ?_
        show OWay p e below G T21 (mkF m 98 #[.val (.int p0), .val (.int p1), .val (.int p2), .val (.long q3), .second, .val (.int p4), .val (.int v6_2), .val (.long v7_3), .second, .val (.int us0_4), .val (.int us0_6), .val (.long v11_8), .second, .val (.ref b9), .unset] [])
        refine ogo (fun _ z_ => XS.iconst X21.here hx rfl (hb hby at_98) z_) ?_
        show OWay p e below G T21 (mkF m 99 #[.val (.int p0), .val (.int p1), .val (.int p2), .val (.long q3), .second, .val (.int p4), .val (.int v6_2), .val (.long v7_3), .second, .val (.int us0_4), .val (.int us0_6), .val (.long v11_8), .second, .val (.ref b9), .unset] [(.int (0 : Int32))])
        exact J31 _ ((if_neg c86).trans rfl).symm
    by_cases c40 : (p1 &&& (1 : Int32)) = (0 : Int32)
    · refine ogo (fun _ z_ => XS.ifYes X1.here hx rfl (pc0 := 40) (pc' := 47) rfl (hb hby at_40) rfl ((if0 _ _).trans (teq c40).1) (by decide) (by decide) z_) ?_
      show OWay p e below G T1 (mkF m 47 #[.val (.int p0), .val (.int p1), .val (.int p2), .val (.long q3), .second, .val (.int p4), .val (.int v6_2), .val (.long v7_3), .second, .val (.int us0_4), .unset, .unset, .unset, .unset, .unset] [])
      refine ogo (fun _ z_ => XS.iloadN X1.here hx rfl (hb hby at_47) rfl z_) ?_
      show OWay p e below G T1 (mkF m 48 #[.val (.int p0), .val (.int p1), .val (.int p2), .val (.long q3), .second, .val (.int p4), .val (.int v6_2), .val (.long v7_3), .second, .val (.int us0_4), .unset, .unset, .unset, .unset, .unset] [(.int p0)])
      exact J7 _ ((if_pos c40).trans rfl).symm
    · refine ogo (fun _ z_ => XS.ifNo X1.here hx rfl (hb hby at_40) rfl ((if0 _ _).trans (feq c40).1) z_) ?_
      show OWay p e below G T1 (mkF m 43 #[.val (.int p0), .val (.int p1), .val (.int p2), .val (.long q3), .second, .val (.int p4), .val (.int v6_2), .val (.long v7_3), .second, .val (.int us0_4), .unset, .unset, .unset, .unset, .unset] [])
      refine ogo (fun _ z_ => XS.iconst X1.here hx rfl (hb hby at_43) z_) ?_
      show OWay p e below G T1 (mkF m 44 #[.val (.int p0), .val (.int p1), .val (.int p2), .val (.long q3), .second, .val (.int p4), .val (.int v6_2), .val (.long v7_3), .second, .val (.int us0_4), .unset, .unset, .unset, .unset, .unset] [(.int (0 : Int32))])
      refine ogo (fun _ z_ => XS.goto X1.here hx rfl (pc0 := 44) (pc' := 48) rfl (hb hby at_44) (by decide) (by decide) z_) ?_
      show OWay p e below G T1 (mkF m 48 #[.val (.int p0), .val (.int p1), .val (.int p2), .val (.long q3), .second, .val (.int p4), .val (.int v6_2), .val (.long v7_3), .second, .val (.int us0_4), .unset, .unset, .unset, .unset, .unset] [(.int (0 : Int32))])
      exact J7 _ ((if_neg c40).trans rfl).symm
  by_cases c20 : (p1 &&& (2 : Int32)) = (0 : Int32)
  · refine ogo (fun _ z_ => XS.ifYes X1.here hx rfl (pc0 := 20) (pc' := 27) rfl (hb hby at_20) rfl ((if0 _ _).trans (teq c20).1) (by decide) (by decide) z_) ?_
    show OWay p e below G T1 (mkF m 27 #[.val (.int p0), .val (.int p1), .val (.int p2), .val (.long q3), .second, .val (.int p4), .val (.int v6_2), .val (.long v7_3), .second, .unset, .unset, .unset, .unset, .unset, .unset] [])
    refine ogo (fun _ z_ => XS.iload X1.here hx rfl (hb hby at_27) rfl z_) ?_
    show OWay p e below G T1 (mkF m 29 #[.val (.int p0), .val (.int p1), .val (.int p2), .val (.long q3), .second, .val (.int p4), .val (.int v6_2), .val (.long v7_3), .second, .unset, .unset, .unset, .unset, .unset, .unset] [(.int p4)])
    refine ogo (fun _ z_ => X1.ldcInt hx hown (mvT hZ (hw _ (List.mem_of_getElem? (i := 0) rfl))) (g := (mkF m 29 #[.val (.int p0), .val (.int p1), .val (.int p2), .val (.long q3), .second, .val (.int p4), .val (.int v6_2), .val (.long v7_3), .second, .unset, .unset, .unset, .unset, .unset, .unset] [(.int p4)])) rfl (hb hby at_29) _ z_) ?_
    show OWay p e below G T1 (mkF m 31 #[.val (.int p0), .val (.int p1), .val (.int p2), .val (.long q3), .second, .val (.int p4), .val (.int v6_2), .val (.long v7_3), .second, .unset, .unset, .unset, .unset, .unset, .unset] [(.int (2147483647 : Int32)), (.int p4)])
    refine ogo (fun _ z_ => XS.iand X1.here hx rfl (hb hby at_31) rfl z_) ?_
    show OWay p e below G T1 (mkF m 32 #[.val (.int p0), .val (.int p1), .val (.int p2), .val (.long q3), .second, .val (.int p4), .val (.int v6_2), .val (.long v7_3), .second, .unset, .unset, .unset, .unset, .unset, .unset] [(.int (p4 &&& (2147483647 : Int32)))])
    refine ogo (fun _ z_ => XS.iload X1.here hx rfl (hb hby at_32) rfl z_) ?_
    show OWay p e below G T1 (mkF m 34 #[.val (.int p0), .val (.int p1), .val (.int p2), .val (.long q3), .second, .val (.int p4), .val (.int v6_2), .val (.long v7_3), .second, .unset, .unset, .unset, .unset, .unset, .unset] [(.int v6_2), (.int (p4 &&& (2147483647 : Int32)))])
    refine ogo (fun _ z_ => iremM X1 hx rfl (hb hby at_34) rfl (own_nz _ hA) z_) ?_
    show OWay p e below G T1 (mkF m 35 #[.val (.int p0), .val (.int p1), .val (.int p2), .val (.long q3), .second, .val (.int p4), .val (.int v6_2), .val (.long v7_3), .second, .unset, .unset, .unset, .unset, .unset, .unset] [(.int ((p4 &&& (2147483647 : Int32)) % v6_2))])
    exact J5 _ ((if_pos c20).trans rfl).symm
  · refine ogo (fun _ z_ => XS.ifNo X1.here hx rfl (hb hby at_20) rfl ((if0 _ _).trans (feq c20).1) z_) ?_
    show OWay p e below G T1 (mkF m 23 #[.val (.int p0), .val (.int p1), .val (.int p2), .val (.long q3), .second, .val (.int p4), .val (.int v6_2), .val (.long v7_3), .second, .unset, .unset, .unset, .unset, .unset, .unset] [])
    refine ogo (fun _ z_ => XS.iconst X1.here hx rfl (hb hby at_23) z_) ?_
    show OWay p e below G T1 (mkF m 24 #[.val (.int p0), .val (.int p1), .val (.int p2), .val (.long q3), .second, .val (.int p4), .val (.int v6_2), .val (.long v7_3), .second, .unset, .unset, .unset, .unset, .unset, .unset] [(.int (0 : Int32))])
    refine ogo (fun _ z_ => XS.goto X1.here hx rfl (pc0 := 24) (pc' := 35) rfl (hb hby at_24) (by decide) (by decide) z_) ?_
    show OWay p e below G T1 (mkF m 35 #[.val (.int p0), .val (.int p1), .val (.int p2), .val (.long q3), .second, .val (.int p4), .val (.int v6_2), .val (.long v7_3), .second, .unset, .unset, .unset, .unset, .unset, .unset] [(.int (0 : Int32))])
    exact J5 _ ((if_neg c20).trans rfl).symm
set_option maxRecDepth 65536 in
set_option maxHeartbeats 40000000 in
theorem comes_1 {Post : Tables → Env → Array Value → State → Outcome → State → Prop} (hpost : ∀ tb e args s v u, (limb_1_1.after args s (.returned v) u = true ∧ limb_1_2.after args s (.returned v) u = true ∧ True) → ReturnedEndW s (.returned v) u (Jvm.fieldLocs frame_1_writes args s ++ Jvm.arrayLocs frame_1_arrays args s ++ Jvm.staticLocs frame_1_statics s) 16 1152 → Post tb e args s (.returned v) u) :
    ArmFor flags0 classFile x code maxLocals ret World_1 tables_1 room_1 Calls_1 rest_1 Pre_1 Post := by
  intro l hfl _ _ p e ha hc hk s m args below hf hA hF happ hP
  obtain ⟨hcalls, hrest, hpre⟩ := hP
  obtain ⟨-, -, -, hnamed, -, -, -, hat⟩ := (Spec.applies_iff hf).mp happ
  obtain ⟨hg, hn⟩ := and_e (Cond.before_iff.mp (show (Jvm.Cond.and given_1 narrow_1).before args s = true from hpre))
  obtain ⟨g1, g2⟩ := and_e hg
  obtain ⟨g3, g4⟩ := and_e g2
  obtain ⟨g5, g6⟩ := and_e g4
  obtain ⟨g7, g8⟩ := and_e g6
  obtain ⟨g9, g10⟩ := and_e g8
  obtain ⟨w0, w1, w2, w3, w4, rfl⟩ : ∃ w0 w1 w2 w3 w4 : Value, args = #[w0, w1, w2, w3, w4] := by
    have hs : args.size = 5 := by simpa [Cond.value, given_1] using g1
    obtain ⟨L⟩ := args
    match L, hs with
    | [w0, w1, w2, w3, w4], _ => exact ⟨w0, w1, w2, w3, w4, rfl⟩
  have hw := fun d (hd : d ∈ tables_1) => atoms_spec (ws := Jvm.Cond.code x code maxLocals ret :: tables_1) hat d (List.mem_cons_of_mem _ hd)
  have hfit : Fit s := fun {y c} hc i hi => by
    obtain ⟨ha, rfl⟩ := Array.getElem?_eq_some_iff.mp hc
    have q := List.all_eq_true.mp ((Array.all_eq_true_iff_forall_mem.mp hF) _ (Array.getElem_mem ha)) i (List.mem_range.mpr hi)
    simpa [Array.getElem?_eq_getElem hi] using q
  obtain ⟨i0, ei0⟩ := is_v g3
  obtain rfl : w0 = (.int i0) := Option.some.inj ei0
  obtain ⟨i1, ei1⟩ := is_v g5
  obtain rfl : w1 = (.int i1) := Option.some.inj ei1
  obtain ⟨i2, ei2⟩ := is_v g7
  obtain rfl : w2 = (.int i2) := Option.some.inj ei2
  obtain ⟨i3, ei3⟩ := isL_v g9
  obtain rfl : w3 = (.long i3) := Option.some.inj ei3
  obtain ⟨i4, ei4⟩ := is_v g10
  obtain rfl : w4 = (.int i4) := Option.some.inj ei4
  obtain ⟨n, o, h1, h2, h3, _, L, rfl, ⟨rfl, N⟩, hq⟩ := law_c l s _ hw tables_1 i0 i1 i2 i3 i4 s.heap s.heap.size (Nat.le_refl _) p e ha hc hk s m _ below hf ((Spec.applies_iff_loose hf).mp happ).1 ⟨rfl, rfl, rfl⟩ trivial
  refine ⟨n, _, h1, h2, h3, hpost _ _ _ _ _ _ ⟨Cond.after_iff.mpr rfl, Cond.after_iff.mpr (eq_i res_at (Term.int_eval (1)) rfl), trivial⟩ ⟨hq.1, hq.2.1, hq.2.2.1, (hq.2.2.2.sift fun y hy => Or.inr (N y hy)).mono (by decide) (by decide)⟩⟩
theorem main_1_1 : Claimed_1_1 := comes_1 fun _ _ _ _ _ _ h hF => ⟨h.1, hF⟩
theorem main_1_2 : Claimed_1_2 := comes_1 fun _ _ _ _ _ _ h hF => ⟨h.2.1, hF⟩
end Jvm.Pilot.@@N@@
namespace Jvm.Pilot.@@N@@
open Jvm Jvm.ClassFile Sem Op Lib Jvm.Free Jvm.Stand Jvm.Pilot.@@N@@.Jvm.D
/-! MADE BY PROGRAM (witnessworld.py) out of the Statement's table words and the real class files: 16 classes; the members and pool entries that the words name. The judged class is class 1, her method 1. -/
namespace start1
open Jvm.ClassFile
def u (s : String) : CpInfo := .utf8 (stringToUtf16 s)
/-- a pool by its gaps: so many unusable entries, then the entry; so many at the end -/
def gap : Nat → List CpInfo → List CpInfo
  | 0, r => r
  | n + 1, r => .unusable :: gap n r
def poolList (es : List (Nat × CpInfo)) (last : Nat) : List CpInfo := es.foldr (fun e r => gap e.1 (e.2 :: r)) (gap last [])
def pool (es : List (Nat × CpInfo)) (last : Nat) : Array CpInfo := ⟨poolList es last⟩
def fileOf (pool : Array CpInfo) (this : Nat) (attrs : Array Attribute := #[]) (ms : Array MethodInfo := #[]) (fl : Nat := 33) (sup : Nat := 0) (ifs : Array Nat := #[]) (fds : Array FieldInfo := #[]) : ClassFile where
  minorVersion := 0
  majorVersion := 65
  constantPool := pool
  accessFlags := fl
  thisClass := this
  superClass := sup
  interfaces := ifs
  fields := fds
  methods := ms
  attributes := attrs
def plain (name : String) (sup : Option ClassId) : Class where
  name := name
  kind := .ordinary
  loader := none
  accessFlags := 33
  super := sup
  interfaces := #[]
  cf := none
  fields := #[]
  methods := #[]
  instanceTypes := #[]
  staticTypes := #[]
  resolved := #[]
  callSites := []
  init := .initialized
  statics := none
  mirror := none

def pool0 : Array CpInfo := pool [(5, u "<init>"), (0, u "()V"), (1, .class_ 10), (1, u "java/lang/Object")] 113

def k0c0 : Code := { maxStack := 0, maxLocals := 1, code := object_method_1_code, exceptionTable := #[], attributes := #[] }
def k0m0 : Method := { name := "<init>", desc := "()V", sig := { parameters := [], returnType := none }, accessFlags := 1, code := some k0c0 }
/-- java/lang/Object -/
def k0 : Class := { plain "java/lang/Object" none with
  accessFlags := 33
  interfaces := #[]
  cf := some (fileOf pool0 8 #[] #[{ accessFlags := 1, nameIndex := 5, descriptorIndex := 6, attributes := #[] }] 33 0 #[] #[])
  fields := #[]
  methods := #[k0m0]
  instanceTypes := #[]
  staticTypes := #[]
  resolved := Array.replicate 124 none
  statics := none }

def pool1 : Array CpInfo := pool [(2, .class_ 4), (1, u "java/lang/Object"), (0, u "<init>"), (0, u "()V"), (0, .integer 2147483647), (0, .methodref 9 10), (0, .class_ 11), (0, .nameAndType 12 13), (0, u "java/lang/Math"), (0, u "max"), (0, u "(II)I"), (0, .long 4294967295), (3, .class_ 19), (0, u "com/example/install_warden/installwarden/zip/ZipArchive$Entry"), (0, .string 21), (0, u "a"), (0, .methodref 18 23), (0, .nameAndType 5 24), (0, u "(Ljava/lang/String;IIJJJJ)V"), (0, .methodref 18 26), (0, .nameAndType 27 28), (0, u "isStoredAligned"), (0, u "(I)Z"), (0, .class_ 30), (0, u "com/example/install_warden/installwarden/zip/EntryIsStoredAlignedPinLaw"), (2, u "law"), (0, u "(IIIJI)Z")] 5

def k1m0 : Method := { name := "<init>", desc := "()V", sig := { parameters := [], returnType := none }, accessFlags := 1, code := none }
def k1c1 : Code := { maxStack := 13, maxLocals := 15, code := code, exceptionTable := #[], attributes := #[] }
def k1m1 : Method := { name := "law", desc := "(IIIJI)Z", sig := { parameters := [.int, .int, .int, .long, .int], returnType := some .boolean }, accessFlags := 9, code := some k1c1 }
/-- com/example/install_warden/installwarden/zip/EntryIsStoredAlignedPinLaw -/
def k1 : Class := { plain "com/example/install_warden/installwarden/zip/EntryIsStoredAlignedPinLaw" (some 0) with
  accessFlags := 49
  interfaces := #[]
  cf := some (fileOf pool1 29 #[] #[{ accessFlags := 1, nameIndex := 5, descriptorIndex := 6, attributes := #[] }, { accessFlags := 9, nameIndex := 33, descriptorIndex := 34, attributes := #[] }] 49 2 #[] #[])
  fields := #[]
  methods := #[k1m0, k1m1]
  instanceTypes := #[]
  staticTypes := #[]
  resolved := Array.replicate 40 none
  statics := none }

def pool2 : Array CpInfo := pool [(1, .class_ 2), (0, u "java/lang/Math"), (1, .class_ 6), (1, u "java/lang/Object"), (0, u "<init>"), (0, u "()V"), (89, .class_ 100), (1, u "java/lang/Math$RandomNumberGeneratorHolder"), (71, u "negativeZeroFloatBits"), (0, u "J"), (2, u "negativeZeroDoubleBits"), (21, u "max"), (46, u "$assertionsDisabled"), (0, u "Z"), (88, u "(II)I"), (2, u "twoToTheDoubleScaleDown"), (0, u "D"), (4, u "twoToTheDoubleScaleUp"), (9, u "E"), (3, u "PI"), (2, u "TAU"), (2, u "DEGREES_TO_RADIANS"), (0, u "RADIANS_TO_DEGREES")] 94

def k2m0 : Method := { name := "<init>", desc := "()V", sig := { parameters := [], returnType := none }, accessFlags := 2, code := none }
def k2c1 : Code := { maxStack := 2, maxLocals := 2, code := jdk_29_method_65_code, exceptionTable := #[], attributes := #[] }
def k2m1 : Method := { name := "max", desc := "(II)I", sig := { parameters := [.int, .int], returnType := some .int }, accessFlags := 9, code := some k2c1 }
/-- java/lang/Math -/
def k2 : Class := { plain "java/lang/Math" (some 0) with
  accessFlags := 49
  interfaces := #[]
  cf := some (fileOf pool2 1 #[.nestMembers #[98]] #[{ accessFlags := 2, nameIndex := 7, descriptorIndex := 8, attributes := #[] }, { accessFlags := 9, nameIndex := 198, descriptorIndex := 335, attributes := #[] }] 49 4 #[] #[{ accessFlags := 25, nameIndex := 354, descriptorIndex := 339, attributes := #[] }, { accessFlags := 25, nameIndex := 358, descriptorIndex := 339, attributes := #[] }, { accessFlags := 25, nameIndex := 361, descriptorIndex := 339, attributes := #[] }, { accessFlags := 26, nameIndex := 364, descriptorIndex := 339, attributes := #[] }, { accessFlags := 26, nameIndex := 365, descriptorIndex := 339, attributes := #[] }, { accessFlags := 26, nameIndex := 172, descriptorIndex := 173, attributes := #[] }, { accessFlags := 26, nameIndex := 176, descriptorIndex := 173, attributes := #[] }, { accessFlags := 8, nameIndex := 344, descriptorIndex := 339, attributes := #[] }, { accessFlags := 8, nameIndex := 338, descriptorIndex := 339, attributes := #[] }, { accessFlags := 4120, nameIndex := 245, descriptorIndex := 246, attributes := #[] }])
  fields := #[{ name := "E", type := .double, accessFlags := 25, slot := 0, constantValue := 0 }, { name := "PI", type := .double, accessFlags := 25, slot := 1, constantValue := 0 }, { name := "TAU", type := .double, accessFlags := 25, slot := 2, constantValue := 0 }, { name := "DEGREES_TO_RADIANS", type := .double, accessFlags := 26, slot := 3, constantValue := 0 }, { name := "RADIANS_TO_DEGREES", type := .double, accessFlags := 26, slot := 4, constantValue := 0 }, { name := "negativeZeroFloatBits", type := .long, accessFlags := 26, slot := 5, constantValue := 0 }, { name := "negativeZeroDoubleBits", type := .long, accessFlags := 26, slot := 6, constantValue := 0 }, { name := "twoToTheDoubleScaleUp", type := .double, accessFlags := 8, slot := 7, constantValue := 0 }, { name := "twoToTheDoubleScaleDown", type := .double, accessFlags := 8, slot := 8, constantValue := 0 }, { name := "$assertionsDisabled", type := .boolean, accessFlags := 4120, slot := 9, constantValue := 0 }]
  methods := #[k2m0, k2m1]
  instanceTypes := #[]
  staticTypes := #[.double, .double, .double, .double, .double, .long, .long, .double, .double, .boolean]
  resolved := Array.replicate 460 none
  statics := none }

def pool3 : Array CpInfo := pool [(1, .methodref 2 3), (0, .class_ 4), (0, .nameAndType 5 6), (0, u "java/lang/Object"), (0, u "<init>"), (0, u "()V"), (0, .class_ 8), (0, u "java/lang/Record")] 13

def k3c0 : Code := { maxStack := 1, maxLocals := 1, code := jdk_30_method_1_code, exceptionTable := #[], attributes := #[] }
def k3m0 : Method := { name := "<init>", desc := "()V", sig := { parameters := [], returnType := none }, accessFlags := 4, code := some k3c0 }
/-- java/lang/Record -/
def k3 : Class := { plain "java/lang/Record" (some 0) with
  accessFlags := 1057
  interfaces := #[]
  cf := some (fileOf pool3 7 #[] #[{ accessFlags := 4, nameIndex := 5, descriptorIndex := 6, attributes := #[] }] 1057 2 #[] #[])
  fields := #[]
  methods := #[k3m0]
  instanceTypes := #[]
  staticTypes := #[]
  resolved := Array.replicate 22 none
  statics := none }

def pool4 : Array CpInfo := pool [(1, .class_ 2), (0, u "com/example/install_warden/installwarden/zip/ZipArchive"), (0, .methodref 4 5), (0, .class_ 6), (0, .nameAndType 7 8), (0, u "java/lang/Record"), (0, u "<init>"), (0, u "()V"), (0, .fieldref 10 11), (0, .class_ 12), (0, .nameAndType 13 14), (0, u "com/example/install_warden/installwarden/zip/ZipArchive$Entry"), (0, u "name"), (0, u "Ljava/lang/String;"), (0, .fieldref 10 16), (0, .nameAndType 17 18), (0, u "method"), (0, u "I"), (0, .fieldref 10 20), (0, .nameAndType 21 18), (0, u "crc32"), (0, .fieldref 10 23), (0, .nameAndType 24 25), (0, u "compressedSize"), (0, u "J"), (0, .fieldref 10 27), (0, .nameAndType 28 25), (0, u "size"), (0, .fieldref 10 30), (0, .nameAndType 31 25), (0, u "localHeaderOffset"), (0, .fieldref 10 33), (0, .nameAndType 34 25), (0, u "dataOffset"), (12, u "(Ljava/lang/String;IIJJJJ)V"), (3, u "isStoredAligned"), (0, u "(I)Z")] 33

def k4c0 : Code := { maxStack := 3, maxLocals := 12, code := prog_99_method_1_code, exceptionTable := #[], attributes := #[] }
def k4m0 : Method := { name := "<init>", desc := "(Ljava/lang/String;IIJJJJ)V", sig := { parameters := [(.object "java/lang/String"), .int, .int, .long, .long, .long, .long], returnType := none }, accessFlags := 1, code := some k4c0 }
def k4c1 : Code := { maxStack := 4, maxLocals := 2, code := prog_99_method_2_code, exceptionTable := #[], attributes := #[] }
def k4m1 : Method := { name := "isStoredAligned", desc := "(I)Z", sig := { parameters := [.int], returnType := some .boolean }, accessFlags := 1, code := some k4c1 }
/-- com/example/install_warden/installwarden/zip/ZipArchive$Entry -/
def k4 : Class := { plain "com/example/install_warden/installwarden/zip/ZipArchive$Entry" (some 3) with
  accessFlags := 49
  interfaces := #[]
  cf := some (fileOf pool4 10 #[.nestHost 1] #[{ accessFlags := 1, nameIndex := 7, descriptorIndex := 47, attributes := #[] }, { accessFlags := 1, nameIndex := 51, descriptorIndex := 52, attributes := #[] }] 49 4 #[] #[{ accessFlags := 18, nameIndex := 13, descriptorIndex := 14, attributes := #[] }, { accessFlags := 18, nameIndex := 17, descriptorIndex := 18, attributes := #[] }, { accessFlags := 18, nameIndex := 21, descriptorIndex := 18, attributes := #[] }, { accessFlags := 18, nameIndex := 24, descriptorIndex := 25, attributes := #[] }, { accessFlags := 18, nameIndex := 28, descriptorIndex := 25, attributes := #[] }, { accessFlags := 18, nameIndex := 31, descriptorIndex := 25, attributes := #[] }, { accessFlags := 18, nameIndex := 34, descriptorIndex := 25, attributes := #[] }])
  fields := #[{ name := "name", type := (.object "java/lang/String"), accessFlags := 18, slot := 0, constantValue := 0 }, { name := "method", type := .int, accessFlags := 18, slot := 1, constantValue := 0 }, { name := "crc32", type := .int, accessFlags := 18, slot := 2, constantValue := 0 }, { name := "compressedSize", type := .long, accessFlags := 18, slot := 3, constantValue := 0 }, { name := "size", type := .long, accessFlags := 18, slot := 4, constantValue := 0 }, { name := "localHeaderOffset", type := .long, accessFlags := 18, slot := 5, constantValue := 0 }, { name := "dataOffset", type := .long, accessFlags := 18, slot := 6, constantValue := 0 }]
  methods := #[k4m0, k4m1]
  instanceTypes := #[(.object "java/lang/String"), .int, .int, .long, .long, .long, .long]
  staticTypes := #[]
  resolved := Array.replicate 86 none
  statics := none }

def pool5 : Array CpInfo := pool [(1, .class_ 2), (0, u "java/io/Serializable"), (0, .class_ 4), (0, u "java/lang/Object")] 2

/-- java/io/Serializable -/
def k5 : Class := { plain "java/io/Serializable" (some 0) with
  accessFlags := 1537
  interfaces := #[]
  cf := some (fileOf pool5 1 #[] #[] 1537 3 #[] #[])
  fields := #[]
  methods := #[]
  instanceTypes := #[]
  staticTypes := #[]
  resolved := Array.replicate 7 none
  statics := none }

def pool6 : Array CpInfo := pool [(1, .class_ 2), (0, u "java/lang/Comparable"), (0, .class_ 4), (0, u "java/lang/Object")] 7

/-- java/lang/Comparable -/
def k6 : Class := { plain "java/lang/Comparable" (some 0) with
  accessFlags := 1537
  interfaces := #[]
  cf := some (fileOf pool6 1 #[] #[] 1537 3 #[] #[])
  fields := #[]
  methods := #[]
  instanceTypes := #[]
  staticTypes := #[]
  resolved := Array.replicate 12 none
  statics := none }

def pool7 : Array CpInfo := pool [(2, .class_ 4), (1, u "java/lang/CharSequence"), (42, .class_ 48), (0, u "java/lang/CharSequence$1CodePointIterator"), (10, .class_ 60), (0, u "java/lang/CharSequence$1CharIterator"), (5, .class_ 67), (0, u "java/lang/Object")] 63

/-- java/lang/CharSequence -/
def k7 : Class := { plain "java/lang/CharSequence" (some 0) with
  accessFlags := 1537
  interfaces := #[]
  cf := some (fileOf pool7 2 #[.nestMembers #[47, 59]] #[] 1537 66 #[] #[])
  fields := #[]
  methods := #[]
  instanceTypes := #[]
  staticTypes := #[]
  resolved := Array.replicate 131 none
  statics := none }

def pool8 : Array CpInfo := pool [(1, .class_ 2), (0, u "java/lang/constant/Constable"), (0, .class_ 4), (0, u "java/lang/Object")] 6

/-- java/lang/constant/Constable -/
def k8 : Class := { plain "java/lang/constant/Constable" (some 0) with
  accessFlags := 1537
  interfaces := #[]
  cf := some (fileOf pool8 1 #[] #[] 1537 3 #[] #[])
  fields := #[]
  methods := #[]
  instanceTypes := #[]
  staticTypes := #[]
  resolved := Array.replicate 11 none
  statics := none }

def pool9 : Array CpInfo := pool [(1, .class_ 2), (0, u "java/lang/constant/ConstantDesc"), (0, .class_ 4), (0, u "java/lang/Object")] 32

/-- java/lang/constant/ConstantDesc -/
def k9 : Class := { plain "java/lang/constant/ConstantDesc" (some 0) with
  accessFlags := 1537
  interfaces := #[]
  cf := some (fileOf pool9 1 #[] #[] 1537 3 #[] #[])
  fields := #[]
  methods := #[]
  instanceTypes := #[]
  staticTypes := #[]
  resolved := Array.replicate 37 none
  statics := none }

def pool10 : Array CpInfo := pool [(2, .class_ 4), (1, u "java/lang/Object"), (0, u "<init>"), (0, u "()V"), (3, .class_ 12), (1, u "java/lang/String"), (0, u "value"), (0, u "[B"), (2, u "coder"), (0, u "B"), (2, u "hash"), (0, u "I"), (2, u "hashIsZero"), (0, u "Z"), (13, u "COMPACT_STRINGS"), (534, .class_ 576), (0, u "java/lang/CharSequence"), (22, u "CASE_INSENSITIVE_ORDER"), (0, u "Ljava/util/Comparator;"), (500, u "serialPersistentFields"), (0, u "[Ljava/io/ObjectStreamField;"), (0, .class_ 1104), (0, u "java/lang/String$CaseInsensitiveComparator"), (1, .class_ 1107), (0, u "java/io/Serializable"), (0, .class_ 1109), (0, u "java/lang/Comparable"), (0, .class_ 1111), (0, u "java/lang/constant/Constable"), (0, .class_ 1113), (0, u "java/lang/constant/ConstantDesc"), (2, u "serialVersionUID"), (0, u "J"), (3, u "REPL"), (0, u "C"), (2, u "LATIN1"), (1, u "UTF16")] 323

def k10m0 : Method := { name := "<init>", desc := "()V", sig := { parameters := [], returnType := none }, accessFlags := 1, code := none }
/-- java/lang/String -/
def k10 : Class := { plain "java/lang/String" (some 0) with
  accessFlags := 49
  interfaces := #[5, 6, 7, 8, 9]
  cf := some (fileOf pool10 10 #[.nestMembers #[1103]] #[{ accessFlags := 1, nameIndex := 5, descriptorIndex := 6, attributes := #[] }] 49 2 #[1106, 1108, 575, 1110, 1112] #[{ accessFlags := 18, nameIndex := 13, descriptorIndex := 14, attributes := #[] }, { accessFlags := 18, nameIndex := 17, descriptorIndex := 18, attributes := #[] }, { accessFlags := 2, nameIndex := 21, descriptorIndex := 22, attributes := #[] }, { accessFlags := 2, nameIndex := 25, descriptorIndex := 26, attributes := #[] }, { accessFlags := 26, nameIndex := 1116, descriptorIndex := 1117, attributes := #[] }, { accessFlags := 24, nameIndex := 40, descriptorIndex := 26, attributes := #[] }, { accessFlags := 26, nameIndex := 1101, descriptorIndex := 1102, attributes := #[] }, { accessFlags := 26, nameIndex := 1121, descriptorIndex := 1122, attributes := #[] }, { accessFlags := 25, nameIndex := 599, descriptorIndex := 600, attributes := #[] }, { accessFlags := 24, nameIndex := 1125, descriptorIndex := 18, attributes := #[] }, { accessFlags := 24, nameIndex := 1127, descriptorIndex := 18, attributes := #[] }])
  fields := #[{ name := "value", type := (.array .byte), accessFlags := 18, slot := 0, constantValue := 0 }, { name := "coder", type := .byte, accessFlags := 18, slot := 1, constantValue := 0 }, { name := "hash", type := .int, accessFlags := 2, slot := 2, constantValue := 0 }, { name := "hashIsZero", type := .boolean, accessFlags := 2, slot := 3, constantValue := 0 }, { name := "serialVersionUID", type := .long, accessFlags := 26, slot := 0, constantValue := 0 }, { name := "COMPACT_STRINGS", type := .boolean, accessFlags := 24, slot := 1, constantValue := 0 }, { name := "serialPersistentFields", type := (.array (.object "java/io/ObjectStreamField")), accessFlags := 26, slot := 2, constantValue := 0 }, { name := "REPL", type := .char, accessFlags := 26, slot := 3, constantValue := 0 }, { name := "CASE_INSENSITIVE_ORDER", type := (.object "java/util/Comparator"), accessFlags := 25, slot := 4, constantValue := 0 }, { name := "LATIN1", type := .byte, accessFlags := 24, slot := 5, constantValue := 0 }, { name := "UTF16", type := .byte, accessFlags := 24, slot := 6, constantValue := 0 }]
  methods := #[k10m0]
  instanceTypes := #[(.array .byte), .byte, .int, .boolean]
  staticTypes := #[.long, .boolean, (.array (.object "java/io/ObjectStreamField")), .char, (.object "java/util/Comparator"), .byte, .byte]
  resolved := Array.replicate 1451 none
  statics := none }

def pool11 : Array CpInfo := pool [(1, u "java/lang/Cloneable"), (0, .class_ 1), (0, u "java/lang/Object"), (0, .class_ 3)] 3

/-- java/lang/Cloneable -/
def k11 : Class := { plain "java/lang/Cloneable" (some 0) with
  accessFlags := 1537
  interfaces := #[]
  cf := some (fileOf pool11 2 #[] #[] 1537 4 #[] #[])
  fields := #[]
  methods := #[]
  instanceTypes := #[]
  staticTypes := #[]
  resolved := Array.replicate 8 none
  statics := none }

/-- the primitive byte -/
def k12 : Class := { plain "byte" none with kind := .primitive 'B', accessFlags := 0x411 }
/-- [B -/
def k13 : Class := { plain "[B" (some 0) with kind := .array 12 .byte, interfaces := #[11, 5], accessFlags := 1041 }

/-- the primitive int -/
def k14 : Class := { plain "int" none with kind := .primitive 'I', accessFlags := 0x411 }
/-- [I -/
def k15 : Class := { plain "[I" (some 0) with kind := .array 14 .int, interfaces := #[11, 5], accessFlags := 1041 }

def heap : Heap := #[]
def classes : Array Class := #[k0, k1, k2, k3, k4, k5, k6, k7, k8, k9, k10, k11, k12, k13, k14, k15]
def interned : List (Array UInt16 × Addr) := []
def slotsUsed : Nat := 0
def theMethod : MethodId := ⟨1, 1⟩
def args0 : Array Value := #[.int 0, .int 0, .int 4, .long 3, .int 1]
def aboutOver (below : List Frame) : State where
  vm := { classes := classes, interned := interned.toArray }
  heap := heap
  slotsUsed := slotsUsed
  threads := #[{ frames := .invoking theMethod args0 :: below }]
def below0 : List Frame := [.native { method := ⟨0, 0⟩, args := #[] }]
def about1 : State := aboutOver below0
def p0 : Program := .bare "" "" ""
def e0 : Env := launch0.env 0 0 0
theorem w_frames : about1.frames = Frame.invoking theMethod args0 :: below0 := rfl
set_option maxRecDepth 65536 in
theorem w_args : argsFit about1.vm theMethod args0 = true := by decide +kernel
set_option maxRecDepth 65536 in
theorem w_heap : heapFits about1 = true := by decide +kernel
set_option maxRecDepth 65536 in
theorem w_runnable : about1.curStatus? = some .runnable := by decide +kernel
set_option maxRecDepth 65536 in
theorem w_alone : about1.alone = true := by decide +kernel
set_option maxRecDepth 65536 in
theorem w_named : about1.methodNamed? x = some theMethod := by decide +kernel
set_option maxRecDepth 65536 in
theorem w_hears : about1.hears theMethod below0 = true := by decide +kernel
set_option maxRecDepth 65536 in
theorem w_ripe : about1.ripe theMethod args0 below0 = true := by decide +kernel
theorem w_running : about1.status = .running := rfl
set_option maxRecDepth 65536 in
theorem w_room : about1.hasRoom e0.platform room_1 = true :=
  launch0.hasRoom_least _ room_1 (by decide +kernel) (by decide +kernel) (by decide +kernel) (by decide +kernel) (by decide +kernel) (by decide +kernel)
theorem allAtoms_all (ts : List Jvm.Cond) (a : Array Jvm.Value) (st : Jvm.State) : (allAtoms ts).before a st = ts.all (fun c => c.before a st) := by
  induction ts with
  | nil => rfl
  | cons c t ih =>
    show (Jvm.Cond.and c (allAtoms t)).before a st = _
    rw [Jvm.Cond.before_and, ih, List.all_cons]
def words1 : List Jvm.Cond := Jvm.Cond.code x code maxLocals ret :: tables_1
/-- a 'code' word, met by the world's own term for the bytes: nothing is compared byte by byte -/
theorem code_word {y : MethodName} {bytes : ByteArray} {mx : Nat} {rt : Option FieldType} {a : Array Value} {s : State} {m : MethodId} {meth : Method} {c : Code} (h1 : s.methodNamed? y = some m) (h2 : s.vm.method? m = some meth) (h3 : meth.code = some c) (h4 : c.code = bytes)
    (h5 : (c.maxLocals == mx && c.exceptionTable.isEmpty && decide (c.maxStack ≤ mostOperands) && decide (meth.sig.returnType = rt) && !meth.locks && decide (parseMethodDescriptor y.desc = some meth.sig)) = true) : (Jvm.Cond.code y bytes mx rt).before a s = true := by
  simp only [Bool.and_eq_true, beq_iff_eq, Bool.not_eq_true', decide_eq_true_eq] at h5
  obtain ⟨⟨⟨⟨⟨g1, g2⟩, g3⟩, g4⟩, g5⟩, g6⟩ := h5
  simp [Cond.before, Cond.holds, Cond.value, h1, h2, h3, h4, g1, g2, g3, g4, g5, g6]
def isCode : Jvm.Cond → Bool
  | .code _ _ _ _ => true
  | _ => false
theorem all_split {L : List Jvm.Cond} {P : Jvm.Cond → Bool} (h1 : L.all (fun c => isCode c || P c) = true) (h2 : ∀ c ∈ L.filter isCode, P c = true) : L.all P = true := by
  refine List.all_eq_true.mpr fun c hc => ?_
  have h := List.all_eq_true.mp h1 c hc
  rcases Bool.eq_false_or_eq_true (isCode c) with hi | hi
  · exact h2 c (List.mem_filter.mpr ⟨hc, hi⟩)
  · simpa [hi] using h
set_option maxRecDepth 65536 in
theorem w_c0 : (Jvm.Cond.code x code maxLocals ret).before args0 about1 = true := code_word (m := ⟨1, 1⟩) (meth := k1m1) (c := k1c1) (by decide +kernel) rfl rfl rfl (by decide +kernel)
set_option maxRecDepth 65536 in
theorem w_c1 : (Jvm.Cond.code ({ cls := "java/lang/Math", name := "max", desc := "(II)I" } : Jvm.MethodName) jdk_29_method_65_code (2 : Nat) (Option.some Jvm.ClassFile.FieldType.int)).before args0 about1 = true := code_word (m := ⟨2, 1⟩) (meth := k2m1) (c := k2c1) (by decide +kernel) rfl rfl rfl (by decide +kernel)
set_option maxRecDepth 65536 in
theorem w_c2 : (Jvm.Cond.code ({ cls := "com/example/install_warden/installwarden/zip/ZipArchive$Entry", name := "<init>", desc := "(Ljava/lang/String;IIJJJJ)V" } : Jvm.MethodName) prog_99_method_1_code (12 : Nat) (Option.none : Option Jvm.ClassFile.FieldType)).before args0 about1 = true := code_word (m := ⟨4, 0⟩) (meth := k4m0) (c := k4c0) (by decide +kernel) rfl rfl rfl (by decide +kernel)
set_option maxRecDepth 65536 in
theorem w_c3 : (Jvm.Cond.code ({ cls := "java/lang/Record", name := "<init>", desc := "()V" } : Jvm.MethodName) jdk_30_method_1_code (1 : Nat) (Option.none : Option Jvm.ClassFile.FieldType)).before args0 about1 = true := code_word (m := ⟨3, 0⟩) (meth := k3m0) (c := k3c0) (by decide +kernel) rfl rfl rfl (by decide +kernel)
set_option maxRecDepth 65536 in
theorem w_c4 : (Jvm.Cond.code ({ cls := "java/lang/Object", name := "<init>", desc := "()V" } : Jvm.MethodName) object_method_1_code (1 : Nat) (Option.none : Option Jvm.ClassFile.FieldType)).before args0 about1 = true := code_word (m := ⟨0, 0⟩) (meth := k0m0) (c := k0c0) (by decide +kernel) rfl rfl rfl (by decide +kernel)
set_option maxRecDepth 65536 in
theorem w_c5 : (Jvm.Cond.code ({ cls := "com/example/install_warden/installwarden/zip/ZipArchive$Entry", name := "isStoredAligned", desc := "(I)Z" } : Jvm.MethodName) prog_99_method_2_code (2 : Nat) (Option.some Jvm.ClassFile.FieldType.boolean)).before args0 about1 = true := code_word (m := ⟨4, 1⟩) (meth := k4m1) (c := k4c1) (by decide +kernel) rfl rfl rfl (by decide +kernel)
def codes1 : List Jvm.Cond := [Jvm.Cond.code x code maxLocals ret, Jvm.Cond.code ({ cls := "java/lang/Math", name := "max", desc := "(II)I" } : Jvm.MethodName) jdk_29_method_65_code (2 : Nat) (Option.some Jvm.ClassFile.FieldType.int), Jvm.Cond.code ({ cls := "com/example/install_warden/installwarden/zip/ZipArchive$Entry", name := "<init>", desc := "(Ljava/lang/String;IIJJJJ)V" } : Jvm.MethodName) prog_99_method_1_code (12 : Nat) (Option.none : Option Jvm.ClassFile.FieldType), Jvm.Cond.code ({ cls := "java/lang/Record", name := "<init>", desc := "()V" } : Jvm.MethodName) jdk_30_method_1_code (1 : Nat) (Option.none : Option Jvm.ClassFile.FieldType), Jvm.Cond.code ({ cls := "java/lang/Object", name := "<init>", desc := "()V" } : Jvm.MethodName) object_method_1_code (1 : Nat) (Option.none : Option Jvm.ClassFile.FieldType), Jvm.Cond.code ({ cls := "com/example/install_warden/installwarden/zip/ZipArchive$Entry", name := "isStoredAligned", desc := "(I)Z" } : Jvm.MethodName) prog_99_method_2_code (2 : Nat) (Option.some Jvm.ClassFile.FieldType.boolean)]
set_option maxRecDepth 65536 in
theorem codes_eq : words1.filter isCode = codes1 := rfl
theorem w_codes : ∀ c ∈ words1.filter isCode, c.before args0 about1 = true := by
  rw [codes_eq]
  intro c hc
  simp only [codes1, List.mem_cons, List.not_mem_nil, or_false] at hc
  rcases hc with rfl | rfl | rfl | rfl | rfl | rfl
  · exact w_c0
  · exact w_c1
  · exact w_c2
  · exact w_c3
  · exact w_c4
  · exact w_c5
set_option maxRecDepth 65536 in
theorem w_t1 : (words1.take 24).all (fun c => isCode c || c.before args0 about1) = true := by decide +kernel
set_option maxRecDepth 65536 in
theorem w_t2 : (words1.drop 24).all (fun c => isCode c || c.before args0 about1) = true := by decide +kernel
theorem w_tables : (allAtoms (Jvm.Cond.code x code maxLocals ret :: tables_1)).before args0 about1 = true := by
  rw [allAtoms_all]
  show words1.all (fun c => c.before args0 about1) = true
  refine all_split ?_ w_codes
  rw [← List.take_append_drop 24 words1, List.all_append, w_t1, w_t2]
  rfl
set_option maxRecDepth 65536 in
theorem w_case : (Jvm.Cond.and given_1 narrow_1).before args0 about1 = true := by decide +kernel
theorem w_applies : (headSpec (Jvm.Cond.code x code maxLocals ret :: tables_1) room_1).applies x e0.platform about1 = true :=
  (Spec.applies_iff w_frames).mpr ⟨w_running, w_runnable, w_alone, w_named, w_hears, w_ripe, w_room, w_tables⟩
theorem atStart : AtStart classFile x code maxLocals ret World_1 tables_1 room_1 Calls_1 rest_1 Pre_1 launch0 p0 e0 about1 theMethod args0 below0 :=
  ⟨lists_1, trivial, launch0.admits_env _ _ _, launch0.least_env, fairChoices_fair.cas, fairChoices_fair.clock, w_frames, w_args, w_heap, w_applies, trivial, trivial, w_case⟩
end start1
theorem witness_1 : WitnessClaimed_1 := ⟨start1.p0, start1.e0, start1.about1, start1.theMethod, start1.args0, start1.below0, start1.atStart⟩
end Jvm.Pilot.@@N@@
