import JvmDerived
import JvmDerived.Pilot.@@N@@Statement
import JvmDerived.Pilot.@@N@@Code
set_option linter.unusedVariables false
set_option linter.unusedSimpArgs false
namespace Jvm.Pilot.@@N@@
open Jvm Jvm.ClassFile Sem Op Lib Jvm.Free Jvm.Stand Jvm.LawKit Jvm.RoadKit Bundle Jvm.Pilot.@@N@@.Jvm.D
/-- from here the run comes to a state of which G holds -/
def OWay (p : Program) (e : Env) (below : List Frame) (G : State → Prop) (T : State) (g : JFrame) : Prop := ∃ t, Steps p.tables e below (T.setTop g) t ∧ G t
/-- how a body ends: it returned, with what Q says of its value, the heap and the places written -/
def OEnd (s : State) (below : List Frame) (Q : Option Value → Heap → List Loc → Prop) (cs sl : Nat) (t : State) : Prop := ∃ o, t.status = .running ∧ Ended t below o ∧ ∃ v L, o = .returned v ∧ Q v t.heap L ∧ FrameEnd s o t L cs sl
/-- a body's contract, as a call wants it -/
def OCon (l : Launch) (y : MethodName) (bytes : ByteArray) (maxL : Nat) (rt : Option FieldType) (ws : List Jvm.Cond) (rm : Room) (Z : State) (as' : Array Value) (h : Heap) (Q : Option Value → Heap → List Loc → Prop) : Prop :=
  MetFree l y (head1 (Jvm.Cond.code y bytes maxL rt :: ws) rm) (fun a U => a = as' ∧ Z.Warmed39 U.vm ∧ U.heap = h) (fun _ _ _ _ _ => True) (fun _ U o U' => ∃ v L, o = .returned v ∧ Q v U'.heap L ∧ FrameEnd U o U' L rm.cells rm.slots)
section Own
variable {p : Program} {l : Launch} {e : Env} {R : Room} {s : State} {m : MethodId} {args : Array Value} {below : List Frame} {meth : Method} {c : Code} {T T' : State} {locs : List Loc} {cells slots : Nat} {Z : State} {a0 : Array Value} {h : Heap} {G : State → Prop} {g g' : JFrame} {Q : Option Value → Heap → List Loc → Prop} {cs sl : Nat}
theorem ogo (q : ∀ t, Steps p.tables e below (T'.setTop g') t → Steps p.tables e below (T.setTop g) t) (w : OWay p e below G T' g') : OWay p e below G T g := by
  obtain ⟨t, h1, h2⟩ := w
  exact ⟨t, q t h1, h2⟩
theorem ogoS (q : Steps p.tables e below (T.setTop g) (T'.setTop g')) (w : OWay p e below G T' g') : OWay p e below G T g := ogo (fun _ k => q.trans k) w
theorem ogoE (q : g = g') (w : OWay p e below G T g') : OWay p e below G T g := q ▸ w
theorem ocon {y : MethodName} {bytes : ByteArray} {maxL : Nat} {rt : Option FieldType} {ws : List Jvm.Cond} {rm : Room} {as' : Array Value} (hp : plainFor y = true)
    (body : ∀ (p : Program) (e : Env) (s : State) (m : MethodId) (below : List Frame) (meth : Method) (c : Code) (s₁ : State), p.tables.exec = Jvm.exec → c.code = bytes → c.maxLocals = maxL → s.vm.findClass y.cls = some m.cls → meth.name = y.name → meth.sig.returnType = rt → meth.locks = false → Z.Warmed39 s.vm →
      Stand p l e rm s m as' below meth c s₁ [] 0 0 → s₁.heap = h → OWay p e below (OEnd s below Q rm.cells rm.slots) s₁ (entryFrame m as' maxL)) : OCon l y bytes maxL rt ws rm Z as' h Q := by
  refine MetFree.of_bodySF hp hisR ?_
  intro p e s m args below meth c s₁ Bd hml0 hP hK
  obtain ⟨rfl, hZ, hh⟩ := hP
  obtain ⟨t, h1, o, h2, h3, h4⟩ := body p e s m below meth c s₁ Bd.exec Bd.bytes hml0 (findClass_of_methodNamed Bd.named) (name_of_methodNamed Bd.named Bd.method).1 Bd.returns Bd.notSynchronized hZ (Stand.of_body Bd) (by rw [← hh, Bd.state]; rfl)
  exact ⟨t, o, h1, h2, h3, h4⟩
theorem wRetN (X : Stand p l e R s m args below meth c T locs cells slots) (hx : p.tables.exec = Jvm.exec) {pc : Nat} {Ls : Array Slot} {z : Int32} {t : FieldType} {rest : List Value} (hret : meth.sig.returnType = some t) (hlk : meth.locks = false) (ht : t = .boolean ∨ t = .byte ∨ t = .char ∨ t = .short)
    (hd : decode c.code pc = .ok (.ireturn, 1)) (hc : cells ≤ cs) (hs : slots ≤ sl) (eT : T.heap = h) (hq : Q (some (.int (nar t z))) h locs) : OWay p e below (OEnd s below Q cs sl) T (mkF m pc Ls (.int z :: rest)) := by
  obtain ⟨fs, hr, hrun, hended, hW, hsame⟩ := X.leave (v := some (.int (nar t z))) (fun q => by rw [hret] at q; cases q) hlk
  exact ⟨_, retN X hx hret ht hd hr, _, hrun, hended, _, _, rfl, by subst eT; exact hq, ⟨_, rfl⟩, hW, hsame.mono hc hs⟩
theorem wRet (X : Stand p l e R s m args below meth c T locs cells slots) (hx : p.tables.exec = Jvm.exec) {pc : Nat} {Ls : Array Slot} {w : Value} {t : FieldType} {i : Instr} {rest : List Value} (hret : meth.sig.returnType = some t) (hlk : meth.locks = false) (hn : narrow t w = w)
    (hi : (i = .ireturn ∧ (t = .int ∨ t = .boolean ∨ t = .byte ∨ t = .char ∨ t = .short) ∧ ∃ z, w = .int z) ∨ (i = .lreturn ∧ t = .long ∧ ∃ z, w = .long z) ∨ (i = .dreturn ∧ t = .double ∧ ∃ z, w = .double z) ∨ (i = .freturn ∧ t = .float ∧ ∃ z, w = .float z) ∨ (i = .areturn ∧ t.isReference = true ∧ w.isRef = true))
    (hd : decode c.code pc = .ok (i, 1)) (hc : cells ≤ cs) (hs : slots ≤ sl) (eT : T.heap = h) (hq : Q (some w) h locs) : OWay p e below (OEnd s below Q cs sl) T (mkF m pc Ls (w :: rest)) := by
  obtain ⟨fs, hr, hrun, hended, hW, hsame⟩ := X.leave (v := some w) (fun q => by rw [hret] at q; cases q) hlk
  exact ⟨_, retOut X hx hret hn hi hd hr, _, hrun, hended, _, _, rfl, by subst eT; exact hq, ⟨_, rfl⟩, hW, hsame.mono hc hs⟩
theorem wRetV (X : Stand p l e R s m args below meth c T locs cells slots) (hx : p.tables.exec = Jvm.exec) {pc : Nat} {Ls : Array Slot} (hret : meth.sig.returnType = none) (hlk : meth.locks = false)
    (hd : decode c.code pc = .ok (.return_, 1)) (hc : cells ≤ cs) (hs : slots ≤ sl) (eT : T.heap = h) (hq : Q none h locs) : OWay p e below (OEnd s below Q cs sl) T (mkF m pc Ls []) := by
  obtain ⟨fs, hr, hrun, hended, hW, hsame⟩ := X.leave (v := none) (fun _ => rfl) hlk
  exact ⟨_, X.returnOut hx hret hd hr, _, hrun, hended, _, _, rfl, by subst eT; exact hq, ⟨_, rfl⟩, hW, hsame.mono hc hs⟩
theorem wStatic (X : Stand p l e R s m args below meth c T locs cells slots) (hx : p.tables.exec = Jvm.exec) (hZ : Z.Warmed39 s.vm) {own : String} {index : Nat} {y : MethodName} {bytes : ByteArray} {maxL : Nat} {rt : Option FieldType} {rm : Room} {as' : Array Value} (hown : s.vm.findClass own = some m.cls)
    (w1 : (Jvm.Cond.methodLink own index y).before a0 Z = true) (w2 : (Jvm.Cond.static y).before a0 Z = true) (w3 : (Jvm.Cond.initialized y.cls).before a0 Z = true) (w4 : (Jvm.Cond.code y bytes maxL rt).before a0 Z = true) (hy : y.cls ≠ "java/lang/invoke/MethodHandle" ∧ y.cls ≠ "java/lang/invoke/VarHandle")
    (hM : OCon l y bytes maxL rt [] rm Z as' h Q) (W : Nat) (hf : rm.frames + 1 ≤ R.frames) (hl : W + (maxL + 11) + rm.locals ≤ R.locals) {g : JFrame} (hg : g.method = m) (hsize : g.locals.size = c.maxLocals) {argsL rest : List Value} (hlen : ∀ sig, parseMethodDescriptor y.desc = some sig → argsL.length = sig.parameters.length)
    (hstack : g.stack = argsL.reverse ++ rest) (hW : 2 * g.monitorRoom + (rest.map fun v => v.category).sum ≤ W) (hd : decode c.code g.pc = .ok (.invokestatic index, 3)) (has : argsL.toArray = as') (eT : T.heap = h) (hc : cells + rm.cells ≤ R.cells) (hs : slots + rm.slots ≤ R.slots) :
    ∃ (v : Option Value) (T' : State) (L : List Loc), Stand p l e R s m args below meth c T' (locs ++ L) (cells + rm.cells) (slots + rm.slots) ∧ Q v T'.heap L ∧ ∀ target, Steps p.tables e below (T'.setTop { g with pc := g.pc + 3, stack := v.toList ++ rest }) target → Steps p.tables e below (T.setTop g) target := by
  obtain ⟨v, _, ⟨T1, L1, k1, n1⟩, -, X1, ⟨Lc, hQ, l1, y1, z1⟩, st⟩ := Jvm.LawKit.callS X hx (y := y) hown (mvT hZ w1) (mvT hZ w2) (mvT hZ w3) (mvT hZ w4) hy (backOf (W := W) hM hZ w4 w3 hf hl) (g := g) hg hsize (argsL := argsL) (rest := rest) hlen hstack hW hd (fun _ _ => ⟨has, eT, hc, hs⟩)
  dsimp only [Pt.U, Pt.locs, Pt.cells, Pt.slots] at X1 l1 y1 z1 st hQ
  subst l1 y1 z1
  exact ⟨v, T1, Lc, X1, hQ, st⟩
theorem wInit (X : Stand p l e R s m args below meth c T locs cells slots) (hx : p.tables.exec = Jvm.exec) (hZ : Z.Warmed39 s.vm) {own : String} {index : Nat} {y : MethodName} {bytes : ByteArray} {maxL : Nat} {rm : Room} {as' : Array Value} (hy1 : y.name = "<init>") (hown : s.vm.findClass own = some m.cls)
    (w1 : (Jvm.Cond.methodLink own index y).before a0 Z = true) (w2 : (Jvm.Cond.instanceMethod y).before a0 Z = true) (w3 : (Jvm.Cond.initialized y.cls).before a0 Z = true) (w4 : (Jvm.Cond.code y bytes maxL none).before a0 Z = true) (hy : y.cls ≠ "java/lang/invoke/MethodHandle" ∧ y.cls ≠ "java/lang/invoke/VarHandle")
    (hM : OCon l y bytes maxL none [] rm Z as' h Q) (W : Nat) (hf : rm.frames + 1 ≤ R.frames) (hl : W + (maxL + 11) + rm.locals ≤ R.locals) {g : JFrame} (hg : g.method = m) (hsize : g.locals.size = c.maxLocals) {a : Addr} {argsL rest : List Value} (hlen : ∀ sig, parseMethodDescriptor y.desc = some sig → argsL.length = sig.parameters.length)
    (hstack : g.stack = argsL.reverse ++ .ref a :: rest) (hW : 2 * g.monitorRoom + (rest.map fun v => v.category).sum ≤ W) (hd : decode c.code g.pc = .ok (.invokespecial index, 3)) (has : (.ref a :: argsL).toArray = as') (eT : T.heap = h) (hc : cells + rm.cells ≤ R.cells) (hs : slots + rm.slots ≤ R.slots) :
    ∃ (v : Option Value) (T' : State) (L : List Loc), Stand p l e R s m args below meth c T' (locs ++ L) (cells + rm.cells) (slots + rm.slots) ∧ Q v T'.heap L ∧ Steps p.tables e below (T.setTop g) (T'.setTop { g with pc := g.pc + 3, stack := v.toList ++ rest }) := by
  obtain ⟨v, _, ⟨T1, L1, k1, n1⟩, -, X1, ⟨Lc, hQ, l1, y1, z1⟩, st⟩ := X.specialBack hx (y := y) hy1 hown (mvT hZ w1) (mvT hZ w2) (mvT hZ w4) hy (backOf (W := W) hM hZ w4 w3 hf hl) (g := g) hg hsize (Steps.refl _) (a := a) (argsL := argsL) (rest := rest) hlen hstack hW hd (fun _ _ => ⟨has, eT, hc, hs⟩)
  dsimp only [Pt.U, Pt.locs, Pt.cells, Pt.slots] at X1 l1 y1 z1 st hQ
  subst l1 y1 z1
  exact ⟨v, T1, Lc, X1, hQ, st⟩
theorem wVirtual (X : Stand p l e R s m args below meth c T locs cells slots) (hx : p.tables.exec = Jvm.exec) (hZ : Z.Warmed39 s.vm) {own C : String} {index : Nat} {y z : MethodName} {bytes : ByteArray} {maxL : Nat} {rt : Option FieldType} {rm : Room} {as' : Array Value} (hown : s.vm.findClass own = some m.cls)
    (w1 : (Jvm.Cond.methodLink own index y).before a0 Z = true) (w2 : (Jvm.Cond.declares y).before a0 Z = true) (nf : NotFace s y) (w5 : (Jvm.Cond.selects C y z).before a0 Z = true) (w6 : (Jvm.Cond.instanceMethod z).before a0 Z = true) (w3 : (Jvm.Cond.initialized z.cls).before a0 Z = true) (w4 : (Jvm.Cond.code z bytes maxL rt).before a0 Z = true)
    (hy : y.cls ≠ "java/lang/invoke/MethodHandle" ∧ y.cls ≠ "java/lang/invoke/VarHandle") (hM : OCon l z bytes maxL rt [] rm Z as' h Q) (W : Nat) (hf : rm.frames + 1 ≤ R.frames) (hl : W + (maxL + 11) + rm.locals ≤ R.locals) {b : Addr} (E : Exa Z h b C) {g : JFrame} (hg : g.method = m) (hsize : g.locals.size = c.maxLocals) {argsL rest : List Value} (hlen : ∀ sig, parseMethodDescriptor y.desc = some sig → argsL.length = sig.parameters.length)
    (hstack : g.stack = argsL.reverse ++ .ref b :: rest) (hW : 2 * g.monitorRoom + (rest.map fun v => v.category).sum ≤ W) (hd : decode c.code g.pc = .ok (.invokevirtual index, 3)) (has : (.ref b :: argsL).toArray = as') (eT : T.heap = h) (hc : cells + rm.cells ≤ R.cells) (hs : slots + rm.slots ≤ R.slots) :
    ∃ (v : Option Value) (T' : State) (L : List Loc), Stand p l e R s m args below meth c T' (locs ++ L) (cells + rm.cells) (slots + rm.slots) ∧ Q v T'.heap L ∧ Steps p.tables e below (T.setTop g) (T'.setTop { g with pc := g.pc + 3, stack := v.toList ++ rest }) := by
  obtain ⟨cq, kq, qa, qb, qc⟩ := isOf hZ eT E
  obtain ⟨v, _, ⟨T1, L1, k1, n1⟩, -, X1, ⟨Lc, hQ, l1, y1, z1⟩, st⟩ := X.virtualBack hx (y := y) (z := z) hown (mvT hZ w1) (mvT hZ w2) nf (mvT hZ w5) (mvT hZ w6) hy (backOf (W := W) hM hZ w4 w3 hf hl) qa qc (g := g) hg hsize (Steps.refl _) (argsL := argsL) (rest := rest) hlen hstack hW hd (fun _ _ => ⟨has, eT, hc, hs⟩)
  dsimp only [Pt.U, Pt.locs, Pt.cells, Pt.slots] at X1 l1 y1 z1 st hQ
  subst l1 y1 z1
  exact ⟨v, T1, Lc, X1, hQ, st⟩
end Own
end Jvm.Pilot.@@N@@
namespace Jvm.Pilot.@@N@@
open Jvm Jvm.ClassFile Sem Op Lib Jvm.Free Jvm.Stand Jvm.LawKit Jvm.RoadKit Bundle Jvm.Pilot.@@N@@.Jvm.D
theorem own_bv (q : Int32) (k : Nat) (h : q.toInt = k) (hk : k < 32) : q.toBitVec.toNat % 32 = k := by
  have e : q.toBitVec.toInt = (k : Int) := h
  have e2 := BitVec.toInt_eq_toNat_cond q.toBitVec
  rw [e] at e2
  have l := q.toBitVec.isLt
  split at e2 <;> omega
theorem own_pow (k : Nat) (hk : k ≤ 17) : 1 ≤ 2 ^ k ∧ 2 ^ k ≤ 131072 := by
  have a : 2 ^ k ≤ 2 ^ 17 := Nat.pow_le_pow_right (by decide) hk
  exact ⟨Nat.one_le_two_pow, a⟩
theorem own_shl (sh : Int32) (k : Nat) (h : sh.toInt = k) (hk : k ≤ 17) : (1 <<< (sh &&& 31) : Int32).toInt = ((2 ^ k : Nat) : Int) := by
  have a := c_ishl 1 sh k (own_bv sh k h (by omega))
  have b := own_pow k hk
  have r := rng32 (1 <<< (sh &&& 31) : Int32)
  have e1 : (1 : Int32).toInt = 1 := by decide
  rw [e1] at a
  generalize (2 ^ k : Nat) = K at *
  omega
theorem own_hb (c K : Int) (hK : 0 < K) (h0 : 0 ≤ c) : (c / K) % 2 = (if c % (2 * K) < K then 0 else 1) := by
  have e1 := Int.mul_ediv_add_emod c K
  have e2 := Int.mul_ediv_add_emod (c / K) 2
  have r1 := Int.emod_nonneg c (Int.ne_of_gt hK)
  have r2 := Int.emod_lt_of_pos c hK
  have r3 := Int.emod_nonneg (c / K) (by decide : (2 : Int) ≠ 0)
  have r4 := Int.emod_lt_of_pos (c / K) (by decide : (0 : Int) < 2)
  generalize c / K / 2 = a at *
  generalize hb : c / K % 2 = b at *
  generalize c % K = r at *
  have e3 : c = (K * b + r) + (2 * K) * a := by rw [← e1, ← e2]; rw [Int.mul_add, ← Int.mul_assoc, Int.mul_comm K 2]; omega
  have e4 : c % (2 * K) = (K * b + r) % (2 * K) := by rw [e3, Int.add_mul_emod_self_left]
  have hb2 : b = 0 ∨ b = 1 := by omega
  rcases hb2 with rfl | rfl
  · rw [e4, Int.emod_eq_of_lt (by omega) (by omega), if_pos (by omega)]
  · rw [e4, Int.emod_eq_of_lt (by omega) (by omega), if_neg (by omega)]
theorem own_and1 (x : Int32) : (x &&& 1).toInt = x.toInt % 2 := c_mask x 1 1 (by decide) (by decide)
/-- one bit of a number, as the method reads it -/
theorem own_q (c sh : Int32) (k : Nat) (h : sh.toInt = k) (hk : k ≤ 17) : ((c >>> (sh &&& 31)) &&& 1).toInt = (c.toInt / ((2 ^ k : Nat) : Int)) % 2 := by
  rw [own_and1, c_ishr c sh k (own_bv sh k h (by omega))]
theorem own_dbl (v K : Int32) (k : Nat) (hk : k ≤ 17) (h : v.toInt = ((2 ^ k : Nat) : Int)) : (2 * v).toInt = 2 * ((2 ^ k : Nat) : Int) := by
  have a := c_imul 2 v
  have b := own_pow k hk
  have r := rng32 (2 * v)
  have e2 : (2 : Int32).toInt = 2 := by decide
  rw [e2, h] at a
  generalize (2 ^ k : Nat) = K at *
  omega
theorem own_lawbit (c sh v : Int32) (k : Nat) (h : sh.toInt = k) (hk : k ≤ 17) (hv : v = (1 <<< (sh &&& 31) : Int32)) (h0 : 0 ≤ c.toInt) : ((c >>> (sh &&& 31)) &&& 1).toInt = (if (c % (2 * v)) < v then 0 else 1) := by
  have e1 : v.toInt = ((2 ^ k : Nat) : Int) := by rw [hv]; exact own_shl sh k h hk
  have e2 := own_dbl v 0 k hk e1
  have e3 := (c_irem c (2 * v) _ e2).1 h0
  have b := own_pow k hk
  rw [own_q c sh k h hk, own_hb c.toInt _ (by omega) h0]
  simp only [Int32.lt_iff_toInt_lt, e1, e3]
theorem own_quad (c r sh v u13 u14 : Int32) (k : Nat) (h : sh.toInt = k) (hk : k ≤ 17) (hv : v = (1 <<< (sh &&& 31) : Int32)) (hc : 0 ≤ c.toInt) (hr : 0 ≤ r.toInt) (h13 : u13 = (if (c % (2 * v)) < v then 0 else 1)) (h14 : u14 = (if (r % (2 * v)) < v then 0 else 2)) :
    ((c >>> (sh &&& 31)) &&& 1) + (2 * ((r >>> (sh &&& 31)) &&& 1)) = u13 + u14 := by
  have e1 := own_lawbit c sh v k h hk hv hc
  have e2 := own_lawbit r sh v k h hk hv hr
  have f1 : ((c >>> (sh &&& 31)) &&& 1) = u13 := by
    rw [← Int32.toInt_inj, e1, h13]; split <;> decide
  have f2 : (2 * ((r >>> (sh &&& 31)) &&& 1)) = u14 := by
    have f3 : ((r >>> (sh &&& 31)) &&& 1) = (if (r % (2 * v)) < v then 0 else 1) := by rw [← Int32.toInt_inj, e2]; split <;> decide
    rw [f3, h14]; split <;> decide
  rw [f1, f2]
/-- a child's column or row: twice and a bit -/
theorem own_two (c b : Int32) (hc : 0 ≤ c.toInt) (hc2 : c.toInt < 131072) (hb : 0 ≤ b.toInt) (hb2 : b.toInt < 2) : ((2 * c) + b).toInt = 2 * c.toInt + b.toInt := by
  have a := c_imul 2 c
  have a2 := c_iadd (2 * c) b
  have e2 : (2 : Int32).toInt = 2 := by decide
  have r := rng32 (2 * c)
  have r2 := rng32 ((2 * c) + b)
  rw [e2] at a
  omega
theorem own_half (c b K : Int) (hK : 0 < K) (hb : 0 ≤ b) (hb2 : b < 2) : (2 * c + b) / (2 * K) = c / K := by
  rw [← Int.ediv_ediv_of_nonneg (by omega)]
  have : (2 * c + b) / 2 = c := by omega
  rw [this]
theorem own_childbit (c b sh sh' : Int32) (k : Nat) (h : sh.toInt = k) (h' : sh'.toInt = (k + 1 : Nat)) (hk : k ≤ 16) (hc : 0 ≤ c.toInt) (hc2 : c.toInt < 131072) (hb : 0 ≤ b.toInt) (hb2 : b.toInt < 2) : ((((2 * c) + b) >>> (sh' &&& 31)) &&& 1) = ((c >>> (sh &&& 31)) &&& 1) := by
  rw [← Int32.toInt_inj, own_q _ sh' (k + 1) h' (by omega), own_q _ sh k h (by omega), own_two c b hc hc2 hb hb2]
  have b := own_pow k (by omega)
  rw [show ((2 ^ (k + 1) : Nat) : Int) = 2 * ((2 ^ k : Nat) : Int) by rw [Nat.pow_succ]; omega, own_half _ _ _ (by omega) hb hb2]
theorem own_childlow (c b sh : Int32) (h : sh.toInt = (0 : Nat)) (hc : 0 ≤ c.toInt) (hc2 : c.toInt < 131072) (hb : 0 ≤ b.toInt) (hb2 : b.toInt < 2) : ((((2 * c) + b) >>> (sh &&& 31)) &&& 1) = b := by
  rw [← Int32.toInt_inj, own_q _ sh 0 h (by omega), own_two c b hc hc2 hb hb2]
  have : ((2 ^ 0 : Nat) : Int) = 1 := rfl
  rw [this]; omega
def qd (l c r s : Int32) : Int32 := (((c >>> ((l - s) &&& 31)) &&& 1) + (2 * ((r >>> ((l - s) &&& 31)) &&& 1)))
theorem own_lv (p v : Int32) (h : v = ((1 : Int32) + ((p &&& (2147483647 : Int32)) % (17 : Int32)))) : 1 ≤ v.toInt ∧ v.toInt ≤ 17 := by
  have m := c_mask p 2147483647 31 (by decide) (by decide)
  have d := (c_irem (p &&& 2147483647) 17 17 (by decide)).1 (by omega)
  have a := c_iadd 1 ((p &&& 2147483647) % 17)
  have e : (1 : Int32).toInt = 1 := by decide
  have r := rng32 v
  rw [← h] at a
  omega
theorem own_st (p v w : Int32) (hv : 1 ≤ v.toInt ∧ v.toInt ≤ 17) (h : w = ((1 : Int32) + ((p &&& (2147483647 : Int32)) % v))) : 1 ≤ w.toInt ∧ w.toInt ≤ v.toInt := by
  have m := c_mask p 2147483647 31 (by decide) (by decide)
  have d := (c_iremV (p &&& 2147483647) v).1 (by omega) (by omega)
  have a := c_iadd 1 ((p &&& 2147483647) % v)
  have e : (1 : Int32).toInt = 1 := by decide
  have r := rng32 w
  rw [← h] at a
  omega
theorem own_nz (v : Int32) (h : 1 ≤ v.toInt) : v ≠ 0 := by
  intro q
  rw [q] at h
  exact absurd h (by decide)
theorem own_co (p v m w : Int32) (hv : 1 ≤ v.toInt ∧ v.toInt ≤ 17) (hm : m = ((1 <<< (v &&& 31) : Int32) - (1 : Int32))) (h : w = (p &&& m)) : 0 ≤ w.toInt ∧ w.toInt < 131072 ∧ (¬ w < 0) ∧ w < (1 <<< (v &&& 31) : Int32) ∧ w.toInt < ((2 ^ v.toInt.toNat : Nat) : Int) := by
  have e := own_shl v v.toInt.toNat (by omega) (by omega)
  have b := own_pow v.toInt.toNat (by omega)
  have s := c_isub (1 <<< (v &&& 31) : Int32) 1
  have e1 : (1 : Int32).toInt = 1 := by decide
  have e0 : (0 : Int32).toInt = 0 := by decide
  have r := rng32 m
  rw [← hm, e, e1] at s
  have d := c_and p m (by omega)
  rw [← h] at d
  rw [Int32.lt_iff_toInt_lt, Int32.lt_iff_toInt_lt, e, e0]
  omega
theorem own_sh (v w : Int32) (hv : 1 ≤ v.toInt ∧ v.toInt ≤ 17) (hw : 1 ≤ w.toInt ∧ w.toInt ≤ v.toInt) : ∃ k : Nat, (v - w).toInt = k ∧ k ≤ 16 ∧ v.toInt = w.toInt + k := by
  have s := c_isub v w
  have r := rng32 (v - w)
  exact ⟨(v.toInt - w.toInt).toNat, by omega, by omega, by omega⟩
theorem own_inc (v : Int32) (hv : 1 ≤ v.toInt ∧ v.toInt ≤ 17) : (v + 1).toInt = v.toInt + 1 := by
  have a := c_iadd v 1
  have e : (1 : Int32).toInt = 1 := by decide
  have r := rng32 (v + 1)
  omega
theorem own_c1 (v : Int32) (hv : 1 ≤ v.toInt ∧ v.toInt ≤ 17) : (¬ v < 1) ∧ ¬ 17 < v := by
  have e : (1 : Int32).toInt = 1 := by decide
  have e2 : (17 : Int32).toInt = 17 := by decide
  rw [Int32.lt_iff_toInt_lt, Int32.lt_iff_toInt_lt]
  omega
theorem own_c2 (v : Int32) (hv : 1 ≤ v.toInt ∧ v.toInt ≤ 17) (h : v < 17) : (¬ (v + 1) < 1) ∧ ¬ 17 < (v + 1) := by
  have e2 : (17 : Int32).toInt = 17 := by decide
  rw [Int32.lt_iff_toInt_lt] at h
  have i := own_inc v hv
  exact own_c1 (v + 1) (by omega)
theorem own_c3 (v c b : Int32) (hv : 1 ≤ v.toInt ∧ v.toInt ≤ 17) (h : v < 17) (hc : 0 ≤ c.toInt ∧ c.toInt < ((2 ^ v.toInt.toNat : Nat) : Int)) (hb : 0 ≤ b.toInt ∧ b.toInt < 2) : (¬ (((2 : Int32) * c) + b) < 0) ∧ (((2 : Int32) * c) + b) < ((1 : Int32) <<< ((v + 1) &&& 31)) := by
  have e2 : (17 : Int32).toInt = 17 := by decide
  rw [Int32.lt_iff_toInt_lt] at h
  have i := own_inc v hv
  have e := own_shl (v + 1) (v.toInt.toNat + 1) (by omega) (by omega)
  have p := own_pow v.toInt.toNat (by omega)
  have t := own_two c b hc.1 (by omega) hb.1 hb.2
  have e0 : (0 : Int32).toInt = 0 := by decide
  rw [Nat.pow_succ] at e
  rw [Int32.lt_iff_toInt_lt, Int32.lt_iff_toInt_lt, e, t, e0]
  omega
theorem own_b16 (p v : Int32) (h : v = (p &&& (3 : Int32))) : (0 ≤ (v &&& (1 : Int32)).toInt ∧ (v &&& (1 : Int32)).toInt < 2) ∧ (0 ≤ (v >>> ((1 : Int32) &&& 31)).toInt ∧ (v >>> ((1 : Int32) &&& 31)).toInt < 2) ∧ ((v &&& (1 : Int32)) + ((2 : Int32) * (v >>> ((1 : Int32) &&& 31)))) = v := by
  have m := c_mask p 3 2 (by decide) (by decide)
  rw [← h] at m
  have a := own_and1 v
  have s := c_ishr v 1 1 (by decide)
  have t := c_imul 2 (v >>> ((1 : Int32) &&& 31))
  have u := c_iadd (v &&& (1 : Int32)) ((2 : Int32) * (v >>> ((1 : Int32) &&& 31)))
  have e2 : (2 : Int32).toInt = 2 := by decide
  have r1 := rng32 ((2 : Int32) * (v >>> ((1 : Int32) &&& 31)))
  have r2 := rng32 ((v &&& (1 : Int32)) + ((2 : Int32) * (v >>> ((1 : Int32) &&& 31))))
  rw [← Int32.toInt_inj]
  rw [e2] at t
  omega
theorem own_child1 (v c r b d : Int32) (hc : 0 ≤ c.toInt ∧ c.toInt < 131072) (hr : 0 ≤ r.toInt ∧ r.toInt < 131072) (hb : 0 ≤ b.toInt ∧ b.toInt < 2) (hd : 0 ≤ d.toInt ∧ d.toInt < 2) : qd (v + 1) ((2 * c) + b) ((2 * r) + d) (v + 1) = b + (2 * d) := by
  have z : ((v + 1) - (v + 1)).toInt = (0 : Nat) := by rw [Int32.sub_self]; decide
  unfold qd
  rw [own_childlow c b _ z hc.1 hc.2 hb.1 hb.2, own_childlow r d _ z hr.1 hr.2 hd.1 hd.2]
theorem own_child2 (v w c r b d : Int32) (hv : 1 ≤ v.toInt ∧ v.toInt ≤ 17) (h : v < 17) (hw : 1 ≤ w.toInt ∧ w.toInt ≤ v.toInt) (hc : 0 ≤ c.toInt ∧ c.toInt < 131072) (hr : 0 ≤ r.toInt ∧ r.toInt < 131072) (hb : 0 ≤ b.toInt ∧ b.toInt < 2) (hd : 0 ≤ d.toInt ∧ d.toInt < 2) : qd (v + 1) ((2 * c) + b) ((2 * r) + d) w = qd v c r w := by
  obtain ⟨k, k1, k2, k3⟩ := own_sh v w hv hw
  have i := own_inc v hv
  have s := c_isub (v + 1) w
  have r0 := rng32 ((v + 1) - w)
  have z : ((v + 1) - w).toInt = (k + 1 : Nat) := by omega
  unfold qd
  rw [own_childbit c b _ _ k k1 z k2 hc.1 hc.2 hb.1 hb.2, own_childbit r d _ _ k k1 z k2 hr.1 hr.2 hd.1 hd.2]
theorem own_nz2 (v w u : Int32) (hv : 1 ≤ v.toInt ∧ v.toInt ≤ 17) (hw : 1 ≤ w.toInt ∧ w.toInt ≤ v.toInt) (h : u = (1 <<< ((v - w) &&& 31) : Int32)) : (2 * u) ≠ 0 := by
  obtain ⟨k, k1, k2, k3⟩ := own_sh v w hv hw
  have e := own_shl (v - w) k k1 (by omega)
  rw [← h] at e
  have d := own_dbl u 0 k (by omega) e
  have p := own_pow k (by omega)
  exact own_nz _ (by omega)
theorem own_main (v w c r u u13 u14 : Int32) (hv : 1 ≤ v.toInt ∧ v.toInt ≤ 17) (hw : 1 ≤ w.toInt ∧ w.toInt ≤ v.toInt) (hu : u = (1 <<< ((v - w) &&& 31) : Int32)) (hc : 0 ≤ c.toInt) (hr : 0 ≤ r.toInt) (h13 : u13 = (if (c % (2 * u)) < u then 0 else 1)) (h14 : u14 = (if (r % (2 * u)) < u then 0 else 2)) : qd v c r w = u13 + u14 := by
  obtain ⟨k, k1, k2, k3⟩ := own_sh v w hv hw
  exact own_quad c r (v - w) u u13 u14 k k1 (by omega) hu hc hr h13 h14

theorem pn_java_lang_Record : plainName "java/lang/Record" = true := by first | (simp [plainName, overriddenIn]; done) | decide +kernel
theorem d2_0 : decode jdk_30_method_1_code 0 = .ok (.aload_n 0, 1) := by decide +kernel
theorem d2_1 : decode jdk_30_method_1_code 1 = .ok (.invokespecial 1, 3) := by decide +kernel
theorem d2_4 : decode jdk_30_method_1_code 4 = .ok (.return_, 1) := by decide +kernel
def recinit_rm : Room := { frames := 1, cells := 0, slots := 0, locals := 12 }
def recinit_Q (Z : State) (a0 : Addr) (h0 : Heap) (n0 : Nat) (v : Option Value) (h : Heap) (L : List Loc) : Prop := (v = none) ∧ (Fr n0 L) ∧ (h = h0)
theorem recinit_ef (m : MethodId) (a0 : Addr) : entryFrame m #[(.ref a0)] 1 = mkF m 0 #[.val (.ref a0)] [] := by first | (simp [entryFrame, mkF, argsToLocals, Value.category]; done) | rfl
set_option maxRecDepth 65536 in
set_option maxHeartbeats 40000000 in
theorem recinit_c (l : Launch) (Z : State) (az : Array Value) (hw : ∀ d ∈ tables_1, d.before az Z = true) (ws : List Jvm.Cond) (a0 : Addr) (h0 : Heap) (n0 : Nat) (Z0 : n0 ≤ h0.size) :
    OCon l (⟨"java/lang/Record", "<init>", "()V"⟩ : MethodName) jdk_30_method_1_code 1 none ws recinit_rm Z #[(.ref a0)] h0 (recinit_Q Z a0 h0 n0) := by
  refine ocon (plainFor_of_name pn_java_lang_Record) ?_
  intro p e s m below meth c s₁ hx hby hml hown hnm hret hlk hZ X0 eh0
  have N0 := Fr.nil n0
  have K0 := Keep.refl h0 []
  refine ogoE (recinit_ef m a0) ?_
  generalize hG : (OEnd s below (recinit_Q Z a0 h0 n0) recinit_rm.cells recinit_rm.slots) = G
  show OWay p e below G s₁ (mkF m 0 #[.val (.ref a0)] [])
  refine ogo (fun _ z_ => XS.aloadN X0.here hx rfl (hb hby d2_0) rfl rfl z_) ?_
  show OWay p e below G s₁ (mkF m 1 #[.val (.ref a0)] [(.ref a0)])
  obtain ⟨T1, X1, eT1, st1⟩ := initO X0 hx hZ hown (hw _ (List.mem_of_getElem? (i := 12) rfl)) (hw _ (List.mem_of_getElem? (i := 13) rfl)) (hw _ (List.mem_of_getElem? (i := 14) rfl)) eh0 (g := (mkF m 1 #[.val (.ref a0)] [(.ref a0)])) rfl (by rw [hml]; rfl) rfl (hb hby d2_1) (by decide) (W := 0) (by show 2 * 0 + _ ≤ _; exact Nat.le_of_eq rfl) (by decide)
  refine ogo st1 ?_
  show OWay p e below G T1 (mkF m 4 #[.val (.ref a0)] [])
  subst hG
  refine wRetV X1 hx hret hlk (hb hby d2_4) (by decide) (by decide) eT1 ?_
  exact ⟨rfl, N0, rfl⟩
theorem pn_com_example_wakeline_wakeline_index_Cell : plainName "com/example/wakeline/wakeline/index/Cell" = true := by first | (simp [plainName, overriddenIn]; done) | decide +kernel
theorem d1_0 : decode prog_6_method_1_code 0 = .ok (.aload_n 0, 1) := by decide +kernel
theorem d1_1 : decode prog_6_method_1_code 1 = .ok (.invokespecial 1, 3) := by decide +kernel
theorem pd___V : parseMethodDescriptor "()V" = some ⟨[], none⟩ := by decide +kernel
theorem d1_4 : decode prog_6_method_1_code 4 = .ok (.iload_n 1, 1) := by decide +kernel
theorem d1_5 : decode prog_6_method_1_code 5 = .ok (.iconst 1, 1) := by decide +kernel
theorem d1_6 : decode prog_6_method_1_code 6 = .ok (.if_icmp .lt 9, 3) := by decide +kernel
theorem d1_9 : decode prog_6_method_1_code 9 = .ok (.iload_n 1, 1) := by decide +kernel
theorem d1_10 : decode prog_6_method_1_code 10 = .ok (.bipush 17, 2) := by decide +kernel
theorem d1_12 : decode prog_6_method_1_code 12 = .ok (.if_icmp .le 17, 3) := by decide +kernel
theorem d1_29 : decode prog_6_method_1_code 29 = .ok (.iconst 1, 1) := by decide +kernel
theorem d1_30 : decode prog_6_method_1_code 30 = .ok (.iload_n 1, 1) := by decide +kernel
theorem d1_31 : decode prog_6_method_1_code 31 = .ok (.ishl, 1) := by decide +kernel
theorem d1_32 : decode prog_6_method_1_code 32 = .ok (.istore 4, 2) := by decide +kernel
theorem d1_34 : decode prog_6_method_1_code 34 = .ok (.iload_n 2, 1) := by decide +kernel
theorem d1_35 : decode prog_6_method_1_code 35 = .ok (.ifCond .lt 19, 3) := by decide +kernel
theorem d1_38 : decode prog_6_method_1_code 38 = .ok (.iload_n 2, 1) := by decide +kernel
theorem d1_39 : decode prog_6_method_1_code 39 = .ok (.iload 4, 2) := by decide +kernel
theorem d1_41 : decode prog_6_method_1_code 41 = .ok (.if_icmp .ge 13, 3) := by decide +kernel
theorem d1_44 : decode prog_6_method_1_code 44 = .ok (.iload_n 3, 1) := by decide +kernel
theorem d1_45 : decode prog_6_method_1_code 45 = .ok (.ifCond .lt 9, 3) := by decide +kernel
theorem d1_48 : decode prog_6_method_1_code 48 = .ok (.iload_n 3, 1) := by decide +kernel
theorem d1_49 : decode prog_6_method_1_code 49 = .ok (.iload 4, 2) := by decide +kernel
theorem d1_51 : decode prog_6_method_1_code 51 = .ok (.if_icmp .lt 23, 3) := by decide +kernel
theorem d1_74 : decode prog_6_method_1_code 74 = .ok (.aload_n 0, 1) := by decide +kernel
theorem d1_75 : decode prog_6_method_1_code 75 = .ok (.iload_n 1, 1) := by decide +kernel
theorem d1_76 : decode prog_6_method_1_code 76 = .ok (.putfield 21, 3) := by decide +kernel
theorem d1_79 : decode prog_6_method_1_code 79 = .ok (.aload_n 0, 1) := by decide +kernel
theorem d1_80 : decode prog_6_method_1_code 80 = .ok (.iload_n 2, 1) := by decide +kernel
theorem d1_81 : decode prog_6_method_1_code 81 = .ok (.putfield 27, 3) := by decide +kernel
theorem d1_84 : decode prog_6_method_1_code 84 = .ok (.aload_n 0, 1) := by decide +kernel
theorem d1_85 : decode prog_6_method_1_code 85 = .ok (.iload_n 3, 1) := by decide +kernel
theorem d1_86 : decode prog_6_method_1_code 86 = .ok (.putfield 30, 3) := by decide +kernel
theorem d1_89 : decode prog_6_method_1_code 89 = .ok (.return_, 1) := by decide +kernel
def ctor1_rm : Room := { frames := 2, cells := 0, slots := 0, locals := 24 }
def ctor1_Q (Z : State) (a0 : Addr) (p1 : Int32) (p2 : Int32) (p3 : Int32) (h0 : Heap) (n0 : Nat) (v : Option Value) (h : Heap) (L : List Loc) : Prop := (v = none) ∧ (Fr n0 L) ∧ (Keep h0 h [a0]) ∧ (Fld Z h a0 "com/example/wakeline/wakeline/index/Cell" "level" "I" (.int p1)) ∧ (Fld Z h a0 "com/example/wakeline/wakeline/index/Cell" "column" "I" (.int p2)) ∧ (Fld Z h a0 "com/example/wakeline/wakeline/index/Cell" "row" "I" (.int p3))
theorem ctor1_ef (m : MethodId) (a0 : Addr) (p1 : Int32) (p2 : Int32) (p3 : Int32) : entryFrame m #[(.ref a0), (.int p1), (.int p2), (.int p3)] 5 = mkF m 0 #[.val (.ref a0), .val (.int p1), .val (.int p2), .val (.int p3), .unset] [] := by first | (simp [entryFrame, mkF, argsToLocals, Value.category]; done) | rfl
set_option maxRecDepth 65536 in
set_option maxHeartbeats 40000000 in
theorem ctor1_c (l : Launch) (Z : State) (az : Array Value) (hw : ∀ d ∈ tables_1, d.before az Z = true) (ws : List Jvm.Cond) (a0 : Addr) (p1 : Int32) (p2 : Int32) (p3 : Int32) (h0 : Heap) (n0 : Nat) (Z0 : n0 ≤ h0.size) (hp0 : Exa Z h0 a0 "com/example/wakeline/wakeline/index/Cell") (hp1 : n0 ≤ a0) (hp2 : Fld Z h0 a0 "com/example/wakeline/wakeline/index/Cell" "level" "I" (.int (0 : Int32))) (hp3 : Fld Z h0 a0 "com/example/wakeline/wakeline/index/Cell" "column" "I" (.int (0 : Int32))) (hp4 : Fld Z h0 a0 "com/example/wakeline/wakeline/index/Cell" "row" "I" (.int (0 : Int32))) (hl1 : ¬ p1 < (1 : Int32)) (hl2 : ¬ (17 : Int32) < p1) (hc1 : ¬ p2 < (0 : Int32)) (hc2 : p2 < ((1 : Int32) <<< (p1 &&& 31))) (hr1 : ¬ p3 < (0 : Int32)) (hr2 : p3 < ((1 : Int32) <<< (p1 &&& 31))) :
    OCon l (⟨"com/example/wakeline/wakeline/index/Cell", "<init>", "(III)V"⟩ : MethodName) prog_6_method_1_code 5 none ws ctor1_rm Z #[(.ref a0), (.int p1), (.int p2), (.int p3)] h0 (ctor1_Q Z a0 p1 p2 p3 h0 n0) := by
  refine ocon (plainFor_of_name pn_com_example_wakeline_wakeline_index_Cell) ?_
  intro p e s m below meth c s₁ hx hby hml hown hnm hret hlk hZ X0 eh0
  have N0 := Fr.nil n0
  have K0 := Keep.refl h0 [a0]
  refine ogoE (ctor1_ef m a0 p1 p2 p3) ?_
  have g_a0 := hp1
  generalize hG : (OEnd s below (ctor1_Q Z a0 p1 p2 p3 h0 n0) ctor1_rm.cells ctor1_rm.slots) = G
  show OWay p e below G s₁ (mkF m 0 #[.val (.ref a0), .val (.int p1), .val (.int p2), .val (.int p3), .unset] [])
  refine ogo (fun _ z_ => XS.aloadN X0.here hx rfl (hb hby d1_0) rfl rfl z_) ?_
  show OWay p e below G s₁ (mkF m 1 #[.val (.ref a0), .val (.int p1), .val (.int p2), .val (.int p3), .unset] [(.ref a0)])
  obtain ⟨_, T1, L1, X1, hQ1, st1⟩ := wInit X0 hx hZ (y := (⟨"java/lang/Record", "<init>", "()V"⟩ : MethodName)) rfl hown (hw _ (List.mem_of_getElem? (i := 7) rfl)) (hw _ (List.mem_of_getElem? (i := 8) rfl)) (hw _ (List.mem_of_getElem? (i := 10) rfl)) (hw _ (List.mem_of_getElem? (i := 11) rfl)) (by decide) (recinit_c l Z az hw [] a0 h0 n0 Z0) 0 (by decide) (by decide) (g := (mkF m 1 #[.val (.ref a0), .val (.int p1), .val (.int p2), .val (.int p3), .unset] [(.ref a0)])) rfl (by rw [hml]; rfl) (a := a0) (argsL := []) (rest := []) (lenOf pd___V rfl) rfl (by show 2 * 0 + _ ≤ _; exact Nat.le_of_eq rfl) (hb hby d1_1) rfl eh0 (by decide) (by decide)
  obtain ⟨rfl, N1q, eq1⟩ := hQ1
  have N1 := Fr.app N0 N1q
  refine ogoS st1 ?_
  show OWay p e below G T1 (mkF m 4 #[.val (.ref a0), .val (.int p1), .val (.int p2), .val (.int p3), .unset] [])
  refine ogo (fun _ z_ => XS.iloadN X1.here hx rfl (hb hby d1_4) rfl z_) ?_
  show OWay p e below G T1 (mkF m 5 #[.val (.ref a0), .val (.int p1), .val (.int p2), .val (.int p3), .unset] [(.int p1)])
  refine ogo (fun _ z_ => XS.iconst X1.here hx rfl (hb hby d1_5) z_) ?_
  show OWay p e below G T1 (mkF m 6 #[.val (.ref a0), .val (.int p1), .val (.int p2), .val (.int p3), .unset] [(.int (1 : Int32)), (.int p1)])
  refine ogo (fun _ z_ => XS.icmpNo X1.here hx rfl (hb hby d1_6) rfl (flt (hl1)).1 z_) ?_
  show OWay p e below G T1 (mkF m 9 #[.val (.ref a0), .val (.int p1), .val (.int p2), .val (.int p3), .unset] [])
  refine ogo (fun _ z_ => XS.iloadN X1.here hx rfl (hb hby d1_9) rfl z_) ?_
  show OWay p e below G T1 (mkF m 10 #[.val (.ref a0), .val (.int p1), .val (.int p2), .val (.int p3), .unset] [(.int p1)])
  refine ogo (fun _ z_ => XS.bipush X1.here hx rfl (hb hby d1_10) z_) ?_
  show OWay p e below G T1 (mkF m 12 #[.val (.ref a0), .val (.int p1), .val (.int p2), .val (.int p3), .unset] [(.int (17 : Int32)), (.int p1)])
  refine ogo (fun _ z_ => XS.icmpYes X1.here hx rfl (pc0 := 12) (pc' := 29) rfl (hb hby d1_12) rfl (flt (hl2)).2.2.2 (by decide) (by decide) z_) ?_
  show OWay p e below G T1 (mkF m 29 #[.val (.ref a0), .val (.int p1), .val (.int p2), .val (.int p3), .unset] [])
  refine ogo (fun _ z_ => XS.iconst X1.here hx rfl (hb hby d1_29) z_) ?_
  show OWay p e below G T1 (mkF m 30 #[.val (.ref a0), .val (.int p1), .val (.int p2), .val (.int p3), .unset] [(.int (1 : Int32))])
  refine ogo (fun _ z_ => XS.iloadN X1.here hx rfl (hb hby d1_30) rfl z_) ?_
  show OWay p e below G T1 (mkF m 31 #[.val (.ref a0), .val (.int p1), .val (.int p2), .val (.int p3), .unset] [(.int p1), (.int (1 : Int32))])
  refine ogo (fun _ z_ => XS.ishl X1.here hx rfl (hb hby d1_31) rfl z_) ?_
  show OWay p e below G T1 (mkF m 32 #[.val (.ref a0), .val (.int p1), .val (.int p2), .val (.int p3), .unset] [(.int ((1 : Int32) <<< (p1 &&& 31)))])
  suffices Jv4_2 : ∀ v4_2 : Int32, v4_2 = ((1 : Int32) <<< (p1 &&& 31)) → OWay p e below G T1 (mkF m 32 #[.val (.ref a0), .val (.int p1), .val (.int p2), .val (.int p3), .unset] [(.int v4_2)]) from Jv4_2 _ rfl
  intro v4_2 hv4_2
  refine ogo (fun _ z_ => XS.istore X1.here hx rfl (hb hby d1_32) rfl (l' := #[.val (.ref a0), .val (.int p1), .val (.int p2), .val (.int p3), .val (.int v4_2)]) rfl z_) ?_
  show OWay p e below G T1 (mkF m 34 #[.val (.ref a0), .val (.int p1), .val (.int p2), .val (.int p3), .val (.int v4_2)] [])
  refine ogo (fun _ z_ => XS.iloadN X1.here hx rfl (hb hby d1_34) rfl z_) ?_
  show OWay p e below G T1 (mkF m 35 #[.val (.ref a0), .val (.int p1), .val (.int p2), .val (.int p3), .val (.int v4_2)] [(.int p2)])
  refine ogo (fun _ z_ => XS.ifNo X1.here hx rfl (hb hby d1_35) rfl ((if0 _ _).trans (flt (hc1)).1) z_) ?_
  show OWay p e below G T1 (mkF m 38 #[.val (.ref a0), .val (.int p1), .val (.int p2), .val (.int p3), .val (.int v4_2)] [])
  refine ogo (fun _ z_ => XS.iloadN X1.here hx rfl (hb hby d1_38) rfl z_) ?_
  show OWay p e below G T1 (mkF m 39 #[.val (.ref a0), .val (.int p1), .val (.int p2), .val (.int p3), .val (.int v4_2)] [(.int p2)])
  refine ogo (fun _ z_ => XS.iload X1.here hx rfl (hb hby d1_39) rfl z_) ?_
  show OWay p e below G T1 (mkF m 41 #[.val (.ref a0), .val (.int p1), .val (.int p2), .val (.int p3), .val (.int v4_2)] [(.int v4_2), (.int p2)])
  refine ogo (fun _ z_ => XS.icmpNo X1.here hx rfl (hb hby d1_41) rfl (tlt (by rw [hv4_2]; exact hc2)).2.1 z_) ?_
  show OWay p e below G T1 (mkF m 44 #[.val (.ref a0), .val (.int p1), .val (.int p2), .val (.int p3), .val (.int v4_2)] [])
  refine ogo (fun _ z_ => XS.iloadN X1.here hx rfl (hb hby d1_44) rfl z_) ?_
  show OWay p e below G T1 (mkF m 45 #[.val (.ref a0), .val (.int p1), .val (.int p2), .val (.int p3), .val (.int v4_2)] [(.int p3)])
  refine ogo (fun _ z_ => XS.ifNo X1.here hx rfl (hb hby d1_45) rfl ((if0 _ _).trans (flt (hr1)).1) z_) ?_
  show OWay p e below G T1 (mkF m 48 #[.val (.ref a0), .val (.int p1), .val (.int p2), .val (.int p3), .val (.int v4_2)] [])
  refine ogo (fun _ z_ => XS.iloadN X1.here hx rfl (hb hby d1_48) rfl z_) ?_
  show OWay p e below G T1 (mkF m 49 #[.val (.ref a0), .val (.int p1), .val (.int p2), .val (.int p3), .val (.int v4_2)] [(.int p3)])
  refine ogo (fun _ z_ => XS.iload X1.here hx rfl (hb hby d1_49) rfl z_) ?_
  show OWay p e below G T1 (mkF m 51 #[.val (.ref a0), .val (.int p1), .val (.int p2), .val (.int p3), .val (.int v4_2)] [(.int v4_2), (.int p3)])
  refine ogo (fun _ z_ => XS.icmpYes X1.here hx rfl (pc0 := 51) (pc' := 74) rfl (hb hby d1_51) rfl (tlt (by rw [hv4_2]; exact hr2)).1 (by decide) (by decide) z_) ?_
  show OWay p e below G T1 (mkF m 74 #[.val (.ref a0), .val (.int p1), .val (.int p2), .val (.int p3), .val (.int v4_2)] [])
  refine ogo (fun _ z_ => XS.aloadN X1.here hx rfl (hb hby d1_74) rfl rfl z_) ?_
  show OWay p e below G T1 (mkF m 75 #[.val (.ref a0), .val (.int p1), .val (.int p2), .val (.int p3), .val (.int v4_2)] [(.ref a0)])
  refine ogo (fun _ z_ => XS.iloadN X1.here hx rfl (hb hby d1_75) rfl z_) ?_
  show OWay p e below G T1 (mkF m 76 #[.val (.ref a0), .val (.int p1), .val (.int p2), .val (.int p3), .val (.int v4_2)] [(.int p1), (.ref a0)])
  obtain ⟨T3, h3, X3, eT3, W3, st3⟩ := putF X1 hx hZ hown (host := "") (Or.inl (hw _ (List.mem_of_getElem? (i := 15) rfl))) Via.refl eq1 hp2 hp0 (Or.inr ⟨(hw _ (List.mem_of_getElem? (i := 16) rfl)), rfl, hnm⟩) (hw _ (List.mem_of_getElem? (i := 2) rfl)) (ty := .int) (by decide) rfl rfl (g := (mkF m 76 #[.val (.ref a0), .val (.int p1), .val (.int p2), .val (.int p3), .val (.int v4_2)] [(.int p1), (.ref a0)])) rfl rfl (hb hby d1_76)
  have K4 : Keep h0 h3 [a0] := K0.wr W3 (Or.inl (List.mem_of_getElem? (i := 0) rfl))
  have Fw3 : Fld Z h3 a0 "com/example/wakeline/wakeline/index/Cell" "level" "I" (.int p1) := hp2.same W3
  have N3 := Fr.snoc X3 N1 g_a0
  refine ogo st3 ?_
  show OWay p e below G T3 (mkF m 79 #[.val (.ref a0), .val (.int p1), .val (.int p2), .val (.int p3), .val (.int v4_2)] [])
  refine ogo (fun _ z_ => XS.aloadN X3.here hx rfl (hb hby d1_79) rfl rfl z_) ?_
  show OWay p e below G T3 (mkF m 80 #[.val (.ref a0), .val (.int p1), .val (.int p2), .val (.int p3), .val (.int v4_2)] [(.ref a0)])
  refine ogo (fun _ z_ => XS.iloadN X3.here hx rfl (hb hby d1_80) rfl z_) ?_
  show OWay p e below G T3 (mkF m 81 #[.val (.ref a0), .val (.int p1), .val (.int p2), .val (.int p3), .val (.int v4_2)] [(.int p2), (.ref a0)])
  have F5 : Exa Z h3 a0 "com/example/wakeline/wakeline/index/Cell" := (hp0.wr W3)
  have F6 : Fld Z h3 a0 "com/example/wakeline/wakeline/index/Cell" "column" "I" (.int (0 : Int32)) := (hp3.other W3 (Or.inr (slot_ne (Or.inr (hw _ (List.mem_of_getElem? (i := 18) rfl))) (Or.inr (hw _ (List.mem_of_getElem? (i := 16) rfl))) (by decide) (t := .int) (t' := .int) (by decide) (by decide))))
  obtain ⟨T7, h7, X7, eT7, W7, st7⟩ := putF X3 hx hZ hown (host := "") (Or.inl (hw _ (List.mem_of_getElem? (i := 17) rfl))) Via.refl eT3 F6 F5 (Or.inr ⟨(hw _ (List.mem_of_getElem? (i := 18) rfl)), rfl, hnm⟩) (hw _ (List.mem_of_getElem? (i := 2) rfl)) (ty := .int) (by decide) rfl rfl (g := (mkF m 81 #[.val (.ref a0), .val (.int p1), .val (.int p2), .val (.int p3), .val (.int v4_2)] [(.int p2), (.ref a0)])) rfl rfl (hb hby d1_81)
  have K8 : Keep h0 h7 [a0] := K4.wr W7 (Or.inl (List.mem_of_getElem? (i := 0) rfl))
  have Fw7 : Fld Z h7 a0 "com/example/wakeline/wakeline/index/Cell" "column" "I" (.int p2) := F6.same W7
  have N7 := Fr.snoc X7 N3 g_a0
  refine ogo st7 ?_
  show OWay p e below G T7 (mkF m 84 #[.val (.ref a0), .val (.int p1), .val (.int p2), .val (.int p3), .val (.int v4_2)] [])
  refine ogo (fun _ z_ => XS.aloadN X7.here hx rfl (hb hby d1_84) rfl rfl z_) ?_
  show OWay p e below G T7 (mkF m 85 #[.val (.ref a0), .val (.int p1), .val (.int p2), .val (.int p3), .val (.int v4_2)] [(.ref a0)])
  refine ogo (fun _ z_ => XS.iloadN X7.here hx rfl (hb hby d1_85) rfl z_) ?_
  show OWay p e below G T7 (mkF m 86 #[.val (.ref a0), .val (.int p1), .val (.int p2), .val (.int p3), .val (.int v4_2)] [(.int p3), (.ref a0)])
  have F9 : Exa Z h7 a0 "com/example/wakeline/wakeline/index/Cell" := (F5.wr W7)
  have F10 : Fld Z h7 a0 "com/example/wakeline/wakeline/index/Cell" "row" "I" (.int (0 : Int32)) := ((hp4.other W3 (Or.inr (slot_ne (Or.inr (hw _ (List.mem_of_getElem? (i := 20) rfl))) (Or.inr (hw _ (List.mem_of_getElem? (i := 16) rfl))) (by decide) (t := .int) (t' := .int) (by decide) (by decide)))).other W7 (Or.inr (slot_ne (Or.inr (hw _ (List.mem_of_getElem? (i := 20) rfl))) (Or.inr (hw _ (List.mem_of_getElem? (i := 18) rfl))) (by decide) (t := .int) (t' := .int) (by decide) (by decide))))
  obtain ⟨T11, h11, X11, eT11, W11, st11⟩ := putF X7 hx hZ hown (host := "") (Or.inl (hw _ (List.mem_of_getElem? (i := 19) rfl))) Via.refl eT7 F10 F9 (Or.inr ⟨(hw _ (List.mem_of_getElem? (i := 20) rfl)), rfl, hnm⟩) (hw _ (List.mem_of_getElem? (i := 2) rfl)) (ty := .int) (by decide) rfl rfl (g := (mkF m 86 #[.val (.ref a0), .val (.int p1), .val (.int p2), .val (.int p3), .val (.int v4_2)] [(.int p3), (.ref a0)])) rfl rfl (hb hby d1_86)
  have K12 : Keep h0 h11 [a0] := K8.wr W11 (Or.inl (List.mem_of_getElem? (i := 0) rfl))
  have Fw11 : Fld Z h11 a0 "com/example/wakeline/wakeline/index/Cell" "row" "I" (.int p3) := F10.same W11
  have N11 := Fr.snoc X11 N7 g_a0
  refine ogo st11 ?_
  show OWay p e below G T11 (mkF m 89 #[.val (.ref a0), .val (.int p1), .val (.int p2), .val (.int p3), .val (.int v4_2)] [])
  subst hG
  refine wRetV X11 hx hret hlk (hb hby d1_89) (by decide) (by decide) eT11 ?_
  exact ⟨rfl, N11, K12, ((Fw3.other W7 (Or.inr (slot_ne (Or.inr (hw _ (List.mem_of_getElem? (i := 16) rfl))) (Or.inr (hw _ (List.mem_of_getElem? (i := 18) rfl))) (by decide) (t := .int) (t' := .int) (by decide) (by decide)))).other W11 (Or.inr (slot_ne (Or.inr (hw _ (List.mem_of_getElem? (i := 16) rfl))) (Or.inr (hw _ (List.mem_of_getElem? (i := 20) rfl))) (by decide) (t := .int) (t' := .int) (by decide) (by decide)))), (Fw7.other W11 (Or.inr (slot_ne (Or.inr (hw _ (List.mem_of_getElem? (i := 18) rfl))) (Or.inr (hw _ (List.mem_of_getElem? (i := 20) rfl))) (by decide) (t := .int) (t' := .int) (by decide) (by decide)))), Fw11⟩
theorem d4_0 : decode prog_6_method_6_code 0 = .ok (.aload_n 0, 1) := by decide +kernel
theorem d4_1 : decode prog_6_method_6_code 1 = .ok (.getfield 21, 3) := by decide +kernel
theorem d4_4 : decode prog_6_method_6_code 4 = .ok (.iload_n 1, 1) := by decide +kernel
theorem d4_5 : decode prog_6_method_6_code 5 = .ok (.isub, 1) := by decide +kernel
theorem d4_6 : decode prog_6_method_6_code 6 = .ok (.istore_n 2, 1) := by decide +kernel
theorem d4_7 : decode prog_6_method_6_code 7 = .ok (.aload_n 0, 1) := by decide +kernel
theorem d4_8 : decode prog_6_method_6_code 8 = .ok (.getfield 27, 3) := by decide +kernel
theorem d4_11 : decode prog_6_method_6_code 11 = .ok (.iload_n 2, 1) := by decide +kernel
theorem d4_12 : decode prog_6_method_6_code 12 = .ok (.ishr, 1) := by decide +kernel
theorem d4_13 : decode prog_6_method_6_code 13 = .ok (.iconst 1, 1) := by decide +kernel
theorem d4_14 : decode prog_6_method_6_code 14 = .ok (.iand, 1) := by decide +kernel
theorem d4_15 : decode prog_6_method_6_code 15 = .ok (.iconst 2, 1) := by decide +kernel
theorem d4_16 : decode prog_6_method_6_code 16 = .ok (.aload_n 0, 1) := by decide +kernel
theorem d4_17 : decode prog_6_method_6_code 17 = .ok (.getfield 30, 3) := by decide +kernel
theorem d4_20 : decode prog_6_method_6_code 20 = .ok (.iload_n 2, 1) := by decide +kernel
theorem d4_21 : decode prog_6_method_6_code 21 = .ok (.ishr, 1) := by decide +kernel
theorem d4_22 : decode prog_6_method_6_code 22 = .ok (.iconst 1, 1) := by decide +kernel
theorem d4_23 : decode prog_6_method_6_code 23 = .ok (.iand, 1) := by decide +kernel
theorem d4_24 : decode prog_6_method_6_code 24 = .ok (.imul, 1) := by decide +kernel
theorem d4_25 : decode prog_6_method_6_code 25 = .ok (.iadd, 1) := by decide +kernel
theorem d4_26 : decode prog_6_method_6_code 26 = .ok (.ireturn, 1) := by decide +kernel
def quad_b_rm : Room := { frames := 0, cells := 0, slots := 0, locals := 0 }
def quad_b_Q (Z : State) (a0 : Addr) (p1 : Int32) (w0 : Int32) (w1 : Int32) (w2 : Int32) (h0 : Heap) (n0 : Nat) (v : Option Value) (h : Heap) (L : List Loc) : Prop := (v = some (.int (qd w0 w1 w2 p1))) ∧ (Fr n0 L) ∧ (h = h0)
theorem quad_b_ef (m : MethodId) (a0 : Addr) (p1 : Int32) : entryFrame m #[(.ref a0), (.int p1)] 3 = mkF m 0 #[.val (.ref a0), .val (.int p1), .unset] [] := by first | (simp [entryFrame, mkF, argsToLocals, Value.category]; done) | rfl
set_option maxRecDepth 65536 in
set_option maxHeartbeats 40000000 in
theorem quad_b_c (l : Launch) (Z : State) (az : Array Value) (hw : ∀ d ∈ tables_1, d.before az Z = true) (ws : List Jvm.Cond) (a0 : Addr) (p1 : Int32) (w0 : Int32) (w1 : Int32) (w2 : Int32) (h0 : Heap) (n0 : Nat) (Z0 : n0 ≤ h0.size) (hp0 : Fld Z h0 a0 "com/example/wakeline/wakeline/index/Cell" "level" "I" (.int w0)) (hp1 : Fld Z h0 a0 "com/example/wakeline/wakeline/index/Cell" "column" "I" (.int w1)) (hp2 : Fld Z h0 a0 "com/example/wakeline/wakeline/index/Cell" "row" "I" (.int w2)) :
    OCon l (⟨"com/example/wakeline/wakeline/index/Cell", "quadrant", "(I)I"⟩ : MethodName) prog_6_method_6_code 3 (some .int) ws quad_b_rm Z #[(.ref a0), (.int p1)] h0 (quad_b_Q Z a0 p1 w0 w1 w2 h0 n0) := by
  refine ocon (plainFor_of_name pn_com_example_wakeline_wakeline_index_Cell) ?_
  intro p e s m below meth c s₁ hx hby hml hown hnm hret hlk hZ X0 eh0
  have N0 := Fr.nil n0
  have K0 := Keep.refl h0 []
  refine ogoE (quad_b_ef m a0 p1) ?_
  generalize hG : (OEnd s below (quad_b_Q Z a0 p1 w0 w1 w2 h0 n0) quad_b_rm.cells quad_b_rm.slots) = G
  show OWay p e below G s₁ (mkF m 0 #[.val (.ref a0), .val (.int p1), .unset] [])
  refine ogo (fun _ z_ => XS.aloadN X0.here hx rfl (hb hby d4_0) rfl rfl z_) ?_
  show OWay p e below G s₁ (mkF m 1 #[.val (.ref a0), .val (.int p1), .unset] [(.ref a0)])
  obtain ⟨T1, X1, eT1, st1⟩ := getF X0 hx hZ hown (host := "") (Or.inl (hw _ (List.mem_of_getElem? (i := 15) rfl))) Via.refl eh0 hp0 (g := (mkF m 1 #[.val (.ref a0), .val (.int p1), .unset] [(.ref a0)])) rfl rfl (hb hby d4_1)
  refine ogo st1 ?_
  show OWay p e below G T1 (mkF m 4 #[.val (.ref a0), .val (.int p1), .unset] [(.int w0)])
  refine ogo (fun _ z_ => XS.iloadN X1.here hx rfl (hb hby d4_4) rfl z_) ?_
  show OWay p e below G T1 (mkF m 5 #[.val (.ref a0), .val (.int p1), .unset] [(.int p1), (.int w0)])
  refine ogo (fun _ z_ => XS.isub X1.here hx rfl (hb hby d4_5) rfl z_) ?_
  show OWay p e below G T1 (mkF m 6 #[.val (.ref a0), .val (.int p1), .unset] [(.int (w0 - p1))])
  suffices Jv2_2 : ∀ v2_2 : Int32, v2_2 = (w0 - p1) → OWay p e below G T1 (mkF m 6 #[.val (.ref a0), .val (.int p1), .unset] [(.int v2_2)]) from Jv2_2 _ rfl
  intro v2_2 hv2_2
  refine ogo (fun _ z_ => XS.istoreN X1.here hx rfl (hb hby d4_6) rfl (l' := #[.val (.ref a0), .val (.int p1), .val (.int v2_2)]) rfl z_) ?_
  show OWay p e below G T1 (mkF m 7 #[.val (.ref a0), .val (.int p1), .val (.int v2_2)] [])
  refine ogo (fun _ z_ => XS.aloadN X1.here hx rfl (hb hby d4_7) rfl rfl z_) ?_
  show OWay p e below G T1 (mkF m 8 #[.val (.ref a0), .val (.int p1), .val (.int v2_2)] [(.ref a0)])
  obtain ⟨T3, X3, eT3, st3⟩ := getF X1 hx hZ hown (host := "") (Or.inl (hw _ (List.mem_of_getElem? (i := 17) rfl))) Via.refl eT1 hp1 (g := (mkF m 8 #[.val (.ref a0), .val (.int p1), .val (.int v2_2)] [(.ref a0)])) rfl rfl (hb hby d4_8)
  refine ogo st3 ?_
  show OWay p e below G T3 (mkF m 11 #[.val (.ref a0), .val (.int p1), .val (.int v2_2)] [(.int w1)])
  refine ogo (fun _ z_ => XS.iloadN X3.here hx rfl (hb hby d4_11) rfl z_) ?_
  show OWay p e below G T3 (mkF m 12 #[.val (.ref a0), .val (.int p1), .val (.int v2_2)] [(.int v2_2), (.int w1)])
  refine ogo (fun _ z_ => XS.ishr X3.here hx rfl (hb hby d4_12) rfl z_) ?_
  show OWay p e below G T3 (mkF m 13 #[.val (.ref a0), .val (.int p1), .val (.int v2_2)] [(.int (w1 >>> (v2_2 &&& 31)))])
  refine ogo (fun _ z_ => XS.iconst X3.here hx rfl (hb hby d4_13) z_) ?_
  show OWay p e below G T3 (mkF m 14 #[.val (.ref a0), .val (.int p1), .val (.int v2_2)] [(.int (1 : Int32)), (.int (w1 >>> (v2_2 &&& 31)))])
  refine ogo (fun _ z_ => XS.iand X3.here hx rfl (hb hby d4_14) rfl z_) ?_
  show OWay p e below G T3 (mkF m 15 #[.val (.ref a0), .val (.int p1), .val (.int v2_2)] [(.int ((w1 >>> (v2_2 &&& 31)) &&& (1 : Int32)))])
  refine ogo (fun _ z_ => XS.iconst X3.here hx rfl (hb hby d4_15) z_) ?_
  show OWay p e below G T3 (mkF m 16 #[.val (.ref a0), .val (.int p1), .val (.int v2_2)] [(.int (2 : Int32)), (.int ((w1 >>> (v2_2 &&& 31)) &&& (1 : Int32)))])
  refine ogo (fun _ z_ => XS.aloadN X3.here hx rfl (hb hby d4_16) rfl rfl z_) ?_
  show OWay p e below G T3 (mkF m 17 #[.val (.ref a0), .val (.int p1), .val (.int v2_2)] [(.ref a0), (.int (2 : Int32)), (.int ((w1 >>> (v2_2 &&& 31)) &&& (1 : Int32)))])
  obtain ⟨T4, X4, eT4, st4⟩ := getF X3 hx hZ hown (host := "") (Or.inl (hw _ (List.mem_of_getElem? (i := 19) rfl))) Via.refl eT3 hp2 (g := (mkF m 17 #[.val (.ref a0), .val (.int p1), .val (.int v2_2)] [(.ref a0), (.int (2 : Int32)), (.int ((w1 >>> (v2_2 &&& 31)) &&& (1 : Int32)))])) rfl rfl (hb hby d4_17)
  refine ogo st4 ?_
  show OWay p e below G T4 (mkF m 20 #[.val (.ref a0), .val (.int p1), .val (.int v2_2)] [(.int w2), (.int (2 : Int32)), (.int ((w1 >>> (v2_2 &&& 31)) &&& (1 : Int32)))])
  refine ogo (fun _ z_ => XS.iloadN X4.here hx rfl (hb hby d4_20) rfl z_) ?_
  show OWay p e below G T4 (mkF m 21 #[.val (.ref a0), .val (.int p1), .val (.int v2_2)] [(.int v2_2), (.int w2), (.int (2 : Int32)), (.int ((w1 >>> (v2_2 &&& 31)) &&& (1 : Int32)))])
  refine ogo (fun _ z_ => XS.ishr X4.here hx rfl (hb hby d4_21) rfl z_) ?_
  show OWay p e below G T4 (mkF m 22 #[.val (.ref a0), .val (.int p1), .val (.int v2_2)] [(.int (w2 >>> (v2_2 &&& 31))), (.int (2 : Int32)), (.int ((w1 >>> (v2_2 &&& 31)) &&& (1 : Int32)))])
  refine ogo (fun _ z_ => XS.iconst X4.here hx rfl (hb hby d4_22) z_) ?_
  show OWay p e below G T4 (mkF m 23 #[.val (.ref a0), .val (.int p1), .val (.int v2_2)] [(.int (1 : Int32)), (.int (w2 >>> (v2_2 &&& 31))), (.int (2 : Int32)), (.int ((w1 >>> (v2_2 &&& 31)) &&& (1 : Int32)))])
  refine ogo (fun _ z_ => XS.iand X4.here hx rfl (hb hby d4_23) rfl z_) ?_
  show OWay p e below G T4 (mkF m 24 #[.val (.ref a0), .val (.int p1), .val (.int v2_2)] [(.int ((w2 >>> (v2_2 &&& 31)) &&& (1 : Int32))), (.int (2 : Int32)), (.int ((w1 >>> (v2_2 &&& 31)) &&& (1 : Int32)))])
  refine ogo (fun _ z_ => XS.imul X4.here hx rfl (hb hby d4_24) rfl z_) ?_
  show OWay p e below G T4 (mkF m 25 #[.val (.ref a0), .val (.int p1), .val (.int v2_2)] [(.int ((2 : Int32) * ((w2 >>> (v2_2 &&& 31)) &&& (1 : Int32)))), (.int ((w1 >>> (v2_2 &&& 31)) &&& (1 : Int32)))])
  refine ogo (fun _ z_ => XS.iadd X4.here hx rfl (hb hby d4_25) rfl z_) ?_
  show OWay p e below G T4 (mkF m 26 #[.val (.ref a0), .val (.int p1), .val (.int v2_2)] [(.int (((w1 >>> (v2_2 &&& 31)) &&& (1 : Int32)) + ((2 : Int32) * ((w2 >>> (v2_2 &&& 31)) &&& (1 : Int32)))))])
  subst hG
  refine wRet X4 hx hret hlk rfl (Or.inl ⟨rfl, Or.inl rfl, _, rfl⟩) (hb hby d4_26) (by decide) (by decide) eT4 ?_
  subst hv2_2
  exact ⟨rfl, N0, rfl⟩
theorem d5_0 : decode prog_6_method_4_code 0 = .ok (.new 22, 3) := by decide +kernel
theorem d5_3 : decode prog_6_method_4_code 3 = .ok (.dup, 1) := by decide +kernel
theorem d5_4 : decode prog_6_method_4_code 4 = .ok (.aload_n 0, 1) := by decide +kernel
theorem d5_5 : decode prog_6_method_4_code 5 = .ok (.getfield 21, 3) := by decide +kernel
theorem d5_8 : decode prog_6_method_4_code 8 = .ok (.iconst 1, 1) := by decide +kernel
theorem d5_9 : decode prog_6_method_4_code 9 = .ok (.iadd, 1) := by decide +kernel
theorem d5_10 : decode prog_6_method_4_code 10 = .ok (.iconst 2, 1) := by decide +kernel
theorem d5_11 : decode prog_6_method_4_code 11 = .ok (.aload_n 0, 1) := by decide +kernel
theorem d5_12 : decode prog_6_method_4_code 12 = .ok (.getfield 27, 3) := by decide +kernel
theorem d5_15 : decode prog_6_method_4_code 15 = .ok (.imul, 1) := by decide +kernel
theorem d5_16 : decode prog_6_method_4_code 16 = .ok (.iload_n 1, 1) := by decide +kernel
theorem d5_17 : decode prog_6_method_4_code 17 = .ok (.iconst 1, 1) := by decide +kernel
theorem d5_18 : decode prog_6_method_4_code 18 = .ok (.iand, 1) := by decide +kernel
theorem d5_19 : decode prog_6_method_4_code 19 = .ok (.iadd, 1) := by decide +kernel
theorem d5_20 : decode prog_6_method_4_code 20 = .ok (.iconst 2, 1) := by decide +kernel
theorem d5_21 : decode prog_6_method_4_code 21 = .ok (.aload_n 0, 1) := by decide +kernel
theorem d5_22 : decode prog_6_method_4_code 22 = .ok (.getfield 30, 3) := by decide +kernel
theorem d5_25 : decode prog_6_method_4_code 25 = .ok (.imul, 1) := by decide +kernel
theorem d5_26 : decode prog_6_method_4_code 26 = .ok (.iload_n 1, 1) := by decide +kernel
theorem d5_27 : decode prog_6_method_4_code 27 = .ok (.iconst 1, 1) := by decide +kernel
theorem d5_28 : decode prog_6_method_4_code 28 = .ok (.ishr, 1) := by decide +kernel
theorem d5_29 : decode prog_6_method_4_code 29 = .ok (.iadd, 1) := by decide +kernel
theorem d5_30 : decode prog_6_method_4_code 30 = .ok (.invokespecial 44, 3) := by decide +kernel
theorem pd__III_V : parseMethodDescriptor "(III)V" = some ⟨[.int, .int, .int], none⟩ := by decide +kernel
theorem d5_33 : decode prog_6_method_4_code 33 = .ok (.areturn, 1) := by decide +kernel
def child_b_rm : Room := { frames := 3, cells := 1, slots := 3, locals := 41 }
def child_b_Q (Z : State) (a0 : Addr) (p1 : Int32) (w0 : Int32) (w1 : Int32) (w2 : Int32) (h0 : Heap) (n0 : Nat) (v : Option Value) (h : Heap) (L : List Loc) : Prop := ∃ b : Addr, (v = some (.ref b)) ∧ (Fr n0 L) ∧ (Keep h0 h []) ∧ (n0 ≤ b) ∧ (h0.size ≤ b) ∧ (Exa Z h b "com/example/wakeline/wakeline/index/Cell") ∧ (Fld Z h b "com/example/wakeline/wakeline/index/Cell" "level" "I" (.int (w0 + (1 : Int32)))) ∧ (Fld Z h b "com/example/wakeline/wakeline/index/Cell" "column" "I" (.int (((2 : Int32) * w1) + (p1 &&& (1 : Int32))))) ∧ (Fld Z h b "com/example/wakeline/wakeline/index/Cell" "row" "I" (.int (((2 : Int32) * w2) + (p1 >>> ((1 : Int32) &&& 31)))))
theorem child_b_ef (m : MethodId) (a0 : Addr) (p1 : Int32) : entryFrame m #[(.ref a0), (.int p1)] 2 = mkF m 0 #[.val (.ref a0), .val (.int p1)] [] := by first | (simp [entryFrame, mkF, argsToLocals, Value.category]; done) | rfl
set_option maxRecDepth 65536 in
set_option maxHeartbeats 40000000 in
theorem child_b_c (l : Launch) (Z : State) (az : Array Value) (hw : ∀ d ∈ tables_1, d.before az Z = true) (ws : List Jvm.Cond) (a0 : Addr) (p1 : Int32) (w0 : Int32) (w1 : Int32) (w2 : Int32) (h0 : Heap) (n0 : Nat) (Z0 : n0 ≤ h0.size) (hp0 : Fld Z h0 a0 "com/example/wakeline/wakeline/index/Cell" "level" "I" (.int w0)) (hp1 : Fld Z h0 a0 "com/example/wakeline/wakeline/index/Cell" "column" "I" (.int w1)) (hp2 : Fld Z h0 a0 "com/example/wakeline/wakeline/index/Cell" "row" "I" (.int w2)) (hl1 : ¬ (w0 + (1 : Int32)) < (1 : Int32)) (hl2 : ¬ (17 : Int32) < (w0 + (1 : Int32))) (hc1 : ¬ (((2 : Int32) * w1) + (p1 &&& (1 : Int32))) < (0 : Int32)) (hc2 : (((2 : Int32) * w1) + (p1 &&& (1 : Int32))) < ((1 : Int32) <<< ((w0 + (1 : Int32)) &&& 31))) (hr1 : ¬ (((2 : Int32) * w2) + (p1 >>> ((1 : Int32) &&& 31))) < (0 : Int32)) (hr2 : (((2 : Int32) * w2) + (p1 >>> ((1 : Int32) &&& 31))) < ((1 : Int32) <<< ((w0 + (1 : Int32)) &&& 31))) :
    OCon l (⟨"com/example/wakeline/wakeline/index/Cell", "child", "(I)Lcom/example/wakeline/wakeline/index/Cell;"⟩ : MethodName) prog_6_method_4_code 2 (some (.object "com/example/wakeline/wakeline/index/Cell")) ws child_b_rm Z #[(.ref a0), (.int p1)] h0 (child_b_Q Z a0 p1 w0 w1 w2 h0 n0) := by
  refine ocon (plainFor_of_name pn_com_example_wakeline_wakeline_index_Cell) ?_
  intro p e s m below meth c s₁ hx hby hml hown hnm hret hlk hZ X0 eh0
  have N0 := Fr.nil n0
  have K0 := Keep.refl h0 []
  refine ogoE (child_b_ef m a0 p1) ?_
  generalize hG : (OEnd s below (child_b_Q Z a0 p1 w0 w1 w2 h0 n0) child_b_rm.cells child_b_rm.slots) = G
  show OWay p e below G s₁ (mkF m 0 #[.val (.ref a0), .val (.int p1)] [])
  obtain ⟨T1, h1, X1, eT1, E1, A1, D1, -, st1⟩ := newO X0 hx hZ hown (hw _ (List.mem_of_getElem? (i := 31) rfl)) (hw _ (List.mem_of_getElem? (i := 2) rfl)) (hw _ (List.mem_of_getElem? (i := 3) rfl)) eh0 (g := (mkF m 0 #[.val (.ref a0), .val (.int p1)] [])) rfl (hb hby d5_0) (by decide) (by decide)
  obtain ⟨b1, g1⟩ : ∃ z, z = h0.size := ⟨_, rfl⟩
  rw [← g1] at A1 D1 st1
  have g_b1 : n0 ≤ b1 := Nat.le_trans Z0 (Nat.le_of_eq g1.symm)
  have sz_b1 : h0.size ≤ b1 := Nat.le_trans K0.1 (Nat.le_of_eq g1.symm)
  have K2 : Keep h0 h1 [] := K0.ext E1
  have F_level_b1 : Fld Z h1 b1 "com/example/wakeline/wakeline/index/Cell" "level" "I" (.int (0 : Int32)) := D1 (Or.inr (hw _ (List.mem_of_getElem? (i := 16) rfl))) (ty := .int) (by decide)
  have F_column_b1 : Fld Z h1 b1 "com/example/wakeline/wakeline/index/Cell" "column" "I" (.int (0 : Int32)) := D1 (Or.inr (hw _ (List.mem_of_getElem? (i := 18) rfl))) (ty := .int) (by decide)
  have F_row_b1 : Fld Z h1 b1 "com/example/wakeline/wakeline/index/Cell" "row" "I" (.int (0 : Int32)) := D1 (Or.inr (hw _ (List.mem_of_getElem? (i := 20) rfl))) (ty := .int) (by decide)
  refine ogo st1 ?_
  show OWay p e below G T1 (mkF m 3 #[.val (.ref a0), .val (.int p1)] [(.ref b1)])
  refine ogo (fun _ z_ => XS.dup X1.here hx rfl (hb hby d5_3) rfl rfl z_) ?_
  show OWay p e below G T1 (mkF m 4 #[.val (.ref a0), .val (.int p1)] [(.ref b1), (.ref b1)])
  refine ogo (fun _ z_ => XS.aloadN X1.here hx rfl (hb hby d5_4) rfl rfl z_) ?_
  show OWay p e below G T1 (mkF m 5 #[.val (.ref a0), .val (.int p1)] [(.ref a0), (.ref b1), (.ref b1)])
  have F3 : Fld Z h1 a0 "com/example/wakeline/wakeline/index/Cell" "level" "I" (.int w0) := (hp0.ext E1)
  obtain ⟨T4, X4, eT4, st4⟩ := getF X1 hx hZ hown (host := "") (Or.inl (hw _ (List.mem_of_getElem? (i := 15) rfl))) Via.refl eT1 F3 (g := (mkF m 5 #[.val (.ref a0), .val (.int p1)] [(.ref a0), (.ref b1), (.ref b1)])) rfl rfl (hb hby d5_5)
  refine ogo st4 ?_
  show OWay p e below G T4 (mkF m 8 #[.val (.ref a0), .val (.int p1)] [(.int w0), (.ref b1), (.ref b1)])
  refine ogo (fun _ z_ => XS.iconst X4.here hx rfl (hb hby d5_8) z_) ?_
  show OWay p e below G T4 (mkF m 9 #[.val (.ref a0), .val (.int p1)] [(.int (1 : Int32)), (.int w0), (.ref b1), (.ref b1)])
  refine ogo (fun _ z_ => XS.iadd X4.here hx rfl (hb hby d5_9) rfl z_) ?_
  show OWay p e below G T4 (mkF m 10 #[.val (.ref a0), .val (.int p1)] [(.int (w0 + (1 : Int32))), (.ref b1), (.ref b1)])
  refine ogo (fun _ z_ => XS.iconst X4.here hx rfl (hb hby d5_10) z_) ?_
  show OWay p e below G T4 (mkF m 11 #[.val (.ref a0), .val (.int p1)] [(.int (2 : Int32)), (.int (w0 + (1 : Int32))), (.ref b1), (.ref b1)])
  refine ogo (fun _ z_ => XS.aloadN X4.here hx rfl (hb hby d5_11) rfl rfl z_) ?_
  show OWay p e below G T4 (mkF m 12 #[.val (.ref a0), .val (.int p1)] [(.ref a0), (.int (2 : Int32)), (.int (w0 + (1 : Int32))), (.ref b1), (.ref b1)])
  have F5 : Fld Z h1 a0 "com/example/wakeline/wakeline/index/Cell" "column" "I" (.int w1) := (hp1.ext E1)
  obtain ⟨T6, X6, eT6, st6⟩ := getF X4 hx hZ hown (host := "") (Or.inl (hw _ (List.mem_of_getElem? (i := 17) rfl))) Via.refl eT4 F5 (g := (mkF m 12 #[.val (.ref a0), .val (.int p1)] [(.ref a0), (.int (2 : Int32)), (.int (w0 + (1 : Int32))), (.ref b1), (.ref b1)])) rfl rfl (hb hby d5_12)
  refine ogo st6 ?_
  show OWay p e below G T6 (mkF m 15 #[.val (.ref a0), .val (.int p1)] [(.int w1), (.int (2 : Int32)), (.int (w0 + (1 : Int32))), (.ref b1), (.ref b1)])
  refine ogo (fun _ z_ => XS.imul X6.here hx rfl (hb hby d5_15) rfl z_) ?_
  show OWay p e below G T6 (mkF m 16 #[.val (.ref a0), .val (.int p1)] [(.int ((2 : Int32) * w1)), (.int (w0 + (1 : Int32))), (.ref b1), (.ref b1)])
  refine ogo (fun _ z_ => XS.iloadN X6.here hx rfl (hb hby d5_16) rfl z_) ?_
  show OWay p e below G T6 (mkF m 17 #[.val (.ref a0), .val (.int p1)] [(.int p1), (.int ((2 : Int32) * w1)), (.int (w0 + (1 : Int32))), (.ref b1), (.ref b1)])
  refine ogo (fun _ z_ => XS.iconst X6.here hx rfl (hb hby d5_17) z_) ?_
  show OWay p e below G T6 (mkF m 18 #[.val (.ref a0), .val (.int p1)] [(.int (1 : Int32)), (.int p1), (.int ((2 : Int32) * w1)), (.int (w0 + (1 : Int32))), (.ref b1), (.ref b1)])
  refine ogo (fun _ z_ => XS.iand X6.here hx rfl (hb hby d5_18) rfl z_) ?_
  show OWay p e below G T6 (mkF m 19 #[.val (.ref a0), .val (.int p1)] [(.int (p1 &&& (1 : Int32))), (.int ((2 : Int32) * w1)), (.int (w0 + (1 : Int32))), (.ref b1), (.ref b1)])
  refine ogo (fun _ z_ => XS.iadd X6.here hx rfl (hb hby d5_19) rfl z_) ?_
  show OWay p e below G T6 (mkF m 20 #[.val (.ref a0), .val (.int p1)] [(.int (((2 : Int32) * w1) + (p1 &&& (1 : Int32)))), (.int (w0 + (1 : Int32))), (.ref b1), (.ref b1)])
  refine ogo (fun _ z_ => XS.iconst X6.here hx rfl (hb hby d5_20) z_) ?_
  show OWay p e below G T6 (mkF m 21 #[.val (.ref a0), .val (.int p1)] [(.int (2 : Int32)), (.int (((2 : Int32) * w1) + (p1 &&& (1 : Int32)))), (.int (w0 + (1 : Int32))), (.ref b1), (.ref b1)])
  refine ogo (fun _ z_ => XS.aloadN X6.here hx rfl (hb hby d5_21) rfl rfl z_) ?_
  show OWay p e below G T6 (mkF m 22 #[.val (.ref a0), .val (.int p1)] [(.ref a0), (.int (2 : Int32)), (.int (((2 : Int32) * w1) + (p1 &&& (1 : Int32)))), (.int (w0 + (1 : Int32))), (.ref b1), (.ref b1)])
  have F7 : Fld Z h1 a0 "com/example/wakeline/wakeline/index/Cell" "row" "I" (.int w2) := (hp2.ext E1)
  obtain ⟨T8, X8, eT8, st8⟩ := getF X6 hx hZ hown (host := "") (Or.inl (hw _ (List.mem_of_getElem? (i := 19) rfl))) Via.refl eT6 F7 (g := (mkF m 22 #[.val (.ref a0), .val (.int p1)] [(.ref a0), (.int (2 : Int32)), (.int (((2 : Int32) * w1) + (p1 &&& (1 : Int32)))), (.int (w0 + (1 : Int32))), (.ref b1), (.ref b1)])) rfl rfl (hb hby d5_22)
  refine ogo st8 ?_
  show OWay p e below G T8 (mkF m 25 #[.val (.ref a0), .val (.int p1)] [(.int w2), (.int (2 : Int32)), (.int (((2 : Int32) * w1) + (p1 &&& (1 : Int32)))), (.int (w0 + (1 : Int32))), (.ref b1), (.ref b1)])
  refine ogo (fun _ z_ => XS.imul X8.here hx rfl (hb hby d5_25) rfl z_) ?_
  show OWay p e below G T8 (mkF m 26 #[.val (.ref a0), .val (.int p1)] [(.int ((2 : Int32) * w2)), (.int (((2 : Int32) * w1) + (p1 &&& (1 : Int32)))), (.int (w0 + (1 : Int32))), (.ref b1), (.ref b1)])
  refine ogo (fun _ z_ => XS.iloadN X8.here hx rfl (hb hby d5_26) rfl z_) ?_
  show OWay p e below G T8 (mkF m 27 #[.val (.ref a0), .val (.int p1)] [(.int p1), (.int ((2 : Int32) * w2)), (.int (((2 : Int32) * w1) + (p1 &&& (1 : Int32)))), (.int (w0 + (1 : Int32))), (.ref b1), (.ref b1)])
  refine ogo (fun _ z_ => XS.iconst X8.here hx rfl (hb hby d5_27) z_) ?_
  show OWay p e below G T8 (mkF m 28 #[.val (.ref a0), .val (.int p1)] [(.int (1 : Int32)), (.int p1), (.int ((2 : Int32) * w2)), (.int (((2 : Int32) * w1) + (p1 &&& (1 : Int32)))), (.int (w0 + (1 : Int32))), (.ref b1), (.ref b1)])
  refine ogo (fun _ z_ => XS.ishr X8.here hx rfl (hb hby d5_28) rfl z_) ?_
  show OWay p e below G T8 (mkF m 29 #[.val (.ref a0), .val (.int p1)] [(.int (p1 >>> ((1 : Int32) &&& 31))), (.int ((2 : Int32) * w2)), (.int (((2 : Int32) * w1) + (p1 &&& (1 : Int32)))), (.int (w0 + (1 : Int32))), (.ref b1), (.ref b1)])
  refine ogo (fun _ z_ => XS.iadd X8.here hx rfl (hb hby d5_29) rfl z_) ?_
  show OWay p e below G T8 (mkF m 30 #[.val (.ref a0), .val (.int p1)] [(.int (((2 : Int32) * w2) + (p1 >>> ((1 : Int32) &&& 31)))), (.int (((2 : Int32) * w1) + (p1 &&& (1 : Int32)))), (.int (w0 + (1 : Int32))), (.ref b1), (.ref b1)])
  obtain ⟨_, T9, L9, X9, hQ9, st9⟩ := wInit X8 hx hZ (y := (⟨"com/example/wakeline/wakeline/index/Cell", "<init>", "(III)V"⟩ : MethodName)) rfl hown (hw _ (List.mem_of_getElem? (i := 32) rfl)) (hw _ (List.mem_of_getElem? (i := 5) rfl)) (hw _ (List.mem_of_getElem? (i := 3) rfl)) (hw _ (List.mem_of_getElem? (i := 6) rfl)) (by decide) (ctor1_c l Z az hw [] b1 (w0 + (1 : Int32)) (((2 : Int32) * w1) + (p1 &&& (1 : Int32))) (((2 : Int32) * w2) + (p1 >>> ((1 : Int32) &&& 31))) h1 n0 (Nat.le_trans Z0 E1.1) A1 g_b1 F_level_b1 F_column_b1 F_row_b1 hl1 hl2 hc1 hc2 hr1 hr2) 1 (by decide) (by decide) (g := (mkF m 30 #[.val (.ref a0), .val (.int p1)] [(.int (((2 : Int32) * w2) + (p1 >>> ((1 : Int32) &&& 31)))), (.int (((2 : Int32) * w1) + (p1 &&& (1 : Int32)))), (.int (w0 + (1 : Int32))), (.ref b1), (.ref b1)])) rfl (by rw [hml]; rfl) (a := b1) (argsL := [(.int (w0 + (1 : Int32))), (.int (((2 : Int32) * w1) + (p1 &&& (1 : Int32)))), (.int (((2 : Int32) * w2) + (p1 >>> ((1 : Int32) &&& 31))))]) (rest := [(.ref b1)]) (lenOf pd__III_V rfl) rfl (by show 2 * 0 + _ ≤ _; exact Nat.le_of_eq rfl) (hb hby d5_30) rfl eT8 (by decide) (by decide)
  obtain ⟨rfl, N9q, Kq9, P10, P11, P12⟩ := hQ9
  have N9 := Fr.app N0 N9q
  have K13 : Keep h0 T9.heap [] := K2.trans Kq9 (allS (Or.inr sz_b1) all0)
  refine ogoS st9 ?_
  show OWay p e below G T9 (mkF m 33 #[.val (.ref a0), .val (.int p1)] [(.ref b1)])
  subst hG
  refine wRet X9 hx hret hlk rfl (Or.inr (Or.inr (Or.inr (Or.inr ⟨rfl, rfl, rfl⟩)))) (hb hby d5_33) (by decide) (by decide) rfl ?_
  exact ⟨b1, rfl, N9, K13, g_b1, sz_b1, (A1.keep Kq9), P10, P11, P12⟩
theorem pn_com_example_wakeline_wakeline_index_CellQuadrantPinLaw : plainName "com/example/wakeline/wakeline/index/CellQuadrantPinLaw" = true := by first | (simp [plainName, overriddenIn]; done) | decide +kernel
theorem pd__I_I : parseMethodDescriptor "(I)I" = some ⟨[.int], some .int⟩ := by decide +kernel
theorem pd__I_Lcom_example_wakeline_wakeline_index_Cell_ : parseMethodDescriptor "(I)Lcom/example/wakeline/wakeline/index/Cell;" = some ⟨[.int], some (.object "com/example/wakeline/wakeline/index/Cell")⟩ := by decide +kernel
def law_Q (Z : State) (p0 : Int32) (p1 : Int32) (p2 : Int32) (p3 : Int32) (p4 : Int32) (h0 : Heap) (n0 : Nat) (v : Option Value) (h : Heap) (L : List Loc) : Prop := v = some (.int 1) ∧ Fr n0 L
theorem law_ef (m : MethodId) (p0 : Int32) (p1 : Int32) (p2 : Int32) (p3 : Int32) (p4 : Int32) : entryFrame m #[(.int p0), (.int p1), (.int p2), (.int p3), (.int p4)] maxLocals = mkF m 0 #[.val (.int p0), .val (.int p1), .val (.int p2), .val (.int p3), .val (.int p4), .unset, .unset, .unset, .unset, .unset, .unset, .unset, .unset, .unset, .unset, .unset, .unset, .unset] [] := by first | (simp [entryFrame, mkF, argsToLocals, Value.category, maxLocals]; done) | rfl
set_option maxRecDepth 65536 in
set_option maxHeartbeats 40000000 in
theorem law_c (l : Launch) (Z : State) (az : Array Value) (hw : ∀ d ∈ tables_1, d.before az Z = true) (ws : List Jvm.Cond) (p0 : Int32) (p1 : Int32) (p2 : Int32) (p3 : Int32) (p4 : Int32) (h0 : Heap) (n0 : Nat) (Z0 : n0 ≤ h0.size) :
    OCon l x code maxLocals ret ws room_1 Z #[(.int p0), (.int p1), (.int p2), (.int p3), (.int p4)] h0 (law_Q Z p0 p1 p2 p3 p4 h0 n0) := by
  refine ocon (plainFor_of_name pn_com_example_wakeline_wakeline_index_CellQuadrantPinLaw) ?_
  intro p e s m below meth c s₁ hx hby hml hown hnm hret hlk hZ X0 eh0
  have N0 := Fr.nil n0
  have K0 := Keep.refl h0 []
  refine ogoE (law_ef m p0 p1 p2 p3 p4) ?_
  generalize hG : (OEnd s below (law_Q Z p0 p1 p2 p3 p4 h0 n0) room_1.cells room_1.slots) = G
  show OWay p e below G s₁ (mkF m 0 #[.val (.int p0), .val (.int p1), .val (.int p2), .val (.int p3), .val (.int p4), .unset, .unset, .unset, .unset, .unset, .unset, .unset, .unset, .unset, .unset, .unset, .unset, .unset] [])
  refine ogo (fun _ z_ => XS.iconst X0.here hx rfl (hb hby at_0) z_) ?_
  show OWay p e below G s₁ (mkF m 1 #[.val (.int p0), .val (.int p1), .val (.int p2), .val (.int p3), .val (.int p4), .unset, .unset, .unset, .unset, .unset, .unset, .unset, .unset, .unset, .unset, .unset, .unset, .unset] [(.int (1 : Int32))])
  refine ogo (fun _ z_ => XS.iloadN X0.here hx rfl (hb hby at_1) rfl z_) ?_
  show OWay p e below G s₁ (mkF m 2 #[.val (.int p0), .val (.int p1), .val (.int p2), .val (.int p3), .val (.int p4), .unset, .unset, .unset, .unset, .unset, .unset, .unset, .unset, .unset, .unset, .unset, .unset, .unset] [(.int p0), (.int (1 : Int32))])
  refine ogo (fun _ z_ => X0.ldcInt hx hown (mvT hZ (hw _ (List.mem_of_getElem? (i := 0) rfl))) (g := (mkF m 2 #[.val (.int p0), .val (.int p1), .val (.int p2), .val (.int p3), .val (.int p4), .unset, .unset, .unset, .unset, .unset, .unset, .unset, .unset, .unset, .unset, .unset, .unset, .unset] [(.int p0), (.int (1 : Int32))])) rfl (hb hby at_2) _ z_) ?_
  show OWay p e below G s₁ (mkF m 4 #[.val (.int p0), .val (.int p1), .val (.int p2), .val (.int p3), .val (.int p4), .unset, .unset, .unset, .unset, .unset, .unset, .unset, .unset, .unset, .unset, .unset, .unset, .unset] [(.int (2147483647 : Int32)), (.int p0), (.int (1 : Int32))])
  refine ogo (fun _ z_ => XS.iand X0.here hx rfl (hb hby at_4) rfl z_) ?_
  show OWay p e below G s₁ (mkF m 5 #[.val (.int p0), .val (.int p1), .val (.int p2), .val (.int p3), .val (.int p4), .unset, .unset, .unset, .unset, .unset, .unset, .unset, .unset, .unset, .unset, .unset, .unset, .unset] [(.int (p0 &&& (2147483647 : Int32))), (.int (1 : Int32))])
  refine ogo (fun _ z_ => XS.bipush X0.here hx rfl (hb hby at_5) z_) ?_
  show OWay p e below G s₁ (mkF m 7 #[.val (.int p0), .val (.int p1), .val (.int p2), .val (.int p3), .val (.int p4), .unset, .unset, .unset, .unset, .unset, .unset, .unset, .unset, .unset, .unset, .unset, .unset, .unset] [(.int (17 : Int32)), (.int (p0 &&& (2147483647 : Int32))), (.int (1 : Int32))])
  refine ogo (fun _ z_ => iremM X0 hx rfl (hb hby at_7) rfl (by decide) z_) ?_
  show OWay p e below G s₁ (mkF m 8 #[.val (.int p0), .val (.int p1), .val (.int p2), .val (.int p3), .val (.int p4), .unset, .unset, .unset, .unset, .unset, .unset, .unset, .unset, .unset, .unset, .unset, .unset, .unset] [(.int ((p0 &&& (2147483647 : Int32)) % (17 : Int32))), (.int (1 : Int32))])
  refine ogo (fun _ z_ => XS.iadd X0.here hx rfl (hb hby at_8) rfl z_) ?_
  show OWay p e below G s₁ (mkF m 9 #[.val (.int p0), .val (.int p1), .val (.int p2), .val (.int p3), .val (.int p4), .unset, .unset, .unset, .unset, .unset, .unset, .unset, .unset, .unset, .unset, .unset, .unset, .unset] [(.int ((1 : Int32) + ((p0 &&& (2147483647 : Int32)) % (17 : Int32))))])
  suffices Jv5_1 : ∀ v5_1 : Int32, v5_1 = ((1 : Int32) + ((p0 &&& (2147483647 : Int32)) % (17 : Int32))) → OWay p e below G s₁ (mkF m 9 #[.val (.int p0), .val (.int p1), .val (.int p2), .val (.int p3), .val (.int p4), .unset, .unset, .unset, .unset, .unset, .unset, .unset, .unset, .unset, .unset, .unset, .unset, .unset] [(.int v5_1)]) from Jv5_1 _ rfl
  intro v5_1 hv5_1
  refine ogo (fun _ z_ => XS.istore X0.here hx rfl (hb hby at_9) rfl (l' := #[.val (.int p0), .val (.int p1), .val (.int p2), .val (.int p3), .val (.int p4), .val (.int v5_1), .unset, .unset, .unset, .unset, .unset, .unset, .unset, .unset, .unset, .unset, .unset, .unset]) rfl z_) ?_
  show OWay p e below G s₁ (mkF m 11 #[.val (.int p0), .val (.int p1), .val (.int p2), .val (.int p3), .val (.int p4), .val (.int v5_1), .unset, .unset, .unset, .unset, .unset, .unset, .unset, .unset, .unset, .unset, .unset, .unset] [])
  refine ogo (fun _ z_ => XS.iconst X0.here hx rfl (hb hby at_11) z_) ?_
  show OWay p e below G s₁ (mkF m 12 #[.val (.int p0), .val (.int p1), .val (.int p2), .val (.int p3), .val (.int p4), .val (.int v5_1), .unset, .unset, .unset, .unset, .unset, .unset, .unset, .unset, .unset, .unset, .unset, .unset] [(.int (1 : Int32))])
  refine ogo (fun _ z_ => XS.iload X0.here hx rfl (hb hby at_12) rfl z_) ?_
  show OWay p e below G s₁ (mkF m 14 #[.val (.int p0), .val (.int p1), .val (.int p2), .val (.int p3), .val (.int p4), .val (.int v5_1), .unset, .unset, .unset, .unset, .unset, .unset, .unset, .unset, .unset, .unset, .unset, .unset] [(.int v5_1), (.int (1 : Int32))])
  refine ogo (fun _ z_ => XS.ishl X0.here hx rfl (hb hby at_14) rfl z_) ?_
  show OWay p e below G s₁ (mkF m 15 #[.val (.int p0), .val (.int p1), .val (.int p2), .val (.int p3), .val (.int p4), .val (.int v5_1), .unset, .unset, .unset, .unset, .unset, .unset, .unset, .unset, .unset, .unset, .unset, .unset] [(.int ((1 : Int32) <<< (v5_1 &&& 31)))])
  refine ogo (fun _ z_ => XS.iconst X0.here hx rfl (hb hby at_15) z_) ?_
  show OWay p e below G s₁ (mkF m 16 #[.val (.int p0), .val (.int p1), .val (.int p2), .val (.int p3), .val (.int p4), .val (.int v5_1), .unset, .unset, .unset, .unset, .unset, .unset, .unset, .unset, .unset, .unset, .unset, .unset] [(.int (1 : Int32)), (.int ((1 : Int32) <<< (v5_1 &&& 31)))])
  refine ogo (fun _ z_ => XS.isub X0.here hx rfl (hb hby at_16) rfl z_) ?_
  show OWay p e below G s₁ (mkF m 17 #[.val (.int p0), .val (.int p1), .val (.int p2), .val (.int p3), .val (.int p4), .val (.int v5_1), .unset, .unset, .unset, .unset, .unset, .unset, .unset, .unset, .unset, .unset, .unset, .unset] [(.int (((1 : Int32) <<< (v5_1 &&& 31)) - (1 : Int32)))])
  suffices Jv6_2 : ∀ v6_2 : Int32, v6_2 = (((1 : Int32) <<< (v5_1 &&& 31)) - (1 : Int32)) → OWay p e below G s₁ (mkF m 17 #[.val (.int p0), .val (.int p1), .val (.int p2), .val (.int p3), .val (.int p4), .val (.int v5_1), .unset, .unset, .unset, .unset, .unset, .unset, .unset, .unset, .unset, .unset, .unset, .unset] [(.int v6_2)]) from Jv6_2 _ rfl
  intro v6_2 hv6_2
  refine ogo (fun _ z_ => XS.istore X0.here hx rfl (hb hby at_17) rfl (l' := #[.val (.int p0), .val (.int p1), .val (.int p2), .val (.int p3), .val (.int p4), .val (.int v5_1), .val (.int v6_2), .unset, .unset, .unset, .unset, .unset, .unset, .unset, .unset, .unset, .unset, .unset]) rfl z_) ?_
  show OWay p e below G s₁ (mkF m 19 #[.val (.int p0), .val (.int p1), .val (.int p2), .val (.int p3), .val (.int p4), .val (.int v5_1), .val (.int v6_2), .unset, .unset, .unset, .unset, .unset, .unset, .unset, .unset, .unset, .unset, .unset] [])
  refine ogo (fun _ z_ => XS.iloadN X0.here hx rfl (hb hby at_19) rfl z_) ?_
  show OWay p e below G s₁ (mkF m 20 #[.val (.int p0), .val (.int p1), .val (.int p2), .val (.int p3), .val (.int p4), .val (.int v5_1), .val (.int v6_2), .unset, .unset, .unset, .unset, .unset, .unset, .unset, .unset, .unset, .unset, .unset] [(.int p1)])
  refine ogo (fun _ z_ => XS.iload X0.here hx rfl (hb hby at_20) rfl z_) ?_
  show OWay p e below G s₁ (mkF m 22 #[.val (.int p0), .val (.int p1), .val (.int p2), .val (.int p3), .val (.int p4), .val (.int v5_1), .val (.int v6_2), .unset, .unset, .unset, .unset, .unset, .unset, .unset, .unset, .unset, .unset, .unset] [(.int v6_2), (.int p1)])
  refine ogo (fun _ z_ => XS.iand X0.here hx rfl (hb hby at_22) rfl z_) ?_
  show OWay p e below G s₁ (mkF m 23 #[.val (.int p0), .val (.int p1), .val (.int p2), .val (.int p3), .val (.int p4), .val (.int v5_1), .val (.int v6_2), .unset, .unset, .unset, .unset, .unset, .unset, .unset, .unset, .unset, .unset, .unset] [(.int (p1 &&& v6_2))])
  suffices Jv7_3 : ∀ v7_3 : Int32, v7_3 = (p1 &&& v6_2) → OWay p e below G s₁ (mkF m 23 #[.val (.int p0), .val (.int p1), .val (.int p2), .val (.int p3), .val (.int p4), .val (.int v5_1), .val (.int v6_2), .unset, .unset, .unset, .unset, .unset, .unset, .unset, .unset, .unset, .unset, .unset] [(.int v7_3)]) from Jv7_3 _ rfl
  intro v7_3 hv7_3
  refine ogo (fun _ z_ => XS.istore X0.here hx rfl (hb hby at_23) rfl (l' := #[.val (.int p0), .val (.int p1), .val (.int p2), .val (.int p3), .val (.int p4), .val (.int v5_1), .val (.int v6_2), .val (.int v7_3), .unset, .unset, .unset, .unset, .unset, .unset, .unset, .unset, .unset, .unset]) rfl z_) ?_
  show OWay p e below G s₁ (mkF m 25 #[.val (.int p0), .val (.int p1), .val (.int p2), .val (.int p3), .val (.int p4), .val (.int v5_1), .val (.int v6_2), .val (.int v7_3), .unset, .unset, .unset, .unset, .unset, .unset, .unset, .unset, .unset, .unset] [])
  refine ogo (fun _ z_ => XS.iloadN X0.here hx rfl (hb hby at_25) rfl z_) ?_
  show OWay p e below G s₁ (mkF m 26 #[.val (.int p0), .val (.int p1), .val (.int p2), .val (.int p3), .val (.int p4), .val (.int v5_1), .val (.int v6_2), .val (.int v7_3), .unset, .unset, .unset, .unset, .unset, .unset, .unset, .unset, .unset, .unset] [(.int p2)])
  refine ogo (fun _ z_ => XS.iload X0.here hx rfl (hb hby at_26) rfl z_) ?_
  show OWay p e below G s₁ (mkF m 28 #[.val (.int p0), .val (.int p1), .val (.int p2), .val (.int p3), .val (.int p4), .val (.int v5_1), .val (.int v6_2), .val (.int v7_3), .unset, .unset, .unset, .unset, .unset, .unset, .unset, .unset, .unset, .unset] [(.int v6_2), (.int p2)])
  refine ogo (fun _ z_ => XS.iand X0.here hx rfl (hb hby at_28) rfl z_) ?_
  show OWay p e below G s₁ (mkF m 29 #[.val (.int p0), .val (.int p1), .val (.int p2), .val (.int p3), .val (.int p4), .val (.int v5_1), .val (.int v6_2), .val (.int v7_3), .unset, .unset, .unset, .unset, .unset, .unset, .unset, .unset, .unset, .unset] [(.int (p2 &&& v6_2))])
  suffices Jv8_4 : ∀ v8_4 : Int32, v8_4 = (p2 &&& v6_2) → OWay p e below G s₁ (mkF m 29 #[.val (.int p0), .val (.int p1), .val (.int p2), .val (.int p3), .val (.int p4), .val (.int v5_1), .val (.int v6_2), .val (.int v7_3), .unset, .unset, .unset, .unset, .unset, .unset, .unset, .unset, .unset, .unset] [(.int v8_4)]) from Jv8_4 _ rfl
  intro v8_4 hv8_4
  refine ogo (fun _ z_ => XS.istore X0.here hx rfl (hb hby at_29) rfl (l' := #[.val (.int p0), .val (.int p1), .val (.int p2), .val (.int p3), .val (.int p4), .val (.int v5_1), .val (.int v6_2), .val (.int v7_3), .val (.int v8_4), .unset, .unset, .unset, .unset, .unset, .unset, .unset, .unset, .unset]) rfl z_) ?_
  show OWay p e below G s₁ (mkF m 31 #[.val (.int p0), .val (.int p1), .val (.int p2), .val (.int p3), .val (.int p4), .val (.int v5_1), .val (.int v6_2), .val (.int v7_3), .val (.int v8_4), .unset, .unset, .unset, .unset, .unset, .unset, .unset, .unset, .unset] [])
  refine ogo (fun _ z_ => XS.iconst X0.here hx rfl (hb hby at_31) z_) ?_
  show OWay p e below G s₁ (mkF m 32 #[.val (.int p0), .val (.int p1), .val (.int p2), .val (.int p3), .val (.int p4), .val (.int v5_1), .val (.int v6_2), .val (.int v7_3), .val (.int v8_4), .unset, .unset, .unset, .unset, .unset, .unset, .unset, .unset, .unset] [(.int (1 : Int32))])
  refine ogo (fun _ z_ => XS.iloadN X0.here hx rfl (hb hby at_32) rfl z_) ?_
  show OWay p e below G s₁ (mkF m 33 #[.val (.int p0), .val (.int p1), .val (.int p2), .val (.int p3), .val (.int p4), .val (.int v5_1), .val (.int v6_2), .val (.int v7_3), .val (.int v8_4), .unset, .unset, .unset, .unset, .unset, .unset, .unset, .unset, .unset] [(.int p3), (.int (1 : Int32))])
  refine ogo (fun _ z_ => X0.ldcInt hx hown (mvT hZ (hw _ (List.mem_of_getElem? (i := 0) rfl))) (g := (mkF m 33 #[.val (.int p0), .val (.int p1), .val (.int p2), .val (.int p3), .val (.int p4), .val (.int v5_1), .val (.int v6_2), .val (.int v7_3), .val (.int v8_4), .unset, .unset, .unset, .unset, .unset, .unset, .unset, .unset, .unset] [(.int p3), (.int (1 : Int32))])) rfl (hb hby at_33) _ z_) ?_
  show OWay p e below G s₁ (mkF m 35 #[.val (.int p0), .val (.int p1), .val (.int p2), .val (.int p3), .val (.int p4), .val (.int v5_1), .val (.int v6_2), .val (.int v7_3), .val (.int v8_4), .unset, .unset, .unset, .unset, .unset, .unset, .unset, .unset, .unset] [(.int (2147483647 : Int32)), (.int p3), (.int (1 : Int32))])
  refine ogo (fun _ z_ => XS.iand X0.here hx rfl (hb hby at_35) rfl z_) ?_
  show OWay p e below G s₁ (mkF m 36 #[.val (.int p0), .val (.int p1), .val (.int p2), .val (.int p3), .val (.int p4), .val (.int v5_1), .val (.int v6_2), .val (.int v7_3), .val (.int v8_4), .unset, .unset, .unset, .unset, .unset, .unset, .unset, .unset, .unset] [(.int (p3 &&& (2147483647 : Int32))), (.int (1 : Int32))])
  have hL := own_lv p0 v5_1 hv5_1
  refine ogo (fun _ z_ => XS.iload X0.here hx rfl (hb hby at_36) rfl z_) ?_
  show OWay p e below G s₁ (mkF m 38 #[.val (.int p0), .val (.int p1), .val (.int p2), .val (.int p3), .val (.int p4), .val (.int v5_1), .val (.int v6_2), .val (.int v7_3), .val (.int v8_4), .unset, .unset, .unset, .unset, .unset, .unset, .unset, .unset, .unset] [(.int v5_1), (.int (p3 &&& (2147483647 : Int32))), (.int (1 : Int32))])
  refine ogo (fun _ z_ => iremM X0 hx rfl (hb hby at_38) rfl (own_nz _ hL.1) z_) ?_
  show OWay p e below G s₁ (mkF m 39 #[.val (.int p0), .val (.int p1), .val (.int p2), .val (.int p3), .val (.int p4), .val (.int v5_1), .val (.int v6_2), .val (.int v7_3), .val (.int v8_4), .unset, .unset, .unset, .unset, .unset, .unset, .unset, .unset, .unset] [(.int ((p3 &&& (2147483647 : Int32)) % v5_1)), (.int (1 : Int32))])
  refine ogo (fun _ z_ => XS.iadd X0.here hx rfl (hb hby at_39) rfl z_) ?_
  show OWay p e below G s₁ (mkF m 40 #[.val (.int p0), .val (.int p1), .val (.int p2), .val (.int p3), .val (.int p4), .val (.int v5_1), .val (.int v6_2), .val (.int v7_3), .val (.int v8_4), .unset, .unset, .unset, .unset, .unset, .unset, .unset, .unset, .unset] [(.int ((1 : Int32) + ((p3 &&& (2147483647 : Int32)) % v5_1)))])
  suffices Jv9_5 : ∀ v9_5 : Int32, v9_5 = ((1 : Int32) + ((p3 &&& (2147483647 : Int32)) % v5_1)) → OWay p e below G s₁ (mkF m 40 #[.val (.int p0), .val (.int p1), .val (.int p2), .val (.int p3), .val (.int p4), .val (.int v5_1), .val (.int v6_2), .val (.int v7_3), .val (.int v8_4), .unset, .unset, .unset, .unset, .unset, .unset, .unset, .unset, .unset] [(.int v9_5)]) from Jv9_5 _ rfl
  intro v9_5 hv9_5
  refine ogo (fun _ z_ => XS.istore X0.here hx rfl (hb hby at_40) rfl (l' := #[.val (.int p0), .val (.int p1), .val (.int p2), .val (.int p3), .val (.int p4), .val (.int v5_1), .val (.int v6_2), .val (.int v7_3), .val (.int v8_4), .val (.int v9_5), .unset, .unset, .unset, .unset, .unset, .unset, .unset, .unset]) rfl z_) ?_
  show OWay p e below G s₁ (mkF m 42 #[.val (.int p0), .val (.int p1), .val (.int p2), .val (.int p3), .val (.int p4), .val (.int v5_1), .val (.int v6_2), .val (.int v7_3), .val (.int v8_4), .val (.int v9_5), .unset, .unset, .unset, .unset, .unset, .unset, .unset, .unset] [])
  have hS := own_st p3 v5_1 v9_5 hL hv9_5
  have hC7 := own_co p1 v5_1 v6_2 v7_3 hL hv6_2 hv7_3
  have hC8 := own_co p2 v5_1 v6_2 v8_4 hL hv6_2 hv8_4
  have hl := own_c1 v5_1 hL
  obtain ⟨T6, h6, X6, eT6, E6, A6, D6, -, st6⟩ := newO X0 hx hZ hown (hw _ (List.mem_of_getElem? (i := 1) rfl)) (hw _ (List.mem_of_getElem? (i := 2) rfl)) (hw _ (List.mem_of_getElem? (i := 3) rfl)) eh0 (g := (mkF m 42 #[.val (.int p0), .val (.int p1), .val (.int p2), .val (.int p3), .val (.int p4), .val (.int v5_1), .val (.int v6_2), .val (.int v7_3), .val (.int v8_4), .val (.int v9_5), .unset, .unset, .unset, .unset, .unset, .unset, .unset, .unset] [])) rfl (hb hby at_42) (by decide) (by decide)
  obtain ⟨b6, g6⟩ : ∃ z, z = h0.size := ⟨_, rfl⟩
  rw [← g6] at A6 D6 st6
  have g_b6 : n0 ≤ b6 := Nat.le_trans Z0 (Nat.le_of_eq g6.symm)
  have sz_b6 : h0.size ≤ b6 := Nat.le_trans K0.1 (Nat.le_of_eq g6.symm)
  have K7 : Keep h0 h6 [] := K0.ext E6
  have F_level_b6 : Fld Z h6 b6 "com/example/wakeline/wakeline/index/Cell" "level" "I" (.int (0 : Int32)) := D6 (Or.inr (hw _ (List.mem_of_getElem? (i := 16) rfl))) (ty := .int) (by decide)
  have F_column_b6 : Fld Z h6 b6 "com/example/wakeline/wakeline/index/Cell" "column" "I" (.int (0 : Int32)) := D6 (Or.inr (hw _ (List.mem_of_getElem? (i := 18) rfl))) (ty := .int) (by decide)
  have F_row_b6 : Fld Z h6 b6 "com/example/wakeline/wakeline/index/Cell" "row" "I" (.int (0 : Int32)) := D6 (Or.inr (hw _ (List.mem_of_getElem? (i := 20) rfl))) (ty := .int) (by decide)
  refine ogo st6 ?_
  show OWay p e below G T6 (mkF m 45 #[.val (.int p0), .val (.int p1), .val (.int p2), .val (.int p3), .val (.int p4), .val (.int v5_1), .val (.int v6_2), .val (.int v7_3), .val (.int v8_4), .val (.int v9_5), .unset, .unset, .unset, .unset, .unset, .unset, .unset, .unset] [(.ref b6)])
  refine ogo (fun _ z_ => XS.dup X6.here hx rfl (hb hby at_45) rfl rfl z_) ?_
  show OWay p e below G T6 (mkF m 46 #[.val (.int p0), .val (.int p1), .val (.int p2), .val (.int p3), .val (.int p4), .val (.int v5_1), .val (.int v6_2), .val (.int v7_3), .val (.int v8_4), .val (.int v9_5), .unset, .unset, .unset, .unset, .unset, .unset, .unset, .unset] [(.ref b6), (.ref b6)])
  refine ogo (fun _ z_ => XS.iload X6.here hx rfl (hb hby at_46) rfl z_) ?_
  show OWay p e below G T6 (mkF m 48 #[.val (.int p0), .val (.int p1), .val (.int p2), .val (.int p3), .val (.int p4), .val (.int v5_1), .val (.int v6_2), .val (.int v7_3), .val (.int v8_4), .val (.int v9_5), .unset, .unset, .unset, .unset, .unset, .unset, .unset, .unset] [(.int v5_1), (.ref b6), (.ref b6)])
  refine ogo (fun _ z_ => XS.iload X6.here hx rfl (hb hby at_48) rfl z_) ?_
  show OWay p e below G T6 (mkF m 50 #[.val (.int p0), .val (.int p1), .val (.int p2), .val (.int p3), .val (.int p4), .val (.int v5_1), .val (.int v6_2), .val (.int v7_3), .val (.int v8_4), .val (.int v9_5), .unset, .unset, .unset, .unset, .unset, .unset, .unset, .unset] [(.int v7_3), (.int v5_1), (.ref b6), (.ref b6)])
  refine ogo (fun _ z_ => XS.iload X6.here hx rfl (hb hby at_50) rfl z_) ?_
  show OWay p e below G T6 (mkF m 52 #[.val (.int p0), .val (.int p1), .val (.int p2), .val (.int p3), .val (.int p4), .val (.int v5_1), .val (.int v6_2), .val (.int v7_3), .val (.int v8_4), .val (.int v9_5), .unset, .unset, .unset, .unset, .unset, .unset, .unset, .unset] [(.int v8_4), (.int v7_3), (.int v5_1), (.ref b6), (.ref b6)])
  obtain ⟨_, T8, L8, X8, hQ8, st8⟩ := wInit X6 hx hZ (y := (⟨"com/example/wakeline/wakeline/index/Cell", "<init>", "(III)V"⟩ : MethodName)) rfl hown (hw _ (List.mem_of_getElem? (i := 4) rfl)) (hw _ (List.mem_of_getElem? (i := 5) rfl)) (hw _ (List.mem_of_getElem? (i := 3) rfl)) (hw _ (List.mem_of_getElem? (i := 6) rfl)) (by decide) (ctor1_c l Z az hw [] b6 v5_1 v7_3 v8_4 h6 n0 (Nat.le_trans Z0 E6.1) A6 g_b6 F_level_b6 F_column_b6 F_row_b6 hl.1 hl.2 hC7.2.2.1 hC7.2.2.2.1 hC8.2.2.1 hC8.2.2.2.1) 1 (by decide) (by decide) (g := (mkF m 52 #[.val (.int p0), .val (.int p1), .val (.int p2), .val (.int p3), .val (.int p4), .val (.int v5_1), .val (.int v6_2), .val (.int v7_3), .val (.int v8_4), .val (.int v9_5), .unset, .unset, .unset, .unset, .unset, .unset, .unset, .unset] [(.int v8_4), (.int v7_3), (.int v5_1), (.ref b6), (.ref b6)])) rfl (by rw [hml]; rfl) (a := b6) (argsL := [(.int v5_1), (.int v7_3), (.int v8_4)]) (rest := [(.ref b6)]) (lenOf pd__III_V rfl) rfl (by show 2 * 0 + _ ≤ _; exact Nat.le_of_eq rfl) (hb hby at_52) rfl eT6 (by decide) (by decide)
  obtain ⟨rfl, N8q, Kq8, P9, P10, P11⟩ := hQ8
  have N8 := Fr.app N0 N8q
  have K12 : Keep h0 T8.heap [] := K7.trans Kq8 (allS (Or.inr sz_b6) all0)
  refine ogoS st8 ?_
  show OWay p e below G T8 (mkF m 55 #[.val (.int p0), .val (.int p1), .val (.int p2), .val (.int p3), .val (.int p4), .val (.int v5_1), .val (.int v6_2), .val (.int v7_3), .val (.int v8_4), .val (.int v9_5), .unset, .unset, .unset, .unset, .unset, .unset, .unset, .unset] [(.ref b6)])
  refine ogo (fun _ z_ => XS.astore X8.here hx rfl (hb hby at_55) rfl rfl (l' := #[.val (.int p0), .val (.int p1), .val (.int p2), .val (.int p3), .val (.int p4), .val (.int v5_1), .val (.int v6_2), .val (.int v7_3), .val (.int v8_4), .val (.int v9_5), .val (.ref b6), .unset, .unset, .unset, .unset, .unset, .unset, .unset]) rfl z_) ?_
  show OWay p e below G T8 (mkF m 57 #[.val (.int p0), .val (.int p1), .val (.int p2), .val (.int p3), .val (.int p4), .val (.int v5_1), .val (.int v6_2), .val (.int v7_3), .val (.int v8_4), .val (.int v9_5), .val (.ref b6), .unset, .unset, .unset, .unset, .unset, .unset, .unset] [])
  refine ogo (fun _ z_ => XS.aload X8.here hx rfl (hb hby at_57) rfl rfl z_) ?_
  show OWay p e below G T8 (mkF m 59 #[.val (.int p0), .val (.int p1), .val (.int p2), .val (.int p3), .val (.int p4), .val (.int v5_1), .val (.int v6_2), .val (.int v7_3), .val (.int v8_4), .val (.int v9_5), .val (.ref b6), .unset, .unset, .unset, .unset, .unset, .unset, .unset] [(.ref b6)])
  refine ogo (fun _ z_ => XS.iload X8.here hx rfl (hb hby at_59) rfl z_) ?_
  show OWay p e below G T8 (mkF m 61 #[.val (.int p0), .val (.int p1), .val (.int p2), .val (.int p3), .val (.int p4), .val (.int v5_1), .val (.int v6_2), .val (.int v7_3), .val (.int v8_4), .val (.int v9_5), .val (.ref b6), .unset, .unset, .unset, .unset, .unset, .unset, .unset] [(.int v9_5), (.ref b6)])
  have F14 : Exa Z T8.heap b6 "com/example/wakeline/wakeline/index/Cell" := (A6.keep Kq8)
  obtain ⟨_, T13, L13, X13, hQ13, st13⟩ := wVirtual X8 hx hZ (y := (⟨"com/example/wakeline/wakeline/index/Cell", "quadrant", "(I)I"⟩ : MethodName)) (z := (⟨"com/example/wakeline/wakeline/index/Cell", "quadrant", "(I)I"⟩ : MethodName)) hown (hw _ (List.mem_of_getElem? (i := 21) rfl)) (hw _ (List.mem_of_getElem? (i := 22) rfl)) (notFace_of_selects (args := #[]) (mvT hZ (hw _ (List.mem_of_getElem? (i := 24) rfl)))) (hw _ (List.mem_of_getElem? (i := 24) rfl)) (hw _ (List.mem_of_getElem? (i := 23) rfl)) (hw _ (List.mem_of_getElem? (i := 3) rfl)) (hw _ (List.mem_of_getElem? (i := 25) rfl)) (by decide) (quad_b_c l Z az hw [] b6 v9_5 v5_1 v7_3 v8_4 T8.heap n0 (Nat.le_trans (Nat.le_trans Z0 E6.1) Kq8.1) P9 P10 P11) 0 (by decide) (by decide) F14 (g := (mkF m 61 #[.val (.int p0), .val (.int p1), .val (.int p2), .val (.int p3), .val (.int p4), .val (.int v5_1), .val (.int v6_2), .val (.int v7_3), .val (.int v8_4), .val (.int v9_5), .val (.ref b6), .unset, .unset, .unset, .unset, .unset, .unset, .unset] [(.int v9_5), (.ref b6)])) rfl (by rw [hml]; rfl) (argsL := [(.int v9_5)]) (rest := []) (lenOf pd__I_I rfl) rfl (by show 2 * 0 + _ ≤ _; exact Nat.le_of_eq rfl) (hb hby at_61) rfl rfl (by decide) (by decide)
  obtain ⟨rfl, N13q, eq13⟩ := hQ13
  have N13 := Fr.app N8 N13q
  refine ogoS st13 ?_
  show OWay p e below G T13 (mkF m 64 #[.val (.int p0), .val (.int p1), .val (.int p2), .val (.int p3), .val (.int p4), .val (.int v5_1), .val (.int v6_2), .val (.int v7_3), .val (.int v8_4), .val (.int v9_5), .val (.ref b6), .unset, .unset, .unset, .unset, .unset, .unset, .unset] [(.int (qd v5_1 v7_3 v8_4 v9_5))])
  suffices Jv11_15 : ∀ v11_15 : Int32, v11_15 = (qd v5_1 v7_3 v8_4 v9_5) → OWay p e below G T13 (mkF m 64 #[.val (.int p0), .val (.int p1), .val (.int p2), .val (.int p3), .val (.int p4), .val (.int v5_1), .val (.int v6_2), .val (.int v7_3), .val (.int v8_4), .val (.int v9_5), .val (.ref b6), .unset, .unset, .unset, .unset, .unset, .unset, .unset] [(.int v11_15)]) from Jv11_15 _ rfl
  intro v11_15 hv11_15
  refine ogo (fun _ z_ => XS.istore X13.here hx rfl (hb hby at_64) rfl (l' := #[.val (.int p0), .val (.int p1), .val (.int p2), .val (.int p3), .val (.int p4), .val (.int v5_1), .val (.int v6_2), .val (.int v7_3), .val (.int v8_4), .val (.int v9_5), .val (.ref b6), .val (.int v11_15), .unset, .unset, .unset, .unset, .unset, .unset]) rfl z_) ?_
  show OWay p e below G T13 (mkF m 66 #[.val (.int p0), .val (.int p1), .val (.int p2), .val (.int p3), .val (.int p4), .val (.int v5_1), .val (.int v6_2), .val (.int v7_3), .val (.int v8_4), .val (.int v9_5), .val (.ref b6), .val (.int v11_15), .unset, .unset, .unset, .unset, .unset, .unset] [])
  refine ogo (fun _ z_ => XS.iconst X13.here hx rfl (hb hby at_66) z_) ?_
  show OWay p e below G T13 (mkF m 67 #[.val (.int p0), .val (.int p1), .val (.int p2), .val (.int p3), .val (.int p4), .val (.int v5_1), .val (.int v6_2), .val (.int v7_3), .val (.int v8_4), .val (.int v9_5), .val (.ref b6), .val (.int v11_15), .unset, .unset, .unset, .unset, .unset, .unset] [(.int (1 : Int32))])
  refine ogo (fun _ z_ => XS.iload X13.here hx rfl (hb hby at_67) rfl z_) ?_
  show OWay p e below G T13 (mkF m 69 #[.val (.int p0), .val (.int p1), .val (.int p2), .val (.int p3), .val (.int p4), .val (.int v5_1), .val (.int v6_2), .val (.int v7_3), .val (.int v8_4), .val (.int v9_5), .val (.ref b6), .val (.int v11_15), .unset, .unset, .unset, .unset, .unset, .unset] [(.int v5_1), (.int (1 : Int32))])
  refine ogo (fun _ z_ => XS.iload X13.here hx rfl (hb hby at_69) rfl z_) ?_
  show OWay p e below G T13 (mkF m 71 #[.val (.int p0), .val (.int p1), .val (.int p2), .val (.int p3), .val (.int p4), .val (.int v5_1), .val (.int v6_2), .val (.int v7_3), .val (.int v8_4), .val (.int v9_5), .val (.ref b6), .val (.int v11_15), .unset, .unset, .unset, .unset, .unset, .unset] [(.int v9_5), (.int v5_1), (.int (1 : Int32))])
  refine ogo (fun _ z_ => XS.isub X13.here hx rfl (hb hby at_71) rfl z_) ?_
  show OWay p e below G T13 (mkF m 72 #[.val (.int p0), .val (.int p1), .val (.int p2), .val (.int p3), .val (.int p4), .val (.int v5_1), .val (.int v6_2), .val (.int v7_3), .val (.int v8_4), .val (.int v9_5), .val (.ref b6), .val (.int v11_15), .unset, .unset, .unset, .unset, .unset, .unset] [(.int (v5_1 - v9_5)), (.int (1 : Int32))])
  refine ogo (fun _ z_ => XS.ishl X13.here hx rfl (hb hby at_72) rfl z_) ?_
  show OWay p e below G T13 (mkF m 73 #[.val (.int p0), .val (.int p1), .val (.int p2), .val (.int p3), .val (.int p4), .val (.int v5_1), .val (.int v6_2), .val (.int v7_3), .val (.int v8_4), .val (.int v9_5), .val (.ref b6), .val (.int v11_15), .unset, .unset, .unset, .unset, .unset, .unset] [(.int ((1 : Int32) <<< ((v5_1 - v9_5) &&& 31)))])
  suffices Jv12_16 : ∀ v12_16 : Int32, v12_16 = ((1 : Int32) <<< ((v5_1 - v9_5) &&& 31)) → OWay p e below G T13 (mkF m 73 #[.val (.int p0), .val (.int p1), .val (.int p2), .val (.int p3), .val (.int p4), .val (.int v5_1), .val (.int v6_2), .val (.int v7_3), .val (.int v8_4), .val (.int v9_5), .val (.ref b6), .val (.int v11_15), .unset, .unset, .unset, .unset, .unset, .unset] [(.int v12_16)]) from Jv12_16 _ rfl
  intro v12_16 hv12_16
  refine ogo (fun _ z_ => XS.istore X13.here hx rfl (hb hby at_73) rfl (l' := #[.val (.int p0), .val (.int p1), .val (.int p2), .val (.int p3), .val (.int p4), .val (.int v5_1), .val (.int v6_2), .val (.int v7_3), .val (.int v8_4), .val (.int v9_5), .val (.ref b6), .val (.int v11_15), .val (.int v12_16), .unset, .unset, .unset, .unset, .unset]) rfl z_) ?_
  show OWay p e below G T13 (mkF m 75 #[.val (.int p0), .val (.int p1), .val (.int p2), .val (.int p3), .val (.int p4), .val (.int v5_1), .val (.int v6_2), .val (.int v7_3), .val (.int v8_4), .val (.int v9_5), .val (.ref b6), .val (.int v11_15), .val (.int v12_16), .unset, .unset, .unset, .unset, .unset] [])
  refine ogo (fun _ z_ => XS.iload X13.here hx rfl (hb hby at_75) rfl z_) ?_
  show OWay p e below G T13 (mkF m 77 #[.val (.int p0), .val (.int p1), .val (.int p2), .val (.int p3), .val (.int p4), .val (.int v5_1), .val (.int v6_2), .val (.int v7_3), .val (.int v8_4), .val (.int v9_5), .val (.ref b6), .val (.int v11_15), .val (.int v12_16), .unset, .unset, .unset, .unset, .unset] [(.int v7_3)])
  refine ogo (fun _ z_ => XS.iconst X13.here hx rfl (hb hby at_77) z_) ?_
  show OWay p e below G T13 (mkF m 78 #[.val (.int p0), .val (.int p1), .val (.int p2), .val (.int p3), .val (.int p4), .val (.int v5_1), .val (.int v6_2), .val (.int v7_3), .val (.int v8_4), .val (.int v9_5), .val (.ref b6), .val (.int v11_15), .val (.int v12_16), .unset, .unset, .unset, .unset, .unset] [(.int (2 : Int32)), (.int v7_3)])
  refine ogo (fun _ z_ => XS.iload X13.here hx rfl (hb hby at_78) rfl z_) ?_
  show OWay p e below G T13 (mkF m 80 #[.val (.int p0), .val (.int p1), .val (.int p2), .val (.int p3), .val (.int p4), .val (.int v5_1), .val (.int v6_2), .val (.int v7_3), .val (.int v8_4), .val (.int v9_5), .val (.ref b6), .val (.int v11_15), .val (.int v12_16), .unset, .unset, .unset, .unset, .unset] [(.int v12_16), (.int (2 : Int32)), (.int v7_3)])
  refine ogo (fun _ z_ => XS.imul X13.here hx rfl (hb hby at_80) rfl z_) ?_
  show OWay p e below G T13 (mkF m 81 #[.val (.int p0), .val (.int p1), .val (.int p2), .val (.int p3), .val (.int p4), .val (.int v5_1), .val (.int v6_2), .val (.int v7_3), .val (.int v8_4), .val (.int v9_5), .val (.ref b6), .val (.int v11_15), .val (.int v12_16), .unset, .unset, .unset, .unset, .unset] [(.int ((2 : Int32) * v12_16)), (.int v7_3)])
  refine ogo (fun _ z_ => iremM X13 hx rfl (hb hby at_81) rfl (own_nz2 _ _ _ hL hS hv12_16) z_) ?_
  show OWay p e below G T13 (mkF m 82 #[.val (.int p0), .val (.int p1), .val (.int p2), .val (.int p3), .val (.int p4), .val (.int v5_1), .val (.int v6_2), .val (.int v7_3), .val (.int v8_4), .val (.int v9_5), .val (.ref b6), .val (.int v11_15), .val (.int v12_16), .unset, .unset, .unset, .unset, .unset] [(.int (v7_3 % ((2 : Int32) * v12_16)))])
  refine ogo (fun _ z_ => XS.iload X13.here hx rfl (hb hby at_82) rfl z_) ?_
  show OWay p e below G T13 (mkF m 84 #[.val (.int p0), .val (.int p1), .val (.int p2), .val (.int p3), .val (.int p4), .val (.int v5_1), .val (.int v6_2), .val (.int v7_3), .val (.int v8_4), .val (.int v9_5), .val (.ref b6), .val (.int v11_15), .val (.int v12_16), .unset, .unset, .unset, .unset, .unset] [(.int v12_16), (.int (v7_3 % ((2 : Int32) * v12_16)))])
  have J18 : ∀ (us0_17 : Int32), us0_17 = (if (v7_3 % ((2 : Int32) * v12_16)) < v12_16 then (0 : Int32) else (1 : Int32)) → OWay p e below G T13 (mkF m 92 #[.val (.int p0), .val (.int p1), .val (.int p2), .val (.int p3), .val (.int p4), .val (.int v5_1), .val (.int v6_2), .val (.int v7_3), .val (.int v8_4), .val (.int v9_5), .val (.ref b6), .val (.int v11_15), .val (.int v12_16), .unset, .unset, .unset, .unset, .unset] [(.int us0_17)]) := by
    intro us0_17 hus0_17
    refine ogo (fun _ z_ => XS.istore X13.here hx rfl (hb hby at_92) rfl (l' := #[.val (.int p0), .val (.int p1), .val (.int p2), .val (.int p3), .val (.int p4), .val (.int v5_1), .val (.int v6_2), .val (.int v7_3), .val (.int v8_4), .val (.int v9_5), .val (.ref b6), .val (.int v11_15), .val (.int v12_16), .val (.int us0_17), .unset, .unset, .unset, .unset]) rfl z_) ?_
    show OWay p e below G T13 (mkF m 94 #[.val (.int p0), .val (.int p1), .val (.int p2), .val (.int p3), .val (.int p4), .val (.int v5_1), .val (.int v6_2), .val (.int v7_3), .val (.int v8_4), .val (.int v9_5), .val (.ref b6), .val (.int v11_15), .val (.int v12_16), .val (.int us0_17), .unset, .unset, .unset, .unset] [])
    refine ogo (fun _ z_ => XS.iload X13.here hx rfl (hb hby at_94) rfl z_) ?_
    show OWay p e below G T13 (mkF m 96 #[.val (.int p0), .val (.int p1), .val (.int p2), .val (.int p3), .val (.int p4), .val (.int v5_1), .val (.int v6_2), .val (.int v7_3), .val (.int v8_4), .val (.int v9_5), .val (.ref b6), .val (.int v11_15), .val (.int v12_16), .val (.int us0_17), .unset, .unset, .unset, .unset] [(.int v8_4)])
    refine ogo (fun _ z_ => XS.iconst X13.here hx rfl (hb hby at_96) z_) ?_
    show OWay p e below G T13 (mkF m 97 #[.val (.int p0), .val (.int p1), .val (.int p2), .val (.int p3), .val (.int p4), .val (.int v5_1), .val (.int v6_2), .val (.int v7_3), .val (.int v8_4), .val (.int v9_5), .val (.ref b6), .val (.int v11_15), .val (.int v12_16), .val (.int us0_17), .unset, .unset, .unset, .unset] [(.int (2 : Int32)), (.int v8_4)])
    refine ogo (fun _ z_ => XS.iload X13.here hx rfl (hb hby at_97) rfl z_) ?_
    show OWay p e below G T13 (mkF m 99 #[.val (.int p0), .val (.int p1), .val (.int p2), .val (.int p3), .val (.int p4), .val (.int v5_1), .val (.int v6_2), .val (.int v7_3), .val (.int v8_4), .val (.int v9_5), .val (.ref b6), .val (.int v11_15), .val (.int v12_16), .val (.int us0_17), .unset, .unset, .unset, .unset] [(.int v12_16), (.int (2 : Int32)), (.int v8_4)])
    refine ogo (fun _ z_ => XS.imul X13.here hx rfl (hb hby at_99) rfl z_) ?_
    show OWay p e below G T13 (mkF m 100 #[.val (.int p0), .val (.int p1), .val (.int p2), .val (.int p3), .val (.int p4), .val (.int v5_1), .val (.int v6_2), .val (.int v7_3), .val (.int v8_4), .val (.int v9_5), .val (.ref b6), .val (.int v11_15), .val (.int v12_16), .val (.int us0_17), .unset, .unset, .unset, .unset] [(.int ((2 : Int32) * v12_16)), (.int v8_4)])
    refine ogo (fun _ z_ => iremM X13 hx rfl (hb hby at_100) rfl (own_nz2 _ _ _ hL hS hv12_16) z_) ?_
    show OWay p e below G T13 (mkF m 101 #[.val (.int p0), .val (.int p1), .val (.int p2), .val (.int p3), .val (.int p4), .val (.int v5_1), .val (.int v6_2), .val (.int v7_3), .val (.int v8_4), .val (.int v9_5), .val (.ref b6), .val (.int v11_15), .val (.int v12_16), .val (.int us0_17), .unset, .unset, .unset, .unset] [(.int (v8_4 % ((2 : Int32) * v12_16)))])
    refine ogo (fun _ z_ => XS.iload X13.here hx rfl (hb hby at_101) rfl z_) ?_
    show OWay p e below G T13 (mkF m 103 #[.val (.int p0), .val (.int p1), .val (.int p2), .val (.int p3), .val (.int p4), .val (.int v5_1), .val (.int v6_2), .val (.int v7_3), .val (.int v8_4), .val (.int v9_5), .val (.ref b6), .val (.int v11_15), .val (.int v12_16), .val (.int us0_17), .unset, .unset, .unset, .unset] [(.int v12_16), (.int (v8_4 % ((2 : Int32) * v12_16)))])
    have J20 : ∀ (us0_19 : Int32), us0_19 = (if (v8_4 % ((2 : Int32) * v12_16)) < v12_16 then (0 : Int32) else (2 : Int32)) → OWay p e below G T13 (mkF m 111 #[.val (.int p0), .val (.int p1), .val (.int p2), .val (.int p3), .val (.int p4), .val (.int v5_1), .val (.int v6_2), .val (.int v7_3), .val (.int v8_4), .val (.int v9_5), .val (.ref b6), .val (.int v11_15), .val (.int v12_16), .val (.int us0_17), .unset, .unset, .unset, .unset] [(.int us0_19)]) := by
      intro us0_19 hus0_19
      refine ogo (fun _ z_ => XS.istore X13.here hx rfl (hb hby at_111) rfl (l' := #[.val (.int p0), .val (.int p1), .val (.int p2), .val (.int p3), .val (.int p4), .val (.int v5_1), .val (.int v6_2), .val (.int v7_3), .val (.int v8_4), .val (.int v9_5), .val (.ref b6), .val (.int v11_15), .val (.int v12_16), .val (.int us0_17), .val (.int us0_19), .unset, .unset, .unset]) rfl z_) ?_
      show OWay p e below G T13 (mkF m 113 #[.val (.int p0), .val (.int p1), .val (.int p2), .val (.int p3), .val (.int p4), .val (.int v5_1), .val (.int v6_2), .val (.int v7_3), .val (.int v8_4), .val (.int v9_5), .val (.ref b6), .val (.int v11_15), .val (.int v12_16), .val (.int us0_17), .val (.int us0_19), .unset, .unset, .unset] [])
      refine ogo (fun _ z_ => XS.iload X13.here hx rfl (hb hby at_113) rfl z_) ?_
      show OWay p e below G T13 (mkF m 115 #[.val (.int p0), .val (.int p1), .val (.int p2), .val (.int p3), .val (.int p4), .val (.int v5_1), .val (.int v6_2), .val (.int v7_3), .val (.int v8_4), .val (.int v9_5), .val (.ref b6), .val (.int v11_15), .val (.int v12_16), .val (.int us0_17), .val (.int us0_19), .unset, .unset, .unset] [(.int v11_15)])
      refine ogo (fun _ z_ => XS.iload X13.here hx rfl (hb hby at_115) rfl z_) ?_
      show OWay p e below G T13 (mkF m 117 #[.val (.int p0), .val (.int p1), .val (.int p2), .val (.int p3), .val (.int p4), .val (.int v5_1), .val (.int v6_2), .val (.int v7_3), .val (.int v8_4), .val (.int v9_5), .val (.ref b6), .val (.int v11_15), .val (.int v12_16), .val (.int us0_17), .val (.int us0_19), .unset, .unset, .unset] [(.int us0_17), (.int v11_15)])
      refine ogo (fun _ z_ => XS.iload X13.here hx rfl (hb hby at_117) rfl z_) ?_
      show OWay p e below G T13 (mkF m 119 #[.val (.int p0), .val (.int p1), .val (.int p2), .val (.int p3), .val (.int p4), .val (.int v5_1), .val (.int v6_2), .val (.int v7_3), .val (.int v8_4), .val (.int v9_5), .val (.ref b6), .val (.int v11_15), .val (.int v12_16), .val (.int us0_17), .val (.int us0_19), .unset, .unset, .unset] [(.int us0_19), (.int us0_17), (.int v11_15)])
      refine ogo (fun _ z_ => XS.iadd X13.here hx rfl (hb hby at_119) rfl z_) ?_
      show OWay p e below G T13 (mkF m 120 #[.val (.int p0), .val (.int p1), .val (.int p2), .val (.int p3), .val (.int p4), .val (.int v5_1), .val (.int v6_2), .val (.int v7_3), .val (.int v8_4), .val (.int v9_5), .val (.ref b6), .val (.int v11_15), .val (.int v12_16), .val (.int us0_17), .val (.int us0_19), .unset, .unset, .unset] [(.int (us0_17 + us0_19)), (.int v11_15)])
      refine ogo (fun _ z_ => XS.icmpNo X13.here hx rfl (hb hby at_120) rfl (teq (by rw [hv11_15]; exact own_main _ _ _ _ _ _ _ hL hS hv12_16 hC7.1 hC8.1 hus0_17 hus0_19)).2 z_) ?_
      show OWay p e below G T13 (mkF m 123 #[.val (.int p0), .val (.int p1), .val (.int p2), .val (.int p3), .val (.int p4), .val (.int v5_1), .val (.int v6_2), .val (.int v7_3), .val (.int v8_4), .val (.int v9_5), .val (.ref b6), .val (.int v11_15), .val (.int v12_16), .val (.int us0_17), .val (.int us0_19), .unset, .unset, .unset] [])
      refine ogo (fun _ z_ => XS.iconst X13.here hx rfl (hb hby at_123) z_) ?_
      show OWay p e below G T13 (mkF m 124 #[.val (.int p0), .val (.int p1), .val (.int p2), .val (.int p3), .val (.int p4), .val (.int v5_1), .val (.int v6_2), .val (.int v7_3), .val (.int v8_4), .val (.int v9_5), .val (.ref b6), .val (.int v11_15), .val (.int v12_16), .val (.int us0_17), .val (.int us0_19), .unset, .unset, .unset] [(.int (1 : Int32))])
      refine ogo (fun _ z_ => XS.goto X13.here hx rfl (pc0 := 124) (pc' := 128) rfl (hb hby at_124) (by decide) (by decide) z_) ?_
      show OWay p e below G T13 (mkF m 128 #[.val (.int p0), .val (.int p1), .val (.int p2), .val (.int p3), .val (.int p4), .val (.int v5_1), .val (.int v6_2), .val (.int v7_3), .val (.int v8_4), .val (.int v9_5), .val (.ref b6), .val (.int v11_15), .val (.int v12_16), .val (.int us0_17), .val (.int us0_19), .unset, .unset, .unset] [(.int (1 : Int32))])
      refine ogo (fun _ z_ => XS.istore X13.here hx rfl (hb hby at_128) rfl (l' := #[.val (.int p0), .val (.int p1), .val (.int p2), .val (.int p3), .val (.int p4), .val (.int v5_1), .val (.int v6_2), .val (.int v7_3), .val (.int v8_4), .val (.int v9_5), .val (.ref b6), .val (.int v11_15), .val (.int v12_16), .val (.int us0_17), .val (.int us0_19), .val (.int (1 : Int32)), .unset, .unset]) rfl z_) ?_
      show OWay p e below G T13 (mkF m 130 #[.val (.int p0), .val (.int p1), .val (.int p2), .val (.int p3), .val (.int p4), .val (.int v5_1), .val (.int v6_2), .val (.int v7_3), .val (.int v8_4), .val (.int v9_5), .val (.ref b6), .val (.int v11_15), .val (.int v12_16), .val (.int us0_17), .val (.int us0_19), .val (.int (1 : Int32)), .unset, .unset] [])
      refine ogo (fun _ z_ => XS.iload X13.here hx rfl (hb hby at_130) rfl z_) ?_
      show OWay p e below G T13 (mkF m 132 #[.val (.int p0), .val (.int p1), .val (.int p2), .val (.int p3), .val (.int p4), .val (.int v5_1), .val (.int v6_2), .val (.int v7_3), .val (.int v8_4), .val (.int v9_5), .val (.ref b6), .val (.int v11_15), .val (.int v12_16), .val (.int us0_17), .val (.int us0_19), .val (.int (1 : Int32)), .unset, .unset] [(.int v5_1)])
      refine ogo (fun _ z_ => XS.bipush X13.here hx rfl (hb hby at_132) z_) ?_
      show OWay p e below G T13 (mkF m 134 #[.val (.int p0), .val (.int p1), .val (.int p2), .val (.int p3), .val (.int p4), .val (.int v5_1), .val (.int v6_2), .val (.int v7_3), .val (.int v8_4), .val (.int v9_5), .val (.ref b6), .val (.int v11_15), .val (.int v12_16), .val (.int us0_17), .val (.int us0_19), .val (.int (1 : Int32)), .unset, .unset] [(.int (17 : Int32)), (.int v5_1)])
      by_cases c134 : v5_1 < (17 : Int32)
      · refine ogo (fun _ z_ => XS.icmpNo X13.here hx rfl (hb hby at_134) rfl (tlt c134).2.1 z_) ?_
        show OWay p e below G T13 (mkF m 137 #[.val (.int p0), .val (.int p1), .val (.int p2), .val (.int p3), .val (.int p4), .val (.int v5_1), .val (.int v6_2), .val (.int v7_3), .val (.int v8_4), .val (.int v9_5), .val (.ref b6), .val (.int v11_15), .val (.int v12_16), .val (.int us0_17), .val (.int us0_19), .val (.int (1 : Int32)), .unset, .unset] [])
        refine ogo (fun _ z_ => XS.iload X13.here hx rfl (hb hby at_137) rfl z_) ?_
        show OWay p e below G T13 (mkF m 139 #[.val (.int p0), .val (.int p1), .val (.int p2), .val (.int p3), .val (.int p4), .val (.int v5_1), .val (.int v6_2), .val (.int v7_3), .val (.int v8_4), .val (.int v9_5), .val (.ref b6), .val (.int v11_15), .val (.int v12_16), .val (.int us0_17), .val (.int us0_19), .val (.int (1 : Int32)), .unset, .unset] [(.int p4)])
        refine ogo (fun _ z_ => XS.iconst X13.here hx rfl (hb hby at_139) z_) ?_
        show OWay p e below G T13 (mkF m 140 #[.val (.int p0), .val (.int p1), .val (.int p2), .val (.int p3), .val (.int p4), .val (.int v5_1), .val (.int v6_2), .val (.int v7_3), .val (.int v8_4), .val (.int v9_5), .val (.ref b6), .val (.int v11_15), .val (.int v12_16), .val (.int us0_17), .val (.int us0_19), .val (.int (1 : Int32)), .unset, .unset] [(.int (3 : Int32)), (.int p4)])
        refine ogo (fun _ z_ => XS.iand X13.here hx rfl (hb hby at_140) rfl z_) ?_
        show OWay p e below G T13 (mkF m 141 #[.val (.int p0), .val (.int p1), .val (.int p2), .val (.int p3), .val (.int p4), .val (.int v5_1), .val (.int v6_2), .val (.int v7_3), .val (.int v8_4), .val (.int v9_5), .val (.ref b6), .val (.int v11_15), .val (.int v12_16), .val (.int us0_17), .val (.int us0_19), .val (.int (1 : Int32)), .unset, .unset] [(.int (p4 &&& (3 : Int32)))])
        suffices Jv16_21 : ∀ v16_21 : Int32, v16_21 = (p4 &&& (3 : Int32)) → OWay p e below G T13 (mkF m 141 #[.val (.int p0), .val (.int p1), .val (.int p2), .val (.int p3), .val (.int p4), .val (.int v5_1), .val (.int v6_2), .val (.int v7_3), .val (.int v8_4), .val (.int v9_5), .val (.ref b6), .val (.int v11_15), .val (.int v12_16), .val (.int us0_17), .val (.int us0_19), .val (.int (1 : Int32)), .unset, .unset] [(.int v16_21)]) from Jv16_21 _ rfl
        intro v16_21 hv16_21
        refine ogo (fun _ z_ => XS.istore X13.here hx rfl (hb hby at_141) rfl (l' := #[.val (.int p0), .val (.int p1), .val (.int p2), .val (.int p3), .val (.int p4), .val (.int v5_1), .val (.int v6_2), .val (.int v7_3), .val (.int v8_4), .val (.int v9_5), .val (.ref b6), .val (.int v11_15), .val (.int v12_16), .val (.int us0_17), .val (.int us0_19), .val (.int (1 : Int32)), .val (.int v16_21), .unset]) rfl z_) ?_
        show OWay p e below G T13 (mkF m 143 #[.val (.int p0), .val (.int p1), .val (.int p2), .val (.int p3), .val (.int p4), .val (.int v5_1), .val (.int v6_2), .val (.int v7_3), .val (.int v8_4), .val (.int v9_5), .val (.ref b6), .val (.int v11_15), .val (.int v12_16), .val (.int us0_17), .val (.int us0_19), .val (.int (1 : Int32)), .val (.int v16_21), .unset] [])
        have hB := own_b16 p4 v16_21 hv16_21
        have hl2 := own_c2 v5_1 hL c134
        have hD7 := own_c3 v5_1 v7_3 _ hL c134 ⟨hC7.1, hC7.2.2.2.2⟩ hB.1
        have hD8 := own_c3 v5_1 v8_4 _ hL c134 ⟨hC8.1, hC8.2.2.2.2⟩ hB.2.1
        refine ogo (fun _ z_ => XS.aload X13.here hx rfl (hb hby at_143) rfl rfl z_) ?_
        show OWay p e below G T13 (mkF m 145 #[.val (.int p0), .val (.int p1), .val (.int p2), .val (.int p3), .val (.int p4), .val (.int v5_1), .val (.int v6_2), .val (.int v7_3), .val (.int v8_4), .val (.int v9_5), .val (.ref b6), .val (.int v11_15), .val (.int v12_16), .val (.int us0_17), .val (.int us0_19), .val (.int (1 : Int32)), .val (.int v16_21), .unset] [(.ref b6)])
        refine ogo (fun _ z_ => XS.iload X13.here hx rfl (hb hby at_145) rfl z_) ?_
        show OWay p e below G T13 (mkF m 147 #[.val (.int p0), .val (.int p1), .val (.int p2), .val (.int p3), .val (.int p4), .val (.int v5_1), .val (.int v6_2), .val (.int v7_3), .val (.int v8_4), .val (.int v9_5), .val (.ref b6), .val (.int v11_15), .val (.int v12_16), .val (.int us0_17), .val (.int us0_19), .val (.int (1 : Int32)), .val (.int v16_21), .unset] [(.int v16_21), (.ref b6)])
        obtain ⟨_, T22, L22, X22, hQ22, st22⟩ := wVirtual X13 hx hZ (y := (⟨"com/example/wakeline/wakeline/index/Cell", "child", "(I)Lcom/example/wakeline/wakeline/index/Cell;"⟩ : MethodName)) (z := (⟨"com/example/wakeline/wakeline/index/Cell", "child", "(I)Lcom/example/wakeline/wakeline/index/Cell;"⟩ : MethodName)) hown (hw _ (List.mem_of_getElem? (i := 26) rfl)) (hw _ (List.mem_of_getElem? (i := 27) rfl)) (notFace_of_selects (args := #[]) (mvT hZ (hw _ (List.mem_of_getElem? (i := 29) rfl)))) (hw _ (List.mem_of_getElem? (i := 29) rfl)) (hw _ (List.mem_of_getElem? (i := 28) rfl)) (hw _ (List.mem_of_getElem? (i := 3) rfl)) (hw _ (List.mem_of_getElem? (i := 30) rfl)) (by decide) (child_b_c l Z az hw [] b6 v16_21 v5_1 v7_3 v8_4 T8.heap n0 (Nat.le_trans (Nat.le_trans Z0 E6.1) Kq8.1) P9 P10 P11 hl2.1 hl2.2 hD7.1 hD7.2 hD8.1 hD8.2) 0 (by decide) (by decide) F14 (g := (mkF m 147 #[.val (.int p0), .val (.int p1), .val (.int p2), .val (.int p3), .val (.int p4), .val (.int v5_1), .val (.int v6_2), .val (.int v7_3), .val (.int v8_4), .val (.int v9_5), .val (.ref b6), .val (.int v11_15), .val (.int v12_16), .val (.int us0_17), .val (.int us0_19), .val (.int (1 : Int32)), .val (.int v16_21), .unset] [(.int v16_21), (.ref b6)])) rfl (by rw [hml]; rfl) (argsL := [(.int v16_21)]) (rest := []) (lenOf pd__I_Lcom_example_wakeline_wakeline_index_Cell_ rfl) rfl (by show 2 * 0 + _ ≤ _; exact Nat.le_of_eq rfl) (hb hby at_147) rfl eq13 (by decide) (by decide)
        obtain ⟨b_23, rfl, N22q, Kq22, P24, P25, P26, P27, P28, P29⟩ := hQ22
        have N22 := Fr.app N13 N22q
        have K30 : Keep h0 T22.heap [] := K12.trans Kq22 all0
        have g_b_23 := P24
        have sz_b_23 : h0.size ≤ b_23 := Nat.le_trans K12.1 P25
        refine ogoS st22 ?_
        show OWay p e below G T22 (mkF m 150 #[.val (.int p0), .val (.int p1), .val (.int p2), .val (.int p3), .val (.int p4), .val (.int v5_1), .val (.int v6_2), .val (.int v7_3), .val (.int v8_4), .val (.int v9_5), .val (.ref b6), .val (.int v11_15), .val (.int v12_16), .val (.int us0_17), .val (.int us0_19), .val (.int (1 : Int32)), .val (.int v16_21), .unset] [(.ref b_23)])
        refine ogo (fun _ z_ => XS.astore X22.here hx rfl (hb hby at_150) rfl rfl (l' := #[.val (.int p0), .val (.int p1), .val (.int p2), .val (.int p3), .val (.int p4), .val (.int v5_1), .val (.int v6_2), .val (.int v7_3), .val (.int v8_4), .val (.int v9_5), .val (.ref b6), .val (.int v11_15), .val (.int v12_16), .val (.int us0_17), .val (.int us0_19), .val (.int (1 : Int32)), .val (.int v16_21), .val (.ref b_23)]) rfl z_) ?_
        show OWay p e below G T22 (mkF m 152 #[.val (.int p0), .val (.int p1), .val (.int p2), .val (.int p3), .val (.int p4), .val (.int v5_1), .val (.int v6_2), .val (.int v7_3), .val (.int v8_4), .val (.int v9_5), .val (.ref b6), .val (.int v11_15), .val (.int v12_16), .val (.int us0_17), .val (.int us0_19), .val (.int (1 : Int32)), .val (.int v16_21), .val (.ref b_23)] [])
        refine ogo (fun _ z_ => XS.iload X22.here hx rfl (hb hby at_152) rfl z_) ?_
        show OWay p e below G T22 (mkF m 154 #[.val (.int p0), .val (.int p1), .val (.int p2), .val (.int p3), .val (.int p4), .val (.int v5_1), .val (.int v6_2), .val (.int v7_3), .val (.int v8_4), .val (.int v9_5), .val (.ref b6), .val (.int v11_15), .val (.int v12_16), .val (.int us0_17), .val (.int us0_19), .val (.int (1 : Int32)), .val (.int v16_21), .val (.ref b_23)] [(.int (1 : Int32))])
        refine ogo (fun _ z_ => XS.ifNo X22.here hx rfl (hb hby at_154) rfl ((if0 _ _).trans (feq (by decide)).1) z_) ?_
        show OWay p e below G T22 (mkF m 157 #[.val (.int p0), .val (.int p1), .val (.int p2), .val (.int p3), .val (.int p4), .val (.int v5_1), .val (.int v6_2), .val (.int v7_3), .val (.int v8_4), .val (.int v9_5), .val (.ref b6), .val (.int v11_15), .val (.int v12_16), .val (.int us0_17), .val (.int us0_19), .val (.int (1 : Int32)), .val (.int v16_21), .val (.ref b_23)] [])
        refine ogo (fun _ z_ => XS.aload X22.here hx rfl (hb hby at_157) rfl rfl z_) ?_
        show OWay p e below G T22 (mkF m 159 #[.val (.int p0), .val (.int p1), .val (.int p2), .val (.int p3), .val (.int p4), .val (.int v5_1), .val (.int v6_2), .val (.int v7_3), .val (.int v8_4), .val (.int v9_5), .val (.ref b6), .val (.int v11_15), .val (.int v12_16), .val (.int us0_17), .val (.int us0_19), .val (.int (1 : Int32)), .val (.int v16_21), .val (.ref b_23)] [(.ref b_23)])
        refine ogo (fun _ z_ => XS.iload X22.here hx rfl (hb hby at_159) rfl z_) ?_
        show OWay p e below G T22 (mkF m 161 #[.val (.int p0), .val (.int p1), .val (.int p2), .val (.int p3), .val (.int p4), .val (.int v5_1), .val (.int v6_2), .val (.int v7_3), .val (.int v8_4), .val (.int v9_5), .val (.ref b6), .val (.int v11_15), .val (.int v12_16), .val (.int us0_17), .val (.int us0_19), .val (.int (1 : Int32)), .val (.int v16_21), .val (.ref b_23)] [(.int v5_1), (.ref b_23)])
        refine ogo (fun _ z_ => XS.iconst X22.here hx rfl (hb hby at_161) z_) ?_
        show OWay p e below G T22 (mkF m 162 #[.val (.int p0), .val (.int p1), .val (.int p2), .val (.int p3), .val (.int p4), .val (.int v5_1), .val (.int v6_2), .val (.int v7_3), .val (.int v8_4), .val (.int v9_5), .val (.ref b6), .val (.int v11_15), .val (.int v12_16), .val (.int us0_17), .val (.int us0_19), .val (.int (1 : Int32)), .val (.int v16_21), .val (.ref b_23)] [(.int (1 : Int32)), (.int v5_1), (.ref b_23)])
        refine ogo (fun _ z_ => XS.iadd X22.here hx rfl (hb hby at_162) rfl z_) ?_
        show OWay p e below G T22 (mkF m 163 #[.val (.int p0), .val (.int p1), .val (.int p2), .val (.int p3), .val (.int p4), .val (.int v5_1), .val (.int v6_2), .val (.int v7_3), .val (.int v8_4), .val (.int v9_5), .val (.ref b6), .val (.int v11_15), .val (.int v12_16), .val (.int us0_17), .val (.int us0_19), .val (.int (1 : Int32)), .val (.int v16_21), .val (.ref b_23)] [(.int (v5_1 + (1 : Int32))), (.ref b_23)])
        obtain ⟨_, T31, L31, X31, hQ31, st31⟩ := wVirtual X22 hx hZ (y := (⟨"com/example/wakeline/wakeline/index/Cell", "quadrant", "(I)I"⟩ : MethodName)) (z := (⟨"com/example/wakeline/wakeline/index/Cell", "quadrant", "(I)I"⟩ : MethodName)) hown (hw _ (List.mem_of_getElem? (i := 21) rfl)) (hw _ (List.mem_of_getElem? (i := 22) rfl)) (notFace_of_selects (args := #[]) (mvT hZ (hw _ (List.mem_of_getElem? (i := 24) rfl)))) (hw _ (List.mem_of_getElem? (i := 24) rfl)) (hw _ (List.mem_of_getElem? (i := 23) rfl)) (hw _ (List.mem_of_getElem? (i := 3) rfl)) (hw _ (List.mem_of_getElem? (i := 25) rfl)) (by decide) (quad_b_c l Z az hw [] b_23 (v5_1 + (1 : Int32)) (v5_1 + (1 : Int32)) (((2 : Int32) * v7_3) + (v16_21 &&& (1 : Int32))) (((2 : Int32) * v8_4) + (v16_21 >>> ((1 : Int32) &&& 31))) T22.heap n0 (Nat.le_trans (Nat.le_trans (Nat.le_trans Z0 E6.1) Kq8.1) Kq22.1) P27 P28 P29) 0 (by decide) (by decide) P26 (g := (mkF m 163 #[.val (.int p0), .val (.int p1), .val (.int p2), .val (.int p3), .val (.int p4), .val (.int v5_1), .val (.int v6_2), .val (.int v7_3), .val (.int v8_4), .val (.int v9_5), .val (.ref b6), .val (.int v11_15), .val (.int v12_16), .val (.int us0_17), .val (.int us0_19), .val (.int (1 : Int32)), .val (.int v16_21), .val (.ref b_23)] [(.int (v5_1 + (1 : Int32))), (.ref b_23)])) rfl (by rw [hml]; rfl) (argsL := [(.int (v5_1 + (1 : Int32)))]) (rest := []) (lenOf pd__I_I rfl) rfl (by show 2 * 0 + _ ≤ _; exact Nat.le_of_eq rfl) (hb hby at_163) rfl rfl (by decide) (by decide)
        obtain ⟨rfl, N31q, eq31⟩ := hQ31
        have N31 := Fr.app N22 N31q
        refine ogoS st31 ?_
        show OWay p e below G T31 (mkF m 166 #[.val (.int p0), .val (.int p1), .val (.int p2), .val (.int p3), .val (.int p4), .val (.int v5_1), .val (.int v6_2), .val (.int v7_3), .val (.int v8_4), .val (.int v9_5), .val (.ref b6), .val (.int v11_15), .val (.int v12_16), .val (.int us0_17), .val (.int us0_19), .val (.int (1 : Int32)), .val (.int v16_21), .val (.ref b_23)] [(.int (qd (v5_1 + (1 : Int32)) (((2 : Int32) * v7_3) + (v16_21 &&& (1 : Int32))) (((2 : Int32) * v8_4) + (v16_21 >>> ((1 : Int32) &&& 31))) (v5_1 + (1 : Int32))))])
        refine ogo (fun _ z_ => XS.iload X31.here hx rfl (hb hby at_166) rfl z_) ?_
        show OWay p e below G T31 (mkF m 168 #[.val (.int p0), .val (.int p1), .val (.int p2), .val (.int p3), .val (.int p4), .val (.int v5_1), .val (.int v6_2), .val (.int v7_3), .val (.int v8_4), .val (.int v9_5), .val (.ref b6), .val (.int v11_15), .val (.int v12_16), .val (.int us0_17), .val (.int us0_19), .val (.int (1 : Int32)), .val (.int v16_21), .val (.ref b_23)] [(.int v16_21), (.int (qd (v5_1 + (1 : Int32)) (((2 : Int32) * v7_3) + (v16_21 &&& (1 : Int32))) (((2 : Int32) * v8_4) + (v16_21 >>> ((1 : Int32) &&& 31))) (v5_1 + (1 : Int32))))])
        refine ogo (fun _ z_ => XS.icmpNo X31.here hx rfl (hb hby at_168) rfl (teq ((own_child1 _ _ _ _ _ ⟨hC7.1, hC7.2.1⟩ ⟨hC8.1, hC8.2.1⟩ hB.1 hB.2.1).trans hB.2.2)).2 z_) ?_
        show OWay p e below G T31 (mkF m 171 #[.val (.int p0), .val (.int p1), .val (.int p2), .val (.int p3), .val (.int p4), .val (.int v5_1), .val (.int v6_2), .val (.int v7_3), .val (.int v8_4), .val (.int v9_5), .val (.ref b6), .val (.int v11_15), .val (.int v12_16), .val (.int us0_17), .val (.int us0_19), .val (.int (1 : Int32)), .val (.int v16_21), .val (.ref b_23)] [])
        refine ogo (fun _ z_ => XS.aload X31.here hx rfl (hb hby at_171) rfl rfl z_) ?_
        show OWay p e below G T31 (mkF m 173 #[.val (.int p0), .val (.int p1), .val (.int p2), .val (.int p3), .val (.int p4), .val (.int v5_1), .val (.int v6_2), .val (.int v7_3), .val (.int v8_4), .val (.int v9_5), .val (.ref b6), .val (.int v11_15), .val (.int v12_16), .val (.int us0_17), .val (.int us0_19), .val (.int (1 : Int32)), .val (.int v16_21), .val (.ref b_23)] [(.ref b_23)])
        refine ogo (fun _ z_ => XS.iload X31.here hx rfl (hb hby at_173) rfl z_) ?_
        show OWay p e below G T31 (mkF m 175 #[.val (.int p0), .val (.int p1), .val (.int p2), .val (.int p3), .val (.int p4), .val (.int v5_1), .val (.int v6_2), .val (.int v7_3), .val (.int v8_4), .val (.int v9_5), .val (.ref b6), .val (.int v11_15), .val (.int v12_16), .val (.int us0_17), .val (.int us0_19), .val (.int (1 : Int32)), .val (.int v16_21), .val (.ref b_23)] [(.int v9_5), (.ref b_23)])
        obtain ⟨_, T32, L32, X32, hQ32, st32⟩ := wVirtual X31 hx hZ (y := (⟨"com/example/wakeline/wakeline/index/Cell", "quadrant", "(I)I"⟩ : MethodName)) (z := (⟨"com/example/wakeline/wakeline/index/Cell", "quadrant", "(I)I"⟩ : MethodName)) hown (hw _ (List.mem_of_getElem? (i := 21) rfl)) (hw _ (List.mem_of_getElem? (i := 22) rfl)) (notFace_of_selects (args := #[]) (mvT hZ (hw _ (List.mem_of_getElem? (i := 24) rfl)))) (hw _ (List.mem_of_getElem? (i := 24) rfl)) (hw _ (List.mem_of_getElem? (i := 23) rfl)) (hw _ (List.mem_of_getElem? (i := 3) rfl)) (hw _ (List.mem_of_getElem? (i := 25) rfl)) (by decide) (quad_b_c l Z az hw [] b_23 v9_5 (v5_1 + (1 : Int32)) (((2 : Int32) * v7_3) + (v16_21 &&& (1 : Int32))) (((2 : Int32) * v8_4) + (v16_21 >>> ((1 : Int32) &&& 31))) T22.heap n0 (Nat.le_trans (Nat.le_trans (Nat.le_trans Z0 E6.1) Kq8.1) Kq22.1) P27 P28 P29) 0 (by decide) (by decide) P26 (g := (mkF m 175 #[.val (.int p0), .val (.int p1), .val (.int p2), .val (.int p3), .val (.int p4), .val (.int v5_1), .val (.int v6_2), .val (.int v7_3), .val (.int v8_4), .val (.int v9_5), .val (.ref b6), .val (.int v11_15), .val (.int v12_16), .val (.int us0_17), .val (.int us0_19), .val (.int (1 : Int32)), .val (.int v16_21), .val (.ref b_23)] [(.int v9_5), (.ref b_23)])) rfl (by rw [hml]; rfl) (argsL := [(.int v9_5)]) (rest := []) (lenOf pd__I_I rfl) rfl (by show 2 * 0 + _ ≤ _; exact Nat.le_of_eq rfl) (hb hby at_175) rfl eq31 (by decide) (by decide)
        obtain ⟨rfl, N32q, eq32⟩ := hQ32
        have N32 := Fr.app N31 N32q
        refine ogoS st32 ?_
        show OWay p e below G T32 (mkF m 178 #[.val (.int p0), .val (.int p1), .val (.int p2), .val (.int p3), .val (.int p4), .val (.int v5_1), .val (.int v6_2), .val (.int v7_3), .val (.int v8_4), .val (.int v9_5), .val (.ref b6), .val (.int v11_15), .val (.int v12_16), .val (.int us0_17), .val (.int us0_19), .val (.int (1 : Int32)), .val (.int v16_21), .val (.ref b_23)] [(.int (qd (v5_1 + (1 : Int32)) (((2 : Int32) * v7_3) + (v16_21 &&& (1 : Int32))) (((2 : Int32) * v8_4) + (v16_21 >>> ((1 : Int32) &&& 31))) v9_5))])
        refine ogo (fun _ z_ => XS.iload X32.here hx rfl (hb hby at_178) rfl z_) ?_
        show OWay p e below G T32 (mkF m 180 #[.val (.int p0), .val (.int p1), .val (.int p2), .val (.int p3), .val (.int p4), .val (.int v5_1), .val (.int v6_2), .val (.int v7_3), .val (.int v8_4), .val (.int v9_5), .val (.ref b6), .val (.int v11_15), .val (.int v12_16), .val (.int us0_17), .val (.int us0_19), .val (.int (1 : Int32)), .val (.int v16_21), .val (.ref b_23)] [(.int v11_15), (.int (qd (v5_1 + (1 : Int32)) (((2 : Int32) * v7_3) + (v16_21 &&& (1 : Int32))) (((2 : Int32) * v8_4) + (v16_21 >>> ((1 : Int32) &&& 31))) v9_5))])
        refine ogo (fun _ z_ => XS.icmpNo X32.here hx rfl (hb hby at_180) rfl (teq (by rw [hv11_15]; exact own_child2 _ _ _ _ _ _ hL c134 hS ⟨hC7.1, hC7.2.1⟩ ⟨hC8.1, hC8.2.1⟩ hB.1 hB.2.1)).2 z_) ?_
        show OWay p e below G T32 (mkF m 183 #[.val (.int p0), .val (.int p1), .val (.int p2), .val (.int p3), .val (.int p4), .val (.int v5_1), .val (.int v6_2), .val (.int v7_3), .val (.int v8_4), .val (.int v9_5), .val (.ref b6), .val (.int v11_15), .val (.int v12_16), .val (.int us0_17), .val (.int us0_19), .val (.int (1 : Int32)), .val (.int v16_21), .val (.ref b_23)] [])
        refine ogo (fun _ z_ => XS.iconst X32.here hx rfl (hb hby at_183) z_) ?_
        show OWay p e below G T32 (mkF m 184 #[.val (.int p0), .val (.int p1), .val (.int p2), .val (.int p3), .val (.int p4), .val (.int v5_1), .val (.int v6_2), .val (.int v7_3), .val (.int v8_4), .val (.int v9_5), .val (.ref b6), .val (.int v11_15), .val (.int v12_16), .val (.int us0_17), .val (.int us0_19), .val (.int (1 : Int32)), .val (.int v16_21), .val (.ref b_23)] [(.int (1 : Int32))])
        refine ogo (fun _ z_ => XS.goto X32.here hx rfl (pc0 := 184) (pc' := 188) rfl (hb hby at_184) (by decide) (by decide) z_) ?_
        show OWay p e below G T32 (mkF m 188 #[.val (.int p0), .val (.int p1), .val (.int p2), .val (.int p3), .val (.int p4), .val (.int v5_1), .val (.int v6_2), .val (.int v7_3), .val (.int v8_4), .val (.int v9_5), .val (.ref b6), .val (.int v11_15), .val (.int v12_16), .val (.int us0_17), .val (.int us0_19), .val (.int (1 : Int32)), .val (.int v16_21), .val (.ref b_23)] [(.int (1 : Int32))])
        refine ogo (fun _ z_ => XS.istore X32.here hx rfl (hb hby at_188) rfl (l' := #[.val (.int p0), .val (.int p1), .val (.int p2), .val (.int p3), .val (.int p4), .val (.int v5_1), .val (.int v6_2), .val (.int v7_3), .val (.int v8_4), .val (.int v9_5), .val (.ref b6), .val (.int v11_15), .val (.int v12_16), .val (.int us0_17), .val (.int us0_19), .val (.int (1 : Int32)), .val (.int v16_21), .val (.ref b_23)]) rfl z_) ?_
        show OWay p e below G T32 (mkF m 190 #[.val (.int p0), .val (.int p1), .val (.int p2), .val (.int p3), .val (.int p4), .val (.int v5_1), .val (.int v6_2), .val (.int v7_3), .val (.int v8_4), .val (.int v9_5), .val (.ref b6), .val (.int v11_15), .val (.int v12_16), .val (.int us0_17), .val (.int us0_19), .val (.int (1 : Int32)), .val (.int v16_21), .val (.ref b_23)] [])
        refine ogo (fun _ z_ => XS.iload X32.here hx rfl (hb hby at_190) rfl z_) ?_
        show OWay p e below G T32 (mkF m 192 #[.val (.int p0), .val (.int p1), .val (.int p2), .val (.int p3), .val (.int p4), .val (.int v5_1), .val (.int v6_2), .val (.int v7_3), .val (.int v8_4), .val (.int v9_5), .val (.ref b6), .val (.int v11_15), .val (.int v12_16), .val (.int us0_17), .val (.int us0_19), .val (.int (1 : Int32)), .val (.int v16_21), .val (.ref b_23)] [(.int (1 : Int32))])
        subst hG
        refine wRetN X32 hx (t := .boolean) hret hlk (by simp) (hb hby at_192) (by decide) (by decide) eq32 ?_
        exact ⟨rfl, N32⟩
      · refine ogo (fun _ z_ => XS.icmpYes X13.here hx rfl (pc0 := 134) (pc' := 190) rfl (hb hby at_134) rfl (flt c134).2.1 (by decide) (by decide) z_) ?_
        show OWay p e below G T13 (mkF m 190 #[.val (.int p0), .val (.int p1), .val (.int p2), .val (.int p3), .val (.int p4), .val (.int v5_1), .val (.int v6_2), .val (.int v7_3), .val (.int v8_4), .val (.int v9_5), .val (.ref b6), .val (.int v11_15), .val (.int v12_16), .val (.int us0_17), .val (.int us0_19), .val (.int (1 : Int32)), .unset, .unset] [])
        refine ogo (fun _ z_ => XS.iload X13.here hx rfl (hb hby at_190) rfl z_) ?_
        show OWay p e below G T13 (mkF m 192 #[.val (.int p0), .val (.int p1), .val (.int p2), .val (.int p3), .val (.int p4), .val (.int v5_1), .val (.int v6_2), .val (.int v7_3), .val (.int v8_4), .val (.int v9_5), .val (.ref b6), .val (.int v11_15), .val (.int v12_16), .val (.int us0_17), .val (.int us0_19), .val (.int (1 : Int32)), .unset, .unset] [(.int (1 : Int32))])
        subst hG
        refine wRetN X13 hx (t := .boolean) hret hlk (by simp) (hb hby at_192) (by decide) (by decide) eq13 ?_
        exact ⟨rfl, N13⟩
    by_cases c103 : (v8_4 % ((2 : Int32) * v12_16)) < v12_16
    · refine ogo (fun _ z_ => XS.icmpYes X13.here hx rfl (pc0 := 103) (pc' := 110) rfl (hb hby at_103) rfl (tlt c103).1 (by decide) (by decide) z_) ?_
      show OWay p e below G T13 (mkF m 110 #[.val (.int p0), .val (.int p1), .val (.int p2), .val (.int p3), .val (.int p4), .val (.int v5_1), .val (.int v6_2), .val (.int v7_3), .val (.int v8_4), .val (.int v9_5), .val (.ref b6), .val (.int v11_15), .val (.int v12_16), .val (.int us0_17), .unset, .unset, .unset, .unset] [])
      refine ogo (fun _ z_ => XS.iconst X13.here hx rfl (hb hby at_110) z_) ?_
      show OWay p e below G T13 (mkF m 111 #[.val (.int p0), .val (.int p1), .val (.int p2), .val (.int p3), .val (.int p4), .val (.int v5_1), .val (.int v6_2), .val (.int v7_3), .val (.int v8_4), .val (.int v9_5), .val (.ref b6), .val (.int v11_15), .val (.int v12_16), .val (.int us0_17), .unset, .unset, .unset, .unset] [(.int (0 : Int32))])
      exact J20 _ ((if_pos c103).trans rfl).symm
    · refine ogo (fun _ z_ => XS.icmpNo X13.here hx rfl (hb hby at_103) rfl (flt c103).1 z_) ?_
      show OWay p e below G T13 (mkF m 106 #[.val (.int p0), .val (.int p1), .val (.int p2), .val (.int p3), .val (.int p4), .val (.int v5_1), .val (.int v6_2), .val (.int v7_3), .val (.int v8_4), .val (.int v9_5), .val (.ref b6), .val (.int v11_15), .val (.int v12_16), .val (.int us0_17), .unset, .unset, .unset, .unset] [])
      refine ogo (fun _ z_ => XS.iconst X13.here hx rfl (hb hby at_106) z_) ?_
      show OWay p e below G T13 (mkF m 107 #[.val (.int p0), .val (.int p1), .val (.int p2), .val (.int p3), .val (.int p4), .val (.int v5_1), .val (.int v6_2), .val (.int v7_3), .val (.int v8_4), .val (.int v9_5), .val (.ref b6), .val (.int v11_15), .val (.int v12_16), .val (.int us0_17), .unset, .unset, .unset, .unset] [(.int (2 : Int32))])
      refine ogo (fun _ z_ => XS.goto X13.here hx rfl (pc0 := 107) (pc' := 111) rfl (hb hby at_107) (by decide) (by decide) z_) ?_
      show OWay p e below G T13 (mkF m 111 #[.val (.int p0), .val (.int p1), .val (.int p2), .val (.int p3), .val (.int p4), .val (.int v5_1), .val (.int v6_2), .val (.int v7_3), .val (.int v8_4), .val (.int v9_5), .val (.ref b6), .val (.int v11_15), .val (.int v12_16), .val (.int us0_17), .unset, .unset, .unset, .unset] [(.int (2 : Int32))])
      exact J20 _ ((if_neg c103).trans rfl).symm
  by_cases c84 : (v7_3 % ((2 : Int32) * v12_16)) < v12_16
  · refine ogo (fun _ z_ => XS.icmpYes X13.here hx rfl (pc0 := 84) (pc' := 91) rfl (hb hby at_84) rfl (tlt c84).1 (by decide) (by decide) z_) ?_
    show OWay p e below G T13 (mkF m 91 #[.val (.int p0), .val (.int p1), .val (.int p2), .val (.int p3), .val (.int p4), .val (.int v5_1), .val (.int v6_2), .val (.int v7_3), .val (.int v8_4), .val (.int v9_5), .val (.ref b6), .val (.int v11_15), .val (.int v12_16), .unset, .unset, .unset, .unset, .unset] [])
    refine ogo (fun _ z_ => XS.iconst X13.here hx rfl (hb hby at_91) z_) ?_
    show OWay p e below G T13 (mkF m 92 #[.val (.int p0), .val (.int p1), .val (.int p2), .val (.int p3), .val (.int p4), .val (.int v5_1), .val (.int v6_2), .val (.int v7_3), .val (.int v8_4), .val (.int v9_5), .val (.ref b6), .val (.int v11_15), .val (.int v12_16), .unset, .unset, .unset, .unset, .unset] [(.int (0 : Int32))])
    exact J18 _ ((if_pos c84).trans rfl).symm
  · refine ogo (fun _ z_ => XS.icmpNo X13.here hx rfl (hb hby at_84) rfl (flt c84).1 z_) ?_
    show OWay p e below G T13 (mkF m 87 #[.val (.int p0), .val (.int p1), .val (.int p2), .val (.int p3), .val (.int p4), .val (.int v5_1), .val (.int v6_2), .val (.int v7_3), .val (.int v8_4), .val (.int v9_5), .val (.ref b6), .val (.int v11_15), .val (.int v12_16), .unset, .unset, .unset, .unset, .unset] [])
    refine ogo (fun _ z_ => XS.iconst X13.here hx rfl (hb hby at_87) z_) ?_
    show OWay p e below G T13 (mkF m 88 #[.val (.int p0), .val (.int p1), .val (.int p2), .val (.int p3), .val (.int p4), .val (.int v5_1), .val (.int v6_2), .val (.int v7_3), .val (.int v8_4), .val (.int v9_5), .val (.ref b6), .val (.int v11_15), .val (.int v12_16), .unset, .unset, .unset, .unset, .unset] [(.int (1 : Int32))])
    refine ogo (fun _ z_ => XS.goto X13.here hx rfl (pc0 := 88) (pc' := 92) rfl (hb hby at_88) (by decide) (by decide) z_) ?_
    show OWay p e below G T13 (mkF m 92 #[.val (.int p0), .val (.int p1), .val (.int p2), .val (.int p3), .val (.int p4), .val (.int v5_1), .val (.int v6_2), .val (.int v7_3), .val (.int v8_4), .val (.int v9_5), .val (.ref b6), .val (.int v11_15), .val (.int v12_16), .unset, .unset, .unset, .unset, .unset] [(.int (1 : Int32))])
    exact J18 _ ((if_neg c84).trans rfl).symm
set_option maxRecDepth 65536 in
set_option maxHeartbeats 40000000 in
theorem comes_1 {Post : Tables → Env → Array Value → State → Outcome → State → Prop} (hpost : ∀ tb e args s v u, (limb_1_1.after args s (.returned v) u = true ∧ limb_1_2.after args s (.returned v) u = true ∧ True) → FrameEnd s (.returned v) u (Jvm.fieldLocs frame_1_writes args s ++ Jvm.arrayLocs frame_1_arrays args s ++ Jvm.staticLocs frame_1_statics s) 16 128 → Post tb e args s (.returned v) u) :
    ArmFor flags0 classFile x code maxLocals ret World_1 tables_1 room_1 Calls_1 rest_1 Pre_1 Post := by
  intro l hfl _ _ p e ha hc hk s m args below hf hA hF happ hP
  obtain ⟨hcalls, hrest, hpre⟩ := hP
  obtain ⟨-, -, -, hnamed, -, -, -, hat⟩ := (Spec.applies_iff hf).mp happ
  obtain ⟨hg, hn⟩ := and_e (Cond.before_iff.mp (show (Jvm.Cond.and given_1 narrow_1).before args s = true from hpre))
  obtain ⟨g1, g2⟩ := and_e hg
  obtain ⟨g3, g4⟩ := and_e g2
  obtain ⟨g5, g6⟩ := and_e g4
  obtain ⟨g7, g8⟩ := and_e g6
  obtain ⟨g9, g10⟩ := and_e g8
  obtain ⟨w0, w1, w2, w3, w4, rfl⟩ : ∃ w0 w1 w2 w3 w4 : Value, args = #[w0, w1, w2, w3, w4] := by
    have hs : args.size = 5 := by simpa [Cond.value, given_1] using g1
    obtain ⟨L⟩ := args
    match L, hs with
    | [w0, w1, w2, w3, w4], _ => exact ⟨w0, w1, w2, w3, w4, rfl⟩
  have hw := fun d (hd : d ∈ tables_1) => atoms_spec (ws := Jvm.Cond.code x code maxLocals ret :: tables_1) hat d (List.mem_cons_of_mem _ hd)
  have hfit : Fit s := fun {y c} hc i hi => by
    obtain ⟨ha, rfl⟩ := Array.getElem?_eq_some_iff.mp hc
    have q := List.all_eq_true.mp ((Array.all_eq_true_iff_forall_mem.mp hF) _ (Array.getElem_mem ha)) i (List.mem_range.mpr hi)
    simpa [Array.getElem?_eq_getElem hi] using q
  obtain ⟨i0, ei0⟩ := is_v g3
  obtain rfl : w0 = (.int i0) := Option.some.inj ei0
  obtain ⟨i1, ei1⟩ := is_v g5
  obtain rfl : w1 = (.int i1) := Option.some.inj ei1
  obtain ⟨i2, ei2⟩ := is_v g7
  obtain rfl : w2 = (.int i2) := Option.some.inj ei2
  obtain ⟨i3, ei3⟩ := is_v g9
  obtain rfl : w3 = (.int i3) := Option.some.inj ei3
  obtain ⟨i4, ei4⟩ := is_v g10
  obtain rfl : w4 = (.int i4) := Option.some.inj ei4
  obtain ⟨n, o, h1, h2, h3, _, L, rfl, ⟨rfl, N⟩, hq⟩ := law_c l s _ hw tables_1 i0 i1 i2 i3 i4 s.heap s.heap.size (Nat.le_refl _) p e ha hc hk s m _ below hf ((Spec.applies_iff_loose hf).mp happ).1 ⟨rfl, State.Warmed39.refl s, rfl⟩ trivial
  refine ⟨n, _, h1, h2, h3, hpost _ _ _ _ _ _ ⟨Cond.after_iff.mpr rfl, Cond.after_iff.mpr (eq_i res_at (Term.int_eval (1)) rfl), trivial⟩ ⟨hq.1, hq.2.1, (hq.2.2.sift fun y hy => Or.inr (N y hy)).mono (by decide) (by decide)⟩⟩
theorem main_1_1 : Claimed_1_1 := comes_1 fun _ _ _ _ _ _ h hF => ⟨h.1, hF⟩
theorem main_1_2 : Claimed_1_2 := comes_1 fun _ _ _ _ _ _ h hF => ⟨h.2.1, hF⟩
end Jvm.Pilot.@@N@@
namespace Jvm.Pilot.@@N@@
open Jvm Jvm.ClassFile Sem Op Lib Jvm.Free Jvm.Stand Jvm.Pilot.@@N@@.Jvm.D
/-! MADE BY PROGRAM (witnessworld.py) out of the Statement's table words and the real class files: 10 classes; the members and pool entries that the words name. The judged class is class 1, her method 1. -/
namespace start1
open Jvm.ClassFile
def u (s : String) : CpInfo := .utf8 (stringToUtf16 s)
/-- a pool by its gaps: so many unusable entries, then the entry; so many at the end -/
def gap : Nat → List CpInfo → List CpInfo
  | 0, r => r
  | n + 1, r => .unusable :: gap n r
def poolList (es : List (Nat × CpInfo)) (last : Nat) : List CpInfo := es.foldr (fun e r => gap e.1 (e.2 :: r)) (gap last [])
def pool (es : List (Nat × CpInfo)) (last : Nat) : Array CpInfo := ⟨poolList es last⟩
def fileOf (pool : Array CpInfo) (this : Nat) (attrs : Array Attribute := #[]) (ms : Array MethodInfo := #[]) (fl : Nat := 33) (sup : Nat := 0) (ifs : Array Nat := #[]) (fds : Array FieldInfo := #[]) : ClassFile where
  minorVersion := 0
  majorVersion := 65
  constantPool := pool
  accessFlags := fl
  thisClass := this
  superClass := sup
  interfaces := ifs
  fields := fds
  methods := ms
  attributes := attrs
def plain (name : String) (sup : Option ClassId) : Class where
  name := name
  kind := .ordinary
  loader := none
  accessFlags := 33
  super := sup
  interfaces := #[]
  cf := none
  fields := #[]
  methods := #[]
  instanceTypes := #[]
  staticTypes := #[]
  resolved := #[]
  callSites := []
  init := .initialized
  statics := none
  mirror := none

def pool0 : Array CpInfo := pool [(5, u "<init>"), (0, u "()V"), (1, .class_ 10), (1, u "java/lang/Object")] 113

def k0c0 : Code := { maxStack := 0, maxLocals := 1, code := object_method_1_code, exceptionTable := #[], attributes := #[] }
def k0m0 : Method := { name := "<init>", desc := "()V", sig := { parameters := [], returnType := none }, accessFlags := 1, code := some k0c0 }
/-- java/lang/Object -/
def k0 : Class := { plain "java/lang/Object" none with
  accessFlags := 33
  interfaces := #[]
  cf := some (fileOf pool0 8 #[] #[{ accessFlags := 1, nameIndex := 5, descriptorIndex := 6, attributes := #[] }] 33 0 #[] #[])
  fields := #[]
  methods := #[k0m0]
  instanceTypes := #[]
  staticTypes := #[]
  resolved := Array.replicate 124 none
  statics := none }

def pool1 : Array CpInfo := pool [(2, .class_ 4), (1, u "java/lang/Object"), (0, u "<init>"), (0, u "()V"), (0, .integer 2147483647), (0, .class_ 9), (0, u "com/example/wakeline/wakeline/index/Cell"), (0, .methodref 8 11), (0, .nameAndType 5 12), (0, u "(III)V"), (0, .methodref 8 14), (0, .nameAndType 15 16), (0, u "quadrant"), (0, u "(I)I"), (0, .methodref 8 18), (0, .nameAndType 19 20), (0, u "child"), (0, u "(I)Lcom/example/wakeline/wakeline/index/Cell;"), (0, .class_ 22), (0, u "com/example/wakeline/wakeline/index/CellQuadrantPinLaw"), (2, u "law"), (0, u "(IIIII)Z")] 3

def k1m0 : Method := { name := "<init>", desc := "()V", sig := { parameters := [], returnType := none }, accessFlags := 1, code := none }
def k1c1 : Code := { maxStack := 5, maxLocals := 18, code := code, exceptionTable := #[], attributes := #[] }
def k1m1 : Method := { name := "law", desc := "(IIIII)Z", sig := { parameters := [.int, .int, .int, .int, .int], returnType := some .boolean }, accessFlags := 9, code := some k1c1 }
/-- com/example/wakeline/wakeline/index/CellQuadrantPinLaw -/
def k1 : Class := { plain "com/example/wakeline/wakeline/index/CellQuadrantPinLaw" (some 0) with
  accessFlags := 49
  interfaces := #[]
  cf := some (fileOf pool1 21 #[] #[{ accessFlags := 1, nameIndex := 5, descriptorIndex := 6, attributes := #[] }, { accessFlags := 9, nameIndex := 25, descriptorIndex := 26, attributes := #[] }] 49 2 #[] #[])
  fields := #[]
  methods := #[k1m0, k1m1]
  instanceTypes := #[]
  staticTypes := #[]
  resolved := Array.replicate 30 none
  statics := none }

def pool2 : Array CpInfo := pool [(1, .methodref 2 3), (0, .class_ 4), (0, .nameAndType 5 6), (0, u "java/lang/Object"), (0, u "<init>"), (0, u "()V"), (0, .class_ 8), (0, u "java/lang/Record")] 13

def k2c0 : Code := { maxStack := 1, maxLocals := 1, code := jdk_30_method_1_code, exceptionTable := #[], attributes := #[] }
def k2m0 : Method := { name := "<init>", desc := "()V", sig := { parameters := [], returnType := none }, accessFlags := 4, code := some k2c0 }
/-- java/lang/Record -/
def k2 : Class := { plain "java/lang/Record" (some 0) with
  accessFlags := 1057
  interfaces := #[]
  cf := some (fileOf pool2 7 #[] #[{ accessFlags := 4, nameIndex := 5, descriptorIndex := 6, attributes := #[] }] 1057 2 #[] #[])
  fields := #[]
  methods := #[k2m0]
  instanceTypes := #[]
  staticTypes := #[]
  resolved := Array.replicate 22 none
  statics := none }

def pool3 : Array CpInfo := pool [(1, .methodref 2 3), (0, .class_ 4), (0, .nameAndType 5 6), (0, u "java/lang/Record"), (0, u "<init>"), (0, u "()V"), (14, .fieldref 22 23), (0, .class_ 24), (0, .nameAndType 25 26), (0, u "com/example/wakeline/wakeline/index/Cell"), (0, u "level"), (0, u "I"), (0, .fieldref 22 28), (0, .nameAndType 29 26), (0, u "column"), (0, .fieldref 22 31), (0, .nameAndType 32 26), (0, u "row"), (11, .methodref 22 45), (0, .nameAndType 5 46), (0, u "(III)V"), (7, u "quadrant"), (0, u "(I)I"), (56, u "STRAY"), (0, u "D"), (10, u "(I)Lcom/example/wakeline/wakeline/index/Cell;"), (0, u "child")] 44

def k3c0 : Code := { maxStack := 7, maxLocals := 5, code := prog_6_method_1_code, exceptionTable := #[], attributes := #[] }
def k3m0 : Method := { name := "<init>", desc := "(III)V", sig := { parameters := [.int, .int, .int], returnType := none }, accessFlags := 1, code := some k3c0 }
def k3c1 : Code := { maxStack := 7, maxLocals := 2, code := prog_6_method_4_code, exceptionTable := #[], attributes := #[] }
def k3m1 : Method := { name := "child", desc := "(I)Lcom/example/wakeline/wakeline/index/Cell;", sig := { parameters := [.int], returnType := some (.object "com/example/wakeline/wakeline/index/Cell") }, accessFlags := 1, code := some k3c1 }
def k3c2 : Code := { maxStack := 4, maxLocals := 3, code := prog_6_method_6_code, exceptionTable := #[], attributes := #[] }
def k3m2 : Method := { name := "quadrant", desc := "(I)I", sig := { parameters := [.int], returnType := some .int }, accessFlags := 0, code := some k3c2 }
/-- com/example/wakeline/wakeline/index/Cell -/
def k3 : Class := { plain "com/example/wakeline/wakeline/index/Cell" (some 2) with
  accessFlags := 49
  interfaces := #[]
  cf := some (fileOf pool3 22 #[] #[{ accessFlags := 1, nameIndex := 5, descriptorIndex := 46, attributes := #[] }, { accessFlags := 1, nameIndex := 125, descriptorIndex := 124, attributes := #[] }, { accessFlags := 0, nameIndex := 54, descriptorIndex := 55, attributes := #[] }] 49 2 #[] #[{ accessFlags := 18, nameIndex := 25, descriptorIndex := 26, attributes := #[] }, { accessFlags := 18, nameIndex := 29, descriptorIndex := 26, attributes := #[] }, { accessFlags := 18, nameIndex := 32, descriptorIndex := 26, attributes := #[] }, { accessFlags := 25, nameIndex := 112, descriptorIndex := 113, attributes := #[] }])
  fields := #[{ name := "level", type := .int, accessFlags := 18, slot := 0, constantValue := 0 }, { name := "column", type := .int, accessFlags := 18, slot := 1, constantValue := 0 }, { name := "row", type := .int, accessFlags := 18, slot := 2, constantValue := 0 }, { name := "STRAY", type := .double, accessFlags := 25, slot := 0, constantValue := 0 }]
  methods := #[k3m0, k3m1, k3m2]
  instanceTypes := #[.int, .int, .int]
  staticTypes := #[.double]
  resolved := Array.replicate 170 none
  statics := none }

def pool4 : Array CpInfo := pool [(1, u "java/lang/Cloneable"), (0, .class_ 1), (0, u "java/lang/Object"), (0, .class_ 3)] 3

/-- java/lang/Cloneable -/
def k4 : Class := { plain "java/lang/Cloneable" (some 0) with
  accessFlags := 1537
  interfaces := #[]
  cf := some (fileOf pool4 2 #[] #[] 1537 4 #[] #[])
  fields := #[]
  methods := #[]
  instanceTypes := #[]
  staticTypes := #[]
  resolved := Array.replicate 8 none
  statics := none }

def pool5 : Array CpInfo := pool [(1, u "java/io/Serializable"), (0, .class_ 1), (0, u "java/lang/Object"), (0, .class_ 3)] 3

/-- java/io/Serializable -/
def k5 : Class := { plain "java/io/Serializable" (some 0) with
  accessFlags := 1537
  interfaces := #[]
  cf := some (fileOf pool5 2 #[] #[] 1537 4 #[] #[])
  fields := #[]
  methods := #[]
  instanceTypes := #[]
  staticTypes := #[]
  resolved := Array.replicate 8 none
  statics := none }

/-- the primitive byte -/
def k6 : Class := { plain "byte" none with kind := .primitive 'B', accessFlags := 0x411 }
/-- [B -/
def k7 : Class := { plain "[B" (some 0) with kind := .array 6 .byte, interfaces := #[4, 5], accessFlags := 1041 }

/-- the primitive int -/
def k8 : Class := { plain "int" none with kind := .primitive 'I', accessFlags := 0x411 }
/-- [I -/
def k9 : Class := { plain "[I" (some 0) with kind := .array 8 .int, interfaces := #[4, 5], accessFlags := 1041 }

def heap : Heap := #[]
def classes : Array Class := #[k0, k1, k2, k3, k4, k5, k6, k7, k8, k9]
def interned : List (Array UInt16 × Addr) := []
def slotsUsed : Nat := 0
def theMethod : MethodId := ⟨1, 1⟩
def args0 : Array Value := #[.int 3, .int 5, .int 6, .int 1, .int 2]
def aboutOver (below : List Frame) : State where
  vm := { classes := classes, interned := interned.toArray }
  heap := heap
  slotsUsed := slotsUsed
  threads := #[{ frames := .invoking theMethod args0 :: below }]
def below0 : List Frame := [.native { method := ⟨0, 0⟩, args := #[] }]
def about1 : State := aboutOver below0
def p0 : Program := .bare "" "" ""
def e0 : Env := launch0.env 0 0 0
theorem w_frames : about1.frames = Frame.invoking theMethod args0 :: below0 := rfl
set_option maxRecDepth 65536 in
theorem w_args : argsFit about1.vm theMethod args0 = true := by decide +kernel
set_option maxRecDepth 65536 in
theorem w_heap : heapFits about1 = true := by decide +kernel
set_option maxRecDepth 65536 in
theorem w_runnable : about1.curStatus? = some .runnable := by decide +kernel
set_option maxRecDepth 65536 in
theorem w_alone : about1.alone = true := by decide +kernel
set_option maxRecDepth 65536 in
theorem w_named : about1.methodNamed? x = some theMethod := by decide +kernel
set_option maxRecDepth 65536 in
theorem w_hears : about1.hears theMethod below0 = true := by decide +kernel
set_option maxRecDepth 65536 in
theorem w_ripe : about1.ripe theMethod args0 below0 = true := by decide +kernel
theorem w_running : about1.status = .running := rfl
set_option maxRecDepth 65536 in
theorem w_room : about1.hasRoom e0.platform room_1 = true :=
  launch0.hasRoom_least _ room_1 (by decide +kernel) (by decide +kernel) (by decide +kernel) (by decide +kernel) (by decide +kernel) (by decide +kernel)
theorem allAtoms_all (ts : List Jvm.Cond) (a : Array Jvm.Value) (st : Jvm.State) : (allAtoms ts).before a st = ts.all (fun c => c.before a st) := by
  induction ts with
  | nil => rfl
  | cons c t ih =>
    show (Jvm.Cond.and c (allAtoms t)).before a st = _
    rw [Jvm.Cond.before_and, ih, List.all_cons]
def words1 : List Jvm.Cond := Jvm.Cond.code x code maxLocals ret :: tables_1
/-- a 'code' word, met by the world's own term for the bytes: nothing is compared byte by byte -/
theorem code_word {y : MethodName} {bytes : ByteArray} {mx : Nat} {rt : Option FieldType} {a : Array Value} {s : State} {m : MethodId} {meth : Method} {c : Code} (h1 : s.methodNamed? y = some m) (h2 : s.vm.method? m = some meth) (h3 : meth.code = some c) (h4 : c.code = bytes)
    (h5 : (c.maxLocals == mx && c.exceptionTable.isEmpty && decide (c.maxStack ≤ mostOperands) && decide (meth.sig.returnType = rt) && !meth.locks && decide (parseMethodDescriptor y.desc = some meth.sig)) = true) : (Jvm.Cond.code y bytes mx rt).before a s = true := by
  simp only [Bool.and_eq_true, beq_iff_eq, Bool.not_eq_true', decide_eq_true_eq] at h5
  obtain ⟨⟨⟨⟨⟨g1, g2⟩, g3⟩, g4⟩, g5⟩, g6⟩ := h5
  simp [Cond.before, Cond.holds, Cond.value, h1, h2, h3, h4, g1, g2, g3, g4, g5, g6]
def isCode : Jvm.Cond → Bool
  | .code _ _ _ _ => true
  | _ => false
theorem all_split {L : List Jvm.Cond} {P : Jvm.Cond → Bool} (h1 : L.all (fun c => isCode c || P c) = true) (h2 : ∀ c ∈ L.filter isCode, P c = true) : L.all P = true := by
  refine List.all_eq_true.mpr fun c hc => ?_
  have h := List.all_eq_true.mp h1 c hc
  rcases Bool.eq_false_or_eq_true (isCode c) with hi | hi
  · exact h2 c (List.mem_filter.mpr ⟨hc, hi⟩)
  · simpa [hi] using h
set_option maxRecDepth 65536 in
theorem w_c0 : (Jvm.Cond.code x code maxLocals ret).before args0 about1 = true := code_word (m := ⟨1, 1⟩) (meth := k1m1) (c := k1c1) (by decide +kernel) rfl rfl rfl (by decide +kernel)
set_option maxRecDepth 65536 in
theorem w_c1 : (Jvm.Cond.code ({ cls := "com/example/wakeline/wakeline/index/Cell", name := "<init>", desc := "(III)V" } : Jvm.MethodName) prog_6_method_1_code (5 : Nat) (Option.none : Option Jvm.ClassFile.FieldType)).before args0 about1 = true := code_word (m := ⟨3, 0⟩) (meth := k3m0) (c := k3c0) (by decide +kernel) rfl rfl rfl (by decide +kernel)
set_option maxRecDepth 65536 in
theorem w_c2 : (Jvm.Cond.code ({ cls := "java/lang/Record", name := "<init>", desc := "()V" } : Jvm.MethodName) jdk_30_method_1_code (1 : Nat) (Option.none : Option Jvm.ClassFile.FieldType)).before args0 about1 = true := code_word (m := ⟨2, 0⟩) (meth := k2m0) (c := k2c0) (by decide +kernel) rfl rfl rfl (by decide +kernel)
set_option maxRecDepth 65536 in
theorem w_c3 : (Jvm.Cond.code ({ cls := "java/lang/Object", name := "<init>", desc := "()V" } : Jvm.MethodName) object_method_1_code (1 : Nat) (Option.none : Option Jvm.ClassFile.FieldType)).before args0 about1 = true := code_word (m := ⟨0, 0⟩) (meth := k0m0) (c := k0c0) (by decide +kernel) rfl rfl rfl (by decide +kernel)
set_option maxRecDepth 65536 in
theorem w_c4 : (Jvm.Cond.code ({ cls := "com/example/wakeline/wakeline/index/Cell", name := "quadrant", desc := "(I)I" } : Jvm.MethodName) prog_6_method_6_code (3 : Nat) (Option.some Jvm.ClassFile.FieldType.int)).before args0 about1 = true := code_word (m := ⟨3, 2⟩) (meth := k3m2) (c := k3c2) (by decide +kernel) rfl rfl rfl (by decide +kernel)
set_option maxRecDepth 65536 in
theorem w_c5 : (Jvm.Cond.code ({ cls := "com/example/wakeline/wakeline/index/Cell", name := "child", desc := "(I)Lcom/example/wakeline/wakeline/index/Cell;" } : Jvm.MethodName) prog_6_method_4_code (2 : Nat) (Option.some (Jvm.ClassFile.FieldType.object "com/example/wakeline/wakeline/index/Cell"))).before args0 about1 = true := code_word (m := ⟨3, 1⟩) (meth := k3m1) (c := k3c1) (by decide +kernel) rfl rfl rfl (by decide +kernel)
def codes1 : List Jvm.Cond := [Jvm.Cond.code x code maxLocals ret, Jvm.Cond.code ({ cls := "com/example/wakeline/wakeline/index/Cell", name := "<init>", desc := "(III)V" } : Jvm.MethodName) prog_6_method_1_code (5 : Nat) (Option.none : Option Jvm.ClassFile.FieldType), Jvm.Cond.code ({ cls := "java/lang/Record", name := "<init>", desc := "()V" } : Jvm.MethodName) jdk_30_method_1_code (1 : Nat) (Option.none : Option Jvm.ClassFile.FieldType), Jvm.Cond.code ({ cls := "java/lang/Object", name := "<init>", desc := "()V" } : Jvm.MethodName) object_method_1_code (1 : Nat) (Option.none : Option Jvm.ClassFile.FieldType), Jvm.Cond.code ({ cls := "com/example/wakeline/wakeline/index/Cell", name := "quadrant", desc := "(I)I" } : Jvm.MethodName) prog_6_method_6_code (3 : Nat) (Option.some Jvm.ClassFile.FieldType.int), Jvm.Cond.code ({ cls := "com/example/wakeline/wakeline/index/Cell", name := "child", desc := "(I)Lcom/example/wakeline/wakeline/index/Cell;" } : Jvm.MethodName) prog_6_method_4_code (2 : Nat) (Option.some (Jvm.ClassFile.FieldType.object "com/example/wakeline/wakeline/index/Cell"))]
set_option maxRecDepth 65536 in
theorem codes_eq : words1.filter isCode = codes1 := rfl
theorem w_codes : ∀ c ∈ words1.filter isCode, c.before args0 about1 = true := by
  rw [codes_eq]
  intro c hc
  simp only [codes1, List.mem_cons, List.not_mem_nil, or_false] at hc
  rcases hc with rfl | rfl | rfl | rfl | rfl | rfl
  · exact w_c0
  · exact w_c1
  · exact w_c2
  · exact w_c3
  · exact w_c4
  · exact w_c5
set_option maxRecDepth 65536 in
theorem w_t1 : (words1.take 24).all (fun c => isCode c || c.before args0 about1) = true := by decide +kernel
set_option maxRecDepth 65536 in
theorem w_t2 : (words1.drop 24).all (fun c => isCode c || c.before args0 about1) = true := by decide +kernel
theorem w_tables : (allAtoms (Jvm.Cond.code x code maxLocals ret :: tables_1)).before args0 about1 = true := by
  rw [allAtoms_all]
  show words1.all (fun c => c.before args0 about1) = true
  refine all_split ?_ w_codes
  rw [← List.take_append_drop 24 words1, List.all_append, w_t1, w_t2]
  rfl
set_option maxRecDepth 65536 in
theorem w_case : (Jvm.Cond.and given_1 narrow_1).before args0 about1 = true := by decide +kernel
theorem w_applies : (headSpec (Jvm.Cond.code x code maxLocals ret :: tables_1) room_1).applies x e0.platform about1 = true :=
  (Spec.applies_iff w_frames).mpr ⟨w_running, w_runnable, w_alone, w_named, w_hears, w_ripe, w_room, w_tables⟩
theorem atStart : AtStart classFile x code maxLocals ret World_1 tables_1 room_1 Calls_1 rest_1 Pre_1 launch0 p0 e0 about1 theMethod args0 below0 :=
  ⟨lists_1, trivial, launch0.admits_env _ _ _, launch0.least_env, fairChoices_fair.cas, fairChoices_fair.clock, w_frames, w_args, w_heap, w_applies, trivial, trivial, w_case⟩
end start1
theorem witness_1 : WitnessClaimed_1 := ⟨start1.p0, start1.e0, start1.about1, start1.theMethod, start1.args0, start1.below0, start1.atStart⟩
end Jvm.Pilot.@@N@@
