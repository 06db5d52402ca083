import JvmDerived
import JvmDerived.Pilot.@@N@@Statement
import JvmDerived.Pilot.@@N@@Code
set_option linter.unusedVariables false
set_option linter.unusedSimpArgs false
namespace Jvm.Pilot.@@N@@
open Jvm Jvm.ClassFile Sem Op Lib Jvm.Free Jvm.Stand Jvm.LawKit Jvm.RoadKit Bundle Jvm.Pilot.@@N@@.Jvm.D
/-- from here the run comes to a state of which G holds -/
def OWay (p : Program) (e : Env) (below : List Frame) (G : State → Prop) (T : State) (g : JFrame) : Prop := ∃ t, Steps p.tables e below (T.setTop g) t ∧ G t
/-- how a body ends: it returned, with what Q says of its value, the heap and the places written -/
def OEnd (s : State) (below : List Frame) (Q : Option Value → Heap → List Loc → Prop) (cs sl : Nat) (t : State) : Prop := ∃ o, t.status = .running ∧ Ended t below o ∧ ∃ v L, o = .returned v ∧ Q v t.heap L ∧ FrameEnd s o t L cs sl
/-- a body's contract, as a call wants it -/
def OCon (l : Launch) (y : MethodName) (bytes : ByteArray) (maxL : Nat) (rt : Option FieldType) (ws : List Jvm.Cond) (rm : Room) (Z : State) (as' : Array Value) (h : Heap) (Q : Option Value → Heap → List Loc → Prop) : Prop :=
  MetFree l y (head1 (Jvm.Cond.code y bytes maxL rt :: ws) rm) (fun a U => a = as' ∧ Z.Warmed39 U.vm ∧ U.heap = h) (fun _ _ _ _ _ => True) (fun _ U o U' => ∃ v L, o = .returned v ∧ Q v U'.heap L ∧ FrameEnd U o U' L rm.cells rm.slots)
section Own
variable {p : Program} {l : Launch} {e : Env} {R : Room} {s : State} {m : MethodId} {args : Array Value} {below : List Frame} {meth : Method} {c : Code} {T T' : State} {locs : List Loc} {cells slots : Nat} {Z : State} {a0 : Array Value} {h : Heap} {G : State → Prop} {g g' : JFrame} {Q : Option Value → Heap → List Loc → Prop} {cs sl : Nat}
theorem ogo (q : ∀ t, Steps p.tables e below (T'.setTop g') t → Steps p.tables e below (T.setTop g) t) (w : OWay p e below G T' g') : OWay p e below G T g := by
  obtain ⟨t, h1, h2⟩ := w
  exact ⟨t, q t h1, h2⟩
theorem ogoS (q : Steps p.tables e below (T.setTop g) (T'.setTop g')) (w : OWay p e below G T' g') : OWay p e below G T g := ogo (fun _ k => q.trans k) w
theorem ogoE (q : g = g') (w : OWay p e below G T g') : OWay p e below G T g := q ▸ w
theorem ocon {y : MethodName} {bytes : ByteArray} {maxL : Nat} {rt : Option FieldType} {ws : List Jvm.Cond} {rm : Room} {as' : Array Value} (hp : plainFor y = true)
    (body : ∀ (p : Program) (e : Env) (s : State) (m : MethodId) (below : List Frame) (meth : Method) (c : Code) (s₁ : State), p.tables.exec = Jvm.exec → c.code = bytes → c.maxLocals = maxL → s.vm.findClass y.cls = some m.cls → meth.name = y.name → meth.sig.returnType = rt → meth.locks = false → Z.Warmed39 s.vm →
      Stand p l e rm s m as' below meth c s₁ [] 0 0 → s₁.heap = h → OWay p e below (OEnd s below Q rm.cells rm.slots) s₁ (entryFrame m as' maxL)) : OCon l y bytes maxL rt ws rm Z as' h Q := by
  refine MetFree.of_bodySF hp hisR ?_
  intro p e s m args below meth c s₁ Bd hml0 hP hK
  obtain ⟨rfl, hZ, hh⟩ := hP
  obtain ⟨t, h1, o, h2, h3, h4⟩ := body p e s m below meth c s₁ Bd.exec Bd.bytes hml0 (findClass_of_methodNamed Bd.named) (name_of_methodNamed Bd.named Bd.method).1 Bd.returns Bd.notSynchronized hZ (Stand.of_body Bd) (by rw [← hh, Bd.state]; rfl)
  exact ⟨t, o, h1, h2, h3, h4⟩
theorem wRetN (X : Stand p l e R s m args below meth c T locs cells slots) (hx : p.tables.exec = Jvm.exec) {pc : Nat} {Ls : Array Slot} {z : Int32} {t : FieldType} {rest : List Value} (hret : meth.sig.returnType = some t) (hlk : meth.locks = false) (ht : t = .boolean ∨ t = .byte ∨ t = .char ∨ t = .short)
    (hd : decode c.code pc = .ok (.ireturn, 1)) (hc : cells ≤ cs) (hs : slots ≤ sl) (eT : T.heap = h) (hq : Q (some (.int (nar t z))) h locs) : OWay p e below (OEnd s below Q cs sl) T (mkF m pc Ls (.int z :: rest)) := by
  obtain ⟨fs, hr, hrun, hended, hW, hsame⟩ := X.leave (v := some (.int (nar t z))) (fun q => by rw [hret] at q; cases q) hlk
  exact ⟨_, retN X hx hret ht hd hr, _, hrun, hended, _, _, rfl, by subst eT; exact hq, ⟨_, rfl⟩, hW, hsame.mono hc hs⟩
theorem wRet (X : Stand p l e R s m args below meth c T locs cells slots) (hx : p.tables.exec = Jvm.exec) {pc : Nat} {Ls : Array Slot} {w : Value} {t : FieldType} {i : Instr} {rest : List Value} (hret : meth.sig.returnType = some t) (hlk : meth.locks = false) (hn : narrow t w = w)
    (hi : (i = .ireturn ∧ (t = .int ∨ t = .boolean ∨ t = .byte ∨ t = .char ∨ t = .short) ∧ ∃ z, w = .int z) ∨ (i = .lreturn ∧ t = .long ∧ ∃ z, w = .long z) ∨ (i = .dreturn ∧ t = .double ∧ ∃ z, w = .double z) ∨ (i = .freturn ∧ t = .float ∧ ∃ z, w = .float z) ∨ (i = .areturn ∧ t.isReference = true ∧ w.isRef = true))
    (hd : decode c.code pc = .ok (i, 1)) (hc : cells ≤ cs) (hs : slots ≤ sl) (eT : T.heap = h) (hq : Q (some w) h locs) : OWay p e below (OEnd s below Q cs sl) T (mkF m pc Ls (w :: rest)) := by
  obtain ⟨fs, hr, hrun, hended, hW, hsame⟩ := X.leave (v := some w) (fun q => by rw [hret] at q; cases q) hlk
  exact ⟨_, retOut X hx hret hn hi hd hr, _, hrun, hended, _, _, rfl, by subst eT; exact hq, ⟨_, rfl⟩, hW, hsame.mono hc hs⟩
theorem wRetV (X : Stand p l e R s m args below meth c T locs cells slots) (hx : p.tables.exec = Jvm.exec) {pc : Nat} {Ls : Array Slot} (hret : meth.sig.returnType = none) (hlk : meth.locks = false)
    (hd : decode c.code pc = .ok (.return_, 1)) (hc : cells ≤ cs) (hs : slots ≤ sl) (eT : T.heap = h) (hq : Q none h locs) : OWay p e below (OEnd s below Q cs sl) T (mkF m pc Ls []) := by
  obtain ⟨fs, hr, hrun, hended, hW, hsame⟩ := X.leave (v := none) (fun _ => rfl) hlk
  exact ⟨_, X.returnOut hx hret hd hr, _, hrun, hended, _, _, rfl, by subst eT; exact hq, ⟨_, rfl⟩, hW, hsame.mono hc hs⟩
theorem wStatic (X : Stand p l e R s m args below meth c T locs cells slots) (hx : p.tables.exec = Jvm.exec) (hZ : Z.Warmed39 s.vm) {own : String} {index : Nat} {y : MethodName} {bytes : ByteArray} {maxL : Nat} {rt : Option FieldType} {rm : Room} {as' : Array Value} (hown : s.vm.findClass own = some m.cls)
    (w1 : (Jvm.Cond.methodLink own index y).before a0 Z = true) (w2 : (Jvm.Cond.static y).before a0 Z = true) (w3 : (Jvm.Cond.initialized y.cls).before a0 Z = true) (w4 : (Jvm.Cond.code y bytes maxL rt).before a0 Z = true) (hy : y.cls ≠ "java/lang/invoke/MethodHandle" ∧ y.cls ≠ "java/lang/invoke/VarHandle")
    (hM : OCon l y bytes maxL rt [] rm Z as' h Q) (W : Nat) (hf : rm.frames + 1 ≤ R.frames) (hl : W + (maxL + 11) + rm.locals ≤ R.locals) {g : JFrame} (hg : g.method = m) (hsize : g.locals.size = c.maxLocals) {argsL rest : List Value} (hlen : ∀ sig, parseMethodDescriptor y.desc = some sig → argsL.length = sig.parameters.length)
    (hstack : g.stack = argsL.reverse ++ rest) (hW : 2 * g.monitorRoom + (rest.map fun v => v.category).sum ≤ W) (hd : decode c.code g.pc = .ok (.invokestatic index, 3)) (has : argsL.toArray = as') (eT : T.heap = h) (hc : cells + rm.cells ≤ R.cells) (hs : slots + rm.slots ≤ R.slots) :
    ∃ (v : Option Value) (T' : State) (L : List Loc), Stand p l e R s m args below meth c T' (locs ++ L) (cells + rm.cells) (slots + rm.slots) ∧ Q v T'.heap L ∧ ∀ target, Steps p.tables e below (T'.setTop { g with pc := g.pc + 3, stack := v.toList ++ rest }) target → Steps p.tables e below (T.setTop g) target := by
  obtain ⟨v, _, ⟨T1, L1, k1, n1⟩, -, X1, ⟨Lc, hQ, l1, y1, z1⟩, st⟩ := Jvm.LawKit.callS X hx (y := y) hown (mvT hZ w1) (mvT hZ w2) (mvT hZ w3) (mvT hZ w4) hy (backOf (W := W) hM hZ w4 w3 hf hl) (g := g) hg hsize (argsL := argsL) (rest := rest) hlen hstack hW hd (fun _ _ => ⟨has, eT, hc, hs⟩)
  dsimp only [Pt.U, Pt.locs, Pt.cells, Pt.slots] at X1 l1 y1 z1 st hQ
  subst l1 y1 z1
  exact ⟨v, T1, Lc, X1, hQ, st⟩
theorem wInit (X : Stand p l e R s m args below meth c T locs cells slots) (hx : p.tables.exec = Jvm.exec) (hZ : Z.Warmed39 s.vm) {own : String} {index : Nat} {y : MethodName} {bytes : ByteArray} {maxL : Nat} {rm : Room} {as' : Array Value} (hy1 : y.name = "<init>") (hown : s.vm.findClass own = some m.cls)
    (w1 : (Jvm.Cond.methodLink own index y).before a0 Z = true) (w2 : (Jvm.Cond.instanceMethod y).before a0 Z = true) (w3 : (Jvm.Cond.initialized y.cls).before a0 Z = true) (w4 : (Jvm.Cond.code y bytes maxL none).before a0 Z = true) (hy : y.cls ≠ "java/lang/invoke/MethodHandle" ∧ y.cls ≠ "java/lang/invoke/VarHandle")
    (hM : OCon l y bytes maxL none [] rm Z as' h Q) (W : Nat) (hf : rm.frames + 1 ≤ R.frames) (hl : W + (maxL + 11) + rm.locals ≤ R.locals) {g : JFrame} (hg : g.method = m) (hsize : g.locals.size = c.maxLocals) {a : Addr} {argsL rest : List Value} (hlen : ∀ sig, parseMethodDescriptor y.desc = some sig → argsL.length = sig.parameters.length)
    (hstack : g.stack = argsL.reverse ++ .ref a :: rest) (hW : 2 * g.monitorRoom + (rest.map fun v => v.category).sum ≤ W) (hd : decode c.code g.pc = .ok (.invokespecial index, 3)) (has : (.ref a :: argsL).toArray = as') (eT : T.heap = h) (hc : cells + rm.cells ≤ R.cells) (hs : slots + rm.slots ≤ R.slots) :
    ∃ (v : Option Value) (T' : State) (L : List Loc), Stand p l e R s m args below meth c T' (locs ++ L) (cells + rm.cells) (slots + rm.slots) ∧ Q v T'.heap L ∧ Steps p.tables e below (T.setTop g) (T'.setTop { g with pc := g.pc + 3, stack := v.toList ++ rest }) := by
  obtain ⟨v, _, ⟨T1, L1, k1, n1⟩, -, X1, ⟨Lc, hQ, l1, y1, z1⟩, st⟩ := X.specialBack hx (y := y) hy1 hown (mvT hZ w1) (mvT hZ w2) (mvT hZ w4) hy (backOf (W := W) hM hZ w4 w3 hf hl) (g := g) hg hsize (Steps.refl _) (a := a) (argsL := argsL) (rest := rest) hlen hstack hW hd (fun _ _ => ⟨has, eT, hc, hs⟩)
  dsimp only [Pt.U, Pt.locs, Pt.cells, Pt.slots] at X1 l1 y1 z1 st hQ
  subst l1 y1 z1
  exact ⟨v, T1, Lc, X1, hQ, st⟩
theorem wVirtual (X : Stand p l e R s m args below meth c T locs cells slots) (hx : p.tables.exec = Jvm.exec) (hZ : Z.Warmed39 s.vm) {own C : String} {index : Nat} {y z : MethodName} {bytes : ByteArray} {maxL : Nat} {rt : Option FieldType} {rm : Room} {as' : Array Value} (hown : s.vm.findClass own = some m.cls)
    (w1 : (Jvm.Cond.methodLink own index y).before a0 Z = true) (w2 : (Jvm.Cond.declares y).before a0 Z = true) (nf : NotFace s y) (w5 : (Jvm.Cond.selects C y z).before a0 Z = true) (w6 : (Jvm.Cond.instanceMethod z).before a0 Z = true) (w3 : (Jvm.Cond.initialized z.cls).before a0 Z = true) (w4 : (Jvm.Cond.code z bytes maxL rt).before a0 Z = true)
    (hy : y.cls ≠ "java/lang/invoke/MethodHandle" ∧ y.cls ≠ "java/lang/invoke/VarHandle") (hM : OCon l z bytes maxL rt [] rm Z as' h Q) (W : Nat) (hf : rm.frames + 1 ≤ R.frames) (hl : W + (maxL + 11) + rm.locals ≤ R.locals) {b : Addr} (E : Exa Z h b C) {g : JFrame} (hg : g.method = m) (hsize : g.locals.size = c.maxLocals) {argsL rest : List Value} (hlen : ∀ sig, parseMethodDescriptor y.desc = some sig → argsL.length = sig.parameters.length)
    (hstack : g.stack = argsL.reverse ++ .ref b :: rest) (hW : 2 * g.monitorRoom + (rest.map fun v => v.category).sum ≤ W) (hd : decode c.code g.pc = .ok (.invokevirtual index, 3)) (has : (.ref b :: argsL).toArray = as') (eT : T.heap = h) (hc : cells + rm.cells ≤ R.cells) (hs : slots + rm.slots ≤ R.slots) :
    ∃ (v : Option Value) (T' : State) (L : List Loc), Stand p l e R s m args below meth c T' (locs ++ L) (cells + rm.cells) (slots + rm.slots) ∧ Q v T'.heap L ∧ Steps p.tables e below (T.setTop g) (T'.setTop { g with pc := g.pc + 3, stack := v.toList ++ rest }) := by
  obtain ⟨cq, kq, qa, qb, qc⟩ := isOf hZ eT E
  obtain ⟨v, _, ⟨T1, L1, k1, n1⟩, -, X1, ⟨Lc, hQ, l1, y1, z1⟩, st⟩ := X.virtualBack hx (y := y) (z := z) hown (mvT hZ w1) (mvT hZ w2) nf (mvT hZ w5) (mvT hZ w6) hy (backOf (W := W) hM hZ w4 w3 hf hl) qa qc (g := g) hg hsize (Steps.refl _) (argsL := argsL) (rest := rest) hlen hstack hW hd (fun _ _ => ⟨has, eT, hc, hs⟩)
  dsimp only [Pt.U, Pt.locs, Pt.cells, Pt.slots] at X1 l1 y1 z1 st hQ
  subst l1 y1 z1
  exact ⟨v, T1, Lc, X1, hQ, st⟩
end Own
end Jvm.Pilot.@@N@@
namespace Jvm.Pilot.@@N@@
open Jvm Jvm.ClassFile Sem Op Lib Jvm.Free Jvm.Stand Jvm.LawKit Jvm.RoadKit Bundle Jvm.Pilot.@@N@@.Jvm.D
def mix (x : Int64) : Int64 := x ^^^ ((x.toUInt64 >>> ((33 : Int32) &&& 0x3f).toInt64.toUInt64).toInt64)
theorem mix_mix (x : Int64) : mix (mix x) = x := by
  apply Int64.toBitVec_inj.1
  apply BitVec.eq_of_getLsbD_eq
  intro i hi
  have e : ((33 : Int32) &&& 0x3f).toInt64.toUInt64 = 33 := by decide
  unfold mix
  rw [e]
  simp only [Int64.toBitVec_xor, UInt64.toBitVec_toInt64, UInt64.toBitVec_shiftRight, Int64.toBitVec_toUInt64, BitVec.getLsbD_xor]
  simp [BitVec.getLsbD_xor]
  have q : x.toBitVec.getLsbD (33 + (33 + i)) = false := BitVec.getLsbD_of_ge _ _ (by omega)
  rw [q]
  cases x.toBitVec.getLsbD i <;> cases x.toBitVec.getLsbD (33 + i) <;> rfl
def nst (a x : Int64) : Int64 := x * ((2 : Int64) - (a * x))
def inv (a : Int64) : Int64 := nst a (nst a (nst a (nst a (nst a a))))
theorem inv1 : (-49064778989728563 : Int64) * inv (-49064778989728563 : Int64) = 1 := by decide +kernel
theorem inv2 : (-4265267296055464877 : Int64) * inv (-4265267296055464877 : Int64) = 1 := by decide +kernel
def fmx (h : Int64) : Int64 := mix (mix (mix h * (-49064778989728563 : Int64)) * (-4265267296055464877 : Int64))
def unm (k : Int64) : Int64 := mix (mix (mix k * inv (-4265267296055464877 : Int64)) * inv (-49064778989728563 : Int64))
theorem own_law (h : Int64) : unm (fmx h) = h := by
  unfold unm fmx
  rw [mix_mix, Int64.mul_assoc, inv2, Int64.mul_one, mix_mix, Int64.mul_assoc, inv1, Int64.mul_one, mix_mix]
theorem pn_com_example_sito_sito_Murmur3 : plainName "com/example/sito/sito/Murmur3" = true := by first | (simp [plainName, overriddenIn]; done) | decide +kernel
theorem d1_0 : decode prog_4_method_6_code 0 = .ok (.lload_n 0, 1) := by decide +kernel
theorem d1_1 : decode prog_4_method_6_code 1 = .ok (.lstore_n 2, 1) := by decide +kernel
theorem d1_2 : decode prog_4_method_6_code 2 = .ok (.lload_n 2, 1) := by decide +kernel
theorem d1_3 : decode prog_4_method_6_code 3 = .ok (.lload_n 2, 1) := by decide +kernel
theorem d1_4 : decode prog_4_method_6_code 4 = .ok (.bipush 33, 2) := by decide +kernel
theorem d1_6 : decode prog_4_method_6_code 6 = .ok (.lushr, 1) := by decide +kernel
theorem d1_7 : decode prog_4_method_6_code 7 = .ok (.lxor, 1) := by decide +kernel
theorem d1_8 : decode prog_4_method_6_code 8 = .ok (.lstore_n 2, 1) := by decide +kernel
theorem d1_9 : decode prog_4_method_6_code 9 = .ok (.lload_n 2, 1) := by decide +kernel
theorem d1_10 : decode prog_4_method_6_code 10 = .ok (.ldc2_w 61, 3) := by decide +kernel
theorem d1_13 : decode prog_4_method_6_code 13 = .ok (.lmul, 1) := by decide +kernel
theorem d1_14 : decode prog_4_method_6_code 14 = .ok (.lstore_n 2, 1) := by decide +kernel
theorem d1_15 : decode prog_4_method_6_code 15 = .ok (.lload_n 2, 1) := by decide +kernel
theorem d1_16 : decode prog_4_method_6_code 16 = .ok (.lload_n 2, 1) := by decide +kernel
theorem d1_17 : decode prog_4_method_6_code 17 = .ok (.bipush 33, 2) := by decide +kernel
theorem d1_19 : decode prog_4_method_6_code 19 = .ok (.lushr, 1) := by decide +kernel
theorem d1_20 : decode prog_4_method_6_code 20 = .ok (.lxor, 1) := by decide +kernel
theorem d1_21 : decode prog_4_method_6_code 21 = .ok (.lstore_n 2, 1) := by decide +kernel
theorem d1_22 : decode prog_4_method_6_code 22 = .ok (.lload_n 2, 1) := by decide +kernel
theorem d1_23 : decode prog_4_method_6_code 23 = .ok (.ldc2_w 63, 3) := by decide +kernel
theorem d1_26 : decode prog_4_method_6_code 26 = .ok (.lmul, 1) := by decide +kernel
theorem d1_27 : decode prog_4_method_6_code 27 = .ok (.lstore_n 2, 1) := by decide +kernel
theorem d1_28 : decode prog_4_method_6_code 28 = .ok (.lload_n 2, 1) := by decide +kernel
theorem d1_29 : decode prog_4_method_6_code 29 = .ok (.lload_n 2, 1) := by decide +kernel
theorem d1_30 : decode prog_4_method_6_code 30 = .ok (.bipush 33, 2) := by decide +kernel
theorem d1_32 : decode prog_4_method_6_code 32 = .ok (.lushr, 1) := by decide +kernel
theorem d1_33 : decode prog_4_method_6_code 33 = .ok (.lxor, 1) := by decide +kernel
theorem d1_34 : decode prog_4_method_6_code 34 = .ok (.lstore_n 2, 1) := by decide +kernel
theorem d1_35 : decode prog_4_method_6_code 35 = .ok (.lload_n 2, 1) := by decide +kernel
theorem d1_36 : decode prog_4_method_6_code 36 = .ok (.lreturn, 1) := by decide +kernel
def b1_rm : Room := { frames := 0, cells := 0, slots := 0, locals := 0 }
def b1_Q (Z : State) (q0 : Int64) (h0 : Heap) (n0 : Nat) (v : Option Value) (h : Heap) (L : List Loc) : Prop := (v = some (.long (fmx q0))) ∧ (Fr n0 L) ∧ (h = h0)
theorem b1_ef (m : MethodId) (q0 : Int64) : entryFrame m #[(.long q0)] 4 = mkF m 0 #[.val (.long q0), .second, .unset, .unset] [] := by first | (simp [entryFrame, mkF, argsToLocals, Value.category]; done) | rfl
set_option maxRecDepth 65536 in
set_option maxHeartbeats 40000000 in
theorem b1_c (l : Launch) (Z : State) (az : Array Value) (hw : ∀ d ∈ tables_1, d.before az Z = true) (ws : List Jvm.Cond) (q0 : Int64) (h0 : Heap) (n0 : Nat) (Z0 : n0 ≤ h0.size) :
    OCon l (⟨"com/example/sito/sito/Murmur3", "fmix64", "(J)J"⟩ : MethodName) prog_4_method_6_code 4 (some .long) ws b1_rm Z #[(.long q0)] h0 (b1_Q Z q0 h0 n0) := by
  refine ocon (plainFor_of_name pn_com_example_sito_sito_Murmur3) ?_
  intro p e s m below meth c s₁ hx hby hml hown hnm hret hlk hZ X0 eh0
  have N0 := Fr.nil n0
  have K0 := Keep.refl h0 []
  refine ogoE (b1_ef m q0) ?_
  generalize hG : (OEnd s below (b1_Q Z q0 h0 n0) b1_rm.cells b1_rm.slots) = G
  show OWay p e below G s₁ (mkF m 0 #[.val (.long q0), .second, .unset, .unset] [])
  refine ogo (fun _ z_ => XS.lloadN X0.here hx rfl (hb hby d1_0) rfl z_) ?_
  show OWay p e below G s₁ (mkF m 1 #[.val (.long q0), .second, .unset, .unset] [(.long q0)])
  refine ogo (fun _ z_ => XS.lstoreN X0.here hx rfl (hb hby d1_1) rfl (l' := #[.val (.long q0), .second, .val (.long q0), .second]) rfl z_) ?_
  show OWay p e below G s₁ (mkF m 2 #[.val (.long q0), .second, .val (.long q0), .second] [])
  refine ogo (fun _ z_ => XS.lloadN X0.here hx rfl (hb hby d1_2) rfl z_) ?_
  show OWay p e below G s₁ (mkF m 3 #[.val (.long q0), .second, .val (.long q0), .second] [(.long q0)])
  refine ogo (fun _ z_ => XS.lloadN X0.here hx rfl (hb hby d1_3) rfl z_) ?_
  show OWay p e below G s₁ (mkF m 4 #[.val (.long q0), .second, .val (.long q0), .second] [(.long q0), (.long q0)])
  refine ogo (fun _ z_ => XS.bipush X0.here hx rfl (hb hby d1_4) z_) ?_
  show OWay p e below G s₁ (mkF m 6 #[.val (.long q0), .second, .val (.long q0), .second] [(.int (33 : Int32)), (.long q0), (.long q0)])
  refine ogo (fun _ z_ => XS.lushr X0.here hx rfl (hb hby d1_6) rfl z_) ?_
  show OWay p e below G s₁ (mkF m 7 #[.val (.long q0), .second, .val (.long q0), .second] [(.long ((q0.toUInt64 >>> ((33 : Int32) &&& 0x3f).toInt64.toUInt64).toInt64)), (.long q0)])
  refine ogo (fun _ z_ => XS.lxor X0.here hx rfl (hb hby d1_7) rfl z_) ?_
  show OWay p e below G s₁ (mkF m 8 #[.val (.long q0), .second, .val (.long q0), .second] [(.long (q0 ^^^ ((q0.toUInt64 >>> ((33 : Int32) &&& 0x3f).toInt64.toUInt64).toInt64)))])
  suffices Jv2_1 : ∀ v2_1 : Int64, v2_1 = (q0 ^^^ ((q0.toUInt64 >>> ((33 : Int32) &&& 0x3f).toInt64.toUInt64).toInt64)) → OWay p e below G s₁ (mkF m 8 #[.val (.long q0), .second, .val (.long q0), .second] [(.long v2_1)]) from Jv2_1 _ rfl
  intro v2_1 hv2_1
  refine ogo (fun _ z_ => XS.lstoreN X0.here hx rfl (hb hby d1_8) rfl (l' := #[.val (.long q0), .second, .val (.long v2_1), .second]) rfl z_) ?_
  show OWay p e below G s₁ (mkF m 9 #[.val (.long q0), .second, .val (.long v2_1), .second] [])
  refine ogo (fun _ z_ => XS.lloadN X0.here hx rfl (hb hby d1_9) rfl z_) ?_
  show OWay p e below G s₁ (mkF m 10 #[.val (.long q0), .second, .val (.long v2_1), .second] [(.long v2_1)])
  refine ogo (fun _ z_ => X0.ldc2Long hx hown (mvT hZ (hw _ (List.mem_of_getElem? (i := 4) rfl))) (g := (mkF m 10 #[.val (.long q0), .second, .val (.long v2_1), .second] [(.long v2_1)])) rfl (hb hby d1_10) _ z_) ?_
  show OWay p e below G s₁ (mkF m 13 #[.val (.long q0), .second, .val (.long v2_1), .second] [(.long (-49064778989728563 : Int64)), (.long v2_1)])
  refine ogo (fun _ z_ => XS.lmul X0.here hx rfl (hb hby d1_13) rfl z_) ?_
  show OWay p e below G s₁ (mkF m 14 #[.val (.long q0), .second, .val (.long v2_1), .second] [(.long (v2_1 * (-49064778989728563 : Int64)))])
  suffices Jv2_2 : ∀ v2_2 : Int64, v2_2 = (v2_1 * (-49064778989728563 : Int64)) → OWay p e below G s₁ (mkF m 14 #[.val (.long q0), .second, .val (.long v2_1), .second] [(.long v2_2)]) from Jv2_2 _ rfl
  intro v2_2 hv2_2
  refine ogo (fun _ z_ => XS.lstoreN X0.here hx rfl (hb hby d1_14) rfl (l' := #[.val (.long q0), .second, .val (.long v2_2), .second]) rfl z_) ?_
  show OWay p e below G s₁ (mkF m 15 #[.val (.long q0), .second, .val (.long v2_2), .second] [])
  refine ogo (fun _ z_ => XS.lloadN X0.here hx rfl (hb hby d1_15) rfl z_) ?_
  show OWay p e below G s₁ (mkF m 16 #[.val (.long q0), .second, .val (.long v2_2), .second] [(.long v2_2)])
  refine ogo (fun _ z_ => XS.lloadN X0.here hx rfl (hb hby d1_16) rfl z_) ?_
  show OWay p e below G s₁ (mkF m 17 #[.val (.long q0), .second, .val (.long v2_2), .second] [(.long v2_2), (.long v2_2)])
  refine ogo (fun _ z_ => XS.bipush X0.here hx rfl (hb hby d1_17) z_) ?_
  show OWay p e below G s₁ (mkF m 19 #[.val (.long q0), .second, .val (.long v2_2), .second] [(.int (33 : Int32)), (.long v2_2), (.long v2_2)])
  refine ogo (fun _ z_ => XS.lushr X0.here hx rfl (hb hby d1_19) rfl z_) ?_
  show OWay p e below G s₁ (mkF m 20 #[.val (.long q0), .second, .val (.long v2_2), .second] [(.long ((v2_2.toUInt64 >>> ((33 : Int32) &&& 0x3f).toInt64.toUInt64).toInt64)), (.long v2_2)])
  refine ogo (fun _ z_ => XS.lxor X0.here hx rfl (hb hby d1_20) rfl z_) ?_
  show OWay p e below G s₁ (mkF m 21 #[.val (.long q0), .second, .val (.long v2_2), .second] [(.long (v2_2 ^^^ ((v2_2.toUInt64 >>> ((33 : Int32) &&& 0x3f).toInt64.toUInt64).toInt64)))])
  suffices Jv2_3 : ∀ v2_3 : Int64, v2_3 = (v2_2 ^^^ ((v2_2.toUInt64 >>> ((33 : Int32) &&& 0x3f).toInt64.toUInt64).toInt64)) → OWay p e below G s₁ (mkF m 21 #[.val (.long q0), .second, .val (.long v2_2), .second] [(.long v2_3)]) from Jv2_3 _ rfl
  intro v2_3 hv2_3
  refine ogo (fun _ z_ => XS.lstoreN X0.here hx rfl (hb hby d1_21) rfl (l' := #[.val (.long q0), .second, .val (.long v2_3), .second]) rfl z_) ?_
  show OWay p e below G s₁ (mkF m 22 #[.val (.long q0), .second, .val (.long v2_3), .second] [])
  refine ogo (fun _ z_ => XS.lloadN X0.here hx rfl (hb hby d1_22) rfl z_) ?_
  show OWay p e below G s₁ (mkF m 23 #[.val (.long q0), .second, .val (.long v2_3), .second] [(.long v2_3)])
  refine ogo (fun _ z_ => X0.ldc2Long hx hown (mvT hZ (hw _ (List.mem_of_getElem? (i := 5) rfl))) (g := (mkF m 23 #[.val (.long q0), .second, .val (.long v2_3), .second] [(.long v2_3)])) rfl (hb hby d1_23) _ z_) ?_
  show OWay p e below G s₁ (mkF m 26 #[.val (.long q0), .second, .val (.long v2_3), .second] [(.long (-4265267296055464877 : Int64)), (.long v2_3)])
  refine ogo (fun _ z_ => XS.lmul X0.here hx rfl (hb hby d1_26) rfl z_) ?_
  show OWay p e below G s₁ (mkF m 27 #[.val (.long q0), .second, .val (.long v2_3), .second] [(.long (v2_3 * (-4265267296055464877 : Int64)))])
  suffices Jv2_4 : ∀ v2_4 : Int64, v2_4 = (v2_3 * (-4265267296055464877 : Int64)) → OWay p e below G s₁ (mkF m 27 #[.val (.long q0), .second, .val (.long v2_3), .second] [(.long v2_4)]) from Jv2_4 _ rfl
  intro v2_4 hv2_4
  refine ogo (fun _ z_ => XS.lstoreN X0.here hx rfl (hb hby d1_27) rfl (l' := #[.val (.long q0), .second, .val (.long v2_4), .second]) rfl z_) ?_
  show OWay p e below G s₁ (mkF m 28 #[.val (.long q0), .second, .val (.long v2_4), .second] [])
  refine ogo (fun _ z_ => XS.lloadN X0.here hx rfl (hb hby d1_28) rfl z_) ?_
  show OWay p e below G s₁ (mkF m 29 #[.val (.long q0), .second, .val (.long v2_4), .second] [(.long v2_4)])
  refine ogo (fun _ z_ => XS.lloadN X0.here hx rfl (hb hby d1_29) rfl z_) ?_
  show OWay p e below G s₁ (mkF m 30 #[.val (.long q0), .second, .val (.long v2_4), .second] [(.long v2_4), (.long v2_4)])
  refine ogo (fun _ z_ => XS.bipush X0.here hx rfl (hb hby d1_30) z_) ?_
  show OWay p e below G s₁ (mkF m 32 #[.val (.long q0), .second, .val (.long v2_4), .second] [(.int (33 : Int32)), (.long v2_4), (.long v2_4)])
  refine ogo (fun _ z_ => XS.lushr X0.here hx rfl (hb hby d1_32) rfl z_) ?_
  show OWay p e below G s₁ (mkF m 33 #[.val (.long q0), .second, .val (.long v2_4), .second] [(.long ((v2_4.toUInt64 >>> ((33 : Int32) &&& 0x3f).toInt64.toUInt64).toInt64)), (.long v2_4)])
  refine ogo (fun _ z_ => XS.lxor X0.here hx rfl (hb hby d1_33) rfl z_) ?_
  show OWay p e below G s₁ (mkF m 34 #[.val (.long q0), .second, .val (.long v2_4), .second] [(.long (v2_4 ^^^ ((v2_4.toUInt64 >>> ((33 : Int32) &&& 0x3f).toInt64.toUInt64).toInt64)))])
  suffices Jv2_5 : ∀ v2_5 : Int64, v2_5 = (v2_4 ^^^ ((v2_4.toUInt64 >>> ((33 : Int32) &&& 0x3f).toInt64.toUInt64).toInt64)) → OWay p e below G s₁ (mkF m 34 #[.val (.long q0), .second, .val (.long v2_4), .second] [(.long v2_5)]) from Jv2_5 _ rfl
  intro v2_5 hv2_5
  refine ogo (fun _ z_ => XS.lstoreN X0.here hx rfl (hb hby d1_34) rfl (l' := #[.val (.long q0), .second, .val (.long v2_5), .second]) rfl z_) ?_
  show OWay p e below G s₁ (mkF m 35 #[.val (.long q0), .second, .val (.long v2_5), .second] [])
  refine ogo (fun _ z_ => XS.lloadN X0.here hx rfl (hb hby d1_35) rfl z_) ?_
  show OWay p e below G s₁ (mkF m 36 #[.val (.long q0), .second, .val (.long v2_5), .second] [(.long v2_5)])
  subst hG
  refine wRet X0 hx hret hlk rfl (Or.inr (Or.inl ⟨rfl, rfl, _, rfl⟩)) (hb hby d1_36) (by decide) (by decide) eh0 ?_
  subst hv2_5 hv2_4 hv2_3 hv2_2 hv2_1
  exact ⟨rfl, N0, rfl⟩
theorem pn_com_example_sito_sito_Murmur3Fmix64PinLaw : plainName "com/example/sito/sito/Murmur3Fmix64PinLaw" = true := by first | (simp [plainName, overriddenIn]; done) | decide +kernel
theorem d3_0 : decode method_3_code 0 = .ok (.lload_n 0, 1) := by decide +kernel
theorem d3_1 : decode method_3_code 1 = .ok (.lstore_n 2, 1) := by decide +kernel
theorem d3_2 : decode method_3_code 2 = .ok (.lload_n 2, 1) := by decide +kernel
theorem d3_3 : decode method_3_code 3 = .ok (.ldc2_w 18, 3) := by decide +kernel
theorem d3_6 : decode method_3_code 6 = .ok (.lload_n 0, 1) := by decide +kernel
theorem d3_7 : decode method_3_code 7 = .ok (.lload_n 2, 1) := by decide +kernel
theorem d3_8 : decode method_3_code 8 = .ok (.lmul, 1) := by decide +kernel
theorem d3_9 : decode method_3_code 9 = .ok (.lsub, 1) := by decide +kernel
theorem d3_10 : decode method_3_code 10 = .ok (.lmul, 1) := by decide +kernel
theorem d3_11 : decode method_3_code 11 = .ok (.lstore_n 2, 1) := by decide +kernel
theorem d3_12 : decode method_3_code 12 = .ok (.lload_n 2, 1) := by decide +kernel
theorem d3_13 : decode method_3_code 13 = .ok (.ldc2_w 18, 3) := by decide +kernel
theorem d3_16 : decode method_3_code 16 = .ok (.lload_n 0, 1) := by decide +kernel
theorem d3_17 : decode method_3_code 17 = .ok (.lload_n 2, 1) := by decide +kernel
theorem d3_18 : decode method_3_code 18 = .ok (.lmul, 1) := by decide +kernel
theorem d3_19 : decode method_3_code 19 = .ok (.lsub, 1) := by decide +kernel
theorem d3_20 : decode method_3_code 20 = .ok (.lmul, 1) := by decide +kernel
theorem d3_21 : decode method_3_code 21 = .ok (.lstore_n 2, 1) := by decide +kernel
theorem d3_22 : decode method_3_code 22 = .ok (.lload_n 2, 1) := by decide +kernel
theorem d3_23 : decode method_3_code 23 = .ok (.ldc2_w 18, 3) := by decide +kernel
theorem d3_26 : decode method_3_code 26 = .ok (.lload_n 0, 1) := by decide +kernel
theorem d3_27 : decode method_3_code 27 = .ok (.lload_n 2, 1) := by decide +kernel
theorem d3_28 : decode method_3_code 28 = .ok (.lmul, 1) := by decide +kernel
theorem d3_29 : decode method_3_code 29 = .ok (.lsub, 1) := by decide +kernel
theorem d3_30 : decode method_3_code 30 = .ok (.lmul, 1) := by decide +kernel
theorem d3_31 : decode method_3_code 31 = .ok (.lstore_n 2, 1) := by decide +kernel
theorem d3_32 : decode method_3_code 32 = .ok (.lload_n 2, 1) := by decide +kernel
theorem d3_33 : decode method_3_code 33 = .ok (.ldc2_w 18, 3) := by decide +kernel
theorem d3_36 : decode method_3_code 36 = .ok (.lload_n 0, 1) := by decide +kernel
theorem d3_37 : decode method_3_code 37 = .ok (.lload_n 2, 1) := by decide +kernel
theorem d3_38 : decode method_3_code 38 = .ok (.lmul, 1) := by decide +kernel
theorem d3_39 : decode method_3_code 39 = .ok (.lsub, 1) := by decide +kernel
theorem d3_40 : decode method_3_code 40 = .ok (.lmul, 1) := by decide +kernel
theorem d3_41 : decode method_3_code 41 = .ok (.lstore_n 2, 1) := by decide +kernel
theorem d3_42 : decode method_3_code 42 = .ok (.lload_n 2, 1) := by decide +kernel
theorem d3_43 : decode method_3_code 43 = .ok (.ldc2_w 18, 3) := by decide +kernel
theorem d3_46 : decode method_3_code 46 = .ok (.lload_n 0, 1) := by decide +kernel
theorem d3_47 : decode method_3_code 47 = .ok (.lload_n 2, 1) := by decide +kernel
theorem d3_48 : decode method_3_code 48 = .ok (.lmul, 1) := by decide +kernel
theorem d3_49 : decode method_3_code 49 = .ok (.lsub, 1) := by decide +kernel
theorem d3_50 : decode method_3_code 50 = .ok (.lmul, 1) := by decide +kernel
theorem d3_51 : decode method_3_code 51 = .ok (.lstore_n 2, 1) := by decide +kernel
theorem d3_52 : decode method_3_code 52 = .ok (.lload_n 2, 1) := by decide +kernel
theorem d3_53 : decode method_3_code 53 = .ok (.lreturn, 1) := by decide +kernel
def b3_rm : Room := { frames := 0, cells := 0, slots := 0, locals := 0 }
def b3_Q (Z : State) (q0 : Int64) (h0 : Heap) (n0 : Nat) (v : Option Value) (h : Heap) (L : List Loc) : Prop := (v = some (.long (inv q0))) ∧ (Fr n0 L) ∧ (h = h0)
theorem b3_ef (m : MethodId) (q0 : Int64) : entryFrame m #[(.long q0)] 4 = mkF m 0 #[.val (.long q0), .second, .unset, .unset] [] := by first | (simp [entryFrame, mkF, argsToLocals, Value.category]; done) | rfl
set_option maxRecDepth 65536 in
set_option maxHeartbeats 40000000 in
theorem b3_c (l : Launch) (Z : State) (az : Array Value) (hw : ∀ d ∈ tables_1, d.before az Z = true) (ws : List Jvm.Cond) (q0 : Int64) (h0 : Heap) (n0 : Nat) (Z0 : n0 ≤ h0.size) :
    OCon l (⟨"com/example/sito/sito/Murmur3Fmix64PinLaw", "inverse", "(J)J"⟩ : MethodName) method_3_code 4 (some .long) ws b3_rm Z #[(.long q0)] h0 (b3_Q Z q0 h0 n0) := by
  refine ocon (plainFor_of_name pn_com_example_sito_sito_Murmur3Fmix64PinLaw) ?_
  intro p e s m below meth c s₁ hx hby hml hown hnm hret hlk hZ X0 eh0
  have N0 := Fr.nil n0
  have K0 := Keep.refl h0 []
  refine ogoE (b3_ef m q0) ?_
  generalize hG : (OEnd s below (b3_Q Z q0 h0 n0) b3_rm.cells b3_rm.slots) = G
  show OWay p e below G s₁ (mkF m 0 #[.val (.long q0), .second, .unset, .unset] [])
  refine ogo (fun _ z_ => XS.lloadN X0.here hx rfl (hb hby d3_0) rfl z_) ?_
  show OWay p e below G s₁ (mkF m 1 #[.val (.long q0), .second, .unset, .unset] [(.long q0)])
  refine ogo (fun _ z_ => XS.lstoreN X0.here hx rfl (hb hby d3_1) rfl (l' := #[.val (.long q0), .second, .val (.long q0), .second]) rfl z_) ?_
  show OWay p e below G s₁ (mkF m 2 #[.val (.long q0), .second, .val (.long q0), .second] [])
  refine ogo (fun _ z_ => XS.lloadN X0.here hx rfl (hb hby d3_2) rfl z_) ?_
  show OWay p e below G s₁ (mkF m 3 #[.val (.long q0), .second, .val (.long q0), .second] [(.long q0)])
  refine ogo (fun _ z_ => X0.ldc2Long hx hown (mvT hZ (hw _ (List.mem_of_getElem? (i := 14) rfl))) (g := (mkF m 3 #[.val (.long q0), .second, .val (.long q0), .second] [(.long q0)])) rfl (hb hby d3_3) _ z_) ?_
  show OWay p e below G s₁ (mkF m 6 #[.val (.long q0), .second, .val (.long q0), .second] [(.long (2 : Int64)), (.long q0)])
  refine ogo (fun _ z_ => XS.lloadN X0.here hx rfl (hb hby d3_6) rfl z_) ?_
  show OWay p e below G s₁ (mkF m 7 #[.val (.long q0), .second, .val (.long q0), .second] [(.long q0), (.long (2 : Int64)), (.long q0)])
  refine ogo (fun _ z_ => XS.lloadN X0.here hx rfl (hb hby d3_7) rfl z_) ?_
  show OWay p e below G s₁ (mkF m 8 #[.val (.long q0), .second, .val (.long q0), .second] [(.long q0), (.long q0), (.long (2 : Int64)), (.long q0)])
  refine ogo (fun _ z_ => XS.lmul X0.here hx rfl (hb hby d3_8) rfl z_) ?_
  show OWay p e below G s₁ (mkF m 9 #[.val (.long q0), .second, .val (.long q0), .second] [(.long (q0 * q0)), (.long (2 : Int64)), (.long q0)])
  refine ogo (fun _ z_ => XS.lsub X0.here hx rfl (hb hby d3_9) rfl z_) ?_
  show OWay p e below G s₁ (mkF m 10 #[.val (.long q0), .second, .val (.long q0), .second] [(.long ((2 : Int64) - (q0 * q0))), (.long q0)])
  refine ogo (fun _ z_ => XS.lmul X0.here hx rfl (hb hby d3_10) rfl z_) ?_
  show OWay p e below G s₁ (mkF m 11 #[.val (.long q0), .second, .val (.long q0), .second] [(.long (q0 * ((2 : Int64) - (q0 * q0))))])
  suffices Jv2_1 : ∀ v2_1 : Int64, v2_1 = (q0 * ((2 : Int64) - (q0 * q0))) → OWay p e below G s₁ (mkF m 11 #[.val (.long q0), .second, .val (.long q0), .second] [(.long v2_1)]) from Jv2_1 _ rfl
  intro v2_1 hv2_1
  refine ogo (fun _ z_ => XS.lstoreN X0.here hx rfl (hb hby d3_11) rfl (l' := #[.val (.long q0), .second, .val (.long v2_1), .second]) rfl z_) ?_
  show OWay p e below G s₁ (mkF m 12 #[.val (.long q0), .second, .val (.long v2_1), .second] [])
  refine ogo (fun _ z_ => XS.lloadN X0.here hx rfl (hb hby d3_12) rfl z_) ?_
  show OWay p e below G s₁ (mkF m 13 #[.val (.long q0), .second, .val (.long v2_1), .second] [(.long v2_1)])
  refine ogo (fun _ z_ => X0.ldc2Long hx hown (mvT hZ (hw _ (List.mem_of_getElem? (i := 14) rfl))) (g := (mkF m 13 #[.val (.long q0), .second, .val (.long v2_1), .second] [(.long v2_1)])) rfl (hb hby d3_13) _ z_) ?_
  show OWay p e below G s₁ (mkF m 16 #[.val (.long q0), .second, .val (.long v2_1), .second] [(.long (2 : Int64)), (.long v2_1)])
  refine ogo (fun _ z_ => XS.lloadN X0.here hx rfl (hb hby d3_16) rfl z_) ?_
  show OWay p e below G s₁ (mkF m 17 #[.val (.long q0), .second, .val (.long v2_1), .second] [(.long q0), (.long (2 : Int64)), (.long v2_1)])
  refine ogo (fun _ z_ => XS.lloadN X0.here hx rfl (hb hby d3_17) rfl z_) ?_
  show OWay p e below G s₁ (mkF m 18 #[.val (.long q0), .second, .val (.long v2_1), .second] [(.long v2_1), (.long q0), (.long (2 : Int64)), (.long v2_1)])
  refine ogo (fun _ z_ => XS.lmul X0.here hx rfl (hb hby d3_18) rfl z_) ?_
  show OWay p e below G s₁ (mkF m 19 #[.val (.long q0), .second, .val (.long v2_1), .second] [(.long (q0 * v2_1)), (.long (2 : Int64)), (.long v2_1)])
  refine ogo (fun _ z_ => XS.lsub X0.here hx rfl (hb hby d3_19) rfl z_) ?_
  show OWay p e below G s₁ (mkF m 20 #[.val (.long q0), .second, .val (.long v2_1), .second] [(.long ((2 : Int64) - (q0 * v2_1))), (.long v2_1)])
  refine ogo (fun _ z_ => XS.lmul X0.here hx rfl (hb hby d3_20) rfl z_) ?_
  show OWay p e below G s₁ (mkF m 21 #[.val (.long q0), .second, .val (.long v2_1), .second] [(.long (v2_1 * ((2 : Int64) - (q0 * v2_1))))])
  suffices Jv2_2 : ∀ v2_2 : Int64, v2_2 = (v2_1 * ((2 : Int64) - (q0 * v2_1))) → OWay p e below G s₁ (mkF m 21 #[.val (.long q0), .second, .val (.long v2_1), .second] [(.long v2_2)]) from Jv2_2 _ rfl
  intro v2_2 hv2_2
  refine ogo (fun _ z_ => XS.lstoreN X0.here hx rfl (hb hby d3_21) rfl (l' := #[.val (.long q0), .second, .val (.long v2_2), .second]) rfl z_) ?_
  show OWay p e below G s₁ (mkF m 22 #[.val (.long q0), .second, .val (.long v2_2), .second] [])
  refine ogo (fun _ z_ => XS.lloadN X0.here hx rfl (hb hby d3_22) rfl z_) ?_
  show OWay p e below G s₁ (mkF m 23 #[.val (.long q0), .second, .val (.long v2_2), .second] [(.long v2_2)])
  refine ogo (fun _ z_ => X0.ldc2Long hx hown (mvT hZ (hw _ (List.mem_of_getElem? (i := 14) rfl))) (g := (mkF m 23 #[.val (.long q0), .second, .val (.long v2_2), .second] [(.long v2_2)])) rfl (hb hby d3_23) _ z_) ?_
  show OWay p e below G s₁ (mkF m 26 #[.val (.long q0), .second, .val (.long v2_2), .second] [(.long (2 : Int64)), (.long v2_2)])
  refine ogo (fun _ z_ => XS.lloadN X0.here hx rfl (hb hby d3_26) rfl z_) ?_
  show OWay p e below G s₁ (mkF m 27 #[.val (.long q0), .second, .val (.long v2_2), .second] [(.long q0), (.long (2 : Int64)), (.long v2_2)])
  refine ogo (fun _ z_ => XS.lloadN X0.here hx rfl (hb hby d3_27) rfl z_) ?_
  show OWay p e below G s₁ (mkF m 28 #[.val (.long q0), .second, .val (.long v2_2), .second] [(.long v2_2), (.long q0), (.long (2 : Int64)), (.long v2_2)])
  refine ogo (fun _ z_ => XS.lmul X0.here hx rfl (hb hby d3_28) rfl z_) ?_
  show OWay p e below G s₁ (mkF m 29 #[.val (.long q0), .second, .val (.long v2_2), .second] [(.long (q0 * v2_2)), (.long (2 : Int64)), (.long v2_2)])
  refine ogo (fun _ z_ => XS.lsub X0.here hx rfl (hb hby d3_29) rfl z_) ?_
  show OWay p e below G s₁ (mkF m 30 #[.val (.long q0), .second, .val (.long v2_2), .second] [(.long ((2 : Int64) - (q0 * v2_2))), (.long v2_2)])
  refine ogo (fun _ z_ => XS.lmul X0.here hx rfl (hb hby d3_30) rfl z_) ?_
  show OWay p e below G s₁ (mkF m 31 #[.val (.long q0), .second, .val (.long v2_2), .second] [(.long (v2_2 * ((2 : Int64) - (q0 * v2_2))))])
  suffices Jv2_3 : ∀ v2_3 : Int64, v2_3 = (v2_2 * ((2 : Int64) - (q0 * v2_2))) → OWay p e below G s₁ (mkF m 31 #[.val (.long q0), .second, .val (.long v2_2), .second] [(.long v2_3)]) from Jv2_3 _ rfl
  intro v2_3 hv2_3
  refine ogo (fun _ z_ => XS.lstoreN X0.here hx rfl (hb hby d3_31) rfl (l' := #[.val (.long q0), .second, .val (.long v2_3), .second]) rfl z_) ?_
  show OWay p e below G s₁ (mkF m 32 #[.val (.long q0), .second, .val (.long v2_3), .second] [])
  refine ogo (fun _ z_ => XS.lloadN X0.here hx rfl (hb hby d3_32) rfl z_) ?_
  show OWay p e below G s₁ (mkF m 33 #[.val (.long q0), .second, .val (.long v2_3), .second] [(.long v2_3)])
  refine ogo (fun _ z_ => X0.ldc2Long hx hown (mvT hZ (hw _ (List.mem_of_getElem? (i := 14) rfl))) (g := (mkF m 33 #[.val (.long q0), .second, .val (.long v2_3), .second] [(.long v2_3)])) rfl (hb hby d3_33) _ z_) ?_
  show OWay p e below G s₁ (mkF m 36 #[.val (.long q0), .second, .val (.long v2_3), .second] [(.long (2 : Int64)), (.long v2_3)])
  refine ogo (fun _ z_ => XS.lloadN X0.here hx rfl (hb hby d3_36) rfl z_) ?_
  show OWay p e below G s₁ (mkF m 37 #[.val (.long q0), .second, .val (.long v2_3), .second] [(.long q0), (.long (2 : Int64)), (.long v2_3)])
  refine ogo (fun _ z_ => XS.lloadN X0.here hx rfl (hb hby d3_37) rfl z_) ?_
  show OWay p e below G s₁ (mkF m 38 #[.val (.long q0), .second, .val (.long v2_3), .second] [(.long v2_3), (.long q0), (.long (2 : Int64)), (.long v2_3)])
  refine ogo (fun _ z_ => XS.lmul X0.here hx rfl (hb hby d3_38) rfl z_) ?_
  show OWay p e below G s₁ (mkF m 39 #[.val (.long q0), .second, .val (.long v2_3), .second] [(.long (q0 * v2_3)), (.long (2 : Int64)), (.long v2_3)])
  refine ogo (fun _ z_ => XS.lsub X0.here hx rfl (hb hby d3_39) rfl z_) ?_
  show OWay p e below G s₁ (mkF m 40 #[.val (.long q0), .second, .val (.long v2_3), .second] [(.long ((2 : Int64) - (q0 * v2_3))), (.long v2_3)])
  refine ogo (fun _ z_ => XS.lmul X0.here hx rfl (hb hby d3_40) rfl z_) ?_
  show OWay p e below G s₁ (mkF m 41 #[.val (.long q0), .second, .val (.long v2_3), .second] [(.long (v2_3 * ((2 : Int64) - (q0 * v2_3))))])
  suffices Jv2_4 : ∀ v2_4 : Int64, v2_4 = (v2_3 * ((2 : Int64) - (q0 * v2_3))) → OWay p e below G s₁ (mkF m 41 #[.val (.long q0), .second, .val (.long v2_3), .second] [(.long v2_4)]) from Jv2_4 _ rfl
  intro v2_4 hv2_4
  refine ogo (fun _ z_ => XS.lstoreN X0.here hx rfl (hb hby d3_41) rfl (l' := #[.val (.long q0), .second, .val (.long v2_4), .second]) rfl z_) ?_
  show OWay p e below G s₁ (mkF m 42 #[.val (.long q0), .second, .val (.long v2_4), .second] [])
  refine ogo (fun _ z_ => XS.lloadN X0.here hx rfl (hb hby d3_42) rfl z_) ?_
  show OWay p e below G s₁ (mkF m 43 #[.val (.long q0), .second, .val (.long v2_4), .second] [(.long v2_4)])
  refine ogo (fun _ z_ => X0.ldc2Long hx hown (mvT hZ (hw _ (List.mem_of_getElem? (i := 14) rfl))) (g := (mkF m 43 #[.val (.long q0), .second, .val (.long v2_4), .second] [(.long v2_4)])) rfl (hb hby d3_43) _ z_) ?_
  show OWay p e below G s₁ (mkF m 46 #[.val (.long q0), .second, .val (.long v2_4), .second] [(.long (2 : Int64)), (.long v2_4)])
  refine ogo (fun _ z_ => XS.lloadN X0.here hx rfl (hb hby d3_46) rfl z_) ?_
  show OWay p e below G s₁ (mkF m 47 #[.val (.long q0), .second, .val (.long v2_4), .second] [(.long q0), (.long (2 : Int64)), (.long v2_4)])
  refine ogo (fun _ z_ => XS.lloadN X0.here hx rfl (hb hby d3_47) rfl z_) ?_
  show OWay p e below G s₁ (mkF m 48 #[.val (.long q0), .second, .val (.long v2_4), .second] [(.long v2_4), (.long q0), (.long (2 : Int64)), (.long v2_4)])
  refine ogo (fun _ z_ => XS.lmul X0.here hx rfl (hb hby d3_48) rfl z_) ?_
  show OWay p e below G s₁ (mkF m 49 #[.val (.long q0), .second, .val (.long v2_4), .second] [(.long (q0 * v2_4)), (.long (2 : Int64)), (.long v2_4)])
  refine ogo (fun _ z_ => XS.lsub X0.here hx rfl (hb hby d3_49) rfl z_) ?_
  show OWay p e below G s₁ (mkF m 50 #[.val (.long q0), .second, .val (.long v2_4), .second] [(.long ((2 : Int64) - (q0 * v2_4))), (.long v2_4)])
  refine ogo (fun _ z_ => XS.lmul X0.here hx rfl (hb hby d3_50) rfl z_) ?_
  show OWay p e below G s₁ (mkF m 51 #[.val (.long q0), .second, .val (.long v2_4), .second] [(.long (v2_4 * ((2 : Int64) - (q0 * v2_4))))])
  suffices Jv2_5 : ∀ v2_5 : Int64, v2_5 = (v2_4 * ((2 : Int64) - (q0 * v2_4))) → OWay p e below G s₁ (mkF m 51 #[.val (.long q0), .second, .val (.long v2_4), .second] [(.long v2_5)]) from Jv2_5 _ rfl
  intro v2_5 hv2_5
  refine ogo (fun _ z_ => XS.lstoreN X0.here hx rfl (hb hby d3_51) rfl (l' := #[.val (.long q0), .second, .val (.long v2_5), .second]) rfl z_) ?_
  show OWay p e below G s₁ (mkF m 52 #[.val (.long q0), .second, .val (.long v2_5), .second] [])
  refine ogo (fun _ z_ => XS.lloadN X0.here hx rfl (hb hby d3_52) rfl z_) ?_
  show OWay p e below G s₁ (mkF m 53 #[.val (.long q0), .second, .val (.long v2_5), .second] [(.long v2_5)])
  subst hG
  refine wRet X0 hx hret hlk rfl (Or.inr (Or.inl ⟨rfl, rfl, _, rfl⟩)) (hb hby d3_53) (by decide) (by decide) eh0 ?_
  subst hv2_5 hv2_4 hv2_3 hv2_2 hv2_1
  exact ⟨rfl, N0, rfl⟩
theorem d2_0 : decode method_4_code 0 = .ok (.lload_n 0, 1) := by decide +kernel
theorem d2_1 : decode method_4_code 1 = .ok (.lstore_n 2, 1) := by decide +kernel
theorem d2_2 : decode method_4_code 2 = .ok (.lload_n 2, 1) := by decide +kernel
theorem d2_3 : decode method_4_code 3 = .ok (.lload_n 2, 1) := by decide +kernel
theorem d2_4 : decode method_4_code 4 = .ok (.bipush 33, 2) := by decide +kernel
theorem d2_6 : decode method_4_code 6 = .ok (.lushr, 1) := by decide +kernel
theorem d2_7 : decode method_4_code 7 = .ok (.lxor, 1) := by decide +kernel
theorem d2_8 : decode method_4_code 8 = .ok (.lstore_n 2, 1) := by decide +kernel
theorem d2_9 : decode method_4_code 9 = .ok (.lload_n 2, 1) := by decide +kernel
theorem d2_10 : decode method_4_code 10 = .ok (.ldc2_w 20, 3) := by decide +kernel
theorem d2_13 : decode method_4_code 13 = .ok (.invokestatic 22, 3) := by decide +kernel
theorem pd__J_J : parseMethodDescriptor "(J)J" = some ⟨[.long], some .long⟩ := by decide +kernel
theorem d2_16 : decode method_4_code 16 = .ok (.lmul, 1) := by decide +kernel
theorem d2_17 : decode method_4_code 17 = .ok (.lstore_n 2, 1) := by decide +kernel
theorem d2_18 : decode method_4_code 18 = .ok (.lload_n 2, 1) := by decide +kernel
theorem d2_19 : decode method_4_code 19 = .ok (.lload_n 2, 1) := by decide +kernel
theorem d2_20 : decode method_4_code 20 = .ok (.bipush 33, 2) := by decide +kernel
theorem d2_22 : decode method_4_code 22 = .ok (.lushr, 1) := by decide +kernel
theorem d2_23 : decode method_4_code 23 = .ok (.lxor, 1) := by decide +kernel
theorem d2_24 : decode method_4_code 24 = .ok (.lstore_n 2, 1) := by decide +kernel
theorem d2_25 : decode method_4_code 25 = .ok (.lload_n 2, 1) := by decide +kernel
theorem d2_26 : decode method_4_code 26 = .ok (.ldc2_w 25, 3) := by decide +kernel
theorem d2_29 : decode method_4_code 29 = .ok (.invokestatic 22, 3) := by decide +kernel
theorem d2_32 : decode method_4_code 32 = .ok (.lmul, 1) := by decide +kernel
theorem d2_33 : decode method_4_code 33 = .ok (.lstore_n 2, 1) := by decide +kernel
theorem d2_34 : decode method_4_code 34 = .ok (.lload_n 2, 1) := by decide +kernel
theorem d2_35 : decode method_4_code 35 = .ok (.lload_n 2, 1) := by decide +kernel
theorem d2_36 : decode method_4_code 36 = .ok (.bipush 33, 2) := by decide +kernel
theorem d2_38 : decode method_4_code 38 = .ok (.lushr, 1) := by decide +kernel
theorem d2_39 : decode method_4_code 39 = .ok (.lxor, 1) := by decide +kernel
theorem d2_40 : decode method_4_code 40 = .ok (.lstore_n 2, 1) := by decide +kernel
theorem d2_41 : decode method_4_code 41 = .ok (.lload_n 2, 1) := by decide +kernel
theorem d2_42 : decode method_4_code 42 = .ok (.lreturn, 1) := by decide +kernel
def b2_rm : Room := { frames := 1, cells := 0, slots := 0, locals := 17 }
def b2_Q (Z : State) (q0 : Int64) (h0 : Heap) (n0 : Nat) (v : Option Value) (h : Heap) (L : List Loc) : Prop := (v = some (.long (unm q0))) ∧ (Fr n0 L) ∧ (h = h0)
theorem b2_ef (m : MethodId) (q0 : Int64) : entryFrame m #[(.long q0)] 4 = mkF m 0 #[.val (.long q0), .second, .unset, .unset] [] := by first | (simp [entryFrame, mkF, argsToLocals, Value.category]; done) | rfl
set_option maxRecDepth 65536 in
set_option maxHeartbeats 40000000 in
theorem b2_c (l : Launch) (Z : State) (az : Array Value) (hw : ∀ d ∈ tables_1, d.before az Z = true) (ws : List Jvm.Cond) (q0 : Int64) (h0 : Heap) (n0 : Nat) (Z0 : n0 ≤ h0.size) :
    OCon l (⟨"com/example/sito/sito/Murmur3Fmix64PinLaw", "unmix", "(J)J"⟩ : MethodName) method_4_code 4 (some .long) ws b2_rm Z #[(.long q0)] h0 (b2_Q Z q0 h0 n0) := by
  refine ocon (plainFor_of_name pn_com_example_sito_sito_Murmur3Fmix64PinLaw) ?_
  intro p e s m below meth c s₁ hx hby hml hown hnm hret hlk hZ X0 eh0
  have N0 := Fr.nil n0
  have K0 := Keep.refl h0 []
  refine ogoE (b2_ef m q0) ?_
  generalize hG : (OEnd s below (b2_Q Z q0 h0 n0) b2_rm.cells b2_rm.slots) = G
  show OWay p e below G s₁ (mkF m 0 #[.val (.long q0), .second, .unset, .unset] [])
  refine ogo (fun _ z_ => XS.lloadN X0.here hx rfl (hb hby d2_0) rfl z_) ?_
  show OWay p e below G s₁ (mkF m 1 #[.val (.long q0), .second, .unset, .unset] [(.long q0)])
  refine ogo (fun _ z_ => XS.lstoreN X0.here hx rfl (hb hby d2_1) rfl (l' := #[.val (.long q0), .second, .val (.long q0), .second]) rfl z_) ?_
  show OWay p e below G s₁ (mkF m 2 #[.val (.long q0), .second, .val (.long q0), .second] [])
  refine ogo (fun _ z_ => XS.lloadN X0.here hx rfl (hb hby d2_2) rfl z_) ?_
  show OWay p e below G s₁ (mkF m 3 #[.val (.long q0), .second, .val (.long q0), .second] [(.long q0)])
  refine ogo (fun _ z_ => XS.lloadN X0.here hx rfl (hb hby d2_3) rfl z_) ?_
  show OWay p e below G s₁ (mkF m 4 #[.val (.long q0), .second, .val (.long q0), .second] [(.long q0), (.long q0)])
  refine ogo (fun _ z_ => XS.bipush X0.here hx rfl (hb hby d2_4) z_) ?_
  show OWay p e below G s₁ (mkF m 6 #[.val (.long q0), .second, .val (.long q0), .second] [(.int (33 : Int32)), (.long q0), (.long q0)])
  refine ogo (fun _ z_ => XS.lushr X0.here hx rfl (hb hby d2_6) rfl z_) ?_
  show OWay p e below G s₁ (mkF m 7 #[.val (.long q0), .second, .val (.long q0), .second] [(.long ((q0.toUInt64 >>> ((33 : Int32) &&& 0x3f).toInt64.toUInt64).toInt64)), (.long q0)])
  refine ogo (fun _ z_ => XS.lxor X0.here hx rfl (hb hby d2_7) rfl z_) ?_
  show OWay p e below G s₁ (mkF m 8 #[.val (.long q0), .second, .val (.long q0), .second] [(.long (q0 ^^^ ((q0.toUInt64 >>> ((33 : Int32) &&& 0x3f).toInt64.toUInt64).toInt64)))])
  suffices Jv2_1 : ∀ v2_1 : Int64, v2_1 = (q0 ^^^ ((q0.toUInt64 >>> ((33 : Int32) &&& 0x3f).toInt64.toUInt64).toInt64)) → OWay p e below G s₁ (mkF m 8 #[.val (.long q0), .second, .val (.long q0), .second] [(.long v2_1)]) from Jv2_1 _ rfl
  intro v2_1 hv2_1
  refine ogo (fun _ z_ => XS.lstoreN X0.here hx rfl (hb hby d2_8) rfl (l' := #[.val (.long q0), .second, .val (.long v2_1), .second]) rfl z_) ?_
  show OWay p e below G s₁ (mkF m 9 #[.val (.long q0), .second, .val (.long v2_1), .second] [])
  refine ogo (fun _ z_ => XS.lloadN X0.here hx rfl (hb hby d2_9) rfl z_) ?_
  show OWay p e below G s₁ (mkF m 10 #[.val (.long q0), .second, .val (.long v2_1), .second] [(.long v2_1)])
  refine ogo (fun _ z_ => X0.ldc2Long hx hown (mvT hZ (hw _ (List.mem_of_getElem? (i := 10) rfl))) (g := (mkF m 10 #[.val (.long q0), .second, .val (.long v2_1), .second] [(.long v2_1)])) rfl (hb hby d2_10) _ z_) ?_
  show OWay p e below G s₁ (mkF m 13 #[.val (.long q0), .second, .val (.long v2_1), .second] [(.long (-4265267296055464877 : Int64)), (.long v2_1)])
  obtain ⟨_, T2, L2, X2, hQ2, st2⟩ := wStatic X0 hx hZ (y := (⟨"com/example/sito/sito/Murmur3Fmix64PinLaw", "inverse", "(J)J"⟩ : MethodName)) hown (hw _ (List.mem_of_getElem? (i := 11) rfl)) (hw _ (List.mem_of_getElem? (i := 12) rfl)) (hw _ (List.mem_of_getElem? (i := 8) rfl)) (hw _ (List.mem_of_getElem? (i := 13) rfl)) (by decide) (b3_c l Z az hw [] (-4265267296055464877 : Int64) h0 n0 Z0) 2 (by decide) (by decide) (g := (mkF m 13 #[.val (.long q0), .second, .val (.long v2_1), .second] [(.long (-4265267296055464877 : Int64)), (.long v2_1)])) rfl (by rw [hml]; rfl) (argsL := [(.long (-4265267296055464877 : Int64))]) (rest := [(.long v2_1)]) (lenOf pd__J_J rfl) rfl (by show 2 * 0 + _ ≤ _; exact Nat.le_of_eq rfl) (hb hby d2_13) rfl eh0 (by decide) (by decide)
  obtain ⟨rfl, N2q, eq2⟩ := hQ2
  have N2 := Fr.app N0 N2q
  refine ogo st2 ?_
  show OWay p e below G T2 (mkF m 16 #[.val (.long q0), .second, .val (.long v2_1), .second] [(.long (inv (-4265267296055464877 : Int64))), (.long v2_1)])
  refine ogo (fun _ z_ => XS.lmul X2.here hx rfl (hb hby d2_16) rfl z_) ?_
  show OWay p e below G T2 (mkF m 17 #[.val (.long q0), .second, .val (.long v2_1), .second] [(.long (v2_1 * (inv (-4265267296055464877 : Int64))))])
  suffices Jv2_3 : ∀ v2_3 : Int64, v2_3 = (v2_1 * (inv (-4265267296055464877 : Int64))) → OWay p e below G T2 (mkF m 17 #[.val (.long q0), .second, .val (.long v2_1), .second] [(.long v2_3)]) from Jv2_3 _ rfl
  intro v2_3 hv2_3
  refine ogo (fun _ z_ => XS.lstoreN X2.here hx rfl (hb hby d2_17) rfl (l' := #[.val (.long q0), .second, .val (.long v2_3), .second]) rfl z_) ?_
  show OWay p e below G T2 (mkF m 18 #[.val (.long q0), .second, .val (.long v2_3), .second] [])
  refine ogo (fun _ z_ => XS.lloadN X2.here hx rfl (hb hby d2_18) rfl z_) ?_
  show OWay p e below G T2 (mkF m 19 #[.val (.long q0), .second, .val (.long v2_3), .second] [(.long v2_3)])
  refine ogo (fun _ z_ => XS.lloadN X2.here hx rfl (hb hby d2_19) rfl z_) ?_
  show OWay p e below G T2 (mkF m 20 #[.val (.long q0), .second, .val (.long v2_3), .second] [(.long v2_3), (.long v2_3)])
  refine ogo (fun _ z_ => XS.bipush X2.here hx rfl (hb hby d2_20) z_) ?_
  show OWay p e below G T2 (mkF m 22 #[.val (.long q0), .second, .val (.long v2_3), .second] [(.int (33 : Int32)), (.long v2_3), (.long v2_3)])
  refine ogo (fun _ z_ => XS.lushr X2.here hx rfl (hb hby d2_22) rfl z_) ?_
  show OWay p e below G T2 (mkF m 23 #[.val (.long q0), .second, .val (.long v2_3), .second] [(.long ((v2_3.toUInt64 >>> ((33 : Int32) &&& 0x3f).toInt64.toUInt64).toInt64)), (.long v2_3)])
  refine ogo (fun _ z_ => XS.lxor X2.here hx rfl (hb hby d2_23) rfl z_) ?_
  show OWay p e below G T2 (mkF m 24 #[.val (.long q0), .second, .val (.long v2_3), .second] [(.long (v2_3 ^^^ ((v2_3.toUInt64 >>> ((33 : Int32) &&& 0x3f).toInt64.toUInt64).toInt64)))])
  suffices Jv2_4 : ∀ v2_4 : Int64, v2_4 = (v2_3 ^^^ ((v2_3.toUInt64 >>> ((33 : Int32) &&& 0x3f).toInt64.toUInt64).toInt64)) → OWay p e below G T2 (mkF m 24 #[.val (.long q0), .second, .val (.long v2_3), .second] [(.long v2_4)]) from Jv2_4 _ rfl
  intro v2_4 hv2_4
  refine ogo (fun _ z_ => XS.lstoreN X2.here hx rfl (hb hby d2_24) rfl (l' := #[.val (.long q0), .second, .val (.long v2_4), .second]) rfl z_) ?_
  show OWay p e below G T2 (mkF m 25 #[.val (.long q0), .second, .val (.long v2_4), .second] [])
  refine ogo (fun _ z_ => XS.lloadN X2.here hx rfl (hb hby d2_25) rfl z_) ?_
  show OWay p e below G T2 (mkF m 26 #[.val (.long q0), .second, .val (.long v2_4), .second] [(.long v2_4)])
  refine ogo (fun _ z_ => X2.ldc2Long hx hown (mvT hZ (hw _ (List.mem_of_getElem? (i := 15) rfl))) (g := (mkF m 26 #[.val (.long q0), .second, .val (.long v2_4), .second] [(.long v2_4)])) rfl (hb hby d2_26) _ z_) ?_
  show OWay p e below G T2 (mkF m 29 #[.val (.long q0), .second, .val (.long v2_4), .second] [(.long (-49064778989728563 : Int64)), (.long v2_4)])
  obtain ⟨_, T5, L5, X5, hQ5, st5⟩ := wStatic X2 hx hZ (y := (⟨"com/example/sito/sito/Murmur3Fmix64PinLaw", "inverse", "(J)J"⟩ : MethodName)) hown (hw _ (List.mem_of_getElem? (i := 11) rfl)) (hw _ (List.mem_of_getElem? (i := 12) rfl)) (hw _ (List.mem_of_getElem? (i := 8) rfl)) (hw _ (List.mem_of_getElem? (i := 13) rfl)) (by decide) (b3_c l Z az hw [] (-49064778989728563 : Int64) h0 n0 Z0) 2 (by decide) (by decide) (g := (mkF m 29 #[.val (.long q0), .second, .val (.long v2_4), .second] [(.long (-49064778989728563 : Int64)), (.long v2_4)])) rfl (by rw [hml]; rfl) (argsL := [(.long (-49064778989728563 : Int64))]) (rest := [(.long v2_4)]) (lenOf pd__J_J rfl) rfl (by show 2 * 0 + _ ≤ _; exact Nat.le_of_eq rfl) (hb hby d2_29) rfl eq2 (by decide) (by decide)
  obtain ⟨rfl, N5q, eq5⟩ := hQ5
  have N5 := Fr.app N2 N5q
  refine ogo st5 ?_
  show OWay p e below G T5 (mkF m 32 #[.val (.long q0), .second, .val (.long v2_4), .second] [(.long (inv (-49064778989728563 : Int64))), (.long v2_4)])
  refine ogo (fun _ z_ => XS.lmul X5.here hx rfl (hb hby d2_32) rfl z_) ?_
  show OWay p e below G T5 (mkF m 33 #[.val (.long q0), .second, .val (.long v2_4), .second] [(.long (v2_4 * (inv (-49064778989728563 : Int64))))])
  suffices Jv2_6 : ∀ v2_6 : Int64, v2_6 = (v2_4 * (inv (-49064778989728563 : Int64))) → OWay p e below G T5 (mkF m 33 #[.val (.long q0), .second, .val (.long v2_4), .second] [(.long v2_6)]) from Jv2_6 _ rfl
  intro v2_6 hv2_6
  refine ogo (fun _ z_ => XS.lstoreN X5.here hx rfl (hb hby d2_33) rfl (l' := #[.val (.long q0), .second, .val (.long v2_6), .second]) rfl z_) ?_
  show OWay p e below G T5 (mkF m 34 #[.val (.long q0), .second, .val (.long v2_6), .second] [])
  refine ogo (fun _ z_ => XS.lloadN X5.here hx rfl (hb hby d2_34) rfl z_) ?_
  show OWay p e below G T5 (mkF m 35 #[.val (.long q0), .second, .val (.long v2_6), .second] [(.long v2_6)])
  refine ogo (fun _ z_ => XS.lloadN X5.here hx rfl (hb hby d2_35) rfl z_) ?_
  show OWay p e below G T5 (mkF m 36 #[.val (.long q0), .second, .val (.long v2_6), .second] [(.long v2_6), (.long v2_6)])
  refine ogo (fun _ z_ => XS.bipush X5.here hx rfl (hb hby d2_36) z_) ?_
  show OWay p e below G T5 (mkF m 38 #[.val (.long q0), .second, .val (.long v2_6), .second] [(.int (33 : Int32)), (.long v2_6), (.long v2_6)])
  refine ogo (fun _ z_ => XS.lushr X5.here hx rfl (hb hby d2_38) rfl z_) ?_
  show OWay p e below G T5 (mkF m 39 #[.val (.long q0), .second, .val (.long v2_6), .second] [(.long ((v2_6.toUInt64 >>> ((33 : Int32) &&& 0x3f).toInt64.toUInt64).toInt64)), (.long v2_6)])
  refine ogo (fun _ z_ => XS.lxor X5.here hx rfl (hb hby d2_39) rfl z_) ?_
  show OWay p e below G T5 (mkF m 40 #[.val (.long q0), .second, .val (.long v2_6), .second] [(.long (v2_6 ^^^ ((v2_6.toUInt64 >>> ((33 : Int32) &&& 0x3f).toInt64.toUInt64).toInt64)))])
  suffices Jv2_7 : ∀ v2_7 : Int64, v2_7 = (v2_6 ^^^ ((v2_6.toUInt64 >>> ((33 : Int32) &&& 0x3f).toInt64.toUInt64).toInt64)) → OWay p e below G T5 (mkF m 40 #[.val (.long q0), .second, .val (.long v2_6), .second] [(.long v2_7)]) from Jv2_7 _ rfl
  intro v2_7 hv2_7
  refine ogo (fun _ z_ => XS.lstoreN X5.here hx rfl (hb hby d2_40) rfl (l' := #[.val (.long q0), .second, .val (.long v2_7), .second]) rfl z_) ?_
  show OWay p e below G T5 (mkF m 41 #[.val (.long q0), .second, .val (.long v2_7), .second] [])
  refine ogo (fun _ z_ => XS.lloadN X5.here hx rfl (hb hby d2_41) rfl z_) ?_
  show OWay p e below G T5 (mkF m 42 #[.val (.long q0), .second, .val (.long v2_7), .second] [(.long v2_7)])
  subst hG
  refine wRet X5 hx hret hlk rfl (Or.inr (Or.inl ⟨rfl, rfl, _, rfl⟩)) (hb hby d2_42) (by decide) (by decide) eq5 ?_
  subst hv2_7 hv2_6 hv2_4 hv2_3 hv2_1
  exact ⟨rfl, N5, rfl⟩
def law_Q (Z : State) (q0 : Int64) (h0 : Heap) (n0 : Nat) (v : Option Value) (h : Heap) (L : List Loc) : Prop := v = some (.int 1) ∧ Fr n0 L
theorem law_ef (m : MethodId) (q0 : Int64) : entryFrame m #[(.long q0)] maxLocals = mkF m 0 #[.val (.long q0), .second, .unset, .unset] [] := by first | (simp [entryFrame, mkF, argsToLocals, Value.category, maxLocals]; done) | rfl
set_option maxRecDepth 65536 in
set_option maxHeartbeats 40000000 in
theorem law_c (l : Launch) (Z : State) (az : Array Value) (hw : ∀ d ∈ tables_1, d.before az Z = true) (ws : List Jvm.Cond) (q0 : Int64) (h0 : Heap) (n0 : Nat) (Z0 : n0 ≤ h0.size) :
    OCon l x code maxLocals ret ws room_1 Z #[(.long q0)] h0 (law_Q Z q0 h0 n0) := by
  refine ocon (plainFor_of_name pn_com_example_sito_sito_Murmur3Fmix64PinLaw) ?_
  intro p e s m below meth c s₁ hx hby hml hown hnm hret hlk hZ X0 eh0
  have N0 := Fr.nil n0
  have K0 := Keep.refl h0 []
  refine ogoE (law_ef m q0) ?_
  generalize hG : (OEnd s below (law_Q Z q0 h0 n0) room_1.cells room_1.slots) = G
  show OWay p e below G s₁ (mkF m 0 #[.val (.long q0), .second, .unset, .unset] [])
  refine ogo (fun _ z_ => XS.lloadN X0.here hx rfl (hb hby at_0) rfl z_) ?_
  show OWay p e below G s₁ (mkF m 1 #[.val (.long q0), .second, .unset, .unset] [(.long q0)])
  obtain ⟨_, T1, L1, X1, hQ1, st1⟩ := wStatic X0 hx hZ (y := (⟨"com/example/sito/sito/Murmur3", "fmix64", "(J)J"⟩ : MethodName)) hown (hw _ (List.mem_of_getElem? (i := 0) rfl)) (hw _ (List.mem_of_getElem? (i := 1) rfl)) (hw _ (List.mem_of_getElem? (i := 2) rfl)) (hw _ (List.mem_of_getElem? (i := 3) rfl)) (by decide) (b1_c l Z az hw [] q0 h0 n0 Z0) 0 (by decide) (by decide) (g := (mkF m 1 #[.val (.long q0), .second, .unset, .unset] [(.long q0)])) rfl (by rw [hml]; rfl) (argsL := [(.long q0)]) (rest := []) (lenOf pd__J_J rfl) rfl (by show 2 * 0 + _ ≤ _; exact Nat.le_of_eq rfl) (hb hby at_1) rfl eh0 (by decide) (by decide)
  obtain ⟨rfl, N1q, eq1⟩ := hQ1
  have N1 := Fr.app N0 N1q
  refine ogo st1 ?_
  show OWay p e below G T1 (mkF m 4 #[.val (.long q0), .second, .unset, .unset] [(.long (fmx q0))])
  suffices Jv2_2 : ∀ v2_2 : Int64, v2_2 = (fmx q0) → OWay p e below G T1 (mkF m 4 #[.val (.long q0), .second, .unset, .unset] [(.long v2_2)]) from Jv2_2 _ rfl
  intro v2_2 hv2_2
  refine ogo (fun _ z_ => XS.lstoreN X1.here hx rfl (hb hby at_4) rfl (l' := #[.val (.long q0), .second, .val (.long v2_2), .second]) rfl z_) ?_
  show OWay p e below G T1 (mkF m 5 #[.val (.long q0), .second, .val (.long v2_2), .second] [])
  refine ogo (fun _ z_ => XS.lloadN X1.here hx rfl (hb hby at_5) rfl z_) ?_
  show OWay p e below G T1 (mkF m 6 #[.val (.long q0), .second, .val (.long v2_2), .second] [(.long v2_2)])
  obtain ⟨_, T3, L3, X3, hQ3, st3⟩ := wStatic X1 hx hZ (y := (⟨"com/example/sito/sito/Murmur3Fmix64PinLaw", "unmix", "(J)J"⟩ : MethodName)) hown (hw _ (List.mem_of_getElem? (i := 6) rfl)) (hw _ (List.mem_of_getElem? (i := 7) rfl)) (hw _ (List.mem_of_getElem? (i := 8) rfl)) (hw _ (List.mem_of_getElem? (i := 9) rfl)) (by decide) (b2_c l Z az hw [] v2_2 h0 n0 Z0) 0 (by decide) (by decide) (g := (mkF m 6 #[.val (.long q0), .second, .val (.long v2_2), .second] [(.long v2_2)])) rfl (by rw [hml]; rfl) (argsL := [(.long v2_2)]) (rest := []) (lenOf pd__J_J rfl) rfl (by show 2 * 0 + _ ≤ _; exact Nat.le_of_eq rfl) (hb hby at_6) rfl eq1 (by decide) (by decide)
  obtain ⟨rfl, N3q, eq3⟩ := hQ3
  have N3 := Fr.app N1 N3q
  refine ogo st3 ?_
  show OWay p e below G T3 (mkF m 9 #[.val (.long q0), .second, .val (.long v2_2), .second] [(.long (unm v2_2))])
  refine ogo (fun _ z_ => XS.lloadN X3.here hx rfl (hb hby at_9) rfl z_) ?_
  show OWay p e below G T3 (mkF m 10 #[.val (.long q0), .second, .val (.long v2_2), .second] [(.long q0), (.long (unm v2_2))])
  refine ogo (fun _ z_ => XS.lcmp X3.here hx rfl (hb hby at_10) rfl z_) ?_
  show OWay p e below G T3 (mkF m 11 #[.val (.long q0), .second, .val (.long v2_2), .second] [(.int (lcmpW (unm v2_2) q0))])
  refine ogo (fun _ z_ => XS.ifNo X3.here hx rfl (hb hby at_11) rfl ((if0 _ _).trans (teq ((lw_eq _ _).mpr (by rw [hv2_2]; exact own_law _))).2) z_) ?_
  show OWay p e below G T3 (mkF m 14 #[.val (.long q0), .second, .val (.long v2_2), .second] [])
  refine ogo (fun _ z_ => XS.iconst X3.here hx rfl (hb hby at_14) z_) ?_
  show OWay p e below G T3 (mkF m 15 #[.val (.long q0), .second, .val (.long v2_2), .second] [(.int (1 : Int32))])
  refine ogo (fun _ z_ => XS.goto X3.here hx rfl (pc0 := 15) (pc' := 19) rfl (hb hby at_15) (by decide) (by decide) z_) ?_
  show OWay p e below G T3 (mkF m 19 #[.val (.long q0), .second, .val (.long v2_2), .second] [(.int (1 : Int32))])
  subst hG
  refine wRetN X3 hx (t := .boolean) hret hlk (by simp) (hb hby at_19) (by decide) (by decide) eq3 ?_
  exact ⟨rfl, N3⟩
set_option maxRecDepth 65536 in
set_option maxHeartbeats 40000000 in
theorem comes_1 {Post : Tables → Env → Array Value → State → Outcome → State → Prop} (hpost : ∀ tb e args s v u, (limb_1_1.after args s (.returned v) u = true ∧ limb_1_2.after args s (.returned v) u = true ∧ True) → FrameEnd s (.returned v) u (Jvm.fieldLocs frame_1_writes args s ++ Jvm.arrayLocs frame_1_arrays args s ++ Jvm.staticLocs frame_1_statics s) 0 0 → Post tb e args s (.returned v) u) :
    ArmFor flags0 classFile x code maxLocals ret World_1 tables_1 room_1 Calls_1 rest_1 Pre_1 Post := by
  intro l hfl _ _ p e ha hc hk s m args below hf hA hF happ hP
  obtain ⟨hcalls, hrest, hpre⟩ := hP
  obtain ⟨-, -, -, hnamed, -, -, -, hat⟩ := (Spec.applies_iff hf).mp happ
  obtain ⟨hg, hn⟩ := and_e (Cond.before_iff.mp (show (Jvm.Cond.and given_1 narrow_1).before args s = true from hpre))
  obtain ⟨g1, g2⟩ := and_e hg
  obtain ⟨w0, rfl⟩ : ∃ w0 : Value, args = #[w0] := by
    have hs : args.size = 1 := by simpa [Cond.value, given_1] using g1
    obtain ⟨L⟩ := args
    match L, hs with
    | [w0], _ => exact ⟨w0, rfl⟩
  have hw := fun d (hd : d ∈ tables_1) => atoms_spec (ws := Jvm.Cond.code x code maxLocals ret :: tables_1) hat d (List.mem_cons_of_mem _ hd)
  have hfit : Fit s := fun {y c} hc i hi => by
    obtain ⟨ha, rfl⟩ := Array.getElem?_eq_some_iff.mp hc
    have q := List.all_eq_true.mp ((Array.all_eq_true_iff_forall_mem.mp hF) _ (Array.getElem_mem ha)) i (List.mem_range.mpr hi)
    simpa [Array.getElem?_eq_getElem hi] using q
  obtain ⟨i0, ei0⟩ := isL_v g2
  obtain rfl : w0 = (.long i0) := Option.some.inj ei0
  obtain ⟨n, o, h1, h2, h3, _, L, rfl, ⟨rfl, N⟩, hq⟩ := law_c l s _ hw tables_1 i0 s.heap s.heap.size (Nat.le_refl _) p e ha hc hk s m _ below hf ((Spec.applies_iff_loose hf).mp happ).1 ⟨rfl, State.Warmed39.refl s, rfl⟩ trivial
  refine ⟨n, _, h1, h2, h3, hpost _ _ _ _ _ _ ⟨Cond.after_iff.mpr rfl, Cond.after_iff.mpr (eq_i res_at (Term.int_eval (1)) rfl), trivial⟩ ⟨hq.1, hq.2.1, (hq.2.2.sift fun y hy => Or.inr (N y hy)).mono (by decide) (by decide)⟩⟩
theorem main_1_1 : Claimed_1_1 := comes_1 fun _ _ _ _ _ _ h hF => ⟨h.1, hF⟩
theorem main_1_2 : Claimed_1_2 := comes_1 fun _ _ _ _ _ _ h hF => ⟨h.2.1, hF⟩
end Jvm.Pilot.@@N@@
namespace Jvm.Pilot.@@N@@
open Jvm Jvm.ClassFile Sem Op Lib Jvm.Free Jvm.Stand Jvm.Pilot.@@N@@.Jvm.D
/-! MADE BY PROGRAM (witnessworld.py) out of the Statement's table words and the real class files: 9 classes; the members and pool entries that the words name. The judged class is class 1, her method 1. -/
namespace start1
open Jvm.ClassFile
def u (s : String) : CpInfo := .utf8 (stringToUtf16 s)
/-- a pool by its gaps: so many unusable entries, then the entry; so many at the end -/
def gap : Nat → List CpInfo → List CpInfo
  | 0, r => r
  | n + 1, r => .unusable :: gap n r
def poolList (es : List (Nat × CpInfo)) (last : Nat) : List CpInfo := es.foldr (fun e r => gap e.1 (e.2 :: r)) (gap last [])
def pool (es : List (Nat × CpInfo)) (last : Nat) : Array CpInfo := ⟨poolList es last⟩
def fileOf (pool : Array CpInfo) (this : Nat) (attrs : Array Attribute := #[]) (ms : Array MethodInfo := #[]) (fl : Nat := 33) (sup : Nat := 0) (ifs : Array Nat := #[]) (fds : Array FieldInfo := #[]) : ClassFile where
  minorVersion := 0
  majorVersion := 65
  constantPool := pool
  accessFlags := fl
  thisClass := this
  superClass := sup
  interfaces := ifs
  fields := fds
  methods := ms
  attributes := attrs
def plain (name : String) (sup : Option ClassId) : Class where
  name := name
  kind := .ordinary
  loader := none
  accessFlags := 33
  super := sup
  interfaces := #[]
  cf := none
  fields := #[]
  methods := #[]
  instanceTypes := #[]
  staticTypes := #[]
  resolved := #[]
  callSites := []
  init := .initialized
  statics := none
  mirror := none

def pool0 : Array CpInfo := pool [(5, u "<init>"), (0, u "()V"), (1, .class_ 10), (1, u "java/lang/Object")] 113

def k0m0 : Method := { name := "<init>", desc := "()V", sig := { parameters := [], returnType := none }, accessFlags := 1, code := none }
/-- java/lang/Object -/
def k0 : Class := { plain "java/lang/Object" none with
  accessFlags := 33
  interfaces := #[]
  cf := some (fileOf pool0 8 #[] #[{ accessFlags := 1, nameIndex := 5, descriptorIndex := 6, attributes := #[] }] 33 0 #[] #[])
  fields := #[]
  methods := #[k0m0]
  instanceTypes := #[]
  staticTypes := #[]
  resolved := Array.replicate 124 none
  statics := none }

def pool1 : Array CpInfo := pool [(2, .class_ 4), (1, u "java/lang/Object"), (0, u "<init>"), (0, u "()V"), (0, .methodref 8 9), (0, .class_ 10), (0, .nameAndType 11 12), (0, u "com/example/sito/sito/Murmur3"), (0, u "fmix64"), (0, u "(J)J"), (0, .methodref 14 15), (0, .class_ 16), (0, .nameAndType 17 12), (0, u "com/example/sito/sito/Murmur3Fmix64PinLaw"), (0, u "unmix"), (0, .long 2), (1, .long 14181476777654086739), (1, .methodref 14 23), (0, .nameAndType 24 12), (0, u "inverse"), (0, .long 18397679294719823053), (3, u "law"), (0, u "(J)Z")] 3

def k1m0 : Method := { name := "<init>", desc := "()V", sig := { parameters := [], returnType := none }, accessFlags := 2, code := none }
def k1c1 : Code := { maxStack := 4, maxLocals := 4, code := code, exceptionTable := #[], attributes := #[] }
def k1m1 : Method := { name := "law", desc := "(J)Z", sig := { parameters := [.long], returnType := some .boolean }, accessFlags := 9, code := some k1c1 }
def k1c2 : Code := { maxStack := 8, maxLocals := 4, code := method_3_code, exceptionTable := #[], attributes := #[] }
def k1m2 : Method := { name := "inverse", desc := "(J)J", sig := { parameters := [.long], returnType := some .long }, accessFlags := 10, code := some k1c2 }
def k1c3 : Code := { maxStack := 5, maxLocals := 4, code := method_4_code, exceptionTable := #[], attributes := #[] }
def k1m3 : Method := { name := "unmix", desc := "(J)J", sig := { parameters := [.long], returnType := some .long }, accessFlags := 10, code := some k1c3 }
/-- com/example/sito/sito/Murmur3Fmix64PinLaw -/
def k1 : Class := { plain "com/example/sito/sito/Murmur3Fmix64PinLaw" (some 0) with
  accessFlags := 49
  interfaces := #[]
  cf := some (fileOf pool1 14 #[] #[{ accessFlags := 2, nameIndex := 5, descriptorIndex := 6, attributes := #[] }, { accessFlags := 9, nameIndex := 29, descriptorIndex := 30, attributes := #[] }, { accessFlags := 10, nameIndex := 24, descriptorIndex := 12, attributes := #[] }, { accessFlags := 10, nameIndex := 17, descriptorIndex := 12, attributes := #[] }] 49 2 #[] #[])
  fields := #[]
  methods := #[k1m0, k1m1, k1m2, k1m3]
  instanceTypes := #[]
  staticTypes := #[]
  resolved := Array.replicate 34 none
  statics := none }

def pool2 : Array CpInfo := pool [(2, .class_ 4), (1, u "java/lang/Object"), (0, u "<init>"), (0, u "()V"), (1, .class_ 10), (1, u "com/example/sito/sito/Murmur3"), (10, u "LITTLE_ENDIAN_LONG"), (0, u "Ljava/lang/invoke/VarHandle;"), (9, u "(J)J"), (23, u "fmix64"), (4, .long 18397679294719823053), (1, .long 14181476777654086739), (15, u "C1"), (0, u "J"), (1, u "C2")] 9

def k2m0 : Method := { name := "<init>", desc := "()V", sig := { parameters := [], returnType := none }, accessFlags := 2, code := none }
def k2c1 : Code := { maxStack := 5, maxLocals := 4, code := prog_4_method_6_code, exceptionTable := #[], attributes := #[] }
def k2m1 : Method := { name := "fmix64", desc := "(J)J", sig := { parameters := [.long], returnType := some .long }, accessFlags := 8, code := some k2c1 }
/-- com/example/sito/sito/Murmur3 -/
def k2 : Class := { plain "com/example/sito/sito/Murmur3" (some 0) with
  accessFlags := 32
  interfaces := #[]
  cf := some (fileOf pool2 8 #[] #[{ accessFlags := 2, nameIndex := 5, descriptorIndex := 6, attributes := #[] }, { accessFlags := 8, nameIndex := 56, descriptorIndex := 32, attributes := #[] }] 32 2 #[] #[{ accessFlags := 26, nameIndex := 79, descriptorIndex := 80, attributes := #[] }, { accessFlags := 26, nameIndex := 82, descriptorIndex := 80, attributes := #[] }, { accessFlags := 26, nameIndex := 21, descriptorIndex := 22, attributes := #[] }])
  fields := #[{ name := "C1", type := .long, accessFlags := 26, slot := 0, constantValue := 0 }, { name := "C2", type := .long, accessFlags := 26, slot := 1, constantValue := 0 }, { name := "LITTLE_ENDIAN_LONG", type := (.object "java/lang/invoke/VarHandle"), accessFlags := 26, slot := 2, constantValue := 0 }]
  methods := #[k2m0, k2m1]
  instanceTypes := #[]
  staticTypes := #[.long, .long, (.object "java/lang/invoke/VarHandle")]
  resolved := Array.replicate 92 none
  statics := none }

def pool3 : Array CpInfo := pool [(1, u "java/lang/Cloneable"), (0, .class_ 1), (0, u "java/lang/Object"), (0, .class_ 3)] 3

/-- java/lang/Cloneable -/
def k3 : Class := { plain "java/lang/Cloneable" (some 0) with
  accessFlags := 1537
  interfaces := #[]
  cf := some (fileOf pool3 2 #[] #[] 1537 4 #[] #[])
  fields := #[]
  methods := #[]
  instanceTypes := #[]
  staticTypes := #[]
  resolved := Array.replicate 8 none
  statics := none }

def pool4 : Array CpInfo := pool [(1, u "java/io/Serializable"), (0, .class_ 1), (0, u "java/lang/Object"), (0, .class_ 3)] 3

/-- java/io/Serializable -/
def k4 : Class := { plain "java/io/Serializable" (some 0) with
  accessFlags := 1537
  interfaces := #[]
  cf := some (fileOf pool4 2 #[] #[] 1537 4 #[] #[])
  fields := #[]
  methods := #[]
  instanceTypes := #[]
  staticTypes := #[]
  resolved := Array.replicate 8 none
  statics := none }

/-- the primitive byte -/
def k5 : Class := { plain "byte" none with kind := .primitive 'B', accessFlags := 0x411 }
/-- [B -/
def k6 : Class := { plain "[B" (some 0) with kind := .array 5 .byte, interfaces := #[3, 4], accessFlags := 1041 }

/-- the primitive int -/
def k7 : Class := { plain "int" none with kind := .primitive 'I', accessFlags := 0x411 }
/-- [I -/
def k8 : Class := { plain "[I" (some 0) with kind := .array 7 .int, interfaces := #[3, 4], accessFlags := 1041 }

def heap : Heap := #[]
def classes : Array Class := #[k0, k1, k2, k3, k4, k5, k6, k7, k8]
def interned : List (Array UInt16 × Addr) := []
def slotsUsed : Nat := 0
def theMethod : MethodId := ⟨1, 1⟩
def args0 : Array Value := #[.long 5]
def aboutOver (below : List Frame) : State where
  vm := { classes := classes, interned := interned.toArray }
  heap := heap
  slotsUsed := slotsUsed
  threads := #[{ frames := .invoking theMethod args0 :: below }]
def below0 : List Frame := [.native { method := ⟨0, 0⟩, args := #[] }]
def about1 : State := aboutOver below0
def p0 : Program := .bare "" "" ""
def e0 : Env := launch0.env 0 0 0
theorem w_frames : about1.frames = Frame.invoking theMethod args0 :: below0 := rfl
set_option maxRecDepth 65536 in
theorem w_args : argsFit about1.vm theMethod args0 = true := by decide +kernel
set_option maxRecDepth 65536 in
theorem w_heap : heapFits about1 = true := by decide +kernel
set_option maxRecDepth 65536 in
theorem w_runnable : about1.curStatus? = some .runnable := by decide +kernel
set_option maxRecDepth 65536 in
theorem w_alone : about1.alone = true := by decide +kernel
set_option maxRecDepth 65536 in
theorem w_named : about1.methodNamed? x = some theMethod := by decide +kernel
set_option maxRecDepth 65536 in
theorem w_hears : about1.hears theMethod below0 = true := by decide +kernel
set_option maxRecDepth 65536 in
theorem w_ripe : about1.ripe theMethod args0 below0 = true := by decide +kernel
theorem w_running : about1.status = .running := rfl
set_option maxRecDepth 65536 in
theorem w_room : about1.hasRoom e0.platform room_1 = true :=
  launch0.hasRoom_least _ room_1 (by decide +kernel) (by decide +kernel) (by decide +kernel) (by decide +kernel) (by decide +kernel) (by decide +kernel)
theorem allAtoms_all (ts : List Jvm.Cond) (a : Array Jvm.Value) (st : Jvm.State) : (allAtoms ts).before a st = ts.all (fun c => c.before a st) := by
  induction ts with
  | nil => rfl
  | cons c t ih =>
    show (Jvm.Cond.and c (allAtoms t)).before a st = _
    rw [Jvm.Cond.before_and, ih, List.all_cons]
def words1 : List Jvm.Cond := Jvm.Cond.code x code maxLocals ret :: tables_1
/-- a 'code' word, met by the world's own term for the bytes: nothing is compared byte by byte -/
theorem code_word {y : MethodName} {bytes : ByteArray} {mx : Nat} {rt : Option FieldType} {a : Array Value} {s : State} {m : MethodId} {meth : Method} {c : Code} (h1 : s.methodNamed? y = some m) (h2 : s.vm.method? m = some meth) (h3 : meth.code = some c) (h4 : c.code = bytes)
    (h5 : (c.maxLocals == mx && c.exceptionTable.isEmpty && decide (c.maxStack ≤ mostOperands) && decide (meth.sig.returnType = rt) && !meth.locks && decide (parseMethodDescriptor y.desc = some meth.sig)) = true) : (Jvm.Cond.code y bytes mx rt).before a s = true := by
  simp only [Bool.and_eq_true, beq_iff_eq, Bool.not_eq_true', decide_eq_true_eq] at h5
  obtain ⟨⟨⟨⟨⟨g1, g2⟩, g3⟩, g4⟩, g5⟩, g6⟩ := h5
  simp [Cond.before, Cond.holds, Cond.value, h1, h2, h3, h4, g1, g2, g3, g4, g5, g6]
def isCode : Jvm.Cond → Bool
  | .code _ _ _ _ => true
  | _ => false
theorem all_split {L : List Jvm.Cond} {P : Jvm.Cond → Bool} (h1 : L.all (fun c => isCode c || P c) = true) (h2 : ∀ c ∈ L.filter isCode, P c = true) : L.all P = true := by
  refine List.all_eq_true.mpr fun c hc => ?_
  have h := List.all_eq_true.mp h1 c hc
  rcases Bool.eq_false_or_eq_true (isCode c) with hi | hi
  · exact h2 c (List.mem_filter.mpr ⟨hc, hi⟩)
  · simpa [hi] using h
set_option maxRecDepth 65536 in
theorem w_c0 : (Jvm.Cond.code x code maxLocals ret).before args0 about1 = true := code_word (m := ⟨1, 1⟩) (meth := k1m1) (c := k1c1) (by decide +kernel) rfl rfl rfl (by decide +kernel)
set_option maxRecDepth 65536 in
theorem w_c1 : (Jvm.Cond.code ({ cls := "com/example/sito/sito/Murmur3", name := "fmix64", desc := "(J)J" } : Jvm.MethodName) prog_4_method_6_code (4 : Nat) (Option.some Jvm.ClassFile.FieldType.long)).before args0 about1 = true := code_word (m := ⟨2, 1⟩) (meth := k2m1) (c := k2c1) (by decide +kernel) rfl rfl rfl (by decide +kernel)
set_option maxRecDepth 65536 in
theorem w_c2 : (Jvm.Cond.code ({ cls := "com/example/sito/sito/Murmur3Fmix64PinLaw", name := "unmix", desc := "(J)J" } : Jvm.MethodName) method_4_code (4 : Nat) (Option.some Jvm.ClassFile.FieldType.long)).before args0 about1 = true := code_word (m := ⟨1, 3⟩) (meth := k1m3) (c := k1c3) (by decide +kernel) rfl rfl rfl (by decide +kernel)
set_option maxRecDepth 65536 in
theorem w_c3 : (Jvm.Cond.code ({ cls := "com/example/sito/sito/Murmur3Fmix64PinLaw", name := "inverse", desc := "(J)J" } : Jvm.MethodName) method_3_code (4 : Nat) (Option.some Jvm.ClassFile.FieldType.long)).before args0 about1 = true := code_word (m := ⟨1, 2⟩) (meth := k1m2) (c := k1c2) (by decide +kernel) rfl rfl rfl (by decide +kernel)
def codes1 : List Jvm.Cond := [Jvm.Cond.code x code maxLocals ret, Jvm.Cond.code ({ cls := "com/example/sito/sito/Murmur3", name := "fmix64", desc := "(J)J" } : Jvm.MethodName) prog_4_method_6_code (4 : Nat) (Option.some Jvm.ClassFile.FieldType.long), Jvm.Cond.code ({ cls := "com/example/sito/sito/Murmur3Fmix64PinLaw", name := "unmix", desc := "(J)J" } : Jvm.MethodName) method_4_code (4 : Nat) (Option.some Jvm.ClassFile.FieldType.long), Jvm.Cond.code ({ cls := "com/example/sito/sito/Murmur3Fmix64PinLaw", name := "inverse", desc := "(J)J" } : Jvm.MethodName) method_3_code (4 : Nat) (Option.some Jvm.ClassFile.FieldType.long)]
set_option maxRecDepth 65536 in
theorem codes_eq : words1.filter isCode = codes1 := rfl
theorem w_codes : ∀ c ∈ words1.filter isCode, c.before args0 about1 = true := by
  rw [codes_eq]
  intro c hc
  simp only [codes1, List.mem_cons, List.not_mem_nil, or_false] at hc
  rcases hc with rfl | rfl | rfl | rfl
  · exact w_c0
  · exact w_c1
  · exact w_c2
  · exact w_c3
set_option maxRecDepth 65536 in
theorem w_t1 : words1.all (fun c => isCode c || c.before args0 about1) = true := by decide +kernel
theorem w_tables : (allAtoms (Jvm.Cond.code x code maxLocals ret :: tables_1)).before args0 about1 = true := by
  rw [allAtoms_all]
  show words1.all (fun c => c.before args0 about1) = true
  refine all_split ?_ w_codes
  rw [w_t1]
set_option maxRecDepth 65536 in
theorem w_case : (Jvm.Cond.and given_1 narrow_1).before args0 about1 = true := by decide +kernel
theorem w_applies : (headSpec (Jvm.Cond.code x code maxLocals ret :: tables_1) room_1).applies x e0.platform about1 = true :=
  (Spec.applies_iff w_frames).mpr ⟨w_running, w_runnable, w_alone, w_named, w_hears, w_ripe, w_room, w_tables⟩
theorem atStart : AtStart classFile x code maxLocals ret World_1 tables_1 room_1 Calls_1 rest_1 Pre_1 launch0 p0 e0 about1 theMethod args0 below0 :=
  ⟨lists_1, trivial, launch0.admits_env _ _ _, launch0.least_env, fairChoices_fair.cas, fairChoices_fair.clock, w_frames, w_args, w_heap, w_applies, trivial, trivial, w_case⟩
end start1
theorem witness_1 : WitnessClaimed_1 := ⟨start1.p0, start1.e0, start1.about1, start1.theMethod, start1.args0, start1.below0, start1.atStart⟩
end Jvm.Pilot.@@N@@
