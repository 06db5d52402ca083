import JvmDerived
import JvmDerived.Pilot.@@N@@Statement
import JvmDerived.Pilot.@@N@@Code
set_option linter.unusedVariables false
set_option linter.unusedSimpArgs false
namespace Jvm.Pilot.@@N@@
open Jvm Jvm.ClassFile Sem Op Lib Jvm.Free Jvm.Stand Jvm.LawKit Jvm.RoadKit Bundle Jvm.Pilot.@@N@@.Jvm.D
/-- from here the run comes to a state of which G holds -/
def OWay (p : Program) (e : Env) (below : List Frame) (G : State → Prop) (T : State) (g : JFrame) : Prop := ∃ t, Steps p.tables e below (T.setTop g) t ∧ G t
/-- how a body ends: it returned, with what Q says of its value, the heap and the places written -/
def OEnd (s : State) (below : List Frame) (Q : Option Value → Heap → List Loc → Prop) (cs sl : Nat) (t : State) : Prop := ∃ o, t.status = .running ∧ Ended t below o ∧ ∃ v L, o = .returned v ∧ Q v t.heap L ∧ FrameEnd s o t L cs sl
/-- a body's contract, as a call wants it -/
def OCon (l : Launch) (y : MethodName) (bytes : ByteArray) (maxL : Nat) (rt : Option FieldType) (ws : List Jvm.Cond) (rm : Room) (Z : State) (as' : Array Value) (h : Heap) (Q : Option Value → Heap → List Loc → Prop) : Prop :=
  MetFree l y (head1 (Jvm.Cond.code y bytes maxL rt :: ws) rm) (fun a U => a = as' ∧ Z.Warmed39 U.vm ∧ U.heap = h) (fun _ _ _ _ _ => True) (fun _ U o U' => ∃ v L, o = .returned v ∧ Q v U'.heap L ∧ FrameEnd U o U' L rm.cells rm.slots)
section Own
variable {p : Program} {l : Launch} {e : Env} {R : Room} {s : State} {m : MethodId} {args : Array Value} {below : List Frame} {meth : Method} {c : Code} {T T' : State} {locs : List Loc} {cells slots : Nat} {Z : State} {a0 : Array Value} {h : Heap} {G : State → Prop} {g g' : JFrame} {Q : Option Value → Heap → List Loc → Prop} {cs sl : Nat}
theorem ogo (q : ∀ t, Steps p.tables e below (T'.setTop g') t → Steps p.tables e below (T.setTop g) t) (w : OWay p e below G T' g') : OWay p e below G T g := by
  obtain ⟨t, h1, h2⟩ := w
  exact ⟨t, q t h1, h2⟩
theorem ogoS (q : Steps p.tables e below (T.setTop g) (T'.setTop g')) (w : OWay p e below G T' g') : OWay p e below G T g := ogo (fun _ k => q.trans k) w
theorem ogoE (q : g = g') (w : OWay p e below G T g') : OWay p e below G T g := q ▸ w
theorem ocon {y : MethodName} {bytes : ByteArray} {maxL : Nat} {rt : Option FieldType} {ws : List Jvm.Cond} {rm : Room} {as' : Array Value} (hp : plainFor y = true)
    (body : ∀ (p : Program) (e : Env) (s : State) (m : MethodId) (below : List Frame) (meth : Method) (c : Code) (s₁ : State), p.tables.exec = Jvm.exec → c.code = bytes → c.maxLocals = maxL → s.vm.findClass y.cls = some m.cls → meth.name = y.name → meth.sig.returnType = rt → meth.locks = false → Z.Warmed39 s.vm →
      Stand p l e rm s m as' below meth c s₁ [] 0 0 → s₁.heap = h → OWay p e below (OEnd s below Q rm.cells rm.slots) s₁ (entryFrame m as' maxL)) : OCon l y bytes maxL rt ws rm Z as' h Q := by
  refine MetFree.of_bodySF hp hisR ?_
  intro p e s m args below meth c s₁ Bd hml0 hP hK
  obtain ⟨rfl, hZ, hh⟩ := hP
  obtain ⟨t, h1, o, h2, h3, h4⟩ := body p e s m below meth c s₁ Bd.exec Bd.bytes hml0 (findClass_of_methodNamed Bd.named) (name_of_methodNamed Bd.named Bd.method).1 Bd.returns Bd.notSynchronized hZ (Stand.of_body Bd) (by rw [← hh, Bd.state]; rfl)
  exact ⟨t, o, h1, h2, h3, h4⟩
theorem wRetN (X : Stand p l e R s m args below meth c T locs cells slots) (hx : p.tables.exec = Jvm.exec) {pc : Nat} {Ls : Array Slot} {z : Int32} {t : FieldType} {rest : List Value} (hret : meth.sig.returnType = some t) (hlk : meth.locks = false) (ht : t = .boolean ∨ t = .byte ∨ t = .char ∨ t = .short)
    (hd : decode c.code pc = .ok (.ireturn, 1)) (hc : cells ≤ cs) (hs : slots ≤ sl) (eT : T.heap = h) (hq : Q (some (.int (nar t z))) h locs) : OWay p e below (OEnd s below Q cs sl) T (mkF m pc Ls (.int z :: rest)) := by
  obtain ⟨fs, hr, hrun, hended, hW, hsame⟩ := X.leave (v := some (.int (nar t z))) (fun q => by rw [hret] at q; cases q) hlk
  exact ⟨_, retN X hx hret ht hd hr, _, hrun, hended, _, _, rfl, by subst eT; exact hq, ⟨_, rfl⟩, hW, hsame.mono hc hs⟩
theorem wRet (X : Stand p l e R s m args below meth c T locs cells slots) (hx : p.tables.exec = Jvm.exec) {pc : Nat} {Ls : Array Slot} {w : Value} {t : FieldType} {i : Instr} {rest : List Value} (hret : meth.sig.returnType = some t) (hlk : meth.locks = false) (hn : narrow t w = w)
    (hi : (i = .ireturn ∧ (t = .int ∨ t = .boolean ∨ t = .byte ∨ t = .char ∨ t = .short) ∧ ∃ z, w = .int z) ∨ (i = .lreturn ∧ t = .long ∧ ∃ z, w = .long z) ∨ (i = .dreturn ∧ t = .double ∧ ∃ z, w = .double z) ∨ (i = .freturn ∧ t = .float ∧ ∃ z, w = .float z) ∨ (i = .areturn ∧ t.isReference = true ∧ w.isRef = true))
    (hd : decode c.code pc = .ok (i, 1)) (hc : cells ≤ cs) (hs : slots ≤ sl) (eT : T.heap = h) (hq : Q (some w) h locs) : OWay p e below (OEnd s below Q cs sl) T (mkF m pc Ls (w :: rest)) := by
  obtain ⟨fs, hr, hrun, hended, hW, hsame⟩ := X.leave (v := some w) (fun q => by rw [hret] at q; cases q) hlk
  exact ⟨_, retOut X hx hret hn hi hd hr, _, hrun, hended, _, _, rfl, by subst eT; exact hq, ⟨_, rfl⟩, hW, hsame.mono hc hs⟩
theorem wRetV (X : Stand p l e R s m args below meth c T locs cells slots) (hx : p.tables.exec = Jvm.exec) {pc : Nat} {Ls : Array Slot} (hret : meth.sig.returnType = none) (hlk : meth.locks = false)
    (hd : decode c.code pc = .ok (.return_, 1)) (hc : cells ≤ cs) (hs : slots ≤ sl) (eT : T.heap = h) (hq : Q none h locs) : OWay p e below (OEnd s below Q cs sl) T (mkF m pc Ls []) := by
  obtain ⟨fs, hr, hrun, hended, hW, hsame⟩ := X.leave (v := none) (fun _ => rfl) hlk
  exact ⟨_, X.returnOut hx hret hd hr, _, hrun, hended, _, _, rfl, by subst eT; exact hq, ⟨_, rfl⟩, hW, hsame.mono hc hs⟩
theorem wStatic (X : Stand p l e R s m args below meth c T locs cells slots) (hx : p.tables.exec = Jvm.exec) (hZ : Z.Warmed39 s.vm) {own : String} {index : Nat} {y : MethodName} {bytes : ByteArray} {maxL : Nat} {rt : Option FieldType} {rm : Room} {as' : Array Value} (hown : s.vm.findClass own = some m.cls)
    (w1 : (Jvm.Cond.methodLink own index y).before a0 Z = true) (w2 : (Jvm.Cond.static y).before a0 Z = true) (w3 : (Jvm.Cond.initialized y.cls).before a0 Z = true) (w4 : (Jvm.Cond.code y bytes maxL rt).before a0 Z = true) (hy : y.cls ≠ "java/lang/invoke/MethodHandle" ∧ y.cls ≠ "java/lang/invoke/VarHandle")
    (hM : OCon l y bytes maxL rt [] rm Z as' h Q) (W : Nat) (hf : rm.frames + 1 ≤ R.frames) (hl : W + (maxL + 11) + rm.locals ≤ R.locals) {g : JFrame} (hg : g.method = m) (hsize : g.locals.size = c.maxLocals) {argsL rest : List Value} (hlen : ∀ sig, parseMethodDescriptor y.desc = some sig → argsL.length = sig.parameters.length)
    (hstack : g.stack = argsL.reverse ++ rest) (hW : 2 * g.monitorRoom + (rest.map fun v => v.category).sum ≤ W) (hd : decode c.code g.pc = .ok (.invokestatic index, 3)) (has : argsL.toArray = as') (eT : T.heap = h) (hc : cells + rm.cells ≤ R.cells) (hs : slots + rm.slots ≤ R.slots) :
    ∃ (v : Option Value) (T' : State) (L : List Loc), Stand p l e R s m args below meth c T' (locs ++ L) (cells + rm.cells) (slots + rm.slots) ∧ Q v T'.heap L ∧ ∀ target, Steps p.tables e below (T'.setTop { g with pc := g.pc + 3, stack := v.toList ++ rest }) target → Steps p.tables e below (T.setTop g) target := by
  obtain ⟨v, _, ⟨T1, L1, k1, n1⟩, -, X1, ⟨Lc, hQ, l1, y1, z1⟩, st⟩ := Jvm.LawKit.callS X hx (y := y) hown (mvT hZ w1) (mvT hZ w2) (mvT hZ w3) (mvT hZ w4) hy (backOf (W := W) hM hZ w4 w3 hf hl) (g := g) hg hsize (argsL := argsL) (rest := rest) hlen hstack hW hd (fun _ _ => ⟨has, eT, hc, hs⟩)
  dsimp only [Pt.U, Pt.locs, Pt.cells, Pt.slots] at X1 l1 y1 z1 st hQ
  subst l1 y1 z1
  exact ⟨v, T1, Lc, X1, hQ, st⟩
theorem wInit (X : Stand p l e R s m args below meth c T locs cells slots) (hx : p.tables.exec = Jvm.exec) (hZ : Z.Warmed39 s.vm) {own : String} {index : Nat} {y : MethodName} {bytes : ByteArray} {maxL : Nat} {rm : Room} {as' : Array Value} (hy1 : y.name = "<init>") (hown : s.vm.findClass own = some m.cls)
    (w1 : (Jvm.Cond.methodLink own index y).before a0 Z = true) (w2 : (Jvm.Cond.instanceMethod y).before a0 Z = true) (w3 : (Jvm.Cond.initialized y.cls).before a0 Z = true) (w4 : (Jvm.Cond.code y bytes maxL none).before a0 Z = true) (hy : y.cls ≠ "java/lang/invoke/MethodHandle" ∧ y.cls ≠ "java/lang/invoke/VarHandle")
    (hM : OCon l y bytes maxL none [] rm Z as' h Q) (W : Nat) (hf : rm.frames + 1 ≤ R.frames) (hl : W + (maxL + 11) + rm.locals ≤ R.locals) {g : JFrame} (hg : g.method = m) (hsize : g.locals.size = c.maxLocals) {a : Addr} {argsL rest : List Value} (hlen : ∀ sig, parseMethodDescriptor y.desc = some sig → argsL.length = sig.parameters.length)
    (hstack : g.stack = argsL.reverse ++ .ref a :: rest) (hW : 2 * g.monitorRoom + (rest.map fun v => v.category).sum ≤ W) (hd : decode c.code g.pc = .ok (.invokespecial index, 3)) (has : (.ref a :: argsL).toArray = as') (eT : T.heap = h) (hc : cells + rm.cells ≤ R.cells) (hs : slots + rm.slots ≤ R.slots) :
    ∃ (v : Option Value) (T' : State) (L : List Loc), Stand p l e R s m args below meth c T' (locs ++ L) (cells + rm.cells) (slots + rm.slots) ∧ Q v T'.heap L ∧ Steps p.tables e below (T.setTop g) (T'.setTop { g with pc := g.pc + 3, stack := v.toList ++ rest }) := by
  obtain ⟨v, _, ⟨T1, L1, k1, n1⟩, -, X1, ⟨Lc, hQ, l1, y1, z1⟩, st⟩ := X.specialBack hx (y := y) hy1 hown (mvT hZ w1) (mvT hZ w2) (mvT hZ w4) hy (backOf (W := W) hM hZ w4 w3 hf hl) (g := g) hg hsize (Steps.refl _) (a := a) (argsL := argsL) (rest := rest) hlen hstack hW hd (fun _ _ => ⟨has, eT, hc, hs⟩)
  dsimp only [Pt.U, Pt.locs, Pt.cells, Pt.slots] at X1 l1 y1 z1 st hQ
  subst l1 y1 z1
  exact ⟨v, T1, Lc, X1, hQ, st⟩
theorem wVirtual (X : Stand p l e R s m args below meth c T locs cells slots) (hx : p.tables.exec = Jvm.exec) (hZ : Z.Warmed39 s.vm) {own C : String} {index : Nat} {y z : MethodName} {bytes : ByteArray} {maxL : Nat} {rt : Option FieldType} {rm : Room} {as' : Array Value} (hown : s.vm.findClass own = some m.cls)
    (w1 : (Jvm.Cond.methodLink own index y).before a0 Z = true) (w2 : (Jvm.Cond.declares y).before a0 Z = true) (nf : NotFace s y) (w5 : (Jvm.Cond.selects C y z).before a0 Z = true) (w6 : (Jvm.Cond.instanceMethod z).before a0 Z = true) (w3 : (Jvm.Cond.initialized z.cls).before a0 Z = true) (w4 : (Jvm.Cond.code z bytes maxL rt).before a0 Z = true)
    (hy : y.cls ≠ "java/lang/invoke/MethodHandle" ∧ y.cls ≠ "java/lang/invoke/VarHandle") (hM : OCon l z bytes maxL rt [] rm Z as' h Q) (W : Nat) (hf : rm.frames + 1 ≤ R.frames) (hl : W + (maxL + 11) + rm.locals ≤ R.locals) {b : Addr} (E : Exa Z h b C) {g : JFrame} (hg : g.method = m) (hsize : g.locals.size = c.maxLocals) {argsL rest : List Value} (hlen : ∀ sig, parseMethodDescriptor y.desc = some sig → argsL.length = sig.parameters.length)
    (hstack : g.stack = argsL.reverse ++ .ref b :: rest) (hW : 2 * g.monitorRoom + (rest.map fun v => v.category).sum ≤ W) (hd : decode c.code g.pc = .ok (.invokevirtual index, 3)) (has : (.ref b :: argsL).toArray = as') (eT : T.heap = h) (hc : cells + rm.cells ≤ R.cells) (hs : slots + rm.slots ≤ R.slots) :
    ∃ (v : Option Value) (T' : State) (L : List Loc), Stand p l e R s m args below meth c T' (locs ++ L) (cells + rm.cells) (slots + rm.slots) ∧ Q v T'.heap L ∧ Steps p.tables e below (T.setTop g) (T'.setTop { g with pc := g.pc + 3, stack := v.toList ++ rest }) := by
  obtain ⟨cq, kq, qa, qb, qc⟩ := isOf hZ eT E
  obtain ⟨v, _, ⟨T1, L1, k1, n1⟩, -, X1, ⟨Lc, hQ, l1, y1, z1⟩, st⟩ := X.virtualBack hx (y := y) (z := z) hown (mvT hZ w1) (mvT hZ w2) nf (mvT hZ w5) (mvT hZ w6) hy (backOf (W := W) hM hZ w4 w3 hf hl) qa qc (g := g) hg hsize (Steps.refl _) (argsL := argsL) (rest := rest) hlen hstack hW hd (fun _ _ => ⟨has, eT, hc, hs⟩)
  dsimp only [Pt.U, Pt.locs, Pt.cells, Pt.slots] at X1 l1 y1 z1 st hQ
  subst l1 y1 z1
  exact ⟨v, T1, Lc, X1, hQ, st⟩
end Own
end Jvm.Pilot.@@N@@
namespace Jvm.Pilot.@@N@@
open Jvm Jvm.ClassFile Sem Op Lib Jvm.Free Jvm.Stand Jvm.LawKit Jvm.RoadKit Bundle Jvm.Pilot.@@N@@.Jvm.D
def isL (c : Int32) : Int32 := if (65 ≤ c.toInt ∧ c.toInt ≤ 90) ∨ (97 ≤ c.toInt ∧ c.toInt ≤ 122) then 1 else 0
theorem own_fin : ∀ n : Fin 128, ((97 ≤ ((Int32.ofNat n.1) ||| 32).toInt ∧ ((Int32.ofNat n.1) ||| 32).toInt ≤ 122) ↔ ((65 ≤ (Int32.ofNat n.1).toInt ∧ (Int32.ofNat n.1).toInt ≤ 90) ∨ (97 ≤ (Int32.ofNat n.1).toInt ∧ (Int32.ofNat n.1).toInt ≤ 122))) := by decide +kernel
theorem own_back (c : Int32) (h : 0 ≤ c.toInt) : c = Int32.ofNat c.toInt.toNat := by
  have q : Int32.ofInt c.toInt = c := Int32.ofInt_toInt c
  conv => lhs; rw [← q]
  have e : c.toInt = (c.toInt.toNat : Int) := by omega
  conv => lhs; rw [e]
  exact Int32.ofInt_eq_ofNat
theorem own_law (c : Int32) (h : 0 ≤ c.toInt) : (97 ≤ (c ||| 32).toInt ∧ (c ||| 32).toInt ≤ 122) ↔ ((65 ≤ c.toInt ∧ c.toInt ≤ 90) ∨ (97 ≤ c.toInt ∧ c.toInt ≤ 122)) := by
  by_cases q : c.toInt < 128
  · have e := own_back c h
    have f := own_fin ⟨c.toInt.toNat, by omega⟩
    rw [← e] at f
    exact f
  · have f := c_or0 c 32 h (by decide)
    omega
theorem own_law2 (c : Int32) (h : 0 ≤ c.toInt) : isL c = (if (c ||| 32) < 97 then 0 else if 122 < (c ||| 32) then 0 else 1) := by
  have f := own_law c h
  have e97 : (97 : Int32).toInt = 97 := rfl
  have e122 : (122 : Int32).toInt = 122 := rfl
  unfold isL
  simp only [Int32.lt_iff_toInt_lt, e97, e122]
  by_cases q : (65 ≤ c.toInt ∧ c.toInt ≤ 90) ∨ (97 ≤ c.toInt ∧ c.toInt ≤ 122)
  · have g := f.mpr q
    rw [if_pos q, if_neg (by omega), if_neg (by omega)]
  · rw [if_neg q]
    by_cases a : (c ||| 32).toInt < 97
    · rw [if_pos a]
    · by_cases b : 122 < (c ||| 32).toInt
      · rw [if_neg a, if_pos b]
      · exact absurd (f.mp ⟨by omega, by omega⟩) q
theorem pn_com_example_install_warden_installwarden_decision_Ascii : plainName "com/example/install_warden/installwarden/decision/Ascii" = true := by first | (simp [plainName, overriddenIn]; done) | decide +kernel
theorem d1_0 : decode prog_29_method_2_code 0 = .ok (.iload_n 0, 1) := by decide +kernel
theorem d1_1 : decode prog_29_method_2_code 1 = .ok (.bipush 65, 2) := by decide +kernel
theorem d1_3 : decode prog_29_method_2_code 3 = .ok (.if_icmp .lt 9, 3) := by decide +kernel
theorem d1_12 : decode prog_29_method_2_code 12 = .ok (.iload_n 0, 1) := by decide +kernel
theorem d1_13 : decode prog_29_method_2_code 13 = .ok (.bipush 97, 2) := by decide +kernel
theorem d1_15 : decode prog_29_method_2_code 15 = .ok (.if_icmp .lt 13, 3) := by decide +kernel
theorem d1_28 : decode prog_29_method_2_code 28 = .ok (.iconst 0, 1) := by decide +kernel
theorem d1_29 : decode prog_29_method_2_code 29 = .ok (.ireturn, 1) := by decide +kernel
theorem d1_18 : decode prog_29_method_2_code 18 = .ok (.iload_n 0, 1) := by decide +kernel
theorem d1_19 : decode prog_29_method_2_code 19 = .ok (.bipush 122, 2) := by decide +kernel
theorem d1_21 : decode prog_29_method_2_code 21 = .ok (.if_icmp .gt 7, 3) := by decide +kernel
theorem d1_24 : decode prog_29_method_2_code 24 = .ok (.iconst 1, 1) := by decide +kernel
theorem d1_25 : decode prog_29_method_2_code 25 = .ok (.goto 4, 3) := by decide +kernel
theorem d1_6 : decode prog_29_method_2_code 6 = .ok (.iload_n 0, 1) := by decide +kernel
theorem d1_7 : decode prog_29_method_2_code 7 = .ok (.bipush 90, 2) := by decide +kernel
theorem d1_9 : decode prog_29_method_2_code 9 = .ok (.if_icmp .le 15, 3) := by decide +kernel
def b1_rm : Room := { frames := 0, cells := 0, slots := 0, locals := 0 }
def b1_Q (Z : State) (p0 : Int32) (h0 : Heap) (n0 : Nat) (v : Option Value) (h : Heap) (L : List Loc) : Prop := (v = some (.int (isL p0))) ∧ (Fr n0 L) ∧ (h = h0)
theorem b1_ef (m : MethodId) (p0 : Int32) : entryFrame m #[(.int p0)] 1 = mkF m 0 #[.val (.int p0)] [] := by first | (simp [entryFrame, mkF, argsToLocals, Value.category]; done) | rfl
set_option maxRecDepth 65536 in
set_option maxHeartbeats 40000000 in
theorem b1_c (l : Launch) (Z : State) (az : Array Value) (hw : ∀ d ∈ tables_1, d.before az Z = true) (ws : List Jvm.Cond) (p0 : Int32) (h0 : Heap) (n0 : Nat) (Z0 : n0 ≤ h0.size) :
    OCon l (⟨"com/example/install_warden/installwarden/decision/Ascii", "isLetter", "(C)Z"⟩ : MethodName) prog_29_method_2_code 1 (some .boolean) ws b1_rm Z #[(.int p0)] h0 (b1_Q Z p0 h0 n0) := by
  refine ocon (plainFor_of_name pn_com_example_install_warden_installwarden_decision_Ascii) ?_
  intro p e s m below meth c s₁ hx hby hml hown hnm hret hlk hZ X0 eh0
  have N0 := Fr.nil n0
  have K0 := Keep.refl h0 []
  refine ogoE (b1_ef m p0) ?_
  generalize hG : (OEnd s below (b1_Q Z p0 h0 n0) b1_rm.cells b1_rm.slots) = G
  show OWay p e below G s₁ (mkF m 0 #[.val (.int p0)] [])
  refine ogo (fun _ z_ => XS.iloadN X0.here hx rfl (hb hby d1_0) rfl z_) ?_
  show OWay p e below G s₁ (mkF m 1 #[.val (.int p0)] [(.int p0)])
  refine ogo (fun _ z_ => XS.bipush X0.here hx rfl (hb hby d1_1) z_) ?_
  show OWay p e below G s₁ (mkF m 3 #[.val (.int p0)] [(.int (65 : Int32)), (.int p0)])
  by_cases c3 : p0 < (65 : Int32)
  · refine ogo (fun _ z_ => XS.icmpYes X0.here hx rfl (pc0 := 3) (pc' := 12) rfl (hb hby d1_3) rfl (tlt c3).1 (by decide) (by decide) z_) ?_
    show OWay p e below G s₁ (mkF m 12 #[.val (.int p0)] [])
    refine ogo (fun _ z_ => XS.iloadN X0.here hx rfl (hb hby d1_12) rfl z_) ?_
    show OWay p e below G s₁ (mkF m 13 #[.val (.int p0)] [(.int p0)])
    refine ogo (fun _ z_ => XS.bipush X0.here hx rfl (hb hby d1_13) z_) ?_
    show OWay p e below G s₁ (mkF m 15 #[.val (.int p0)] [(.int (97 : Int32)), (.int p0)])
    by_cases c15 : p0 < (97 : Int32)
    · refine ogo (fun _ z_ => XS.icmpYes X0.here hx rfl (pc0 := 15) (pc' := 28) rfl (hb hby d1_15) rfl (tlt c15).1 (by decide) (by decide) z_) ?_
      show OWay p e below G s₁ (mkF m 28 #[.val (.int p0)] [])
      refine ogo (fun _ z_ => XS.iconst X0.here hx rfl (hb hby d1_28) z_) ?_
      show OWay p e below G s₁ (mkF m 29 #[.val (.int p0)] [(.int (0 : Int32))])
      subst hG
      refine wRetN X0 hx (t := .boolean) hret hlk (by simp) (hb hby d1_29) (by decide) (by decide) eh0 ?_
      refine ⟨congrArg (fun z => some (Value.int z)) ?_, N0, rfl⟩
      simp [Int32.lt_iff_toInt_lt] at c3 c15
      unfold isL
      rw [if_neg (by omega)]
      rfl
    · refine ogo (fun _ z_ => XS.icmpNo X0.here hx rfl (hb hby d1_15) rfl (flt c15).1 z_) ?_
      show OWay p e below G s₁ (mkF m 18 #[.val (.int p0)] [])
      refine ogo (fun _ z_ => XS.iloadN X0.here hx rfl (hb hby d1_18) rfl z_) ?_
      show OWay p e below G s₁ (mkF m 19 #[.val (.int p0)] [(.int p0)])
      refine ogo (fun _ z_ => XS.bipush X0.here hx rfl (hb hby d1_19) z_) ?_
      show OWay p e below G s₁ (mkF m 21 #[.val (.int p0)] [(.int (122 : Int32)), (.int p0)])
      by_cases c21 : (122 : Int32) < p0
      · refine ogo (fun _ z_ => XS.icmpYes X0.here hx rfl (pc0 := 21) (pc' := 28) rfl (hb hby d1_21) rfl (tlt c21).2.2.1 (by decide) (by decide) z_) ?_
        show OWay p e below G s₁ (mkF m 28 #[.val (.int p0)] [])
        refine ogo (fun _ z_ => XS.iconst X0.here hx rfl (hb hby d1_28) z_) ?_
        show OWay p e below G s₁ (mkF m 29 #[.val (.int p0)] [(.int (0 : Int32))])
        subst hG
        refine wRetN X0 hx (t := .boolean) hret hlk (by simp) (hb hby d1_29) (by decide) (by decide) eh0 ?_
        refine ⟨congrArg (fun z => some (Value.int z)) ?_, N0, rfl⟩
        simp [Int32.lt_iff_toInt_lt] at c3 c15 c21
        unfold isL
        rw [if_neg (by omega)]
        rfl
      · refine ogo (fun _ z_ => XS.icmpNo X0.here hx rfl (hb hby d1_21) rfl (flt c21).2.2.1 z_) ?_
        show OWay p e below G s₁ (mkF m 24 #[.val (.int p0)] [])
        refine ogo (fun _ z_ => XS.iconst X0.here hx rfl (hb hby d1_24) z_) ?_
        show OWay p e below G s₁ (mkF m 25 #[.val (.int p0)] [(.int (1 : Int32))])
        refine ogo (fun _ z_ => XS.goto X0.here hx rfl (pc0 := 25) (pc' := 29) rfl (hb hby d1_25) (by decide) (by decide) z_) ?_
        show OWay p e below G s₁ (mkF m 29 #[.val (.int p0)] [(.int (1 : Int32))])
        subst hG
        refine wRetN X0 hx (t := .boolean) hret hlk (by simp) (hb hby d1_29) (by decide) (by decide) eh0 ?_
        refine ⟨congrArg (fun z => some (Value.int z)) ?_, N0, rfl⟩
        simp [Int32.lt_iff_toInt_lt] at c3 c15 c21
        unfold isL
        rw [if_pos (by omega)]
        rfl
  · refine ogo (fun _ z_ => XS.icmpNo X0.here hx rfl (hb hby d1_3) rfl (flt c3).1 z_) ?_
    show OWay p e below G s₁ (mkF m 6 #[.val (.int p0)] [])
    refine ogo (fun _ z_ => XS.iloadN X0.here hx rfl (hb hby d1_6) rfl z_) ?_
    show OWay p e below G s₁ (mkF m 7 #[.val (.int p0)] [(.int p0)])
    refine ogo (fun _ z_ => XS.bipush X0.here hx rfl (hb hby d1_7) z_) ?_
    show OWay p e below G s₁ (mkF m 9 #[.val (.int p0)] [(.int (90 : Int32)), (.int p0)])
    by_cases c9 : (90 : Int32) < p0
    · refine ogo (fun _ z_ => XS.icmpNo X0.here hx rfl (hb hby d1_9) rfl (tlt c9).2.2.2 z_) ?_
      show OWay p e below G s₁ (mkF m 12 #[.val (.int p0)] [])
      refine ogo (fun _ z_ => XS.iloadN X0.here hx rfl (hb hby d1_12) rfl z_) ?_
      show OWay p e below G s₁ (mkF m 13 #[.val (.int p0)] [(.int p0)])
      refine ogo (fun _ z_ => XS.bipush X0.here hx rfl (hb hby d1_13) z_) ?_
      show OWay p e below G s₁ (mkF m 15 #[.val (.int p0)] [(.int (97 : Int32)), (.int p0)])
      by_cases c15 : p0 < (97 : Int32)
      · refine ogo (fun _ z_ => XS.icmpYes X0.here hx rfl (pc0 := 15) (pc' := 28) rfl (hb hby d1_15) rfl (tlt c15).1 (by decide) (by decide) z_) ?_
        show OWay p e below G s₁ (mkF m 28 #[.val (.int p0)] [])
        refine ogo (fun _ z_ => XS.iconst X0.here hx rfl (hb hby d1_28) z_) ?_
        show OWay p e below G s₁ (mkF m 29 #[.val (.int p0)] [(.int (0 : Int32))])
        subst hG
        refine wRetN X0 hx (t := .boolean) hret hlk (by simp) (hb hby d1_29) (by decide) (by decide) eh0 ?_
        refine ⟨congrArg (fun z => some (Value.int z)) ?_, N0, rfl⟩
        simp [Int32.lt_iff_toInt_lt] at c3 c9 c15
        unfold isL
        rw [if_neg (by omega)]
        rfl
      · refine ogo (fun _ z_ => XS.icmpNo X0.here hx rfl (hb hby d1_15) rfl (flt c15).1 z_) ?_
        show OWay p e below G s₁ (mkF m 18 #[.val (.int p0)] [])
        refine ogo (fun _ z_ => XS.iloadN X0.here hx rfl (hb hby d1_18) rfl z_) ?_
        show OWay p e below G s₁ (mkF m 19 #[.val (.int p0)] [(.int p0)])
        refine ogo (fun _ z_ => XS.bipush X0.here hx rfl (hb hby d1_19) z_) ?_
        show OWay p e below G s₁ (mkF m 21 #[.val (.int p0)] [(.int (122 : Int32)), (.int p0)])
        by_cases c21 : (122 : Int32) < p0
        · refine ogo (fun _ z_ => XS.icmpYes X0.here hx rfl (pc0 := 21) (pc' := 28) rfl (hb hby d1_21) rfl (tlt c21).2.2.1 (by decide) (by decide) z_) ?_
          show OWay p e below G s₁ (mkF m 28 #[.val (.int p0)] [])
          refine ogo (fun _ z_ => XS.iconst X0.here hx rfl (hb hby d1_28) z_) ?_
          show OWay p e below G s₁ (mkF m 29 #[.val (.int p0)] [(.int (0 : Int32))])
          subst hG
          refine wRetN X0 hx (t := .boolean) hret hlk (by simp) (hb hby d1_29) (by decide) (by decide) eh0 ?_
          refine ⟨congrArg (fun z => some (Value.int z)) ?_, N0, rfl⟩
          simp [Int32.lt_iff_toInt_lt] at c3 c9 c15 c21
          unfold isL
          rw [if_neg (by omega)]
          rfl
        · refine ogo (fun _ z_ => XS.icmpNo X0.here hx rfl (hb hby d1_21) rfl (flt c21).2.2.1 z_) ?_
          show OWay p e below G s₁ (mkF m 24 #[.val (.int p0)] [])
          refine ogo (fun _ z_ => XS.iconst X0.here hx rfl (hb hby d1_24) z_) ?_
          show OWay p e below G s₁ (mkF m 25 #[.val (.int p0)] [(.int (1 : Int32))])
          refine ogo (fun _ z_ => XS.goto X0.here hx rfl (pc0 := 25) (pc' := 29) rfl (hb hby d1_25) (by decide) (by decide) z_) ?_
          show OWay p e below G s₁ (mkF m 29 #[.val (.int p0)] [(.int (1 : Int32))])
          subst hG
          refine wRetN X0 hx (t := .boolean) hret hlk (by simp) (hb hby d1_29) (by decide) (by decide) eh0 ?_
          refine ⟨congrArg (fun z => some (Value.int z)) ?_, N0, rfl⟩
          simp [Int32.lt_iff_toInt_lt] at c3 c9 c15 c21
          unfold isL
          rw [if_pos (by omega)]
          rfl
    · refine ogo (fun _ z_ => XS.icmpYes X0.here hx rfl (pc0 := 9) (pc' := 24) rfl (hb hby d1_9) rfl (flt c9).2.2.2 (by decide) (by decide) z_) ?_
      show OWay p e below G s₁ (mkF m 24 #[.val (.int p0)] [])
      refine ogo (fun _ z_ => XS.iconst X0.here hx rfl (hb hby d1_24) z_) ?_
      show OWay p e below G s₁ (mkF m 25 #[.val (.int p0)] [(.int (1 : Int32))])
      refine ogo (fun _ z_ => XS.goto X0.here hx rfl (pc0 := 25) (pc' := 29) rfl (hb hby d1_25) (by decide) (by decide) z_) ?_
      show OWay p e below G s₁ (mkF m 29 #[.val (.int p0)] [(.int (1 : Int32))])
      subst hG
      refine wRetN X0 hx (t := .boolean) hret hlk (by simp) (hb hby d1_29) (by decide) (by decide) eh0 ?_
      refine ⟨congrArg (fun z => some (Value.int z)) ?_, N0, rfl⟩
      simp [Int32.lt_iff_toInt_lt] at c3 c9
      unfold isL
      rw [if_pos (by omega)]
      rfl
theorem pn_com_example_install_warden_installwarden_decision_AsciiIsLetterPinLaw : plainName "com/example/install_warden/installwarden/decision/AsciiIsLetterPinLaw" = true := by first | (simp [plainName, overriddenIn]; done) | decide +kernel
theorem pd__C_Z : parseMethodDescriptor "(C)Z" = some ⟨[.char], some .boolean⟩ := by decide +kernel
def law_Q (Z : State) (p0 : Int32) (h0 : Heap) (n0 : Nat) (v : Option Value) (h : Heap) (L : List Loc) : Prop := v = some (.int 1) ∧ Fr n0 L
theorem law_ef (m : MethodId) (p0 : Int32) : entryFrame m #[(.int p0)] maxLocals = mkF m 0 #[.val (.int p0), .unset, .unset, .unset] [] := by first | (simp [entryFrame, mkF, argsToLocals, Value.category, maxLocals]; done) | rfl
set_option maxRecDepth 65536 in
set_option maxHeartbeats 40000000 in
theorem law_c (l : Launch) (Z : State) (az : Array Value) (hw : ∀ d ∈ tables_1, d.before az Z = true) (ws : List Jvm.Cond) (p0 : Int32) (h0 : Heap) (n0 : Nat) (Z0 : n0 ≤ h0.size) :
    OCon l x code maxLocals ret ws room_1 Z #[(.int p0)] h0 (law_Q Z p0 h0 n0) := by
  refine ocon (plainFor_of_name pn_com_example_install_warden_installwarden_decision_AsciiIsLetterPinLaw) ?_
  intro p e s m below meth c s₁ hx hby hml hown hnm hret hlk hZ X0 eh0
  have N0 := Fr.nil n0
  have K0 := Keep.refl h0 []
  refine ogoE (law_ef m p0) ?_
  generalize hG : (OEnd s below (law_Q Z p0 h0 n0) room_1.cells room_1.slots) = G
  show OWay p e below G s₁ (mkF m 0 #[.val (.int p0), .unset, .unset, .unset] [])
  refine ogo (fun _ z_ => XS.iloadN X0.here hx rfl (hb hby at_0) rfl z_) ?_
  show OWay p e below G s₁ (mkF m 1 #[.val (.int p0), .unset, .unset, .unset] [(.int p0)])
  refine ogo (fun _ z_ => X0.ldcInt hx hown (mvT hZ (hw _ (List.mem_of_getElem? (i := 0) rfl))) (g := (mkF m 1 #[.val (.int p0), .unset, .unset, .unset] [(.int p0)])) rfl (hb hby at_1) _ z_) ?_
  show OWay p e below G s₁ (mkF m 3 #[.val (.int p0), .unset, .unset, .unset] [(.int (65535 : Int32)), (.int p0)])
  refine ogo (fun _ z_ => XS.iand X0.here hx rfl (hb hby at_3) rfl z_) ?_
  show OWay p e below G s₁ (mkF m 4 #[.val (.int p0), .unset, .unset, .unset] [(.int (p0 &&& (65535 : Int32)))])
  refine ogo (fun _ z_ => XS.i2c X0.here hx rfl (hb hby at_4) rfl z_) ?_
  show OWay p e below G s₁ (mkF m 5 #[.val (.int p0), .unset, .unset, .unset] [(.int ((p0 &&& (65535 : Int32)).toUInt32.toUInt16.toUInt32.toInt32))])
  suffices Jv1_1 : ∀ v1_1 : Int32, v1_1 = ((p0 &&& (65535 : Int32)).toUInt32.toUInt16.toUInt32.toInt32) → OWay p e below G s₁ (mkF m 5 #[.val (.int p0), .unset, .unset, .unset] [(.int v1_1)]) from Jv1_1 _ rfl
  intro v1_1 hv1_1
  refine ogo (fun _ z_ => XS.istoreN X0.here hx rfl (hb hby at_5) rfl (l' := #[.val (.int p0), .val (.int v1_1), .unset, .unset]) rfl z_) ?_
  show OWay p e below G s₁ (mkF m 6 #[.val (.int p0), .val (.int v1_1), .unset, .unset] [])
  refine ogo (fun _ z_ => XS.iloadN X0.here hx rfl (hb hby at_6) rfl z_) ?_
  show OWay p e below G s₁ (mkF m 7 #[.val (.int p0), .val (.int v1_1), .unset, .unset] [(.int v1_1)])
  refine ogo (fun _ z_ => XS.bipush X0.here hx rfl (hb hby at_7) z_) ?_
  show OWay p e below G s₁ (mkF m 9 #[.val (.int p0), .val (.int v1_1), .unset, .unset] [(.int (32 : Int32)), (.int v1_1)])
  refine ogo (fun _ z_ => XS.ior X0.here hx rfl (hb hby at_9) rfl z_) ?_
  show OWay p e below G s₁ (mkF m 10 #[.val (.int p0), .val (.int v1_1), .unset, .unset] [(.int (v1_1 ||| (32 : Int32)))])
  suffices Jv2_2 : ∀ v2_2 : Int32, v2_2 = (v1_1 ||| (32 : Int32)) → OWay p e below G s₁ (mkF m 10 #[.val (.int p0), .val (.int v1_1), .unset, .unset] [(.int v2_2)]) from Jv2_2 _ rfl
  intro v2_2 hv2_2
  refine ogo (fun _ z_ => XS.istoreN X0.here hx rfl (hb hby at_10) rfl (l' := #[.val (.int p0), .val (.int v1_1), .val (.int v2_2), .unset]) rfl z_) ?_
  show OWay p e below G s₁ (mkF m 11 #[.val (.int p0), .val (.int v1_1), .val (.int v2_2), .unset] [])
  refine ogo (fun _ z_ => XS.iloadN X0.here hx rfl (hb hby at_11) rfl z_) ?_
  show OWay p e below G s₁ (mkF m 12 #[.val (.int p0), .val (.int v1_1), .val (.int v2_2), .unset] [(.int v2_2)])
  refine ogo (fun _ z_ => XS.bipush X0.here hx rfl (hb hby at_12) z_) ?_
  show OWay p e below G s₁ (mkF m 14 #[.val (.int p0), .val (.int v1_1), .val (.int v2_2), .unset] [(.int (97 : Int32)), (.int v2_2)])
  have J4 : ∀ (us0_3 : Int32), us0_3 = (if v2_2 < (97 : Int32) then (0 : Int32) else (if (122 : Int32) < v2_2 then (0 : Int32) else (1 : Int32))) → OWay p e below G s₁ (mkF m 28 #[.val (.int p0), .val (.int v1_1), .val (.int v2_2), .unset] [(.int us0_3)]) := by
    intro us0_3 hus0_3
    refine ogo (fun _ z_ => XS.istoreN X0.here hx rfl (hb hby at_28) rfl (l' := #[.val (.int p0), .val (.int v1_1), .val (.int v2_2), .val (.int us0_3)]) rfl z_) ?_
    show OWay p e below G s₁ (mkF m 29 #[.val (.int p0), .val (.int v1_1), .val (.int v2_2), .val (.int us0_3)] [])
    refine ogo (fun _ z_ => XS.iloadN X0.here hx rfl (hb hby at_29) rfl z_) ?_
    show OWay p e below G s₁ (mkF m 30 #[.val (.int p0), .val (.int v1_1), .val (.int v2_2), .val (.int us0_3)] [(.int v1_1)])
    obtain ⟨_, T5, L5, X5, hQ5, st5⟩ := wStatic X0 hx hZ (y := (⟨"com/example/install_warden/installwarden/decision/Ascii", "isLetter", "(C)Z"⟩ : MethodName)) hown (hw _ (List.mem_of_getElem? (i := 1) rfl)) (hw _ (List.mem_of_getElem? (i := 2) rfl)) (hw _ (List.mem_of_getElem? (i := 3) rfl)) (hw _ (List.mem_of_getElem? (i := 4) rfl)) (by decide) (b1_c l Z az hw [] v1_1 h0 n0 Z0) 0 (by decide) (by decide) (g := (mkF m 30 #[.val (.int p0), .val (.int v1_1), .val (.int v2_2), .val (.int us0_3)] [(.int v1_1)])) rfl (by rw [hml]; rfl) (argsL := [(.int v1_1)]) (rest := []) (lenOf pd__C_Z rfl) rfl (by show 2 * 0 + _ ≤ _; exact Nat.le_of_eq rfl) (hb hby at_30) rfl eh0 (by decide) (by decide)
    obtain ⟨rfl, N5q, eq5⟩ := hQ5
    have N5 := Fr.app N0 N5q
    refine ogo st5 ?_
    show OWay p e below G T5 (mkF m 33 #[.val (.int p0), .val (.int v1_1), .val (.int v2_2), .val (.int us0_3)] [(.int (isL v1_1))])
    refine ogo (fun _ z_ => XS.iloadN X5.here hx rfl (hb hby at_33) rfl z_) ?_
    show OWay p e below G T5 (mkF m 34 #[.val (.int p0), .val (.int v1_1), .val (.int v2_2), .val (.int us0_3)] [(.int us0_3), (.int (isL v1_1))])
    by_cases c34 : (isL v1_1) = us0_3
    · refine ogo (fun _ z_ => XS.icmpNo X5.here hx rfl (hb hby at_34) rfl (teq c34).2 z_) ?_
      show OWay p e below G T5 (mkF m 37 #[.val (.int p0), .val (.int v1_1), .val (.int v2_2), .val (.int us0_3)] [])
      refine ogo (fun _ z_ => XS.iconst X5.here hx rfl (hb hby at_37) z_) ?_
      show OWay p e below G T5 (mkF m 38 #[.val (.int p0), .val (.int v1_1), .val (.int v2_2), .val (.int us0_3)] [(.int (1 : Int32))])
      refine ogo (fun _ z_ => XS.goto X5.here hx rfl (pc0 := 38) (pc' := 42) rfl (hb hby at_38) (by decide) (by decide) z_) ?_
      show OWay p e below G T5 (mkF m 42 #[.val (.int p0), .val (.int v1_1), .val (.int v2_2), .val (.int us0_3)] [(.int (1 : Int32))])
      subst hG
      refine wRetN X5 hx (t := .boolean) hret hlk (by simp) (hb hby at_42) (by decide) (by decide) eq5 ?_
      exact ⟨rfl, N5⟩
    · refine ogo (fun _ z_ => XS.icmpYes X5.here hx rfl (pc0 := 34) (pc' := 41) rfl (hb hby at_34) rfl (feq c34).2 (by decide) (by decide) z_) ?_
      show OWay p e below G T5 (mkF m 41 #[.val (.int p0), .val (.int v1_1), .val (.int v2_2), .val (.int us0_3)] [])
      refine ogo (fun _ z_ => XS.iconst X5.here hx rfl (hb hby at_41) z_) ?_
      show OWay p e below G T5 (mkF m 42 #[.val (.int p0), .val (.int v1_1), .val (.int v2_2), .val (.int us0_3)] [(.int (0 : Int32))])
      subst hG
      refine wRetN X5 hx (t := .boolean) hret hlk (by simp) (hb hby at_42) (by decide) (by decide) eq5 ?_
      exfalso
      have q := (c_i2c (p0 &&& 65535)).2.1
      rw [← hv1_1] at q
      exact c34 ((own_law2 v1_1 q).trans (by rw [hus0_3, hv2_2]))
  by_cases c14 : v2_2 < (97 : Int32)
  · refine ogo (fun _ z_ => XS.icmpYes X0.here hx rfl (pc0 := 14) (pc' := 27) rfl (hb hby at_14) rfl (tlt c14).1 (by decide) (by decide) z_) ?_
    show OWay p e below G s₁ (mkF m 27 #[.val (.int p0), .val (.int v1_1), .val (.int v2_2), .unset] [])
    refine ogo (fun _ z_ => XS.iconst X0.here hx rfl (hb hby at_27) z_) ?_
    show OWay p e below G s₁ (mkF m 28 #[.val (.int p0), .val (.int v1_1), .val (.int v2_2), .unset] [(.int (0 : Int32))])
    exact J4 _ ((if_pos c14).trans rfl).symm
  · refine ogo (fun _ z_ => XS.icmpNo X0.here hx rfl (hb hby at_14) rfl (flt c14).1 z_) ?_
    show OWay p e below G s₁ (mkF m 17 #[.val (.int p0), .val (.int v1_1), .val (.int v2_2), .unset] [])
    refine ogo (fun _ z_ => XS.iloadN X0.here hx rfl (hb hby at_17) rfl z_) ?_
    show OWay p e below G s₁ (mkF m 18 #[.val (.int p0), .val (.int v1_1), .val (.int v2_2), .unset] [(.int v2_2)])
    refine ogo (fun _ z_ => XS.bipush X0.here hx rfl (hb hby at_18) z_) ?_
    show OWay p e below G s₁ (mkF m 20 #[.val (.int p0), .val (.int v1_1), .val (.int v2_2), .unset] [(.int (122 : Int32)), (.int v2_2)])
    by_cases c20 : (122 : Int32) < v2_2
    · refine ogo (fun _ z_ => XS.icmpYes X0.here hx rfl (pc0 := 20) (pc' := 27) rfl (hb hby at_20) rfl (tlt c20).2.2.1 (by decide) (by decide) z_) ?_
      show OWay p e below G s₁ (mkF m 27 #[.val (.int p0), .val (.int v1_1), .val (.int v2_2), .unset] [])
      refine ogo (fun _ z_ => XS.iconst X0.here hx rfl (hb hby at_27) z_) ?_
      show OWay p e below G s₁ (mkF m 28 #[.val (.int p0), .val (.int v1_1), .val (.int v2_2), .unset] [(.int (0 : Int32))])
      exact J4 _ ((if_neg c14).trans ((if_pos c20).trans rfl)).symm
    · refine ogo (fun _ z_ => XS.icmpNo X0.here hx rfl (hb hby at_20) rfl (flt c20).2.2.1 z_) ?_
      show OWay p e below G s₁ (mkF m 23 #[.val (.int p0), .val (.int v1_1), .val (.int v2_2), .unset] [])
      refine ogo (fun _ z_ => XS.iconst X0.here hx rfl (hb hby at_23) z_) ?_
      show OWay p e below G s₁ (mkF m 24 #[.val (.int p0), .val (.int v1_1), .val (.int v2_2), .unset] [(.int (1 : Int32))])
      refine ogo (fun _ z_ => XS.goto X0.here hx rfl (pc0 := 24) (pc' := 28) rfl (hb hby at_24) (by decide) (by decide) z_) ?_
      show OWay p e below G s₁ (mkF m 28 #[.val (.int p0), .val (.int v1_1), .val (.int v2_2), .unset] [(.int (1 : Int32))])
      exact J4 _ ((if_neg c14).trans ((if_neg c20).trans rfl)).symm
set_option maxRecDepth 65536 in
set_option maxHeartbeats 40000000 in
theorem comes_1 {Post : Tables → Env → Array Value → State → Outcome → State → Prop} (hpost : ∀ tb e args s v u, (limb_1_1.after args s (.returned v) u = true ∧ limb_1_2.after args s (.returned v) u = true ∧ True) → FrameEnd s (.returned v) u (Jvm.fieldLocs frame_1_writes args s ++ Jvm.arrayLocs frame_1_arrays args s ++ Jvm.staticLocs frame_1_statics s) 0 0 → Post tb e args s (.returned v) u) :
    ArmFor flags0 classFile x code maxLocals ret World_1 tables_1 room_1 Calls_1 rest_1 Pre_1 Post := by
  intro l hfl _ _ p e ha hc hk s m args below hf hA hF happ hP
  obtain ⟨hcalls, hrest, hpre⟩ := hP
  obtain ⟨-, -, -, hnamed, -, -, -, hat⟩ := (Spec.applies_iff hf).mp happ
  obtain ⟨hg, hn⟩ := and_e (Cond.before_iff.mp (show (Jvm.Cond.and given_1 narrow_1).before args s = true from hpre))
  obtain ⟨g1, g2⟩ := and_e hg
  obtain ⟨w0, rfl⟩ : ∃ w0 : Value, args = #[w0] := by
    have hs : args.size = 1 := by simpa [Cond.value, given_1] using g1
    obtain ⟨L⟩ := args
    match L, hs with
    | [w0], _ => exact ⟨w0, rfl⟩
  have hw := fun d (hd : d ∈ tables_1) => atoms_spec (ws := Jvm.Cond.code x code maxLocals ret :: tables_1) hat d (List.mem_cons_of_mem _ hd)
  have hfit : Fit s := fun {y c} hc i hi => by
    obtain ⟨ha, rfl⟩ := Array.getElem?_eq_some_iff.mp hc
    have q := List.all_eq_true.mp ((Array.all_eq_true_iff_forall_mem.mp hF) _ (Array.getElem_mem ha)) i (List.mem_range.mpr hi)
    simpa [Array.getElem?_eq_getElem hi] using q
  obtain ⟨i0, ei0⟩ := is_v g2
  obtain rfl : w0 = (.int i0) := Option.some.inj ei0
  obtain ⟨n, o, h1, h2, h3, _, L, rfl, ⟨rfl, N⟩, hq⟩ := law_c l s _ hw tables_1 i0 s.heap s.heap.size (Nat.le_refl _) p e ha hc hk s m _ below hf ((Spec.applies_iff_loose hf).mp happ).1 ⟨rfl, State.Warmed39.refl s, rfl⟩ trivial
  refine ⟨n, _, h1, h2, h3, hpost _ _ _ _ _ _ ⟨Cond.after_iff.mpr rfl, Cond.after_iff.mpr (eq_i res_at (Term.int_eval (1)) rfl), trivial⟩ ⟨hq.1, hq.2.1, (hq.2.2.sift fun y hy => Or.inr (N y hy)).mono (by decide) (by decide)⟩⟩
theorem main_1_1 : Claimed_1_1 := comes_1 fun _ _ _ _ _ _ h hF => ⟨h.1, hF⟩
theorem main_1_2 : Claimed_1_2 := comes_1 fun _ _ _ _ _ _ h hF => ⟨h.2.1, hF⟩
end Jvm.Pilot.@@N@@
namespace Jvm.Pilot.@@N@@
open Jvm Jvm.ClassFile Sem Op Lib Jvm.Free Jvm.Stand Jvm.Pilot.@@N@@.Jvm.D
/-! MADE BY PROGRAM (witnessworld.py) out of the Statement's table words and the real class files: 9 classes; the members and pool entries that the words name. The judged class is class 1, her method 1. -/
namespace start1
open Jvm.ClassFile
def u (s : String) : CpInfo := .utf8 (stringToUtf16 s)
/-- a pool by its gaps: so many unusable entries, then the entry; so many at the end -/
def gap : Nat → List CpInfo → List CpInfo
  | 0, r => r
  | n + 1, r => .unusable :: gap n r
def poolList (es : List (Nat × CpInfo)) (last : Nat) : List CpInfo := es.foldr (fun e r => gap e.1 (e.2 :: r)) (gap last [])
def pool (es : List (Nat × CpInfo)) (last : Nat) : Array CpInfo := ⟨poolList es last⟩
def fileOf (pool : Array CpInfo) (this : Nat) (attrs : Array Attribute := #[]) (ms : Array MethodInfo := #[]) (fl : Nat := 33) (sup : Nat := 0) (ifs : Array Nat := #[]) (fds : Array FieldInfo := #[]) : ClassFile where
  minorVersion := 0
  majorVersion := 65
  constantPool := pool
  accessFlags := fl
  thisClass := this
  superClass := sup
  interfaces := ifs
  fields := fds
  methods := ms
  attributes := attrs
def plain (name : String) (sup : Option ClassId) : Class where
  name := name
  kind := .ordinary
  loader := none
  accessFlags := 33
  super := sup
  interfaces := #[]
  cf := none
  fields := #[]
  methods := #[]
  instanceTypes := #[]
  staticTypes := #[]
  resolved := #[]
  callSites := []
  init := .initialized
  statics := none
  mirror := none

def pool0 : Array CpInfo := pool [(5, u "<init>"), (0, u "()V"), (1, .class_ 10), (1, u "java/lang/Object")] 113

def k0m0 : Method := { name := "<init>", desc := "()V", sig := { parameters := [], returnType := none }, accessFlags := 1, code := none }
/-- java/lang/Object -/
def k0 : Class := { plain "java/lang/Object" none with
  accessFlags := 33
  interfaces := #[]
  cf := some (fileOf pool0 8 #[] #[{ accessFlags := 1, nameIndex := 5, descriptorIndex := 6, attributes := #[] }] 33 0 #[] #[])
  fields := #[]
  methods := #[k0m0]
  instanceTypes := #[]
  staticTypes := #[]
  resolved := Array.replicate 124 none
  statics := none }

def pool1 : Array CpInfo := pool [(2, .class_ 4), (1, u "java/lang/Object"), (0, u "<init>"), (0, u "()V"), (0, .integer 65535), (0, .methodref 9 10), (0, .class_ 11), (0, .nameAndType 12 13), (0, u "com/example/install_warden/installwarden/decision/Ascii"), (0, u "isLetter"), (0, u "(C)Z"), (0, .class_ 15), (0, u "com/example/install_warden/installwarden/decision/AsciiIsLetterPinLaw"), (2, u "law"), (0, u "(I)Z")] 3

def k1m0 : Method := { name := "<init>", desc := "()V", sig := { parameters := [], returnType := none }, accessFlags := 2, code := none }
def k1c1 : Code := { maxStack := 2, maxLocals := 4, code := code, exceptionTable := #[], attributes := #[] }
def k1m1 : Method := { name := "law", desc := "(I)Z", sig := { parameters := [.int], returnType := some .boolean }, accessFlags := 9, code := some k1c1 }
/-- com/example/install_warden/installwarden/decision/AsciiIsLetterPinLaw -/
def k1 : Class := { plain "com/example/install_warden/installwarden/decision/AsciiIsLetterPinLaw" (some 0) with
  accessFlags := 49
  interfaces := #[]
  cf := some (fileOf pool1 14 #[] #[{ accessFlags := 2, nameIndex := 5, descriptorIndex := 6, attributes := #[] }, { accessFlags := 9, nameIndex := 18, descriptorIndex := 19, attributes := #[] }] 49 2 #[] #[])
  fields := #[]
  methods := #[k1m0, k1m1]
  instanceTypes := #[]
  staticTypes := #[]
  resolved := Array.replicate 23 none
  statics := none }

def pool2 : Array CpInfo := pool [(2, .class_ 4), (1, u "java/lang/Object"), (0, u "<init>"), (0, u "()V"), (0, .class_ 8), (0, u "com/example/install_warden/installwarden/decision/Ascii"), (2, u "isLetter"), (0, u "(C)Z")] 4

def k2m0 : Method := { name := "<init>", desc := "()V", sig := { parameters := [], returnType := none }, accessFlags := 2, code := none }
def k2c1 : Code := { maxStack := 2, maxLocals := 1, code := prog_29_method_2_code, exceptionTable := #[], attributes := #[] }
def k2m1 : Method := { name := "isLetter", desc := "(C)Z", sig := { parameters := [.char], returnType := some .boolean }, accessFlags := 8, code := some k2c1 }
/-- com/example/install_warden/installwarden/decision/Ascii -/
def k2 : Class := { plain "com/example/install_warden/installwarden/decision/Ascii" (some 0) with
  accessFlags := 48
  interfaces := #[]
  cf := some (fileOf pool2 7 #[] #[{ accessFlags := 2, nameIndex := 5, descriptorIndex := 6, attributes := #[] }, { accessFlags := 8, nameIndex := 11, descriptorIndex := 12, attributes := #[] }] 48 2 #[] #[])
  fields := #[]
  methods := #[k2m0, k2m1]
  instanceTypes := #[]
  staticTypes := #[]
  resolved := Array.replicate 17 none
  statics := none }

def pool3 : Array CpInfo := pool [(1, u "java/lang/Cloneable"), (0, .class_ 1), (0, u "java/lang/Object"), (0, .class_ 3)] 3

/-- java/lang/Cloneable -/
def k3 : Class := { plain "java/lang/Cloneable" (some 0) with
  accessFlags := 1537
  interfaces := #[]
  cf := some (fileOf pool3 2 #[] #[] 1537 4 #[] #[])
  fields := #[]
  methods := #[]
  instanceTypes := #[]
  staticTypes := #[]
  resolved := Array.replicate 8 none
  statics := none }

def pool4 : Array CpInfo := pool [(1, u "java/io/Serializable"), (0, .class_ 1), (0, u "java/lang/Object"), (0, .class_ 3)] 3

/-- java/io/Serializable -/
def k4 : Class := { plain "java/io/Serializable" (some 0) with
  accessFlags := 1537
  interfaces := #[]
  cf := some (fileOf pool4 2 #[] #[] 1537 4 #[] #[])
  fields := #[]
  methods := #[]
  instanceTypes := #[]
  staticTypes := #[]
  resolved := Array.replicate 8 none
  statics := none }

/-- the primitive byte -/
def k5 : Class := { plain "byte" none with kind := .primitive 'B', accessFlags := 0x411 }
/-- [B -/
def k6 : Class := { plain "[B" (some 0) with kind := .array 5 .byte, interfaces := #[3, 4], accessFlags := 1041 }

/-- the primitive int -/
def k7 : Class := { plain "int" none with kind := .primitive 'I', accessFlags := 0x411 }
/-- [I -/
def k8 : Class := { plain "[I" (some 0) with kind := .array 7 .int, interfaces := #[3, 4], accessFlags := 1041 }

def heap : Heap := #[]
def classes : Array Class := #[k0, k1, k2, k3, k4, k5, k6, k7, k8]
def interned : List (Array UInt16 × Addr) := []
def slotsUsed : Nat := 0
def theMethod : MethodId := ⟨1, 1⟩
def args0 : Array Value := #[.int 65]
def aboutOver (below : List Frame) : State where
  vm := { classes := classes, interned := interned.toArray }
  heap := heap
  slotsUsed := slotsUsed
  threads := #[{ frames := .invoking theMethod args0 :: below }]
def below0 : List Frame := [.native { method := ⟨0, 0⟩, args := #[] }]
def about1 : State := aboutOver below0
def p0 : Program := .bare "" "" ""
def e0 : Env := launch0.env 0 0 0
theorem w_frames : about1.frames = Frame.invoking theMethod args0 :: below0 := rfl
set_option maxRecDepth 65536 in
theorem w_args : argsFit about1.vm theMethod args0 = true := by decide +kernel
set_option maxRecDepth 65536 in
theorem w_heap : heapFits about1 = true := by decide +kernel
set_option maxRecDepth 65536 in
theorem w_runnable : about1.curStatus? = some .runnable := by decide +kernel
set_option maxRecDepth 65536 in
theorem w_alone : about1.alone = true := by decide +kernel
set_option maxRecDepth 65536 in
theorem w_named : about1.methodNamed? x = some theMethod := by decide +kernel
set_option maxRecDepth 65536 in
theorem w_hears : about1.hears theMethod below0 = true := by decide +kernel
set_option maxRecDepth 65536 in
theorem w_ripe : about1.ripe theMethod args0 below0 = true := by decide +kernel
theorem w_running : about1.status = .running := rfl
set_option maxRecDepth 65536 in
theorem w_room : about1.hasRoom e0.platform room_1 = true :=
  launch0.hasRoom_least _ room_1 (by decide +kernel) (by decide +kernel) (by decide +kernel) (by decide +kernel) (by decide +kernel) (by decide +kernel)
theorem allAtoms_all (ts : List Jvm.Cond) (a : Array Jvm.Value) (st : Jvm.State) : (allAtoms ts).before a st = ts.all (fun c => c.before a st) := by
  induction ts with
  | nil => rfl
  | cons c t ih =>
    show (Jvm.Cond.and c (allAtoms t)).before a st = _
    rw [Jvm.Cond.before_and, ih, List.all_cons]
def words1 : List Jvm.Cond := Jvm.Cond.code x code maxLocals ret :: tables_1
/-- a 'code' word, met by the world's own term for the bytes: nothing is compared byte by byte -/
theorem code_word {y : MethodName} {bytes : ByteArray} {mx : Nat} {rt : Option FieldType} {a : Array Value} {s : State} {m : MethodId} {meth : Method} {c : Code} (h1 : s.methodNamed? y = some m) (h2 : s.vm.method? m = some meth) (h3 : meth.code = some c) (h4 : c.code = bytes)
    (h5 : (c.maxLocals == mx && c.exceptionTable.isEmpty && decide (c.maxStack ≤ mostOperands) && decide (meth.sig.returnType = rt) && !meth.locks && decide (parseMethodDescriptor y.desc = some meth.sig)) = true) : (Jvm.Cond.code y bytes mx rt).before a s = true := by
  simp only [Bool.and_eq_true, beq_iff_eq, Bool.not_eq_true', decide_eq_true_eq] at h5
  obtain ⟨⟨⟨⟨⟨g1, g2⟩, g3⟩, g4⟩, g5⟩, g6⟩ := h5
  simp [Cond.before, Cond.holds, Cond.value, h1, h2, h3, h4, g1, g2, g3, g4, g5, g6]
def isCode : Jvm.Cond → Bool
  | .code _ _ _ _ => true
  | _ => false
theorem all_split {L : List Jvm.Cond} {P : Jvm.Cond → Bool} (h1 : L.all (fun c => isCode c || P c) = true) (h2 : ∀ c ∈ L.filter isCode, P c = true) : L.all P = true := by
  refine List.all_eq_true.mpr fun c hc => ?_
  have h := List.all_eq_true.mp h1 c hc
  rcases Bool.eq_false_or_eq_true (isCode c) with hi | hi
  · exact h2 c (List.mem_filter.mpr ⟨hc, hi⟩)
  · simpa [hi] using h
set_option maxRecDepth 65536 in
theorem w_c0 : (Jvm.Cond.code x code maxLocals ret).before args0 about1 = true := code_word (m := ⟨1, 1⟩) (meth := k1m1) (c := k1c1) (by decide +kernel) rfl rfl rfl (by decide +kernel)
set_option maxRecDepth 65536 in
theorem w_c1 : (Jvm.Cond.code ({ cls := "com/example/install_warden/installwarden/decision/Ascii", name := "isLetter", desc := "(C)Z" } : Jvm.MethodName) prog_29_method_2_code (1 : Nat) (Option.some Jvm.ClassFile.FieldType.boolean)).before args0 about1 = true := code_word (m := ⟨2, 1⟩) (meth := k2m1) (c := k2c1) (by decide +kernel) rfl rfl rfl (by decide +kernel)
def codes1 : List Jvm.Cond := [Jvm.Cond.code x code maxLocals ret, Jvm.Cond.code ({ cls := "com/example/install_warden/installwarden/decision/Ascii", name := "isLetter", desc := "(C)Z" } : Jvm.MethodName) prog_29_method_2_code (1 : Nat) (Option.some Jvm.ClassFile.FieldType.boolean)]
set_option maxRecDepth 65536 in
theorem codes_eq : words1.filter isCode = codes1 := rfl
theorem w_codes : ∀ c ∈ words1.filter isCode, c.before args0 about1 = true := by
  rw [codes_eq]
  intro c hc
  simp only [codes1, List.mem_cons, List.not_mem_nil, or_false] at hc
  rcases hc with rfl | rfl
  · exact w_c0
  · exact w_c1
set_option maxRecDepth 65536 in
theorem w_t1 : words1.all (fun c => isCode c || c.before args0 about1) = true := by decide +kernel
theorem w_tables : (allAtoms (Jvm.Cond.code x code maxLocals ret :: tables_1)).before args0 about1 = true := by
  rw [allAtoms_all]
  show words1.all (fun c => c.before args0 about1) = true
  refine all_split ?_ w_codes
  rw [w_t1]
set_option maxRecDepth 65536 in
theorem w_case : (Jvm.Cond.and given_1 narrow_1).before args0 about1 = true := by decide +kernel
theorem w_applies : (headSpec (Jvm.Cond.code x code maxLocals ret :: tables_1) room_1).applies x e0.platform about1 = true :=
  (Spec.applies_iff w_frames).mpr ⟨w_running, w_runnable, w_alone, w_named, w_hears, w_ripe, w_room, w_tables⟩
theorem atStart : AtStart classFile x code maxLocals ret World_1 tables_1 room_1 Calls_1 rest_1 Pre_1 launch0 p0 e0 about1 theMethod args0 below0 :=
  ⟨lists_1, trivial, launch0.admits_env _ _ _, launch0.least_env, fairChoices_fair.cas, fairChoices_fair.clock, w_frames, w_args, w_heap, w_applies, trivial, trivial, w_case⟩
end start1
theorem witness_1 : WitnessClaimed_1 := ⟨start1.p0, start1.e0, start1.about1, start1.theMethod, start1.args0, start1.below0, start1.atStart⟩
end Jvm.Pilot.@@N@@
