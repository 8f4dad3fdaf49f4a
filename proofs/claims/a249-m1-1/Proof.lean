import JvmDerived
import JvmDerived.Pilot.@@N@@Statement
import JvmDerived.Pilot.@@N@@Code
set_option linter.unusedVariables false
set_option linter.unusedSimpArgs false
@@BLOCK:NumsL.lean.txt@@
namespace Jvm.Pilot.@@N@@
open Jvm Jvm.ClassFile Sem Op Lib Jvm.Free Jvm.Stand Jvm.LawKit Jvm.RoadKit Bundle Jvm.Pilot.@@N@@.Jvm.D

section Own
variable {p : Program} {l : Launch} {e : Env} {R : Room} {s : State} {m : MethodId} {args : Array Value} {below : List Frame} {meth : Method} {c : Code} {T : State} {locs : List Loc} {cells slots : Nat} {Z : State} {a0 : Array Value} {h : Heap} {Q : Option Value → Heap → List Loc → Prop} {kc kn : Nat}
/-- from U the body comes to its end, with Q -/
def own_Fin (p : Program) (e : Env) (below : List Frame) (s : State) (Q : Option Value → Heap → List Loc → Prop) (kc kn : Nat) (U : State) : Prop :=
  ∃ t o, Steps p.tables e below U t ∧ t.status = .running ∧ Ended t below o ∧ ∃ v L, o = .returned v ∧ Q v t.heap L ∧ FrameEnd s o t L kc kn
theorem own_go {U U' : State} (g : ∀ t, Steps p.tables e below U' t → Steps p.tables e below U t) (H : own_Fin p e below s Q kc kn U') : own_Fin p e below s Q kc kn U := by
  obtain ⟨t, o, h1, h2⟩ := H
  exact ⟨t, o, g t h1, h2⟩
/-- what a body that writes nothing and returns w leaves -/
def own_P (w : Option Value) (h0 : Heap) (n0 : Nat) (v : Option Value) (h : Heap) (L : List Loc) : Prop := v = w ∧ Fr n0 L ∧ h = h0
/-- a body's contract: called with as' on the heap h, it ends with Q -/
def own_Met (l : Launch) (y : MethodName) (bytes : ByteArray) (maxL : Nat) (ret : Option FieldType) (rm : Room) (Z : State) (ws : List Jvm.Cond) (as' : Array Value) (h : Heap) (Q : Option Value → Heap → List Loc → Prop) : Prop :=
  MetFree l y (head1 (Jvm.Cond.code y bytes maxL ret :: ws) rm) (fun a U => a = as' ∧ Z.Warmed39 U.vm ∧ U.heap = h) (fun _ _ _ _ _ => True) (fun _ U o U' => ∃ v L, o = .returned v ∧ Q v U'.heap L ∧ FrameEnd U o U' L rm.cells rm.slots)
theorem own_enter {y : MethodName} {bytes : ByteArray} {maxL : Nat} {ret : Option FieldType} {rm : Room} {ws : List Jvm.Cond} {as' : Array Value} (hp : plainFor y = true)
    (H : ∀ (p : Program) (e : Env) (s : State) (m : MethodId) (below : List Frame) (meth : Method) (c : Code) (s₁ : State), p.tables.exec = Jvm.exec → c.code = bytes → c.maxLocals = maxL → s.vm.findClass y.cls = some m.cls → meth.name = y.name → meth.sig.returnType = ret → meth.locks = false → Z.Warmed39 s.vm → s₁.heap = h → Stand p l e rm s m as' below meth c s₁ [] 0 0 → own_Fin p e below s Q rm.cells rm.slots (s₁.setTop (entryFrame m as' maxL))) :
    own_Met l y bytes maxL ret rm Z ws as' h Q := by
  unfold own_Met
  refine MetFree.of_bodySF hp hisR ?_
  intro p e s m args below meth c s₁ Bd hml0 hP hK
  obtain ⟨rfl, hZ, hh⟩ := hP
  exact H p e s m below meth c s₁ Bd.exec Bd.bytes hml0 (findClass_of_methodNamed Bd.named) (name_of_methodNamed Bd.named Bd.method).1 Bd.returns (BodyLoose.notSynchronized Bd) hZ (by rw [← hh, Bd.state]; rfl) (Stand.of_body Bd)
theorem own_ret (X : Stand p l e R s m args below meth c T locs cells slots) (hx : p.tables.exec = Jvm.exec) (hlk : meth.locks = false) {pc : Nat} {Ls : Array Slot} {w : Value} {t : FieldType} {i : Instr} {rest : List Value} (hret : meth.sig.returnType = some t) (hn : narrow t w = w)
    (hi : (i = .ireturn ∧ (t = .int ∨ t = .boolean ∨ t = .byte ∨ t = .char ∨ t = .short) ∧ ∃ z, w = .int z) ∨ (i = .lreturn ∧ t = .long ∧ ∃ z, w = .long z) ∨ (i = .dreturn ∧ t = .double ∧ ∃ z, w = .double z) ∨ (i = .freturn ∧ t = .float ∧ ∃ z, w = .float z) ∨ (i = .areturn ∧ t.isReference = true ∧ w.isRef = true))
    (hd : decode c.code pc = .ok (i, 1)) (hk : cells ≤ kc) (hs : slots ≤ kn) (hq : Q (some w) T.heap locs) : own_Fin p e below s Q kc kn (T.setTop (mkF m pc Ls (w :: rest))) := by
  obtain ⟨fs, hr, hrun, hended, hW, hsame⟩ := X.leave (v := some w) (fun h => by rw [hret] at h; cases h) hlk
  exact ⟨_, _, retOut X hx hret hn hi hd hr, hrun, hended, _, _, rfl, hq, ⟨_, rfl⟩, hW, hsame.mono hk hs⟩
theorem own_retI (X : Stand p l e R s m args below meth c T locs cells slots) (hx : p.tables.exec = Jvm.exec) (hlk : meth.locks = false) {pc : Nat} {Ls : Array Slot} {z : Int32} {rest : List Value} (hret : meth.sig.returnType = some .int)
    (hd : decode c.code pc = .ok (.ireturn, 1)) (hk : cells ≤ kc) (hs : slots ≤ kn) (hq : Q (some (.int z)) T.heap locs) : own_Fin p e below s Q kc kn (T.setTop (mkF m pc Ls (.int z :: rest))) :=
  own_ret X hx hlk hret rfl (Or.inl ⟨rfl, Or.inl rfl, _, rfl⟩) hd hk hs hq
theorem own_retZ (X : Stand p l e R s m args below meth c T locs cells slots) (hx : p.tables.exec = Jvm.exec) (hlk : meth.locks = false) {pc : Nat} {Ls : Array Slot} {z : Int32} {rest : List Value} (hret : meth.sig.returnType = some .boolean) (hn : narrow .boolean (.int z) = .int z)
    (hd : decode c.code pc = .ok (.ireturn, 1)) (hk : cells ≤ kc) (hs : slots ≤ kn) (hq : Q (some (.int z)) T.heap locs) : own_Fin p e below s Q kc kn (T.setTop (mkF m pc Ls (.int z :: rest))) :=
  own_ret X hx hlk hret hn (Or.inl ⟨rfl, Or.inr (Or.inl rfl), _, rfl⟩) hd hk hs hq
theorem own_retJ (X : Stand p l e R s m args below meth c T locs cells slots) (hx : p.tables.exec = Jvm.exec) (hlk : meth.locks = false) {pc : Nat} {Ls : Array Slot} {z : Int64} {rest : List Value} (hret : meth.sig.returnType = some .long)
    (hd : decode c.code pc = .ok (.lreturn, 1)) (hk : cells ≤ kc) (hs : slots ≤ kn) (hq : Q (some (.long z)) T.heap locs) : own_Fin p e below s Q kc kn (T.setTop (mkF m pc Ls (.long z :: rest))) :=
  own_ret X hx hlk hret rfl (Or.inr (Or.inl ⟨rfl, rfl, _, rfl⟩)) hd hk hs hq
theorem own_retA (X : Stand p l e R s m args below meth c T locs cells slots) (hx : p.tables.exec = Jvm.exec) (hlk : meth.locks = false) {pc : Nat} {Ls : Array Slot} {z : Addr} {t : FieldType} {rest : List Value} (hret : meth.sig.returnType = some t) (ht : t.isReference = true) (hn : narrow t (.ref z) = .ref z)
    (hd : decode c.code pc = .ok (.areturn, 1)) (hk : cells ≤ kc) (hs : slots ≤ kn) (hq : Q (some (.ref z)) T.heap locs) : own_Fin p e below s Q kc kn (T.setTop (mkF m pc Ls (.ref z :: rest))) :=
  own_ret X hx hlk hret hn (Or.inr (Or.inr (Or.inr (Or.inr ⟨rfl, ht, rfl⟩)))) hd hk hs hq
theorem own_retV (X : Stand p l e R s m args below meth c T locs cells slots) (hx : p.tables.exec = Jvm.exec) (hlk : meth.locks = false) {pc : Nat} {Ls : Array Slot} (hret : meth.sig.returnType = none)
    (hd : decode c.code pc = .ok (.return_, 1)) (hk : cells ≤ kc) (hs : slots ≤ kn) (hq : Q none T.heap locs) : own_Fin p e below s Q kc kn (T.setTop (mkF m pc Ls [])) := by
  obtain ⟨fs, hr, hrun, hended, hW, hsame⟩ := X.leave (v := none) (fun _ => rfl) hlk
  exact ⟨_, _, X.returnOut hx hret hd hr, hrun, hended, _, _, rfl, hq, ⟨_, rfl⟩, hW, hsame.mono hk hs⟩
theorem own_callS (X : Stand p l e R s m args below meth c T locs cells slots) (hx : p.tables.exec = Jvm.exec) (hZ : Z.Warmed39 s.vm) {own : String} {index : Nat} {y : MethodName} {bytes : ByteArray} {maxL : Nat} {ret : Option FieldType} {rm : Room} {as' : Array Value} {Q' : Option Value → Heap → List Loc → Prop}
    (hown : s.vm.findClass own = some m.cls) (w1 : (Jvm.Cond.methodLink own index y).before a0 Z = true) (w2 : (Jvm.Cond.static y).before a0 Z = true) (w3 : (Jvm.Cond.initialized y.cls).before a0 Z = true) (w4 : (Jvm.Cond.code y bytes maxL ret).before a0 Z = true) (hy : y.cls ≠ "java/lang/invoke/MethodHandle" ∧ y.cls ≠ "java/lang/invoke/VarHandle")
    (hM : own_Met l y bytes maxL ret rm Z [] as' h Q') (eT : T.heap = h) {pc : Nat} {Ls : Array Slot} {st argsL rest : List Value} (hst : st = argsL.reverse ++ rest) (has : argsL.toArray = as') (hsize : Ls.size = c.maxLocals) (hlen : ∀ sig, parseMethodDescriptor y.desc = some sig → argsL.length = sig.parameters.length)
    (hd : decode c.code pc = .ok (.invokestatic index, 3)) {W : Nat} (hW : (rest.map fun v => v.category).sum ≤ W) (hf : rm.frames + 1 ≤ R.frames) (hl : W + (maxL + 11) + rm.locals ≤ R.locals) (hc : cells + rm.cells ≤ R.cells) (hs : slots + rm.slots ≤ R.slots)
    (H : ∀ (v : Option Value) (T' : State) (L : List Loc), Stand p l e R s m args below meth c T' (locs ++ L) (cells + rm.cells) (slots + rm.slots) → Q' v T'.heap L → own_Fin p e below s Q kc kn (T'.setTop (mkF m (pc + 3) Ls (v.toList ++ rest)))) :
    own_Fin p e below s Q kc kn (T.setTop (mkF m pc Ls st)) := by
  subst hst
  obtain ⟨v, _, ⟨T', L', k', n'⟩, -, X', ⟨Lc, hQ, l1, y1, z1⟩, st⟩ := Jvm.LawKit.callS X hx (y := y) hown (mvT hZ w1) (mvT hZ w2) (mvT hZ w3) (mvT hZ w4) hy (backOf (W := W) hM hZ w4 w3 hf hl) (g := mkF m pc Ls (argsL.reverse ++ rest)) rfl hsize hlen rfl (by show 2 * 0 + _ ≤ _; omega) hd (fun _ _ => ⟨has, eT, hc, hs⟩)
  dsimp only [Pt.U, Pt.locs, Pt.cells, Pt.slots] at X' l1 y1 z1 st hQ
  subst l1 y1 z1
  exact own_go st (H _ _ _ X' hQ)
theorem own_callV (X : Stand p l e R s m args below meth c T locs cells slots) (hx : p.tables.exec = Jvm.exec) (hZ : Z.Warmed39 s.vm) {own C : String} {index : Nat} {y z : MethodName} {bytes : ByteArray} {maxL : Nat} {ret : Option FieldType} {rm : Room} {as' : Array Value} {Q' : Option Value → Heap → List Loc → Prop}
    (hown : s.vm.findClass own = some m.cls) (w1 : (Jvm.Cond.methodLink own index y).before a0 Z = true) (w2 : (Jvm.Cond.declares y).before a0 Z = true) (nf : NotFace s y) (w3 : (Jvm.Cond.selects C y z).before a0 Z = true) (w4 : (Jvm.Cond.instanceMethod z).before a0 Z = true) (w5 : (Jvm.Cond.code z bytes maxL ret).before a0 Z = true) (w6 : (Jvm.Cond.initialized z.cls).before a0 Z = true) (hy : y.cls ≠ "java/lang/invoke/MethodHandle" ∧ y.cls ≠ "java/lang/invoke/VarHandle")
    (hM : own_Met l z bytes maxL ret rm Z [] as' h Q') (eT : T.heap = h) {a : Addr} (E : Exa Z h a C) {pc : Nat} {Ls : Array Slot} {st argsL rest : List Value} (hst : st = argsL.reverse ++ .ref a :: rest) (has : (.ref a :: argsL).toArray = as') (hsize : Ls.size = c.maxLocals) (hlen : ∀ sig, parseMethodDescriptor y.desc = some sig → argsL.length = sig.parameters.length)
    (hd : decode c.code pc = .ok (.invokevirtual index, 3)) {W : Nat} (hW : (rest.map fun v => v.category).sum ≤ W) (hf : rm.frames + 1 ≤ R.frames) (hl : W + (maxL + 11) + rm.locals ≤ R.locals) (hc : cells + rm.cells ≤ R.cells) (hs : slots + rm.slots ≤ R.slots)
    (H : ∀ (v : Option Value) (T' : State) (L : List Loc), Stand p l e R s m args below meth c T' (locs ++ L) (cells + rm.cells) (slots + rm.slots) → Q' v T'.heap L → own_Fin p e below s Q kc kn (T'.setTop (mkF m (pc + 3) Ls (v.toList ++ rest)))) :
    own_Fin p e below s Q kc kn (T.setTop (mkF m pc Ls st)) := by
  subst hst
  obtain ⟨cB, kB, q1, q2, q3⟩ := isOf (T := T) hZ eT E
  obtain ⟨v, _, ⟨T', L', k', n'⟩, -, X', ⟨Lc, hQ, l1, y1, z1⟩, st⟩ := X.virtualBack hx (y := y) (z := z) hown (mvT hZ w1) (mvT hZ w2) nf (mvT hZ w3) (mvT hZ w4) hy (backOf (W := W) hM hZ w5 w6 hf hl) q1 q3 (g := mkF m pc Ls (argsL.reverse ++ .ref a :: rest)) rfl hsize (Steps.refl _) hlen rfl (by show 2 * 0 + _ ≤ _; omega) hd (fun _ _ => ⟨has, eT, hc, hs⟩)
  dsimp only [Pt.U, Pt.locs, Pt.cells, Pt.slots] at X' l1 y1 z1 st hQ
  subst l1 y1 z1
  exact own_go (fun _ k => st.trans k) (H _ _ _ X' hQ)
theorem own_callN (X : Stand p l e R s m args below meth c T locs cells slots) (hx : p.tables.exec = Jvm.exec) (hZ : Z.Warmed39 s.vm) {own : String} {index : Nat} {y : MethodName} {bytes : ByteArray} {maxL : Nat} {rm : Room} {as' : Array Value} {Q' : Option Value → Heap → List Loc → Prop} (hy1 : y.name = "<init>")
    (hown : s.vm.findClass own = some m.cls) (w1 : (Jvm.Cond.methodLink own index y).before a0 Z = true) (w2 : (Jvm.Cond.instanceMethod y).before a0 Z = true) (w3 : (Jvm.Cond.initialized y.cls).before a0 Z = true) (w4 : (Jvm.Cond.code y bytes maxL none).before a0 Z = true) (hy : y.cls ≠ "java/lang/invoke/MethodHandle" ∧ y.cls ≠ "java/lang/invoke/VarHandle")
    (hM : own_Met l y bytes maxL none rm Z [] as' h Q') (eT : T.heap = h) {a : Addr} {pc : Nat} {Ls : Array Slot} {st argsL rest : List Value} (hst : st = argsL.reverse ++ .ref a :: rest) (has : (.ref a :: argsL).toArray = as') (hsize : Ls.size = c.maxLocals) (hlen : ∀ sig, parseMethodDescriptor y.desc = some sig → argsL.length = sig.parameters.length)
    (hd : decode c.code pc = .ok (.invokespecial index, 3)) {W : Nat} (hW : (rest.map fun v => v.category).sum ≤ W) (hf : rm.frames + 1 ≤ R.frames) (hl : W + (maxL + 11) + rm.locals ≤ R.locals) (hc : cells + rm.cells ≤ R.cells) (hs : slots + rm.slots ≤ R.slots)
    (H : ∀ (v : Option Value) (T' : State) (L : List Loc), Stand p l e R s m args below meth c T' (locs ++ L) (cells + rm.cells) (slots + rm.slots) → Q' v T'.heap L → own_Fin p e below s Q kc kn (T'.setTop (mkF m (pc + 3) Ls (v.toList ++ rest)))) :
    own_Fin p e below s Q kc kn (T.setTop (mkF m pc Ls st)) := by
  subst hst
  obtain ⟨v, _, ⟨T', L', k', n'⟩, -, X', ⟨Lc, hQ, l1, y1, z1⟩, st⟩ := X.specialBack hx (y := y) hy1 hown (mvT hZ w1) (mvT hZ w2) (mvT hZ w4) hy (backOf (W := W) hM hZ w4 w3 hf hl) (g := mkF m pc Ls (argsL.reverse ++ .ref a :: rest)) rfl hsize (Steps.refl _) (a := a) hlen rfl (by show 2 * 0 + _ ≤ _; omega) hd (fun _ _ => ⟨has, eT, hc, hs⟩)
  dsimp only [Pt.U, Pt.locs, Pt.cells, Pt.slots] at X' l1 y1 z1 st hQ
  subst l1 y1 z1
  exact own_go (fun _ k => st.trans k) (H _ _ _ X' hQ)
theorem own_initO (X : Stand p l e R s m args below meth c T locs cells slots) (hx : p.tables.exec = Jvm.exec) (hZ : Z.Warmed39 s.vm) {own : String} {idx : Nat} (hown : s.vm.findClass own = some m.cls) (w1 : (Jvm.Cond.methodLink own idx Lib.objectInit).before a0 Z = true) (w2 : (Jvm.Cond.instanceMethod Lib.objectInit).before a0 Z = true)
    (w3 : (Jvm.Cond.code Lib.objectInit ⟨#[0xb1]⟩ 1 none).before a0 Z = true) (eT : T.heap = h) {pc : Nat} {Ls : Array Slot} (hsize : Ls.size = c.maxLocals) {a : Addr} {rest : List Value} (hd : decode c.code pc = .ok (.invokespecial idx, 3))
    (hf : 1 ≤ R.frames) {W : Nat} (hW : (rest.map fun v => v.category).sum ≤ W) (hl : W + 12 ≤ R.locals)
    (H : ∀ (T' : State), Stand p l e R s m args below meth c T' locs cells slots → T'.heap = h → own_Fin p e below s Q kc kn (T'.setTop (mkF m (pc + 3) Ls rest))) :
    own_Fin p e below s Q kc kn (T.setTop (mkF m pc Ls (.ref a :: rest))) := by
  obtain ⟨T', X', e', st⟩ := initO X hx hZ hown w1 w2 w3 eT (g := mkF m pc Ls (.ref a :: rest)) rfl hsize rfl hd hf (W := W) (by show 2 * 0 + _ ≤ _; omega) hl
  exact own_go st (H _ X' e')
theorem own_getF (X : Stand p l e R s m args below meth c T locs cells slots) (hx : p.tables.exec = Jvm.exec) (hZ : Z.Warmed39 s.vm) {own R0 O n d host : String} {index : Nat} (hown : s.vm.findClass own = some m.cls) (w : (Jvm.Cond.fieldLink own index R0 n d).before a0 Z = true ∨ (Jvm.Cond.fieldLinkNest own index R0 n d host).before a0 Z = true) (via : Via Z R0 O n d)
    (eT : T.heap = h) {a : Addr} {v : Value} (F : Fld Z h a O n d v) {pc : Nat} {Ls : Array Slot} {rest : List Value} (hd : decode c.code pc = .ok (.getfield index, 3))
    (H : ∀ (T' : State), Stand p l e R s m args below meth c T' locs cells slots → T'.heap = h → own_Fin p e below s Q kc kn (T'.setTop (mkF m (pc + 3) Ls (v :: rest)))) :
    own_Fin p e below s Q kc kn (T.setTop (mkF m pc Ls (.ref a :: rest))) := by
  obtain ⟨T', X', e', st⟩ := getF X hx hZ hown w via eT F (g := mkF m pc Ls (.ref a :: rest)) rfl rfl hd
  exact own_go st (H _ X' e')
theorem own_getS (X : Stand p l e R s m args below meth c T locs cells slots) (hx : p.tables.exec = Jvm.exec) (hZ : Z.Warmed39 s.vm) {own R0 O n d host : String} {index : Nat} (hown : s.vm.findClass own = some m.cls) (w : (Jvm.Cond.fieldLink own index R0 n d).before a0 Z = true ∨ (Jvm.Cond.fieldLinkNest own index R0 n d host).before a0 Z = true) (via : Via Z R0 O n d)
    (eT : T.heap = h) {v : Value} (F : Sta Z h O n d v) {pc : Nat} {Ls : Array Slot} {rest : List Value} (hd : decode c.code pc = .ok (.getstatic index, 3))
    (H : ∀ (T' : State), Stand p l e R s m args below meth c T' locs cells slots → T'.heap = h → own_Fin p e below s Q kc kn (T'.setTop (mkF m (pc + 3) Ls (v :: rest)))) :
    own_Fin p e below s Q kc kn (T.setTop (mkF m pc Ls rest)) := by
  obtain ⟨T', X', e', st⟩ := getS2 X hx hZ hown w via eT F (g := mkF m pc Ls rest) rfl hd
  exact own_go st (H _ X' e')
theorem own_putF (X : Stand p l e R s m args below meth c T locs cells slots) (hx : p.tables.exec = Jvm.exec) (hZ : Z.Warmed39 s.vm) {own R0 O n d host C : String} {index kk : Nat} {ty : FieldType} (hown : s.vm.findClass own = some m.cls) (w : (Jvm.Cond.fieldLink own index R0 n d).before a0 Z = true ∨ (Jvm.Cond.fieldLinkNest own index R0 n d host).before a0 Z = true) (via : Via Z R0 O n d)
    (eT : T.heap = h) {a : Addr} {v old : Value} (F : Fld Z h a O n d old) (E : Exa Z h a C) (L : (Jvm.Cond.lays C O n d).before a0 Z = true ∨ ((Jvm.Cond.laysFinal C O n d).before a0 Z = true ∧ own = O ∧ meth.name = "<init>")) (wi : (Jvm.Cond.instantiable C kk).before a0 Z = true)
    (hty : parseFieldDescriptor d = some ty) (hn : narrow ty v = v) (hf : fits ty v = true) {pc : Nat} {Ls : Array Slot} {rest : List Value} (hd : decode c.code pc = .ok (.putfield index, 3))
    (H : ∀ (T' : State) (h' : Heap), Stand p l e R s m args below meth c T' (locs ++ [⟨a, Jvm.RoadKit.slotOf Z O n d⟩]) cells slots → T'.heap = h' → Wr h h' a (Jvm.RoadKit.slotOf Z O n d) v → own_Fin p e below s Q kc kn (T'.setTop (mkF m (pc + 3) Ls rest))) :
    own_Fin p e below s Q kc kn (T.setTop (mkF m pc Ls (v :: .ref a :: rest))) := by
  obtain ⟨T', h', X', e', W', st⟩ := putF X hx hZ hown w via eT F E L wi hty hn hf (g := mkF m pc Ls (v :: .ref a :: rest)) rfl rfl hd
  exact own_go st (H _ _ X' e' W')
theorem own_new (X : Stand p l e R s m args below meth c T locs cells slots) (hx : p.tables.exec = Jvm.exec) (hZ : Z.Warmed39 s.vm) {own C : String} {index n : Nat} (hown : s.vm.findClass own = some m.cls) (w : (Jvm.Cond.classLink own index C).before a0 Z = true) (wi : (Jvm.Cond.instantiable C n).before a0 Z = true) (wz : (Jvm.Cond.initialized C).before a0 Z = true) (eT : T.heap = h)
    {pc : Nat} {Ls : Array Slot} {rest : List Value} (hd : decode c.code pc = .ok (.new index, 3)) (hc : cells + 1 ≤ R.cells) (hl : slots + n ≤ R.slots)
    (H : ∀ (T' : State) (h' : Heap) (a : Addr), a = h.size → Stand p l e R s m args below meth c T' locs (cells + 1) (slots + n) → T'.heap = h' → Ext h h' → Exa Z h' a C → (∀ {O nm d : String} {ty : FieldType}, Laid Z a0 C O nm d → parseFieldDescriptor d = some ty → Fld Z h' a O nm d (defaultValue ty)) → own_Fin p e below s Q kc kn (T'.setTop (mkF m (pc + 3) Ls (.ref a :: rest)))) :
    own_Fin p e below s Q kc kn (T.setTop (mkF m pc Ls rest)) := by
  obtain ⟨T', h', X', e', E', A', D', -, st⟩ := newO X hx hZ hown w wi wz eT (g := mkF m pc Ls rest) rfl hd hc hl
  exact own_go st (H _ _ _ rfl X' e' E' A' D')
theorem own_callU (X : Stand p l e R s m args below meth c T locs cells slots) (hx : p.tables.exec = Jvm.exec) (hZ : Z.Warmed39 s.vm) {own C owner : String} {index : Nat} {y z : MethodName} {bytes : ByteArray} {maxL : Nat} {ret : Option FieldType} {rm : Room} {as' : Array Value} {Q' : Option Value → Heap → List Loc → Prop}
    (hown : s.vm.findClass own = some m.cls) (w1 : (Jvm.Cond.methodLink own index y).before a0 Z = true) (w2 : (Jvm.Cond.sameMethod y.cls owner y.name y.desc).before a0 Z = true) (w2' : (Jvm.Cond.declares ⟨owner, y.name, y.desc⟩).before a0 Z = true) (hy : owner ≠ "java/lang/invoke/MethodHandle" ∧ owner ≠ "java/lang/invoke/VarHandle") (w3 : (Jvm.Cond.selects C y z).before a0 Z = true) (w4 : (Jvm.Cond.instanceMethod z).before a0 Z = true) (w5 : (Jvm.Cond.code z bytes maxL ret).before a0 Z = true) (w6 : (Jvm.Cond.initialized z.cls).before a0 Z = true)
    (hM : own_Met l z bytes maxL ret rm Z [] as' h Q') (eT : T.heap = h) {a : Addr} (E : Exa Z h a C) {pc : Nat} {Ls : Array Slot} {st argsL rest : List Value} (hst : st = argsL.reverse ++ .ref a :: rest) (has : (.ref a :: argsL).toArray = as') (hsize : Ls.size = c.maxLocals) (hlen : ∀ sig, parseMethodDescriptor y.desc = some sig → argsL.length = sig.parameters.length)
    (hd : decode c.code pc = .ok (.invokevirtual index, 3)) {W : Nat} (hW : (rest.map fun v => v.category).sum ≤ W) (hf : rm.frames + 1 ≤ R.frames) (hl : W + (maxL + 11) + rm.locals ≤ R.locals) (hc : cells + rm.cells ≤ R.cells) (hs : slots + rm.slots ≤ R.slots)
    (H : ∀ (v : Option Value) (T' : State) (L : List Loc), Stand p l e R s m args below meth c T' (locs ++ L) (cells + rm.cells) (slots + rm.slots) → Q' v T'.heap L → own_Fin p e below s Q kc kn (T'.setTop (mkF m (pc + 3) Ls (v.toList ++ rest)))) :
    own_Fin p e below s Q kc kn (T.setTop (mkF m pc Ls st)) := by
  subst hst
  obtain ⟨cB, kB, q1, q2, q3⟩ := isOf (T := T) hZ eT E
  obtain ⟨v, _, ⟨T', L', k', n'⟩, -, X', ⟨Lc, hQ, l1, y1, z1⟩, st⟩ := X.virtualBackUp hx (x := y) (y := z) hown (mvT hZ w1) (mvT hZ w2) (mvT hZ w2') hy (mvT hZ w3) (mvT hZ w4) (backOf (W := W) hM hZ w5 w6 hf hl) q1 q3 (g := mkF m pc Ls (argsL.reverse ++ .ref a :: rest)) rfl hsize (Steps.refl _) hlen rfl (by show 2 * 0 + _ ≤ _; omega) hd (fun _ _ => ⟨has, eT, hc, hs⟩)
  dsimp only [Pt.U, Pt.locs, Pt.cells, Pt.slots] at X' l1 y1 z1 st hQ
  subst l1 y1 z1
  exact own_go (fun _ k => st.trans k) (H _ _ _ X' hQ)
theorem own_lswHit (X : Stand p l e R s m args below meth c T locs cells slots) (hx : p.tables.exec = Jvm.exec) {pc pc' : Nat} {Ls : Array Slot} {k : Int32} {rest : List Value} {default : Int} {pairs : Array (Int × Int)} {len : Nat} (hd : decode c.code pc = .ok (.lookupswitch default pairs, len))
    (hsorted : (pairs.toList.zip (pairs.toList.drop 1)).all (fun (a, next) => a.1 < next.1) = true) {a off : Int} (hfind : pairs.find? (·.1 == k.toInt) = some (a, off)) (hoff : 0 ≤ (pc : Int) + off) (hp : ((pc : Int) + off).toNat = pc')
    (H : own_Fin p e below s Q kc kn (T.setTop (mkF m pc' Ls rest))) : own_Fin p e below s Q kc kn (T.setTop (mkF m pc Ls (.int k :: rest))) := by
  subst hp
  exact own_go (fun t q => X.lookupswitchHit hx (g := mkF m pc Ls (.int k :: rest)) rfl rfl hd hsorted hfind hoff t q) H
theorem own_lswMiss (X : Stand p l e R s m args below meth c T locs cells slots) (hx : p.tables.exec = Jvm.exec) {pc pc' : Nat} {Ls : Array Slot} {k : Int32} {rest : List Value} {default : Int} {pairs : Array (Int × Int)} {len : Nat} (hd : decode c.code pc = .ok (.lookupswitch default pairs, len))
    (hsorted : (pairs.toList.zip (pairs.toList.drop 1)).all (fun (a, next) => a.1 < next.1) = true) (hfind : ∀ q ∈ pairs.toList, q.1 ≠ k.toInt) (hoff : 0 ≤ (pc : Int) + default) (hp : ((pc : Int) + default).toNat = pc')
    (H : own_Fin p e below s Q kc kn (T.setTop (mkF m pc' Ls rest))) : own_Fin p e below s Q kc kn (T.setTop (mkF m pc Ls (.int k :: rest))) := by
  subst hp
  exact own_go (fun t q => X.lookupswitchMiss hx (g := mkF m pc Ls (.int k :: rest)) rfl rfl hd hsorted (find_miss hfind) hoff t q) H
theorem own_castY (X : Stand p l e R s m args below meth c T locs cells slots) (hx : p.tables.exec = Jvm.exec) (hZ : Z.Warmed39 s.vm) {own K : String} {index : Nat} (hown : s.vm.findClass own = some m.cls) (w : (Jvm.Cond.classLink own index K).before a0 Z = true) (eT : T.heap = h) {a : Addr} (F : Ins Z h a K true)
    {pc : Nat} {Ls : Array Slot} {rest : List Value} (hd : decode c.code pc = .ok (.checkcast index, 3))
    (H : ∀ (T' : State), Stand p l e R s m args below meth c T' locs cells slots → T'.heap = h → own_Fin p e below s Q kc kn (T'.setTop (mkF m (pc + 3) Ls (.ref a :: rest)))) :
    own_Fin p e below s Q kc kn (T.setTop (mkF m pc Ls (.ref a :: rest))) := by
  obtain ⟨T', X', e', st⟩ := castY X hx hZ hown w eT F (g := mkF m pc Ls (.ref a :: rest)) rfl rfl hd
  exact own_go st (H _ X' e')
theorem own_Sta_keep0 {C n d : String} {v : Value} {h h' : Heap} (F : Sta Z h C n d v) (K : Keep h h' []) : Sta Z h' C n d v := by
  obtain ⟨cf, i, k, f, st, cell, h1, h2, h3, h4, h5, r⟩ := F
  exact ⟨cf, i, k, f, st, cell, h1, h2, h3, h4, K.2.1 _ _ h5 nin0, r⟩
theorem own_Arr_keep0 {a : Addr} {cl : Cell} {ty : FieldType} {h h' : Heap} (F : Arr Z h a cl ty) (K : Keep h h' []) : Arr Z h' a cl ty := ⟨K.2.1 _ _ F.1 nin0, F.2⟩
theorem own_neI {k z : Int32} {n : Int} (hz : z.toInt = n) (q : ¬ k = z) : n ≠ k.toInt := fun e => q (Int32.toInt_inj.mp (by rw [hz]; exact e.symm))
theorem own_fldI {args : Array Value} {t : Term} {O nm dd : String} {v : Int32} {a : Addr} (q : (Jvm.Cond.eq (.field t O nm dd) (.int v)).value args Z none Z [] = some true) (ev : t.eval args Z none [] Z = some (.ref a)) : Fld Z Z.heap a O nm dd (.int v) := by
  refine Fld.start ?_
  have e1 := fld_at (C := O) (n := nm) (dd := dd) ev
  simp only [Cond.value, e1] at q
  cases hf : Z.fieldOf? a O nm dd with
  | none => simp [hf] at q
  | some x => cases x <;> simp [hf, Term.eval] at q ⊢; exact q
theorem own_fldR {args : Array Value} {t u : Term} {O nm dd : String} {a b : Addr} (q : (Jvm.Cond.eq (.field t O nm dd) u).value args Z none Z [] = some true) (ev : t.eval args Z none [] Z = some (.ref a)) (eu : u.eval args Z none [] Z = some (.ref b)) : Fld Z Z.heap a O nm dd (.ref b) := by
  refine Fld.start ?_
  have e1 := fld_at (C := O) (n := nm) (dd := dd) ev
  simp only [Cond.value, e1, eu] at q
  cases hf : Z.fieldOf? a O nm dd with
  | none => simp [hf] at q
  | some x => cases x <;> simp [hf] at q ⊢; exact q
end Own

theorem d1_0 : decode method_2_code 0 = .ok (.iload_n 0, 1) := by decide +kernel
theorem d1_1 : decode method_2_code 1 = .ok (.ifCond .ne 7, 3) := by decide +kernel
theorem d1_4 : decode method_2_code 4 = .ok (.getstatic 7, 3) := by decide +kernel
theorem d1_7 : decode method_2_code 7 = .ok (.areturn, 1) := by decide +kernel
theorem d1_8 : decode method_2_code 8 = .ok (.iload_n 0, 1) := by decide +kernel
theorem d1_9 : decode method_2_code 9 = .ok (.iconst 1, 1) := by decide +kernel
theorem d1_10 : decode method_2_code 10 = .ok (.if_icmp .ne 7, 3) := by decide +kernel
theorem d1_13 : decode method_2_code 13 = .ok (.getstatic 13, 3) := by decide +kernel
theorem d1_16 : decode method_2_code 16 = .ok (.areturn, 1) := by decide +kernel
theorem d1_17 : decode method_2_code 17 = .ok (.iload_n 0, 1) := by decide +kernel
theorem d1_18 : decode method_2_code 18 = .ok (.iconst 2, 1) := by decide +kernel
theorem d1_19 : decode method_2_code 19 = .ok (.if_icmp .ne 7, 3) := by decide +kernel
theorem d1_22 : decode method_2_code 22 = .ok (.getstatic 16, 3) := by decide +kernel
theorem d1_25 : decode method_2_code 25 = .ok (.areturn, 1) := by decide +kernel
theorem d1_26 : decode method_2_code 26 = .ok (.iload_n 0, 1) := by decide +kernel
theorem d1_27 : decode method_2_code 27 = .ok (.iconst 3, 1) := by decide +kernel
theorem d1_28 : decode method_2_code 28 = .ok (.if_icmp .ne 7, 3) := by decide +kernel
theorem d1_31 : decode method_2_code 31 = .ok (.getstatic 19, 3) := by decide +kernel
theorem d1_34 : decode method_2_code 34 = .ok (.areturn, 1) := by decide +kernel
theorem d1_35 : decode method_2_code 35 = .ok (.iload_n 0, 1) := by decide +kernel
theorem d1_36 : decode method_2_code 36 = .ok (.iconst 4, 1) := by decide +kernel
theorem d1_37 : decode method_2_code 37 = .ok (.if_icmp .ne 7, 3) := by decide +kernel
theorem d1_40 : decode method_2_code 40 = .ok (.getstatic 22, 3) := by decide +kernel
theorem d1_43 : decode method_2_code 43 = .ok (.areturn, 1) := by decide +kernel
theorem d1_44 : decode method_2_code 44 = .ok (.iload_n 0, 1) := by decide +kernel
theorem d1_45 : decode method_2_code 45 = .ok (.iconst 5, 1) := by decide +kernel
theorem d1_46 : decode method_2_code 46 = .ok (.if_icmp .ne 7, 3) := by decide +kernel
theorem d1_49 : decode method_2_code 49 = .ok (.getstatic 25, 3) := by decide +kernel
theorem d1_52 : decode method_2_code 52 = .ok (.areturn, 1) := by decide +kernel
theorem d1_53 : decode method_2_code 53 = .ok (.iload_n 0, 1) := by decide +kernel
theorem d1_54 : decode method_2_code 54 = .ok (.bipush 6, 2) := by decide +kernel
theorem d1_56 : decode method_2_code 56 = .ok (.if_icmp .ne 7, 3) := by decide +kernel
theorem d1_59 : decode method_2_code 59 = .ok (.getstatic 28, 3) := by decide +kernel
theorem d1_62 : decode method_2_code 62 = .ok (.areturn, 1) := by decide +kernel
theorem d1_63 : decode method_2_code 63 = .ok (.iload_n 0, 1) := by decide +kernel
theorem d1_64 : decode method_2_code 64 = .ok (.bipush 7, 2) := by decide +kernel
theorem d1_66 : decode method_2_code 66 = .ok (.if_icmp .ne 7, 3) := by decide +kernel
theorem d1_69 : decode method_2_code 69 = .ok (.getstatic 31, 3) := by decide +kernel
theorem d1_72 : decode method_2_code 72 = .ok (.areturn, 1) := by decide +kernel
theorem d1_73 : decode method_2_code 73 = .ok (.iload_n 0, 1) := by decide +kernel
theorem d1_74 : decode method_2_code 74 = .ok (.bipush 8, 2) := by decide +kernel
theorem d1_76 : decode method_2_code 76 = .ok (.if_icmp .ne 7, 3) := by decide +kernel
theorem d1_79 : decode method_2_code 79 = .ok (.getstatic 34, 3) := by decide +kernel
theorem d1_82 : decode method_2_code 82 = .ok (.areturn, 1) := by decide +kernel
theorem d1_83 : decode method_2_code 83 = .ok (.iload_n 0, 1) := by decide +kernel
theorem d1_84 : decode method_2_code 84 = .ok (.bipush 9, 2) := by decide +kernel
theorem d1_86 : decode method_2_code 86 = .ok (.if_icmp .ne 7, 3) := by decide +kernel
theorem d1_89 : decode method_2_code 89 = .ok (.getstatic 37, 3) := by decide +kernel
theorem d1_92 : decode method_2_code 92 = .ok (.areturn, 1) := by decide +kernel
theorem d1_93 : decode method_2_code 93 = .ok (.iload_n 0, 1) := by decide +kernel
theorem d1_94 : decode method_2_code 94 = .ok (.bipush 10, 2) := by decide +kernel
theorem d1_96 : decode method_2_code 96 = .ok (.if_icmp .ne 7, 3) := by decide +kernel
theorem d1_99 : decode method_2_code 99 = .ok (.getstatic 40, 3) := by decide +kernel
theorem d1_102 : decode method_2_code 102 = .ok (.areturn, 1) := by decide +kernel
theorem d1_103 : decode method_2_code 103 = .ok (.iload_n 0, 1) := by decide +kernel
theorem d1_104 : decode method_2_code 104 = .ok (.bipush 11, 2) := by decide +kernel
theorem d1_106 : decode method_2_code 106 = .ok (.if_icmp .ne 7, 3) := by decide +kernel
theorem d1_109 : decode method_2_code 109 = .ok (.getstatic 43, 3) := by decide +kernel
theorem d1_112 : decode method_2_code 112 = .ok (.areturn, 1) := by decide +kernel
theorem d1_113 : decode method_2_code 113 = .ok (.iload_n 0, 1) := by decide +kernel
theorem d1_114 : decode method_2_code 114 = .ok (.bipush 12, 2) := by decide +kernel
theorem d1_116 : decode method_2_code 116 = .ok (.if_icmp .ne 7, 3) := by decide +kernel
theorem d1_119 : decode method_2_code 119 = .ok (.getstatic 46, 3) := by decide +kernel
theorem d1_122 : decode method_2_code 122 = .ok (.areturn, 1) := by decide +kernel
theorem d1_123 : decode method_2_code 123 = .ok (.iload_n 0, 1) := by decide +kernel
theorem d1_124 : decode method_2_code 124 = .ok (.bipush 13, 2) := by decide +kernel
theorem d1_126 : decode method_2_code 126 = .ok (.if_icmp .ne 7, 3) := by decide +kernel
theorem d1_129 : decode method_2_code 129 = .ok (.getstatic 49, 3) := by decide +kernel
theorem d1_132 : decode method_2_code 132 = .ok (.areturn, 1) := by decide +kernel
theorem d1_133 : decode method_2_code 133 = .ok (.iload_n 0, 1) := by decide +kernel
theorem d1_134 : decode method_2_code 134 = .ok (.bipush 14, 2) := by decide +kernel
theorem d1_136 : decode method_2_code 136 = .ok (.if_icmp .ne 7, 3) := by decide +kernel
theorem d1_139 : decode method_2_code 139 = .ok (.getstatic 52, 3) := by decide +kernel
theorem d1_142 : decode method_2_code 142 = .ok (.areturn, 1) := by decide +kernel
theorem d1_143 : decode method_2_code 143 = .ok (.iload_n 0, 1) := by decide +kernel
theorem d1_144 : decode method_2_code 144 = .ok (.bipush 15, 2) := by decide +kernel
theorem d1_146 : decode method_2_code 146 = .ok (.if_icmp .ne 7, 3) := by decide +kernel
theorem d1_149 : decode method_2_code 149 = .ok (.getstatic 55, 3) := by decide +kernel
theorem d1_152 : decode method_2_code 152 = .ok (.areturn, 1) := by decide +kernel
theorem d1_153 : decode method_2_code 153 = .ok (.iload_n 0, 1) := by decide +kernel
theorem d1_154 : decode method_2_code 154 = .ok (.bipush 16, 2) := by decide +kernel
theorem d1_156 : decode method_2_code 156 = .ok (.if_icmp .ne 7, 3) := by decide +kernel
theorem d1_159 : decode method_2_code 159 = .ok (.getstatic 58, 3) := by decide +kernel
theorem d1_162 : decode method_2_code 162 = .ok (.areturn, 1) := by decide +kernel
theorem d1_163 : decode method_2_code 163 = .ok (.getstatic 61, 3) := by decide +kernel
theorem d1_166 : decode method_2_code 166 = .ok (.areturn, 1) := by decide +kernel
theorem pn_1 : plainFor (⟨"com/example/tuplelift/tuplelift/service/FunctionTakesPinLaw", "fn", "(I)Lcom/example/tuplelift/tuplelift/service/Expression$Function;"⟩ : MethodName) = true := plainFor_of_name (by show plainName "com/example/tuplelift/tuplelift/service/FunctionTakesPinLaw" = true; first | (simp [plainName, overriddenIn]; done) | decide +kernel)
theorem ef_1 (m : MethodId) (x0 : Int32) : entryFrame m #[(.int x0)] 1 = mkF m 0 #[.val (.int x0)] [] := by first | (simp [entryFrame, mkF, argsToLocals, Value.category]; done) | rfl
def own_f1 (p0 : Int32) (kA : Nat → Addr) : Addr :=
  if p0 = 0 then
    (kA 0)
  else
    if p0 = (1 : Int32) then
      (kA 1)
    else
      if p0 = (2 : Int32) then
        (kA 2)
      else
        if p0 = (3 : Int32) then
          (kA 3)
        else
          if p0 = (4 : Int32) then
            (kA 4)
          else
            if p0 = (5 : Int32) then
              (kA 5)
            else
              if p0 = (6 : Int32) then
                (kA 6)
              else
                if p0 = (7 : Int32) then
                  (kA 7)
                else
                  if p0 = (8 : Int32) then
                    (kA 8)
                  else
                    if p0 = (9 : Int32) then
                      (kA 9)
                    else
                      if p0 = (10 : Int32) then
                        (kA 10)
                      else
                        if p0 = (11 : Int32) then
                          (kA 11)
                        else
                          if p0 = (12 : Int32) then
                            (kA 12)
                          else
                            if p0 = (13 : Int32) then
                              (kA 13)
                            else
                              if p0 = (14 : Int32) then
                                (kA 14)
                              else
                                if p0 = (15 : Int32) then
                                  (kA 15)
                                else
                                  if p0 = (16 : Int32) then
                                    (kA 16)
                                  else
                                    (kA 17)
set_option maxRecDepth 65536 in
set_option maxHeartbeats 40000000 in
theorem rm1 (l : Launch) (Z : State) (a0 : Array Value) (hw : ∀ d ∈ tables_1, d.before a0 Z = true) (p0 : Int32) (h0 : Heap) (n0 : Nat) (Z0 : n0 ≤ h0.size) (kA : Nat → Addr) (S_OR : Sta Z h0 "com/example/tuplelift/tuplelift/service/Expression$Function" "OR" "Lcom/example/tuplelift/tuplelift/service/Expression$Function;" (.ref (kA 0))) (S_AND : Sta Z h0 "com/example/tuplelift/tuplelift/service/Expression$Function" "AND" "Lcom/example/tuplelift/tuplelift/service/Expression$Function;" (.ref (kA 1))) (S_EQUAL : Sta Z h0 "com/example/tuplelift/tuplelift/service/Expression$Function" "EQUAL" "Lcom/example/tuplelift/tuplelift/service/Expression$Function;" (.ref (kA 2))) (S_ADD : Sta Z h0 "com/example/tuplelift/tuplelift/service/Expression$Function" "ADD" "Lcom/example/tuplelift/tuplelift/service/Expression$Function;" (.ref (kA 3))) (S_LANGMATCHES : Sta Z h0 "com/example/tuplelift/tuplelift/service/Expression$Function" "LANGMATCHES" "Lcom/example/tuplelift/tuplelift/service/Expression$Function;" (.ref (kA 4))) (S_IN : Sta Z h0 "com/example/tuplelift/tuplelift/service/Expression$Function" "IN" "Lcom/example/tuplelift/tuplelift/service/Expression$Function;" (.ref (kA 5))) (S_NOT_IN : Sta Z h0 "com/example/tuplelift/tuplelift/service/Expression$Function" "NOT_IN" "Lcom/example/tuplelift/tuplelift/service/Expression$Function;" (.ref (kA 6))) (S_NOT : Sta Z h0 "com/example/tuplelift/tuplelift/service/Expression$Function" "NOT" "Lcom/example/tuplelift/tuplelift/service/Expression$Function;" (.ref (kA 7))) (S_STR : Sta Z h0 "com/example/tuplelift/tuplelift/service/Expression$Function" "STR" "Lcom/example/tuplelift/tuplelift/service/Expression$Function;" (.ref (kA 8))) (S_BNODE : Sta Z h0 "com/example/tuplelift/tuplelift/service/Expression$Function" "BNODE" "Lcom/example/tuplelift/tuplelift/service/Expression$Function;" (.ref (kA 9))) (S_RAND : Sta Z h0 "com/example/tuplelift/tuplelift/service/Expression$Function" "RAND" "Lcom/example/tuplelift/tuplelift/service/Expression$Function;" (.ref (kA 10))) (S_CONCAT : Sta Z h0 "com/example/tuplelift/tuplelift/service/Expression$Function" "CONCAT" "Lcom/example/tuplelift/tuplelift/service/Expression$Function;" (.ref (kA 11))) (S_COALESCE : Sta Z h0 "com/example/tuplelift/tuplelift/service/Expression$Function" "COALESCE" "Lcom/example/tuplelift/tuplelift/service/Expression$Function;" (.ref (kA 12))) (S_UNDEFINED : Sta Z h0 "com/example/tuplelift/tuplelift/service/Expression$Function" "UNDEFINED" "Lcom/example/tuplelift/tuplelift/service/Expression$Function;" (.ref (kA 13))) (S_SUBSTR : Sta Z h0 "com/example/tuplelift/tuplelift/service/Expression$Function" "SUBSTR" "Lcom/example/tuplelift/tuplelift/service/Expression$Function;" (.ref (kA 14))) (S_REGEX : Sta Z h0 "com/example/tuplelift/tuplelift/service/Expression$Function" "REGEX" "Lcom/example/tuplelift/tuplelift/service/Expression$Function;" (.ref (kA 15))) (S_REPLACE : Sta Z h0 "com/example/tuplelift/tuplelift/service/Expression$Function" "REPLACE" "Lcom/example/tuplelift/tuplelift/service/Expression$Function;" (.ref (kA 16))) (S_IF : Sta Z h0 "com/example/tuplelift/tuplelift/service/Expression$Function" "IF" "Lcom/example/tuplelift/tuplelift/service/Expression$Function;" (.ref (kA 17))) :
    own_Met l (⟨"com/example/tuplelift/tuplelift/service/FunctionTakesPinLaw", "fn", "(I)Lcom/example/tuplelift/tuplelift/service/Expression$Function;"⟩ : MethodName) method_2_code 1 (some (.object "com/example/tuplelift/tuplelift/service/Expression$Function")) ({ frames := 0, cells := 0, slots := 0, locals := 0 } : Room) Z [] #[(.int p0)] h0 (own_P (some (.ref (own_f1 p0 kA))) h0 n0) := by
  refine own_enter pn_1 ?_
  intro p e s m below meth c s₁ hx hby hml hown hnm hret hlk hZ e0 X0
  rw [ef_1]
  have N0 := Fr.nil n0
  show own_Fin _ _ _ _ _ _ _ (s₁.setTop (mkF m 0 #[.val (.int p0)] []))
  refine own_go (fun _ k => XS.iloadN X0.here hx rfl (hb hby d1_0) rfl k) ?_
  show own_Fin _ _ _ _ _ _ _ (s₁.setTop (mkF m 1 #[.val (.int p0)] [(.int p0)]))
  by_cases hc1 : p0 = 0
  · refine own_go (fun _ k => XS.ifNo X0.here hx rfl (hb hby d1_1) rfl (XT.i0_ne_f hc1) k) ?_
    show own_Fin _ _ _ _ _ _ _ (s₁.setTop (mkF m 4 #[.val (.int p0)] []))
    refine own_getS X0 hx hZ hown (host := "") (Or.inl (hw _ (List.mem_of_getElem? (i := 5) rfl))) Via.refl e0 S_OR (hb hby d1_4) ?_
    intro T1 X1 e1
    show own_Fin _ _ _ _ _ _ _ (T1.setTop (mkF m 7 #[.val (.int p0)] [(.ref (kA 0))]))
    exact own_retA X1 hx hlk hret rfl rfl (hb hby d1_7) (by decide) (by decide) ⟨(by rw [own_f1, if_pos hc1]), N0, e1⟩
  · refine own_go (fun _ k => XS.ifYes X0.here hx rfl (pc0 := 1) (pc' := 8) rfl (hb hby d1_1) rfl (XT.i0_ne_t hc1) (by decide) (by decide) k) ?_
    show own_Fin _ _ _ _ _ _ _ (s₁.setTop (mkF m 8 #[.val (.int p0)] []))
    refine own_go (fun _ k => XS.iloadN X0.here hx rfl (hb hby d1_8) rfl k) ?_
    show own_Fin _ _ _ _ _ _ _ (s₁.setTop (mkF m 9 #[.val (.int p0)] [(.int p0)]))
    refine own_go (fun _ k => XS.iconst X0.here hx rfl (hb hby d1_9) k) ?_
    show own_Fin _ _ _ _ _ _ _ (s₁.setTop (mkF m 10 #[.val (.int p0)] [(.int (1 : Int32)), (.int p0)]))
    by_cases hc10 : p0 = (1 : Int32)
    · refine own_go (fun _ k => XS.icmpNo X0.here hx rfl (hb hby d1_10) rfl (XT.ii_ne_f hc10) k) ?_
      show own_Fin _ _ _ _ _ _ _ (s₁.setTop (mkF m 13 #[.val (.int p0)] []))
      refine own_getS X0 hx hZ hown (host := "") (Or.inl (hw _ (List.mem_of_getElem? (i := 20) rfl))) Via.refl e0 S_AND (hb hby d1_13) ?_
      intro T2 X2 e2
      show own_Fin _ _ _ _ _ _ _ (T2.setTop (mkF m 16 #[.val (.int p0)] [(.ref (kA 1))]))
      exact own_retA X2 hx hlk hret rfl rfl (hb hby d1_16) (by decide) (by decide) ⟨(by rw [own_f1, if_neg hc1, if_pos hc10]), N0, e2⟩
    · refine own_go (fun _ k => XS.icmpYes X0.here hx rfl (pc0 := 10) (pc' := 17) rfl (hb hby d1_10) rfl (XT.ii_ne_t hc10) (by decide) (by decide) k) ?_
      show own_Fin _ _ _ _ _ _ _ (s₁.setTop (mkF m 17 #[.val (.int p0)] []))
      refine own_go (fun _ k => XS.iloadN X0.here hx rfl (hb hby d1_17) rfl k) ?_
      show own_Fin _ _ _ _ _ _ _ (s₁.setTop (mkF m 18 #[.val (.int p0)] [(.int p0)]))
      refine own_go (fun _ k => XS.iconst X0.here hx rfl (hb hby d1_18) k) ?_
      show own_Fin _ _ _ _ _ _ _ (s₁.setTop (mkF m 19 #[.val (.int p0)] [(.int (2 : Int32)), (.int p0)]))
      by_cases hc19 : p0 = (2 : Int32)
      · refine own_go (fun _ k => XS.icmpNo X0.here hx rfl (hb hby d1_19) rfl (XT.ii_ne_f hc19) k) ?_
        show own_Fin _ _ _ _ _ _ _ (s₁.setTop (mkF m 22 #[.val (.int p0)] []))
        refine own_getS X0 hx hZ hown (host := "") (Or.inl (hw _ (List.mem_of_getElem? (i := 22) rfl))) Via.refl e0 S_EQUAL (hb hby d1_22) ?_
        intro T3 X3 e3
        show own_Fin _ _ _ _ _ _ _ (T3.setTop (mkF m 25 #[.val (.int p0)] [(.ref (kA 2))]))
        exact own_retA X3 hx hlk hret rfl rfl (hb hby d1_25) (by decide) (by decide) ⟨(by rw [own_f1, if_neg hc1, if_neg hc10, if_pos hc19]), N0, e3⟩
      · refine own_go (fun _ k => XS.icmpYes X0.here hx rfl (pc0 := 19) (pc' := 26) rfl (hb hby d1_19) rfl (XT.ii_ne_t hc19) (by decide) (by decide) k) ?_
        show own_Fin _ _ _ _ _ _ _ (s₁.setTop (mkF m 26 #[.val (.int p0)] []))
        refine own_go (fun _ k => XS.iloadN X0.here hx rfl (hb hby d1_26) rfl k) ?_
        show own_Fin _ _ _ _ _ _ _ (s₁.setTop (mkF m 27 #[.val (.int p0)] [(.int p0)]))
        refine own_go (fun _ k => XS.iconst X0.here hx rfl (hb hby d1_27) k) ?_
        show own_Fin _ _ _ _ _ _ _ (s₁.setTop (mkF m 28 #[.val (.int p0)] [(.int (3 : Int32)), (.int p0)]))
        by_cases hc28 : p0 = (3 : Int32)
        · refine own_go (fun _ k => XS.icmpNo X0.here hx rfl (hb hby d1_28) rfl (XT.ii_ne_f hc28) k) ?_
          show own_Fin _ _ _ _ _ _ _ (s₁.setTop (mkF m 31 #[.val (.int p0)] []))
          refine own_getS X0 hx hZ hown (host := "") (Or.inl (hw _ (List.mem_of_getElem? (i := 32) rfl))) Via.refl e0 S_ADD (hb hby d1_31) ?_
          intro T4 X4 e4
          show own_Fin _ _ _ _ _ _ _ (T4.setTop (mkF m 34 #[.val (.int p0)] [(.ref (kA 3))]))
          exact own_retA X4 hx hlk hret rfl rfl (hb hby d1_34) (by decide) (by decide) ⟨(by rw [own_f1, if_neg hc1, if_neg hc10, if_neg hc19, if_pos hc28]), N0, e4⟩
        · refine own_go (fun _ k => XS.icmpYes X0.here hx rfl (pc0 := 28) (pc' := 35) rfl (hb hby d1_28) rfl (XT.ii_ne_t hc28) (by decide) (by decide) k) ?_
          show own_Fin _ _ _ _ _ _ _ (s₁.setTop (mkF m 35 #[.val (.int p0)] []))
          refine own_go (fun _ k => XS.iloadN X0.here hx rfl (hb hby d1_35) rfl k) ?_
          show own_Fin _ _ _ _ _ _ _ (s₁.setTop (mkF m 36 #[.val (.int p0)] [(.int p0)]))
          refine own_go (fun _ k => XS.iconst X0.here hx rfl (hb hby d1_36) k) ?_
          show own_Fin _ _ _ _ _ _ _ (s₁.setTop (mkF m 37 #[.val (.int p0)] [(.int (4 : Int32)), (.int p0)]))
          by_cases hc37 : p0 = (4 : Int32)
          · refine own_go (fun _ k => XS.icmpNo X0.here hx rfl (hb hby d1_37) rfl (XT.ii_ne_f hc37) k) ?_
            show own_Fin _ _ _ _ _ _ _ (s₁.setTop (mkF m 40 #[.val (.int p0)] []))
            refine own_getS X0 hx hZ hown (host := "") (Or.inl (hw _ (List.mem_of_getElem? (i := 52) rfl))) Via.refl e0 S_LANGMATCHES (hb hby d1_40) ?_
            intro T5 X5 e5
            show own_Fin _ _ _ _ _ _ _ (T5.setTop (mkF m 43 #[.val (.int p0)] [(.ref (kA 4))]))
            exact own_retA X5 hx hlk hret rfl rfl (hb hby d1_43) (by decide) (by decide) ⟨(by rw [own_f1, if_neg hc1, if_neg hc10, if_neg hc19, if_neg hc28, if_pos hc37]), N0, e5⟩
          · refine own_go (fun _ k => XS.icmpYes X0.here hx rfl (pc0 := 37) (pc' := 44) rfl (hb hby d1_37) rfl (XT.ii_ne_t hc37) (by decide) (by decide) k) ?_
            show own_Fin _ _ _ _ _ _ _ (s₁.setTop (mkF m 44 #[.val (.int p0)] []))
            refine own_go (fun _ k => XS.iloadN X0.here hx rfl (hb hby d1_44) rfl k) ?_
            show own_Fin _ _ _ _ _ _ _ (s₁.setTop (mkF m 45 #[.val (.int p0)] [(.int p0)]))
            refine own_go (fun _ k => XS.iconst X0.here hx rfl (hb hby d1_45) k) ?_
            show own_Fin _ _ _ _ _ _ _ (s₁.setTop (mkF m 46 #[.val (.int p0)] [(.int (5 : Int32)), (.int p0)]))
            by_cases hc46 : p0 = (5 : Int32)
            · refine own_go (fun _ k => XS.icmpNo X0.here hx rfl (hb hby d1_46) rfl (XT.ii_ne_f hc46) k) ?_
              show own_Fin _ _ _ _ _ _ _ (s₁.setTop (mkF m 49 #[.val (.int p0)] []))
              refine own_getS X0 hx hZ hown (host := "") (Or.inl (hw _ (List.mem_of_getElem? (i := 48) rfl))) Via.refl e0 S_IN (hb hby d1_49) ?_
              intro T6 X6 e6
              show own_Fin _ _ _ _ _ _ _ (T6.setTop (mkF m 52 #[.val (.int p0)] [(.ref (kA 5))]))
              exact own_retA X6 hx hlk hret rfl rfl (hb hby d1_52) (by decide) (by decide) ⟨(by rw [own_f1, if_neg hc1, if_neg hc10, if_neg hc19, if_neg hc28, if_neg hc37, if_pos hc46]), N0, e6⟩
            · refine own_go (fun _ k => XS.icmpYes X0.here hx rfl (pc0 := 46) (pc' := 53) rfl (hb hby d1_46) rfl (XT.ii_ne_t hc46) (by decide) (by decide) k) ?_
              show own_Fin _ _ _ _ _ _ _ (s₁.setTop (mkF m 53 #[.val (.int p0)] []))
              refine own_go (fun _ k => XS.iloadN X0.here hx rfl (hb hby d1_53) rfl k) ?_
              show own_Fin _ _ _ _ _ _ _ (s₁.setTop (mkF m 54 #[.val (.int p0)] [(.int p0)]))
              refine own_go (fun _ k => XS.bipush X0.here hx rfl (hb hby d1_54) k) ?_
              show own_Fin _ _ _ _ _ _ _ (s₁.setTop (mkF m 56 #[.val (.int p0)] [(.int (6 : Int32)), (.int p0)]))
              by_cases hc56 : p0 = (6 : Int32)
              · refine own_go (fun _ k => XS.icmpNo X0.here hx rfl (hb hby d1_56) rfl (XT.ii_ne_f hc56) k) ?_
                show own_Fin _ _ _ _ _ _ _ (s₁.setTop (mkF m 59 #[.val (.int p0)] []))
                refine own_getS X0 hx hZ hown (host := "") (Or.inl (hw _ (List.mem_of_getElem? (i := 28) rfl))) Via.refl e0 S_NOT_IN (hb hby d1_59) ?_
                intro T7 X7 e7
                show own_Fin _ _ _ _ _ _ _ (T7.setTop (mkF m 62 #[.val (.int p0)] [(.ref (kA 6))]))
                exact own_retA X7 hx hlk hret rfl rfl (hb hby d1_62) (by decide) (by decide) ⟨(by rw [own_f1, if_neg hc1, if_neg hc10, if_neg hc19, if_neg hc28, if_neg hc37, if_neg hc46, if_pos hc56]), N0, e7⟩
              · refine own_go (fun _ k => XS.icmpYes X0.here hx rfl (pc0 := 56) (pc' := 63) rfl (hb hby d1_56) rfl (XT.ii_ne_t hc56) (by decide) (by decide) k) ?_
                show own_Fin _ _ _ _ _ _ _ (s₁.setTop (mkF m 63 #[.val (.int p0)] []))
                refine own_go (fun _ k => XS.iloadN X0.here hx rfl (hb hby d1_63) rfl k) ?_
                show own_Fin _ _ _ _ _ _ _ (s₁.setTop (mkF m 64 #[.val (.int p0)] [(.int p0)]))
                refine own_go (fun _ k => XS.bipush X0.here hx rfl (hb hby d1_64) k) ?_
                show own_Fin _ _ _ _ _ _ _ (s₁.setTop (mkF m 66 #[.val (.int p0)] [(.int (7 : Int32)), (.int p0)]))
                by_cases hc66 : p0 = (7 : Int32)
                · refine own_go (fun _ k => XS.icmpNo X0.here hx rfl (hb hby d1_66) rfl (XT.ii_ne_f hc66) k) ?_
                  show own_Fin _ _ _ _ _ _ _ (s₁.setTop (mkF m 69 #[.val (.int p0)] []))
                  refine own_getS X0 hx hZ hown (host := "") (Or.inl (hw _ (List.mem_of_getElem? (i := 30) rfl))) Via.refl e0 S_NOT (hb hby d1_69) ?_
                  intro T8 X8 e8
                  show own_Fin _ _ _ _ _ _ _ (T8.setTop (mkF m 72 #[.val (.int p0)] [(.ref (kA 7))]))
                  exact own_retA X8 hx hlk hret rfl rfl (hb hby d1_72) (by decide) (by decide) ⟨(by rw [own_f1, if_neg hc1, if_neg hc10, if_neg hc19, if_neg hc28, if_neg hc37, if_neg hc46, if_neg hc56, if_pos hc66]), N0, e8⟩
                · refine own_go (fun _ k => XS.icmpYes X0.here hx rfl (pc0 := 66) (pc' := 73) rfl (hb hby d1_66) rfl (XT.ii_ne_t hc66) (by decide) (by decide) k) ?_
                  show own_Fin _ _ _ _ _ _ _ (s₁.setTop (mkF m 73 #[.val (.int p0)] []))
                  refine own_go (fun _ k => XS.iloadN X0.here hx rfl (hb hby d1_73) rfl k) ?_
                  show own_Fin _ _ _ _ _ _ _ (s₁.setTop (mkF m 74 #[.val (.int p0)] [(.int p0)]))
                  refine own_go (fun _ k => XS.bipush X0.here hx rfl (hb hby d1_74) k) ?_
                  show own_Fin _ _ _ _ _ _ _ (s₁.setTop (mkF m 76 #[.val (.int p0)] [(.int (8 : Int32)), (.int p0)]))
                  by_cases hc76 : p0 = (8 : Int32)
                  · refine own_go (fun _ k => XS.icmpNo X0.here hx rfl (hb hby d1_76) rfl (XT.ii_ne_f hc76) k) ?_
                    show own_Fin _ _ _ _ _ _ _ (s₁.setTop (mkF m 79 #[.val (.int p0)] []))
                    refine own_getS X0 hx hZ hown (host := "") (Or.inl (hw _ (List.mem_of_getElem? (i := 26) rfl))) Via.refl e0 S_STR (hb hby d1_79) ?_
                    intro T9 X9 e9
                    show own_Fin _ _ _ _ _ _ _ (T9.setTop (mkF m 82 #[.val (.int p0)] [(.ref (kA 8))]))
                    exact own_retA X9 hx hlk hret rfl rfl (hb hby d1_82) (by decide) (by decide) ⟨(by rw [own_f1, if_neg hc1, if_neg hc10, if_neg hc19, if_neg hc28, if_neg hc37, if_neg hc46, if_neg hc56, if_neg hc66, if_pos hc76]), N0, e9⟩
                  · refine own_go (fun _ k => XS.icmpYes X0.here hx rfl (pc0 := 76) (pc' := 83) rfl (hb hby d1_76) rfl (XT.ii_ne_t hc76) (by decide) (by decide) k) ?_
                    show own_Fin _ _ _ _ _ _ _ (s₁.setTop (mkF m 83 #[.val (.int p0)] []))
                    refine own_go (fun _ k => XS.iloadN X0.here hx rfl (hb hby d1_83) rfl k) ?_
                    show own_Fin _ _ _ _ _ _ _ (s₁.setTop (mkF m 84 #[.val (.int p0)] [(.int p0)]))
                    refine own_go (fun _ k => XS.bipush X0.here hx rfl (hb hby d1_84) k) ?_
                    show own_Fin _ _ _ _ _ _ _ (s₁.setTop (mkF m 86 #[.val (.int p0)] [(.int (9 : Int32)), (.int p0)]))
                    by_cases hc86 : p0 = (9 : Int32)
                    · refine own_go (fun _ k => XS.icmpNo X0.here hx rfl (hb hby d1_86) rfl (XT.ii_ne_f hc86) k) ?_
                      show own_Fin _ _ _ _ _ _ _ (s₁.setTop (mkF m 89 #[.val (.int p0)] []))
                      refine own_getS X0 hx hZ hown (host := "") (Or.inl (hw _ (List.mem_of_getElem? (i := 44) rfl))) Via.refl e0 S_BNODE (hb hby d1_89) ?_
                      intro T10 X10 e10
                      show own_Fin _ _ _ _ _ _ _ (T10.setTop (mkF m 92 #[.val (.int p0)] [(.ref (kA 9))]))
                      exact own_retA X10 hx hlk hret rfl rfl (hb hby d1_92) (by decide) (by decide) ⟨(by rw [own_f1, if_neg hc1, if_neg hc10, if_neg hc19, if_neg hc28, if_neg hc37, if_neg hc46, if_neg hc56, if_neg hc66, if_neg hc76, if_pos hc86]), N0, e10⟩
                    · refine own_go (fun _ k => XS.icmpYes X0.here hx rfl (pc0 := 86) (pc' := 93) rfl (hb hby d1_86) rfl (XT.ii_ne_t hc86) (by decide) (by decide) k) ?_
                      show own_Fin _ _ _ _ _ _ _ (s₁.setTop (mkF m 93 #[.val (.int p0)] []))
                      refine own_go (fun _ k => XS.iloadN X0.here hx rfl (hb hby d1_93) rfl k) ?_
                      show own_Fin _ _ _ _ _ _ _ (s₁.setTop (mkF m 94 #[.val (.int p0)] [(.int p0)]))
                      refine own_go (fun _ k => XS.bipush X0.here hx rfl (hb hby d1_94) k) ?_
                      show own_Fin _ _ _ _ _ _ _ (s₁.setTop (mkF m 96 #[.val (.int p0)] [(.int (10 : Int32)), (.int p0)]))
                      by_cases hc96 : p0 = (10 : Int32)
                      · refine own_go (fun _ k => XS.icmpNo X0.here hx rfl (hb hby d1_96) rfl (XT.ii_ne_f hc96) k) ?_
                        show own_Fin _ _ _ _ _ _ _ (s₁.setTop (mkF m 99 #[.val (.int p0)] []))
                        refine own_getS X0 hx hZ hown (host := "") (Or.inl (hw _ (List.mem_of_getElem? (i := 34) rfl))) Via.refl e0 S_RAND (hb hby d1_99) ?_
                        intro T11 X11 e11
                        show own_Fin _ _ _ _ _ _ _ (T11.setTop (mkF m 102 #[.val (.int p0)] [(.ref (kA 10))]))
                        exact own_retA X11 hx hlk hret rfl rfl (hb hby d1_102) (by decide) (by decide) ⟨(by rw [own_f1, if_neg hc1, if_neg hc10, if_neg hc19, if_neg hc28, if_neg hc37, if_neg hc46, if_neg hc56, if_neg hc66, if_neg hc76, if_neg hc86, if_pos hc96]), N0, e11⟩
                      · refine own_go (fun _ k => XS.icmpYes X0.here hx rfl (pc0 := 96) (pc' := 103) rfl (hb hby d1_96) rfl (XT.ii_ne_t hc96) (by decide) (by decide) k) ?_
                        show own_Fin _ _ _ _ _ _ _ (s₁.setTop (mkF m 103 #[.val (.int p0)] []))
                        refine own_go (fun _ k => XS.iloadN X0.here hx rfl (hb hby d1_103) rfl k) ?_
                        show own_Fin _ _ _ _ _ _ _ (s₁.setTop (mkF m 104 #[.val (.int p0)] [(.int p0)]))
                        refine own_go (fun _ k => XS.bipush X0.here hx rfl (hb hby d1_104) k) ?_
                        show own_Fin _ _ _ _ _ _ _ (s₁.setTop (mkF m 106 #[.val (.int p0)] [(.int (11 : Int32)), (.int p0)]))
                        by_cases hc106 : p0 = (11 : Int32)
                        · refine own_go (fun _ k => XS.icmpNo X0.here hx rfl (hb hby d1_106) rfl (XT.ii_ne_f hc106) k) ?_
                          show own_Fin _ _ _ _ _ _ _ (s₁.setTop (mkF m 109 #[.val (.int p0)] []))
                          refine own_getS X0 hx hZ hown (host := "") (Or.inl (hw _ (List.mem_of_getElem? (i := 40) rfl))) Via.refl e0 S_CONCAT (hb hby d1_109) ?_
                          intro T12 X12 e12
                          show own_Fin _ _ _ _ _ _ _ (T12.setTop (mkF m 112 #[.val (.int p0)] [(.ref (kA 11))]))
                          exact own_retA X12 hx hlk hret rfl rfl (hb hby d1_112) (by decide) (by decide) ⟨(by rw [own_f1, if_neg hc1, if_neg hc10, if_neg hc19, if_neg hc28, if_neg hc37, if_neg hc46, if_neg hc56, if_neg hc66, if_neg hc76, if_neg hc86, if_neg hc96, if_pos hc106]), N0, e12⟩
                        · refine own_go (fun _ k => XS.icmpYes X0.here hx rfl (pc0 := 106) (pc' := 113) rfl (hb hby d1_106) rfl (XT.ii_ne_t hc106) (by decide) (by decide) k) ?_
                          show own_Fin _ _ _ _ _ _ _ (s₁.setTop (mkF m 113 #[.val (.int p0)] []))
                          refine own_go (fun _ k => XS.iloadN X0.here hx rfl (hb hby d1_113) rfl k) ?_
                          show own_Fin _ _ _ _ _ _ _ (s₁.setTop (mkF m 114 #[.val (.int p0)] [(.int p0)]))
                          refine own_go (fun _ k => XS.bipush X0.here hx rfl (hb hby d1_114) k) ?_
                          show own_Fin _ _ _ _ _ _ _ (s₁.setTop (mkF m 116 #[.val (.int p0)] [(.int (12 : Int32)), (.int p0)]))
                          by_cases hc116 : p0 = (12 : Int32)
                          · refine own_go (fun _ k => XS.icmpNo X0.here hx rfl (hb hby d1_116) rfl (XT.ii_ne_f hc116) k) ?_
                            show own_Fin _ _ _ _ _ _ _ (s₁.setTop (mkF m 119 #[.val (.int p0)] []))
                            refine own_getS X0 hx hZ hown (host := "") (Or.inl (hw _ (List.mem_of_getElem? (i := 38) rfl))) Via.refl e0 S_COALESCE (hb hby d1_119) ?_
                            intro T13 X13 e13
                            show own_Fin _ _ _ _ _ _ _ (T13.setTop (mkF m 122 #[.val (.int p0)] [(.ref (kA 12))]))
                            exact own_retA X13 hx hlk hret rfl rfl (hb hby d1_122) (by decide) (by decide) ⟨(by rw [own_f1, if_neg hc1, if_neg hc10, if_neg hc19, if_neg hc28, if_neg hc37, if_neg hc46, if_neg hc56, if_neg hc66, if_neg hc76, if_neg hc86, if_neg hc96, if_neg hc106, if_pos hc116]), N0, e13⟩
                          · refine own_go (fun _ k => XS.icmpYes X0.here hx rfl (pc0 := 116) (pc' := 123) rfl (hb hby d1_116) rfl (XT.ii_ne_t hc116) (by decide) (by decide) k) ?_
                            show own_Fin _ _ _ _ _ _ _ (s₁.setTop (mkF m 123 #[.val (.int p0)] []))
                            refine own_go (fun _ k => XS.iloadN X0.here hx rfl (hb hby d1_123) rfl k) ?_
                            show own_Fin _ _ _ _ _ _ _ (s₁.setTop (mkF m 124 #[.val (.int p0)] [(.int p0)]))
                            refine own_go (fun _ k => XS.bipush X0.here hx rfl (hb hby d1_124) k) ?_
                            show own_Fin _ _ _ _ _ _ _ (s₁.setTop (mkF m 126 #[.val (.int p0)] [(.int (13 : Int32)), (.int p0)]))
                            by_cases hc126 : p0 = (13 : Int32)
                            · refine own_go (fun _ k => XS.icmpNo X0.here hx rfl (hb hby d1_126) rfl (XT.ii_ne_f hc126) k) ?_
                              show own_Fin _ _ _ _ _ _ _ (s₁.setTop (mkF m 129 #[.val (.int p0)] []))
                              refine own_getS X0 hx hZ hown (host := "") (Or.inl (hw _ (List.mem_of_getElem? (i := 42) rfl))) Via.refl e0 S_UNDEFINED (hb hby d1_129) ?_
                              intro T14 X14 e14
                              show own_Fin _ _ _ _ _ _ _ (T14.setTop (mkF m 132 #[.val (.int p0)] [(.ref (kA 13))]))
                              exact own_retA X14 hx hlk hret rfl rfl (hb hby d1_132) (by decide) (by decide) ⟨(by rw [own_f1, if_neg hc1, if_neg hc10, if_neg hc19, if_neg hc28, if_neg hc37, if_neg hc46, if_neg hc56, if_neg hc66, if_neg hc76, if_neg hc86, if_neg hc96, if_neg hc106, if_neg hc116, if_pos hc126]), N0, e14⟩
                            · refine own_go (fun _ k => XS.icmpYes X0.here hx rfl (pc0 := 126) (pc' := 133) rfl (hb hby d1_126) rfl (XT.ii_ne_t hc126) (by decide) (by decide) k) ?_
                              show own_Fin _ _ _ _ _ _ _ (s₁.setTop (mkF m 133 #[.val (.int p0)] []))
                              refine own_go (fun _ k => XS.iloadN X0.here hx rfl (hb hby d1_133) rfl k) ?_
                              show own_Fin _ _ _ _ _ _ _ (s₁.setTop (mkF m 134 #[.val (.int p0)] [(.int p0)]))
                              refine own_go (fun _ k => XS.bipush X0.here hx rfl (hb hby d1_134) k) ?_
                              show own_Fin _ _ _ _ _ _ _ (s₁.setTop (mkF m 136 #[.val (.int p0)] [(.int (14 : Int32)), (.int p0)]))
                              by_cases hc136 : p0 = (14 : Int32)
                              · refine own_go (fun _ k => XS.icmpNo X0.here hx rfl (hb hby d1_136) rfl (XT.ii_ne_f hc136) k) ?_
                                show own_Fin _ _ _ _ _ _ _ (s₁.setTop (mkF m 139 #[.val (.int p0)] []))
                                refine own_getS X0 hx hZ hown (host := "") (Or.inl (hw _ (List.mem_of_getElem? (i := 50) rfl))) Via.refl e0 S_SUBSTR (hb hby d1_139) ?_
                                intro T15 X15 e15
                                show own_Fin _ _ _ _ _ _ _ (T15.setTop (mkF m 142 #[.val (.int p0)] [(.ref (kA 14))]))
                                exact own_retA X15 hx hlk hret rfl rfl (hb hby d1_142) (by decide) (by decide) ⟨(by rw [own_f1, if_neg hc1, if_neg hc10, if_neg hc19, if_neg hc28, if_neg hc37, if_neg hc46, if_neg hc56, if_neg hc66, if_neg hc76, if_neg hc86, if_neg hc96, if_neg hc106, if_neg hc116, if_neg hc126, if_pos hc136]), N0, e15⟩
                              · refine own_go (fun _ k => XS.icmpYes X0.here hx rfl (pc0 := 136) (pc' := 143) rfl (hb hby d1_136) rfl (XT.ii_ne_t hc136) (by decide) (by decide) k) ?_
                                show own_Fin _ _ _ _ _ _ _ (s₁.setTop (mkF m 143 #[.val (.int p0)] []))
                                refine own_go (fun _ k => XS.iloadN X0.here hx rfl (hb hby d1_143) rfl k) ?_
                                show own_Fin _ _ _ _ _ _ _ (s₁.setTop (mkF m 144 #[.val (.int p0)] [(.int p0)]))
                                refine own_go (fun _ k => XS.bipush X0.here hx rfl (hb hby d1_144) k) ?_
                                show own_Fin _ _ _ _ _ _ _ (s₁.setTop (mkF m 146 #[.val (.int p0)] [(.int (15 : Int32)), (.int p0)]))
                                by_cases hc146 : p0 = (15 : Int32)
                                · refine own_go (fun _ k => XS.icmpNo X0.here hx rfl (hb hby d1_146) rfl (XT.ii_ne_f hc146) k) ?_
                                  show own_Fin _ _ _ _ _ _ _ (s₁.setTop (mkF m 149 #[.val (.int p0)] []))
                                  refine own_getS X0 hx hZ hown (host := "") (Or.inl (hw _ (List.mem_of_getElem? (i := 46) rfl))) Via.refl e0 S_REGEX (hb hby d1_149) ?_
                                  intro T16 X16 e16
                                  show own_Fin _ _ _ _ _ _ _ (T16.setTop (mkF m 152 #[.val (.int p0)] [(.ref (kA 15))]))
                                  exact own_retA X16 hx hlk hret rfl rfl (hb hby d1_152) (by decide) (by decide) ⟨(by rw [own_f1, if_neg hc1, if_neg hc10, if_neg hc19, if_neg hc28, if_neg hc37, if_neg hc46, if_neg hc56, if_neg hc66, if_neg hc76, if_neg hc86, if_neg hc96, if_neg hc106, if_neg hc116, if_neg hc126, if_neg hc136, if_pos hc146]), N0, e16⟩
                                · refine own_go (fun _ k => XS.icmpYes X0.here hx rfl (pc0 := 146) (pc' := 153) rfl (hb hby d1_146) rfl (XT.ii_ne_t hc146) (by decide) (by decide) k) ?_
                                  show own_Fin _ _ _ _ _ _ _ (s₁.setTop (mkF m 153 #[.val (.int p0)] []))
                                  refine own_go (fun _ k => XS.iloadN X0.here hx rfl (hb hby d1_153) rfl k) ?_
                                  show own_Fin _ _ _ _ _ _ _ (s₁.setTop (mkF m 154 #[.val (.int p0)] [(.int p0)]))
                                  refine own_go (fun _ k => XS.bipush X0.here hx rfl (hb hby d1_154) k) ?_
                                  show own_Fin _ _ _ _ _ _ _ (s₁.setTop (mkF m 156 #[.val (.int p0)] [(.int (16 : Int32)), (.int p0)]))
                                  by_cases hc156 : p0 = (16 : Int32)
                                  · refine own_go (fun _ k => XS.icmpNo X0.here hx rfl (hb hby d1_156) rfl (XT.ii_ne_f hc156) k) ?_
                                    show own_Fin _ _ _ _ _ _ _ (s₁.setTop (mkF m 159 #[.val (.int p0)] []))
                                    refine own_getS X0 hx hZ hown (host := "") (Or.inl (hw _ (List.mem_of_getElem? (i := 36) rfl))) Via.refl e0 S_REPLACE (hb hby d1_159) ?_
                                    intro T17 X17 e17
                                    show own_Fin _ _ _ _ _ _ _ (T17.setTop (mkF m 162 #[.val (.int p0)] [(.ref (kA 16))]))
                                    exact own_retA X17 hx hlk hret rfl rfl (hb hby d1_162) (by decide) (by decide) ⟨(by rw [own_f1, if_neg hc1, if_neg hc10, if_neg hc19, if_neg hc28, if_neg hc37, if_neg hc46, if_neg hc56, if_neg hc66, if_neg hc76, if_neg hc86, if_neg hc96, if_neg hc106, if_neg hc116, if_neg hc126, if_neg hc136, if_neg hc146, if_pos hc156]), N0, e17⟩
                                  · refine own_go (fun _ k => XS.icmpYes X0.here hx rfl (pc0 := 156) (pc' := 163) rfl (hb hby d1_156) rfl (XT.ii_ne_t hc156) (by decide) (by decide) k) ?_
                                    show own_Fin _ _ _ _ _ _ _ (s₁.setTop (mkF m 163 #[.val (.int p0)] []))
                                    refine own_getS X0 hx hZ hown (host := "") (Or.inl (hw _ (List.mem_of_getElem? (i := 24) rfl))) Via.refl e0 S_IF (hb hby d1_163) ?_
                                    intro T18 X18 e18
                                    show own_Fin _ _ _ _ _ _ _ (T18.setTop (mkF m 166 #[.val (.int p0)] [(.ref (kA 17))]))
                                    exact own_retA X18 hx hlk hret rfl rfl (hb hby d1_166) (by decide) (by decide) ⟨(by rw [own_f1, if_neg hc1, if_neg hc10, if_neg hc19, if_neg hc28, if_neg hc37, if_neg hc46, if_neg hc56, if_neg hc66, if_neg hc76, if_neg hc86, if_neg hc96, if_neg hc106, if_neg hc116, if_neg hc126, if_neg hc136, if_neg hc146, if_neg hc156]), N0, e18⟩

def own_ix (p0 : Int32) : Nat :=
  if p0 = 0 then 0 else if p0 = (1 : Int32) then 1 else if p0 = (2 : Int32) then 2 else if p0 = (3 : Int32) then 3 else if p0 = (4 : Int32) then 4 else if p0 = (5 : Int32) then 5 else if p0 = (6 : Int32) then 6 else if p0 = (7 : Int32) then 7 else if p0 = (8 : Int32) then 8 else if p0 = (9 : Int32) then 9 else if p0 = (10 : Int32) then 10 else if p0 = (11 : Int32) then 11 else if p0 = (12 : Int32) then 12 else if p0 = (13 : Int32) then 13 else if p0 = (14 : Int32) then 14 else if p0 = (15 : Int32) then 15 else if p0 = (16 : Int32) then 16 else 17
theorem own_iteL {c : Prop} [Decidable c] {a b n : Nat} (h1 : a < n) (h2 : b < n) : (if c then a else b) < n := by split <;> assumption
theorem own_iteA {c : Prop} [Decidable c] (kA : Nat → Addr) {i y : Nat} {x : Addr} (h : x = kA y) : (if c then kA i else x) = kA (if c then i else y) := by split; rfl; exact h
theorem own_ixlt (p0 : Int32) : own_ix p0 < 18 := by
  unfold own_ix
  exact own_iteL (by decide) (own_iteL (by decide) (own_iteL (by decide) (own_iteL (by decide) (own_iteL (by decide) (own_iteL (by decide) (own_iteL (by decide) (own_iteL (by decide) (own_iteL (by decide) (own_iteL (by decide) (own_iteL (by decide) (own_iteL (by decide) (own_iteL (by decide) (own_iteL (by decide) (own_iteL (by decide) (own_iteL (by decide) (own_iteL (by decide) (by decide)))))))))))))))))
theorem own_ixeq (p0 : Int32) (kA : Nat → Addr) : own_f1 p0 kA = kA (own_ix p0) := by
  unfold own_f1 own_ix
  exact own_iteA kA (own_iteA kA (own_iteA kA (own_iteA kA (own_iteA kA (own_iteA kA (own_iteA kA (own_iteA kA (own_iteA kA (own_iteA kA (own_iteA kA (own_iteA kA (own_iteA kA (own_iteA kA (own_iteA kA (own_iteA kA (own_iteA kA (rfl)))))))))))))))))
theorem own_pick {P : Addr → Prop} (p0 : Int32) (kA : Nat → Addr) (h : ∀ i, i < 18 → P (kA i)) : P (own_f1 p0 kA) := by
  rw [own_ixeq]; exact h _ (own_ixlt p0)
def own_few (i : Nat) : Int32 := [(2 : Int32), (2 : Int32), (2 : Int32), (2 : Int32), (2 : Int32), (1 : Int32), (1 : Int32), (1 : Int32), (1 : Int32), (0 : Int32), (0 : Int32), (0 : Int32), (0 : Int32), (0 : Int32), (2 : Int32), (2 : Int32), (3 : Int32), (3 : Int32)].getD i 0
def own_most (i : Nat) : Int32 := [(-1 : Int32), (-1 : Int32), (2 : Int32), (2 : Int32), (2 : Int32), (-1 : Int32), (-1 : Int32), (1 : Int32), (1 : Int32), (1 : Int32), (0 : Int32), (-1 : Int32), (-1 : Int32), (-1 : Int32), (3 : Int32), (3 : Int32), (4 : Int32), (3 : Int32)].getD i 0
theorem own_pickF {Z : State} {h : Heap} {C n : String} {g : Nat → Int32} (p0 : Int32) (kA : Nat → Addr) (q : ∀ i, i < 18 → Fld Z h (kA i) C n "I" (.int (g i))) : Fld Z h (own_f1 p0 kA) C n "I" (.int (g (own_ix p0))) := by
  rw [own_ixeq]; exact q _ (own_ixlt p0)

theorem d2_0 : decode prog_66_method_5_code 0 = .ok (.iload_n 1, 1) := by decide +kernel
theorem d2_1 : decode prog_66_method_5_code 1 = .ok (.aload_n 0, 1) := by decide +kernel
theorem d2_2 : decode prog_66_method_5_code 2 = .ok (.getfield 258, 3) := by decide +kernel
theorem d2_5 : decode prog_66_method_5_code 5 = .ok (.if_icmp .lt 22, 3) := by decide +kernel
theorem d2_8 : decode prog_66_method_5_code 8 = .ok (.aload_n 0, 1) := by decide +kernel
theorem d2_9 : decode prog_66_method_5_code 9 = .ok (.getfield 262, 3) := by decide +kernel
theorem d2_12 : decode prog_66_method_5_code 12 = .ok (.ifCond .lt 11, 3) := by decide +kernel
theorem d2_15 : decode prog_66_method_5_code 15 = .ok (.iload_n 1, 1) := by decide +kernel
theorem d2_16 : decode prog_66_method_5_code 16 = .ok (.aload_n 0, 1) := by decide +kernel
theorem d2_17 : decode prog_66_method_5_code 17 = .ok (.getfield 262, 3) := by decide +kernel
theorem d2_20 : decode prog_66_method_5_code 20 = .ok (.if_icmp .gt 7, 3) := by decide +kernel
theorem d2_23 : decode prog_66_method_5_code 23 = .ok (.iconst 1, 1) := by decide +kernel
theorem d2_24 : decode prog_66_method_5_code 24 = .ok (.goto 4, 3) := by decide +kernel
theorem d2_27 : decode prog_66_method_5_code 27 = .ok (.iconst 0, 1) := by decide +kernel
theorem d2_28 : decode prog_66_method_5_code 28 = .ok (.ireturn, 1) := by decide +kernel
theorem pn_2 : plainFor (⟨"com/example/tuplelift/tuplelift/service/Expression$Function", "takes", "(I)Z"⟩ : MethodName) = true := plainFor_of_name (by show plainName "com/example/tuplelift/tuplelift/service/Expression$Function" = true; first | (simp [plainName, overriddenIn]; done) | decide +kernel)
theorem ef_2 (m : MethodId) (x0 : Addr) (x1 : Int32) : entryFrame m #[(.ref x0), (.int x1)] 2 = mkF m 0 #[.val (.ref x0), .val (.int x1)] [] := by first | (simp [entryFrame, mkF, argsToLocals, Value.category]; done) | rfl
def own_f2 (p1 : Int32) (o0 : Int32) (o1 : Int32) : Int32 :=
  if p1 < o0 then
    (0 : Int32)
  else
    if o1 < 0 then
      (1 : Int32)
    else
      if o1 < p1 then
        (0 : Int32)
      else
        (1 : Int32)
set_option maxRecDepth 65536 in
set_option maxHeartbeats 40000000 in
theorem rm2 (l : Launch) (Z : State) (a0 : Array Value) (hw : ∀ d ∈ tables_1, d.before a0 Z = true) (t0 : Addr) (p1 : Int32) (h0 : Heap) (n0 : Nat) (Z0 : n0 ≤ h0.size) (o0 o1 : Int32) (F0 : Fld Z h0 t0 "com/example/tuplelift/tuplelift/service/Expression$Function" "fewest" "I" (.int o0)) (F1 : Fld Z h0 t0 "com/example/tuplelift/tuplelift/service/Expression$Function" "most" "I" (.int o1)) :
    own_Met l (⟨"com/example/tuplelift/tuplelift/service/Expression$Function", "takes", "(I)Z"⟩ : MethodName) prog_66_method_5_code 2 (some .boolean) ({ frames := 0, cells := 0, slots := 0, locals := 0 } : Room) Z [] #[(.ref t0), (.int p1)] h0 (own_P (some (.int (own_f2 p1 o0 o1))) h0 n0) := by
  refine own_enter pn_2 ?_
  intro p e s m below meth c s₁ hx hby hml hown hnm hret hlk hZ e0 X0
  rw [ef_2]
  have N0 := Fr.nil n0
  show own_Fin _ _ _ _ _ _ _ (s₁.setTop (mkF m 0 #[.val (.ref t0), .val (.int p1)] []))
  refine own_go (fun _ k => XS.iloadN X0.here hx rfl (hb hby d2_0) rfl k) ?_
  show own_Fin _ _ _ _ _ _ _ (s₁.setTop (mkF m 1 #[.val (.ref t0), .val (.int p1)] [(.int p1)]))
  refine own_go (fun _ k => XS.aloadN X0.here hx rfl (hb hby d2_1) rfl rfl k) ?_
  show own_Fin _ _ _ _ _ _ _ (s₁.setTop (mkF m 2 #[.val (.ref t0), .val (.int p1)] [(.ref t0), (.int p1)]))
  refine own_getF X0 hx hZ hown (host := "") (Or.inl (hw _ (List.mem_of_getElem? (i := 13) rfl))) Via.refl e0 F0 (hb hby d2_2) ?_
  intro T1 X1 e1
  show own_Fin _ _ _ _ _ _ _ (T1.setTop (mkF m 5 #[.val (.ref t0), .val (.int p1)] [(.int o0), (.int p1)]))
  by_cases hc5 : p1 < o0
  · refine own_go (fun _ k => XS.icmpYes X1.here hx rfl (pc0 := 5) (pc' := 27) rfl (hb hby d2_5) rfl (XT.ii_lt_t hc5) (by decide) (by decide) k) ?_
    show own_Fin _ _ _ _ _ _ _ (T1.setTop (mkF m 27 #[.val (.ref t0), .val (.int p1)] []))
    refine own_go (fun _ k => XS.iconst X1.here hx rfl (hb hby d2_27) k) ?_
    show own_Fin _ _ _ _ _ _ _ (T1.setTop (mkF m 28 #[.val (.ref t0), .val (.int p1)] [(.int (0 : Int32))]))
    exact own_retZ X1 hx hlk hret rfl (hb hby d2_28) (by decide) (by decide) ⟨(by rw [own_f2, if_pos hc5]), N0, e1⟩
  · refine own_go (fun _ k => XS.icmpNo X1.here hx rfl (hb hby d2_5) rfl (XT.ii_lt_f hc5) k) ?_
    show own_Fin _ _ _ _ _ _ _ (T1.setTop (mkF m 8 #[.val (.ref t0), .val (.int p1)] []))
    refine own_go (fun _ k => XS.aloadN X1.here hx rfl (hb hby d2_8) rfl rfl k) ?_
    show own_Fin _ _ _ _ _ _ _ (T1.setTop (mkF m 9 #[.val (.ref t0), .val (.int p1)] [(.ref t0)]))
    refine own_getF X1 hx hZ hown (host := "") (Or.inl (hw _ (List.mem_of_getElem? (i := 15) rfl))) Via.refl e1 F1 (hb hby d2_9) ?_
    intro T2 X2 e2
    show own_Fin _ _ _ _ _ _ _ (T2.setTop (mkF m 12 #[.val (.ref t0), .val (.int p1)] [(.int o1)]))
    by_cases hc12 : o1 < 0
    · refine own_go (fun _ k => XS.ifYes X2.here hx rfl (pc0 := 12) (pc' := 23) rfl (hb hby d2_12) rfl (XT.i0_lt_t hc12) (by decide) (by decide) k) ?_
      show own_Fin _ _ _ _ _ _ _ (T2.setTop (mkF m 23 #[.val (.ref t0), .val (.int p1)] []))
      refine own_go (fun _ k => XS.iconst X2.here hx rfl (hb hby d2_23) k) ?_
      show own_Fin _ _ _ _ _ _ _ (T2.setTop (mkF m 24 #[.val (.ref t0), .val (.int p1)] [(.int (1 : Int32))]))
      refine own_go (fun _ k => XS.goto X2.here hx rfl (pc0 := 24) (pc' := 28) rfl (hb hby d2_24) (by decide) (by decide) k) ?_
      show own_Fin _ _ _ _ _ _ _ (T2.setTop (mkF m 28 #[.val (.ref t0), .val (.int p1)] [(.int (1 : Int32))]))
      exact own_retZ X2 hx hlk hret rfl (hb hby d2_28) (by decide) (by decide) ⟨(by rw [own_f2, if_neg hc5, if_pos hc12]), N0, e2⟩
    · refine own_go (fun _ k => XS.ifNo X2.here hx rfl (hb hby d2_12) rfl (XT.i0_lt_f hc12) k) ?_
      show own_Fin _ _ _ _ _ _ _ (T2.setTop (mkF m 15 #[.val (.ref t0), .val (.int p1)] []))
      refine own_go (fun _ k => XS.iloadN X2.here hx rfl (hb hby d2_15) rfl k) ?_
      show own_Fin _ _ _ _ _ _ _ (T2.setTop (mkF m 16 #[.val (.ref t0), .val (.int p1)] [(.int p1)]))
      refine own_go (fun _ k => XS.aloadN X2.here hx rfl (hb hby d2_16) rfl rfl k) ?_
      show own_Fin _ _ _ _ _ _ _ (T2.setTop (mkF m 17 #[.val (.ref t0), .val (.int p1)] [(.ref t0), (.int p1)]))
      refine own_getF X2 hx hZ hown (host := "") (Or.inl (hw _ (List.mem_of_getElem? (i := 15) rfl))) Via.refl e2 F1 (hb hby d2_17) ?_
      intro T3 X3 e3
      show own_Fin _ _ _ _ _ _ _ (T3.setTop (mkF m 20 #[.val (.ref t0), .val (.int p1)] [(.int o1), (.int p1)]))
      by_cases hc20 : o1 < p1
      · refine own_go (fun _ k => XS.icmpYes X3.here hx rfl (pc0 := 20) (pc' := 27) rfl (hb hby d2_20) rfl (XT.ii_gt_t hc20) (by decide) (by decide) k) ?_
        show own_Fin _ _ _ _ _ _ _ (T3.setTop (mkF m 27 #[.val (.ref t0), .val (.int p1)] []))
        refine own_go (fun _ k => XS.iconst X3.here hx rfl (hb hby d2_27) k) ?_
        show own_Fin _ _ _ _ _ _ _ (T3.setTop (mkF m 28 #[.val (.ref t0), .val (.int p1)] [(.int (0 : Int32))]))
        exact own_retZ X3 hx hlk hret rfl (hb hby d2_28) (by decide) (by decide) ⟨(by rw [own_f2, if_neg hc5, if_neg hc12, if_pos hc20]), N0, e3⟩
      · refine own_go (fun _ k => XS.icmpNo X3.here hx rfl (hb hby d2_20) rfl (XT.ii_gt_f hc20) k) ?_
        show own_Fin _ _ _ _ _ _ _ (T3.setTop (mkF m 23 #[.val (.ref t0), .val (.int p1)] []))
        refine own_go (fun _ k => XS.iconst X3.here hx rfl (hb hby d2_23) k) ?_
        show own_Fin _ _ _ _ _ _ _ (T3.setTop (mkF m 24 #[.val (.ref t0), .val (.int p1)] [(.int (1 : Int32))]))
        refine own_go (fun _ k => XS.goto X3.here hx rfl (pc0 := 24) (pc' := 28) rfl (hb hby d2_24) (by decide) (by decide) k) ?_
        show own_Fin _ _ _ _ _ _ _ (T3.setTop (mkF m 28 #[.val (.ref t0), .val (.int p1)] [(.int (1 : Int32))]))
        exact own_retZ X3 hx hlk hret rfl (hb hby d2_28) (by decide) (by decide) ⟨(by rw [own_f2, if_neg hc5, if_neg hc12, if_neg hc20]), N0, e3⟩

theorem d3_0 : decode method_3_code 0 = .ok (.iload_n 0, 1) := by decide +kernel
theorem d3_1 : decode method_3_code 1 = .ok (.iconst 1, 1) := by decide +kernel
theorem d3_2 : decode method_3_code 2 = .ok (.if_icmp .gt 14, 3) := by decide +kernel
theorem d3_5 : decode method_3_code 5 = .ok (.iload_n 1, 1) := by decide +kernel
theorem d3_6 : decode method_3_code 6 = .ok (.iconst 2, 1) := by decide +kernel
theorem d3_7 : decode method_3_code 7 = .ok (.if_icmp .lt 7, 3) := by decide +kernel
theorem d3_10 : decode method_3_code 10 = .ok (.iconst 1, 1) := by decide +kernel
theorem d3_11 : decode method_3_code 11 = .ok (.goto 4, 3) := by decide +kernel
theorem d3_14 : decode method_3_code 14 = .ok (.iconst 0, 1) := by decide +kernel
theorem d3_15 : decode method_3_code 15 = .ok (.ireturn, 1) := by decide +kernel
theorem d3_16 : decode method_3_code 16 = .ok (.iload_n 0, 1) := by decide +kernel
theorem d3_17 : decode method_3_code 17 = .ok (.iconst 4, 1) := by decide +kernel
theorem d3_18 : decode method_3_code 18 = .ok (.if_icmp .gt 14, 3) := by decide +kernel
theorem d3_21 : decode method_3_code 21 = .ok (.iload_n 1, 1) := by decide +kernel
theorem d3_22 : decode method_3_code 22 = .ok (.iconst 2, 1) := by decide +kernel
theorem d3_23 : decode method_3_code 23 = .ok (.if_icmp .ne 7, 3) := by decide +kernel
theorem d3_26 : decode method_3_code 26 = .ok (.iconst 1, 1) := by decide +kernel
theorem d3_27 : decode method_3_code 27 = .ok (.goto 4, 3) := by decide +kernel
theorem d3_30 : decode method_3_code 30 = .ok (.iconst 0, 1) := by decide +kernel
theorem d3_31 : decode method_3_code 31 = .ok (.ireturn, 1) := by decide +kernel
theorem d3_32 : decode method_3_code 32 = .ok (.iload_n 0, 1) := by decide +kernel
theorem d3_33 : decode method_3_code 33 = .ok (.bipush 6, 2) := by decide +kernel
theorem d3_35 : decode method_3_code 35 = .ok (.if_icmp .gt 14, 3) := by decide +kernel
theorem d3_38 : decode method_3_code 38 = .ok (.iload_n 1, 1) := by decide +kernel
theorem d3_39 : decode method_3_code 39 = .ok (.iconst 1, 1) := by decide +kernel
theorem d3_40 : decode method_3_code 40 = .ok (.if_icmp .lt 7, 3) := by decide +kernel
theorem d3_43 : decode method_3_code 43 = .ok (.iconst 1, 1) := by decide +kernel
theorem d3_44 : decode method_3_code 44 = .ok (.goto 4, 3) := by decide +kernel
theorem d3_47 : decode method_3_code 47 = .ok (.iconst 0, 1) := by decide +kernel
theorem d3_48 : decode method_3_code 48 = .ok (.ireturn, 1) := by decide +kernel
theorem d3_49 : decode method_3_code 49 = .ok (.iload_n 0, 1) := by decide +kernel
theorem d3_50 : decode method_3_code 50 = .ok (.bipush 8, 2) := by decide +kernel
theorem d3_52 : decode method_3_code 52 = .ok (.if_icmp .gt 14, 3) := by decide +kernel
theorem d3_55 : decode method_3_code 55 = .ok (.iload_n 1, 1) := by decide +kernel
theorem d3_56 : decode method_3_code 56 = .ok (.iconst 1, 1) := by decide +kernel
theorem d3_57 : decode method_3_code 57 = .ok (.if_icmp .ne 7, 3) := by decide +kernel
theorem d3_60 : decode method_3_code 60 = .ok (.iconst 1, 1) := by decide +kernel
theorem d3_61 : decode method_3_code 61 = .ok (.goto 4, 3) := by decide +kernel
theorem d3_64 : decode method_3_code 64 = .ok (.iconst 0, 1) := by decide +kernel
theorem d3_65 : decode method_3_code 65 = .ok (.ireturn, 1) := by decide +kernel
theorem d3_66 : decode method_3_code 66 = .ok (.iload_n 0, 1) := by decide +kernel
theorem d3_67 : decode method_3_code 67 = .ok (.bipush 9, 2) := by decide +kernel
theorem d3_69 : decode method_3_code 69 = .ok (.if_icmp .ne 18, 3) := by decide +kernel
theorem d3_72 : decode method_3_code 72 = .ok (.iload_n 1, 1) := by decide +kernel
theorem d3_73 : decode method_3_code 73 = .ok (.ifCond .eq 8, 3) := by decide +kernel
theorem d3_76 : decode method_3_code 76 = .ok (.iload_n 1, 1) := by decide +kernel
theorem d3_77 : decode method_3_code 77 = .ok (.iconst 1, 1) := by decide +kernel
theorem d3_78 : decode method_3_code 78 = .ok (.if_icmp .ne 7, 3) := by decide +kernel
theorem d3_81 : decode method_3_code 81 = .ok (.iconst 1, 1) := by decide +kernel
theorem d3_82 : decode method_3_code 82 = .ok (.goto 4, 3) := by decide +kernel
theorem d3_85 : decode method_3_code 85 = .ok (.iconst 0, 1) := by decide +kernel
theorem d3_86 : decode method_3_code 86 = .ok (.ireturn, 1) := by decide +kernel
theorem d3_87 : decode method_3_code 87 = .ok (.iload_n 0, 1) := by decide +kernel
theorem d3_88 : decode method_3_code 88 = .ok (.bipush 10, 2) := by decide +kernel
theorem d3_90 : decode method_3_code 90 = .ok (.if_icmp .ne 13, 3) := by decide +kernel
theorem d3_93 : decode method_3_code 93 = .ok (.iload_n 1, 1) := by decide +kernel
theorem d3_94 : decode method_3_code 94 = .ok (.ifCond .ne 7, 3) := by decide +kernel
theorem d3_97 : decode method_3_code 97 = .ok (.iconst 1, 1) := by decide +kernel
theorem d3_98 : decode method_3_code 98 = .ok (.goto 4, 3) := by decide +kernel
theorem d3_101 : decode method_3_code 101 = .ok (.iconst 0, 1) := by decide +kernel
theorem d3_102 : decode method_3_code 102 = .ok (.ireturn, 1) := by decide +kernel
theorem d3_103 : decode method_3_code 103 = .ok (.iload_n 0, 1) := by decide +kernel
theorem d3_104 : decode method_3_code 104 = .ok (.bipush 13, 2) := by decide +kernel
theorem d3_106 : decode method_3_code 106 = .ok (.if_icmp .gt 13, 3) := by decide +kernel
theorem d3_109 : decode method_3_code 109 = .ok (.iload_n 1, 1) := by decide +kernel
theorem d3_110 : decode method_3_code 110 = .ok (.ifCond .lt 7, 3) := by decide +kernel
theorem d3_113 : decode method_3_code 113 = .ok (.iconst 1, 1) := by decide +kernel
theorem d3_114 : decode method_3_code 114 = .ok (.goto 4, 3) := by decide +kernel
theorem d3_117 : decode method_3_code 117 = .ok (.iconst 0, 1) := by decide +kernel
theorem d3_118 : decode method_3_code 118 = .ok (.ireturn, 1) := by decide +kernel
theorem d3_119 : decode method_3_code 119 = .ok (.iload_n 0, 1) := by decide +kernel
theorem d3_120 : decode method_3_code 120 = .ok (.bipush 15, 2) := by decide +kernel
theorem d3_122 : decode method_3_code 122 = .ok (.if_icmp .gt 19, 3) := by decide +kernel
theorem d3_125 : decode method_3_code 125 = .ok (.iload_n 1, 1) := by decide +kernel
theorem d3_126 : decode method_3_code 126 = .ok (.iconst 2, 1) := by decide +kernel
theorem d3_127 : decode method_3_code 127 = .ok (.if_icmp .eq 8, 3) := by decide +kernel
theorem d3_130 : decode method_3_code 130 = .ok (.iload_n 1, 1) := by decide +kernel
theorem d3_131 : decode method_3_code 131 = .ok (.iconst 3, 1) := by decide +kernel
theorem d3_132 : decode method_3_code 132 = .ok (.if_icmp .ne 7, 3) := by decide +kernel
theorem d3_135 : decode method_3_code 135 = .ok (.iconst 1, 1) := by decide +kernel
theorem d3_136 : decode method_3_code 136 = .ok (.goto 4, 3) := by decide +kernel
theorem d3_139 : decode method_3_code 139 = .ok (.iconst 0, 1) := by decide +kernel
theorem d3_140 : decode method_3_code 140 = .ok (.ireturn, 1) := by decide +kernel
theorem d3_141 : decode method_3_code 141 = .ok (.iload_n 0, 1) := by decide +kernel
theorem d3_142 : decode method_3_code 142 = .ok (.bipush 16, 2) := by decide +kernel
theorem d3_144 : decode method_3_code 144 = .ok (.if_icmp .ne 19, 3) := by decide +kernel
theorem d3_147 : decode method_3_code 147 = .ok (.iload_n 1, 1) := by decide +kernel
theorem d3_148 : decode method_3_code 148 = .ok (.iconst 3, 1) := by decide +kernel
theorem d3_149 : decode method_3_code 149 = .ok (.if_icmp .eq 8, 3) := by decide +kernel
theorem d3_152 : decode method_3_code 152 = .ok (.iload_n 1, 1) := by decide +kernel
theorem d3_153 : decode method_3_code 153 = .ok (.iconst 4, 1) := by decide +kernel
theorem d3_154 : decode method_3_code 154 = .ok (.if_icmp .ne 7, 3) := by decide +kernel
theorem d3_157 : decode method_3_code 157 = .ok (.iconst 1, 1) := by decide +kernel
theorem d3_158 : decode method_3_code 158 = .ok (.goto 4, 3) := by decide +kernel
theorem d3_161 : decode method_3_code 161 = .ok (.iconst 0, 1) := by decide +kernel
theorem d3_162 : decode method_3_code 162 = .ok (.ireturn, 1) := by decide +kernel
theorem d3_163 : decode method_3_code 163 = .ok (.iload_n 1, 1) := by decide +kernel
theorem d3_164 : decode method_3_code 164 = .ok (.iconst 3, 1) := by decide +kernel
theorem d3_165 : decode method_3_code 165 = .ok (.if_icmp .ne 7, 3) := by decide +kernel
theorem d3_168 : decode method_3_code 168 = .ok (.iconst 1, 1) := by decide +kernel
theorem d3_169 : decode method_3_code 169 = .ok (.goto 4, 3) := by decide +kernel
theorem d3_172 : decode method_3_code 172 = .ok (.iconst 0, 1) := by decide +kernel
theorem d3_173 : decode method_3_code 173 = .ok (.ireturn, 1) := by decide +kernel
theorem pn_3 : plainFor (⟨"com/example/tuplelift/tuplelift/service/FunctionTakesPinLaw", "expected", "(II)Z"⟩ : MethodName) = true := plainFor_of_name (by show plainName "com/example/tuplelift/tuplelift/service/FunctionTakesPinLaw" = true; first | (simp [plainName, overriddenIn]; done) | decide +kernel)
theorem ef_3 (m : MethodId) (x0 : Int32) (x1 : Int32) : entryFrame m #[(.int x0), (.int x1)] 2 = mkF m 0 #[.val (.int x0), .val (.int x1)] [] := by first | (simp [entryFrame, mkF, argsToLocals, Value.category]; done) | rfl
def own_f3 (p0 : Int32) (p1 : Int32) : Int32 :=
  if (1 : Int32) < p0 then
    if (4 : Int32) < p0 then
      if (6 : Int32) < p0 then
        if (8 : Int32) < p0 then
          if p0 = (9 : Int32) then
            if p1 = 0 then
              (1 : Int32)
            else
              if p1 = (1 : Int32) then
                (1 : Int32)
              else
                (0 : Int32)
          else
            if p0 = (10 : Int32) then
              if p1 = 0 then
                (1 : Int32)
              else
                (0 : Int32)
            else
              if (13 : Int32) < p0 then
                if (15 : Int32) < p0 then
                  if p0 = (16 : Int32) then
                    if p1 = (3 : Int32) then
                      (1 : Int32)
                    else
                      if p1 = (4 : Int32) then
                        (1 : Int32)
                      else
                        (0 : Int32)
                  else
                    if p1 = (3 : Int32) then
                      (1 : Int32)
                    else
                      (0 : Int32)
                else
                  if p1 = (2 : Int32) then
                    (1 : Int32)
                  else
                    if p1 = (3 : Int32) then
                      (1 : Int32)
                    else
                      (0 : Int32)
              else
                if p1 < 0 then
                  (0 : Int32)
                else
                  (1 : Int32)
        else
          if p1 = (1 : Int32) then
            (1 : Int32)
          else
            (0 : Int32)
      else
        if p1 < (1 : Int32) then
          (0 : Int32)
        else
          (1 : Int32)
    else
      if p1 = (2 : Int32) then
        (1 : Int32)
      else
        (0 : Int32)
  else
    if p1 < (2 : Int32) then
      (0 : Int32)
    else
      (1 : Int32)
set_option maxRecDepth 65536 in
set_option maxHeartbeats 40000000 in
theorem rm3 (l : Launch) (Z : State) (a0 : Array Value) (hw : ∀ d ∈ tables_1, d.before a0 Z = true) (p0 : Int32) (p1 : Int32) (h0 : Heap) (n0 : Nat) (Z0 : n0 ≤ h0.size) :
    own_Met l (⟨"com/example/tuplelift/tuplelift/service/FunctionTakesPinLaw", "expected", "(II)Z"⟩ : MethodName) method_3_code 2 (some .boolean) ({ frames := 0, cells := 0, slots := 0, locals := 0 } : Room) Z [] #[(.int p0), (.int p1)] h0 (own_P (some (.int (own_f3 p0 p1))) h0 n0) := by
  refine own_enter pn_3 ?_
  intro p e s m below meth c s₁ hx hby hml hown hnm hret hlk hZ e0 X0
  rw [ef_3]
  have N0 := Fr.nil n0
  show own_Fin _ _ _ _ _ _ _ (s₁.setTop (mkF m 0 #[.val (.int p0), .val (.int p1)] []))
  refine own_go (fun _ k => XS.iloadN X0.here hx rfl (hb hby d3_0) rfl k) ?_
  show own_Fin _ _ _ _ _ _ _ (s₁.setTop (mkF m 1 #[.val (.int p0), .val (.int p1)] [(.int p0)]))
  refine own_go (fun _ k => XS.iconst X0.here hx rfl (hb hby d3_1) k) ?_
  show own_Fin _ _ _ _ _ _ _ (s₁.setTop (mkF m 2 #[.val (.int p0), .val (.int p1)] [(.int (1 : Int32)), (.int p0)]))
  by_cases hc2 : (1 : Int32) < p0
  · refine own_go (fun _ k => XS.icmpYes X0.here hx rfl (pc0 := 2) (pc' := 16) rfl (hb hby d3_2) rfl (XT.ii_gt_t hc2) (by decide) (by decide) k) ?_
    show own_Fin _ _ _ _ _ _ _ (s₁.setTop (mkF m 16 #[.val (.int p0), .val (.int p1)] []))
    refine own_go (fun _ k => XS.iloadN X0.here hx rfl (hb hby d3_16) rfl k) ?_
    show own_Fin _ _ _ _ _ _ _ (s₁.setTop (mkF m 17 #[.val (.int p0), .val (.int p1)] [(.int p0)]))
    refine own_go (fun _ k => XS.iconst X0.here hx rfl (hb hby d3_17) k) ?_
    show own_Fin _ _ _ _ _ _ _ (s₁.setTop (mkF m 18 #[.val (.int p0), .val (.int p1)] [(.int (4 : Int32)), (.int p0)]))
    by_cases hc18 : (4 : Int32) < p0
    · refine own_go (fun _ k => XS.icmpYes X0.here hx rfl (pc0 := 18) (pc' := 32) rfl (hb hby d3_18) rfl (XT.ii_gt_t hc18) (by decide) (by decide) k) ?_
      show own_Fin _ _ _ _ _ _ _ (s₁.setTop (mkF m 32 #[.val (.int p0), .val (.int p1)] []))
      refine own_go (fun _ k => XS.iloadN X0.here hx rfl (hb hby d3_32) rfl k) ?_
      show own_Fin _ _ _ _ _ _ _ (s₁.setTop (mkF m 33 #[.val (.int p0), .val (.int p1)] [(.int p0)]))
      refine own_go (fun _ k => XS.bipush X0.here hx rfl (hb hby d3_33) k) ?_
      show own_Fin _ _ _ _ _ _ _ (s₁.setTop (mkF m 35 #[.val (.int p0), .val (.int p1)] [(.int (6 : Int32)), (.int p0)]))
      by_cases hc35 : (6 : Int32) < p0
      · refine own_go (fun _ k => XS.icmpYes X0.here hx rfl (pc0 := 35) (pc' := 49) rfl (hb hby d3_35) rfl (XT.ii_gt_t hc35) (by decide) (by decide) k) ?_
        show own_Fin _ _ _ _ _ _ _ (s₁.setTop (mkF m 49 #[.val (.int p0), .val (.int p1)] []))
        refine own_go (fun _ k => XS.iloadN X0.here hx rfl (hb hby d3_49) rfl k) ?_
        show own_Fin _ _ _ _ _ _ _ (s₁.setTop (mkF m 50 #[.val (.int p0), .val (.int p1)] [(.int p0)]))
        refine own_go (fun _ k => XS.bipush X0.here hx rfl (hb hby d3_50) k) ?_
        show own_Fin _ _ _ _ _ _ _ (s₁.setTop (mkF m 52 #[.val (.int p0), .val (.int p1)] [(.int (8 : Int32)), (.int p0)]))
        by_cases hc52 : (8 : Int32) < p0
        · refine own_go (fun _ k => XS.icmpYes X0.here hx rfl (pc0 := 52) (pc' := 66) rfl (hb hby d3_52) rfl (XT.ii_gt_t hc52) (by decide) (by decide) k) ?_
          show own_Fin _ _ _ _ _ _ _ (s₁.setTop (mkF m 66 #[.val (.int p0), .val (.int p1)] []))
          refine own_go (fun _ k => XS.iloadN X0.here hx rfl (hb hby d3_66) rfl k) ?_
          show own_Fin _ _ _ _ _ _ _ (s₁.setTop (mkF m 67 #[.val (.int p0), .val (.int p1)] [(.int p0)]))
          refine own_go (fun _ k => XS.bipush X0.here hx rfl (hb hby d3_67) k) ?_
          show own_Fin _ _ _ _ _ _ _ (s₁.setTop (mkF m 69 #[.val (.int p0), .val (.int p1)] [(.int (9 : Int32)), (.int p0)]))
          by_cases hc69 : p0 = (9 : Int32)
          · refine own_go (fun _ k => XS.icmpNo X0.here hx rfl (hb hby d3_69) rfl (XT.ii_ne_f hc69) k) ?_
            show own_Fin _ _ _ _ _ _ _ (s₁.setTop (mkF m 72 #[.val (.int p0), .val (.int p1)] []))
            refine own_go (fun _ k => XS.iloadN X0.here hx rfl (hb hby d3_72) rfl k) ?_
            show own_Fin _ _ _ _ _ _ _ (s₁.setTop (mkF m 73 #[.val (.int p0), .val (.int p1)] [(.int p1)]))
            by_cases hc73 : p1 = 0
            · refine own_go (fun _ k => XS.ifYes X0.here hx rfl (pc0 := 73) (pc' := 81) rfl (hb hby d3_73) rfl (XT.i0_eq_t hc73) (by decide) (by decide) k) ?_
              show own_Fin _ _ _ _ _ _ _ (s₁.setTop (mkF m 81 #[.val (.int p0), .val (.int p1)] []))
              refine own_go (fun _ k => XS.iconst X0.here hx rfl (hb hby d3_81) k) ?_
              show own_Fin _ _ _ _ _ _ _ (s₁.setTop (mkF m 82 #[.val (.int p0), .val (.int p1)] [(.int (1 : Int32))]))
              refine own_go (fun _ k => XS.goto X0.here hx rfl (pc0 := 82) (pc' := 86) rfl (hb hby d3_82) (by decide) (by decide) k) ?_
              show own_Fin _ _ _ _ _ _ _ (s₁.setTop (mkF m 86 #[.val (.int p0), .val (.int p1)] [(.int (1 : Int32))]))
              exact own_retZ X0 hx hlk hret rfl (hb hby d3_86) (by decide) (by decide) ⟨(by rw [own_f3, if_pos hc2, if_pos hc18, if_pos hc35, if_pos hc52, if_pos hc69, if_pos hc73]), N0, e0⟩
            · refine own_go (fun _ k => XS.ifNo X0.here hx rfl (hb hby d3_73) rfl (XT.i0_eq_f hc73) k) ?_
              show own_Fin _ _ _ _ _ _ _ (s₁.setTop (mkF m 76 #[.val (.int p0), .val (.int p1)] []))
              refine own_go (fun _ k => XS.iloadN X0.here hx rfl (hb hby d3_76) rfl k) ?_
              show own_Fin _ _ _ _ _ _ _ (s₁.setTop (mkF m 77 #[.val (.int p0), .val (.int p1)] [(.int p1)]))
              refine own_go (fun _ k => XS.iconst X0.here hx rfl (hb hby d3_77) k) ?_
              show own_Fin _ _ _ _ _ _ _ (s₁.setTop (mkF m 78 #[.val (.int p0), .val (.int p1)] [(.int (1 : Int32)), (.int p1)]))
              by_cases hc78 : p1 = (1 : Int32)
              · refine own_go (fun _ k => XS.icmpNo X0.here hx rfl (hb hby d3_78) rfl (XT.ii_ne_f hc78) k) ?_
                show own_Fin _ _ _ _ _ _ _ (s₁.setTop (mkF m 81 #[.val (.int p0), .val (.int p1)] []))
                refine own_go (fun _ k => XS.iconst X0.here hx rfl (hb hby d3_81) k) ?_
                show own_Fin _ _ _ _ _ _ _ (s₁.setTop (mkF m 82 #[.val (.int p0), .val (.int p1)] [(.int (1 : Int32))]))
                refine own_go (fun _ k => XS.goto X0.here hx rfl (pc0 := 82) (pc' := 86) rfl (hb hby d3_82) (by decide) (by decide) k) ?_
                show own_Fin _ _ _ _ _ _ _ (s₁.setTop (mkF m 86 #[.val (.int p0), .val (.int p1)] [(.int (1 : Int32))]))
                exact own_retZ X0 hx hlk hret rfl (hb hby d3_86) (by decide) (by decide) ⟨(by rw [own_f3, if_pos hc2, if_pos hc18, if_pos hc35, if_pos hc52, if_pos hc69, if_neg hc73, if_pos hc78]), N0, e0⟩
              · refine own_go (fun _ k => XS.icmpYes X0.here hx rfl (pc0 := 78) (pc' := 85) rfl (hb hby d3_78) rfl (XT.ii_ne_t hc78) (by decide) (by decide) k) ?_
                show own_Fin _ _ _ _ _ _ _ (s₁.setTop (mkF m 85 #[.val (.int p0), .val (.int p1)] []))
                refine own_go (fun _ k => XS.iconst X0.here hx rfl (hb hby d3_85) k) ?_
                show own_Fin _ _ _ _ _ _ _ (s₁.setTop (mkF m 86 #[.val (.int p0), .val (.int p1)] [(.int (0 : Int32))]))
                exact own_retZ X0 hx hlk hret rfl (hb hby d3_86) (by decide) (by decide) ⟨(by rw [own_f3, if_pos hc2, if_pos hc18, if_pos hc35, if_pos hc52, if_pos hc69, if_neg hc73, if_neg hc78]), N0, e0⟩
          · refine own_go (fun _ k => XS.icmpYes X0.here hx rfl (pc0 := 69) (pc' := 87) rfl (hb hby d3_69) rfl (XT.ii_ne_t hc69) (by decide) (by decide) k) ?_
            show own_Fin _ _ _ _ _ _ _ (s₁.setTop (mkF m 87 #[.val (.int p0), .val (.int p1)] []))
            refine own_go (fun _ k => XS.iloadN X0.here hx rfl (hb hby d3_87) rfl k) ?_
            show own_Fin _ _ _ _ _ _ _ (s₁.setTop (mkF m 88 #[.val (.int p0), .val (.int p1)] [(.int p0)]))
            refine own_go (fun _ k => XS.bipush X0.here hx rfl (hb hby d3_88) k) ?_
            show own_Fin _ _ _ _ _ _ _ (s₁.setTop (mkF m 90 #[.val (.int p0), .val (.int p1)] [(.int (10 : Int32)), (.int p0)]))
            by_cases hc90 : p0 = (10 : Int32)
            · refine own_go (fun _ k => XS.icmpNo X0.here hx rfl (hb hby d3_90) rfl (XT.ii_ne_f hc90) k) ?_
              show own_Fin _ _ _ _ _ _ _ (s₁.setTop (mkF m 93 #[.val (.int p0), .val (.int p1)] []))
              refine own_go (fun _ k => XS.iloadN X0.here hx rfl (hb hby d3_93) rfl k) ?_
              show own_Fin _ _ _ _ _ _ _ (s₁.setTop (mkF m 94 #[.val (.int p0), .val (.int p1)] [(.int p1)]))
              by_cases hc94 : p1 = 0
              · refine own_go (fun _ k => XS.ifNo X0.here hx rfl (hb hby d3_94) rfl (XT.i0_ne_f hc94) k) ?_
                show own_Fin _ _ _ _ _ _ _ (s₁.setTop (mkF m 97 #[.val (.int p0), .val (.int p1)] []))
                refine own_go (fun _ k => XS.iconst X0.here hx rfl (hb hby d3_97) k) ?_
                show own_Fin _ _ _ _ _ _ _ (s₁.setTop (mkF m 98 #[.val (.int p0), .val (.int p1)] [(.int (1 : Int32))]))
                refine own_go (fun _ k => XS.goto X0.here hx rfl (pc0 := 98) (pc' := 102) rfl (hb hby d3_98) (by decide) (by decide) k) ?_
                show own_Fin _ _ _ _ _ _ _ (s₁.setTop (mkF m 102 #[.val (.int p0), .val (.int p1)] [(.int (1 : Int32))]))
                exact own_retZ X0 hx hlk hret rfl (hb hby d3_102) (by decide) (by decide) ⟨(by rw [own_f3, if_pos hc2, if_pos hc18, if_pos hc35, if_pos hc52, if_neg hc69, if_pos hc90, if_pos hc94]), N0, e0⟩
              · refine own_go (fun _ k => XS.ifYes X0.here hx rfl (pc0 := 94) (pc' := 101) rfl (hb hby d3_94) rfl (XT.i0_ne_t hc94) (by decide) (by decide) k) ?_
                show own_Fin _ _ _ _ _ _ _ (s₁.setTop (mkF m 101 #[.val (.int p0), .val (.int p1)] []))
                refine own_go (fun _ k => XS.iconst X0.here hx rfl (hb hby d3_101) k) ?_
                show own_Fin _ _ _ _ _ _ _ (s₁.setTop (mkF m 102 #[.val (.int p0), .val (.int p1)] [(.int (0 : Int32))]))
                exact own_retZ X0 hx hlk hret rfl (hb hby d3_102) (by decide) (by decide) ⟨(by rw [own_f3, if_pos hc2, if_pos hc18, if_pos hc35, if_pos hc52, if_neg hc69, if_pos hc90, if_neg hc94]), N0, e0⟩
            · refine own_go (fun _ k => XS.icmpYes X0.here hx rfl (pc0 := 90) (pc' := 103) rfl (hb hby d3_90) rfl (XT.ii_ne_t hc90) (by decide) (by decide) k) ?_
              show own_Fin _ _ _ _ _ _ _ (s₁.setTop (mkF m 103 #[.val (.int p0), .val (.int p1)] []))
              refine own_go (fun _ k => XS.iloadN X0.here hx rfl (hb hby d3_103) rfl k) ?_
              show own_Fin _ _ _ _ _ _ _ (s₁.setTop (mkF m 104 #[.val (.int p0), .val (.int p1)] [(.int p0)]))
              refine own_go (fun _ k => XS.bipush X0.here hx rfl (hb hby d3_104) k) ?_
              show own_Fin _ _ _ _ _ _ _ (s₁.setTop (mkF m 106 #[.val (.int p0), .val (.int p1)] [(.int (13 : Int32)), (.int p0)]))
              by_cases hc106 : (13 : Int32) < p0
              · refine own_go (fun _ k => XS.icmpYes X0.here hx rfl (pc0 := 106) (pc' := 119) rfl (hb hby d3_106) rfl (XT.ii_gt_t hc106) (by decide) (by decide) k) ?_
                show own_Fin _ _ _ _ _ _ _ (s₁.setTop (mkF m 119 #[.val (.int p0), .val (.int p1)] []))
                refine own_go (fun _ k => XS.iloadN X0.here hx rfl (hb hby d3_119) rfl k) ?_
                show own_Fin _ _ _ _ _ _ _ (s₁.setTop (mkF m 120 #[.val (.int p0), .val (.int p1)] [(.int p0)]))
                refine own_go (fun _ k => XS.bipush X0.here hx rfl (hb hby d3_120) k) ?_
                show own_Fin _ _ _ _ _ _ _ (s₁.setTop (mkF m 122 #[.val (.int p0), .val (.int p1)] [(.int (15 : Int32)), (.int p0)]))
                by_cases hc122 : (15 : Int32) < p0
                · refine own_go (fun _ k => XS.icmpYes X0.here hx rfl (pc0 := 122) (pc' := 141) rfl (hb hby d3_122) rfl (XT.ii_gt_t hc122) (by decide) (by decide) k) ?_
                  show own_Fin _ _ _ _ _ _ _ (s₁.setTop (mkF m 141 #[.val (.int p0), .val (.int p1)] []))
                  refine own_go (fun _ k => XS.iloadN X0.here hx rfl (hb hby d3_141) rfl k) ?_
                  show own_Fin _ _ _ _ _ _ _ (s₁.setTop (mkF m 142 #[.val (.int p0), .val (.int p1)] [(.int p0)]))
                  refine own_go (fun _ k => XS.bipush X0.here hx rfl (hb hby d3_142) k) ?_
                  show own_Fin _ _ _ _ _ _ _ (s₁.setTop (mkF m 144 #[.val (.int p0), .val (.int p1)] [(.int (16 : Int32)), (.int p0)]))
                  by_cases hc144 : p0 = (16 : Int32)
                  · refine own_go (fun _ k => XS.icmpNo X0.here hx rfl (hb hby d3_144) rfl (XT.ii_ne_f hc144) k) ?_
                    show own_Fin _ _ _ _ _ _ _ (s₁.setTop (mkF m 147 #[.val (.int p0), .val (.int p1)] []))
                    refine own_go (fun _ k => XS.iloadN X0.here hx rfl (hb hby d3_147) rfl k) ?_
                    show own_Fin _ _ _ _ _ _ _ (s₁.setTop (mkF m 148 #[.val (.int p0), .val (.int p1)] [(.int p1)]))
                    refine own_go (fun _ k => XS.iconst X0.here hx rfl (hb hby d3_148) k) ?_
                    show own_Fin _ _ _ _ _ _ _ (s₁.setTop (mkF m 149 #[.val (.int p0), .val (.int p1)] [(.int (3 : Int32)), (.int p1)]))
                    by_cases hc149 : p1 = (3 : Int32)
                    · refine own_go (fun _ k => XS.icmpYes X0.here hx rfl (pc0 := 149) (pc' := 157) rfl (hb hby d3_149) rfl (XT.ii_eq_t hc149) (by decide) (by decide) k) ?_
                      show own_Fin _ _ _ _ _ _ _ (s₁.setTop (mkF m 157 #[.val (.int p0), .val (.int p1)] []))
                      refine own_go (fun _ k => XS.iconst X0.here hx rfl (hb hby d3_157) k) ?_
                      show own_Fin _ _ _ _ _ _ _ (s₁.setTop (mkF m 158 #[.val (.int p0), .val (.int p1)] [(.int (1 : Int32))]))
                      refine own_go (fun _ k => XS.goto X0.here hx rfl (pc0 := 158) (pc' := 162) rfl (hb hby d3_158) (by decide) (by decide) k) ?_
                      show own_Fin _ _ _ _ _ _ _ (s₁.setTop (mkF m 162 #[.val (.int p0), .val (.int p1)] [(.int (1 : Int32))]))
                      exact own_retZ X0 hx hlk hret rfl (hb hby d3_162) (by decide) (by decide) ⟨(by rw [own_f3, if_pos hc2, if_pos hc18, if_pos hc35, if_pos hc52, if_neg hc69, if_neg hc90, if_pos hc106, if_pos hc122, if_pos hc144, if_pos hc149]), N0, e0⟩
                    · refine own_go (fun _ k => XS.icmpNo X0.here hx rfl (hb hby d3_149) rfl (XT.ii_eq_f hc149) k) ?_
                      show own_Fin _ _ _ _ _ _ _ (s₁.setTop (mkF m 152 #[.val (.int p0), .val (.int p1)] []))
                      refine own_go (fun _ k => XS.iloadN X0.here hx rfl (hb hby d3_152) rfl k) ?_
                      show own_Fin _ _ _ _ _ _ _ (s₁.setTop (mkF m 153 #[.val (.int p0), .val (.int p1)] [(.int p1)]))
                      refine own_go (fun _ k => XS.iconst X0.here hx rfl (hb hby d3_153) k) ?_
                      show own_Fin _ _ _ _ _ _ _ (s₁.setTop (mkF m 154 #[.val (.int p0), .val (.int p1)] [(.int (4 : Int32)), (.int p1)]))
                      by_cases hc154 : p1 = (4 : Int32)
                      · refine own_go (fun _ k => XS.icmpNo X0.here hx rfl (hb hby d3_154) rfl (XT.ii_ne_f hc154) k) ?_
                        show own_Fin _ _ _ _ _ _ _ (s₁.setTop (mkF m 157 #[.val (.int p0), .val (.int p1)] []))
                        refine own_go (fun _ k => XS.iconst X0.here hx rfl (hb hby d3_157) k) ?_
                        show own_Fin _ _ _ _ _ _ _ (s₁.setTop (mkF m 158 #[.val (.int p0), .val (.int p1)] [(.int (1 : Int32))]))
                        refine own_go (fun _ k => XS.goto X0.here hx rfl (pc0 := 158) (pc' := 162) rfl (hb hby d3_158) (by decide) (by decide) k) ?_
                        show own_Fin _ _ _ _ _ _ _ (s₁.setTop (mkF m 162 #[.val (.int p0), .val (.int p1)] [(.int (1 : Int32))]))
                        exact own_retZ X0 hx hlk hret rfl (hb hby d3_162) (by decide) (by decide) ⟨(by rw [own_f3, if_pos hc2, if_pos hc18, if_pos hc35, if_pos hc52, if_neg hc69, if_neg hc90, if_pos hc106, if_pos hc122, if_pos hc144, if_neg hc149, if_pos hc154]), N0, e0⟩
                      · refine own_go (fun _ k => XS.icmpYes X0.here hx rfl (pc0 := 154) (pc' := 161) rfl (hb hby d3_154) rfl (XT.ii_ne_t hc154) (by decide) (by decide) k) ?_
                        show own_Fin _ _ _ _ _ _ _ (s₁.setTop (mkF m 161 #[.val (.int p0), .val (.int p1)] []))
                        refine own_go (fun _ k => XS.iconst X0.here hx rfl (hb hby d3_161) k) ?_
                        show own_Fin _ _ _ _ _ _ _ (s₁.setTop (mkF m 162 #[.val (.int p0), .val (.int p1)] [(.int (0 : Int32))]))
                        exact own_retZ X0 hx hlk hret rfl (hb hby d3_162) (by decide) (by decide) ⟨(by rw [own_f3, if_pos hc2, if_pos hc18, if_pos hc35, if_pos hc52, if_neg hc69, if_neg hc90, if_pos hc106, if_pos hc122, if_pos hc144, if_neg hc149, if_neg hc154]), N0, e0⟩
                  · refine own_go (fun _ k => XS.icmpYes X0.here hx rfl (pc0 := 144) (pc' := 163) rfl (hb hby d3_144) rfl (XT.ii_ne_t hc144) (by decide) (by decide) k) ?_
                    show own_Fin _ _ _ _ _ _ _ (s₁.setTop (mkF m 163 #[.val (.int p0), .val (.int p1)] []))
                    refine own_go (fun _ k => XS.iloadN X0.here hx rfl (hb hby d3_163) rfl k) ?_
                    show own_Fin _ _ _ _ _ _ _ (s₁.setTop (mkF m 164 #[.val (.int p0), .val (.int p1)] [(.int p1)]))
                    refine own_go (fun _ k => XS.iconst X0.here hx rfl (hb hby d3_164) k) ?_
                    show own_Fin _ _ _ _ _ _ _ (s₁.setTop (mkF m 165 #[.val (.int p0), .val (.int p1)] [(.int (3 : Int32)), (.int p1)]))
                    by_cases hc165 : p1 = (3 : Int32)
                    · refine own_go (fun _ k => XS.icmpNo X0.here hx rfl (hb hby d3_165) rfl (XT.ii_ne_f hc165) k) ?_
                      show own_Fin _ _ _ _ _ _ _ (s₁.setTop (mkF m 168 #[.val (.int p0), .val (.int p1)] []))
                      refine own_go (fun _ k => XS.iconst X0.here hx rfl (hb hby d3_168) k) ?_
                      show own_Fin _ _ _ _ _ _ _ (s₁.setTop (mkF m 169 #[.val (.int p0), .val (.int p1)] [(.int (1 : Int32))]))
                      refine own_go (fun _ k => XS.goto X0.here hx rfl (pc0 := 169) (pc' := 173) rfl (hb hby d3_169) (by decide) (by decide) k) ?_
                      show own_Fin _ _ _ _ _ _ _ (s₁.setTop (mkF m 173 #[.val (.int p0), .val (.int p1)] [(.int (1 : Int32))]))
                      exact own_retZ X0 hx hlk hret rfl (hb hby d3_173) (by decide) (by decide) ⟨(by rw [own_f3, if_pos hc2, if_pos hc18, if_pos hc35, if_pos hc52, if_neg hc69, if_neg hc90, if_pos hc106, if_pos hc122, if_neg hc144, if_pos hc165]), N0, e0⟩
                    · refine own_go (fun _ k => XS.icmpYes X0.here hx rfl (pc0 := 165) (pc' := 172) rfl (hb hby d3_165) rfl (XT.ii_ne_t hc165) (by decide) (by decide) k) ?_
                      show own_Fin _ _ _ _ _ _ _ (s₁.setTop (mkF m 172 #[.val (.int p0), .val (.int p1)] []))
                      refine own_go (fun _ k => XS.iconst X0.here hx rfl (hb hby d3_172) k) ?_
                      show own_Fin _ _ _ _ _ _ _ (s₁.setTop (mkF m 173 #[.val (.int p0), .val (.int p1)] [(.int (0 : Int32))]))
                      exact own_retZ X0 hx hlk hret rfl (hb hby d3_173) (by decide) (by decide) ⟨(by rw [own_f3, if_pos hc2, if_pos hc18, if_pos hc35, if_pos hc52, if_neg hc69, if_neg hc90, if_pos hc106, if_pos hc122, if_neg hc144, if_neg hc165]), N0, e0⟩
                · refine own_go (fun _ k => XS.icmpNo X0.here hx rfl (hb hby d3_122) rfl (XT.ii_gt_f hc122) k) ?_
                  show own_Fin _ _ _ _ _ _ _ (s₁.setTop (mkF m 125 #[.val (.int p0), .val (.int p1)] []))
                  refine own_go (fun _ k => XS.iloadN X0.here hx rfl (hb hby d3_125) rfl k) ?_
                  show own_Fin _ _ _ _ _ _ _ (s₁.setTop (mkF m 126 #[.val (.int p0), .val (.int p1)] [(.int p1)]))
                  refine own_go (fun _ k => XS.iconst X0.here hx rfl (hb hby d3_126) k) ?_
                  show own_Fin _ _ _ _ _ _ _ (s₁.setTop (mkF m 127 #[.val (.int p0), .val (.int p1)] [(.int (2 : Int32)), (.int p1)]))
                  by_cases hc127 : p1 = (2 : Int32)
                  · refine own_go (fun _ k => XS.icmpYes X0.here hx rfl (pc0 := 127) (pc' := 135) rfl (hb hby d3_127) rfl (XT.ii_eq_t hc127) (by decide) (by decide) k) ?_
                    show own_Fin _ _ _ _ _ _ _ (s₁.setTop (mkF m 135 #[.val (.int p0), .val (.int p1)] []))
                    refine own_go (fun _ k => XS.iconst X0.here hx rfl (hb hby d3_135) k) ?_
                    show own_Fin _ _ _ _ _ _ _ (s₁.setTop (mkF m 136 #[.val (.int p0), .val (.int p1)] [(.int (1 : Int32))]))
                    refine own_go (fun _ k => XS.goto X0.here hx rfl (pc0 := 136) (pc' := 140) rfl (hb hby d3_136) (by decide) (by decide) k) ?_
                    show own_Fin _ _ _ _ _ _ _ (s₁.setTop (mkF m 140 #[.val (.int p0), .val (.int p1)] [(.int (1 : Int32))]))
                    exact own_retZ X0 hx hlk hret rfl (hb hby d3_140) (by decide) (by decide) ⟨(by rw [own_f3, if_pos hc2, if_pos hc18, if_pos hc35, if_pos hc52, if_neg hc69, if_neg hc90, if_pos hc106, if_neg hc122, if_pos hc127]), N0, e0⟩
                  · refine own_go (fun _ k => XS.icmpNo X0.here hx rfl (hb hby d3_127) rfl (XT.ii_eq_f hc127) k) ?_
                    show own_Fin _ _ _ _ _ _ _ (s₁.setTop (mkF m 130 #[.val (.int p0), .val (.int p1)] []))
                    refine own_go (fun _ k => XS.iloadN X0.here hx rfl (hb hby d3_130) rfl k) ?_
                    show own_Fin _ _ _ _ _ _ _ (s₁.setTop (mkF m 131 #[.val (.int p0), .val (.int p1)] [(.int p1)]))
                    refine own_go (fun _ k => XS.iconst X0.here hx rfl (hb hby d3_131) k) ?_
                    show own_Fin _ _ _ _ _ _ _ (s₁.setTop (mkF m 132 #[.val (.int p0), .val (.int p1)] [(.int (3 : Int32)), (.int p1)]))
                    by_cases hc132 : p1 = (3 : Int32)
                    · refine own_go (fun _ k => XS.icmpNo X0.here hx rfl (hb hby d3_132) rfl (XT.ii_ne_f hc132) k) ?_
                      show own_Fin _ _ _ _ _ _ _ (s₁.setTop (mkF m 135 #[.val (.int p0), .val (.int p1)] []))
                      refine own_go (fun _ k => XS.iconst X0.here hx rfl (hb hby d3_135) k) ?_
                      show own_Fin _ _ _ _ _ _ _ (s₁.setTop (mkF m 136 #[.val (.int p0), .val (.int p1)] [(.int (1 : Int32))]))
                      refine own_go (fun _ k => XS.goto X0.here hx rfl (pc0 := 136) (pc' := 140) rfl (hb hby d3_136) (by decide) (by decide) k) ?_
                      show own_Fin _ _ _ _ _ _ _ (s₁.setTop (mkF m 140 #[.val (.int p0), .val (.int p1)] [(.int (1 : Int32))]))
                      exact own_retZ X0 hx hlk hret rfl (hb hby d3_140) (by decide) (by decide) ⟨(by rw [own_f3, if_pos hc2, if_pos hc18, if_pos hc35, if_pos hc52, if_neg hc69, if_neg hc90, if_pos hc106, if_neg hc122, if_neg hc127, if_pos hc132]), N0, e0⟩
                    · refine own_go (fun _ k => XS.icmpYes X0.here hx rfl (pc0 := 132) (pc' := 139) rfl (hb hby d3_132) rfl (XT.ii_ne_t hc132) (by decide) (by decide) k) ?_
                      show own_Fin _ _ _ _ _ _ _ (s₁.setTop (mkF m 139 #[.val (.int p0), .val (.int p1)] []))
                      refine own_go (fun _ k => XS.iconst X0.here hx rfl (hb hby d3_139) k) ?_
                      show own_Fin _ _ _ _ _ _ _ (s₁.setTop (mkF m 140 #[.val (.int p0), .val (.int p1)] [(.int (0 : Int32))]))
                      exact own_retZ X0 hx hlk hret rfl (hb hby d3_140) (by decide) (by decide) ⟨(by rw [own_f3, if_pos hc2, if_pos hc18, if_pos hc35, if_pos hc52, if_neg hc69, if_neg hc90, if_pos hc106, if_neg hc122, if_neg hc127, if_neg hc132]), N0, e0⟩
              · refine own_go (fun _ k => XS.icmpNo X0.here hx rfl (hb hby d3_106) rfl (XT.ii_gt_f hc106) k) ?_
                show own_Fin _ _ _ _ _ _ _ (s₁.setTop (mkF m 109 #[.val (.int p0), .val (.int p1)] []))
                refine own_go (fun _ k => XS.iloadN X0.here hx rfl (hb hby d3_109) rfl k) ?_
                show own_Fin _ _ _ _ _ _ _ (s₁.setTop (mkF m 110 #[.val (.int p0), .val (.int p1)] [(.int p1)]))
                by_cases hc110 : p1 < 0
                · refine own_go (fun _ k => XS.ifYes X0.here hx rfl (pc0 := 110) (pc' := 117) rfl (hb hby d3_110) rfl (XT.i0_lt_t hc110) (by decide) (by decide) k) ?_
                  show own_Fin _ _ _ _ _ _ _ (s₁.setTop (mkF m 117 #[.val (.int p0), .val (.int p1)] []))
                  refine own_go (fun _ k => XS.iconst X0.here hx rfl (hb hby d3_117) k) ?_
                  show own_Fin _ _ _ _ _ _ _ (s₁.setTop (mkF m 118 #[.val (.int p0), .val (.int p1)] [(.int (0 : Int32))]))
                  exact own_retZ X0 hx hlk hret rfl (hb hby d3_118) (by decide) (by decide) ⟨(by rw [own_f3, if_pos hc2, if_pos hc18, if_pos hc35, if_pos hc52, if_neg hc69, if_neg hc90, if_neg hc106, if_pos hc110]), N0, e0⟩
                · refine own_go (fun _ k => XS.ifNo X0.here hx rfl (hb hby d3_110) rfl (XT.i0_lt_f hc110) k) ?_
                  show own_Fin _ _ _ _ _ _ _ (s₁.setTop (mkF m 113 #[.val (.int p0), .val (.int p1)] []))
                  refine own_go (fun _ k => XS.iconst X0.here hx rfl (hb hby d3_113) k) ?_
                  show own_Fin _ _ _ _ _ _ _ (s₁.setTop (mkF m 114 #[.val (.int p0), .val (.int p1)] [(.int (1 : Int32))]))
                  refine own_go (fun _ k => XS.goto X0.here hx rfl (pc0 := 114) (pc' := 118) rfl (hb hby d3_114) (by decide) (by decide) k) ?_
                  show own_Fin _ _ _ _ _ _ _ (s₁.setTop (mkF m 118 #[.val (.int p0), .val (.int p1)] [(.int (1 : Int32))]))
                  exact own_retZ X0 hx hlk hret rfl (hb hby d3_118) (by decide) (by decide) ⟨(by rw [own_f3, if_pos hc2, if_pos hc18, if_pos hc35, if_pos hc52, if_neg hc69, if_neg hc90, if_neg hc106, if_neg hc110]), N0, e0⟩
        · refine own_go (fun _ k => XS.icmpNo X0.here hx rfl (hb hby d3_52) rfl (XT.ii_gt_f hc52) k) ?_
          show own_Fin _ _ _ _ _ _ _ (s₁.setTop (mkF m 55 #[.val (.int p0), .val (.int p1)] []))
          refine own_go (fun _ k => XS.iloadN X0.here hx rfl (hb hby d3_55) rfl k) ?_
          show own_Fin _ _ _ _ _ _ _ (s₁.setTop (mkF m 56 #[.val (.int p0), .val (.int p1)] [(.int p1)]))
          refine own_go (fun _ k => XS.iconst X0.here hx rfl (hb hby d3_56) k) ?_
          show own_Fin _ _ _ _ _ _ _ (s₁.setTop (mkF m 57 #[.val (.int p0), .val (.int p1)] [(.int (1 : Int32)), (.int p1)]))
          by_cases hc57 : p1 = (1 : Int32)
          · refine own_go (fun _ k => XS.icmpNo X0.here hx rfl (hb hby d3_57) rfl (XT.ii_ne_f hc57) k) ?_
            show own_Fin _ _ _ _ _ _ _ (s₁.setTop (mkF m 60 #[.val (.int p0), .val (.int p1)] []))
            refine own_go (fun _ k => XS.iconst X0.here hx rfl (hb hby d3_60) k) ?_
            show own_Fin _ _ _ _ _ _ _ (s₁.setTop (mkF m 61 #[.val (.int p0), .val (.int p1)] [(.int (1 : Int32))]))
            refine own_go (fun _ k => XS.goto X0.here hx rfl (pc0 := 61) (pc' := 65) rfl (hb hby d3_61) (by decide) (by decide) k) ?_
            show own_Fin _ _ _ _ _ _ _ (s₁.setTop (mkF m 65 #[.val (.int p0), .val (.int p1)] [(.int (1 : Int32))]))
            exact own_retZ X0 hx hlk hret rfl (hb hby d3_65) (by decide) (by decide) ⟨(by rw [own_f3, if_pos hc2, if_pos hc18, if_pos hc35, if_neg hc52, if_pos hc57]), N0, e0⟩
          · refine own_go (fun _ k => XS.icmpYes X0.here hx rfl (pc0 := 57) (pc' := 64) rfl (hb hby d3_57) rfl (XT.ii_ne_t hc57) (by decide) (by decide) k) ?_
            show own_Fin _ _ _ _ _ _ _ (s₁.setTop (mkF m 64 #[.val (.int p0), .val (.int p1)] []))
            refine own_go (fun _ k => XS.iconst X0.here hx rfl (hb hby d3_64) k) ?_
            show own_Fin _ _ _ _ _ _ _ (s₁.setTop (mkF m 65 #[.val (.int p0), .val (.int p1)] [(.int (0 : Int32))]))
            exact own_retZ X0 hx hlk hret rfl (hb hby d3_65) (by decide) (by decide) ⟨(by rw [own_f3, if_pos hc2, if_pos hc18, if_pos hc35, if_neg hc52, if_neg hc57]), N0, e0⟩
      · refine own_go (fun _ k => XS.icmpNo X0.here hx rfl (hb hby d3_35) rfl (XT.ii_gt_f hc35) k) ?_
        show own_Fin _ _ _ _ _ _ _ (s₁.setTop (mkF m 38 #[.val (.int p0), .val (.int p1)] []))
        refine own_go (fun _ k => XS.iloadN X0.here hx rfl (hb hby d3_38) rfl k) ?_
        show own_Fin _ _ _ _ _ _ _ (s₁.setTop (mkF m 39 #[.val (.int p0), .val (.int p1)] [(.int p1)]))
        refine own_go (fun _ k => XS.iconst X0.here hx rfl (hb hby d3_39) k) ?_
        show own_Fin _ _ _ _ _ _ _ (s₁.setTop (mkF m 40 #[.val (.int p0), .val (.int p1)] [(.int (1 : Int32)), (.int p1)]))
        by_cases hc40 : p1 < (1 : Int32)
        · refine own_go (fun _ k => XS.icmpYes X0.here hx rfl (pc0 := 40) (pc' := 47) rfl (hb hby d3_40) rfl (XT.ii_lt_t hc40) (by decide) (by decide) k) ?_
          show own_Fin _ _ _ _ _ _ _ (s₁.setTop (mkF m 47 #[.val (.int p0), .val (.int p1)] []))
          refine own_go (fun _ k => XS.iconst X0.here hx rfl (hb hby d3_47) k) ?_
          show own_Fin _ _ _ _ _ _ _ (s₁.setTop (mkF m 48 #[.val (.int p0), .val (.int p1)] [(.int (0 : Int32))]))
          exact own_retZ X0 hx hlk hret rfl (hb hby d3_48) (by decide) (by decide) ⟨(by rw [own_f3, if_pos hc2, if_pos hc18, if_neg hc35, if_pos hc40]), N0, e0⟩
        · refine own_go (fun _ k => XS.icmpNo X0.here hx rfl (hb hby d3_40) rfl (XT.ii_lt_f hc40) k) ?_
          show own_Fin _ _ _ _ _ _ _ (s₁.setTop (mkF m 43 #[.val (.int p0), .val (.int p1)] []))
          refine own_go (fun _ k => XS.iconst X0.here hx rfl (hb hby d3_43) k) ?_
          show own_Fin _ _ _ _ _ _ _ (s₁.setTop (mkF m 44 #[.val (.int p0), .val (.int p1)] [(.int (1 : Int32))]))
          refine own_go (fun _ k => XS.goto X0.here hx rfl (pc0 := 44) (pc' := 48) rfl (hb hby d3_44) (by decide) (by decide) k) ?_
          show own_Fin _ _ _ _ _ _ _ (s₁.setTop (mkF m 48 #[.val (.int p0), .val (.int p1)] [(.int (1 : Int32))]))
          exact own_retZ X0 hx hlk hret rfl (hb hby d3_48) (by decide) (by decide) ⟨(by rw [own_f3, if_pos hc2, if_pos hc18, if_neg hc35, if_neg hc40]), N0, e0⟩
    · refine own_go (fun _ k => XS.icmpNo X0.here hx rfl (hb hby d3_18) rfl (XT.ii_gt_f hc18) k) ?_
      show own_Fin _ _ _ _ _ _ _ (s₁.setTop (mkF m 21 #[.val (.int p0), .val (.int p1)] []))
      refine own_go (fun _ k => XS.iloadN X0.here hx rfl (hb hby d3_21) rfl k) ?_
      show own_Fin _ _ _ _ _ _ _ (s₁.setTop (mkF m 22 #[.val (.int p0), .val (.int p1)] [(.int p1)]))
      refine own_go (fun _ k => XS.iconst X0.here hx rfl (hb hby d3_22) k) ?_
      show own_Fin _ _ _ _ _ _ _ (s₁.setTop (mkF m 23 #[.val (.int p0), .val (.int p1)] [(.int (2 : Int32)), (.int p1)]))
      by_cases hc23 : p1 = (2 : Int32)
      · refine own_go (fun _ k => XS.icmpNo X0.here hx rfl (hb hby d3_23) rfl (XT.ii_ne_f hc23) k) ?_
        show own_Fin _ _ _ _ _ _ _ (s₁.setTop (mkF m 26 #[.val (.int p0), .val (.int p1)] []))
        refine own_go (fun _ k => XS.iconst X0.here hx rfl (hb hby d3_26) k) ?_
        show own_Fin _ _ _ _ _ _ _ (s₁.setTop (mkF m 27 #[.val (.int p0), .val (.int p1)] [(.int (1 : Int32))]))
        refine own_go (fun _ k => XS.goto X0.here hx rfl (pc0 := 27) (pc' := 31) rfl (hb hby d3_27) (by decide) (by decide) k) ?_
        show own_Fin _ _ _ _ _ _ _ (s₁.setTop (mkF m 31 #[.val (.int p0), .val (.int p1)] [(.int (1 : Int32))]))
        exact own_retZ X0 hx hlk hret rfl (hb hby d3_31) (by decide) (by decide) ⟨(by rw [own_f3, if_pos hc2, if_neg hc18, if_pos hc23]), N0, e0⟩
      · refine own_go (fun _ k => XS.icmpYes X0.here hx rfl (pc0 := 23) (pc' := 30) rfl (hb hby d3_23) rfl (XT.ii_ne_t hc23) (by decide) (by decide) k) ?_
        show own_Fin _ _ _ _ _ _ _ (s₁.setTop (mkF m 30 #[.val (.int p0), .val (.int p1)] []))
        refine own_go (fun _ k => XS.iconst X0.here hx rfl (hb hby d3_30) k) ?_
        show own_Fin _ _ _ _ _ _ _ (s₁.setTop (mkF m 31 #[.val (.int p0), .val (.int p1)] [(.int (0 : Int32))]))
        exact own_retZ X0 hx hlk hret rfl (hb hby d3_31) (by decide) (by decide) ⟨(by rw [own_f3, if_pos hc2, if_neg hc18, if_neg hc23]), N0, e0⟩
  · refine own_go (fun _ k => XS.icmpNo X0.here hx rfl (hb hby d3_2) rfl (XT.ii_gt_f hc2) k) ?_
    show own_Fin _ _ _ _ _ _ _ (s₁.setTop (mkF m 5 #[.val (.int p0), .val (.int p1)] []))
    refine own_go (fun _ k => XS.iloadN X0.here hx rfl (hb hby d3_5) rfl k) ?_
    show own_Fin _ _ _ _ _ _ _ (s₁.setTop (mkF m 6 #[.val (.int p0), .val (.int p1)] [(.int p1)]))
    refine own_go (fun _ k => XS.iconst X0.here hx rfl (hb hby d3_6) k) ?_
    show own_Fin _ _ _ _ _ _ _ (s₁.setTop (mkF m 7 #[.val (.int p0), .val (.int p1)] [(.int (2 : Int32)), (.int p1)]))
    by_cases hc7 : p1 < (2 : Int32)
    · refine own_go (fun _ k => XS.icmpYes X0.here hx rfl (pc0 := 7) (pc' := 14) rfl (hb hby d3_7) rfl (XT.ii_lt_t hc7) (by decide) (by decide) k) ?_
      show own_Fin _ _ _ _ _ _ _ (s₁.setTop (mkF m 14 #[.val (.int p0), .val (.int p1)] []))
      refine own_go (fun _ k => XS.iconst X0.here hx rfl (hb hby d3_14) k) ?_
      show own_Fin _ _ _ _ _ _ _ (s₁.setTop (mkF m 15 #[.val (.int p0), .val (.int p1)] [(.int (0 : Int32))]))
      exact own_retZ X0 hx hlk hret rfl (hb hby d3_15) (by decide) (by decide) ⟨(by rw [own_f3, if_neg hc2, if_pos hc7]), N0, e0⟩
    · refine own_go (fun _ k => XS.icmpNo X0.here hx rfl (hb hby d3_7) rfl (XT.ii_lt_f hc7) k) ?_
      show own_Fin _ _ _ _ _ _ _ (s₁.setTop (mkF m 10 #[.val (.int p0), .val (.int p1)] []))
      refine own_go (fun _ k => XS.iconst X0.here hx rfl (hb hby d3_10) k) ?_
      show own_Fin _ _ _ _ _ _ _ (s₁.setTop (mkF m 11 #[.val (.int p0), .val (.int p1)] [(.int (1 : Int32))]))
      refine own_go (fun _ k => XS.goto X0.here hx rfl (pc0 := 11) (pc' := 15) rfl (hb hby d3_11) (by decide) (by decide) k) ?_
      show own_Fin _ _ _ _ _ _ _ (s₁.setTop (mkF m 15 #[.val (.int p0), .val (.int p1)] [(.int (1 : Int32))]))
      exact own_retZ X0 hx hlk hret rfl (hb hby d3_15) (by decide) (by decide) ⟨(by rw [own_f3, if_neg hc2, if_neg hc7]), N0, e0⟩

theorem pd_0_0 : parseMethodDescriptor "(I)Lcom/example/tuplelift/tuplelift/service/Expression$Function;" = some ⟨[.int], some (.object "com/example/tuplelift/tuplelift/service/Expression$Function")⟩ := by decide +kernel
theorem pd_0_1 : parseMethodDescriptor "(I)Z" = some ⟨[.int], some .boolean⟩ := by decide +kernel
theorem pd_0_2 : parseMethodDescriptor "(II)Z" = some ⟨[.int, .int], some .boolean⟩ := by decide +kernel
theorem pn_0 : plainFor x = true := plainFor_of_name (by show plainName "com/example/tuplelift/tuplelift/service/FunctionTakesPinLaw" = true; first | (simp [plainName, overriddenIn]; done) | decide +kernel)
theorem ef_0 (m : MethodId) (x0 : Int32) (x1 : Int32) (x2 : Int32) : entryFrame m #[(.int x0), (.int x1), (.int x2)] maxLocals = mkF m 0 #[.val (.int x0), .val (.int x1), .val (.int x2), .unset, .unset, .unset, .unset, .unset] [] := by first | (simp [entryFrame, mkF, argsToLocals, Value.category, maxLocals]; done) | rfl
def own_f0 (p0 : Int32) (p1 : Int32) (p2 : Int32) : Int32 :=
  if (own_f2 p1 (own_few (own_ix ((p0 &&& (2147483647 : Int32)) % (18 : Int32)))) (own_most (own_ix ((p0 &&& (2147483647 : Int32)) % (18 : Int32))))) = (own_f3 ((p0 &&& (2147483647 : Int32)) % (18 : Int32)) p1) then
    if (own_f2 ((p2 &&& (7 : Int32)) - (1 : Int32)) (own_few (own_ix ((p0 &&& (2147483647 : Int32)) % (18 : Int32)))) (own_most (own_ix ((p0 &&& (2147483647 : Int32)) % (18 : Int32))))) = (own_f3 ((p0 &&& (2147483647 : Int32)) % (18 : Int32)) ((p2 &&& (7 : Int32)) - (1 : Int32))) then
      (1 : Int32)
    else
      (0 : Int32)
  else
    if (own_f2 ((p2 &&& (7 : Int32)) - (1 : Int32)) (own_few (own_ix ((p0 &&& (2147483647 : Int32)) % (18 : Int32)))) (own_most (own_ix ((p0 &&& (2147483647 : Int32)) % (18 : Int32))))) = (own_f3 ((p0 &&& (2147483647 : Int32)) % (18 : Int32)) ((p2 &&& (7 : Int32)) - (1 : Int32))) then
      (0 : Int32)
    else
      (0 : Int32)
set_option maxRecDepth 65536 in
set_option maxHeartbeats 40000000 in
theorem rm0 (l : Launch) (Z : State) (a0 : Array Value) (hw : ∀ d ∈ tables_1, d.before a0 Z = true) (p0 : Int32) (p1 : Int32) (p2 : Int32) (h0 : Heap) (n0 : Nat) (Z0 : n0 ≤ h0.size) (kA : Nat → Addr) (S_OR : Sta Z h0 "com/example/tuplelift/tuplelift/service/Expression$Function" "OR" "Lcom/example/tuplelift/tuplelift/service/Expression$Function;" (.ref (kA 0))) (S_AND : Sta Z h0 "com/example/tuplelift/tuplelift/service/Expression$Function" "AND" "Lcom/example/tuplelift/tuplelift/service/Expression$Function;" (.ref (kA 1))) (S_EQUAL : Sta Z h0 "com/example/tuplelift/tuplelift/service/Expression$Function" "EQUAL" "Lcom/example/tuplelift/tuplelift/service/Expression$Function;" (.ref (kA 2))) (S_ADD : Sta Z h0 "com/example/tuplelift/tuplelift/service/Expression$Function" "ADD" "Lcom/example/tuplelift/tuplelift/service/Expression$Function;" (.ref (kA 3))) (S_LANGMATCHES : Sta Z h0 "com/example/tuplelift/tuplelift/service/Expression$Function" "LANGMATCHES" "Lcom/example/tuplelift/tuplelift/service/Expression$Function;" (.ref (kA 4))) (S_IN : Sta Z h0 "com/example/tuplelift/tuplelift/service/Expression$Function" "IN" "Lcom/example/tuplelift/tuplelift/service/Expression$Function;" (.ref (kA 5))) (S_NOT_IN : Sta Z h0 "com/example/tuplelift/tuplelift/service/Expression$Function" "NOT_IN" "Lcom/example/tuplelift/tuplelift/service/Expression$Function;" (.ref (kA 6))) (S_NOT : Sta Z h0 "com/example/tuplelift/tuplelift/service/Expression$Function" "NOT" "Lcom/example/tuplelift/tuplelift/service/Expression$Function;" (.ref (kA 7))) (S_STR : Sta Z h0 "com/example/tuplelift/tuplelift/service/Expression$Function" "STR" "Lcom/example/tuplelift/tuplelift/service/Expression$Function;" (.ref (kA 8))) (S_BNODE : Sta Z h0 "com/example/tuplelift/tuplelift/service/Expression$Function" "BNODE" "Lcom/example/tuplelift/tuplelift/service/Expression$Function;" (.ref (kA 9))) (S_RAND : Sta Z h0 "com/example/tuplelift/tuplelift/service/Expression$Function" "RAND" "Lcom/example/tuplelift/tuplelift/service/Expression$Function;" (.ref (kA 10))) (S_CONCAT : Sta Z h0 "com/example/tuplelift/tuplelift/service/Expression$Function" "CONCAT" "Lcom/example/tuplelift/tuplelift/service/Expression$Function;" (.ref (kA 11))) (S_COALESCE : Sta Z h0 "com/example/tuplelift/tuplelift/service/Expression$Function" "COALESCE" "Lcom/example/tuplelift/tuplelift/service/Expression$Function;" (.ref (kA 12))) (S_UNDEFINED : Sta Z h0 "com/example/tuplelift/tuplelift/service/Expression$Function" "UNDEFINED" "Lcom/example/tuplelift/tuplelift/service/Expression$Function;" (.ref (kA 13))) (S_SUBSTR : Sta Z h0 "com/example/tuplelift/tuplelift/service/Expression$Function" "SUBSTR" "Lcom/example/tuplelift/tuplelift/service/Expression$Function;" (.ref (kA 14))) (S_REGEX : Sta Z h0 "com/example/tuplelift/tuplelift/service/Expression$Function" "REGEX" "Lcom/example/tuplelift/tuplelift/service/Expression$Function;" (.ref (kA 15))) (S_REPLACE : Sta Z h0 "com/example/tuplelift/tuplelift/service/Expression$Function" "REPLACE" "Lcom/example/tuplelift/tuplelift/service/Expression$Function;" (.ref (kA 16))) (S_IF : Sta Z h0 "com/example/tuplelift/tuplelift/service/Expression$Function" "IF" "Lcom/example/tuplelift/tuplelift/service/Expression$Function;" (.ref (kA 17))) (E_all : ∀ i, i < 18 → Exa Z h0 (kA i) "com/example/tuplelift/tuplelift/service/Expression$Function") (F_few : ∀ i, i < 18 → Fld Z h0 (kA i) "com/example/tuplelift/tuplelift/service/Expression$Function" "fewest" "I" (.int (own_few i))) (F_most : ∀ i, i < 18 → Fld Z h0 (kA i) "com/example/tuplelift/tuplelift/service/Expression$Function" "most" "I" (.int (own_most i))) :
    own_Met l x code maxLocals ret room_1 Z tables_1 #[(.int p0), (.int p1), (.int p2)] h0 (own_P (some (.int (own_f0 p0 p1 p2))) h0 n0) := by
  refine own_enter pn_0 ?_
  intro p e s m below meth c s₁ hx hby hml hown hnm hret hlk hZ e0 X0
  rw [ef_0]
  have N0 := Fr.nil n0
  have hml : c.maxLocals = 8 := hml
  show own_Fin _ _ _ _ _ _ _ (s₁.setTop (mkF m 0 #[.val (.int p0), .val (.int p1), .val (.int p2), .unset, .unset, .unset, .unset, .unset] []))
  refine own_go (fun _ k => XS.iloadN X0.here hx rfl (hb hby at_0) rfl k) ?_
  show own_Fin _ _ _ _ _ _ _ (s₁.setTop (mkF m 1 #[.val (.int p0), .val (.int p1), .val (.int p2), .unset, .unset, .unset, .unset, .unset] [(.int p0)]))
  refine own_go (fun _ k => X0.ldcI hx hown (mvT hZ (hw _ (List.mem_of_getElem? (i := 0) rfl))) rfl (hb hby at_1) k) ?_
  show own_Fin _ _ _ _ _ _ _ (s₁.setTop (mkF m 3 #[.val (.int p0), .val (.int p1), .val (.int p2), .unset, .unset, .unset, .unset, .unset] [(.int (2147483647 : Int32)), (.int p0)]))
  refine own_go (fun _ k => XS.iand X0.here hx rfl (hb hby at_3) rfl k) ?_
  show own_Fin _ _ _ _ _ _ _ (s₁.setTop (mkF m 4 #[.val (.int p0), .val (.int p1), .val (.int p2), .unset, .unset, .unset, .unset, .unset] [(.int (p0 &&& (2147483647 : Int32)))]))
  refine own_go (fun _ k => XS.bipush X0.here hx rfl (hb hby at_4) k) ?_
  show own_Fin _ _ _ _ _ _ _ (s₁.setTop (mkF m 6 #[.val (.int p0), .val (.int p1), .val (.int p2), .unset, .unset, .unset, .unset, .unset] [(.int (18 : Int32)), (.int (p0 &&& (2147483647 : Int32)))]))
  refine own_go (fun _ k => iremM X0 hx rfl (hb hby at_6) rfl (by decide) k) ?_
  show own_Fin _ _ _ _ _ _ _ (s₁.setTop (mkF m 7 #[.val (.int p0), .val (.int p1), .val (.int p2), .unset, .unset, .unset, .unset, .unset] [(.int ((p0 &&& (2147483647 : Int32)) % (18 : Int32)))]))
  refine own_go (fun _ k => XS.istoreN X0.here hx rfl (hb hby at_7) rfl (l' := #[.val (.int p0), .val (.int p1), .val (.int p2), .val (.int ((p0 &&& (2147483647 : Int32)) % (18 : Int32))), .unset, .unset, .unset, .unset]) rfl k) ?_
  show own_Fin _ _ _ _ _ _ _ (s₁.setTop (mkF m 8 #[.val (.int p0), .val (.int p1), .val (.int p2), .val (.int ((p0 &&& (2147483647 : Int32)) % (18 : Int32))), .unset, .unset, .unset, .unset] []))
  refine own_go (fun _ k => XS.iloadN X0.here hx rfl (hb hby at_8) rfl k) ?_
  show own_Fin _ _ _ _ _ _ _ (s₁.setTop (mkF m 9 #[.val (.int p0), .val (.int p1), .val (.int p2), .val (.int ((p0 &&& (2147483647 : Int32)) % (18 : Int32))), .unset, .unset, .unset, .unset] [(.int p2)]))
  refine own_go (fun _ k => XS.bipush X0.here hx rfl (hb hby at_9) k) ?_
  show own_Fin _ _ _ _ _ _ _ (s₁.setTop (mkF m 11 #[.val (.int p0), .val (.int p1), .val (.int p2), .val (.int ((p0 &&& (2147483647 : Int32)) % (18 : Int32))), .unset, .unset, .unset, .unset] [(.int (7 : Int32)), (.int p2)]))
  refine own_go (fun _ k => XS.iand X0.here hx rfl (hb hby at_11) rfl k) ?_
  show own_Fin _ _ _ _ _ _ _ (s₁.setTop (mkF m 12 #[.val (.int p0), .val (.int p1), .val (.int p2), .val (.int ((p0 &&& (2147483647 : Int32)) % (18 : Int32))), .unset, .unset, .unset, .unset] [(.int (p2 &&& (7 : Int32)))]))
  refine own_go (fun _ k => XS.iconst X0.here hx rfl (hb hby at_12) k) ?_
  show own_Fin _ _ _ _ _ _ _ (s₁.setTop (mkF m 13 #[.val (.int p0), .val (.int p1), .val (.int p2), .val (.int ((p0 &&& (2147483647 : Int32)) % (18 : Int32))), .unset, .unset, .unset, .unset] [(.int (1 : Int32)), (.int (p2 &&& (7 : Int32)))]))
  refine own_go (fun _ k => XS.isub X0.here hx rfl (hb hby at_13) rfl k) ?_
  show own_Fin _ _ _ _ _ _ _ (s₁.setTop (mkF m 14 #[.val (.int p0), .val (.int p1), .val (.int p2), .val (.int ((p0 &&& (2147483647 : Int32)) % (18 : Int32))), .unset, .unset, .unset, .unset] [(.int ((p2 &&& (7 : Int32)) - (1 : Int32)))]))
  refine own_go (fun _ k => XS.istore X0.here hx rfl (hb hby at_14) rfl (l' := #[.val (.int p0), .val (.int p1), .val (.int p2), .val (.int ((p0 &&& (2147483647 : Int32)) % (18 : Int32))), .val (.int ((p2 &&& (7 : Int32)) - (1 : Int32))), .unset, .unset, .unset]) rfl k) ?_
  show own_Fin _ _ _ _ _ _ _ (s₁.setTop (mkF m 16 #[.val (.int p0), .val (.int p1), .val (.int p2), .val (.int ((p0 &&& (2147483647 : Int32)) % (18 : Int32))), .val (.int ((p2 &&& (7 : Int32)) - (1 : Int32))), .unset, .unset, .unset] []))
  refine own_go (fun _ k => XS.iloadN X0.here hx rfl (hb hby at_16) rfl k) ?_
  show own_Fin _ _ _ _ _ _ _ (s₁.setTop (mkF m 17 #[.val (.int p0), .val (.int p1), .val (.int p2), .val (.int ((p0 &&& (2147483647 : Int32)) % (18 : Int32))), .val (.int ((p2 &&& (7 : Int32)) - (1 : Int32))), .unset, .unset, .unset] [(.int ((p0 &&& (2147483647 : Int32)) % (18 : Int32)))]))
  refine own_callS X0 hx hZ hown (hw _ (List.mem_of_getElem? (i := 1) rfl)) (hw _ (List.mem_of_getElem? (i := 2) rfl)) (hw _ (List.mem_of_getElem? (i := 3) rfl)) (hw _ (List.mem_of_getElem? (i := 4) rfl)) (by decide) (rm1 l Z a0 hw ((p0 &&& (2147483647 : Int32)) % (18 : Int32)) h0 n0 Z0 kA S_OR S_AND S_EQUAL S_ADD S_LANGMATCHES S_IN S_NOT_IN S_NOT S_STR S_BNODE S_RAND S_CONCAT S_COALESCE S_UNDEFINED S_SUBSTR S_REGEX S_REPLACE S_IF) e0 (argsL := [(.int ((p0 &&& (2147483647 : Int32)) % (18 : Int32)))]) (rest := []) rfl rfl (by rw [hml]; rfl) (lenOf pd_0_0 rfl) (hb hby at_17) (W := 0) (Nat.le_of_eq rfl) (by decide) (by decide) (by decide) (by decide) ?_
  rintro v1 T1 L1 X1 ⟨rfl, M1, e1⟩
  have N1 := Fr.app N0 M1
  have E1 : Exa Z h0 (own_f1 ((p0 &&& (2147483647 : Int32)) % (18 : Int32)) kA) "com/example/tuplelift/tuplelift/service/Expression$Function" := own_pick (P := fun z => Exa Z h0 z _) _ _ E_all
  have F1 : Fld Z h0 (own_f1 ((p0 &&& (2147483647 : Int32)) % (18 : Int32)) kA) "com/example/tuplelift/tuplelift/service/Expression$Function" "fewest" "I" (.int (own_few (own_ix ((p0 &&& (2147483647 : Int32)) % (18 : Int32))))) := own_pickF _ _ F_few
  have G1 : Fld Z h0 (own_f1 ((p0 &&& (2147483647 : Int32)) % (18 : Int32)) kA) "com/example/tuplelift/tuplelift/service/Expression$Function" "most" "I" (.int (own_most (own_ix ((p0 &&& (2147483647 : Int32)) % (18 : Int32))))) := own_pickF _ _ F_most
  show own_Fin _ _ _ _ _ _ _ (T1.setTop (mkF m 20 #[.val (.int p0), .val (.int p1), .val (.int p2), .val (.int ((p0 &&& (2147483647 : Int32)) % (18 : Int32))), .val (.int ((p2 &&& (7 : Int32)) - (1 : Int32))), .unset, .unset, .unset] [(.ref (own_f1 ((p0 &&& (2147483647 : Int32)) % (18 : Int32)) kA))]))
  refine own_go (fun _ k => XS.astore X1.here hx rfl (hb hby at_20) rfl rfl (l' := #[.val (.int p0), .val (.int p1), .val (.int p2), .val (.int ((p0 &&& (2147483647 : Int32)) % (18 : Int32))), .val (.int ((p2 &&& (7 : Int32)) - (1 : Int32))), .val (.ref (own_f1 ((p0 &&& (2147483647 : Int32)) % (18 : Int32)) kA)), .unset, .unset]) rfl k) ?_
  show own_Fin _ _ _ _ _ _ _ (T1.setTop (mkF m 22 #[.val (.int p0), .val (.int p1), .val (.int p2), .val (.int ((p0 &&& (2147483647 : Int32)) % (18 : Int32))), .val (.int ((p2 &&& (7 : Int32)) - (1 : Int32))), .val (.ref (own_f1 ((p0 &&& (2147483647 : Int32)) % (18 : Int32)) kA)), .unset, .unset] []))
  refine own_go (fun _ k => XS.aload X1.here hx rfl (hb hby at_22) rfl rfl k) ?_
  show own_Fin _ _ _ _ _ _ _ (T1.setTop (mkF m 24 #[.val (.int p0), .val (.int p1), .val (.int p2), .val (.int ((p0 &&& (2147483647 : Int32)) % (18 : Int32))), .val (.int ((p2 &&& (7 : Int32)) - (1 : Int32))), .val (.ref (own_f1 ((p0 &&& (2147483647 : Int32)) % (18 : Int32)) kA)), .unset, .unset] [(.ref (own_f1 ((p0 &&& (2147483647 : Int32)) % (18 : Int32)) kA))]))
  refine own_go (fun _ k => XS.iloadN X1.here hx rfl (hb hby at_24) rfl k) ?_
  show own_Fin _ _ _ _ _ _ _ (T1.setTop (mkF m 25 #[.val (.int p0), .val (.int p1), .val (.int p2), .val (.int ((p0 &&& (2147483647 : Int32)) % (18 : Int32))), .val (.int ((p2 &&& (7 : Int32)) - (1 : Int32))), .val (.ref (own_f1 ((p0 &&& (2147483647 : Int32)) % (18 : Int32)) kA)), .unset, .unset] [(.int p1), (.ref (own_f1 ((p0 &&& (2147483647 : Int32)) % (18 : Int32)) kA))]))
  refine own_callV X1 hx hZ hown (hw _ (List.mem_of_getElem? (i := 8) rfl)) (hw _ (List.mem_of_getElem? (i := 9) rfl)) (notFace_of_selects (args := #[]) (mvT hZ (hw _ (List.mem_of_getElem? (i := 11) rfl)))) (hw _ (List.mem_of_getElem? (i := 11) rfl)) (hw _ (List.mem_of_getElem? (i := 10) rfl)) (hw _ (List.mem_of_getElem? (i := 12) rfl)) (hw _ (List.mem_of_getElem? (i := 6) rfl)) (by decide) (rm2 l Z a0 hw (own_f1 ((p0 &&& (2147483647 : Int32)) % (18 : Int32)) kA) p1 h0 n0 Z0 (own_few (own_ix ((p0 &&& (2147483647 : Int32)) % (18 : Int32)))) (own_most (own_ix ((p0 &&& (2147483647 : Int32)) % (18 : Int32)))) F1 G1) e1 E1 (argsL := [(.int p1)]) (rest := []) rfl rfl (by rw [hml]; rfl) (lenOf pd_0_1 rfl) (hb hby at_25) (W := 0) (Nat.le_of_eq rfl) (by decide) (by decide) (by decide) (by decide) ?_
  rintro v2 T2 L2 X2 ⟨rfl, M2, e2⟩
  have N2 := Fr.app N1 M2
  show own_Fin _ _ _ _ _ _ _ (T2.setTop (mkF m 28 #[.val (.int p0), .val (.int p1), .val (.int p2), .val (.int ((p0 &&& (2147483647 : Int32)) % (18 : Int32))), .val (.int ((p2 &&& (7 : Int32)) - (1 : Int32))), .val (.ref (own_f1 ((p0 &&& (2147483647 : Int32)) % (18 : Int32)) kA)), .unset, .unset] [(.int (own_f2 p1 (own_few (own_ix ((p0 &&& (2147483647 : Int32)) % (18 : Int32)))) (own_most (own_ix ((p0 &&& (2147483647 : Int32)) % (18 : Int32))))))]))
  refine own_go (fun _ k => XS.iloadN X2.here hx rfl (hb hby at_28) rfl k) ?_
  show own_Fin _ _ _ _ _ _ _ (T2.setTop (mkF m 29 #[.val (.int p0), .val (.int p1), .val (.int p2), .val (.int ((p0 &&& (2147483647 : Int32)) % (18 : Int32))), .val (.int ((p2 &&& (7 : Int32)) - (1 : Int32))), .val (.ref (own_f1 ((p0 &&& (2147483647 : Int32)) % (18 : Int32)) kA)), .unset, .unset] [(.int ((p0 &&& (2147483647 : Int32)) % (18 : Int32))), (.int (own_f2 p1 (own_few (own_ix ((p0 &&& (2147483647 : Int32)) % (18 : Int32)))) (own_most (own_ix ((p0 &&& (2147483647 : Int32)) % (18 : Int32))))))]))
  refine own_go (fun _ k => XS.iloadN X2.here hx rfl (hb hby at_29) rfl k) ?_
  show own_Fin _ _ _ _ _ _ _ (T2.setTop (mkF m 30 #[.val (.int p0), .val (.int p1), .val (.int p2), .val (.int ((p0 &&& (2147483647 : Int32)) % (18 : Int32))), .val (.int ((p2 &&& (7 : Int32)) - (1 : Int32))), .val (.ref (own_f1 ((p0 &&& (2147483647 : Int32)) % (18 : Int32)) kA)), .unset, .unset] [(.int p1), (.int ((p0 &&& (2147483647 : Int32)) % (18 : Int32))), (.int (own_f2 p1 (own_few (own_ix ((p0 &&& (2147483647 : Int32)) % (18 : Int32)))) (own_most (own_ix ((p0 &&& (2147483647 : Int32)) % (18 : Int32))))))]))
  refine own_callS X2 hx hZ hown (hw _ (List.mem_of_getElem? (i := 17) rfl)) (hw _ (List.mem_of_getElem? (i := 18) rfl)) (hw _ (List.mem_of_getElem? (i := 3) rfl)) (hw _ (List.mem_of_getElem? (i := 19) rfl)) (by decide) (rm3 l Z a0 hw ((p0 &&& (2147483647 : Int32)) % (18 : Int32)) p1 h0 n0 Z0) e2 (argsL := [(.int ((p0 &&& (2147483647 : Int32)) % (18 : Int32))), (.int p1)]) (rest := [(.int (own_f2 p1 (own_few (own_ix ((p0 &&& (2147483647 : Int32)) % (18 : Int32)))) (own_most (own_ix ((p0 &&& (2147483647 : Int32)) % (18 : Int32))))))]) rfl rfl (by rw [hml]; rfl) (lenOf pd_0_2 rfl) (hb hby at_30) (W := 1) (Nat.le_of_eq rfl) (by decide) (by decide) (by decide) (by decide) ?_
  rintro v3 T3 L3 X3 ⟨rfl, M3, e3⟩
  have N3 := Fr.app N2 M3
  show own_Fin _ _ _ _ _ _ _ (T3.setTop (mkF m 33 #[.val (.int p0), .val (.int p1), .val (.int p2), .val (.int ((p0 &&& (2147483647 : Int32)) % (18 : Int32))), .val (.int ((p2 &&& (7 : Int32)) - (1 : Int32))), .val (.ref (own_f1 ((p0 &&& (2147483647 : Int32)) % (18 : Int32)) kA)), .unset, .unset] [(.int (own_f3 ((p0 &&& (2147483647 : Int32)) % (18 : Int32)) p1)), (.int (own_f2 p1 (own_few (own_ix ((p0 &&& (2147483647 : Int32)) % (18 : Int32)))) (own_most (own_ix ((p0 &&& (2147483647 : Int32)) % (18 : Int32))))))]))
  by_cases hc33 : (own_f2 p1 (own_few (own_ix ((p0 &&& (2147483647 : Int32)) % (18 : Int32)))) (own_most (own_ix ((p0 &&& (2147483647 : Int32)) % (18 : Int32))))) = (own_f3 ((p0 &&& (2147483647 : Int32)) % (18 : Int32)) p1)
  · refine own_go (fun _ k => XS.icmpNo X3.here hx rfl (hb hby at_33) rfl (XT.ii_ne_f hc33) k) ?_
    show own_Fin _ _ _ _ _ _ _ (T3.setTop (mkF m 36 #[.val (.int p0), .val (.int p1), .val (.int p2), .val (.int ((p0 &&& (2147483647 : Int32)) % (18 : Int32))), .val (.int ((p2 &&& (7 : Int32)) - (1 : Int32))), .val (.ref (own_f1 ((p0 &&& (2147483647 : Int32)) % (18 : Int32)) kA)), .unset, .unset] []))
    refine own_go (fun _ k => XS.iconst X3.here hx rfl (hb hby at_36) k) ?_
    show own_Fin _ _ _ _ _ _ _ (T3.setTop (mkF m 37 #[.val (.int p0), .val (.int p1), .val (.int p2), .val (.int ((p0 &&& (2147483647 : Int32)) % (18 : Int32))), .val (.int ((p2 &&& (7 : Int32)) - (1 : Int32))), .val (.ref (own_f1 ((p0 &&& (2147483647 : Int32)) % (18 : Int32)) kA)), .unset, .unset] [(.int (1 : Int32))]))
    refine own_go (fun _ k => XS.goto X3.here hx rfl (pc0 := 37) (pc' := 41) rfl (hb hby at_37) (by decide) (by decide) k) ?_
    show own_Fin _ _ _ _ _ _ _ (T3.setTop (mkF m 41 #[.val (.int p0), .val (.int p1), .val (.int p2), .val (.int ((p0 &&& (2147483647 : Int32)) % (18 : Int32))), .val (.int ((p2 &&& (7 : Int32)) - (1 : Int32))), .val (.ref (own_f1 ((p0 &&& (2147483647 : Int32)) % (18 : Int32)) kA)), .unset, .unset] [(.int (1 : Int32))]))
    refine own_go (fun _ k => XS.istore X3.here hx rfl (hb hby at_41) rfl (l' := #[.val (.int p0), .val (.int p1), .val (.int p2), .val (.int ((p0 &&& (2147483647 : Int32)) % (18 : Int32))), .val (.int ((p2 &&& (7 : Int32)) - (1 : Int32))), .val (.ref (own_f1 ((p0 &&& (2147483647 : Int32)) % (18 : Int32)) kA)), .val (.int (1 : Int32)), .unset]) rfl k) ?_
    show own_Fin _ _ _ _ _ _ _ (T3.setTop (mkF m 43 #[.val (.int p0), .val (.int p1), .val (.int p2), .val (.int ((p0 &&& (2147483647 : Int32)) % (18 : Int32))), .val (.int ((p2 &&& (7 : Int32)) - (1 : Int32))), .val (.ref (own_f1 ((p0 &&& (2147483647 : Int32)) % (18 : Int32)) kA)), .val (.int (1 : Int32)), .unset] []))
    refine own_go (fun _ k => XS.aload X3.here hx rfl (hb hby at_43) rfl rfl k) ?_
    show own_Fin _ _ _ _ _ _ _ (T3.setTop (mkF m 45 #[.val (.int p0), .val (.int p1), .val (.int p2), .val (.int ((p0 &&& (2147483647 : Int32)) % (18 : Int32))), .val (.int ((p2 &&& (7 : Int32)) - (1 : Int32))), .val (.ref (own_f1 ((p0 &&& (2147483647 : Int32)) % (18 : Int32)) kA)), .val (.int (1 : Int32)), .unset] [(.ref (own_f1 ((p0 &&& (2147483647 : Int32)) % (18 : Int32)) kA))]))
    refine own_go (fun _ k => XS.iload X3.here hx rfl (hb hby at_45) rfl k) ?_
    show own_Fin _ _ _ _ _ _ _ (T3.setTop (mkF m 47 #[.val (.int p0), .val (.int p1), .val (.int p2), .val (.int ((p0 &&& (2147483647 : Int32)) % (18 : Int32))), .val (.int ((p2 &&& (7 : Int32)) - (1 : Int32))), .val (.ref (own_f1 ((p0 &&& (2147483647 : Int32)) % (18 : Int32)) kA)), .val (.int (1 : Int32)), .unset] [(.int ((p2 &&& (7 : Int32)) - (1 : Int32))), (.ref (own_f1 ((p0 &&& (2147483647 : Int32)) % (18 : Int32)) kA))]))
    refine own_callV X3 hx hZ hown (hw _ (List.mem_of_getElem? (i := 8) rfl)) (hw _ (List.mem_of_getElem? (i := 9) rfl)) (notFace_of_selects (args := #[]) (mvT hZ (hw _ (List.mem_of_getElem? (i := 11) rfl)))) (hw _ (List.mem_of_getElem? (i := 11) rfl)) (hw _ (List.mem_of_getElem? (i := 10) rfl)) (hw _ (List.mem_of_getElem? (i := 12) rfl)) (hw _ (List.mem_of_getElem? (i := 6) rfl)) (by decide) (rm2 l Z a0 hw (own_f1 ((p0 &&& (2147483647 : Int32)) % (18 : Int32)) kA) ((p2 &&& (7 : Int32)) - (1 : Int32)) h0 n0 Z0 (own_few (own_ix ((p0 &&& (2147483647 : Int32)) % (18 : Int32)))) (own_most (own_ix ((p0 &&& (2147483647 : Int32)) % (18 : Int32)))) F1 G1) e3 E1 (argsL := [(.int ((p2 &&& (7 : Int32)) - (1 : Int32)))]) (rest := []) rfl rfl (by rw [hml]; rfl) (lenOf pd_0_1 rfl) (hb hby at_47) (W := 0) (Nat.le_of_eq rfl) (by decide) (by decide) (by decide) (by decide) ?_
    rintro v4 T4 L4 X4 ⟨rfl, M4, e4⟩
    have N4 := Fr.app N3 M4
    show own_Fin _ _ _ _ _ _ _ (T4.setTop (mkF m 50 #[.val (.int p0), .val (.int p1), .val (.int p2), .val (.int ((p0 &&& (2147483647 : Int32)) % (18 : Int32))), .val (.int ((p2 &&& (7 : Int32)) - (1 : Int32))), .val (.ref (own_f1 ((p0 &&& (2147483647 : Int32)) % (18 : Int32)) kA)), .val (.int (1 : Int32)), .unset] [(.int (own_f2 ((p2 &&& (7 : Int32)) - (1 : Int32)) (own_few (own_ix ((p0 &&& (2147483647 : Int32)) % (18 : Int32)))) (own_most (own_ix ((p0 &&& (2147483647 : Int32)) % (18 : Int32))))))]))
    refine own_go (fun _ k => XS.iloadN X4.here hx rfl (hb hby at_50) rfl k) ?_
    show own_Fin _ _ _ _ _ _ _ (T4.setTop (mkF m 51 #[.val (.int p0), .val (.int p1), .val (.int p2), .val (.int ((p0 &&& (2147483647 : Int32)) % (18 : Int32))), .val (.int ((p2 &&& (7 : Int32)) - (1 : Int32))), .val (.ref (own_f1 ((p0 &&& (2147483647 : Int32)) % (18 : Int32)) kA)), .val (.int (1 : Int32)), .unset] [(.int ((p0 &&& (2147483647 : Int32)) % (18 : Int32))), (.int (own_f2 ((p2 &&& (7 : Int32)) - (1 : Int32)) (own_few (own_ix ((p0 &&& (2147483647 : Int32)) % (18 : Int32)))) (own_most (own_ix ((p0 &&& (2147483647 : Int32)) % (18 : Int32))))))]))
    refine own_go (fun _ k => XS.iload X4.here hx rfl (hb hby at_51) rfl k) ?_
    show own_Fin _ _ _ _ _ _ _ (T4.setTop (mkF m 53 #[.val (.int p0), .val (.int p1), .val (.int p2), .val (.int ((p0 &&& (2147483647 : Int32)) % (18 : Int32))), .val (.int ((p2 &&& (7 : Int32)) - (1 : Int32))), .val (.ref (own_f1 ((p0 &&& (2147483647 : Int32)) % (18 : Int32)) kA)), .val (.int (1 : Int32)), .unset] [(.int ((p2 &&& (7 : Int32)) - (1 : Int32))), (.int ((p0 &&& (2147483647 : Int32)) % (18 : Int32))), (.int (own_f2 ((p2 &&& (7 : Int32)) - (1 : Int32)) (own_few (own_ix ((p0 &&& (2147483647 : Int32)) % (18 : Int32)))) (own_most (own_ix ((p0 &&& (2147483647 : Int32)) % (18 : Int32))))))]))
    refine own_callS X4 hx hZ hown (hw _ (List.mem_of_getElem? (i := 17) rfl)) (hw _ (List.mem_of_getElem? (i := 18) rfl)) (hw _ (List.mem_of_getElem? (i := 3) rfl)) (hw _ (List.mem_of_getElem? (i := 19) rfl)) (by decide) (rm3 l Z a0 hw ((p0 &&& (2147483647 : Int32)) % (18 : Int32)) ((p2 &&& (7 : Int32)) - (1 : Int32)) h0 n0 Z0) e4 (argsL := [(.int ((p0 &&& (2147483647 : Int32)) % (18 : Int32))), (.int ((p2 &&& (7 : Int32)) - (1 : Int32)))]) (rest := [(.int (own_f2 ((p2 &&& (7 : Int32)) - (1 : Int32)) (own_few (own_ix ((p0 &&& (2147483647 : Int32)) % (18 : Int32)))) (own_most (own_ix ((p0 &&& (2147483647 : Int32)) % (18 : Int32))))))]) rfl rfl (by rw [hml]; rfl) (lenOf pd_0_2 rfl) (hb hby at_53) (W := 1) (Nat.le_of_eq rfl) (by decide) (by decide) (by decide) (by decide) ?_
    rintro v5 T5 L5 X5 ⟨rfl, M5, e5⟩
    have N5 := Fr.app N4 M5
    show own_Fin _ _ _ _ _ _ _ (T5.setTop (mkF m 56 #[.val (.int p0), .val (.int p1), .val (.int p2), .val (.int ((p0 &&& (2147483647 : Int32)) % (18 : Int32))), .val (.int ((p2 &&& (7 : Int32)) - (1 : Int32))), .val (.ref (own_f1 ((p0 &&& (2147483647 : Int32)) % (18 : Int32)) kA)), .val (.int (1 : Int32)), .unset] [(.int (own_f3 ((p0 &&& (2147483647 : Int32)) % (18 : Int32)) ((p2 &&& (7 : Int32)) - (1 : Int32)))), (.int (own_f2 ((p2 &&& (7 : Int32)) - (1 : Int32)) (own_few (own_ix ((p0 &&& (2147483647 : Int32)) % (18 : Int32)))) (own_most (own_ix ((p0 &&& (2147483647 : Int32)) % (18 : Int32))))))]))
    by_cases hc56 : (own_f2 ((p2 &&& (7 : Int32)) - (1 : Int32)) (own_few (own_ix ((p0 &&& (2147483647 : Int32)) % (18 : Int32)))) (own_most (own_ix ((p0 &&& (2147483647 : Int32)) % (18 : Int32))))) = (own_f3 ((p0 &&& (2147483647 : Int32)) % (18 : Int32)) ((p2 &&& (7 : Int32)) - (1 : Int32)))
    · refine own_go (fun _ k => XS.icmpNo X5.here hx rfl (hb hby at_56) rfl (XT.ii_ne_f hc56) k) ?_
      show own_Fin _ _ _ _ _ _ _ (T5.setTop (mkF m 59 #[.val (.int p0), .val (.int p1), .val (.int p2), .val (.int ((p0 &&& (2147483647 : Int32)) % (18 : Int32))), .val (.int ((p2 &&& (7 : Int32)) - (1 : Int32))), .val (.ref (own_f1 ((p0 &&& (2147483647 : Int32)) % (18 : Int32)) kA)), .val (.int (1 : Int32)), .unset] []))
      refine own_go (fun _ k => XS.iconst X5.here hx rfl (hb hby at_59) k) ?_
      show own_Fin _ _ _ _ _ _ _ (T5.setTop (mkF m 60 #[.val (.int p0), .val (.int p1), .val (.int p2), .val (.int ((p0 &&& (2147483647 : Int32)) % (18 : Int32))), .val (.int ((p2 &&& (7 : Int32)) - (1 : Int32))), .val (.ref (own_f1 ((p0 &&& (2147483647 : Int32)) % (18 : Int32)) kA)), .val (.int (1 : Int32)), .unset] [(.int (1 : Int32))]))
      refine own_go (fun _ k => XS.goto X5.here hx rfl (pc0 := 60) (pc' := 64) rfl (hb hby at_60) (by decide) (by decide) k) ?_
      show own_Fin _ _ _ _ _ _ _ (T5.setTop (mkF m 64 #[.val (.int p0), .val (.int p1), .val (.int p2), .val (.int ((p0 &&& (2147483647 : Int32)) % (18 : Int32))), .val (.int ((p2 &&& (7 : Int32)) - (1 : Int32))), .val (.ref (own_f1 ((p0 &&& (2147483647 : Int32)) % (18 : Int32)) kA)), .val (.int (1 : Int32)), .unset] [(.int (1 : Int32))]))
      refine own_go (fun _ k => XS.istore X5.here hx rfl (hb hby at_64) rfl (l' := #[.val (.int p0), .val (.int p1), .val (.int p2), .val (.int ((p0 &&& (2147483647 : Int32)) % (18 : Int32))), .val (.int ((p2 &&& (7 : Int32)) - (1 : Int32))), .val (.ref (own_f1 ((p0 &&& (2147483647 : Int32)) % (18 : Int32)) kA)), .val (.int (1 : Int32)), .val (.int (1 : Int32))]) rfl k) ?_
      show own_Fin _ _ _ _ _ _ _ (T5.setTop (mkF m 66 #[.val (.int p0), .val (.int p1), .val (.int p2), .val (.int ((p0 &&& (2147483647 : Int32)) % (18 : Int32))), .val (.int ((p2 &&& (7 : Int32)) - (1 : Int32))), .val (.ref (own_f1 ((p0 &&& (2147483647 : Int32)) % (18 : Int32)) kA)), .val (.int (1 : Int32)), .val (.int (1 : Int32))] []))
      refine own_go (fun _ k => XS.iload X5.here hx rfl (hb hby at_66) rfl k) ?_
      show own_Fin _ _ _ _ _ _ _ (T5.setTop (mkF m 68 #[.val (.int p0), .val (.int p1), .val (.int p2), .val (.int ((p0 &&& (2147483647 : Int32)) % (18 : Int32))), .val (.int ((p2 &&& (7 : Int32)) - (1 : Int32))), .val (.ref (own_f1 ((p0 &&& (2147483647 : Int32)) % (18 : Int32)) kA)), .val (.int (1 : Int32)), .val (.int (1 : Int32))] [(.int (1 : Int32))]))
      refine own_go (fun _ k => XS.ifNo X5.here hx rfl (hb hby at_68) rfl (XT.i0_eq_f (by decide)) k) ?_
      show own_Fin _ _ _ _ _ _ _ (T5.setTop (mkF m 71 #[.val (.int p0), .val (.int p1), .val (.int p2), .val (.int ((p0 &&& (2147483647 : Int32)) % (18 : Int32))), .val (.int ((p2 &&& (7 : Int32)) - (1 : Int32))), .val (.ref (own_f1 ((p0 &&& (2147483647 : Int32)) % (18 : Int32)) kA)), .val (.int (1 : Int32)), .val (.int (1 : Int32))] []))
      refine own_go (fun _ k => XS.iload X5.here hx rfl (hb hby at_71) rfl k) ?_
      show own_Fin _ _ _ _ _ _ _ (T5.setTop (mkF m 73 #[.val (.int p0), .val (.int p1), .val (.int p2), .val (.int ((p0 &&& (2147483647 : Int32)) % (18 : Int32))), .val (.int ((p2 &&& (7 : Int32)) - (1 : Int32))), .val (.ref (own_f1 ((p0 &&& (2147483647 : Int32)) % (18 : Int32)) kA)), .val (.int (1 : Int32)), .val (.int (1 : Int32))] [(.int (1 : Int32))]))
      refine own_go (fun _ k => XS.ifNo X5.here hx rfl (hb hby at_73) rfl (XT.i0_eq_f (by decide)) k) ?_
      show own_Fin _ _ _ _ _ _ _ (T5.setTop (mkF m 76 #[.val (.int p0), .val (.int p1), .val (.int p2), .val (.int ((p0 &&& (2147483647 : Int32)) % (18 : Int32))), .val (.int ((p2 &&& (7 : Int32)) - (1 : Int32))), .val (.ref (own_f1 ((p0 &&& (2147483647 : Int32)) % (18 : Int32)) kA)), .val (.int (1 : Int32)), .val (.int (1 : Int32))] []))
      refine own_go (fun _ k => XS.iconst X5.here hx rfl (hb hby at_76) k) ?_
      show own_Fin _ _ _ _ _ _ _ (T5.setTop (mkF m 77 #[.val (.int p0), .val (.int p1), .val (.int p2), .val (.int ((p0 &&& (2147483647 : Int32)) % (18 : Int32))), .val (.int ((p2 &&& (7 : Int32)) - (1 : Int32))), .val (.ref (own_f1 ((p0 &&& (2147483647 : Int32)) % (18 : Int32)) kA)), .val (.int (1 : Int32)), .val (.int (1 : Int32))] [(.int (1 : Int32))]))
      refine own_go (fun _ k => XS.goto X5.here hx rfl (pc0 := 77) (pc' := 81) rfl (hb hby at_77) (by decide) (by decide) k) ?_
      show own_Fin _ _ _ _ _ _ _ (T5.setTop (mkF m 81 #[.val (.int p0), .val (.int p1), .val (.int p2), .val (.int ((p0 &&& (2147483647 : Int32)) % (18 : Int32))), .val (.int ((p2 &&& (7 : Int32)) - (1 : Int32))), .val (.ref (own_f1 ((p0 &&& (2147483647 : Int32)) % (18 : Int32)) kA)), .val (.int (1 : Int32)), .val (.int (1 : Int32))] [(.int (1 : Int32))]))
      exact own_retZ X5 hx hlk hret rfl (hb hby at_81) (by decide) (by decide) ⟨(by rw [own_f0, if_pos hc33, if_pos hc56]), N5, e5⟩
    · refine own_go (fun _ k => XS.icmpYes X5.here hx rfl (pc0 := 56) (pc' := 63) rfl (hb hby at_56) rfl (XT.ii_ne_t hc56) (by decide) (by decide) k) ?_
      show own_Fin _ _ _ _ _ _ _ (T5.setTop (mkF m 63 #[.val (.int p0), .val (.int p1), .val (.int p2), .val (.int ((p0 &&& (2147483647 : Int32)) % (18 : Int32))), .val (.int ((p2 &&& (7 : Int32)) - (1 : Int32))), .val (.ref (own_f1 ((p0 &&& (2147483647 : Int32)) % (18 : Int32)) kA)), .val (.int (1 : Int32)), .unset] []))
      refine own_go (fun _ k => XS.iconst X5.here hx rfl (hb hby at_63) k) ?_
      show own_Fin _ _ _ _ _ _ _ (T5.setTop (mkF m 64 #[.val (.int p0), .val (.int p1), .val (.int p2), .val (.int ((p0 &&& (2147483647 : Int32)) % (18 : Int32))), .val (.int ((p2 &&& (7 : Int32)) - (1 : Int32))), .val (.ref (own_f1 ((p0 &&& (2147483647 : Int32)) % (18 : Int32)) kA)), .val (.int (1 : Int32)), .unset] [(.int (0 : Int32))]))
      refine own_go (fun _ k => XS.istore X5.here hx rfl (hb hby at_64) rfl (l' := #[.val (.int p0), .val (.int p1), .val (.int p2), .val (.int ((p0 &&& (2147483647 : Int32)) % (18 : Int32))), .val (.int ((p2 &&& (7 : Int32)) - (1 : Int32))), .val (.ref (own_f1 ((p0 &&& (2147483647 : Int32)) % (18 : Int32)) kA)), .val (.int (1 : Int32)), .val (.int (0 : Int32))]) rfl k) ?_
      show own_Fin _ _ _ _ _ _ _ (T5.setTop (mkF m 66 #[.val (.int p0), .val (.int p1), .val (.int p2), .val (.int ((p0 &&& (2147483647 : Int32)) % (18 : Int32))), .val (.int ((p2 &&& (7 : Int32)) - (1 : Int32))), .val (.ref (own_f1 ((p0 &&& (2147483647 : Int32)) % (18 : Int32)) kA)), .val (.int (1 : Int32)), .val (.int (0 : Int32))] []))
      refine own_go (fun _ k => XS.iload X5.here hx rfl (hb hby at_66) rfl k) ?_
      show own_Fin _ _ _ _ _ _ _ (T5.setTop (mkF m 68 #[.val (.int p0), .val (.int p1), .val (.int p2), .val (.int ((p0 &&& (2147483647 : Int32)) % (18 : Int32))), .val (.int ((p2 &&& (7 : Int32)) - (1 : Int32))), .val (.ref (own_f1 ((p0 &&& (2147483647 : Int32)) % (18 : Int32)) kA)), .val (.int (1 : Int32)), .val (.int (0 : Int32))] [(.int (1 : Int32))]))
      refine own_go (fun _ k => XS.ifNo X5.here hx rfl (hb hby at_68) rfl (XT.i0_eq_f (by decide)) k) ?_
      show own_Fin _ _ _ _ _ _ _ (T5.setTop (mkF m 71 #[.val (.int p0), .val (.int p1), .val (.int p2), .val (.int ((p0 &&& (2147483647 : Int32)) % (18 : Int32))), .val (.int ((p2 &&& (7 : Int32)) - (1 : Int32))), .val (.ref (own_f1 ((p0 &&& (2147483647 : Int32)) % (18 : Int32)) kA)), .val (.int (1 : Int32)), .val (.int (0 : Int32))] []))
      refine own_go (fun _ k => XS.iload X5.here hx rfl (hb hby at_71) rfl k) ?_
      show own_Fin _ _ _ _ _ _ _ (T5.setTop (mkF m 73 #[.val (.int p0), .val (.int p1), .val (.int p2), .val (.int ((p0 &&& (2147483647 : Int32)) % (18 : Int32))), .val (.int ((p2 &&& (7 : Int32)) - (1 : Int32))), .val (.ref (own_f1 ((p0 &&& (2147483647 : Int32)) % (18 : Int32)) kA)), .val (.int (1 : Int32)), .val (.int (0 : Int32))] [(.int (0 : Int32))]))
      refine own_go (fun _ k => XS.ifYes X5.here hx rfl (pc0 := 73) (pc' := 80) rfl (hb hby at_73) rfl (XT.i0_eq_t (by decide)) (by decide) (by decide) k) ?_
      show own_Fin _ _ _ _ _ _ _ (T5.setTop (mkF m 80 #[.val (.int p0), .val (.int p1), .val (.int p2), .val (.int ((p0 &&& (2147483647 : Int32)) % (18 : Int32))), .val (.int ((p2 &&& (7 : Int32)) - (1 : Int32))), .val (.ref (own_f1 ((p0 &&& (2147483647 : Int32)) % (18 : Int32)) kA)), .val (.int (1 : Int32)), .val (.int (0 : Int32))] []))
      refine own_go (fun _ k => XS.iconst X5.here hx rfl (hb hby at_80) k) ?_
      show own_Fin _ _ _ _ _ _ _ (T5.setTop (mkF m 81 #[.val (.int p0), .val (.int p1), .val (.int p2), .val (.int ((p0 &&& (2147483647 : Int32)) % (18 : Int32))), .val (.int ((p2 &&& (7 : Int32)) - (1 : Int32))), .val (.ref (own_f1 ((p0 &&& (2147483647 : Int32)) % (18 : Int32)) kA)), .val (.int (1 : Int32)), .val (.int (0 : Int32))] [(.int (0 : Int32))]))
      exact own_retZ X5 hx hlk hret rfl (hb hby at_81) (by decide) (by decide) ⟨(by rw [own_f0, if_pos hc33, if_neg hc56]), N5, e5⟩
  · refine own_go (fun _ k => XS.icmpYes X3.here hx rfl (pc0 := 33) (pc' := 40) rfl (hb hby at_33) rfl (XT.ii_ne_t hc33) (by decide) (by decide) k) ?_
    show own_Fin _ _ _ _ _ _ _ (T3.setTop (mkF m 40 #[.val (.int p0), .val (.int p1), .val (.int p2), .val (.int ((p0 &&& (2147483647 : Int32)) % (18 : Int32))), .val (.int ((p2 &&& (7 : Int32)) - (1 : Int32))), .val (.ref (own_f1 ((p0 &&& (2147483647 : Int32)) % (18 : Int32)) kA)), .unset, .unset] []))
    refine own_go (fun _ k => XS.iconst X3.here hx rfl (hb hby at_40) k) ?_
    show own_Fin _ _ _ _ _ _ _ (T3.setTop (mkF m 41 #[.val (.int p0), .val (.int p1), .val (.int p2), .val (.int ((p0 &&& (2147483647 : Int32)) % (18 : Int32))), .val (.int ((p2 &&& (7 : Int32)) - (1 : Int32))), .val (.ref (own_f1 ((p0 &&& (2147483647 : Int32)) % (18 : Int32)) kA)), .unset, .unset] [(.int (0 : Int32))]))
    refine own_go (fun _ k => XS.istore X3.here hx rfl (hb hby at_41) rfl (l' := #[.val (.int p0), .val (.int p1), .val (.int p2), .val (.int ((p0 &&& (2147483647 : Int32)) % (18 : Int32))), .val (.int ((p2 &&& (7 : Int32)) - (1 : Int32))), .val (.ref (own_f1 ((p0 &&& (2147483647 : Int32)) % (18 : Int32)) kA)), .val (.int (0 : Int32)), .unset]) rfl k) ?_
    show own_Fin _ _ _ _ _ _ _ (T3.setTop (mkF m 43 #[.val (.int p0), .val (.int p1), .val (.int p2), .val (.int ((p0 &&& (2147483647 : Int32)) % (18 : Int32))), .val (.int ((p2 &&& (7 : Int32)) - (1 : Int32))), .val (.ref (own_f1 ((p0 &&& (2147483647 : Int32)) % (18 : Int32)) kA)), .val (.int (0 : Int32)), .unset] []))
    refine own_go (fun _ k => XS.aload X3.here hx rfl (hb hby at_43) rfl rfl k) ?_
    show own_Fin _ _ _ _ _ _ _ (T3.setTop (mkF m 45 #[.val (.int p0), .val (.int p1), .val (.int p2), .val (.int ((p0 &&& (2147483647 : Int32)) % (18 : Int32))), .val (.int ((p2 &&& (7 : Int32)) - (1 : Int32))), .val (.ref (own_f1 ((p0 &&& (2147483647 : Int32)) % (18 : Int32)) kA)), .val (.int (0 : Int32)), .unset] [(.ref (own_f1 ((p0 &&& (2147483647 : Int32)) % (18 : Int32)) kA))]))
    refine own_go (fun _ k => XS.iload X3.here hx rfl (hb hby at_45) rfl k) ?_
    show own_Fin _ _ _ _ _ _ _ (T3.setTop (mkF m 47 #[.val (.int p0), .val (.int p1), .val (.int p2), .val (.int ((p0 &&& (2147483647 : Int32)) % (18 : Int32))), .val (.int ((p2 &&& (7 : Int32)) - (1 : Int32))), .val (.ref (own_f1 ((p0 &&& (2147483647 : Int32)) % (18 : Int32)) kA)), .val (.int (0 : Int32)), .unset] [(.int ((p2 &&& (7 : Int32)) - (1 : Int32))), (.ref (own_f1 ((p0 &&& (2147483647 : Int32)) % (18 : Int32)) kA))]))
    refine own_callV X3 hx hZ hown (hw _ (List.mem_of_getElem? (i := 8) rfl)) (hw _ (List.mem_of_getElem? (i := 9) rfl)) (notFace_of_selects (args := #[]) (mvT hZ (hw _ (List.mem_of_getElem? (i := 11) rfl)))) (hw _ (List.mem_of_getElem? (i := 11) rfl)) (hw _ (List.mem_of_getElem? (i := 10) rfl)) (hw _ (List.mem_of_getElem? (i := 12) rfl)) (hw _ (List.mem_of_getElem? (i := 6) rfl)) (by decide) (rm2 l Z a0 hw (own_f1 ((p0 &&& (2147483647 : Int32)) % (18 : Int32)) kA) ((p2 &&& (7 : Int32)) - (1 : Int32)) h0 n0 Z0 (own_few (own_ix ((p0 &&& (2147483647 : Int32)) % (18 : Int32)))) (own_most (own_ix ((p0 &&& (2147483647 : Int32)) % (18 : Int32)))) F1 G1) e3 E1 (argsL := [(.int ((p2 &&& (7 : Int32)) - (1 : Int32)))]) (rest := []) rfl rfl (by rw [hml]; rfl) (lenOf pd_0_1 rfl) (hb hby at_47) (W := 0) (Nat.le_of_eq rfl) (by decide) (by decide) (by decide) (by decide) ?_
    rintro v6 T6 L6 X6 ⟨rfl, M6, e6⟩
    have N6 := Fr.app N3 M6
    show own_Fin _ _ _ _ _ _ _ (T6.setTop (mkF m 50 #[.val (.int p0), .val (.int p1), .val (.int p2), .val (.int ((p0 &&& (2147483647 : Int32)) % (18 : Int32))), .val (.int ((p2 &&& (7 : Int32)) - (1 : Int32))), .val (.ref (own_f1 ((p0 &&& (2147483647 : Int32)) % (18 : Int32)) kA)), .val (.int (0 : Int32)), .unset] [(.int (own_f2 ((p2 &&& (7 : Int32)) - (1 : Int32)) (own_few (own_ix ((p0 &&& (2147483647 : Int32)) % (18 : Int32)))) (own_most (own_ix ((p0 &&& (2147483647 : Int32)) % (18 : Int32))))))]))
    refine own_go (fun _ k => XS.iloadN X6.here hx rfl (hb hby at_50) rfl k) ?_
    show own_Fin _ _ _ _ _ _ _ (T6.setTop (mkF m 51 #[.val (.int p0), .val (.int p1), .val (.int p2), .val (.int ((p0 &&& (2147483647 : Int32)) % (18 : Int32))), .val (.int ((p2 &&& (7 : Int32)) - (1 : Int32))), .val (.ref (own_f1 ((p0 &&& (2147483647 : Int32)) % (18 : Int32)) kA)), .val (.int (0 : Int32)), .unset] [(.int ((p0 &&& (2147483647 : Int32)) % (18 : Int32))), (.int (own_f2 ((p2 &&& (7 : Int32)) - (1 : Int32)) (own_few (own_ix ((p0 &&& (2147483647 : Int32)) % (18 : Int32)))) (own_most (own_ix ((p0 &&& (2147483647 : Int32)) % (18 : Int32))))))]))
    refine own_go (fun _ k => XS.iload X6.here hx rfl (hb hby at_51) rfl k) ?_
    show own_Fin _ _ _ _ _ _ _ (T6.setTop (mkF m 53 #[.val (.int p0), .val (.int p1), .val (.int p2), .val (.int ((p0 &&& (2147483647 : Int32)) % (18 : Int32))), .val (.int ((p2 &&& (7 : Int32)) - (1 : Int32))), .val (.ref (own_f1 ((p0 &&& (2147483647 : Int32)) % (18 : Int32)) kA)), .val (.int (0 : Int32)), .unset] [(.int ((p2 &&& (7 : Int32)) - (1 : Int32))), (.int ((p0 &&& (2147483647 : Int32)) % (18 : Int32))), (.int (own_f2 ((p2 &&& (7 : Int32)) - (1 : Int32)) (own_few (own_ix ((p0 &&& (2147483647 : Int32)) % (18 : Int32)))) (own_most (own_ix ((p0 &&& (2147483647 : Int32)) % (18 : Int32))))))]))
    refine own_callS X6 hx hZ hown (hw _ (List.mem_of_getElem? (i := 17) rfl)) (hw _ (List.mem_of_getElem? (i := 18) rfl)) (hw _ (List.mem_of_getElem? (i := 3) rfl)) (hw _ (List.mem_of_getElem? (i := 19) rfl)) (by decide) (rm3 l Z a0 hw ((p0 &&& (2147483647 : Int32)) % (18 : Int32)) ((p2 &&& (7 : Int32)) - (1 : Int32)) h0 n0 Z0) e6 (argsL := [(.int ((p0 &&& (2147483647 : Int32)) % (18 : Int32))), (.int ((p2 &&& (7 : Int32)) - (1 : Int32)))]) (rest := [(.int (own_f2 ((p2 &&& (7 : Int32)) - (1 : Int32)) (own_few (own_ix ((p0 &&& (2147483647 : Int32)) % (18 : Int32)))) (own_most (own_ix ((p0 &&& (2147483647 : Int32)) % (18 : Int32))))))]) rfl rfl (by rw [hml]; rfl) (lenOf pd_0_2 rfl) (hb hby at_53) (W := 1) (Nat.le_of_eq rfl) (by decide) (by decide) (by decide) (by decide) ?_
    rintro v7 T7 L7 X7 ⟨rfl, M7, e7⟩
    have N7 := Fr.app N6 M7
    show own_Fin _ _ _ _ _ _ _ (T7.setTop (mkF m 56 #[.val (.int p0), .val (.int p1), .val (.int p2), .val (.int ((p0 &&& (2147483647 : Int32)) % (18 : Int32))), .val (.int ((p2 &&& (7 : Int32)) - (1 : Int32))), .val (.ref (own_f1 ((p0 &&& (2147483647 : Int32)) % (18 : Int32)) kA)), .val (.int (0 : Int32)), .unset] [(.int (own_f3 ((p0 &&& (2147483647 : Int32)) % (18 : Int32)) ((p2 &&& (7 : Int32)) - (1 : Int32)))), (.int (own_f2 ((p2 &&& (7 : Int32)) - (1 : Int32)) (own_few (own_ix ((p0 &&& (2147483647 : Int32)) % (18 : Int32)))) (own_most (own_ix ((p0 &&& (2147483647 : Int32)) % (18 : Int32))))))]))
    by_cases hc56 : (own_f2 ((p2 &&& (7 : Int32)) - (1 : Int32)) (own_few (own_ix ((p0 &&& (2147483647 : Int32)) % (18 : Int32)))) (own_most (own_ix ((p0 &&& (2147483647 : Int32)) % (18 : Int32))))) = (own_f3 ((p0 &&& (2147483647 : Int32)) % (18 : Int32)) ((p2 &&& (7 : Int32)) - (1 : Int32)))
    · refine own_go (fun _ k => XS.icmpNo X7.here hx rfl (hb hby at_56) rfl (XT.ii_ne_f hc56) k) ?_
      show own_Fin _ _ _ _ _ _ _ (T7.setTop (mkF m 59 #[.val (.int p0), .val (.int p1), .val (.int p2), .val (.int ((p0 &&& (2147483647 : Int32)) % (18 : Int32))), .val (.int ((p2 &&& (7 : Int32)) - (1 : Int32))), .val (.ref (own_f1 ((p0 &&& (2147483647 : Int32)) % (18 : Int32)) kA)), .val (.int (0 : Int32)), .unset] []))
      refine own_go (fun _ k => XS.iconst X7.here hx rfl (hb hby at_59) k) ?_
      show own_Fin _ _ _ _ _ _ _ (T7.setTop (mkF m 60 #[.val (.int p0), .val (.int p1), .val (.int p2), .val (.int ((p0 &&& (2147483647 : Int32)) % (18 : Int32))), .val (.int ((p2 &&& (7 : Int32)) - (1 : Int32))), .val (.ref (own_f1 ((p0 &&& (2147483647 : Int32)) % (18 : Int32)) kA)), .val (.int (0 : Int32)), .unset] [(.int (1 : Int32))]))
      refine own_go (fun _ k => XS.goto X7.here hx rfl (pc0 := 60) (pc' := 64) rfl (hb hby at_60) (by decide) (by decide) k) ?_
      show own_Fin _ _ _ _ _ _ _ (T7.setTop (mkF m 64 #[.val (.int p0), .val (.int p1), .val (.int p2), .val (.int ((p0 &&& (2147483647 : Int32)) % (18 : Int32))), .val (.int ((p2 &&& (7 : Int32)) - (1 : Int32))), .val (.ref (own_f1 ((p0 &&& (2147483647 : Int32)) % (18 : Int32)) kA)), .val (.int (0 : Int32)), .unset] [(.int (1 : Int32))]))
      refine own_go (fun _ k => XS.istore X7.here hx rfl (hb hby at_64) rfl (l' := #[.val (.int p0), .val (.int p1), .val (.int p2), .val (.int ((p0 &&& (2147483647 : Int32)) % (18 : Int32))), .val (.int ((p2 &&& (7 : Int32)) - (1 : Int32))), .val (.ref (own_f1 ((p0 &&& (2147483647 : Int32)) % (18 : Int32)) kA)), .val (.int (0 : Int32)), .val (.int (1 : Int32))]) rfl k) ?_
      show own_Fin _ _ _ _ _ _ _ (T7.setTop (mkF m 66 #[.val (.int p0), .val (.int p1), .val (.int p2), .val (.int ((p0 &&& (2147483647 : Int32)) % (18 : Int32))), .val (.int ((p2 &&& (7 : Int32)) - (1 : Int32))), .val (.ref (own_f1 ((p0 &&& (2147483647 : Int32)) % (18 : Int32)) kA)), .val (.int (0 : Int32)), .val (.int (1 : Int32))] []))
      refine own_go (fun _ k => XS.iload X7.here hx rfl (hb hby at_66) rfl k) ?_
      show own_Fin _ _ _ _ _ _ _ (T7.setTop (mkF m 68 #[.val (.int p0), .val (.int p1), .val (.int p2), .val (.int ((p0 &&& (2147483647 : Int32)) % (18 : Int32))), .val (.int ((p2 &&& (7 : Int32)) - (1 : Int32))), .val (.ref (own_f1 ((p0 &&& (2147483647 : Int32)) % (18 : Int32)) kA)), .val (.int (0 : Int32)), .val (.int (1 : Int32))] [(.int (0 : Int32))]))
      refine own_go (fun _ k => XS.ifYes X7.here hx rfl (pc0 := 68) (pc' := 80) rfl (hb hby at_68) rfl (XT.i0_eq_t (by decide)) (by decide) (by decide) k) ?_
      show own_Fin _ _ _ _ _ _ _ (T7.setTop (mkF m 80 #[.val (.int p0), .val (.int p1), .val (.int p2), .val (.int ((p0 &&& (2147483647 : Int32)) % (18 : Int32))), .val (.int ((p2 &&& (7 : Int32)) - (1 : Int32))), .val (.ref (own_f1 ((p0 &&& (2147483647 : Int32)) % (18 : Int32)) kA)), .val (.int (0 : Int32)), .val (.int (1 : Int32))] []))
      refine own_go (fun _ k => XS.iconst X7.here hx rfl (hb hby at_80) k) ?_
      show own_Fin _ _ _ _ _ _ _ (T7.setTop (mkF m 81 #[.val (.int p0), .val (.int p1), .val (.int p2), .val (.int ((p0 &&& (2147483647 : Int32)) % (18 : Int32))), .val (.int ((p2 &&& (7 : Int32)) - (1 : Int32))), .val (.ref (own_f1 ((p0 &&& (2147483647 : Int32)) % (18 : Int32)) kA)), .val (.int (0 : Int32)), .val (.int (1 : Int32))] [(.int (0 : Int32))]))
      exact own_retZ X7 hx hlk hret rfl (hb hby at_81) (by decide) (by decide) ⟨(by rw [own_f0, if_neg hc33, if_pos hc56]), N7, e7⟩
    · refine own_go (fun _ k => XS.icmpYes X7.here hx rfl (pc0 := 56) (pc' := 63) rfl (hb hby at_56) rfl (XT.ii_ne_t hc56) (by decide) (by decide) k) ?_
      show own_Fin _ _ _ _ _ _ _ (T7.setTop (mkF m 63 #[.val (.int p0), .val (.int p1), .val (.int p2), .val (.int ((p0 &&& (2147483647 : Int32)) % (18 : Int32))), .val (.int ((p2 &&& (7 : Int32)) - (1 : Int32))), .val (.ref (own_f1 ((p0 &&& (2147483647 : Int32)) % (18 : Int32)) kA)), .val (.int (0 : Int32)), .unset] []))
      refine own_go (fun _ k => XS.iconst X7.here hx rfl (hb hby at_63) k) ?_
      show own_Fin _ _ _ _ _ _ _ (T7.setTop (mkF m 64 #[.val (.int p0), .val (.int p1), .val (.int p2), .val (.int ((p0 &&& (2147483647 : Int32)) % (18 : Int32))), .val (.int ((p2 &&& (7 : Int32)) - (1 : Int32))), .val (.ref (own_f1 ((p0 &&& (2147483647 : Int32)) % (18 : Int32)) kA)), .val (.int (0 : Int32)), .unset] [(.int (0 : Int32))]))
      refine own_go (fun _ k => XS.istore X7.here hx rfl (hb hby at_64) rfl (l' := #[.val (.int p0), .val (.int p1), .val (.int p2), .val (.int ((p0 &&& (2147483647 : Int32)) % (18 : Int32))), .val (.int ((p2 &&& (7 : Int32)) - (1 : Int32))), .val (.ref (own_f1 ((p0 &&& (2147483647 : Int32)) % (18 : Int32)) kA)), .val (.int (0 : Int32)), .val (.int (0 : Int32))]) rfl k) ?_
      show own_Fin _ _ _ _ _ _ _ (T7.setTop (mkF m 66 #[.val (.int p0), .val (.int p1), .val (.int p2), .val (.int ((p0 &&& (2147483647 : Int32)) % (18 : Int32))), .val (.int ((p2 &&& (7 : Int32)) - (1 : Int32))), .val (.ref (own_f1 ((p0 &&& (2147483647 : Int32)) % (18 : Int32)) kA)), .val (.int (0 : Int32)), .val (.int (0 : Int32))] []))
      refine own_go (fun _ k => XS.iload X7.here hx rfl (hb hby at_66) rfl k) ?_
      show own_Fin _ _ _ _ _ _ _ (T7.setTop (mkF m 68 #[.val (.int p0), .val (.int p1), .val (.int p2), .val (.int ((p0 &&& (2147483647 : Int32)) % (18 : Int32))), .val (.int ((p2 &&& (7 : Int32)) - (1 : Int32))), .val (.ref (own_f1 ((p0 &&& (2147483647 : Int32)) % (18 : Int32)) kA)), .val (.int (0 : Int32)), .val (.int (0 : Int32))] [(.int (0 : Int32))]))
      refine own_go (fun _ k => XS.ifYes X7.here hx rfl (pc0 := 68) (pc' := 80) rfl (hb hby at_68) rfl (XT.i0_eq_t (by decide)) (by decide) (by decide) k) ?_
      show own_Fin _ _ _ _ _ _ _ (T7.setTop (mkF m 80 #[.val (.int p0), .val (.int p1), .val (.int p2), .val (.int ((p0 &&& (2147483647 : Int32)) % (18 : Int32))), .val (.int ((p2 &&& (7 : Int32)) - (1 : Int32))), .val (.ref (own_f1 ((p0 &&& (2147483647 : Int32)) % (18 : Int32)) kA)), .val (.int (0 : Int32)), .val (.int (0 : Int32))] []))
      refine own_go (fun _ k => XS.iconst X7.here hx rfl (hb hby at_80) k) ?_
      show own_Fin _ _ _ _ _ _ _ (T7.setTop (mkF m 81 #[.val (.int p0), .val (.int p1), .val (.int p2), .val (.int ((p0 &&& (2147483647 : Int32)) % (18 : Int32))), .val (.int ((p2 &&& (7 : Int32)) - (1 : Int32))), .val (.ref (own_f1 ((p0 &&& (2147483647 : Int32)) % (18 : Int32)) kA)), .val (.int (0 : Int32)), .val (.int (0 : Int32))] [(.int (0 : Int32))]))
      exact own_retZ X7 hx hlk hret rfl (hb hby at_81) (by decide) (by decide) ⟨(by rw [own_f0, if_neg hc33, if_neg hc56]), N7, e7⟩

theorem own_m31 (a : Int32) : (a &&& (2147483647 : Int32)).toInt = a.toInt % 2147483648 := Jvm.Kit.i32_mask a 2147483647 (k := 31) (by decide) (by decide)
set_option maxHeartbeats 4000000 in
theorem own_mod18 (a : Int32) : (a &&& (2147483647 : Int32)) % (18 : Int32) = 0 ∨ (a &&& (2147483647 : Int32)) % (18 : Int32) = 1 ∨ (a &&& (2147483647 : Int32)) % (18 : Int32) = 2 ∨ (a &&& (2147483647 : Int32)) % (18 : Int32) = 3 ∨ (a &&& (2147483647 : Int32)) % (18 : Int32) = 4 ∨ (a &&& (2147483647 : Int32)) % (18 : Int32) = 5 ∨ (a &&& (2147483647 : Int32)) % (18 : Int32) = 6 ∨ (a &&& (2147483647 : Int32)) % (18 : Int32) = 7 ∨ (a &&& (2147483647 : Int32)) % (18 : Int32) = 8 ∨ (a &&& (2147483647 : Int32)) % (18 : Int32) = 9 ∨ (a &&& (2147483647 : Int32)) % (18 : Int32) = 10 ∨ (a &&& (2147483647 : Int32)) % (18 : Int32) = 11 ∨ (a &&& (2147483647 : Int32)) % (18 : Int32) = 12 ∨ (a &&& (2147483647 : Int32)) % (18 : Int32) = 13 ∨ (a &&& (2147483647 : Int32)) % (18 : Int32) = 14 ∨ (a &&& (2147483647 : Int32)) % (18 : Int32) = 15 ∨ (a &&& (2147483647 : Int32)) % (18 : Int32) = 16 ∨ (a &&& (2147483647 : Int32)) % (18 : Int32) = 17 := by
  have e : ((a &&& (2147483647 : Int32)) % (18 : Int32)).toInt = (a.toInt % 2147483648) % 18 := by
    rw [Jvm.Kit.i32_rem_nonneg (by rw [own_m31]; omega), own_m31]; rfl
  have h : (a.toInt % 2147483648) % 18 = 0 ∨ (a.toInt % 2147483648) % 18 = 1 ∨ (a.toInt % 2147483648) % 18 = 2 ∨ (a.toInt % 2147483648) % 18 = 3 ∨ (a.toInt % 2147483648) % 18 = 4 ∨ (a.toInt % 2147483648) % 18 = 5 ∨ (a.toInt % 2147483648) % 18 = 6 ∨ (a.toInt % 2147483648) % 18 = 7 ∨ (a.toInt % 2147483648) % 18 = 8 ∨ (a.toInt % 2147483648) % 18 = 9 ∨ (a.toInt % 2147483648) % 18 = 10 ∨ (a.toInt % 2147483648) % 18 = 11 ∨ (a.toInt % 2147483648) % 18 = 12 ∨ (a.toInt % 2147483648) % 18 = 13 ∨ (a.toInt % 2147483648) % 18 = 14 ∨ (a.toInt % 2147483648) % 18 = 15 ∨ (a.toInt % 2147483648) % 18 = 16 ∨ (a.toInt % 2147483648) % 18 = 17 := by omega
  rcases h with h | h | h | h | h | h | h | h | h | h | h | h | h | h | h | h | h | h
  · exact Or.inl (Int32.toInt_inj.mp (e.trans h))
  · exact Or.inr (Or.inl (Int32.toInt_inj.mp (e.trans h)))
  · exact Or.inr (Or.inr (Or.inl (Int32.toInt_inj.mp (e.trans h))))
  · exact Or.inr (Or.inr (Or.inr (Or.inl (Int32.toInt_inj.mp (e.trans h)))))
  · exact Or.inr (Or.inr (Or.inr (Or.inr (Or.inl (Int32.toInt_inj.mp (e.trans h))))))
  · exact Or.inr (Or.inr (Or.inr (Or.inr (Or.inr (Or.inl (Int32.toInt_inj.mp (e.trans h)))))))
  · exact Or.inr (Or.inr (Or.inr (Or.inr (Or.inr (Or.inr (Or.inl (Int32.toInt_inj.mp (e.trans h))))))))
  · exact Or.inr (Or.inr (Or.inr (Or.inr (Or.inr (Or.inr (Or.inr (Or.inl (Int32.toInt_inj.mp (e.trans h)))))))))
  · exact Or.inr (Or.inr (Or.inr (Or.inr (Or.inr (Or.inr (Or.inr (Or.inr (Or.inl (Int32.toInt_inj.mp (e.trans h))))))))))
  · exact Or.inr (Or.inr (Or.inr (Or.inr (Or.inr (Or.inr (Or.inr (Or.inr (Or.inr (Or.inl (Int32.toInt_inj.mp (e.trans h)))))))))))
  · exact Or.inr (Or.inr (Or.inr (Or.inr (Or.inr (Or.inr (Or.inr (Or.inr (Or.inr (Or.inr (Or.inl (Int32.toInt_inj.mp (e.trans h))))))))))))
  · exact Or.inr (Or.inr (Or.inr (Or.inr (Or.inr (Or.inr (Or.inr (Or.inr (Or.inr (Or.inr (Or.inr (Or.inl (Int32.toInt_inj.mp (e.trans h)))))))))))))
  · exact Or.inr (Or.inr (Or.inr (Or.inr (Or.inr (Or.inr (Or.inr (Or.inr (Or.inr (Or.inr (Or.inr (Or.inr (Or.inl (Int32.toInt_inj.mp (e.trans h))))))))))))))
  · exact Or.inr (Or.inr (Or.inr (Or.inr (Or.inr (Or.inr (Or.inr (Or.inr (Or.inr (Or.inr (Or.inr (Or.inr (Or.inr (Or.inl (Int32.toInt_inj.mp (e.trans h)))))))))))))))
  · exact Or.inr (Or.inr (Or.inr (Or.inr (Or.inr (Or.inr (Or.inr (Or.inr (Or.inr (Or.inr (Or.inr (Or.inr (Or.inr (Or.inr (Or.inl (Int32.toInt_inj.mp (e.trans h))))))))))))))))
  · exact Or.inr (Or.inr (Or.inr (Or.inr (Or.inr (Or.inr (Or.inr (Or.inr (Or.inr (Or.inr (Or.inr (Or.inr (Or.inr (Or.inr (Or.inr (Or.inl (Int32.toInt_inj.mp (e.trans h)))))))))))))))))
  · exact Or.inr (Or.inr (Or.inr (Or.inr (Or.inr (Or.inr (Or.inr (Or.inr (Or.inr (Or.inr (Or.inr (Or.inr (Or.inr (Or.inr (Or.inr (Or.inr (Or.inl (Int32.toInt_inj.mp (e.trans h))))))))))))))))))
  · exact Or.inr (Or.inr (Or.inr (Or.inr (Or.inr (Or.inr (Or.inr (Or.inr (Or.inr (Or.inr (Or.inr (Or.inr (Or.inr (Or.inr (Or.inr (Or.inr (Or.inr ((Int32.toInt_inj.mp (e.trans h)))))))))))))))))))

set_option maxHeartbeats 4000000 in
theorem own_case0 (n : Int32) : own_f2 n (2 : Int32) (-1 : Int32) = own_f3 0 n := by
  unfold own_f2 own_f3
  simp only [Int32.lt_iff_toInt_lt, ← Int32.toInt_inj, Int32.reduceToInt, Int.reduceLT, Int.reduceEq, Int.reduceNeg, if_true, if_false]
  repeat' (first | rfl | (exfalso; omega) | split)

set_option maxHeartbeats 4000000 in
theorem own_case1 (n : Int32) : own_f2 n (2 : Int32) (-1 : Int32) = own_f3 1 n := by
  unfold own_f2 own_f3
  simp only [Int32.lt_iff_toInt_lt, ← Int32.toInt_inj, Int32.reduceToInt, Int.reduceLT, Int.reduceEq, Int.reduceNeg, if_true, if_false]
  repeat' (first | rfl | (exfalso; omega) | split)

set_option maxHeartbeats 4000000 in
theorem own_case2 (n : Int32) : own_f2 n (2 : Int32) (2 : Int32) = own_f3 2 n := by
  unfold own_f2 own_f3
  simp only [Int32.lt_iff_toInt_lt, ← Int32.toInt_inj, Int32.reduceToInt, Int.reduceLT, Int.reduceEq, Int.reduceNeg, if_true, if_false]
  repeat' (first | rfl | (exfalso; omega) | split)

set_option maxHeartbeats 4000000 in
theorem own_case3 (n : Int32) : own_f2 n (2 : Int32) (2 : Int32) = own_f3 3 n := by
  unfold own_f2 own_f3
  simp only [Int32.lt_iff_toInt_lt, ← Int32.toInt_inj, Int32.reduceToInt, Int.reduceLT, Int.reduceEq, Int.reduceNeg, if_true, if_false]
  repeat' (first | rfl | (exfalso; omega) | split)

set_option maxHeartbeats 4000000 in
theorem own_case4 (n : Int32) : own_f2 n (2 : Int32) (2 : Int32) = own_f3 4 n := by
  unfold own_f2 own_f3
  simp only [Int32.lt_iff_toInt_lt, ← Int32.toInt_inj, Int32.reduceToInt, Int.reduceLT, Int.reduceEq, Int.reduceNeg, if_true, if_false]
  repeat' (first | rfl | (exfalso; omega) | split)

set_option maxHeartbeats 4000000 in
theorem own_case5 (n : Int32) : own_f2 n (1 : Int32) (-1 : Int32) = own_f3 5 n := by
  unfold own_f2 own_f3
  simp only [Int32.lt_iff_toInt_lt, ← Int32.toInt_inj, Int32.reduceToInt, Int.reduceLT, Int.reduceEq, Int.reduceNeg, if_true, if_false]
  repeat' (first | rfl | (exfalso; omega) | split)

set_option maxHeartbeats 4000000 in
theorem own_case6 (n : Int32) : own_f2 n (1 : Int32) (-1 : Int32) = own_f3 6 n := by
  unfold own_f2 own_f3
  simp only [Int32.lt_iff_toInt_lt, ← Int32.toInt_inj, Int32.reduceToInt, Int.reduceLT, Int.reduceEq, Int.reduceNeg, if_true, if_false]
  repeat' (first | rfl | (exfalso; omega) | split)

set_option maxHeartbeats 4000000 in
theorem own_case7 (n : Int32) : own_f2 n (1 : Int32) (1 : Int32) = own_f3 7 n := by
  unfold own_f2 own_f3
  simp only [Int32.lt_iff_toInt_lt, ← Int32.toInt_inj, Int32.reduceToInt, Int.reduceLT, Int.reduceEq, Int.reduceNeg, if_true, if_false]
  repeat' (first | rfl | (exfalso; omega) | split)

set_option maxHeartbeats 4000000 in
theorem own_case8 (n : Int32) : own_f2 n (1 : Int32) (1 : Int32) = own_f3 8 n := by
  unfold own_f2 own_f3
  simp only [Int32.lt_iff_toInt_lt, ← Int32.toInt_inj, Int32.reduceToInt, Int.reduceLT, Int.reduceEq, Int.reduceNeg, if_true, if_false]
  repeat' (first | rfl | (exfalso; omega) | split)

set_option maxHeartbeats 4000000 in
theorem own_case9 (n : Int32) : own_f2 n (0 : Int32) (1 : Int32) = own_f3 9 n := by
  unfold own_f2 own_f3
  simp only [Int32.lt_iff_toInt_lt, ← Int32.toInt_inj, Int32.reduceToInt, Int.reduceLT, Int.reduceEq, Int.reduceNeg, if_true, if_false]
  repeat' (first | rfl | (exfalso; omega) | split)

set_option maxHeartbeats 4000000 in
theorem own_case10 (n : Int32) : own_f2 n (0 : Int32) (0 : Int32) = own_f3 10 n := by
  unfold own_f2 own_f3
  simp only [Int32.lt_iff_toInt_lt, ← Int32.toInt_inj, Int32.reduceToInt, Int.reduceLT, Int.reduceEq, Int.reduceNeg, if_true, if_false]
  repeat' (first | rfl | (exfalso; omega) | split)

set_option maxHeartbeats 4000000 in
theorem own_case11 (n : Int32) : own_f2 n (0 : Int32) (-1 : Int32) = own_f3 11 n := by
  unfold own_f2 own_f3
  simp only [Int32.lt_iff_toInt_lt, ← Int32.toInt_inj, Int32.reduceToInt, Int.reduceLT, Int.reduceEq, Int.reduceNeg, if_true, if_false]
  repeat' (first | rfl | (exfalso; omega) | split)

set_option maxHeartbeats 4000000 in
theorem own_case12 (n : Int32) : own_f2 n (0 : Int32) (-1 : Int32) = own_f3 12 n := by
  unfold own_f2 own_f3
  simp only [Int32.lt_iff_toInt_lt, ← Int32.toInt_inj, Int32.reduceToInt, Int.reduceLT, Int.reduceEq, Int.reduceNeg, if_true, if_false]
  repeat' (first | rfl | (exfalso; omega) | split)

set_option maxHeartbeats 4000000 in
theorem own_case13 (n : Int32) : own_f2 n (0 : Int32) (-1 : Int32) = own_f3 13 n := by
  unfold own_f2 own_f3
  simp only [Int32.lt_iff_toInt_lt, ← Int32.toInt_inj, Int32.reduceToInt, Int.reduceLT, Int.reduceEq, Int.reduceNeg, if_true, if_false]
  repeat' (first | rfl | (exfalso; omega) | split)

set_option maxHeartbeats 4000000 in
theorem own_case14 (n : Int32) : own_f2 n (2 : Int32) (3 : Int32) = own_f3 14 n := by
  unfold own_f2 own_f3
  simp only [Int32.lt_iff_toInt_lt, ← Int32.toInt_inj, Int32.reduceToInt, Int.reduceLT, Int.reduceEq, Int.reduceNeg, if_true, if_false]
  repeat' (first | rfl | (exfalso; omega) | split)

set_option maxHeartbeats 4000000 in
theorem own_case15 (n : Int32) : own_f2 n (2 : Int32) (3 : Int32) = own_f3 15 n := by
  unfold own_f2 own_f3
  simp only [Int32.lt_iff_toInt_lt, ← Int32.toInt_inj, Int32.reduceToInt, Int.reduceLT, Int.reduceEq, Int.reduceNeg, if_true, if_false]
  repeat' (first | rfl | (exfalso; omega) | split)

set_option maxHeartbeats 4000000 in
theorem own_case16 (n : Int32) : own_f2 n (3 : Int32) (4 : Int32) = own_f3 16 n := by
  unfold own_f2 own_f3
  simp only [Int32.lt_iff_toInt_lt, ← Int32.toInt_inj, Int32.reduceToInt, Int.reduceLT, Int.reduceEq, Int.reduceNeg, if_true, if_false]
  repeat' (first | rfl | (exfalso; omega) | split)

set_option maxHeartbeats 4000000 in
theorem own_case17 (n : Int32) : own_f2 n (3 : Int32) (3 : Int32) = own_f3 17 n := by
  unfold own_f2 own_f3
  simp only [Int32.lt_iff_toInt_lt, ← Int32.toInt_inj, Int32.reduceToInt, Int.reduceLT, Int.reduceEq, Int.reduceNeg, if_true, if_false]
  repeat' (first | rfl | (exfalso; omega) | split)

set_option maxHeartbeats 4000000 in
theorem own_case (k n : Int32) (h : k = 0 ∨ k = 1 ∨ k = 2 ∨ k = 3 ∨ k = 4 ∨ k = 5 ∨ k = 6 ∨ k = 7 ∨ k = 8 ∨ k = 9 ∨ k = 10 ∨ k = 11 ∨ k = 12 ∨ k = 13 ∨ k = 14 ∨ k = 15 ∨ k = 16 ∨ k = 17) : own_f2 n (own_few (own_ix k)) (own_most (own_ix k)) = own_f3 k n := by
  rcases h with rfl | rfl | rfl | rfl | rfl | rfl | rfl | rfl | rfl | rfl | rfl | rfl | rfl | rfl | rfl | rfl | rfl | rfl
  · rw [show own_ix 0 = 0 from by decide]; exact own_case0 n
  · rw [show own_ix 1 = 1 from by decide]; exact own_case1 n
  · rw [show own_ix 2 = 2 from by decide]; exact own_case2 n
  · rw [show own_ix 3 = 3 from by decide]; exact own_case3 n
  · rw [show own_ix 4 = 4 from by decide]; exact own_case4 n
  · rw [show own_ix 5 = 5 from by decide]; exact own_case5 n
  · rw [show own_ix 6 = 6 from by decide]; exact own_case6 n
  · rw [show own_ix 7 = 7 from by decide]; exact own_case7 n
  · rw [show own_ix 8 = 8 from by decide]; exact own_case8 n
  · rw [show own_ix 9 = 9 from by decide]; exact own_case9 n
  · rw [show own_ix 10 = 10 from by decide]; exact own_case10 n
  · rw [show own_ix 11 = 11 from by decide]; exact own_case11 n
  · rw [show own_ix 12 = 12 from by decide]; exact own_case12 n
  · rw [show own_ix 13 = 13 from by decide]; exact own_case13 n
  · rw [show own_ix 14 = 14 from by decide]; exact own_case14 n
  · rw [show own_ix 15 = 15 from by decide]; exact own_case15 n
  · rw [show own_ix 16 = 16 from by decide]; exact own_case16 n
  · rw [show own_ix 17 = 17 from by decide]; exact own_case17 n
theorem own_law (a b c : Int32) : own_f0 a b c = 1 := by
  unfold own_f0
  have h := own_mod18 a
  generalize (a &&& (2147483647 : Int32)) % (18 : Int32) = k at *
  rw [if_pos (own_case k b h), if_pos (own_case k _ h)]

theorem own_all18 {P : Nat → Prop} (h0 : P 0) (h1 : P 1) (h2 : P 2) (h3 : P 3) (h4 : P 4) (h5 : P 5) (h6 : P 6) (h7 : P 7) (h8 : P 8) (h9 : P 9) (h10 : P 10) (h11 : P 11) (h12 : P 12) (h13 : P 13) (h14 : P 14) (h15 : P 15) (h16 : P 16) (h17 : P 17) : ∀ i, i < 18 → P i
  | 0, _ => h0
  | 1, _ => h1
  | 2, _ => h2
  | 3, _ => h3
  | 4, _ => h4
  | 5, _ => h5
  | 6, _ => h6
  | 7, _ => h7
  | 8, _ => h8
  | 9, _ => h9
  | 10, _ => h10
  | 11, _ => h11
  | 12, _ => h12
  | 13, _ => h13
  | 14, _ => h14
  | 15, _ => h15
  | 16, _ => h16
  | 17, _ => h17
  | n + 18, hi => absurd hi (by omega)

set_option maxRecDepth 65536 in
set_option maxHeartbeats 40000000 in
theorem comes_1 {Post : Tables → Env → Array Value → State → Outcome → State → Prop} (hpost : ∀ tb e args s v u, (limb_1_1.after args s (.returned v) u = true ∧ limb_1_2.after args s (.returned v) u = true ∧ True) → FrameEnd s (.returned v) u (Jvm.fieldLocs frame_1_writes args s ++ Jvm.arrayLocs frame_1_arrays args s ++ Jvm.staticLocs frame_1_statics s) 0 0 → Post tb e args s (.returned v) u) :
    ArmFor flags0 classFile x code maxLocals ret World_1 tables_1 room_1 Calls_1 rest_1 Pre_1 Post := by
  intro l hfl _ _ p e ha hc hk s m args below hf hA hF happ hP
  obtain ⟨hcalls, hrest, hpre⟩ := hP
  obtain ⟨-, -, -, hnamed, -, -, -, hat⟩ := (Spec.applies_iff hf).mp happ
  obtain ⟨hg, hn⟩ := and_e (Cond.before_iff.mp (show (Jvm.Cond.and given_1 narrow_1).before args s = true from hpre))
  obtain ⟨gg1, gg2⟩ := and_e hg
  obtain ⟨gg3, gg4⟩ := and_e gg2
  obtain ⟨gg5, gg6⟩ := and_e gg4
  obtain ⟨w0, w1, w2, rfl⟩ : ∃ w0 w1 w2 : Value, args = #[w0, w1, w2] := by
    have hs : args.size = 3 := by simpa [Cond.value, given_1] using gg1
    obtain ⟨L⟩ := args
    match L, hs with
    | [w0, w1, w2], _ => exact ⟨w0, w1, w2, rfl⟩
  have hw := fun d (hd : d ∈ tables_1) => atoms_spec (ws := Jvm.Cond.code x code maxLocals ret :: tables_1) hat d (List.mem_cons_of_mem _ hd)
  have hfit : Fit s := fun {y c} hc i hi => by
    obtain ⟨ha, rfl⟩ := Array.getElem?_eq_some_iff.mp hc
    have q := List.all_eq_true.mp ((Array.all_eq_true_iff_forall_mem.mp hF) _ (Array.getElem_mem ha)) i (List.mem_range.mpr hi)
    simpa [Array.getElem?_eq_getElem hi] using q
  obtain ⟨i0, ei0⟩ := is_v gg3
  obtain rfl : w0 = (.int i0) := Option.some.inj ei0
  obtain ⟨i1, ei1⟩ := is_v gg5
  obtain rfl : w1 = (.int i1) := Option.some.inj ei1
  obtain ⟨i2, ei2⟩ := is_v gg6
  obtain rfl : w2 = (.int i2) := Option.some.inj ei2
  obtain ⟨nw1, nw2⟩ := and_e hn
  obtain ⟨nw3, nw4⟩ := and_e nw2
  obtain ⟨nw5, nw6⟩ := and_e nw4
  obtain ⟨nw7, nw8⟩ := and_e nw6
  obtain ⟨nw9, nw10⟩ := and_e nw8
  obtain ⟨nw11, nw12⟩ := and_e nw10
  obtain ⟨nw13, nw14⟩ := and_e nw12
  obtain ⟨nw15, nw16⟩ := and_e nw14
  obtain ⟨nw17, nw18⟩ := and_e nw16
  obtain ⟨nw19, nw20⟩ := and_e nw18
  obtain ⟨nw21, nw22⟩ := and_e nw20
  obtain ⟨nw23, nw24⟩ := and_e nw22
  obtain ⟨nw25, nw26⟩ := and_e nw24
  obtain ⟨nw27, nw28⟩ := and_e nw26
  obtain ⟨nw29, nw30⟩ := and_e nw28
  obtain ⟨nw31, nw32⟩ := and_e nw30
  obtain ⟨nw33, nw34⟩ := and_e nw32
  obtain ⟨nw35, nw36⟩ := and_e nw34
  obtain ⟨nw37, nw38⟩ := and_e nw36
  obtain ⟨nw39, nw40⟩ := and_e nw38
  obtain ⟨nw41, nw42⟩ := and_e nw40
  obtain ⟨nw43, nw44⟩ := and_e nw42
  obtain ⟨nw45, nw46⟩ := and_e nw44
  obtain ⟨nw47, nw48⟩ := and_e nw46
  obtain ⟨nw49, nw50⟩ := and_e nw48
  obtain ⟨nw51, nw52⟩ := and_e nw50
  obtain ⟨nw53, nw54⟩ := and_e nw52
  obtain ⟨nw55, nw56⟩ := and_e nw54
  obtain ⟨nw57, nw58⟩ := and_e nw56
  obtain ⟨nw59, nw60⟩ := and_e nw58
  obtain ⟨nw61, nw62⟩ := and_e nw60
  obtain ⟨nw63, nw64⟩ := and_e nw62
  obtain ⟨nw65, nw66⟩ := and_e nw64
  obtain ⟨nw67, nw68⟩ := and_e nw66
  obtain ⟨nw69, nw70⟩ := and_e nw68
  obtain ⟨nw71, nw72⟩ := and_e nw70
  obtain ⟨nw73, nw74⟩ := and_e nw72
  obtain ⟨nw75, nw76⟩ := and_e nw74
  obtain ⟨nw77, nw78⟩ := and_e nw76
  obtain ⟨nw79, nw80⟩ := and_e nw78
  obtain ⟨nw81, nw82⟩ := and_e nw80
  obtain ⟨nw83, nw84⟩ := and_e nw82
  obtain ⟨nw85, nw86⟩ := and_e nw84
  obtain ⟨nw87, nw88⟩ := and_e nw86
  obtain ⟨nw89, nw90⟩ := and_e nw88
  obtain ⟨nw91, nw92⟩ := and_e nw90
  obtain ⟨nw93, nw94⟩ := and_e nw92
  obtain ⟨nw95, nw96⟩ := and_e nw94
  obtain ⟨nw97, nw98⟩ := and_e nw96
  obtain ⟨nw99, nw100⟩ := and_e nw98
  obtain ⟨nw101, nw102⟩ := and_e nw100
  obtain ⟨nw103, nw104⟩ := and_e nw102
  obtain ⟨nw105, nw106⟩ := and_e nw104
  obtain ⟨k_OR, ev_OR⟩ := exa_v nw1
  have E_OR := Exa.start ev_OR nw1
  have S_OR := Sta.start ev_OR (Or.inr ⟨(hw _ (List.mem_of_getElem? (i := 6) rfl)), (hw _ (List.mem_of_getElem? (i := 7) rfl))⟩)
  obtain ⟨k_AND, ev_AND⟩ := exa_v nw7
  have E_AND := Exa.start ev_AND nw7
  have S_AND := Sta.start ev_AND (Or.inr ⟨(hw _ (List.mem_of_getElem? (i := 6) rfl)), (hw _ (List.mem_of_getElem? (i := 21) rfl))⟩)
  obtain ⟨k_EQUAL, ev_EQUAL⟩ := exa_v nw13
  have E_EQUAL := Exa.start ev_EQUAL nw13
  have S_EQUAL := Sta.start ev_EQUAL (Or.inr ⟨(hw _ (List.mem_of_getElem? (i := 6) rfl)), (hw _ (List.mem_of_getElem? (i := 23) rfl))⟩)
  obtain ⟨k_IF, ev_IF⟩ := exa_v nw19
  have E_IF := Exa.start ev_IF nw19
  have S_IF := Sta.start ev_IF (Or.inr ⟨(hw _ (List.mem_of_getElem? (i := 6) rfl)), (hw _ (List.mem_of_getElem? (i := 25) rfl))⟩)
  obtain ⟨k_STR, ev_STR⟩ := exa_v nw25
  have E_STR := Exa.start ev_STR nw25
  have S_STR := Sta.start ev_STR (Or.inr ⟨(hw _ (List.mem_of_getElem? (i := 6) rfl)), (hw _ (List.mem_of_getElem? (i := 27) rfl))⟩)
  obtain ⟨k_NOT_IN, ev_NOT_IN⟩ := exa_v nw31
  have E_NOT_IN := Exa.start ev_NOT_IN nw31
  have S_NOT_IN := Sta.start ev_NOT_IN (Or.inr ⟨(hw _ (List.mem_of_getElem? (i := 6) rfl)), (hw _ (List.mem_of_getElem? (i := 29) rfl))⟩)
  obtain ⟨k_NOT, ev_NOT⟩ := exa_v nw37
  have E_NOT := Exa.start ev_NOT nw37
  have S_NOT := Sta.start ev_NOT (Or.inr ⟨(hw _ (List.mem_of_getElem? (i := 6) rfl)), (hw _ (List.mem_of_getElem? (i := 31) rfl))⟩)
  obtain ⟨k_ADD, ev_ADD⟩ := exa_v nw43
  have E_ADD := Exa.start ev_ADD nw43
  have S_ADD := Sta.start ev_ADD (Or.inr ⟨(hw _ (List.mem_of_getElem? (i := 6) rfl)), (hw _ (List.mem_of_getElem? (i := 33) rfl))⟩)
  obtain ⟨k_RAND, ev_RAND⟩ := exa_v nw49
  have E_RAND := Exa.start ev_RAND nw49
  have S_RAND := Sta.start ev_RAND (Or.inr ⟨(hw _ (List.mem_of_getElem? (i := 6) rfl)), (hw _ (List.mem_of_getElem? (i := 35) rfl))⟩)
  obtain ⟨k_REPLACE, ev_REPLACE⟩ := exa_v nw55
  have E_REPLACE := Exa.start ev_REPLACE nw55
  have S_REPLACE := Sta.start ev_REPLACE (Or.inr ⟨(hw _ (List.mem_of_getElem? (i := 6) rfl)), (hw _ (List.mem_of_getElem? (i := 37) rfl))⟩)
  obtain ⟨k_COALESCE, ev_COALESCE⟩ := exa_v nw61
  have E_COALESCE := Exa.start ev_COALESCE nw61
  have S_COALESCE := Sta.start ev_COALESCE (Or.inr ⟨(hw _ (List.mem_of_getElem? (i := 6) rfl)), (hw _ (List.mem_of_getElem? (i := 39) rfl))⟩)
  obtain ⟨k_CONCAT, ev_CONCAT⟩ := exa_v nw67
  have E_CONCAT := Exa.start ev_CONCAT nw67
  have S_CONCAT := Sta.start ev_CONCAT (Or.inr ⟨(hw _ (List.mem_of_getElem? (i := 6) rfl)), (hw _ (List.mem_of_getElem? (i := 41) rfl))⟩)
  obtain ⟨k_UNDEFINED, ev_UNDEFINED⟩ := exa_v nw73
  have E_UNDEFINED := Exa.start ev_UNDEFINED nw73
  have S_UNDEFINED := Sta.start ev_UNDEFINED (Or.inr ⟨(hw _ (List.mem_of_getElem? (i := 6) rfl)), (hw _ (List.mem_of_getElem? (i := 43) rfl))⟩)
  obtain ⟨k_BNODE, ev_BNODE⟩ := exa_v nw79
  have E_BNODE := Exa.start ev_BNODE nw79
  have S_BNODE := Sta.start ev_BNODE (Or.inr ⟨(hw _ (List.mem_of_getElem? (i := 6) rfl)), (hw _ (List.mem_of_getElem? (i := 45) rfl))⟩)
  obtain ⟨k_REGEX, ev_REGEX⟩ := exa_v nw85
  have E_REGEX := Exa.start ev_REGEX nw85
  have S_REGEX := Sta.start ev_REGEX (Or.inr ⟨(hw _ (List.mem_of_getElem? (i := 6) rfl)), (hw _ (List.mem_of_getElem? (i := 47) rfl))⟩)
  obtain ⟨k_IN, ev_IN⟩ := exa_v nw91
  have E_IN := Exa.start ev_IN nw91
  have S_IN := Sta.start ev_IN (Or.inr ⟨(hw _ (List.mem_of_getElem? (i := 6) rfl)), (hw _ (List.mem_of_getElem? (i := 49) rfl))⟩)
  obtain ⟨k_SUBSTR, ev_SUBSTR⟩ := exa_v nw97
  have E_SUBSTR := Exa.start ev_SUBSTR nw97
  have S_SUBSTR := Sta.start ev_SUBSTR (Or.inr ⟨(hw _ (List.mem_of_getElem? (i := 6) rfl)), (hw _ (List.mem_of_getElem? (i := 51) rfl))⟩)
  obtain ⟨k_LANGMATCHES, ev_LANGMATCHES⟩ := exa_v nw103
  have E_LANGMATCHES := Exa.start ev_LANGMATCHES nw103
  have S_LANGMATCHES := Sta.start ev_LANGMATCHES (Or.inr ⟨(hw _ (List.mem_of_getElem? (i := 6) rfl)), (hw _ (List.mem_of_getElem? (i := 53) rfl))⟩)
  have F_OR_fewest := own_fldI nw3 ev_OR
  have F_OR_most := own_fldI nw5 ev_OR
  have F_AND_fewest := own_fldI nw9 ev_AND
  have F_AND_most := own_fldI nw11 ev_AND
  have F_EQUAL_fewest := own_fldI nw15 ev_EQUAL
  have F_EQUAL_most := own_fldI nw17 ev_EQUAL
  have F_IF_fewest := own_fldI nw21 ev_IF
  have F_IF_most := own_fldI nw23 ev_IF
  have F_STR_fewest := own_fldI nw27 ev_STR
  have F_STR_most := own_fldI nw29 ev_STR
  have F_NOT_IN_fewest := own_fldI nw33 ev_NOT_IN
  have F_NOT_IN_most := own_fldI nw35 ev_NOT_IN
  have F_NOT_fewest := own_fldI nw39 ev_NOT
  have F_NOT_most := own_fldI nw41 ev_NOT
  have F_ADD_fewest := own_fldI nw45 ev_ADD
  have F_ADD_most := own_fldI nw47 ev_ADD
  have F_RAND_fewest := own_fldI nw51 ev_RAND
  have F_RAND_most := own_fldI nw53 ev_RAND
  have F_REPLACE_fewest := own_fldI nw57 ev_REPLACE
  have F_REPLACE_most := own_fldI nw59 ev_REPLACE
  have F_COALESCE_fewest := own_fldI nw63 ev_COALESCE
  have F_COALESCE_most := own_fldI nw65 ev_COALESCE
  have F_CONCAT_fewest := own_fldI nw69 ev_CONCAT
  have F_CONCAT_most := own_fldI nw71 ev_CONCAT
  have F_UNDEFINED_fewest := own_fldI nw75 ev_UNDEFINED
  have F_UNDEFINED_most := own_fldI nw77 ev_UNDEFINED
  have F_BNODE_fewest := own_fldI nw81 ev_BNODE
  have F_BNODE_most := own_fldI nw83 ev_BNODE
  have F_REGEX_fewest := own_fldI nw87 ev_REGEX
  have F_REGEX_most := own_fldI nw89 ev_REGEX
  have F_IN_fewest := own_fldI nw93 ev_IN
  have F_IN_most := own_fldI nw95 ev_IN
  have F_SUBSTR_fewest := own_fldI nw99 ev_SUBSTR
  have F_SUBSTR_most := own_fldI nw101 ev_SUBSTR
  have F_LANGMATCHES_fewest := own_fldI nw105 ev_LANGMATCHES
  have F_LANGMATCHES_most := own_fldI nw106 ev_LANGMATCHES
  obtain ⟨n, o, h1, h2, h3, _, L, rfl, ⟨rfl, N, -⟩, hq⟩ := rm0 l s _ hw i0 i1 i2 s.heap s.heap.size (Nat.le_refl _) (fun i => [k_OR, k_AND, k_EQUAL, k_ADD, k_LANGMATCHES, k_IN, k_NOT_IN, k_NOT, k_STR, k_BNODE, k_RAND, k_CONCAT, k_COALESCE, k_UNDEFINED, k_SUBSTR, k_REGEX, k_REPLACE, k_IF].getD i 0) S_OR S_AND S_EQUAL S_ADD S_LANGMATCHES S_IN S_NOT_IN S_NOT S_STR S_BNODE S_RAND S_CONCAT S_COALESCE S_UNDEFINED S_SUBSTR S_REGEX S_REPLACE S_IF (own_all18 E_OR E_AND E_EQUAL E_ADD E_LANGMATCHES E_IN E_NOT_IN E_NOT E_STR E_BNODE E_RAND E_CONCAT E_COALESCE E_UNDEFINED E_SUBSTR E_REGEX E_REPLACE E_IF) (own_all18 F_OR_fewest F_AND_fewest F_EQUAL_fewest F_ADD_fewest F_LANGMATCHES_fewest F_IN_fewest F_NOT_IN_fewest F_NOT_fewest F_STR_fewest F_BNODE_fewest F_RAND_fewest F_CONCAT_fewest F_COALESCE_fewest F_UNDEFINED_fewest F_SUBSTR_fewest F_REGEX_fewest F_REPLACE_fewest F_IF_fewest) (own_all18 F_OR_most F_AND_most F_EQUAL_most F_ADD_most F_LANGMATCHES_most F_IN_most F_NOT_IN_most F_NOT_most F_STR_most F_BNODE_most F_RAND_most F_CONCAT_most F_COALESCE_most F_UNDEFINED_most F_SUBSTR_most F_REGEX_most F_REPLACE_most F_IF_most) p e ha hc hk s m _ below hf ((Spec.applies_iff_loose hf).mp happ).1 ⟨rfl, State.Warmed39.refl s, rfl⟩ trivial
  refine ⟨n, _, h1, h2, h3, hpost _ _ _ _ _ _ ⟨Cond.after_iff.mpr rfl, Cond.after_iff.mpr (eq_i res_at (Term.int_eval (1)) (congrArg Value.int (own_law _ _ _))), trivial⟩ ⟨hq.1, hq.2.1, (hq.2.2.sift fun y hy => Or.inr (N y hy)).mono (by decide) (by decide)⟩⟩
theorem main_1_1 : Claimed_1_1 := comes_1 fun _ _ _ _ _ _ h hF => ⟨h.1, hF⟩
theorem main_1_2 : Claimed_1_2 := comes_1 fun _ _ _ _ _ _ h hF => ⟨h.2.1, hF⟩

end Jvm.Pilot.@@N@@
namespace Jvm.Pilot.@@N@@
open Jvm Jvm.ClassFile Sem Op Lib Jvm.Free Jvm.Stand Jvm.Pilot.@@N@@.Jvm.D
/-! MADE BY PROGRAM (witnessworld.py) out of the Statement's table words and the real class files: 12 classes; the members and pool entries that the words name. The judged class is class 1, her method 3. -/
namespace start1
open Jvm.ClassFile
def u (s : String) : CpInfo := .utf8 (stringToUtf16 s)
/-- a pool by its gaps: so many unusable entries, then the entry; so many at the end -/
def gap : Nat → List CpInfo → List CpInfo
  | 0, r => r
  | n + 1, r => .unusable :: gap n r
def poolList (es : List (Nat × CpInfo)) (last : Nat) : List CpInfo := es.foldr (fun e r => gap e.1 (e.2 :: r)) (gap last [])
def pool (es : List (Nat × CpInfo)) (last : Nat) : Array CpInfo := ⟨poolList es last⟩
def fileOf (pool : Array CpInfo) (this : Nat) (attrs : Array Attribute := #[]) (ms : Array MethodInfo := #[]) (fl : Nat := 33) (sup : Nat := 0) (ifs : Array Nat := #[]) (fds : Array FieldInfo := #[]) : ClassFile where
  minorVersion := 0
  majorVersion := 65
  constantPool := pool
  accessFlags := fl
  thisClass := this
  superClass := sup
  interfaces := ifs
  fields := fds
  methods := ms
  attributes := attrs
def plain (name : String) (sup : Option ClassId) : Class where
  name := name
  kind := .ordinary
  loader := none
  accessFlags := 33
  super := sup
  interfaces := #[]
  cf := none
  fields := #[]
  methods := #[]
  instanceTypes := #[]
  staticTypes := #[]
  resolved := #[]
  callSites := []
  init := .initialized
  statics := none
  mirror := none

def pool0 : Array CpInfo := pool [(5, u "<init>"), (0, u "()V"), (1, .class_ 10), (1, u "java/lang/Object")] 113

def k0m0 : Method := { name := "<init>", desc := "()V", sig := { parameters := [], returnType := none }, accessFlags := 1, code := none }
/-- java/lang/Object -/
def k0 : Class := { plain "java/lang/Object" none with
  accessFlags := 33
  interfaces := #[]
  cf := some (fileOf pool0 8 #[] #[{ accessFlags := 1, nameIndex := 5, descriptorIndex := 6, attributes := #[] }] 33 0 #[] #[])
  fields := #[]
  methods := #[k0m0]
  instanceTypes := #[]
  staticTypes := #[]
  resolved := Array.replicate 124 none
  statics := none }

def pool1 : Array CpInfo := pool [(2, .class_ 4), (1, u "java/lang/Object"), (0, u "<init>"), (0, u "()V"), (0, .fieldref 8 9), (0, .class_ 10), (0, .nameAndType 11 12), (0, u "com/example/tuplelift/tuplelift/service/Expression$Function"), (0, u "OR"), (0, u "Lcom/example/tuplelift/tuplelift/service/Expression$Function;"), (0, .fieldref 8 14), (0, .nameAndType 15 12), (0, u "AND"), (0, .fieldref 8 17), (0, .nameAndType 18 12), (0, u "EQUAL"), (0, .fieldref 8 20), (0, .nameAndType 21 12), (0, u "ADD"), (0, .fieldref 8 23), (0, .nameAndType 24 12), (0, u "LANGMATCHES"), (0, .fieldref 8 26), (0, .nameAndType 27 12), (0, u "IN"), (0, .fieldref 8 29), (0, .nameAndType 30 12), (0, u "NOT_IN"), (0, .fieldref 8 32), (0, .nameAndType 33 12), (0, u "NOT"), (0, .fieldref 8 35), (0, .nameAndType 36 12), (0, u "STR"), (0, .fieldref 8 38), (0, .nameAndType 39 12), (0, u "BNODE"), (0, .fieldref 8 41), (0, .nameAndType 42 12), (0, u "RAND"), (0, .fieldref 8 44), (0, .nameAndType 45 12), (0, u "CONCAT"), (0, .fieldref 8 47), (0, .nameAndType 48 12), (0, u "COALESCE"), (0, .fieldref 8 50), (0, .nameAndType 51 12), (0, u "UNDEFINED"), (0, .fieldref 8 53), (0, .nameAndType 54 12), (0, u "SUBSTR"), (0, .fieldref 8 56), (0, .nameAndType 57 12), (0, u "REGEX"), (0, .fieldref 8 59), (0, .nameAndType 60 12), (0, u "REPLACE"), (0, .fieldref 8 62), (0, .nameAndType 63 12), (0, u "IF"), (0, .integer 2147483647), (0, .methodref 66 67), (0, .class_ 68), (0, .nameAndType 69 70), (0, u "com/example/tuplelift/tuplelift/service/FunctionTakesPinLaw"), (0, u "fn"), (0, u "(I)Lcom/example/tuplelift/tuplelift/service/Expression$Function;"), (0, .methodref 8 72), (0, .nameAndType 73 74), (0, u "takes"), (0, u "(I)Z"), (0, .methodref 66 76), (0, .nameAndType 77 78), (0, u "expected"), (0, u "(II)Z"), (3, u "law"), (0, u "(III)Z")] 6

def k1m0 : Method := { name := "<init>", desc := "()V", sig := { parameters := [], returnType := none }, accessFlags := 2, code := none }
def k1c1 : Code := { maxStack := 2, maxLocals := 1, code := method_2_code, exceptionTable := #[], attributes := #[] }
def k1m1 : Method := { name := "fn", desc := "(I)Lcom/example/tuplelift/tuplelift/service/Expression$Function;", sig := { parameters := [.int], returnType := some (.object "com/example/tuplelift/tuplelift/service/Expression$Function") }, accessFlags := 10, code := some k1c1 }
def k1c2 : Code := { maxStack := 2, maxLocals := 2, code := method_3_code, exceptionTable := #[], attributes := #[] }
def k1m2 : Method := { name := "expected", desc := "(II)Z", sig := { parameters := [.int, .int], returnType := some .boolean }, accessFlags := 10, code := some k1c2 }
def k1c3 : Code := { maxStack := 3, maxLocals := 8, code := code, exceptionTable := #[], attributes := #[] }
def k1m3 : Method := { name := "law", desc := "(III)Z", sig := { parameters := [.int, .int, .int], returnType := some .boolean }, accessFlags := 9, code := some k1c3 }
/-- com/example/tuplelift/tuplelift/service/FunctionTakesPinLaw -/
def k1 : Class := { plain "com/example/tuplelift/tuplelift/service/FunctionTakesPinLaw" (some 0) with
  accessFlags := 49
  interfaces := #[]
  cf := some (fileOf pool1 66 #[] #[{ accessFlags := 2, nameIndex := 5, descriptorIndex := 6, attributes := #[] }, { accessFlags := 10, nameIndex := 69, descriptorIndex := 70, attributes := #[] }, { accessFlags := 10, nameIndex := 77, descriptorIndex := 78, attributes := #[] }, { accessFlags := 9, nameIndex := 82, descriptorIndex := 83, attributes := #[] }] 49 2 #[] #[])
  fields := #[]
  methods := #[k1m0, k1m1, k1m2, k1m3]
  instanceTypes := #[]
  staticTypes := #[]
  resolved := Array.replicate 90 none
  statics := none }

def pool2 : Array CpInfo := pool [(1, .class_ 2), (0, u "java/lang/constant/Constable"), (0, .class_ 4), (0, u "java/lang/Object")] 6

/-- java/lang/constant/Constable -/
def k2 : Class := { plain "java/lang/constant/Constable" (some 0) with
  accessFlags := 1537
  interfaces := #[]
  cf := some (fileOf pool2 1 #[] #[] 1537 3 #[] #[])
  fields := #[]
  methods := #[]
  instanceTypes := #[]
  staticTypes := #[]
  resolved := Array.replicate 11 none
  statics := none }

def pool3 : Array CpInfo := pool [(1, .class_ 2), (0, u "java/lang/Comparable"), (0, .class_ 4), (0, u "java/lang/Object")] 7

/-- java/lang/Comparable -/
def k3 : Class := { plain "java/lang/Comparable" (some 0) with
  accessFlags := 1537
  interfaces := #[]
  cf := some (fileOf pool3 1 #[] #[] 1537 3 #[] #[])
  fields := #[]
  methods := #[]
  instanceTypes := #[]
  staticTypes := #[]
  resolved := Array.replicate 12 none
  statics := none }

def pool4 : Array CpInfo := pool [(1, .class_ 2), (0, u "java/io/Serializable"), (0, .class_ 4), (0, u "java/lang/Object")] 2

/-- java/io/Serializable -/
def k4 : Class := { plain "java/io/Serializable" (some 0) with
  accessFlags := 1537
  interfaces := #[]
  cf := some (fileOf pool4 1 #[] #[] 1537 3 #[] #[])
  fields := #[]
  methods := #[]
  instanceTypes := #[]
  staticTypes := #[]
  resolved := Array.replicate 7 none
  statics := none }

def pool5 : Array CpInfo := pool [(2, .class_ 4), (1, u "java/lang/Enum"), (0, u "name"), (0, u "Ljava/lang/String;"), (2, u "ordinal"), (0, u "I"), (1, .class_ 14), (1, u "java/lang/Object"), (4, u "hash"), (86, .class_ 108), (1, u "java/lang/Enum$EnumDesc"), (2, .class_ 112), (0, u "java/lang/constant/Constable"), (0, .class_ 114), (0, u "java/lang/Comparable"), (0, .class_ 116), (0, u "java/io/Serializable")] 87

/-- java/lang/Enum -/
def k5 : Class := { plain "java/lang/Enum" (some 0) with
  accessFlags := 1057
  interfaces := #[2, 3, 4]
  cf := some (fileOf pool5 2 #[.nestMembers #[106]] #[] 1057 12 #[111, 113, 115] #[{ accessFlags := 18, nameIndex := 5, descriptorIndex := 6, attributes := #[] }, { accessFlags := 18, nameIndex := 9, descriptorIndex := 10, attributes := #[] }, { accessFlags := 2, nameIndex := 19, descriptorIndex := 10, attributes := #[] }])
  fields := #[{ name := "name", type := (.object "java/lang/String"), accessFlags := 18, slot := 0, constantValue := 0 }, { name := "ordinal", type := .int, accessFlags := 18, slot := 1, constantValue := 0 }, { name := "hash", type := .int, accessFlags := 2, slot := 2, constantValue := 0 }]
  methods := #[]
  instanceTypes := #[(.object "java/lang/String"), .int, .int]
  staticTypes := #[]
  resolved := Array.replicate 204 none
  statics := none }

def pool6 : Array CpInfo := pool [(1, .class_ 2), (0, u "com/example/tuplelift/tuplelift/service/Expression$Function"), (2, u "OR"), (0, u "Lcom/example/tuplelift/tuplelift/service/Expression$Function;"), (2, u "AND"), (2, u "EQUAL"), (2, u "NOT_EQUAL"), (2, u "LESS"), (2, u "GREATER"), (2, u "LESS_OR_EQUAL"), (2, u "GREATER_OR_EQUAL"), (2, u "IN"), (2, u "NOT_IN"), (2, u "ADD"), (2, u "SUBTRACT"), (2, u "MULTIPLY"), (2, u "DIVIDE"), (2, u "NOT"), (2, u "UNARY_PLUS"), (2, u "UNARY_MINUS"), (2, u "STR"), (2, u "LANG"), (2, u "LANGMATCHES"), (2, u "DATATYPE"), (2, u "BOUND"), (2, u "IRI"), (2, u "URI"), (2, u "BNODE"), (2, u "RAND"), (2, u "ABS"), (2, u "CEIL"), (2, u "FLOOR"), (2, u "ROUND"), (2, u "CONCAT"), (2, u "SUBSTR"), (2, u "STRLEN"), (2, u "REPLACE"), (2, u "UCASE"), (2, u "LCASE"), (2, u "ENCODE_FOR_URI"), (2, u "CONTAINS"), (2, u "STRSTARTS"), (2, u "STRENDS"), (2, u "STRBEFORE"), (2, u "STRAFTER"), (2, u "YEAR"), (2, u "MONTH"), (2, u "DAY"), (2, u "HOURS"), (2, u "MINUTES"), (2, u "SECONDS"), (2, u "TIMEZONE"), (2, u "TZ"), (2, u "NOW"), (2, u "UUID"), (2, u "STRUUID"), (2, u "MD5"), (2, u "SHA1"), (2, u "SHA256"), (2, u "SHA384"), (2, u "SHA512"), (2, u "COALESCE"), (2, u "IF"), (2, u "STRLANG"), (2, u "STRDT"), (2, u "SAME_TERM"), (2, u "IS_IRI"), (2, u "IS_URI"), (2, u "IS_BLANK"), (2, u "IS_LITERAL"), (2, u "IS_NUMERIC"), (2, u "REGEX"), (2, u "CAST_STRING"), (2, u "CAST_BOOLEAN"), (2, u "CAST_INTEGER"), (2, u "CAST_DECIMAL"), (2, u "CAST_FLOAT"), (2, u "CAST_DOUBLE"), (2, u "CAST_DATE_TIME"), (2, u "UNDEFINED"), (2, u "$VALUES"), (0, u "[Lcom/example/tuplelift/tuplelift/service/Expression$Function;"), (6, .class_ 247), (1, u "java/lang/Enum"), (8, u "keyword"), (0, u "Ljava/lang/String;"), (0, .fieldref 1 259), (0, .nameAndType 260 261), (0, u "fewest"), (0, u "I"), (0, .fieldref 1 263), (0, .nameAndType 264 261), (0, u "most"), (104, u "takes"), (0, u "(I)Z"), (7, .class_ 379), (0, u "com/example/tuplelift/tuplelift/service/Expression")] 2

def k6c0 : Code := { maxStack := 2, maxLocals := 2, code := prog_66_method_5_code, exceptionTable := #[], attributes := #[] }
def k6m0 : Method := { name := "takes", desc := "(I)Z", sig := { parameters := [.int], returnType := some .boolean }, accessFlags := 0, code := some k6c0 }
/-- com/example/tuplelift/tuplelift/service/Expression$Function -/
def k6 : Class := { plain "com/example/tuplelift/tuplelift/service/Expression$Function" (some 5) with
  accessFlags := 16433
  interfaces := #[]
  cf := some (fileOf pool6 1 #[.nestHost 378] #[{ accessFlags := 0, nameIndex := 369, descriptorIndex := 370, attributes := #[] }] 16433 245 #[] #[{ accessFlags := 16409, nameIndex := 5, descriptorIndex := 6, attributes := #[] }, { accessFlags := 16409, nameIndex := 9, descriptorIndex := 6, attributes := #[] }, { accessFlags := 16409, nameIndex := 12, descriptorIndex := 6, attributes := #[] }, { accessFlags := 16409, nameIndex := 15, descriptorIndex := 6, attributes := #[] }, { accessFlags := 16409, nameIndex := 18, descriptorIndex := 6, attributes := #[] }, { accessFlags := 16409, nameIndex := 21, descriptorIndex := 6, attributes := #[] }, { accessFlags := 16409, nameIndex := 24, descriptorIndex := 6, attributes := #[] }, { accessFlags := 16409, nameIndex := 27, descriptorIndex := 6, attributes := #[] }, { accessFlags := 16409, nameIndex := 30, descriptorIndex := 6, attributes := #[] }, { accessFlags := 16409, nameIndex := 33, descriptorIndex := 6, attributes := #[] }, { accessFlags := 16409, nameIndex := 36, descriptorIndex := 6, attributes := #[] }, { accessFlags := 16409, nameIndex := 39, descriptorIndex := 6, attributes := #[] }, { accessFlags := 16409, nameIndex := 42, descriptorIndex := 6, attributes := #[] }, { accessFlags := 16409, nameIndex := 45, descriptorIndex := 6, attributes := #[] }, { accessFlags := 16409, nameIndex := 48, descriptorIndex := 6, attributes := #[] }, { accessFlags := 16409, nameIndex := 51, descriptorIndex := 6, attributes := #[] }, { accessFlags := 16409, nameIndex := 54, descriptorIndex := 6, attributes := #[] }, { accessFlags := 16409, nameIndex := 57, descriptorIndex := 6, attributes := #[] }, { accessFlags := 16409, nameIndex := 60, descriptorIndex := 6, attributes := #[] }, { accessFlags := 16409, nameIndex := 63, descriptorIndex := 6, attributes := #[] }, { accessFlags := 16409, nameIndex := 66, descriptorIndex := 6, attributes := #[] }, { accessFlags := 16409, nameIndex := 69, descriptorIndex := 6, attributes := #[] }, { accessFlags := 16409, nameIndex := 72, descriptorIndex := 6, attributes := #[] }, { accessFlags := 16409, nameIndex := 75, descriptorIndex := 6, attributes := #[] }, { accessFlags := 16409, nameIndex := 78, descriptorIndex := 6, attributes := #[] }, { accessFlags := 16409, nameIndex := 81, descriptorIndex := 6, attributes := #[] }, { accessFlags := 16409, nameIndex := 84, descriptorIndex := 6, attributes := #[] }, { accessFlags := 16409, nameIndex := 87, descriptorIndex := 6, attributes := #[] }, { accessFlags := 16409, nameIndex := 90, descriptorIndex := 6, attributes := #[] }, { accessFlags := 16409, nameIndex := 93, descriptorIndex := 6, attributes := #[] }, { accessFlags := 16409, nameIndex := 96, descriptorIndex := 6, attributes := #[] }, { accessFlags := 16409, nameIndex := 99, descriptorIndex := 6, attributes := #[] }, { accessFlags := 16409, nameIndex := 102, descriptorIndex := 6, attributes := #[] }, { accessFlags := 16409, nameIndex := 105, descriptorIndex := 6, attributes := #[] }, { accessFlags := 16409, nameIndex := 108, descriptorIndex := 6, attributes := #[] }, { accessFlags := 16409, nameIndex := 111, descriptorIndex := 6, attributes := #[] }, { accessFlags := 16409, nameIndex := 114, descriptorIndex := 6, attributes := #[] }, { accessFlags := 16409, nameIndex := 117, descriptorIndex := 6, attributes := #[] }, { accessFlags := 16409, nameIndex := 120, descriptorIndex := 6, attributes := #[] }, { accessFlags := 16409, nameIndex := 123, descriptorIndex := 6, attributes := #[] }, { accessFlags := 16409, nameIndex := 126, descriptorIndex := 6, attributes := #[] }, { accessFlags := 16409, nameIndex := 129, descriptorIndex := 6, attributes := #[] }, { accessFlags := 16409, nameIndex := 132, descriptorIndex := 6, attributes := #[] }, { accessFlags := 16409, nameIndex := 135, descriptorIndex := 6, attributes := #[] }, { accessFlags := 16409, nameIndex := 138, descriptorIndex := 6, attributes := #[] }, { accessFlags := 16409, nameIndex := 141, descriptorIndex := 6, attributes := #[] }, { accessFlags := 16409, nameIndex := 144, descriptorIndex := 6, attributes := #[] }, { accessFlags := 16409, nameIndex := 147, descriptorIndex := 6, attributes := #[] }, { accessFlags := 16409, nameIndex := 150, descriptorIndex := 6, attributes := #[] }, { accessFlags := 16409, nameIndex := 153, descriptorIndex := 6, attributes := #[] }, { accessFlags := 16409, nameIndex := 156, descriptorIndex := 6, attributes := #[] }, { accessFlags := 16409, nameIndex := 159, descriptorIndex := 6, attributes := #[] }, { accessFlags := 16409, nameIndex := 162, descriptorIndex := 6, attributes := #[] }, { accessFlags := 16409, nameIndex := 165, descriptorIndex := 6, attributes := #[] }, { accessFlags := 16409, nameIndex := 168, descriptorIndex := 6, attributes := #[] }, { accessFlags := 16409, nameIndex := 171, descriptorIndex := 6, attributes := #[] }, { accessFlags := 16409, nameIndex := 174, descriptorIndex := 6, attributes := #[] }, { accessFlags := 16409, nameIndex := 177, descriptorIndex := 6, attributes := #[] }, { accessFlags := 16409, nameIndex := 180, descriptorIndex := 6, attributes := #[] }, { accessFlags := 16409, nameIndex := 183, descriptorIndex := 6, attributes := #[] }, { accessFlags := 16409, nameIndex := 186, descriptorIndex := 6, attributes := #[] }, { accessFlags := 16409, nameIndex := 189, descriptorIndex := 6, attributes := #[] }, { accessFlags := 16409, nameIndex := 192, descriptorIndex := 6, attributes := #[] }, { accessFlags := 16409, nameIndex := 195, descriptorIndex := 6, attributes := #[] }, { accessFlags := 16409, nameIndex := 198, descriptorIndex := 6, attributes := #[] }, { accessFlags := 16409, nameIndex := 201, descriptorIndex := 6, attributes := #[] }, { accessFlags := 16409, nameIndex := 204, descriptorIndex := 6, attributes := #[] }, { accessFlags := 16409, nameIndex := 207, descriptorIndex := 6, attributes := #[] }, { accessFlags := 16409, nameIndex := 210, descriptorIndex := 6, attributes := #[] }, { accessFlags := 16409, nameIndex := 213, descriptorIndex := 6, attributes := #[] }, { accessFlags := 16409, nameIndex := 216, descriptorIndex := 6, attributes := #[] }, { accessFlags := 16409, nameIndex := 219, descriptorIndex := 6, attributes := #[] }, { accessFlags := 16409, nameIndex := 222, descriptorIndex := 6, attributes := #[] }, { accessFlags := 16409, nameIndex := 225, descriptorIndex := 6, attributes := #[] }, { accessFlags := 16409, nameIndex := 228, descriptorIndex := 6, attributes := #[] }, { accessFlags := 16409, nameIndex := 231, descriptorIndex := 6, attributes := #[] }, { accessFlags := 16409, nameIndex := 234, descriptorIndex := 6, attributes := #[] }, { accessFlags := 18, nameIndex := 256, descriptorIndex := 257, attributes := #[] }, { accessFlags := 18, nameIndex := 260, descriptorIndex := 261, attributes := #[] }, { accessFlags := 18, nameIndex := 264, descriptorIndex := 261, attributes := #[] }, { accessFlags := 4122, nameIndex := 237, descriptorIndex := 238, attributes := #[] }])
  fields := #[{ name := "OR", type := (.object "com/example/tuplelift/tuplelift/service/Expression$Function"), accessFlags := 16409, slot := 0, constantValue := 0 }, { name := "AND", type := (.object "com/example/tuplelift/tuplelift/service/Expression$Function"), accessFlags := 16409, slot := 1, constantValue := 0 }, { name := "EQUAL", type := (.object "com/example/tuplelift/tuplelift/service/Expression$Function"), accessFlags := 16409, slot := 2, constantValue := 0 }, { name := "NOT_EQUAL", type := (.object "com/example/tuplelift/tuplelift/service/Expression$Function"), accessFlags := 16409, slot := 3, constantValue := 0 }, { name := "LESS", type := (.object "com/example/tuplelift/tuplelift/service/Expression$Function"), accessFlags := 16409, slot := 4, constantValue := 0 }, { name := "GREATER", type := (.object "com/example/tuplelift/tuplelift/service/Expression$Function"), accessFlags := 16409, slot := 5, constantValue := 0 }, { name := "LESS_OR_EQUAL", type := (.object "com/example/tuplelift/tuplelift/service/Expression$Function"), accessFlags := 16409, slot := 6, constantValue := 0 }, { name := "GREATER_OR_EQUAL", type := (.object "com/example/tuplelift/tuplelift/service/Expression$Function"), accessFlags := 16409, slot := 7, constantValue := 0 }, { name := "IN", type := (.object "com/example/tuplelift/tuplelift/service/Expression$Function"), accessFlags := 16409, slot := 8, constantValue := 0 }, { name := "NOT_IN", type := (.object "com/example/tuplelift/tuplelift/service/Expression$Function"), accessFlags := 16409, slot := 9, constantValue := 0 }, { name := "ADD", type := (.object "com/example/tuplelift/tuplelift/service/Expression$Function"), accessFlags := 16409, slot := 10, constantValue := 0 }, { name := "SUBTRACT", type := (.object "com/example/tuplelift/tuplelift/service/Expression$Function"), accessFlags := 16409, slot := 11, constantValue := 0 }, { name := "MULTIPLY", type := (.object "com/example/tuplelift/tuplelift/service/Expression$Function"), accessFlags := 16409, slot := 12, constantValue := 0 }, { name := "DIVIDE", type := (.object "com/example/tuplelift/tuplelift/service/Expression$Function"), accessFlags := 16409, slot := 13, constantValue := 0 }, { name := "NOT", type := (.object "com/example/tuplelift/tuplelift/service/Expression$Function"), accessFlags := 16409, slot := 14, constantValue := 0 }, { name := "UNARY_PLUS", type := (.object "com/example/tuplelift/tuplelift/service/Expression$Function"), accessFlags := 16409, slot := 15, constantValue := 0 }, { name := "UNARY_MINUS", type := (.object "com/example/tuplelift/tuplelift/service/Expression$Function"), accessFlags := 16409, slot := 16, constantValue := 0 }, { name := "STR", type := (.object "com/example/tuplelift/tuplelift/service/Expression$Function"), accessFlags := 16409, slot := 17, constantValue := 0 }, { name := "LANG", type := (.object "com/example/tuplelift/tuplelift/service/Expression$Function"), accessFlags := 16409, slot := 18, constantValue := 0 }, { name := "LANGMATCHES", type := (.object "com/example/tuplelift/tuplelift/service/Expression$Function"), accessFlags := 16409, slot := 19, constantValue := 0 }, { name := "DATATYPE", type := (.object "com/example/tuplelift/tuplelift/service/Expression$Function"), accessFlags := 16409, slot := 20, constantValue := 0 }, { name := "BOUND", type := (.object "com/example/tuplelift/tuplelift/service/Expression$Function"), accessFlags := 16409, slot := 21, constantValue := 0 }, { name := "IRI", type := (.object "com/example/tuplelift/tuplelift/service/Expression$Function"), accessFlags := 16409, slot := 22, constantValue := 0 }, { name := "URI", type := (.object "com/example/tuplelift/tuplelift/service/Expression$Function"), accessFlags := 16409, slot := 23, constantValue := 0 }, { name := "BNODE", type := (.object "com/example/tuplelift/tuplelift/service/Expression$Function"), accessFlags := 16409, slot := 24, constantValue := 0 }, { name := "RAND", type := (.object "com/example/tuplelift/tuplelift/service/Expression$Function"), accessFlags := 16409, slot := 25, constantValue := 0 }, { name := "ABS", type := (.object "com/example/tuplelift/tuplelift/service/Expression$Function"), accessFlags := 16409, slot := 26, constantValue := 0 }, { name := "CEIL", type := (.object "com/example/tuplelift/tuplelift/service/Expression$Function"), accessFlags := 16409, slot := 27, constantValue := 0 }, { name := "FLOOR", type := (.object "com/example/tuplelift/tuplelift/service/Expression$Function"), accessFlags := 16409, slot := 28, constantValue := 0 }, { name := "ROUND", type := (.object "com/example/tuplelift/tuplelift/service/Expression$Function"), accessFlags := 16409, slot := 29, constantValue := 0 }, { name := "CONCAT", type := (.object "com/example/tuplelift/tuplelift/service/Expression$Function"), accessFlags := 16409, slot := 30, constantValue := 0 }, { name := "SUBSTR", type := (.object "com/example/tuplelift/tuplelift/service/Expression$Function"), accessFlags := 16409, slot := 31, constantValue := 0 }, { name := "STRLEN", type := (.object "com/example/tuplelift/tuplelift/service/Expression$Function"), accessFlags := 16409, slot := 32, constantValue := 0 }, { name := "REPLACE", type := (.object "com/example/tuplelift/tuplelift/service/Expression$Function"), accessFlags := 16409, slot := 33, constantValue := 0 }, { name := "UCASE", type := (.object "com/example/tuplelift/tuplelift/service/Expression$Function"), accessFlags := 16409, slot := 34, constantValue := 0 }, { name := "LCASE", type := (.object "com/example/tuplelift/tuplelift/service/Expression$Function"), accessFlags := 16409, slot := 35, constantValue := 0 }, { name := "ENCODE_FOR_URI", type := (.object "com/example/tuplelift/tuplelift/service/Expression$Function"), accessFlags := 16409, slot := 36, constantValue := 0 }, { name := "CONTAINS", type := (.object "com/example/tuplelift/tuplelift/service/Expression$Function"), accessFlags := 16409, slot := 37, constantValue := 0 }, { name := "STRSTARTS", type := (.object "com/example/tuplelift/tuplelift/service/Expression$Function"), accessFlags := 16409, slot := 38, constantValue := 0 }, { name := "STRENDS", type := (.object "com/example/tuplelift/tuplelift/service/Expression$Function"), accessFlags := 16409, slot := 39, constantValue := 0 }, { name := "STRBEFORE", type := (.object "com/example/tuplelift/tuplelift/service/Expression$Function"), accessFlags := 16409, slot := 40, constantValue := 0 }, { name := "STRAFTER", type := (.object "com/example/tuplelift/tuplelift/service/Expression$Function"), accessFlags := 16409, slot := 41, constantValue := 0 }, { name := "YEAR", type := (.object "com/example/tuplelift/tuplelift/service/Expression$Function"), accessFlags := 16409, slot := 42, constantValue := 0 }, { name := "MONTH", type := (.object "com/example/tuplelift/tuplelift/service/Expression$Function"), accessFlags := 16409, slot := 43, constantValue := 0 }, { name := "DAY", type := (.object "com/example/tuplelift/tuplelift/service/Expression$Function"), accessFlags := 16409, slot := 44, constantValue := 0 }, { name := "HOURS", type := (.object "com/example/tuplelift/tuplelift/service/Expression$Function"), accessFlags := 16409, slot := 45, constantValue := 0 }, { name := "MINUTES", type := (.object "com/example/tuplelift/tuplelift/service/Expression$Function"), accessFlags := 16409, slot := 46, constantValue := 0 }, { name := "SECONDS", type := (.object "com/example/tuplelift/tuplelift/service/Expression$Function"), accessFlags := 16409, slot := 47, constantValue := 0 }, { name := "TIMEZONE", type := (.object "com/example/tuplelift/tuplelift/service/Expression$Function"), accessFlags := 16409, slot := 48, constantValue := 0 }, { name := "TZ", type := (.object "com/example/tuplelift/tuplelift/service/Expression$Function"), accessFlags := 16409, slot := 49, constantValue := 0 }, { name := "NOW", type := (.object "com/example/tuplelift/tuplelift/service/Expression$Function"), accessFlags := 16409, slot := 50, constantValue := 0 }, { name := "UUID", type := (.object "com/example/tuplelift/tuplelift/service/Expression$Function"), accessFlags := 16409, slot := 51, constantValue := 0 }, { name := "STRUUID", type := (.object "com/example/tuplelift/tuplelift/service/Expression$Function"), accessFlags := 16409, slot := 52, constantValue := 0 }, { name := "MD5", type := (.object "com/example/tuplelift/tuplelift/service/Expression$Function"), accessFlags := 16409, slot := 53, constantValue := 0 }, { name := "SHA1", type := (.object "com/example/tuplelift/tuplelift/service/Expression$Function"), accessFlags := 16409, slot := 54, constantValue := 0 }, { name := "SHA256", type := (.object "com/example/tuplelift/tuplelift/service/Expression$Function"), accessFlags := 16409, slot := 55, constantValue := 0 }, { name := "SHA384", type := (.object "com/example/tuplelift/tuplelift/service/Expression$Function"), accessFlags := 16409, slot := 56, constantValue := 0 }, { name := "SHA512", type := (.object "com/example/tuplelift/tuplelift/service/Expression$Function"), accessFlags := 16409, slot := 57, constantValue := 0 }, { name := "COALESCE", type := (.object "com/example/tuplelift/tuplelift/service/Expression$Function"), accessFlags := 16409, slot := 58, constantValue := 0 }, { name := "IF", type := (.object "com/example/tuplelift/tuplelift/service/Expression$Function"), accessFlags := 16409, slot := 59, constantValue := 0 }, { name := "STRLANG", type := (.object "com/example/tuplelift/tuplelift/service/Expression$Function"), accessFlags := 16409, slot := 60, constantValue := 0 }, { name := "STRDT", type := (.object "com/example/tuplelift/tuplelift/service/Expression$Function"), accessFlags := 16409, slot := 61, constantValue := 0 }, { name := "SAME_TERM", type := (.object "com/example/tuplelift/tuplelift/service/Expression$Function"), accessFlags := 16409, slot := 62, constantValue := 0 }, { name := "IS_IRI", type := (.object "com/example/tuplelift/tuplelift/service/Expression$Function"), accessFlags := 16409, slot := 63, constantValue := 0 }, { name := "IS_URI", type := (.object "com/example/tuplelift/tuplelift/service/Expression$Function"), accessFlags := 16409, slot := 64, constantValue := 0 }, { name := "IS_BLANK", type := (.object "com/example/tuplelift/tuplelift/service/Expression$Function"), accessFlags := 16409, slot := 65, constantValue := 0 }, { name := "IS_LITERAL", type := (.object "com/example/tuplelift/tuplelift/service/Expression$Function"), accessFlags := 16409, slot := 66, constantValue := 0 }, { name := "IS_NUMERIC", type := (.object "com/example/tuplelift/tuplelift/service/Expression$Function"), accessFlags := 16409, slot := 67, constantValue := 0 }, { name := "REGEX", type := (.object "com/example/tuplelift/tuplelift/service/Expression$Function"), accessFlags := 16409, slot := 68, constantValue := 0 }, { name := "CAST_STRING", type := (.object "com/example/tuplelift/tuplelift/service/Expression$Function"), accessFlags := 16409, slot := 69, constantValue := 0 }, { name := "CAST_BOOLEAN", type := (.object "com/example/tuplelift/tuplelift/service/Expression$Function"), accessFlags := 16409, slot := 70, constantValue := 0 }, { name := "CAST_INTEGER", type := (.object "com/example/tuplelift/tuplelift/service/Expression$Function"), accessFlags := 16409, slot := 71, constantValue := 0 }, { name := "CAST_DECIMAL", type := (.object "com/example/tuplelift/tuplelift/service/Expression$Function"), accessFlags := 16409, slot := 72, constantValue := 0 }, { name := "CAST_FLOAT", type := (.object "com/example/tuplelift/tuplelift/service/Expression$Function"), accessFlags := 16409, slot := 73, constantValue := 0 }, { name := "CAST_DOUBLE", type := (.object "com/example/tuplelift/tuplelift/service/Expression$Function"), accessFlags := 16409, slot := 74, constantValue := 0 }, { name := "CAST_DATE_TIME", type := (.object "com/example/tuplelift/tuplelift/service/Expression$Function"), accessFlags := 16409, slot := 75, constantValue := 0 }, { name := "UNDEFINED", type := (.object "com/example/tuplelift/tuplelift/service/Expression$Function"), accessFlags := 16409, slot := 76, constantValue := 0 }, { name := "keyword", type := (.object "java/lang/String"), accessFlags := 18, slot := 3, constantValue := 0 }, { name := "fewest", type := .int, accessFlags := 18, slot := 4, constantValue := 0 }, { name := "most", type := .int, accessFlags := 18, slot := 5, constantValue := 0 }, { name := "$VALUES", type := (.array (.object "com/example/tuplelift/tuplelift/service/Expression$Function")), accessFlags := 4122, slot := 77, constantValue := 0 }]
  methods := #[k6m0]
  instanceTypes := #[(.object "java/lang/String"), .int, .int, (.object "java/lang/String"), .int, .int]
  staticTypes := #[(.object "com/example/tuplelift/tuplelift/service/Expression$Function"), (.object "com/example/tuplelift/tuplelift/service/Expression$Function"), (.object "com/example/tuplelift/tuplelift/service/Expression$Function"), (.object "com/example/tuplelift/tuplelift/service/Expression$Function"), (.object "com/example/tuplelift/tuplelift/service/Expression$Function"), (.object "com/example/tuplelift/tuplelift/service/Expression$Function"), (.object "com/example/tuplelift/tuplelift/service/Expression$Function"), (.object "com/example/tuplelift/tuplelift/service/Expression$Function"), (.object "com/example/tuplelift/tuplelift/service/Expression$Function"), (.object "com/example/tuplelift/tuplelift/service/Expression$Function"), (.object "com/example/tuplelift/tuplelift/service/Expression$Function"), (.object "com/example/tuplelift/tuplelift/service/Expression$Function"), (.object "com/example/tuplelift/tuplelift/service/Expression$Function"), (.object "com/example/tuplelift/tuplelift/service/Expression$Function"), (.object "com/example/tuplelift/tuplelift/service/Expression$Function"), (.object "com/example/tuplelift/tuplelift/service/Expression$Function"), (.object "com/example/tuplelift/tuplelift/service/Expression$Function"), (.object "com/example/tuplelift/tuplelift/service/Expression$Function"), (.object "com/example/tuplelift/tuplelift/service/Expression$Function"), (.object "com/example/tuplelift/tuplelift/service/Expression$Function"), (.object "com/example/tuplelift/tuplelift/service/Expression$Function"), (.object "com/example/tuplelift/tuplelift/service/Expression$Function"), (.object "com/example/tuplelift/tuplelift/service/Expression$Function"), (.object "com/example/tuplelift/tuplelift/service/Expression$Function"), (.object "com/example/tuplelift/tuplelift/service/Expression$Function"), (.object "com/example/tuplelift/tuplelift/service/Expression$Function"), (.object "com/example/tuplelift/tuplelift/service/Expression$Function"), (.object "com/example/tuplelift/tuplelift/service/Expression$Function"), (.object "com/example/tuplelift/tuplelift/service/Expression$Function"), (.object "com/example/tuplelift/tuplelift/service/Expression$Function"), (.object "com/example/tuplelift/tuplelift/service/Expression$Function"), (.object "com/example/tuplelift/tuplelift/service/Expression$Function"), (.object "com/example/tuplelift/tuplelift/service/Expression$Function"), (.object "com/example/tuplelift/tuplelift/service/Expression$Function"), (.object "com/example/tuplelift/tuplelift/service/Expression$Function"), (.object "com/example/tuplelift/tuplelift/service/Expression$Function"), (.object "com/example/tuplelift/tuplelift/service/Expression$Function"), (.object "com/example/tuplelift/tuplelift/service/Expression$Function"), (.object "com/example/tuplelift/tuplelift/service/Expression$Function"), (.object "com/example/tuplelift/tuplelift/service/Expression$Function"), (.object "com/example/tuplelift/tuplelift/service/Expression$Function"), (.object "com/example/tuplelift/tuplelift/service/Expression$Function"), (.object "com/example/tuplelift/tuplelift/service/Expression$Function"), (.object "com/example/tuplelift/tuplelift/service/Expression$Function"), (.object "com/example/tuplelift/tuplelift/service/Expression$Function"), (.object "com/example/tuplelift/tuplelift/service/Expression$Function"), (.object "com/example/tuplelift/tuplelift/service/Expression$Function"), (.object "com/example/tuplelift/tuplelift/service/Expression$Function"), (.object "com/example/tuplelift/tuplelift/service/Expression$Function"), (.object "com/example/tuplelift/tuplelift/service/Expression$Function"), (.object "com/example/tuplelift/tuplelift/service/Expression$Function"), (.object "com/example/tuplelift/tuplelift/service/Expression$Function"), (.object "com/example/tuplelift/tuplelift/service/Expression$Function"), (.object "com/example/tuplelift/tuplelift/service/Expression$Function"), (.object "com/example/tuplelift/tuplelift/service/Expression$Function"), (.object "com/example/tuplelift/tuplelift/service/Expression$Function"), (.object "com/example/tuplelift/tuplelift/service/Expression$Function"), (.object "com/example/tuplelift/tuplelift/service/Expression$Function"), (.object "com/example/tuplelift/tuplelift/service/Expression$Function"), (.object "com/example/tuplelift/tuplelift/service/Expression$Function"), (.object "com/example/tuplelift/tuplelift/service/Expression$Function"), (.object "com/example/tuplelift/tuplelift/service/Expression$Function"), (.object "com/example/tuplelift/tuplelift/service/Expression$Function"), (.object "com/example/tuplelift/tuplelift/service/Expression$Function"), (.object "com/example/tuplelift/tuplelift/service/Expression$Function"), (.object "com/example/tuplelift/tuplelift/service/Expression$Function"), (.object "com/example/tuplelift/tuplelift/service/Expression$Function"), (.object "com/example/tuplelift/tuplelift/service/Expression$Function"), (.object "com/example/tuplelift/tuplelift/service/Expression$Function"), (.object "com/example/tuplelift/tuplelift/service/Expression$Function"), (.object "com/example/tuplelift/tuplelift/service/Expression$Function"), (.object "com/example/tuplelift/tuplelift/service/Expression$Function"), (.object "com/example/tuplelift/tuplelift/service/Expression$Function"), (.object "com/example/tuplelift/tuplelift/service/Expression$Function"), (.object "com/example/tuplelift/tuplelift/service/Expression$Function"), (.object "com/example/tuplelift/tuplelift/service/Expression$Function"), (.object "com/example/tuplelift/tuplelift/service/Expression$Function"), (.array (.object "com/example/tuplelift/tuplelift/service/Expression$Function"))]
  resolved := Array.replicate 382 none
  statics := some 0 }

def pool7 : Array CpInfo := pool [(1, u "java/lang/Cloneable"), (0, .class_ 1), (0, u "java/lang/Object"), (0, .class_ 3)] 3

/-- java/lang/Cloneable -/
def k7 : Class := { plain "java/lang/Cloneable" (some 0) with
  accessFlags := 1537
  interfaces := #[]
  cf := some (fileOf pool7 2 #[] #[] 1537 4 #[] #[])
  fields := #[]
  methods := #[]
  instanceTypes := #[]
  staticTypes := #[]
  resolved := Array.replicate 8 none
  statics := none }

/-- the primitive byte -/
def k8 : Class := { plain "byte" none with kind := .primitive 'B', accessFlags := 0x411 }
/-- [B -/
def k9 : Class := { plain "[B" (some 0) with kind := .array 8 .byte, interfaces := #[7, 4], accessFlags := 1041 }

/-- the primitive int -/
def k10 : Class := { plain "int" none with kind := .primitive 'I', accessFlags := 0x411 }
/-- [I -/
def k11 : Class := { plain "[I" (some 0) with kind := .array 10 .int, interfaces := #[7, 4], accessFlags := 1041 }

def heap : Heap := #[{ cls := 6, slots := #[.ref 1, .ref 2, .ref 3, .null, .null, .null, .null, .null, .ref 6, .ref 7, .ref 4, .null, .null, .null, .ref 8, .null, .null, .ref 9, .null, .ref 5, .null, .null, .null, .null, .ref 10, .ref 11, .null, .null, .null, .null, .ref 12, .ref 15, .null, .ref 17, .null, .null, .null, .null, .null, .null, .null, .null, .null, .null, .null, .null, .null, .null, .null, .null, .null, .null, .null, .null, .null, .null, .null, .null, .ref 13, .ref 18, .null, .null, .null, .null, .null, .null, .null, .null, .ref 16, .null, .null, .null, .null, .null, .null, .null, .ref 14, .null], vm := .statics 6 },
  { cls := 6, slots := #[.null, .int 0, .int 0, .null, .int 2, .int (-1)], vm := .none },
  { cls := 6, slots := #[.null, .int 0, .int 0, .null, .int 2, .int (-1)], vm := .none },
  { cls := 6, slots := #[.null, .int 0, .int 0, .null, .int 2, .int 2], vm := .none },
  { cls := 6, slots := #[.null, .int 0, .int 0, .null, .int 2, .int 2], vm := .none },
  { cls := 6, slots := #[.null, .int 0, .int 0, .null, .int 2, .int 2], vm := .none },
  { cls := 6, slots := #[.null, .int 0, .int 0, .null, .int 1, .int (-1)], vm := .none },
  { cls := 6, slots := #[.null, .int 0, .int 0, .null, .int 1, .int (-1)], vm := .none },
  { cls := 6, slots := #[.null, .int 0, .int 0, .null, .int 1, .int 1], vm := .none },
  { cls := 6, slots := #[.null, .int 0, .int 0, .null, .int 1, .int 1], vm := .none },
  { cls := 6, slots := #[.null, .int 0, .int 0, .null, .int 0, .int 1], vm := .none },
  { cls := 6, slots := #[.null, .int 0, .int 0, .null, .int 0, .int 0], vm := .none },
  { cls := 6, slots := #[.null, .int 0, .int 0, .null, .int 0, .int (-1)], vm := .none },
  { cls := 6, slots := #[.null, .int 0, .int 0, .null, .int 0, .int (-1)], vm := .none },
  { cls := 6, slots := #[.null, .int 0, .int 0, .null, .int 0, .int (-1)], vm := .none },
  { cls := 6, slots := #[.null, .int 0, .int 0, .null, .int 2, .int 3], vm := .none },
  { cls := 6, slots := #[.null, .int 0, .int 0, .null, .int 2, .int 3], vm := .none },
  { cls := 6, slots := #[.null, .int 0, .int 0, .null, .int 3, .int 4], vm := .none },
  { cls := 6, slots := #[.null, .int 0, .int 0, .null, .int 3, .int 3], vm := .none }]
def classes : Array Class := #[k0, k1, k2, k3, k4, k5, k6, k7, k8, k9, k10, k11]
def interned : List (Array UInt16 × Addr) := []
def slotsUsed : Nat := 186
def theMethod : MethodId := ⟨1, 3⟩
def args0 : Array Value := #[.int 5, .int 3, .int 2]
def aboutOver (below : List Frame) : State where
  vm := { classes := classes, interned := interned.toArray }
  heap := heap
  slotsUsed := slotsUsed
  threads := #[{ frames := .invoking theMethod args0 :: below }]
def below0 : List Frame := [.native { method := ⟨0, 0⟩, args := #[] }]
def about1 : State := aboutOver below0
def p0 : Program := .bare "" "" ""
def e0 : Env := launch0.env 0 0 0
theorem w_frames : about1.frames = Frame.invoking theMethod args0 :: below0 := rfl
set_option maxRecDepth 65536 in
theorem w_args : argsFit about1.vm theMethod args0 = true := by decide +kernel
set_option maxRecDepth 65536 in
theorem w_heap : heapFits about1 = true := by decide +kernel
set_option maxRecDepth 65536 in
theorem w_runnable : about1.curStatus? = some .runnable := by decide +kernel
set_option maxRecDepth 65536 in
theorem w_alone : about1.alone = true := by decide +kernel
set_option maxRecDepth 65536 in
theorem w_named : about1.methodNamed? x = some theMethod := by decide +kernel
set_option maxRecDepth 65536 in
theorem w_hears : about1.hears theMethod below0 = true := by decide +kernel
set_option maxRecDepth 65536 in
theorem w_ripe : about1.ripe theMethod args0 below0 = true := by decide +kernel
theorem w_running : about1.status = .running := rfl
set_option maxRecDepth 65536 in
theorem w_room : about1.hasRoom e0.platform room_1 = true :=
  launch0.hasRoom_least _ room_1 (by decide +kernel) (by decide +kernel) (by decide +kernel) (by decide +kernel) (by decide +kernel) (by decide +kernel)
theorem allAtoms_all (ts : List Jvm.Cond) (a : Array Jvm.Value) (st : Jvm.State) : (allAtoms ts).before a st = ts.all (fun c => c.before a st) := by
  induction ts with
  | nil => rfl
  | cons c t ih =>
    show (Jvm.Cond.and c (allAtoms t)).before a st = _
    rw [Jvm.Cond.before_and, ih, List.all_cons]
def words1 : List Jvm.Cond := Jvm.Cond.code x code maxLocals ret :: tables_1
/-- a 'code' word, met by the world's own term for the bytes: nothing is compared byte by byte -/
theorem code_word {y : MethodName} {bytes : ByteArray} {mx : Nat} {rt : Option FieldType} {a : Array Value} {s : State} {m : MethodId} {meth : Method} {c : Code} (h1 : s.methodNamed? y = some m) (h2 : s.vm.method? m = some meth) (h3 : meth.code = some c) (h4 : c.code = bytes)
    (h5 : (c.maxLocals == mx && c.exceptionTable.isEmpty && decide (c.maxStack ≤ mostOperands) && decide (meth.sig.returnType = rt) && !meth.locks && decide (parseMethodDescriptor y.desc = some meth.sig)) = true) : (Jvm.Cond.code y bytes mx rt).before a s = true := by
  simp only [Bool.and_eq_true, beq_iff_eq, Bool.not_eq_true', decide_eq_true_eq] at h5
  obtain ⟨⟨⟨⟨⟨g1, g2⟩, g3⟩, g4⟩, g5⟩, g6⟩ := h5
  simp [Cond.before, Cond.holds, Cond.value, h1, h2, h3, h4, g1, g2, g3, g4, g5, g6]
def isCode : Jvm.Cond → Bool
  | .code _ _ _ _ => true
  | _ => false
theorem all_split {L : List Jvm.Cond} {P : Jvm.Cond → Bool} (h1 : L.all (fun c => isCode c || P c) = true) (h2 : ∀ c ∈ L.filter isCode, P c = true) : L.all P = true := by
  refine List.all_eq_true.mpr fun c hc => ?_
  have h := List.all_eq_true.mp h1 c hc
  rcases Bool.eq_false_or_eq_true (isCode c) with hi | hi
  · exact h2 c (List.mem_filter.mpr ⟨hc, hi⟩)
  · simpa [hi] using h
set_option maxRecDepth 65536 in
theorem w_c0 : (Jvm.Cond.code x code maxLocals ret).before args0 about1 = true := code_word (m := ⟨1, 3⟩) (meth := k1m3) (c := k1c3) (by decide +kernel) rfl rfl rfl (by decide +kernel)
set_option maxRecDepth 65536 in
theorem w_c1 : (Jvm.Cond.code ({ cls := "com/example/tuplelift/tuplelift/service/FunctionTakesPinLaw", name := "fn", desc := "(I)Lcom/example/tuplelift/tuplelift/service/Expression$Function;" } : Jvm.MethodName) method_2_code (1 : Nat) (Option.some (Jvm.ClassFile.FieldType.object "com/example/tuplelift/tuplelift/service/Expression$Function"))).before args0 about1 = true := code_word (m := ⟨1, 1⟩) (meth := k1m1) (c := k1c1) (by decide +kernel) rfl rfl rfl (by decide +kernel)
set_option maxRecDepth 65536 in
theorem w_c2 : (Jvm.Cond.code ({ cls := "com/example/tuplelift/tuplelift/service/Expression$Function", name := "takes", desc := "(I)Z" } : Jvm.MethodName) prog_66_method_5_code (2 : Nat) (Option.some Jvm.ClassFile.FieldType.boolean)).before args0 about1 = true := code_word (m := ⟨6, 0⟩) (meth := k6m0) (c := k6c0) (by decide +kernel) rfl rfl rfl (by decide +kernel)
set_option maxRecDepth 65536 in
theorem w_c3 : (Jvm.Cond.code ({ cls := "com/example/tuplelift/tuplelift/service/FunctionTakesPinLaw", name := "expected", desc := "(II)Z" } : Jvm.MethodName) method_3_code (2 : Nat) (Option.some Jvm.ClassFile.FieldType.boolean)).before args0 about1 = true := code_word (m := ⟨1, 2⟩) (meth := k1m2) (c := k1c2) (by decide +kernel) rfl rfl rfl (by decide +kernel)
def codes1 : List Jvm.Cond := [Jvm.Cond.code x code maxLocals ret, Jvm.Cond.code ({ cls := "com/example/tuplelift/tuplelift/service/FunctionTakesPinLaw", name := "fn", desc := "(I)Lcom/example/tuplelift/tuplelift/service/Expression$Function;" } : Jvm.MethodName) method_2_code (1 : Nat) (Option.some (Jvm.ClassFile.FieldType.object "com/example/tuplelift/tuplelift/service/Expression$Function")), Jvm.Cond.code ({ cls := "com/example/tuplelift/tuplelift/service/Expression$Function", name := "takes", desc := "(I)Z" } : Jvm.MethodName) prog_66_method_5_code (2 : Nat) (Option.some Jvm.ClassFile.FieldType.boolean), Jvm.Cond.code ({ cls := "com/example/tuplelift/tuplelift/service/FunctionTakesPinLaw", name := "expected", desc := "(II)Z" } : Jvm.MethodName) method_3_code (2 : Nat) (Option.some Jvm.ClassFile.FieldType.boolean)]
set_option maxRecDepth 65536 in
theorem codes_eq : words1.filter isCode = codes1 := rfl
theorem w_codes : ∀ c ∈ words1.filter isCode, c.before args0 about1 = true := by
  rw [codes_eq]
  intro c hc
  simp only [codes1, List.mem_cons, List.not_mem_nil, or_false] at hc
  rcases hc with rfl | rfl | rfl | rfl
  · exact w_c0
  · exact w_c1
  · exact w_c2
  · exact w_c3
set_option maxRecDepth 65536 in
theorem w_t1 : (words1.take 24).all (fun c => isCode c || c.before args0 about1) = true := by decide +kernel
set_option maxRecDepth 65536 in
theorem w_t2 : ((words1.drop 24).take 24).all (fun c => isCode c || c.before args0 about1) = true := by decide +kernel
set_option maxRecDepth 65536 in
theorem w_t3 : ((words1.drop 24).drop 24).all (fun c => isCode c || c.before args0 about1) = true := by decide +kernel
theorem w_tables : (allAtoms (Jvm.Cond.code x code maxLocals ret :: tables_1)).before args0 about1 = true := by
  rw [allAtoms_all]
  show words1.all (fun c => c.before args0 about1) = true
  refine all_split ?_ w_codes
  rw [← List.take_append_drop 24 words1, List.all_append, w_t1, ← List.take_append_drop 24 (words1.drop 24), List.all_append, w_t2, w_t3]
  rfl
set_option maxRecDepth 65536 in
theorem w_case : (Jvm.Cond.and given_1 narrow_1).before args0 about1 = true := by decide +kernel
theorem w_applies : (headSpec (Jvm.Cond.code x code maxLocals ret :: tables_1) room_1).applies x e0.platform about1 = true :=
  (Spec.applies_iff w_frames).mpr ⟨w_running, w_runnable, w_alone, w_named, w_hears, w_ripe, w_room, w_tables⟩
theorem atStart : AtStart classFile x code maxLocals ret World_1 tables_1 room_1 Calls_1 rest_1 Pre_1 launch0 p0 e0 about1 theMethod args0 below0 :=
  ⟨lists_1, trivial, launch0.admits_env _ _ _, launch0.least_env, fairChoices_fair.cas, fairChoices_fair.clock, w_frames, w_args, w_heap, w_applies, trivial, trivial, w_case⟩
end start1
theorem witness_1 : WitnessClaimed_1 := ⟨start1.p0, start1.e0, start1.about1, start1.theMethod, start1.args0, start1.below0, start1.atStart⟩
end Jvm.Pilot.@@N@@
