import JvmDerived
import JvmDerived.Pilot.@@N@@Statement
import JvmDerived.Pilot.@@N@@Code
set_option linter.unusedVariables false
set_option linter.unusedSimpArgs false
@@BLOCK:NumsL.lean.txt@@
namespace Jvm.Pilot.@@N@@
open Jvm Jvm.ClassFile Sem Op Lib Jvm.Free Jvm.Stand Jvm.LawKit Jvm.RoadKit Bundle Jvm.Pilot.@@N@@.Jvm.D

section Own
variable {p : Program} {l : Launch} {e : Env} {R : Room} {s : State} {m : MethodId} {args : Array Value} {below : List Frame} {meth : Method} {c : Code} {T : State} {locs : List Loc} {cells slots : Nat} {Z : State} {a0 : Array Value} {h : Heap} {Q : Option Value → Heap → List Loc → Prop} {kc kn : Nat}
/-- from U the body comes to its end, with Q -/
def own_Fin (p : Program) (e : Env) (below : List Frame) (s : State) (Q : Option Value → Heap → List Loc → Prop) (kc kn : Nat) (U : State) : Prop :=
  ∃ t o, Steps p.tables e below U t ∧ t.status = .running ∧ Ended t below o ∧ ∃ v L, o = .returned v ∧ Q v t.heap L ∧ FrameEnd s o t L kc kn
theorem own_go {U U' : State} (g : ∀ t, Steps p.tables e below U' t → Steps p.tables e below U t) (H : own_Fin p e below s Q kc kn U') : own_Fin p e below s Q kc kn U := by
  obtain ⟨t, o, h1, h2⟩ := H
  exact ⟨t, o, g t h1, h2⟩
/-- what a body that writes nothing and returns w leaves -/
def own_P (w : Option Value) (h0 : Heap) (n0 : Nat) (v : Option Value) (h : Heap) (L : List Loc) : Prop := v = w ∧ Fr n0 L ∧ h = h0
/-- a body's contract: called with as' on the heap h, it ends with Q -/
def own_Met (l : Launch) (y : MethodName) (bytes : ByteArray) (maxL : Nat) (ret : Option FieldType) (rm : Room) (Z : State) (ws : List Jvm.Cond) (as' : Array Value) (h : Heap) (Q : Option Value → Heap → List Loc → Prop) : Prop :=
  MetFree l y (head1 (Jvm.Cond.code y bytes maxL ret :: ws) rm) (fun a U => a = as' ∧ Z.Warmed39 U.vm ∧ U.heap = h) (fun _ _ _ _ _ => True) (fun _ U o U' => ∃ v L, o = .returned v ∧ Q v U'.heap L ∧ FrameEnd U o U' L rm.cells rm.slots)
theorem own_enter {y : MethodName} {bytes : ByteArray} {maxL : Nat} {ret : Option FieldType} {rm : Room} {ws : List Jvm.Cond} {as' : Array Value} (hp : plainFor y = true)
    (H : ∀ (p : Program) (e : Env) (s : State) (m : MethodId) (below : List Frame) (meth : Method) (c : Code) (s₁ : State), p.tables.exec = Jvm.exec → c.code = bytes → c.maxLocals = maxL → s.vm.findClass y.cls = some m.cls → meth.name = y.name → meth.sig.returnType = ret → meth.locks = false → Z.Warmed39 s.vm → s₁.heap = h → Stand p l e rm s m as' below meth c s₁ [] 0 0 → own_Fin p e below s Q rm.cells rm.slots (s₁.setTop (entryFrame m as' maxL))) :
    own_Met l y bytes maxL ret rm Z ws as' h Q := by
  unfold own_Met
  refine MetFree.of_bodySF hp hisR ?_
  intro p e s m args below meth c s₁ Bd hml0 hP hK
  obtain ⟨rfl, hZ, hh⟩ := hP
  exact H p e s m below meth c s₁ Bd.exec Bd.bytes hml0 (findClass_of_methodNamed Bd.named) (name_of_methodNamed Bd.named Bd.method).1 Bd.returns (BodyLoose.notSynchronized Bd) hZ (by rw [← hh, Bd.state]; rfl) (Stand.of_body Bd)
theorem own_ret (X : Stand p l e R s m args below meth c T locs cells slots) (hx : p.tables.exec = Jvm.exec) (hlk : meth.locks = false) {pc : Nat} {Ls : Array Slot} {w : Value} {t : FieldType} {i : Instr} {rest : List Value} (hret : meth.sig.returnType = some t) (hn : narrow t w = w)
    (hi : (i = .ireturn ∧ (t = .int ∨ t = .boolean ∨ t = .byte ∨ t = .char ∨ t = .short) ∧ ∃ z, w = .int z) ∨ (i = .lreturn ∧ t = .long ∧ ∃ z, w = .long z) ∨ (i = .dreturn ∧ t = .double ∧ ∃ z, w = .double z) ∨ (i = .freturn ∧ t = .float ∧ ∃ z, w = .float z) ∨ (i = .areturn ∧ t.isReference = true ∧ w.isRef = true))
    (hd : decode c.code pc = .ok (i, 1)) (hk : cells ≤ kc) (hs : slots ≤ kn) (hq : Q (some w) T.heap locs) : own_Fin p e below s Q kc kn (T.setTop (mkF m pc Ls (w :: rest))) := by
  obtain ⟨fs, hr, hrun, hended, hW, hsame⟩ := X.leave (v := some w) (fun h => by rw [hret] at h; cases h) hlk
  exact ⟨_, _, retOut X hx hret hn hi hd hr, hrun, hended, _, _, rfl, hq, ⟨_, rfl⟩, hW, hsame.mono hk hs⟩
theorem own_retI (X : Stand p l e R s m args below meth c T locs cells slots) (hx : p.tables.exec = Jvm.exec) (hlk : meth.locks = false) {pc : Nat} {Ls : Array Slot} {z : Int32} {rest : List Value} (hret : meth.sig.returnType = some .int)
    (hd : decode c.code pc = .ok (.ireturn, 1)) (hk : cells ≤ kc) (hs : slots ≤ kn) (hq : Q (some (.int z)) T.heap locs) : own_Fin p e below s Q kc kn (T.setTop (mkF m pc Ls (.int z :: rest))) :=
  own_ret X hx hlk hret rfl (Or.inl ⟨rfl, Or.inl rfl, _, rfl⟩) hd hk hs hq
theorem own_retZ (X : Stand p l e R s m args below meth c T locs cells slots) (hx : p.tables.exec = Jvm.exec) (hlk : meth.locks = false) {pc : Nat} {Ls : Array Slot} {z : Int32} {rest : List Value} (hret : meth.sig.returnType = some .boolean) (hn : narrow .boolean (.int z) = .int z)
    (hd : decode c.code pc = .ok (.ireturn, 1)) (hk : cells ≤ kc) (hs : slots ≤ kn) (hq : Q (some (.int z)) T.heap locs) : own_Fin p e below s Q kc kn (T.setTop (mkF m pc Ls (.int z :: rest))) :=
  own_ret X hx hlk hret hn (Or.inl ⟨rfl, Or.inr (Or.inl rfl), _, rfl⟩) hd hk hs hq
theorem own_retJ (X : Stand p l e R s m args below meth c T locs cells slots) (hx : p.tables.exec = Jvm.exec) (hlk : meth.locks = false) {pc : Nat} {Ls : Array Slot} {z : Int64} {rest : List Value} (hret : meth.sig.returnType = some .long)
    (hd : decode c.code pc = .ok (.lreturn, 1)) (hk : cells ≤ kc) (hs : slots ≤ kn) (hq : Q (some (.long z)) T.heap locs) : own_Fin p e below s Q kc kn (T.setTop (mkF m pc Ls (.long z :: rest))) :=
  own_ret X hx hlk hret rfl (Or.inr (Or.inl ⟨rfl, rfl, _, rfl⟩)) hd hk hs hq
theorem own_retA (X : Stand p l e R s m args below meth c T locs cells slots) (hx : p.tables.exec = Jvm.exec) (hlk : meth.locks = false) {pc : Nat} {Ls : Array Slot} {z : Addr} {t : FieldType} {rest : List Value} (hret : meth.sig.returnType = some t) (ht : t.isReference = true) (hn : narrow t (.ref z) = .ref z)
    (hd : decode c.code pc = .ok (.areturn, 1)) (hk : cells ≤ kc) (hs : slots ≤ kn) (hq : Q (some (.ref z)) T.heap locs) : own_Fin p e below s Q kc kn (T.setTop (mkF m pc Ls (.ref z :: rest))) :=
  own_ret X hx hlk hret hn (Or.inr (Or.inr (Or.inr (Or.inr ⟨rfl, ht, rfl⟩)))) hd hk hs hq
theorem own_retV (X : Stand p l e R s m args below meth c T locs cells slots) (hx : p.tables.exec = Jvm.exec) (hlk : meth.locks = false) {pc : Nat} {Ls : Array Slot} (hret : meth.sig.returnType = none)
    (hd : decode c.code pc = .ok (.return_, 1)) (hk : cells ≤ kc) (hs : slots ≤ kn) (hq : Q none T.heap locs) : own_Fin p e below s Q kc kn (T.setTop (mkF m pc Ls [])) := by
  obtain ⟨fs, hr, hrun, hended, hW, hsame⟩ := X.leave (v := none) (fun _ => rfl) hlk
  exact ⟨_, _, X.returnOut hx hret hd hr, hrun, hended, _, _, rfl, hq, ⟨_, rfl⟩, hW, hsame.mono hk hs⟩
theorem own_callS (X : Stand p l e R s m args below meth c T locs cells slots) (hx : p.tables.exec = Jvm.exec) (hZ : Z.Warmed39 s.vm) {own : String} {index : Nat} {y : MethodName} {bytes : ByteArray} {maxL : Nat} {ret : Option FieldType} {rm : Room} {as' : Array Value} {Q' : Option Value → Heap → List Loc → Prop}
    (hown : s.vm.findClass own = some m.cls) (w1 : (Jvm.Cond.methodLink own index y).before a0 Z = true) (w2 : (Jvm.Cond.static y).before a0 Z = true) (w3 : (Jvm.Cond.initialized y.cls).before a0 Z = true) (w4 : (Jvm.Cond.code y bytes maxL ret).before a0 Z = true) (hy : y.cls ≠ "java/lang/invoke/MethodHandle" ∧ y.cls ≠ "java/lang/invoke/VarHandle")
    (hM : own_Met l y bytes maxL ret rm Z [] as' h Q') (eT : T.heap = h) {pc : Nat} {Ls : Array Slot} {st argsL rest : List Value} (hst : st = argsL.reverse ++ rest) (has : argsL.toArray = as') (hsize : Ls.size = c.maxLocals) (hlen : ∀ sig, parseMethodDescriptor y.desc = some sig → argsL.length = sig.parameters.length)
    (hd : decode c.code pc = .ok (.invokestatic index, 3)) {W : Nat} (hW : (rest.map fun v => v.category).sum ≤ W) (hf : rm.frames + 1 ≤ R.frames) (hl : W + (maxL + 11) + rm.locals ≤ R.locals) (hc : cells + rm.cells ≤ R.cells) (hs : slots + rm.slots ≤ R.slots)
    (H : ∀ (v : Option Value) (T' : State) (L : List Loc), Stand p l e R s m args below meth c T' (locs ++ L) (cells + rm.cells) (slots + rm.slots) → Q' v T'.heap L → own_Fin p e below s Q kc kn (T'.setTop (mkF m (pc + 3) Ls (v.toList ++ rest)))) :
    own_Fin p e below s Q kc kn (T.setTop (mkF m pc Ls st)) := by
  subst hst
  obtain ⟨v, _, ⟨T', L', k', n'⟩, -, X', ⟨Lc, hQ, l1, y1, z1⟩, st⟩ := Jvm.LawKit.callS X hx (y := y) hown (mvT hZ w1) (mvT hZ w2) (mvT hZ w3) (mvT hZ w4) hy (backOf (W := W) hM hZ w4 w3 hf hl) (g := mkF m pc Ls (argsL.reverse ++ rest)) rfl hsize hlen rfl (by show 2 * 0 + _ ≤ _; omega) hd (fun _ _ => ⟨has, eT, hc, hs⟩)
  dsimp only [Pt.U, Pt.locs, Pt.cells, Pt.slots] at X' l1 y1 z1 st hQ
  subst l1 y1 z1
  exact own_go st (H _ _ _ X' hQ)
theorem own_callV (X : Stand p l e R s m args below meth c T locs cells slots) (hx : p.tables.exec = Jvm.exec) (hZ : Z.Warmed39 s.vm) {own C : String} {index : Nat} {y z : MethodName} {bytes : ByteArray} {maxL : Nat} {ret : Option FieldType} {rm : Room} {as' : Array Value} {Q' : Option Value → Heap → List Loc → Prop}
    (hown : s.vm.findClass own = some m.cls) (w1 : (Jvm.Cond.methodLink own index y).before a0 Z = true) (w2 : (Jvm.Cond.declares y).before a0 Z = true) (nf : NotFace s y) (w3 : (Jvm.Cond.selects C y z).before a0 Z = true) (w4 : (Jvm.Cond.instanceMethod z).before a0 Z = true) (w5 : (Jvm.Cond.code z bytes maxL ret).before a0 Z = true) (w6 : (Jvm.Cond.initialized z.cls).before a0 Z = true) (hy : y.cls ≠ "java/lang/invoke/MethodHandle" ∧ y.cls ≠ "java/lang/invoke/VarHandle")
    (hM : own_Met l z bytes maxL ret rm Z [] as' h Q') (eT : T.heap = h) {a : Addr} (E : Exa Z h a C) {pc : Nat} {Ls : Array Slot} {st argsL rest : List Value} (hst : st = argsL.reverse ++ .ref a :: rest) (has : (.ref a :: argsL).toArray = as') (hsize : Ls.size = c.maxLocals) (hlen : ∀ sig, parseMethodDescriptor y.desc = some sig → argsL.length = sig.parameters.length)
    (hd : decode c.code pc = .ok (.invokevirtual index, 3)) {W : Nat} (hW : (rest.map fun v => v.category).sum ≤ W) (hf : rm.frames + 1 ≤ R.frames) (hl : W + (maxL + 11) + rm.locals ≤ R.locals) (hc : cells + rm.cells ≤ R.cells) (hs : slots + rm.slots ≤ R.slots)
    (H : ∀ (v : Option Value) (T' : State) (L : List Loc), Stand p l e R s m args below meth c T' (locs ++ L) (cells + rm.cells) (slots + rm.slots) → Q' v T'.heap L → own_Fin p e below s Q kc kn (T'.setTop (mkF m (pc + 3) Ls (v.toList ++ rest)))) :
    own_Fin p e below s Q kc kn (T.setTop (mkF m pc Ls st)) := by
  subst hst
  obtain ⟨cB, kB, q1, q2, q3⟩ := isOf (T := T) hZ eT E
  obtain ⟨v, _, ⟨T', L', k', n'⟩, -, X', ⟨Lc, hQ, l1, y1, z1⟩, st⟩ := X.virtualBack hx (y := y) (z := z) hown (mvT hZ w1) (mvT hZ w2) nf (mvT hZ w3) (mvT hZ w4) hy (backOf (W := W) hM hZ w5 w6 hf hl) q1 q3 (g := mkF m pc Ls (argsL.reverse ++ .ref a :: rest)) rfl hsize (Steps.refl _) hlen rfl (by show 2 * 0 + _ ≤ _; omega) hd (fun _ _ => ⟨has, eT, hc, hs⟩)
  dsimp only [Pt.U, Pt.locs, Pt.cells, Pt.slots] at X' l1 y1 z1 st hQ
  subst l1 y1 z1
  exact own_go (fun _ k => st.trans k) (H _ _ _ X' hQ)
theorem own_callN (X : Stand p l e R s m args below meth c T locs cells slots) (hx : p.tables.exec = Jvm.exec) (hZ : Z.Warmed39 s.vm) {own : String} {index : Nat} {y : MethodName} {bytes : ByteArray} {maxL : Nat} {rm : Room} {as' : Array Value} {Q' : Option Value → Heap → List Loc → Prop} (hy1 : y.name = "<init>")
    (hown : s.vm.findClass own = some m.cls) (w1 : (Jvm.Cond.methodLink own index y).before a0 Z = true) (w2 : (Jvm.Cond.instanceMethod y).before a0 Z = true) (w3 : (Jvm.Cond.initialized y.cls).before a0 Z = true) (w4 : (Jvm.Cond.code y bytes maxL none).before a0 Z = true) (hy : y.cls ≠ "java/lang/invoke/MethodHandle" ∧ y.cls ≠ "java/lang/invoke/VarHandle")
    (hM : own_Met l y bytes maxL none rm Z [] as' h Q') (eT : T.heap = h) {a : Addr} {pc : Nat} {Ls : Array Slot} {st argsL rest : List Value} (hst : st = argsL.reverse ++ .ref a :: rest) (has : (.ref a :: argsL).toArray = as') (hsize : Ls.size = c.maxLocals) (hlen : ∀ sig, parseMethodDescriptor y.desc = some sig → argsL.length = sig.parameters.length)
    (hd : decode c.code pc = .ok (.invokespecial index, 3)) {W : Nat} (hW : (rest.map fun v => v.category).sum ≤ W) (hf : rm.frames + 1 ≤ R.frames) (hl : W + (maxL + 11) + rm.locals ≤ R.locals) (hc : cells + rm.cells ≤ R.cells) (hs : slots + rm.slots ≤ R.slots)
    (H : ∀ (v : Option Value) (T' : State) (L : List Loc), Stand p l e R s m args below meth c T' (locs ++ L) (cells + rm.cells) (slots + rm.slots) → Q' v T'.heap L → own_Fin p e below s Q kc kn (T'.setTop (mkF m (pc + 3) Ls (v.toList ++ rest)))) :
    own_Fin p e below s Q kc kn (T.setTop (mkF m pc Ls st)) := by
  subst hst
  obtain ⟨v, _, ⟨T', L', k', n'⟩, -, X', ⟨Lc, hQ, l1, y1, z1⟩, st⟩ := X.specialBack hx (y := y) hy1 hown (mvT hZ w1) (mvT hZ w2) (mvT hZ w4) hy (backOf (W := W) hM hZ w4 w3 hf hl) (g := mkF m pc Ls (argsL.reverse ++ .ref a :: rest)) rfl hsize (Steps.refl _) (a := a) hlen rfl (by show 2 * 0 + _ ≤ _; omega) hd (fun _ _ => ⟨has, eT, hc, hs⟩)
  dsimp only [Pt.U, Pt.locs, Pt.cells, Pt.slots] at X' l1 y1 z1 st hQ
  subst l1 y1 z1
  exact own_go (fun _ k => st.trans k) (H _ _ _ X' hQ)
theorem own_initO (X : Stand p l e R s m args below meth c T locs cells slots) (hx : p.tables.exec = Jvm.exec) (hZ : Z.Warmed39 s.vm) {own : String} {idx : Nat} (hown : s.vm.findClass own = some m.cls) (w1 : (Jvm.Cond.methodLink own idx Lib.objectInit).before a0 Z = true) (w2 : (Jvm.Cond.instanceMethod Lib.objectInit).before a0 Z = true)
    (w3 : (Jvm.Cond.code Lib.objectInit ⟨#[0xb1]⟩ 1 none).before a0 Z = true) (eT : T.heap = h) {pc : Nat} {Ls : Array Slot} (hsize : Ls.size = c.maxLocals) {a : Addr} {rest : List Value} (hd : decode c.code pc = .ok (.invokespecial idx, 3))
    (hf : 1 ≤ R.frames) {W : Nat} (hW : (rest.map fun v => v.category).sum ≤ W) (hl : W + 12 ≤ R.locals)
    (H : ∀ (T' : State), Stand p l e R s m args below meth c T' locs cells slots → T'.heap = h → own_Fin p e below s Q kc kn (T'.setTop (mkF m (pc + 3) Ls rest))) :
    own_Fin p e below s Q kc kn (T.setTop (mkF m pc Ls (.ref a :: rest))) := by
  obtain ⟨T', X', e', st⟩ := initO X hx hZ hown w1 w2 w3 eT (g := mkF m pc Ls (.ref a :: rest)) rfl hsize rfl hd hf (W := W) (by show 2 * 0 + _ ≤ _; omega) hl
  exact own_go st (H _ X' e')
theorem own_getF (X : Stand p l e R s m args below meth c T locs cells slots) (hx : p.tables.exec = Jvm.exec) (hZ : Z.Warmed39 s.vm) {own R0 O n d host : String} {index : Nat} (hown : s.vm.findClass own = some m.cls) (w : (Jvm.Cond.fieldLink own index R0 n d).before a0 Z = true ∨ (Jvm.Cond.fieldLinkNest own index R0 n d host).before a0 Z = true) (via : Via Z R0 O n d)
    (eT : T.heap = h) {a : Addr} {v : Value} (F : Fld Z h a O n d v) {pc : Nat} {Ls : Array Slot} {rest : List Value} (hd : decode c.code pc = .ok (.getfield index, 3))
    (H : ∀ (T' : State), Stand p l e R s m args below meth c T' locs cells slots → T'.heap = h → own_Fin p e below s Q kc kn (T'.setTop (mkF m (pc + 3) Ls (v :: rest)))) :
    own_Fin p e below s Q kc kn (T.setTop (mkF m pc Ls (.ref a :: rest))) := by
  obtain ⟨T', X', e', st⟩ := getF X hx hZ hown w via eT F (g := mkF m pc Ls (.ref a :: rest)) rfl rfl hd
  exact own_go st (H _ X' e')
theorem own_getS (X : Stand p l e R s m args below meth c T locs cells slots) (hx : p.tables.exec = Jvm.exec) (hZ : Z.Warmed39 s.vm) {own R0 O n d host : String} {index : Nat} (hown : s.vm.findClass own = some m.cls) (w : (Jvm.Cond.fieldLink own index R0 n d).before a0 Z = true ∨ (Jvm.Cond.fieldLinkNest own index R0 n d host).before a0 Z = true) (via : Via Z R0 O n d)
    (eT : T.heap = h) {v : Value} (F : Sta Z h O n d v) {pc : Nat} {Ls : Array Slot} {rest : List Value} (hd : decode c.code pc = .ok (.getstatic index, 3))
    (H : ∀ (T' : State), Stand p l e R s m args below meth c T' locs cells slots → T'.heap = h → own_Fin p e below s Q kc kn (T'.setTop (mkF m (pc + 3) Ls (v :: rest)))) :
    own_Fin p e below s Q kc kn (T.setTop (mkF m pc Ls rest)) := by
  obtain ⟨T', X', e', st⟩ := getS2 X hx hZ hown w via eT F (g := mkF m pc Ls rest) rfl hd
  exact own_go st (H _ X' e')
theorem own_putF (X : Stand p l e R s m args below meth c T locs cells slots) (hx : p.tables.exec = Jvm.exec) (hZ : Z.Warmed39 s.vm) {own R0 O n d host C : String} {index kk : Nat} {ty : FieldType} (hown : s.vm.findClass own = some m.cls) (w : (Jvm.Cond.fieldLink own index R0 n d).before a0 Z = true ∨ (Jvm.Cond.fieldLinkNest own index R0 n d host).before a0 Z = true) (via : Via Z R0 O n d)
    (eT : T.heap = h) {a : Addr} {v old : Value} (F : Fld Z h a O n d old) (E : Exa Z h a C) (L : (Jvm.Cond.lays C O n d).before a0 Z = true ∨ ((Jvm.Cond.laysFinal C O n d).before a0 Z = true ∧ own = O ∧ meth.name = "<init>")) (wi : (Jvm.Cond.instantiable C kk).before a0 Z = true)
    (hty : parseFieldDescriptor d = some ty) (hn : narrow ty v = v) (hf : fits ty v = true) {pc : Nat} {Ls : Array Slot} {rest : List Value} (hd : decode c.code pc = .ok (.putfield index, 3))
    (H : ∀ (T' : State) (h' : Heap), Stand p l e R s m args below meth c T' (locs ++ [⟨a, Jvm.RoadKit.slotOf Z O n d⟩]) cells slots → T'.heap = h' → Wr h h' a (Jvm.RoadKit.slotOf Z O n d) v → own_Fin p e below s Q kc kn (T'.setTop (mkF m (pc + 3) Ls rest))) :
    own_Fin p e below s Q kc kn (T.setTop (mkF m pc Ls (v :: .ref a :: rest))) := by
  obtain ⟨T', h', X', e', W', st⟩ := putF X hx hZ hown w via eT F E L wi hty hn hf (g := mkF m pc Ls (v :: .ref a :: rest)) rfl rfl hd
  exact own_go st (H _ _ X' e' W')
theorem own_new (X : Stand p l e R s m args below meth c T locs cells slots) (hx : p.tables.exec = Jvm.exec) (hZ : Z.Warmed39 s.vm) {own C : String} {index n : Nat} (hown : s.vm.findClass own = some m.cls) (w : (Jvm.Cond.classLink own index C).before a0 Z = true) (wi : (Jvm.Cond.instantiable C n).before a0 Z = true) (wz : (Jvm.Cond.initialized C).before a0 Z = true) (eT : T.heap = h)
    {pc : Nat} {Ls : Array Slot} {rest : List Value} (hd : decode c.code pc = .ok (.new index, 3)) (hc : cells + 1 ≤ R.cells) (hl : slots + n ≤ R.slots)
    (H : ∀ (T' : State) (h' : Heap) (a : Addr), a = h.size → Stand p l e R s m args below meth c T' locs (cells + 1) (slots + n) → T'.heap = h' → Ext h h' → Exa Z h' a C → (∀ {O nm d : String} {ty : FieldType}, Laid Z a0 C O nm d → parseFieldDescriptor d = some ty → Fld Z h' a O nm d (defaultValue ty)) → own_Fin p e below s Q kc kn (T'.setTop (mkF m (pc + 3) Ls (.ref a :: rest)))) :
    own_Fin p e below s Q kc kn (T.setTop (mkF m pc Ls rest)) := by
  obtain ⟨T', h', X', e', E', A', D', -, st⟩ := newO X hx hZ hown w wi wz eT (g := mkF m pc Ls rest) rfl hd hc hl
  exact own_go st (H _ _ _ rfl X' e' E' A' D')
theorem own_callU (X : Stand p l e R s m args below meth c T locs cells slots) (hx : p.tables.exec = Jvm.exec) (hZ : Z.Warmed39 s.vm) {own C owner : String} {index : Nat} {y z : MethodName} {bytes : ByteArray} {maxL : Nat} {ret : Option FieldType} {rm : Room} {as' : Array Value} {Q' : Option Value → Heap → List Loc → Prop}
    (hown : s.vm.findClass own = some m.cls) (w1 : (Jvm.Cond.methodLink own index y).before a0 Z = true) (w2 : (Jvm.Cond.sameMethod y.cls owner y.name y.desc).before a0 Z = true) (w2' : (Jvm.Cond.declares ⟨owner, y.name, y.desc⟩).before a0 Z = true) (hy : owner ≠ "java/lang/invoke/MethodHandle" ∧ owner ≠ "java/lang/invoke/VarHandle") (w3 : (Jvm.Cond.selects C y z).before a0 Z = true) (w4 : (Jvm.Cond.instanceMethod z).before a0 Z = true) (w5 : (Jvm.Cond.code z bytes maxL ret).before a0 Z = true) (w6 : (Jvm.Cond.initialized z.cls).before a0 Z = true)
    (hM : own_Met l z bytes maxL ret rm Z [] as' h Q') (eT : T.heap = h) {a : Addr} (E : Exa Z h a C) {pc : Nat} {Ls : Array Slot} {st argsL rest : List Value} (hst : st = argsL.reverse ++ .ref a :: rest) (has : (.ref a :: argsL).toArray = as') (hsize : Ls.size = c.maxLocals) (hlen : ∀ sig, parseMethodDescriptor y.desc = some sig → argsL.length = sig.parameters.length)
    (hd : decode c.code pc = .ok (.invokevirtual index, 3)) {W : Nat} (hW : (rest.map fun v => v.category).sum ≤ W) (hf : rm.frames + 1 ≤ R.frames) (hl : W + (maxL + 11) + rm.locals ≤ R.locals) (hc : cells + rm.cells ≤ R.cells) (hs : slots + rm.slots ≤ R.slots)
    (H : ∀ (v : Option Value) (T' : State) (L : List Loc), Stand p l e R s m args below meth c T' (locs ++ L) (cells + rm.cells) (slots + rm.slots) → Q' v T'.heap L → own_Fin p e below s Q kc kn (T'.setTop (mkF m (pc + 3) Ls (v.toList ++ rest)))) :
    own_Fin p e below s Q kc kn (T.setTop (mkF m pc Ls st)) := by
  subst hst
  obtain ⟨cB, kB, q1, q2, q3⟩ := isOf (T := T) hZ eT E
  obtain ⟨v, _, ⟨T', L', k', n'⟩, -, X', ⟨Lc, hQ, l1, y1, z1⟩, st⟩ := X.virtualBackUp hx (x := y) (y := z) hown (mvT hZ w1) (mvT hZ w2) (mvT hZ w2') hy (mvT hZ w3) (mvT hZ w4) (backOf (W := W) hM hZ w5 w6 hf hl) q1 q3 (g := mkF m pc Ls (argsL.reverse ++ .ref a :: rest)) rfl hsize (Steps.refl _) hlen rfl (by show 2 * 0 + _ ≤ _; omega) hd (fun _ _ => ⟨has, eT, hc, hs⟩)
  dsimp only [Pt.U, Pt.locs, Pt.cells, Pt.slots] at X' l1 y1 z1 st hQ
  subst l1 y1 z1
  exact own_go (fun _ k => st.trans k) (H _ _ _ X' hQ)
theorem own_lswHit (X : Stand p l e R s m args below meth c T locs cells slots) (hx : p.tables.exec = Jvm.exec) {pc pc' : Nat} {Ls : Array Slot} {k : Int32} {rest : List Value} {default : Int} {pairs : Array (Int × Int)} {len : Nat} (hd : decode c.code pc = .ok (.lookupswitch default pairs, len))
    (hsorted : (pairs.toList.zip (pairs.toList.drop 1)).all (fun (a, next) => a.1 < next.1) = true) {a off : Int} (hfind : pairs.find? (·.1 == k.toInt) = some (a, off)) (hoff : 0 ≤ (pc : Int) + off) (hp : ((pc : Int) + off).toNat = pc')
    (H : own_Fin p e below s Q kc kn (T.setTop (mkF m pc' Ls rest))) : own_Fin p e below s Q kc kn (T.setTop (mkF m pc Ls (.int k :: rest))) := by
  subst hp
  exact own_go (fun t q => X.lookupswitchHit hx (g := mkF m pc Ls (.int k :: rest)) rfl rfl hd hsorted hfind hoff t q) H
theorem own_lswMiss (X : Stand p l e R s m args below meth c T locs cells slots) (hx : p.tables.exec = Jvm.exec) {pc pc' : Nat} {Ls : Array Slot} {k : Int32} {rest : List Value} {default : Int} {pairs : Array (Int × Int)} {len : Nat} (hd : decode c.code pc = .ok (.lookupswitch default pairs, len))
    (hsorted : (pairs.toList.zip (pairs.toList.drop 1)).all (fun (a, next) => a.1 < next.1) = true) (hfind : ∀ q ∈ pairs.toList, q.1 ≠ k.toInt) (hoff : 0 ≤ (pc : Int) + default) (hp : ((pc : Int) + default).toNat = pc')
    (H : own_Fin p e below s Q kc kn (T.setTop (mkF m pc' Ls rest))) : own_Fin p e below s Q kc kn (T.setTop (mkF m pc Ls (.int k :: rest))) := by
  subst hp
  exact own_go (fun t q => X.lookupswitchMiss hx (g := mkF m pc Ls (.int k :: rest)) rfl rfl hd hsorted (find_miss hfind) hoff t q) H
theorem own_castY (X : Stand p l e R s m args below meth c T locs cells slots) (hx : p.tables.exec = Jvm.exec) (hZ : Z.Warmed39 s.vm) {own K : String} {index : Nat} (hown : s.vm.findClass own = some m.cls) (w : (Jvm.Cond.classLink own index K).before a0 Z = true) (eT : T.heap = h) {a : Addr} (F : Ins Z h a K true)
    {pc : Nat} {Ls : Array Slot} {rest : List Value} (hd : decode c.code pc = .ok (.checkcast index, 3))
    (H : ∀ (T' : State), Stand p l e R s m args below meth c T' locs cells slots → T'.heap = h → own_Fin p e below s Q kc kn (T'.setTop (mkF m (pc + 3) Ls (.ref a :: rest)))) :
    own_Fin p e below s Q kc kn (T.setTop (mkF m pc Ls (.ref a :: rest))) := by
  obtain ⟨T', X', e', st⟩ := castY X hx hZ hown w eT F (g := mkF m pc Ls (.ref a :: rest)) rfl rfl hd
  exact own_go st (H _ X' e')
theorem own_Sta_keep0 {C n d : String} {v : Value} {h h' : Heap} (F : Sta Z h C n d v) (K : Keep h h' []) : Sta Z h' C n d v := by
  obtain ⟨cf, i, k, f, st, cell, h1, h2, h3, h4, h5, r⟩ := F
  exact ⟨cf, i, k, f, st, cell, h1, h2, h3, h4, K.2.1 _ _ h5 nin0, r⟩
theorem own_Arr_keep0 {a : Addr} {cl : Cell} {ty : FieldType} {h h' : Heap} (F : Arr Z h a cl ty) (K : Keep h h' []) : Arr Z h' a cl ty := ⟨K.2.1 _ _ F.1 nin0, F.2⟩
theorem own_neI {k z : Int32} {n : Int} (hz : z.toInt = n) (q : ¬ k = z) : n ≠ k.toInt := fun e => q (Int32.toInt_inj.mp (by rw [hz]; exact e.symm))
theorem own_fldI {args : Array Value} {t : Term} {O nm dd : String} {v : Int32} {a : Addr} (q : (Jvm.Cond.eq (.field t O nm dd) (.int v)).value args Z none Z [] = some true) (ev : t.eval args Z none [] Z = some (.ref a)) : Fld Z Z.heap a O nm dd (.int v) := by
  refine Fld.start ?_
  have e1 := fld_at (C := O) (n := nm) (dd := dd) ev
  simp only [Cond.value, e1] at q
  cases hf : Z.fieldOf? a O nm dd with
  | none => simp [hf] at q
  | some x => cases x <;> simp [hf, Term.eval] at q ⊢; exact q
theorem own_fldR {args : Array Value} {t u : Term} {O nm dd : String} {a b : Addr} (q : (Jvm.Cond.eq (.field t O nm dd) u).value args Z none Z [] = some true) (ev : t.eval args Z none [] Z = some (.ref a)) (eu : u.eval args Z none [] Z = some (.ref b)) : Fld Z Z.heap a O nm dd (.ref b) := by
  refine Fld.start ?_
  have e1 := fld_at (C := O) (n := nm) (dd := dd) ev
  simp only [Cond.value, e1, eu] at q
  cases hf : Z.fieldOf? a O nm dd with
  | none => simp [hf] at q
  | some x => cases x <;> simp [hf] at q ⊢; exact q
end Own

section OwnArr
variable {p : Program} {l : Launch} {e : Env} {R : Room} {s : State} {m : MethodId} {args : Array Value} {below : List Frame} {meth : Method} {c : Code} {T : State} {locs : List Loc} {cells slots : Nat} {Z : State} {a0 : Array Value} {h h' : Heap} {Q : Option Value → Heap → List Loc → Prop} {kc kn : Nat} {a b : Addr} {ty : FieldType} {vs : List Value} {v w : Value} {ws : List Addr} {sl : Nat}
/-- the array at a holds just vs -/
def own_Ar (Z : State) (h : Heap) (a : Addr) (ty : FieldType) (vs : List Value) : Prop := ∃ c : Cell, Arr Z h a c ty ∧ c.slots = vs.toArray ∧ vs.length < 2 ^ 31
theorem own_Ar.lt (F : own_Ar Z h a ty vs) : a < h.size := by obtain ⟨c, A, -⟩ := F; exact A.lt
theorem own_Ar.ext (F : own_Ar Z h a ty vs) (E : Ext h h') : own_Ar Z h' a ty vs := by obtain ⟨c, A, r⟩ := F; exact ⟨c, A.ext E, r⟩
theorem own_Ar.other (F : own_Ar Z h b ty vs) (W : Wr h h' a sl v) (q : b ≠ a) : own_Ar Z h' b ty vs := by obtain ⟨c, A, r⟩ := F; exact ⟨c, A.other W q, r⟩
theorem own_Ar.keep (F : own_Ar Z h a ty vs) (K : Keep h h' ws) (q : a ∉ ws) : own_Ar Z h' a ty vs := by obtain ⟨c, A, r⟩ := F; exact ⟨c, ⟨K.2.1 a c A.1 q, A.2⟩, r⟩
theorem own_Ar.set (F : own_Ar Z h a ty vs) (W : Wr h h' a sl v) : own_Ar Z h' a ty (vs.set sl v) := by
  obtain ⟨c, A, q1, q2⟩ := F
  refine ⟨_, A.same W, ?_, by rw [List.length_set]; exact q2⟩
  show c.slots.setIfInBounds sl v = _
  rw [q1]; simp
theorem own_Ar.len (F : own_Ar Z h a ty vs) : vs.length < 2 ^ 31 := by obtain ⟨_, _, _, q⟩ := F; exact q
theorem own_in {c : Cell} (q : c.slots = vs.toArray) {j : Int32} (hj : ¬ j < 0) (hi : j.toNatClampNeg < vs.length) : ¬ (j < 0 ∨ c.slots.size ≤ j.toNatClampNeg) := by
  rw [q]; simp only [List.size_toArray]; exact fun w => w.elim hj fun w => absurd hi (Nat.not_lt.mpr w)
theorem own_lt {vs : List Value} {i : Nat} (hv : vs[i]? = some v) : i < vs.length := (List.getElem?_eq_some_iff.mp hv).1
theorem own_iaload (X : Stand p l e R s m args below meth c T locs cells slots) (hx : p.tables.exec = Jvm.exec) (hZ : Z.Warmed39 s.vm) (eT : T.heap = h) (F : own_Ar Z h a .int vs) {j : Int32} (hj : ¬ j < 0) (hv : vs[j.toNatClampNeg]? = some v) {pc : Nat} {Ls : Array Slot} {rest : List Value} (hd : decode c.code pc = .ok (.iaload, 1))
    (H : own_Fin p e below s Q kc kn (T.setTop (mkF m (pc + 1) Ls (v :: rest)))) : own_Fin p e below s Q kc kn (T.setTop (mkF m pc Ls (.int j :: .ref a :: rest))) := by
  obtain ⟨c', A, q1, q2⟩ := F
  exact own_go (fun t k => X.iaload hx (j := j) (v := v) (by rw [eT]; exact A.1) (State.isArrayOf_alike hZ.alike A.2.1) A.2.2 (own_in q1 hj (own_lt hv)) (by rw [q1]; simpa using hv) (g := mkF m pc Ls (.int j :: .ref a :: rest)) rfl rfl hd t k) H
theorem own_laload (X : Stand p l e R s m args below meth c T locs cells slots) (hx : p.tables.exec = Jvm.exec) (hZ : Z.Warmed39 s.vm) (eT : T.heap = h) (F : own_Ar Z h a .long vs) {j : Int32} (hj : ¬ j < 0) (hv : vs[j.toNatClampNeg]? = some v) {pc : Nat} {Ls : Array Slot} {rest : List Value} (hd : decode c.code pc = .ok (.laload, 1))
    (H : own_Fin p e below s Q kc kn (T.setTop (mkF m (pc + 1) Ls (v :: rest)))) : own_Fin p e below s Q kc kn (T.setTop (mkF m pc Ls (.int j :: .ref a :: rest))) := by
  obtain ⟨c', A, q1, q2⟩ := F
  exact own_go (fun t k => X.laload hx (j := j) (v := v) (by rw [eT]; exact A.1) (State.isArrayOf_alike hZ.alike A.2.1) A.2.2 (own_in q1 hj (own_lt hv)) (by rw [q1]; simpa using hv) (g := mkF m pc Ls (.int j :: .ref a :: rest)) rfl rfl hd t k) H
theorem own_zaload (X : Stand p l e R s m args below meth c T locs cells slots) (hx : p.tables.exec = Jvm.exec) (hZ : Z.Warmed39 s.vm) (eT : T.heap = h) (F : own_Ar Z h a .boolean vs) {j : Int32} (hj : ¬ j < 0) (hv : vs[j.toNatClampNeg]? = some v) {pc : Nat} {Ls : Array Slot} {rest : List Value} (hd : decode c.code pc = .ok (.baload, 1))
    (H : own_Fin p e below s Q kc kn (T.setTop (mkF m (pc + 1) Ls (v :: rest)))) : own_Fin p e below s Q kc kn (T.setTop (mkF m pc Ls (.int j :: .ref a :: rest))) := by
  obtain ⟨c', A, q1, q2⟩ := F
  exact own_go (fun t k => X.baloadBooleans hx (j := j) (v := v) (by rw [eT]; exact A.1) (State.isArrayOf_alike hZ.alike A.2.1) A.2.2 (own_in q1 hj (own_lt hv)) (by rw [q1]; simpa using hv) (g := mkF m pc Ls (.int j :: .ref a :: rest)) rfl rfl hd t k) H
theorem own_aaload (X : Stand p l e R s m args below meth c T locs cells slots) (hx : p.tables.exec = Jvm.exec) (hZ : Z.Warmed39 s.vm) (eT : T.heap = h) (F : own_Ar Z h a ty vs) (hty : ty.isReference = true) {j : Int32} (hj : ¬ j < 0) (hv : vs[j.toNatClampNeg]? = some v) {pc : Nat} {Ls : Array Slot} {rest : List Value} (hd : decode c.code pc = .ok (.aaload, 1))
    (H : own_Fin p e below s Q kc kn (T.setTop (mkF m (pc + 1) Ls (v :: rest)))) : own_Fin p e below s Q kc kn (T.setTop (mkF m pc Ls (.int j :: .ref a :: rest))) := by
  obtain ⟨c', A, q1, q2⟩ := F
  exact own_go (fun t k => X.aaload hx (j := j) (v := v) (by rw [eT]; exact A.1) (State.isArrayOf_alike hZ.alike A.2.1) hty A.2.2 (own_in q1 hj (own_lt hv)) (by rw [q1]; simpa using hv) (g := mkF m pc Ls (.int j :: .ref a :: rest)) rfl rfl hd t k) H
theorem own_alen (X : Stand p l e R s m args below meth c T locs cells slots) (hx : p.tables.exec = Jvm.exec) (hZ : Z.Warmed39 s.vm) (eT : T.heap = h) (F : own_Ar Z h a ty vs) {pc : Nat} {Ls : Array Slot} {rest : List Value} (hd : decode c.code pc = .ok (.arraylength, 1))
    (H : own_Fin p e below s Q kc kn (T.setTop (mkF m (pc + 1) Ls (.int (Int32.ofNat vs.length) :: rest)))) : own_Fin p e below s Q kc kn (T.setTop (mkF m pc Ls (.ref a :: rest))) := by
  obtain ⟨c', A, q1, q2⟩ := F
  refine own_go (fun t k => X.arraylength hx (by rw [eT]; exact A.1) (State.isArrayOf_alike hZ.alike A.2.1) (g := mkF m pc Ls (.ref a :: rest)) rfl rfl hd t k) ?_
  rw [q1]; simp only [List.size_toArray]; exact H
theorem own_iastore (X : Stand p l e R s m args below meth c T locs cells slots) (hx : p.tables.exec = Jvm.exec) (hZ : Z.Warmed39 s.vm) (eT : T.heap = h) (F : own_Ar Z h a .int vs) {j x : Int32} (hj : ¬ j < 0) (hi : j.toNatClampNeg < vs.length) {pc : Nat} {Ls : Array Slot} {rest : List Value} (hd : decode c.code pc = .ok (.iastore, 1))
    (H : ∀ (T' : State) (h' : Heap), Stand p l e R s m args below meth c T' (locs ++ [⟨a, j.toNatClampNeg⟩]) cells slots → T'.heap = h' → Wr h h' a j.toNatClampNeg (.int x) → own_Ar Z h' a .int (vs.set j.toNatClampNeg (.int x)) → own_Fin p e below s Q kc kn (T'.setTop (mkF m (pc + 1) Ls rest))) :
    own_Fin p e below s Q kc kn (T.setTop (mkF m pc Ls (.int x :: .int j :: .ref a :: rest))) := by
  have F' := F
  obtain ⟨c', A, q1, q2⟩ := F
  obtain ⟨T', h', X', e', W', st⟩ := stI X hx hZ eT A (j := j) (x := x) (own_in q1 hj hi) (g := mkF m pc Ls (.int x :: .int j :: .ref a :: rest)) rfl rfl hd
  exact own_go st (H _ _ X' e' W' (F'.set W'))
theorem own_lastore (X : Stand p l e R s m args below meth c T locs cells slots) (hx : p.tables.exec = Jvm.exec) (hZ : Z.Warmed39 s.vm) (eT : T.heap = h) (F : own_Ar Z h a .long vs) {j : Int32} {x : Int64} (hj : ¬ j < 0) (hi : j.toNatClampNeg < vs.length) {pc : Nat} {Ls : Array Slot} {rest : List Value} (hd : decode c.code pc = .ok (.lastore, 1))
    (H : ∀ (T' : State) (h' : Heap), Stand p l e R s m args below meth c T' (locs ++ [⟨a, j.toNatClampNeg⟩]) cells slots → T'.heap = h' → Wr h h' a j.toNatClampNeg (.long x) → own_Ar Z h' a .long (vs.set j.toNatClampNeg (.long x)) → own_Fin p e below s Q kc kn (T'.setTop (mkF m (pc + 1) Ls rest))) :
    own_Fin p e below s Q kc kn (T.setTop (mkF m pc Ls (.long x :: .int j :: .ref a :: rest))) := by
  have F' := F
  obtain ⟨c', A, q1, q2⟩ := F
  obtain ⟨T', h', X', e', W', st⟩ := stJ X hx hZ eT A (j := j) (x := x) (own_in q1 hj hi) (g := mkF m pc Ls (.long x :: .int j :: .ref a :: rest)) rfl rfl hd
  exact own_go st (H _ _ X' e' W' (F'.set W'))
theorem own_zastore (X : Stand p l e R s m args below meth c T locs cells slots) (hx : p.tables.exec = Jvm.exec) (hZ : Z.Warmed39 s.vm) (eT : T.heap = h) (F : own_Ar Z h a .boolean vs) {j x : Int32} (hj : ¬ j < 0) (hi : j.toNatClampNeg < vs.length) {pc : Nat} {Ls : Array Slot} {rest : List Value} (hd : decode c.code pc = .ok (.bastore, 1)) (hn : nar .boolean x = x)
    (H : ∀ (T' : State) (h' : Heap), Stand p l e R s m args below meth c T' (locs ++ [⟨a, j.toNatClampNeg⟩]) cells slots → T'.heap = h' → Wr h h' a j.toNatClampNeg (.int x) → own_Ar Z h' a .boolean (vs.set j.toNatClampNeg (.int x)) → own_Fin p e below s Q kc kn (T'.setTop (mkF m (pc + 1) Ls rest))) :
    own_Fin p e below s Q kc kn (T.setTop (mkF m pc Ls (.int x :: .int j :: .ref a :: rest))) := by
  have F' := F
  obtain ⟨c', A, q1, q2⟩ := F
  obtain ⟨T', h', X', e', W', st⟩ := stZ X hx hZ eT A (j := j) (x := x) (own_in q1 hj hi) (g := mkF m pc Ls (.int x :: .int j :: .ref a :: rest)) rfl rfl hd
  rw [hn] at W'
  exact own_go st (H _ _ X' e' W' (F'.set W'))
theorem own_newarr (X : Stand p l e R s m args below meth c T locs cells slots) (hx : p.tables.exec = Jvm.exec) (hZ : Z.Warmed39 s.vm) {aty : ArrayType} (w : (Jvm.Cond.arrayClass (newarray.typeOf aty)).before a0 Z = true) (eT : T.heap = h) {pc : Nat} {Ls : Array Slot} {rest : List Value} (hd : decode c.code pc = .ok (.newarray aty, 2)) {n : Int32}
    (hn : ¬ n < 0) {cap : Nat} (hcap : n.toNatClampNeg ≤ cap) (hb : cap * 8 ≤ 536870912) (hc : cells + 1 ≤ R.cells) (hl : slots + cap ≤ R.slots) {ad : String} (had : "[" ++ (newarray.typeOf aty).toString = ad)
    (H : ∀ (T' : State) (h' : Heap) (a : Addr), a = h.size → Stand p l e R s m args below meth c T' locs (cells + 1) (slots + cap) → T'.heap = h' → Ext h h' → own_Ar Z h' a (newarray.typeOf aty) (List.replicate n.toNatClampNeg (defaultValue (newarray.typeOf aty))) → Exa Z h' a ad → own_Fin p e below s Q kc kn (T'.setTop (mkF m (pc + 2) Ls (.ref a :: rest)))) :
    own_Fin p e below s Q kc kn (T.setTop (mkF m pc Ls (.int n :: rest))) := by
  obtain ⟨T', h', cA, X', e', E', A', D', st⟩ := newPE X hx hZ w eT (g := mkF m pc Ls (.int n :: rest)) rfl hd rfl hn hcap hb hc hl had
  exact own_go st (H _ _ _ rfl X' e' E' ⟨_, A', by simp [newA], by simp only [List.length_replicate]; omega⟩ D')
theorem own_ldI (X : Stand p l e R s m args below meth c T locs cells slots) (hx : p.tables.exec = Jvm.exec) (hZ : Z.Warmed39 s.vm) (eT : T.heap = h) {xs : List Int32} (F : own_Ar Z h a .int (xs.map Value.int)) {j : Int32} (hj : ¬ j < 0) (hi : j.toNatClampNeg < xs.length) {pc : Nat} {Ls : Array Slot} {rest : List Value} (hd : decode c.code pc = .ok (.iaload, 1))
    (H : own_Fin p e below s Q kc kn (T.setTop (mkF m (pc + 1) Ls (Value.int (xs.getD j.toNatClampNeg 0) :: rest)))) : own_Fin p e below s Q kc kn (T.setTop (mkF m pc Ls (.int j :: .ref a :: rest))) :=
  own_iaload X hx hZ eT F hj (by simp [List.getD_eq_getElem?_getD, hi]) hd H
theorem own_ldZ (X : Stand p l e R s m args below meth c T locs cells slots) (hx : p.tables.exec = Jvm.exec) (hZ : Z.Warmed39 s.vm) (eT : T.heap = h) {xs : List Int32} (F : own_Ar Z h a .boolean (xs.map Value.int)) {j : Int32} (hj : ¬ j < 0) (hi : j.toNatClampNeg < xs.length) {pc : Nat} {Ls : Array Slot} {rest : List Value} (hd : decode c.code pc = .ok (.baload, 1))
    (H : own_Fin p e below s Q kc kn (T.setTop (mkF m (pc + 1) Ls (Value.int (xs.getD j.toNatClampNeg 0) :: rest)))) : own_Fin p e below s Q kc kn (T.setTop (mkF m pc Ls (.int j :: .ref a :: rest))) :=
  own_zaload X hx hZ eT F hj (by simp [List.getD_eq_getElem?_getD, hi]) hd H
theorem own_ldJ (X : Stand p l e R s m args below meth c T locs cells slots) (hx : p.tables.exec = Jvm.exec) (hZ : Z.Warmed39 s.vm) (eT : T.heap = h) {xs : List Int64} (F : own_Ar Z h a .long (xs.map Value.long)) {j : Int32} (hj : ¬ j < 0) (hi : j.toNatClampNeg < xs.length) {pc : Nat} {Ls : Array Slot} {rest : List Value} (hd : decode c.code pc = .ok (.laload, 1))
    (H : own_Fin p e below s Q kc kn (T.setTop (mkF m (pc + 1) Ls (Value.long (xs.getD j.toNatClampNeg 0) :: rest)))) : own_Fin p e below s Q kc kn (T.setTop (mkF m pc Ls (.int j :: .ref a :: rest))) :=
  own_laload X hx hZ eT F hj (by simp [List.getD_eq_getElem?_getD, hi]) hd H
theorem own_stI (X : Stand p l e R s m args below meth c T locs cells slots) (hx : p.tables.exec = Jvm.exec) (hZ : Z.Warmed39 s.vm) (eT : T.heap = h) {xs : List Int32} (F : own_Ar Z h a .int (xs.map Value.int)) {j : Int32} {x : Int32} (hj : ¬ j < 0) (hi : j.toNatClampNeg < xs.length) {pc : Nat} {Ls : Array Slot} {rest : List Value} (hd : decode c.code pc = .ok (.iastore, 1))
    (H : ∀ (T' : State) (h' : Heap), Stand p l e R s m args below meth c T' (locs ++ [⟨a, j.toNatClampNeg⟩]) cells slots → T'.heap = h' → Wr h h' a j.toNatClampNeg (Value.int x) → own_Ar Z h' a .int ((xs.set j.toNatClampNeg x).map Value.int) → own_Fin p e below s Q kc kn (T'.setTop (mkF m (pc + 1) Ls rest))) :
    own_Fin p e below s Q kc kn (T.setTop (mkF m pc Ls (Value.int x :: .int j :: .ref a :: rest))) :=
  own_iastore X hx hZ eT F hj (by simpa using hi) hd fun T' h' X' e' W' F' => H T' h' X' e' W' (by rw [List.map_set]; exact F')
theorem own_stZ (X : Stand p l e R s m args below meth c T locs cells slots) (hx : p.tables.exec = Jvm.exec) (hZ : Z.Warmed39 s.vm) (eT : T.heap = h) {xs : List Int32} (F : own_Ar Z h a .boolean (xs.map Value.int)) {j : Int32} {x : Int32} (hj : ¬ j < 0) (hi : j.toNatClampNeg < xs.length) {pc : Nat} {Ls : Array Slot} {rest : List Value} (hd : decode c.code pc = .ok (.bastore, 1)) (hn : nar .boolean x = x)
    (H : ∀ (T' : State) (h' : Heap), Stand p l e R s m args below meth c T' (locs ++ [⟨a, j.toNatClampNeg⟩]) cells slots → T'.heap = h' → Wr h h' a j.toNatClampNeg (Value.int x) → own_Ar Z h' a .boolean ((xs.set j.toNatClampNeg x).map Value.int) → own_Fin p e below s Q kc kn (T'.setTop (mkF m (pc + 1) Ls rest))) :
    own_Fin p e below s Q kc kn (T.setTop (mkF m pc Ls (Value.int x :: .int j :: .ref a :: rest))) :=
  own_zastore X hx hZ eT F hj (by simpa using hi) hd hn fun T' h' X' e' W' F' => H T' h' X' e' W' (by rw [List.map_set]; exact F')
theorem own_stJ (X : Stand p l e R s m args below meth c T locs cells slots) (hx : p.tables.exec = Jvm.exec) (hZ : Z.Warmed39 s.vm) (eT : T.heap = h) {xs : List Int64} (F : own_Ar Z h a .long (xs.map Value.long)) {j : Int32} {x : Int64} (hj : ¬ j < 0) (hi : j.toNatClampNeg < xs.length) {pc : Nat} {Ls : Array Slot} {rest : List Value} (hd : decode c.code pc = .ok (.lastore, 1))
    (H : ∀ (T' : State) (h' : Heap), Stand p l e R s m args below meth c T' (locs ++ [⟨a, j.toNatClampNeg⟩]) cells slots → T'.heap = h' → Wr h h' a j.toNatClampNeg (Value.long x) → own_Ar Z h' a .long ((xs.set j.toNatClampNeg x).map Value.long) → own_Fin p e below s Q kc kn (T'.setTop (mkF m (pc + 1) Ls rest))) :
    own_Fin p e below s Q kc kn (T.setTop (mkF m pc Ls (Value.long x :: .int j :: .ref a :: rest))) :=
  own_lastore X hx hZ eT F hj (by simpa using hi) hd fun T' h' X' e' W' F' => H T' h' X' e' W' (by rw [List.map_set]; exact F')
theorem own_newI (X : Stand p l e R s m args below meth c T locs cells slots) (hx : p.tables.exec = Jvm.exec) (hZ : Z.Warmed39 s.vm) (w : (Jvm.Cond.arrayClass .int).before a0 Z = true) (eT : T.heap = h) {pc : Nat} {Ls : Array Slot} {rest : List Value} (hd : decode c.code pc = .ok (.newarray .int, 2)) {n : Int32}
    (hn : ¬ n < 0) {cap : Nat} (hcap : n.toNatClampNeg ≤ cap) (hb : cap * 8 ≤ 536870912) (hc : cells + 1 ≤ R.cells) (hl : slots + cap ≤ R.slots)
    (H : ∀ (T' : State) (h' : Heap) (a : Addr), a = h.size → Stand p l e R s m args below meth c T' locs (cells + 1) (slots + cap) → T'.heap = h' → Ext h h' → own_Ar Z h' a .int ((List.replicate n.toNatClampNeg (0 : Int32)).map Value.int) → Exa Z h' a "[I" → own_Fin p e below s Q kc kn (T'.setTop (mkF m (pc + 2) Ls (.ref a :: rest)))) :
    own_Fin p e below s Q kc kn (T.setTop (mkF m pc Ls (.int n :: rest))) :=
  own_newarr X hx hZ (aty := .int) w eT hd hn hcap hb hc hl rfl fun T' h' a g' X' e' E' F' D' => H T' h' a g' X' e' E' (by rw [List.map_replicate]; exact F') D'
theorem own_newZ (X : Stand p l e R s m args below meth c T locs cells slots) (hx : p.tables.exec = Jvm.exec) (hZ : Z.Warmed39 s.vm) (w : (Jvm.Cond.arrayClass .boolean).before a0 Z = true) (eT : T.heap = h) {pc : Nat} {Ls : Array Slot} {rest : List Value} (hd : decode c.code pc = .ok (.newarray .boolean, 2)) {n : Int32}
    (hn : ¬ n < 0) {cap : Nat} (hcap : n.toNatClampNeg ≤ cap) (hb : cap * 8 ≤ 536870912) (hc : cells + 1 ≤ R.cells) (hl : slots + cap ≤ R.slots)
    (H : ∀ (T' : State) (h' : Heap) (a : Addr), a = h.size → Stand p l e R s m args below meth c T' locs (cells + 1) (slots + cap) → T'.heap = h' → Ext h h' → own_Ar Z h' a .boolean ((List.replicate n.toNatClampNeg (0 : Int32)).map Value.int) → Exa Z h' a "[Z" → own_Fin p e below s Q kc kn (T'.setTop (mkF m (pc + 2) Ls (.ref a :: rest)))) :
    own_Fin p e below s Q kc kn (T.setTop (mkF m pc Ls (.int n :: rest))) :=
  own_newarr X hx hZ (aty := .boolean) w eT hd hn hcap hb hc hl rfl fun T' h' a g' X' e' E' F' D' => H T' h' a g' X' e' E' (by rw [List.map_replicate]; exact F') D'
theorem own_newJ (X : Stand p l e R s m args below meth c T locs cells slots) (hx : p.tables.exec = Jvm.exec) (hZ : Z.Warmed39 s.vm) (w : (Jvm.Cond.arrayClass .long).before a0 Z = true) (eT : T.heap = h) {pc : Nat} {Ls : Array Slot} {rest : List Value} (hd : decode c.code pc = .ok (.newarray .long, 2)) {n : Int32}
    (hn : ¬ n < 0) {cap : Nat} (hcap : n.toNatClampNeg ≤ cap) (hb : cap * 8 ≤ 536870912) (hc : cells + 1 ≤ R.cells) (hl : slots + cap ≤ R.slots)
    (H : ∀ (T' : State) (h' : Heap) (a : Addr), a = h.size → Stand p l e R s m args below meth c T' locs (cells + 1) (slots + cap) → T'.heap = h' → Ext h h' → own_Ar Z h' a .long ((List.replicate n.toNatClampNeg (0 : Int64)).map Value.long) → Exa Z h' a "[J" → own_Fin p e below s Q kc kn (T'.setTop (mkF m (pc + 2) Ls (.ref a :: rest)))) :
    own_Fin p e below s Q kc kn (T.setTop (mkF m pc Ls (.int n :: rest))) :=
  own_newarr X hx hZ (aty := .long) w eT hd hn hcap hb hc hl rfl fun T' h' a g' X' e' E' F' D' => H T' h' a g' X' e' E' (by rw [List.map_replicate]; exact F') D'
end OwnArr
section OwnArr2
variable {p : Program} {l : Launch} {e : Env} {R : Room} {s : State} {m : MethodId} {args : Array Value} {below : List Frame} {meth : Method} {c : Code} {T : State} {locs : List Loc} {cells slots : Nat} {Z : State} {a0 : Array Value} {h h' : Heap} {Q : Option Value → Heap → List Loc → Prop} {kc kn : Nat} {a b : Addr} {ty : FieldType} {vs : List Value} {v w : Value} {ws : List Addr} {sl : Nat}
theorem own_cloneI (X : Stand p l e R s m args below meth c T locs cells slots) (hx : p.tables.exec = Jvm.exec) (hZ : Z.Warmed39 s.vm) {own : String} {index : Nat} (hown : s.vm.findClass own = some m.cls)
    (w1 : (Jvm.Cond.methodLink own index ⟨"[I", "clone", "()Ljava/lang/Object;"⟩).before a0 Z = true) (w2 : (Jvm.Cond.sameMethod "[I" "java/lang/Object" "clone" "()Ljava/lang/Object;").before a0 Z = true) (w3 : (Jvm.Cond.native ⟨"java/lang/Object", "clone", "()Ljava/lang/Object;"⟩).before a0 Z = true)
    (w4 : (Jvm.Cond.instanceMethod ⟨"java/lang/Object", "clone", "()Ljava/lang/Object;"⟩).before a0 Z = true) (w5 : (Jvm.Cond.selects "[I" ⟨"[I", "clone", "()Ljava/lang/Object;"⟩ ⟨"java/lang/Object", "clone", "()Ljava/lang/Object;"⟩).before a0 Z = true) (w6 : (Jvm.Cond.castable "[I" "java/lang/Cloneable").before a0 Z = true)
    (eT : T.heap = h) {xs : List Int32} (F : own_Ar Z h a .int (xs.map Value.int)) (E : Exa Z h a "[I") {pc : Nat} {Ls : Array Slot} (hsize : Ls.size = c.maxLocals) {rest : List Value} (hd : decode c.code pc = .ok (.invokevirtual index, 3))
    (hf : 1 ≤ R.frames) {W cap : Nat} (hW : (rest.map fun v => v.category).sum ≤ W) (hl : W + 14 ≤ R.locals) (hcap : xs.length ≤ cap) (hc : cells + 1 ≤ R.cells) (hsl : slots + cap ≤ R.slots)
    (H : ∀ (T' : State) (h' : Heap) (b : Addr), b = h.size → Stand p l e R s m args below meth c T' locs (cells + 1) (slots + cap) → T'.heap = h' → Ext h h' → own_Ar Z h' b .int (xs.map Value.int) → Exa Z h' b "[I" → own_Fin p e below s Q kc kn (T'.setTop (mkF m (pc + 3) Ls (.ref b :: rest)))) :
    own_Fin p e below s Q kc kn (T.setTop (mkF m pc Ls (.ref a :: rest))) := by
  obtain ⟨cl, A, q1, q2⟩ := F
  have FC : FitC Z cl := fitC_of A fun i hi v hv => by
    rw [q1] at hv
    simp only [List.getElem?_toArray, List.getElem?_map, Option.map_eq_some_iff] at hv
    obtain ⟨x, -, rfl⟩ := hv; rfl
  obtain ⟨T', h', X', e', ex, A', E', st⟩ := cloneA X hx hZ hown w1 w2 w3 w4 w5 w6 eT A E FC (g := mkF m pc Ls (.ref a :: rest)) rfl hsize rfl hd hf (W := W) (by show 2 * 0 + _ ≤ _; omega) hl (cap := cap) (by rw [q1]; simpa using hcap) hc hsl
  exact own_go st (H _ _ _ rfl X' e' ex ⟨_, A', q1, q2⟩ E')
theorem own_Ar.arvI {xs : List Int32} (F : own_Ar Z h a .int (xs.map Value.int)) : ∃ k, Arv Z h a k .int (Int32.ofNat xs.length) (xs.map Value.int) (.int 0) := by
  obtain ⟨cl, A, q1, q2⟩ := F
  have q2' : xs.length < 2 ^ 31 := by simpa using q2
  have e1 : (Int32.ofNat xs.length).toNatClampNeg = xs.length := Int32.toNatClampNeg_ofNat_of_lt q2'
  refine ⟨cl.cls, cl, A, rfl, by rw [q1, e1]; simp, ?_, fun i hi => ?_, fun i hi => ?_⟩
  · rw [Int32.lt_iff_toInt_lt, Int32.toInt_ofNat_of_lt q2']; show ¬ (xs.length : Int) < 0; omega
  · rw [q1] at hi ⊢
    have hi' : i < xs.length := by simpa using hi
    simp [List.getD_eq_getElem?_getD, hi']
  · rw [q1] at hi
    have hi' : i < xs.length := by simpa using hi
    simp [List.getD_eq_getElem?_getD, hi', fits]
theorem own_of_arvI {xs : List Int32} {k : ClassId} {n : Int32} {d : Value} (F : Arv Z h a k .int n (xs.map Value.int) d) (hn : n.toNatClampNeg = xs.length) : own_Ar Z h a .int (xs.map Value.int) := by
  obtain ⟨cl, A, -, S, q3, H, -⟩ := F
  have hl : n.toNatClampNeg < 2 ^ 31 := (back32 q3).2
  refine ⟨cl, A, ?_, by simpa [← hn] using hl⟩
  apply Array.ext_getElem?
  intro i
  by_cases hi : i < cl.slots.size
  · rw [H i hi]
    have hi' : i < xs.length := by rw [← hn, ← S]; exact hi
    simp [List.getD_eq_getElem?_getD, hi']
  · rw [Array.getElem?_eq_none (by omega)]
    symm
    rw [List.getElem?_toArray, List.getElem?_eq_none]
    rw [List.length_map, ← hn, ← S]; omega
theorem own_copyI (X : Stand p l e R s m args below meth c T locs cells slots) (hx : p.tables.exec = Jvm.exec) (hZ : Z.Warmed39 s.vm) {own : String} {index : Nat} (hown : s.vm.findClass own = some m.cls)
    (w1 : (Jvm.Cond.methodLink own index Jvm.Stand.acN).before a0 Z = true) (w2 : (Jvm.Cond.native Jvm.Stand.acN).before a0 Z = true) (w3 : (Jvm.Cond.static Jvm.Stand.acN).before a0 Z = true) (w4 : (Jvm.Cond.initialized "java/lang/System").before a0 Z = true) (eT : T.heap = h)
    {xs ys : List Int32} (F : own_Ar Z h a .int (xs.map Value.int)) (G : own_Ar Z h b .int (ys.map Value.int)) {nn : Int32} {n0 : Nat} (h3 : ¬ nn < 0) (h4 : nn.toNatClampNeg ≤ xs.length) (h5 : nn.toNatClampNeg ≤ ys.length) (N : Fr n0 locs) (ge : n0 ≤ b)
    {pc : Nat} {Ls : Array Slot} (hsize : Ls.size = c.maxLocals) {rest : List Value} (hd : decode c.code pc = .ok (.invokestatic index, 3))
    (hf : 1 ≤ R.frames) {W : Nat} (hW : (rest.map fun v => v.category).sum ≤ W) (hlo : W + (nativeFrameWords "java/lang/System" "arraycopy" 5 + 11) ≤ R.locals)
    (H : ∀ (T' : State) (h' : Heap) (L : List Loc), Stand p l e R s m args below meth c T' L cells slots → T'.heap = h' → Fr n0 L → Keep h h' [b] → own_Ar Z h' b .int ((xs.take nn.toNatClampNeg ++ ys.drop nn.toNatClampNeg).map Value.int) → own_Fin p e below s Q kc kn (T'.setTop (mkF m (pc + 3) Ls rest))) :
    own_Fin p e below s Q kc kn (T.setTop (mkF m pc Ls (.int nn :: .int (0 : Int32) :: .ref b :: .int (0 : Int32) :: .ref a :: rest))) := by
  have lx : xs.length < 2 ^ 31 := by simpa using F.len
  have ly : ys.length < 2 ^ 31 := by simpa using G.len
  have ex : (Int32.ofNat xs.length).toNatClampNeg = xs.length := Int32.toNatClampNeg_ofNat_of_lt lx
  have ey : (Int32.ofNat ys.length).toNatClampNeg = ys.length := Int32.toNatClampNeg_ofNat_of_lt ly
  have e0 : (0 : Int32).toNatClampNeg = 0 := by decide
  obtain ⟨k1, A⟩ := F.arvI
  obtain ⟨k2, B⟩ := G.arvI
  obtain ⟨T', h', L, X', e', N', K', V', st⟩ := cpA X hx hZ hown w1 w2 w3 w4 eT A B (sp := 0) (dp := 0) (nn := nn) (us := (xs.take nn.toNatClampNeg).map Value.int) (Or.inl ⟨rfl, rfl⟩) (by decide) (by decide) h3 (by rw [e0, ex]; omega) (by rw [e0, ey]; omega) (by
      rw [e0]
      apply List.ext_getElem?
      intro i
      by_cases hi : i < nn.toNatClampNeg
      · have hi' : i < xs.length := by omega
        simp [List.getElem?_take, hi, List.getD_eq_getElem?_getD, hi']
      · simp [List.getElem?_take, hi]) (by rw [e0]; simpa using h5) N ge (g := mkF m pc Ls (.int nn :: .int (0 : Int32) :: .ref b :: .int (0 : Int32) :: .ref a :: rest)) rfl hsize rfl hd hf (W := W) (by show 2 * 0 + _ ≤ _; omega) hlo
  refine own_go st (H _ _ _ X' e' N' K' ?_)
  refine own_of_arvI (n := Int32.ofNat ys.length) (k := k2) (d := .int 0) ?_ ?_
  · rw [e0] at V'
    simpa [List.map_append, List.map_take, List.map_drop] using V'
  · rw [ey]; simp; omega
end OwnArr2

section OwnObj
variable {p : Program} {l : Launch} {e : Env} {R : Room} {s : State} {m : MethodId} {args : Array Value} {below : List Frame} {meth : Method} {c : Code} {T : State} {locs : List Loc} {cells slots : Nat} {Z : State} {a0 : Array Value} {h h' : Heap} {Q : Option Value → Heap → List Loc → Prop} {kc kn : Nat} {a b : Addr} {v w : Value} {ws : List Addr} {sl : Nat}
theorem own_callP (X : Stand p l e R s m args below meth c T locs cells slots) (hx : p.tables.exec = Jvm.exec) (hZ : Z.Warmed39 s.vm) {own : String} {index : Nat} {y : MethodName} {bytes : ByteArray} {maxL : Nat} {ret : Option FieldType} {rm : Room} {as' : Array Value} {Q' : Option Value → Heap → List Loc → Prop}
    (hown : s.vm.findClass own = some m.cls) (w1 : (Jvm.Cond.methodLink own index y).before a0 Z = true) (w2 : (Jvm.Cond.instanceMethod y).before a0 Z = true) (w3 : (Jvm.Cond.selects y.cls y y).before a0 Z = true) (w4 : (Jvm.Cond.privateMethod y).before a0 Z = true) (w5 : (Jvm.Cond.code y bytes maxL ret).before a0 Z = true) (w6 : (Jvm.Cond.initialized y.cls).before a0 Z = true) (hy : y.cls ≠ "java/lang/invoke/MethodHandle" ∧ y.cls ≠ "java/lang/invoke/VarHandle")
    (hM : own_Met l y bytes maxL ret rm Z [] as' h Q') (eT : T.heap = h) {a : Addr} {C : String} (E : Exa Z h a C) {pc : Nat} {Ls : Array Slot} {st argsL rest : List Value} (hst : st = argsL.reverse ++ .ref a :: rest) (has : (.ref a :: argsL).toArray = as') (hsize : Ls.size = c.maxLocals) (hlen : ∀ sig, parseMethodDescriptor y.desc = some sig → argsL.length = sig.parameters.length)
    (hd : decode c.code pc = .ok (.invokevirtual index, 3)) {W : Nat} (hW : (rest.map fun v => v.category).sum ≤ W) (hf : rm.frames + 1 ≤ R.frames) (hl : W + (maxL + 11) + rm.locals ≤ R.locals) (hc : cells + rm.cells ≤ R.cells) (hs : slots + rm.slots ≤ R.slots)
    (H : ∀ (v : Option Value) (T' : State) (L : List Loc), Stand p l e R s m args below meth c T' (locs ++ L) (cells + rm.cells) (slots + rm.slots) → Q' v T'.heap L → own_Fin p e below s Q kc kn (T'.setTop (mkF m (pc + 3) Ls (v.toList ++ rest)))) :
    own_Fin p e below s Q kc kn (T.setTop (mkF m pc Ls st)) := by
  subst hst
  obtain ⟨cq, q1, q2⟩ := E.cell
  obtain ⟨v, _, ⟨T', L', k', n'⟩, -, X', ⟨Lc, hQ, l1, y1, z1⟩, st⟩ := X.privateBack hx (y := y) hown (mvT hZ w1) (mvT hZ w2) (mvT hZ w3) (Cond.privateMethod_at (mvP hZ w4 (args := #[]))) (mvT hZ w5) hy (backOf (W := W) hM hZ w5 w6 hf hl) (g := mkF m pc Ls (argsL.reverse ++ .ref a :: rest)) rfl hsize (Steps.refl _) (a := a) (by rw [eT]; exact q1) q2 hlen rfl (by show 2 * 0 + _ ≤ _; omega) hd (fun _ _ => ⟨has, eT, hc, hs⟩)
  dsimp only [Pt.U, Pt.locs, Pt.cells, Pt.slots] at X' l1 y1 z1 st hQ
  subst l1 y1 z1
  exact own_go (fun _ k => st.trans k) (H _ _ _ X' hQ)
theorem own_callI (X : Stand p l e R s m args below meth c T locs cells slots) (hx : p.tables.exec = Jvm.exec) (hZ : Z.Warmed39 s.vm) {own C : String} {index count : Nat} {y z : MethodName} {bytes : ByteArray} {maxL : Nat} {ret : Option FieldType} {rm : Room} {as' : Array Value} {Q' : Option Value → Heap → List Loc → Prop}
    (hown : s.vm.findClass own = some m.cls) (w1 : (Jvm.Cond.methodLink own index y).before a0 Z = true) (w2 : (Jvm.Cond.declares y).before a0 Z = true) (w2' : (Jvm.Cond.interfaceMethod y.cls y.cls y.name y.desc).before a0 Z = true) (hk2 : ((Jvm.Cond.interfaceMethod y.cls y.cls y.name y.desc).onTables && (Jvm.Cond.interfaceMethod y.cls y.cls y.name y.desc).keepsFace) = true) (w3 : (Jvm.Cond.selects C y z).before a0 Z = true) (w4 : (Jvm.Cond.instanceMethod z).before a0 Z = true) (w7 : (Jvm.Cond.publicMethod z).before a0 Z = true) (w8 : (Jvm.Cond.unhidden C y.name y.desc).before a0 Z = true) (w9 : (Jvm.Cond.castable C y.cls).before a0 Z = true) (w5 : (Jvm.Cond.code z bytes maxL ret).before a0 Z = true) (w6 : (Jvm.Cond.initialized z.cls).before a0 Z = true) (hy : y.cls ≠ "java/lang/invoke/MethodHandle" ∧ y.cls ≠ "java/lang/invoke/VarHandle")
    (hM : own_Met l z bytes maxL ret rm Z [] as' h Q') (eT : T.heap = h) {a : Addr} (E : Exa Z h a C) {pc : Nat} {Ls : Array Slot} {st argsL rest : List Value} (hst : st = argsL.reverse ++ .ref a :: rest) (has : (.ref a :: argsL).toArray = as') (hsize : Ls.size = c.maxLocals) (hlen : ∀ sig, parseMethodDescriptor y.desc = some sig → argsL.length = sig.parameters.length)
    (hd : decode c.code pc = .ok (.invokeinterface index count, 5)) {W : Nat} (hW : (rest.map fun v => v.category).sum ≤ W) (hf : rm.frames + 1 ≤ R.frames) (hl : W + (maxL + 11) + rm.locals ≤ R.locals) (hc : cells + rm.cells ≤ R.cells) (hs : slots + rm.slots ≤ R.slots)
    (H : ∀ (v : Option Value) (T' : State) (L : List Loc), Stand p l e R s m args below meth c T' (locs ++ L) (cells + rm.cells) (slots + rm.slots) → Q' v T'.heap L → own_Fin p e below s Q kc kn (T'.setTop (mkF m (pc + 5) Ls (v.toList ++ rest)))) :
    own_Fin p e below s Q kc kn (T.setTop (mkF m pc Ls st)) := by
  subst hst
  obtain ⟨cB, kB, q1, q2, q3⟩ := isOf (T := T) hZ eT E
  obtain ⟨v, _, ⟨T', L', k', n'⟩, -, X', ⟨Lc, hQ, l1, y1, z1⟩, st⟩ := X.interfaceBack hx (xi := y) (y := z) hown (mvT hZ w1) (mvT hZ w2) (mvT hZ w2' hk2) (mvT hZ w3) (mvT hZ w4) (mvT hZ w7) (mvT hZ w8) (mvT hZ w9) hy (backOf (W := W) hM hZ w5 w6 hf hl) q1 q2 q3 (g := mkF m pc Ls (argsL.reverse ++ .ref a :: rest)) rfl hsize (Steps.refl _) hlen rfl (by show 2 * 0 + _ ≤ _; omega) hd (fun _ _ => ⟨has, eT, hc, hs⟩)
  dsimp only [Pt.U, Pt.locs, Pt.cells, Pt.slots] at X' l1 y1 z1 st hQ
  subst l1 y1 z1
  exact own_go (fun _ k => st.trans k) (H _ _ _ X' hQ)
/-- an array of n places for objects of the class C -/
def own_OA (Z : State) (h : Heap) (a : Addr) (C : String) (n : Nat) : Prop := ∃ cl : Cell, Arr Z h a cl (.object C) ∧ cl.slots.size = n ∧ Ovr Z cl.cls C
theorem own_OA.lt {n : Nat} {C : String} (F : own_OA Z h a C n) : a < h.size := by obtain ⟨c, A, -⟩ := F; exact A.lt
theorem own_OA.ext {n : Nat} {C : String} (F : own_OA Z h a C n) (E : Ext h h') : own_OA Z h' a C n := by obtain ⟨c, A, r⟩ := F; exact ⟨c, A.ext E, r⟩
theorem own_OA.other {n : Nat} {C : String} (F : own_OA Z h b C n) (W : Wr h h' a sl v) (q : b ≠ a) : own_OA Z h' b C n := by obtain ⟨c, A, r⟩ := F; exact ⟨c, A.other W q, r⟩
theorem own_OA.keep {n : Nat} {C : String} (F : own_OA Z h a C n) (K : Keep h h' ws) (q : a ∉ ws) : own_OA Z h' a C n := by obtain ⟨c, A, r⟩ := F; exact ⟨c, ⟨K.2.1 a c A.1 q, A.2⟩, r⟩
theorem own_OA.set {n : Nat} {C : String} (F : own_OA Z h a C n) (W : Wr h h' a sl v) : own_OA Z h' a C n := by
  obtain ⟨c, A, q1, q2⟩ := F
  exact ⟨_, A.same W, by rw [sz_set]; exact q1, q2⟩
theorem own_aastoreO (X : Stand p l e R s m args below meth c T locs cells slots) (hx : p.tables.exec = Jvm.exec) (hZ : Z.Warmed39 s.vm) (eT : T.heap = h) {n : Nat} {C : String} (F : own_OA Z h a C n) {j : Int32} {y : Addr} (hj : ¬ j < 0) (hi : j.toNatClampNeg < n) (I : Ins Z h y C true) {pc : Nat} {Ls : Array Slot} {rest : List Value} (hd : decode c.code pc = .ok (.aastore, 1))
    (H : ∀ (T' : State) (h' : Heap), Stand p l e R s m args below meth c T' (locs ++ [⟨a, j.toNatClampNeg⟩]) cells slots → T'.heap = h' → Wr h h' a j.toNatClampNeg (.ref y) → own_OA Z h' a C n → own_Fin p e below s Q kc kn (T'.setTop (mkF m (pc + 1) Ls rest))) :
    own_Fin p e below s Q kc kn (T.setTop (mkF m pc Ls (.ref y :: .int j :: .ref a :: rest))) := by
  have F' := F
  obtain ⟨cl, A, q1, q2⟩ := F
  obtain ⟨T', h', X', e', W', st⟩ := stR X hx hZ eT A (j := j) (v := .ref y) (by rw [q1]; exact fun w => w.elim hj fun w => absurd hi (Nat.not_lt.mpr w)) rfl (Sto.of A q2 I) (g := mkF m pc Ls (.ref y :: .int j :: .ref a :: rest)) rfl rfl hd
  exact own_go st (H _ _ X' e' W' (F'.set W'))
theorem own_newO (X : Stand p l e R s m args below meth c T locs cells slots) (hx : p.tables.exec = Jvm.exec) (hZ : Z.Warmed39 s.vm) {own C : String} {index : Nat} (hown : s.vm.findClass own = some m.cls) (w1 : (Jvm.Cond.classLink own index C).before a0 Z = true) (w2 : (Jvm.Cond.arrayOver (.object C)).before a0 Z = true)
    (eT : T.heap = h) {pc : Nat} {Ls : Array Slot} {rest : List Value} (hd : decode c.code pc = .ok (.anewarray index, 3)) {n : Int32} (hn : ¬ n < 0) {cap : Nat} (hcap : n.toNatClampNeg ≤ cap) (hb : cap * 8 ≤ 536870912) (hc : cells + 1 ≤ R.cells) (hl : slots + cap ≤ R.slots) {ad : String} (had : "[" ++ (FieldType.object C).toString = ad)
    (H : ∀ (T' : State) (h' : Heap) (a : Addr), a = h.size → Stand p l e R s m args below meth c T' locs (cells + 1) (slots + cap) → T'.heap = h' → Ext h h' → own_OA Z h' a C n.toNatClampNeg → Exa Z h' a ad → own_Fin p e below s Q kc kn (T'.setTop (mkF m (pc + 3) Ls (.ref a :: rest)))) :
    own_Fin p e below s Q kc kn (T.setTop (mkF m pc Ls (.int n :: rest))) := by
  obtain ⟨T', h', cA, X', e', E', A', D', O', st⟩ := newRE X hx hZ hown w1 w2 eT (g := mkF m pc Ls (.int n :: rest)) rfl hd rfl hn hcap hb hc hl had
  exact own_go st (H _ _ _ rfl X' e' E' ⟨_, A', sz_new _ _ _, O'⟩ D')
end OwnObj

def own_QL (Z : State) (t : Addr) (sz mc : Int32) (ed : Value) (h0 : Heap) (n0 : Nat) (v : Option Value) (h : Heap) (L : List Loc) : Prop := v = none ∧ Fr n0 L ∧ Keep h0 h [t] ∧ Fld Z h t "java/util/ArrayList" "size" "I" (.int sz) ∧ Fld Z h t "java/util/AbstractList" "modCount" "I" (.int mc) ∧ Fld Z h t "java/util/ArrayList" "elementData" "[Ljava/lang/Object;" ed
def own_QG (Z : State) (t : Addr) (rv : Addr → Option Value) (sz mc : Int32) (h0 : Heap) (n0 : Nat) (v : Option Value) (h : Heap) (L : List Loc) : Prop := ∃ r, v = rv r ∧ Fr n0 L ∧ Keep h0 h [t] ∧ h0.size ≤ r ∧ own_OA Z h r "java/lang/Object" 10 ∧ Fld Z h t "java/util/ArrayList" "size" "I" (.int sz) ∧ Fld Z h t "java/util/AbstractList" "modCount" "I" (.int mc) ∧ Fld Z h t "java/util/ArrayList" "elementData" "[Ljava/lang/Object;" (.ref r)
def own_QB (Z : State) (t ed : Addr) (rv : Option Value) (sz mc : Int32) (h0 : Heap) (n0 : Nat) (v : Option Value) (h : Heap) (L : List Loc) : Prop := v = rv ∧ Fr n0 L ∧ Keep h0 h [t, ed] ∧ own_OA Z h ed "java/lang/Object" 10 ∧ Fld Z h t "java/util/ArrayList" "size" "I" (.int sz) ∧ Fld Z h t "java/util/AbstractList" "modCount" "I" (.int mc) ∧ Fld Z h t "java/util/ArrayList" "elementData" "[Ljava/lang/Object;" (.ref ed)

theorem d6_0 : decode jdk_22_method_1_code 0 = .ok (.aload_n 0, 1) := by decide +kernel
theorem d6_1 : decode jdk_22_method_1_code 1 = .ok (.invokespecial 1, 3) := by decide +kernel
theorem d6_4 : decode jdk_22_method_1_code 4 = .ok (.return_, 1) := by decide +kernel
theorem pn_6 : plainFor (⟨"java/util/AbstractCollection", "<init>", "()V"⟩ : MethodName) = true := plainFor_of_name (by show plainName "java/util/AbstractCollection" = true; first | (simp [plainName, overriddenIn]; done) | decide +kernel)
theorem ef_6 (m : MethodId) (x0 : Addr) : entryFrame m #[(.ref x0)] 1 = mkF m 0 #[.val (.ref x0)] [] := by first | (simp [entryFrame, mkF, argsToLocals, Value.category]; done) | rfl
set_option maxRecDepth 65536 in
set_option maxHeartbeats 40000000 in
theorem rm6 (l : Launch) (Z : State) (a0 : Array Value) (hw : ∀ d ∈ tables_1, d.before a0 Z = true) (a0 : Addr) (h0 : Heap) (n0 : Nat) (Z0 : n0 ≤ h0.size) :
    own_Met l (⟨"java/util/AbstractCollection", "<init>", "()V"⟩ : MethodName) jdk_22_method_1_code 1 none ({ frames := 1, cells := 0, slots := 0, locals := 12 } : Room) Z [] #[(.ref a0)] h0 (own_P none h0 n0) := by
  refine own_enter pn_6 ?_
  intro p e s m below meth c s₁ hx hby hml hown hnm hret hlk hZ e0 X0
  rw [ef_6]
  have N0 := Fr.nil n0
  show own_Fin _ _ _ _ _ _ _ (s₁.setTop (mkF m 0 #[.val (.ref a0)] []))
  refine own_go (fun _ kk => XS.aloadN X0.here hx rfl (hb hby d6_0) rfl rfl kk) ?_
  show own_Fin _ _ _ _ _ _ _ (s₁.setTop (mkF m 1 #[.val (.ref a0)] [(.ref a0)]))
  refine own_initO X0 hx hZ hown (hw _ (List.mem_of_getElem? (i := 39) rfl)) (hw _ (List.mem_of_getElem? (i := 8) rfl)) (hw _ (List.mem_of_getElem? (i := 9) rfl)) e0 (by rw [hml]; rfl) (hb hby d6_1) (by decide) (W := 0) (Nat.le_of_eq rfl) (by decide) ?_
  intro T1 X1 e1
  show own_Fin _ _ _ _ _ _ _ (T1.setTop (mkF m 4 #[.val (.ref a0)] []))
  exact own_retV X1 hx hlk hret (hb hby d6_4) (by decide) (by decide) ⟨rfl, N0, e1⟩

theorem d14_0 : decode jdk_29_method_65_code 0 = .ok (.iload_n 0, 1) := by decide +kernel
theorem d14_1 : decode jdk_29_method_65_code 1 = .ok (.iload_n 1, 1) := by decide +kernel
theorem d14_2 : decode jdk_29_method_65_code 2 = .ok (.if_icmp .lt 7, 3) := by decide +kernel
theorem d14_5 : decode jdk_29_method_65_code 5 = .ok (.iload_n 0, 1) := by decide +kernel
theorem d14_6 : decode jdk_29_method_65_code 6 = .ok (.goto 4, 3) := by decide +kernel
theorem d14_9 : decode jdk_29_method_65_code 9 = .ok (.iload_n 1, 1) := by decide +kernel
theorem d14_10 : decode jdk_29_method_65_code 10 = .ok (.ireturn, 1) := by decide +kernel
theorem pn_14 : plainFor (⟨"java/lang/Math", "max", "(II)I"⟩ : MethodName) = true := Jvm.Free.JP.mathPlain rfl (by decide +kernel)
theorem ef_14 (m : MethodId) (x0 : Int32) (x1 : Int32) : entryFrame m #[(.int x0), (.int x1)] 2 = mkF m 0 #[.val (.int x0), .val (.int x1)] [] := by first | (simp [entryFrame, mkF, argsToLocals, Value.category]; done) | rfl
def own_f14 (p0 : Int32) (p1 : Int32) : Int32 :=
  if p0 < p1 then
    p1
  else
    p0
set_option maxRecDepth 65536 in
set_option maxHeartbeats 40000000 in
theorem rm14 (l : Launch) (Z : State) (a0 : Array Value) (hw : ∀ d ∈ tables_1, d.before a0 Z = true) (p0 : Int32) (p1 : Int32) (h0 : Heap) (n0 : Nat) (Z0 : n0 ≤ h0.size) :
    own_Met l (⟨"java/lang/Math", "max", "(II)I"⟩ : MethodName) jdk_29_method_65_code 2 (some .int) ({ frames := 0, cells := 0, slots := 0, locals := 0 } : Room) Z [] #[(.int p0), (.int p1)] h0 (own_P (some (.int (own_f14 p0 p1))) h0 n0) := by
  refine own_enter pn_14 ?_
  intro p e s m below meth c s₁ hx hby hml hown hnm hret hlk hZ e0 X0
  rw [ef_14]
  have N0 := Fr.nil n0
  show own_Fin _ _ _ _ _ _ _ (s₁.setTop (mkF m 0 #[.val (.int p0), .val (.int p1)] []))
  refine own_go (fun _ kk => XS.iloadN X0.here hx rfl (hb hby d14_0) rfl (XS.iloadN X0.here hx rfl (hb hby d14_1) rfl kk)) ?_
  show own_Fin _ _ _ _ _ _ _ (s₁.setTop (mkF m 2 #[.val (.int p0), .val (.int p1)] [(.int p1), (.int p0)]))
  by_cases hc2 : p0 < p1
  · refine own_go (fun _ kk => XS.icmpYes X0.here hx rfl (pc0 := 2) (pc' := 9) rfl (hb hby d14_2) rfl (XT.ii_lt_t hc2) (by decide) (by decide) (XS.iloadN X0.here hx rfl (hb hby d14_9) rfl kk)) ?_
    show own_Fin _ _ _ _ _ _ _ (s₁.setTop (mkF m 10 #[.val (.int p0), .val (.int p1)] [(.int p1)]))
    exact own_retI X0 hx hlk hret (hb hby d14_10) (by decide) (by decide) ⟨(by rw [own_f14, if_pos hc2]), N0, e0⟩
  · refine own_go (fun _ kk => XS.icmpNo X0.here hx rfl (hb hby d14_2) rfl (XT.ii_lt_f hc2) (XS.iloadN X0.here hx rfl (hb hby d14_5) rfl (XS.goto X0.here hx rfl (pc0 := 6) (pc' := 10) rfl (hb hby d14_6) (by decide) (by decide) kk))) ?_
    show own_Fin _ _ _ _ _ _ _ (s₁.setTop (mkF m 10 #[.val (.int p0), .val (.int p1)] [(.int p0)]))
    exact own_retI X0 hx hlk hret (hb hby d14_10) (by decide) (by decide) ⟨(by rw [own_f14, if_neg hc2]), N0, e0⟩

theorem d7_0 : decode jdk_29_method_70_code 0 = .ok (.lload_n 0, 1) := by decide +kernel
theorem d7_1 : decode jdk_29_method_70_code 1 = .ok (.lload_n 2, 1) := by decide +kernel
theorem d7_2 : decode jdk_29_method_70_code 2 = .ok (.lcmp, 1) := by decide +kernel
theorem d7_3 : decode jdk_29_method_70_code 3 = .ok (.ifCond .gt 7, 3) := by decide +kernel
theorem d7_6 : decode jdk_29_method_70_code 6 = .ok (.lload_n 0, 1) := by decide +kernel
theorem d7_7 : decode jdk_29_method_70_code 7 = .ok (.goto 4, 3) := by decide +kernel
theorem d7_10 : decode jdk_29_method_70_code 10 = .ok (.lload_n 2, 1) := by decide +kernel
theorem d7_11 : decode jdk_29_method_70_code 11 = .ok (.lreturn, 1) := by decide +kernel
theorem pn_7 : plainFor (⟨"java/lang/Math", "min", "(JJ)J"⟩ : MethodName) = true := Jvm.Free.JP.mathPlain rfl (by decide +kernel)
theorem ef_7 (m : MethodId) (x0 : Int64) (x1 : Int64) : entryFrame m #[(.long x0), (.long x1)] 4 = mkF m 0 #[.val (.long x0), .second, .val (.long x1), .second] [] := by first | (simp [entryFrame, mkF, argsToLocals, Value.category]; done) | rfl
def own_f7 (q0 : Int64) (q1 : Int64) : Int64 :=
  if q1 < q0 then
    q1
  else
    q0
set_option maxRecDepth 65536 in
set_option maxHeartbeats 40000000 in
theorem rm7 (l : Launch) (Z : State) (a0 : Array Value) (hw : ∀ d ∈ tables_1, d.before a0 Z = true) (q0 : Int64) (q1 : Int64) (h0 : Heap) (n0 : Nat) (Z0 : n0 ≤ h0.size) :
    own_Met l (⟨"java/lang/Math", "min", "(JJ)J"⟩ : MethodName) jdk_29_method_70_code 4 (some .long) ({ frames := 0, cells := 0, slots := 0, locals := 0 } : Room) Z [] #[(.long q0), (.long q1)] h0 (own_P (some (.long (own_f7 q0 q1))) h0 n0) := by
  refine own_enter pn_7 ?_
  intro p e s m below meth c s₁ hx hby hml hown hnm hret hlk hZ e0 X0
  rw [ef_7]
  have N0 := Fr.nil n0
  show own_Fin _ _ _ _ _ _ _ (s₁.setTop (mkF m 0 #[.val (.long q0), .second, .val (.long q1), .second] []))
  refine own_go (fun _ kk => XS.lloadN X0.here hx rfl (hb hby d7_0) rfl (XS.lloadN X0.here hx rfl (hb hby d7_1) rfl (XT.lcmp X0.here hx rfl (hb hby d7_2) rfl kk))) ?_
  show own_Fin _ _ _ _ _ _ _ (s₁.setTop (mkF m 3 #[.val (.long q0), .second, .val (.long q1), .second] [(.int (XT.cmpL q0 q1))]))
  by_cases hc3 : q1 < q0
  · refine own_go (fun _ kk => XS.ifYes X0.here hx rfl (pc0 := 3) (pc' := 10) rfl (hb hby d7_3) rfl (XT.ll_gt_t hc3) (by decide) (by decide) (XS.lloadN X0.here hx rfl (hb hby d7_10) rfl kk)) ?_
    show own_Fin _ _ _ _ _ _ _ (s₁.setTop (mkF m 11 #[.val (.long q0), .second, .val (.long q1), .second] [(.long q1)]))
    exact own_retJ X0 hx hlk hret (hb hby d7_11) (by decide) (by decide) ⟨(by rw [own_f7, if_pos hc3]), N0, e0⟩
  · refine own_go (fun _ kk => XS.ifNo X0.here hx rfl (hb hby d7_3) rfl (XT.ll_gt_f hc3) (XS.lloadN X0.here hx rfl (hb hby d7_6) rfl (XS.goto X0.here hx rfl (pc0 := 7) (pc' := 11) rfl (hb hby d7_7) (by decide) (by decide) kk))) ?_
    show own_Fin _ _ _ _ _ _ _ (s₁.setTop (mkF m 11 #[.val (.long q0), .second, .val (.long q1), .second] [(.long q0)]))
    exact own_retJ X0 hx hlk hret (hb hby d7_11) (by decide) (by decide) ⟨(by rw [own_f7, if_neg hc3]), N0, e0⟩

theorem d5_0 : decode jdk_39_method_1_code 0 = .ok (.aload_n 0, 1) := by decide +kernel
theorem d5_1 : decode jdk_39_method_1_code 1 = .ok (.invokespecial 1, 3) := by decide +kernel
theorem d5_4 : decode jdk_39_method_1_code 4 = .ok (.aload_n 0, 1) := by decide +kernel
theorem d5_5 : decode jdk_39_method_1_code 5 = .ok (.iconst 0, 1) := by decide +kernel
theorem d5_6 : decode jdk_39_method_1_code 6 = .ok (.putfield 7, 3) := by decide +kernel
theorem d5_9 : decode jdk_39_method_1_code 9 = .ok (.return_, 1) := by decide +kernel
theorem pd_5_0 : parseMethodDescriptor "()V" = some ⟨[], none⟩ := by decide +kernel
theorem pn_5 : plainFor (⟨"java/util/AbstractList", "<init>", "()V"⟩ : MethodName) = true := plainFor_of_name (by show plainName "java/util/AbstractList" = true; first | (simp [plainName, overriddenIn]; done) | decide +kernel)
theorem ef_5 (m : MethodId) (x0 : Addr) : entryFrame m #[(.ref x0)] 1 = mkF m 0 #[.val (.ref x0)] [] := by first | (simp [entryFrame, mkF, argsToLocals, Value.category]; done) | rfl
set_option maxRecDepth 65536 in
set_option maxHeartbeats 40000000 in
theorem rm5 (l : Launch) (Z : State) (a0 : Array Value) (hw : ∀ d ∈ tables_1, d.before a0 Z = true) (t0 : Addr) (h0 : Heap) (n0 : Nat) (Z0 : n0 ≤ h0.size) (E_t0 : Exa Z h0 t0 "java/util/ArrayList") (Fs_t0 : Fld Z h0 t0 "java/util/ArrayList" "size" "I" (.int (0 : Int32))) (Fm_t0 : Fld Z h0 t0 "java/util/AbstractList" "modCount" "I" (.int (0 : Int32))) (Fe_t0 : Fld Z h0 t0 "java/util/ArrayList" "elementData" "[Ljava/lang/Object;" .null) (g_t0 : n0 ≤ t0) :
    own_Met l (⟨"java/util/AbstractList", "<init>", "()V"⟩ : MethodName) jdk_39_method_1_code 1 none ({ frames := 2, cells := 0, slots := 0, locals := 24 } : Room) Z [] #[(.ref t0)] h0 (own_QL Z t0 (0 : Int32) (0 : Int32) .null h0 n0) := by
  refine own_enter pn_5 ?_
  intro p e s m below meth c s₁ hx hby hml hown hnm hret hlk hZ e0 X0
  rw [ef_5]
  have N0 := Fr.nil n0
  show own_Fin _ _ _ _ _ _ _ (s₁.setTop (mkF m 0 #[.val (.ref t0)] []))
  refine own_go (fun _ kk => XS.aloadN X0.here hx rfl (hb hby d5_0) rfl rfl kk) ?_
  show own_Fin _ _ _ _ _ _ _ (s₁.setTop (mkF m 1 #[.val (.ref t0)] [(.ref t0)]))
  refine own_callN X0 hx hZ rfl hown (hw _ (List.mem_of_getElem? (i := 33) rfl)) (hw _ (List.mem_of_getElem? (i := 34) rfl)) (hw _ (List.mem_of_getElem? (i := 37) rfl)) (hw _ (List.mem_of_getElem? (i := 38) rfl)) (by decide) (rm6 l Z a0 hw t0 h0 n0 Z0) e0 (a := t0) (argsL := []) (rest := []) rfl rfl (by rw [hml]; rfl) (lenOf pd_5_0 rfl) (hb hby d5_1) (W := 0) (Nat.le_of_eq rfl) (by decide) (by decide) (by decide) (by decide) ?_
  rintro v1 T1 L1 X1 ⟨rfl, M1, e1⟩
  have N1 := Fr.app N0 M1
  show own_Fin _ _ _ _ _ _ _ (T1.setTop (mkF m 4 #[.val (.ref t0)] []))
  refine own_go (fun _ kk => XS.aloadN X1.here hx rfl (hb hby d5_4) rfl rfl (XS.iconst X1.here hx rfl (hb hby d5_5) kk)) ?_
  show own_Fin _ _ _ _ _ _ _ (T1.setTop (mkF m 6 #[.val (.ref t0)] [(.int (0 : Int32)), (.ref t0)]))
  refine own_putF X1 hx hZ hown (host := "") (Or.inl (hw _ (List.mem_of_getElem? (i := 40) rfl))) Via.refl e1 Fm_t0 E_t0 (Or.inl (hw _ (List.mem_of_getElem? (i := 41) rfl))) (hw _ (List.mem_of_getElem? (i := 22) rfl)) (ty := .int) (by decide) rfl rfl (hb hby d5_6) ?_
  intro T2 h2 X2 e2 W2
  have f3 := E_t0.wr W2
  have f4 := Fs_t0.other W2 (Or.inr (slot_ne (Or.inl (hw _ (List.mem_of_getElem? (i := 57) rfl))) (Or.inl (hw _ (List.mem_of_getElem? (i := 41) rfl))) (by decide) (t := .int) (t' := .int) (by decide) (by decide)))
  have f6 := Fe_t0.other W2 (Or.inr (slot_ne (Or.inl (hw _ (List.mem_of_getElem? (i := 44) rfl))) (Or.inl (hw _ (List.mem_of_getElem? (i := 41) rfl))) (by decide) (t := (.array (.object "java/lang/Object"))) (t' := .int) (by decide) (by decide)))
  have Z2 := Nat.le_trans Z0 (Keep.of_wr W2).1
  have K2 := (Keep.refl h0 [t0]).wr W2 (Or.inl (List.mem_of_getElem? (i := 0) rfl))
  have f7 := Fm_t0.same W2
  have N2 := Fr.snoc X2 N1 g_t0
  show own_Fin _ _ _ _ _ _ _ (T2.setTop (mkF m 9 #[.val (.ref t0)] []))
  exact own_retV X2 hx hlk hret (hb hby d5_9) (by decide) (by decide) (by rw [e2]; exact ⟨rfl, N2, K2, f4, f7, f6⟩)

theorem d4_0 : decode jdk_38_method_2_code 0 = .ok (.aload_n 0, 1) := by decide +kernel
theorem d4_1 : decode jdk_38_method_2_code 1 = .ok (.invokespecial 1, 3) := by decide +kernel
theorem d4_4 : decode jdk_38_method_2_code 4 = .ok (.aload_n 0, 1) := by decide +kernel
theorem d4_5 : decode jdk_38_method_2_code 5 = .ok (.getstatic 39, 3) := by decide +kernel
theorem d4_8 : decode jdk_38_method_2_code 8 = .ok (.putfield 9, 3) := by decide +kernel
theorem d4_11 : decode jdk_38_method_2_code 11 = .ok (.return_, 1) := by decide +kernel
theorem pd_4_0 : parseMethodDescriptor "()V" = some ⟨[], none⟩ := by decide +kernel
theorem pn_4 : plainFor (⟨"java/util/ArrayList", "<init>", "()V"⟩ : MethodName) = true := plainFor_of_name (by show plainName "java/util/ArrayList" = true; first | (simp [plainName, overriddenIn]; done) | decide +kernel)
theorem ef_4 (m : MethodId) (x0 : Addr) : entryFrame m #[(.ref x0)] 1 = mkF m 0 #[.val (.ref x0)] [] := by first | (simp [entryFrame, mkF, argsToLocals, Value.category]; done) | rfl
set_option maxRecDepth 65536 in
set_option maxHeartbeats 40000000 in
theorem rm4 (l : Launch) (Z : State) (a0 : Array Value) (hw : ∀ d ∈ tables_1, d.before a0 Z = true) (t0 : Addr) (h0 : Heap) (n0 : Nat) (Z0 : n0 ≤ h0.size) (dE : Addr) (S0 : Sta Z Z.heap "java/util/ArrayList" "DEFAULTCAPACITY_EMPTY_ELEMENTDATA" "[Ljava/lang/Object;" (.ref dE)) (A0 : own_Ar Z Z.heap dE (.object "java/lang/Object") []) (O0 : Old Z n0 h0) (E_t0 : Exa Z h0 t0 "java/util/ArrayList") (Fs_t0 : Fld Z h0 t0 "java/util/ArrayList" "size" "I" (.int (0 : Int32))) (Fm_t0 : Fld Z h0 t0 "java/util/AbstractList" "modCount" "I" (.int (0 : Int32))) (Fe_t0 : Fld Z h0 t0 "java/util/ArrayList" "elementData" "[Ljava/lang/Object;" .null) (g_t0 : n0 ≤ t0) :
    own_Met l (⟨"java/util/ArrayList", "<init>", "()V"⟩ : MethodName) jdk_38_method_2_code 1 none ({ frames := 3, cells := 0, slots := 0, locals := 36 } : Room) Z [] #[(.ref t0)] h0 (own_QL Z t0 (0 : Int32) (0 : Int32) (.ref dE) h0 n0) := by
  refine own_enter pn_4 ?_
  intro p e s m below meth c s₁ hx hby hml hown hnm hret hlk hZ e0 X0
  rw [ef_4]
  have N0 := Fr.nil n0
  show own_Fin _ _ _ _ _ _ _ (s₁.setTop (mkF m 0 #[.val (.ref t0)] []))
  refine own_go (fun _ kk => XS.aloadN X0.here hx rfl (hb hby d4_0) rfl rfl kk) ?_
  show own_Fin _ _ _ _ _ _ _ (s₁.setTop (mkF m 1 #[.val (.ref t0)] [(.ref t0)]))
  refine own_callN X0 hx hZ rfl hown (hw _ (List.mem_of_getElem? (i := 27) rfl)) (hw _ (List.mem_of_getElem? (i := 28) rfl)) (hw _ (List.mem_of_getElem? (i := 31) rfl)) (hw _ (List.mem_of_getElem? (i := 32) rfl)) (by decide) (rm5 l Z a0 hw t0 h0 n0 Z0 E_t0 Fs_t0 Fm_t0 Fe_t0 g_t0) e0 (a := t0) (argsL := []) (rest := []) rfl rfl (by rw [hml]; rfl) (lenOf pd_4_0 rfl) (hb hby d4_1) (W := 0) (Nat.le_of_eq rfl) (by decide) (by decide) (by decide) (by decide) ?_
  rintro v1 T1 L1 X1 ⟨rfl, M1, Kc1, Fs1, Fm1, Fe1⟩
  have N1 := Fr.app N0 M1
  have f2 := O0.keep Kc1 (allS g_t0 all0)
  have f3 := E_t0.keep Kc1
  have Z1 := Nat.le_trans Z0 Kc1.1
  have K1 := (Keep.refl h0 [t0]).trans Kc1 (allS (Or.inl (List.mem_of_getElem? (i := 0) rfl)) all0)
  show own_Fin _ _ _ _ _ _ _ (T1.setTop (mkF m 4 #[.val (.ref t0)] []))
  refine own_go (fun _ kk => XS.aloadN X1.here hx rfl (hb hby d4_4) rfl rfl kk) ?_
  show own_Fin _ _ _ _ _ _ _ (T1.setTop (mkF m 5 #[.val (.ref t0)] [(.ref t0)]))
  refine own_getS X1 hx hZ hown (host := "") (Or.inl (hw _ (List.mem_of_getElem? (i := 42) rfl))) Via.refl rfl (S0.ext f2.2) (hb hby d4_5) ?_
  intro T4 X4 e4
  show own_Fin _ _ _ _ _ _ _ (T4.setTop (mkF m 8 #[.val (.ref t0)] [(.ref dE), (.ref t0)]))
  refine own_putF X4 hx hZ hown (host := "") (Or.inl (hw _ (List.mem_of_getElem? (i := 43) rfl))) Via.refl e4 Fe1 f3 (Or.inl (hw _ (List.mem_of_getElem? (i := 44) rfl))) (hw _ (List.mem_of_getElem? (i := 22) rfl)) (ty := (.array (.object "java/lang/Object"))) (by decide) rfl rfl (hb hby d4_8) ?_
  intro T5 h5 X5 e5 W5
  have f6 := f2.wr W5 g_t0
  have f7 := f3.wr W5
  have f8 := Fs1.other W5 (Or.inr (slot_ne (Or.inl (hw _ (List.mem_of_getElem? (i := 57) rfl))) (Or.inl (hw _ (List.mem_of_getElem? (i := 44) rfl))) (by decide) (t := .int) (t' := (.array (.object "java/lang/Object"))) (by decide) (by decide)))
  have f9 := Fm1.other W5 (Or.inr (slot_ne (Or.inl (hw _ (List.mem_of_getElem? (i := 41) rfl))) (Or.inl (hw _ (List.mem_of_getElem? (i := 44) rfl))) (by decide) (t := .int) (t' := (.array (.object "java/lang/Object"))) (by decide) (by decide)))
  have Z5 := Nat.le_trans Z1 (Keep.of_wr W5).1
  have K5 := K1.wr W5 (Or.inl (List.mem_of_getElem? (i := 0) rfl))
  have f11 := Fe1.same W5
  have N5 := Fr.snoc X5 N1 g_t0
  show own_Fin _ _ _ _ _ _ _ (T5.setTop (mkF m 11 #[.val (.ref t0)] []))
  exact own_retV X5 hx hlk hret (hb hby d4_11) (by decide) (by decide) (by rw [e5]; exact ⟨rfl, N5, K5, f8, f9, f11⟩)

theorem d13_0 : decode jdk_38_method_6_code 0 = .ok (.aload_n 0, 1) := by decide +kernel
theorem d13_1 : decode jdk_38_method_6_code 1 = .ok (.getfield 9, 3) := by decide +kernel
theorem d13_4 : decode jdk_38_method_6_code 4 = .ok (.arraylength, 1) := by decide +kernel
theorem d13_5 : decode jdk_38_method_6_code 5 = .ok (.istore_n 2, 1) := by decide +kernel
theorem d13_6 : decode jdk_38_method_6_code 6 = .ok (.iload_n 2, 1) := by decide +kernel
theorem d13_7 : decode jdk_38_method_6_code 7 = .ok (.ifCond .gt 13, 3) := by decide +kernel
theorem d13_10 : decode jdk_38_method_6_code 10 = .ok (.aload_n 0, 1) := by decide +kernel
theorem d13_11 : decode jdk_38_method_6_code 11 = .ok (.getfield 9, 3) := by decide +kernel
theorem d13_14 : decode jdk_38_method_6_code 14 = .ok (.getstatic 39, 3) := by decide +kernel
theorem d13_17 : decode jdk_38_method_6_code 17 = .ok (.if_acmp .eq 28, 3) := by decide +kernel
theorem d13_45 : decode jdk_38_method_6_code 45 = .ok (.aload_n 0, 1) := by decide +kernel
theorem d13_46 : decode jdk_38_method_6_code 46 = .ok (.bipush 10, 2) := by decide +kernel
theorem d13_48 : decode jdk_38_method_6_code 48 = .ok (.iload_n 1, 1) := by decide +kernel
theorem d13_49 : decode jdk_38_method_6_code 49 = .ok (.invokestatic 79, 3) := by decide +kernel
theorem d13_52 : decode jdk_38_method_6_code 52 = .ok (.anewarray 7, 3) := by decide +kernel
theorem d13_55 : decode jdk_38_method_6_code 55 = .ok (.dup_x1, 1) := by decide +kernel
theorem d13_56 : decode jdk_38_method_6_code 56 = .ok (.putfield 9, 3) := by decide +kernel
theorem d13_59 : decode jdk_38_method_6_code 59 = .ok (.areturn, 1) := by decide +kernel
theorem pd_13_0 : parseMethodDescriptor "(II)I" = some ⟨[.int, .int], some .int⟩ := by decide +kernel
theorem pn_13 : plainFor (⟨"java/util/ArrayList", "grow", "(I)[Ljava/lang/Object;"⟩ : MethodName) = true := plainFor_of_name (by show plainName "java/util/ArrayList" = true; first | (simp [plainName, overriddenIn]; done) | decide +kernel)
theorem ef_13 (m : MethodId) (x0 : Addr) (x1 : Int32) : entryFrame m #[(.ref x0), (.int x1)] 4 = mkF m 0 #[.val (.ref x0), .val (.int x1), .unset, .unset] [] := by first | (simp [entryFrame, mkF, argsToLocals, Value.category]; done) | rfl
set_option maxRecDepth 65536 in
set_option maxHeartbeats 40000000 in
theorem rm13 (l : Launch) (Z : State) (a0 : Array Value) (hw : ∀ d ∈ tables_1, d.before a0 Z = true) (t0 : Addr) (h0 : Heap) (n0 : Nat) (Z0 : n0 ≤ h0.size) (mc : Int32) (dE : Addr) (S0 : Sta Z Z.heap "java/util/ArrayList" "DEFAULTCAPACITY_EMPTY_ELEMENTDATA" "[Ljava/lang/Object;" (.ref dE)) (A0 : own_Ar Z Z.heap dE (.object "java/lang/Object") []) (O0 : Old Z n0 h0) (E_t0 : Exa Z h0 t0 "java/util/ArrayList") (Fs_t0 : Fld Z h0 t0 "java/util/ArrayList" "size" "I" (.int (0 : Int32))) (Fm_t0 : Fld Z h0 t0 "java/util/AbstractList" "modCount" "I" (.int mc)) (Fe_t0 : Fld Z h0 t0 "java/util/ArrayList" "elementData" "[Ljava/lang/Object;" (.ref dE)) (g_t0 : n0 ≤ t0) :
    own_Met l (⟨"java/util/ArrayList", "grow", "(I)[Ljava/lang/Object;"⟩ : MethodName) jdk_38_method_6_code 4 (some (.array (.object "java/lang/Object"))) ({ frames := 1, cells := 1, slots := 10, locals := 14 } : Room) Z [] #[(.ref t0), (.int (1 : Int32))] h0 (own_QG Z t0 (fun r => some (.ref r)) (0 : Int32) mc h0 n0) := by
  refine own_enter pn_13 ?_
  intro p e s m below meth c s₁ hx hby hml hown hnm hret hlk hZ e0 X0
  rw [ef_13]
  have N0 := Fr.nil n0
  show own_Fin _ _ _ _ _ _ _ (s₁.setTop (mkF m 0 #[.val (.ref t0), .val (.int (1 : Int32)), .unset, .unset] []))
  refine own_go (fun _ kk => XS.aloadN X0.here hx rfl (hb hby d13_0) rfl rfl kk) ?_
  show own_Fin _ _ _ _ _ _ _ (s₁.setTop (mkF m 1 #[.val (.ref t0), .val (.int (1 : Int32)), .unset, .unset] [(.ref t0)]))
  refine own_getF X0 hx hZ hown (host := "") (Or.inl (hw _ (List.mem_of_getElem? (i := 43) rfl))) Via.refl e0 Fe_t0 (hb hby d13_1) ?_
  intro T1 X1 e1
  show own_Fin _ _ _ _ _ _ _ (T1.setTop (mkF m 4 #[.val (.ref t0), .val (.int (1 : Int32)), .unset, .unset] [(.ref dE)]))
  refine own_alen X1 hx hZ e1 (A0.ext O0.2) (hb hby d13_4) ?_
  show own_Fin _ _ _ _ _ _ _ (T1.setTop (mkF m 5 #[.val (.ref t0), .val (.int (1 : Int32)), .unset, .unset] [(.int (0 : Int32))]))
  refine own_go (fun _ kk => XS.istoreN X1.here hx rfl (hb hby d13_5) rfl (l' := #[.val (.ref t0), .val (.int (1 : Int32)), .val (.int (0 : Int32)), .unset]) rfl (XS.iloadN X1.here hx rfl (hb hby d13_6) rfl (XS.ifNo X1.here hx rfl (hb hby d13_7) rfl (XT.i0_gt_f (by decide)) (XS.aloadN X1.here hx rfl (hb hby d13_10) rfl rfl kk)))) ?_
  show own_Fin _ _ _ _ _ _ _ (T1.setTop (mkF m 11 #[.val (.ref t0), .val (.int (1 : Int32)), .val (.int (0 : Int32)), .unset] [(.ref t0)]))
  refine own_getF X1 hx hZ hown (host := "") (Or.inl (hw _ (List.mem_of_getElem? (i := 43) rfl))) Via.refl e1 Fe_t0 (hb hby d13_11) ?_
  intro T2 X2 e2
  show own_Fin _ _ _ _ _ _ _ (T2.setTop (mkF m 14 #[.val (.ref t0), .val (.int (1 : Int32)), .val (.int (0 : Int32)), .unset] [(.ref dE)]))
  refine own_getS X2 hx hZ hown (host := "") (Or.inl (hw _ (List.mem_of_getElem? (i := 42) rfl))) Via.refl e2 (S0.ext O0.2) (hb hby d13_14) ?_
  intro T3 X3 e3
  show own_Fin _ _ _ _ _ _ _ (T3.setTop (mkF m 17 #[.val (.ref t0), .val (.int (1 : Int32)), .val (.int (0 : Int32)), .unset] [(.ref dE), (.ref dE)]))
  refine own_go (fun _ kk => XT.acmpYes X3.here hx rfl (pc0 := 17) (pc' := 45) rfl (hb hby d13_17) rfl rfl rfl (XT.aa_eq_t (congrArg Value.ref rfl)) (by decide) (by decide) (XS.aloadN X3.here hx rfl (hb hby d13_45) rfl rfl (XS.bipush X3.here hx rfl (hb hby d13_46) (XS.iloadN X3.here hx rfl (hb hby d13_48) rfl kk)))) ?_
  show own_Fin _ _ _ _ _ _ _ (T3.setTop (mkF m 49 #[.val (.ref t0), .val (.int (1 : Int32)), .val (.int (0 : Int32)), .unset] [(.int (1 : Int32)), (.int (10 : Int32)), (.ref t0)]))
  refine own_callS X3 hx hZ hown (hw _ (List.mem_of_getElem? (i := 92) rfl)) (hw _ (List.mem_of_getElem? (i := 93) rfl)) (hw _ (List.mem_of_getElem? (i := 49) rfl)) (hw _ (List.mem_of_getElem? (i := 94) rfl)) (by decide) (rm14 l Z a0 hw (10 : Int32) (1 : Int32) h0 n0 Z0) e3 (argsL := [(.int (10 : Int32)), (.int (1 : Int32))]) (rest := [(.ref t0)]) rfl rfl (by rw [hml]; rfl) (lenOf pd_13_0 rfl) (hb hby d13_49) (W := 1) (Nat.le_of_eq rfl) (by decide) (by decide) (by decide) (by decide) ?_
  rintro v4 T4 L4 X4 ⟨rfl, M4, e4⟩
  have N4 := Fr.app N0 M4
  show own_Fin _ _ _ _ _ _ _ (T4.setTop (mkF m 52 #[.val (.ref t0), .val (.int (1 : Int32)), .val (.int (0 : Int32)), .unset] [(.int (own_f14 (10 : Int32) (1 : Int32))), (.ref t0)]))
  have hmx : own_f14 (10 : Int32) (1 : Int32) = (10 : Int32) := by decide
  refine own_newO X4 hx hZ hown (hw _ (List.mem_of_getElem? (i := 95) rfl)) (hw _ (List.mem_of_getElem? (i := 96) rfl)) e4 (hb hby d13_52) (by rw [hmx]; decide) (cap := 10) (by rw [hmx]; decide) (by decide) (by decide) (by decide) rfl ?_
  intro T5 h5 b5 g5 X5 e5 E5 A5 D5
  have g_b5 : n0 ≤ b5 := Nat.le_trans Z0 (Nat.le_of_eq g5.symm)
  have ne_t0_b5 : t0 ≠ b5 := Nat.ne_of_lt (Nat.lt_of_lt_of_le E_t0.lt (Nat.le_of_eq g5.symm))
  have f6 := O0.ext E5
  have f7 := E_t0.ext E5
  have f8 := Fs_t0.ext E5
  have f9 := Fm_t0.ext E5
  have f10 := Fe_t0.ext E5
  have Z5 := Nat.le_trans Z0 E5.1
  have sz_b5 : h0.size ≤ b5 := Nat.le_trans (Keep.refl h0 [t0]).1 (Nat.le_of_eq g5.symm)
  have K5 := (Keep.refl h0 [t0]).ext E5
  show own_Fin _ _ _ _ _ _ _ (T5.setTop (mkF m 55 #[.val (.ref t0), .val (.int (1 : Int32)), .val (.int (0 : Int32)), .unset] [(.ref b5), (.ref t0)]))
  refine own_go (fun _ kk => XS.dupX1 X5.here hx rfl (hb hby d13_55) rfl rfl rfl kk) ?_
  show own_Fin _ _ _ _ _ _ _ (T5.setTop (mkF m 56 #[.val (.ref t0), .val (.int (1 : Int32)), .val (.int (0 : Int32)), .unset] [(.ref b5), (.ref t0), (.ref b5)]))
  refine own_putF X5 hx hZ hown (host := "") (Or.inl (hw _ (List.mem_of_getElem? (i := 43) rfl))) Via.refl e5 f10 f7 (Or.inl (hw _ (List.mem_of_getElem? (i := 44) rfl))) (hw _ (List.mem_of_getElem? (i := 22) rfl)) (ty := (.array (.object "java/lang/Object"))) (by decide) rfl rfl (hb hby d13_56) ?_
  intro T11 h11 X11 e11 W11
  have f12 := f6.wr W11 g_t0
  have f13 := f7.wr W11
  have f14 := f8.other W11 (Or.inr (slot_ne (Or.inl (hw _ (List.mem_of_getElem? (i := 57) rfl))) (Or.inl (hw _ (List.mem_of_getElem? (i := 44) rfl))) (by decide) (t := .int) (t' := (.array (.object "java/lang/Object"))) (by decide) (by decide)))
  have f15 := f9.other W11 (Or.inr (slot_ne (Or.inl (hw _ (List.mem_of_getElem? (i := 41) rfl))) (Or.inl (hw _ (List.mem_of_getElem? (i := 44) rfl))) (by decide) (t := .int) (t' := (.array (.object "java/lang/Object"))) (by decide) (by decide)))
  have f17 := D5.wr W11
  have f18 := A5.other W11 (Ne.symm ne_t0_b5)
  have Z11 := Nat.le_trans Z5 (Keep.of_wr W11).1
  have K11 := K5.wr W11 (Or.inl (List.mem_of_getElem? (i := 0) rfl))
  have f19 := f10.same W11
  have N11 := Fr.snoc X11 N4 g_t0
  show own_Fin _ _ _ _ _ _ _ (T11.setTop (mkF m 59 #[.val (.ref t0), .val (.int (1 : Int32)), .val (.int (0 : Int32)), .unset] [(.ref b5)]))
  exact own_retA X11 hx hlk hret rfl rfl (hb hby d13_59) (by decide) (by decide) (by rw [e11]; exact ⟨b5, rfl, N11, K11, sz_b5, (by have q := f18; rw [hmx] at q; exact q), f14, f15, f19⟩)

theorem d12_0 : decode jdk_38_method_7_code 0 = .ok (.aload_n 0, 1) := by decide +kernel
theorem d12_1 : decode jdk_38_method_7_code 1 = .ok (.aload_n 0, 1) := by decide +kernel
theorem d12_2 : decode jdk_38_method_7_code 2 = .ok (.getfield 48, 3) := by decide +kernel
theorem d12_5 : decode jdk_38_method_7_code 5 = .ok (.iconst 1, 1) := by decide +kernel
theorem d12_6 : decode jdk_38_method_7_code 6 = .ok (.iadd, 1) := by decide +kernel
theorem d12_7 : decode jdk_38_method_7_code 7 = .ok (.invokevirtual 69, 3) := by decide +kernel
theorem d12_10 : decode jdk_38_method_7_code 10 = .ok (.areturn, 1) := by decide +kernel
theorem pd_12_0 : parseMethodDescriptor "(I)[Ljava/lang/Object;" = some ⟨[.int], some (.array (.object "java/lang/Object"))⟩ := by decide +kernel
theorem pn_12 : plainFor (⟨"java/util/ArrayList", "grow", "()[Ljava/lang/Object;"⟩ : MethodName) = true := plainFor_of_name (by show plainName "java/util/ArrayList" = true; first | (simp [plainName, overriddenIn]; done) | decide +kernel)
theorem ef_12 (m : MethodId) (x0 : Addr) : entryFrame m #[(.ref x0)] 1 = mkF m 0 #[.val (.ref x0)] [] := by first | (simp [entryFrame, mkF, argsToLocals, Value.category]; done) | rfl
set_option maxRecDepth 65536 in
set_option maxHeartbeats 40000000 in
theorem rm12 (l : Launch) (Z : State) (a0 : Array Value) (hw : ∀ d ∈ tables_1, d.before a0 Z = true) (t0 : Addr) (h0 : Heap) (n0 : Nat) (Z0 : n0 ≤ h0.size) (mc : Int32) (dE : Addr) (S0 : Sta Z Z.heap "java/util/ArrayList" "DEFAULTCAPACITY_EMPTY_ELEMENTDATA" "[Ljava/lang/Object;" (.ref dE)) (A0 : own_Ar Z Z.heap dE (.object "java/lang/Object") []) (O0 : Old Z n0 h0) (E_t0 : Exa Z h0 t0 "java/util/ArrayList") (Fs_t0 : Fld Z h0 t0 "java/util/ArrayList" "size" "I" (.int (0 : Int32))) (Fm_t0 : Fld Z h0 t0 "java/util/AbstractList" "modCount" "I" (.int mc)) (Fe_t0 : Fld Z h0 t0 "java/util/ArrayList" "elementData" "[Ljava/lang/Object;" (.ref dE)) (g_t0 : n0 ≤ t0) :
    own_Met l (⟨"java/util/ArrayList", "grow", "()[Ljava/lang/Object;"⟩ : MethodName) jdk_38_method_7_code 1 (some (.array (.object "java/lang/Object"))) ({ frames := 2, cells := 1, slots := 10, locals := 29 } : Room) Z [] #[(.ref t0)] h0 (own_QG Z t0 (fun r => some (.ref r)) (0 : Int32) mc h0 n0) := by
  refine own_enter pn_12 ?_
  intro p e s m below meth c s₁ hx hby hml hown hnm hret hlk hZ e0 X0
  rw [ef_12]
  have N0 := Fr.nil n0
  show own_Fin _ _ _ _ _ _ _ (s₁.setTop (mkF m 0 #[.val (.ref t0)] []))
  refine own_go (fun _ kk => XS.aloadN X0.here hx rfl (hb hby d12_0) rfl rfl (XS.aloadN X0.here hx rfl (hb hby d12_1) rfl rfl kk)) ?_
  show own_Fin _ _ _ _ _ _ _ (s₁.setTop (mkF m 2 #[.val (.ref t0)] [(.ref t0), (.ref t0)]))
  refine own_getF X0 hx hZ hown (host := "") (Or.inl (hw _ (List.mem_of_getElem? (i := 56) rfl))) Via.refl e0 Fs_t0 (hb hby d12_2) ?_
  intro T1 X1 e1
  show own_Fin _ _ _ _ _ _ _ (T1.setTop (mkF m 5 #[.val (.ref t0)] [(.int (0 : Int32)), (.ref t0)]))
  refine own_go (fun _ kk => XS.iconst X1.here hx rfl (hb hby d12_5) (XS.iadd X1.here hx rfl (hb hby d12_6) rfl kk)) ?_
  show own_Fin _ _ _ _ _ _ _ (T1.setTop (mkF m 7 #[.val (.ref t0)] [(.int (1 : Int32)), (.ref t0)]))
  refine own_callP X1 hx hZ hown (hw _ (List.mem_of_getElem? (i := 87) rfl)) (hw _ (List.mem_of_getElem? (i := 88) rfl)) (hw _ (List.mem_of_getElem? (i := 90) rfl)) (hw _ (List.mem_of_getElem? (i := 89) rfl)) (hw _ (List.mem_of_getElem? (i := 91) rfl)) (hw _ (List.mem_of_getElem? (i := 23) rfl)) (by decide) (rm13 l Z a0 hw t0 h0 n0 Z0 mc dE S0 A0 O0 E_t0 Fs_t0 Fm_t0 Fe_t0 g_t0) e1 E_t0 (argsL := [(.int (1 : Int32))]) (rest := []) rfl rfl (by rw [hml]; rfl) (lenOf pd_12_0 rfl) (hb hby d12_7) (W := 0) (Nat.le_of_eq rfl) (by decide) (by decide) (by decide) (by decide) ?_
  rintro v2 T2 L2 X2 ⟨r2, rfl, M2, Kc2, sz2, OA2, Fs2, Fm2, Fe2⟩
  have N2 := Fr.app N0 M2
  have szr2 := Nat.le_trans (Keep.refl h0 [t0]).1 sz2
  have g_r2 : n0 ≤ r2 := Nat.le_trans Z0 sz2
  have ne_t0_r2 : t0 ≠ r2 := Nat.ne_of_lt (Nat.lt_of_lt_of_le E_t0.lt sz2)
  have f3 := O0.keep Kc2 (allS g_t0 all0)
  have f4 := E_t0.keep Kc2
  have Z2 := Nat.le_trans Z0 Kc2.1
  have K2 := (Keep.refl h0 [t0]).trans Kc2 (allS (Or.inl (List.mem_of_getElem? (i := 0) rfl)) all0)
  show own_Fin _ _ _ _ _ _ _ (T2.setTop (mkF m 10 #[.val (.ref t0)] [(.ref r2)]))
  exact own_retA X2 hx hlk hret rfl rfl (hb hby d12_10) (by decide) (by decide) ⟨r2, rfl, N2, K2, szr2, OA2, Fs2, Fm2, Fe2⟩

theorem d11a_0 : decode jdk_38_method_24_code 0 = .ok (.iload_n 3, 1) := by decide +kernel
theorem d11a_1 : decode jdk_38_method_24_code 1 = .ok (.aload_n 2, 1) := by decide +kernel
theorem d11a_2 : decode jdk_38_method_24_code 2 = .ok (.arraylength, 1) := by decide +kernel
theorem d11a_3 : decode jdk_38_method_24_code 3 = .ok (.if_icmp .ne 8, 3) := by decide +kernel
theorem d11a_6 : decode jdk_38_method_24_code 6 = .ok (.aload_n 0, 1) := by decide +kernel
theorem d11a_7 : decode jdk_38_method_24_code 7 = .ok (.invokevirtual 129, 3) := by decide +kernel
theorem d11a_10 : decode jdk_38_method_24_code 10 = .ok (.astore_n 2, 1) := by decide +kernel
theorem d11a_11 : decode jdk_38_method_24_code 11 = .ok (.aload_n 2, 1) := by decide +kernel
theorem d11a_12 : decode jdk_38_method_24_code 12 = .ok (.iload_n 3, 1) := by decide +kernel
theorem d11a_13 : decode jdk_38_method_24_code 13 = .ok (.aload_n 1, 1) := by decide +kernel
theorem d11a_14 : decode jdk_38_method_24_code 14 = .ok (.aastore, 1) := by decide +kernel
theorem d11a_15 : decode jdk_38_method_24_code 15 = .ok (.aload_n 0, 1) := by decide +kernel
theorem d11a_16 : decode jdk_38_method_24_code 16 = .ok (.iload_n 3, 1) := by decide +kernel
theorem d11a_17 : decode jdk_38_method_24_code 17 = .ok (.iconst 1, 1) := by decide +kernel
theorem d11a_18 : decode jdk_38_method_24_code 18 = .ok (.iadd, 1) := by decide +kernel
theorem d11a_19 : decode jdk_38_method_24_code 19 = .ok (.putfield 48, 3) := by decide +kernel
theorem d11a_22 : decode jdk_38_method_24_code 22 = .ok (.return_, 1) := by decide +kernel
theorem pd_11a_0 : parseMethodDescriptor "()[Ljava/lang/Object;" = some ⟨[], some (.array (.object "java/lang/Object"))⟩ := by decide +kernel
theorem pn_11a : plainFor (⟨"java/util/ArrayList", "add", "(Ljava/lang/Object;[Ljava/lang/Object;I)V"⟩ : MethodName) = true := plainFor_of_name (by show plainName "java/util/ArrayList" = true; first | (simp [plainName, overriddenIn]; done) | decide +kernel)
theorem ef_11a (m : MethodId) (x0 : Addr) (x1 : Addr) (x2 : Addr) (x3 : Int32) : entryFrame m #[(.ref x0), (.ref x1), (.ref x2), (.int x3)] 4 = mkF m 0 #[.val (.ref x0), .val (.ref x1), .val (.ref x2), .val (.int x3)] [] := by first | (simp [entryFrame, mkF, argsToLocals, Value.category]; done) | rfl
set_option maxRecDepth 65536 in
set_option maxHeartbeats 40000000 in
theorem rm11a (l : Launch) (Z : State) (a0 : Array Value) (hw : ∀ d ∈ tables_1, d.before a0 Z = true) (t0 : Addr) (t1 : Addr) (dE : Addr) (h0 : Heap) (n0 : Nat) (Z0 : n0 ≤ h0.size) (mc : Int32) (S0 : Sta Z Z.heap "java/util/ArrayList" "DEFAULTCAPACITY_EMPTY_ELEMENTDATA" "[Ljava/lang/Object;" (.ref dE)) (A0 : own_Ar Z Z.heap dE (.object "java/lang/Object") []) (O0 : Old Z n0 h0) (E_t0 : Exa Z h0 t0 "java/util/ArrayList") (Fs_t0 : Fld Z h0 t0 "java/util/ArrayList" "size" "I" (.int (0 : Int32))) (Fm_t0 : Fld Z h0 t0 "java/util/AbstractList" "modCount" "I" (.int mc)) (Fe_t0 : Fld Z h0 t0 "java/util/ArrayList" "elementData" "[Ljava/lang/Object;" (.ref dE)) (g_t0 : n0 ≤ t0) (E_t1 : Exa Z h0 t1 "[Lcom/example/tuplelift/tuplelift/model/Term;") :
    own_Met l (⟨"java/util/ArrayList", "add", "(Ljava/lang/Object;[Ljava/lang/Object;I)V"⟩ : MethodName) jdk_38_method_24_code 4 none ({ frames := 3, cells := 1, slots := 10, locals := 41 } : Room) Z [] #[(.ref t0), (.ref t1), (.ref dE), (.int (0 : Int32))] h0 (own_QG Z t0 (fun _ => none) (1 : Int32) mc h0 n0) := by
  refine own_enter pn_11a ?_
  intro p e s m below meth c s₁ hx hby hml hown hnm hret hlk hZ e0 X0
  rw [ef_11a]
  have N0 := Fr.nil n0
  show own_Fin _ _ _ _ _ _ _ (s₁.setTop (mkF m 0 #[.val (.ref t0), .val (.ref t1), .val (.ref dE), .val (.int (0 : Int32))] []))
  refine own_go (fun _ kk => XS.iloadN X0.here hx rfl (hb hby d11a_0) rfl (XS.aloadN X0.here hx rfl (hb hby d11a_1) rfl rfl kk)) ?_
  show own_Fin _ _ _ _ _ _ _ (s₁.setTop (mkF m 2 #[.val (.ref t0), .val (.ref t1), .val (.ref dE), .val (.int (0 : Int32))] [(.ref dE), (.int (0 : Int32))]))
  refine own_alen X0 hx hZ e0 (A0.ext O0.2) (hb hby d11a_2) ?_
  show own_Fin _ _ _ _ _ _ _ (s₁.setTop (mkF m 3 #[.val (.ref t0), .val (.ref t1), .val (.ref dE), .val (.int (0 : Int32))] [(.int (0 : Int32)), (.int (0 : Int32))]))
  refine own_go (fun _ kk => XS.icmpNo X0.here hx rfl (hb hby d11a_3) rfl (XT.ii_ne_f (by decide)) (XS.aloadN X0.here hx rfl (hb hby d11a_6) rfl rfl kk)) ?_
  show own_Fin _ _ _ _ _ _ _ (s₁.setTop (mkF m 7 #[.val (.ref t0), .val (.ref t1), .val (.ref dE), .val (.int (0 : Int32))] [(.ref t0)]))
  refine own_callP X0 hx hZ hown (hw _ (List.mem_of_getElem? (i := 82) rfl)) (hw _ (List.mem_of_getElem? (i := 83) rfl)) (hw _ (List.mem_of_getElem? (i := 85) rfl)) (hw _ (List.mem_of_getElem? (i := 84) rfl)) (hw _ (List.mem_of_getElem? (i := 86) rfl)) (hw _ (List.mem_of_getElem? (i := 23) rfl)) (by decide) (rm12 l Z a0 hw t0 h0 n0 Z0 mc dE S0 A0 O0 E_t0 Fs_t0 Fm_t0 Fe_t0 g_t0) e0 E_t0 (argsL := []) (rest := []) rfl rfl (by rw [hml]; rfl) (lenOf pd_11a_0 rfl) (hb hby d11a_7) (W := 0) (Nat.le_of_eq rfl) (by decide) (by decide) (by decide) (by decide) ?_
  rintro v1 T1 L1 X1 ⟨r1, rfl, M1, Kc1, sz1, OA1, Fs1, Fm1, Fe1⟩
  have N1 := Fr.app N0 M1
  have szr1 := Nat.le_trans (Keep.refl h0 [t0]).1 sz1
  have g_r1 : n0 ≤ r1 := Nat.le_trans Z0 sz1
  have ne_t0_r1 : t0 ≠ r1 := Nat.ne_of_lt (Nat.lt_of_lt_of_le E_t0.lt sz1)
  have ne_t1_r1 : t1 ≠ r1 := Nat.ne_of_lt (Nat.lt_of_lt_of_le E_t1.lt sz1)
  have f2 := O0.keep Kc1 (allS g_t0 all0)
  have f3 := E_t0.keep Kc1
  have f4 := E_t1.keep Kc1
  have Z1 := Nat.le_trans Z0 Kc1.1
  have K1 := (Keep.refl h0 [t0]).trans Kc1 (allS (Or.inl (List.mem_of_getElem? (i := 0) rfl)) all0)
  show own_Fin _ _ _ _ _ _ _ (T1.setTop (mkF m 10 #[.val (.ref t0), .val (.ref t1), .val (.ref dE), .val (.int (0 : Int32))] [(.ref r1)]))
  refine own_go (fun _ kk => XS.astoreN X1.here hx rfl (hb hby d11a_10) rfl rfl (l' := #[.val (.ref t0), .val (.ref t1), .val (.ref r1), .val (.int (0 : Int32))]) rfl (XS.aloadN X1.here hx rfl (hb hby d11a_11) rfl rfl (XS.iloadN X1.here hx rfl (hb hby d11a_12) rfl (XS.aloadN X1.here hx rfl (hb hby d11a_13) rfl rfl kk)))) ?_
  show own_Fin _ _ _ _ _ _ _ (T1.setTop (mkF m 14 #[.val (.ref t0), .val (.ref t1), .val (.ref r1), .val (.int (0 : Int32))] [(.ref t1), (.int (0 : Int32)), (.ref r1)]))
  refine own_aastoreO X1 hx hZ rfl OA1 (by decide) (by decide) (Ins.of_exa f4 (hw _ (List.mem_of_getElem? (i := 97) rfl))) (hb hby d11a_14) ?_
  intro T5 h5 X5 e5 W5 A5
  have f6 := f2.wr W5 g_r1
  have f7 := f3.wr W5
  have f8 := f4.wr W5
  have f9 := Fs1.other W5 (Or.inl ne_t0_r1)
  have f10 := Fm1.other W5 (Or.inl ne_t0_r1)
  have f11 := Fe1.other W5 (Or.inl ne_t0_r1)
  have Z5 := Nat.le_trans Z1 (Keep.of_wr W5).1
  have K5 := K1.wr W5 (Or.inr szr1)
  have N5 := Fr.snoc X5 N1 g_r1
  show own_Fin _ _ _ _ _ _ _ (T5.setTop (mkF m 15 #[.val (.ref t0), .val (.ref t1), .val (.ref r1), .val (.int (0 : Int32))] []))
  refine own_go (fun _ kk => XS.aloadN X5.here hx rfl (hb hby d11a_15) rfl rfl (XS.iloadN X5.here hx rfl (hb hby d11a_16) rfl (XS.iconst X5.here hx rfl (hb hby d11a_17) (XS.iadd X5.here hx rfl (hb hby d11a_18) rfl kk)))) ?_
  show own_Fin _ _ _ _ _ _ _ (T5.setTop (mkF m 19 #[.val (.ref t0), .val (.ref t1), .val (.ref r1), .val (.int (0 : Int32))] [(.int (1 : Int32)), (.ref t0)]))
  refine own_putF X5 hx hZ hown (host := "") (Or.inl (hw _ (List.mem_of_getElem? (i := 56) rfl))) Via.refl e5 f9 f7 (Or.inl (hw _ (List.mem_of_getElem? (i := 57) rfl))) (hw _ (List.mem_of_getElem? (i := 22) rfl)) (ty := .int) (by decide) rfl rfl (hb hby d11a_19) ?_
  intro T13 h13 X13 e13 W13
  have f14 := f6.wr W13 g_t0
  have f15 := f7.wr W13
  have f16 := f8.wr W13
  have f18 := f10.other W13 (Or.inr (slot_ne (Or.inl (hw _ (List.mem_of_getElem? (i := 41) rfl))) (Or.inl (hw _ (List.mem_of_getElem? (i := 57) rfl))) (by decide) (t := .int) (t' := .int) (by decide) (by decide)))
  have f19 := f11.other W13 (Or.inr (slot_ne (Or.inl (hw _ (List.mem_of_getElem? (i := 44) rfl))) (Or.inl (hw _ (List.mem_of_getElem? (i := 57) rfl))) (by decide) (t := (.array (.object "java/lang/Object"))) (t' := .int) (by decide) (by decide)))
  have f20 := A5.other W13 (Ne.symm ne_t0_r1)
  have Z13 := Nat.le_trans Z5 (Keep.of_wr W13).1
  have K13 := K5.wr W13 (Or.inl (List.mem_of_getElem? (i := 0) rfl))
  have f21 := f9.same W13
  have N13 := Fr.snoc X13 N5 g_t0
  show own_Fin _ _ _ _ _ _ _ (T13.setTop (mkF m 22 #[.val (.ref t0), .val (.ref t1), .val (.ref r1), .val (.int (0 : Int32))] []))
  exact own_retV X13 hx hlk hret (hb hby d11a_22) (by decide) (by decide) (by rw [e13]; exact ⟨r1, rfl, N13, K13, szr1, f20, f21, f18, f19⟩)

theorem d11b_0 : decode jdk_38_method_24_code 0 = .ok (.iload_n 3, 1) := by decide +kernel
theorem d11b_1 : decode jdk_38_method_24_code 1 = .ok (.aload_n 2, 1) := by decide +kernel
theorem d11b_2 : decode jdk_38_method_24_code 2 = .ok (.arraylength, 1) := by decide +kernel
theorem d11b_3 : decode jdk_38_method_24_code 3 = .ok (.if_icmp .ne 8, 3) := by decide +kernel
theorem d11b_11 : decode jdk_38_method_24_code 11 = .ok (.aload_n 2, 1) := by decide +kernel
theorem d11b_12 : decode jdk_38_method_24_code 12 = .ok (.iload_n 3, 1) := by decide +kernel
theorem d11b_13 : decode jdk_38_method_24_code 13 = .ok (.aload_n 1, 1) := by decide +kernel
theorem d11b_14 : decode jdk_38_method_24_code 14 = .ok (.aastore, 1) := by decide +kernel
theorem d11b_15 : decode jdk_38_method_24_code 15 = .ok (.aload_n 0, 1) := by decide +kernel
theorem d11b_16 : decode jdk_38_method_24_code 16 = .ok (.iload_n 3, 1) := by decide +kernel
theorem d11b_17 : decode jdk_38_method_24_code 17 = .ok (.iconst 1, 1) := by decide +kernel
theorem d11b_18 : decode jdk_38_method_24_code 18 = .ok (.iadd, 1) := by decide +kernel
theorem d11b_19 : decode jdk_38_method_24_code 19 = .ok (.putfield 48, 3) := by decide +kernel
theorem d11b_22 : decode jdk_38_method_24_code 22 = .ok (.return_, 1) := by decide +kernel
theorem pn_11b : plainFor (⟨"java/util/ArrayList", "add", "(Ljava/lang/Object;[Ljava/lang/Object;I)V"⟩ : MethodName) = true := plainFor_of_name (by show plainName "java/util/ArrayList" = true; first | (simp [plainName, overriddenIn]; done) | decide +kernel)
theorem ef_11b (m : MethodId) (x0 : Addr) (x1 : Addr) (x2 : Addr) (x3 : Int32) : entryFrame m #[(.ref x0), (.ref x1), (.ref x2), (.int x3)] 4 = mkF m 0 #[.val (.ref x0), .val (.ref x1), .val (.ref x2), .val (.int x3)] [] := by first | (simp [entryFrame, mkF, argsToLocals, Value.category]; done) | rfl
set_option maxRecDepth 65536 in
set_option maxHeartbeats 40000000 in
theorem rm11b (l : Launch) (Z : State) (a0 : Array Value) (hw : ∀ d ∈ tables_1, d.before a0 Z = true) (t0 : Addr) (t1 : Addr) (ed : Addr) (p3 : Int32) (h0 : Heap) (n0 : Nat) (Z0 : n0 ≤ h0.size) (mc : Int32) (OA0 : own_OA Z h0 ed "java/lang/Object" 10) (ne0 : t0 ≠ ed) (g_ed : n0 ≤ ed) (hk0 : ¬ p3 < 0) (hk1 : p3.toNatClampNeg < 10) (hk2 : ¬ p3 = (10 : Int32)) (O0 : Old Z n0 h0) (E_t0 : Exa Z h0 t0 "java/util/ArrayList") (Fs_t0 : Fld Z h0 t0 "java/util/ArrayList" "size" "I" (.int p3)) (Fm_t0 : Fld Z h0 t0 "java/util/AbstractList" "modCount" "I" (.int mc)) (Fe_t0 : Fld Z h0 t0 "java/util/ArrayList" "elementData" "[Ljava/lang/Object;" (.ref ed)) (g_t0 : n0 ≤ t0) (E_t1 : Exa Z h0 t1 "[Lcom/example/tuplelift/tuplelift/model/Term;") :
    own_Met l (⟨"java/util/ArrayList", "add", "(Ljava/lang/Object;[Ljava/lang/Object;I)V"⟩ : MethodName) jdk_38_method_24_code 4 none ({ frames := 0, cells := 0, slots := 0, locals := 0 } : Room) Z [] #[(.ref t0), (.ref t1), (.ref ed), (.int p3)] h0 (own_QB Z t0 ed none (p3 + (1 : Int32)) mc h0 n0) := by
  refine own_enter pn_11b ?_
  intro p e s m below meth c s₁ hx hby hml hown hnm hret hlk hZ e0 X0
  rw [ef_11b]
  have N0 := Fr.nil n0
  show own_Fin _ _ _ _ _ _ _ (s₁.setTop (mkF m 0 #[.val (.ref t0), .val (.ref t1), .val (.ref ed), .val (.int p3)] []))
  refine own_go (fun _ kk => XS.iloadN X0.here hx rfl (hb hby d11b_0) rfl (XS.aloadN X0.here hx rfl (hb hby d11b_1) rfl rfl kk)) ?_
  show own_Fin _ _ _ _ _ _ _ (s₁.setTop (mkF m 2 #[.val (.ref t0), .val (.ref t1), .val (.ref ed), .val (.int p3)] [(.ref ed), (.int p3)]))
  obtain ⟨cl, q1, q2, q3⟩ := OA0
  refine own_go (fun t k => X0.arraylength hx (by rw [e0]; exact q1.1) (State.isArrayOf_alike hZ.alike q1.2.1) (g := (mkF m 2 #[.val (.ref t0), .val (.ref t1), .val (.ref ed), .val (.int p3)] [(.ref ed), (.int p3)])) rfl rfl (hb hby d11b_2) t k) ?_
  rw [q2]
  have OA0 : own_OA Z h0 ed "java/lang/Object" 10 := ⟨cl, q1, q2, q3⟩
  show own_Fin _ _ _ _ _ _ _ (s₁.setTop (mkF m 3 #[.val (.ref t0), .val (.ref t1), .val (.ref ed), .val (.int p3)] [(.int (10 : Int32)), (.int p3)]))
  refine own_go (fun _ kk => XS.icmpYes X0.here hx rfl (pc0 := 3) (pc' := 11) rfl (hb hby d11b_3) rfl (XT.ii_ne_t hk2) (by decide) (by decide) (XS.aloadN X0.here hx rfl (hb hby d11b_11) rfl rfl (XS.iloadN X0.here hx rfl (hb hby d11b_12) rfl (XS.aloadN X0.here hx rfl (hb hby d11b_13) rfl rfl kk)))) ?_
  show own_Fin _ _ _ _ _ _ _ (s₁.setTop (mkF m 14 #[.val (.ref t0), .val (.ref t1), .val (.ref ed), .val (.int p3)] [(.ref t1), (.int p3), (.ref ed)]))
  refine own_aastoreO X0 hx hZ e0 OA0 hk0 hk1 (Ins.of_exa E_t1 (hw _ (List.mem_of_getElem? (i := 97) rfl))) (hb hby d11b_14) ?_
  intro T1 h1 X1 e1 W1 A1
  have f2 := E_t0.wr W1
  have f3 := Fs_t0.other W1 (Or.inl ne0)
  have f4 := Fm_t0.other W1 (Or.inl ne0)
  have f5 := Fe_t0.other W1 (Or.inl ne0)
  have f6 := E_t1.wr W1
  have f8 := O0.wr W1 g_ed
  have Z1 := Nat.le_trans Z0 (Keep.of_wr W1).1
  have K1 := (Keep.refl h0 [t0, ed]).wr W1 (Or.inl (List.mem_of_getElem? (i := 1) rfl))
  have N1 := Fr.snoc X1 N0 g_ed
  show own_Fin _ _ _ _ _ _ _ (T1.setTop (mkF m 15 #[.val (.ref t0), .val (.ref t1), .val (.ref ed), .val (.int p3)] []))
  refine own_go (fun _ kk => XS.aloadN X1.here hx rfl (hb hby d11b_15) rfl rfl (XS.iloadN X1.here hx rfl (hb hby d11b_16) rfl (XS.iconst X1.here hx rfl (hb hby d11b_17) (XS.iadd X1.here hx rfl (hb hby d11b_18) rfl kk)))) ?_
  show own_Fin _ _ _ _ _ _ _ (T1.setTop (mkF m 19 #[.val (.ref t0), .val (.ref t1), .val (.ref ed), .val (.int p3)] [(.int (p3 + (1 : Int32))), (.ref t0)]))
  refine own_putF X1 hx hZ hown (host := "") (Or.inl (hw _ (List.mem_of_getElem? (i := 56) rfl))) Via.refl e1 f3 f2 (Or.inl (hw _ (List.mem_of_getElem? (i := 57) rfl))) (hw _ (List.mem_of_getElem? (i := 22) rfl)) (ty := .int) (by decide) rfl rfl (hb hby d11b_19) ?_
  intro T9 h9 X9 e9 W9
  have f10 := f2.wr W9
  have f12 := f4.other W9 (Or.inr (slot_ne (Or.inl (hw _ (List.mem_of_getElem? (i := 41) rfl))) (Or.inl (hw _ (List.mem_of_getElem? (i := 57) rfl))) (by decide) (t := .int) (t' := .int) (by decide) (by decide)))
  have f13 := f5.other W9 (Or.inr (slot_ne (Or.inl (hw _ (List.mem_of_getElem? (i := 44) rfl))) (Or.inl (hw _ (List.mem_of_getElem? (i := 57) rfl))) (by decide) (t := (.array (.object "java/lang/Object"))) (t' := .int) (by decide) (by decide)))
  have f14 := f6.wr W9
  have f15 := A1.other W9 (Ne.symm ne0)
  have f16 := f8.wr W9 g_t0
  have Z9 := Nat.le_trans Z1 (Keep.of_wr W9).1
  have K9 := K1.wr W9 (Or.inl (List.mem_of_getElem? (i := 0) rfl))
  have f17 := f3.same W9
  have N9 := Fr.snoc X9 N1 g_t0
  show own_Fin _ _ _ _ _ _ _ (T9.setTop (mkF m 22 #[.val (.ref t0), .val (.ref t1), .val (.ref ed), .val (.int p3)] []))
  exact own_retV X9 hx hlk hret (hb hby d11b_22) (by decide) (by decide) (by rw [e9]; exact ⟨rfl, N9, K9, f15, f17, f12, f13⟩)

theorem d10a_0 : decode jdk_38_method_25_code 0 = .ok (.aload_n 0, 1) := by decide +kernel
theorem d10a_1 : decode jdk_38_method_25_code 1 = .ok (.dup, 1) := by decide +kernel
theorem d10a_2 : decode jdk_38_method_25_code 2 = .ok (.getfield 63, 3) := by decide +kernel
theorem d10a_5 : decode jdk_38_method_25_code 5 = .ok (.iconst 1, 1) := by decide +kernel
theorem d10a_6 : decode jdk_38_method_25_code 6 = .ok (.iadd, 1) := by decide +kernel
theorem d10a_7 : decode jdk_38_method_25_code 7 = .ok (.putfield 63, 3) := by decide +kernel
theorem d10a_10 : decode jdk_38_method_25_code 10 = .ok (.aload_n 0, 1) := by decide +kernel
theorem d10a_11 : decode jdk_38_method_25_code 11 = .ok (.aload_n 1, 1) := by decide +kernel
theorem d10a_12 : decode jdk_38_method_25_code 12 = .ok (.aload_n 0, 1) := by decide +kernel
theorem d10a_13 : decode jdk_38_method_25_code 13 = .ok (.getfield 9, 3) := by decide +kernel
theorem d10a_16 : decode jdk_38_method_25_code 16 = .ok (.aload_n 0, 1) := by decide +kernel
theorem d10a_17 : decode jdk_38_method_25_code 17 = .ok (.getfield 48, 3) := by decide +kernel
theorem d10a_20 : decode jdk_38_method_25_code 20 = .ok (.invokevirtual 131, 3) := by decide +kernel
theorem d10a_23 : decode jdk_38_method_25_code 23 = .ok (.iconst 1, 1) := by decide +kernel
theorem d10a_24 : decode jdk_38_method_25_code 24 = .ok (.ireturn, 1) := by decide +kernel
theorem pd_10a_0 : parseMethodDescriptor "(Ljava/lang/Object;[Ljava/lang/Object;I)V" = some ⟨[(.object "java/lang/Object"), (.array (.object "java/lang/Object")), .int], none⟩ := by decide +kernel
theorem pn_10a : plainFor (⟨"java/util/ArrayList", "add", "(Ljava/lang/Object;)Z"⟩ : MethodName) = true := plainFor_of_name (by show plainName "java/util/ArrayList" = true; first | (simp [plainName, overriddenIn]; done) | decide +kernel)
theorem ef_10a (m : MethodId) (x0 : Addr) (x1 : Addr) : entryFrame m #[(.ref x0), (.ref x1)] 2 = mkF m 0 #[.val (.ref x0), .val (.ref x1)] [] := by first | (simp [entryFrame, mkF, argsToLocals, Value.category]; done) | rfl
set_option maxRecDepth 65536 in
set_option maxHeartbeats 40000000 in
theorem rm10a (l : Launch) (Z : State) (a0 : Array Value) (hw : ∀ d ∈ tables_1, d.before a0 Z = true) (t0 : Addr) (t1 : Addr) (h0 : Heap) (n0 : Nat) (Z0 : n0 ≤ h0.size) (mc : Int32) (dE : Addr) (S0 : Sta Z Z.heap "java/util/ArrayList" "DEFAULTCAPACITY_EMPTY_ELEMENTDATA" "[Ljava/lang/Object;" (.ref dE)) (A0 : own_Ar Z Z.heap dE (.object "java/lang/Object") []) (O0 : Old Z n0 h0) (E_t0 : Exa Z h0 t0 "java/util/ArrayList") (Fs_t0 : Fld Z h0 t0 "java/util/ArrayList" "size" "I" (.int (0 : Int32))) (Fm_t0 : Fld Z h0 t0 "java/util/AbstractList" "modCount" "I" (.int mc)) (Fe_t0 : Fld Z h0 t0 "java/util/ArrayList" "elementData" "[Ljava/lang/Object;" (.ref dE)) (g_t0 : n0 ≤ t0) (E_t1 : Exa Z h0 t1 "[Lcom/example/tuplelift/tuplelift/model/Term;") :
    own_Met l (⟨"java/util/ArrayList", "add", "(Ljava/lang/Object;)Z"⟩ : MethodName) jdk_38_method_25_code 2 (some .boolean) ({ frames := 4, cells := 1, slots := 10, locals := 56 } : Room) Z [] #[(.ref t0), (.ref t1)] h0 (own_QG Z t0 (fun _ => some (.int 1)) (1 : Int32) (mc + (1 : Int32)) h0 n0) := by
  refine own_enter pn_10a ?_
  intro p e s m below meth c s₁ hx hby hml hown hnm hret hlk hZ e0 X0
  rw [ef_10a]
  have N0 := Fr.nil n0
  show own_Fin _ _ _ _ _ _ _ (s₁.setTop (mkF m 0 #[.val (.ref t0), .val (.ref t1)] []))
  refine own_go (fun _ kk => XS.aloadN X0.here hx rfl (hb hby d10a_0) rfl rfl (XS.dup X0.here hx rfl (hb hby d10a_1) rfl rfl kk)) ?_
  show own_Fin _ _ _ _ _ _ _ (s₁.setTop (mkF m 2 #[.val (.ref t0), .val (.ref t1)] [(.ref t0), (.ref t0)]))
  refine own_getF X0 hx hZ hown (host := "") (Or.inl (hw _ (List.mem_of_getElem? (i := 75) rfl))) (Via.of (hw _ (List.mem_of_getElem? (i := 76) rfl))) e0 Fm_t0 (hb hby d10a_2) ?_
  intro T1 X1 e1
  show own_Fin _ _ _ _ _ _ _ (T1.setTop (mkF m 5 #[.val (.ref t0), .val (.ref t1)] [(.int mc), (.ref t0)]))
  refine own_go (fun _ kk => XS.iconst X1.here hx rfl (hb hby d10a_5) (XS.iadd X1.here hx rfl (hb hby d10a_6) rfl kk)) ?_
  show own_Fin _ _ _ _ _ _ _ (T1.setTop (mkF m 7 #[.val (.ref t0), .val (.ref t1)] [(.int (mc + (1 : Int32))), (.ref t0)]))
  refine own_putF X1 hx hZ hown (host := "") (Or.inl (hw _ (List.mem_of_getElem? (i := 75) rfl))) (Via.of (hw _ (List.mem_of_getElem? (i := 76) rfl))) e1 Fm_t0 E_t0 (Or.inl (hw _ (List.mem_of_getElem? (i := 41) rfl))) (hw _ (List.mem_of_getElem? (i := 22) rfl)) (ty := .int) (by decide) rfl rfl (hb hby d10a_7) ?_
  intro T2 h2 X2 e2 W2
  have f3 := O0.wr W2 g_t0
  have f4 := E_t0.wr W2
  have f5 := Fs_t0.other W2 (Or.inr (slot_ne (Or.inl (hw _ (List.mem_of_getElem? (i := 57) rfl))) (Or.inl (hw _ (List.mem_of_getElem? (i := 41) rfl))) (by decide) (t := .int) (t' := .int) (by decide) (by decide)))
  have f7 := Fe_t0.other W2 (Or.inr (slot_ne (Or.inl (hw _ (List.mem_of_getElem? (i := 44) rfl))) (Or.inl (hw _ (List.mem_of_getElem? (i := 41) rfl))) (by decide) (t := (.array (.object "java/lang/Object"))) (t' := .int) (by decide) (by decide)))
  have f8 := E_t1.wr W2
  have Z2 := Nat.le_trans Z0 (Keep.of_wr W2).1
  have K2 := (Keep.refl h0 [t0]).wr W2 (Or.inl (List.mem_of_getElem? (i := 0) rfl))
  have f9 := Fm_t0.same W2
  have N2 := Fr.snoc X2 N0 g_t0
  show own_Fin _ _ _ _ _ _ _ (T2.setTop (mkF m 10 #[.val (.ref t0), .val (.ref t1)] []))
  refine own_go (fun _ kk => XS.aloadN X2.here hx rfl (hb hby d10a_10) rfl rfl (XS.aloadN X2.here hx rfl (hb hby d10a_11) rfl rfl (XS.aloadN X2.here hx rfl (hb hby d10a_12) rfl rfl kk))) ?_
  show own_Fin _ _ _ _ _ _ _ (T2.setTop (mkF m 13 #[.val (.ref t0), .val (.ref t1)] [(.ref t0), (.ref t1), (.ref t0)]))
  refine own_getF X2 hx hZ hown (host := "") (Or.inl (hw _ (List.mem_of_getElem? (i := 43) rfl))) Via.refl e2 f7 (hb hby d10a_13) ?_
  intro T10 X10 e10
  show own_Fin _ _ _ _ _ _ _ (T10.setTop (mkF m 16 #[.val (.ref t0), .val (.ref t1)] [(.ref dE), (.ref t1), (.ref t0)]))
  refine own_go (fun _ kk => XS.aloadN X10.here hx rfl (hb hby d10a_16) rfl rfl kk) ?_
  show own_Fin _ _ _ _ _ _ _ (T10.setTop (mkF m 17 #[.val (.ref t0), .val (.ref t1)] [(.ref t0), (.ref dE), (.ref t1), (.ref t0)]))
  refine own_getF X10 hx hZ hown (host := "") (Or.inl (hw _ (List.mem_of_getElem? (i := 56) rfl))) Via.refl e10 f5 (hb hby d10a_17) ?_
  intro T11 X11 e11
  show own_Fin _ _ _ _ _ _ _ (T11.setTop (mkF m 20 #[.val (.ref t0), .val (.ref t1)] [(.int (0 : Int32)), (.ref dE), (.ref t1), (.ref t0)]))
  refine own_callP X11 hx hZ hown (hw _ (List.mem_of_getElem? (i := 77) rfl)) (hw _ (List.mem_of_getElem? (i := 78) rfl)) (hw _ (List.mem_of_getElem? (i := 80) rfl)) (hw _ (List.mem_of_getElem? (i := 79) rfl)) (hw _ (List.mem_of_getElem? (i := 81) rfl)) (hw _ (List.mem_of_getElem? (i := 23) rfl)) (by decide) (rm11a l Z a0 hw t0 t1 dE h2 n0 Z2 (mc + (1 : Int32)) S0 A0 f3 f4 f5 f9 f7 g_t0 f8) e11 f4 (argsL := [(.ref t1), (.ref dE), (.int (0 : Int32))]) (rest := []) rfl rfl (by rw [hml]; rfl) (lenOf pd_10a_0 rfl) (hb hby d10a_20) (W := 0) (Nat.le_of_eq rfl) (by decide) (by decide) (by decide) (by decide) ?_
  rintro v12 T12 L12 X12 ⟨r12, rfl, M12, Kc12, sz12, OA12, Fs12, Fm12, Fe12⟩
  have N12 := Fr.app N2 M12
  have szr12 := Nat.le_trans K2.1 sz12
  have g_r12 : n0 ≤ r12 := Nat.le_trans Z2 sz12
  have ne_t0_r12 : t0 ≠ r12 := Nat.ne_of_lt (Nat.lt_of_lt_of_le f4.lt sz12)
  have ne_t1_r12 : t1 ≠ r12 := Nat.ne_of_lt (Nat.lt_of_lt_of_le f8.lt sz12)
  have f13 := f3.keep Kc12 (allS g_t0 all0)
  have f14 := f4.keep Kc12
  have f15 := f8.keep Kc12
  have Z12 := Nat.le_trans Z2 Kc12.1
  have K12 := K2.trans Kc12 (allS (Or.inl (List.mem_of_getElem? (i := 0) rfl)) all0)
  show own_Fin _ _ _ _ _ _ _ (T12.setTop (mkF m 23 #[.val (.ref t0), .val (.ref t1)] []))
  refine own_go (fun _ kk => XS.iconst X12.here hx rfl (hb hby d10a_23) kk) ?_
  show own_Fin _ _ _ _ _ _ _ (T12.setTop (mkF m 24 #[.val (.ref t0), .val (.ref t1)] [(.int (1 : Int32))]))
  exact own_retZ X12 hx hlk hret rfl (hb hby d10a_24) (by decide) (by decide) ⟨r12, rfl, N12, K12, szr12, OA12, Fs12, Fm12, Fe12⟩

theorem d10b_0 : decode jdk_38_method_25_code 0 = .ok (.aload_n 0, 1) := by decide +kernel
theorem d10b_1 : decode jdk_38_method_25_code 1 = .ok (.dup, 1) := by decide +kernel
theorem d10b_2 : decode jdk_38_method_25_code 2 = .ok (.getfield 63, 3) := by decide +kernel
theorem d10b_5 : decode jdk_38_method_25_code 5 = .ok (.iconst 1, 1) := by decide +kernel
theorem d10b_6 : decode jdk_38_method_25_code 6 = .ok (.iadd, 1) := by decide +kernel
theorem d10b_7 : decode jdk_38_method_25_code 7 = .ok (.putfield 63, 3) := by decide +kernel
theorem d10b_10 : decode jdk_38_method_25_code 10 = .ok (.aload_n 0, 1) := by decide +kernel
theorem d10b_11 : decode jdk_38_method_25_code 11 = .ok (.aload_n 1, 1) := by decide +kernel
theorem d10b_12 : decode jdk_38_method_25_code 12 = .ok (.aload_n 0, 1) := by decide +kernel
theorem d10b_13 : decode jdk_38_method_25_code 13 = .ok (.getfield 9, 3) := by decide +kernel
theorem d10b_16 : decode jdk_38_method_25_code 16 = .ok (.aload_n 0, 1) := by decide +kernel
theorem d10b_17 : decode jdk_38_method_25_code 17 = .ok (.getfield 48, 3) := by decide +kernel
theorem d10b_20 : decode jdk_38_method_25_code 20 = .ok (.invokevirtual 131, 3) := by decide +kernel
theorem d10b_23 : decode jdk_38_method_25_code 23 = .ok (.iconst 1, 1) := by decide +kernel
theorem d10b_24 : decode jdk_38_method_25_code 24 = .ok (.ireturn, 1) := by decide +kernel
theorem pd_10b_0 : parseMethodDescriptor "(Ljava/lang/Object;[Ljava/lang/Object;I)V" = some ⟨[(.object "java/lang/Object"), (.array (.object "java/lang/Object")), .int], none⟩ := by decide +kernel
theorem pn_10b : plainFor (⟨"java/util/ArrayList", "add", "(Ljava/lang/Object;)Z"⟩ : MethodName) = true := plainFor_of_name (by show plainName "java/util/ArrayList" = true; first | (simp [plainName, overriddenIn]; done) | decide +kernel)
theorem ef_10b (m : MethodId) (x0 : Addr) (x1 : Addr) : entryFrame m #[(.ref x0), (.ref x1)] 2 = mkF m 0 #[.val (.ref x0), .val (.ref x1)] [] := by first | (simp [entryFrame, mkF, argsToLocals, Value.category]; done) | rfl
set_option maxRecDepth 65536 in
set_option maxHeartbeats 40000000 in
theorem rm10b (l : Launch) (Z : State) (a0 : Array Value) (hw : ∀ d ∈ tables_1, d.before a0 Z = true) (t0 : Addr) (t1 : Addr) (h0 : Heap) (n0 : Nat) (Z0 : n0 ≤ h0.size) (ed : Addr) (p3 : Int32) (mc : Int32) (OA0 : own_OA Z h0 ed "java/lang/Object" 10) (ne0 : t0 ≠ ed) (g_ed : n0 ≤ ed) (hk0 : ¬ p3 < 0) (hk1 : p3.toNatClampNeg < 10) (hk2 : ¬ p3 = (10 : Int32)) (O0 : Old Z n0 h0) (E_t0 : Exa Z h0 t0 "java/util/ArrayList") (Fs_t0 : Fld Z h0 t0 "java/util/ArrayList" "size" "I" (.int p3)) (Fm_t0 : Fld Z h0 t0 "java/util/AbstractList" "modCount" "I" (.int mc)) (Fe_t0 : Fld Z h0 t0 "java/util/ArrayList" "elementData" "[Ljava/lang/Object;" (.ref ed)) (g_t0 : n0 ≤ t0) (E_t1 : Exa Z h0 t1 "[Lcom/example/tuplelift/tuplelift/model/Term;") :
    own_Met l (⟨"java/util/ArrayList", "add", "(Ljava/lang/Object;)Z"⟩ : MethodName) jdk_38_method_25_code 2 (some .boolean) ({ frames := 1, cells := 0, slots := 0, locals := 15 } : Room) Z [] #[(.ref t0), (.ref t1)] h0 (own_QB Z t0 ed (some (.int 1)) (p3 + (1 : Int32)) (mc + (1 : Int32)) h0 n0) := by
  refine own_enter pn_10b ?_
  intro p e s m below meth c s₁ hx hby hml hown hnm hret hlk hZ e0 X0
  rw [ef_10b]
  have N0 := Fr.nil n0
  show own_Fin _ _ _ _ _ _ _ (s₁.setTop (mkF m 0 #[.val (.ref t0), .val (.ref t1)] []))
  refine own_go (fun _ kk => XS.aloadN X0.here hx rfl (hb hby d10b_0) rfl rfl (XS.dup X0.here hx rfl (hb hby d10b_1) rfl rfl kk)) ?_
  show own_Fin _ _ _ _ _ _ _ (s₁.setTop (mkF m 2 #[.val (.ref t0), .val (.ref t1)] [(.ref t0), (.ref t0)]))
  refine own_getF X0 hx hZ hown (host := "") (Or.inl (hw _ (List.mem_of_getElem? (i := 75) rfl))) (Via.of (hw _ (List.mem_of_getElem? (i := 76) rfl))) e0 Fm_t0 (hb hby d10b_2) ?_
  intro T1 X1 e1
  show own_Fin _ _ _ _ _ _ _ (T1.setTop (mkF m 5 #[.val (.ref t0), .val (.ref t1)] [(.int mc), (.ref t0)]))
  refine own_go (fun _ kk => XS.iconst X1.here hx rfl (hb hby d10b_5) (XS.iadd X1.here hx rfl (hb hby d10b_6) rfl kk)) ?_
  show own_Fin _ _ _ _ _ _ _ (T1.setTop (mkF m 7 #[.val (.ref t0), .val (.ref t1)] [(.int (mc + (1 : Int32))), (.ref t0)]))
  refine own_putF X1 hx hZ hown (host := "") (Or.inl (hw _ (List.mem_of_getElem? (i := 75) rfl))) (Via.of (hw _ (List.mem_of_getElem? (i := 76) rfl))) e1 Fm_t0 E_t0 (Or.inl (hw _ (List.mem_of_getElem? (i := 41) rfl))) (hw _ (List.mem_of_getElem? (i := 22) rfl)) (ty := .int) (by decide) rfl rfl (hb hby d10b_7) ?_
  intro T2 h2 X2 e2 W2
  have f3 := E_t0.wr W2
  have f4 := Fs_t0.other W2 (Or.inr (slot_ne (Or.inl (hw _ (List.mem_of_getElem? (i := 57) rfl))) (Or.inl (hw _ (List.mem_of_getElem? (i := 41) rfl))) (by decide) (t := .int) (t' := .int) (by decide) (by decide)))
  have f6 := Fe_t0.other W2 (Or.inr (slot_ne (Or.inl (hw _ (List.mem_of_getElem? (i := 44) rfl))) (Or.inl (hw _ (List.mem_of_getElem? (i := 41) rfl))) (by decide) (t := (.array (.object "java/lang/Object"))) (t' := .int) (by decide) (by decide)))
  have f7 := E_t1.wr W2
  have f8 := OA0.other W2 (Ne.symm ne0)
  have f9 := O0.wr W2 g_t0
  have Z2 := Nat.le_trans Z0 (Keep.of_wr W2).1
  have K2 := (Keep.refl h0 [t0, ed]).wr W2 (Or.inl (List.mem_of_getElem? (i := 0) rfl))
  have f10 := Fm_t0.same W2
  have N2 := Fr.snoc X2 N0 g_t0
  show own_Fin _ _ _ _ _ _ _ (T2.setTop (mkF m 10 #[.val (.ref t0), .val (.ref t1)] []))
  refine own_go (fun _ kk => XS.aloadN X2.here hx rfl (hb hby d10b_10) rfl rfl (XS.aloadN X2.here hx rfl (hb hby d10b_11) rfl rfl (XS.aloadN X2.here hx rfl (hb hby d10b_12) rfl rfl kk))) ?_
  show own_Fin _ _ _ _ _ _ _ (T2.setTop (mkF m 13 #[.val (.ref t0), .val (.ref t1)] [(.ref t0), (.ref t1), (.ref t0)]))
  refine own_getF X2 hx hZ hown (host := "") (Or.inl (hw _ (List.mem_of_getElem? (i := 43) rfl))) Via.refl e2 f6 (hb hby d10b_13) ?_
  intro T11 X11 e11
  show own_Fin _ _ _ _ _ _ _ (T11.setTop (mkF m 16 #[.val (.ref t0), .val (.ref t1)] [(.ref ed), (.ref t1), (.ref t0)]))
  refine own_go (fun _ kk => XS.aloadN X11.here hx rfl (hb hby d10b_16) rfl rfl kk) ?_
  show own_Fin _ _ _ _ _ _ _ (T11.setTop (mkF m 17 #[.val (.ref t0), .val (.ref t1)] [(.ref t0), (.ref ed), (.ref t1), (.ref t0)]))
  refine own_getF X11 hx hZ hown (host := "") (Or.inl (hw _ (List.mem_of_getElem? (i := 56) rfl))) Via.refl e11 f4 (hb hby d10b_17) ?_
  intro T12 X12 e12
  show own_Fin _ _ _ _ _ _ _ (T12.setTop (mkF m 20 #[.val (.ref t0), .val (.ref t1)] [(.int p3), (.ref ed), (.ref t1), (.ref t0)]))
  refine own_callP X12 hx hZ hown (hw _ (List.mem_of_getElem? (i := 77) rfl)) (hw _ (List.mem_of_getElem? (i := 78) rfl)) (hw _ (List.mem_of_getElem? (i := 80) rfl)) (hw _ (List.mem_of_getElem? (i := 79) rfl)) (hw _ (List.mem_of_getElem? (i := 81) rfl)) (hw _ (List.mem_of_getElem? (i := 23) rfl)) (by decide) (rm11b l Z a0 hw t0 t1 ed p3 h2 n0 Z2 (mc + (1 : Int32)) f8 ne0 g_ed hk0 hk1 hk2 f9 f3 f4 f10 f6 g_t0 f7) e12 f3 (argsL := [(.ref t1), (.ref ed), (.int p3)]) (rest := []) rfl rfl (by rw [hml]; rfl) (lenOf pd_10b_0 rfl) (hb hby d10b_20) (W := 0) (Nat.le_of_eq rfl) (by decide) (by decide) (by decide) (by decide) ?_
  rintro v13 T13 L13 X13 ⟨rfl, M13, Kc13, OA13, Fs13, Fm13, Fe13⟩
  have N13 := Fr.app N2 M13
  have f14 := f3.keep Kc13
  have f15 := f7.keep Kc13
  have f16 := f9.keep Kc13 (allS g_t0 (allS g_ed all0))
  have Z13 := Nat.le_trans Z2 Kc13.1
  have K13 := K2.trans Kc13 (allS (Or.inl (List.mem_of_getElem? (i := 0) rfl)) (allS (Or.inl (List.mem_of_getElem? (i := 1) rfl)) all0))
  show own_Fin _ _ _ _ _ _ _ (T13.setTop (mkF m 23 #[.val (.ref t0), .val (.ref t1)] []))
  refine own_go (fun _ kk => XS.iconst X13.here hx rfl (hb hby d10b_23) kk) ?_
  show own_Fin _ _ _ _ _ _ _ (T13.setTop (mkF m 24 #[.val (.ref t0), .val (.ref t1)] [(.int (1 : Int32))]))
  exact own_retZ X13 hx hlk hret rfl (hb hby d10b_24) (by decide) (by decide) ⟨rfl, N13, K13, OA13, Fs13, Fm13, Fe13⟩

def own_QS (Z : State) (t : Addr) (q1 q2 : Int64) (h0 : Heap) (n0 : Nat) (v : Option Value) (h : Heap) (L : List Loc) : Prop := v = none ∧ Fr n0 L ∧ Keep h0 h [t] ∧ Fld Z h t "com/example/tuplelift/tuplelift/service/Pipeline$Sliced" "offset" "J" (.long q1) ∧ Fld Z h t "com/example/tuplelift/tuplelift/service/Pipeline$Sliced" "limit" "J" (.long q2) ∧ Fld Z h t "com/example/tuplelift/tuplelift/service/Pipeline$Sliced" "skipped" "J" (.long (0 : Int64)) ∧ Fld Z h t "com/example/tuplelift/tuplelift/service/Pipeline$Sliced" "passed" "J" (.long (0 : Int64))
theorem d1_0 : decode prog_116_method_1_code 0 = .ok (.aload_n 0, 1) := by decide +kernel
theorem d1_1 : decode prog_116_method_1_code 1 = .ok (.invokespecial 1, 3) := by decide +kernel
theorem d1_4 : decode prog_116_method_1_code 4 = .ok (.aload_n 0, 1) := by decide +kernel
theorem d1_5 : decode prog_116_method_1_code 5 = .ok (.lload_n 1, 1) := by decide +kernel
theorem d1_6 : decode prog_116_method_1_code 6 = .ok (.putfield 7, 3) := by decide +kernel
theorem d1_9 : decode prog_116_method_1_code 9 = .ok (.aload_n 0, 1) := by decide +kernel
theorem d1_10 : decode prog_116_method_1_code 10 = .ok (.lload_n 3, 1) := by decide +kernel
theorem d1_11 : decode prog_116_method_1_code 11 = .ok (.putfield 13, 3) := by decide +kernel
theorem d1_14 : decode prog_116_method_1_code 14 = .ok (.return_, 1) := by decide +kernel
theorem pn_1 : plainFor (⟨"com/example/tuplelift/tuplelift/service/Pipeline$Sliced", "<init>", "(JJ)V"⟩ : MethodName) = true := plainFor_of_name (by show plainName "com/example/tuplelift/tuplelift/service/Pipeline$Sliced" = true; first | (simp [plainName, overriddenIn]; done) | decide +kernel)
theorem ef_1 (m : MethodId) (x0 : Addr) (x1 : Int64) (x2 : Int64) : entryFrame m #[(.ref x0), (.long x1), (.long x2)] 5 = mkF m 0 #[.val (.ref x0), .val (.long x1), .second, .val (.long x2), .second] [] := by first | (simp [entryFrame, mkF, argsToLocals, Value.category]; done) | rfl
set_option maxRecDepth 65536 in
set_option maxHeartbeats 40000000 in
theorem rm1 (l : Launch) (Z : State) (a0 : Array Value) (hw : ∀ d ∈ tables_1, d.before a0 Z = true) (t0 : Addr) (q1 : Int64) (q2 : Int64) (h0 : Heap) (n0 : Nat) (Z0 : n0 ≤ h0.size) (E_t0 : Exa Z h0 t0 "com/example/tuplelift/tuplelift/service/Pipeline$Sliced") (F_offset : Fld Z h0 t0 "com/example/tuplelift/tuplelift/service/Pipeline$Sliced" "offset" "J" (.long (0 : Int64))) (F_limit : Fld Z h0 t0 "com/example/tuplelift/tuplelift/service/Pipeline$Sliced" "limit" "J" (.long (0 : Int64))) (F_skipped : Fld Z h0 t0 "com/example/tuplelift/tuplelift/service/Pipeline$Sliced" "skipped" "J" (.long (0 : Int64))) (F_passed : Fld Z h0 t0 "com/example/tuplelift/tuplelift/service/Pipeline$Sliced" "passed" "J" (.long (0 : Int64))) (g_t0 : n0 ≤ t0) :
    own_Met l (⟨"com/example/tuplelift/tuplelift/service/Pipeline$Sliced", "<init>", "(JJ)V"⟩ : MethodName) prog_116_method_1_code 5 none ({ frames := 1, cells := 0, slots := 0, locals := 12 } : Room) Z [] #[(.ref t0), (.long q1), (.long q2)] h0 (own_QS Z t0 q1 q2 h0 n0) := by
  refine own_enter pn_1 ?_
  intro p e s m below meth c s₁ hx hby hml hown hnm hret hlk hZ e0 X0
  rw [ef_1]
  have N0 := Fr.nil n0
  show own_Fin _ _ _ _ _ _ _ (s₁.setTop (mkF m 0 #[.val (.ref t0), .val (.long q1), .second, .val (.long q2), .second] []))
  refine own_go (fun _ kk => XS.aloadN X0.here hx rfl (hb hby d1_0) rfl rfl kk) ?_
  show own_Fin _ _ _ _ _ _ _ (s₁.setTop (mkF m 1 #[.val (.ref t0), .val (.long q1), .second, .val (.long q2), .second] [(.ref t0)]))
  refine own_initO X0 hx hZ hown (hw _ (List.mem_of_getElem? (i := 7) rfl)) (hw _ (List.mem_of_getElem? (i := 8) rfl)) (hw _ (List.mem_of_getElem? (i := 9) rfl)) e0 (by rw [hml]; rfl) (hb hby d1_1) (by decide) (W := 0) (Nat.le_of_eq rfl) (by decide) ?_
  intro T1 X1 e1
  show own_Fin _ _ _ _ _ _ _ (T1.setTop (mkF m 4 #[.val (.ref t0), .val (.long q1), .second, .val (.long q2), .second] []))
  refine own_go (fun _ kk => XS.aloadN X1.here hx rfl (hb hby d1_4) rfl rfl (XS.lloadN X1.here hx rfl (hb hby d1_5) rfl kk)) ?_
  show own_Fin _ _ _ _ _ _ _ (T1.setTop (mkF m 6 #[.val (.ref t0), .val (.long q1), .second, .val (.long q2), .second] [(.long q1), (.ref t0)]))
  refine own_putF X1 hx hZ hown (host := "") (Or.inl (hw _ (List.mem_of_getElem? (i := 10) rfl))) Via.refl e1 F_offset E_t0 (Or.inr ⟨(hw _ (List.mem_of_getElem? (i := 11) rfl)), rfl, hnm⟩) (hw _ (List.mem_of_getElem? (i := 2) rfl)) (ty := .long) (by decide) rfl rfl (hb hby d1_6) ?_
  intro T2 h2 X2 e2 W2
  have f3 := E_t0.wr W2
  have f5 := F_limit.other W2 (Or.inr (slot_ne (Or.inr (hw _ (List.mem_of_getElem? (i := 13) rfl))) (Or.inr (hw _ (List.mem_of_getElem? (i := 11) rfl))) (by decide) (t := .long) (t' := .long) (by decide) (by decide)))
  have f6 := F_skipped.other W2 (Or.inr (slot_ne (Or.inl (hw _ (List.mem_of_getElem? (i := 64) rfl))) (Or.inr (hw _ (List.mem_of_getElem? (i := 11) rfl))) (by decide) (t := .long) (t' := .long) (by decide) (by decide)))
  have f7 := F_passed.other W2 (Or.inr (slot_ne (Or.inl (hw _ (List.mem_of_getElem? (i := 20) rfl))) (Or.inr (hw _ (List.mem_of_getElem? (i := 11) rfl))) (by decide) (t := .long) (t' := .long) (by decide) (by decide)))
  have Z2 := Nat.le_trans Z0 (Keep.of_wr W2).1
  have K2 := (Keep.refl h0 [t0]).wr W2 (Or.inl (List.mem_of_getElem? (i := 0) rfl))
  have f8 := F_offset.same W2
  have N2 := Fr.snoc X2 N0 g_t0
  show own_Fin _ _ _ _ _ _ _ (T2.setTop (mkF m 9 #[.val (.ref t0), .val (.long q1), .second, .val (.long q2), .second] []))
  refine own_go (fun _ kk => XS.aloadN X2.here hx rfl (hb hby d1_9) rfl rfl (XS.lloadN X2.here hx rfl (hb hby d1_10) rfl kk)) ?_
  show own_Fin _ _ _ _ _ _ _ (T2.setTop (mkF m 11 #[.val (.ref t0), .val (.long q1), .second, .val (.long q2), .second] [(.long q2), (.ref t0)]))
  refine own_putF X2 hx hZ hown (host := "") (Or.inl (hw _ (List.mem_of_getElem? (i := 12) rfl))) Via.refl e2 f5 f3 (Or.inr ⟨(hw _ (List.mem_of_getElem? (i := 13) rfl)), rfl, hnm⟩) (hw _ (List.mem_of_getElem? (i := 2) rfl)) (ty := .long) (by decide) rfl rfl (hb hby d1_11) ?_
  intro T9 h9 X9 e9 W9
  have f10 := f3.wr W9
  have f11 := f8.other W9 (Or.inr (slot_ne (Or.inr (hw _ (List.mem_of_getElem? (i := 11) rfl))) (Or.inr (hw _ (List.mem_of_getElem? (i := 13) rfl))) (by decide) (t := .long) (t' := .long) (by decide) (by decide)))
  have f13 := f6.other W9 (Or.inr (slot_ne (Or.inl (hw _ (List.mem_of_getElem? (i := 64) rfl))) (Or.inr (hw _ (List.mem_of_getElem? (i := 13) rfl))) (by decide) (t := .long) (t' := .long) (by decide) (by decide)))
  have f14 := f7.other W9 (Or.inr (slot_ne (Or.inl (hw _ (List.mem_of_getElem? (i := 20) rfl))) (Or.inr (hw _ (List.mem_of_getElem? (i := 13) rfl))) (by decide) (t := .long) (t' := .long) (by decide) (by decide)))
  have Z9 := Nat.le_trans Z2 (Keep.of_wr W9).1
  have K9 := K2.wr W9 (Or.inl (List.mem_of_getElem? (i := 0) rfl))
  have f15 := f5.same W9
  have N9 := Fr.snoc X9 N2 g_t0
  show own_Fin _ _ _ _ _ _ _ (T9.setTop (mkF m 14 #[.val (.ref t0), .val (.long q1), .second, .val (.long q2), .second] []))
  exact own_retV X9 hx hlk hret (hb hby d1_14) (by decide) (by decide) (by rw [e9]; exact ⟨rfl, N9, K9, f11, f15, f13, f14⟩)

theorem d3_0 : decode prog_116_method_3_code 0 = .ok (.aload_n 0, 1) := by decide +kernel
theorem d3_1 : decode prog_116_method_3_code 1 = .ok (.getfield 13, 3) := by decide +kernel
theorem d3_4 : decode prog_116_method_3_code 4 = .ok (.lconst 0, 1) := by decide +kernel
theorem d3_5 : decode prog_116_method_3_code 5 = .ok (.lcmp, 1) := by decide +kernel
theorem d3_6 : decode prog_116_method_3_code 6 = .ok (.ifCond .lt 19, 3) := by decide +kernel
theorem d3_9 : decode prog_116_method_3_code 9 = .ok (.aload_n 0, 1) := by decide +kernel
theorem d3_10 : decode prog_116_method_3_code 10 = .ok (.getfield 23, 3) := by decide +kernel
theorem d3_13 : decode prog_116_method_3_code 13 = .ok (.aload_n 0, 1) := by decide +kernel
theorem d3_14 : decode prog_116_method_3_code 14 = .ok (.getfield 13, 3) := by decide +kernel
theorem d3_17 : decode prog_116_method_3_code 17 = .ok (.lcmp, 1) := by decide +kernel
theorem d3_18 : decode prog_116_method_3_code 18 = .ok (.ifCond .lt 7, 3) := by decide +kernel
theorem d3_21 : decode prog_116_method_3_code 21 = .ok (.iconst 1, 1) := by decide +kernel
theorem d3_22 : decode prog_116_method_3_code 22 = .ok (.goto 4, 3) := by decide +kernel
theorem d3_25 : decode prog_116_method_3_code 25 = .ok (.iconst 0, 1) := by decide +kernel
theorem d3_26 : decode prog_116_method_3_code 26 = .ok (.ireturn, 1) := by decide +kernel
theorem pn_3 : plainFor (⟨"com/example/tuplelift/tuplelift/service/Pipeline$Sliced", "full", "()Z"⟩ : MethodName) = true := plainFor_of_name (by show plainName "com/example/tuplelift/tuplelift/service/Pipeline$Sliced" = true; first | (simp [plainName, overriddenIn]; done) | decide +kernel)
theorem ef_3 (m : MethodId) (x0 : Addr) : entryFrame m #[(.ref x0)] 1 = mkF m 0 #[.val (.ref x0)] [] := by first | (simp [entryFrame, mkF, argsToLocals, Value.category]; done) | rfl
def own_f3 (lim : Int64) (pa : Int64) : Int32 :=
  if lim < (0 : Int64) then
    (0 : Int32)
  else
    if pa < lim then
      (0 : Int32)
    else
      (1 : Int32)
set_option maxRecDepth 65536 in
set_option maxHeartbeats 40000000 in
theorem rm3 (l : Launch) (Z : State) (a0 : Array Value) (hw : ∀ d ∈ tables_1, d.before a0 Z = true) (t0 : Addr) (h0 : Heap) (n0 : Nat) (Z0 : n0 ≤ h0.size) (lim pa : Int64) (F_limit : Fld Z h0 t0 "com/example/tuplelift/tuplelift/service/Pipeline$Sliced" "limit" "J" (.long lim)) (F_passed : Fld Z h0 t0 "com/example/tuplelift/tuplelift/service/Pipeline$Sliced" "passed" "J" (.long pa)) :
    own_Met l (⟨"com/example/tuplelift/tuplelift/service/Pipeline$Sliced", "full", "()Z"⟩ : MethodName) prog_116_method_3_code 1 (some .boolean) ({ frames := 0, cells := 0, slots := 0, locals := 0 } : Room) Z [] #[(.ref t0)] h0 (own_P (some (.int (own_f3 lim pa))) h0 n0) := by
  refine own_enter pn_3 ?_
  intro p e s m below meth c s₁ hx hby hml hown hnm hret hlk hZ e0 X0
  rw [ef_3]
  have N0 := Fr.nil n0
  show own_Fin _ _ _ _ _ _ _ (s₁.setTop (mkF m 0 #[.val (.ref t0)] []))
  refine own_go (fun _ kk => XS.aloadN X0.here hx rfl (hb hby d3_0) rfl rfl kk) ?_
  show own_Fin _ _ _ _ _ _ _ (s₁.setTop (mkF m 1 #[.val (.ref t0)] [(.ref t0)]))
  refine own_getF X0 hx hZ hown (host := "") (Or.inl (hw _ (List.mem_of_getElem? (i := 12) rfl))) Via.refl e0 F_limit (hb hby d3_1) ?_
  intro T1 X1 e1
  show own_Fin _ _ _ _ _ _ _ (T1.setTop (mkF m 4 #[.val (.ref t0)] [(.long lim)]))
  refine own_go (fun _ kk => XS.lconst X1.here hx rfl (hb hby d3_4) (XT.lcmp X1.here hx rfl (hb hby d3_5) rfl kk)) ?_
  show own_Fin _ _ _ _ _ _ _ (T1.setTop (mkF m 6 #[.val (.ref t0)] [(.int (XT.cmpL lim (0 : Int64)))]))
  by_cases hc6 : lim < (0 : Int64)
  · refine own_go (fun _ kk => XS.ifYes X1.here hx rfl (pc0 := 6) (pc' := 25) rfl (hb hby d3_6) rfl (XT.ll_lt_t hc6) (by decide) (by decide) (XS.iconst X1.here hx rfl (hb hby d3_25) kk)) ?_
    show own_Fin _ _ _ _ _ _ _ (T1.setTop (mkF m 26 #[.val (.ref t0)] [(.int (0 : Int32))]))
    exact own_retZ X1 hx hlk hret rfl (hb hby d3_26) (by decide) (by decide) ⟨(by rw [own_f3, if_pos hc6]), N0, e1⟩
  · refine own_go (fun _ kk => XS.ifNo X1.here hx rfl (hb hby d3_6) rfl (XT.ll_lt_f hc6) (XS.aloadN X1.here hx rfl (hb hby d3_9) rfl rfl kk)) ?_
    show own_Fin _ _ _ _ _ _ _ (T1.setTop (mkF m 10 #[.val (.ref t0)] [(.ref t0)]))
    refine own_getF X1 hx hZ hown (host := "") (Or.inl (hw _ (List.mem_of_getElem? (i := 19) rfl))) Via.refl e1 F_passed (hb hby d3_10) ?_
    intro T2 X2 e2
    show own_Fin _ _ _ _ _ _ _ (T2.setTop (mkF m 13 #[.val (.ref t0)] [(.long pa)]))
    refine own_go (fun _ kk => XS.aloadN X2.here hx rfl (hb hby d3_13) rfl rfl kk) ?_
    show own_Fin _ _ _ _ _ _ _ (T2.setTop (mkF m 14 #[.val (.ref t0)] [(.ref t0), (.long pa)]))
    refine own_getF X2 hx hZ hown (host := "") (Or.inl (hw _ (List.mem_of_getElem? (i := 12) rfl))) Via.refl e2 F_limit (hb hby d3_14) ?_
    intro T3 X3 e3
    show own_Fin _ _ _ _ _ _ _ (T3.setTop (mkF m 17 #[.val (.ref t0)] [(.long lim), (.long pa)]))
    refine own_go (fun _ kk => XT.lcmp X3.here hx rfl (hb hby d3_17) rfl kk) ?_
    show own_Fin _ _ _ _ _ _ _ (T3.setTop (mkF m 18 #[.val (.ref t0)] [(.int (XT.cmpL pa lim))]))
    by_cases hc18 : pa < lim
    · refine own_go (fun _ kk => XS.ifYes X3.here hx rfl (pc0 := 18) (pc' := 25) rfl (hb hby d3_18) rfl (XT.ll_lt_t hc18) (by decide) (by decide) (XS.iconst X3.here hx rfl (hb hby d3_25) kk)) ?_
      show own_Fin _ _ _ _ _ _ _ (T3.setTop (mkF m 26 #[.val (.ref t0)] [(.int (0 : Int32))]))
      exact own_retZ X3 hx hlk hret rfl (hb hby d3_26) (by decide) (by decide) ⟨(by rw [own_f3, if_neg hc6, if_pos hc18]), N0, e3⟩
    · refine own_go (fun _ kk => XS.ifNo X3.here hx rfl (hb hby d3_18) rfl (XT.ll_lt_f hc18) (XS.iconst X3.here hx rfl (hb hby d3_21) (XS.goto X3.here hx rfl (pc0 := 22) (pc' := 26) rfl (hb hby d3_22) (by decide) (by decide) kk))) ?_
      show own_Fin _ _ _ _ _ _ _ (T3.setTop (mkF m 26 #[.val (.ref t0)] [(.int (1 : Int32))]))
      exact own_retZ X3 hx hlk hret rfl (hb hby d3_26) (by decide) (by decide) ⟨(by rw [own_f3, if_neg hc6, if_neg hc18]), N0, e3⟩

theorem d8_0 : decode jdk_38_method_8_code 0 = .ok (.aload_n 0, 1) := by decide +kernel
theorem d8_1 : decode jdk_38_method_8_code 1 = .ok (.getfield 48, 3) := by decide +kernel
theorem d8_4 : decode jdk_38_method_8_code 4 = .ok (.ireturn, 1) := by decide +kernel
theorem pn_8 : plainFor (⟨"java/util/ArrayList", "size", "()I"⟩ : MethodName) = true := plainFor_of_name (by show plainName "java/util/ArrayList" = true; first | (simp [plainName, overriddenIn]; done) | decide +kernel)
theorem ef_8 (m : MethodId) (x0 : Addr) : entryFrame m #[(.ref x0)] 1 = mkF m 0 #[.val (.ref x0)] [] := by first | (simp [entryFrame, mkF, argsToLocals, Value.category]; done) | rfl
set_option maxRecDepth 65536 in
set_option maxHeartbeats 40000000 in
theorem rm8 (l : Launch) (Z : State) (a0 : Array Value) (hw : ∀ d ∈ tables_1, d.before a0 Z = true) (t0 : Addr) (h0 : Heap) (n0 : Nat) (Z0 : n0 ≤ h0.size) (sz : Int32) (Fs_t0 : Fld Z h0 t0 "java/util/ArrayList" "size" "I" (.int sz)) :
    own_Met l (⟨"java/util/ArrayList", "size", "()I"⟩ : MethodName) jdk_38_method_8_code 1 (some .int) ({ frames := 0, cells := 0, slots := 0, locals := 0 } : Room) Z [] #[(.ref t0)] h0 (own_P (some (.int sz)) h0 n0) := by
  refine own_enter pn_8 ?_
  intro p e s m below meth c s₁ hx hby hml hown hnm hret hlk hZ e0 X0
  rw [ef_8]
  have N0 := Fr.nil n0
  show own_Fin _ _ _ _ _ _ _ (s₁.setTop (mkF m 0 #[.val (.ref t0)] []))
  refine own_go (fun _ kk => XS.aloadN X0.here hx rfl (hb hby d8_0) rfl rfl kk) ?_
  show own_Fin _ _ _ _ _ _ _ (s₁.setTop (mkF m 1 #[.val (.ref t0)] [(.ref t0)]))
  refine own_getF X0 hx hZ hown (host := "") (Or.inl (hw _ (List.mem_of_getElem? (i := 56) rfl))) Via.refl e0 Fs_t0 (hb hby d8_1) ?_
  intro T1 X1 e1
  show own_Fin _ _ _ _ _ _ _ (T1.setTop (mkF m 4 #[.val (.ref t0)] [(.int sz)]))
  exact own_retI X1 hx hlk hret (hb hby d8_4) (by decide) (by decide) ⟨rfl, N0, e1⟩

def own_I (Z : State) (h : Heap) (n0 : Nat) (s al sol dE : Addr) (off lim sk pa : Int64) (sz : Nat) (ed : Addr) : Prop :=
  Exa Z h s "com/example/tuplelift/tuplelift/service/Pipeline$Sliced" ∧ Fld Z h s "com/example/tuplelift/tuplelift/service/Pipeline$Sliced" "offset" "J" (.long off) ∧ Fld Z h s "com/example/tuplelift/tuplelift/service/Pipeline$Sliced" "limit" "J" (.long lim) ∧ Fld Z h s "com/example/tuplelift/tuplelift/service/Pipeline$Sliced" "skipped" "J" (.long sk) ∧ Fld Z h s "com/example/tuplelift/tuplelift/service/Pipeline$Sliced" "passed" "J" (.long pa) ∧
  Exa Z h al "java/util/ArrayList" ∧ Fld Z h al "java/util/ArrayList" "size" "I" (.int (Int32.ofNat sz)) ∧ (∃ mc, Fld Z h al "java/util/AbstractList" "modCount" "I" (.int mc)) ∧
  ((sz = 0 ∧ Fld Z h al "java/util/ArrayList" "elementData" "[Ljava/lang/Object;" (.ref dE)) ∨ (0 < sz ∧ Fld Z h al "java/util/ArrayList" "elementData" "[Ljava/lang/Object;" (.ref ed) ∧ own_OA Z h ed "java/lang/Object" 10 ∧ n0 ≤ ed ∧ s ≠ ed ∧ al ≠ ed ∧ sol ≠ ed)) ∧
  Exa Z h sol "[Lcom/example/tuplelift/tuplelift/model/Term;" ∧ s ≠ al ∧ sol ≠ al ∧ sol ≠ s ∧ n0 ≤ s ∧ n0 ≤ al ∧ n0 ≤ h.size ∧ Old Z n0 h
def own_sk (off sk : Int64) : Int64 := if sk < off then sk + (1 : Int64) else sk
def own_pa (off lim sk pa : Int64) : Int64 := if sk < off then pa else if own_f3 lim pa = 0 then pa + (1 : Int64) else pa
def own_sz (off lim sk pa : Int64) (sz : Nat) : Nat := if sk < off then sz else if own_f3 lim pa = 0 then sz + 1 else sz
def own_Q9 (Z : State) (n0 : Nat) (s sol al dE : Addr) (off lim sk pa : Int64) (sz : Nat) (v : Option Value) (h : Heap) (L : List Loc) : Prop := v = none ∧ Fr n0 L ∧ ∃ ed, own_I Z h n0 s al sol dE off lim (own_sk off sk) (own_pa off lim sk pa) (own_sz off lim sk pa sz) ed
theorem own_ofs (k : Nat) : Int32.ofNat k + (1 : Int32) = Int32.ofNat (k + 1) := by rw [Int32.ofNat_add]; rfl

theorem d9a_0 : decode prog_116_method_2_code 0 = .ok (.aload_n 0, 1) := by decide +kernel
theorem d9a_1 : decode prog_116_method_2_code 1 = .ok (.getfield 16, 3) := by decide +kernel
theorem d9a_4 : decode prog_116_method_2_code 4 = .ok (.aload_n 0, 1) := by decide +kernel
theorem d9a_5 : decode prog_116_method_2_code 5 = .ok (.getfield 7, 3) := by decide +kernel
theorem d9a_8 : decode prog_116_method_2_code 8 = .ok (.lcmp, 1) := by decide +kernel
theorem d9a_9 : decode prog_116_method_2_code 9 = .ok (.ifCond .ge 16, 3) := by decide +kernel
theorem d9a_12 : decode prog_116_method_2_code 12 = .ok (.aload_n 0, 1) := by decide +kernel
theorem d9a_13 : decode prog_116_method_2_code 13 = .ok (.dup, 1) := by decide +kernel
theorem d9a_14 : decode prog_116_method_2_code 14 = .ok (.getfield 16, 3) := by decide +kernel
theorem d9a_17 : decode prog_116_method_2_code 17 = .ok (.lconst 1, 1) := by decide +kernel
theorem d9a_18 : decode prog_116_method_2_code 18 = .ok (.ladd, 1) := by decide +kernel
theorem d9a_19 : decode prog_116_method_2_code 19 = .ok (.putfield 16, 3) := by decide +kernel
theorem d9a_22 : decode prog_116_method_2_code 22 = .ok (.goto 28, 3) := by decide +kernel
theorem d9a_25 : decode prog_116_method_2_code 25 = .ok (.aload_n 0, 1) := by decide +kernel
theorem d9a_26 : decode prog_116_method_2_code 26 = .ok (.invokevirtual 19, 3) := by decide +kernel
theorem d9a_29 : decode prog_116_method_2_code 29 = .ok (.ifCond .ne 21, 3) := by decide +kernel
theorem d9a_32 : decode prog_116_method_2_code 32 = .ok (.aload_n 0, 1) := by decide +kernel
theorem d9a_33 : decode prog_116_method_2_code 33 = .ok (.dup, 1) := by decide +kernel
theorem d9a_34 : decode prog_116_method_2_code 34 = .ok (.getfield 23, 3) := by decide +kernel
theorem d9a_37 : decode prog_116_method_2_code 37 = .ok (.lconst 1, 1) := by decide +kernel
theorem d9a_38 : decode prog_116_method_2_code 38 = .ok (.ladd, 1) := by decide +kernel
theorem d9a_39 : decode prog_116_method_2_code 39 = .ok (.putfield 23, 3) := by decide +kernel
theorem d9a_42 : decode prog_116_method_2_code 42 = .ok (.aload_n 2, 1) := by decide +kernel
theorem d9a_43 : decode prog_116_method_2_code 43 = .ok (.aload_n 1, 1) := by decide +kernel
theorem d9a_44 : decode prog_116_method_2_code 44 = .ok (.invokeinterface 26 2, 5) := by decide +kernel
theorem d9a_49 : decode prog_116_method_2_code 49 = .ok (.pop, 1) := by decide +kernel
theorem d9a_50 : decode prog_116_method_2_code 50 = .ok (.return_, 1) := by decide +kernel
theorem pd_9a_0 : parseMethodDescriptor "()Z" = some ⟨[], some .boolean⟩ := by decide +kernel
theorem pd_9a_1 : parseMethodDescriptor "(Ljava/lang/Object;)Z" = some ⟨[(.object "java/lang/Object")], some .boolean⟩ := by decide +kernel
theorem pn_9a : plainFor (⟨"com/example/tuplelift/tuplelift/service/Pipeline$Sliced", "accept", "([Lcom/example/tuplelift/tuplelift/model/Term;Ljava/util/List;)V"⟩ : MethodName) = true := plainFor_of_name (by show plainName "com/example/tuplelift/tuplelift/service/Pipeline$Sliced" = true; first | (simp [plainName, overriddenIn]; done) | decide +kernel)
theorem ef_9a (m : MethodId) (x0 : Addr) (x1 : Addr) (x2 : Addr) : entryFrame m #[(.ref x0), (.ref x1), (.ref x2)] 3 = mkF m 0 #[.val (.ref x0), .val (.ref x1), .val (.ref x2)] [] := by first | (simp [entryFrame, mkF, argsToLocals, Value.category]; done) | rfl
set_option maxRecDepth 65536 in
set_option maxHeartbeats 40000000 in
theorem rm9a (l : Launch) (Z : State) (a0 : Array Value) (hw : ∀ d ∈ tables_1, d.before a0 Z = true) (t0 : Addr) (t1 : Addr) (t2 : Addr) (h0 : Heap) (n0 : Nat) (Z0 : n0 ≤ h0.size) (mc : Int32) (dE : Addr) (S0 : Sta Z Z.heap "java/util/ArrayList" "DEFAULTCAPACITY_EMPTY_ELEMENTDATA" "[Ljava/lang/Object;" (.ref dE)) (A0 : own_Ar Z Z.heap dE (.object "java/lang/Object") []) (O0 : Old Z n0 h0) (off lim sk pa : Int64) (E_t0 : Exa Z h0 t0 "com/example/tuplelift/tuplelift/service/Pipeline$Sliced") (F_offset : Fld Z h0 t0 "com/example/tuplelift/tuplelift/service/Pipeline$Sliced" "offset" "J" (.long off)) (F_limit : Fld Z h0 t0 "com/example/tuplelift/tuplelift/service/Pipeline$Sliced" "limit" "J" (.long lim)) (F_skipped : Fld Z h0 t0 "com/example/tuplelift/tuplelift/service/Pipeline$Sliced" "skipped" "J" (.long sk)) (F_passed : Fld Z h0 t0 "com/example/tuplelift/tuplelift/service/Pipeline$Sliced" "passed" "J" (.long pa)) (g_t0 : n0 ≤ t0) (E_t1 : Exa Z h0 t1 "[Lcom/example/tuplelift/tuplelift/model/Term;") (n02 : t0 ≠ t2) (n12 : t1 ≠ t2) (n10 : t1 ≠ t0) (E_t2 : Exa Z h0 t2 "java/util/ArrayList") (Fs_t2 : Fld Z h0 t2 "java/util/ArrayList" "size" "I" (.int (0 : Int32))) (Fm_t2 : Fld Z h0 t2 "java/util/AbstractList" "modCount" "I" (.int mc)) (Fe_t2 : Fld Z h0 t2 "java/util/ArrayList" "elementData" "[Ljava/lang/Object;" (.ref dE)) (g_t2 : n0 ≤ t2) :
    own_Met l (⟨"com/example/tuplelift/tuplelift/service/Pipeline$Sliced", "accept", "([Lcom/example/tuplelift/tuplelift/model/Term;Ljava/util/List;)V"⟩ : MethodName) prog_116_method_2_code 3 none ({ frames := 5, cells := 1, slots := 10, locals := 69 } : Room) Z [] #[(.ref t0), (.ref t1), (.ref t2)] h0 (own_Q9 Z n0 t0 t1 t2 dE off lim sk pa 0) := by
  refine own_enter pn_9a ?_
  intro p e s m below meth c s₁ hx hby hml hown hnm hret hlk hZ e0 X0
  rw [ef_9a]
  have N0 := Fr.nil n0
  show own_Fin _ _ _ _ _ _ _ (s₁.setTop (mkF m 0 #[.val (.ref t0), .val (.ref t1), .val (.ref t2)] []))
  refine own_go (fun _ kk => XS.aloadN X0.here hx rfl (hb hby d9a_0) rfl rfl kk) ?_
  show own_Fin _ _ _ _ _ _ _ (s₁.setTop (mkF m 1 #[.val (.ref t0), .val (.ref t1), .val (.ref t2)] [(.ref t0)]))
  refine own_getF X0 hx hZ hown (host := "") (Or.inl (hw _ (List.mem_of_getElem? (i := 63) rfl))) Via.refl e0 F_skipped (hb hby d9a_1) ?_
  intro T1 X1 e1
  show own_Fin _ _ _ _ _ _ _ (T1.setTop (mkF m 4 #[.val (.ref t0), .val (.ref t1), .val (.ref t2)] [(.long sk)]))
  refine own_go (fun _ kk => XS.aloadN X1.here hx rfl (hb hby d9a_4) rfl rfl kk) ?_
  show own_Fin _ _ _ _ _ _ _ (T1.setTop (mkF m 5 #[.val (.ref t0), .val (.ref t1), .val (.ref t2)] [(.ref t0), (.long sk)]))
  refine own_getF X1 hx hZ hown (host := "") (Or.inl (hw _ (List.mem_of_getElem? (i := 10) rfl))) Via.refl e1 F_offset (hb hby d9a_5) ?_
  intro T2 X2 e2
  show own_Fin _ _ _ _ _ _ _ (T2.setTop (mkF m 8 #[.val (.ref t0), .val (.ref t1), .val (.ref t2)] [(.long off), (.long sk)]))
  refine own_go (fun _ kk => XT.lcmp X2.here hx rfl (hb hby d9a_8) rfl kk) ?_
  show own_Fin _ _ _ _ _ _ _ (T2.setTop (mkF m 9 #[.val (.ref t0), .val (.ref t1), .val (.ref t2)] [(.int (XT.cmpL sk off))]))
  by_cases hc9 : sk < off
  · refine own_go (fun _ kk => XS.ifNo X2.here hx rfl (hb hby d9a_9) rfl (XT.ll_ge_f hc9) (XS.aloadN X2.here hx rfl (hb hby d9a_12) rfl rfl (XS.dup X2.here hx rfl (hb hby d9a_13) rfl rfl kk))) ?_
    show own_Fin _ _ _ _ _ _ _ (T2.setTop (mkF m 14 #[.val (.ref t0), .val (.ref t1), .val (.ref t2)] [(.ref t0), (.ref t0)]))
    refine own_getF X2 hx hZ hown (host := "") (Or.inl (hw _ (List.mem_of_getElem? (i := 63) rfl))) Via.refl e2 F_skipped (hb hby d9a_14) ?_
    intro T3 X3 e3
    show own_Fin _ _ _ _ _ _ _ (T3.setTop (mkF m 17 #[.val (.ref t0), .val (.ref t1), .val (.ref t2)] [(.long sk), (.ref t0)]))
    refine own_go (fun _ kk => XS.lconst X3.here hx rfl (hb hby d9a_17) (XS.ladd X3.here hx rfl (hb hby d9a_18) rfl kk)) ?_
    show own_Fin _ _ _ _ _ _ _ (T3.setTop (mkF m 19 #[.val (.ref t0), .val (.ref t1), .val (.ref t2)] [(.long (sk + (1 : Int64))), (.ref t0)]))
    refine own_putF X3 hx hZ hown (host := "") (Or.inl (hw _ (List.mem_of_getElem? (i := 63) rfl))) Via.refl e3 F_skipped E_t0 (Or.inl (hw _ (List.mem_of_getElem? (i := 64) rfl))) (hw _ (List.mem_of_getElem? (i := 2) rfl)) (ty := .long) (by decide) rfl rfl (hb hby d9a_19) ?_
    intro T4 h4 X4 e4 W4
    have f5 := O0.wr W4 g_t0
    have f6 := E_t0.wr W4
    have f7 := E_t1.wr W4
    have f8 := F_offset.other W4 (Or.inr (slot_ne (Or.inr (hw _ (List.mem_of_getElem? (i := 11) rfl))) (Or.inl (hw _ (List.mem_of_getElem? (i := 64) rfl))) (by decide) (t := .long) (t' := .long) (by decide) (by decide)))
    have f9 := F_limit.other W4 (Or.inr (slot_ne (Or.inr (hw _ (List.mem_of_getElem? (i := 13) rfl))) (Or.inl (hw _ (List.mem_of_getElem? (i := 64) rfl))) (by decide) (t := .long) (t' := .long) (by decide) (by decide)))
    have f11 := F_passed.other W4 (Or.inr (slot_ne (Or.inl (hw _ (List.mem_of_getElem? (i := 20) rfl))) (Or.inl (hw _ (List.mem_of_getElem? (i := 64) rfl))) (by decide) (t := .long) (t' := .long) (by decide) (by decide)))
    have f12 := E_t2.wr W4
    have f13 := Fs_t2.other W4 (Or.inl (Ne.symm n02))
    have f14 := Fm_t2.other W4 (Or.inl (Ne.symm n02))
    have f15 := Fe_t2.other W4 (Or.inl (Ne.symm n02))
    have Z4 := Nat.le_trans Z0 (Keep.of_wr W4).1
    have K4 := (Keep.refl h0 [t0, t2]).wr W4 (Or.inl (List.mem_of_getElem? (i := 0) rfl))
    have f16 := F_skipped.same W4
    have N4 := Fr.snoc X4 N0 g_t0
    show own_Fin _ _ _ _ _ _ _ (T4.setTop (mkF m 22 #[.val (.ref t0), .val (.ref t1), .val (.ref t2)] []))
    refine own_go (fun _ kk => XS.goto X4.here hx rfl (pc0 := 22) (pc' := 50) rfl (hb hby d9a_22) (by decide) (by decide) kk) ?_
    show own_Fin _ _ _ _ _ _ _ (T4.setTop (mkF m 50 #[.val (.ref t0), .val (.ref t1), .val (.ref t2)] []))
    exact own_retV X4 hx hlk hret (hb hby d9a_50) (by decide) (by decide) (by rw [e4]; refine ⟨rfl, N4, dE, ?_⟩; rw [own_sk, own_pa, own_sz, if_pos hc9, if_pos hc9, if_pos hc9]; exact ⟨f6, f8, f9, f16, f11, f12, f13, ⟨_, f14⟩, Or.inl ⟨rfl, f15⟩, f7, n02, n12, n10, g_t0, g_t2, Z4, f5⟩)
  · refine own_go (fun _ kk => XS.ifYes X2.here hx rfl (pc0 := 9) (pc' := 25) rfl (hb hby d9a_9) rfl (XT.ll_ge_t hc9) (by decide) (by decide) (XS.aloadN X2.here hx rfl (hb hby d9a_25) rfl rfl kk)) ?_
    show own_Fin _ _ _ _ _ _ _ (T2.setTop (mkF m 26 #[.val (.ref t0), .val (.ref t1), .val (.ref t2)] [(.ref t0)]))
    refine own_callV X2 hx hZ hown (hw _ (List.mem_of_getElem? (i := 65) rfl)) (hw _ (List.mem_of_getElem? (i := 15) rfl)) (notFace_of_selects (args := #[]) (mvT hZ (hw _ (List.mem_of_getElem? (i := 17) rfl)))) (hw _ (List.mem_of_getElem? (i := 17) rfl)) (hw _ (List.mem_of_getElem? (i := 16) rfl)) (hw _ (List.mem_of_getElem? (i := 18) rfl)) (hw _ (List.mem_of_getElem? (i := 3) rfl)) (by decide) (rm3 l Z a0 hw t0 h0 n0 Z0 lim pa F_limit F_passed) e2 E_t0 (argsL := []) (rest := []) rfl rfl (by rw [hml]; rfl) (lenOf pd_9a_0 rfl) (hb hby d9a_26) (W := 0) (Nat.le_of_eq rfl) (by decide) (by decide) (by decide) (by decide) ?_
    rintro v17 T17 L17 X17 ⟨rfl, M17, e17⟩
    have N17 := Fr.app N0 M17
    show own_Fin _ _ _ _ _ _ _ (T17.setTop (mkF m 29 #[.val (.ref t0), .val (.ref t1), .val (.ref t2)] [(.int (own_f3 lim pa))]))
    by_cases hc29 : (own_f3 lim pa) = 0
    · refine own_go (fun _ kk => XS.ifNo X17.here hx rfl (hb hby d9a_29) rfl (XT.i0_ne_f hc29) (XS.aloadN X17.here hx rfl (hb hby d9a_32) rfl rfl (XS.dup X17.here hx rfl (hb hby d9a_33) rfl rfl kk))) ?_
      show own_Fin _ _ _ _ _ _ _ (T17.setTop (mkF m 34 #[.val (.ref t0), .val (.ref t1), .val (.ref t2)] [(.ref t0), (.ref t0)]))
      refine own_getF X17 hx hZ hown (host := "") (Or.inl (hw _ (List.mem_of_getElem? (i := 19) rfl))) Via.refl e17 F_passed (hb hby d9a_34) ?_
      intro T18 X18 e18
      show own_Fin _ _ _ _ _ _ _ (T18.setTop (mkF m 37 #[.val (.ref t0), .val (.ref t1), .val (.ref t2)] [(.long pa), (.ref t0)]))
      refine own_go (fun _ kk => XS.lconst X18.here hx rfl (hb hby d9a_37) (XS.ladd X18.here hx rfl (hb hby d9a_38) rfl kk)) ?_
      show own_Fin _ _ _ _ _ _ _ (T18.setTop (mkF m 39 #[.val (.ref t0), .val (.ref t1), .val (.ref t2)] [(.long (pa + (1 : Int64))), (.ref t0)]))
      refine own_putF X18 hx hZ hown (host := "") (Or.inl (hw _ (List.mem_of_getElem? (i := 19) rfl))) Via.refl e18 F_passed E_t0 (Or.inl (hw _ (List.mem_of_getElem? (i := 20) rfl))) (hw _ (List.mem_of_getElem? (i := 2) rfl)) (ty := .long) (by decide) rfl rfl (hb hby d9a_39) ?_
      intro T19 h19 X19 e19 W19
      have f20 := O0.wr W19 g_t0
      have f21 := E_t0.wr W19
      have f22 := E_t1.wr W19
      have f23 := F_offset.other W19 (Or.inr (slot_ne (Or.inr (hw _ (List.mem_of_getElem? (i := 11) rfl))) (Or.inl (hw _ (List.mem_of_getElem? (i := 20) rfl))) (by decide) (t := .long) (t' := .long) (by decide) (by decide)))
      have f24 := F_limit.other W19 (Or.inr (slot_ne (Or.inr (hw _ (List.mem_of_getElem? (i := 13) rfl))) (Or.inl (hw _ (List.mem_of_getElem? (i := 20) rfl))) (by decide) (t := .long) (t' := .long) (by decide) (by decide)))
      have f25 := F_skipped.other W19 (Or.inr (slot_ne (Or.inl (hw _ (List.mem_of_getElem? (i := 64) rfl))) (Or.inl (hw _ (List.mem_of_getElem? (i := 20) rfl))) (by decide) (t := .long) (t' := .long) (by decide) (by decide)))
      have f27 := E_t2.wr W19
      have f28 := Fs_t2.other W19 (Or.inl (Ne.symm n02))
      have f29 := Fm_t2.other W19 (Or.inl (Ne.symm n02))
      have f30 := Fe_t2.other W19 (Or.inl (Ne.symm n02))
      have Z19 := Nat.le_trans Z0 (Keep.of_wr W19).1
      have K19 := (Keep.refl h0 [t0, t2]).wr W19 (Or.inl (List.mem_of_getElem? (i := 0) rfl))
      have f31 := F_passed.same W19
      have N19 := Fr.snoc X19 N17 g_t0
      show own_Fin _ _ _ _ _ _ _ (T19.setTop (mkF m 42 #[.val (.ref t0), .val (.ref t1), .val (.ref t2)] []))
      refine own_go (fun _ kk => XS.aloadN X19.here hx rfl (hb hby d9a_42) rfl rfl (XS.aloadN X19.here hx rfl (hb hby d9a_43) rfl rfl kk)) ?_
      show own_Fin _ _ _ _ _ _ _ (T19.setTop (mkF m 44 #[.val (.ref t0), .val (.ref t1), .val (.ref t2)] [(.ref t1), (.ref t2)]))
      refine own_callI X19 hx hZ hown (hw _ (List.mem_of_getElem? (i := 66) rfl)) (hw _ (List.mem_of_getElem? (i := 67) rfl)) (hw _ (List.mem_of_getElem? (i := 68) rfl)) (by first | rfl | simp [Cond.onTables, Cond.keepsFace, Cond.keeps, Cond.steady]) (hw _ (List.mem_of_getElem? (i := 69) rfl)) (hw _ (List.mem_of_getElem? (i := 70) rfl)) (hw _ (List.mem_of_getElem? (i := 71) rfl)) (hw _ (List.mem_of_getElem? (i := 72) rfl)) (hw _ (List.mem_of_getElem? (i := 73) rfl)) (hw _ (List.mem_of_getElem? (i := 74) rfl)) (hw _ (List.mem_of_getElem? (i := 23) rfl)) (by decide) (rm10a l Z a0 hw t2 t1 h19 n0 Z19 mc dE S0 A0 f20 f27 f28 f29 f30 g_t2 f22) e19 f27 (argsL := [(.ref t1)]) (rest := []) rfl rfl (by rw [hml]; rfl) (lenOf pd_9a_1 rfl) (hb hby d9a_44) (W := 0) (Nat.le_of_eq rfl) (by decide) (by decide) (by decide) (by decide) ?_
      rintro v32 T32 L32 X32 ⟨r32, rfl, M32, Kc32, sz32, OA32, Fs32, Fm32, Fe32⟩
      have N32 := Fr.app N19 M32
      have szr32 := Nat.le_trans K19.1 sz32
      have g_r32 : n0 ≤ r32 := Nat.le_trans Z19 sz32
      have ne_t0_r32 : t0 ≠ r32 := Nat.ne_of_lt (Nat.lt_of_lt_of_le f21.lt sz32)
      have ne_t1_r32 : t1 ≠ r32 := Nat.ne_of_lt (Nat.lt_of_lt_of_le f22.lt sz32)
      have ne_t2_r32 : t2 ≠ r32 := Nat.ne_of_lt (Nat.lt_of_lt_of_le f27.lt sz32)
      have f33 := f20.keep Kc32 (allS g_t2 all0)
      have f34 := f21.keep Kc32
      have f35 := f22.keep Kc32
      have f36 := f23.keep Kc32 (ninS n02 nin0)
      have f37 := f24.keep Kc32 (ninS n02 nin0)
      have f38 := f25.keep Kc32 (ninS n02 nin0)
      have f39 := f31.keep Kc32 (ninS n02 nin0)
      have f40 := f27.keep Kc32
      have Z32 := Nat.le_trans Z19 Kc32.1
      have K32 := K19.trans Kc32 (allS (Or.inl (List.mem_of_getElem? (i := 1) rfl)) all0)
      show own_Fin _ _ _ _ _ _ _ (T32.setTop (mkF m 49 #[.val (.ref t0), .val (.ref t1), .val (.ref t2)] [(.int (1 : Int32))]))
      refine own_go (fun _ kk => XS.pop X32.here hx rfl (hb hby d9a_49) rfl rfl kk) ?_
      show own_Fin _ _ _ _ _ _ _ (T32.setTop (mkF m 50 #[.val (.ref t0), .val (.ref t1), .val (.ref t2)] []))
      exact own_retV X32 hx hlk hret (hb hby d9a_50) (by decide) (by decide) (by refine ⟨rfl, N32, r32, ?_⟩; rw [own_sk, own_pa, own_sz, if_neg hc9, if_neg hc9, if_neg hc9, if_pos hc29, if_pos hc29]; exact ⟨f34, f36, f37, f38, f39, f40, Fs32, ⟨_, Fm32⟩, Or.inr ⟨by decide, Fe32, OA32, g_r32, ne_t0_r32, ne_t2_r32, ne_t1_r32⟩, f35, n02, n12, n10, g_t0, g_t2, Z32, f33⟩)
    · refine own_go (fun _ kk => XS.ifYes X17.here hx rfl (pc0 := 29) (pc' := 50) rfl (hb hby d9a_29) rfl (XT.i0_ne_t hc29) (by decide) (by decide) kk) ?_
      show own_Fin _ _ _ _ _ _ _ (T17.setTop (mkF m 50 #[.val (.ref t0), .val (.ref t1), .val (.ref t2)] []))
      exact own_retV X17 hx hlk hret (hb hby d9a_50) (by decide) (by decide) (by rw [e17]; refine ⟨rfl, N17, dE, ?_⟩; rw [own_sk, own_pa, own_sz, if_neg hc9, if_neg hc9, if_neg hc9, if_neg hc29, if_neg hc29]; exact ⟨E_t0, F_offset, F_limit, F_skipped, F_passed, E_t2, Fs_t2, ⟨_, Fm_t2⟩, Or.inl ⟨rfl, Fe_t2⟩, E_t1, n02, n12, n10, g_t0, g_t2, Z0, O0⟩)

theorem d9b_0 : decode prog_116_method_2_code 0 = .ok (.aload_n 0, 1) := by decide +kernel
theorem d9b_1 : decode prog_116_method_2_code 1 = .ok (.getfield 16, 3) := by decide +kernel
theorem d9b_4 : decode prog_116_method_2_code 4 = .ok (.aload_n 0, 1) := by decide +kernel
theorem d9b_5 : decode prog_116_method_2_code 5 = .ok (.getfield 7, 3) := by decide +kernel
theorem d9b_8 : decode prog_116_method_2_code 8 = .ok (.lcmp, 1) := by decide +kernel
theorem d9b_9 : decode prog_116_method_2_code 9 = .ok (.ifCond .ge 16, 3) := by decide +kernel
theorem d9b_12 : decode prog_116_method_2_code 12 = .ok (.aload_n 0, 1) := by decide +kernel
theorem d9b_13 : decode prog_116_method_2_code 13 = .ok (.dup, 1) := by decide +kernel
theorem d9b_14 : decode prog_116_method_2_code 14 = .ok (.getfield 16, 3) := by decide +kernel
theorem d9b_17 : decode prog_116_method_2_code 17 = .ok (.lconst 1, 1) := by decide +kernel
theorem d9b_18 : decode prog_116_method_2_code 18 = .ok (.ladd, 1) := by decide +kernel
theorem d9b_19 : decode prog_116_method_2_code 19 = .ok (.putfield 16, 3) := by decide +kernel
theorem d9b_22 : decode prog_116_method_2_code 22 = .ok (.goto 28, 3) := by decide +kernel
theorem d9b_25 : decode prog_116_method_2_code 25 = .ok (.aload_n 0, 1) := by decide +kernel
theorem d9b_26 : decode prog_116_method_2_code 26 = .ok (.invokevirtual 19, 3) := by decide +kernel
theorem d9b_29 : decode prog_116_method_2_code 29 = .ok (.ifCond .ne 21, 3) := by decide +kernel
theorem d9b_32 : decode prog_116_method_2_code 32 = .ok (.aload_n 0, 1) := by decide +kernel
theorem d9b_33 : decode prog_116_method_2_code 33 = .ok (.dup, 1) := by decide +kernel
theorem d9b_34 : decode prog_116_method_2_code 34 = .ok (.getfield 23, 3) := by decide +kernel
theorem d9b_37 : decode prog_116_method_2_code 37 = .ok (.lconst 1, 1) := by decide +kernel
theorem d9b_38 : decode prog_116_method_2_code 38 = .ok (.ladd, 1) := by decide +kernel
theorem d9b_39 : decode prog_116_method_2_code 39 = .ok (.putfield 23, 3) := by decide +kernel
theorem d9b_42 : decode prog_116_method_2_code 42 = .ok (.aload_n 2, 1) := by decide +kernel
theorem d9b_43 : decode prog_116_method_2_code 43 = .ok (.aload_n 1, 1) := by decide +kernel
theorem d9b_44 : decode prog_116_method_2_code 44 = .ok (.invokeinterface 26 2, 5) := by decide +kernel
theorem d9b_49 : decode prog_116_method_2_code 49 = .ok (.pop, 1) := by decide +kernel
theorem d9b_50 : decode prog_116_method_2_code 50 = .ok (.return_, 1) := by decide +kernel
theorem pd_9b_0 : parseMethodDescriptor "()Z" = some ⟨[], some .boolean⟩ := by decide +kernel
theorem pd_9b_1 : parseMethodDescriptor "(Ljava/lang/Object;)Z" = some ⟨[(.object "java/lang/Object")], some .boolean⟩ := by decide +kernel
theorem pn_9b : plainFor (⟨"com/example/tuplelift/tuplelift/service/Pipeline$Sliced", "accept", "([Lcom/example/tuplelift/tuplelift/model/Term;Ljava/util/List;)V"⟩ : MethodName) = true := plainFor_of_name (by show plainName "com/example/tuplelift/tuplelift/service/Pipeline$Sliced" = true; first | (simp [plainName, overriddenIn]; done) | decide +kernel)
theorem ef_9b (m : MethodId) (x0 : Addr) (x1 : Addr) (x2 : Addr) : entryFrame m #[(.ref x0), (.ref x1), (.ref x2)] 3 = mkF m 0 #[.val (.ref x0), .val (.ref x1), .val (.ref x2)] [] := by first | (simp [entryFrame, mkF, argsToLocals, Value.category]; done) | rfl
set_option maxRecDepth 65536 in
set_option maxHeartbeats 40000000 in
theorem rm9b (l : Launch) (Z : State) (a0 : Array Value) (hw : ∀ d ∈ tables_1, d.before a0 Z = true) (t0 : Addr) (t1 : Addr) (t2 : Addr) (h0 : Heap) (n0 : Nat) (Z0 : n0 ≤ h0.size) (k : Nat) (ed : Addr) (mc : Int32) (dE : Addr) (S0 : Sta Z Z.heap "java/util/ArrayList" "DEFAULTCAPACITY_EMPTY_ELEMENTDATA" "[Ljava/lang/Object;" (.ref dE)) (A0 : own_Ar Z Z.heap dE (.object "java/lang/Object") []) (O0 : Old Z n0 h0) (off lim sk pa : Int64) (E_t0 : Exa Z h0 t0 "com/example/tuplelift/tuplelift/service/Pipeline$Sliced") (F_offset : Fld Z h0 t0 "com/example/tuplelift/tuplelift/service/Pipeline$Sliced" "offset" "J" (.long off)) (F_limit : Fld Z h0 t0 "com/example/tuplelift/tuplelift/service/Pipeline$Sliced" "limit" "J" (.long lim)) (F_skipped : Fld Z h0 t0 "com/example/tuplelift/tuplelift/service/Pipeline$Sliced" "skipped" "J" (.long sk)) (F_passed : Fld Z h0 t0 "com/example/tuplelift/tuplelift/service/Pipeline$Sliced" "passed" "J" (.long pa)) (g_t0 : n0 ≤ t0) (E_t1 : Exa Z h0 t1 "[Lcom/example/tuplelift/tuplelift/model/Term;") (n02 : t0 ≠ t2) (n12 : t1 ≠ t2) (n10 : t1 ≠ t0) (OA0 : own_OA Z h0 ed "java/lang/Object" 10) (ne0 : t2 ≠ ed) (ne1 : t0 ≠ ed) (ne2 : t1 ≠ ed) (g_ed : n0 ≤ ed) (hk : 0 < k) (hk9 : k ≤ 2) (hk0 : ¬ (Int32.ofNat k) < 0) (hk1 : (Int32.ofNat k).toNatClampNeg < 10) (hk2 : ¬ (Int32.ofNat k) = (10 : Int32)) (E_t2 : Exa Z h0 t2 "java/util/ArrayList") (Fs_t2 : Fld Z h0 t2 "java/util/ArrayList" "size" "I" (.int (Int32.ofNat k))) (Fm_t2 : Fld Z h0 t2 "java/util/AbstractList" "modCount" "I" (.int mc)) (Fe_t2 : Fld Z h0 t2 "java/util/ArrayList" "elementData" "[Ljava/lang/Object;" (.ref ed)) (g_t2 : n0 ≤ t2) :
    own_Met l (⟨"com/example/tuplelift/tuplelift/service/Pipeline$Sliced", "accept", "([Lcom/example/tuplelift/tuplelift/model/Term;Ljava/util/List;)V"⟩ : MethodName) prog_116_method_2_code 3 none ({ frames := 5, cells := 1, slots := 10, locals := 69 } : Room) Z [] #[(.ref t0), (.ref t1), (.ref t2)] h0 (own_Q9 Z n0 t0 t1 t2 dE off lim sk pa k) := by
  refine own_enter pn_9b ?_
  intro p e s m below meth c s₁ hx hby hml hown hnm hret hlk hZ e0 X0
  rw [ef_9b]
  have N0 := Fr.nil n0
  show own_Fin _ _ _ _ _ _ _ (s₁.setTop (mkF m 0 #[.val (.ref t0), .val (.ref t1), .val (.ref t2)] []))
  refine own_go (fun _ kk => XS.aloadN X0.here hx rfl (hb hby d9b_0) rfl rfl kk) ?_
  show own_Fin _ _ _ _ _ _ _ (s₁.setTop (mkF m 1 #[.val (.ref t0), .val (.ref t1), .val (.ref t2)] [(.ref t0)]))
  refine own_getF X0 hx hZ hown (host := "") (Or.inl (hw _ (List.mem_of_getElem? (i := 63) rfl))) Via.refl e0 F_skipped (hb hby d9b_1) ?_
  intro T1 X1 e1
  show own_Fin _ _ _ _ _ _ _ (T1.setTop (mkF m 4 #[.val (.ref t0), .val (.ref t1), .val (.ref t2)] [(.long sk)]))
  refine own_go (fun _ kk => XS.aloadN X1.here hx rfl (hb hby d9b_4) rfl rfl kk) ?_
  show own_Fin _ _ _ _ _ _ _ (T1.setTop (mkF m 5 #[.val (.ref t0), .val (.ref t1), .val (.ref t2)] [(.ref t0), (.long sk)]))
  refine own_getF X1 hx hZ hown (host := "") (Or.inl (hw _ (List.mem_of_getElem? (i := 10) rfl))) Via.refl e1 F_offset (hb hby d9b_5) ?_
  intro T2 X2 e2
  show own_Fin _ _ _ _ _ _ _ (T2.setTop (mkF m 8 #[.val (.ref t0), .val (.ref t1), .val (.ref t2)] [(.long off), (.long sk)]))
  refine own_go (fun _ kk => XT.lcmp X2.here hx rfl (hb hby d9b_8) rfl kk) ?_
  show own_Fin _ _ _ _ _ _ _ (T2.setTop (mkF m 9 #[.val (.ref t0), .val (.ref t1), .val (.ref t2)] [(.int (XT.cmpL sk off))]))
  by_cases hc9 : sk < off
  · refine own_go (fun _ kk => XS.ifNo X2.here hx rfl (hb hby d9b_9) rfl (XT.ll_ge_f hc9) (XS.aloadN X2.here hx rfl (hb hby d9b_12) rfl rfl (XS.dup X2.here hx rfl (hb hby d9b_13) rfl rfl kk))) ?_
    show own_Fin _ _ _ _ _ _ _ (T2.setTop (mkF m 14 #[.val (.ref t0), .val (.ref t1), .val (.ref t2)] [(.ref t0), (.ref t0)]))
    refine own_getF X2 hx hZ hown (host := "") (Or.inl (hw _ (List.mem_of_getElem? (i := 63) rfl))) Via.refl e2 F_skipped (hb hby d9b_14) ?_
    intro T3 X3 e3
    show own_Fin _ _ _ _ _ _ _ (T3.setTop (mkF m 17 #[.val (.ref t0), .val (.ref t1), .val (.ref t2)] [(.long sk), (.ref t0)]))
    refine own_go (fun _ kk => XS.lconst X3.here hx rfl (hb hby d9b_17) (XS.ladd X3.here hx rfl (hb hby d9b_18) rfl kk)) ?_
    show own_Fin _ _ _ _ _ _ _ (T3.setTop (mkF m 19 #[.val (.ref t0), .val (.ref t1), .val (.ref t2)] [(.long (sk + (1 : Int64))), (.ref t0)]))
    refine own_putF X3 hx hZ hown (host := "") (Or.inl (hw _ (List.mem_of_getElem? (i := 63) rfl))) Via.refl e3 F_skipped E_t0 (Or.inl (hw _ (List.mem_of_getElem? (i := 64) rfl))) (hw _ (List.mem_of_getElem? (i := 2) rfl)) (ty := .long) (by decide) rfl rfl (hb hby d9b_19) ?_
    intro T4 h4 X4 e4 W4
    have f5 := O0.wr W4 g_t0
    have f6 := E_t0.wr W4
    have f7 := E_t1.wr W4
    have f8 := F_offset.other W4 (Or.inr (slot_ne (Or.inr (hw _ (List.mem_of_getElem? (i := 11) rfl))) (Or.inl (hw _ (List.mem_of_getElem? (i := 64) rfl))) (by decide) (t := .long) (t' := .long) (by decide) (by decide)))
    have f9 := F_limit.other W4 (Or.inr (slot_ne (Or.inr (hw _ (List.mem_of_getElem? (i := 13) rfl))) (Or.inl (hw _ (List.mem_of_getElem? (i := 64) rfl))) (by decide) (t := .long) (t' := .long) (by decide) (by decide)))
    have f11 := F_passed.other W4 (Or.inr (slot_ne (Or.inl (hw _ (List.mem_of_getElem? (i := 20) rfl))) (Or.inl (hw _ (List.mem_of_getElem? (i := 64) rfl))) (by decide) (t := .long) (t' := .long) (by decide) (by decide)))
    have f12 := E_t2.wr W4
    have f13 := Fs_t2.other W4 (Or.inl (Ne.symm n02))
    have f14 := Fm_t2.other W4 (Or.inl (Ne.symm n02))
    have f15 := Fe_t2.other W4 (Or.inl (Ne.symm n02))
    have f16 := OA0.other W4 (Ne.symm ne1)
    have Z4 := Nat.le_trans Z0 (Keep.of_wr W4).1
    have K4 := (Keep.refl h0 [t0, t2, ed]).wr W4 (Or.inl (List.mem_of_getElem? (i := 0) rfl))
    have f17 := F_skipped.same W4
    have N4 := Fr.snoc X4 N0 g_t0
    show own_Fin _ _ _ _ _ _ _ (T4.setTop (mkF m 22 #[.val (.ref t0), .val (.ref t1), .val (.ref t2)] []))
    refine own_go (fun _ kk => XS.goto X4.here hx rfl (pc0 := 22) (pc' := 50) rfl (hb hby d9b_22) (by decide) (by decide) kk) ?_
    show own_Fin _ _ _ _ _ _ _ (T4.setTop (mkF m 50 #[.val (.ref t0), .val (.ref t1), .val (.ref t2)] []))
    exact own_retV X4 hx hlk hret (hb hby d9b_50) (by decide) (by decide) (by rw [e4]; refine ⟨rfl, N4, ed, ?_⟩; rw [own_sk, own_pa, own_sz, if_pos hc9, if_pos hc9, if_pos hc9]; exact ⟨f6, f8, f9, f17, f11, f12, f13, ⟨_, f14⟩, Or.inr ⟨by omega, f15, f16, g_ed, ne1, ne0, ne2⟩, f7, n02, n12, n10, g_t0, g_t2, Z4, f5⟩)
  · refine own_go (fun _ kk => XS.ifYes X2.here hx rfl (pc0 := 9) (pc' := 25) rfl (hb hby d9b_9) rfl (XT.ll_ge_t hc9) (by decide) (by decide) (XS.aloadN X2.here hx rfl (hb hby d9b_25) rfl rfl kk)) ?_
    show own_Fin _ _ _ _ _ _ _ (T2.setTop (mkF m 26 #[.val (.ref t0), .val (.ref t1), .val (.ref t2)] [(.ref t0)]))
    refine own_callV X2 hx hZ hown (hw _ (List.mem_of_getElem? (i := 65) rfl)) (hw _ (List.mem_of_getElem? (i := 15) rfl)) (notFace_of_selects (args := #[]) (mvT hZ (hw _ (List.mem_of_getElem? (i := 17) rfl)))) (hw _ (List.mem_of_getElem? (i := 17) rfl)) (hw _ (List.mem_of_getElem? (i := 16) rfl)) (hw _ (List.mem_of_getElem? (i := 18) rfl)) (hw _ (List.mem_of_getElem? (i := 3) rfl)) (by decide) (rm3 l Z a0 hw t0 h0 n0 Z0 lim pa F_limit F_passed) e2 E_t0 (argsL := []) (rest := []) rfl rfl (by rw [hml]; rfl) (lenOf pd_9b_0 rfl) (hb hby d9b_26) (W := 0) (Nat.le_of_eq rfl) (by decide) (by decide) (by decide) (by decide) ?_
    rintro v18 T18 L18 X18 ⟨rfl, M18, e18⟩
    have N18 := Fr.app N0 M18
    show own_Fin _ _ _ _ _ _ _ (T18.setTop (mkF m 29 #[.val (.ref t0), .val (.ref t1), .val (.ref t2)] [(.int (own_f3 lim pa))]))
    by_cases hc29 : (own_f3 lim pa) = 0
    · refine own_go (fun _ kk => XS.ifNo X18.here hx rfl (hb hby d9b_29) rfl (XT.i0_ne_f hc29) (XS.aloadN X18.here hx rfl (hb hby d9b_32) rfl rfl (XS.dup X18.here hx rfl (hb hby d9b_33) rfl rfl kk))) ?_
      show own_Fin _ _ _ _ _ _ _ (T18.setTop (mkF m 34 #[.val (.ref t0), .val (.ref t1), .val (.ref t2)] [(.ref t0), (.ref t0)]))
      refine own_getF X18 hx hZ hown (host := "") (Or.inl (hw _ (List.mem_of_getElem? (i := 19) rfl))) Via.refl e18 F_passed (hb hby d9b_34) ?_
      intro T19 X19 e19
      show own_Fin _ _ _ _ _ _ _ (T19.setTop (mkF m 37 #[.val (.ref t0), .val (.ref t1), .val (.ref t2)] [(.long pa), (.ref t0)]))
      refine own_go (fun _ kk => XS.lconst X19.here hx rfl (hb hby d9b_37) (XS.ladd X19.here hx rfl (hb hby d9b_38) rfl kk)) ?_
      show own_Fin _ _ _ _ _ _ _ (T19.setTop (mkF m 39 #[.val (.ref t0), .val (.ref t1), .val (.ref t2)] [(.long (pa + (1 : Int64))), (.ref t0)]))
      refine own_putF X19 hx hZ hown (host := "") (Or.inl (hw _ (List.mem_of_getElem? (i := 19) rfl))) Via.refl e19 F_passed E_t0 (Or.inl (hw _ (List.mem_of_getElem? (i := 20) rfl))) (hw _ (List.mem_of_getElem? (i := 2) rfl)) (ty := .long) (by decide) rfl rfl (hb hby d9b_39) ?_
      intro T20 h20 X20 e20 W20
      have f21 := O0.wr W20 g_t0
      have f22 := E_t0.wr W20
      have f23 := E_t1.wr W20
      have f24 := F_offset.other W20 (Or.inr (slot_ne (Or.inr (hw _ (List.mem_of_getElem? (i := 11) rfl))) (Or.inl (hw _ (List.mem_of_getElem? (i := 20) rfl))) (by decide) (t := .long) (t' := .long) (by decide) (by decide)))
      have f25 := F_limit.other W20 (Or.inr (slot_ne (Or.inr (hw _ (List.mem_of_getElem? (i := 13) rfl))) (Or.inl (hw _ (List.mem_of_getElem? (i := 20) rfl))) (by decide) (t := .long) (t' := .long) (by decide) (by decide)))
      have f26 := F_skipped.other W20 (Or.inr (slot_ne (Or.inl (hw _ (List.mem_of_getElem? (i := 64) rfl))) (Or.inl (hw _ (List.mem_of_getElem? (i := 20) rfl))) (by decide) (t := .long) (t' := .long) (by decide) (by decide)))
      have f28 := E_t2.wr W20
      have f29 := Fs_t2.other W20 (Or.inl (Ne.symm n02))
      have f30 := Fm_t2.other W20 (Or.inl (Ne.symm n02))
      have f31 := Fe_t2.other W20 (Or.inl (Ne.symm n02))
      have f32 := OA0.other W20 (Ne.symm ne1)
      have Z20 := Nat.le_trans Z0 (Keep.of_wr W20).1
      have K20 := (Keep.refl h0 [t0, t2, ed]).wr W20 (Or.inl (List.mem_of_getElem? (i := 0) rfl))
      have f33 := F_passed.same W20
      have N20 := Fr.snoc X20 N18 g_t0
      show own_Fin _ _ _ _ _ _ _ (T20.setTop (mkF m 42 #[.val (.ref t0), .val (.ref t1), .val (.ref t2)] []))
      refine own_go (fun _ kk => XS.aloadN X20.here hx rfl (hb hby d9b_42) rfl rfl (XS.aloadN X20.here hx rfl (hb hby d9b_43) rfl rfl kk)) ?_
      show own_Fin _ _ _ _ _ _ _ (T20.setTop (mkF m 44 #[.val (.ref t0), .val (.ref t1), .val (.ref t2)] [(.ref t1), (.ref t2)]))
      refine own_callI X20 hx hZ hown (hw _ (List.mem_of_getElem? (i := 66) rfl)) (hw _ (List.mem_of_getElem? (i := 67) rfl)) (hw _ (List.mem_of_getElem? (i := 68) rfl)) (by first | rfl | simp [Cond.onTables, Cond.keepsFace, Cond.keeps, Cond.steady]) (hw _ (List.mem_of_getElem? (i := 69) rfl)) (hw _ (List.mem_of_getElem? (i := 70) rfl)) (hw _ (List.mem_of_getElem? (i := 71) rfl)) (hw _ (List.mem_of_getElem? (i := 72) rfl)) (hw _ (List.mem_of_getElem? (i := 73) rfl)) (hw _ (List.mem_of_getElem? (i := 74) rfl)) (hw _ (List.mem_of_getElem? (i := 23) rfl)) (by decide) (rm10b l Z a0 hw t2 t1 h20 n0 Z20 ed (Int32.ofNat k) mc f32 ne0 g_ed hk0 hk1 hk2 f21 f28 f29 f30 f31 g_t2 f23) e20 f28 (argsL := [(.ref t1)]) (rest := []) rfl rfl (by rw [hml]; rfl) (lenOf pd_9b_1 rfl) (hb hby d9b_44) (W := 0) (Nat.le_of_eq rfl) (by decide) (by decide) (by decide) (by decide) ?_
      rintro v34 T34 L34 X34 ⟨rfl, M34, Kc34, OA34, Fs34, Fm34, Fe34⟩
      have N34 := Fr.app N20 M34
      have f35 := f21.keep Kc34 (allS g_t2 (allS g_ed all0))
      have f36 := f22.keep Kc34
      have f37 := f23.keep Kc34
      have f38 := f24.keep Kc34 (ninS n02 (ninS ne1 nin0))
      have f39 := f25.keep Kc34 (ninS n02 (ninS ne1 nin0))
      have f40 := f26.keep Kc34 (ninS n02 (ninS ne1 nin0))
      have f41 := f33.keep Kc34 (ninS n02 (ninS ne1 nin0))
      have f42 := f28.keep Kc34
      have Z34 := Nat.le_trans Z20 Kc34.1
      have K34 := K20.trans Kc34 (allS (Or.inl (List.mem_of_getElem? (i := 1) rfl)) (allS (Or.inl (List.mem_of_getElem? (i := 2) rfl)) all0))
      show own_Fin _ _ _ _ _ _ _ (T34.setTop (mkF m 49 #[.val (.ref t0), .val (.ref t1), .val (.ref t2)] [(.int (1 : Int32))]))
      refine own_go (fun _ kk => XS.pop X34.here hx rfl (hb hby d9b_49) rfl rfl kk) ?_
      show own_Fin _ _ _ _ _ _ _ (T34.setTop (mkF m 50 #[.val (.ref t0), .val (.ref t1), .val (.ref t2)] []))
      exact own_retV X34 hx hlk hret (hb hby d9b_50) (by decide) (by decide) (by refine ⟨rfl, N34, ed, ?_⟩; rw [own_sk, own_pa, own_sz, if_neg hc9, if_neg hc9, if_neg hc9, if_pos hc29, if_pos hc29]; exact ⟨f36, f38, f39, f40, f41, f42, (by rw [← own_ofs]; exact Fs34), ⟨_, Fm34⟩, Or.inr ⟨by omega, Fe34, OA34, g_ed, ne1, ne0, ne2⟩, f37, n02, n12, n10, g_t0, g_t2, Z34, f35⟩)
    · refine own_go (fun _ kk => XS.ifYes X18.here hx rfl (pc0 := 29) (pc' := 50) rfl (hb hby d9b_29) rfl (XT.i0_ne_t hc29) (by decide) (by decide) kk) ?_
      show own_Fin _ _ _ _ _ _ _ (T18.setTop (mkF m 50 #[.val (.ref t0), .val (.ref t1), .val (.ref t2)] []))
      exact own_retV X18 hx hlk hret (hb hby d9b_50) (by decide) (by decide) (by rw [e18]; refine ⟨rfl, N18, ed, ?_⟩; rw [own_sk, own_pa, own_sz, if_neg hc9, if_neg hc9, if_neg hc9, if_neg hc29, if_neg hc29]; exact ⟨E_t0, F_offset, F_limit, F_skipped, F_passed, E_t2, Fs_t2, ⟨_, Fm_t2⟩, Or.inr ⟨by omega, Fe_t2, OA0, g_ed, ne1, ne0, ne2⟩, E_t1, n02, n12, n10, g_t0, g_t2, Z0, O0⟩)

theorem own_small {k : Nat} (h : k ≤ 2) : ¬ (Int32.ofNat k) < 0 ∧ (Int32.ofNat k).toNatClampNeg < 10 ∧ ¬ (Int32.ofNat k) = (10 : Int32) := by
  match k, h with
  | 0, _ => decide
  | 1, _ => decide
  | 2, _ => decide
theorem rm9 (l : Launch) (Z : State) (a0 : Array Value) (hw : ∀ d ∈ tables_1, d.before a0 Z = true) (t0 t1 t2 : Addr) (h0 : Heap) (n0 : Nat) (Z0 : n0 ≤ h0.size) (dE : Addr) (S0 : Sta Z Z.heap "java/util/ArrayList" "DEFAULTCAPACITY_EMPTY_ELEMENTDATA" "[Ljava/lang/Object;" (.ref dE)) (A0 : own_Ar Z Z.heap dE (.object "java/lang/Object") []) (off lim sk pa : Int64) (k : Nat) (hk : k ≤ 2) (ed : Addr) (I0 : own_I Z h0 n0 t0 t2 t1 dE off lim sk pa k ed) :
    own_Met l (⟨"com/example/tuplelift/tuplelift/service/Pipeline$Sliced", "accept", "([Lcom/example/tuplelift/tuplelift/model/Term;Ljava/util/List;)V"⟩ : MethodName) prog_116_method_2_code 3 none ({ frames := 5, cells := 1, slots := 10, locals := 69 } : Room) Z [] #[.ref t0, .ref t1, .ref t2] h0 (own_Q9 Z n0 t0 t1 t2 dE off lim sk pa k) := by
  obtain ⟨i1, i2, i3, i4, i5, i6, i7, ⟨mc, i8⟩, i9, i10, i11, i12, i13, i14, i15, i16, i17⟩ := I0
  rcases i9 with ⟨rfl, j1⟩ | ⟨j0, j1, j2, j3, j4, j5, j6⟩
  · exact rm9a l Z a0 hw t0 t1 t2 h0 n0 Z0 mc dE S0 A0 i17 off lim sk pa i1 i2 i3 i4 i5 i14 i10 i11 i12 i13 i6 i7 i8 j1 i15
  · exact rm9b l Z a0 hw t0 t1 t2 h0 n0 Z0 k ed mc dE S0 A0 i17 off lim sk pa i1 i2 i3 i4 i5 i14 i10 i11 i12 i13 j2 j5 j4 j6 j3 j0 hk (own_small hk).1 (own_small hk).2.1 (own_small hk).2.2 i6 i7 i8 j1 i15

theorem own_n1 {nn : Int32} (h : ¬ 0 < nn) : ¬ (1 : Int32) < nn := by
  rw [Int32.lt_iff_toInt_lt] at *
  simp only [Int32.reduceToInt] at *
  omega
theorem own_n2 {nn : Int32} (h : ¬ (1 : Int32) < nn) : ¬ (2 : Int32) < nn := by
  rw [Int32.lt_iff_toInt_lt] at *
  simp only [Int32.reduceToInt] at *
  omega
theorem own_szle (off lim sk pa : Int64) (k : Nat) : own_sz off lim sk pa k ≤ k + 1 := by
  unfold own_sz
  split
  · omega
  · split <;> omega
def own_Q0 (w : Option Value) (n0 : Nat) (v : Option Value) (h : Heap) (L : List Loc) : Prop := v = w ∧ Fr n0 L

theorem pd_0_0 : parseMethodDescriptor "(JJ)V" = some ⟨[.long, .long], none⟩ := by decide +kernel
theorem pd_0_1 : parseMethodDescriptor "()Z" = some ⟨[], some .boolean⟩ := by decide +kernel
theorem pd_0_2 : parseMethodDescriptor "()V" = some ⟨[], none⟩ := by decide +kernel
theorem pd_0_3 : parseMethodDescriptor "([Lcom/example/tuplelift/tuplelift/model/Term;Ljava/util/List;)V" = some ⟨[(.array (.object "com/example/tuplelift/tuplelift/model/Term")), (.object "java/util/List")], none⟩ := by decide +kernel
theorem pd_0_4 : parseMethodDescriptor "()I" = some ⟨[], some .int⟩ := by decide +kernel
theorem pd_0_5 : parseMethodDescriptor "(JJ)J" = some ⟨[.long, .long], some .long⟩ := by decide +kernel
theorem pn_0 : plainFor x = true := plainFor_of_name (by show plainName "com/example/tuplelift/tuplelift/service/SlicedFullPinLaw" = true; first | (simp [plainName, overriddenIn]; done) | decide +kernel)
theorem ef_0 (m : MethodId) (x0 : Int64) (x1 : Int64) (x2 : Int32) : entryFrame m #[(.long x0), (.long x1), (.int x2)] maxLocals = mkF m 0 #[.val (.long x0), .second, .val (.long x1), .second, .val (.int x2), .unset, .unset, .unset, .unset, .unset, .unset, .unset, .unset, .unset, .unset, .unset, .unset, .unset, .unset, .unset, .unset, .unset, .unset] [] := by first | (simp [entryFrame, mkF, argsToLocals, Value.category, maxLocals]; done) | rfl
def own_f0_222 (q0 : Int64) (q1 : Int64) (p2 : Int32) (off : Int64) (lim : Int64) (nn : Int32) (sp : Int64) (ps : Int64) (ea : Int32) : Int32 :=
  if (own_f3 lim (0 : Int64)) = (if lim = (0 : Int64) then (1 : Int32) else (0 : Int32)) then
    if (own_f3 lim (own_pa off lim (own_sk off (own_sk off (0 : Int64))) (own_pa off lim (own_sk off (0 : Int64)) (own_pa off lim (0 : Int64) (0 : Int64))))) = ea then
      if (Int32.toInt64 (Int32.ofNat (own_sz off lim (own_sk off (own_sk off (0 : Int64))) (own_pa off lim (own_sk off (0 : Int64)) (own_pa off lim (0 : Int64) (0 : Int64))) (own_sz off lim (own_sk off (0 : Int64)) (own_pa off lim (0 : Int64) (0 : Int64)) (own_sz off lim (0 : Int64) (0 : Int64) 0))))) = ps then
        (1 : Int32)
      else
        (0 : Int32)
    else
      (0 : Int32)
  else
    (0 : Int32)
def own_f0_186 (q0 : Int64) (q1 : Int64) (p2 : Int32) (off : Int64) (lim : Int64) (nn : Int32) (sp : Int64) (ps : Int64) : Int32 :=
  if lim < (0 : Int64) then
    own_f0_222 q0 q1 p2 off lim nn sp ps ((0 : Int32))
  else
    if ((Int32.toInt64 nn) - sp) < lim then
      own_f0_222 q0 q1 p2 off lim nn sp ps ((0 : Int32))
    else
      own_f0_222 q0 q1 p2 off lim nn sp ps ((1 : Int32))
def own_f0_157 (q0 : Int64) (q1 : Int64) (p2 : Int32) (off : Int64) (lim : Int64) (nn : Int32) (sp : Int64) : Int32 :=
  if lim < (0 : Int64) then
    own_f0_186 q0 q1 p2 off lim nn sp (((Int32.toInt64 nn) - sp))
  else
    own_f0_186 q0 q1 p2 off lim nn sp ((own_f7 ((Int32.toInt64 nn) - sp) lim))
def own_f0_222_1 (q0 : Int64) (q1 : Int64) (p2 : Int32) (off : Int64) (lim : Int64) (nn : Int32) (sp : Int64) (ps : Int64) (ea : Int32) : Int32 :=
  if (own_f3 lim (0 : Int64)) = (if lim = (0 : Int64) then (1 : Int32) else (0 : Int32)) then
    if (own_f3 lim (own_pa off lim (own_sk off (0 : Int64)) (own_pa off lim (0 : Int64) (0 : Int64)))) = ea then
      if (Int32.toInt64 (Int32.ofNat (own_sz off lim (own_sk off (0 : Int64)) (own_pa off lim (0 : Int64) (0 : Int64)) (own_sz off lim (0 : Int64) (0 : Int64) 0)))) = ps then
        (1 : Int32)
      else
        (0 : Int32)
    else
      (0 : Int32)
  else
    (0 : Int32)
def own_f0_186_1 (q0 : Int64) (q1 : Int64) (p2 : Int32) (off : Int64) (lim : Int64) (nn : Int32) (sp : Int64) (ps : Int64) : Int32 :=
  if lim < (0 : Int64) then
    own_f0_222_1 q0 q1 p2 off lim nn sp ps ((0 : Int32))
  else
    if ((Int32.toInt64 nn) - sp) < lim then
      own_f0_222_1 q0 q1 p2 off lim nn sp ps ((0 : Int32))
    else
      own_f0_222_1 q0 q1 p2 off lim nn sp ps ((1 : Int32))
def own_f0_157_1 (q0 : Int64) (q1 : Int64) (p2 : Int32) (off : Int64) (lim : Int64) (nn : Int32) (sp : Int64) : Int32 :=
  if lim < (0 : Int64) then
    own_f0_186_1 q0 q1 p2 off lim nn sp (((Int32.toInt64 nn) - sp))
  else
    own_f0_186_1 q0 q1 p2 off lim nn sp ((own_f7 ((Int32.toInt64 nn) - sp) lim))
def own_f0_222_2 (q0 : Int64) (q1 : Int64) (p2 : Int32) (off : Int64) (lim : Int64) (nn : Int32) (sp : Int64) (ps : Int64) (ea : Int32) : Int32 :=
  if (own_f3 lim (0 : Int64)) = (if lim = (0 : Int64) then (1 : Int32) else (0 : Int32)) then
    if (own_f3 lim (own_pa off lim (0 : Int64) (0 : Int64))) = ea then
      if (Int32.toInt64 (Int32.ofNat (own_sz off lim (0 : Int64) (0 : Int64) 0))) = ps then
        (1 : Int32)
      else
        (0 : Int32)
    else
      (0 : Int32)
  else
    (0 : Int32)
def own_f0_186_2 (q0 : Int64) (q1 : Int64) (p2 : Int32) (off : Int64) (lim : Int64) (nn : Int32) (sp : Int64) (ps : Int64) : Int32 :=
  if lim < (0 : Int64) then
    own_f0_222_2 q0 q1 p2 off lim nn sp ps ((0 : Int32))
  else
    if ((Int32.toInt64 nn) - sp) < lim then
      own_f0_222_2 q0 q1 p2 off lim nn sp ps ((0 : Int32))
    else
      own_f0_222_2 q0 q1 p2 off lim nn sp ps ((1 : Int32))
def own_f0_157_2 (q0 : Int64) (q1 : Int64) (p2 : Int32) (off : Int64) (lim : Int64) (nn : Int32) (sp : Int64) : Int32 :=
  if lim < (0 : Int64) then
    own_f0_186_2 q0 q1 p2 off lim nn sp (((Int32.toInt64 nn) - sp))
  else
    own_f0_186_2 q0 q1 p2 off lim nn sp ((own_f7 ((Int32.toInt64 nn) - sp) lim))
def own_f0_222_3 (q0 : Int64) (q1 : Int64) (p2 : Int32) (off : Int64) (lim : Int64) (nn : Int32) (sp : Int64) (ps : Int64) (ea : Int32) : Int32 :=
  if (own_f3 lim (0 : Int64)) = (if lim = (0 : Int64) then (1 : Int32) else (0 : Int32)) then
    if (own_f3 lim (0 : Int64)) = ea then
      if (Int32.toInt64 (0 : Int32)) = ps then
        (1 : Int32)
      else
        (0 : Int32)
    else
      (0 : Int32)
  else
    (0 : Int32)
def own_f0_186_3 (q0 : Int64) (q1 : Int64) (p2 : Int32) (off : Int64) (lim : Int64) (nn : Int32) (sp : Int64) (ps : Int64) : Int32 :=
  if lim < (0 : Int64) then
    own_f0_222_3 q0 q1 p2 off lim nn sp ps ((0 : Int32))
  else
    if ((Int32.toInt64 nn) - sp) < lim then
      own_f0_222_3 q0 q1 p2 off lim nn sp ps ((0 : Int32))
    else
      own_f0_222_3 q0 q1 p2 off lim nn sp ps ((1 : Int32))
def own_f0_157_3 (q0 : Int64) (q1 : Int64) (p2 : Int32) (off : Int64) (lim : Int64) (nn : Int32) (sp : Int64) : Int32 :=
  if lim < (0 : Int64) then
    own_f0_186_3 q0 q1 p2 off lim nn sp (((Int32.toInt64 nn) - sp))
  else
    own_f0_186_3 q0 q1 p2 off lim nn sp ((own_f7 ((Int32.toInt64 nn) - sp) lim))
def own_f0_43 (q0 : Int64) (q1 : Int64) (p2 : Int32) (off : Int64) (lim : Int64) (nn : Int32) : Int32 :=
  if 0 < nn then
    if (1 : Int32) < nn then
      if (2 : Int32) < nn then
        if (0 : Int64) < off then
          if off < (Int32.toInt64 nn) then
            own_f0_157 q0 q1 p2 off lim nn (off)
          else
            own_f0_157 q0 q1 p2 off lim nn ((Int32.toInt64 nn))
        else
          own_f0_157 q0 q1 p2 off lim nn ((0 : Int64))
      else
        if (0 : Int64) < off then
          if off < (Int32.toInt64 nn) then
            own_f0_157_1 q0 q1 p2 off lim nn (off)
          else
            own_f0_157_1 q0 q1 p2 off lim nn ((Int32.toInt64 nn))
        else
          own_f0_157_1 q0 q1 p2 off lim nn ((0 : Int64))
    else
      if (0 : Int64) < off then
        if off < (Int32.toInt64 nn) then
          own_f0_157_2 q0 q1 p2 off lim nn (off)
        else
          own_f0_157_2 q0 q1 p2 off lim nn ((Int32.toInt64 nn))
      else
        own_f0_157_2 q0 q1 p2 off lim nn ((0 : Int64))
  else
    if (0 : Int64) < off then
      if off < (Int32.toInt64 nn) then
        own_f0_157_3 q0 q1 p2 off lim nn (off)
      else
        own_f0_157_3 q0 q1 p2 off lim nn ((Int32.toInt64 nn))
    else
      own_f0_157_3 q0 q1 p2 off lim nn ((0 : Int64))
def own_f0 (q0 : Int64) (q1 : Int64) (p2 : Int32) : Int32 :=
  own_f0_43 q0 q1 p2 ((if (p2 &&& (4 : Int32)) = 0 then (q0 - (q0 / (5 : Int64)) * (5 : Int64)) else q0)) ((if (p2 &&& (8 : Int32)) = 0 then (q1 - (q1 / (5 : Int64)) * (5 : Int64)) else q1)) ((p2 &&& (3 : Int32)))
set_option maxRecDepth 65536 in
set_option maxHeartbeats 40000000 in
theorem rm0 (l : Launch) (Z : State) (a0 : Array Value) (hw : ∀ d ∈ tables_1, d.before a0 Z = true) (q0 : Int64) (q1 : Int64) (p2 : Int32) (h0 : Heap) (n0 : Nat) (Z0 : n0 ≤ h0.size) (dE : Addr) (S0 : Sta Z Z.heap "java/util/ArrayList" "DEFAULTCAPACITY_EMPTY_ELEMENTDATA" "[Ljava/lang/Object;" (.ref dE)) (A0 : own_Ar Z Z.heap dE (.object "java/lang/Object") []) (O0 : Old Z n0 h0) :
    own_Met l x code maxLocals ret room_1 Z tables_1 #[(.long q0), (.long q1), (.int p2)] h0 (own_Q0 (some (.int (own_f0 q0 q1 p2))) n0) := by
  refine own_enter pn_0 ?_
  intro p e s m below meth c s₁ hx hby hml hown hnm hret hlk hZ e0 X0
  rw [ef_0]
  have N0 := Fr.nil n0
  have hml : c.maxLocals = 23 := hml
  show own_Fin _ _ _ _ _ _ _ (s₁.setTop (mkF m 0 #[.val (.long q0), .second, .val (.long q1), .second, .val (.int p2), .unset, .unset, .unset, .unset, .unset, .unset, .unset, .unset, .unset, .unset, .unset, .unset, .unset, .unset, .unset, .unset, .unset, .unset] []))
  have J43 : ∀ (TJ43 : State) (locsJ43 : List Loc) (off : Int64) (lim : Int64) (nn : Int32), Stand p l e room_1 s m #[(.long q0), (.long q1), (.int p2)] below meth c TJ43 locsJ43 0 0 → Fr n0 locsJ43 → TJ43.heap = h0 → (own_f0 q0 q1 p2) = own_f0_43 q0 q1 p2 off lim nn → own_Fin p e below s (own_Q0 (some (.int (own_f0 q0 q1 p2))) n0) room_1.cells room_1.slots (TJ43.setTop (mkF m 43 #[.val (.long q0), .second, .val (.long q1), .second, .val (.int p2), .val (.long off), .second, .val (.long lim), .second, .val (.int nn), .unset, .unset, .unset, .unset, .unset, .unset, .unset, .unset, .unset, .unset, .unset, .unset, .unset] [])) := by
    intro TJ43 locsJ43 off lim nn XJ43 NJ43 eJ43 hjJ43
    refine own_new XJ43 hx hZ hown (hw _ (List.mem_of_getElem? (i := 1) rfl)) (hw _ (List.mem_of_getElem? (i := 2) rfl)) (hw _ (List.mem_of_getElem? (i := 3) rfl)) eJ43 (hb hby at_43) (by decide) (by decide) ?_
    intro T1 h1 b1 g1 X1 e1 E1 A1 D1
    have g_b1 : n0 ≤ b1 := Nat.le_trans Z0 (Nat.le_of_eq g1.symm)
    have f2 := O0.ext E1
    have Z1 := Nat.le_trans Z0 E1.1
    have F1_offset : Fld Z h1 b1 "com/example/tuplelift/tuplelift/service/Pipeline$Sliced" "offset" "J" (.long (0 : Int64)) := D1 (Or.inr (hw _ (List.mem_of_getElem? (i := 11) rfl))) (ty := .long) (by decide)
    have F1_limit : Fld Z h1 b1 "com/example/tuplelift/tuplelift/service/Pipeline$Sliced" "limit" "J" (.long (0 : Int64)) := D1 (Or.inr (hw _ (List.mem_of_getElem? (i := 13) rfl))) (ty := .long) (by decide)
    have F1_passed : Fld Z h1 b1 "com/example/tuplelift/tuplelift/service/Pipeline$Sliced" "passed" "J" (.long (0 : Int64)) := D1 (Or.inl (hw _ (List.mem_of_getElem? (i := 20) rfl))) (ty := .long) (by decide)
    have F1_skipped : Fld Z h1 b1 "com/example/tuplelift/tuplelift/service/Pipeline$Sliced" "skipped" "J" (.long (0 : Int64)) := D1 (Or.inl (hw _ (List.mem_of_getElem? (i := 64) rfl))) (ty := .long) (by decide)
    show own_Fin _ _ _ _ _ _ _ (T1.setTop (mkF m 46 #[.val (.long q0), .second, .val (.long q1), .second, .val (.int p2), .val (.long off), .second, .val (.long lim), .second, .val (.int nn), .unset, .unset, .unset, .unset, .unset, .unset, .unset, .unset, .unset, .unset, .unset, .unset, .unset] [(.ref b1)]))
    refine own_go (fun _ kk => XS.dup X1.here hx rfl (hb hby at_46) rfl rfl (XS.lload X1.here hx rfl (hb hby at_47) rfl (XS.lload X1.here hx rfl (hb hby at_49) rfl kk))) ?_
    show own_Fin _ _ _ _ _ _ _ (T1.setTop (mkF m 51 #[.val (.long q0), .second, .val (.long q1), .second, .val (.int p2), .val (.long off), .second, .val (.long lim), .second, .val (.int nn), .unset, .unset, .unset, .unset, .unset, .unset, .unset, .unset, .unset, .unset, .unset, .unset, .unset] [(.long lim), (.long off), (.ref b1), (.ref b1)]))
    refine own_callN X1 hx hZ rfl hown (hw _ (List.mem_of_getElem? (i := 4) rfl)) (hw _ (List.mem_of_getElem? (i := 5) rfl)) (hw _ (List.mem_of_getElem? (i := 3) rfl)) (hw _ (List.mem_of_getElem? (i := 6) rfl)) (by decide) (rm1 l Z a0 hw b1 off lim h1 n0 Z1 A1 F1_offset F1_limit F1_skipped F1_passed g_b1) e1 (a := b1) (argsL := [(.long off), (.long lim)]) (rest := [(.ref b1)]) rfl rfl (by rw [hml]; rfl) (lenOf pd_0_0 rfl) (hb hby at_51) (W := 1) (Nat.le_of_eq rfl) (by decide) (by decide) (by decide) (by decide) ?_
    rintro v3 T3 L3 X3 ⟨rfl, M3, Kc3, Fc3_offset, Fc3_limit, Fc3_skipped, Fc3_passed⟩
    have N3 := Fr.app NJ43 M3
    have f4 := f2.keep Kc3 (allS g_b1 all0)
    have f5 := A1.keep Kc3
    have Z3 := Nat.le_trans Z1 Kc3.1
    show own_Fin _ _ _ _ _ _ _ (T3.setTop (mkF m 54 #[.val (.long q0), .second, .val (.long q1), .second, .val (.int p2), .val (.long off), .second, .val (.long lim), .second, .val (.int nn), .unset, .unset, .unset, .unset, .unset, .unset, .unset, .unset, .unset, .unset, .unset, .unset, .unset] [(.ref b1)]))
    refine own_go (fun _ kk => XS.astore X3.here hx rfl (hb hby at_54) rfl rfl (l' := #[.val (.long q0), .second, .val (.long q1), .second, .val (.int p2), .val (.long off), .second, .val (.long lim), .second, .val (.int nn), .val (.ref b1), .unset, .unset, .unset, .unset, .unset, .unset, .unset, .unset, .unset, .unset, .unset, .unset]) rfl (XS.aload X3.here hx rfl (hb hby at_56) rfl rfl kk)) ?_
    show own_Fin _ _ _ _ _ _ _ (T3.setTop (mkF m 58 #[.val (.long q0), .second, .val (.long q1), .second, .val (.int p2), .val (.long off), .second, .val (.long lim), .second, .val (.int nn), .val (.ref b1), .unset, .unset, .unset, .unset, .unset, .unset, .unset, .unset, .unset, .unset, .unset, .unset] [(.ref b1)]))
    refine own_callV X3 hx hZ hown (hw _ (List.mem_of_getElem? (i := 14) rfl)) (hw _ (List.mem_of_getElem? (i := 15) rfl)) (notFace_of_selects (args := #[]) (mvT hZ (hw _ (List.mem_of_getElem? (i := 17) rfl)))) (hw _ (List.mem_of_getElem? (i := 17) rfl)) (hw _ (List.mem_of_getElem? (i := 16) rfl)) (hw _ (List.mem_of_getElem? (i := 18) rfl)) (hw _ (List.mem_of_getElem? (i := 3) rfl)) (by decide) (rm3 l Z a0 hw b1 T3.heap n0 Z3 lim (0 : Int64) Fc3_limit Fc3_passed) rfl f5 (argsL := []) (rest := []) rfl rfl (by rw [hml]; rfl) (lenOf pd_0_1 rfl) (hb hby at_58) (W := 0) (Nat.le_of_eq rfl) (by decide) (by decide) (by decide) (by decide) ?_
    rintro v6 T6 L6 X6 ⟨rfl, M6, e6⟩
    have N6 := Fr.app N3 M6
    show own_Fin _ _ _ _ _ _ _ (T6.setTop (mkF m 61 #[.val (.long q0), .second, .val (.long q1), .second, .val (.int p2), .val (.long off), .second, .val (.long lim), .second, .val (.int nn), .val (.ref b1), .unset, .unset, .unset, .unset, .unset, .unset, .unset, .unset, .unset, .unset, .unset, .unset] [(.int (own_f3 lim (0 : Int64)))]))
    refine own_go (fun _ kk => XS.istore X6.here hx rfl (hb hby at_61) rfl (l' := #[.val (.long q0), .second, .val (.long q1), .second, .val (.int p2), .val (.long off), .second, .val (.long lim), .second, .val (.int nn), .val (.ref b1), .val (.int (own_f3 lim (0 : Int64))), .unset, .unset, .unset, .unset, .unset, .unset, .unset, .unset, .unset, .unset, .unset]) rfl kk) ?_
    show own_Fin _ _ _ _ _ _ _ (T6.setTop (mkF m 63 #[.val (.long q0), .second, .val (.long q1), .second, .val (.int p2), .val (.long off), .second, .val (.long lim), .second, .val (.int nn), .val (.ref b1), .val (.int (own_f3 lim (0 : Int64))), .unset, .unset, .unset, .unset, .unset, .unset, .unset, .unset, .unset, .unset, .unset] []))
    refine own_new X6 hx hZ hown (hw _ (List.mem_of_getElem? (i := 21) rfl)) (hw _ (List.mem_of_getElem? (i := 22) rfl)) (hw _ (List.mem_of_getElem? (i := 23) rfl)) e6 (hb hby at_63) (by decide) (by decide) ?_
    intro T7 h7 b7 g7 X7 e7 E7 A7 D7
    have g_b7 : n0 ≤ b7 := Nat.le_trans Z3 (Nat.le_of_eq g7.symm)
    have ne_b1_b7 : b1 ≠ b7 := Nat.ne_of_lt (Nat.lt_of_lt_of_le f5.lt (Nat.le_of_eq g7.symm))
    have f8 := f4.ext E7
    have f9 := f5.ext E7
    have f10 := Fc3_offset.ext E7
    have f11 := Fc3_limit.ext E7
    have f12 := Fc3_skipped.ext E7
    have f13 := Fc3_passed.ext E7
    have Z7 := Nat.le_trans Z3 E7.1
    have F7_modCount : Fld Z h7 b7 "java/util/AbstractList" "modCount" "I" (.int (0 : Int32)) := D7 (Or.inl (hw _ (List.mem_of_getElem? (i := 41) rfl))) (ty := .int) (by decide)
    have F7_elementData : Fld Z h7 b7 "java/util/ArrayList" "elementData" "[Ljava/lang/Object;" .null := D7 (Or.inl (hw _ (List.mem_of_getElem? (i := 44) rfl))) (ty := (.array (.object "java/lang/Object"))) (by decide)
    have F7_size : Fld Z h7 b7 "java/util/ArrayList" "size" "I" (.int (0 : Int32)) := D7 (Or.inl (hw _ (List.mem_of_getElem? (i := 57) rfl))) (ty := .int) (by decide)
    show own_Fin _ _ _ _ _ _ _ (T7.setTop (mkF m 66 #[.val (.long q0), .second, .val (.long q1), .second, .val (.int p2), .val (.long off), .second, .val (.long lim), .second, .val (.int nn), .val (.ref b1), .val (.int (own_f3 lim (0 : Int64))), .unset, .unset, .unset, .unset, .unset, .unset, .unset, .unset, .unset, .unset, .unset] [(.ref b7)]))
    refine own_go (fun _ kk => XS.dup X7.here hx rfl (hb hby at_66) rfl rfl kk) ?_
    show own_Fin _ _ _ _ _ _ _ (T7.setTop (mkF m 67 #[.val (.long q0), .second, .val (.long q1), .second, .val (.int p2), .val (.long off), .second, .val (.long lim), .second, .val (.int nn), .val (.ref b1), .val (.int (own_f3 lim (0 : Int64))), .unset, .unset, .unset, .unset, .unset, .unset, .unset, .unset, .unset, .unset, .unset] [(.ref b7), (.ref b7)]))
    refine own_callN X7 hx hZ rfl hown (hw _ (List.mem_of_getElem? (i := 24) rfl)) (hw _ (List.mem_of_getElem? (i := 25) rfl)) (hw _ (List.mem_of_getElem? (i := 23) rfl)) (hw _ (List.mem_of_getElem? (i := 26) rfl)) (by decide) (rm4 l Z a0 hw b7 h7 n0 Z7 dE S0 A0 f8 A7 F7_size F7_modCount F7_elementData g_b7) e7 (a := b7) (argsL := []) (rest := [(.ref b7)]) rfl rfl (by rw [hml]; rfl) (lenOf pd_0_2 rfl) (hb hby at_67) (W := 1) (Nat.le_of_eq rfl) (by decide) (by decide) (by decide) (by decide) ?_
    rintro v14 T14 L14 X14 ⟨rfl, M14, Kc14, Fs14, Fm14, Fe14⟩
    have N14 := Fr.app N6 M14
    have f15 := f8.keep Kc14 (allS g_b7 all0)
    have f16 := f9.keep Kc14
    have f17 := f10.keep Kc14 (ninS ne_b1_b7 nin0)
    have f18 := f11.keep Kc14 (ninS ne_b1_b7 nin0)
    have f19 := f12.keep Kc14 (ninS ne_b1_b7 nin0)
    have f20 := f13.keep Kc14 (ninS ne_b1_b7 nin0)
    have f21 := A7.keep Kc14
    have Z14 := Nat.le_trans Z7 Kc14.1
    show own_Fin _ _ _ _ _ _ _ (T14.setTop (mkF m 70 #[.val (.long q0), .second, .val (.long q1), .second, .val (.int p2), .val (.long off), .second, .val (.long lim), .second, .val (.int nn), .val (.ref b1), .val (.int (own_f3 lim (0 : Int64))), .unset, .unset, .unset, .unset, .unset, .unset, .unset, .unset, .unset, .unset, .unset] [(.ref b7)]))
    refine own_go (fun _ kk => XS.astore X14.here hx rfl (hb hby at_70) rfl rfl (l' := #[.val (.long q0), .second, .val (.long q1), .second, .val (.int p2), .val (.long off), .second, .val (.long lim), .second, .val (.int nn), .val (.ref b1), .val (.int (own_f3 lim (0 : Int64))), .val (.ref b7), .unset, .unset, .unset, .unset, .unset, .unset, .unset, .unset, .unset, .unset]) rfl (XS.iconst X14.here hx rfl (hb hby at_72) kk)) ?_
    show own_Fin _ _ _ _ _ _ _ (T14.setTop (mkF m 73 #[.val (.long q0), .second, .val (.long q1), .second, .val (.int p2), .val (.long off), .second, .val (.long lim), .second, .val (.int nn), .val (.ref b1), .val (.int (own_f3 lim (0 : Int64))), .val (.ref b7), .unset, .unset, .unset, .unset, .unset, .unset, .unset, .unset, .unset, .unset] [(.int (0 : Int32))]))
    refine own_newO X14 hx hZ hown (hw _ (List.mem_of_getElem? (i := 45) rfl)) (hw _ (List.mem_of_getElem? (i := 46) rfl)) rfl (hb hby at_73) (by decide) (cap := 0) (by decide) (by decide) (by decide) (by decide) rfl ?_
    intro T22 h22 b22 g22 X22 e22 E22 A22 D22
    have g_b22 : n0 ≤ b22 := Nat.le_trans Z14 (Nat.le_of_eq g22.symm)
    have ne_b1_b22 : b1 ≠ b22 := Nat.ne_of_lt (Nat.lt_of_lt_of_le f16.lt (Nat.le_of_eq g22.symm))
    have ne_b7_b22 : b7 ≠ b22 := Nat.ne_of_lt (Nat.lt_of_lt_of_le f21.lt (Nat.le_of_eq g22.symm))
    have f23 := f15.ext E22
    have f24 := f16.ext E22
    have f25 := f17.ext E22
    have f26 := f18.ext E22
    have f27 := f19.ext E22
    have f28 := f20.ext E22
    have f29 := f21.ext E22
    have f30 := Fs14.ext E22
    have f31 := Fm14.ext E22
    have f32 := Fe14.ext E22
    have Z22 := Nat.le_trans Z14 E22.1
    show own_Fin _ _ _ _ _ _ _ (T22.setTop (mkF m 76 #[.val (.long q0), .second, .val (.long q1), .second, .val (.int p2), .val (.long off), .second, .val (.long lim), .second, .val (.int nn), .val (.ref b1), .val (.int (own_f3 lim (0 : Int64))), .val (.ref b7), .unset, .unset, .unset, .unset, .unset, .unset, .unset, .unset, .unset, .unset] [(.ref b22)]))
    refine own_go (fun _ kk => XS.astore X22.here hx rfl (hb hby at_76) rfl rfl (l' := #[.val (.long q0), .second, .val (.long q1), .second, .val (.int p2), .val (.long off), .second, .val (.long lim), .second, .val (.int nn), .val (.ref b1), .val (.int (own_f3 lim (0 : Int64))), .val (.ref b7), .val (.ref b22), .unset, .unset, .unset, .unset, .unset, .unset, .unset, .unset, .unset]) rfl kk) ?_
    show own_Fin _ _ _ _ _ _ _ (T22.setTop (mkF m 78 #[.val (.long q0), .second, .val (.long q1), .second, .val (.int p2), .val (.long off), .second, .val (.long lim), .second, .val (.int nn), .val (.ref b1), .val (.int (own_f3 lim (0 : Int64))), .val (.ref b7), .val (.ref b22), .unset, .unset, .unset, .unset, .unset, .unset, .unset, .unset, .unset] []))
    have I0 : own_I Z h22 n0 b1 b7 b22 dE off lim (0 : Int64) (0 : Int64) 0 dE := ⟨f24, f25, f26, f27, f28, f29, f30, ⟨_, f31⟩, Or.inl ⟨rfl, f32⟩, D22, ne_b1_b7, (Ne.symm ne_b7_b22), (Ne.symm ne_b1_b22), g_b1, g_b7, Z22, f23⟩
    refine own_go (fun _ kk => XS.iload X22.here hx rfl (hb hby at_78) rfl kk) ?_
    show own_Fin _ _ _ _ _ _ _ (T22.setTop (mkF m 80 #[.val (.long q0), .second, .val (.long q1), .second, .val (.int p2), .val (.long off), .second, .val (.long lim), .second, .val (.int nn), .val (.ref b1), .val (.int (own_f3 lim (0 : Int64))), .val (.ref b7), .val (.ref b22), .unset, .unset, .unset, .unset, .unset, .unset, .unset, .unset, .unset] [(.int nn)]))
    by_cases hc80 : 0 < nn
    · refine own_go (fun _ kk => XS.ifNo X22.here hx rfl (hb hby at_80) rfl (XT.i0_le_f hc80) (XS.aload X22.here hx rfl (hb hby at_83) rfl rfl (XS.aload X22.here hx rfl (hb hby at_85) rfl rfl (XS.aload X22.here hx rfl (hb hby at_87) rfl rfl kk)))) ?_
      show own_Fin _ _ _ _ _ _ _ (T22.setTop (mkF m 89 #[.val (.long q0), .second, .val (.long q1), .second, .val (.int p2), .val (.long off), .second, .val (.long lim), .second, .val (.int nn), .val (.ref b1), .val (.int (own_f3 lim (0 : Int64))), .val (.ref b7), .val (.ref b22), .unset, .unset, .unset, .unset, .unset, .unset, .unset, .unset, .unset] [(.ref b7), (.ref b22), (.ref b1)]))
      refine own_callV X22 hx hZ hown (hw _ (List.mem_of_getElem? (i := 58) rfl)) (hw _ (List.mem_of_getElem? (i := 59) rfl)) (notFace_of_selects (args := #[]) (mvT hZ (hw _ (List.mem_of_getElem? (i := 61) rfl)))) (hw _ (List.mem_of_getElem? (i := 61) rfl)) (hw _ (List.mem_of_getElem? (i := 60) rfl)) (hw _ (List.mem_of_getElem? (i := 62) rfl)) (hw _ (List.mem_of_getElem? (i := 3) rfl)) (by decide) (rm9 l Z a0 hw b1 b22 b7 h22 n0 Z22 dE S0 A0 off lim (0 : Int64) (0 : Int64) 0 (by decide) dE I0) e22 f24 (argsL := [(.ref b22), (.ref b7)]) (rest := []) rfl rfl (by rw [hml]; rfl) (lenOf pd_0_3 rfl) (hb hby at_89) (W := 0) (Nat.le_of_eq rfl) (by decide) (by decide) (by decide) (by decide) ?_
      rintro v33 T33 L33 X33 ⟨rfl, M33, ed33, I33⟩
      have N33 := Fr.app N14 M33
      have J33 := I33
      obtain ⟨i33_1, i33_2, i33_3, i33_4, i33_5, i33_6, i33_7, -, -, i33_10, -, -, -, -, -, i33_16, -⟩ := J33
      show own_Fin _ _ _ _ _ _ _ (T33.setTop (mkF m 92 #[.val (.long q0), .second, .val (.long q1), .second, .val (.int p2), .val (.long off), .second, .val (.long lim), .second, .val (.int nn), .val (.ref b1), .val (.int (own_f3 lim (0 : Int64))), .val (.ref b7), .val (.ref b22), .unset, .unset, .unset, .unset, .unset, .unset, .unset, .unset, .unset] []))
      refine own_go (fun _ kk => XS.iload X33.here hx rfl (hb hby at_92) rfl (XS.iconst X33.here hx rfl (hb hby at_94) kk)) ?_
      show own_Fin _ _ _ _ _ _ _ (T33.setTop (mkF m 95 #[.val (.long q0), .second, .val (.long q1), .second, .val (.int p2), .val (.long off), .second, .val (.long lim), .second, .val (.int nn), .val (.ref b1), .val (.int (own_f3 lim (0 : Int64))), .val (.ref b7), .val (.ref b22), .unset, .unset, .unset, .unset, .unset, .unset, .unset, .unset, .unset] [(.int (1 : Int32)), (.int nn)]))
      by_cases hc95 : (1 : Int32) < nn
      · refine own_go (fun _ kk => XS.icmpNo X33.here hx rfl (hb hby at_95) rfl (XT.ii_le_f hc95) (XS.aload X33.here hx rfl (hb hby at_98) rfl rfl (XS.aload X33.here hx rfl (hb hby at_100) rfl rfl (XS.aload X33.here hx rfl (hb hby at_102) rfl rfl kk)))) ?_
        show own_Fin _ _ _ _ _ _ _ (T33.setTop (mkF m 104 #[.val (.long q0), .second, .val (.long q1), .second, .val (.int p2), .val (.long off), .second, .val (.long lim), .second, .val (.int nn), .val (.ref b1), .val (.int (own_f3 lim (0 : Int64))), .val (.ref b7), .val (.ref b22), .unset, .unset, .unset, .unset, .unset, .unset, .unset, .unset, .unset] [(.ref b7), (.ref b22), (.ref b1)]))
        refine own_callV X33 hx hZ hown (hw _ (List.mem_of_getElem? (i := 58) rfl)) (hw _ (List.mem_of_getElem? (i := 59) rfl)) (notFace_of_selects (args := #[]) (mvT hZ (hw _ (List.mem_of_getElem? (i := 61) rfl)))) (hw _ (List.mem_of_getElem? (i := 61) rfl)) (hw _ (List.mem_of_getElem? (i := 60) rfl)) (hw _ (List.mem_of_getElem? (i := 62) rfl)) (hw _ (List.mem_of_getElem? (i := 3) rfl)) (by decide) (rm9 l Z a0 hw b1 b22 b7 T33.heap n0 i33_16 dE S0 A0 off lim (own_sk off (0 : Int64)) (own_pa off lim (0 : Int64) (0 : Int64)) (own_sz off lim (0 : Int64) (0 : Int64) 0) (Nat.le_trans (own_szle _ _ _ _ _) (by decide)) ed33 I33) rfl i33_1 (argsL := [(.ref b22), (.ref b7)]) (rest := []) rfl rfl (by rw [hml]; rfl) (lenOf pd_0_3 rfl) (hb hby at_104) (W := 0) (Nat.le_of_eq rfl) (by decide) (by decide) (by decide) (by decide) ?_
        rintro v34 T34 L34 X34 ⟨rfl, M34, ed34, I34⟩
        have N34 := Fr.app N33 M34
        have J34 := I34
        obtain ⟨i34_1, i34_2, i34_3, i34_4, i34_5, i34_6, i34_7, -, -, i34_10, -, -, -, -, -, i34_16, -⟩ := J34
        show own_Fin _ _ _ _ _ _ _ (T34.setTop (mkF m 107 #[.val (.long q0), .second, .val (.long q1), .second, .val (.int p2), .val (.long off), .second, .val (.long lim), .second, .val (.int nn), .val (.ref b1), .val (.int (own_f3 lim (0 : Int64))), .val (.ref b7), .val (.ref b22), .unset, .unset, .unset, .unset, .unset, .unset, .unset, .unset, .unset] []))
        refine own_go (fun _ kk => XS.iload X34.here hx rfl (hb hby at_107) rfl (XS.iconst X34.here hx rfl (hb hby at_109) kk)) ?_
        show own_Fin _ _ _ _ _ _ _ (T34.setTop (mkF m 110 #[.val (.long q0), .second, .val (.long q1), .second, .val (.int p2), .val (.long off), .second, .val (.long lim), .second, .val (.int nn), .val (.ref b1), .val (.int (own_f3 lim (0 : Int64))), .val (.ref b7), .val (.ref b22), .unset, .unset, .unset, .unset, .unset, .unset, .unset, .unset, .unset] [(.int (2 : Int32)), (.int nn)]))
        by_cases hc110 : (2 : Int32) < nn
        · refine own_go (fun _ kk => XS.icmpNo X34.here hx rfl (hb hby at_110) rfl (XT.ii_le_f hc110) (XS.aload X34.here hx rfl (hb hby at_113) rfl rfl (XS.aload X34.here hx rfl (hb hby at_115) rfl rfl (XS.aload X34.here hx rfl (hb hby at_117) rfl rfl kk)))) ?_
          show own_Fin _ _ _ _ _ _ _ (T34.setTop (mkF m 119 #[.val (.long q0), .second, .val (.long q1), .second, .val (.int p2), .val (.long off), .second, .val (.long lim), .second, .val (.int nn), .val (.ref b1), .val (.int (own_f3 lim (0 : Int64))), .val (.ref b7), .val (.ref b22), .unset, .unset, .unset, .unset, .unset, .unset, .unset, .unset, .unset] [(.ref b7), (.ref b22), (.ref b1)]))
          refine own_callV X34 hx hZ hown (hw _ (List.mem_of_getElem? (i := 58) rfl)) (hw _ (List.mem_of_getElem? (i := 59) rfl)) (notFace_of_selects (args := #[]) (mvT hZ (hw _ (List.mem_of_getElem? (i := 61) rfl)))) (hw _ (List.mem_of_getElem? (i := 61) rfl)) (hw _ (List.mem_of_getElem? (i := 60) rfl)) (hw _ (List.mem_of_getElem? (i := 62) rfl)) (hw _ (List.mem_of_getElem? (i := 3) rfl)) (by decide) (rm9 l Z a0 hw b1 b22 b7 T34.heap n0 i34_16 dE S0 A0 off lim (own_sk off (own_sk off (0 : Int64))) (own_pa off lim (own_sk off (0 : Int64)) (own_pa off lim (0 : Int64) (0 : Int64))) (own_sz off lim (own_sk off (0 : Int64)) (own_pa off lim (0 : Int64) (0 : Int64)) (own_sz off lim (0 : Int64) (0 : Int64) 0)) (Nat.le_trans (own_szle _ _ _ _ _) (Nat.succ_le_succ (own_szle _ _ _ _ _))) ed34 I34) rfl i34_1 (argsL := [(.ref b22), (.ref b7)]) (rest := []) rfl rfl (by rw [hml]; rfl) (lenOf pd_0_3 rfl) (hb hby at_119) (W := 0) (Nat.le_of_eq rfl) (by decide) (by decide) (by decide) (by decide) ?_
          rintro v35 T35 L35 X35 ⟨rfl, M35, ed35, I35⟩
          have N35 := Fr.app N34 M35
          have J35 := I35
          obtain ⟨i35_1, i35_2, i35_3, i35_4, i35_5, i35_6, i35_7, -, -, i35_10, -, -, -, -, -, i35_16, -⟩ := J35
          show own_Fin _ _ _ _ _ _ _ (T35.setTop (mkF m 122 #[.val (.long q0), .second, .val (.long q1), .second, .val (.int p2), .val (.long off), .second, .val (.long lim), .second, .val (.int nn), .val (.ref b1), .val (.int (own_f3 lim (0 : Int64))), .val (.ref b7), .val (.ref b22), .unset, .unset, .unset, .unset, .unset, .unset, .unset, .unset, .unset] []))
          refine own_go (fun _ kk => XS.aload X35.here hx rfl (hb hby at_122) rfl rfl kk) ?_
          show own_Fin _ _ _ _ _ _ _ (T35.setTop (mkF m 124 #[.val (.long q0), .second, .val (.long q1), .second, .val (.int p2), .val (.long off), .second, .val (.long lim), .second, .val (.int nn), .val (.ref b1), .val (.int (own_f3 lim (0 : Int64))), .val (.ref b7), .val (.ref b22), .unset, .unset, .unset, .unset, .unset, .unset, .unset, .unset, .unset] [(.ref b1)]))
          refine own_callV X35 hx hZ hown (hw _ (List.mem_of_getElem? (i := 14) rfl)) (hw _ (List.mem_of_getElem? (i := 15) rfl)) (notFace_of_selects (args := #[]) (mvT hZ (hw _ (List.mem_of_getElem? (i := 17) rfl)))) (hw _ (List.mem_of_getElem? (i := 17) rfl)) (hw _ (List.mem_of_getElem? (i := 16) rfl)) (hw _ (List.mem_of_getElem? (i := 18) rfl)) (hw _ (List.mem_of_getElem? (i := 3) rfl)) (by decide) (rm3 l Z a0 hw b1 T35.heap n0 i35_16 lim (own_pa off lim (own_sk off (own_sk off (0 : Int64))) (own_pa off lim (own_sk off (0 : Int64)) (own_pa off lim (0 : Int64) (0 : Int64)))) i35_3 i35_5) rfl i35_1 (argsL := []) (rest := []) rfl rfl (by rw [hml]; rfl) (lenOf pd_0_1 rfl) (hb hby at_124) (W := 0) (Nat.le_of_eq rfl) (by decide) (by decide) (by decide) (by decide) ?_
          rintro v36 T36 L36 X36 ⟨rfl, M36, e36⟩
          have N36 := Fr.app N35 M36
          show own_Fin _ _ _ _ _ _ _ (T36.setTop (mkF m 127 #[.val (.long q0), .second, .val (.long q1), .second, .val (.int p2), .val (.long off), .second, .val (.long lim), .second, .val (.int nn), .val (.ref b1), .val (.int (own_f3 lim (0 : Int64))), .val (.ref b7), .val (.ref b22), .unset, .unset, .unset, .unset, .unset, .unset, .unset, .unset, .unset] [(.int (own_f3 lim (own_pa off lim (own_sk off (own_sk off (0 : Int64))) (own_pa off lim (own_sk off (0 : Int64)) (own_pa off lim (0 : Int64) (0 : Int64))))))]))
          refine own_go (fun _ kk => XS.istore X36.here hx rfl (hb hby at_127) rfl (l' := #[.val (.long q0), .second, .val (.long q1), .second, .val (.int p2), .val (.long off), .second, .val (.long lim), .second, .val (.int nn), .val (.ref b1), .val (.int (own_f3 lim (0 : Int64))), .val (.ref b7), .val (.ref b22), .val (.int (own_f3 lim (own_pa off lim (own_sk off (own_sk off (0 : Int64))) (own_pa off lim (own_sk off (0 : Int64)) (own_pa off lim (0 : Int64) (0 : Int64)))))), .unset, .unset, .unset, .unset, .unset, .unset, .unset, .unset]) rfl (XS.lload X36.here hx rfl (hb hby at_129) rfl (XS.lconst X36.here hx rfl (hb hby at_131) (XT.lcmp X36.here hx rfl (hb hby at_132) rfl kk)))) ?_
          show own_Fin _ _ _ _ _ _ _ (T36.setTop (mkF m 133 #[.val (.long q0), .second, .val (.long q1), .second, .val (.int p2), .val (.long off), .second, .val (.long lim), .second, .val (.int nn), .val (.ref b1), .val (.int (own_f3 lim (0 : Int64))), .val (.ref b7), .val (.ref b22), .val (.int (own_f3 lim (own_pa off lim (own_sk off (own_sk off (0 : Int64))) (own_pa off lim (own_sk off (0 : Int64)) (own_pa off lim (0 : Int64) (0 : Int64)))))), .unset, .unset, .unset, .unset, .unset, .unset, .unset, .unset] [(.int (XT.cmpL off (0 : Int64)))]))
          have J157 : ∀ (TJ157 : State) (locsJ157 : List Loc) (sp : Int64), Stand p l e room_1 s m #[(.long q0), (.long q1), (.int p2)] below meth c TJ157 locsJ157 6 37 → Fr n0 locsJ157 → TJ157.heap = T35.heap → (own_f0 q0 q1 p2) = own_f0_157 q0 q1 p2 off lim nn sp → own_Fin p e below s (own_Q0 (some (.int (own_f0 q0 q1 p2))) n0) room_1.cells room_1.slots (TJ157.setTop (mkF m 157 #[.val (.long q0), .second, .val (.long q1), .second, .val (.int p2), .val (.long off), .second, .val (.long lim), .second, .val (.int nn), .val (.ref b1), .val (.int (own_f3 lim (0 : Int64))), .val (.ref b7), .val (.ref b22), .val (.int (own_f3 lim (own_pa off lim (own_sk off (own_sk off (0 : Int64))) (own_pa off lim (own_sk off (0 : Int64)) (own_pa off lim (0 : Int64) (0 : Int64)))))), .unset, .unset, .unset, .unset, .unset, .unset, .unset, .unset] [(.long sp)])) := by
            intro TJ157 locsJ157 sp XJ157 NJ157 eJ157 hjJ157
            refine own_go (fun _ kk => XS.lstore XJ157.here hx rfl (hb hby at_157) rfl (l' := #[.val (.long q0), .second, .val (.long q1), .second, .val (.int p2), .val (.long off), .second, .val (.long lim), .second, .val (.int nn), .val (.ref b1), .val (.int (own_f3 lim (0 : Int64))), .val (.ref b7), .val (.ref b22), .val (.int (own_f3 lim (own_pa off lim (own_sk off (own_sk off (0 : Int64))) (own_pa off lim (own_sk off (0 : Int64)) (own_pa off lim (0 : Int64) (0 : Int64)))))), .val (.long sp), .second, .unset, .unset, .unset, .unset, .unset, .unset]) rfl (XS.iload XJ157.here hx rfl (hb hby at_159) rfl (XS.i2l XJ157.here hx rfl (hb hby at_161) rfl (XS.lload XJ157.here hx rfl (hb hby at_162) rfl (XS.lsub XJ157.here hx rfl (hb hby at_164) rfl (XS.lstore XJ157.here hx rfl (hb hby at_165) rfl (l' := #[.val (.long q0), .second, .val (.long q1), .second, .val (.int p2), .val (.long off), .second, .val (.long lim), .second, .val (.int nn), .val (.ref b1), .val (.int (own_f3 lim (0 : Int64))), .val (.ref b7), .val (.ref b22), .val (.int (own_f3 lim (own_pa off lim (own_sk off (own_sk off (0 : Int64))) (own_pa off lim (own_sk off (0 : Int64)) (own_pa off lim (0 : Int64) (0 : Int64)))))), .val (.long sp), .second, .val (.long ((Int32.toInt64 nn) - sp)), .second, .unset, .unset, .unset, .unset]) rfl (XS.lload XJ157.here hx rfl (hb hby at_167) rfl (XS.lconst XJ157.here hx rfl (hb hby at_169) (XT.lcmp XJ157.here hx rfl (hb hby at_170) rfl kk))))))))) ?_
            show own_Fin _ _ _ _ _ _ _ (TJ157.setTop (mkF m 171 #[.val (.long q0), .second, .val (.long q1), .second, .val (.int p2), .val (.long off), .second, .val (.long lim), .second, .val (.int nn), .val (.ref b1), .val (.int (own_f3 lim (0 : Int64))), .val (.ref b7), .val (.ref b22), .val (.int (own_f3 lim (own_pa off lim (own_sk off (own_sk off (0 : Int64))) (own_pa off lim (own_sk off (0 : Int64)) (own_pa off lim (0 : Int64) (0 : Int64)))))), .val (.long sp), .second, .val (.long ((Int32.toInt64 nn) - sp)), .second, .unset, .unset, .unset, .unset] [(.int (XT.cmpL lim (0 : Int64)))]))
            have J186 : ∀ (TJ186 : State) (locsJ186 : List Loc) (ps : Int64), Stand p l e room_1 s m #[(.long q0), (.long q1), (.int p2)] below meth c TJ186 locsJ186 6 37 → Fr n0 locsJ186 → TJ186.heap = T35.heap → (own_f0 q0 q1 p2) = own_f0_186 q0 q1 p2 off lim nn sp ps → own_Fin p e below s (own_Q0 (some (.int (own_f0 q0 q1 p2))) n0) room_1.cells room_1.slots (TJ186.setTop (mkF m 186 #[.val (.long q0), .second, .val (.long q1), .second, .val (.int p2), .val (.long off), .second, .val (.long lim), .second, .val (.int nn), .val (.ref b1), .val (.int (own_f3 lim (0 : Int64))), .val (.ref b7), .val (.ref b22), .val (.int (own_f3 lim (own_pa off lim (own_sk off (own_sk off (0 : Int64))) (own_pa off lim (own_sk off (0 : Int64)) (own_pa off lim (0 : Int64) (0 : Int64)))))), .val (.long sp), .second, .val (.long ((Int32.toInt64 nn) - sp)), .second, .unset, .unset, .unset, .unset] [(.long ps)])) := by
              intro TJ186 locsJ186 ps XJ186 NJ186 eJ186 hjJ186
              refine own_go (fun _ kk => XS.lstore XJ186.here hx rfl (hb hby at_186) rfl (l' := #[.val (.long q0), .second, .val (.long q1), .second, .val (.int p2), .val (.long off), .second, .val (.long lim), .second, .val (.int nn), .val (.ref b1), .val (.int (own_f3 lim (0 : Int64))), .val (.ref b7), .val (.ref b22), .val (.int (own_f3 lim (own_pa off lim (own_sk off (own_sk off (0 : Int64))) (own_pa off lim (own_sk off (0 : Int64)) (own_pa off lim (0 : Int64) (0 : Int64)))))), .val (.long sp), .second, .val (.long ((Int32.toInt64 nn) - sp)), .second, .val (.long ps), .second, .unset, .unset]) rfl (XS.lload XJ186.here hx rfl (hb hby at_188) rfl (XS.lconst XJ186.here hx rfl (hb hby at_190) (XT.lcmp XJ186.here hx rfl (hb hby at_191) rfl kk)))) ?_
              show own_Fin _ _ _ _ _ _ _ (TJ186.setTop (mkF m 192 #[.val (.long q0), .second, .val (.long q1), .second, .val (.int p2), .val (.long off), .second, .val (.long lim), .second, .val (.int nn), .val (.ref b1), .val (.int (own_f3 lim (0 : Int64))), .val (.ref b7), .val (.ref b22), .val (.int (own_f3 lim (own_pa off lim (own_sk off (own_sk off (0 : Int64))) (own_pa off lim (own_sk off (0 : Int64)) (own_pa off lim (0 : Int64) (0 : Int64)))))), .val (.long sp), .second, .val (.long ((Int32.toInt64 nn) - sp)), .second, .val (.long ps), .second, .unset, .unset] [(.int (XT.cmpL lim (0 : Int64)))]))
              refine own_go (U' := TJ186.setTop (mkF m 200 #[.val (.long q0), .second, .val (.long q1), .second, .val (.int p2), .val (.long off), .second, .val (.long lim), .second, .val (.int nn), .val (.ref b1), .val (.int (own_f3 lim (0 : Int64))), .val (.ref b7), .val (.ref b22), .val (.int (own_f3 lim (own_pa off lim (own_sk off (own_sk off (0 : Int64))) (own_pa off lim (own_sk off (0 : Int64)) (own_pa off lim (0 : Int64) (0 : Int64)))))), .val (.long sp), .second, .val (.long ((Int32.toInt64 nn) - sp)), .second, .val (.long ps), .second, .unset, .unset] [(.int (if lim = (0 : Int64) then (1 : Int32) else (0 : Int32)))])) (fun t k => ?_) ?_
              · by_cases hd192 : lim = (0 : Int64)
                · simp only [if_pos hd192] at k
                  refine XS.ifNo XJ186.here hx rfl (hb hby at_192) rfl (XT.ll_ne_f hd192) (XS.iconst XJ186.here hx rfl (hb hby at_195) (XS.goto XJ186.here hx rfl (pc0 := 196) (pc' := 200) rfl (hb hby at_196) (by decide) (by decide) ?_))
                  show Steps p.tables e below (TJ186.setTop (mkF m 200 #[.val (.long q0), .second, .val (.long q1), .second, .val (.int p2), .val (.long off), .second, .val (.long lim), .second, .val (.int nn), .val (.ref b1), .val (.int (own_f3 lim (0 : Int64))), .val (.ref b7), .val (.ref b22), .val (.int (own_f3 lim (own_pa off lim (own_sk off (own_sk off (0 : Int64))) (own_pa off lim (own_sk off (0 : Int64)) (own_pa off lim (0 : Int64) (0 : Int64)))))), .val (.long sp), .second, .val (.long ((Int32.toInt64 nn) - sp)), .second, .val (.long ps), .second, .unset, .unset] [(.int (1 : Int32))])) _
                  exact k
                · simp only [if_neg hd192] at k
                  refine XS.ifYes XJ186.here hx rfl (pc0 := 192) (pc' := 199) rfl (hb hby at_192) rfl (XT.ll_ne_t hd192) (by decide) (by decide) (XS.iconst XJ186.here hx rfl (hb hby at_199) ?_)
                  show Steps p.tables e below (TJ186.setTop (mkF m 200 #[.val (.long q0), .second, .val (.long q1), .second, .val (.int p2), .val (.long off), .second, .val (.long lim), .second, .val (.int nn), .val (.ref b1), .val (.int (own_f3 lim (0 : Int64))), .val (.ref b7), .val (.ref b22), .val (.int (own_f3 lim (own_pa off lim (own_sk off (own_sk off (0 : Int64))) (own_pa off lim (own_sk off (0 : Int64)) (own_pa off lim (0 : Int64) (0 : Int64)))))), .val (.long sp), .second, .val (.long ((Int32.toInt64 nn) - sp)), .second, .val (.long ps), .second, .unset, .unset] [(.int (0 : Int32))])) _
                  exact k
              show own_Fin _ _ _ _ _ _ _ (TJ186.setTop (mkF m 200 #[.val (.long q0), .second, .val (.long q1), .second, .val (.int p2), .val (.long off), .second, .val (.long lim), .second, .val (.int nn), .val (.ref b1), .val (.int (own_f3 lim (0 : Int64))), .val (.ref b7), .val (.ref b22), .val (.int (own_f3 lim (own_pa off lim (own_sk off (own_sk off (0 : Int64))) (own_pa off lim (own_sk off (0 : Int64)) (own_pa off lim (0 : Int64) (0 : Int64)))))), .val (.long sp), .second, .val (.long ((Int32.toInt64 nn) - sp)), .second, .val (.long ps), .second, .unset, .unset] [(.int (if lim = (0 : Int64) then (1 : Int32) else (0 : Int32)))]))
              refine own_go (fun _ kk => XS.istore XJ186.here hx rfl (hb hby at_200) rfl (l' := #[.val (.long q0), .second, .val (.long q1), .second, .val (.int p2), .val (.long off), .second, .val (.long lim), .second, .val (.int nn), .val (.ref b1), .val (.int (own_f3 lim (0 : Int64))), .val (.ref b7), .val (.ref b22), .val (.int (own_f3 lim (own_pa off lim (own_sk off (own_sk off (0 : Int64))) (own_pa off lim (own_sk off (0 : Int64)) (own_pa off lim (0 : Int64) (0 : Int64)))))), .val (.long sp), .second, .val (.long ((Int32.toInt64 nn) - sp)), .second, .val (.long ps), .second, .val (.int (if lim = (0 : Int64) then (1 : Int32) else (0 : Int32))), .unset]) rfl (XS.lload XJ186.here hx rfl (hb hby at_202) rfl (XS.lconst XJ186.here hx rfl (hb hby at_204) (XT.lcmp XJ186.here hx rfl (hb hby at_205) rfl kk)))) ?_
              show own_Fin _ _ _ _ _ _ _ (TJ186.setTop (mkF m 206 #[.val (.long q0), .second, .val (.long q1), .second, .val (.int p2), .val (.long off), .second, .val (.long lim), .second, .val (.int nn), .val (.ref b1), .val (.int (own_f3 lim (0 : Int64))), .val (.ref b7), .val (.ref b22), .val (.int (own_f3 lim (own_pa off lim (own_sk off (own_sk off (0 : Int64))) (own_pa off lim (own_sk off (0 : Int64)) (own_pa off lim (0 : Int64) (0 : Int64)))))), .val (.long sp), .second, .val (.long ((Int32.toInt64 nn) - sp)), .second, .val (.long ps), .second, .val (.int (if lim = (0 : Int64) then (1 : Int32) else (0 : Int32))), .unset] [(.int (XT.cmpL lim (0 : Int64)))]))
              have J222 : ∀ (TJ222 : State) (locsJ222 : List Loc) (ea : Int32), Stand p l e room_1 s m #[(.long q0), (.long q1), (.int p2)] below meth c TJ222 locsJ222 6 37 → Fr n0 locsJ222 → TJ222.heap = T35.heap → (own_f0 q0 q1 p2) = own_f0_222 q0 q1 p2 off lim nn sp ps ea → own_Fin p e below s (own_Q0 (some (.int (own_f0 q0 q1 p2))) n0) room_1.cells room_1.slots (TJ222.setTop (mkF m 222 #[.val (.long q0), .second, .val (.long q1), .second, .val (.int p2), .val (.long off), .second, .val (.long lim), .second, .val (.int nn), .val (.ref b1), .val (.int (own_f3 lim (0 : Int64))), .val (.ref b7), .val (.ref b22), .val (.int (own_f3 lim (own_pa off lim (own_sk off (own_sk off (0 : Int64))) (own_pa off lim (own_sk off (0 : Int64)) (own_pa off lim (0 : Int64) (0 : Int64)))))), .val (.long sp), .second, .val (.long ((Int32.toInt64 nn) - sp)), .second, .val (.long ps), .second, .val (.int (if lim = (0 : Int64) then (1 : Int32) else (0 : Int32))), .unset] [(.int ea)])) := by
                intro TJ222 locsJ222 ea XJ222 NJ222 eJ222 hjJ222
                refine own_go (fun _ kk => XS.istore XJ222.here hx rfl (hb hby at_222) rfl (l' := #[.val (.long q0), .second, .val (.long q1), .second, .val (.int p2), .val (.long off), .second, .val (.long lim), .second, .val (.int nn), .val (.ref b1), .val (.int (own_f3 lim (0 : Int64))), .val (.ref b7), .val (.ref b22), .val (.int (own_f3 lim (own_pa off lim (own_sk off (own_sk off (0 : Int64))) (own_pa off lim (own_sk off (0 : Int64)) (own_pa off lim (0 : Int64) (0 : Int64)))))), .val (.long sp), .second, .val (.long ((Int32.toInt64 nn) - sp)), .second, .val (.long ps), .second, .val (.int (if lim = (0 : Int64) then (1 : Int32) else (0 : Int32))), .val (.int ea)]) rfl (XS.iload XJ222.here hx rfl (hb hby at_224) rfl (XS.iload XJ222.here hx rfl (hb hby at_226) rfl kk))) ?_
                show own_Fin _ _ _ _ _ _ _ (TJ222.setTop (mkF m 228 #[.val (.long q0), .second, .val (.long q1), .second, .val (.int p2), .val (.long off), .second, .val (.long lim), .second, .val (.int nn), .val (.ref b1), .val (.int (own_f3 lim (0 : Int64))), .val (.ref b7), .val (.ref b22), .val (.int (own_f3 lim (own_pa off lim (own_sk off (own_sk off (0 : Int64))) (own_pa off lim (own_sk off (0 : Int64)) (own_pa off lim (0 : Int64) (0 : Int64)))))), .val (.long sp), .second, .val (.long ((Int32.toInt64 nn) - sp)), .second, .val (.long ps), .second, .val (.int (if lim = (0 : Int64) then (1 : Int32) else (0 : Int32))), .val (.int ea)] [(.int (if lim = (0 : Int64) then (1 : Int32) else (0 : Int32))), (.int (own_f3 lim (0 : Int64)))]))
                by_cases hc228 : (own_f3 lim (0 : Int64)) = (if lim = (0 : Int64) then (1 : Int32) else (0 : Int32))
                · refine own_go (fun _ kk => XS.icmpNo XJ222.here hx rfl (hb hby at_228) rfl (XT.ii_ne_f hc228) (XS.iload XJ222.here hx rfl (hb hby at_231) rfl (XS.iload XJ222.here hx rfl (hb hby at_233) rfl kk))) ?_
                  show own_Fin _ _ _ _ _ _ _ (TJ222.setTop (mkF m 235 #[.val (.long q0), .second, .val (.long q1), .second, .val (.int p2), .val (.long off), .second, .val (.long lim), .second, .val (.int nn), .val (.ref b1), .val (.int (own_f3 lim (0 : Int64))), .val (.ref b7), .val (.ref b22), .val (.int (own_f3 lim (own_pa off lim (own_sk off (own_sk off (0 : Int64))) (own_pa off lim (own_sk off (0 : Int64)) (own_pa off lim (0 : Int64) (0 : Int64)))))), .val (.long sp), .second, .val (.long ((Int32.toInt64 nn) - sp)), .second, .val (.long ps), .second, .val (.int (if lim = (0 : Int64) then (1 : Int32) else (0 : Int32))), .val (.int ea)] [(.int ea), (.int (own_f3 lim (own_pa off lim (own_sk off (own_sk off (0 : Int64))) (own_pa off lim (own_sk off (0 : Int64)) (own_pa off lim (0 : Int64) (0 : Int64))))))]))
                  by_cases hc235 : (own_f3 lim (own_pa off lim (own_sk off (own_sk off (0 : Int64))) (own_pa off lim (own_sk off (0 : Int64)) (own_pa off lim (0 : Int64) (0 : Int64))))) = ea
                  · refine own_go (fun _ kk => XS.icmpNo XJ222.here hx rfl (hb hby at_235) rfl (XT.ii_ne_f hc235) (XS.aload XJ222.here hx rfl (hb hby at_238) rfl rfl kk)) ?_
                    show own_Fin _ _ _ _ _ _ _ (TJ222.setTop (mkF m 240 #[.val (.long q0), .second, .val (.long q1), .second, .val (.int p2), .val (.long off), .second, .val (.long lim), .second, .val (.int nn), .val (.ref b1), .val (.int (own_f3 lim (0 : Int64))), .val (.ref b7), .val (.ref b22), .val (.int (own_f3 lim (own_pa off lim (own_sk off (own_sk off (0 : Int64))) (own_pa off lim (own_sk off (0 : Int64)) (own_pa off lim (0 : Int64) (0 : Int64)))))), .val (.long sp), .second, .val (.long ((Int32.toInt64 nn) - sp)), .second, .val (.long ps), .second, .val (.int (if lim = (0 : Int64) then (1 : Int32) else (0 : Int32))), .val (.int ea)] [(.ref b7)]))
                    refine own_callV XJ222 hx hZ hown (hw _ (List.mem_of_getElem? (i := 51) rfl)) (hw _ (List.mem_of_getElem? (i := 52) rfl)) (notFace_of_selects (args := #[]) (mvT hZ (hw _ (List.mem_of_getElem? (i := 54) rfl)))) (hw _ (List.mem_of_getElem? (i := 54) rfl)) (hw _ (List.mem_of_getElem? (i := 53) rfl)) (hw _ (List.mem_of_getElem? (i := 55) rfl)) (hw _ (List.mem_of_getElem? (i := 23) rfl)) (by decide) (rm8 l Z a0 hw b7 T35.heap n0 i35_16 (Int32.ofNat (own_sz off lim (own_sk off (own_sk off (0 : Int64))) (own_pa off lim (own_sk off (0 : Int64)) (own_pa off lim (0 : Int64) (0 : Int64))) (own_sz off lim (own_sk off (0 : Int64)) (own_pa off lim (0 : Int64) (0 : Int64)) (own_sz off lim (0 : Int64) (0 : Int64) 0)))) i35_7) eJ222 i35_6 (argsL := []) (rest := []) rfl rfl (by rw [hml]; rfl) (lenOf pd_0_4 rfl) (hb hby at_240) (W := 0) (Nat.le_of_eq rfl) (by decide) (by decide) (by decide) (by decide) ?_
                    rintro v37 T37 L37 X37 ⟨rfl, M37, e37⟩
                    have N37 := Fr.app NJ222 M37
                    show own_Fin _ _ _ _ _ _ _ (T37.setTop (mkF m 243 #[.val (.long q0), .second, .val (.long q1), .second, .val (.int p2), .val (.long off), .second, .val (.long lim), .second, .val (.int nn), .val (.ref b1), .val (.int (own_f3 lim (0 : Int64))), .val (.ref b7), .val (.ref b22), .val (.int (own_f3 lim (own_pa off lim (own_sk off (own_sk off (0 : Int64))) (own_pa off lim (own_sk off (0 : Int64)) (own_pa off lim (0 : Int64) (0 : Int64)))))), .val (.long sp), .second, .val (.long ((Int32.toInt64 nn) - sp)), .second, .val (.long ps), .second, .val (.int (if lim = (0 : Int64) then (1 : Int32) else (0 : Int32))), .val (.int ea)] [(.int (Int32.ofNat (own_sz off lim (own_sk off (own_sk off (0 : Int64))) (own_pa off lim (own_sk off (0 : Int64)) (own_pa off lim (0 : Int64) (0 : Int64))) (own_sz off lim (own_sk off (0 : Int64)) (own_pa off lim (0 : Int64) (0 : Int64)) (own_sz off lim (0 : Int64) (0 : Int64) 0)))))]))
                    refine own_go (fun _ kk => XS.i2l X37.here hx rfl (hb hby at_243) rfl (XS.lload X37.here hx rfl (hb hby at_244) rfl (XT.lcmp X37.here hx rfl (hb hby at_246) rfl kk))) ?_
                    show own_Fin _ _ _ _ _ _ _ (T37.setTop (mkF m 247 #[.val (.long q0), .second, .val (.long q1), .second, .val (.int p2), .val (.long off), .second, .val (.long lim), .second, .val (.int nn), .val (.ref b1), .val (.int (own_f3 lim (0 : Int64))), .val (.ref b7), .val (.ref b22), .val (.int (own_f3 lim (own_pa off lim (own_sk off (own_sk off (0 : Int64))) (own_pa off lim (own_sk off (0 : Int64)) (own_pa off lim (0 : Int64) (0 : Int64)))))), .val (.long sp), .second, .val (.long ((Int32.toInt64 nn) - sp)), .second, .val (.long ps), .second, .val (.int (if lim = (0 : Int64) then (1 : Int32) else (0 : Int32))), .val (.int ea)] [(.int (XT.cmpL (Int32.toInt64 (Int32.ofNat (own_sz off lim (own_sk off (own_sk off (0 : Int64))) (own_pa off lim (own_sk off (0 : Int64)) (own_pa off lim (0 : Int64) (0 : Int64))) (own_sz off lim (own_sk off (0 : Int64)) (own_pa off lim (0 : Int64) (0 : Int64)) (own_sz off lim (0 : Int64) (0 : Int64) 0))))) ps))]))
                    by_cases hc247 : (Int32.toInt64 (Int32.ofNat (own_sz off lim (own_sk off (own_sk off (0 : Int64))) (own_pa off lim (own_sk off (0 : Int64)) (own_pa off lim (0 : Int64) (0 : Int64))) (own_sz off lim (own_sk off (0 : Int64)) (own_pa off lim (0 : Int64) (0 : Int64)) (own_sz off lim (0 : Int64) (0 : Int64) 0))))) = ps
                    · refine own_go (fun _ kk => XS.ifNo X37.here hx rfl (hb hby at_247) rfl (XT.ll_ne_f hc247) (XS.iconst X37.here hx rfl (hb hby at_250) (XS.goto X37.here hx rfl (pc0 := 251) (pc' := 255) rfl (hb hby at_251) (by decide) (by decide) kk))) ?_
                      show own_Fin _ _ _ _ _ _ _ (T37.setTop (mkF m 255 #[.val (.long q0), .second, .val (.long q1), .second, .val (.int p2), .val (.long off), .second, .val (.long lim), .second, .val (.int nn), .val (.ref b1), .val (.int (own_f3 lim (0 : Int64))), .val (.ref b7), .val (.ref b22), .val (.int (own_f3 lim (own_pa off lim (own_sk off (own_sk off (0 : Int64))) (own_pa off lim (own_sk off (0 : Int64)) (own_pa off lim (0 : Int64) (0 : Int64)))))), .val (.long sp), .second, .val (.long ((Int32.toInt64 nn) - sp)), .second, .val (.long ps), .second, .val (.int (if lim = (0 : Int64) then (1 : Int32) else (0 : Int32))), .val (.int ea)] [(.int (1 : Int32))]))
                      exact own_retZ X37 hx hlk hret rfl (hb hby at_255) (by decide) (by decide) ⟨(by rw [hjJ222, own_f0_222, if_pos hc228, if_pos hc235, if_pos hc247]), N37⟩
                    · refine own_go (fun _ kk => XS.ifYes X37.here hx rfl (pc0 := 247) (pc' := 254) rfl (hb hby at_247) rfl (XT.ll_ne_t hc247) (by decide) (by decide) (XS.iconst X37.here hx rfl (hb hby at_254) kk)) ?_
                      show own_Fin _ _ _ _ _ _ _ (T37.setTop (mkF m 255 #[.val (.long q0), .second, .val (.long q1), .second, .val (.int p2), .val (.long off), .second, .val (.long lim), .second, .val (.int nn), .val (.ref b1), .val (.int (own_f3 lim (0 : Int64))), .val (.ref b7), .val (.ref b22), .val (.int (own_f3 lim (own_pa off lim (own_sk off (own_sk off (0 : Int64))) (own_pa off lim (own_sk off (0 : Int64)) (own_pa off lim (0 : Int64) (0 : Int64)))))), .val (.long sp), .second, .val (.long ((Int32.toInt64 nn) - sp)), .second, .val (.long ps), .second, .val (.int (if lim = (0 : Int64) then (1 : Int32) else (0 : Int32))), .val (.int ea)] [(.int (0 : Int32))]))
                      exact own_retZ X37 hx hlk hret rfl (hb hby at_255) (by decide) (by decide) ⟨(by rw [hjJ222, own_f0_222, if_pos hc228, if_pos hc235, if_neg hc247]), N37⟩
                  · refine own_go (fun _ kk => XS.icmpYes XJ222.here hx rfl (pc0 := 235) (pc' := 254) rfl (hb hby at_235) rfl (XT.ii_ne_t hc235) (by decide) (by decide) (XS.iconst XJ222.here hx rfl (hb hby at_254) kk)) ?_
                    show own_Fin _ _ _ _ _ _ _ (TJ222.setTop (mkF m 255 #[.val (.long q0), .second, .val (.long q1), .second, .val (.int p2), .val (.long off), .second, .val (.long lim), .second, .val (.int nn), .val (.ref b1), .val (.int (own_f3 lim (0 : Int64))), .val (.ref b7), .val (.ref b22), .val (.int (own_f3 lim (own_pa off lim (own_sk off (own_sk off (0 : Int64))) (own_pa off lim (own_sk off (0 : Int64)) (own_pa off lim (0 : Int64) (0 : Int64)))))), .val (.long sp), .second, .val (.long ((Int32.toInt64 nn) - sp)), .second, .val (.long ps), .second, .val (.int (if lim = (0 : Int64) then (1 : Int32) else (0 : Int32))), .val (.int ea)] [(.int (0 : Int32))]))
                    exact own_retZ XJ222 hx hlk hret rfl (hb hby at_255) (by decide) (by decide) ⟨(by rw [hjJ222, own_f0_222, if_pos hc228, if_neg hc235]), NJ222⟩
                · refine own_go (fun _ kk => XS.icmpYes XJ222.here hx rfl (pc0 := 228) (pc' := 254) rfl (hb hby at_228) rfl (XT.ii_ne_t hc228) (by decide) (by decide) (XS.iconst XJ222.here hx rfl (hb hby at_254) kk)) ?_
                  show own_Fin _ _ _ _ _ _ _ (TJ222.setTop (mkF m 255 #[.val (.long q0), .second, .val (.long q1), .second, .val (.int p2), .val (.long off), .second, .val (.long lim), .second, .val (.int nn), .val (.ref b1), .val (.int (own_f3 lim (0 : Int64))), .val (.ref b7), .val (.ref b22), .val (.int (own_f3 lim (own_pa off lim (own_sk off (own_sk off (0 : Int64))) (own_pa off lim (own_sk off (0 : Int64)) (own_pa off lim (0 : Int64) (0 : Int64)))))), .val (.long sp), .second, .val (.long ((Int32.toInt64 nn) - sp)), .second, .val (.long ps), .second, .val (.int (if lim = (0 : Int64) then (1 : Int32) else (0 : Int32))), .val (.int ea)] [(.int (0 : Int32))]))
                  exact own_retZ XJ222 hx hlk hret rfl (hb hby at_255) (by decide) (by decide) ⟨(by rw [hjJ222, own_f0_222, if_neg hc228]), NJ222⟩
              by_cases hc206 : lim < (0 : Int64)
              · refine own_go (fun _ kk => XS.ifYes XJ186.here hx rfl (pc0 := 206) (pc' := 221) rfl (hb hby at_206) rfl (XT.ll_lt_t hc206) (by decide) (by decide) (XS.iconst XJ186.here hx rfl (hb hby at_221) kk)) ?_
                show own_Fin _ _ _ _ _ _ _ (TJ186.setTop (mkF m 222 #[.val (.long q0), .second, .val (.long q1), .second, .val (.int p2), .val (.long off), .second, .val (.long lim), .second, .val (.int nn), .val (.ref b1), .val (.int (own_f3 lim (0 : Int64))), .val (.ref b7), .val (.ref b22), .val (.int (own_f3 lim (own_pa off lim (own_sk off (own_sk off (0 : Int64))) (own_pa off lim (own_sk off (0 : Int64)) (own_pa off lim (0 : Int64) (0 : Int64)))))), .val (.long sp), .second, .val (.long ((Int32.toInt64 nn) - sp)), .second, .val (.long ps), .second, .val (.int (if lim = (0 : Int64) then (1 : Int32) else (0 : Int32))), .unset] [(.int (0 : Int32))]))
                exact J222 _ _ ((0 : Int32)) XJ186 NJ186 eJ186 (by rw [hjJ186, own_f0_186, if_pos hc206])
              · refine own_go (fun _ kk => XS.ifNo XJ186.here hx rfl (hb hby at_206) rfl (XT.ll_lt_f hc206) (XS.lload XJ186.here hx rfl (hb hby at_209) rfl (XS.lload XJ186.here hx rfl (hb hby at_211) rfl (XT.lcmp XJ186.here hx rfl (hb hby at_213) rfl kk)))) ?_
                show own_Fin _ _ _ _ _ _ _ (TJ186.setTop (mkF m 214 #[.val (.long q0), .second, .val (.long q1), .second, .val (.int p2), .val (.long off), .second, .val (.long lim), .second, .val (.int nn), .val (.ref b1), .val (.int (own_f3 lim (0 : Int64))), .val (.ref b7), .val (.ref b22), .val (.int (own_f3 lim (own_pa off lim (own_sk off (own_sk off (0 : Int64))) (own_pa off lim (own_sk off (0 : Int64)) (own_pa off lim (0 : Int64) (0 : Int64)))))), .val (.long sp), .second, .val (.long ((Int32.toInt64 nn) - sp)), .second, .val (.long ps), .second, .val (.int (if lim = (0 : Int64) then (1 : Int32) else (0 : Int32))), .unset] [(.int (XT.cmpL ((Int32.toInt64 nn) - sp) lim))]))
                by_cases hc214 : ((Int32.toInt64 nn) - sp) < lim
                · refine own_go (fun _ kk => XS.ifYes XJ186.here hx rfl (pc0 := 214) (pc' := 221) rfl (hb hby at_214) rfl (XT.ll_lt_t hc214) (by decide) (by decide) (XS.iconst XJ186.here hx rfl (hb hby at_221) kk)) ?_
                  show own_Fin _ _ _ _ _ _ _ (TJ186.setTop (mkF m 222 #[.val (.long q0), .second, .val (.long q1), .second, .val (.int p2), .val (.long off), .second, .val (.long lim), .second, .val (.int nn), .val (.ref b1), .val (.int (own_f3 lim (0 : Int64))), .val (.ref b7), .val (.ref b22), .val (.int (own_f3 lim (own_pa off lim (own_sk off (own_sk off (0 : Int64))) (own_pa off lim (own_sk off (0 : Int64)) (own_pa off lim (0 : Int64) (0 : Int64)))))), .val (.long sp), .second, .val (.long ((Int32.toInt64 nn) - sp)), .second, .val (.long ps), .second, .val (.int (if lim = (0 : Int64) then (1 : Int32) else (0 : Int32))), .unset] [(.int (0 : Int32))]))
                  exact J222 _ _ ((0 : Int32)) XJ186 NJ186 eJ186 (by rw [hjJ186, own_f0_186, if_neg hc206, if_pos hc214])
                · refine own_go (fun _ kk => XS.ifNo XJ186.here hx rfl (hb hby at_214) rfl (XT.ll_lt_f hc214) (XS.iconst XJ186.here hx rfl (hb hby at_217) (XS.goto XJ186.here hx rfl (pc0 := 218) (pc' := 222) rfl (hb hby at_218) (by decide) (by decide) kk))) ?_
                  show own_Fin _ _ _ _ _ _ _ (TJ186.setTop (mkF m 222 #[.val (.long q0), .second, .val (.long q1), .second, .val (.int p2), .val (.long off), .second, .val (.long lim), .second, .val (.int nn), .val (.ref b1), .val (.int (own_f3 lim (0 : Int64))), .val (.ref b7), .val (.ref b22), .val (.int (own_f3 lim (own_pa off lim (own_sk off (own_sk off (0 : Int64))) (own_pa off lim (own_sk off (0 : Int64)) (own_pa off lim (0 : Int64) (0 : Int64)))))), .val (.long sp), .second, .val (.long ((Int32.toInt64 nn) - sp)), .second, .val (.long ps), .second, .val (.int (if lim = (0 : Int64) then (1 : Int32) else (0 : Int32))), .unset] [(.int (1 : Int32))]))
                  exact J222 _ _ ((1 : Int32)) XJ186 NJ186 eJ186 (by rw [hjJ186, own_f0_186, if_neg hc206, if_neg hc214])
            by_cases hc171 : lim < (0 : Int64)
            · refine own_go (fun _ kk => XS.ifNo XJ157.here hx rfl (hb hby at_171) rfl (XT.ll_ge_f hc171) (XS.lload XJ157.here hx rfl (hb hby at_174) rfl (XS.goto XJ157.here hx rfl (pc0 := 176) (pc' := 186) rfl (hb hby at_176) (by decide) (by decide) kk))) ?_
              show own_Fin _ _ _ _ _ _ _ (TJ157.setTop (mkF m 186 #[.val (.long q0), .second, .val (.long q1), .second, .val (.int p2), .val (.long off), .second, .val (.long lim), .second, .val (.int nn), .val (.ref b1), .val (.int (own_f3 lim (0 : Int64))), .val (.ref b7), .val (.ref b22), .val (.int (own_f3 lim (own_pa off lim (own_sk off (own_sk off (0 : Int64))) (own_pa off lim (own_sk off (0 : Int64)) (own_pa off lim (0 : Int64) (0 : Int64)))))), .val (.long sp), .second, .val (.long ((Int32.toInt64 nn) - sp)), .second, .unset, .unset, .unset, .unset] [(.long ((Int32.toInt64 nn) - sp))]))
              exact J186 _ _ (((Int32.toInt64 nn) - sp)) XJ157 NJ157 eJ157 (by rw [hjJ157, own_f0_157, if_pos hc171])
            · refine own_go (fun _ kk => XS.ifYes XJ157.here hx rfl (pc0 := 171) (pc' := 179) rfl (hb hby at_171) rfl (XT.ll_ge_t hc171) (by decide) (by decide) (XS.lload XJ157.here hx rfl (hb hby at_179) rfl (XS.lload XJ157.here hx rfl (hb hby at_181) rfl kk))) ?_
              show own_Fin _ _ _ _ _ _ _ (TJ157.setTop (mkF m 183 #[.val (.long q0), .second, .val (.long q1), .second, .val (.int p2), .val (.long off), .second, .val (.long lim), .second, .val (.int nn), .val (.ref b1), .val (.int (own_f3 lim (0 : Int64))), .val (.ref b7), .val (.ref b22), .val (.int (own_f3 lim (own_pa off lim (own_sk off (own_sk off (0 : Int64))) (own_pa off lim (own_sk off (0 : Int64)) (own_pa off lim (0 : Int64) (0 : Int64)))))), .val (.long sp), .second, .val (.long ((Int32.toInt64 nn) - sp)), .second, .unset, .unset, .unset, .unset] [(.long lim), (.long ((Int32.toInt64 nn) - sp))]))
              refine own_callS XJ157 hx hZ hown (hw _ (List.mem_of_getElem? (i := 47) rfl)) (hw _ (List.mem_of_getElem? (i := 48) rfl)) (hw _ (List.mem_of_getElem? (i := 49) rfl)) (hw _ (List.mem_of_getElem? (i := 50) rfl)) (by decide) (rm7 l Z a0 hw ((Int32.toInt64 nn) - sp) lim T35.heap n0 i35_16) eJ157 (argsL := [(.long ((Int32.toInt64 nn) - sp)), (.long lim)]) (rest := []) rfl rfl (by rw [hml]; rfl) (lenOf pd_0_5 rfl) (hb hby at_183) (W := 0) (Nat.le_of_eq rfl) (by decide) (by decide) (by decide) (by decide) ?_
              rintro v38 T38 L38 X38 ⟨rfl, M38, e38⟩
              have N38 := Fr.app NJ157 M38
              show own_Fin _ _ _ _ _ _ _ (T38.setTop (mkF m 186 #[.val (.long q0), .second, .val (.long q1), .second, .val (.int p2), .val (.long off), .second, .val (.long lim), .second, .val (.int nn), .val (.ref b1), .val (.int (own_f3 lim (0 : Int64))), .val (.ref b7), .val (.ref b22), .val (.int (own_f3 lim (own_pa off lim (own_sk off (own_sk off (0 : Int64))) (own_pa off lim (own_sk off (0 : Int64)) (own_pa off lim (0 : Int64) (0 : Int64)))))), .val (.long sp), .second, .val (.long ((Int32.toInt64 nn) - sp)), .second, .unset, .unset, .unset, .unset] [(.long (own_f7 ((Int32.toInt64 nn) - sp) lim))]))
              exact J186 _ _ ((own_f7 ((Int32.toInt64 nn) - sp) lim)) X38 N38 e38 (by rw [hjJ157, own_f0_157, if_neg hc171])
          by_cases hc133 : (0 : Int64) < off
          · refine own_go (fun _ kk => XS.ifYes X36.here hx rfl (pc0 := 133) (pc' := 140) rfl (hb hby at_133) rfl (XT.ll_gt_t hc133) (by decide) (by decide) (XS.lload X36.here hx rfl (hb hby at_140) rfl (XS.iload X36.here hx rfl (hb hby at_142) rfl (XS.i2l X36.here hx rfl (hb hby at_144) rfl (XT.lcmp X36.here hx rfl (hb hby at_145) rfl kk))))) ?_
            show own_Fin _ _ _ _ _ _ _ (T36.setTop (mkF m 146 #[.val (.long q0), .second, .val (.long q1), .second, .val (.int p2), .val (.long off), .second, .val (.long lim), .second, .val (.int nn), .val (.ref b1), .val (.int (own_f3 lim (0 : Int64))), .val (.ref b7), .val (.ref b22), .val (.int (own_f3 lim (own_pa off lim (own_sk off (own_sk off (0 : Int64))) (own_pa off lim (own_sk off (0 : Int64)) (own_pa off lim (0 : Int64) (0 : Int64)))))), .unset, .unset, .unset, .unset, .unset, .unset, .unset, .unset] [(.int (XT.cmpL off (Int32.toInt64 nn)))]))
            by_cases hc146 : off < (Int32.toInt64 nn)
            · refine own_go (fun _ kk => XS.ifNo X36.here hx rfl (hb hby at_146) rfl (XT.ll_ge_f hc146) (XS.lload X36.here hx rfl (hb hby at_149) rfl (XS.goto X36.here hx rfl (pc0 := 151) (pc' := 157) rfl (hb hby at_151) (by decide) (by decide) kk))) ?_
              show own_Fin _ _ _ _ _ _ _ (T36.setTop (mkF m 157 #[.val (.long q0), .second, .val (.long q1), .second, .val (.int p2), .val (.long off), .second, .val (.long lim), .second, .val (.int nn), .val (.ref b1), .val (.int (own_f3 lim (0 : Int64))), .val (.ref b7), .val (.ref b22), .val (.int (own_f3 lim (own_pa off lim (own_sk off (own_sk off (0 : Int64))) (own_pa off lim (own_sk off (0 : Int64)) (own_pa off lim (0 : Int64) (0 : Int64)))))), .unset, .unset, .unset, .unset, .unset, .unset, .unset, .unset] [(.long off)]))
              exact J157 _ _ (off) X36 N36 e36 (by rw [hjJ43, own_f0_43, if_pos hc80, if_pos hc95, if_pos hc110, if_pos hc133, if_pos hc146])
            · refine own_go (fun _ kk => XS.ifYes X36.here hx rfl (pc0 := 146) (pc' := 154) rfl (hb hby at_146) rfl (XT.ll_ge_t hc146) (by decide) (by decide) (XS.iload X36.here hx rfl (hb hby at_154) rfl (XS.i2l X36.here hx rfl (hb hby at_156) rfl kk))) ?_
              show own_Fin _ _ _ _ _ _ _ (T36.setTop (mkF m 157 #[.val (.long q0), .second, .val (.long q1), .second, .val (.int p2), .val (.long off), .second, .val (.long lim), .second, .val (.int nn), .val (.ref b1), .val (.int (own_f3 lim (0 : Int64))), .val (.ref b7), .val (.ref b22), .val (.int (own_f3 lim (own_pa off lim (own_sk off (own_sk off (0 : Int64))) (own_pa off lim (own_sk off (0 : Int64)) (own_pa off lim (0 : Int64) (0 : Int64)))))), .unset, .unset, .unset, .unset, .unset, .unset, .unset, .unset] [(.long (Int32.toInt64 nn))]))
              exact J157 _ _ ((Int32.toInt64 nn)) X36 N36 e36 (by rw [hjJ43, own_f0_43, if_pos hc80, if_pos hc95, if_pos hc110, if_pos hc133, if_neg hc146])
          · refine own_go (fun _ kk => XS.ifNo X36.here hx rfl (hb hby at_133) rfl (XT.ll_gt_f hc133) (XS.lconst X36.here hx rfl (hb hby at_136) (XS.goto X36.here hx rfl (pc0 := 137) (pc' := 157) rfl (hb hby at_137) (by decide) (by decide) kk))) ?_
            show own_Fin _ _ _ _ _ _ _ (T36.setTop (mkF m 157 #[.val (.long q0), .second, .val (.long q1), .second, .val (.int p2), .val (.long off), .second, .val (.long lim), .second, .val (.int nn), .val (.ref b1), .val (.int (own_f3 lim (0 : Int64))), .val (.ref b7), .val (.ref b22), .val (.int (own_f3 lim (own_pa off lim (own_sk off (own_sk off (0 : Int64))) (own_pa off lim (own_sk off (0 : Int64)) (own_pa off lim (0 : Int64) (0 : Int64)))))), .unset, .unset, .unset, .unset, .unset, .unset, .unset, .unset] [(.long (0 : Int64))]))
            exact J157 _ _ ((0 : Int64)) X36 N36 e36 (by rw [hjJ43, own_f0_43, if_pos hc80, if_pos hc95, if_pos hc110, if_neg hc133])
        · refine own_go (fun _ kk => XS.icmpYes X34.here hx rfl (pc0 := 110) (pc' := 122) rfl (hb hby at_110) rfl (XT.ii_le_t hc110) (by decide) (by decide) (XS.aload X34.here hx rfl (hb hby at_122) rfl rfl kk)) ?_
          show own_Fin _ _ _ _ _ _ _ (T34.setTop (mkF m 124 #[.val (.long q0), .second, .val (.long q1), .second, .val (.int p2), .val (.long off), .second, .val (.long lim), .second, .val (.int nn), .val (.ref b1), .val (.int (own_f3 lim (0 : Int64))), .val (.ref b7), .val (.ref b22), .unset, .unset, .unset, .unset, .unset, .unset, .unset, .unset, .unset] [(.ref b1)]))
          refine own_callV X34 hx hZ hown (hw _ (List.mem_of_getElem? (i := 14) rfl)) (hw _ (List.mem_of_getElem? (i := 15) rfl)) (notFace_of_selects (args := #[]) (mvT hZ (hw _ (List.mem_of_getElem? (i := 17) rfl)))) (hw _ (List.mem_of_getElem? (i := 17) rfl)) (hw _ (List.mem_of_getElem? (i := 16) rfl)) (hw _ (List.mem_of_getElem? (i := 18) rfl)) (hw _ (List.mem_of_getElem? (i := 3) rfl)) (by decide) (rm3 l Z a0 hw b1 T34.heap n0 i34_16 lim (own_pa off lim (own_sk off (0 : Int64)) (own_pa off lim (0 : Int64) (0 : Int64))) i34_3 i34_5) rfl i34_1 (argsL := []) (rest := []) rfl rfl (by rw [hml]; rfl) (lenOf pd_0_1 rfl) (hb hby at_124) (W := 0) (Nat.le_of_eq rfl) (by decide) (by decide) (by decide) (by decide) ?_
          rintro v39 T39 L39 X39 ⟨rfl, M39, e39⟩
          have N39 := Fr.app N34 M39
          show own_Fin _ _ _ _ _ _ _ (T39.setTop (mkF m 127 #[.val (.long q0), .second, .val (.long q1), .second, .val (.int p2), .val (.long off), .second, .val (.long lim), .second, .val (.int nn), .val (.ref b1), .val (.int (own_f3 lim (0 : Int64))), .val (.ref b7), .val (.ref b22), .unset, .unset, .unset, .unset, .unset, .unset, .unset, .unset, .unset] [(.int (own_f3 lim (own_pa off lim (own_sk off (0 : Int64)) (own_pa off lim (0 : Int64) (0 : Int64)))))]))
          refine own_go (fun _ kk => XS.istore X39.here hx rfl (hb hby at_127) rfl (l' := #[.val (.long q0), .second, .val (.long q1), .second, .val (.int p2), .val (.long off), .second, .val (.long lim), .second, .val (.int nn), .val (.ref b1), .val (.int (own_f3 lim (0 : Int64))), .val (.ref b7), .val (.ref b22), .val (.int (own_f3 lim (own_pa off lim (own_sk off (0 : Int64)) (own_pa off lim (0 : Int64) (0 : Int64))))), .unset, .unset, .unset, .unset, .unset, .unset, .unset, .unset]) rfl (XS.lload X39.here hx rfl (hb hby at_129) rfl (XS.lconst X39.here hx rfl (hb hby at_131) (XT.lcmp X39.here hx rfl (hb hby at_132) rfl kk)))) ?_
          show own_Fin _ _ _ _ _ _ _ (T39.setTop (mkF m 133 #[.val (.long q0), .second, .val (.long q1), .second, .val (.int p2), .val (.long off), .second, .val (.long lim), .second, .val (.int nn), .val (.ref b1), .val (.int (own_f3 lim (0 : Int64))), .val (.ref b7), .val (.ref b22), .val (.int (own_f3 lim (own_pa off lim (own_sk off (0 : Int64)) (own_pa off lim (0 : Int64) (0 : Int64))))), .unset, .unset, .unset, .unset, .unset, .unset, .unset, .unset] [(.int (XT.cmpL off (0 : Int64)))]))
          have J157 : ∀ (TJ157 : State) (locsJ157 : List Loc) (sp : Int64), Stand p l e room_1 s m #[(.long q0), (.long q1), (.int p2)] below meth c TJ157 locsJ157 5 27 → Fr n0 locsJ157 → TJ157.heap = T34.heap → (own_f0 q0 q1 p2) = own_f0_157_1 q0 q1 p2 off lim nn sp → own_Fin p e below s (own_Q0 (some (.int (own_f0 q0 q1 p2))) n0) room_1.cells room_1.slots (TJ157.setTop (mkF m 157 #[.val (.long q0), .second, .val (.long q1), .second, .val (.int p2), .val (.long off), .second, .val (.long lim), .second, .val (.int nn), .val (.ref b1), .val (.int (own_f3 lim (0 : Int64))), .val (.ref b7), .val (.ref b22), .val (.int (own_f3 lim (own_pa off lim (own_sk off (0 : Int64)) (own_pa off lim (0 : Int64) (0 : Int64))))), .unset, .unset, .unset, .unset, .unset, .unset, .unset, .unset] [(.long sp)])) := by
            intro TJ157 locsJ157 sp XJ157 NJ157 eJ157 hjJ157
            refine own_go (fun _ kk => XS.lstore XJ157.here hx rfl (hb hby at_157) rfl (l' := #[.val (.long q0), .second, .val (.long q1), .second, .val (.int p2), .val (.long off), .second, .val (.long lim), .second, .val (.int nn), .val (.ref b1), .val (.int (own_f3 lim (0 : Int64))), .val (.ref b7), .val (.ref b22), .val (.int (own_f3 lim (own_pa off lim (own_sk off (0 : Int64)) (own_pa off lim (0 : Int64) (0 : Int64))))), .val (.long sp), .second, .unset, .unset, .unset, .unset, .unset, .unset]) rfl (XS.iload XJ157.here hx rfl (hb hby at_159) rfl (XS.i2l XJ157.here hx rfl (hb hby at_161) rfl (XS.lload XJ157.here hx rfl (hb hby at_162) rfl (XS.lsub XJ157.here hx rfl (hb hby at_164) rfl (XS.lstore XJ157.here hx rfl (hb hby at_165) rfl (l' := #[.val (.long q0), .second, .val (.long q1), .second, .val (.int p2), .val (.long off), .second, .val (.long lim), .second, .val (.int nn), .val (.ref b1), .val (.int (own_f3 lim (0 : Int64))), .val (.ref b7), .val (.ref b22), .val (.int (own_f3 lim (own_pa off lim (own_sk off (0 : Int64)) (own_pa off lim (0 : Int64) (0 : Int64))))), .val (.long sp), .second, .val (.long ((Int32.toInt64 nn) - sp)), .second, .unset, .unset, .unset, .unset]) rfl (XS.lload XJ157.here hx rfl (hb hby at_167) rfl (XS.lconst XJ157.here hx rfl (hb hby at_169) (XT.lcmp XJ157.here hx rfl (hb hby at_170) rfl kk))))))))) ?_
            show own_Fin _ _ _ _ _ _ _ (TJ157.setTop (mkF m 171 #[.val (.long q0), .second, .val (.long q1), .second, .val (.int p2), .val (.long off), .second, .val (.long lim), .second, .val (.int nn), .val (.ref b1), .val (.int (own_f3 lim (0 : Int64))), .val (.ref b7), .val (.ref b22), .val (.int (own_f3 lim (own_pa off lim (own_sk off (0 : Int64)) (own_pa off lim (0 : Int64) (0 : Int64))))), .val (.long sp), .second, .val (.long ((Int32.toInt64 nn) - sp)), .second, .unset, .unset, .unset, .unset] [(.int (XT.cmpL lim (0 : Int64)))]))
            have J186 : ∀ (TJ186 : State) (locsJ186 : List Loc) (ps : Int64), Stand p l e room_1 s m #[(.long q0), (.long q1), (.int p2)] below meth c TJ186 locsJ186 5 27 → Fr n0 locsJ186 → TJ186.heap = T34.heap → (own_f0 q0 q1 p2) = own_f0_186_1 q0 q1 p2 off lim nn sp ps → own_Fin p e below s (own_Q0 (some (.int (own_f0 q0 q1 p2))) n0) room_1.cells room_1.slots (TJ186.setTop (mkF m 186 #[.val (.long q0), .second, .val (.long q1), .second, .val (.int p2), .val (.long off), .second, .val (.long lim), .second, .val (.int nn), .val (.ref b1), .val (.int (own_f3 lim (0 : Int64))), .val (.ref b7), .val (.ref b22), .val (.int (own_f3 lim (own_pa off lim (own_sk off (0 : Int64)) (own_pa off lim (0 : Int64) (0 : Int64))))), .val (.long sp), .second, .val (.long ((Int32.toInt64 nn) - sp)), .second, .unset, .unset, .unset, .unset] [(.long ps)])) := by
              intro TJ186 locsJ186 ps XJ186 NJ186 eJ186 hjJ186
              refine own_go (fun _ kk => XS.lstore XJ186.here hx rfl (hb hby at_186) rfl (l' := #[.val (.long q0), .second, .val (.long q1), .second, .val (.int p2), .val (.long off), .second, .val (.long lim), .second, .val (.int nn), .val (.ref b1), .val (.int (own_f3 lim (0 : Int64))), .val (.ref b7), .val (.ref b22), .val (.int (own_f3 lim (own_pa off lim (own_sk off (0 : Int64)) (own_pa off lim (0 : Int64) (0 : Int64))))), .val (.long sp), .second, .val (.long ((Int32.toInt64 nn) - sp)), .second, .val (.long ps), .second, .unset, .unset]) rfl (XS.lload XJ186.here hx rfl (hb hby at_188) rfl (XS.lconst XJ186.here hx rfl (hb hby at_190) (XT.lcmp XJ186.here hx rfl (hb hby at_191) rfl kk)))) ?_
              show own_Fin _ _ _ _ _ _ _ (TJ186.setTop (mkF m 192 #[.val (.long q0), .second, .val (.long q1), .second, .val (.int p2), .val (.long off), .second, .val (.long lim), .second, .val (.int nn), .val (.ref b1), .val (.int (own_f3 lim (0 : Int64))), .val (.ref b7), .val (.ref b22), .val (.int (own_f3 lim (own_pa off lim (own_sk off (0 : Int64)) (own_pa off lim (0 : Int64) (0 : Int64))))), .val (.long sp), .second, .val (.long ((Int32.toInt64 nn) - sp)), .second, .val (.long ps), .second, .unset, .unset] [(.int (XT.cmpL lim (0 : Int64)))]))
              refine own_go (U' := TJ186.setTop (mkF m 200 #[.val (.long q0), .second, .val (.long q1), .second, .val (.int p2), .val (.long off), .second, .val (.long lim), .second, .val (.int nn), .val (.ref b1), .val (.int (own_f3 lim (0 : Int64))), .val (.ref b7), .val (.ref b22), .val (.int (own_f3 lim (own_pa off lim (own_sk off (0 : Int64)) (own_pa off lim (0 : Int64) (0 : Int64))))), .val (.long sp), .second, .val (.long ((Int32.toInt64 nn) - sp)), .second, .val (.long ps), .second, .unset, .unset] [(.int (if lim = (0 : Int64) then (1 : Int32) else (0 : Int32)))])) (fun t k => ?_) ?_
              · by_cases hd192 : lim = (0 : Int64)
                · simp only [if_pos hd192] at k
                  refine XS.ifNo XJ186.here hx rfl (hb hby at_192) rfl (XT.ll_ne_f hd192) (XS.iconst XJ186.here hx rfl (hb hby at_195) (XS.goto XJ186.here hx rfl (pc0 := 196) (pc' := 200) rfl (hb hby at_196) (by decide) (by decide) ?_))
                  show Steps p.tables e below (TJ186.setTop (mkF m 200 #[.val (.long q0), .second, .val (.long q1), .second, .val (.int p2), .val (.long off), .second, .val (.long lim), .second, .val (.int nn), .val (.ref b1), .val (.int (own_f3 lim (0 : Int64))), .val (.ref b7), .val (.ref b22), .val (.int (own_f3 lim (own_pa off lim (own_sk off (0 : Int64)) (own_pa off lim (0 : Int64) (0 : Int64))))), .val (.long sp), .second, .val (.long ((Int32.toInt64 nn) - sp)), .second, .val (.long ps), .second, .unset, .unset] [(.int (1 : Int32))])) _
                  exact k
                · simp only [if_neg hd192] at k
                  refine XS.ifYes XJ186.here hx rfl (pc0 := 192) (pc' := 199) rfl (hb hby at_192) rfl (XT.ll_ne_t hd192) (by decide) (by decide) (XS.iconst XJ186.here hx rfl (hb hby at_199) ?_)
                  show Steps p.tables e below (TJ186.setTop (mkF m 200 #[.val (.long q0), .second, .val (.long q1), .second, .val (.int p2), .val (.long off), .second, .val (.long lim), .second, .val (.int nn), .val (.ref b1), .val (.int (own_f3 lim (0 : Int64))), .val (.ref b7), .val (.ref b22), .val (.int (own_f3 lim (own_pa off lim (own_sk off (0 : Int64)) (own_pa off lim (0 : Int64) (0 : Int64))))), .val (.long sp), .second, .val (.long ((Int32.toInt64 nn) - sp)), .second, .val (.long ps), .second, .unset, .unset] [(.int (0 : Int32))])) _
                  exact k
              show own_Fin _ _ _ _ _ _ _ (TJ186.setTop (mkF m 200 #[.val (.long q0), .second, .val (.long q1), .second, .val (.int p2), .val (.long off), .second, .val (.long lim), .second, .val (.int nn), .val (.ref b1), .val (.int (own_f3 lim (0 : Int64))), .val (.ref b7), .val (.ref b22), .val (.int (own_f3 lim (own_pa off lim (own_sk off (0 : Int64)) (own_pa off lim (0 : Int64) (0 : Int64))))), .val (.long sp), .second, .val (.long ((Int32.toInt64 nn) - sp)), .second, .val (.long ps), .second, .unset, .unset] [(.int (if lim = (0 : Int64) then (1 : Int32) else (0 : Int32)))]))
              refine own_go (fun _ kk => XS.istore XJ186.here hx rfl (hb hby at_200) rfl (l' := #[.val (.long q0), .second, .val (.long q1), .second, .val (.int p2), .val (.long off), .second, .val (.long lim), .second, .val (.int nn), .val (.ref b1), .val (.int (own_f3 lim (0 : Int64))), .val (.ref b7), .val (.ref b22), .val (.int (own_f3 lim (own_pa off lim (own_sk off (0 : Int64)) (own_pa off lim (0 : Int64) (0 : Int64))))), .val (.long sp), .second, .val (.long ((Int32.toInt64 nn) - sp)), .second, .val (.long ps), .second, .val (.int (if lim = (0 : Int64) then (1 : Int32) else (0 : Int32))), .unset]) rfl (XS.lload XJ186.here hx rfl (hb hby at_202) rfl (XS.lconst XJ186.here hx rfl (hb hby at_204) (XT.lcmp XJ186.here hx rfl (hb hby at_205) rfl kk)))) ?_
              show own_Fin _ _ _ _ _ _ _ (TJ186.setTop (mkF m 206 #[.val (.long q0), .second, .val (.long q1), .second, .val (.int p2), .val (.long off), .second, .val (.long lim), .second, .val (.int nn), .val (.ref b1), .val (.int (own_f3 lim (0 : Int64))), .val (.ref b7), .val (.ref b22), .val (.int (own_f3 lim (own_pa off lim (own_sk off (0 : Int64)) (own_pa off lim (0 : Int64) (0 : Int64))))), .val (.long sp), .second, .val (.long ((Int32.toInt64 nn) - sp)), .second, .val (.long ps), .second, .val (.int (if lim = (0 : Int64) then (1 : Int32) else (0 : Int32))), .unset] [(.int (XT.cmpL lim (0 : Int64)))]))
              have J222 : ∀ (TJ222 : State) (locsJ222 : List Loc) (ea : Int32), Stand p l e room_1 s m #[(.long q0), (.long q1), (.int p2)] below meth c TJ222 locsJ222 5 27 → Fr n0 locsJ222 → TJ222.heap = T34.heap → (own_f0 q0 q1 p2) = own_f0_222_1 q0 q1 p2 off lim nn sp ps ea → own_Fin p e below s (own_Q0 (some (.int (own_f0 q0 q1 p2))) n0) room_1.cells room_1.slots (TJ222.setTop (mkF m 222 #[.val (.long q0), .second, .val (.long q1), .second, .val (.int p2), .val (.long off), .second, .val (.long lim), .second, .val (.int nn), .val (.ref b1), .val (.int (own_f3 lim (0 : Int64))), .val (.ref b7), .val (.ref b22), .val (.int (own_f3 lim (own_pa off lim (own_sk off (0 : Int64)) (own_pa off lim (0 : Int64) (0 : Int64))))), .val (.long sp), .second, .val (.long ((Int32.toInt64 nn) - sp)), .second, .val (.long ps), .second, .val (.int (if lim = (0 : Int64) then (1 : Int32) else (0 : Int32))), .unset] [(.int ea)])) := by
                intro TJ222 locsJ222 ea XJ222 NJ222 eJ222 hjJ222
                refine own_go (fun _ kk => XS.istore XJ222.here hx rfl (hb hby at_222) rfl (l' := #[.val (.long q0), .second, .val (.long q1), .second, .val (.int p2), .val (.long off), .second, .val (.long lim), .second, .val (.int nn), .val (.ref b1), .val (.int (own_f3 lim (0 : Int64))), .val (.ref b7), .val (.ref b22), .val (.int (own_f3 lim (own_pa off lim (own_sk off (0 : Int64)) (own_pa off lim (0 : Int64) (0 : Int64))))), .val (.long sp), .second, .val (.long ((Int32.toInt64 nn) - sp)), .second, .val (.long ps), .second, .val (.int (if lim = (0 : Int64) then (1 : Int32) else (0 : Int32))), .val (.int ea)]) rfl (XS.iload XJ222.here hx rfl (hb hby at_224) rfl (XS.iload XJ222.here hx rfl (hb hby at_226) rfl kk))) ?_
                show own_Fin _ _ _ _ _ _ _ (TJ222.setTop (mkF m 228 #[.val (.long q0), .second, .val (.long q1), .second, .val (.int p2), .val (.long off), .second, .val (.long lim), .second, .val (.int nn), .val (.ref b1), .val (.int (own_f3 lim (0 : Int64))), .val (.ref b7), .val (.ref b22), .val (.int (own_f3 lim (own_pa off lim (own_sk off (0 : Int64)) (own_pa off lim (0 : Int64) (0 : Int64))))), .val (.long sp), .second, .val (.long ((Int32.toInt64 nn) - sp)), .second, .val (.long ps), .second, .val (.int (if lim = (0 : Int64) then (1 : Int32) else (0 : Int32))), .val (.int ea)] [(.int (if lim = (0 : Int64) then (1 : Int32) else (0 : Int32))), (.int (own_f3 lim (0 : Int64)))]))
                by_cases hc228 : (own_f3 lim (0 : Int64)) = (if lim = (0 : Int64) then (1 : Int32) else (0 : Int32))
                · refine own_go (fun _ kk => XS.icmpNo XJ222.here hx rfl (hb hby at_228) rfl (XT.ii_ne_f hc228) (XS.iload XJ222.here hx rfl (hb hby at_231) rfl (XS.iload XJ222.here hx rfl (hb hby at_233) rfl kk))) ?_
                  show own_Fin _ _ _ _ _ _ _ (TJ222.setTop (mkF m 235 #[.val (.long q0), .second, .val (.long q1), .second, .val (.int p2), .val (.long off), .second, .val (.long lim), .second, .val (.int nn), .val (.ref b1), .val (.int (own_f3 lim (0 : Int64))), .val (.ref b7), .val (.ref b22), .val (.int (own_f3 lim (own_pa off lim (own_sk off (0 : Int64)) (own_pa off lim (0 : Int64) (0 : Int64))))), .val (.long sp), .second, .val (.long ((Int32.toInt64 nn) - sp)), .second, .val (.long ps), .second, .val (.int (if lim = (0 : Int64) then (1 : Int32) else (0 : Int32))), .val (.int ea)] [(.int ea), (.int (own_f3 lim (own_pa off lim (own_sk off (0 : Int64)) (own_pa off lim (0 : Int64) (0 : Int64)))))]))
                  by_cases hc235 : (own_f3 lim (own_pa off lim (own_sk off (0 : Int64)) (own_pa off lim (0 : Int64) (0 : Int64)))) = ea
                  · refine own_go (fun _ kk => XS.icmpNo XJ222.here hx rfl (hb hby at_235) rfl (XT.ii_ne_f hc235) (XS.aload XJ222.here hx rfl (hb hby at_238) rfl rfl kk)) ?_
                    show own_Fin _ _ _ _ _ _ _ (TJ222.setTop (mkF m 240 #[.val (.long q0), .second, .val (.long q1), .second, .val (.int p2), .val (.long off), .second, .val (.long lim), .second, .val (.int nn), .val (.ref b1), .val (.int (own_f3 lim (0 : Int64))), .val (.ref b7), .val (.ref b22), .val (.int (own_f3 lim (own_pa off lim (own_sk off (0 : Int64)) (own_pa off lim (0 : Int64) (0 : Int64))))), .val (.long sp), .second, .val (.long ((Int32.toInt64 nn) - sp)), .second, .val (.long ps), .second, .val (.int (if lim = (0 : Int64) then (1 : Int32) else (0 : Int32))), .val (.int ea)] [(.ref b7)]))
                    refine own_callV XJ222 hx hZ hown (hw _ (List.mem_of_getElem? (i := 51) rfl)) (hw _ (List.mem_of_getElem? (i := 52) rfl)) (notFace_of_selects (args := #[]) (mvT hZ (hw _ (List.mem_of_getElem? (i := 54) rfl)))) (hw _ (List.mem_of_getElem? (i := 54) rfl)) (hw _ (List.mem_of_getElem? (i := 53) rfl)) (hw _ (List.mem_of_getElem? (i := 55) rfl)) (hw _ (List.mem_of_getElem? (i := 23) rfl)) (by decide) (rm8 l Z a0 hw b7 T34.heap n0 i34_16 (Int32.ofNat (own_sz off lim (own_sk off (0 : Int64)) (own_pa off lim (0 : Int64) (0 : Int64)) (own_sz off lim (0 : Int64) (0 : Int64) 0))) i34_7) eJ222 i34_6 (argsL := []) (rest := []) rfl rfl (by rw [hml]; rfl) (lenOf pd_0_4 rfl) (hb hby at_240) (W := 0) (Nat.le_of_eq rfl) (by decide) (by decide) (by decide) (by decide) ?_
                    rintro v40 T40 L40 X40 ⟨rfl, M40, e40⟩
                    have N40 := Fr.app NJ222 M40
                    show own_Fin _ _ _ _ _ _ _ (T40.setTop (mkF m 243 #[.val (.long q0), .second, .val (.long q1), .second, .val (.int p2), .val (.long off), .second, .val (.long lim), .second, .val (.int nn), .val (.ref b1), .val (.int (own_f3 lim (0 : Int64))), .val (.ref b7), .val (.ref b22), .val (.int (own_f3 lim (own_pa off lim (own_sk off (0 : Int64)) (own_pa off lim (0 : Int64) (0 : Int64))))), .val (.long sp), .second, .val (.long ((Int32.toInt64 nn) - sp)), .second, .val (.long ps), .second, .val (.int (if lim = (0 : Int64) then (1 : Int32) else (0 : Int32))), .val (.int ea)] [(.int (Int32.ofNat (own_sz off lim (own_sk off (0 : Int64)) (own_pa off lim (0 : Int64) (0 : Int64)) (own_sz off lim (0 : Int64) (0 : Int64) 0))))]))
                    refine own_go (fun _ kk => XS.i2l X40.here hx rfl (hb hby at_243) rfl (XS.lload X40.here hx rfl (hb hby at_244) rfl (XT.lcmp X40.here hx rfl (hb hby at_246) rfl kk))) ?_
                    show own_Fin _ _ _ _ _ _ _ (T40.setTop (mkF m 247 #[.val (.long q0), .second, .val (.long q1), .second, .val (.int p2), .val (.long off), .second, .val (.long lim), .second, .val (.int nn), .val (.ref b1), .val (.int (own_f3 lim (0 : Int64))), .val (.ref b7), .val (.ref b22), .val (.int (own_f3 lim (own_pa off lim (own_sk off (0 : Int64)) (own_pa off lim (0 : Int64) (0 : Int64))))), .val (.long sp), .second, .val (.long ((Int32.toInt64 nn) - sp)), .second, .val (.long ps), .second, .val (.int (if lim = (0 : Int64) then (1 : Int32) else (0 : Int32))), .val (.int ea)] [(.int (XT.cmpL (Int32.toInt64 (Int32.ofNat (own_sz off lim (own_sk off (0 : Int64)) (own_pa off lim (0 : Int64) (0 : Int64)) (own_sz off lim (0 : Int64) (0 : Int64) 0)))) ps))]))
                    by_cases hc247 : (Int32.toInt64 (Int32.ofNat (own_sz off lim (own_sk off (0 : Int64)) (own_pa off lim (0 : Int64) (0 : Int64)) (own_sz off lim (0 : Int64) (0 : Int64) 0)))) = ps
                    · refine own_go (fun _ kk => XS.ifNo X40.here hx rfl (hb hby at_247) rfl (XT.ll_ne_f hc247) (XS.iconst X40.here hx rfl (hb hby at_250) (XS.goto X40.here hx rfl (pc0 := 251) (pc' := 255) rfl (hb hby at_251) (by decide) (by decide) kk))) ?_
                      show own_Fin _ _ _ _ _ _ _ (T40.setTop (mkF m 255 #[.val (.long q0), .second, .val (.long q1), .second, .val (.int p2), .val (.long off), .second, .val (.long lim), .second, .val (.int nn), .val (.ref b1), .val (.int (own_f3 lim (0 : Int64))), .val (.ref b7), .val (.ref b22), .val (.int (own_f3 lim (own_pa off lim (own_sk off (0 : Int64)) (own_pa off lim (0 : Int64) (0 : Int64))))), .val (.long sp), .second, .val (.long ((Int32.toInt64 nn) - sp)), .second, .val (.long ps), .second, .val (.int (if lim = (0 : Int64) then (1 : Int32) else (0 : Int32))), .val (.int ea)] [(.int (1 : Int32))]))
                      exact own_retZ X40 hx hlk hret rfl (hb hby at_255) (by decide) (by decide) ⟨(by rw [hjJ222, own_f0_222_1, if_pos hc228, if_pos hc235, if_pos hc247]), N40⟩
                    · refine own_go (fun _ kk => XS.ifYes X40.here hx rfl (pc0 := 247) (pc' := 254) rfl (hb hby at_247) rfl (XT.ll_ne_t hc247) (by decide) (by decide) (XS.iconst X40.here hx rfl (hb hby at_254) kk)) ?_
                      show own_Fin _ _ _ _ _ _ _ (T40.setTop (mkF m 255 #[.val (.long q0), .second, .val (.long q1), .second, .val (.int p2), .val (.long off), .second, .val (.long lim), .second, .val (.int nn), .val (.ref b1), .val (.int (own_f3 lim (0 : Int64))), .val (.ref b7), .val (.ref b22), .val (.int (own_f3 lim (own_pa off lim (own_sk off (0 : Int64)) (own_pa off lim (0 : Int64) (0 : Int64))))), .val (.long sp), .second, .val (.long ((Int32.toInt64 nn) - sp)), .second, .val (.long ps), .second, .val (.int (if lim = (0 : Int64) then (1 : Int32) else (0 : Int32))), .val (.int ea)] [(.int (0 : Int32))]))
                      exact own_retZ X40 hx hlk hret rfl (hb hby at_255) (by decide) (by decide) ⟨(by rw [hjJ222, own_f0_222_1, if_pos hc228, if_pos hc235, if_neg hc247]), N40⟩
                  · refine own_go (fun _ kk => XS.icmpYes XJ222.here hx rfl (pc0 := 235) (pc' := 254) rfl (hb hby at_235) rfl (XT.ii_ne_t hc235) (by decide) (by decide) (XS.iconst XJ222.here hx rfl (hb hby at_254) kk)) ?_
                    show own_Fin _ _ _ _ _ _ _ (TJ222.setTop (mkF m 255 #[.val (.long q0), .second, .val (.long q1), .second, .val (.int p2), .val (.long off), .second, .val (.long lim), .second, .val (.int nn), .val (.ref b1), .val (.int (own_f3 lim (0 : Int64))), .val (.ref b7), .val (.ref b22), .val (.int (own_f3 lim (own_pa off lim (own_sk off (0 : Int64)) (own_pa off lim (0 : Int64) (0 : Int64))))), .val (.long sp), .second, .val (.long ((Int32.toInt64 nn) - sp)), .second, .val (.long ps), .second, .val (.int (if lim = (0 : Int64) then (1 : Int32) else (0 : Int32))), .val (.int ea)] [(.int (0 : Int32))]))
                    exact own_retZ XJ222 hx hlk hret rfl (hb hby at_255) (by decide) (by decide) ⟨(by rw [hjJ222, own_f0_222_1, if_pos hc228, if_neg hc235]), NJ222⟩
                · refine own_go (fun _ kk => XS.icmpYes XJ222.here hx rfl (pc0 := 228) (pc' := 254) rfl (hb hby at_228) rfl (XT.ii_ne_t hc228) (by decide) (by decide) (XS.iconst XJ222.here hx rfl (hb hby at_254) kk)) ?_
                  show own_Fin _ _ _ _ _ _ _ (TJ222.setTop (mkF m 255 #[.val (.long q0), .second, .val (.long q1), .second, .val (.int p2), .val (.long off), .second, .val (.long lim), .second, .val (.int nn), .val (.ref b1), .val (.int (own_f3 lim (0 : Int64))), .val (.ref b7), .val (.ref b22), .val (.int (own_f3 lim (own_pa off lim (own_sk off (0 : Int64)) (own_pa off lim (0 : Int64) (0 : Int64))))), .val (.long sp), .second, .val (.long ((Int32.toInt64 nn) - sp)), .second, .val (.long ps), .second, .val (.int (if lim = (0 : Int64) then (1 : Int32) else (0 : Int32))), .val (.int ea)] [(.int (0 : Int32))]))
                  exact own_retZ XJ222 hx hlk hret rfl (hb hby at_255) (by decide) (by decide) ⟨(by rw [hjJ222, own_f0_222_1, if_neg hc228]), NJ222⟩
              by_cases hc206 : lim < (0 : Int64)
              · refine own_go (fun _ kk => XS.ifYes XJ186.here hx rfl (pc0 := 206) (pc' := 221) rfl (hb hby at_206) rfl (XT.ll_lt_t hc206) (by decide) (by decide) (XS.iconst XJ186.here hx rfl (hb hby at_221) kk)) ?_
                show own_Fin _ _ _ _ _ _ _ (TJ186.setTop (mkF m 222 #[.val (.long q0), .second, .val (.long q1), .second, .val (.int p2), .val (.long off), .second, .val (.long lim), .second, .val (.int nn), .val (.ref b1), .val (.int (own_f3 lim (0 : Int64))), .val (.ref b7), .val (.ref b22), .val (.int (own_f3 lim (own_pa off lim (own_sk off (0 : Int64)) (own_pa off lim (0 : Int64) (0 : Int64))))), .val (.long sp), .second, .val (.long ((Int32.toInt64 nn) - sp)), .second, .val (.long ps), .second, .val (.int (if lim = (0 : Int64) then (1 : Int32) else (0 : Int32))), .unset] [(.int (0 : Int32))]))
                exact J222 _ _ ((0 : Int32)) XJ186 NJ186 eJ186 (by rw [hjJ186, own_f0_186_1, if_pos hc206])
              · refine own_go (fun _ kk => XS.ifNo XJ186.here hx rfl (hb hby at_206) rfl (XT.ll_lt_f hc206) (XS.lload XJ186.here hx rfl (hb hby at_209) rfl (XS.lload XJ186.here hx rfl (hb hby at_211) rfl (XT.lcmp XJ186.here hx rfl (hb hby at_213) rfl kk)))) ?_
                show own_Fin _ _ _ _ _ _ _ (TJ186.setTop (mkF m 214 #[.val (.long q0), .second, .val (.long q1), .second, .val (.int p2), .val (.long off), .second, .val (.long lim), .second, .val (.int nn), .val (.ref b1), .val (.int (own_f3 lim (0 : Int64))), .val (.ref b7), .val (.ref b22), .val (.int (own_f3 lim (own_pa off lim (own_sk off (0 : Int64)) (own_pa off lim (0 : Int64) (0 : Int64))))), .val (.long sp), .second, .val (.long ((Int32.toInt64 nn) - sp)), .second, .val (.long ps), .second, .val (.int (if lim = (0 : Int64) then (1 : Int32) else (0 : Int32))), .unset] [(.int (XT.cmpL ((Int32.toInt64 nn) - sp) lim))]))
                by_cases hc214 : ((Int32.toInt64 nn) - sp) < lim
                · refine own_go (fun _ kk => XS.ifYes XJ186.here hx rfl (pc0 := 214) (pc' := 221) rfl (hb hby at_214) rfl (XT.ll_lt_t hc214) (by decide) (by decide) (XS.iconst XJ186.here hx rfl (hb hby at_221) kk)) ?_
                  show own_Fin _ _ _ _ _ _ _ (TJ186.setTop (mkF m 222 #[.val (.long q0), .second, .val (.long q1), .second, .val (.int p2), .val (.long off), .second, .val (.long lim), .second, .val (.int nn), .val (.ref b1), .val (.int (own_f3 lim (0 : Int64))), .val (.ref b7), .val (.ref b22), .val (.int (own_f3 lim (own_pa off lim (own_sk off (0 : Int64)) (own_pa off lim (0 : Int64) (0 : Int64))))), .val (.long sp), .second, .val (.long ((Int32.toInt64 nn) - sp)), .second, .val (.long ps), .second, .val (.int (if lim = (0 : Int64) then (1 : Int32) else (0 : Int32))), .unset] [(.int (0 : Int32))]))
                  exact J222 _ _ ((0 : Int32)) XJ186 NJ186 eJ186 (by rw [hjJ186, own_f0_186_1, if_neg hc206, if_pos hc214])
                · refine own_go (fun _ kk => XS.ifNo XJ186.here hx rfl (hb hby at_214) rfl (XT.ll_lt_f hc214) (XS.iconst XJ186.here hx rfl (hb hby at_217) (XS.goto XJ186.here hx rfl (pc0 := 218) (pc' := 222) rfl (hb hby at_218) (by decide) (by decide) kk))) ?_
                  show own_Fin _ _ _ _ _ _ _ (TJ186.setTop (mkF m 222 #[.val (.long q0), .second, .val (.long q1), .second, .val (.int p2), .val (.long off), .second, .val (.long lim), .second, .val (.int nn), .val (.ref b1), .val (.int (own_f3 lim (0 : Int64))), .val (.ref b7), .val (.ref b22), .val (.int (own_f3 lim (own_pa off lim (own_sk off (0 : Int64)) (own_pa off lim (0 : Int64) (0 : Int64))))), .val (.long sp), .second, .val (.long ((Int32.toInt64 nn) - sp)), .second, .val (.long ps), .second, .val (.int (if lim = (0 : Int64) then (1 : Int32) else (0 : Int32))), .unset] [(.int (1 : Int32))]))
                  exact J222 _ _ ((1 : Int32)) XJ186 NJ186 eJ186 (by rw [hjJ186, own_f0_186_1, if_neg hc206, if_neg hc214])
            by_cases hc171 : lim < (0 : Int64)
            · refine own_go (fun _ kk => XS.ifNo XJ157.here hx rfl (hb hby at_171) rfl (XT.ll_ge_f hc171) (XS.lload XJ157.here hx rfl (hb hby at_174) rfl (XS.goto XJ157.here hx rfl (pc0 := 176) (pc' := 186) rfl (hb hby at_176) (by decide) (by decide) kk))) ?_
              show own_Fin _ _ _ _ _ _ _ (TJ157.setTop (mkF m 186 #[.val (.long q0), .second, .val (.long q1), .second, .val (.int p2), .val (.long off), .second, .val (.long lim), .second, .val (.int nn), .val (.ref b1), .val (.int (own_f3 lim (0 : Int64))), .val (.ref b7), .val (.ref b22), .val (.int (own_f3 lim (own_pa off lim (own_sk off (0 : Int64)) (own_pa off lim (0 : Int64) (0 : Int64))))), .val (.long sp), .second, .val (.long ((Int32.toInt64 nn) - sp)), .second, .unset, .unset, .unset, .unset] [(.long ((Int32.toInt64 nn) - sp))]))
              exact J186 _ _ (((Int32.toInt64 nn) - sp)) XJ157 NJ157 eJ157 (by rw [hjJ157, own_f0_157_1, if_pos hc171])
            · refine own_go (fun _ kk => XS.ifYes XJ157.here hx rfl (pc0 := 171) (pc' := 179) rfl (hb hby at_171) rfl (XT.ll_ge_t hc171) (by decide) (by decide) (XS.lload XJ157.here hx rfl (hb hby at_179) rfl (XS.lload XJ157.here hx rfl (hb hby at_181) rfl kk))) ?_
              show own_Fin _ _ _ _ _ _ _ (TJ157.setTop (mkF m 183 #[.val (.long q0), .second, .val (.long q1), .second, .val (.int p2), .val (.long off), .second, .val (.long lim), .second, .val (.int nn), .val (.ref b1), .val (.int (own_f3 lim (0 : Int64))), .val (.ref b7), .val (.ref b22), .val (.int (own_f3 lim (own_pa off lim (own_sk off (0 : Int64)) (own_pa off lim (0 : Int64) (0 : Int64))))), .val (.long sp), .second, .val (.long ((Int32.toInt64 nn) - sp)), .second, .unset, .unset, .unset, .unset] [(.long lim), (.long ((Int32.toInt64 nn) - sp))]))
              refine own_callS XJ157 hx hZ hown (hw _ (List.mem_of_getElem? (i := 47) rfl)) (hw _ (List.mem_of_getElem? (i := 48) rfl)) (hw _ (List.mem_of_getElem? (i := 49) rfl)) (hw _ (List.mem_of_getElem? (i := 50) rfl)) (by decide) (rm7 l Z a0 hw ((Int32.toInt64 nn) - sp) lim T34.heap n0 i34_16) eJ157 (argsL := [(.long ((Int32.toInt64 nn) - sp)), (.long lim)]) (rest := []) rfl rfl (by rw [hml]; rfl) (lenOf pd_0_5 rfl) (hb hby at_183) (W := 0) (Nat.le_of_eq rfl) (by decide) (by decide) (by decide) (by decide) ?_
              rintro v41 T41 L41 X41 ⟨rfl, M41, e41⟩
              have N41 := Fr.app NJ157 M41
              show own_Fin _ _ _ _ _ _ _ (T41.setTop (mkF m 186 #[.val (.long q0), .second, .val (.long q1), .second, .val (.int p2), .val (.long off), .second, .val (.long lim), .second, .val (.int nn), .val (.ref b1), .val (.int (own_f3 lim (0 : Int64))), .val (.ref b7), .val (.ref b22), .val (.int (own_f3 lim (own_pa off lim (own_sk off (0 : Int64)) (own_pa off lim (0 : Int64) (0 : Int64))))), .val (.long sp), .second, .val (.long ((Int32.toInt64 nn) - sp)), .second, .unset, .unset, .unset, .unset] [(.long (own_f7 ((Int32.toInt64 nn) - sp) lim))]))
              exact J186 _ _ ((own_f7 ((Int32.toInt64 nn) - sp) lim)) X41 N41 e41 (by rw [hjJ157, own_f0_157_1, if_neg hc171])
          by_cases hc133 : (0 : Int64) < off
          · refine own_go (fun _ kk => XS.ifYes X39.here hx rfl (pc0 := 133) (pc' := 140) rfl (hb hby at_133) rfl (XT.ll_gt_t hc133) (by decide) (by decide) (XS.lload X39.here hx rfl (hb hby at_140) rfl (XS.iload X39.here hx rfl (hb hby at_142) rfl (XS.i2l X39.here hx rfl (hb hby at_144) rfl (XT.lcmp X39.here hx rfl (hb hby at_145) rfl kk))))) ?_
            show own_Fin _ _ _ _ _ _ _ (T39.setTop (mkF m 146 #[.val (.long q0), .second, .val (.long q1), .second, .val (.int p2), .val (.long off), .second, .val (.long lim), .second, .val (.int nn), .val (.ref b1), .val (.int (own_f3 lim (0 : Int64))), .val (.ref b7), .val (.ref b22), .val (.int (own_f3 lim (own_pa off lim (own_sk off (0 : Int64)) (own_pa off lim (0 : Int64) (0 : Int64))))), .unset, .unset, .unset, .unset, .unset, .unset, .unset, .unset] [(.int (XT.cmpL off (Int32.toInt64 nn)))]))
            by_cases hc146 : off < (Int32.toInt64 nn)
            · refine own_go (fun _ kk => XS.ifNo X39.here hx rfl (hb hby at_146) rfl (XT.ll_ge_f hc146) (XS.lload X39.here hx rfl (hb hby at_149) rfl (XS.goto X39.here hx rfl (pc0 := 151) (pc' := 157) rfl (hb hby at_151) (by decide) (by decide) kk))) ?_
              show own_Fin _ _ _ _ _ _ _ (T39.setTop (mkF m 157 #[.val (.long q0), .second, .val (.long q1), .second, .val (.int p2), .val (.long off), .second, .val (.long lim), .second, .val (.int nn), .val (.ref b1), .val (.int (own_f3 lim (0 : Int64))), .val (.ref b7), .val (.ref b22), .val (.int (own_f3 lim (own_pa off lim (own_sk off (0 : Int64)) (own_pa off lim (0 : Int64) (0 : Int64))))), .unset, .unset, .unset, .unset, .unset, .unset, .unset, .unset] [(.long off)]))
              exact J157 _ _ (off) X39 N39 e39 (by rw [hjJ43, own_f0_43, if_pos hc80, if_pos hc95, if_neg hc110, if_pos hc133, if_pos hc146])
            · refine own_go (fun _ kk => XS.ifYes X39.here hx rfl (pc0 := 146) (pc' := 154) rfl (hb hby at_146) rfl (XT.ll_ge_t hc146) (by decide) (by decide) (XS.iload X39.here hx rfl (hb hby at_154) rfl (XS.i2l X39.here hx rfl (hb hby at_156) rfl kk))) ?_
              show own_Fin _ _ _ _ _ _ _ (T39.setTop (mkF m 157 #[.val (.long q0), .second, .val (.long q1), .second, .val (.int p2), .val (.long off), .second, .val (.long lim), .second, .val (.int nn), .val (.ref b1), .val (.int (own_f3 lim (0 : Int64))), .val (.ref b7), .val (.ref b22), .val (.int (own_f3 lim (own_pa off lim (own_sk off (0 : Int64)) (own_pa off lim (0 : Int64) (0 : Int64))))), .unset, .unset, .unset, .unset, .unset, .unset, .unset, .unset] [(.long (Int32.toInt64 nn))]))
              exact J157 _ _ ((Int32.toInt64 nn)) X39 N39 e39 (by rw [hjJ43, own_f0_43, if_pos hc80, if_pos hc95, if_neg hc110, if_pos hc133, if_neg hc146])
          · refine own_go (fun _ kk => XS.ifNo X39.here hx rfl (hb hby at_133) rfl (XT.ll_gt_f hc133) (XS.lconst X39.here hx rfl (hb hby at_136) (XS.goto X39.here hx rfl (pc0 := 137) (pc' := 157) rfl (hb hby at_137) (by decide) (by decide) kk))) ?_
            show own_Fin _ _ _ _ _ _ _ (T39.setTop (mkF m 157 #[.val (.long q0), .second, .val (.long q1), .second, .val (.int p2), .val (.long off), .second, .val (.long lim), .second, .val (.int nn), .val (.ref b1), .val (.int (own_f3 lim (0 : Int64))), .val (.ref b7), .val (.ref b22), .val (.int (own_f3 lim (own_pa off lim (own_sk off (0 : Int64)) (own_pa off lim (0 : Int64) (0 : Int64))))), .unset, .unset, .unset, .unset, .unset, .unset, .unset, .unset] [(.long (0 : Int64))]))
            exact J157 _ _ ((0 : Int64)) X39 N39 e39 (by rw [hjJ43, own_f0_43, if_pos hc80, if_pos hc95, if_neg hc110, if_neg hc133])
      · refine own_go (fun _ kk => XS.icmpYes X33.here hx rfl (pc0 := 95) (pc' := 107) rfl (hb hby at_95) rfl (XT.ii_le_t hc95) (by decide) (by decide) (XS.iload X33.here hx rfl (hb hby at_107) rfl (XS.iconst X33.here hx rfl (hb hby at_109) (XS.icmpYes X33.here hx rfl (pc0 := 110) (pc' := 122) rfl (hb hby at_110) rfl (XT.ii_le_t (own_n2 hc95)) (by decide) (by decide) (XS.aload X33.here hx rfl (hb hby at_122) rfl rfl kk))))) ?_
        show own_Fin _ _ _ _ _ _ _ (T33.setTop (mkF m 124 #[.val (.long q0), .second, .val (.long q1), .second, .val (.int p2), .val (.long off), .second, .val (.long lim), .second, .val (.int nn), .val (.ref b1), .val (.int (own_f3 lim (0 : Int64))), .val (.ref b7), .val (.ref b22), .unset, .unset, .unset, .unset, .unset, .unset, .unset, .unset, .unset] [(.ref b1)]))
        refine own_callV X33 hx hZ hown (hw _ (List.mem_of_getElem? (i := 14) rfl)) (hw _ (List.mem_of_getElem? (i := 15) rfl)) (notFace_of_selects (args := #[]) (mvT hZ (hw _ (List.mem_of_getElem? (i := 17) rfl)))) (hw _ (List.mem_of_getElem? (i := 17) rfl)) (hw _ (List.mem_of_getElem? (i := 16) rfl)) (hw _ (List.mem_of_getElem? (i := 18) rfl)) (hw _ (List.mem_of_getElem? (i := 3) rfl)) (by decide) (rm3 l Z a0 hw b1 T33.heap n0 i33_16 lim (own_pa off lim (0 : Int64) (0 : Int64)) i33_3 i33_5) rfl i33_1 (argsL := []) (rest := []) rfl rfl (by rw [hml]; rfl) (lenOf pd_0_1 rfl) (hb hby at_124) (W := 0) (Nat.le_of_eq rfl) (by decide) (by decide) (by decide) (by decide) ?_
        rintro v42 T42 L42 X42 ⟨rfl, M42, e42⟩
        have N42 := Fr.app N33 M42
        show own_Fin _ _ _ _ _ _ _ (T42.setTop (mkF m 127 #[.val (.long q0), .second, .val (.long q1), .second, .val (.int p2), .val (.long off), .second, .val (.long lim), .second, .val (.int nn), .val (.ref b1), .val (.int (own_f3 lim (0 : Int64))), .val (.ref b7), .val (.ref b22), .unset, .unset, .unset, .unset, .unset, .unset, .unset, .unset, .unset] [(.int (own_f3 lim (own_pa off lim (0 : Int64) (0 : Int64))))]))
        refine own_go (fun _ kk => XS.istore X42.here hx rfl (hb hby at_127) rfl (l' := #[.val (.long q0), .second, .val (.long q1), .second, .val (.int p2), .val (.long off), .second, .val (.long lim), .second, .val (.int nn), .val (.ref b1), .val (.int (own_f3 lim (0 : Int64))), .val (.ref b7), .val (.ref b22), .val (.int (own_f3 lim (own_pa off lim (0 : Int64) (0 : Int64)))), .unset, .unset, .unset, .unset, .unset, .unset, .unset, .unset]) rfl (XS.lload X42.here hx rfl (hb hby at_129) rfl (XS.lconst X42.here hx rfl (hb hby at_131) (XT.lcmp X42.here hx rfl (hb hby at_132) rfl kk)))) ?_
        show own_Fin _ _ _ _ _ _ _ (T42.setTop (mkF m 133 #[.val (.long q0), .second, .val (.long q1), .second, .val (.int p2), .val (.long off), .second, .val (.long lim), .second, .val (.int nn), .val (.ref b1), .val (.int (own_f3 lim (0 : Int64))), .val (.ref b7), .val (.ref b22), .val (.int (own_f3 lim (own_pa off lim (0 : Int64) (0 : Int64)))), .unset, .unset, .unset, .unset, .unset, .unset, .unset, .unset] [(.int (XT.cmpL off (0 : Int64)))]))
        have J157 : ∀ (TJ157 : State) (locsJ157 : List Loc) (sp : Int64), Stand p l e room_1 s m #[(.long q0), (.long q1), (.int p2)] below meth c TJ157 locsJ157 4 17 → Fr n0 locsJ157 → TJ157.heap = T33.heap → (own_f0 q0 q1 p2) = own_f0_157_2 q0 q1 p2 off lim nn sp → own_Fin p e below s (own_Q0 (some (.int (own_f0 q0 q1 p2))) n0) room_1.cells room_1.slots (TJ157.setTop (mkF m 157 #[.val (.long q0), .second, .val (.long q1), .second, .val (.int p2), .val (.long off), .second, .val (.long lim), .second, .val (.int nn), .val (.ref b1), .val (.int (own_f3 lim (0 : Int64))), .val (.ref b7), .val (.ref b22), .val (.int (own_f3 lim (own_pa off lim (0 : Int64) (0 : Int64)))), .unset, .unset, .unset, .unset, .unset, .unset, .unset, .unset] [(.long sp)])) := by
          intro TJ157 locsJ157 sp XJ157 NJ157 eJ157 hjJ157
          refine own_go (fun _ kk => XS.lstore XJ157.here hx rfl (hb hby at_157) rfl (l' := #[.val (.long q0), .second, .val (.long q1), .second, .val (.int p2), .val (.long off), .second, .val (.long lim), .second, .val (.int nn), .val (.ref b1), .val (.int (own_f3 lim (0 : Int64))), .val (.ref b7), .val (.ref b22), .val (.int (own_f3 lim (own_pa off lim (0 : Int64) (0 : Int64)))), .val (.long sp), .second, .unset, .unset, .unset, .unset, .unset, .unset]) rfl (XS.iload XJ157.here hx rfl (hb hby at_159) rfl (XS.i2l XJ157.here hx rfl (hb hby at_161) rfl (XS.lload XJ157.here hx rfl (hb hby at_162) rfl (XS.lsub XJ157.here hx rfl (hb hby at_164) rfl (XS.lstore XJ157.here hx rfl (hb hby at_165) rfl (l' := #[.val (.long q0), .second, .val (.long q1), .second, .val (.int p2), .val (.long off), .second, .val (.long lim), .second, .val (.int nn), .val (.ref b1), .val (.int (own_f3 lim (0 : Int64))), .val (.ref b7), .val (.ref b22), .val (.int (own_f3 lim (own_pa off lim (0 : Int64) (0 : Int64)))), .val (.long sp), .second, .val (.long ((Int32.toInt64 nn) - sp)), .second, .unset, .unset, .unset, .unset]) rfl (XS.lload XJ157.here hx rfl (hb hby at_167) rfl (XS.lconst XJ157.here hx rfl (hb hby at_169) (XT.lcmp XJ157.here hx rfl (hb hby at_170) rfl kk))))))))) ?_
          show own_Fin _ _ _ _ _ _ _ (TJ157.setTop (mkF m 171 #[.val (.long q0), .second, .val (.long q1), .second, .val (.int p2), .val (.long off), .second, .val (.long lim), .second, .val (.int nn), .val (.ref b1), .val (.int (own_f3 lim (0 : Int64))), .val (.ref b7), .val (.ref b22), .val (.int (own_f3 lim (own_pa off lim (0 : Int64) (0 : Int64)))), .val (.long sp), .second, .val (.long ((Int32.toInt64 nn) - sp)), .second, .unset, .unset, .unset, .unset] [(.int (XT.cmpL lim (0 : Int64)))]))
          have J186 : ∀ (TJ186 : State) (locsJ186 : List Loc) (ps : Int64), Stand p l e room_1 s m #[(.long q0), (.long q1), (.int p2)] below meth c TJ186 locsJ186 4 17 → Fr n0 locsJ186 → TJ186.heap = T33.heap → (own_f0 q0 q1 p2) = own_f0_186_2 q0 q1 p2 off lim nn sp ps → own_Fin p e below s (own_Q0 (some (.int (own_f0 q0 q1 p2))) n0) room_1.cells room_1.slots (TJ186.setTop (mkF m 186 #[.val (.long q0), .second, .val (.long q1), .second, .val (.int p2), .val (.long off), .second, .val (.long lim), .second, .val (.int nn), .val (.ref b1), .val (.int (own_f3 lim (0 : Int64))), .val (.ref b7), .val (.ref b22), .val (.int (own_f3 lim (own_pa off lim (0 : Int64) (0 : Int64)))), .val (.long sp), .second, .val (.long ((Int32.toInt64 nn) - sp)), .second, .unset, .unset, .unset, .unset] [(.long ps)])) := by
            intro TJ186 locsJ186 ps XJ186 NJ186 eJ186 hjJ186
            refine own_go (fun _ kk => XS.lstore XJ186.here hx rfl (hb hby at_186) rfl (l' := #[.val (.long q0), .second, .val (.long q1), .second, .val (.int p2), .val (.long off), .second, .val (.long lim), .second, .val (.int nn), .val (.ref b1), .val (.int (own_f3 lim (0 : Int64))), .val (.ref b7), .val (.ref b22), .val (.int (own_f3 lim (own_pa off lim (0 : Int64) (0 : Int64)))), .val (.long sp), .second, .val (.long ((Int32.toInt64 nn) - sp)), .second, .val (.long ps), .second, .unset, .unset]) rfl (XS.lload XJ186.here hx rfl (hb hby at_188) rfl (XS.lconst XJ186.here hx rfl (hb hby at_190) (XT.lcmp XJ186.here hx rfl (hb hby at_191) rfl kk)))) ?_
            show own_Fin _ _ _ _ _ _ _ (TJ186.setTop (mkF m 192 #[.val (.long q0), .second, .val (.long q1), .second, .val (.int p2), .val (.long off), .second, .val (.long lim), .second, .val (.int nn), .val (.ref b1), .val (.int (own_f3 lim (0 : Int64))), .val (.ref b7), .val (.ref b22), .val (.int (own_f3 lim (own_pa off lim (0 : Int64) (0 : Int64)))), .val (.long sp), .second, .val (.long ((Int32.toInt64 nn) - sp)), .second, .val (.long ps), .second, .unset, .unset] [(.int (XT.cmpL lim (0 : Int64)))]))
            refine own_go (U' := TJ186.setTop (mkF m 200 #[.val (.long q0), .second, .val (.long q1), .second, .val (.int p2), .val (.long off), .second, .val (.long lim), .second, .val (.int nn), .val (.ref b1), .val (.int (own_f3 lim (0 : Int64))), .val (.ref b7), .val (.ref b22), .val (.int (own_f3 lim (own_pa off lim (0 : Int64) (0 : Int64)))), .val (.long sp), .second, .val (.long ((Int32.toInt64 nn) - sp)), .second, .val (.long ps), .second, .unset, .unset] [(.int (if lim = (0 : Int64) then (1 : Int32) else (0 : Int32)))])) (fun t k => ?_) ?_
            · by_cases hd192 : lim = (0 : Int64)
              · simp only [if_pos hd192] at k
                refine XS.ifNo XJ186.here hx rfl (hb hby at_192) rfl (XT.ll_ne_f hd192) (XS.iconst XJ186.here hx rfl (hb hby at_195) (XS.goto XJ186.here hx rfl (pc0 := 196) (pc' := 200) rfl (hb hby at_196) (by decide) (by decide) ?_))
                show Steps p.tables e below (TJ186.setTop (mkF m 200 #[.val (.long q0), .second, .val (.long q1), .second, .val (.int p2), .val (.long off), .second, .val (.long lim), .second, .val (.int nn), .val (.ref b1), .val (.int (own_f3 lim (0 : Int64))), .val (.ref b7), .val (.ref b22), .val (.int (own_f3 lim (own_pa off lim (0 : Int64) (0 : Int64)))), .val (.long sp), .second, .val (.long ((Int32.toInt64 nn) - sp)), .second, .val (.long ps), .second, .unset, .unset] [(.int (1 : Int32))])) _
                exact k
              · simp only [if_neg hd192] at k
                refine XS.ifYes XJ186.here hx rfl (pc0 := 192) (pc' := 199) rfl (hb hby at_192) rfl (XT.ll_ne_t hd192) (by decide) (by decide) (XS.iconst XJ186.here hx rfl (hb hby at_199) ?_)
                show Steps p.tables e below (TJ186.setTop (mkF m 200 #[.val (.long q0), .second, .val (.long q1), .second, .val (.int p2), .val (.long off), .second, .val (.long lim), .second, .val (.int nn), .val (.ref b1), .val (.int (own_f3 lim (0 : Int64))), .val (.ref b7), .val (.ref b22), .val (.int (own_f3 lim (own_pa off lim (0 : Int64) (0 : Int64)))), .val (.long sp), .second, .val (.long ((Int32.toInt64 nn) - sp)), .second, .val (.long ps), .second, .unset, .unset] [(.int (0 : Int32))])) _
                exact k
            show own_Fin _ _ _ _ _ _ _ (TJ186.setTop (mkF m 200 #[.val (.long q0), .second, .val (.long q1), .second, .val (.int p2), .val (.long off), .second, .val (.long lim), .second, .val (.int nn), .val (.ref b1), .val (.int (own_f3 lim (0 : Int64))), .val (.ref b7), .val (.ref b22), .val (.int (own_f3 lim (own_pa off lim (0 : Int64) (0 : Int64)))), .val (.long sp), .second, .val (.long ((Int32.toInt64 nn) - sp)), .second, .val (.long ps), .second, .unset, .unset] [(.int (if lim = (0 : Int64) then (1 : Int32) else (0 : Int32)))]))
            refine own_go (fun _ kk => XS.istore XJ186.here hx rfl (hb hby at_200) rfl (l' := #[.val (.long q0), .second, .val (.long q1), .second, .val (.int p2), .val (.long off), .second, .val (.long lim), .second, .val (.int nn), .val (.ref b1), .val (.int (own_f3 lim (0 : Int64))), .val (.ref b7), .val (.ref b22), .val (.int (own_f3 lim (own_pa off lim (0 : Int64) (0 : Int64)))), .val (.long sp), .second, .val (.long ((Int32.toInt64 nn) - sp)), .second, .val (.long ps), .second, .val (.int (if lim = (0 : Int64) then (1 : Int32) else (0 : Int32))), .unset]) rfl (XS.lload XJ186.here hx rfl (hb hby at_202) rfl (XS.lconst XJ186.here hx rfl (hb hby at_204) (XT.lcmp XJ186.here hx rfl (hb hby at_205) rfl kk)))) ?_
            show own_Fin _ _ _ _ _ _ _ (TJ186.setTop (mkF m 206 #[.val (.long q0), .second, .val (.long q1), .second, .val (.int p2), .val (.long off), .second, .val (.long lim), .second, .val (.int nn), .val (.ref b1), .val (.int (own_f3 lim (0 : Int64))), .val (.ref b7), .val (.ref b22), .val (.int (own_f3 lim (own_pa off lim (0 : Int64) (0 : Int64)))), .val (.long sp), .second, .val (.long ((Int32.toInt64 nn) - sp)), .second, .val (.long ps), .second, .val (.int (if lim = (0 : Int64) then (1 : Int32) else (0 : Int32))), .unset] [(.int (XT.cmpL lim (0 : Int64)))]))
            have J222 : ∀ (TJ222 : State) (locsJ222 : List Loc) (ea : Int32), Stand p l e room_1 s m #[(.long q0), (.long q1), (.int p2)] below meth c TJ222 locsJ222 4 17 → Fr n0 locsJ222 → TJ222.heap = T33.heap → (own_f0 q0 q1 p2) = own_f0_222_2 q0 q1 p2 off lim nn sp ps ea → own_Fin p e below s (own_Q0 (some (.int (own_f0 q0 q1 p2))) n0) room_1.cells room_1.slots (TJ222.setTop (mkF m 222 #[.val (.long q0), .second, .val (.long q1), .second, .val (.int p2), .val (.long off), .second, .val (.long lim), .second, .val (.int nn), .val (.ref b1), .val (.int (own_f3 lim (0 : Int64))), .val (.ref b7), .val (.ref b22), .val (.int (own_f3 lim (own_pa off lim (0 : Int64) (0 : Int64)))), .val (.long sp), .second, .val (.long ((Int32.toInt64 nn) - sp)), .second, .val (.long ps), .second, .val (.int (if lim = (0 : Int64) then (1 : Int32) else (0 : Int32))), .unset] [(.int ea)])) := by
              intro TJ222 locsJ222 ea XJ222 NJ222 eJ222 hjJ222
              refine own_go (fun _ kk => XS.istore XJ222.here hx rfl (hb hby at_222) rfl (l' := #[.val (.long q0), .second, .val (.long q1), .second, .val (.int p2), .val (.long off), .second, .val (.long lim), .second, .val (.int nn), .val (.ref b1), .val (.int (own_f3 lim (0 : Int64))), .val (.ref b7), .val (.ref b22), .val (.int (own_f3 lim (own_pa off lim (0 : Int64) (0 : Int64)))), .val (.long sp), .second, .val (.long ((Int32.toInt64 nn) - sp)), .second, .val (.long ps), .second, .val (.int (if lim = (0 : Int64) then (1 : Int32) else (0 : Int32))), .val (.int ea)]) rfl (XS.iload XJ222.here hx rfl (hb hby at_224) rfl (XS.iload XJ222.here hx rfl (hb hby at_226) rfl kk))) ?_
              show own_Fin _ _ _ _ _ _ _ (TJ222.setTop (mkF m 228 #[.val (.long q0), .second, .val (.long q1), .second, .val (.int p2), .val (.long off), .second, .val (.long lim), .second, .val (.int nn), .val (.ref b1), .val (.int (own_f3 lim (0 : Int64))), .val (.ref b7), .val (.ref b22), .val (.int (own_f3 lim (own_pa off lim (0 : Int64) (0 : Int64)))), .val (.long sp), .second, .val (.long ((Int32.toInt64 nn) - sp)), .second, .val (.long ps), .second, .val (.int (if lim = (0 : Int64) then (1 : Int32) else (0 : Int32))), .val (.int ea)] [(.int (if lim = (0 : Int64) then (1 : Int32) else (0 : Int32))), (.int (own_f3 lim (0 : Int64)))]))
              by_cases hc228 : (own_f3 lim (0 : Int64)) = (if lim = (0 : Int64) then (1 : Int32) else (0 : Int32))
              · refine own_go (fun _ kk => XS.icmpNo XJ222.here hx rfl (hb hby at_228) rfl (XT.ii_ne_f hc228) (XS.iload XJ222.here hx rfl (hb hby at_231) rfl (XS.iload XJ222.here hx rfl (hb hby at_233) rfl kk))) ?_
                show own_Fin _ _ _ _ _ _ _ (TJ222.setTop (mkF m 235 #[.val (.long q0), .second, .val (.long q1), .second, .val (.int p2), .val (.long off), .second, .val (.long lim), .second, .val (.int nn), .val (.ref b1), .val (.int (own_f3 lim (0 : Int64))), .val (.ref b7), .val (.ref b22), .val (.int (own_f3 lim (own_pa off lim (0 : Int64) (0 : Int64)))), .val (.long sp), .second, .val (.long ((Int32.toInt64 nn) - sp)), .second, .val (.long ps), .second, .val (.int (if lim = (0 : Int64) then (1 : Int32) else (0 : Int32))), .val (.int ea)] [(.int ea), (.int (own_f3 lim (own_pa off lim (0 : Int64) (0 : Int64))))]))
                by_cases hc235 : (own_f3 lim (own_pa off lim (0 : Int64) (0 : Int64))) = ea
                · refine own_go (fun _ kk => XS.icmpNo XJ222.here hx rfl (hb hby at_235) rfl (XT.ii_ne_f hc235) (XS.aload XJ222.here hx rfl (hb hby at_238) rfl rfl kk)) ?_
                  show own_Fin _ _ _ _ _ _ _ (TJ222.setTop (mkF m 240 #[.val (.long q0), .second, .val (.long q1), .second, .val (.int p2), .val (.long off), .second, .val (.long lim), .second, .val (.int nn), .val (.ref b1), .val (.int (own_f3 lim (0 : Int64))), .val (.ref b7), .val (.ref b22), .val (.int (own_f3 lim (own_pa off lim (0 : Int64) (0 : Int64)))), .val (.long sp), .second, .val (.long ((Int32.toInt64 nn) - sp)), .second, .val (.long ps), .second, .val (.int (if lim = (0 : Int64) then (1 : Int32) else (0 : Int32))), .val (.int ea)] [(.ref b7)]))
                  refine own_callV XJ222 hx hZ hown (hw _ (List.mem_of_getElem? (i := 51) rfl)) (hw _ (List.mem_of_getElem? (i := 52) rfl)) (notFace_of_selects (args := #[]) (mvT hZ (hw _ (List.mem_of_getElem? (i := 54) rfl)))) (hw _ (List.mem_of_getElem? (i := 54) rfl)) (hw _ (List.mem_of_getElem? (i := 53) rfl)) (hw _ (List.mem_of_getElem? (i := 55) rfl)) (hw _ (List.mem_of_getElem? (i := 23) rfl)) (by decide) (rm8 l Z a0 hw b7 T33.heap n0 i33_16 (Int32.ofNat (own_sz off lim (0 : Int64) (0 : Int64) 0)) i33_7) eJ222 i33_6 (argsL := []) (rest := []) rfl rfl (by rw [hml]; rfl) (lenOf pd_0_4 rfl) (hb hby at_240) (W := 0) (Nat.le_of_eq rfl) (by decide) (by decide) (by decide) (by decide) ?_
                  rintro v43 T43 L43 X43 ⟨rfl, M43, e43⟩
                  have N43 := Fr.app NJ222 M43
                  show own_Fin _ _ _ _ _ _ _ (T43.setTop (mkF m 243 #[.val (.long q0), .second, .val (.long q1), .second, .val (.int p2), .val (.long off), .second, .val (.long lim), .second, .val (.int nn), .val (.ref b1), .val (.int (own_f3 lim (0 : Int64))), .val (.ref b7), .val (.ref b22), .val (.int (own_f3 lim (own_pa off lim (0 : Int64) (0 : Int64)))), .val (.long sp), .second, .val (.long ((Int32.toInt64 nn) - sp)), .second, .val (.long ps), .second, .val (.int (if lim = (0 : Int64) then (1 : Int32) else (0 : Int32))), .val (.int ea)] [(.int (Int32.ofNat (own_sz off lim (0 : Int64) (0 : Int64) 0)))]))
                  refine own_go (fun _ kk => XS.i2l X43.here hx rfl (hb hby at_243) rfl (XS.lload X43.here hx rfl (hb hby at_244) rfl (XT.lcmp X43.here hx rfl (hb hby at_246) rfl kk))) ?_
                  show own_Fin _ _ _ _ _ _ _ (T43.setTop (mkF m 247 #[.val (.long q0), .second, .val (.long q1), .second, .val (.int p2), .val (.long off), .second, .val (.long lim), .second, .val (.int nn), .val (.ref b1), .val (.int (own_f3 lim (0 : Int64))), .val (.ref b7), .val (.ref b22), .val (.int (own_f3 lim (own_pa off lim (0 : Int64) (0 : Int64)))), .val (.long sp), .second, .val (.long ((Int32.toInt64 nn) - sp)), .second, .val (.long ps), .second, .val (.int (if lim = (0 : Int64) then (1 : Int32) else (0 : Int32))), .val (.int ea)] [(.int (XT.cmpL (Int32.toInt64 (Int32.ofNat (own_sz off lim (0 : Int64) (0 : Int64) 0))) ps))]))
                  by_cases hc247 : (Int32.toInt64 (Int32.ofNat (own_sz off lim (0 : Int64) (0 : Int64) 0))) = ps
                  · refine own_go (fun _ kk => XS.ifNo X43.here hx rfl (hb hby at_247) rfl (XT.ll_ne_f hc247) (XS.iconst X43.here hx rfl (hb hby at_250) (XS.goto X43.here hx rfl (pc0 := 251) (pc' := 255) rfl (hb hby at_251) (by decide) (by decide) kk))) ?_
                    show own_Fin _ _ _ _ _ _ _ (T43.setTop (mkF m 255 #[.val (.long q0), .second, .val (.long q1), .second, .val (.int p2), .val (.long off), .second, .val (.long lim), .second, .val (.int nn), .val (.ref b1), .val (.int (own_f3 lim (0 : Int64))), .val (.ref b7), .val (.ref b22), .val (.int (own_f3 lim (own_pa off lim (0 : Int64) (0 : Int64)))), .val (.long sp), .second, .val (.long ((Int32.toInt64 nn) - sp)), .second, .val (.long ps), .second, .val (.int (if lim = (0 : Int64) then (1 : Int32) else (0 : Int32))), .val (.int ea)] [(.int (1 : Int32))]))
                    exact own_retZ X43 hx hlk hret rfl (hb hby at_255) (by decide) (by decide) ⟨(by rw [hjJ222, own_f0_222_2, if_pos hc228, if_pos hc235, if_pos hc247]), N43⟩
                  · refine own_go (fun _ kk => XS.ifYes X43.here hx rfl (pc0 := 247) (pc' := 254) rfl (hb hby at_247) rfl (XT.ll_ne_t hc247) (by decide) (by decide) (XS.iconst X43.here hx rfl (hb hby at_254) kk)) ?_
                    show own_Fin _ _ _ _ _ _ _ (T43.setTop (mkF m 255 #[.val (.long q0), .second, .val (.long q1), .second, .val (.int p2), .val (.long off), .second, .val (.long lim), .second, .val (.int nn), .val (.ref b1), .val (.int (own_f3 lim (0 : Int64))), .val (.ref b7), .val (.ref b22), .val (.int (own_f3 lim (own_pa off lim (0 : Int64) (0 : Int64)))), .val (.long sp), .second, .val (.long ((Int32.toInt64 nn) - sp)), .second, .val (.long ps), .second, .val (.int (if lim = (0 : Int64) then (1 : Int32) else (0 : Int32))), .val (.int ea)] [(.int (0 : Int32))]))
                    exact own_retZ X43 hx hlk hret rfl (hb hby at_255) (by decide) (by decide) ⟨(by rw [hjJ222, own_f0_222_2, if_pos hc228, if_pos hc235, if_neg hc247]), N43⟩
                · refine own_go (fun _ kk => XS.icmpYes XJ222.here hx rfl (pc0 := 235) (pc' := 254) rfl (hb hby at_235) rfl (XT.ii_ne_t hc235) (by decide) (by decide) (XS.iconst XJ222.here hx rfl (hb hby at_254) kk)) ?_
                  show own_Fin _ _ _ _ _ _ _ (TJ222.setTop (mkF m 255 #[.val (.long q0), .second, .val (.long q1), .second, .val (.int p2), .val (.long off), .second, .val (.long lim), .second, .val (.int nn), .val (.ref b1), .val (.int (own_f3 lim (0 : Int64))), .val (.ref b7), .val (.ref b22), .val (.int (own_f3 lim (own_pa off lim (0 : Int64) (0 : Int64)))), .val (.long sp), .second, .val (.long ((Int32.toInt64 nn) - sp)), .second, .val (.long ps), .second, .val (.int (if lim = (0 : Int64) then (1 : Int32) else (0 : Int32))), .val (.int ea)] [(.int (0 : Int32))]))
                  exact own_retZ XJ222 hx hlk hret rfl (hb hby at_255) (by decide) (by decide) ⟨(by rw [hjJ222, own_f0_222_2, if_pos hc228, if_neg hc235]), NJ222⟩
              · refine own_go (fun _ kk => XS.icmpYes XJ222.here hx rfl (pc0 := 228) (pc' := 254) rfl (hb hby at_228) rfl (XT.ii_ne_t hc228) (by decide) (by decide) (XS.iconst XJ222.here hx rfl (hb hby at_254) kk)) ?_
                show own_Fin _ _ _ _ _ _ _ (TJ222.setTop (mkF m 255 #[.val (.long q0), .second, .val (.long q1), .second, .val (.int p2), .val (.long off), .second, .val (.long lim), .second, .val (.int nn), .val (.ref b1), .val (.int (own_f3 lim (0 : Int64))), .val (.ref b7), .val (.ref b22), .val (.int (own_f3 lim (own_pa off lim (0 : Int64) (0 : Int64)))), .val (.long sp), .second, .val (.long ((Int32.toInt64 nn) - sp)), .second, .val (.long ps), .second, .val (.int (if lim = (0 : Int64) then (1 : Int32) else (0 : Int32))), .val (.int ea)] [(.int (0 : Int32))]))
                exact own_retZ XJ222 hx hlk hret rfl (hb hby at_255) (by decide) (by decide) ⟨(by rw [hjJ222, own_f0_222_2, if_neg hc228]), NJ222⟩
            by_cases hc206 : lim < (0 : Int64)
            · refine own_go (fun _ kk => XS.ifYes XJ186.here hx rfl (pc0 := 206) (pc' := 221) rfl (hb hby at_206) rfl (XT.ll_lt_t hc206) (by decide) (by decide) (XS.iconst XJ186.here hx rfl (hb hby at_221) kk)) ?_
              show own_Fin _ _ _ _ _ _ _ (TJ186.setTop (mkF m 222 #[.val (.long q0), .second, .val (.long q1), .second, .val (.int p2), .val (.long off), .second, .val (.long lim), .second, .val (.int nn), .val (.ref b1), .val (.int (own_f3 lim (0 : Int64))), .val (.ref b7), .val (.ref b22), .val (.int (own_f3 lim (own_pa off lim (0 : Int64) (0 : Int64)))), .val (.long sp), .second, .val (.long ((Int32.toInt64 nn) - sp)), .second, .val (.long ps), .second, .val (.int (if lim = (0 : Int64) then (1 : Int32) else (0 : Int32))), .unset] [(.int (0 : Int32))]))
              exact J222 _ _ ((0 : Int32)) XJ186 NJ186 eJ186 (by rw [hjJ186, own_f0_186_2, if_pos hc206])
            · refine own_go (fun _ kk => XS.ifNo XJ186.here hx rfl (hb hby at_206) rfl (XT.ll_lt_f hc206) (XS.lload XJ186.here hx rfl (hb hby at_209) rfl (XS.lload XJ186.here hx rfl (hb hby at_211) rfl (XT.lcmp XJ186.here hx rfl (hb hby at_213) rfl kk)))) ?_
              show own_Fin _ _ _ _ _ _ _ (TJ186.setTop (mkF m 214 #[.val (.long q0), .second, .val (.long q1), .second, .val (.int p2), .val (.long off), .second, .val (.long lim), .second, .val (.int nn), .val (.ref b1), .val (.int (own_f3 lim (0 : Int64))), .val (.ref b7), .val (.ref b22), .val (.int (own_f3 lim (own_pa off lim (0 : Int64) (0 : Int64)))), .val (.long sp), .second, .val (.long ((Int32.toInt64 nn) - sp)), .second, .val (.long ps), .second, .val (.int (if lim = (0 : Int64) then (1 : Int32) else (0 : Int32))), .unset] [(.int (XT.cmpL ((Int32.toInt64 nn) - sp) lim))]))
              by_cases hc214 : ((Int32.toInt64 nn) - sp) < lim
              · refine own_go (fun _ kk => XS.ifYes XJ186.here hx rfl (pc0 := 214) (pc' := 221) rfl (hb hby at_214) rfl (XT.ll_lt_t hc214) (by decide) (by decide) (XS.iconst XJ186.here hx rfl (hb hby at_221) kk)) ?_
                show own_Fin _ _ _ _ _ _ _ (TJ186.setTop (mkF m 222 #[.val (.long q0), .second, .val (.long q1), .second, .val (.int p2), .val (.long off), .second, .val (.long lim), .second, .val (.int nn), .val (.ref b1), .val (.int (own_f3 lim (0 : Int64))), .val (.ref b7), .val (.ref b22), .val (.int (own_f3 lim (own_pa off lim (0 : Int64) (0 : Int64)))), .val (.long sp), .second, .val (.long ((Int32.toInt64 nn) - sp)), .second, .val (.long ps), .second, .val (.int (if lim = (0 : Int64) then (1 : Int32) else (0 : Int32))), .unset] [(.int (0 : Int32))]))
                exact J222 _ _ ((0 : Int32)) XJ186 NJ186 eJ186 (by rw [hjJ186, own_f0_186_2, if_neg hc206, if_pos hc214])
              · refine own_go (fun _ kk => XS.ifNo XJ186.here hx rfl (hb hby at_214) rfl (XT.ll_lt_f hc214) (XS.iconst XJ186.here hx rfl (hb hby at_217) (XS.goto XJ186.here hx rfl (pc0 := 218) (pc' := 222) rfl (hb hby at_218) (by decide) (by decide) kk))) ?_
                show own_Fin _ _ _ _ _ _ _ (TJ186.setTop (mkF m 222 #[.val (.long q0), .second, .val (.long q1), .second, .val (.int p2), .val (.long off), .second, .val (.long lim), .second, .val (.int nn), .val (.ref b1), .val (.int (own_f3 lim (0 : Int64))), .val (.ref b7), .val (.ref b22), .val (.int (own_f3 lim (own_pa off lim (0 : Int64) (0 : Int64)))), .val (.long sp), .second, .val (.long ((Int32.toInt64 nn) - sp)), .second, .val (.long ps), .second, .val (.int (if lim = (0 : Int64) then (1 : Int32) else (0 : Int32))), .unset] [(.int (1 : Int32))]))
                exact J222 _ _ ((1 : Int32)) XJ186 NJ186 eJ186 (by rw [hjJ186, own_f0_186_2, if_neg hc206, if_neg hc214])
          by_cases hc171 : lim < (0 : Int64)
          · refine own_go (fun _ kk => XS.ifNo XJ157.here hx rfl (hb hby at_171) rfl (XT.ll_ge_f hc171) (XS.lload XJ157.here hx rfl (hb hby at_174) rfl (XS.goto XJ157.here hx rfl (pc0 := 176) (pc' := 186) rfl (hb hby at_176) (by decide) (by decide) kk))) ?_
            show own_Fin _ _ _ _ _ _ _ (TJ157.setTop (mkF m 186 #[.val (.long q0), .second, .val (.long q1), .second, .val (.int p2), .val (.long off), .second, .val (.long lim), .second, .val (.int nn), .val (.ref b1), .val (.int (own_f3 lim (0 : Int64))), .val (.ref b7), .val (.ref b22), .val (.int (own_f3 lim (own_pa off lim (0 : Int64) (0 : Int64)))), .val (.long sp), .second, .val (.long ((Int32.toInt64 nn) - sp)), .second, .unset, .unset, .unset, .unset] [(.long ((Int32.toInt64 nn) - sp))]))
            exact J186 _ _ (((Int32.toInt64 nn) - sp)) XJ157 NJ157 eJ157 (by rw [hjJ157, own_f0_157_2, if_pos hc171])
          · refine own_go (fun _ kk => XS.ifYes XJ157.here hx rfl (pc0 := 171) (pc' := 179) rfl (hb hby at_171) rfl (XT.ll_ge_t hc171) (by decide) (by decide) (XS.lload XJ157.here hx rfl (hb hby at_179) rfl (XS.lload XJ157.here hx rfl (hb hby at_181) rfl kk))) ?_
            show own_Fin _ _ _ _ _ _ _ (TJ157.setTop (mkF m 183 #[.val (.long q0), .second, .val (.long q1), .second, .val (.int p2), .val (.long off), .second, .val (.long lim), .second, .val (.int nn), .val (.ref b1), .val (.int (own_f3 lim (0 : Int64))), .val (.ref b7), .val (.ref b22), .val (.int (own_f3 lim (own_pa off lim (0 : Int64) (0 : Int64)))), .val (.long sp), .second, .val (.long ((Int32.toInt64 nn) - sp)), .second, .unset, .unset, .unset, .unset] [(.long lim), (.long ((Int32.toInt64 nn) - sp))]))
            refine own_callS XJ157 hx hZ hown (hw _ (List.mem_of_getElem? (i := 47) rfl)) (hw _ (List.mem_of_getElem? (i := 48) rfl)) (hw _ (List.mem_of_getElem? (i := 49) rfl)) (hw _ (List.mem_of_getElem? (i := 50) rfl)) (by decide) (rm7 l Z a0 hw ((Int32.toInt64 nn) - sp) lim T33.heap n0 i33_16) eJ157 (argsL := [(.long ((Int32.toInt64 nn) - sp)), (.long lim)]) (rest := []) rfl rfl (by rw [hml]; rfl) (lenOf pd_0_5 rfl) (hb hby at_183) (W := 0) (Nat.le_of_eq rfl) (by decide) (by decide) (by decide) (by decide) ?_
            rintro v44 T44 L44 X44 ⟨rfl, M44, e44⟩
            have N44 := Fr.app NJ157 M44
            show own_Fin _ _ _ _ _ _ _ (T44.setTop (mkF m 186 #[.val (.long q0), .second, .val (.long q1), .second, .val (.int p2), .val (.long off), .second, .val (.long lim), .second, .val (.int nn), .val (.ref b1), .val (.int (own_f3 lim (0 : Int64))), .val (.ref b7), .val (.ref b22), .val (.int (own_f3 lim (own_pa off lim (0 : Int64) (0 : Int64)))), .val (.long sp), .second, .val (.long ((Int32.toInt64 nn) - sp)), .second, .unset, .unset, .unset, .unset] [(.long (own_f7 ((Int32.toInt64 nn) - sp) lim))]))
            exact J186 _ _ ((own_f7 ((Int32.toInt64 nn) - sp) lim)) X44 N44 e44 (by rw [hjJ157, own_f0_157_2, if_neg hc171])
        by_cases hc133 : (0 : Int64) < off
        · refine own_go (fun _ kk => XS.ifYes X42.here hx rfl (pc0 := 133) (pc' := 140) rfl (hb hby at_133) rfl (XT.ll_gt_t hc133) (by decide) (by decide) (XS.lload X42.here hx rfl (hb hby at_140) rfl (XS.iload X42.here hx rfl (hb hby at_142) rfl (XS.i2l X42.here hx rfl (hb hby at_144) rfl (XT.lcmp X42.here hx rfl (hb hby at_145) rfl kk))))) ?_
          show own_Fin _ _ _ _ _ _ _ (T42.setTop (mkF m 146 #[.val (.long q0), .second, .val (.long q1), .second, .val (.int p2), .val (.long off), .second, .val (.long lim), .second, .val (.int nn), .val (.ref b1), .val (.int (own_f3 lim (0 : Int64))), .val (.ref b7), .val (.ref b22), .val (.int (own_f3 lim (own_pa off lim (0 : Int64) (0 : Int64)))), .unset, .unset, .unset, .unset, .unset, .unset, .unset, .unset] [(.int (XT.cmpL off (Int32.toInt64 nn)))]))
          by_cases hc146 : off < (Int32.toInt64 nn)
          · refine own_go (fun _ kk => XS.ifNo X42.here hx rfl (hb hby at_146) rfl (XT.ll_ge_f hc146) (XS.lload X42.here hx rfl (hb hby at_149) rfl (XS.goto X42.here hx rfl (pc0 := 151) (pc' := 157) rfl (hb hby at_151) (by decide) (by decide) kk))) ?_
            show own_Fin _ _ _ _ _ _ _ (T42.setTop (mkF m 157 #[.val (.long q0), .second, .val (.long q1), .second, .val (.int p2), .val (.long off), .second, .val (.long lim), .second, .val (.int nn), .val (.ref b1), .val (.int (own_f3 lim (0 : Int64))), .val (.ref b7), .val (.ref b22), .val (.int (own_f3 lim (own_pa off lim (0 : Int64) (0 : Int64)))), .unset, .unset, .unset, .unset, .unset, .unset, .unset, .unset] [(.long off)]))
            exact J157 _ _ (off) X42 N42 e42 (by rw [hjJ43, own_f0_43, if_pos hc80, if_neg hc95, if_pos hc133, if_pos hc146])
          · refine own_go (fun _ kk => XS.ifYes X42.here hx rfl (pc0 := 146) (pc' := 154) rfl (hb hby at_146) rfl (XT.ll_ge_t hc146) (by decide) (by decide) (XS.iload X42.here hx rfl (hb hby at_154) rfl (XS.i2l X42.here hx rfl (hb hby at_156) rfl kk))) ?_
            show own_Fin _ _ _ _ _ _ _ (T42.setTop (mkF m 157 #[.val (.long q0), .second, .val (.long q1), .second, .val (.int p2), .val (.long off), .second, .val (.long lim), .second, .val (.int nn), .val (.ref b1), .val (.int (own_f3 lim (0 : Int64))), .val (.ref b7), .val (.ref b22), .val (.int (own_f3 lim (own_pa off lim (0 : Int64) (0 : Int64)))), .unset, .unset, .unset, .unset, .unset, .unset, .unset, .unset] [(.long (Int32.toInt64 nn))]))
            exact J157 _ _ ((Int32.toInt64 nn)) X42 N42 e42 (by rw [hjJ43, own_f0_43, if_pos hc80, if_neg hc95, if_pos hc133, if_neg hc146])
        · refine own_go (fun _ kk => XS.ifNo X42.here hx rfl (hb hby at_133) rfl (XT.ll_gt_f hc133) (XS.lconst X42.here hx rfl (hb hby at_136) (XS.goto X42.here hx rfl (pc0 := 137) (pc' := 157) rfl (hb hby at_137) (by decide) (by decide) kk))) ?_
          show own_Fin _ _ _ _ _ _ _ (T42.setTop (mkF m 157 #[.val (.long q0), .second, .val (.long q1), .second, .val (.int p2), .val (.long off), .second, .val (.long lim), .second, .val (.int nn), .val (.ref b1), .val (.int (own_f3 lim (0 : Int64))), .val (.ref b7), .val (.ref b22), .val (.int (own_f3 lim (own_pa off lim (0 : Int64) (0 : Int64)))), .unset, .unset, .unset, .unset, .unset, .unset, .unset, .unset] [(.long (0 : Int64))]))
          exact J157 _ _ ((0 : Int64)) X42 N42 e42 (by rw [hjJ43, own_f0_43, if_pos hc80, if_neg hc95, if_neg hc133])
    · refine own_go (fun _ kk => XS.ifYes X22.here hx rfl (pc0 := 80) (pc' := 92) rfl (hb hby at_80) rfl (XT.i0_le_t hc80) (by decide) (by decide) (XS.iload X22.here hx rfl (hb hby at_92) rfl (XS.iconst X22.here hx rfl (hb hby at_94) (XS.icmpYes X22.here hx rfl (pc0 := 95) (pc' := 107) rfl (hb hby at_95) rfl (XT.ii_le_t (own_n1 hc80)) (by decide) (by decide) (XS.iload X22.here hx rfl (hb hby at_107) rfl (XS.iconst X22.here hx rfl (hb hby at_109) (XS.icmpYes X22.here hx rfl (pc0 := 110) (pc' := 122) rfl (hb hby at_110) rfl (XT.ii_le_t (own_n2 (own_n1 hc80))) (by decide) (by decide) (XS.aload X22.here hx rfl (hb hby at_122) rfl rfl kk)))))))) ?_
      show own_Fin _ _ _ _ _ _ _ (T22.setTop (mkF m 124 #[.val (.long q0), .second, .val (.long q1), .second, .val (.int p2), .val (.long off), .second, .val (.long lim), .second, .val (.int nn), .val (.ref b1), .val (.int (own_f3 lim (0 : Int64))), .val (.ref b7), .val (.ref b22), .unset, .unset, .unset, .unset, .unset, .unset, .unset, .unset, .unset] [(.ref b1)]))
      refine own_callV X22 hx hZ hown (hw _ (List.mem_of_getElem? (i := 14) rfl)) (hw _ (List.mem_of_getElem? (i := 15) rfl)) (notFace_of_selects (args := #[]) (mvT hZ (hw _ (List.mem_of_getElem? (i := 17) rfl)))) (hw _ (List.mem_of_getElem? (i := 17) rfl)) (hw _ (List.mem_of_getElem? (i := 16) rfl)) (hw _ (List.mem_of_getElem? (i := 18) rfl)) (hw _ (List.mem_of_getElem? (i := 3) rfl)) (by decide) (rm3 l Z a0 hw b1 h22 n0 Z22 lim (0 : Int64) f26 f28) e22 f24 (argsL := []) (rest := []) rfl rfl (by rw [hml]; rfl) (lenOf pd_0_1 rfl) (hb hby at_124) (W := 0) (Nat.le_of_eq rfl) (by decide) (by decide) (by decide) (by decide) ?_
      rintro v45 T45 L45 X45 ⟨rfl, M45, e45⟩
      have N45 := Fr.app N14 M45
      show own_Fin _ _ _ _ _ _ _ (T45.setTop (mkF m 127 #[.val (.long q0), .second, .val (.long q1), .second, .val (.int p2), .val (.long off), .second, .val (.long lim), .second, .val (.int nn), .val (.ref b1), .val (.int (own_f3 lim (0 : Int64))), .val (.ref b7), .val (.ref b22), .unset, .unset, .unset, .unset, .unset, .unset, .unset, .unset, .unset] [(.int (own_f3 lim (0 : Int64)))]))
      refine own_go (fun _ kk => XS.istore X45.here hx rfl (hb hby at_127) rfl (l' := #[.val (.long q0), .second, .val (.long q1), .second, .val (.int p2), .val (.long off), .second, .val (.long lim), .second, .val (.int nn), .val (.ref b1), .val (.int (own_f3 lim (0 : Int64))), .val (.ref b7), .val (.ref b22), .val (.int (own_f3 lim (0 : Int64))), .unset, .unset, .unset, .unset, .unset, .unset, .unset, .unset]) rfl (XS.lload X45.here hx rfl (hb hby at_129) rfl (XS.lconst X45.here hx rfl (hb hby at_131) (XT.lcmp X45.here hx rfl (hb hby at_132) rfl kk)))) ?_
      show own_Fin _ _ _ _ _ _ _ (T45.setTop (mkF m 133 #[.val (.long q0), .second, .val (.long q1), .second, .val (.int p2), .val (.long off), .second, .val (.long lim), .second, .val (.int nn), .val (.ref b1), .val (.int (own_f3 lim (0 : Int64))), .val (.ref b7), .val (.ref b22), .val (.int (own_f3 lim (0 : Int64))), .unset, .unset, .unset, .unset, .unset, .unset, .unset, .unset] [(.int (XT.cmpL off (0 : Int64)))]))
      have J157 : ∀ (TJ157 : State) (locsJ157 : List Loc) (sp : Int64), Stand p l e room_1 s m #[(.long q0), (.long q1), (.int p2)] below meth c TJ157 locsJ157 3 7 → Fr n0 locsJ157 → TJ157.heap = h22 → (own_f0 q0 q1 p2) = own_f0_157_3 q0 q1 p2 off lim nn sp → own_Fin p e below s (own_Q0 (some (.int (own_f0 q0 q1 p2))) n0) room_1.cells room_1.slots (TJ157.setTop (mkF m 157 #[.val (.long q0), .second, .val (.long q1), .second, .val (.int p2), .val (.long off), .second, .val (.long lim), .second, .val (.int nn), .val (.ref b1), .val (.int (own_f3 lim (0 : Int64))), .val (.ref b7), .val (.ref b22), .val (.int (own_f3 lim (0 : Int64))), .unset, .unset, .unset, .unset, .unset, .unset, .unset, .unset] [(.long sp)])) := by
        intro TJ157 locsJ157 sp XJ157 NJ157 eJ157 hjJ157
        refine own_go (fun _ kk => XS.lstore XJ157.here hx rfl (hb hby at_157) rfl (l' := #[.val (.long q0), .second, .val (.long q1), .second, .val (.int p2), .val (.long off), .second, .val (.long lim), .second, .val (.int nn), .val (.ref b1), .val (.int (own_f3 lim (0 : Int64))), .val (.ref b7), .val (.ref b22), .val (.int (own_f3 lim (0 : Int64))), .val (.long sp), .second, .unset, .unset, .unset, .unset, .unset, .unset]) rfl (XS.iload XJ157.here hx rfl (hb hby at_159) rfl (XS.i2l XJ157.here hx rfl (hb hby at_161) rfl (XS.lload XJ157.here hx rfl (hb hby at_162) rfl (XS.lsub XJ157.here hx rfl (hb hby at_164) rfl (XS.lstore XJ157.here hx rfl (hb hby at_165) rfl (l' := #[.val (.long q0), .second, .val (.long q1), .second, .val (.int p2), .val (.long off), .second, .val (.long lim), .second, .val (.int nn), .val (.ref b1), .val (.int (own_f3 lim (0 : Int64))), .val (.ref b7), .val (.ref b22), .val (.int (own_f3 lim (0 : Int64))), .val (.long sp), .second, .val (.long ((Int32.toInt64 nn) - sp)), .second, .unset, .unset, .unset, .unset]) rfl (XS.lload XJ157.here hx rfl (hb hby at_167) rfl (XS.lconst XJ157.here hx rfl (hb hby at_169) (XT.lcmp XJ157.here hx rfl (hb hby at_170) rfl kk))))))))) ?_
        show own_Fin _ _ _ _ _ _ _ (TJ157.setTop (mkF m 171 #[.val (.long q0), .second, .val (.long q1), .second, .val (.int p2), .val (.long off), .second, .val (.long lim), .second, .val (.int nn), .val (.ref b1), .val (.int (own_f3 lim (0 : Int64))), .val (.ref b7), .val (.ref b22), .val (.int (own_f3 lim (0 : Int64))), .val (.long sp), .second, .val (.long ((Int32.toInt64 nn) - sp)), .second, .unset, .unset, .unset, .unset] [(.int (XT.cmpL lim (0 : Int64)))]))
        have J186 : ∀ (TJ186 : State) (locsJ186 : List Loc) (ps : Int64), Stand p l e room_1 s m #[(.long q0), (.long q1), (.int p2)] below meth c TJ186 locsJ186 3 7 → Fr n0 locsJ186 → TJ186.heap = h22 → (own_f0 q0 q1 p2) = own_f0_186_3 q0 q1 p2 off lim nn sp ps → own_Fin p e below s (own_Q0 (some (.int (own_f0 q0 q1 p2))) n0) room_1.cells room_1.slots (TJ186.setTop (mkF m 186 #[.val (.long q0), .second, .val (.long q1), .second, .val (.int p2), .val (.long off), .second, .val (.long lim), .second, .val (.int nn), .val (.ref b1), .val (.int (own_f3 lim (0 : Int64))), .val (.ref b7), .val (.ref b22), .val (.int (own_f3 lim (0 : Int64))), .val (.long sp), .second, .val (.long ((Int32.toInt64 nn) - sp)), .second, .unset, .unset, .unset, .unset] [(.long ps)])) := by
          intro TJ186 locsJ186 ps XJ186 NJ186 eJ186 hjJ186
          refine own_go (fun _ kk => XS.lstore XJ186.here hx rfl (hb hby at_186) rfl (l' := #[.val (.long q0), .second, .val (.long q1), .second, .val (.int p2), .val (.long off), .second, .val (.long lim), .second, .val (.int nn), .val (.ref b1), .val (.int (own_f3 lim (0 : Int64))), .val (.ref b7), .val (.ref b22), .val (.int (own_f3 lim (0 : Int64))), .val (.long sp), .second, .val (.long ((Int32.toInt64 nn) - sp)), .second, .val (.long ps), .second, .unset, .unset]) rfl (XS.lload XJ186.here hx rfl (hb hby at_188) rfl (XS.lconst XJ186.here hx rfl (hb hby at_190) (XT.lcmp XJ186.here hx rfl (hb hby at_191) rfl kk)))) ?_
          show own_Fin _ _ _ _ _ _ _ (TJ186.setTop (mkF m 192 #[.val (.long q0), .second, .val (.long q1), .second, .val (.int p2), .val (.long off), .second, .val (.long lim), .second, .val (.int nn), .val (.ref b1), .val (.int (own_f3 lim (0 : Int64))), .val (.ref b7), .val (.ref b22), .val (.int (own_f3 lim (0 : Int64))), .val (.long sp), .second, .val (.long ((Int32.toInt64 nn) - sp)), .second, .val (.long ps), .second, .unset, .unset] [(.int (XT.cmpL lim (0 : Int64)))]))
          refine own_go (U' := TJ186.setTop (mkF m 200 #[.val (.long q0), .second, .val (.long q1), .second, .val (.int p2), .val (.long off), .second, .val (.long lim), .second, .val (.int nn), .val (.ref b1), .val (.int (own_f3 lim (0 : Int64))), .val (.ref b7), .val (.ref b22), .val (.int (own_f3 lim (0 : Int64))), .val (.long sp), .second, .val (.long ((Int32.toInt64 nn) - sp)), .second, .val (.long ps), .second, .unset, .unset] [(.int (if lim = (0 : Int64) then (1 : Int32) else (0 : Int32)))])) (fun t k => ?_) ?_
          · by_cases hd192 : lim = (0 : Int64)
            · simp only [if_pos hd192] at k
              refine XS.ifNo XJ186.here hx rfl (hb hby at_192) rfl (XT.ll_ne_f hd192) (XS.iconst XJ186.here hx rfl (hb hby at_195) (XS.goto XJ186.here hx rfl (pc0 := 196) (pc' := 200) rfl (hb hby at_196) (by decide) (by decide) ?_))
              show Steps p.tables e below (TJ186.setTop (mkF m 200 #[.val (.long q0), .second, .val (.long q1), .second, .val (.int p2), .val (.long off), .second, .val (.long lim), .second, .val (.int nn), .val (.ref b1), .val (.int (own_f3 lim (0 : Int64))), .val (.ref b7), .val (.ref b22), .val (.int (own_f3 lim (0 : Int64))), .val (.long sp), .second, .val (.long ((Int32.toInt64 nn) - sp)), .second, .val (.long ps), .second, .unset, .unset] [(.int (1 : Int32))])) _
              exact k
            · simp only [if_neg hd192] at k
              refine XS.ifYes XJ186.here hx rfl (pc0 := 192) (pc' := 199) rfl (hb hby at_192) rfl (XT.ll_ne_t hd192) (by decide) (by decide) (XS.iconst XJ186.here hx rfl (hb hby at_199) ?_)
              show Steps p.tables e below (TJ186.setTop (mkF m 200 #[.val (.long q0), .second, .val (.long q1), .second, .val (.int p2), .val (.long off), .second, .val (.long lim), .second, .val (.int nn), .val (.ref b1), .val (.int (own_f3 lim (0 : Int64))), .val (.ref b7), .val (.ref b22), .val (.int (own_f3 lim (0 : Int64))), .val (.long sp), .second, .val (.long ((Int32.toInt64 nn) - sp)), .second, .val (.long ps), .second, .unset, .unset] [(.int (0 : Int32))])) _
              exact k
          show own_Fin _ _ _ _ _ _ _ (TJ186.setTop (mkF m 200 #[.val (.long q0), .second, .val (.long q1), .second, .val (.int p2), .val (.long off), .second, .val (.long lim), .second, .val (.int nn), .val (.ref b1), .val (.int (own_f3 lim (0 : Int64))), .val (.ref b7), .val (.ref b22), .val (.int (own_f3 lim (0 : Int64))), .val (.long sp), .second, .val (.long ((Int32.toInt64 nn) - sp)), .second, .val (.long ps), .second, .unset, .unset] [(.int (if lim = (0 : Int64) then (1 : Int32) else (0 : Int32)))]))
          refine own_go (fun _ kk => XS.istore XJ186.here hx rfl (hb hby at_200) rfl (l' := #[.val (.long q0), .second, .val (.long q1), .second, .val (.int p2), .val (.long off), .second, .val (.long lim), .second, .val (.int nn), .val (.ref b1), .val (.int (own_f3 lim (0 : Int64))), .val (.ref b7), .val (.ref b22), .val (.int (own_f3 lim (0 : Int64))), .val (.long sp), .second, .val (.long ((Int32.toInt64 nn) - sp)), .second, .val (.long ps), .second, .val (.int (if lim = (0 : Int64) then (1 : Int32) else (0 : Int32))), .unset]) rfl (XS.lload XJ186.here hx rfl (hb hby at_202) rfl (XS.lconst XJ186.here hx rfl (hb hby at_204) (XT.lcmp XJ186.here hx rfl (hb hby at_205) rfl kk)))) ?_
          show own_Fin _ _ _ _ _ _ _ (TJ186.setTop (mkF m 206 #[.val (.long q0), .second, .val (.long q1), .second, .val (.int p2), .val (.long off), .second, .val (.long lim), .second, .val (.int nn), .val (.ref b1), .val (.int (own_f3 lim (0 : Int64))), .val (.ref b7), .val (.ref b22), .val (.int (own_f3 lim (0 : Int64))), .val (.long sp), .second, .val (.long ((Int32.toInt64 nn) - sp)), .second, .val (.long ps), .second, .val (.int (if lim = (0 : Int64) then (1 : Int32) else (0 : Int32))), .unset] [(.int (XT.cmpL lim (0 : Int64)))]))
          have J222 : ∀ (TJ222 : State) (locsJ222 : List Loc) (ea : Int32), Stand p l e room_1 s m #[(.long q0), (.long q1), (.int p2)] below meth c TJ222 locsJ222 3 7 → Fr n0 locsJ222 → TJ222.heap = h22 → (own_f0 q0 q1 p2) = own_f0_222_3 q0 q1 p2 off lim nn sp ps ea → own_Fin p e below s (own_Q0 (some (.int (own_f0 q0 q1 p2))) n0) room_1.cells room_1.slots (TJ222.setTop (mkF m 222 #[.val (.long q0), .second, .val (.long q1), .second, .val (.int p2), .val (.long off), .second, .val (.long lim), .second, .val (.int nn), .val (.ref b1), .val (.int (own_f3 lim (0 : Int64))), .val (.ref b7), .val (.ref b22), .val (.int (own_f3 lim (0 : Int64))), .val (.long sp), .second, .val (.long ((Int32.toInt64 nn) - sp)), .second, .val (.long ps), .second, .val (.int (if lim = (0 : Int64) then (1 : Int32) else (0 : Int32))), .unset] [(.int ea)])) := by
            intro TJ222 locsJ222 ea XJ222 NJ222 eJ222 hjJ222
            refine own_go (fun _ kk => XS.istore XJ222.here hx rfl (hb hby at_222) rfl (l' := #[.val (.long q0), .second, .val (.long q1), .second, .val (.int p2), .val (.long off), .second, .val (.long lim), .second, .val (.int nn), .val (.ref b1), .val (.int (own_f3 lim (0 : Int64))), .val (.ref b7), .val (.ref b22), .val (.int (own_f3 lim (0 : Int64))), .val (.long sp), .second, .val (.long ((Int32.toInt64 nn) - sp)), .second, .val (.long ps), .second, .val (.int (if lim = (0 : Int64) then (1 : Int32) else (0 : Int32))), .val (.int ea)]) rfl (XS.iload XJ222.here hx rfl (hb hby at_224) rfl (XS.iload XJ222.here hx rfl (hb hby at_226) rfl kk))) ?_
            show own_Fin _ _ _ _ _ _ _ (TJ222.setTop (mkF m 228 #[.val (.long q0), .second, .val (.long q1), .second, .val (.int p2), .val (.long off), .second, .val (.long lim), .second, .val (.int nn), .val (.ref b1), .val (.int (own_f3 lim (0 : Int64))), .val (.ref b7), .val (.ref b22), .val (.int (own_f3 lim (0 : Int64))), .val (.long sp), .second, .val (.long ((Int32.toInt64 nn) - sp)), .second, .val (.long ps), .second, .val (.int (if lim = (0 : Int64) then (1 : Int32) else (0 : Int32))), .val (.int ea)] [(.int (if lim = (0 : Int64) then (1 : Int32) else (0 : Int32))), (.int (own_f3 lim (0 : Int64)))]))
            by_cases hc228 : (own_f3 lim (0 : Int64)) = (if lim = (0 : Int64) then (1 : Int32) else (0 : Int32))
            · refine own_go (fun _ kk => XS.icmpNo XJ222.here hx rfl (hb hby at_228) rfl (XT.ii_ne_f hc228) (XS.iload XJ222.here hx rfl (hb hby at_231) rfl (XS.iload XJ222.here hx rfl (hb hby at_233) rfl kk))) ?_
              show own_Fin _ _ _ _ _ _ _ (TJ222.setTop (mkF m 235 #[.val (.long q0), .second, .val (.long q1), .second, .val (.int p2), .val (.long off), .second, .val (.long lim), .second, .val (.int nn), .val (.ref b1), .val (.int (own_f3 lim (0 : Int64))), .val (.ref b7), .val (.ref b22), .val (.int (own_f3 lim (0 : Int64))), .val (.long sp), .second, .val (.long ((Int32.toInt64 nn) - sp)), .second, .val (.long ps), .second, .val (.int (if lim = (0 : Int64) then (1 : Int32) else (0 : Int32))), .val (.int ea)] [(.int ea), (.int (own_f3 lim (0 : Int64)))]))
              by_cases hc235 : (own_f3 lim (0 : Int64)) = ea
              · refine own_go (fun _ kk => XS.icmpNo XJ222.here hx rfl (hb hby at_235) rfl (XT.ii_ne_f hc235) (XS.aload XJ222.here hx rfl (hb hby at_238) rfl rfl kk)) ?_
                show own_Fin _ _ _ _ _ _ _ (TJ222.setTop (mkF m 240 #[.val (.long q0), .second, .val (.long q1), .second, .val (.int p2), .val (.long off), .second, .val (.long lim), .second, .val (.int nn), .val (.ref b1), .val (.int (own_f3 lim (0 : Int64))), .val (.ref b7), .val (.ref b22), .val (.int (own_f3 lim (0 : Int64))), .val (.long sp), .second, .val (.long ((Int32.toInt64 nn) - sp)), .second, .val (.long ps), .second, .val (.int (if lim = (0 : Int64) then (1 : Int32) else (0 : Int32))), .val (.int ea)] [(.ref b7)]))
                refine own_callV XJ222 hx hZ hown (hw _ (List.mem_of_getElem? (i := 51) rfl)) (hw _ (List.mem_of_getElem? (i := 52) rfl)) (notFace_of_selects (args := #[]) (mvT hZ (hw _ (List.mem_of_getElem? (i := 54) rfl)))) (hw _ (List.mem_of_getElem? (i := 54) rfl)) (hw _ (List.mem_of_getElem? (i := 53) rfl)) (hw _ (List.mem_of_getElem? (i := 55) rfl)) (hw _ (List.mem_of_getElem? (i := 23) rfl)) (by decide) (rm8 l Z a0 hw b7 h22 n0 Z22 (0 : Int32) f30) eJ222 f29 (argsL := []) (rest := []) rfl rfl (by rw [hml]; rfl) (lenOf pd_0_4 rfl) (hb hby at_240) (W := 0) (Nat.le_of_eq rfl) (by decide) (by decide) (by decide) (by decide) ?_
                rintro v46 T46 L46 X46 ⟨rfl, M46, e46⟩
                have N46 := Fr.app NJ222 M46
                show own_Fin _ _ _ _ _ _ _ (T46.setTop (mkF m 243 #[.val (.long q0), .second, .val (.long q1), .second, .val (.int p2), .val (.long off), .second, .val (.long lim), .second, .val (.int nn), .val (.ref b1), .val (.int (own_f3 lim (0 : Int64))), .val (.ref b7), .val (.ref b22), .val (.int (own_f3 lim (0 : Int64))), .val (.long sp), .second, .val (.long ((Int32.toInt64 nn) - sp)), .second, .val (.long ps), .second, .val (.int (if lim = (0 : Int64) then (1 : Int32) else (0 : Int32))), .val (.int ea)] [(.int (0 : Int32))]))
                refine own_go (fun _ kk => XS.i2l X46.here hx rfl (hb hby at_243) rfl (XS.lload X46.here hx rfl (hb hby at_244) rfl (XT.lcmp X46.here hx rfl (hb hby at_246) rfl kk))) ?_
                show own_Fin _ _ _ _ _ _ _ (T46.setTop (mkF m 247 #[.val (.long q0), .second, .val (.long q1), .second, .val (.int p2), .val (.long off), .second, .val (.long lim), .second, .val (.int nn), .val (.ref b1), .val (.int (own_f3 lim (0 : Int64))), .val (.ref b7), .val (.ref b22), .val (.int (own_f3 lim (0 : Int64))), .val (.long sp), .second, .val (.long ((Int32.toInt64 nn) - sp)), .second, .val (.long ps), .second, .val (.int (if lim = (0 : Int64) then (1 : Int32) else (0 : Int32))), .val (.int ea)] [(.int (XT.cmpL (Int32.toInt64 (0 : Int32)) ps))]))
                by_cases hc247 : (Int32.toInt64 (0 : Int32)) = ps
                · refine own_go (fun _ kk => XS.ifNo X46.here hx rfl (hb hby at_247) rfl (XT.ll_ne_f hc247) (XS.iconst X46.here hx rfl (hb hby at_250) (XS.goto X46.here hx rfl (pc0 := 251) (pc' := 255) rfl (hb hby at_251) (by decide) (by decide) kk))) ?_
                  show own_Fin _ _ _ _ _ _ _ (T46.setTop (mkF m 255 #[.val (.long q0), .second, .val (.long q1), .second, .val (.int p2), .val (.long off), .second, .val (.long lim), .second, .val (.int nn), .val (.ref b1), .val (.int (own_f3 lim (0 : Int64))), .val (.ref b7), .val (.ref b22), .val (.int (own_f3 lim (0 : Int64))), .val (.long sp), .second, .val (.long ((Int32.toInt64 nn) - sp)), .second, .val (.long ps), .second, .val (.int (if lim = (0 : Int64) then (1 : Int32) else (0 : Int32))), .val (.int ea)] [(.int (1 : Int32))]))
                  exact own_retZ X46 hx hlk hret rfl (hb hby at_255) (by decide) (by decide) ⟨(by rw [hjJ222, own_f0_222_3, if_pos hc228, if_pos hc235, if_pos hc247]), N46⟩
                · refine own_go (fun _ kk => XS.ifYes X46.here hx rfl (pc0 := 247) (pc' := 254) rfl (hb hby at_247) rfl (XT.ll_ne_t hc247) (by decide) (by decide) (XS.iconst X46.here hx rfl (hb hby at_254) kk)) ?_
                  show own_Fin _ _ _ _ _ _ _ (T46.setTop (mkF m 255 #[.val (.long q0), .second, .val (.long q1), .second, .val (.int p2), .val (.long off), .second, .val (.long lim), .second, .val (.int nn), .val (.ref b1), .val (.int (own_f3 lim (0 : Int64))), .val (.ref b7), .val (.ref b22), .val (.int (own_f3 lim (0 : Int64))), .val (.long sp), .second, .val (.long ((Int32.toInt64 nn) - sp)), .second, .val (.long ps), .second, .val (.int (if lim = (0 : Int64) then (1 : Int32) else (0 : Int32))), .val (.int ea)] [(.int (0 : Int32))]))
                  exact own_retZ X46 hx hlk hret rfl (hb hby at_255) (by decide) (by decide) ⟨(by rw [hjJ222, own_f0_222_3, if_pos hc228, if_pos hc235, if_neg hc247]), N46⟩
              · refine own_go (fun _ kk => XS.icmpYes XJ222.here hx rfl (pc0 := 235) (pc' := 254) rfl (hb hby at_235) rfl (XT.ii_ne_t hc235) (by decide) (by decide) (XS.iconst XJ222.here hx rfl (hb hby at_254) kk)) ?_
                show own_Fin _ _ _ _ _ _ _ (TJ222.setTop (mkF m 255 #[.val (.long q0), .second, .val (.long q1), .second, .val (.int p2), .val (.long off), .second, .val (.long lim), .second, .val (.int nn), .val (.ref b1), .val (.int (own_f3 lim (0 : Int64))), .val (.ref b7), .val (.ref b22), .val (.int (own_f3 lim (0 : Int64))), .val (.long sp), .second, .val (.long ((Int32.toInt64 nn) - sp)), .second, .val (.long ps), .second, .val (.int (if lim = (0 : Int64) then (1 : Int32) else (0 : Int32))), .val (.int ea)] [(.int (0 : Int32))]))
                exact own_retZ XJ222 hx hlk hret rfl (hb hby at_255) (by decide) (by decide) ⟨(by rw [hjJ222, own_f0_222_3, if_pos hc228, if_neg hc235]), NJ222⟩
            · refine own_go (fun _ kk => XS.icmpYes XJ222.here hx rfl (pc0 := 228) (pc' := 254) rfl (hb hby at_228) rfl (XT.ii_ne_t hc228) (by decide) (by decide) (XS.iconst XJ222.here hx rfl (hb hby at_254) kk)) ?_
              show own_Fin _ _ _ _ _ _ _ (TJ222.setTop (mkF m 255 #[.val (.long q0), .second, .val (.long q1), .second, .val (.int p2), .val (.long off), .second, .val (.long lim), .second, .val (.int nn), .val (.ref b1), .val (.int (own_f3 lim (0 : Int64))), .val (.ref b7), .val (.ref b22), .val (.int (own_f3 lim (0 : Int64))), .val (.long sp), .second, .val (.long ((Int32.toInt64 nn) - sp)), .second, .val (.long ps), .second, .val (.int (if lim = (0 : Int64) then (1 : Int32) else (0 : Int32))), .val (.int ea)] [(.int (0 : Int32))]))
              exact own_retZ XJ222 hx hlk hret rfl (hb hby at_255) (by decide) (by decide) ⟨(by rw [hjJ222, own_f0_222_3, if_neg hc228]), NJ222⟩
          by_cases hc206 : lim < (0 : Int64)
          · refine own_go (fun _ kk => XS.ifYes XJ186.here hx rfl (pc0 := 206) (pc' := 221) rfl (hb hby at_206) rfl (XT.ll_lt_t hc206) (by decide) (by decide) (XS.iconst XJ186.here hx rfl (hb hby at_221) kk)) ?_
            show own_Fin _ _ _ _ _ _ _ (TJ186.setTop (mkF m 222 #[.val (.long q0), .second, .val (.long q1), .second, .val (.int p2), .val (.long off), .second, .val (.long lim), .second, .val (.int nn), .val (.ref b1), .val (.int (own_f3 lim (0 : Int64))), .val (.ref b7), .val (.ref b22), .val (.int (own_f3 lim (0 : Int64))), .val (.long sp), .second, .val (.long ((Int32.toInt64 nn) - sp)), .second, .val (.long ps), .second, .val (.int (if lim = (0 : Int64) then (1 : Int32) else (0 : Int32))), .unset] [(.int (0 : Int32))]))
            exact J222 _ _ ((0 : Int32)) XJ186 NJ186 eJ186 (by rw [hjJ186, own_f0_186_3, if_pos hc206])
          · refine own_go (fun _ kk => XS.ifNo XJ186.here hx rfl (hb hby at_206) rfl (XT.ll_lt_f hc206) (XS.lload XJ186.here hx rfl (hb hby at_209) rfl (XS.lload XJ186.here hx rfl (hb hby at_211) rfl (XT.lcmp XJ186.here hx rfl (hb hby at_213) rfl kk)))) ?_
            show own_Fin _ _ _ _ _ _ _ (TJ186.setTop (mkF m 214 #[.val (.long q0), .second, .val (.long q1), .second, .val (.int p2), .val (.long off), .second, .val (.long lim), .second, .val (.int nn), .val (.ref b1), .val (.int (own_f3 lim (0 : Int64))), .val (.ref b7), .val (.ref b22), .val (.int (own_f3 lim (0 : Int64))), .val (.long sp), .second, .val (.long ((Int32.toInt64 nn) - sp)), .second, .val (.long ps), .second, .val (.int (if lim = (0 : Int64) then (1 : Int32) else (0 : Int32))), .unset] [(.int (XT.cmpL ((Int32.toInt64 nn) - sp) lim))]))
            by_cases hc214 : ((Int32.toInt64 nn) - sp) < lim
            · refine own_go (fun _ kk => XS.ifYes XJ186.here hx rfl (pc0 := 214) (pc' := 221) rfl (hb hby at_214) rfl (XT.ll_lt_t hc214) (by decide) (by decide) (XS.iconst XJ186.here hx rfl (hb hby at_221) kk)) ?_
              show own_Fin _ _ _ _ _ _ _ (TJ186.setTop (mkF m 222 #[.val (.long q0), .second, .val (.long q1), .second, .val (.int p2), .val (.long off), .second, .val (.long lim), .second, .val (.int nn), .val (.ref b1), .val (.int (own_f3 lim (0 : Int64))), .val (.ref b7), .val (.ref b22), .val (.int (own_f3 lim (0 : Int64))), .val (.long sp), .second, .val (.long ((Int32.toInt64 nn) - sp)), .second, .val (.long ps), .second, .val (.int (if lim = (0 : Int64) then (1 : Int32) else (0 : Int32))), .unset] [(.int (0 : Int32))]))
              exact J222 _ _ ((0 : Int32)) XJ186 NJ186 eJ186 (by rw [hjJ186, own_f0_186_3, if_neg hc206, if_pos hc214])
            · refine own_go (fun _ kk => XS.ifNo XJ186.here hx rfl (hb hby at_214) rfl (XT.ll_lt_f hc214) (XS.iconst XJ186.here hx rfl (hb hby at_217) (XS.goto XJ186.here hx rfl (pc0 := 218) (pc' := 222) rfl (hb hby at_218) (by decide) (by decide) kk))) ?_
              show own_Fin _ _ _ _ _ _ _ (TJ186.setTop (mkF m 222 #[.val (.long q0), .second, .val (.long q1), .second, .val (.int p2), .val (.long off), .second, .val (.long lim), .second, .val (.int nn), .val (.ref b1), .val (.int (own_f3 lim (0 : Int64))), .val (.ref b7), .val (.ref b22), .val (.int (own_f3 lim (0 : Int64))), .val (.long sp), .second, .val (.long ((Int32.toInt64 nn) - sp)), .second, .val (.long ps), .second, .val (.int (if lim = (0 : Int64) then (1 : Int32) else (0 : Int32))), .unset] [(.int (1 : Int32))]))
              exact J222 _ _ ((1 : Int32)) XJ186 NJ186 eJ186 (by rw [hjJ186, own_f0_186_3, if_neg hc206, if_neg hc214])
        by_cases hc171 : lim < (0 : Int64)
        · refine own_go (fun _ kk => XS.ifNo XJ157.here hx rfl (hb hby at_171) rfl (XT.ll_ge_f hc171) (XS.lload XJ157.here hx rfl (hb hby at_174) rfl (XS.goto XJ157.here hx rfl (pc0 := 176) (pc' := 186) rfl (hb hby at_176) (by decide) (by decide) kk))) ?_
          show own_Fin _ _ _ _ _ _ _ (TJ157.setTop (mkF m 186 #[.val (.long q0), .second, .val (.long q1), .second, .val (.int p2), .val (.long off), .second, .val (.long lim), .second, .val (.int nn), .val (.ref b1), .val (.int (own_f3 lim (0 : Int64))), .val (.ref b7), .val (.ref b22), .val (.int (own_f3 lim (0 : Int64))), .val (.long sp), .second, .val (.long ((Int32.toInt64 nn) - sp)), .second, .unset, .unset, .unset, .unset] [(.long ((Int32.toInt64 nn) - sp))]))
          exact J186 _ _ (((Int32.toInt64 nn) - sp)) XJ157 NJ157 eJ157 (by rw [hjJ157, own_f0_157_3, if_pos hc171])
        · refine own_go (fun _ kk => XS.ifYes XJ157.here hx rfl (pc0 := 171) (pc' := 179) rfl (hb hby at_171) rfl (XT.ll_ge_t hc171) (by decide) (by decide) (XS.lload XJ157.here hx rfl (hb hby at_179) rfl (XS.lload XJ157.here hx rfl (hb hby at_181) rfl kk))) ?_
          show own_Fin _ _ _ _ _ _ _ (TJ157.setTop (mkF m 183 #[.val (.long q0), .second, .val (.long q1), .second, .val (.int p2), .val (.long off), .second, .val (.long lim), .second, .val (.int nn), .val (.ref b1), .val (.int (own_f3 lim (0 : Int64))), .val (.ref b7), .val (.ref b22), .val (.int (own_f3 lim (0 : Int64))), .val (.long sp), .second, .val (.long ((Int32.toInt64 nn) - sp)), .second, .unset, .unset, .unset, .unset] [(.long lim), (.long ((Int32.toInt64 nn) - sp))]))
          refine own_callS XJ157 hx hZ hown (hw _ (List.mem_of_getElem? (i := 47) rfl)) (hw _ (List.mem_of_getElem? (i := 48) rfl)) (hw _ (List.mem_of_getElem? (i := 49) rfl)) (hw _ (List.mem_of_getElem? (i := 50) rfl)) (by decide) (rm7 l Z a0 hw ((Int32.toInt64 nn) - sp) lim h22 n0 Z22) eJ157 (argsL := [(.long ((Int32.toInt64 nn) - sp)), (.long lim)]) (rest := []) rfl rfl (by rw [hml]; rfl) (lenOf pd_0_5 rfl) (hb hby at_183) (W := 0) (Nat.le_of_eq rfl) (by decide) (by decide) (by decide) (by decide) ?_
          rintro v47 T47 L47 X47 ⟨rfl, M47, e47⟩
          have N47 := Fr.app NJ157 M47
          show own_Fin _ _ _ _ _ _ _ (T47.setTop (mkF m 186 #[.val (.long q0), .second, .val (.long q1), .second, .val (.int p2), .val (.long off), .second, .val (.long lim), .second, .val (.int nn), .val (.ref b1), .val (.int (own_f3 lim (0 : Int64))), .val (.ref b7), .val (.ref b22), .val (.int (own_f3 lim (0 : Int64))), .val (.long sp), .second, .val (.long ((Int32.toInt64 nn) - sp)), .second, .unset, .unset, .unset, .unset] [(.long (own_f7 ((Int32.toInt64 nn) - sp) lim))]))
          exact J186 _ _ ((own_f7 ((Int32.toInt64 nn) - sp) lim)) X47 N47 e47 (by rw [hjJ157, own_f0_157_3, if_neg hc171])
      by_cases hc133 : (0 : Int64) < off
      · refine own_go (fun _ kk => XS.ifYes X45.here hx rfl (pc0 := 133) (pc' := 140) rfl (hb hby at_133) rfl (XT.ll_gt_t hc133) (by decide) (by decide) (XS.lload X45.here hx rfl (hb hby at_140) rfl (XS.iload X45.here hx rfl (hb hby at_142) rfl (XS.i2l X45.here hx rfl (hb hby at_144) rfl (XT.lcmp X45.here hx rfl (hb hby at_145) rfl kk))))) ?_
        show own_Fin _ _ _ _ _ _ _ (T45.setTop (mkF m 146 #[.val (.long q0), .second, .val (.long q1), .second, .val (.int p2), .val (.long off), .second, .val (.long lim), .second, .val (.int nn), .val (.ref b1), .val (.int (own_f3 lim (0 : Int64))), .val (.ref b7), .val (.ref b22), .val (.int (own_f3 lim (0 : Int64))), .unset, .unset, .unset, .unset, .unset, .unset, .unset, .unset] [(.int (XT.cmpL off (Int32.toInt64 nn)))]))
        by_cases hc146 : off < (Int32.toInt64 nn)
        · refine own_go (fun _ kk => XS.ifNo X45.here hx rfl (hb hby at_146) rfl (XT.ll_ge_f hc146) (XS.lload X45.here hx rfl (hb hby at_149) rfl (XS.goto X45.here hx rfl (pc0 := 151) (pc' := 157) rfl (hb hby at_151) (by decide) (by decide) kk))) ?_
          show own_Fin _ _ _ _ _ _ _ (T45.setTop (mkF m 157 #[.val (.long q0), .second, .val (.long q1), .second, .val (.int p2), .val (.long off), .second, .val (.long lim), .second, .val (.int nn), .val (.ref b1), .val (.int (own_f3 lim (0 : Int64))), .val (.ref b7), .val (.ref b22), .val (.int (own_f3 lim (0 : Int64))), .unset, .unset, .unset, .unset, .unset, .unset, .unset, .unset] [(.long off)]))
          exact J157 _ _ (off) X45 N45 e45 (by rw [hjJ43, own_f0_43, if_neg hc80, if_pos hc133, if_pos hc146])
        · refine own_go (fun _ kk => XS.ifYes X45.here hx rfl (pc0 := 146) (pc' := 154) rfl (hb hby at_146) rfl (XT.ll_ge_t hc146) (by decide) (by decide) (XS.iload X45.here hx rfl (hb hby at_154) rfl (XS.i2l X45.here hx rfl (hb hby at_156) rfl kk))) ?_
          show own_Fin _ _ _ _ _ _ _ (T45.setTop (mkF m 157 #[.val (.long q0), .second, .val (.long q1), .second, .val (.int p2), .val (.long off), .second, .val (.long lim), .second, .val (.int nn), .val (.ref b1), .val (.int (own_f3 lim (0 : Int64))), .val (.ref b7), .val (.ref b22), .val (.int (own_f3 lim (0 : Int64))), .unset, .unset, .unset, .unset, .unset, .unset, .unset, .unset] [(.long (Int32.toInt64 nn))]))
          exact J157 _ _ ((Int32.toInt64 nn)) X45 N45 e45 (by rw [hjJ43, own_f0_43, if_neg hc80, if_pos hc133, if_neg hc146])
      · refine own_go (fun _ kk => XS.ifNo X45.here hx rfl (hb hby at_133) rfl (XT.ll_gt_f hc133) (XS.lconst X45.here hx rfl (hb hby at_136) (XS.goto X45.here hx rfl (pc0 := 137) (pc' := 157) rfl (hb hby at_137) (by decide) (by decide) kk))) ?_
        show own_Fin _ _ _ _ _ _ _ (T45.setTop (mkF m 157 #[.val (.long q0), .second, .val (.long q1), .second, .val (.int p2), .val (.long off), .second, .val (.long lim), .second, .val (.int nn), .val (.ref b1), .val (.int (own_f3 lim (0 : Int64))), .val (.ref b7), .val (.ref b22), .val (.int (own_f3 lim (0 : Int64))), .unset, .unset, .unset, .unset, .unset, .unset, .unset, .unset] [(.long (0 : Int64))]))
        exact J157 _ _ ((0 : Int64)) X45 N45 e45 (by rw [hjJ43, own_f0_43, if_neg hc80, if_neg hc133])
  refine own_go (fun _ kk => XS.iload X0.here hx rfl (hb hby at_0) rfl (XS.iconst X0.here hx rfl (hb hby at_2) (XS.iand X0.here hx rfl (hb hby at_3) rfl kk))) ?_
  show own_Fin _ _ _ _ _ _ _ (s₁.setTop (mkF m 4 #[.val (.long q0), .second, .val (.long q1), .second, .val (.int p2), .unset, .unset, .unset, .unset, .unset, .unset, .unset, .unset, .unset, .unset, .unset, .unset, .unset, .unset, .unset, .unset, .unset, .unset] [(.int (p2 &&& (4 : Int32)))]))
  refine own_go (U' := s₁.setTop (mkF m 16 #[.val (.long q0), .second, .val (.long q1), .second, .val (.int p2), .unset, .unset, .unset, .unset, .unset, .unset, .unset, .unset, .unset, .unset, .unset, .unset, .unset, .unset, .unset, .unset, .unset, .unset] [(.long (if (p2 &&& (4 : Int32)) = 0 then (q0 - (q0 / (5 : Int64)) * (5 : Int64)) else q0))])) (fun t k => ?_) ?_
  · by_cases hd4 : (p2 &&& (4 : Int32)) = 0
    · simp only [if_pos hd4] at k
      refine XS.ifYes X0.here hx rfl (pc0 := 4) (pc' := 11) rfl (hb hby at_4) rfl (XT.i0_eq_t hd4) (by decide) (by decide) (XS.lloadN X0.here hx rfl (hb hby at_11) rfl (X0.ldc2J hx hown (mvT hZ (hw _ (List.mem_of_getElem? (i := 0) rfl))) rfl (hb hby at_12) (XS.lrem X0.here hx rfl (hb hby at_15) rfl (by decide) ?_)))
      show Steps p.tables e below (s₁.setTop (mkF m 16 #[.val (.long q0), .second, .val (.long q1), .second, .val (.int p2), .unset, .unset, .unset, .unset, .unset, .unset, .unset, .unset, .unset, .unset, .unset, .unset, .unset, .unset, .unset, .unset, .unset, .unset] [(.long (q0 - (q0 / (5 : Int64)) * (5 : Int64)))])) _
      exact k
    · simp only [if_neg hd4] at k
      refine XS.ifNo X0.here hx rfl (hb hby at_4) rfl (XT.i0_eq_f hd4) (XS.lloadN X0.here hx rfl (hb hby at_7) rfl (XS.goto X0.here hx rfl (pc0 := 8) (pc' := 16) rfl (hb hby at_8) (by decide) (by decide) ?_))
      show Steps p.tables e below (s₁.setTop (mkF m 16 #[.val (.long q0), .second, .val (.long q1), .second, .val (.int p2), .unset, .unset, .unset, .unset, .unset, .unset, .unset, .unset, .unset, .unset, .unset, .unset, .unset, .unset, .unset, .unset, .unset, .unset] [(.long q0)])) _
      exact k
  show own_Fin _ _ _ _ _ _ _ (s₁.setTop (mkF m 16 #[.val (.long q0), .second, .val (.long q1), .second, .val (.int p2), .unset, .unset, .unset, .unset, .unset, .unset, .unset, .unset, .unset, .unset, .unset, .unset, .unset, .unset, .unset, .unset, .unset, .unset] [(.long (if (p2 &&& (4 : Int32)) = 0 then (q0 - (q0 / (5 : Int64)) * (5 : Int64)) else q0))]))
  refine own_go (fun _ kk => XS.lstore X0.here hx rfl (hb hby at_16) rfl (l' := #[.val (.long q0), .second, .val (.long q1), .second, .val (.int p2), .val (.long (if (p2 &&& (4 : Int32)) = 0 then (q0 - (q0 / (5 : Int64)) * (5 : Int64)) else q0)), .second, .unset, .unset, .unset, .unset, .unset, .unset, .unset, .unset, .unset, .unset, .unset, .unset, .unset, .unset, .unset, .unset]) rfl (XS.iload X0.here hx rfl (hb hby at_18) rfl (XS.bipush X0.here hx rfl (hb hby at_20) (XS.iand X0.here hx rfl (hb hby at_22) rfl kk)))) ?_
  show own_Fin _ _ _ _ _ _ _ (s₁.setTop (mkF m 23 #[.val (.long q0), .second, .val (.long q1), .second, .val (.int p2), .val (.long (if (p2 &&& (4 : Int32)) = 0 then (q0 - (q0 / (5 : Int64)) * (5 : Int64)) else q0)), .second, .unset, .unset, .unset, .unset, .unset, .unset, .unset, .unset, .unset, .unset, .unset, .unset, .unset, .unset, .unset, .unset] [(.int (p2 &&& (8 : Int32)))]))
  refine own_go (U' := s₁.setTop (mkF m 35 #[.val (.long q0), .second, .val (.long q1), .second, .val (.int p2), .val (.long (if (p2 &&& (4 : Int32)) = 0 then (q0 - (q0 / (5 : Int64)) * (5 : Int64)) else q0)), .second, .unset, .unset, .unset, .unset, .unset, .unset, .unset, .unset, .unset, .unset, .unset, .unset, .unset, .unset, .unset, .unset] [(.long (if (p2 &&& (8 : Int32)) = 0 then (q1 - (q1 / (5 : Int64)) * (5 : Int64)) else q1))])) (fun t k => ?_) ?_
  · by_cases hd23 : (p2 &&& (8 : Int32)) = 0
    · simp only [if_pos hd23] at k
      refine XS.ifYes X0.here hx rfl (pc0 := 23) (pc' := 30) rfl (hb hby at_23) rfl (XT.i0_eq_t hd23) (by decide) (by decide) (XS.lloadN X0.here hx rfl (hb hby at_30) rfl (X0.ldc2J hx hown (mvT hZ (hw _ (List.mem_of_getElem? (i := 0) rfl))) rfl (hb hby at_31) (XS.lrem X0.here hx rfl (hb hby at_34) rfl (by decide) ?_)))
      show Steps p.tables e below (s₁.setTop (mkF m 35 #[.val (.long q0), .second, .val (.long q1), .second, .val (.int p2), .val (.long (if (p2 &&& (4 : Int32)) = 0 then (q0 - (q0 / (5 : Int64)) * (5 : Int64)) else q0)), .second, .unset, .unset, .unset, .unset, .unset, .unset, .unset, .unset, .unset, .unset, .unset, .unset, .unset, .unset, .unset, .unset] [(.long (q1 - (q1 / (5 : Int64)) * (5 : Int64)))])) _
      exact k
    · simp only [if_neg hd23] at k
      refine XS.ifNo X0.here hx rfl (hb hby at_23) rfl (XT.i0_eq_f hd23) (XS.lloadN X0.here hx rfl (hb hby at_26) rfl (XS.goto X0.here hx rfl (pc0 := 27) (pc' := 35) rfl (hb hby at_27) (by decide) (by decide) ?_))
      show Steps p.tables e below (s₁.setTop (mkF m 35 #[.val (.long q0), .second, .val (.long q1), .second, .val (.int p2), .val (.long (if (p2 &&& (4 : Int32)) = 0 then (q0 - (q0 / (5 : Int64)) * (5 : Int64)) else q0)), .second, .unset, .unset, .unset, .unset, .unset, .unset, .unset, .unset, .unset, .unset, .unset, .unset, .unset, .unset, .unset, .unset] [(.long q1)])) _
      exact k
  show own_Fin _ _ _ _ _ _ _ (s₁.setTop (mkF m 35 #[.val (.long q0), .second, .val (.long q1), .second, .val (.int p2), .val (.long (if (p2 &&& (4 : Int32)) = 0 then (q0 - (q0 / (5 : Int64)) * (5 : Int64)) else q0)), .second, .unset, .unset, .unset, .unset, .unset, .unset, .unset, .unset, .unset, .unset, .unset, .unset, .unset, .unset, .unset, .unset] [(.long (if (p2 &&& (8 : Int32)) = 0 then (q1 - (q1 / (5 : Int64)) * (5 : Int64)) else q1))]))
  refine own_go (fun _ kk => XS.lstore X0.here hx rfl (hb hby at_35) rfl (l' := #[.val (.long q0), .second, .val (.long q1), .second, .val (.int p2), .val (.long (if (p2 &&& (4 : Int32)) = 0 then (q0 - (q0 / (5 : Int64)) * (5 : Int64)) else q0)), .second, .val (.long (if (p2 &&& (8 : Int32)) = 0 then (q1 - (q1 / (5 : Int64)) * (5 : Int64)) else q1)), .second, .unset, .unset, .unset, .unset, .unset, .unset, .unset, .unset, .unset, .unset, .unset, .unset, .unset, .unset]) rfl (XS.iload X0.here hx rfl (hb hby at_37) rfl (XS.iconst X0.here hx rfl (hb hby at_39) (XS.iand X0.here hx rfl (hb hby at_40) rfl (XS.istore X0.here hx rfl (hb hby at_41) rfl (l' := #[.val (.long q0), .second, .val (.long q1), .second, .val (.int p2), .val (.long (if (p2 &&& (4 : Int32)) = 0 then (q0 - (q0 / (5 : Int64)) * (5 : Int64)) else q0)), .second, .val (.long (if (p2 &&& (8 : Int32)) = 0 then (q1 - (q1 / (5 : Int64)) * (5 : Int64)) else q1)), .second, .val (.int (p2 &&& (3 : Int32))), .unset, .unset, .unset, .unset, .unset, .unset, .unset, .unset, .unset, .unset, .unset, .unset, .unset]) rfl kk))))) ?_
  show own_Fin _ _ _ _ _ _ _ (s₁.setTop (mkF m 43 #[.val (.long q0), .second, .val (.long q1), .second, .val (.int p2), .val (.long (if (p2 &&& (4 : Int32)) = 0 then (q0 - (q0 / (5 : Int64)) * (5 : Int64)) else q0)), .second, .val (.long (if (p2 &&& (8 : Int32)) = 0 then (q1 - (q1 / (5 : Int64)) * (5 : Int64)) else q1)), .second, .val (.int (p2 &&& (3 : Int32))), .unset, .unset, .unset, .unset, .unset, .unset, .unset, .unset, .unset, .unset, .unset, .unset, .unset] []))
  exact J43 _ _ ((if (p2 &&& (4 : Int32)) = 0 then (q0 - (q0 / (5 : Int64)) * (5 : Int64)) else q0)) ((if (p2 &&& (8 : Int32)) = 0 then (q1 - (q1 / (5 : Int64)) * (5 : Int64)) else q1)) ((p2 &&& (3 : Int32))) X0 N0 e0 (by rw [own_f0])

def own_T2 (lim pa : Int64) (sz : Nat) (ps : Int64) (ea : Int32) : Int32 :=
  if (own_f3 lim (0 : Int64)) = (if lim = (0 : Int64) then (1 : Int32) else (0 : Int32)) then
    if (own_f3 lim pa) = ea then
      if (Int32.toInt64 (Int32.ofNat sz)) = ps then (1 : Int32) else (0 : Int32)
    else (0 : Int32)
  else (0 : Int32)
def own_T1 (lim r pa : Int64) (sz : Nat) (ps : Int64) : Int32 :=
  if lim < (0 : Int64) then own_T2 lim pa sz ps (0 : Int32) else if r < lim then own_T2 lim pa sz ps (0 : Int32) else own_T2 lim pa sz ps (1 : Int32)
def own_T (lim r pa : Int64) (sz : Nat) : Int32 :=
  if lim < (0 : Int64) then own_T1 lim r pa sz r else own_T1 lim r pa sz (own_f7 r lim)
theorem own_z64 : (0 : Int64).toInt = 0 := by decide
theorem own_one64 : (1 : Int64).toInt = 1 := by decide
theorem own_full (lim pa : Int64) : own_f3 lim pa = if 0 ≤ lim.toInt ∧ lim.toInt ≤ pa.toInt then 1 else 0 := by
  unfold own_f3
  simp only [Int64.lt_iff_toInt_lt, own_z64]
  by_cases h1 : lim.toInt < 0
  · rw [if_pos h1, if_neg (by omega)]
  · rw [if_neg h1]
    by_cases h2 : pa.toInt < lim.toInt
    · rw [if_pos h2, if_neg (by omega)]
    · rw [if_neg h2, if_pos (by omega)]
theorem own_T2one (lim pa : Int64) (sz : Nat) (ps : Int64) (ea : Int32) (h1 : own_f3 lim pa = ea) (h2 : (Int32.toInt64 (Int32.ofNat sz)) = ps) : own_T2 lim pa sz ps ea = 1 := by
  unfold own_T2
  rw [if_pos, if_pos h1, if_pos h2]
  rw [own_full, own_z64]
  by_cases h : lim = (0 : Int64)
  · rw [if_pos h, h, own_z64, if_pos (by decide)]
  · rw [if_neg h, if_neg]
    rw [← Int64.toInt_inj, own_z64] at h
    omega
theorem own_T1one (lim r pa : Int64) (sz : Nat) (hz : pa.toInt = sz) (h3 : sz ≤ 3) (h1 : lim.toInt < 0 → (sz : Int) = r.toInt) (h2 : 0 ≤ lim.toInt → ((r.toInt ≤ lim.toInt → (sz : Int) = r.toInt) ∧ (lim.toInt ≤ r.toInt → (sz : Int) = lim.toInt))) : own_T lim r pa sz = 1 := by
  have e : (Int32.toInt64 (Int32.ofNat sz)).toInt = sz := by rw [Int32.toInt_toInt64, Int32.toInt_ofNat_of_lt (by omega)]
  unfold own_T own_T1
  simp only [Int64.lt_iff_toInt_lt, own_z64]
  by_cases q : lim.toInt < 0
  · rw [if_pos q, if_pos q]
    refine own_T2one _ _ _ _ _ (by rw [own_full, if_neg (by omega)]) ?_
    rw [← Int64.toInt_inj, e]; exact h1 q
  · rw [if_neg q, if_neg q]
    have h2' := h2 (by omega)
    have f7 : (own_f7 r lim).toInt = if lim.toInt < r.toInt then lim.toInt else r.toInt := by
      unfold own_f7
      simp only [Int64.lt_iff_toInt_lt]
      split <;> rfl
    by_cases q2 : r.toInt < lim.toInt
    · rw [if_pos q2]
      refine own_T2one _ _ _ _ _ (by rw [own_full, if_neg (by have := h2'.1 (by omega); omega)]) ?_
      rw [← Int64.toInt_inj, e, f7, if_neg (by omega)]; exact h2'.1 (by omega)
    · rw [if_neg q2]
      refine own_T2one _ _ _ _ _ (by rw [own_full, if_pos (by have := h2'.2 (by omega); omega)]) ?_
      rw [← Int64.toInt_inj, e, f7, h2'.2 (by omega)]
      split <;> omega
def own_S (O L s z s' z' : Int) : Prop := (s < O ∧ s' = s + 1 ∧ z' = z) ∨ (¬ s < O ∧ s' = s ∧ ((0 ≤ L ∧ L ≤ z ∧ z' = z) ∨ (¬ (0 ≤ L ∧ L ≤ z) ∧ z' = z + 1)))
theorem own_St (off lim sk pa : Int64) (sz : Nat) (hs : 0 ≤ sk.toInt ∧ sk.toInt ≤ 10) (hz : pa.toInt = sz) (h10 : sz ≤ 10) : own_S off.toInt lim.toInt sk.toInt sz (own_sk off sk).toInt (own_sz off lim sk pa sz) ∧ (own_pa off lim sk pa).toInt = own_sz off lim sk pa sz := by
  unfold own_sk own_sz own_pa own_S
  have e1 : (sk + (1 : Int64)).toInt = sk.toInt + 1 := by rw [Jvm.Kit.i64_add (by rw [own_one64]; omega) (by rw [own_one64]; omega), own_one64]
  have e2 : (pa + (1 : Int64)).toInt = pa.toInt + 1 := by rw [Jvm.Kit.i64_add (by rw [own_one64]; omega) (by rw [own_one64]; omega), own_one64]
  rw [own_full]
  by_cases h : sk < off
  · rw [if_pos h, if_pos h, if_pos h]
    rw [Int64.lt_iff_toInt_lt] at h
    exact ⟨Or.inl ⟨h, e1, rfl⟩, hz⟩
  · rw [if_neg h, if_neg h, if_neg h]
    rw [Int64.lt_iff_toInt_lt] at h
    by_cases q : 0 ≤ lim.toInt ∧ lim.toInt ≤ pa.toInt
    · rw [if_pos q, if_neg (by decide), if_neg (by decide)]
      exact ⟨Or.inr ⟨h, rfl, Or.inl ⟨q.1, by omega, rfl⟩⟩, hz⟩
    · rw [if_neg q, if_pos rfl, if_pos rfl]
      exact ⟨Or.inr ⟨h, rfl, Or.inr ⟨by omega, by omega⟩⟩, by omega⟩
theorem own_sub64 (nn : Int32) (sp : Int64) (hn : 0 ≤ nn.toInt ∧ nn.toInt ≤ 3) (hs : 0 ≤ sp.toInt ∧ sp.toInt ≤ 3) : (Int32.toInt64 nn - sp).toInt = nn.toInt - sp.toInt := by
  rw [Jvm.Kit.i64_sub (by rw [Int32.toInt_toInt64]; omega) (by rw [Int32.toInt_toInt64]; omega), Int32.toInt_toInt64]
set_option maxHeartbeats 4000000 in
theorem own_main (q0 q1 : Int64) (p2 : Int32) (off lim : Int64) (nn : Int32) (hn : 0 ≤ nn.toInt ∧ nn.toInt ≤ 3) : own_f0_43 q0 q1 p2 off lim nn = 1 := by
  have c1 : (1 : Int32).toInt = 1 := by decide
  have c2 : (2 : Int32).toInt = 2 := by decide
  have c0 : (0 : Int32).toInt = 0 := by decide
  have en : (Int32.toInt64 nn).toInt = nn.toInt := Int32.toInt_toInt64 nn
  obtain ⟨a1, b1⟩ := own_St off lim (0 : Int64) (0 : Int64) 0 (by decide) (by decide) (by decide)
  have k1 := own_szle off lim (0 : Int64) (0 : Int64) 0
  have r1 : 0 ≤ (own_sk off (0 : Int64)).toInt ∧ (own_sk off (0 : Int64)).toInt ≤ 1 := by unfold own_S at a1; rw [own_z64] at a1; omega
  obtain ⟨a2, b2⟩ := own_St off lim _ _ _ (show 0 ≤ (own_sk off (0 : Int64)).toInt ∧ (own_sk off (0 : Int64)).toInt ≤ 10 by omega) b1 (by omega)
  have k2 := own_szle off lim (own_sk off (0 : Int64)) (own_pa off lim (0 : Int64) (0 : Int64)) (own_sz off lim (0 : Int64) (0 : Int64) 0)
  have r2 : 0 ≤ (own_sk off (own_sk off (0 : Int64))).toInt ∧ (own_sk off (own_sk off (0 : Int64))).toInt ≤ 2 := by unfold own_S at a2; omega
  obtain ⟨a3, b3⟩ := own_St off lim _ _ _ (show 0 ≤ (own_sk off (own_sk off (0 : Int64))).toInt ∧ (own_sk off (own_sk off (0 : Int64))).toInt ≤ 10 by omega) b2 (by omega)
  have k3 := own_szle off lim (own_sk off (own_sk off (0 : Int64))) (own_pa off lim (own_sk off (0 : Int64)) (own_pa off lim (0 : Int64) (0 : Int64))) (own_sz off lim (own_sk off (0 : Int64)) (own_pa off lim (0 : Int64) (0 : Int64)) (own_sz off lim (0 : Int64) (0 : Int64) 0))
  have t3 : ∀ sp, own_f0_157 q0 q1 p2 off lim nn sp = own_T lim (Int32.toInt64 nn - sp) _ _ := fun sp => rfl
  have t2 : ∀ sp, own_f0_157_1 q0 q1 p2 off lim nn sp = own_T lim (Int32.toInt64 nn - sp) _ _ := fun sp => rfl
  have t1 : ∀ sp, own_f0_157_2 q0 q1 p2 off lim nn sp = own_T lim (Int32.toInt64 nn - sp) _ _ := fun sp => rfl
  have t0 : ∀ sp, own_f0_157_3 q0 q1 p2 off lim nn sp = own_T lim (Int32.toInt64 nn - sp) (0 : Int64) 0 := fun sp => rfl
  unfold own_S at a1 a2 a3
  rw [own_z64] at a1
  unfold own_f0_43
  simp only [Int32.lt_iff_toInt_lt, Int64.lt_iff_toInt_lt, c0, c1, c2, own_z64, en]
  by_cases h0 : 0 < nn.toInt
  · rw [if_pos h0]
    by_cases h1 : 1 < nn.toInt
    · rw [if_pos h1]
      by_cases h2 : 2 < nn.toInt
      · rw [if_pos h2]
        have fin : ∀ sp : Int64, ((off.toInt ≤ 0 ∧ sp.toInt = 0) ∨ (0 < off.toInt ∧ off.toInt < 3 ∧ sp.toInt = off.toInt) ∨ (0 < off.toInt ∧ 3 ≤ off.toInt ∧ sp.toInt = 3)) → own_f0_157 q0 q1 p2 off lim nn sp = 1 := by
          intro sp hs
          rw [t3]
          refine own_T1one _ _ _ _ b3 (by omega) ?_ ?_
          · rw [own_sub64 nn sp hn (by omega)]; omega
          · rw [own_sub64 nn sp hn (by omega)]; omega
        by_cases g1 : 0 < off.toInt
        · rw [if_pos g1]
          by_cases g2 : off.toInt < nn.toInt
          · rw [if_pos g2]; exact fin _ (by omega)
          · rw [if_neg g2]; exact fin _ (by rw [en]; omega)
        · rw [if_neg g1]; exact fin _ (by rw [own_z64]; omega)
      · rw [if_neg h2]
        have fin : ∀ sp : Int64, ((off.toInt ≤ 0 ∧ sp.toInt = 0) ∨ (0 < off.toInt ∧ off.toInt < 2 ∧ sp.toInt = off.toInt) ∨ (0 < off.toInt ∧ 2 ≤ off.toInt ∧ sp.toInt = 2)) → own_f0_157_1 q0 q1 p2 off lim nn sp = 1 := by
          intro sp hs
          rw [t2]
          refine own_T1one _ _ _ _ b2 (by omega) ?_ ?_
          · rw [own_sub64 nn sp hn (by omega)]; omega
          · rw [own_sub64 nn sp hn (by omega)]; omega
        by_cases g1 : 0 < off.toInt
        · rw [if_pos g1]
          by_cases g2 : off.toInt < nn.toInt
          · rw [if_pos g2]; exact fin _ (by omega)
          · rw [if_neg g2]; exact fin _ (by rw [en]; omega)
        · rw [if_neg g1]; exact fin _ (by rw [own_z64]; omega)
    · rw [if_neg h1]
      have fin : ∀ sp : Int64, ((off.toInt ≤ 0 ∧ sp.toInt = 0) ∨ (0 < off.toInt ∧ off.toInt < 1 ∧ sp.toInt = off.toInt) ∨ (0 < off.toInt ∧ 1 ≤ off.toInt ∧ sp.toInt = 1)) → own_f0_157_2 q0 q1 p2 off lim nn sp = 1 := by
        intro sp hs
        rw [t1]
        refine own_T1one _ _ _ _ b1 (by omega) ?_ ?_
        · rw [own_sub64 nn sp hn (by omega)]; omega
        · rw [own_sub64 nn sp hn (by omega)]; omega
      by_cases g1 : 0 < off.toInt
      · rw [if_pos g1]
        by_cases g2 : off.toInt < nn.toInt
        · rw [if_pos g2]; exact fin _ (by omega)
        · rw [if_neg g2]; exact fin _ (by rw [en]; omega)
      · rw [if_neg g1]; exact fin _ (by rw [own_z64]; omega)
  · rw [if_neg h0]
    have fin : ∀ sp : Int64, ((off.toInt ≤ 0 ∧ sp.toInt = 0) ∨ (0 < off.toInt ∧ off.toInt < 0 ∧ sp.toInt = off.toInt) ∨ (0 < off.toInt ∧ 0 ≤ off.toInt ∧ sp.toInt = 0)) → own_f0_157_3 q0 q1 p2 off lim nn sp = 1 := by
      intro sp hs
      rw [t0]
      refine own_T1one _ _ _ _ own_z64 (by omega) ?_ ?_
      · rw [own_sub64 nn sp hn (by omega)]; omega
      · rw [own_sub64 nn sp hn (by omega)]; omega
    by_cases g1 : 0 < off.toInt
    · rw [if_pos g1]
      by_cases g2 : off.toInt < nn.toInt
      · rw [if_pos g2]; exact fin _ (by omega)
      · rw [if_neg g2]; exact fin _ (by rw [en]; omega)
    · rw [if_neg g1]; exact fin _ (by rw [own_z64]; omega)
theorem own_law (q0 q1 : Int64) (p2 : Int32) : own_f0 q0 q1 p2 = 1 := by
  unfold own_f0
  refine own_main _ _ _ _ _ _ ?_
  rw [Jvm.Kit.i32_mask p2 3 (k := 2) (by decide) (by decide)]
  omega

theorem own_len0 {Z : State} {args : Array Value} {t : Term} {a : Addr} {c : Cell} {ty : FieldType} (ec : t.eval args Z none [] Z = some (.ref a)) (A : Arr Z Z.heap a c ty) (el : (Term.length t).eval args Z none [] Z = some (.int 0)) : own_Ar Z Z.heap a ty [] := by
  have ha : Z.arrayAt? a = some c := A.fin (Vm.Alike.refl _)
  obtain ⟨b, cell, h1, h2, h3, h4⟩ := Jvm.Lib.length_spec el
  cases ec.symm.trans h1
  cases ha.symm.trans h2
  refine ⟨c, A, ?_, by decide⟩
  have q : c.slots.size.toInt32 = 0 := (Value.int.inj h4).symm
  have q2 : (c.slots.size.toInt32).toInt = c.slots.size := len_toInt h3
  rw [q] at q2
  have q3 : c.slots.size = 0 := by
    have : (0 : Int32).toInt = 0 := by decide
    omega
  exact Array.eq_empty_of_size_eq_zero q3

set_option maxRecDepth 65536 in
set_option maxHeartbeats 40000000 in
theorem comes_1 {Post : Tables → Env → Array Value → State → Outcome → State → Prop} (hpost : ∀ tb e args s v u, (limb_1_1.after args s (.returned v) u = true ∧ limb_1_2.after args s (.returned v) u = true ∧ True) → FrameEnd s (.returned v) u (Jvm.fieldLocs frame_1_writes args s ++ Jvm.arrayLocs frame_1_arrays args s ++ Jvm.staticLocs frame_1_statics s) 16 128 → Post tb e args s (.returned v) u) :
    ArmFor flags0 classFile x code maxLocals ret World_1 tables_1 room_1 Calls_1 rest_1 Pre_1 Post := by
  intro l hfl _ _ p e ha hc hk s m args below hf hA hF happ hP
  obtain ⟨hcalls, hrest, hpre⟩ := hP
  obtain ⟨-, -, -, hnamed, -, -, -, hat⟩ := (Spec.applies_iff hf).mp happ
  obtain ⟨hg, hn⟩ := and_e (Cond.before_iff.mp (show (Jvm.Cond.and given_1 narrow_1).before args s = true from hpre))
  obtain ⟨gg1, gg2⟩ := and_e hg
  obtain ⟨gg3, gg4⟩ := and_e gg2
  obtain ⟨gg5, gg6⟩ := and_e gg4
  obtain ⟨w0, w1, w2, rfl⟩ : ∃ w0 w1 w2 : Value, args = #[w0, w1, w2] := by
    have hs : args.size = 3 := by simpa [Cond.value, given_1] using gg1
    obtain ⟨L⟩ := args
    match L, hs with
    | [w0, w1, w2], _ => exact ⟨w0, w1, w2, rfl⟩
  have hw := fun d (hd : d ∈ tables_1) => atoms_spec (ws := Jvm.Cond.code x code maxLocals ret :: tables_1) hat d (List.mem_cons_of_mem _ hd)
  have hfit : Fit s := fun {y c} hc i hi => by
    obtain ⟨ha, rfl⟩ := Array.getElem?_eq_some_iff.mp hc
    have q := List.all_eq_true.mp ((Array.all_eq_true_iff_forall_mem.mp hF) _ (Array.getElem_mem ha)) i (List.mem_range.mpr hi)
    simpa [Array.getElem?_eq_getElem hi] using q
  obtain ⟨hsets, hown0⟩ := atoms_of _ (rest_1_c_eq ▸ (show rest_1_c.before _ s = true from hrest))
  have hr0 := Cond.before_iff.mp hown0
  obtain ⟨i0, ei0⟩ := isL_v gg3
  obtain rfl : w0 = (.long i0) := Option.some.inj ei0
  obtain ⟨i1, ei1⟩ := isL_v gg5
  obtain rfl : w1 = (.long i1) := Option.some.inj ei1
  obtain ⟨i2, ei2⟩ := is_v gg6
  obtain rfl : w2 = (.int i2) := Option.some.inj ei2
  obtain ⟨dE, ec⟩ := arr_v (Cond.before_iff.mp (hsets _ (List.mem_of_getElem? (i := 6) rfl)))
  have S0 := Sta.start ec (Or.inr ⟨(hw _ (List.mem_of_getElem? (i := 23) rfl)), (hsets _ (List.mem_of_getElem? (i := 2) rfl))⟩)
  obtain ⟨cl, Ac⟩ := Arr.start ec (Cond.before_iff.mp (hsets _ (List.mem_of_getElem? (i := 6) rfl)))
  have el := eqv_i (idx := []) (Term.int_eval (0 : Int32)) (Cond.before_iff.mp (hsets _ (List.mem_of_getElem? (i := 8) rfl)))
  have A0 : own_Ar s s.heap dE (.object "java/lang/Object") [] := own_len0 ec Ac el
  obtain ⟨n, o, h1, h2, h3, _, L, rfl, ⟨rfl, N⟩, hq⟩ := rm0 l s _ hw i0 i1 i2 s.heap s.heap.size (Nat.le_refl _) dE S0 A0 (Old.start s) p e ha hc hk s m _ below hf ((Spec.applies_iff_loose hf).mp happ).1 ⟨rfl, State.Warmed39.refl s, rfl⟩ trivial
  refine ⟨n, _, h1, h2, h3, hpost _ _ _ _ _ _ ⟨Cond.after_iff.mpr rfl, Cond.after_iff.mpr (eq_i res_at (Term.int_eval (1)) (congrArg Value.int (own_law _ _ _))), trivial⟩ ⟨hq.1, hq.2.1, (hq.2.2.sift fun y hy => Or.inr (N y hy)).mono (by decide) (by decide)⟩⟩
theorem main_1_1 : Claimed_1_1 := comes_1 fun _ _ _ _ _ _ h hF => ⟨h.1, hF⟩
theorem main_1_2 : Claimed_1_2 := comes_1 fun _ _ _ _ _ _ h hF => ⟨h.2.1, hF⟩

end Jvm.Pilot.@@N@@
namespace Jvm.Pilot.@@N@@
open Jvm Jvm.ClassFile Sem Op Lib Jvm.Free Jvm.Stand Jvm.Pilot.@@N@@.Jvm.D
/-! MADE BY PROGRAM (witnessworld.py) out of the Statement's table words and the real class files: 22 classes; the members and pool entries that the words name. The judged class is class 1, her method 1. -/
namespace start1
open Jvm.ClassFile
def u (s : String) : CpInfo := .utf8 (stringToUtf16 s)
/-- a pool by its gaps: so many unusable entries, then the entry; so many at the end -/
def gap : Nat → List CpInfo → List CpInfo
  | 0, r => r
  | n + 1, r => .unusable :: gap n r
def poolList (es : List (Nat × CpInfo)) (last : Nat) : List CpInfo := es.foldr (fun e r => gap e.1 (e.2 :: r)) (gap last [])
def pool (es : List (Nat × CpInfo)) (last : Nat) : Array CpInfo := ⟨poolList es last⟩
def fileOf (pool : Array CpInfo) (this : Nat) (attrs : Array Attribute := #[]) (ms : Array MethodInfo := #[]) (fl : Nat := 33) (sup : Nat := 0) (ifs : Array Nat := #[]) (fds : Array FieldInfo := #[]) : ClassFile where
  minorVersion := 0
  majorVersion := 65
  constantPool := pool
  accessFlags := fl
  thisClass := this
  superClass := sup
  interfaces := ifs
  fields := fds
  methods := ms
  attributes := attrs
def plain (name : String) (sup : Option ClassId) : Class where
  name := name
  kind := .ordinary
  loader := none
  accessFlags := 33
  super := sup
  interfaces := #[]
  cf := none
  fields := #[]
  methods := #[]
  instanceTypes := #[]
  staticTypes := #[]
  resolved := #[]
  callSites := []
  init := .initialized
  statics := none
  mirror := none

def pool0 : Array CpInfo := pool [(5, u "<init>"), (0, u "()V"), (1, .class_ 10), (1, u "java/lang/Object")] 113

def k0c0 : Code := { maxStack := 0, maxLocals := 1, code := object_method_1_code, exceptionTable := #[], attributes := #[] }
def k0m0 : Method := { name := "<init>", desc := "()V", sig := { parameters := [], returnType := none }, accessFlags := 1, code := some k0c0 }
/-- java/lang/Object -/
def k0 : Class := { plain "java/lang/Object" none with
  accessFlags := 33
  interfaces := #[]
  cf := some (fileOf pool0 8 #[] #[{ accessFlags := 1, nameIndex := 5, descriptorIndex := 6, attributes := #[] }] 33 0 #[] #[])
  fields := #[]
  methods := #[k0m0]
  instanceTypes := #[]
  staticTypes := #[]
  resolved := Array.replicate 124 none
  statics := none }

def pool1 : Array CpInfo := pool [(2, .class_ 4), (0, .nameAndType 5 6), (0, u "java/lang/Object"), (0, u "<init>"), (0, u "()V"), (0, .long 5), (1, .class_ 10), (0, u "com/example/tuplelift/tuplelift/service/Pipeline$Sliced"), (0, .methodref 9 12), (0, .nameAndType 5 13), (0, u "(JJ)V"), (0, .methodref 9 15), (0, .nameAndType 16 17), (0, u "full"), (0, u "()Z"), (0, .class_ 19), (0, u "java/util/ArrayList"), (0, .methodref 18 3), (0, .class_ 22), (0, u "com/example/tuplelift/tuplelift/model/Term"), (0, .methodref 9 24), (0, .nameAndType 25 26), (0, u "accept"), (0, u "([Lcom/example/tuplelift/tuplelift/model/Term;Ljava/util/List;)V"), (0, .methodref 28 29), (0, .class_ 30), (0, .nameAndType 31 32), (0, u "java/lang/Math"), (0, u "min"), (0, u "(JJ)J"), (0, .methodref 18 34), (0, .nameAndType 35 36), (0, u "size"), (0, u "()I"), (0, .class_ 38), (0, u "com/example/tuplelift/tuplelift/service/SlicedFullPinLaw"), (2, u "law"), (0, u "(JJI)Z")] 9

def k1m0 : Method := { name := "<init>", desc := "()V", sig := { parameters := [], returnType := none }, accessFlags := 1, code := none }
def k1c1 : Code := { maxStack := 6, maxLocals := 23, code := code, exceptionTable := #[], attributes := #[] }
def k1m1 : Method := { name := "law", desc := "(JJI)Z", sig := { parameters := [.long, .long, .int], returnType := some .boolean }, accessFlags := 9, code := some k1c1 }
/-- com/example/tuplelift/tuplelift/service/SlicedFullPinLaw -/
def k1 : Class := { plain "com/example/tuplelift/tuplelift/service/SlicedFullPinLaw" (some 0) with
  accessFlags := 49
  interfaces := #[]
  cf := some (fileOf pool1 37 #[] #[{ accessFlags := 1, nameIndex := 5, descriptorIndex := 6, attributes := #[] }, { accessFlags := 9, nameIndex := 41, descriptorIndex := 42, attributes := #[] }] 49 2 #[] #[])
  fields := #[]
  methods := #[k1m0, k1m1]
  instanceTypes := #[]
  staticTypes := #[]
  resolved := Array.replicate 52 none
  statics := none }

def pool2 : Array CpInfo := pool [(1, .class_ 2), (0, u "com/example/tuplelift/tuplelift/service/Pipeline$Stage"), (0, .class_ 4), (0, u "java/lang/Object"), (18, .class_ 24), (0, u "com/example/tuplelift/tuplelift/service/Pipeline")] 2

/-- com/example/tuplelift/tuplelift/service/Pipeline$Stage -/
def k2 : Class := { plain "com/example/tuplelift/tuplelift/service/Pipeline$Stage" (some 0) with
  accessFlags := 1536
  interfaces := #[]
  cf := some (fileOf pool2 1 #[.nestHost 23] #[] 1536 3 #[] #[])
  fields := #[]
  methods := #[]
  instanceTypes := #[]
  staticTypes := #[]
  resolved := Array.replicate 27 none
  statics := none }

def pool3 : Array CpInfo := pool [(1, .methodref 2 3), (0, .class_ 4), (0, .nameAndType 5 6), (0, u "java/lang/Object"), (0, u "<init>"), (0, u "()V"), (0, .fieldref 8 9), (0, .class_ 10), (0, .nameAndType 11 12), (0, u "com/example/tuplelift/tuplelift/service/Pipeline$Sliced"), (0, u "offset"), (0, u "J"), (0, .fieldref 8 14), (0, .nameAndType 15 12), (0, u "limit"), (0, .fieldref 8 17), (0, .nameAndType 18 12), (0, u "skipped"), (0, .methodref 8 20), (0, .nameAndType 21 22), (0, u "full"), (0, u "()Z"), (0, .fieldref 8 24), (0, .nameAndType 25 12), (0, u "passed"), (0, .interfaceMethodref 27 28), (0, .class_ 29), (0, .nameAndType 30 31), (0, u "java/util/List"), (0, u "add"), (0, u "(Ljava/lang/Object;)Z"), (0, .class_ 33), (0, u "com/example/tuplelift/tuplelift/service/Pipeline$Stage"), (0, u "(JJ)V"), (2, u "accept"), (0, u "([Lcom/example/tuplelift/tuplelift/model/Term;Ljava/util/List;)V"), (6, .class_ 46), (0, u "com/example/tuplelift/tuplelift/service/Pipeline")] 3

def k3c0 : Code := { maxStack := 3, maxLocals := 5, code := prog_116_method_1_code, exceptionTable := #[], attributes := #[] }
def k3m0 : Method := { name := "<init>", desc := "(JJ)V", sig := { parameters := [.long, .long], returnType := none }, accessFlags := 0, code := some k3c0 }
def k3c1 : Code := { maxStack := 5, maxLocals := 3, code := prog_116_method_2_code, exceptionTable := #[], attributes := #[] }
def k3m1 : Method := { name := "accept", desc := "([Lcom/example/tuplelift/tuplelift/model/Term;Ljava/util/List;)V", sig := { parameters := [(.array (.object "com/example/tuplelift/tuplelift/model/Term")), (.object "java/util/List")], returnType := none }, accessFlags := 1, code := some k3c1 }
def k3c2 : Code := { maxStack := 4, maxLocals := 1, code := prog_116_method_3_code, exceptionTable := #[], attributes := #[] }
def k3m2 : Method := { name := "full", desc := "()Z", sig := { parameters := [], returnType := some .boolean }, accessFlags := 1, code := some k3c2 }
/-- com/example/tuplelift/tuplelift/service/Pipeline$Sliced -/
def k3 : Class := { plain "com/example/tuplelift/tuplelift/service/Pipeline$Sliced" (some 0) with
  accessFlags := 48
  interfaces := #[2]
  cf := some (fileOf pool3 8 #[.nestHost 45] #[{ accessFlags := 0, nameIndex := 5, descriptorIndex := 34, attributes := #[] }, { accessFlags := 1, nameIndex := 37, descriptorIndex := 38, attributes := #[] }, { accessFlags := 1, nameIndex := 21, descriptorIndex := 22, attributes := #[] }] 48 2 #[32] #[{ accessFlags := 18, nameIndex := 11, descriptorIndex := 12, attributes := #[] }, { accessFlags := 18, nameIndex := 15, descriptorIndex := 12, attributes := #[] }, { accessFlags := 2, nameIndex := 18, descriptorIndex := 12, attributes := #[] }, { accessFlags := 2, nameIndex := 25, descriptorIndex := 12, attributes := #[] }])
  fields := #[{ name := "offset", type := .long, accessFlags := 18, slot := 0, constantValue := 0 }, { name := "limit", type := .long, accessFlags := 18, slot := 1, constantValue := 0 }, { name := "skipped", type := .long, accessFlags := 2, slot := 2, constantValue := 0 }, { name := "passed", type := .long, accessFlags := 2, slot := 3, constantValue := 0 }]
  methods := #[k3m0, k3m1, k3m2]
  instanceTypes := #[.long, .long, .long, .long]
  staticTypes := #[]
  resolved := Array.replicate 50 none
  statics := none }

def pool4 : Array CpInfo := pool [(8, .class_ 10), (1, u "java/lang/Iterable"), (24, .class_ 36), (0, u "java/lang/Object")] 25

/-- java/lang/Iterable -/
def k4 : Class := { plain "java/lang/Iterable" (some 0) with
  accessFlags := 1537
  interfaces := #[]
  cf := some (fileOf pool4 8 #[] #[] 1537 35 #[] #[])
  fields := #[]
  methods := #[]
  instanceTypes := #[]
  staticTypes := #[]
  resolved := Array.replicate 62 none
  statics := none }

def pool5 : Array CpInfo := pool [(10, .class_ 12), (1, u "java/util/Collection"), (47, .class_ 61), (0, u "java/lang/Object"), (0, .class_ 63), (0, u "java/lang/Iterable")] 51

/-- java/util/Collection -/
def k5 : Class := { plain "java/util/Collection" (some 0) with
  accessFlags := 1537
  interfaces := #[4]
  cf := some (fileOf pool5 10 #[] #[] 1537 60 #[62] #[])
  fields := #[]
  methods := #[]
  instanceTypes := #[]
  staticTypes := #[]
  resolved := Array.replicate 115 none
  statics := none }

def pool6 : Array CpInfo := pool [(1, .methodref 2 3), (0, .class_ 4), (0, .nameAndType 5 6), (0, u "java/lang/Object"), (0, u "<init>"), (0, u "()V"), (1, .class_ 10), (1, u "java/util/AbstractCollection"), (66, .class_ 78), (0, u "java/util/Collection")] 81

def k6c0 : Code := { maxStack := 1, maxLocals := 1, code := jdk_22_method_1_code, exceptionTable := #[], attributes := #[] }
def k6m0 : Method := { name := "<init>", desc := "()V", sig := { parameters := [], returnType := none }, accessFlags := 4, code := some k6c0 }
/-- java/util/AbstractCollection -/
def k6 : Class := { plain "java/util/AbstractCollection" (some 0) with
  accessFlags := 1057
  interfaces := #[5]
  cf := some (fileOf pool6 8 #[] #[{ accessFlags := 4, nameIndex := 5, descriptorIndex := 6, attributes := #[] }] 1057 2 #[77] #[])
  fields := #[]
  methods := #[k6m0]
  instanceTypes := #[]
  staticTypes := #[]
  resolved := Array.replicate 160 none
  statics := none }

def pool7 : Array CpInfo := pool [(8, .class_ 10), (1, u "java/util/SequencedCollection"), (15, .class_ 27), (0, u "java/lang/Object"), (0, .class_ 29), (0, u "java/util/Collection")] 27

/-- java/util/SequencedCollection -/
def k7 : Class := { plain "java/util/SequencedCollection" (some 0) with
  accessFlags := 1537
  interfaces := #[5]
  cf := some (fileOf pool7 8 #[] #[] 1537 26 #[28] #[])
  fields := #[]
  methods := #[]
  instanceTypes := #[]
  staticTypes := #[]
  resolved := Array.replicate 57 none
  statics := none }

def pool8 : Array CpInfo := pool [(8, .class_ 10), (1, u "java/util/List"), (49, u "add"), (3, u "(Ljava/lang/Object;)Z"), (38, .class_ 104), (0, u "java/lang/Object"), (15, .class_ 121), (0, u "java/util/SequencedCollection")] 129

def k8m0 : Method := { name := "add", desc := "(Ljava/lang/Object;)Z", sig := { parameters := [(.object "java/lang/Object")], returnType := some .boolean }, accessFlags := 1025, code := none }
/-- java/util/List -/
def k8 : Class := { plain "java/util/List" (some 0) with
  accessFlags := 1537
  interfaces := #[7]
  cf := some (fileOf pool8 8 #[] #[{ accessFlags := 1025, nameIndex := 60, descriptorIndex := 64, attributes := #[] }] 1537 103 #[120] #[])
  fields := #[]
  methods := #[k8m0]
  instanceTypes := #[]
  staticTypes := #[]
  resolved := Array.replicate 251 none
  statics := none }

def pool9 : Array CpInfo := pool [(1, .methodref 2 3), (0, .class_ 4), (0, .nameAndType 5 6), (0, u "java/util/AbstractCollection"), (0, u "<init>"), (0, u "()V"), (0, .fieldref 8 9), (0, .class_ 10), (0, .nameAndType 11 12), (0, u "java/util/AbstractList"), (0, u "modCount"), (0, u "I"), (64, .class_ 78), (0, u "java/util/AbstractList$Itr"), (3, .class_ 83), (0, u "java/util/AbstractList$ListItr"), (9, .class_ 94), (0, u "java/util/AbstractList$RandomAccessSubList"), (3, .class_ 99), (0, u "java/util/AbstractList$SubList"), (33, .class_ 134), (0, u "java/util/List"), (73, .class_ 209), (0, u "java/util/AbstractList$SubList$1"), (0, .class_ 211), (0, u "java/util/AbstractList$RandomAccessSpliterator")] 6

def k9c0 : Code := { maxStack := 2, maxLocals := 1, code := jdk_39_method_1_code, exceptionTable := #[], attributes := #[] }
def k9m0 : Method := { name := "<init>", desc := "()V", sig := { parameters := [], returnType := none }, accessFlags := 4, code := some k9c0 }
/-- java/util/AbstractList -/
def k9 : Class := { plain "java/util/AbstractList" (some 6) with
  accessFlags := 1057
  interfaces := #[8]
  cf := some (fileOf pool9 8 #[.nestMembers #[93, 98, 208, 210, 82, 77]] #[{ accessFlags := 4, nameIndex := 5, descriptorIndex := 6, attributes := #[] }] 1057 2 #[133] #[{ accessFlags := 132, nameIndex := 11, descriptorIndex := 12, attributes := #[] }])
  fields := #[{ name := "modCount", type := .int, accessFlags := 132, slot := 0, constantValue := 0 }]
  methods := #[k9m0]
  instanceTypes := #[.int]
  staticTypes := #[]
  resolved := Array.replicate 218 none
  statics := none }

def pool10 : Array CpInfo := pool [(1, .class_ 2), (0, u "java/util/RandomAccess"), (0, .class_ 4), (0, u "java/lang/Object")] 2

/-- java/util/RandomAccess -/
def k10 : Class := { plain "java/util/RandomAccess" (some 0) with
  accessFlags := 1537
  interfaces := #[]
  cf := some (fileOf pool10 1 #[] #[] 1537 3 #[] #[])
  fields := #[]
  methods := #[]
  instanceTypes := #[]
  staticTypes := #[]
  resolved := Array.replicate 7 none
  statics := none }

def pool11 : Array CpInfo := pool [(1, .class_ 2), (0, u "java/lang/Cloneable"), (0, .class_ 4), (0, u "java/lang/Object")] 2

/-- java/lang/Cloneable -/
def k11 : Class := { plain "java/lang/Cloneable" (some 0) with
  accessFlags := 1537
  interfaces := #[]
  cf := some (fileOf pool11 1 #[] #[] 1537 3 #[] #[])
  fields := #[]
  methods := #[]
  instanceTypes := #[]
  staticTypes := #[]
  resolved := Array.replicate 7 none
  statics := none }

def pool12 : Array CpInfo := pool [(1, .class_ 2), (0, u "java/io/Serializable"), (0, .class_ 4), (0, u "java/lang/Object")] 2

/-- java/io/Serializable -/
def k12 : Class := { plain "java/io/Serializable" (some 0) with
  accessFlags := 1537
  interfaces := #[]
  cf := some (fileOf pool12 1 #[] #[] 1537 3 #[] #[])
  fields := #[]
  methods := #[]
  instanceTypes := #[]
  staticTypes := #[]
  resolved := Array.replicate 7 none
  statics := none }

def pool13 : Array CpInfo := pool [(1, .methodref 2 3), (0, .class_ 4), (0, .nameAndType 5 6), (0, u "java/util/AbstractList"), (0, u "<init>"), (0, u "()V"), (0, .class_ 8), (0, u "java/lang/Object"), (0, .fieldref 10 11), (0, .class_ 12), (0, .nameAndType 13 14), (0, u "java/util/ArrayList"), (0, u "elementData"), (0, u "[Ljava/lang/Object;"), (2, u "EMPTY_ELEMENTDATA"), (21, .fieldref 10 40), (0, .nameAndType 41 14), (0, u "DEFAULTCAPACITY_EMPTY_ELEMENTDATA"), (5, u "()[Ljava/lang/Object;"), (0, .fieldref 10 49), (0, .nameAndType 50 51), (0, u "size"), (0, u "I"), (11, .fieldref 10 64), (0, .nameAndType 65 51), (0, u "modCount"), (3, .methodref 10 70), (0, .nameAndType 71 72), (0, u "grow"), (0, u "(I)[Ljava/lang/Object;"), (6, .methodref 80 81), (0, .class_ 82), (0, .nameAndType 83 84), (0, u "java/lang/Math"), (0, u "max"), (0, u "(II)I"), (11, u "(Ljava/lang/Object;)Z"), (32, .methodref 10 130), (0, .nameAndType 71 47), (0, .methodref 10 132), (0, .nameAndType 133 134), (0, u "add"), (0, u "(Ljava/lang/Object;[Ljava/lang/Object;I)V"), (13, .class_ 149), (0, u "java/util/List"), (36, u "()I"), (75, .class_ 263), (0, u "java/util/ArrayList$ListItr"), (3, .class_ 268), (0, u "java/util/ArrayList$Itr"), (7, .class_ 277), (0, u "java/util/ArrayList$SubList"), (12, .class_ 291), (0, u "java/util/ArrayList$ArrayListSpliterator"), (37, .class_ 330), (0, u "java/util/RandomAccess"), (0, .class_ 332), (0, u "java/lang/Cloneable"), (0, .class_ 334), (0, u "java/io/Serializable"), (0, u "serialVersionUID"), (0, u "J"), (3, u "DEFAULT_CAPACITY"), (159, .class_ 501), (0, u "java/util/ArrayList$SubList$2"), (0, .class_ 503), (0, u "java/util/ArrayList$SubList$1")] 5

def k13c0 : Code := { maxStack := 2, maxLocals := 1, code := jdk_38_method_2_code, exceptionTable := #[], attributes := #[] }
def k13m0 : Method := { name := "<init>", desc := "()V", sig := { parameters := [], returnType := none }, accessFlags := 1, code := some k13c0 }
def k13c1 : Code := { maxStack := 4, maxLocals := 4, code := jdk_38_method_6_code, exceptionTable := #[], attributes := #[] }
def k13m1 : Method := { name := "grow", desc := "(I)[Ljava/lang/Object;", sig := { parameters := [.int], returnType := some (.array (.object "java/lang/Object")) }, accessFlags := 2, code := some k13c1 }
def k13c2 : Code := { maxStack := 3, maxLocals := 1, code := jdk_38_method_7_code, exceptionTable := #[], attributes := #[] }
def k13m2 : Method := { name := "grow", desc := "()[Ljava/lang/Object;", sig := { parameters := [], returnType := some (.array (.object "java/lang/Object")) }, accessFlags := 2, code := some k13c2 }
def k13c3 : Code := { maxStack := 1, maxLocals := 1, code := jdk_38_method_8_code, exceptionTable := #[], attributes := #[] }
def k13m3 : Method := { name := "size", desc := "()I", sig := { parameters := [], returnType := some .int }, accessFlags := 1, code := some k13c3 }
def k13c4 : Code := { maxStack := 3, maxLocals := 4, code := jdk_38_method_24_code, exceptionTable := #[], attributes := #[] }
def k13m4 : Method := { name := "add", desc := "(Ljava/lang/Object;[Ljava/lang/Object;I)V", sig := { parameters := [(.object "java/lang/Object"), (.array (.object "java/lang/Object")), .int], returnType := none }, accessFlags := 2, code := some k13c4 }
def k13c5 : Code := { maxStack := 4, maxLocals := 2, code := jdk_38_method_25_code, exceptionTable := #[], attributes := #[] }
def k13m5 : Method := { name := "add", desc := "(Ljava/lang/Object;)Z", sig := { parameters := [(.object "java/lang/Object")], returnType := some .boolean }, accessFlags := 1, code := some k13c5 }
/-- java/util/ArrayList -/
def k13 : Class := { plain "java/util/ArrayList" (some 9) with
  accessFlags := 33
  interfaces := #[8, 10, 11, 12]
  cf := some (fileOf pool13 10 #[.nestMembers #[290, 276, 500, 502, 262, 267]] #[{ accessFlags := 1, nameIndex := 5, descriptorIndex := 6, attributes := #[] }, { accessFlags := 2, nameIndex := 71, descriptorIndex := 72, attributes := #[] }, { accessFlags := 2, nameIndex := 71, descriptorIndex := 47, attributes := #[] }, { accessFlags := 1, nameIndex := 50, descriptorIndex := 186, attributes := #[] }, { accessFlags := 2, nameIndex := 133, descriptorIndex := 134, attributes := #[] }, { accessFlags := 1, nameIndex := 133, descriptorIndex := 96, attributes := #[] }] 33 2 #[148, 329, 331, 333] #[{ accessFlags := 26, nameIndex := 335, descriptorIndex := 336, attributes := #[] }, { accessFlags := 26, nameIndex := 340, descriptorIndex := 51, attributes := #[] }, { accessFlags := 26, nameIndex := 17, descriptorIndex := 14, attributes := #[] }, { accessFlags := 26, nameIndex := 41, descriptorIndex := 14, attributes := #[] }, { accessFlags := 128, nameIndex := 13, descriptorIndex := 14, attributes := #[] }, { accessFlags := 2, nameIndex := 50, descriptorIndex := 51, attributes := #[] }])
  fields := #[{ name := "serialVersionUID", type := .long, accessFlags := 26, slot := 0, constantValue := 0 }, { name := "DEFAULT_CAPACITY", type := .int, accessFlags := 26, slot := 1, constantValue := 0 }, { name := "EMPTY_ELEMENTDATA", type := (.array (.object "java/lang/Object")), accessFlags := 26, slot := 2, constantValue := 0 }, { name := "DEFAULTCAPACITY_EMPTY_ELEMENTDATA", type := (.array (.object "java/lang/Object")), accessFlags := 26, slot := 3, constantValue := 0 }, { name := "elementData", type := (.array (.object "java/lang/Object")), accessFlags := 128, slot := 1, constantValue := 0 }, { name := "size", type := .int, accessFlags := 2, slot := 2, constantValue := 0 }]
  methods := #[k13m0, k13m1, k13m2, k13m3, k13m4, k13m5]
  instanceTypes := #[.int, (.array (.object "java/lang/Object")), .int]
  staticTypes := #[.long, .int, (.array (.object "java/lang/Object")), (.array (.object "java/lang/Object"))]
  resolved := Array.replicate 509 none
  statics := some 0 }

def pool14 : Array CpInfo := pool [(1, .class_ 2), (0, u "com/example/tuplelift/tuplelift/model/Term"), (0, .class_ 4), (0, u "java/lang/Object")] 7

/-- com/example/tuplelift/tuplelift/model/Term -/
def k14 : Class := { plain "com/example/tuplelift/tuplelift/model/Term" (some 0) with
  accessFlags := 1537
  interfaces := #[]
  cf := some (fileOf pool14 1 #[] #[] 1537 3 #[] #[])
  fields := #[]
  methods := #[]
  instanceTypes := #[]
  staticTypes := #[]
  resolved := Array.replicate 12 none
  statics := none }

def pool15 : Array CpInfo := pool [(1, .class_ 2), (0, u "java/lang/Math"), (1, .class_ 6), (1, u "java/lang/Object"), (0, u "<init>"), (0, u "()V"), (89, .class_ 100), (1, u "java/lang/Math$RandomNumberGeneratorHolder"), (20, u "(JJ)J"), (50, u "negativeZeroFloatBits"), (0, u "J"), (2, u "negativeZeroDoubleBits"), (21, u "max"), (2, u "min"), (43, u "$assertionsDisabled"), (0, u "Z"), (88, u "(II)I"), (2, u "twoToTheDoubleScaleDown"), (0, u "D"), (4, u "twoToTheDoubleScaleUp"), (9, u "E"), (3, u "PI"), (2, u "TAU"), (2, u "DEGREES_TO_RADIANS"), (0, u "RADIANS_TO_DEGREES")] 94

def k15m0 : Method := { name := "<init>", desc := "()V", sig := { parameters := [], returnType := none }, accessFlags := 2, code := none }
def k15c1 : Code := { maxStack := 2, maxLocals := 2, code := jdk_29_method_65_code, exceptionTable := #[], attributes := #[] }
def k15m1 : Method := { name := "max", desc := "(II)I", sig := { parameters := [.int, .int], returnType := some .int }, accessFlags := 9, code := some k15c1 }
def k15c2 : Code := { maxStack := 4, maxLocals := 4, code := jdk_29_method_70_code, exceptionTable := #[], attributes := #[] }
def k15m2 : Method := { name := "min", desc := "(JJ)J", sig := { parameters := [.long, .long], returnType := some .long }, accessFlags := 9, code := some k15c2 }
/-- java/lang/Math -/
def k15 : Class := { plain "java/lang/Math" (some 0) with
  accessFlags := 49
  interfaces := #[]
  cf := some (fileOf pool15 1 #[.nestMembers #[98]] #[{ accessFlags := 2, nameIndex := 7, descriptorIndex := 8, attributes := #[] }, { accessFlags := 9, nameIndex := 198, descriptorIndex := 335, attributes := #[] }, { accessFlags := 9, nameIndex := 201, descriptorIndex := 121, attributes := #[] }] 49 4 #[] #[{ accessFlags := 25, nameIndex := 354, descriptorIndex := 339, attributes := #[] }, { accessFlags := 25, nameIndex := 358, descriptorIndex := 339, attributes := #[] }, { accessFlags := 25, nameIndex := 361, descriptorIndex := 339, attributes := #[] }, { accessFlags := 26, nameIndex := 364, descriptorIndex := 339, attributes := #[] }, { accessFlags := 26, nameIndex := 365, descriptorIndex := 339, attributes := #[] }, { accessFlags := 26, nameIndex := 172, descriptorIndex := 173, attributes := #[] }, { accessFlags := 26, nameIndex := 176, descriptorIndex := 173, attributes := #[] }, { accessFlags := 8, nameIndex := 344, descriptorIndex := 339, attributes := #[] }, { accessFlags := 8, nameIndex := 338, descriptorIndex := 339, attributes := #[] }, { accessFlags := 4120, nameIndex := 245, descriptorIndex := 246, attributes := #[] }])
  fields := #[{ name := "E", type := .double, accessFlags := 25, slot := 0, constantValue := 0 }, { name := "PI", type := .double, accessFlags := 25, slot := 1, constantValue := 0 }, { name := "TAU", type := .double, accessFlags := 25, slot := 2, constantValue := 0 }, { name := "DEGREES_TO_RADIANS", type := .double, accessFlags := 26, slot := 3, constantValue := 0 }, { name := "RADIANS_TO_DEGREES", type := .double, accessFlags := 26, slot := 4, constantValue := 0 }, { name := "negativeZeroFloatBits", type := .long, accessFlags := 26, slot := 5, constantValue := 0 }, { name := "negativeZeroDoubleBits", type := .long, accessFlags := 26, slot := 6, constantValue := 0 }, { name := "twoToTheDoubleScaleUp", type := .double, accessFlags := 8, slot := 7, constantValue := 0 }, { name := "twoToTheDoubleScaleDown", type := .double, accessFlags := 8, slot := 8, constantValue := 0 }, { name := "$assertionsDisabled", type := .boolean, accessFlags := 4120, slot := 9, constantValue := 0 }]
  methods := #[k15m0, k15m1, k15m2]
  instanceTypes := #[]
  staticTypes := #[.double, .double, .double, .double, .double, .long, .long, .double, .double, .boolean]
  resolved := Array.replicate 460 none
  statics := none }

/-- the primitive byte -/
def k16 : Class := { plain "byte" none with kind := .primitive 'B', accessFlags := 0x411 }
/-- [B -/
def k17 : Class := { plain "[B" (some 0) with kind := .array 16 .byte, interfaces := #[11, 12], accessFlags := 1041 }

/-- the primitive int -/
def k18 : Class := { plain "int" none with kind := .primitive 'I', accessFlags := 0x411 }
/-- [I -/
def k19 : Class := { plain "[I" (some 0) with kind := .array 18 .int, interfaces := #[11, 12], accessFlags := 1041 }

/-- [Lcom/example/tuplelift/tuplelift/model/Term; -/
def k20 : Class := { plain "[Lcom/example/tuplelift/tuplelift/model/Term;" (some 0) with kind := .array 14 (.object "com/example/tuplelift/tuplelift/model/Term"), interfaces := #[11, 12], accessFlags := 1041 }

/-- [Ljava/lang/Object; -/
def k21 : Class := { plain "[Ljava/lang/Object;" (some 0) with kind := .array 0 (.object "java/lang/Object"), interfaces := #[11, 12], accessFlags := 1041 }

def heap : Heap := #[{ cls := 13, slots := #[.long 0, .int 0, .ref 1, .ref 2], vm := .statics 13 },
  { cls := 21, slots := #[], vm := .none },
  { cls := 21, slots := #[], vm := .none }]
def classes : Array Class := #[k0, k1, k2, k3, k4, k5, k6, k7, k8, k9, k10, k11, k12, k13, k14, k15, k16, k17, k18, k19, k20, k21]
def interned : List (Array UInt16 × Addr) := []
def slotsUsed : Nat := 4
def theMethod : MethodId := ⟨1, 1⟩
def args0 : Array Value := #[.long 1, .long 2, .int 15]
def aboutOver (below : List Frame) : State where
  vm := { classes := classes, interned := interned.toArray }
  heap := heap
  slotsUsed := slotsUsed
  threads := #[{ frames := .invoking theMethod args0 :: below }]
def below0 : List Frame := [.native { method := ⟨0, 0⟩, args := #[] }]
def about1 : State := aboutOver below0
def p0 : Program := .bare "" "" ""
def e0 : Env := launch0.env 0 0 0
theorem w_frames : about1.frames = Frame.invoking theMethod args0 :: below0 := rfl
set_option maxRecDepth 65536 in
theorem w_args : argsFit about1.vm theMethod args0 = true := by decide +kernel
set_option maxRecDepth 65536 in
theorem w_heap : heapFits about1 = true := by decide +kernel
set_option maxRecDepth 65536 in
theorem w_runnable : about1.curStatus? = some .runnable := by decide +kernel
set_option maxRecDepth 65536 in
theorem w_alone : about1.alone = true := by decide +kernel
set_option maxRecDepth 65536 in
theorem w_named : about1.methodNamed? x = some theMethod := by decide +kernel
set_option maxRecDepth 65536 in
theorem w_hears : about1.hears theMethod below0 = true := by decide +kernel
set_option maxRecDepth 65536 in
theorem w_ripe : about1.ripe theMethod args0 below0 = true := by decide +kernel
theorem w_running : about1.status = .running := rfl
set_option maxRecDepth 65536 in
theorem w_room : about1.hasRoom e0.platform room_1 = true :=
  launch0.hasRoom_least _ room_1 (by decide +kernel) (by decide +kernel) (by decide +kernel) (by decide +kernel) (by decide +kernel) (by decide +kernel)
theorem allAtoms_all (ts : List Jvm.Cond) (a : Array Jvm.Value) (st : Jvm.State) : (allAtoms ts).before a st = ts.all (fun c => c.before a st) := by
  induction ts with
  | nil => rfl
  | cons c t ih =>
    show (Jvm.Cond.and c (allAtoms t)).before a st = _
    rw [Jvm.Cond.before_and, ih, List.all_cons]
def words1 : List Jvm.Cond := Jvm.Cond.code x code maxLocals ret :: tables_1
/-- a 'code' word, met by the world's own term for the bytes: nothing is compared byte by byte -/
theorem code_word {y : MethodName} {bytes : ByteArray} {mx : Nat} {rt : Option FieldType} {a : Array Value} {s : State} {m : MethodId} {meth : Method} {c : Code} (h1 : s.methodNamed? y = some m) (h2 : s.vm.method? m = some meth) (h3 : meth.code = some c) (h4 : c.code = bytes)
    (h5 : (c.maxLocals == mx && c.exceptionTable.isEmpty && decide (c.maxStack ≤ mostOperands) && decide (meth.sig.returnType = rt) && !meth.locks && decide (parseMethodDescriptor y.desc = some meth.sig)) = true) : (Jvm.Cond.code y bytes mx rt).before a s = true := by
  simp only [Bool.and_eq_true, beq_iff_eq, Bool.not_eq_true', decide_eq_true_eq] at h5
  obtain ⟨⟨⟨⟨⟨g1, g2⟩, g3⟩, g4⟩, g5⟩, g6⟩ := h5
  simp [Cond.before, Cond.holds, Cond.value, h1, h2, h3, h4, g1, g2, g3, g4, g5, g6]
def isCode : Jvm.Cond → Bool
  | .code _ _ _ _ => true
  | _ => false
theorem all_split {L : List Jvm.Cond} {P : Jvm.Cond → Bool} (h1 : L.all (fun c => isCode c || P c) = true) (h2 : ∀ c ∈ L.filter isCode, P c = true) : L.all P = true := by
  refine List.all_eq_true.mpr fun c hc => ?_
  have h := List.all_eq_true.mp h1 c hc
  rcases Bool.eq_false_or_eq_true (isCode c) with hi | hi
  · exact h2 c (List.mem_filter.mpr ⟨hc, hi⟩)
  · simpa [hi] using h
set_option maxRecDepth 65536 in
theorem w_c0 : (Jvm.Cond.code x code maxLocals ret).before args0 about1 = true := code_word (m := ⟨1, 1⟩) (meth := k1m1) (c := k1c1) (by decide +kernel) rfl rfl rfl (by decide +kernel)
set_option maxRecDepth 65536 in
theorem w_c1 : (Jvm.Cond.code ({ cls := "com/example/tuplelift/tuplelift/service/Pipeline$Sliced", name := "<init>", desc := "(JJ)V" } : Jvm.MethodName) prog_116_method_1_code (5 : Nat) (Option.none : Option Jvm.ClassFile.FieldType)).before args0 about1 = true := code_word (m := ⟨3, 0⟩) (meth := k3m0) (c := k3c0) (by decide +kernel) rfl rfl rfl (by decide +kernel)
set_option maxRecDepth 65536 in
theorem w_c2 : (Jvm.Cond.code ({ cls := "java/lang/Object", name := "<init>", desc := "()V" } : Jvm.MethodName) object_method_1_code (1 : Nat) (Option.none : Option Jvm.ClassFile.FieldType)).before args0 about1 = true := code_word (m := ⟨0, 0⟩) (meth := k0m0) (c := k0c0) (by decide +kernel) rfl rfl rfl (by decide +kernel)
set_option maxRecDepth 65536 in
theorem w_c3 : (Jvm.Cond.code ({ cls := "com/example/tuplelift/tuplelift/service/Pipeline$Sliced", name := "full", desc := "()Z" } : Jvm.MethodName) prog_116_method_3_code (1 : Nat) (Option.some Jvm.ClassFile.FieldType.boolean)).before args0 about1 = true := code_word (m := ⟨3, 2⟩) (meth := k3m2) (c := k3c2) (by decide +kernel) rfl rfl rfl (by decide +kernel)
set_option maxRecDepth 65536 in
theorem w_c4 : (Jvm.Cond.code ({ cls := "java/util/ArrayList", name := "<init>", desc := "()V" } : Jvm.MethodName) jdk_38_method_2_code (1 : Nat) (Option.none : Option Jvm.ClassFile.FieldType)).before args0 about1 = true := code_word (m := ⟨13, 0⟩) (meth := k13m0) (c := k13c0) (by decide +kernel) rfl rfl rfl (by decide +kernel)
set_option maxRecDepth 65536 in
theorem w_c5 : (Jvm.Cond.code ({ cls := "java/util/AbstractList", name := "<init>", desc := "()V" } : Jvm.MethodName) jdk_39_method_1_code (1 : Nat) (Option.none : Option Jvm.ClassFile.FieldType)).before args0 about1 = true := code_word (m := ⟨9, 0⟩) (meth := k9m0) (c := k9c0) (by decide +kernel) rfl rfl rfl (by decide +kernel)
set_option maxRecDepth 65536 in
theorem w_c6 : (Jvm.Cond.code ({ cls := "java/util/AbstractCollection", name := "<init>", desc := "()V" } : Jvm.MethodName) jdk_22_method_1_code (1 : Nat) (Option.none : Option Jvm.ClassFile.FieldType)).before args0 about1 = true := code_word (m := ⟨6, 0⟩) (meth := k6m0) (c := k6c0) (by decide +kernel) rfl rfl rfl (by decide +kernel)
set_option maxRecDepth 65536 in
theorem w_c7 : (Jvm.Cond.code ({ cls := "java/lang/Math", name := "min", desc := "(JJ)J" } : Jvm.MethodName) jdk_29_method_70_code (4 : Nat) (Option.some Jvm.ClassFile.FieldType.long)).before args0 about1 = true := code_word (m := ⟨15, 2⟩) (meth := k15m2) (c := k15c2) (by decide +kernel) rfl rfl rfl (by decide +kernel)
set_option maxRecDepth 65536 in
theorem w_c8 : (Jvm.Cond.code ({ cls := "java/util/ArrayList", name := "size", desc := "()I" } : Jvm.MethodName) jdk_38_method_8_code (1 : Nat) (Option.some Jvm.ClassFile.FieldType.int)).before args0 about1 = true := code_word (m := ⟨13, 3⟩) (meth := k13m3) (c := k13c3) (by decide +kernel) rfl rfl rfl (by decide +kernel)
set_option maxRecDepth 65536 in
theorem w_c9 : (Jvm.Cond.code ({ cls := "com/example/tuplelift/tuplelift/service/Pipeline$Sliced", name := "accept", desc := "([Lcom/example/tuplelift/tuplelift/model/Term;Ljava/util/List;)V" } : Jvm.MethodName) prog_116_method_2_code (3 : Nat) (Option.none : Option Jvm.ClassFile.FieldType)).before args0 about1 = true := code_word (m := ⟨3, 1⟩) (meth := k3m1) (c := k3c1) (by decide +kernel) rfl rfl rfl (by decide +kernel)
set_option maxRecDepth 65536 in
theorem w_c10 : (Jvm.Cond.code ({ cls := "java/util/ArrayList", name := "add", desc := "(Ljava/lang/Object;)Z" } : Jvm.MethodName) jdk_38_method_25_code (2 : Nat) (Option.some Jvm.ClassFile.FieldType.boolean)).before args0 about1 = true := code_word (m := ⟨13, 5⟩) (meth := k13m5) (c := k13c5) (by decide +kernel) rfl rfl rfl (by decide +kernel)
set_option maxRecDepth 65536 in
theorem w_c11 : (Jvm.Cond.code ({ cls := "java/util/ArrayList", name := "add", desc := "(Ljava/lang/Object;[Ljava/lang/Object;I)V" } : Jvm.MethodName) jdk_38_method_24_code (4 : Nat) (Option.none : Option Jvm.ClassFile.FieldType)).before args0 about1 = true := code_word (m := ⟨13, 4⟩) (meth := k13m4) (c := k13c4) (by decide +kernel) rfl rfl rfl (by decide +kernel)
set_option maxRecDepth 65536 in
theorem w_c12 : (Jvm.Cond.code ({ cls := "java/util/ArrayList", name := "grow", desc := "()[Ljava/lang/Object;" } : Jvm.MethodName) jdk_38_method_7_code (1 : Nat) (Option.some (Jvm.ClassFile.FieldType.array (Jvm.ClassFile.FieldType.object "java/lang/Object")))).before args0 about1 = true := code_word (m := ⟨13, 2⟩) (meth := k13m2) (c := k13c2) (by decide +kernel) rfl rfl rfl (by decide +kernel)
set_option maxRecDepth 65536 in
theorem w_c13 : (Jvm.Cond.code ({ cls := "java/util/ArrayList", name := "grow", desc := "(I)[Ljava/lang/Object;" } : Jvm.MethodName) jdk_38_method_6_code (4 : Nat) (Option.some (Jvm.ClassFile.FieldType.array (Jvm.ClassFile.FieldType.object "java/lang/Object")))).before args0 about1 = true := code_word (m := ⟨13, 1⟩) (meth := k13m1) (c := k13c1) (by decide +kernel) rfl rfl rfl (by decide +kernel)
set_option maxRecDepth 65536 in
theorem w_c14 : (Jvm.Cond.code ({ cls := "java/lang/Math", name := "max", desc := "(II)I" } : Jvm.MethodName) jdk_29_method_65_code (2 : Nat) (Option.some Jvm.ClassFile.FieldType.int)).before args0 about1 = true := code_word (m := ⟨15, 1⟩) (meth := k15m1) (c := k15c1) (by decide +kernel) rfl rfl rfl (by decide +kernel)
def codes1 : List Jvm.Cond := [Jvm.Cond.code x code maxLocals ret, Jvm.Cond.code ({ cls := "com/example/tuplelift/tuplelift/service/Pipeline$Sliced", name := "<init>", desc := "(JJ)V" } : Jvm.MethodName) prog_116_method_1_code (5 : Nat) (Option.none : Option Jvm.ClassFile.FieldType), Jvm.Cond.code ({ cls := "java/lang/Object", name := "<init>", desc := "()V" } : Jvm.MethodName) object_method_1_code (1 : Nat) (Option.none : Option Jvm.ClassFile.FieldType), Jvm.Cond.code ({ cls := "com/example/tuplelift/tuplelift/service/Pipeline$Sliced", name := "full", desc := "()Z" } : Jvm.MethodName) prog_116_method_3_code (1 : Nat) (Option.some Jvm.ClassFile.FieldType.boolean), Jvm.Cond.code ({ cls := "java/util/ArrayList", name := "<init>", desc := "()V" } : Jvm.MethodName) jdk_38_method_2_code (1 : Nat) (Option.none : Option Jvm.ClassFile.FieldType), Jvm.Cond.code ({ cls := "java/util/AbstractList", name := "<init>", desc := "()V" } : Jvm.MethodName) jdk_39_method_1_code (1 : Nat) (Option.none : Option Jvm.ClassFile.FieldType), Jvm.Cond.code ({ cls := "java/util/AbstractCollection", name := "<init>", desc := "()V" } : Jvm.MethodName) jdk_22_method_1_code (1 : Nat) (Option.none : Option Jvm.ClassFile.FieldType), Jvm.Cond.code ({ cls := "java/lang/Math", name := "min", desc := "(JJ)J" } : Jvm.MethodName) jdk_29_method_70_code (4 : Nat) (Option.some Jvm.ClassFile.FieldType.long), Jvm.Cond.code ({ cls := "java/util/ArrayList", name := "size", desc := "()I" } : Jvm.MethodName) jdk_38_method_8_code (1 : Nat) (Option.some Jvm.ClassFile.FieldType.int), Jvm.Cond.code ({ cls := "com/example/tuplelift/tuplelift/service/Pipeline$Sliced", name := "accept", desc := "([Lcom/example/tuplelift/tuplelift/model/Term;Ljava/util/List;)V" } : Jvm.MethodName) prog_116_method_2_code (3 : Nat) (Option.none : Option Jvm.ClassFile.FieldType), Jvm.Cond.code ({ cls := "java/util/ArrayList", name := "add", desc := "(Ljava/lang/Object;)Z" } : Jvm.MethodName) jdk_38_method_25_code (2 : Nat) (Option.some Jvm.ClassFile.FieldType.boolean), Jvm.Cond.code ({ cls := "java/util/ArrayList", name := "add", desc := "(Ljava/lang/Object;[Ljava/lang/Object;I)V" } : Jvm.MethodName) jdk_38_method_24_code (4 : Nat) (Option.none : Option Jvm.ClassFile.FieldType), Jvm.Cond.code ({ cls := "java/util/ArrayList", name := "grow", desc := "()[Ljava/lang/Object;" } : Jvm.MethodName) jdk_38_method_7_code (1 : Nat) (Option.some (Jvm.ClassFile.FieldType.array (Jvm.ClassFile.FieldType.object "java/lang/Object"))), Jvm.Cond.code ({ cls := "java/util/ArrayList", name := "grow", desc := "(I)[Ljava/lang/Object;" } : Jvm.MethodName) jdk_38_method_6_code (4 : Nat) (Option.some (Jvm.ClassFile.FieldType.array (Jvm.ClassFile.FieldType.object "java/lang/Object"))), Jvm.Cond.code ({ cls := "java/lang/Math", name := "max", desc := "(II)I" } : Jvm.MethodName) jdk_29_method_65_code (2 : Nat) (Option.some Jvm.ClassFile.FieldType.int)]
set_option maxRecDepth 65536 in
theorem codes_eq : words1.filter isCode = codes1 := rfl
theorem w_codes : ∀ c ∈ words1.filter isCode, c.before args0 about1 = true := by
  rw [codes_eq]
  intro c hc
  simp only [codes1, List.mem_cons, List.not_mem_nil, or_false] at hc
  rcases hc with rfl | rfl | rfl | rfl | rfl | rfl | rfl | rfl | rfl | rfl | rfl | rfl | rfl | rfl | rfl
  · exact w_c0
  · exact w_c1
  · exact w_c2
  · exact w_c3
  · exact w_c4
  · exact w_c5
  · exact w_c6
  · exact w_c7
  · exact w_c8
  · exact w_c9
  · exact w_c10
  · exact w_c11
  · exact w_c12
  · exact w_c13
  · exact w_c14
set_option maxRecDepth 65536 in
theorem w_t1 : (words1.take 24).all (fun c => isCode c || c.before args0 about1) = true := by decide +kernel
set_option maxRecDepth 65536 in
theorem w_t2 : ((words1.drop 24).take 24).all (fun c => isCode c || c.before args0 about1) = true := by decide +kernel
set_option maxRecDepth 65536 in
theorem w_t3 : (((words1.drop 24).drop 24).take 24).all (fun c => isCode c || c.before args0 about1) = true := by decide +kernel
set_option maxRecDepth 65536 in
theorem w_t4 : ((((words1.drop 24).drop 24).drop 24).take 24).all (fun c => isCode c || c.before args0 about1) = true := by decide +kernel
set_option maxRecDepth 65536 in
theorem w_t5 : ((((words1.drop 24).drop 24).drop 24).drop 24).all (fun c => isCode c || c.before args0 about1) = true := by decide +kernel
theorem w_tables : (allAtoms (Jvm.Cond.code x code maxLocals ret :: tables_1)).before args0 about1 = true := by
  rw [allAtoms_all]
  show words1.all (fun c => c.before args0 about1) = true
  refine all_split ?_ w_codes
  rw [← List.take_append_drop 24 words1, List.all_append, w_t1, ← List.take_append_drop 24 (words1.drop 24), List.all_append, w_t2, ← List.take_append_drop 24 ((words1.drop 24).drop 24), List.all_append, w_t3, ← List.take_append_drop 24 (((words1.drop 24).drop 24).drop 24), List.all_append, w_t4, w_t5]
  rfl
set_option maxRecDepth 65536 in
theorem w_rest : rest_1_c.before args0 about1 = true := by decide +kernel
set_option maxRecDepth 65536 in
theorem w_case : (Jvm.Cond.and given_1 narrow_1).before args0 about1 = true := by decide +kernel
theorem w_applies : (headSpec (Jvm.Cond.code x code maxLocals ret :: tables_1) room_1).applies x e0.platform about1 = true :=
  (Spec.applies_iff w_frames).mpr ⟨w_running, w_runnable, w_alone, w_named, w_hears, w_ripe, w_room, w_tables⟩
theorem atStart : AtStart classFile x code maxLocals ret World_1 tables_1 room_1 Calls_1 rest_1 Pre_1 launch0 p0 e0 about1 theMethod args0 below0 :=
  ⟨lists_1, trivial, launch0.admits_env _ _ _, launch0.least_env, fairChoices_fair.cas, fairChoices_fair.clock, w_frames, w_args, w_heap, w_applies, trivial, w_rest, w_case⟩
end start1
theorem witness_1 : WitnessClaimed_1 := ⟨start1.p0, start1.e0, start1.about1, start1.theMethod, start1.args0, start1.below0, start1.atStart⟩
end Jvm.Pilot.@@N@@
