import JvmDerived
import JvmDerived.Pilot.@@N@@Statement
import JvmDerived.Pilot.@@N@@Code
set_option linter.unusedVariables false
set_option linter.unusedSimpArgs false
@@BLOCK:NumsL.lean.txt@@
namespace Jvm.Pilot.@@N@@
open Jvm Jvm.ClassFile Sem Op Lib Jvm.Free Jvm.Stand Jvm.LawKit Jvm.RoadKit Bundle Jvm.Pilot.@@N@@.Jvm.D

section Own
variable {p : Program} {l : Launch} {e : Env} {R : Room} {s : State} {m : MethodId} {args : Array Value} {below : List Frame} {meth : Method} {c : Code} {T : State} {locs : List Loc} {cells slots : Nat} {Z : State} {a0 : Array Value} {h : Heap} {Q : Option Value → Heap → List Loc → Prop} {kc kn : Nat}
/-- from U the body comes to its end, with Q -/
def own_Fin (p : Program) (e : Env) (below : List Frame) (s : State) (Q : Option Value → Heap → List Loc → Prop) (kc kn : Nat) (U : State) : Prop :=
  ∃ t o, Steps p.tables e below U t ∧ t.status = .running ∧ Ended t below o ∧ ∃ v L, o = .returned v ∧ Q v t.heap L ∧ FrameEnd s o t L kc kn
theorem own_go {U U' : State} (g : ∀ t, Steps p.tables e below U' t → Steps p.tables e below U t) (H : own_Fin p e below s Q kc kn U') : own_Fin p e below s Q kc kn U := by
  obtain ⟨t, o, h1, h2⟩ := H
  exact ⟨t, o, g t h1, h2⟩
/-- what a body that writes nothing and returns w leaves -/
def own_P (w : Option Value) (h0 : Heap) (n0 : Nat) (v : Option Value) (h : Heap) (L : List Loc) : Prop := v = w ∧ Fr n0 L ∧ h = h0
/-- a body's contract: called with as' on the heap h, it ends with Q -/
def own_Met (l : Launch) (y : MethodName) (bytes : ByteArray) (maxL : Nat) (ret : Option FieldType) (rm : Room) (Z : State) (ws : List Jvm.Cond) (as' : Array Value) (h : Heap) (Q : Option Value → Heap → List Loc → Prop) : Prop :=
  MetFree l y (head1 (Jvm.Cond.code y bytes maxL ret :: ws) rm) (fun a U => a = as' ∧ Z.Warmed39 U.vm ∧ U.heap = h) (fun _ _ _ _ _ => True) (fun _ U o U' => ∃ v L, o = .returned v ∧ Q v U'.heap L ∧ FrameEnd U o U' L rm.cells rm.slots)
theorem own_enter {y : MethodName} {bytes : ByteArray} {maxL : Nat} {ret : Option FieldType} {rm : Room} {ws : List Jvm.Cond} {as' : Array Value} (hp : plainFor y = true)
    (H : ∀ (p : Program) (e : Env) (s : State) (m : MethodId) (below : List Frame) (meth : Method) (c : Code) (s₁ : State), p.tables.exec = Jvm.exec → c.code = bytes → c.maxLocals = maxL → s.vm.findClass y.cls = some m.cls → meth.name = y.name → meth.sig.returnType = ret → meth.locks = false → Z.Warmed39 s.vm → s₁.heap = h → Stand p l e rm s m as' below meth c s₁ [] 0 0 → own_Fin p e below s Q rm.cells rm.slots (s₁.setTop (entryFrame m as' maxL))) :
    own_Met l y bytes maxL ret rm Z ws as' h Q := by
  unfold own_Met
  refine MetFree.of_bodySF hp hisR ?_
  intro p e s m args below meth c s₁ Bd hml0 hP hK
  obtain ⟨rfl, hZ, hh⟩ := hP
  exact H p e s m below meth c s₁ Bd.exec Bd.bytes hml0 (findClass_of_methodNamed Bd.named) (name_of_methodNamed Bd.named Bd.method).1 Bd.returns (BodyLoose.notSynchronized Bd) hZ (by rw [← hh, Bd.state]; rfl) (Stand.of_body Bd)
theorem own_ret (X : Stand p l e R s m args below meth c T locs cells slots) (hx : p.tables.exec = Jvm.exec) (hlk : meth.locks = false) {pc : Nat} {Ls : Array Slot} {w : Value} {t : FieldType} {i : Instr} {rest : List Value} (hret : meth.sig.returnType = some t) (hn : narrow t w = w)
    (hi : (i = .ireturn ∧ (t = .int ∨ t = .boolean ∨ t = .byte ∨ t = .char ∨ t = .short) ∧ ∃ z, w = .int z) ∨ (i = .lreturn ∧ t = .long ∧ ∃ z, w = .long z) ∨ (i = .dreturn ∧ t = .double ∧ ∃ z, w = .double z) ∨ (i = .freturn ∧ t = .float ∧ ∃ z, w = .float z) ∨ (i = .areturn ∧ t.isReference = true ∧ w.isRef = true))
    (hd : decode c.code pc = .ok (i, 1)) (hk : cells ≤ kc) (hs : slots ≤ kn) (hq : Q (some w) T.heap locs) : own_Fin p e below s Q kc kn (T.setTop (mkF m pc Ls (w :: rest))) := by
  obtain ⟨fs, hr, hrun, hended, hW, hsame⟩ := X.leave (v := some w) (fun h => by rw [hret] at h; cases h) hlk
  exact ⟨_, _, retOut X hx hret hn hi hd hr, hrun, hended, _, _, rfl, hq, ⟨_, rfl⟩, hW, hsame.mono hk hs⟩
theorem own_retI (X : Stand p l e R s m args below meth c T locs cells slots) (hx : p.tables.exec = Jvm.exec) (hlk : meth.locks = false) {pc : Nat} {Ls : Array Slot} {z : Int32} {rest : List Value} (hret : meth.sig.returnType = some .int)
    (hd : decode c.code pc = .ok (.ireturn, 1)) (hk : cells ≤ kc) (hs : slots ≤ kn) (hq : Q (some (.int z)) T.heap locs) : own_Fin p e below s Q kc kn (T.setTop (mkF m pc Ls (.int z :: rest))) :=
  own_ret X hx hlk hret rfl (Or.inl ⟨rfl, Or.inl rfl, _, rfl⟩) hd hk hs hq
theorem own_retZ (X : Stand p l e R s m args below meth c T locs cells slots) (hx : p.tables.exec = Jvm.exec) (hlk : meth.locks = false) {pc : Nat} {Ls : Array Slot} {z : Int32} {rest : List Value} (hret : meth.sig.returnType = some .boolean) (hn : narrow .boolean (.int z) = .int z)
    (hd : decode c.code pc = .ok (.ireturn, 1)) (hk : cells ≤ kc) (hs : slots ≤ kn) (hq : Q (some (.int z)) T.heap locs) : own_Fin p e below s Q kc kn (T.setTop (mkF m pc Ls (.int z :: rest))) :=
  own_ret X hx hlk hret hn (Or.inl ⟨rfl, Or.inr (Or.inl rfl), _, rfl⟩) hd hk hs hq
theorem own_retJ (X : Stand p l e R s m args below meth c T locs cells slots) (hx : p.tables.exec = Jvm.exec) (hlk : meth.locks = false) {pc : Nat} {Ls : Array Slot} {z : Int64} {rest : List Value} (hret : meth.sig.returnType = some .long)
    (hd : decode c.code pc = .ok (.lreturn, 1)) (hk : cells ≤ kc) (hs : slots ≤ kn) (hq : Q (some (.long z)) T.heap locs) : own_Fin p e below s Q kc kn (T.setTop (mkF m pc Ls (.long z :: rest))) :=
  own_ret X hx hlk hret rfl (Or.inr (Or.inl ⟨rfl, rfl, _, rfl⟩)) hd hk hs hq
theorem own_retA (X : Stand p l e R s m args below meth c T locs cells slots) (hx : p.tables.exec = Jvm.exec) (hlk : meth.locks = false) {pc : Nat} {Ls : Array Slot} {z : Addr} {t : FieldType} {rest : List Value} (hret : meth.sig.returnType = some t) (ht : t.isReference = true) (hn : narrow t (.ref z) = .ref z)
    (hd : decode c.code pc = .ok (.areturn, 1)) (hk : cells ≤ kc) (hs : slots ≤ kn) (hq : Q (some (.ref z)) T.heap locs) : own_Fin p e below s Q kc kn (T.setTop (mkF m pc Ls (.ref z :: rest))) :=
  own_ret X hx hlk hret hn (Or.inr (Or.inr (Or.inr (Or.inr ⟨rfl, ht, rfl⟩)))) hd hk hs hq
theorem own_retV (X : Stand p l e R s m args below meth c T locs cells slots) (hx : p.tables.exec = Jvm.exec) (hlk : meth.locks = false) {pc : Nat} {Ls : Array Slot} (hret : meth.sig.returnType = none)
    (hd : decode c.code pc = .ok (.return_, 1)) (hk : cells ≤ kc) (hs : slots ≤ kn) (hq : Q none T.heap locs) : own_Fin p e below s Q kc kn (T.setTop (mkF m pc Ls [])) := by
  obtain ⟨fs, hr, hrun, hended, hW, hsame⟩ := X.leave (v := none) (fun _ => rfl) hlk
  exact ⟨_, _, X.returnOut hx hret hd hr, hrun, hended, _, _, rfl, hq, ⟨_, rfl⟩, hW, hsame.mono hk hs⟩
theorem own_callS (X : Stand p l e R s m args below meth c T locs cells slots) (hx : p.tables.exec = Jvm.exec) (hZ : Z.Warmed39 s.vm) {own : String} {index : Nat} {y : MethodName} {bytes : ByteArray} {maxL : Nat} {ret : Option FieldType} {rm : Room} {as' : Array Value} {Q' : Option Value → Heap → List Loc → Prop}
    (hown : s.vm.findClass own = some m.cls) (w1 : (Jvm.Cond.methodLink own index y).before a0 Z = true) (w2 : (Jvm.Cond.static y).before a0 Z = true) (w3 : (Jvm.Cond.initialized y.cls).before a0 Z = true) (w4 : (Jvm.Cond.code y bytes maxL ret).before a0 Z = true) (hy : y.cls ≠ "java/lang/invoke/MethodHandle" ∧ y.cls ≠ "java/lang/invoke/VarHandle")
    (hM : own_Met l y bytes maxL ret rm Z [] as' h Q') (eT : T.heap = h) {pc : Nat} {Ls : Array Slot} {st argsL rest : List Value} (hst : st = argsL.reverse ++ rest) (has : argsL.toArray = as') (hsize : Ls.size = c.maxLocals) (hlen : ∀ sig, parseMethodDescriptor y.desc = some sig → argsL.length = sig.parameters.length)
    (hd : decode c.code pc = .ok (.invokestatic index, 3)) {W : Nat} (hW : (rest.map fun v => v.category).sum ≤ W) (hf : rm.frames + 1 ≤ R.frames) (hl : W + (maxL + 11) + rm.locals ≤ R.locals) (hc : cells + rm.cells ≤ R.cells) (hs : slots + rm.slots ≤ R.slots)
    (H : ∀ (v : Option Value) (T' : State) (L : List Loc), Stand p l e R s m args below meth c T' (locs ++ L) (cells + rm.cells) (slots + rm.slots) → Q' v T'.heap L → own_Fin p e below s Q kc kn (T'.setTop (mkF m (pc + 3) Ls (v.toList ++ rest)))) :
    own_Fin p e below s Q kc kn (T.setTop (mkF m pc Ls st)) := by
  subst hst
  obtain ⟨v, _, ⟨T', L', k', n'⟩, -, X', ⟨Lc, hQ, l1, y1, z1⟩, st⟩ := Jvm.LawKit.callS X hx (y := y) hown (mvT hZ w1) (mvT hZ w2) (mvT hZ w3) (mvT hZ w4) hy (backOf (W := W) hM hZ w4 w3 hf hl) (g := mkF m pc Ls (argsL.reverse ++ rest)) rfl hsize hlen rfl (by show 2 * 0 + _ ≤ _; omega) hd (fun _ _ => ⟨has, eT, hc, hs⟩)
  dsimp only [Pt.U, Pt.locs, Pt.cells, Pt.slots] at X' l1 y1 z1 st hQ
  subst l1 y1 z1
  exact own_go st (H _ _ _ X' hQ)
theorem own_callV (X : Stand p l e R s m args below meth c T locs cells slots) (hx : p.tables.exec = Jvm.exec) (hZ : Z.Warmed39 s.vm) {own C : String} {index : Nat} {y z : MethodName} {bytes : ByteArray} {maxL : Nat} {ret : Option FieldType} {rm : Room} {as' : Array Value} {Q' : Option Value → Heap → List Loc → Prop}
    (hown : s.vm.findClass own = some m.cls) (w1 : (Jvm.Cond.methodLink own index y).before a0 Z = true) (w2 : (Jvm.Cond.declares y).before a0 Z = true) (nf : NotFace s y) (w3 : (Jvm.Cond.selects C y z).before a0 Z = true) (w4 : (Jvm.Cond.instanceMethod z).before a0 Z = true) (w5 : (Jvm.Cond.code z bytes maxL ret).before a0 Z = true) (w6 : (Jvm.Cond.initialized z.cls).before a0 Z = true) (hy : y.cls ≠ "java/lang/invoke/MethodHandle" ∧ y.cls ≠ "java/lang/invoke/VarHandle")
    (hM : own_Met l z bytes maxL ret rm Z [] as' h Q') (eT : T.heap = h) {a : Addr} (E : Exa Z h a C) {pc : Nat} {Ls : Array Slot} {st argsL rest : List Value} (hst : st = argsL.reverse ++ .ref a :: rest) (has : (.ref a :: argsL).toArray = as') (hsize : Ls.size = c.maxLocals) (hlen : ∀ sig, parseMethodDescriptor y.desc = some sig → argsL.length = sig.parameters.length)
    (hd : decode c.code pc = .ok (.invokevirtual index, 3)) {W : Nat} (hW : (rest.map fun v => v.category).sum ≤ W) (hf : rm.frames + 1 ≤ R.frames) (hl : W + (maxL + 11) + rm.locals ≤ R.locals) (hc : cells + rm.cells ≤ R.cells) (hs : slots + rm.slots ≤ R.slots)
    (H : ∀ (v : Option Value) (T' : State) (L : List Loc), Stand p l e R s m args below meth c T' (locs ++ L) (cells + rm.cells) (slots + rm.slots) → Q' v T'.heap L → own_Fin p e below s Q kc kn (T'.setTop (mkF m (pc + 3) Ls (v.toList ++ rest)))) :
    own_Fin p e below s Q kc kn (T.setTop (mkF m pc Ls st)) := by
  subst hst
  obtain ⟨cB, kB, q1, q2, q3⟩ := isOf (T := T) hZ eT E
  obtain ⟨v, _, ⟨T', L', k', n'⟩, -, X', ⟨Lc, hQ, l1, y1, z1⟩, st⟩ := X.virtualBack hx (y := y) (z := z) hown (mvT hZ w1) (mvT hZ w2) nf (mvT hZ w3) (mvT hZ w4) hy (backOf (W := W) hM hZ w5 w6 hf hl) q1 q3 (g := mkF m pc Ls (argsL.reverse ++ .ref a :: rest)) rfl hsize (Steps.refl _) hlen rfl (by show 2 * 0 + _ ≤ _; omega) hd (fun _ _ => ⟨has, eT, hc, hs⟩)
  dsimp only [Pt.U, Pt.locs, Pt.cells, Pt.slots] at X' l1 y1 z1 st hQ
  subst l1 y1 z1
  exact own_go (fun _ k => st.trans k) (H _ _ _ X' hQ)
theorem own_callN (X : Stand p l e R s m args below meth c T locs cells slots) (hx : p.tables.exec = Jvm.exec) (hZ : Z.Warmed39 s.vm) {own : String} {index : Nat} {y : MethodName} {bytes : ByteArray} {maxL : Nat} {rm : Room} {as' : Array Value} {Q' : Option Value → Heap → List Loc → Prop} (hy1 : y.name = "<init>")
    (hown : s.vm.findClass own = some m.cls) (w1 : (Jvm.Cond.methodLink own index y).before a0 Z = true) (w2 : (Jvm.Cond.instanceMethod y).before a0 Z = true) (w3 : (Jvm.Cond.initialized y.cls).before a0 Z = true) (w4 : (Jvm.Cond.code y bytes maxL none).before a0 Z = true) (hy : y.cls ≠ "java/lang/invoke/MethodHandle" ∧ y.cls ≠ "java/lang/invoke/VarHandle")
    (hM : own_Met l y bytes maxL none rm Z [] as' h Q') (eT : T.heap = h) {a : Addr} {pc : Nat} {Ls : Array Slot} {st argsL rest : List Value} (hst : st = argsL.reverse ++ .ref a :: rest) (has : (.ref a :: argsL).toArray = as') (hsize : Ls.size = c.maxLocals) (hlen : ∀ sig, parseMethodDescriptor y.desc = some sig → argsL.length = sig.parameters.length)
    (hd : decode c.code pc = .ok (.invokespecial index, 3)) {W : Nat} (hW : (rest.map fun v => v.category).sum ≤ W) (hf : rm.frames + 1 ≤ R.frames) (hl : W + (maxL + 11) + rm.locals ≤ R.locals) (hc : cells + rm.cells ≤ R.cells) (hs : slots + rm.slots ≤ R.slots)
    (H : ∀ (v : Option Value) (T' : State) (L : List Loc), Stand p l e R s m args below meth c T' (locs ++ L) (cells + rm.cells) (slots + rm.slots) → Q' v T'.heap L → own_Fin p e below s Q kc kn (T'.setTop (mkF m (pc + 3) Ls (v.toList ++ rest)))) :
    own_Fin p e below s Q kc kn (T.setTop (mkF m pc Ls st)) := by
  subst hst
  obtain ⟨v, _, ⟨T', L', k', n'⟩, -, X', ⟨Lc, hQ, l1, y1, z1⟩, st⟩ := X.specialBack hx (y := y) hy1 hown (mvT hZ w1) (mvT hZ w2) (mvT hZ w4) hy (backOf (W := W) hM hZ w4 w3 hf hl) (g := mkF m pc Ls (argsL.reverse ++ .ref a :: rest)) rfl hsize (Steps.refl _) (a := a) hlen rfl (by show 2 * 0 + _ ≤ _; omega) hd (fun _ _ => ⟨has, eT, hc, hs⟩)
  dsimp only [Pt.U, Pt.locs, Pt.cells, Pt.slots] at X' l1 y1 z1 st hQ
  subst l1 y1 z1
  exact own_go (fun _ k => st.trans k) (H _ _ _ X' hQ)
theorem own_initO (X : Stand p l e R s m args below meth c T locs cells slots) (hx : p.tables.exec = Jvm.exec) (hZ : Z.Warmed39 s.vm) {own : String} {idx : Nat} (hown : s.vm.findClass own = some m.cls) (w1 : (Jvm.Cond.methodLink own idx Lib.objectInit).before a0 Z = true) (w2 : (Jvm.Cond.instanceMethod Lib.objectInit).before a0 Z = true)
    (w3 : (Jvm.Cond.code Lib.objectInit ⟨#[0xb1]⟩ 1 none).before a0 Z = true) (eT : T.heap = h) {pc : Nat} {Ls : Array Slot} (hsize : Ls.size = c.maxLocals) {a : Addr} {rest : List Value} (hd : decode c.code pc = .ok (.invokespecial idx, 3))
    (hf : 1 ≤ R.frames) {W : Nat} (hW : (rest.map fun v => v.category).sum ≤ W) (hl : W + 12 ≤ R.locals)
    (H : ∀ (T' : State), Stand p l e R s m args below meth c T' locs cells slots → T'.heap = h → own_Fin p e below s Q kc kn (T'.setTop (mkF m (pc + 3) Ls rest))) :
    own_Fin p e below s Q kc kn (T.setTop (mkF m pc Ls (.ref a :: rest))) := by
  obtain ⟨T', X', e', st⟩ := initO X hx hZ hown w1 w2 w3 eT (g := mkF m pc Ls (.ref a :: rest)) rfl hsize rfl hd hf (W := W) (by show 2 * 0 + _ ≤ _; omega) hl
  exact own_go st (H _ X' e')
theorem own_getF (X : Stand p l e R s m args below meth c T locs cells slots) (hx : p.tables.exec = Jvm.exec) (hZ : Z.Warmed39 s.vm) {own R0 O n d host : String} {index : Nat} (hown : s.vm.findClass own = some m.cls) (w : (Jvm.Cond.fieldLink own index R0 n d).before a0 Z = true ∨ (Jvm.Cond.fieldLinkNest own index R0 n d host).before a0 Z = true) (via : Via Z R0 O n d)
    (eT : T.heap = h) {a : Addr} {v : Value} (F : Fld Z h a O n d v) {pc : Nat} {Ls : Array Slot} {rest : List Value} (hd : decode c.code pc = .ok (.getfield index, 3))
    (H : ∀ (T' : State), Stand p l e R s m args below meth c T' locs cells slots → T'.heap = h → own_Fin p e below s Q kc kn (T'.setTop (mkF m (pc + 3) Ls (v :: rest)))) :
    own_Fin p e below s Q kc kn (T.setTop (mkF m pc Ls (.ref a :: rest))) := by
  obtain ⟨T', X', e', st⟩ := getF X hx hZ hown w via eT F (g := mkF m pc Ls (.ref a :: rest)) rfl rfl hd
  exact own_go st (H _ X' e')
theorem own_getS (X : Stand p l e R s m args below meth c T locs cells slots) (hx : p.tables.exec = Jvm.exec) (hZ : Z.Warmed39 s.vm) {own R0 O n d host : String} {index : Nat} (hown : s.vm.findClass own = some m.cls) (w : (Jvm.Cond.fieldLink own index R0 n d).before a0 Z = true ∨ (Jvm.Cond.fieldLinkNest own index R0 n d host).before a0 Z = true) (via : Via Z R0 O n d)
    (eT : T.heap = h) {v : Value} (F : Sta Z h O n d v) {pc : Nat} {Ls : Array Slot} {rest : List Value} (hd : decode c.code pc = .ok (.getstatic index, 3))
    (H : ∀ (T' : State), Stand p l e R s m args below meth c T' locs cells slots → T'.heap = h → own_Fin p e below s Q kc kn (T'.setTop (mkF m (pc + 3) Ls (v :: rest)))) :
    own_Fin p e below s Q kc kn (T.setTop (mkF m pc Ls rest)) := by
  obtain ⟨T', X', e', st⟩ := getS2 X hx hZ hown w via eT F (g := mkF m pc Ls rest) rfl hd
  exact own_go st (H _ X' e')
theorem own_putF (X : Stand p l e R s m args below meth c T locs cells slots) (hx : p.tables.exec = Jvm.exec) (hZ : Z.Warmed39 s.vm) {own R0 O n d host C : String} {index kk : Nat} {ty : FieldType} (hown : s.vm.findClass own = some m.cls) (w : (Jvm.Cond.fieldLink own index R0 n d).before a0 Z = true ∨ (Jvm.Cond.fieldLinkNest own index R0 n d host).before a0 Z = true) (via : Via Z R0 O n d)
    (eT : T.heap = h) {a : Addr} {v old : Value} (F : Fld Z h a O n d old) (E : Exa Z h a C) (L : (Jvm.Cond.lays C O n d).before a0 Z = true ∨ ((Jvm.Cond.laysFinal C O n d).before a0 Z = true ∧ own = O ∧ meth.name = "<init>")) (wi : (Jvm.Cond.instantiable C kk).before a0 Z = true)
    (hty : parseFieldDescriptor d = some ty) (hn : narrow ty v = v) (hf : fits ty v = true) {pc : Nat} {Ls : Array Slot} {rest : List Value} (hd : decode c.code pc = .ok (.putfield index, 3))
    (H : ∀ (T' : State) (h' : Heap), Stand p l e R s m args below meth c T' (locs ++ [⟨a, Jvm.RoadKit.slotOf Z O n d⟩]) cells slots → T'.heap = h' → Wr h h' a (Jvm.RoadKit.slotOf Z O n d) v → own_Fin p e below s Q kc kn (T'.setTop (mkF m (pc + 3) Ls rest))) :
    own_Fin p e below s Q kc kn (T.setTop (mkF m pc Ls (v :: .ref a :: rest))) := by
  obtain ⟨T', h', X', e', W', st⟩ := putF X hx hZ hown w via eT F E L wi hty hn hf (g := mkF m pc Ls (v :: .ref a :: rest)) rfl rfl hd
  exact own_go st (H _ _ X' e' W')
theorem own_new (X : Stand p l e R s m args below meth c T locs cells slots) (hx : p.tables.exec = Jvm.exec) (hZ : Z.Warmed39 s.vm) {own C : String} {index n : Nat} (hown : s.vm.findClass own = some m.cls) (w : (Jvm.Cond.classLink own index C).before a0 Z = true) (wi : (Jvm.Cond.instantiable C n).before a0 Z = true) (wz : (Jvm.Cond.initialized C).before a0 Z = true) (eT : T.heap = h)
    {pc : Nat} {Ls : Array Slot} {rest : List Value} (hd : decode c.code pc = .ok (.new index, 3)) (hc : cells + 1 ≤ R.cells) (hl : slots + n ≤ R.slots)
    (H : ∀ (T' : State) (h' : Heap) (a : Addr), a = h.size → Stand p l e R s m args below meth c T' locs (cells + 1) (slots + n) → T'.heap = h' → Ext h h' → Exa Z h' a C → (∀ {O nm d : String} {ty : FieldType}, Laid Z a0 C O nm d → parseFieldDescriptor d = some ty → Fld Z h' a O nm d (defaultValue ty)) → own_Fin p e below s Q kc kn (T'.setTop (mkF m (pc + 3) Ls (.ref a :: rest)))) :
    own_Fin p e below s Q kc kn (T.setTop (mkF m pc Ls rest)) := by
  obtain ⟨T', h', X', e', E', A', D', -, st⟩ := newO X hx hZ hown w wi wz eT (g := mkF m pc Ls rest) rfl hd hc hl
  exact own_go st (H _ _ _ rfl X' e' E' A' D')
theorem own_callU (X : Stand p l e R s m args below meth c T locs cells slots) (hx : p.tables.exec = Jvm.exec) (hZ : Z.Warmed39 s.vm) {own C owner : String} {index : Nat} {y z : MethodName} {bytes : ByteArray} {maxL : Nat} {ret : Option FieldType} {rm : Room} {as' : Array Value} {Q' : Option Value → Heap → List Loc → Prop}
    (hown : s.vm.findClass own = some m.cls) (w1 : (Jvm.Cond.methodLink own index y).before a0 Z = true) (w2 : (Jvm.Cond.sameMethod y.cls owner y.name y.desc).before a0 Z = true) (w2' : (Jvm.Cond.declares ⟨owner, y.name, y.desc⟩).before a0 Z = true) (hy : owner ≠ "java/lang/invoke/MethodHandle" ∧ owner ≠ "java/lang/invoke/VarHandle") (w3 : (Jvm.Cond.selects C y z).before a0 Z = true) (w4 : (Jvm.Cond.instanceMethod z).before a0 Z = true) (w5 : (Jvm.Cond.code z bytes maxL ret).before a0 Z = true) (w6 : (Jvm.Cond.initialized z.cls).before a0 Z = true)
    (hM : own_Met l z bytes maxL ret rm Z [] as' h Q') (eT : T.heap = h) {a : Addr} (E : Exa Z h a C) {pc : Nat} {Ls : Array Slot} {st argsL rest : List Value} (hst : st = argsL.reverse ++ .ref a :: rest) (has : (.ref a :: argsL).toArray = as') (hsize : Ls.size = c.maxLocals) (hlen : ∀ sig, parseMethodDescriptor y.desc = some sig → argsL.length = sig.parameters.length)
    (hd : decode c.code pc = .ok (.invokevirtual index, 3)) {W : Nat} (hW : (rest.map fun v => v.category).sum ≤ W) (hf : rm.frames + 1 ≤ R.frames) (hl : W + (maxL + 11) + rm.locals ≤ R.locals) (hc : cells + rm.cells ≤ R.cells) (hs : slots + rm.slots ≤ R.slots)
    (H : ∀ (v : Option Value) (T' : State) (L : List Loc), Stand p l e R s m args below meth c T' (locs ++ L) (cells + rm.cells) (slots + rm.slots) → Q' v T'.heap L → own_Fin p e below s Q kc kn (T'.setTop (mkF m (pc + 3) Ls (v.toList ++ rest)))) :
    own_Fin p e below s Q kc kn (T.setTop (mkF m pc Ls st)) := by
  subst hst
  obtain ⟨cB, kB, q1, q2, q3⟩ := isOf (T := T) hZ eT E
  obtain ⟨v, _, ⟨T', L', k', n'⟩, -, X', ⟨Lc, hQ, l1, y1, z1⟩, st⟩ := X.virtualBackUp hx (x := y) (y := z) hown (mvT hZ w1) (mvT hZ w2) (mvT hZ w2') hy (mvT hZ w3) (mvT hZ w4) (backOf (W := W) hM hZ w5 w6 hf hl) q1 q3 (g := mkF m pc Ls (argsL.reverse ++ .ref a :: rest)) rfl hsize (Steps.refl _) hlen rfl (by show 2 * 0 + _ ≤ _; omega) hd (fun _ _ => ⟨has, eT, hc, hs⟩)
  dsimp only [Pt.U, Pt.locs, Pt.cells, Pt.slots] at X' l1 y1 z1 st hQ
  subst l1 y1 z1
  exact own_go (fun _ k => st.trans k) (H _ _ _ X' hQ)
theorem own_lswHit (X : Stand p l e R s m args below meth c T locs cells slots) (hx : p.tables.exec = Jvm.exec) {pc pc' : Nat} {Ls : Array Slot} {k : Int32} {rest : List Value} {default : Int} {pairs : Array (Int × Int)} {len : Nat} (hd : decode c.code pc = .ok (.lookupswitch default pairs, len))
    (hsorted : (pairs.toList.zip (pairs.toList.drop 1)).all (fun (a, next) => a.1 < next.1) = true) {a off : Int} (hfind : pairs.find? (·.1 == k.toInt) = some (a, off)) (hoff : 0 ≤ (pc : Int) + off) (hp : ((pc : Int) + off).toNat = pc')
    (H : own_Fin p e below s Q kc kn (T.setTop (mkF m pc' Ls rest))) : own_Fin p e below s Q kc kn (T.setTop (mkF m pc Ls (.int k :: rest))) := by
  subst hp
  exact own_go (fun t q => X.lookupswitchHit hx (g := mkF m pc Ls (.int k :: rest)) rfl rfl hd hsorted hfind hoff t q) H
theorem own_lswMiss (X : Stand p l e R s m args below meth c T locs cells slots) (hx : p.tables.exec = Jvm.exec) {pc pc' : Nat} {Ls : Array Slot} {k : Int32} {rest : List Value} {default : Int} {pairs : Array (Int × Int)} {len : Nat} (hd : decode c.code pc = .ok (.lookupswitch default pairs, len))
    (hsorted : (pairs.toList.zip (pairs.toList.drop 1)).all (fun (a, next) => a.1 < next.1) = true) (hfind : ∀ q ∈ pairs.toList, q.1 ≠ k.toInt) (hoff : 0 ≤ (pc : Int) + default) (hp : ((pc : Int) + default).toNat = pc')
    (H : own_Fin p e below s Q kc kn (T.setTop (mkF m pc' Ls rest))) : own_Fin p e below s Q kc kn (T.setTop (mkF m pc Ls (.int k :: rest))) := by
  subst hp
  exact own_go (fun t q => X.lookupswitchMiss hx (g := mkF m pc Ls (.int k :: rest)) rfl rfl hd hsorted (find_miss hfind) hoff t q) H
theorem own_castY (X : Stand p l e R s m args below meth c T locs cells slots) (hx : p.tables.exec = Jvm.exec) (hZ : Z.Warmed39 s.vm) {own K : String} {index : Nat} (hown : s.vm.findClass own = some m.cls) (w : (Jvm.Cond.classLink own index K).before a0 Z = true) (eT : T.heap = h) {a : Addr} (F : Ins Z h a K true)
    {pc : Nat} {Ls : Array Slot} {rest : List Value} (hd : decode c.code pc = .ok (.checkcast index, 3))
    (H : ∀ (T' : State), Stand p l e R s m args below meth c T' locs cells slots → T'.heap = h → own_Fin p e below s Q kc kn (T'.setTop (mkF m (pc + 3) Ls (.ref a :: rest)))) :
    own_Fin p e below s Q kc kn (T.setTop (mkF m pc Ls (.ref a :: rest))) := by
  obtain ⟨T', X', e', st⟩ := castY X hx hZ hown w eT F (g := mkF m pc Ls (.ref a :: rest)) rfl rfl hd
  exact own_go st (H _ X' e')
theorem own_Sta_keep0 {C n d : String} {v : Value} {h h' : Heap} (F : Sta Z h C n d v) (K : Keep h h' []) : Sta Z h' C n d v := by
  obtain ⟨cf, i, k, f, st, cell, h1, h2, h3, h4, h5, r⟩ := F
  exact ⟨cf, i, k, f, st, cell, h1, h2, h3, h4, K.2.1 _ _ h5 nin0, r⟩
theorem own_Arr_keep0 {a : Addr} {cl : Cell} {ty : FieldType} {h h' : Heap} (F : Arr Z h a cl ty) (K : Keep h h' []) : Arr Z h' a cl ty := ⟨K.2.1 _ _ F.1 nin0, F.2⟩
theorem own_neI {k z : Int32} {n : Int} (hz : z.toInt = n) (q : ¬ k = z) : n ≠ k.toInt := fun e => q (Int32.toInt_inj.mp (by rw [hz]; exact e.symm))
theorem own_fldI {args : Array Value} {t : Term} {O nm dd : String} {v : Int32} {a : Addr} (q : (Jvm.Cond.eq (.field t O nm dd) (.int v)).value args Z none Z [] = some true) (ev : t.eval args Z none [] Z = some (.ref a)) : Fld Z Z.heap a O nm dd (.int v) := by
  refine Fld.start ?_
  have e1 := fld_at (C := O) (n := nm) (dd := dd) ev
  simp only [Cond.value, e1] at q
  cases hf : Z.fieldOf? a O nm dd with
  | none => simp [hf] at q
  | some x => cases x <;> simp [hf, Term.eval] at q ⊢; exact q
theorem own_fldR {args : Array Value} {t u : Term} {O nm dd : String} {a b : Addr} (q : (Jvm.Cond.eq (.field t O nm dd) u).value args Z none Z [] = some true) (ev : t.eval args Z none [] Z = some (.ref a)) (eu : u.eval args Z none [] Z = some (.ref b)) : Fld Z Z.heap a O nm dd (.ref b) := by
  refine Fld.start ?_
  have e1 := fld_at (C := O) (n := nm) (dd := dd) ev
  simp only [Cond.value, e1, eu] at q
  cases hf : Z.fieldOf? a O nm dd with
  | none => simp [hf] at q
  | some x => cases x <;> simp [hf] at q ⊢; exact q
end Own

section OwnArr
variable {p : Program} {l : Launch} {e : Env} {R : Room} {s : State} {m : MethodId} {args : Array Value} {below : List Frame} {meth : Method} {c : Code} {T : State} {locs : List Loc} {cells slots : Nat} {Z : State} {a0 : Array Value} {h h' : Heap} {Q : Option Value → Heap → List Loc → Prop} {kc kn : Nat} {a b : Addr} {ty : FieldType} {vs : List Value} {v w : Value} {ws : List Addr} {sl : Nat}
/-- the array at a holds just vs -/
def own_Ar (Z : State) (h : Heap) (a : Addr) (ty : FieldType) (vs : List Value) : Prop := ∃ c : Cell, Arr Z h a c ty ∧ c.slots = vs.toArray ∧ vs.length < 2 ^ 31
theorem own_Ar.lt (F : own_Ar Z h a ty vs) : a < h.size := by obtain ⟨c, A, -⟩ := F; exact A.lt
theorem own_Ar.ext (F : own_Ar Z h a ty vs) (E : Ext h h') : own_Ar Z h' a ty vs := by obtain ⟨c, A, r⟩ := F; exact ⟨c, A.ext E, r⟩
theorem own_Ar.other (F : own_Ar Z h b ty vs) (W : Wr h h' a sl v) (q : b ≠ a) : own_Ar Z h' b ty vs := by obtain ⟨c, A, r⟩ := F; exact ⟨c, A.other W q, r⟩
theorem own_Ar.keep (F : own_Ar Z h a ty vs) (K : Keep h h' ws) (q : a ∉ ws) : own_Ar Z h' a ty vs := by obtain ⟨c, A, r⟩ := F; exact ⟨c, ⟨K.2.1 a c A.1 q, A.2⟩, r⟩
theorem own_Ar.set (F : own_Ar Z h a ty vs) (W : Wr h h' a sl v) : own_Ar Z h' a ty (vs.set sl v) := by
  obtain ⟨c, A, q1, q2⟩ := F
  refine ⟨_, A.same W, ?_, by rw [List.length_set]; exact q2⟩
  show c.slots.setIfInBounds sl v = _
  rw [q1]; simp
theorem own_Ar.len (F : own_Ar Z h a ty vs) : vs.length < 2 ^ 31 := by obtain ⟨_, _, _, q⟩ := F; exact q
theorem own_in {c : Cell} (q : c.slots = vs.toArray) {j : Int32} (hj : ¬ j < 0) (hi : j.toNatClampNeg < vs.length) : ¬ (j < 0 ∨ c.slots.size ≤ j.toNatClampNeg) := by
  rw [q]; simp only [List.size_toArray]; exact fun w => w.elim hj fun w => absurd hi (Nat.not_lt.mpr w)
theorem own_lt {vs : List Value} {i : Nat} (hv : vs[i]? = some v) : i < vs.length := (List.getElem?_eq_some_iff.mp hv).1
theorem own_iaload (X : Stand p l e R s m args below meth c T locs cells slots) (hx : p.tables.exec = Jvm.exec) (hZ : Z.Warmed39 s.vm) (eT : T.heap = h) (F : own_Ar Z h a .int vs) {j : Int32} (hj : ¬ j < 0) (hv : vs[j.toNatClampNeg]? = some v) {pc : Nat} {Ls : Array Slot} {rest : List Value} (hd : decode c.code pc = .ok (.iaload, 1))
    (H : own_Fin p e below s Q kc kn (T.setTop (mkF m (pc + 1) Ls (v :: rest)))) : own_Fin p e below s Q kc kn (T.setTop (mkF m pc Ls (.int j :: .ref a :: rest))) := by
  obtain ⟨c', A, q1, q2⟩ := F
  exact own_go (fun t k => X.iaload hx (j := j) (v := v) (by rw [eT]; exact A.1) (State.isArrayOf_alike hZ.alike A.2.1) A.2.2 (own_in q1 hj (own_lt hv)) (by rw [q1]; simpa using hv) (g := mkF m pc Ls (.int j :: .ref a :: rest)) rfl rfl hd t k) H
theorem own_laload (X : Stand p l e R s m args below meth c T locs cells slots) (hx : p.tables.exec = Jvm.exec) (hZ : Z.Warmed39 s.vm) (eT : T.heap = h) (F : own_Ar Z h a .long vs) {j : Int32} (hj : ¬ j < 0) (hv : vs[j.toNatClampNeg]? = some v) {pc : Nat} {Ls : Array Slot} {rest : List Value} (hd : decode c.code pc = .ok (.laload, 1))
    (H : own_Fin p e below s Q kc kn (T.setTop (mkF m (pc + 1) Ls (v :: rest)))) : own_Fin p e below s Q kc kn (T.setTop (mkF m pc Ls (.int j :: .ref a :: rest))) := by
  obtain ⟨c', A, q1, q2⟩ := F
  exact own_go (fun t k => X.laload hx (j := j) (v := v) (by rw [eT]; exact A.1) (State.isArrayOf_alike hZ.alike A.2.1) A.2.2 (own_in q1 hj (own_lt hv)) (by rw [q1]; simpa using hv) (g := mkF m pc Ls (.int j :: .ref a :: rest)) rfl rfl hd t k) H
theorem own_zaload (X : Stand p l e R s m args below meth c T locs cells slots) (hx : p.tables.exec = Jvm.exec) (hZ : Z.Warmed39 s.vm) (eT : T.heap = h) (F : own_Ar Z h a .boolean vs) {j : Int32} (hj : ¬ j < 0) (hv : vs[j.toNatClampNeg]? = some v) {pc : Nat} {Ls : Array Slot} {rest : List Value} (hd : decode c.code pc = .ok (.baload, 1))
    (H : own_Fin p e below s Q kc kn (T.setTop (mkF m (pc + 1) Ls (v :: rest)))) : own_Fin p e below s Q kc kn (T.setTop (mkF m pc Ls (.int j :: .ref a :: rest))) := by
  obtain ⟨c', A, q1, q2⟩ := F
  exact own_go (fun t k => X.baloadBooleans hx (j := j) (v := v) (by rw [eT]; exact A.1) (State.isArrayOf_alike hZ.alike A.2.1) A.2.2 (own_in q1 hj (own_lt hv)) (by rw [q1]; simpa using hv) (g := mkF m pc Ls (.int j :: .ref a :: rest)) rfl rfl hd t k) H
theorem own_aaload (X : Stand p l e R s m args below meth c T locs cells slots) (hx : p.tables.exec = Jvm.exec) (hZ : Z.Warmed39 s.vm) (eT : T.heap = h) (F : own_Ar Z h a ty vs) (hty : ty.isReference = true) {j : Int32} (hj : ¬ j < 0) (hv : vs[j.toNatClampNeg]? = some v) {pc : Nat} {Ls : Array Slot} {rest : List Value} (hd : decode c.code pc = .ok (.aaload, 1))
    (H : own_Fin p e below s Q kc kn (T.setTop (mkF m (pc + 1) Ls (v :: rest)))) : own_Fin p e below s Q kc kn (T.setTop (mkF m pc Ls (.int j :: .ref a :: rest))) := by
  obtain ⟨c', A, q1, q2⟩ := F
  exact own_go (fun t k => X.aaload hx (j := j) (v := v) (by rw [eT]; exact A.1) (State.isArrayOf_alike hZ.alike A.2.1) hty A.2.2 (own_in q1 hj (own_lt hv)) (by rw [q1]; simpa using hv) (g := mkF m pc Ls (.int j :: .ref a :: rest)) rfl rfl hd t k) H
theorem own_alen (X : Stand p l e R s m args below meth c T locs cells slots) (hx : p.tables.exec = Jvm.exec) (hZ : Z.Warmed39 s.vm) (eT : T.heap = h) (F : own_Ar Z h a ty vs) {pc : Nat} {Ls : Array Slot} {rest : List Value} (hd : decode c.code pc = .ok (.arraylength, 1))
    (H : own_Fin p e below s Q kc kn (T.setTop (mkF m (pc + 1) Ls (.int (Int32.ofNat vs.length) :: rest)))) : own_Fin p e below s Q kc kn (T.setTop (mkF m pc Ls (.ref a :: rest))) := by
  obtain ⟨c', A, q1, q2⟩ := F
  refine own_go (fun t k => X.arraylength hx (by rw [eT]; exact A.1) (State.isArrayOf_alike hZ.alike A.2.1) (g := mkF m pc Ls (.ref a :: rest)) rfl rfl hd t k) ?_
  rw [q1]; simp only [List.size_toArray]; exact H
theorem own_iastore (X : Stand p l e R s m args below meth c T locs cells slots) (hx : p.tables.exec = Jvm.exec) (hZ : Z.Warmed39 s.vm) (eT : T.heap = h) (F : own_Ar Z h a .int vs) {j x : Int32} (hj : ¬ j < 0) (hi : j.toNatClampNeg < vs.length) {pc : Nat} {Ls : Array Slot} {rest : List Value} (hd : decode c.code pc = .ok (.iastore, 1))
    (H : ∀ (T' : State) (h' : Heap), Stand p l e R s m args below meth c T' (locs ++ [⟨a, j.toNatClampNeg⟩]) cells slots → T'.heap = h' → Wr h h' a j.toNatClampNeg (.int x) → own_Ar Z h' a .int (vs.set j.toNatClampNeg (.int x)) → own_Fin p e below s Q kc kn (T'.setTop (mkF m (pc + 1) Ls rest))) :
    own_Fin p e below s Q kc kn (T.setTop (mkF m pc Ls (.int x :: .int j :: .ref a :: rest))) := by
  have F' := F
  obtain ⟨c', A, q1, q2⟩ := F
  obtain ⟨T', h', X', e', W', st⟩ := stI X hx hZ eT A (j := j) (x := x) (own_in q1 hj hi) (g := mkF m pc Ls (.int x :: .int j :: .ref a :: rest)) rfl rfl hd
  exact own_go st (H _ _ X' e' W' (F'.set W'))
theorem own_lastore (X : Stand p l e R s m args below meth c T locs cells slots) (hx : p.tables.exec = Jvm.exec) (hZ : Z.Warmed39 s.vm) (eT : T.heap = h) (F : own_Ar Z h a .long vs) {j : Int32} {x : Int64} (hj : ¬ j < 0) (hi : j.toNatClampNeg < vs.length) {pc : Nat} {Ls : Array Slot} {rest : List Value} (hd : decode c.code pc = .ok (.lastore, 1))
    (H : ∀ (T' : State) (h' : Heap), Stand p l e R s m args below meth c T' (locs ++ [⟨a, j.toNatClampNeg⟩]) cells slots → T'.heap = h' → Wr h h' a j.toNatClampNeg (.long x) → own_Ar Z h' a .long (vs.set j.toNatClampNeg (.long x)) → own_Fin p e below s Q kc kn (T'.setTop (mkF m (pc + 1) Ls rest))) :
    own_Fin p e below s Q kc kn (T.setTop (mkF m pc Ls (.long x :: .int j :: .ref a :: rest))) := by
  have F' := F
  obtain ⟨c', A, q1, q2⟩ := F
  obtain ⟨T', h', X', e', W', st⟩ := stJ X hx hZ eT A (j := j) (x := x) (own_in q1 hj hi) (g := mkF m pc Ls (.long x :: .int j :: .ref a :: rest)) rfl rfl hd
  exact own_go st (H _ _ X' e' W' (F'.set W'))
theorem own_zastore (X : Stand p l e R s m args below meth c T locs cells slots) (hx : p.tables.exec = Jvm.exec) (hZ : Z.Warmed39 s.vm) (eT : T.heap = h) (F : own_Ar Z h a .boolean vs) {j x : Int32} (hj : ¬ j < 0) (hi : j.toNatClampNeg < vs.length) {pc : Nat} {Ls : Array Slot} {rest : List Value} (hd : decode c.code pc = .ok (.bastore, 1)) (hn : nar .boolean x = x)
    (H : ∀ (T' : State) (h' : Heap), Stand p l e R s m args below meth c T' (locs ++ [⟨a, j.toNatClampNeg⟩]) cells slots → T'.heap = h' → Wr h h' a j.toNatClampNeg (.int x) → own_Ar Z h' a .boolean (vs.set j.toNatClampNeg (.int x)) → own_Fin p e below s Q kc kn (T'.setTop (mkF m (pc + 1) Ls rest))) :
    own_Fin p e below s Q kc kn (T.setTop (mkF m pc Ls (.int x :: .int j :: .ref a :: rest))) := by
  have F' := F
  obtain ⟨c', A, q1, q2⟩ := F
  obtain ⟨T', h', X', e', W', st⟩ := stZ X hx hZ eT A (j := j) (x := x) (own_in q1 hj hi) (g := mkF m pc Ls (.int x :: .int j :: .ref a :: rest)) rfl rfl hd
  rw [hn] at W'
  exact own_go st (H _ _ X' e' W' (F'.set W'))
theorem own_newarr (X : Stand p l e R s m args below meth c T locs cells slots) (hx : p.tables.exec = Jvm.exec) (hZ : Z.Warmed39 s.vm) {aty : ArrayType} (w : (Jvm.Cond.arrayClass (newarray.typeOf aty)).before a0 Z = true) (eT : T.heap = h) {pc : Nat} {Ls : Array Slot} {rest : List Value} (hd : decode c.code pc = .ok (.newarray aty, 2)) {n : Int32}
    (hn : ¬ n < 0) {cap : Nat} (hcap : n.toNatClampNeg ≤ cap) (hb : cap * 8 ≤ 536870912) (hc : cells + 1 ≤ R.cells) (hl : slots + cap ≤ R.slots) {ad : String} (had : "[" ++ (newarray.typeOf aty).toString = ad)
    (H : ∀ (T' : State) (h' : Heap) (a : Addr), a = h.size → Stand p l e R s m args below meth c T' locs (cells + 1) (slots + cap) → T'.heap = h' → Ext h h' → own_Ar Z h' a (newarray.typeOf aty) (List.replicate n.toNatClampNeg (defaultValue (newarray.typeOf aty))) → Exa Z h' a ad → own_Fin p e below s Q kc kn (T'.setTop (mkF m (pc + 2) Ls (.ref a :: rest)))) :
    own_Fin p e below s Q kc kn (T.setTop (mkF m pc Ls (.int n :: rest))) := by
  obtain ⟨T', h', cA, X', e', E', A', D', st⟩ := newPE X hx hZ w eT (g := mkF m pc Ls (.int n :: rest)) rfl hd rfl hn hcap hb hc hl had
  exact own_go st (H _ _ _ rfl X' e' E' ⟨_, A', by simp [newA], by simp only [List.length_replicate]; omega⟩ D')
theorem own_ldI (X : Stand p l e R s m args below meth c T locs cells slots) (hx : p.tables.exec = Jvm.exec) (hZ : Z.Warmed39 s.vm) (eT : T.heap = h) {xs : List Int32} (F : own_Ar Z h a .int (xs.map Value.int)) {j : Int32} (hj : ¬ j < 0) (hi : j.toNatClampNeg < xs.length) {pc : Nat} {Ls : Array Slot} {rest : List Value} (hd : decode c.code pc = .ok (.iaload, 1))
    (H : own_Fin p e below s Q kc kn (T.setTop (mkF m (pc + 1) Ls (Value.int (xs.getD j.toNatClampNeg 0) :: rest)))) : own_Fin p e below s Q kc kn (T.setTop (mkF m pc Ls (.int j :: .ref a :: rest))) :=
  own_iaload X hx hZ eT F hj (by simp [List.getD_eq_getElem?_getD, hi]) hd H
theorem own_ldZ (X : Stand p l e R s m args below meth c T locs cells slots) (hx : p.tables.exec = Jvm.exec) (hZ : Z.Warmed39 s.vm) (eT : T.heap = h) {xs : List Int32} (F : own_Ar Z h a .boolean (xs.map Value.int)) {j : Int32} (hj : ¬ j < 0) (hi : j.toNatClampNeg < xs.length) {pc : Nat} {Ls : Array Slot} {rest : List Value} (hd : decode c.code pc = .ok (.baload, 1))
    (H : own_Fin p e below s Q kc kn (T.setTop (mkF m (pc + 1) Ls (Value.int (xs.getD j.toNatClampNeg 0) :: rest)))) : own_Fin p e below s Q kc kn (T.setTop (mkF m pc Ls (.int j :: .ref a :: rest))) :=
  own_zaload X hx hZ eT F hj (by simp [List.getD_eq_getElem?_getD, hi]) hd H
theorem own_ldJ (X : Stand p l e R s m args below meth c T locs cells slots) (hx : p.tables.exec = Jvm.exec) (hZ : Z.Warmed39 s.vm) (eT : T.heap = h) {xs : List Int64} (F : own_Ar Z h a .long (xs.map Value.long)) {j : Int32} (hj : ¬ j < 0) (hi : j.toNatClampNeg < xs.length) {pc : Nat} {Ls : Array Slot} {rest : List Value} (hd : decode c.code pc = .ok (.laload, 1))
    (H : own_Fin p e below s Q kc kn (T.setTop (mkF m (pc + 1) Ls (Value.long (xs.getD j.toNatClampNeg 0) :: rest)))) : own_Fin p e below s Q kc kn (T.setTop (mkF m pc Ls (.int j :: .ref a :: rest))) :=
  own_laload X hx hZ eT F hj (by simp [List.getD_eq_getElem?_getD, hi]) hd H
theorem own_stI (X : Stand p l e R s m args below meth c T locs cells slots) (hx : p.tables.exec = Jvm.exec) (hZ : Z.Warmed39 s.vm) (eT : T.heap = h) {xs : List Int32} (F : own_Ar Z h a .int (xs.map Value.int)) {j : Int32} {x : Int32} (hj : ¬ j < 0) (hi : j.toNatClampNeg < xs.length) {pc : Nat} {Ls : Array Slot} {rest : List Value} (hd : decode c.code pc = .ok (.iastore, 1))
    (H : ∀ (T' : State) (h' : Heap), Stand p l e R s m args below meth c T' (locs ++ [⟨a, j.toNatClampNeg⟩]) cells slots → T'.heap = h' → Wr h h' a j.toNatClampNeg (Value.int x) → own_Ar Z h' a .int ((xs.set j.toNatClampNeg x).map Value.int) → own_Fin p e below s Q kc kn (T'.setTop (mkF m (pc + 1) Ls rest))) :
    own_Fin p e below s Q kc kn (T.setTop (mkF m pc Ls (Value.int x :: .int j :: .ref a :: rest))) :=
  own_iastore X hx hZ eT F hj (by simpa using hi) hd fun T' h' X' e' W' F' => H T' h' X' e' W' (by rw [List.map_set]; exact F')
theorem own_stZ (X : Stand p l e R s m args below meth c T locs cells slots) (hx : p.tables.exec = Jvm.exec) (hZ : Z.Warmed39 s.vm) (eT : T.heap = h) {xs : List Int32} (F : own_Ar Z h a .boolean (xs.map Value.int)) {j : Int32} {x : Int32} (hj : ¬ j < 0) (hi : j.toNatClampNeg < xs.length) {pc : Nat} {Ls : Array Slot} {rest : List Value} (hd : decode c.code pc = .ok (.bastore, 1)) (hn : nar .boolean x = x)
    (H : ∀ (T' : State) (h' : Heap), Stand p l e R s m args below meth c T' (locs ++ [⟨a, j.toNatClampNeg⟩]) cells slots → T'.heap = h' → Wr h h' a j.toNatClampNeg (Value.int x) → own_Ar Z h' a .boolean ((xs.set j.toNatClampNeg x).map Value.int) → own_Fin p e below s Q kc kn (T'.setTop (mkF m (pc + 1) Ls rest))) :
    own_Fin p e below s Q kc kn (T.setTop (mkF m pc Ls (Value.int x :: .int j :: .ref a :: rest))) :=
  own_zastore X hx hZ eT F hj (by simpa using hi) hd hn fun T' h' X' e' W' F' => H T' h' X' e' W' (by rw [List.map_set]; exact F')
theorem own_stJ (X : Stand p l e R s m args below meth c T locs cells slots) (hx : p.tables.exec = Jvm.exec) (hZ : Z.Warmed39 s.vm) (eT : T.heap = h) {xs : List Int64} (F : own_Ar Z h a .long (xs.map Value.long)) {j : Int32} {x : Int64} (hj : ¬ j < 0) (hi : j.toNatClampNeg < xs.length) {pc : Nat} {Ls : Array Slot} {rest : List Value} (hd : decode c.code pc = .ok (.lastore, 1))
    (H : ∀ (T' : State) (h' : Heap), Stand p l e R s m args below meth c T' (locs ++ [⟨a, j.toNatClampNeg⟩]) cells slots → T'.heap = h' → Wr h h' a j.toNatClampNeg (Value.long x) → own_Ar Z h' a .long ((xs.set j.toNatClampNeg x).map Value.long) → own_Fin p e below s Q kc kn (T'.setTop (mkF m (pc + 1) Ls rest))) :
    own_Fin p e below s Q kc kn (T.setTop (mkF m pc Ls (Value.long x :: .int j :: .ref a :: rest))) :=
  own_lastore X hx hZ eT F hj (by simpa using hi) hd fun T' h' X' e' W' F' => H T' h' X' e' W' (by rw [List.map_set]; exact F')
theorem own_newI (X : Stand p l e R s m args below meth c T locs cells slots) (hx : p.tables.exec = Jvm.exec) (hZ : Z.Warmed39 s.vm) (w : (Jvm.Cond.arrayClass .int).before a0 Z = true) (eT : T.heap = h) {pc : Nat} {Ls : Array Slot} {rest : List Value} (hd : decode c.code pc = .ok (.newarray .int, 2)) {n : Int32}
    (hn : ¬ n < 0) {cap : Nat} (hcap : n.toNatClampNeg ≤ cap) (hb : cap * 8 ≤ 536870912) (hc : cells + 1 ≤ R.cells) (hl : slots + cap ≤ R.slots)
    (H : ∀ (T' : State) (h' : Heap) (a : Addr), a = h.size → Stand p l e R s m args below meth c T' locs (cells + 1) (slots + cap) → T'.heap = h' → Ext h h' → own_Ar Z h' a .int ((List.replicate n.toNatClampNeg (0 : Int32)).map Value.int) → Exa Z h' a "[I" → own_Fin p e below s Q kc kn (T'.setTop (mkF m (pc + 2) Ls (.ref a :: rest)))) :
    own_Fin p e below s Q kc kn (T.setTop (mkF m pc Ls (.int n :: rest))) :=
  own_newarr X hx hZ (aty := .int) w eT hd hn hcap hb hc hl rfl fun T' h' a g' X' e' E' F' D' => H T' h' a g' X' e' E' (by rw [List.map_replicate]; exact F') D'
theorem own_newZ (X : Stand p l e R s m args below meth c T locs cells slots) (hx : p.tables.exec = Jvm.exec) (hZ : Z.Warmed39 s.vm) (w : (Jvm.Cond.arrayClass .boolean).before a0 Z = true) (eT : T.heap = h) {pc : Nat} {Ls : Array Slot} {rest : List Value} (hd : decode c.code pc = .ok (.newarray .boolean, 2)) {n : Int32}
    (hn : ¬ n < 0) {cap : Nat} (hcap : n.toNatClampNeg ≤ cap) (hb : cap * 8 ≤ 536870912) (hc : cells + 1 ≤ R.cells) (hl : slots + cap ≤ R.slots)
    (H : ∀ (T' : State) (h' : Heap) (a : Addr), a = h.size → Stand p l e R s m args below meth c T' locs (cells + 1) (slots + cap) → T'.heap = h' → Ext h h' → own_Ar Z h' a .boolean ((List.replicate n.toNatClampNeg (0 : Int32)).map Value.int) → Exa Z h' a "[Z" → own_Fin p e below s Q kc kn (T'.setTop (mkF m (pc + 2) Ls (.ref a :: rest)))) :
    own_Fin p e below s Q kc kn (T.setTop (mkF m pc Ls (.int n :: rest))) :=
  own_newarr X hx hZ (aty := .boolean) w eT hd hn hcap hb hc hl rfl fun T' h' a g' X' e' E' F' D' => H T' h' a g' X' e' E' (by rw [List.map_replicate]; exact F') D'
theorem own_newJ (X : Stand p l e R s m args below meth c T locs cells slots) (hx : p.tables.exec = Jvm.exec) (hZ : Z.Warmed39 s.vm) (w : (Jvm.Cond.arrayClass .long).before a0 Z = true) (eT : T.heap = h) {pc : Nat} {Ls : Array Slot} {rest : List Value} (hd : decode c.code pc = .ok (.newarray .long, 2)) {n : Int32}
    (hn : ¬ n < 0) {cap : Nat} (hcap : n.toNatClampNeg ≤ cap) (hb : cap * 8 ≤ 536870912) (hc : cells + 1 ≤ R.cells) (hl : slots + cap ≤ R.slots)
    (H : ∀ (T' : State) (h' : Heap) (a : Addr), a = h.size → Stand p l e R s m args below meth c T' locs (cells + 1) (slots + cap) → T'.heap = h' → Ext h h' → own_Ar Z h' a .long ((List.replicate n.toNatClampNeg (0 : Int64)).map Value.long) → Exa Z h' a "[J" → own_Fin p e below s Q kc kn (T'.setTop (mkF m (pc + 2) Ls (.ref a :: rest)))) :
    own_Fin p e below s Q kc kn (T.setTop (mkF m pc Ls (.int n :: rest))) :=
  own_newarr X hx hZ (aty := .long) w eT hd hn hcap hb hc hl rfl fun T' h' a g' X' e' E' F' D' => H T' h' a g' X' e' E' (by rw [List.map_replicate]; exact F') D'
end OwnArr
section OwnArr2
variable {p : Program} {l : Launch} {e : Env} {R : Room} {s : State} {m : MethodId} {args : Array Value} {below : List Frame} {meth : Method} {c : Code} {T : State} {locs : List Loc} {cells slots : Nat} {Z : State} {a0 : Array Value} {h h' : Heap} {Q : Option Value → Heap → List Loc → Prop} {kc kn : Nat} {a b : Addr} {ty : FieldType} {vs : List Value} {v w : Value} {ws : List Addr} {sl : Nat}
theorem own_cloneI (X : Stand p l e R s m args below meth c T locs cells slots) (hx : p.tables.exec = Jvm.exec) (hZ : Z.Warmed39 s.vm) {own : String} {index : Nat} (hown : s.vm.findClass own = some m.cls)
    (w1 : (Jvm.Cond.methodLink own index ⟨"[I", "clone", "()Ljava/lang/Object;"⟩).before a0 Z = true) (w2 : (Jvm.Cond.sameMethod "[I" "java/lang/Object" "clone" "()Ljava/lang/Object;").before a0 Z = true) (w3 : (Jvm.Cond.native ⟨"java/lang/Object", "clone", "()Ljava/lang/Object;"⟩).before a0 Z = true)
    (w4 : (Jvm.Cond.instanceMethod ⟨"java/lang/Object", "clone", "()Ljava/lang/Object;"⟩).before a0 Z = true) (w5 : (Jvm.Cond.selects "[I" ⟨"[I", "clone", "()Ljava/lang/Object;"⟩ ⟨"java/lang/Object", "clone", "()Ljava/lang/Object;"⟩).before a0 Z = true) (w6 : (Jvm.Cond.castable "[I" "java/lang/Cloneable").before a0 Z = true)
    (eT : T.heap = h) {xs : List Int32} (F : own_Ar Z h a .int (xs.map Value.int)) (E : Exa Z h a "[I") {pc : Nat} {Ls : Array Slot} (hsize : Ls.size = c.maxLocals) {rest : List Value} (hd : decode c.code pc = .ok (.invokevirtual index, 3))
    (hf : 1 ≤ R.frames) {W cap : Nat} (hW : (rest.map fun v => v.category).sum ≤ W) (hl : W + 14 ≤ R.locals) (hcap : xs.length ≤ cap) (hc : cells + 1 ≤ R.cells) (hsl : slots + cap ≤ R.slots)
    (H : ∀ (T' : State) (h' : Heap) (b : Addr), b = h.size → Stand p l e R s m args below meth c T' locs (cells + 1) (slots + cap) → T'.heap = h' → Ext h h' → own_Ar Z h' b .int (xs.map Value.int) → Exa Z h' b "[I" → own_Fin p e below s Q kc kn (T'.setTop (mkF m (pc + 3) Ls (.ref b :: rest)))) :
    own_Fin p e below s Q kc kn (T.setTop (mkF m pc Ls (.ref a :: rest))) := by
  obtain ⟨cl, A, q1, q2⟩ := F
  have FC : FitC Z cl := fitC_of A fun i hi v hv => by
    rw [q1] at hv
    simp only [List.getElem?_toArray, List.getElem?_map, Option.map_eq_some_iff] at hv
    obtain ⟨x, -, rfl⟩ := hv; rfl
  obtain ⟨T', h', X', e', ex, A', E', st⟩ := cloneA X hx hZ hown w1 w2 w3 w4 w5 w6 eT A E FC (g := mkF m pc Ls (.ref a :: rest)) rfl hsize rfl hd hf (W := W) (by show 2 * 0 + _ ≤ _; omega) hl (cap := cap) (by rw [q1]; simpa using hcap) hc hsl
  exact own_go st (H _ _ _ rfl X' e' ex ⟨_, A', q1, q2⟩ E')
theorem own_Ar.arvI {xs : List Int32} (F : own_Ar Z h a .int (xs.map Value.int)) : ∃ k, Arv Z h a k .int (Int32.ofNat xs.length) (xs.map Value.int) (.int 0) := by
  obtain ⟨cl, A, q1, q2⟩ := F
  have q2' : xs.length < 2 ^ 31 := by simpa using q2
  have e1 : (Int32.ofNat xs.length).toNatClampNeg = xs.length := Int32.toNatClampNeg_ofNat_of_lt q2'
  refine ⟨cl.cls, cl, A, rfl, by rw [q1, e1]; simp, ?_, fun i hi => ?_, fun i hi => ?_⟩
  · rw [Int32.lt_iff_toInt_lt, Int32.toInt_ofNat_of_lt q2']; show ¬ (xs.length : Int) < 0; omega
  · rw [q1] at hi ⊢
    have hi' : i < xs.length := by simpa using hi
    simp [List.getD_eq_getElem?_getD, hi']
  · rw [q1] at hi
    have hi' : i < xs.length := by simpa using hi
    simp [List.getD_eq_getElem?_getD, hi', fits]
theorem own_of_arvI {xs : List Int32} {k : ClassId} {n : Int32} {d : Value} (F : Arv Z h a k .int n (xs.map Value.int) d) (hn : n.toNatClampNeg = xs.length) : own_Ar Z h a .int (xs.map Value.int) := by
  obtain ⟨cl, A, -, S, q3, H, -⟩ := F
  have hl : n.toNatClampNeg < 2 ^ 31 := (back32 q3).2
  refine ⟨cl, A, ?_, by simpa [← hn] using hl⟩
  apply Array.ext_getElem?
  intro i
  by_cases hi : i < cl.slots.size
  · rw [H i hi]
    have hi' : i < xs.length := by rw [← hn, ← S]; exact hi
    simp [List.getD_eq_getElem?_getD, hi']
  · rw [Array.getElem?_eq_none (by omega)]
    symm
    rw [List.getElem?_toArray, List.getElem?_eq_none]
    rw [List.length_map, ← hn, ← S]; omega
theorem own_copyI (X : Stand p l e R s m args below meth c T locs cells slots) (hx : p.tables.exec = Jvm.exec) (hZ : Z.Warmed39 s.vm) {own : String} {index : Nat} (hown : s.vm.findClass own = some m.cls)
    (w1 : (Jvm.Cond.methodLink own index Jvm.Stand.acN).before a0 Z = true) (w2 : (Jvm.Cond.native Jvm.Stand.acN).before a0 Z = true) (w3 : (Jvm.Cond.static Jvm.Stand.acN).before a0 Z = true) (w4 : (Jvm.Cond.initialized "java/lang/System").before a0 Z = true) (eT : T.heap = h)
    {xs ys : List Int32} (F : own_Ar Z h a .int (xs.map Value.int)) (G : own_Ar Z h b .int (ys.map Value.int)) {nn : Int32} {n0 : Nat} (h3 : ¬ nn < 0) (h4 : nn.toNatClampNeg ≤ xs.length) (h5 : nn.toNatClampNeg ≤ ys.length) (N : Fr n0 locs) (ge : n0 ≤ b)
    {pc : Nat} {Ls : Array Slot} (hsize : Ls.size = c.maxLocals) {rest : List Value} (hd : decode c.code pc = .ok (.invokestatic index, 3))
    (hf : 1 ≤ R.frames) {W : Nat} (hW : (rest.map fun v => v.category).sum ≤ W) (hlo : W + (nativeFrameWords "java/lang/System" "arraycopy" 5 + 11) ≤ R.locals)
    (H : ∀ (T' : State) (h' : Heap) (L : List Loc), Stand p l e R s m args below meth c T' L cells slots → T'.heap = h' → Fr n0 L → Keep h h' [b] → own_Ar Z h' b .int ((xs.take nn.toNatClampNeg ++ ys.drop nn.toNatClampNeg).map Value.int) → own_Fin p e below s Q kc kn (T'.setTop (mkF m (pc + 3) Ls rest))) :
    own_Fin p e below s Q kc kn (T.setTop (mkF m pc Ls (.int nn :: .int (0 : Int32) :: .ref b :: .int (0 : Int32) :: .ref a :: rest))) := by
  have lx : xs.length < 2 ^ 31 := by simpa using F.len
  have ly : ys.length < 2 ^ 31 := by simpa using G.len
  have ex : (Int32.ofNat xs.length).toNatClampNeg = xs.length := Int32.toNatClampNeg_ofNat_of_lt lx
  have ey : (Int32.ofNat ys.length).toNatClampNeg = ys.length := Int32.toNatClampNeg_ofNat_of_lt ly
  have e0 : (0 : Int32).toNatClampNeg = 0 := by decide
  obtain ⟨k1, A⟩ := F.arvI
  obtain ⟨k2, B⟩ := G.arvI
  obtain ⟨T', h', L, X', e', N', K', V', st⟩ := cpA X hx hZ hown w1 w2 w3 w4 eT A B (sp := 0) (dp := 0) (nn := nn) (us := (xs.take nn.toNatClampNeg).map Value.int) (Or.inl ⟨rfl, rfl⟩) (by decide) (by decide) h3 (by rw [e0, ex]; omega) (by rw [e0, ey]; omega) (by
      rw [e0]
      apply List.ext_getElem?
      intro i
      by_cases hi : i < nn.toNatClampNeg
      · have hi' : i < xs.length := by omega
        simp [List.getElem?_take, hi, List.getD_eq_getElem?_getD, hi']
      · simp [List.getElem?_take, hi]) (by rw [e0]; simpa using h5) N ge (g := mkF m pc Ls (.int nn :: .int (0 : Int32) :: .ref b :: .int (0 : Int32) :: .ref a :: rest)) rfl hsize rfl hd hf (W := W) (by show 2 * 0 + _ ≤ _; omega) hlo
  refine own_go st (H _ _ _ X' e' N' K' ?_)
  refine own_of_arvI (n := Int32.ofNat ys.length) (k := k2) (d := .int 0) ?_ ?_
  · rw [e0] at V'
    simpa [List.map_append, List.map_take, List.map_drop] using V'
  · rw [ey]; simp; omega
end OwnArr2

section OwnGrid
variable {p : Program} {l : Launch} {e : Env} {R : Room} {s : State} {m : MethodId} {args : Array Value} {below : List Frame} {meth : Method} {c : Code} {T : State} {locs : List Loc} {cells slots : Nat} {Z : State} {a0 : Array Value} {h h' : Heap} {Q : Option Value → Heap → List Loc → Prop} {kc kn : Nat} {a b g : Nat} {v w : Value} {ws : List Addr} {sl mm nn : Nat}
theorem own_ltN (i n : Nat) (hi : i < 2 ^ 31) (hn : n < 2 ^ 31) : Int32.ofNat i < Int32.ofNat n ↔ i < n := by
  rw [Int32.lt_iff_toInt_lt, Int32.toInt_ofNat_of_lt hi, Int32.toInt_ofNat_of_lt hn]; omega
theorem own_nn {i : Nat} (hi : i < 2 ^ 31) : ¬ Int32.ofNat i < 0 := by
  rw [Int32.lt_iff_toInt_lt, Int32.toInt_ofNat_of_lt hi]
  have : (0 : Int32).toInt = 0 := by decide
  omega
theorem own_tn {i : Nat} (hi : i < 2 ^ 31) : (Int32.ofNat i).toNatClampNeg = i := Int32.toNatClampNeg_ofNat_of_lt hi
theorem own_succ (i : Nat) : Int32.ofNat i + (1 : Int32) = Int32.ofNat (i + 1) := by rw [Int32.ofNat_add]; rfl
/-- the first i places filled by f, the others 0 -/
def own_L (f : Nat → Int32) (N i : Nat) : List Int32 := (List.range N).map fun j => if j < i then f j else 0
theorem own_Llen (f : Nat → Int32) (N i : Nat) : (own_L f N i).length = N := by simp [own_L]
theorem own_L0 (f : Nat → Int32) (N : Nat) : own_L f N 0 = List.replicate N 0 := by
  apply List.ext_getElem?
  intro k
  by_cases hk : k < N
  · simp [own_L, hk, List.getElem?_replicate]
  · simp [own_L, hk, List.getElem?_replicate]
theorem own_Lset {f : Nat → Int32} {N i : Nat} (hi : i < N) (hN : N < 2 ^ 31) : (own_L f N i).set (Int32.ofNat i).toNatClampNeg (f i) = own_L f N (i + 1) := by
  rw [own_tn (by omega)]
  apply List.ext_getElem?
  intro k
  by_cases hk : k = i
  · subst hk
    simp [own_L, hi]
  · rw [List.getElem?_set_ne (by omega)]
    by_cases hk2 : k < N
    · simp only [own_L, List.getElem?_map, List.getElem?_range hk2, Option.map_some]
      by_cases h3 : k < i
      · rw [if_pos h3, if_pos (by omega)]
      · rw [if_neg h3, if_neg (by omega)]
    · simp [own_L, hk2]
theorem own_LgetK {f : Nat → Int32} {N i k : Nat} (hk : k < i) (hi : i ≤ N) : List.getD (own_L f N i) k 0 = f k := by
  have h : k < N := by omega
  simp [own_L, List.getD_eq_getElem?_getD, h, hk]
theorem own_Lget {f : Nat → Int32} {N i : Nat} (hi : i < N) (hN : N < 2 ^ 31) : List.getD (own_L f N (i + 1)) (Int32.ofNat i).toNatClampNeg 0 = f i := by
  rw [own_tn (by omega)]; exact own_LgetK (by omega) (by omega)
def own_Grid (Z : State) (h : Heap) (g m n : Nat) : Prop := own_Ar Z h g (.array .int) ((List.range m).map fun j => Value.ref (g + 1 + j)) ∧ ∀ j, j < m → ∃ ys : List Int32, ys.length = n ∧ own_Ar Z h (g + 1 + j) .int (ys.map Value.int)
theorem own_Grid.lt (G : own_Grid Z h g mm nn) : g < h.size := G.1.lt
theorem own_Grid.top (G : own_Grid Z h g mm nn) (hm : 0 < mm) : g + 1 + mm ≤ h.size := by
  obtain ⟨ys, -, A⟩ := G.2 (mm - 1) (by omega)
  have q : g + 1 + (mm - 1) < h.size := A.lt
  omega
theorem own_Grid.ext (G : own_Grid Z h g mm nn) (E : Ext h h') : own_Grid Z h' g mm nn := ⟨G.1.ext E, fun j hj => by obtain ⟨ys, q, A⟩ := G.2 j hj; exact ⟨ys, q, A.ext E⟩⟩
theorem own_Grid.other (G : own_Grid Z h g mm nn) (W : Wr h h' a sl v) (q : a < g ∨ g + 1 + mm ≤ a) : own_Grid Z h' g mm nn :=
  ⟨G.1.other W (show (g : Nat) ≠ a by omega), fun j hj => by obtain ⟨ys, q', A⟩ := G.2 j hj; exact ⟨ys, q', A.other W (show (g + 1 + j : Nat) ≠ a by omega)⟩⟩
theorem own_Grid.set (G : own_Grid Z h g mm nn) {k i : Nat} {x : Int32} (hk : k < mm) (W : Wr h h' (g + 1 + k) i (.int x)) : own_Grid Z h' g mm nn := by
  refine ⟨G.1.other W (show (g : Nat) ≠ g + 1 + k by omega), fun j hj => ?_⟩
  obtain ⟨ys, q', A⟩ := G.2 j hj
  by_cases e : j = k
  · subst e
    refine ⟨ys.set i x, by rw [List.length_set]; exact q', ?_⟩
    rw [List.map_set]; exact A.set W
  · exact ⟨ys, q', A.other W (show (g + 1 + j : Nat) ≠ g + 1 + k by omega)⟩
theorem own_gne {k : Nat} (q : a < g ∨ g + 1 + mm ≤ a) (hk : k < mm) : a ≠ g + 1 + k := by omega
theorem own_gload (X : Stand p l e R s m args below meth c T locs cells slots) (hx : p.tables.exec = Jvm.exec) (hZ : Z.Warmed39 s.vm) (eT : T.heap = h) (G : own_Grid Z h g mm nn) {j : Int32} (hj : ¬ j < 0) (hi : j.toNatClampNeg < mm) {pc : Nat} {Ls : Array Slot} {rest : List Value} (hd : decode c.code pc = .ok (.aaload, 1))
    (H : own_Fin p e below s Q kc kn (T.setTop (mkF m (pc + 1) Ls (.ref (g + 1 + j.toNatClampNeg) :: rest)))) : own_Fin p e below s Q kc kn (T.setTop (mkF m pc Ls (.int j :: .ref g :: rest))) :=
  own_aaload X hx hZ eT G.1 rfl hj (by simp [hi]) hd H
theorem own_gstore (X : Stand p l e R s m args below meth c T locs cells slots) (hx : p.tables.exec = Jvm.exec) (hZ : Z.Warmed39 s.vm) (eT : T.heap = h) (G : own_Grid Z h g mm nn) {k : Nat} (hk : k < mm) {j x : Int32} (hj : ¬ j < 0) (hi : j.toNatClampNeg < nn) {pc : Nat} {Ls : Array Slot} {rest : List Value} (hd : decode c.code pc = .ok (.iastore, 1))
    (H : ∀ (T' : State) (h' : Heap), Stand p l e R s m args below meth c T' (locs ++ [⟨g + 1 + k, j.toNatClampNeg⟩]) cells slots → T'.heap = h' → Wr h h' (g + 1 + k) j.toNatClampNeg (.int x) → own_Grid Z h' g mm nn → own_Fin p e below s Q kc kn (T'.setTop (mkF m (pc + 1) Ls rest))) :
    own_Fin p e below s Q kc kn (T.setTop (mkF m pc Ls (.int x :: .int j :: .ref (g + 1 + k) :: rest))) := by
  obtain ⟨ys, q, A⟩ := G.2 k hk
  exact own_iastore X hx hZ eT A hj (by rw [List.length_map, q]; exact hi) hd fun T' h' X' e' W' _ => H T' h' X' e' W' (G.set hk W')
theorem own_grid (X : Stand p l e R s m args below meth c T locs cells slots) (hx : p.tables.exec = Jvm.exec) (hZ : Z.Warmed39 s.vm) {own : String} {index : Nat} (hown : s.vm.findClass own = some m.cls)
    (w1 : (Jvm.Cond.classLink own index "[[I").before a0 Z = true) (w2 : (Jvm.Cond.arrayOver (.array .int)).before a0 Z = true) (w3 : (Jvm.Cond.arrayClass .int).before a0 Z = true) (eT : T.heap = h) {pc : Nat} {Ls : Array Slot} {rest : List Value} (hd : decode c.code pc = .ok (.multianewarray index 2, 4)) {n k : Int32}
    (hn : ¬ n < 0) (hk : ¬ k < 0) (hN : n.toNatClampNeg = mm) (hK : k.toNatClampNeg = nn) (hb : nn * 8 ≤ 536870912) (hb1 : mm ≤ 1000) (hc : cells + (1 + mm) ≤ R.cells) (hl : slots + (mm + mm * nn) ≤ R.slots)
    (H : ∀ (T' : State) (h' : Heap) (g : Nat), g = h.size → Stand p l e R s m args below meth c T' locs (cells + (1 + mm)) (slots + (mm + mm * nn)) → T'.heap = h' → Ext h h' → own_Grid Z h' g mm nn → own_Fin p e below s Q kc kn (T'.setTop (mkF m (pc + 4) Ls (.ref g :: rest)))) :
    own_Fin p e below s Q kc kn (T.setTop (mkF m pc Ls (.int k :: .int n :: rest))) := by
  obtain ⟨T', h', cA, comp, X', e', E', V', -, -, I', st⟩ := gridM X hx hZ (C := "[I") (ad := "[[I") (ty := .int) hown rfl rfl w1 w2 w3 eT (g := mkF m pc Ls (.int k :: .int n :: rest)) rfl hd rfl hn hk hN rfl (cap := nn) (Nat.le_of_eq hK) hb hb1 rfl rfl hc hl
  refine own_go st (H _ _ _ rfl X' e' E' ⟨?_, fun j hj => ?_⟩)
  · obtain ⟨cl, A, -, S, q3, H', -⟩ := V'
    rw [hN] at S
    refine ⟨cl, A, ?_, by simp; omega⟩
    apply Array.ext_getElem?
    intro i
    by_cases hi : i < cl.slots.size
    · rw [H' i hi]
      have hi' : i < mm := by omega
      simp [List.getD_eq_getElem?_getD, hi']
    · rw [Array.getElem?_eq_none (by omega)]
      symm
      rw [List.getElem?_toArray, List.getElem?_eq_none]
      simp; omega
  · obtain ⟨A, -⟩ := I' j (h.size + 1 + j) (by simp [hj])
    refine ⟨List.replicate nn 0, by simp, _, A, ?_, by simp; omega⟩
    simp [newA, hK, defaultValue]
end OwnGrid

def own_fR2 (j : Nat) : Int32 := ((Int32.ofNat j) / (4 : Int32))
def own_fC2 (j : Nat) : Int32 := ((4 : Int32) + ((Int32.ofNat j) % (4 : Int32)))
def own_fB2 (j : Nat) : Int32 := (((8 : Int32) + ((((Int32.ofNat j) / (4 : Int32)) / (2 : Int32)) * (2 : Int32))) + (((Int32.ofNat j) % (4 : Int32)) / (2 : Int32)))
def own_fIR2 (j : Nat) : Int32 := ((Int32.ofNat j) % (4 : Int32))
def own_fIC2 (j : Nat) : Int32 := ((Int32.ofNat j) / (4 : Int32))
def own_fIB2 (j : Nat) : Int32 := (((((Int32.ofNat j) / (4 : Int32)) % (2 : Int32)) * (2 : Int32)) + (((Int32.ofNat j) % (4 : Int32)) % (2 : Int32)))
theorem own_bd2 : ∀ j, j < 16 → (¬ own_fR2 j < 0 ∧ (own_fR2 j).toNatClampNeg < 12) ∧ (¬ own_fC2 j < 0 ∧ (own_fC2 j).toNatClampNeg < 12) ∧ (¬ own_fB2 j < 0 ∧ (own_fB2 j).toNatClampNeg < 12) ∧ (¬ own_fIR2 j < 0 ∧ (own_fIR2 j).toNatClampNeg < 4) ∧ (¬ own_fIC2 j < 0 ∧ (own_fIC2 j).toNatClampNeg < 4) ∧ (¬ own_fIB2 j < 0 ∧ (own_fIB2 j).toNatClampNeg < 4) := by decide +kernel
def own_QGeo2 (Z : State) (t0 : Addr) (h0 : Heap) (n0 : Nat) (v : Option Value) (h : Heap) (L : List Loc) : Prop := v = none ∧ Fr n0 L ∧ Keep h0 h [t0] ∧ ∃ bR bC bB g : Addr, h0.size ≤ bR ∧ h0.size ≤ bC ∧ h0.size ≤ bB ∧ h0.size ≤ g ∧ Fld Z h t0 "com/example/onda/onda/sudoku/Geometry" "size" "I" (.int (4 : Int32)) ∧ Fld Z h t0 "com/example/onda/onda/sudoku/Geometry" "rowOf" "[I" (.ref bR) ∧ Fld Z h t0 "com/example/onda/onda/sudoku/Geometry" "columnOf" "[I" (.ref bC) ∧ Fld Z h t0 "com/example/onda/onda/sudoku/Geometry" "boxOf" "[I" (.ref bB) ∧ Fld Z h t0 "com/example/onda/onda/sudoku/Geometry" "cellsOf" "[[I" (.ref g) ∧ own_Ar Z h bR .int ((own_L own_fR2 16 16).map Value.int) ∧ own_Ar Z h bC .int ((own_L own_fC2 16 16).map Value.int) ∧ own_Ar Z h bB .int ((own_L own_fB2 16 16).map Value.int) ∧ own_Ar Z h g (.array .int) ((List.range 12).map fun j => Value.ref (g + 1 + j))
theorem d2g2_0 : decode prog_22_method_1_code 0 = .ok (.aload_n 0, 1) := by decide +kernel
theorem d2g2_1 : decode prog_22_method_1_code 1 = .ok (.invokespecial 1, 3) := by decide +kernel
theorem d2g2_4 : decode prog_22_method_1_code 4 = .ok (.aload_n 0, 1) := by decide +kernel
theorem d2g2_5 : decode prog_22_method_1_code 5 = .ok (.iload_n 1, 1) := by decide +kernel
theorem d2g2_6 : decode prog_22_method_1_code 6 = .ok (.iload_n 1, 1) := by decide +kernel
theorem d2g2_7 : decode prog_22_method_1_code 7 = .ok (.imul, 1) := by decide +kernel
theorem d2g2_8 : decode prog_22_method_1_code 8 = .ok (.putfield 7, 3) := by decide +kernel
theorem d2g2_11 : decode prog_22_method_1_code 11 = .ok (.aload_n 0, 1) := by decide +kernel
theorem d2g2_12 : decode prog_22_method_1_code 12 = .ok (.aload_n 0, 1) := by decide +kernel
theorem d2g2_13 : decode prog_22_method_1_code 13 = .ok (.getfield 7, 3) := by decide +kernel
theorem d2g2_16 : decode prog_22_method_1_code 16 = .ok (.aload_n 0, 1) := by decide +kernel
theorem d2g2_17 : decode prog_22_method_1_code 17 = .ok (.getfield 7, 3) := by decide +kernel
theorem d2g2_20 : decode prog_22_method_1_code 20 = .ok (.imul, 1) := by decide +kernel
theorem d2g2_21 : decode prog_22_method_1_code 21 = .ok (.newarray .int, 2) := by decide +kernel
theorem d2g2_23 : decode prog_22_method_1_code 23 = .ok (.putfield 13, 3) := by decide +kernel
theorem d2g2_26 : decode prog_22_method_1_code 26 = .ok (.aload_n 0, 1) := by decide +kernel
theorem d2g2_27 : decode prog_22_method_1_code 27 = .ok (.aload_n 0, 1) := by decide +kernel
theorem d2g2_28 : decode prog_22_method_1_code 28 = .ok (.getfield 7, 3) := by decide +kernel
theorem d2g2_31 : decode prog_22_method_1_code 31 = .ok (.aload_n 0, 1) := by decide +kernel
theorem d2g2_32 : decode prog_22_method_1_code 32 = .ok (.getfield 7, 3) := by decide +kernel
theorem d2g2_35 : decode prog_22_method_1_code 35 = .ok (.imul, 1) := by decide +kernel
theorem d2g2_36 : decode prog_22_method_1_code 36 = .ok (.newarray .int, 2) := by decide +kernel
theorem d2g2_38 : decode prog_22_method_1_code 38 = .ok (.putfield 17, 3) := by decide +kernel
theorem d2g2_41 : decode prog_22_method_1_code 41 = .ok (.aload_n 0, 1) := by decide +kernel
theorem d2g2_42 : decode prog_22_method_1_code 42 = .ok (.aload_n 0, 1) := by decide +kernel
theorem d2g2_43 : decode prog_22_method_1_code 43 = .ok (.getfield 7, 3) := by decide +kernel
theorem d2g2_46 : decode prog_22_method_1_code 46 = .ok (.aload_n 0, 1) := by decide +kernel
theorem d2g2_47 : decode prog_22_method_1_code 47 = .ok (.getfield 7, 3) := by decide +kernel
theorem d2g2_50 : decode prog_22_method_1_code 50 = .ok (.imul, 1) := by decide +kernel
theorem d2g2_51 : decode prog_22_method_1_code 51 = .ok (.newarray .int, 2) := by decide +kernel
theorem d2g2_53 : decode prog_22_method_1_code 53 = .ok (.putfield 20, 3) := by decide +kernel
theorem d2g2_56 : decode prog_22_method_1_code 56 = .ok (.aload_n 0, 1) := by decide +kernel
theorem d2g2_57 : decode prog_22_method_1_code 57 = .ok (.iconst 3, 1) := by decide +kernel
theorem d2g2_58 : decode prog_22_method_1_code 58 = .ok (.aload_n 0, 1) := by decide +kernel
theorem d2g2_59 : decode prog_22_method_1_code 59 = .ok (.getfield 7, 3) := by decide +kernel
theorem d2g2_62 : decode prog_22_method_1_code 62 = .ok (.imul, 1) := by decide +kernel
theorem d2g2_63 : decode prog_22_method_1_code 63 = .ok (.aload_n 0, 1) := by decide +kernel
theorem d2g2_64 : decode prog_22_method_1_code 64 = .ok (.getfield 7, 3) := by decide +kernel
theorem d2g2_67 : decode prog_22_method_1_code 67 = .ok (.multianewarray 23 2, 4) := by decide +kernel
theorem d2g2_71 : decode prog_22_method_1_code 71 = .ok (.putfield 25, 3) := by decide +kernel
theorem d2g2_74 : decode prog_22_method_1_code 74 = .ok (.aload_n 0, 1) := by decide +kernel
theorem d2g2_75 : decode prog_22_method_1_code 75 = .ok (.aload_n 0, 1) := by decide +kernel
theorem d2g2_76 : decode prog_22_method_1_code 76 = .ok (.getfield 7, 3) := by decide +kernel
theorem d2g2_79 : decode prog_22_method_1_code 79 = .ok (.aload_n 0, 1) := by decide +kernel
theorem d2g2_80 : decode prog_22_method_1_code 80 = .ok (.getfield 7, 3) := by decide +kernel
theorem d2g2_83 : decode prog_22_method_1_code 83 = .ok (.imul, 1) := by decide +kernel
theorem d2g2_84 : decode prog_22_method_1_code 84 = .ok (.newarray .int, 2) := by decide +kernel
theorem d2g2_86 : decode prog_22_method_1_code 86 = .ok (.putfield 28, 3) := by decide +kernel
theorem d2g2_89 : decode prog_22_method_1_code 89 = .ok (.aload_n 0, 1) := by decide +kernel
theorem d2g2_90 : decode prog_22_method_1_code 90 = .ok (.aload_n 0, 1) := by decide +kernel
theorem d2g2_91 : decode prog_22_method_1_code 91 = .ok (.getfield 7, 3) := by decide +kernel
theorem d2g2_94 : decode prog_22_method_1_code 94 = .ok (.aload_n 0, 1) := by decide +kernel
theorem d2g2_95 : decode prog_22_method_1_code 95 = .ok (.getfield 7, 3) := by decide +kernel
theorem d2g2_98 : decode prog_22_method_1_code 98 = .ok (.imul, 1) := by decide +kernel
theorem d2g2_99 : decode prog_22_method_1_code 99 = .ok (.newarray .int, 2) := by decide +kernel
theorem d2g2_101 : decode prog_22_method_1_code 101 = .ok (.putfield 31, 3) := by decide +kernel
theorem d2g2_104 : decode prog_22_method_1_code 104 = .ok (.aload_n 0, 1) := by decide +kernel
theorem d2g2_105 : decode prog_22_method_1_code 105 = .ok (.aload_n 0, 1) := by decide +kernel
theorem d2g2_106 : decode prog_22_method_1_code 106 = .ok (.getfield 7, 3) := by decide +kernel
theorem d2g2_109 : decode prog_22_method_1_code 109 = .ok (.aload_n 0, 1) := by decide +kernel
theorem d2g2_110 : decode prog_22_method_1_code 110 = .ok (.getfield 7, 3) := by decide +kernel
theorem d2g2_113 : decode prog_22_method_1_code 113 = .ok (.imul, 1) := by decide +kernel
theorem d2g2_114 : decode prog_22_method_1_code 114 = .ok (.newarray .int, 2) := by decide +kernel
theorem d2g2_116 : decode prog_22_method_1_code 116 = .ok (.putfield 34, 3) := by decide +kernel
theorem d2g2_119 : decode prog_22_method_1_code 119 = .ok (.iconst 0, 1) := by decide +kernel
theorem d2g2_120 : decode prog_22_method_1_code 120 = .ok (.istore_n 2, 1) := by decide +kernel
theorem d2g2_121 : decode prog_22_method_1_code 121 = .ok (.iload_n 2, 1) := by decide +kernel
theorem d2g2_122 : decode prog_22_method_1_code 122 = .ok (.aload_n 0, 1) := by decide +kernel
theorem d2g2_123 : decode prog_22_method_1_code 123 = .ok (.getfield 7, 3) := by decide +kernel
theorem d2g2_126 : decode prog_22_method_1_code 126 = .ok (.aload_n 0, 1) := by decide +kernel
theorem d2g2_127 : decode prog_22_method_1_code 127 = .ok (.getfield 7, 3) := by decide +kernel
theorem d2g2_130 : decode prog_22_method_1_code 130 = .ok (.imul, 1) := by decide +kernel
theorem d2g2_131 : decode prog_22_method_1_code 131 = .ok (.if_icmp .ge 155, 3) := by decide +kernel
theorem d2g2_134 : decode prog_22_method_1_code 134 = .ok (.iload_n 2, 1) := by decide +kernel
theorem d2g2_135 : decode prog_22_method_1_code 135 = .ok (.aload_n 0, 1) := by decide +kernel
theorem d2g2_136 : decode prog_22_method_1_code 136 = .ok (.getfield 7, 3) := by decide +kernel
theorem d2g2_139 : decode prog_22_method_1_code 139 = .ok (.idiv, 1) := by decide +kernel
theorem d2g2_140 : decode prog_22_method_1_code 140 = .ok (.istore_n 3, 1) := by decide +kernel
theorem d2g2_141 : decode prog_22_method_1_code 141 = .ok (.iload_n 2, 1) := by decide +kernel
theorem d2g2_142 : decode prog_22_method_1_code 142 = .ok (.aload_n 0, 1) := by decide +kernel
theorem d2g2_143 : decode prog_22_method_1_code 143 = .ok (.getfield 7, 3) := by decide +kernel
theorem d2g2_146 : decode prog_22_method_1_code 146 = .ok (.irem, 1) := by decide +kernel
theorem d2g2_147 : decode prog_22_method_1_code 147 = .ok (.istore 4, 2) := by decide +kernel
theorem d2g2_149 : decode prog_22_method_1_code 149 = .ok (.aload_n 0, 1) := by decide +kernel
theorem d2g2_150 : decode prog_22_method_1_code 150 = .ok (.getfield 13, 3) := by decide +kernel
theorem d2g2_153 : decode prog_22_method_1_code 153 = .ok (.iload_n 2, 1) := by decide +kernel
theorem d2g2_154 : decode prog_22_method_1_code 154 = .ok (.iload_n 3, 1) := by decide +kernel
theorem d2g2_155 : decode prog_22_method_1_code 155 = .ok (.iastore, 1) := by decide +kernel
theorem d2g2_156 : decode prog_22_method_1_code 156 = .ok (.aload_n 0, 1) := by decide +kernel
theorem d2g2_157 : decode prog_22_method_1_code 157 = .ok (.getfield 17, 3) := by decide +kernel
theorem d2g2_160 : decode prog_22_method_1_code 160 = .ok (.iload_n 2, 1) := by decide +kernel
theorem d2g2_161 : decode prog_22_method_1_code 161 = .ok (.aload_n 0, 1) := by decide +kernel
theorem d2g2_162 : decode prog_22_method_1_code 162 = .ok (.getfield 7, 3) := by decide +kernel
theorem d2g2_165 : decode prog_22_method_1_code 165 = .ok (.iload 4, 2) := by decide +kernel
theorem d2g2_167 : decode prog_22_method_1_code 167 = .ok (.iadd, 1) := by decide +kernel
theorem d2g2_168 : decode prog_22_method_1_code 168 = .ok (.iastore, 1) := by decide +kernel
theorem d2g2_169 : decode prog_22_method_1_code 169 = .ok (.aload_n 0, 1) := by decide +kernel
theorem d2g2_170 : decode prog_22_method_1_code 170 = .ok (.getfield 20, 3) := by decide +kernel
theorem d2g2_173 : decode prog_22_method_1_code 173 = .ok (.iload_n 2, 1) := by decide +kernel
theorem d2g2_174 : decode prog_22_method_1_code 174 = .ok (.iconst 2, 1) := by decide +kernel
theorem d2g2_175 : decode prog_22_method_1_code 175 = .ok (.aload_n 0, 1) := by decide +kernel
theorem d2g2_176 : decode prog_22_method_1_code 176 = .ok (.getfield 7, 3) := by decide +kernel
theorem d2g2_179 : decode prog_22_method_1_code 179 = .ok (.imul, 1) := by decide +kernel
theorem d2g2_180 : decode prog_22_method_1_code 180 = .ok (.iload_n 3, 1) := by decide +kernel
theorem d2g2_181 : decode prog_22_method_1_code 181 = .ok (.iload_n 1, 1) := by decide +kernel
theorem d2g2_182 : decode prog_22_method_1_code 182 = .ok (.idiv, 1) := by decide +kernel
theorem d2g2_183 : decode prog_22_method_1_code 183 = .ok (.iload_n 1, 1) := by decide +kernel
theorem d2g2_184 : decode prog_22_method_1_code 184 = .ok (.imul, 1) := by decide +kernel
theorem d2g2_185 : decode prog_22_method_1_code 185 = .ok (.iadd, 1) := by decide +kernel
theorem d2g2_186 : decode prog_22_method_1_code 186 = .ok (.iload 4, 2) := by decide +kernel
theorem d2g2_188 : decode prog_22_method_1_code 188 = .ok (.iload_n 1, 1) := by decide +kernel
theorem d2g2_189 : decode prog_22_method_1_code 189 = .ok (.idiv, 1) := by decide +kernel
theorem d2g2_190 : decode prog_22_method_1_code 190 = .ok (.iadd, 1) := by decide +kernel
theorem d2g2_191 : decode prog_22_method_1_code 191 = .ok (.iastore, 1) := by decide +kernel
theorem d2g2_192 : decode prog_22_method_1_code 192 = .ok (.aload_n 0, 1) := by decide +kernel
theorem d2g2_193 : decode prog_22_method_1_code 193 = .ok (.getfield 28, 3) := by decide +kernel
theorem d2g2_196 : decode prog_22_method_1_code 196 = .ok (.iload_n 2, 1) := by decide +kernel
theorem d2g2_197 : decode prog_22_method_1_code 197 = .ok (.iload 4, 2) := by decide +kernel
theorem d2g2_199 : decode prog_22_method_1_code 199 = .ok (.iastore, 1) := by decide +kernel
theorem d2g2_200 : decode prog_22_method_1_code 200 = .ok (.aload_n 0, 1) := by decide +kernel
theorem d2g2_201 : decode prog_22_method_1_code 201 = .ok (.getfield 31, 3) := by decide +kernel
theorem d2g2_204 : decode prog_22_method_1_code 204 = .ok (.iload_n 2, 1) := by decide +kernel
theorem d2g2_205 : decode prog_22_method_1_code 205 = .ok (.iload_n 3, 1) := by decide +kernel
theorem d2g2_206 : decode prog_22_method_1_code 206 = .ok (.iastore, 1) := by decide +kernel
theorem d2g2_207 : decode prog_22_method_1_code 207 = .ok (.aload_n 0, 1) := by decide +kernel
theorem d2g2_208 : decode prog_22_method_1_code 208 = .ok (.getfield 34, 3) := by decide +kernel
theorem d2g2_211 : decode prog_22_method_1_code 211 = .ok (.iload_n 2, 1) := by decide +kernel
theorem d2g2_212 : decode prog_22_method_1_code 212 = .ok (.iload_n 3, 1) := by decide +kernel
theorem d2g2_213 : decode prog_22_method_1_code 213 = .ok (.iload_n 1, 1) := by decide +kernel
theorem d2g2_214 : decode prog_22_method_1_code 214 = .ok (.irem, 1) := by decide +kernel
theorem d2g2_215 : decode prog_22_method_1_code 215 = .ok (.iload_n 1, 1) := by decide +kernel
theorem d2g2_216 : decode prog_22_method_1_code 216 = .ok (.imul, 1) := by decide +kernel
theorem d2g2_217 : decode prog_22_method_1_code 217 = .ok (.iload 4, 2) := by decide +kernel
theorem d2g2_219 : decode prog_22_method_1_code 219 = .ok (.iload_n 1, 1) := by decide +kernel
theorem d2g2_220 : decode prog_22_method_1_code 220 = .ok (.irem, 1) := by decide +kernel
theorem d2g2_221 : decode prog_22_method_1_code 221 = .ok (.iadd, 1) := by decide +kernel
theorem d2g2_222 : decode prog_22_method_1_code 222 = .ok (.iastore, 1) := by decide +kernel
theorem d2g2_223 : decode prog_22_method_1_code 223 = .ok (.aload_n 0, 1) := by decide +kernel
theorem d2g2_224 : decode prog_22_method_1_code 224 = .ok (.getfield 25, 3) := by decide +kernel
theorem d2g2_227 : decode prog_22_method_1_code 227 = .ok (.aload_n 0, 1) := by decide +kernel
theorem d2g2_228 : decode prog_22_method_1_code 228 = .ok (.getfield 13, 3) := by decide +kernel
theorem d2g2_231 : decode prog_22_method_1_code 231 = .ok (.iload_n 2, 1) := by decide +kernel
theorem d2g2_232 : decode prog_22_method_1_code 232 = .ok (.iaload, 1) := by decide +kernel
theorem d2g2_233 : decode prog_22_method_1_code 233 = .ok (.aaload, 1) := by decide +kernel
theorem d2g2_234 : decode prog_22_method_1_code 234 = .ok (.aload_n 0, 1) := by decide +kernel
theorem d2g2_235 : decode prog_22_method_1_code 235 = .ok (.getfield 28, 3) := by decide +kernel
theorem d2g2_238 : decode prog_22_method_1_code 238 = .ok (.iload_n 2, 1) := by decide +kernel
theorem d2g2_239 : decode prog_22_method_1_code 239 = .ok (.iaload, 1) := by decide +kernel
theorem d2g2_240 : decode prog_22_method_1_code 240 = .ok (.iload_n 2, 1) := by decide +kernel
theorem d2g2_241 : decode prog_22_method_1_code 241 = .ok (.iastore, 1) := by decide +kernel
theorem d2g2_242 : decode prog_22_method_1_code 242 = .ok (.aload_n 0, 1) := by decide +kernel
theorem d2g2_243 : decode prog_22_method_1_code 243 = .ok (.getfield 25, 3) := by decide +kernel
theorem d2g2_246 : decode prog_22_method_1_code 246 = .ok (.aload_n 0, 1) := by decide +kernel
theorem d2g2_247 : decode prog_22_method_1_code 247 = .ok (.getfield 17, 3) := by decide +kernel
theorem d2g2_250 : decode prog_22_method_1_code 250 = .ok (.iload_n 2, 1) := by decide +kernel
theorem d2g2_251 : decode prog_22_method_1_code 251 = .ok (.iaload, 1) := by decide +kernel
theorem d2g2_252 : decode prog_22_method_1_code 252 = .ok (.aaload, 1) := by decide +kernel
theorem d2g2_253 : decode prog_22_method_1_code 253 = .ok (.aload_n 0, 1) := by decide +kernel
theorem d2g2_254 : decode prog_22_method_1_code 254 = .ok (.getfield 31, 3) := by decide +kernel
theorem d2g2_257 : decode prog_22_method_1_code 257 = .ok (.iload_n 2, 1) := by decide +kernel
theorem d2g2_258 : decode prog_22_method_1_code 258 = .ok (.iaload, 1) := by decide +kernel
theorem d2g2_259 : decode prog_22_method_1_code 259 = .ok (.iload_n 2, 1) := by decide +kernel
theorem d2g2_260 : decode prog_22_method_1_code 260 = .ok (.iastore, 1) := by decide +kernel
theorem d2g2_261 : decode prog_22_method_1_code 261 = .ok (.aload_n 0, 1) := by decide +kernel
theorem d2g2_262 : decode prog_22_method_1_code 262 = .ok (.getfield 25, 3) := by decide +kernel
theorem d2g2_265 : decode prog_22_method_1_code 265 = .ok (.aload_n 0, 1) := by decide +kernel
theorem d2g2_266 : decode prog_22_method_1_code 266 = .ok (.getfield 20, 3) := by decide +kernel
theorem d2g2_269 : decode prog_22_method_1_code 269 = .ok (.iload_n 2, 1) := by decide +kernel
theorem d2g2_270 : decode prog_22_method_1_code 270 = .ok (.iaload, 1) := by decide +kernel
theorem d2g2_271 : decode prog_22_method_1_code 271 = .ok (.aaload, 1) := by decide +kernel
theorem d2g2_272 : decode prog_22_method_1_code 272 = .ok (.aload_n 0, 1) := by decide +kernel
theorem d2g2_273 : decode prog_22_method_1_code 273 = .ok (.getfield 34, 3) := by decide +kernel
theorem d2g2_276 : decode prog_22_method_1_code 276 = .ok (.iload_n 2, 1) := by decide +kernel
theorem d2g2_277 : decode prog_22_method_1_code 277 = .ok (.iaload, 1) := by decide +kernel
theorem d2g2_278 : decode prog_22_method_1_code 278 = .ok (.iload_n 2, 1) := by decide +kernel
theorem d2g2_279 : decode prog_22_method_1_code 279 = .ok (.iastore, 1) := by decide +kernel
theorem d2g2_280 : decode prog_22_method_1_code 280 = .ok (.iinc 2 1, 3) := by decide +kernel
theorem d2g2_283 : decode prog_22_method_1_code 283 = .ok (.goto (-162), 3) := by decide +kernel
theorem d2g2_286 : decode prog_22_method_1_code 286 = .ok (.return_, 1) := by decide +kernel
theorem pn_2g2 : plainFor (⟨"com/example/onda/onda/sudoku/Geometry", "<init>", "(I)V"⟩ : MethodName) = true := plainFor_of_name (by show plainName "com/example/onda/onda/sudoku/Geometry" = true; first | (simp [plainName, overriddenIn]; done) | decide +kernel)
theorem ef_2g2 (m : MethodId) (x0 : Addr) (x1 : Int32) : entryFrame m #[(.ref x0), (.int x1)] 5 = mkF m 0 #[.val (.ref x0), .val (.int x1), .unset, .unset, .unset] [] := by first | (simp [entryFrame, mkF, argsToLocals, Value.category]; done) | rfl
set_option maxRecDepth 65536 in
set_option maxHeartbeats 40000000 in
theorem rm2g2 (l : Launch) (Z : State) (a0 : Array Value) (hw : ∀ d ∈ tables_1, d.before a0 Z = true) (t0 : Addr) (h0 : Heap) (n0 : Nat) (Z0 : n0 ≤ h0.size) (E_t0 : Exa Z h0 t0 "com/example/onda/onda/sudoku/Geometry") (F_size : Fld Z h0 t0 "com/example/onda/onda/sudoku/Geometry" "size" "I" (.int (0 : Int32))) (F_rowOf : Fld Z h0 t0 "com/example/onda/onda/sudoku/Geometry" "rowOf" "[I" .null) (F_columnOf : Fld Z h0 t0 "com/example/onda/onda/sudoku/Geometry" "columnOf" "[I" .null) (F_boxOf : Fld Z h0 t0 "com/example/onda/onda/sudoku/Geometry" "boxOf" "[I" .null) (F_cellsOf : Fld Z h0 t0 "com/example/onda/onda/sudoku/Geometry" "cellsOf" "[[I" .null) (F_indexInRow : Fld Z h0 t0 "com/example/onda/onda/sudoku/Geometry" "indexInRow" "[I" .null) (F_indexInColumn : Fld Z h0 t0 "com/example/onda/onda/sudoku/Geometry" "indexInColumn" "[I" .null) (F_indexInBox : Fld Z h0 t0 "com/example/onda/onda/sudoku/Geometry" "indexInBox" "[I" .null) (g_t0 : n0 ≤ t0) :
    own_Met l (⟨"com/example/onda/onda/sudoku/Geometry", "<init>", "(I)V"⟩ : MethodName) prog_22_method_1_code 5 none ({ frames := 1, cells := 19, slots := 156, locals := 12 } : Room) Z [] #[(.ref t0), (.int (2 : Int32))] h0 (own_QGeo2 Z t0 h0 n0) := by
  refine own_enter pn_2g2 ?_
  intro p e s m below meth c s₁ hx hby hml hown hnm hret hlk hZ e0 X0
  rw [ef_2g2]
  have N0 := Fr.nil n0
  show own_Fin _ _ _ _ _ _ _ (s₁.setTop (mkF m 0 #[.val (.ref t0), .val (.int (2 : Int32)), .unset, .unset, .unset] []))
  refine own_go (fun _ kk => XS.aloadN X0.here hx rfl (hb hby d2g2_0) rfl rfl kk) ?_
  show own_Fin _ _ _ _ _ _ _ (s₁.setTop (mkF m 1 #[.val (.ref t0), .val (.int (2 : Int32)), .unset, .unset, .unset] [(.ref t0)]))
  refine own_initO X0 hx hZ hown (hw _ (List.mem_of_getElem? (i := 14) rfl)) (hw _ (List.mem_of_getElem? (i := 15) rfl)) (hw _ (List.mem_of_getElem? (i := 16) rfl)) e0 (by rw [hml]; rfl) (hb hby d2g2_1) (by decide) (W := 0) (Nat.le_of_eq rfl) (by decide) ?_
  intro T1 X1 e1
  show own_Fin _ _ _ _ _ _ _ (T1.setTop (mkF m 4 #[.val (.ref t0), .val (.int (2 : Int32)), .unset, .unset, .unset] []))
  refine own_go (fun _ kk => XS.aloadN X1.here hx rfl (hb hby d2g2_4) rfl rfl (XS.iloadN X1.here hx rfl (hb hby d2g2_5) rfl (XS.iloadN X1.here hx rfl (hb hby d2g2_6) rfl (XS.imul X1.here hx rfl (hb hby d2g2_7) rfl kk)))) ?_
  show own_Fin _ _ _ _ _ _ _ (T1.setTop (mkF m 8 #[.val (.ref t0), .val (.int (2 : Int32)), .unset, .unset, .unset] [(.int (4 : Int32)), (.ref t0)]))
  refine own_putF X1 hx hZ hown (host := "") (Or.inl (hw _ (List.mem_of_getElem? (i := 17) rfl))) Via.refl e1 F_size E_t0 (Or.inr ⟨(hw _ (List.mem_of_getElem? (i := 18) rfl)), rfl, hnm⟩) (hw _ (List.mem_of_getElem? (i := 9) rfl)) (ty := .int) (by decide) rfl rfl (hb hby d2g2_8) ?_
  intro T2 h2 X2 e2 W2
  have f3 := E_t0.wr W2
  have f5 := F_rowOf.other W2 (Or.inr (slot_ne (Or.inr (hw _ (List.mem_of_getElem? (i := 21) rfl))) (Or.inr (hw _ (List.mem_of_getElem? (i := 18) rfl))) (by decide) (t := (.array .int)) (t' := .int) (by decide) (by decide)))
  have f6 := F_columnOf.other W2 (Or.inr (slot_ne (Or.inr (hw _ (List.mem_of_getElem? (i := 23) rfl))) (Or.inr (hw _ (List.mem_of_getElem? (i := 18) rfl))) (by decide) (t := (.array .int)) (t' := .int) (by decide) (by decide)))
  have f7 := F_boxOf.other W2 (Or.inr (slot_ne (Or.inr (hw _ (List.mem_of_getElem? (i := 25) rfl))) (Or.inr (hw _ (List.mem_of_getElem? (i := 18) rfl))) (by decide) (t := (.array .int)) (t' := .int) (by decide) (by decide)))
  have f8 := F_cellsOf.other W2 (Or.inr (slot_ne (Or.inr (hw _ (List.mem_of_getElem? (i := 29) rfl))) (Or.inr (hw _ (List.mem_of_getElem? (i := 18) rfl))) (by decide) (t := (.array (.array .int))) (t' := .int) (by decide) (by decide)))
  have f9 := F_indexInRow.other W2 (Or.inr (slot_ne (Or.inr (hw _ (List.mem_of_getElem? (i := 31) rfl))) (Or.inr (hw _ (List.mem_of_getElem? (i := 18) rfl))) (by decide) (t := (.array .int)) (t' := .int) (by decide) (by decide)))
  have f10 := F_indexInColumn.other W2 (Or.inr (slot_ne (Or.inr (hw _ (List.mem_of_getElem? (i := 33) rfl))) (Or.inr (hw _ (List.mem_of_getElem? (i := 18) rfl))) (by decide) (t := (.array .int)) (t' := .int) (by decide) (by decide)))
  have f11 := F_indexInBox.other W2 (Or.inr (slot_ne (Or.inr (hw _ (List.mem_of_getElem? (i := 35) rfl))) (Or.inr (hw _ (List.mem_of_getElem? (i := 18) rfl))) (by decide) (t := (.array .int)) (t' := .int) (by decide) (by decide)))
  have Z2 := Nat.le_trans Z0 (Keep.of_wr W2).1
  have K2 := (Keep.refl h0 [t0]).wr W2 (Or.inl (List.mem_of_getElem? (i := 0) rfl))
  have f12 := F_size.same W2
  have N2 := Fr.snoc X2 N0 g_t0
  show own_Fin _ _ _ _ _ _ _ (T2.setTop (mkF m 11 #[.val (.ref t0), .val (.int (2 : Int32)), .unset, .unset, .unset] []))
  refine own_go (fun _ kk => XS.aloadN X2.here hx rfl (hb hby d2g2_11) rfl rfl (XS.aloadN X2.here hx rfl (hb hby d2g2_12) rfl rfl kk)) ?_
  show own_Fin _ _ _ _ _ _ _ (T2.setTop (mkF m 13 #[.val (.ref t0), .val (.int (2 : Int32)), .unset, .unset, .unset] [(.ref t0), (.ref t0)]))
  refine own_getF X2 hx hZ hown (host := "") (Or.inl (hw _ (List.mem_of_getElem? (i := 17) rfl))) Via.refl e2 f12 (hb hby d2g2_13) ?_
  intro T13 X13 e13
  show own_Fin _ _ _ _ _ _ _ (T13.setTop (mkF m 16 #[.val (.ref t0), .val (.int (2 : Int32)), .unset, .unset, .unset] [(.int (4 : Int32)), (.ref t0)]))
  refine own_go (fun _ kk => XS.aloadN X13.here hx rfl (hb hby d2g2_16) rfl rfl kk) ?_
  show own_Fin _ _ _ _ _ _ _ (T13.setTop (mkF m 17 #[.val (.ref t0), .val (.int (2 : Int32)), .unset, .unset, .unset] [(.ref t0), (.int (4 : Int32)), (.ref t0)]))
  refine own_getF X13 hx hZ hown (host := "") (Or.inl (hw _ (List.mem_of_getElem? (i := 17) rfl))) Via.refl e13 f12 (hb hby d2g2_17) ?_
  intro T14 X14 e14
  show own_Fin _ _ _ _ _ _ _ (T14.setTop (mkF m 20 #[.val (.ref t0), .val (.int (2 : Int32)), .unset, .unset, .unset] [(.int (4 : Int32)), (.int (4 : Int32)), (.ref t0)]))
  refine own_go (fun _ kk => XS.imul X14.here hx rfl (hb hby d2g2_20) rfl kk) ?_
  show own_Fin _ _ _ _ _ _ _ (T14.setTop (mkF m 21 #[.val (.ref t0), .val (.int (2 : Int32)), .unset, .unset, .unset] [(.int (16 : Int32)), (.ref t0)]))
  refine own_newI X14 hx hZ (hw _ (List.mem_of_getElem? (i := 19) rfl)) e14 (hb hby d2g2_21) (by decide) (cap := 16) (by decide) (by decide) (by decide) (by decide) ?_
  intro T15 h15 b15 g15 X15 e15 E15 A15 D15
  have g_b15 : n0 ≤ b15 := Nat.le_trans Z2 (Nat.le_of_eq g15.symm)
  have ne_t0_b15 : t0 ≠ b15 := Nat.ne_of_lt (Nat.lt_of_lt_of_le f3.lt (Nat.le_of_eq g15.symm))
  have f16 := f3.ext E15
  have f17 := f12.ext E15
  have f18 := f5.ext E15
  have f19 := f6.ext E15
  have f20 := f7.ext E15
  have f21 := f8.ext E15
  have f22 := f9.ext E15
  have f23 := f10.ext E15
  have f24 := f11.ext E15
  have Z15 := Nat.le_trans Z2 E15.1
  have sz_b15 : h0.size ≤ b15 := Nat.le_trans K2.1 (Nat.le_of_eq g15.symm)
  have K15 := K2.ext E15
  have A15 : own_Ar Z h15 b15 .int (List.map Value.int (List.replicate 16 (0 : Int32))) := A15
  show own_Fin _ _ _ _ _ _ _ (T15.setTop (mkF m 23 #[.val (.ref t0), .val (.int (2 : Int32)), .unset, .unset, .unset] [(.ref b15), (.ref t0)]))
  refine own_putF X15 hx hZ hown (host := "") (Or.inl (hw _ (List.mem_of_getElem? (i := 20) rfl))) Via.refl e15 f18 f16 (Or.inr ⟨(hw _ (List.mem_of_getElem? (i := 21) rfl)), rfl, hnm⟩) (hw _ (List.mem_of_getElem? (i := 9) rfl)) (ty := (.array .int)) (by decide) rfl rfl (hb hby d2g2_23) ?_
  intro T25 h25 X25 e25 W25
  have f26 := f16.wr W25
  have f27 := f17.other W25 (Or.inr (slot_ne (Or.inr (hw _ (List.mem_of_getElem? (i := 18) rfl))) (Or.inr (hw _ (List.mem_of_getElem? (i := 21) rfl))) (by decide) (t := .int) (t' := (.array .int)) (by decide) (by decide)))
  have f29 := f19.other W25 (Or.inr (slot_ne (Or.inr (hw _ (List.mem_of_getElem? (i := 23) rfl))) (Or.inr (hw _ (List.mem_of_getElem? (i := 21) rfl))) (by decide) (t := (.array .int)) (t' := (.array .int)) (by decide) (by decide)))
  have f30 := f20.other W25 (Or.inr (slot_ne (Or.inr (hw _ (List.mem_of_getElem? (i := 25) rfl))) (Or.inr (hw _ (List.mem_of_getElem? (i := 21) rfl))) (by decide) (t := (.array .int)) (t' := (.array .int)) (by decide) (by decide)))
  have f31 := f21.other W25 (Or.inr (slot_ne (Or.inr (hw _ (List.mem_of_getElem? (i := 29) rfl))) (Or.inr (hw _ (List.mem_of_getElem? (i := 21) rfl))) (by decide) (t := (.array (.array .int))) (t' := (.array .int)) (by decide) (by decide)))
  have f32 := f22.other W25 (Or.inr (slot_ne (Or.inr (hw _ (List.mem_of_getElem? (i := 31) rfl))) (Or.inr (hw _ (List.mem_of_getElem? (i := 21) rfl))) (by decide) (t := (.array .int)) (t' := (.array .int)) (by decide) (by decide)))
  have f33 := f23.other W25 (Or.inr (slot_ne (Or.inr (hw _ (List.mem_of_getElem? (i := 33) rfl))) (Or.inr (hw _ (List.mem_of_getElem? (i := 21) rfl))) (by decide) (t := (.array .int)) (t' := (.array .int)) (by decide) (by decide)))
  have f34 := f24.other W25 (Or.inr (slot_ne (Or.inr (hw _ (List.mem_of_getElem? (i := 35) rfl))) (Or.inr (hw _ (List.mem_of_getElem? (i := 21) rfl))) (by decide) (t := (.array .int)) (t' := (.array .int)) (by decide) (by decide)))
  have f35 := A15.other W25 (Ne.symm ne_t0_b15)
  have f36 := D15.wr W25
  have Z25 := Nat.le_trans Z15 (Keep.of_wr W25).1
  have K25 := K15.wr W25 (Or.inl (List.mem_of_getElem? (i := 0) rfl))
  have f37 := f18.same W25
  have N25 := Fr.snoc X25 N2 g_t0
  show own_Fin _ _ _ _ _ _ _ (T25.setTop (mkF m 26 #[.val (.ref t0), .val (.int (2 : Int32)), .unset, .unset, .unset] []))
  refine own_go (fun _ kk => XS.aloadN X25.here hx rfl (hb hby d2g2_26) rfl rfl (XS.aloadN X25.here hx rfl (hb hby d2g2_27) rfl rfl kk)) ?_
  show own_Fin _ _ _ _ _ _ _ (T25.setTop (mkF m 28 #[.val (.ref t0), .val (.int (2 : Int32)), .unset, .unset, .unset] [(.ref t0), (.ref t0)]))
  refine own_getF X25 hx hZ hown (host := "") (Or.inl (hw _ (List.mem_of_getElem? (i := 17) rfl))) Via.refl e25 f27 (hb hby d2g2_28) ?_
  intro T38 X38 e38
  show own_Fin _ _ _ _ _ _ _ (T38.setTop (mkF m 31 #[.val (.ref t0), .val (.int (2 : Int32)), .unset, .unset, .unset] [(.int (4 : Int32)), (.ref t0)]))
  refine own_go (fun _ kk => XS.aloadN X38.here hx rfl (hb hby d2g2_31) rfl rfl kk) ?_
  show own_Fin _ _ _ _ _ _ _ (T38.setTop (mkF m 32 #[.val (.ref t0), .val (.int (2 : Int32)), .unset, .unset, .unset] [(.ref t0), (.int (4 : Int32)), (.ref t0)]))
  refine own_getF X38 hx hZ hown (host := "") (Or.inl (hw _ (List.mem_of_getElem? (i := 17) rfl))) Via.refl e38 f27 (hb hby d2g2_32) ?_
  intro T39 X39 e39
  show own_Fin _ _ _ _ _ _ _ (T39.setTop (mkF m 35 #[.val (.ref t0), .val (.int (2 : Int32)), .unset, .unset, .unset] [(.int (4 : Int32)), (.int (4 : Int32)), (.ref t0)]))
  refine own_go (fun _ kk => XS.imul X39.here hx rfl (hb hby d2g2_35) rfl kk) ?_
  show own_Fin _ _ _ _ _ _ _ (T39.setTop (mkF m 36 #[.val (.ref t0), .val (.int (2 : Int32)), .unset, .unset, .unset] [(.int (16 : Int32)), (.ref t0)]))
  refine own_newI X39 hx hZ (hw _ (List.mem_of_getElem? (i := 19) rfl)) e39 (hb hby d2g2_36) (by decide) (cap := 16) (by decide) (by decide) (by decide) (by decide) ?_
  intro T40 h40 b40 g40 X40 e40 E40 A40 D40
  have g_b40 : n0 ≤ b40 := Nat.le_trans Z25 (Nat.le_of_eq g40.symm)
  have ne_t0_b40 : t0 ≠ b40 := Nat.ne_of_lt (Nat.lt_of_lt_of_le f26.lt (Nat.le_of_eq g40.symm))
  have ne_b15_b40 : b15 ≠ b40 := Nat.ne_of_lt (Nat.lt_of_lt_of_le f35.lt (Nat.le_of_eq g40.symm))
  have f41 := f26.ext E40
  have f42 := f27.ext E40
  have f43 := f37.ext E40
  have f44 := f29.ext E40
  have f45 := f30.ext E40
  have f46 := f31.ext E40
  have f47 := f32.ext E40
  have f48 := f33.ext E40
  have f49 := f34.ext E40
  have f50 := f35.ext E40
  have f51 := f36.ext E40
  have Z40 := Nat.le_trans Z25 E40.1
  have sz_b40 : h0.size ≤ b40 := Nat.le_trans K25.1 (Nat.le_of_eq g40.symm)
  have K40 := K25.ext E40
  have A40 : own_Ar Z h40 b40 .int (List.map Value.int (List.replicate 16 (0 : Int32))) := A40
  show own_Fin _ _ _ _ _ _ _ (T40.setTop (mkF m 38 #[.val (.ref t0), .val (.int (2 : Int32)), .unset, .unset, .unset] [(.ref b40), (.ref t0)]))
  refine own_putF X40 hx hZ hown (host := "") (Or.inl (hw _ (List.mem_of_getElem? (i := 22) rfl))) Via.refl e40 f44 f41 (Or.inr ⟨(hw _ (List.mem_of_getElem? (i := 23) rfl)), rfl, hnm⟩) (hw _ (List.mem_of_getElem? (i := 9) rfl)) (ty := (.array .int)) (by decide) rfl rfl (hb hby d2g2_38) ?_
  intro T52 h52 X52 e52 W52
  have f53 := f41.wr W52
  have f54 := f42.other W52 (Or.inr (slot_ne (Or.inr (hw _ (List.mem_of_getElem? (i := 18) rfl))) (Or.inr (hw _ (List.mem_of_getElem? (i := 23) rfl))) (by decide) (t := .int) (t' := (.array .int)) (by decide) (by decide)))
  have f55 := f43.other W52 (Or.inr (slot_ne (Or.inr (hw _ (List.mem_of_getElem? (i := 21) rfl))) (Or.inr (hw _ (List.mem_of_getElem? (i := 23) rfl))) (by decide) (t := (.array .int)) (t' := (.array .int)) (by decide) (by decide)))
  have f57 := f45.other W52 (Or.inr (slot_ne (Or.inr (hw _ (List.mem_of_getElem? (i := 25) rfl))) (Or.inr (hw _ (List.mem_of_getElem? (i := 23) rfl))) (by decide) (t := (.array .int)) (t' := (.array .int)) (by decide) (by decide)))
  have f58 := f46.other W52 (Or.inr (slot_ne (Or.inr (hw _ (List.mem_of_getElem? (i := 29) rfl))) (Or.inr (hw _ (List.mem_of_getElem? (i := 23) rfl))) (by decide) (t := (.array (.array .int))) (t' := (.array .int)) (by decide) (by decide)))
  have f59 := f47.other W52 (Or.inr (slot_ne (Or.inr (hw _ (List.mem_of_getElem? (i := 31) rfl))) (Or.inr (hw _ (List.mem_of_getElem? (i := 23) rfl))) (by decide) (t := (.array .int)) (t' := (.array .int)) (by decide) (by decide)))
  have f60 := f48.other W52 (Or.inr (slot_ne (Or.inr (hw _ (List.mem_of_getElem? (i := 33) rfl))) (Or.inr (hw _ (List.mem_of_getElem? (i := 23) rfl))) (by decide) (t := (.array .int)) (t' := (.array .int)) (by decide) (by decide)))
  have f61 := f49.other W52 (Or.inr (slot_ne (Or.inr (hw _ (List.mem_of_getElem? (i := 35) rfl))) (Or.inr (hw _ (List.mem_of_getElem? (i := 23) rfl))) (by decide) (t := (.array .int)) (t' := (.array .int)) (by decide) (by decide)))
  have f62 := f50.other W52 (Ne.symm ne_t0_b15)
  have f63 := f51.wr W52
  have f64 := A40.other W52 (Ne.symm ne_t0_b40)
  have f65 := D40.wr W52
  have Z52 := Nat.le_trans Z40 (Keep.of_wr W52).1
  have K52 := K40.wr W52 (Or.inl (List.mem_of_getElem? (i := 0) rfl))
  have f66 := f44.same W52
  have N52 := Fr.snoc X52 N25 g_t0
  show own_Fin _ _ _ _ _ _ _ (T52.setTop (mkF m 41 #[.val (.ref t0), .val (.int (2 : Int32)), .unset, .unset, .unset] []))
  refine own_go (fun _ kk => XS.aloadN X52.here hx rfl (hb hby d2g2_41) rfl rfl (XS.aloadN X52.here hx rfl (hb hby d2g2_42) rfl rfl kk)) ?_
  show own_Fin _ _ _ _ _ _ _ (T52.setTop (mkF m 43 #[.val (.ref t0), .val (.int (2 : Int32)), .unset, .unset, .unset] [(.ref t0), (.ref t0)]))
  refine own_getF X52 hx hZ hown (host := "") (Or.inl (hw _ (List.mem_of_getElem? (i := 17) rfl))) Via.refl e52 f54 (hb hby d2g2_43) ?_
  intro T67 X67 e67
  show own_Fin _ _ _ _ _ _ _ (T67.setTop (mkF m 46 #[.val (.ref t0), .val (.int (2 : Int32)), .unset, .unset, .unset] [(.int (4 : Int32)), (.ref t0)]))
  refine own_go (fun _ kk => XS.aloadN X67.here hx rfl (hb hby d2g2_46) rfl rfl kk) ?_
  show own_Fin _ _ _ _ _ _ _ (T67.setTop (mkF m 47 #[.val (.ref t0), .val (.int (2 : Int32)), .unset, .unset, .unset] [(.ref t0), (.int (4 : Int32)), (.ref t0)]))
  refine own_getF X67 hx hZ hown (host := "") (Or.inl (hw _ (List.mem_of_getElem? (i := 17) rfl))) Via.refl e67 f54 (hb hby d2g2_47) ?_
  intro T68 X68 e68
  show own_Fin _ _ _ _ _ _ _ (T68.setTop (mkF m 50 #[.val (.ref t0), .val (.int (2 : Int32)), .unset, .unset, .unset] [(.int (4 : Int32)), (.int (4 : Int32)), (.ref t0)]))
  refine own_go (fun _ kk => XS.imul X68.here hx rfl (hb hby d2g2_50) rfl kk) ?_
  show own_Fin _ _ _ _ _ _ _ (T68.setTop (mkF m 51 #[.val (.ref t0), .val (.int (2 : Int32)), .unset, .unset, .unset] [(.int (16 : Int32)), (.ref t0)]))
  refine own_newI X68 hx hZ (hw _ (List.mem_of_getElem? (i := 19) rfl)) e68 (hb hby d2g2_51) (by decide) (cap := 16) (by decide) (by decide) (by decide) (by decide) ?_
  intro T69 h69 b69 g69 X69 e69 E69 A69 D69
  have g_b69 : n0 ≤ b69 := Nat.le_trans Z52 (Nat.le_of_eq g69.symm)
  have ne_t0_b69 : t0 ≠ b69 := Nat.ne_of_lt (Nat.lt_of_lt_of_le f53.lt (Nat.le_of_eq g69.symm))
  have ne_b15_b69 : b15 ≠ b69 := Nat.ne_of_lt (Nat.lt_of_lt_of_le f62.lt (Nat.le_of_eq g69.symm))
  have ne_b40_b69 : b40 ≠ b69 := Nat.ne_of_lt (Nat.lt_of_lt_of_le f64.lt (Nat.le_of_eq g69.symm))
  have f70 := f53.ext E69
  have f71 := f54.ext E69
  have f72 := f55.ext E69
  have f73 := f66.ext E69
  have f74 := f57.ext E69
  have f75 := f58.ext E69
  have f76 := f59.ext E69
  have f77 := f60.ext E69
  have f78 := f61.ext E69
  have f79 := f62.ext E69
  have f80 := f63.ext E69
  have f81 := f64.ext E69
  have f82 := f65.ext E69
  have Z69 := Nat.le_trans Z52 E69.1
  have sz_b69 : h0.size ≤ b69 := Nat.le_trans K52.1 (Nat.le_of_eq g69.symm)
  have K69 := K52.ext E69
  have A69 : own_Ar Z h69 b69 .int (List.map Value.int (List.replicate 16 (0 : Int32))) := A69
  show own_Fin _ _ _ _ _ _ _ (T69.setTop (mkF m 53 #[.val (.ref t0), .val (.int (2 : Int32)), .unset, .unset, .unset] [(.ref b69), (.ref t0)]))
  refine own_putF X69 hx hZ hown (host := "") (Or.inl (hw _ (List.mem_of_getElem? (i := 24) rfl))) Via.refl e69 f74 f70 (Or.inr ⟨(hw _ (List.mem_of_getElem? (i := 25) rfl)), rfl, hnm⟩) (hw _ (List.mem_of_getElem? (i := 9) rfl)) (ty := (.array .int)) (by decide) rfl rfl (hb hby d2g2_53) ?_
  intro T83 h83 X83 e83 W83
  have f84 := f70.wr W83
  have f85 := f71.other W83 (Or.inr (slot_ne (Or.inr (hw _ (List.mem_of_getElem? (i := 18) rfl))) (Or.inr (hw _ (List.mem_of_getElem? (i := 25) rfl))) (by decide) (t := .int) (t' := (.array .int)) (by decide) (by decide)))
  have f86 := f72.other W83 (Or.inr (slot_ne (Or.inr (hw _ (List.mem_of_getElem? (i := 21) rfl))) (Or.inr (hw _ (List.mem_of_getElem? (i := 25) rfl))) (by decide) (t := (.array .int)) (t' := (.array .int)) (by decide) (by decide)))
  have f87 := f73.other W83 (Or.inr (slot_ne (Or.inr (hw _ (List.mem_of_getElem? (i := 23) rfl))) (Or.inr (hw _ (List.mem_of_getElem? (i := 25) rfl))) (by decide) (t := (.array .int)) (t' := (.array .int)) (by decide) (by decide)))
  have f89 := f75.other W83 (Or.inr (slot_ne (Or.inr (hw _ (List.mem_of_getElem? (i := 29) rfl))) (Or.inr (hw _ (List.mem_of_getElem? (i := 25) rfl))) (by decide) (t := (.array (.array .int))) (t' := (.array .int)) (by decide) (by decide)))
  have f90 := f76.other W83 (Or.inr (slot_ne (Or.inr (hw _ (List.mem_of_getElem? (i := 31) rfl))) (Or.inr (hw _ (List.mem_of_getElem? (i := 25) rfl))) (by decide) (t := (.array .int)) (t' := (.array .int)) (by decide) (by decide)))
  have f91 := f77.other W83 (Or.inr (slot_ne (Or.inr (hw _ (List.mem_of_getElem? (i := 33) rfl))) (Or.inr (hw _ (List.mem_of_getElem? (i := 25) rfl))) (by decide) (t := (.array .int)) (t' := (.array .int)) (by decide) (by decide)))
  have f92 := f78.other W83 (Or.inr (slot_ne (Or.inr (hw _ (List.mem_of_getElem? (i := 35) rfl))) (Or.inr (hw _ (List.mem_of_getElem? (i := 25) rfl))) (by decide) (t := (.array .int)) (t' := (.array .int)) (by decide) (by decide)))
  have f93 := f79.other W83 (Ne.symm ne_t0_b15)
  have f94 := f80.wr W83
  have f95 := f81.other W83 (Ne.symm ne_t0_b40)
  have f96 := f82.wr W83
  have f97 := A69.other W83 (Ne.symm ne_t0_b69)
  have f98 := D69.wr W83
  have Z83 := Nat.le_trans Z69 (Keep.of_wr W83).1
  have K83 := K69.wr W83 (Or.inl (List.mem_of_getElem? (i := 0) rfl))
  have f99 := f74.same W83
  have N83 := Fr.snoc X83 N52 g_t0
  show own_Fin _ _ _ _ _ _ _ (T83.setTop (mkF m 56 #[.val (.ref t0), .val (.int (2 : Int32)), .unset, .unset, .unset] []))
  refine own_go (fun _ kk => XS.aloadN X83.here hx rfl (hb hby d2g2_56) rfl rfl (XS.iconst X83.here hx rfl (hb hby d2g2_57) (XS.aloadN X83.here hx rfl (hb hby d2g2_58) rfl rfl kk))) ?_
  show own_Fin _ _ _ _ _ _ _ (T83.setTop (mkF m 59 #[.val (.ref t0), .val (.int (2 : Int32)), .unset, .unset, .unset] [(.ref t0), (.int (3 : Int32)), (.ref t0)]))
  refine own_getF X83 hx hZ hown (host := "") (Or.inl (hw _ (List.mem_of_getElem? (i := 17) rfl))) Via.refl e83 f85 (hb hby d2g2_59) ?_
  intro T100 X100 e100
  show own_Fin _ _ _ _ _ _ _ (T100.setTop (mkF m 62 #[.val (.ref t0), .val (.int (2 : Int32)), .unset, .unset, .unset] [(.int (4 : Int32)), (.int (3 : Int32)), (.ref t0)]))
  refine own_go (fun _ kk => XS.imul X100.here hx rfl (hb hby d2g2_62) rfl (XS.aloadN X100.here hx rfl (hb hby d2g2_63) rfl rfl kk)) ?_
  show own_Fin _ _ _ _ _ _ _ (T100.setTop (mkF m 64 #[.val (.ref t0), .val (.int (2 : Int32)), .unset, .unset, .unset] [(.ref t0), (.int (12 : Int32)), (.ref t0)]))
  refine own_getF X100 hx hZ hown (host := "") (Or.inl (hw _ (List.mem_of_getElem? (i := 17) rfl))) Via.refl e100 f85 (hb hby d2g2_64) ?_
  intro T101 X101 e101
  show own_Fin _ _ _ _ _ _ _ (T101.setTop (mkF m 67 #[.val (.ref t0), .val (.int (2 : Int32)), .unset, .unset, .unset] [(.int (4 : Int32)), (.int (12 : Int32)), (.ref t0)]))
  refine own_grid X101 hx hZ hown (hw _ (List.mem_of_getElem? (i := 26) rfl)) (hw _ (List.mem_of_getElem? (i := 27) rfl)) (hw _ (List.mem_of_getElem? (i := 19) rfl)) e101 (hb hby d2g2_67) (by decide) (by decide) (mm := 12) (nn := 4) (by decide) (by decide) (by decide) (by decide) (by decide) (by decide) ?_
  intro T102 h102 b102 g102 X102 e102 E102 G102
  have gr_t0 : t0 < b102 ∨ b102 + 1 + 12 ≤ t0 := Or.inl (Nat.lt_of_lt_of_le f84.lt (Nat.le_of_eq g102.symm))
  have gr_b15 : b15 < b102 ∨ b102 + 1 + 12 ≤ b15 := Or.inl (Nat.lt_of_lt_of_le f93.lt (Nat.le_of_eq g102.symm))
  have gr_b40 : b40 < b102 ∨ b102 + 1 + 12 ≤ b40 := Or.inl (Nat.lt_of_lt_of_le f95.lt (Nat.le_of_eq g102.symm))
  have gr_b69 : b69 < b102 ∨ b102 + 1 + 12 ≤ b69 := Or.inl (Nat.lt_of_lt_of_le f97.lt (Nat.le_of_eq g102.symm))
  have g_b102 : n0 ≤ b102 := Nat.le_trans Z83 (Nat.le_of_eq g102.symm)
  have ne_t0_b102 : t0 ≠ b102 := Nat.ne_of_lt (Nat.lt_of_lt_of_le f84.lt (Nat.le_of_eq g102.symm))
  have ne_b15_b102 : b15 ≠ b102 := Nat.ne_of_lt (Nat.lt_of_lt_of_le f93.lt (Nat.le_of_eq g102.symm))
  have ne_b40_b102 : b40 ≠ b102 := Nat.ne_of_lt (Nat.lt_of_lt_of_le f95.lt (Nat.le_of_eq g102.symm))
  have ne_b69_b102 : b69 ≠ b102 := Nat.ne_of_lt (Nat.lt_of_lt_of_le f97.lt (Nat.le_of_eq g102.symm))
  have f103 := f84.ext E102
  have f104 := f85.ext E102
  have f105 := f86.ext E102
  have f106 := f87.ext E102
  have f107 := f99.ext E102
  have f108 := f89.ext E102
  have f109 := f90.ext E102
  have f110 := f91.ext E102
  have f111 := f92.ext E102
  have f112 := f93.ext E102
  have f113 := f94.ext E102
  have f114 := f95.ext E102
  have f115 := f96.ext E102
  have f116 := f97.ext E102
  have f117 := f98.ext E102
  have Z102 := Nat.le_trans Z83 E102.1
  have sz_b102 : h0.size ≤ b102 := Nat.le_trans K83.1 (Nat.le_of_eq g102.symm)
  have K102 := K83.ext E102
  show own_Fin _ _ _ _ _ _ _ (T102.setTop (mkF m 71 #[.val (.ref t0), .val (.int (2 : Int32)), .unset, .unset, .unset] [(.ref b102), (.ref t0)]))
  refine own_putF X102 hx hZ hown (host := "") (Or.inl (hw _ (List.mem_of_getElem? (i := 28) rfl))) Via.refl e102 f108 f103 (Or.inr ⟨(hw _ (List.mem_of_getElem? (i := 29) rfl)), rfl, hnm⟩) (hw _ (List.mem_of_getElem? (i := 9) rfl)) (ty := (.array (.array .int))) (by decide) rfl rfl (hb hby d2g2_71) ?_
  intro T118 h118 X118 e118 W118
  have f119 := f103.wr W118
  have f120 := f104.other W118 (Or.inr (slot_ne (Or.inr (hw _ (List.mem_of_getElem? (i := 18) rfl))) (Or.inr (hw _ (List.mem_of_getElem? (i := 29) rfl))) (by decide) (t := .int) (t' := (.array (.array .int))) (by decide) (by decide)))
  have f121 := f105.other W118 (Or.inr (slot_ne (Or.inr (hw _ (List.mem_of_getElem? (i := 21) rfl))) (Or.inr (hw _ (List.mem_of_getElem? (i := 29) rfl))) (by decide) (t := (.array .int)) (t' := (.array (.array .int))) (by decide) (by decide)))
  have f122 := f106.other W118 (Or.inr (slot_ne (Or.inr (hw _ (List.mem_of_getElem? (i := 23) rfl))) (Or.inr (hw _ (List.mem_of_getElem? (i := 29) rfl))) (by decide) (t := (.array .int)) (t' := (.array (.array .int))) (by decide) (by decide)))
  have f123 := f107.other W118 (Or.inr (slot_ne (Or.inr (hw _ (List.mem_of_getElem? (i := 25) rfl))) (Or.inr (hw _ (List.mem_of_getElem? (i := 29) rfl))) (by decide) (t := (.array .int)) (t' := (.array (.array .int))) (by decide) (by decide)))
  have f125 := f109.other W118 (Or.inr (slot_ne (Or.inr (hw _ (List.mem_of_getElem? (i := 31) rfl))) (Or.inr (hw _ (List.mem_of_getElem? (i := 29) rfl))) (by decide) (t := (.array .int)) (t' := (.array (.array .int))) (by decide) (by decide)))
  have f126 := f110.other W118 (Or.inr (slot_ne (Or.inr (hw _ (List.mem_of_getElem? (i := 33) rfl))) (Or.inr (hw _ (List.mem_of_getElem? (i := 29) rfl))) (by decide) (t := (.array .int)) (t' := (.array (.array .int))) (by decide) (by decide)))
  have f127 := f111.other W118 (Or.inr (slot_ne (Or.inr (hw _ (List.mem_of_getElem? (i := 35) rfl))) (Or.inr (hw _ (List.mem_of_getElem? (i := 29) rfl))) (by decide) (t := (.array .int)) (t' := (.array (.array .int))) (by decide) (by decide)))
  have f128 := f112.other W118 (Ne.symm ne_t0_b15)
  have f129 := f113.wr W118
  have f130 := f114.other W118 (Ne.symm ne_t0_b40)
  have f131 := f115.wr W118
  have f132 := f116.other W118 (Ne.symm ne_t0_b69)
  have f133 := f117.wr W118
  have Z118 := Nat.le_trans Z102 (Keep.of_wr W118).1
  have K118 := K102.wr W118 (Or.inl (List.mem_of_getElem? (i := 0) rfl))
  have f134 := G102.other W118 gr_t0
  have f135 := f108.same W118
  have N118 := Fr.snoc X118 N83 g_t0
  show own_Fin _ _ _ _ _ _ _ (T118.setTop (mkF m 74 #[.val (.ref t0), .val (.int (2 : Int32)), .unset, .unset, .unset] []))
  refine own_go (fun _ kk => XS.aloadN X118.here hx rfl (hb hby d2g2_74) rfl rfl (XS.aloadN X118.here hx rfl (hb hby d2g2_75) rfl rfl kk)) ?_
  show own_Fin _ _ _ _ _ _ _ (T118.setTop (mkF m 76 #[.val (.ref t0), .val (.int (2 : Int32)), .unset, .unset, .unset] [(.ref t0), (.ref t0)]))
  refine own_getF X118 hx hZ hown (host := "") (Or.inl (hw _ (List.mem_of_getElem? (i := 17) rfl))) Via.refl e118 f120 (hb hby d2g2_76) ?_
  intro T136 X136 e136
  show own_Fin _ _ _ _ _ _ _ (T136.setTop (mkF m 79 #[.val (.ref t0), .val (.int (2 : Int32)), .unset, .unset, .unset] [(.int (4 : Int32)), (.ref t0)]))
  refine own_go (fun _ kk => XS.aloadN X136.here hx rfl (hb hby d2g2_79) rfl rfl kk) ?_
  show own_Fin _ _ _ _ _ _ _ (T136.setTop (mkF m 80 #[.val (.ref t0), .val (.int (2 : Int32)), .unset, .unset, .unset] [(.ref t0), (.int (4 : Int32)), (.ref t0)]))
  refine own_getF X136 hx hZ hown (host := "") (Or.inl (hw _ (List.mem_of_getElem? (i := 17) rfl))) Via.refl e136 f120 (hb hby d2g2_80) ?_
  intro T137 X137 e137
  show own_Fin _ _ _ _ _ _ _ (T137.setTop (mkF m 83 #[.val (.ref t0), .val (.int (2 : Int32)), .unset, .unset, .unset] [(.int (4 : Int32)), (.int (4 : Int32)), (.ref t0)]))
  refine own_go (fun _ kk => XS.imul X137.here hx rfl (hb hby d2g2_83) rfl kk) ?_
  show own_Fin _ _ _ _ _ _ _ (T137.setTop (mkF m 84 #[.val (.ref t0), .val (.int (2 : Int32)), .unset, .unset, .unset] [(.int (16 : Int32)), (.ref t0)]))
  refine own_newI X137 hx hZ (hw _ (List.mem_of_getElem? (i := 19) rfl)) e137 (hb hby d2g2_84) (by decide) (cap := 16) (by decide) (by decide) (by decide) (by decide) ?_
  intro T138 h138 b138 g138 X138 e138 E138 A138 D138
  have g_b138 : n0 ≤ b138 := Nat.le_trans Z118 (Nat.le_of_eq g138.symm)
  have ne_t0_b138 : t0 ≠ b138 := Nat.ne_of_lt (Nat.lt_of_lt_of_le f119.lt (Nat.le_of_eq g138.symm))
  have ne_b15_b138 : b15 ≠ b138 := Nat.ne_of_lt (Nat.lt_of_lt_of_le f128.lt (Nat.le_of_eq g138.symm))
  have ne_b40_b138 : b40 ≠ b138 := Nat.ne_of_lt (Nat.lt_of_lt_of_le f130.lt (Nat.le_of_eq g138.symm))
  have ne_b69_b138 : b69 ≠ b138 := Nat.ne_of_lt (Nat.lt_of_lt_of_le f132.lt (Nat.le_of_eq g138.symm))
  have f139 := f119.ext E138
  have f140 := f120.ext E138
  have f141 := f121.ext E138
  have f142 := f122.ext E138
  have f143 := f123.ext E138
  have f144 := f135.ext E138
  have f145 := f125.ext E138
  have f146 := f126.ext E138
  have f147 := f127.ext E138
  have f148 := f128.ext E138
  have f149 := f129.ext E138
  have f150 := f130.ext E138
  have f151 := f131.ext E138
  have f152 := f132.ext E138
  have f153 := f133.ext E138
  have Z138 := Nat.le_trans Z118 E138.1
  have sz_b138 : h0.size ≤ b138 := Nat.le_trans K118.1 (Nat.le_of_eq g138.symm)
  have K138 := K118.ext E138
  have f154 := f134.ext E138
  have gr_b138 : b138 < b102 ∨ b102 + 1 + 12 ≤ b138 := Or.inr (Nat.le_trans (f134.top (by decide)) (Nat.le_of_eq g138.symm))
  have ne_b102_b138 : b102 ≠ b138 := Nat.ne_of_lt (Nat.lt_of_lt_of_le f134.lt (Nat.le_of_eq g138.symm))
  have A138 : own_Ar Z h138 b138 .int (List.map Value.int (List.replicate 16 (0 : Int32))) := A138
  show own_Fin _ _ _ _ _ _ _ (T138.setTop (mkF m 86 #[.val (.ref t0), .val (.int (2 : Int32)), .unset, .unset, .unset] [(.ref b138), (.ref t0)]))
  refine own_putF X138 hx hZ hown (host := "") (Or.inl (hw _ (List.mem_of_getElem? (i := 30) rfl))) Via.refl e138 f145 f139 (Or.inr ⟨(hw _ (List.mem_of_getElem? (i := 31) rfl)), rfl, hnm⟩) (hw _ (List.mem_of_getElem? (i := 9) rfl)) (ty := (.array .int)) (by decide) rfl rfl (hb hby d2g2_86) ?_
  intro T155 h155 X155 e155 W155
  have f156 := f139.wr W155
  have f157 := f140.other W155 (Or.inr (slot_ne (Or.inr (hw _ (List.mem_of_getElem? (i := 18) rfl))) (Or.inr (hw _ (List.mem_of_getElem? (i := 31) rfl))) (by decide) (t := .int) (t' := (.array .int)) (by decide) (by decide)))
  have f158 := f141.other W155 (Or.inr (slot_ne (Or.inr (hw _ (List.mem_of_getElem? (i := 21) rfl))) (Or.inr (hw _ (List.mem_of_getElem? (i := 31) rfl))) (by decide) (t := (.array .int)) (t' := (.array .int)) (by decide) (by decide)))
  have f159 := f142.other W155 (Or.inr (slot_ne (Or.inr (hw _ (List.mem_of_getElem? (i := 23) rfl))) (Or.inr (hw _ (List.mem_of_getElem? (i := 31) rfl))) (by decide) (t := (.array .int)) (t' := (.array .int)) (by decide) (by decide)))
  have f160 := f143.other W155 (Or.inr (slot_ne (Or.inr (hw _ (List.mem_of_getElem? (i := 25) rfl))) (Or.inr (hw _ (List.mem_of_getElem? (i := 31) rfl))) (by decide) (t := (.array .int)) (t' := (.array .int)) (by decide) (by decide)))
  have f161 := f144.other W155 (Or.inr (slot_ne (Or.inr (hw _ (List.mem_of_getElem? (i := 29) rfl))) (Or.inr (hw _ (List.mem_of_getElem? (i := 31) rfl))) (by decide) (t := (.array (.array .int))) (t' := (.array .int)) (by decide) (by decide)))
  have f163 := f146.other W155 (Or.inr (slot_ne (Or.inr (hw _ (List.mem_of_getElem? (i := 33) rfl))) (Or.inr (hw _ (List.mem_of_getElem? (i := 31) rfl))) (by decide) (t := (.array .int)) (t' := (.array .int)) (by decide) (by decide)))
  have f164 := f147.other W155 (Or.inr (slot_ne (Or.inr (hw _ (List.mem_of_getElem? (i := 35) rfl))) (Or.inr (hw _ (List.mem_of_getElem? (i := 31) rfl))) (by decide) (t := (.array .int)) (t' := (.array .int)) (by decide) (by decide)))
  have f165 := f148.other W155 (Ne.symm ne_t0_b15)
  have f166 := f149.wr W155
  have f167 := f150.other W155 (Ne.symm ne_t0_b40)
  have f168 := f151.wr W155
  have f169 := f152.other W155 (Ne.symm ne_t0_b69)
  have f170 := f153.wr W155
  have f171 := A138.other W155 (Ne.symm ne_t0_b138)
  have f172 := D138.wr W155
  have Z155 := Nat.le_trans Z138 (Keep.of_wr W155).1
  have K155 := K138.wr W155 (Or.inl (List.mem_of_getElem? (i := 0) rfl))
  have f173 := f154.other W155 gr_t0
  have f174 := f145.same W155
  have N155 := Fr.snoc X155 N118 g_t0
  show own_Fin _ _ _ _ _ _ _ (T155.setTop (mkF m 89 #[.val (.ref t0), .val (.int (2 : Int32)), .unset, .unset, .unset] []))
  refine own_go (fun _ kk => XS.aloadN X155.here hx rfl (hb hby d2g2_89) rfl rfl (XS.aloadN X155.here hx rfl (hb hby d2g2_90) rfl rfl kk)) ?_
  show own_Fin _ _ _ _ _ _ _ (T155.setTop (mkF m 91 #[.val (.ref t0), .val (.int (2 : Int32)), .unset, .unset, .unset] [(.ref t0), (.ref t0)]))
  refine own_getF X155 hx hZ hown (host := "") (Or.inl (hw _ (List.mem_of_getElem? (i := 17) rfl))) Via.refl e155 f157 (hb hby d2g2_91) ?_
  intro T175 X175 e175
  show own_Fin _ _ _ _ _ _ _ (T175.setTop (mkF m 94 #[.val (.ref t0), .val (.int (2 : Int32)), .unset, .unset, .unset] [(.int (4 : Int32)), (.ref t0)]))
  refine own_go (fun _ kk => XS.aloadN X175.here hx rfl (hb hby d2g2_94) rfl rfl kk) ?_
  show own_Fin _ _ _ _ _ _ _ (T175.setTop (mkF m 95 #[.val (.ref t0), .val (.int (2 : Int32)), .unset, .unset, .unset] [(.ref t0), (.int (4 : Int32)), (.ref t0)]))
  refine own_getF X175 hx hZ hown (host := "") (Or.inl (hw _ (List.mem_of_getElem? (i := 17) rfl))) Via.refl e175 f157 (hb hby d2g2_95) ?_
  intro T176 X176 e176
  show own_Fin _ _ _ _ _ _ _ (T176.setTop (mkF m 98 #[.val (.ref t0), .val (.int (2 : Int32)), .unset, .unset, .unset] [(.int (4 : Int32)), (.int (4 : Int32)), (.ref t0)]))
  refine own_go (fun _ kk => XS.imul X176.here hx rfl (hb hby d2g2_98) rfl kk) ?_
  show own_Fin _ _ _ _ _ _ _ (T176.setTop (mkF m 99 #[.val (.ref t0), .val (.int (2 : Int32)), .unset, .unset, .unset] [(.int (16 : Int32)), (.ref t0)]))
  refine own_newI X176 hx hZ (hw _ (List.mem_of_getElem? (i := 19) rfl)) e176 (hb hby d2g2_99) (by decide) (cap := 16) (by decide) (by decide) (by decide) (by decide) ?_
  intro T177 h177 b177 g177 X177 e177 E177 A177 D177
  have g_b177 : n0 ≤ b177 := Nat.le_trans Z155 (Nat.le_of_eq g177.symm)
  have ne_t0_b177 : t0 ≠ b177 := Nat.ne_of_lt (Nat.lt_of_lt_of_le f156.lt (Nat.le_of_eq g177.symm))
  have ne_b15_b177 : b15 ≠ b177 := Nat.ne_of_lt (Nat.lt_of_lt_of_le f165.lt (Nat.le_of_eq g177.symm))
  have ne_b40_b177 : b40 ≠ b177 := Nat.ne_of_lt (Nat.lt_of_lt_of_le f167.lt (Nat.le_of_eq g177.symm))
  have ne_b69_b177 : b69 ≠ b177 := Nat.ne_of_lt (Nat.lt_of_lt_of_le f169.lt (Nat.le_of_eq g177.symm))
  have ne_b138_b177 : b138 ≠ b177 := Nat.ne_of_lt (Nat.lt_of_lt_of_le f171.lt (Nat.le_of_eq g177.symm))
  have f178 := f156.ext E177
  have f179 := f157.ext E177
  have f180 := f158.ext E177
  have f181 := f159.ext E177
  have f182 := f160.ext E177
  have f183 := f161.ext E177
  have f184 := f174.ext E177
  have f185 := f163.ext E177
  have f186 := f164.ext E177
  have f187 := f165.ext E177
  have f188 := f166.ext E177
  have f189 := f167.ext E177
  have f190 := f168.ext E177
  have f191 := f169.ext E177
  have f192 := f170.ext E177
  have f193 := f171.ext E177
  have f194 := f172.ext E177
  have Z177 := Nat.le_trans Z155 E177.1
  have sz_b177 : h0.size ≤ b177 := Nat.le_trans K155.1 (Nat.le_of_eq g177.symm)
  have K177 := K155.ext E177
  have f195 := f173.ext E177
  have gr_b177 : b177 < b102 ∨ b102 + 1 + 12 ≤ b177 := Or.inr (Nat.le_trans (f173.top (by decide)) (Nat.le_of_eq g177.symm))
  have ne_b102_b177 : b102 ≠ b177 := Nat.ne_of_lt (Nat.lt_of_lt_of_le f173.lt (Nat.le_of_eq g177.symm))
  have A177 : own_Ar Z h177 b177 .int (List.map Value.int (List.replicate 16 (0 : Int32))) := A177
  show own_Fin _ _ _ _ _ _ _ (T177.setTop (mkF m 101 #[.val (.ref t0), .val (.int (2 : Int32)), .unset, .unset, .unset] [(.ref b177), (.ref t0)]))
  refine own_putF X177 hx hZ hown (host := "") (Or.inl (hw _ (List.mem_of_getElem? (i := 32) rfl))) Via.refl e177 f185 f178 (Or.inr ⟨(hw _ (List.mem_of_getElem? (i := 33) rfl)), rfl, hnm⟩) (hw _ (List.mem_of_getElem? (i := 9) rfl)) (ty := (.array .int)) (by decide) rfl rfl (hb hby d2g2_101) ?_
  intro T196 h196 X196 e196 W196
  have f197 := f178.wr W196
  have f198 := f179.other W196 (Or.inr (slot_ne (Or.inr (hw _ (List.mem_of_getElem? (i := 18) rfl))) (Or.inr (hw _ (List.mem_of_getElem? (i := 33) rfl))) (by decide) (t := .int) (t' := (.array .int)) (by decide) (by decide)))
  have f199 := f180.other W196 (Or.inr (slot_ne (Or.inr (hw _ (List.mem_of_getElem? (i := 21) rfl))) (Or.inr (hw _ (List.mem_of_getElem? (i := 33) rfl))) (by decide) (t := (.array .int)) (t' := (.array .int)) (by decide) (by decide)))
  have f200 := f181.other W196 (Or.inr (slot_ne (Or.inr (hw _ (List.mem_of_getElem? (i := 23) rfl))) (Or.inr (hw _ (List.mem_of_getElem? (i := 33) rfl))) (by decide) (t := (.array .int)) (t' := (.array .int)) (by decide) (by decide)))
  have f201 := f182.other W196 (Or.inr (slot_ne (Or.inr (hw _ (List.mem_of_getElem? (i := 25) rfl))) (Or.inr (hw _ (List.mem_of_getElem? (i := 33) rfl))) (by decide) (t := (.array .int)) (t' := (.array .int)) (by decide) (by decide)))
  have f202 := f183.other W196 (Or.inr (slot_ne (Or.inr (hw _ (List.mem_of_getElem? (i := 29) rfl))) (Or.inr (hw _ (List.mem_of_getElem? (i := 33) rfl))) (by decide) (t := (.array (.array .int))) (t' := (.array .int)) (by decide) (by decide)))
  have f203 := f184.other W196 (Or.inr (slot_ne (Or.inr (hw _ (List.mem_of_getElem? (i := 31) rfl))) (Or.inr (hw _ (List.mem_of_getElem? (i := 33) rfl))) (by decide) (t := (.array .int)) (t' := (.array .int)) (by decide) (by decide)))
  have f205 := f186.other W196 (Or.inr (slot_ne (Or.inr (hw _ (List.mem_of_getElem? (i := 35) rfl))) (Or.inr (hw _ (List.mem_of_getElem? (i := 33) rfl))) (by decide) (t := (.array .int)) (t' := (.array .int)) (by decide) (by decide)))
  have f206 := f187.other W196 (Ne.symm ne_t0_b15)
  have f207 := f188.wr W196
  have f208 := f189.other W196 (Ne.symm ne_t0_b40)
  have f209 := f190.wr W196
  have f210 := f191.other W196 (Ne.symm ne_t0_b69)
  have f211 := f192.wr W196
  have f212 := f193.other W196 (Ne.symm ne_t0_b138)
  have f213 := f194.wr W196
  have f214 := A177.other W196 (Ne.symm ne_t0_b177)
  have f215 := D177.wr W196
  have Z196 := Nat.le_trans Z177 (Keep.of_wr W196).1
  have K196 := K177.wr W196 (Or.inl (List.mem_of_getElem? (i := 0) rfl))
  have f216 := f195.other W196 gr_t0
  have f217 := f185.same W196
  have N196 := Fr.snoc X196 N155 g_t0
  show own_Fin _ _ _ _ _ _ _ (T196.setTop (mkF m 104 #[.val (.ref t0), .val (.int (2 : Int32)), .unset, .unset, .unset] []))
  refine own_go (fun _ kk => XS.aloadN X196.here hx rfl (hb hby d2g2_104) rfl rfl (XS.aloadN X196.here hx rfl (hb hby d2g2_105) rfl rfl kk)) ?_
  show own_Fin _ _ _ _ _ _ _ (T196.setTop (mkF m 106 #[.val (.ref t0), .val (.int (2 : Int32)), .unset, .unset, .unset] [(.ref t0), (.ref t0)]))
  refine own_getF X196 hx hZ hown (host := "") (Or.inl (hw _ (List.mem_of_getElem? (i := 17) rfl))) Via.refl e196 f198 (hb hby d2g2_106) ?_
  intro T218 X218 e218
  show own_Fin _ _ _ _ _ _ _ (T218.setTop (mkF m 109 #[.val (.ref t0), .val (.int (2 : Int32)), .unset, .unset, .unset] [(.int (4 : Int32)), (.ref t0)]))
  refine own_go (fun _ kk => XS.aloadN X218.here hx rfl (hb hby d2g2_109) rfl rfl kk) ?_
  show own_Fin _ _ _ _ _ _ _ (T218.setTop (mkF m 110 #[.val (.ref t0), .val (.int (2 : Int32)), .unset, .unset, .unset] [(.ref t0), (.int (4 : Int32)), (.ref t0)]))
  refine own_getF X218 hx hZ hown (host := "") (Or.inl (hw _ (List.mem_of_getElem? (i := 17) rfl))) Via.refl e218 f198 (hb hby d2g2_110) ?_
  intro T219 X219 e219
  show own_Fin _ _ _ _ _ _ _ (T219.setTop (mkF m 113 #[.val (.ref t0), .val (.int (2 : Int32)), .unset, .unset, .unset] [(.int (4 : Int32)), (.int (4 : Int32)), (.ref t0)]))
  refine own_go (fun _ kk => XS.imul X219.here hx rfl (hb hby d2g2_113) rfl kk) ?_
  show own_Fin _ _ _ _ _ _ _ (T219.setTop (mkF m 114 #[.val (.ref t0), .val (.int (2 : Int32)), .unset, .unset, .unset] [(.int (16 : Int32)), (.ref t0)]))
  refine own_newI X219 hx hZ (hw _ (List.mem_of_getElem? (i := 19) rfl)) e219 (hb hby d2g2_114) (by decide) (cap := 16) (by decide) (by decide) (by decide) (by decide) ?_
  intro T220 h220 b220 g220 X220 e220 E220 A220 D220
  have g_b220 : n0 ≤ b220 := Nat.le_trans Z196 (Nat.le_of_eq g220.symm)
  have ne_t0_b220 : t0 ≠ b220 := Nat.ne_of_lt (Nat.lt_of_lt_of_le f197.lt (Nat.le_of_eq g220.symm))
  have ne_b15_b220 : b15 ≠ b220 := Nat.ne_of_lt (Nat.lt_of_lt_of_le f206.lt (Nat.le_of_eq g220.symm))
  have ne_b40_b220 : b40 ≠ b220 := Nat.ne_of_lt (Nat.lt_of_lt_of_le f208.lt (Nat.le_of_eq g220.symm))
  have ne_b69_b220 : b69 ≠ b220 := Nat.ne_of_lt (Nat.lt_of_lt_of_le f210.lt (Nat.le_of_eq g220.symm))
  have ne_b138_b220 : b138 ≠ b220 := Nat.ne_of_lt (Nat.lt_of_lt_of_le f212.lt (Nat.le_of_eq g220.symm))
  have ne_b177_b220 : b177 ≠ b220 := Nat.ne_of_lt (Nat.lt_of_lt_of_le f214.lt (Nat.le_of_eq g220.symm))
  have f221 := f197.ext E220
  have f222 := f198.ext E220
  have f223 := f199.ext E220
  have f224 := f200.ext E220
  have f225 := f201.ext E220
  have f226 := f202.ext E220
  have f227 := f203.ext E220
  have f228 := f217.ext E220
  have f229 := f205.ext E220
  have f230 := f206.ext E220
  have f231 := f207.ext E220
  have f232 := f208.ext E220
  have f233 := f209.ext E220
  have f234 := f210.ext E220
  have f235 := f211.ext E220
  have f236 := f212.ext E220
  have f237 := f213.ext E220
  have f238 := f214.ext E220
  have f239 := f215.ext E220
  have Z220 := Nat.le_trans Z196 E220.1
  have sz_b220 : h0.size ≤ b220 := Nat.le_trans K196.1 (Nat.le_of_eq g220.symm)
  have K220 := K196.ext E220
  have f240 := f216.ext E220
  have gr_b220 : b220 < b102 ∨ b102 + 1 + 12 ≤ b220 := Or.inr (Nat.le_trans (f216.top (by decide)) (Nat.le_of_eq g220.symm))
  have ne_b102_b220 : b102 ≠ b220 := Nat.ne_of_lt (Nat.lt_of_lt_of_le f216.lt (Nat.le_of_eq g220.symm))
  have A220 : own_Ar Z h220 b220 .int (List.map Value.int (List.replicate 16 (0 : Int32))) := A220
  show own_Fin _ _ _ _ _ _ _ (T220.setTop (mkF m 116 #[.val (.ref t0), .val (.int (2 : Int32)), .unset, .unset, .unset] [(.ref b220), (.ref t0)]))
  refine own_putF X220 hx hZ hown (host := "") (Or.inl (hw _ (List.mem_of_getElem? (i := 34) rfl))) Via.refl e220 f229 f221 (Or.inr ⟨(hw _ (List.mem_of_getElem? (i := 35) rfl)), rfl, hnm⟩) (hw _ (List.mem_of_getElem? (i := 9) rfl)) (ty := (.array .int)) (by decide) rfl rfl (hb hby d2g2_116) ?_
  intro T241 h241 X241 e241 W241
  have f242 := f221.wr W241
  have f243 := f222.other W241 (Or.inr (slot_ne (Or.inr (hw _ (List.mem_of_getElem? (i := 18) rfl))) (Or.inr (hw _ (List.mem_of_getElem? (i := 35) rfl))) (by decide) (t := .int) (t' := (.array .int)) (by decide) (by decide)))
  have f244 := f223.other W241 (Or.inr (slot_ne (Or.inr (hw _ (List.mem_of_getElem? (i := 21) rfl))) (Or.inr (hw _ (List.mem_of_getElem? (i := 35) rfl))) (by decide) (t := (.array .int)) (t' := (.array .int)) (by decide) (by decide)))
  have f245 := f224.other W241 (Or.inr (slot_ne (Or.inr (hw _ (List.mem_of_getElem? (i := 23) rfl))) (Or.inr (hw _ (List.mem_of_getElem? (i := 35) rfl))) (by decide) (t := (.array .int)) (t' := (.array .int)) (by decide) (by decide)))
  have f246 := f225.other W241 (Or.inr (slot_ne (Or.inr (hw _ (List.mem_of_getElem? (i := 25) rfl))) (Or.inr (hw _ (List.mem_of_getElem? (i := 35) rfl))) (by decide) (t := (.array .int)) (t' := (.array .int)) (by decide) (by decide)))
  have f247 := f226.other W241 (Or.inr (slot_ne (Or.inr (hw _ (List.mem_of_getElem? (i := 29) rfl))) (Or.inr (hw _ (List.mem_of_getElem? (i := 35) rfl))) (by decide) (t := (.array (.array .int))) (t' := (.array .int)) (by decide) (by decide)))
  have f248 := f227.other W241 (Or.inr (slot_ne (Or.inr (hw _ (List.mem_of_getElem? (i := 31) rfl))) (Or.inr (hw _ (List.mem_of_getElem? (i := 35) rfl))) (by decide) (t := (.array .int)) (t' := (.array .int)) (by decide) (by decide)))
  have f249 := f228.other W241 (Or.inr (slot_ne (Or.inr (hw _ (List.mem_of_getElem? (i := 33) rfl))) (Or.inr (hw _ (List.mem_of_getElem? (i := 35) rfl))) (by decide) (t := (.array .int)) (t' := (.array .int)) (by decide) (by decide)))
  have f251 := f230.other W241 (Ne.symm ne_t0_b15)
  have f252 := f231.wr W241
  have f253 := f232.other W241 (Ne.symm ne_t0_b40)
  have f254 := f233.wr W241
  have f255 := f234.other W241 (Ne.symm ne_t0_b69)
  have f256 := f235.wr W241
  have f257 := f236.other W241 (Ne.symm ne_t0_b138)
  have f258 := f237.wr W241
  have f259 := f238.other W241 (Ne.symm ne_t0_b177)
  have f260 := f239.wr W241
  have f261 := A220.other W241 (Ne.symm ne_t0_b220)
  have f262 := D220.wr W241
  have Z241 := Nat.le_trans Z220 (Keep.of_wr W241).1
  have K241 := K220.wr W241 (Or.inl (List.mem_of_getElem? (i := 0) rfl))
  have f263 := f240.other W241 gr_t0
  have f264 := f229.same W241
  have N241 := Fr.snoc X241 N196 g_t0
  show own_Fin _ _ _ _ _ _ _ (T241.setTop (mkF m 119 #[.val (.ref t0), .val (.int (2 : Int32)), .unset, .unset, .unset] []))
  refine own_go (fun _ kk => XS.iconst X241.here hx rfl (hb hby d2g2_119) (XS.istoreN X241.here hx rfl (hb hby d2g2_120) rfl (l' := #[.val (.ref t0), .val (.int (2 : Int32)), .val (.int (0 : Int32)), .unset, .unset]) rfl kk)) ?_
  show own_Fin _ _ _ _ _ _ _ (T241.setTop (mkF m 121 #[.val (.ref t0), .val (.int (2 : Int32)), .val (.int (0 : Int32)), .unset, .unset] []))
  have L121 : ∀ (mm : Nat) (TL121 : State) (hL121 : Heap) (locsL121 : List Loc) (i : Nat) (s3 : Slot) (s4 : Slot), 16 - i = mm → (i ≤ 16) → (s3 = .unset ∨ ∃ w, s3 = .val w ∧ w.category = 1) → (s4 = .unset ∨ ∃ w, s4 = .val w ∧ w.category = 1) → Stand p l e ({ frames := 1, cells := 19, slots := 156, locals := 12 } : Room) s m #[(.ref t0), (.int (2 : Int32))] below meth c TL121 locsL121 19 156 → Fr n0 locsL121 → TL121.heap = hL121 → Keep h0 hL121 [t0] → n0 ≤ hL121.size → Exa Z hL121 t0 "com/example/onda/onda/sudoku/Geometry" → Fld Z hL121 t0 "com/example/onda/onda/sudoku/Geometry" "size" "I" (.int (4 : Int32)) → Fld Z hL121 t0 "com/example/onda/onda/sudoku/Geometry" "rowOf" "[I" (.ref b15) → Fld Z hL121 t0 "com/example/onda/onda/sudoku/Geometry" "columnOf" "[I" (.ref b40) → Fld Z hL121 t0 "com/example/onda/onda/sudoku/Geometry" "boxOf" "[I" (.ref b69) → Fld Z hL121 t0 "com/example/onda/onda/sudoku/Geometry" "cellsOf" "[[I" (.ref b102) → Fld Z hL121 t0 "com/example/onda/onda/sudoku/Geometry" "indexInRow" "[I" (.ref b138) → Fld Z hL121 t0 "com/example/onda/onda/sudoku/Geometry" "indexInColumn" "[I" (.ref b177) → Fld Z hL121 t0 "com/example/onda/onda/sudoku/Geometry" "indexInBox" "[I" (.ref b220) → own_Ar Z hL121 b15 .int ((own_L own_fR2 16 i).map Value.int) → own_Ar Z hL121 b40 .int ((own_L own_fC2 16 i).map Value.int) → own_Ar Z hL121 b69 .int ((own_L own_fB2 16 i).map Value.int) → own_Ar Z hL121 b138 .int ((own_L own_fIR2 16 i).map Value.int) → own_Ar Z hL121 b177 .int ((own_L own_fIC2 16 i).map Value.int) → own_Ar Z hL121 b220 .int ((own_L own_fIB2 16 i).map Value.int) → own_Grid Z hL121 b102 12 4 → own_Fin p e below s (own_QGeo2 Z t0 h0 n0) ({ frames := 1, cells := 19, slots := 156, locals := 12 } : Room).cells ({ frames := 1, cells := 19, slots := 156, locals := 12 } : Room).slots (TL121.setTop (mkF m 121 #[.val (.ref t0), .val (.int (2 : Int32)), .val (.int (Int32.ofNat i)), s3, s4] [])) := by
    intro mm
    induction mm using Nat.strongRecOn with
    | _ mm ih =>
    intro TL121 hL121 locsL121 i s3 s4 hmm hi h_s3 h_s4 XL121 NL121 eL121 KL121 ZL121 El Fl_size Fl_rowOf Fl_columnOf Fl_boxOf Fl_cellsOf Fl_indexInRow Fl_indexInColumn Fl_indexInBox Vl_rowOf Vl_columnOf Vl_boxOf Vl_indexInRow Vl_indexInColumn Vl_indexInBox Gl
    refine own_go (fun _ kk => XS.iloadN XL121.here hx rfl (hb hby d2g2_121) rfl (XS.aloadN XL121.here hx rfl (hb hby d2g2_122) rfl rfl kk)) ?_
    show own_Fin _ _ _ _ _ _ _ (TL121.setTop (mkF m 123 #[.val (.ref t0), .val (.int (2 : Int32)), .val (.int (Int32.ofNat i)), s3, s4] [(.ref t0), (.int (Int32.ofNat i))]))
    refine own_getF XL121 hx hZ hown (host := "") (Or.inl (hw _ (List.mem_of_getElem? (i := 17) rfl))) Via.refl eL121 Fl_size (hb hby d2g2_123) ?_
    intro T265 X265 e265
    show own_Fin _ _ _ _ _ _ _ (T265.setTop (mkF m 126 #[.val (.ref t0), .val (.int (2 : Int32)), .val (.int (Int32.ofNat i)), s3, s4] [(.int (4 : Int32)), (.int (Int32.ofNat i))]))
    refine own_go (fun _ kk => XS.aloadN X265.here hx rfl (hb hby d2g2_126) rfl rfl kk) ?_
    show own_Fin _ _ _ _ _ _ _ (T265.setTop (mkF m 127 #[.val (.ref t0), .val (.int (2 : Int32)), .val (.int (Int32.ofNat i)), s3, s4] [(.ref t0), (.int (4 : Int32)), (.int (Int32.ofNat i))]))
    refine own_getF X265 hx hZ hown (host := "") (Or.inl (hw _ (List.mem_of_getElem? (i := 17) rfl))) Via.refl e265 Fl_size (hb hby d2g2_127) ?_
    intro T266 X266 e266
    show own_Fin _ _ _ _ _ _ _ (T266.setTop (mkF m 130 #[.val (.ref t0), .val (.int (2 : Int32)), .val (.int (Int32.ofNat i)), s3, s4] [(.int (4 : Int32)), (.int (4 : Int32)), (.int (Int32.ofNat i))]))
    refine own_go (fun _ kk => XS.imul X266.here hx rfl (hb hby d2g2_130) rfl kk) ?_
    show own_Fin _ _ _ _ _ _ _ (T266.setTop (mkF m 131 #[.val (.ref t0), .val (.int (2 : Int32)), .val (.int (Int32.ofNat i)), s3, s4] [(.int (16 : Int32)), (.int (Int32.ofNat i))]))
    by_cases hc131 : (Int32.ofNat i) < (16 : Int32)
    · refine own_go (fun _ kk => XS.icmpNo X266.here hx rfl (hb hby d2g2_131) rfl (XT.ii_ge_f hc131) kk) ?_
      show own_Fin _ _ _ _ _ _ _ (T266.setTop (mkF m 134 #[.val (.ref t0), .val (.int (2 : Int32)), .val (.int (Int32.ofNat i)), s3, s4] []))
      have hi' : i < 16 := (own_ltN i 16 (by omega) (by decide)).mp hc131
      refine own_go (fun _ kk => XS.iloadN X266.here hx rfl (hb hby d2g2_134) rfl (XS.aloadN X266.here hx rfl (hb hby d2g2_135) rfl rfl kk)) ?_
      show own_Fin _ _ _ _ _ _ _ (T266.setTop (mkF m 136 #[.val (.ref t0), .val (.int (2 : Int32)), .val (.int (Int32.ofNat i)), s3, s4] [(.ref t0), (.int (Int32.ofNat i))]))
      refine own_getF X266 hx hZ hown (host := "") (Or.inl (hw _ (List.mem_of_getElem? (i := 17) rfl))) Via.refl e266 Fl_size (hb hby d2g2_136) ?_
      intro T267 X267 e267
      show own_Fin _ _ _ _ _ _ _ (T267.setTop (mkF m 139 #[.val (.ref t0), .val (.int (2 : Int32)), .val (.int (Int32.ofNat i)), s3, s4] [(.int (4 : Int32)), (.int (Int32.ofNat i))]))
      refine own_go (fun _ kk => XS.idiv X267.here hx rfl (hb hby d2g2_139) rfl (by decide) (XS.istoreNS X267.here hx rfl (hb hby d2g2_140) rfl rfl h_s3 (XS.iloadN X267.here hx rfl (hb hby d2g2_141) rfl (XS.aloadN X267.here hx rfl (hb hby d2g2_142) rfl rfl kk)))) ?_
      show own_Fin _ _ _ _ _ _ _ (T267.setTop (mkF m 143 #[.val (.ref t0), .val (.int (2 : Int32)), .val (.int (Int32.ofNat i)), .val (.int ((Int32.ofNat i) / (4 : Int32))), s4] [(.ref t0), (.int (Int32.ofNat i))]))
      refine own_getF X267 hx hZ hown (host := "") (Or.inl (hw _ (List.mem_of_getElem? (i := 17) rfl))) Via.refl e267 Fl_size (hb hby d2g2_143) ?_
      intro T268 X268 e268
      show own_Fin _ _ _ _ _ _ _ (T268.setTop (mkF m 146 #[.val (.ref t0), .val (.int (2 : Int32)), .val (.int (Int32.ofNat i)), .val (.int ((Int32.ofNat i) / (4 : Int32))), s4] [(.int (4 : Int32)), (.int (Int32.ofNat i))]))
      refine own_go (fun _ kk => iremM X268 hx rfl (hb hby d2g2_146) rfl (by decide) (XS.istoreS X268.here hx rfl (hb hby d2g2_147) rfl rfl h_s4 (XS.aloadN X268.here hx rfl (hb hby d2g2_149) rfl rfl kk))) ?_
      show own_Fin _ _ _ _ _ _ _ (T268.setTop (mkF m 150 #[.val (.ref t0), .val (.int (2 : Int32)), .val (.int (Int32.ofNat i)), .val (.int ((Int32.ofNat i) / (4 : Int32))), .val (.int ((Int32.ofNat i) % (4 : Int32)))] [(.ref t0)]))
      refine own_getF X268 hx hZ hown (host := "") (Or.inl (hw _ (List.mem_of_getElem? (i := 20) rfl))) Via.refl e268 Fl_rowOf (hb hby d2g2_150) ?_
      intro T269 X269 e269
      show own_Fin _ _ _ _ _ _ _ (T269.setTop (mkF m 153 #[.val (.ref t0), .val (.int (2 : Int32)), .val (.int (Int32.ofNat i)), .val (.int ((Int32.ofNat i) / (4 : Int32))), .val (.int ((Int32.ofNat i) % (4 : Int32)))] [(.ref b15)]))
      refine own_go (fun _ kk => XS.iloadN X269.here hx rfl (hb hby d2g2_153) rfl (XS.iloadN X269.here hx rfl (hb hby d2g2_154) rfl kk)) ?_
      show own_Fin _ _ _ _ _ _ _ (T269.setTop (mkF m 155 #[.val (.ref t0), .val (.int (2 : Int32)), .val (.int (Int32.ofNat i)), .val (.int ((Int32.ofNat i) / (4 : Int32))), .val (.int ((Int32.ofNat i) % (4 : Int32)))] [(.int ((Int32.ofNat i) / (4 : Int32))), (.int (Int32.ofNat i)), (.ref b15)]))
      refine own_stI X269 hx hZ e269 Vl_rowOf (own_nn (by omega)) (by rw [own_Llen, own_tn (by omega)]; exact hi') (hb hby d2g2_155) ?_
      intro T270 h270 X270 e270 W270 A270
      have f271 := El.wr W270
      have f272 := Fl_size.other W270 (Or.inl ne_t0_b15)
      have f273 := Fl_rowOf.other W270 (Or.inl ne_t0_b15)
      have f274 := Fl_columnOf.other W270 (Or.inl ne_t0_b15)
      have f275 := Fl_boxOf.other W270 (Or.inl ne_t0_b15)
      have f276 := Fl_cellsOf.other W270 (Or.inl ne_t0_b15)
      have f277 := Fl_indexInRow.other W270 (Or.inl ne_t0_b15)
      have f278 := Fl_indexInColumn.other W270 (Or.inl ne_t0_b15)
      have f279 := Fl_indexInBox.other W270 (Or.inl ne_t0_b15)
      have f281 := Vl_columnOf.other W270 (Ne.symm ne_b15_b40)
      have f282 := Vl_boxOf.other W270 (Ne.symm ne_b15_b69)
      have f283 := Vl_indexInRow.other W270 (Ne.symm ne_b15_b138)
      have f284 := Vl_indexInColumn.other W270 (Ne.symm ne_b15_b177)
      have f285 := Vl_indexInBox.other W270 (Ne.symm ne_b15_b220)
      have Z270 := Nat.le_trans ZL121 (Keep.of_wr W270).1
      have K270 := KL121.wr W270 (Or.inr sz_b15)
      have f286 := Gl.other W270 gr_b15
      have N270 := Fr.snoc X270 NL121 g_b15
      show own_Fin _ _ _ _ _ _ _ (T270.setTop (mkF m 156 #[.val (.ref t0), .val (.int (2 : Int32)), .val (.int (Int32.ofNat i)), .val (.int ((Int32.ofNat i) / (4 : Int32))), .val (.int ((Int32.ofNat i) % (4 : Int32)))] []))
      have V287 : own_Ar Z h270 b15 .int (List.map Value.int (own_L own_fR2 16 (i + 1))) := by rw [← own_Lset (f := own_fR2) hi' (by decide)]; exact A270
      refine own_go (fun _ kk => XS.aloadN X270.here hx rfl (hb hby d2g2_156) rfl rfl kk) ?_
      show own_Fin _ _ _ _ _ _ _ (T270.setTop (mkF m 157 #[.val (.ref t0), .val (.int (2 : Int32)), .val (.int (Int32.ofNat i)), .val (.int ((Int32.ofNat i) / (4 : Int32))), .val (.int ((Int32.ofNat i) % (4 : Int32)))] [(.ref t0)]))
      refine own_getF X270 hx hZ hown (host := "") (Or.inl (hw _ (List.mem_of_getElem? (i := 22) rfl))) Via.refl e270 f274 (hb hby d2g2_157) ?_
      intro T288 X288 e288
      show own_Fin _ _ _ _ _ _ _ (T288.setTop (mkF m 160 #[.val (.ref t0), .val (.int (2 : Int32)), .val (.int (Int32.ofNat i)), .val (.int ((Int32.ofNat i) / (4 : Int32))), .val (.int ((Int32.ofNat i) % (4 : Int32)))] [(.ref b40)]))
      refine own_go (fun _ kk => XS.iloadN X288.here hx rfl (hb hby d2g2_160) rfl (XS.aloadN X288.here hx rfl (hb hby d2g2_161) rfl rfl kk)) ?_
      show own_Fin _ _ _ _ _ _ _ (T288.setTop (mkF m 162 #[.val (.ref t0), .val (.int (2 : Int32)), .val (.int (Int32.ofNat i)), .val (.int ((Int32.ofNat i) / (4 : Int32))), .val (.int ((Int32.ofNat i) % (4 : Int32)))] [(.ref t0), (.int (Int32.ofNat i)), (.ref b40)]))
      refine own_getF X288 hx hZ hown (host := "") (Or.inl (hw _ (List.mem_of_getElem? (i := 17) rfl))) Via.refl e288 f272 (hb hby d2g2_162) ?_
      intro T289 X289 e289
      show own_Fin _ _ _ _ _ _ _ (T289.setTop (mkF m 165 #[.val (.ref t0), .val (.int (2 : Int32)), .val (.int (Int32.ofNat i)), .val (.int ((Int32.ofNat i) / (4 : Int32))), .val (.int ((Int32.ofNat i) % (4 : Int32)))] [(.int (4 : Int32)), (.int (Int32.ofNat i)), (.ref b40)]))
      refine own_go (fun _ kk => XS.iload X289.here hx rfl (hb hby d2g2_165) rfl (XS.iadd X289.here hx rfl (hb hby d2g2_167) rfl kk)) ?_
      show own_Fin _ _ _ _ _ _ _ (T289.setTop (mkF m 168 #[.val (.ref t0), .val (.int (2 : Int32)), .val (.int (Int32.ofNat i)), .val (.int ((Int32.ofNat i) / (4 : Int32))), .val (.int ((Int32.ofNat i) % (4 : Int32)))] [(.int ((4 : Int32) + ((Int32.ofNat i) % (4 : Int32)))), (.int (Int32.ofNat i)), (.ref b40)]))
      refine own_stI X289 hx hZ e289 f281 (own_nn (by omega)) (by rw [own_Llen, own_tn (by omega)]; exact hi') (hb hby d2g2_168) ?_
      intro T290 h290 X290 e290 W290 A290
      have f291 := f271.wr W290
      have f292 := f272.other W290 (Or.inl ne_t0_b40)
      have f293 := f273.other W290 (Or.inl ne_t0_b40)
      have f294 := f274.other W290 (Or.inl ne_t0_b40)
      have f295 := f275.other W290 (Or.inl ne_t0_b40)
      have f296 := f276.other W290 (Or.inl ne_t0_b40)
      have f297 := f277.other W290 (Or.inl ne_t0_b40)
      have f298 := f278.other W290 (Or.inl ne_t0_b40)
      have f299 := f279.other W290 (Or.inl ne_t0_b40)
      have f300 := V287.other W290 ne_b15_b40
      have f302 := f282.other W290 (Ne.symm ne_b40_b69)
      have f303 := f283.other W290 (Ne.symm ne_b40_b138)
      have f304 := f284.other W290 (Ne.symm ne_b40_b177)
      have f305 := f285.other W290 (Ne.symm ne_b40_b220)
      have Z290 := Nat.le_trans Z270 (Keep.of_wr W290).1
      have K290 := K270.wr W290 (Or.inr sz_b40)
      have f306 := f286.other W290 gr_b40
      have N290 := Fr.snoc X290 N270 g_b40
      show own_Fin _ _ _ _ _ _ _ (T290.setTop (mkF m 169 #[.val (.ref t0), .val (.int (2 : Int32)), .val (.int (Int32.ofNat i)), .val (.int ((Int32.ofNat i) / (4 : Int32))), .val (.int ((Int32.ofNat i) % (4 : Int32)))] []))
      have V307 : own_Ar Z h290 b40 .int (List.map Value.int (own_L own_fC2 16 (i + 1))) := by rw [← own_Lset (f := own_fC2) hi' (by decide)]; exact A290
      refine own_go (fun _ kk => XS.aloadN X290.here hx rfl (hb hby d2g2_169) rfl rfl kk) ?_
      show own_Fin _ _ _ _ _ _ _ (T290.setTop (mkF m 170 #[.val (.ref t0), .val (.int (2 : Int32)), .val (.int (Int32.ofNat i)), .val (.int ((Int32.ofNat i) / (4 : Int32))), .val (.int ((Int32.ofNat i) % (4 : Int32)))] [(.ref t0)]))
      refine own_getF X290 hx hZ hown (host := "") (Or.inl (hw _ (List.mem_of_getElem? (i := 24) rfl))) Via.refl e290 f295 (hb hby d2g2_170) ?_
      intro T308 X308 e308
      show own_Fin _ _ _ _ _ _ _ (T308.setTop (mkF m 173 #[.val (.ref t0), .val (.int (2 : Int32)), .val (.int (Int32.ofNat i)), .val (.int ((Int32.ofNat i) / (4 : Int32))), .val (.int ((Int32.ofNat i) % (4 : Int32)))] [(.ref b69)]))
      refine own_go (fun _ kk => XS.iloadN X308.here hx rfl (hb hby d2g2_173) rfl (XS.iconst X308.here hx rfl (hb hby d2g2_174) (XS.aloadN X308.here hx rfl (hb hby d2g2_175) rfl rfl kk))) ?_
      show own_Fin _ _ _ _ _ _ _ (T308.setTop (mkF m 176 #[.val (.ref t0), .val (.int (2 : Int32)), .val (.int (Int32.ofNat i)), .val (.int ((Int32.ofNat i) / (4 : Int32))), .val (.int ((Int32.ofNat i) % (4 : Int32)))] [(.ref t0), (.int (2 : Int32)), (.int (Int32.ofNat i)), (.ref b69)]))
      refine own_getF X308 hx hZ hown (host := "") (Or.inl (hw _ (List.mem_of_getElem? (i := 17) rfl))) Via.refl e308 f292 (hb hby d2g2_176) ?_
      intro T309 X309 e309
      show own_Fin _ _ _ _ _ _ _ (T309.setTop (mkF m 179 #[.val (.ref t0), .val (.int (2 : Int32)), .val (.int (Int32.ofNat i)), .val (.int ((Int32.ofNat i) / (4 : Int32))), .val (.int ((Int32.ofNat i) % (4 : Int32)))] [(.int (4 : Int32)), (.int (2 : Int32)), (.int (Int32.ofNat i)), (.ref b69)]))
      refine own_go (fun _ kk => XS.imul X309.here hx rfl (hb hby d2g2_179) rfl (XS.iloadN X309.here hx rfl (hb hby d2g2_180) rfl (XS.iloadN X309.here hx rfl (hb hby d2g2_181) rfl (XS.idiv X309.here hx rfl (hb hby d2g2_182) rfl (by decide) (XS.iloadN X309.here hx rfl (hb hby d2g2_183) rfl (XS.imul X309.here hx rfl (hb hby d2g2_184) rfl (XS.iadd X309.here hx rfl (hb hby d2g2_185) rfl (XS.iload X309.here hx rfl (hb hby d2g2_186) rfl (XS.iloadN X309.here hx rfl (hb hby d2g2_188) rfl (XS.idiv X309.here hx rfl (hb hby d2g2_189) rfl (by decide) kk)))))))))) ?_
      show own_Fin _ _ _ _ _ _ _ (T309.setTop (mkF m 190 #[.val (.ref t0), .val (.int (2 : Int32)), .val (.int (Int32.ofNat i)), .val (.int ((Int32.ofNat i) / (4 : Int32))), .val (.int ((Int32.ofNat i) % (4 : Int32)))] [(.int (((Int32.ofNat i) % (4 : Int32)) / (2 : Int32))), (.int ((8 : Int32) + ((((Int32.ofNat i) / (4 : Int32)) / (2 : Int32)) * (2 : Int32)))), (.int (Int32.ofNat i)), (.ref b69)]))
      refine own_go (fun _ kk => XS.iadd X309.here hx rfl (hb hby d2g2_190) rfl kk) ?_
      show own_Fin _ _ _ _ _ _ _ (T309.setTop (mkF m 191 #[.val (.ref t0), .val (.int (2 : Int32)), .val (.int (Int32.ofNat i)), .val (.int ((Int32.ofNat i) / (4 : Int32))), .val (.int ((Int32.ofNat i) % (4 : Int32)))] [(.int (((8 : Int32) + ((((Int32.ofNat i) / (4 : Int32)) / (2 : Int32)) * (2 : Int32))) + (((Int32.ofNat i) % (4 : Int32)) / (2 : Int32)))), (.int (Int32.ofNat i)), (.ref b69)]))
      refine own_stI X309 hx hZ e309 f302 (own_nn (by omega)) (by rw [own_Llen, own_tn (by omega)]; exact hi') (hb hby d2g2_191) ?_
      intro T310 h310 X310 e310 W310 A310
      have f311 := f291.wr W310
      have f312 := f292.other W310 (Or.inl ne_t0_b69)
      have f313 := f293.other W310 (Or.inl ne_t0_b69)
      have f314 := f294.other W310 (Or.inl ne_t0_b69)
      have f315 := f295.other W310 (Or.inl ne_t0_b69)
      have f316 := f296.other W310 (Or.inl ne_t0_b69)
      have f317 := f297.other W310 (Or.inl ne_t0_b69)
      have f318 := f298.other W310 (Or.inl ne_t0_b69)
      have f319 := f299.other W310 (Or.inl ne_t0_b69)
      have f320 := f300.other W310 ne_b15_b69
      have f321 := V307.other W310 ne_b40_b69
      have f323 := f303.other W310 (Ne.symm ne_b69_b138)
      have f324 := f304.other W310 (Ne.symm ne_b69_b177)
      have f325 := f305.other W310 (Ne.symm ne_b69_b220)
      have Z310 := Nat.le_trans Z290 (Keep.of_wr W310).1
      have K310 := K290.wr W310 (Or.inr sz_b69)
      have f326 := f306.other W310 gr_b69
      have N310 := Fr.snoc X310 N290 g_b69
      show own_Fin _ _ _ _ _ _ _ (T310.setTop (mkF m 192 #[.val (.ref t0), .val (.int (2 : Int32)), .val (.int (Int32.ofNat i)), .val (.int ((Int32.ofNat i) / (4 : Int32))), .val (.int ((Int32.ofNat i) % (4 : Int32)))] []))
      have V327 : own_Ar Z h310 b69 .int (List.map Value.int (own_L own_fB2 16 (i + 1))) := by rw [← own_Lset (f := own_fB2) hi' (by decide)]; exact A310
      refine own_go (fun _ kk => XS.aloadN X310.here hx rfl (hb hby d2g2_192) rfl rfl kk) ?_
      show own_Fin _ _ _ _ _ _ _ (T310.setTop (mkF m 193 #[.val (.ref t0), .val (.int (2 : Int32)), .val (.int (Int32.ofNat i)), .val (.int ((Int32.ofNat i) / (4 : Int32))), .val (.int ((Int32.ofNat i) % (4 : Int32)))] [(.ref t0)]))
      refine own_getF X310 hx hZ hown (host := "") (Or.inl (hw _ (List.mem_of_getElem? (i := 30) rfl))) Via.refl e310 f317 (hb hby d2g2_193) ?_
      intro T328 X328 e328
      show own_Fin _ _ _ _ _ _ _ (T328.setTop (mkF m 196 #[.val (.ref t0), .val (.int (2 : Int32)), .val (.int (Int32.ofNat i)), .val (.int ((Int32.ofNat i) / (4 : Int32))), .val (.int ((Int32.ofNat i) % (4 : Int32)))] [(.ref b138)]))
      refine own_go (fun _ kk => XS.iloadN X328.here hx rfl (hb hby d2g2_196) rfl (XS.iload X328.here hx rfl (hb hby d2g2_197) rfl kk)) ?_
      show own_Fin _ _ _ _ _ _ _ (T328.setTop (mkF m 199 #[.val (.ref t0), .val (.int (2 : Int32)), .val (.int (Int32.ofNat i)), .val (.int ((Int32.ofNat i) / (4 : Int32))), .val (.int ((Int32.ofNat i) % (4 : Int32)))] [(.int ((Int32.ofNat i) % (4 : Int32))), (.int (Int32.ofNat i)), (.ref b138)]))
      refine own_stI X328 hx hZ e328 f323 (own_nn (by omega)) (by rw [own_Llen, own_tn (by omega)]; exact hi') (hb hby d2g2_199) ?_
      intro T329 h329 X329 e329 W329 A329
      have f330 := f311.wr W329
      have f331 := f312.other W329 (Or.inl ne_t0_b138)
      have f332 := f313.other W329 (Or.inl ne_t0_b138)
      have f333 := f314.other W329 (Or.inl ne_t0_b138)
      have f334 := f315.other W329 (Or.inl ne_t0_b138)
      have f335 := f316.other W329 (Or.inl ne_t0_b138)
      have f336 := f317.other W329 (Or.inl ne_t0_b138)
      have f337 := f318.other W329 (Or.inl ne_t0_b138)
      have f338 := f319.other W329 (Or.inl ne_t0_b138)
      have f339 := f320.other W329 ne_b15_b138
      have f340 := f321.other W329 ne_b40_b138
      have f341 := V327.other W329 ne_b69_b138
      have f343 := f324.other W329 (Ne.symm ne_b138_b177)
      have f344 := f325.other W329 (Ne.symm ne_b138_b220)
      have Z329 := Nat.le_trans Z310 (Keep.of_wr W329).1
      have K329 := K310.wr W329 (Or.inr sz_b138)
      have f345 := f326.other W329 gr_b138
      have N329 := Fr.snoc X329 N310 g_b138
      show own_Fin _ _ _ _ _ _ _ (T329.setTop (mkF m 200 #[.val (.ref t0), .val (.int (2 : Int32)), .val (.int (Int32.ofNat i)), .val (.int ((Int32.ofNat i) / (4 : Int32))), .val (.int ((Int32.ofNat i) % (4 : Int32)))] []))
      have V346 : own_Ar Z h329 b138 .int (List.map Value.int (own_L own_fIR2 16 (i + 1))) := by rw [← own_Lset (f := own_fIR2) hi' (by decide)]; exact A329
      refine own_go (fun _ kk => XS.aloadN X329.here hx rfl (hb hby d2g2_200) rfl rfl kk) ?_
      show own_Fin _ _ _ _ _ _ _ (T329.setTop (mkF m 201 #[.val (.ref t0), .val (.int (2 : Int32)), .val (.int (Int32.ofNat i)), .val (.int ((Int32.ofNat i) / (4 : Int32))), .val (.int ((Int32.ofNat i) % (4 : Int32)))] [(.ref t0)]))
      refine own_getF X329 hx hZ hown (host := "") (Or.inl (hw _ (List.mem_of_getElem? (i := 32) rfl))) Via.refl e329 f337 (hb hby d2g2_201) ?_
      intro T347 X347 e347
      show own_Fin _ _ _ _ _ _ _ (T347.setTop (mkF m 204 #[.val (.ref t0), .val (.int (2 : Int32)), .val (.int (Int32.ofNat i)), .val (.int ((Int32.ofNat i) / (4 : Int32))), .val (.int ((Int32.ofNat i) % (4 : Int32)))] [(.ref b177)]))
      refine own_go (fun _ kk => XS.iloadN X347.here hx rfl (hb hby d2g2_204) rfl (XS.iloadN X347.here hx rfl (hb hby d2g2_205) rfl kk)) ?_
      show own_Fin _ _ _ _ _ _ _ (T347.setTop (mkF m 206 #[.val (.ref t0), .val (.int (2 : Int32)), .val (.int (Int32.ofNat i)), .val (.int ((Int32.ofNat i) / (4 : Int32))), .val (.int ((Int32.ofNat i) % (4 : Int32)))] [(.int ((Int32.ofNat i) / (4 : Int32))), (.int (Int32.ofNat i)), (.ref b177)]))
      refine own_stI X347 hx hZ e347 f343 (own_nn (by omega)) (by rw [own_Llen, own_tn (by omega)]; exact hi') (hb hby d2g2_206) ?_
      intro T348 h348 X348 e348 W348 A348
      have f349 := f330.wr W348
      have f350 := f331.other W348 (Or.inl ne_t0_b177)
      have f351 := f332.other W348 (Or.inl ne_t0_b177)
      have f352 := f333.other W348 (Or.inl ne_t0_b177)
      have f353 := f334.other W348 (Or.inl ne_t0_b177)
      have f354 := f335.other W348 (Or.inl ne_t0_b177)
      have f355 := f336.other W348 (Or.inl ne_t0_b177)
      have f356 := f337.other W348 (Or.inl ne_t0_b177)
      have f357 := f338.other W348 (Or.inl ne_t0_b177)
      have f358 := f339.other W348 ne_b15_b177
      have f359 := f340.other W348 ne_b40_b177
      have f360 := f341.other W348 ne_b69_b177
      have f361 := V346.other W348 ne_b138_b177
      have f363 := f344.other W348 (Ne.symm ne_b177_b220)
      have Z348 := Nat.le_trans Z329 (Keep.of_wr W348).1
      have K348 := K329.wr W348 (Or.inr sz_b177)
      have f364 := f345.other W348 gr_b177
      have N348 := Fr.snoc X348 N329 g_b177
      show own_Fin _ _ _ _ _ _ _ (T348.setTop (mkF m 207 #[.val (.ref t0), .val (.int (2 : Int32)), .val (.int (Int32.ofNat i)), .val (.int ((Int32.ofNat i) / (4 : Int32))), .val (.int ((Int32.ofNat i) % (4 : Int32)))] []))
      have V365 : own_Ar Z h348 b177 .int (List.map Value.int (own_L own_fIC2 16 (i + 1))) := by rw [← own_Lset (f := own_fIC2) hi' (by decide)]; exact A348
      refine own_go (fun _ kk => XS.aloadN X348.here hx rfl (hb hby d2g2_207) rfl rfl kk) ?_
      show own_Fin _ _ _ _ _ _ _ (T348.setTop (mkF m 208 #[.val (.ref t0), .val (.int (2 : Int32)), .val (.int (Int32.ofNat i)), .val (.int ((Int32.ofNat i) / (4 : Int32))), .val (.int ((Int32.ofNat i) % (4 : Int32)))] [(.ref t0)]))
      refine own_getF X348 hx hZ hown (host := "") (Or.inl (hw _ (List.mem_of_getElem? (i := 34) rfl))) Via.refl e348 f357 (hb hby d2g2_208) ?_
      intro T366 X366 e366
      show own_Fin _ _ _ _ _ _ _ (T366.setTop (mkF m 211 #[.val (.ref t0), .val (.int (2 : Int32)), .val (.int (Int32.ofNat i)), .val (.int ((Int32.ofNat i) / (4 : Int32))), .val (.int ((Int32.ofNat i) % (4 : Int32)))] [(.ref b220)]))
      refine own_go (fun _ kk => XS.iloadN X366.here hx rfl (hb hby d2g2_211) rfl (XS.iloadN X366.here hx rfl (hb hby d2g2_212) rfl (XS.iloadN X366.here hx rfl (hb hby d2g2_213) rfl (iremM X366 hx rfl (hb hby d2g2_214) rfl (by decide) (XS.iloadN X366.here hx rfl (hb hby d2g2_215) rfl (XS.imul X366.here hx rfl (hb hby d2g2_216) rfl (XS.iload X366.here hx rfl (hb hby d2g2_217) rfl (XS.iloadN X366.here hx rfl (hb hby d2g2_219) rfl (iremM X366 hx rfl (hb hby d2g2_220) rfl (by decide) (XS.iadd X366.here hx rfl (hb hby d2g2_221) rfl kk)))))))))) ?_
      show own_Fin _ _ _ _ _ _ _ (T366.setTop (mkF m 222 #[.val (.ref t0), .val (.int (2 : Int32)), .val (.int (Int32.ofNat i)), .val (.int ((Int32.ofNat i) / (4 : Int32))), .val (.int ((Int32.ofNat i) % (4 : Int32)))] [(.int (((((Int32.ofNat i) / (4 : Int32)) % (2 : Int32)) * (2 : Int32)) + (((Int32.ofNat i) % (4 : Int32)) % (2 : Int32)))), (.int (Int32.ofNat i)), (.ref b220)]))
      refine own_stI X366 hx hZ e366 f363 (own_nn (by omega)) (by rw [own_Llen, own_tn (by omega)]; exact hi') (hb hby d2g2_222) ?_
      intro T367 h367 X367 e367 W367 A367
      have f368 := f349.wr W367
      have f369 := f350.other W367 (Or.inl ne_t0_b220)
      have f370 := f351.other W367 (Or.inl ne_t0_b220)
      have f371 := f352.other W367 (Or.inl ne_t0_b220)
      have f372 := f353.other W367 (Or.inl ne_t0_b220)
      have f373 := f354.other W367 (Or.inl ne_t0_b220)
      have f374 := f355.other W367 (Or.inl ne_t0_b220)
      have f375 := f356.other W367 (Or.inl ne_t0_b220)
      have f376 := f357.other W367 (Or.inl ne_t0_b220)
      have f377 := f358.other W367 ne_b15_b220
      have f378 := f359.other W367 ne_b40_b220
      have f379 := f360.other W367 ne_b69_b220
      have f380 := f361.other W367 ne_b138_b220
      have f381 := V365.other W367 ne_b177_b220
      have Z367 := Nat.le_trans Z348 (Keep.of_wr W367).1
      have K367 := K348.wr W367 (Or.inr sz_b220)
      have f383 := f364.other W367 gr_b220
      have N367 := Fr.snoc X367 N348 g_b220
      show own_Fin _ _ _ _ _ _ _ (T367.setTop (mkF m 223 #[.val (.ref t0), .val (.int (2 : Int32)), .val (.int (Int32.ofNat i)), .val (.int ((Int32.ofNat i) / (4 : Int32))), .val (.int ((Int32.ofNat i) % (4 : Int32)))] []))
      have V384 : own_Ar Z h367 b220 .int (List.map Value.int (own_L own_fIB2 16 (i + 1))) := by rw [← own_Lset (f := own_fIB2) hi' (by decide)]; exact A367
      refine own_go (fun _ kk => XS.aloadN X367.here hx rfl (hb hby d2g2_223) rfl rfl kk) ?_
      show own_Fin _ _ _ _ _ _ _ (T367.setTop (mkF m 224 #[.val (.ref t0), .val (.int (2 : Int32)), .val (.int (Int32.ofNat i)), .val (.int ((Int32.ofNat i) / (4 : Int32))), .val (.int ((Int32.ofNat i) % (4 : Int32)))] [(.ref t0)]))
      refine own_getF X367 hx hZ hown (host := "") (Or.inl (hw _ (List.mem_of_getElem? (i := 28) rfl))) Via.refl e367 f373 (hb hby d2g2_224) ?_
      intro T385 X385 e385
      show own_Fin _ _ _ _ _ _ _ (T385.setTop (mkF m 227 #[.val (.ref t0), .val (.int (2 : Int32)), .val (.int (Int32.ofNat i)), .val (.int ((Int32.ofNat i) / (4 : Int32))), .val (.int ((Int32.ofNat i) % (4 : Int32)))] [(.ref b102)]))
      refine own_go (fun _ kk => XS.aloadN X385.here hx rfl (hb hby d2g2_227) rfl rfl kk) ?_
      show own_Fin _ _ _ _ _ _ _ (T385.setTop (mkF m 228 #[.val (.ref t0), .val (.int (2 : Int32)), .val (.int (Int32.ofNat i)), .val (.int ((Int32.ofNat i) / (4 : Int32))), .val (.int ((Int32.ofNat i) % (4 : Int32)))] [(.ref t0), (.ref b102)]))
      refine own_getF X385 hx hZ hown (host := "") (Or.inl (hw _ (List.mem_of_getElem? (i := 20) rfl))) Via.refl e385 f370 (hb hby d2g2_228) ?_
      intro T386 X386 e386
      show own_Fin _ _ _ _ _ _ _ (T386.setTop (mkF m 231 #[.val (.ref t0), .val (.int (2 : Int32)), .val (.int (Int32.ofNat i)), .val (.int ((Int32.ofNat i) / (4 : Int32))), .val (.int ((Int32.ofNat i) % (4 : Int32)))] [(.ref b15), (.ref b102)]))
      refine own_go (fun _ kk => XS.iloadN X386.here hx rfl (hb hby d2g2_231) rfl kk) ?_
      show own_Fin _ _ _ _ _ _ _ (T386.setTop (mkF m 232 #[.val (.ref t0), .val (.int (2 : Int32)), .val (.int (Int32.ofNat i)), .val (.int ((Int32.ofNat i) / (4 : Int32))), .val (.int ((Int32.ofNat i) % (4 : Int32)))] [(.int (Int32.ofNat i)), (.ref b15), (.ref b102)]))
      refine own_ldI X386 hx hZ e386 f377 (own_nn (by omega)) (by rw [own_Llen, own_tn (by omega)]; exact hi') (hb hby d2g2_232) ?_
      show own_Fin _ _ _ _ _ _ _ (T386.setTop (mkF m 233 #[.val (.ref t0), .val (.int (2 : Int32)), .val (.int (Int32.ofNat i)), .val (.int ((Int32.ofNat i) / (4 : Int32))), .val (.int ((Int32.ofNat i) % (4 : Int32)))] [(.int (List.getD (own_L own_fR2 16 (i + 1)) ((Int32.ofNat i)).toNatClampNeg 0)), (.ref b102)]))
      rw [own_Lget (f := own_fR2) hi' (by decide)]
      show own_Fin _ _ _ _ _ _ _ (T386.setTop (mkF m 233 #[.val (.ref t0), .val (.int (2 : Int32)), .val (.int (Int32.ofNat i)), .val (.int ((Int32.ofNat i) / (4 : Int32))), .val (.int ((Int32.ofNat i) % (4 : Int32)))] [(.int (own_fR2 i)), (.ref b102)]))
      refine own_gload X386 hx hZ e386 f383 (own_bd2 _ hi').1.1 (own_bd2 _ hi').1.2 (hb hby d2g2_233) ?_
      show own_Fin _ _ _ _ _ _ _ (T386.setTop (mkF m 234 #[.val (.ref t0), .val (.int (2 : Int32)), .val (.int (Int32.ofNat i)), .val (.int ((Int32.ofNat i) / (4 : Int32))), .val (.int ((Int32.ofNat i) % (4 : Int32)))] [(.ref (b102 + 1 + (own_fR2 i).toNatClampNeg))]))
      refine own_go (fun _ kk => XS.aloadN X386.here hx rfl (hb hby d2g2_234) rfl rfl kk) ?_
      show own_Fin _ _ _ _ _ _ _ (T386.setTop (mkF m 235 #[.val (.ref t0), .val (.int (2 : Int32)), .val (.int (Int32.ofNat i)), .val (.int ((Int32.ofNat i) / (4 : Int32))), .val (.int ((Int32.ofNat i) % (4 : Int32)))] [(.ref t0), (.ref (b102 + 1 + (own_fR2 i).toNatClampNeg))]))
      refine own_getF X386 hx hZ hown (host := "") (Or.inl (hw _ (List.mem_of_getElem? (i := 30) rfl))) Via.refl e386 f374 (hb hby d2g2_235) ?_
      intro T387 X387 e387
      show own_Fin _ _ _ _ _ _ _ (T387.setTop (mkF m 238 #[.val (.ref t0), .val (.int (2 : Int32)), .val (.int (Int32.ofNat i)), .val (.int ((Int32.ofNat i) / (4 : Int32))), .val (.int ((Int32.ofNat i) % (4 : Int32)))] [(.ref b138), (.ref (b102 + 1 + (own_fR2 i).toNatClampNeg))]))
      refine own_go (fun _ kk => XS.iloadN X387.here hx rfl (hb hby d2g2_238) rfl kk) ?_
      show own_Fin _ _ _ _ _ _ _ (T387.setTop (mkF m 239 #[.val (.ref t0), .val (.int (2 : Int32)), .val (.int (Int32.ofNat i)), .val (.int ((Int32.ofNat i) / (4 : Int32))), .val (.int ((Int32.ofNat i) % (4 : Int32)))] [(.int (Int32.ofNat i)), (.ref b138), (.ref (b102 + 1 + (own_fR2 i).toNatClampNeg))]))
      refine own_ldI X387 hx hZ e387 f380 (own_nn (by omega)) (by rw [own_Llen, own_tn (by omega)]; exact hi') (hb hby d2g2_239) ?_
      show own_Fin _ _ _ _ _ _ _ (T387.setTop (mkF m 240 #[.val (.ref t0), .val (.int (2 : Int32)), .val (.int (Int32.ofNat i)), .val (.int ((Int32.ofNat i) / (4 : Int32))), .val (.int ((Int32.ofNat i) % (4 : Int32)))] [(.int (List.getD (own_L own_fIR2 16 (i + 1)) ((Int32.ofNat i)).toNatClampNeg 0)), (.ref (b102 + 1 + (own_fR2 i).toNatClampNeg))]))
      rw [own_Lget (f := own_fIR2) hi' (by decide)]
      show own_Fin _ _ _ _ _ _ _ (T387.setTop (mkF m 240 #[.val (.ref t0), .val (.int (2 : Int32)), .val (.int (Int32.ofNat i)), .val (.int ((Int32.ofNat i) / (4 : Int32))), .val (.int ((Int32.ofNat i) % (4 : Int32)))] [(.int (own_fIR2 i)), (.ref (b102 + 1 + (own_fR2 i).toNatClampNeg))]))
      refine own_go (fun _ kk => XS.iloadN X387.here hx rfl (hb hby d2g2_240) rfl kk) ?_
      show own_Fin _ _ _ _ _ _ _ (T387.setTop (mkF m 241 #[.val (.ref t0), .val (.int (2 : Int32)), .val (.int (Int32.ofNat i)), .val (.int ((Int32.ofNat i) / (4 : Int32))), .val (.int ((Int32.ofNat i) % (4 : Int32)))] [(.int (Int32.ofNat i)), (.int (own_fIR2 i)), (.ref (b102 + 1 + (own_fR2 i).toNatClampNeg))]))
      refine own_gstore X387 hx hZ e387 f383 (own_bd2 _ hi').1.2 (own_bd2 _ hi').2.2.2.1.1 (own_bd2 _ hi').2.2.2.1.2 (hb hby d2g2_241) ?_
      intro T388 h388 X388 e388 W388 G388
      have gg388 : n0 ≤ (b102 + 1 + (own_fR2 i).toNatClampNeg) := Nat.le_trans g_b102 (Nat.le_trans (Nat.le_succ _) (Nat.le_add_right _ _))
      have zz388 : h0.size ≤ (b102 + 1 + (own_fR2 i).toNatClampNeg) := Nat.le_trans sz_b102 (Nat.le_trans (Nat.le_succ _) (Nat.le_add_right _ _))
      have f389 := f368.wr W388
      have f390 := f369.other W388 (Or.inl (own_gne gr_t0 (own_bd2 _ hi').1.2))
      have f391 := f370.other W388 (Or.inl (own_gne gr_t0 (own_bd2 _ hi').1.2))
      have f392 := f371.other W388 (Or.inl (own_gne gr_t0 (own_bd2 _ hi').1.2))
      have f393 := f372.other W388 (Or.inl (own_gne gr_t0 (own_bd2 _ hi').1.2))
      have f394 := f373.other W388 (Or.inl (own_gne gr_t0 (own_bd2 _ hi').1.2))
      have f395 := f374.other W388 (Or.inl (own_gne gr_t0 (own_bd2 _ hi').1.2))
      have f396 := f375.other W388 (Or.inl (own_gne gr_t0 (own_bd2 _ hi').1.2))
      have f397 := f376.other W388 (Or.inl (own_gne gr_t0 (own_bd2 _ hi').1.2))
      have f398 := f377.other W388 (own_gne gr_b15 (own_bd2 _ hi').1.2)
      have f399 := f378.other W388 (own_gne gr_b40 (own_bd2 _ hi').1.2)
      have f400 := f379.other W388 (own_gne gr_b69 (own_bd2 _ hi').1.2)
      have f401 := f380.other W388 (own_gne gr_b138 (own_bd2 _ hi').1.2)
      have f402 := f381.other W388 (own_gne gr_b177 (own_bd2 _ hi').1.2)
      have f403 := V384.other W388 (own_gne gr_b220 (own_bd2 _ hi').1.2)
      have Z388 := Nat.le_trans Z367 (Keep.of_wr W388).1
      have K388 := K367.wr W388 (Or.inr zz388)
      have N388 := Fr.snoc X388 N367 gg388
      show own_Fin _ _ _ _ _ _ _ (T388.setTop (mkF m 242 #[.val (.ref t0), .val (.int (2 : Int32)), .val (.int (Int32.ofNat i)), .val (.int ((Int32.ofNat i) / (4 : Int32))), .val (.int ((Int32.ofNat i) % (4 : Int32)))] []))
      refine own_go (fun _ kk => XS.aloadN X388.here hx rfl (hb hby d2g2_242) rfl rfl kk) ?_
      show own_Fin _ _ _ _ _ _ _ (T388.setTop (mkF m 243 #[.val (.ref t0), .val (.int (2 : Int32)), .val (.int (Int32.ofNat i)), .val (.int ((Int32.ofNat i) / (4 : Int32))), .val (.int ((Int32.ofNat i) % (4 : Int32)))] [(.ref t0)]))
      refine own_getF X388 hx hZ hown (host := "") (Or.inl (hw _ (List.mem_of_getElem? (i := 28) rfl))) Via.refl e388 f394 (hb hby d2g2_243) ?_
      intro T404 X404 e404
      show own_Fin _ _ _ _ _ _ _ (T404.setTop (mkF m 246 #[.val (.ref t0), .val (.int (2 : Int32)), .val (.int (Int32.ofNat i)), .val (.int ((Int32.ofNat i) / (4 : Int32))), .val (.int ((Int32.ofNat i) % (4 : Int32)))] [(.ref b102)]))
      refine own_go (fun _ kk => XS.aloadN X404.here hx rfl (hb hby d2g2_246) rfl rfl kk) ?_
      show own_Fin _ _ _ _ _ _ _ (T404.setTop (mkF m 247 #[.val (.ref t0), .val (.int (2 : Int32)), .val (.int (Int32.ofNat i)), .val (.int ((Int32.ofNat i) / (4 : Int32))), .val (.int ((Int32.ofNat i) % (4 : Int32)))] [(.ref t0), (.ref b102)]))
      refine own_getF X404 hx hZ hown (host := "") (Or.inl (hw _ (List.mem_of_getElem? (i := 22) rfl))) Via.refl e404 f392 (hb hby d2g2_247) ?_
      intro T405 X405 e405
      show own_Fin _ _ _ _ _ _ _ (T405.setTop (mkF m 250 #[.val (.ref t0), .val (.int (2 : Int32)), .val (.int (Int32.ofNat i)), .val (.int ((Int32.ofNat i) / (4 : Int32))), .val (.int ((Int32.ofNat i) % (4 : Int32)))] [(.ref b40), (.ref b102)]))
      refine own_go (fun _ kk => XS.iloadN X405.here hx rfl (hb hby d2g2_250) rfl kk) ?_
      show own_Fin _ _ _ _ _ _ _ (T405.setTop (mkF m 251 #[.val (.ref t0), .val (.int (2 : Int32)), .val (.int (Int32.ofNat i)), .val (.int ((Int32.ofNat i) / (4 : Int32))), .val (.int ((Int32.ofNat i) % (4 : Int32)))] [(.int (Int32.ofNat i)), (.ref b40), (.ref b102)]))
      refine own_ldI X405 hx hZ e405 f399 (own_nn (by omega)) (by rw [own_Llen, own_tn (by omega)]; exact hi') (hb hby d2g2_251) ?_
      show own_Fin _ _ _ _ _ _ _ (T405.setTop (mkF m 252 #[.val (.ref t0), .val (.int (2 : Int32)), .val (.int (Int32.ofNat i)), .val (.int ((Int32.ofNat i) / (4 : Int32))), .val (.int ((Int32.ofNat i) % (4 : Int32)))] [(.int (List.getD (own_L own_fC2 16 (i + 1)) ((Int32.ofNat i)).toNatClampNeg 0)), (.ref b102)]))
      rw [own_Lget (f := own_fC2) hi' (by decide)]
      show own_Fin _ _ _ _ _ _ _ (T405.setTop (mkF m 252 #[.val (.ref t0), .val (.int (2 : Int32)), .val (.int (Int32.ofNat i)), .val (.int ((Int32.ofNat i) / (4 : Int32))), .val (.int ((Int32.ofNat i) % (4 : Int32)))] [(.int (own_fC2 i)), (.ref b102)]))
      refine own_gload X405 hx hZ e405 G388 (own_bd2 _ hi').2.1.1 (own_bd2 _ hi').2.1.2 (hb hby d2g2_252) ?_
      show own_Fin _ _ _ _ _ _ _ (T405.setTop (mkF m 253 #[.val (.ref t0), .val (.int (2 : Int32)), .val (.int (Int32.ofNat i)), .val (.int ((Int32.ofNat i) / (4 : Int32))), .val (.int ((Int32.ofNat i) % (4 : Int32)))] [(.ref (b102 + 1 + (own_fC2 i).toNatClampNeg))]))
      refine own_go (fun _ kk => XS.aloadN X405.here hx rfl (hb hby d2g2_253) rfl rfl kk) ?_
      show own_Fin _ _ _ _ _ _ _ (T405.setTop (mkF m 254 #[.val (.ref t0), .val (.int (2 : Int32)), .val (.int (Int32.ofNat i)), .val (.int ((Int32.ofNat i) / (4 : Int32))), .val (.int ((Int32.ofNat i) % (4 : Int32)))] [(.ref t0), (.ref (b102 + 1 + (own_fC2 i).toNatClampNeg))]))
      refine own_getF X405 hx hZ hown (host := "") (Or.inl (hw _ (List.mem_of_getElem? (i := 32) rfl))) Via.refl e405 f396 (hb hby d2g2_254) ?_
      intro T406 X406 e406
      show own_Fin _ _ _ _ _ _ _ (T406.setTop (mkF m 257 #[.val (.ref t0), .val (.int (2 : Int32)), .val (.int (Int32.ofNat i)), .val (.int ((Int32.ofNat i) / (4 : Int32))), .val (.int ((Int32.ofNat i) % (4 : Int32)))] [(.ref b177), (.ref (b102 + 1 + (own_fC2 i).toNatClampNeg))]))
      refine own_go (fun _ kk => XS.iloadN X406.here hx rfl (hb hby d2g2_257) rfl kk) ?_
      show own_Fin _ _ _ _ _ _ _ (T406.setTop (mkF m 258 #[.val (.ref t0), .val (.int (2 : Int32)), .val (.int (Int32.ofNat i)), .val (.int ((Int32.ofNat i) / (4 : Int32))), .val (.int ((Int32.ofNat i) % (4 : Int32)))] [(.int (Int32.ofNat i)), (.ref b177), (.ref (b102 + 1 + (own_fC2 i).toNatClampNeg))]))
      refine own_ldI X406 hx hZ e406 f402 (own_nn (by omega)) (by rw [own_Llen, own_tn (by omega)]; exact hi') (hb hby d2g2_258) ?_
      show own_Fin _ _ _ _ _ _ _ (T406.setTop (mkF m 259 #[.val (.ref t0), .val (.int (2 : Int32)), .val (.int (Int32.ofNat i)), .val (.int ((Int32.ofNat i) / (4 : Int32))), .val (.int ((Int32.ofNat i) % (4 : Int32)))] [(.int (List.getD (own_L own_fIC2 16 (i + 1)) ((Int32.ofNat i)).toNatClampNeg 0)), (.ref (b102 + 1 + (own_fC2 i).toNatClampNeg))]))
      rw [own_Lget (f := own_fIC2) hi' (by decide)]
      show own_Fin _ _ _ _ _ _ _ (T406.setTop (mkF m 259 #[.val (.ref t0), .val (.int (2 : Int32)), .val (.int (Int32.ofNat i)), .val (.int ((Int32.ofNat i) / (4 : Int32))), .val (.int ((Int32.ofNat i) % (4 : Int32)))] [(.int (own_fIC2 i)), (.ref (b102 + 1 + (own_fC2 i).toNatClampNeg))]))
      refine own_go (fun _ kk => XS.iloadN X406.here hx rfl (hb hby d2g2_259) rfl kk) ?_
      show own_Fin _ _ _ _ _ _ _ (T406.setTop (mkF m 260 #[.val (.ref t0), .val (.int (2 : Int32)), .val (.int (Int32.ofNat i)), .val (.int ((Int32.ofNat i) / (4 : Int32))), .val (.int ((Int32.ofNat i) % (4 : Int32)))] [(.int (Int32.ofNat i)), (.int (own_fIC2 i)), (.ref (b102 + 1 + (own_fC2 i).toNatClampNeg))]))
      refine own_gstore X406 hx hZ e406 G388 (own_bd2 _ hi').2.1.2 (own_bd2 _ hi').2.2.2.2.1.1 (own_bd2 _ hi').2.2.2.2.1.2 (hb hby d2g2_260) ?_
      intro T407 h407 X407 e407 W407 G407
      have gg407 : n0 ≤ (b102 + 1 + (own_fC2 i).toNatClampNeg) := Nat.le_trans g_b102 (Nat.le_trans (Nat.le_succ _) (Nat.le_add_right _ _))
      have zz407 : h0.size ≤ (b102 + 1 + (own_fC2 i).toNatClampNeg) := Nat.le_trans sz_b102 (Nat.le_trans (Nat.le_succ _) (Nat.le_add_right _ _))
      have f408 := f389.wr W407
      have f409 := f390.other W407 (Or.inl (own_gne gr_t0 (own_bd2 _ hi').2.1.2))
      have f410 := f391.other W407 (Or.inl (own_gne gr_t0 (own_bd2 _ hi').2.1.2))
      have f411 := f392.other W407 (Or.inl (own_gne gr_t0 (own_bd2 _ hi').2.1.2))
      have f412 := f393.other W407 (Or.inl (own_gne gr_t0 (own_bd2 _ hi').2.1.2))
      have f413 := f394.other W407 (Or.inl (own_gne gr_t0 (own_bd2 _ hi').2.1.2))
      have f414 := f395.other W407 (Or.inl (own_gne gr_t0 (own_bd2 _ hi').2.1.2))
      have f415 := f396.other W407 (Or.inl (own_gne gr_t0 (own_bd2 _ hi').2.1.2))
      have f416 := f397.other W407 (Or.inl (own_gne gr_t0 (own_bd2 _ hi').2.1.2))
      have f417 := f398.other W407 (own_gne gr_b15 (own_bd2 _ hi').2.1.2)
      have f418 := f399.other W407 (own_gne gr_b40 (own_bd2 _ hi').2.1.2)
      have f419 := f400.other W407 (own_gne gr_b69 (own_bd2 _ hi').2.1.2)
      have f420 := f401.other W407 (own_gne gr_b138 (own_bd2 _ hi').2.1.2)
      have f421 := f402.other W407 (own_gne gr_b177 (own_bd2 _ hi').2.1.2)
      have f422 := f403.other W407 (own_gne gr_b220 (own_bd2 _ hi').2.1.2)
      have Z407 := Nat.le_trans Z388 (Keep.of_wr W407).1
      have K407 := K388.wr W407 (Or.inr zz407)
      have N407 := Fr.snoc X407 N388 gg407
      show own_Fin _ _ _ _ _ _ _ (T407.setTop (mkF m 261 #[.val (.ref t0), .val (.int (2 : Int32)), .val (.int (Int32.ofNat i)), .val (.int ((Int32.ofNat i) / (4 : Int32))), .val (.int ((Int32.ofNat i) % (4 : Int32)))] []))
      refine own_go (fun _ kk => XS.aloadN X407.here hx rfl (hb hby d2g2_261) rfl rfl kk) ?_
      show own_Fin _ _ _ _ _ _ _ (T407.setTop (mkF m 262 #[.val (.ref t0), .val (.int (2 : Int32)), .val (.int (Int32.ofNat i)), .val (.int ((Int32.ofNat i) / (4 : Int32))), .val (.int ((Int32.ofNat i) % (4 : Int32)))] [(.ref t0)]))
      refine own_getF X407 hx hZ hown (host := "") (Or.inl (hw _ (List.mem_of_getElem? (i := 28) rfl))) Via.refl e407 f413 (hb hby d2g2_262) ?_
      intro T423 X423 e423
      show own_Fin _ _ _ _ _ _ _ (T423.setTop (mkF m 265 #[.val (.ref t0), .val (.int (2 : Int32)), .val (.int (Int32.ofNat i)), .val (.int ((Int32.ofNat i) / (4 : Int32))), .val (.int ((Int32.ofNat i) % (4 : Int32)))] [(.ref b102)]))
      refine own_go (fun _ kk => XS.aloadN X423.here hx rfl (hb hby d2g2_265) rfl rfl kk) ?_
      show own_Fin _ _ _ _ _ _ _ (T423.setTop (mkF m 266 #[.val (.ref t0), .val (.int (2 : Int32)), .val (.int (Int32.ofNat i)), .val (.int ((Int32.ofNat i) / (4 : Int32))), .val (.int ((Int32.ofNat i) % (4 : Int32)))] [(.ref t0), (.ref b102)]))
      refine own_getF X423 hx hZ hown (host := "") (Or.inl (hw _ (List.mem_of_getElem? (i := 24) rfl))) Via.refl e423 f412 (hb hby d2g2_266) ?_
      intro T424 X424 e424
      show own_Fin _ _ _ _ _ _ _ (T424.setTop (mkF m 269 #[.val (.ref t0), .val (.int (2 : Int32)), .val (.int (Int32.ofNat i)), .val (.int ((Int32.ofNat i) / (4 : Int32))), .val (.int ((Int32.ofNat i) % (4 : Int32)))] [(.ref b69), (.ref b102)]))
      refine own_go (fun _ kk => XS.iloadN X424.here hx rfl (hb hby d2g2_269) rfl kk) ?_
      show own_Fin _ _ _ _ _ _ _ (T424.setTop (mkF m 270 #[.val (.ref t0), .val (.int (2 : Int32)), .val (.int (Int32.ofNat i)), .val (.int ((Int32.ofNat i) / (4 : Int32))), .val (.int ((Int32.ofNat i) % (4 : Int32)))] [(.int (Int32.ofNat i)), (.ref b69), (.ref b102)]))
      refine own_ldI X424 hx hZ e424 f419 (own_nn (by omega)) (by rw [own_Llen, own_tn (by omega)]; exact hi') (hb hby d2g2_270) ?_
      show own_Fin _ _ _ _ _ _ _ (T424.setTop (mkF m 271 #[.val (.ref t0), .val (.int (2 : Int32)), .val (.int (Int32.ofNat i)), .val (.int ((Int32.ofNat i) / (4 : Int32))), .val (.int ((Int32.ofNat i) % (4 : Int32)))] [(.int (List.getD (own_L own_fB2 16 (i + 1)) ((Int32.ofNat i)).toNatClampNeg 0)), (.ref b102)]))
      rw [own_Lget (f := own_fB2) hi' (by decide)]
      show own_Fin _ _ _ _ _ _ _ (T424.setTop (mkF m 271 #[.val (.ref t0), .val (.int (2 : Int32)), .val (.int (Int32.ofNat i)), .val (.int ((Int32.ofNat i) / (4 : Int32))), .val (.int ((Int32.ofNat i) % (4 : Int32)))] [(.int (own_fB2 i)), (.ref b102)]))
      refine own_gload X424 hx hZ e424 G407 (own_bd2 _ hi').2.2.1.1 (own_bd2 _ hi').2.2.1.2 (hb hby d2g2_271) ?_
      show own_Fin _ _ _ _ _ _ _ (T424.setTop (mkF m 272 #[.val (.ref t0), .val (.int (2 : Int32)), .val (.int (Int32.ofNat i)), .val (.int ((Int32.ofNat i) / (4 : Int32))), .val (.int ((Int32.ofNat i) % (4 : Int32)))] [(.ref (b102 + 1 + (own_fB2 i).toNatClampNeg))]))
      refine own_go (fun _ kk => XS.aloadN X424.here hx rfl (hb hby d2g2_272) rfl rfl kk) ?_
      show own_Fin _ _ _ _ _ _ _ (T424.setTop (mkF m 273 #[.val (.ref t0), .val (.int (2 : Int32)), .val (.int (Int32.ofNat i)), .val (.int ((Int32.ofNat i) / (4 : Int32))), .val (.int ((Int32.ofNat i) % (4 : Int32)))] [(.ref t0), (.ref (b102 + 1 + (own_fB2 i).toNatClampNeg))]))
      refine own_getF X424 hx hZ hown (host := "") (Or.inl (hw _ (List.mem_of_getElem? (i := 34) rfl))) Via.refl e424 f416 (hb hby d2g2_273) ?_
      intro T425 X425 e425
      show own_Fin _ _ _ _ _ _ _ (T425.setTop (mkF m 276 #[.val (.ref t0), .val (.int (2 : Int32)), .val (.int (Int32.ofNat i)), .val (.int ((Int32.ofNat i) / (4 : Int32))), .val (.int ((Int32.ofNat i) % (4 : Int32)))] [(.ref b220), (.ref (b102 + 1 + (own_fB2 i).toNatClampNeg))]))
      refine own_go (fun _ kk => XS.iloadN X425.here hx rfl (hb hby d2g2_276) rfl kk) ?_
      show own_Fin _ _ _ _ _ _ _ (T425.setTop (mkF m 277 #[.val (.ref t0), .val (.int (2 : Int32)), .val (.int (Int32.ofNat i)), .val (.int ((Int32.ofNat i) / (4 : Int32))), .val (.int ((Int32.ofNat i) % (4 : Int32)))] [(.int (Int32.ofNat i)), (.ref b220), (.ref (b102 + 1 + (own_fB2 i).toNatClampNeg))]))
      refine own_ldI X425 hx hZ e425 f422 (own_nn (by omega)) (by rw [own_Llen, own_tn (by omega)]; exact hi') (hb hby d2g2_277) ?_
      show own_Fin _ _ _ _ _ _ _ (T425.setTop (mkF m 278 #[.val (.ref t0), .val (.int (2 : Int32)), .val (.int (Int32.ofNat i)), .val (.int ((Int32.ofNat i) / (4 : Int32))), .val (.int ((Int32.ofNat i) % (4 : Int32)))] [(.int (List.getD (own_L own_fIB2 16 (i + 1)) ((Int32.ofNat i)).toNatClampNeg 0)), (.ref (b102 + 1 + (own_fB2 i).toNatClampNeg))]))
      rw [own_Lget (f := own_fIB2) hi' (by decide)]
      show own_Fin _ _ _ _ _ _ _ (T425.setTop (mkF m 278 #[.val (.ref t0), .val (.int (2 : Int32)), .val (.int (Int32.ofNat i)), .val (.int ((Int32.ofNat i) / (4 : Int32))), .val (.int ((Int32.ofNat i) % (4 : Int32)))] [(.int (own_fIB2 i)), (.ref (b102 + 1 + (own_fB2 i).toNatClampNeg))]))
      refine own_go (fun _ kk => XS.iloadN X425.here hx rfl (hb hby d2g2_278) rfl kk) ?_
      show own_Fin _ _ _ _ _ _ _ (T425.setTop (mkF m 279 #[.val (.ref t0), .val (.int (2 : Int32)), .val (.int (Int32.ofNat i)), .val (.int ((Int32.ofNat i) / (4 : Int32))), .val (.int ((Int32.ofNat i) % (4 : Int32)))] [(.int (Int32.ofNat i)), (.int (own_fIB2 i)), (.ref (b102 + 1 + (own_fB2 i).toNatClampNeg))]))
      refine own_gstore X425 hx hZ e425 G407 (own_bd2 _ hi').2.2.1.2 (own_bd2 _ hi').2.2.2.2.2.1 (own_bd2 _ hi').2.2.2.2.2.2 (hb hby d2g2_279) ?_
      intro T426 h426 X426 e426 W426 G426
      have gg426 : n0 ≤ (b102 + 1 + (own_fB2 i).toNatClampNeg) := Nat.le_trans g_b102 (Nat.le_trans (Nat.le_succ _) (Nat.le_add_right _ _))
      have zz426 : h0.size ≤ (b102 + 1 + (own_fB2 i).toNatClampNeg) := Nat.le_trans sz_b102 (Nat.le_trans (Nat.le_succ _) (Nat.le_add_right _ _))
      have f427 := f408.wr W426
      have f428 := f409.other W426 (Or.inl (own_gne gr_t0 (own_bd2 _ hi').2.2.1.2))
      have f429 := f410.other W426 (Or.inl (own_gne gr_t0 (own_bd2 _ hi').2.2.1.2))
      have f430 := f411.other W426 (Or.inl (own_gne gr_t0 (own_bd2 _ hi').2.2.1.2))
      have f431 := f412.other W426 (Or.inl (own_gne gr_t0 (own_bd2 _ hi').2.2.1.2))
      have f432 := f413.other W426 (Or.inl (own_gne gr_t0 (own_bd2 _ hi').2.2.1.2))
      have f433 := f414.other W426 (Or.inl (own_gne gr_t0 (own_bd2 _ hi').2.2.1.2))
      have f434 := f415.other W426 (Or.inl (own_gne gr_t0 (own_bd2 _ hi').2.2.1.2))
      have f435 := f416.other W426 (Or.inl (own_gne gr_t0 (own_bd2 _ hi').2.2.1.2))
      have f436 := f417.other W426 (own_gne gr_b15 (own_bd2 _ hi').2.2.1.2)
      have f437 := f418.other W426 (own_gne gr_b40 (own_bd2 _ hi').2.2.1.2)
      have f438 := f419.other W426 (own_gne gr_b69 (own_bd2 _ hi').2.2.1.2)
      have f439 := f420.other W426 (own_gne gr_b138 (own_bd2 _ hi').2.2.1.2)
      have f440 := f421.other W426 (own_gne gr_b177 (own_bd2 _ hi').2.2.1.2)
      have f441 := f422.other W426 (own_gne gr_b220 (own_bd2 _ hi').2.2.1.2)
      have Z426 := Nat.le_trans Z407 (Keep.of_wr W426).1
      have K426 := K407.wr W426 (Or.inr zz426)
      have N426 := Fr.snoc X426 N407 gg426
      show own_Fin _ _ _ _ _ _ _ (T426.setTop (mkF m 280 #[.val (.ref t0), .val (.int (2 : Int32)), .val (.int (Int32.ofNat i)), .val (.int ((Int32.ofNat i) / (4 : Int32))), .val (.int ((Int32.ofNat i) % (4 : Int32)))] []))
      refine own_go (fun _ kk => XS.iinc X426.here hx rfl (hb hby d2g2_280) rfl (l' := #[.val (.ref t0), .val (.int (2 : Int32)), .val (.int ((Int32.ofNat i) + (1 : Int32))), .val (.int ((Int32.ofNat i) / (4 : Int32))), .val (.int ((Int32.ofNat i) % (4 : Int32)))]) rfl (XS.goto X426.here hx rfl (pc0 := 283) (pc' := 121) rfl (hb hby d2g2_283) (by decide) (by decide) kk)) ?_
      show own_Fin _ _ _ _ _ _ _ (T426.setTop (mkF m 121 #[.val (.ref t0), .val (.int (2 : Int32)), .val (.int ((Int32.ofNat i) + (1 : Int32))), .val (.int ((Int32.ofNat i) / (4 : Int32))), .val (.int ((Int32.ofNat i) % (4 : Int32)))] []))
      rw [own_succ i]
      exact ih _ (by omega) T426 h426 _ (i + 1) (.val (.int ((Int32.ofNat i) / (4 : Int32)))) (.val (.int ((Int32.ofNat i) % (4 : Int32)))) rfl (by omega) (Or.inr ⟨_, rfl, rfl⟩) (Or.inr ⟨_, rfl, rfl⟩) X426 N426 e426 K426 Z426 f427 f428 f429 f430 f431 f432 f433 f434 f435 f436 f437 f438 f439 f440 f441 G426
    · refine own_go (fun _ kk => XS.icmpYes X266.here hx rfl (pc0 := 131) (pc' := 286) rfl (hb hby d2g2_131) rfl (XT.ii_ge_t hc131) (by decide) (by decide) kk) ?_
      show own_Fin _ _ _ _ _ _ _ (T266.setTop (mkF m 286 #[.val (.ref t0), .val (.int (2 : Int32)), .val (.int (Int32.ofNat i)), s3, s4] []))
      obtain rfl : i = 16 := by have := mt (own_ltN i 16 (by omega) (by decide)).mpr hc131; omega
      exact own_retV X266 hx hlk hret (hb hby d2g2_286) (by decide) (by decide) (by rw [e266]; exact ⟨rfl, NL121, KL121, b15, b40, b69, b102, sz_b15, sz_b40, sz_b69, sz_b102, Fl_size, Fl_rowOf, Fl_columnOf, Fl_boxOf, Fl_cellsOf, Vl_rowOf, Vl_columnOf, Vl_boxOf, Gl.1⟩)
  exact L121 _ T241 h241 _ (0) (.unset) (.unset) rfl (Nat.zero_le _) (Or.inl rfl) (Or.inl rfl) X241 N241 e241 K241 Z241 f242 f243 f244 f245 f246 f247 f248 f249 f264 (by rw [own_L0]; exact f251) (by rw [own_L0]; exact f253) (by rw [own_L0]; exact f255) (by rw [own_L0]; exact f257) (by rw [own_L0]; exact f259) (by rw [own_L0]; exact f261) f263

theorem d5_0 : decode prog_22_method_4_code 0 = .ok (.aload_n 0, 1) := by decide +kernel
theorem d5_1 : decode prog_22_method_4_code 1 = .ok (.getfield 13, 3) := by decide +kernel
theorem d5_4 : decode prog_22_method_4_code 4 = .ok (.areturn, 1) := by decide +kernel
theorem pn_5 : plainFor (⟨"com/example/onda/onda/sudoku/Geometry", "rowOf", "()[I"⟩ : MethodName) = true := plainFor_of_name (by show plainName "com/example/onda/onda/sudoku/Geometry" = true; first | (simp [plainName, overriddenIn]; done) | decide +kernel)
theorem ef_5 (m : MethodId) (x0 : Addr) : entryFrame m #[(.ref x0)] 1 = mkF m 0 #[.val (.ref x0)] [] := by first | (simp [entryFrame, mkF, argsToLocals, Value.category]; done) | rfl
set_option maxRecDepth 65536 in
set_option maxHeartbeats 40000000 in
theorem rm5 (l : Launch) (Z : State) (a0 : Array Value) (hw : ∀ d ∈ tables_1, d.before a0 Z = true) (t0 : Addr) (h0 : Heap) (n0 : Nat) (Z0 : n0 ≤ h0.size) (o0 : Addr) (F0 : Fld Z h0 t0 "com/example/onda/onda/sudoku/Geometry" "rowOf" "[I" (.ref o0)) :
    own_Met l (⟨"com/example/onda/onda/sudoku/Geometry", "rowOf", "()[I"⟩ : MethodName) prog_22_method_4_code 1 (some (.array .int)) ({ frames := 0, cells := 0, slots := 0, locals := 0 } : Room) Z [] #[(.ref t0)] h0 (own_P (some (.ref o0)) h0 n0) := by
  refine own_enter pn_5 ?_
  intro p e s m below meth c s₁ hx hby hml hown hnm hret hlk hZ e0 X0
  rw [ef_5]
  have N0 := Fr.nil n0
  show own_Fin _ _ _ _ _ _ _ (s₁.setTop (mkF m 0 #[.val (.ref t0)] []))
  refine own_go (fun _ kk => XS.aloadN X0.here hx rfl (hb hby d5_0) rfl rfl kk) ?_
  show own_Fin _ _ _ _ _ _ _ (s₁.setTop (mkF m 1 #[.val (.ref t0)] [(.ref t0)]))
  refine own_getF X0 hx hZ hown (host := "") (Or.inl (hw _ (List.mem_of_getElem? (i := 20) rfl))) Via.refl e0 F0 (hb hby d5_1) ?_
  intro T1 X1 e1
  show own_Fin _ _ _ _ _ _ _ (T1.setTop (mkF m 4 #[.val (.ref t0)] [(.ref o0)]))
  exact own_retA X1 hx hlk hret rfl rfl (hb hby d5_4) (by decide) (by decide) ⟨rfl, N0, e1⟩

theorem d6_0 : decode prog_22_method_5_code 0 = .ok (.aload_n 0, 1) := by decide +kernel
theorem d6_1 : decode prog_22_method_5_code 1 = .ok (.getfield 17, 3) := by decide +kernel
theorem d6_4 : decode prog_22_method_5_code 4 = .ok (.areturn, 1) := by decide +kernel
theorem pn_6 : plainFor (⟨"com/example/onda/onda/sudoku/Geometry", "columnOf", "()[I"⟩ : MethodName) = true := plainFor_of_name (by show plainName "com/example/onda/onda/sudoku/Geometry" = true; first | (simp [plainName, overriddenIn]; done) | decide +kernel)
theorem ef_6 (m : MethodId) (x0 : Addr) : entryFrame m #[(.ref x0)] 1 = mkF m 0 #[.val (.ref x0)] [] := by first | (simp [entryFrame, mkF, argsToLocals, Value.category]; done) | rfl
set_option maxRecDepth 65536 in
set_option maxHeartbeats 40000000 in
theorem rm6 (l : Launch) (Z : State) (a0 : Array Value) (hw : ∀ d ∈ tables_1, d.before a0 Z = true) (t0 : Addr) (h0 : Heap) (n0 : Nat) (Z0 : n0 ≤ h0.size) (o0 : Addr) (F0 : Fld Z h0 t0 "com/example/onda/onda/sudoku/Geometry" "columnOf" "[I" (.ref o0)) :
    own_Met l (⟨"com/example/onda/onda/sudoku/Geometry", "columnOf", "()[I"⟩ : MethodName) prog_22_method_5_code 1 (some (.array .int)) ({ frames := 0, cells := 0, slots := 0, locals := 0 } : Room) Z [] #[(.ref t0)] h0 (own_P (some (.ref o0)) h0 n0) := by
  refine own_enter pn_6 ?_
  intro p e s m below meth c s₁ hx hby hml hown hnm hret hlk hZ e0 X0
  rw [ef_6]
  have N0 := Fr.nil n0
  show own_Fin _ _ _ _ _ _ _ (s₁.setTop (mkF m 0 #[.val (.ref t0)] []))
  refine own_go (fun _ kk => XS.aloadN X0.here hx rfl (hb hby d6_0) rfl rfl kk) ?_
  show own_Fin _ _ _ _ _ _ _ (s₁.setTop (mkF m 1 #[.val (.ref t0)] [(.ref t0)]))
  refine own_getF X0 hx hZ hown (host := "") (Or.inl (hw _ (List.mem_of_getElem? (i := 22) rfl))) Via.refl e0 F0 (hb hby d6_1) ?_
  intro T1 X1 e1
  show own_Fin _ _ _ _ _ _ _ (T1.setTop (mkF m 4 #[.val (.ref t0)] [(.ref o0)]))
  exact own_retA X1 hx hlk hret rfl rfl (hb hby d6_4) (by decide) (by decide) ⟨rfl, N0, e1⟩

theorem d7_0 : decode prog_22_method_6_code 0 = .ok (.aload_n 0, 1) := by decide +kernel
theorem d7_1 : decode prog_22_method_6_code 1 = .ok (.getfield 20, 3) := by decide +kernel
theorem d7_4 : decode prog_22_method_6_code 4 = .ok (.areturn, 1) := by decide +kernel
theorem pn_7 : plainFor (⟨"com/example/onda/onda/sudoku/Geometry", "boxOf", "()[I"⟩ : MethodName) = true := plainFor_of_name (by show plainName "com/example/onda/onda/sudoku/Geometry" = true; first | (simp [plainName, overriddenIn]; done) | decide +kernel)
theorem ef_7 (m : MethodId) (x0 : Addr) : entryFrame m #[(.ref x0)] 1 = mkF m 0 #[.val (.ref x0)] [] := by first | (simp [entryFrame, mkF, argsToLocals, Value.category]; done) | rfl
set_option maxRecDepth 65536 in
set_option maxHeartbeats 40000000 in
theorem rm7 (l : Launch) (Z : State) (a0 : Array Value) (hw : ∀ d ∈ tables_1, d.before a0 Z = true) (t0 : Addr) (h0 : Heap) (n0 : Nat) (Z0 : n0 ≤ h0.size) (o0 : Addr) (F0 : Fld Z h0 t0 "com/example/onda/onda/sudoku/Geometry" "boxOf" "[I" (.ref o0)) :
    own_Met l (⟨"com/example/onda/onda/sudoku/Geometry", "boxOf", "()[I"⟩ : MethodName) prog_22_method_6_code 1 (some (.array .int)) ({ frames := 0, cells := 0, slots := 0, locals := 0 } : Room) Z [] #[(.ref t0)] h0 (own_P (some (.ref o0)) h0 n0) := by
  refine own_enter pn_7 ?_
  intro p e s m below meth c s₁ hx hby hml hown hnm hret hlk hZ e0 X0
  rw [ef_7]
  have N0 := Fr.nil n0
  show own_Fin _ _ _ _ _ _ _ (s₁.setTop (mkF m 0 #[.val (.ref t0)] []))
  refine own_go (fun _ kk => XS.aloadN X0.here hx rfl (hb hby d7_0) rfl rfl kk) ?_
  show own_Fin _ _ _ _ _ _ _ (s₁.setTop (mkF m 1 #[.val (.ref t0)] [(.ref t0)]))
  refine own_getF X0 hx hZ hown (host := "") (Or.inl (hw _ (List.mem_of_getElem? (i := 24) rfl))) Via.refl e0 F0 (hb hby d7_1) ?_
  intro T1 X1 e1
  show own_Fin _ _ _ _ _ _ _ (T1.setTop (mkF m 4 #[.val (.ref t0)] [(.ref o0)]))
  exact own_retA X1 hx hlk hret rfl rfl (hb hby d7_4) (by decide) (by decide) ⟨rfl, N0, e1⟩

theorem d8_0 : decode prog_22_method_2_code 0 = .ok (.aload_n 0, 1) := by decide +kernel
theorem d8_1 : decode prog_22_method_2_code 1 = .ok (.getfield 7, 3) := by decide +kernel
theorem d8_4 : decode prog_22_method_2_code 4 = .ok (.ireturn, 1) := by decide +kernel
theorem pn_8 : plainFor (⟨"com/example/onda/onda/sudoku/Geometry", "size", "()I"⟩ : MethodName) = true := plainFor_of_name (by show plainName "com/example/onda/onda/sudoku/Geometry" = true; first | (simp [plainName, overriddenIn]; done) | decide +kernel)
theorem ef_8 (m : MethodId) (x0 : Addr) : entryFrame m #[(.ref x0)] 1 = mkF m 0 #[.val (.ref x0)] [] := by first | (simp [entryFrame, mkF, argsToLocals, Value.category]; done) | rfl
set_option maxRecDepth 65536 in
set_option maxHeartbeats 40000000 in
theorem rm8 (l : Launch) (Z : State) (a0 : Array Value) (hw : ∀ d ∈ tables_1, d.before a0 Z = true) (t0 : Addr) (h0 : Heap) (n0 : Nat) (Z0 : n0 ≤ h0.size) (o0 : Int32) (F0 : Fld Z h0 t0 "com/example/onda/onda/sudoku/Geometry" "size" "I" (.int o0)) :
    own_Met l (⟨"com/example/onda/onda/sudoku/Geometry", "size", "()I"⟩ : MethodName) prog_22_method_2_code 1 (some .int) ({ frames := 0, cells := 0, slots := 0, locals := 0 } : Room) Z [] #[(.ref t0)] h0 (own_P (some (.int o0)) h0 n0) := by
  refine own_enter pn_8 ?_
  intro p e s m below meth c s₁ hx hby hml hown hnm hret hlk hZ e0 X0
  rw [ef_8]
  have N0 := Fr.nil n0
  show own_Fin _ _ _ _ _ _ _ (s₁.setTop (mkF m 0 #[.val (.ref t0)] []))
  refine own_go (fun _ kk => XS.aloadN X0.here hx rfl (hb hby d8_0) rfl rfl kk) ?_
  show own_Fin _ _ _ _ _ _ _ (s₁.setTop (mkF m 1 #[.val (.ref t0)] [(.ref t0)]))
  refine own_getF X0 hx hZ hown (host := "") (Or.inl (hw _ (List.mem_of_getElem? (i := 17) rfl))) Via.refl e0 F0 (hb hby d8_1) ?_
  intro T1 X1 e1
  show own_Fin _ _ _ _ _ _ _ (T1.setTop (mkF m 4 #[.val (.ref t0)] [(.int o0)]))
  exact own_retI X1 hx hlk hret (hb hby d8_4) (by decide) (by decide) ⟨rfl, N0, e1⟩

theorem d9g2_0 : decode prog_22_method_3_code 0 = .ok (.aload_n 0, 1) := by decide +kernel
theorem d9g2_1 : decode prog_22_method_3_code 1 = .ok (.getfield 25, 3) := by decide +kernel
theorem d9g2_4 : decode prog_22_method_3_code 4 = .ok (.arraylength, 1) := by decide +kernel
theorem d9g2_5 : decode prog_22_method_3_code 5 = .ok (.ireturn, 1) := by decide +kernel
theorem pn_9g2 : plainFor (⟨"com/example/onda/onda/sudoku/Geometry", "units", "()I"⟩ : MethodName) = true := plainFor_of_name (by show plainName "com/example/onda/onda/sudoku/Geometry" = true; first | (simp [plainName, overriddenIn]; done) | decide +kernel)
theorem ef_9g2 (m : MethodId) (x0 : Addr) : entryFrame m #[(.ref x0)] 1 = mkF m 0 #[.val (.ref x0)] [] := by first | (simp [entryFrame, mkF, argsToLocals, Value.category]; done) | rfl
set_option maxRecDepth 65536 in
set_option maxHeartbeats 40000000 in
theorem rm9g2 (l : Launch) (Z : State) (a0 : Array Value) (hw : ∀ d ∈ tables_1, d.before a0 Z = true) (t0 : Addr) (h0 : Heap) (n0 : Nat) (Z0 : n0 ≤ h0.size) (gg : Addr) (F0 : Fld Z h0 t0 "com/example/onda/onda/sudoku/Geometry" "cellsOf" "[[I" (.ref gg)) (VG : own_Ar Z h0 gg (.array .int) ((List.range 12).map fun j => Value.ref (gg + 1 + j))) :
    own_Met l (⟨"com/example/onda/onda/sudoku/Geometry", "units", "()I"⟩ : MethodName) prog_22_method_3_code 1 (some .int) ({ frames := 0, cells := 0, slots := 0, locals := 0 } : Room) Z [] #[(.ref t0)] h0 (own_P (some (.int (12 : Int32))) h0 n0) := by
  refine own_enter pn_9g2 ?_
  intro p e s m below meth c s₁ hx hby hml hown hnm hret hlk hZ e0 X0
  rw [ef_9g2]
  have N0 := Fr.nil n0
  show own_Fin _ _ _ _ _ _ _ (s₁.setTop (mkF m 0 #[.val (.ref t0)] []))
  refine own_go (fun _ kk => XS.aloadN X0.here hx rfl (hb hby d9g2_0) rfl rfl kk) ?_
  show own_Fin _ _ _ _ _ _ _ (s₁.setTop (mkF m 1 #[.val (.ref t0)] [(.ref t0)]))
  refine own_getF X0 hx hZ hown (host := "") (Or.inl (hw _ (List.mem_of_getElem? (i := 28) rfl))) Via.refl e0 F0 (hb hby d9g2_1) ?_
  intro T1 X1 e1
  show own_Fin _ _ _ _ _ _ _ (T1.setTop (mkF m 4 #[.val (.ref t0)] [(.ref gg)]))
  refine own_alen X1 hx hZ e1 VG (hb hby d9g2_4) ?_
  show own_Fin _ _ _ _ _ _ _ (T1.setTop (mkF m 5 #[.val (.ref t0)] [(.int (12 : Int32))]))
  exact own_retI X1 hx hlk hret (hb hby d9g2_5) (by decide) (by decide) ⟨rfl, N0, e1⟩

def own_QU2 (Z : State) (t0 bR bC bB : Addr) (h0 : Heap) (n0 : Nat) (v : Option Value) (h : Heap) (L : List Loc) : Prop := v = none ∧ Fr n0 L ∧ Keep h0 h [t0] ∧ ∃ hd : Addr, h0.size ≤ hd ∧ Fld Z h t0 "com/example/onda/onda/sudoku/Units" "rowOf" "[I" (.ref bR) ∧ Fld Z h t0 "com/example/onda/onda/sudoku/Units" "columnOf" "[I" (.ref bC) ∧ Fld Z h t0 "com/example/onda/onda/sudoku/Units" "boxOf" "[I" (.ref bB) ∧ Fld Z h t0 "com/example/onda/onda/sudoku/Units" "numbers" "J" (.long (((1 : Int64) <<< (((5 : Int32)) &&& 0x3f).toInt64) - (2 : Int64))) ∧ Fld Z h t0 "com/example/onda/onda/sudoku/Units" "held" "[J" (.ref hd) ∧ own_Ar Z h hd .long ((List.replicate 12 (0 : Int64)).map Value.long)
theorem d4g2_0 : decode prog_24_method_2_code 0 = .ok (.aload_n 0, 1) := by decide +kernel
theorem d4g2_1 : decode prog_24_method_2_code 1 = .ok (.invokespecial 12, 3) := by decide +kernel
theorem d4g2_4 : decode prog_24_method_2_code 4 = .ok (.aload_n 0, 1) := by decide +kernel
theorem d4g2_5 : decode prog_24_method_2_code 5 = .ok (.aload_n 1, 1) := by decide +kernel
theorem d4g2_6 : decode prog_24_method_2_code 6 = .ok (.invokevirtual 17, 3) := by decide +kernel
theorem d4g2_9 : decode prog_24_method_2_code 9 = .ok (.putfield 21, 3) := by decide +kernel
theorem d4g2_12 : decode prog_24_method_2_code 12 = .ok (.aload_n 0, 1) := by decide +kernel
theorem d4g2_13 : decode prog_24_method_2_code 13 = .ok (.aload_n 1, 1) := by decide +kernel
theorem d4g2_14 : decode prog_24_method_2_code 14 = .ok (.invokevirtual 24, 3) := by decide +kernel
theorem d4g2_17 : decode prog_24_method_2_code 17 = .ok (.putfield 27, 3) := by decide +kernel
theorem d4g2_20 : decode prog_24_method_2_code 20 = .ok (.aload_n 0, 1) := by decide +kernel
theorem d4g2_21 : decode prog_24_method_2_code 21 = .ok (.aload_n 1, 1) := by decide +kernel
theorem d4g2_22 : decode prog_24_method_2_code 22 = .ok (.invokevirtual 29, 3) := by decide +kernel
theorem d4g2_25 : decode prog_24_method_2_code 25 = .ok (.putfield 32, 3) := by decide +kernel
theorem d4g2_28 : decode prog_24_method_2_code 28 = .ok (.aload_n 0, 1) := by decide +kernel
theorem d4g2_29 : decode prog_24_method_2_code 29 = .ok (.lconst 1, 1) := by decide +kernel
theorem d4g2_30 : decode prog_24_method_2_code 30 = .ok (.aload_n 1, 1) := by decide +kernel
theorem d4g2_31 : decode prog_24_method_2_code 31 = .ok (.invokevirtual 34, 3) := by decide +kernel
theorem d4g2_34 : decode prog_24_method_2_code 34 = .ok (.iconst 1, 1) := by decide +kernel
theorem d4g2_35 : decode prog_24_method_2_code 35 = .ok (.iadd, 1) := by decide +kernel
theorem d4g2_36 : decode prog_24_method_2_code 36 = .ok (.lshl, 1) := by decide +kernel
theorem d4g2_37 : decode prog_24_method_2_code 37 = .ok (.ldc2_w 38, 3) := by decide +kernel
theorem d4g2_40 : decode prog_24_method_2_code 40 = .ok (.lsub, 1) := by decide +kernel
theorem d4g2_41 : decode prog_24_method_2_code 41 = .ok (.putfield 40, 3) := by decide +kernel
theorem d4g2_44 : decode prog_24_method_2_code 44 = .ok (.aload_n 0, 1) := by decide +kernel
theorem d4g2_45 : decode prog_24_method_2_code 45 = .ok (.aload_n 1, 1) := by decide +kernel
theorem d4g2_46 : decode prog_24_method_2_code 46 = .ok (.invokevirtual 44, 3) := by decide +kernel
theorem d4g2_49 : decode prog_24_method_2_code 49 = .ok (.newarray .long, 2) := by decide +kernel
theorem d4g2_51 : decode prog_24_method_2_code 51 = .ok (.putfield 47, 3) := by decide +kernel
theorem d4g2_54 : decode prog_24_method_2_code 54 = .ok (.return_, 1) := by decide +kernel
theorem pd_4g2_0 : parseMethodDescriptor "()[I" = some ⟨[], some (.array .int)⟩ := by decide +kernel
theorem pd_4g2_1 : parseMethodDescriptor "()I" = some ⟨[], some .int⟩ := by decide +kernel
theorem pn_4g2 : plainFor (⟨"com/example/onda/onda/sudoku/Units", "<init>", "(Lcom/example/onda/onda/sudoku/Geometry;)V"⟩ : MethodName) = true := plainFor_of_name (by show plainName "com/example/onda/onda/sudoku/Units" = true; first | (simp [plainName, overriddenIn]; done) | decide +kernel)
theorem ef_4g2 (m : MethodId) (x0 : Addr) (x1 : Addr) : entryFrame m #[(.ref x0), (.ref x1)] 2 = mkF m 0 #[.val (.ref x0), .val (.ref x1)] [] := by first | (simp [entryFrame, mkF, argsToLocals, Value.category]; done) | rfl
set_option maxRecDepth 65536 in
set_option maxHeartbeats 40000000 in
theorem rm4g2 (l : Launch) (Z : State) (a0 : Array Value) (hw : ∀ d ∈ tables_1, d.before a0 Z = true) (t0 : Addr) (t1 : Addr) (h0 : Heap) (n0 : Nat) (Z0 : n0 ≤ h0.size) (E_t0 : Exa Z h0 t0 "com/example/onda/onda/sudoku/Units") (F_rowOf : Fld Z h0 t0 "com/example/onda/onda/sudoku/Units" "rowOf" "[I" .null) (F_columnOf : Fld Z h0 t0 "com/example/onda/onda/sudoku/Units" "columnOf" "[I" .null) (F_boxOf : Fld Z h0 t0 "com/example/onda/onda/sudoku/Units" "boxOf" "[I" .null) (F_numbers : Fld Z h0 t0 "com/example/onda/onda/sudoku/Units" "numbers" "J" (.long (0 : Int64))) (F_held : Fld Z h0 t0 "com/example/onda/onda/sudoku/Units" "held" "[J" .null) (g_t0 : n0 ≤ t0) (bR bC bB gg : Addr) (E_t1 : Exa Z h0 t1 "com/example/onda/onda/sudoku/Geometry") (G_size : Fld Z h0 t1 "com/example/onda/onda/sudoku/Geometry" "size" "I" (.int (4 : Int32))) (G_rowOf : Fld Z h0 t1 "com/example/onda/onda/sudoku/Geometry" "rowOf" "[I" (.ref bR)) (G_columnOf : Fld Z h0 t1 "com/example/onda/onda/sudoku/Geometry" "columnOf" "[I" (.ref bC)) (G_boxOf : Fld Z h0 t1 "com/example/onda/onda/sudoku/Geometry" "boxOf" "[I" (.ref bB)) (G_cellsOf : Fld Z h0 t1 "com/example/onda/onda/sudoku/Geometry" "cellsOf" "[[I" (.ref gg)) (VR : own_Ar Z h0 bR .int ((own_L own_fR2 16 16).map Value.int)) (VC : own_Ar Z h0 bC .int ((own_L own_fC2 16 16).map Value.int)) (VB : own_Ar Z h0 bB .int ((own_L own_fB2 16 16).map Value.int)) (VG : own_Ar Z h0 gg (.array .int) ((List.range 12).map fun j => Value.ref (gg + 1 + j))) (n01 : t0 ≠ t1) (n0bR : t0 ≠ bR) (n0bC : t0 ≠ bC) (n0bB : t0 ≠ bB) (n0gg : t0 ≠ gg) :
    own_Met l (⟨"com/example/onda/onda/sudoku/Units", "<init>", "(Lcom/example/onda/onda/sudoku/Geometry;)V"⟩ : MethodName) prog_24_method_2_code 2 none ({ frames := 1, cells := 1, slots := 12, locals := 15 } : Room) Z [] #[(.ref t0), (.ref t1)] h0 (own_QU2 Z t0 bR bC bB h0 n0) := by
  refine own_enter pn_4g2 ?_
  intro p e s m below meth c s₁ hx hby hml hown hnm hret hlk hZ e0 X0
  rw [ef_4g2]
  have N0 := Fr.nil n0
  show own_Fin _ _ _ _ _ _ _ (s₁.setTop (mkF m 0 #[.val (.ref t0), .val (.ref t1)] []))
  refine own_go (fun _ kk => XS.aloadN X0.here hx rfl (hb hby d4g2_0) rfl rfl kk) ?_
  show own_Fin _ _ _ _ _ _ _ (s₁.setTop (mkF m 1 #[.val (.ref t0), .val (.ref t1)] [(.ref t0)]))
  refine own_initO X0 hx hZ hown (hw _ (List.mem_of_getElem? (i := 39) rfl)) (hw _ (List.mem_of_getElem? (i := 15) rfl)) (hw _ (List.mem_of_getElem? (i := 16) rfl)) e0 (by rw [hml]; rfl) (hb hby d4g2_1) (by decide) (W := 0) (Nat.le_of_eq rfl) (by decide) ?_
  intro T1 X1 e1
  show own_Fin _ _ _ _ _ _ _ (T1.setTop (mkF m 4 #[.val (.ref t0), .val (.ref t1)] []))
  refine own_go (fun _ kk => XS.aloadN X1.here hx rfl (hb hby d4g2_4) rfl rfl (XS.aloadN X1.here hx rfl (hb hby d4g2_5) rfl rfl kk)) ?_
  show own_Fin _ _ _ _ _ _ _ (T1.setTop (mkF m 6 #[.val (.ref t0), .val (.ref t1)] [(.ref t1), (.ref t0)]))
  refine own_callV X1 hx hZ hown (hw _ (List.mem_of_getElem? (i := 40) rfl)) (hw _ (List.mem_of_getElem? (i := 41) rfl)) (notFace_of_selects (args := #[]) (mvT hZ (hw _ (List.mem_of_getElem? (i := 43) rfl)))) (hw _ (List.mem_of_getElem? (i := 43) rfl)) (hw _ (List.mem_of_getElem? (i := 42) rfl)) (hw _ (List.mem_of_getElem? (i := 44) rfl)) (hw _ (List.mem_of_getElem? (i := 10) rfl)) (by decide) (rm5 l Z a0 hw t1 h0 n0 Z0 bR G_rowOf) e1 E_t1 (argsL := []) (rest := [(.ref t0)]) rfl rfl (by rw [hml]; rfl) (lenOf pd_4g2_0 rfl) (hb hby d4g2_6) (W := 1) (Nat.le_of_eq rfl) (by decide) (by decide) (by decide) (by decide) ?_
  rintro v2 T2 L2 X2 ⟨rfl, M2, e2⟩
  have N2 := Fr.app N0 M2
  show own_Fin _ _ _ _ _ _ _ (T2.setTop (mkF m 9 #[.val (.ref t0), .val (.ref t1)] [(.ref bR), (.ref t0)]))
  refine own_putF X2 hx hZ hown (host := "") (Or.inl (hw _ (List.mem_of_getElem? (i := 45) rfl))) Via.refl e2 F_rowOf E_t0 (Or.inr ⟨(hw _ (List.mem_of_getElem? (i := 46) rfl)), rfl, hnm⟩) (hw _ (List.mem_of_getElem? (i := 6) rfl)) (ty := (.array .int)) (by decide) rfl rfl (hb hby d4g2_9) ?_
  intro T3 h3 X3 e3 W3
  have f4 := E_t0.wr W3
  have f6 := F_columnOf.other W3 (Or.inr (slot_ne (Or.inr (hw _ (List.mem_of_getElem? (i := 53) rfl))) (Or.inr (hw _ (List.mem_of_getElem? (i := 46) rfl))) (by decide) (t := (.array .int)) (t' := (.array .int)) (by decide) (by decide)))
  have f7 := F_boxOf.other W3 (Or.inr (slot_ne (Or.inr (hw _ (List.mem_of_getElem? (i := 60) rfl))) (Or.inr (hw _ (List.mem_of_getElem? (i := 46) rfl))) (by decide) (t := (.array .int)) (t' := (.array .int)) (by decide) (by decide)))
  have f8 := F_numbers.other W3 (Or.inr (slot_ne (Or.inr (hw _ (List.mem_of_getElem? (i := 68) rfl))) (Or.inr (hw _ (List.mem_of_getElem? (i := 46) rfl))) (by decide) (t := .long) (t' := (.array .int)) (by decide) (by decide)))
  have f9 := F_held.other W3 (Or.inr (slot_ne (Or.inr (hw _ (List.mem_of_getElem? (i := 76) rfl))) (Or.inr (hw _ (List.mem_of_getElem? (i := 46) rfl))) (by decide) (t := (.array .long)) (t' := (.array .int)) (by decide) (by decide)))
  have f10 := E_t1.wr W3
  have f11 := G_size.other W3 (Or.inl (Ne.symm n01))
  have f12 := G_rowOf.other W3 (Or.inl (Ne.symm n01))
  have f13 := G_columnOf.other W3 (Or.inl (Ne.symm n01))
  have f14 := G_boxOf.other W3 (Or.inl (Ne.symm n01))
  have f15 := G_cellsOf.other W3 (Or.inl (Ne.symm n01))
  have f16 := VR.other W3 (Ne.symm n0bR)
  have f17 := VC.other W3 (Ne.symm n0bC)
  have f18 := VB.other W3 (Ne.symm n0bB)
  have f19 := VG.other W3 (Ne.symm n0gg)
  have Z3 := Nat.le_trans Z0 (Keep.of_wr W3).1
  have K3 := (Keep.refl h0 [t0]).wr W3 (Or.inl (List.mem_of_getElem? (i := 0) rfl))
  have f20 := F_rowOf.same W3
  have N3 := Fr.snoc X3 N2 g_t0
  show own_Fin _ _ _ _ _ _ _ (T3.setTop (mkF m 12 #[.val (.ref t0), .val (.ref t1)] []))
  refine own_go (fun _ kk => XS.aloadN X3.here hx rfl (hb hby d4g2_12) rfl rfl (XS.aloadN X3.here hx rfl (hb hby d4g2_13) rfl rfl kk)) ?_
  show own_Fin _ _ _ _ _ _ _ (T3.setTop (mkF m 14 #[.val (.ref t0), .val (.ref t1)] [(.ref t1), (.ref t0)]))
  refine own_callV X3 hx hZ hown (hw _ (List.mem_of_getElem? (i := 47) rfl)) (hw _ (List.mem_of_getElem? (i := 48) rfl)) (notFace_of_selects (args := #[]) (mvT hZ (hw _ (List.mem_of_getElem? (i := 50) rfl)))) (hw _ (List.mem_of_getElem? (i := 50) rfl)) (hw _ (List.mem_of_getElem? (i := 49) rfl)) (hw _ (List.mem_of_getElem? (i := 51) rfl)) (hw _ (List.mem_of_getElem? (i := 10) rfl)) (by decide) (rm6 l Z a0 hw t1 h3 n0 Z3 bC f13) e3 f10 (argsL := []) (rest := [(.ref t0)]) rfl rfl (by rw [hml]; rfl) (lenOf pd_4g2_0 rfl) (hb hby d4g2_14) (W := 1) (Nat.le_of_eq rfl) (by decide) (by decide) (by decide) (by decide) ?_
  rintro v21 T21 L21 X21 ⟨rfl, M21, e21⟩
  have N21 := Fr.app N3 M21
  show own_Fin _ _ _ _ _ _ _ (T21.setTop (mkF m 17 #[.val (.ref t0), .val (.ref t1)] [(.ref bC), (.ref t0)]))
  refine own_putF X21 hx hZ hown (host := "") (Or.inl (hw _ (List.mem_of_getElem? (i := 52) rfl))) Via.refl e21 f6 f4 (Or.inr ⟨(hw _ (List.mem_of_getElem? (i := 53) rfl)), rfl, hnm⟩) (hw _ (List.mem_of_getElem? (i := 6) rfl)) (ty := (.array .int)) (by decide) rfl rfl (hb hby d4g2_17) ?_
  intro T22 h22 X22 e22 W22
  have f23 := f4.wr W22
  have f24 := f20.other W22 (Or.inr (slot_ne (Or.inr (hw _ (List.mem_of_getElem? (i := 46) rfl))) (Or.inr (hw _ (List.mem_of_getElem? (i := 53) rfl))) (by decide) (t := (.array .int)) (t' := (.array .int)) (by decide) (by decide)))
  have f26 := f7.other W22 (Or.inr (slot_ne (Or.inr (hw _ (List.mem_of_getElem? (i := 60) rfl))) (Or.inr (hw _ (List.mem_of_getElem? (i := 53) rfl))) (by decide) (t := (.array .int)) (t' := (.array .int)) (by decide) (by decide)))
  have f27 := f8.other W22 (Or.inr (slot_ne (Or.inr (hw _ (List.mem_of_getElem? (i := 68) rfl))) (Or.inr (hw _ (List.mem_of_getElem? (i := 53) rfl))) (by decide) (t := .long) (t' := (.array .int)) (by decide) (by decide)))
  have f28 := f9.other W22 (Or.inr (slot_ne (Or.inr (hw _ (List.mem_of_getElem? (i := 76) rfl))) (Or.inr (hw _ (List.mem_of_getElem? (i := 53) rfl))) (by decide) (t := (.array .long)) (t' := (.array .int)) (by decide) (by decide)))
  have f29 := f10.wr W22
  have f30 := f11.other W22 (Or.inl (Ne.symm n01))
  have f31 := f12.other W22 (Or.inl (Ne.symm n01))
  have f32 := f13.other W22 (Or.inl (Ne.symm n01))
  have f33 := f14.other W22 (Or.inl (Ne.symm n01))
  have f34 := f15.other W22 (Or.inl (Ne.symm n01))
  have f35 := f16.other W22 (Ne.symm n0bR)
  have f36 := f17.other W22 (Ne.symm n0bC)
  have f37 := f18.other W22 (Ne.symm n0bB)
  have f38 := f19.other W22 (Ne.symm n0gg)
  have Z22 := Nat.le_trans Z3 (Keep.of_wr W22).1
  have K22 := K3.wr W22 (Or.inl (List.mem_of_getElem? (i := 0) rfl))
  have f39 := f6.same W22
  have N22 := Fr.snoc X22 N21 g_t0
  show own_Fin _ _ _ _ _ _ _ (T22.setTop (mkF m 20 #[.val (.ref t0), .val (.ref t1)] []))
  refine own_go (fun _ kk => XS.aloadN X22.here hx rfl (hb hby d4g2_20) rfl rfl (XS.aloadN X22.here hx rfl (hb hby d4g2_21) rfl rfl kk)) ?_
  show own_Fin _ _ _ _ _ _ _ (T22.setTop (mkF m 22 #[.val (.ref t0), .val (.ref t1)] [(.ref t1), (.ref t0)]))
  refine own_callV X22 hx hZ hown (hw _ (List.mem_of_getElem? (i := 54) rfl)) (hw _ (List.mem_of_getElem? (i := 55) rfl)) (notFace_of_selects (args := #[]) (mvT hZ (hw _ (List.mem_of_getElem? (i := 57) rfl)))) (hw _ (List.mem_of_getElem? (i := 57) rfl)) (hw _ (List.mem_of_getElem? (i := 56) rfl)) (hw _ (List.mem_of_getElem? (i := 58) rfl)) (hw _ (List.mem_of_getElem? (i := 10) rfl)) (by decide) (rm7 l Z a0 hw t1 h22 n0 Z22 bB f33) e22 f29 (argsL := []) (rest := [(.ref t0)]) rfl rfl (by rw [hml]; rfl) (lenOf pd_4g2_0 rfl) (hb hby d4g2_22) (W := 1) (Nat.le_of_eq rfl) (by decide) (by decide) (by decide) (by decide) ?_
  rintro v40 T40 L40 X40 ⟨rfl, M40, e40⟩
  have N40 := Fr.app N22 M40
  show own_Fin _ _ _ _ _ _ _ (T40.setTop (mkF m 25 #[.val (.ref t0), .val (.ref t1)] [(.ref bB), (.ref t0)]))
  refine own_putF X40 hx hZ hown (host := "") (Or.inl (hw _ (List.mem_of_getElem? (i := 59) rfl))) Via.refl e40 f26 f23 (Or.inr ⟨(hw _ (List.mem_of_getElem? (i := 60) rfl)), rfl, hnm⟩) (hw _ (List.mem_of_getElem? (i := 6) rfl)) (ty := (.array .int)) (by decide) rfl rfl (hb hby d4g2_25) ?_
  intro T41 h41 X41 e41 W41
  have f42 := f23.wr W41
  have f43 := f24.other W41 (Or.inr (slot_ne (Or.inr (hw _ (List.mem_of_getElem? (i := 46) rfl))) (Or.inr (hw _ (List.mem_of_getElem? (i := 60) rfl))) (by decide) (t := (.array .int)) (t' := (.array .int)) (by decide) (by decide)))
  have f44 := f39.other W41 (Or.inr (slot_ne (Or.inr (hw _ (List.mem_of_getElem? (i := 53) rfl))) (Or.inr (hw _ (List.mem_of_getElem? (i := 60) rfl))) (by decide) (t := (.array .int)) (t' := (.array .int)) (by decide) (by decide)))
  have f46 := f27.other W41 (Or.inr (slot_ne (Or.inr (hw _ (List.mem_of_getElem? (i := 68) rfl))) (Or.inr (hw _ (List.mem_of_getElem? (i := 60) rfl))) (by decide) (t := .long) (t' := (.array .int)) (by decide) (by decide)))
  have f47 := f28.other W41 (Or.inr (slot_ne (Or.inr (hw _ (List.mem_of_getElem? (i := 76) rfl))) (Or.inr (hw _ (List.mem_of_getElem? (i := 60) rfl))) (by decide) (t := (.array .long)) (t' := (.array .int)) (by decide) (by decide)))
  have f48 := f29.wr W41
  have f49 := f30.other W41 (Or.inl (Ne.symm n01))
  have f50 := f31.other W41 (Or.inl (Ne.symm n01))
  have f51 := f32.other W41 (Or.inl (Ne.symm n01))
  have f52 := f33.other W41 (Or.inl (Ne.symm n01))
  have f53 := f34.other W41 (Or.inl (Ne.symm n01))
  have f54 := f35.other W41 (Ne.symm n0bR)
  have f55 := f36.other W41 (Ne.symm n0bC)
  have f56 := f37.other W41 (Ne.symm n0bB)
  have f57 := f38.other W41 (Ne.symm n0gg)
  have Z41 := Nat.le_trans Z22 (Keep.of_wr W41).1
  have K41 := K22.wr W41 (Or.inl (List.mem_of_getElem? (i := 0) rfl))
  have f58 := f26.same W41
  have N41 := Fr.snoc X41 N40 g_t0
  show own_Fin _ _ _ _ _ _ _ (T41.setTop (mkF m 28 #[.val (.ref t0), .val (.ref t1)] []))
  refine own_go (fun _ kk => XS.aloadN X41.here hx rfl (hb hby d4g2_28) rfl rfl (XS.lconst X41.here hx rfl (hb hby d4g2_29) (XS.aloadN X41.here hx rfl (hb hby d4g2_30) rfl rfl kk))) ?_
  show own_Fin _ _ _ _ _ _ _ (T41.setTop (mkF m 31 #[.val (.ref t0), .val (.ref t1)] [(.ref t1), (.long (1 : Int64)), (.ref t0)]))
  refine own_callV X41 hx hZ hown (hw _ (List.mem_of_getElem? (i := 61) rfl)) (hw _ (List.mem_of_getElem? (i := 62) rfl)) (notFace_of_selects (args := #[]) (mvT hZ (hw _ (List.mem_of_getElem? (i := 64) rfl)))) (hw _ (List.mem_of_getElem? (i := 64) rfl)) (hw _ (List.mem_of_getElem? (i := 63) rfl)) (hw _ (List.mem_of_getElem? (i := 65) rfl)) (hw _ (List.mem_of_getElem? (i := 10) rfl)) (by decide) (rm8 l Z a0 hw t1 h41 n0 Z41 (4 : Int32) f49) e41 f48 (argsL := []) (rest := [(.long (1 : Int64)), (.ref t0)]) rfl rfl (by rw [hml]; rfl) (lenOf pd_4g2_1 rfl) (hb hby d4g2_31) (W := 3) (Nat.le_of_eq rfl) (by decide) (by decide) (by decide) (by decide) ?_
  rintro v59 T59 L59 X59 ⟨rfl, M59, e59⟩
  have N59 := Fr.app N41 M59
  show own_Fin _ _ _ _ _ _ _ (T59.setTop (mkF m 34 #[.val (.ref t0), .val (.ref t1)] [(.int (4 : Int32)), (.long (1 : Int64)), (.ref t0)]))
  refine own_go (fun _ kk => XS.iconst X59.here hx rfl (hb hby d4g2_34) (XS.iadd X59.here hx rfl (hb hby d4g2_35) rfl (XS.lshl X59.here hx rfl (hb hby d4g2_36) rfl (X59.ldc2J hx hown (mvT hZ (hw _ (List.mem_of_getElem? (i := 66) rfl))) rfl (hb hby d4g2_37) (XS.lsub X59.here hx rfl (hb hby d4g2_40) rfl kk))))) ?_
  show own_Fin _ _ _ _ _ _ _ (T59.setTop (mkF m 41 #[.val (.ref t0), .val (.ref t1)] [(.long (((1 : Int64) <<< ((5 : Int32) &&& 0x3f).toInt64) - (2 : Int64))), (.ref t0)]))
  refine own_putF X59 hx hZ hown (host := "") (Or.inl (hw _ (List.mem_of_getElem? (i := 67) rfl))) Via.refl e59 f46 f42 (Or.inr ⟨(hw _ (List.mem_of_getElem? (i := 68) rfl)), rfl, hnm⟩) (hw _ (List.mem_of_getElem? (i := 6) rfl)) (ty := .long) (by decide) rfl rfl (hb hby d4g2_41) ?_
  intro T60 h60 X60 e60 W60
  have f61 := f42.wr W60
  have f62 := f43.other W60 (Or.inr (slot_ne (Or.inr (hw _ (List.mem_of_getElem? (i := 46) rfl))) (Or.inr (hw _ (List.mem_of_getElem? (i := 68) rfl))) (by decide) (t := (.array .int)) (t' := .long) (by decide) (by decide)))
  have f63 := f44.other W60 (Or.inr (slot_ne (Or.inr (hw _ (List.mem_of_getElem? (i := 53) rfl))) (Or.inr (hw _ (List.mem_of_getElem? (i := 68) rfl))) (by decide) (t := (.array .int)) (t' := .long) (by decide) (by decide)))
  have f64 := f58.other W60 (Or.inr (slot_ne (Or.inr (hw _ (List.mem_of_getElem? (i := 60) rfl))) (Or.inr (hw _ (List.mem_of_getElem? (i := 68) rfl))) (by decide) (t := (.array .int)) (t' := .long) (by decide) (by decide)))
  have f66 := f47.other W60 (Or.inr (slot_ne (Or.inr (hw _ (List.mem_of_getElem? (i := 76) rfl))) (Or.inr (hw _ (List.mem_of_getElem? (i := 68) rfl))) (by decide) (t := (.array .long)) (t' := .long) (by decide) (by decide)))
  have f67 := f48.wr W60
  have f68 := f49.other W60 (Or.inl (Ne.symm n01))
  have f69 := f50.other W60 (Or.inl (Ne.symm n01))
  have f70 := f51.other W60 (Or.inl (Ne.symm n01))
  have f71 := f52.other W60 (Or.inl (Ne.symm n01))
  have f72 := f53.other W60 (Or.inl (Ne.symm n01))
  have f73 := f54.other W60 (Ne.symm n0bR)
  have f74 := f55.other W60 (Ne.symm n0bC)
  have f75 := f56.other W60 (Ne.symm n0bB)
  have f76 := f57.other W60 (Ne.symm n0gg)
  have Z60 := Nat.le_trans Z41 (Keep.of_wr W60).1
  have K60 := K41.wr W60 (Or.inl (List.mem_of_getElem? (i := 0) rfl))
  have f77 := f46.same W60
  have N60 := Fr.snoc X60 N59 g_t0
  show own_Fin _ _ _ _ _ _ _ (T60.setTop (mkF m 44 #[.val (.ref t0), .val (.ref t1)] []))
  refine own_go (fun _ kk => XS.aloadN X60.here hx rfl (hb hby d4g2_44) rfl rfl (XS.aloadN X60.here hx rfl (hb hby d4g2_45) rfl rfl kk)) ?_
  show own_Fin _ _ _ _ _ _ _ (T60.setTop (mkF m 46 #[.val (.ref t0), .val (.ref t1)] [(.ref t1), (.ref t0)]))
  refine own_callV X60 hx hZ hown (hw _ (List.mem_of_getElem? (i := 69) rfl)) (hw _ (List.mem_of_getElem? (i := 70) rfl)) (notFace_of_selects (args := #[]) (mvT hZ (hw _ (List.mem_of_getElem? (i := 72) rfl)))) (hw _ (List.mem_of_getElem? (i := 72) rfl)) (hw _ (List.mem_of_getElem? (i := 71) rfl)) (hw _ (List.mem_of_getElem? (i := 73) rfl)) (hw _ (List.mem_of_getElem? (i := 10) rfl)) (by decide) (rm9g2 l Z a0 hw t1 h60 n0 Z60 gg f72 f76) e60 f67 (argsL := []) (rest := [(.ref t0)]) rfl rfl (by rw [hml]; rfl) (lenOf pd_4g2_1 rfl) (hb hby d4g2_46) (W := 1) (Nat.le_of_eq rfl) (by decide) (by decide) (by decide) (by decide) ?_
  rintro v78 T78 L78 X78 ⟨rfl, M78, e78⟩
  have N78 := Fr.app N60 M78
  show own_Fin _ _ _ _ _ _ _ (T78.setTop (mkF m 49 #[.val (.ref t0), .val (.ref t1)] [(.int (12 : Int32)), (.ref t0)]))
  refine own_newJ X78 hx hZ (hw _ (List.mem_of_getElem? (i := 74) rfl)) e78 (hb hby d4g2_49) (by decide) (cap := 12) (by decide) (by decide) (by decide) (by decide) ?_
  intro T79 h79 b79 g79 X79 e79 E79 A79 D79
  have g_b79 : n0 ≤ b79 := Nat.le_trans Z60 (Nat.le_of_eq g79.symm)
  have ne_t0_b79 : t0 ≠ b79 := Nat.ne_of_lt (Nat.lt_of_lt_of_le f61.lt (Nat.le_of_eq g79.symm))
  have ne_t1_b79 : t1 ≠ b79 := Nat.ne_of_lt (Nat.lt_of_lt_of_le f67.lt (Nat.le_of_eq g79.symm))
  have ne_bR_b79 : bR ≠ b79 := Nat.ne_of_lt (Nat.lt_of_lt_of_le f73.lt (Nat.le_of_eq g79.symm))
  have ne_bC_b79 : bC ≠ b79 := Nat.ne_of_lt (Nat.lt_of_lt_of_le f74.lt (Nat.le_of_eq g79.symm))
  have ne_bB_b79 : bB ≠ b79 := Nat.ne_of_lt (Nat.lt_of_lt_of_le f75.lt (Nat.le_of_eq g79.symm))
  have ne_gg_b79 : gg ≠ b79 := Nat.ne_of_lt (Nat.lt_of_lt_of_le f76.lt (Nat.le_of_eq g79.symm))
  have f80 := f61.ext E79
  have f81 := f62.ext E79
  have f82 := f63.ext E79
  have f83 := f64.ext E79
  have f84 := f77.ext E79
  have f85 := f66.ext E79
  have f86 := f67.ext E79
  have f87 := f68.ext E79
  have f88 := f69.ext E79
  have f89 := f70.ext E79
  have f90 := f71.ext E79
  have f91 := f72.ext E79
  have f92 := f73.ext E79
  have f93 := f74.ext E79
  have f94 := f75.ext E79
  have f95 := f76.ext E79
  have Z79 := Nat.le_trans Z60 E79.1
  have sz_b79 : h0.size ≤ b79 := Nat.le_trans K60.1 (Nat.le_of_eq g79.symm)
  have K79 := K60.ext E79
  have A79 : own_Ar Z h79 b79 .long (List.map Value.long (List.replicate 12 (0 : Int64))) := A79
  show own_Fin _ _ _ _ _ _ _ (T79.setTop (mkF m 51 #[.val (.ref t0), .val (.ref t1)] [(.ref b79), (.ref t0)]))
  refine own_putF X79 hx hZ hown (host := "") (Or.inl (hw _ (List.mem_of_getElem? (i := 75) rfl))) Via.refl e79 f85 f80 (Or.inr ⟨(hw _ (List.mem_of_getElem? (i := 76) rfl)), rfl, hnm⟩) (hw _ (List.mem_of_getElem? (i := 6) rfl)) (ty := (.array .long)) (by decide) rfl rfl (hb hby d4g2_51) ?_
  intro T96 h96 X96 e96 W96
  have f97 := f80.wr W96
  have f98 := f81.other W96 (Or.inr (slot_ne (Or.inr (hw _ (List.mem_of_getElem? (i := 46) rfl))) (Or.inr (hw _ (List.mem_of_getElem? (i := 76) rfl))) (by decide) (t := (.array .int)) (t' := (.array .long)) (by decide) (by decide)))
  have f99 := f82.other W96 (Or.inr (slot_ne (Or.inr (hw _ (List.mem_of_getElem? (i := 53) rfl))) (Or.inr (hw _ (List.mem_of_getElem? (i := 76) rfl))) (by decide) (t := (.array .int)) (t' := (.array .long)) (by decide) (by decide)))
  have f100 := f83.other W96 (Or.inr (slot_ne (Or.inr (hw _ (List.mem_of_getElem? (i := 60) rfl))) (Or.inr (hw _ (List.mem_of_getElem? (i := 76) rfl))) (by decide) (t := (.array .int)) (t' := (.array .long)) (by decide) (by decide)))
  have f101 := f84.other W96 (Or.inr (slot_ne (Or.inr (hw _ (List.mem_of_getElem? (i := 68) rfl))) (Or.inr (hw _ (List.mem_of_getElem? (i := 76) rfl))) (by decide) (t := .long) (t' := (.array .long)) (by decide) (by decide)))
  have f103 := f86.wr W96
  have f104 := f87.other W96 (Or.inl (Ne.symm n01))
  have f105 := f88.other W96 (Or.inl (Ne.symm n01))
  have f106 := f89.other W96 (Or.inl (Ne.symm n01))
  have f107 := f90.other W96 (Or.inl (Ne.symm n01))
  have f108 := f91.other W96 (Or.inl (Ne.symm n01))
  have f109 := f92.other W96 (Ne.symm n0bR)
  have f110 := f93.other W96 (Ne.symm n0bC)
  have f111 := f94.other W96 (Ne.symm n0bB)
  have f112 := f95.other W96 (Ne.symm n0gg)
  have f113 := A79.other W96 (Ne.symm ne_t0_b79)
  have f114 := D79.wr W96
  have Z96 := Nat.le_trans Z79 (Keep.of_wr W96).1
  have K96 := K79.wr W96 (Or.inl (List.mem_of_getElem? (i := 0) rfl))
  have f115 := f85.same W96
  have N96 := Fr.snoc X96 N78 g_t0
  show own_Fin _ _ _ _ _ _ _ (T96.setTop (mkF m 54 #[.val (.ref t0), .val (.ref t1)] []))
  exact own_retV X96 hx hlk hret (hb hby d4g2_54) (by decide) (by decide) (by rw [e96]; exact ⟨rfl, N96, K96, b79, sz_b79, f98, f99, f100, f101, f115, f113⟩)

def own_upd (hs : List Int64) (u : Int32) (b : Int64) : List Int64 := List.set hs (u).toNatClampNeg (List.getD hs (u).toNatClampNeg 0 ||| b)
theorem own_updlen (hs : List Int64) (u : Int32) (b : Int64) : (own_upd hs u b).length = hs.length := by simp [own_upd]

def own_pl2 (hs : List Int64) (cell : Int32) (b : Int64) : List Int64 := own_upd (own_upd (own_upd hs (own_fR2 (cell).toNatClampNeg) b) (own_fC2 (cell).toNatClampNeg) b) (own_fB2 (cell).toNatClampNeg) b
theorem own_pllen2 (hs : List Int64) (cell : Int32) (b : Int64) : (own_pl2 hs cell b).length = hs.length := by simp only [own_pl2, own_updlen]
def own_QP2 (Z : State) (hd : Addr) (hs : List Int64) (h0 : Heap) (n0 : Nat) (v : Option Value) (h : Heap) (L : List Loc) : Prop := v = none ∧ Fr n0 L ∧ Keep h0 h [hd] ∧ own_Ar Z h hd .long (hs.map Value.long)
theorem d10g2_0 : decode prog_24_method_6_code 0 = .ok (.lconst 1, 1) := by decide +kernel
theorem d10g2_1 : decode prog_24_method_6_code 1 = .ok (.iload_n 2, 1) := by decide +kernel
theorem d10g2_2 : decode prog_24_method_6_code 2 = .ok (.lshl, 1) := by decide +kernel
theorem d10g2_3 : decode prog_24_method_6_code 3 = .ok (.lstore_n 3, 1) := by decide +kernel
theorem d10g2_4 : decode prog_24_method_6_code 4 = .ok (.aload_n 0, 1) := by decide +kernel
theorem d10g2_5 : decode prog_24_method_6_code 5 = .ok (.getfield 47, 3) := by decide +kernel
theorem d10g2_8 : decode prog_24_method_6_code 8 = .ok (.aload_n 0, 1) := by decide +kernel
theorem d10g2_9 : decode prog_24_method_6_code 9 = .ok (.getfield 21, 3) := by decide +kernel
theorem d10g2_12 : decode prog_24_method_6_code 12 = .ok (.iload_n 1, 1) := by decide +kernel
theorem d10g2_13 : decode prog_24_method_6_code 13 = .ok (.iaload, 1) := by decide +kernel
theorem d10g2_14 : decode prog_24_method_6_code 14 = .ok (.dup2, 1) := by decide +kernel
theorem d10g2_15 : decode prog_24_method_6_code 15 = .ok (.laload, 1) := by decide +kernel
theorem d10g2_16 : decode prog_24_method_6_code 16 = .ok (.lload_n 3, 1) := by decide +kernel
theorem d10g2_17 : decode prog_24_method_6_code 17 = .ok (.lor, 1) := by decide +kernel
theorem d10g2_18 : decode prog_24_method_6_code 18 = .ok (.lastore, 1) := by decide +kernel
theorem d10g2_19 : decode prog_24_method_6_code 19 = .ok (.aload_n 0, 1) := by decide +kernel
theorem d10g2_20 : decode prog_24_method_6_code 20 = .ok (.getfield 47, 3) := by decide +kernel
theorem d10g2_23 : decode prog_24_method_6_code 23 = .ok (.aload_n 0, 1) := by decide +kernel
theorem d10g2_24 : decode prog_24_method_6_code 24 = .ok (.getfield 27, 3) := by decide +kernel
theorem d10g2_27 : decode prog_24_method_6_code 27 = .ok (.iload_n 1, 1) := by decide +kernel
theorem d10g2_28 : decode prog_24_method_6_code 28 = .ok (.iaload, 1) := by decide +kernel
theorem d10g2_29 : decode prog_24_method_6_code 29 = .ok (.dup2, 1) := by decide +kernel
theorem d10g2_30 : decode prog_24_method_6_code 30 = .ok (.laload, 1) := by decide +kernel
theorem d10g2_31 : decode prog_24_method_6_code 31 = .ok (.lload_n 3, 1) := by decide +kernel
theorem d10g2_32 : decode prog_24_method_6_code 32 = .ok (.lor, 1) := by decide +kernel
theorem d10g2_33 : decode prog_24_method_6_code 33 = .ok (.lastore, 1) := by decide +kernel
theorem d10g2_34 : decode prog_24_method_6_code 34 = .ok (.aload_n 0, 1) := by decide +kernel
theorem d10g2_35 : decode prog_24_method_6_code 35 = .ok (.getfield 47, 3) := by decide +kernel
theorem d10g2_38 : decode prog_24_method_6_code 38 = .ok (.aload_n 0, 1) := by decide +kernel
theorem d10g2_39 : decode prog_24_method_6_code 39 = .ok (.getfield 32, 3) := by decide +kernel
theorem d10g2_42 : decode prog_24_method_6_code 42 = .ok (.iload_n 1, 1) := by decide +kernel
theorem d10g2_43 : decode prog_24_method_6_code 43 = .ok (.iaload, 1) := by decide +kernel
theorem d10g2_44 : decode prog_24_method_6_code 44 = .ok (.dup2, 1) := by decide +kernel
theorem d10g2_45 : decode prog_24_method_6_code 45 = .ok (.laload, 1) := by decide +kernel
theorem d10g2_46 : decode prog_24_method_6_code 46 = .ok (.lload_n 3, 1) := by decide +kernel
theorem d10g2_47 : decode prog_24_method_6_code 47 = .ok (.lor, 1) := by decide +kernel
theorem d10g2_48 : decode prog_24_method_6_code 48 = .ok (.lastore, 1) := by decide +kernel
theorem d10g2_49 : decode prog_24_method_6_code 49 = .ok (.return_, 1) := by decide +kernel
theorem pn_10g2 : plainFor (⟨"com/example/onda/onda/sudoku/Units", "place", "(II)V"⟩ : MethodName) = true := plainFor_of_name (by show plainName "com/example/onda/onda/sudoku/Units" = true; first | (simp [plainName, overriddenIn]; done) | decide +kernel)
theorem ef_10g2 (m : MethodId) (x0 : Addr) (x1 : Int32) (x2 : Int32) : entryFrame m #[(.ref x0), (.int x1), (.int x2)] 5 = mkF m 0 #[.val (.ref x0), .val (.int x1), .val (.int x2), .unset, .unset] [] := by first | (simp [entryFrame, mkF, argsToLocals, Value.category]; done) | rfl
set_option maxRecDepth 65536 in
set_option maxHeartbeats 40000000 in
theorem rm10g2 (l : Launch) (Z : State) (a0 : Array Value) (hw : ∀ d ∈ tables_1, d.before a0 Z = true) (t0 : Addr) (p1 : Int32) (p2 : Int32) (h0 : Heap) (n0 : Nat) (Z0 : n0 ≤ h0.size) (bR bC bB hd : Addr) (hs : List Int64) (F_rowOf : Fld Z h0 t0 "com/example/onda/onda/sudoku/Units" "rowOf" "[I" (.ref bR)) (F_columnOf : Fld Z h0 t0 "com/example/onda/onda/sudoku/Units" "columnOf" "[I" (.ref bC)) (F_boxOf : Fld Z h0 t0 "com/example/onda/onda/sudoku/Units" "boxOf" "[I" (.ref bB)) (F_held : Fld Z h0 t0 "com/example/onda/onda/sudoku/Units" "held" "[J" (.ref hd)) (VR : own_Ar Z h0 bR .int ((own_L own_fR2 16 16).map Value.int)) (VC : own_Ar Z h0 bC .int ((own_L own_fC2 16 16).map Value.int)) (VB : own_Ar Z h0 bB .int ((own_L own_fB2 16 16).map Value.int)) (VH : own_Ar Z h0 hd .long (hs.map Value.long)) (hl : hs.length = 12) (nt0 : t0 ≠ hd) (nbR : bR ≠ hd) (nbC : bC ≠ hd) (nbB : bB ≠ hd) (g_hd : n0 ≤ hd) (hj : ¬ p1 < 0) (hi : p1.toNatClampNeg < 16) :
    own_Met l (⟨"com/example/onda/onda/sudoku/Units", "place", "(II)V"⟩ : MethodName) prog_24_method_6_code 5 none ({ frames := 0, cells := 0, slots := 0, locals := 0 } : Room) Z [] #[(.ref t0), (.int p1), (.int p2)] h0 (own_QP2 Z hd (own_pl2 hs p1 ((1 : Int64) <<< (p2 &&& 0x3f).toInt64)) h0 n0) := by
  refine own_enter pn_10g2 ?_
  intro p e s m below meth c s₁ hx hby hml hown hnm hret hlk hZ e0 X0
  rw [ef_10g2]
  have N0 := Fr.nil n0
  show own_Fin _ _ _ _ _ _ _ (s₁.setTop (mkF m 0 #[.val (.ref t0), .val (.int p1), .val (.int p2), .unset, .unset] []))
  refine own_go (fun _ kk => XS.lconst X0.here hx rfl (hb hby d10g2_0) (XS.iloadN X0.here hx rfl (hb hby d10g2_1) rfl (XS.lshl X0.here hx rfl (hb hby d10g2_2) rfl (XS.lstoreN X0.here hx rfl (hb hby d10g2_3) rfl (l' := #[.val (.ref t0), .val (.int p1), .val (.int p2), .val (.long ((1 : Int64) <<< (p2 &&& 0x3f).toInt64)), .second]) rfl kk)))) ?_
  show own_Fin _ _ _ _ _ _ _ (s₁.setTop (mkF m 4 #[.val (.ref t0), .val (.int p1), .val (.int p2), .val (.long ((1 : Int64) <<< (p2 &&& 0x3f).toInt64)), .second] []))
  generalize hbit : ((1 : Int64) <<< (p2 &&& 0x3f).toInt64) = bit
  show own_Fin _ _ _ _ _ _ _ (s₁.setTop (mkF m 4 #[.val (.ref t0), .val (.int p1), .val (.int p2), .val (.long bit), .second] []))
  refine own_go (fun _ kk => XS.aloadN X0.here hx rfl (hb hby d10g2_4) rfl rfl kk) ?_
  show own_Fin _ _ _ _ _ _ _ (s₁.setTop (mkF m 5 #[.val (.ref t0), .val (.int p1), .val (.int p2), .val (.long bit), .second] [(.ref t0)]))
  refine own_getF X0 hx hZ hown (host := "") (Or.inl (hw _ (List.mem_of_getElem? (i := 75) rfl))) Via.refl e0 F_held (hb hby d10g2_5) ?_
  intro T1 X1 e1
  show own_Fin _ _ _ _ _ _ _ (T1.setTop (mkF m 8 #[.val (.ref t0), .val (.int p1), .val (.int p2), .val (.long bit), .second] [(.ref hd)]))
  refine own_go (fun _ kk => XS.aloadN X1.here hx rfl (hb hby d10g2_8) rfl rfl kk) ?_
  show own_Fin _ _ _ _ _ _ _ (T1.setTop (mkF m 9 #[.val (.ref t0), .val (.int p1), .val (.int p2), .val (.long bit), .second] [(.ref t0), (.ref hd)]))
  refine own_getF X1 hx hZ hown (host := "") (Or.inl (hw _ (List.mem_of_getElem? (i := 45) rfl))) Via.refl e1 F_rowOf (hb hby d10g2_9) ?_
  intro T2 X2 e2
  show own_Fin _ _ _ _ _ _ _ (T2.setTop (mkF m 12 #[.val (.ref t0), .val (.int p1), .val (.int p2), .val (.long bit), .second] [(.ref bR), (.ref hd)]))
  refine own_go (fun _ kk => XS.iloadN X2.here hx rfl (hb hby d10g2_12) rfl kk) ?_
  show own_Fin _ _ _ _ _ _ _ (T2.setTop (mkF m 13 #[.val (.ref t0), .val (.int p1), .val (.int p2), .val (.long bit), .second] [(.int p1), (.ref bR), (.ref hd)]))
  refine own_ldI X2 hx hZ e2 VR hj (by rw [own_Llen]; exact hi) (hb hby d10g2_13) ?_
  show own_Fin _ _ _ _ _ _ _ (T2.setTop (mkF m 14 #[.val (.ref t0), .val (.int p1), .val (.int p2), .val (.long bit), .second] [(.int (List.getD (own_L own_fR2 16 16) (p1).toNatClampNeg 0)), (.ref hd)]))
  rw [own_LgetK (f := own_fR2) hi (Nat.le_refl _)]
  show own_Fin _ _ _ _ _ _ _ (T2.setTop (mkF m 14 #[.val (.ref t0), .val (.int p1), .val (.int p2), .val (.long bit), .second] [(.int (own_fR2 (p1).toNatClampNeg)), (.ref hd)]))
  refine own_go (fun _ kk => XT.dup2 X2.here hx rfl (hb hby d10g2_14) rfl rfl rfl kk) ?_
  show own_Fin _ _ _ _ _ _ _ (T2.setTop (mkF m 15 #[.val (.ref t0), .val (.int p1), .val (.int p2), .val (.long bit), .second] [(.int (own_fR2 (p1).toNatClampNeg)), (.ref hd), (.int (own_fR2 (p1).toNatClampNeg)), (.ref hd)]))
  refine own_ldJ X2 hx hZ e2 VH (own_bd2 _ hi).1.1 (by rw [hl]; exact (own_bd2 _ hi).1.2) (hb hby d10g2_15) ?_
  show own_Fin _ _ _ _ _ _ _ (T2.setTop (mkF m 16 #[.val (.ref t0), .val (.int p1), .val (.int p2), .val (.long bit), .second] [(.long (List.getD hs ((own_fR2 (p1).toNatClampNeg)).toNatClampNeg 0)), (.int (own_fR2 (p1).toNatClampNeg)), (.ref hd)]))
  refine own_go (fun _ kk => XS.lloadN X2.here hx rfl (hb hby d10g2_16) rfl (XS.lor X2.here hx rfl (hb hby d10g2_17) rfl kk)) ?_
  show own_Fin _ _ _ _ _ _ _ (T2.setTop (mkF m 18 #[.val (.ref t0), .val (.int p1), .val (.int p2), .val (.long bit), .second] [(.long ((List.getD hs ((own_fR2 (p1).toNatClampNeg)).toNatClampNeg 0) ||| bit)), (.int (own_fR2 (p1).toNatClampNeg)), (.ref hd)]))
  refine own_stJ X2 hx hZ e2 VH (own_bd2 _ hi).1.1 (by rw [hl]; exact (own_bd2 _ hi).1.2) (hb hby d10g2_18) ?_
  intro T3 h3 X3 e3 W3 A3
  have f4 := F_rowOf.other W3 (Or.inl nt0)
  have f5 := F_columnOf.other W3 (Or.inl nt0)
  have f6 := F_boxOf.other W3 (Or.inl nt0)
  have f7 := F_held.other W3 (Or.inl nt0)
  have f8 := VR.other W3 nbR
  have f9 := VC.other W3 nbC
  have f10 := VB.other W3 nbB
  have Z3 := Nat.le_trans Z0 (Keep.of_wr W3).1
  have K3 := (Keep.refl h0 [hd]).wr W3 (Or.inl (List.mem_of_getElem? (i := 0) rfl))
  have N3 := Fr.snoc X3 N0 g_hd
  show own_Fin _ _ _ _ _ _ _ (T3.setTop (mkF m 19 #[.val (.ref t0), .val (.int p1), .val (.int p2), .val (.long bit), .second] []))
  have UA3 : own_Ar Z h3 hd .long (List.map Value.long (own_upd hs (own_fR2 (p1).toNatClampNeg) bit)) := A3
  refine own_go (fun _ kk => XS.aloadN X3.here hx rfl (hb hby d10g2_19) rfl rfl kk) ?_
  show own_Fin _ _ _ _ _ _ _ (T3.setTop (mkF m 20 #[.val (.ref t0), .val (.int p1), .val (.int p2), .val (.long bit), .second] [(.ref t0)]))
  refine own_getF X3 hx hZ hown (host := "") (Or.inl (hw _ (List.mem_of_getElem? (i := 75) rfl))) Via.refl e3 f7 (hb hby d10g2_20) ?_
  intro T12 X12 e12
  show own_Fin _ _ _ _ _ _ _ (T12.setTop (mkF m 23 #[.val (.ref t0), .val (.int p1), .val (.int p2), .val (.long bit), .second] [(.ref hd)]))
  refine own_go (fun _ kk => XS.aloadN X12.here hx rfl (hb hby d10g2_23) rfl rfl kk) ?_
  show own_Fin _ _ _ _ _ _ _ (T12.setTop (mkF m 24 #[.val (.ref t0), .val (.int p1), .val (.int p2), .val (.long bit), .second] [(.ref t0), (.ref hd)]))
  refine own_getF X12 hx hZ hown (host := "") (Or.inl (hw _ (List.mem_of_getElem? (i := 52) rfl))) Via.refl e12 f5 (hb hby d10g2_24) ?_
  intro T13 X13 e13
  show own_Fin _ _ _ _ _ _ _ (T13.setTop (mkF m 27 #[.val (.ref t0), .val (.int p1), .val (.int p2), .val (.long bit), .second] [(.ref bC), (.ref hd)]))
  refine own_go (fun _ kk => XS.iloadN X13.here hx rfl (hb hby d10g2_27) rfl kk) ?_
  show own_Fin _ _ _ _ _ _ _ (T13.setTop (mkF m 28 #[.val (.ref t0), .val (.int p1), .val (.int p2), .val (.long bit), .second] [(.int p1), (.ref bC), (.ref hd)]))
  refine own_ldI X13 hx hZ e13 f9 hj (by rw [own_Llen]; exact hi) (hb hby d10g2_28) ?_
  show own_Fin _ _ _ _ _ _ _ (T13.setTop (mkF m 29 #[.val (.ref t0), .val (.int p1), .val (.int p2), .val (.long bit), .second] [(.int (List.getD (own_L own_fC2 16 16) (p1).toNatClampNeg 0)), (.ref hd)]))
  rw [own_LgetK (f := own_fC2) hi (Nat.le_refl _)]
  show own_Fin _ _ _ _ _ _ _ (T13.setTop (mkF m 29 #[.val (.ref t0), .val (.int p1), .val (.int p2), .val (.long bit), .second] [(.int (own_fC2 (p1).toNatClampNeg)), (.ref hd)]))
  refine own_go (fun _ kk => XT.dup2 X13.here hx rfl (hb hby d10g2_29) rfl rfl rfl kk) ?_
  show own_Fin _ _ _ _ _ _ _ (T13.setTop (mkF m 30 #[.val (.ref t0), .val (.int p1), .val (.int p2), .val (.long bit), .second] [(.int (own_fC2 (p1).toNatClampNeg)), (.ref hd), (.int (own_fC2 (p1).toNatClampNeg)), (.ref hd)]))
  refine own_ldJ X13 hx hZ e13 UA3 (own_bd2 _ hi).2.1.1 (by rw [own_updlen, hl]; exact (own_bd2 _ hi).2.1.2) (hb hby d10g2_30) ?_
  show own_Fin _ _ _ _ _ _ _ (T13.setTop (mkF m 31 #[.val (.ref t0), .val (.int p1), .val (.int p2), .val (.long bit), .second] [(.long (List.getD (own_upd hs (own_fR2 (p1).toNatClampNeg) bit) ((own_fC2 (p1).toNatClampNeg)).toNatClampNeg 0)), (.int (own_fC2 (p1).toNatClampNeg)), (.ref hd)]))
  refine own_go (fun _ kk => XS.lloadN X13.here hx rfl (hb hby d10g2_31) rfl (XS.lor X13.here hx rfl (hb hby d10g2_32) rfl kk)) ?_
  show own_Fin _ _ _ _ _ _ _ (T13.setTop (mkF m 33 #[.val (.ref t0), .val (.int p1), .val (.int p2), .val (.long bit), .second] [(.long ((List.getD (own_upd hs (own_fR2 (p1).toNatClampNeg) bit) ((own_fC2 (p1).toNatClampNeg)).toNatClampNeg 0) ||| bit)), (.int (own_fC2 (p1).toNatClampNeg)), (.ref hd)]))
  refine own_stJ X13 hx hZ e13 UA3 (own_bd2 _ hi).2.1.1 (by rw [own_updlen, hl]; exact (own_bd2 _ hi).2.1.2) (hb hby d10g2_33) ?_
  intro T14 h14 X14 e14 W14 A14
  have f15 := f4.other W14 (Or.inl nt0)
  have f16 := f5.other W14 (Or.inl nt0)
  have f17 := f6.other W14 (Or.inl nt0)
  have f18 := f7.other W14 (Or.inl nt0)
  have f19 := f8.other W14 nbR
  have f20 := f9.other W14 nbC
  have f21 := f10.other W14 nbB
  have Z14 := Nat.le_trans Z3 (Keep.of_wr W14).1
  have K14 := K3.wr W14 (Or.inl (List.mem_of_getElem? (i := 0) rfl))
  have N14 := Fr.snoc X14 N3 g_hd
  show own_Fin _ _ _ _ _ _ _ (T14.setTop (mkF m 34 #[.val (.ref t0), .val (.int p1), .val (.int p2), .val (.long bit), .second] []))
  have UA14 : own_Ar Z h14 hd .long (List.map Value.long (own_upd (own_upd hs (own_fR2 (p1).toNatClampNeg) bit) (own_fC2 (p1).toNatClampNeg) bit)) := A14
  refine own_go (fun _ kk => XS.aloadN X14.here hx rfl (hb hby d10g2_34) rfl rfl kk) ?_
  show own_Fin _ _ _ _ _ _ _ (T14.setTop (mkF m 35 #[.val (.ref t0), .val (.int p1), .val (.int p2), .val (.long bit), .second] [(.ref t0)]))
  refine own_getF X14 hx hZ hown (host := "") (Or.inl (hw _ (List.mem_of_getElem? (i := 75) rfl))) Via.refl e14 f18 (hb hby d10g2_35) ?_
  intro T23 X23 e23
  show own_Fin _ _ _ _ _ _ _ (T23.setTop (mkF m 38 #[.val (.ref t0), .val (.int p1), .val (.int p2), .val (.long bit), .second] [(.ref hd)]))
  refine own_go (fun _ kk => XS.aloadN X23.here hx rfl (hb hby d10g2_38) rfl rfl kk) ?_
  show own_Fin _ _ _ _ _ _ _ (T23.setTop (mkF m 39 #[.val (.ref t0), .val (.int p1), .val (.int p2), .val (.long bit), .second] [(.ref t0), (.ref hd)]))
  refine own_getF X23 hx hZ hown (host := "") (Or.inl (hw _ (List.mem_of_getElem? (i := 59) rfl))) Via.refl e23 f17 (hb hby d10g2_39) ?_
  intro T24 X24 e24
  show own_Fin _ _ _ _ _ _ _ (T24.setTop (mkF m 42 #[.val (.ref t0), .val (.int p1), .val (.int p2), .val (.long bit), .second] [(.ref bB), (.ref hd)]))
  refine own_go (fun _ kk => XS.iloadN X24.here hx rfl (hb hby d10g2_42) rfl kk) ?_
  show own_Fin _ _ _ _ _ _ _ (T24.setTop (mkF m 43 #[.val (.ref t0), .val (.int p1), .val (.int p2), .val (.long bit), .second] [(.int p1), (.ref bB), (.ref hd)]))
  refine own_ldI X24 hx hZ e24 f21 hj (by rw [own_Llen]; exact hi) (hb hby d10g2_43) ?_
  show own_Fin _ _ _ _ _ _ _ (T24.setTop (mkF m 44 #[.val (.ref t0), .val (.int p1), .val (.int p2), .val (.long bit), .second] [(.int (List.getD (own_L own_fB2 16 16) (p1).toNatClampNeg 0)), (.ref hd)]))
  rw [own_LgetK (f := own_fB2) hi (Nat.le_refl _)]
  show own_Fin _ _ _ _ _ _ _ (T24.setTop (mkF m 44 #[.val (.ref t0), .val (.int p1), .val (.int p2), .val (.long bit), .second] [(.int (own_fB2 (p1).toNatClampNeg)), (.ref hd)]))
  refine own_go (fun _ kk => XT.dup2 X24.here hx rfl (hb hby d10g2_44) rfl rfl rfl kk) ?_
  show own_Fin _ _ _ _ _ _ _ (T24.setTop (mkF m 45 #[.val (.ref t0), .val (.int p1), .val (.int p2), .val (.long bit), .second] [(.int (own_fB2 (p1).toNatClampNeg)), (.ref hd), (.int (own_fB2 (p1).toNatClampNeg)), (.ref hd)]))
  refine own_ldJ X24 hx hZ e24 UA14 (own_bd2 _ hi).2.2.1.1 (by rw [own_updlen, own_updlen, hl]; exact (own_bd2 _ hi).2.2.1.2) (hb hby d10g2_45) ?_
  show own_Fin _ _ _ _ _ _ _ (T24.setTop (mkF m 46 #[.val (.ref t0), .val (.int p1), .val (.int p2), .val (.long bit), .second] [(.long (List.getD (own_upd (own_upd hs (own_fR2 (p1).toNatClampNeg) bit) (own_fC2 (p1).toNatClampNeg) bit) ((own_fB2 (p1).toNatClampNeg)).toNatClampNeg 0)), (.int (own_fB2 (p1).toNatClampNeg)), (.ref hd)]))
  refine own_go (fun _ kk => XS.lloadN X24.here hx rfl (hb hby d10g2_46) rfl (XS.lor X24.here hx rfl (hb hby d10g2_47) rfl kk)) ?_
  show own_Fin _ _ _ _ _ _ _ (T24.setTop (mkF m 48 #[.val (.ref t0), .val (.int p1), .val (.int p2), .val (.long bit), .second] [(.long ((List.getD (own_upd (own_upd hs (own_fR2 (p1).toNatClampNeg) bit) (own_fC2 (p1).toNatClampNeg) bit) ((own_fB2 (p1).toNatClampNeg)).toNatClampNeg 0) ||| bit)), (.int (own_fB2 (p1).toNatClampNeg)), (.ref hd)]))
  refine own_stJ X24 hx hZ e24 UA14 (own_bd2 _ hi).2.2.1.1 (by rw [own_updlen, own_updlen, hl]; exact (own_bd2 _ hi).2.2.1.2) (hb hby d10g2_48) ?_
  intro T25 h25 X25 e25 W25 A25
  have f26 := f15.other W25 (Or.inl nt0)
  have f27 := f16.other W25 (Or.inl nt0)
  have f28 := f17.other W25 (Or.inl nt0)
  have f29 := f18.other W25 (Or.inl nt0)
  have f30 := f19.other W25 nbR
  have f31 := f20.other W25 nbC
  have f32 := f21.other W25 nbB
  have Z25 := Nat.le_trans Z14 (Keep.of_wr W25).1
  have K25 := K14.wr W25 (Or.inl (List.mem_of_getElem? (i := 0) rfl))
  have N25 := Fr.snoc X25 N14 g_hd
  show own_Fin _ _ _ _ _ _ _ (T25.setTop (mkF m 49 #[.val (.ref t0), .val (.int p1), .val (.int p2), .val (.long bit), .second] []))
  have UA25 : own_Ar Z h25 hd .long (List.map Value.long (own_upd (own_upd (own_upd hs (own_fR2 (p1).toNatClampNeg) bit) (own_fC2 (p1).toNatClampNeg) bit) (own_fB2 (p1).toNatClampNeg) bit)) := A25
  exact own_retV X25 hx hlk hret (hb hby d10g2_49) (by decide) (by decide) (by rw [e25]; exact ⟨rfl, N25, K25, UA25⟩)

theorem d15g2_0 : decode prog_24_method_3_code 0 = .ok (.aload_n 0, 1) := by decide +kernel
theorem d15g2_1 : decode prog_24_method_3_code 1 = .ok (.getfield 47, 3) := by decide +kernel
theorem d15g2_4 : decode prog_24_method_3_code 4 = .ok (.aload_n 0, 1) := by decide +kernel
theorem d15g2_5 : decode prog_24_method_3_code 5 = .ok (.getfield 21, 3) := by decide +kernel
theorem d15g2_8 : decode prog_24_method_3_code 8 = .ok (.iload_n 1, 1) := by decide +kernel
theorem d15g2_9 : decode prog_24_method_3_code 9 = .ok (.iaload, 1) := by decide +kernel
theorem d15g2_10 : decode prog_24_method_3_code 10 = .ok (.laload, 1) := by decide +kernel
theorem d15g2_11 : decode prog_24_method_3_code 11 = .ok (.lconst 1, 1) := by decide +kernel
theorem d15g2_12 : decode prog_24_method_3_code 12 = .ok (.iload_n 2, 1) := by decide +kernel
theorem d15g2_13 : decode prog_24_method_3_code 13 = .ok (.lshl, 1) := by decide +kernel
theorem d15g2_14 : decode prog_24_method_3_code 14 = .ok (.land, 1) := by decide +kernel
theorem d15g2_15 : decode prog_24_method_3_code 15 = .ok (.lconst 0, 1) := by decide +kernel
theorem d15g2_16 : decode prog_24_method_3_code 16 = .ok (.lcmp, 1) := by decide +kernel
theorem d15g2_17 : decode prog_24_method_3_code 17 = .ok (.ifCond .eq 7, 3) := by decide +kernel
theorem d15g2_20 : decode prog_24_method_3_code 20 = .ok (.iconst 1, 1) := by decide +kernel
theorem d15g2_21 : decode prog_24_method_3_code 21 = .ok (.goto 4, 3) := by decide +kernel
theorem d15g2_24 : decode prog_24_method_3_code 24 = .ok (.iconst 0, 1) := by decide +kernel
theorem d15g2_25 : decode prog_24_method_3_code 25 = .ok (.ireturn, 1) := by decide +kernel
theorem pn_15g2 : plainFor (⟨"com/example/onda/onda/sudoku/Units", "rowHolds", "(II)Z"⟩ : MethodName) = true := plainFor_of_name (by show plainName "com/example/onda/onda/sudoku/Units" = true; first | (simp [plainName, overriddenIn]; done) | decide +kernel)
theorem ef_15g2 (m : MethodId) (x0 : Addr) (x1 : Int32) (x2 : Int32) : entryFrame m #[(.ref x0), (.int x1), (.int x2)] 3 = mkF m 0 #[.val (.ref x0), .val (.int x1), .val (.int x2)] [] := by first | (simp [entryFrame, mkF, argsToLocals, Value.category]; done) | rfl
def own_f15g2 (hs : List Int64) (p1 : Int32) (p2 : Int32) : Int32 :=
  if ((List.getD hs ((own_fR2 (p1).toNatClampNeg)).toNatClampNeg 0) &&& ((1 : Int64) <<< (p2 &&& 0x3f).toInt64)) = (0 : Int64) then
    (0 : Int32)
  else
    (1 : Int32)
set_option maxRecDepth 65536 in
set_option maxHeartbeats 40000000 in
theorem rm15g2 (l : Launch) (Z : State) (a0 : Array Value) (hw : ∀ d ∈ tables_1, d.before a0 Z = true) (t0 : Addr) (p1 : Int32) (p2 : Int32) (h0 : Heap) (n0 : Nat) (Z0 : n0 ≤ h0.size) (bR bC bB hd : Addr) (hs : List Int64) (F_rowOf : Fld Z h0 t0 "com/example/onda/onda/sudoku/Units" "rowOf" "[I" (.ref bR)) (F_columnOf : Fld Z h0 t0 "com/example/onda/onda/sudoku/Units" "columnOf" "[I" (.ref bC)) (F_boxOf : Fld Z h0 t0 "com/example/onda/onda/sudoku/Units" "boxOf" "[I" (.ref bB)) (F_held : Fld Z h0 t0 "com/example/onda/onda/sudoku/Units" "held" "[J" (.ref hd)) (VR : own_Ar Z h0 bR .int ((own_L own_fR2 16 16).map Value.int)) (VC : own_Ar Z h0 bC .int ((own_L own_fC2 16 16).map Value.int)) (VB : own_Ar Z h0 bB .int ((own_L own_fB2 16 16).map Value.int)) (VH : own_Ar Z h0 hd .long (hs.map Value.long)) (hl : hs.length = 12) (hj : ¬ p1 < 0) (hi : p1.toNatClampNeg < 16) :
    own_Met l (⟨"com/example/onda/onda/sudoku/Units", "rowHolds", "(II)Z"⟩ : MethodName) prog_24_method_3_code 3 (some .boolean) ({ frames := 0, cells := 0, slots := 0, locals := 0 } : Room) Z [] #[(.ref t0), (.int p1), (.int p2)] h0 (own_P (some (.int (own_f15g2 hs p1 p2))) h0 n0) := by
  refine own_enter pn_15g2 ?_
  intro p e s m below meth c s₁ hx hby hml hown hnm hret hlk hZ e0 X0
  rw [ef_15g2]
  have N0 := Fr.nil n0
  show own_Fin _ _ _ _ _ _ _ (s₁.setTop (mkF m 0 #[.val (.ref t0), .val (.int p1), .val (.int p2)] []))
  refine own_go (fun _ kk => XS.aloadN X0.here hx rfl (hb hby d15g2_0) rfl rfl kk) ?_
  show own_Fin _ _ _ _ _ _ _ (s₁.setTop (mkF m 1 #[.val (.ref t0), .val (.int p1), .val (.int p2)] [(.ref t0)]))
  refine own_getF X0 hx hZ hown (host := "") (Or.inl (hw _ (List.mem_of_getElem? (i := 75) rfl))) Via.refl e0 F_held (hb hby d15g2_1) ?_
  intro T1 X1 e1
  show own_Fin _ _ _ _ _ _ _ (T1.setTop (mkF m 4 #[.val (.ref t0), .val (.int p1), .val (.int p2)] [(.ref hd)]))
  refine own_go (fun _ kk => XS.aloadN X1.here hx rfl (hb hby d15g2_4) rfl rfl kk) ?_
  show own_Fin _ _ _ _ _ _ _ (T1.setTop (mkF m 5 #[.val (.ref t0), .val (.int p1), .val (.int p2)] [(.ref t0), (.ref hd)]))
  refine own_getF X1 hx hZ hown (host := "") (Or.inl (hw _ (List.mem_of_getElem? (i := 45) rfl))) Via.refl e1 F_rowOf (hb hby d15g2_5) ?_
  intro T2 X2 e2
  show own_Fin _ _ _ _ _ _ _ (T2.setTop (mkF m 8 #[.val (.ref t0), .val (.int p1), .val (.int p2)] [(.ref bR), (.ref hd)]))
  refine own_go (fun _ kk => XS.iloadN X2.here hx rfl (hb hby d15g2_8) rfl kk) ?_
  show own_Fin _ _ _ _ _ _ _ (T2.setTop (mkF m 9 #[.val (.ref t0), .val (.int p1), .val (.int p2)] [(.int p1), (.ref bR), (.ref hd)]))
  refine own_ldI X2 hx hZ e2 VR hj (by rw [own_Llen]; exact hi) (hb hby d15g2_9) ?_
  show own_Fin _ _ _ _ _ _ _ (T2.setTop (mkF m 10 #[.val (.ref t0), .val (.int p1), .val (.int p2)] [(.int (List.getD (own_L own_fR2 16 16) (p1).toNatClampNeg 0)), (.ref hd)]))
  rw [own_LgetK (f := own_fR2) hi (Nat.le_refl _)]
  show own_Fin _ _ _ _ _ _ _ (T2.setTop (mkF m 10 #[.val (.ref t0), .val (.int p1), .val (.int p2)] [(.int (own_fR2 (p1).toNatClampNeg)), (.ref hd)]))
  refine own_ldJ X2 hx hZ e2 VH (own_bd2 _ hi).1.1 (by rw [hl]; exact (own_bd2 _ hi).1.2) (hb hby d15g2_10) ?_
  show own_Fin _ _ _ _ _ _ _ (T2.setTop (mkF m 11 #[.val (.ref t0), .val (.int p1), .val (.int p2)] [(.long (List.getD hs ((own_fR2 (p1).toNatClampNeg)).toNatClampNeg 0))]))
  refine own_go (fun _ kk => XS.lconst X2.here hx rfl (hb hby d15g2_11) (XS.iloadN X2.here hx rfl (hb hby d15g2_12) rfl (XS.lshl X2.here hx rfl (hb hby d15g2_13) rfl (XS.land X2.here hx rfl (hb hby d15g2_14) rfl (XS.lconst X2.here hx rfl (hb hby d15g2_15) (XT.lcmp X2.here hx rfl (hb hby d15g2_16) rfl kk)))))) ?_
  show own_Fin _ _ _ _ _ _ _ (T2.setTop (mkF m 17 #[.val (.ref t0), .val (.int p1), .val (.int p2)] [(.int (XT.cmpL ((List.getD hs ((own_fR2 (p1).toNatClampNeg)).toNatClampNeg 0) &&& ((1 : Int64) <<< (p2 &&& 0x3f).toInt64)) (0 : Int64)))]))
  by_cases hc17 : ((List.getD hs ((own_fR2 (p1).toNatClampNeg)).toNatClampNeg 0) &&& ((1 : Int64) <<< (p2 &&& 0x3f).toInt64)) = (0 : Int64)
  · refine own_go (fun _ kk => XS.ifYes X2.here hx rfl (pc0 := 17) (pc' := 24) rfl (hb hby d15g2_17) rfl (XT.ll_eq_t hc17) (by decide) (by decide) (XS.iconst X2.here hx rfl (hb hby d15g2_24) kk)) ?_
    show own_Fin _ _ _ _ _ _ _ (T2.setTop (mkF m 25 #[.val (.ref t0), .val (.int p1), .val (.int p2)] [(.int (0 : Int32))]))
    exact own_retZ X2 hx hlk hret rfl (hb hby d15g2_25) (by decide) (by decide) ⟨(by rw [own_f15g2, if_pos hc17]), N0, e2⟩
  · refine own_go (fun _ kk => XS.ifNo X2.here hx rfl (hb hby d15g2_17) rfl (XT.ll_eq_f hc17) (XS.iconst X2.here hx rfl (hb hby d15g2_20) (XS.goto X2.here hx rfl (pc0 := 21) (pc' := 25) rfl (hb hby d15g2_21) (by decide) (by decide) kk))) ?_
    show own_Fin _ _ _ _ _ _ _ (T2.setTop (mkF m 25 #[.val (.ref t0), .val (.int p1), .val (.int p2)] [(.int (1 : Int32))]))
    exact own_retZ X2 hx hlk hret rfl (hb hby d15g2_25) (by decide) (by decide) ⟨(by rw [own_f15g2, if_neg hc17]), N0, e2⟩

theorem d17g2_0 : decode prog_24_method_4_code 0 = .ok (.aload_n 0, 1) := by decide +kernel
theorem d17g2_1 : decode prog_24_method_4_code 1 = .ok (.getfield 47, 3) := by decide +kernel
theorem d17g2_4 : decode prog_24_method_4_code 4 = .ok (.aload_n 0, 1) := by decide +kernel
theorem d17g2_5 : decode prog_24_method_4_code 5 = .ok (.getfield 27, 3) := by decide +kernel
theorem d17g2_8 : decode prog_24_method_4_code 8 = .ok (.iload_n 1, 1) := by decide +kernel
theorem d17g2_9 : decode prog_24_method_4_code 9 = .ok (.iaload, 1) := by decide +kernel
theorem d17g2_10 : decode prog_24_method_4_code 10 = .ok (.laload, 1) := by decide +kernel
theorem d17g2_11 : decode prog_24_method_4_code 11 = .ok (.lconst 1, 1) := by decide +kernel
theorem d17g2_12 : decode prog_24_method_4_code 12 = .ok (.iload_n 2, 1) := by decide +kernel
theorem d17g2_13 : decode prog_24_method_4_code 13 = .ok (.lshl, 1) := by decide +kernel
theorem d17g2_14 : decode prog_24_method_4_code 14 = .ok (.land, 1) := by decide +kernel
theorem d17g2_15 : decode prog_24_method_4_code 15 = .ok (.lconst 0, 1) := by decide +kernel
theorem d17g2_16 : decode prog_24_method_4_code 16 = .ok (.lcmp, 1) := by decide +kernel
theorem d17g2_17 : decode prog_24_method_4_code 17 = .ok (.ifCond .eq 7, 3) := by decide +kernel
theorem d17g2_20 : decode prog_24_method_4_code 20 = .ok (.iconst 1, 1) := by decide +kernel
theorem d17g2_21 : decode prog_24_method_4_code 21 = .ok (.goto 4, 3) := by decide +kernel
theorem d17g2_24 : decode prog_24_method_4_code 24 = .ok (.iconst 0, 1) := by decide +kernel
theorem d17g2_25 : decode prog_24_method_4_code 25 = .ok (.ireturn, 1) := by decide +kernel
theorem pn_17g2 : plainFor (⟨"com/example/onda/onda/sudoku/Units", "columnHolds", "(II)Z"⟩ : MethodName) = true := plainFor_of_name (by show plainName "com/example/onda/onda/sudoku/Units" = true; first | (simp [plainName, overriddenIn]; done) | decide +kernel)
theorem ef_17g2 (m : MethodId) (x0 : Addr) (x1 : Int32) (x2 : Int32) : entryFrame m #[(.ref x0), (.int x1), (.int x2)] 3 = mkF m 0 #[.val (.ref x0), .val (.int x1), .val (.int x2)] [] := by first | (simp [entryFrame, mkF, argsToLocals, Value.category]; done) | rfl
def own_f17g2 (hs : List Int64) (p1 : Int32) (p2 : Int32) : Int32 :=
  if ((List.getD hs ((own_fC2 (p1).toNatClampNeg)).toNatClampNeg 0) &&& ((1 : Int64) <<< (p2 &&& 0x3f).toInt64)) = (0 : Int64) then
    (0 : Int32)
  else
    (1 : Int32)
set_option maxRecDepth 65536 in
set_option maxHeartbeats 40000000 in
theorem rm17g2 (l : Launch) (Z : State) (a0 : Array Value) (hw : ∀ d ∈ tables_1, d.before a0 Z = true) (t0 : Addr) (p1 : Int32) (p2 : Int32) (h0 : Heap) (n0 : Nat) (Z0 : n0 ≤ h0.size) (bR bC bB hd : Addr) (hs : List Int64) (F_rowOf : Fld Z h0 t0 "com/example/onda/onda/sudoku/Units" "rowOf" "[I" (.ref bR)) (F_columnOf : Fld Z h0 t0 "com/example/onda/onda/sudoku/Units" "columnOf" "[I" (.ref bC)) (F_boxOf : Fld Z h0 t0 "com/example/onda/onda/sudoku/Units" "boxOf" "[I" (.ref bB)) (F_held : Fld Z h0 t0 "com/example/onda/onda/sudoku/Units" "held" "[J" (.ref hd)) (VR : own_Ar Z h0 bR .int ((own_L own_fR2 16 16).map Value.int)) (VC : own_Ar Z h0 bC .int ((own_L own_fC2 16 16).map Value.int)) (VB : own_Ar Z h0 bB .int ((own_L own_fB2 16 16).map Value.int)) (VH : own_Ar Z h0 hd .long (hs.map Value.long)) (hl : hs.length = 12) (hj : ¬ p1 < 0) (hi : p1.toNatClampNeg < 16) :
    own_Met l (⟨"com/example/onda/onda/sudoku/Units", "columnHolds", "(II)Z"⟩ : MethodName) prog_24_method_4_code 3 (some .boolean) ({ frames := 0, cells := 0, slots := 0, locals := 0 } : Room) Z [] #[(.ref t0), (.int p1), (.int p2)] h0 (own_P (some (.int (own_f17g2 hs p1 p2))) h0 n0) := by
  refine own_enter pn_17g2 ?_
  intro p e s m below meth c s₁ hx hby hml hown hnm hret hlk hZ e0 X0
  rw [ef_17g2]
  have N0 := Fr.nil n0
  show own_Fin _ _ _ _ _ _ _ (s₁.setTop (mkF m 0 #[.val (.ref t0), .val (.int p1), .val (.int p2)] []))
  refine own_go (fun _ kk => XS.aloadN X0.here hx rfl (hb hby d17g2_0) rfl rfl kk) ?_
  show own_Fin _ _ _ _ _ _ _ (s₁.setTop (mkF m 1 #[.val (.ref t0), .val (.int p1), .val (.int p2)] [(.ref t0)]))
  refine own_getF X0 hx hZ hown (host := "") (Or.inl (hw _ (List.mem_of_getElem? (i := 75) rfl))) Via.refl e0 F_held (hb hby d17g2_1) ?_
  intro T1 X1 e1
  show own_Fin _ _ _ _ _ _ _ (T1.setTop (mkF m 4 #[.val (.ref t0), .val (.int p1), .val (.int p2)] [(.ref hd)]))
  refine own_go (fun _ kk => XS.aloadN X1.here hx rfl (hb hby d17g2_4) rfl rfl kk) ?_
  show own_Fin _ _ _ _ _ _ _ (T1.setTop (mkF m 5 #[.val (.ref t0), .val (.int p1), .val (.int p2)] [(.ref t0), (.ref hd)]))
  refine own_getF X1 hx hZ hown (host := "") (Or.inl (hw _ (List.mem_of_getElem? (i := 52) rfl))) Via.refl e1 F_columnOf (hb hby d17g2_5) ?_
  intro T2 X2 e2
  show own_Fin _ _ _ _ _ _ _ (T2.setTop (mkF m 8 #[.val (.ref t0), .val (.int p1), .val (.int p2)] [(.ref bC), (.ref hd)]))
  refine own_go (fun _ kk => XS.iloadN X2.here hx rfl (hb hby d17g2_8) rfl kk) ?_
  show own_Fin _ _ _ _ _ _ _ (T2.setTop (mkF m 9 #[.val (.ref t0), .val (.int p1), .val (.int p2)] [(.int p1), (.ref bC), (.ref hd)]))
  refine own_ldI X2 hx hZ e2 VC hj (by rw [own_Llen]; exact hi) (hb hby d17g2_9) ?_
  show own_Fin _ _ _ _ _ _ _ (T2.setTop (mkF m 10 #[.val (.ref t0), .val (.int p1), .val (.int p2)] [(.int (List.getD (own_L own_fC2 16 16) (p1).toNatClampNeg 0)), (.ref hd)]))
  rw [own_LgetK (f := own_fC2) hi (Nat.le_refl _)]
  show own_Fin _ _ _ _ _ _ _ (T2.setTop (mkF m 10 #[.val (.ref t0), .val (.int p1), .val (.int p2)] [(.int (own_fC2 (p1).toNatClampNeg)), (.ref hd)]))
  refine own_ldJ X2 hx hZ e2 VH (own_bd2 _ hi).2.1.1 (by rw [hl]; exact (own_bd2 _ hi).2.1.2) (hb hby d17g2_10) ?_
  show own_Fin _ _ _ _ _ _ _ (T2.setTop (mkF m 11 #[.val (.ref t0), .val (.int p1), .val (.int p2)] [(.long (List.getD hs ((own_fC2 (p1).toNatClampNeg)).toNatClampNeg 0))]))
  refine own_go (fun _ kk => XS.lconst X2.here hx rfl (hb hby d17g2_11) (XS.iloadN X2.here hx rfl (hb hby d17g2_12) rfl (XS.lshl X2.here hx rfl (hb hby d17g2_13) rfl (XS.land X2.here hx rfl (hb hby d17g2_14) rfl (XS.lconst X2.here hx rfl (hb hby d17g2_15) (XT.lcmp X2.here hx rfl (hb hby d17g2_16) rfl kk)))))) ?_
  show own_Fin _ _ _ _ _ _ _ (T2.setTop (mkF m 17 #[.val (.ref t0), .val (.int p1), .val (.int p2)] [(.int (XT.cmpL ((List.getD hs ((own_fC2 (p1).toNatClampNeg)).toNatClampNeg 0) &&& ((1 : Int64) <<< (p2 &&& 0x3f).toInt64)) (0 : Int64)))]))
  by_cases hc17 : ((List.getD hs ((own_fC2 (p1).toNatClampNeg)).toNatClampNeg 0) &&& ((1 : Int64) <<< (p2 &&& 0x3f).toInt64)) = (0 : Int64)
  · refine own_go (fun _ kk => XS.ifYes X2.here hx rfl (pc0 := 17) (pc' := 24) rfl (hb hby d17g2_17) rfl (XT.ll_eq_t hc17) (by decide) (by decide) (XS.iconst X2.here hx rfl (hb hby d17g2_24) kk)) ?_
    show own_Fin _ _ _ _ _ _ _ (T2.setTop (mkF m 25 #[.val (.ref t0), .val (.int p1), .val (.int p2)] [(.int (0 : Int32))]))
    exact own_retZ X2 hx hlk hret rfl (hb hby d17g2_25) (by decide) (by decide) ⟨(by rw [own_f17g2, if_pos hc17]), N0, e2⟩
  · refine own_go (fun _ kk => XS.ifNo X2.here hx rfl (hb hby d17g2_17) rfl (XT.ll_eq_f hc17) (XS.iconst X2.here hx rfl (hb hby d17g2_20) (XS.goto X2.here hx rfl (pc0 := 21) (pc' := 25) rfl (hb hby d17g2_21) (by decide) (by decide) kk))) ?_
    show own_Fin _ _ _ _ _ _ _ (T2.setTop (mkF m 25 #[.val (.ref t0), .val (.int p1), .val (.int p2)] [(.int (1 : Int32))]))
    exact own_retZ X2 hx hlk hret rfl (hb hby d17g2_25) (by decide) (by decide) ⟨(by rw [own_f17g2, if_neg hc17]), N0, e2⟩

theorem d16g2_0 : decode prog_24_method_5_code 0 = .ok (.aload_n 0, 1) := by decide +kernel
theorem d16g2_1 : decode prog_24_method_5_code 1 = .ok (.getfield 47, 3) := by decide +kernel
theorem d16g2_4 : decode prog_24_method_5_code 4 = .ok (.aload_n 0, 1) := by decide +kernel
theorem d16g2_5 : decode prog_24_method_5_code 5 = .ok (.getfield 32, 3) := by decide +kernel
theorem d16g2_8 : decode prog_24_method_5_code 8 = .ok (.iload_n 1, 1) := by decide +kernel
theorem d16g2_9 : decode prog_24_method_5_code 9 = .ok (.iaload, 1) := by decide +kernel
theorem d16g2_10 : decode prog_24_method_5_code 10 = .ok (.laload, 1) := by decide +kernel
theorem d16g2_11 : decode prog_24_method_5_code 11 = .ok (.lconst 1, 1) := by decide +kernel
theorem d16g2_12 : decode prog_24_method_5_code 12 = .ok (.iload_n 2, 1) := by decide +kernel
theorem d16g2_13 : decode prog_24_method_5_code 13 = .ok (.lshl, 1) := by decide +kernel
theorem d16g2_14 : decode prog_24_method_5_code 14 = .ok (.land, 1) := by decide +kernel
theorem d16g2_15 : decode prog_24_method_5_code 15 = .ok (.lconst 0, 1) := by decide +kernel
theorem d16g2_16 : decode prog_24_method_5_code 16 = .ok (.lcmp, 1) := by decide +kernel
theorem d16g2_17 : decode prog_24_method_5_code 17 = .ok (.ifCond .eq 7, 3) := by decide +kernel
theorem d16g2_20 : decode prog_24_method_5_code 20 = .ok (.iconst 1, 1) := by decide +kernel
theorem d16g2_21 : decode prog_24_method_5_code 21 = .ok (.goto 4, 3) := by decide +kernel
theorem d16g2_24 : decode prog_24_method_5_code 24 = .ok (.iconst 0, 1) := by decide +kernel
theorem d16g2_25 : decode prog_24_method_5_code 25 = .ok (.ireturn, 1) := by decide +kernel
theorem pn_16g2 : plainFor (⟨"com/example/onda/onda/sudoku/Units", "boxHolds", "(II)Z"⟩ : MethodName) = true := plainFor_of_name (by show plainName "com/example/onda/onda/sudoku/Units" = true; first | (simp [plainName, overriddenIn]; done) | decide +kernel)
theorem ef_16g2 (m : MethodId) (x0 : Addr) (x1 : Int32) (x2 : Int32) : entryFrame m #[(.ref x0), (.int x1), (.int x2)] 3 = mkF m 0 #[.val (.ref x0), .val (.int x1), .val (.int x2)] [] := by first | (simp [entryFrame, mkF, argsToLocals, Value.category]; done) | rfl
def own_f16g2 (hs : List Int64) (p1 : Int32) (p2 : Int32) : Int32 :=
  if ((List.getD hs ((own_fB2 (p1).toNatClampNeg)).toNatClampNeg 0) &&& ((1 : Int64) <<< (p2 &&& 0x3f).toInt64)) = (0 : Int64) then
    (0 : Int32)
  else
    (1 : Int32)
set_option maxRecDepth 65536 in
set_option maxHeartbeats 40000000 in
theorem rm16g2 (l : Launch) (Z : State) (a0 : Array Value) (hw : ∀ d ∈ tables_1, d.before a0 Z = true) (t0 : Addr) (p1 : Int32) (p2 : Int32) (h0 : Heap) (n0 : Nat) (Z0 : n0 ≤ h0.size) (bR bC bB hd : Addr) (hs : List Int64) (F_rowOf : Fld Z h0 t0 "com/example/onda/onda/sudoku/Units" "rowOf" "[I" (.ref bR)) (F_columnOf : Fld Z h0 t0 "com/example/onda/onda/sudoku/Units" "columnOf" "[I" (.ref bC)) (F_boxOf : Fld Z h0 t0 "com/example/onda/onda/sudoku/Units" "boxOf" "[I" (.ref bB)) (F_held : Fld Z h0 t0 "com/example/onda/onda/sudoku/Units" "held" "[J" (.ref hd)) (VR : own_Ar Z h0 bR .int ((own_L own_fR2 16 16).map Value.int)) (VC : own_Ar Z h0 bC .int ((own_L own_fC2 16 16).map Value.int)) (VB : own_Ar Z h0 bB .int ((own_L own_fB2 16 16).map Value.int)) (VH : own_Ar Z h0 hd .long (hs.map Value.long)) (hl : hs.length = 12) (hj : ¬ p1 < 0) (hi : p1.toNatClampNeg < 16) :
    own_Met l (⟨"com/example/onda/onda/sudoku/Units", "boxHolds", "(II)Z"⟩ : MethodName) prog_24_method_5_code 3 (some .boolean) ({ frames := 0, cells := 0, slots := 0, locals := 0 } : Room) Z [] #[(.ref t0), (.int p1), (.int p2)] h0 (own_P (some (.int (own_f16g2 hs p1 p2))) h0 n0) := by
  refine own_enter pn_16g2 ?_
  intro p e s m below meth c s₁ hx hby hml hown hnm hret hlk hZ e0 X0
  rw [ef_16g2]
  have N0 := Fr.nil n0
  show own_Fin _ _ _ _ _ _ _ (s₁.setTop (mkF m 0 #[.val (.ref t0), .val (.int p1), .val (.int p2)] []))
  refine own_go (fun _ kk => XS.aloadN X0.here hx rfl (hb hby d16g2_0) rfl rfl kk) ?_
  show own_Fin _ _ _ _ _ _ _ (s₁.setTop (mkF m 1 #[.val (.ref t0), .val (.int p1), .val (.int p2)] [(.ref t0)]))
  refine own_getF X0 hx hZ hown (host := "") (Or.inl (hw _ (List.mem_of_getElem? (i := 75) rfl))) Via.refl e0 F_held (hb hby d16g2_1) ?_
  intro T1 X1 e1
  show own_Fin _ _ _ _ _ _ _ (T1.setTop (mkF m 4 #[.val (.ref t0), .val (.int p1), .val (.int p2)] [(.ref hd)]))
  refine own_go (fun _ kk => XS.aloadN X1.here hx rfl (hb hby d16g2_4) rfl rfl kk) ?_
  show own_Fin _ _ _ _ _ _ _ (T1.setTop (mkF m 5 #[.val (.ref t0), .val (.int p1), .val (.int p2)] [(.ref t0), (.ref hd)]))
  refine own_getF X1 hx hZ hown (host := "") (Or.inl (hw _ (List.mem_of_getElem? (i := 59) rfl))) Via.refl e1 F_boxOf (hb hby d16g2_5) ?_
  intro T2 X2 e2
  show own_Fin _ _ _ _ _ _ _ (T2.setTop (mkF m 8 #[.val (.ref t0), .val (.int p1), .val (.int p2)] [(.ref bB), (.ref hd)]))
  refine own_go (fun _ kk => XS.iloadN X2.here hx rfl (hb hby d16g2_8) rfl kk) ?_
  show own_Fin _ _ _ _ _ _ _ (T2.setTop (mkF m 9 #[.val (.ref t0), .val (.int p1), .val (.int p2)] [(.int p1), (.ref bB), (.ref hd)]))
  refine own_ldI X2 hx hZ e2 VB hj (by rw [own_Llen]; exact hi) (hb hby d16g2_9) ?_
  show own_Fin _ _ _ _ _ _ _ (T2.setTop (mkF m 10 #[.val (.ref t0), .val (.int p1), .val (.int p2)] [(.int (List.getD (own_L own_fB2 16 16) (p1).toNatClampNeg 0)), (.ref hd)]))
  rw [own_LgetK (f := own_fB2) hi (Nat.le_refl _)]
  show own_Fin _ _ _ _ _ _ _ (T2.setTop (mkF m 10 #[.val (.ref t0), .val (.int p1), .val (.int p2)] [(.int (own_fB2 (p1).toNatClampNeg)), (.ref hd)]))
  refine own_ldJ X2 hx hZ e2 VH (own_bd2 _ hi).2.2.1.1 (by rw [hl]; exact (own_bd2 _ hi).2.2.1.2) (hb hby d16g2_10) ?_
  show own_Fin _ _ _ _ _ _ _ (T2.setTop (mkF m 11 #[.val (.ref t0), .val (.int p1), .val (.int p2)] [(.long (List.getD hs ((own_fB2 (p1).toNatClampNeg)).toNatClampNeg 0))]))
  refine own_go (fun _ kk => XS.lconst X2.here hx rfl (hb hby d16g2_11) (XS.iloadN X2.here hx rfl (hb hby d16g2_12) rfl (XS.lshl X2.here hx rfl (hb hby d16g2_13) rfl (XS.land X2.here hx rfl (hb hby d16g2_14) rfl (XS.lconst X2.here hx rfl (hb hby d16g2_15) (XT.lcmp X2.here hx rfl (hb hby d16g2_16) rfl kk)))))) ?_
  show own_Fin _ _ _ _ _ _ _ (T2.setTop (mkF m 17 #[.val (.ref t0), .val (.int p1), .val (.int p2)] [(.int (XT.cmpL ((List.getD hs ((own_fB2 (p1).toNatClampNeg)).toNatClampNeg 0) &&& ((1 : Int64) <<< (p2 &&& 0x3f).toInt64)) (0 : Int64)))]))
  by_cases hc17 : ((List.getD hs ((own_fB2 (p1).toNatClampNeg)).toNatClampNeg 0) &&& ((1 : Int64) <<< (p2 &&& 0x3f).toInt64)) = (0 : Int64)
  · refine own_go (fun _ kk => XS.ifYes X2.here hx rfl (pc0 := 17) (pc' := 24) rfl (hb hby d16g2_17) rfl (XT.ll_eq_t hc17) (by decide) (by decide) (XS.iconst X2.here hx rfl (hb hby d16g2_24) kk)) ?_
    show own_Fin _ _ _ _ _ _ _ (T2.setTop (mkF m 25 #[.val (.ref t0), .val (.int p1), .val (.int p2)] [(.int (0 : Int32))]))
    exact own_retZ X2 hx hlk hret rfl (hb hby d16g2_25) (by decide) (by decide) ⟨(by rw [own_f16g2, if_pos hc17]), N0, e2⟩
  · refine own_go (fun _ kk => XS.ifNo X2.here hx rfl (hb hby d16g2_17) rfl (XT.ll_eq_f hc17) (XS.iconst X2.here hx rfl (hb hby d16g2_20) (XS.goto X2.here hx rfl (pc0 := 21) (pc' := 25) rfl (hb hby d16g2_21) (by decide) (by decide) kk))) ?_
    show own_Fin _ _ _ _ _ _ _ (T2.setTop (mkF m 25 #[.val (.ref t0), .val (.int p1), .val (.int p2)] [(.int (1 : Int32))]))
    exact own_retZ X2 hx hlk hret rfl (hb hby d16g2_25) (by decide) (by decide) ⟨(by rw [own_f16g2, if_neg hc17]), N0, e2⟩

theorem d1_0 : decode method_2_code 0 = .ok (.iload_n 0, 1) := by decide +kernel
theorem d1_1 : decode method_2_code 1 = .ok (.ldc 7, 2) := by decide +kernel
theorem d1_3 : decode method_2_code 3 = .ok (.iand, 1) := by decide +kernel
theorem d1_4 : decode method_2_code 4 = .ok (.iconst 5, 1) := by decide +kernel
theorem d1_5 : decode method_2_code 5 = .ok (.irem, 1) := by decide +kernel
theorem d1_6 : decode method_2_code 6 = .ok (.ireturn, 1) := by decide +kernel
theorem pn_1 : plainFor (⟨"com/example/onda/onda/sudoku/UnitsPlaceNextPinLaw", "num", "(I)I"⟩ : MethodName) = true := plainFor_of_name (by show plainName "com/example/onda/onda/sudoku/UnitsPlaceNextPinLaw" = true; first | (simp [plainName, overriddenIn]; done) | decide +kernel)
theorem ef_1 (m : MethodId) (x0 : Int32) : entryFrame m #[(.int x0)] 1 = mkF m 0 #[.val (.int x0)] [] := by first | (simp [entryFrame, mkF, argsToLocals, Value.category]; done) | rfl
def own_f1 (p0 : Int32) : Int32 :=
  ((p0 &&& (2147483647 : Int32)) % (5 : Int32))
set_option maxRecDepth 65536 in
set_option maxHeartbeats 40000000 in
theorem rm1 (l : Launch) (Z : State) (a0 : Array Value) (hw : ∀ d ∈ tables_1, d.before a0 Z = true) (p0 : Int32) (h0 : Heap) (n0 : Nat) (Z0 : n0 ≤ h0.size) :
    own_Met l (⟨"com/example/onda/onda/sudoku/UnitsPlaceNextPinLaw", "num", "(I)I"⟩ : MethodName) method_2_code 1 (some .int) ({ frames := 0, cells := 0, slots := 0, locals := 0 } : Room) Z [] #[(.int p0)] h0 (own_P (some (.int (own_f1 p0))) h0 n0) := by
  refine own_enter pn_1 ?_
  intro p e s m below meth c s₁ hx hby hml hown hnm hret hlk hZ e0 X0
  rw [ef_1]
  have N0 := Fr.nil n0
  show own_Fin _ _ _ _ _ _ _ (s₁.setTop (mkF m 0 #[.val (.int p0)] []))
  refine own_go (fun _ kk => XS.iloadN X0.here hx rfl (hb hby d1_0) rfl (X0.ldcI hx hown (mvT hZ (hw _ (List.mem_of_getElem? (i := 4) rfl))) rfl (hb hby d1_1) (XS.iand X0.here hx rfl (hb hby d1_3) rfl (XS.iconst X0.here hx rfl (hb hby d1_4) (iremM X0 hx rfl (hb hby d1_5) rfl (by decide) kk))))) ?_
  show own_Fin _ _ _ _ _ _ _ (s₁.setTop (mkF m 6 #[.val (.int p0)] [(.int ((p0 &&& (2147483647 : Int32)) % (5 : Int32)))]))
  exact own_retI X0 hx hlk hret (hb hby d1_6) (by decide) (by decide) ⟨(by rw [own_f1]), N0, e0⟩

theorem d11_0 : decode method_4_code 0 = .ok (.iload_n 0, 1) := by decide +kernel
theorem d11_1 : decode method_4_code 1 = .ok (.iconst 2, 1) := by decide +kernel
theorem d11_2 : decode method_4_code 2 = .ok (.ishr, 1) := by decide +kernel
theorem d11_3 : decode method_4_code 3 = .ok (.istore_n 2, 1) := by decide +kernel
theorem d11_4 : decode method_4_code 4 = .ok (.iload_n 0, 1) := by decide +kernel
theorem d11_5 : decode method_4_code 5 = .ok (.iconst 3, 1) := by decide +kernel
theorem d11_6 : decode method_4_code 6 = .ok (.iand, 1) := by decide +kernel
theorem d11_7 : decode method_4_code 7 = .ok (.istore_n 3, 1) := by decide +kernel
theorem d11_8 : decode method_4_code 8 = .ok (.iload_n 1, 1) := by decide +kernel
theorem d11_9 : decode method_4_code 9 = .ok (.ifCond .ne 5, 3) := by decide +kernel
theorem d11_12 : decode method_4_code 12 = .ok (.iload_n 2, 1) := by decide +kernel
theorem d11_13 : decode method_4_code 13 = .ok (.ireturn, 1) := by decide +kernel
theorem d11_14 : decode method_4_code 14 = .ok (.iload_n 1, 1) := by decide +kernel
theorem d11_15 : decode method_4_code 15 = .ok (.iconst 1, 1) := by decide +kernel
theorem d11_16 : decode method_4_code 16 = .ok (.if_icmp .ne 7, 3) := by decide +kernel
theorem d11_19 : decode method_4_code 19 = .ok (.iconst 4, 1) := by decide +kernel
theorem d11_20 : decode method_4_code 20 = .ok (.iload_n 3, 1) := by decide +kernel
theorem d11_21 : decode method_4_code 21 = .ok (.iadd, 1) := by decide +kernel
theorem d11_22 : decode method_4_code 22 = .ok (.ireturn, 1) := by decide +kernel
theorem d11_23 : decode method_4_code 23 = .ok (.bipush 8, 2) := by decide +kernel
theorem d11_25 : decode method_4_code 25 = .ok (.iload_n 2, 1) := by decide +kernel
theorem d11_26 : decode method_4_code 26 = .ok (.iconst 1, 1) := by decide +kernel
theorem d11_27 : decode method_4_code 27 = .ok (.ishr, 1) := by decide +kernel
theorem d11_28 : decode method_4_code 28 = .ok (.iconst 2, 1) := by decide +kernel
theorem d11_29 : decode method_4_code 29 = .ok (.imul, 1) := by decide +kernel
theorem d11_30 : decode method_4_code 30 = .ok (.iadd, 1) := by decide +kernel
theorem d11_31 : decode method_4_code 31 = .ok (.iload_n 3, 1) := by decide +kernel
theorem d11_32 : decode method_4_code 32 = .ok (.iconst 1, 1) := by decide +kernel
theorem d11_33 : decode method_4_code 33 = .ok (.ishr, 1) := by decide +kernel
theorem d11_34 : decode method_4_code 34 = .ok (.iadd, 1) := by decide +kernel
theorem d11_35 : decode method_4_code 35 = .ok (.ireturn, 1) := by decide +kernel
theorem pn_11 : plainFor (⟨"com/example/onda/onda/sudoku/UnitsPlaceNextPinLaw", "unitId", "(II)I"⟩ : MethodName) = true := plainFor_of_name (by show plainName "com/example/onda/onda/sudoku/UnitsPlaceNextPinLaw" = true; first | (simp [plainName, overriddenIn]; done) | decide +kernel)
theorem ef_11 (m : MethodId) (x0 : Int32) (x1 : Int32) : entryFrame m #[(.int x0), (.int x1)] 4 = mkF m 0 #[.val (.int x0), .val (.int x1), .unset, .unset] [] := by first | (simp [entryFrame, mkF, argsToLocals, Value.category]; done) | rfl
def own_f11 (p0 : Int32) (p1 : Int32) : Int32 :=
  if p1 = 0 then
    (p0 >>> ((2 : Int32) &&& 31))
  else
    if p1 = (1 : Int32) then
      ((4 : Int32) + (p0 &&& (3 : Int32)))
    else
      (((8 : Int32) + (((p0 >>> ((2 : Int32) &&& 31)) >>> ((1 : Int32) &&& 31)) * (2 : Int32))) + ((p0 &&& (3 : Int32)) >>> ((1 : Int32) &&& 31)))
set_option maxRecDepth 65536 in
set_option maxHeartbeats 40000000 in
theorem rm11 (l : Launch) (Z : State) (a0 : Array Value) (hw : ∀ d ∈ tables_1, d.before a0 Z = true) (p0 : Int32) (p1 : Int32) (h0 : Heap) (n0 : Nat) (Z0 : n0 ≤ h0.size) :
    own_Met l (⟨"com/example/onda/onda/sudoku/UnitsPlaceNextPinLaw", "unitId", "(II)I"⟩ : MethodName) method_4_code 4 (some .int) ({ frames := 0, cells := 0, slots := 0, locals := 0 } : Room) Z [] #[(.int p0), (.int p1)] h0 (own_P (some (.int (own_f11 p0 p1))) h0 n0) := by
  refine own_enter pn_11 ?_
  intro p e s m below meth c s₁ hx hby hml hown hnm hret hlk hZ e0 X0
  rw [ef_11]
  have N0 := Fr.nil n0
  show own_Fin _ _ _ _ _ _ _ (s₁.setTop (mkF m 0 #[.val (.int p0), .val (.int p1), .unset, .unset] []))
  refine own_go (fun _ kk => XS.iloadN X0.here hx rfl (hb hby d11_0) rfl (XS.iconst X0.here hx rfl (hb hby d11_1) (XS.ishr X0.here hx rfl (hb hby d11_2) rfl (XS.istoreN X0.here hx rfl (hb hby d11_3) rfl (l' := #[.val (.int p0), .val (.int p1), .val (.int (p0 >>> ((2 : Int32) &&& 31))), .unset]) rfl (XS.iloadN X0.here hx rfl (hb hby d11_4) rfl (XS.iconst X0.here hx rfl (hb hby d11_5) (XS.iand X0.here hx rfl (hb hby d11_6) rfl (XS.istoreN X0.here hx rfl (hb hby d11_7) rfl (l' := #[.val (.int p0), .val (.int p1), .val (.int (p0 >>> ((2 : Int32) &&& 31))), .val (.int (p0 &&& (3 : Int32)))]) rfl (XS.iloadN X0.here hx rfl (hb hby d11_8) rfl kk))))))))) ?_
  show own_Fin _ _ _ _ _ _ _ (s₁.setTop (mkF m 9 #[.val (.int p0), .val (.int p1), .val (.int (p0 >>> ((2 : Int32) &&& 31))), .val (.int (p0 &&& (3 : Int32)))] [(.int p1)]))
  by_cases hc9 : p1 = 0
  · refine own_go (fun _ kk => XS.ifNo X0.here hx rfl (hb hby d11_9) rfl (XT.i0_ne_f hc9) (XS.iloadN X0.here hx rfl (hb hby d11_12) rfl kk)) ?_
    show own_Fin _ _ _ _ _ _ _ (s₁.setTop (mkF m 13 #[.val (.int p0), .val (.int p1), .val (.int (p0 >>> ((2 : Int32) &&& 31))), .val (.int (p0 &&& (3 : Int32)))] [(.int (p0 >>> ((2 : Int32) &&& 31)))]))
    exact own_retI X0 hx hlk hret (hb hby d11_13) (by decide) (by decide) ⟨(by rw [own_f11, if_pos hc9]), N0, e0⟩
  · refine own_go (fun _ kk => XS.ifYes X0.here hx rfl (pc0 := 9) (pc' := 14) rfl (hb hby d11_9) rfl (XT.i0_ne_t hc9) (by decide) (by decide) (XS.iloadN X0.here hx rfl (hb hby d11_14) rfl (XS.iconst X0.here hx rfl (hb hby d11_15) kk))) ?_
    show own_Fin _ _ _ _ _ _ _ (s₁.setTop (mkF m 16 #[.val (.int p0), .val (.int p1), .val (.int (p0 >>> ((2 : Int32) &&& 31))), .val (.int (p0 &&& (3 : Int32)))] [(.int (1 : Int32)), (.int p1)]))
    by_cases hc16 : p1 = (1 : Int32)
    · refine own_go (fun _ kk => XS.icmpNo X0.here hx rfl (hb hby d11_16) rfl (XT.ii_ne_f hc16) (XS.iconst X0.here hx rfl (hb hby d11_19) (XS.iloadN X0.here hx rfl (hb hby d11_20) rfl (XS.iadd X0.here hx rfl (hb hby d11_21) rfl kk)))) ?_
      show own_Fin _ _ _ _ _ _ _ (s₁.setTop (mkF m 22 #[.val (.int p0), .val (.int p1), .val (.int (p0 >>> ((2 : Int32) &&& 31))), .val (.int (p0 &&& (3 : Int32)))] [(.int ((4 : Int32) + (p0 &&& (3 : Int32))))]))
      exact own_retI X0 hx hlk hret (hb hby d11_22) (by decide) (by decide) ⟨(by rw [own_f11, if_neg hc9, if_pos hc16]), N0, e0⟩
    · refine own_go (fun _ kk => XS.icmpYes X0.here hx rfl (pc0 := 16) (pc' := 23) rfl (hb hby d11_16) rfl (XT.ii_ne_t hc16) (by decide) (by decide) (XS.bipush X0.here hx rfl (hb hby d11_23) (XS.iloadN X0.here hx rfl (hb hby d11_25) rfl (XS.iconst X0.here hx rfl (hb hby d11_26) (XS.ishr X0.here hx rfl (hb hby d11_27) rfl (XS.iconst X0.here hx rfl (hb hby d11_28) (XS.imul X0.here hx rfl (hb hby d11_29) rfl (XS.iadd X0.here hx rfl (hb hby d11_30) rfl (XS.iloadN X0.here hx rfl (hb hby d11_31) rfl (XS.iconst X0.here hx rfl (hb hby d11_32) kk)))))))))) ?_
      show own_Fin _ _ _ _ _ _ _ (s₁.setTop (mkF m 33 #[.val (.int p0), .val (.int p1), .val (.int (p0 >>> ((2 : Int32) &&& 31))), .val (.int (p0 &&& (3 : Int32)))] [(.int (1 : Int32)), (.int (p0 &&& (3 : Int32))), (.int ((8 : Int32) + (((p0 >>> ((2 : Int32) &&& 31)) >>> ((1 : Int32) &&& 31)) * (2 : Int32))))]))
      refine own_go (fun _ kk => XS.ishr X0.here hx rfl (hb hby d11_33) rfl (XS.iadd X0.here hx rfl (hb hby d11_34) rfl kk)) ?_
      show own_Fin _ _ _ _ _ _ _ (s₁.setTop (mkF m 35 #[.val (.int p0), .val (.int p1), .val (.int (p0 >>> ((2 : Int32) &&& 31))), .val (.int (p0 &&& (3 : Int32)))] [(.int (((8 : Int32) + (((p0 >>> ((2 : Int32) &&& 31)) >>> ((1 : Int32) &&& 31)) * (2 : Int32))) + ((p0 &&& (3 : Int32)) >>> ((1 : Int32) &&& 31))))]))
      exact own_retI X0 hx hlk hret (hb hby d11_35) (by decide) (by decide) ⟨(by rw [own_f11, if_neg hc9, if_neg hc16]), N0, e0⟩

theorem d13_0 : decode method_3_code 0 = .ok (.iload_n 0, 1) := by decide +kernel
theorem d13_1 : decode method_3_code 1 = .ok (.ifCond .ne 7, 3) := by decide +kernel
theorem d13_4 : decode method_3_code 4 = .ok (.lconst 0, 1) := by decide +kernel
theorem d13_5 : decode method_3_code 5 = .ok (.goto 6, 3) := by decide +kernel
theorem d13_8 : decode method_3_code 8 = .ok (.lconst 1, 1) := by decide +kernel
theorem d13_9 : decode method_3_code 9 = .ok (.iload_n 0, 1) := by decide +kernel
theorem d13_10 : decode method_3_code 10 = .ok (.lshl, 1) := by decide +kernel
theorem d13_11 : decode method_3_code 11 = .ok (.lreturn, 1) := by decide +kernel
theorem pn_13 : plainFor (⟨"com/example/onda/onda/sudoku/UnitsPlaceNextPinLaw", "bit", "(I)J"⟩ : MethodName) = true := plainFor_of_name (by show plainName "com/example/onda/onda/sudoku/UnitsPlaceNextPinLaw" = true; first | (simp [plainName, overriddenIn]; done) | decide +kernel)
theorem ef_13 (m : MethodId) (x0 : Int32) : entryFrame m #[(.int x0)] 1 = mkF m 0 #[.val (.int x0)] [] := by first | (simp [entryFrame, mkF, argsToLocals, Value.category]; done) | rfl
def own_f13 (p0 : Int32) : Int64 :=
  if p0 = 0 then
    (0 : Int64)
  else
    ((1 : Int64) <<< (p0 &&& 0x3f).toInt64)
set_option maxRecDepth 65536 in
set_option maxHeartbeats 40000000 in
theorem rm13 (l : Launch) (Z : State) (a0 : Array Value) (hw : ∀ d ∈ tables_1, d.before a0 Z = true) (p0 : Int32) (h0 : Heap) (n0 : Nat) (Z0 : n0 ≤ h0.size) :
    own_Met l (⟨"com/example/onda/onda/sudoku/UnitsPlaceNextPinLaw", "bit", "(I)J"⟩ : MethodName) method_3_code 1 (some .long) ({ frames := 0, cells := 0, slots := 0, locals := 0 } : Room) Z [] #[(.int p0)] h0 (own_P (some (.long (own_f13 p0))) h0 n0) := by
  refine own_enter pn_13 ?_
  intro p e s m below meth c s₁ hx hby hml hown hnm hret hlk hZ e0 X0
  rw [ef_13]
  have N0 := Fr.nil n0
  show own_Fin _ _ _ _ _ _ _ (s₁.setTop (mkF m 0 #[.val (.int p0)] []))
  refine own_go (fun _ kk => XS.iloadN X0.here hx rfl (hb hby d13_0) rfl kk) ?_
  show own_Fin _ _ _ _ _ _ _ (s₁.setTop (mkF m 1 #[.val (.int p0)] [(.int p0)]))
  by_cases hc1 : p0 = 0
  · refine own_go (fun _ kk => XS.ifNo X0.here hx rfl (hb hby d13_1) rfl (XT.i0_ne_f hc1) (XS.lconst X0.here hx rfl (hb hby d13_4) (XS.goto X0.here hx rfl (pc0 := 5) (pc' := 11) rfl (hb hby d13_5) (by decide) (by decide) kk))) ?_
    show own_Fin _ _ _ _ _ _ _ (s₁.setTop (mkF m 11 #[.val (.int p0)] [(.long (0 : Int64))]))
    exact own_retJ X0 hx hlk hret (hb hby d13_11) (by decide) (by decide) ⟨(by rw [own_f13, if_pos hc1]), N0, e0⟩
  · refine own_go (fun _ kk => XS.ifYes X0.here hx rfl (pc0 := 1) (pc' := 8) rfl (hb hby d13_1) rfl (XT.i0_ne_t hc1) (by decide) (by decide) (XS.lconst X0.here hx rfl (hb hby d13_8) (XS.iloadN X0.here hx rfl (hb hby d13_9) rfl (XS.lshl X0.here hx rfl (hb hby d13_10) rfl kk)))) ?_
    show own_Fin _ _ _ _ _ _ _ (s₁.setTop (mkF m 11 #[.val (.int p0)] [(.long ((1 : Int64) <<< (p0 &&& 0x3f).toInt64))]))
    exact own_retJ X0 hx hlk hret (hb hby d13_11) (by decide) (by decide) ⟨(by rw [own_f13, if_neg hc1]), N0, e0⟩

theorem d14_0 : decode method_5_code 0 = .ok (.iload_n 0, 1) := by decide +kernel
theorem d14_1 : decode method_5_code 1 = .ok (.iload_n 1, 1) := by decide +kernel
theorem d14_2 : decode method_5_code 2 = .ok (.if_icmp .le 17, 3) := by decide +kernel
theorem d14_5 : decode method_5_code 5 = .ok (.lload_n 2, 1) := by decide +kernel
theorem d14_6 : decode method_5_code 6 = .ok (.lconst 1, 1) := by decide +kernel
theorem d14_7 : decode method_5_code 7 = .ok (.iload_n 0, 1) := by decide +kernel
theorem d14_8 : decode method_5_code 8 = .ok (.lshl, 1) := by decide +kernel
theorem d14_9 : decode method_5_code 9 = .ok (.land, 1) := by decide +kernel
theorem d14_10 : decode method_5_code 10 = .ok (.lconst 0, 1) := by decide +kernel
theorem d14_11 : decode method_5_code 11 = .ok (.lcmp, 1) := by decide +kernel
theorem d14_12 : decode method_5_code 12 = .ok (.ifCond .ne 7, 3) := by decide +kernel
theorem d14_15 : decode method_5_code 15 = .ok (.iconst 1, 1) := by decide +kernel
theorem d14_16 : decode method_5_code 16 = .ok (.goto 4, 3) := by decide +kernel
theorem d14_19 : decode method_5_code 19 = .ok (.iconst 0, 1) := by decide +kernel
theorem d14_20 : decode method_5_code 20 = .ok (.ireturn, 1) := by decide +kernel
theorem pn_14 : plainFor (⟨"com/example/onda/onda/sudoku/UnitsPlaceNextPinLaw", "free", "(IIJ)Z"⟩ : MethodName) = true := plainFor_of_name (by show plainName "com/example/onda/onda/sudoku/UnitsPlaceNextPinLaw" = true; first | (simp [plainName, overriddenIn]; done) | decide +kernel)
theorem ef_14 (m : MethodId) (x0 : Int32) (x1 : Int32) (x2 : Int64) : entryFrame m #[(.int x0), (.int x1), (.long x2)] 4 = mkF m 0 #[.val (.int x0), .val (.int x1), .val (.long x2), .second] [] := by first | (simp [entryFrame, mkF, argsToLocals, Value.category]; done) | rfl
def own_f14 (p0 : Int32) (p1 : Int32) (q2 : Int64) : Int32 :=
  if p1 < p0 then
    if (q2 &&& ((1 : Int64) <<< (p0 &&& 0x3f).toInt64)) = (0 : Int64) then
      (1 : Int32)
    else
      (0 : Int32)
  else
    (0 : Int32)
set_option maxRecDepth 65536 in
set_option maxHeartbeats 40000000 in
theorem rm14 (l : Launch) (Z : State) (a0 : Array Value) (hw : ∀ d ∈ tables_1, d.before a0 Z = true) (p0 : Int32) (p1 : Int32) (q2 : Int64) (h0 : Heap) (n0 : Nat) (Z0 : n0 ≤ h0.size) :
    own_Met l (⟨"com/example/onda/onda/sudoku/UnitsPlaceNextPinLaw", "free", "(IIJ)Z"⟩ : MethodName) method_5_code 4 (some .boolean) ({ frames := 0, cells := 0, slots := 0, locals := 0 } : Room) Z [] #[(.int p0), (.int p1), (.long q2)] h0 (own_P (some (.int (own_f14 p0 p1 q2))) h0 n0) := by
  refine own_enter pn_14 ?_
  intro p e s m below meth c s₁ hx hby hml hown hnm hret hlk hZ e0 X0
  rw [ef_14]
  have N0 := Fr.nil n0
  show own_Fin _ _ _ _ _ _ _ (s₁.setTop (mkF m 0 #[.val (.int p0), .val (.int p1), .val (.long q2), .second] []))
  refine own_go (fun _ kk => XS.iloadN X0.here hx rfl (hb hby d14_0) rfl (XS.iloadN X0.here hx rfl (hb hby d14_1) rfl kk)) ?_
  show own_Fin _ _ _ _ _ _ _ (s₁.setTop (mkF m 2 #[.val (.int p0), .val (.int p1), .val (.long q2), .second] [(.int p1), (.int p0)]))
  by_cases hc2 : p1 < p0
  · refine own_go (fun _ kk => XS.icmpNo X0.here hx rfl (hb hby d14_2) rfl (XT.ii_le_f hc2) (XS.lloadN X0.here hx rfl (hb hby d14_5) rfl (XS.lconst X0.here hx rfl (hb hby d14_6) (XS.iloadN X0.here hx rfl (hb hby d14_7) rfl (XS.lshl X0.here hx rfl (hb hby d14_8) rfl (XS.land X0.here hx rfl (hb hby d14_9) rfl (XS.lconst X0.here hx rfl (hb hby d14_10) (XT.lcmp X0.here hx rfl (hb hby d14_11) rfl kk)))))))) ?_
    show own_Fin _ _ _ _ _ _ _ (s₁.setTop (mkF m 12 #[.val (.int p0), .val (.int p1), .val (.long q2), .second] [(.int (XT.cmpL (q2 &&& ((1 : Int64) <<< (p0 &&& 0x3f).toInt64)) (0 : Int64)))]))
    by_cases hc12 : (q2 &&& ((1 : Int64) <<< (p0 &&& 0x3f).toInt64)) = (0 : Int64)
    · refine own_go (fun _ kk => XS.ifNo X0.here hx rfl (hb hby d14_12) rfl (XT.ll_ne_f hc12) (XS.iconst X0.here hx rfl (hb hby d14_15) (XS.goto X0.here hx rfl (pc0 := 16) (pc' := 20) rfl (hb hby d14_16) (by decide) (by decide) kk))) ?_
      show own_Fin _ _ _ _ _ _ _ (s₁.setTop (mkF m 20 #[.val (.int p0), .val (.int p1), .val (.long q2), .second] [(.int (1 : Int32))]))
      exact own_retZ X0 hx hlk hret rfl (hb hby d14_20) (by decide) (by decide) ⟨(by rw [own_f14, if_pos hc2, if_pos hc12]), N0, e0⟩
    · refine own_go (fun _ kk => XS.ifYes X0.here hx rfl (pc0 := 12) (pc' := 19) rfl (hb hby d14_12) rfl (XT.ll_ne_t hc12) (by decide) (by decide) (XS.iconst X0.here hx rfl (hb hby d14_19) kk)) ?_
      show own_Fin _ _ _ _ _ _ _ (s₁.setTop (mkF m 20 #[.val (.int p0), .val (.int p1), .val (.long q2), .second] [(.int (0 : Int32))]))
      exact own_retZ X0 hx hlk hret rfl (hb hby d14_20) (by decide) (by decide) ⟨(by rw [own_f14, if_pos hc2, if_neg hc12]), N0, e0⟩
  · refine own_go (fun _ kk => XS.icmpYes X0.here hx rfl (pc0 := 2) (pc' := 19) rfl (hb hby d14_2) rfl (XT.ii_le_t hc2) (by decide) (by decide) (XS.iconst X0.here hx rfl (hb hby d14_19) kk)) ?_
    show own_Fin _ _ _ _ _ _ _ (s₁.setTop (mkF m 20 #[.val (.int p0), .val (.int p1), .val (.long q2), .second] [(.int (0 : Int32))]))
    exact own_retZ X0 hx hlk hret rfl (hb hby d14_20) (by decide) (by decide) ⟨(by rw [own_f14, if_neg hc2]), N0, e0⟩

def own_kp (hs : List Int64) (u tk : Int32) : Int64 := List.getD hs (u).toNatClampNeg 0 &&& (((1 : Int64) <<< (tk &&& 0x3f).toInt64) ^^^ (-1 : Int64))
def own_pn (hs : List Int64) (r ci bi tk : Int32) (P : Int64) : List Int64 := List.set (List.set (List.set hs (r).toNatClampNeg (own_kp hs r tk ||| P)) (ci).toNatClampNeg (own_kp hs ci tk ||| P)) (bi).toNatClampNeg (own_kp hs bi tk ||| P)
theorem own_pnlen (hs : List Int64) (r ci bi tk : Int32) (P : Int64) : (own_pn hs r ci bi tk P).length = hs.length := by simp [own_pn]
def own_QN (Z : State) (hd : Addr) (hs : List Int64) (x : Int64) (h0 : Heap) (n0 : Nat) (v : Option Value) (h : Heap) (L : List Loc) : Prop := v = some (.long x) ∧ Fr n0 L ∧ Keep h0 h [hd] ∧ own_Ar Z h hd .long (hs.map Value.long)

theorem d12_0 : decode prog_24_method_7_code 0 = .ok (.lconst 1, 1) := by decide +kernel
theorem d12_1 : decode prog_24_method_7_code 1 = .ok (.iload 4, 2) := by decide +kernel
theorem d12_3 : decode prog_24_method_7_code 3 = .ok (.lshl, 1) := by decide +kernel
theorem d12_4 : decode prog_24_method_7_code 4 = .ok (.ldc2_w 51, 3) := by decide +kernel
theorem d12_7 : decode prog_24_method_7_code 7 = .ok (.lxor, 1) := by decide +kernel
theorem d12_8 : decode prog_24_method_7_code 8 = .ok (.lstore 5, 2) := by decide +kernel
theorem d12_10 : decode prog_24_method_7_code 10 = .ok (.aload_n 0, 1) := by decide +kernel
theorem d12_11 : decode prog_24_method_7_code 11 = .ok (.getfield 47, 3) := by decide +kernel
theorem d12_14 : decode prog_24_method_7_code 14 = .ok (.iload_n 1, 1) := by decide +kernel
theorem d12_15 : decode prog_24_method_7_code 15 = .ok (.laload, 1) := by decide +kernel
theorem d12_16 : decode prog_24_method_7_code 16 = .ok (.lload 5, 2) := by decide +kernel
theorem d12_18 : decode prog_24_method_7_code 18 = .ok (.land, 1) := by decide +kernel
theorem d12_19 : decode prog_24_method_7_code 19 = .ok (.lstore 7, 2) := by decide +kernel
theorem d12_21 : decode prog_24_method_7_code 21 = .ok (.aload_n 0, 1) := by decide +kernel
theorem d12_22 : decode prog_24_method_7_code 22 = .ok (.getfield 47, 3) := by decide +kernel
theorem d12_25 : decode prog_24_method_7_code 25 = .ok (.iload_n 2, 1) := by decide +kernel
theorem d12_26 : decode prog_24_method_7_code 26 = .ok (.laload, 1) := by decide +kernel
theorem d12_27 : decode prog_24_method_7_code 27 = .ok (.lload 5, 2) := by decide +kernel
theorem d12_29 : decode prog_24_method_7_code 29 = .ok (.land, 1) := by decide +kernel
theorem d12_30 : decode prog_24_method_7_code 30 = .ok (.lstore 9, 2) := by decide +kernel
theorem d12_32 : decode prog_24_method_7_code 32 = .ok (.aload_n 0, 1) := by decide +kernel
theorem d12_33 : decode prog_24_method_7_code 33 = .ok (.getfield 47, 3) := by decide +kernel
theorem d12_36 : decode prog_24_method_7_code 36 = .ok (.iload_n 3, 1) := by decide +kernel
theorem d12_37 : decode prog_24_method_7_code 37 = .ok (.laload, 1) := by decide +kernel
theorem d12_38 : decode prog_24_method_7_code 38 = .ok (.lload 5, 2) := by decide +kernel
theorem d12_40 : decode prog_24_method_7_code 40 = .ok (.land, 1) := by decide +kernel
theorem d12_41 : decode prog_24_method_7_code 41 = .ok (.lstore 11, 2) := by decide +kernel
theorem d12_43 : decode prog_24_method_7_code 43 = .ok (.aload_n 0, 1) := by decide +kernel
theorem d12_44 : decode prog_24_method_7_code 44 = .ok (.getfield 40, 3) := by decide +kernel
theorem d12_47 : decode prog_24_method_7_code 47 = .ok (.lload 7, 2) := by decide +kernel
theorem d12_49 : decode prog_24_method_7_code 49 = .ok (.lload 9, 2) := by decide +kernel
theorem d12_51 : decode prog_24_method_7_code 51 = .ok (.lor, 1) := by decide +kernel
theorem d12_52 : decode prog_24_method_7_code 52 = .ok (.lload 11, 2) := by decide +kernel
theorem d12_54 : decode prog_24_method_7_code 54 = .ok (.lor, 1) := by decide +kernel
theorem d12_55 : decode prog_24_method_7_code 55 = .ok (.ldc2_w 51, 3) := by decide +kernel
theorem d12_58 : decode prog_24_method_7_code 58 = .ok (.lxor, 1) := by decide +kernel
theorem d12_59 : decode prog_24_method_7_code 59 = .ok (.land, 1) := by decide +kernel
theorem d12_60 : decode prog_24_method_7_code 60 = .ok (.ldc2_w 51, 3) := by decide +kernel
theorem d12_63 : decode prog_24_method_7_code 63 = .ok (.iload 4, 2) := by decide +kernel
theorem d12_65 : decode prog_24_method_7_code 65 = .ok (.iconst 1, 1) := by decide +kernel
theorem d12_66 : decode prog_24_method_7_code 66 = .ok (.iadd, 1) := by decide +kernel
theorem d12_67 : decode prog_24_method_7_code 67 = .ok (.lshl, 1) := by decide +kernel
theorem d12_68 : decode prog_24_method_7_code 68 = .ok (.land, 1) := by decide +kernel
theorem d12_69 : decode prog_24_method_7_code 69 = .ok (.lstore 13, 2) := by decide +kernel
theorem d12_71 : decode prog_24_method_7_code 71 = .ok (.lload 13, 2) := by decide +kernel
theorem d12_73 : decode prog_24_method_7_code 73 = .ok (.lload 13, 2) := by decide +kernel
theorem d12_75 : decode prog_24_method_7_code 75 = .ok (.lneg, 1) := by decide +kernel
theorem d12_76 : decode prog_24_method_7_code 76 = .ok (.land, 1) := by decide +kernel
theorem d12_77 : decode prog_24_method_7_code 77 = .ok (.lstore 15, 2) := by decide +kernel
theorem d12_79 : decode prog_24_method_7_code 79 = .ok (.aload_n 0, 1) := by decide +kernel
theorem d12_80 : decode prog_24_method_7_code 80 = .ok (.getfield 47, 3) := by decide +kernel
theorem d12_83 : decode prog_24_method_7_code 83 = .ok (.iload_n 1, 1) := by decide +kernel
theorem d12_84 : decode prog_24_method_7_code 84 = .ok (.lload 7, 2) := by decide +kernel
theorem d12_86 : decode prog_24_method_7_code 86 = .ok (.lload 15, 2) := by decide +kernel
theorem d12_88 : decode prog_24_method_7_code 88 = .ok (.lor, 1) := by decide +kernel
theorem d12_89 : decode prog_24_method_7_code 89 = .ok (.lastore, 1) := by decide +kernel
theorem d12_90 : decode prog_24_method_7_code 90 = .ok (.aload_n 0, 1) := by decide +kernel
theorem d12_91 : decode prog_24_method_7_code 91 = .ok (.getfield 47, 3) := by decide +kernel
theorem d12_94 : decode prog_24_method_7_code 94 = .ok (.iload_n 2, 1) := by decide +kernel
theorem d12_95 : decode prog_24_method_7_code 95 = .ok (.lload 9, 2) := by decide +kernel
theorem d12_97 : decode prog_24_method_7_code 97 = .ok (.lload 15, 2) := by decide +kernel
theorem d12_99 : decode prog_24_method_7_code 99 = .ok (.lor, 1) := by decide +kernel
theorem d12_100 : decode prog_24_method_7_code 100 = .ok (.lastore, 1) := by decide +kernel
theorem d12_101 : decode prog_24_method_7_code 101 = .ok (.aload_n 0, 1) := by decide +kernel
theorem d12_102 : decode prog_24_method_7_code 102 = .ok (.getfield 47, 3) := by decide +kernel
theorem d12_105 : decode prog_24_method_7_code 105 = .ok (.iload_n 3, 1) := by decide +kernel
theorem d12_106 : decode prog_24_method_7_code 106 = .ok (.lload 11, 2) := by decide +kernel
theorem d12_108 : decode prog_24_method_7_code 108 = .ok (.lload 15, 2) := by decide +kernel
theorem d12_110 : decode prog_24_method_7_code 110 = .ok (.lor, 1) := by decide +kernel
theorem d12_111 : decode prog_24_method_7_code 111 = .ok (.lastore, 1) := by decide +kernel
theorem d12_112 : decode prog_24_method_7_code 112 = .ok (.lload 15, 2) := by decide +kernel
theorem d12_114 : decode prog_24_method_7_code 114 = .ok (.lreturn, 1) := by decide +kernel
theorem pn_12 : plainFor (⟨"com/example/onda/onda/sudoku/Units", "placeNext", "(IIII)J"⟩ : MethodName) = true := plainFor_of_name (by show plainName "com/example/onda/onda/sudoku/Units" = true; first | (simp [plainName, overriddenIn]; done) | decide +kernel)
theorem ef_12 (m : MethodId) (x0 : Addr) (x1 : Int32) (x2 : Int32) (x3 : Int32) (x4 : Int32) : entryFrame m #[(.ref x0), (.int x1), (.int x2), (.int x3), (.int x4)] 17 = mkF m 0 #[.val (.ref x0), .val (.int x1), .val (.int x2), .val (.int x3), .val (.int x4), .unset, .unset, .unset, .unset, .unset, .unset, .unset, .unset, .unset, .unset, .unset, .unset] [] := by first | (simp [entryFrame, mkF, argsToLocals, Value.category]; done) | rfl
def own_f12 (nb : Int64) (hs : List Int64) (r : Int32) (ci : Int32) (bi : Int32) (tk : Int32) : Int64 :=
  (((nb &&& (((((List.getD hs (r).toNatClampNeg 0) &&& (((1 : Int64) <<< (tk &&& 0x3f).toInt64) ^^^ (-1 : Int64))) ||| ((List.getD hs (ci).toNatClampNeg 0) &&& (((1 : Int64) <<< (tk &&& 0x3f).toInt64) ^^^ (-1 : Int64)))) ||| ((List.getD hs (bi).toNatClampNeg 0) &&& (((1 : Int64) <<< (tk &&& 0x3f).toInt64) ^^^ (-1 : Int64)))) ^^^ (-1 : Int64))) &&& ((-1 : Int64) <<< ((tk + (1 : Int32)) &&& 0x3f).toInt64)) &&& (-((nb &&& (((((List.getD hs (r).toNatClampNeg 0) &&& (((1 : Int64) <<< (tk &&& 0x3f).toInt64) ^^^ (-1 : Int64))) ||| ((List.getD hs (ci).toNatClampNeg 0) &&& (((1 : Int64) <<< (tk &&& 0x3f).toInt64) ^^^ (-1 : Int64)))) ||| ((List.getD hs (bi).toNatClampNeg 0) &&& (((1 : Int64) <<< (tk &&& 0x3f).toInt64) ^^^ (-1 : Int64)))) ^^^ (-1 : Int64))) &&& ((-1 : Int64) <<< ((tk + (1 : Int32)) &&& 0x3f).toInt64))))
set_option maxRecDepth 65536 in
set_option maxHeartbeats 40000000 in
theorem rm12 (l : Launch) (Z : State) (a0 : Array Value) (hw : ∀ d ∈ tables_1, d.before a0 Z = true) (t0 : Addr) (r : Int32) (ci : Int32) (bi : Int32) (tk : Int32) (h0 : Heap) (n0 : Nat) (Z0 : n0 ≤ h0.size) (hd : Addr) (nb : Int64) (hs : List Int64) (F_held : Fld Z h0 t0 "com/example/onda/onda/sudoku/Units" "held" "[J" (.ref hd)) (F_num : Fld Z h0 t0 "com/example/onda/onda/sudoku/Units" "numbers" "J" (.long nb)) (VH : own_Ar Z h0 hd .long (hs.map Value.long)) (hl : hs.length = 12) (nt0 : t0 ≠ hd) (g_hd : n0 ≤ hd) (h_r : ¬ r < 0 ∧ r.toNatClampNeg < 12) (h_ci : ¬ ci < 0 ∧ ci.toNatClampNeg < 12) (h_bi : ¬ bi < 0 ∧ bi.toNatClampNeg < 12) :
    own_Met l (⟨"com/example/onda/onda/sudoku/Units", "placeNext", "(IIII)J"⟩ : MethodName) prog_24_method_7_code 17 (some .long) ({ frames := 0, cells := 0, slots := 0, locals := 0 } : Room) Z [] #[(.ref t0), (.int r), (.int ci), (.int bi), (.int tk)] h0 (own_QN Z hd (own_pn hs r ci bi tk (own_f12 nb hs r ci bi tk)) (own_f12 nb hs r ci bi tk) h0 n0) := by
  refine own_enter pn_12 ?_
  intro p e s m below meth c s₁ hx hby hml hown hnm hret hlk hZ e0 X0
  rw [ef_12]
  have N0 := Fr.nil n0
  show own_Fin _ _ _ _ _ _ _ (s₁.setTop (mkF m 0 #[.val (.ref t0), .val (.int r), .val (.int ci), .val (.int bi), .val (.int tk), .unset, .unset, .unset, .unset, .unset, .unset, .unset, .unset, .unset, .unset, .unset, .unset] []))
  refine own_go (fun _ kk => XS.lconst X0.here hx rfl (hb hby d12_0) (XS.iload X0.here hx rfl (hb hby d12_1) rfl (XS.lshl X0.here hx rfl (hb hby d12_3) rfl (X0.ldc2J hx hown (mvT hZ (hw _ (List.mem_of_getElem? (i := 90) rfl))) rfl (hb hby d12_4) (XS.lxor X0.here hx rfl (hb hby d12_7) rfl (XS.lstore X0.here hx rfl (hb hby d12_8) rfl (l' := #[.val (.ref t0), .val (.int r), .val (.int ci), .val (.int bi), .val (.int tk), .val (.long (((1 : Int64) <<< (tk &&& 0x3f).toInt64) ^^^ (-1 : Int64))), .second, .unset, .unset, .unset, .unset, .unset, .unset, .unset, .unset, .unset, .unset]) rfl (XS.aloadN X0.here hx rfl (hb hby d12_10) rfl rfl kk))))))) ?_
  show own_Fin _ _ _ _ _ _ _ (s₁.setTop (mkF m 11 #[.val (.ref t0), .val (.int r), .val (.int ci), .val (.int bi), .val (.int tk), .val (.long (((1 : Int64) <<< (tk &&& 0x3f).toInt64) ^^^ (-1 : Int64))), .second, .unset, .unset, .unset, .unset, .unset, .unset, .unset, .unset, .unset, .unset] [(.ref t0)]))
  refine own_getF X0 hx hZ hown (host := "") (Or.inl (hw _ (List.mem_of_getElem? (i := 75) rfl))) Via.refl e0 F_held (hb hby d12_11) ?_
  intro T1 X1 e1
  show own_Fin _ _ _ _ _ _ _ (T1.setTop (mkF m 14 #[.val (.ref t0), .val (.int r), .val (.int ci), .val (.int bi), .val (.int tk), .val (.long (((1 : Int64) <<< (tk &&& 0x3f).toInt64) ^^^ (-1 : Int64))), .second, .unset, .unset, .unset, .unset, .unset, .unset, .unset, .unset, .unset, .unset] [(.ref hd)]))
  refine own_go (fun _ kk => XS.iloadN X1.here hx rfl (hb hby d12_14) rfl kk) ?_
  show own_Fin _ _ _ _ _ _ _ (T1.setTop (mkF m 15 #[.val (.ref t0), .val (.int r), .val (.int ci), .val (.int bi), .val (.int tk), .val (.long (((1 : Int64) <<< (tk &&& 0x3f).toInt64) ^^^ (-1 : Int64))), .second, .unset, .unset, .unset, .unset, .unset, .unset, .unset, .unset, .unset, .unset] [(.int r), (.ref hd)]))
  refine own_ldJ X1 hx hZ e1 VH h_r.1 (by simp only [List.length_set, hl]; exact h_r.2) (hb hby d12_15) ?_
  show own_Fin _ _ _ _ _ _ _ (T1.setTop (mkF m 16 #[.val (.ref t0), .val (.int r), .val (.int ci), .val (.int bi), .val (.int tk), .val (.long (((1 : Int64) <<< (tk &&& 0x3f).toInt64) ^^^ (-1 : Int64))), .second, .unset, .unset, .unset, .unset, .unset, .unset, .unset, .unset, .unset, .unset] [(.long (List.getD hs (r).toNatClampNeg 0))]))
  refine own_go (fun _ kk => XS.lload X1.here hx rfl (hb hby d12_16) rfl (XS.land X1.here hx rfl (hb hby d12_18) rfl (XS.lstore X1.here hx rfl (hb hby d12_19) rfl (l' := #[.val (.ref t0), .val (.int r), .val (.int ci), .val (.int bi), .val (.int tk), .val (.long (((1 : Int64) <<< (tk &&& 0x3f).toInt64) ^^^ (-1 : Int64))), .second, .val (.long ((List.getD hs (r).toNatClampNeg 0) &&& (((1 : Int64) <<< (tk &&& 0x3f).toInt64) ^^^ (-1 : Int64)))), .second, .unset, .unset, .unset, .unset, .unset, .unset, .unset, .unset]) rfl (XS.aloadN X1.here hx rfl (hb hby d12_21) rfl rfl kk)))) ?_
  show own_Fin _ _ _ _ _ _ _ (T1.setTop (mkF m 22 #[.val (.ref t0), .val (.int r), .val (.int ci), .val (.int bi), .val (.int tk), .val (.long (((1 : Int64) <<< (tk &&& 0x3f).toInt64) ^^^ (-1 : Int64))), .second, .val (.long ((List.getD hs (r).toNatClampNeg 0) &&& (((1 : Int64) <<< (tk &&& 0x3f).toInt64) ^^^ (-1 : Int64)))), .second, .unset, .unset, .unset, .unset, .unset, .unset, .unset, .unset] [(.ref t0)]))
  refine own_getF X1 hx hZ hown (host := "") (Or.inl (hw _ (List.mem_of_getElem? (i := 75) rfl))) Via.refl e1 F_held (hb hby d12_22) ?_
  intro T2 X2 e2
  show own_Fin _ _ _ _ _ _ _ (T2.setTop (mkF m 25 #[.val (.ref t0), .val (.int r), .val (.int ci), .val (.int bi), .val (.int tk), .val (.long (((1 : Int64) <<< (tk &&& 0x3f).toInt64) ^^^ (-1 : Int64))), .second, .val (.long ((List.getD hs (r).toNatClampNeg 0) &&& (((1 : Int64) <<< (tk &&& 0x3f).toInt64) ^^^ (-1 : Int64)))), .second, .unset, .unset, .unset, .unset, .unset, .unset, .unset, .unset] [(.ref hd)]))
  refine own_go (fun _ kk => XS.iloadN X2.here hx rfl (hb hby d12_25) rfl kk) ?_
  show own_Fin _ _ _ _ _ _ _ (T2.setTop (mkF m 26 #[.val (.ref t0), .val (.int r), .val (.int ci), .val (.int bi), .val (.int tk), .val (.long (((1 : Int64) <<< (tk &&& 0x3f).toInt64) ^^^ (-1 : Int64))), .second, .val (.long ((List.getD hs (r).toNatClampNeg 0) &&& (((1 : Int64) <<< (tk &&& 0x3f).toInt64) ^^^ (-1 : Int64)))), .second, .unset, .unset, .unset, .unset, .unset, .unset, .unset, .unset] [(.int ci), (.ref hd)]))
  refine own_ldJ X2 hx hZ e2 VH h_ci.1 (by simp only [List.length_set, hl]; exact h_ci.2) (hb hby d12_26) ?_
  show own_Fin _ _ _ _ _ _ _ (T2.setTop (mkF m 27 #[.val (.ref t0), .val (.int r), .val (.int ci), .val (.int bi), .val (.int tk), .val (.long (((1 : Int64) <<< (tk &&& 0x3f).toInt64) ^^^ (-1 : Int64))), .second, .val (.long ((List.getD hs (r).toNatClampNeg 0) &&& (((1 : Int64) <<< (tk &&& 0x3f).toInt64) ^^^ (-1 : Int64)))), .second, .unset, .unset, .unset, .unset, .unset, .unset, .unset, .unset] [(.long (List.getD hs (ci).toNatClampNeg 0))]))
  refine own_go (fun _ kk => XS.lload X2.here hx rfl (hb hby d12_27) rfl (XS.land X2.here hx rfl (hb hby d12_29) rfl (XS.lstore X2.here hx rfl (hb hby d12_30) rfl (l' := #[.val (.ref t0), .val (.int r), .val (.int ci), .val (.int bi), .val (.int tk), .val (.long (((1 : Int64) <<< (tk &&& 0x3f).toInt64) ^^^ (-1 : Int64))), .second, .val (.long ((List.getD hs (r).toNatClampNeg 0) &&& (((1 : Int64) <<< (tk &&& 0x3f).toInt64) ^^^ (-1 : Int64)))), .second, .val (.long ((List.getD hs (ci).toNatClampNeg 0) &&& (((1 : Int64) <<< (tk &&& 0x3f).toInt64) ^^^ (-1 : Int64)))), .second, .unset, .unset, .unset, .unset, .unset, .unset]) rfl (XS.aloadN X2.here hx rfl (hb hby d12_32) rfl rfl kk)))) ?_
  show own_Fin _ _ _ _ _ _ _ (T2.setTop (mkF m 33 #[.val (.ref t0), .val (.int r), .val (.int ci), .val (.int bi), .val (.int tk), .val (.long (((1 : Int64) <<< (tk &&& 0x3f).toInt64) ^^^ (-1 : Int64))), .second, .val (.long ((List.getD hs (r).toNatClampNeg 0) &&& (((1 : Int64) <<< (tk &&& 0x3f).toInt64) ^^^ (-1 : Int64)))), .second, .val (.long ((List.getD hs (ci).toNatClampNeg 0) &&& (((1 : Int64) <<< (tk &&& 0x3f).toInt64) ^^^ (-1 : Int64)))), .second, .unset, .unset, .unset, .unset, .unset, .unset] [(.ref t0)]))
  refine own_getF X2 hx hZ hown (host := "") (Or.inl (hw _ (List.mem_of_getElem? (i := 75) rfl))) Via.refl e2 F_held (hb hby d12_33) ?_
  intro T3 X3 e3
  show own_Fin _ _ _ _ _ _ _ (T3.setTop (mkF m 36 #[.val (.ref t0), .val (.int r), .val (.int ci), .val (.int bi), .val (.int tk), .val (.long (((1 : Int64) <<< (tk &&& 0x3f).toInt64) ^^^ (-1 : Int64))), .second, .val (.long ((List.getD hs (r).toNatClampNeg 0) &&& (((1 : Int64) <<< (tk &&& 0x3f).toInt64) ^^^ (-1 : Int64)))), .second, .val (.long ((List.getD hs (ci).toNatClampNeg 0) &&& (((1 : Int64) <<< (tk &&& 0x3f).toInt64) ^^^ (-1 : Int64)))), .second, .unset, .unset, .unset, .unset, .unset, .unset] [(.ref hd)]))
  refine own_go (fun _ kk => XS.iloadN X3.here hx rfl (hb hby d12_36) rfl kk) ?_
  show own_Fin _ _ _ _ _ _ _ (T3.setTop (mkF m 37 #[.val (.ref t0), .val (.int r), .val (.int ci), .val (.int bi), .val (.int tk), .val (.long (((1 : Int64) <<< (tk &&& 0x3f).toInt64) ^^^ (-1 : Int64))), .second, .val (.long ((List.getD hs (r).toNatClampNeg 0) &&& (((1 : Int64) <<< (tk &&& 0x3f).toInt64) ^^^ (-1 : Int64)))), .second, .val (.long ((List.getD hs (ci).toNatClampNeg 0) &&& (((1 : Int64) <<< (tk &&& 0x3f).toInt64) ^^^ (-1 : Int64)))), .second, .unset, .unset, .unset, .unset, .unset, .unset] [(.int bi), (.ref hd)]))
  refine own_ldJ X3 hx hZ e3 VH h_bi.1 (by simp only [List.length_set, hl]; exact h_bi.2) (hb hby d12_37) ?_
  show own_Fin _ _ _ _ _ _ _ (T3.setTop (mkF m 38 #[.val (.ref t0), .val (.int r), .val (.int ci), .val (.int bi), .val (.int tk), .val (.long (((1 : Int64) <<< (tk &&& 0x3f).toInt64) ^^^ (-1 : Int64))), .second, .val (.long ((List.getD hs (r).toNatClampNeg 0) &&& (((1 : Int64) <<< (tk &&& 0x3f).toInt64) ^^^ (-1 : Int64)))), .second, .val (.long ((List.getD hs (ci).toNatClampNeg 0) &&& (((1 : Int64) <<< (tk &&& 0x3f).toInt64) ^^^ (-1 : Int64)))), .second, .unset, .unset, .unset, .unset, .unset, .unset] [(.long (List.getD hs (bi).toNatClampNeg 0))]))
  refine own_go (fun _ kk => XS.lload X3.here hx rfl (hb hby d12_38) rfl (XS.land X3.here hx rfl (hb hby d12_40) rfl (XS.lstore X3.here hx rfl (hb hby d12_41) rfl (l' := #[.val (.ref t0), .val (.int r), .val (.int ci), .val (.int bi), .val (.int tk), .val (.long (((1 : Int64) <<< (tk &&& 0x3f).toInt64) ^^^ (-1 : Int64))), .second, .val (.long ((List.getD hs (r).toNatClampNeg 0) &&& (((1 : Int64) <<< (tk &&& 0x3f).toInt64) ^^^ (-1 : Int64)))), .second, .val (.long ((List.getD hs (ci).toNatClampNeg 0) &&& (((1 : Int64) <<< (tk &&& 0x3f).toInt64) ^^^ (-1 : Int64)))), .second, .val (.long ((List.getD hs (bi).toNatClampNeg 0) &&& (((1 : Int64) <<< (tk &&& 0x3f).toInt64) ^^^ (-1 : Int64)))), .second, .unset, .unset, .unset, .unset]) rfl (XS.aloadN X3.here hx rfl (hb hby d12_43) rfl rfl kk)))) ?_
  show own_Fin _ _ _ _ _ _ _ (T3.setTop (mkF m 44 #[.val (.ref t0), .val (.int r), .val (.int ci), .val (.int bi), .val (.int tk), .val (.long (((1 : Int64) <<< (tk &&& 0x3f).toInt64) ^^^ (-1 : Int64))), .second, .val (.long ((List.getD hs (r).toNatClampNeg 0) &&& (((1 : Int64) <<< (tk &&& 0x3f).toInt64) ^^^ (-1 : Int64)))), .second, .val (.long ((List.getD hs (ci).toNatClampNeg 0) &&& (((1 : Int64) <<< (tk &&& 0x3f).toInt64) ^^^ (-1 : Int64)))), .second, .val (.long ((List.getD hs (bi).toNatClampNeg 0) &&& (((1 : Int64) <<< (tk &&& 0x3f).toInt64) ^^^ (-1 : Int64)))), .second, .unset, .unset, .unset, .unset] [(.ref t0)]))
  refine own_getF X3 hx hZ hown (host := "") (Or.inl (hw _ (List.mem_of_getElem? (i := 67) rfl))) Via.refl e3 F_num (hb hby d12_44) ?_
  intro T4 X4 e4
  show own_Fin _ _ _ _ _ _ _ (T4.setTop (mkF m 47 #[.val (.ref t0), .val (.int r), .val (.int ci), .val (.int bi), .val (.int tk), .val (.long (((1 : Int64) <<< (tk &&& 0x3f).toInt64) ^^^ (-1 : Int64))), .second, .val (.long ((List.getD hs (r).toNatClampNeg 0) &&& (((1 : Int64) <<< (tk &&& 0x3f).toInt64) ^^^ (-1 : Int64)))), .second, .val (.long ((List.getD hs (ci).toNatClampNeg 0) &&& (((1 : Int64) <<< (tk &&& 0x3f).toInt64) ^^^ (-1 : Int64)))), .second, .val (.long ((List.getD hs (bi).toNatClampNeg 0) &&& (((1 : Int64) <<< (tk &&& 0x3f).toInt64) ^^^ (-1 : Int64)))), .second, .unset, .unset, .unset, .unset] [(.long nb)]))
  refine own_go (fun _ kk => XS.lload X4.here hx rfl (hb hby d12_47) rfl (XS.lload X4.here hx rfl (hb hby d12_49) rfl (XS.lor X4.here hx rfl (hb hby d12_51) rfl (XS.lload X4.here hx rfl (hb hby d12_52) rfl (XS.lor X4.here hx rfl (hb hby d12_54) rfl (X4.ldc2J hx hown (mvT hZ (hw _ (List.mem_of_getElem? (i := 90) rfl))) rfl (hb hby d12_55) (XS.lxor X4.here hx rfl (hb hby d12_58) rfl (XS.land X4.here hx rfl (hb hby d12_59) rfl (X4.ldc2J hx hown (mvT hZ (hw _ (List.mem_of_getElem? (i := 90) rfl))) rfl (hb hby d12_60) (XS.iload X4.here hx rfl (hb hby d12_63) rfl kk)))))))))) ?_
  show own_Fin _ _ _ _ _ _ _ (T4.setTop (mkF m 65 #[.val (.ref t0), .val (.int r), .val (.int ci), .val (.int bi), .val (.int tk), .val (.long (((1 : Int64) <<< (tk &&& 0x3f).toInt64) ^^^ (-1 : Int64))), .second, .val (.long ((List.getD hs (r).toNatClampNeg 0) &&& (((1 : Int64) <<< (tk &&& 0x3f).toInt64) ^^^ (-1 : Int64)))), .second, .val (.long ((List.getD hs (ci).toNatClampNeg 0) &&& (((1 : Int64) <<< (tk &&& 0x3f).toInt64) ^^^ (-1 : Int64)))), .second, .val (.long ((List.getD hs (bi).toNatClampNeg 0) &&& (((1 : Int64) <<< (tk &&& 0x3f).toInt64) ^^^ (-1 : Int64)))), .second, .unset, .unset, .unset, .unset] [(.int tk), (.long (-1 : Int64)), (.long (nb &&& (((((List.getD hs (r).toNatClampNeg 0) &&& (((1 : Int64) <<< (tk &&& 0x3f).toInt64) ^^^ (-1 : Int64))) ||| ((List.getD hs (ci).toNatClampNeg 0) &&& (((1 : Int64) <<< (tk &&& 0x3f).toInt64) ^^^ (-1 : Int64)))) ||| ((List.getD hs (bi).toNatClampNeg 0) &&& (((1 : Int64) <<< (tk &&& 0x3f).toInt64) ^^^ (-1 : Int64)))) ^^^ (-1 : Int64))))]))
  refine own_go (fun _ kk => XS.iconst X4.here hx rfl (hb hby d12_65) (XS.iadd X4.here hx rfl (hb hby d12_66) rfl (XS.lshl X4.here hx rfl (hb hby d12_67) rfl (XS.land X4.here hx rfl (hb hby d12_68) rfl (XS.lstore X4.here hx rfl (hb hby d12_69) rfl (l' := #[.val (.ref t0), .val (.int r), .val (.int ci), .val (.int bi), .val (.int tk), .val (.long (((1 : Int64) <<< (tk &&& 0x3f).toInt64) ^^^ (-1 : Int64))), .second, .val (.long ((List.getD hs (r).toNatClampNeg 0) &&& (((1 : Int64) <<< (tk &&& 0x3f).toInt64) ^^^ (-1 : Int64)))), .second, .val (.long ((List.getD hs (ci).toNatClampNeg 0) &&& (((1 : Int64) <<< (tk &&& 0x3f).toInt64) ^^^ (-1 : Int64)))), .second, .val (.long ((List.getD hs (bi).toNatClampNeg 0) &&& (((1 : Int64) <<< (tk &&& 0x3f).toInt64) ^^^ (-1 : Int64)))), .second, .val (.long ((nb &&& (((((List.getD hs (r).toNatClampNeg 0) &&& (((1 : Int64) <<< (tk &&& 0x3f).toInt64) ^^^ (-1 : Int64))) ||| ((List.getD hs (ci).toNatClampNeg 0) &&& (((1 : Int64) <<< (tk &&& 0x3f).toInt64) ^^^ (-1 : Int64)))) ||| ((List.getD hs (bi).toNatClampNeg 0) &&& (((1 : Int64) <<< (tk &&& 0x3f).toInt64) ^^^ (-1 : Int64)))) ^^^ (-1 : Int64))) &&& ((-1 : Int64) <<< ((tk + (1 : Int32)) &&& 0x3f).toInt64))), .second, .unset, .unset]) rfl (XS.lload X4.here hx rfl (hb hby d12_71) rfl (XS.lload X4.here hx rfl (hb hby d12_73) rfl (XS.lneg X4.here hx rfl (hb hby d12_75) rfl (XS.land X4.here hx rfl (hb hby d12_76) rfl (XS.lstore X4.here hx rfl (hb hby d12_77) rfl (l' := #[.val (.ref t0), .val (.int r), .val (.int ci), .val (.int bi), .val (.int tk), .val (.long (((1 : Int64) <<< (tk &&& 0x3f).toInt64) ^^^ (-1 : Int64))), .second, .val (.long ((List.getD hs (r).toNatClampNeg 0) &&& (((1 : Int64) <<< (tk &&& 0x3f).toInt64) ^^^ (-1 : Int64)))), .second, .val (.long ((List.getD hs (ci).toNatClampNeg 0) &&& (((1 : Int64) <<< (tk &&& 0x3f).toInt64) ^^^ (-1 : Int64)))), .second, .val (.long ((List.getD hs (bi).toNatClampNeg 0) &&& (((1 : Int64) <<< (tk &&& 0x3f).toInt64) ^^^ (-1 : Int64)))), .second, .val (.long ((nb &&& (((((List.getD hs (r).toNatClampNeg 0) &&& (((1 : Int64) <<< (tk &&& 0x3f).toInt64) ^^^ (-1 : Int64))) ||| ((List.getD hs (ci).toNatClampNeg 0) &&& (((1 : Int64) <<< (tk &&& 0x3f).toInt64) ^^^ (-1 : Int64)))) ||| ((List.getD hs (bi).toNatClampNeg 0) &&& (((1 : Int64) <<< (tk &&& 0x3f).toInt64) ^^^ (-1 : Int64)))) ^^^ (-1 : Int64))) &&& ((-1 : Int64) <<< ((tk + (1 : Int32)) &&& 0x3f).toInt64))), .second, .val (.long (((nb &&& (((((List.getD hs (r).toNatClampNeg 0) &&& (((1 : Int64) <<< (tk &&& 0x3f).toInt64) ^^^ (-1 : Int64))) ||| ((List.getD hs (ci).toNatClampNeg 0) &&& (((1 : Int64) <<< (tk &&& 0x3f).toInt64) ^^^ (-1 : Int64)))) ||| ((List.getD hs (bi).toNatClampNeg 0) &&& (((1 : Int64) <<< (tk &&& 0x3f).toInt64) ^^^ (-1 : Int64)))) ^^^ (-1 : Int64))) &&& ((-1 : Int64) <<< ((tk + (1 : Int32)) &&& 0x3f).toInt64)) &&& (-((nb &&& (((((List.getD hs (r).toNatClampNeg 0) &&& (((1 : Int64) <<< (tk &&& 0x3f).toInt64) ^^^ (-1 : Int64))) ||| ((List.getD hs (ci).toNatClampNeg 0) &&& (((1 : Int64) <<< (tk &&& 0x3f).toInt64) ^^^ (-1 : Int64)))) ||| ((List.getD hs (bi).toNatClampNeg 0) &&& (((1 : Int64) <<< (tk &&& 0x3f).toInt64) ^^^ (-1 : Int64)))) ^^^ (-1 : Int64))) &&& ((-1 : Int64) <<< ((tk + (1 : Int32)) &&& 0x3f).toInt64))))), .second]) rfl kk)))))))))) ?_
  show own_Fin _ _ _ _ _ _ _ (T4.setTop (mkF m 79 #[.val (.ref t0), .val (.int r), .val (.int ci), .val (.int bi), .val (.int tk), .val (.long (((1 : Int64) <<< (tk &&& 0x3f).toInt64) ^^^ (-1 : Int64))), .second, .val (.long ((List.getD hs (r).toNatClampNeg 0) &&& (((1 : Int64) <<< (tk &&& 0x3f).toInt64) ^^^ (-1 : Int64)))), .second, .val (.long ((List.getD hs (ci).toNatClampNeg 0) &&& (((1 : Int64) <<< (tk &&& 0x3f).toInt64) ^^^ (-1 : Int64)))), .second, .val (.long ((List.getD hs (bi).toNatClampNeg 0) &&& (((1 : Int64) <<< (tk &&& 0x3f).toInt64) ^^^ (-1 : Int64)))), .second, .val (.long ((nb &&& (((((List.getD hs (r).toNatClampNeg 0) &&& (((1 : Int64) <<< (tk &&& 0x3f).toInt64) ^^^ (-1 : Int64))) ||| ((List.getD hs (ci).toNatClampNeg 0) &&& (((1 : Int64) <<< (tk &&& 0x3f).toInt64) ^^^ (-1 : Int64)))) ||| ((List.getD hs (bi).toNatClampNeg 0) &&& (((1 : Int64) <<< (tk &&& 0x3f).toInt64) ^^^ (-1 : Int64)))) ^^^ (-1 : Int64))) &&& ((-1 : Int64) <<< ((tk + (1 : Int32)) &&& 0x3f).toInt64))), .second, .val (.long (((nb &&& (((((List.getD hs (r).toNatClampNeg 0) &&& (((1 : Int64) <<< (tk &&& 0x3f).toInt64) ^^^ (-1 : Int64))) ||| ((List.getD hs (ci).toNatClampNeg 0) &&& (((1 : Int64) <<< (tk &&& 0x3f).toInt64) ^^^ (-1 : Int64)))) ||| ((List.getD hs (bi).toNatClampNeg 0) &&& (((1 : Int64) <<< (tk &&& 0x3f).toInt64) ^^^ (-1 : Int64)))) ^^^ (-1 : Int64))) &&& ((-1 : Int64) <<< ((tk + (1 : Int32)) &&& 0x3f).toInt64)) &&& (-((nb &&& (((((List.getD hs (r).toNatClampNeg 0) &&& (((1 : Int64) <<< (tk &&& 0x3f).toInt64) ^^^ (-1 : Int64))) ||| ((List.getD hs (ci).toNatClampNeg 0) &&& (((1 : Int64) <<< (tk &&& 0x3f).toInt64) ^^^ (-1 : Int64)))) ||| ((List.getD hs (bi).toNatClampNeg 0) &&& (((1 : Int64) <<< (tk &&& 0x3f).toInt64) ^^^ (-1 : Int64)))) ^^^ (-1 : Int64))) &&& ((-1 : Int64) <<< ((tk + (1 : Int32)) &&& 0x3f).toInt64))))), .second] []))
  refine own_go (fun _ kk => XS.aloadN X4.here hx rfl (hb hby d12_79) rfl rfl kk) ?_
  show own_Fin _ _ _ _ _ _ _ (T4.setTop (mkF m 80 #[.val (.ref t0), .val (.int r), .val (.int ci), .val (.int bi), .val (.int tk), .val (.long (((1 : Int64) <<< (tk &&& 0x3f).toInt64) ^^^ (-1 : Int64))), .second, .val (.long ((List.getD hs (r).toNatClampNeg 0) &&& (((1 : Int64) <<< (tk &&& 0x3f).toInt64) ^^^ (-1 : Int64)))), .second, .val (.long ((List.getD hs (ci).toNatClampNeg 0) &&& (((1 : Int64) <<< (tk &&& 0x3f).toInt64) ^^^ (-1 : Int64)))), .second, .val (.long ((List.getD hs (bi).toNatClampNeg 0) &&& (((1 : Int64) <<< (tk &&& 0x3f).toInt64) ^^^ (-1 : Int64)))), .second, .val (.long ((nb &&& (((((List.getD hs (r).toNatClampNeg 0) &&& (((1 : Int64) <<< (tk &&& 0x3f).toInt64) ^^^ (-1 : Int64))) ||| ((List.getD hs (ci).toNatClampNeg 0) &&& (((1 : Int64) <<< (tk &&& 0x3f).toInt64) ^^^ (-1 : Int64)))) ||| ((List.getD hs (bi).toNatClampNeg 0) &&& (((1 : Int64) <<< (tk &&& 0x3f).toInt64) ^^^ (-1 : Int64)))) ^^^ (-1 : Int64))) &&& ((-1 : Int64) <<< ((tk + (1 : Int32)) &&& 0x3f).toInt64))), .second, .val (.long (((nb &&& (((((List.getD hs (r).toNatClampNeg 0) &&& (((1 : Int64) <<< (tk &&& 0x3f).toInt64) ^^^ (-1 : Int64))) ||| ((List.getD hs (ci).toNatClampNeg 0) &&& (((1 : Int64) <<< (tk &&& 0x3f).toInt64) ^^^ (-1 : Int64)))) ||| ((List.getD hs (bi).toNatClampNeg 0) &&& (((1 : Int64) <<< (tk &&& 0x3f).toInt64) ^^^ (-1 : Int64)))) ^^^ (-1 : Int64))) &&& ((-1 : Int64) <<< ((tk + (1 : Int32)) &&& 0x3f).toInt64)) &&& (-((nb &&& (((((List.getD hs (r).toNatClampNeg 0) &&& (((1 : Int64) <<< (tk &&& 0x3f).toInt64) ^^^ (-1 : Int64))) ||| ((List.getD hs (ci).toNatClampNeg 0) &&& (((1 : Int64) <<< (tk &&& 0x3f).toInt64) ^^^ (-1 : Int64)))) ||| ((List.getD hs (bi).toNatClampNeg 0) &&& (((1 : Int64) <<< (tk &&& 0x3f).toInt64) ^^^ (-1 : Int64)))) ^^^ (-1 : Int64))) &&& ((-1 : Int64) <<< ((tk + (1 : Int32)) &&& 0x3f).toInt64))))), .second] [(.ref t0)]))
  refine own_getF X4 hx hZ hown (host := "") (Or.inl (hw _ (List.mem_of_getElem? (i := 75) rfl))) Via.refl e4 F_held (hb hby d12_80) ?_
  intro T5 X5 e5
  show own_Fin _ _ _ _ _ _ _ (T5.setTop (mkF m 83 #[.val (.ref t0), .val (.int r), .val (.int ci), .val (.int bi), .val (.int tk), .val (.long (((1 : Int64) <<< (tk &&& 0x3f).toInt64) ^^^ (-1 : Int64))), .second, .val (.long ((List.getD hs (r).toNatClampNeg 0) &&& (((1 : Int64) <<< (tk &&& 0x3f).toInt64) ^^^ (-1 : Int64)))), .second, .val (.long ((List.getD hs (ci).toNatClampNeg 0) &&& (((1 : Int64) <<< (tk &&& 0x3f).toInt64) ^^^ (-1 : Int64)))), .second, .val (.long ((List.getD hs (bi).toNatClampNeg 0) &&& (((1 : Int64) <<< (tk &&& 0x3f).toInt64) ^^^ (-1 : Int64)))), .second, .val (.long ((nb &&& (((((List.getD hs (r).toNatClampNeg 0) &&& (((1 : Int64) <<< (tk &&& 0x3f).toInt64) ^^^ (-1 : Int64))) ||| ((List.getD hs (ci).toNatClampNeg 0) &&& (((1 : Int64) <<< (tk &&& 0x3f).toInt64) ^^^ (-1 : Int64)))) ||| ((List.getD hs (bi).toNatClampNeg 0) &&& (((1 : Int64) <<< (tk &&& 0x3f).toInt64) ^^^ (-1 : Int64)))) ^^^ (-1 : Int64))) &&& ((-1 : Int64) <<< ((tk + (1 : Int32)) &&& 0x3f).toInt64))), .second, .val (.long (((nb &&& (((((List.getD hs (r).toNatClampNeg 0) &&& (((1 : Int64) <<< (tk &&& 0x3f).toInt64) ^^^ (-1 : Int64))) ||| ((List.getD hs (ci).toNatClampNeg 0) &&& (((1 : Int64) <<< (tk &&& 0x3f).toInt64) ^^^ (-1 : Int64)))) ||| ((List.getD hs (bi).toNatClampNeg 0) &&& (((1 : Int64) <<< (tk &&& 0x3f).toInt64) ^^^ (-1 : Int64)))) ^^^ (-1 : Int64))) &&& ((-1 : Int64) <<< ((tk + (1 : Int32)) &&& 0x3f).toInt64)) &&& (-((nb &&& (((((List.getD hs (r).toNatClampNeg 0) &&& (((1 : Int64) <<< (tk &&& 0x3f).toInt64) ^^^ (-1 : Int64))) ||| ((List.getD hs (ci).toNatClampNeg 0) &&& (((1 : Int64) <<< (tk &&& 0x3f).toInt64) ^^^ (-1 : Int64)))) ||| ((List.getD hs (bi).toNatClampNeg 0) &&& (((1 : Int64) <<< (tk &&& 0x3f).toInt64) ^^^ (-1 : Int64)))) ^^^ (-1 : Int64))) &&& ((-1 : Int64) <<< ((tk + (1 : Int32)) &&& 0x3f).toInt64))))), .second] [(.ref hd)]))
  refine own_go (fun _ kk => XS.iloadN X5.here hx rfl (hb hby d12_83) rfl (XS.lload X5.here hx rfl (hb hby d12_84) rfl (XS.lload X5.here hx rfl (hb hby d12_86) rfl (XS.lor X5.here hx rfl (hb hby d12_88) rfl kk)))) ?_
  show own_Fin _ _ _ _ _ _ _ (T5.setTop (mkF m 89 #[.val (.ref t0), .val (.int r), .val (.int ci), .val (.int bi), .val (.int tk), .val (.long (((1 : Int64) <<< (tk &&& 0x3f).toInt64) ^^^ (-1 : Int64))), .second, .val (.long ((List.getD hs (r).toNatClampNeg 0) &&& (((1 : Int64) <<< (tk &&& 0x3f).toInt64) ^^^ (-1 : Int64)))), .second, .val (.long ((List.getD hs (ci).toNatClampNeg 0) &&& (((1 : Int64) <<< (tk &&& 0x3f).toInt64) ^^^ (-1 : Int64)))), .second, .val (.long ((List.getD hs (bi).toNatClampNeg 0) &&& (((1 : Int64) <<< (tk &&& 0x3f).toInt64) ^^^ (-1 : Int64)))), .second, .val (.long ((nb &&& (((((List.getD hs (r).toNatClampNeg 0) &&& (((1 : Int64) <<< (tk &&& 0x3f).toInt64) ^^^ (-1 : Int64))) ||| ((List.getD hs (ci).toNatClampNeg 0) &&& (((1 : Int64) <<< (tk &&& 0x3f).toInt64) ^^^ (-1 : Int64)))) ||| ((List.getD hs (bi).toNatClampNeg 0) &&& (((1 : Int64) <<< (tk &&& 0x3f).toInt64) ^^^ (-1 : Int64)))) ^^^ (-1 : Int64))) &&& ((-1 : Int64) <<< ((tk + (1 : Int32)) &&& 0x3f).toInt64))), .second, .val (.long (((nb &&& (((((List.getD hs (r).toNatClampNeg 0) &&& (((1 : Int64) <<< (tk &&& 0x3f).toInt64) ^^^ (-1 : Int64))) ||| ((List.getD hs (ci).toNatClampNeg 0) &&& (((1 : Int64) <<< (tk &&& 0x3f).toInt64) ^^^ (-1 : Int64)))) ||| ((List.getD hs (bi).toNatClampNeg 0) &&& (((1 : Int64) <<< (tk &&& 0x3f).toInt64) ^^^ (-1 : Int64)))) ^^^ (-1 : Int64))) &&& ((-1 : Int64) <<< ((tk + (1 : Int32)) &&& 0x3f).toInt64)) &&& (-((nb &&& (((((List.getD hs (r).toNatClampNeg 0) &&& (((1 : Int64) <<< (tk &&& 0x3f).toInt64) ^^^ (-1 : Int64))) ||| ((List.getD hs (ci).toNatClampNeg 0) &&& (((1 : Int64) <<< (tk &&& 0x3f).toInt64) ^^^ (-1 : Int64)))) ||| ((List.getD hs (bi).toNatClampNeg 0) &&& (((1 : Int64) <<< (tk &&& 0x3f).toInt64) ^^^ (-1 : Int64)))) ^^^ (-1 : Int64))) &&& ((-1 : Int64) <<< ((tk + (1 : Int32)) &&& 0x3f).toInt64))))), .second] [(.long (((List.getD hs (r).toNatClampNeg 0) &&& (((1 : Int64) <<< (tk &&& 0x3f).toInt64) ^^^ (-1 : Int64))) ||| (((nb &&& (((((List.getD hs (r).toNatClampNeg 0) &&& (((1 : Int64) <<< (tk &&& 0x3f).toInt64) ^^^ (-1 : Int64))) ||| ((List.getD hs (ci).toNatClampNeg 0) &&& (((1 : Int64) <<< (tk &&& 0x3f).toInt64) ^^^ (-1 : Int64)))) ||| ((List.getD hs (bi).toNatClampNeg 0) &&& (((1 : Int64) <<< (tk &&& 0x3f).toInt64) ^^^ (-1 : Int64)))) ^^^ (-1 : Int64))) &&& ((-1 : Int64) <<< ((tk + (1 : Int32)) &&& 0x3f).toInt64)) &&& (-((nb &&& (((((List.getD hs (r).toNatClampNeg 0) &&& (((1 : Int64) <<< (tk &&& 0x3f).toInt64) ^^^ (-1 : Int64))) ||| ((List.getD hs (ci).toNatClampNeg 0) &&& (((1 : Int64) <<< (tk &&& 0x3f).toInt64) ^^^ (-1 : Int64)))) ||| ((List.getD hs (bi).toNatClampNeg 0) &&& (((1 : Int64) <<< (tk &&& 0x3f).toInt64) ^^^ (-1 : Int64)))) ^^^ (-1 : Int64))) &&& ((-1 : Int64) <<< ((tk + (1 : Int32)) &&& 0x3f).toInt64)))))), (.int r), (.ref hd)]))
  refine own_stJ X5 hx hZ e5 VH h_r.1 (by simp only [List.length_set, hl]; exact h_r.2) (hb hby d12_89) ?_
  intro T6 h6 X6 e6 W6 A6
  have f7 := F_held.other W6 (Or.inl nt0)
  have f8 := F_num.other W6 (Or.inl nt0)
  have Z6 := Nat.le_trans Z0 (Keep.of_wr W6).1
  have K6 := (Keep.refl h0 [hd]).wr W6 (Or.inl (List.mem_of_getElem? (i := 0) rfl))
  have N6 := Fr.snoc X6 N0 g_hd
  show own_Fin _ _ _ _ _ _ _ (T6.setTop (mkF m 90 #[.val (.ref t0), .val (.int r), .val (.int ci), .val (.int bi), .val (.int tk), .val (.long (((1 : Int64) <<< (tk &&& 0x3f).toInt64) ^^^ (-1 : Int64))), .second, .val (.long ((List.getD hs (r).toNatClampNeg 0) &&& (((1 : Int64) <<< (tk &&& 0x3f).toInt64) ^^^ (-1 : Int64)))), .second, .val (.long ((List.getD hs (ci).toNatClampNeg 0) &&& (((1 : Int64) <<< (tk &&& 0x3f).toInt64) ^^^ (-1 : Int64)))), .second, .val (.long ((List.getD hs (bi).toNatClampNeg 0) &&& (((1 : Int64) <<< (tk &&& 0x3f).toInt64) ^^^ (-1 : Int64)))), .second, .val (.long ((nb &&& (((((List.getD hs (r).toNatClampNeg 0) &&& (((1 : Int64) <<< (tk &&& 0x3f).toInt64) ^^^ (-1 : Int64))) ||| ((List.getD hs (ci).toNatClampNeg 0) &&& (((1 : Int64) <<< (tk &&& 0x3f).toInt64) ^^^ (-1 : Int64)))) ||| ((List.getD hs (bi).toNatClampNeg 0) &&& (((1 : Int64) <<< (tk &&& 0x3f).toInt64) ^^^ (-1 : Int64)))) ^^^ (-1 : Int64))) &&& ((-1 : Int64) <<< ((tk + (1 : Int32)) &&& 0x3f).toInt64))), .second, .val (.long (((nb &&& (((((List.getD hs (r).toNatClampNeg 0) &&& (((1 : Int64) <<< (tk &&& 0x3f).toInt64) ^^^ (-1 : Int64))) ||| ((List.getD hs (ci).toNatClampNeg 0) &&& (((1 : Int64) <<< (tk &&& 0x3f).toInt64) ^^^ (-1 : Int64)))) ||| ((List.getD hs (bi).toNatClampNeg 0) &&& (((1 : Int64) <<< (tk &&& 0x3f).toInt64) ^^^ (-1 : Int64)))) ^^^ (-1 : Int64))) &&& ((-1 : Int64) <<< ((tk + (1 : Int32)) &&& 0x3f).toInt64)) &&& (-((nb &&& (((((List.getD hs (r).toNatClampNeg 0) &&& (((1 : Int64) <<< (tk &&& 0x3f).toInt64) ^^^ (-1 : Int64))) ||| ((List.getD hs (ci).toNatClampNeg 0) &&& (((1 : Int64) <<< (tk &&& 0x3f).toInt64) ^^^ (-1 : Int64)))) ||| ((List.getD hs (bi).toNatClampNeg 0) &&& (((1 : Int64) <<< (tk &&& 0x3f).toInt64) ^^^ (-1 : Int64)))) ^^^ (-1 : Int64))) &&& ((-1 : Int64) <<< ((tk + (1 : Int32)) &&& 0x3f).toInt64))))), .second] []))
  refine own_go (fun _ kk => XS.aloadN X6.here hx rfl (hb hby d12_90) rfl rfl kk) ?_
  show own_Fin _ _ _ _ _ _ _ (T6.setTop (mkF m 91 #[.val (.ref t0), .val (.int r), .val (.int ci), .val (.int bi), .val (.int tk), .val (.long (((1 : Int64) <<< (tk &&& 0x3f).toInt64) ^^^ (-1 : Int64))), .second, .val (.long ((List.getD hs (r).toNatClampNeg 0) &&& (((1 : Int64) <<< (tk &&& 0x3f).toInt64) ^^^ (-1 : Int64)))), .second, .val (.long ((List.getD hs (ci).toNatClampNeg 0) &&& (((1 : Int64) <<< (tk &&& 0x3f).toInt64) ^^^ (-1 : Int64)))), .second, .val (.long ((List.getD hs (bi).toNatClampNeg 0) &&& (((1 : Int64) <<< (tk &&& 0x3f).toInt64) ^^^ (-1 : Int64)))), .second, .val (.long ((nb &&& (((((List.getD hs (r).toNatClampNeg 0) &&& (((1 : Int64) <<< (tk &&& 0x3f).toInt64) ^^^ (-1 : Int64))) ||| ((List.getD hs (ci).toNatClampNeg 0) &&& (((1 : Int64) <<< (tk &&& 0x3f).toInt64) ^^^ (-1 : Int64)))) ||| ((List.getD hs (bi).toNatClampNeg 0) &&& (((1 : Int64) <<< (tk &&& 0x3f).toInt64) ^^^ (-1 : Int64)))) ^^^ (-1 : Int64))) &&& ((-1 : Int64) <<< ((tk + (1 : Int32)) &&& 0x3f).toInt64))), .second, .val (.long (((nb &&& (((((List.getD hs (r).toNatClampNeg 0) &&& (((1 : Int64) <<< (tk &&& 0x3f).toInt64) ^^^ (-1 : Int64))) ||| ((List.getD hs (ci).toNatClampNeg 0) &&& (((1 : Int64) <<< (tk &&& 0x3f).toInt64) ^^^ (-1 : Int64)))) ||| ((List.getD hs (bi).toNatClampNeg 0) &&& (((1 : Int64) <<< (tk &&& 0x3f).toInt64) ^^^ (-1 : Int64)))) ^^^ (-1 : Int64))) &&& ((-1 : Int64) <<< ((tk + (1 : Int32)) &&& 0x3f).toInt64)) &&& (-((nb &&& (((((List.getD hs (r).toNatClampNeg 0) &&& (((1 : Int64) <<< (tk &&& 0x3f).toInt64) ^^^ (-1 : Int64))) ||| ((List.getD hs (ci).toNatClampNeg 0) &&& (((1 : Int64) <<< (tk &&& 0x3f).toInt64) ^^^ (-1 : Int64)))) ||| ((List.getD hs (bi).toNatClampNeg 0) &&& (((1 : Int64) <<< (tk &&& 0x3f).toInt64) ^^^ (-1 : Int64)))) ^^^ (-1 : Int64))) &&& ((-1 : Int64) <<< ((tk + (1 : Int32)) &&& 0x3f).toInt64))))), .second] [(.ref t0)]))
  refine own_getF X6 hx hZ hown (host := "") (Or.inl (hw _ (List.mem_of_getElem? (i := 75) rfl))) Via.refl e6 f7 (hb hby d12_91) ?_
  intro T10 X10 e10
  show own_Fin _ _ _ _ _ _ _ (T10.setTop (mkF m 94 #[.val (.ref t0), .val (.int r), .val (.int ci), .val (.int bi), .val (.int tk), .val (.long (((1 : Int64) <<< (tk &&& 0x3f).toInt64) ^^^ (-1 : Int64))), .second, .val (.long ((List.getD hs (r).toNatClampNeg 0) &&& (((1 : Int64) <<< (tk &&& 0x3f).toInt64) ^^^ (-1 : Int64)))), .second, .val (.long ((List.getD hs (ci).toNatClampNeg 0) &&& (((1 : Int64) <<< (tk &&& 0x3f).toInt64) ^^^ (-1 : Int64)))), .second, .val (.long ((List.getD hs (bi).toNatClampNeg 0) &&& (((1 : Int64) <<< (tk &&& 0x3f).toInt64) ^^^ (-1 : Int64)))), .second, .val (.long ((nb &&& (((((List.getD hs (r).toNatClampNeg 0) &&& (((1 : Int64) <<< (tk &&& 0x3f).toInt64) ^^^ (-1 : Int64))) ||| ((List.getD hs (ci).toNatClampNeg 0) &&& (((1 : Int64) <<< (tk &&& 0x3f).toInt64) ^^^ (-1 : Int64)))) ||| ((List.getD hs (bi).toNatClampNeg 0) &&& (((1 : Int64) <<< (tk &&& 0x3f).toInt64) ^^^ (-1 : Int64)))) ^^^ (-1 : Int64))) &&& ((-1 : Int64) <<< ((tk + (1 : Int32)) &&& 0x3f).toInt64))), .second, .val (.long (((nb &&& (((((List.getD hs (r).toNatClampNeg 0) &&& (((1 : Int64) <<< (tk &&& 0x3f).toInt64) ^^^ (-1 : Int64))) ||| ((List.getD hs (ci).toNatClampNeg 0) &&& (((1 : Int64) <<< (tk &&& 0x3f).toInt64) ^^^ (-1 : Int64)))) ||| ((List.getD hs (bi).toNatClampNeg 0) &&& (((1 : Int64) <<< (tk &&& 0x3f).toInt64) ^^^ (-1 : Int64)))) ^^^ (-1 : Int64))) &&& ((-1 : Int64) <<< ((tk + (1 : Int32)) &&& 0x3f).toInt64)) &&& (-((nb &&& (((((List.getD hs (r).toNatClampNeg 0) &&& (((1 : Int64) <<< (tk &&& 0x3f).toInt64) ^^^ (-1 : Int64))) ||| ((List.getD hs (ci).toNatClampNeg 0) &&& (((1 : Int64) <<< (tk &&& 0x3f).toInt64) ^^^ (-1 : Int64)))) ||| ((List.getD hs (bi).toNatClampNeg 0) &&& (((1 : Int64) <<< (tk &&& 0x3f).toInt64) ^^^ (-1 : Int64)))) ^^^ (-1 : Int64))) &&& ((-1 : Int64) <<< ((tk + (1 : Int32)) &&& 0x3f).toInt64))))), .second] [(.ref hd)]))
  refine own_go (fun _ kk => XS.iloadN X10.here hx rfl (hb hby d12_94) rfl (XS.lload X10.here hx rfl (hb hby d12_95) rfl (XS.lload X10.here hx rfl (hb hby d12_97) rfl (XS.lor X10.here hx rfl (hb hby d12_99) rfl kk)))) ?_
  show own_Fin _ _ _ _ _ _ _ (T10.setTop (mkF m 100 #[.val (.ref t0), .val (.int r), .val (.int ci), .val (.int bi), .val (.int tk), .val (.long (((1 : Int64) <<< (tk &&& 0x3f).toInt64) ^^^ (-1 : Int64))), .second, .val (.long ((List.getD hs (r).toNatClampNeg 0) &&& (((1 : Int64) <<< (tk &&& 0x3f).toInt64) ^^^ (-1 : Int64)))), .second, .val (.long ((List.getD hs (ci).toNatClampNeg 0) &&& (((1 : Int64) <<< (tk &&& 0x3f).toInt64) ^^^ (-1 : Int64)))), .second, .val (.long ((List.getD hs (bi).toNatClampNeg 0) &&& (((1 : Int64) <<< (tk &&& 0x3f).toInt64) ^^^ (-1 : Int64)))), .second, .val (.long ((nb &&& (((((List.getD hs (r).toNatClampNeg 0) &&& (((1 : Int64) <<< (tk &&& 0x3f).toInt64) ^^^ (-1 : Int64))) ||| ((List.getD hs (ci).toNatClampNeg 0) &&& (((1 : Int64) <<< (tk &&& 0x3f).toInt64) ^^^ (-1 : Int64)))) ||| ((List.getD hs (bi).toNatClampNeg 0) &&& (((1 : Int64) <<< (tk &&& 0x3f).toInt64) ^^^ (-1 : Int64)))) ^^^ (-1 : Int64))) &&& ((-1 : Int64) <<< ((tk + (1 : Int32)) &&& 0x3f).toInt64))), .second, .val (.long (((nb &&& (((((List.getD hs (r).toNatClampNeg 0) &&& (((1 : Int64) <<< (tk &&& 0x3f).toInt64) ^^^ (-1 : Int64))) ||| ((List.getD hs (ci).toNatClampNeg 0) &&& (((1 : Int64) <<< (tk &&& 0x3f).toInt64) ^^^ (-1 : Int64)))) ||| ((List.getD hs (bi).toNatClampNeg 0) &&& (((1 : Int64) <<< (tk &&& 0x3f).toInt64) ^^^ (-1 : Int64)))) ^^^ (-1 : Int64))) &&& ((-1 : Int64) <<< ((tk + (1 : Int32)) &&& 0x3f).toInt64)) &&& (-((nb &&& (((((List.getD hs (r).toNatClampNeg 0) &&& (((1 : Int64) <<< (tk &&& 0x3f).toInt64) ^^^ (-1 : Int64))) ||| ((List.getD hs (ci).toNatClampNeg 0) &&& (((1 : Int64) <<< (tk &&& 0x3f).toInt64) ^^^ (-1 : Int64)))) ||| ((List.getD hs (bi).toNatClampNeg 0) &&& (((1 : Int64) <<< (tk &&& 0x3f).toInt64) ^^^ (-1 : Int64)))) ^^^ (-1 : Int64))) &&& ((-1 : Int64) <<< ((tk + (1 : Int32)) &&& 0x3f).toInt64))))), .second] [(.long (((List.getD hs (ci).toNatClampNeg 0) &&& (((1 : Int64) <<< (tk &&& 0x3f).toInt64) ^^^ (-1 : Int64))) ||| (((nb &&& (((((List.getD hs (r).toNatClampNeg 0) &&& (((1 : Int64) <<< (tk &&& 0x3f).toInt64) ^^^ (-1 : Int64))) ||| ((List.getD hs (ci).toNatClampNeg 0) &&& (((1 : Int64) <<< (tk &&& 0x3f).toInt64) ^^^ (-1 : Int64)))) ||| ((List.getD hs (bi).toNatClampNeg 0) &&& (((1 : Int64) <<< (tk &&& 0x3f).toInt64) ^^^ (-1 : Int64)))) ^^^ (-1 : Int64))) &&& ((-1 : Int64) <<< ((tk + (1 : Int32)) &&& 0x3f).toInt64)) &&& (-((nb &&& (((((List.getD hs (r).toNatClampNeg 0) &&& (((1 : Int64) <<< (tk &&& 0x3f).toInt64) ^^^ (-1 : Int64))) ||| ((List.getD hs (ci).toNatClampNeg 0) &&& (((1 : Int64) <<< (tk &&& 0x3f).toInt64) ^^^ (-1 : Int64)))) ||| ((List.getD hs (bi).toNatClampNeg 0) &&& (((1 : Int64) <<< (tk &&& 0x3f).toInt64) ^^^ (-1 : Int64)))) ^^^ (-1 : Int64))) &&& ((-1 : Int64) <<< ((tk + (1 : Int32)) &&& 0x3f).toInt64)))))), (.int ci), (.ref hd)]))
  refine own_stJ X10 hx hZ e10 A6 h_ci.1 (by simp only [List.length_set, hl]; exact h_ci.2) (hb hby d12_100) ?_
  intro T11 h11 X11 e11 W11 A11
  have f12 := f7.other W11 (Or.inl nt0)
  have f13 := f8.other W11 (Or.inl nt0)
  have Z11 := Nat.le_trans Z6 (Keep.of_wr W11).1
  have K11 := K6.wr W11 (Or.inl (List.mem_of_getElem? (i := 0) rfl))
  have N11 := Fr.snoc X11 N6 g_hd
  show own_Fin _ _ _ _ _ _ _ (T11.setTop (mkF m 101 #[.val (.ref t0), .val (.int r), .val (.int ci), .val (.int bi), .val (.int tk), .val (.long (((1 : Int64) <<< (tk &&& 0x3f).toInt64) ^^^ (-1 : Int64))), .second, .val (.long ((List.getD hs (r).toNatClampNeg 0) &&& (((1 : Int64) <<< (tk &&& 0x3f).toInt64) ^^^ (-1 : Int64)))), .second, .val (.long ((List.getD hs (ci).toNatClampNeg 0) &&& (((1 : Int64) <<< (tk &&& 0x3f).toInt64) ^^^ (-1 : Int64)))), .second, .val (.long ((List.getD hs (bi).toNatClampNeg 0) &&& (((1 : Int64) <<< (tk &&& 0x3f).toInt64) ^^^ (-1 : Int64)))), .second, .val (.long ((nb &&& (((((List.getD hs (r).toNatClampNeg 0) &&& (((1 : Int64) <<< (tk &&& 0x3f).toInt64) ^^^ (-1 : Int64))) ||| ((List.getD hs (ci).toNatClampNeg 0) &&& (((1 : Int64) <<< (tk &&& 0x3f).toInt64) ^^^ (-1 : Int64)))) ||| ((List.getD hs (bi).toNatClampNeg 0) &&& (((1 : Int64) <<< (tk &&& 0x3f).toInt64) ^^^ (-1 : Int64)))) ^^^ (-1 : Int64))) &&& ((-1 : Int64) <<< ((tk + (1 : Int32)) &&& 0x3f).toInt64))), .second, .val (.long (((nb &&& (((((List.getD hs (r).toNatClampNeg 0) &&& (((1 : Int64) <<< (tk &&& 0x3f).toInt64) ^^^ (-1 : Int64))) ||| ((List.getD hs (ci).toNatClampNeg 0) &&& (((1 : Int64) <<< (tk &&& 0x3f).toInt64) ^^^ (-1 : Int64)))) ||| ((List.getD hs (bi).toNatClampNeg 0) &&& (((1 : Int64) <<< (tk &&& 0x3f).toInt64) ^^^ (-1 : Int64)))) ^^^ (-1 : Int64))) &&& ((-1 : Int64) <<< ((tk + (1 : Int32)) &&& 0x3f).toInt64)) &&& (-((nb &&& (((((List.getD hs (r).toNatClampNeg 0) &&& (((1 : Int64) <<< (tk &&& 0x3f).toInt64) ^^^ (-1 : Int64))) ||| ((List.getD hs (ci).toNatClampNeg 0) &&& (((1 : Int64) <<< (tk &&& 0x3f).toInt64) ^^^ (-1 : Int64)))) ||| ((List.getD hs (bi).toNatClampNeg 0) &&& (((1 : Int64) <<< (tk &&& 0x3f).toInt64) ^^^ (-1 : Int64)))) ^^^ (-1 : Int64))) &&& ((-1 : Int64) <<< ((tk + (1 : Int32)) &&& 0x3f).toInt64))))), .second] []))
  refine own_go (fun _ kk => XS.aloadN X11.here hx rfl (hb hby d12_101) rfl rfl kk) ?_
  show own_Fin _ _ _ _ _ _ _ (T11.setTop (mkF m 102 #[.val (.ref t0), .val (.int r), .val (.int ci), .val (.int bi), .val (.int tk), .val (.long (((1 : Int64) <<< (tk &&& 0x3f).toInt64) ^^^ (-1 : Int64))), .second, .val (.long ((List.getD hs (r).toNatClampNeg 0) &&& (((1 : Int64) <<< (tk &&& 0x3f).toInt64) ^^^ (-1 : Int64)))), .second, .val (.long ((List.getD hs (ci).toNatClampNeg 0) &&& (((1 : Int64) <<< (tk &&& 0x3f).toInt64) ^^^ (-1 : Int64)))), .second, .val (.long ((List.getD hs (bi).toNatClampNeg 0) &&& (((1 : Int64) <<< (tk &&& 0x3f).toInt64) ^^^ (-1 : Int64)))), .second, .val (.long ((nb &&& (((((List.getD hs (r).toNatClampNeg 0) &&& (((1 : Int64) <<< (tk &&& 0x3f).toInt64) ^^^ (-1 : Int64))) ||| ((List.getD hs (ci).toNatClampNeg 0) &&& (((1 : Int64) <<< (tk &&& 0x3f).toInt64) ^^^ (-1 : Int64)))) ||| ((List.getD hs (bi).toNatClampNeg 0) &&& (((1 : Int64) <<< (tk &&& 0x3f).toInt64) ^^^ (-1 : Int64)))) ^^^ (-1 : Int64))) &&& ((-1 : Int64) <<< ((tk + (1 : Int32)) &&& 0x3f).toInt64))), .second, .val (.long (((nb &&& (((((List.getD hs (r).toNatClampNeg 0) &&& (((1 : Int64) <<< (tk &&& 0x3f).toInt64) ^^^ (-1 : Int64))) ||| ((List.getD hs (ci).toNatClampNeg 0) &&& (((1 : Int64) <<< (tk &&& 0x3f).toInt64) ^^^ (-1 : Int64)))) ||| ((List.getD hs (bi).toNatClampNeg 0) &&& (((1 : Int64) <<< (tk &&& 0x3f).toInt64) ^^^ (-1 : Int64)))) ^^^ (-1 : Int64))) &&& ((-1 : Int64) <<< ((tk + (1 : Int32)) &&& 0x3f).toInt64)) &&& (-((nb &&& (((((List.getD hs (r).toNatClampNeg 0) &&& (((1 : Int64) <<< (tk &&& 0x3f).toInt64) ^^^ (-1 : Int64))) ||| ((List.getD hs (ci).toNatClampNeg 0) &&& (((1 : Int64) <<< (tk &&& 0x3f).toInt64) ^^^ (-1 : Int64)))) ||| ((List.getD hs (bi).toNatClampNeg 0) &&& (((1 : Int64) <<< (tk &&& 0x3f).toInt64) ^^^ (-1 : Int64)))) ^^^ (-1 : Int64))) &&& ((-1 : Int64) <<< ((tk + (1 : Int32)) &&& 0x3f).toInt64))))), .second] [(.ref t0)]))
  refine own_getF X11 hx hZ hown (host := "") (Or.inl (hw _ (List.mem_of_getElem? (i := 75) rfl))) Via.refl e11 f12 (hb hby d12_102) ?_
  intro T15 X15 e15
  show own_Fin _ _ _ _ _ _ _ (T15.setTop (mkF m 105 #[.val (.ref t0), .val (.int r), .val (.int ci), .val (.int bi), .val (.int tk), .val (.long (((1 : Int64) <<< (tk &&& 0x3f).toInt64) ^^^ (-1 : Int64))), .second, .val (.long ((List.getD hs (r).toNatClampNeg 0) &&& (((1 : Int64) <<< (tk &&& 0x3f).toInt64) ^^^ (-1 : Int64)))), .second, .val (.long ((List.getD hs (ci).toNatClampNeg 0) &&& (((1 : Int64) <<< (tk &&& 0x3f).toInt64) ^^^ (-1 : Int64)))), .second, .val (.long ((List.getD hs (bi).toNatClampNeg 0) &&& (((1 : Int64) <<< (tk &&& 0x3f).toInt64) ^^^ (-1 : Int64)))), .second, .val (.long ((nb &&& (((((List.getD hs (r).toNatClampNeg 0) &&& (((1 : Int64) <<< (tk &&& 0x3f).toInt64) ^^^ (-1 : Int64))) ||| ((List.getD hs (ci).toNatClampNeg 0) &&& (((1 : Int64) <<< (tk &&& 0x3f).toInt64) ^^^ (-1 : Int64)))) ||| ((List.getD hs (bi).toNatClampNeg 0) &&& (((1 : Int64) <<< (tk &&& 0x3f).toInt64) ^^^ (-1 : Int64)))) ^^^ (-1 : Int64))) &&& ((-1 : Int64) <<< ((tk + (1 : Int32)) &&& 0x3f).toInt64))), .second, .val (.long (((nb &&& (((((List.getD hs (r).toNatClampNeg 0) &&& (((1 : Int64) <<< (tk &&& 0x3f).toInt64) ^^^ (-1 : Int64))) ||| ((List.getD hs (ci).toNatClampNeg 0) &&& (((1 : Int64) <<< (tk &&& 0x3f).toInt64) ^^^ (-1 : Int64)))) ||| ((List.getD hs (bi).toNatClampNeg 0) &&& (((1 : Int64) <<< (tk &&& 0x3f).toInt64) ^^^ (-1 : Int64)))) ^^^ (-1 : Int64))) &&& ((-1 : Int64) <<< ((tk + (1 : Int32)) &&& 0x3f).toInt64)) &&& (-((nb &&& (((((List.getD hs (r).toNatClampNeg 0) &&& (((1 : Int64) <<< (tk &&& 0x3f).toInt64) ^^^ (-1 : Int64))) ||| ((List.getD hs (ci).toNatClampNeg 0) &&& (((1 : Int64) <<< (tk &&& 0x3f).toInt64) ^^^ (-1 : Int64)))) ||| ((List.getD hs (bi).toNatClampNeg 0) &&& (((1 : Int64) <<< (tk &&& 0x3f).toInt64) ^^^ (-1 : Int64)))) ^^^ (-1 : Int64))) &&& ((-1 : Int64) <<< ((tk + (1 : Int32)) &&& 0x3f).toInt64))))), .second] [(.ref hd)]))
  refine own_go (fun _ kk => XS.iloadN X15.here hx rfl (hb hby d12_105) rfl (XS.lload X15.here hx rfl (hb hby d12_106) rfl (XS.lload X15.here hx rfl (hb hby d12_108) rfl (XS.lor X15.here hx rfl (hb hby d12_110) rfl kk)))) ?_
  show own_Fin _ _ _ _ _ _ _ (T15.setTop (mkF m 111 #[.val (.ref t0), .val (.int r), .val (.int ci), .val (.int bi), .val (.int tk), .val (.long (((1 : Int64) <<< (tk &&& 0x3f).toInt64) ^^^ (-1 : Int64))), .second, .val (.long ((List.getD hs (r).toNatClampNeg 0) &&& (((1 : Int64) <<< (tk &&& 0x3f).toInt64) ^^^ (-1 : Int64)))), .second, .val (.long ((List.getD hs (ci).toNatClampNeg 0) &&& (((1 : Int64) <<< (tk &&& 0x3f).toInt64) ^^^ (-1 : Int64)))), .second, .val (.long ((List.getD hs (bi).toNatClampNeg 0) &&& (((1 : Int64) <<< (tk &&& 0x3f).toInt64) ^^^ (-1 : Int64)))), .second, .val (.long ((nb &&& (((((List.getD hs (r).toNatClampNeg 0) &&& (((1 : Int64) <<< (tk &&& 0x3f).toInt64) ^^^ (-1 : Int64))) ||| ((List.getD hs (ci).toNatClampNeg 0) &&& (((1 : Int64) <<< (tk &&& 0x3f).toInt64) ^^^ (-1 : Int64)))) ||| ((List.getD hs (bi).toNatClampNeg 0) &&& (((1 : Int64) <<< (tk &&& 0x3f).toInt64) ^^^ (-1 : Int64)))) ^^^ (-1 : Int64))) &&& ((-1 : Int64) <<< ((tk + (1 : Int32)) &&& 0x3f).toInt64))), .second, .val (.long (((nb &&& (((((List.getD hs (r).toNatClampNeg 0) &&& (((1 : Int64) <<< (tk &&& 0x3f).toInt64) ^^^ (-1 : Int64))) ||| ((List.getD hs (ci).toNatClampNeg 0) &&& (((1 : Int64) <<< (tk &&& 0x3f).toInt64) ^^^ (-1 : Int64)))) ||| ((List.getD hs (bi).toNatClampNeg 0) &&& (((1 : Int64) <<< (tk &&& 0x3f).toInt64) ^^^ (-1 : Int64)))) ^^^ (-1 : Int64))) &&& ((-1 : Int64) <<< ((tk + (1 : Int32)) &&& 0x3f).toInt64)) &&& (-((nb &&& (((((List.getD hs (r).toNatClampNeg 0) &&& (((1 : Int64) <<< (tk &&& 0x3f).toInt64) ^^^ (-1 : Int64))) ||| ((List.getD hs (ci).toNatClampNeg 0) &&& (((1 : Int64) <<< (tk &&& 0x3f).toInt64) ^^^ (-1 : Int64)))) ||| ((List.getD hs (bi).toNatClampNeg 0) &&& (((1 : Int64) <<< (tk &&& 0x3f).toInt64) ^^^ (-1 : Int64)))) ^^^ (-1 : Int64))) &&& ((-1 : Int64) <<< ((tk + (1 : Int32)) &&& 0x3f).toInt64))))), .second] [(.long (((List.getD hs (bi).toNatClampNeg 0) &&& (((1 : Int64) <<< (tk &&& 0x3f).toInt64) ^^^ (-1 : Int64))) ||| (((nb &&& (((((List.getD hs (r).toNatClampNeg 0) &&& (((1 : Int64) <<< (tk &&& 0x3f).toInt64) ^^^ (-1 : Int64))) ||| ((List.getD hs (ci).toNatClampNeg 0) &&& (((1 : Int64) <<< (tk &&& 0x3f).toInt64) ^^^ (-1 : Int64)))) ||| ((List.getD hs (bi).toNatClampNeg 0) &&& (((1 : Int64) <<< (tk &&& 0x3f).toInt64) ^^^ (-1 : Int64)))) ^^^ (-1 : Int64))) &&& ((-1 : Int64) <<< ((tk + (1 : Int32)) &&& 0x3f).toInt64)) &&& (-((nb &&& (((((List.getD hs (r).toNatClampNeg 0) &&& (((1 : Int64) <<< (tk &&& 0x3f).toInt64) ^^^ (-1 : Int64))) ||| ((List.getD hs (ci).toNatClampNeg 0) &&& (((1 : Int64) <<< (tk &&& 0x3f).toInt64) ^^^ (-1 : Int64)))) ||| ((List.getD hs (bi).toNatClampNeg 0) &&& (((1 : Int64) <<< (tk &&& 0x3f).toInt64) ^^^ (-1 : Int64)))) ^^^ (-1 : Int64))) &&& ((-1 : Int64) <<< ((tk + (1 : Int32)) &&& 0x3f).toInt64)))))), (.int bi), (.ref hd)]))
  refine own_stJ X15 hx hZ e15 A11 h_bi.1 (by simp only [List.length_set, hl]; exact h_bi.2) (hb hby d12_111) ?_
  intro T16 h16 X16 e16 W16 A16
  have f17 := f12.other W16 (Or.inl nt0)
  have f18 := f13.other W16 (Or.inl nt0)
  have Z16 := Nat.le_trans Z11 (Keep.of_wr W16).1
  have K16 := K11.wr W16 (Or.inl (List.mem_of_getElem? (i := 0) rfl))
  have N16 := Fr.snoc X16 N11 g_hd
  show own_Fin _ _ _ _ _ _ _ (T16.setTop (mkF m 112 #[.val (.ref t0), .val (.int r), .val (.int ci), .val (.int bi), .val (.int tk), .val (.long (((1 : Int64) <<< (tk &&& 0x3f).toInt64) ^^^ (-1 : Int64))), .second, .val (.long ((List.getD hs (r).toNatClampNeg 0) &&& (((1 : Int64) <<< (tk &&& 0x3f).toInt64) ^^^ (-1 : Int64)))), .second, .val (.long ((List.getD hs (ci).toNatClampNeg 0) &&& (((1 : Int64) <<< (tk &&& 0x3f).toInt64) ^^^ (-1 : Int64)))), .second, .val (.long ((List.getD hs (bi).toNatClampNeg 0) &&& (((1 : Int64) <<< (tk &&& 0x3f).toInt64) ^^^ (-1 : Int64)))), .second, .val (.long ((nb &&& (((((List.getD hs (r).toNatClampNeg 0) &&& (((1 : Int64) <<< (tk &&& 0x3f).toInt64) ^^^ (-1 : Int64))) ||| ((List.getD hs (ci).toNatClampNeg 0) &&& (((1 : Int64) <<< (tk &&& 0x3f).toInt64) ^^^ (-1 : Int64)))) ||| ((List.getD hs (bi).toNatClampNeg 0) &&& (((1 : Int64) <<< (tk &&& 0x3f).toInt64) ^^^ (-1 : Int64)))) ^^^ (-1 : Int64))) &&& ((-1 : Int64) <<< ((tk + (1 : Int32)) &&& 0x3f).toInt64))), .second, .val (.long (((nb &&& (((((List.getD hs (r).toNatClampNeg 0) &&& (((1 : Int64) <<< (tk &&& 0x3f).toInt64) ^^^ (-1 : Int64))) ||| ((List.getD hs (ci).toNatClampNeg 0) &&& (((1 : Int64) <<< (tk &&& 0x3f).toInt64) ^^^ (-1 : Int64)))) ||| ((List.getD hs (bi).toNatClampNeg 0) &&& (((1 : Int64) <<< (tk &&& 0x3f).toInt64) ^^^ (-1 : Int64)))) ^^^ (-1 : Int64))) &&& ((-1 : Int64) <<< ((tk + (1 : Int32)) &&& 0x3f).toInt64)) &&& (-((nb &&& (((((List.getD hs (r).toNatClampNeg 0) &&& (((1 : Int64) <<< (tk &&& 0x3f).toInt64) ^^^ (-1 : Int64))) ||| ((List.getD hs (ci).toNatClampNeg 0) &&& (((1 : Int64) <<< (tk &&& 0x3f).toInt64) ^^^ (-1 : Int64)))) ||| ((List.getD hs (bi).toNatClampNeg 0) &&& (((1 : Int64) <<< (tk &&& 0x3f).toInt64) ^^^ (-1 : Int64)))) ^^^ (-1 : Int64))) &&& ((-1 : Int64) <<< ((tk + (1 : Int32)) &&& 0x3f).toInt64))))), .second] []))
  refine own_go (fun _ kk => XS.lload X16.here hx rfl (hb hby d12_112) rfl kk) ?_
  show own_Fin _ _ _ _ _ _ _ (T16.setTop (mkF m 114 #[.val (.ref t0), .val (.int r), .val (.int ci), .val (.int bi), .val (.int tk), .val (.long (((1 : Int64) <<< (tk &&& 0x3f).toInt64) ^^^ (-1 : Int64))), .second, .val (.long ((List.getD hs (r).toNatClampNeg 0) &&& (((1 : Int64) <<< (tk &&& 0x3f).toInt64) ^^^ (-1 : Int64)))), .second, .val (.long ((List.getD hs (ci).toNatClampNeg 0) &&& (((1 : Int64) <<< (tk &&& 0x3f).toInt64) ^^^ (-1 : Int64)))), .second, .val (.long ((List.getD hs (bi).toNatClampNeg 0) &&& (((1 : Int64) <<< (tk &&& 0x3f).toInt64) ^^^ (-1 : Int64)))), .second, .val (.long ((nb &&& (((((List.getD hs (r).toNatClampNeg 0) &&& (((1 : Int64) <<< (tk &&& 0x3f).toInt64) ^^^ (-1 : Int64))) ||| ((List.getD hs (ci).toNatClampNeg 0) &&& (((1 : Int64) <<< (tk &&& 0x3f).toInt64) ^^^ (-1 : Int64)))) ||| ((List.getD hs (bi).toNatClampNeg 0) &&& (((1 : Int64) <<< (tk &&& 0x3f).toInt64) ^^^ (-1 : Int64)))) ^^^ (-1 : Int64))) &&& ((-1 : Int64) <<< ((tk + (1 : Int32)) &&& 0x3f).toInt64))), .second, .val (.long (((nb &&& (((((List.getD hs (r).toNatClampNeg 0) &&& (((1 : Int64) <<< (tk &&& 0x3f).toInt64) ^^^ (-1 : Int64))) ||| ((List.getD hs (ci).toNatClampNeg 0) &&& (((1 : Int64) <<< (tk &&& 0x3f).toInt64) ^^^ (-1 : Int64)))) ||| ((List.getD hs (bi).toNatClampNeg 0) &&& (((1 : Int64) <<< (tk &&& 0x3f).toInt64) ^^^ (-1 : Int64)))) ^^^ (-1 : Int64))) &&& ((-1 : Int64) <<< ((tk + (1 : Int32)) &&& 0x3f).toInt64)) &&& (-((nb &&& (((((List.getD hs (r).toNatClampNeg 0) &&& (((1 : Int64) <<< (tk &&& 0x3f).toInt64) ^^^ (-1 : Int64))) ||| ((List.getD hs (ci).toNatClampNeg 0) &&& (((1 : Int64) <<< (tk &&& 0x3f).toInt64) ^^^ (-1 : Int64)))) ||| ((List.getD hs (bi).toNatClampNeg 0) &&& (((1 : Int64) <<< (tk &&& 0x3f).toInt64) ^^^ (-1 : Int64)))) ^^^ (-1 : Int64))) &&& ((-1 : Int64) <<< ((tk + (1 : Int32)) &&& 0x3f).toInt64))))), .second] [(.long (((nb &&& (((((List.getD hs (r).toNatClampNeg 0) &&& (((1 : Int64) <<< (tk &&& 0x3f).toInt64) ^^^ (-1 : Int64))) ||| ((List.getD hs (ci).toNatClampNeg 0) &&& (((1 : Int64) <<< (tk &&& 0x3f).toInt64) ^^^ (-1 : Int64)))) ||| ((List.getD hs (bi).toNatClampNeg 0) &&& (((1 : Int64) <<< (tk &&& 0x3f).toInt64) ^^^ (-1 : Int64)))) ^^^ (-1 : Int64))) &&& ((-1 : Int64) <<< ((tk + (1 : Int32)) &&& 0x3f).toInt64)) &&& (-((nb &&& (((((List.getD hs (r).toNatClampNeg 0) &&& (((1 : Int64) <<< (tk &&& 0x3f).toInt64) ^^^ (-1 : Int64))) ||| ((List.getD hs (ci).toNatClampNeg 0) &&& (((1 : Int64) <<< (tk &&& 0x3f).toInt64) ^^^ (-1 : Int64)))) ||| ((List.getD hs (bi).toNatClampNeg 0) &&& (((1 : Int64) <<< (tk &&& 0x3f).toInt64) ^^^ (-1 : Int64)))) ^^^ (-1 : Int64))) &&& ((-1 : Int64) <<< ((tk + (1 : Int32)) &&& 0x3f).toInt64)))))]))
  exact own_retJ X16 hx hlk hret (hb hby d12_114) (by decide) (by decide) (by rw [e16]; exact ⟨rfl, N16, K16, A16⟩)

theorem own_asN {x : Int32} (h : ¬ x < 0) : x = Int32.ofNat x.toNatClampNeg := (back32 h).1.symm
def own_ok (x : Int32) (k : Nat) : Prop := ¬ x < 0 ∧ x.toNatClampNeg < k
theorem own_m31 (a : Int32) : (a &&& (2147483647 : Int32)).toInt = a.toInt % 2147483648 := Jvm.Kit.i32_mask a 2147483647 (k := 31) (by decide) (by decide)
theorem own_md (a k : Int32) (n : Int) (hk : k.toInt = n) (h0 : 0 < n) : ((a &&& (2147483647 : Int32)) % k).toInt = (a.toInt % 2147483648) % n := by
  rw [Jvm.Kit.i32_rem_nonneg (by rw [own_m31]; omega), own_m31, hk]
theorem own_cl (a k : Int32) (n : Nat) (hk : k.toInt = n) (h0 : 0 < n) : own_ok ((a &&& (2147483647 : Int32)) % k) n := by
  have e := own_md a k n hk (by omega)
  have h1 := Int.emod_nonneg (a.toInt % 2147483648) (show (n : Int) ≠ 0 by omega)
  have h2 := Int.emod_lt_of_pos (a.toInt % 2147483648) (show (0 : Int) < n by omega)
  have e0 : (0 : Int32).toInt = 0 := by decide
  constructor
  · rw [Int32.lt_iff_toInt_lt, e, e0]; omega
  · simp only [Int32.toNatClampNeg, e]; omega
theorem own_k15 (a : Int32) : own_ok (a &&& (15 : Int32)) 16 := by
  have e : (a &&& (15 : Int32)).toInt = a.toInt % 16 := Jvm.Kit.i32_mask a 15 (k := 4) (by decide) (by decide)
  have e0 : (0 : Int32).toInt = 0 := by decide
  constructor
  · rw [Int32.lt_iff_toInt_lt, e, e0]; omega
  · simp only [Int32.toNatClampNeg, e]; omega
theorem own_k63 (a : Int32) : own_ok (a &&& (63 : Int32)) 64 := by
  have e : (a &&& (63 : Int32)).toInt = a.toInt % 64 := Jvm.Kit.i32_mask a 63 (k := 6) (by decide) (by decide)
  have e0 : (0 : Int32).toInt = 0 := by decide
  constructor
  · rw [Int32.lt_iff_toInt_lt, e, e0]; omega
  · simp only [Int32.toNatClampNeg, e]; omega
theorem own_k3 (a : Int32) : own_ok ((a &&& (3 : Int32)) % (3 : Int32)) 3 := by
  have e : (a &&& (3 : Int32)).toInt = a.toInt % 4 := Jvm.Kit.i32_mask a 3 (k := 2) (by decide) (by decide)
  have e0 : (0 : Int32).toInt = 0 := by decide
  have e3 : (3 : Int32).toInt = 3 := by decide
  have e' : ((a &&& (3 : Int32)) % (3 : Int32)).toInt = (a.toInt % 4) % 3 := by rw [Jvm.Kit.i32_rem_nonneg (by rw [e]; omega), e, e3]
  constructor
  · rw [Int32.lt_iff_toInt_lt, e', e0]; omega
  · simp only [Int32.toNatClampNeg, e']; omega
theorem own_all {n : Nat} {P : Int32 → Prop} (h : ∀ k, k < n → P (Int32.ofNat k)) {x : Int32} (hx : own_ok x n) : P x := by rw [own_asN hx.1]; exact h _ hx.2
instance (x : Int32) (k : Nat) : Decidable (own_ok x k) := by unfold own_ok; infer_instance

theorem own_ui0 {x : Int32} (hx : own_ok x 16) : ¬ own_f11 x (0 : Int32) < 0 ∧ (own_f11 x (0 : Int32)).toNatClampNeg < 12 := own_all (P := fun x => own_ok (own_f11 x (0 : Int32)) 12) (by decide +kernel) hx
theorem own_ui1 {x : Int32} (hx : own_ok x 16) : ¬ own_f11 x (1 : Int32) < 0 ∧ (own_f11 x (1 : Int32)).toNatClampNeg < 12 := own_all (P := fun x => own_ok (own_f11 x (1 : Int32)) 12) (by decide +kernel) hx
theorem own_ui2 {x : Int32} (hx : own_ok x 16) : ¬ own_f11 x (2 : Int32) < 0 ∧ (own_f11 x (2 : Int32)).toNatClampNeg < 12 := own_all (P := fun x => own_ok (own_f11 x (2 : Int32)) 12) (by decide +kernel) hx
theorem own_x2 {x : Int32} (hx : own_ok x 16) : own_ok (x ^^^ (2 : Int32)) 16 := own_all (P := fun x => own_ok (x ^^^ (2 : Int32)) 16) (by decide +kernel) hx
theorem own_x8 {x : Int32} (hx : own_ok x 16) : own_ok (x ^^^ (8 : Int32)) 16 := own_all (P := fun x => own_ok (x ^^^ (8 : Int32)) 16) (by decide +kernel) hx
theorem own_x5 {x : Int32} (hx : own_ok x 16) : own_ok (x ^^^ (5 : Int32)) 16 := own_all (P := fun x => own_ok (x ^^^ (5 : Int32)) 16) (by decide +kernel) hx
theorem own_x3 {x : Int32} (hx : own_ok x 16) : own_ok (x ^^^ (3 : Int32)) 16 := own_all (P := fun x => own_ok (x ^^^ (3 : Int32)) 16) (by decide +kernel) hx
def own_Q0 (w : Option Value) (n0 : Nat) (v : Option Value) (h : Heap) (L : List Loc) : Prop := v = w ∧ Fr n0 L
def own_plc (hs : List Int64) (cell n : Int32) : List Int64 := if n = 0 then hs else own_pl2 hs cell ((1 : Int64) <<< (n &&& 0x3f).toInt64)
theorem own_plclen (hs : List Int64) (cell n : Int32) : (own_plc hs cell n).length = hs.length := by unfold own_plc; split; rfl; exact own_pllen2 _ _ _
theorem own_plc0 {hs : List Int64} {cell n : Int32} (h : n = 0) : own_plc hs cell n = hs := by unfold own_plc; rw [if_pos h]
theorem own_plc1 {hs : List Int64} {cell n : Int32} (h : ¬ n = 0) : own_plc hs cell n = own_pl2 hs cell ((1 : Int64) <<< (n &&& 0x3f).toInt64) := by unfold own_plc; rw [if_neg h]

theorem pd_0_0 : parseMethodDescriptor "(I)I" = some ⟨[.int], some .int⟩ := by decide +kernel
theorem pd_0_1 : parseMethodDescriptor "(I)V" = some ⟨[.int], none⟩ := by decide +kernel
theorem pd_0_2 : parseMethodDescriptor "(Lcom/example/onda/onda/sudoku/Geometry;)V" = some ⟨[(.object "com/example/onda/onda/sudoku/Geometry")], none⟩ := by decide +kernel
theorem pd_0_3 : parseMethodDescriptor "(II)I" = some ⟨[.int, .int], some .int⟩ := by decide +kernel
theorem pd_0_4 : parseMethodDescriptor "(IIII)J" = some ⟨[.int, .int, .int, .int], some .long⟩ := by decide +kernel
theorem pd_0_5 : parseMethodDescriptor "(I)J" = some ⟨[.int], some .long⟩ := by decide +kernel
theorem pd_0_6 : parseMethodDescriptor "(IIJ)Z" = some ⟨[.int, .int, .long], some .boolean⟩ := by decide +kernel
theorem pd_0_7 : parseMethodDescriptor "(II)Z" = some ⟨[.int, .int], some .boolean⟩ := by decide +kernel
theorem pd_0_8 : parseMethodDescriptor "(II)V" = some ⟨[.int, .int], none⟩ := by decide +kernel
theorem pn_0 : plainFor x = true := plainFor_of_name (by show plainName "com/example/onda/onda/sudoku/UnitsPlaceNextPinLaw" = true; first | (simp [plainName, overriddenIn]; done) | decide +kernel)
theorem ef_0 (m : MethodId) (x0 : Int32) (x1 : Int32) (x2 : Int32) (x3 : Int32) (x4 : Int32) (x5 : Int32) : entryFrame m #[(.int x0), (.int x1), (.int x2), (.int x3), (.int x4), (.int x5)] maxLocals = mkF m 0 #[.val (.int x0), .val (.int x1), .val (.int x2), .val (.int x3), .val (.int x4), .val (.int x5), .unset, .unset, .unset, .unset, .unset, .unset, .unset, .unset, .unset, .unset, .unset, .unset, .unset, .unset, .unset, .unset, .unset, .unset, .unset, .unset, .unset] [] := by first | (simp [entryFrame, mkF, argsToLocals, Value.category, maxLocals]; done) | rfl
def own_f0_504 (p0 : Int32) (p1 : Int32) (p2 : Int32) (p3 : Int32) (p4 : Int32) (p5 : Int32) (ce : Int32) (oo : Int32) (kd : Int32) (qq : Int32) (tk : Int32) (n2 : Int32) (n3 : Int32) (n4 : Int32) (n5 : Int32) (u1 : Int64) (u2 : Int64) (u3 : Int64) (u4 : Int64) (se : Int32) : Int32 :=
  if (own_f12 (((1 : Int64) <<< (((5 : Int32)) &&& 0x3f).toInt64) - (2 : Int64)) (own_plc (own_plc (own_plc (own_plc (own_plc (List.replicate 12 (0 : Int64)) ce tk) (ce ^^^ (2 : Int32)) n2) (ce ^^^ (8 : Int32)) n3) (ce ^^^ (5 : Int32)) n4) (ce ^^^ (3 : Int32)) n5) (own_f11 ce (0 : Int32)) (own_f11 ce (1 : Int32)) (own_f11 ce (2 : Int32)) tk) = (own_f13 (if (own_f14 (1 : Int32) tk ((((own_f13 n2) ||| (own_f13 n3)) ||| (own_f13 n4)) ||| (own_f13 n5))) = 0 then (if (own_f14 (2 : Int32) tk ((((own_f13 n2) ||| (own_f13 n3)) ||| (own_f13 n4)) ||| (own_f13 n5))) = 0 then (if (own_f14 (3 : Int32) tk ((((own_f13 n2) ||| (own_f13 n3)) ||| (own_f13 n4)) ||| (own_f13 n5))) = 0 then (if (own_f14 (4 : Int32) tk ((((own_f13 n2) ||| (own_f13 n3)) ||| (own_f13 n4)) ||| (own_f13 n5))) = 0 then (0 : Int32) else (4 : Int32)) else (3 : Int32)) else (2 : Int32)) else (1 : Int32))) then
    if (((u4.toUInt64 >>> (qq &&& 0x3f).toInt64.toUInt64).toInt64) &&& (1 : Int64)) = (0 : Int64) then
      if se = (0 : Int32) then
        (1 : Int32)
      else
        (0 : Int32)
    else
      if se = (1 : Int32) then
        (1 : Int32)
      else
        (0 : Int32)
  else
    (0 : Int32)
def own_f0_454 (p0 : Int32) (p1 : Int32) (p2 : Int32) (p3 : Int32) (p4 : Int32) (p5 : Int32) (ce : Int32) (oo : Int32) (kd : Int32) (qq : Int32) (tk : Int32) (n2 : Int32) (n3 : Int32) (n4 : Int32) (n5 : Int32) (u1 : Int64) (u2 : Int64) (u3 : Int64) (u4 : Int64) : Int32 :=
  if kd = 0 then
    own_f0_504 p0 p1 p2 p3 p4 p5 ce oo kd qq tk n2 n3 n4 n5 u1 u2 u3 u4 ((own_f15g2 (own_pn (own_plc (own_plc (own_plc (own_plc (own_plc (List.replicate 12 (0 : Int64)) ce tk) (ce ^^^ (2 : Int32)) n2) (ce ^^^ (8 : Int32)) n3) (ce ^^^ (5 : Int32)) n4) (ce ^^^ (3 : Int32)) n5) (own_f11 ce (0 : Int32)) (own_f11 ce (1 : Int32)) (own_f11 ce (2 : Int32)) tk (own_f12 (((1 : Int64) <<< (((5 : Int32)) &&& 0x3f).toInt64) - (2 : Int64)) (own_plc (own_plc (own_plc (own_plc (own_plc (List.replicate 12 (0 : Int64)) ce tk) (ce ^^^ (2 : Int32)) n2) (ce ^^^ (8 : Int32)) n3) (ce ^^^ (5 : Int32)) n4) (ce ^^^ (3 : Int32)) n5) (own_f11 ce (0 : Int32)) (own_f11 ce (1 : Int32)) (own_f11 ce (2 : Int32)) tk)) oo qq))
  else
    if kd = (1 : Int32) then
      own_f0_504 p0 p1 p2 p3 p4 p5 ce oo kd qq tk n2 n3 n4 n5 u1 u2 u3 u4 ((own_f17g2 (own_pn (own_plc (own_plc (own_plc (own_plc (own_plc (List.replicate 12 (0 : Int64)) ce tk) (ce ^^^ (2 : Int32)) n2) (ce ^^^ (8 : Int32)) n3) (ce ^^^ (5 : Int32)) n4) (ce ^^^ (3 : Int32)) n5) (own_f11 ce (0 : Int32)) (own_f11 ce (1 : Int32)) (own_f11 ce (2 : Int32)) tk (own_f12 (((1 : Int64) <<< (((5 : Int32)) &&& 0x3f).toInt64) - (2 : Int64)) (own_plc (own_plc (own_plc (own_plc (own_plc (List.replicate 12 (0 : Int64)) ce tk) (ce ^^^ (2 : Int32)) n2) (ce ^^^ (8 : Int32)) n3) (ce ^^^ (5 : Int32)) n4) (ce ^^^ (3 : Int32)) n5) (own_f11 ce (0 : Int32)) (own_f11 ce (1 : Int32)) (own_f11 ce (2 : Int32)) tk)) oo qq))
    else
      own_f0_504 p0 p1 p2 p3 p4 p5 ce oo kd qq tk n2 n3 n4 n5 u1 u2 u3 u4 ((own_f16g2 (own_pn (own_plc (own_plc (own_plc (own_plc (own_plc (List.replicate 12 (0 : Int64)) ce tk) (ce ^^^ (2 : Int32)) n2) (ce ^^^ (8 : Int32)) n3) (ce ^^^ (5 : Int32)) n4) (ce ^^^ (3 : Int32)) n5) (own_f11 ce (0 : Int32)) (own_f11 ce (1 : Int32)) (own_f11 ce (2 : Int32)) tk (own_f12 (((1 : Int64) <<< (((5 : Int32)) &&& 0x3f).toInt64) - (2 : Int64)) (own_plc (own_plc (own_plc (own_plc (own_plc (List.replicate 12 (0 : Int64)) ce tk) (ce ^^^ (2 : Int32)) n2) (ce ^^^ (8 : Int32)) n3) (ce ^^^ (5 : Int32)) n4) (ce ^^^ (3 : Int32)) n5) (own_f11 ce (0 : Int32)) (own_f11 ce (1 : Int32)) (own_f11 ce (2 : Int32)) tk)) oo qq))
def own_f0_430 (p0 : Int32) (p1 : Int32) (p2 : Int32) (p3 : Int32) (p4 : Int32) (p5 : Int32) (ce : Int32) (oo : Int32) (kd : Int32) (qq : Int32) (tk : Int32) (n2 : Int32) (n3 : Int32) (n4 : Int32) (n5 : Int32) (u1 : Int64) (u2 : Int64) (u3 : Int64) : Int32 :=
  if (own_f11 (ce ^^^ (3 : Int32)) kd) = (own_f11 oo kd) then
    own_f0_454 p0 p1 p2 p3 p4 p5 ce oo kd qq tk n2 n3 n4 n5 u1 u2 u3 ((u3 ||| (own_f13 n5)))
  else
    own_f0_454 p0 p1 p2 p3 p4 p5 ce oo kd qq tk n2 n3 n4 n5 u1 u2 u3 (u3)
def own_f0_406 (p0 : Int32) (p1 : Int32) (p2 : Int32) (p3 : Int32) (p4 : Int32) (p5 : Int32) (ce : Int32) (oo : Int32) (kd : Int32) (qq : Int32) (tk : Int32) (n2 : Int32) (n3 : Int32) (n4 : Int32) (n5 : Int32) (u1 : Int64) (u2 : Int64) : Int32 :=
  if (own_f11 (ce ^^^ (5 : Int32)) kd) = (own_f11 oo kd) then
    own_f0_430 p0 p1 p2 p3 p4 p5 ce oo kd qq tk n2 n3 n4 n5 u1 u2 ((u2 ||| (own_f13 n4)))
  else
    own_f0_430 p0 p1 p2 p3 p4 p5 ce oo kd qq tk n2 n3 n4 n5 u1 u2 (u2)
def own_f0_381 (p0 : Int32) (p1 : Int32) (p2 : Int32) (p3 : Int32) (p4 : Int32) (p5 : Int32) (ce : Int32) (oo : Int32) (kd : Int32) (qq : Int32) (tk : Int32) (n2 : Int32) (n3 : Int32) (n4 : Int32) (n5 : Int32) (u1 : Int64) : Int32 :=
  if (own_f11 (ce ^^^ (8 : Int32)) kd) = (own_f11 oo kd) then
    own_f0_406 p0 p1 p2 p3 p4 p5 ce oo kd qq tk n2 n3 n4 n5 u1 ((u1 ||| (own_f13 n3)))
  else
    own_f0_406 p0 p1 p2 p3 p4 p5 ce oo kd qq tk n2 n3 n4 n5 u1 (u1)
def own_f0_112 (p0 : Int32) (p1 : Int32) (p2 : Int32) (p3 : Int32) (p4 : Int32) (p5 : Int32) (ce : Int32) (oo : Int32) (kd : Int32) (qq : Int32) (tk : Int32) (n2 : Int32) (n3 : Int32) (n4 : Int32) (n5 : Int32) : Int32 :=
  if (own_f11 (ce ^^^ (2 : Int32)) kd) = (own_f11 oo kd) then
    own_f0_381 p0 p1 p2 p3 p4 p5 ce oo kd qq tk n2 n3 n4 n5 (((if (own_f11 ce kd) = (own_f11 oo kd) then ((0 : Int64) ||| (own_f13 (if (own_f14 (1 : Int32) tk ((((own_f13 n2) ||| (own_f13 n3)) ||| (own_f13 n4)) ||| (own_f13 n5))) = 0 then (if (own_f14 (2 : Int32) tk ((((own_f13 n2) ||| (own_f13 n3)) ||| (own_f13 n4)) ||| (own_f13 n5))) = 0 then (if (own_f14 (3 : Int32) tk ((((own_f13 n2) ||| (own_f13 n3)) ||| (own_f13 n4)) ||| (own_f13 n5))) = 0 then (if (own_f14 (4 : Int32) tk ((((own_f13 n2) ||| (own_f13 n3)) ||| (own_f13 n4)) ||| (own_f13 n5))) = 0 then (0 : Int32) else (4 : Int32)) else (3 : Int32)) else (2 : Int32)) else (1 : Int32)))) else (0 : Int64)) ||| (own_f13 n2)))
  else
    own_f0_381 p0 p1 p2 p3 p4 p5 ce oo kd qq tk n2 n3 n4 n5 ((if (own_f11 ce kd) = (own_f11 oo kd) then ((0 : Int64) ||| (own_f13 (if (own_f14 (1 : Int32) tk ((((own_f13 n2) ||| (own_f13 n3)) ||| (own_f13 n4)) ||| (own_f13 n5))) = 0 then (if (own_f14 (2 : Int32) tk ((((own_f13 n2) ||| (own_f13 n3)) ||| (own_f13 n4)) ||| (own_f13 n5))) = 0 then (if (own_f14 (3 : Int32) tk ((((own_f13 n2) ||| (own_f13 n3)) ||| (own_f13 n4)) ||| (own_f13 n5))) = 0 then (if (own_f14 (4 : Int32) tk ((((own_f13 n2) ||| (own_f13 n3)) ||| (own_f13 n4)) ||| (own_f13 n5))) = 0 then (0 : Int32) else (4 : Int32)) else (3 : Int32)) else (2 : Int32)) else (1 : Int32)))) else (0 : Int64)))
def own_f0 (p0 : Int32) (p1 : Int32) (p2 : Int32) (p3 : Int32) (p4 : Int32) (p5 : Int32) : Int32 :=
  if (own_f1 p5) = (own_f1 p1) then
    own_f0_112 p0 p1 p2 p3 p4 p5 ((p0 &&& (15 : Int32))) ((((p0.toUInt32 >>> ((4 : Int32) &&& 31).toUInt32).toInt32) &&& (15 : Int32))) (((((p0.toUInt32 >>> ((8 : Int32) &&& 31).toUInt32).toInt32) &&& (3 : Int32)) % (3 : Int32))) ((((p0.toUInt32 >>> ((10 : Int32) &&& 31).toUInt32).toInt32) &&& (63 : Int32))) ((own_f1 p1)) ((if (own_f1 p2) = (own_f1 p1) then (0 : Int32) else (own_f1 p2))) ((if (own_f1 p3) = (own_f1 p1) then (0 : Int32) else (own_f1 p3))) ((if (own_f1 p4) = (own_f1 p1) then (0 : Int32) else (own_f1 p4))) ((0 : Int32))
  else
    if (own_f1 p5) = (if (own_f1 p2) = (own_f1 p1) then (0 : Int32) else (own_f1 p2)) then
      own_f0_112 p0 p1 p2 p3 p4 p5 ((p0 &&& (15 : Int32))) ((((p0.toUInt32 >>> ((4 : Int32) &&& 31).toUInt32).toInt32) &&& (15 : Int32))) (((((p0.toUInt32 >>> ((8 : Int32) &&& 31).toUInt32).toInt32) &&& (3 : Int32)) % (3 : Int32))) ((((p0.toUInt32 >>> ((10 : Int32) &&& 31).toUInt32).toInt32) &&& (63 : Int32))) ((own_f1 p1)) ((if (own_f1 p2) = (own_f1 p1) then (0 : Int32) else (own_f1 p2))) ((if (own_f1 p3) = (own_f1 p1) then (0 : Int32) else (own_f1 p3))) ((if (own_f1 p4) = (own_f1 p1) then (0 : Int32) else (own_f1 p4))) ((0 : Int32))
    else
      own_f0_112 p0 p1 p2 p3 p4 p5 ((p0 &&& (15 : Int32))) ((((p0.toUInt32 >>> ((4 : Int32) &&& 31).toUInt32).toInt32) &&& (15 : Int32))) (((((p0.toUInt32 >>> ((8 : Int32) &&& 31).toUInt32).toInt32) &&& (3 : Int32)) % (3 : Int32))) ((((p0.toUInt32 >>> ((10 : Int32) &&& 31).toUInt32).toInt32) &&& (63 : Int32))) ((own_f1 p1)) ((if (own_f1 p2) = (own_f1 p1) then (0 : Int32) else (own_f1 p2))) ((if (own_f1 p3) = (own_f1 p1) then (0 : Int32) else (own_f1 p3))) ((if (own_f1 p4) = (own_f1 p1) then (0 : Int32) else (own_f1 p4))) ((own_f1 p5))
set_option maxRecDepth 65536 in
set_option maxHeartbeats 40000000 in
theorem rm0 (l : Launch) (Z : State) (a0 : Array Value) (hw : ∀ d ∈ tables_1, d.before a0 Z = true) (p0 : Int32) (p1 : Int32) (p2 : Int32) (p3 : Int32) (p4 : Int32) (p5 : Int32) (h0 : Heap) (n0 : Nat) (Z0 : n0 ≤ h0.size) :
    own_Met l x code maxLocals ret room_1 Z tables_1 #[(.int p0), (.int p1), (.int p2), (.int p3), (.int p4), (.int p5)] h0 (own_Q0 (some (.int (own_f0 p0 p1 p2 p3 p4 p5))) n0) := by
  refine own_enter pn_0 ?_
  intro p e s m below meth c s₁ hx hby hml hown hnm hret hlk hZ e0 X0
  rw [ef_0]
  have N0 := Fr.nil n0
  have hml : c.maxLocals = 27 := hml
  show own_Fin _ _ _ _ _ _ _ (s₁.setTop (mkF m 0 #[.val (.int p0), .val (.int p1), .val (.int p2), .val (.int p3), .val (.int p4), .val (.int p5), .unset, .unset, .unset, .unset, .unset, .unset, .unset, .unset, .unset, .unset, .unset, .unset, .unset, .unset, .unset, .unset, .unset, .unset, .unset, .unset, .unset] []))
  refine own_go (fun _ kk => XS.iloadN X0.here hx rfl (hb hby at_0) rfl (XS.bipush X0.here hx rfl (hb hby at_1) (XS.iand X0.here hx rfl (hb hby at_3) rfl (XS.istore X0.here hx rfl (hb hby at_4) rfl (l' := #[.val (.int p0), .val (.int p1), .val (.int p2), .val (.int p3), .val (.int p4), .val (.int p5), .val (.int (p0 &&& (15 : Int32))), .unset, .unset, .unset, .unset, .unset, .unset, .unset, .unset, .unset, .unset, .unset, .unset, .unset, .unset, .unset, .unset, .unset, .unset, .unset, .unset]) rfl (XS.iloadN X0.here hx rfl (hb hby at_6) rfl (XS.iconst X0.here hx rfl (hb hby at_7) (XS.iushr X0.here hx rfl (hb hby at_8) rfl (XS.bipush X0.here hx rfl (hb hby at_9) (XS.iand X0.here hx rfl (hb hby at_11) rfl (XS.istore X0.here hx rfl (hb hby at_12) rfl (l' := #[.val (.int p0), .val (.int p1), .val (.int p2), .val (.int p3), .val (.int p4), .val (.int p5), .val (.int (p0 &&& (15 : Int32))), .val (.int (((p0.toUInt32 >>> ((4 : Int32) &&& 31).toUInt32).toInt32) &&& (15 : Int32))), .unset, .unset, .unset, .unset, .unset, .unset, .unset, .unset, .unset, .unset, .unset, .unset, .unset, .unset, .unset, .unset, .unset, .unset, .unset]) rfl kk)))))))))) ?_
  show own_Fin _ _ _ _ _ _ _ (s₁.setTop (mkF m 14 #[.val (.int p0), .val (.int p1), .val (.int p2), .val (.int p3), .val (.int p4), .val (.int p5), .val (.int (p0 &&& (15 : Int32))), .val (.int (((p0.toUInt32 >>> ((4 : Int32) &&& 31).toUInt32).toInt32) &&& (15 : Int32))), .unset, .unset, .unset, .unset, .unset, .unset, .unset, .unset, .unset, .unset, .unset, .unset, .unset, .unset, .unset, .unset, .unset, .unset, .unset] []))
  refine own_go (fun _ kk => XS.iloadN X0.here hx rfl (hb hby at_14) rfl (XS.bipush X0.here hx rfl (hb hby at_15) (XS.iushr X0.here hx rfl (hb hby at_17) rfl (XS.iconst X0.here hx rfl (hb hby at_18) (XS.iand X0.here hx rfl (hb hby at_19) rfl (XS.iconst X0.here hx rfl (hb hby at_20) (iremM X0 hx rfl (hb hby at_21) rfl (by decide) (XS.istore X0.here hx rfl (hb hby at_22) rfl (l' := #[.val (.int p0), .val (.int p1), .val (.int p2), .val (.int p3), .val (.int p4), .val (.int p5), .val (.int (p0 &&& (15 : Int32))), .val (.int (((p0.toUInt32 >>> ((4 : Int32) &&& 31).toUInt32).toInt32) &&& (15 : Int32))), .val (.int ((((p0.toUInt32 >>> ((8 : Int32) &&& 31).toUInt32).toInt32) &&& (3 : Int32)) % (3 : Int32))), .unset, .unset, .unset, .unset, .unset, .unset, .unset, .unset, .unset, .unset, .unset, .unset, .unset, .unset, .unset, .unset, .unset, .unset]) rfl (XS.iloadN X0.here hx rfl (hb hby at_24) rfl (XS.bipush X0.here hx rfl (hb hby at_25) kk)))))))))) ?_
  show own_Fin _ _ _ _ _ _ _ (s₁.setTop (mkF m 27 #[.val (.int p0), .val (.int p1), .val (.int p2), .val (.int p3), .val (.int p4), .val (.int p5), .val (.int (p0 &&& (15 : Int32))), .val (.int (((p0.toUInt32 >>> ((4 : Int32) &&& 31).toUInt32).toInt32) &&& (15 : Int32))), .val (.int ((((p0.toUInt32 >>> ((8 : Int32) &&& 31).toUInt32).toInt32) &&& (3 : Int32)) % (3 : Int32))), .unset, .unset, .unset, .unset, .unset, .unset, .unset, .unset, .unset, .unset, .unset, .unset, .unset, .unset, .unset, .unset, .unset, .unset] [(.int (10 : Int32)), (.int p0)]))
  refine own_go (fun _ kk => XS.iushr X0.here hx rfl (hb hby at_27) rfl (XS.bipush X0.here hx rfl (hb hby at_28) (XS.iand X0.here hx rfl (hb hby at_30) rfl (XS.istore X0.here hx rfl (hb hby at_31) rfl (l' := #[.val (.int p0), .val (.int p1), .val (.int p2), .val (.int p3), .val (.int p4), .val (.int p5), .val (.int (p0 &&& (15 : Int32))), .val (.int (((p0.toUInt32 >>> ((4 : Int32) &&& 31).toUInt32).toInt32) &&& (15 : Int32))), .val (.int ((((p0.toUInt32 >>> ((8 : Int32) &&& 31).toUInt32).toInt32) &&& (3 : Int32)) % (3 : Int32))), .val (.int (((p0.toUInt32 >>> ((10 : Int32) &&& 31).toUInt32).toInt32) &&& (63 : Int32))), .unset, .unset, .unset, .unset, .unset, .unset, .unset, .unset, .unset, .unset, .unset, .unset, .unset, .unset, .unset, .unset, .unset]) rfl (XS.iloadN X0.here hx rfl (hb hby at_33) rfl kk))))) ?_
  show own_Fin _ _ _ _ _ _ _ (s₁.setTop (mkF m 34 #[.val (.int p0), .val (.int p1), .val (.int p2), .val (.int p3), .val (.int p4), .val (.int p5), .val (.int (p0 &&& (15 : Int32))), .val (.int (((p0.toUInt32 >>> ((4 : Int32) &&& 31).toUInt32).toInt32) &&& (15 : Int32))), .val (.int ((((p0.toUInt32 >>> ((8 : Int32) &&& 31).toUInt32).toInt32) &&& (3 : Int32)) % (3 : Int32))), .val (.int (((p0.toUInt32 >>> ((10 : Int32) &&& 31).toUInt32).toInt32) &&& (63 : Int32))), .unset, .unset, .unset, .unset, .unset, .unset, .unset, .unset, .unset, .unset, .unset, .unset, .unset, .unset, .unset, .unset, .unset] [(.int p1)]))
  refine own_callS X0 hx hZ hown (hw _ (List.mem_of_getElem? (i := 0) rfl)) (hw _ (List.mem_of_getElem? (i := 1) rfl)) (hw _ (List.mem_of_getElem? (i := 2) rfl)) (hw _ (List.mem_of_getElem? (i := 3) rfl)) (by decide) (rm1 l Z a0 hw p1 h0 n0 Z0) e0 (argsL := [(.int p1)]) (rest := []) rfl rfl (by rw [hml]; rfl) (lenOf pd_0_0 rfl) (hb hby at_34) (W := 0) (Nat.le_of_eq rfl) (by decide) (by decide) (by decide) (by decide) ?_
  rintro v1 T1 L1 X1 ⟨rfl, M1, e1⟩
  have N1 := Fr.app N0 M1
  show own_Fin _ _ _ _ _ _ _ (T1.setTop (mkF m 37 #[.val (.int p0), .val (.int p1), .val (.int p2), .val (.int p3), .val (.int p4), .val (.int p5), .val (.int (p0 &&& (15 : Int32))), .val (.int (((p0.toUInt32 >>> ((4 : Int32) &&& 31).toUInt32).toInt32) &&& (15 : Int32))), .val (.int ((((p0.toUInt32 >>> ((8 : Int32) &&& 31).toUInt32).toInt32) &&& (3 : Int32)) % (3 : Int32))), .val (.int (((p0.toUInt32 >>> ((10 : Int32) &&& 31).toUInt32).toInt32) &&& (63 : Int32))), .unset, .unset, .unset, .unset, .unset, .unset, .unset, .unset, .unset, .unset, .unset, .unset, .unset, .unset, .unset, .unset, .unset] [(.int (own_f1 p1))]))
  refine own_go (fun _ kk => XS.istore X1.here hx rfl (hb hby at_37) rfl (l' := #[.val (.int p0), .val (.int p1), .val (.int p2), .val (.int p3), .val (.int p4), .val (.int p5), .val (.int (p0 &&& (15 : Int32))), .val (.int (((p0.toUInt32 >>> ((4 : Int32) &&& 31).toUInt32).toInt32) &&& (15 : Int32))), .val (.int ((((p0.toUInt32 >>> ((8 : Int32) &&& 31).toUInt32).toInt32) &&& (3 : Int32)) % (3 : Int32))), .val (.int (((p0.toUInt32 >>> ((10 : Int32) &&& 31).toUInt32).toInt32) &&& (63 : Int32))), .val (.int (own_f1 p1)), .unset, .unset, .unset, .unset, .unset, .unset, .unset, .unset, .unset, .unset, .unset, .unset, .unset, .unset, .unset, .unset]) rfl (XS.iloadN X1.here hx rfl (hb hby at_39) rfl kk)) ?_
  show own_Fin _ _ _ _ _ _ _ (T1.setTop (mkF m 40 #[.val (.int p0), .val (.int p1), .val (.int p2), .val (.int p3), .val (.int p4), .val (.int p5), .val (.int (p0 &&& (15 : Int32))), .val (.int (((p0.toUInt32 >>> ((4 : Int32) &&& 31).toUInt32).toInt32) &&& (15 : Int32))), .val (.int ((((p0.toUInt32 >>> ((8 : Int32) &&& 31).toUInt32).toInt32) &&& (3 : Int32)) % (3 : Int32))), .val (.int (((p0.toUInt32 >>> ((10 : Int32) &&& 31).toUInt32).toInt32) &&& (63 : Int32))), .val (.int (own_f1 p1)), .unset, .unset, .unset, .unset, .unset, .unset, .unset, .unset, .unset, .unset, .unset, .unset, .unset, .unset, .unset, .unset] [(.int p2)]))
  refine own_callS X1 hx hZ hown (hw _ (List.mem_of_getElem? (i := 0) rfl)) (hw _ (List.mem_of_getElem? (i := 1) rfl)) (hw _ (List.mem_of_getElem? (i := 2) rfl)) (hw _ (List.mem_of_getElem? (i := 3) rfl)) (by decide) (rm1 l Z a0 hw p2 h0 n0 Z0) e1 (argsL := [(.int p2)]) (rest := []) rfl rfl (by rw [hml]; rfl) (lenOf pd_0_0 rfl) (hb hby at_40) (W := 0) (Nat.le_of_eq rfl) (by decide) (by decide) (by decide) (by decide) ?_
  rintro v2 T2 L2 X2 ⟨rfl, M2, e2⟩
  have N2 := Fr.app N1 M2
  show own_Fin _ _ _ _ _ _ _ (T2.setTop (mkF m 43 #[.val (.int p0), .val (.int p1), .val (.int p2), .val (.int p3), .val (.int p4), .val (.int p5), .val (.int (p0 &&& (15 : Int32))), .val (.int (((p0.toUInt32 >>> ((4 : Int32) &&& 31).toUInt32).toInt32) &&& (15 : Int32))), .val (.int ((((p0.toUInt32 >>> ((8 : Int32) &&& 31).toUInt32).toInt32) &&& (3 : Int32)) % (3 : Int32))), .val (.int (((p0.toUInt32 >>> ((10 : Int32) &&& 31).toUInt32).toInt32) &&& (63 : Int32))), .val (.int (own_f1 p1)), .unset, .unset, .unset, .unset, .unset, .unset, .unset, .unset, .unset, .unset, .unset, .unset, .unset, .unset, .unset, .unset] [(.int (own_f1 p2))]))
  refine own_go (fun _ kk => XS.istore X2.here hx rfl (hb hby at_43) rfl (l' := #[.val (.int p0), .val (.int p1), .val (.int p2), .val (.int p3), .val (.int p4), .val (.int p5), .val (.int (p0 &&& (15 : Int32))), .val (.int (((p0.toUInt32 >>> ((4 : Int32) &&& 31).toUInt32).toInt32) &&& (15 : Int32))), .val (.int ((((p0.toUInt32 >>> ((8 : Int32) &&& 31).toUInt32).toInt32) &&& (3 : Int32)) % (3 : Int32))), .val (.int (((p0.toUInt32 >>> ((10 : Int32) &&& 31).toUInt32).toInt32) &&& (63 : Int32))), .val (.int (own_f1 p1)), .val (.int (own_f1 p2)), .unset, .unset, .unset, .unset, .unset, .unset, .unset, .unset, .unset, .unset, .unset, .unset, .unset, .unset, .unset]) rfl (XS.iload X2.here hx rfl (hb hby at_45) rfl (XS.iload X2.here hx rfl (hb hby at_47) rfl kk))) ?_
  show own_Fin _ _ _ _ _ _ _ (T2.setTop (mkF m 49 #[.val (.int p0), .val (.int p1), .val (.int p2), .val (.int p3), .val (.int p4), .val (.int p5), .val (.int (p0 &&& (15 : Int32))), .val (.int (((p0.toUInt32 >>> ((4 : Int32) &&& 31).toUInt32).toInt32) &&& (15 : Int32))), .val (.int ((((p0.toUInt32 >>> ((8 : Int32) &&& 31).toUInt32).toInt32) &&& (3 : Int32)) % (3 : Int32))), .val (.int (((p0.toUInt32 >>> ((10 : Int32) &&& 31).toUInt32).toInt32) &&& (63 : Int32))), .val (.int (own_f1 p1)), .val (.int (own_f1 p2)), .unset, .unset, .unset, .unset, .unset, .unset, .unset, .unset, .unset, .unset, .unset, .unset, .unset, .unset, .unset] [(.int (own_f1 p1)), (.int (own_f1 p2))]))
  refine own_go (U' := T2.setTop (mkF m 55 #[.val (.int p0), .val (.int p1), .val (.int p2), .val (.int p3), .val (.int p4), .val (.int p5), .val (.int (p0 &&& (15 : Int32))), .val (.int (((p0.toUInt32 >>> ((4 : Int32) &&& 31).toUInt32).toInt32) &&& (15 : Int32))), .val (.int ((((p0.toUInt32 >>> ((8 : Int32) &&& 31).toUInt32).toInt32) &&& (3 : Int32)) % (3 : Int32))), .val (.int (((p0.toUInt32 >>> ((10 : Int32) &&& 31).toUInt32).toInt32) &&& (63 : Int32))), .val (.int (own_f1 p1)), .val (.int (if (own_f1 p2) = (own_f1 p1) then (0 : Int32) else (own_f1 p2))), .unset, .unset, .unset, .unset, .unset, .unset, .unset, .unset, .unset, .unset, .unset, .unset, .unset, .unset, .unset] [])) (fun t k => ?_) ?_
  · by_cases hd49 : (own_f1 p2) = (own_f1 p1)
    · simp only [if_pos hd49] at k
      refine XS.icmpNo X2.here hx rfl (hb hby at_49) rfl (XT.ii_ne_f hd49) (XS.iconst X2.here hx rfl (hb hby at_52) (XS.istore X2.here hx rfl (hb hby at_53) rfl (l' := #[.val (.int p0), .val (.int p1), .val (.int p2), .val (.int p3), .val (.int p4), .val (.int p5), .val (.int (p0 &&& (15 : Int32))), .val (.int (((p0.toUInt32 >>> ((4 : Int32) &&& 31).toUInt32).toInt32) &&& (15 : Int32))), .val (.int ((((p0.toUInt32 >>> ((8 : Int32) &&& 31).toUInt32).toInt32) &&& (3 : Int32)) % (3 : Int32))), .val (.int (((p0.toUInt32 >>> ((10 : Int32) &&& 31).toUInt32).toInt32) &&& (63 : Int32))), .val (.int (own_f1 p1)), .val (.int (0 : Int32)), .unset, .unset, .unset, .unset, .unset, .unset, .unset, .unset, .unset, .unset, .unset, .unset, .unset, .unset, .unset]) rfl ?_))
      show Steps p.tables e below (T2.setTop (mkF m 55 #[.val (.int p0), .val (.int p1), .val (.int p2), .val (.int p3), .val (.int p4), .val (.int p5), .val (.int (p0 &&& (15 : Int32))), .val (.int (((p0.toUInt32 >>> ((4 : Int32) &&& 31).toUInt32).toInt32) &&& (15 : Int32))), .val (.int ((((p0.toUInt32 >>> ((8 : Int32) &&& 31).toUInt32).toInt32) &&& (3 : Int32)) % (3 : Int32))), .val (.int (((p0.toUInt32 >>> ((10 : Int32) &&& 31).toUInt32).toInt32) &&& (63 : Int32))), .val (.int (own_f1 p1)), .val (.int (0 : Int32)), .unset, .unset, .unset, .unset, .unset, .unset, .unset, .unset, .unset, .unset, .unset, .unset, .unset, .unset, .unset] [])) _
      exact k
    · simp only [if_neg hd49] at k
      refine XS.icmpYes X2.here hx rfl (pc0 := 49) (pc' := 55) rfl (hb hby at_49) rfl (XT.ii_ne_t hd49) (by decide) (by decide) ?_
      show Steps p.tables e below (T2.setTop (mkF m 55 #[.val (.int p0), .val (.int p1), .val (.int p2), .val (.int p3), .val (.int p4), .val (.int p5), .val (.int (p0 &&& (15 : Int32))), .val (.int (((p0.toUInt32 >>> ((4 : Int32) &&& 31).toUInt32).toInt32) &&& (15 : Int32))), .val (.int ((((p0.toUInt32 >>> ((8 : Int32) &&& 31).toUInt32).toInt32) &&& (3 : Int32)) % (3 : Int32))), .val (.int (((p0.toUInt32 >>> ((10 : Int32) &&& 31).toUInt32).toInt32) &&& (63 : Int32))), .val (.int (own_f1 p1)), .val (.int (own_f1 p2)), .unset, .unset, .unset, .unset, .unset, .unset, .unset, .unset, .unset, .unset, .unset, .unset, .unset, .unset, .unset] [])) _
      exact k
  show own_Fin _ _ _ _ _ _ _ (T2.setTop (mkF m 55 #[.val (.int p0), .val (.int p1), .val (.int p2), .val (.int p3), .val (.int p4), .val (.int p5), .val (.int (p0 &&& (15 : Int32))), .val (.int (((p0.toUInt32 >>> ((4 : Int32) &&& 31).toUInt32).toInt32) &&& (15 : Int32))), .val (.int ((((p0.toUInt32 >>> ((8 : Int32) &&& 31).toUInt32).toInt32) &&& (3 : Int32)) % (3 : Int32))), .val (.int (((p0.toUInt32 >>> ((10 : Int32) &&& 31).toUInt32).toInt32) &&& (63 : Int32))), .val (.int (own_f1 p1)), .val (.int (if (own_f1 p2) = (own_f1 p1) then (0 : Int32) else (own_f1 p2))), .unset, .unset, .unset, .unset, .unset, .unset, .unset, .unset, .unset, .unset, .unset, .unset, .unset, .unset, .unset] []))
  refine own_go (fun _ kk => XS.iloadN X2.here hx rfl (hb hby at_55) rfl kk) ?_
  show own_Fin _ _ _ _ _ _ _ (T2.setTop (mkF m 56 #[.val (.int p0), .val (.int p1), .val (.int p2), .val (.int p3), .val (.int p4), .val (.int p5), .val (.int (p0 &&& (15 : Int32))), .val (.int (((p0.toUInt32 >>> ((4 : Int32) &&& 31).toUInt32).toInt32) &&& (15 : Int32))), .val (.int ((((p0.toUInt32 >>> ((8 : Int32) &&& 31).toUInt32).toInt32) &&& (3 : Int32)) % (3 : Int32))), .val (.int (((p0.toUInt32 >>> ((10 : Int32) &&& 31).toUInt32).toInt32) &&& (63 : Int32))), .val (.int (own_f1 p1)), .val (.int (if (own_f1 p2) = (own_f1 p1) then (0 : Int32) else (own_f1 p2))), .unset, .unset, .unset, .unset, .unset, .unset, .unset, .unset, .unset, .unset, .unset, .unset, .unset, .unset, .unset] [(.int p3)]))
  refine own_callS X2 hx hZ hown (hw _ (List.mem_of_getElem? (i := 0) rfl)) (hw _ (List.mem_of_getElem? (i := 1) rfl)) (hw _ (List.mem_of_getElem? (i := 2) rfl)) (hw _ (List.mem_of_getElem? (i := 3) rfl)) (by decide) (rm1 l Z a0 hw p3 h0 n0 Z0) e2 (argsL := [(.int p3)]) (rest := []) rfl rfl (by rw [hml]; rfl) (lenOf pd_0_0 rfl) (hb hby at_56) (W := 0) (Nat.le_of_eq rfl) (by decide) (by decide) (by decide) (by decide) ?_
  rintro v3 T3 L3 X3 ⟨rfl, M3, e3⟩
  have N3 := Fr.app N2 M3
  show own_Fin _ _ _ _ _ _ _ (T3.setTop (mkF m 59 #[.val (.int p0), .val (.int p1), .val (.int p2), .val (.int p3), .val (.int p4), .val (.int p5), .val (.int (p0 &&& (15 : Int32))), .val (.int (((p0.toUInt32 >>> ((4 : Int32) &&& 31).toUInt32).toInt32) &&& (15 : Int32))), .val (.int ((((p0.toUInt32 >>> ((8 : Int32) &&& 31).toUInt32).toInt32) &&& (3 : Int32)) % (3 : Int32))), .val (.int (((p0.toUInt32 >>> ((10 : Int32) &&& 31).toUInt32).toInt32) &&& (63 : Int32))), .val (.int (own_f1 p1)), .val (.int (if (own_f1 p2) = (own_f1 p1) then (0 : Int32) else (own_f1 p2))), .unset, .unset, .unset, .unset, .unset, .unset, .unset, .unset, .unset, .unset, .unset, .unset, .unset, .unset, .unset] [(.int (own_f1 p3))]))
  refine own_go (fun _ kk => XS.istore X3.here hx rfl (hb hby at_59) rfl (l' := #[.val (.int p0), .val (.int p1), .val (.int p2), .val (.int p3), .val (.int p4), .val (.int p5), .val (.int (p0 &&& (15 : Int32))), .val (.int (((p0.toUInt32 >>> ((4 : Int32) &&& 31).toUInt32).toInt32) &&& (15 : Int32))), .val (.int ((((p0.toUInt32 >>> ((8 : Int32) &&& 31).toUInt32).toInt32) &&& (3 : Int32)) % (3 : Int32))), .val (.int (((p0.toUInt32 >>> ((10 : Int32) &&& 31).toUInt32).toInt32) &&& (63 : Int32))), .val (.int (own_f1 p1)), .val (.int (if (own_f1 p2) = (own_f1 p1) then (0 : Int32) else (own_f1 p2))), .val (.int (own_f1 p3)), .unset, .unset, .unset, .unset, .unset, .unset, .unset, .unset, .unset, .unset, .unset, .unset, .unset, .unset]) rfl (XS.iload X3.here hx rfl (hb hby at_61) rfl (XS.iload X3.here hx rfl (hb hby at_63) rfl kk))) ?_
  show own_Fin _ _ _ _ _ _ _ (T3.setTop (mkF m 65 #[.val (.int p0), .val (.int p1), .val (.int p2), .val (.int p3), .val (.int p4), .val (.int p5), .val (.int (p0 &&& (15 : Int32))), .val (.int (((p0.toUInt32 >>> ((4 : Int32) &&& 31).toUInt32).toInt32) &&& (15 : Int32))), .val (.int ((((p0.toUInt32 >>> ((8 : Int32) &&& 31).toUInt32).toInt32) &&& (3 : Int32)) % (3 : Int32))), .val (.int (((p0.toUInt32 >>> ((10 : Int32) &&& 31).toUInt32).toInt32) &&& (63 : Int32))), .val (.int (own_f1 p1)), .val (.int (if (own_f1 p2) = (own_f1 p1) then (0 : Int32) else (own_f1 p2))), .val (.int (own_f1 p3)), .unset, .unset, .unset, .unset, .unset, .unset, .unset, .unset, .unset, .unset, .unset, .unset, .unset, .unset] [(.int (own_f1 p1)), (.int (own_f1 p3))]))
  refine own_go (U' := T3.setTop (mkF m 71 #[.val (.int p0), .val (.int p1), .val (.int p2), .val (.int p3), .val (.int p4), .val (.int p5), .val (.int (p0 &&& (15 : Int32))), .val (.int (((p0.toUInt32 >>> ((4 : Int32) &&& 31).toUInt32).toInt32) &&& (15 : Int32))), .val (.int ((((p0.toUInt32 >>> ((8 : Int32) &&& 31).toUInt32).toInt32) &&& (3 : Int32)) % (3 : Int32))), .val (.int (((p0.toUInt32 >>> ((10 : Int32) &&& 31).toUInt32).toInt32) &&& (63 : Int32))), .val (.int (own_f1 p1)), .val (.int (if (own_f1 p2) = (own_f1 p1) then (0 : Int32) else (own_f1 p2))), .val (.int (if (own_f1 p3) = (own_f1 p1) then (0 : Int32) else (own_f1 p3))), .unset, .unset, .unset, .unset, .unset, .unset, .unset, .unset, .unset, .unset, .unset, .unset, .unset, .unset] [])) (fun t k => ?_) ?_
  · by_cases hd65 : (own_f1 p3) = (own_f1 p1)
    · simp only [if_pos hd65] at k
      refine XS.icmpNo X3.here hx rfl (hb hby at_65) rfl (XT.ii_ne_f hd65) (XS.iconst X3.here hx rfl (hb hby at_68) (XS.istore X3.here hx rfl (hb hby at_69) rfl (l' := #[.val (.int p0), .val (.int p1), .val (.int p2), .val (.int p3), .val (.int p4), .val (.int p5), .val (.int (p0 &&& (15 : Int32))), .val (.int (((p0.toUInt32 >>> ((4 : Int32) &&& 31).toUInt32).toInt32) &&& (15 : Int32))), .val (.int ((((p0.toUInt32 >>> ((8 : Int32) &&& 31).toUInt32).toInt32) &&& (3 : Int32)) % (3 : Int32))), .val (.int (((p0.toUInt32 >>> ((10 : Int32) &&& 31).toUInt32).toInt32) &&& (63 : Int32))), .val (.int (own_f1 p1)), .val (.int (if (own_f1 p2) = (own_f1 p1) then (0 : Int32) else (own_f1 p2))), .val (.int (0 : Int32)), .unset, .unset, .unset, .unset, .unset, .unset, .unset, .unset, .unset, .unset, .unset, .unset, .unset, .unset]) rfl ?_))
      show Steps p.tables e below (T3.setTop (mkF m 71 #[.val (.int p0), .val (.int p1), .val (.int p2), .val (.int p3), .val (.int p4), .val (.int p5), .val (.int (p0 &&& (15 : Int32))), .val (.int (((p0.toUInt32 >>> ((4 : Int32) &&& 31).toUInt32).toInt32) &&& (15 : Int32))), .val (.int ((((p0.toUInt32 >>> ((8 : Int32) &&& 31).toUInt32).toInt32) &&& (3 : Int32)) % (3 : Int32))), .val (.int (((p0.toUInt32 >>> ((10 : Int32) &&& 31).toUInt32).toInt32) &&& (63 : Int32))), .val (.int (own_f1 p1)), .val (.int (if (own_f1 p2) = (own_f1 p1) then (0 : Int32) else (own_f1 p2))), .val (.int (0 : Int32)), .unset, .unset, .unset, .unset, .unset, .unset, .unset, .unset, .unset, .unset, .unset, .unset, .unset, .unset] [])) _
      exact k
    · simp only [if_neg hd65] at k
      refine XS.icmpYes X3.here hx rfl (pc0 := 65) (pc' := 71) rfl (hb hby at_65) rfl (XT.ii_ne_t hd65) (by decide) (by decide) ?_
      show Steps p.tables e below (T3.setTop (mkF m 71 #[.val (.int p0), .val (.int p1), .val (.int p2), .val (.int p3), .val (.int p4), .val (.int p5), .val (.int (p0 &&& (15 : Int32))), .val (.int (((p0.toUInt32 >>> ((4 : Int32) &&& 31).toUInt32).toInt32) &&& (15 : Int32))), .val (.int ((((p0.toUInt32 >>> ((8 : Int32) &&& 31).toUInt32).toInt32) &&& (3 : Int32)) % (3 : Int32))), .val (.int (((p0.toUInt32 >>> ((10 : Int32) &&& 31).toUInt32).toInt32) &&& (63 : Int32))), .val (.int (own_f1 p1)), .val (.int (if (own_f1 p2) = (own_f1 p1) then (0 : Int32) else (own_f1 p2))), .val (.int (own_f1 p3)), .unset, .unset, .unset, .unset, .unset, .unset, .unset, .unset, .unset, .unset, .unset, .unset, .unset, .unset] [])) _
      exact k
  show own_Fin _ _ _ _ _ _ _ (T3.setTop (mkF m 71 #[.val (.int p0), .val (.int p1), .val (.int p2), .val (.int p3), .val (.int p4), .val (.int p5), .val (.int (p0 &&& (15 : Int32))), .val (.int (((p0.toUInt32 >>> ((4 : Int32) &&& 31).toUInt32).toInt32) &&& (15 : Int32))), .val (.int ((((p0.toUInt32 >>> ((8 : Int32) &&& 31).toUInt32).toInt32) &&& (3 : Int32)) % (3 : Int32))), .val (.int (((p0.toUInt32 >>> ((10 : Int32) &&& 31).toUInt32).toInt32) &&& (63 : Int32))), .val (.int (own_f1 p1)), .val (.int (if (own_f1 p2) = (own_f1 p1) then (0 : Int32) else (own_f1 p2))), .val (.int (if (own_f1 p3) = (own_f1 p1) then (0 : Int32) else (own_f1 p3))), .unset, .unset, .unset, .unset, .unset, .unset, .unset, .unset, .unset, .unset, .unset, .unset, .unset, .unset] []))
  refine own_go (fun _ kk => XS.iload X3.here hx rfl (hb hby at_71) rfl kk) ?_
  show own_Fin _ _ _ _ _ _ _ (T3.setTop (mkF m 73 #[.val (.int p0), .val (.int p1), .val (.int p2), .val (.int p3), .val (.int p4), .val (.int p5), .val (.int (p0 &&& (15 : Int32))), .val (.int (((p0.toUInt32 >>> ((4 : Int32) &&& 31).toUInt32).toInt32) &&& (15 : Int32))), .val (.int ((((p0.toUInt32 >>> ((8 : Int32) &&& 31).toUInt32).toInt32) &&& (3 : Int32)) % (3 : Int32))), .val (.int (((p0.toUInt32 >>> ((10 : Int32) &&& 31).toUInt32).toInt32) &&& (63 : Int32))), .val (.int (own_f1 p1)), .val (.int (if (own_f1 p2) = (own_f1 p1) then (0 : Int32) else (own_f1 p2))), .val (.int (if (own_f1 p3) = (own_f1 p1) then (0 : Int32) else (own_f1 p3))), .unset, .unset, .unset, .unset, .unset, .unset, .unset, .unset, .unset, .unset, .unset, .unset, .unset, .unset] [(.int p4)]))
  refine own_callS X3 hx hZ hown (hw _ (List.mem_of_getElem? (i := 0) rfl)) (hw _ (List.mem_of_getElem? (i := 1) rfl)) (hw _ (List.mem_of_getElem? (i := 2) rfl)) (hw _ (List.mem_of_getElem? (i := 3) rfl)) (by decide) (rm1 l Z a0 hw p4 h0 n0 Z0) e3 (argsL := [(.int p4)]) (rest := []) rfl rfl (by rw [hml]; rfl) (lenOf pd_0_0 rfl) (hb hby at_73) (W := 0) (Nat.le_of_eq rfl) (by decide) (by decide) (by decide) (by decide) ?_
  rintro v4 T4 L4 X4 ⟨rfl, M4, e4⟩
  have N4 := Fr.app N3 M4
  show own_Fin _ _ _ _ _ _ _ (T4.setTop (mkF m 76 #[.val (.int p0), .val (.int p1), .val (.int p2), .val (.int p3), .val (.int p4), .val (.int p5), .val (.int (p0 &&& (15 : Int32))), .val (.int (((p0.toUInt32 >>> ((4 : Int32) &&& 31).toUInt32).toInt32) &&& (15 : Int32))), .val (.int ((((p0.toUInt32 >>> ((8 : Int32) &&& 31).toUInt32).toInt32) &&& (3 : Int32)) % (3 : Int32))), .val (.int (((p0.toUInt32 >>> ((10 : Int32) &&& 31).toUInt32).toInt32) &&& (63 : Int32))), .val (.int (own_f1 p1)), .val (.int (if (own_f1 p2) = (own_f1 p1) then (0 : Int32) else (own_f1 p2))), .val (.int (if (own_f1 p3) = (own_f1 p1) then (0 : Int32) else (own_f1 p3))), .unset, .unset, .unset, .unset, .unset, .unset, .unset, .unset, .unset, .unset, .unset, .unset, .unset, .unset] [(.int (own_f1 p4))]))
  refine own_go (fun _ kk => XS.istore X4.here hx rfl (hb hby at_76) rfl (l' := #[.val (.int p0), .val (.int p1), .val (.int p2), .val (.int p3), .val (.int p4), .val (.int p5), .val (.int (p0 &&& (15 : Int32))), .val (.int (((p0.toUInt32 >>> ((4 : Int32) &&& 31).toUInt32).toInt32) &&& (15 : Int32))), .val (.int ((((p0.toUInt32 >>> ((8 : Int32) &&& 31).toUInt32).toInt32) &&& (3 : Int32)) % (3 : Int32))), .val (.int (((p0.toUInt32 >>> ((10 : Int32) &&& 31).toUInt32).toInt32) &&& (63 : Int32))), .val (.int (own_f1 p1)), .val (.int (if (own_f1 p2) = (own_f1 p1) then (0 : Int32) else (own_f1 p2))), .val (.int (if (own_f1 p3) = (own_f1 p1) then (0 : Int32) else (own_f1 p3))), .val (.int (own_f1 p4)), .unset, .unset, .unset, .unset, .unset, .unset, .unset, .unset, .unset, .unset, .unset, .unset, .unset]) rfl (XS.iload X4.here hx rfl (hb hby at_78) rfl (XS.iload X4.here hx rfl (hb hby at_80) rfl kk))) ?_
  show own_Fin _ _ _ _ _ _ _ (T4.setTop (mkF m 82 #[.val (.int p0), .val (.int p1), .val (.int p2), .val (.int p3), .val (.int p4), .val (.int p5), .val (.int (p0 &&& (15 : Int32))), .val (.int (((p0.toUInt32 >>> ((4 : Int32) &&& 31).toUInt32).toInt32) &&& (15 : Int32))), .val (.int ((((p0.toUInt32 >>> ((8 : Int32) &&& 31).toUInt32).toInt32) &&& (3 : Int32)) % (3 : Int32))), .val (.int (((p0.toUInt32 >>> ((10 : Int32) &&& 31).toUInt32).toInt32) &&& (63 : Int32))), .val (.int (own_f1 p1)), .val (.int (if (own_f1 p2) = (own_f1 p1) then (0 : Int32) else (own_f1 p2))), .val (.int (if (own_f1 p3) = (own_f1 p1) then (0 : Int32) else (own_f1 p3))), .val (.int (own_f1 p4)), .unset, .unset, .unset, .unset, .unset, .unset, .unset, .unset, .unset, .unset, .unset, .unset, .unset] [(.int (own_f1 p1)), (.int (own_f1 p4))]))
  refine own_go (U' := T4.setTop (mkF m 88 #[.val (.int p0), .val (.int p1), .val (.int p2), .val (.int p3), .val (.int p4), .val (.int p5), .val (.int (p0 &&& (15 : Int32))), .val (.int (((p0.toUInt32 >>> ((4 : Int32) &&& 31).toUInt32).toInt32) &&& (15 : Int32))), .val (.int ((((p0.toUInt32 >>> ((8 : Int32) &&& 31).toUInt32).toInt32) &&& (3 : Int32)) % (3 : Int32))), .val (.int (((p0.toUInt32 >>> ((10 : Int32) &&& 31).toUInt32).toInt32) &&& (63 : Int32))), .val (.int (own_f1 p1)), .val (.int (if (own_f1 p2) = (own_f1 p1) then (0 : Int32) else (own_f1 p2))), .val (.int (if (own_f1 p3) = (own_f1 p1) then (0 : Int32) else (own_f1 p3))), .val (.int (if (own_f1 p4) = (own_f1 p1) then (0 : Int32) else (own_f1 p4))), .unset, .unset, .unset, .unset, .unset, .unset, .unset, .unset, .unset, .unset, .unset, .unset, .unset] [])) (fun t k => ?_) ?_
  · by_cases hd82 : (own_f1 p4) = (own_f1 p1)
    · simp only [if_pos hd82] at k
      refine XS.icmpNo X4.here hx rfl (hb hby at_82) rfl (XT.ii_ne_f hd82) (XS.iconst X4.here hx rfl (hb hby at_85) (XS.istore X4.here hx rfl (hb hby at_86) rfl (l' := #[.val (.int p0), .val (.int p1), .val (.int p2), .val (.int p3), .val (.int p4), .val (.int p5), .val (.int (p0 &&& (15 : Int32))), .val (.int (((p0.toUInt32 >>> ((4 : Int32) &&& 31).toUInt32).toInt32) &&& (15 : Int32))), .val (.int ((((p0.toUInt32 >>> ((8 : Int32) &&& 31).toUInt32).toInt32) &&& (3 : Int32)) % (3 : Int32))), .val (.int (((p0.toUInt32 >>> ((10 : Int32) &&& 31).toUInt32).toInt32) &&& (63 : Int32))), .val (.int (own_f1 p1)), .val (.int (if (own_f1 p2) = (own_f1 p1) then (0 : Int32) else (own_f1 p2))), .val (.int (if (own_f1 p3) = (own_f1 p1) then (0 : Int32) else (own_f1 p3))), .val (.int (0 : Int32)), .unset, .unset, .unset, .unset, .unset, .unset, .unset, .unset, .unset, .unset, .unset, .unset, .unset]) rfl ?_))
      show Steps p.tables e below (T4.setTop (mkF m 88 #[.val (.int p0), .val (.int p1), .val (.int p2), .val (.int p3), .val (.int p4), .val (.int p5), .val (.int (p0 &&& (15 : Int32))), .val (.int (((p0.toUInt32 >>> ((4 : Int32) &&& 31).toUInt32).toInt32) &&& (15 : Int32))), .val (.int ((((p0.toUInt32 >>> ((8 : Int32) &&& 31).toUInt32).toInt32) &&& (3 : Int32)) % (3 : Int32))), .val (.int (((p0.toUInt32 >>> ((10 : Int32) &&& 31).toUInt32).toInt32) &&& (63 : Int32))), .val (.int (own_f1 p1)), .val (.int (if (own_f1 p2) = (own_f1 p1) then (0 : Int32) else (own_f1 p2))), .val (.int (if (own_f1 p3) = (own_f1 p1) then (0 : Int32) else (own_f1 p3))), .val (.int (0 : Int32)), .unset, .unset, .unset, .unset, .unset, .unset, .unset, .unset, .unset, .unset, .unset, .unset, .unset] [])) _
      exact k
    · simp only [if_neg hd82] at k
      refine XS.icmpYes X4.here hx rfl (pc0 := 82) (pc' := 88) rfl (hb hby at_82) rfl (XT.ii_ne_t hd82) (by decide) (by decide) ?_
      show Steps p.tables e below (T4.setTop (mkF m 88 #[.val (.int p0), .val (.int p1), .val (.int p2), .val (.int p3), .val (.int p4), .val (.int p5), .val (.int (p0 &&& (15 : Int32))), .val (.int (((p0.toUInt32 >>> ((4 : Int32) &&& 31).toUInt32).toInt32) &&& (15 : Int32))), .val (.int ((((p0.toUInt32 >>> ((8 : Int32) &&& 31).toUInt32).toInt32) &&& (3 : Int32)) % (3 : Int32))), .val (.int (((p0.toUInt32 >>> ((10 : Int32) &&& 31).toUInt32).toInt32) &&& (63 : Int32))), .val (.int (own_f1 p1)), .val (.int (if (own_f1 p2) = (own_f1 p1) then (0 : Int32) else (own_f1 p2))), .val (.int (if (own_f1 p3) = (own_f1 p1) then (0 : Int32) else (own_f1 p3))), .val (.int (own_f1 p4)), .unset, .unset, .unset, .unset, .unset, .unset, .unset, .unset, .unset, .unset, .unset, .unset, .unset] [])) _
      exact k
  show own_Fin _ _ _ _ _ _ _ (T4.setTop (mkF m 88 #[.val (.int p0), .val (.int p1), .val (.int p2), .val (.int p3), .val (.int p4), .val (.int p5), .val (.int (p0 &&& (15 : Int32))), .val (.int (((p0.toUInt32 >>> ((4 : Int32) &&& 31).toUInt32).toInt32) &&& (15 : Int32))), .val (.int ((((p0.toUInt32 >>> ((8 : Int32) &&& 31).toUInt32).toInt32) &&& (3 : Int32)) % (3 : Int32))), .val (.int (((p0.toUInt32 >>> ((10 : Int32) &&& 31).toUInt32).toInt32) &&& (63 : Int32))), .val (.int (own_f1 p1)), .val (.int (if (own_f1 p2) = (own_f1 p1) then (0 : Int32) else (own_f1 p2))), .val (.int (if (own_f1 p3) = (own_f1 p1) then (0 : Int32) else (own_f1 p3))), .val (.int (if (own_f1 p4) = (own_f1 p1) then (0 : Int32) else (own_f1 p4))), .unset, .unset, .unset, .unset, .unset, .unset, .unset, .unset, .unset, .unset, .unset, .unset, .unset] []))
  refine own_go (fun _ kk => XS.iload X4.here hx rfl (hb hby at_88) rfl kk) ?_
  show own_Fin _ _ _ _ _ _ _ (T4.setTop (mkF m 90 #[.val (.int p0), .val (.int p1), .val (.int p2), .val (.int p3), .val (.int p4), .val (.int p5), .val (.int (p0 &&& (15 : Int32))), .val (.int (((p0.toUInt32 >>> ((4 : Int32) &&& 31).toUInt32).toInt32) &&& (15 : Int32))), .val (.int ((((p0.toUInt32 >>> ((8 : Int32) &&& 31).toUInt32).toInt32) &&& (3 : Int32)) % (3 : Int32))), .val (.int (((p0.toUInt32 >>> ((10 : Int32) &&& 31).toUInt32).toInt32) &&& (63 : Int32))), .val (.int (own_f1 p1)), .val (.int (if (own_f1 p2) = (own_f1 p1) then (0 : Int32) else (own_f1 p2))), .val (.int (if (own_f1 p3) = (own_f1 p1) then (0 : Int32) else (own_f1 p3))), .val (.int (if (own_f1 p4) = (own_f1 p1) then (0 : Int32) else (own_f1 p4))), .unset, .unset, .unset, .unset, .unset, .unset, .unset, .unset, .unset, .unset, .unset, .unset, .unset] [(.int p5)]))
  refine own_callS X4 hx hZ hown (hw _ (List.mem_of_getElem? (i := 0) rfl)) (hw _ (List.mem_of_getElem? (i := 1) rfl)) (hw _ (List.mem_of_getElem? (i := 2) rfl)) (hw _ (List.mem_of_getElem? (i := 3) rfl)) (by decide) (rm1 l Z a0 hw p5 h0 n0 Z0) e4 (argsL := [(.int p5)]) (rest := []) rfl rfl (by rw [hml]; rfl) (lenOf pd_0_0 rfl) (hb hby at_90) (W := 0) (Nat.le_of_eq rfl) (by decide) (by decide) (by decide) (by decide) ?_
  rintro v5 T5 L5 X5 ⟨rfl, M5, e5⟩
  have N5 := Fr.app N4 M5
  show own_Fin _ _ _ _ _ _ _ (T5.setTop (mkF m 93 #[.val (.int p0), .val (.int p1), .val (.int p2), .val (.int p3), .val (.int p4), .val (.int p5), .val (.int (p0 &&& (15 : Int32))), .val (.int (((p0.toUInt32 >>> ((4 : Int32) &&& 31).toUInt32).toInt32) &&& (15 : Int32))), .val (.int ((((p0.toUInt32 >>> ((8 : Int32) &&& 31).toUInt32).toInt32) &&& (3 : Int32)) % (3 : Int32))), .val (.int (((p0.toUInt32 >>> ((10 : Int32) &&& 31).toUInt32).toInt32) &&& (63 : Int32))), .val (.int (own_f1 p1)), .val (.int (if (own_f1 p2) = (own_f1 p1) then (0 : Int32) else (own_f1 p2))), .val (.int (if (own_f1 p3) = (own_f1 p1) then (0 : Int32) else (own_f1 p3))), .val (.int (if (own_f1 p4) = (own_f1 p1) then (0 : Int32) else (own_f1 p4))), .unset, .unset, .unset, .unset, .unset, .unset, .unset, .unset, .unset, .unset, .unset, .unset, .unset] [(.int (own_f1 p5))]))
  refine own_go (fun _ kk => XS.istore X5.here hx rfl (hb hby at_93) rfl (l' := #[.val (.int p0), .val (.int p1), .val (.int p2), .val (.int p3), .val (.int p4), .val (.int p5), .val (.int (p0 &&& (15 : Int32))), .val (.int (((p0.toUInt32 >>> ((4 : Int32) &&& 31).toUInt32).toInt32) &&& (15 : Int32))), .val (.int ((((p0.toUInt32 >>> ((8 : Int32) &&& 31).toUInt32).toInt32) &&& (3 : Int32)) % (3 : Int32))), .val (.int (((p0.toUInt32 >>> ((10 : Int32) &&& 31).toUInt32).toInt32) &&& (63 : Int32))), .val (.int (own_f1 p1)), .val (.int (if (own_f1 p2) = (own_f1 p1) then (0 : Int32) else (own_f1 p2))), .val (.int (if (own_f1 p3) = (own_f1 p1) then (0 : Int32) else (own_f1 p3))), .val (.int (if (own_f1 p4) = (own_f1 p1) then (0 : Int32) else (own_f1 p4))), .val (.int (own_f1 p5)), .unset, .unset, .unset, .unset, .unset, .unset, .unset, .unset, .unset, .unset, .unset, .unset]) rfl kk) ?_
  show own_Fin _ _ _ _ _ _ _ (T5.setTop (mkF m 95 #[.val (.int p0), .val (.int p1), .val (.int p2), .val (.int p3), .val (.int p4), .val (.int p5), .val (.int (p0 &&& (15 : Int32))), .val (.int (((p0.toUInt32 >>> ((4 : Int32) &&& 31).toUInt32).toInt32) &&& (15 : Int32))), .val (.int ((((p0.toUInt32 >>> ((8 : Int32) &&& 31).toUInt32).toInt32) &&& (3 : Int32)) % (3 : Int32))), .val (.int (((p0.toUInt32 >>> ((10 : Int32) &&& 31).toUInt32).toInt32) &&& (63 : Int32))), .val (.int (own_f1 p1)), .val (.int (if (own_f1 p2) = (own_f1 p1) then (0 : Int32) else (own_f1 p2))), .val (.int (if (own_f1 p3) = (own_f1 p1) then (0 : Int32) else (own_f1 p3))), .val (.int (if (own_f1 p4) = (own_f1 p1) then (0 : Int32) else (own_f1 p4))), .val (.int (own_f1 p5)), .unset, .unset, .unset, .unset, .unset, .unset, .unset, .unset, .unset, .unset, .unset, .unset] []))
  have J112 : ∀ (TJ112 : State) (locsJ112 : List Loc) (ce : Int32) (oo : Int32) (kd : Int32) (qq : Int32) (tk : Int32) (n2 : Int32) (n3 : Int32) (n4 : Int32) (n5 : Int32), Stand p l e room_1 s m #[(.int p0), (.int p1), (.int p2), (.int p3), (.int p4), (.int p5)] below meth c TJ112 locsJ112 0 0 → Fr n0 locsJ112 → TJ112.heap = h0 → (own_f0 p0 p1 p2 p3 p4 p5) = own_f0_112 p0 p1 p2 p3 p4 p5 ce oo kd qq tk n2 n3 n4 n5 → (own_ok ce 16) → (own_ok oo 16) → own_Fin p e below s (own_Q0 (some (.int (own_f0 p0 p1 p2 p3 p4 p5))) n0) room_1.cells room_1.slots (TJ112.setTop (mkF m 112 #[.val (.int p0), .val (.int p1), .val (.int p2), .val (.int p3), .val (.int p4), .val (.int p5), .val (.int ce), .val (.int oo), .val (.int kd), .val (.int qq), .val (.int tk), .val (.int n2), .val (.int n3), .val (.int n4), .val (.int n5), .unset, .unset, .unset, .unset, .unset, .unset, .unset, .unset, .unset, .unset, .unset, .unset] [])) := by
    intro TJ112 locsJ112 ce oo kd qq tk n2 n3 n4 n5 XJ112 NJ112 eJ112 hjJ112 h_ce h_oo
    refine own_new XJ112 hx hZ hown (hw _ (List.mem_of_getElem? (i := 5) rfl)) (hw _ (List.mem_of_getElem? (i := 6) rfl)) (hw _ (List.mem_of_getElem? (i := 7) rfl)) eJ112 (hb hby at_112) (by decide) (by decide) ?_
    intro T6 h6 b6 g6 X6 e6 E6 A6 D6
    have g_b6 : n0 ≤ b6 := Nat.le_trans Z0 (Nat.le_of_eq g6.symm)
    have Z6 := Nat.le_trans Z0 E6.1
    have F6_rowOf : Fld Z h6 b6 "com/example/onda/onda/sudoku/Units" "rowOf" "[I" .null := D6 (Or.inr (hw _ (List.mem_of_getElem? (i := 46) rfl))) (ty := (.array .int)) (by decide)
    have F6_columnOf : Fld Z h6 b6 "com/example/onda/onda/sudoku/Units" "columnOf" "[I" .null := D6 (Or.inr (hw _ (List.mem_of_getElem? (i := 53) rfl))) (ty := (.array .int)) (by decide)
    have F6_boxOf : Fld Z h6 b6 "com/example/onda/onda/sudoku/Units" "boxOf" "[I" .null := D6 (Or.inr (hw _ (List.mem_of_getElem? (i := 60) rfl))) (ty := (.array .int)) (by decide)
    have F6_numbers : Fld Z h6 b6 "com/example/onda/onda/sudoku/Units" "numbers" "J" (.long (0 : Int64)) := D6 (Or.inr (hw _ (List.mem_of_getElem? (i := 68) rfl))) (ty := .long) (by decide)
    have F6_held : Fld Z h6 b6 "com/example/onda/onda/sudoku/Units" "held" "[J" .null := D6 (Or.inr (hw _ (List.mem_of_getElem? (i := 76) rfl))) (ty := (.array .long)) (by decide)
    show own_Fin _ _ _ _ _ _ _ (T6.setTop (mkF m 115 #[.val (.int p0), .val (.int p1), .val (.int p2), .val (.int p3), .val (.int p4), .val (.int p5), .val (.int ce), .val (.int oo), .val (.int kd), .val (.int qq), .val (.int tk), .val (.int n2), .val (.int n3), .val (.int n4), .val (.int n5), .unset, .unset, .unset, .unset, .unset, .unset, .unset, .unset, .unset, .unset, .unset, .unset] [(.ref b6)]))
    refine own_go (fun _ kk => XS.dup X6.here hx rfl (hb hby at_115) rfl rfl kk) ?_
    show own_Fin _ _ _ _ _ _ _ (T6.setTop (mkF m 116 #[.val (.int p0), .val (.int p1), .val (.int p2), .val (.int p3), .val (.int p4), .val (.int p5), .val (.int ce), .val (.int oo), .val (.int kd), .val (.int qq), .val (.int tk), .val (.int n2), .val (.int n3), .val (.int n4), .val (.int n5), .unset, .unset, .unset, .unset, .unset, .unset, .unset, .unset, .unset, .unset, .unset, .unset] [(.ref b6), (.ref b6)]))
    refine own_new X6 hx hZ hown (hw _ (List.mem_of_getElem? (i := 8) rfl)) (hw _ (List.mem_of_getElem? (i := 9) rfl)) (hw _ (List.mem_of_getElem? (i := 10) rfl)) e6 (hb hby at_116) (by decide) (by decide) ?_
    intro T7 h7 b7 g7 X7 e7 E7 A7 D7
    have g_b7 : n0 ≤ b7 := Nat.le_trans Z6 (Nat.le_of_eq g7.symm)
    have ne_b6_b7 : b6 ≠ b7 := Nat.ne_of_lt (Nat.lt_of_lt_of_le A6.lt (Nat.le_of_eq g7.symm))
    have f8 := A6.ext E7
    have f9 := F6_rowOf.ext E7
    have f10 := F6_columnOf.ext E7
    have f11 := F6_boxOf.ext E7
    have f12 := F6_numbers.ext E7
    have f13 := F6_held.ext E7
    have Z7 := Nat.le_trans Z6 E7.1
    have F7_size : Fld Z h7 b7 "com/example/onda/onda/sudoku/Geometry" "size" "I" (.int (0 : Int32)) := D7 (Or.inr (hw _ (List.mem_of_getElem? (i := 18) rfl))) (ty := .int) (by decide)
    have F7_rowOf : Fld Z h7 b7 "com/example/onda/onda/sudoku/Geometry" "rowOf" "[I" .null := D7 (Or.inr (hw _ (List.mem_of_getElem? (i := 21) rfl))) (ty := (.array .int)) (by decide)
    have F7_columnOf : Fld Z h7 b7 "com/example/onda/onda/sudoku/Geometry" "columnOf" "[I" .null := D7 (Or.inr (hw _ (List.mem_of_getElem? (i := 23) rfl))) (ty := (.array .int)) (by decide)
    have F7_boxOf : Fld Z h7 b7 "com/example/onda/onda/sudoku/Geometry" "boxOf" "[I" .null := D7 (Or.inr (hw _ (List.mem_of_getElem? (i := 25) rfl))) (ty := (.array .int)) (by decide)
    have F7_cellsOf : Fld Z h7 b7 "com/example/onda/onda/sudoku/Geometry" "cellsOf" "[[I" .null := D7 (Or.inr (hw _ (List.mem_of_getElem? (i := 29) rfl))) (ty := (.array (.array .int))) (by decide)
    have F7_indexInRow : Fld Z h7 b7 "com/example/onda/onda/sudoku/Geometry" "indexInRow" "[I" .null := D7 (Or.inr (hw _ (List.mem_of_getElem? (i := 31) rfl))) (ty := (.array .int)) (by decide)
    have F7_indexInColumn : Fld Z h7 b7 "com/example/onda/onda/sudoku/Geometry" "indexInColumn" "[I" .null := D7 (Or.inr (hw _ (List.mem_of_getElem? (i := 33) rfl))) (ty := (.array .int)) (by decide)
    have F7_indexInBox : Fld Z h7 b7 "com/example/onda/onda/sudoku/Geometry" "indexInBox" "[I" .null := D7 (Or.inr (hw _ (List.mem_of_getElem? (i := 35) rfl))) (ty := (.array .int)) (by decide)
    show own_Fin _ _ _ _ _ _ _ (T7.setTop (mkF m 119 #[.val (.int p0), .val (.int p1), .val (.int p2), .val (.int p3), .val (.int p4), .val (.int p5), .val (.int ce), .val (.int oo), .val (.int kd), .val (.int qq), .val (.int tk), .val (.int n2), .val (.int n3), .val (.int n4), .val (.int n5), .unset, .unset, .unset, .unset, .unset, .unset, .unset, .unset, .unset, .unset, .unset, .unset] [(.ref b7), (.ref b6), (.ref b6)]))
    refine own_go (fun _ kk => XS.dup X7.here hx rfl (hb hby at_119) rfl rfl (XS.iconst X7.here hx rfl (hb hby at_120) kk)) ?_
    show own_Fin _ _ _ _ _ _ _ (T7.setTop (mkF m 121 #[.val (.int p0), .val (.int p1), .val (.int p2), .val (.int p3), .val (.int p4), .val (.int p5), .val (.int ce), .val (.int oo), .val (.int kd), .val (.int qq), .val (.int tk), .val (.int n2), .val (.int n3), .val (.int n4), .val (.int n5), .unset, .unset, .unset, .unset, .unset, .unset, .unset, .unset, .unset, .unset, .unset, .unset] [(.int (2 : Int32)), (.ref b7), (.ref b7), (.ref b6), (.ref b6)]))
    refine own_callN X7 hx hZ rfl hown (hw _ (List.mem_of_getElem? (i := 11) rfl)) (hw _ (List.mem_of_getElem? (i := 12) rfl)) (hw _ (List.mem_of_getElem? (i := 10) rfl)) (hw _ (List.mem_of_getElem? (i := 13) rfl)) (by decide) (rm2g2 l Z a0 hw b7 h7 n0 Z7 A7 F7_size F7_rowOf F7_columnOf F7_boxOf F7_cellsOf F7_indexInRow F7_indexInColumn F7_indexInBox g_b7) e7 (a := b7) (argsL := [(.int (2 : Int32))]) (rest := [(.ref b7), (.ref b6), (.ref b6)]) rfl rfl (by rw [hml]; rfl) (lenOf pd_0_1 rfl) (hb hby at_121) (W := 3) (Nat.le_of_eq rfl) (by decide) (by decide) (by decide) (by decide) ?_
    rintro v14 T14 L14 X14 ⟨rfl, M14, Kc14, bR, bC, bB, gg, szbR, szbC, szbB, szgg, Gs14, Gr14, Gc14, Gb14, Gg14, VR14, VC14, VB14, VG14⟩
    have N14 := Fr.app NJ112 M14
    have ne_b6_bR : b6 ≠ bR := Nat.ne_of_lt (Nat.lt_of_lt_of_le f8.lt szbR)
    have ne_b6_bC : b6 ≠ bC := Nat.ne_of_lt (Nat.lt_of_lt_of_le f8.lt szbC)
    have ne_b6_bB : b6 ≠ bB := Nat.ne_of_lt (Nat.lt_of_lt_of_le f8.lt szbB)
    have ne_b6_gg : b6 ≠ gg := Nat.ne_of_lt (Nat.lt_of_lt_of_le f8.lt szgg)
    have ne_b7_bR : b7 ≠ bR := Nat.ne_of_lt (Nat.lt_of_lt_of_le A7.lt szbR)
    have ne_b7_bC : b7 ≠ bC := Nat.ne_of_lt (Nat.lt_of_lt_of_le A7.lt szbC)
    have ne_b7_bB : b7 ≠ bB := Nat.ne_of_lt (Nat.lt_of_lt_of_le A7.lt szbB)
    have ne_b7_gg : b7 ≠ gg := Nat.ne_of_lt (Nat.lt_of_lt_of_le A7.lt szgg)
    have f15 := f8.keep Kc14
    have f16 := f9.keep Kc14 (ninS ne_b6_b7 nin0)
    have f17 := f10.keep Kc14 (ninS ne_b6_b7 nin0)
    have f18 := f11.keep Kc14 (ninS ne_b6_b7 nin0)
    have f19 := f12.keep Kc14 (ninS ne_b6_b7 nin0)
    have f20 := f13.keep Kc14 (ninS ne_b6_b7 nin0)
    have f21 := A7.keep Kc14
    have Z14 := Nat.le_trans Z7 Kc14.1
    show own_Fin _ _ _ _ _ _ _ (T14.setTop (mkF m 124 #[.val (.int p0), .val (.int p1), .val (.int p2), .val (.int p3), .val (.int p4), .val (.int p5), .val (.int ce), .val (.int oo), .val (.int kd), .val (.int qq), .val (.int tk), .val (.int n2), .val (.int n3), .val (.int n4), .val (.int n5), .unset, .unset, .unset, .unset, .unset, .unset, .unset, .unset, .unset, .unset, .unset, .unset] [(.ref b7), (.ref b6), (.ref b6)]))
    refine own_callN X14 hx hZ rfl hown (hw _ (List.mem_of_getElem? (i := 36) rfl)) (hw _ (List.mem_of_getElem? (i := 37) rfl)) (hw _ (List.mem_of_getElem? (i := 7) rfl)) (hw _ (List.mem_of_getElem? (i := 38) rfl)) (by decide) (rm4g2 l Z a0 hw b6 b7 T14.heap n0 Z14 f15 f16 f17 f18 f19 f20 g_b6 bR bC bB gg f21 Gs14 Gr14 Gc14 Gb14 Gg14 VR14 VC14 VB14 VG14 ne_b6_b7 ne_b6_bR ne_b6_bC ne_b6_bB ne_b6_gg) rfl (a := b6) (argsL := [(.ref b7)]) (rest := [(.ref b6)]) rfl rfl (by rw [hml]; rfl) (lenOf pd_0_2 rfl) (hb hby at_124) (W := 1) (Nat.le_of_eq rfl) (by decide) (by decide) (by decide) (by decide) ?_
    rintro v22 T22 L22 X22 ⟨rfl, M22, Kc22, hd, sz22, Ur22, Uc22, Ub22, Un22, Uh22, VH22⟩
    have N22 := Fr.app N14 M22
    have g_hd : n0 ≤ hd := Nat.le_trans Z14 sz22
    have ne_b6_hd : b6 ≠ hd := Nat.ne_of_lt (Nat.lt_of_lt_of_le f15.lt sz22)
    have ne_b7_hd : b7 ≠ hd := Nat.ne_of_lt (Nat.lt_of_lt_of_le f21.lt sz22)
    have ne_bR_hd : bR ≠ hd := Nat.ne_of_lt (Nat.lt_of_lt_of_le VR14.lt sz22)
    have ne_bC_hd : bC ≠ hd := Nat.ne_of_lt (Nat.lt_of_lt_of_le VC14.lt sz22)
    have ne_bB_hd : bB ≠ hd := Nat.ne_of_lt (Nat.lt_of_lt_of_le VB14.lt sz22)
    have ne_gg_hd : gg ≠ hd := Nat.ne_of_lt (Nat.lt_of_lt_of_le VG14.lt sz22)
    have f23 := f15.keep Kc22
    have f24 := f21.keep Kc22
    have f25 := Gs14.keep Kc22 (ninS (Ne.symm ne_b6_b7) nin0)
    have f26 := Gr14.keep Kc22 (ninS (Ne.symm ne_b6_b7) nin0)
    have f27 := Gc14.keep Kc22 (ninS (Ne.symm ne_b6_b7) nin0)
    have f28 := Gb14.keep Kc22 (ninS (Ne.symm ne_b6_b7) nin0)
    have f29 := Gg14.keep Kc22 (ninS (Ne.symm ne_b6_b7) nin0)
    have f30 := VR14.keep Kc22 (ninS (Ne.symm ne_b6_bR) nin0)
    have f31 := VC14.keep Kc22 (ninS (Ne.symm ne_b6_bC) nin0)
    have f32 := VB14.keep Kc22 (ninS (Ne.symm ne_b6_bB) nin0)
    have f33 := VG14.keep Kc22 (ninS (Ne.symm ne_b6_gg) nin0)
    have Z22 := Nat.le_trans Z14 Kc22.1
    have hl0 : (List.replicate 12 (0 : Int64)).length = 12 := List.length_replicate
    show own_Fin _ _ _ _ _ _ _ (T22.setTop (mkF m 127 #[.val (.int p0), .val (.int p1), .val (.int p2), .val (.int p3), .val (.int p4), .val (.int p5), .val (.int ce), .val (.int oo), .val (.int kd), .val (.int qq), .val (.int tk), .val (.int n2), .val (.int n3), .val (.int n4), .val (.int n5), .unset, .unset, .unset, .unset, .unset, .unset, .unset, .unset, .unset, .unset, .unset, .unset] [(.ref b6)]))
    refine own_go (fun _ kk => XS.astore X22.here hx rfl (hb hby at_127) rfl rfl (l' := #[.val (.int p0), .val (.int p1), .val (.int p2), .val (.int p3), .val (.int p4), .val (.int p5), .val (.int ce), .val (.int oo), .val (.int kd), .val (.int qq), .val (.int tk), .val (.int n2), .val (.int n3), .val (.int n4), .val (.int n5), .val (.ref b6), .unset, .unset, .unset, .unset, .unset, .unset, .unset, .unset, .unset, .unset, .unset]) rfl kk) ?_
    show own_Fin _ _ _ _ _ _ _ (T22.setTop (mkF m 129 #[.val (.int p0), .val (.int p1), .val (.int p2), .val (.int p3), .val (.int p4), .val (.int p5), .val (.int ce), .val (.int oo), .val (.int kd), .val (.int qq), .val (.int tk), .val (.int n2), .val (.int n3), .val (.int n4), .val (.int n5), .val (.ref b6), .unset, .unset, .unset, .unset, .unset, .unset, .unset, .unset, .unset, .unset, .unset] []))
    have JP143 : ∀ (Tp143 : State) (Hp143 : Heap) (locsp143 : List Loc), Stand p l e room_1 s m #[(.int p0), (.int p1), (.int p2), (.int p3), (.int p4), (.int p5)] below meth c Tp143 locsp143 22 181 → Fr n0 locsp143 → Tp143.heap = Hp143 → n0 ≤ Hp143.size → Exa Z Hp143 b6 "com/example/onda/onda/sudoku/Units" → own_Ar Z Hp143 bR .int ((own_L own_fR2 16 16).map Value.int) → own_Ar Z Hp143 bC .int ((own_L own_fC2 16 16).map Value.int) → own_Ar Z Hp143 bB .int ((own_L own_fB2 16 16).map Value.int) → Fld Z Hp143 b6 "com/example/onda/onda/sudoku/Units" "rowOf" "[I" (.ref bR) → Fld Z Hp143 b6 "com/example/onda/onda/sudoku/Units" "columnOf" "[I" (.ref bC) → Fld Z Hp143 b6 "com/example/onda/onda/sudoku/Units" "boxOf" "[I" (.ref bB) → Fld Z Hp143 b6 "com/example/onda/onda/sudoku/Units" "numbers" "J" (.long (((1 : Int64) <<< (((5 : Int32)) &&& 0x3f).toInt64) - (2 : Int64))) → Fld Z Hp143 b6 "com/example/onda/onda/sudoku/Units" "held" "[J" (.ref hd) → own_Ar Z Hp143 hd .long ((own_plc (List.replicate 12 (0 : Int64)) ce tk).map Value.long) → own_Fin p e below s (own_Q0 (some (.int (own_f0 p0 p1 p2 p3 p4 p5))) n0) room_1.cells room_1.slots (Tp143.setTop (mkF m 143 #[.val (.int p0), .val (.int p1), .val (.int p2), .val (.int p3), .val (.int p4), .val (.int p5), .val (.int ce), .val (.int oo), .val (.int kd), .val (.int qq), .val (.int tk), .val (.int n2), .val (.int n3), .val (.int n4), .val (.int n5), .val (.ref b6), .unset, .unset, .unset, .unset, .unset, .unset, .unset, .unset, .unset, .unset, .unset] [])) := by
      intro Tp143 Hp143 locsp143 Xp143 Np143 ep143 Zp143 Kp143_0 Kp143_1 Kp143_2 Kp143_3 Kp143_4 Kp143_5 Kp143_6 Kp143_7 Kp143_8 Kp143_9
      have hlp143 : (own_plc (List.replicate 12 (0 : Int64)) ce tk).length = 12 := (own_plclen _ _ _).trans hl0
      have JP159 : ∀ (Tp159 : State) (Hp159 : Heap) (locsp159 : List Loc), Stand p l e room_1 s m #[(.int p0), (.int p1), (.int p2), (.int p3), (.int p4), (.int p5)] below meth c Tp159 locsp159 22 181 → Fr n0 locsp159 → Tp159.heap = Hp159 → n0 ≤ Hp159.size → Exa Z Hp159 b6 "com/example/onda/onda/sudoku/Units" → own_Ar Z Hp159 bR .int ((own_L own_fR2 16 16).map Value.int) → own_Ar Z Hp159 bC .int ((own_L own_fC2 16 16).map Value.int) → own_Ar Z Hp159 bB .int ((own_L own_fB2 16 16).map Value.int) → Fld Z Hp159 b6 "com/example/onda/onda/sudoku/Units" "rowOf" "[I" (.ref bR) → Fld Z Hp159 b6 "com/example/onda/onda/sudoku/Units" "columnOf" "[I" (.ref bC) → Fld Z Hp159 b6 "com/example/onda/onda/sudoku/Units" "boxOf" "[I" (.ref bB) → Fld Z Hp159 b6 "com/example/onda/onda/sudoku/Units" "numbers" "J" (.long (((1 : Int64) <<< (((5 : Int32)) &&& 0x3f).toInt64) - (2 : Int64))) → Fld Z Hp159 b6 "com/example/onda/onda/sudoku/Units" "held" "[J" (.ref hd) → own_Ar Z Hp159 hd .long ((own_plc (own_plc (List.replicate 12 (0 : Int64)) ce tk) (ce ^^^ (2 : Int32)) n2).map Value.long) → own_Fin p e below s (own_Q0 (some (.int (own_f0 p0 p1 p2 p3 p4 p5))) n0) room_1.cells room_1.slots (Tp159.setTop (mkF m 159 #[.val (.int p0), .val (.int p1), .val (.int p2), .val (.int p3), .val (.int p4), .val (.int p5), .val (.int ce), .val (.int oo), .val (.int kd), .val (.int qq), .val (.int tk), .val (.int n2), .val (.int n3), .val (.int n4), .val (.int n5), .val (.ref b6), .unset, .unset, .unset, .unset, .unset, .unset, .unset, .unset, .unset, .unset, .unset] [])) := by
        intro Tp159 Hp159 locsp159 Xp159 Np159 ep159 Zp159 Kp159_0 Kp159_1 Kp159_2 Kp159_3 Kp159_4 Kp159_5 Kp159_6 Kp159_7 Kp159_8 Kp159_9
        have hlp159 : (own_plc (own_plc (List.replicate 12 (0 : Int64)) ce tk) (ce ^^^ (2 : Int32)) n2).length = 12 := (own_plclen _ _ _).trans hlp143
        have JP176 : ∀ (Tp176 : State) (Hp176 : Heap) (locsp176 : List Loc), Stand p l e room_1 s m #[(.int p0), (.int p1), (.int p2), (.int p3), (.int p4), (.int p5)] below meth c Tp176 locsp176 22 181 → Fr n0 locsp176 → Tp176.heap = Hp176 → n0 ≤ Hp176.size → Exa Z Hp176 b6 "com/example/onda/onda/sudoku/Units" → own_Ar Z Hp176 bR .int ((own_L own_fR2 16 16).map Value.int) → own_Ar Z Hp176 bC .int ((own_L own_fC2 16 16).map Value.int) → own_Ar Z Hp176 bB .int ((own_L own_fB2 16 16).map Value.int) → Fld Z Hp176 b6 "com/example/onda/onda/sudoku/Units" "rowOf" "[I" (.ref bR) → Fld Z Hp176 b6 "com/example/onda/onda/sudoku/Units" "columnOf" "[I" (.ref bC) → Fld Z Hp176 b6 "com/example/onda/onda/sudoku/Units" "boxOf" "[I" (.ref bB) → Fld Z Hp176 b6 "com/example/onda/onda/sudoku/Units" "numbers" "J" (.long (((1 : Int64) <<< (((5 : Int32)) &&& 0x3f).toInt64) - (2 : Int64))) → Fld Z Hp176 b6 "com/example/onda/onda/sudoku/Units" "held" "[J" (.ref hd) → own_Ar Z Hp176 hd .long ((own_plc (own_plc (own_plc (List.replicate 12 (0 : Int64)) ce tk) (ce ^^^ (2 : Int32)) n2) (ce ^^^ (8 : Int32)) n3).map Value.long) → own_Fin p e below s (own_Q0 (some (.int (own_f0 p0 p1 p2 p3 p4 p5))) n0) room_1.cells room_1.slots (Tp176.setTop (mkF m 176 #[.val (.int p0), .val (.int p1), .val (.int p2), .val (.int p3), .val (.int p4), .val (.int p5), .val (.int ce), .val (.int oo), .val (.int kd), .val (.int qq), .val (.int tk), .val (.int n2), .val (.int n3), .val (.int n4), .val (.int n5), .val (.ref b6), .unset, .unset, .unset, .unset, .unset, .unset, .unset, .unset, .unset, .unset, .unset] [])) := by
          intro Tp176 Hp176 locsp176 Xp176 Np176 ep176 Zp176 Kp176_0 Kp176_1 Kp176_2 Kp176_3 Kp176_4 Kp176_5 Kp176_6 Kp176_7 Kp176_8 Kp176_9
          have hlp176 : (own_plc (own_plc (own_plc (List.replicate 12 (0 : Int64)) ce tk) (ce ^^^ (2 : Int32)) n2) (ce ^^^ (8 : Int32)) n3).length = 12 := (own_plclen _ _ _).trans hlp159
          have JP192 : ∀ (Tp192 : State) (Hp192 : Heap) (locsp192 : List Loc), Stand p l e room_1 s m #[(.int p0), (.int p1), (.int p2), (.int p3), (.int p4), (.int p5)] below meth c Tp192 locsp192 22 181 → Fr n0 locsp192 → Tp192.heap = Hp192 → n0 ≤ Hp192.size → Exa Z Hp192 b6 "com/example/onda/onda/sudoku/Units" → own_Ar Z Hp192 bR .int ((own_L own_fR2 16 16).map Value.int) → own_Ar Z Hp192 bC .int ((own_L own_fC2 16 16).map Value.int) → own_Ar Z Hp192 bB .int ((own_L own_fB2 16 16).map Value.int) → Fld Z Hp192 b6 "com/example/onda/onda/sudoku/Units" "rowOf" "[I" (.ref bR) → Fld Z Hp192 b6 "com/example/onda/onda/sudoku/Units" "columnOf" "[I" (.ref bC) → Fld Z Hp192 b6 "com/example/onda/onda/sudoku/Units" "boxOf" "[I" (.ref bB) → Fld Z Hp192 b6 "com/example/onda/onda/sudoku/Units" "numbers" "J" (.long (((1 : Int64) <<< (((5 : Int32)) &&& 0x3f).toInt64) - (2 : Int64))) → Fld Z Hp192 b6 "com/example/onda/onda/sudoku/Units" "held" "[J" (.ref hd) → own_Ar Z Hp192 hd .long ((own_plc (own_plc (own_plc (own_plc (List.replicate 12 (0 : Int64)) ce tk) (ce ^^^ (2 : Int32)) n2) (ce ^^^ (8 : Int32)) n3) (ce ^^^ (5 : Int32)) n4).map Value.long) → own_Fin p e below s (own_Q0 (some (.int (own_f0 p0 p1 p2 p3 p4 p5))) n0) room_1.cells room_1.slots (Tp192.setTop (mkF m 192 #[.val (.int p0), .val (.int p1), .val (.int p2), .val (.int p3), .val (.int p4), .val (.int p5), .val (.int ce), .val (.int oo), .val (.int kd), .val (.int qq), .val (.int tk), .val (.int n2), .val (.int n3), .val (.int n4), .val (.int n5), .val (.ref b6), .unset, .unset, .unset, .unset, .unset, .unset, .unset, .unset, .unset, .unset, .unset] [])) := by
            intro Tp192 Hp192 locsp192 Xp192 Np192 ep192 Zp192 Kp192_0 Kp192_1 Kp192_2 Kp192_3 Kp192_4 Kp192_5 Kp192_6 Kp192_7 Kp192_8 Kp192_9
            have hlp192 : (own_plc (own_plc (own_plc (own_plc (List.replicate 12 (0 : Int64)) ce tk) (ce ^^^ (2 : Int32)) n2) (ce ^^^ (8 : Int32)) n3) (ce ^^^ (5 : Int32)) n4).length = 12 := (own_plclen _ _ _).trans hlp176
            have JP208 : ∀ (Tp208 : State) (Hp208 : Heap) (locsp208 : List Loc), Stand p l e room_1 s m #[(.int p0), (.int p1), (.int p2), (.int p3), (.int p4), (.int p5)] below meth c Tp208 locsp208 22 181 → Fr n0 locsp208 → Tp208.heap = Hp208 → n0 ≤ Hp208.size → Exa Z Hp208 b6 "com/example/onda/onda/sudoku/Units" → own_Ar Z Hp208 bR .int ((own_L own_fR2 16 16).map Value.int) → own_Ar Z Hp208 bC .int ((own_L own_fC2 16 16).map Value.int) → own_Ar Z Hp208 bB .int ((own_L own_fB2 16 16).map Value.int) → Fld Z Hp208 b6 "com/example/onda/onda/sudoku/Units" "rowOf" "[I" (.ref bR) → Fld Z Hp208 b6 "com/example/onda/onda/sudoku/Units" "columnOf" "[I" (.ref bC) → Fld Z Hp208 b6 "com/example/onda/onda/sudoku/Units" "boxOf" "[I" (.ref bB) → Fld Z Hp208 b6 "com/example/onda/onda/sudoku/Units" "numbers" "J" (.long (((1 : Int64) <<< (((5 : Int32)) &&& 0x3f).toInt64) - (2 : Int64))) → Fld Z Hp208 b6 "com/example/onda/onda/sudoku/Units" "held" "[J" (.ref hd) → own_Ar Z Hp208 hd .long ((own_plc (own_plc (own_plc (own_plc (own_plc (List.replicate 12 (0 : Int64)) ce tk) (ce ^^^ (2 : Int32)) n2) (ce ^^^ (8 : Int32)) n3) (ce ^^^ (5 : Int32)) n4) (ce ^^^ (3 : Int32)) n5).map Value.long) → own_Fin p e below s (own_Q0 (some (.int (own_f0 p0 p1 p2 p3 p4 p5))) n0) room_1.cells room_1.slots (Tp208.setTop (mkF m 208 #[.val (.int p0), .val (.int p1), .val (.int p2), .val (.int p3), .val (.int p4), .val (.int p5), .val (.int ce), .val (.int oo), .val (.int kd), .val (.int qq), .val (.int tk), .val (.int n2), .val (.int n3), .val (.int n4), .val (.int n5), .val (.ref b6), .unset, .unset, .unset, .unset, .unset, .unset, .unset, .unset, .unset, .unset, .unset] [])) := by
              intro Tp208 Hp208 locsp208 Xp208 Np208 ep208 Zp208 Kp208_0 Kp208_1 Kp208_2 Kp208_3 Kp208_4 Kp208_5 Kp208_6 Kp208_7 Kp208_8 Kp208_9
              have hlp208 : (own_plc (own_plc (own_plc (own_plc (own_plc (List.replicate 12 (0 : Int64)) ce tk) (ce ^^^ (2 : Int32)) n2) (ce ^^^ (8 : Int32)) n3) (ce ^^^ (5 : Int32)) n4) (ce ^^^ (3 : Int32)) n5).length = 12 := (own_plclen _ _ _).trans hlp192
              refine own_go (fun _ kk => XS.aload Xp208.here hx rfl (hb hby at_208) rfl rfl (XS.iload Xp208.here hx rfl (hb hby at_210) rfl (XS.iconst Xp208.here hx rfl (hb hby at_212) kk))) ?_
              show own_Fin _ _ _ _ _ _ _ (Tp208.setTop (mkF m 213 #[.val (.int p0), .val (.int p1), .val (.int p2), .val (.int p3), .val (.int p4), .val (.int p5), .val (.int ce), .val (.int oo), .val (.int kd), .val (.int qq), .val (.int tk), .val (.int n2), .val (.int n3), .val (.int n4), .val (.int n5), .val (.ref b6), .unset, .unset, .unset, .unset, .unset, .unset, .unset, .unset, .unset, .unset, .unset] [(.int (0 : Int32)), (.int ce), (.ref b6)]))
              refine own_callS Xp208 hx hZ hown (hw _ (List.mem_of_getElem? (i := 82) rfl)) (hw _ (List.mem_of_getElem? (i := 83) rfl)) (hw _ (List.mem_of_getElem? (i := 2) rfl)) (hw _ (List.mem_of_getElem? (i := 84) rfl)) (by decide) (rm11 l Z a0 hw ce (0 : Int32) Hp208 n0 Zp208) ep208 (argsL := [(.int ce), (.int (0 : Int32))]) (rest := [(.ref b6)]) rfl rfl (by rw [hml]; rfl) (lenOf pd_0_3 rfl) (hb hby at_213) (W := 1) (Nat.le_of_eq rfl) (by decide) (by decide) (by decide) (by decide) ?_
              rintro v34 T34 L34 X34 ⟨rfl, M34, e34⟩
              have N34 := Fr.app Np208 M34
              show own_Fin _ _ _ _ _ _ _ (T34.setTop (mkF m 216 #[.val (.int p0), .val (.int p1), .val (.int p2), .val (.int p3), .val (.int p4), .val (.int p5), .val (.int ce), .val (.int oo), .val (.int kd), .val (.int qq), .val (.int tk), .val (.int n2), .val (.int n3), .val (.int n4), .val (.int n5), .val (.ref b6), .unset, .unset, .unset, .unset, .unset, .unset, .unset, .unset, .unset, .unset, .unset] [(.int (own_f11 ce (0 : Int32))), (.ref b6)]))
              refine own_go (fun _ kk => XS.iload X34.here hx rfl (hb hby at_216) rfl (XS.iconst X34.here hx rfl (hb hby at_218) kk)) ?_
              show own_Fin _ _ _ _ _ _ _ (T34.setTop (mkF m 219 #[.val (.int p0), .val (.int p1), .val (.int p2), .val (.int p3), .val (.int p4), .val (.int p5), .val (.int ce), .val (.int oo), .val (.int kd), .val (.int qq), .val (.int tk), .val (.int n2), .val (.int n3), .val (.int n4), .val (.int n5), .val (.ref b6), .unset, .unset, .unset, .unset, .unset, .unset, .unset, .unset, .unset, .unset, .unset] [(.int (1 : Int32)), (.int ce), (.int (own_f11 ce (0 : Int32))), (.ref b6)]))
              refine own_callS X34 hx hZ hown (hw _ (List.mem_of_getElem? (i := 82) rfl)) (hw _ (List.mem_of_getElem? (i := 83) rfl)) (hw _ (List.mem_of_getElem? (i := 2) rfl)) (hw _ (List.mem_of_getElem? (i := 84) rfl)) (by decide) (rm11 l Z a0 hw ce (1 : Int32) Hp208 n0 Zp208) e34 (argsL := [(.int ce), (.int (1 : Int32))]) (rest := [(.int (own_f11 ce (0 : Int32))), (.ref b6)]) rfl rfl (by rw [hml]; rfl) (lenOf pd_0_3 rfl) (hb hby at_219) (W := 2) (Nat.le_of_eq rfl) (by decide) (by decide) (by decide) (by decide) ?_
              rintro v35 T35 L35 X35 ⟨rfl, M35, e35⟩
              have N35 := Fr.app N34 M35
              show own_Fin _ _ _ _ _ _ _ (T35.setTop (mkF m 222 #[.val (.int p0), .val (.int p1), .val (.int p2), .val (.int p3), .val (.int p4), .val (.int p5), .val (.int ce), .val (.int oo), .val (.int kd), .val (.int qq), .val (.int tk), .val (.int n2), .val (.int n3), .val (.int n4), .val (.int n5), .val (.ref b6), .unset, .unset, .unset, .unset, .unset, .unset, .unset, .unset, .unset, .unset, .unset] [(.int (own_f11 ce (1 : Int32))), (.int (own_f11 ce (0 : Int32))), (.ref b6)]))
              refine own_go (fun _ kk => XS.iload X35.here hx rfl (hb hby at_222) rfl (XS.iconst X35.here hx rfl (hb hby at_224) kk)) ?_
              show own_Fin _ _ _ _ _ _ _ (T35.setTop (mkF m 225 #[.val (.int p0), .val (.int p1), .val (.int p2), .val (.int p3), .val (.int p4), .val (.int p5), .val (.int ce), .val (.int oo), .val (.int kd), .val (.int qq), .val (.int tk), .val (.int n2), .val (.int n3), .val (.int n4), .val (.int n5), .val (.ref b6), .unset, .unset, .unset, .unset, .unset, .unset, .unset, .unset, .unset, .unset, .unset] [(.int (2 : Int32)), (.int ce), (.int (own_f11 ce (1 : Int32))), (.int (own_f11 ce (0 : Int32))), (.ref b6)]))
              refine own_callS X35 hx hZ hown (hw _ (List.mem_of_getElem? (i := 82) rfl)) (hw _ (List.mem_of_getElem? (i := 83) rfl)) (hw _ (List.mem_of_getElem? (i := 2) rfl)) (hw _ (List.mem_of_getElem? (i := 84) rfl)) (by decide) (rm11 l Z a0 hw ce (2 : Int32) Hp208 n0 Zp208) e35 (argsL := [(.int ce), (.int (2 : Int32))]) (rest := [(.int (own_f11 ce (1 : Int32))), (.int (own_f11 ce (0 : Int32))), (.ref b6)]) rfl rfl (by rw [hml]; rfl) (lenOf pd_0_3 rfl) (hb hby at_225) (W := 3) (Nat.le_of_eq rfl) (by decide) (by decide) (by decide) (by decide) ?_
              rintro v36 T36 L36 X36 ⟨rfl, M36, e36⟩
              have N36 := Fr.app N35 M36
              show own_Fin _ _ _ _ _ _ _ (T36.setTop (mkF m 228 #[.val (.int p0), .val (.int p1), .val (.int p2), .val (.int p3), .val (.int p4), .val (.int p5), .val (.int ce), .val (.int oo), .val (.int kd), .val (.int qq), .val (.int tk), .val (.int n2), .val (.int n3), .val (.int n4), .val (.int n5), .val (.ref b6), .unset, .unset, .unset, .unset, .unset, .unset, .unset, .unset, .unset, .unset, .unset] [(.int (own_f11 ce (2 : Int32))), (.int (own_f11 ce (1 : Int32))), (.int (own_f11 ce (0 : Int32))), (.ref b6)]))
              refine own_go (fun _ kk => XS.iload X36.here hx rfl (hb hby at_228) rfl kk) ?_
              show own_Fin _ _ _ _ _ _ _ (T36.setTop (mkF m 230 #[.val (.int p0), .val (.int p1), .val (.int p2), .val (.int p3), .val (.int p4), .val (.int p5), .val (.int ce), .val (.int oo), .val (.int kd), .val (.int qq), .val (.int tk), .val (.int n2), .val (.int n3), .val (.int n4), .val (.int n5), .val (.ref b6), .unset, .unset, .unset, .unset, .unset, .unset, .unset, .unset, .unset, .unset, .unset] [(.int tk), (.int (own_f11 ce (2 : Int32))), (.int (own_f11 ce (1 : Int32))), (.int (own_f11 ce (0 : Int32))), (.ref b6)]))
              refine own_callV X36 hx hZ hown (hw _ (List.mem_of_getElem? (i := 85) rfl)) (hw _ (List.mem_of_getElem? (i := 86) rfl)) (notFace_of_selects (args := #[]) (mvT hZ (hw _ (List.mem_of_getElem? (i := 88) rfl)))) (hw _ (List.mem_of_getElem? (i := 88) rfl)) (hw _ (List.mem_of_getElem? (i := 87) rfl)) (hw _ (List.mem_of_getElem? (i := 89) rfl)) (hw _ (List.mem_of_getElem? (i := 7) rfl)) (by decide) (rm12 l Z a0 hw b6 (own_f11 ce (0 : Int32)) (own_f11 ce (1 : Int32)) (own_f11 ce (2 : Int32)) tk Hp208 n0 Zp208 hd (((1 : Int64) <<< (((5 : Int32)) &&& 0x3f).toInt64) - (2 : Int64)) (own_plc (own_plc (own_plc (own_plc (own_plc (List.replicate 12 (0 : Int64)) ce tk) (ce ^^^ (2 : Int32)) n2) (ce ^^^ (8 : Int32)) n3) (ce ^^^ (5 : Int32)) n4) (ce ^^^ (3 : Int32)) n5) Kp208_8 Kp208_7 Kp208_9 hlp208 ne_b6_hd g_hd (own_ui0 h_ce) (own_ui1 h_ce) (own_ui2 h_ce)) e36 Kp208_0 (argsL := [(.int (own_f11 ce (0 : Int32))), (.int (own_f11 ce (1 : Int32))), (.int (own_f11 ce (2 : Int32))), (.int tk)]) (rest := []) rfl rfl (by rw [hml]; rfl) (lenOf pd_0_4 rfl) (hb hby at_230) (W := 0) (Nat.le_of_eq rfl) (by decide) (by decide) (by decide) (by decide) ?_
              rintro v37 T37 L37 X37 ⟨rfl, M37, Kc37, VH37⟩
              have N37 := Fr.app N36 M37
              have f38 := Kp208_0.keep Kc37
              have f39 := Kp208_1.keep Kc37 (ninS ne_bR_hd nin0)
              have f40 := Kp208_2.keep Kc37 (ninS ne_bC_hd nin0)
              have f41 := Kp208_3.keep Kc37 (ninS ne_bB_hd nin0)
              have f42 := Kp208_4.keep Kc37 (ninS ne_b6_hd nin0)
              have f43 := Kp208_5.keep Kc37 (ninS ne_b6_hd nin0)
              have f44 := Kp208_6.keep Kc37 (ninS ne_b6_hd nin0)
              have f45 := Kp208_7.keep Kc37 (ninS ne_b6_hd nin0)
              have f46 := Kp208_8.keep Kc37 (ninS ne_b6_hd nin0)
              have Z37 := Nat.le_trans Zp208 Kc37.1
              have hl37 : (own_pn (own_plc (own_plc (own_plc (own_plc (own_plc (List.replicate 12 (0 : Int64)) ce tk) (ce ^^^ (2 : Int32)) n2) (ce ^^^ (8 : Int32)) n3) (ce ^^^ (5 : Int32)) n4) (ce ^^^ (3 : Int32)) n5) (own_f11 ce (0 : Int32)) (own_f11 ce (1 : Int32)) (own_f11 ce (2 : Int32)) tk (own_f12 (((1 : Int64) <<< (((5 : Int32)) &&& 0x3f).toInt64) - (2 : Int64)) (own_plc (own_plc (own_plc (own_plc (own_plc (List.replicate 12 (0 : Int64)) ce tk) (ce ^^^ (2 : Int32)) n2) (ce ^^^ (8 : Int32)) n3) (ce ^^^ (5 : Int32)) n4) (ce ^^^ (3 : Int32)) n5) (own_f11 ce (0 : Int32)) (own_f11 ce (1 : Int32)) (own_f11 ce (2 : Int32)) tk)).length = 12 := (own_pnlen _ _ _ _ _ _).trans hlp208
              show own_Fin _ _ _ _ _ _ _ (T37.setTop (mkF m 233 #[.val (.int p0), .val (.int p1), .val (.int p2), .val (.int p3), .val (.int p4), .val (.int p5), .val (.int ce), .val (.int oo), .val (.int kd), .val (.int qq), .val (.int tk), .val (.int n2), .val (.int n3), .val (.int n4), .val (.int n5), .val (.ref b6), .unset, .unset, .unset, .unset, .unset, .unset, .unset, .unset, .unset, .unset, .unset] [(.long (own_f12 (((1 : Int64) <<< (((5 : Int32)) &&& 0x3f).toInt64) - (2 : Int64)) (own_plc (own_plc (own_plc (own_plc (own_plc (List.replicate 12 (0 : Int64)) ce tk) (ce ^^^ (2 : Int32)) n2) (ce ^^^ (8 : Int32)) n3) (ce ^^^ (5 : Int32)) n4) (ce ^^^ (3 : Int32)) n5) (own_f11 ce (0 : Int32)) (own_f11 ce (1 : Int32)) (own_f11 ce (2 : Int32)) tk))]))
              refine own_go (fun _ kk => XS.lstore X37.here hx rfl (hb hby at_233) rfl (l' := #[.val (.int p0), .val (.int p1), .val (.int p2), .val (.int p3), .val (.int p4), .val (.int p5), .val (.int ce), .val (.int oo), .val (.int kd), .val (.int qq), .val (.int tk), .val (.int n2), .val (.int n3), .val (.int n4), .val (.int n5), .val (.ref b6), .val (.long (own_f12 (((1 : Int64) <<< (((5 : Int32)) &&& 0x3f).toInt64) - (2 : Int64)) (own_plc (own_plc (own_plc (own_plc (own_plc (List.replicate 12 (0 : Int64)) ce tk) (ce ^^^ (2 : Int32)) n2) (ce ^^^ (8 : Int32)) n3) (ce ^^^ (5 : Int32)) n4) (ce ^^^ (3 : Int32)) n5) (own_f11 ce (0 : Int32)) (own_f11 ce (1 : Int32)) (own_f11 ce (2 : Int32)) tk)), .second, .unset, .unset, .unset, .unset, .unset, .unset, .unset, .unset, .unset]) rfl (XS.iload X37.here hx rfl (hb hby at_235) rfl kk)) ?_
              show own_Fin _ _ _ _ _ _ _ (T37.setTop (mkF m 237 #[.val (.int p0), .val (.int p1), .val (.int p2), .val (.int p3), .val (.int p4), .val (.int p5), .val (.int ce), .val (.int oo), .val (.int kd), .val (.int qq), .val (.int tk), .val (.int n2), .val (.int n3), .val (.int n4), .val (.int n5), .val (.ref b6), .val (.long (own_f12 (((1 : Int64) <<< (((5 : Int32)) &&& 0x3f).toInt64) - (2 : Int64)) (own_plc (own_plc (own_plc (own_plc (own_plc (List.replicate 12 (0 : Int64)) ce tk) (ce ^^^ (2 : Int32)) n2) (ce ^^^ (8 : Int32)) n3) (ce ^^^ (5 : Int32)) n4) (ce ^^^ (3 : Int32)) n5) (own_f11 ce (0 : Int32)) (own_f11 ce (1 : Int32)) (own_f11 ce (2 : Int32)) tk)), .second, .unset, .unset, .unset, .unset, .unset, .unset, .unset, .unset, .unset] [(.int n2)]))
              refine own_callS X37 hx hZ hown (hw _ (List.mem_of_getElem? (i := 91) rfl)) (hw _ (List.mem_of_getElem? (i := 92) rfl)) (hw _ (List.mem_of_getElem? (i := 2) rfl)) (hw _ (List.mem_of_getElem? (i := 93) rfl)) (by decide) (rm13 l Z a0 hw n2 T37.heap n0 Z37) rfl (argsL := [(.int n2)]) (rest := []) rfl rfl (by rw [hml]; rfl) (lenOf pd_0_5 rfl) (hb hby at_237) (W := 0) (Nat.le_of_eq rfl) (by decide) (by decide) (by decide) (by decide) ?_
              rintro v47 T47 L47 X47 ⟨rfl, M47, e47⟩
              have N47 := Fr.app N37 M47
              show own_Fin _ _ _ _ _ _ _ (T47.setTop (mkF m 240 #[.val (.int p0), .val (.int p1), .val (.int p2), .val (.int p3), .val (.int p4), .val (.int p5), .val (.int ce), .val (.int oo), .val (.int kd), .val (.int qq), .val (.int tk), .val (.int n2), .val (.int n3), .val (.int n4), .val (.int n5), .val (.ref b6), .val (.long (own_f12 (((1 : Int64) <<< (((5 : Int32)) &&& 0x3f).toInt64) - (2 : Int64)) (own_plc (own_plc (own_plc (own_plc (own_plc (List.replicate 12 (0 : Int64)) ce tk) (ce ^^^ (2 : Int32)) n2) (ce ^^^ (8 : Int32)) n3) (ce ^^^ (5 : Int32)) n4) (ce ^^^ (3 : Int32)) n5) (own_f11 ce (0 : Int32)) (own_f11 ce (1 : Int32)) (own_f11 ce (2 : Int32)) tk)), .second, .unset, .unset, .unset, .unset, .unset, .unset, .unset, .unset, .unset] [(.long (own_f13 n2))]))
              refine own_go (fun _ kk => XS.iload X47.here hx rfl (hb hby at_240) rfl kk) ?_
              show own_Fin _ _ _ _ _ _ _ (T47.setTop (mkF m 242 #[.val (.int p0), .val (.int p1), .val (.int p2), .val (.int p3), .val (.int p4), .val (.int p5), .val (.int ce), .val (.int oo), .val (.int kd), .val (.int qq), .val (.int tk), .val (.int n2), .val (.int n3), .val (.int n4), .val (.int n5), .val (.ref b6), .val (.long (own_f12 (((1 : Int64) <<< (((5 : Int32)) &&& 0x3f).toInt64) - (2 : Int64)) (own_plc (own_plc (own_plc (own_plc (own_plc (List.replicate 12 (0 : Int64)) ce tk) (ce ^^^ (2 : Int32)) n2) (ce ^^^ (8 : Int32)) n3) (ce ^^^ (5 : Int32)) n4) (ce ^^^ (3 : Int32)) n5) (own_f11 ce (0 : Int32)) (own_f11 ce (1 : Int32)) (own_f11 ce (2 : Int32)) tk)), .second, .unset, .unset, .unset, .unset, .unset, .unset, .unset, .unset, .unset] [(.int n3), (.long (own_f13 n2))]))
              refine own_callS X47 hx hZ hown (hw _ (List.mem_of_getElem? (i := 91) rfl)) (hw _ (List.mem_of_getElem? (i := 92) rfl)) (hw _ (List.mem_of_getElem? (i := 2) rfl)) (hw _ (List.mem_of_getElem? (i := 93) rfl)) (by decide) (rm13 l Z a0 hw n3 T37.heap n0 Z37) e47 (argsL := [(.int n3)]) (rest := [(.long (own_f13 n2))]) rfl rfl (by rw [hml]; rfl) (lenOf pd_0_5 rfl) (hb hby at_242) (W := 2) (Nat.le_of_eq rfl) (by decide) (by decide) (by decide) (by decide) ?_
              rintro v48 T48 L48 X48 ⟨rfl, M48, e48⟩
              have N48 := Fr.app N47 M48
              show own_Fin _ _ _ _ _ _ _ (T48.setTop (mkF m 245 #[.val (.int p0), .val (.int p1), .val (.int p2), .val (.int p3), .val (.int p4), .val (.int p5), .val (.int ce), .val (.int oo), .val (.int kd), .val (.int qq), .val (.int tk), .val (.int n2), .val (.int n3), .val (.int n4), .val (.int n5), .val (.ref b6), .val (.long (own_f12 (((1 : Int64) <<< (((5 : Int32)) &&& 0x3f).toInt64) - (2 : Int64)) (own_plc (own_plc (own_plc (own_plc (own_plc (List.replicate 12 (0 : Int64)) ce tk) (ce ^^^ (2 : Int32)) n2) (ce ^^^ (8 : Int32)) n3) (ce ^^^ (5 : Int32)) n4) (ce ^^^ (3 : Int32)) n5) (own_f11 ce (0 : Int32)) (own_f11 ce (1 : Int32)) (own_f11 ce (2 : Int32)) tk)), .second, .unset, .unset, .unset, .unset, .unset, .unset, .unset, .unset, .unset] [(.long (own_f13 n3)), (.long (own_f13 n2))]))
              refine own_go (fun _ kk => XS.lor X48.here hx rfl (hb hby at_245) rfl (XS.iload X48.here hx rfl (hb hby at_246) rfl kk)) ?_
              show own_Fin _ _ _ _ _ _ _ (T48.setTop (mkF m 248 #[.val (.int p0), .val (.int p1), .val (.int p2), .val (.int p3), .val (.int p4), .val (.int p5), .val (.int ce), .val (.int oo), .val (.int kd), .val (.int qq), .val (.int tk), .val (.int n2), .val (.int n3), .val (.int n4), .val (.int n5), .val (.ref b6), .val (.long (own_f12 (((1 : Int64) <<< (((5 : Int32)) &&& 0x3f).toInt64) - (2 : Int64)) (own_plc (own_plc (own_plc (own_plc (own_plc (List.replicate 12 (0 : Int64)) ce tk) (ce ^^^ (2 : Int32)) n2) (ce ^^^ (8 : Int32)) n3) (ce ^^^ (5 : Int32)) n4) (ce ^^^ (3 : Int32)) n5) (own_f11 ce (0 : Int32)) (own_f11 ce (1 : Int32)) (own_f11 ce (2 : Int32)) tk)), .second, .unset, .unset, .unset, .unset, .unset, .unset, .unset, .unset, .unset] [(.int n4), (.long ((own_f13 n2) ||| (own_f13 n3)))]))
              refine own_callS X48 hx hZ hown (hw _ (List.mem_of_getElem? (i := 91) rfl)) (hw _ (List.mem_of_getElem? (i := 92) rfl)) (hw _ (List.mem_of_getElem? (i := 2) rfl)) (hw _ (List.mem_of_getElem? (i := 93) rfl)) (by decide) (rm13 l Z a0 hw n4 T37.heap n0 Z37) e48 (argsL := [(.int n4)]) (rest := [(.long ((own_f13 n2) ||| (own_f13 n3)))]) rfl rfl (by rw [hml]; rfl) (lenOf pd_0_5 rfl) (hb hby at_248) (W := 2) (Nat.le_of_eq rfl) (by decide) (by decide) (by decide) (by decide) ?_
              rintro v49 T49 L49 X49 ⟨rfl, M49, e49⟩
              have N49 := Fr.app N48 M49
              show own_Fin _ _ _ _ _ _ _ (T49.setTop (mkF m 251 #[.val (.int p0), .val (.int p1), .val (.int p2), .val (.int p3), .val (.int p4), .val (.int p5), .val (.int ce), .val (.int oo), .val (.int kd), .val (.int qq), .val (.int tk), .val (.int n2), .val (.int n3), .val (.int n4), .val (.int n5), .val (.ref b6), .val (.long (own_f12 (((1 : Int64) <<< (((5 : Int32)) &&& 0x3f).toInt64) - (2 : Int64)) (own_plc (own_plc (own_plc (own_plc (own_plc (List.replicate 12 (0 : Int64)) ce tk) (ce ^^^ (2 : Int32)) n2) (ce ^^^ (8 : Int32)) n3) (ce ^^^ (5 : Int32)) n4) (ce ^^^ (3 : Int32)) n5) (own_f11 ce (0 : Int32)) (own_f11 ce (1 : Int32)) (own_f11 ce (2 : Int32)) tk)), .second, .unset, .unset, .unset, .unset, .unset, .unset, .unset, .unset, .unset] [(.long (own_f13 n4)), (.long ((own_f13 n2) ||| (own_f13 n3)))]))
              refine own_go (fun _ kk => XS.lor X49.here hx rfl (hb hby at_251) rfl (XS.iload X49.here hx rfl (hb hby at_252) rfl kk)) ?_
              show own_Fin _ _ _ _ _ _ _ (T49.setTop (mkF m 254 #[.val (.int p0), .val (.int p1), .val (.int p2), .val (.int p3), .val (.int p4), .val (.int p5), .val (.int ce), .val (.int oo), .val (.int kd), .val (.int qq), .val (.int tk), .val (.int n2), .val (.int n3), .val (.int n4), .val (.int n5), .val (.ref b6), .val (.long (own_f12 (((1 : Int64) <<< (((5 : Int32)) &&& 0x3f).toInt64) - (2 : Int64)) (own_plc (own_plc (own_plc (own_plc (own_plc (List.replicate 12 (0 : Int64)) ce tk) (ce ^^^ (2 : Int32)) n2) (ce ^^^ (8 : Int32)) n3) (ce ^^^ (5 : Int32)) n4) (ce ^^^ (3 : Int32)) n5) (own_f11 ce (0 : Int32)) (own_f11 ce (1 : Int32)) (own_f11 ce (2 : Int32)) tk)), .second, .unset, .unset, .unset, .unset, .unset, .unset, .unset, .unset, .unset] [(.int n5), (.long (((own_f13 n2) ||| (own_f13 n3)) ||| (own_f13 n4)))]))
              refine own_callS X49 hx hZ hown (hw _ (List.mem_of_getElem? (i := 91) rfl)) (hw _ (List.mem_of_getElem? (i := 92) rfl)) (hw _ (List.mem_of_getElem? (i := 2) rfl)) (hw _ (List.mem_of_getElem? (i := 93) rfl)) (by decide) (rm13 l Z a0 hw n5 T37.heap n0 Z37) e49 (argsL := [(.int n5)]) (rest := [(.long (((own_f13 n2) ||| (own_f13 n3)) ||| (own_f13 n4)))]) rfl rfl (by rw [hml]; rfl) (lenOf pd_0_5 rfl) (hb hby at_254) (W := 2) (Nat.le_of_eq rfl) (by decide) (by decide) (by decide) (by decide) ?_
              rintro v50 T50 L50 X50 ⟨rfl, M50, e50⟩
              have N50 := Fr.app N49 M50
              show own_Fin _ _ _ _ _ _ _ (T50.setTop (mkF m 257 #[.val (.int p0), .val (.int p1), .val (.int p2), .val (.int p3), .val (.int p4), .val (.int p5), .val (.int ce), .val (.int oo), .val (.int kd), .val (.int qq), .val (.int tk), .val (.int n2), .val (.int n3), .val (.int n4), .val (.int n5), .val (.ref b6), .val (.long (own_f12 (((1 : Int64) <<< (((5 : Int32)) &&& 0x3f).toInt64) - (2 : Int64)) (own_plc (own_plc (own_plc (own_plc (own_plc (List.replicate 12 (0 : Int64)) ce tk) (ce ^^^ (2 : Int32)) n2) (ce ^^^ (8 : Int32)) n3) (ce ^^^ (5 : Int32)) n4) (ce ^^^ (3 : Int32)) n5) (own_f11 ce (0 : Int32)) (own_f11 ce (1 : Int32)) (own_f11 ce (2 : Int32)) tk)), .second, .unset, .unset, .unset, .unset, .unset, .unset, .unset, .unset, .unset] [(.long (own_f13 n5)), (.long (((own_f13 n2) ||| (own_f13 n3)) ||| (own_f13 n4)))]))
              refine own_go (fun _ kk => XS.lor X50.here hx rfl (hb hby at_257) rfl (XS.lstore X50.here hx rfl (hb hby at_258) rfl (l' := #[.val (.int p0), .val (.int p1), .val (.int p2), .val (.int p3), .val (.int p4), .val (.int p5), .val (.int ce), .val (.int oo), .val (.int kd), .val (.int qq), .val (.int tk), .val (.int n2), .val (.int n3), .val (.int n4), .val (.int n5), .val (.ref b6), .val (.long (own_f12 (((1 : Int64) <<< (((5 : Int32)) &&& 0x3f).toInt64) - (2 : Int64)) (own_plc (own_plc (own_plc (own_plc (own_plc (List.replicate 12 (0 : Int64)) ce tk) (ce ^^^ (2 : Int32)) n2) (ce ^^^ (8 : Int32)) n3) (ce ^^^ (5 : Int32)) n4) (ce ^^^ (3 : Int32)) n5) (own_f11 ce (0 : Int32)) (own_f11 ce (1 : Int32)) (own_f11 ce (2 : Int32)) tk)), .second, .val (.long ((((own_f13 n2) ||| (own_f13 n3)) ||| (own_f13 n4)) ||| (own_f13 n5))), .second, .unset, .unset, .unset, .unset, .unset, .unset, .unset]) rfl (XS.iconst X50.here hx rfl (hb hby at_260) (XS.istore X50.here hx rfl (hb hby at_261) rfl (l' := #[.val (.int p0), .val (.int p1), .val (.int p2), .val (.int p3), .val (.int p4), .val (.int p5), .val (.int ce), .val (.int oo), .val (.int kd), .val (.int qq), .val (.int tk), .val (.int n2), .val (.int n3), .val (.int n4), .val (.int n5), .val (.ref b6), .val (.long (own_f12 (((1 : Int64) <<< (((5 : Int32)) &&& 0x3f).toInt64) - (2 : Int64)) (own_plc (own_plc (own_plc (own_plc (own_plc (List.replicate 12 (0 : Int64)) ce tk) (ce ^^^ (2 : Int32)) n2) (ce ^^^ (8 : Int32)) n3) (ce ^^^ (5 : Int32)) n4) (ce ^^^ (3 : Int32)) n5) (own_f11 ce (0 : Int32)) (own_f11 ce (1 : Int32)) (own_f11 ce (2 : Int32)) tk)), .second, .val (.long ((((own_f13 n2) ||| (own_f13 n3)) ||| (own_f13 n4)) ||| (own_f13 n5))), .second, .val (.int (0 : Int32)), .unset, .unset, .unset, .unset, .unset, .unset]) rfl (XS.iconst X50.here hx rfl (hb hby at_263) (XS.iload X50.here hx rfl (hb hby at_264) rfl (XS.lload X50.here hx rfl (hb hby at_266) rfl kk))))))) ?_
              show own_Fin _ _ _ _ _ _ _ (T50.setTop (mkF m 268 #[.val (.int p0), .val (.int p1), .val (.int p2), .val (.int p3), .val (.int p4), .val (.int p5), .val (.int ce), .val (.int oo), .val (.int kd), .val (.int qq), .val (.int tk), .val (.int n2), .val (.int n3), .val (.int n4), .val (.int n5), .val (.ref b6), .val (.long (own_f12 (((1 : Int64) <<< (((5 : Int32)) &&& 0x3f).toInt64) - (2 : Int64)) (own_plc (own_plc (own_plc (own_plc (own_plc (List.replicate 12 (0 : Int64)) ce tk) (ce ^^^ (2 : Int32)) n2) (ce ^^^ (8 : Int32)) n3) (ce ^^^ (5 : Int32)) n4) (ce ^^^ (3 : Int32)) n5) (own_f11 ce (0 : Int32)) (own_f11 ce (1 : Int32)) (own_f11 ce (2 : Int32)) tk)), .second, .val (.long ((((own_f13 n2) ||| (own_f13 n3)) ||| (own_f13 n4)) ||| (own_f13 n5))), .second, .val (.int (0 : Int32)), .unset, .unset, .unset, .unset, .unset, .unset] [(.long ((((own_f13 n2) ||| (own_f13 n3)) ||| (own_f13 n4)) ||| (own_f13 n5))), (.int tk), (.int (4 : Int32))]))
              refine own_callS X50 hx hZ hown (hw _ (List.mem_of_getElem? (i := 94) rfl)) (hw _ (List.mem_of_getElem? (i := 95) rfl)) (hw _ (List.mem_of_getElem? (i := 2) rfl)) (hw _ (List.mem_of_getElem? (i := 96) rfl)) (by decide) (rm14 l Z a0 hw (4 : Int32) tk ((((own_f13 n2) ||| (own_f13 n3)) ||| (own_f13 n4)) ||| (own_f13 n5)) T37.heap n0 Z37) e50 (argsL := [(.int (4 : Int32)), (.int tk), (.long ((((own_f13 n2) ||| (own_f13 n3)) ||| (own_f13 n4)) ||| (own_f13 n5)))]) (rest := []) rfl rfl (by rw [hml]; rfl) (lenOf pd_0_6 rfl) (hb hby at_268) (W := 0) (Nat.le_of_eq rfl) (by decide) (by decide) (by decide) (by decide) ?_
              rintro v51 T51 L51 X51 ⟨rfl, M51, e51⟩
              have N51 := Fr.app N50 M51
              show own_Fin _ _ _ _ _ _ _ (T51.setTop (mkF m 271 #[.val (.int p0), .val (.int p1), .val (.int p2), .val (.int p3), .val (.int p4), .val (.int p5), .val (.int ce), .val (.int oo), .val (.int kd), .val (.int qq), .val (.int tk), .val (.int n2), .val (.int n3), .val (.int n4), .val (.int n5), .val (.ref b6), .val (.long (own_f12 (((1 : Int64) <<< (((5 : Int32)) &&& 0x3f).toInt64) - (2 : Int64)) (own_plc (own_plc (own_plc (own_plc (own_plc (List.replicate 12 (0 : Int64)) ce tk) (ce ^^^ (2 : Int32)) n2) (ce ^^^ (8 : Int32)) n3) (ce ^^^ (5 : Int32)) n4) (ce ^^^ (3 : Int32)) n5) (own_f11 ce (0 : Int32)) (own_f11 ce (1 : Int32)) (own_f11 ce (2 : Int32)) tk)), .second, .val (.long ((((own_f13 n2) ||| (own_f13 n3)) ||| (own_f13 n4)) ||| (own_f13 n5))), .second, .val (.int (0 : Int32)), .unset, .unset, .unset, .unset, .unset, .unset] [(.int (own_f14 (4 : Int32) tk ((((own_f13 n2) ||| (own_f13 n3)) ||| (own_f13 n4)) ||| (own_f13 n5))))]))
              refine own_go (U' := T51.setTop (mkF m 277 #[.val (.int p0), .val (.int p1), .val (.int p2), .val (.int p3), .val (.int p4), .val (.int p5), .val (.int ce), .val (.int oo), .val (.int kd), .val (.int qq), .val (.int tk), .val (.int n2), .val (.int n3), .val (.int n4), .val (.int n5), .val (.ref b6), .val (.long (own_f12 (((1 : Int64) <<< (((5 : Int32)) &&& 0x3f).toInt64) - (2 : Int64)) (own_plc (own_plc (own_plc (own_plc (own_plc (List.replicate 12 (0 : Int64)) ce tk) (ce ^^^ (2 : Int32)) n2) (ce ^^^ (8 : Int32)) n3) (ce ^^^ (5 : Int32)) n4) (ce ^^^ (3 : Int32)) n5) (own_f11 ce (0 : Int32)) (own_f11 ce (1 : Int32)) (own_f11 ce (2 : Int32)) tk)), .second, .val (.long ((((own_f13 n2) ||| (own_f13 n3)) ||| (own_f13 n4)) ||| (own_f13 n5))), .second, .val (.int (if (own_f14 (4 : Int32) tk ((((own_f13 n2) ||| (own_f13 n3)) ||| (own_f13 n4)) ||| (own_f13 n5))) = 0 then (0 : Int32) else (4 : Int32))), .unset, .unset, .unset, .unset, .unset, .unset] [])) (fun t k => ?_) ?_
              · by_cases hd271 : (own_f14 (4 : Int32) tk ((((own_f13 n2) ||| (own_f13 n3)) ||| (own_f13 n4)) ||| (own_f13 n5))) = 0
                · simp only [if_pos hd271] at k
                  refine XS.ifYes X51.here hx rfl (pc0 := 271) (pc' := 277) rfl (hb hby at_271) rfl (XT.i0_eq_t hd271) (by decide) (by decide) ?_
                  show Steps p.tables e below (T51.setTop (mkF m 277 #[.val (.int p0), .val (.int p1), .val (.int p2), .val (.int p3), .val (.int p4), .val (.int p5), .val (.int ce), .val (.int oo), .val (.int kd), .val (.int qq), .val (.int tk), .val (.int n2), .val (.int n3), .val (.int n4), .val (.int n5), .val (.ref b6), .val (.long (own_f12 (((1 : Int64) <<< (((5 : Int32)) &&& 0x3f).toInt64) - (2 : Int64)) (own_plc (own_plc (own_plc (own_plc (own_plc (List.replicate 12 (0 : Int64)) ce tk) (ce ^^^ (2 : Int32)) n2) (ce ^^^ (8 : Int32)) n3) (ce ^^^ (5 : Int32)) n4) (ce ^^^ (3 : Int32)) n5) (own_f11 ce (0 : Int32)) (own_f11 ce (1 : Int32)) (own_f11 ce (2 : Int32)) tk)), .second, .val (.long ((((own_f13 n2) ||| (own_f13 n3)) ||| (own_f13 n4)) ||| (own_f13 n5))), .second, .val (.int (0 : Int32)), .unset, .unset, .unset, .unset, .unset, .unset] [])) _
                  exact k
                · simp only [if_neg hd271] at k
                  refine XS.ifNo X51.here hx rfl (hb hby at_271) rfl (XT.i0_eq_f hd271) (XS.iconst X51.here hx rfl (hb hby at_274) (XS.istore X51.here hx rfl (hb hby at_275) rfl (l' := #[.val (.int p0), .val (.int p1), .val (.int p2), .val (.int p3), .val (.int p4), .val (.int p5), .val (.int ce), .val (.int oo), .val (.int kd), .val (.int qq), .val (.int tk), .val (.int n2), .val (.int n3), .val (.int n4), .val (.int n5), .val (.ref b6), .val (.long (own_f12 (((1 : Int64) <<< (((5 : Int32)) &&& 0x3f).toInt64) - (2 : Int64)) (own_plc (own_plc (own_plc (own_plc (own_plc (List.replicate 12 (0 : Int64)) ce tk) (ce ^^^ (2 : Int32)) n2) (ce ^^^ (8 : Int32)) n3) (ce ^^^ (5 : Int32)) n4) (ce ^^^ (3 : Int32)) n5) (own_f11 ce (0 : Int32)) (own_f11 ce (1 : Int32)) (own_f11 ce (2 : Int32)) tk)), .second, .val (.long ((((own_f13 n2) ||| (own_f13 n3)) ||| (own_f13 n4)) ||| (own_f13 n5))), .second, .val (.int (4 : Int32)), .unset, .unset, .unset, .unset, .unset, .unset]) rfl ?_))
                  show Steps p.tables e below (T51.setTop (mkF m 277 #[.val (.int p0), .val (.int p1), .val (.int p2), .val (.int p3), .val (.int p4), .val (.int p5), .val (.int ce), .val (.int oo), .val (.int kd), .val (.int qq), .val (.int tk), .val (.int n2), .val (.int n3), .val (.int n4), .val (.int n5), .val (.ref b6), .val (.long (own_f12 (((1 : Int64) <<< (((5 : Int32)) &&& 0x3f).toInt64) - (2 : Int64)) (own_plc (own_plc (own_plc (own_plc (own_plc (List.replicate 12 (0 : Int64)) ce tk) (ce ^^^ (2 : Int32)) n2) (ce ^^^ (8 : Int32)) n3) (ce ^^^ (5 : Int32)) n4) (ce ^^^ (3 : Int32)) n5) (own_f11 ce (0 : Int32)) (own_f11 ce (1 : Int32)) (own_f11 ce (2 : Int32)) tk)), .second, .val (.long ((((own_f13 n2) ||| (own_f13 n3)) ||| (own_f13 n4)) ||| (own_f13 n5))), .second, .val (.int (4 : Int32)), .unset, .unset, .unset, .unset, .unset, .unset] [])) _
                  exact k
              show own_Fin _ _ _ _ _ _ _ (T51.setTop (mkF m 277 #[.val (.int p0), .val (.int p1), .val (.int p2), .val (.int p3), .val (.int p4), .val (.int p5), .val (.int ce), .val (.int oo), .val (.int kd), .val (.int qq), .val (.int tk), .val (.int n2), .val (.int n3), .val (.int n4), .val (.int n5), .val (.ref b6), .val (.long (own_f12 (((1 : Int64) <<< (((5 : Int32)) &&& 0x3f).toInt64) - (2 : Int64)) (own_plc (own_plc (own_plc (own_plc (own_plc (List.replicate 12 (0 : Int64)) ce tk) (ce ^^^ (2 : Int32)) n2) (ce ^^^ (8 : Int32)) n3) (ce ^^^ (5 : Int32)) n4) (ce ^^^ (3 : Int32)) n5) (own_f11 ce (0 : Int32)) (own_f11 ce (1 : Int32)) (own_f11 ce (2 : Int32)) tk)), .second, .val (.long ((((own_f13 n2) ||| (own_f13 n3)) ||| (own_f13 n4)) ||| (own_f13 n5))), .second, .val (.int (if (own_f14 (4 : Int32) tk ((((own_f13 n2) ||| (own_f13 n3)) ||| (own_f13 n4)) ||| (own_f13 n5))) = 0 then (0 : Int32) else (4 : Int32))), .unset, .unset, .unset, .unset, .unset, .unset] []))
              refine own_go (fun _ kk => XS.iconst X51.here hx rfl (hb hby at_277) (XS.iload X51.here hx rfl (hb hby at_278) rfl (XS.lload X51.here hx rfl (hb hby at_280) rfl kk))) ?_
              show own_Fin _ _ _ _ _ _ _ (T51.setTop (mkF m 282 #[.val (.int p0), .val (.int p1), .val (.int p2), .val (.int p3), .val (.int p4), .val (.int p5), .val (.int ce), .val (.int oo), .val (.int kd), .val (.int qq), .val (.int tk), .val (.int n2), .val (.int n3), .val (.int n4), .val (.int n5), .val (.ref b6), .val (.long (own_f12 (((1 : Int64) <<< (((5 : Int32)) &&& 0x3f).toInt64) - (2 : Int64)) (own_plc (own_plc (own_plc (own_plc (own_plc (List.replicate 12 (0 : Int64)) ce tk) (ce ^^^ (2 : Int32)) n2) (ce ^^^ (8 : Int32)) n3) (ce ^^^ (5 : Int32)) n4) (ce ^^^ (3 : Int32)) n5) (own_f11 ce (0 : Int32)) (own_f11 ce (1 : Int32)) (own_f11 ce (2 : Int32)) tk)), .second, .val (.long ((((own_f13 n2) ||| (own_f13 n3)) ||| (own_f13 n4)) ||| (own_f13 n5))), .second, .val (.int (if (own_f14 (4 : Int32) tk ((((own_f13 n2) ||| (own_f13 n3)) ||| (own_f13 n4)) ||| (own_f13 n5))) = 0 then (0 : Int32) else (4 : Int32))), .unset, .unset, .unset, .unset, .unset, .unset] [(.long ((((own_f13 n2) ||| (own_f13 n3)) ||| (own_f13 n4)) ||| (own_f13 n5))), (.int tk), (.int (3 : Int32))]))
              refine own_callS X51 hx hZ hown (hw _ (List.mem_of_getElem? (i := 94) rfl)) (hw _ (List.mem_of_getElem? (i := 95) rfl)) (hw _ (List.mem_of_getElem? (i := 2) rfl)) (hw _ (List.mem_of_getElem? (i := 96) rfl)) (by decide) (rm14 l Z a0 hw (3 : Int32) tk ((((own_f13 n2) ||| (own_f13 n3)) ||| (own_f13 n4)) ||| (own_f13 n5)) T37.heap n0 Z37) e51 (argsL := [(.int (3 : Int32)), (.int tk), (.long ((((own_f13 n2) ||| (own_f13 n3)) ||| (own_f13 n4)) ||| (own_f13 n5)))]) (rest := []) rfl rfl (by rw [hml]; rfl) (lenOf pd_0_6 rfl) (hb hby at_282) (W := 0) (Nat.le_of_eq rfl) (by decide) (by decide) (by decide) (by decide) ?_
              rintro v52 T52 L52 X52 ⟨rfl, M52, e52⟩
              have N52 := Fr.app N51 M52
              show own_Fin _ _ _ _ _ _ _ (T52.setTop (mkF m 285 #[.val (.int p0), .val (.int p1), .val (.int p2), .val (.int p3), .val (.int p4), .val (.int p5), .val (.int ce), .val (.int oo), .val (.int kd), .val (.int qq), .val (.int tk), .val (.int n2), .val (.int n3), .val (.int n4), .val (.int n5), .val (.ref b6), .val (.long (own_f12 (((1 : Int64) <<< (((5 : Int32)) &&& 0x3f).toInt64) - (2 : Int64)) (own_plc (own_plc (own_plc (own_plc (own_plc (List.replicate 12 (0 : Int64)) ce tk) (ce ^^^ (2 : Int32)) n2) (ce ^^^ (8 : Int32)) n3) (ce ^^^ (5 : Int32)) n4) (ce ^^^ (3 : Int32)) n5) (own_f11 ce (0 : Int32)) (own_f11 ce (1 : Int32)) (own_f11 ce (2 : Int32)) tk)), .second, .val (.long ((((own_f13 n2) ||| (own_f13 n3)) ||| (own_f13 n4)) ||| (own_f13 n5))), .second, .val (.int (if (own_f14 (4 : Int32) tk ((((own_f13 n2) ||| (own_f13 n3)) ||| (own_f13 n4)) ||| (own_f13 n5))) = 0 then (0 : Int32) else (4 : Int32))), .unset, .unset, .unset, .unset, .unset, .unset] [(.int (own_f14 (3 : Int32) tk ((((own_f13 n2) ||| (own_f13 n3)) ||| (own_f13 n4)) ||| (own_f13 n5))))]))
              refine own_go (U' := T52.setTop (mkF m 291 #[.val (.int p0), .val (.int p1), .val (.int p2), .val (.int p3), .val (.int p4), .val (.int p5), .val (.int ce), .val (.int oo), .val (.int kd), .val (.int qq), .val (.int tk), .val (.int n2), .val (.int n3), .val (.int n4), .val (.int n5), .val (.ref b6), .val (.long (own_f12 (((1 : Int64) <<< (((5 : Int32)) &&& 0x3f).toInt64) - (2 : Int64)) (own_plc (own_plc (own_plc (own_plc (own_plc (List.replicate 12 (0 : Int64)) ce tk) (ce ^^^ (2 : Int32)) n2) (ce ^^^ (8 : Int32)) n3) (ce ^^^ (5 : Int32)) n4) (ce ^^^ (3 : Int32)) n5) (own_f11 ce (0 : Int32)) (own_f11 ce (1 : Int32)) (own_f11 ce (2 : Int32)) tk)), .second, .val (.long ((((own_f13 n2) ||| (own_f13 n3)) ||| (own_f13 n4)) ||| (own_f13 n5))), .second, .val (.int (if (own_f14 (3 : Int32) tk ((((own_f13 n2) ||| (own_f13 n3)) ||| (own_f13 n4)) ||| (own_f13 n5))) = 0 then (if (own_f14 (4 : Int32) tk ((((own_f13 n2) ||| (own_f13 n3)) ||| (own_f13 n4)) ||| (own_f13 n5))) = 0 then (0 : Int32) else (4 : Int32)) else (3 : Int32))), .unset, .unset, .unset, .unset, .unset, .unset] [])) (fun t k => ?_) ?_
              · by_cases hd285 : (own_f14 (3 : Int32) tk ((((own_f13 n2) ||| (own_f13 n3)) ||| (own_f13 n4)) ||| (own_f13 n5))) = 0
                · simp only [if_pos hd285] at k
                  refine XS.ifYes X52.here hx rfl (pc0 := 285) (pc' := 291) rfl (hb hby at_285) rfl (XT.i0_eq_t hd285) (by decide) (by decide) ?_
                  show Steps p.tables e below (T52.setTop (mkF m 291 #[.val (.int p0), .val (.int p1), .val (.int p2), .val (.int p3), .val (.int p4), .val (.int p5), .val (.int ce), .val (.int oo), .val (.int kd), .val (.int qq), .val (.int tk), .val (.int n2), .val (.int n3), .val (.int n4), .val (.int n5), .val (.ref b6), .val (.long (own_f12 (((1 : Int64) <<< (((5 : Int32)) &&& 0x3f).toInt64) - (2 : Int64)) (own_plc (own_plc (own_plc (own_plc (own_plc (List.replicate 12 (0 : Int64)) ce tk) (ce ^^^ (2 : Int32)) n2) (ce ^^^ (8 : Int32)) n3) (ce ^^^ (5 : Int32)) n4) (ce ^^^ (3 : Int32)) n5) (own_f11 ce (0 : Int32)) (own_f11 ce (1 : Int32)) (own_f11 ce (2 : Int32)) tk)), .second, .val (.long ((((own_f13 n2) ||| (own_f13 n3)) ||| (own_f13 n4)) ||| (own_f13 n5))), .second, .val (.int (if (own_f14 (4 : Int32) tk ((((own_f13 n2) ||| (own_f13 n3)) ||| (own_f13 n4)) ||| (own_f13 n5))) = 0 then (0 : Int32) else (4 : Int32))), .unset, .unset, .unset, .unset, .unset, .unset] [])) _
                  exact k
                · simp only [if_neg hd285] at k
                  refine XS.ifNo X52.here hx rfl (hb hby at_285) rfl (XT.i0_eq_f hd285) (XS.iconst X52.here hx rfl (hb hby at_288) (XS.istore X52.here hx rfl (hb hby at_289) rfl (l' := #[.val (.int p0), .val (.int p1), .val (.int p2), .val (.int p3), .val (.int p4), .val (.int p5), .val (.int ce), .val (.int oo), .val (.int kd), .val (.int qq), .val (.int tk), .val (.int n2), .val (.int n3), .val (.int n4), .val (.int n5), .val (.ref b6), .val (.long (own_f12 (((1 : Int64) <<< (((5 : Int32)) &&& 0x3f).toInt64) - (2 : Int64)) (own_plc (own_plc (own_plc (own_plc (own_plc (List.replicate 12 (0 : Int64)) ce tk) (ce ^^^ (2 : Int32)) n2) (ce ^^^ (8 : Int32)) n3) (ce ^^^ (5 : Int32)) n4) (ce ^^^ (3 : Int32)) n5) (own_f11 ce (0 : Int32)) (own_f11 ce (1 : Int32)) (own_f11 ce (2 : Int32)) tk)), .second, .val (.long ((((own_f13 n2) ||| (own_f13 n3)) ||| (own_f13 n4)) ||| (own_f13 n5))), .second, .val (.int (3 : Int32)), .unset, .unset, .unset, .unset, .unset, .unset]) rfl ?_))
                  show Steps p.tables e below (T52.setTop (mkF m 291 #[.val (.int p0), .val (.int p1), .val (.int p2), .val (.int p3), .val (.int p4), .val (.int p5), .val (.int ce), .val (.int oo), .val (.int kd), .val (.int qq), .val (.int tk), .val (.int n2), .val (.int n3), .val (.int n4), .val (.int n5), .val (.ref b6), .val (.long (own_f12 (((1 : Int64) <<< (((5 : Int32)) &&& 0x3f).toInt64) - (2 : Int64)) (own_plc (own_plc (own_plc (own_plc (own_plc (List.replicate 12 (0 : Int64)) ce tk) (ce ^^^ (2 : Int32)) n2) (ce ^^^ (8 : Int32)) n3) (ce ^^^ (5 : Int32)) n4) (ce ^^^ (3 : Int32)) n5) (own_f11 ce (0 : Int32)) (own_f11 ce (1 : Int32)) (own_f11 ce (2 : Int32)) tk)), .second, .val (.long ((((own_f13 n2) ||| (own_f13 n3)) ||| (own_f13 n4)) ||| (own_f13 n5))), .second, .val (.int (3 : Int32)), .unset, .unset, .unset, .unset, .unset, .unset] [])) _
                  exact k
              show own_Fin _ _ _ _ _ _ _ (T52.setTop (mkF m 291 #[.val (.int p0), .val (.int p1), .val (.int p2), .val (.int p3), .val (.int p4), .val (.int p5), .val (.int ce), .val (.int oo), .val (.int kd), .val (.int qq), .val (.int tk), .val (.int n2), .val (.int n3), .val (.int n4), .val (.int n5), .val (.ref b6), .val (.long (own_f12 (((1 : Int64) <<< (((5 : Int32)) &&& 0x3f).toInt64) - (2 : Int64)) (own_plc (own_plc (own_plc (own_plc (own_plc (List.replicate 12 (0 : Int64)) ce tk) (ce ^^^ (2 : Int32)) n2) (ce ^^^ (8 : Int32)) n3) (ce ^^^ (5 : Int32)) n4) (ce ^^^ (3 : Int32)) n5) (own_f11 ce (0 : Int32)) (own_f11 ce (1 : Int32)) (own_f11 ce (2 : Int32)) tk)), .second, .val (.long ((((own_f13 n2) ||| (own_f13 n3)) ||| (own_f13 n4)) ||| (own_f13 n5))), .second, .val (.int (if (own_f14 (3 : Int32) tk ((((own_f13 n2) ||| (own_f13 n3)) ||| (own_f13 n4)) ||| (own_f13 n5))) = 0 then (if (own_f14 (4 : Int32) tk ((((own_f13 n2) ||| (own_f13 n3)) ||| (own_f13 n4)) ||| (own_f13 n5))) = 0 then (0 : Int32) else (4 : Int32)) else (3 : Int32))), .unset, .unset, .unset, .unset, .unset, .unset] []))
              refine own_go (fun _ kk => XS.iconst X52.here hx rfl (hb hby at_291) (XS.iload X52.here hx rfl (hb hby at_292) rfl (XS.lload X52.here hx rfl (hb hby at_294) rfl kk))) ?_
              show own_Fin _ _ _ _ _ _ _ (T52.setTop (mkF m 296 #[.val (.int p0), .val (.int p1), .val (.int p2), .val (.int p3), .val (.int p4), .val (.int p5), .val (.int ce), .val (.int oo), .val (.int kd), .val (.int qq), .val (.int tk), .val (.int n2), .val (.int n3), .val (.int n4), .val (.int n5), .val (.ref b6), .val (.long (own_f12 (((1 : Int64) <<< (((5 : Int32)) &&& 0x3f).toInt64) - (2 : Int64)) (own_plc (own_plc (own_plc (own_plc (own_plc (List.replicate 12 (0 : Int64)) ce tk) (ce ^^^ (2 : Int32)) n2) (ce ^^^ (8 : Int32)) n3) (ce ^^^ (5 : Int32)) n4) (ce ^^^ (3 : Int32)) n5) (own_f11 ce (0 : Int32)) (own_f11 ce (1 : Int32)) (own_f11 ce (2 : Int32)) tk)), .second, .val (.long ((((own_f13 n2) ||| (own_f13 n3)) ||| (own_f13 n4)) ||| (own_f13 n5))), .second, .val (.int (if (own_f14 (3 : Int32) tk ((((own_f13 n2) ||| (own_f13 n3)) ||| (own_f13 n4)) ||| (own_f13 n5))) = 0 then (if (own_f14 (4 : Int32) tk ((((own_f13 n2) ||| (own_f13 n3)) ||| (own_f13 n4)) ||| (own_f13 n5))) = 0 then (0 : Int32) else (4 : Int32)) else (3 : Int32))), .unset, .unset, .unset, .unset, .unset, .unset] [(.long ((((own_f13 n2) ||| (own_f13 n3)) ||| (own_f13 n4)) ||| (own_f13 n5))), (.int tk), (.int (2 : Int32))]))
              refine own_callS X52 hx hZ hown (hw _ (List.mem_of_getElem? (i := 94) rfl)) (hw _ (List.mem_of_getElem? (i := 95) rfl)) (hw _ (List.mem_of_getElem? (i := 2) rfl)) (hw _ (List.mem_of_getElem? (i := 96) rfl)) (by decide) (rm14 l Z a0 hw (2 : Int32) tk ((((own_f13 n2) ||| (own_f13 n3)) ||| (own_f13 n4)) ||| (own_f13 n5)) T37.heap n0 Z37) e52 (argsL := [(.int (2 : Int32)), (.int tk), (.long ((((own_f13 n2) ||| (own_f13 n3)) ||| (own_f13 n4)) ||| (own_f13 n5)))]) (rest := []) rfl rfl (by rw [hml]; rfl) (lenOf pd_0_6 rfl) (hb hby at_296) (W := 0) (Nat.le_of_eq rfl) (by decide) (by decide) (by decide) (by decide) ?_
              rintro v53 T53 L53 X53 ⟨rfl, M53, e53⟩
              have N53 := Fr.app N52 M53
              show own_Fin _ _ _ _ _ _ _ (T53.setTop (mkF m 299 #[.val (.int p0), .val (.int p1), .val (.int p2), .val (.int p3), .val (.int p4), .val (.int p5), .val (.int ce), .val (.int oo), .val (.int kd), .val (.int qq), .val (.int tk), .val (.int n2), .val (.int n3), .val (.int n4), .val (.int n5), .val (.ref b6), .val (.long (own_f12 (((1 : Int64) <<< (((5 : Int32)) &&& 0x3f).toInt64) - (2 : Int64)) (own_plc (own_plc (own_plc (own_plc (own_plc (List.replicate 12 (0 : Int64)) ce tk) (ce ^^^ (2 : Int32)) n2) (ce ^^^ (8 : Int32)) n3) (ce ^^^ (5 : Int32)) n4) (ce ^^^ (3 : Int32)) n5) (own_f11 ce (0 : Int32)) (own_f11 ce (1 : Int32)) (own_f11 ce (2 : Int32)) tk)), .second, .val (.long ((((own_f13 n2) ||| (own_f13 n3)) ||| (own_f13 n4)) ||| (own_f13 n5))), .second, .val (.int (if (own_f14 (3 : Int32) tk ((((own_f13 n2) ||| (own_f13 n3)) ||| (own_f13 n4)) ||| (own_f13 n5))) = 0 then (if (own_f14 (4 : Int32) tk ((((own_f13 n2) ||| (own_f13 n3)) ||| (own_f13 n4)) ||| (own_f13 n5))) = 0 then (0 : Int32) else (4 : Int32)) else (3 : Int32))), .unset, .unset, .unset, .unset, .unset, .unset] [(.int (own_f14 (2 : Int32) tk ((((own_f13 n2) ||| (own_f13 n3)) ||| (own_f13 n4)) ||| (own_f13 n5))))]))
              refine own_go (U' := T53.setTop (mkF m 305 #[.val (.int p0), .val (.int p1), .val (.int p2), .val (.int p3), .val (.int p4), .val (.int p5), .val (.int ce), .val (.int oo), .val (.int kd), .val (.int qq), .val (.int tk), .val (.int n2), .val (.int n3), .val (.int n4), .val (.int n5), .val (.ref b6), .val (.long (own_f12 (((1 : Int64) <<< (((5 : Int32)) &&& 0x3f).toInt64) - (2 : Int64)) (own_plc (own_plc (own_plc (own_plc (own_plc (List.replicate 12 (0 : Int64)) ce tk) (ce ^^^ (2 : Int32)) n2) (ce ^^^ (8 : Int32)) n3) (ce ^^^ (5 : Int32)) n4) (ce ^^^ (3 : Int32)) n5) (own_f11 ce (0 : Int32)) (own_f11 ce (1 : Int32)) (own_f11 ce (2 : Int32)) tk)), .second, .val (.long ((((own_f13 n2) ||| (own_f13 n3)) ||| (own_f13 n4)) ||| (own_f13 n5))), .second, .val (.int (if (own_f14 (2 : Int32) tk ((((own_f13 n2) ||| (own_f13 n3)) ||| (own_f13 n4)) ||| (own_f13 n5))) = 0 then (if (own_f14 (3 : Int32) tk ((((own_f13 n2) ||| (own_f13 n3)) ||| (own_f13 n4)) ||| (own_f13 n5))) = 0 then (if (own_f14 (4 : Int32) tk ((((own_f13 n2) ||| (own_f13 n3)) ||| (own_f13 n4)) ||| (own_f13 n5))) = 0 then (0 : Int32) else (4 : Int32)) else (3 : Int32)) else (2 : Int32))), .unset, .unset, .unset, .unset, .unset, .unset] [])) (fun t k => ?_) ?_
              · by_cases hd299 : (own_f14 (2 : Int32) tk ((((own_f13 n2) ||| (own_f13 n3)) ||| (own_f13 n4)) ||| (own_f13 n5))) = 0
                · simp only [if_pos hd299] at k
                  refine XS.ifYes X53.here hx rfl (pc0 := 299) (pc' := 305) rfl (hb hby at_299) rfl (XT.i0_eq_t hd299) (by decide) (by decide) ?_
                  show Steps p.tables e below (T53.setTop (mkF m 305 #[.val (.int p0), .val (.int p1), .val (.int p2), .val (.int p3), .val (.int p4), .val (.int p5), .val (.int ce), .val (.int oo), .val (.int kd), .val (.int qq), .val (.int tk), .val (.int n2), .val (.int n3), .val (.int n4), .val (.int n5), .val (.ref b6), .val (.long (own_f12 (((1 : Int64) <<< (((5 : Int32)) &&& 0x3f).toInt64) - (2 : Int64)) (own_plc (own_plc (own_plc (own_plc (own_plc (List.replicate 12 (0 : Int64)) ce tk) (ce ^^^ (2 : Int32)) n2) (ce ^^^ (8 : Int32)) n3) (ce ^^^ (5 : Int32)) n4) (ce ^^^ (3 : Int32)) n5) (own_f11 ce (0 : Int32)) (own_f11 ce (1 : Int32)) (own_f11 ce (2 : Int32)) tk)), .second, .val (.long ((((own_f13 n2) ||| (own_f13 n3)) ||| (own_f13 n4)) ||| (own_f13 n5))), .second, .val (.int (if (own_f14 (3 : Int32) tk ((((own_f13 n2) ||| (own_f13 n3)) ||| (own_f13 n4)) ||| (own_f13 n5))) = 0 then (if (own_f14 (4 : Int32) tk ((((own_f13 n2) ||| (own_f13 n3)) ||| (own_f13 n4)) ||| (own_f13 n5))) = 0 then (0 : Int32) else (4 : Int32)) else (3 : Int32))), .unset, .unset, .unset, .unset, .unset, .unset] [])) _
                  exact k
                · simp only [if_neg hd299] at k
                  refine XS.ifNo X53.here hx rfl (hb hby at_299) rfl (XT.i0_eq_f hd299) (XS.iconst X53.here hx rfl (hb hby at_302) (XS.istore X53.here hx rfl (hb hby at_303) rfl (l' := #[.val (.int p0), .val (.int p1), .val (.int p2), .val (.int p3), .val (.int p4), .val (.int p5), .val (.int ce), .val (.int oo), .val (.int kd), .val (.int qq), .val (.int tk), .val (.int n2), .val (.int n3), .val (.int n4), .val (.int n5), .val (.ref b6), .val (.long (own_f12 (((1 : Int64) <<< (((5 : Int32)) &&& 0x3f).toInt64) - (2 : Int64)) (own_plc (own_plc (own_plc (own_plc (own_plc (List.replicate 12 (0 : Int64)) ce tk) (ce ^^^ (2 : Int32)) n2) (ce ^^^ (8 : Int32)) n3) (ce ^^^ (5 : Int32)) n4) (ce ^^^ (3 : Int32)) n5) (own_f11 ce (0 : Int32)) (own_f11 ce (1 : Int32)) (own_f11 ce (2 : Int32)) tk)), .second, .val (.long ((((own_f13 n2) ||| (own_f13 n3)) ||| (own_f13 n4)) ||| (own_f13 n5))), .second, .val (.int (2 : Int32)), .unset, .unset, .unset, .unset, .unset, .unset]) rfl ?_))
                  show Steps p.tables e below (T53.setTop (mkF m 305 #[.val (.int p0), .val (.int p1), .val (.int p2), .val (.int p3), .val (.int p4), .val (.int p5), .val (.int ce), .val (.int oo), .val (.int kd), .val (.int qq), .val (.int tk), .val (.int n2), .val (.int n3), .val (.int n4), .val (.int n5), .val (.ref b6), .val (.long (own_f12 (((1 : Int64) <<< (((5 : Int32)) &&& 0x3f).toInt64) - (2 : Int64)) (own_plc (own_plc (own_plc (own_plc (own_plc (List.replicate 12 (0 : Int64)) ce tk) (ce ^^^ (2 : Int32)) n2) (ce ^^^ (8 : Int32)) n3) (ce ^^^ (5 : Int32)) n4) (ce ^^^ (3 : Int32)) n5) (own_f11 ce (0 : Int32)) (own_f11 ce (1 : Int32)) (own_f11 ce (2 : Int32)) tk)), .second, .val (.long ((((own_f13 n2) ||| (own_f13 n3)) ||| (own_f13 n4)) ||| (own_f13 n5))), .second, .val (.int (2 : Int32)), .unset, .unset, .unset, .unset, .unset, .unset] [])) _
                  exact k
              show own_Fin _ _ _ _ _ _ _ (T53.setTop (mkF m 305 #[.val (.int p0), .val (.int p1), .val (.int p2), .val (.int p3), .val (.int p4), .val (.int p5), .val (.int ce), .val (.int oo), .val (.int kd), .val (.int qq), .val (.int tk), .val (.int n2), .val (.int n3), .val (.int n4), .val (.int n5), .val (.ref b6), .val (.long (own_f12 (((1 : Int64) <<< (((5 : Int32)) &&& 0x3f).toInt64) - (2 : Int64)) (own_plc (own_plc (own_plc (own_plc (own_plc (List.replicate 12 (0 : Int64)) ce tk) (ce ^^^ (2 : Int32)) n2) (ce ^^^ (8 : Int32)) n3) (ce ^^^ (5 : Int32)) n4) (ce ^^^ (3 : Int32)) n5) (own_f11 ce (0 : Int32)) (own_f11 ce (1 : Int32)) (own_f11 ce (2 : Int32)) tk)), .second, .val (.long ((((own_f13 n2) ||| (own_f13 n3)) ||| (own_f13 n4)) ||| (own_f13 n5))), .second, .val (.int (if (own_f14 (2 : Int32) tk ((((own_f13 n2) ||| (own_f13 n3)) ||| (own_f13 n4)) ||| (own_f13 n5))) = 0 then (if (own_f14 (3 : Int32) tk ((((own_f13 n2) ||| (own_f13 n3)) ||| (own_f13 n4)) ||| (own_f13 n5))) = 0 then (if (own_f14 (4 : Int32) tk ((((own_f13 n2) ||| (own_f13 n3)) ||| (own_f13 n4)) ||| (own_f13 n5))) = 0 then (0 : Int32) else (4 : Int32)) else (3 : Int32)) else (2 : Int32))), .unset, .unset, .unset, .unset, .unset, .unset] []))
              refine own_go (fun _ kk => XS.iconst X53.here hx rfl (hb hby at_305) (XS.iload X53.here hx rfl (hb hby at_306) rfl (XS.lload X53.here hx rfl (hb hby at_308) rfl kk))) ?_
              show own_Fin _ _ _ _ _ _ _ (T53.setTop (mkF m 310 #[.val (.int p0), .val (.int p1), .val (.int p2), .val (.int p3), .val (.int p4), .val (.int p5), .val (.int ce), .val (.int oo), .val (.int kd), .val (.int qq), .val (.int tk), .val (.int n2), .val (.int n3), .val (.int n4), .val (.int n5), .val (.ref b6), .val (.long (own_f12 (((1 : Int64) <<< (((5 : Int32)) &&& 0x3f).toInt64) - (2 : Int64)) (own_plc (own_plc (own_plc (own_plc (own_plc (List.replicate 12 (0 : Int64)) ce tk) (ce ^^^ (2 : Int32)) n2) (ce ^^^ (8 : Int32)) n3) (ce ^^^ (5 : Int32)) n4) (ce ^^^ (3 : Int32)) n5) (own_f11 ce (0 : Int32)) (own_f11 ce (1 : Int32)) (own_f11 ce (2 : Int32)) tk)), .second, .val (.long ((((own_f13 n2) ||| (own_f13 n3)) ||| (own_f13 n4)) ||| (own_f13 n5))), .second, .val (.int (if (own_f14 (2 : Int32) tk ((((own_f13 n2) ||| (own_f13 n3)) ||| (own_f13 n4)) ||| (own_f13 n5))) = 0 then (if (own_f14 (3 : Int32) tk ((((own_f13 n2) ||| (own_f13 n3)) ||| (own_f13 n4)) ||| (own_f13 n5))) = 0 then (if (own_f14 (4 : Int32) tk ((((own_f13 n2) ||| (own_f13 n3)) ||| (own_f13 n4)) ||| (own_f13 n5))) = 0 then (0 : Int32) else (4 : Int32)) else (3 : Int32)) else (2 : Int32))), .unset, .unset, .unset, .unset, .unset, .unset] [(.long ((((own_f13 n2) ||| (own_f13 n3)) ||| (own_f13 n4)) ||| (own_f13 n5))), (.int tk), (.int (1 : Int32))]))
              refine own_callS X53 hx hZ hown (hw _ (List.mem_of_getElem? (i := 94) rfl)) (hw _ (List.mem_of_getElem? (i := 95) rfl)) (hw _ (List.mem_of_getElem? (i := 2) rfl)) (hw _ (List.mem_of_getElem? (i := 96) rfl)) (by decide) (rm14 l Z a0 hw (1 : Int32) tk ((((own_f13 n2) ||| (own_f13 n3)) ||| (own_f13 n4)) ||| (own_f13 n5)) T37.heap n0 Z37) e53 (argsL := [(.int (1 : Int32)), (.int tk), (.long ((((own_f13 n2) ||| (own_f13 n3)) ||| (own_f13 n4)) ||| (own_f13 n5)))]) (rest := []) rfl rfl (by rw [hml]; rfl) (lenOf pd_0_6 rfl) (hb hby at_310) (W := 0) (Nat.le_of_eq rfl) (by decide) (by decide) (by decide) (by decide) ?_
              rintro v54 T54 L54 X54 ⟨rfl, M54, e54⟩
              have N54 := Fr.app N53 M54
              show own_Fin _ _ _ _ _ _ _ (T54.setTop (mkF m 313 #[.val (.int p0), .val (.int p1), .val (.int p2), .val (.int p3), .val (.int p4), .val (.int p5), .val (.int ce), .val (.int oo), .val (.int kd), .val (.int qq), .val (.int tk), .val (.int n2), .val (.int n3), .val (.int n4), .val (.int n5), .val (.ref b6), .val (.long (own_f12 (((1 : Int64) <<< (((5 : Int32)) &&& 0x3f).toInt64) - (2 : Int64)) (own_plc (own_plc (own_plc (own_plc (own_plc (List.replicate 12 (0 : Int64)) ce tk) (ce ^^^ (2 : Int32)) n2) (ce ^^^ (8 : Int32)) n3) (ce ^^^ (5 : Int32)) n4) (ce ^^^ (3 : Int32)) n5) (own_f11 ce (0 : Int32)) (own_f11 ce (1 : Int32)) (own_f11 ce (2 : Int32)) tk)), .second, .val (.long ((((own_f13 n2) ||| (own_f13 n3)) ||| (own_f13 n4)) ||| (own_f13 n5))), .second, .val (.int (if (own_f14 (2 : Int32) tk ((((own_f13 n2) ||| (own_f13 n3)) ||| (own_f13 n4)) ||| (own_f13 n5))) = 0 then (if (own_f14 (3 : Int32) tk ((((own_f13 n2) ||| (own_f13 n3)) ||| (own_f13 n4)) ||| (own_f13 n5))) = 0 then (if (own_f14 (4 : Int32) tk ((((own_f13 n2) ||| (own_f13 n3)) ||| (own_f13 n4)) ||| (own_f13 n5))) = 0 then (0 : Int32) else (4 : Int32)) else (3 : Int32)) else (2 : Int32))), .unset, .unset, .unset, .unset, .unset, .unset] [(.int (own_f14 (1 : Int32) tk ((((own_f13 n2) ||| (own_f13 n3)) ||| (own_f13 n4)) ||| (own_f13 n5))))]))
              refine own_go (U' := T54.setTop (mkF m 319 #[.val (.int p0), .val (.int p1), .val (.int p2), .val (.int p3), .val (.int p4), .val (.int p5), .val (.int ce), .val (.int oo), .val (.int kd), .val (.int qq), .val (.int tk), .val (.int n2), .val (.int n3), .val (.int n4), .val (.int n5), .val (.ref b6), .val (.long (own_f12 (((1 : Int64) <<< (((5 : Int32)) &&& 0x3f).toInt64) - (2 : Int64)) (own_plc (own_plc (own_plc (own_plc (own_plc (List.replicate 12 (0 : Int64)) ce tk) (ce ^^^ (2 : Int32)) n2) (ce ^^^ (8 : Int32)) n3) (ce ^^^ (5 : Int32)) n4) (ce ^^^ (3 : Int32)) n5) (own_f11 ce (0 : Int32)) (own_f11 ce (1 : Int32)) (own_f11 ce (2 : Int32)) tk)), .second, .val (.long ((((own_f13 n2) ||| (own_f13 n3)) ||| (own_f13 n4)) ||| (own_f13 n5))), .second, .val (.int (if (own_f14 (1 : Int32) tk ((((own_f13 n2) ||| (own_f13 n3)) ||| (own_f13 n4)) ||| (own_f13 n5))) = 0 then (if (own_f14 (2 : Int32) tk ((((own_f13 n2) ||| (own_f13 n3)) ||| (own_f13 n4)) ||| (own_f13 n5))) = 0 then (if (own_f14 (3 : Int32) tk ((((own_f13 n2) ||| (own_f13 n3)) ||| (own_f13 n4)) ||| (own_f13 n5))) = 0 then (if (own_f14 (4 : Int32) tk ((((own_f13 n2) ||| (own_f13 n3)) ||| (own_f13 n4)) ||| (own_f13 n5))) = 0 then (0 : Int32) else (4 : Int32)) else (3 : Int32)) else (2 : Int32)) else (1 : Int32))), .unset, .unset, .unset, .unset, .unset, .unset] [])) (fun t k => ?_) ?_
              · by_cases hd313 : (own_f14 (1 : Int32) tk ((((own_f13 n2) ||| (own_f13 n3)) ||| (own_f13 n4)) ||| (own_f13 n5))) = 0
                · simp only [if_pos hd313] at k
                  refine XS.ifYes X54.here hx rfl (pc0 := 313) (pc' := 319) rfl (hb hby at_313) rfl (XT.i0_eq_t hd313) (by decide) (by decide) ?_
                  show Steps p.tables e below (T54.setTop (mkF m 319 #[.val (.int p0), .val (.int p1), .val (.int p2), .val (.int p3), .val (.int p4), .val (.int p5), .val (.int ce), .val (.int oo), .val (.int kd), .val (.int qq), .val (.int tk), .val (.int n2), .val (.int n3), .val (.int n4), .val (.int n5), .val (.ref b6), .val (.long (own_f12 (((1 : Int64) <<< (((5 : Int32)) &&& 0x3f).toInt64) - (2 : Int64)) (own_plc (own_plc (own_plc (own_plc (own_plc (List.replicate 12 (0 : Int64)) ce tk) (ce ^^^ (2 : Int32)) n2) (ce ^^^ (8 : Int32)) n3) (ce ^^^ (5 : Int32)) n4) (ce ^^^ (3 : Int32)) n5) (own_f11 ce (0 : Int32)) (own_f11 ce (1 : Int32)) (own_f11 ce (2 : Int32)) tk)), .second, .val (.long ((((own_f13 n2) ||| (own_f13 n3)) ||| (own_f13 n4)) ||| (own_f13 n5))), .second, .val (.int (if (own_f14 (2 : Int32) tk ((((own_f13 n2) ||| (own_f13 n3)) ||| (own_f13 n4)) ||| (own_f13 n5))) = 0 then (if (own_f14 (3 : Int32) tk ((((own_f13 n2) ||| (own_f13 n3)) ||| (own_f13 n4)) ||| (own_f13 n5))) = 0 then (if (own_f14 (4 : Int32) tk ((((own_f13 n2) ||| (own_f13 n3)) ||| (own_f13 n4)) ||| (own_f13 n5))) = 0 then (0 : Int32) else (4 : Int32)) else (3 : Int32)) else (2 : Int32))), .unset, .unset, .unset, .unset, .unset, .unset] [])) _
                  exact k
                · simp only [if_neg hd313] at k
                  refine XS.ifNo X54.here hx rfl (hb hby at_313) rfl (XT.i0_eq_f hd313) (XS.iconst X54.here hx rfl (hb hby at_316) (XS.istore X54.here hx rfl (hb hby at_317) rfl (l' := #[.val (.int p0), .val (.int p1), .val (.int p2), .val (.int p3), .val (.int p4), .val (.int p5), .val (.int ce), .val (.int oo), .val (.int kd), .val (.int qq), .val (.int tk), .val (.int n2), .val (.int n3), .val (.int n4), .val (.int n5), .val (.ref b6), .val (.long (own_f12 (((1 : Int64) <<< (((5 : Int32)) &&& 0x3f).toInt64) - (2 : Int64)) (own_plc (own_plc (own_plc (own_plc (own_plc (List.replicate 12 (0 : Int64)) ce tk) (ce ^^^ (2 : Int32)) n2) (ce ^^^ (8 : Int32)) n3) (ce ^^^ (5 : Int32)) n4) (ce ^^^ (3 : Int32)) n5) (own_f11 ce (0 : Int32)) (own_f11 ce (1 : Int32)) (own_f11 ce (2 : Int32)) tk)), .second, .val (.long ((((own_f13 n2) ||| (own_f13 n3)) ||| (own_f13 n4)) ||| (own_f13 n5))), .second, .val (.int (1 : Int32)), .unset, .unset, .unset, .unset, .unset, .unset]) rfl ?_))
                  show Steps p.tables e below (T54.setTop (mkF m 319 #[.val (.int p0), .val (.int p1), .val (.int p2), .val (.int p3), .val (.int p4), .val (.int p5), .val (.int ce), .val (.int oo), .val (.int kd), .val (.int qq), .val (.int tk), .val (.int n2), .val (.int n3), .val (.int n4), .val (.int n5), .val (.ref b6), .val (.long (own_f12 (((1 : Int64) <<< (((5 : Int32)) &&& 0x3f).toInt64) - (2 : Int64)) (own_plc (own_plc (own_plc (own_plc (own_plc (List.replicate 12 (0 : Int64)) ce tk) (ce ^^^ (2 : Int32)) n2) (ce ^^^ (8 : Int32)) n3) (ce ^^^ (5 : Int32)) n4) (ce ^^^ (3 : Int32)) n5) (own_f11 ce (0 : Int32)) (own_f11 ce (1 : Int32)) (own_f11 ce (2 : Int32)) tk)), .second, .val (.long ((((own_f13 n2) ||| (own_f13 n3)) ||| (own_f13 n4)) ||| (own_f13 n5))), .second, .val (.int (1 : Int32)), .unset, .unset, .unset, .unset, .unset, .unset] [])) _
                  exact k
              show own_Fin _ _ _ _ _ _ _ (T54.setTop (mkF m 319 #[.val (.int p0), .val (.int p1), .val (.int p2), .val (.int p3), .val (.int p4), .val (.int p5), .val (.int ce), .val (.int oo), .val (.int kd), .val (.int qq), .val (.int tk), .val (.int n2), .val (.int n3), .val (.int n4), .val (.int n5), .val (.ref b6), .val (.long (own_f12 (((1 : Int64) <<< (((5 : Int32)) &&& 0x3f).toInt64) - (2 : Int64)) (own_plc (own_plc (own_plc (own_plc (own_plc (List.replicate 12 (0 : Int64)) ce tk) (ce ^^^ (2 : Int32)) n2) (ce ^^^ (8 : Int32)) n3) (ce ^^^ (5 : Int32)) n4) (ce ^^^ (3 : Int32)) n5) (own_f11 ce (0 : Int32)) (own_f11 ce (1 : Int32)) (own_f11 ce (2 : Int32)) tk)), .second, .val (.long ((((own_f13 n2) ||| (own_f13 n3)) ||| (own_f13 n4)) ||| (own_f13 n5))), .second, .val (.int (if (own_f14 (1 : Int32) tk ((((own_f13 n2) ||| (own_f13 n3)) ||| (own_f13 n4)) ||| (own_f13 n5))) = 0 then (if (own_f14 (2 : Int32) tk ((((own_f13 n2) ||| (own_f13 n3)) ||| (own_f13 n4)) ||| (own_f13 n5))) = 0 then (if (own_f14 (3 : Int32) tk ((((own_f13 n2) ||| (own_f13 n3)) ||| (own_f13 n4)) ||| (own_f13 n5))) = 0 then (if (own_f14 (4 : Int32) tk ((((own_f13 n2) ||| (own_f13 n3)) ||| (own_f13 n4)) ||| (own_f13 n5))) = 0 then (0 : Int32) else (4 : Int32)) else (3 : Int32)) else (2 : Int32)) else (1 : Int32))), .unset, .unset, .unset, .unset, .unset, .unset] []))
              refine own_go (fun _ kk => XS.iload X54.here hx rfl (hb hby at_319) rfl kk) ?_
              show own_Fin _ _ _ _ _ _ _ (T54.setTop (mkF m 321 #[.val (.int p0), .val (.int p1), .val (.int p2), .val (.int p3), .val (.int p4), .val (.int p5), .val (.int ce), .val (.int oo), .val (.int kd), .val (.int qq), .val (.int tk), .val (.int n2), .val (.int n3), .val (.int n4), .val (.int n5), .val (.ref b6), .val (.long (own_f12 (((1 : Int64) <<< (((5 : Int32)) &&& 0x3f).toInt64) - (2 : Int64)) (own_plc (own_plc (own_plc (own_plc (own_plc (List.replicate 12 (0 : Int64)) ce tk) (ce ^^^ (2 : Int32)) n2) (ce ^^^ (8 : Int32)) n3) (ce ^^^ (5 : Int32)) n4) (ce ^^^ (3 : Int32)) n5) (own_f11 ce (0 : Int32)) (own_f11 ce (1 : Int32)) (own_f11 ce (2 : Int32)) tk)), .second, .val (.long ((((own_f13 n2) ||| (own_f13 n3)) ||| (own_f13 n4)) ||| (own_f13 n5))), .second, .val (.int (if (own_f14 (1 : Int32) tk ((((own_f13 n2) ||| (own_f13 n3)) ||| (own_f13 n4)) ||| (own_f13 n5))) = 0 then (if (own_f14 (2 : Int32) tk ((((own_f13 n2) ||| (own_f13 n3)) ||| (own_f13 n4)) ||| (own_f13 n5))) = 0 then (if (own_f14 (3 : Int32) tk ((((own_f13 n2) ||| (own_f13 n3)) ||| (own_f13 n4)) ||| (own_f13 n5))) = 0 then (if (own_f14 (4 : Int32) tk ((((own_f13 n2) ||| (own_f13 n3)) ||| (own_f13 n4)) ||| (own_f13 n5))) = 0 then (0 : Int32) else (4 : Int32)) else (3 : Int32)) else (2 : Int32)) else (1 : Int32))), .unset, .unset, .unset, .unset, .unset, .unset] [(.int (if (own_f14 (1 : Int32) tk ((((own_f13 n2) ||| (own_f13 n3)) ||| (own_f13 n4)) ||| (own_f13 n5))) = 0 then (if (own_f14 (2 : Int32) tk ((((own_f13 n2) ||| (own_f13 n3)) ||| (own_f13 n4)) ||| (own_f13 n5))) = 0 then (if (own_f14 (3 : Int32) tk ((((own_f13 n2) ||| (own_f13 n3)) ||| (own_f13 n4)) ||| (own_f13 n5))) = 0 then (if (own_f14 (4 : Int32) tk ((((own_f13 n2) ||| (own_f13 n3)) ||| (own_f13 n4)) ||| (own_f13 n5))) = 0 then (0 : Int32) else (4 : Int32)) else (3 : Int32)) else (2 : Int32)) else (1 : Int32)))]))
              refine own_callS X54 hx hZ hown (hw _ (List.mem_of_getElem? (i := 91) rfl)) (hw _ (List.mem_of_getElem? (i := 92) rfl)) (hw _ (List.mem_of_getElem? (i := 2) rfl)) (hw _ (List.mem_of_getElem? (i := 93) rfl)) (by decide) (rm13 l Z a0 hw (if (own_f14 (1 : Int32) tk ((((own_f13 n2) ||| (own_f13 n3)) ||| (own_f13 n4)) ||| (own_f13 n5))) = 0 then (if (own_f14 (2 : Int32) tk ((((own_f13 n2) ||| (own_f13 n3)) ||| (own_f13 n4)) ||| (own_f13 n5))) = 0 then (if (own_f14 (3 : Int32) tk ((((own_f13 n2) ||| (own_f13 n3)) ||| (own_f13 n4)) ||| (own_f13 n5))) = 0 then (if (own_f14 (4 : Int32) tk ((((own_f13 n2) ||| (own_f13 n3)) ||| (own_f13 n4)) ||| (own_f13 n5))) = 0 then (0 : Int32) else (4 : Int32)) else (3 : Int32)) else (2 : Int32)) else (1 : Int32)) T37.heap n0 Z37) e54 (argsL := [(.int (if (own_f14 (1 : Int32) tk ((((own_f13 n2) ||| (own_f13 n3)) ||| (own_f13 n4)) ||| (own_f13 n5))) = 0 then (if (own_f14 (2 : Int32) tk ((((own_f13 n2) ||| (own_f13 n3)) ||| (own_f13 n4)) ||| (own_f13 n5))) = 0 then (if (own_f14 (3 : Int32) tk ((((own_f13 n2) ||| (own_f13 n3)) ||| (own_f13 n4)) ||| (own_f13 n5))) = 0 then (if (own_f14 (4 : Int32) tk ((((own_f13 n2) ||| (own_f13 n3)) ||| (own_f13 n4)) ||| (own_f13 n5))) = 0 then (0 : Int32) else (4 : Int32)) else (3 : Int32)) else (2 : Int32)) else (1 : Int32)))]) (rest := []) rfl rfl (by rw [hml]; rfl) (lenOf pd_0_5 rfl) (hb hby at_321) (W := 0) (Nat.le_of_eq rfl) (by decide) (by decide) (by decide) (by decide) ?_
              rintro v55 T55 L55 X55 ⟨rfl, M55, e55⟩
              have N55 := Fr.app N54 M55
              show own_Fin _ _ _ _ _ _ _ (T55.setTop (mkF m 324 #[.val (.int p0), .val (.int p1), .val (.int p2), .val (.int p3), .val (.int p4), .val (.int p5), .val (.int ce), .val (.int oo), .val (.int kd), .val (.int qq), .val (.int tk), .val (.int n2), .val (.int n3), .val (.int n4), .val (.int n5), .val (.ref b6), .val (.long (own_f12 (((1 : Int64) <<< (((5 : Int32)) &&& 0x3f).toInt64) - (2 : Int64)) (own_plc (own_plc (own_plc (own_plc (own_plc (List.replicate 12 (0 : Int64)) ce tk) (ce ^^^ (2 : Int32)) n2) (ce ^^^ (8 : Int32)) n3) (ce ^^^ (5 : Int32)) n4) (ce ^^^ (3 : Int32)) n5) (own_f11 ce (0 : Int32)) (own_f11 ce (1 : Int32)) (own_f11 ce (2 : Int32)) tk)), .second, .val (.long ((((own_f13 n2) ||| (own_f13 n3)) ||| (own_f13 n4)) ||| (own_f13 n5))), .second, .val (.int (if (own_f14 (1 : Int32) tk ((((own_f13 n2) ||| (own_f13 n3)) ||| (own_f13 n4)) ||| (own_f13 n5))) = 0 then (if (own_f14 (2 : Int32) tk ((((own_f13 n2) ||| (own_f13 n3)) ||| (own_f13 n4)) ||| (own_f13 n5))) = 0 then (if (own_f14 (3 : Int32) tk ((((own_f13 n2) ||| (own_f13 n3)) ||| (own_f13 n4)) ||| (own_f13 n5))) = 0 then (if (own_f14 (4 : Int32) tk ((((own_f13 n2) ||| (own_f13 n3)) ||| (own_f13 n4)) ||| (own_f13 n5))) = 0 then (0 : Int32) else (4 : Int32)) else (3 : Int32)) else (2 : Int32)) else (1 : Int32))), .unset, .unset, .unset, .unset, .unset, .unset] [(.long (own_f13 (if (own_f14 (1 : Int32) tk ((((own_f13 n2) ||| (own_f13 n3)) ||| (own_f13 n4)) ||| (own_f13 n5))) = 0 then (if (own_f14 (2 : Int32) tk ((((own_f13 n2) ||| (own_f13 n3)) ||| (own_f13 n4)) ||| (own_f13 n5))) = 0 then (if (own_f14 (3 : Int32) tk ((((own_f13 n2) ||| (own_f13 n3)) ||| (own_f13 n4)) ||| (own_f13 n5))) = 0 then (if (own_f14 (4 : Int32) tk ((((own_f13 n2) ||| (own_f13 n3)) ||| (own_f13 n4)) ||| (own_f13 n5))) = 0 then (0 : Int32) else (4 : Int32)) else (3 : Int32)) else (2 : Int32)) else (1 : Int32))))]))
              refine own_go (fun _ kk => XS.lstore X55.here hx rfl (hb hby at_324) rfl (l' := #[.val (.int p0), .val (.int p1), .val (.int p2), .val (.int p3), .val (.int p4), .val (.int p5), .val (.int ce), .val (.int oo), .val (.int kd), .val (.int qq), .val (.int tk), .val (.int n2), .val (.int n3), .val (.int n4), .val (.int n5), .val (.ref b6), .val (.long (own_f12 (((1 : Int64) <<< (((5 : Int32)) &&& 0x3f).toInt64) - (2 : Int64)) (own_plc (own_plc (own_plc (own_plc (own_plc (List.replicate 12 (0 : Int64)) ce tk) (ce ^^^ (2 : Int32)) n2) (ce ^^^ (8 : Int32)) n3) (ce ^^^ (5 : Int32)) n4) (ce ^^^ (3 : Int32)) n5) (own_f11 ce (0 : Int32)) (own_f11 ce (1 : Int32)) (own_f11 ce (2 : Int32)) tk)), .second, .val (.long ((((own_f13 n2) ||| (own_f13 n3)) ||| (own_f13 n4)) ||| (own_f13 n5))), .second, .val (.int (if (own_f14 (1 : Int32) tk ((((own_f13 n2) ||| (own_f13 n3)) ||| (own_f13 n4)) ||| (own_f13 n5))) = 0 then (if (own_f14 (2 : Int32) tk ((((own_f13 n2) ||| (own_f13 n3)) ||| (own_f13 n4)) ||| (own_f13 n5))) = 0 then (if (own_f14 (3 : Int32) tk ((((own_f13 n2) ||| (own_f13 n3)) ||| (own_f13 n4)) ||| (own_f13 n5))) = 0 then (if (own_f14 (4 : Int32) tk ((((own_f13 n2) ||| (own_f13 n3)) ||| (own_f13 n4)) ||| (own_f13 n5))) = 0 then (0 : Int32) else (4 : Int32)) else (3 : Int32)) else (2 : Int32)) else (1 : Int32))), .val (.long (own_f13 (if (own_f14 (1 : Int32) tk ((((own_f13 n2) ||| (own_f13 n3)) ||| (own_f13 n4)) ||| (own_f13 n5))) = 0 then (if (own_f14 (2 : Int32) tk ((((own_f13 n2) ||| (own_f13 n3)) ||| (own_f13 n4)) ||| (own_f13 n5))) = 0 then (if (own_f14 (3 : Int32) tk ((((own_f13 n2) ||| (own_f13 n3)) ||| (own_f13 n4)) ||| (own_f13 n5))) = 0 then (if (own_f14 (4 : Int32) tk ((((own_f13 n2) ||| (own_f13 n3)) ||| (own_f13 n4)) ||| (own_f13 n5))) = 0 then (0 : Int32) else (4 : Int32)) else (3 : Int32)) else (2 : Int32)) else (1 : Int32)))), .second, .unset, .unset, .unset, .unset]) rfl (XS.iload X55.here hx rfl (hb hby at_326) rfl (XS.iload X55.here hx rfl (hb hby at_328) rfl kk))) ?_
              show own_Fin _ _ _ _ _ _ _ (T55.setTop (mkF m 330 #[.val (.int p0), .val (.int p1), .val (.int p2), .val (.int p3), .val (.int p4), .val (.int p5), .val (.int ce), .val (.int oo), .val (.int kd), .val (.int qq), .val (.int tk), .val (.int n2), .val (.int n3), .val (.int n4), .val (.int n5), .val (.ref b6), .val (.long (own_f12 (((1 : Int64) <<< (((5 : Int32)) &&& 0x3f).toInt64) - (2 : Int64)) (own_plc (own_plc (own_plc (own_plc (own_plc (List.replicate 12 (0 : Int64)) ce tk) (ce ^^^ (2 : Int32)) n2) (ce ^^^ (8 : Int32)) n3) (ce ^^^ (5 : Int32)) n4) (ce ^^^ (3 : Int32)) n5) (own_f11 ce (0 : Int32)) (own_f11 ce (1 : Int32)) (own_f11 ce (2 : Int32)) tk)), .second, .val (.long ((((own_f13 n2) ||| (own_f13 n3)) ||| (own_f13 n4)) ||| (own_f13 n5))), .second, .val (.int (if (own_f14 (1 : Int32) tk ((((own_f13 n2) ||| (own_f13 n3)) ||| (own_f13 n4)) ||| (own_f13 n5))) = 0 then (if (own_f14 (2 : Int32) tk ((((own_f13 n2) ||| (own_f13 n3)) ||| (own_f13 n4)) ||| (own_f13 n5))) = 0 then (if (own_f14 (3 : Int32) tk ((((own_f13 n2) ||| (own_f13 n3)) ||| (own_f13 n4)) ||| (own_f13 n5))) = 0 then (if (own_f14 (4 : Int32) tk ((((own_f13 n2) ||| (own_f13 n3)) ||| (own_f13 n4)) ||| (own_f13 n5))) = 0 then (0 : Int32) else (4 : Int32)) else (3 : Int32)) else (2 : Int32)) else (1 : Int32))), .val (.long (own_f13 (if (own_f14 (1 : Int32) tk ((((own_f13 n2) ||| (own_f13 n3)) ||| (own_f13 n4)) ||| (own_f13 n5))) = 0 then (if (own_f14 (2 : Int32) tk ((((own_f13 n2) ||| (own_f13 n3)) ||| (own_f13 n4)) ||| (own_f13 n5))) = 0 then (if (own_f14 (3 : Int32) tk ((((own_f13 n2) ||| (own_f13 n3)) ||| (own_f13 n4)) ||| (own_f13 n5))) = 0 then (if (own_f14 (4 : Int32) tk ((((own_f13 n2) ||| (own_f13 n3)) ||| (own_f13 n4)) ||| (own_f13 n5))) = 0 then (0 : Int32) else (4 : Int32)) else (3 : Int32)) else (2 : Int32)) else (1 : Int32)))), .second, .unset, .unset, .unset, .unset] [(.int kd), (.int oo)]))
              refine own_callS X55 hx hZ hown (hw _ (List.mem_of_getElem? (i := 82) rfl)) (hw _ (List.mem_of_getElem? (i := 83) rfl)) (hw _ (List.mem_of_getElem? (i := 2) rfl)) (hw _ (List.mem_of_getElem? (i := 84) rfl)) (by decide) (rm11 l Z a0 hw oo kd T37.heap n0 Z37) e55 (argsL := [(.int oo), (.int kd)]) (rest := []) rfl rfl (by rw [hml]; rfl) (lenOf pd_0_3 rfl) (hb hby at_330) (W := 0) (Nat.le_of_eq rfl) (by decide) (by decide) (by decide) (by decide) ?_
              rintro v56 T56 L56 X56 ⟨rfl, M56, e56⟩
              have N56 := Fr.app N55 M56
              show own_Fin _ _ _ _ _ _ _ (T56.setTop (mkF m 333 #[.val (.int p0), .val (.int p1), .val (.int p2), .val (.int p3), .val (.int p4), .val (.int p5), .val (.int ce), .val (.int oo), .val (.int kd), .val (.int qq), .val (.int tk), .val (.int n2), .val (.int n3), .val (.int n4), .val (.int n5), .val (.ref b6), .val (.long (own_f12 (((1 : Int64) <<< (((5 : Int32)) &&& 0x3f).toInt64) - (2 : Int64)) (own_plc (own_plc (own_plc (own_plc (own_plc (List.replicate 12 (0 : Int64)) ce tk) (ce ^^^ (2 : Int32)) n2) (ce ^^^ (8 : Int32)) n3) (ce ^^^ (5 : Int32)) n4) (ce ^^^ (3 : Int32)) n5) (own_f11 ce (0 : Int32)) (own_f11 ce (1 : Int32)) (own_f11 ce (2 : Int32)) tk)), .second, .val (.long ((((own_f13 n2) ||| (own_f13 n3)) ||| (own_f13 n4)) ||| (own_f13 n5))), .second, .val (.int (if (own_f14 (1 : Int32) tk ((((own_f13 n2) ||| (own_f13 n3)) ||| (own_f13 n4)) ||| (own_f13 n5))) = 0 then (if (own_f14 (2 : Int32) tk ((((own_f13 n2) ||| (own_f13 n3)) ||| (own_f13 n4)) ||| (own_f13 n5))) = 0 then (if (own_f14 (3 : Int32) tk ((((own_f13 n2) ||| (own_f13 n3)) ||| (own_f13 n4)) ||| (own_f13 n5))) = 0 then (if (own_f14 (4 : Int32) tk ((((own_f13 n2) ||| (own_f13 n3)) ||| (own_f13 n4)) ||| (own_f13 n5))) = 0 then (0 : Int32) else (4 : Int32)) else (3 : Int32)) else (2 : Int32)) else (1 : Int32))), .val (.long (own_f13 (if (own_f14 (1 : Int32) tk ((((own_f13 n2) ||| (own_f13 n3)) ||| (own_f13 n4)) ||| (own_f13 n5))) = 0 then (if (own_f14 (2 : Int32) tk ((((own_f13 n2) ||| (own_f13 n3)) ||| (own_f13 n4)) ||| (own_f13 n5))) = 0 then (if (own_f14 (3 : Int32) tk ((((own_f13 n2) ||| (own_f13 n3)) ||| (own_f13 n4)) ||| (own_f13 n5))) = 0 then (if (own_f14 (4 : Int32) tk ((((own_f13 n2) ||| (own_f13 n3)) ||| (own_f13 n4)) ||| (own_f13 n5))) = 0 then (0 : Int32) else (4 : Int32)) else (3 : Int32)) else (2 : Int32)) else (1 : Int32)))), .second, .unset, .unset, .unset, .unset] [(.int (own_f11 oo kd))]))
              refine own_go (fun _ kk => XS.istore X56.here hx rfl (hb hby at_333) rfl (l' := #[.val (.int p0), .val (.int p1), .val (.int p2), .val (.int p3), .val (.int p4), .val (.int p5), .val (.int ce), .val (.int oo), .val (.int kd), .val (.int qq), .val (.int tk), .val (.int n2), .val (.int n3), .val (.int n4), .val (.int n5), .val (.ref b6), .val (.long (own_f12 (((1 : Int64) <<< (((5 : Int32)) &&& 0x3f).toInt64) - (2 : Int64)) (own_plc (own_plc (own_plc (own_plc (own_plc (List.replicate 12 (0 : Int64)) ce tk) (ce ^^^ (2 : Int32)) n2) (ce ^^^ (8 : Int32)) n3) (ce ^^^ (5 : Int32)) n4) (ce ^^^ (3 : Int32)) n5) (own_f11 ce (0 : Int32)) (own_f11 ce (1 : Int32)) (own_f11 ce (2 : Int32)) tk)), .second, .val (.long ((((own_f13 n2) ||| (own_f13 n3)) ||| (own_f13 n4)) ||| (own_f13 n5))), .second, .val (.int (if (own_f14 (1 : Int32) tk ((((own_f13 n2) ||| (own_f13 n3)) ||| (own_f13 n4)) ||| (own_f13 n5))) = 0 then (if (own_f14 (2 : Int32) tk ((((own_f13 n2) ||| (own_f13 n3)) ||| (own_f13 n4)) ||| (own_f13 n5))) = 0 then (if (own_f14 (3 : Int32) tk ((((own_f13 n2) ||| (own_f13 n3)) ||| (own_f13 n4)) ||| (own_f13 n5))) = 0 then (if (own_f14 (4 : Int32) tk ((((own_f13 n2) ||| (own_f13 n3)) ||| (own_f13 n4)) ||| (own_f13 n5))) = 0 then (0 : Int32) else (4 : Int32)) else (3 : Int32)) else (2 : Int32)) else (1 : Int32))), .val (.long (own_f13 (if (own_f14 (1 : Int32) tk ((((own_f13 n2) ||| (own_f13 n3)) ||| (own_f13 n4)) ||| (own_f13 n5))) = 0 then (if (own_f14 (2 : Int32) tk ((((own_f13 n2) ||| (own_f13 n3)) ||| (own_f13 n4)) ||| (own_f13 n5))) = 0 then (if (own_f14 (3 : Int32) tk ((((own_f13 n2) ||| (own_f13 n3)) ||| (own_f13 n4)) ||| (own_f13 n5))) = 0 then (if (own_f14 (4 : Int32) tk ((((own_f13 n2) ||| (own_f13 n3)) ||| (own_f13 n4)) ||| (own_f13 n5))) = 0 then (0 : Int32) else (4 : Int32)) else (3 : Int32)) else (2 : Int32)) else (1 : Int32)))), .second, .val (.int (own_f11 oo kd)), .unset, .unset, .unset]) rfl (XS.lconst X56.here hx rfl (hb hby at_335) (XS.lstore X56.here hx rfl (hb hby at_336) rfl (l' := #[.val (.int p0), .val (.int p1), .val (.int p2), .val (.int p3), .val (.int p4), .val (.int p5), .val (.int ce), .val (.int oo), .val (.int kd), .val (.int qq), .val (.int tk), .val (.int n2), .val (.int n3), .val (.int n4), .val (.int n5), .val (.ref b6), .val (.long (own_f12 (((1 : Int64) <<< (((5 : Int32)) &&& 0x3f).toInt64) - (2 : Int64)) (own_plc (own_plc (own_plc (own_plc (own_plc (List.replicate 12 (0 : Int64)) ce tk) (ce ^^^ (2 : Int32)) n2) (ce ^^^ (8 : Int32)) n3) (ce ^^^ (5 : Int32)) n4) (ce ^^^ (3 : Int32)) n5) (own_f11 ce (0 : Int32)) (own_f11 ce (1 : Int32)) (own_f11 ce (2 : Int32)) tk)), .second, .val (.long ((((own_f13 n2) ||| (own_f13 n3)) ||| (own_f13 n4)) ||| (own_f13 n5))), .second, .val (.int (if (own_f14 (1 : Int32) tk ((((own_f13 n2) ||| (own_f13 n3)) ||| (own_f13 n4)) ||| (own_f13 n5))) = 0 then (if (own_f14 (2 : Int32) tk ((((own_f13 n2) ||| (own_f13 n3)) ||| (own_f13 n4)) ||| (own_f13 n5))) = 0 then (if (own_f14 (3 : Int32) tk ((((own_f13 n2) ||| (own_f13 n3)) ||| (own_f13 n4)) ||| (own_f13 n5))) = 0 then (if (own_f14 (4 : Int32) tk ((((own_f13 n2) ||| (own_f13 n3)) ||| (own_f13 n4)) ||| (own_f13 n5))) = 0 then (0 : Int32) else (4 : Int32)) else (3 : Int32)) else (2 : Int32)) else (1 : Int32))), .val (.long (own_f13 (if (own_f14 (1 : Int32) tk ((((own_f13 n2) ||| (own_f13 n3)) ||| (own_f13 n4)) ||| (own_f13 n5))) = 0 then (if (own_f14 (2 : Int32) tk ((((own_f13 n2) ||| (own_f13 n3)) ||| (own_f13 n4)) ||| (own_f13 n5))) = 0 then (if (own_f14 (3 : Int32) tk ((((own_f13 n2) ||| (own_f13 n3)) ||| (own_f13 n4)) ||| (own_f13 n5))) = 0 then (if (own_f14 (4 : Int32) tk ((((own_f13 n2) ||| (own_f13 n3)) ||| (own_f13 n4)) ||| (own_f13 n5))) = 0 then (0 : Int32) else (4 : Int32)) else (3 : Int32)) else (2 : Int32)) else (1 : Int32)))), .second, .val (.int (own_f11 oo kd)), .val (.long (0 : Int64)), .second, .unset]) rfl (XS.iload X56.here hx rfl (hb hby at_338) rfl (XS.iload X56.here hx rfl (hb hby at_340) rfl kk))))) ?_
              show own_Fin _ _ _ _ _ _ _ (T56.setTop (mkF m 342 #[.val (.int p0), .val (.int p1), .val (.int p2), .val (.int p3), .val (.int p4), .val (.int p5), .val (.int ce), .val (.int oo), .val (.int kd), .val (.int qq), .val (.int tk), .val (.int n2), .val (.int n3), .val (.int n4), .val (.int n5), .val (.ref b6), .val (.long (own_f12 (((1 : Int64) <<< (((5 : Int32)) &&& 0x3f).toInt64) - (2 : Int64)) (own_plc (own_plc (own_plc (own_plc (own_plc (List.replicate 12 (0 : Int64)) ce tk) (ce ^^^ (2 : Int32)) n2) (ce ^^^ (8 : Int32)) n3) (ce ^^^ (5 : Int32)) n4) (ce ^^^ (3 : Int32)) n5) (own_f11 ce (0 : Int32)) (own_f11 ce (1 : Int32)) (own_f11 ce (2 : Int32)) tk)), .second, .val (.long ((((own_f13 n2) ||| (own_f13 n3)) ||| (own_f13 n4)) ||| (own_f13 n5))), .second, .val (.int (if (own_f14 (1 : Int32) tk ((((own_f13 n2) ||| (own_f13 n3)) ||| (own_f13 n4)) ||| (own_f13 n5))) = 0 then (if (own_f14 (2 : Int32) tk ((((own_f13 n2) ||| (own_f13 n3)) ||| (own_f13 n4)) ||| (own_f13 n5))) = 0 then (if (own_f14 (3 : Int32) tk ((((own_f13 n2) ||| (own_f13 n3)) ||| (own_f13 n4)) ||| (own_f13 n5))) = 0 then (if (own_f14 (4 : Int32) tk ((((own_f13 n2) ||| (own_f13 n3)) ||| (own_f13 n4)) ||| (own_f13 n5))) = 0 then (0 : Int32) else (4 : Int32)) else (3 : Int32)) else (2 : Int32)) else (1 : Int32))), .val (.long (own_f13 (if (own_f14 (1 : Int32) tk ((((own_f13 n2) ||| (own_f13 n3)) ||| (own_f13 n4)) ||| (own_f13 n5))) = 0 then (if (own_f14 (2 : Int32) tk ((((own_f13 n2) ||| (own_f13 n3)) ||| (own_f13 n4)) ||| (own_f13 n5))) = 0 then (if (own_f14 (3 : Int32) tk ((((own_f13 n2) ||| (own_f13 n3)) ||| (own_f13 n4)) ||| (own_f13 n5))) = 0 then (if (own_f14 (4 : Int32) tk ((((own_f13 n2) ||| (own_f13 n3)) ||| (own_f13 n4)) ||| (own_f13 n5))) = 0 then (0 : Int32) else (4 : Int32)) else (3 : Int32)) else (2 : Int32)) else (1 : Int32)))), .second, .val (.int (own_f11 oo kd)), .val (.long (0 : Int64)), .second, .unset] [(.int kd), (.int ce)]))
              refine own_callS X56 hx hZ hown (hw _ (List.mem_of_getElem? (i := 82) rfl)) (hw _ (List.mem_of_getElem? (i := 83) rfl)) (hw _ (List.mem_of_getElem? (i := 2) rfl)) (hw _ (List.mem_of_getElem? (i := 84) rfl)) (by decide) (rm11 l Z a0 hw ce kd T37.heap n0 Z37) e56 (argsL := [(.int ce), (.int kd)]) (rest := []) rfl rfl (by rw [hml]; rfl) (lenOf pd_0_3 rfl) (hb hby at_342) (W := 0) (Nat.le_of_eq rfl) (by decide) (by decide) (by decide) (by decide) ?_
              rintro v57 T57 L57 X57 ⟨rfl, M57, e57⟩
              have N57 := Fr.app N56 M57
              show own_Fin _ _ _ _ _ _ _ (T57.setTop (mkF m 345 #[.val (.int p0), .val (.int p1), .val (.int p2), .val (.int p3), .val (.int p4), .val (.int p5), .val (.int ce), .val (.int oo), .val (.int kd), .val (.int qq), .val (.int tk), .val (.int n2), .val (.int n3), .val (.int n4), .val (.int n5), .val (.ref b6), .val (.long (own_f12 (((1 : Int64) <<< (((5 : Int32)) &&& 0x3f).toInt64) - (2 : Int64)) (own_plc (own_plc (own_plc (own_plc (own_plc (List.replicate 12 (0 : Int64)) ce tk) (ce ^^^ (2 : Int32)) n2) (ce ^^^ (8 : Int32)) n3) (ce ^^^ (5 : Int32)) n4) (ce ^^^ (3 : Int32)) n5) (own_f11 ce (0 : Int32)) (own_f11 ce (1 : Int32)) (own_f11 ce (2 : Int32)) tk)), .second, .val (.long ((((own_f13 n2) ||| (own_f13 n3)) ||| (own_f13 n4)) ||| (own_f13 n5))), .second, .val (.int (if (own_f14 (1 : Int32) tk ((((own_f13 n2) ||| (own_f13 n3)) ||| (own_f13 n4)) ||| (own_f13 n5))) = 0 then (if (own_f14 (2 : Int32) tk ((((own_f13 n2) ||| (own_f13 n3)) ||| (own_f13 n4)) ||| (own_f13 n5))) = 0 then (if (own_f14 (3 : Int32) tk ((((own_f13 n2) ||| (own_f13 n3)) ||| (own_f13 n4)) ||| (own_f13 n5))) = 0 then (if (own_f14 (4 : Int32) tk ((((own_f13 n2) ||| (own_f13 n3)) ||| (own_f13 n4)) ||| (own_f13 n5))) = 0 then (0 : Int32) else (4 : Int32)) else (3 : Int32)) else (2 : Int32)) else (1 : Int32))), .val (.long (own_f13 (if (own_f14 (1 : Int32) tk ((((own_f13 n2) ||| (own_f13 n3)) ||| (own_f13 n4)) ||| (own_f13 n5))) = 0 then (if (own_f14 (2 : Int32) tk ((((own_f13 n2) ||| (own_f13 n3)) ||| (own_f13 n4)) ||| (own_f13 n5))) = 0 then (if (own_f14 (3 : Int32) tk ((((own_f13 n2) ||| (own_f13 n3)) ||| (own_f13 n4)) ||| (own_f13 n5))) = 0 then (if (own_f14 (4 : Int32) tk ((((own_f13 n2) ||| (own_f13 n3)) ||| (own_f13 n4)) ||| (own_f13 n5))) = 0 then (0 : Int32) else (4 : Int32)) else (3 : Int32)) else (2 : Int32)) else (1 : Int32)))), .second, .val (.int (own_f11 oo kd)), .val (.long (0 : Int64)), .second, .unset] [(.int (own_f11 ce kd))]))
              refine own_go (fun _ kk => XS.iload X57.here hx rfl (hb hby at_345) rfl kk) ?_
              show own_Fin _ _ _ _ _ _ _ (T57.setTop (mkF m 347 #[.val (.int p0), .val (.int p1), .val (.int p2), .val (.int p3), .val (.int p4), .val (.int p5), .val (.int ce), .val (.int oo), .val (.int kd), .val (.int qq), .val (.int tk), .val (.int n2), .val (.int n3), .val (.int n4), .val (.int n5), .val (.ref b6), .val (.long (own_f12 (((1 : Int64) <<< (((5 : Int32)) &&& 0x3f).toInt64) - (2 : Int64)) (own_plc (own_plc (own_plc (own_plc (own_plc (List.replicate 12 (0 : Int64)) ce tk) (ce ^^^ (2 : Int32)) n2) (ce ^^^ (8 : Int32)) n3) (ce ^^^ (5 : Int32)) n4) (ce ^^^ (3 : Int32)) n5) (own_f11 ce (0 : Int32)) (own_f11 ce (1 : Int32)) (own_f11 ce (2 : Int32)) tk)), .second, .val (.long ((((own_f13 n2) ||| (own_f13 n3)) ||| (own_f13 n4)) ||| (own_f13 n5))), .second, .val (.int (if (own_f14 (1 : Int32) tk ((((own_f13 n2) ||| (own_f13 n3)) ||| (own_f13 n4)) ||| (own_f13 n5))) = 0 then (if (own_f14 (2 : Int32) tk ((((own_f13 n2) ||| (own_f13 n3)) ||| (own_f13 n4)) ||| (own_f13 n5))) = 0 then (if (own_f14 (3 : Int32) tk ((((own_f13 n2) ||| (own_f13 n3)) ||| (own_f13 n4)) ||| (own_f13 n5))) = 0 then (if (own_f14 (4 : Int32) tk ((((own_f13 n2) ||| (own_f13 n3)) ||| (own_f13 n4)) ||| (own_f13 n5))) = 0 then (0 : Int32) else (4 : Int32)) else (3 : Int32)) else (2 : Int32)) else (1 : Int32))), .val (.long (own_f13 (if (own_f14 (1 : Int32) tk ((((own_f13 n2) ||| (own_f13 n3)) ||| (own_f13 n4)) ||| (own_f13 n5))) = 0 then (if (own_f14 (2 : Int32) tk ((((own_f13 n2) ||| (own_f13 n3)) ||| (own_f13 n4)) ||| (own_f13 n5))) = 0 then (if (own_f14 (3 : Int32) tk ((((own_f13 n2) ||| (own_f13 n3)) ||| (own_f13 n4)) ||| (own_f13 n5))) = 0 then (if (own_f14 (4 : Int32) tk ((((own_f13 n2) ||| (own_f13 n3)) ||| (own_f13 n4)) ||| (own_f13 n5))) = 0 then (0 : Int32) else (4 : Int32)) else (3 : Int32)) else (2 : Int32)) else (1 : Int32)))), .second, .val (.int (own_f11 oo kd)), .val (.long (0 : Int64)), .second, .unset] [(.int (own_f11 oo kd)), (.int (own_f11 ce kd))]))
              refine own_go (U' := T57.setTop (mkF m 357 #[.val (.int p0), .val (.int p1), .val (.int p2), .val (.int p3), .val (.int p4), .val (.int p5), .val (.int ce), .val (.int oo), .val (.int kd), .val (.int qq), .val (.int tk), .val (.int n2), .val (.int n3), .val (.int n4), .val (.int n5), .val (.ref b6), .val (.long (own_f12 (((1 : Int64) <<< (((5 : Int32)) &&& 0x3f).toInt64) - (2 : Int64)) (own_plc (own_plc (own_plc (own_plc (own_plc (List.replicate 12 (0 : Int64)) ce tk) (ce ^^^ (2 : Int32)) n2) (ce ^^^ (8 : Int32)) n3) (ce ^^^ (5 : Int32)) n4) (ce ^^^ (3 : Int32)) n5) (own_f11 ce (0 : Int32)) (own_f11 ce (1 : Int32)) (own_f11 ce (2 : Int32)) tk)), .second, .val (.long ((((own_f13 n2) ||| (own_f13 n3)) ||| (own_f13 n4)) ||| (own_f13 n5))), .second, .val (.int (if (own_f14 (1 : Int32) tk ((((own_f13 n2) ||| (own_f13 n3)) ||| (own_f13 n4)) ||| (own_f13 n5))) = 0 then (if (own_f14 (2 : Int32) tk ((((own_f13 n2) ||| (own_f13 n3)) ||| (own_f13 n4)) ||| (own_f13 n5))) = 0 then (if (own_f14 (3 : Int32) tk ((((own_f13 n2) ||| (own_f13 n3)) ||| (own_f13 n4)) ||| (own_f13 n5))) = 0 then (if (own_f14 (4 : Int32) tk ((((own_f13 n2) ||| (own_f13 n3)) ||| (own_f13 n4)) ||| (own_f13 n5))) = 0 then (0 : Int32) else (4 : Int32)) else (3 : Int32)) else (2 : Int32)) else (1 : Int32))), .val (.long (own_f13 (if (own_f14 (1 : Int32) tk ((((own_f13 n2) ||| (own_f13 n3)) ||| (own_f13 n4)) ||| (own_f13 n5))) = 0 then (if (own_f14 (2 : Int32) tk ((((own_f13 n2) ||| (own_f13 n3)) ||| (own_f13 n4)) ||| (own_f13 n5))) = 0 then (if (own_f14 (3 : Int32) tk ((((own_f13 n2) ||| (own_f13 n3)) ||| (own_f13 n4)) ||| (own_f13 n5))) = 0 then (if (own_f14 (4 : Int32) tk ((((own_f13 n2) ||| (own_f13 n3)) ||| (own_f13 n4)) ||| (own_f13 n5))) = 0 then (0 : Int32) else (4 : Int32)) else (3 : Int32)) else (2 : Int32)) else (1 : Int32)))), .second, .val (.int (own_f11 oo kd)), .val (.long (if (own_f11 ce kd) = (own_f11 oo kd) then ((0 : Int64) ||| (own_f13 (if (own_f14 (1 : Int32) tk ((((own_f13 n2) ||| (own_f13 n3)) ||| (own_f13 n4)) ||| (own_f13 n5))) = 0 then (if (own_f14 (2 : Int32) tk ((((own_f13 n2) ||| (own_f13 n3)) ||| (own_f13 n4)) ||| (own_f13 n5))) = 0 then (if (own_f14 (3 : Int32) tk ((((own_f13 n2) ||| (own_f13 n3)) ||| (own_f13 n4)) ||| (own_f13 n5))) = 0 then (if (own_f14 (4 : Int32) tk ((((own_f13 n2) ||| (own_f13 n3)) ||| (own_f13 n4)) ||| (own_f13 n5))) = 0 then (0 : Int32) else (4 : Int32)) else (3 : Int32)) else (2 : Int32)) else (1 : Int32)))) else (0 : Int64))), .second, .unset] [])) (fun t k => ?_) ?_
              · by_cases hd347 : (own_f11 ce kd) = (own_f11 oo kd)
                · simp only [if_pos hd347] at k
                  refine XS.icmpNo X57.here hx rfl (hb hby at_347) rfl (XT.ii_ne_f hd347) (XS.lload X57.here hx rfl (hb hby at_350) rfl (XS.lload X57.here hx rfl (hb hby at_352) rfl (XS.lor X57.here hx rfl (hb hby at_354) rfl (XS.lstore X57.here hx rfl (hb hby at_355) rfl (l' := #[.val (.int p0), .val (.int p1), .val (.int p2), .val (.int p3), .val (.int p4), .val (.int p5), .val (.int ce), .val (.int oo), .val (.int kd), .val (.int qq), .val (.int tk), .val (.int n2), .val (.int n3), .val (.int n4), .val (.int n5), .val (.ref b6), .val (.long (own_f12 (((1 : Int64) <<< (((5 : Int32)) &&& 0x3f).toInt64) - (2 : Int64)) (own_plc (own_plc (own_plc (own_plc (own_plc (List.replicate 12 (0 : Int64)) ce tk) (ce ^^^ (2 : Int32)) n2) (ce ^^^ (8 : Int32)) n3) (ce ^^^ (5 : Int32)) n4) (ce ^^^ (3 : Int32)) n5) (own_f11 ce (0 : Int32)) (own_f11 ce (1 : Int32)) (own_f11 ce (2 : Int32)) tk)), .second, .val (.long ((((own_f13 n2) ||| (own_f13 n3)) ||| (own_f13 n4)) ||| (own_f13 n5))), .second, .val (.int (if (own_f14 (1 : Int32) tk ((((own_f13 n2) ||| (own_f13 n3)) ||| (own_f13 n4)) ||| (own_f13 n5))) = 0 then (if (own_f14 (2 : Int32) tk ((((own_f13 n2) ||| (own_f13 n3)) ||| (own_f13 n4)) ||| (own_f13 n5))) = 0 then (if (own_f14 (3 : Int32) tk ((((own_f13 n2) ||| (own_f13 n3)) ||| (own_f13 n4)) ||| (own_f13 n5))) = 0 then (if (own_f14 (4 : Int32) tk ((((own_f13 n2) ||| (own_f13 n3)) ||| (own_f13 n4)) ||| (own_f13 n5))) = 0 then (0 : Int32) else (4 : Int32)) else (3 : Int32)) else (2 : Int32)) else (1 : Int32))), .val (.long (own_f13 (if (own_f14 (1 : Int32) tk ((((own_f13 n2) ||| (own_f13 n3)) ||| (own_f13 n4)) ||| (own_f13 n5))) = 0 then (if (own_f14 (2 : Int32) tk ((((own_f13 n2) ||| (own_f13 n3)) ||| (own_f13 n4)) ||| (own_f13 n5))) = 0 then (if (own_f14 (3 : Int32) tk ((((own_f13 n2) ||| (own_f13 n3)) ||| (own_f13 n4)) ||| (own_f13 n5))) = 0 then (if (own_f14 (4 : Int32) tk ((((own_f13 n2) ||| (own_f13 n3)) ||| (own_f13 n4)) ||| (own_f13 n5))) = 0 then (0 : Int32) else (4 : Int32)) else (3 : Int32)) else (2 : Int32)) else (1 : Int32)))), .second, .val (.int (own_f11 oo kd)), .val (.long ((0 : Int64) ||| (own_f13 (if (own_f14 (1 : Int32) tk ((((own_f13 n2) ||| (own_f13 n3)) ||| (own_f13 n4)) ||| (own_f13 n5))) = 0 then (if (own_f14 (2 : Int32) tk ((((own_f13 n2) ||| (own_f13 n3)) ||| (own_f13 n4)) ||| (own_f13 n5))) = 0 then (if (own_f14 (3 : Int32) tk ((((own_f13 n2) ||| (own_f13 n3)) ||| (own_f13 n4)) ||| (own_f13 n5))) = 0 then (if (own_f14 (4 : Int32) tk ((((own_f13 n2) ||| (own_f13 n3)) ||| (own_f13 n4)) ||| (own_f13 n5))) = 0 then (0 : Int32) else (4 : Int32)) else (3 : Int32)) else (2 : Int32)) else (1 : Int32))))), .second, .unset]) rfl ?_))))
                  show Steps p.tables e below (T57.setTop (mkF m 357 #[.val (.int p0), .val (.int p1), .val (.int p2), .val (.int p3), .val (.int p4), .val (.int p5), .val (.int ce), .val (.int oo), .val (.int kd), .val (.int qq), .val (.int tk), .val (.int n2), .val (.int n3), .val (.int n4), .val (.int n5), .val (.ref b6), .val (.long (own_f12 (((1 : Int64) <<< (((5 : Int32)) &&& 0x3f).toInt64) - (2 : Int64)) (own_plc (own_plc (own_plc (own_plc (own_plc (List.replicate 12 (0 : Int64)) ce tk) (ce ^^^ (2 : Int32)) n2) (ce ^^^ (8 : Int32)) n3) (ce ^^^ (5 : Int32)) n4) (ce ^^^ (3 : Int32)) n5) (own_f11 ce (0 : Int32)) (own_f11 ce (1 : Int32)) (own_f11 ce (2 : Int32)) tk)), .second, .val (.long ((((own_f13 n2) ||| (own_f13 n3)) ||| (own_f13 n4)) ||| (own_f13 n5))), .second, .val (.int (if (own_f14 (1 : Int32) tk ((((own_f13 n2) ||| (own_f13 n3)) ||| (own_f13 n4)) ||| (own_f13 n5))) = 0 then (if (own_f14 (2 : Int32) tk ((((own_f13 n2) ||| (own_f13 n3)) ||| (own_f13 n4)) ||| (own_f13 n5))) = 0 then (if (own_f14 (3 : Int32) tk ((((own_f13 n2) ||| (own_f13 n3)) ||| (own_f13 n4)) ||| (own_f13 n5))) = 0 then (if (own_f14 (4 : Int32) tk ((((own_f13 n2) ||| (own_f13 n3)) ||| (own_f13 n4)) ||| (own_f13 n5))) = 0 then (0 : Int32) else (4 : Int32)) else (3 : Int32)) else (2 : Int32)) else (1 : Int32))), .val (.long (own_f13 (if (own_f14 (1 : Int32) tk ((((own_f13 n2) ||| (own_f13 n3)) ||| (own_f13 n4)) ||| (own_f13 n5))) = 0 then (if (own_f14 (2 : Int32) tk ((((own_f13 n2) ||| (own_f13 n3)) ||| (own_f13 n4)) ||| (own_f13 n5))) = 0 then (if (own_f14 (3 : Int32) tk ((((own_f13 n2) ||| (own_f13 n3)) ||| (own_f13 n4)) ||| (own_f13 n5))) = 0 then (if (own_f14 (4 : Int32) tk ((((own_f13 n2) ||| (own_f13 n3)) ||| (own_f13 n4)) ||| (own_f13 n5))) = 0 then (0 : Int32) else (4 : Int32)) else (3 : Int32)) else (2 : Int32)) else (1 : Int32)))), .second, .val (.int (own_f11 oo kd)), .val (.long ((0 : Int64) ||| (own_f13 (if (own_f14 (1 : Int32) tk ((((own_f13 n2) ||| (own_f13 n3)) ||| (own_f13 n4)) ||| (own_f13 n5))) = 0 then (if (own_f14 (2 : Int32) tk ((((own_f13 n2) ||| (own_f13 n3)) ||| (own_f13 n4)) ||| (own_f13 n5))) = 0 then (if (own_f14 (3 : Int32) tk ((((own_f13 n2) ||| (own_f13 n3)) ||| (own_f13 n4)) ||| (own_f13 n5))) = 0 then (if (own_f14 (4 : Int32) tk ((((own_f13 n2) ||| (own_f13 n3)) ||| (own_f13 n4)) ||| (own_f13 n5))) = 0 then (0 : Int32) else (4 : Int32)) else (3 : Int32)) else (2 : Int32)) else (1 : Int32))))), .second, .unset] [])) _
                  exact k
                · simp only [if_neg hd347] at k
                  refine XS.icmpYes X57.here hx rfl (pc0 := 347) (pc' := 357) rfl (hb hby at_347) rfl (XT.ii_ne_t hd347) (by decide) (by decide) ?_
                  show Steps p.tables e below (T57.setTop (mkF m 357 #[.val (.int p0), .val (.int p1), .val (.int p2), .val (.int p3), .val (.int p4), .val (.int p5), .val (.int ce), .val (.int oo), .val (.int kd), .val (.int qq), .val (.int tk), .val (.int n2), .val (.int n3), .val (.int n4), .val (.int n5), .val (.ref b6), .val (.long (own_f12 (((1 : Int64) <<< (((5 : Int32)) &&& 0x3f).toInt64) - (2 : Int64)) (own_plc (own_plc (own_plc (own_plc (own_plc (List.replicate 12 (0 : Int64)) ce tk) (ce ^^^ (2 : Int32)) n2) (ce ^^^ (8 : Int32)) n3) (ce ^^^ (5 : Int32)) n4) (ce ^^^ (3 : Int32)) n5) (own_f11 ce (0 : Int32)) (own_f11 ce (1 : Int32)) (own_f11 ce (2 : Int32)) tk)), .second, .val (.long ((((own_f13 n2) ||| (own_f13 n3)) ||| (own_f13 n4)) ||| (own_f13 n5))), .second, .val (.int (if (own_f14 (1 : Int32) tk ((((own_f13 n2) ||| (own_f13 n3)) ||| (own_f13 n4)) ||| (own_f13 n5))) = 0 then (if (own_f14 (2 : Int32) tk ((((own_f13 n2) ||| (own_f13 n3)) ||| (own_f13 n4)) ||| (own_f13 n5))) = 0 then (if (own_f14 (3 : Int32) tk ((((own_f13 n2) ||| (own_f13 n3)) ||| (own_f13 n4)) ||| (own_f13 n5))) = 0 then (if (own_f14 (4 : Int32) tk ((((own_f13 n2) ||| (own_f13 n3)) ||| (own_f13 n4)) ||| (own_f13 n5))) = 0 then (0 : Int32) else (4 : Int32)) else (3 : Int32)) else (2 : Int32)) else (1 : Int32))), .val (.long (own_f13 (if (own_f14 (1 : Int32) tk ((((own_f13 n2) ||| (own_f13 n3)) ||| (own_f13 n4)) ||| (own_f13 n5))) = 0 then (if (own_f14 (2 : Int32) tk ((((own_f13 n2) ||| (own_f13 n3)) ||| (own_f13 n4)) ||| (own_f13 n5))) = 0 then (if (own_f14 (3 : Int32) tk ((((own_f13 n2) ||| (own_f13 n3)) ||| (own_f13 n4)) ||| (own_f13 n5))) = 0 then (if (own_f14 (4 : Int32) tk ((((own_f13 n2) ||| (own_f13 n3)) ||| (own_f13 n4)) ||| (own_f13 n5))) = 0 then (0 : Int32) else (4 : Int32)) else (3 : Int32)) else (2 : Int32)) else (1 : Int32)))), .second, .val (.int (own_f11 oo kd)), .val (.long (0 : Int64)), .second, .unset] [])) _
                  exact k
              show own_Fin _ _ _ _ _ _ _ (T57.setTop (mkF m 357 #[.val (.int p0), .val (.int p1), .val (.int p2), .val (.int p3), .val (.int p4), .val (.int p5), .val (.int ce), .val (.int oo), .val (.int kd), .val (.int qq), .val (.int tk), .val (.int n2), .val (.int n3), .val (.int n4), .val (.int n5), .val (.ref b6), .val (.long (own_f12 (((1 : Int64) <<< (((5 : Int32)) &&& 0x3f).toInt64) - (2 : Int64)) (own_plc (own_plc (own_plc (own_plc (own_plc (List.replicate 12 (0 : Int64)) ce tk) (ce ^^^ (2 : Int32)) n2) (ce ^^^ (8 : Int32)) n3) (ce ^^^ (5 : Int32)) n4) (ce ^^^ (3 : Int32)) n5) (own_f11 ce (0 : Int32)) (own_f11 ce (1 : Int32)) (own_f11 ce (2 : Int32)) tk)), .second, .val (.long ((((own_f13 n2) ||| (own_f13 n3)) ||| (own_f13 n4)) ||| (own_f13 n5))), .second, .val (.int (if (own_f14 (1 : Int32) tk ((((own_f13 n2) ||| (own_f13 n3)) ||| (own_f13 n4)) ||| (own_f13 n5))) = 0 then (if (own_f14 (2 : Int32) tk ((((own_f13 n2) ||| (own_f13 n3)) ||| (own_f13 n4)) ||| (own_f13 n5))) = 0 then (if (own_f14 (3 : Int32) tk ((((own_f13 n2) ||| (own_f13 n3)) ||| (own_f13 n4)) ||| (own_f13 n5))) = 0 then (if (own_f14 (4 : Int32) tk ((((own_f13 n2) ||| (own_f13 n3)) ||| (own_f13 n4)) ||| (own_f13 n5))) = 0 then (0 : Int32) else (4 : Int32)) else (3 : Int32)) else (2 : Int32)) else (1 : Int32))), .val (.long (own_f13 (if (own_f14 (1 : Int32) tk ((((own_f13 n2) ||| (own_f13 n3)) ||| (own_f13 n4)) ||| (own_f13 n5))) = 0 then (if (own_f14 (2 : Int32) tk ((((own_f13 n2) ||| (own_f13 n3)) ||| (own_f13 n4)) ||| (own_f13 n5))) = 0 then (if (own_f14 (3 : Int32) tk ((((own_f13 n2) ||| (own_f13 n3)) ||| (own_f13 n4)) ||| (own_f13 n5))) = 0 then (if (own_f14 (4 : Int32) tk ((((own_f13 n2) ||| (own_f13 n3)) ||| (own_f13 n4)) ||| (own_f13 n5))) = 0 then (0 : Int32) else (4 : Int32)) else (3 : Int32)) else (2 : Int32)) else (1 : Int32)))), .second, .val (.int (own_f11 oo kd)), .val (.long (if (own_f11 ce kd) = (own_f11 oo kd) then ((0 : Int64) ||| (own_f13 (if (own_f14 (1 : Int32) tk ((((own_f13 n2) ||| (own_f13 n3)) ||| (own_f13 n4)) ||| (own_f13 n5))) = 0 then (if (own_f14 (2 : Int32) tk ((((own_f13 n2) ||| (own_f13 n3)) ||| (own_f13 n4)) ||| (own_f13 n5))) = 0 then (if (own_f14 (3 : Int32) tk ((((own_f13 n2) ||| (own_f13 n3)) ||| (own_f13 n4)) ||| (own_f13 n5))) = 0 then (if (own_f14 (4 : Int32) tk ((((own_f13 n2) ||| (own_f13 n3)) ||| (own_f13 n4)) ||| (own_f13 n5))) = 0 then (0 : Int32) else (4 : Int32)) else (3 : Int32)) else (2 : Int32)) else (1 : Int32)))) else (0 : Int64))), .second, .unset] []))
              have J381 : ∀ (TJ381 : State) (locsJ381 : List Loc) (u1 : Int64), Stand p l e room_1 s m #[(.int p0), (.int p1), (.int p2), (.int p3), (.int p4), (.int p5)] below meth c TJ381 locsJ381 22 181 → Fr n0 locsJ381 → TJ381.heap = T37.heap → (own_f0 p0 p1 p2 p3 p4 p5) = own_f0_381 p0 p1 p2 p3 p4 p5 ce oo kd qq tk n2 n3 n4 n5 u1 → own_Fin p e below s (own_Q0 (some (.int (own_f0 p0 p1 p2 p3 p4 p5))) n0) room_1.cells room_1.slots (TJ381.setTop (mkF m 381 #[.val (.int p0), .val (.int p1), .val (.int p2), .val (.int p3), .val (.int p4), .val (.int p5), .val (.int ce), .val (.int oo), .val (.int kd), .val (.int qq), .val (.int tk), .val (.int n2), .val (.int n3), .val (.int n4), .val (.int n5), .val (.ref b6), .val (.long (own_f12 (((1 : Int64) <<< (((5 : Int32)) &&& 0x3f).toInt64) - (2 : Int64)) (own_plc (own_plc (own_plc (own_plc (own_plc (List.replicate 12 (0 : Int64)) ce tk) (ce ^^^ (2 : Int32)) n2) (ce ^^^ (8 : Int32)) n3) (ce ^^^ (5 : Int32)) n4) (ce ^^^ (3 : Int32)) n5) (own_f11 ce (0 : Int32)) (own_f11 ce (1 : Int32)) (own_f11 ce (2 : Int32)) tk)), .second, .val (.long ((((own_f13 n2) ||| (own_f13 n3)) ||| (own_f13 n4)) ||| (own_f13 n5))), .second, .val (.int (if (own_f14 (1 : Int32) tk ((((own_f13 n2) ||| (own_f13 n3)) ||| (own_f13 n4)) ||| (own_f13 n5))) = 0 then (if (own_f14 (2 : Int32) tk ((((own_f13 n2) ||| (own_f13 n3)) ||| (own_f13 n4)) ||| (own_f13 n5))) = 0 then (if (own_f14 (3 : Int32) tk ((((own_f13 n2) ||| (own_f13 n3)) ||| (own_f13 n4)) ||| (own_f13 n5))) = 0 then (if (own_f14 (4 : Int32) tk ((((own_f13 n2) ||| (own_f13 n3)) ||| (own_f13 n4)) ||| (own_f13 n5))) = 0 then (0 : Int32) else (4 : Int32)) else (3 : Int32)) else (2 : Int32)) else (1 : Int32))), .val (.long (own_f13 (if (own_f14 (1 : Int32) tk ((((own_f13 n2) ||| (own_f13 n3)) ||| (own_f13 n4)) ||| (own_f13 n5))) = 0 then (if (own_f14 (2 : Int32) tk ((((own_f13 n2) ||| (own_f13 n3)) ||| (own_f13 n4)) ||| (own_f13 n5))) = 0 then (if (own_f14 (3 : Int32) tk ((((own_f13 n2) ||| (own_f13 n3)) ||| (own_f13 n4)) ||| (own_f13 n5))) = 0 then (if (own_f14 (4 : Int32) tk ((((own_f13 n2) ||| (own_f13 n3)) ||| (own_f13 n4)) ||| (own_f13 n5))) = 0 then (0 : Int32) else (4 : Int32)) else (3 : Int32)) else (2 : Int32)) else (1 : Int32)))), .second, .val (.int (own_f11 oo kd)), .val (.long u1), .second, .unset] [])) := by
                intro TJ381 locsJ381 u1 XJ381 NJ381 eJ381 hjJ381
                have J406 : ∀ (TJ406 : State) (locsJ406 : List Loc) (u2 : Int64), Stand p l e room_1 s m #[(.int p0), (.int p1), (.int p2), (.int p3), (.int p4), (.int p5)] below meth c TJ406 locsJ406 22 181 → Fr n0 locsJ406 → TJ406.heap = T37.heap → (own_f0 p0 p1 p2 p3 p4 p5) = own_f0_406 p0 p1 p2 p3 p4 p5 ce oo kd qq tk n2 n3 n4 n5 u1 u2 → own_Fin p e below s (own_Q0 (some (.int (own_f0 p0 p1 p2 p3 p4 p5))) n0) room_1.cells room_1.slots (TJ406.setTop (mkF m 406 #[.val (.int p0), .val (.int p1), .val (.int p2), .val (.int p3), .val (.int p4), .val (.int p5), .val (.int ce), .val (.int oo), .val (.int kd), .val (.int qq), .val (.int tk), .val (.int n2), .val (.int n3), .val (.int n4), .val (.int n5), .val (.ref b6), .val (.long (own_f12 (((1 : Int64) <<< (((5 : Int32)) &&& 0x3f).toInt64) - (2 : Int64)) (own_plc (own_plc (own_plc (own_plc (own_plc (List.replicate 12 (0 : Int64)) ce tk) (ce ^^^ (2 : Int32)) n2) (ce ^^^ (8 : Int32)) n3) (ce ^^^ (5 : Int32)) n4) (ce ^^^ (3 : Int32)) n5) (own_f11 ce (0 : Int32)) (own_f11 ce (1 : Int32)) (own_f11 ce (2 : Int32)) tk)), .second, .val (.long ((((own_f13 n2) ||| (own_f13 n3)) ||| (own_f13 n4)) ||| (own_f13 n5))), .second, .val (.int (if (own_f14 (1 : Int32) tk ((((own_f13 n2) ||| (own_f13 n3)) ||| (own_f13 n4)) ||| (own_f13 n5))) = 0 then (if (own_f14 (2 : Int32) tk ((((own_f13 n2) ||| (own_f13 n3)) ||| (own_f13 n4)) ||| (own_f13 n5))) = 0 then (if (own_f14 (3 : Int32) tk ((((own_f13 n2) ||| (own_f13 n3)) ||| (own_f13 n4)) ||| (own_f13 n5))) = 0 then (if (own_f14 (4 : Int32) tk ((((own_f13 n2) ||| (own_f13 n3)) ||| (own_f13 n4)) ||| (own_f13 n5))) = 0 then (0 : Int32) else (4 : Int32)) else (3 : Int32)) else (2 : Int32)) else (1 : Int32))), .val (.long (own_f13 (if (own_f14 (1 : Int32) tk ((((own_f13 n2) ||| (own_f13 n3)) ||| (own_f13 n4)) ||| (own_f13 n5))) = 0 then (if (own_f14 (2 : Int32) tk ((((own_f13 n2) ||| (own_f13 n3)) ||| (own_f13 n4)) ||| (own_f13 n5))) = 0 then (if (own_f14 (3 : Int32) tk ((((own_f13 n2) ||| (own_f13 n3)) ||| (own_f13 n4)) ||| (own_f13 n5))) = 0 then (if (own_f14 (4 : Int32) tk ((((own_f13 n2) ||| (own_f13 n3)) ||| (own_f13 n4)) ||| (own_f13 n5))) = 0 then (0 : Int32) else (4 : Int32)) else (3 : Int32)) else (2 : Int32)) else (1 : Int32)))), .second, .val (.int (own_f11 oo kd)), .val (.long u2), .second, .unset] [])) := by
                  intro TJ406 locsJ406 u2 XJ406 NJ406 eJ406 hjJ406
                  have J430 : ∀ (TJ430 : State) (locsJ430 : List Loc) (u3 : Int64), Stand p l e room_1 s m #[(.int p0), (.int p1), (.int p2), (.int p3), (.int p4), (.int p5)] below meth c TJ430 locsJ430 22 181 → Fr n0 locsJ430 → TJ430.heap = T37.heap → (own_f0 p0 p1 p2 p3 p4 p5) = own_f0_430 p0 p1 p2 p3 p4 p5 ce oo kd qq tk n2 n3 n4 n5 u1 u2 u3 → own_Fin p e below s (own_Q0 (some (.int (own_f0 p0 p1 p2 p3 p4 p5))) n0) room_1.cells room_1.slots (TJ430.setTop (mkF m 430 #[.val (.int p0), .val (.int p1), .val (.int p2), .val (.int p3), .val (.int p4), .val (.int p5), .val (.int ce), .val (.int oo), .val (.int kd), .val (.int qq), .val (.int tk), .val (.int n2), .val (.int n3), .val (.int n4), .val (.int n5), .val (.ref b6), .val (.long (own_f12 (((1 : Int64) <<< (((5 : Int32)) &&& 0x3f).toInt64) - (2 : Int64)) (own_plc (own_plc (own_plc (own_plc (own_plc (List.replicate 12 (0 : Int64)) ce tk) (ce ^^^ (2 : Int32)) n2) (ce ^^^ (8 : Int32)) n3) (ce ^^^ (5 : Int32)) n4) (ce ^^^ (3 : Int32)) n5) (own_f11 ce (0 : Int32)) (own_f11 ce (1 : Int32)) (own_f11 ce (2 : Int32)) tk)), .second, .val (.long ((((own_f13 n2) ||| (own_f13 n3)) ||| (own_f13 n4)) ||| (own_f13 n5))), .second, .val (.int (if (own_f14 (1 : Int32) tk ((((own_f13 n2) ||| (own_f13 n3)) ||| (own_f13 n4)) ||| (own_f13 n5))) = 0 then (if (own_f14 (2 : Int32) tk ((((own_f13 n2) ||| (own_f13 n3)) ||| (own_f13 n4)) ||| (own_f13 n5))) = 0 then (if (own_f14 (3 : Int32) tk ((((own_f13 n2) ||| (own_f13 n3)) ||| (own_f13 n4)) ||| (own_f13 n5))) = 0 then (if (own_f14 (4 : Int32) tk ((((own_f13 n2) ||| (own_f13 n3)) ||| (own_f13 n4)) ||| (own_f13 n5))) = 0 then (0 : Int32) else (4 : Int32)) else (3 : Int32)) else (2 : Int32)) else (1 : Int32))), .val (.long (own_f13 (if (own_f14 (1 : Int32) tk ((((own_f13 n2) ||| (own_f13 n3)) ||| (own_f13 n4)) ||| (own_f13 n5))) = 0 then (if (own_f14 (2 : Int32) tk ((((own_f13 n2) ||| (own_f13 n3)) ||| (own_f13 n4)) ||| (own_f13 n5))) = 0 then (if (own_f14 (3 : Int32) tk ((((own_f13 n2) ||| (own_f13 n3)) ||| (own_f13 n4)) ||| (own_f13 n5))) = 0 then (if (own_f14 (4 : Int32) tk ((((own_f13 n2) ||| (own_f13 n3)) ||| (own_f13 n4)) ||| (own_f13 n5))) = 0 then (0 : Int32) else (4 : Int32)) else (3 : Int32)) else (2 : Int32)) else (1 : Int32)))), .second, .val (.int (own_f11 oo kd)), .val (.long u3), .second, .unset] [])) := by
                    intro TJ430 locsJ430 u3 XJ430 NJ430 eJ430 hjJ430
                    have J454 : ∀ (TJ454 : State) (locsJ454 : List Loc) (u4 : Int64), Stand p l e room_1 s m #[(.int p0), (.int p1), (.int p2), (.int p3), (.int p4), (.int p5)] below meth c TJ454 locsJ454 22 181 → Fr n0 locsJ454 → TJ454.heap = T37.heap → (own_f0 p0 p1 p2 p3 p4 p5) = own_f0_454 p0 p1 p2 p3 p4 p5 ce oo kd qq tk n2 n3 n4 n5 u1 u2 u3 u4 → own_Fin p e below s (own_Q0 (some (.int (own_f0 p0 p1 p2 p3 p4 p5))) n0) room_1.cells room_1.slots (TJ454.setTop (mkF m 454 #[.val (.int p0), .val (.int p1), .val (.int p2), .val (.int p3), .val (.int p4), .val (.int p5), .val (.int ce), .val (.int oo), .val (.int kd), .val (.int qq), .val (.int tk), .val (.int n2), .val (.int n3), .val (.int n4), .val (.int n5), .val (.ref b6), .val (.long (own_f12 (((1 : Int64) <<< (((5 : Int32)) &&& 0x3f).toInt64) - (2 : Int64)) (own_plc (own_plc (own_plc (own_plc (own_plc (List.replicate 12 (0 : Int64)) ce tk) (ce ^^^ (2 : Int32)) n2) (ce ^^^ (8 : Int32)) n3) (ce ^^^ (5 : Int32)) n4) (ce ^^^ (3 : Int32)) n5) (own_f11 ce (0 : Int32)) (own_f11 ce (1 : Int32)) (own_f11 ce (2 : Int32)) tk)), .second, .val (.long ((((own_f13 n2) ||| (own_f13 n3)) ||| (own_f13 n4)) ||| (own_f13 n5))), .second, .val (.int (if (own_f14 (1 : Int32) tk ((((own_f13 n2) ||| (own_f13 n3)) ||| (own_f13 n4)) ||| (own_f13 n5))) = 0 then (if (own_f14 (2 : Int32) tk ((((own_f13 n2) ||| (own_f13 n3)) ||| (own_f13 n4)) ||| (own_f13 n5))) = 0 then (if (own_f14 (3 : Int32) tk ((((own_f13 n2) ||| (own_f13 n3)) ||| (own_f13 n4)) ||| (own_f13 n5))) = 0 then (if (own_f14 (4 : Int32) tk ((((own_f13 n2) ||| (own_f13 n3)) ||| (own_f13 n4)) ||| (own_f13 n5))) = 0 then (0 : Int32) else (4 : Int32)) else (3 : Int32)) else (2 : Int32)) else (1 : Int32))), .val (.long (own_f13 (if (own_f14 (1 : Int32) tk ((((own_f13 n2) ||| (own_f13 n3)) ||| (own_f13 n4)) ||| (own_f13 n5))) = 0 then (if (own_f14 (2 : Int32) tk ((((own_f13 n2) ||| (own_f13 n3)) ||| (own_f13 n4)) ||| (own_f13 n5))) = 0 then (if (own_f14 (3 : Int32) tk ((((own_f13 n2) ||| (own_f13 n3)) ||| (own_f13 n4)) ||| (own_f13 n5))) = 0 then (if (own_f14 (4 : Int32) tk ((((own_f13 n2) ||| (own_f13 n3)) ||| (own_f13 n4)) ||| (own_f13 n5))) = 0 then (0 : Int32) else (4 : Int32)) else (3 : Int32)) else (2 : Int32)) else (1 : Int32)))), .second, .val (.int (own_f11 oo kd)), .val (.long u4), .second, .unset] [])) := by
                      intro TJ454 locsJ454 u4 XJ454 NJ454 eJ454 hjJ454
                      have J504 : ∀ (TJ504 : State) (locsJ504 : List Loc) (se : Int32), Stand p l e room_1 s m #[(.int p0), (.int p1), (.int p2), (.int p3), (.int p4), (.int p5)] below meth c TJ504 locsJ504 22 181 → Fr n0 locsJ504 → TJ504.heap = T37.heap → (own_f0 p0 p1 p2 p3 p4 p5) = own_f0_504 p0 p1 p2 p3 p4 p5 ce oo kd qq tk n2 n3 n4 n5 u1 u2 u3 u4 se → own_Fin p e below s (own_Q0 (some (.int (own_f0 p0 p1 p2 p3 p4 p5))) n0) room_1.cells room_1.slots (TJ504.setTop (mkF m 504 #[.val (.int p0), .val (.int p1), .val (.int p2), .val (.int p3), .val (.int p4), .val (.int p5), .val (.int ce), .val (.int oo), .val (.int kd), .val (.int qq), .val (.int tk), .val (.int n2), .val (.int n3), .val (.int n4), .val (.int n5), .val (.ref b6), .val (.long (own_f12 (((1 : Int64) <<< (((5 : Int32)) &&& 0x3f).toInt64) - (2 : Int64)) (own_plc (own_plc (own_plc (own_plc (own_plc (List.replicate 12 (0 : Int64)) ce tk) (ce ^^^ (2 : Int32)) n2) (ce ^^^ (8 : Int32)) n3) (ce ^^^ (5 : Int32)) n4) (ce ^^^ (3 : Int32)) n5) (own_f11 ce (0 : Int32)) (own_f11 ce (1 : Int32)) (own_f11 ce (2 : Int32)) tk)), .second, .val (.long ((((own_f13 n2) ||| (own_f13 n3)) ||| (own_f13 n4)) ||| (own_f13 n5))), .second, .val (.int (if (own_f14 (1 : Int32) tk ((((own_f13 n2) ||| (own_f13 n3)) ||| (own_f13 n4)) ||| (own_f13 n5))) = 0 then (if (own_f14 (2 : Int32) tk ((((own_f13 n2) ||| (own_f13 n3)) ||| (own_f13 n4)) ||| (own_f13 n5))) = 0 then (if (own_f14 (3 : Int32) tk ((((own_f13 n2) ||| (own_f13 n3)) ||| (own_f13 n4)) ||| (own_f13 n5))) = 0 then (if (own_f14 (4 : Int32) tk ((((own_f13 n2) ||| (own_f13 n3)) ||| (own_f13 n4)) ||| (own_f13 n5))) = 0 then (0 : Int32) else (4 : Int32)) else (3 : Int32)) else (2 : Int32)) else (1 : Int32))), .val (.long (own_f13 (if (own_f14 (1 : Int32) tk ((((own_f13 n2) ||| (own_f13 n3)) ||| (own_f13 n4)) ||| (own_f13 n5))) = 0 then (if (own_f14 (2 : Int32) tk ((((own_f13 n2) ||| (own_f13 n3)) ||| (own_f13 n4)) ||| (own_f13 n5))) = 0 then (if (own_f14 (3 : Int32) tk ((((own_f13 n2) ||| (own_f13 n3)) ||| (own_f13 n4)) ||| (own_f13 n5))) = 0 then (if (own_f14 (4 : Int32) tk ((((own_f13 n2) ||| (own_f13 n3)) ||| (own_f13 n4)) ||| (own_f13 n5))) = 0 then (0 : Int32) else (4 : Int32)) else (3 : Int32)) else (2 : Int32)) else (1 : Int32)))), .second, .val (.int (own_f11 oo kd)), .val (.long u4), .second, .val (.int se)] [])) := by
                        intro TJ504 locsJ504 se XJ504 NJ504 eJ504 hjJ504
                        refine own_go (fun _ kk => XS.lload XJ504.here hx rfl (hb hby at_504) rfl (XS.lload XJ504.here hx rfl (hb hby at_506) rfl (XT.lcmp XJ504.here hx rfl (hb hby at_508) rfl kk))) ?_
                        show own_Fin _ _ _ _ _ _ _ (TJ504.setTop (mkF m 509 #[.val (.int p0), .val (.int p1), .val (.int p2), .val (.int p3), .val (.int p4), .val (.int p5), .val (.int ce), .val (.int oo), .val (.int kd), .val (.int qq), .val (.int tk), .val (.int n2), .val (.int n3), .val (.int n4), .val (.int n5), .val (.ref b6), .val (.long (own_f12 (((1 : Int64) <<< (((5 : Int32)) &&& 0x3f).toInt64) - (2 : Int64)) (own_plc (own_plc (own_plc (own_plc (own_plc (List.replicate 12 (0 : Int64)) ce tk) (ce ^^^ (2 : Int32)) n2) (ce ^^^ (8 : Int32)) n3) (ce ^^^ (5 : Int32)) n4) (ce ^^^ (3 : Int32)) n5) (own_f11 ce (0 : Int32)) (own_f11 ce (1 : Int32)) (own_f11 ce (2 : Int32)) tk)), .second, .val (.long ((((own_f13 n2) ||| (own_f13 n3)) ||| (own_f13 n4)) ||| (own_f13 n5))), .second, .val (.int (if (own_f14 (1 : Int32) tk ((((own_f13 n2) ||| (own_f13 n3)) ||| (own_f13 n4)) ||| (own_f13 n5))) = 0 then (if (own_f14 (2 : Int32) tk ((((own_f13 n2) ||| (own_f13 n3)) ||| (own_f13 n4)) ||| (own_f13 n5))) = 0 then (if (own_f14 (3 : Int32) tk ((((own_f13 n2) ||| (own_f13 n3)) ||| (own_f13 n4)) ||| (own_f13 n5))) = 0 then (if (own_f14 (4 : Int32) tk ((((own_f13 n2) ||| (own_f13 n3)) ||| (own_f13 n4)) ||| (own_f13 n5))) = 0 then (0 : Int32) else (4 : Int32)) else (3 : Int32)) else (2 : Int32)) else (1 : Int32))), .val (.long (own_f13 (if (own_f14 (1 : Int32) tk ((((own_f13 n2) ||| (own_f13 n3)) ||| (own_f13 n4)) ||| (own_f13 n5))) = 0 then (if (own_f14 (2 : Int32) tk ((((own_f13 n2) ||| (own_f13 n3)) ||| (own_f13 n4)) ||| (own_f13 n5))) = 0 then (if (own_f14 (3 : Int32) tk ((((own_f13 n2) ||| (own_f13 n3)) ||| (own_f13 n4)) ||| (own_f13 n5))) = 0 then (if (own_f14 (4 : Int32) tk ((((own_f13 n2) ||| (own_f13 n3)) ||| (own_f13 n4)) ||| (own_f13 n5))) = 0 then (0 : Int32) else (4 : Int32)) else (3 : Int32)) else (2 : Int32)) else (1 : Int32)))), .second, .val (.int (own_f11 oo kd)), .val (.long u4), .second, .val (.int se)] [(.int (XT.cmpL (own_f12 (((1 : Int64) <<< (((5 : Int32)) &&& 0x3f).toInt64) - (2 : Int64)) (own_plc (own_plc (own_plc (own_plc (own_plc (List.replicate 12 (0 : Int64)) ce tk) (ce ^^^ (2 : Int32)) n2) (ce ^^^ (8 : Int32)) n3) (ce ^^^ (5 : Int32)) n4) (ce ^^^ (3 : Int32)) n5) (own_f11 ce (0 : Int32)) (own_f11 ce (1 : Int32)) (own_f11 ce (2 : Int32)) tk) (own_f13 (if (own_f14 (1 : Int32) tk ((((own_f13 n2) ||| (own_f13 n3)) ||| (own_f13 n4)) ||| (own_f13 n5))) = 0 then (if (own_f14 (2 : Int32) tk ((((own_f13 n2) ||| (own_f13 n3)) ||| (own_f13 n4)) ||| (own_f13 n5))) = 0 then (if (own_f14 (3 : Int32) tk ((((own_f13 n2) ||| (own_f13 n3)) ||| (own_f13 n4)) ||| (own_f13 n5))) = 0 then (if (own_f14 (4 : Int32) tk ((((own_f13 n2) ||| (own_f13 n3)) ||| (own_f13 n4)) ||| (own_f13 n5))) = 0 then (0 : Int32) else (4 : Int32)) else (3 : Int32)) else (2 : Int32)) else (1 : Int32)))))]))
                        by_cases hc509 : (own_f12 (((1 : Int64) <<< (((5 : Int32)) &&& 0x3f).toInt64) - (2 : Int64)) (own_plc (own_plc (own_plc (own_plc (own_plc (List.replicate 12 (0 : Int64)) ce tk) (ce ^^^ (2 : Int32)) n2) (ce ^^^ (8 : Int32)) n3) (ce ^^^ (5 : Int32)) n4) (ce ^^^ (3 : Int32)) n5) (own_f11 ce (0 : Int32)) (own_f11 ce (1 : Int32)) (own_f11 ce (2 : Int32)) tk) = (own_f13 (if (own_f14 (1 : Int32) tk ((((own_f13 n2) ||| (own_f13 n3)) ||| (own_f13 n4)) ||| (own_f13 n5))) = 0 then (if (own_f14 (2 : Int32) tk ((((own_f13 n2) ||| (own_f13 n3)) ||| (own_f13 n4)) ||| (own_f13 n5))) = 0 then (if (own_f14 (3 : Int32) tk ((((own_f13 n2) ||| (own_f13 n3)) ||| (own_f13 n4)) ||| (own_f13 n5))) = 0 then (if (own_f14 (4 : Int32) tk ((((own_f13 n2) ||| (own_f13 n3)) ||| (own_f13 n4)) ||| (own_f13 n5))) = 0 then (0 : Int32) else (4 : Int32)) else (3 : Int32)) else (2 : Int32)) else (1 : Int32)))
                        · refine own_go (fun _ kk => XS.ifNo XJ504.here hx rfl (hb hby at_509) rfl (XT.ll_ne_f hc509) (XS.iload XJ504.here hx rfl (hb hby at_512) rfl (XS.lload XJ504.here hx rfl (hb hby at_514) rfl (XS.iload XJ504.here hx rfl (hb hby at_516) rfl (XS.lushr XJ504.here hx rfl (hb hby at_518) rfl (XS.lconst XJ504.here hx rfl (hb hby at_519) (XS.land XJ504.here hx rfl (hb hby at_520) rfl (XS.lconst XJ504.here hx rfl (hb hby at_521) (XT.lcmp XJ504.here hx rfl (hb hby at_522) rfl kk))))))))) ?_
                          show own_Fin _ _ _ _ _ _ _ (TJ504.setTop (mkF m 523 #[.val (.int p0), .val (.int p1), .val (.int p2), .val (.int p3), .val (.int p4), .val (.int p5), .val (.int ce), .val (.int oo), .val (.int kd), .val (.int qq), .val (.int tk), .val (.int n2), .val (.int n3), .val (.int n4), .val (.int n5), .val (.ref b6), .val (.long (own_f12 (((1 : Int64) <<< (((5 : Int32)) &&& 0x3f).toInt64) - (2 : Int64)) (own_plc (own_plc (own_plc (own_plc (own_plc (List.replicate 12 (0 : Int64)) ce tk) (ce ^^^ (2 : Int32)) n2) (ce ^^^ (8 : Int32)) n3) (ce ^^^ (5 : Int32)) n4) (ce ^^^ (3 : Int32)) n5) (own_f11 ce (0 : Int32)) (own_f11 ce (1 : Int32)) (own_f11 ce (2 : Int32)) tk)), .second, .val (.long ((((own_f13 n2) ||| (own_f13 n3)) ||| (own_f13 n4)) ||| (own_f13 n5))), .second, .val (.int (if (own_f14 (1 : Int32) tk ((((own_f13 n2) ||| (own_f13 n3)) ||| (own_f13 n4)) ||| (own_f13 n5))) = 0 then (if (own_f14 (2 : Int32) tk ((((own_f13 n2) ||| (own_f13 n3)) ||| (own_f13 n4)) ||| (own_f13 n5))) = 0 then (if (own_f14 (3 : Int32) tk ((((own_f13 n2) ||| (own_f13 n3)) ||| (own_f13 n4)) ||| (own_f13 n5))) = 0 then (if (own_f14 (4 : Int32) tk ((((own_f13 n2) ||| (own_f13 n3)) ||| (own_f13 n4)) ||| (own_f13 n5))) = 0 then (0 : Int32) else (4 : Int32)) else (3 : Int32)) else (2 : Int32)) else (1 : Int32))), .val (.long (own_f13 (if (own_f14 (1 : Int32) tk ((((own_f13 n2) ||| (own_f13 n3)) ||| (own_f13 n4)) ||| (own_f13 n5))) = 0 then (if (own_f14 (2 : Int32) tk ((((own_f13 n2) ||| (own_f13 n3)) ||| (own_f13 n4)) ||| (own_f13 n5))) = 0 then (if (own_f14 (3 : Int32) tk ((((own_f13 n2) ||| (own_f13 n3)) ||| (own_f13 n4)) ||| (own_f13 n5))) = 0 then (if (own_f14 (4 : Int32) tk ((((own_f13 n2) ||| (own_f13 n3)) ||| (own_f13 n4)) ||| (own_f13 n5))) = 0 then (0 : Int32) else (4 : Int32)) else (3 : Int32)) else (2 : Int32)) else (1 : Int32)))), .second, .val (.int (own_f11 oo kd)), .val (.long u4), .second, .val (.int se)] [(.int (XT.cmpL (((u4.toUInt64 >>> (qq &&& 0x3f).toInt64.toUInt64).toInt64) &&& (1 : Int64)) (0 : Int64))), (.int se)]))
                          by_cases hc523 : (((u4.toUInt64 >>> (qq &&& 0x3f).toInt64.toUInt64).toInt64) &&& (1 : Int64)) = (0 : Int64)
                          · refine own_go (fun _ kk => XS.ifYes XJ504.here hx rfl (pc0 := 523) (pc' := 530) rfl (hb hby at_523) rfl (XT.ll_eq_t hc523) (by decide) (by decide) (XS.iconst XJ504.here hx rfl (hb hby at_530) kk)) ?_
                            show own_Fin _ _ _ _ _ _ _ (TJ504.setTop (mkF m 531 #[.val (.int p0), .val (.int p1), .val (.int p2), .val (.int p3), .val (.int p4), .val (.int p5), .val (.int ce), .val (.int oo), .val (.int kd), .val (.int qq), .val (.int tk), .val (.int n2), .val (.int n3), .val (.int n4), .val (.int n5), .val (.ref b6), .val (.long (own_f12 (((1 : Int64) <<< (((5 : Int32)) &&& 0x3f).toInt64) - (2 : Int64)) (own_plc (own_plc (own_plc (own_plc (own_plc (List.replicate 12 (0 : Int64)) ce tk) (ce ^^^ (2 : Int32)) n2) (ce ^^^ (8 : Int32)) n3) (ce ^^^ (5 : Int32)) n4) (ce ^^^ (3 : Int32)) n5) (own_f11 ce (0 : Int32)) (own_f11 ce (1 : Int32)) (own_f11 ce (2 : Int32)) tk)), .second, .val (.long ((((own_f13 n2) ||| (own_f13 n3)) ||| (own_f13 n4)) ||| (own_f13 n5))), .second, .val (.int (if (own_f14 (1 : Int32) tk ((((own_f13 n2) ||| (own_f13 n3)) ||| (own_f13 n4)) ||| (own_f13 n5))) = 0 then (if (own_f14 (2 : Int32) tk ((((own_f13 n2) ||| (own_f13 n3)) ||| (own_f13 n4)) ||| (own_f13 n5))) = 0 then (if (own_f14 (3 : Int32) tk ((((own_f13 n2) ||| (own_f13 n3)) ||| (own_f13 n4)) ||| (own_f13 n5))) = 0 then (if (own_f14 (4 : Int32) tk ((((own_f13 n2) ||| (own_f13 n3)) ||| (own_f13 n4)) ||| (own_f13 n5))) = 0 then (0 : Int32) else (4 : Int32)) else (3 : Int32)) else (2 : Int32)) else (1 : Int32))), .val (.long (own_f13 (if (own_f14 (1 : Int32) tk ((((own_f13 n2) ||| (own_f13 n3)) ||| (own_f13 n4)) ||| (own_f13 n5))) = 0 then (if (own_f14 (2 : Int32) tk ((((own_f13 n2) ||| (own_f13 n3)) ||| (own_f13 n4)) ||| (own_f13 n5))) = 0 then (if (own_f14 (3 : Int32) tk ((((own_f13 n2) ||| (own_f13 n3)) ||| (own_f13 n4)) ||| (own_f13 n5))) = 0 then (if (own_f14 (4 : Int32) tk ((((own_f13 n2) ||| (own_f13 n3)) ||| (own_f13 n4)) ||| (own_f13 n5))) = 0 then (0 : Int32) else (4 : Int32)) else (3 : Int32)) else (2 : Int32)) else (1 : Int32)))), .second, .val (.int (own_f11 oo kd)), .val (.long u4), .second, .val (.int se)] [(.int (0 : Int32)), (.int se)]))
                            by_cases hc531 : se = (0 : Int32)
                            · refine own_go (fun _ kk => XS.icmpNo XJ504.here hx rfl (hb hby at_531) rfl (XT.ii_ne_f hc531) (XS.iconst XJ504.here hx rfl (hb hby at_534) (XS.goto XJ504.here hx rfl (pc0 := 535) (pc' := 539) rfl (hb hby at_535) (by decide) (by decide) kk))) ?_
                              show own_Fin _ _ _ _ _ _ _ (TJ504.setTop (mkF m 539 #[.val (.int p0), .val (.int p1), .val (.int p2), .val (.int p3), .val (.int p4), .val (.int p5), .val (.int ce), .val (.int oo), .val (.int kd), .val (.int qq), .val (.int tk), .val (.int n2), .val (.int n3), .val (.int n4), .val (.int n5), .val (.ref b6), .val (.long (own_f12 (((1 : Int64) <<< (((5 : Int32)) &&& 0x3f).toInt64) - (2 : Int64)) (own_plc (own_plc (own_plc (own_plc (own_plc (List.replicate 12 (0 : Int64)) ce tk) (ce ^^^ (2 : Int32)) n2) (ce ^^^ (8 : Int32)) n3) (ce ^^^ (5 : Int32)) n4) (ce ^^^ (3 : Int32)) n5) (own_f11 ce (0 : Int32)) (own_f11 ce (1 : Int32)) (own_f11 ce (2 : Int32)) tk)), .second, .val (.long ((((own_f13 n2) ||| (own_f13 n3)) ||| (own_f13 n4)) ||| (own_f13 n5))), .second, .val (.int (if (own_f14 (1 : Int32) tk ((((own_f13 n2) ||| (own_f13 n3)) ||| (own_f13 n4)) ||| (own_f13 n5))) = 0 then (if (own_f14 (2 : Int32) tk ((((own_f13 n2) ||| (own_f13 n3)) ||| (own_f13 n4)) ||| (own_f13 n5))) = 0 then (if (own_f14 (3 : Int32) tk ((((own_f13 n2) ||| (own_f13 n3)) ||| (own_f13 n4)) ||| (own_f13 n5))) = 0 then (if (own_f14 (4 : Int32) tk ((((own_f13 n2) ||| (own_f13 n3)) ||| (own_f13 n4)) ||| (own_f13 n5))) = 0 then (0 : Int32) else (4 : Int32)) else (3 : Int32)) else (2 : Int32)) else (1 : Int32))), .val (.long (own_f13 (if (own_f14 (1 : Int32) tk ((((own_f13 n2) ||| (own_f13 n3)) ||| (own_f13 n4)) ||| (own_f13 n5))) = 0 then (if (own_f14 (2 : Int32) tk ((((own_f13 n2) ||| (own_f13 n3)) ||| (own_f13 n4)) ||| (own_f13 n5))) = 0 then (if (own_f14 (3 : Int32) tk ((((own_f13 n2) ||| (own_f13 n3)) ||| (own_f13 n4)) ||| (own_f13 n5))) = 0 then (if (own_f14 (4 : Int32) tk ((((own_f13 n2) ||| (own_f13 n3)) ||| (own_f13 n4)) ||| (own_f13 n5))) = 0 then (0 : Int32) else (4 : Int32)) else (3 : Int32)) else (2 : Int32)) else (1 : Int32)))), .second, .val (.int (own_f11 oo kd)), .val (.long u4), .second, .val (.int se)] [(.int (1 : Int32))]))
                              exact own_retZ XJ504 hx hlk hret rfl (hb hby at_539) (by decide) (by decide) ⟨(by rw [hjJ504, own_f0_504, if_pos hc509, if_pos hc523, if_pos hc531]), NJ504⟩
                            · refine own_go (fun _ kk => XS.icmpYes XJ504.here hx rfl (pc0 := 531) (pc' := 538) rfl (hb hby at_531) rfl (XT.ii_ne_t hc531) (by decide) (by decide) (XS.iconst XJ504.here hx rfl (hb hby at_538) kk)) ?_
                              show own_Fin _ _ _ _ _ _ _ (TJ504.setTop (mkF m 539 #[.val (.int p0), .val (.int p1), .val (.int p2), .val (.int p3), .val (.int p4), .val (.int p5), .val (.int ce), .val (.int oo), .val (.int kd), .val (.int qq), .val (.int tk), .val (.int n2), .val (.int n3), .val (.int n4), .val (.int n5), .val (.ref b6), .val (.long (own_f12 (((1 : Int64) <<< (((5 : Int32)) &&& 0x3f).toInt64) - (2 : Int64)) (own_plc (own_plc (own_plc (own_plc (own_plc (List.replicate 12 (0 : Int64)) ce tk) (ce ^^^ (2 : Int32)) n2) (ce ^^^ (8 : Int32)) n3) (ce ^^^ (5 : Int32)) n4) (ce ^^^ (3 : Int32)) n5) (own_f11 ce (0 : Int32)) (own_f11 ce (1 : Int32)) (own_f11 ce (2 : Int32)) tk)), .second, .val (.long ((((own_f13 n2) ||| (own_f13 n3)) ||| (own_f13 n4)) ||| (own_f13 n5))), .second, .val (.int (if (own_f14 (1 : Int32) tk ((((own_f13 n2) ||| (own_f13 n3)) ||| (own_f13 n4)) ||| (own_f13 n5))) = 0 then (if (own_f14 (2 : Int32) tk ((((own_f13 n2) ||| (own_f13 n3)) ||| (own_f13 n4)) ||| (own_f13 n5))) = 0 then (if (own_f14 (3 : Int32) tk ((((own_f13 n2) ||| (own_f13 n3)) ||| (own_f13 n4)) ||| (own_f13 n5))) = 0 then (if (own_f14 (4 : Int32) tk ((((own_f13 n2) ||| (own_f13 n3)) ||| (own_f13 n4)) ||| (own_f13 n5))) = 0 then (0 : Int32) else (4 : Int32)) else (3 : Int32)) else (2 : Int32)) else (1 : Int32))), .val (.long (own_f13 (if (own_f14 (1 : Int32) tk ((((own_f13 n2) ||| (own_f13 n3)) ||| (own_f13 n4)) ||| (own_f13 n5))) = 0 then (if (own_f14 (2 : Int32) tk ((((own_f13 n2) ||| (own_f13 n3)) ||| (own_f13 n4)) ||| (own_f13 n5))) = 0 then (if (own_f14 (3 : Int32) tk ((((own_f13 n2) ||| (own_f13 n3)) ||| (own_f13 n4)) ||| (own_f13 n5))) = 0 then (if (own_f14 (4 : Int32) tk ((((own_f13 n2) ||| (own_f13 n3)) ||| (own_f13 n4)) ||| (own_f13 n5))) = 0 then (0 : Int32) else (4 : Int32)) else (3 : Int32)) else (2 : Int32)) else (1 : Int32)))), .second, .val (.int (own_f11 oo kd)), .val (.long u4), .second, .val (.int se)] [(.int (0 : Int32))]))
                              exact own_retZ XJ504 hx hlk hret rfl (hb hby at_539) (by decide) (by decide) ⟨(by rw [hjJ504, own_f0_504, if_pos hc509, if_pos hc523, if_neg hc531]), NJ504⟩
                          · refine own_go (fun _ kk => XS.ifNo XJ504.here hx rfl (hb hby at_523) rfl (XT.ll_eq_f hc523) (XS.iconst XJ504.here hx rfl (hb hby at_526) (XS.goto XJ504.here hx rfl (pc0 := 527) (pc' := 531) rfl (hb hby at_527) (by decide) (by decide) kk))) ?_
                            show own_Fin _ _ _ _ _ _ _ (TJ504.setTop (mkF m 531 #[.val (.int p0), .val (.int p1), .val (.int p2), .val (.int p3), .val (.int p4), .val (.int p5), .val (.int ce), .val (.int oo), .val (.int kd), .val (.int qq), .val (.int tk), .val (.int n2), .val (.int n3), .val (.int n4), .val (.int n5), .val (.ref b6), .val (.long (own_f12 (((1 : Int64) <<< (((5 : Int32)) &&& 0x3f).toInt64) - (2 : Int64)) (own_plc (own_plc (own_plc (own_plc (own_plc (List.replicate 12 (0 : Int64)) ce tk) (ce ^^^ (2 : Int32)) n2) (ce ^^^ (8 : Int32)) n3) (ce ^^^ (5 : Int32)) n4) (ce ^^^ (3 : Int32)) n5) (own_f11 ce (0 : Int32)) (own_f11 ce (1 : Int32)) (own_f11 ce (2 : Int32)) tk)), .second, .val (.long ((((own_f13 n2) ||| (own_f13 n3)) ||| (own_f13 n4)) ||| (own_f13 n5))), .second, .val (.int (if (own_f14 (1 : Int32) tk ((((own_f13 n2) ||| (own_f13 n3)) ||| (own_f13 n4)) ||| (own_f13 n5))) = 0 then (if (own_f14 (2 : Int32) tk ((((own_f13 n2) ||| (own_f13 n3)) ||| (own_f13 n4)) ||| (own_f13 n5))) = 0 then (if (own_f14 (3 : Int32) tk ((((own_f13 n2) ||| (own_f13 n3)) ||| (own_f13 n4)) ||| (own_f13 n5))) = 0 then (if (own_f14 (4 : Int32) tk ((((own_f13 n2) ||| (own_f13 n3)) ||| (own_f13 n4)) ||| (own_f13 n5))) = 0 then (0 : Int32) else (4 : Int32)) else (3 : Int32)) else (2 : Int32)) else (1 : Int32))), .val (.long (own_f13 (if (own_f14 (1 : Int32) tk ((((own_f13 n2) ||| (own_f13 n3)) ||| (own_f13 n4)) ||| (own_f13 n5))) = 0 then (if (own_f14 (2 : Int32) tk ((((own_f13 n2) ||| (own_f13 n3)) ||| (own_f13 n4)) ||| (own_f13 n5))) = 0 then (if (own_f14 (3 : Int32) tk ((((own_f13 n2) ||| (own_f13 n3)) ||| (own_f13 n4)) ||| (own_f13 n5))) = 0 then (if (own_f14 (4 : Int32) tk ((((own_f13 n2) ||| (own_f13 n3)) ||| (own_f13 n4)) ||| (own_f13 n5))) = 0 then (0 : Int32) else (4 : Int32)) else (3 : Int32)) else (2 : Int32)) else (1 : Int32)))), .second, .val (.int (own_f11 oo kd)), .val (.long u4), .second, .val (.int se)] [(.int (1 : Int32)), (.int se)]))
                            by_cases hc531 : se = (1 : Int32)
                            · refine own_go (fun _ kk => XS.icmpNo XJ504.here hx rfl (hb hby at_531) rfl (XT.ii_ne_f hc531) (XS.iconst XJ504.here hx rfl (hb hby at_534) (XS.goto XJ504.here hx rfl (pc0 := 535) (pc' := 539) rfl (hb hby at_535) (by decide) (by decide) kk))) ?_
                              show own_Fin _ _ _ _ _ _ _ (TJ504.setTop (mkF m 539 #[.val (.int p0), .val (.int p1), .val (.int p2), .val (.int p3), .val (.int p4), .val (.int p5), .val (.int ce), .val (.int oo), .val (.int kd), .val (.int qq), .val (.int tk), .val (.int n2), .val (.int n3), .val (.int n4), .val (.int n5), .val (.ref b6), .val (.long (own_f12 (((1 : Int64) <<< (((5 : Int32)) &&& 0x3f).toInt64) - (2 : Int64)) (own_plc (own_plc (own_plc (own_plc (own_plc (List.replicate 12 (0 : Int64)) ce tk) (ce ^^^ (2 : Int32)) n2) (ce ^^^ (8 : Int32)) n3) (ce ^^^ (5 : Int32)) n4) (ce ^^^ (3 : Int32)) n5) (own_f11 ce (0 : Int32)) (own_f11 ce (1 : Int32)) (own_f11 ce (2 : Int32)) tk)), .second, .val (.long ((((own_f13 n2) ||| (own_f13 n3)) ||| (own_f13 n4)) ||| (own_f13 n5))), .second, .val (.int (if (own_f14 (1 : Int32) tk ((((own_f13 n2) ||| (own_f13 n3)) ||| (own_f13 n4)) ||| (own_f13 n5))) = 0 then (if (own_f14 (2 : Int32) tk ((((own_f13 n2) ||| (own_f13 n3)) ||| (own_f13 n4)) ||| (own_f13 n5))) = 0 then (if (own_f14 (3 : Int32) tk ((((own_f13 n2) ||| (own_f13 n3)) ||| (own_f13 n4)) ||| (own_f13 n5))) = 0 then (if (own_f14 (4 : Int32) tk ((((own_f13 n2) ||| (own_f13 n3)) ||| (own_f13 n4)) ||| (own_f13 n5))) = 0 then (0 : Int32) else (4 : Int32)) else (3 : Int32)) else (2 : Int32)) else (1 : Int32))), .val (.long (own_f13 (if (own_f14 (1 : Int32) tk ((((own_f13 n2) ||| (own_f13 n3)) ||| (own_f13 n4)) ||| (own_f13 n5))) = 0 then (if (own_f14 (2 : Int32) tk ((((own_f13 n2) ||| (own_f13 n3)) ||| (own_f13 n4)) ||| (own_f13 n5))) = 0 then (if (own_f14 (3 : Int32) tk ((((own_f13 n2) ||| (own_f13 n3)) ||| (own_f13 n4)) ||| (own_f13 n5))) = 0 then (if (own_f14 (4 : Int32) tk ((((own_f13 n2) ||| (own_f13 n3)) ||| (own_f13 n4)) ||| (own_f13 n5))) = 0 then (0 : Int32) else (4 : Int32)) else (3 : Int32)) else (2 : Int32)) else (1 : Int32)))), .second, .val (.int (own_f11 oo kd)), .val (.long u4), .second, .val (.int se)] [(.int (1 : Int32))]))
                              exact own_retZ XJ504 hx hlk hret rfl (hb hby at_539) (by decide) (by decide) ⟨(by rw [hjJ504, own_f0_504, if_pos hc509, if_neg hc523, if_pos hc531]), NJ504⟩
                            · refine own_go (fun _ kk => XS.icmpYes XJ504.here hx rfl (pc0 := 531) (pc' := 538) rfl (hb hby at_531) rfl (XT.ii_ne_t hc531) (by decide) (by decide) (XS.iconst XJ504.here hx rfl (hb hby at_538) kk)) ?_
                              show own_Fin _ _ _ _ _ _ _ (TJ504.setTop (mkF m 539 #[.val (.int p0), .val (.int p1), .val (.int p2), .val (.int p3), .val (.int p4), .val (.int p5), .val (.int ce), .val (.int oo), .val (.int kd), .val (.int qq), .val (.int tk), .val (.int n2), .val (.int n3), .val (.int n4), .val (.int n5), .val (.ref b6), .val (.long (own_f12 (((1 : Int64) <<< (((5 : Int32)) &&& 0x3f).toInt64) - (2 : Int64)) (own_plc (own_plc (own_plc (own_plc (own_plc (List.replicate 12 (0 : Int64)) ce tk) (ce ^^^ (2 : Int32)) n2) (ce ^^^ (8 : Int32)) n3) (ce ^^^ (5 : Int32)) n4) (ce ^^^ (3 : Int32)) n5) (own_f11 ce (0 : Int32)) (own_f11 ce (1 : Int32)) (own_f11 ce (2 : Int32)) tk)), .second, .val (.long ((((own_f13 n2) ||| (own_f13 n3)) ||| (own_f13 n4)) ||| (own_f13 n5))), .second, .val (.int (if (own_f14 (1 : Int32) tk ((((own_f13 n2) ||| (own_f13 n3)) ||| (own_f13 n4)) ||| (own_f13 n5))) = 0 then (if (own_f14 (2 : Int32) tk ((((own_f13 n2) ||| (own_f13 n3)) ||| (own_f13 n4)) ||| (own_f13 n5))) = 0 then (if (own_f14 (3 : Int32) tk ((((own_f13 n2) ||| (own_f13 n3)) ||| (own_f13 n4)) ||| (own_f13 n5))) = 0 then (if (own_f14 (4 : Int32) tk ((((own_f13 n2) ||| (own_f13 n3)) ||| (own_f13 n4)) ||| (own_f13 n5))) = 0 then (0 : Int32) else (4 : Int32)) else (3 : Int32)) else (2 : Int32)) else (1 : Int32))), .val (.long (own_f13 (if (own_f14 (1 : Int32) tk ((((own_f13 n2) ||| (own_f13 n3)) ||| (own_f13 n4)) ||| (own_f13 n5))) = 0 then (if (own_f14 (2 : Int32) tk ((((own_f13 n2) ||| (own_f13 n3)) ||| (own_f13 n4)) ||| (own_f13 n5))) = 0 then (if (own_f14 (3 : Int32) tk ((((own_f13 n2) ||| (own_f13 n3)) ||| (own_f13 n4)) ||| (own_f13 n5))) = 0 then (if (own_f14 (4 : Int32) tk ((((own_f13 n2) ||| (own_f13 n3)) ||| (own_f13 n4)) ||| (own_f13 n5))) = 0 then (0 : Int32) else (4 : Int32)) else (3 : Int32)) else (2 : Int32)) else (1 : Int32)))), .second, .val (.int (own_f11 oo kd)), .val (.long u4), .second, .val (.int se)] [(.int (0 : Int32))]))
                              exact own_retZ XJ504 hx hlk hret rfl (hb hby at_539) (by decide) (by decide) ⟨(by rw [hjJ504, own_f0_504, if_pos hc509, if_neg hc523, if_neg hc531]), NJ504⟩
                        · refine own_go (fun _ kk => XS.ifYes XJ504.here hx rfl (pc0 := 509) (pc' := 538) rfl (hb hby at_509) rfl (XT.ll_ne_t hc509) (by decide) (by decide) (XS.iconst XJ504.here hx rfl (hb hby at_538) kk)) ?_
                          show own_Fin _ _ _ _ _ _ _ (TJ504.setTop (mkF m 539 #[.val (.int p0), .val (.int p1), .val (.int p2), .val (.int p3), .val (.int p4), .val (.int p5), .val (.int ce), .val (.int oo), .val (.int kd), .val (.int qq), .val (.int tk), .val (.int n2), .val (.int n3), .val (.int n4), .val (.int n5), .val (.ref b6), .val (.long (own_f12 (((1 : Int64) <<< (((5 : Int32)) &&& 0x3f).toInt64) - (2 : Int64)) (own_plc (own_plc (own_plc (own_plc (own_plc (List.replicate 12 (0 : Int64)) ce tk) (ce ^^^ (2 : Int32)) n2) (ce ^^^ (8 : Int32)) n3) (ce ^^^ (5 : Int32)) n4) (ce ^^^ (3 : Int32)) n5) (own_f11 ce (0 : Int32)) (own_f11 ce (1 : Int32)) (own_f11 ce (2 : Int32)) tk)), .second, .val (.long ((((own_f13 n2) ||| (own_f13 n3)) ||| (own_f13 n4)) ||| (own_f13 n5))), .second, .val (.int (if (own_f14 (1 : Int32) tk ((((own_f13 n2) ||| (own_f13 n3)) ||| (own_f13 n4)) ||| (own_f13 n5))) = 0 then (if (own_f14 (2 : Int32) tk ((((own_f13 n2) ||| (own_f13 n3)) ||| (own_f13 n4)) ||| (own_f13 n5))) = 0 then (if (own_f14 (3 : Int32) tk ((((own_f13 n2) ||| (own_f13 n3)) ||| (own_f13 n4)) ||| (own_f13 n5))) = 0 then (if (own_f14 (4 : Int32) tk ((((own_f13 n2) ||| (own_f13 n3)) ||| (own_f13 n4)) ||| (own_f13 n5))) = 0 then (0 : Int32) else (4 : Int32)) else (3 : Int32)) else (2 : Int32)) else (1 : Int32))), .val (.long (own_f13 (if (own_f14 (1 : Int32) tk ((((own_f13 n2) ||| (own_f13 n3)) ||| (own_f13 n4)) ||| (own_f13 n5))) = 0 then (if (own_f14 (2 : Int32) tk ((((own_f13 n2) ||| (own_f13 n3)) ||| (own_f13 n4)) ||| (own_f13 n5))) = 0 then (if (own_f14 (3 : Int32) tk ((((own_f13 n2) ||| (own_f13 n3)) ||| (own_f13 n4)) ||| (own_f13 n5))) = 0 then (if (own_f14 (4 : Int32) tk ((((own_f13 n2) ||| (own_f13 n3)) ||| (own_f13 n4)) ||| (own_f13 n5))) = 0 then (0 : Int32) else (4 : Int32)) else (3 : Int32)) else (2 : Int32)) else (1 : Int32)))), .second, .val (.int (own_f11 oo kd)), .val (.long u4), .second, .val (.int se)] [(.int (0 : Int32))]))
                          exact own_retZ XJ504 hx hlk hret rfl (hb hby at_539) (by decide) (by decide) ⟨(by rw [hjJ504, own_f0_504, if_neg hc509]), NJ504⟩
                      refine own_go (fun _ kk => XS.iload XJ454.here hx rfl (hb hby at_454) rfl kk) ?_
                      show own_Fin _ _ _ _ _ _ _ (TJ454.setTop (mkF m 456 #[.val (.int p0), .val (.int p1), .val (.int p2), .val (.int p3), .val (.int p4), .val (.int p5), .val (.int ce), .val (.int oo), .val (.int kd), .val (.int qq), .val (.int tk), .val (.int n2), .val (.int n3), .val (.int n4), .val (.int n5), .val (.ref b6), .val (.long (own_f12 (((1 : Int64) <<< (((5 : Int32)) &&& 0x3f).toInt64) - (2 : Int64)) (own_plc (own_plc (own_plc (own_plc (own_plc (List.replicate 12 (0 : Int64)) ce tk) (ce ^^^ (2 : Int32)) n2) (ce ^^^ (8 : Int32)) n3) (ce ^^^ (5 : Int32)) n4) (ce ^^^ (3 : Int32)) n5) (own_f11 ce (0 : Int32)) (own_f11 ce (1 : Int32)) (own_f11 ce (2 : Int32)) tk)), .second, .val (.long ((((own_f13 n2) ||| (own_f13 n3)) ||| (own_f13 n4)) ||| (own_f13 n5))), .second, .val (.int (if (own_f14 (1 : Int32) tk ((((own_f13 n2) ||| (own_f13 n3)) ||| (own_f13 n4)) ||| (own_f13 n5))) = 0 then (if (own_f14 (2 : Int32) tk ((((own_f13 n2) ||| (own_f13 n3)) ||| (own_f13 n4)) ||| (own_f13 n5))) = 0 then (if (own_f14 (3 : Int32) tk ((((own_f13 n2) ||| (own_f13 n3)) ||| (own_f13 n4)) ||| (own_f13 n5))) = 0 then (if (own_f14 (4 : Int32) tk ((((own_f13 n2) ||| (own_f13 n3)) ||| (own_f13 n4)) ||| (own_f13 n5))) = 0 then (0 : Int32) else (4 : Int32)) else (3 : Int32)) else (2 : Int32)) else (1 : Int32))), .val (.long (own_f13 (if (own_f14 (1 : Int32) tk ((((own_f13 n2) ||| (own_f13 n3)) ||| (own_f13 n4)) ||| (own_f13 n5))) = 0 then (if (own_f14 (2 : Int32) tk ((((own_f13 n2) ||| (own_f13 n3)) ||| (own_f13 n4)) ||| (own_f13 n5))) = 0 then (if (own_f14 (3 : Int32) tk ((((own_f13 n2) ||| (own_f13 n3)) ||| (own_f13 n4)) ||| (own_f13 n5))) = 0 then (if (own_f14 (4 : Int32) tk ((((own_f13 n2) ||| (own_f13 n3)) ||| (own_f13 n4)) ||| (own_f13 n5))) = 0 then (0 : Int32) else (4 : Int32)) else (3 : Int32)) else (2 : Int32)) else (1 : Int32)))), .second, .val (.int (own_f11 oo kd)), .val (.long u4), .second, .unset] [(.int kd)]))
                      by_cases hc456 : kd = 0
                      · refine own_go (fun _ kk => XS.ifNo XJ454.here hx rfl (hb hby at_456) rfl (XT.i0_ne_f hc456) (XS.aload XJ454.here hx rfl (hb hby at_459) rfl rfl (XS.iload XJ454.here hx rfl (hb hby at_461) rfl (XS.iload XJ454.here hx rfl (hb hby at_463) rfl kk)))) ?_
                        show own_Fin _ _ _ _ _ _ _ (TJ454.setTop (mkF m 465 #[.val (.int p0), .val (.int p1), .val (.int p2), .val (.int p3), .val (.int p4), .val (.int p5), .val (.int ce), .val (.int oo), .val (.int kd), .val (.int qq), .val (.int tk), .val (.int n2), .val (.int n3), .val (.int n4), .val (.int n5), .val (.ref b6), .val (.long (own_f12 (((1 : Int64) <<< (((5 : Int32)) &&& 0x3f).toInt64) - (2 : Int64)) (own_plc (own_plc (own_plc (own_plc (own_plc (List.replicate 12 (0 : Int64)) ce tk) (ce ^^^ (2 : Int32)) n2) (ce ^^^ (8 : Int32)) n3) (ce ^^^ (5 : Int32)) n4) (ce ^^^ (3 : Int32)) n5) (own_f11 ce (0 : Int32)) (own_f11 ce (1 : Int32)) (own_f11 ce (2 : Int32)) tk)), .second, .val (.long ((((own_f13 n2) ||| (own_f13 n3)) ||| (own_f13 n4)) ||| (own_f13 n5))), .second, .val (.int (if (own_f14 (1 : Int32) tk ((((own_f13 n2) ||| (own_f13 n3)) ||| (own_f13 n4)) ||| (own_f13 n5))) = 0 then (if (own_f14 (2 : Int32) tk ((((own_f13 n2) ||| (own_f13 n3)) ||| (own_f13 n4)) ||| (own_f13 n5))) = 0 then (if (own_f14 (3 : Int32) tk ((((own_f13 n2) ||| (own_f13 n3)) ||| (own_f13 n4)) ||| (own_f13 n5))) = 0 then (if (own_f14 (4 : Int32) tk ((((own_f13 n2) ||| (own_f13 n3)) ||| (own_f13 n4)) ||| (own_f13 n5))) = 0 then (0 : Int32) else (4 : Int32)) else (3 : Int32)) else (2 : Int32)) else (1 : Int32))), .val (.long (own_f13 (if (own_f14 (1 : Int32) tk ((((own_f13 n2) ||| (own_f13 n3)) ||| (own_f13 n4)) ||| (own_f13 n5))) = 0 then (if (own_f14 (2 : Int32) tk ((((own_f13 n2) ||| (own_f13 n3)) ||| (own_f13 n4)) ||| (own_f13 n5))) = 0 then (if (own_f14 (3 : Int32) tk ((((own_f13 n2) ||| (own_f13 n3)) ||| (own_f13 n4)) ||| (own_f13 n5))) = 0 then (if (own_f14 (4 : Int32) tk ((((own_f13 n2) ||| (own_f13 n3)) ||| (own_f13 n4)) ||| (own_f13 n5))) = 0 then (0 : Int32) else (4 : Int32)) else (3 : Int32)) else (2 : Int32)) else (1 : Int32)))), .second, .val (.int (own_f11 oo kd)), .val (.long u4), .second, .unset] [(.int qq), (.int oo), (.ref b6)]))
                        refine own_callV XJ454 hx hZ hown (hw _ (List.mem_of_getElem? (i := 97) rfl)) (hw _ (List.mem_of_getElem? (i := 98) rfl)) (notFace_of_selects (args := #[]) (mvT hZ (hw _ (List.mem_of_getElem? (i := 100) rfl)))) (hw _ (List.mem_of_getElem? (i := 100) rfl)) (hw _ (List.mem_of_getElem? (i := 99) rfl)) (hw _ (List.mem_of_getElem? (i := 101) rfl)) (hw _ (List.mem_of_getElem? (i := 7) rfl)) (by decide) (rm15g2 l Z a0 hw b6 oo qq T37.heap n0 Z37 bR bC bB hd (own_pn (own_plc (own_plc (own_plc (own_plc (own_plc (List.replicate 12 (0 : Int64)) ce tk) (ce ^^^ (2 : Int32)) n2) (ce ^^^ (8 : Int32)) n3) (ce ^^^ (5 : Int32)) n4) (ce ^^^ (3 : Int32)) n5) (own_f11 ce (0 : Int32)) (own_f11 ce (1 : Int32)) (own_f11 ce (2 : Int32)) tk (own_f12 (((1 : Int64) <<< (((5 : Int32)) &&& 0x3f).toInt64) - (2 : Int64)) (own_plc (own_plc (own_plc (own_plc (own_plc (List.replicate 12 (0 : Int64)) ce tk) (ce ^^^ (2 : Int32)) n2) (ce ^^^ (8 : Int32)) n3) (ce ^^^ (5 : Int32)) n4) (ce ^^^ (3 : Int32)) n5) (own_f11 ce (0 : Int32)) (own_f11 ce (1 : Int32)) (own_f11 ce (2 : Int32)) tk)) f42 f43 f44 f46 f39 f40 f41 VH37 hl37 h_oo.1 h_oo.2) eJ454 f38 (argsL := [(.int oo), (.int qq)]) (rest := []) rfl rfl (by rw [hml]; rfl) (lenOf pd_0_7 rfl) (hb hby at_465) (W := 0) (Nat.le_of_eq rfl) (by decide) (by decide) (by decide) (by decide) ?_
                        rintro v58 T58 L58 X58 ⟨rfl, M58, e58⟩
                        have N58 := Fr.app NJ454 M58
                        show own_Fin _ _ _ _ _ _ _ (T58.setTop (mkF m 468 #[.val (.int p0), .val (.int p1), .val (.int p2), .val (.int p3), .val (.int p4), .val (.int p5), .val (.int ce), .val (.int oo), .val (.int kd), .val (.int qq), .val (.int tk), .val (.int n2), .val (.int n3), .val (.int n4), .val (.int n5), .val (.ref b6), .val (.long (own_f12 (((1 : Int64) <<< (((5 : Int32)) &&& 0x3f).toInt64) - (2 : Int64)) (own_plc (own_plc (own_plc (own_plc (own_plc (List.replicate 12 (0 : Int64)) ce tk) (ce ^^^ (2 : Int32)) n2) (ce ^^^ (8 : Int32)) n3) (ce ^^^ (5 : Int32)) n4) (ce ^^^ (3 : Int32)) n5) (own_f11 ce (0 : Int32)) (own_f11 ce (1 : Int32)) (own_f11 ce (2 : Int32)) tk)), .second, .val (.long ((((own_f13 n2) ||| (own_f13 n3)) ||| (own_f13 n4)) ||| (own_f13 n5))), .second, .val (.int (if (own_f14 (1 : Int32) tk ((((own_f13 n2) ||| (own_f13 n3)) ||| (own_f13 n4)) ||| (own_f13 n5))) = 0 then (if (own_f14 (2 : Int32) tk ((((own_f13 n2) ||| (own_f13 n3)) ||| (own_f13 n4)) ||| (own_f13 n5))) = 0 then (if (own_f14 (3 : Int32) tk ((((own_f13 n2) ||| (own_f13 n3)) ||| (own_f13 n4)) ||| (own_f13 n5))) = 0 then (if (own_f14 (4 : Int32) tk ((((own_f13 n2) ||| (own_f13 n3)) ||| (own_f13 n4)) ||| (own_f13 n5))) = 0 then (0 : Int32) else (4 : Int32)) else (3 : Int32)) else (2 : Int32)) else (1 : Int32))), .val (.long (own_f13 (if (own_f14 (1 : Int32) tk ((((own_f13 n2) ||| (own_f13 n3)) ||| (own_f13 n4)) ||| (own_f13 n5))) = 0 then (if (own_f14 (2 : Int32) tk ((((own_f13 n2) ||| (own_f13 n3)) ||| (own_f13 n4)) ||| (own_f13 n5))) = 0 then (if (own_f14 (3 : Int32) tk ((((own_f13 n2) ||| (own_f13 n3)) ||| (own_f13 n4)) ||| (own_f13 n5))) = 0 then (if (own_f14 (4 : Int32) tk ((((own_f13 n2) ||| (own_f13 n3)) ||| (own_f13 n4)) ||| (own_f13 n5))) = 0 then (0 : Int32) else (4 : Int32)) else (3 : Int32)) else (2 : Int32)) else (1 : Int32)))), .second, .val (.int (own_f11 oo kd)), .val (.long u4), .second, .unset] [(.int (own_f15g2 (own_pn (own_plc (own_plc (own_plc (own_plc (own_plc (List.replicate 12 (0 : Int64)) ce tk) (ce ^^^ (2 : Int32)) n2) (ce ^^^ (8 : Int32)) n3) (ce ^^^ (5 : Int32)) n4) (ce ^^^ (3 : Int32)) n5) (own_f11 ce (0 : Int32)) (own_f11 ce (1 : Int32)) (own_f11 ce (2 : Int32)) tk (own_f12 (((1 : Int64) <<< (((5 : Int32)) &&& 0x3f).toInt64) - (2 : Int64)) (own_plc (own_plc (own_plc (own_plc (own_plc (List.replicate 12 (0 : Int64)) ce tk) (ce ^^^ (2 : Int32)) n2) (ce ^^^ (8 : Int32)) n3) (ce ^^^ (5 : Int32)) n4) (ce ^^^ (3 : Int32)) n5) (own_f11 ce (0 : Int32)) (own_f11 ce (1 : Int32)) (own_f11 ce (2 : Int32)) tk)) oo qq))]))
                        refine own_go (fun _ kk => XS.istore X58.here hx rfl (hb hby at_468) rfl (l' := #[.val (.int p0), .val (.int p1), .val (.int p2), .val (.int p3), .val (.int p4), .val (.int p5), .val (.int ce), .val (.int oo), .val (.int kd), .val (.int qq), .val (.int tk), .val (.int n2), .val (.int n3), .val (.int n4), .val (.int n5), .val (.ref b6), .val (.long (own_f12 (((1 : Int64) <<< (((5 : Int32)) &&& 0x3f).toInt64) - (2 : Int64)) (own_plc (own_plc (own_plc (own_plc (own_plc (List.replicate 12 (0 : Int64)) ce tk) (ce ^^^ (2 : Int32)) n2) (ce ^^^ (8 : Int32)) n3) (ce ^^^ (5 : Int32)) n4) (ce ^^^ (3 : Int32)) n5) (own_f11 ce (0 : Int32)) (own_f11 ce (1 : Int32)) (own_f11 ce (2 : Int32)) tk)), .second, .val (.long ((((own_f13 n2) ||| (own_f13 n3)) ||| (own_f13 n4)) ||| (own_f13 n5))), .second, .val (.int (if (own_f14 (1 : Int32) tk ((((own_f13 n2) ||| (own_f13 n3)) ||| (own_f13 n4)) ||| (own_f13 n5))) = 0 then (if (own_f14 (2 : Int32) tk ((((own_f13 n2) ||| (own_f13 n3)) ||| (own_f13 n4)) ||| (own_f13 n5))) = 0 then (if (own_f14 (3 : Int32) tk ((((own_f13 n2) ||| (own_f13 n3)) ||| (own_f13 n4)) ||| (own_f13 n5))) = 0 then (if (own_f14 (4 : Int32) tk ((((own_f13 n2) ||| (own_f13 n3)) ||| (own_f13 n4)) ||| (own_f13 n5))) = 0 then (0 : Int32) else (4 : Int32)) else (3 : Int32)) else (2 : Int32)) else (1 : Int32))), .val (.long (own_f13 (if (own_f14 (1 : Int32) tk ((((own_f13 n2) ||| (own_f13 n3)) ||| (own_f13 n4)) ||| (own_f13 n5))) = 0 then (if (own_f14 (2 : Int32) tk ((((own_f13 n2) ||| (own_f13 n3)) ||| (own_f13 n4)) ||| (own_f13 n5))) = 0 then (if (own_f14 (3 : Int32) tk ((((own_f13 n2) ||| (own_f13 n3)) ||| (own_f13 n4)) ||| (own_f13 n5))) = 0 then (if (own_f14 (4 : Int32) tk ((((own_f13 n2) ||| (own_f13 n3)) ||| (own_f13 n4)) ||| (own_f13 n5))) = 0 then (0 : Int32) else (4 : Int32)) else (3 : Int32)) else (2 : Int32)) else (1 : Int32)))), .second, .val (.int (own_f11 oo kd)), .val (.long u4), .second, .val (.int (own_f15g2 (own_pn (own_plc (own_plc (own_plc (own_plc (own_plc (List.replicate 12 (0 : Int64)) ce tk) (ce ^^^ (2 : Int32)) n2) (ce ^^^ (8 : Int32)) n3) (ce ^^^ (5 : Int32)) n4) (ce ^^^ (3 : Int32)) n5) (own_f11 ce (0 : Int32)) (own_f11 ce (1 : Int32)) (own_f11 ce (2 : Int32)) tk (own_f12 (((1 : Int64) <<< (((5 : Int32)) &&& 0x3f).toInt64) - (2 : Int64)) (own_plc (own_plc (own_plc (own_plc (own_plc (List.replicate 12 (0 : Int64)) ce tk) (ce ^^^ (2 : Int32)) n2) (ce ^^^ (8 : Int32)) n3) (ce ^^^ (5 : Int32)) n4) (ce ^^^ (3 : Int32)) n5) (own_f11 ce (0 : Int32)) (own_f11 ce (1 : Int32)) (own_f11 ce (2 : Int32)) tk)) oo qq))]) rfl (XS.goto X58.here hx rfl (pc0 := 470) (pc' := 504) rfl (hb hby at_470) (by decide) (by decide) kk)) ?_
                        show own_Fin _ _ _ _ _ _ _ (T58.setTop (mkF m 504 #[.val (.int p0), .val (.int p1), .val (.int p2), .val (.int p3), .val (.int p4), .val (.int p5), .val (.int ce), .val (.int oo), .val (.int kd), .val (.int qq), .val (.int tk), .val (.int n2), .val (.int n3), .val (.int n4), .val (.int n5), .val (.ref b6), .val (.long (own_f12 (((1 : Int64) <<< (((5 : Int32)) &&& 0x3f).toInt64) - (2 : Int64)) (own_plc (own_plc (own_plc (own_plc (own_plc (List.replicate 12 (0 : Int64)) ce tk) (ce ^^^ (2 : Int32)) n2) (ce ^^^ (8 : Int32)) n3) (ce ^^^ (5 : Int32)) n4) (ce ^^^ (3 : Int32)) n5) (own_f11 ce (0 : Int32)) (own_f11 ce (1 : Int32)) (own_f11 ce (2 : Int32)) tk)), .second, .val (.long ((((own_f13 n2) ||| (own_f13 n3)) ||| (own_f13 n4)) ||| (own_f13 n5))), .second, .val (.int (if (own_f14 (1 : Int32) tk ((((own_f13 n2) ||| (own_f13 n3)) ||| (own_f13 n4)) ||| (own_f13 n5))) = 0 then (if (own_f14 (2 : Int32) tk ((((own_f13 n2) ||| (own_f13 n3)) ||| (own_f13 n4)) ||| (own_f13 n5))) = 0 then (if (own_f14 (3 : Int32) tk ((((own_f13 n2) ||| (own_f13 n3)) ||| (own_f13 n4)) ||| (own_f13 n5))) = 0 then (if (own_f14 (4 : Int32) tk ((((own_f13 n2) ||| (own_f13 n3)) ||| (own_f13 n4)) ||| (own_f13 n5))) = 0 then (0 : Int32) else (4 : Int32)) else (3 : Int32)) else (2 : Int32)) else (1 : Int32))), .val (.long (own_f13 (if (own_f14 (1 : Int32) tk ((((own_f13 n2) ||| (own_f13 n3)) ||| (own_f13 n4)) ||| (own_f13 n5))) = 0 then (if (own_f14 (2 : Int32) tk ((((own_f13 n2) ||| (own_f13 n3)) ||| (own_f13 n4)) ||| (own_f13 n5))) = 0 then (if (own_f14 (3 : Int32) tk ((((own_f13 n2) ||| (own_f13 n3)) ||| (own_f13 n4)) ||| (own_f13 n5))) = 0 then (if (own_f14 (4 : Int32) tk ((((own_f13 n2) ||| (own_f13 n3)) ||| (own_f13 n4)) ||| (own_f13 n5))) = 0 then (0 : Int32) else (4 : Int32)) else (3 : Int32)) else (2 : Int32)) else (1 : Int32)))), .second, .val (.int (own_f11 oo kd)), .val (.long u4), .second, .val (.int (own_f15g2 (own_pn (own_plc (own_plc (own_plc (own_plc (own_plc (List.replicate 12 (0 : Int64)) ce tk) (ce ^^^ (2 : Int32)) n2) (ce ^^^ (8 : Int32)) n3) (ce ^^^ (5 : Int32)) n4) (ce ^^^ (3 : Int32)) n5) (own_f11 ce (0 : Int32)) (own_f11 ce (1 : Int32)) (own_f11 ce (2 : Int32)) tk (own_f12 (((1 : Int64) <<< (((5 : Int32)) &&& 0x3f).toInt64) - (2 : Int64)) (own_plc (own_plc (own_plc (own_plc (own_plc (List.replicate 12 (0 : Int64)) ce tk) (ce ^^^ (2 : Int32)) n2) (ce ^^^ (8 : Int32)) n3) (ce ^^^ (5 : Int32)) n4) (ce ^^^ (3 : Int32)) n5) (own_f11 ce (0 : Int32)) (own_f11 ce (1 : Int32)) (own_f11 ce (2 : Int32)) tk)) oo qq))] []))
                        exact J504 _ _ ((own_f15g2 (own_pn (own_plc (own_plc (own_plc (own_plc (own_plc (List.replicate 12 (0 : Int64)) ce tk) (ce ^^^ (2 : Int32)) n2) (ce ^^^ (8 : Int32)) n3) (ce ^^^ (5 : Int32)) n4) (ce ^^^ (3 : Int32)) n5) (own_f11 ce (0 : Int32)) (own_f11 ce (1 : Int32)) (own_f11 ce (2 : Int32)) tk (own_f12 (((1 : Int64) <<< (((5 : Int32)) &&& 0x3f).toInt64) - (2 : Int64)) (own_plc (own_plc (own_plc (own_plc (own_plc (List.replicate 12 (0 : Int64)) ce tk) (ce ^^^ (2 : Int32)) n2) (ce ^^^ (8 : Int32)) n3) (ce ^^^ (5 : Int32)) n4) (ce ^^^ (3 : Int32)) n5) (own_f11 ce (0 : Int32)) (own_f11 ce (1 : Int32)) (own_f11 ce (2 : Int32)) tk)) oo qq)) X58 N58 e58 (by rw [hjJ454, own_f0_454, if_pos hc456])
                      · refine own_go (fun _ kk => XS.ifYes XJ454.here hx rfl (pc0 := 456) (pc' := 473) rfl (hb hby at_456) rfl (XT.i0_ne_t hc456) (by decide) (by decide) (XS.iload XJ454.here hx rfl (hb hby at_473) rfl (XS.iconst XJ454.here hx rfl (hb hby at_475) kk))) ?_
                        show own_Fin _ _ _ _ _ _ _ (TJ454.setTop (mkF m 476 #[.val (.int p0), .val (.int p1), .val (.int p2), .val (.int p3), .val (.int p4), .val (.int p5), .val (.int ce), .val (.int oo), .val (.int kd), .val (.int qq), .val (.int tk), .val (.int n2), .val (.int n3), .val (.int n4), .val (.int n5), .val (.ref b6), .val (.long (own_f12 (((1 : Int64) <<< (((5 : Int32)) &&& 0x3f).toInt64) - (2 : Int64)) (own_plc (own_plc (own_plc (own_plc (own_plc (List.replicate 12 (0 : Int64)) ce tk) (ce ^^^ (2 : Int32)) n2) (ce ^^^ (8 : Int32)) n3) (ce ^^^ (5 : Int32)) n4) (ce ^^^ (3 : Int32)) n5) (own_f11 ce (0 : Int32)) (own_f11 ce (1 : Int32)) (own_f11 ce (2 : Int32)) tk)), .second, .val (.long ((((own_f13 n2) ||| (own_f13 n3)) ||| (own_f13 n4)) ||| (own_f13 n5))), .second, .val (.int (if (own_f14 (1 : Int32) tk ((((own_f13 n2) ||| (own_f13 n3)) ||| (own_f13 n4)) ||| (own_f13 n5))) = 0 then (if (own_f14 (2 : Int32) tk ((((own_f13 n2) ||| (own_f13 n3)) ||| (own_f13 n4)) ||| (own_f13 n5))) = 0 then (if (own_f14 (3 : Int32) tk ((((own_f13 n2) ||| (own_f13 n3)) ||| (own_f13 n4)) ||| (own_f13 n5))) = 0 then (if (own_f14 (4 : Int32) tk ((((own_f13 n2) ||| (own_f13 n3)) ||| (own_f13 n4)) ||| (own_f13 n5))) = 0 then (0 : Int32) else (4 : Int32)) else (3 : Int32)) else (2 : Int32)) else (1 : Int32))), .val (.long (own_f13 (if (own_f14 (1 : Int32) tk ((((own_f13 n2) ||| (own_f13 n3)) ||| (own_f13 n4)) ||| (own_f13 n5))) = 0 then (if (own_f14 (2 : Int32) tk ((((own_f13 n2) ||| (own_f13 n3)) ||| (own_f13 n4)) ||| (own_f13 n5))) = 0 then (if (own_f14 (3 : Int32) tk ((((own_f13 n2) ||| (own_f13 n3)) ||| (own_f13 n4)) ||| (own_f13 n5))) = 0 then (if (own_f14 (4 : Int32) tk ((((own_f13 n2) ||| (own_f13 n3)) ||| (own_f13 n4)) ||| (own_f13 n5))) = 0 then (0 : Int32) else (4 : Int32)) else (3 : Int32)) else (2 : Int32)) else (1 : Int32)))), .second, .val (.int (own_f11 oo kd)), .val (.long u4), .second, .unset] [(.int (1 : Int32)), (.int kd)]))
                        by_cases hc476 : kd = (1 : Int32)
                        · refine own_go (fun _ kk => XS.icmpNo XJ454.here hx rfl (hb hby at_476) rfl (XT.ii_ne_f hc476) (XS.aload XJ454.here hx rfl (hb hby at_479) rfl rfl (XS.iload XJ454.here hx rfl (hb hby at_481) rfl (XS.iload XJ454.here hx rfl (hb hby at_483) rfl kk)))) ?_
                          show own_Fin _ _ _ _ _ _ _ (TJ454.setTop (mkF m 485 #[.val (.int p0), .val (.int p1), .val (.int p2), .val (.int p3), .val (.int p4), .val (.int p5), .val (.int ce), .val (.int oo), .val (.int kd), .val (.int qq), .val (.int tk), .val (.int n2), .val (.int n3), .val (.int n4), .val (.int n5), .val (.ref b6), .val (.long (own_f12 (((1 : Int64) <<< (((5 : Int32)) &&& 0x3f).toInt64) - (2 : Int64)) (own_plc (own_plc (own_plc (own_plc (own_plc (List.replicate 12 (0 : Int64)) ce tk) (ce ^^^ (2 : Int32)) n2) (ce ^^^ (8 : Int32)) n3) (ce ^^^ (5 : Int32)) n4) (ce ^^^ (3 : Int32)) n5) (own_f11 ce (0 : Int32)) (own_f11 ce (1 : Int32)) (own_f11 ce (2 : Int32)) tk)), .second, .val (.long ((((own_f13 n2) ||| (own_f13 n3)) ||| (own_f13 n4)) ||| (own_f13 n5))), .second, .val (.int (if (own_f14 (1 : Int32) tk ((((own_f13 n2) ||| (own_f13 n3)) ||| (own_f13 n4)) ||| (own_f13 n5))) = 0 then (if (own_f14 (2 : Int32) tk ((((own_f13 n2) ||| (own_f13 n3)) ||| (own_f13 n4)) ||| (own_f13 n5))) = 0 then (if (own_f14 (3 : Int32) tk ((((own_f13 n2) ||| (own_f13 n3)) ||| (own_f13 n4)) ||| (own_f13 n5))) = 0 then (if (own_f14 (4 : Int32) tk ((((own_f13 n2) ||| (own_f13 n3)) ||| (own_f13 n4)) ||| (own_f13 n5))) = 0 then (0 : Int32) else (4 : Int32)) else (3 : Int32)) else (2 : Int32)) else (1 : Int32))), .val (.long (own_f13 (if (own_f14 (1 : Int32) tk ((((own_f13 n2) ||| (own_f13 n3)) ||| (own_f13 n4)) ||| (own_f13 n5))) = 0 then (if (own_f14 (2 : Int32) tk ((((own_f13 n2) ||| (own_f13 n3)) ||| (own_f13 n4)) ||| (own_f13 n5))) = 0 then (if (own_f14 (3 : Int32) tk ((((own_f13 n2) ||| (own_f13 n3)) ||| (own_f13 n4)) ||| (own_f13 n5))) = 0 then (if (own_f14 (4 : Int32) tk ((((own_f13 n2) ||| (own_f13 n3)) ||| (own_f13 n4)) ||| (own_f13 n5))) = 0 then (0 : Int32) else (4 : Int32)) else (3 : Int32)) else (2 : Int32)) else (1 : Int32)))), .second, .val (.int (own_f11 oo kd)), .val (.long u4), .second, .unset] [(.int qq), (.int oo), (.ref b6)]))
                          refine own_callV XJ454 hx hZ hown (hw _ (List.mem_of_getElem? (i := 107) rfl)) (hw _ (List.mem_of_getElem? (i := 108) rfl)) (notFace_of_selects (args := #[]) (mvT hZ (hw _ (List.mem_of_getElem? (i := 110) rfl)))) (hw _ (List.mem_of_getElem? (i := 110) rfl)) (hw _ (List.mem_of_getElem? (i := 109) rfl)) (hw _ (List.mem_of_getElem? (i := 111) rfl)) (hw _ (List.mem_of_getElem? (i := 7) rfl)) (by decide) (rm17g2 l Z a0 hw b6 oo qq T37.heap n0 Z37 bR bC bB hd (own_pn (own_plc (own_plc (own_plc (own_plc (own_plc (List.replicate 12 (0 : Int64)) ce tk) (ce ^^^ (2 : Int32)) n2) (ce ^^^ (8 : Int32)) n3) (ce ^^^ (5 : Int32)) n4) (ce ^^^ (3 : Int32)) n5) (own_f11 ce (0 : Int32)) (own_f11 ce (1 : Int32)) (own_f11 ce (2 : Int32)) tk (own_f12 (((1 : Int64) <<< (((5 : Int32)) &&& 0x3f).toInt64) - (2 : Int64)) (own_plc (own_plc (own_plc (own_plc (own_plc (List.replicate 12 (0 : Int64)) ce tk) (ce ^^^ (2 : Int32)) n2) (ce ^^^ (8 : Int32)) n3) (ce ^^^ (5 : Int32)) n4) (ce ^^^ (3 : Int32)) n5) (own_f11 ce (0 : Int32)) (own_f11 ce (1 : Int32)) (own_f11 ce (2 : Int32)) tk)) f42 f43 f44 f46 f39 f40 f41 VH37 hl37 h_oo.1 h_oo.2) eJ454 f38 (argsL := [(.int oo), (.int qq)]) (rest := []) rfl rfl (by rw [hml]; rfl) (lenOf pd_0_7 rfl) (hb hby at_485) (W := 0) (Nat.le_of_eq rfl) (by decide) (by decide) (by decide) (by decide) ?_
                          rintro v59 T59 L59 X59 ⟨rfl, M59, e59⟩
                          have N59 := Fr.app NJ454 M59
                          show own_Fin _ _ _ _ _ _ _ (T59.setTop (mkF m 488 #[.val (.int p0), .val (.int p1), .val (.int p2), .val (.int p3), .val (.int p4), .val (.int p5), .val (.int ce), .val (.int oo), .val (.int kd), .val (.int qq), .val (.int tk), .val (.int n2), .val (.int n3), .val (.int n4), .val (.int n5), .val (.ref b6), .val (.long (own_f12 (((1 : Int64) <<< (((5 : Int32)) &&& 0x3f).toInt64) - (2 : Int64)) (own_plc (own_plc (own_plc (own_plc (own_plc (List.replicate 12 (0 : Int64)) ce tk) (ce ^^^ (2 : Int32)) n2) (ce ^^^ (8 : Int32)) n3) (ce ^^^ (5 : Int32)) n4) (ce ^^^ (3 : Int32)) n5) (own_f11 ce (0 : Int32)) (own_f11 ce (1 : Int32)) (own_f11 ce (2 : Int32)) tk)), .second, .val (.long ((((own_f13 n2) ||| (own_f13 n3)) ||| (own_f13 n4)) ||| (own_f13 n5))), .second, .val (.int (if (own_f14 (1 : Int32) tk ((((own_f13 n2) ||| (own_f13 n3)) ||| (own_f13 n4)) ||| (own_f13 n5))) = 0 then (if (own_f14 (2 : Int32) tk ((((own_f13 n2) ||| (own_f13 n3)) ||| (own_f13 n4)) ||| (own_f13 n5))) = 0 then (if (own_f14 (3 : Int32) tk ((((own_f13 n2) ||| (own_f13 n3)) ||| (own_f13 n4)) ||| (own_f13 n5))) = 0 then (if (own_f14 (4 : Int32) tk ((((own_f13 n2) ||| (own_f13 n3)) ||| (own_f13 n4)) ||| (own_f13 n5))) = 0 then (0 : Int32) else (4 : Int32)) else (3 : Int32)) else (2 : Int32)) else (1 : Int32))), .val (.long (own_f13 (if (own_f14 (1 : Int32) tk ((((own_f13 n2) ||| (own_f13 n3)) ||| (own_f13 n4)) ||| (own_f13 n5))) = 0 then (if (own_f14 (2 : Int32) tk ((((own_f13 n2) ||| (own_f13 n3)) ||| (own_f13 n4)) ||| (own_f13 n5))) = 0 then (if (own_f14 (3 : Int32) tk ((((own_f13 n2) ||| (own_f13 n3)) ||| (own_f13 n4)) ||| (own_f13 n5))) = 0 then (if (own_f14 (4 : Int32) tk ((((own_f13 n2) ||| (own_f13 n3)) ||| (own_f13 n4)) ||| (own_f13 n5))) = 0 then (0 : Int32) else (4 : Int32)) else (3 : Int32)) else (2 : Int32)) else (1 : Int32)))), .second, .val (.int (own_f11 oo kd)), .val (.long u4), .second, .unset] [(.int (own_f17g2 (own_pn (own_plc (own_plc (own_plc (own_plc (own_plc (List.replicate 12 (0 : Int64)) ce tk) (ce ^^^ (2 : Int32)) n2) (ce ^^^ (8 : Int32)) n3) (ce ^^^ (5 : Int32)) n4) (ce ^^^ (3 : Int32)) n5) (own_f11 ce (0 : Int32)) (own_f11 ce (1 : Int32)) (own_f11 ce (2 : Int32)) tk (own_f12 (((1 : Int64) <<< (((5 : Int32)) &&& 0x3f).toInt64) - (2 : Int64)) (own_plc (own_plc (own_plc (own_plc (own_plc (List.replicate 12 (0 : Int64)) ce tk) (ce ^^^ (2 : Int32)) n2) (ce ^^^ (8 : Int32)) n3) (ce ^^^ (5 : Int32)) n4) (ce ^^^ (3 : Int32)) n5) (own_f11 ce (0 : Int32)) (own_f11 ce (1 : Int32)) (own_f11 ce (2 : Int32)) tk)) oo qq))]))
                          refine own_go (fun _ kk => XS.istore X59.here hx rfl (hb hby at_488) rfl (l' := #[.val (.int p0), .val (.int p1), .val (.int p2), .val (.int p3), .val (.int p4), .val (.int p5), .val (.int ce), .val (.int oo), .val (.int kd), .val (.int qq), .val (.int tk), .val (.int n2), .val (.int n3), .val (.int n4), .val (.int n5), .val (.ref b6), .val (.long (own_f12 (((1 : Int64) <<< (((5 : Int32)) &&& 0x3f).toInt64) - (2 : Int64)) (own_plc (own_plc (own_plc (own_plc (own_plc (List.replicate 12 (0 : Int64)) ce tk) (ce ^^^ (2 : Int32)) n2) (ce ^^^ (8 : Int32)) n3) (ce ^^^ (5 : Int32)) n4) (ce ^^^ (3 : Int32)) n5) (own_f11 ce (0 : Int32)) (own_f11 ce (1 : Int32)) (own_f11 ce (2 : Int32)) tk)), .second, .val (.long ((((own_f13 n2) ||| (own_f13 n3)) ||| (own_f13 n4)) ||| (own_f13 n5))), .second, .val (.int (if (own_f14 (1 : Int32) tk ((((own_f13 n2) ||| (own_f13 n3)) ||| (own_f13 n4)) ||| (own_f13 n5))) = 0 then (if (own_f14 (2 : Int32) tk ((((own_f13 n2) ||| (own_f13 n3)) ||| (own_f13 n4)) ||| (own_f13 n5))) = 0 then (if (own_f14 (3 : Int32) tk ((((own_f13 n2) ||| (own_f13 n3)) ||| (own_f13 n4)) ||| (own_f13 n5))) = 0 then (if (own_f14 (4 : Int32) tk ((((own_f13 n2) ||| (own_f13 n3)) ||| (own_f13 n4)) ||| (own_f13 n5))) = 0 then (0 : Int32) else (4 : Int32)) else (3 : Int32)) else (2 : Int32)) else (1 : Int32))), .val (.long (own_f13 (if (own_f14 (1 : Int32) tk ((((own_f13 n2) ||| (own_f13 n3)) ||| (own_f13 n4)) ||| (own_f13 n5))) = 0 then (if (own_f14 (2 : Int32) tk ((((own_f13 n2) ||| (own_f13 n3)) ||| (own_f13 n4)) ||| (own_f13 n5))) = 0 then (if (own_f14 (3 : Int32) tk ((((own_f13 n2) ||| (own_f13 n3)) ||| (own_f13 n4)) ||| (own_f13 n5))) = 0 then (if (own_f14 (4 : Int32) tk ((((own_f13 n2) ||| (own_f13 n3)) ||| (own_f13 n4)) ||| (own_f13 n5))) = 0 then (0 : Int32) else (4 : Int32)) else (3 : Int32)) else (2 : Int32)) else (1 : Int32)))), .second, .val (.int (own_f11 oo kd)), .val (.long u4), .second, .val (.int (own_f17g2 (own_pn (own_plc (own_plc (own_plc (own_plc (own_plc (List.replicate 12 (0 : Int64)) ce tk) (ce ^^^ (2 : Int32)) n2) (ce ^^^ (8 : Int32)) n3) (ce ^^^ (5 : Int32)) n4) (ce ^^^ (3 : Int32)) n5) (own_f11 ce (0 : Int32)) (own_f11 ce (1 : Int32)) (own_f11 ce (2 : Int32)) tk (own_f12 (((1 : Int64) <<< (((5 : Int32)) &&& 0x3f).toInt64) - (2 : Int64)) (own_plc (own_plc (own_plc (own_plc (own_plc (List.replicate 12 (0 : Int64)) ce tk) (ce ^^^ (2 : Int32)) n2) (ce ^^^ (8 : Int32)) n3) (ce ^^^ (5 : Int32)) n4) (ce ^^^ (3 : Int32)) n5) (own_f11 ce (0 : Int32)) (own_f11 ce (1 : Int32)) (own_f11 ce (2 : Int32)) tk)) oo qq))]) rfl (XS.goto X59.here hx rfl (pc0 := 490) (pc' := 504) rfl (hb hby at_490) (by decide) (by decide) kk)) ?_
                          show own_Fin _ _ _ _ _ _ _ (T59.setTop (mkF m 504 #[.val (.int p0), .val (.int p1), .val (.int p2), .val (.int p3), .val (.int p4), .val (.int p5), .val (.int ce), .val (.int oo), .val (.int kd), .val (.int qq), .val (.int tk), .val (.int n2), .val (.int n3), .val (.int n4), .val (.int n5), .val (.ref b6), .val (.long (own_f12 (((1 : Int64) <<< (((5 : Int32)) &&& 0x3f).toInt64) - (2 : Int64)) (own_plc (own_plc (own_plc (own_plc (own_plc (List.replicate 12 (0 : Int64)) ce tk) (ce ^^^ (2 : Int32)) n2) (ce ^^^ (8 : Int32)) n3) (ce ^^^ (5 : Int32)) n4) (ce ^^^ (3 : Int32)) n5) (own_f11 ce (0 : Int32)) (own_f11 ce (1 : Int32)) (own_f11 ce (2 : Int32)) tk)), .second, .val (.long ((((own_f13 n2) ||| (own_f13 n3)) ||| (own_f13 n4)) ||| (own_f13 n5))), .second, .val (.int (if (own_f14 (1 : Int32) tk ((((own_f13 n2) ||| (own_f13 n3)) ||| (own_f13 n4)) ||| (own_f13 n5))) = 0 then (if (own_f14 (2 : Int32) tk ((((own_f13 n2) ||| (own_f13 n3)) ||| (own_f13 n4)) ||| (own_f13 n5))) = 0 then (if (own_f14 (3 : Int32) tk ((((own_f13 n2) ||| (own_f13 n3)) ||| (own_f13 n4)) ||| (own_f13 n5))) = 0 then (if (own_f14 (4 : Int32) tk ((((own_f13 n2) ||| (own_f13 n3)) ||| (own_f13 n4)) ||| (own_f13 n5))) = 0 then (0 : Int32) else (4 : Int32)) else (3 : Int32)) else (2 : Int32)) else (1 : Int32))), .val (.long (own_f13 (if (own_f14 (1 : Int32) tk ((((own_f13 n2) ||| (own_f13 n3)) ||| (own_f13 n4)) ||| (own_f13 n5))) = 0 then (if (own_f14 (2 : Int32) tk ((((own_f13 n2) ||| (own_f13 n3)) ||| (own_f13 n4)) ||| (own_f13 n5))) = 0 then (if (own_f14 (3 : Int32) tk ((((own_f13 n2) ||| (own_f13 n3)) ||| (own_f13 n4)) ||| (own_f13 n5))) = 0 then (if (own_f14 (4 : Int32) tk ((((own_f13 n2) ||| (own_f13 n3)) ||| (own_f13 n4)) ||| (own_f13 n5))) = 0 then (0 : Int32) else (4 : Int32)) else (3 : Int32)) else (2 : Int32)) else (1 : Int32)))), .second, .val (.int (own_f11 oo kd)), .val (.long u4), .second, .val (.int (own_f17g2 (own_pn (own_plc (own_plc (own_plc (own_plc (own_plc (List.replicate 12 (0 : Int64)) ce tk) (ce ^^^ (2 : Int32)) n2) (ce ^^^ (8 : Int32)) n3) (ce ^^^ (5 : Int32)) n4) (ce ^^^ (3 : Int32)) n5) (own_f11 ce (0 : Int32)) (own_f11 ce (1 : Int32)) (own_f11 ce (2 : Int32)) tk (own_f12 (((1 : Int64) <<< (((5 : Int32)) &&& 0x3f).toInt64) - (2 : Int64)) (own_plc (own_plc (own_plc (own_plc (own_plc (List.replicate 12 (0 : Int64)) ce tk) (ce ^^^ (2 : Int32)) n2) (ce ^^^ (8 : Int32)) n3) (ce ^^^ (5 : Int32)) n4) (ce ^^^ (3 : Int32)) n5) (own_f11 ce (0 : Int32)) (own_f11 ce (1 : Int32)) (own_f11 ce (2 : Int32)) tk)) oo qq))] []))
                          exact J504 _ _ ((own_f17g2 (own_pn (own_plc (own_plc (own_plc (own_plc (own_plc (List.replicate 12 (0 : Int64)) ce tk) (ce ^^^ (2 : Int32)) n2) (ce ^^^ (8 : Int32)) n3) (ce ^^^ (5 : Int32)) n4) (ce ^^^ (3 : Int32)) n5) (own_f11 ce (0 : Int32)) (own_f11 ce (1 : Int32)) (own_f11 ce (2 : Int32)) tk (own_f12 (((1 : Int64) <<< (((5 : Int32)) &&& 0x3f).toInt64) - (2 : Int64)) (own_plc (own_plc (own_plc (own_plc (own_plc (List.replicate 12 (0 : Int64)) ce tk) (ce ^^^ (2 : Int32)) n2) (ce ^^^ (8 : Int32)) n3) (ce ^^^ (5 : Int32)) n4) (ce ^^^ (3 : Int32)) n5) (own_f11 ce (0 : Int32)) (own_f11 ce (1 : Int32)) (own_f11 ce (2 : Int32)) tk)) oo qq)) X59 N59 e59 (by rw [hjJ454, own_f0_454, if_neg hc456, if_pos hc476])
                        · refine own_go (fun _ kk => XS.icmpYes XJ454.here hx rfl (pc0 := 476) (pc' := 493) rfl (hb hby at_476) rfl (XT.ii_ne_t hc476) (by decide) (by decide) (XS.aload XJ454.here hx rfl (hb hby at_493) rfl rfl (XS.iload XJ454.here hx rfl (hb hby at_495) rfl (XS.iload XJ454.here hx rfl (hb hby at_497) rfl kk)))) ?_
                          show own_Fin _ _ _ _ _ _ _ (TJ454.setTop (mkF m 499 #[.val (.int p0), .val (.int p1), .val (.int p2), .val (.int p3), .val (.int p4), .val (.int p5), .val (.int ce), .val (.int oo), .val (.int kd), .val (.int qq), .val (.int tk), .val (.int n2), .val (.int n3), .val (.int n4), .val (.int n5), .val (.ref b6), .val (.long (own_f12 (((1 : Int64) <<< (((5 : Int32)) &&& 0x3f).toInt64) - (2 : Int64)) (own_plc (own_plc (own_plc (own_plc (own_plc (List.replicate 12 (0 : Int64)) ce tk) (ce ^^^ (2 : Int32)) n2) (ce ^^^ (8 : Int32)) n3) (ce ^^^ (5 : Int32)) n4) (ce ^^^ (3 : Int32)) n5) (own_f11 ce (0 : Int32)) (own_f11 ce (1 : Int32)) (own_f11 ce (2 : Int32)) tk)), .second, .val (.long ((((own_f13 n2) ||| (own_f13 n3)) ||| (own_f13 n4)) ||| (own_f13 n5))), .second, .val (.int (if (own_f14 (1 : Int32) tk ((((own_f13 n2) ||| (own_f13 n3)) ||| (own_f13 n4)) ||| (own_f13 n5))) = 0 then (if (own_f14 (2 : Int32) tk ((((own_f13 n2) ||| (own_f13 n3)) ||| (own_f13 n4)) ||| (own_f13 n5))) = 0 then (if (own_f14 (3 : Int32) tk ((((own_f13 n2) ||| (own_f13 n3)) ||| (own_f13 n4)) ||| (own_f13 n5))) = 0 then (if (own_f14 (4 : Int32) tk ((((own_f13 n2) ||| (own_f13 n3)) ||| (own_f13 n4)) ||| (own_f13 n5))) = 0 then (0 : Int32) else (4 : Int32)) else (3 : Int32)) else (2 : Int32)) else (1 : Int32))), .val (.long (own_f13 (if (own_f14 (1 : Int32) tk ((((own_f13 n2) ||| (own_f13 n3)) ||| (own_f13 n4)) ||| (own_f13 n5))) = 0 then (if (own_f14 (2 : Int32) tk ((((own_f13 n2) ||| (own_f13 n3)) ||| (own_f13 n4)) ||| (own_f13 n5))) = 0 then (if (own_f14 (3 : Int32) tk ((((own_f13 n2) ||| (own_f13 n3)) ||| (own_f13 n4)) ||| (own_f13 n5))) = 0 then (if (own_f14 (4 : Int32) tk ((((own_f13 n2) ||| (own_f13 n3)) ||| (own_f13 n4)) ||| (own_f13 n5))) = 0 then (0 : Int32) else (4 : Int32)) else (3 : Int32)) else (2 : Int32)) else (1 : Int32)))), .second, .val (.int (own_f11 oo kd)), .val (.long u4), .second, .unset] [(.int qq), (.int oo), (.ref b6)]))
                          refine own_callV XJ454 hx hZ hown (hw _ (List.mem_of_getElem? (i := 102) rfl)) (hw _ (List.mem_of_getElem? (i := 103) rfl)) (notFace_of_selects (args := #[]) (mvT hZ (hw _ (List.mem_of_getElem? (i := 105) rfl)))) (hw _ (List.mem_of_getElem? (i := 105) rfl)) (hw _ (List.mem_of_getElem? (i := 104) rfl)) (hw _ (List.mem_of_getElem? (i := 106) rfl)) (hw _ (List.mem_of_getElem? (i := 7) rfl)) (by decide) (rm16g2 l Z a0 hw b6 oo qq T37.heap n0 Z37 bR bC bB hd (own_pn (own_plc (own_plc (own_plc (own_plc (own_plc (List.replicate 12 (0 : Int64)) ce tk) (ce ^^^ (2 : Int32)) n2) (ce ^^^ (8 : Int32)) n3) (ce ^^^ (5 : Int32)) n4) (ce ^^^ (3 : Int32)) n5) (own_f11 ce (0 : Int32)) (own_f11 ce (1 : Int32)) (own_f11 ce (2 : Int32)) tk (own_f12 (((1 : Int64) <<< (((5 : Int32)) &&& 0x3f).toInt64) - (2 : Int64)) (own_plc (own_plc (own_plc (own_plc (own_plc (List.replicate 12 (0 : Int64)) ce tk) (ce ^^^ (2 : Int32)) n2) (ce ^^^ (8 : Int32)) n3) (ce ^^^ (5 : Int32)) n4) (ce ^^^ (3 : Int32)) n5) (own_f11 ce (0 : Int32)) (own_f11 ce (1 : Int32)) (own_f11 ce (2 : Int32)) tk)) f42 f43 f44 f46 f39 f40 f41 VH37 hl37 h_oo.1 h_oo.2) eJ454 f38 (argsL := [(.int oo), (.int qq)]) (rest := []) rfl rfl (by rw [hml]; rfl) (lenOf pd_0_7 rfl) (hb hby at_499) (W := 0) (Nat.le_of_eq rfl) (by decide) (by decide) (by decide) (by decide) ?_
                          rintro v60 T60 L60 X60 ⟨rfl, M60, e60⟩
                          have N60 := Fr.app NJ454 M60
                          show own_Fin _ _ _ _ _ _ _ (T60.setTop (mkF m 502 #[.val (.int p0), .val (.int p1), .val (.int p2), .val (.int p3), .val (.int p4), .val (.int p5), .val (.int ce), .val (.int oo), .val (.int kd), .val (.int qq), .val (.int tk), .val (.int n2), .val (.int n3), .val (.int n4), .val (.int n5), .val (.ref b6), .val (.long (own_f12 (((1 : Int64) <<< (((5 : Int32)) &&& 0x3f).toInt64) - (2 : Int64)) (own_plc (own_plc (own_plc (own_plc (own_plc (List.replicate 12 (0 : Int64)) ce tk) (ce ^^^ (2 : Int32)) n2) (ce ^^^ (8 : Int32)) n3) (ce ^^^ (5 : Int32)) n4) (ce ^^^ (3 : Int32)) n5) (own_f11 ce (0 : Int32)) (own_f11 ce (1 : Int32)) (own_f11 ce (2 : Int32)) tk)), .second, .val (.long ((((own_f13 n2) ||| (own_f13 n3)) ||| (own_f13 n4)) ||| (own_f13 n5))), .second, .val (.int (if (own_f14 (1 : Int32) tk ((((own_f13 n2) ||| (own_f13 n3)) ||| (own_f13 n4)) ||| (own_f13 n5))) = 0 then (if (own_f14 (2 : Int32) tk ((((own_f13 n2) ||| (own_f13 n3)) ||| (own_f13 n4)) ||| (own_f13 n5))) = 0 then (if (own_f14 (3 : Int32) tk ((((own_f13 n2) ||| (own_f13 n3)) ||| (own_f13 n4)) ||| (own_f13 n5))) = 0 then (if (own_f14 (4 : Int32) tk ((((own_f13 n2) ||| (own_f13 n3)) ||| (own_f13 n4)) ||| (own_f13 n5))) = 0 then (0 : Int32) else (4 : Int32)) else (3 : Int32)) else (2 : Int32)) else (1 : Int32))), .val (.long (own_f13 (if (own_f14 (1 : Int32) tk ((((own_f13 n2) ||| (own_f13 n3)) ||| (own_f13 n4)) ||| (own_f13 n5))) = 0 then (if (own_f14 (2 : Int32) tk ((((own_f13 n2) ||| (own_f13 n3)) ||| (own_f13 n4)) ||| (own_f13 n5))) = 0 then (if (own_f14 (3 : Int32) tk ((((own_f13 n2) ||| (own_f13 n3)) ||| (own_f13 n4)) ||| (own_f13 n5))) = 0 then (if (own_f14 (4 : Int32) tk ((((own_f13 n2) ||| (own_f13 n3)) ||| (own_f13 n4)) ||| (own_f13 n5))) = 0 then (0 : Int32) else (4 : Int32)) else (3 : Int32)) else (2 : Int32)) else (1 : Int32)))), .second, .val (.int (own_f11 oo kd)), .val (.long u4), .second, .unset] [(.int (own_f16g2 (own_pn (own_plc (own_plc (own_plc (own_plc (own_plc (List.replicate 12 (0 : Int64)) ce tk) (ce ^^^ (2 : Int32)) n2) (ce ^^^ (8 : Int32)) n3) (ce ^^^ (5 : Int32)) n4) (ce ^^^ (3 : Int32)) n5) (own_f11 ce (0 : Int32)) (own_f11 ce (1 : Int32)) (own_f11 ce (2 : Int32)) tk (own_f12 (((1 : Int64) <<< (((5 : Int32)) &&& 0x3f).toInt64) - (2 : Int64)) (own_plc (own_plc (own_plc (own_plc (own_plc (List.replicate 12 (0 : Int64)) ce tk) (ce ^^^ (2 : Int32)) n2) (ce ^^^ (8 : Int32)) n3) (ce ^^^ (5 : Int32)) n4) (ce ^^^ (3 : Int32)) n5) (own_f11 ce (0 : Int32)) (own_f11 ce (1 : Int32)) (own_f11 ce (2 : Int32)) tk)) oo qq))]))
                          refine own_go (fun _ kk => XS.istore X60.here hx rfl (hb hby at_502) rfl (l' := #[.val (.int p0), .val (.int p1), .val (.int p2), .val (.int p3), .val (.int p4), .val (.int p5), .val (.int ce), .val (.int oo), .val (.int kd), .val (.int qq), .val (.int tk), .val (.int n2), .val (.int n3), .val (.int n4), .val (.int n5), .val (.ref b6), .val (.long (own_f12 (((1 : Int64) <<< (((5 : Int32)) &&& 0x3f).toInt64) - (2 : Int64)) (own_plc (own_plc (own_plc (own_plc (own_plc (List.replicate 12 (0 : Int64)) ce tk) (ce ^^^ (2 : Int32)) n2) (ce ^^^ (8 : Int32)) n3) (ce ^^^ (5 : Int32)) n4) (ce ^^^ (3 : Int32)) n5) (own_f11 ce (0 : Int32)) (own_f11 ce (1 : Int32)) (own_f11 ce (2 : Int32)) tk)), .second, .val (.long ((((own_f13 n2) ||| (own_f13 n3)) ||| (own_f13 n4)) ||| (own_f13 n5))), .second, .val (.int (if (own_f14 (1 : Int32) tk ((((own_f13 n2) ||| (own_f13 n3)) ||| (own_f13 n4)) ||| (own_f13 n5))) = 0 then (if (own_f14 (2 : Int32) tk ((((own_f13 n2) ||| (own_f13 n3)) ||| (own_f13 n4)) ||| (own_f13 n5))) = 0 then (if (own_f14 (3 : Int32) tk ((((own_f13 n2) ||| (own_f13 n3)) ||| (own_f13 n4)) ||| (own_f13 n5))) = 0 then (if (own_f14 (4 : Int32) tk ((((own_f13 n2) ||| (own_f13 n3)) ||| (own_f13 n4)) ||| (own_f13 n5))) = 0 then (0 : Int32) else (4 : Int32)) else (3 : Int32)) else (2 : Int32)) else (1 : Int32))), .val (.long (own_f13 (if (own_f14 (1 : Int32) tk ((((own_f13 n2) ||| (own_f13 n3)) ||| (own_f13 n4)) ||| (own_f13 n5))) = 0 then (if (own_f14 (2 : Int32) tk ((((own_f13 n2) ||| (own_f13 n3)) ||| (own_f13 n4)) ||| (own_f13 n5))) = 0 then (if (own_f14 (3 : Int32) tk ((((own_f13 n2) ||| (own_f13 n3)) ||| (own_f13 n4)) ||| (own_f13 n5))) = 0 then (if (own_f14 (4 : Int32) tk ((((own_f13 n2) ||| (own_f13 n3)) ||| (own_f13 n4)) ||| (own_f13 n5))) = 0 then (0 : Int32) else (4 : Int32)) else (3 : Int32)) else (2 : Int32)) else (1 : Int32)))), .second, .val (.int (own_f11 oo kd)), .val (.long u4), .second, .val (.int (own_f16g2 (own_pn (own_plc (own_plc (own_plc (own_plc (own_plc (List.replicate 12 (0 : Int64)) ce tk) (ce ^^^ (2 : Int32)) n2) (ce ^^^ (8 : Int32)) n3) (ce ^^^ (5 : Int32)) n4) (ce ^^^ (3 : Int32)) n5) (own_f11 ce (0 : Int32)) (own_f11 ce (1 : Int32)) (own_f11 ce (2 : Int32)) tk (own_f12 (((1 : Int64) <<< (((5 : Int32)) &&& 0x3f).toInt64) - (2 : Int64)) (own_plc (own_plc (own_plc (own_plc (own_plc (List.replicate 12 (0 : Int64)) ce tk) (ce ^^^ (2 : Int32)) n2) (ce ^^^ (8 : Int32)) n3) (ce ^^^ (5 : Int32)) n4) (ce ^^^ (3 : Int32)) n5) (own_f11 ce (0 : Int32)) (own_f11 ce (1 : Int32)) (own_f11 ce (2 : Int32)) tk)) oo qq))]) rfl kk) ?_
                          show own_Fin _ _ _ _ _ _ _ (T60.setTop (mkF m 504 #[.val (.int p0), .val (.int p1), .val (.int p2), .val (.int p3), .val (.int p4), .val (.int p5), .val (.int ce), .val (.int oo), .val (.int kd), .val (.int qq), .val (.int tk), .val (.int n2), .val (.int n3), .val (.int n4), .val (.int n5), .val (.ref b6), .val (.long (own_f12 (((1 : Int64) <<< (((5 : Int32)) &&& 0x3f).toInt64) - (2 : Int64)) (own_plc (own_plc (own_plc (own_plc (own_plc (List.replicate 12 (0 : Int64)) ce tk) (ce ^^^ (2 : Int32)) n2) (ce ^^^ (8 : Int32)) n3) (ce ^^^ (5 : Int32)) n4) (ce ^^^ (3 : Int32)) n5) (own_f11 ce (0 : Int32)) (own_f11 ce (1 : Int32)) (own_f11 ce (2 : Int32)) tk)), .second, .val (.long ((((own_f13 n2) ||| (own_f13 n3)) ||| (own_f13 n4)) ||| (own_f13 n5))), .second, .val (.int (if (own_f14 (1 : Int32) tk ((((own_f13 n2) ||| (own_f13 n3)) ||| (own_f13 n4)) ||| (own_f13 n5))) = 0 then (if (own_f14 (2 : Int32) tk ((((own_f13 n2) ||| (own_f13 n3)) ||| (own_f13 n4)) ||| (own_f13 n5))) = 0 then (if (own_f14 (3 : Int32) tk ((((own_f13 n2) ||| (own_f13 n3)) ||| (own_f13 n4)) ||| (own_f13 n5))) = 0 then (if (own_f14 (4 : Int32) tk ((((own_f13 n2) ||| (own_f13 n3)) ||| (own_f13 n4)) ||| (own_f13 n5))) = 0 then (0 : Int32) else (4 : Int32)) else (3 : Int32)) else (2 : Int32)) else (1 : Int32))), .val (.long (own_f13 (if (own_f14 (1 : Int32) tk ((((own_f13 n2) ||| (own_f13 n3)) ||| (own_f13 n4)) ||| (own_f13 n5))) = 0 then (if (own_f14 (2 : Int32) tk ((((own_f13 n2) ||| (own_f13 n3)) ||| (own_f13 n4)) ||| (own_f13 n5))) = 0 then (if (own_f14 (3 : Int32) tk ((((own_f13 n2) ||| (own_f13 n3)) ||| (own_f13 n4)) ||| (own_f13 n5))) = 0 then (if (own_f14 (4 : Int32) tk ((((own_f13 n2) ||| (own_f13 n3)) ||| (own_f13 n4)) ||| (own_f13 n5))) = 0 then (0 : Int32) else (4 : Int32)) else (3 : Int32)) else (2 : Int32)) else (1 : Int32)))), .second, .val (.int (own_f11 oo kd)), .val (.long u4), .second, .val (.int (own_f16g2 (own_pn (own_plc (own_plc (own_plc (own_plc (own_plc (List.replicate 12 (0 : Int64)) ce tk) (ce ^^^ (2 : Int32)) n2) (ce ^^^ (8 : Int32)) n3) (ce ^^^ (5 : Int32)) n4) (ce ^^^ (3 : Int32)) n5) (own_f11 ce (0 : Int32)) (own_f11 ce (1 : Int32)) (own_f11 ce (2 : Int32)) tk (own_f12 (((1 : Int64) <<< (((5 : Int32)) &&& 0x3f).toInt64) - (2 : Int64)) (own_plc (own_plc (own_plc (own_plc (own_plc (List.replicate 12 (0 : Int64)) ce tk) (ce ^^^ (2 : Int32)) n2) (ce ^^^ (8 : Int32)) n3) (ce ^^^ (5 : Int32)) n4) (ce ^^^ (3 : Int32)) n5) (own_f11 ce (0 : Int32)) (own_f11 ce (1 : Int32)) (own_f11 ce (2 : Int32)) tk)) oo qq))] []))
                          exact J504 _ _ ((own_f16g2 (own_pn (own_plc (own_plc (own_plc (own_plc (own_plc (List.replicate 12 (0 : Int64)) ce tk) (ce ^^^ (2 : Int32)) n2) (ce ^^^ (8 : Int32)) n3) (ce ^^^ (5 : Int32)) n4) (ce ^^^ (3 : Int32)) n5) (own_f11 ce (0 : Int32)) (own_f11 ce (1 : Int32)) (own_f11 ce (2 : Int32)) tk (own_f12 (((1 : Int64) <<< (((5 : Int32)) &&& 0x3f).toInt64) - (2 : Int64)) (own_plc (own_plc (own_plc (own_plc (own_plc (List.replicate 12 (0 : Int64)) ce tk) (ce ^^^ (2 : Int32)) n2) (ce ^^^ (8 : Int32)) n3) (ce ^^^ (5 : Int32)) n4) (ce ^^^ (3 : Int32)) n5) (own_f11 ce (0 : Int32)) (own_f11 ce (1 : Int32)) (own_f11 ce (2 : Int32)) tk)) oo qq)) X60 N60 e60 (by rw [hjJ454, own_f0_454, if_neg hc456, if_neg hc476])
                    refine own_go (fun _ kk => XS.iload XJ430.here hx rfl (hb hby at_430) rfl (XS.iconst XJ430.here hx rfl (hb hby at_432) (XS.ixor XJ430.here hx rfl (hb hby at_433) rfl (XS.iload XJ430.here hx rfl (hb hby at_434) rfl kk)))) ?_
                    show own_Fin _ _ _ _ _ _ _ (TJ430.setTop (mkF m 436 #[.val (.int p0), .val (.int p1), .val (.int p2), .val (.int p3), .val (.int p4), .val (.int p5), .val (.int ce), .val (.int oo), .val (.int kd), .val (.int qq), .val (.int tk), .val (.int n2), .val (.int n3), .val (.int n4), .val (.int n5), .val (.ref b6), .val (.long (own_f12 (((1 : Int64) <<< (((5 : Int32)) &&& 0x3f).toInt64) - (2 : Int64)) (own_plc (own_plc (own_plc (own_plc (own_plc (List.replicate 12 (0 : Int64)) ce tk) (ce ^^^ (2 : Int32)) n2) (ce ^^^ (8 : Int32)) n3) (ce ^^^ (5 : Int32)) n4) (ce ^^^ (3 : Int32)) n5) (own_f11 ce (0 : Int32)) (own_f11 ce (1 : Int32)) (own_f11 ce (2 : Int32)) tk)), .second, .val (.long ((((own_f13 n2) ||| (own_f13 n3)) ||| (own_f13 n4)) ||| (own_f13 n5))), .second, .val (.int (if (own_f14 (1 : Int32) tk ((((own_f13 n2) ||| (own_f13 n3)) ||| (own_f13 n4)) ||| (own_f13 n5))) = 0 then (if (own_f14 (2 : Int32) tk ((((own_f13 n2) ||| (own_f13 n3)) ||| (own_f13 n4)) ||| (own_f13 n5))) = 0 then (if (own_f14 (3 : Int32) tk ((((own_f13 n2) ||| (own_f13 n3)) ||| (own_f13 n4)) ||| (own_f13 n5))) = 0 then (if (own_f14 (4 : Int32) tk ((((own_f13 n2) ||| (own_f13 n3)) ||| (own_f13 n4)) ||| (own_f13 n5))) = 0 then (0 : Int32) else (4 : Int32)) else (3 : Int32)) else (2 : Int32)) else (1 : Int32))), .val (.long (own_f13 (if (own_f14 (1 : Int32) tk ((((own_f13 n2) ||| (own_f13 n3)) ||| (own_f13 n4)) ||| (own_f13 n5))) = 0 then (if (own_f14 (2 : Int32) tk ((((own_f13 n2) ||| (own_f13 n3)) ||| (own_f13 n4)) ||| (own_f13 n5))) = 0 then (if (own_f14 (3 : Int32) tk ((((own_f13 n2) ||| (own_f13 n3)) ||| (own_f13 n4)) ||| (own_f13 n5))) = 0 then (if (own_f14 (4 : Int32) tk ((((own_f13 n2) ||| (own_f13 n3)) ||| (own_f13 n4)) ||| (own_f13 n5))) = 0 then (0 : Int32) else (4 : Int32)) else (3 : Int32)) else (2 : Int32)) else (1 : Int32)))), .second, .val (.int (own_f11 oo kd)), .val (.long u3), .second, .unset] [(.int kd), (.int (ce ^^^ (3 : Int32)))]))
                    refine own_callS XJ430 hx hZ hown (hw _ (List.mem_of_getElem? (i := 82) rfl)) (hw _ (List.mem_of_getElem? (i := 83) rfl)) (hw _ (List.mem_of_getElem? (i := 2) rfl)) (hw _ (List.mem_of_getElem? (i := 84) rfl)) (by decide) (rm11 l Z a0 hw (ce ^^^ (3 : Int32)) kd T37.heap n0 Z37) eJ430 (argsL := [(.int (ce ^^^ (3 : Int32))), (.int kd)]) (rest := []) rfl rfl (by rw [hml]; rfl) (lenOf pd_0_3 rfl) (hb hby at_436) (W := 0) (Nat.le_of_eq rfl) (by decide) (by decide) (by decide) (by decide) ?_
                    rintro v61 T61 L61 X61 ⟨rfl, M61, e61⟩
                    have N61 := Fr.app NJ430 M61
                    show own_Fin _ _ _ _ _ _ _ (T61.setTop (mkF m 439 #[.val (.int p0), .val (.int p1), .val (.int p2), .val (.int p3), .val (.int p4), .val (.int p5), .val (.int ce), .val (.int oo), .val (.int kd), .val (.int qq), .val (.int tk), .val (.int n2), .val (.int n3), .val (.int n4), .val (.int n5), .val (.ref b6), .val (.long (own_f12 (((1 : Int64) <<< (((5 : Int32)) &&& 0x3f).toInt64) - (2 : Int64)) (own_plc (own_plc (own_plc (own_plc (own_plc (List.replicate 12 (0 : Int64)) ce tk) (ce ^^^ (2 : Int32)) n2) (ce ^^^ (8 : Int32)) n3) (ce ^^^ (5 : Int32)) n4) (ce ^^^ (3 : Int32)) n5) (own_f11 ce (0 : Int32)) (own_f11 ce (1 : Int32)) (own_f11 ce (2 : Int32)) tk)), .second, .val (.long ((((own_f13 n2) ||| (own_f13 n3)) ||| (own_f13 n4)) ||| (own_f13 n5))), .second, .val (.int (if (own_f14 (1 : Int32) tk ((((own_f13 n2) ||| (own_f13 n3)) ||| (own_f13 n4)) ||| (own_f13 n5))) = 0 then (if (own_f14 (2 : Int32) tk ((((own_f13 n2) ||| (own_f13 n3)) ||| (own_f13 n4)) ||| (own_f13 n5))) = 0 then (if (own_f14 (3 : Int32) tk ((((own_f13 n2) ||| (own_f13 n3)) ||| (own_f13 n4)) ||| (own_f13 n5))) = 0 then (if (own_f14 (4 : Int32) tk ((((own_f13 n2) ||| (own_f13 n3)) ||| (own_f13 n4)) ||| (own_f13 n5))) = 0 then (0 : Int32) else (4 : Int32)) else (3 : Int32)) else (2 : Int32)) else (1 : Int32))), .val (.long (own_f13 (if (own_f14 (1 : Int32) tk ((((own_f13 n2) ||| (own_f13 n3)) ||| (own_f13 n4)) ||| (own_f13 n5))) = 0 then (if (own_f14 (2 : Int32) tk ((((own_f13 n2) ||| (own_f13 n3)) ||| (own_f13 n4)) ||| (own_f13 n5))) = 0 then (if (own_f14 (3 : Int32) tk ((((own_f13 n2) ||| (own_f13 n3)) ||| (own_f13 n4)) ||| (own_f13 n5))) = 0 then (if (own_f14 (4 : Int32) tk ((((own_f13 n2) ||| (own_f13 n3)) ||| (own_f13 n4)) ||| (own_f13 n5))) = 0 then (0 : Int32) else (4 : Int32)) else (3 : Int32)) else (2 : Int32)) else (1 : Int32)))), .second, .val (.int (own_f11 oo kd)), .val (.long u3), .second, .unset] [(.int (own_f11 (ce ^^^ (3 : Int32)) kd))]))
                    refine own_go (fun _ kk => XS.iload X61.here hx rfl (hb hby at_439) rfl kk) ?_
                    show own_Fin _ _ _ _ _ _ _ (T61.setTop (mkF m 441 #[.val (.int p0), .val (.int p1), .val (.int p2), .val (.int p3), .val (.int p4), .val (.int p5), .val (.int ce), .val (.int oo), .val (.int kd), .val (.int qq), .val (.int tk), .val (.int n2), .val (.int n3), .val (.int n4), .val (.int n5), .val (.ref b6), .val (.long (own_f12 (((1 : Int64) <<< (((5 : Int32)) &&& 0x3f).toInt64) - (2 : Int64)) (own_plc (own_plc (own_plc (own_plc (own_plc (List.replicate 12 (0 : Int64)) ce tk) (ce ^^^ (2 : Int32)) n2) (ce ^^^ (8 : Int32)) n3) (ce ^^^ (5 : Int32)) n4) (ce ^^^ (3 : Int32)) n5) (own_f11 ce (0 : Int32)) (own_f11 ce (1 : Int32)) (own_f11 ce (2 : Int32)) tk)), .second, .val (.long ((((own_f13 n2) ||| (own_f13 n3)) ||| (own_f13 n4)) ||| (own_f13 n5))), .second, .val (.int (if (own_f14 (1 : Int32) tk ((((own_f13 n2) ||| (own_f13 n3)) ||| (own_f13 n4)) ||| (own_f13 n5))) = 0 then (if (own_f14 (2 : Int32) tk ((((own_f13 n2) ||| (own_f13 n3)) ||| (own_f13 n4)) ||| (own_f13 n5))) = 0 then (if (own_f14 (3 : Int32) tk ((((own_f13 n2) ||| (own_f13 n3)) ||| (own_f13 n4)) ||| (own_f13 n5))) = 0 then (if (own_f14 (4 : Int32) tk ((((own_f13 n2) ||| (own_f13 n3)) ||| (own_f13 n4)) ||| (own_f13 n5))) = 0 then (0 : Int32) else (4 : Int32)) else (3 : Int32)) else (2 : Int32)) else (1 : Int32))), .val (.long (own_f13 (if (own_f14 (1 : Int32) tk ((((own_f13 n2) ||| (own_f13 n3)) ||| (own_f13 n4)) ||| (own_f13 n5))) = 0 then (if (own_f14 (2 : Int32) tk ((((own_f13 n2) ||| (own_f13 n3)) ||| (own_f13 n4)) ||| (own_f13 n5))) = 0 then (if (own_f14 (3 : Int32) tk ((((own_f13 n2) ||| (own_f13 n3)) ||| (own_f13 n4)) ||| (own_f13 n5))) = 0 then (if (own_f14 (4 : Int32) tk ((((own_f13 n2) ||| (own_f13 n3)) ||| (own_f13 n4)) ||| (own_f13 n5))) = 0 then (0 : Int32) else (4 : Int32)) else (3 : Int32)) else (2 : Int32)) else (1 : Int32)))), .second, .val (.int (own_f11 oo kd)), .val (.long u3), .second, .unset] [(.int (own_f11 oo kd)), (.int (own_f11 (ce ^^^ (3 : Int32)) kd))]))
                    by_cases hc441 : (own_f11 (ce ^^^ (3 : Int32)) kd) = (own_f11 oo kd)
                    · refine own_go (fun _ kk => XS.icmpNo X61.here hx rfl (hb hby at_441) rfl (XT.ii_ne_f hc441) (XS.lload X61.here hx rfl (hb hby at_444) rfl (XS.iload X61.here hx rfl (hb hby at_446) rfl kk))) ?_
                      show own_Fin _ _ _ _ _ _ _ (T61.setTop (mkF m 448 #[.val (.int p0), .val (.int p1), .val (.int p2), .val (.int p3), .val (.int p4), .val (.int p5), .val (.int ce), .val (.int oo), .val (.int kd), .val (.int qq), .val (.int tk), .val (.int n2), .val (.int n3), .val (.int n4), .val (.int n5), .val (.ref b6), .val (.long (own_f12 (((1 : Int64) <<< (((5 : Int32)) &&& 0x3f).toInt64) - (2 : Int64)) (own_plc (own_plc (own_plc (own_plc (own_plc (List.replicate 12 (0 : Int64)) ce tk) (ce ^^^ (2 : Int32)) n2) (ce ^^^ (8 : Int32)) n3) (ce ^^^ (5 : Int32)) n4) (ce ^^^ (3 : Int32)) n5) (own_f11 ce (0 : Int32)) (own_f11 ce (1 : Int32)) (own_f11 ce (2 : Int32)) tk)), .second, .val (.long ((((own_f13 n2) ||| (own_f13 n3)) ||| (own_f13 n4)) ||| (own_f13 n5))), .second, .val (.int (if (own_f14 (1 : Int32) tk ((((own_f13 n2) ||| (own_f13 n3)) ||| (own_f13 n4)) ||| (own_f13 n5))) = 0 then (if (own_f14 (2 : Int32) tk ((((own_f13 n2) ||| (own_f13 n3)) ||| (own_f13 n4)) ||| (own_f13 n5))) = 0 then (if (own_f14 (3 : Int32) tk ((((own_f13 n2) ||| (own_f13 n3)) ||| (own_f13 n4)) ||| (own_f13 n5))) = 0 then (if (own_f14 (4 : Int32) tk ((((own_f13 n2) ||| (own_f13 n3)) ||| (own_f13 n4)) ||| (own_f13 n5))) = 0 then (0 : Int32) else (4 : Int32)) else (3 : Int32)) else (2 : Int32)) else (1 : Int32))), .val (.long (own_f13 (if (own_f14 (1 : Int32) tk ((((own_f13 n2) ||| (own_f13 n3)) ||| (own_f13 n4)) ||| (own_f13 n5))) = 0 then (if (own_f14 (2 : Int32) tk ((((own_f13 n2) ||| (own_f13 n3)) ||| (own_f13 n4)) ||| (own_f13 n5))) = 0 then (if (own_f14 (3 : Int32) tk ((((own_f13 n2) ||| (own_f13 n3)) ||| (own_f13 n4)) ||| (own_f13 n5))) = 0 then (if (own_f14 (4 : Int32) tk ((((own_f13 n2) ||| (own_f13 n3)) ||| (own_f13 n4)) ||| (own_f13 n5))) = 0 then (0 : Int32) else (4 : Int32)) else (3 : Int32)) else (2 : Int32)) else (1 : Int32)))), .second, .val (.int (own_f11 oo kd)), .val (.long u3), .second, .unset] [(.int n5), (.long u3)]))
                      refine own_callS X61 hx hZ hown (hw _ (List.mem_of_getElem? (i := 91) rfl)) (hw _ (List.mem_of_getElem? (i := 92) rfl)) (hw _ (List.mem_of_getElem? (i := 2) rfl)) (hw _ (List.mem_of_getElem? (i := 93) rfl)) (by decide) (rm13 l Z a0 hw n5 T37.heap n0 Z37) e61 (argsL := [(.int n5)]) (rest := [(.long u3)]) rfl rfl (by rw [hml]; rfl) (lenOf pd_0_5 rfl) (hb hby at_448) (W := 2) (Nat.le_of_eq rfl) (by decide) (by decide) (by decide) (by decide) ?_
                      rintro v62 T62 L62 X62 ⟨rfl, M62, e62⟩
                      have N62 := Fr.app N61 M62
                      show own_Fin _ _ _ _ _ _ _ (T62.setTop (mkF m 451 #[.val (.int p0), .val (.int p1), .val (.int p2), .val (.int p3), .val (.int p4), .val (.int p5), .val (.int ce), .val (.int oo), .val (.int kd), .val (.int qq), .val (.int tk), .val (.int n2), .val (.int n3), .val (.int n4), .val (.int n5), .val (.ref b6), .val (.long (own_f12 (((1 : Int64) <<< (((5 : Int32)) &&& 0x3f).toInt64) - (2 : Int64)) (own_plc (own_plc (own_plc (own_plc (own_plc (List.replicate 12 (0 : Int64)) ce tk) (ce ^^^ (2 : Int32)) n2) (ce ^^^ (8 : Int32)) n3) (ce ^^^ (5 : Int32)) n4) (ce ^^^ (3 : Int32)) n5) (own_f11 ce (0 : Int32)) (own_f11 ce (1 : Int32)) (own_f11 ce (2 : Int32)) tk)), .second, .val (.long ((((own_f13 n2) ||| (own_f13 n3)) ||| (own_f13 n4)) ||| (own_f13 n5))), .second, .val (.int (if (own_f14 (1 : Int32) tk ((((own_f13 n2) ||| (own_f13 n3)) ||| (own_f13 n4)) ||| (own_f13 n5))) = 0 then (if (own_f14 (2 : Int32) tk ((((own_f13 n2) ||| (own_f13 n3)) ||| (own_f13 n4)) ||| (own_f13 n5))) = 0 then (if (own_f14 (3 : Int32) tk ((((own_f13 n2) ||| (own_f13 n3)) ||| (own_f13 n4)) ||| (own_f13 n5))) = 0 then (if (own_f14 (4 : Int32) tk ((((own_f13 n2) ||| (own_f13 n3)) ||| (own_f13 n4)) ||| (own_f13 n5))) = 0 then (0 : Int32) else (4 : Int32)) else (3 : Int32)) else (2 : Int32)) else (1 : Int32))), .val (.long (own_f13 (if (own_f14 (1 : Int32) tk ((((own_f13 n2) ||| (own_f13 n3)) ||| (own_f13 n4)) ||| (own_f13 n5))) = 0 then (if (own_f14 (2 : Int32) tk ((((own_f13 n2) ||| (own_f13 n3)) ||| (own_f13 n4)) ||| (own_f13 n5))) = 0 then (if (own_f14 (3 : Int32) tk ((((own_f13 n2) ||| (own_f13 n3)) ||| (own_f13 n4)) ||| (own_f13 n5))) = 0 then (if (own_f14 (4 : Int32) tk ((((own_f13 n2) ||| (own_f13 n3)) ||| (own_f13 n4)) ||| (own_f13 n5))) = 0 then (0 : Int32) else (4 : Int32)) else (3 : Int32)) else (2 : Int32)) else (1 : Int32)))), .second, .val (.int (own_f11 oo kd)), .val (.long u3), .second, .unset] [(.long (own_f13 n5)), (.long u3)]))
                      refine own_go (fun _ kk => XS.lor X62.here hx rfl (hb hby at_451) rfl (XS.lstore X62.here hx rfl (hb hby at_452) rfl (l' := #[.val (.int p0), .val (.int p1), .val (.int p2), .val (.int p3), .val (.int p4), .val (.int p5), .val (.int ce), .val (.int oo), .val (.int kd), .val (.int qq), .val (.int tk), .val (.int n2), .val (.int n3), .val (.int n4), .val (.int n5), .val (.ref b6), .val (.long (own_f12 (((1 : Int64) <<< (((5 : Int32)) &&& 0x3f).toInt64) - (2 : Int64)) (own_plc (own_plc (own_plc (own_plc (own_plc (List.replicate 12 (0 : Int64)) ce tk) (ce ^^^ (2 : Int32)) n2) (ce ^^^ (8 : Int32)) n3) (ce ^^^ (5 : Int32)) n4) (ce ^^^ (3 : Int32)) n5) (own_f11 ce (0 : Int32)) (own_f11 ce (1 : Int32)) (own_f11 ce (2 : Int32)) tk)), .second, .val (.long ((((own_f13 n2) ||| (own_f13 n3)) ||| (own_f13 n4)) ||| (own_f13 n5))), .second, .val (.int (if (own_f14 (1 : Int32) tk ((((own_f13 n2) ||| (own_f13 n3)) ||| (own_f13 n4)) ||| (own_f13 n5))) = 0 then (if (own_f14 (2 : Int32) tk ((((own_f13 n2) ||| (own_f13 n3)) ||| (own_f13 n4)) ||| (own_f13 n5))) = 0 then (if (own_f14 (3 : Int32) tk ((((own_f13 n2) ||| (own_f13 n3)) ||| (own_f13 n4)) ||| (own_f13 n5))) = 0 then (if (own_f14 (4 : Int32) tk ((((own_f13 n2) ||| (own_f13 n3)) ||| (own_f13 n4)) ||| (own_f13 n5))) = 0 then (0 : Int32) else (4 : Int32)) else (3 : Int32)) else (2 : Int32)) else (1 : Int32))), .val (.long (own_f13 (if (own_f14 (1 : Int32) tk ((((own_f13 n2) ||| (own_f13 n3)) ||| (own_f13 n4)) ||| (own_f13 n5))) = 0 then (if (own_f14 (2 : Int32) tk ((((own_f13 n2) ||| (own_f13 n3)) ||| (own_f13 n4)) ||| (own_f13 n5))) = 0 then (if (own_f14 (3 : Int32) tk ((((own_f13 n2) ||| (own_f13 n3)) ||| (own_f13 n4)) ||| (own_f13 n5))) = 0 then (if (own_f14 (4 : Int32) tk ((((own_f13 n2) ||| (own_f13 n3)) ||| (own_f13 n4)) ||| (own_f13 n5))) = 0 then (0 : Int32) else (4 : Int32)) else (3 : Int32)) else (2 : Int32)) else (1 : Int32)))), .second, .val (.int (own_f11 oo kd)), .val (.long (u3 ||| (own_f13 n5))), .second, .unset]) rfl kk)) ?_
                      show own_Fin _ _ _ _ _ _ _ (T62.setTop (mkF m 454 #[.val (.int p0), .val (.int p1), .val (.int p2), .val (.int p3), .val (.int p4), .val (.int p5), .val (.int ce), .val (.int oo), .val (.int kd), .val (.int qq), .val (.int tk), .val (.int n2), .val (.int n3), .val (.int n4), .val (.int n5), .val (.ref b6), .val (.long (own_f12 (((1 : Int64) <<< (((5 : Int32)) &&& 0x3f).toInt64) - (2 : Int64)) (own_plc (own_plc (own_plc (own_plc (own_plc (List.replicate 12 (0 : Int64)) ce tk) (ce ^^^ (2 : Int32)) n2) (ce ^^^ (8 : Int32)) n3) (ce ^^^ (5 : Int32)) n4) (ce ^^^ (3 : Int32)) n5) (own_f11 ce (0 : Int32)) (own_f11 ce (1 : Int32)) (own_f11 ce (2 : Int32)) tk)), .second, .val (.long ((((own_f13 n2) ||| (own_f13 n3)) ||| (own_f13 n4)) ||| (own_f13 n5))), .second, .val (.int (if (own_f14 (1 : Int32) tk ((((own_f13 n2) ||| (own_f13 n3)) ||| (own_f13 n4)) ||| (own_f13 n5))) = 0 then (if (own_f14 (2 : Int32) tk ((((own_f13 n2) ||| (own_f13 n3)) ||| (own_f13 n4)) ||| (own_f13 n5))) = 0 then (if (own_f14 (3 : Int32) tk ((((own_f13 n2) ||| (own_f13 n3)) ||| (own_f13 n4)) ||| (own_f13 n5))) = 0 then (if (own_f14 (4 : Int32) tk ((((own_f13 n2) ||| (own_f13 n3)) ||| (own_f13 n4)) ||| (own_f13 n5))) = 0 then (0 : Int32) else (4 : Int32)) else (3 : Int32)) else (2 : Int32)) else (1 : Int32))), .val (.long (own_f13 (if (own_f14 (1 : Int32) tk ((((own_f13 n2) ||| (own_f13 n3)) ||| (own_f13 n4)) ||| (own_f13 n5))) = 0 then (if (own_f14 (2 : Int32) tk ((((own_f13 n2) ||| (own_f13 n3)) ||| (own_f13 n4)) ||| (own_f13 n5))) = 0 then (if (own_f14 (3 : Int32) tk ((((own_f13 n2) ||| (own_f13 n3)) ||| (own_f13 n4)) ||| (own_f13 n5))) = 0 then (if (own_f14 (4 : Int32) tk ((((own_f13 n2) ||| (own_f13 n3)) ||| (own_f13 n4)) ||| (own_f13 n5))) = 0 then (0 : Int32) else (4 : Int32)) else (3 : Int32)) else (2 : Int32)) else (1 : Int32)))), .second, .val (.int (own_f11 oo kd)), .val (.long (u3 ||| (own_f13 n5))), .second, .unset] []))
                      exact J454 _ _ ((u3 ||| (own_f13 n5))) X62 N62 e62 (by rw [hjJ430, own_f0_430, if_pos hc441])
                    · refine own_go (fun _ kk => XS.icmpYes X61.here hx rfl (pc0 := 441) (pc' := 454) rfl (hb hby at_441) rfl (XT.ii_ne_t hc441) (by decide) (by decide) kk) ?_
                      show own_Fin _ _ _ _ _ _ _ (T61.setTop (mkF m 454 #[.val (.int p0), .val (.int p1), .val (.int p2), .val (.int p3), .val (.int p4), .val (.int p5), .val (.int ce), .val (.int oo), .val (.int kd), .val (.int qq), .val (.int tk), .val (.int n2), .val (.int n3), .val (.int n4), .val (.int n5), .val (.ref b6), .val (.long (own_f12 (((1 : Int64) <<< (((5 : Int32)) &&& 0x3f).toInt64) - (2 : Int64)) (own_plc (own_plc (own_plc (own_plc (own_plc (List.replicate 12 (0 : Int64)) ce tk) (ce ^^^ (2 : Int32)) n2) (ce ^^^ (8 : Int32)) n3) (ce ^^^ (5 : Int32)) n4) (ce ^^^ (3 : Int32)) n5) (own_f11 ce (0 : Int32)) (own_f11 ce (1 : Int32)) (own_f11 ce (2 : Int32)) tk)), .second, .val (.long ((((own_f13 n2) ||| (own_f13 n3)) ||| (own_f13 n4)) ||| (own_f13 n5))), .second, .val (.int (if (own_f14 (1 : Int32) tk ((((own_f13 n2) ||| (own_f13 n3)) ||| (own_f13 n4)) ||| (own_f13 n5))) = 0 then (if (own_f14 (2 : Int32) tk ((((own_f13 n2) ||| (own_f13 n3)) ||| (own_f13 n4)) ||| (own_f13 n5))) = 0 then (if (own_f14 (3 : Int32) tk ((((own_f13 n2) ||| (own_f13 n3)) ||| (own_f13 n4)) ||| (own_f13 n5))) = 0 then (if (own_f14 (4 : Int32) tk ((((own_f13 n2) ||| (own_f13 n3)) ||| (own_f13 n4)) ||| (own_f13 n5))) = 0 then (0 : Int32) else (4 : Int32)) else (3 : Int32)) else (2 : Int32)) else (1 : Int32))), .val (.long (own_f13 (if (own_f14 (1 : Int32) tk ((((own_f13 n2) ||| (own_f13 n3)) ||| (own_f13 n4)) ||| (own_f13 n5))) = 0 then (if (own_f14 (2 : Int32) tk ((((own_f13 n2) ||| (own_f13 n3)) ||| (own_f13 n4)) ||| (own_f13 n5))) = 0 then (if (own_f14 (3 : Int32) tk ((((own_f13 n2) ||| (own_f13 n3)) ||| (own_f13 n4)) ||| (own_f13 n5))) = 0 then (if (own_f14 (4 : Int32) tk ((((own_f13 n2) ||| (own_f13 n3)) ||| (own_f13 n4)) ||| (own_f13 n5))) = 0 then (0 : Int32) else (4 : Int32)) else (3 : Int32)) else (2 : Int32)) else (1 : Int32)))), .second, .val (.int (own_f11 oo kd)), .val (.long u3), .second, .unset] []))
                      exact J454 _ _ (u3) X61 N61 e61 (by rw [hjJ430, own_f0_430, if_neg hc441])
                  refine own_go (fun _ kk => XS.iload XJ406.here hx rfl (hb hby at_406) rfl (XS.iconst XJ406.here hx rfl (hb hby at_408) (XS.ixor XJ406.here hx rfl (hb hby at_409) rfl (XS.iload XJ406.here hx rfl (hb hby at_410) rfl kk)))) ?_
                  show own_Fin _ _ _ _ _ _ _ (TJ406.setTop (mkF m 412 #[.val (.int p0), .val (.int p1), .val (.int p2), .val (.int p3), .val (.int p4), .val (.int p5), .val (.int ce), .val (.int oo), .val (.int kd), .val (.int qq), .val (.int tk), .val (.int n2), .val (.int n3), .val (.int n4), .val (.int n5), .val (.ref b6), .val (.long (own_f12 (((1 : Int64) <<< (((5 : Int32)) &&& 0x3f).toInt64) - (2 : Int64)) (own_plc (own_plc (own_plc (own_plc (own_plc (List.replicate 12 (0 : Int64)) ce tk) (ce ^^^ (2 : Int32)) n2) (ce ^^^ (8 : Int32)) n3) (ce ^^^ (5 : Int32)) n4) (ce ^^^ (3 : Int32)) n5) (own_f11 ce (0 : Int32)) (own_f11 ce (1 : Int32)) (own_f11 ce (2 : Int32)) tk)), .second, .val (.long ((((own_f13 n2) ||| (own_f13 n3)) ||| (own_f13 n4)) ||| (own_f13 n5))), .second, .val (.int (if (own_f14 (1 : Int32) tk ((((own_f13 n2) ||| (own_f13 n3)) ||| (own_f13 n4)) ||| (own_f13 n5))) = 0 then (if (own_f14 (2 : Int32) tk ((((own_f13 n2) ||| (own_f13 n3)) ||| (own_f13 n4)) ||| (own_f13 n5))) = 0 then (if (own_f14 (3 : Int32) tk ((((own_f13 n2) ||| (own_f13 n3)) ||| (own_f13 n4)) ||| (own_f13 n5))) = 0 then (if (own_f14 (4 : Int32) tk ((((own_f13 n2) ||| (own_f13 n3)) ||| (own_f13 n4)) ||| (own_f13 n5))) = 0 then (0 : Int32) else (4 : Int32)) else (3 : Int32)) else (2 : Int32)) else (1 : Int32))), .val (.long (own_f13 (if (own_f14 (1 : Int32) tk ((((own_f13 n2) ||| (own_f13 n3)) ||| (own_f13 n4)) ||| (own_f13 n5))) = 0 then (if (own_f14 (2 : Int32) tk ((((own_f13 n2) ||| (own_f13 n3)) ||| (own_f13 n4)) ||| (own_f13 n5))) = 0 then (if (own_f14 (3 : Int32) tk ((((own_f13 n2) ||| (own_f13 n3)) ||| (own_f13 n4)) ||| (own_f13 n5))) = 0 then (if (own_f14 (4 : Int32) tk ((((own_f13 n2) ||| (own_f13 n3)) ||| (own_f13 n4)) ||| (own_f13 n5))) = 0 then (0 : Int32) else (4 : Int32)) else (3 : Int32)) else (2 : Int32)) else (1 : Int32)))), .second, .val (.int (own_f11 oo kd)), .val (.long u2), .second, .unset] [(.int kd), (.int (ce ^^^ (5 : Int32)))]))
                  refine own_callS XJ406 hx hZ hown (hw _ (List.mem_of_getElem? (i := 82) rfl)) (hw _ (List.mem_of_getElem? (i := 83) rfl)) (hw _ (List.mem_of_getElem? (i := 2) rfl)) (hw _ (List.mem_of_getElem? (i := 84) rfl)) (by decide) (rm11 l Z a0 hw (ce ^^^ (5 : Int32)) kd T37.heap n0 Z37) eJ406 (argsL := [(.int (ce ^^^ (5 : Int32))), (.int kd)]) (rest := []) rfl rfl (by rw [hml]; rfl) (lenOf pd_0_3 rfl) (hb hby at_412) (W := 0) (Nat.le_of_eq rfl) (by decide) (by decide) (by decide) (by decide) ?_
                  rintro v63 T63 L63 X63 ⟨rfl, M63, e63⟩
                  have N63 := Fr.app NJ406 M63
                  show own_Fin _ _ _ _ _ _ _ (T63.setTop (mkF m 415 #[.val (.int p0), .val (.int p1), .val (.int p2), .val (.int p3), .val (.int p4), .val (.int p5), .val (.int ce), .val (.int oo), .val (.int kd), .val (.int qq), .val (.int tk), .val (.int n2), .val (.int n3), .val (.int n4), .val (.int n5), .val (.ref b6), .val (.long (own_f12 (((1 : Int64) <<< (((5 : Int32)) &&& 0x3f).toInt64) - (2 : Int64)) (own_plc (own_plc (own_plc (own_plc (own_plc (List.replicate 12 (0 : Int64)) ce tk) (ce ^^^ (2 : Int32)) n2) (ce ^^^ (8 : Int32)) n3) (ce ^^^ (5 : Int32)) n4) (ce ^^^ (3 : Int32)) n5) (own_f11 ce (0 : Int32)) (own_f11 ce (1 : Int32)) (own_f11 ce (2 : Int32)) tk)), .second, .val (.long ((((own_f13 n2) ||| (own_f13 n3)) ||| (own_f13 n4)) ||| (own_f13 n5))), .second, .val (.int (if (own_f14 (1 : Int32) tk ((((own_f13 n2) ||| (own_f13 n3)) ||| (own_f13 n4)) ||| (own_f13 n5))) = 0 then (if (own_f14 (2 : Int32) tk ((((own_f13 n2) ||| (own_f13 n3)) ||| (own_f13 n4)) ||| (own_f13 n5))) = 0 then (if (own_f14 (3 : Int32) tk ((((own_f13 n2) ||| (own_f13 n3)) ||| (own_f13 n4)) ||| (own_f13 n5))) = 0 then (if (own_f14 (4 : Int32) tk ((((own_f13 n2) ||| (own_f13 n3)) ||| (own_f13 n4)) ||| (own_f13 n5))) = 0 then (0 : Int32) else (4 : Int32)) else (3 : Int32)) else (2 : Int32)) else (1 : Int32))), .val (.long (own_f13 (if (own_f14 (1 : Int32) tk ((((own_f13 n2) ||| (own_f13 n3)) ||| (own_f13 n4)) ||| (own_f13 n5))) = 0 then (if (own_f14 (2 : Int32) tk ((((own_f13 n2) ||| (own_f13 n3)) ||| (own_f13 n4)) ||| (own_f13 n5))) = 0 then (if (own_f14 (3 : Int32) tk ((((own_f13 n2) ||| (own_f13 n3)) ||| (own_f13 n4)) ||| (own_f13 n5))) = 0 then (if (own_f14 (4 : Int32) tk ((((own_f13 n2) ||| (own_f13 n3)) ||| (own_f13 n4)) ||| (own_f13 n5))) = 0 then (0 : Int32) else (4 : Int32)) else (3 : Int32)) else (2 : Int32)) else (1 : Int32)))), .second, .val (.int (own_f11 oo kd)), .val (.long u2), .second, .unset] [(.int (own_f11 (ce ^^^ (5 : Int32)) kd))]))
                  refine own_go (fun _ kk => XS.iload X63.here hx rfl (hb hby at_415) rfl kk) ?_
                  show own_Fin _ _ _ _ _ _ _ (T63.setTop (mkF m 417 #[.val (.int p0), .val (.int p1), .val (.int p2), .val (.int p3), .val (.int p4), .val (.int p5), .val (.int ce), .val (.int oo), .val (.int kd), .val (.int qq), .val (.int tk), .val (.int n2), .val (.int n3), .val (.int n4), .val (.int n5), .val (.ref b6), .val (.long (own_f12 (((1 : Int64) <<< (((5 : Int32)) &&& 0x3f).toInt64) - (2 : Int64)) (own_plc (own_plc (own_plc (own_plc (own_plc (List.replicate 12 (0 : Int64)) ce tk) (ce ^^^ (2 : Int32)) n2) (ce ^^^ (8 : Int32)) n3) (ce ^^^ (5 : Int32)) n4) (ce ^^^ (3 : Int32)) n5) (own_f11 ce (0 : Int32)) (own_f11 ce (1 : Int32)) (own_f11 ce (2 : Int32)) tk)), .second, .val (.long ((((own_f13 n2) ||| (own_f13 n3)) ||| (own_f13 n4)) ||| (own_f13 n5))), .second, .val (.int (if (own_f14 (1 : Int32) tk ((((own_f13 n2) ||| (own_f13 n3)) ||| (own_f13 n4)) ||| (own_f13 n5))) = 0 then (if (own_f14 (2 : Int32) tk ((((own_f13 n2) ||| (own_f13 n3)) ||| (own_f13 n4)) ||| (own_f13 n5))) = 0 then (if (own_f14 (3 : Int32) tk ((((own_f13 n2) ||| (own_f13 n3)) ||| (own_f13 n4)) ||| (own_f13 n5))) = 0 then (if (own_f14 (4 : Int32) tk ((((own_f13 n2) ||| (own_f13 n3)) ||| (own_f13 n4)) ||| (own_f13 n5))) = 0 then (0 : Int32) else (4 : Int32)) else (3 : Int32)) else (2 : Int32)) else (1 : Int32))), .val (.long (own_f13 (if (own_f14 (1 : Int32) tk ((((own_f13 n2) ||| (own_f13 n3)) ||| (own_f13 n4)) ||| (own_f13 n5))) = 0 then (if (own_f14 (2 : Int32) tk ((((own_f13 n2) ||| (own_f13 n3)) ||| (own_f13 n4)) ||| (own_f13 n5))) = 0 then (if (own_f14 (3 : Int32) tk ((((own_f13 n2) ||| (own_f13 n3)) ||| (own_f13 n4)) ||| (own_f13 n5))) = 0 then (if (own_f14 (4 : Int32) tk ((((own_f13 n2) ||| (own_f13 n3)) ||| (own_f13 n4)) ||| (own_f13 n5))) = 0 then (0 : Int32) else (4 : Int32)) else (3 : Int32)) else (2 : Int32)) else (1 : Int32)))), .second, .val (.int (own_f11 oo kd)), .val (.long u2), .second, .unset] [(.int (own_f11 oo kd)), (.int (own_f11 (ce ^^^ (5 : Int32)) kd))]))
                  by_cases hc417 : (own_f11 (ce ^^^ (5 : Int32)) kd) = (own_f11 oo kd)
                  · refine own_go (fun _ kk => XS.icmpNo X63.here hx rfl (hb hby at_417) rfl (XT.ii_ne_f hc417) (XS.lload X63.here hx rfl (hb hby at_420) rfl (XS.iload X63.here hx rfl (hb hby at_422) rfl kk))) ?_
                    show own_Fin _ _ _ _ _ _ _ (T63.setTop (mkF m 424 #[.val (.int p0), .val (.int p1), .val (.int p2), .val (.int p3), .val (.int p4), .val (.int p5), .val (.int ce), .val (.int oo), .val (.int kd), .val (.int qq), .val (.int tk), .val (.int n2), .val (.int n3), .val (.int n4), .val (.int n5), .val (.ref b6), .val (.long (own_f12 (((1 : Int64) <<< (((5 : Int32)) &&& 0x3f).toInt64) - (2 : Int64)) (own_plc (own_plc (own_plc (own_plc (own_plc (List.replicate 12 (0 : Int64)) ce tk) (ce ^^^ (2 : Int32)) n2) (ce ^^^ (8 : Int32)) n3) (ce ^^^ (5 : Int32)) n4) (ce ^^^ (3 : Int32)) n5) (own_f11 ce (0 : Int32)) (own_f11 ce (1 : Int32)) (own_f11 ce (2 : Int32)) tk)), .second, .val (.long ((((own_f13 n2) ||| (own_f13 n3)) ||| (own_f13 n4)) ||| (own_f13 n5))), .second, .val (.int (if (own_f14 (1 : Int32) tk ((((own_f13 n2) ||| (own_f13 n3)) ||| (own_f13 n4)) ||| (own_f13 n5))) = 0 then (if (own_f14 (2 : Int32) tk ((((own_f13 n2) ||| (own_f13 n3)) ||| (own_f13 n4)) ||| (own_f13 n5))) = 0 then (if (own_f14 (3 : Int32) tk ((((own_f13 n2) ||| (own_f13 n3)) ||| (own_f13 n4)) ||| (own_f13 n5))) = 0 then (if (own_f14 (4 : Int32) tk ((((own_f13 n2) ||| (own_f13 n3)) ||| (own_f13 n4)) ||| (own_f13 n5))) = 0 then (0 : Int32) else (4 : Int32)) else (3 : Int32)) else (2 : Int32)) else (1 : Int32))), .val (.long (own_f13 (if (own_f14 (1 : Int32) tk ((((own_f13 n2) ||| (own_f13 n3)) ||| (own_f13 n4)) ||| (own_f13 n5))) = 0 then (if (own_f14 (2 : Int32) tk ((((own_f13 n2) ||| (own_f13 n3)) ||| (own_f13 n4)) ||| (own_f13 n5))) = 0 then (if (own_f14 (3 : Int32) tk ((((own_f13 n2) ||| (own_f13 n3)) ||| (own_f13 n4)) ||| (own_f13 n5))) = 0 then (if (own_f14 (4 : Int32) tk ((((own_f13 n2) ||| (own_f13 n3)) ||| (own_f13 n4)) ||| (own_f13 n5))) = 0 then (0 : Int32) else (4 : Int32)) else (3 : Int32)) else (2 : Int32)) else (1 : Int32)))), .second, .val (.int (own_f11 oo kd)), .val (.long u2), .second, .unset] [(.int n4), (.long u2)]))
                    refine own_callS X63 hx hZ hown (hw _ (List.mem_of_getElem? (i := 91) rfl)) (hw _ (List.mem_of_getElem? (i := 92) rfl)) (hw _ (List.mem_of_getElem? (i := 2) rfl)) (hw _ (List.mem_of_getElem? (i := 93) rfl)) (by decide) (rm13 l Z a0 hw n4 T37.heap n0 Z37) e63 (argsL := [(.int n4)]) (rest := [(.long u2)]) rfl rfl (by rw [hml]; rfl) (lenOf pd_0_5 rfl) (hb hby at_424) (W := 2) (Nat.le_of_eq rfl) (by decide) (by decide) (by decide) (by decide) ?_
                    rintro v64 T64 L64 X64 ⟨rfl, M64, e64⟩
                    have N64 := Fr.app N63 M64
                    show own_Fin _ _ _ _ _ _ _ (T64.setTop (mkF m 427 #[.val (.int p0), .val (.int p1), .val (.int p2), .val (.int p3), .val (.int p4), .val (.int p5), .val (.int ce), .val (.int oo), .val (.int kd), .val (.int qq), .val (.int tk), .val (.int n2), .val (.int n3), .val (.int n4), .val (.int n5), .val (.ref b6), .val (.long (own_f12 (((1 : Int64) <<< (((5 : Int32)) &&& 0x3f).toInt64) - (2 : Int64)) (own_plc (own_plc (own_plc (own_plc (own_plc (List.replicate 12 (0 : Int64)) ce tk) (ce ^^^ (2 : Int32)) n2) (ce ^^^ (8 : Int32)) n3) (ce ^^^ (5 : Int32)) n4) (ce ^^^ (3 : Int32)) n5) (own_f11 ce (0 : Int32)) (own_f11 ce (1 : Int32)) (own_f11 ce (2 : Int32)) tk)), .second, .val (.long ((((own_f13 n2) ||| (own_f13 n3)) ||| (own_f13 n4)) ||| (own_f13 n5))), .second, .val (.int (if (own_f14 (1 : Int32) tk ((((own_f13 n2) ||| (own_f13 n3)) ||| (own_f13 n4)) ||| (own_f13 n5))) = 0 then (if (own_f14 (2 : Int32) tk ((((own_f13 n2) ||| (own_f13 n3)) ||| (own_f13 n4)) ||| (own_f13 n5))) = 0 then (if (own_f14 (3 : Int32) tk ((((own_f13 n2) ||| (own_f13 n3)) ||| (own_f13 n4)) ||| (own_f13 n5))) = 0 then (if (own_f14 (4 : Int32) tk ((((own_f13 n2) ||| (own_f13 n3)) ||| (own_f13 n4)) ||| (own_f13 n5))) = 0 then (0 : Int32) else (4 : Int32)) else (3 : Int32)) else (2 : Int32)) else (1 : Int32))), .val (.long (own_f13 (if (own_f14 (1 : Int32) tk ((((own_f13 n2) ||| (own_f13 n3)) ||| (own_f13 n4)) ||| (own_f13 n5))) = 0 then (if (own_f14 (2 : Int32) tk ((((own_f13 n2) ||| (own_f13 n3)) ||| (own_f13 n4)) ||| (own_f13 n5))) = 0 then (if (own_f14 (3 : Int32) tk ((((own_f13 n2) ||| (own_f13 n3)) ||| (own_f13 n4)) ||| (own_f13 n5))) = 0 then (if (own_f14 (4 : Int32) tk ((((own_f13 n2) ||| (own_f13 n3)) ||| (own_f13 n4)) ||| (own_f13 n5))) = 0 then (0 : Int32) else (4 : Int32)) else (3 : Int32)) else (2 : Int32)) else (1 : Int32)))), .second, .val (.int (own_f11 oo kd)), .val (.long u2), .second, .unset] [(.long (own_f13 n4)), (.long u2)]))
                    refine own_go (fun _ kk => XS.lor X64.here hx rfl (hb hby at_427) rfl (XS.lstore X64.here hx rfl (hb hby at_428) rfl (l' := #[.val (.int p0), .val (.int p1), .val (.int p2), .val (.int p3), .val (.int p4), .val (.int p5), .val (.int ce), .val (.int oo), .val (.int kd), .val (.int qq), .val (.int tk), .val (.int n2), .val (.int n3), .val (.int n4), .val (.int n5), .val (.ref b6), .val (.long (own_f12 (((1 : Int64) <<< (((5 : Int32)) &&& 0x3f).toInt64) - (2 : Int64)) (own_plc (own_plc (own_plc (own_plc (own_plc (List.replicate 12 (0 : Int64)) ce tk) (ce ^^^ (2 : Int32)) n2) (ce ^^^ (8 : Int32)) n3) (ce ^^^ (5 : Int32)) n4) (ce ^^^ (3 : Int32)) n5) (own_f11 ce (0 : Int32)) (own_f11 ce (1 : Int32)) (own_f11 ce (2 : Int32)) tk)), .second, .val (.long ((((own_f13 n2) ||| (own_f13 n3)) ||| (own_f13 n4)) ||| (own_f13 n5))), .second, .val (.int (if (own_f14 (1 : Int32) tk ((((own_f13 n2) ||| (own_f13 n3)) ||| (own_f13 n4)) ||| (own_f13 n5))) = 0 then (if (own_f14 (2 : Int32) tk ((((own_f13 n2) ||| (own_f13 n3)) ||| (own_f13 n4)) ||| (own_f13 n5))) = 0 then (if (own_f14 (3 : Int32) tk ((((own_f13 n2) ||| (own_f13 n3)) ||| (own_f13 n4)) ||| (own_f13 n5))) = 0 then (if (own_f14 (4 : Int32) tk ((((own_f13 n2) ||| (own_f13 n3)) ||| (own_f13 n4)) ||| (own_f13 n5))) = 0 then (0 : Int32) else (4 : Int32)) else (3 : Int32)) else (2 : Int32)) else (1 : Int32))), .val (.long (own_f13 (if (own_f14 (1 : Int32) tk ((((own_f13 n2) ||| (own_f13 n3)) ||| (own_f13 n4)) ||| (own_f13 n5))) = 0 then (if (own_f14 (2 : Int32) tk ((((own_f13 n2) ||| (own_f13 n3)) ||| (own_f13 n4)) ||| (own_f13 n5))) = 0 then (if (own_f14 (3 : Int32) tk ((((own_f13 n2) ||| (own_f13 n3)) ||| (own_f13 n4)) ||| (own_f13 n5))) = 0 then (if (own_f14 (4 : Int32) tk ((((own_f13 n2) ||| (own_f13 n3)) ||| (own_f13 n4)) ||| (own_f13 n5))) = 0 then (0 : Int32) else (4 : Int32)) else (3 : Int32)) else (2 : Int32)) else (1 : Int32)))), .second, .val (.int (own_f11 oo kd)), .val (.long (u2 ||| (own_f13 n4))), .second, .unset]) rfl kk)) ?_
                    show own_Fin _ _ _ _ _ _ _ (T64.setTop (mkF m 430 #[.val (.int p0), .val (.int p1), .val (.int p2), .val (.int p3), .val (.int p4), .val (.int p5), .val (.int ce), .val (.int oo), .val (.int kd), .val (.int qq), .val (.int tk), .val (.int n2), .val (.int n3), .val (.int n4), .val (.int n5), .val (.ref b6), .val (.long (own_f12 (((1 : Int64) <<< (((5 : Int32)) &&& 0x3f).toInt64) - (2 : Int64)) (own_plc (own_plc (own_plc (own_plc (own_plc (List.replicate 12 (0 : Int64)) ce tk) (ce ^^^ (2 : Int32)) n2) (ce ^^^ (8 : Int32)) n3) (ce ^^^ (5 : Int32)) n4) (ce ^^^ (3 : Int32)) n5) (own_f11 ce (0 : Int32)) (own_f11 ce (1 : Int32)) (own_f11 ce (2 : Int32)) tk)), .second, .val (.long ((((own_f13 n2) ||| (own_f13 n3)) ||| (own_f13 n4)) ||| (own_f13 n5))), .second, .val (.int (if (own_f14 (1 : Int32) tk ((((own_f13 n2) ||| (own_f13 n3)) ||| (own_f13 n4)) ||| (own_f13 n5))) = 0 then (if (own_f14 (2 : Int32) tk ((((own_f13 n2) ||| (own_f13 n3)) ||| (own_f13 n4)) ||| (own_f13 n5))) = 0 then (if (own_f14 (3 : Int32) tk ((((own_f13 n2) ||| (own_f13 n3)) ||| (own_f13 n4)) ||| (own_f13 n5))) = 0 then (if (own_f14 (4 : Int32) tk ((((own_f13 n2) ||| (own_f13 n3)) ||| (own_f13 n4)) ||| (own_f13 n5))) = 0 then (0 : Int32) else (4 : Int32)) else (3 : Int32)) else (2 : Int32)) else (1 : Int32))), .val (.long (own_f13 (if (own_f14 (1 : Int32) tk ((((own_f13 n2) ||| (own_f13 n3)) ||| (own_f13 n4)) ||| (own_f13 n5))) = 0 then (if (own_f14 (2 : Int32) tk ((((own_f13 n2) ||| (own_f13 n3)) ||| (own_f13 n4)) ||| (own_f13 n5))) = 0 then (if (own_f14 (3 : Int32) tk ((((own_f13 n2) ||| (own_f13 n3)) ||| (own_f13 n4)) ||| (own_f13 n5))) = 0 then (if (own_f14 (4 : Int32) tk ((((own_f13 n2) ||| (own_f13 n3)) ||| (own_f13 n4)) ||| (own_f13 n5))) = 0 then (0 : Int32) else (4 : Int32)) else (3 : Int32)) else (2 : Int32)) else (1 : Int32)))), .second, .val (.int (own_f11 oo kd)), .val (.long (u2 ||| (own_f13 n4))), .second, .unset] []))
                    exact J430 _ _ ((u2 ||| (own_f13 n4))) X64 N64 e64 (by rw [hjJ406, own_f0_406, if_pos hc417])
                  · refine own_go (fun _ kk => XS.icmpYes X63.here hx rfl (pc0 := 417) (pc' := 430) rfl (hb hby at_417) rfl (XT.ii_ne_t hc417) (by decide) (by decide) kk) ?_
                    show own_Fin _ _ _ _ _ _ _ (T63.setTop (mkF m 430 #[.val (.int p0), .val (.int p1), .val (.int p2), .val (.int p3), .val (.int p4), .val (.int p5), .val (.int ce), .val (.int oo), .val (.int kd), .val (.int qq), .val (.int tk), .val (.int n2), .val (.int n3), .val (.int n4), .val (.int n5), .val (.ref b6), .val (.long (own_f12 (((1 : Int64) <<< (((5 : Int32)) &&& 0x3f).toInt64) - (2 : Int64)) (own_plc (own_plc (own_plc (own_plc (own_plc (List.replicate 12 (0 : Int64)) ce tk) (ce ^^^ (2 : Int32)) n2) (ce ^^^ (8 : Int32)) n3) (ce ^^^ (5 : Int32)) n4) (ce ^^^ (3 : Int32)) n5) (own_f11 ce (0 : Int32)) (own_f11 ce (1 : Int32)) (own_f11 ce (2 : Int32)) tk)), .second, .val (.long ((((own_f13 n2) ||| (own_f13 n3)) ||| (own_f13 n4)) ||| (own_f13 n5))), .second, .val (.int (if (own_f14 (1 : Int32) tk ((((own_f13 n2) ||| (own_f13 n3)) ||| (own_f13 n4)) ||| (own_f13 n5))) = 0 then (if (own_f14 (2 : Int32) tk ((((own_f13 n2) ||| (own_f13 n3)) ||| (own_f13 n4)) ||| (own_f13 n5))) = 0 then (if (own_f14 (3 : Int32) tk ((((own_f13 n2) ||| (own_f13 n3)) ||| (own_f13 n4)) ||| (own_f13 n5))) = 0 then (if (own_f14 (4 : Int32) tk ((((own_f13 n2) ||| (own_f13 n3)) ||| (own_f13 n4)) ||| (own_f13 n5))) = 0 then (0 : Int32) else (4 : Int32)) else (3 : Int32)) else (2 : Int32)) else (1 : Int32))), .val (.long (own_f13 (if (own_f14 (1 : Int32) tk ((((own_f13 n2) ||| (own_f13 n3)) ||| (own_f13 n4)) ||| (own_f13 n5))) = 0 then (if (own_f14 (2 : Int32) tk ((((own_f13 n2) ||| (own_f13 n3)) ||| (own_f13 n4)) ||| (own_f13 n5))) = 0 then (if (own_f14 (3 : Int32) tk ((((own_f13 n2) ||| (own_f13 n3)) ||| (own_f13 n4)) ||| (own_f13 n5))) = 0 then (if (own_f14 (4 : Int32) tk ((((own_f13 n2) ||| (own_f13 n3)) ||| (own_f13 n4)) ||| (own_f13 n5))) = 0 then (0 : Int32) else (4 : Int32)) else (3 : Int32)) else (2 : Int32)) else (1 : Int32)))), .second, .val (.int (own_f11 oo kd)), .val (.long u2), .second, .unset] []))
                    exact J430 _ _ (u2) X63 N63 e63 (by rw [hjJ406, own_f0_406, if_neg hc417])
                refine own_go (fun _ kk => XS.iload XJ381.here hx rfl (hb hby at_381) rfl (XS.bipush XJ381.here hx rfl (hb hby at_383) (XS.ixor XJ381.here hx rfl (hb hby at_385) rfl (XS.iload XJ381.here hx rfl (hb hby at_386) rfl kk)))) ?_
                show own_Fin _ _ _ _ _ _ _ (TJ381.setTop (mkF m 388 #[.val (.int p0), .val (.int p1), .val (.int p2), .val (.int p3), .val (.int p4), .val (.int p5), .val (.int ce), .val (.int oo), .val (.int kd), .val (.int qq), .val (.int tk), .val (.int n2), .val (.int n3), .val (.int n4), .val (.int n5), .val (.ref b6), .val (.long (own_f12 (((1 : Int64) <<< (((5 : Int32)) &&& 0x3f).toInt64) - (2 : Int64)) (own_plc (own_plc (own_plc (own_plc (own_plc (List.replicate 12 (0 : Int64)) ce tk) (ce ^^^ (2 : Int32)) n2) (ce ^^^ (8 : Int32)) n3) (ce ^^^ (5 : Int32)) n4) (ce ^^^ (3 : Int32)) n5) (own_f11 ce (0 : Int32)) (own_f11 ce (1 : Int32)) (own_f11 ce (2 : Int32)) tk)), .second, .val (.long ((((own_f13 n2) ||| (own_f13 n3)) ||| (own_f13 n4)) ||| (own_f13 n5))), .second, .val (.int (if (own_f14 (1 : Int32) tk ((((own_f13 n2) ||| (own_f13 n3)) ||| (own_f13 n4)) ||| (own_f13 n5))) = 0 then (if (own_f14 (2 : Int32) tk ((((own_f13 n2) ||| (own_f13 n3)) ||| (own_f13 n4)) ||| (own_f13 n5))) = 0 then (if (own_f14 (3 : Int32) tk ((((own_f13 n2) ||| (own_f13 n3)) ||| (own_f13 n4)) ||| (own_f13 n5))) = 0 then (if (own_f14 (4 : Int32) tk ((((own_f13 n2) ||| (own_f13 n3)) ||| (own_f13 n4)) ||| (own_f13 n5))) = 0 then (0 : Int32) else (4 : Int32)) else (3 : Int32)) else (2 : Int32)) else (1 : Int32))), .val (.long (own_f13 (if (own_f14 (1 : Int32) tk ((((own_f13 n2) ||| (own_f13 n3)) ||| (own_f13 n4)) ||| (own_f13 n5))) = 0 then (if (own_f14 (2 : Int32) tk ((((own_f13 n2) ||| (own_f13 n3)) ||| (own_f13 n4)) ||| (own_f13 n5))) = 0 then (if (own_f14 (3 : Int32) tk ((((own_f13 n2) ||| (own_f13 n3)) ||| (own_f13 n4)) ||| (own_f13 n5))) = 0 then (if (own_f14 (4 : Int32) tk ((((own_f13 n2) ||| (own_f13 n3)) ||| (own_f13 n4)) ||| (own_f13 n5))) = 0 then (0 : Int32) else (4 : Int32)) else (3 : Int32)) else (2 : Int32)) else (1 : Int32)))), .second, .val (.int (own_f11 oo kd)), .val (.long u1), .second, .unset] [(.int kd), (.int (ce ^^^ (8 : Int32)))]))
                refine own_callS XJ381 hx hZ hown (hw _ (List.mem_of_getElem? (i := 82) rfl)) (hw _ (List.mem_of_getElem? (i := 83) rfl)) (hw _ (List.mem_of_getElem? (i := 2) rfl)) (hw _ (List.mem_of_getElem? (i := 84) rfl)) (by decide) (rm11 l Z a0 hw (ce ^^^ (8 : Int32)) kd T37.heap n0 Z37) eJ381 (argsL := [(.int (ce ^^^ (8 : Int32))), (.int kd)]) (rest := []) rfl rfl (by rw [hml]; rfl) (lenOf pd_0_3 rfl) (hb hby at_388) (W := 0) (Nat.le_of_eq rfl) (by decide) (by decide) (by decide) (by decide) ?_
                rintro v65 T65 L65 X65 ⟨rfl, M65, e65⟩
                have N65 := Fr.app NJ381 M65
                show own_Fin _ _ _ _ _ _ _ (T65.setTop (mkF m 391 #[.val (.int p0), .val (.int p1), .val (.int p2), .val (.int p3), .val (.int p4), .val (.int p5), .val (.int ce), .val (.int oo), .val (.int kd), .val (.int qq), .val (.int tk), .val (.int n2), .val (.int n3), .val (.int n4), .val (.int n5), .val (.ref b6), .val (.long (own_f12 (((1 : Int64) <<< (((5 : Int32)) &&& 0x3f).toInt64) - (2 : Int64)) (own_plc (own_plc (own_plc (own_plc (own_plc (List.replicate 12 (0 : Int64)) ce tk) (ce ^^^ (2 : Int32)) n2) (ce ^^^ (8 : Int32)) n3) (ce ^^^ (5 : Int32)) n4) (ce ^^^ (3 : Int32)) n5) (own_f11 ce (0 : Int32)) (own_f11 ce (1 : Int32)) (own_f11 ce (2 : Int32)) tk)), .second, .val (.long ((((own_f13 n2) ||| (own_f13 n3)) ||| (own_f13 n4)) ||| (own_f13 n5))), .second, .val (.int (if (own_f14 (1 : Int32) tk ((((own_f13 n2) ||| (own_f13 n3)) ||| (own_f13 n4)) ||| (own_f13 n5))) = 0 then (if (own_f14 (2 : Int32) tk ((((own_f13 n2) ||| (own_f13 n3)) ||| (own_f13 n4)) ||| (own_f13 n5))) = 0 then (if (own_f14 (3 : Int32) tk ((((own_f13 n2) ||| (own_f13 n3)) ||| (own_f13 n4)) ||| (own_f13 n5))) = 0 then (if (own_f14 (4 : Int32) tk ((((own_f13 n2) ||| (own_f13 n3)) ||| (own_f13 n4)) ||| (own_f13 n5))) = 0 then (0 : Int32) else (4 : Int32)) else (3 : Int32)) else (2 : Int32)) else (1 : Int32))), .val (.long (own_f13 (if (own_f14 (1 : Int32) tk ((((own_f13 n2) ||| (own_f13 n3)) ||| (own_f13 n4)) ||| (own_f13 n5))) = 0 then (if (own_f14 (2 : Int32) tk ((((own_f13 n2) ||| (own_f13 n3)) ||| (own_f13 n4)) ||| (own_f13 n5))) = 0 then (if (own_f14 (3 : Int32) tk ((((own_f13 n2) ||| (own_f13 n3)) ||| (own_f13 n4)) ||| (own_f13 n5))) = 0 then (if (own_f14 (4 : Int32) tk ((((own_f13 n2) ||| (own_f13 n3)) ||| (own_f13 n4)) ||| (own_f13 n5))) = 0 then (0 : Int32) else (4 : Int32)) else (3 : Int32)) else (2 : Int32)) else (1 : Int32)))), .second, .val (.int (own_f11 oo kd)), .val (.long u1), .second, .unset] [(.int (own_f11 (ce ^^^ (8 : Int32)) kd))]))
                refine own_go (fun _ kk => XS.iload X65.here hx rfl (hb hby at_391) rfl kk) ?_
                show own_Fin _ _ _ _ _ _ _ (T65.setTop (mkF m 393 #[.val (.int p0), .val (.int p1), .val (.int p2), .val (.int p3), .val (.int p4), .val (.int p5), .val (.int ce), .val (.int oo), .val (.int kd), .val (.int qq), .val (.int tk), .val (.int n2), .val (.int n3), .val (.int n4), .val (.int n5), .val (.ref b6), .val (.long (own_f12 (((1 : Int64) <<< (((5 : Int32)) &&& 0x3f).toInt64) - (2 : Int64)) (own_plc (own_plc (own_plc (own_plc (own_plc (List.replicate 12 (0 : Int64)) ce tk) (ce ^^^ (2 : Int32)) n2) (ce ^^^ (8 : Int32)) n3) (ce ^^^ (5 : Int32)) n4) (ce ^^^ (3 : Int32)) n5) (own_f11 ce (0 : Int32)) (own_f11 ce (1 : Int32)) (own_f11 ce (2 : Int32)) tk)), .second, .val (.long ((((own_f13 n2) ||| (own_f13 n3)) ||| (own_f13 n4)) ||| (own_f13 n5))), .second, .val (.int (if (own_f14 (1 : Int32) tk ((((own_f13 n2) ||| (own_f13 n3)) ||| (own_f13 n4)) ||| (own_f13 n5))) = 0 then (if (own_f14 (2 : Int32) tk ((((own_f13 n2) ||| (own_f13 n3)) ||| (own_f13 n4)) ||| (own_f13 n5))) = 0 then (if (own_f14 (3 : Int32) tk ((((own_f13 n2) ||| (own_f13 n3)) ||| (own_f13 n4)) ||| (own_f13 n5))) = 0 then (if (own_f14 (4 : Int32) tk ((((own_f13 n2) ||| (own_f13 n3)) ||| (own_f13 n4)) ||| (own_f13 n5))) = 0 then (0 : Int32) else (4 : Int32)) else (3 : Int32)) else (2 : Int32)) else (1 : Int32))), .val (.long (own_f13 (if (own_f14 (1 : Int32) tk ((((own_f13 n2) ||| (own_f13 n3)) ||| (own_f13 n4)) ||| (own_f13 n5))) = 0 then (if (own_f14 (2 : Int32) tk ((((own_f13 n2) ||| (own_f13 n3)) ||| (own_f13 n4)) ||| (own_f13 n5))) = 0 then (if (own_f14 (3 : Int32) tk ((((own_f13 n2) ||| (own_f13 n3)) ||| (own_f13 n4)) ||| (own_f13 n5))) = 0 then (if (own_f14 (4 : Int32) tk ((((own_f13 n2) ||| (own_f13 n3)) ||| (own_f13 n4)) ||| (own_f13 n5))) = 0 then (0 : Int32) else (4 : Int32)) else (3 : Int32)) else (2 : Int32)) else (1 : Int32)))), .second, .val (.int (own_f11 oo kd)), .val (.long u1), .second, .unset] [(.int (own_f11 oo kd)), (.int (own_f11 (ce ^^^ (8 : Int32)) kd))]))
                by_cases hc393 : (own_f11 (ce ^^^ (8 : Int32)) kd) = (own_f11 oo kd)
                · refine own_go (fun _ kk => XS.icmpNo X65.here hx rfl (hb hby at_393) rfl (XT.ii_ne_f hc393) (XS.lload X65.here hx rfl (hb hby at_396) rfl (XS.iload X65.here hx rfl (hb hby at_398) rfl kk))) ?_
                  show own_Fin _ _ _ _ _ _ _ (T65.setTop (mkF m 400 #[.val (.int p0), .val (.int p1), .val (.int p2), .val (.int p3), .val (.int p4), .val (.int p5), .val (.int ce), .val (.int oo), .val (.int kd), .val (.int qq), .val (.int tk), .val (.int n2), .val (.int n3), .val (.int n4), .val (.int n5), .val (.ref b6), .val (.long (own_f12 (((1 : Int64) <<< (((5 : Int32)) &&& 0x3f).toInt64) - (2 : Int64)) (own_plc (own_plc (own_plc (own_plc (own_plc (List.replicate 12 (0 : Int64)) ce tk) (ce ^^^ (2 : Int32)) n2) (ce ^^^ (8 : Int32)) n3) (ce ^^^ (5 : Int32)) n4) (ce ^^^ (3 : Int32)) n5) (own_f11 ce (0 : Int32)) (own_f11 ce (1 : Int32)) (own_f11 ce (2 : Int32)) tk)), .second, .val (.long ((((own_f13 n2) ||| (own_f13 n3)) ||| (own_f13 n4)) ||| (own_f13 n5))), .second, .val (.int (if (own_f14 (1 : Int32) tk ((((own_f13 n2) ||| (own_f13 n3)) ||| (own_f13 n4)) ||| (own_f13 n5))) = 0 then (if (own_f14 (2 : Int32) tk ((((own_f13 n2) ||| (own_f13 n3)) ||| (own_f13 n4)) ||| (own_f13 n5))) = 0 then (if (own_f14 (3 : Int32) tk ((((own_f13 n2) ||| (own_f13 n3)) ||| (own_f13 n4)) ||| (own_f13 n5))) = 0 then (if (own_f14 (4 : Int32) tk ((((own_f13 n2) ||| (own_f13 n3)) ||| (own_f13 n4)) ||| (own_f13 n5))) = 0 then (0 : Int32) else (4 : Int32)) else (3 : Int32)) else (2 : Int32)) else (1 : Int32))), .val (.long (own_f13 (if (own_f14 (1 : Int32) tk ((((own_f13 n2) ||| (own_f13 n3)) ||| (own_f13 n4)) ||| (own_f13 n5))) = 0 then (if (own_f14 (2 : Int32) tk ((((own_f13 n2) ||| (own_f13 n3)) ||| (own_f13 n4)) ||| (own_f13 n5))) = 0 then (if (own_f14 (3 : Int32) tk ((((own_f13 n2) ||| (own_f13 n3)) ||| (own_f13 n4)) ||| (own_f13 n5))) = 0 then (if (own_f14 (4 : Int32) tk ((((own_f13 n2) ||| (own_f13 n3)) ||| (own_f13 n4)) ||| (own_f13 n5))) = 0 then (0 : Int32) else (4 : Int32)) else (3 : Int32)) else (2 : Int32)) else (1 : Int32)))), .second, .val (.int (own_f11 oo kd)), .val (.long u1), .second, .unset] [(.int n3), (.long u1)]))
                  refine own_callS X65 hx hZ hown (hw _ (List.mem_of_getElem? (i := 91) rfl)) (hw _ (List.mem_of_getElem? (i := 92) rfl)) (hw _ (List.mem_of_getElem? (i := 2) rfl)) (hw _ (List.mem_of_getElem? (i := 93) rfl)) (by decide) (rm13 l Z a0 hw n3 T37.heap n0 Z37) e65 (argsL := [(.int n3)]) (rest := [(.long u1)]) rfl rfl (by rw [hml]; rfl) (lenOf pd_0_5 rfl) (hb hby at_400) (W := 2) (Nat.le_of_eq rfl) (by decide) (by decide) (by decide) (by decide) ?_
                  rintro v66 T66 L66 X66 ⟨rfl, M66, e66⟩
                  have N66 := Fr.app N65 M66
                  show own_Fin _ _ _ _ _ _ _ (T66.setTop (mkF m 403 #[.val (.int p0), .val (.int p1), .val (.int p2), .val (.int p3), .val (.int p4), .val (.int p5), .val (.int ce), .val (.int oo), .val (.int kd), .val (.int qq), .val (.int tk), .val (.int n2), .val (.int n3), .val (.int n4), .val (.int n5), .val (.ref b6), .val (.long (own_f12 (((1 : Int64) <<< (((5 : Int32)) &&& 0x3f).toInt64) - (2 : Int64)) (own_plc (own_plc (own_plc (own_plc (own_plc (List.replicate 12 (0 : Int64)) ce tk) (ce ^^^ (2 : Int32)) n2) (ce ^^^ (8 : Int32)) n3) (ce ^^^ (5 : Int32)) n4) (ce ^^^ (3 : Int32)) n5) (own_f11 ce (0 : Int32)) (own_f11 ce (1 : Int32)) (own_f11 ce (2 : Int32)) tk)), .second, .val (.long ((((own_f13 n2) ||| (own_f13 n3)) ||| (own_f13 n4)) ||| (own_f13 n5))), .second, .val (.int (if (own_f14 (1 : Int32) tk ((((own_f13 n2) ||| (own_f13 n3)) ||| (own_f13 n4)) ||| (own_f13 n5))) = 0 then (if (own_f14 (2 : Int32) tk ((((own_f13 n2) ||| (own_f13 n3)) ||| (own_f13 n4)) ||| (own_f13 n5))) = 0 then (if (own_f14 (3 : Int32) tk ((((own_f13 n2) ||| (own_f13 n3)) ||| (own_f13 n4)) ||| (own_f13 n5))) = 0 then (if (own_f14 (4 : Int32) tk ((((own_f13 n2) ||| (own_f13 n3)) ||| (own_f13 n4)) ||| (own_f13 n5))) = 0 then (0 : Int32) else (4 : Int32)) else (3 : Int32)) else (2 : Int32)) else (1 : Int32))), .val (.long (own_f13 (if (own_f14 (1 : Int32) tk ((((own_f13 n2) ||| (own_f13 n3)) ||| (own_f13 n4)) ||| (own_f13 n5))) = 0 then (if (own_f14 (2 : Int32) tk ((((own_f13 n2) ||| (own_f13 n3)) ||| (own_f13 n4)) ||| (own_f13 n5))) = 0 then (if (own_f14 (3 : Int32) tk ((((own_f13 n2) ||| (own_f13 n3)) ||| (own_f13 n4)) ||| (own_f13 n5))) = 0 then (if (own_f14 (4 : Int32) tk ((((own_f13 n2) ||| (own_f13 n3)) ||| (own_f13 n4)) ||| (own_f13 n5))) = 0 then (0 : Int32) else (4 : Int32)) else (3 : Int32)) else (2 : Int32)) else (1 : Int32)))), .second, .val (.int (own_f11 oo kd)), .val (.long u1), .second, .unset] [(.long (own_f13 n3)), (.long u1)]))
                  refine own_go (fun _ kk => XS.lor X66.here hx rfl (hb hby at_403) rfl (XS.lstore X66.here hx rfl (hb hby at_404) rfl (l' := #[.val (.int p0), .val (.int p1), .val (.int p2), .val (.int p3), .val (.int p4), .val (.int p5), .val (.int ce), .val (.int oo), .val (.int kd), .val (.int qq), .val (.int tk), .val (.int n2), .val (.int n3), .val (.int n4), .val (.int n5), .val (.ref b6), .val (.long (own_f12 (((1 : Int64) <<< (((5 : Int32)) &&& 0x3f).toInt64) - (2 : Int64)) (own_plc (own_plc (own_plc (own_plc (own_plc (List.replicate 12 (0 : Int64)) ce tk) (ce ^^^ (2 : Int32)) n2) (ce ^^^ (8 : Int32)) n3) (ce ^^^ (5 : Int32)) n4) (ce ^^^ (3 : Int32)) n5) (own_f11 ce (0 : Int32)) (own_f11 ce (1 : Int32)) (own_f11 ce (2 : Int32)) tk)), .second, .val (.long ((((own_f13 n2) ||| (own_f13 n3)) ||| (own_f13 n4)) ||| (own_f13 n5))), .second, .val (.int (if (own_f14 (1 : Int32) tk ((((own_f13 n2) ||| (own_f13 n3)) ||| (own_f13 n4)) ||| (own_f13 n5))) = 0 then (if (own_f14 (2 : Int32) tk ((((own_f13 n2) ||| (own_f13 n3)) ||| (own_f13 n4)) ||| (own_f13 n5))) = 0 then (if (own_f14 (3 : Int32) tk ((((own_f13 n2) ||| (own_f13 n3)) ||| (own_f13 n4)) ||| (own_f13 n5))) = 0 then (if (own_f14 (4 : Int32) tk ((((own_f13 n2) ||| (own_f13 n3)) ||| (own_f13 n4)) ||| (own_f13 n5))) = 0 then (0 : Int32) else (4 : Int32)) else (3 : Int32)) else (2 : Int32)) else (1 : Int32))), .val (.long (own_f13 (if (own_f14 (1 : Int32) tk ((((own_f13 n2) ||| (own_f13 n3)) ||| (own_f13 n4)) ||| (own_f13 n5))) = 0 then (if (own_f14 (2 : Int32) tk ((((own_f13 n2) ||| (own_f13 n3)) ||| (own_f13 n4)) ||| (own_f13 n5))) = 0 then (if (own_f14 (3 : Int32) tk ((((own_f13 n2) ||| (own_f13 n3)) ||| (own_f13 n4)) ||| (own_f13 n5))) = 0 then (if (own_f14 (4 : Int32) tk ((((own_f13 n2) ||| (own_f13 n3)) ||| (own_f13 n4)) ||| (own_f13 n5))) = 0 then (0 : Int32) else (4 : Int32)) else (3 : Int32)) else (2 : Int32)) else (1 : Int32)))), .second, .val (.int (own_f11 oo kd)), .val (.long (u1 ||| (own_f13 n3))), .second, .unset]) rfl kk)) ?_
                  show own_Fin _ _ _ _ _ _ _ (T66.setTop (mkF m 406 #[.val (.int p0), .val (.int p1), .val (.int p2), .val (.int p3), .val (.int p4), .val (.int p5), .val (.int ce), .val (.int oo), .val (.int kd), .val (.int qq), .val (.int tk), .val (.int n2), .val (.int n3), .val (.int n4), .val (.int n5), .val (.ref b6), .val (.long (own_f12 (((1 : Int64) <<< (((5 : Int32)) &&& 0x3f).toInt64) - (2 : Int64)) (own_plc (own_plc (own_plc (own_plc (own_plc (List.replicate 12 (0 : Int64)) ce tk) (ce ^^^ (2 : Int32)) n2) (ce ^^^ (8 : Int32)) n3) (ce ^^^ (5 : Int32)) n4) (ce ^^^ (3 : Int32)) n5) (own_f11 ce (0 : Int32)) (own_f11 ce (1 : Int32)) (own_f11 ce (2 : Int32)) tk)), .second, .val (.long ((((own_f13 n2) ||| (own_f13 n3)) ||| (own_f13 n4)) ||| (own_f13 n5))), .second, .val (.int (if (own_f14 (1 : Int32) tk ((((own_f13 n2) ||| (own_f13 n3)) ||| (own_f13 n4)) ||| (own_f13 n5))) = 0 then (if (own_f14 (2 : Int32) tk ((((own_f13 n2) ||| (own_f13 n3)) ||| (own_f13 n4)) ||| (own_f13 n5))) = 0 then (if (own_f14 (3 : Int32) tk ((((own_f13 n2) ||| (own_f13 n3)) ||| (own_f13 n4)) ||| (own_f13 n5))) = 0 then (if (own_f14 (4 : Int32) tk ((((own_f13 n2) ||| (own_f13 n3)) ||| (own_f13 n4)) ||| (own_f13 n5))) = 0 then (0 : Int32) else (4 : Int32)) else (3 : Int32)) else (2 : Int32)) else (1 : Int32))), .val (.long (own_f13 (if (own_f14 (1 : Int32) tk ((((own_f13 n2) ||| (own_f13 n3)) ||| (own_f13 n4)) ||| (own_f13 n5))) = 0 then (if (own_f14 (2 : Int32) tk ((((own_f13 n2) ||| (own_f13 n3)) ||| (own_f13 n4)) ||| (own_f13 n5))) = 0 then (if (own_f14 (3 : Int32) tk ((((own_f13 n2) ||| (own_f13 n3)) ||| (own_f13 n4)) ||| (own_f13 n5))) = 0 then (if (own_f14 (4 : Int32) tk ((((own_f13 n2) ||| (own_f13 n3)) ||| (own_f13 n4)) ||| (own_f13 n5))) = 0 then (0 : Int32) else (4 : Int32)) else (3 : Int32)) else (2 : Int32)) else (1 : Int32)))), .second, .val (.int (own_f11 oo kd)), .val (.long (u1 ||| (own_f13 n3))), .second, .unset] []))
                  exact J406 _ _ ((u1 ||| (own_f13 n3))) X66 N66 e66 (by rw [hjJ381, own_f0_381, if_pos hc393])
                · refine own_go (fun _ kk => XS.icmpYes X65.here hx rfl (pc0 := 393) (pc' := 406) rfl (hb hby at_393) rfl (XT.ii_ne_t hc393) (by decide) (by decide) kk) ?_
                  show own_Fin _ _ _ _ _ _ _ (T65.setTop (mkF m 406 #[.val (.int p0), .val (.int p1), .val (.int p2), .val (.int p3), .val (.int p4), .val (.int p5), .val (.int ce), .val (.int oo), .val (.int kd), .val (.int qq), .val (.int tk), .val (.int n2), .val (.int n3), .val (.int n4), .val (.int n5), .val (.ref b6), .val (.long (own_f12 (((1 : Int64) <<< (((5 : Int32)) &&& 0x3f).toInt64) - (2 : Int64)) (own_plc (own_plc (own_plc (own_plc (own_plc (List.replicate 12 (0 : Int64)) ce tk) (ce ^^^ (2 : Int32)) n2) (ce ^^^ (8 : Int32)) n3) (ce ^^^ (5 : Int32)) n4) (ce ^^^ (3 : Int32)) n5) (own_f11 ce (0 : Int32)) (own_f11 ce (1 : Int32)) (own_f11 ce (2 : Int32)) tk)), .second, .val (.long ((((own_f13 n2) ||| (own_f13 n3)) ||| (own_f13 n4)) ||| (own_f13 n5))), .second, .val (.int (if (own_f14 (1 : Int32) tk ((((own_f13 n2) ||| (own_f13 n3)) ||| (own_f13 n4)) ||| (own_f13 n5))) = 0 then (if (own_f14 (2 : Int32) tk ((((own_f13 n2) ||| (own_f13 n3)) ||| (own_f13 n4)) ||| (own_f13 n5))) = 0 then (if (own_f14 (3 : Int32) tk ((((own_f13 n2) ||| (own_f13 n3)) ||| (own_f13 n4)) ||| (own_f13 n5))) = 0 then (if (own_f14 (4 : Int32) tk ((((own_f13 n2) ||| (own_f13 n3)) ||| (own_f13 n4)) ||| (own_f13 n5))) = 0 then (0 : Int32) else (4 : Int32)) else (3 : Int32)) else (2 : Int32)) else (1 : Int32))), .val (.long (own_f13 (if (own_f14 (1 : Int32) tk ((((own_f13 n2) ||| (own_f13 n3)) ||| (own_f13 n4)) ||| (own_f13 n5))) = 0 then (if (own_f14 (2 : Int32) tk ((((own_f13 n2) ||| (own_f13 n3)) ||| (own_f13 n4)) ||| (own_f13 n5))) = 0 then (if (own_f14 (3 : Int32) tk ((((own_f13 n2) ||| (own_f13 n3)) ||| (own_f13 n4)) ||| (own_f13 n5))) = 0 then (if (own_f14 (4 : Int32) tk ((((own_f13 n2) ||| (own_f13 n3)) ||| (own_f13 n4)) ||| (own_f13 n5))) = 0 then (0 : Int32) else (4 : Int32)) else (3 : Int32)) else (2 : Int32)) else (1 : Int32)))), .second, .val (.int (own_f11 oo kd)), .val (.long u1), .second, .unset] []))
                  exact J406 _ _ (u1) X65 N65 e65 (by rw [hjJ381, own_f0_381, if_neg hc393])
              refine own_go (fun _ kk => XS.iload X57.here hx rfl (hb hby at_357) rfl (XS.iconst X57.here hx rfl (hb hby at_359) (XS.ixor X57.here hx rfl (hb hby at_360) rfl (XS.iload X57.here hx rfl (hb hby at_361) rfl kk)))) ?_
              show own_Fin _ _ _ _ _ _ _ (T57.setTop (mkF m 363 #[.val (.int p0), .val (.int p1), .val (.int p2), .val (.int p3), .val (.int p4), .val (.int p5), .val (.int ce), .val (.int oo), .val (.int kd), .val (.int qq), .val (.int tk), .val (.int n2), .val (.int n3), .val (.int n4), .val (.int n5), .val (.ref b6), .val (.long (own_f12 (((1 : Int64) <<< (((5 : Int32)) &&& 0x3f).toInt64) - (2 : Int64)) (own_plc (own_plc (own_plc (own_plc (own_plc (List.replicate 12 (0 : Int64)) ce tk) (ce ^^^ (2 : Int32)) n2) (ce ^^^ (8 : Int32)) n3) (ce ^^^ (5 : Int32)) n4) (ce ^^^ (3 : Int32)) n5) (own_f11 ce (0 : Int32)) (own_f11 ce (1 : Int32)) (own_f11 ce (2 : Int32)) tk)), .second, .val (.long ((((own_f13 n2) ||| (own_f13 n3)) ||| (own_f13 n4)) ||| (own_f13 n5))), .second, .val (.int (if (own_f14 (1 : Int32) tk ((((own_f13 n2) ||| (own_f13 n3)) ||| (own_f13 n4)) ||| (own_f13 n5))) = 0 then (if (own_f14 (2 : Int32) tk ((((own_f13 n2) ||| (own_f13 n3)) ||| (own_f13 n4)) ||| (own_f13 n5))) = 0 then (if (own_f14 (3 : Int32) tk ((((own_f13 n2) ||| (own_f13 n3)) ||| (own_f13 n4)) ||| (own_f13 n5))) = 0 then (if (own_f14 (4 : Int32) tk ((((own_f13 n2) ||| (own_f13 n3)) ||| (own_f13 n4)) ||| (own_f13 n5))) = 0 then (0 : Int32) else (4 : Int32)) else (3 : Int32)) else (2 : Int32)) else (1 : Int32))), .val (.long (own_f13 (if (own_f14 (1 : Int32) tk ((((own_f13 n2) ||| (own_f13 n3)) ||| (own_f13 n4)) ||| (own_f13 n5))) = 0 then (if (own_f14 (2 : Int32) tk ((((own_f13 n2) ||| (own_f13 n3)) ||| (own_f13 n4)) ||| (own_f13 n5))) = 0 then (if (own_f14 (3 : Int32) tk ((((own_f13 n2) ||| (own_f13 n3)) ||| (own_f13 n4)) ||| (own_f13 n5))) = 0 then (if (own_f14 (4 : Int32) tk ((((own_f13 n2) ||| (own_f13 n3)) ||| (own_f13 n4)) ||| (own_f13 n5))) = 0 then (0 : Int32) else (4 : Int32)) else (3 : Int32)) else (2 : Int32)) else (1 : Int32)))), .second, .val (.int (own_f11 oo kd)), .val (.long (if (own_f11 ce kd) = (own_f11 oo kd) then ((0 : Int64) ||| (own_f13 (if (own_f14 (1 : Int32) tk ((((own_f13 n2) ||| (own_f13 n3)) ||| (own_f13 n4)) ||| (own_f13 n5))) = 0 then (if (own_f14 (2 : Int32) tk ((((own_f13 n2) ||| (own_f13 n3)) ||| (own_f13 n4)) ||| (own_f13 n5))) = 0 then (if (own_f14 (3 : Int32) tk ((((own_f13 n2) ||| (own_f13 n3)) ||| (own_f13 n4)) ||| (own_f13 n5))) = 0 then (if (own_f14 (4 : Int32) tk ((((own_f13 n2) ||| (own_f13 n3)) ||| (own_f13 n4)) ||| (own_f13 n5))) = 0 then (0 : Int32) else (4 : Int32)) else (3 : Int32)) else (2 : Int32)) else (1 : Int32)))) else (0 : Int64))), .second, .unset] [(.int kd), (.int (ce ^^^ (2 : Int32)))]))
              refine own_callS X57 hx hZ hown (hw _ (List.mem_of_getElem? (i := 82) rfl)) (hw _ (List.mem_of_getElem? (i := 83) rfl)) (hw _ (List.mem_of_getElem? (i := 2) rfl)) (hw _ (List.mem_of_getElem? (i := 84) rfl)) (by decide) (rm11 l Z a0 hw (ce ^^^ (2 : Int32)) kd T37.heap n0 Z37) e57 (argsL := [(.int (ce ^^^ (2 : Int32))), (.int kd)]) (rest := []) rfl rfl (by rw [hml]; rfl) (lenOf pd_0_3 rfl) (hb hby at_363) (W := 0) (Nat.le_of_eq rfl) (by decide) (by decide) (by decide) (by decide) ?_
              rintro v67 T67 L67 X67 ⟨rfl, M67, e67⟩
              have N67 := Fr.app N57 M67
              show own_Fin _ _ _ _ _ _ _ (T67.setTop (mkF m 366 #[.val (.int p0), .val (.int p1), .val (.int p2), .val (.int p3), .val (.int p4), .val (.int p5), .val (.int ce), .val (.int oo), .val (.int kd), .val (.int qq), .val (.int tk), .val (.int n2), .val (.int n3), .val (.int n4), .val (.int n5), .val (.ref b6), .val (.long (own_f12 (((1 : Int64) <<< (((5 : Int32)) &&& 0x3f).toInt64) - (2 : Int64)) (own_plc (own_plc (own_plc (own_plc (own_plc (List.replicate 12 (0 : Int64)) ce tk) (ce ^^^ (2 : Int32)) n2) (ce ^^^ (8 : Int32)) n3) (ce ^^^ (5 : Int32)) n4) (ce ^^^ (3 : Int32)) n5) (own_f11 ce (0 : Int32)) (own_f11 ce (1 : Int32)) (own_f11 ce (2 : Int32)) tk)), .second, .val (.long ((((own_f13 n2) ||| (own_f13 n3)) ||| (own_f13 n4)) ||| (own_f13 n5))), .second, .val (.int (if (own_f14 (1 : Int32) tk ((((own_f13 n2) ||| (own_f13 n3)) ||| (own_f13 n4)) ||| (own_f13 n5))) = 0 then (if (own_f14 (2 : Int32) tk ((((own_f13 n2) ||| (own_f13 n3)) ||| (own_f13 n4)) ||| (own_f13 n5))) = 0 then (if (own_f14 (3 : Int32) tk ((((own_f13 n2) ||| (own_f13 n3)) ||| (own_f13 n4)) ||| (own_f13 n5))) = 0 then (if (own_f14 (4 : Int32) tk ((((own_f13 n2) ||| (own_f13 n3)) ||| (own_f13 n4)) ||| (own_f13 n5))) = 0 then (0 : Int32) else (4 : Int32)) else (3 : Int32)) else (2 : Int32)) else (1 : Int32))), .val (.long (own_f13 (if (own_f14 (1 : Int32) tk ((((own_f13 n2) ||| (own_f13 n3)) ||| (own_f13 n4)) ||| (own_f13 n5))) = 0 then (if (own_f14 (2 : Int32) tk ((((own_f13 n2) ||| (own_f13 n3)) ||| (own_f13 n4)) ||| (own_f13 n5))) = 0 then (if (own_f14 (3 : Int32) tk ((((own_f13 n2) ||| (own_f13 n3)) ||| (own_f13 n4)) ||| (own_f13 n5))) = 0 then (if (own_f14 (4 : Int32) tk ((((own_f13 n2) ||| (own_f13 n3)) ||| (own_f13 n4)) ||| (own_f13 n5))) = 0 then (0 : Int32) else (4 : Int32)) else (3 : Int32)) else (2 : Int32)) else (1 : Int32)))), .second, .val (.int (own_f11 oo kd)), .val (.long (if (own_f11 ce kd) = (own_f11 oo kd) then ((0 : Int64) ||| (own_f13 (if (own_f14 (1 : Int32) tk ((((own_f13 n2) ||| (own_f13 n3)) ||| (own_f13 n4)) ||| (own_f13 n5))) = 0 then (if (own_f14 (2 : Int32) tk ((((own_f13 n2) ||| (own_f13 n3)) ||| (own_f13 n4)) ||| (own_f13 n5))) = 0 then (if (own_f14 (3 : Int32) tk ((((own_f13 n2) ||| (own_f13 n3)) ||| (own_f13 n4)) ||| (own_f13 n5))) = 0 then (if (own_f14 (4 : Int32) tk ((((own_f13 n2) ||| (own_f13 n3)) ||| (own_f13 n4)) ||| (own_f13 n5))) = 0 then (0 : Int32) else (4 : Int32)) else (3 : Int32)) else (2 : Int32)) else (1 : Int32)))) else (0 : Int64))), .second, .unset] [(.int (own_f11 (ce ^^^ (2 : Int32)) kd))]))
              refine own_go (fun _ kk => XS.iload X67.here hx rfl (hb hby at_366) rfl kk) ?_
              show own_Fin _ _ _ _ _ _ _ (T67.setTop (mkF m 368 #[.val (.int p0), .val (.int p1), .val (.int p2), .val (.int p3), .val (.int p4), .val (.int p5), .val (.int ce), .val (.int oo), .val (.int kd), .val (.int qq), .val (.int tk), .val (.int n2), .val (.int n3), .val (.int n4), .val (.int n5), .val (.ref b6), .val (.long (own_f12 (((1 : Int64) <<< (((5 : Int32)) &&& 0x3f).toInt64) - (2 : Int64)) (own_plc (own_plc (own_plc (own_plc (own_plc (List.replicate 12 (0 : Int64)) ce tk) (ce ^^^ (2 : Int32)) n2) (ce ^^^ (8 : Int32)) n3) (ce ^^^ (5 : Int32)) n4) (ce ^^^ (3 : Int32)) n5) (own_f11 ce (0 : Int32)) (own_f11 ce (1 : Int32)) (own_f11 ce (2 : Int32)) tk)), .second, .val (.long ((((own_f13 n2) ||| (own_f13 n3)) ||| (own_f13 n4)) ||| (own_f13 n5))), .second, .val (.int (if (own_f14 (1 : Int32) tk ((((own_f13 n2) ||| (own_f13 n3)) ||| (own_f13 n4)) ||| (own_f13 n5))) = 0 then (if (own_f14 (2 : Int32) tk ((((own_f13 n2) ||| (own_f13 n3)) ||| (own_f13 n4)) ||| (own_f13 n5))) = 0 then (if (own_f14 (3 : Int32) tk ((((own_f13 n2) ||| (own_f13 n3)) ||| (own_f13 n4)) ||| (own_f13 n5))) = 0 then (if (own_f14 (4 : Int32) tk ((((own_f13 n2) ||| (own_f13 n3)) ||| (own_f13 n4)) ||| (own_f13 n5))) = 0 then (0 : Int32) else (4 : Int32)) else (3 : Int32)) else (2 : Int32)) else (1 : Int32))), .val (.long (own_f13 (if (own_f14 (1 : Int32) tk ((((own_f13 n2) ||| (own_f13 n3)) ||| (own_f13 n4)) ||| (own_f13 n5))) = 0 then (if (own_f14 (2 : Int32) tk ((((own_f13 n2) ||| (own_f13 n3)) ||| (own_f13 n4)) ||| (own_f13 n5))) = 0 then (if (own_f14 (3 : Int32) tk ((((own_f13 n2) ||| (own_f13 n3)) ||| (own_f13 n4)) ||| (own_f13 n5))) = 0 then (if (own_f14 (4 : Int32) tk ((((own_f13 n2) ||| (own_f13 n3)) ||| (own_f13 n4)) ||| (own_f13 n5))) = 0 then (0 : Int32) else (4 : Int32)) else (3 : Int32)) else (2 : Int32)) else (1 : Int32)))), .second, .val (.int (own_f11 oo kd)), .val (.long (if (own_f11 ce kd) = (own_f11 oo kd) then ((0 : Int64) ||| (own_f13 (if (own_f14 (1 : Int32) tk ((((own_f13 n2) ||| (own_f13 n3)) ||| (own_f13 n4)) ||| (own_f13 n5))) = 0 then (if (own_f14 (2 : Int32) tk ((((own_f13 n2) ||| (own_f13 n3)) ||| (own_f13 n4)) ||| (own_f13 n5))) = 0 then (if (own_f14 (3 : Int32) tk ((((own_f13 n2) ||| (own_f13 n3)) ||| (own_f13 n4)) ||| (own_f13 n5))) = 0 then (if (own_f14 (4 : Int32) tk ((((own_f13 n2) ||| (own_f13 n3)) ||| (own_f13 n4)) ||| (own_f13 n5))) = 0 then (0 : Int32) else (4 : Int32)) else (3 : Int32)) else (2 : Int32)) else (1 : Int32)))) else (0 : Int64))), .second, .unset] [(.int (own_f11 oo kd)), (.int (own_f11 (ce ^^^ (2 : Int32)) kd))]))
              by_cases hc368 : (own_f11 (ce ^^^ (2 : Int32)) kd) = (own_f11 oo kd)
              · refine own_go (fun _ kk => XS.icmpNo X67.here hx rfl (hb hby at_368) rfl (XT.ii_ne_f hc368) (XS.lload X67.here hx rfl (hb hby at_371) rfl (XS.iload X67.here hx rfl (hb hby at_373) rfl kk))) ?_
                show own_Fin _ _ _ _ _ _ _ (T67.setTop (mkF m 375 #[.val (.int p0), .val (.int p1), .val (.int p2), .val (.int p3), .val (.int p4), .val (.int p5), .val (.int ce), .val (.int oo), .val (.int kd), .val (.int qq), .val (.int tk), .val (.int n2), .val (.int n3), .val (.int n4), .val (.int n5), .val (.ref b6), .val (.long (own_f12 (((1 : Int64) <<< (((5 : Int32)) &&& 0x3f).toInt64) - (2 : Int64)) (own_plc (own_plc (own_plc (own_plc (own_plc (List.replicate 12 (0 : Int64)) ce tk) (ce ^^^ (2 : Int32)) n2) (ce ^^^ (8 : Int32)) n3) (ce ^^^ (5 : Int32)) n4) (ce ^^^ (3 : Int32)) n5) (own_f11 ce (0 : Int32)) (own_f11 ce (1 : Int32)) (own_f11 ce (2 : Int32)) tk)), .second, .val (.long ((((own_f13 n2) ||| (own_f13 n3)) ||| (own_f13 n4)) ||| (own_f13 n5))), .second, .val (.int (if (own_f14 (1 : Int32) tk ((((own_f13 n2) ||| (own_f13 n3)) ||| (own_f13 n4)) ||| (own_f13 n5))) = 0 then (if (own_f14 (2 : Int32) tk ((((own_f13 n2) ||| (own_f13 n3)) ||| (own_f13 n4)) ||| (own_f13 n5))) = 0 then (if (own_f14 (3 : Int32) tk ((((own_f13 n2) ||| (own_f13 n3)) ||| (own_f13 n4)) ||| (own_f13 n5))) = 0 then (if (own_f14 (4 : Int32) tk ((((own_f13 n2) ||| (own_f13 n3)) ||| (own_f13 n4)) ||| (own_f13 n5))) = 0 then (0 : Int32) else (4 : Int32)) else (3 : Int32)) else (2 : Int32)) else (1 : Int32))), .val (.long (own_f13 (if (own_f14 (1 : Int32) tk ((((own_f13 n2) ||| (own_f13 n3)) ||| (own_f13 n4)) ||| (own_f13 n5))) = 0 then (if (own_f14 (2 : Int32) tk ((((own_f13 n2) ||| (own_f13 n3)) ||| (own_f13 n4)) ||| (own_f13 n5))) = 0 then (if (own_f14 (3 : Int32) tk ((((own_f13 n2) ||| (own_f13 n3)) ||| (own_f13 n4)) ||| (own_f13 n5))) = 0 then (if (own_f14 (4 : Int32) tk ((((own_f13 n2) ||| (own_f13 n3)) ||| (own_f13 n4)) ||| (own_f13 n5))) = 0 then (0 : Int32) else (4 : Int32)) else (3 : Int32)) else (2 : Int32)) else (1 : Int32)))), .second, .val (.int (own_f11 oo kd)), .val (.long (if (own_f11 ce kd) = (own_f11 oo kd) then ((0 : Int64) ||| (own_f13 (if (own_f14 (1 : Int32) tk ((((own_f13 n2) ||| (own_f13 n3)) ||| (own_f13 n4)) ||| (own_f13 n5))) = 0 then (if (own_f14 (2 : Int32) tk ((((own_f13 n2) ||| (own_f13 n3)) ||| (own_f13 n4)) ||| (own_f13 n5))) = 0 then (if (own_f14 (3 : Int32) tk ((((own_f13 n2) ||| (own_f13 n3)) ||| (own_f13 n4)) ||| (own_f13 n5))) = 0 then (if (own_f14 (4 : Int32) tk ((((own_f13 n2) ||| (own_f13 n3)) ||| (own_f13 n4)) ||| (own_f13 n5))) = 0 then (0 : Int32) else (4 : Int32)) else (3 : Int32)) else (2 : Int32)) else (1 : Int32)))) else (0 : Int64))), .second, .unset] [(.int n2), (.long (if (own_f11 ce kd) = (own_f11 oo kd) then ((0 : Int64) ||| (own_f13 (if (own_f14 (1 : Int32) tk ((((own_f13 n2) ||| (own_f13 n3)) ||| (own_f13 n4)) ||| (own_f13 n5))) = 0 then (if (own_f14 (2 : Int32) tk ((((own_f13 n2) ||| (own_f13 n3)) ||| (own_f13 n4)) ||| (own_f13 n5))) = 0 then (if (own_f14 (3 : Int32) tk ((((own_f13 n2) ||| (own_f13 n3)) ||| (own_f13 n4)) ||| (own_f13 n5))) = 0 then (if (own_f14 (4 : Int32) tk ((((own_f13 n2) ||| (own_f13 n3)) ||| (own_f13 n4)) ||| (own_f13 n5))) = 0 then (0 : Int32) else (4 : Int32)) else (3 : Int32)) else (2 : Int32)) else (1 : Int32)))) else (0 : Int64)))]))
                refine own_callS X67 hx hZ hown (hw _ (List.mem_of_getElem? (i := 91) rfl)) (hw _ (List.mem_of_getElem? (i := 92) rfl)) (hw _ (List.mem_of_getElem? (i := 2) rfl)) (hw _ (List.mem_of_getElem? (i := 93) rfl)) (by decide) (rm13 l Z a0 hw n2 T37.heap n0 Z37) e67 (argsL := [(.int n2)]) (rest := [(.long (if (own_f11 ce kd) = (own_f11 oo kd) then ((0 : Int64) ||| (own_f13 (if (own_f14 (1 : Int32) tk ((((own_f13 n2) ||| (own_f13 n3)) ||| (own_f13 n4)) ||| (own_f13 n5))) = 0 then (if (own_f14 (2 : Int32) tk ((((own_f13 n2) ||| (own_f13 n3)) ||| (own_f13 n4)) ||| (own_f13 n5))) = 0 then (if (own_f14 (3 : Int32) tk ((((own_f13 n2) ||| (own_f13 n3)) ||| (own_f13 n4)) ||| (own_f13 n5))) = 0 then (if (own_f14 (4 : Int32) tk ((((own_f13 n2) ||| (own_f13 n3)) ||| (own_f13 n4)) ||| (own_f13 n5))) = 0 then (0 : Int32) else (4 : Int32)) else (3 : Int32)) else (2 : Int32)) else (1 : Int32)))) else (0 : Int64)))]) rfl rfl (by rw [hml]; rfl) (lenOf pd_0_5 rfl) (hb hby at_375) (W := 2) (Nat.le_of_eq rfl) (by decide) (by decide) (by decide) (by decide) ?_
                rintro v68 T68 L68 X68 ⟨rfl, M68, e68⟩
                have N68 := Fr.app N67 M68
                show own_Fin _ _ _ _ _ _ _ (T68.setTop (mkF m 378 #[.val (.int p0), .val (.int p1), .val (.int p2), .val (.int p3), .val (.int p4), .val (.int p5), .val (.int ce), .val (.int oo), .val (.int kd), .val (.int qq), .val (.int tk), .val (.int n2), .val (.int n3), .val (.int n4), .val (.int n5), .val (.ref b6), .val (.long (own_f12 (((1 : Int64) <<< (((5 : Int32)) &&& 0x3f).toInt64) - (2 : Int64)) (own_plc (own_plc (own_plc (own_plc (own_plc (List.replicate 12 (0 : Int64)) ce tk) (ce ^^^ (2 : Int32)) n2) (ce ^^^ (8 : Int32)) n3) (ce ^^^ (5 : Int32)) n4) (ce ^^^ (3 : Int32)) n5) (own_f11 ce (0 : Int32)) (own_f11 ce (1 : Int32)) (own_f11 ce (2 : Int32)) tk)), .second, .val (.long ((((own_f13 n2) ||| (own_f13 n3)) ||| (own_f13 n4)) ||| (own_f13 n5))), .second, .val (.int (if (own_f14 (1 : Int32) tk ((((own_f13 n2) ||| (own_f13 n3)) ||| (own_f13 n4)) ||| (own_f13 n5))) = 0 then (if (own_f14 (2 : Int32) tk ((((own_f13 n2) ||| (own_f13 n3)) ||| (own_f13 n4)) ||| (own_f13 n5))) = 0 then (if (own_f14 (3 : Int32) tk ((((own_f13 n2) ||| (own_f13 n3)) ||| (own_f13 n4)) ||| (own_f13 n5))) = 0 then (if (own_f14 (4 : Int32) tk ((((own_f13 n2) ||| (own_f13 n3)) ||| (own_f13 n4)) ||| (own_f13 n5))) = 0 then (0 : Int32) else (4 : Int32)) else (3 : Int32)) else (2 : Int32)) else (1 : Int32))), .val (.long (own_f13 (if (own_f14 (1 : Int32) tk ((((own_f13 n2) ||| (own_f13 n3)) ||| (own_f13 n4)) ||| (own_f13 n5))) = 0 then (if (own_f14 (2 : Int32) tk ((((own_f13 n2) ||| (own_f13 n3)) ||| (own_f13 n4)) ||| (own_f13 n5))) = 0 then (if (own_f14 (3 : Int32) tk ((((own_f13 n2) ||| (own_f13 n3)) ||| (own_f13 n4)) ||| (own_f13 n5))) = 0 then (if (own_f14 (4 : Int32) tk ((((own_f13 n2) ||| (own_f13 n3)) ||| (own_f13 n4)) ||| (own_f13 n5))) = 0 then (0 : Int32) else (4 : Int32)) else (3 : Int32)) else (2 : Int32)) else (1 : Int32)))), .second, .val (.int (own_f11 oo kd)), .val (.long (if (own_f11 ce kd) = (own_f11 oo kd) then ((0 : Int64) ||| (own_f13 (if (own_f14 (1 : Int32) tk ((((own_f13 n2) ||| (own_f13 n3)) ||| (own_f13 n4)) ||| (own_f13 n5))) = 0 then (if (own_f14 (2 : Int32) tk ((((own_f13 n2) ||| (own_f13 n3)) ||| (own_f13 n4)) ||| (own_f13 n5))) = 0 then (if (own_f14 (3 : Int32) tk ((((own_f13 n2) ||| (own_f13 n3)) ||| (own_f13 n4)) ||| (own_f13 n5))) = 0 then (if (own_f14 (4 : Int32) tk ((((own_f13 n2) ||| (own_f13 n3)) ||| (own_f13 n4)) ||| (own_f13 n5))) = 0 then (0 : Int32) else (4 : Int32)) else (3 : Int32)) else (2 : Int32)) else (1 : Int32)))) else (0 : Int64))), .second, .unset] [(.long (own_f13 n2)), (.long (if (own_f11 ce kd) = (own_f11 oo kd) then ((0 : Int64) ||| (own_f13 (if (own_f14 (1 : Int32) tk ((((own_f13 n2) ||| (own_f13 n3)) ||| (own_f13 n4)) ||| (own_f13 n5))) = 0 then (if (own_f14 (2 : Int32) tk ((((own_f13 n2) ||| (own_f13 n3)) ||| (own_f13 n4)) ||| (own_f13 n5))) = 0 then (if (own_f14 (3 : Int32) tk ((((own_f13 n2) ||| (own_f13 n3)) ||| (own_f13 n4)) ||| (own_f13 n5))) = 0 then (if (own_f14 (4 : Int32) tk ((((own_f13 n2) ||| (own_f13 n3)) ||| (own_f13 n4)) ||| (own_f13 n5))) = 0 then (0 : Int32) else (4 : Int32)) else (3 : Int32)) else (2 : Int32)) else (1 : Int32)))) else (0 : Int64)))]))
                refine own_go (fun _ kk => XS.lor X68.here hx rfl (hb hby at_378) rfl (XS.lstore X68.here hx rfl (hb hby at_379) rfl (l' := #[.val (.int p0), .val (.int p1), .val (.int p2), .val (.int p3), .val (.int p4), .val (.int p5), .val (.int ce), .val (.int oo), .val (.int kd), .val (.int qq), .val (.int tk), .val (.int n2), .val (.int n3), .val (.int n4), .val (.int n5), .val (.ref b6), .val (.long (own_f12 (((1 : Int64) <<< (((5 : Int32)) &&& 0x3f).toInt64) - (2 : Int64)) (own_plc (own_plc (own_plc (own_plc (own_plc (List.replicate 12 (0 : Int64)) ce tk) (ce ^^^ (2 : Int32)) n2) (ce ^^^ (8 : Int32)) n3) (ce ^^^ (5 : Int32)) n4) (ce ^^^ (3 : Int32)) n5) (own_f11 ce (0 : Int32)) (own_f11 ce (1 : Int32)) (own_f11 ce (2 : Int32)) tk)), .second, .val (.long ((((own_f13 n2) ||| (own_f13 n3)) ||| (own_f13 n4)) ||| (own_f13 n5))), .second, .val (.int (if (own_f14 (1 : Int32) tk ((((own_f13 n2) ||| (own_f13 n3)) ||| (own_f13 n4)) ||| (own_f13 n5))) = 0 then (if (own_f14 (2 : Int32) tk ((((own_f13 n2) ||| (own_f13 n3)) ||| (own_f13 n4)) ||| (own_f13 n5))) = 0 then (if (own_f14 (3 : Int32) tk ((((own_f13 n2) ||| (own_f13 n3)) ||| (own_f13 n4)) ||| (own_f13 n5))) = 0 then (if (own_f14 (4 : Int32) tk ((((own_f13 n2) ||| (own_f13 n3)) ||| (own_f13 n4)) ||| (own_f13 n5))) = 0 then (0 : Int32) else (4 : Int32)) else (3 : Int32)) else (2 : Int32)) else (1 : Int32))), .val (.long (own_f13 (if (own_f14 (1 : Int32) tk ((((own_f13 n2) ||| (own_f13 n3)) ||| (own_f13 n4)) ||| (own_f13 n5))) = 0 then (if (own_f14 (2 : Int32) tk ((((own_f13 n2) ||| (own_f13 n3)) ||| (own_f13 n4)) ||| (own_f13 n5))) = 0 then (if (own_f14 (3 : Int32) tk ((((own_f13 n2) ||| (own_f13 n3)) ||| (own_f13 n4)) ||| (own_f13 n5))) = 0 then (if (own_f14 (4 : Int32) tk ((((own_f13 n2) ||| (own_f13 n3)) ||| (own_f13 n4)) ||| (own_f13 n5))) = 0 then (0 : Int32) else (4 : Int32)) else (3 : Int32)) else (2 : Int32)) else (1 : Int32)))), .second, .val (.int (own_f11 oo kd)), .val (.long ((if (own_f11 ce kd) = (own_f11 oo kd) then ((0 : Int64) ||| (own_f13 (if (own_f14 (1 : Int32) tk ((((own_f13 n2) ||| (own_f13 n3)) ||| (own_f13 n4)) ||| (own_f13 n5))) = 0 then (if (own_f14 (2 : Int32) tk ((((own_f13 n2) ||| (own_f13 n3)) ||| (own_f13 n4)) ||| (own_f13 n5))) = 0 then (if (own_f14 (3 : Int32) tk ((((own_f13 n2) ||| (own_f13 n3)) ||| (own_f13 n4)) ||| (own_f13 n5))) = 0 then (if (own_f14 (4 : Int32) tk ((((own_f13 n2) ||| (own_f13 n3)) ||| (own_f13 n4)) ||| (own_f13 n5))) = 0 then (0 : Int32) else (4 : Int32)) else (3 : Int32)) else (2 : Int32)) else (1 : Int32)))) else (0 : Int64)) ||| (own_f13 n2))), .second, .unset]) rfl kk)) ?_
                show own_Fin _ _ _ _ _ _ _ (T68.setTop (mkF m 381 #[.val (.int p0), .val (.int p1), .val (.int p2), .val (.int p3), .val (.int p4), .val (.int p5), .val (.int ce), .val (.int oo), .val (.int kd), .val (.int qq), .val (.int tk), .val (.int n2), .val (.int n3), .val (.int n4), .val (.int n5), .val (.ref b6), .val (.long (own_f12 (((1 : Int64) <<< (((5 : Int32)) &&& 0x3f).toInt64) - (2 : Int64)) (own_plc (own_plc (own_plc (own_plc (own_plc (List.replicate 12 (0 : Int64)) ce tk) (ce ^^^ (2 : Int32)) n2) (ce ^^^ (8 : Int32)) n3) (ce ^^^ (5 : Int32)) n4) (ce ^^^ (3 : Int32)) n5) (own_f11 ce (0 : Int32)) (own_f11 ce (1 : Int32)) (own_f11 ce (2 : Int32)) tk)), .second, .val (.long ((((own_f13 n2) ||| (own_f13 n3)) ||| (own_f13 n4)) ||| (own_f13 n5))), .second, .val (.int (if (own_f14 (1 : Int32) tk ((((own_f13 n2) ||| (own_f13 n3)) ||| (own_f13 n4)) ||| (own_f13 n5))) = 0 then (if (own_f14 (2 : Int32) tk ((((own_f13 n2) ||| (own_f13 n3)) ||| (own_f13 n4)) ||| (own_f13 n5))) = 0 then (if (own_f14 (3 : Int32) tk ((((own_f13 n2) ||| (own_f13 n3)) ||| (own_f13 n4)) ||| (own_f13 n5))) = 0 then (if (own_f14 (4 : Int32) tk ((((own_f13 n2) ||| (own_f13 n3)) ||| (own_f13 n4)) ||| (own_f13 n5))) = 0 then (0 : Int32) else (4 : Int32)) else (3 : Int32)) else (2 : Int32)) else (1 : Int32))), .val (.long (own_f13 (if (own_f14 (1 : Int32) tk ((((own_f13 n2) ||| (own_f13 n3)) ||| (own_f13 n4)) ||| (own_f13 n5))) = 0 then (if (own_f14 (2 : Int32) tk ((((own_f13 n2) ||| (own_f13 n3)) ||| (own_f13 n4)) ||| (own_f13 n5))) = 0 then (if (own_f14 (3 : Int32) tk ((((own_f13 n2) ||| (own_f13 n3)) ||| (own_f13 n4)) ||| (own_f13 n5))) = 0 then (if (own_f14 (4 : Int32) tk ((((own_f13 n2) ||| (own_f13 n3)) ||| (own_f13 n4)) ||| (own_f13 n5))) = 0 then (0 : Int32) else (4 : Int32)) else (3 : Int32)) else (2 : Int32)) else (1 : Int32)))), .second, .val (.int (own_f11 oo kd)), .val (.long ((if (own_f11 ce kd) = (own_f11 oo kd) then ((0 : Int64) ||| (own_f13 (if (own_f14 (1 : Int32) tk ((((own_f13 n2) ||| (own_f13 n3)) ||| (own_f13 n4)) ||| (own_f13 n5))) = 0 then (if (own_f14 (2 : Int32) tk ((((own_f13 n2) ||| (own_f13 n3)) ||| (own_f13 n4)) ||| (own_f13 n5))) = 0 then (if (own_f14 (3 : Int32) tk ((((own_f13 n2) ||| (own_f13 n3)) ||| (own_f13 n4)) ||| (own_f13 n5))) = 0 then (if (own_f14 (4 : Int32) tk ((((own_f13 n2) ||| (own_f13 n3)) ||| (own_f13 n4)) ||| (own_f13 n5))) = 0 then (0 : Int32) else (4 : Int32)) else (3 : Int32)) else (2 : Int32)) else (1 : Int32)))) else (0 : Int64)) ||| (own_f13 n2))), .second, .unset] []))
                exact J381 _ _ (((if (own_f11 ce kd) = (own_f11 oo kd) then ((0 : Int64) ||| (own_f13 (if (own_f14 (1 : Int32) tk ((((own_f13 n2) ||| (own_f13 n3)) ||| (own_f13 n4)) ||| (own_f13 n5))) = 0 then (if (own_f14 (2 : Int32) tk ((((own_f13 n2) ||| (own_f13 n3)) ||| (own_f13 n4)) ||| (own_f13 n5))) = 0 then (if (own_f14 (3 : Int32) tk ((((own_f13 n2) ||| (own_f13 n3)) ||| (own_f13 n4)) ||| (own_f13 n5))) = 0 then (if (own_f14 (4 : Int32) tk ((((own_f13 n2) ||| (own_f13 n3)) ||| (own_f13 n4)) ||| (own_f13 n5))) = 0 then (0 : Int32) else (4 : Int32)) else (3 : Int32)) else (2 : Int32)) else (1 : Int32)))) else (0 : Int64)) ||| (own_f13 n2))) X68 N68 e68 (by rw [hjJ112, own_f0_112, if_pos hc368])
              · refine own_go (fun _ kk => XS.icmpYes X67.here hx rfl (pc0 := 368) (pc' := 381) rfl (hb hby at_368) rfl (XT.ii_ne_t hc368) (by decide) (by decide) kk) ?_
                show own_Fin _ _ _ _ _ _ _ (T67.setTop (mkF m 381 #[.val (.int p0), .val (.int p1), .val (.int p2), .val (.int p3), .val (.int p4), .val (.int p5), .val (.int ce), .val (.int oo), .val (.int kd), .val (.int qq), .val (.int tk), .val (.int n2), .val (.int n3), .val (.int n4), .val (.int n5), .val (.ref b6), .val (.long (own_f12 (((1 : Int64) <<< (((5 : Int32)) &&& 0x3f).toInt64) - (2 : Int64)) (own_plc (own_plc (own_plc (own_plc (own_plc (List.replicate 12 (0 : Int64)) ce tk) (ce ^^^ (2 : Int32)) n2) (ce ^^^ (8 : Int32)) n3) (ce ^^^ (5 : Int32)) n4) (ce ^^^ (3 : Int32)) n5) (own_f11 ce (0 : Int32)) (own_f11 ce (1 : Int32)) (own_f11 ce (2 : Int32)) tk)), .second, .val (.long ((((own_f13 n2) ||| (own_f13 n3)) ||| (own_f13 n4)) ||| (own_f13 n5))), .second, .val (.int (if (own_f14 (1 : Int32) tk ((((own_f13 n2) ||| (own_f13 n3)) ||| (own_f13 n4)) ||| (own_f13 n5))) = 0 then (if (own_f14 (2 : Int32) tk ((((own_f13 n2) ||| (own_f13 n3)) ||| (own_f13 n4)) ||| (own_f13 n5))) = 0 then (if (own_f14 (3 : Int32) tk ((((own_f13 n2) ||| (own_f13 n3)) ||| (own_f13 n4)) ||| (own_f13 n5))) = 0 then (if (own_f14 (4 : Int32) tk ((((own_f13 n2) ||| (own_f13 n3)) ||| (own_f13 n4)) ||| (own_f13 n5))) = 0 then (0 : Int32) else (4 : Int32)) else (3 : Int32)) else (2 : Int32)) else (1 : Int32))), .val (.long (own_f13 (if (own_f14 (1 : Int32) tk ((((own_f13 n2) ||| (own_f13 n3)) ||| (own_f13 n4)) ||| (own_f13 n5))) = 0 then (if (own_f14 (2 : Int32) tk ((((own_f13 n2) ||| (own_f13 n3)) ||| (own_f13 n4)) ||| (own_f13 n5))) = 0 then (if (own_f14 (3 : Int32) tk ((((own_f13 n2) ||| (own_f13 n3)) ||| (own_f13 n4)) ||| (own_f13 n5))) = 0 then (if (own_f14 (4 : Int32) tk ((((own_f13 n2) ||| (own_f13 n3)) ||| (own_f13 n4)) ||| (own_f13 n5))) = 0 then (0 : Int32) else (4 : Int32)) else (3 : Int32)) else (2 : Int32)) else (1 : Int32)))), .second, .val (.int (own_f11 oo kd)), .val (.long (if (own_f11 ce kd) = (own_f11 oo kd) then ((0 : Int64) ||| (own_f13 (if (own_f14 (1 : Int32) tk ((((own_f13 n2) ||| (own_f13 n3)) ||| (own_f13 n4)) ||| (own_f13 n5))) = 0 then (if (own_f14 (2 : Int32) tk ((((own_f13 n2) ||| (own_f13 n3)) ||| (own_f13 n4)) ||| (own_f13 n5))) = 0 then (if (own_f14 (3 : Int32) tk ((((own_f13 n2) ||| (own_f13 n3)) ||| (own_f13 n4)) ||| (own_f13 n5))) = 0 then (if (own_f14 (4 : Int32) tk ((((own_f13 n2) ||| (own_f13 n3)) ||| (own_f13 n4)) ||| (own_f13 n5))) = 0 then (0 : Int32) else (4 : Int32)) else (3 : Int32)) else (2 : Int32)) else (1 : Int32)))) else (0 : Int64))), .second, .unset] []))
                exact J381 _ _ ((if (own_f11 ce kd) = (own_f11 oo kd) then ((0 : Int64) ||| (own_f13 (if (own_f14 (1 : Int32) tk ((((own_f13 n2) ||| (own_f13 n3)) ||| (own_f13 n4)) ||| (own_f13 n5))) = 0 then (if (own_f14 (2 : Int32) tk ((((own_f13 n2) ||| (own_f13 n3)) ||| (own_f13 n4)) ||| (own_f13 n5))) = 0 then (if (own_f14 (3 : Int32) tk ((((own_f13 n2) ||| (own_f13 n3)) ||| (own_f13 n4)) ||| (own_f13 n5))) = 0 then (if (own_f14 (4 : Int32) tk ((((own_f13 n2) ||| (own_f13 n3)) ||| (own_f13 n4)) ||| (own_f13 n5))) = 0 then (0 : Int32) else (4 : Int32)) else (3 : Int32)) else (2 : Int32)) else (1 : Int32)))) else (0 : Int64))) X67 N67 e67 (by rw [hjJ112, own_f0_112, if_neg hc368])
            refine own_go (fun _ kk => XS.iload Xp192.here hx rfl (hb hby at_192) rfl kk) ?_
            show own_Fin _ _ _ _ _ _ _ (Tp192.setTop (mkF m 194 #[.val (.int p0), .val (.int p1), .val (.int p2), .val (.int p3), .val (.int p4), .val (.int p5), .val (.int ce), .val (.int oo), .val (.int kd), .val (.int qq), .val (.int tk), .val (.int n2), .val (.int n3), .val (.int n4), .val (.int n5), .val (.ref b6), .unset, .unset, .unset, .unset, .unset, .unset, .unset, .unset, .unset, .unset, .unset] [(.int n5)]))
            by_cases hc194 : n5 = 0
            · refine own_go (fun _ kk => XS.ifYes Xp192.here hx rfl (pc0 := 194) (pc' := 208) rfl (hb hby at_194) rfl (XT.i0_eq_t hc194) (by decide) (by decide) kk) ?_
              show own_Fin _ _ _ _ _ _ _ (Tp192.setTop (mkF m 208 #[.val (.int p0), .val (.int p1), .val (.int p2), .val (.int p3), .val (.int p4), .val (.int p5), .val (.int ce), .val (.int oo), .val (.int kd), .val (.int qq), .val (.int tk), .val (.int n2), .val (.int n3), .val (.int n4), .val (.int n5), .val (.ref b6), .unset, .unset, .unset, .unset, .unset, .unset, .unset, .unset, .unset, .unset, .unset] []))
              exact JP208 _ _ _ Xp192 Np192 ep192 Zp192 Kp192_0 Kp192_1 Kp192_2 Kp192_3 Kp192_4 Kp192_5 Kp192_6 Kp192_7 Kp192_8 (by rw [own_plc0 hc194]; exact Kp192_9)
            · refine own_go (fun _ kk => XS.ifNo Xp192.here hx rfl (hb hby at_194) rfl (XT.i0_eq_f hc194) (XS.aload Xp192.here hx rfl (hb hby at_197) rfl rfl (XS.iload Xp192.here hx rfl (hb hby at_199) rfl (XS.iconst Xp192.here hx rfl (hb hby at_201) (XS.ixor Xp192.here hx rfl (hb hby at_202) rfl (XS.iload Xp192.here hx rfl (hb hby at_203) rfl kk)))))) ?_
              show own_Fin _ _ _ _ _ _ _ (Tp192.setTop (mkF m 205 #[.val (.int p0), .val (.int p1), .val (.int p2), .val (.int p3), .val (.int p4), .val (.int p5), .val (.int ce), .val (.int oo), .val (.int kd), .val (.int qq), .val (.int tk), .val (.int n2), .val (.int n3), .val (.int n4), .val (.int n5), .val (.ref b6), .unset, .unset, .unset, .unset, .unset, .unset, .unset, .unset, .unset, .unset, .unset] [(.int n5), (.int (ce ^^^ (3 : Int32))), (.ref b6)]))
              refine own_callV Xp192 hx hZ hown (hw _ (List.mem_of_getElem? (i := 77) rfl)) (hw _ (List.mem_of_getElem? (i := 78) rfl)) (notFace_of_selects (args := #[]) (mvT hZ (hw _ (List.mem_of_getElem? (i := 80) rfl)))) (hw _ (List.mem_of_getElem? (i := 80) rfl)) (hw _ (List.mem_of_getElem? (i := 79) rfl)) (hw _ (List.mem_of_getElem? (i := 81) rfl)) (hw _ (List.mem_of_getElem? (i := 7) rfl)) (by decide) (rm10g2 l Z a0 hw b6 (ce ^^^ (3 : Int32)) n5 Hp192 n0 Zp192 bR bC bB hd (own_plc (own_plc (own_plc (own_plc (List.replicate 12 (0 : Int64)) ce tk) (ce ^^^ (2 : Int32)) n2) (ce ^^^ (8 : Int32)) n3) (ce ^^^ (5 : Int32)) n4) Kp192_4 Kp192_5 Kp192_6 Kp192_8 Kp192_1 Kp192_2 Kp192_3 Kp192_9 hlp192 ne_b6_hd ne_bR_hd ne_bC_hd ne_bB_hd g_hd (own_x3 h_ce).1 (own_x3 h_ce).2) ep192 Kp192_0 (argsL := [(.int (ce ^^^ (3 : Int32))), (.int n5)]) (rest := []) rfl rfl (by rw [hml]; rfl) (lenOf pd_0_8 rfl) (hb hby at_205) (W := 0) (Nat.le_of_eq rfl) (by decide) (by decide) (by decide) (by decide) ?_
              rintro v69 T69 L69 X69 ⟨rfl, M69, Kc69, VH69⟩
              have N69 := Fr.app Np192 M69
              have f70 := Kp192_0.keep Kc69
              have f71 := Kp192_1.keep Kc69 (ninS ne_bR_hd nin0)
              have f72 := Kp192_2.keep Kc69 (ninS ne_bC_hd nin0)
              have f73 := Kp192_3.keep Kc69 (ninS ne_bB_hd nin0)
              have f74 := Kp192_4.keep Kc69 (ninS ne_b6_hd nin0)
              have f75 := Kp192_5.keep Kc69 (ninS ne_b6_hd nin0)
              have f76 := Kp192_6.keep Kc69 (ninS ne_b6_hd nin0)
              have f77 := Kp192_7.keep Kc69 (ninS ne_b6_hd nin0)
              have f78 := Kp192_8.keep Kc69 (ninS ne_b6_hd nin0)
              have Z69 := Nat.le_trans Zp192 Kc69.1
              have hl69 : (own_pl2 (own_plc (own_plc (own_plc (own_plc (List.replicate 12 (0 : Int64)) ce tk) (ce ^^^ (2 : Int32)) n2) (ce ^^^ (8 : Int32)) n3) (ce ^^^ (5 : Int32)) n4) (ce ^^^ (3 : Int32)) ((1 : Int64) <<< (n5 &&& 0x3f).toInt64)).length = 12 := (own_pllen2 _ _ _).trans hlp192
              show own_Fin _ _ _ _ _ _ _ (T69.setTop (mkF m 208 #[.val (.int p0), .val (.int p1), .val (.int p2), .val (.int p3), .val (.int p4), .val (.int p5), .val (.int ce), .val (.int oo), .val (.int kd), .val (.int qq), .val (.int tk), .val (.int n2), .val (.int n3), .val (.int n4), .val (.int n5), .val (.ref b6), .unset, .unset, .unset, .unset, .unset, .unset, .unset, .unset, .unset, .unset, .unset] []))
              exact JP208 _ _ _ X69 N69 rfl Z69 f70 f71 f72 f73 f74 f75 f76 f77 f78 (by rw [own_plc1 hc194]; exact VH69)
          refine own_go (fun _ kk => XS.iload Xp176.here hx rfl (hb hby at_176) rfl kk) ?_
          show own_Fin _ _ _ _ _ _ _ (Tp176.setTop (mkF m 178 #[.val (.int p0), .val (.int p1), .val (.int p2), .val (.int p3), .val (.int p4), .val (.int p5), .val (.int ce), .val (.int oo), .val (.int kd), .val (.int qq), .val (.int tk), .val (.int n2), .val (.int n3), .val (.int n4), .val (.int n5), .val (.ref b6), .unset, .unset, .unset, .unset, .unset, .unset, .unset, .unset, .unset, .unset, .unset] [(.int n4)]))
          by_cases hc178 : n4 = 0
          · refine own_go (fun _ kk => XS.ifYes Xp176.here hx rfl (pc0 := 178) (pc' := 192) rfl (hb hby at_178) rfl (XT.i0_eq_t hc178) (by decide) (by decide) kk) ?_
            show own_Fin _ _ _ _ _ _ _ (Tp176.setTop (mkF m 192 #[.val (.int p0), .val (.int p1), .val (.int p2), .val (.int p3), .val (.int p4), .val (.int p5), .val (.int ce), .val (.int oo), .val (.int kd), .val (.int qq), .val (.int tk), .val (.int n2), .val (.int n3), .val (.int n4), .val (.int n5), .val (.ref b6), .unset, .unset, .unset, .unset, .unset, .unset, .unset, .unset, .unset, .unset, .unset] []))
            exact JP192 _ _ _ Xp176 Np176 ep176 Zp176 Kp176_0 Kp176_1 Kp176_2 Kp176_3 Kp176_4 Kp176_5 Kp176_6 Kp176_7 Kp176_8 (by rw [own_plc0 hc178]; exact Kp176_9)
          · refine own_go (fun _ kk => XS.ifNo Xp176.here hx rfl (hb hby at_178) rfl (XT.i0_eq_f hc178) (XS.aload Xp176.here hx rfl (hb hby at_181) rfl rfl (XS.iload Xp176.here hx rfl (hb hby at_183) rfl (XS.iconst Xp176.here hx rfl (hb hby at_185) (XS.ixor Xp176.here hx rfl (hb hby at_186) rfl (XS.iload Xp176.here hx rfl (hb hby at_187) rfl kk)))))) ?_
            show own_Fin _ _ _ _ _ _ _ (Tp176.setTop (mkF m 189 #[.val (.int p0), .val (.int p1), .val (.int p2), .val (.int p3), .val (.int p4), .val (.int p5), .val (.int ce), .val (.int oo), .val (.int kd), .val (.int qq), .val (.int tk), .val (.int n2), .val (.int n3), .val (.int n4), .val (.int n5), .val (.ref b6), .unset, .unset, .unset, .unset, .unset, .unset, .unset, .unset, .unset, .unset, .unset] [(.int n4), (.int (ce ^^^ (5 : Int32))), (.ref b6)]))
            refine own_callV Xp176 hx hZ hown (hw _ (List.mem_of_getElem? (i := 77) rfl)) (hw _ (List.mem_of_getElem? (i := 78) rfl)) (notFace_of_selects (args := #[]) (mvT hZ (hw _ (List.mem_of_getElem? (i := 80) rfl)))) (hw _ (List.mem_of_getElem? (i := 80) rfl)) (hw _ (List.mem_of_getElem? (i := 79) rfl)) (hw _ (List.mem_of_getElem? (i := 81) rfl)) (hw _ (List.mem_of_getElem? (i := 7) rfl)) (by decide) (rm10g2 l Z a0 hw b6 (ce ^^^ (5 : Int32)) n4 Hp176 n0 Zp176 bR bC bB hd (own_plc (own_plc (own_plc (List.replicate 12 (0 : Int64)) ce tk) (ce ^^^ (2 : Int32)) n2) (ce ^^^ (8 : Int32)) n3) Kp176_4 Kp176_5 Kp176_6 Kp176_8 Kp176_1 Kp176_2 Kp176_3 Kp176_9 hlp176 ne_b6_hd ne_bR_hd ne_bC_hd ne_bB_hd g_hd (own_x5 h_ce).1 (own_x5 h_ce).2) ep176 Kp176_0 (argsL := [(.int (ce ^^^ (5 : Int32))), (.int n4)]) (rest := []) rfl rfl (by rw [hml]; rfl) (lenOf pd_0_8 rfl) (hb hby at_189) (W := 0) (Nat.le_of_eq rfl) (by decide) (by decide) (by decide) (by decide) ?_
            rintro v79 T79 L79 X79 ⟨rfl, M79, Kc79, VH79⟩
            have N79 := Fr.app Np176 M79
            have f80 := Kp176_0.keep Kc79
            have f81 := Kp176_1.keep Kc79 (ninS ne_bR_hd nin0)
            have f82 := Kp176_2.keep Kc79 (ninS ne_bC_hd nin0)
            have f83 := Kp176_3.keep Kc79 (ninS ne_bB_hd nin0)
            have f84 := Kp176_4.keep Kc79 (ninS ne_b6_hd nin0)
            have f85 := Kp176_5.keep Kc79 (ninS ne_b6_hd nin0)
            have f86 := Kp176_6.keep Kc79 (ninS ne_b6_hd nin0)
            have f87 := Kp176_7.keep Kc79 (ninS ne_b6_hd nin0)
            have f88 := Kp176_8.keep Kc79 (ninS ne_b6_hd nin0)
            have Z79 := Nat.le_trans Zp176 Kc79.1
            have hl79 : (own_pl2 (own_plc (own_plc (own_plc (List.replicate 12 (0 : Int64)) ce tk) (ce ^^^ (2 : Int32)) n2) (ce ^^^ (8 : Int32)) n3) (ce ^^^ (5 : Int32)) ((1 : Int64) <<< (n4 &&& 0x3f).toInt64)).length = 12 := (own_pllen2 _ _ _).trans hlp176
            show own_Fin _ _ _ _ _ _ _ (T79.setTop (mkF m 192 #[.val (.int p0), .val (.int p1), .val (.int p2), .val (.int p3), .val (.int p4), .val (.int p5), .val (.int ce), .val (.int oo), .val (.int kd), .val (.int qq), .val (.int tk), .val (.int n2), .val (.int n3), .val (.int n4), .val (.int n5), .val (.ref b6), .unset, .unset, .unset, .unset, .unset, .unset, .unset, .unset, .unset, .unset, .unset] []))
            exact JP192 _ _ _ X79 N79 rfl Z79 f80 f81 f82 f83 f84 f85 f86 f87 f88 (by rw [own_plc1 hc178]; exact VH79)
        refine own_go (fun _ kk => XS.iload Xp159.here hx rfl (hb hby at_159) rfl kk) ?_
        show own_Fin _ _ _ _ _ _ _ (Tp159.setTop (mkF m 161 #[.val (.int p0), .val (.int p1), .val (.int p2), .val (.int p3), .val (.int p4), .val (.int p5), .val (.int ce), .val (.int oo), .val (.int kd), .val (.int qq), .val (.int tk), .val (.int n2), .val (.int n3), .val (.int n4), .val (.int n5), .val (.ref b6), .unset, .unset, .unset, .unset, .unset, .unset, .unset, .unset, .unset, .unset, .unset] [(.int n3)]))
        by_cases hc161 : n3 = 0
        · refine own_go (fun _ kk => XS.ifYes Xp159.here hx rfl (pc0 := 161) (pc' := 176) rfl (hb hby at_161) rfl (XT.i0_eq_t hc161) (by decide) (by decide) kk) ?_
          show own_Fin _ _ _ _ _ _ _ (Tp159.setTop (mkF m 176 #[.val (.int p0), .val (.int p1), .val (.int p2), .val (.int p3), .val (.int p4), .val (.int p5), .val (.int ce), .val (.int oo), .val (.int kd), .val (.int qq), .val (.int tk), .val (.int n2), .val (.int n3), .val (.int n4), .val (.int n5), .val (.ref b6), .unset, .unset, .unset, .unset, .unset, .unset, .unset, .unset, .unset, .unset, .unset] []))
          exact JP176 _ _ _ Xp159 Np159 ep159 Zp159 Kp159_0 Kp159_1 Kp159_2 Kp159_3 Kp159_4 Kp159_5 Kp159_6 Kp159_7 Kp159_8 (by rw [own_plc0 hc161]; exact Kp159_9)
        · refine own_go (fun _ kk => XS.ifNo Xp159.here hx rfl (hb hby at_161) rfl (XT.i0_eq_f hc161) (XS.aload Xp159.here hx rfl (hb hby at_164) rfl rfl (XS.iload Xp159.here hx rfl (hb hby at_166) rfl (XS.bipush Xp159.here hx rfl (hb hby at_168) (XS.ixor Xp159.here hx rfl (hb hby at_170) rfl (XS.iload Xp159.here hx rfl (hb hby at_171) rfl kk)))))) ?_
          show own_Fin _ _ _ _ _ _ _ (Tp159.setTop (mkF m 173 #[.val (.int p0), .val (.int p1), .val (.int p2), .val (.int p3), .val (.int p4), .val (.int p5), .val (.int ce), .val (.int oo), .val (.int kd), .val (.int qq), .val (.int tk), .val (.int n2), .val (.int n3), .val (.int n4), .val (.int n5), .val (.ref b6), .unset, .unset, .unset, .unset, .unset, .unset, .unset, .unset, .unset, .unset, .unset] [(.int n3), (.int (ce ^^^ (8 : Int32))), (.ref b6)]))
          refine own_callV Xp159 hx hZ hown (hw _ (List.mem_of_getElem? (i := 77) rfl)) (hw _ (List.mem_of_getElem? (i := 78) rfl)) (notFace_of_selects (args := #[]) (mvT hZ (hw _ (List.mem_of_getElem? (i := 80) rfl)))) (hw _ (List.mem_of_getElem? (i := 80) rfl)) (hw _ (List.mem_of_getElem? (i := 79) rfl)) (hw _ (List.mem_of_getElem? (i := 81) rfl)) (hw _ (List.mem_of_getElem? (i := 7) rfl)) (by decide) (rm10g2 l Z a0 hw b6 (ce ^^^ (8 : Int32)) n3 Hp159 n0 Zp159 bR bC bB hd (own_plc (own_plc (List.replicate 12 (0 : Int64)) ce tk) (ce ^^^ (2 : Int32)) n2) Kp159_4 Kp159_5 Kp159_6 Kp159_8 Kp159_1 Kp159_2 Kp159_3 Kp159_9 hlp159 ne_b6_hd ne_bR_hd ne_bC_hd ne_bB_hd g_hd (own_x8 h_ce).1 (own_x8 h_ce).2) ep159 Kp159_0 (argsL := [(.int (ce ^^^ (8 : Int32))), (.int n3)]) (rest := []) rfl rfl (by rw [hml]; rfl) (lenOf pd_0_8 rfl) (hb hby at_173) (W := 0) (Nat.le_of_eq rfl) (by decide) (by decide) (by decide) (by decide) ?_
          rintro v89 T89 L89 X89 ⟨rfl, M89, Kc89, VH89⟩
          have N89 := Fr.app Np159 M89
          have f90 := Kp159_0.keep Kc89
          have f91 := Kp159_1.keep Kc89 (ninS ne_bR_hd nin0)
          have f92 := Kp159_2.keep Kc89 (ninS ne_bC_hd nin0)
          have f93 := Kp159_3.keep Kc89 (ninS ne_bB_hd nin0)
          have f94 := Kp159_4.keep Kc89 (ninS ne_b6_hd nin0)
          have f95 := Kp159_5.keep Kc89 (ninS ne_b6_hd nin0)
          have f96 := Kp159_6.keep Kc89 (ninS ne_b6_hd nin0)
          have f97 := Kp159_7.keep Kc89 (ninS ne_b6_hd nin0)
          have f98 := Kp159_8.keep Kc89 (ninS ne_b6_hd nin0)
          have Z89 := Nat.le_trans Zp159 Kc89.1
          have hl89 : (own_pl2 (own_plc (own_plc (List.replicate 12 (0 : Int64)) ce tk) (ce ^^^ (2 : Int32)) n2) (ce ^^^ (8 : Int32)) ((1 : Int64) <<< (n3 &&& 0x3f).toInt64)).length = 12 := (own_pllen2 _ _ _).trans hlp159
          show own_Fin _ _ _ _ _ _ _ (T89.setTop (mkF m 176 #[.val (.int p0), .val (.int p1), .val (.int p2), .val (.int p3), .val (.int p4), .val (.int p5), .val (.int ce), .val (.int oo), .val (.int kd), .val (.int qq), .val (.int tk), .val (.int n2), .val (.int n3), .val (.int n4), .val (.int n5), .val (.ref b6), .unset, .unset, .unset, .unset, .unset, .unset, .unset, .unset, .unset, .unset, .unset] []))
          exact JP176 _ _ _ X89 N89 rfl Z89 f90 f91 f92 f93 f94 f95 f96 f97 f98 (by rw [own_plc1 hc161]; exact VH89)
      refine own_go (fun _ kk => XS.iload Xp143.here hx rfl (hb hby at_143) rfl kk) ?_
      show own_Fin _ _ _ _ _ _ _ (Tp143.setTop (mkF m 145 #[.val (.int p0), .val (.int p1), .val (.int p2), .val (.int p3), .val (.int p4), .val (.int p5), .val (.int ce), .val (.int oo), .val (.int kd), .val (.int qq), .val (.int tk), .val (.int n2), .val (.int n3), .val (.int n4), .val (.int n5), .val (.ref b6), .unset, .unset, .unset, .unset, .unset, .unset, .unset, .unset, .unset, .unset, .unset] [(.int n2)]))
      by_cases hc145 : n2 = 0
      · refine own_go (fun _ kk => XS.ifYes Xp143.here hx rfl (pc0 := 145) (pc' := 159) rfl (hb hby at_145) rfl (XT.i0_eq_t hc145) (by decide) (by decide) kk) ?_
        show own_Fin _ _ _ _ _ _ _ (Tp143.setTop (mkF m 159 #[.val (.int p0), .val (.int p1), .val (.int p2), .val (.int p3), .val (.int p4), .val (.int p5), .val (.int ce), .val (.int oo), .val (.int kd), .val (.int qq), .val (.int tk), .val (.int n2), .val (.int n3), .val (.int n4), .val (.int n5), .val (.ref b6), .unset, .unset, .unset, .unset, .unset, .unset, .unset, .unset, .unset, .unset, .unset] []))
        exact JP159 _ _ _ Xp143 Np143 ep143 Zp143 Kp143_0 Kp143_1 Kp143_2 Kp143_3 Kp143_4 Kp143_5 Kp143_6 Kp143_7 Kp143_8 (by rw [own_plc0 hc145]; exact Kp143_9)
      · refine own_go (fun _ kk => XS.ifNo Xp143.here hx rfl (hb hby at_145) rfl (XT.i0_eq_f hc145) (XS.aload Xp143.here hx rfl (hb hby at_148) rfl rfl (XS.iload Xp143.here hx rfl (hb hby at_150) rfl (XS.iconst Xp143.here hx rfl (hb hby at_152) (XS.ixor Xp143.here hx rfl (hb hby at_153) rfl (XS.iload Xp143.here hx rfl (hb hby at_154) rfl kk)))))) ?_
        show own_Fin _ _ _ _ _ _ _ (Tp143.setTop (mkF m 156 #[.val (.int p0), .val (.int p1), .val (.int p2), .val (.int p3), .val (.int p4), .val (.int p5), .val (.int ce), .val (.int oo), .val (.int kd), .val (.int qq), .val (.int tk), .val (.int n2), .val (.int n3), .val (.int n4), .val (.int n5), .val (.ref b6), .unset, .unset, .unset, .unset, .unset, .unset, .unset, .unset, .unset, .unset, .unset] [(.int n2), (.int (ce ^^^ (2 : Int32))), (.ref b6)]))
        refine own_callV Xp143 hx hZ hown (hw _ (List.mem_of_getElem? (i := 77) rfl)) (hw _ (List.mem_of_getElem? (i := 78) rfl)) (notFace_of_selects (args := #[]) (mvT hZ (hw _ (List.mem_of_getElem? (i := 80) rfl)))) (hw _ (List.mem_of_getElem? (i := 80) rfl)) (hw _ (List.mem_of_getElem? (i := 79) rfl)) (hw _ (List.mem_of_getElem? (i := 81) rfl)) (hw _ (List.mem_of_getElem? (i := 7) rfl)) (by decide) (rm10g2 l Z a0 hw b6 (ce ^^^ (2 : Int32)) n2 Hp143 n0 Zp143 bR bC bB hd (own_plc (List.replicate 12 (0 : Int64)) ce tk) Kp143_4 Kp143_5 Kp143_6 Kp143_8 Kp143_1 Kp143_2 Kp143_3 Kp143_9 hlp143 ne_b6_hd ne_bR_hd ne_bC_hd ne_bB_hd g_hd (own_x2 h_ce).1 (own_x2 h_ce).2) ep143 Kp143_0 (argsL := [(.int (ce ^^^ (2 : Int32))), (.int n2)]) (rest := []) rfl rfl (by rw [hml]; rfl) (lenOf pd_0_8 rfl) (hb hby at_156) (W := 0) (Nat.le_of_eq rfl) (by decide) (by decide) (by decide) (by decide) ?_
        rintro v99 T99 L99 X99 ⟨rfl, M99, Kc99, VH99⟩
        have N99 := Fr.app Np143 M99
        have f100 := Kp143_0.keep Kc99
        have f101 := Kp143_1.keep Kc99 (ninS ne_bR_hd nin0)
        have f102 := Kp143_2.keep Kc99 (ninS ne_bC_hd nin0)
        have f103 := Kp143_3.keep Kc99 (ninS ne_bB_hd nin0)
        have f104 := Kp143_4.keep Kc99 (ninS ne_b6_hd nin0)
        have f105 := Kp143_5.keep Kc99 (ninS ne_b6_hd nin0)
        have f106 := Kp143_6.keep Kc99 (ninS ne_b6_hd nin0)
        have f107 := Kp143_7.keep Kc99 (ninS ne_b6_hd nin0)
        have f108 := Kp143_8.keep Kc99 (ninS ne_b6_hd nin0)
        have Z99 := Nat.le_trans Zp143 Kc99.1
        have hl99 : (own_pl2 (own_plc (List.replicate 12 (0 : Int64)) ce tk) (ce ^^^ (2 : Int32)) ((1 : Int64) <<< (n2 &&& 0x3f).toInt64)).length = 12 := (own_pllen2 _ _ _).trans hlp143
        show own_Fin _ _ _ _ _ _ _ (T99.setTop (mkF m 159 #[.val (.int p0), .val (.int p1), .val (.int p2), .val (.int p3), .val (.int p4), .val (.int p5), .val (.int ce), .val (.int oo), .val (.int kd), .val (.int qq), .val (.int tk), .val (.int n2), .val (.int n3), .val (.int n4), .val (.int n5), .val (.ref b6), .unset, .unset, .unset, .unset, .unset, .unset, .unset, .unset, .unset, .unset, .unset] []))
        exact JP159 _ _ _ X99 N99 rfl Z99 f100 f101 f102 f103 f104 f105 f106 f107 f108 (by rw [own_plc1 hc145]; exact VH99)
    refine own_go (fun _ kk => XS.iload X22.here hx rfl (hb hby at_129) rfl kk) ?_
    show own_Fin _ _ _ _ _ _ _ (T22.setTop (mkF m 131 #[.val (.int p0), .val (.int p1), .val (.int p2), .val (.int p3), .val (.int p4), .val (.int p5), .val (.int ce), .val (.int oo), .val (.int kd), .val (.int qq), .val (.int tk), .val (.int n2), .val (.int n3), .val (.int n4), .val (.int n5), .val (.ref b6), .unset, .unset, .unset, .unset, .unset, .unset, .unset, .unset, .unset, .unset, .unset] [(.int tk)]))
    by_cases hc131 : tk = 0
    · refine own_go (fun _ kk => XS.ifYes X22.here hx rfl (pc0 := 131) (pc' := 143) rfl (hb hby at_131) rfl (XT.i0_eq_t hc131) (by decide) (by decide) kk) ?_
      show own_Fin _ _ _ _ _ _ _ (T22.setTop (mkF m 143 #[.val (.int p0), .val (.int p1), .val (.int p2), .val (.int p3), .val (.int p4), .val (.int p5), .val (.int ce), .val (.int oo), .val (.int kd), .val (.int qq), .val (.int tk), .val (.int n2), .val (.int n3), .val (.int n4), .val (.int n5), .val (.ref b6), .unset, .unset, .unset, .unset, .unset, .unset, .unset, .unset, .unset, .unset, .unset] []))
      exact JP143 _ _ _ X22 N22 rfl Z22 f23 f30 f31 f32 Ur22 Uc22 Ub22 Un22 Uh22 (by rw [own_plc0 hc131]; exact VH22)
    · refine own_go (fun _ kk => XS.ifNo X22.here hx rfl (hb hby at_131) rfl (XT.i0_eq_f hc131) (XS.aload X22.here hx rfl (hb hby at_134) rfl rfl (XS.iload X22.here hx rfl (hb hby at_136) rfl (XS.iload X22.here hx rfl (hb hby at_138) rfl kk)))) ?_
      show own_Fin _ _ _ _ _ _ _ (T22.setTop (mkF m 140 #[.val (.int p0), .val (.int p1), .val (.int p2), .val (.int p3), .val (.int p4), .val (.int p5), .val (.int ce), .val (.int oo), .val (.int kd), .val (.int qq), .val (.int tk), .val (.int n2), .val (.int n3), .val (.int n4), .val (.int n5), .val (.ref b6), .unset, .unset, .unset, .unset, .unset, .unset, .unset, .unset, .unset, .unset, .unset] [(.int tk), (.int ce), (.ref b6)]))
      refine own_callV X22 hx hZ hown (hw _ (List.mem_of_getElem? (i := 77) rfl)) (hw _ (List.mem_of_getElem? (i := 78) rfl)) (notFace_of_selects (args := #[]) (mvT hZ (hw _ (List.mem_of_getElem? (i := 80) rfl)))) (hw _ (List.mem_of_getElem? (i := 80) rfl)) (hw _ (List.mem_of_getElem? (i := 79) rfl)) (hw _ (List.mem_of_getElem? (i := 81) rfl)) (hw _ (List.mem_of_getElem? (i := 7) rfl)) (by decide) (rm10g2 l Z a0 hw b6 ce tk T22.heap n0 Z22 bR bC bB hd (List.replicate 12 (0 : Int64)) Ur22 Uc22 Ub22 Uh22 f30 f31 f32 VH22 hl0 ne_b6_hd ne_bR_hd ne_bC_hd ne_bB_hd g_hd h_ce.1 h_ce.2) rfl f23 (argsL := [(.int ce), (.int tk)]) (rest := []) rfl rfl (by rw [hml]; rfl) (lenOf pd_0_8 rfl) (hb hby at_140) (W := 0) (Nat.le_of_eq rfl) (by decide) (by decide) (by decide) (by decide) ?_
      rintro v109 T109 L109 X109 ⟨rfl, M109, Kc109, VH109⟩
      have N109 := Fr.app N22 M109
      have f110 := f23.keep Kc109
      have f111 := f24.keep Kc109
      have f112 := f25.keep Kc109 (ninS ne_b7_hd nin0)
      have f113 := f26.keep Kc109 (ninS ne_b7_hd nin0)
      have f114 := f27.keep Kc109 (ninS ne_b7_hd nin0)
      have f115 := f28.keep Kc109 (ninS ne_b7_hd nin0)
      have f116 := f29.keep Kc109 (ninS ne_b7_hd nin0)
      have f117 := f30.keep Kc109 (ninS ne_bR_hd nin0)
      have f118 := f31.keep Kc109 (ninS ne_bC_hd nin0)
      have f119 := f32.keep Kc109 (ninS ne_bB_hd nin0)
      have f120 := f33.keep Kc109 (ninS ne_gg_hd nin0)
      have f121 := Ur22.keep Kc109 (ninS ne_b6_hd nin0)
      have f122 := Uc22.keep Kc109 (ninS ne_b6_hd nin0)
      have f123 := Ub22.keep Kc109 (ninS ne_b6_hd nin0)
      have f124 := Un22.keep Kc109 (ninS ne_b6_hd nin0)
      have f125 := Uh22.keep Kc109 (ninS ne_b6_hd nin0)
      have Z109 := Nat.le_trans Z22 Kc109.1
      have hl109 : (own_pl2 (List.replicate 12 (0 : Int64)) ce ((1 : Int64) <<< (tk &&& 0x3f).toInt64)).length = 12 := (own_pllen2 _ _ _).trans hl0
      show own_Fin _ _ _ _ _ _ _ (T109.setTop (mkF m 143 #[.val (.int p0), .val (.int p1), .val (.int p2), .val (.int p3), .val (.int p4), .val (.int p5), .val (.int ce), .val (.int oo), .val (.int kd), .val (.int qq), .val (.int tk), .val (.int n2), .val (.int n3), .val (.int n4), .val (.int n5), .val (.ref b6), .unset, .unset, .unset, .unset, .unset, .unset, .unset, .unset, .unset, .unset, .unset] []))
      exact JP143 _ _ _ X109 N109 rfl Z109 f110 f117 f118 f119 f121 f122 f123 f124 f125 (by rw [own_plc1 hc131]; exact VH109)
  refine own_go (fun _ kk => XS.iload X5.here hx rfl (hb hby at_95) rfl (XS.iload X5.here hx rfl (hb hby at_97) rfl kk)) ?_
  show own_Fin _ _ _ _ _ _ _ (T5.setTop (mkF m 99 #[.val (.int p0), .val (.int p1), .val (.int p2), .val (.int p3), .val (.int p4), .val (.int p5), .val (.int (p0 &&& (15 : Int32))), .val (.int (((p0.toUInt32 >>> ((4 : Int32) &&& 31).toUInt32).toInt32) &&& (15 : Int32))), .val (.int ((((p0.toUInt32 >>> ((8 : Int32) &&& 31).toUInt32).toInt32) &&& (3 : Int32)) % (3 : Int32))), .val (.int (((p0.toUInt32 >>> ((10 : Int32) &&& 31).toUInt32).toInt32) &&& (63 : Int32))), .val (.int (own_f1 p1)), .val (.int (if (own_f1 p2) = (own_f1 p1) then (0 : Int32) else (own_f1 p2))), .val (.int (if (own_f1 p3) = (own_f1 p1) then (0 : Int32) else (own_f1 p3))), .val (.int (if (own_f1 p4) = (own_f1 p1) then (0 : Int32) else (own_f1 p4))), .val (.int (own_f1 p5)), .unset, .unset, .unset, .unset, .unset, .unset, .unset, .unset, .unset, .unset, .unset, .unset] [(.int (own_f1 p1)), (.int (own_f1 p5))]))
  by_cases hc99 : (own_f1 p5) = (own_f1 p1)
  · refine own_go (fun _ kk => XS.icmpYes X5.here hx rfl (pc0 := 99) (pc' := 109) rfl (hb hby at_99) rfl (XT.ii_eq_t hc99) (by decide) (by decide) (XS.iconst X5.here hx rfl (hb hby at_109) (XS.istore X5.here hx rfl (hb hby at_110) rfl (l' := #[.val (.int p0), .val (.int p1), .val (.int p2), .val (.int p3), .val (.int p4), .val (.int p5), .val (.int (p0 &&& (15 : Int32))), .val (.int (((p0.toUInt32 >>> ((4 : Int32) &&& 31).toUInt32).toInt32) &&& (15 : Int32))), .val (.int ((((p0.toUInt32 >>> ((8 : Int32) &&& 31).toUInt32).toInt32) &&& (3 : Int32)) % (3 : Int32))), .val (.int (((p0.toUInt32 >>> ((10 : Int32) &&& 31).toUInt32).toInt32) &&& (63 : Int32))), .val (.int (own_f1 p1)), .val (.int (if (own_f1 p2) = (own_f1 p1) then (0 : Int32) else (own_f1 p2))), .val (.int (if (own_f1 p3) = (own_f1 p1) then (0 : Int32) else (own_f1 p3))), .val (.int (if (own_f1 p4) = (own_f1 p1) then (0 : Int32) else (own_f1 p4))), .val (.int (0 : Int32)), .unset, .unset, .unset, .unset, .unset, .unset, .unset, .unset, .unset, .unset, .unset, .unset]) rfl kk))) ?_
    show own_Fin _ _ _ _ _ _ _ (T5.setTop (mkF m 112 #[.val (.int p0), .val (.int p1), .val (.int p2), .val (.int p3), .val (.int p4), .val (.int p5), .val (.int (p0 &&& (15 : Int32))), .val (.int (((p0.toUInt32 >>> ((4 : Int32) &&& 31).toUInt32).toInt32) &&& (15 : Int32))), .val (.int ((((p0.toUInt32 >>> ((8 : Int32) &&& 31).toUInt32).toInt32) &&& (3 : Int32)) % (3 : Int32))), .val (.int (((p0.toUInt32 >>> ((10 : Int32) &&& 31).toUInt32).toInt32) &&& (63 : Int32))), .val (.int (own_f1 p1)), .val (.int (if (own_f1 p2) = (own_f1 p1) then (0 : Int32) else (own_f1 p2))), .val (.int (if (own_f1 p3) = (own_f1 p1) then (0 : Int32) else (own_f1 p3))), .val (.int (if (own_f1 p4) = (own_f1 p1) then (0 : Int32) else (own_f1 p4))), .val (.int (0 : Int32)), .unset, .unset, .unset, .unset, .unset, .unset, .unset, .unset, .unset, .unset, .unset, .unset] []))
    exact J112 _ _ ((p0 &&& (15 : Int32))) ((((p0.toUInt32 >>> ((4 : Int32) &&& 31).toUInt32).toInt32) &&& (15 : Int32))) (((((p0.toUInt32 >>> ((8 : Int32) &&& 31).toUInt32).toInt32) &&& (3 : Int32)) % (3 : Int32))) ((((p0.toUInt32 >>> ((10 : Int32) &&& 31).toUInt32).toInt32) &&& (63 : Int32))) ((own_f1 p1)) ((if (own_f1 p2) = (own_f1 p1) then (0 : Int32) else (own_f1 p2))) ((if (own_f1 p3) = (own_f1 p1) then (0 : Int32) else (own_f1 p3))) ((if (own_f1 p4) = (own_f1 p1) then (0 : Int32) else (own_f1 p4))) ((0 : Int32)) X5 N5 e5 (by rw [own_f0, if_pos hc99]) (own_k15 _) (own_k15 _)
  · refine own_go (fun _ kk => XS.icmpNo X5.here hx rfl (hb hby at_99) rfl (XT.ii_eq_f hc99) (XS.iload X5.here hx rfl (hb hby at_102) rfl (XS.iload X5.here hx rfl (hb hby at_104) rfl kk))) ?_
    show own_Fin _ _ _ _ _ _ _ (T5.setTop (mkF m 106 #[.val (.int p0), .val (.int p1), .val (.int p2), .val (.int p3), .val (.int p4), .val (.int p5), .val (.int (p0 &&& (15 : Int32))), .val (.int (((p0.toUInt32 >>> ((4 : Int32) &&& 31).toUInt32).toInt32) &&& (15 : Int32))), .val (.int ((((p0.toUInt32 >>> ((8 : Int32) &&& 31).toUInt32).toInt32) &&& (3 : Int32)) % (3 : Int32))), .val (.int (((p0.toUInt32 >>> ((10 : Int32) &&& 31).toUInt32).toInt32) &&& (63 : Int32))), .val (.int (own_f1 p1)), .val (.int (if (own_f1 p2) = (own_f1 p1) then (0 : Int32) else (own_f1 p2))), .val (.int (if (own_f1 p3) = (own_f1 p1) then (0 : Int32) else (own_f1 p3))), .val (.int (if (own_f1 p4) = (own_f1 p1) then (0 : Int32) else (own_f1 p4))), .val (.int (own_f1 p5)), .unset, .unset, .unset, .unset, .unset, .unset, .unset, .unset, .unset, .unset, .unset, .unset] [(.int (if (own_f1 p2) = (own_f1 p1) then (0 : Int32) else (own_f1 p2))), (.int (own_f1 p5))]))
    by_cases hc106 : (own_f1 p5) = (if (own_f1 p2) = (own_f1 p1) then (0 : Int32) else (own_f1 p2))
    · refine own_go (fun _ kk => XS.icmpNo X5.here hx rfl (hb hby at_106) rfl (XT.ii_ne_f hc106) (XS.iconst X5.here hx rfl (hb hby at_109) (XS.istore X5.here hx rfl (hb hby at_110) rfl (l' := #[.val (.int p0), .val (.int p1), .val (.int p2), .val (.int p3), .val (.int p4), .val (.int p5), .val (.int (p0 &&& (15 : Int32))), .val (.int (((p0.toUInt32 >>> ((4 : Int32) &&& 31).toUInt32).toInt32) &&& (15 : Int32))), .val (.int ((((p0.toUInt32 >>> ((8 : Int32) &&& 31).toUInt32).toInt32) &&& (3 : Int32)) % (3 : Int32))), .val (.int (((p0.toUInt32 >>> ((10 : Int32) &&& 31).toUInt32).toInt32) &&& (63 : Int32))), .val (.int (own_f1 p1)), .val (.int (if (own_f1 p2) = (own_f1 p1) then (0 : Int32) else (own_f1 p2))), .val (.int (if (own_f1 p3) = (own_f1 p1) then (0 : Int32) else (own_f1 p3))), .val (.int (if (own_f1 p4) = (own_f1 p1) then (0 : Int32) else (own_f1 p4))), .val (.int (0 : Int32)), .unset, .unset, .unset, .unset, .unset, .unset, .unset, .unset, .unset, .unset, .unset, .unset]) rfl kk))) ?_
      show own_Fin _ _ _ _ _ _ _ (T5.setTop (mkF m 112 #[.val (.int p0), .val (.int p1), .val (.int p2), .val (.int p3), .val (.int p4), .val (.int p5), .val (.int (p0 &&& (15 : Int32))), .val (.int (((p0.toUInt32 >>> ((4 : Int32) &&& 31).toUInt32).toInt32) &&& (15 : Int32))), .val (.int ((((p0.toUInt32 >>> ((8 : Int32) &&& 31).toUInt32).toInt32) &&& (3 : Int32)) % (3 : Int32))), .val (.int (((p0.toUInt32 >>> ((10 : Int32) &&& 31).toUInt32).toInt32) &&& (63 : Int32))), .val (.int (own_f1 p1)), .val (.int (if (own_f1 p2) = (own_f1 p1) then (0 : Int32) else (own_f1 p2))), .val (.int (if (own_f1 p3) = (own_f1 p1) then (0 : Int32) else (own_f1 p3))), .val (.int (if (own_f1 p4) = (own_f1 p1) then (0 : Int32) else (own_f1 p4))), .val (.int (0 : Int32)), .unset, .unset, .unset, .unset, .unset, .unset, .unset, .unset, .unset, .unset, .unset, .unset] []))
      exact J112 _ _ ((p0 &&& (15 : Int32))) ((((p0.toUInt32 >>> ((4 : Int32) &&& 31).toUInt32).toInt32) &&& (15 : Int32))) (((((p0.toUInt32 >>> ((8 : Int32) &&& 31).toUInt32).toInt32) &&& (3 : Int32)) % (3 : Int32))) ((((p0.toUInt32 >>> ((10 : Int32) &&& 31).toUInt32).toInt32) &&& (63 : Int32))) ((own_f1 p1)) ((if (own_f1 p2) = (own_f1 p1) then (0 : Int32) else (own_f1 p2))) ((if (own_f1 p3) = (own_f1 p1) then (0 : Int32) else (own_f1 p3))) ((if (own_f1 p4) = (own_f1 p1) then (0 : Int32) else (own_f1 p4))) ((0 : Int32)) X5 N5 e5 (by rw [own_f0, if_neg hc99, if_pos hc106]) (own_k15 _) (own_k15 _)
    · refine own_go (fun _ kk => XS.icmpYes X5.here hx rfl (pc0 := 106) (pc' := 112) rfl (hb hby at_106) rfl (XT.ii_ne_t hc106) (by decide) (by decide) kk) ?_
      show own_Fin _ _ _ _ _ _ _ (T5.setTop (mkF m 112 #[.val (.int p0), .val (.int p1), .val (.int p2), .val (.int p3), .val (.int p4), .val (.int p5), .val (.int (p0 &&& (15 : Int32))), .val (.int (((p0.toUInt32 >>> ((4 : Int32) &&& 31).toUInt32).toInt32) &&& (15 : Int32))), .val (.int ((((p0.toUInt32 >>> ((8 : Int32) &&& 31).toUInt32).toInt32) &&& (3 : Int32)) % (3 : Int32))), .val (.int (((p0.toUInt32 >>> ((10 : Int32) &&& 31).toUInt32).toInt32) &&& (63 : Int32))), .val (.int (own_f1 p1)), .val (.int (if (own_f1 p2) = (own_f1 p1) then (0 : Int32) else (own_f1 p2))), .val (.int (if (own_f1 p3) = (own_f1 p1) then (0 : Int32) else (own_f1 p3))), .val (.int (if (own_f1 p4) = (own_f1 p1) then (0 : Int32) else (own_f1 p4))), .val (.int (own_f1 p5)), .unset, .unset, .unset, .unset, .unset, .unset, .unset, .unset, .unset, .unset, .unset, .unset] []))
      exact J112 _ _ ((p0 &&& (15 : Int32))) ((((p0.toUInt32 >>> ((4 : Int32) &&& 31).toUInt32).toInt32) &&& (15 : Int32))) (((((p0.toUInt32 >>> ((8 : Int32) &&& 31).toUInt32).toInt32) &&& (3 : Int32)) % (3 : Int32))) ((((p0.toUInt32 >>> ((10 : Int32) &&& 31).toUInt32).toInt32) &&& (63 : Int32))) ((own_f1 p1)) ((if (own_f1 p2) = (own_f1 p1) then (0 : Int32) else (own_f1 p2))) ((if (own_f1 p3) = (own_f1 p1) then (0 : Int32) else (own_f1 p3))) ((if (own_f1 p4) = (own_f1 p1) then (0 : Int32) else (own_f1 p4))) ((own_f1 p5)) X5 N5 e5 (by rw [own_f0, if_neg hc99, if_neg hc106]) (own_k15 _) (own_k15 _)

theorem own_injN {a b : Nat} (ha : a < 2 ^ 31) (hb : b < 2 ^ 31) : Int32.ofNat a = Int32.ofNat b ↔ a = b := ⟨fun h => by rw [← own_tn ha, ← own_tn hb, h], fun h => by rw [h]⟩
theorem own_updget (hs : List Int64) (u : Int32) (b : Int64) (x : Nat) (hu : u.toNatClampNeg < hs.length) : List.getD (own_upd hs u b) x 0 = if x = u.toNatClampNeg then List.getD hs x 0 ||| b else List.getD hs x 0 := by
  unfold own_upd
  by_cases h : x = u.toNatClampNeg
  · subst h
    rw [if_pos rfl]
    simp [List.getD_eq_getElem?_getD, hu]
  · rw [if_neg h]
    simp only [List.getD_eq_getElem?_getD]
    rw [List.getElem?_set_ne (fun q => h q.symm)]
def own_U (j t : Nat) : Nat := (own_f11 (Int32.ofNat j) (Int32.ofNat t)).toNatClampNeg
theorem own_rg : ∀ j, j < 16 → (own_fR2 j).toNatClampNeg = own_U j 0 ∧ (own_fC2 j).toNatClampNeg = own_U j 1 ∧ (own_fB2 j).toNatClampNeg = own_U j 2 ∧ own_U j 0 < 4 ∧ (4 ≤ own_U j 1 ∧ own_U j 1 < 8) ∧ 8 ≤ own_U j 2 ∧ own_U j 2 < 12 := by decide +kernel
theorem own_dist (a b c : Int64) : (a ||| b) &&& c = (a &&& c) ||| (b &&& c) := by
  apply Int64.toBitVec_inj.1
  ext i hi
  simp [Bool.and_or_distrib_right]
theorem own_plget (hs : List Int64) (hl : hs.length = 12) (j : Nat) (hj : j < 16) (b : Int64) (x t : Nat) (ht : t < 3) (hx : 4 * t ≤ x ∧ x < 4 * t + 4) :
    List.getD (own_pl2 hs (Int32.ofNat j) b) x 0 = if own_U j t = x then List.getD hs x 0 ||| b else List.getD hs x 0 := by
  obtain ⟨e1, e2, e3, r1, ⟨r2, r3⟩, r4, r5⟩ := own_rg j hj
  unfold own_pl2
  rw [own_tn (by omega)]
  rw [own_updget _ _ _ _ (by rw [own_updlen, own_updlen, hl, e3]; omega), own_updget _ _ _ _ (by rw [own_updlen, hl, e2]; omega), own_updget _ _ _ _ (by rw [hl, e1]; omega), e1, e2, e3]
  obtain rfl | rfl | rfl : t = 0 ∨ t = 1 ∨ t = 2 := by omega
  · rw [if_neg (by omega), if_neg (by omega)]
    by_cases h : x = own_U j 0
    · rw [if_pos h, if_pos h.symm]
    · rw [if_neg h, if_neg (fun q => h q.symm)]
  · rw [if_neg (by omega)]
    by_cases h : x = own_U j 1
    · rw [if_pos h, if_pos h.symm, if_neg (by omega)]
    · rw [if_neg h, if_neg (show ¬ own_U j 1 = x from fun q => h q.symm), if_neg (by omega)]
  · by_cases h : x = own_U j 2
    · rw [if_pos h, if_pos h.symm, if_neg (by omega), if_neg (by omega)]
    · rw [if_neg h, if_neg (show ¬ own_U j 2 = x from fun q => h q.symm), if_neg (by omega), if_neg (by omega)]
theorem own_plcget (hs : List Int64) (hl : hs.length = 12) (j : Nat) (hj : j < 16) (n : Int32) (x t : Nat) (ht : t < 3) (hx : 4 * t ≤ x ∧ x < 4 * t + 4) :
    List.getD (own_plc hs (Int32.ofNat j) n) x 0 = List.getD hs x 0 ||| (if own_U j t = x then own_f13 n else 0) := by
  unfold own_plc own_f13
  by_cases h : n = 0
  · rw [if_pos h]; simp [h]
  · rw [if_neg h, own_plget hs hl j hj _ x t ht hx]
    by_cases h2 : own_U j t = x
    · rw [if_pos h2, if_pos h2, if_neg h]
    · rw [if_neg h2, if_neg h2, Int64.or_zero]
theorem own_xr : ∀ k, k < 16 → Int32.ofNat k ^^^ (2 : Int32) = Int32.ofNat (k ^^^ 2) ∧ Int32.ofNat k ^^^ (8 : Int32) = Int32.ofNat (k ^^^ 8) ∧ Int32.ofNat k ^^^ (5 : Int32) = Int32.ofNat (k ^^^ 5) ∧ Int32.ofNat k ^^^ (3 : Int32) = Int32.ofNat (k ^^^ 3) ∧ k ^^^ 2 < 16 ∧ k ^^^ 8 < 16 ∧ k ^^^ 5 < 16 ∧ k ^^^ 3 < 16 := by decide +kernel
theorem own_rel : ∀ k, k < 16 → own_U (k ^^^ 2) 0 = own_U k 0 ∧ ¬ own_U (k ^^^ 8) 0 = own_U k 0 ∧ ¬ own_U (k ^^^ 5) 0 = own_U k 0 ∧ own_U (k ^^^ 3) 0 = own_U k 0 ∧ ¬ own_U (k ^^^ 2) 1 = own_U k 1 ∧ own_U (k ^^^ 8) 1 = own_U k 1 ∧ ¬ own_U (k ^^^ 5) 1 = own_U k 1 ∧ ¬ own_U (k ^^^ 3) 1 = own_U k 1 ∧ ¬ own_U (k ^^^ 2) 2 = own_U k 2 ∧ ¬ own_U (k ^^^ 8) 2 = own_U k 2 ∧ own_U (k ^^^ 5) 2 = own_U k 2 ∧ ¬ own_U (k ^^^ 3) 2 = own_U k 2 := by decide +kernel
theorem own_ueq : ∀ t, t < 3 → ∀ k, k < 16 → ∀ o, o < 16 → (own_f11 (Int32.ofNat k) (Int32.ofNat t) = own_f11 (Int32.ofNat o) (Int32.ofNat t) ↔ own_U k t = own_U o t) := by decide +kernel
theorem own_urg : ∀ t, t < 3 → ∀ k, k < 16 → 4 * t ≤ own_U k t ∧ own_U k t < 4 * t + 4 := by decide +kernel
def own_K (tk : Int32) : Int64 := ((1 : Int64) <<< (tk &&& 0x3f).toInt64) ^^^ (-1 : Int64)
theorem own_K0 : ∀ a, a < 5 → own_f13 (Int32.ofNat a) &&& own_K (Int32.ofNat a) = 0 := by decide +kernel
theorem own_K1 : ∀ a, a < 5 → ∀ b, b < 5 → (b = 0 ∨ b ≠ a) → own_f13 (Int32.ofNat b) &&& own_K (Int32.ofNat a) = own_f13 (Int32.ofNat b) := by decide +kernel
theorem own_K2 {P : Prop} [Decidable P] {v K : Int64} (h : v &&& K = v) : (if P then v else 0) &&& K = if P then v else 0 := by
  by_cases p : P
  · rw [if_pos p, h]
  · rw [if_neg p, Int64.zero_and]
def own_hs (k : Nat) (tk n2 n3 n4 n5 : Int32) : List Int64 := own_plc (own_plc (own_plc (own_plc (own_plc (List.replicate 12 (0 : Int64)) (Int32.ofNat k) tk) (Int32.ofNat (k ^^^ 2)) n2) (Int32.ofNat (k ^^^ 8)) n3) (Int32.ofNat (k ^^^ 5)) n4) (Int32.ofNat (k ^^^ 3)) n5
theorem own_hslen (k : Nat) (tk n2 n3 n4 n5 : Int32) : (own_hs k tk n2 n3 n4 n5).length = 12 := by simp only [own_hs, own_plclen, List.length_replicate]
theorem own_hsget (k : Nat) (hk : k < 16) (tk n2 n3 n4 n5 : Int32) (x t : Nat) (ht : t < 3) (hx : 4 * t ≤ x ∧ x < 4 * t + 4) : List.getD (own_hs k tk n2 n3 n4 n5) x 0 = (((((if own_U k t = x then own_f13 tk else 0) ||| (if own_U (k ^^^ 2) t = x then own_f13 n2 else 0)) ||| (if own_U (k ^^^ 8) t = x then own_f13 n3 else 0)) ||| (if own_U (k ^^^ 5) t = x then own_f13 n4 else 0)) ||| (if own_U (k ^^^ 3) t = x then own_f13 n5 else 0)) := by
  obtain ⟨-, -, -, -, q1, q2, q3, q4⟩ := own_xr k hk
  unfold own_hs
  rw [own_plcget _ (by simp only [own_plclen, List.length_replicate]) _ q4 _ x t ht hx, own_plcget _ (by simp only [own_plclen, List.length_replicate]) _ q3 _ x t ht hx, own_plcget _ (by simp only [own_plclen, List.length_replicate]) _ q2 _ x t ht hx, own_plcget _ (by simp only [own_plclen, List.length_replicate]) _ q1 _ x t ht hx, own_plcget _ (by simp only [List.length_replicate]) _ hk _ x t ht hx]
  have e : List.getD (List.replicate 12 (0 : Int64)) x 0 = 0 := by rw [List.getD_eq_getElem?_getD, List.getElem?_replicate]; split <;> rfl
  rw [e, Int64.zero_or]
def own_low (u : Int64) (tk : Int32) : Int64 := (((((1 : Int64) <<< (((5 : Int32)) &&& 0x3f).toInt64) - (2 : Int64)) &&& (u ^^^ (-1 : Int64))) &&& ((-1 : Int64) <<< ((tk + (1 : Int32)) &&& 0x3f).toInt64)) &&& (-(((((1 : Int64) <<< (((5 : Int32)) &&& 0x3f).toInt64) - (2 : Int64)) &&& (u ^^^ (-1 : Int64))) &&& ((-1 : Int64) <<< ((tk + (1 : Int32)) &&& 0x3f).toInt64)))
def own_exp (tk : Int32) (u : Int64) : Int32 := (if (own_f14 (1 : Int32) tk u) = 0 then (if (own_f14 (2 : Int32) tk u) = 0 then (if (own_f14 (3 : Int32) tk u) = 0 then (if (own_f14 (4 : Int32) tk u) = 0 then (0 : Int32) else (4 : Int32)) else (3 : Int32)) else (2 : Int32)) else (1 : Int32))
theorem own_lowexp : ∀ m, m < 16 → ∀ a, a < 5 → own_low (Int64.ofNat (2 * m)) (Int32.ofNat a) = own_f13 (own_exp (Int32.ofNat a) (Int64.ofNat (2 * m))) := by decide +kernel
theorem own_bitS : ∀ m, m < 16 → ∀ q, q < 64 → ((Int64.ofNat (2 * m) &&& ((1 : Int64) <<< (Int32.ofNat q &&& 0x3f).toInt64)) = 0 ↔ ((((Int64.ofNat (2 * m)).toUInt64 >>> (Int32.ofNat q &&& 0x3f).toInt64.toUInt64).toInt64) &&& (1 : Int64)) = 0) := by decide +kernel
def own_Bs (v : Int64) : Prop := ∃ m, m < 16 ∧ v = Int64.ofNat (2 * m)
theorem own_orS : ∀ a, a < 16 → ∀ b, b < 16 → Int64.ofNat (2 * a) ||| Int64.ofNat (2 * b) = Int64.ofNat (2 * (a ||| b)) ∧ a ||| b < 16 := by decide +kernel
theorem own_Bor {v w : Int64} (hv : own_Bs v) (hw : own_Bs w) : own_Bs (v ||| w) := by
  obtain ⟨a, ha, rfl⟩ := hv
  obtain ⟨b, hb, rfl⟩ := hw
  exact ⟨a ||| b, (own_orS a ha b hb).2, (own_orS a ha b hb).1⟩
theorem own_B0 : own_Bs 0 := ⟨0, by decide, by decide⟩
theorem own_Bif {P : Prop} [Decidable P] {v : Int64} (hv : own_Bs v) : own_Bs (if P then v else 0) := by
  split
  · exact hv
  · exact own_B0
theorem own_Bb0 : ∀ a, a < 5 → own_f13 (Int32.ofNat a) = Int64.ofNat (2 * (if a = 0 then 0 else 2 ^ (a - 1))) ∧ (if a = 0 then 0 else 2 ^ (a - 1)) < 16 := by decide +kernel
theorem own_Bb {a : Nat} (ha : a < 5) : own_Bs (own_f13 (Int32.ofNat a)) := ⟨_, (own_Bb0 a ha).2, (own_Bb0 a ha).1⟩
theorem own_Bexp (tk : Int32) (u : Int64) : own_Bs (own_f13 (own_exp tk u)) := by
  have h : ∀ a, a < 5 → own_Bs (own_f13 (Int32.ofNat a)) := fun a ha => own_Bb ha
  unfold own_exp
  split
  · split
    · split
      · split
        · exact h 0 (by decide)
        · exact h 4 (by decide)
      · exact h 3 (by decide)
    · exact h 2 (by decide)
  · exact h 1 (by decide)
theorem own_orif {P : Prop} [Decidable P] (g : Int64 → Int32) (v w : Int64) : (if P then g (v ||| w) else g v) = g (v ||| (if P then w else 0)) := by
  by_cases p : P
  · rw [if_pos p, if_pos p]
  · rw [if_neg p, if_neg p, Int64.or_zero]
theorem own_setget {hs : List Int64} {i x : Nat} {v : Int64} (hi : i < hs.length) : List.getD (hs.set i v) x 0 = if i = x then v else List.getD hs x 0 := by
  by_cases h : i = x
  · subst h
    rw [if_pos rfl]
    simp [List.getD_eq_getElem?_getD, hi]
  · rw [if_neg h]
    simp only [List.getD_eq_getElem?_getD]
    rw [List.getElem?_set_ne h]
theorem own_pnget (hs : List Int64) (hl : hs.length = 12) (k : Nat) (hk : k < 16) (tk : Int32) (P : Int64) (x t : Nat) (ht : t < 3) (hx : 4 * t ≤ x ∧ x < 4 * t + 4) :
    List.getD (own_pn hs (own_f11 (Int32.ofNat k) (0 : Int32)) (own_f11 (Int32.ofNat k) (1 : Int32)) (own_f11 (Int32.ofNat k) (2 : Int32)) tk P) x 0 = if own_U k t = x then (List.getD hs x 0 &&& own_K tk) ||| P else List.getD hs x 0 := by
  obtain ⟨-, -, -, r1, ⟨r2, r3⟩, r4, r5⟩ := own_rg k hk
  have e0 : (own_f11 (Int32.ofNat k) (0 : Int32)).toNatClampNeg = own_U k 0 := rfl
  have e1 : (own_f11 (Int32.ofNat k) (1 : Int32)).toNatClampNeg = own_U k 1 := rfl
  have e2 : (own_f11 (Int32.ofNat k) (2 : Int32)).toNatClampNeg = own_U k 2 := rfl
  unfold own_pn own_kp
  rw [e0, e1, e2, own_setget (by simp only [List.length_set, hl]; omega), own_setget (by simp only [List.length_set, hl]; omega), own_setget (by rw [hl]; omega)]
  obtain rfl | rfl | rfl : t = 0 ∨ t = 1 ∨ t = 2 := by omega
  · rw [if_neg (by omega), if_neg (by omega)]
    by_cases h : own_U k 0 = x
    · rw [if_pos h, if_pos h, h]; rfl
    · rw [if_neg h, if_neg h]
  · rw [if_neg (by omega)]
    by_cases h : own_U k 1 = x
    · rw [if_pos h, if_pos h, h]; rfl
    · rw [if_neg h, if_neg h, if_neg (by omega)]
  · by_cases h : own_U k 2 = x
    · rw [if_pos h, if_pos h, h]; rfl
    · rw [if_neg h, if_neg h, if_neg (by omega), if_neg (by omega)]
theorem own_main (p0 p1 p2 p3 p4 p5 : Int32) (k o t q a b c d f : Nat) (hk : k < 16) (ho : o < 16) (ht : t < 3) (hq : q < 64) (ha : a < 5) (hb5 : b < 5) (hc5 : c < 5) (hd5 : d < 5) (hf5 : f < 5) (hb : b = 0 ∨ b ≠ a) (hc : c = 0 ∨ c ≠ a) (hd : d = 0 ∨ d ≠ a) (hf : f = 0 ∨ f ≠ a) :
    own_f0_112 p0 p1 p2 p3 p4 p5 (Int32.ofNat k) (Int32.ofNat o) (Int32.ofNat t) (Int32.ofNat q) (Int32.ofNat a) (Int32.ofNat b) (Int32.ofNat c) (Int32.ofNat d) (Int32.ofNat f) = 1 := by
  obtain ⟨x2, x8, x5, x3, q2, q8, q5, q3⟩ := own_xr k hk
  obtain ⟨s1, s2, s3, s4, s5, s6, s7, s8, s9, s10, s11, s12⟩ := own_rel k hk
  have hx := own_urg t ht o ho
  have hg := fun x t ht hx => own_hsget k hk (Int32.ofNat a) (Int32.ofNat b) (Int32.ofNat c) (Int32.ofNat d) (Int32.ofNat f) x t ht hx
  have z0 := own_K0 a ha
  have zb := own_K1 a ha b hb5 hb
  have zc := own_K1 a ha c hc5 hc
  have zd := own_K1 a ha d hd5 hd
  have zf := own_K1 a ha f hf5 hf
  have Bb := own_Bb hb5
  have Bc := own_Bb hc5
  have Bd := own_Bb hd5
  have Bf := own_Bb hf5
  have Bex := own_Bexp (Int32.ofNat a) (own_f13 (Int32.ofNat b) ||| own_f13 (Int32.ofNat c) ||| own_f13 (Int32.ofNat d) ||| own_f13 (Int32.ofNat f))
  -- what placeNext returns
  have hP : own_f12 (((1 : Int64) <<< (((5 : Int32)) &&& 0x3f).toInt64) - (2 : Int64)) (own_hs k (Int32.ofNat a) (Int32.ofNat b) (Int32.ofNat c) (Int32.ofNat d) (Int32.ofNat f)) (own_f11 (Int32.ofNat k) (0 : Int32)) (own_f11 (Int32.ofNat k) (1 : Int32)) (own_f11 (Int32.ofNat k) (2 : Int32)) (Int32.ofNat a) = own_f13 (own_exp (Int32.ofNat a) (own_f13 (Int32.ofNat b) ||| own_f13 (Int32.ofNat c) ||| own_f13 (Int32.ofNat d) ||| own_f13 (Int32.ofNat f))) := by
    have h0 := hg (own_U k 0) 0 (by decide) (own_urg 0 (by decide) k hk)
    have h1 := hg (own_U k 1) 1 (by decide) (own_urg 1 (by decide) k hk)
    have h2 := hg (own_U k 2) 2 (by decide) (own_urg 2 (by decide) k hk)
    rw [if_pos rfl, if_pos s1, if_neg s2, if_neg s3, if_pos s4, Int64.or_zero, Int64.or_zero] at h0
    rw [if_pos rfl, if_neg s5, if_pos s6, if_neg s7, if_neg s8, Int64.or_zero, Int64.or_zero, Int64.or_zero] at h1
    rw [if_pos rfl, if_neg s9, if_neg s10, if_pos s11, if_neg s12, Int64.or_zero, Int64.or_zero, Int64.or_zero] at h2
    have e : ∀ hs : List Int64, own_f12 (((1 : Int64) <<< (((5 : Int32)) &&& 0x3f).toInt64) - (2 : Int64)) hs (own_f11 (Int32.ofNat k) (0 : Int32)) (own_f11 (Int32.ofNat k) (1 : Int32)) (own_f11 (Int32.ofNat k) (2 : Int32)) (Int32.ofNat a) = own_low (((List.getD hs (own_U k 0) 0 &&& own_K (Int32.ofNat a)) ||| (List.getD hs (own_U k 1) 0 &&& own_K (Int32.ofNat a))) ||| (List.getD hs (own_U k 2) 0 &&& own_K (Int32.ofNat a))) (Int32.ofNat a) := fun _ => rfl
    rw [e, h0, h1, h2]
    simp only [own_dist, z0, zb, zc, zd, zf, Int64.zero_or]
    have ac : (own_f13 (Int32.ofNat b) ||| own_f13 (Int32.ofNat f)) ||| own_f13 (Int32.ofNat c) ||| own_f13 (Int32.ofNat d) = own_f13 (Int32.ofNat b) ||| own_f13 (Int32.ofNat c) ||| own_f13 (Int32.ofNat d) ||| own_f13 (Int32.ofNat f) := by
      simp only [Int64.or_assoc]
      rw [Int64.or_comm (own_f13 (Int32.ofNat f)), Int64.or_assoc]
    rw [ac]
    obtain ⟨m, hm, em⟩ := own_Bor (own_Bor (own_Bor Bb Bc) Bd) Bf
    rw [em]
    exact own_lowexp m hm a ha
  -- what the unit looked at holds at the end
  have hS : List.getD (own_pn (own_hs k (Int32.ofNat a) (Int32.ofNat b) (Int32.ofNat c) (Int32.ofNat d) (Int32.ofNat f)) (own_f11 (Int32.ofNat k) (0 : Int32)) (own_f11 (Int32.ofNat k) (1 : Int32)) (own_f11 (Int32.ofNat k) (2 : Int32)) (Int32.ofNat a) (own_f13 (own_exp (Int32.ofNat a) (own_f13 (Int32.ofNat b) ||| own_f13 (Int32.ofNat c) ||| own_f13 (Int32.ofNat d) ||| own_f13 (Int32.ofNat f))))) (own_U o t) 0 = (((((if own_U k t = own_U o t then own_f13 (own_exp (Int32.ofNat a) (own_f13 (Int32.ofNat b) ||| own_f13 (Int32.ofNat c) ||| own_f13 (Int32.ofNat d) ||| own_f13 (Int32.ofNat f))) else 0) ||| (if own_U (k ^^^ 2) t = own_U o t then own_f13 (Int32.ofNat b) else 0)) ||| (if own_U (k ^^^ 8) t = own_U o t then own_f13 (Int32.ofNat c) else 0)) ||| (if own_U (k ^^^ 5) t = own_U o t then own_f13 (Int32.ofNat d) else 0)) ||| (if own_U (k ^^^ 3) t = own_U o t then own_f13 (Int32.ofNat f) else 0)) := by
    rw [own_pnget _ (own_hslen _ _ _ _ _ _) k hk _ _ _ t ht hx, hg (own_U o t) t ht hx]
    by_cases h : own_U k t = own_U o t
    · rw [if_pos h, if_pos h, if_pos h]
      simp only [own_dist, z0, own_K2 zb, own_K2 zc, own_K2 zd, own_K2 zf, Int64.zero_or]
      rw [Int64.or_comm]
      simp only [Int64.or_assoc]
    · rw [if_neg h, if_neg h, if_neg h]
  have hB := own_Bor (own_Bor (own_Bor (own_Bor (own_Bif (P := own_U k t = own_U o t) Bex) (own_Bif (P := own_U (k ^^^ 2) t = own_U o t) Bb)) (own_Bif (P := own_U (k ^^^ 8) t = own_U o t) Bc)) (own_Bif (P := own_U (k ^^^ 5) t = own_U o t) Bd)) (own_Bif (P := own_U (k ^^^ 3) t = own_U o t) Bf)
  have hH : (if Int32.ofNat t = 0 then own_f15g2 (own_pn (own_hs k (Int32.ofNat a) (Int32.ofNat b) (Int32.ofNat c) (Int32.ofNat d) (Int32.ofNat f)) (own_f11 (Int32.ofNat k) (0 : Int32)) (own_f11 (Int32.ofNat k) (1 : Int32)) (own_f11 (Int32.ofNat k) (2 : Int32)) (Int32.ofNat a) (own_f13 (own_exp (Int32.ofNat a) (own_f13 (Int32.ofNat b) ||| own_f13 (Int32.ofNat c) ||| own_f13 (Int32.ofNat d) ||| own_f13 (Int32.ofNat f))))) (Int32.ofNat o) (Int32.ofNat q) else if Int32.ofNat t = (1 : Int32) then own_f17g2 (own_pn (own_hs k (Int32.ofNat a) (Int32.ofNat b) (Int32.ofNat c) (Int32.ofNat d) (Int32.ofNat f)) (own_f11 (Int32.ofNat k) (0 : Int32)) (own_f11 (Int32.ofNat k) (1 : Int32)) (own_f11 (Int32.ofNat k) (2 : Int32)) (Int32.ofNat a) (own_f13 (own_exp (Int32.ofNat a) (own_f13 (Int32.ofNat b) ||| own_f13 (Int32.ofNat c) ||| own_f13 (Int32.ofNat d) ||| own_f13 (Int32.ofNat f))))) (Int32.ofNat o) (Int32.ofNat q) else own_f16g2 (own_pn (own_hs k (Int32.ofNat a) (Int32.ofNat b) (Int32.ofNat c) (Int32.ofNat d) (Int32.ofNat f)) (own_f11 (Int32.ofNat k) (0 : Int32)) (own_f11 (Int32.ofNat k) (1 : Int32)) (own_f11 (Int32.ofNat k) (2 : Int32)) (Int32.ofNat a) (own_f13 (own_exp (Int32.ofNat a) (own_f13 (Int32.ofNat b) ||| own_f13 (Int32.ofNat c) ||| own_f13 (Int32.ofNat d) ||| own_f13 (Int32.ofNat f))))) (Int32.ofNat o) (Int32.ofNat q)) = if List.getD (own_pn (own_hs k (Int32.ofNat a) (Int32.ofNat b) (Int32.ofNat c) (Int32.ofNat d) (Int32.ofNat f)) (own_f11 (Int32.ofNat k) (0 : Int32)) (own_f11 (Int32.ofNat k) (1 : Int32)) (own_f11 (Int32.ofNat k) (2 : Int32)) (Int32.ofNat a) (own_f13 (own_exp (Int32.ofNat a) (own_f13 (Int32.ofNat b) ||| own_f13 (Int32.ofNat c) ||| own_f13 (Int32.ofNat d) ||| own_f13 (Int32.ofNat f))))) (own_U o t) 0 &&& ((1 : Int64) <<< (Int32.ofNat q &&& 0x3f).toInt64) = 0 then 0 else 1 := by
    obtain ⟨e1, e2, e3, -⟩ := own_rg o ho
    obtain rfl | rfl | rfl : t = 0 ∨ t = 1 ∨ t = 2 := by omega
    · rw [if_pos (by decide)]; unfold own_f15g2; rw [own_tn (by omega), e1]
    · rw [if_neg (by decide), if_pos (by decide)]; unfold own_f17g2; rw [own_tn (by omega), e2]
    · rw [if_neg (by decide), if_neg (by decide)]; unfold own_f16g2; rw [own_tn (by omega), e3]
  rw [hS] at hH
  obtain ⟨m, hm, em⟩ := hB
  rw [em] at hH
  have eU := fun j hj => own_ueq t ht j hj o ho
  unfold own_f0_112
  rw [own_orif (fun z => own_f0_381 p0 p1 p2 p3 p4 p5 (Int32.ofNat k) (Int32.ofNat o) (Int32.ofNat t) (Int32.ofNat q) (Int32.ofNat a) (Int32.ofNat b) (Int32.ofNat c) (Int32.ofNat d) (Int32.ofNat f) z)]
  unfold own_f0_381
  rw [own_orif (fun z => own_f0_406 p0 p1 p2 p3 p4 p5 (Int32.ofNat k) (Int32.ofNat o) (Int32.ofNat t) (Int32.ofNat q) (Int32.ofNat a) (Int32.ofNat b) (Int32.ofNat c) (Int32.ofNat d) (Int32.ofNat f) _ z)]
  unfold own_f0_406
  rw [own_orif (fun z => own_f0_430 p0 p1 p2 p3 p4 p5 (Int32.ofNat k) (Int32.ofNat o) (Int32.ofNat t) (Int32.ofNat q) (Int32.ofNat a) (Int32.ofNat b) (Int32.ofNat c) (Int32.ofNat d) (Int32.ofNat f) _ _ z)]
  unfold own_f0_430
  rw [own_orif (fun z => own_f0_454 p0 p1 p2 p3 p4 p5 (Int32.ofNat k) (Int32.ofNat o) (Int32.ofNat t) (Int32.ofNat q) (Int32.ofNat a) (Int32.ofNat b) (Int32.ofNat c) (Int32.ofNat d) (Int32.ofNat f) _ _ _ z)]
  unfold own_f0_454
  rw [x2, x8, x5, x3]
  simp only [eU k hk, eU _ q2, eU _ q8, eU _ q5, eU _ q3, Int64.zero_or]
  have ee : ∀ u : Int64, (if own_f14 (1 : Int32) (Int32.ofNat a) u = 0 then (if own_f14 (2 : Int32) (Int32.ofNat a) u = 0 then (if own_f14 (3 : Int32) (Int32.ofNat a) u = 0 then (if own_f14 (4 : Int32) (Int32.ofNat a) u = 0 then (0 : Int32) else (4 : Int32)) else (3 : Int32)) else (2 : Int32)) else (1 : Int32)) = own_exp (Int32.ofNat a) u := fun _ => rfl
  have eh : own_plc (own_plc (own_plc (own_plc (own_plc (List.replicate 12 (0 : Int64)) (Int32.ofNat k) (Int32.ofNat a)) (Int32.ofNat (k ^^^ 2)) (Int32.ofNat b)) (Int32.ofNat (k ^^^ 8)) (Int32.ofNat c)) (Int32.ofNat (k ^^^ 5)) (Int32.ofNat d)) (Int32.ofNat (k ^^^ 3)) (Int32.ofNat f) = own_hs k (Int32.ofNat a) (Int32.ofNat b) (Int32.ofNat c) (Int32.ofNat d) (Int32.ofNat f) := rfl
  rw [eh, hP, ee, em]
  have fin : ∀ (u1 u2 u3 : Int64) (se : Int32), se = (if Int64.ofNat (2 * m) &&& ((1 : Int64) <<< (Int32.ofNat q &&& 0x3f).toInt64) = 0 then 0 else 1) → own_f0_504 p0 p1 p2 p3 p4 p5 (Int32.ofNat k) (Int32.ofNat o) (Int32.ofNat t) (Int32.ofNat q) (Int32.ofNat a) (Int32.ofNat b) (Int32.ofNat c) (Int32.ofNat d) (Int32.ofNat f) u1 u2 u3 (Int64.ofNat (2 * m)) se = 1 := by
    intro u1 u2 u3 se hse
    unfold own_f0_504
    rw [x2, x8, x5, x3, eh, hP, ee, if_pos rfl]
    by_cases hz : Int64.ofNat (2 * m) &&& ((1 : Int64) <<< (Int32.ofNat q &&& 0x3f).toInt64) = 0
    · rw [if_pos hz] at hse
      rw [if_pos ((own_bitS m hm q hq).mp hz), if_pos hse]
    · rw [if_neg hz] at hse
      rw [if_neg (fun y => hz ((own_bitS m hm q hq).mpr y)), if_pos hse]
  by_cases t0 : Int32.ofNat t = 0
  · rw [if_pos t0] at hH ⊢; exact fin _ _ _ _ hH
  · rw [if_neg t0] at hH ⊢
    by_cases t1 : Int32.ofNat t = (1 : Int32)
    · rw [if_pos t1] at hH ⊢; exact fin _ _ _ _ hH
    · rw [if_neg t1] at hH ⊢; exact fin _ _ _ _ hH
theorem own_norm {x y : Int32} (hx : own_ok x 5) (hy : own_ok y 5) : ∃ b, b < 5 ∧ (b = 0 ∨ b ≠ y.toNatClampNeg) ∧ (if x = y then (0 : Int32) else x) = Int32.ofNat b := by
  by_cases h : x = y
  · exact ⟨0, by decide, Or.inl rfl, by rw [if_pos h]; rfl⟩
  · refine ⟨x.toNatClampNeg, hx.2, Or.inr (fun e => h ?_), ?_⟩
    · rw [own_asN hx.1, own_asN hy.1, e]
    · rw [if_neg h]; exact own_asN hx.1
theorem own_law (p0 p1 p2 p3 p4 p5 : Int32) : own_f0 p0 p1 p2 p3 p4 p5 = 1 := by
  have k1 : ∀ p, own_ok (own_f1 p) 5 := fun p => own_cl p (5 : Int32) 5 (by decide) (by decide)
  obtain ⟨b, hb, hb', eb⟩ := own_norm (k1 p2) (k1 p1)
  obtain ⟨c, hc, hc', ec⟩ := own_norm (k1 p3) (k1 p1)
  obtain ⟨d, hd, hd', ed⟩ := own_norm (k1 p4) (k1 p1)
  have hce := own_k15 p0
  have hoo := own_k15 ((p0.toUInt32 >>> ((4 : Int32) &&& 31).toUInt32).toInt32)
  have hkd := own_k3 ((p0.toUInt32 >>> ((8 : Int32) &&& 31).toUInt32).toInt32)
  have hqq := own_k63 ((p0.toUInt32 >>> ((10 : Int32) &&& 31).toUInt32).toInt32)
  unfold own_f0
  rw [eb, ec, ed, own_asN hce.1, own_asN hoo.1, own_asN hkd.1, own_asN hqq.1]
  have go : ∀ f, f < 5 → (f = 0 ∨ f ≠ (own_f1 p1).toNatClampNeg) → own_f0_112 p0 p1 p2 p3 p4 p5 (Int32.ofNat (p0 &&& (15 : Int32)).toNatClampNeg) (Int32.ofNat (((p0.toUInt32 >>> ((4 : Int32) &&& 31).toUInt32).toInt32) &&& (15 : Int32)).toNatClampNeg) (Int32.ofNat ((((p0.toUInt32 >>> ((8 : Int32) &&& 31).toUInt32).toInt32) &&& (3 : Int32)) % (3 : Int32)).toNatClampNeg) (Int32.ofNat (((p0.toUInt32 >>> ((10 : Int32) &&& 31).toUInt32).toInt32) &&& (63 : Int32)).toNatClampNeg) (own_f1 p1) (Int32.ofNat b) (Int32.ofNat c) (Int32.ofNat d) (Int32.ofNat f) = 1 := by
    intro f hf hf'
    rw [own_asN (k1 p1).1]
    exact own_main _ _ _ _ _ _ _ _ _ _ _ _ _ _ _ hce.2 hoo.2 hkd.2 hqq.2 (k1 p1).2 hb hc hd hf hb' hc' hd' hf'
  by_cases h1 : own_f1 p5 = own_f1 p1
  · rw [if_pos h1]; exact go 0 (by decide) (Or.inl rfl)
  · rw [if_neg h1]
    by_cases h2 : own_f1 p5 = Int32.ofNat b
    · rw [if_pos h2]; exact go 0 (by decide) (Or.inl rfl)
    · rw [if_neg h2, own_asN (k1 p5).1]
      exact go _ (k1 p5).2 (Or.inr (fun e => h1 (by rw [own_asN (k1 p5).1, own_asN (k1 p1).1, e])))

set_option maxRecDepth 65536 in
set_option maxHeartbeats 40000000 in
theorem comes_1 {Post : Tables → Env → Array Value → State → Outcome → State → Prop} (hpost : ∀ tb e args s v u, (limb_1_1.after args s (.returned v) u = true ∧ limb_1_2.after args s (.returned v) u = true ∧ True) → FrameEnd s (.returned v) u (Jvm.fieldLocs frame_1_writes args s ++ Jvm.arrayLocs frame_1_arrays args s ++ Jvm.staticLocs frame_1_statics s) 56 448 → Post tb e args s (.returned v) u) :
    ArmFor flags0 classFile x code maxLocals ret World_1 tables_1 room_1 Calls_1 rest_1 Pre_1 Post := by
  intro l hfl _ _ p e ha hc hk s m args below hf hA hF happ hP
  obtain ⟨hcalls, hrest, hpre⟩ := hP
  obtain ⟨-, -, -, hnamed, -, -, -, hat⟩ := (Spec.applies_iff hf).mp happ
  obtain ⟨hg, hn⟩ := and_e (Cond.before_iff.mp (show (Jvm.Cond.and given_1 narrow_1).before args s = true from hpre))
  obtain ⟨gg1, gg2⟩ := and_e hg
  obtain ⟨gg3, gg4⟩ := and_e gg2
  obtain ⟨gg5, gg6⟩ := and_e gg4
  obtain ⟨gg7, gg8⟩ := and_e gg6
  obtain ⟨gg9, gg10⟩ := and_e gg8
  obtain ⟨gg11, gg12⟩ := and_e gg10
  obtain ⟨w0, w1, w2, w3, w4, w5, rfl⟩ : ∃ w0 w1 w2 w3 w4 w5 : Value, args = #[w0, w1, w2, w3, w4, w5] := by
    have hs : args.size = 6 := by simpa [Cond.value, given_1] using gg1
    obtain ⟨L⟩ := args
    match L, hs with
    | [w0, w1, w2, w3, w4, w5], _ => exact ⟨w0, w1, w2, w3, w4, w5, rfl⟩
  have hw := fun d (hd : d ∈ tables_1) => atoms_spec (ws := Jvm.Cond.code x code maxLocals ret :: tables_1) hat d (List.mem_cons_of_mem _ hd)
  have hfit : Fit s := fun {y c} hc i hi => by
    obtain ⟨ha, rfl⟩ := Array.getElem?_eq_some_iff.mp hc
    have q := List.all_eq_true.mp ((Array.all_eq_true_iff_forall_mem.mp hF) _ (Array.getElem_mem ha)) i (List.mem_range.mpr hi)
    simpa [Array.getElem?_eq_getElem hi] using q
  obtain ⟨i0, ei0⟩ := is_v gg3
  obtain rfl : w0 = (.int i0) := Option.some.inj ei0
  obtain ⟨i1, ei1⟩ := is_v gg5
  obtain rfl : w1 = (.int i1) := Option.some.inj ei1
  obtain ⟨i2, ei2⟩ := is_v gg7
  obtain rfl : w2 = (.int i2) := Option.some.inj ei2
  obtain ⟨i3, ei3⟩ := is_v gg9
  obtain rfl : w3 = (.int i3) := Option.some.inj ei3
  obtain ⟨i4, ei4⟩ := is_v gg11
  obtain rfl : w4 = (.int i4) := Option.some.inj ei4
  obtain ⟨i5, ei5⟩ := is_v gg12
  obtain rfl : w5 = (.int i5) := Option.some.inj ei5
  obtain ⟨n, o, h1, h2, h3, _, L, rfl, ⟨rfl, N⟩, hq⟩ := rm0 l s _ hw i0 i1 i2 i3 i4 i5 s.heap s.heap.size (Nat.le_refl _)  p e ha hc hk s m _ below hf ((Spec.applies_iff_loose hf).mp happ).1 ⟨rfl, State.Warmed39.refl s, rfl⟩ trivial
  refine ⟨n, _, h1, h2, h3, hpost _ _ _ _ _ _ ⟨Cond.after_iff.mpr rfl, Cond.after_iff.mpr (eq_i res_at (Term.int_eval (1)) (congrArg Value.int (own_law _ _ _ _ _ _))), trivial⟩ ⟨hq.1, hq.2.1, (hq.2.2.sift fun y hy => Or.inr (N y hy)).mono (by decide) (by decide)⟩⟩
theorem main_1_1 : Claimed_1_1 := comes_1 fun _ _ _ _ _ _ h hF => ⟨h.1, hF⟩
theorem main_1_2 : Claimed_1_2 := comes_1 fun _ _ _ _ _ _ h hF => ⟨h.2.1, hF⟩

end Jvm.Pilot.@@N@@
namespace Jvm.Pilot.@@N@@
open Jvm Jvm.ClassFile Sem Op Lib Jvm.Free Jvm.Stand Jvm.Pilot.@@N@@.Jvm.D
/-! MADE BY PROGRAM (witnessworld.py) out of the Statement's table words and the real class files: 12 classes; the members and pool entries that the words name. The judged class is class 1, her method 5. -/
namespace start1
open Jvm.ClassFile
def u (s : String) : CpInfo := .utf8 (stringToUtf16 s)
/-- a pool by its gaps: so many unusable entries, then the entry; so many at the end -/
def gap : Nat → List CpInfo → List CpInfo
  | 0, r => r
  | n + 1, r => .unusable :: gap n r
def poolList (es : List (Nat × CpInfo)) (last : Nat) : List CpInfo := es.foldr (fun e r => gap e.1 (e.2 :: r)) (gap last [])
def pool (es : List (Nat × CpInfo)) (last : Nat) : Array CpInfo := ⟨poolList es last⟩
def fileOf (pool : Array CpInfo) (this : Nat) (attrs : Array Attribute := #[]) (ms : Array MethodInfo := #[]) (fl : Nat := 33) (sup : Nat := 0) (ifs : Array Nat := #[]) (fds : Array FieldInfo := #[]) : ClassFile where
  minorVersion := 0
  majorVersion := 65
  constantPool := pool
  accessFlags := fl
  thisClass := this
  superClass := sup
  interfaces := ifs
  fields := fds
  methods := ms
  attributes := attrs
def plain (name : String) (sup : Option ClassId) : Class where
  name := name
  kind := .ordinary
  loader := none
  accessFlags := 33
  super := sup
  interfaces := #[]
  cf := none
  fields := #[]
  methods := #[]
  instanceTypes := #[]
  staticTypes := #[]
  resolved := #[]
  callSites := []
  init := .initialized
  statics := none
  mirror := none

def pool0 : Array CpInfo := pool [(5, u "<init>"), (0, u "()V"), (1, .class_ 10), (1, u "java/lang/Object")] 113

def k0c0 : Code := { maxStack := 0, maxLocals := 1, code := object_method_1_code, exceptionTable := #[], attributes := #[] }
def k0m0 : Method := { name := "<init>", desc := "()V", sig := { parameters := [], returnType := none }, accessFlags := 1, code := some k0c0 }
/-- java/lang/Object -/
def k0 : Class := { plain "java/lang/Object" none with
  accessFlags := 33
  interfaces := #[]
  cf := some (fileOf pool0 8 #[] #[{ accessFlags := 1, nameIndex := 5, descriptorIndex := 6, attributes := #[] }] 33 0 #[] #[])
  fields := #[]
  methods := #[k0m0]
  instanceTypes := #[]
  staticTypes := #[]
  resolved := Array.replicate 124 none
  statics := none }

def pool1 : Array CpInfo := pool [(2, .class_ 4), (1, u "java/lang/Object"), (0, u "<init>"), (0, u "()V"), (0, .integer 2147483647), (0, .methodref 9 10), (0, .class_ 11), (0, .nameAndType 12 13), (0, u "com/example/onda/onda/sudoku/UnitsPlaceNextPinLaw"), (0, u "num"), (0, u "(I)I"), (0, .class_ 15), (0, u "com/example/onda/onda/sudoku/Units"), (0, .class_ 17), (0, u "com/example/onda/onda/sudoku/Geometry"), (0, .methodref 16 19), (0, .nameAndType 5 20), (0, u "(I)V"), (0, .methodref 14 22), (0, .nameAndType 5 23), (0, u "(Lcom/example/onda/onda/sudoku/Geometry;)V"), (0, .methodref 14 25), (0, .nameAndType 26 27), (0, u "place"), (0, u "(II)V"), (0, .methodref 9 29), (0, .nameAndType 30 31), (0, u "unitId"), (0, u "(II)I"), (0, .methodref 14 33), (0, .nameAndType 34 35), (0, u "placeNext"), (0, u "(IIII)J"), (0, .methodref 9 37), (0, .nameAndType 38 39), (0, u "bit"), (0, u "(I)J"), (0, .methodref 9 41), (0, .nameAndType 42 43), (0, u "free"), (0, u "(IIJ)Z"), (0, .methodref 14 45), (0, .nameAndType 46 47), (0, u "rowHolds"), (0, u "(II)Z"), (0, .methodref 14 49), (0, .nameAndType 50 47), (0, u "columnHolds"), (0, .methodref 14 52), (0, .nameAndType 53 47), (0, u "boxHolds"), (3, u "law"), (0, u "(IIIIII)Z")] 2

def k1m0 : Method := { name := "<init>", desc := "()V", sig := { parameters := [], returnType := none }, accessFlags := 2, code := none }
def k1c1 : Code := { maxStack := 2, maxLocals := 1, code := method_2_code, exceptionTable := #[], attributes := #[] }
def k1m1 : Method := { name := "num", desc := "(I)I", sig := { parameters := [.int], returnType := some .int }, accessFlags := 10, code := some k1c1 }
def k1c2 : Code := { maxStack := 3, maxLocals := 1, code := method_3_code, exceptionTable := #[], attributes := #[] }
def k1m2 : Method := { name := "bit", desc := "(I)J", sig := { parameters := [.int], returnType := some .long }, accessFlags := 10, code := some k1c2 }
def k1c3 : Code := { maxStack := 3, maxLocals := 4, code := method_4_code, exceptionTable := #[], attributes := #[] }
def k1m3 : Method := { name := "unitId", desc := "(II)I", sig := { parameters := [.int, .int], returnType := some .int }, accessFlags := 10, code := some k1c3 }
def k1c4 : Code := { maxStack := 5, maxLocals := 4, code := method_5_code, exceptionTable := #[], attributes := #[] }
def k1m4 : Method := { name := "free", desc := "(IIJ)Z", sig := { parameters := [.int, .int, .long], returnType := some .boolean }, accessFlags := 10, code := some k1c4 }
def k1c5 : Code := { maxStack := 5, maxLocals := 27, code := code, exceptionTable := #[], attributes := #[] }
def k1m5 : Method := { name := "law", desc := "(IIIIII)Z", sig := { parameters := [.int, .int, .int, .int, .int, .int], returnType := some .boolean }, accessFlags := 9, code := some k1c5 }
/-- com/example/onda/onda/sudoku/UnitsPlaceNextPinLaw -/
def k1 : Class := { plain "com/example/onda/onda/sudoku/UnitsPlaceNextPinLaw" (some 0) with
  accessFlags := 49
  interfaces := #[]
  cf := some (fileOf pool1 9 #[] #[{ accessFlags := 2, nameIndex := 5, descriptorIndex := 6, attributes := #[] }, { accessFlags := 10, nameIndex := 12, descriptorIndex := 13, attributes := #[] }, { accessFlags := 10, nameIndex := 38, descriptorIndex := 39, attributes := #[] }, { accessFlags := 10, nameIndex := 30, descriptorIndex := 31, attributes := #[] }, { accessFlags := 10, nameIndex := 42, descriptorIndex := 43, attributes := #[] }, { accessFlags := 9, nameIndex := 57, descriptorIndex := 58, attributes := #[] }] 49 2 #[] #[])
  fields := #[]
  methods := #[k1m0, k1m1, k1m2, k1m3, k1m4, k1m5]
  instanceTypes := #[]
  staticTypes := #[]
  resolved := Array.replicate 61 none
  statics := none }

def pool2 : Array CpInfo := pool [(1, .class_ 2), (0, u "com/example/onda/onda/sudoku/Geometry"), (2, u "<init>"), (2, .class_ 10), (1, u "com/example/onda/onda/sudoku/Units"), (0, u "(Lcom/example/onda/onda/sudoku/Geometry;)V"), (0, .methodref 13 14), (0, .class_ 15), (0, .nameAndType 5 16), (0, u "java/lang/Object"), (0, u "()V"), (0, .methodref 1 18), (0, .nameAndType 19 20), (0, u "rowOf"), (0, u "()[I"), (0, .fieldref 8 22), (0, .nameAndType 19 23), (0, u "[I"), (0, .methodref 1 25), (0, .nameAndType 26 20), (0, u "columnOf"), (0, .fieldref 8 28), (0, .nameAndType 26 23), (0, .methodref 1 30), (0, .nameAndType 31 20), (0, u "boxOf"), (0, .fieldref 8 33), (0, .nameAndType 31 23), (0, .methodref 1 35), (0, .nameAndType 36 37), (0, u "size"), (0, u "()I"), (0, .long 2), (1, .fieldref 8 41), (0, .nameAndType 42 43), (0, u "numbers"), (0, u "J"), (0, .methodref 1 45), (0, .nameAndType 46 37), (0, u "units"), (0, .fieldref 8 48), (0, .nameAndType 49 50), (0, u "held"), (0, u "[J"), (0, .long 18446744073709551615), (9, u "rowHolds"), (0, u "(II)Z"), (1, u "columnHolds"), (0, u "boxHolds"), (0, u "place"), (0, u "(II)V"), (0, u "placeNext"), (0, u "(IIII)J")] 3

def k2c0 : Code := { maxStack := 5, maxLocals := 2, code := prog_24_method_2_code, exceptionTable := #[], attributes := #[] }
def k2m0 : Method := { name := "<init>", desc := "(Lcom/example/onda/onda/sudoku/Geometry;)V", sig := { parameters := [(.object "com/example/onda/onda/sudoku/Geometry")], returnType := none }, accessFlags := 0, code := some k2c0 }
def k2c1 : Code := { maxStack := 5, maxLocals := 3, code := prog_24_method_3_code, exceptionTable := #[], attributes := #[] }
def k2m1 : Method := { name := "rowHolds", desc := "(II)Z", sig := { parameters := [.int, .int], returnType := some .boolean }, accessFlags := 0, code := some k2c1 }
def k2c2 : Code := { maxStack := 5, maxLocals := 3, code := prog_24_method_4_code, exceptionTable := #[], attributes := #[] }
def k2m2 : Method := { name := "columnHolds", desc := "(II)Z", sig := { parameters := [.int, .int], returnType := some .boolean }, accessFlags := 0, code := some k2c2 }
def k2c3 : Code := { maxStack := 5, maxLocals := 3, code := prog_24_method_5_code, exceptionTable := #[], attributes := #[] }
def k2m3 : Method := { name := "boxHolds", desc := "(II)Z", sig := { parameters := [.int, .int], returnType := some .boolean }, accessFlags := 0, code := some k2c3 }
def k2c4 : Code := { maxStack := 6, maxLocals := 5, code := prog_24_method_6_code, exceptionTable := #[], attributes := #[] }
def k2m4 : Method := { name := "place", desc := "(II)V", sig := { parameters := [.int, .int], returnType := none }, accessFlags := 0, code := some k2c4 }
def k2c5 : Code := { maxStack := 6, maxLocals := 17, code := prog_24_method_7_code, exceptionTable := #[], attributes := #[] }
def k2m5 : Method := { name := "placeNext", desc := "(IIII)J", sig := { parameters := [.int, .int, .int, .int], returnType := some .long }, accessFlags := 0, code := some k2c5 }
/-- com/example/onda/onda/sudoku/Units -/
def k2 : Class := { plain "com/example/onda/onda/sudoku/Units" (some 0) with
  accessFlags := 48
  interfaces := #[]
  cf := some (fileOf pool2 8 #[] #[{ accessFlags := 0, nameIndex := 5, descriptorIndex := 11, attributes := #[] }, { accessFlags := 0, nameIndex := 61, descriptorIndex := 62, attributes := #[] }, { accessFlags := 0, nameIndex := 64, descriptorIndex := 62, attributes := #[] }, { accessFlags := 0, nameIndex := 65, descriptorIndex := 62, attributes := #[] }, { accessFlags := 0, nameIndex := 66, descriptorIndex := 67, attributes := #[] }, { accessFlags := 0, nameIndex := 68, descriptorIndex := 69, attributes := #[] }] 48 13 #[] #[{ accessFlags := 18, nameIndex := 19, descriptorIndex := 23, attributes := #[] }, { accessFlags := 18, nameIndex := 26, descriptorIndex := 23, attributes := #[] }, { accessFlags := 18, nameIndex := 31, descriptorIndex := 23, attributes := #[] }, { accessFlags := 18, nameIndex := 42, descriptorIndex := 43, attributes := #[] }, { accessFlags := 18, nameIndex := 49, descriptorIndex := 50, attributes := #[] }])
  fields := #[{ name := "rowOf", type := (.array .int), accessFlags := 18, slot := 0, constantValue := 0 }, { name := "columnOf", type := (.array .int), accessFlags := 18, slot := 1, constantValue := 0 }, { name := "boxOf", type := (.array .int), accessFlags := 18, slot := 2, constantValue := 0 }, { name := "numbers", type := .long, accessFlags := 18, slot := 3, constantValue := 0 }, { name := "held", type := (.array .long), accessFlags := 18, slot := 4, constantValue := 0 }]
  methods := #[k2m0, k2m1, k2m2, k2m3, k2m4, k2m5]
  instanceTypes := #[(.array .int), (.array .int), (.array .int), .long, (.array .long)]
  staticTypes := #[]
  resolved := Array.replicate 73 none
  statics := none }

def pool3 : Array CpInfo := pool [(1, .methodref 2 3), (0, .class_ 4), (0, .nameAndType 5 6), (0, u "java/lang/Object"), (0, u "<init>"), (0, u "()V"), (0, .fieldref 8 9), (0, .class_ 10), (0, .nameAndType 11 12), (0, u "com/example/onda/onda/sudoku/Geometry"), (0, u "size"), (0, u "I"), (0, .fieldref 8 14), (0, .nameAndType 15 16), (0, u "rowOf"), (0, u "[I"), (0, .fieldref 8 18), (0, .nameAndType 19 16), (0, u "columnOf"), (0, .fieldref 8 21), (0, .nameAndType 22 16), (0, u "boxOf"), (0, .class_ 24), (0, u "[[I"), (0, .fieldref 8 26), (0, .nameAndType 27 24), (0, u "cellsOf"), (0, .fieldref 8 29), (0, .nameAndType 30 16), (0, u "indexInRow"), (0, .fieldref 8 32), (0, .nameAndType 33 16), (0, u "indexInColumn"), (0, .fieldref 8 35), (0, .nameAndType 36 16), (0, u "indexInBox"), (0, u "(I)V"), (3, u "()I"), (0, u "units"), (0, u "()[I")] 3

def k3c0 : Code := { maxStack := 5, maxLocals := 5, code := prog_22_method_1_code, exceptionTable := #[], attributes := #[] }
def k3m0 : Method := { name := "<init>", desc := "(I)V", sig := { parameters := [.int], returnType := none }, accessFlags := 0, code := some k3c0 }
def k3c1 : Code := { maxStack := 1, maxLocals := 1, code := prog_22_method_2_code, exceptionTable := #[], attributes := #[] }
def k3m1 : Method := { name := "size", desc := "()I", sig := { parameters := [], returnType := some .int }, accessFlags := 0, code := some k3c1 }
def k3c2 : Code := { maxStack := 1, maxLocals := 1, code := prog_22_method_3_code, exceptionTable := #[], attributes := #[] }
def k3m2 : Method := { name := "units", desc := "()I", sig := { parameters := [], returnType := some .int }, accessFlags := 0, code := some k3c2 }
def k3c3 : Code := { maxStack := 1, maxLocals := 1, code := prog_22_method_4_code, exceptionTable := #[], attributes := #[] }
def k3m3 : Method := { name := "rowOf", desc := "()[I", sig := { parameters := [], returnType := some (.array .int) }, accessFlags := 0, code := some k3c3 }
def k3c4 : Code := { maxStack := 1, maxLocals := 1, code := prog_22_method_5_code, exceptionTable := #[], attributes := #[] }
def k3m4 : Method := { name := "columnOf", desc := "()[I", sig := { parameters := [], returnType := some (.array .int) }, accessFlags := 0, code := some k3c4 }
def k3c5 : Code := { maxStack := 1, maxLocals := 1, code := prog_22_method_6_code, exceptionTable := #[], attributes := #[] }
def k3m5 : Method := { name := "boxOf", desc := "()[I", sig := { parameters := [], returnType := some (.array .int) }, accessFlags := 0, code := some k3c5 }
/-- com/example/onda/onda/sudoku/Geometry -/
def k3 : Class := { plain "com/example/onda/onda/sudoku/Geometry" (some 0) with
  accessFlags := 48
  interfaces := #[]
  cf := some (fileOf pool3 8 #[] #[{ accessFlags := 0, nameIndex := 5, descriptorIndex := 37, attributes := #[] }, { accessFlags := 0, nameIndex := 11, descriptorIndex := 41, attributes := #[] }, { accessFlags := 0, nameIndex := 42, descriptorIndex := 41, attributes := #[] }, { accessFlags := 0, nameIndex := 15, descriptorIndex := 43, attributes := #[] }, { accessFlags := 0, nameIndex := 19, descriptorIndex := 43, attributes := #[] }, { accessFlags := 0, nameIndex := 22, descriptorIndex := 43, attributes := #[] }] 48 2 #[] #[{ accessFlags := 18, nameIndex := 11, descriptorIndex := 12, attributes := #[] }, { accessFlags := 18, nameIndex := 15, descriptorIndex := 16, attributes := #[] }, { accessFlags := 18, nameIndex := 19, descriptorIndex := 16, attributes := #[] }, { accessFlags := 18, nameIndex := 22, descriptorIndex := 16, attributes := #[] }, { accessFlags := 18, nameIndex := 27, descriptorIndex := 24, attributes := #[] }, { accessFlags := 18, nameIndex := 30, descriptorIndex := 16, attributes := #[] }, { accessFlags := 18, nameIndex := 33, descriptorIndex := 16, attributes := #[] }, { accessFlags := 18, nameIndex := 36, descriptorIndex := 16, attributes := #[] }])
  fields := #[{ name := "size", type := .int, accessFlags := 18, slot := 0, constantValue := 0 }, { name := "rowOf", type := (.array .int), accessFlags := 18, slot := 1, constantValue := 0 }, { name := "columnOf", type := (.array .int), accessFlags := 18, slot := 2, constantValue := 0 }, { name := "boxOf", type := (.array .int), accessFlags := 18, slot := 3, constantValue := 0 }, { name := "cellsOf", type := (.array (.array .int)), accessFlags := 18, slot := 4, constantValue := 0 }, { name := "indexInRow", type := (.array .int), accessFlags := 18, slot := 5, constantValue := 0 }, { name := "indexInColumn", type := (.array .int), accessFlags := 18, slot := 6, constantValue := 0 }, { name := "indexInBox", type := (.array .int), accessFlags := 18, slot := 7, constantValue := 0 }]
  methods := #[k3m0, k3m1, k3m2, k3m3, k3m4, k3m5]
  instanceTypes := #[.int, (.array .int), (.array .int), (.array .int), (.array (.array .int)), (.array .int), (.array .int), (.array .int)]
  staticTypes := #[]
  resolved := Array.replicate 47 none
  statics := none }

def pool4 : Array CpInfo := pool [(1, u "java/lang/Cloneable"), (0, .class_ 1), (0, u "java/lang/Object"), (0, .class_ 3)] 3

/-- java/lang/Cloneable -/
def k4 : Class := { plain "java/lang/Cloneable" (some 0) with
  accessFlags := 1537
  interfaces := #[]
  cf := some (fileOf pool4 2 #[] #[] 1537 4 #[] #[])
  fields := #[]
  methods := #[]
  instanceTypes := #[]
  staticTypes := #[]
  resolved := Array.replicate 8 none
  statics := none }

def pool5 : Array CpInfo := pool [(1, u "java/io/Serializable"), (0, .class_ 1), (0, u "java/lang/Object"), (0, .class_ 3)] 3

/-- java/io/Serializable -/
def k5 : Class := { plain "java/io/Serializable" (some 0) with
  accessFlags := 1537
  interfaces := #[]
  cf := some (fileOf pool5 2 #[] #[] 1537 4 #[] #[])
  fields := #[]
  methods := #[]
  instanceTypes := #[]
  staticTypes := #[]
  resolved := Array.replicate 8 none
  statics := none }

/-- the primitive byte -/
def k6 : Class := { plain "byte" none with kind := .primitive 'B', accessFlags := 0x411 }
/-- [B -/
def k7 : Class := { plain "[B" (some 0) with kind := .array 6 .byte, interfaces := #[4, 5], accessFlags := 1041 }

/-- the primitive int -/
def k8 : Class := { plain "int" none with kind := .primitive 'I', accessFlags := 0x411 }
/-- [I -/
def k9 : Class := { plain "[I" (some 0) with kind := .array 8 .int, interfaces := #[4, 5], accessFlags := 1041 }

/-- the primitive long -/
def k10 : Class := { plain "long" none with kind := .primitive 'J', accessFlags := 0x411 }
/-- [J -/
def k11 : Class := { plain "[J" (some 0) with kind := .array 10 .long, interfaces := #[4, 5], accessFlags := 1041 }

/-- [[I -/
def k12 : Class := { plain "[[I" (some 0) with kind := .array 9 (.array .int), interfaces := #[4, 5], accessFlags := 1041 }

def heap : Heap := #[]
def classes : Array Class := #[k0, k1, k2, k3, k4, k5, k6, k7, k8, k9, k10, k11, k12]
def interned : List (Array UInt16 × Addr) := []
def slotsUsed : Nat := 0
def theMethod : MethodId := ⟨1, 5⟩
def args0 : Array Value := #[.int 5, .int 3, .int 7, .int 9, .int 6, .int 4]
def aboutOver (below : List Frame) : State where
  vm := { classes := classes, interned := interned.toArray }
  heap := heap
  slotsUsed := slotsUsed
  threads := #[{ frames := .invoking theMethod args0 :: below }]
def below0 : List Frame := [.native { method := ⟨0, 0⟩, args := #[] }]
def about1 : State := aboutOver below0
def p0 : Program := .bare "" "" ""
def e0 : Env := launch0.env 0 0 0
theorem w_frames : about1.frames = Frame.invoking theMethod args0 :: below0 := rfl
set_option maxRecDepth 65536 in
theorem w_args : argsFit about1.vm theMethod args0 = true := by decide +kernel
set_option maxRecDepth 65536 in
theorem w_heap : heapFits about1 = true := by decide +kernel
set_option maxRecDepth 65536 in
theorem w_runnable : about1.curStatus? = some .runnable := by decide +kernel
set_option maxRecDepth 65536 in
theorem w_alone : about1.alone = true := by decide +kernel
set_option maxRecDepth 65536 in
theorem w_named : about1.methodNamed? x = some theMethod := by decide +kernel
set_option maxRecDepth 65536 in
theorem w_hears : about1.hears theMethod below0 = true := by decide +kernel
set_option maxRecDepth 65536 in
theorem w_ripe : about1.ripe theMethod args0 below0 = true := by decide +kernel
theorem w_running : about1.status = .running := rfl
set_option maxRecDepth 65536 in
theorem w_room : about1.hasRoom e0.platform room_1 = true :=
  launch0.hasRoom_least _ room_1 (by decide +kernel) (by decide +kernel) (by decide +kernel) (by decide +kernel) (by decide +kernel) (by decide +kernel)
theorem allAtoms_all (ts : List Jvm.Cond) (a : Array Jvm.Value) (st : Jvm.State) : (allAtoms ts).before a st = ts.all (fun c => c.before a st) := by
  induction ts with
  | nil => rfl
  | cons c t ih =>
    show (Jvm.Cond.and c (allAtoms t)).before a st = _
    rw [Jvm.Cond.before_and, ih, List.all_cons]
def words1 : List Jvm.Cond := Jvm.Cond.code x code maxLocals ret :: tables_1
/-- a 'code' word, met by the world's own term for the bytes: nothing is compared byte by byte -/
theorem code_word {y : MethodName} {bytes : ByteArray} {mx : Nat} {rt : Option FieldType} {a : Array Value} {s : State} {m : MethodId} {meth : Method} {c : Code} (h1 : s.methodNamed? y = some m) (h2 : s.vm.method? m = some meth) (h3 : meth.code = some c) (h4 : c.code = bytes)
    (h5 : (c.maxLocals == mx && c.exceptionTable.isEmpty && decide (c.maxStack ≤ mostOperands) && decide (meth.sig.returnType = rt) && !meth.locks && decide (parseMethodDescriptor y.desc = some meth.sig)) = true) : (Jvm.Cond.code y bytes mx rt).before a s = true := by
  simp only [Bool.and_eq_true, beq_iff_eq, Bool.not_eq_true', decide_eq_true_eq] at h5
  obtain ⟨⟨⟨⟨⟨g1, g2⟩, g3⟩, g4⟩, g5⟩, g6⟩ := h5
  simp [Cond.before, Cond.holds, Cond.value, h1, h2, h3, h4, g1, g2, g3, g4, g5, g6]
def isCode : Jvm.Cond → Bool
  | .code _ _ _ _ => true
  | _ => false
theorem all_split {L : List Jvm.Cond} {P : Jvm.Cond → Bool} (h1 : L.all (fun c => isCode c || P c) = true) (h2 : ∀ c ∈ L.filter isCode, P c = true) : L.all P = true := by
  refine List.all_eq_true.mpr fun c hc => ?_
  have h := List.all_eq_true.mp h1 c hc
  rcases Bool.eq_false_or_eq_true (isCode c) with hi | hi
  · exact h2 c (List.mem_filter.mpr ⟨hc, hi⟩)
  · simpa [hi] using h
set_option maxRecDepth 65536 in
theorem w_c0 : (Jvm.Cond.code x code maxLocals ret).before args0 about1 = true := code_word (m := ⟨1, 5⟩) (meth := k1m5) (c := k1c5) (by decide +kernel) rfl rfl rfl (by decide +kernel)
set_option maxRecDepth 65536 in
theorem w_c1 : (Jvm.Cond.code ({ cls := "com/example/onda/onda/sudoku/UnitsPlaceNextPinLaw", name := "num", desc := "(I)I" } : Jvm.MethodName) method_2_code (1 : Nat) (Option.some Jvm.ClassFile.FieldType.int)).before args0 about1 = true := code_word (m := ⟨1, 1⟩) (meth := k1m1) (c := k1c1) (by decide +kernel) rfl rfl rfl (by decide +kernel)
set_option maxRecDepth 65536 in
theorem w_c2 : (Jvm.Cond.code ({ cls := "com/example/onda/onda/sudoku/Geometry", name := "<init>", desc := "(I)V" } : Jvm.MethodName) prog_22_method_1_code (5 : Nat) (Option.none : Option Jvm.ClassFile.FieldType)).before args0 about1 = true := code_word (m := ⟨3, 0⟩) (meth := k3m0) (c := k3c0) (by decide +kernel) rfl rfl rfl (by decide +kernel)
set_option maxRecDepth 65536 in
theorem w_c3 : (Jvm.Cond.code ({ cls := "java/lang/Object", name := "<init>", desc := "()V" } : Jvm.MethodName) object_method_1_code (1 : Nat) (Option.none : Option Jvm.ClassFile.FieldType)).before args0 about1 = true := code_word (m := ⟨0, 0⟩) (meth := k0m0) (c := k0c0) (by decide +kernel) rfl rfl rfl (by decide +kernel)
set_option maxRecDepth 65536 in
theorem w_c4 : (Jvm.Cond.code ({ cls := "com/example/onda/onda/sudoku/Units", name := "<init>", desc := "(Lcom/example/onda/onda/sudoku/Geometry;)V" } : Jvm.MethodName) prog_24_method_2_code (2 : Nat) (Option.none : Option Jvm.ClassFile.FieldType)).before args0 about1 = true := code_word (m := ⟨2, 0⟩) (meth := k2m0) (c := k2c0) (by decide +kernel) rfl rfl rfl (by decide +kernel)
set_option maxRecDepth 65536 in
theorem w_c5 : (Jvm.Cond.code ({ cls := "com/example/onda/onda/sudoku/Geometry", name := "rowOf", desc := "()[I" } : Jvm.MethodName) prog_22_method_4_code (1 : Nat) (Option.some (Jvm.ClassFile.FieldType.array Jvm.ClassFile.FieldType.int))).before args0 about1 = true := code_word (m := ⟨3, 3⟩) (meth := k3m3) (c := k3c3) (by decide +kernel) rfl rfl rfl (by decide +kernel)
set_option maxRecDepth 65536 in
theorem w_c6 : (Jvm.Cond.code ({ cls := "com/example/onda/onda/sudoku/Geometry", name := "columnOf", desc := "()[I" } : Jvm.MethodName) prog_22_method_5_code (1 : Nat) (Option.some (Jvm.ClassFile.FieldType.array Jvm.ClassFile.FieldType.int))).before args0 about1 = true := code_word (m := ⟨3, 4⟩) (meth := k3m4) (c := k3c4) (by decide +kernel) rfl rfl rfl (by decide +kernel)
set_option maxRecDepth 65536 in
theorem w_c7 : (Jvm.Cond.code ({ cls := "com/example/onda/onda/sudoku/Geometry", name := "boxOf", desc := "()[I" } : Jvm.MethodName) prog_22_method_6_code (1 : Nat) (Option.some (Jvm.ClassFile.FieldType.array Jvm.ClassFile.FieldType.int))).before args0 about1 = true := code_word (m := ⟨3, 5⟩) (meth := k3m5) (c := k3c5) (by decide +kernel) rfl rfl rfl (by decide +kernel)
set_option maxRecDepth 65536 in
theorem w_c8 : (Jvm.Cond.code ({ cls := "com/example/onda/onda/sudoku/Geometry", name := "size", desc := "()I" } : Jvm.MethodName) prog_22_method_2_code (1 : Nat) (Option.some Jvm.ClassFile.FieldType.int)).before args0 about1 = true := code_word (m := ⟨3, 1⟩) (meth := k3m1) (c := k3c1) (by decide +kernel) rfl rfl rfl (by decide +kernel)
set_option maxRecDepth 65536 in
theorem w_c9 : (Jvm.Cond.code ({ cls := "com/example/onda/onda/sudoku/Geometry", name := "units", desc := "()I" } : Jvm.MethodName) prog_22_method_3_code (1 : Nat) (Option.some Jvm.ClassFile.FieldType.int)).before args0 about1 = true := code_word (m := ⟨3, 2⟩) (meth := k3m2) (c := k3c2) (by decide +kernel) rfl rfl rfl (by decide +kernel)
set_option maxRecDepth 65536 in
theorem w_c10 : (Jvm.Cond.code ({ cls := "com/example/onda/onda/sudoku/Units", name := "place", desc := "(II)V" } : Jvm.MethodName) prog_24_method_6_code (5 : Nat) (Option.none : Option Jvm.ClassFile.FieldType)).before args0 about1 = true := code_word (m := ⟨2, 4⟩) (meth := k2m4) (c := k2c4) (by decide +kernel) rfl rfl rfl (by decide +kernel)
set_option maxRecDepth 65536 in
theorem w_c11 : (Jvm.Cond.code ({ cls := "com/example/onda/onda/sudoku/UnitsPlaceNextPinLaw", name := "unitId", desc := "(II)I" } : Jvm.MethodName) method_4_code (4 : Nat) (Option.some Jvm.ClassFile.FieldType.int)).before args0 about1 = true := code_word (m := ⟨1, 3⟩) (meth := k1m3) (c := k1c3) (by decide +kernel) rfl rfl rfl (by decide +kernel)
set_option maxRecDepth 65536 in
theorem w_c12 : (Jvm.Cond.code ({ cls := "com/example/onda/onda/sudoku/Units", name := "placeNext", desc := "(IIII)J" } : Jvm.MethodName) prog_24_method_7_code (17 : Nat) (Option.some Jvm.ClassFile.FieldType.long)).before args0 about1 = true := code_word (m := ⟨2, 5⟩) (meth := k2m5) (c := k2c5) (by decide +kernel) rfl rfl rfl (by decide +kernel)
set_option maxRecDepth 65536 in
theorem w_c13 : (Jvm.Cond.code ({ cls := "com/example/onda/onda/sudoku/UnitsPlaceNextPinLaw", name := "bit", desc := "(I)J" } : Jvm.MethodName) method_3_code (1 : Nat) (Option.some Jvm.ClassFile.FieldType.long)).before args0 about1 = true := code_word (m := ⟨1, 2⟩) (meth := k1m2) (c := k1c2) (by decide +kernel) rfl rfl rfl (by decide +kernel)
set_option maxRecDepth 65536 in
theorem w_c14 : (Jvm.Cond.code ({ cls := "com/example/onda/onda/sudoku/UnitsPlaceNextPinLaw", name := "free", desc := "(IIJ)Z" } : Jvm.MethodName) method_5_code (4 : Nat) (Option.some Jvm.ClassFile.FieldType.boolean)).before args0 about1 = true := code_word (m := ⟨1, 4⟩) (meth := k1m4) (c := k1c4) (by decide +kernel) rfl rfl rfl (by decide +kernel)
set_option maxRecDepth 65536 in
theorem w_c15 : (Jvm.Cond.code ({ cls := "com/example/onda/onda/sudoku/Units", name := "rowHolds", desc := "(II)Z" } : Jvm.MethodName) prog_24_method_3_code (3 : Nat) (Option.some Jvm.ClassFile.FieldType.boolean)).before args0 about1 = true := code_word (m := ⟨2, 1⟩) (meth := k2m1) (c := k2c1) (by decide +kernel) rfl rfl rfl (by decide +kernel)
set_option maxRecDepth 65536 in
theorem w_c16 : (Jvm.Cond.code ({ cls := "com/example/onda/onda/sudoku/Units", name := "boxHolds", desc := "(II)Z" } : Jvm.MethodName) prog_24_method_5_code (3 : Nat) (Option.some Jvm.ClassFile.FieldType.boolean)).before args0 about1 = true := code_word (m := ⟨2, 3⟩) (meth := k2m3) (c := k2c3) (by decide +kernel) rfl rfl rfl (by decide +kernel)
set_option maxRecDepth 65536 in
theorem w_c17 : (Jvm.Cond.code ({ cls := "com/example/onda/onda/sudoku/Units", name := "columnHolds", desc := "(II)Z" } : Jvm.MethodName) prog_24_method_4_code (3 : Nat) (Option.some Jvm.ClassFile.FieldType.boolean)).before args0 about1 = true := code_word (m := ⟨2, 2⟩) (meth := k2m2) (c := k2c2) (by decide +kernel) rfl rfl rfl (by decide +kernel)
def codes1 : List Jvm.Cond := [Jvm.Cond.code x code maxLocals ret, Jvm.Cond.code ({ cls := "com/example/onda/onda/sudoku/UnitsPlaceNextPinLaw", name := "num", desc := "(I)I" } : Jvm.MethodName) method_2_code (1 : Nat) (Option.some Jvm.ClassFile.FieldType.int), Jvm.Cond.code ({ cls := "com/example/onda/onda/sudoku/Geometry", name := "<init>", desc := "(I)V" } : Jvm.MethodName) prog_22_method_1_code (5 : Nat) (Option.none : Option Jvm.ClassFile.FieldType), Jvm.Cond.code ({ cls := "java/lang/Object", name := "<init>", desc := "()V" } : Jvm.MethodName) object_method_1_code (1 : Nat) (Option.none : Option Jvm.ClassFile.FieldType), Jvm.Cond.code ({ cls := "com/example/onda/onda/sudoku/Units", name := "<init>", desc := "(Lcom/example/onda/onda/sudoku/Geometry;)V" } : Jvm.MethodName) prog_24_method_2_code (2 : Nat) (Option.none : Option Jvm.ClassFile.FieldType), Jvm.Cond.code ({ cls := "com/example/onda/onda/sudoku/Geometry", name := "rowOf", desc := "()[I" } : Jvm.MethodName) prog_22_method_4_code (1 : Nat) (Option.some (Jvm.ClassFile.FieldType.array Jvm.ClassFile.FieldType.int)), Jvm.Cond.code ({ cls := "com/example/onda/onda/sudoku/Geometry", name := "columnOf", desc := "()[I" } : Jvm.MethodName) prog_22_method_5_code (1 : Nat) (Option.some (Jvm.ClassFile.FieldType.array Jvm.ClassFile.FieldType.int)), Jvm.Cond.code ({ cls := "com/example/onda/onda/sudoku/Geometry", name := "boxOf", desc := "()[I" } : Jvm.MethodName) prog_22_method_6_code (1 : Nat) (Option.some (Jvm.ClassFile.FieldType.array Jvm.ClassFile.FieldType.int)), Jvm.Cond.code ({ cls := "com/example/onda/onda/sudoku/Geometry", name := "size", desc := "()I" } : Jvm.MethodName) prog_22_method_2_code (1 : Nat) (Option.some Jvm.ClassFile.FieldType.int), Jvm.Cond.code ({ cls := "com/example/onda/onda/sudoku/Geometry", name := "units", desc := "()I" } : Jvm.MethodName) prog_22_method_3_code (1 : Nat) (Option.some Jvm.ClassFile.FieldType.int), Jvm.Cond.code ({ cls := "com/example/onda/onda/sudoku/Units", name := "place", desc := "(II)V" } : Jvm.MethodName) prog_24_method_6_code (5 : Nat) (Option.none : Option Jvm.ClassFile.FieldType), Jvm.Cond.code ({ cls := "com/example/onda/onda/sudoku/UnitsPlaceNextPinLaw", name := "unitId", desc := "(II)I" } : Jvm.MethodName) method_4_code (4 : Nat) (Option.some Jvm.ClassFile.FieldType.int), Jvm.Cond.code ({ cls := "com/example/onda/onda/sudoku/Units", name := "placeNext", desc := "(IIII)J" } : Jvm.MethodName) prog_24_method_7_code (17 : Nat) (Option.some Jvm.ClassFile.FieldType.long), Jvm.Cond.code ({ cls := "com/example/onda/onda/sudoku/UnitsPlaceNextPinLaw", name := "bit", desc := "(I)J" } : Jvm.MethodName) method_3_code (1 : Nat) (Option.some Jvm.ClassFile.FieldType.long), Jvm.Cond.code ({ cls := "com/example/onda/onda/sudoku/UnitsPlaceNextPinLaw", name := "free", desc := "(IIJ)Z" } : Jvm.MethodName) method_5_code (4 : Nat) (Option.some Jvm.ClassFile.FieldType.boolean), Jvm.Cond.code ({ cls := "com/example/onda/onda/sudoku/Units", name := "rowHolds", desc := "(II)Z" } : Jvm.MethodName) prog_24_method_3_code (3 : Nat) (Option.some Jvm.ClassFile.FieldType.boolean), Jvm.Cond.code ({ cls := "com/example/onda/onda/sudoku/Units", name := "boxHolds", desc := "(II)Z" } : Jvm.MethodName) prog_24_method_5_code (3 : Nat) (Option.some Jvm.ClassFile.FieldType.boolean), Jvm.Cond.code ({ cls := "com/example/onda/onda/sudoku/Units", name := "columnHolds", desc := "(II)Z" } : Jvm.MethodName) prog_24_method_4_code (3 : Nat) (Option.some Jvm.ClassFile.FieldType.boolean)]
set_option maxRecDepth 65536 in
theorem codes_eq : words1.filter isCode = codes1 := rfl
theorem w_codes : ∀ c ∈ words1.filter isCode, c.before args0 about1 = true := by
  rw [codes_eq]
  intro c hc
  simp only [codes1, List.mem_cons, List.not_mem_nil, or_false] at hc
  rcases hc with rfl | rfl | rfl | rfl | rfl | rfl | rfl | rfl | rfl | rfl | rfl | rfl | rfl | rfl | rfl | rfl | rfl | rfl
  · exact w_c0
  · exact w_c1
  · exact w_c2
  · exact w_c3
  · exact w_c4
  · exact w_c5
  · exact w_c6
  · exact w_c7
  · exact w_c8
  · exact w_c9
  · exact w_c10
  · exact w_c11
  · exact w_c12
  · exact w_c13
  · exact w_c14
  · exact w_c15
  · exact w_c16
  · exact w_c17
set_option maxRecDepth 65536 in
theorem w_t1 : (words1.take 24).all (fun c => isCode c || c.before args0 about1) = true := by decide +kernel
set_option maxRecDepth 65536 in
theorem w_t2 : ((words1.drop 24).take 24).all (fun c => isCode c || c.before args0 about1) = true := by decide +kernel
set_option maxRecDepth 65536 in
theorem w_t3 : (((words1.drop 24).drop 24).take 24).all (fun c => isCode c || c.before args0 about1) = true := by decide +kernel
set_option maxRecDepth 65536 in
theorem w_t4 : ((((words1.drop 24).drop 24).drop 24).take 24).all (fun c => isCode c || c.before args0 about1) = true := by decide +kernel
set_option maxRecDepth 65536 in
theorem w_t5 : ((((words1.drop 24).drop 24).drop 24).drop 24).all (fun c => isCode c || c.before args0 about1) = true := by decide +kernel
theorem w_tables : (allAtoms (Jvm.Cond.code x code maxLocals ret :: tables_1)).before args0 about1 = true := by
  rw [allAtoms_all]
  show words1.all (fun c => c.before args0 about1) = true
  refine all_split ?_ w_codes
  rw [← List.take_append_drop 24 words1, List.all_append, w_t1, ← List.take_append_drop 24 (words1.drop 24), List.all_append, w_t2, ← List.take_append_drop 24 ((words1.drop 24).drop 24), List.all_append, w_t3, ← List.take_append_drop 24 (((words1.drop 24).drop 24).drop 24), List.all_append, w_t4, w_t5]
  rfl
set_option maxRecDepth 65536 in
theorem w_case : (Jvm.Cond.and given_1 narrow_1).before args0 about1 = true := by decide +kernel
theorem w_applies : (headSpec (Jvm.Cond.code x code maxLocals ret :: tables_1) room_1).applies x e0.platform about1 = true :=
  (Spec.applies_iff w_frames).mpr ⟨w_running, w_runnable, w_alone, w_named, w_hears, w_ripe, w_room, w_tables⟩
theorem atStart : AtStart classFile x code maxLocals ret World_1 tables_1 room_1 Calls_1 rest_1 Pre_1 launch0 p0 e0 about1 theMethod args0 below0 :=
  ⟨lists_1, trivial, launch0.admits_env _ _ _, launch0.least_env, fairChoices_fair.cas, fairChoices_fair.clock, w_frames, w_args, w_heap, w_applies, trivial, trivial, w_case⟩
end start1
theorem witness_1 : WitnessClaimed_1 := ⟨start1.p0, start1.e0, start1.about1, start1.theMethod, start1.args0, start1.below0, start1.atStart⟩
end Jvm.Pilot.@@N@@
