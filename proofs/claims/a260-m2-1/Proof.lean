import JvmDerived
import JvmDerived.Pilot.@@N@@Statement
import JvmDerived.Pilot.@@N@@Code
set_option linter.unusedVariables false
set_option linter.unusedSimpArgs false
@@BLOCK:NumsL.lean.txt@@
namespace Jvm.Pilot.@@N@@
open Jvm Jvm.ClassFile Sem Op Lib Jvm.Free Jvm.Stand Jvm.LawKit Jvm.RoadKit Bundle Jvm.Pilot.@@N@@.Jvm.D

section Own
variable {p : Program} {l : Launch} {e : Env} {R : Room} {s : State} {m : MethodId} {args : Array Value} {below : List Frame} {meth : Method} {c : Code} {T : State} {locs : List Loc} {cells slots : Nat} {Z : State} {a0 : Array Value} {h : Heap} {Q : Option Value → Heap → List Loc → Prop} {kc kn : Nat}
/-- from U the body comes to its end, with Q -/
def own_Fin (p : Program) (e : Env) (below : List Frame) (s : State) (Q : Option Value → Heap → List Loc → Prop) (kc kn : Nat) (U : State) : Prop :=
  ∃ t o, Steps p.tables e below U t ∧ t.status = .running ∧ Ended t below o ∧ ∃ v L, o = .returned v ∧ Q v t.heap L ∧ FrameEnd s o t L kc kn
theorem own_go {U U' : State} (g : ∀ t, Steps p.tables e below U' t → Steps p.tables e below U t) (H : own_Fin p e below s Q kc kn U') : own_Fin p e below s Q kc kn U := by
  obtain ⟨t, o, h1, h2⟩ := H
  exact ⟨t, o, g t h1, h2⟩
/-- what a body that writes nothing and returns w leaves -/
def own_P (w : Option Value) (h0 : Heap) (n0 : Nat) (v : Option Value) (h : Heap) (L : List Loc) : Prop := v = w ∧ Fr n0 L ∧ h = h0
/-- a body's contract: called with as' on the heap h, it ends with Q -/
def own_Met (l : Launch) (y : MethodName) (bytes : ByteArray) (maxL : Nat) (ret : Option FieldType) (rm : Room) (Z : State) (ws : List Jvm.Cond) (as' : Array Value) (h : Heap) (Q : Option Value → Heap → List Loc → Prop) : Prop :=
  MetFree l y (head1 (Jvm.Cond.code y bytes maxL ret :: ws) rm) (fun a U => a = as' ∧ Z.Warmed39 U.vm ∧ U.heap = h) (fun _ _ _ _ _ => True) (fun _ U o U' => ∃ v L, o = .returned v ∧ Q v U'.heap L ∧ FrameEnd U o U' L rm.cells rm.slots)
theorem own_enter {y : MethodName} {bytes : ByteArray} {maxL : Nat} {ret : Option FieldType} {rm : Room} {ws : List Jvm.Cond} {as' : Array Value} (hp : plainFor y = true)
    (H : ∀ (p : Program) (e : Env) (s : State) (m : MethodId) (below : List Frame) (meth : Method) (c : Code) (s₁ : State), p.tables.exec = Jvm.exec → c.code = bytes → c.maxLocals = maxL → s.vm.findClass y.cls = some m.cls → meth.name = y.name → meth.sig.returnType = ret → meth.locks = false → Z.Warmed39 s.vm → s₁.heap = h → Stand p l e rm s m as' below meth c s₁ [] 0 0 → own_Fin p e below s Q rm.cells rm.slots (s₁.setTop (entryFrame m as' maxL))) :
    own_Met l y bytes maxL ret rm Z ws as' h Q := by
  unfold own_Met
  refine MetFree.of_bodySF hp hisR ?_
  intro p e s m args below meth c s₁ Bd hml0 hP hK
  obtain ⟨rfl, hZ, hh⟩ := hP
  exact H p e s m below meth c s₁ Bd.exec Bd.bytes hml0 (findClass_of_methodNamed Bd.named) (name_of_methodNamed Bd.named Bd.method).1 Bd.returns (BodyLoose.notSynchronized Bd) hZ (by rw [← hh, Bd.state]; rfl) (Stand.of_body Bd)
theorem own_ret (X : Stand p l e R s m args below meth c T locs cells slots) (hx : p.tables.exec = Jvm.exec) (hlk : meth.locks = false) {pc : Nat} {Ls : Array Slot} {w : Value} {t : FieldType} {i : Instr} {rest : List Value} (hret : meth.sig.returnType = some t) (hn : narrow t w = w)
    (hi : (i = .ireturn ∧ (t = .int ∨ t = .boolean ∨ t = .byte ∨ t = .char ∨ t = .short) ∧ ∃ z, w = .int z) ∨ (i = .lreturn ∧ t = .long ∧ ∃ z, w = .long z) ∨ (i = .dreturn ∧ t = .double ∧ ∃ z, w = .double z) ∨ (i = .freturn ∧ t = .float ∧ ∃ z, w = .float z) ∨ (i = .areturn ∧ t.isReference = true ∧ w.isRef = true))
    (hd : decode c.code pc = .ok (i, 1)) (hk : cells ≤ kc) (hs : slots ≤ kn) (hq : Q (some w) T.heap locs) : own_Fin p e below s Q kc kn (T.setTop (mkF m pc Ls (w :: rest))) := by
  obtain ⟨fs, hr, hrun, hended, hW, hsame⟩ := X.leave (v := some w) (fun h => by rw [hret] at h; cases h) hlk
  exact ⟨_, _, retOut X hx hret hn hi hd hr, hrun, hended, _, _, rfl, hq, ⟨_, rfl⟩, hW, hsame.mono hk hs⟩
theorem own_retI (X : Stand p l e R s m args below meth c T locs cells slots) (hx : p.tables.exec = Jvm.exec) (hlk : meth.locks = false) {pc : Nat} {Ls : Array Slot} {z : Int32} {rest : List Value} (hret : meth.sig.returnType = some .int)
    (hd : decode c.code pc = .ok (.ireturn, 1)) (hk : cells ≤ kc) (hs : slots ≤ kn) (hq : Q (some (.int z)) T.heap locs) : own_Fin p e below s Q kc kn (T.setTop (mkF m pc Ls (.int z :: rest))) :=
  own_ret X hx hlk hret rfl (Or.inl ⟨rfl, Or.inl rfl, _, rfl⟩) hd hk hs hq
theorem own_retZ (X : Stand p l e R s m args below meth c T locs cells slots) (hx : p.tables.exec = Jvm.exec) (hlk : meth.locks = false) {pc : Nat} {Ls : Array Slot} {z : Int32} {rest : List Value} (hret : meth.sig.returnType = some .boolean) (hn : narrow .boolean (.int z) = .int z)
    (hd : decode c.code pc = .ok (.ireturn, 1)) (hk : cells ≤ kc) (hs : slots ≤ kn) (hq : Q (some (.int z)) T.heap locs) : own_Fin p e below s Q kc kn (T.setTop (mkF m pc Ls (.int z :: rest))) :=
  own_ret X hx hlk hret hn (Or.inl ⟨rfl, Or.inr (Or.inl rfl), _, rfl⟩) hd hk hs hq
theorem own_retJ (X : Stand p l e R s m args below meth c T locs cells slots) (hx : p.tables.exec = Jvm.exec) (hlk : meth.locks = false) {pc : Nat} {Ls : Array Slot} {z : Int64} {rest : List Value} (hret : meth.sig.returnType = some .long)
    (hd : decode c.code pc = .ok (.lreturn, 1)) (hk : cells ≤ kc) (hs : slots ≤ kn) (hq : Q (some (.long z)) T.heap locs) : own_Fin p e below s Q kc kn (T.setTop (mkF m pc Ls (.long z :: rest))) :=
  own_ret X hx hlk hret rfl (Or.inr (Or.inl ⟨rfl, rfl, _, rfl⟩)) hd hk hs hq
theorem own_retA (X : Stand p l e R s m args below meth c T locs cells slots) (hx : p.tables.exec = Jvm.exec) (hlk : meth.locks = false) {pc : Nat} {Ls : Array Slot} {z : Addr} {t : FieldType} {rest : List Value} (hret : meth.sig.returnType = some t) (ht : t.isReference = true) (hn : narrow t (.ref z) = .ref z)
    (hd : decode c.code pc = .ok (.areturn, 1)) (hk : cells ≤ kc) (hs : slots ≤ kn) (hq : Q (some (.ref z)) T.heap locs) : own_Fin p e below s Q kc kn (T.setTop (mkF m pc Ls (.ref z :: rest))) :=
  own_ret X hx hlk hret hn (Or.inr (Or.inr (Or.inr (Or.inr ⟨rfl, ht, rfl⟩)))) hd hk hs hq
theorem own_retV (X : Stand p l e R s m args below meth c T locs cells slots) (hx : p.tables.exec = Jvm.exec) (hlk : meth.locks = false) {pc : Nat} {Ls : Array Slot} (hret : meth.sig.returnType = none)
    (hd : decode c.code pc = .ok (.return_, 1)) (hk : cells ≤ kc) (hs : slots ≤ kn) (hq : Q none T.heap locs) : own_Fin p e below s Q kc kn (T.setTop (mkF m pc Ls [])) := by
  obtain ⟨fs, hr, hrun, hended, hW, hsame⟩ := X.leave (v := none) (fun _ => rfl) hlk
  exact ⟨_, _, X.returnOut hx hret hd hr, hrun, hended, _, _, rfl, hq, ⟨_, rfl⟩, hW, hsame.mono hk hs⟩
theorem own_callS (X : Stand p l e R s m args below meth c T locs cells slots) (hx : p.tables.exec = Jvm.exec) (hZ : Z.Warmed39 s.vm) {own : String} {index : Nat} {y : MethodName} {bytes : ByteArray} {maxL : Nat} {ret : Option FieldType} {rm : Room} {as' : Array Value} {Q' : Option Value → Heap → List Loc → Prop}
    (hown : s.vm.findClass own = some m.cls) (w1 : (Jvm.Cond.methodLink own index y).before a0 Z = true) (w2 : (Jvm.Cond.static y).before a0 Z = true) (w3 : (Jvm.Cond.initialized y.cls).before a0 Z = true) (w4 : (Jvm.Cond.code y bytes maxL ret).before a0 Z = true) (hy : y.cls ≠ "java/lang/invoke/MethodHandle" ∧ y.cls ≠ "java/lang/invoke/VarHandle")
    (hM : own_Met l y bytes maxL ret rm Z [] as' h Q') (eT : T.heap = h) {pc : Nat} {Ls : Array Slot} {st argsL rest : List Value} (hst : st = argsL.reverse ++ rest) (has : argsL.toArray = as') (hsize : Ls.size = c.maxLocals) (hlen : ∀ sig, parseMethodDescriptor y.desc = some sig → argsL.length = sig.parameters.length)
    (hd : decode c.code pc = .ok (.invokestatic index, 3)) {W : Nat} (hW : (rest.map fun v => v.category).sum ≤ W) (hf : rm.frames + 1 ≤ R.frames) (hl : W + (maxL + 11) + rm.locals ≤ R.locals) (hc : cells + rm.cells ≤ R.cells) (hs : slots + rm.slots ≤ R.slots)
    (H : ∀ (v : Option Value) (T' : State) (L : List Loc), Stand p l e R s m args below meth c T' (locs ++ L) (cells + rm.cells) (slots + rm.slots) → Q' v T'.heap L → own_Fin p e below s Q kc kn (T'.setTop (mkF m (pc + 3) Ls (v.toList ++ rest)))) :
    own_Fin p e below s Q kc kn (T.setTop (mkF m pc Ls st)) := by
  subst hst
  obtain ⟨v, _, ⟨T', L', k', n'⟩, -, X', ⟨Lc, hQ, l1, y1, z1⟩, st⟩ := Jvm.LawKit.callS X hx (y := y) hown (mvT hZ w1) (mvT hZ w2) (mvT hZ w3) (mvT hZ w4) hy (backOf (W := W) hM hZ w4 w3 hf hl) (g := mkF m pc Ls (argsL.reverse ++ rest)) rfl hsize hlen rfl (by show 2 * 0 + _ ≤ _; omega) hd (fun _ _ => ⟨has, eT, hc, hs⟩)
  dsimp only [Pt.U, Pt.locs, Pt.cells, Pt.slots] at X' l1 y1 z1 st hQ
  subst l1 y1 z1
  exact own_go st (H _ _ _ X' hQ)
theorem own_callV (X : Stand p l e R s m args below meth c T locs cells slots) (hx : p.tables.exec = Jvm.exec) (hZ : Z.Warmed39 s.vm) {own C : String} {index : Nat} {y z : MethodName} {bytes : ByteArray} {maxL : Nat} {ret : Option FieldType} {rm : Room} {as' : Array Value} {Q' : Option Value → Heap → List Loc → Prop}
    (hown : s.vm.findClass own = some m.cls) (w1 : (Jvm.Cond.methodLink own index y).before a0 Z = true) (w2 : (Jvm.Cond.declares y).before a0 Z = true) (nf : NotFace s y) (w3 : (Jvm.Cond.selects C y z).before a0 Z = true) (w4 : (Jvm.Cond.instanceMethod z).before a0 Z = true) (w5 : (Jvm.Cond.code z bytes maxL ret).before a0 Z = true) (w6 : (Jvm.Cond.initialized z.cls).before a0 Z = true) (hy : y.cls ≠ "java/lang/invoke/MethodHandle" ∧ y.cls ≠ "java/lang/invoke/VarHandle")
    (hM : own_Met l z bytes maxL ret rm Z [] as' h Q') (eT : T.heap = h) {a : Addr} (E : Exa Z h a C) {pc : Nat} {Ls : Array Slot} {st argsL rest : List Value} (hst : st = argsL.reverse ++ .ref a :: rest) (has : (.ref a :: argsL).toArray = as') (hsize : Ls.size = c.maxLocals) (hlen : ∀ sig, parseMethodDescriptor y.desc = some sig → argsL.length = sig.parameters.length)
    (hd : decode c.code pc = .ok (.invokevirtual index, 3)) {W : Nat} (hW : (rest.map fun v => v.category).sum ≤ W) (hf : rm.frames + 1 ≤ R.frames) (hl : W + (maxL + 11) + rm.locals ≤ R.locals) (hc : cells + rm.cells ≤ R.cells) (hs : slots + rm.slots ≤ R.slots)
    (H : ∀ (v : Option Value) (T' : State) (L : List Loc), Stand p l e R s m args below meth c T' (locs ++ L) (cells + rm.cells) (slots + rm.slots) → Q' v T'.heap L → own_Fin p e below s Q kc kn (T'.setTop (mkF m (pc + 3) Ls (v.toList ++ rest)))) :
    own_Fin p e below s Q kc kn (T.setTop (mkF m pc Ls st)) := by
  subst hst
  obtain ⟨cB, kB, q1, q2, q3⟩ := isOf (T := T) hZ eT E
  obtain ⟨v, _, ⟨T', L', k', n'⟩, -, X', ⟨Lc, hQ, l1, y1, z1⟩, st⟩ := X.virtualBack hx (y := y) (z := z) hown (mvT hZ w1) (mvT hZ w2) nf (mvT hZ w3) (mvT hZ w4) hy (backOf (W := W) hM hZ w5 w6 hf hl) q1 q3 (g := mkF m pc Ls (argsL.reverse ++ .ref a :: rest)) rfl hsize (Steps.refl _) hlen rfl (by show 2 * 0 + _ ≤ _; omega) hd (fun _ _ => ⟨has, eT, hc, hs⟩)
  dsimp only [Pt.U, Pt.locs, Pt.cells, Pt.slots] at X' l1 y1 z1 st hQ
  subst l1 y1 z1
  exact own_go (fun _ k => st.trans k) (H _ _ _ X' hQ)
theorem own_callN (X : Stand p l e R s m args below meth c T locs cells slots) (hx : p.tables.exec = Jvm.exec) (hZ : Z.Warmed39 s.vm) {own : String} {index : Nat} {y : MethodName} {bytes : ByteArray} {maxL : Nat} {rm : Room} {as' : Array Value} {Q' : Option Value → Heap → List Loc → Prop} (hy1 : y.name = "<init>")
    (hown : s.vm.findClass own = some m.cls) (w1 : (Jvm.Cond.methodLink own index y).before a0 Z = true) (w2 : (Jvm.Cond.instanceMethod y).before a0 Z = true) (w3 : (Jvm.Cond.initialized y.cls).before a0 Z = true) (w4 : (Jvm.Cond.code y bytes maxL none).before a0 Z = true) (hy : y.cls ≠ "java/lang/invoke/MethodHandle" ∧ y.cls ≠ "java/lang/invoke/VarHandle")
    (hM : own_Met l y bytes maxL none rm Z [] as' h Q') (eT : T.heap = h) {a : Addr} {pc : Nat} {Ls : Array Slot} {st argsL rest : List Value} (hst : st = argsL.reverse ++ .ref a :: rest) (has : (.ref a :: argsL).toArray = as') (hsize : Ls.size = c.maxLocals) (hlen : ∀ sig, parseMethodDescriptor y.desc = some sig → argsL.length = sig.parameters.length)
    (hd : decode c.code pc = .ok (.invokespecial index, 3)) {W : Nat} (hW : (rest.map fun v => v.category).sum ≤ W) (hf : rm.frames + 1 ≤ R.frames) (hl : W + (maxL + 11) + rm.locals ≤ R.locals) (hc : cells + rm.cells ≤ R.cells) (hs : slots + rm.slots ≤ R.slots)
    (H : ∀ (v : Option Value) (T' : State) (L : List Loc), Stand p l e R s m args below meth c T' (locs ++ L) (cells + rm.cells) (slots + rm.slots) → Q' v T'.heap L → own_Fin p e below s Q kc kn (T'.setTop (mkF m (pc + 3) Ls (v.toList ++ rest)))) :
    own_Fin p e below s Q kc kn (T.setTop (mkF m pc Ls st)) := by
  subst hst
  obtain ⟨v, _, ⟨T', L', k', n'⟩, -, X', ⟨Lc, hQ, l1, y1, z1⟩, st⟩ := X.specialBack hx (y := y) hy1 hown (mvT hZ w1) (mvT hZ w2) (mvT hZ w4) hy (backOf (W := W) hM hZ w4 w3 hf hl) (g := mkF m pc Ls (argsL.reverse ++ .ref a :: rest)) rfl hsize (Steps.refl _) (a := a) hlen rfl (by show 2 * 0 + _ ≤ _; omega) hd (fun _ _ => ⟨has, eT, hc, hs⟩)
  dsimp only [Pt.U, Pt.locs, Pt.cells, Pt.slots] at X' l1 y1 z1 st hQ
  subst l1 y1 z1
  exact own_go (fun _ k => st.trans k) (H _ _ _ X' hQ)
theorem own_initO (X : Stand p l e R s m args below meth c T locs cells slots) (hx : p.tables.exec = Jvm.exec) (hZ : Z.Warmed39 s.vm) {own : String} {idx : Nat} (hown : s.vm.findClass own = some m.cls) (w1 : (Jvm.Cond.methodLink own idx Lib.objectInit).before a0 Z = true) (w2 : (Jvm.Cond.instanceMethod Lib.objectInit).before a0 Z = true)
    (w3 : (Jvm.Cond.code Lib.objectInit ⟨#[0xb1]⟩ 1 none).before a0 Z = true) (eT : T.heap = h) {pc : Nat} {Ls : Array Slot} (hsize : Ls.size = c.maxLocals) {a : Addr} {rest : List Value} (hd : decode c.code pc = .ok (.invokespecial idx, 3))
    (hf : 1 ≤ R.frames) {W : Nat} (hW : (rest.map fun v => v.category).sum ≤ W) (hl : W + 12 ≤ R.locals)
    (H : ∀ (T' : State), Stand p l e R s m args below meth c T' locs cells slots → T'.heap = h → own_Fin p e below s Q kc kn (T'.setTop (mkF m (pc + 3) Ls rest))) :
    own_Fin p e below s Q kc kn (T.setTop (mkF m pc Ls (.ref a :: rest))) := by
  obtain ⟨T', X', e', st⟩ := initO X hx hZ hown w1 w2 w3 eT (g := mkF m pc Ls (.ref a :: rest)) rfl hsize rfl hd hf (W := W) (by show 2 * 0 + _ ≤ _; omega) hl
  exact own_go st (H _ X' e')
theorem own_getF (X : Stand p l e R s m args below meth c T locs cells slots) (hx : p.tables.exec = Jvm.exec) (hZ : Z.Warmed39 s.vm) {own R0 O n d host : String} {index : Nat} (hown : s.vm.findClass own = some m.cls) (w : (Jvm.Cond.fieldLink own index R0 n d).before a0 Z = true ∨ (Jvm.Cond.fieldLinkNest own index R0 n d host).before a0 Z = true) (via : Via Z R0 O n d)
    (eT : T.heap = h) {a : Addr} {v : Value} (F : Fld Z h a O n d v) {pc : Nat} {Ls : Array Slot} {rest : List Value} (hd : decode c.code pc = .ok (.getfield index, 3))
    (H : ∀ (T' : State), Stand p l e R s m args below meth c T' locs cells slots → T'.heap = h → own_Fin p e below s Q kc kn (T'.setTop (mkF m (pc + 3) Ls (v :: rest)))) :
    own_Fin p e below s Q kc kn (T.setTop (mkF m pc Ls (.ref a :: rest))) := by
  obtain ⟨T', X', e', st⟩ := getF X hx hZ hown w via eT F (g := mkF m pc Ls (.ref a :: rest)) rfl rfl hd
  exact own_go st (H _ X' e')
theorem own_getS (X : Stand p l e R s m args below meth c T locs cells slots) (hx : p.tables.exec = Jvm.exec) (hZ : Z.Warmed39 s.vm) {own R0 O n d host : String} {index : Nat} (hown : s.vm.findClass own = some m.cls) (w : (Jvm.Cond.fieldLink own index R0 n d).before a0 Z = true ∨ (Jvm.Cond.fieldLinkNest own index R0 n d host).before a0 Z = true) (via : Via Z R0 O n d)
    (eT : T.heap = h) {v : Value} (F : Sta Z h O n d v) {pc : Nat} {Ls : Array Slot} {rest : List Value} (hd : decode c.code pc = .ok (.getstatic index, 3))
    (H : ∀ (T' : State), Stand p l e R s m args below meth c T' locs cells slots → T'.heap = h → own_Fin p e below s Q kc kn (T'.setTop (mkF m (pc + 3) Ls (v :: rest)))) :
    own_Fin p e below s Q kc kn (T.setTop (mkF m pc Ls rest)) := by
  obtain ⟨T', X', e', st⟩ := getS2 X hx hZ hown w via eT F (g := mkF m pc Ls rest) rfl hd
  exact own_go st (H _ X' e')
theorem own_putF (X : Stand p l e R s m args below meth c T locs cells slots) (hx : p.tables.exec = Jvm.exec) (hZ : Z.Warmed39 s.vm) {own R0 O n d host C : String} {index kk : Nat} {ty : FieldType} (hown : s.vm.findClass own = some m.cls) (w : (Jvm.Cond.fieldLink own index R0 n d).before a0 Z = true ∨ (Jvm.Cond.fieldLinkNest own index R0 n d host).before a0 Z = true) (via : Via Z R0 O n d)
    (eT : T.heap = h) {a : Addr} {v old : Value} (F : Fld Z h a O n d old) (E : Exa Z h a C) (L : (Jvm.Cond.lays C O n d).before a0 Z = true ∨ ((Jvm.Cond.laysFinal C O n d).before a0 Z = true ∧ own = O ∧ meth.name = "<init>")) (wi : (Jvm.Cond.instantiable C kk).before a0 Z = true)
    (hty : parseFieldDescriptor d = some ty) (hn : narrow ty v = v) (hf : fits ty v = true) {pc : Nat} {Ls : Array Slot} {rest : List Value} (hd : decode c.code pc = .ok (.putfield index, 3))
    (H : ∀ (T' : State) (h' : Heap), Stand p l e R s m args below meth c T' (locs ++ [⟨a, Jvm.RoadKit.slotOf Z O n d⟩]) cells slots → T'.heap = h' → Wr h h' a (Jvm.RoadKit.slotOf Z O n d) v → own_Fin p e below s Q kc kn (T'.setTop (mkF m (pc + 3) Ls rest))) :
    own_Fin p e below s Q kc kn (T.setTop (mkF m pc Ls (v :: .ref a :: rest))) := by
  obtain ⟨T', h', X', e', W', st⟩ := putF X hx hZ hown w via eT F E L wi hty hn hf (g := mkF m pc Ls (v :: .ref a :: rest)) rfl rfl hd
  exact own_go st (H _ _ X' e' W')
theorem own_new (X : Stand p l e R s m args below meth c T locs cells slots) (hx : p.tables.exec = Jvm.exec) (hZ : Z.Warmed39 s.vm) {own C : String} {index n : Nat} (hown : s.vm.findClass own = some m.cls) (w : (Jvm.Cond.classLink own index C).before a0 Z = true) (wi : (Jvm.Cond.instantiable C n).before a0 Z = true) (wz : (Jvm.Cond.initialized C).before a0 Z = true) (eT : T.heap = h)
    {pc : Nat} {Ls : Array Slot} {rest : List Value} (hd : decode c.code pc = .ok (.new index, 3)) (hc : cells + 1 ≤ R.cells) (hl : slots + n ≤ R.slots)
    (H : ∀ (T' : State) (h' : Heap) (a : Addr), a = h.size → Stand p l e R s m args below meth c T' locs (cells + 1) (slots + n) → T'.heap = h' → Ext h h' → Exa Z h' a C → (∀ {O nm d : String} {ty : FieldType}, Laid Z a0 C O nm d → parseFieldDescriptor d = some ty → Fld Z h' a O nm d (defaultValue ty)) → own_Fin p e below s Q kc kn (T'.setTop (mkF m (pc + 3) Ls (.ref a :: rest)))) :
    own_Fin p e below s Q kc kn (T.setTop (mkF m pc Ls rest)) := by
  obtain ⟨T', h', X', e', E', A', D', -, st⟩ := newO X hx hZ hown w wi wz eT (g := mkF m pc Ls rest) rfl hd hc hl
  exact own_go st (H _ _ _ rfl X' e' E' A' D')
theorem own_callU (X : Stand p l e R s m args below meth c T locs cells slots) (hx : p.tables.exec = Jvm.exec) (hZ : Z.Warmed39 s.vm) {own C owner : String} {index : Nat} {y z : MethodName} {bytes : ByteArray} {maxL : Nat} {ret : Option FieldType} {rm : Room} {as' : Array Value} {Q' : Option Value → Heap → List Loc → Prop}
    (hown : s.vm.findClass own = some m.cls) (w1 : (Jvm.Cond.methodLink own index y).before a0 Z = true) (w2 : (Jvm.Cond.sameMethod y.cls owner y.name y.desc).before a0 Z = true) (w2' : (Jvm.Cond.declares ⟨owner, y.name, y.desc⟩).before a0 Z = true) (hy : owner ≠ "java/lang/invoke/MethodHandle" ∧ owner ≠ "java/lang/invoke/VarHandle") (w3 : (Jvm.Cond.selects C y z).before a0 Z = true) (w4 : (Jvm.Cond.instanceMethod z).before a0 Z = true) (w5 : (Jvm.Cond.code z bytes maxL ret).before a0 Z = true) (w6 : (Jvm.Cond.initialized z.cls).before a0 Z = true)
    (hM : own_Met l z bytes maxL ret rm Z [] as' h Q') (eT : T.heap = h) {a : Addr} (E : Exa Z h a C) {pc : Nat} {Ls : Array Slot} {st argsL rest : List Value} (hst : st = argsL.reverse ++ .ref a :: rest) (has : (.ref a :: argsL).toArray = as') (hsize : Ls.size = c.maxLocals) (hlen : ∀ sig, parseMethodDescriptor y.desc = some sig → argsL.length = sig.parameters.length)
    (hd : decode c.code pc = .ok (.invokevirtual index, 3)) {W : Nat} (hW : (rest.map fun v => v.category).sum ≤ W) (hf : rm.frames + 1 ≤ R.frames) (hl : W + (maxL + 11) + rm.locals ≤ R.locals) (hc : cells + rm.cells ≤ R.cells) (hs : slots + rm.slots ≤ R.slots)
    (H : ∀ (v : Option Value) (T' : State) (L : List Loc), Stand p l e R s m args below meth c T' (locs ++ L) (cells + rm.cells) (slots + rm.slots) → Q' v T'.heap L → own_Fin p e below s Q kc kn (T'.setTop (mkF m (pc + 3) Ls (v.toList ++ rest)))) :
    own_Fin p e below s Q kc kn (T.setTop (mkF m pc Ls st)) := by
  subst hst
  obtain ⟨cB, kB, q1, q2, q3⟩ := isOf (T := T) hZ eT E
  obtain ⟨v, _, ⟨T', L', k', n'⟩, -, X', ⟨Lc, hQ, l1, y1, z1⟩, st⟩ := X.virtualBackUp hx (x := y) (y := z) hown (mvT hZ w1) (mvT hZ w2) (mvT hZ w2') hy (mvT hZ w3) (mvT hZ w4) (backOf (W := W) hM hZ w5 w6 hf hl) q1 q3 (g := mkF m pc Ls (argsL.reverse ++ .ref a :: rest)) rfl hsize (Steps.refl _) hlen rfl (by show 2 * 0 + _ ≤ _; omega) hd (fun _ _ => ⟨has, eT, hc, hs⟩)
  dsimp only [Pt.U, Pt.locs, Pt.cells, Pt.slots] at X' l1 y1 z1 st hQ
  subst l1 y1 z1
  exact own_go (fun _ k => st.trans k) (H _ _ _ X' hQ)
theorem own_lswHit (X : Stand p l e R s m args below meth c T locs cells slots) (hx : p.tables.exec = Jvm.exec) {pc pc' : Nat} {Ls : Array Slot} {k : Int32} {rest : List Value} {default : Int} {pairs : Array (Int × Int)} {len : Nat} (hd : decode c.code pc = .ok (.lookupswitch default pairs, len))
    (hsorted : (pairs.toList.zip (pairs.toList.drop 1)).all (fun (a, next) => a.1 < next.1) = true) {a off : Int} (hfind : pairs.find? (·.1 == k.toInt) = some (a, off)) (hoff : 0 ≤ (pc : Int) + off) (hp : ((pc : Int) + off).toNat = pc')
    (H : own_Fin p e below s Q kc kn (T.setTop (mkF m pc' Ls rest))) : own_Fin p e below s Q kc kn (T.setTop (mkF m pc Ls (.int k :: rest))) := by
  subst hp
  exact own_go (fun t q => X.lookupswitchHit hx (g := mkF m pc Ls (.int k :: rest)) rfl rfl hd hsorted hfind hoff t q) H
theorem own_lswMiss (X : Stand p l e R s m args below meth c T locs cells slots) (hx : p.tables.exec = Jvm.exec) {pc pc' : Nat} {Ls : Array Slot} {k : Int32} {rest : List Value} {default : Int} {pairs : Array (Int × Int)} {len : Nat} (hd : decode c.code pc = .ok (.lookupswitch default pairs, len))
    (hsorted : (pairs.toList.zip (pairs.toList.drop 1)).all (fun (a, next) => a.1 < next.1) = true) (hfind : ∀ q ∈ pairs.toList, q.1 ≠ k.toInt) (hoff : 0 ≤ (pc : Int) + default) (hp : ((pc : Int) + default).toNat = pc')
    (H : own_Fin p e below s Q kc kn (T.setTop (mkF m pc' Ls rest))) : own_Fin p e below s Q kc kn (T.setTop (mkF m pc Ls (.int k :: rest))) := by
  subst hp
  exact own_go (fun t q => X.lookupswitchMiss hx (g := mkF m pc Ls (.int k :: rest)) rfl rfl hd hsorted (find_miss hfind) hoff t q) H
theorem own_castY (X : Stand p l e R s m args below meth c T locs cells slots) (hx : p.tables.exec = Jvm.exec) (hZ : Z.Warmed39 s.vm) {own K : String} {index : Nat} (hown : s.vm.findClass own = some m.cls) (w : (Jvm.Cond.classLink own index K).before a0 Z = true) (eT : T.heap = h) {a : Addr} (F : Ins Z h a K true)
    {pc : Nat} {Ls : Array Slot} {rest : List Value} (hd : decode c.code pc = .ok (.checkcast index, 3))
    (H : ∀ (T' : State), Stand p l e R s m args below meth c T' locs cells slots → T'.heap = h → own_Fin p e below s Q kc kn (T'.setTop (mkF m (pc + 3) Ls (.ref a :: rest)))) :
    own_Fin p e below s Q kc kn (T.setTop (mkF m pc Ls (.ref a :: rest))) := by
  obtain ⟨T', X', e', st⟩ := castY X hx hZ hown w eT F (g := mkF m pc Ls (.ref a :: rest)) rfl rfl hd
  exact own_go st (H _ X' e')
theorem own_Sta_keep0 {C n d : String} {v : Value} {h h' : Heap} (F : Sta Z h C n d v) (K : Keep h h' []) : Sta Z h' C n d v := by
  obtain ⟨cf, i, k, f, st, cell, h1, h2, h3, h4, h5, r⟩ := F
  exact ⟨cf, i, k, f, st, cell, h1, h2, h3, h4, K.2.1 _ _ h5 nin0, r⟩
theorem own_Arr_keep0 {a : Addr} {cl : Cell} {ty : FieldType} {h h' : Heap} (F : Arr Z h a cl ty) (K : Keep h h' []) : Arr Z h' a cl ty := ⟨K.2.1 _ _ F.1 nin0, F.2⟩
theorem own_neI {k z : Int32} {n : Int} (hz : z.toInt = n) (q : ¬ k = z) : n ≠ k.toInt := fun e => q (Int32.toInt_inj.mp (by rw [hz]; exact e.symm))
theorem own_fldI {args : Array Value} {t : Term} {O nm dd : String} {v : Int32} {a : Addr} (q : (Jvm.Cond.eq (.field t O nm dd) (.int v)).value args Z none Z [] = some true) (ev : t.eval args Z none [] Z = some (.ref a)) : Fld Z Z.heap a O nm dd (.int v) := by
  refine Fld.start ?_
  have e1 := fld_at (C := O) (n := nm) (dd := dd) ev
  simp only [Cond.value, e1] at q
  cases hf : Z.fieldOf? a O nm dd with
  | none => simp [hf] at q
  | some x => cases x <;> simp [hf, Term.eval] at q ⊢; exact q
theorem own_fldR {args : Array Value} {t u : Term} {O nm dd : String} {a b : Addr} (q : (Jvm.Cond.eq (.field t O nm dd) u).value args Z none Z [] = some true) (ev : t.eval args Z none [] Z = some (.ref a)) (eu : u.eval args Z none [] Z = some (.ref b)) : Fld Z Z.heap a O nm dd (.ref b) := by
  refine Fld.start ?_
  have e1 := fld_at (C := O) (n := nm) (dd := dd) ev
  simp only [Cond.value, e1, eu] at q
  cases hf : Z.fieldOf? a O nm dd with
  | none => simp [hf] at q
  | some x => cases x <;> simp [hf] at q ⊢; exact q
end Own

section OwnArr
variable {p : Program} {l : Launch} {e : Env} {R : Room} {s : State} {m : MethodId} {args : Array Value} {below : List Frame} {meth : Method} {c : Code} {T : State} {locs : List Loc} {cells slots : Nat} {Z : State} {a0 : Array Value} {h h' : Heap} {Q : Option Value → Heap → List Loc → Prop} {kc kn : Nat} {a b : Addr} {ty : FieldType} {vs : List Value} {v w : Value} {ws : List Addr} {sl : Nat}
/-- the array at a holds just vs -/
def own_Ar (Z : State) (h : Heap) (a : Addr) (ty : FieldType) (vs : List Value) : Prop := ∃ c : Cell, Arr Z h a c ty ∧ c.slots = vs.toArray ∧ vs.length < 2 ^ 31
theorem own_Ar.lt (F : own_Ar Z h a ty vs) : a < h.size := by obtain ⟨c, A, -⟩ := F; exact A.lt
theorem own_Ar.ext (F : own_Ar Z h a ty vs) (E : Ext h h') : own_Ar Z h' a ty vs := by obtain ⟨c, A, r⟩ := F; exact ⟨c, A.ext E, r⟩
theorem own_Ar.other (F : own_Ar Z h b ty vs) (W : Wr h h' a sl v) (q : b ≠ a) : own_Ar Z h' b ty vs := by obtain ⟨c, A, r⟩ := F; exact ⟨c, A.other W q, r⟩
theorem own_Ar.keep (F : own_Ar Z h a ty vs) (K : Keep h h' ws) (q : a ∉ ws) : own_Ar Z h' a ty vs := by obtain ⟨c, A, r⟩ := F; exact ⟨c, ⟨K.2.1 a c A.1 q, A.2⟩, r⟩
theorem own_Ar.set (F : own_Ar Z h a ty vs) (W : Wr h h' a sl v) : own_Ar Z h' a ty (vs.set sl v) := by
  obtain ⟨c, A, q1, q2⟩ := F
  refine ⟨_, A.same W, ?_, by rw [List.length_set]; exact q2⟩
  show c.slots.setIfInBounds sl v = _
  rw [q1]; simp
theorem own_Ar.len (F : own_Ar Z h a ty vs) : vs.length < 2 ^ 31 := by obtain ⟨_, _, _, q⟩ := F; exact q
theorem own_in {c : Cell} (q : c.slots = vs.toArray) {j : Int32} (hj : ¬ j < 0) (hi : j.toNatClampNeg < vs.length) : ¬ (j < 0 ∨ c.slots.size ≤ j.toNatClampNeg) := by
  rw [q]; simp only [List.size_toArray]; exact fun w => w.elim hj fun w => absurd hi (Nat.not_lt.mpr w)
theorem own_lt {vs : List Value} {i : Nat} (hv : vs[i]? = some v) : i < vs.length := (List.getElem?_eq_some_iff.mp hv).1
theorem own_iaload (X : Stand p l e R s m args below meth c T locs cells slots) (hx : p.tables.exec = Jvm.exec) (hZ : Z.Warmed39 s.vm) (eT : T.heap = h) (F : own_Ar Z h a .int vs) {j : Int32} (hj : ¬ j < 0) (hv : vs[j.toNatClampNeg]? = some v) {pc : Nat} {Ls : Array Slot} {rest : List Value} (hd : decode c.code pc = .ok (.iaload, 1))
    (H : own_Fin p e below s Q kc kn (T.setTop (mkF m (pc + 1) Ls (v :: rest)))) : own_Fin p e below s Q kc kn (T.setTop (mkF m pc Ls (.int j :: .ref a :: rest))) := by
  obtain ⟨c', A, q1, q2⟩ := F
  exact own_go (fun t k => X.iaload hx (j := j) (v := v) (by rw [eT]; exact A.1) (State.isArrayOf_alike hZ.alike A.2.1) A.2.2 (own_in q1 hj (own_lt hv)) (by rw [q1]; simpa using hv) (g := mkF m pc Ls (.int j :: .ref a :: rest)) rfl rfl hd t k) H
theorem own_laload (X : Stand p l e R s m args below meth c T locs cells slots) (hx : p.tables.exec = Jvm.exec) (hZ : Z.Warmed39 s.vm) (eT : T.heap = h) (F : own_Ar Z h a .long vs) {j : Int32} (hj : ¬ j < 0) (hv : vs[j.toNatClampNeg]? = some v) {pc : Nat} {Ls : Array Slot} {rest : List Value} (hd : decode c.code pc = .ok (.laload, 1))
    (H : own_Fin p e below s Q kc kn (T.setTop (mkF m (pc + 1) Ls (v :: rest)))) : own_Fin p e below s Q kc kn (T.setTop (mkF m pc Ls (.int j :: .ref a :: rest))) := by
  obtain ⟨c', A, q1, q2⟩ := F
  exact own_go (fun t k => X.laload hx (j := j) (v := v) (by rw [eT]; exact A.1) (State.isArrayOf_alike hZ.alike A.2.1) A.2.2 (own_in q1 hj (own_lt hv)) (by rw [q1]; simpa using hv) (g := mkF m pc Ls (.int j :: .ref a :: rest)) rfl rfl hd t k) H
theorem own_zaload (X : Stand p l e R s m args below meth c T locs cells slots) (hx : p.tables.exec = Jvm.exec) (hZ : Z.Warmed39 s.vm) (eT : T.heap = h) (F : own_Ar Z h a .boolean vs) {j : Int32} (hj : ¬ j < 0) (hv : vs[j.toNatClampNeg]? = some v) {pc : Nat} {Ls : Array Slot} {rest : List Value} (hd : decode c.code pc = .ok (.baload, 1))
    (H : own_Fin p e below s Q kc kn (T.setTop (mkF m (pc + 1) Ls (v :: rest)))) : own_Fin p e below s Q kc kn (T.setTop (mkF m pc Ls (.int j :: .ref a :: rest))) := by
  obtain ⟨c', A, q1, q2⟩ := F
  exact own_go (fun t k => X.baloadBooleans hx (j := j) (v := v) (by rw [eT]; exact A.1) (State.isArrayOf_alike hZ.alike A.2.1) A.2.2 (own_in q1 hj (own_lt hv)) (by rw [q1]; simpa using hv) (g := mkF m pc Ls (.int j :: .ref a :: rest)) rfl rfl hd t k) H
theorem own_aaload (X : Stand p l e R s m args below meth c T locs cells slots) (hx : p.tables.exec = Jvm.exec) (hZ : Z.Warmed39 s.vm) (eT : T.heap = h) (F : own_Ar Z h a ty vs) (hty : ty.isReference = true) {j : Int32} (hj : ¬ j < 0) (hv : vs[j.toNatClampNeg]? = some v) {pc : Nat} {Ls : Array Slot} {rest : List Value} (hd : decode c.code pc = .ok (.aaload, 1))
    (H : own_Fin p e below s Q kc kn (T.setTop (mkF m (pc + 1) Ls (v :: rest)))) : own_Fin p e below s Q kc kn (T.setTop (mkF m pc Ls (.int j :: .ref a :: rest))) := by
  obtain ⟨c', A, q1, q2⟩ := F
  exact own_go (fun t k => X.aaload hx (j := j) (v := v) (by rw [eT]; exact A.1) (State.isArrayOf_alike hZ.alike A.2.1) hty A.2.2 (own_in q1 hj (own_lt hv)) (by rw [q1]; simpa using hv) (g := mkF m pc Ls (.int j :: .ref a :: rest)) rfl rfl hd t k) H
theorem own_alen (X : Stand p l e R s m args below meth c T locs cells slots) (hx : p.tables.exec = Jvm.exec) (hZ : Z.Warmed39 s.vm) (eT : T.heap = h) (F : own_Ar Z h a ty vs) {pc : Nat} {Ls : Array Slot} {rest : List Value} (hd : decode c.code pc = .ok (.arraylength, 1))
    (H : own_Fin p e below s Q kc kn (T.setTop (mkF m (pc + 1) Ls (.int (Int32.ofNat vs.length) :: rest)))) : own_Fin p e below s Q kc kn (T.setTop (mkF m pc Ls (.ref a :: rest))) := by
  obtain ⟨c', A, q1, q2⟩ := F
  refine own_go (fun t k => X.arraylength hx (by rw [eT]; exact A.1) (State.isArrayOf_alike hZ.alike A.2.1) (g := mkF m pc Ls (.ref a :: rest)) rfl rfl hd t k) ?_
  rw [q1]; simp only [List.size_toArray]; exact H
theorem own_iastore (X : Stand p l e R s m args below meth c T locs cells slots) (hx : p.tables.exec = Jvm.exec) (hZ : Z.Warmed39 s.vm) (eT : T.heap = h) (F : own_Ar Z h a .int vs) {j x : Int32} (hj : ¬ j < 0) (hi : j.toNatClampNeg < vs.length) {pc : Nat} {Ls : Array Slot} {rest : List Value} (hd : decode c.code pc = .ok (.iastore, 1))
    (H : ∀ (T' : State) (h' : Heap), Stand p l e R s m args below meth c T' (locs ++ [⟨a, j.toNatClampNeg⟩]) cells slots → T'.heap = h' → Wr h h' a j.toNatClampNeg (.int x) → own_Ar Z h' a .int (vs.set j.toNatClampNeg (.int x)) → own_Fin p e below s Q kc kn (T'.setTop (mkF m (pc + 1) Ls rest))) :
    own_Fin p e below s Q kc kn (T.setTop (mkF m pc Ls (.int x :: .int j :: .ref a :: rest))) := by
  have F' := F
  obtain ⟨c', A, q1, q2⟩ := F
  obtain ⟨T', h', X', e', W', st⟩ := stI X hx hZ eT A (j := j) (x := x) (own_in q1 hj hi) (g := mkF m pc Ls (.int x :: .int j :: .ref a :: rest)) rfl rfl hd
  exact own_go st (H _ _ X' e' W' (F'.set W'))
theorem own_lastore (X : Stand p l e R s m args below meth c T locs cells slots) (hx : p.tables.exec = Jvm.exec) (hZ : Z.Warmed39 s.vm) (eT : T.heap = h) (F : own_Ar Z h a .long vs) {j : Int32} {x : Int64} (hj : ¬ j < 0) (hi : j.toNatClampNeg < vs.length) {pc : Nat} {Ls : Array Slot} {rest : List Value} (hd : decode c.code pc = .ok (.lastore, 1))
    (H : ∀ (T' : State) (h' : Heap), Stand p l e R s m args below meth c T' (locs ++ [⟨a, j.toNatClampNeg⟩]) cells slots → T'.heap = h' → Wr h h' a j.toNatClampNeg (.long x) → own_Ar Z h' a .long (vs.set j.toNatClampNeg (.long x)) → own_Fin p e below s Q kc kn (T'.setTop (mkF m (pc + 1) Ls rest))) :
    own_Fin p e below s Q kc kn (T.setTop (mkF m pc Ls (.long x :: .int j :: .ref a :: rest))) := by
  have F' := F
  obtain ⟨c', A, q1, q2⟩ := F
  obtain ⟨T', h', X', e', W', st⟩ := stJ X hx hZ eT A (j := j) (x := x) (own_in q1 hj hi) (g := mkF m pc Ls (.long x :: .int j :: .ref a :: rest)) rfl rfl hd
  exact own_go st (H _ _ X' e' W' (F'.set W'))
theorem own_zastore (X : Stand p l e R s m args below meth c T locs cells slots) (hx : p.tables.exec = Jvm.exec) (hZ : Z.Warmed39 s.vm) (eT : T.heap = h) (F : own_Ar Z h a .boolean vs) {j x : Int32} (hj : ¬ j < 0) (hi : j.toNatClampNeg < vs.length) {pc : Nat} {Ls : Array Slot} {rest : List Value} (hd : decode c.code pc = .ok (.bastore, 1)) (hn : nar .boolean x = x)
    (H : ∀ (T' : State) (h' : Heap), Stand p l e R s m args below meth c T' (locs ++ [⟨a, j.toNatClampNeg⟩]) cells slots → T'.heap = h' → Wr h h' a j.toNatClampNeg (.int x) → own_Ar Z h' a .boolean (vs.set j.toNatClampNeg (.int x)) → own_Fin p e below s Q kc kn (T'.setTop (mkF m (pc + 1) Ls rest))) :
    own_Fin p e below s Q kc kn (T.setTop (mkF m pc Ls (.int x :: .int j :: .ref a :: rest))) := by
  have F' := F
  obtain ⟨c', A, q1, q2⟩ := F
  obtain ⟨T', h', X', e', W', st⟩ := stZ X hx hZ eT A (j := j) (x := x) (own_in q1 hj hi) (g := mkF m pc Ls (.int x :: .int j :: .ref a :: rest)) rfl rfl hd
  rw [hn] at W'
  exact own_go st (H _ _ X' e' W' (F'.set W'))
theorem own_newarr (X : Stand p l e R s m args below meth c T locs cells slots) (hx : p.tables.exec = Jvm.exec) (hZ : Z.Warmed39 s.vm) {aty : ArrayType} (w : (Jvm.Cond.arrayClass (newarray.typeOf aty)).before a0 Z = true) (eT : T.heap = h) {pc : Nat} {Ls : Array Slot} {rest : List Value} (hd : decode c.code pc = .ok (.newarray aty, 2)) {n : Int32}
    (hn : ¬ n < 0) {cap : Nat} (hcap : n.toNatClampNeg ≤ cap) (hb : cap * 8 ≤ 536870912) (hc : cells + 1 ≤ R.cells) (hl : slots + cap ≤ R.slots) {ad : String} (had : "[" ++ (newarray.typeOf aty).toString = ad)
    (H : ∀ (T' : State) (h' : Heap) (a : Addr), a = h.size → Stand p l e R s m args below meth c T' locs (cells + 1) (slots + cap) → T'.heap = h' → Ext h h' → own_Ar Z h' a (newarray.typeOf aty) (List.replicate n.toNatClampNeg (defaultValue (newarray.typeOf aty))) → Exa Z h' a ad → own_Fin p e below s Q kc kn (T'.setTop (mkF m (pc + 2) Ls (.ref a :: rest)))) :
    own_Fin p e below s Q kc kn (T.setTop (mkF m pc Ls (.int n :: rest))) := by
  obtain ⟨T', h', cA, X', e', E', A', D', st⟩ := newPE X hx hZ w eT (g := mkF m pc Ls (.int n :: rest)) rfl hd rfl hn hcap hb hc hl had
  exact own_go st (H _ _ _ rfl X' e' E' ⟨_, A', by simp [newA], by simp only [List.length_replicate]; omega⟩ D')
theorem own_ldI (X : Stand p l e R s m args below meth c T locs cells slots) (hx : p.tables.exec = Jvm.exec) (hZ : Z.Warmed39 s.vm) (eT : T.heap = h) {xs : List Int32} (F : own_Ar Z h a .int (xs.map Value.int)) {j : Int32} (hj : ¬ j < 0) (hi : j.toNatClampNeg < xs.length) {pc : Nat} {Ls : Array Slot} {rest : List Value} (hd : decode c.code pc = .ok (.iaload, 1))
    (H : own_Fin p e below s Q kc kn (T.setTop (mkF m (pc + 1) Ls (Value.int (xs.getD j.toNatClampNeg 0) :: rest)))) : own_Fin p e below s Q kc kn (T.setTop (mkF m pc Ls (.int j :: .ref a :: rest))) :=
  own_iaload X hx hZ eT F hj (by simp [List.getD_eq_getElem?_getD, hi]) hd H
theorem own_ldZ (X : Stand p l e R s m args below meth c T locs cells slots) (hx : p.tables.exec = Jvm.exec) (hZ : Z.Warmed39 s.vm) (eT : T.heap = h) {xs : List Int32} (F : own_Ar Z h a .boolean (xs.map Value.int)) {j : Int32} (hj : ¬ j < 0) (hi : j.toNatClampNeg < xs.length) {pc : Nat} {Ls : Array Slot} {rest : List Value} (hd : decode c.code pc = .ok (.baload, 1))
    (H : own_Fin p e below s Q kc kn (T.setTop (mkF m (pc + 1) Ls (Value.int (xs.getD j.toNatClampNeg 0) :: rest)))) : own_Fin p e below s Q kc kn (T.setTop (mkF m pc Ls (.int j :: .ref a :: rest))) :=
  own_zaload X hx hZ eT F hj (by simp [List.getD_eq_getElem?_getD, hi]) hd H
theorem own_ldJ (X : Stand p l e R s m args below meth c T locs cells slots) (hx : p.tables.exec = Jvm.exec) (hZ : Z.Warmed39 s.vm) (eT : T.heap = h) {xs : List Int64} (F : own_Ar Z h a .long (xs.map Value.long)) {j : Int32} (hj : ¬ j < 0) (hi : j.toNatClampNeg < xs.length) {pc : Nat} {Ls : Array Slot} {rest : List Value} (hd : decode c.code pc = .ok (.laload, 1))
    (H : own_Fin p e below s Q kc kn (T.setTop (mkF m (pc + 1) Ls (Value.long (xs.getD j.toNatClampNeg 0) :: rest)))) : own_Fin p e below s Q kc kn (T.setTop (mkF m pc Ls (.int j :: .ref a :: rest))) :=
  own_laload X hx hZ eT F hj (by simp [List.getD_eq_getElem?_getD, hi]) hd H
theorem own_stI (X : Stand p l e R s m args below meth c T locs cells slots) (hx : p.tables.exec = Jvm.exec) (hZ : Z.Warmed39 s.vm) (eT : T.heap = h) {xs : List Int32} (F : own_Ar Z h a .int (xs.map Value.int)) {j : Int32} {x : Int32} (hj : ¬ j < 0) (hi : j.toNatClampNeg < xs.length) {pc : Nat} {Ls : Array Slot} {rest : List Value} (hd : decode c.code pc = .ok (.iastore, 1))
    (H : ∀ (T' : State) (h' : Heap), Stand p l e R s m args below meth c T' (locs ++ [⟨a, j.toNatClampNeg⟩]) cells slots → T'.heap = h' → Wr h h' a j.toNatClampNeg (Value.int x) → own_Ar Z h' a .int ((xs.set j.toNatClampNeg x).map Value.int) → own_Fin p e below s Q kc kn (T'.setTop (mkF m (pc + 1) Ls rest))) :
    own_Fin p e below s Q kc kn (T.setTop (mkF m pc Ls (Value.int x :: .int j :: .ref a :: rest))) :=
  own_iastore X hx hZ eT F hj (by simpa using hi) hd fun T' h' X' e' W' F' => H T' h' X' e' W' (by rw [List.map_set]; exact F')
theorem own_stZ (X : Stand p l e R s m args below meth c T locs cells slots) (hx : p.tables.exec = Jvm.exec) (hZ : Z.Warmed39 s.vm) (eT : T.heap = h) {xs : List Int32} (F : own_Ar Z h a .boolean (xs.map Value.int)) {j : Int32} {x : Int32} (hj : ¬ j < 0) (hi : j.toNatClampNeg < xs.length) {pc : Nat} {Ls : Array Slot} {rest : List Value} (hd : decode c.code pc = .ok (.bastore, 1)) (hn : nar .boolean x = x)
    (H : ∀ (T' : State) (h' : Heap), Stand p l e R s m args below meth c T' (locs ++ [⟨a, j.toNatClampNeg⟩]) cells slots → T'.heap = h' → Wr h h' a j.toNatClampNeg (Value.int x) → own_Ar Z h' a .boolean ((xs.set j.toNatClampNeg x).map Value.int) → own_Fin p e below s Q kc kn (T'.setTop (mkF m (pc + 1) Ls rest))) :
    own_Fin p e below s Q kc kn (T.setTop (mkF m pc Ls (Value.int x :: .int j :: .ref a :: rest))) :=
  own_zastore X hx hZ eT F hj (by simpa using hi) hd hn fun T' h' X' e' W' F' => H T' h' X' e' W' (by rw [List.map_set]; exact F')
theorem own_stJ (X : Stand p l e R s m args below meth c T locs cells slots) (hx : p.tables.exec = Jvm.exec) (hZ : Z.Warmed39 s.vm) (eT : T.heap = h) {xs : List Int64} (F : own_Ar Z h a .long (xs.map Value.long)) {j : Int32} {x : Int64} (hj : ¬ j < 0) (hi : j.toNatClampNeg < xs.length) {pc : Nat} {Ls : Array Slot} {rest : List Value} (hd : decode c.code pc = .ok (.lastore, 1))
    (H : ∀ (T' : State) (h' : Heap), Stand p l e R s m args below meth c T' (locs ++ [⟨a, j.toNatClampNeg⟩]) cells slots → T'.heap = h' → Wr h h' a j.toNatClampNeg (Value.long x) → own_Ar Z h' a .long ((xs.set j.toNatClampNeg x).map Value.long) → own_Fin p e below s Q kc kn (T'.setTop (mkF m (pc + 1) Ls rest))) :
    own_Fin p e below s Q kc kn (T.setTop (mkF m pc Ls (Value.long x :: .int j :: .ref a :: rest))) :=
  own_lastore X hx hZ eT F hj (by simpa using hi) hd fun T' h' X' e' W' F' => H T' h' X' e' W' (by rw [List.map_set]; exact F')
theorem own_newI (X : Stand p l e R s m args below meth c T locs cells slots) (hx : p.tables.exec = Jvm.exec) (hZ : Z.Warmed39 s.vm) (w : (Jvm.Cond.arrayClass .int).before a0 Z = true) (eT : T.heap = h) {pc : Nat} {Ls : Array Slot} {rest : List Value} (hd : decode c.code pc = .ok (.newarray .int, 2)) {n : Int32}
    (hn : ¬ n < 0) {cap : Nat} (hcap : n.toNatClampNeg ≤ cap) (hb : cap * 8 ≤ 536870912) (hc : cells + 1 ≤ R.cells) (hl : slots + cap ≤ R.slots)
    (H : ∀ (T' : State) (h' : Heap) (a : Addr), a = h.size → Stand p l e R s m args below meth c T' locs (cells + 1) (slots + cap) → T'.heap = h' → Ext h h' → own_Ar Z h' a .int ((List.replicate n.toNatClampNeg (0 : Int32)).map Value.int) → Exa Z h' a "[I" → own_Fin p e below s Q kc kn (T'.setTop (mkF m (pc + 2) Ls (.ref a :: rest)))) :
    own_Fin p e below s Q kc kn (T.setTop (mkF m pc Ls (.int n :: rest))) :=
  own_newarr X hx hZ (aty := .int) w eT hd hn hcap hb hc hl rfl fun T' h' a g' X' e' E' F' D' => H T' h' a g' X' e' E' (by rw [List.map_replicate]; exact F') D'
theorem own_newZ (X : Stand p l e R s m args below meth c T locs cells slots) (hx : p.tables.exec = Jvm.exec) (hZ : Z.Warmed39 s.vm) (w : (Jvm.Cond.arrayClass .boolean).before a0 Z = true) (eT : T.heap = h) {pc : Nat} {Ls : Array Slot} {rest : List Value} (hd : decode c.code pc = .ok (.newarray .boolean, 2)) {n : Int32}
    (hn : ¬ n < 0) {cap : Nat} (hcap : n.toNatClampNeg ≤ cap) (hb : cap * 8 ≤ 536870912) (hc : cells + 1 ≤ R.cells) (hl : slots + cap ≤ R.slots)
    (H : ∀ (T' : State) (h' : Heap) (a : Addr), a = h.size → Stand p l e R s m args below meth c T' locs (cells + 1) (slots + cap) → T'.heap = h' → Ext h h' → own_Ar Z h' a .boolean ((List.replicate n.toNatClampNeg (0 : Int32)).map Value.int) → Exa Z h' a "[Z" → own_Fin p e below s Q kc kn (T'.setTop (mkF m (pc + 2) Ls (.ref a :: rest)))) :
    own_Fin p e below s Q kc kn (T.setTop (mkF m pc Ls (.int n :: rest))) :=
  own_newarr X hx hZ (aty := .boolean) w eT hd hn hcap hb hc hl rfl fun T' h' a g' X' e' E' F' D' => H T' h' a g' X' e' E' (by rw [List.map_replicate]; exact F') D'
theorem own_newJ (X : Stand p l e R s m args below meth c T locs cells slots) (hx : p.tables.exec = Jvm.exec) (hZ : Z.Warmed39 s.vm) (w : (Jvm.Cond.arrayClass .long).before a0 Z = true) (eT : T.heap = h) {pc : Nat} {Ls : Array Slot} {rest : List Value} (hd : decode c.code pc = .ok (.newarray .long, 2)) {n : Int32}
    (hn : ¬ n < 0) {cap : Nat} (hcap : n.toNatClampNeg ≤ cap) (hb : cap * 8 ≤ 536870912) (hc : cells + 1 ≤ R.cells) (hl : slots + cap ≤ R.slots)
    (H : ∀ (T' : State) (h' : Heap) (a : Addr), a = h.size → Stand p l e R s m args below meth c T' locs (cells + 1) (slots + cap) → T'.heap = h' → Ext h h' → own_Ar Z h' a .long ((List.replicate n.toNatClampNeg (0 : Int64)).map Value.long) → Exa Z h' a "[J" → own_Fin p e below s Q kc kn (T'.setTop (mkF m (pc + 2) Ls (.ref a :: rest)))) :
    own_Fin p e below s Q kc kn (T.setTop (mkF m pc Ls (.int n :: rest))) :=
  own_newarr X hx hZ (aty := .long) w eT hd hn hcap hb hc hl rfl fun T' h' a g' X' e' E' F' D' => H T' h' a g' X' e' E' (by rw [List.map_replicate]; exact F') D'
end OwnArr
section OwnArr2
variable {p : Program} {l : Launch} {e : Env} {R : Room} {s : State} {m : MethodId} {args : Array Value} {below : List Frame} {meth : Method} {c : Code} {T : State} {locs : List Loc} {cells slots : Nat} {Z : State} {a0 : Array Value} {h h' : Heap} {Q : Option Value → Heap → List Loc → Prop} {kc kn : Nat} {a b : Addr} {ty : FieldType} {vs : List Value} {v w : Value} {ws : List Addr} {sl : Nat}
theorem own_cloneI (X : Stand p l e R s m args below meth c T locs cells slots) (hx : p.tables.exec = Jvm.exec) (hZ : Z.Warmed39 s.vm) {own : String} {index : Nat} (hown : s.vm.findClass own = some m.cls)
    (w1 : (Jvm.Cond.methodLink own index ⟨"[I", "clone", "()Ljava/lang/Object;"⟩).before a0 Z = true) (w2 : (Jvm.Cond.sameMethod "[I" "java/lang/Object" "clone" "()Ljava/lang/Object;").before a0 Z = true) (w3 : (Jvm.Cond.native ⟨"java/lang/Object", "clone", "()Ljava/lang/Object;"⟩).before a0 Z = true)
    (w4 : (Jvm.Cond.instanceMethod ⟨"java/lang/Object", "clone", "()Ljava/lang/Object;"⟩).before a0 Z = true) (w5 : (Jvm.Cond.selects "[I" ⟨"[I", "clone", "()Ljava/lang/Object;"⟩ ⟨"java/lang/Object", "clone", "()Ljava/lang/Object;"⟩).before a0 Z = true) (w6 : (Jvm.Cond.castable "[I" "java/lang/Cloneable").before a0 Z = true)
    (eT : T.heap = h) {xs : List Int32} (F : own_Ar Z h a .int (xs.map Value.int)) (E : Exa Z h a "[I") {pc : Nat} {Ls : Array Slot} (hsize : Ls.size = c.maxLocals) {rest : List Value} (hd : decode c.code pc = .ok (.invokevirtual index, 3))
    (hf : 1 ≤ R.frames) {W cap : Nat} (hW : (rest.map fun v => v.category).sum ≤ W) (hl : W + 14 ≤ R.locals) (hcap : xs.length ≤ cap) (hc : cells + 1 ≤ R.cells) (hsl : slots + cap ≤ R.slots)
    (H : ∀ (T' : State) (h' : Heap) (b : Addr), b = h.size → Stand p l e R s m args below meth c T' locs (cells + 1) (slots + cap) → T'.heap = h' → Ext h h' → own_Ar Z h' b .int (xs.map Value.int) → Exa Z h' b "[I" → own_Fin p e below s Q kc kn (T'.setTop (mkF m (pc + 3) Ls (.ref b :: rest)))) :
    own_Fin p e below s Q kc kn (T.setTop (mkF m pc Ls (.ref a :: rest))) := by
  obtain ⟨cl, A, q1, q2⟩ := F
  have FC : FitC Z cl := fitC_of A fun i hi v hv => by
    rw [q1] at hv
    simp only [List.getElem?_toArray, List.getElem?_map, Option.map_eq_some_iff] at hv
    obtain ⟨x, -, rfl⟩ := hv; rfl
  obtain ⟨T', h', X', e', ex, A', E', st⟩ := cloneA X hx hZ hown w1 w2 w3 w4 w5 w6 eT A E FC (g := mkF m pc Ls (.ref a :: rest)) rfl hsize rfl hd hf (W := W) (by show 2 * 0 + _ ≤ _; omega) hl (cap := cap) (by rw [q1]; simpa using hcap) hc hsl
  exact own_go st (H _ _ _ rfl X' e' ex ⟨_, A', q1, q2⟩ E')
theorem own_Ar.arvI {xs : List Int32} (F : own_Ar Z h a .int (xs.map Value.int)) : ∃ k, Arv Z h a k .int (Int32.ofNat xs.length) (xs.map Value.int) (.int 0) := by
  obtain ⟨cl, A, q1, q2⟩ := F
  have q2' : xs.length < 2 ^ 31 := by simpa using q2
  have e1 : (Int32.ofNat xs.length).toNatClampNeg = xs.length := Int32.toNatClampNeg_ofNat_of_lt q2'
  refine ⟨cl.cls, cl, A, rfl, by rw [q1, e1]; simp, ?_, fun i hi => ?_, fun i hi => ?_⟩
  · rw [Int32.lt_iff_toInt_lt, Int32.toInt_ofNat_of_lt q2']; show ¬ (xs.length : Int) < 0; omega
  · rw [q1] at hi ⊢
    have hi' : i < xs.length := by simpa using hi
    simp [List.getD_eq_getElem?_getD, hi']
  · rw [q1] at hi
    have hi' : i < xs.length := by simpa using hi
    simp [List.getD_eq_getElem?_getD, hi', fits]
theorem own_of_arvI {xs : List Int32} {k : ClassId} {n : Int32} {d : Value} (F : Arv Z h a k .int n (xs.map Value.int) d) (hn : n.toNatClampNeg = xs.length) : own_Ar Z h a .int (xs.map Value.int) := by
  obtain ⟨cl, A, -, S, q3, H, -⟩ := F
  have hl : n.toNatClampNeg < 2 ^ 31 := (back32 q3).2
  refine ⟨cl, A, ?_, by simpa [← hn] using hl⟩
  apply Array.ext_getElem?
  intro i
  by_cases hi : i < cl.slots.size
  · rw [H i hi]
    have hi' : i < xs.length := by rw [← hn, ← S]; exact hi
    simp [List.getD_eq_getElem?_getD, hi']
  · rw [Array.getElem?_eq_none (by omega)]
    symm
    rw [List.getElem?_toArray, List.getElem?_eq_none]
    rw [List.length_map, ← hn, ← S]; omega
theorem own_copyI (X : Stand p l e R s m args below meth c T locs cells slots) (hx : p.tables.exec = Jvm.exec) (hZ : Z.Warmed39 s.vm) {own : String} {index : Nat} (hown : s.vm.findClass own = some m.cls)
    (w1 : (Jvm.Cond.methodLink own index Jvm.Stand.acN).before a0 Z = true) (w2 : (Jvm.Cond.native Jvm.Stand.acN).before a0 Z = true) (w3 : (Jvm.Cond.static Jvm.Stand.acN).before a0 Z = true) (w4 : (Jvm.Cond.initialized "java/lang/System").before a0 Z = true) (eT : T.heap = h)
    {xs ys : List Int32} (F : own_Ar Z h a .int (xs.map Value.int)) (G : own_Ar Z h b .int (ys.map Value.int)) {nn : Int32} {n0 : Nat} (h3 : ¬ nn < 0) (h4 : nn.toNatClampNeg ≤ xs.length) (h5 : nn.toNatClampNeg ≤ ys.length) (N : Fr n0 locs) (ge : n0 ≤ b)
    {pc : Nat} {Ls : Array Slot} (hsize : Ls.size = c.maxLocals) {rest : List Value} (hd : decode c.code pc = .ok (.invokestatic index, 3))
    (hf : 1 ≤ R.frames) {W : Nat} (hW : (rest.map fun v => v.category).sum ≤ W) (hlo : W + (nativeFrameWords "java/lang/System" "arraycopy" 5 + 11) ≤ R.locals)
    (H : ∀ (T' : State) (h' : Heap) (L : List Loc), Stand p l e R s m args below meth c T' L cells slots → T'.heap = h' → Fr n0 L → Keep h h' [b] → own_Ar Z h' b .int ((xs.take nn.toNatClampNeg ++ ys.drop nn.toNatClampNeg).map Value.int) → own_Fin p e below s Q kc kn (T'.setTop (mkF m (pc + 3) Ls rest))) :
    own_Fin p e below s Q kc kn (T.setTop (mkF m pc Ls (.int nn :: .int (0 : Int32) :: .ref b :: .int (0 : Int32) :: .ref a :: rest))) := by
  have lx : xs.length < 2 ^ 31 := by simpa using F.len
  have ly : ys.length < 2 ^ 31 := by simpa using G.len
  have ex : (Int32.ofNat xs.length).toNatClampNeg = xs.length := Int32.toNatClampNeg_ofNat_of_lt lx
  have ey : (Int32.ofNat ys.length).toNatClampNeg = ys.length := Int32.toNatClampNeg_ofNat_of_lt ly
  have e0 : (0 : Int32).toNatClampNeg = 0 := by decide
  obtain ⟨k1, A⟩ := F.arvI
  obtain ⟨k2, B⟩ := G.arvI
  obtain ⟨T', h', L, X', e', N', K', V', st⟩ := cpA X hx hZ hown w1 w2 w3 w4 eT A B (sp := 0) (dp := 0) (nn := nn) (us := (xs.take nn.toNatClampNeg).map Value.int) (Or.inl ⟨rfl, rfl⟩) (by decide) (by decide) h3 (by rw [e0, ex]; omega) (by rw [e0, ey]; omega) (by
      rw [e0]
      apply List.ext_getElem?
      intro i
      by_cases hi : i < nn.toNatClampNeg
      · have hi' : i < xs.length := by omega
        simp [List.getElem?_take, hi, List.getD_eq_getElem?_getD, hi']
      · simp [List.getElem?_take, hi]) (by rw [e0]; simpa using h5) N ge (g := mkF m pc Ls (.int nn :: .int (0 : Int32) :: .ref b :: .int (0 : Int32) :: .ref a :: rest)) rfl hsize rfl hd hf (W := W) (by show 2 * 0 + _ ≤ _; omega) hlo
  refine own_go st (H _ _ _ X' e' N' K' ?_)
  refine own_of_arvI (n := Int32.ofNat ys.length) (k := k2) (d := .int 0) ?_ ?_
  · rw [e0] at V'
    simpa [List.map_append, List.map_take, List.map_drop] using V'
  · rw [ey]; simp; omega
end OwnArr2

section OwnGrid
variable {p : Program} {l : Launch} {e : Env} {R : Room} {s : State} {m : MethodId} {args : Array Value} {below : List Frame} {meth : Method} {c : Code} {T : State} {locs : List Loc} {cells slots : Nat} {Z : State} {a0 : Array Value} {h h' : Heap} {Q : Option Value → Heap → List Loc → Prop} {kc kn : Nat} {a b g : Nat} {v w : Value} {ws : List Addr} {sl mm nn : Nat}
theorem own_ltN (i n : Nat) (hi : i < 2 ^ 31) (hn : n < 2 ^ 31) : Int32.ofNat i < Int32.ofNat n ↔ i < n := by
  rw [Int32.lt_iff_toInt_lt, Int32.toInt_ofNat_of_lt hi, Int32.toInt_ofNat_of_lt hn]; omega
theorem own_nn {i : Nat} (hi : i < 2 ^ 31) : ¬ Int32.ofNat i < 0 := by
  rw [Int32.lt_iff_toInt_lt, Int32.toInt_ofNat_of_lt hi]
  have : (0 : Int32).toInt = 0 := by decide
  omega
theorem own_tn {i : Nat} (hi : i < 2 ^ 31) : (Int32.ofNat i).toNatClampNeg = i := Int32.toNatClampNeg_ofNat_of_lt hi
theorem own_succ (i : Nat) : Int32.ofNat i + (1 : Int32) = Int32.ofNat (i + 1) := by rw [Int32.ofNat_add]; rfl
/-- the first i places filled by f, the others 0 -/
def own_L (f : Nat → Int32) (N i : Nat) : List Int32 := (List.range N).map fun j => if j < i then f j else 0
theorem own_Llen (f : Nat → Int32) (N i : Nat) : (own_L f N i).length = N := by simp [own_L]
theorem own_L0 (f : Nat → Int32) (N : Nat) : own_L f N 0 = List.replicate N 0 := by
  apply List.ext_getElem?
  intro k
  by_cases hk : k < N
  · simp [own_L, hk, List.getElem?_replicate]
  · simp [own_L, hk, List.getElem?_replicate]
theorem own_Lset {f : Nat → Int32} {N i : Nat} (hi : i < N) (hN : N < 2 ^ 31) : (own_L f N i).set (Int32.ofNat i).toNatClampNeg (f i) = own_L f N (i + 1) := by
  rw [own_tn (by omega)]
  apply List.ext_getElem?
  intro k
  by_cases hk : k = i
  · subst hk
    simp [own_L, hi]
  · rw [List.getElem?_set_ne (by omega)]
    by_cases hk2 : k < N
    · simp only [own_L, List.getElem?_map, List.getElem?_range hk2, Option.map_some]
      by_cases h3 : k < i
      · rw [if_pos h3, if_pos (by omega)]
      · rw [if_neg h3, if_neg (by omega)]
    · simp [own_L, hk2]
theorem own_LgetK {f : Nat → Int32} {N i k : Nat} (hk : k < i) (hi : i ≤ N) : List.getD (own_L f N i) k 0 = f k := by
  have h : k < N := by omega
  simp [own_L, List.getD_eq_getElem?_getD, h, hk]
theorem own_Lget {f : Nat → Int32} {N i : Nat} (hi : i < N) (hN : N < 2 ^ 31) : List.getD (own_L f N (i + 1)) (Int32.ofNat i).toNatClampNeg 0 = f i := by
  rw [own_tn (by omega)]; exact own_LgetK (by omega) (by omega)
def own_Grid (Z : State) (h : Heap) (g m n : Nat) : Prop := own_Ar Z h g (.array .int) ((List.range m).map fun j => Value.ref (g + 1 + j)) ∧ ∀ j, j < m → ∃ ys : List Int32, ys.length = n ∧ own_Ar Z h (g + 1 + j) .int (ys.map Value.int)
theorem own_Grid.lt (G : own_Grid Z h g mm nn) : g < h.size := G.1.lt
theorem own_Grid.top (G : own_Grid Z h g mm nn) (hm : 0 < mm) : g + 1 + mm ≤ h.size := by
  obtain ⟨ys, -, A⟩ := G.2 (mm - 1) (by omega)
  have q : g + 1 + (mm - 1) < h.size := A.lt
  omega
theorem own_Grid.ext (G : own_Grid Z h g mm nn) (E : Ext h h') : own_Grid Z h' g mm nn := ⟨G.1.ext E, fun j hj => by obtain ⟨ys, q, A⟩ := G.2 j hj; exact ⟨ys, q, A.ext E⟩⟩
theorem own_Grid.other (G : own_Grid Z h g mm nn) (W : Wr h h' a sl v) (q : a < g ∨ g + 1 + mm ≤ a) : own_Grid Z h' g mm nn :=
  ⟨G.1.other W (show (g : Nat) ≠ a by omega), fun j hj => by obtain ⟨ys, q', A⟩ := G.2 j hj; exact ⟨ys, q', A.other W (show (g + 1 + j : Nat) ≠ a by omega)⟩⟩
theorem own_Grid.set (G : own_Grid Z h g mm nn) {k i : Nat} {x : Int32} (hk : k < mm) (W : Wr h h' (g + 1 + k) i (.int x)) : own_Grid Z h' g mm nn := by
  refine ⟨G.1.other W (show (g : Nat) ≠ g + 1 + k by omega), fun j hj => ?_⟩
  obtain ⟨ys, q', A⟩ := G.2 j hj
  by_cases e : j = k
  · subst e
    refine ⟨ys.set i x, by rw [List.length_set]; exact q', ?_⟩
    rw [List.map_set]; exact A.set W
  · exact ⟨ys, q', A.other W (show (g + 1 + j : Nat) ≠ g + 1 + k by omega)⟩
theorem own_gne {k : Nat} (q : a < g ∨ g + 1 + mm ≤ a) (hk : k < mm) : a ≠ g + 1 + k := by omega
theorem own_gload (X : Stand p l e R s m args below meth c T locs cells slots) (hx : p.tables.exec = Jvm.exec) (hZ : Z.Warmed39 s.vm) (eT : T.heap = h) (G : own_Grid Z h g mm nn) {j : Int32} (hj : ¬ j < 0) (hi : j.toNatClampNeg < mm) {pc : Nat} {Ls : Array Slot} {rest : List Value} (hd : decode c.code pc = .ok (.aaload, 1))
    (H : own_Fin p e below s Q kc kn (T.setTop (mkF m (pc + 1) Ls (.ref (g + 1 + j.toNatClampNeg) :: rest)))) : own_Fin p e below s Q kc kn (T.setTop (mkF m pc Ls (.int j :: .ref g :: rest))) :=
  own_aaload X hx hZ eT G.1 rfl hj (by simp [hi]) hd H
theorem own_gstore (X : Stand p l e R s m args below meth c T locs cells slots) (hx : p.tables.exec = Jvm.exec) (hZ : Z.Warmed39 s.vm) (eT : T.heap = h) (G : own_Grid Z h g mm nn) {k : Nat} (hk : k < mm) {j x : Int32} (hj : ¬ j < 0) (hi : j.toNatClampNeg < nn) {pc : Nat} {Ls : Array Slot} {rest : List Value} (hd : decode c.code pc = .ok (.iastore, 1))
    (H : ∀ (T' : State) (h' : Heap), Stand p l e R s m args below meth c T' (locs ++ [⟨g + 1 + k, j.toNatClampNeg⟩]) cells slots → T'.heap = h' → Wr h h' (g + 1 + k) j.toNatClampNeg (.int x) → own_Grid Z h' g mm nn → own_Fin p e below s Q kc kn (T'.setTop (mkF m (pc + 1) Ls rest))) :
    own_Fin p e below s Q kc kn (T.setTop (mkF m pc Ls (.int x :: .int j :: .ref (g + 1 + k) :: rest))) := by
  obtain ⟨ys, q, A⟩ := G.2 k hk
  exact own_iastore X hx hZ eT A hj (by rw [List.length_map, q]; exact hi) hd fun T' h' X' e' W' _ => H T' h' X' e' W' (G.set hk W')
theorem own_grid (X : Stand p l e R s m args below meth c T locs cells slots) (hx : p.tables.exec = Jvm.exec) (hZ : Z.Warmed39 s.vm) {own : String} {index : Nat} (hown : s.vm.findClass own = some m.cls)
    (w1 : (Jvm.Cond.classLink own index "[[I").before a0 Z = true) (w2 : (Jvm.Cond.arrayOver (.array .int)).before a0 Z = true) (w3 : (Jvm.Cond.arrayClass .int).before a0 Z = true) (eT : T.heap = h) {pc : Nat} {Ls : Array Slot} {rest : List Value} (hd : decode c.code pc = .ok (.multianewarray index 2, 4)) {n k : Int32}
    (hn : ¬ n < 0) (hk : ¬ k < 0) (hN : n.toNatClampNeg = mm) (hK : k.toNatClampNeg = nn) (hb : nn * 8 ≤ 536870912) (hb1 : mm ≤ 1000) (hc : cells + (1 + mm) ≤ R.cells) (hl : slots + (mm + mm * nn) ≤ R.slots)
    (H : ∀ (T' : State) (h' : Heap) (g : Nat), g = h.size → Stand p l e R s m args below meth c T' locs (cells + (1 + mm)) (slots + (mm + mm * nn)) → T'.heap = h' → Ext h h' → own_Grid Z h' g mm nn → own_Fin p e below s Q kc kn (T'.setTop (mkF m (pc + 4) Ls (.ref g :: rest)))) :
    own_Fin p e below s Q kc kn (T.setTop (mkF m pc Ls (.int k :: .int n :: rest))) := by
  obtain ⟨T', h', cA, comp, X', e', E', V', -, -, I', st⟩ := gridM X hx hZ (C := "[I") (ad := "[[I") (ty := .int) hown rfl rfl w1 w2 w3 eT (g := mkF m pc Ls (.int k :: .int n :: rest)) rfl hd rfl hn hk hN rfl (cap := nn) (Nat.le_of_eq hK) hb hb1 rfl rfl hc hl
  refine own_go st (H _ _ _ rfl X' e' E' ⟨?_, fun j hj => ?_⟩)
  · obtain ⟨cl, A, -, S, q3, H', -⟩ := V'
    rw [hN] at S
    refine ⟨cl, A, ?_, by simp; omega⟩
    apply Array.ext_getElem?
    intro i
    by_cases hi : i < cl.slots.size
    · rw [H' i hi]
      have hi' : i < mm := by omega
      simp [List.getD_eq_getElem?_getD, hi']
    · rw [Array.getElem?_eq_none (by omega)]
      symm
      rw [List.getElem?_toArray, List.getElem?_eq_none]
      simp; omega
  · obtain ⟨A, -⟩ := I' j (h.size + 1 + j) (by simp [hj])
    refine ⟨List.replicate nn 0, by simp, _, A, ?_, by simp; omega⟩
    simp [newA, hK, defaultValue]
end OwnGrid

def own_fR2 (j : Nat) : Int32 := ((Int32.ofNat j) / (4 : Int32))
def own_fC2 (j : Nat) : Int32 := ((4 : Int32) + ((Int32.ofNat j) % (4 : Int32)))
def own_fB2 (j : Nat) : Int32 := (((8 : Int32) + ((((Int32.ofNat j) / (4 : Int32)) / (2 : Int32)) * (2 : Int32))) + (((Int32.ofNat j) % (4 : Int32)) / (2 : Int32)))
def own_fIR2 (j : Nat) : Int32 := ((Int32.ofNat j) % (4 : Int32))
def own_fIC2 (j : Nat) : Int32 := ((Int32.ofNat j) / (4 : Int32))
def own_fIB2 (j : Nat) : Int32 := (((((Int32.ofNat j) / (4 : Int32)) % (2 : Int32)) * (2 : Int32)) + (((Int32.ofNat j) % (4 : Int32)) % (2 : Int32)))
theorem own_bd2 : ∀ j, j < 16 → (¬ own_fR2 j < 0 ∧ (own_fR2 j).toNatClampNeg < 12) ∧ (¬ own_fC2 j < 0 ∧ (own_fC2 j).toNatClampNeg < 12) ∧ (¬ own_fB2 j < 0 ∧ (own_fB2 j).toNatClampNeg < 12) ∧ (¬ own_fIR2 j < 0 ∧ (own_fIR2 j).toNatClampNeg < 4) ∧ (¬ own_fIC2 j < 0 ∧ (own_fIC2 j).toNatClampNeg < 4) ∧ (¬ own_fIB2 j < 0 ∧ (own_fIB2 j).toNatClampNeg < 4) := by decide +kernel
def own_QGeo2 (Z : State) (t0 : Addr) (h0 : Heap) (n0 : Nat) (v : Option Value) (h : Heap) (L : List Loc) : Prop := v = none ∧ Fr n0 L ∧ Keep h0 h [t0] ∧ ∃ bR bC bB g : Addr, h0.size ≤ bR ∧ h0.size ≤ bC ∧ h0.size ≤ bB ∧ h0.size ≤ g ∧ Fld Z h t0 "com/example/onda/onda/sudoku/Geometry" "size" "I" (.int (4 : Int32)) ∧ Fld Z h t0 "com/example/onda/onda/sudoku/Geometry" "rowOf" "[I" (.ref bR) ∧ Fld Z h t0 "com/example/onda/onda/sudoku/Geometry" "columnOf" "[I" (.ref bC) ∧ Fld Z h t0 "com/example/onda/onda/sudoku/Geometry" "boxOf" "[I" (.ref bB) ∧ Fld Z h t0 "com/example/onda/onda/sudoku/Geometry" "cellsOf" "[[I" (.ref g) ∧ own_Ar Z h bR .int ((own_L own_fR2 16 16).map Value.int) ∧ own_Ar Z h bC .int ((own_L own_fC2 16 16).map Value.int) ∧ own_Ar Z h bB .int ((own_L own_fB2 16 16).map Value.int) ∧ own_Ar Z h g (.array .int) ((List.range 12).map fun j => Value.ref (g + 1 + j))
theorem d1g2_0 : decode prog_22_method_1_code 0 = .ok (.aload_n 0, 1) := by decide +kernel
theorem d1g2_1 : decode prog_22_method_1_code 1 = .ok (.invokespecial 1, 3) := by decide +kernel
theorem d1g2_4 : decode prog_22_method_1_code 4 = .ok (.aload_n 0, 1) := by decide +kernel
theorem d1g2_5 : decode prog_22_method_1_code 5 = .ok (.iload_n 1, 1) := by decide +kernel
theorem d1g2_6 : decode prog_22_method_1_code 6 = .ok (.iload_n 1, 1) := by decide +kernel
theorem d1g2_7 : decode prog_22_method_1_code 7 = .ok (.imul, 1) := by decide +kernel
theorem d1g2_8 : decode prog_22_method_1_code 8 = .ok (.putfield 7, 3) := by decide +kernel
theorem d1g2_11 : decode prog_22_method_1_code 11 = .ok (.aload_n 0, 1) := by decide +kernel
theorem d1g2_12 : decode prog_22_method_1_code 12 = .ok (.aload_n 0, 1) := by decide +kernel
theorem d1g2_13 : decode prog_22_method_1_code 13 = .ok (.getfield 7, 3) := by decide +kernel
theorem d1g2_16 : decode prog_22_method_1_code 16 = .ok (.aload_n 0, 1) := by decide +kernel
theorem d1g2_17 : decode prog_22_method_1_code 17 = .ok (.getfield 7, 3) := by decide +kernel
theorem d1g2_20 : decode prog_22_method_1_code 20 = .ok (.imul, 1) := by decide +kernel
theorem d1g2_21 : decode prog_22_method_1_code 21 = .ok (.newarray .int, 2) := by decide +kernel
theorem d1g2_23 : decode prog_22_method_1_code 23 = .ok (.putfield 13, 3) := by decide +kernel
theorem d1g2_26 : decode prog_22_method_1_code 26 = .ok (.aload_n 0, 1) := by decide +kernel
theorem d1g2_27 : decode prog_22_method_1_code 27 = .ok (.aload_n 0, 1) := by decide +kernel
theorem d1g2_28 : decode prog_22_method_1_code 28 = .ok (.getfield 7, 3) := by decide +kernel
theorem d1g2_31 : decode prog_22_method_1_code 31 = .ok (.aload_n 0, 1) := by decide +kernel
theorem d1g2_32 : decode prog_22_method_1_code 32 = .ok (.getfield 7, 3) := by decide +kernel
theorem d1g2_35 : decode prog_22_method_1_code 35 = .ok (.imul, 1) := by decide +kernel
theorem d1g2_36 : decode prog_22_method_1_code 36 = .ok (.newarray .int, 2) := by decide +kernel
theorem d1g2_38 : decode prog_22_method_1_code 38 = .ok (.putfield 17, 3) := by decide +kernel
theorem d1g2_41 : decode prog_22_method_1_code 41 = .ok (.aload_n 0, 1) := by decide +kernel
theorem d1g2_42 : decode prog_22_method_1_code 42 = .ok (.aload_n 0, 1) := by decide +kernel
theorem d1g2_43 : decode prog_22_method_1_code 43 = .ok (.getfield 7, 3) := by decide +kernel
theorem d1g2_46 : decode prog_22_method_1_code 46 = .ok (.aload_n 0, 1) := by decide +kernel
theorem d1g2_47 : decode prog_22_method_1_code 47 = .ok (.getfield 7, 3) := by decide +kernel
theorem d1g2_50 : decode prog_22_method_1_code 50 = .ok (.imul, 1) := by decide +kernel
theorem d1g2_51 : decode prog_22_method_1_code 51 = .ok (.newarray .int, 2) := by decide +kernel
theorem d1g2_53 : decode prog_22_method_1_code 53 = .ok (.putfield 20, 3) := by decide +kernel
theorem d1g2_56 : decode prog_22_method_1_code 56 = .ok (.aload_n 0, 1) := by decide +kernel
theorem d1g2_57 : decode prog_22_method_1_code 57 = .ok (.iconst 3, 1) := by decide +kernel
theorem d1g2_58 : decode prog_22_method_1_code 58 = .ok (.aload_n 0, 1) := by decide +kernel
theorem d1g2_59 : decode prog_22_method_1_code 59 = .ok (.getfield 7, 3) := by decide +kernel
theorem d1g2_62 : decode prog_22_method_1_code 62 = .ok (.imul, 1) := by decide +kernel
theorem d1g2_63 : decode prog_22_method_1_code 63 = .ok (.aload_n 0, 1) := by decide +kernel
theorem d1g2_64 : decode prog_22_method_1_code 64 = .ok (.getfield 7, 3) := by decide +kernel
theorem d1g2_67 : decode prog_22_method_1_code 67 = .ok (.multianewarray 23 2, 4) := by decide +kernel
theorem d1g2_71 : decode prog_22_method_1_code 71 = .ok (.putfield 25, 3) := by decide +kernel
theorem d1g2_74 : decode prog_22_method_1_code 74 = .ok (.aload_n 0, 1) := by decide +kernel
theorem d1g2_75 : decode prog_22_method_1_code 75 = .ok (.aload_n 0, 1) := by decide +kernel
theorem d1g2_76 : decode prog_22_method_1_code 76 = .ok (.getfield 7, 3) := by decide +kernel
theorem d1g2_79 : decode prog_22_method_1_code 79 = .ok (.aload_n 0, 1) := by decide +kernel
theorem d1g2_80 : decode prog_22_method_1_code 80 = .ok (.getfield 7, 3) := by decide +kernel
theorem d1g2_83 : decode prog_22_method_1_code 83 = .ok (.imul, 1) := by decide +kernel
theorem d1g2_84 : decode prog_22_method_1_code 84 = .ok (.newarray .int, 2) := by decide +kernel
theorem d1g2_86 : decode prog_22_method_1_code 86 = .ok (.putfield 28, 3) := by decide +kernel
theorem d1g2_89 : decode prog_22_method_1_code 89 = .ok (.aload_n 0, 1) := by decide +kernel
theorem d1g2_90 : decode prog_22_method_1_code 90 = .ok (.aload_n 0, 1) := by decide +kernel
theorem d1g2_91 : decode prog_22_method_1_code 91 = .ok (.getfield 7, 3) := by decide +kernel
theorem d1g2_94 : decode prog_22_method_1_code 94 = .ok (.aload_n 0, 1) := by decide +kernel
theorem d1g2_95 : decode prog_22_method_1_code 95 = .ok (.getfield 7, 3) := by decide +kernel
theorem d1g2_98 : decode prog_22_method_1_code 98 = .ok (.imul, 1) := by decide +kernel
theorem d1g2_99 : decode prog_22_method_1_code 99 = .ok (.newarray .int, 2) := by decide +kernel
theorem d1g2_101 : decode prog_22_method_1_code 101 = .ok (.putfield 31, 3) := by decide +kernel
theorem d1g2_104 : decode prog_22_method_1_code 104 = .ok (.aload_n 0, 1) := by decide +kernel
theorem d1g2_105 : decode prog_22_method_1_code 105 = .ok (.aload_n 0, 1) := by decide +kernel
theorem d1g2_106 : decode prog_22_method_1_code 106 = .ok (.getfield 7, 3) := by decide +kernel
theorem d1g2_109 : decode prog_22_method_1_code 109 = .ok (.aload_n 0, 1) := by decide +kernel
theorem d1g2_110 : decode prog_22_method_1_code 110 = .ok (.getfield 7, 3) := by decide +kernel
theorem d1g2_113 : decode prog_22_method_1_code 113 = .ok (.imul, 1) := by decide +kernel
theorem d1g2_114 : decode prog_22_method_1_code 114 = .ok (.newarray .int, 2) := by decide +kernel
theorem d1g2_116 : decode prog_22_method_1_code 116 = .ok (.putfield 34, 3) := by decide +kernel
theorem d1g2_119 : decode prog_22_method_1_code 119 = .ok (.iconst 0, 1) := by decide +kernel
theorem d1g2_120 : decode prog_22_method_1_code 120 = .ok (.istore_n 2, 1) := by decide +kernel
theorem d1g2_121 : decode prog_22_method_1_code 121 = .ok (.iload_n 2, 1) := by decide +kernel
theorem d1g2_122 : decode prog_22_method_1_code 122 = .ok (.aload_n 0, 1) := by decide +kernel
theorem d1g2_123 : decode prog_22_method_1_code 123 = .ok (.getfield 7, 3) := by decide +kernel
theorem d1g2_126 : decode prog_22_method_1_code 126 = .ok (.aload_n 0, 1) := by decide +kernel
theorem d1g2_127 : decode prog_22_method_1_code 127 = .ok (.getfield 7, 3) := by decide +kernel
theorem d1g2_130 : decode prog_22_method_1_code 130 = .ok (.imul, 1) := by decide +kernel
theorem d1g2_131 : decode prog_22_method_1_code 131 = .ok (.if_icmp .ge 155, 3) := by decide +kernel
theorem d1g2_134 : decode prog_22_method_1_code 134 = .ok (.iload_n 2, 1) := by decide +kernel
theorem d1g2_135 : decode prog_22_method_1_code 135 = .ok (.aload_n 0, 1) := by decide +kernel
theorem d1g2_136 : decode prog_22_method_1_code 136 = .ok (.getfield 7, 3) := by decide +kernel
theorem d1g2_139 : decode prog_22_method_1_code 139 = .ok (.idiv, 1) := by decide +kernel
theorem d1g2_140 : decode prog_22_method_1_code 140 = .ok (.istore_n 3, 1) := by decide +kernel
theorem d1g2_141 : decode prog_22_method_1_code 141 = .ok (.iload_n 2, 1) := by decide +kernel
theorem d1g2_142 : decode prog_22_method_1_code 142 = .ok (.aload_n 0, 1) := by decide +kernel
theorem d1g2_143 : decode prog_22_method_1_code 143 = .ok (.getfield 7, 3) := by decide +kernel
theorem d1g2_146 : decode prog_22_method_1_code 146 = .ok (.irem, 1) := by decide +kernel
theorem d1g2_147 : decode prog_22_method_1_code 147 = .ok (.istore 4, 2) := by decide +kernel
theorem d1g2_149 : decode prog_22_method_1_code 149 = .ok (.aload_n 0, 1) := by decide +kernel
theorem d1g2_150 : decode prog_22_method_1_code 150 = .ok (.getfield 13, 3) := by decide +kernel
theorem d1g2_153 : decode prog_22_method_1_code 153 = .ok (.iload_n 2, 1) := by decide +kernel
theorem d1g2_154 : decode prog_22_method_1_code 154 = .ok (.iload_n 3, 1) := by decide +kernel
theorem d1g2_155 : decode prog_22_method_1_code 155 = .ok (.iastore, 1) := by decide +kernel
theorem d1g2_156 : decode prog_22_method_1_code 156 = .ok (.aload_n 0, 1) := by decide +kernel
theorem d1g2_157 : decode prog_22_method_1_code 157 = .ok (.getfield 17, 3) := by decide +kernel
theorem d1g2_160 : decode prog_22_method_1_code 160 = .ok (.iload_n 2, 1) := by decide +kernel
theorem d1g2_161 : decode prog_22_method_1_code 161 = .ok (.aload_n 0, 1) := by decide +kernel
theorem d1g2_162 : decode prog_22_method_1_code 162 = .ok (.getfield 7, 3) := by decide +kernel
theorem d1g2_165 : decode prog_22_method_1_code 165 = .ok (.iload 4, 2) := by decide +kernel
theorem d1g2_167 : decode prog_22_method_1_code 167 = .ok (.iadd, 1) := by decide +kernel
theorem d1g2_168 : decode prog_22_method_1_code 168 = .ok (.iastore, 1) := by decide +kernel
theorem d1g2_169 : decode prog_22_method_1_code 169 = .ok (.aload_n 0, 1) := by decide +kernel
theorem d1g2_170 : decode prog_22_method_1_code 170 = .ok (.getfield 20, 3) := by decide +kernel
theorem d1g2_173 : decode prog_22_method_1_code 173 = .ok (.iload_n 2, 1) := by decide +kernel
theorem d1g2_174 : decode prog_22_method_1_code 174 = .ok (.iconst 2, 1) := by decide +kernel
theorem d1g2_175 : decode prog_22_method_1_code 175 = .ok (.aload_n 0, 1) := by decide +kernel
theorem d1g2_176 : decode prog_22_method_1_code 176 = .ok (.getfield 7, 3) := by decide +kernel
theorem d1g2_179 : decode prog_22_method_1_code 179 = .ok (.imul, 1) := by decide +kernel
theorem d1g2_180 : decode prog_22_method_1_code 180 = .ok (.iload_n 3, 1) := by decide +kernel
theorem d1g2_181 : decode prog_22_method_1_code 181 = .ok (.iload_n 1, 1) := by decide +kernel
theorem d1g2_182 : decode prog_22_method_1_code 182 = .ok (.idiv, 1) := by decide +kernel
theorem d1g2_183 : decode prog_22_method_1_code 183 = .ok (.iload_n 1, 1) := by decide +kernel
theorem d1g2_184 : decode prog_22_method_1_code 184 = .ok (.imul, 1) := by decide +kernel
theorem d1g2_185 : decode prog_22_method_1_code 185 = .ok (.iadd, 1) := by decide +kernel
theorem d1g2_186 : decode prog_22_method_1_code 186 = .ok (.iload 4, 2) := by decide +kernel
theorem d1g2_188 : decode prog_22_method_1_code 188 = .ok (.iload_n 1, 1) := by decide +kernel
theorem d1g2_189 : decode prog_22_method_1_code 189 = .ok (.idiv, 1) := by decide +kernel
theorem d1g2_190 : decode prog_22_method_1_code 190 = .ok (.iadd, 1) := by decide +kernel
theorem d1g2_191 : decode prog_22_method_1_code 191 = .ok (.iastore, 1) := by decide +kernel
theorem d1g2_192 : decode prog_22_method_1_code 192 = .ok (.aload_n 0, 1) := by decide +kernel
theorem d1g2_193 : decode prog_22_method_1_code 193 = .ok (.getfield 28, 3) := by decide +kernel
theorem d1g2_196 : decode prog_22_method_1_code 196 = .ok (.iload_n 2, 1) := by decide +kernel
theorem d1g2_197 : decode prog_22_method_1_code 197 = .ok (.iload 4, 2) := by decide +kernel
theorem d1g2_199 : decode prog_22_method_1_code 199 = .ok (.iastore, 1) := by decide +kernel
theorem d1g2_200 : decode prog_22_method_1_code 200 = .ok (.aload_n 0, 1) := by decide +kernel
theorem d1g2_201 : decode prog_22_method_1_code 201 = .ok (.getfield 31, 3) := by decide +kernel
theorem d1g2_204 : decode prog_22_method_1_code 204 = .ok (.iload_n 2, 1) := by decide +kernel
theorem d1g2_205 : decode prog_22_method_1_code 205 = .ok (.iload_n 3, 1) := by decide +kernel
theorem d1g2_206 : decode prog_22_method_1_code 206 = .ok (.iastore, 1) := by decide +kernel
theorem d1g2_207 : decode prog_22_method_1_code 207 = .ok (.aload_n 0, 1) := by decide +kernel
theorem d1g2_208 : decode prog_22_method_1_code 208 = .ok (.getfield 34, 3) := by decide +kernel
theorem d1g2_211 : decode prog_22_method_1_code 211 = .ok (.iload_n 2, 1) := by decide +kernel
theorem d1g2_212 : decode prog_22_method_1_code 212 = .ok (.iload_n 3, 1) := by decide +kernel
theorem d1g2_213 : decode prog_22_method_1_code 213 = .ok (.iload_n 1, 1) := by decide +kernel
theorem d1g2_214 : decode prog_22_method_1_code 214 = .ok (.irem, 1) := by decide +kernel
theorem d1g2_215 : decode prog_22_method_1_code 215 = .ok (.iload_n 1, 1) := by decide +kernel
theorem d1g2_216 : decode prog_22_method_1_code 216 = .ok (.imul, 1) := by decide +kernel
theorem d1g2_217 : decode prog_22_method_1_code 217 = .ok (.iload 4, 2) := by decide +kernel
theorem d1g2_219 : decode prog_22_method_1_code 219 = .ok (.iload_n 1, 1) := by decide +kernel
theorem d1g2_220 : decode prog_22_method_1_code 220 = .ok (.irem, 1) := by decide +kernel
theorem d1g2_221 : decode prog_22_method_1_code 221 = .ok (.iadd, 1) := by decide +kernel
theorem d1g2_222 : decode prog_22_method_1_code 222 = .ok (.iastore, 1) := by decide +kernel
theorem d1g2_223 : decode prog_22_method_1_code 223 = .ok (.aload_n 0, 1) := by decide +kernel
theorem d1g2_224 : decode prog_22_method_1_code 224 = .ok (.getfield 25, 3) := by decide +kernel
theorem d1g2_227 : decode prog_22_method_1_code 227 = .ok (.aload_n 0, 1) := by decide +kernel
theorem d1g2_228 : decode prog_22_method_1_code 228 = .ok (.getfield 13, 3) := by decide +kernel
theorem d1g2_231 : decode prog_22_method_1_code 231 = .ok (.iload_n 2, 1) := by decide +kernel
theorem d1g2_232 : decode prog_22_method_1_code 232 = .ok (.iaload, 1) := by decide +kernel
theorem d1g2_233 : decode prog_22_method_1_code 233 = .ok (.aaload, 1) := by decide +kernel
theorem d1g2_234 : decode prog_22_method_1_code 234 = .ok (.aload_n 0, 1) := by decide +kernel
theorem d1g2_235 : decode prog_22_method_1_code 235 = .ok (.getfield 28, 3) := by decide +kernel
theorem d1g2_238 : decode prog_22_method_1_code 238 = .ok (.iload_n 2, 1) := by decide +kernel
theorem d1g2_239 : decode prog_22_method_1_code 239 = .ok (.iaload, 1) := by decide +kernel
theorem d1g2_240 : decode prog_22_method_1_code 240 = .ok (.iload_n 2, 1) := by decide +kernel
theorem d1g2_241 : decode prog_22_method_1_code 241 = .ok (.iastore, 1) := by decide +kernel
theorem d1g2_242 : decode prog_22_method_1_code 242 = .ok (.aload_n 0, 1) := by decide +kernel
theorem d1g2_243 : decode prog_22_method_1_code 243 = .ok (.getfield 25, 3) := by decide +kernel
theorem d1g2_246 : decode prog_22_method_1_code 246 = .ok (.aload_n 0, 1) := by decide +kernel
theorem d1g2_247 : decode prog_22_method_1_code 247 = .ok (.getfield 17, 3) := by decide +kernel
theorem d1g2_250 : decode prog_22_method_1_code 250 = .ok (.iload_n 2, 1) := by decide +kernel
theorem d1g2_251 : decode prog_22_method_1_code 251 = .ok (.iaload, 1) := by decide +kernel
theorem d1g2_252 : decode prog_22_method_1_code 252 = .ok (.aaload, 1) := by decide +kernel
theorem d1g2_253 : decode prog_22_method_1_code 253 = .ok (.aload_n 0, 1) := by decide +kernel
theorem d1g2_254 : decode prog_22_method_1_code 254 = .ok (.getfield 31, 3) := by decide +kernel
theorem d1g2_257 : decode prog_22_method_1_code 257 = .ok (.iload_n 2, 1) := by decide +kernel
theorem d1g2_258 : decode prog_22_method_1_code 258 = .ok (.iaload, 1) := by decide +kernel
theorem d1g2_259 : decode prog_22_method_1_code 259 = .ok (.iload_n 2, 1) := by decide +kernel
theorem d1g2_260 : decode prog_22_method_1_code 260 = .ok (.iastore, 1) := by decide +kernel
theorem d1g2_261 : decode prog_22_method_1_code 261 = .ok (.aload_n 0, 1) := by decide +kernel
theorem d1g2_262 : decode prog_22_method_1_code 262 = .ok (.getfield 25, 3) := by decide +kernel
theorem d1g2_265 : decode prog_22_method_1_code 265 = .ok (.aload_n 0, 1) := by decide +kernel
theorem d1g2_266 : decode prog_22_method_1_code 266 = .ok (.getfield 20, 3) := by decide +kernel
theorem d1g2_269 : decode prog_22_method_1_code 269 = .ok (.iload_n 2, 1) := by decide +kernel
theorem d1g2_270 : decode prog_22_method_1_code 270 = .ok (.iaload, 1) := by decide +kernel
theorem d1g2_271 : decode prog_22_method_1_code 271 = .ok (.aaload, 1) := by decide +kernel
theorem d1g2_272 : decode prog_22_method_1_code 272 = .ok (.aload_n 0, 1) := by decide +kernel
theorem d1g2_273 : decode prog_22_method_1_code 273 = .ok (.getfield 34, 3) := by decide +kernel
theorem d1g2_276 : decode prog_22_method_1_code 276 = .ok (.iload_n 2, 1) := by decide +kernel
theorem d1g2_277 : decode prog_22_method_1_code 277 = .ok (.iaload, 1) := by decide +kernel
theorem d1g2_278 : decode prog_22_method_1_code 278 = .ok (.iload_n 2, 1) := by decide +kernel
theorem d1g2_279 : decode prog_22_method_1_code 279 = .ok (.iastore, 1) := by decide +kernel
theorem d1g2_280 : decode prog_22_method_1_code 280 = .ok (.iinc 2 1, 3) := by decide +kernel
theorem d1g2_283 : decode prog_22_method_1_code 283 = .ok (.goto (-162), 3) := by decide +kernel
theorem d1g2_286 : decode prog_22_method_1_code 286 = .ok (.return_, 1) := by decide +kernel
theorem pn_1g2 : plainFor (⟨"com/example/onda/onda/sudoku/Geometry", "<init>", "(I)V"⟩ : MethodName) = true := plainFor_of_name (by show plainName "com/example/onda/onda/sudoku/Geometry" = true; first | (simp [plainName, overriddenIn]; done) | decide +kernel)
theorem ef_1g2 (m : MethodId) (x0 : Addr) (x1 : Int32) : entryFrame m #[(.ref x0), (.int x1)] 5 = mkF m 0 #[.val (.ref x0), .val (.int x1), .unset, .unset, .unset] [] := by first | (simp [entryFrame, mkF, argsToLocals, Value.category]; done) | rfl
set_option maxRecDepth 65536 in
set_option maxHeartbeats 40000000 in
theorem rm1g2 (l : Launch) (Z : State) (a0 : Array Value) (hw : ∀ d ∈ tables_1, d.before a0 Z = true) (t0 : Addr) (h0 : Heap) (n0 : Nat) (Z0 : n0 ≤ h0.size) (E_t0 : Exa Z h0 t0 "com/example/onda/onda/sudoku/Geometry") (F_size : Fld Z h0 t0 "com/example/onda/onda/sudoku/Geometry" "size" "I" (.int (0 : Int32))) (F_rowOf : Fld Z h0 t0 "com/example/onda/onda/sudoku/Geometry" "rowOf" "[I" .null) (F_columnOf : Fld Z h0 t0 "com/example/onda/onda/sudoku/Geometry" "columnOf" "[I" .null) (F_boxOf : Fld Z h0 t0 "com/example/onda/onda/sudoku/Geometry" "boxOf" "[I" .null) (F_cellsOf : Fld Z h0 t0 "com/example/onda/onda/sudoku/Geometry" "cellsOf" "[[I" .null) (F_indexInRow : Fld Z h0 t0 "com/example/onda/onda/sudoku/Geometry" "indexInRow" "[I" .null) (F_indexInColumn : Fld Z h0 t0 "com/example/onda/onda/sudoku/Geometry" "indexInColumn" "[I" .null) (F_indexInBox : Fld Z h0 t0 "com/example/onda/onda/sudoku/Geometry" "indexInBox" "[I" .null) (g_t0 : n0 ≤ t0) :
    own_Met l (⟨"com/example/onda/onda/sudoku/Geometry", "<init>", "(I)V"⟩ : MethodName) prog_22_method_1_code 5 none ({ frames := 1, cells := 19, slots := 156, locals := 12 } : Room) Z [] #[(.ref t0), (.int (2 : Int32))] h0 (own_QGeo2 Z t0 h0 n0) := by
  refine own_enter pn_1g2 ?_
  intro p e s m below meth c s₁ hx hby hml hown hnm hret hlk hZ e0 X0
  rw [ef_1g2]
  have N0 := Fr.nil n0
  show own_Fin _ _ _ _ _ _ _ (s₁.setTop (mkF m 0 #[.val (.ref t0), .val (.int (2 : Int32)), .unset, .unset, .unset] []))
  refine own_go (fun _ kk => XS.aloadN X0.here hx rfl (hb hby d1g2_0) rfl rfl kk) ?_
  show own_Fin _ _ _ _ _ _ _ (s₁.setTop (mkF m 1 #[.val (.ref t0), .val (.int (2 : Int32)), .unset, .unset, .unset] [(.ref t0)]))
  refine own_initO X0 hx hZ hown (hw _ (List.mem_of_getElem? (i := 10) rfl)) (hw _ (List.mem_of_getElem? (i := 11) rfl)) (hw _ (List.mem_of_getElem? (i := 12) rfl)) e0 (by rw [hml]; rfl) (hb hby d1g2_1) (by decide) (W := 0) (Nat.le_of_eq rfl) (by decide) ?_
  intro T1 X1 e1
  show own_Fin _ _ _ _ _ _ _ (T1.setTop (mkF m 4 #[.val (.ref t0), .val (.int (2 : Int32)), .unset, .unset, .unset] []))
  refine own_go (fun _ kk => XS.aloadN X1.here hx rfl (hb hby d1g2_4) rfl rfl (XS.iloadN X1.here hx rfl (hb hby d1g2_5) rfl (XS.iloadN X1.here hx rfl (hb hby d1g2_6) rfl (XS.imul X1.here hx rfl (hb hby d1g2_7) rfl kk)))) ?_
  show own_Fin _ _ _ _ _ _ _ (T1.setTop (mkF m 8 #[.val (.ref t0), .val (.int (2 : Int32)), .unset, .unset, .unset] [(.int (4 : Int32)), (.ref t0)]))
  refine own_putF X1 hx hZ hown (host := "") (Or.inl (hw _ (List.mem_of_getElem? (i := 13) rfl))) Via.refl e1 F_size E_t0 (Or.inr ⟨(hw _ (List.mem_of_getElem? (i := 14) rfl)), rfl, hnm⟩) (hw _ (List.mem_of_getElem? (i := 5) rfl)) (ty := .int) (by decide) rfl rfl (hb hby d1g2_8) ?_
  intro T2 h2 X2 e2 W2
  have f3 := E_t0.wr W2
  have f5 := F_rowOf.other W2 (Or.inr (slot_ne (Or.inr (hw _ (List.mem_of_getElem? (i := 17) rfl))) (Or.inr (hw _ (List.mem_of_getElem? (i := 14) rfl))) (by decide) (t := (.array .int)) (t' := .int) (by decide) (by decide)))
  have f6 := F_columnOf.other W2 (Or.inr (slot_ne (Or.inr (hw _ (List.mem_of_getElem? (i := 19) rfl))) (Or.inr (hw _ (List.mem_of_getElem? (i := 14) rfl))) (by decide) (t := (.array .int)) (t' := .int) (by decide) (by decide)))
  have f7 := F_boxOf.other W2 (Or.inr (slot_ne (Or.inr (hw _ (List.mem_of_getElem? (i := 21) rfl))) (Or.inr (hw _ (List.mem_of_getElem? (i := 14) rfl))) (by decide) (t := (.array .int)) (t' := .int) (by decide) (by decide)))
  have f8 := F_cellsOf.other W2 (Or.inr (slot_ne (Or.inr (hw _ (List.mem_of_getElem? (i := 25) rfl))) (Or.inr (hw _ (List.mem_of_getElem? (i := 14) rfl))) (by decide) (t := (.array (.array .int))) (t' := .int) (by decide) (by decide)))
  have f9 := F_indexInRow.other W2 (Or.inr (slot_ne (Or.inr (hw _ (List.mem_of_getElem? (i := 27) rfl))) (Or.inr (hw _ (List.mem_of_getElem? (i := 14) rfl))) (by decide) (t := (.array .int)) (t' := .int) (by decide) (by decide)))
  have f10 := F_indexInColumn.other W2 (Or.inr (slot_ne (Or.inr (hw _ (List.mem_of_getElem? (i := 29) rfl))) (Or.inr (hw _ (List.mem_of_getElem? (i := 14) rfl))) (by decide) (t := (.array .int)) (t' := .int) (by decide) (by decide)))
  have f11 := F_indexInBox.other W2 (Or.inr (slot_ne (Or.inr (hw _ (List.mem_of_getElem? (i := 31) rfl))) (Or.inr (hw _ (List.mem_of_getElem? (i := 14) rfl))) (by decide) (t := (.array .int)) (t' := .int) (by decide) (by decide)))
  have Z2 := Nat.le_trans Z0 (Keep.of_wr W2).1
  have K2 := (Keep.refl h0 [t0]).wr W2 (Or.inl (List.mem_of_getElem? (i := 0) rfl))
  have f12 := F_size.same W2
  have N2 := Fr.snoc X2 N0 g_t0
  show own_Fin _ _ _ _ _ _ _ (T2.setTop (mkF m 11 #[.val (.ref t0), .val (.int (2 : Int32)), .unset, .unset, .unset] []))
  refine own_go (fun _ kk => XS.aloadN X2.here hx rfl (hb hby d1g2_11) rfl rfl (XS.aloadN X2.here hx rfl (hb hby d1g2_12) rfl rfl kk)) ?_
  show own_Fin _ _ _ _ _ _ _ (T2.setTop (mkF m 13 #[.val (.ref t0), .val (.int (2 : Int32)), .unset, .unset, .unset] [(.ref t0), (.ref t0)]))
  refine own_getF X2 hx hZ hown (host := "") (Or.inl (hw _ (List.mem_of_getElem? (i := 13) rfl))) Via.refl e2 f12 (hb hby d1g2_13) ?_
  intro T13 X13 e13
  show own_Fin _ _ _ _ _ _ _ (T13.setTop (mkF m 16 #[.val (.ref t0), .val (.int (2 : Int32)), .unset, .unset, .unset] [(.int (4 : Int32)), (.ref t0)]))
  refine own_go (fun _ kk => XS.aloadN X13.here hx rfl (hb hby d1g2_16) rfl rfl kk) ?_
  show own_Fin _ _ _ _ _ _ _ (T13.setTop (mkF m 17 #[.val (.ref t0), .val (.int (2 : Int32)), .unset, .unset, .unset] [(.ref t0), (.int (4 : Int32)), (.ref t0)]))
  refine own_getF X13 hx hZ hown (host := "") (Or.inl (hw _ (List.mem_of_getElem? (i := 13) rfl))) Via.refl e13 f12 (hb hby d1g2_17) ?_
  intro T14 X14 e14
  show own_Fin _ _ _ _ _ _ _ (T14.setTop (mkF m 20 #[.val (.ref t0), .val (.int (2 : Int32)), .unset, .unset, .unset] [(.int (4 : Int32)), (.int (4 : Int32)), (.ref t0)]))
  refine own_go (fun _ kk => XS.imul X14.here hx rfl (hb hby d1g2_20) rfl kk) ?_
  show own_Fin _ _ _ _ _ _ _ (T14.setTop (mkF m 21 #[.val (.ref t0), .val (.int (2 : Int32)), .unset, .unset, .unset] [(.int (16 : Int32)), (.ref t0)]))
  refine own_newI X14 hx hZ (hw _ (List.mem_of_getElem? (i := 15) rfl)) e14 (hb hby d1g2_21) (by decide) (cap := 16) (by decide) (by decide) (by decide) (by decide) ?_
  intro T15 h15 b15 g15 X15 e15 E15 A15 D15
  have g_b15 : n0 ≤ b15 := Nat.le_trans Z2 (Nat.le_of_eq g15.symm)
  have ne_t0_b15 : t0 ≠ b15 := Nat.ne_of_lt (Nat.lt_of_lt_of_le f3.lt (Nat.le_of_eq g15.symm))
  have f16 := f3.ext E15
  have f17 := f12.ext E15
  have f18 := f5.ext E15
  have f19 := f6.ext E15
  have f20 := f7.ext E15
  have f21 := f8.ext E15
  have f22 := f9.ext E15
  have f23 := f10.ext E15
  have f24 := f11.ext E15
  have Z15 := Nat.le_trans Z2 E15.1
  have sz_b15 : h0.size ≤ b15 := Nat.le_trans K2.1 (Nat.le_of_eq g15.symm)
  have K15 := K2.ext E15
  have A15 : own_Ar Z h15 b15 .int (List.map Value.int (List.replicate 16 (0 : Int32))) := A15
  show own_Fin _ _ _ _ _ _ _ (T15.setTop (mkF m 23 #[.val (.ref t0), .val (.int (2 : Int32)), .unset, .unset, .unset] [(.ref b15), (.ref t0)]))
  refine own_putF X15 hx hZ hown (host := "") (Or.inl (hw _ (List.mem_of_getElem? (i := 16) rfl))) Via.refl e15 f18 f16 (Or.inr ⟨(hw _ (List.mem_of_getElem? (i := 17) rfl)), rfl, hnm⟩) (hw _ (List.mem_of_getElem? (i := 5) rfl)) (ty := (.array .int)) (by decide) rfl rfl (hb hby d1g2_23) ?_
  intro T25 h25 X25 e25 W25
  have f26 := f16.wr W25
  have f27 := f17.other W25 (Or.inr (slot_ne (Or.inr (hw _ (List.mem_of_getElem? (i := 14) rfl))) (Or.inr (hw _ (List.mem_of_getElem? (i := 17) rfl))) (by decide) (t := .int) (t' := (.array .int)) (by decide) (by decide)))
  have f29 := f19.other W25 (Or.inr (slot_ne (Or.inr (hw _ (List.mem_of_getElem? (i := 19) rfl))) (Or.inr (hw _ (List.mem_of_getElem? (i := 17) rfl))) (by decide) (t := (.array .int)) (t' := (.array .int)) (by decide) (by decide)))
  have f30 := f20.other W25 (Or.inr (slot_ne (Or.inr (hw _ (List.mem_of_getElem? (i := 21) rfl))) (Or.inr (hw _ (List.mem_of_getElem? (i := 17) rfl))) (by decide) (t := (.array .int)) (t' := (.array .int)) (by decide) (by decide)))
  have f31 := f21.other W25 (Or.inr (slot_ne (Or.inr (hw _ (List.mem_of_getElem? (i := 25) rfl))) (Or.inr (hw _ (List.mem_of_getElem? (i := 17) rfl))) (by decide) (t := (.array (.array .int))) (t' := (.array .int)) (by decide) (by decide)))
  have f32 := f22.other W25 (Or.inr (slot_ne (Or.inr (hw _ (List.mem_of_getElem? (i := 27) rfl))) (Or.inr (hw _ (List.mem_of_getElem? (i := 17) rfl))) (by decide) (t := (.array .int)) (t' := (.array .int)) (by decide) (by decide)))
  have f33 := f23.other W25 (Or.inr (slot_ne (Or.inr (hw _ (List.mem_of_getElem? (i := 29) rfl))) (Or.inr (hw _ (List.mem_of_getElem? (i := 17) rfl))) (by decide) (t := (.array .int)) (t' := (.array .int)) (by decide) (by decide)))
  have f34 := f24.other W25 (Or.inr (slot_ne (Or.inr (hw _ (List.mem_of_getElem? (i := 31) rfl))) (Or.inr (hw _ (List.mem_of_getElem? (i := 17) rfl))) (by decide) (t := (.array .int)) (t' := (.array .int)) (by decide) (by decide)))
  have f35 := A15.other W25 (Ne.symm ne_t0_b15)
  have f36 := D15.wr W25
  have Z25 := Nat.le_trans Z15 (Keep.of_wr W25).1
  have K25 := K15.wr W25 (Or.inl (List.mem_of_getElem? (i := 0) rfl))
  have f37 := f18.same W25
  have N25 := Fr.snoc X25 N2 g_t0
  show own_Fin _ _ _ _ _ _ _ (T25.setTop (mkF m 26 #[.val (.ref t0), .val (.int (2 : Int32)), .unset, .unset, .unset] []))
  refine own_go (fun _ kk => XS.aloadN X25.here hx rfl (hb hby d1g2_26) rfl rfl (XS.aloadN X25.here hx rfl (hb hby d1g2_27) rfl rfl kk)) ?_
  show own_Fin _ _ _ _ _ _ _ (T25.setTop (mkF m 28 #[.val (.ref t0), .val (.int (2 : Int32)), .unset, .unset, .unset] [(.ref t0), (.ref t0)]))
  refine own_getF X25 hx hZ hown (host := "") (Or.inl (hw _ (List.mem_of_getElem? (i := 13) rfl))) Via.refl e25 f27 (hb hby d1g2_28) ?_
  intro T38 X38 e38
  show own_Fin _ _ _ _ _ _ _ (T38.setTop (mkF m 31 #[.val (.ref t0), .val (.int (2 : Int32)), .unset, .unset, .unset] [(.int (4 : Int32)), (.ref t0)]))
  refine own_go (fun _ kk => XS.aloadN X38.here hx rfl (hb hby d1g2_31) rfl rfl kk) ?_
  show own_Fin _ _ _ _ _ _ _ (T38.setTop (mkF m 32 #[.val (.ref t0), .val (.int (2 : Int32)), .unset, .unset, .unset] [(.ref t0), (.int (4 : Int32)), (.ref t0)]))
  refine own_getF X38 hx hZ hown (host := "") (Or.inl (hw _ (List.mem_of_getElem? (i := 13) rfl))) Via.refl e38 f27 (hb hby d1g2_32) ?_
  intro T39 X39 e39
  show own_Fin _ _ _ _ _ _ _ (T39.setTop (mkF m 35 #[.val (.ref t0), .val (.int (2 : Int32)), .unset, .unset, .unset] [(.int (4 : Int32)), (.int (4 : Int32)), (.ref t0)]))
  refine own_go (fun _ kk => XS.imul X39.here hx rfl (hb hby d1g2_35) rfl kk) ?_
  show own_Fin _ _ _ _ _ _ _ (T39.setTop (mkF m 36 #[.val (.ref t0), .val (.int (2 : Int32)), .unset, .unset, .unset] [(.int (16 : Int32)), (.ref t0)]))
  refine own_newI X39 hx hZ (hw _ (List.mem_of_getElem? (i := 15) rfl)) e39 (hb hby d1g2_36) (by decide) (cap := 16) (by decide) (by decide) (by decide) (by decide) ?_
  intro T40 h40 b40 g40 X40 e40 E40 A40 D40
  have g_b40 : n0 ≤ b40 := Nat.le_trans Z25 (Nat.le_of_eq g40.symm)
  have ne_t0_b40 : t0 ≠ b40 := Nat.ne_of_lt (Nat.lt_of_lt_of_le f26.lt (Nat.le_of_eq g40.symm))
  have ne_b15_b40 : b15 ≠ b40 := Nat.ne_of_lt (Nat.lt_of_lt_of_le f35.lt (Nat.le_of_eq g40.symm))
  have f41 := f26.ext E40
  have f42 := f27.ext E40
  have f43 := f37.ext E40
  have f44 := f29.ext E40
  have f45 := f30.ext E40
  have f46 := f31.ext E40
  have f47 := f32.ext E40
  have f48 := f33.ext E40
  have f49 := f34.ext E40
  have f50 := f35.ext E40
  have f51 := f36.ext E40
  have Z40 := Nat.le_trans Z25 E40.1
  have sz_b40 : h0.size ≤ b40 := Nat.le_trans K25.1 (Nat.le_of_eq g40.symm)
  have K40 := K25.ext E40
  have A40 : own_Ar Z h40 b40 .int (List.map Value.int (List.replicate 16 (0 : Int32))) := A40
  show own_Fin _ _ _ _ _ _ _ (T40.setTop (mkF m 38 #[.val (.ref t0), .val (.int (2 : Int32)), .unset, .unset, .unset] [(.ref b40), (.ref t0)]))
  refine own_putF X40 hx hZ hown (host := "") (Or.inl (hw _ (List.mem_of_getElem? (i := 18) rfl))) Via.refl e40 f44 f41 (Or.inr ⟨(hw _ (List.mem_of_getElem? (i := 19) rfl)), rfl, hnm⟩) (hw _ (List.mem_of_getElem? (i := 5) rfl)) (ty := (.array .int)) (by decide) rfl rfl (hb hby d1g2_38) ?_
  intro T52 h52 X52 e52 W52
  have f53 := f41.wr W52
  have f54 := f42.other W52 (Or.inr (slot_ne (Or.inr (hw _ (List.mem_of_getElem? (i := 14) rfl))) (Or.inr (hw _ (List.mem_of_getElem? (i := 19) rfl))) (by decide) (t := .int) (t' := (.array .int)) (by decide) (by decide)))
  have f55 := f43.other W52 (Or.inr (slot_ne (Or.inr (hw _ (List.mem_of_getElem? (i := 17) rfl))) (Or.inr (hw _ (List.mem_of_getElem? (i := 19) rfl))) (by decide) (t := (.array .int)) (t' := (.array .int)) (by decide) (by decide)))
  have f57 := f45.other W52 (Or.inr (slot_ne (Or.inr (hw _ (List.mem_of_getElem? (i := 21) rfl))) (Or.inr (hw _ (List.mem_of_getElem? (i := 19) rfl))) (by decide) (t := (.array .int)) (t' := (.array .int)) (by decide) (by decide)))
  have f58 := f46.other W52 (Or.inr (slot_ne (Or.inr (hw _ (List.mem_of_getElem? (i := 25) rfl))) (Or.inr (hw _ (List.mem_of_getElem? (i := 19) rfl))) (by decide) (t := (.array (.array .int))) (t' := (.array .int)) (by decide) (by decide)))
  have f59 := f47.other W52 (Or.inr (slot_ne (Or.inr (hw _ (List.mem_of_getElem? (i := 27) rfl))) (Or.inr (hw _ (List.mem_of_getElem? (i := 19) rfl))) (by decide) (t := (.array .int)) (t' := (.array .int)) (by decide) (by decide)))
  have f60 := f48.other W52 (Or.inr (slot_ne (Or.inr (hw _ (List.mem_of_getElem? (i := 29) rfl))) (Or.inr (hw _ (List.mem_of_getElem? (i := 19) rfl))) (by decide) (t := (.array .int)) (t' := (.array .int)) (by decide) (by decide)))
  have f61 := f49.other W52 (Or.inr (slot_ne (Or.inr (hw _ (List.mem_of_getElem? (i := 31) rfl))) (Or.inr (hw _ (List.mem_of_getElem? (i := 19) rfl))) (by decide) (t := (.array .int)) (t' := (.array .int)) (by decide) (by decide)))
  have f62 := f50.other W52 (Ne.symm ne_t0_b15)
  have f63 := f51.wr W52
  have f64 := A40.other W52 (Ne.symm ne_t0_b40)
  have f65 := D40.wr W52
  have Z52 := Nat.le_trans Z40 (Keep.of_wr W52).1
  have K52 := K40.wr W52 (Or.inl (List.mem_of_getElem? (i := 0) rfl))
  have f66 := f44.same W52
  have N52 := Fr.snoc X52 N25 g_t0
  show own_Fin _ _ _ _ _ _ _ (T52.setTop (mkF m 41 #[.val (.ref t0), .val (.int (2 : Int32)), .unset, .unset, .unset] []))
  refine own_go (fun _ kk => XS.aloadN X52.here hx rfl (hb hby d1g2_41) rfl rfl (XS.aloadN X52.here hx rfl (hb hby d1g2_42) rfl rfl kk)) ?_
  show own_Fin _ _ _ _ _ _ _ (T52.setTop (mkF m 43 #[.val (.ref t0), .val (.int (2 : Int32)), .unset, .unset, .unset] [(.ref t0), (.ref t0)]))
  refine own_getF X52 hx hZ hown (host := "") (Or.inl (hw _ (List.mem_of_getElem? (i := 13) rfl))) Via.refl e52 f54 (hb hby d1g2_43) ?_
  intro T67 X67 e67
  show own_Fin _ _ _ _ _ _ _ (T67.setTop (mkF m 46 #[.val (.ref t0), .val (.int (2 : Int32)), .unset, .unset, .unset] [(.int (4 : Int32)), (.ref t0)]))
  refine own_go (fun _ kk => XS.aloadN X67.here hx rfl (hb hby d1g2_46) rfl rfl kk) ?_
  show own_Fin _ _ _ _ _ _ _ (T67.setTop (mkF m 47 #[.val (.ref t0), .val (.int (2 : Int32)), .unset, .unset, .unset] [(.ref t0), (.int (4 : Int32)), (.ref t0)]))
  refine own_getF X67 hx hZ hown (host := "") (Or.inl (hw _ (List.mem_of_getElem? (i := 13) rfl))) Via.refl e67 f54 (hb hby d1g2_47) ?_
  intro T68 X68 e68
  show own_Fin _ _ _ _ _ _ _ (T68.setTop (mkF m 50 #[.val (.ref t0), .val (.int (2 : Int32)), .unset, .unset, .unset] [(.int (4 : Int32)), (.int (4 : Int32)), (.ref t0)]))
  refine own_go (fun _ kk => XS.imul X68.here hx rfl (hb hby d1g2_50) rfl kk) ?_
  show own_Fin _ _ _ _ _ _ _ (T68.setTop (mkF m 51 #[.val (.ref t0), .val (.int (2 : Int32)), .unset, .unset, .unset] [(.int (16 : Int32)), (.ref t0)]))
  refine own_newI X68 hx hZ (hw _ (List.mem_of_getElem? (i := 15) rfl)) e68 (hb hby d1g2_51) (by decide) (cap := 16) (by decide) (by decide) (by decide) (by decide) ?_
  intro T69 h69 b69 g69 X69 e69 E69 A69 D69
  have g_b69 : n0 ≤ b69 := Nat.le_trans Z52 (Nat.le_of_eq g69.symm)
  have ne_t0_b69 : t0 ≠ b69 := Nat.ne_of_lt (Nat.lt_of_lt_of_le f53.lt (Nat.le_of_eq g69.symm))
  have ne_b15_b69 : b15 ≠ b69 := Nat.ne_of_lt (Nat.lt_of_lt_of_le f62.lt (Nat.le_of_eq g69.symm))
  have ne_b40_b69 : b40 ≠ b69 := Nat.ne_of_lt (Nat.lt_of_lt_of_le f64.lt (Nat.le_of_eq g69.symm))
  have f70 := f53.ext E69
  have f71 := f54.ext E69
  have f72 := f55.ext E69
  have f73 := f66.ext E69
  have f74 := f57.ext E69
  have f75 := f58.ext E69
  have f76 := f59.ext E69
  have f77 := f60.ext E69
  have f78 := f61.ext E69
  have f79 := f62.ext E69
  have f80 := f63.ext E69
  have f81 := f64.ext E69
  have f82 := f65.ext E69
  have Z69 := Nat.le_trans Z52 E69.1
  have sz_b69 : h0.size ≤ b69 := Nat.le_trans K52.1 (Nat.le_of_eq g69.symm)
  have K69 := K52.ext E69
  have A69 : own_Ar Z h69 b69 .int (List.map Value.int (List.replicate 16 (0 : Int32))) := A69
  show own_Fin _ _ _ _ _ _ _ (T69.setTop (mkF m 53 #[.val (.ref t0), .val (.int (2 : Int32)), .unset, .unset, .unset] [(.ref b69), (.ref t0)]))
  refine own_putF X69 hx hZ hown (host := "") (Or.inl (hw _ (List.mem_of_getElem? (i := 20) rfl))) Via.refl e69 f74 f70 (Or.inr ⟨(hw _ (List.mem_of_getElem? (i := 21) rfl)), rfl, hnm⟩) (hw _ (List.mem_of_getElem? (i := 5) rfl)) (ty := (.array .int)) (by decide) rfl rfl (hb hby d1g2_53) ?_
  intro T83 h83 X83 e83 W83
  have f84 := f70.wr W83
  have f85 := f71.other W83 (Or.inr (slot_ne (Or.inr (hw _ (List.mem_of_getElem? (i := 14) rfl))) (Or.inr (hw _ (List.mem_of_getElem? (i := 21) rfl))) (by decide) (t := .int) (t' := (.array .int)) (by decide) (by decide)))
  have f86 := f72.other W83 (Or.inr (slot_ne (Or.inr (hw _ (List.mem_of_getElem? (i := 17) rfl))) (Or.inr (hw _ (List.mem_of_getElem? (i := 21) rfl))) (by decide) (t := (.array .int)) (t' := (.array .int)) (by decide) (by decide)))
  have f87 := f73.other W83 (Or.inr (slot_ne (Or.inr (hw _ (List.mem_of_getElem? (i := 19) rfl))) (Or.inr (hw _ (List.mem_of_getElem? (i := 21) rfl))) (by decide) (t := (.array .int)) (t' := (.array .int)) (by decide) (by decide)))
  have f89 := f75.other W83 (Or.inr (slot_ne (Or.inr (hw _ (List.mem_of_getElem? (i := 25) rfl))) (Or.inr (hw _ (List.mem_of_getElem? (i := 21) rfl))) (by decide) (t := (.array (.array .int))) (t' := (.array .int)) (by decide) (by decide)))
  have f90 := f76.other W83 (Or.inr (slot_ne (Or.inr (hw _ (List.mem_of_getElem? (i := 27) rfl))) (Or.inr (hw _ (List.mem_of_getElem? (i := 21) rfl))) (by decide) (t := (.array .int)) (t' := (.array .int)) (by decide) (by decide)))
  have f91 := f77.other W83 (Or.inr (slot_ne (Or.inr (hw _ (List.mem_of_getElem? (i := 29) rfl))) (Or.inr (hw _ (List.mem_of_getElem? (i := 21) rfl))) (by decide) (t := (.array .int)) (t' := (.array .int)) (by decide) (by decide)))
  have f92 := f78.other W83 (Or.inr (slot_ne (Or.inr (hw _ (List.mem_of_getElem? (i := 31) rfl))) (Or.inr (hw _ (List.mem_of_getElem? (i := 21) rfl))) (by decide) (t := (.array .int)) (t' := (.array .int)) (by decide) (by decide)))
  have f93 := f79.other W83 (Ne.symm ne_t0_b15)
  have f94 := f80.wr W83
  have f95 := f81.other W83 (Ne.symm ne_t0_b40)
  have f96 := f82.wr W83
  have f97 := A69.other W83 (Ne.symm ne_t0_b69)
  have f98 := D69.wr W83
  have Z83 := Nat.le_trans Z69 (Keep.of_wr W83).1
  have K83 := K69.wr W83 (Or.inl (List.mem_of_getElem? (i := 0) rfl))
  have f99 := f74.same W83
  have N83 := Fr.snoc X83 N52 g_t0
  show own_Fin _ _ _ _ _ _ _ (T83.setTop (mkF m 56 #[.val (.ref t0), .val (.int (2 : Int32)), .unset, .unset, .unset] []))
  refine own_go (fun _ kk => XS.aloadN X83.here hx rfl (hb hby d1g2_56) rfl rfl (XS.iconst X83.here hx rfl (hb hby d1g2_57) (XS.aloadN X83.here hx rfl (hb hby d1g2_58) rfl rfl kk))) ?_
  show own_Fin _ _ _ _ _ _ _ (T83.setTop (mkF m 59 #[.val (.ref t0), .val (.int (2 : Int32)), .unset, .unset, .unset] [(.ref t0), (.int (3 : Int32)), (.ref t0)]))
  refine own_getF X83 hx hZ hown (host := "") (Or.inl (hw _ (List.mem_of_getElem? (i := 13) rfl))) Via.refl e83 f85 (hb hby d1g2_59) ?_
  intro T100 X100 e100
  show own_Fin _ _ _ _ _ _ _ (T100.setTop (mkF m 62 #[.val (.ref t0), .val (.int (2 : Int32)), .unset, .unset, .unset] [(.int (4 : Int32)), (.int (3 : Int32)), (.ref t0)]))
  refine own_go (fun _ kk => XS.imul X100.here hx rfl (hb hby d1g2_62) rfl (XS.aloadN X100.here hx rfl (hb hby d1g2_63) rfl rfl kk)) ?_
  show own_Fin _ _ _ _ _ _ _ (T100.setTop (mkF m 64 #[.val (.ref t0), .val (.int (2 : Int32)), .unset, .unset, .unset] [(.ref t0), (.int (12 : Int32)), (.ref t0)]))
  refine own_getF X100 hx hZ hown (host := "") (Or.inl (hw _ (List.mem_of_getElem? (i := 13) rfl))) Via.refl e100 f85 (hb hby d1g2_64) ?_
  intro T101 X101 e101
  show own_Fin _ _ _ _ _ _ _ (T101.setTop (mkF m 67 #[.val (.ref t0), .val (.int (2 : Int32)), .unset, .unset, .unset] [(.int (4 : Int32)), (.int (12 : Int32)), (.ref t0)]))
  refine own_grid X101 hx hZ hown (hw _ (List.mem_of_getElem? (i := 22) rfl)) (hw _ (List.mem_of_getElem? (i := 23) rfl)) (hw _ (List.mem_of_getElem? (i := 15) rfl)) e101 (hb hby d1g2_67) (by decide) (by decide) (mm := 12) (nn := 4) (by decide) (by decide) (by decide) (by decide) (by decide) (by decide) ?_
  intro T102 h102 b102 g102 X102 e102 E102 G102
  have gr_t0 : t0 < b102 ∨ b102 + 1 + 12 ≤ t0 := Or.inl (Nat.lt_of_lt_of_le f84.lt (Nat.le_of_eq g102.symm))
  have gr_b15 : b15 < b102 ∨ b102 + 1 + 12 ≤ b15 := Or.inl (Nat.lt_of_lt_of_le f93.lt (Nat.le_of_eq g102.symm))
  have gr_b40 : b40 < b102 ∨ b102 + 1 + 12 ≤ b40 := Or.inl (Nat.lt_of_lt_of_le f95.lt (Nat.le_of_eq g102.symm))
  have gr_b69 : b69 < b102 ∨ b102 + 1 + 12 ≤ b69 := Or.inl (Nat.lt_of_lt_of_le f97.lt (Nat.le_of_eq g102.symm))
  have g_b102 : n0 ≤ b102 := Nat.le_trans Z83 (Nat.le_of_eq g102.symm)
  have ne_t0_b102 : t0 ≠ b102 := Nat.ne_of_lt (Nat.lt_of_lt_of_le f84.lt (Nat.le_of_eq g102.symm))
  have ne_b15_b102 : b15 ≠ b102 := Nat.ne_of_lt (Nat.lt_of_lt_of_le f93.lt (Nat.le_of_eq g102.symm))
  have ne_b40_b102 : b40 ≠ b102 := Nat.ne_of_lt (Nat.lt_of_lt_of_le f95.lt (Nat.le_of_eq g102.symm))
  have ne_b69_b102 : b69 ≠ b102 := Nat.ne_of_lt (Nat.lt_of_lt_of_le f97.lt (Nat.le_of_eq g102.symm))
  have f103 := f84.ext E102
  have f104 := f85.ext E102
  have f105 := f86.ext E102
  have f106 := f87.ext E102
  have f107 := f99.ext E102
  have f108 := f89.ext E102
  have f109 := f90.ext E102
  have f110 := f91.ext E102
  have f111 := f92.ext E102
  have f112 := f93.ext E102
  have f113 := f94.ext E102
  have f114 := f95.ext E102
  have f115 := f96.ext E102
  have f116 := f97.ext E102
  have f117 := f98.ext E102
  have Z102 := Nat.le_trans Z83 E102.1
  have sz_b102 : h0.size ≤ b102 := Nat.le_trans K83.1 (Nat.le_of_eq g102.symm)
  have K102 := K83.ext E102
  show own_Fin _ _ _ _ _ _ _ (T102.setTop (mkF m 71 #[.val (.ref t0), .val (.int (2 : Int32)), .unset, .unset, .unset] [(.ref b102), (.ref t0)]))
  refine own_putF X102 hx hZ hown (host := "") (Or.inl (hw _ (List.mem_of_getElem? (i := 24) rfl))) Via.refl e102 f108 f103 (Or.inr ⟨(hw _ (List.mem_of_getElem? (i := 25) rfl)), rfl, hnm⟩) (hw _ (List.mem_of_getElem? (i := 5) rfl)) (ty := (.array (.array .int))) (by decide) rfl rfl (hb hby d1g2_71) ?_
  intro T118 h118 X118 e118 W118
  have f119 := f103.wr W118
  have f120 := f104.other W118 (Or.inr (slot_ne (Or.inr (hw _ (List.mem_of_getElem? (i := 14) rfl))) (Or.inr (hw _ (List.mem_of_getElem? (i := 25) rfl))) (by decide) (t := .int) (t' := (.array (.array .int))) (by decide) (by decide)))
  have f121 := f105.other W118 (Or.inr (slot_ne (Or.inr (hw _ (List.mem_of_getElem? (i := 17) rfl))) (Or.inr (hw _ (List.mem_of_getElem? (i := 25) rfl))) (by decide) (t := (.array .int)) (t' := (.array (.array .int))) (by decide) (by decide)))
  have f122 := f106.other W118 (Or.inr (slot_ne (Or.inr (hw _ (List.mem_of_getElem? (i := 19) rfl))) (Or.inr (hw _ (List.mem_of_getElem? (i := 25) rfl))) (by decide) (t := (.array .int)) (t' := (.array (.array .int))) (by decide) (by decide)))
  have f123 := f107.other W118 (Or.inr (slot_ne (Or.inr (hw _ (List.mem_of_getElem? (i := 21) rfl))) (Or.inr (hw _ (List.mem_of_getElem? (i := 25) rfl))) (by decide) (t := (.array .int)) (t' := (.array (.array .int))) (by decide) (by decide)))
  have f125 := f109.other W118 (Or.inr (slot_ne (Or.inr (hw _ (List.mem_of_getElem? (i := 27) rfl))) (Or.inr (hw _ (List.mem_of_getElem? (i := 25) rfl))) (by decide) (t := (.array .int)) (t' := (.array (.array .int))) (by decide) (by decide)))
  have f126 := f110.other W118 (Or.inr (slot_ne (Or.inr (hw _ (List.mem_of_getElem? (i := 29) rfl))) (Or.inr (hw _ (List.mem_of_getElem? (i := 25) rfl))) (by decide) (t := (.array .int)) (t' := (.array (.array .int))) (by decide) (by decide)))
  have f127 := f111.other W118 (Or.inr (slot_ne (Or.inr (hw _ (List.mem_of_getElem? (i := 31) rfl))) (Or.inr (hw _ (List.mem_of_getElem? (i := 25) rfl))) (by decide) (t := (.array .int)) (t' := (.array (.array .int))) (by decide) (by decide)))
  have f128 := f112.other W118 (Ne.symm ne_t0_b15)
  have f129 := f113.wr W118
  have f130 := f114.other W118 (Ne.symm ne_t0_b40)
  have f131 := f115.wr W118
  have f132 := f116.other W118 (Ne.symm ne_t0_b69)
  have f133 := f117.wr W118
  have Z118 := Nat.le_trans Z102 (Keep.of_wr W118).1
  have K118 := K102.wr W118 (Or.inl (List.mem_of_getElem? (i := 0) rfl))
  have f134 := G102.other W118 gr_t0
  have f135 := f108.same W118
  have N118 := Fr.snoc X118 N83 g_t0
  show own_Fin _ _ _ _ _ _ _ (T118.setTop (mkF m 74 #[.val (.ref t0), .val (.int (2 : Int32)), .unset, .unset, .unset] []))
  refine own_go (fun _ kk => XS.aloadN X118.here hx rfl (hb hby d1g2_74) rfl rfl (XS.aloadN X118.here hx rfl (hb hby d1g2_75) rfl rfl kk)) ?_
  show own_Fin _ _ _ _ _ _ _ (T118.setTop (mkF m 76 #[.val (.ref t0), .val (.int (2 : Int32)), .unset, .unset, .unset] [(.ref t0), (.ref t0)]))
  refine own_getF X118 hx hZ hown (host := "") (Or.inl (hw _ (List.mem_of_getElem? (i := 13) rfl))) Via.refl e118 f120 (hb hby d1g2_76) ?_
  intro T136 X136 e136
  show own_Fin _ _ _ _ _ _ _ (T136.setTop (mkF m 79 #[.val (.ref t0), .val (.int (2 : Int32)), .unset, .unset, .unset] [(.int (4 : Int32)), (.ref t0)]))
  refine own_go (fun _ kk => XS.aloadN X136.here hx rfl (hb hby d1g2_79) rfl rfl kk) ?_
  show own_Fin _ _ _ _ _ _ _ (T136.setTop (mkF m 80 #[.val (.ref t0), .val (.int (2 : Int32)), .unset, .unset, .unset] [(.ref t0), (.int (4 : Int32)), (.ref t0)]))
  refine own_getF X136 hx hZ hown (host := "") (Or.inl (hw _ (List.mem_of_getElem? (i := 13) rfl))) Via.refl e136 f120 (hb hby d1g2_80) ?_
  intro T137 X137 e137
  show own_Fin _ _ _ _ _ _ _ (T137.setTop (mkF m 83 #[.val (.ref t0), .val (.int (2 : Int32)), .unset, .unset, .unset] [(.int (4 : Int32)), (.int (4 : Int32)), (.ref t0)]))
  refine own_go (fun _ kk => XS.imul X137.here hx rfl (hb hby d1g2_83) rfl kk) ?_
  show own_Fin _ _ _ _ _ _ _ (T137.setTop (mkF m 84 #[.val (.ref t0), .val (.int (2 : Int32)), .unset, .unset, .unset] [(.int (16 : Int32)), (.ref t0)]))
  refine own_newI X137 hx hZ (hw _ (List.mem_of_getElem? (i := 15) rfl)) e137 (hb hby d1g2_84) (by decide) (cap := 16) (by decide) (by decide) (by decide) (by decide) ?_
  intro T138 h138 b138 g138 X138 e138 E138 A138 D138
  have g_b138 : n0 ≤ b138 := Nat.le_trans Z118 (Nat.le_of_eq g138.symm)
  have ne_t0_b138 : t0 ≠ b138 := Nat.ne_of_lt (Nat.lt_of_lt_of_le f119.lt (Nat.le_of_eq g138.symm))
  have ne_b15_b138 : b15 ≠ b138 := Nat.ne_of_lt (Nat.lt_of_lt_of_le f128.lt (Nat.le_of_eq g138.symm))
  have ne_b40_b138 : b40 ≠ b138 := Nat.ne_of_lt (Nat.lt_of_lt_of_le f130.lt (Nat.le_of_eq g138.symm))
  have ne_b69_b138 : b69 ≠ b138 := Nat.ne_of_lt (Nat.lt_of_lt_of_le f132.lt (Nat.le_of_eq g138.symm))
  have f139 := f119.ext E138
  have f140 := f120.ext E138
  have f141 := f121.ext E138
  have f142 := f122.ext E138
  have f143 := f123.ext E138
  have f144 := f135.ext E138
  have f145 := f125.ext E138
  have f146 := f126.ext E138
  have f147 := f127.ext E138
  have f148 := f128.ext E138
  have f149 := f129.ext E138
  have f150 := f130.ext E138
  have f151 := f131.ext E138
  have f152 := f132.ext E138
  have f153 := f133.ext E138
  have Z138 := Nat.le_trans Z118 E138.1
  have sz_b138 : h0.size ≤ b138 := Nat.le_trans K118.1 (Nat.le_of_eq g138.symm)
  have K138 := K118.ext E138
  have f154 := f134.ext E138
  have gr_b138 : b138 < b102 ∨ b102 + 1 + 12 ≤ b138 := Or.inr (Nat.le_trans (f134.top (by decide)) (Nat.le_of_eq g138.symm))
  have ne_b102_b138 : b102 ≠ b138 := Nat.ne_of_lt (Nat.lt_of_lt_of_le f134.lt (Nat.le_of_eq g138.symm))
  have A138 : own_Ar Z h138 b138 .int (List.map Value.int (List.replicate 16 (0 : Int32))) := A138
  show own_Fin _ _ _ _ _ _ _ (T138.setTop (mkF m 86 #[.val (.ref t0), .val (.int (2 : Int32)), .unset, .unset, .unset] [(.ref b138), (.ref t0)]))
  refine own_putF X138 hx hZ hown (host := "") (Or.inl (hw _ (List.mem_of_getElem? (i := 26) rfl))) Via.refl e138 f145 f139 (Or.inr ⟨(hw _ (List.mem_of_getElem? (i := 27) rfl)), rfl, hnm⟩) (hw _ (List.mem_of_getElem? (i := 5) rfl)) (ty := (.array .int)) (by decide) rfl rfl (hb hby d1g2_86) ?_
  intro T155 h155 X155 e155 W155
  have f156 := f139.wr W155
  have f157 := f140.other W155 (Or.inr (slot_ne (Or.inr (hw _ (List.mem_of_getElem? (i := 14) rfl))) (Or.inr (hw _ (List.mem_of_getElem? (i := 27) rfl))) (by decide) (t := .int) (t' := (.array .int)) (by decide) (by decide)))
  have f158 := f141.other W155 (Or.inr (slot_ne (Or.inr (hw _ (List.mem_of_getElem? (i := 17) rfl))) (Or.inr (hw _ (List.mem_of_getElem? (i := 27) rfl))) (by decide) (t := (.array .int)) (t' := (.array .int)) (by decide) (by decide)))
  have f159 := f142.other W155 (Or.inr (slot_ne (Or.inr (hw _ (List.mem_of_getElem? (i := 19) rfl))) (Or.inr (hw _ (List.mem_of_getElem? (i := 27) rfl))) (by decide) (t := (.array .int)) (t' := (.array .int)) (by decide) (by decide)))
  have f160 := f143.other W155 (Or.inr (slot_ne (Or.inr (hw _ (List.mem_of_getElem? (i := 21) rfl))) (Or.inr (hw _ (List.mem_of_getElem? (i := 27) rfl))) (by decide) (t := (.array .int)) (t' := (.array .int)) (by decide) (by decide)))
  have f161 := f144.other W155 (Or.inr (slot_ne (Or.inr (hw _ (List.mem_of_getElem? (i := 25) rfl))) (Or.inr (hw _ (List.mem_of_getElem? (i := 27) rfl))) (by decide) (t := (.array (.array .int))) (t' := (.array .int)) (by decide) (by decide)))
  have f163 := f146.other W155 (Or.inr (slot_ne (Or.inr (hw _ (List.mem_of_getElem? (i := 29) rfl))) (Or.inr (hw _ (List.mem_of_getElem? (i := 27) rfl))) (by decide) (t := (.array .int)) (t' := (.array .int)) (by decide) (by decide)))
  have f164 := f147.other W155 (Or.inr (slot_ne (Or.inr (hw _ (List.mem_of_getElem? (i := 31) rfl))) (Or.inr (hw _ (List.mem_of_getElem? (i := 27) rfl))) (by decide) (t := (.array .int)) (t' := (.array .int)) (by decide) (by decide)))
  have f165 := f148.other W155 (Ne.symm ne_t0_b15)
  have f166 := f149.wr W155
  have f167 := f150.other W155 (Ne.symm ne_t0_b40)
  have f168 := f151.wr W155
  have f169 := f152.other W155 (Ne.symm ne_t0_b69)
  have f170 := f153.wr W155
  have f171 := A138.other W155 (Ne.symm ne_t0_b138)
  have f172 := D138.wr W155
  have Z155 := Nat.le_trans Z138 (Keep.of_wr W155).1
  have K155 := K138.wr W155 (Or.inl (List.mem_of_getElem? (i := 0) rfl))
  have f173 := f154.other W155 gr_t0
  have f174 := f145.same W155
  have N155 := Fr.snoc X155 N118 g_t0
  show own_Fin _ _ _ _ _ _ _ (T155.setTop (mkF m 89 #[.val (.ref t0), .val (.int (2 : Int32)), .unset, .unset, .unset] []))
  refine own_go (fun _ kk => XS.aloadN X155.here hx rfl (hb hby d1g2_89) rfl rfl (XS.aloadN X155.here hx rfl (hb hby d1g2_90) rfl rfl kk)) ?_
  show own_Fin _ _ _ _ _ _ _ (T155.setTop (mkF m 91 #[.val (.ref t0), .val (.int (2 : Int32)), .unset, .unset, .unset] [(.ref t0), (.ref t0)]))
  refine own_getF X155 hx hZ hown (host := "") (Or.inl (hw _ (List.mem_of_getElem? (i := 13) rfl))) Via.refl e155 f157 (hb hby d1g2_91) ?_
  intro T175 X175 e175
  show own_Fin _ _ _ _ _ _ _ (T175.setTop (mkF m 94 #[.val (.ref t0), .val (.int (2 : Int32)), .unset, .unset, .unset] [(.int (4 : Int32)), (.ref t0)]))
  refine own_go (fun _ kk => XS.aloadN X175.here hx rfl (hb hby d1g2_94) rfl rfl kk) ?_
  show own_Fin _ _ _ _ _ _ _ (T175.setTop (mkF m 95 #[.val (.ref t0), .val (.int (2 : Int32)), .unset, .unset, .unset] [(.ref t0), (.int (4 : Int32)), (.ref t0)]))
  refine own_getF X175 hx hZ hown (host := "") (Or.inl (hw _ (List.mem_of_getElem? (i := 13) rfl))) Via.refl e175 f157 (hb hby d1g2_95) ?_
  intro T176 X176 e176
  show own_Fin _ _ _ _ _ _ _ (T176.setTop (mkF m 98 #[.val (.ref t0), .val (.int (2 : Int32)), .unset, .unset, .unset] [(.int (4 : Int32)), (.int (4 : Int32)), (.ref t0)]))
  refine own_go (fun _ kk => XS.imul X176.here hx rfl (hb hby d1g2_98) rfl kk) ?_
  show own_Fin _ _ _ _ _ _ _ (T176.setTop (mkF m 99 #[.val (.ref t0), .val (.int (2 : Int32)), .unset, .unset, .unset] [(.int (16 : Int32)), (.ref t0)]))
  refine own_newI X176 hx hZ (hw _ (List.mem_of_getElem? (i := 15) rfl)) e176 (hb hby d1g2_99) (by decide) (cap := 16) (by decide) (by decide) (by decide) (by decide) ?_
  intro T177 h177 b177 g177 X177 e177 E177 A177 D177
  have g_b177 : n0 ≤ b177 := Nat.le_trans Z155 (Nat.le_of_eq g177.symm)
  have ne_t0_b177 : t0 ≠ b177 := Nat.ne_of_lt (Nat.lt_of_lt_of_le f156.lt (Nat.le_of_eq g177.symm))
  have ne_b15_b177 : b15 ≠ b177 := Nat.ne_of_lt (Nat.lt_of_lt_of_le f165.lt (Nat.le_of_eq g177.symm))
  have ne_b40_b177 : b40 ≠ b177 := Nat.ne_of_lt (Nat.lt_of_lt_of_le f167.lt (Nat.le_of_eq g177.symm))
  have ne_b69_b177 : b69 ≠ b177 := Nat.ne_of_lt (Nat.lt_of_lt_of_le f169.lt (Nat.le_of_eq g177.symm))
  have ne_b138_b177 : b138 ≠ b177 := Nat.ne_of_lt (Nat.lt_of_lt_of_le f171.lt (Nat.le_of_eq g177.symm))
  have f178 := f156.ext E177
  have f179 := f157.ext E177
  have f180 := f158.ext E177
  have f181 := f159.ext E177
  have f182 := f160.ext E177
  have f183 := f161.ext E177
  have f184 := f174.ext E177
  have f185 := f163.ext E177
  have f186 := f164.ext E177
  have f187 := f165.ext E177
  have f188 := f166.ext E177
  have f189 := f167.ext E177
  have f190 := f168.ext E177
  have f191 := f169.ext E177
  have f192 := f170.ext E177
  have f193 := f171.ext E177
  have f194 := f172.ext E177
  have Z177 := Nat.le_trans Z155 E177.1
  have sz_b177 : h0.size ≤ b177 := Nat.le_trans K155.1 (Nat.le_of_eq g177.symm)
  have K177 := K155.ext E177
  have f195 := f173.ext E177
  have gr_b177 : b177 < b102 ∨ b102 + 1 + 12 ≤ b177 := Or.inr (Nat.le_trans (f173.top (by decide)) (Nat.le_of_eq g177.symm))
  have ne_b102_b177 : b102 ≠ b177 := Nat.ne_of_lt (Nat.lt_of_lt_of_le f173.lt (Nat.le_of_eq g177.symm))
  have A177 : own_Ar Z h177 b177 .int (List.map Value.int (List.replicate 16 (0 : Int32))) := A177
  show own_Fin _ _ _ _ _ _ _ (T177.setTop (mkF m 101 #[.val (.ref t0), .val (.int (2 : Int32)), .unset, .unset, .unset] [(.ref b177), (.ref t0)]))
  refine own_putF X177 hx hZ hown (host := "") (Or.inl (hw _ (List.mem_of_getElem? (i := 28) rfl))) Via.refl e177 f185 f178 (Or.inr ⟨(hw _ (List.mem_of_getElem? (i := 29) rfl)), rfl, hnm⟩) (hw _ (List.mem_of_getElem? (i := 5) rfl)) (ty := (.array .int)) (by decide) rfl rfl (hb hby d1g2_101) ?_
  intro T196 h196 X196 e196 W196
  have f197 := f178.wr W196
  have f198 := f179.other W196 (Or.inr (slot_ne (Or.inr (hw _ (List.mem_of_getElem? (i := 14) rfl))) (Or.inr (hw _ (List.mem_of_getElem? (i := 29) rfl))) (by decide) (t := .int) (t' := (.array .int)) (by decide) (by decide)))
  have f199 := f180.other W196 (Or.inr (slot_ne (Or.inr (hw _ (List.mem_of_getElem? (i := 17) rfl))) (Or.inr (hw _ (List.mem_of_getElem? (i := 29) rfl))) (by decide) (t := (.array .int)) (t' := (.array .int)) (by decide) (by decide)))
  have f200 := f181.other W196 (Or.inr (slot_ne (Or.inr (hw _ (List.mem_of_getElem? (i := 19) rfl))) (Or.inr (hw _ (List.mem_of_getElem? (i := 29) rfl))) (by decide) (t := (.array .int)) (t' := (.array .int)) (by decide) (by decide)))
  have f201 := f182.other W196 (Or.inr (slot_ne (Or.inr (hw _ (List.mem_of_getElem? (i := 21) rfl))) (Or.inr (hw _ (List.mem_of_getElem? (i := 29) rfl))) (by decide) (t := (.array .int)) (t' := (.array .int)) (by decide) (by decide)))
  have f202 := f183.other W196 (Or.inr (slot_ne (Or.inr (hw _ (List.mem_of_getElem? (i := 25) rfl))) (Or.inr (hw _ (List.mem_of_getElem? (i := 29) rfl))) (by decide) (t := (.array (.array .int))) (t' := (.array .int)) (by decide) (by decide)))
  have f203 := f184.other W196 (Or.inr (slot_ne (Or.inr (hw _ (List.mem_of_getElem? (i := 27) rfl))) (Or.inr (hw _ (List.mem_of_getElem? (i := 29) rfl))) (by decide) (t := (.array .int)) (t' := (.array .int)) (by decide) (by decide)))
  have f205 := f186.other W196 (Or.inr (slot_ne (Or.inr (hw _ (List.mem_of_getElem? (i := 31) rfl))) (Or.inr (hw _ (List.mem_of_getElem? (i := 29) rfl))) (by decide) (t := (.array .int)) (t' := (.array .int)) (by decide) (by decide)))
  have f206 := f187.other W196 (Ne.symm ne_t0_b15)
  have f207 := f188.wr W196
  have f208 := f189.other W196 (Ne.symm ne_t0_b40)
  have f209 := f190.wr W196
  have f210 := f191.other W196 (Ne.symm ne_t0_b69)
  have f211 := f192.wr W196
  have f212 := f193.other W196 (Ne.symm ne_t0_b138)
  have f213 := f194.wr W196
  have f214 := A177.other W196 (Ne.symm ne_t0_b177)
  have f215 := D177.wr W196
  have Z196 := Nat.le_trans Z177 (Keep.of_wr W196).1
  have K196 := K177.wr W196 (Or.inl (List.mem_of_getElem? (i := 0) rfl))
  have f216 := f195.other W196 gr_t0
  have f217 := f185.same W196
  have N196 := Fr.snoc X196 N155 g_t0
  show own_Fin _ _ _ _ _ _ _ (T196.setTop (mkF m 104 #[.val (.ref t0), .val (.int (2 : Int32)), .unset, .unset, .unset] []))
  refine own_go (fun _ kk => XS.aloadN X196.here hx rfl (hb hby d1g2_104) rfl rfl (XS.aloadN X196.here hx rfl (hb hby d1g2_105) rfl rfl kk)) ?_
  show own_Fin _ _ _ _ _ _ _ (T196.setTop (mkF m 106 #[.val (.ref t0), .val (.int (2 : Int32)), .unset, .unset, .unset] [(.ref t0), (.ref t0)]))
  refine own_getF X196 hx hZ hown (host := "") (Or.inl (hw _ (List.mem_of_getElem? (i := 13) rfl))) Via.refl e196 f198 (hb hby d1g2_106) ?_
  intro T218 X218 e218
  show own_Fin _ _ _ _ _ _ _ (T218.setTop (mkF m 109 #[.val (.ref t0), .val (.int (2 : Int32)), .unset, .unset, .unset] [(.int (4 : Int32)), (.ref t0)]))
  refine own_go (fun _ kk => XS.aloadN X218.here hx rfl (hb hby d1g2_109) rfl rfl kk) ?_
  show own_Fin _ _ _ _ _ _ _ (T218.setTop (mkF m 110 #[.val (.ref t0), .val (.int (2 : Int32)), .unset, .unset, .unset] [(.ref t0), (.int (4 : Int32)), (.ref t0)]))
  refine own_getF X218 hx hZ hown (host := "") (Or.inl (hw _ (List.mem_of_getElem? (i := 13) rfl))) Via.refl e218 f198 (hb hby d1g2_110) ?_
  intro T219 X219 e219
  show own_Fin _ _ _ _ _ _ _ (T219.setTop (mkF m 113 #[.val (.ref t0), .val (.int (2 : Int32)), .unset, .unset, .unset] [(.int (4 : Int32)), (.int (4 : Int32)), (.ref t0)]))
  refine own_go (fun _ kk => XS.imul X219.here hx rfl (hb hby d1g2_113) rfl kk) ?_
  show own_Fin _ _ _ _ _ _ _ (T219.setTop (mkF m 114 #[.val (.ref t0), .val (.int (2 : Int32)), .unset, .unset, .unset] [(.int (16 : Int32)), (.ref t0)]))
  refine own_newI X219 hx hZ (hw _ (List.mem_of_getElem? (i := 15) rfl)) e219 (hb hby d1g2_114) (by decide) (cap := 16) (by decide) (by decide) (by decide) (by decide) ?_
  intro T220 h220 b220 g220 X220 e220 E220 A220 D220
  have g_b220 : n0 ≤ b220 := Nat.le_trans Z196 (Nat.le_of_eq g220.symm)
  have ne_t0_b220 : t0 ≠ b220 := Nat.ne_of_lt (Nat.lt_of_lt_of_le f197.lt (Nat.le_of_eq g220.symm))
  have ne_b15_b220 : b15 ≠ b220 := Nat.ne_of_lt (Nat.lt_of_lt_of_le f206.lt (Nat.le_of_eq g220.symm))
  have ne_b40_b220 : b40 ≠ b220 := Nat.ne_of_lt (Nat.lt_of_lt_of_le f208.lt (Nat.le_of_eq g220.symm))
  have ne_b69_b220 : b69 ≠ b220 := Nat.ne_of_lt (Nat.lt_of_lt_of_le f210.lt (Nat.le_of_eq g220.symm))
  have ne_b138_b220 : b138 ≠ b220 := Nat.ne_of_lt (Nat.lt_of_lt_of_le f212.lt (Nat.le_of_eq g220.symm))
  have ne_b177_b220 : b177 ≠ b220 := Nat.ne_of_lt (Nat.lt_of_lt_of_le f214.lt (Nat.le_of_eq g220.symm))
  have f221 := f197.ext E220
  have f222 := f198.ext E220
  have f223 := f199.ext E220
  have f224 := f200.ext E220
  have f225 := f201.ext E220
  have f226 := f202.ext E220
  have f227 := f203.ext E220
  have f228 := f217.ext E220
  have f229 := f205.ext E220
  have f230 := f206.ext E220
  have f231 := f207.ext E220
  have f232 := f208.ext E220
  have f233 := f209.ext E220
  have f234 := f210.ext E220
  have f235 := f211.ext E220
  have f236 := f212.ext E220
  have f237 := f213.ext E220
  have f238 := f214.ext E220
  have f239 := f215.ext E220
  have Z220 := Nat.le_trans Z196 E220.1
  have sz_b220 : h0.size ≤ b220 := Nat.le_trans K196.1 (Nat.le_of_eq g220.symm)
  have K220 := K196.ext E220
  have f240 := f216.ext E220
  have gr_b220 : b220 < b102 ∨ b102 + 1 + 12 ≤ b220 := Or.inr (Nat.le_trans (f216.top (by decide)) (Nat.le_of_eq g220.symm))
  have ne_b102_b220 : b102 ≠ b220 := Nat.ne_of_lt (Nat.lt_of_lt_of_le f216.lt (Nat.le_of_eq g220.symm))
  have A220 : own_Ar Z h220 b220 .int (List.map Value.int (List.replicate 16 (0 : Int32))) := A220
  show own_Fin _ _ _ _ _ _ _ (T220.setTop (mkF m 116 #[.val (.ref t0), .val (.int (2 : Int32)), .unset, .unset, .unset] [(.ref b220), (.ref t0)]))
  refine own_putF X220 hx hZ hown (host := "") (Or.inl (hw _ (List.mem_of_getElem? (i := 30) rfl))) Via.refl e220 f229 f221 (Or.inr ⟨(hw _ (List.mem_of_getElem? (i := 31) rfl)), rfl, hnm⟩) (hw _ (List.mem_of_getElem? (i := 5) rfl)) (ty := (.array .int)) (by decide) rfl rfl (hb hby d1g2_116) ?_
  intro T241 h241 X241 e241 W241
  have f242 := f221.wr W241
  have f243 := f222.other W241 (Or.inr (slot_ne (Or.inr (hw _ (List.mem_of_getElem? (i := 14) rfl))) (Or.inr (hw _ (List.mem_of_getElem? (i := 31) rfl))) (by decide) (t := .int) (t' := (.array .int)) (by decide) (by decide)))
  have f244 := f223.other W241 (Or.inr (slot_ne (Or.inr (hw _ (List.mem_of_getElem? (i := 17) rfl))) (Or.inr (hw _ (List.mem_of_getElem? (i := 31) rfl))) (by decide) (t := (.array .int)) (t' := (.array .int)) (by decide) (by decide)))
  have f245 := f224.other W241 (Or.inr (slot_ne (Or.inr (hw _ (List.mem_of_getElem? (i := 19) rfl))) (Or.inr (hw _ (List.mem_of_getElem? (i := 31) rfl))) (by decide) (t := (.array .int)) (t' := (.array .int)) (by decide) (by decide)))
  have f246 := f225.other W241 (Or.inr (slot_ne (Or.inr (hw _ (List.mem_of_getElem? (i := 21) rfl))) (Or.inr (hw _ (List.mem_of_getElem? (i := 31) rfl))) (by decide) (t := (.array .int)) (t' := (.array .int)) (by decide) (by decide)))
  have f247 := f226.other W241 (Or.inr (slot_ne (Or.inr (hw _ (List.mem_of_getElem? (i := 25) rfl))) (Or.inr (hw _ (List.mem_of_getElem? (i := 31) rfl))) (by decide) (t := (.array (.array .int))) (t' := (.array .int)) (by decide) (by decide)))
  have f248 := f227.other W241 (Or.inr (slot_ne (Or.inr (hw _ (List.mem_of_getElem? (i := 27) rfl))) (Or.inr (hw _ (List.mem_of_getElem? (i := 31) rfl))) (by decide) (t := (.array .int)) (t' := (.array .int)) (by decide) (by decide)))
  have f249 := f228.other W241 (Or.inr (slot_ne (Or.inr (hw _ (List.mem_of_getElem? (i := 29) rfl))) (Or.inr (hw _ (List.mem_of_getElem? (i := 31) rfl))) (by decide) (t := (.array .int)) (t' := (.array .int)) (by decide) (by decide)))
  have f251 := f230.other W241 (Ne.symm ne_t0_b15)
  have f252 := f231.wr W241
  have f253 := f232.other W241 (Ne.symm ne_t0_b40)
  have f254 := f233.wr W241
  have f255 := f234.other W241 (Ne.symm ne_t0_b69)
  have f256 := f235.wr W241
  have f257 := f236.other W241 (Ne.symm ne_t0_b138)
  have f258 := f237.wr W241
  have f259 := f238.other W241 (Ne.symm ne_t0_b177)
  have f260 := f239.wr W241
  have f261 := A220.other W241 (Ne.symm ne_t0_b220)
  have f262 := D220.wr W241
  have Z241 := Nat.le_trans Z220 (Keep.of_wr W241).1
  have K241 := K220.wr W241 (Or.inl (List.mem_of_getElem? (i := 0) rfl))
  have f263 := f240.other W241 gr_t0
  have f264 := f229.same W241
  have N241 := Fr.snoc X241 N196 g_t0
  show own_Fin _ _ _ _ _ _ _ (T241.setTop (mkF m 119 #[.val (.ref t0), .val (.int (2 : Int32)), .unset, .unset, .unset] []))
  refine own_go (fun _ kk => XS.iconst X241.here hx rfl (hb hby d1g2_119) (XS.istoreN X241.here hx rfl (hb hby d1g2_120) rfl (l' := #[.val (.ref t0), .val (.int (2 : Int32)), .val (.int (0 : Int32)), .unset, .unset]) rfl kk)) ?_
  show own_Fin _ _ _ _ _ _ _ (T241.setTop (mkF m 121 #[.val (.ref t0), .val (.int (2 : Int32)), .val (.int (0 : Int32)), .unset, .unset] []))
  have L121 : ∀ (mm : Nat) (TL121 : State) (hL121 : Heap) (locsL121 : List Loc) (i : Nat) (s3 : Slot) (s4 : Slot), 16 - i = mm → (i ≤ 16) → (s3 = .unset ∨ ∃ w, s3 = .val w ∧ w.category = 1) → (s4 = .unset ∨ ∃ w, s4 = .val w ∧ w.category = 1) → Stand p l e ({ frames := 1, cells := 19, slots := 156, locals := 12 } : Room) s m #[(.ref t0), (.int (2 : Int32))] below meth c TL121 locsL121 19 156 → Fr n0 locsL121 → TL121.heap = hL121 → Keep h0 hL121 [t0] → n0 ≤ hL121.size → Exa Z hL121 t0 "com/example/onda/onda/sudoku/Geometry" → Fld Z hL121 t0 "com/example/onda/onda/sudoku/Geometry" "size" "I" (.int (4 : Int32)) → Fld Z hL121 t0 "com/example/onda/onda/sudoku/Geometry" "rowOf" "[I" (.ref b15) → Fld Z hL121 t0 "com/example/onda/onda/sudoku/Geometry" "columnOf" "[I" (.ref b40) → Fld Z hL121 t0 "com/example/onda/onda/sudoku/Geometry" "boxOf" "[I" (.ref b69) → Fld Z hL121 t0 "com/example/onda/onda/sudoku/Geometry" "cellsOf" "[[I" (.ref b102) → Fld Z hL121 t0 "com/example/onda/onda/sudoku/Geometry" "indexInRow" "[I" (.ref b138) → Fld Z hL121 t0 "com/example/onda/onda/sudoku/Geometry" "indexInColumn" "[I" (.ref b177) → Fld Z hL121 t0 "com/example/onda/onda/sudoku/Geometry" "indexInBox" "[I" (.ref b220) → own_Ar Z hL121 b15 .int ((own_L own_fR2 16 i).map Value.int) → own_Ar Z hL121 b40 .int ((own_L own_fC2 16 i).map Value.int) → own_Ar Z hL121 b69 .int ((own_L own_fB2 16 i).map Value.int) → own_Ar Z hL121 b138 .int ((own_L own_fIR2 16 i).map Value.int) → own_Ar Z hL121 b177 .int ((own_L own_fIC2 16 i).map Value.int) → own_Ar Z hL121 b220 .int ((own_L own_fIB2 16 i).map Value.int) → own_Grid Z hL121 b102 12 4 → own_Fin p e below s (own_QGeo2 Z t0 h0 n0) ({ frames := 1, cells := 19, slots := 156, locals := 12 } : Room).cells ({ frames := 1, cells := 19, slots := 156, locals := 12 } : Room).slots (TL121.setTop (mkF m 121 #[.val (.ref t0), .val (.int (2 : Int32)), .val (.int (Int32.ofNat i)), s3, s4] [])) := by
    intro mm
    induction mm using Nat.strongRecOn with
    | _ mm ih =>
    intro TL121 hL121 locsL121 i s3 s4 hmm hi h_s3 h_s4 XL121 NL121 eL121 KL121 ZL121 El Fl_size Fl_rowOf Fl_columnOf Fl_boxOf Fl_cellsOf Fl_indexInRow Fl_indexInColumn Fl_indexInBox Vl_rowOf Vl_columnOf Vl_boxOf Vl_indexInRow Vl_indexInColumn Vl_indexInBox Gl
    refine own_go (fun _ kk => XS.iloadN XL121.here hx rfl (hb hby d1g2_121) rfl (XS.aloadN XL121.here hx rfl (hb hby d1g2_122) rfl rfl kk)) ?_
    show own_Fin _ _ _ _ _ _ _ (TL121.setTop (mkF m 123 #[.val (.ref t0), .val (.int (2 : Int32)), .val (.int (Int32.ofNat i)), s3, s4] [(.ref t0), (.int (Int32.ofNat i))]))
    refine own_getF XL121 hx hZ hown (host := "") (Or.inl (hw _ (List.mem_of_getElem? (i := 13) rfl))) Via.refl eL121 Fl_size (hb hby d1g2_123) ?_
    intro T265 X265 e265
    show own_Fin _ _ _ _ _ _ _ (T265.setTop (mkF m 126 #[.val (.ref t0), .val (.int (2 : Int32)), .val (.int (Int32.ofNat i)), s3, s4] [(.int (4 : Int32)), (.int (Int32.ofNat i))]))
    refine own_go (fun _ kk => XS.aloadN X265.here hx rfl (hb hby d1g2_126) rfl rfl kk) ?_
    show own_Fin _ _ _ _ _ _ _ (T265.setTop (mkF m 127 #[.val (.ref t0), .val (.int (2 : Int32)), .val (.int (Int32.ofNat i)), s3, s4] [(.ref t0), (.int (4 : Int32)), (.int (Int32.ofNat i))]))
    refine own_getF X265 hx hZ hown (host := "") (Or.inl (hw _ (List.mem_of_getElem? (i := 13) rfl))) Via.refl e265 Fl_size (hb hby d1g2_127) ?_
    intro T266 X266 e266
    show own_Fin _ _ _ _ _ _ _ (T266.setTop (mkF m 130 #[.val (.ref t0), .val (.int (2 : Int32)), .val (.int (Int32.ofNat i)), s3, s4] [(.int (4 : Int32)), (.int (4 : Int32)), (.int (Int32.ofNat i))]))
    refine own_go (fun _ kk => XS.imul X266.here hx rfl (hb hby d1g2_130) rfl kk) ?_
    show own_Fin _ _ _ _ _ _ _ (T266.setTop (mkF m 131 #[.val (.ref t0), .val (.int (2 : Int32)), .val (.int (Int32.ofNat i)), s3, s4] [(.int (16 : Int32)), (.int (Int32.ofNat i))]))
    by_cases hc131 : (Int32.ofNat i) < (16 : Int32)
    · refine own_go (fun _ kk => XS.icmpNo X266.here hx rfl (hb hby d1g2_131) rfl (XT.ii_ge_f hc131) kk) ?_
      show own_Fin _ _ _ _ _ _ _ (T266.setTop (mkF m 134 #[.val (.ref t0), .val (.int (2 : Int32)), .val (.int (Int32.ofNat i)), s3, s4] []))
      have hi' : i < 16 := (own_ltN i 16 (by omega) (by decide)).mp hc131
      refine own_go (fun _ kk => XS.iloadN X266.here hx rfl (hb hby d1g2_134) rfl (XS.aloadN X266.here hx rfl (hb hby d1g2_135) rfl rfl kk)) ?_
      show own_Fin _ _ _ _ _ _ _ (T266.setTop (mkF m 136 #[.val (.ref t0), .val (.int (2 : Int32)), .val (.int (Int32.ofNat i)), s3, s4] [(.ref t0), (.int (Int32.ofNat i))]))
      refine own_getF X266 hx hZ hown (host := "") (Or.inl (hw _ (List.mem_of_getElem? (i := 13) rfl))) Via.refl e266 Fl_size (hb hby d1g2_136) ?_
      intro T267 X267 e267
      show own_Fin _ _ _ _ _ _ _ (T267.setTop (mkF m 139 #[.val (.ref t0), .val (.int (2 : Int32)), .val (.int (Int32.ofNat i)), s3, s4] [(.int (4 : Int32)), (.int (Int32.ofNat i))]))
      refine own_go (fun _ kk => XS.idiv X267.here hx rfl (hb hby d1g2_139) rfl (by decide) (XS.istoreNS X267.here hx rfl (hb hby d1g2_140) rfl rfl h_s3 (XS.iloadN X267.here hx rfl (hb hby d1g2_141) rfl (XS.aloadN X267.here hx rfl (hb hby d1g2_142) rfl rfl kk)))) ?_
      show own_Fin _ _ _ _ _ _ _ (T267.setTop (mkF m 143 #[.val (.ref t0), .val (.int (2 : Int32)), .val (.int (Int32.ofNat i)), .val (.int ((Int32.ofNat i) / (4 : Int32))), s4] [(.ref t0), (.int (Int32.ofNat i))]))
      refine own_getF X267 hx hZ hown (host := "") (Or.inl (hw _ (List.mem_of_getElem? (i := 13) rfl))) Via.refl e267 Fl_size (hb hby d1g2_143) ?_
      intro T268 X268 e268
      show own_Fin _ _ _ _ _ _ _ (T268.setTop (mkF m 146 #[.val (.ref t0), .val (.int (2 : Int32)), .val (.int (Int32.ofNat i)), .val (.int ((Int32.ofNat i) / (4 : Int32))), s4] [(.int (4 : Int32)), (.int (Int32.ofNat i))]))
      refine own_go (fun _ kk => iremM X268 hx rfl (hb hby d1g2_146) rfl (by decide) (XS.istoreS X268.here hx rfl (hb hby d1g2_147) rfl rfl h_s4 (XS.aloadN X268.here hx rfl (hb hby d1g2_149) rfl rfl kk))) ?_
      show own_Fin _ _ _ _ _ _ _ (T268.setTop (mkF m 150 #[.val (.ref t0), .val (.int (2 : Int32)), .val (.int (Int32.ofNat i)), .val (.int ((Int32.ofNat i) / (4 : Int32))), .val (.int ((Int32.ofNat i) % (4 : Int32)))] [(.ref t0)]))
      refine own_getF X268 hx hZ hown (host := "") (Or.inl (hw _ (List.mem_of_getElem? (i := 16) rfl))) Via.refl e268 Fl_rowOf (hb hby d1g2_150) ?_
      intro T269 X269 e269
      show own_Fin _ _ _ _ _ _ _ (T269.setTop (mkF m 153 #[.val (.ref t0), .val (.int (2 : Int32)), .val (.int (Int32.ofNat i)), .val (.int ((Int32.ofNat i) / (4 : Int32))), .val (.int ((Int32.ofNat i) % (4 : Int32)))] [(.ref b15)]))
      refine own_go (fun _ kk => XS.iloadN X269.here hx rfl (hb hby d1g2_153) rfl (XS.iloadN X269.here hx rfl (hb hby d1g2_154) rfl kk)) ?_
      show own_Fin _ _ _ _ _ _ _ (T269.setTop (mkF m 155 #[.val (.ref t0), .val (.int (2 : Int32)), .val (.int (Int32.ofNat i)), .val (.int ((Int32.ofNat i) / (4 : Int32))), .val (.int ((Int32.ofNat i) % (4 : Int32)))] [(.int ((Int32.ofNat i) / (4 : Int32))), (.int (Int32.ofNat i)), (.ref b15)]))
      refine own_stI X269 hx hZ e269 Vl_rowOf (own_nn (by omega)) (by rw [own_Llen, own_tn (by omega)]; exact hi') (hb hby d1g2_155) ?_
      intro T270 h270 X270 e270 W270 A270
      have f271 := El.wr W270
      have f272 := Fl_size.other W270 (Or.inl ne_t0_b15)
      have f273 := Fl_rowOf.other W270 (Or.inl ne_t0_b15)
      have f274 := Fl_columnOf.other W270 (Or.inl ne_t0_b15)
      have f275 := Fl_boxOf.other W270 (Or.inl ne_t0_b15)
      have f276 := Fl_cellsOf.other W270 (Or.inl ne_t0_b15)
      have f277 := Fl_indexInRow.other W270 (Or.inl ne_t0_b15)
      have f278 := Fl_indexInColumn.other W270 (Or.inl ne_t0_b15)
      have f279 := Fl_indexInBox.other W270 (Or.inl ne_t0_b15)
      have f281 := Vl_columnOf.other W270 (Ne.symm ne_b15_b40)
      have f282 := Vl_boxOf.other W270 (Ne.symm ne_b15_b69)
      have f283 := Vl_indexInRow.other W270 (Ne.symm ne_b15_b138)
      have f284 := Vl_indexInColumn.other W270 (Ne.symm ne_b15_b177)
      have f285 := Vl_indexInBox.other W270 (Ne.symm ne_b15_b220)
      have Z270 := Nat.le_trans ZL121 (Keep.of_wr W270).1
      have K270 := KL121.wr W270 (Or.inr sz_b15)
      have f286 := Gl.other W270 gr_b15
      have N270 := Fr.snoc X270 NL121 g_b15
      show own_Fin _ _ _ _ _ _ _ (T270.setTop (mkF m 156 #[.val (.ref t0), .val (.int (2 : Int32)), .val (.int (Int32.ofNat i)), .val (.int ((Int32.ofNat i) / (4 : Int32))), .val (.int ((Int32.ofNat i) % (4 : Int32)))] []))
      have V287 : own_Ar Z h270 b15 .int (List.map Value.int (own_L own_fR2 16 (i + 1))) := by rw [← own_Lset (f := own_fR2) hi' (by decide)]; exact A270
      refine own_go (fun _ kk => XS.aloadN X270.here hx rfl (hb hby d1g2_156) rfl rfl kk) ?_
      show own_Fin _ _ _ _ _ _ _ (T270.setTop (mkF m 157 #[.val (.ref t0), .val (.int (2 : Int32)), .val (.int (Int32.ofNat i)), .val (.int ((Int32.ofNat i) / (4 : Int32))), .val (.int ((Int32.ofNat i) % (4 : Int32)))] [(.ref t0)]))
      refine own_getF X270 hx hZ hown (host := "") (Or.inl (hw _ (List.mem_of_getElem? (i := 18) rfl))) Via.refl e270 f274 (hb hby d1g2_157) ?_
      intro T288 X288 e288
      show own_Fin _ _ _ _ _ _ _ (T288.setTop (mkF m 160 #[.val (.ref t0), .val (.int (2 : Int32)), .val (.int (Int32.ofNat i)), .val (.int ((Int32.ofNat i) / (4 : Int32))), .val (.int ((Int32.ofNat i) % (4 : Int32)))] [(.ref b40)]))
      refine own_go (fun _ kk => XS.iloadN X288.here hx rfl (hb hby d1g2_160) rfl (XS.aloadN X288.here hx rfl (hb hby d1g2_161) rfl rfl kk)) ?_
      show own_Fin _ _ _ _ _ _ _ (T288.setTop (mkF m 162 #[.val (.ref t0), .val (.int (2 : Int32)), .val (.int (Int32.ofNat i)), .val (.int ((Int32.ofNat i) / (4 : Int32))), .val (.int ((Int32.ofNat i) % (4 : Int32)))] [(.ref t0), (.int (Int32.ofNat i)), (.ref b40)]))
      refine own_getF X288 hx hZ hown (host := "") (Or.inl (hw _ (List.mem_of_getElem? (i := 13) rfl))) Via.refl e288 f272 (hb hby d1g2_162) ?_
      intro T289 X289 e289
      show own_Fin _ _ _ _ _ _ _ (T289.setTop (mkF m 165 #[.val (.ref t0), .val (.int (2 : Int32)), .val (.int (Int32.ofNat i)), .val (.int ((Int32.ofNat i) / (4 : Int32))), .val (.int ((Int32.ofNat i) % (4 : Int32)))] [(.int (4 : Int32)), (.int (Int32.ofNat i)), (.ref b40)]))
      refine own_go (fun _ kk => XS.iload X289.here hx rfl (hb hby d1g2_165) rfl (XS.iadd X289.here hx rfl (hb hby d1g2_167) rfl kk)) ?_
      show own_Fin _ _ _ _ _ _ _ (T289.setTop (mkF m 168 #[.val (.ref t0), .val (.int (2 : Int32)), .val (.int (Int32.ofNat i)), .val (.int ((Int32.ofNat i) / (4 : Int32))), .val (.int ((Int32.ofNat i) % (4 : Int32)))] [(.int ((4 : Int32) + ((Int32.ofNat i) % (4 : Int32)))), (.int (Int32.ofNat i)), (.ref b40)]))
      refine own_stI X289 hx hZ e289 f281 (own_nn (by omega)) (by rw [own_Llen, own_tn (by omega)]; exact hi') (hb hby d1g2_168) ?_
      intro T290 h290 X290 e290 W290 A290
      have f291 := f271.wr W290
      have f292 := f272.other W290 (Or.inl ne_t0_b40)
      have f293 := f273.other W290 (Or.inl ne_t0_b40)
      have f294 := f274.other W290 (Or.inl ne_t0_b40)
      have f295 := f275.other W290 (Or.inl ne_t0_b40)
      have f296 := f276.other W290 (Or.inl ne_t0_b40)
      have f297 := f277.other W290 (Or.inl ne_t0_b40)
      have f298 := f278.other W290 (Or.inl ne_t0_b40)
      have f299 := f279.other W290 (Or.inl ne_t0_b40)
      have f300 := V287.other W290 ne_b15_b40
      have f302 := f282.other W290 (Ne.symm ne_b40_b69)
      have f303 := f283.other W290 (Ne.symm ne_b40_b138)
      have f304 := f284.other W290 (Ne.symm ne_b40_b177)
      have f305 := f285.other W290 (Ne.symm ne_b40_b220)
      have Z290 := Nat.le_trans Z270 (Keep.of_wr W290).1
      have K290 := K270.wr W290 (Or.inr sz_b40)
      have f306 := f286.other W290 gr_b40
      have N290 := Fr.snoc X290 N270 g_b40
      show own_Fin _ _ _ _ _ _ _ (T290.setTop (mkF m 169 #[.val (.ref t0), .val (.int (2 : Int32)), .val (.int (Int32.ofNat i)), .val (.int ((Int32.ofNat i) / (4 : Int32))), .val (.int ((Int32.ofNat i) % (4 : Int32)))] []))
      have V307 : own_Ar Z h290 b40 .int (List.map Value.int (own_L own_fC2 16 (i + 1))) := by rw [← own_Lset (f := own_fC2) hi' (by decide)]; exact A290
      refine own_go (fun _ kk => XS.aloadN X290.here hx rfl (hb hby d1g2_169) rfl rfl kk) ?_
      show own_Fin _ _ _ _ _ _ _ (T290.setTop (mkF m 170 #[.val (.ref t0), .val (.int (2 : Int32)), .val (.int (Int32.ofNat i)), .val (.int ((Int32.ofNat i) / (4 : Int32))), .val (.int ((Int32.ofNat i) % (4 : Int32)))] [(.ref t0)]))
      refine own_getF X290 hx hZ hown (host := "") (Or.inl (hw _ (List.mem_of_getElem? (i := 20) rfl))) Via.refl e290 f295 (hb hby d1g2_170) ?_
      intro T308 X308 e308
      show own_Fin _ _ _ _ _ _ _ (T308.setTop (mkF m 173 #[.val (.ref t0), .val (.int (2 : Int32)), .val (.int (Int32.ofNat i)), .val (.int ((Int32.ofNat i) / (4 : Int32))), .val (.int ((Int32.ofNat i) % (4 : Int32)))] [(.ref b69)]))
      refine own_go (fun _ kk => XS.iloadN X308.here hx rfl (hb hby d1g2_173) rfl (XS.iconst X308.here hx rfl (hb hby d1g2_174) (XS.aloadN X308.here hx rfl (hb hby d1g2_175) rfl rfl kk))) ?_
      show own_Fin _ _ _ _ _ _ _ (T308.setTop (mkF m 176 #[.val (.ref t0), .val (.int (2 : Int32)), .val (.int (Int32.ofNat i)), .val (.int ((Int32.ofNat i) / (4 : Int32))), .val (.int ((Int32.ofNat i) % (4 : Int32)))] [(.ref t0), (.int (2 : Int32)), (.int (Int32.ofNat i)), (.ref b69)]))
      refine own_getF X308 hx hZ hown (host := "") (Or.inl (hw _ (List.mem_of_getElem? (i := 13) rfl))) Via.refl e308 f292 (hb hby d1g2_176) ?_
      intro T309 X309 e309
      show own_Fin _ _ _ _ _ _ _ (T309.setTop (mkF m 179 #[.val (.ref t0), .val (.int (2 : Int32)), .val (.int (Int32.ofNat i)), .val (.int ((Int32.ofNat i) / (4 : Int32))), .val (.int ((Int32.ofNat i) % (4 : Int32)))] [(.int (4 : Int32)), (.int (2 : Int32)), (.int (Int32.ofNat i)), (.ref b69)]))
      refine own_go (fun _ kk => XS.imul X309.here hx rfl (hb hby d1g2_179) rfl (XS.iloadN X309.here hx rfl (hb hby d1g2_180) rfl (XS.iloadN X309.here hx rfl (hb hby d1g2_181) rfl (XS.idiv X309.here hx rfl (hb hby d1g2_182) rfl (by decide) (XS.iloadN X309.here hx rfl (hb hby d1g2_183) rfl (XS.imul X309.here hx rfl (hb hby d1g2_184) rfl (XS.iadd X309.here hx rfl (hb hby d1g2_185) rfl (XS.iload X309.here hx rfl (hb hby d1g2_186) rfl (XS.iloadN X309.here hx rfl (hb hby d1g2_188) rfl (XS.idiv X309.here hx rfl (hb hby d1g2_189) rfl (by decide) kk)))))))))) ?_
      show own_Fin _ _ _ _ _ _ _ (T309.setTop (mkF m 190 #[.val (.ref t0), .val (.int (2 : Int32)), .val (.int (Int32.ofNat i)), .val (.int ((Int32.ofNat i) / (4 : Int32))), .val (.int ((Int32.ofNat i) % (4 : Int32)))] [(.int (((Int32.ofNat i) % (4 : Int32)) / (2 : Int32))), (.int ((8 : Int32) + ((((Int32.ofNat i) / (4 : Int32)) / (2 : Int32)) * (2 : Int32)))), (.int (Int32.ofNat i)), (.ref b69)]))
      refine own_go (fun _ kk => XS.iadd X309.here hx rfl (hb hby d1g2_190) rfl kk) ?_
      show own_Fin _ _ _ _ _ _ _ (T309.setTop (mkF m 191 #[.val (.ref t0), .val (.int (2 : Int32)), .val (.int (Int32.ofNat i)), .val (.int ((Int32.ofNat i) / (4 : Int32))), .val (.int ((Int32.ofNat i) % (4 : Int32)))] [(.int (((8 : Int32) + ((((Int32.ofNat i) / (4 : Int32)) / (2 : Int32)) * (2 : Int32))) + (((Int32.ofNat i) % (4 : Int32)) / (2 : Int32)))), (.int (Int32.ofNat i)), (.ref b69)]))
      refine own_stI X309 hx hZ e309 f302 (own_nn (by omega)) (by rw [own_Llen, own_tn (by omega)]; exact hi') (hb hby d1g2_191) ?_
      intro T310 h310 X310 e310 W310 A310
      have f311 := f291.wr W310
      have f312 := f292.other W310 (Or.inl ne_t0_b69)
      have f313 := f293.other W310 (Or.inl ne_t0_b69)
      have f314 := f294.other W310 (Or.inl ne_t0_b69)
      have f315 := f295.other W310 (Or.inl ne_t0_b69)
      have f316 := f296.other W310 (Or.inl ne_t0_b69)
      have f317 := f297.other W310 (Or.inl ne_t0_b69)
      have f318 := f298.other W310 (Or.inl ne_t0_b69)
      have f319 := f299.other W310 (Or.inl ne_t0_b69)
      have f320 := f300.other W310 ne_b15_b69
      have f321 := V307.other W310 ne_b40_b69
      have f323 := f303.other W310 (Ne.symm ne_b69_b138)
      have f324 := f304.other W310 (Ne.symm ne_b69_b177)
      have f325 := f305.other W310 (Ne.symm ne_b69_b220)
      have Z310 := Nat.le_trans Z290 (Keep.of_wr W310).1
      have K310 := K290.wr W310 (Or.inr sz_b69)
      have f326 := f306.other W310 gr_b69
      have N310 := Fr.snoc X310 N290 g_b69
      show own_Fin _ _ _ _ _ _ _ (T310.setTop (mkF m 192 #[.val (.ref t0), .val (.int (2 : Int32)), .val (.int (Int32.ofNat i)), .val (.int ((Int32.ofNat i) / (4 : Int32))), .val (.int ((Int32.ofNat i) % (4 : Int32)))] []))
      have V327 : own_Ar Z h310 b69 .int (List.map Value.int (own_L own_fB2 16 (i + 1))) := by rw [← own_Lset (f := own_fB2) hi' (by decide)]; exact A310
      refine own_go (fun _ kk => XS.aloadN X310.here hx rfl (hb hby d1g2_192) rfl rfl kk) ?_
      show own_Fin _ _ _ _ _ _ _ (T310.setTop (mkF m 193 #[.val (.ref t0), .val (.int (2 : Int32)), .val (.int (Int32.ofNat i)), .val (.int ((Int32.ofNat i) / (4 : Int32))), .val (.int ((Int32.ofNat i) % (4 : Int32)))] [(.ref t0)]))
      refine own_getF X310 hx hZ hown (host := "") (Or.inl (hw _ (List.mem_of_getElem? (i := 26) rfl))) Via.refl e310 f317 (hb hby d1g2_193) ?_
      intro T328 X328 e328
      show own_Fin _ _ _ _ _ _ _ (T328.setTop (mkF m 196 #[.val (.ref t0), .val (.int (2 : Int32)), .val (.int (Int32.ofNat i)), .val (.int ((Int32.ofNat i) / (4 : Int32))), .val (.int ((Int32.ofNat i) % (4 : Int32)))] [(.ref b138)]))
      refine own_go (fun _ kk => XS.iloadN X328.here hx rfl (hb hby d1g2_196) rfl (XS.iload X328.here hx rfl (hb hby d1g2_197) rfl kk)) ?_
      show own_Fin _ _ _ _ _ _ _ (T328.setTop (mkF m 199 #[.val (.ref t0), .val (.int (2 : Int32)), .val (.int (Int32.ofNat i)), .val (.int ((Int32.ofNat i) / (4 : Int32))), .val (.int ((Int32.ofNat i) % (4 : Int32)))] [(.int ((Int32.ofNat i) % (4 : Int32))), (.int (Int32.ofNat i)), (.ref b138)]))
      refine own_stI X328 hx hZ e328 f323 (own_nn (by omega)) (by rw [own_Llen, own_tn (by omega)]; exact hi') (hb hby d1g2_199) ?_
      intro T329 h329 X329 e329 W329 A329
      have f330 := f311.wr W329
      have f331 := f312.other W329 (Or.inl ne_t0_b138)
      have f332 := f313.other W329 (Or.inl ne_t0_b138)
      have f333 := f314.other W329 (Or.inl ne_t0_b138)
      have f334 := f315.other W329 (Or.inl ne_t0_b138)
      have f335 := f316.other W329 (Or.inl ne_t0_b138)
      have f336 := f317.other W329 (Or.inl ne_t0_b138)
      have f337 := f318.other W329 (Or.inl ne_t0_b138)
      have f338 := f319.other W329 (Or.inl ne_t0_b138)
      have f339 := f320.other W329 ne_b15_b138
      have f340 := f321.other W329 ne_b40_b138
      have f341 := V327.other W329 ne_b69_b138
      have f343 := f324.other W329 (Ne.symm ne_b138_b177)
      have f344 := f325.other W329 (Ne.symm ne_b138_b220)
      have Z329 := Nat.le_trans Z310 (Keep.of_wr W329).1
      have K329 := K310.wr W329 (Or.inr sz_b138)
      have f345 := f326.other W329 gr_b138
      have N329 := Fr.snoc X329 N310 g_b138
      show own_Fin _ _ _ _ _ _ _ (T329.setTop (mkF m 200 #[.val (.ref t0), .val (.int (2 : Int32)), .val (.int (Int32.ofNat i)), .val (.int ((Int32.ofNat i) / (4 : Int32))), .val (.int ((Int32.ofNat i) % (4 : Int32)))] []))
      have V346 : own_Ar Z h329 b138 .int (List.map Value.int (own_L own_fIR2 16 (i + 1))) := by rw [← own_Lset (f := own_fIR2) hi' (by decide)]; exact A329
      refine own_go (fun _ kk => XS.aloadN X329.here hx rfl (hb hby d1g2_200) rfl rfl kk) ?_
      show own_Fin _ _ _ _ _ _ _ (T329.setTop (mkF m 201 #[.val (.ref t0), .val (.int (2 : Int32)), .val (.int (Int32.ofNat i)), .val (.int ((Int32.ofNat i) / (4 : Int32))), .val (.int ((Int32.ofNat i) % (4 : Int32)))] [(.ref t0)]))
      refine own_getF X329 hx hZ hown (host := "") (Or.inl (hw _ (List.mem_of_getElem? (i := 28) rfl))) Via.refl e329 f337 (hb hby d1g2_201) ?_
      intro T347 X347 e347
      show own_Fin _ _ _ _ _ _ _ (T347.setTop (mkF m 204 #[.val (.ref t0), .val (.int (2 : Int32)), .val (.int (Int32.ofNat i)), .val (.int ((Int32.ofNat i) / (4 : Int32))), .val (.int ((Int32.ofNat i) % (4 : Int32)))] [(.ref b177)]))
      refine own_go (fun _ kk => XS.iloadN X347.here hx rfl (hb hby d1g2_204) rfl (XS.iloadN X347.here hx rfl (hb hby d1g2_205) rfl kk)) ?_
      show own_Fin _ _ _ _ _ _ _ (T347.setTop (mkF m 206 #[.val (.ref t0), .val (.int (2 : Int32)), .val (.int (Int32.ofNat i)), .val (.int ((Int32.ofNat i) / (4 : Int32))), .val (.int ((Int32.ofNat i) % (4 : Int32)))] [(.int ((Int32.ofNat i) / (4 : Int32))), (.int (Int32.ofNat i)), (.ref b177)]))
      refine own_stI X347 hx hZ e347 f343 (own_nn (by omega)) (by rw [own_Llen, own_tn (by omega)]; exact hi') (hb hby d1g2_206) ?_
      intro T348 h348 X348 e348 W348 A348
      have f349 := f330.wr W348
      have f350 := f331.other W348 (Or.inl ne_t0_b177)
      have f351 := f332.other W348 (Or.inl ne_t0_b177)
      have f352 := f333.other W348 (Or.inl ne_t0_b177)
      have f353 := f334.other W348 (Or.inl ne_t0_b177)
      have f354 := f335.other W348 (Or.inl ne_t0_b177)
      have f355 := f336.other W348 (Or.inl ne_t0_b177)
      have f356 := f337.other W348 (Or.inl ne_t0_b177)
      have f357 := f338.other W348 (Or.inl ne_t0_b177)
      have f358 := f339.other W348 ne_b15_b177
      have f359 := f340.other W348 ne_b40_b177
      have f360 := f341.other W348 ne_b69_b177
      have f361 := V346.other W348 ne_b138_b177
      have f363 := f344.other W348 (Ne.symm ne_b177_b220)
      have Z348 := Nat.le_trans Z329 (Keep.of_wr W348).1
      have K348 := K329.wr W348 (Or.inr sz_b177)
      have f364 := f345.other W348 gr_b177
      have N348 := Fr.snoc X348 N329 g_b177
      show own_Fin _ _ _ _ _ _ _ (T348.setTop (mkF m 207 #[.val (.ref t0), .val (.int (2 : Int32)), .val (.int (Int32.ofNat i)), .val (.int ((Int32.ofNat i) / (4 : Int32))), .val (.int ((Int32.ofNat i) % (4 : Int32)))] []))
      have V365 : own_Ar Z h348 b177 .int (List.map Value.int (own_L own_fIC2 16 (i + 1))) := by rw [← own_Lset (f := own_fIC2) hi' (by decide)]; exact A348
      refine own_go (fun _ kk => XS.aloadN X348.here hx rfl (hb hby d1g2_207) rfl rfl kk) ?_
      show own_Fin _ _ _ _ _ _ _ (T348.setTop (mkF m 208 #[.val (.ref t0), .val (.int (2 : Int32)), .val (.int (Int32.ofNat i)), .val (.int ((Int32.ofNat i) / (4 : Int32))), .val (.int ((Int32.ofNat i) % (4 : Int32)))] [(.ref t0)]))
      refine own_getF X348 hx hZ hown (host := "") (Or.inl (hw _ (List.mem_of_getElem? (i := 30) rfl))) Via.refl e348 f357 (hb hby d1g2_208) ?_
      intro T366 X366 e366
      show own_Fin _ _ _ _ _ _ _ (T366.setTop (mkF m 211 #[.val (.ref t0), .val (.int (2 : Int32)), .val (.int (Int32.ofNat i)), .val (.int ((Int32.ofNat i) / (4 : Int32))), .val (.int ((Int32.ofNat i) % (4 : Int32)))] [(.ref b220)]))
      refine own_go (fun _ kk => XS.iloadN X366.here hx rfl (hb hby d1g2_211) rfl (XS.iloadN X366.here hx rfl (hb hby d1g2_212) rfl (XS.iloadN X366.here hx rfl (hb hby d1g2_213) rfl (iremM X366 hx rfl (hb hby d1g2_214) rfl (by decide) (XS.iloadN X366.here hx rfl (hb hby d1g2_215) rfl (XS.imul X366.here hx rfl (hb hby d1g2_216) rfl (XS.iload X366.here hx rfl (hb hby d1g2_217) rfl (XS.iloadN X366.here hx rfl (hb hby d1g2_219) rfl (iremM X366 hx rfl (hb hby d1g2_220) rfl (by decide) (XS.iadd X366.here hx rfl (hb hby d1g2_221) rfl kk)))))))))) ?_
      show own_Fin _ _ _ _ _ _ _ (T366.setTop (mkF m 222 #[.val (.ref t0), .val (.int (2 : Int32)), .val (.int (Int32.ofNat i)), .val (.int ((Int32.ofNat i) / (4 : Int32))), .val (.int ((Int32.ofNat i) % (4 : Int32)))] [(.int (((((Int32.ofNat i) / (4 : Int32)) % (2 : Int32)) * (2 : Int32)) + (((Int32.ofNat i) % (4 : Int32)) % (2 : Int32)))), (.int (Int32.ofNat i)), (.ref b220)]))
      refine own_stI X366 hx hZ e366 f363 (own_nn (by omega)) (by rw [own_Llen, own_tn (by omega)]; exact hi') (hb hby d1g2_222) ?_
      intro T367 h367 X367 e367 W367 A367
      have f368 := f349.wr W367
      have f369 := f350.other W367 (Or.inl ne_t0_b220)
      have f370 := f351.other W367 (Or.inl ne_t0_b220)
      have f371 := f352.other W367 (Or.inl ne_t0_b220)
      have f372 := f353.other W367 (Or.inl ne_t0_b220)
      have f373 := f354.other W367 (Or.inl ne_t0_b220)
      have f374 := f355.other W367 (Or.inl ne_t0_b220)
      have f375 := f356.other W367 (Or.inl ne_t0_b220)
      have f376 := f357.other W367 (Or.inl ne_t0_b220)
      have f377 := f358.other W367 ne_b15_b220
      have f378 := f359.other W367 ne_b40_b220
      have f379 := f360.other W367 ne_b69_b220
      have f380 := f361.other W367 ne_b138_b220
      have f381 := V365.other W367 ne_b177_b220
      have Z367 := Nat.le_trans Z348 (Keep.of_wr W367).1
      have K367 := K348.wr W367 (Or.inr sz_b220)
      have f383 := f364.other W367 gr_b220
      have N367 := Fr.snoc X367 N348 g_b220
      show own_Fin _ _ _ _ _ _ _ (T367.setTop (mkF m 223 #[.val (.ref t0), .val (.int (2 : Int32)), .val (.int (Int32.ofNat i)), .val (.int ((Int32.ofNat i) / (4 : Int32))), .val (.int ((Int32.ofNat i) % (4 : Int32)))] []))
      have V384 : own_Ar Z h367 b220 .int (List.map Value.int (own_L own_fIB2 16 (i + 1))) := by rw [← own_Lset (f := own_fIB2) hi' (by decide)]; exact A367
      refine own_go (fun _ kk => XS.aloadN X367.here hx rfl (hb hby d1g2_223) rfl rfl kk) ?_
      show own_Fin _ _ _ _ _ _ _ (T367.setTop (mkF m 224 #[.val (.ref t0), .val (.int (2 : Int32)), .val (.int (Int32.ofNat i)), .val (.int ((Int32.ofNat i) / (4 : Int32))), .val (.int ((Int32.ofNat i) % (4 : Int32)))] [(.ref t0)]))
      refine own_getF X367 hx hZ hown (host := "") (Or.inl (hw _ (List.mem_of_getElem? (i := 24) rfl))) Via.refl e367 f373 (hb hby d1g2_224) ?_
      intro T385 X385 e385
      show own_Fin _ _ _ _ _ _ _ (T385.setTop (mkF m 227 #[.val (.ref t0), .val (.int (2 : Int32)), .val (.int (Int32.ofNat i)), .val (.int ((Int32.ofNat i) / (4 : Int32))), .val (.int ((Int32.ofNat i) % (4 : Int32)))] [(.ref b102)]))
      refine own_go (fun _ kk => XS.aloadN X385.here hx rfl (hb hby d1g2_227) rfl rfl kk) ?_
      show own_Fin _ _ _ _ _ _ _ (T385.setTop (mkF m 228 #[.val (.ref t0), .val (.int (2 : Int32)), .val (.int (Int32.ofNat i)), .val (.int ((Int32.ofNat i) / (4 : Int32))), .val (.int ((Int32.ofNat i) % (4 : Int32)))] [(.ref t0), (.ref b102)]))
      refine own_getF X385 hx hZ hown (host := "") (Or.inl (hw _ (List.mem_of_getElem? (i := 16) rfl))) Via.refl e385 f370 (hb hby d1g2_228) ?_
      intro T386 X386 e386
      show own_Fin _ _ _ _ _ _ _ (T386.setTop (mkF m 231 #[.val (.ref t0), .val (.int (2 : Int32)), .val (.int (Int32.ofNat i)), .val (.int ((Int32.ofNat i) / (4 : Int32))), .val (.int ((Int32.ofNat i) % (4 : Int32)))] [(.ref b15), (.ref b102)]))
      refine own_go (fun _ kk => XS.iloadN X386.here hx rfl (hb hby d1g2_231) rfl kk) ?_
      show own_Fin _ _ _ _ _ _ _ (T386.setTop (mkF m 232 #[.val (.ref t0), .val (.int (2 : Int32)), .val (.int (Int32.ofNat i)), .val (.int ((Int32.ofNat i) / (4 : Int32))), .val (.int ((Int32.ofNat i) % (4 : Int32)))] [(.int (Int32.ofNat i)), (.ref b15), (.ref b102)]))
      refine own_ldI X386 hx hZ e386 f377 (own_nn (by omega)) (by rw [own_Llen, own_tn (by omega)]; exact hi') (hb hby d1g2_232) ?_
      show own_Fin _ _ _ _ _ _ _ (T386.setTop (mkF m 233 #[.val (.ref t0), .val (.int (2 : Int32)), .val (.int (Int32.ofNat i)), .val (.int ((Int32.ofNat i) / (4 : Int32))), .val (.int ((Int32.ofNat i) % (4 : Int32)))] [(.int (List.getD (own_L own_fR2 16 (i + 1)) ((Int32.ofNat i)).toNatClampNeg 0)), (.ref b102)]))
      rw [own_Lget (f := own_fR2) hi' (by decide)]
      show own_Fin _ _ _ _ _ _ _ (T386.setTop (mkF m 233 #[.val (.ref t0), .val (.int (2 : Int32)), .val (.int (Int32.ofNat i)), .val (.int ((Int32.ofNat i) / (4 : Int32))), .val (.int ((Int32.ofNat i) % (4 : Int32)))] [(.int (own_fR2 i)), (.ref b102)]))
      refine own_gload X386 hx hZ e386 f383 (own_bd2 _ hi').1.1 (own_bd2 _ hi').1.2 (hb hby d1g2_233) ?_
      show own_Fin _ _ _ _ _ _ _ (T386.setTop (mkF m 234 #[.val (.ref t0), .val (.int (2 : Int32)), .val (.int (Int32.ofNat i)), .val (.int ((Int32.ofNat i) / (4 : Int32))), .val (.int ((Int32.ofNat i) % (4 : Int32)))] [(.ref (b102 + 1 + (own_fR2 i).toNatClampNeg))]))
      refine own_go (fun _ kk => XS.aloadN X386.here hx rfl (hb hby d1g2_234) rfl rfl kk) ?_
      show own_Fin _ _ _ _ _ _ _ (T386.setTop (mkF m 235 #[.val (.ref t0), .val (.int (2 : Int32)), .val (.int (Int32.ofNat i)), .val (.int ((Int32.ofNat i) / (4 : Int32))), .val (.int ((Int32.ofNat i) % (4 : Int32)))] [(.ref t0), (.ref (b102 + 1 + (own_fR2 i).toNatClampNeg))]))
      refine own_getF X386 hx hZ hown (host := "") (Or.inl (hw _ (List.mem_of_getElem? (i := 26) rfl))) Via.refl e386 f374 (hb hby d1g2_235) ?_
      intro T387 X387 e387
      show own_Fin _ _ _ _ _ _ _ (T387.setTop (mkF m 238 #[.val (.ref t0), .val (.int (2 : Int32)), .val (.int (Int32.ofNat i)), .val (.int ((Int32.ofNat i) / (4 : Int32))), .val (.int ((Int32.ofNat i) % (4 : Int32)))] [(.ref b138), (.ref (b102 + 1 + (own_fR2 i).toNatClampNeg))]))
      refine own_go (fun _ kk => XS.iloadN X387.here hx rfl (hb hby d1g2_238) rfl kk) ?_
      show own_Fin _ _ _ _ _ _ _ (T387.setTop (mkF m 239 #[.val (.ref t0), .val (.int (2 : Int32)), .val (.int (Int32.ofNat i)), .val (.int ((Int32.ofNat i) / (4 : Int32))), .val (.int ((Int32.ofNat i) % (4 : Int32)))] [(.int (Int32.ofNat i)), (.ref b138), (.ref (b102 + 1 + (own_fR2 i).toNatClampNeg))]))
      refine own_ldI X387 hx hZ e387 f380 (own_nn (by omega)) (by rw [own_Llen, own_tn (by omega)]; exact hi') (hb hby d1g2_239) ?_
      show own_Fin _ _ _ _ _ _ _ (T387.setTop (mkF m 240 #[.val (.ref t0), .val (.int (2 : Int32)), .val (.int (Int32.ofNat i)), .val (.int ((Int32.ofNat i) / (4 : Int32))), .val (.int ((Int32.ofNat i) % (4 : Int32)))] [(.int (List.getD (own_L own_fIR2 16 (i + 1)) ((Int32.ofNat i)).toNatClampNeg 0)), (.ref (b102 + 1 + (own_fR2 i).toNatClampNeg))]))
      rw [own_Lget (f := own_fIR2) hi' (by decide)]
      show own_Fin _ _ _ _ _ _ _ (T387.setTop (mkF m 240 #[.val (.ref t0), .val (.int (2 : Int32)), .val (.int (Int32.ofNat i)), .val (.int ((Int32.ofNat i) / (4 : Int32))), .val (.int ((Int32.ofNat i) % (4 : Int32)))] [(.int (own_fIR2 i)), (.ref (b102 + 1 + (own_fR2 i).toNatClampNeg))]))
      refine own_go (fun _ kk => XS.iloadN X387.here hx rfl (hb hby d1g2_240) rfl kk) ?_
      show own_Fin _ _ _ _ _ _ _ (T387.setTop (mkF m 241 #[.val (.ref t0), .val (.int (2 : Int32)), .val (.int (Int32.ofNat i)), .val (.int ((Int32.ofNat i) / (4 : Int32))), .val (.int ((Int32.ofNat i) % (4 : Int32)))] [(.int (Int32.ofNat i)), (.int (own_fIR2 i)), (.ref (b102 + 1 + (own_fR2 i).toNatClampNeg))]))
      refine own_gstore X387 hx hZ e387 f383 (own_bd2 _ hi').1.2 (own_bd2 _ hi').2.2.2.1.1 (own_bd2 _ hi').2.2.2.1.2 (hb hby d1g2_241) ?_
      intro T388 h388 X388 e388 W388 G388
      have gg388 : n0 ≤ (b102 + 1 + (own_fR2 i).toNatClampNeg) := Nat.le_trans g_b102 (Nat.le_trans (Nat.le_succ _) (Nat.le_add_right _ _))
      have zz388 : h0.size ≤ (b102 + 1 + (own_fR2 i).toNatClampNeg) := Nat.le_trans sz_b102 (Nat.le_trans (Nat.le_succ _) (Nat.le_add_right _ _))
      have f389 := f368.wr W388
      have f390 := f369.other W388 (Or.inl (own_gne gr_t0 (own_bd2 _ hi').1.2))
      have f391 := f370.other W388 (Or.inl (own_gne gr_t0 (own_bd2 _ hi').1.2))
      have f392 := f371.other W388 (Or.inl (own_gne gr_t0 (own_bd2 _ hi').1.2))
      have f393 := f372.other W388 (Or.inl (own_gne gr_t0 (own_bd2 _ hi').1.2))
      have f394 := f373.other W388 (Or.inl (own_gne gr_t0 (own_bd2 _ hi').1.2))
      have f395 := f374.other W388 (Or.inl (own_gne gr_t0 (own_bd2 _ hi').1.2))
      have f396 := f375.other W388 (Or.inl (own_gne gr_t0 (own_bd2 _ hi').1.2))
      have f397 := f376.other W388 (Or.inl (own_gne gr_t0 (own_bd2 _ hi').1.2))
      have f398 := f377.other W388 (own_gne gr_b15 (own_bd2 _ hi').1.2)
      have f399 := f378.other W388 (own_gne gr_b40 (own_bd2 _ hi').1.2)
      have f400 := f379.other W388 (own_gne gr_b69 (own_bd2 _ hi').1.2)
      have f401 := f380.other W388 (own_gne gr_b138 (own_bd2 _ hi').1.2)
      have f402 := f381.other W388 (own_gne gr_b177 (own_bd2 _ hi').1.2)
      have f403 := V384.other W388 (own_gne gr_b220 (own_bd2 _ hi').1.2)
      have Z388 := Nat.le_trans Z367 (Keep.of_wr W388).1
      have K388 := K367.wr W388 (Or.inr zz388)
      have N388 := Fr.snoc X388 N367 gg388
      show own_Fin _ _ _ _ _ _ _ (T388.setTop (mkF m 242 #[.val (.ref t0), .val (.int (2 : Int32)), .val (.int (Int32.ofNat i)), .val (.int ((Int32.ofNat i) / (4 : Int32))), .val (.int ((Int32.ofNat i) % (4 : Int32)))] []))
      refine own_go (fun _ kk => XS.aloadN X388.here hx rfl (hb hby d1g2_242) rfl rfl kk) ?_
      show own_Fin _ _ _ _ _ _ _ (T388.setTop (mkF m 243 #[.val (.ref t0), .val (.int (2 : Int32)), .val (.int (Int32.ofNat i)), .val (.int ((Int32.ofNat i) / (4 : Int32))), .val (.int ((Int32.ofNat i) % (4 : Int32)))] [(.ref t0)]))
      refine own_getF X388 hx hZ hown (host := "") (Or.inl (hw _ (List.mem_of_getElem? (i := 24) rfl))) Via.refl e388 f394 (hb hby d1g2_243) ?_
      intro T404 X404 e404
      show own_Fin _ _ _ _ _ _ _ (T404.setTop (mkF m 246 #[.val (.ref t0), .val (.int (2 : Int32)), .val (.int (Int32.ofNat i)), .val (.int ((Int32.ofNat i) / (4 : Int32))), .val (.int ((Int32.ofNat i) % (4 : Int32)))] [(.ref b102)]))
      refine own_go (fun _ kk => XS.aloadN X404.here hx rfl (hb hby d1g2_246) rfl rfl kk) ?_
      show own_Fin _ _ _ _ _ _ _ (T404.setTop (mkF m 247 #[.val (.ref t0), .val (.int (2 : Int32)), .val (.int (Int32.ofNat i)), .val (.int ((Int32.ofNat i) / (4 : Int32))), .val (.int ((Int32.ofNat i) % (4 : Int32)))] [(.ref t0), (.ref b102)]))
      refine own_getF X404 hx hZ hown (host := "") (Or.inl (hw _ (List.mem_of_getElem? (i := 18) rfl))) Via.refl e404 f392 (hb hby d1g2_247) ?_
      intro T405 X405 e405
      show own_Fin _ _ _ _ _ _ _ (T405.setTop (mkF m 250 #[.val (.ref t0), .val (.int (2 : Int32)), .val (.int (Int32.ofNat i)), .val (.int ((Int32.ofNat i) / (4 : Int32))), .val (.int ((Int32.ofNat i) % (4 : Int32)))] [(.ref b40), (.ref b102)]))
      refine own_go (fun _ kk => XS.iloadN X405.here hx rfl (hb hby d1g2_250) rfl kk) ?_
      show own_Fin _ _ _ _ _ _ _ (T405.setTop (mkF m 251 #[.val (.ref t0), .val (.int (2 : Int32)), .val (.int (Int32.ofNat i)), .val (.int ((Int32.ofNat i) / (4 : Int32))), .val (.int ((Int32.ofNat i) % (4 : Int32)))] [(.int (Int32.ofNat i)), (.ref b40), (.ref b102)]))
      refine own_ldI X405 hx hZ e405 f399 (own_nn (by omega)) (by rw [own_Llen, own_tn (by omega)]; exact hi') (hb hby d1g2_251) ?_
      show own_Fin _ _ _ _ _ _ _ (T405.setTop (mkF m 252 #[.val (.ref t0), .val (.int (2 : Int32)), .val (.int (Int32.ofNat i)), .val (.int ((Int32.ofNat i) / (4 : Int32))), .val (.int ((Int32.ofNat i) % (4 : Int32)))] [(.int (List.getD (own_L own_fC2 16 (i + 1)) ((Int32.ofNat i)).toNatClampNeg 0)), (.ref b102)]))
      rw [own_Lget (f := own_fC2) hi' (by decide)]
      show own_Fin _ _ _ _ _ _ _ (T405.setTop (mkF m 252 #[.val (.ref t0), .val (.int (2 : Int32)), .val (.int (Int32.ofNat i)), .val (.int ((Int32.ofNat i) / (4 : Int32))), .val (.int ((Int32.ofNat i) % (4 : Int32)))] [(.int (own_fC2 i)), (.ref b102)]))
      refine own_gload X405 hx hZ e405 G388 (own_bd2 _ hi').2.1.1 (own_bd2 _ hi').2.1.2 (hb hby d1g2_252) ?_
      show own_Fin _ _ _ _ _ _ _ (T405.setTop (mkF m 253 #[.val (.ref t0), .val (.int (2 : Int32)), .val (.int (Int32.ofNat i)), .val (.int ((Int32.ofNat i) / (4 : Int32))), .val (.int ((Int32.ofNat i) % (4 : Int32)))] [(.ref (b102 + 1 + (own_fC2 i).toNatClampNeg))]))
      refine own_go (fun _ kk => XS.aloadN X405.here hx rfl (hb hby d1g2_253) rfl rfl kk) ?_
      show own_Fin _ _ _ _ _ _ _ (T405.setTop (mkF m 254 #[.val (.ref t0), .val (.int (2 : Int32)), .val (.int (Int32.ofNat i)), .val (.int ((Int32.ofNat i) / (4 : Int32))), .val (.int ((Int32.ofNat i) % (4 : Int32)))] [(.ref t0), (.ref (b102 + 1 + (own_fC2 i).toNatClampNeg))]))
      refine own_getF X405 hx hZ hown (host := "") (Or.inl (hw _ (List.mem_of_getElem? (i := 28) rfl))) Via.refl e405 f396 (hb hby d1g2_254) ?_
      intro T406 X406 e406
      show own_Fin _ _ _ _ _ _ _ (T406.setTop (mkF m 257 #[.val (.ref t0), .val (.int (2 : Int32)), .val (.int (Int32.ofNat i)), .val (.int ((Int32.ofNat i) / (4 : Int32))), .val (.int ((Int32.ofNat i) % (4 : Int32)))] [(.ref b177), (.ref (b102 + 1 + (own_fC2 i).toNatClampNeg))]))
      refine own_go (fun _ kk => XS.iloadN X406.here hx rfl (hb hby d1g2_257) rfl kk) ?_
      show own_Fin _ _ _ _ _ _ _ (T406.setTop (mkF m 258 #[.val (.ref t0), .val (.int (2 : Int32)), .val (.int (Int32.ofNat i)), .val (.int ((Int32.ofNat i) / (4 : Int32))), .val (.int ((Int32.ofNat i) % (4 : Int32)))] [(.int (Int32.ofNat i)), (.ref b177), (.ref (b102 + 1 + (own_fC2 i).toNatClampNeg))]))
      refine own_ldI X406 hx hZ e406 f402 (own_nn (by omega)) (by rw [own_Llen, own_tn (by omega)]; exact hi') (hb hby d1g2_258) ?_
      show own_Fin _ _ _ _ _ _ _ (T406.setTop (mkF m 259 #[.val (.ref t0), .val (.int (2 : Int32)), .val (.int (Int32.ofNat i)), .val (.int ((Int32.ofNat i) / (4 : Int32))), .val (.int ((Int32.ofNat i) % (4 : Int32)))] [(.int (List.getD (own_L own_fIC2 16 (i + 1)) ((Int32.ofNat i)).toNatClampNeg 0)), (.ref (b102 + 1 + (own_fC2 i).toNatClampNeg))]))
      rw [own_Lget (f := own_fIC2) hi' (by decide)]
      show own_Fin _ _ _ _ _ _ _ (T406.setTop (mkF m 259 #[.val (.ref t0), .val (.int (2 : Int32)), .val (.int (Int32.ofNat i)), .val (.int ((Int32.ofNat i) / (4 : Int32))), .val (.int ((Int32.ofNat i) % (4 : Int32)))] [(.int (own_fIC2 i)), (.ref (b102 + 1 + (own_fC2 i).toNatClampNeg))]))
      refine own_go (fun _ kk => XS.iloadN X406.here hx rfl (hb hby d1g2_259) rfl kk) ?_
      show own_Fin _ _ _ _ _ _ _ (T406.setTop (mkF m 260 #[.val (.ref t0), .val (.int (2 : Int32)), .val (.int (Int32.ofNat i)), .val (.int ((Int32.ofNat i) / (4 : Int32))), .val (.int ((Int32.ofNat i) % (4 : Int32)))] [(.int (Int32.ofNat i)), (.int (own_fIC2 i)), (.ref (b102 + 1 + (own_fC2 i).toNatClampNeg))]))
      refine own_gstore X406 hx hZ e406 G388 (own_bd2 _ hi').2.1.2 (own_bd2 _ hi').2.2.2.2.1.1 (own_bd2 _ hi').2.2.2.2.1.2 (hb hby d1g2_260) ?_
      intro T407 h407 X407 e407 W407 G407
      have gg407 : n0 ≤ (b102 + 1 + (own_fC2 i).toNatClampNeg) := Nat.le_trans g_b102 (Nat.le_trans (Nat.le_succ _) (Nat.le_add_right _ _))
      have zz407 : h0.size ≤ (b102 + 1 + (own_fC2 i).toNatClampNeg) := Nat.le_trans sz_b102 (Nat.le_trans (Nat.le_succ _) (Nat.le_add_right _ _))
      have f408 := f389.wr W407
      have f409 := f390.other W407 (Or.inl (own_gne gr_t0 (own_bd2 _ hi').2.1.2))
      have f410 := f391.other W407 (Or.inl (own_gne gr_t0 (own_bd2 _ hi').2.1.2))
      have f411 := f392.other W407 (Or.inl (own_gne gr_t0 (own_bd2 _ hi').2.1.2))
      have f412 := f393.other W407 (Or.inl (own_gne gr_t0 (own_bd2 _ hi').2.1.2))
      have f413 := f394.other W407 (Or.inl (own_gne gr_t0 (own_bd2 _ hi').2.1.2))
      have f414 := f395.other W407 (Or.inl (own_gne gr_t0 (own_bd2 _ hi').2.1.2))
      have f415 := f396.other W407 (Or.inl (own_gne gr_t0 (own_bd2 _ hi').2.1.2))
      have f416 := f397.other W407 (Or.inl (own_gne gr_t0 (own_bd2 _ hi').2.1.2))
      have f417 := f398.other W407 (own_gne gr_b15 (own_bd2 _ hi').2.1.2)
      have f418 := f399.other W407 (own_gne gr_b40 (own_bd2 _ hi').2.1.2)
      have f419 := f400.other W407 (own_gne gr_b69 (own_bd2 _ hi').2.1.2)
      have f420 := f401.other W407 (own_gne gr_b138 (own_bd2 _ hi').2.1.2)
      have f421 := f402.other W407 (own_gne gr_b177 (own_bd2 _ hi').2.1.2)
      have f422 := f403.other W407 (own_gne gr_b220 (own_bd2 _ hi').2.1.2)
      have Z407 := Nat.le_trans Z388 (Keep.of_wr W407).1
      have K407 := K388.wr W407 (Or.inr zz407)
      have N407 := Fr.snoc X407 N388 gg407
      show own_Fin _ _ _ _ _ _ _ (T407.setTop (mkF m 261 #[.val (.ref t0), .val (.int (2 : Int32)), .val (.int (Int32.ofNat i)), .val (.int ((Int32.ofNat i) / (4 : Int32))), .val (.int ((Int32.ofNat i) % (4 : Int32)))] []))
      refine own_go (fun _ kk => XS.aloadN X407.here hx rfl (hb hby d1g2_261) rfl rfl kk) ?_
      show own_Fin _ _ _ _ _ _ _ (T407.setTop (mkF m 262 #[.val (.ref t0), .val (.int (2 : Int32)), .val (.int (Int32.ofNat i)), .val (.int ((Int32.ofNat i) / (4 : Int32))), .val (.int ((Int32.ofNat i) % (4 : Int32)))] [(.ref t0)]))
      refine own_getF X407 hx hZ hown (host := "") (Or.inl (hw _ (List.mem_of_getElem? (i := 24) rfl))) Via.refl e407 f413 (hb hby d1g2_262) ?_
      intro T423 X423 e423
      show own_Fin _ _ _ _ _ _ _ (T423.setTop (mkF m 265 #[.val (.ref t0), .val (.int (2 : Int32)), .val (.int (Int32.ofNat i)), .val (.int ((Int32.ofNat i) / (4 : Int32))), .val (.int ((Int32.ofNat i) % (4 : Int32)))] [(.ref b102)]))
      refine own_go (fun _ kk => XS.aloadN X423.here hx rfl (hb hby d1g2_265) rfl rfl kk) ?_
      show own_Fin _ _ _ _ _ _ _ (T423.setTop (mkF m 266 #[.val (.ref t0), .val (.int (2 : Int32)), .val (.int (Int32.ofNat i)), .val (.int ((Int32.ofNat i) / (4 : Int32))), .val (.int ((Int32.ofNat i) % (4 : Int32)))] [(.ref t0), (.ref b102)]))
      refine own_getF X423 hx hZ hown (host := "") (Or.inl (hw _ (List.mem_of_getElem? (i := 20) rfl))) Via.refl e423 f412 (hb hby d1g2_266) ?_
      intro T424 X424 e424
      show own_Fin _ _ _ _ _ _ _ (T424.setTop (mkF m 269 #[.val (.ref t0), .val (.int (2 : Int32)), .val (.int (Int32.ofNat i)), .val (.int ((Int32.ofNat i) / (4 : Int32))), .val (.int ((Int32.ofNat i) % (4 : Int32)))] [(.ref b69), (.ref b102)]))
      refine own_go (fun _ kk => XS.iloadN X424.here hx rfl (hb hby d1g2_269) rfl kk) ?_
      show own_Fin _ _ _ _ _ _ _ (T424.setTop (mkF m 270 #[.val (.ref t0), .val (.int (2 : Int32)), .val (.int (Int32.ofNat i)), .val (.int ((Int32.ofNat i) / (4 : Int32))), .val (.int ((Int32.ofNat i) % (4 : Int32)))] [(.int (Int32.ofNat i)), (.ref b69), (.ref b102)]))
      refine own_ldI X424 hx hZ e424 f419 (own_nn (by omega)) (by rw [own_Llen, own_tn (by omega)]; exact hi') (hb hby d1g2_270) ?_
      show own_Fin _ _ _ _ _ _ _ (T424.setTop (mkF m 271 #[.val (.ref t0), .val (.int (2 : Int32)), .val (.int (Int32.ofNat i)), .val (.int ((Int32.ofNat i) / (4 : Int32))), .val (.int ((Int32.ofNat i) % (4 : Int32)))] [(.int (List.getD (own_L own_fB2 16 (i + 1)) ((Int32.ofNat i)).toNatClampNeg 0)), (.ref b102)]))
      rw [own_Lget (f := own_fB2) hi' (by decide)]
      show own_Fin _ _ _ _ _ _ _ (T424.setTop (mkF m 271 #[.val (.ref t0), .val (.int (2 : Int32)), .val (.int (Int32.ofNat i)), .val (.int ((Int32.ofNat i) / (4 : Int32))), .val (.int ((Int32.ofNat i) % (4 : Int32)))] [(.int (own_fB2 i)), (.ref b102)]))
      refine own_gload X424 hx hZ e424 G407 (own_bd2 _ hi').2.2.1.1 (own_bd2 _ hi').2.2.1.2 (hb hby d1g2_271) ?_
      show own_Fin _ _ _ _ _ _ _ (T424.setTop (mkF m 272 #[.val (.ref t0), .val (.int (2 : Int32)), .val (.int (Int32.ofNat i)), .val (.int ((Int32.ofNat i) / (4 : Int32))), .val (.int ((Int32.ofNat i) % (4 : Int32)))] [(.ref (b102 + 1 + (own_fB2 i).toNatClampNeg))]))
      refine own_go (fun _ kk => XS.aloadN X424.here hx rfl (hb hby d1g2_272) rfl rfl kk) ?_
      show own_Fin _ _ _ _ _ _ _ (T424.setTop (mkF m 273 #[.val (.ref t0), .val (.int (2 : Int32)), .val (.int (Int32.ofNat i)), .val (.int ((Int32.ofNat i) / (4 : Int32))), .val (.int ((Int32.ofNat i) % (4 : Int32)))] [(.ref t0), (.ref (b102 + 1 + (own_fB2 i).toNatClampNeg))]))
      refine own_getF X424 hx hZ hown (host := "") (Or.inl (hw _ (List.mem_of_getElem? (i := 30) rfl))) Via.refl e424 f416 (hb hby d1g2_273) ?_
      intro T425 X425 e425
      show own_Fin _ _ _ _ _ _ _ (T425.setTop (mkF m 276 #[.val (.ref t0), .val (.int (2 : Int32)), .val (.int (Int32.ofNat i)), .val (.int ((Int32.ofNat i) / (4 : Int32))), .val (.int ((Int32.ofNat i) % (4 : Int32)))] [(.ref b220), (.ref (b102 + 1 + (own_fB2 i).toNatClampNeg))]))
      refine own_go (fun _ kk => XS.iloadN X425.here hx rfl (hb hby d1g2_276) rfl kk) ?_
      show own_Fin _ _ _ _ _ _ _ (T425.setTop (mkF m 277 #[.val (.ref t0), .val (.int (2 : Int32)), .val (.int (Int32.ofNat i)), .val (.int ((Int32.ofNat i) / (4 : Int32))), .val (.int ((Int32.ofNat i) % (4 : Int32)))] [(.int (Int32.ofNat i)), (.ref b220), (.ref (b102 + 1 + (own_fB2 i).toNatClampNeg))]))
      refine own_ldI X425 hx hZ e425 f422 (own_nn (by omega)) (by rw [own_Llen, own_tn (by omega)]; exact hi') (hb hby d1g2_277) ?_
      show own_Fin _ _ _ _ _ _ _ (T425.setTop (mkF m 278 #[.val (.ref t0), .val (.int (2 : Int32)), .val (.int (Int32.ofNat i)), .val (.int ((Int32.ofNat i) / (4 : Int32))), .val (.int ((Int32.ofNat i) % (4 : Int32)))] [(.int (List.getD (own_L own_fIB2 16 (i + 1)) ((Int32.ofNat i)).toNatClampNeg 0)), (.ref (b102 + 1 + (own_fB2 i).toNatClampNeg))]))
      rw [own_Lget (f := own_fIB2) hi' (by decide)]
      show own_Fin _ _ _ _ _ _ _ (T425.setTop (mkF m 278 #[.val (.ref t0), .val (.int (2 : Int32)), .val (.int (Int32.ofNat i)), .val (.int ((Int32.ofNat i) / (4 : Int32))), .val (.int ((Int32.ofNat i) % (4 : Int32)))] [(.int (own_fIB2 i)), (.ref (b102 + 1 + (own_fB2 i).toNatClampNeg))]))
      refine own_go (fun _ kk => XS.iloadN X425.here hx rfl (hb hby d1g2_278) rfl kk) ?_
      show own_Fin _ _ _ _ _ _ _ (T425.setTop (mkF m 279 #[.val (.ref t0), .val (.int (2 : Int32)), .val (.int (Int32.ofNat i)), .val (.int ((Int32.ofNat i) / (4 : Int32))), .val (.int ((Int32.ofNat i) % (4 : Int32)))] [(.int (Int32.ofNat i)), (.int (own_fIB2 i)), (.ref (b102 + 1 + (own_fB2 i).toNatClampNeg))]))
      refine own_gstore X425 hx hZ e425 G407 (own_bd2 _ hi').2.2.1.2 (own_bd2 _ hi').2.2.2.2.2.1 (own_bd2 _ hi').2.2.2.2.2.2 (hb hby d1g2_279) ?_
      intro T426 h426 X426 e426 W426 G426
      have gg426 : n0 ≤ (b102 + 1 + (own_fB2 i).toNatClampNeg) := Nat.le_trans g_b102 (Nat.le_trans (Nat.le_succ _) (Nat.le_add_right _ _))
      have zz426 : h0.size ≤ (b102 + 1 + (own_fB2 i).toNatClampNeg) := Nat.le_trans sz_b102 (Nat.le_trans (Nat.le_succ _) (Nat.le_add_right _ _))
      have f427 := f408.wr W426
      have f428 := f409.other W426 (Or.inl (own_gne gr_t0 (own_bd2 _ hi').2.2.1.2))
      have f429 := f410.other W426 (Or.inl (own_gne gr_t0 (own_bd2 _ hi').2.2.1.2))
      have f430 := f411.other W426 (Or.inl (own_gne gr_t0 (own_bd2 _ hi').2.2.1.2))
      have f431 := f412.other W426 (Or.inl (own_gne gr_t0 (own_bd2 _ hi').2.2.1.2))
      have f432 := f413.other W426 (Or.inl (own_gne gr_t0 (own_bd2 _ hi').2.2.1.2))
      have f433 := f414.other W426 (Or.inl (own_gne gr_t0 (own_bd2 _ hi').2.2.1.2))
      have f434 := f415.other W426 (Or.inl (own_gne gr_t0 (own_bd2 _ hi').2.2.1.2))
      have f435 := f416.other W426 (Or.inl (own_gne gr_t0 (own_bd2 _ hi').2.2.1.2))
      have f436 := f417.other W426 (own_gne gr_b15 (own_bd2 _ hi').2.2.1.2)
      have f437 := f418.other W426 (own_gne gr_b40 (own_bd2 _ hi').2.2.1.2)
      have f438 := f419.other W426 (own_gne gr_b69 (own_bd2 _ hi').2.2.1.2)
      have f439 := f420.other W426 (own_gne gr_b138 (own_bd2 _ hi').2.2.1.2)
      have f440 := f421.other W426 (own_gne gr_b177 (own_bd2 _ hi').2.2.1.2)
      have f441 := f422.other W426 (own_gne gr_b220 (own_bd2 _ hi').2.2.1.2)
      have Z426 := Nat.le_trans Z407 (Keep.of_wr W426).1
      have K426 := K407.wr W426 (Or.inr zz426)
      have N426 := Fr.snoc X426 N407 gg426
      show own_Fin _ _ _ _ _ _ _ (T426.setTop (mkF m 280 #[.val (.ref t0), .val (.int (2 : Int32)), .val (.int (Int32.ofNat i)), .val (.int ((Int32.ofNat i) / (4 : Int32))), .val (.int ((Int32.ofNat i) % (4 : Int32)))] []))
      refine own_go (fun _ kk => XS.iinc X426.here hx rfl (hb hby d1g2_280) rfl (l' := #[.val (.ref t0), .val (.int (2 : Int32)), .val (.int ((Int32.ofNat i) + (1 : Int32))), .val (.int ((Int32.ofNat i) / (4 : Int32))), .val (.int ((Int32.ofNat i) % (4 : Int32)))]) rfl (XS.goto X426.here hx rfl (pc0 := 283) (pc' := 121) rfl (hb hby d1g2_283) (by decide) (by decide) kk)) ?_
      show own_Fin _ _ _ _ _ _ _ (T426.setTop (mkF m 121 #[.val (.ref t0), .val (.int (2 : Int32)), .val (.int ((Int32.ofNat i) + (1 : Int32))), .val (.int ((Int32.ofNat i) / (4 : Int32))), .val (.int ((Int32.ofNat i) % (4 : Int32)))] []))
      rw [own_succ i]
      exact ih _ (by omega) T426 h426 _ (i + 1) (.val (.int ((Int32.ofNat i) / (4 : Int32)))) (.val (.int ((Int32.ofNat i) % (4 : Int32)))) rfl (by omega) (Or.inr ⟨_, rfl, rfl⟩) (Or.inr ⟨_, rfl, rfl⟩) X426 N426 e426 K426 Z426 f427 f428 f429 f430 f431 f432 f433 f434 f435 f436 f437 f438 f439 f440 f441 G426
    · refine own_go (fun _ kk => XS.icmpYes X266.here hx rfl (pc0 := 131) (pc' := 286) rfl (hb hby d1g2_131) rfl (XT.ii_ge_t hc131) (by decide) (by decide) kk) ?_
      show own_Fin _ _ _ _ _ _ _ (T266.setTop (mkF m 286 #[.val (.ref t0), .val (.int (2 : Int32)), .val (.int (Int32.ofNat i)), s3, s4] []))
      obtain rfl : i = 16 := by have := mt (own_ltN i 16 (by omega) (by decide)).mpr hc131; omega
      exact own_retV X266 hx hlk hret (hb hby d1g2_286) (by decide) (by decide) (by rw [e266]; exact ⟨rfl, NL121, KL121, b15, b40, b69, b102, sz_b15, sz_b40, sz_b69, sz_b102, Fl_size, Fl_rowOf, Fl_columnOf, Fl_boxOf, Fl_cellsOf, Vl_rowOf, Vl_columnOf, Vl_boxOf, Gl.1⟩)
  exact L121 _ T241 h241 _ (0) (.unset) (.unset) rfl (Nat.zero_le _) (Or.inl rfl) (Or.inl rfl) X241 N241 e241 K241 Z241 f242 f243 f244 f245 f246 f247 f248 f249 f264 (by rw [own_L0]; exact f251) (by rw [own_L0]; exact f253) (by rw [own_L0]; exact f255) (by rw [own_L0]; exact f257) (by rw [own_L0]; exact f259) (by rw [own_L0]; exact f261) f263

theorem d4_0 : decode prog_22_method_4_code 0 = .ok (.aload_n 0, 1) := by decide +kernel
theorem d4_1 : decode prog_22_method_4_code 1 = .ok (.getfield 13, 3) := by decide +kernel
theorem d4_4 : decode prog_22_method_4_code 4 = .ok (.areturn, 1) := by decide +kernel
theorem pn_4 : plainFor (⟨"com/example/onda/onda/sudoku/Geometry", "rowOf", "()[I"⟩ : MethodName) = true := plainFor_of_name (by show plainName "com/example/onda/onda/sudoku/Geometry" = true; first | (simp [plainName, overriddenIn]; done) | decide +kernel)
theorem ef_4 (m : MethodId) (x0 : Addr) : entryFrame m #[(.ref x0)] 1 = mkF m 0 #[.val (.ref x0)] [] := by first | (simp [entryFrame, mkF, argsToLocals, Value.category]; done) | rfl
set_option maxRecDepth 65536 in
set_option maxHeartbeats 40000000 in
theorem rm4 (l : Launch) (Z : State) (a0 : Array Value) (hw : ∀ d ∈ tables_1, d.before a0 Z = true) (t0 : Addr) (h0 : Heap) (n0 : Nat) (Z0 : n0 ≤ h0.size) (o0 : Addr) (F0 : Fld Z h0 t0 "com/example/onda/onda/sudoku/Geometry" "rowOf" "[I" (.ref o0)) :
    own_Met l (⟨"com/example/onda/onda/sudoku/Geometry", "rowOf", "()[I"⟩ : MethodName) prog_22_method_4_code 1 (some (.array .int)) ({ frames := 0, cells := 0, slots := 0, locals := 0 } : Room) Z [] #[(.ref t0)] h0 (own_P (some (.ref o0)) h0 n0) := by
  refine own_enter pn_4 ?_
  intro p e s m below meth c s₁ hx hby hml hown hnm hret hlk hZ e0 X0
  rw [ef_4]
  have N0 := Fr.nil n0
  show own_Fin _ _ _ _ _ _ _ (s₁.setTop (mkF m 0 #[.val (.ref t0)] []))
  refine own_go (fun _ kk => XS.aloadN X0.here hx rfl (hb hby d4_0) rfl rfl kk) ?_
  show own_Fin _ _ _ _ _ _ _ (s₁.setTop (mkF m 1 #[.val (.ref t0)] [(.ref t0)]))
  refine own_getF X0 hx hZ hown (host := "") (Or.inl (hw _ (List.mem_of_getElem? (i := 16) rfl))) Via.refl e0 F0 (hb hby d4_1) ?_
  intro T1 X1 e1
  show own_Fin _ _ _ _ _ _ _ (T1.setTop (mkF m 4 #[.val (.ref t0)] [(.ref o0)]))
  exact own_retA X1 hx hlk hret rfl rfl (hb hby d4_4) (by decide) (by decide) ⟨rfl, N0, e1⟩

theorem d5_0 : decode prog_22_method_5_code 0 = .ok (.aload_n 0, 1) := by decide +kernel
theorem d5_1 : decode prog_22_method_5_code 1 = .ok (.getfield 17, 3) := by decide +kernel
theorem d5_4 : decode prog_22_method_5_code 4 = .ok (.areturn, 1) := by decide +kernel
theorem pn_5 : plainFor (⟨"com/example/onda/onda/sudoku/Geometry", "columnOf", "()[I"⟩ : MethodName) = true := plainFor_of_name (by show plainName "com/example/onda/onda/sudoku/Geometry" = true; first | (simp [plainName, overriddenIn]; done) | decide +kernel)
theorem ef_5 (m : MethodId) (x0 : Addr) : entryFrame m #[(.ref x0)] 1 = mkF m 0 #[.val (.ref x0)] [] := by first | (simp [entryFrame, mkF, argsToLocals, Value.category]; done) | rfl
set_option maxRecDepth 65536 in
set_option maxHeartbeats 40000000 in
theorem rm5 (l : Launch) (Z : State) (a0 : Array Value) (hw : ∀ d ∈ tables_1, d.before a0 Z = true) (t0 : Addr) (h0 : Heap) (n0 : Nat) (Z0 : n0 ≤ h0.size) (o0 : Addr) (F0 : Fld Z h0 t0 "com/example/onda/onda/sudoku/Geometry" "columnOf" "[I" (.ref o0)) :
    own_Met l (⟨"com/example/onda/onda/sudoku/Geometry", "columnOf", "()[I"⟩ : MethodName) prog_22_method_5_code 1 (some (.array .int)) ({ frames := 0, cells := 0, slots := 0, locals := 0 } : Room) Z [] #[(.ref t0)] h0 (own_P (some (.ref o0)) h0 n0) := by
  refine own_enter pn_5 ?_
  intro p e s m below meth c s₁ hx hby hml hown hnm hret hlk hZ e0 X0
  rw [ef_5]
  have N0 := Fr.nil n0
  show own_Fin _ _ _ _ _ _ _ (s₁.setTop (mkF m 0 #[.val (.ref t0)] []))
  refine own_go (fun _ kk => XS.aloadN X0.here hx rfl (hb hby d5_0) rfl rfl kk) ?_
  show own_Fin _ _ _ _ _ _ _ (s₁.setTop (mkF m 1 #[.val (.ref t0)] [(.ref t0)]))
  refine own_getF X0 hx hZ hown (host := "") (Or.inl (hw _ (List.mem_of_getElem? (i := 18) rfl))) Via.refl e0 F0 (hb hby d5_1) ?_
  intro T1 X1 e1
  show own_Fin _ _ _ _ _ _ _ (T1.setTop (mkF m 4 #[.val (.ref t0)] [(.ref o0)]))
  exact own_retA X1 hx hlk hret rfl rfl (hb hby d5_4) (by decide) (by decide) ⟨rfl, N0, e1⟩

theorem d6_0 : decode prog_22_method_6_code 0 = .ok (.aload_n 0, 1) := by decide +kernel
theorem d6_1 : decode prog_22_method_6_code 1 = .ok (.getfield 20, 3) := by decide +kernel
theorem d6_4 : decode prog_22_method_6_code 4 = .ok (.areturn, 1) := by decide +kernel
theorem pn_6 : plainFor (⟨"com/example/onda/onda/sudoku/Geometry", "boxOf", "()[I"⟩ : MethodName) = true := plainFor_of_name (by show plainName "com/example/onda/onda/sudoku/Geometry" = true; first | (simp [plainName, overriddenIn]; done) | decide +kernel)
theorem ef_6 (m : MethodId) (x0 : Addr) : entryFrame m #[(.ref x0)] 1 = mkF m 0 #[.val (.ref x0)] [] := by first | (simp [entryFrame, mkF, argsToLocals, Value.category]; done) | rfl
set_option maxRecDepth 65536 in
set_option maxHeartbeats 40000000 in
theorem rm6 (l : Launch) (Z : State) (a0 : Array Value) (hw : ∀ d ∈ tables_1, d.before a0 Z = true) (t0 : Addr) (h0 : Heap) (n0 : Nat) (Z0 : n0 ≤ h0.size) (o0 : Addr) (F0 : Fld Z h0 t0 "com/example/onda/onda/sudoku/Geometry" "boxOf" "[I" (.ref o0)) :
    own_Met l (⟨"com/example/onda/onda/sudoku/Geometry", "boxOf", "()[I"⟩ : MethodName) prog_22_method_6_code 1 (some (.array .int)) ({ frames := 0, cells := 0, slots := 0, locals := 0 } : Room) Z [] #[(.ref t0)] h0 (own_P (some (.ref o0)) h0 n0) := by
  refine own_enter pn_6 ?_
  intro p e s m below meth c s₁ hx hby hml hown hnm hret hlk hZ e0 X0
  rw [ef_6]
  have N0 := Fr.nil n0
  show own_Fin _ _ _ _ _ _ _ (s₁.setTop (mkF m 0 #[.val (.ref t0)] []))
  refine own_go (fun _ kk => XS.aloadN X0.here hx rfl (hb hby d6_0) rfl rfl kk) ?_
  show own_Fin _ _ _ _ _ _ _ (s₁.setTop (mkF m 1 #[.val (.ref t0)] [(.ref t0)]))
  refine own_getF X0 hx hZ hown (host := "") (Or.inl (hw _ (List.mem_of_getElem? (i := 20) rfl))) Via.refl e0 F0 (hb hby d6_1) ?_
  intro T1 X1 e1
  show own_Fin _ _ _ _ _ _ _ (T1.setTop (mkF m 4 #[.val (.ref t0)] [(.ref o0)]))
  exact own_retA X1 hx hlk hret rfl rfl (hb hby d6_4) (by decide) (by decide) ⟨rfl, N0, e1⟩

theorem d7_0 : decode prog_22_method_2_code 0 = .ok (.aload_n 0, 1) := by decide +kernel
theorem d7_1 : decode prog_22_method_2_code 1 = .ok (.getfield 7, 3) := by decide +kernel
theorem d7_4 : decode prog_22_method_2_code 4 = .ok (.ireturn, 1) := by decide +kernel
theorem pn_7 : plainFor (⟨"com/example/onda/onda/sudoku/Geometry", "size", "()I"⟩ : MethodName) = true := plainFor_of_name (by show plainName "com/example/onda/onda/sudoku/Geometry" = true; first | (simp [plainName, overriddenIn]; done) | decide +kernel)
theorem ef_7 (m : MethodId) (x0 : Addr) : entryFrame m #[(.ref x0)] 1 = mkF m 0 #[.val (.ref x0)] [] := by first | (simp [entryFrame, mkF, argsToLocals, Value.category]; done) | rfl
set_option maxRecDepth 65536 in
set_option maxHeartbeats 40000000 in
theorem rm7 (l : Launch) (Z : State) (a0 : Array Value) (hw : ∀ d ∈ tables_1, d.before a0 Z = true) (t0 : Addr) (h0 : Heap) (n0 : Nat) (Z0 : n0 ≤ h0.size) (o0 : Int32) (F0 : Fld Z h0 t0 "com/example/onda/onda/sudoku/Geometry" "size" "I" (.int o0)) :
    own_Met l (⟨"com/example/onda/onda/sudoku/Geometry", "size", "()I"⟩ : MethodName) prog_22_method_2_code 1 (some .int) ({ frames := 0, cells := 0, slots := 0, locals := 0 } : Room) Z [] #[(.ref t0)] h0 (own_P (some (.int o0)) h0 n0) := by
  refine own_enter pn_7 ?_
  intro p e s m below meth c s₁ hx hby hml hown hnm hret hlk hZ e0 X0
  rw [ef_7]
  have N0 := Fr.nil n0
  show own_Fin _ _ _ _ _ _ _ (s₁.setTop (mkF m 0 #[.val (.ref t0)] []))
  refine own_go (fun _ kk => XS.aloadN X0.here hx rfl (hb hby d7_0) rfl rfl kk) ?_
  show own_Fin _ _ _ _ _ _ _ (s₁.setTop (mkF m 1 #[.val (.ref t0)] [(.ref t0)]))
  refine own_getF X0 hx hZ hown (host := "") (Or.inl (hw _ (List.mem_of_getElem? (i := 13) rfl))) Via.refl e0 F0 (hb hby d7_1) ?_
  intro T1 X1 e1
  show own_Fin _ _ _ _ _ _ _ (T1.setTop (mkF m 4 #[.val (.ref t0)] [(.int o0)]))
  exact own_retI X1 hx hlk hret (hb hby d7_4) (by decide) (by decide) ⟨rfl, N0, e1⟩

theorem d8g2_0 : decode prog_22_method_3_code 0 = .ok (.aload_n 0, 1) := by decide +kernel
theorem d8g2_1 : decode prog_22_method_3_code 1 = .ok (.getfield 25, 3) := by decide +kernel
theorem d8g2_4 : decode prog_22_method_3_code 4 = .ok (.arraylength, 1) := by decide +kernel
theorem d8g2_5 : decode prog_22_method_3_code 5 = .ok (.ireturn, 1) := by decide +kernel
theorem pn_8g2 : plainFor (⟨"com/example/onda/onda/sudoku/Geometry", "units", "()I"⟩ : MethodName) = true := plainFor_of_name (by show plainName "com/example/onda/onda/sudoku/Geometry" = true; first | (simp [plainName, overriddenIn]; done) | decide +kernel)
theorem ef_8g2 (m : MethodId) (x0 : Addr) : entryFrame m #[(.ref x0)] 1 = mkF m 0 #[.val (.ref x0)] [] := by first | (simp [entryFrame, mkF, argsToLocals, Value.category]; done) | rfl
set_option maxRecDepth 65536 in
set_option maxHeartbeats 40000000 in
theorem rm8g2 (l : Launch) (Z : State) (a0 : Array Value) (hw : ∀ d ∈ tables_1, d.before a0 Z = true) (t0 : Addr) (h0 : Heap) (n0 : Nat) (Z0 : n0 ≤ h0.size) (gg : Addr) (F0 : Fld Z h0 t0 "com/example/onda/onda/sudoku/Geometry" "cellsOf" "[[I" (.ref gg)) (VG : own_Ar Z h0 gg (.array .int) ((List.range 12).map fun j => Value.ref (gg + 1 + j))) :
    own_Met l (⟨"com/example/onda/onda/sudoku/Geometry", "units", "()I"⟩ : MethodName) prog_22_method_3_code 1 (some .int) ({ frames := 0, cells := 0, slots := 0, locals := 0 } : Room) Z [] #[(.ref t0)] h0 (own_P (some (.int (12 : Int32))) h0 n0) := by
  refine own_enter pn_8g2 ?_
  intro p e s m below meth c s₁ hx hby hml hown hnm hret hlk hZ e0 X0
  rw [ef_8g2]
  have N0 := Fr.nil n0
  show own_Fin _ _ _ _ _ _ _ (s₁.setTop (mkF m 0 #[.val (.ref t0)] []))
  refine own_go (fun _ kk => XS.aloadN X0.here hx rfl (hb hby d8g2_0) rfl rfl kk) ?_
  show own_Fin _ _ _ _ _ _ _ (s₁.setTop (mkF m 1 #[.val (.ref t0)] [(.ref t0)]))
  refine own_getF X0 hx hZ hown (host := "") (Or.inl (hw _ (List.mem_of_getElem? (i := 24) rfl))) Via.refl e0 F0 (hb hby d8g2_1) ?_
  intro T1 X1 e1
  show own_Fin _ _ _ _ _ _ _ (T1.setTop (mkF m 4 #[.val (.ref t0)] [(.ref gg)]))
  refine own_alen X1 hx hZ e1 VG (hb hby d8g2_4) ?_
  show own_Fin _ _ _ _ _ _ _ (T1.setTop (mkF m 5 #[.val (.ref t0)] [(.int (12 : Int32))]))
  exact own_retI X1 hx hlk hret (hb hby d8g2_5) (by decide) (by decide) ⟨rfl, N0, e1⟩

def own_QU2 (Z : State) (t0 bR bC bB : Addr) (h0 : Heap) (n0 : Nat) (v : Option Value) (h : Heap) (L : List Loc) : Prop := v = none ∧ Fr n0 L ∧ Keep h0 h [t0] ∧ ∃ hd : Addr, h0.size ≤ hd ∧ Fld Z h t0 "com/example/onda/onda/sudoku/Units" "rowOf" "[I" (.ref bR) ∧ Fld Z h t0 "com/example/onda/onda/sudoku/Units" "columnOf" "[I" (.ref bC) ∧ Fld Z h t0 "com/example/onda/onda/sudoku/Units" "boxOf" "[I" (.ref bB) ∧ Fld Z h t0 "com/example/onda/onda/sudoku/Units" "numbers" "J" (.long (((1 : Int64) <<< (((5 : Int32)) &&& 0x3f).toInt64) - (2 : Int64))) ∧ Fld Z h t0 "com/example/onda/onda/sudoku/Units" "held" "[J" (.ref hd) ∧ own_Ar Z h hd .long ((List.replicate 12 (0 : Int64)).map Value.long)
theorem d3g2_0 : decode prog_24_method_2_code 0 = .ok (.aload_n 0, 1) := by decide +kernel
theorem d3g2_1 : decode prog_24_method_2_code 1 = .ok (.invokespecial 12, 3) := by decide +kernel
theorem d3g2_4 : decode prog_24_method_2_code 4 = .ok (.aload_n 0, 1) := by decide +kernel
theorem d3g2_5 : decode prog_24_method_2_code 5 = .ok (.aload_n 1, 1) := by decide +kernel
theorem d3g2_6 : decode prog_24_method_2_code 6 = .ok (.invokevirtual 17, 3) := by decide +kernel
theorem d3g2_9 : decode prog_24_method_2_code 9 = .ok (.putfield 21, 3) := by decide +kernel
theorem d3g2_12 : decode prog_24_method_2_code 12 = .ok (.aload_n 0, 1) := by decide +kernel
theorem d3g2_13 : decode prog_24_method_2_code 13 = .ok (.aload_n 1, 1) := by decide +kernel
theorem d3g2_14 : decode prog_24_method_2_code 14 = .ok (.invokevirtual 24, 3) := by decide +kernel
theorem d3g2_17 : decode prog_24_method_2_code 17 = .ok (.putfield 27, 3) := by decide +kernel
theorem d3g2_20 : decode prog_24_method_2_code 20 = .ok (.aload_n 0, 1) := by decide +kernel
theorem d3g2_21 : decode prog_24_method_2_code 21 = .ok (.aload_n 1, 1) := by decide +kernel
theorem d3g2_22 : decode prog_24_method_2_code 22 = .ok (.invokevirtual 29, 3) := by decide +kernel
theorem d3g2_25 : decode prog_24_method_2_code 25 = .ok (.putfield 32, 3) := by decide +kernel
theorem d3g2_28 : decode prog_24_method_2_code 28 = .ok (.aload_n 0, 1) := by decide +kernel
theorem d3g2_29 : decode prog_24_method_2_code 29 = .ok (.lconst 1, 1) := by decide +kernel
theorem d3g2_30 : decode prog_24_method_2_code 30 = .ok (.aload_n 1, 1) := by decide +kernel
theorem d3g2_31 : decode prog_24_method_2_code 31 = .ok (.invokevirtual 34, 3) := by decide +kernel
theorem d3g2_34 : decode prog_24_method_2_code 34 = .ok (.iconst 1, 1) := by decide +kernel
theorem d3g2_35 : decode prog_24_method_2_code 35 = .ok (.iadd, 1) := by decide +kernel
theorem d3g2_36 : decode prog_24_method_2_code 36 = .ok (.lshl, 1) := by decide +kernel
theorem d3g2_37 : decode prog_24_method_2_code 37 = .ok (.ldc2_w 38, 3) := by decide +kernel
theorem d3g2_40 : decode prog_24_method_2_code 40 = .ok (.lsub, 1) := by decide +kernel
theorem d3g2_41 : decode prog_24_method_2_code 41 = .ok (.putfield 40, 3) := by decide +kernel
theorem d3g2_44 : decode prog_24_method_2_code 44 = .ok (.aload_n 0, 1) := by decide +kernel
theorem d3g2_45 : decode prog_24_method_2_code 45 = .ok (.aload_n 1, 1) := by decide +kernel
theorem d3g2_46 : decode prog_24_method_2_code 46 = .ok (.invokevirtual 44, 3) := by decide +kernel
theorem d3g2_49 : decode prog_24_method_2_code 49 = .ok (.newarray .long, 2) := by decide +kernel
theorem d3g2_51 : decode prog_24_method_2_code 51 = .ok (.putfield 47, 3) := by decide +kernel
theorem d3g2_54 : decode prog_24_method_2_code 54 = .ok (.return_, 1) := by decide +kernel
theorem pd_3g2_0 : parseMethodDescriptor "()[I" = some ⟨[], some (.array .int)⟩ := by decide +kernel
theorem pd_3g2_1 : parseMethodDescriptor "()I" = some ⟨[], some .int⟩ := by decide +kernel
theorem pn_3g2 : plainFor (⟨"com/example/onda/onda/sudoku/Units", "<init>", "(Lcom/example/onda/onda/sudoku/Geometry;)V"⟩ : MethodName) = true := plainFor_of_name (by show plainName "com/example/onda/onda/sudoku/Units" = true; first | (simp [plainName, overriddenIn]; done) | decide +kernel)
theorem ef_3g2 (m : MethodId) (x0 : Addr) (x1 : Addr) : entryFrame m #[(.ref x0), (.ref x1)] 2 = mkF m 0 #[.val (.ref x0), .val (.ref x1)] [] := by first | (simp [entryFrame, mkF, argsToLocals, Value.category]; done) | rfl
set_option maxRecDepth 65536 in
set_option maxHeartbeats 40000000 in
theorem rm3g2 (l : Launch) (Z : State) (a0 : Array Value) (hw : ∀ d ∈ tables_1, d.before a0 Z = true) (t0 : Addr) (t1 : Addr) (h0 : Heap) (n0 : Nat) (Z0 : n0 ≤ h0.size) (E_t0 : Exa Z h0 t0 "com/example/onda/onda/sudoku/Units") (F_rowOf : Fld Z h0 t0 "com/example/onda/onda/sudoku/Units" "rowOf" "[I" .null) (F_columnOf : Fld Z h0 t0 "com/example/onda/onda/sudoku/Units" "columnOf" "[I" .null) (F_boxOf : Fld Z h0 t0 "com/example/onda/onda/sudoku/Units" "boxOf" "[I" .null) (F_numbers : Fld Z h0 t0 "com/example/onda/onda/sudoku/Units" "numbers" "J" (.long (0 : Int64))) (F_held : Fld Z h0 t0 "com/example/onda/onda/sudoku/Units" "held" "[J" .null) (g_t0 : n0 ≤ t0) (bR bC bB gg : Addr) (E_t1 : Exa Z h0 t1 "com/example/onda/onda/sudoku/Geometry") (G_size : Fld Z h0 t1 "com/example/onda/onda/sudoku/Geometry" "size" "I" (.int (4 : Int32))) (G_rowOf : Fld Z h0 t1 "com/example/onda/onda/sudoku/Geometry" "rowOf" "[I" (.ref bR)) (G_columnOf : Fld Z h0 t1 "com/example/onda/onda/sudoku/Geometry" "columnOf" "[I" (.ref bC)) (G_boxOf : Fld Z h0 t1 "com/example/onda/onda/sudoku/Geometry" "boxOf" "[I" (.ref bB)) (G_cellsOf : Fld Z h0 t1 "com/example/onda/onda/sudoku/Geometry" "cellsOf" "[[I" (.ref gg)) (VR : own_Ar Z h0 bR .int ((own_L own_fR2 16 16).map Value.int)) (VC : own_Ar Z h0 bC .int ((own_L own_fC2 16 16).map Value.int)) (VB : own_Ar Z h0 bB .int ((own_L own_fB2 16 16).map Value.int)) (VG : own_Ar Z h0 gg (.array .int) ((List.range 12).map fun j => Value.ref (gg + 1 + j))) (n01 : t0 ≠ t1) (n0bR : t0 ≠ bR) (n0bC : t0 ≠ bC) (n0bB : t0 ≠ bB) (n0gg : t0 ≠ gg) :
    own_Met l (⟨"com/example/onda/onda/sudoku/Units", "<init>", "(Lcom/example/onda/onda/sudoku/Geometry;)V"⟩ : MethodName) prog_24_method_2_code 2 none ({ frames := 1, cells := 1, slots := 12, locals := 15 } : Room) Z [] #[(.ref t0), (.ref t1)] h0 (own_QU2 Z t0 bR bC bB h0 n0) := by
  refine own_enter pn_3g2 ?_
  intro p e s m below meth c s₁ hx hby hml hown hnm hret hlk hZ e0 X0
  rw [ef_3g2]
  have N0 := Fr.nil n0
  show own_Fin _ _ _ _ _ _ _ (s₁.setTop (mkF m 0 #[.val (.ref t0), .val (.ref t1)] []))
  refine own_go (fun _ kk => XS.aloadN X0.here hx rfl (hb hby d3g2_0) rfl rfl kk) ?_
  show own_Fin _ _ _ _ _ _ _ (s₁.setTop (mkF m 1 #[.val (.ref t0), .val (.ref t1)] [(.ref t0)]))
  refine own_initO X0 hx hZ hown (hw _ (List.mem_of_getElem? (i := 35) rfl)) (hw _ (List.mem_of_getElem? (i := 11) rfl)) (hw _ (List.mem_of_getElem? (i := 12) rfl)) e0 (by rw [hml]; rfl) (hb hby d3g2_1) (by decide) (W := 0) (Nat.le_of_eq rfl) (by decide) ?_
  intro T1 X1 e1
  show own_Fin _ _ _ _ _ _ _ (T1.setTop (mkF m 4 #[.val (.ref t0), .val (.ref t1)] []))
  refine own_go (fun _ kk => XS.aloadN X1.here hx rfl (hb hby d3g2_4) rfl rfl (XS.aloadN X1.here hx rfl (hb hby d3g2_5) rfl rfl kk)) ?_
  show own_Fin _ _ _ _ _ _ _ (T1.setTop (mkF m 6 #[.val (.ref t0), .val (.ref t1)] [(.ref t1), (.ref t0)]))
  refine own_callV X1 hx hZ hown (hw _ (List.mem_of_getElem? (i := 36) rfl)) (hw _ (List.mem_of_getElem? (i := 37) rfl)) (notFace_of_selects (args := #[]) (mvT hZ (hw _ (List.mem_of_getElem? (i := 39) rfl)))) (hw _ (List.mem_of_getElem? (i := 39) rfl)) (hw _ (List.mem_of_getElem? (i := 38) rfl)) (hw _ (List.mem_of_getElem? (i := 40) rfl)) (hw _ (List.mem_of_getElem? (i := 6) rfl)) (by decide) (rm4 l Z a0 hw t1 h0 n0 Z0 bR G_rowOf) e1 E_t1 (argsL := []) (rest := [(.ref t0)]) rfl rfl (by rw [hml]; rfl) (lenOf pd_3g2_0 rfl) (hb hby d3g2_6) (W := 1) (Nat.le_of_eq rfl) (by decide) (by decide) (by decide) (by decide) ?_
  rintro v2 T2 L2 X2 ⟨rfl, M2, e2⟩
  have N2 := Fr.app N0 M2
  show own_Fin _ _ _ _ _ _ _ (T2.setTop (mkF m 9 #[.val (.ref t0), .val (.ref t1)] [(.ref bR), (.ref t0)]))
  refine own_putF X2 hx hZ hown (host := "") (Or.inl (hw _ (List.mem_of_getElem? (i := 41) rfl))) Via.refl e2 F_rowOf E_t0 (Or.inr ⟨(hw _ (List.mem_of_getElem? (i := 42) rfl)), rfl, hnm⟩) (hw _ (List.mem_of_getElem? (i := 2) rfl)) (ty := (.array .int)) (by decide) rfl rfl (hb hby d3g2_9) ?_
  intro T3 h3 X3 e3 W3
  have f4 := E_t0.wr W3
  have f6 := F_columnOf.other W3 (Or.inr (slot_ne (Or.inr (hw _ (List.mem_of_getElem? (i := 49) rfl))) (Or.inr (hw _ (List.mem_of_getElem? (i := 42) rfl))) (by decide) (t := (.array .int)) (t' := (.array .int)) (by decide) (by decide)))
  have f7 := F_boxOf.other W3 (Or.inr (slot_ne (Or.inr (hw _ (List.mem_of_getElem? (i := 56) rfl))) (Or.inr (hw _ (List.mem_of_getElem? (i := 42) rfl))) (by decide) (t := (.array .int)) (t' := (.array .int)) (by decide) (by decide)))
  have f8 := F_numbers.other W3 (Or.inr (slot_ne (Or.inr (hw _ (List.mem_of_getElem? (i := 64) rfl))) (Or.inr (hw _ (List.mem_of_getElem? (i := 42) rfl))) (by decide) (t := .long) (t' := (.array .int)) (by decide) (by decide)))
  have f9 := F_held.other W3 (Or.inr (slot_ne (Or.inr (hw _ (List.mem_of_getElem? (i := 72) rfl))) (Or.inr (hw _ (List.mem_of_getElem? (i := 42) rfl))) (by decide) (t := (.array .long)) (t' := (.array .int)) (by decide) (by decide)))
  have f10 := E_t1.wr W3
  have f11 := G_size.other W3 (Or.inl (Ne.symm n01))
  have f12 := G_rowOf.other W3 (Or.inl (Ne.symm n01))
  have f13 := G_columnOf.other W3 (Or.inl (Ne.symm n01))
  have f14 := G_boxOf.other W3 (Or.inl (Ne.symm n01))
  have f15 := G_cellsOf.other W3 (Or.inl (Ne.symm n01))
  have f16 := VR.other W3 (Ne.symm n0bR)
  have f17 := VC.other W3 (Ne.symm n0bC)
  have f18 := VB.other W3 (Ne.symm n0bB)
  have f19 := VG.other W3 (Ne.symm n0gg)
  have Z3 := Nat.le_trans Z0 (Keep.of_wr W3).1
  have K3 := (Keep.refl h0 [t0]).wr W3 (Or.inl (List.mem_of_getElem? (i := 0) rfl))
  have f20 := F_rowOf.same W3
  have N3 := Fr.snoc X3 N2 g_t0
  show own_Fin _ _ _ _ _ _ _ (T3.setTop (mkF m 12 #[.val (.ref t0), .val (.ref t1)] []))
  refine own_go (fun _ kk => XS.aloadN X3.here hx rfl (hb hby d3g2_12) rfl rfl (XS.aloadN X3.here hx rfl (hb hby d3g2_13) rfl rfl kk)) ?_
  show own_Fin _ _ _ _ _ _ _ (T3.setTop (mkF m 14 #[.val (.ref t0), .val (.ref t1)] [(.ref t1), (.ref t0)]))
  refine own_callV X3 hx hZ hown (hw _ (List.mem_of_getElem? (i := 43) rfl)) (hw _ (List.mem_of_getElem? (i := 44) rfl)) (notFace_of_selects (args := #[]) (mvT hZ (hw _ (List.mem_of_getElem? (i := 46) rfl)))) (hw _ (List.mem_of_getElem? (i := 46) rfl)) (hw _ (List.mem_of_getElem? (i := 45) rfl)) (hw _ (List.mem_of_getElem? (i := 47) rfl)) (hw _ (List.mem_of_getElem? (i := 6) rfl)) (by decide) (rm5 l Z a0 hw t1 h3 n0 Z3 bC f13) e3 f10 (argsL := []) (rest := [(.ref t0)]) rfl rfl (by rw [hml]; rfl) (lenOf pd_3g2_0 rfl) (hb hby d3g2_14) (W := 1) (Nat.le_of_eq rfl) (by decide) (by decide) (by decide) (by decide) ?_
  rintro v21 T21 L21 X21 ⟨rfl, M21, e21⟩
  have N21 := Fr.app N3 M21
  show own_Fin _ _ _ _ _ _ _ (T21.setTop (mkF m 17 #[.val (.ref t0), .val (.ref t1)] [(.ref bC), (.ref t0)]))
  refine own_putF X21 hx hZ hown (host := "") (Or.inl (hw _ (List.mem_of_getElem? (i := 48) rfl))) Via.refl e21 f6 f4 (Or.inr ⟨(hw _ (List.mem_of_getElem? (i := 49) rfl)), rfl, hnm⟩) (hw _ (List.mem_of_getElem? (i := 2) rfl)) (ty := (.array .int)) (by decide) rfl rfl (hb hby d3g2_17) ?_
  intro T22 h22 X22 e22 W22
  have f23 := f4.wr W22
  have f24 := f20.other W22 (Or.inr (slot_ne (Or.inr (hw _ (List.mem_of_getElem? (i := 42) rfl))) (Or.inr (hw _ (List.mem_of_getElem? (i := 49) rfl))) (by decide) (t := (.array .int)) (t' := (.array .int)) (by decide) (by decide)))
  have f26 := f7.other W22 (Or.inr (slot_ne (Or.inr (hw _ (List.mem_of_getElem? (i := 56) rfl))) (Or.inr (hw _ (List.mem_of_getElem? (i := 49) rfl))) (by decide) (t := (.array .int)) (t' := (.array .int)) (by decide) (by decide)))
  have f27 := f8.other W22 (Or.inr (slot_ne (Or.inr (hw _ (List.mem_of_getElem? (i := 64) rfl))) (Or.inr (hw _ (List.mem_of_getElem? (i := 49) rfl))) (by decide) (t := .long) (t' := (.array .int)) (by decide) (by decide)))
  have f28 := f9.other W22 (Or.inr (slot_ne (Or.inr (hw _ (List.mem_of_getElem? (i := 72) rfl))) (Or.inr (hw _ (List.mem_of_getElem? (i := 49) rfl))) (by decide) (t := (.array .long)) (t' := (.array .int)) (by decide) (by decide)))
  have f29 := f10.wr W22
  have f30 := f11.other W22 (Or.inl (Ne.symm n01))
  have f31 := f12.other W22 (Or.inl (Ne.symm n01))
  have f32 := f13.other W22 (Or.inl (Ne.symm n01))
  have f33 := f14.other W22 (Or.inl (Ne.symm n01))
  have f34 := f15.other W22 (Or.inl (Ne.symm n01))
  have f35 := f16.other W22 (Ne.symm n0bR)
  have f36 := f17.other W22 (Ne.symm n0bC)
  have f37 := f18.other W22 (Ne.symm n0bB)
  have f38 := f19.other W22 (Ne.symm n0gg)
  have Z22 := Nat.le_trans Z3 (Keep.of_wr W22).1
  have K22 := K3.wr W22 (Or.inl (List.mem_of_getElem? (i := 0) rfl))
  have f39 := f6.same W22
  have N22 := Fr.snoc X22 N21 g_t0
  show own_Fin _ _ _ _ _ _ _ (T22.setTop (mkF m 20 #[.val (.ref t0), .val (.ref t1)] []))
  refine own_go (fun _ kk => XS.aloadN X22.here hx rfl (hb hby d3g2_20) rfl rfl (XS.aloadN X22.here hx rfl (hb hby d3g2_21) rfl rfl kk)) ?_
  show own_Fin _ _ _ _ _ _ _ (T22.setTop (mkF m 22 #[.val (.ref t0), .val (.ref t1)] [(.ref t1), (.ref t0)]))
  refine own_callV X22 hx hZ hown (hw _ (List.mem_of_getElem? (i := 50) rfl)) (hw _ (List.mem_of_getElem? (i := 51) rfl)) (notFace_of_selects (args := #[]) (mvT hZ (hw _ (List.mem_of_getElem? (i := 53) rfl)))) (hw _ (List.mem_of_getElem? (i := 53) rfl)) (hw _ (List.mem_of_getElem? (i := 52) rfl)) (hw _ (List.mem_of_getElem? (i := 54) rfl)) (hw _ (List.mem_of_getElem? (i := 6) rfl)) (by decide) (rm6 l Z a0 hw t1 h22 n0 Z22 bB f33) e22 f29 (argsL := []) (rest := [(.ref t0)]) rfl rfl (by rw [hml]; rfl) (lenOf pd_3g2_0 rfl) (hb hby d3g2_22) (W := 1) (Nat.le_of_eq rfl) (by decide) (by decide) (by decide) (by decide) ?_
  rintro v40 T40 L40 X40 ⟨rfl, M40, e40⟩
  have N40 := Fr.app N22 M40
  show own_Fin _ _ _ _ _ _ _ (T40.setTop (mkF m 25 #[.val (.ref t0), .val (.ref t1)] [(.ref bB), (.ref t0)]))
  refine own_putF X40 hx hZ hown (host := "") (Or.inl (hw _ (List.mem_of_getElem? (i := 55) rfl))) Via.refl e40 f26 f23 (Or.inr ⟨(hw _ (List.mem_of_getElem? (i := 56) rfl)), rfl, hnm⟩) (hw _ (List.mem_of_getElem? (i := 2) rfl)) (ty := (.array .int)) (by decide) rfl rfl (hb hby d3g2_25) ?_
  intro T41 h41 X41 e41 W41
  have f42 := f23.wr W41
  have f43 := f24.other W41 (Or.inr (slot_ne (Or.inr (hw _ (List.mem_of_getElem? (i := 42) rfl))) (Or.inr (hw _ (List.mem_of_getElem? (i := 56) rfl))) (by decide) (t := (.array .int)) (t' := (.array .int)) (by decide) (by decide)))
  have f44 := f39.other W41 (Or.inr (slot_ne (Or.inr (hw _ (List.mem_of_getElem? (i := 49) rfl))) (Or.inr (hw _ (List.mem_of_getElem? (i := 56) rfl))) (by decide) (t := (.array .int)) (t' := (.array .int)) (by decide) (by decide)))
  have f46 := f27.other W41 (Or.inr (slot_ne (Or.inr (hw _ (List.mem_of_getElem? (i := 64) rfl))) (Or.inr (hw _ (List.mem_of_getElem? (i := 56) rfl))) (by decide) (t := .long) (t' := (.array .int)) (by decide) (by decide)))
  have f47 := f28.other W41 (Or.inr (slot_ne (Or.inr (hw _ (List.mem_of_getElem? (i := 72) rfl))) (Or.inr (hw _ (List.mem_of_getElem? (i := 56) rfl))) (by decide) (t := (.array .long)) (t' := (.array .int)) (by decide) (by decide)))
  have f48 := f29.wr W41
  have f49 := f30.other W41 (Or.inl (Ne.symm n01))
  have f50 := f31.other W41 (Or.inl (Ne.symm n01))
  have f51 := f32.other W41 (Or.inl (Ne.symm n01))
  have f52 := f33.other W41 (Or.inl (Ne.symm n01))
  have f53 := f34.other W41 (Or.inl (Ne.symm n01))
  have f54 := f35.other W41 (Ne.symm n0bR)
  have f55 := f36.other W41 (Ne.symm n0bC)
  have f56 := f37.other W41 (Ne.symm n0bB)
  have f57 := f38.other W41 (Ne.symm n0gg)
  have Z41 := Nat.le_trans Z22 (Keep.of_wr W41).1
  have K41 := K22.wr W41 (Or.inl (List.mem_of_getElem? (i := 0) rfl))
  have f58 := f26.same W41
  have N41 := Fr.snoc X41 N40 g_t0
  show own_Fin _ _ _ _ _ _ _ (T41.setTop (mkF m 28 #[.val (.ref t0), .val (.ref t1)] []))
  refine own_go (fun _ kk => XS.aloadN X41.here hx rfl (hb hby d3g2_28) rfl rfl (XS.lconst X41.here hx rfl (hb hby d3g2_29) (XS.aloadN X41.here hx rfl (hb hby d3g2_30) rfl rfl kk))) ?_
  show own_Fin _ _ _ _ _ _ _ (T41.setTop (mkF m 31 #[.val (.ref t0), .val (.ref t1)] [(.ref t1), (.long (1 : Int64)), (.ref t0)]))
  refine own_callV X41 hx hZ hown (hw _ (List.mem_of_getElem? (i := 57) rfl)) (hw _ (List.mem_of_getElem? (i := 58) rfl)) (notFace_of_selects (args := #[]) (mvT hZ (hw _ (List.mem_of_getElem? (i := 60) rfl)))) (hw _ (List.mem_of_getElem? (i := 60) rfl)) (hw _ (List.mem_of_getElem? (i := 59) rfl)) (hw _ (List.mem_of_getElem? (i := 61) rfl)) (hw _ (List.mem_of_getElem? (i := 6) rfl)) (by decide) (rm7 l Z a0 hw t1 h41 n0 Z41 (4 : Int32) f49) e41 f48 (argsL := []) (rest := [(.long (1 : Int64)), (.ref t0)]) rfl rfl (by rw [hml]; rfl) (lenOf pd_3g2_1 rfl) (hb hby d3g2_31) (W := 3) (Nat.le_of_eq rfl) (by decide) (by decide) (by decide) (by decide) ?_
  rintro v59 T59 L59 X59 ⟨rfl, M59, e59⟩
  have N59 := Fr.app N41 M59
  show own_Fin _ _ _ _ _ _ _ (T59.setTop (mkF m 34 #[.val (.ref t0), .val (.ref t1)] [(.int (4 : Int32)), (.long (1 : Int64)), (.ref t0)]))
  refine own_go (fun _ kk => XS.iconst X59.here hx rfl (hb hby d3g2_34) (XS.iadd X59.here hx rfl (hb hby d3g2_35) rfl (XS.lshl X59.here hx rfl (hb hby d3g2_36) rfl (X59.ldc2J hx hown (mvT hZ (hw _ (List.mem_of_getElem? (i := 62) rfl))) rfl (hb hby d3g2_37) (XS.lsub X59.here hx rfl (hb hby d3g2_40) rfl kk))))) ?_
  show own_Fin _ _ _ _ _ _ _ (T59.setTop (mkF m 41 #[.val (.ref t0), .val (.ref t1)] [(.long (((1 : Int64) <<< ((5 : Int32) &&& 0x3f).toInt64) - (2 : Int64))), (.ref t0)]))
  refine own_putF X59 hx hZ hown (host := "") (Or.inl (hw _ (List.mem_of_getElem? (i := 63) rfl))) Via.refl e59 f46 f42 (Or.inr ⟨(hw _ (List.mem_of_getElem? (i := 64) rfl)), rfl, hnm⟩) (hw _ (List.mem_of_getElem? (i := 2) rfl)) (ty := .long) (by decide) rfl rfl (hb hby d3g2_41) ?_
  intro T60 h60 X60 e60 W60
  have f61 := f42.wr W60
  have f62 := f43.other W60 (Or.inr (slot_ne (Or.inr (hw _ (List.mem_of_getElem? (i := 42) rfl))) (Or.inr (hw _ (List.mem_of_getElem? (i := 64) rfl))) (by decide) (t := (.array .int)) (t' := .long) (by decide) (by decide)))
  have f63 := f44.other W60 (Or.inr (slot_ne (Or.inr (hw _ (List.mem_of_getElem? (i := 49) rfl))) (Or.inr (hw _ (List.mem_of_getElem? (i := 64) rfl))) (by decide) (t := (.array .int)) (t' := .long) (by decide) (by decide)))
  have f64 := f58.other W60 (Or.inr (slot_ne (Or.inr (hw _ (List.mem_of_getElem? (i := 56) rfl))) (Or.inr (hw _ (List.mem_of_getElem? (i := 64) rfl))) (by decide) (t := (.array .int)) (t' := .long) (by decide) (by decide)))
  have f66 := f47.other W60 (Or.inr (slot_ne (Or.inr (hw _ (List.mem_of_getElem? (i := 72) rfl))) (Or.inr (hw _ (List.mem_of_getElem? (i := 64) rfl))) (by decide) (t := (.array .long)) (t' := .long) (by decide) (by decide)))
  have f67 := f48.wr W60
  have f68 := f49.other W60 (Or.inl (Ne.symm n01))
  have f69 := f50.other W60 (Or.inl (Ne.symm n01))
  have f70 := f51.other W60 (Or.inl (Ne.symm n01))
  have f71 := f52.other W60 (Or.inl (Ne.symm n01))
  have f72 := f53.other W60 (Or.inl (Ne.symm n01))
  have f73 := f54.other W60 (Ne.symm n0bR)
  have f74 := f55.other W60 (Ne.symm n0bC)
  have f75 := f56.other W60 (Ne.symm n0bB)
  have f76 := f57.other W60 (Ne.symm n0gg)
  have Z60 := Nat.le_trans Z41 (Keep.of_wr W60).1
  have K60 := K41.wr W60 (Or.inl (List.mem_of_getElem? (i := 0) rfl))
  have f77 := f46.same W60
  have N60 := Fr.snoc X60 N59 g_t0
  show own_Fin _ _ _ _ _ _ _ (T60.setTop (mkF m 44 #[.val (.ref t0), .val (.ref t1)] []))
  refine own_go (fun _ kk => XS.aloadN X60.here hx rfl (hb hby d3g2_44) rfl rfl (XS.aloadN X60.here hx rfl (hb hby d3g2_45) rfl rfl kk)) ?_
  show own_Fin _ _ _ _ _ _ _ (T60.setTop (mkF m 46 #[.val (.ref t0), .val (.ref t1)] [(.ref t1), (.ref t0)]))
  refine own_callV X60 hx hZ hown (hw _ (List.mem_of_getElem? (i := 65) rfl)) (hw _ (List.mem_of_getElem? (i := 66) rfl)) (notFace_of_selects (args := #[]) (mvT hZ (hw _ (List.mem_of_getElem? (i := 68) rfl)))) (hw _ (List.mem_of_getElem? (i := 68) rfl)) (hw _ (List.mem_of_getElem? (i := 67) rfl)) (hw _ (List.mem_of_getElem? (i := 69) rfl)) (hw _ (List.mem_of_getElem? (i := 6) rfl)) (by decide) (rm8g2 l Z a0 hw t1 h60 n0 Z60 gg f72 f76) e60 f67 (argsL := []) (rest := [(.ref t0)]) rfl rfl (by rw [hml]; rfl) (lenOf pd_3g2_1 rfl) (hb hby d3g2_46) (W := 1) (Nat.le_of_eq rfl) (by decide) (by decide) (by decide) (by decide) ?_
  rintro v78 T78 L78 X78 ⟨rfl, M78, e78⟩
  have N78 := Fr.app N60 M78
  show own_Fin _ _ _ _ _ _ _ (T78.setTop (mkF m 49 #[.val (.ref t0), .val (.ref t1)] [(.int (12 : Int32)), (.ref t0)]))
  refine own_newJ X78 hx hZ (hw _ (List.mem_of_getElem? (i := 70) rfl)) e78 (hb hby d3g2_49) (by decide) (cap := 12) (by decide) (by decide) (by decide) (by decide) ?_
  intro T79 h79 b79 g79 X79 e79 E79 A79 D79
  have g_b79 : n0 ≤ b79 := Nat.le_trans Z60 (Nat.le_of_eq g79.symm)
  have ne_t0_b79 : t0 ≠ b79 := Nat.ne_of_lt (Nat.lt_of_lt_of_le f61.lt (Nat.le_of_eq g79.symm))
  have ne_t1_b79 : t1 ≠ b79 := Nat.ne_of_lt (Nat.lt_of_lt_of_le f67.lt (Nat.le_of_eq g79.symm))
  have ne_bR_b79 : bR ≠ b79 := Nat.ne_of_lt (Nat.lt_of_lt_of_le f73.lt (Nat.le_of_eq g79.symm))
  have ne_bC_b79 : bC ≠ b79 := Nat.ne_of_lt (Nat.lt_of_lt_of_le f74.lt (Nat.le_of_eq g79.symm))
  have ne_bB_b79 : bB ≠ b79 := Nat.ne_of_lt (Nat.lt_of_lt_of_le f75.lt (Nat.le_of_eq g79.symm))
  have ne_gg_b79 : gg ≠ b79 := Nat.ne_of_lt (Nat.lt_of_lt_of_le f76.lt (Nat.le_of_eq g79.symm))
  have f80 := f61.ext E79
  have f81 := f62.ext E79
  have f82 := f63.ext E79
  have f83 := f64.ext E79
  have f84 := f77.ext E79
  have f85 := f66.ext E79
  have f86 := f67.ext E79
  have f87 := f68.ext E79
  have f88 := f69.ext E79
  have f89 := f70.ext E79
  have f90 := f71.ext E79
  have f91 := f72.ext E79
  have f92 := f73.ext E79
  have f93 := f74.ext E79
  have f94 := f75.ext E79
  have f95 := f76.ext E79
  have Z79 := Nat.le_trans Z60 E79.1
  have sz_b79 : h0.size ≤ b79 := Nat.le_trans K60.1 (Nat.le_of_eq g79.symm)
  have K79 := K60.ext E79
  have A79 : own_Ar Z h79 b79 .long (List.map Value.long (List.replicate 12 (0 : Int64))) := A79
  show own_Fin _ _ _ _ _ _ _ (T79.setTop (mkF m 51 #[.val (.ref t0), .val (.ref t1)] [(.ref b79), (.ref t0)]))
  refine own_putF X79 hx hZ hown (host := "") (Or.inl (hw _ (List.mem_of_getElem? (i := 71) rfl))) Via.refl e79 f85 f80 (Or.inr ⟨(hw _ (List.mem_of_getElem? (i := 72) rfl)), rfl, hnm⟩) (hw _ (List.mem_of_getElem? (i := 2) rfl)) (ty := (.array .long)) (by decide) rfl rfl (hb hby d3g2_51) ?_
  intro T96 h96 X96 e96 W96
  have f97 := f80.wr W96
  have f98 := f81.other W96 (Or.inr (slot_ne (Or.inr (hw _ (List.mem_of_getElem? (i := 42) rfl))) (Or.inr (hw _ (List.mem_of_getElem? (i := 72) rfl))) (by decide) (t := (.array .int)) (t' := (.array .long)) (by decide) (by decide)))
  have f99 := f82.other W96 (Or.inr (slot_ne (Or.inr (hw _ (List.mem_of_getElem? (i := 49) rfl))) (Or.inr (hw _ (List.mem_of_getElem? (i := 72) rfl))) (by decide) (t := (.array .int)) (t' := (.array .long)) (by decide) (by decide)))
  have f100 := f83.other W96 (Or.inr (slot_ne (Or.inr (hw _ (List.mem_of_getElem? (i := 56) rfl))) (Or.inr (hw _ (List.mem_of_getElem? (i := 72) rfl))) (by decide) (t := (.array .int)) (t' := (.array .long)) (by decide) (by decide)))
  have f101 := f84.other W96 (Or.inr (slot_ne (Or.inr (hw _ (List.mem_of_getElem? (i := 64) rfl))) (Or.inr (hw _ (List.mem_of_getElem? (i := 72) rfl))) (by decide) (t := .long) (t' := (.array .long)) (by decide) (by decide)))
  have f103 := f86.wr W96
  have f104 := f87.other W96 (Or.inl (Ne.symm n01))
  have f105 := f88.other W96 (Or.inl (Ne.symm n01))
  have f106 := f89.other W96 (Or.inl (Ne.symm n01))
  have f107 := f90.other W96 (Or.inl (Ne.symm n01))
  have f108 := f91.other W96 (Or.inl (Ne.symm n01))
  have f109 := f92.other W96 (Ne.symm n0bR)
  have f110 := f93.other W96 (Ne.symm n0bC)
  have f111 := f94.other W96 (Ne.symm n0bB)
  have f112 := f95.other W96 (Ne.symm n0gg)
  have f113 := A79.other W96 (Ne.symm ne_t0_b79)
  have f114 := D79.wr W96
  have Z96 := Nat.le_trans Z79 (Keep.of_wr W96).1
  have K96 := K79.wr W96 (Or.inl (List.mem_of_getElem? (i := 0) rfl))
  have f115 := f85.same W96
  have N96 := Fr.snoc X96 N78 g_t0
  show own_Fin _ _ _ _ _ _ _ (T96.setTop (mkF m 54 #[.val (.ref t0), .val (.ref t1)] []))
  exact own_retV X96 hx hlk hret (hb hby d3g2_54) (by decide) (by decide) (by rw [e96]; exact ⟨rfl, N96, K96, b79, sz_b79, f98, f99, f100, f101, f115, f113⟩)

def own_upd (hs : List Int64) (u : Int32) (b : Int64) : List Int64 := List.set hs (u).toNatClampNeg (List.getD hs (u).toNatClampNeg 0 ||| b)
theorem own_updlen (hs : List Int64) (u : Int32) (b : Int64) : (own_upd hs u b).length = hs.length := by simp [own_upd]

def own_pl2 (hs : List Int64) (cell : Int32) (b : Int64) : List Int64 := own_upd (own_upd (own_upd hs (own_fR2 (cell).toNatClampNeg) b) (own_fC2 (cell).toNatClampNeg) b) (own_fB2 (cell).toNatClampNeg) b
theorem own_pllen2 (hs : List Int64) (cell : Int32) (b : Int64) : (own_pl2 hs cell b).length = hs.length := by simp only [own_pl2, own_updlen]
def own_QP2 (Z : State) (hd : Addr) (hs : List Int64) (h0 : Heap) (n0 : Nat) (v : Option Value) (h : Heap) (L : List Loc) : Prop := v = none ∧ Fr n0 L ∧ Keep h0 h [hd] ∧ own_Ar Z h hd .long (hs.map Value.long)
theorem d9g2_0 : decode prog_24_method_6_code 0 = .ok (.lconst 1, 1) := by decide +kernel
theorem d9g2_1 : decode prog_24_method_6_code 1 = .ok (.iload_n 2, 1) := by decide +kernel
theorem d9g2_2 : decode prog_24_method_6_code 2 = .ok (.lshl, 1) := by decide +kernel
theorem d9g2_3 : decode prog_24_method_6_code 3 = .ok (.lstore_n 3, 1) := by decide +kernel
theorem d9g2_4 : decode prog_24_method_6_code 4 = .ok (.aload_n 0, 1) := by decide +kernel
theorem d9g2_5 : decode prog_24_method_6_code 5 = .ok (.getfield 47, 3) := by decide +kernel
theorem d9g2_8 : decode prog_24_method_6_code 8 = .ok (.aload_n 0, 1) := by decide +kernel
theorem d9g2_9 : decode prog_24_method_6_code 9 = .ok (.getfield 21, 3) := by decide +kernel
theorem d9g2_12 : decode prog_24_method_6_code 12 = .ok (.iload_n 1, 1) := by decide +kernel
theorem d9g2_13 : decode prog_24_method_6_code 13 = .ok (.iaload, 1) := by decide +kernel
theorem d9g2_14 : decode prog_24_method_6_code 14 = .ok (.dup2, 1) := by decide +kernel
theorem d9g2_15 : decode prog_24_method_6_code 15 = .ok (.laload, 1) := by decide +kernel
theorem d9g2_16 : decode prog_24_method_6_code 16 = .ok (.lload_n 3, 1) := by decide +kernel
theorem d9g2_17 : decode prog_24_method_6_code 17 = .ok (.lor, 1) := by decide +kernel
theorem d9g2_18 : decode prog_24_method_6_code 18 = .ok (.lastore, 1) := by decide +kernel
theorem d9g2_19 : decode prog_24_method_6_code 19 = .ok (.aload_n 0, 1) := by decide +kernel
theorem d9g2_20 : decode prog_24_method_6_code 20 = .ok (.getfield 47, 3) := by decide +kernel
theorem d9g2_23 : decode prog_24_method_6_code 23 = .ok (.aload_n 0, 1) := by decide +kernel
theorem d9g2_24 : decode prog_24_method_6_code 24 = .ok (.getfield 27, 3) := by decide +kernel
theorem d9g2_27 : decode prog_24_method_6_code 27 = .ok (.iload_n 1, 1) := by decide +kernel
theorem d9g2_28 : decode prog_24_method_6_code 28 = .ok (.iaload, 1) := by decide +kernel
theorem d9g2_29 : decode prog_24_method_6_code 29 = .ok (.dup2, 1) := by decide +kernel
theorem d9g2_30 : decode prog_24_method_6_code 30 = .ok (.laload, 1) := by decide +kernel
theorem d9g2_31 : decode prog_24_method_6_code 31 = .ok (.lload_n 3, 1) := by decide +kernel
theorem d9g2_32 : decode prog_24_method_6_code 32 = .ok (.lor, 1) := by decide +kernel
theorem d9g2_33 : decode prog_24_method_6_code 33 = .ok (.lastore, 1) := by decide +kernel
theorem d9g2_34 : decode prog_24_method_6_code 34 = .ok (.aload_n 0, 1) := by decide +kernel
theorem d9g2_35 : decode prog_24_method_6_code 35 = .ok (.getfield 47, 3) := by decide +kernel
theorem d9g2_38 : decode prog_24_method_6_code 38 = .ok (.aload_n 0, 1) := by decide +kernel
theorem d9g2_39 : decode prog_24_method_6_code 39 = .ok (.getfield 32, 3) := by decide +kernel
theorem d9g2_42 : decode prog_24_method_6_code 42 = .ok (.iload_n 1, 1) := by decide +kernel
theorem d9g2_43 : decode prog_24_method_6_code 43 = .ok (.iaload, 1) := by decide +kernel
theorem d9g2_44 : decode prog_24_method_6_code 44 = .ok (.dup2, 1) := by decide +kernel
theorem d9g2_45 : decode prog_24_method_6_code 45 = .ok (.laload, 1) := by decide +kernel
theorem d9g2_46 : decode prog_24_method_6_code 46 = .ok (.lload_n 3, 1) := by decide +kernel
theorem d9g2_47 : decode prog_24_method_6_code 47 = .ok (.lor, 1) := by decide +kernel
theorem d9g2_48 : decode prog_24_method_6_code 48 = .ok (.lastore, 1) := by decide +kernel
theorem d9g2_49 : decode prog_24_method_6_code 49 = .ok (.return_, 1) := by decide +kernel
theorem pn_9g2 : plainFor (⟨"com/example/onda/onda/sudoku/Units", "place", "(II)V"⟩ : MethodName) = true := plainFor_of_name (by show plainName "com/example/onda/onda/sudoku/Units" = true; first | (simp [plainName, overriddenIn]; done) | decide +kernel)
theorem ef_9g2 (m : MethodId) (x0 : Addr) (x1 : Int32) (x2 : Int32) : entryFrame m #[(.ref x0), (.int x1), (.int x2)] 5 = mkF m 0 #[.val (.ref x0), .val (.int x1), .val (.int x2), .unset, .unset] [] := by first | (simp [entryFrame, mkF, argsToLocals, Value.category]; done) | rfl
set_option maxRecDepth 65536 in
set_option maxHeartbeats 40000000 in
theorem rm9g2 (l : Launch) (Z : State) (a0 : Array Value) (hw : ∀ d ∈ tables_1, d.before a0 Z = true) (t0 : Addr) (p1 : Int32) (p2 : Int32) (h0 : Heap) (n0 : Nat) (Z0 : n0 ≤ h0.size) (bR bC bB hd : Addr) (hs : List Int64) (F_rowOf : Fld Z h0 t0 "com/example/onda/onda/sudoku/Units" "rowOf" "[I" (.ref bR)) (F_columnOf : Fld Z h0 t0 "com/example/onda/onda/sudoku/Units" "columnOf" "[I" (.ref bC)) (F_boxOf : Fld Z h0 t0 "com/example/onda/onda/sudoku/Units" "boxOf" "[I" (.ref bB)) (F_held : Fld Z h0 t0 "com/example/onda/onda/sudoku/Units" "held" "[J" (.ref hd)) (VR : own_Ar Z h0 bR .int ((own_L own_fR2 16 16).map Value.int)) (VC : own_Ar Z h0 bC .int ((own_L own_fC2 16 16).map Value.int)) (VB : own_Ar Z h0 bB .int ((own_L own_fB2 16 16).map Value.int)) (VH : own_Ar Z h0 hd .long (hs.map Value.long)) (hl : hs.length = 12) (nt0 : t0 ≠ hd) (nbR : bR ≠ hd) (nbC : bC ≠ hd) (nbB : bB ≠ hd) (g_hd : n0 ≤ hd) (hj : ¬ p1 < 0) (hi : p1.toNatClampNeg < 16) :
    own_Met l (⟨"com/example/onda/onda/sudoku/Units", "place", "(II)V"⟩ : MethodName) prog_24_method_6_code 5 none ({ frames := 0, cells := 0, slots := 0, locals := 0 } : Room) Z [] #[(.ref t0), (.int p1), (.int p2)] h0 (own_QP2 Z hd (own_pl2 hs p1 ((1 : Int64) <<< (p2 &&& 0x3f).toInt64)) h0 n0) := by
  refine own_enter pn_9g2 ?_
  intro p e s m below meth c s₁ hx hby hml hown hnm hret hlk hZ e0 X0
  rw [ef_9g2]
  have N0 := Fr.nil n0
  show own_Fin _ _ _ _ _ _ _ (s₁.setTop (mkF m 0 #[.val (.ref t0), .val (.int p1), .val (.int p2), .unset, .unset] []))
  refine own_go (fun _ kk => XS.lconst X0.here hx rfl (hb hby d9g2_0) (XS.iloadN X0.here hx rfl (hb hby d9g2_1) rfl (XS.lshl X0.here hx rfl (hb hby d9g2_2) rfl (XS.lstoreN X0.here hx rfl (hb hby d9g2_3) rfl (l' := #[.val (.ref t0), .val (.int p1), .val (.int p2), .val (.long ((1 : Int64) <<< (p2 &&& 0x3f).toInt64)), .second]) rfl kk)))) ?_
  show own_Fin _ _ _ _ _ _ _ (s₁.setTop (mkF m 4 #[.val (.ref t0), .val (.int p1), .val (.int p2), .val (.long ((1 : Int64) <<< (p2 &&& 0x3f).toInt64)), .second] []))
  generalize hbit : ((1 : Int64) <<< (p2 &&& 0x3f).toInt64) = bit
  show own_Fin _ _ _ _ _ _ _ (s₁.setTop (mkF m 4 #[.val (.ref t0), .val (.int p1), .val (.int p2), .val (.long bit), .second] []))
  refine own_go (fun _ kk => XS.aloadN X0.here hx rfl (hb hby d9g2_4) rfl rfl kk) ?_
  show own_Fin _ _ _ _ _ _ _ (s₁.setTop (mkF m 5 #[.val (.ref t0), .val (.int p1), .val (.int p2), .val (.long bit), .second] [(.ref t0)]))
  refine own_getF X0 hx hZ hown (host := "") (Or.inl (hw _ (List.mem_of_getElem? (i := 71) rfl))) Via.refl e0 F_held (hb hby d9g2_5) ?_
  intro T1 X1 e1
  show own_Fin _ _ _ _ _ _ _ (T1.setTop (mkF m 8 #[.val (.ref t0), .val (.int p1), .val (.int p2), .val (.long bit), .second] [(.ref hd)]))
  refine own_go (fun _ kk => XS.aloadN X1.here hx rfl (hb hby d9g2_8) rfl rfl kk) ?_
  show own_Fin _ _ _ _ _ _ _ (T1.setTop (mkF m 9 #[.val (.ref t0), .val (.int p1), .val (.int p2), .val (.long bit), .second] [(.ref t0), (.ref hd)]))
  refine own_getF X1 hx hZ hown (host := "") (Or.inl (hw _ (List.mem_of_getElem? (i := 41) rfl))) Via.refl e1 F_rowOf (hb hby d9g2_9) ?_
  intro T2 X2 e2
  show own_Fin _ _ _ _ _ _ _ (T2.setTop (mkF m 12 #[.val (.ref t0), .val (.int p1), .val (.int p2), .val (.long bit), .second] [(.ref bR), (.ref hd)]))
  refine own_go (fun _ kk => XS.iloadN X2.here hx rfl (hb hby d9g2_12) rfl kk) ?_
  show own_Fin _ _ _ _ _ _ _ (T2.setTop (mkF m 13 #[.val (.ref t0), .val (.int p1), .val (.int p2), .val (.long bit), .second] [(.int p1), (.ref bR), (.ref hd)]))
  refine own_ldI X2 hx hZ e2 VR hj (by rw [own_Llen]; exact hi) (hb hby d9g2_13) ?_
  show own_Fin _ _ _ _ _ _ _ (T2.setTop (mkF m 14 #[.val (.ref t0), .val (.int p1), .val (.int p2), .val (.long bit), .second] [(.int (List.getD (own_L own_fR2 16 16) (p1).toNatClampNeg 0)), (.ref hd)]))
  rw [own_LgetK (f := own_fR2) hi (Nat.le_refl _)]
  show own_Fin _ _ _ _ _ _ _ (T2.setTop (mkF m 14 #[.val (.ref t0), .val (.int p1), .val (.int p2), .val (.long bit), .second] [(.int (own_fR2 (p1).toNatClampNeg)), (.ref hd)]))
  refine own_go (fun _ kk => XT.dup2 X2.here hx rfl (hb hby d9g2_14) rfl rfl rfl kk) ?_
  show own_Fin _ _ _ _ _ _ _ (T2.setTop (mkF m 15 #[.val (.ref t0), .val (.int p1), .val (.int p2), .val (.long bit), .second] [(.int (own_fR2 (p1).toNatClampNeg)), (.ref hd), (.int (own_fR2 (p1).toNatClampNeg)), (.ref hd)]))
  refine own_ldJ X2 hx hZ e2 VH (own_bd2 _ hi).1.1 (by rw [hl]; exact (own_bd2 _ hi).1.2) (hb hby d9g2_15) ?_
  show own_Fin _ _ _ _ _ _ _ (T2.setTop (mkF m 16 #[.val (.ref t0), .val (.int p1), .val (.int p2), .val (.long bit), .second] [(.long (List.getD hs ((own_fR2 (p1).toNatClampNeg)).toNatClampNeg 0)), (.int (own_fR2 (p1).toNatClampNeg)), (.ref hd)]))
  refine own_go (fun _ kk => XS.lloadN X2.here hx rfl (hb hby d9g2_16) rfl (XS.lor X2.here hx rfl (hb hby d9g2_17) rfl kk)) ?_
  show own_Fin _ _ _ _ _ _ _ (T2.setTop (mkF m 18 #[.val (.ref t0), .val (.int p1), .val (.int p2), .val (.long bit), .second] [(.long ((List.getD hs ((own_fR2 (p1).toNatClampNeg)).toNatClampNeg 0) ||| bit)), (.int (own_fR2 (p1).toNatClampNeg)), (.ref hd)]))
  refine own_stJ X2 hx hZ e2 VH (own_bd2 _ hi).1.1 (by rw [hl]; exact (own_bd2 _ hi).1.2) (hb hby d9g2_18) ?_
  intro T3 h3 X3 e3 W3 A3
  have f4 := F_rowOf.other W3 (Or.inl nt0)
  have f5 := F_columnOf.other W3 (Or.inl nt0)
  have f6 := F_boxOf.other W3 (Or.inl nt0)
  have f7 := F_held.other W3 (Or.inl nt0)
  have f8 := VR.other W3 nbR
  have f9 := VC.other W3 nbC
  have f10 := VB.other W3 nbB
  have Z3 := Nat.le_trans Z0 (Keep.of_wr W3).1
  have K3 := (Keep.refl h0 [hd]).wr W3 (Or.inl (List.mem_of_getElem? (i := 0) rfl))
  have N3 := Fr.snoc X3 N0 g_hd
  show own_Fin _ _ _ _ _ _ _ (T3.setTop (mkF m 19 #[.val (.ref t0), .val (.int p1), .val (.int p2), .val (.long bit), .second] []))
  have UA3 : own_Ar Z h3 hd .long (List.map Value.long (own_upd hs (own_fR2 (p1).toNatClampNeg) bit)) := A3
  refine own_go (fun _ kk => XS.aloadN X3.here hx rfl (hb hby d9g2_19) rfl rfl kk) ?_
  show own_Fin _ _ _ _ _ _ _ (T3.setTop (mkF m 20 #[.val (.ref t0), .val (.int p1), .val (.int p2), .val (.long bit), .second] [(.ref t0)]))
  refine own_getF X3 hx hZ hown (host := "") (Or.inl (hw _ (List.mem_of_getElem? (i := 71) rfl))) Via.refl e3 f7 (hb hby d9g2_20) ?_
  intro T12 X12 e12
  show own_Fin _ _ _ _ _ _ _ (T12.setTop (mkF m 23 #[.val (.ref t0), .val (.int p1), .val (.int p2), .val (.long bit), .second] [(.ref hd)]))
  refine own_go (fun _ kk => XS.aloadN X12.here hx rfl (hb hby d9g2_23) rfl rfl kk) ?_
  show own_Fin _ _ _ _ _ _ _ (T12.setTop (mkF m 24 #[.val (.ref t0), .val (.int p1), .val (.int p2), .val (.long bit), .second] [(.ref t0), (.ref hd)]))
  refine own_getF X12 hx hZ hown (host := "") (Or.inl (hw _ (List.mem_of_getElem? (i := 48) rfl))) Via.refl e12 f5 (hb hby d9g2_24) ?_
  intro T13 X13 e13
  show own_Fin _ _ _ _ _ _ _ (T13.setTop (mkF m 27 #[.val (.ref t0), .val (.int p1), .val (.int p2), .val (.long bit), .second] [(.ref bC), (.ref hd)]))
  refine own_go (fun _ kk => XS.iloadN X13.here hx rfl (hb hby d9g2_27) rfl kk) ?_
  show own_Fin _ _ _ _ _ _ _ (T13.setTop (mkF m 28 #[.val (.ref t0), .val (.int p1), .val (.int p2), .val (.long bit), .second] [(.int p1), (.ref bC), (.ref hd)]))
  refine own_ldI X13 hx hZ e13 f9 hj (by rw [own_Llen]; exact hi) (hb hby d9g2_28) ?_
  show own_Fin _ _ _ _ _ _ _ (T13.setTop (mkF m 29 #[.val (.ref t0), .val (.int p1), .val (.int p2), .val (.long bit), .second] [(.int (List.getD (own_L own_fC2 16 16) (p1).toNatClampNeg 0)), (.ref hd)]))
  rw [own_LgetK (f := own_fC2) hi (Nat.le_refl _)]
  show own_Fin _ _ _ _ _ _ _ (T13.setTop (mkF m 29 #[.val (.ref t0), .val (.int p1), .val (.int p2), .val (.long bit), .second] [(.int (own_fC2 (p1).toNatClampNeg)), (.ref hd)]))
  refine own_go (fun _ kk => XT.dup2 X13.here hx rfl (hb hby d9g2_29) rfl rfl rfl kk) ?_
  show own_Fin _ _ _ _ _ _ _ (T13.setTop (mkF m 30 #[.val (.ref t0), .val (.int p1), .val (.int p2), .val (.long bit), .second] [(.int (own_fC2 (p1).toNatClampNeg)), (.ref hd), (.int (own_fC2 (p1).toNatClampNeg)), (.ref hd)]))
  refine own_ldJ X13 hx hZ e13 UA3 (own_bd2 _ hi).2.1.1 (by rw [own_updlen, hl]; exact (own_bd2 _ hi).2.1.2) (hb hby d9g2_30) ?_
  show own_Fin _ _ _ _ _ _ _ (T13.setTop (mkF m 31 #[.val (.ref t0), .val (.int p1), .val (.int p2), .val (.long bit), .second] [(.long (List.getD (own_upd hs (own_fR2 (p1).toNatClampNeg) bit) ((own_fC2 (p1).toNatClampNeg)).toNatClampNeg 0)), (.int (own_fC2 (p1).toNatClampNeg)), (.ref hd)]))
  refine own_go (fun _ kk => XS.lloadN X13.here hx rfl (hb hby d9g2_31) rfl (XS.lor X13.here hx rfl (hb hby d9g2_32) rfl kk)) ?_
  show own_Fin _ _ _ _ _ _ _ (T13.setTop (mkF m 33 #[.val (.ref t0), .val (.int p1), .val (.int p2), .val (.long bit), .second] [(.long ((List.getD (own_upd hs (own_fR2 (p1).toNatClampNeg) bit) ((own_fC2 (p1).toNatClampNeg)).toNatClampNeg 0) ||| bit)), (.int (own_fC2 (p1).toNatClampNeg)), (.ref hd)]))
  refine own_stJ X13 hx hZ e13 UA3 (own_bd2 _ hi).2.1.1 (by rw [own_updlen, hl]; exact (own_bd2 _ hi).2.1.2) (hb hby d9g2_33) ?_
  intro T14 h14 X14 e14 W14 A14
  have f15 := f4.other W14 (Or.inl nt0)
  have f16 := f5.other W14 (Or.inl nt0)
  have f17 := f6.other W14 (Or.inl nt0)
  have f18 := f7.other W14 (Or.inl nt0)
  have f19 := f8.other W14 nbR
  have f20 := f9.other W14 nbC
  have f21 := f10.other W14 nbB
  have Z14 := Nat.le_trans Z3 (Keep.of_wr W14).1
  have K14 := K3.wr W14 (Or.inl (List.mem_of_getElem? (i := 0) rfl))
  have N14 := Fr.snoc X14 N3 g_hd
  show own_Fin _ _ _ _ _ _ _ (T14.setTop (mkF m 34 #[.val (.ref t0), .val (.int p1), .val (.int p2), .val (.long bit), .second] []))
  have UA14 : own_Ar Z h14 hd .long (List.map Value.long (own_upd (own_upd hs (own_fR2 (p1).toNatClampNeg) bit) (own_fC2 (p1).toNatClampNeg) bit)) := A14
  refine own_go (fun _ kk => XS.aloadN X14.here hx rfl (hb hby d9g2_34) rfl rfl kk) ?_
  show own_Fin _ _ _ _ _ _ _ (T14.setTop (mkF m 35 #[.val (.ref t0), .val (.int p1), .val (.int p2), .val (.long bit), .second] [(.ref t0)]))
  refine own_getF X14 hx hZ hown (host := "") (Or.inl (hw _ (List.mem_of_getElem? (i := 71) rfl))) Via.refl e14 f18 (hb hby d9g2_35) ?_
  intro T23 X23 e23
  show own_Fin _ _ _ _ _ _ _ (T23.setTop (mkF m 38 #[.val (.ref t0), .val (.int p1), .val (.int p2), .val (.long bit), .second] [(.ref hd)]))
  refine own_go (fun _ kk => XS.aloadN X23.here hx rfl (hb hby d9g2_38) rfl rfl kk) ?_
  show own_Fin _ _ _ _ _ _ _ (T23.setTop (mkF m 39 #[.val (.ref t0), .val (.int p1), .val (.int p2), .val (.long bit), .second] [(.ref t0), (.ref hd)]))
  refine own_getF X23 hx hZ hown (host := "") (Or.inl (hw _ (List.mem_of_getElem? (i := 55) rfl))) Via.refl e23 f17 (hb hby d9g2_39) ?_
  intro T24 X24 e24
  show own_Fin _ _ _ _ _ _ _ (T24.setTop (mkF m 42 #[.val (.ref t0), .val (.int p1), .val (.int p2), .val (.long bit), .second] [(.ref bB), (.ref hd)]))
  refine own_go (fun _ kk => XS.iloadN X24.here hx rfl (hb hby d9g2_42) rfl kk) ?_
  show own_Fin _ _ _ _ _ _ _ (T24.setTop (mkF m 43 #[.val (.ref t0), .val (.int p1), .val (.int p2), .val (.long bit), .second] [(.int p1), (.ref bB), (.ref hd)]))
  refine own_ldI X24 hx hZ e24 f21 hj (by rw [own_Llen]; exact hi) (hb hby d9g2_43) ?_
  show own_Fin _ _ _ _ _ _ _ (T24.setTop (mkF m 44 #[.val (.ref t0), .val (.int p1), .val (.int p2), .val (.long bit), .second] [(.int (List.getD (own_L own_fB2 16 16) (p1).toNatClampNeg 0)), (.ref hd)]))
  rw [own_LgetK (f := own_fB2) hi (Nat.le_refl _)]
  show own_Fin _ _ _ _ _ _ _ (T24.setTop (mkF m 44 #[.val (.ref t0), .val (.int p1), .val (.int p2), .val (.long bit), .second] [(.int (own_fB2 (p1).toNatClampNeg)), (.ref hd)]))
  refine own_go (fun _ kk => XT.dup2 X24.here hx rfl (hb hby d9g2_44) rfl rfl rfl kk) ?_
  show own_Fin _ _ _ _ _ _ _ (T24.setTop (mkF m 45 #[.val (.ref t0), .val (.int p1), .val (.int p2), .val (.long bit), .second] [(.int (own_fB2 (p1).toNatClampNeg)), (.ref hd), (.int (own_fB2 (p1).toNatClampNeg)), (.ref hd)]))
  refine own_ldJ X24 hx hZ e24 UA14 (own_bd2 _ hi).2.2.1.1 (by rw [own_updlen, own_updlen, hl]; exact (own_bd2 _ hi).2.2.1.2) (hb hby d9g2_45) ?_
  show own_Fin _ _ _ _ _ _ _ (T24.setTop (mkF m 46 #[.val (.ref t0), .val (.int p1), .val (.int p2), .val (.long bit), .second] [(.long (List.getD (own_upd (own_upd hs (own_fR2 (p1).toNatClampNeg) bit) (own_fC2 (p1).toNatClampNeg) bit) ((own_fB2 (p1).toNatClampNeg)).toNatClampNeg 0)), (.int (own_fB2 (p1).toNatClampNeg)), (.ref hd)]))
  refine own_go (fun _ kk => XS.lloadN X24.here hx rfl (hb hby d9g2_46) rfl (XS.lor X24.here hx rfl (hb hby d9g2_47) rfl kk)) ?_
  show own_Fin _ _ _ _ _ _ _ (T24.setTop (mkF m 48 #[.val (.ref t0), .val (.int p1), .val (.int p2), .val (.long bit), .second] [(.long ((List.getD (own_upd (own_upd hs (own_fR2 (p1).toNatClampNeg) bit) (own_fC2 (p1).toNatClampNeg) bit) ((own_fB2 (p1).toNatClampNeg)).toNatClampNeg 0) ||| bit)), (.int (own_fB2 (p1).toNatClampNeg)), (.ref hd)]))
  refine own_stJ X24 hx hZ e24 UA14 (own_bd2 _ hi).2.2.1.1 (by rw [own_updlen, own_updlen, hl]; exact (own_bd2 _ hi).2.2.1.2) (hb hby d9g2_48) ?_
  intro T25 h25 X25 e25 W25 A25
  have f26 := f15.other W25 (Or.inl nt0)
  have f27 := f16.other W25 (Or.inl nt0)
  have f28 := f17.other W25 (Or.inl nt0)
  have f29 := f18.other W25 (Or.inl nt0)
  have f30 := f19.other W25 nbR
  have f31 := f20.other W25 nbC
  have f32 := f21.other W25 nbB
  have Z25 := Nat.le_trans Z14 (Keep.of_wr W25).1
  have K25 := K14.wr W25 (Or.inl (List.mem_of_getElem? (i := 0) rfl))
  have N25 := Fr.snoc X25 N14 g_hd
  show own_Fin _ _ _ _ _ _ _ (T25.setTop (mkF m 49 #[.val (.ref t0), .val (.int p1), .val (.int p2), .val (.long bit), .second] []))
  have UA25 : own_Ar Z h25 hd .long (List.map Value.long (own_upd (own_upd (own_upd hs (own_fR2 (p1).toNatClampNeg) bit) (own_fC2 (p1).toNatClampNeg) bit) (own_fB2 (p1).toNatClampNeg) bit)) := A25
  exact own_retV X25 hx hlk hret (hb hby d9g2_49) (by decide) (by decide) (by rw [e25]; exact ⟨rfl, N25, K25, UA25⟩)

theorem d13g2_0 : decode prog_24_method_3_code 0 = .ok (.aload_n 0, 1) := by decide +kernel
theorem d13g2_1 : decode prog_24_method_3_code 1 = .ok (.getfield 47, 3) := by decide +kernel
theorem d13g2_4 : decode prog_24_method_3_code 4 = .ok (.aload_n 0, 1) := by decide +kernel
theorem d13g2_5 : decode prog_24_method_3_code 5 = .ok (.getfield 21, 3) := by decide +kernel
theorem d13g2_8 : decode prog_24_method_3_code 8 = .ok (.iload_n 1, 1) := by decide +kernel
theorem d13g2_9 : decode prog_24_method_3_code 9 = .ok (.iaload, 1) := by decide +kernel
theorem d13g2_10 : decode prog_24_method_3_code 10 = .ok (.laload, 1) := by decide +kernel
theorem d13g2_11 : decode prog_24_method_3_code 11 = .ok (.lconst 1, 1) := by decide +kernel
theorem d13g2_12 : decode prog_24_method_3_code 12 = .ok (.iload_n 2, 1) := by decide +kernel
theorem d13g2_13 : decode prog_24_method_3_code 13 = .ok (.lshl, 1) := by decide +kernel
theorem d13g2_14 : decode prog_24_method_3_code 14 = .ok (.land, 1) := by decide +kernel
theorem d13g2_15 : decode prog_24_method_3_code 15 = .ok (.lconst 0, 1) := by decide +kernel
theorem d13g2_16 : decode prog_24_method_3_code 16 = .ok (.lcmp, 1) := by decide +kernel
theorem d13g2_17 : decode prog_24_method_3_code 17 = .ok (.ifCond .eq 7, 3) := by decide +kernel
theorem d13g2_20 : decode prog_24_method_3_code 20 = .ok (.iconst 1, 1) := by decide +kernel
theorem d13g2_21 : decode prog_24_method_3_code 21 = .ok (.goto 4, 3) := by decide +kernel
theorem d13g2_24 : decode prog_24_method_3_code 24 = .ok (.iconst 0, 1) := by decide +kernel
theorem d13g2_25 : decode prog_24_method_3_code 25 = .ok (.ireturn, 1) := by decide +kernel
theorem pn_13g2 : plainFor (⟨"com/example/onda/onda/sudoku/Units", "rowHolds", "(II)Z"⟩ : MethodName) = true := plainFor_of_name (by show plainName "com/example/onda/onda/sudoku/Units" = true; first | (simp [plainName, overriddenIn]; done) | decide +kernel)
theorem ef_13g2 (m : MethodId) (x0 : Addr) (x1 : Int32) (x2 : Int32) : entryFrame m #[(.ref x0), (.int x1), (.int x2)] 3 = mkF m 0 #[.val (.ref x0), .val (.int x1), .val (.int x2)] [] := by first | (simp [entryFrame, mkF, argsToLocals, Value.category]; done) | rfl
def own_f13g2 (hs : List Int64) (p1 : Int32) (p2 : Int32) : Int32 :=
  if ((List.getD hs ((own_fR2 (p1).toNatClampNeg)).toNatClampNeg 0) &&& ((1 : Int64) <<< (p2 &&& 0x3f).toInt64)) = (0 : Int64) then
    (0 : Int32)
  else
    (1 : Int32)
set_option maxRecDepth 65536 in
set_option maxHeartbeats 40000000 in
theorem rm13g2 (l : Launch) (Z : State) (a0 : Array Value) (hw : ∀ d ∈ tables_1, d.before a0 Z = true) (t0 : Addr) (p1 : Int32) (p2 : Int32) (h0 : Heap) (n0 : Nat) (Z0 : n0 ≤ h0.size) (bR bC bB hd : Addr) (hs : List Int64) (F_rowOf : Fld Z h0 t0 "com/example/onda/onda/sudoku/Units" "rowOf" "[I" (.ref bR)) (F_columnOf : Fld Z h0 t0 "com/example/onda/onda/sudoku/Units" "columnOf" "[I" (.ref bC)) (F_boxOf : Fld Z h0 t0 "com/example/onda/onda/sudoku/Units" "boxOf" "[I" (.ref bB)) (F_held : Fld Z h0 t0 "com/example/onda/onda/sudoku/Units" "held" "[J" (.ref hd)) (VR : own_Ar Z h0 bR .int ((own_L own_fR2 16 16).map Value.int)) (VC : own_Ar Z h0 bC .int ((own_L own_fC2 16 16).map Value.int)) (VB : own_Ar Z h0 bB .int ((own_L own_fB2 16 16).map Value.int)) (VH : own_Ar Z h0 hd .long (hs.map Value.long)) (hl : hs.length = 12) (hj : ¬ p1 < 0) (hi : p1.toNatClampNeg < 16) :
    own_Met l (⟨"com/example/onda/onda/sudoku/Units", "rowHolds", "(II)Z"⟩ : MethodName) prog_24_method_3_code 3 (some .boolean) ({ frames := 0, cells := 0, slots := 0, locals := 0 } : Room) Z [] #[(.ref t0), (.int p1), (.int p2)] h0 (own_P (some (.int (own_f13g2 hs p1 p2))) h0 n0) := by
  refine own_enter pn_13g2 ?_
  intro p e s m below meth c s₁ hx hby hml hown hnm hret hlk hZ e0 X0
  rw [ef_13g2]
  have N0 := Fr.nil n0
  show own_Fin _ _ _ _ _ _ _ (s₁.setTop (mkF m 0 #[.val (.ref t0), .val (.int p1), .val (.int p2)] []))
  refine own_go (fun _ kk => XS.aloadN X0.here hx rfl (hb hby d13g2_0) rfl rfl kk) ?_
  show own_Fin _ _ _ _ _ _ _ (s₁.setTop (mkF m 1 #[.val (.ref t0), .val (.int p1), .val (.int p2)] [(.ref t0)]))
  refine own_getF X0 hx hZ hown (host := "") (Or.inl (hw _ (List.mem_of_getElem? (i := 71) rfl))) Via.refl e0 F_held (hb hby d13g2_1) ?_
  intro T1 X1 e1
  show own_Fin _ _ _ _ _ _ _ (T1.setTop (mkF m 4 #[.val (.ref t0), .val (.int p1), .val (.int p2)] [(.ref hd)]))
  refine own_go (fun _ kk => XS.aloadN X1.here hx rfl (hb hby d13g2_4) rfl rfl kk) ?_
  show own_Fin _ _ _ _ _ _ _ (T1.setTop (mkF m 5 #[.val (.ref t0), .val (.int p1), .val (.int p2)] [(.ref t0), (.ref hd)]))
  refine own_getF X1 hx hZ hown (host := "") (Or.inl (hw _ (List.mem_of_getElem? (i := 41) rfl))) Via.refl e1 F_rowOf (hb hby d13g2_5) ?_
  intro T2 X2 e2
  show own_Fin _ _ _ _ _ _ _ (T2.setTop (mkF m 8 #[.val (.ref t0), .val (.int p1), .val (.int p2)] [(.ref bR), (.ref hd)]))
  refine own_go (fun _ kk => XS.iloadN X2.here hx rfl (hb hby d13g2_8) rfl kk) ?_
  show own_Fin _ _ _ _ _ _ _ (T2.setTop (mkF m 9 #[.val (.ref t0), .val (.int p1), .val (.int p2)] [(.int p1), (.ref bR), (.ref hd)]))
  refine own_ldI X2 hx hZ e2 VR hj (by rw [own_Llen]; exact hi) (hb hby d13g2_9) ?_
  show own_Fin _ _ _ _ _ _ _ (T2.setTop (mkF m 10 #[.val (.ref t0), .val (.int p1), .val (.int p2)] [(.int (List.getD (own_L own_fR2 16 16) (p1).toNatClampNeg 0)), (.ref hd)]))
  rw [own_LgetK (f := own_fR2) hi (Nat.le_refl _)]
  show own_Fin _ _ _ _ _ _ _ (T2.setTop (mkF m 10 #[.val (.ref t0), .val (.int p1), .val (.int p2)] [(.int (own_fR2 (p1).toNatClampNeg)), (.ref hd)]))
  refine own_ldJ X2 hx hZ e2 VH (own_bd2 _ hi).1.1 (by rw [hl]; exact (own_bd2 _ hi).1.2) (hb hby d13g2_10) ?_
  show own_Fin _ _ _ _ _ _ _ (T2.setTop (mkF m 11 #[.val (.ref t0), .val (.int p1), .val (.int p2)] [(.long (List.getD hs ((own_fR2 (p1).toNatClampNeg)).toNatClampNeg 0))]))
  refine own_go (fun _ kk => XS.lconst X2.here hx rfl (hb hby d13g2_11) (XS.iloadN X2.here hx rfl (hb hby d13g2_12) rfl (XS.lshl X2.here hx rfl (hb hby d13g2_13) rfl (XS.land X2.here hx rfl (hb hby d13g2_14) rfl (XS.lconst X2.here hx rfl (hb hby d13g2_15) (XT.lcmp X2.here hx rfl (hb hby d13g2_16) rfl kk)))))) ?_
  show own_Fin _ _ _ _ _ _ _ (T2.setTop (mkF m 17 #[.val (.ref t0), .val (.int p1), .val (.int p2)] [(.int (XT.cmpL ((List.getD hs ((own_fR2 (p1).toNatClampNeg)).toNatClampNeg 0) &&& ((1 : Int64) <<< (p2 &&& 0x3f).toInt64)) (0 : Int64)))]))
  by_cases hc17 : ((List.getD hs ((own_fR2 (p1).toNatClampNeg)).toNatClampNeg 0) &&& ((1 : Int64) <<< (p2 &&& 0x3f).toInt64)) = (0 : Int64)
  · refine own_go (fun _ kk => XS.ifYes X2.here hx rfl (pc0 := 17) (pc' := 24) rfl (hb hby d13g2_17) rfl (XT.ll_eq_t hc17) (by decide) (by decide) (XS.iconst X2.here hx rfl (hb hby d13g2_24) kk)) ?_
    show own_Fin _ _ _ _ _ _ _ (T2.setTop (mkF m 25 #[.val (.ref t0), .val (.int p1), .val (.int p2)] [(.int (0 : Int32))]))
    exact own_retZ X2 hx hlk hret rfl (hb hby d13g2_25) (by decide) (by decide) ⟨(by rw [own_f13g2, if_pos hc17]), N0, e2⟩
  · refine own_go (fun _ kk => XS.ifNo X2.here hx rfl (hb hby d13g2_17) rfl (XT.ll_eq_f hc17) (XS.iconst X2.here hx rfl (hb hby d13g2_20) (XS.goto X2.here hx rfl (pc0 := 21) (pc' := 25) rfl (hb hby d13g2_21) (by decide) (by decide) kk))) ?_
    show own_Fin _ _ _ _ _ _ _ (T2.setTop (mkF m 25 #[.val (.ref t0), .val (.int p1), .val (.int p2)] [(.int (1 : Int32))]))
    exact own_retZ X2 hx hlk hret rfl (hb hby d13g2_25) (by decide) (by decide) ⟨(by rw [own_f13g2, if_neg hc17]), N0, e2⟩

theorem d14g2_0 : decode prog_24_method_4_code 0 = .ok (.aload_n 0, 1) := by decide +kernel
theorem d14g2_1 : decode prog_24_method_4_code 1 = .ok (.getfield 47, 3) := by decide +kernel
theorem d14g2_4 : decode prog_24_method_4_code 4 = .ok (.aload_n 0, 1) := by decide +kernel
theorem d14g2_5 : decode prog_24_method_4_code 5 = .ok (.getfield 27, 3) := by decide +kernel
theorem d14g2_8 : decode prog_24_method_4_code 8 = .ok (.iload_n 1, 1) := by decide +kernel
theorem d14g2_9 : decode prog_24_method_4_code 9 = .ok (.iaload, 1) := by decide +kernel
theorem d14g2_10 : decode prog_24_method_4_code 10 = .ok (.laload, 1) := by decide +kernel
theorem d14g2_11 : decode prog_24_method_4_code 11 = .ok (.lconst 1, 1) := by decide +kernel
theorem d14g2_12 : decode prog_24_method_4_code 12 = .ok (.iload_n 2, 1) := by decide +kernel
theorem d14g2_13 : decode prog_24_method_4_code 13 = .ok (.lshl, 1) := by decide +kernel
theorem d14g2_14 : decode prog_24_method_4_code 14 = .ok (.land, 1) := by decide +kernel
theorem d14g2_15 : decode prog_24_method_4_code 15 = .ok (.lconst 0, 1) := by decide +kernel
theorem d14g2_16 : decode prog_24_method_4_code 16 = .ok (.lcmp, 1) := by decide +kernel
theorem d14g2_17 : decode prog_24_method_4_code 17 = .ok (.ifCond .eq 7, 3) := by decide +kernel
theorem d14g2_20 : decode prog_24_method_4_code 20 = .ok (.iconst 1, 1) := by decide +kernel
theorem d14g2_21 : decode prog_24_method_4_code 21 = .ok (.goto 4, 3) := by decide +kernel
theorem d14g2_24 : decode prog_24_method_4_code 24 = .ok (.iconst 0, 1) := by decide +kernel
theorem d14g2_25 : decode prog_24_method_4_code 25 = .ok (.ireturn, 1) := by decide +kernel
theorem pn_14g2 : plainFor (⟨"com/example/onda/onda/sudoku/Units", "columnHolds", "(II)Z"⟩ : MethodName) = true := plainFor_of_name (by show plainName "com/example/onda/onda/sudoku/Units" = true; first | (simp [plainName, overriddenIn]; done) | decide +kernel)
theorem ef_14g2 (m : MethodId) (x0 : Addr) (x1 : Int32) (x2 : Int32) : entryFrame m #[(.ref x0), (.int x1), (.int x2)] 3 = mkF m 0 #[.val (.ref x0), .val (.int x1), .val (.int x2)] [] := by first | (simp [entryFrame, mkF, argsToLocals, Value.category]; done) | rfl
def own_f14g2 (hs : List Int64) (p1 : Int32) (p2 : Int32) : Int32 :=
  if ((List.getD hs ((own_fC2 (p1).toNatClampNeg)).toNatClampNeg 0) &&& ((1 : Int64) <<< (p2 &&& 0x3f).toInt64)) = (0 : Int64) then
    (0 : Int32)
  else
    (1 : Int32)
set_option maxRecDepth 65536 in
set_option maxHeartbeats 40000000 in
theorem rm14g2 (l : Launch) (Z : State) (a0 : Array Value) (hw : ∀ d ∈ tables_1, d.before a0 Z = true) (t0 : Addr) (p1 : Int32) (p2 : Int32) (h0 : Heap) (n0 : Nat) (Z0 : n0 ≤ h0.size) (bR bC bB hd : Addr) (hs : List Int64) (F_rowOf : Fld Z h0 t0 "com/example/onda/onda/sudoku/Units" "rowOf" "[I" (.ref bR)) (F_columnOf : Fld Z h0 t0 "com/example/onda/onda/sudoku/Units" "columnOf" "[I" (.ref bC)) (F_boxOf : Fld Z h0 t0 "com/example/onda/onda/sudoku/Units" "boxOf" "[I" (.ref bB)) (F_held : Fld Z h0 t0 "com/example/onda/onda/sudoku/Units" "held" "[J" (.ref hd)) (VR : own_Ar Z h0 bR .int ((own_L own_fR2 16 16).map Value.int)) (VC : own_Ar Z h0 bC .int ((own_L own_fC2 16 16).map Value.int)) (VB : own_Ar Z h0 bB .int ((own_L own_fB2 16 16).map Value.int)) (VH : own_Ar Z h0 hd .long (hs.map Value.long)) (hl : hs.length = 12) (hj : ¬ p1 < 0) (hi : p1.toNatClampNeg < 16) :
    own_Met l (⟨"com/example/onda/onda/sudoku/Units", "columnHolds", "(II)Z"⟩ : MethodName) prog_24_method_4_code 3 (some .boolean) ({ frames := 0, cells := 0, slots := 0, locals := 0 } : Room) Z [] #[(.ref t0), (.int p1), (.int p2)] h0 (own_P (some (.int (own_f14g2 hs p1 p2))) h0 n0) := by
  refine own_enter pn_14g2 ?_
  intro p e s m below meth c s₁ hx hby hml hown hnm hret hlk hZ e0 X0
  rw [ef_14g2]
  have N0 := Fr.nil n0
  show own_Fin _ _ _ _ _ _ _ (s₁.setTop (mkF m 0 #[.val (.ref t0), .val (.int p1), .val (.int p2)] []))
  refine own_go (fun _ kk => XS.aloadN X0.here hx rfl (hb hby d14g2_0) rfl rfl kk) ?_
  show own_Fin _ _ _ _ _ _ _ (s₁.setTop (mkF m 1 #[.val (.ref t0), .val (.int p1), .val (.int p2)] [(.ref t0)]))
  refine own_getF X0 hx hZ hown (host := "") (Or.inl (hw _ (List.mem_of_getElem? (i := 71) rfl))) Via.refl e0 F_held (hb hby d14g2_1) ?_
  intro T1 X1 e1
  show own_Fin _ _ _ _ _ _ _ (T1.setTop (mkF m 4 #[.val (.ref t0), .val (.int p1), .val (.int p2)] [(.ref hd)]))
  refine own_go (fun _ kk => XS.aloadN X1.here hx rfl (hb hby d14g2_4) rfl rfl kk) ?_
  show own_Fin _ _ _ _ _ _ _ (T1.setTop (mkF m 5 #[.val (.ref t0), .val (.int p1), .val (.int p2)] [(.ref t0), (.ref hd)]))
  refine own_getF X1 hx hZ hown (host := "") (Or.inl (hw _ (List.mem_of_getElem? (i := 48) rfl))) Via.refl e1 F_columnOf (hb hby d14g2_5) ?_
  intro T2 X2 e2
  show own_Fin _ _ _ _ _ _ _ (T2.setTop (mkF m 8 #[.val (.ref t0), .val (.int p1), .val (.int p2)] [(.ref bC), (.ref hd)]))
  refine own_go (fun _ kk => XS.iloadN X2.here hx rfl (hb hby d14g2_8) rfl kk) ?_
  show own_Fin _ _ _ _ _ _ _ (T2.setTop (mkF m 9 #[.val (.ref t0), .val (.int p1), .val (.int p2)] [(.int p1), (.ref bC), (.ref hd)]))
  refine own_ldI X2 hx hZ e2 VC hj (by rw [own_Llen]; exact hi) (hb hby d14g2_9) ?_
  show own_Fin _ _ _ _ _ _ _ (T2.setTop (mkF m 10 #[.val (.ref t0), .val (.int p1), .val (.int p2)] [(.int (List.getD (own_L own_fC2 16 16) (p1).toNatClampNeg 0)), (.ref hd)]))
  rw [own_LgetK (f := own_fC2) hi (Nat.le_refl _)]
  show own_Fin _ _ _ _ _ _ _ (T2.setTop (mkF m 10 #[.val (.ref t0), .val (.int p1), .val (.int p2)] [(.int (own_fC2 (p1).toNatClampNeg)), (.ref hd)]))
  refine own_ldJ X2 hx hZ e2 VH (own_bd2 _ hi).2.1.1 (by rw [hl]; exact (own_bd2 _ hi).2.1.2) (hb hby d14g2_10) ?_
  show own_Fin _ _ _ _ _ _ _ (T2.setTop (mkF m 11 #[.val (.ref t0), .val (.int p1), .val (.int p2)] [(.long (List.getD hs ((own_fC2 (p1).toNatClampNeg)).toNatClampNeg 0))]))
  refine own_go (fun _ kk => XS.lconst X2.here hx rfl (hb hby d14g2_11) (XS.iloadN X2.here hx rfl (hb hby d14g2_12) rfl (XS.lshl X2.here hx rfl (hb hby d14g2_13) rfl (XS.land X2.here hx rfl (hb hby d14g2_14) rfl (XS.lconst X2.here hx rfl (hb hby d14g2_15) (XT.lcmp X2.here hx rfl (hb hby d14g2_16) rfl kk)))))) ?_
  show own_Fin _ _ _ _ _ _ _ (T2.setTop (mkF m 17 #[.val (.ref t0), .val (.int p1), .val (.int p2)] [(.int (XT.cmpL ((List.getD hs ((own_fC2 (p1).toNatClampNeg)).toNatClampNeg 0) &&& ((1 : Int64) <<< (p2 &&& 0x3f).toInt64)) (0 : Int64)))]))
  by_cases hc17 : ((List.getD hs ((own_fC2 (p1).toNatClampNeg)).toNatClampNeg 0) &&& ((1 : Int64) <<< (p2 &&& 0x3f).toInt64)) = (0 : Int64)
  · refine own_go (fun _ kk => XS.ifYes X2.here hx rfl (pc0 := 17) (pc' := 24) rfl (hb hby d14g2_17) rfl (XT.ll_eq_t hc17) (by decide) (by decide) (XS.iconst X2.here hx rfl (hb hby d14g2_24) kk)) ?_
    show own_Fin _ _ _ _ _ _ _ (T2.setTop (mkF m 25 #[.val (.ref t0), .val (.int p1), .val (.int p2)] [(.int (0 : Int32))]))
    exact own_retZ X2 hx hlk hret rfl (hb hby d14g2_25) (by decide) (by decide) ⟨(by rw [own_f14g2, if_pos hc17]), N0, e2⟩
  · refine own_go (fun _ kk => XS.ifNo X2.here hx rfl (hb hby d14g2_17) rfl (XT.ll_eq_f hc17) (XS.iconst X2.here hx rfl (hb hby d14g2_20) (XS.goto X2.here hx rfl (pc0 := 21) (pc' := 25) rfl (hb hby d14g2_21) (by decide) (by decide) kk))) ?_
    show own_Fin _ _ _ _ _ _ _ (T2.setTop (mkF m 25 #[.val (.ref t0), .val (.int p1), .val (.int p2)] [(.int (1 : Int32))]))
    exact own_retZ X2 hx hlk hret rfl (hb hby d14g2_25) (by decide) (by decide) ⟨(by rw [own_f14g2, if_neg hc17]), N0, e2⟩

theorem d15g2_0 : decode prog_24_method_5_code 0 = .ok (.aload_n 0, 1) := by decide +kernel
theorem d15g2_1 : decode prog_24_method_5_code 1 = .ok (.getfield 47, 3) := by decide +kernel
theorem d15g2_4 : decode prog_24_method_5_code 4 = .ok (.aload_n 0, 1) := by decide +kernel
theorem d15g2_5 : decode prog_24_method_5_code 5 = .ok (.getfield 32, 3) := by decide +kernel
theorem d15g2_8 : decode prog_24_method_5_code 8 = .ok (.iload_n 1, 1) := by decide +kernel
theorem d15g2_9 : decode prog_24_method_5_code 9 = .ok (.iaload, 1) := by decide +kernel
theorem d15g2_10 : decode prog_24_method_5_code 10 = .ok (.laload, 1) := by decide +kernel
theorem d15g2_11 : decode prog_24_method_5_code 11 = .ok (.lconst 1, 1) := by decide +kernel
theorem d15g2_12 : decode prog_24_method_5_code 12 = .ok (.iload_n 2, 1) := by decide +kernel
theorem d15g2_13 : decode prog_24_method_5_code 13 = .ok (.lshl, 1) := by decide +kernel
theorem d15g2_14 : decode prog_24_method_5_code 14 = .ok (.land, 1) := by decide +kernel
theorem d15g2_15 : decode prog_24_method_5_code 15 = .ok (.lconst 0, 1) := by decide +kernel
theorem d15g2_16 : decode prog_24_method_5_code 16 = .ok (.lcmp, 1) := by decide +kernel
theorem d15g2_17 : decode prog_24_method_5_code 17 = .ok (.ifCond .eq 7, 3) := by decide +kernel
theorem d15g2_20 : decode prog_24_method_5_code 20 = .ok (.iconst 1, 1) := by decide +kernel
theorem d15g2_21 : decode prog_24_method_5_code 21 = .ok (.goto 4, 3) := by decide +kernel
theorem d15g2_24 : decode prog_24_method_5_code 24 = .ok (.iconst 0, 1) := by decide +kernel
theorem d15g2_25 : decode prog_24_method_5_code 25 = .ok (.ireturn, 1) := by decide +kernel
theorem pn_15g2 : plainFor (⟨"com/example/onda/onda/sudoku/Units", "boxHolds", "(II)Z"⟩ : MethodName) = true := plainFor_of_name (by show plainName "com/example/onda/onda/sudoku/Units" = true; first | (simp [plainName, overriddenIn]; done) | decide +kernel)
theorem ef_15g2 (m : MethodId) (x0 : Addr) (x1 : Int32) (x2 : Int32) : entryFrame m #[(.ref x0), (.int x1), (.int x2)] 3 = mkF m 0 #[.val (.ref x0), .val (.int x1), .val (.int x2)] [] := by first | (simp [entryFrame, mkF, argsToLocals, Value.category]; done) | rfl
def own_f15g2 (hs : List Int64) (p1 : Int32) (p2 : Int32) : Int32 :=
  if ((List.getD hs ((own_fB2 (p1).toNatClampNeg)).toNatClampNeg 0) &&& ((1 : Int64) <<< (p2 &&& 0x3f).toInt64)) = (0 : Int64) then
    (0 : Int32)
  else
    (1 : Int32)
set_option maxRecDepth 65536 in
set_option maxHeartbeats 40000000 in
theorem rm15g2 (l : Launch) (Z : State) (a0 : Array Value) (hw : ∀ d ∈ tables_1, d.before a0 Z = true) (t0 : Addr) (p1 : Int32) (p2 : Int32) (h0 : Heap) (n0 : Nat) (Z0 : n0 ≤ h0.size) (bR bC bB hd : Addr) (hs : List Int64) (F_rowOf : Fld Z h0 t0 "com/example/onda/onda/sudoku/Units" "rowOf" "[I" (.ref bR)) (F_columnOf : Fld Z h0 t0 "com/example/onda/onda/sudoku/Units" "columnOf" "[I" (.ref bC)) (F_boxOf : Fld Z h0 t0 "com/example/onda/onda/sudoku/Units" "boxOf" "[I" (.ref bB)) (F_held : Fld Z h0 t0 "com/example/onda/onda/sudoku/Units" "held" "[J" (.ref hd)) (VR : own_Ar Z h0 bR .int ((own_L own_fR2 16 16).map Value.int)) (VC : own_Ar Z h0 bC .int ((own_L own_fC2 16 16).map Value.int)) (VB : own_Ar Z h0 bB .int ((own_L own_fB2 16 16).map Value.int)) (VH : own_Ar Z h0 hd .long (hs.map Value.long)) (hl : hs.length = 12) (hj : ¬ p1 < 0) (hi : p1.toNatClampNeg < 16) :
    own_Met l (⟨"com/example/onda/onda/sudoku/Units", "boxHolds", "(II)Z"⟩ : MethodName) prog_24_method_5_code 3 (some .boolean) ({ frames := 0, cells := 0, slots := 0, locals := 0 } : Room) Z [] #[(.ref t0), (.int p1), (.int p2)] h0 (own_P (some (.int (own_f15g2 hs p1 p2))) h0 n0) := by
  refine own_enter pn_15g2 ?_
  intro p e s m below meth c s₁ hx hby hml hown hnm hret hlk hZ e0 X0
  rw [ef_15g2]
  have N0 := Fr.nil n0
  show own_Fin _ _ _ _ _ _ _ (s₁.setTop (mkF m 0 #[.val (.ref t0), .val (.int p1), .val (.int p2)] []))
  refine own_go (fun _ kk => XS.aloadN X0.here hx rfl (hb hby d15g2_0) rfl rfl kk) ?_
  show own_Fin _ _ _ _ _ _ _ (s₁.setTop (mkF m 1 #[.val (.ref t0), .val (.int p1), .val (.int p2)] [(.ref t0)]))
  refine own_getF X0 hx hZ hown (host := "") (Or.inl (hw _ (List.mem_of_getElem? (i := 71) rfl))) Via.refl e0 F_held (hb hby d15g2_1) ?_
  intro T1 X1 e1
  show own_Fin _ _ _ _ _ _ _ (T1.setTop (mkF m 4 #[.val (.ref t0), .val (.int p1), .val (.int p2)] [(.ref hd)]))
  refine own_go (fun _ kk => XS.aloadN X1.here hx rfl (hb hby d15g2_4) rfl rfl kk) ?_
  show own_Fin _ _ _ _ _ _ _ (T1.setTop (mkF m 5 #[.val (.ref t0), .val (.int p1), .val (.int p2)] [(.ref t0), (.ref hd)]))
  refine own_getF X1 hx hZ hown (host := "") (Or.inl (hw _ (List.mem_of_getElem? (i := 55) rfl))) Via.refl e1 F_boxOf (hb hby d15g2_5) ?_
  intro T2 X2 e2
  show own_Fin _ _ _ _ _ _ _ (T2.setTop (mkF m 8 #[.val (.ref t0), .val (.int p1), .val (.int p2)] [(.ref bB), (.ref hd)]))
  refine own_go (fun _ kk => XS.iloadN X2.here hx rfl (hb hby d15g2_8) rfl kk) ?_
  show own_Fin _ _ _ _ _ _ _ (T2.setTop (mkF m 9 #[.val (.ref t0), .val (.int p1), .val (.int p2)] [(.int p1), (.ref bB), (.ref hd)]))
  refine own_ldI X2 hx hZ e2 VB hj (by rw [own_Llen]; exact hi) (hb hby d15g2_9) ?_
  show own_Fin _ _ _ _ _ _ _ (T2.setTop (mkF m 10 #[.val (.ref t0), .val (.int p1), .val (.int p2)] [(.int (List.getD (own_L own_fB2 16 16) (p1).toNatClampNeg 0)), (.ref hd)]))
  rw [own_LgetK (f := own_fB2) hi (Nat.le_refl _)]
  show own_Fin _ _ _ _ _ _ _ (T2.setTop (mkF m 10 #[.val (.ref t0), .val (.int p1), .val (.int p2)] [(.int (own_fB2 (p1).toNatClampNeg)), (.ref hd)]))
  refine own_ldJ X2 hx hZ e2 VH (own_bd2 _ hi).2.2.1.1 (by rw [hl]; exact (own_bd2 _ hi).2.2.1.2) (hb hby d15g2_10) ?_
  show own_Fin _ _ _ _ _ _ _ (T2.setTop (mkF m 11 #[.val (.ref t0), .val (.int p1), .val (.int p2)] [(.long (List.getD hs ((own_fB2 (p1).toNatClampNeg)).toNatClampNeg 0))]))
  refine own_go (fun _ kk => XS.lconst X2.here hx rfl (hb hby d15g2_11) (XS.iloadN X2.here hx rfl (hb hby d15g2_12) rfl (XS.lshl X2.here hx rfl (hb hby d15g2_13) rfl (XS.land X2.here hx rfl (hb hby d15g2_14) rfl (XS.lconst X2.here hx rfl (hb hby d15g2_15) (XT.lcmp X2.here hx rfl (hb hby d15g2_16) rfl kk)))))) ?_
  show own_Fin _ _ _ _ _ _ _ (T2.setTop (mkF m 17 #[.val (.ref t0), .val (.int p1), .val (.int p2)] [(.int (XT.cmpL ((List.getD hs ((own_fB2 (p1).toNatClampNeg)).toNatClampNeg 0) &&& ((1 : Int64) <<< (p2 &&& 0x3f).toInt64)) (0 : Int64)))]))
  by_cases hc17 : ((List.getD hs ((own_fB2 (p1).toNatClampNeg)).toNatClampNeg 0) &&& ((1 : Int64) <<< (p2 &&& 0x3f).toInt64)) = (0 : Int64)
  · refine own_go (fun _ kk => XS.ifYes X2.here hx rfl (pc0 := 17) (pc' := 24) rfl (hb hby d15g2_17) rfl (XT.ll_eq_t hc17) (by decide) (by decide) (XS.iconst X2.here hx rfl (hb hby d15g2_24) kk)) ?_
    show own_Fin _ _ _ _ _ _ _ (T2.setTop (mkF m 25 #[.val (.ref t0), .val (.int p1), .val (.int p2)] [(.int (0 : Int32))]))
    exact own_retZ X2 hx hlk hret rfl (hb hby d15g2_25) (by decide) (by decide) ⟨(by rw [own_f15g2, if_pos hc17]), N0, e2⟩
  · refine own_go (fun _ kk => XS.ifNo X2.here hx rfl (hb hby d15g2_17) rfl (XT.ll_eq_f hc17) (XS.iconst X2.here hx rfl (hb hby d15g2_20) (XS.goto X2.here hx rfl (pc0 := 21) (pc' := 25) rfl (hb hby d15g2_21) (by decide) (by decide) kk))) ?_
    show own_Fin _ _ _ _ _ _ _ (T2.setTop (mkF m 25 #[.val (.ref t0), .val (.int p1), .val (.int p2)] [(.int (1 : Int32))]))
    exact own_retZ X2 hx hlk hret rfl (hb hby d15g2_25) (by decide) (by decide) ⟨(by rw [own_f15g2, if_neg hc17]), N0, e2⟩

def own_fR3 (j : Nat) : Int32 := ((Int32.ofNat j) / (9 : Int32))
def own_fC3 (j : Nat) : Int32 := ((9 : Int32) + ((Int32.ofNat j) % (9 : Int32)))
def own_fB3 (j : Nat) : Int32 := (((18 : Int32) + ((((Int32.ofNat j) / (9 : Int32)) / (3 : Int32)) * (3 : Int32))) + (((Int32.ofNat j) % (9 : Int32)) / (3 : Int32)))
def own_fIR3 (j : Nat) : Int32 := ((Int32.ofNat j) % (9 : Int32))
def own_fIC3 (j : Nat) : Int32 := ((Int32.ofNat j) / (9 : Int32))
def own_fIB3 (j : Nat) : Int32 := (((((Int32.ofNat j) / (9 : Int32)) % (3 : Int32)) * (3 : Int32)) + (((Int32.ofNat j) % (9 : Int32)) % (3 : Int32)))
theorem own_bd3 : ∀ j, j < 81 → (¬ own_fR3 j < 0 ∧ (own_fR3 j).toNatClampNeg < 27) ∧ (¬ own_fC3 j < 0 ∧ (own_fC3 j).toNatClampNeg < 27) ∧ (¬ own_fB3 j < 0 ∧ (own_fB3 j).toNatClampNeg < 27) ∧ (¬ own_fIR3 j < 0 ∧ (own_fIR3 j).toNatClampNeg < 9) ∧ (¬ own_fIC3 j < 0 ∧ (own_fIC3 j).toNatClampNeg < 9) ∧ (¬ own_fIB3 j < 0 ∧ (own_fIB3 j).toNatClampNeg < 9) := by decide +kernel
def own_QGeo3 (Z : State) (t0 : Addr) (h0 : Heap) (n0 : Nat) (v : Option Value) (h : Heap) (L : List Loc) : Prop := v = none ∧ Fr n0 L ∧ Keep h0 h [t0] ∧ ∃ bR bC bB g : Addr, h0.size ≤ bR ∧ h0.size ≤ bC ∧ h0.size ≤ bB ∧ h0.size ≤ g ∧ Fld Z h t0 "com/example/onda/onda/sudoku/Geometry" "size" "I" (.int (9 : Int32)) ∧ Fld Z h t0 "com/example/onda/onda/sudoku/Geometry" "rowOf" "[I" (.ref bR) ∧ Fld Z h t0 "com/example/onda/onda/sudoku/Geometry" "columnOf" "[I" (.ref bC) ∧ Fld Z h t0 "com/example/onda/onda/sudoku/Geometry" "boxOf" "[I" (.ref bB) ∧ Fld Z h t0 "com/example/onda/onda/sudoku/Geometry" "cellsOf" "[[I" (.ref g) ∧ own_Ar Z h bR .int ((own_L own_fR3 81 81).map Value.int) ∧ own_Ar Z h bC .int ((own_L own_fC3 81 81).map Value.int) ∧ own_Ar Z h bB .int ((own_L own_fB3 81 81).map Value.int) ∧ own_Ar Z h g (.array .int) ((List.range 27).map fun j => Value.ref (g + 1 + j))
theorem d1g3_0 : decode prog_22_method_1_code 0 = .ok (.aload_n 0, 1) := by decide +kernel
theorem d1g3_1 : decode prog_22_method_1_code 1 = .ok (.invokespecial 1, 3) := by decide +kernel
theorem d1g3_4 : decode prog_22_method_1_code 4 = .ok (.aload_n 0, 1) := by decide +kernel
theorem d1g3_5 : decode prog_22_method_1_code 5 = .ok (.iload_n 1, 1) := by decide +kernel
theorem d1g3_6 : decode prog_22_method_1_code 6 = .ok (.iload_n 1, 1) := by decide +kernel
theorem d1g3_7 : decode prog_22_method_1_code 7 = .ok (.imul, 1) := by decide +kernel
theorem d1g3_8 : decode prog_22_method_1_code 8 = .ok (.putfield 7, 3) := by decide +kernel
theorem d1g3_11 : decode prog_22_method_1_code 11 = .ok (.aload_n 0, 1) := by decide +kernel
theorem d1g3_12 : decode prog_22_method_1_code 12 = .ok (.aload_n 0, 1) := by decide +kernel
theorem d1g3_13 : decode prog_22_method_1_code 13 = .ok (.getfield 7, 3) := by decide +kernel
theorem d1g3_16 : decode prog_22_method_1_code 16 = .ok (.aload_n 0, 1) := by decide +kernel
theorem d1g3_17 : decode prog_22_method_1_code 17 = .ok (.getfield 7, 3) := by decide +kernel
theorem d1g3_20 : decode prog_22_method_1_code 20 = .ok (.imul, 1) := by decide +kernel
theorem d1g3_21 : decode prog_22_method_1_code 21 = .ok (.newarray .int, 2) := by decide +kernel
theorem d1g3_23 : decode prog_22_method_1_code 23 = .ok (.putfield 13, 3) := by decide +kernel
theorem d1g3_26 : decode prog_22_method_1_code 26 = .ok (.aload_n 0, 1) := by decide +kernel
theorem d1g3_27 : decode prog_22_method_1_code 27 = .ok (.aload_n 0, 1) := by decide +kernel
theorem d1g3_28 : decode prog_22_method_1_code 28 = .ok (.getfield 7, 3) := by decide +kernel
theorem d1g3_31 : decode prog_22_method_1_code 31 = .ok (.aload_n 0, 1) := by decide +kernel
theorem d1g3_32 : decode prog_22_method_1_code 32 = .ok (.getfield 7, 3) := by decide +kernel
theorem d1g3_35 : decode prog_22_method_1_code 35 = .ok (.imul, 1) := by decide +kernel
theorem d1g3_36 : decode prog_22_method_1_code 36 = .ok (.newarray .int, 2) := by decide +kernel
theorem d1g3_38 : decode prog_22_method_1_code 38 = .ok (.putfield 17, 3) := by decide +kernel
theorem d1g3_41 : decode prog_22_method_1_code 41 = .ok (.aload_n 0, 1) := by decide +kernel
theorem d1g3_42 : decode prog_22_method_1_code 42 = .ok (.aload_n 0, 1) := by decide +kernel
theorem d1g3_43 : decode prog_22_method_1_code 43 = .ok (.getfield 7, 3) := by decide +kernel
theorem d1g3_46 : decode prog_22_method_1_code 46 = .ok (.aload_n 0, 1) := by decide +kernel
theorem d1g3_47 : decode prog_22_method_1_code 47 = .ok (.getfield 7, 3) := by decide +kernel
theorem d1g3_50 : decode prog_22_method_1_code 50 = .ok (.imul, 1) := by decide +kernel
theorem d1g3_51 : decode prog_22_method_1_code 51 = .ok (.newarray .int, 2) := by decide +kernel
theorem d1g3_53 : decode prog_22_method_1_code 53 = .ok (.putfield 20, 3) := by decide +kernel
theorem d1g3_56 : decode prog_22_method_1_code 56 = .ok (.aload_n 0, 1) := by decide +kernel
theorem d1g3_57 : decode prog_22_method_1_code 57 = .ok (.iconst 3, 1) := by decide +kernel
theorem d1g3_58 : decode prog_22_method_1_code 58 = .ok (.aload_n 0, 1) := by decide +kernel
theorem d1g3_59 : decode prog_22_method_1_code 59 = .ok (.getfield 7, 3) := by decide +kernel
theorem d1g3_62 : decode prog_22_method_1_code 62 = .ok (.imul, 1) := by decide +kernel
theorem d1g3_63 : decode prog_22_method_1_code 63 = .ok (.aload_n 0, 1) := by decide +kernel
theorem d1g3_64 : decode prog_22_method_1_code 64 = .ok (.getfield 7, 3) := by decide +kernel
theorem d1g3_67 : decode prog_22_method_1_code 67 = .ok (.multianewarray 23 2, 4) := by decide +kernel
theorem d1g3_71 : decode prog_22_method_1_code 71 = .ok (.putfield 25, 3) := by decide +kernel
theorem d1g3_74 : decode prog_22_method_1_code 74 = .ok (.aload_n 0, 1) := by decide +kernel
theorem d1g3_75 : decode prog_22_method_1_code 75 = .ok (.aload_n 0, 1) := by decide +kernel
theorem d1g3_76 : decode prog_22_method_1_code 76 = .ok (.getfield 7, 3) := by decide +kernel
theorem d1g3_79 : decode prog_22_method_1_code 79 = .ok (.aload_n 0, 1) := by decide +kernel
theorem d1g3_80 : decode prog_22_method_1_code 80 = .ok (.getfield 7, 3) := by decide +kernel
theorem d1g3_83 : decode prog_22_method_1_code 83 = .ok (.imul, 1) := by decide +kernel
theorem d1g3_84 : decode prog_22_method_1_code 84 = .ok (.newarray .int, 2) := by decide +kernel
theorem d1g3_86 : decode prog_22_method_1_code 86 = .ok (.putfield 28, 3) := by decide +kernel
theorem d1g3_89 : decode prog_22_method_1_code 89 = .ok (.aload_n 0, 1) := by decide +kernel
theorem d1g3_90 : decode prog_22_method_1_code 90 = .ok (.aload_n 0, 1) := by decide +kernel
theorem d1g3_91 : decode prog_22_method_1_code 91 = .ok (.getfield 7, 3) := by decide +kernel
theorem d1g3_94 : decode prog_22_method_1_code 94 = .ok (.aload_n 0, 1) := by decide +kernel
theorem d1g3_95 : decode prog_22_method_1_code 95 = .ok (.getfield 7, 3) := by decide +kernel
theorem d1g3_98 : decode prog_22_method_1_code 98 = .ok (.imul, 1) := by decide +kernel
theorem d1g3_99 : decode prog_22_method_1_code 99 = .ok (.newarray .int, 2) := by decide +kernel
theorem d1g3_101 : decode prog_22_method_1_code 101 = .ok (.putfield 31, 3) := by decide +kernel
theorem d1g3_104 : decode prog_22_method_1_code 104 = .ok (.aload_n 0, 1) := by decide +kernel
theorem d1g3_105 : decode prog_22_method_1_code 105 = .ok (.aload_n 0, 1) := by decide +kernel
theorem d1g3_106 : decode prog_22_method_1_code 106 = .ok (.getfield 7, 3) := by decide +kernel
theorem d1g3_109 : decode prog_22_method_1_code 109 = .ok (.aload_n 0, 1) := by decide +kernel
theorem d1g3_110 : decode prog_22_method_1_code 110 = .ok (.getfield 7, 3) := by decide +kernel
theorem d1g3_113 : decode prog_22_method_1_code 113 = .ok (.imul, 1) := by decide +kernel
theorem d1g3_114 : decode prog_22_method_1_code 114 = .ok (.newarray .int, 2) := by decide +kernel
theorem d1g3_116 : decode prog_22_method_1_code 116 = .ok (.putfield 34, 3) := by decide +kernel
theorem d1g3_119 : decode prog_22_method_1_code 119 = .ok (.iconst 0, 1) := by decide +kernel
theorem d1g3_120 : decode prog_22_method_1_code 120 = .ok (.istore_n 2, 1) := by decide +kernel
theorem d1g3_121 : decode prog_22_method_1_code 121 = .ok (.iload_n 2, 1) := by decide +kernel
theorem d1g3_122 : decode prog_22_method_1_code 122 = .ok (.aload_n 0, 1) := by decide +kernel
theorem d1g3_123 : decode prog_22_method_1_code 123 = .ok (.getfield 7, 3) := by decide +kernel
theorem d1g3_126 : decode prog_22_method_1_code 126 = .ok (.aload_n 0, 1) := by decide +kernel
theorem d1g3_127 : decode prog_22_method_1_code 127 = .ok (.getfield 7, 3) := by decide +kernel
theorem d1g3_130 : decode prog_22_method_1_code 130 = .ok (.imul, 1) := by decide +kernel
theorem d1g3_131 : decode prog_22_method_1_code 131 = .ok (.if_icmp .ge 155, 3) := by decide +kernel
theorem d1g3_134 : decode prog_22_method_1_code 134 = .ok (.iload_n 2, 1) := by decide +kernel
theorem d1g3_135 : decode prog_22_method_1_code 135 = .ok (.aload_n 0, 1) := by decide +kernel
theorem d1g3_136 : decode prog_22_method_1_code 136 = .ok (.getfield 7, 3) := by decide +kernel
theorem d1g3_139 : decode prog_22_method_1_code 139 = .ok (.idiv, 1) := by decide +kernel
theorem d1g3_140 : decode prog_22_method_1_code 140 = .ok (.istore_n 3, 1) := by decide +kernel
theorem d1g3_141 : decode prog_22_method_1_code 141 = .ok (.iload_n 2, 1) := by decide +kernel
theorem d1g3_142 : decode prog_22_method_1_code 142 = .ok (.aload_n 0, 1) := by decide +kernel
theorem d1g3_143 : decode prog_22_method_1_code 143 = .ok (.getfield 7, 3) := by decide +kernel
theorem d1g3_146 : decode prog_22_method_1_code 146 = .ok (.irem, 1) := by decide +kernel
theorem d1g3_147 : decode prog_22_method_1_code 147 = .ok (.istore 4, 2) := by decide +kernel
theorem d1g3_149 : decode prog_22_method_1_code 149 = .ok (.aload_n 0, 1) := by decide +kernel
theorem d1g3_150 : decode prog_22_method_1_code 150 = .ok (.getfield 13, 3) := by decide +kernel
theorem d1g3_153 : decode prog_22_method_1_code 153 = .ok (.iload_n 2, 1) := by decide +kernel
theorem d1g3_154 : decode prog_22_method_1_code 154 = .ok (.iload_n 3, 1) := by decide +kernel
theorem d1g3_155 : decode prog_22_method_1_code 155 = .ok (.iastore, 1) := by decide +kernel
theorem d1g3_156 : decode prog_22_method_1_code 156 = .ok (.aload_n 0, 1) := by decide +kernel
theorem d1g3_157 : decode prog_22_method_1_code 157 = .ok (.getfield 17, 3) := by decide +kernel
theorem d1g3_160 : decode prog_22_method_1_code 160 = .ok (.iload_n 2, 1) := by decide +kernel
theorem d1g3_161 : decode prog_22_method_1_code 161 = .ok (.aload_n 0, 1) := by decide +kernel
theorem d1g3_162 : decode prog_22_method_1_code 162 = .ok (.getfield 7, 3) := by decide +kernel
theorem d1g3_165 : decode prog_22_method_1_code 165 = .ok (.iload 4, 2) := by decide +kernel
theorem d1g3_167 : decode prog_22_method_1_code 167 = .ok (.iadd, 1) := by decide +kernel
theorem d1g3_168 : decode prog_22_method_1_code 168 = .ok (.iastore, 1) := by decide +kernel
theorem d1g3_169 : decode prog_22_method_1_code 169 = .ok (.aload_n 0, 1) := by decide +kernel
theorem d1g3_170 : decode prog_22_method_1_code 170 = .ok (.getfield 20, 3) := by decide +kernel
theorem d1g3_173 : decode prog_22_method_1_code 173 = .ok (.iload_n 2, 1) := by decide +kernel
theorem d1g3_174 : decode prog_22_method_1_code 174 = .ok (.iconst 2, 1) := by decide +kernel
theorem d1g3_175 : decode prog_22_method_1_code 175 = .ok (.aload_n 0, 1) := by decide +kernel
theorem d1g3_176 : decode prog_22_method_1_code 176 = .ok (.getfield 7, 3) := by decide +kernel
theorem d1g3_179 : decode prog_22_method_1_code 179 = .ok (.imul, 1) := by decide +kernel
theorem d1g3_180 : decode prog_22_method_1_code 180 = .ok (.iload_n 3, 1) := by decide +kernel
theorem d1g3_181 : decode prog_22_method_1_code 181 = .ok (.iload_n 1, 1) := by decide +kernel
theorem d1g3_182 : decode prog_22_method_1_code 182 = .ok (.idiv, 1) := by decide +kernel
theorem d1g3_183 : decode prog_22_method_1_code 183 = .ok (.iload_n 1, 1) := by decide +kernel
theorem d1g3_184 : decode prog_22_method_1_code 184 = .ok (.imul, 1) := by decide +kernel
theorem d1g3_185 : decode prog_22_method_1_code 185 = .ok (.iadd, 1) := by decide +kernel
theorem d1g3_186 : decode prog_22_method_1_code 186 = .ok (.iload 4, 2) := by decide +kernel
theorem d1g3_188 : decode prog_22_method_1_code 188 = .ok (.iload_n 1, 1) := by decide +kernel
theorem d1g3_189 : decode prog_22_method_1_code 189 = .ok (.idiv, 1) := by decide +kernel
theorem d1g3_190 : decode prog_22_method_1_code 190 = .ok (.iadd, 1) := by decide +kernel
theorem d1g3_191 : decode prog_22_method_1_code 191 = .ok (.iastore, 1) := by decide +kernel
theorem d1g3_192 : decode prog_22_method_1_code 192 = .ok (.aload_n 0, 1) := by decide +kernel
theorem d1g3_193 : decode prog_22_method_1_code 193 = .ok (.getfield 28, 3) := by decide +kernel
theorem d1g3_196 : decode prog_22_method_1_code 196 = .ok (.iload_n 2, 1) := by decide +kernel
theorem d1g3_197 : decode prog_22_method_1_code 197 = .ok (.iload 4, 2) := by decide +kernel
theorem d1g3_199 : decode prog_22_method_1_code 199 = .ok (.iastore, 1) := by decide +kernel
theorem d1g3_200 : decode prog_22_method_1_code 200 = .ok (.aload_n 0, 1) := by decide +kernel
theorem d1g3_201 : decode prog_22_method_1_code 201 = .ok (.getfield 31, 3) := by decide +kernel
theorem d1g3_204 : decode prog_22_method_1_code 204 = .ok (.iload_n 2, 1) := by decide +kernel
theorem d1g3_205 : decode prog_22_method_1_code 205 = .ok (.iload_n 3, 1) := by decide +kernel
theorem d1g3_206 : decode prog_22_method_1_code 206 = .ok (.iastore, 1) := by decide +kernel
theorem d1g3_207 : decode prog_22_method_1_code 207 = .ok (.aload_n 0, 1) := by decide +kernel
theorem d1g3_208 : decode prog_22_method_1_code 208 = .ok (.getfield 34, 3) := by decide +kernel
theorem d1g3_211 : decode prog_22_method_1_code 211 = .ok (.iload_n 2, 1) := by decide +kernel
theorem d1g3_212 : decode prog_22_method_1_code 212 = .ok (.iload_n 3, 1) := by decide +kernel
theorem d1g3_213 : decode prog_22_method_1_code 213 = .ok (.iload_n 1, 1) := by decide +kernel
theorem d1g3_214 : decode prog_22_method_1_code 214 = .ok (.irem, 1) := by decide +kernel
theorem d1g3_215 : decode prog_22_method_1_code 215 = .ok (.iload_n 1, 1) := by decide +kernel
theorem d1g3_216 : decode prog_22_method_1_code 216 = .ok (.imul, 1) := by decide +kernel
theorem d1g3_217 : decode prog_22_method_1_code 217 = .ok (.iload 4, 2) := by decide +kernel
theorem d1g3_219 : decode prog_22_method_1_code 219 = .ok (.iload_n 1, 1) := by decide +kernel
theorem d1g3_220 : decode prog_22_method_1_code 220 = .ok (.irem, 1) := by decide +kernel
theorem d1g3_221 : decode prog_22_method_1_code 221 = .ok (.iadd, 1) := by decide +kernel
theorem d1g3_222 : decode prog_22_method_1_code 222 = .ok (.iastore, 1) := by decide +kernel
theorem d1g3_223 : decode prog_22_method_1_code 223 = .ok (.aload_n 0, 1) := by decide +kernel
theorem d1g3_224 : decode prog_22_method_1_code 224 = .ok (.getfield 25, 3) := by decide +kernel
theorem d1g3_227 : decode prog_22_method_1_code 227 = .ok (.aload_n 0, 1) := by decide +kernel
theorem d1g3_228 : decode prog_22_method_1_code 228 = .ok (.getfield 13, 3) := by decide +kernel
theorem d1g3_231 : decode prog_22_method_1_code 231 = .ok (.iload_n 2, 1) := by decide +kernel
theorem d1g3_232 : decode prog_22_method_1_code 232 = .ok (.iaload, 1) := by decide +kernel
theorem d1g3_233 : decode prog_22_method_1_code 233 = .ok (.aaload, 1) := by decide +kernel
theorem d1g3_234 : decode prog_22_method_1_code 234 = .ok (.aload_n 0, 1) := by decide +kernel
theorem d1g3_235 : decode prog_22_method_1_code 235 = .ok (.getfield 28, 3) := by decide +kernel
theorem d1g3_238 : decode prog_22_method_1_code 238 = .ok (.iload_n 2, 1) := by decide +kernel
theorem d1g3_239 : decode prog_22_method_1_code 239 = .ok (.iaload, 1) := by decide +kernel
theorem d1g3_240 : decode prog_22_method_1_code 240 = .ok (.iload_n 2, 1) := by decide +kernel
theorem d1g3_241 : decode prog_22_method_1_code 241 = .ok (.iastore, 1) := by decide +kernel
theorem d1g3_242 : decode prog_22_method_1_code 242 = .ok (.aload_n 0, 1) := by decide +kernel
theorem d1g3_243 : decode prog_22_method_1_code 243 = .ok (.getfield 25, 3) := by decide +kernel
theorem d1g3_246 : decode prog_22_method_1_code 246 = .ok (.aload_n 0, 1) := by decide +kernel
theorem d1g3_247 : decode prog_22_method_1_code 247 = .ok (.getfield 17, 3) := by decide +kernel
theorem d1g3_250 : decode prog_22_method_1_code 250 = .ok (.iload_n 2, 1) := by decide +kernel
theorem d1g3_251 : decode prog_22_method_1_code 251 = .ok (.iaload, 1) := by decide +kernel
theorem d1g3_252 : decode prog_22_method_1_code 252 = .ok (.aaload, 1) := by decide +kernel
theorem d1g3_253 : decode prog_22_method_1_code 253 = .ok (.aload_n 0, 1) := by decide +kernel
theorem d1g3_254 : decode prog_22_method_1_code 254 = .ok (.getfield 31, 3) := by decide +kernel
theorem d1g3_257 : decode prog_22_method_1_code 257 = .ok (.iload_n 2, 1) := by decide +kernel
theorem d1g3_258 : decode prog_22_method_1_code 258 = .ok (.iaload, 1) := by decide +kernel
theorem d1g3_259 : decode prog_22_method_1_code 259 = .ok (.iload_n 2, 1) := by decide +kernel
theorem d1g3_260 : decode prog_22_method_1_code 260 = .ok (.iastore, 1) := by decide +kernel
theorem d1g3_261 : decode prog_22_method_1_code 261 = .ok (.aload_n 0, 1) := by decide +kernel
theorem d1g3_262 : decode prog_22_method_1_code 262 = .ok (.getfield 25, 3) := by decide +kernel
theorem d1g3_265 : decode prog_22_method_1_code 265 = .ok (.aload_n 0, 1) := by decide +kernel
theorem d1g3_266 : decode prog_22_method_1_code 266 = .ok (.getfield 20, 3) := by decide +kernel
theorem d1g3_269 : decode prog_22_method_1_code 269 = .ok (.iload_n 2, 1) := by decide +kernel
theorem d1g3_270 : decode prog_22_method_1_code 270 = .ok (.iaload, 1) := by decide +kernel
theorem d1g3_271 : decode prog_22_method_1_code 271 = .ok (.aaload, 1) := by decide +kernel
theorem d1g3_272 : decode prog_22_method_1_code 272 = .ok (.aload_n 0, 1) := by decide +kernel
theorem d1g3_273 : decode prog_22_method_1_code 273 = .ok (.getfield 34, 3) := by decide +kernel
theorem d1g3_276 : decode prog_22_method_1_code 276 = .ok (.iload_n 2, 1) := by decide +kernel
theorem d1g3_277 : decode prog_22_method_1_code 277 = .ok (.iaload, 1) := by decide +kernel
theorem d1g3_278 : decode prog_22_method_1_code 278 = .ok (.iload_n 2, 1) := by decide +kernel
theorem d1g3_279 : decode prog_22_method_1_code 279 = .ok (.iastore, 1) := by decide +kernel
theorem d1g3_280 : decode prog_22_method_1_code 280 = .ok (.iinc 2 1, 3) := by decide +kernel
theorem d1g3_283 : decode prog_22_method_1_code 283 = .ok (.goto (-162), 3) := by decide +kernel
theorem d1g3_286 : decode prog_22_method_1_code 286 = .ok (.return_, 1) := by decide +kernel
theorem pn_1g3 : plainFor (⟨"com/example/onda/onda/sudoku/Geometry", "<init>", "(I)V"⟩ : MethodName) = true := plainFor_of_name (by show plainName "com/example/onda/onda/sudoku/Geometry" = true; first | (simp [plainName, overriddenIn]; done) | decide +kernel)
theorem ef_1g3 (m : MethodId) (x0 : Addr) (x1 : Int32) : entryFrame m #[(.ref x0), (.int x1)] 5 = mkF m 0 #[.val (.ref x0), .val (.int x1), .unset, .unset, .unset] [] := by first | (simp [entryFrame, mkF, argsToLocals, Value.category]; done) | rfl
set_option maxRecDepth 65536 in
set_option maxHeartbeats 40000000 in
theorem rm1g3 (l : Launch) (Z : State) (a0 : Array Value) (hw : ∀ d ∈ tables_1, d.before a0 Z = true) (t0 : Addr) (h0 : Heap) (n0 : Nat) (Z0 : n0 ≤ h0.size) (E_t0 : Exa Z h0 t0 "com/example/onda/onda/sudoku/Geometry") (F_size : Fld Z h0 t0 "com/example/onda/onda/sudoku/Geometry" "size" "I" (.int (0 : Int32))) (F_rowOf : Fld Z h0 t0 "com/example/onda/onda/sudoku/Geometry" "rowOf" "[I" .null) (F_columnOf : Fld Z h0 t0 "com/example/onda/onda/sudoku/Geometry" "columnOf" "[I" .null) (F_boxOf : Fld Z h0 t0 "com/example/onda/onda/sudoku/Geometry" "boxOf" "[I" .null) (F_cellsOf : Fld Z h0 t0 "com/example/onda/onda/sudoku/Geometry" "cellsOf" "[[I" .null) (F_indexInRow : Fld Z h0 t0 "com/example/onda/onda/sudoku/Geometry" "indexInRow" "[I" .null) (F_indexInColumn : Fld Z h0 t0 "com/example/onda/onda/sudoku/Geometry" "indexInColumn" "[I" .null) (F_indexInBox : Fld Z h0 t0 "com/example/onda/onda/sudoku/Geometry" "indexInBox" "[I" .null) (g_t0 : n0 ≤ t0) :
    own_Met l (⟨"com/example/onda/onda/sudoku/Geometry", "<init>", "(I)V"⟩ : MethodName) prog_22_method_1_code 5 none ({ frames := 1, cells := 34, slots := 756, locals := 12 } : Room) Z [] #[(.ref t0), (.int (3 : Int32))] h0 (own_QGeo3 Z t0 h0 n0) := by
  refine own_enter pn_1g3 ?_
  intro p e s m below meth c s₁ hx hby hml hown hnm hret hlk hZ e0 X0
  rw [ef_1g3]
  have N0 := Fr.nil n0
  show own_Fin _ _ _ _ _ _ _ (s₁.setTop (mkF m 0 #[.val (.ref t0), .val (.int (3 : Int32)), .unset, .unset, .unset] []))
  refine own_go (fun _ kk => XS.aloadN X0.here hx rfl (hb hby d1g3_0) rfl rfl kk) ?_
  show own_Fin _ _ _ _ _ _ _ (s₁.setTop (mkF m 1 #[.val (.ref t0), .val (.int (3 : Int32)), .unset, .unset, .unset] [(.ref t0)]))
  refine own_initO X0 hx hZ hown (hw _ (List.mem_of_getElem? (i := 10) rfl)) (hw _ (List.mem_of_getElem? (i := 11) rfl)) (hw _ (List.mem_of_getElem? (i := 12) rfl)) e0 (by rw [hml]; rfl) (hb hby d1g3_1) (by decide) (W := 0) (Nat.le_of_eq rfl) (by decide) ?_
  intro T1 X1 e1
  show own_Fin _ _ _ _ _ _ _ (T1.setTop (mkF m 4 #[.val (.ref t0), .val (.int (3 : Int32)), .unset, .unset, .unset] []))
  refine own_go (fun _ kk => XS.aloadN X1.here hx rfl (hb hby d1g3_4) rfl rfl (XS.iloadN X1.here hx rfl (hb hby d1g3_5) rfl (XS.iloadN X1.here hx rfl (hb hby d1g3_6) rfl (XS.imul X1.here hx rfl (hb hby d1g3_7) rfl kk)))) ?_
  show own_Fin _ _ _ _ _ _ _ (T1.setTop (mkF m 8 #[.val (.ref t0), .val (.int (3 : Int32)), .unset, .unset, .unset] [(.int (9 : Int32)), (.ref t0)]))
  refine own_putF X1 hx hZ hown (host := "") (Or.inl (hw _ (List.mem_of_getElem? (i := 13) rfl))) Via.refl e1 F_size E_t0 (Or.inr ⟨(hw _ (List.mem_of_getElem? (i := 14) rfl)), rfl, hnm⟩) (hw _ (List.mem_of_getElem? (i := 5) rfl)) (ty := .int) (by decide) rfl rfl (hb hby d1g3_8) ?_
  intro T2 h2 X2 e2 W2
  have f3 := E_t0.wr W2
  have f5 := F_rowOf.other W2 (Or.inr (slot_ne (Or.inr (hw _ (List.mem_of_getElem? (i := 17) rfl))) (Or.inr (hw _ (List.mem_of_getElem? (i := 14) rfl))) (by decide) (t := (.array .int)) (t' := .int) (by decide) (by decide)))
  have f6 := F_columnOf.other W2 (Or.inr (slot_ne (Or.inr (hw _ (List.mem_of_getElem? (i := 19) rfl))) (Or.inr (hw _ (List.mem_of_getElem? (i := 14) rfl))) (by decide) (t := (.array .int)) (t' := .int) (by decide) (by decide)))
  have f7 := F_boxOf.other W2 (Or.inr (slot_ne (Or.inr (hw _ (List.mem_of_getElem? (i := 21) rfl))) (Or.inr (hw _ (List.mem_of_getElem? (i := 14) rfl))) (by decide) (t := (.array .int)) (t' := .int) (by decide) (by decide)))
  have f8 := F_cellsOf.other W2 (Or.inr (slot_ne (Or.inr (hw _ (List.mem_of_getElem? (i := 25) rfl))) (Or.inr (hw _ (List.mem_of_getElem? (i := 14) rfl))) (by decide) (t := (.array (.array .int))) (t' := .int) (by decide) (by decide)))
  have f9 := F_indexInRow.other W2 (Or.inr (slot_ne (Or.inr (hw _ (List.mem_of_getElem? (i := 27) rfl))) (Or.inr (hw _ (List.mem_of_getElem? (i := 14) rfl))) (by decide) (t := (.array .int)) (t' := .int) (by decide) (by decide)))
  have f10 := F_indexInColumn.other W2 (Or.inr (slot_ne (Or.inr (hw _ (List.mem_of_getElem? (i := 29) rfl))) (Or.inr (hw _ (List.mem_of_getElem? (i := 14) rfl))) (by decide) (t := (.array .int)) (t' := .int) (by decide) (by decide)))
  have f11 := F_indexInBox.other W2 (Or.inr (slot_ne (Or.inr (hw _ (List.mem_of_getElem? (i := 31) rfl))) (Or.inr (hw _ (List.mem_of_getElem? (i := 14) rfl))) (by decide) (t := (.array .int)) (t' := .int) (by decide) (by decide)))
  have Z2 := Nat.le_trans Z0 (Keep.of_wr W2).1
  have K2 := (Keep.refl h0 [t0]).wr W2 (Or.inl (List.mem_of_getElem? (i := 0) rfl))
  have f12 := F_size.same W2
  have N2 := Fr.snoc X2 N0 g_t0
  show own_Fin _ _ _ _ _ _ _ (T2.setTop (mkF m 11 #[.val (.ref t0), .val (.int (3 : Int32)), .unset, .unset, .unset] []))
  refine own_go (fun _ kk => XS.aloadN X2.here hx rfl (hb hby d1g3_11) rfl rfl (XS.aloadN X2.here hx rfl (hb hby d1g3_12) rfl rfl kk)) ?_
  show own_Fin _ _ _ _ _ _ _ (T2.setTop (mkF m 13 #[.val (.ref t0), .val (.int (3 : Int32)), .unset, .unset, .unset] [(.ref t0), (.ref t0)]))
  refine own_getF X2 hx hZ hown (host := "") (Or.inl (hw _ (List.mem_of_getElem? (i := 13) rfl))) Via.refl e2 f12 (hb hby d1g3_13) ?_
  intro T13 X13 e13
  show own_Fin _ _ _ _ _ _ _ (T13.setTop (mkF m 16 #[.val (.ref t0), .val (.int (3 : Int32)), .unset, .unset, .unset] [(.int (9 : Int32)), (.ref t0)]))
  refine own_go (fun _ kk => XS.aloadN X13.here hx rfl (hb hby d1g3_16) rfl rfl kk) ?_
  show own_Fin _ _ _ _ _ _ _ (T13.setTop (mkF m 17 #[.val (.ref t0), .val (.int (3 : Int32)), .unset, .unset, .unset] [(.ref t0), (.int (9 : Int32)), (.ref t0)]))
  refine own_getF X13 hx hZ hown (host := "") (Or.inl (hw _ (List.mem_of_getElem? (i := 13) rfl))) Via.refl e13 f12 (hb hby d1g3_17) ?_
  intro T14 X14 e14
  show own_Fin _ _ _ _ _ _ _ (T14.setTop (mkF m 20 #[.val (.ref t0), .val (.int (3 : Int32)), .unset, .unset, .unset] [(.int (9 : Int32)), (.int (9 : Int32)), (.ref t0)]))
  refine own_go (fun _ kk => XS.imul X14.here hx rfl (hb hby d1g3_20) rfl kk) ?_
  show own_Fin _ _ _ _ _ _ _ (T14.setTop (mkF m 21 #[.val (.ref t0), .val (.int (3 : Int32)), .unset, .unset, .unset] [(.int (81 : Int32)), (.ref t0)]))
  refine own_newI X14 hx hZ (hw _ (List.mem_of_getElem? (i := 15) rfl)) e14 (hb hby d1g3_21) (by decide) (cap := 81) (by decide) (by decide) (by decide) (by decide) ?_
  intro T15 h15 b15 g15 X15 e15 E15 A15 D15
  have g_b15 : n0 ≤ b15 := Nat.le_trans Z2 (Nat.le_of_eq g15.symm)
  have ne_t0_b15 : t0 ≠ b15 := Nat.ne_of_lt (Nat.lt_of_lt_of_le f3.lt (Nat.le_of_eq g15.symm))
  have f16 := f3.ext E15
  have f17 := f12.ext E15
  have f18 := f5.ext E15
  have f19 := f6.ext E15
  have f20 := f7.ext E15
  have f21 := f8.ext E15
  have f22 := f9.ext E15
  have f23 := f10.ext E15
  have f24 := f11.ext E15
  have Z15 := Nat.le_trans Z2 E15.1
  have sz_b15 : h0.size ≤ b15 := Nat.le_trans K2.1 (Nat.le_of_eq g15.symm)
  have K15 := K2.ext E15
  have A15 : own_Ar Z h15 b15 .int (List.map Value.int (List.replicate 81 (0 : Int32))) := A15
  show own_Fin _ _ _ _ _ _ _ (T15.setTop (mkF m 23 #[.val (.ref t0), .val (.int (3 : Int32)), .unset, .unset, .unset] [(.ref b15), (.ref t0)]))
  refine own_putF X15 hx hZ hown (host := "") (Or.inl (hw _ (List.mem_of_getElem? (i := 16) rfl))) Via.refl e15 f18 f16 (Or.inr ⟨(hw _ (List.mem_of_getElem? (i := 17) rfl)), rfl, hnm⟩) (hw _ (List.mem_of_getElem? (i := 5) rfl)) (ty := (.array .int)) (by decide) rfl rfl (hb hby d1g3_23) ?_
  intro T25 h25 X25 e25 W25
  have f26 := f16.wr W25
  have f27 := f17.other W25 (Or.inr (slot_ne (Or.inr (hw _ (List.mem_of_getElem? (i := 14) rfl))) (Or.inr (hw _ (List.mem_of_getElem? (i := 17) rfl))) (by decide) (t := .int) (t' := (.array .int)) (by decide) (by decide)))
  have f29 := f19.other W25 (Or.inr (slot_ne (Or.inr (hw _ (List.mem_of_getElem? (i := 19) rfl))) (Or.inr (hw _ (List.mem_of_getElem? (i := 17) rfl))) (by decide) (t := (.array .int)) (t' := (.array .int)) (by decide) (by decide)))
  have f30 := f20.other W25 (Or.inr (slot_ne (Or.inr (hw _ (List.mem_of_getElem? (i := 21) rfl))) (Or.inr (hw _ (List.mem_of_getElem? (i := 17) rfl))) (by decide) (t := (.array .int)) (t' := (.array .int)) (by decide) (by decide)))
  have f31 := f21.other W25 (Or.inr (slot_ne (Or.inr (hw _ (List.mem_of_getElem? (i := 25) rfl))) (Or.inr (hw _ (List.mem_of_getElem? (i := 17) rfl))) (by decide) (t := (.array (.array .int))) (t' := (.array .int)) (by decide) (by decide)))
  have f32 := f22.other W25 (Or.inr (slot_ne (Or.inr (hw _ (List.mem_of_getElem? (i := 27) rfl))) (Or.inr (hw _ (List.mem_of_getElem? (i := 17) rfl))) (by decide) (t := (.array .int)) (t' := (.array .int)) (by decide) (by decide)))
  have f33 := f23.other W25 (Or.inr (slot_ne (Or.inr (hw _ (List.mem_of_getElem? (i := 29) rfl))) (Or.inr (hw _ (List.mem_of_getElem? (i := 17) rfl))) (by decide) (t := (.array .int)) (t' := (.array .int)) (by decide) (by decide)))
  have f34 := f24.other W25 (Or.inr (slot_ne (Or.inr (hw _ (List.mem_of_getElem? (i := 31) rfl))) (Or.inr (hw _ (List.mem_of_getElem? (i := 17) rfl))) (by decide) (t := (.array .int)) (t' := (.array .int)) (by decide) (by decide)))
  have f35 := A15.other W25 (Ne.symm ne_t0_b15)
  have f36 := D15.wr W25
  have Z25 := Nat.le_trans Z15 (Keep.of_wr W25).1
  have K25 := K15.wr W25 (Or.inl (List.mem_of_getElem? (i := 0) rfl))
  have f37 := f18.same W25
  have N25 := Fr.snoc X25 N2 g_t0
  show own_Fin _ _ _ _ _ _ _ (T25.setTop (mkF m 26 #[.val (.ref t0), .val (.int (3 : Int32)), .unset, .unset, .unset] []))
  refine own_go (fun _ kk => XS.aloadN X25.here hx rfl (hb hby d1g3_26) rfl rfl (XS.aloadN X25.here hx rfl (hb hby d1g3_27) rfl rfl kk)) ?_
  show own_Fin _ _ _ _ _ _ _ (T25.setTop (mkF m 28 #[.val (.ref t0), .val (.int (3 : Int32)), .unset, .unset, .unset] [(.ref t0), (.ref t0)]))
  refine own_getF X25 hx hZ hown (host := "") (Or.inl (hw _ (List.mem_of_getElem? (i := 13) rfl))) Via.refl e25 f27 (hb hby d1g3_28) ?_
  intro T38 X38 e38
  show own_Fin _ _ _ _ _ _ _ (T38.setTop (mkF m 31 #[.val (.ref t0), .val (.int (3 : Int32)), .unset, .unset, .unset] [(.int (9 : Int32)), (.ref t0)]))
  refine own_go (fun _ kk => XS.aloadN X38.here hx rfl (hb hby d1g3_31) rfl rfl kk) ?_
  show own_Fin _ _ _ _ _ _ _ (T38.setTop (mkF m 32 #[.val (.ref t0), .val (.int (3 : Int32)), .unset, .unset, .unset] [(.ref t0), (.int (9 : Int32)), (.ref t0)]))
  refine own_getF X38 hx hZ hown (host := "") (Or.inl (hw _ (List.mem_of_getElem? (i := 13) rfl))) Via.refl e38 f27 (hb hby d1g3_32) ?_
  intro T39 X39 e39
  show own_Fin _ _ _ _ _ _ _ (T39.setTop (mkF m 35 #[.val (.ref t0), .val (.int (3 : Int32)), .unset, .unset, .unset] [(.int (9 : Int32)), (.int (9 : Int32)), (.ref t0)]))
  refine own_go (fun _ kk => XS.imul X39.here hx rfl (hb hby d1g3_35) rfl kk) ?_
  show own_Fin _ _ _ _ _ _ _ (T39.setTop (mkF m 36 #[.val (.ref t0), .val (.int (3 : Int32)), .unset, .unset, .unset] [(.int (81 : Int32)), (.ref t0)]))
  refine own_newI X39 hx hZ (hw _ (List.mem_of_getElem? (i := 15) rfl)) e39 (hb hby d1g3_36) (by decide) (cap := 81) (by decide) (by decide) (by decide) (by decide) ?_
  intro T40 h40 b40 g40 X40 e40 E40 A40 D40
  have g_b40 : n0 ≤ b40 := Nat.le_trans Z25 (Nat.le_of_eq g40.symm)
  have ne_t0_b40 : t0 ≠ b40 := Nat.ne_of_lt (Nat.lt_of_lt_of_le f26.lt (Nat.le_of_eq g40.symm))
  have ne_b15_b40 : b15 ≠ b40 := Nat.ne_of_lt (Nat.lt_of_lt_of_le f35.lt (Nat.le_of_eq g40.symm))
  have f41 := f26.ext E40
  have f42 := f27.ext E40
  have f43 := f37.ext E40
  have f44 := f29.ext E40
  have f45 := f30.ext E40
  have f46 := f31.ext E40
  have f47 := f32.ext E40
  have f48 := f33.ext E40
  have f49 := f34.ext E40
  have f50 := f35.ext E40
  have f51 := f36.ext E40
  have Z40 := Nat.le_trans Z25 E40.1
  have sz_b40 : h0.size ≤ b40 := Nat.le_trans K25.1 (Nat.le_of_eq g40.symm)
  have K40 := K25.ext E40
  have A40 : own_Ar Z h40 b40 .int (List.map Value.int (List.replicate 81 (0 : Int32))) := A40
  show own_Fin _ _ _ _ _ _ _ (T40.setTop (mkF m 38 #[.val (.ref t0), .val (.int (3 : Int32)), .unset, .unset, .unset] [(.ref b40), (.ref t0)]))
  refine own_putF X40 hx hZ hown (host := "") (Or.inl (hw _ (List.mem_of_getElem? (i := 18) rfl))) Via.refl e40 f44 f41 (Or.inr ⟨(hw _ (List.mem_of_getElem? (i := 19) rfl)), rfl, hnm⟩) (hw _ (List.mem_of_getElem? (i := 5) rfl)) (ty := (.array .int)) (by decide) rfl rfl (hb hby d1g3_38) ?_
  intro T52 h52 X52 e52 W52
  have f53 := f41.wr W52
  have f54 := f42.other W52 (Or.inr (slot_ne (Or.inr (hw _ (List.mem_of_getElem? (i := 14) rfl))) (Or.inr (hw _ (List.mem_of_getElem? (i := 19) rfl))) (by decide) (t := .int) (t' := (.array .int)) (by decide) (by decide)))
  have f55 := f43.other W52 (Or.inr (slot_ne (Or.inr (hw _ (List.mem_of_getElem? (i := 17) rfl))) (Or.inr (hw _ (List.mem_of_getElem? (i := 19) rfl))) (by decide) (t := (.array .int)) (t' := (.array .int)) (by decide) (by decide)))
  have f57 := f45.other W52 (Or.inr (slot_ne (Or.inr (hw _ (List.mem_of_getElem? (i := 21) rfl))) (Or.inr (hw _ (List.mem_of_getElem? (i := 19) rfl))) (by decide) (t := (.array .int)) (t' := (.array .int)) (by decide) (by decide)))
  have f58 := f46.other W52 (Or.inr (slot_ne (Or.inr (hw _ (List.mem_of_getElem? (i := 25) rfl))) (Or.inr (hw _ (List.mem_of_getElem? (i := 19) rfl))) (by decide) (t := (.array (.array .int))) (t' := (.array .int)) (by decide) (by decide)))
  have f59 := f47.other W52 (Or.inr (slot_ne (Or.inr (hw _ (List.mem_of_getElem? (i := 27) rfl))) (Or.inr (hw _ (List.mem_of_getElem? (i := 19) rfl))) (by decide) (t := (.array .int)) (t' := (.array .int)) (by decide) (by decide)))
  have f60 := f48.other W52 (Or.inr (slot_ne (Or.inr (hw _ (List.mem_of_getElem? (i := 29) rfl))) (Or.inr (hw _ (List.mem_of_getElem? (i := 19) rfl))) (by decide) (t := (.array .int)) (t' := (.array .int)) (by decide) (by decide)))
  have f61 := f49.other W52 (Or.inr (slot_ne (Or.inr (hw _ (List.mem_of_getElem? (i := 31) rfl))) (Or.inr (hw _ (List.mem_of_getElem? (i := 19) rfl))) (by decide) (t := (.array .int)) (t' := (.array .int)) (by decide) (by decide)))
  have f62 := f50.other W52 (Ne.symm ne_t0_b15)
  have f63 := f51.wr W52
  have f64 := A40.other W52 (Ne.symm ne_t0_b40)
  have f65 := D40.wr W52
  have Z52 := Nat.le_trans Z40 (Keep.of_wr W52).1
  have K52 := K40.wr W52 (Or.inl (List.mem_of_getElem? (i := 0) rfl))
  have f66 := f44.same W52
  have N52 := Fr.snoc X52 N25 g_t0
  show own_Fin _ _ _ _ _ _ _ (T52.setTop (mkF m 41 #[.val (.ref t0), .val (.int (3 : Int32)), .unset, .unset, .unset] []))
  refine own_go (fun _ kk => XS.aloadN X52.here hx rfl (hb hby d1g3_41) rfl rfl (XS.aloadN X52.here hx rfl (hb hby d1g3_42) rfl rfl kk)) ?_
  show own_Fin _ _ _ _ _ _ _ (T52.setTop (mkF m 43 #[.val (.ref t0), .val (.int (3 : Int32)), .unset, .unset, .unset] [(.ref t0), (.ref t0)]))
  refine own_getF X52 hx hZ hown (host := "") (Or.inl (hw _ (List.mem_of_getElem? (i := 13) rfl))) Via.refl e52 f54 (hb hby d1g3_43) ?_
  intro T67 X67 e67
  show own_Fin _ _ _ _ _ _ _ (T67.setTop (mkF m 46 #[.val (.ref t0), .val (.int (3 : Int32)), .unset, .unset, .unset] [(.int (9 : Int32)), (.ref t0)]))
  refine own_go (fun _ kk => XS.aloadN X67.here hx rfl (hb hby d1g3_46) rfl rfl kk) ?_
  show own_Fin _ _ _ _ _ _ _ (T67.setTop (mkF m 47 #[.val (.ref t0), .val (.int (3 : Int32)), .unset, .unset, .unset] [(.ref t0), (.int (9 : Int32)), (.ref t0)]))
  refine own_getF X67 hx hZ hown (host := "") (Or.inl (hw _ (List.mem_of_getElem? (i := 13) rfl))) Via.refl e67 f54 (hb hby d1g3_47) ?_
  intro T68 X68 e68
  show own_Fin _ _ _ _ _ _ _ (T68.setTop (mkF m 50 #[.val (.ref t0), .val (.int (3 : Int32)), .unset, .unset, .unset] [(.int (9 : Int32)), (.int (9 : Int32)), (.ref t0)]))
  refine own_go (fun _ kk => XS.imul X68.here hx rfl (hb hby d1g3_50) rfl kk) ?_
  show own_Fin _ _ _ _ _ _ _ (T68.setTop (mkF m 51 #[.val (.ref t0), .val (.int (3 : Int32)), .unset, .unset, .unset] [(.int (81 : Int32)), (.ref t0)]))
  refine own_newI X68 hx hZ (hw _ (List.mem_of_getElem? (i := 15) rfl)) e68 (hb hby d1g3_51) (by decide) (cap := 81) (by decide) (by decide) (by decide) (by decide) ?_
  intro T69 h69 b69 g69 X69 e69 E69 A69 D69
  have g_b69 : n0 ≤ b69 := Nat.le_trans Z52 (Nat.le_of_eq g69.symm)
  have ne_t0_b69 : t0 ≠ b69 := Nat.ne_of_lt (Nat.lt_of_lt_of_le f53.lt (Nat.le_of_eq g69.symm))
  have ne_b15_b69 : b15 ≠ b69 := Nat.ne_of_lt (Nat.lt_of_lt_of_le f62.lt (Nat.le_of_eq g69.symm))
  have ne_b40_b69 : b40 ≠ b69 := Nat.ne_of_lt (Nat.lt_of_lt_of_le f64.lt (Nat.le_of_eq g69.symm))
  have f70 := f53.ext E69
  have f71 := f54.ext E69
  have f72 := f55.ext E69
  have f73 := f66.ext E69
  have f74 := f57.ext E69
  have f75 := f58.ext E69
  have f76 := f59.ext E69
  have f77 := f60.ext E69
  have f78 := f61.ext E69
  have f79 := f62.ext E69
  have f80 := f63.ext E69
  have f81 := f64.ext E69
  have f82 := f65.ext E69
  have Z69 := Nat.le_trans Z52 E69.1
  have sz_b69 : h0.size ≤ b69 := Nat.le_trans K52.1 (Nat.le_of_eq g69.symm)
  have K69 := K52.ext E69
  have A69 : own_Ar Z h69 b69 .int (List.map Value.int (List.replicate 81 (0 : Int32))) := A69
  show own_Fin _ _ _ _ _ _ _ (T69.setTop (mkF m 53 #[.val (.ref t0), .val (.int (3 : Int32)), .unset, .unset, .unset] [(.ref b69), (.ref t0)]))
  refine own_putF X69 hx hZ hown (host := "") (Or.inl (hw _ (List.mem_of_getElem? (i := 20) rfl))) Via.refl e69 f74 f70 (Or.inr ⟨(hw _ (List.mem_of_getElem? (i := 21) rfl)), rfl, hnm⟩) (hw _ (List.mem_of_getElem? (i := 5) rfl)) (ty := (.array .int)) (by decide) rfl rfl (hb hby d1g3_53) ?_
  intro T83 h83 X83 e83 W83
  have f84 := f70.wr W83
  have f85 := f71.other W83 (Or.inr (slot_ne (Or.inr (hw _ (List.mem_of_getElem? (i := 14) rfl))) (Or.inr (hw _ (List.mem_of_getElem? (i := 21) rfl))) (by decide) (t := .int) (t' := (.array .int)) (by decide) (by decide)))
  have f86 := f72.other W83 (Or.inr (slot_ne (Or.inr (hw _ (List.mem_of_getElem? (i := 17) rfl))) (Or.inr (hw _ (List.mem_of_getElem? (i := 21) rfl))) (by decide) (t := (.array .int)) (t' := (.array .int)) (by decide) (by decide)))
  have f87 := f73.other W83 (Or.inr (slot_ne (Or.inr (hw _ (List.mem_of_getElem? (i := 19) rfl))) (Or.inr (hw _ (List.mem_of_getElem? (i := 21) rfl))) (by decide) (t := (.array .int)) (t' := (.array .int)) (by decide) (by decide)))
  have f89 := f75.other W83 (Or.inr (slot_ne (Or.inr (hw _ (List.mem_of_getElem? (i := 25) rfl))) (Or.inr (hw _ (List.mem_of_getElem? (i := 21) rfl))) (by decide) (t := (.array (.array .int))) (t' := (.array .int)) (by decide) (by decide)))
  have f90 := f76.other W83 (Or.inr (slot_ne (Or.inr (hw _ (List.mem_of_getElem? (i := 27) rfl))) (Or.inr (hw _ (List.mem_of_getElem? (i := 21) rfl))) (by decide) (t := (.array .int)) (t' := (.array .int)) (by decide) (by decide)))
  have f91 := f77.other W83 (Or.inr (slot_ne (Or.inr (hw _ (List.mem_of_getElem? (i := 29) rfl))) (Or.inr (hw _ (List.mem_of_getElem? (i := 21) rfl))) (by decide) (t := (.array .int)) (t' := (.array .int)) (by decide) (by decide)))
  have f92 := f78.other W83 (Or.inr (slot_ne (Or.inr (hw _ (List.mem_of_getElem? (i := 31) rfl))) (Or.inr (hw _ (List.mem_of_getElem? (i := 21) rfl))) (by decide) (t := (.array .int)) (t' := (.array .int)) (by decide) (by decide)))
  have f93 := f79.other W83 (Ne.symm ne_t0_b15)
  have f94 := f80.wr W83
  have f95 := f81.other W83 (Ne.symm ne_t0_b40)
  have f96 := f82.wr W83
  have f97 := A69.other W83 (Ne.symm ne_t0_b69)
  have f98 := D69.wr W83
  have Z83 := Nat.le_trans Z69 (Keep.of_wr W83).1
  have K83 := K69.wr W83 (Or.inl (List.mem_of_getElem? (i := 0) rfl))
  have f99 := f74.same W83
  have N83 := Fr.snoc X83 N52 g_t0
  show own_Fin _ _ _ _ _ _ _ (T83.setTop (mkF m 56 #[.val (.ref t0), .val (.int (3 : Int32)), .unset, .unset, .unset] []))
  refine own_go (fun _ kk => XS.aloadN X83.here hx rfl (hb hby d1g3_56) rfl rfl (XS.iconst X83.here hx rfl (hb hby d1g3_57) (XS.aloadN X83.here hx rfl (hb hby d1g3_58) rfl rfl kk))) ?_
  show own_Fin _ _ _ _ _ _ _ (T83.setTop (mkF m 59 #[.val (.ref t0), .val (.int (3 : Int32)), .unset, .unset, .unset] [(.ref t0), (.int (3 : Int32)), (.ref t0)]))
  refine own_getF X83 hx hZ hown (host := "") (Or.inl (hw _ (List.mem_of_getElem? (i := 13) rfl))) Via.refl e83 f85 (hb hby d1g3_59) ?_
  intro T100 X100 e100
  show own_Fin _ _ _ _ _ _ _ (T100.setTop (mkF m 62 #[.val (.ref t0), .val (.int (3 : Int32)), .unset, .unset, .unset] [(.int (9 : Int32)), (.int (3 : Int32)), (.ref t0)]))
  refine own_go (fun _ kk => XS.imul X100.here hx rfl (hb hby d1g3_62) rfl (XS.aloadN X100.here hx rfl (hb hby d1g3_63) rfl rfl kk)) ?_
  show own_Fin _ _ _ _ _ _ _ (T100.setTop (mkF m 64 #[.val (.ref t0), .val (.int (3 : Int32)), .unset, .unset, .unset] [(.ref t0), (.int (27 : Int32)), (.ref t0)]))
  refine own_getF X100 hx hZ hown (host := "") (Or.inl (hw _ (List.mem_of_getElem? (i := 13) rfl))) Via.refl e100 f85 (hb hby d1g3_64) ?_
  intro T101 X101 e101
  show own_Fin _ _ _ _ _ _ _ (T101.setTop (mkF m 67 #[.val (.ref t0), .val (.int (3 : Int32)), .unset, .unset, .unset] [(.int (9 : Int32)), (.int (27 : Int32)), (.ref t0)]))
  refine own_grid X101 hx hZ hown (hw _ (List.mem_of_getElem? (i := 22) rfl)) (hw _ (List.mem_of_getElem? (i := 23) rfl)) (hw _ (List.mem_of_getElem? (i := 15) rfl)) e101 (hb hby d1g3_67) (by decide) (by decide) (mm := 27) (nn := 9) (by decide) (by decide) (by decide) (by decide) (by decide) (by decide) ?_
  intro T102 h102 b102 g102 X102 e102 E102 G102
  have gr_t0 : t0 < b102 ∨ b102 + 1 + 27 ≤ t0 := Or.inl (Nat.lt_of_lt_of_le f84.lt (Nat.le_of_eq g102.symm))
  have gr_b15 : b15 < b102 ∨ b102 + 1 + 27 ≤ b15 := Or.inl (Nat.lt_of_lt_of_le f93.lt (Nat.le_of_eq g102.symm))
  have gr_b40 : b40 < b102 ∨ b102 + 1 + 27 ≤ b40 := Or.inl (Nat.lt_of_lt_of_le f95.lt (Nat.le_of_eq g102.symm))
  have gr_b69 : b69 < b102 ∨ b102 + 1 + 27 ≤ b69 := Or.inl (Nat.lt_of_lt_of_le f97.lt (Nat.le_of_eq g102.symm))
  have g_b102 : n0 ≤ b102 := Nat.le_trans Z83 (Nat.le_of_eq g102.symm)
  have ne_t0_b102 : t0 ≠ b102 := Nat.ne_of_lt (Nat.lt_of_lt_of_le f84.lt (Nat.le_of_eq g102.symm))
  have ne_b15_b102 : b15 ≠ b102 := Nat.ne_of_lt (Nat.lt_of_lt_of_le f93.lt (Nat.le_of_eq g102.symm))
  have ne_b40_b102 : b40 ≠ b102 := Nat.ne_of_lt (Nat.lt_of_lt_of_le f95.lt (Nat.le_of_eq g102.symm))
  have ne_b69_b102 : b69 ≠ b102 := Nat.ne_of_lt (Nat.lt_of_lt_of_le f97.lt (Nat.le_of_eq g102.symm))
  have f103 := f84.ext E102
  have f104 := f85.ext E102
  have f105 := f86.ext E102
  have f106 := f87.ext E102
  have f107 := f99.ext E102
  have f108 := f89.ext E102
  have f109 := f90.ext E102
  have f110 := f91.ext E102
  have f111 := f92.ext E102
  have f112 := f93.ext E102
  have f113 := f94.ext E102
  have f114 := f95.ext E102
  have f115 := f96.ext E102
  have f116 := f97.ext E102
  have f117 := f98.ext E102
  have Z102 := Nat.le_trans Z83 E102.1
  have sz_b102 : h0.size ≤ b102 := Nat.le_trans K83.1 (Nat.le_of_eq g102.symm)
  have K102 := K83.ext E102
  show own_Fin _ _ _ _ _ _ _ (T102.setTop (mkF m 71 #[.val (.ref t0), .val (.int (3 : Int32)), .unset, .unset, .unset] [(.ref b102), (.ref t0)]))
  refine own_putF X102 hx hZ hown (host := "") (Or.inl (hw _ (List.mem_of_getElem? (i := 24) rfl))) Via.refl e102 f108 f103 (Or.inr ⟨(hw _ (List.mem_of_getElem? (i := 25) rfl)), rfl, hnm⟩) (hw _ (List.mem_of_getElem? (i := 5) rfl)) (ty := (.array (.array .int))) (by decide) rfl rfl (hb hby d1g3_71) ?_
  intro T118 h118 X118 e118 W118
  have f119 := f103.wr W118
  have f120 := f104.other W118 (Or.inr (slot_ne (Or.inr (hw _ (List.mem_of_getElem? (i := 14) rfl))) (Or.inr (hw _ (List.mem_of_getElem? (i := 25) rfl))) (by decide) (t := .int) (t' := (.array (.array .int))) (by decide) (by decide)))
  have f121 := f105.other W118 (Or.inr (slot_ne (Or.inr (hw _ (List.mem_of_getElem? (i := 17) rfl))) (Or.inr (hw _ (List.mem_of_getElem? (i := 25) rfl))) (by decide) (t := (.array .int)) (t' := (.array (.array .int))) (by decide) (by decide)))
  have f122 := f106.other W118 (Or.inr (slot_ne (Or.inr (hw _ (List.mem_of_getElem? (i := 19) rfl))) (Or.inr (hw _ (List.mem_of_getElem? (i := 25) rfl))) (by decide) (t := (.array .int)) (t' := (.array (.array .int))) (by decide) (by decide)))
  have f123 := f107.other W118 (Or.inr (slot_ne (Or.inr (hw _ (List.mem_of_getElem? (i := 21) rfl))) (Or.inr (hw _ (List.mem_of_getElem? (i := 25) rfl))) (by decide) (t := (.array .int)) (t' := (.array (.array .int))) (by decide) (by decide)))
  have f125 := f109.other W118 (Or.inr (slot_ne (Or.inr (hw _ (List.mem_of_getElem? (i := 27) rfl))) (Or.inr (hw _ (List.mem_of_getElem? (i := 25) rfl))) (by decide) (t := (.array .int)) (t' := (.array (.array .int))) (by decide) (by decide)))
  have f126 := f110.other W118 (Or.inr (slot_ne (Or.inr (hw _ (List.mem_of_getElem? (i := 29) rfl))) (Or.inr (hw _ (List.mem_of_getElem? (i := 25) rfl))) (by decide) (t := (.array .int)) (t' := (.array (.array .int))) (by decide) (by decide)))
  have f127 := f111.other W118 (Or.inr (slot_ne (Or.inr (hw _ (List.mem_of_getElem? (i := 31) rfl))) (Or.inr (hw _ (List.mem_of_getElem? (i := 25) rfl))) (by decide) (t := (.array .int)) (t' := (.array (.array .int))) (by decide) (by decide)))
  have f128 := f112.other W118 (Ne.symm ne_t0_b15)
  have f129 := f113.wr W118
  have f130 := f114.other W118 (Ne.symm ne_t0_b40)
  have f131 := f115.wr W118
  have f132 := f116.other W118 (Ne.symm ne_t0_b69)
  have f133 := f117.wr W118
  have Z118 := Nat.le_trans Z102 (Keep.of_wr W118).1
  have K118 := K102.wr W118 (Or.inl (List.mem_of_getElem? (i := 0) rfl))
  have f134 := G102.other W118 gr_t0
  have f135 := f108.same W118
  have N118 := Fr.snoc X118 N83 g_t0
  show own_Fin _ _ _ _ _ _ _ (T118.setTop (mkF m 74 #[.val (.ref t0), .val (.int (3 : Int32)), .unset, .unset, .unset] []))
  refine own_go (fun _ kk => XS.aloadN X118.here hx rfl (hb hby d1g3_74) rfl rfl (XS.aloadN X118.here hx rfl (hb hby d1g3_75) rfl rfl kk)) ?_
  show own_Fin _ _ _ _ _ _ _ (T118.setTop (mkF m 76 #[.val (.ref t0), .val (.int (3 : Int32)), .unset, .unset, .unset] [(.ref t0), (.ref t0)]))
  refine own_getF X118 hx hZ hown (host := "") (Or.inl (hw _ (List.mem_of_getElem? (i := 13) rfl))) Via.refl e118 f120 (hb hby d1g3_76) ?_
  intro T136 X136 e136
  show own_Fin _ _ _ _ _ _ _ (T136.setTop (mkF m 79 #[.val (.ref t0), .val (.int (3 : Int32)), .unset, .unset, .unset] [(.int (9 : Int32)), (.ref t0)]))
  refine own_go (fun _ kk => XS.aloadN X136.here hx rfl (hb hby d1g3_79) rfl rfl kk) ?_
  show own_Fin _ _ _ _ _ _ _ (T136.setTop (mkF m 80 #[.val (.ref t0), .val (.int (3 : Int32)), .unset, .unset, .unset] [(.ref t0), (.int (9 : Int32)), (.ref t0)]))
  refine own_getF X136 hx hZ hown (host := "") (Or.inl (hw _ (List.mem_of_getElem? (i := 13) rfl))) Via.refl e136 f120 (hb hby d1g3_80) ?_
  intro T137 X137 e137
  show own_Fin _ _ _ _ _ _ _ (T137.setTop (mkF m 83 #[.val (.ref t0), .val (.int (3 : Int32)), .unset, .unset, .unset] [(.int (9 : Int32)), (.int (9 : Int32)), (.ref t0)]))
  refine own_go (fun _ kk => XS.imul X137.here hx rfl (hb hby d1g3_83) rfl kk) ?_
  show own_Fin _ _ _ _ _ _ _ (T137.setTop (mkF m 84 #[.val (.ref t0), .val (.int (3 : Int32)), .unset, .unset, .unset] [(.int (81 : Int32)), (.ref t0)]))
  refine own_newI X137 hx hZ (hw _ (List.mem_of_getElem? (i := 15) rfl)) e137 (hb hby d1g3_84) (by decide) (cap := 81) (by decide) (by decide) (by decide) (by decide) ?_
  intro T138 h138 b138 g138 X138 e138 E138 A138 D138
  have g_b138 : n0 ≤ b138 := Nat.le_trans Z118 (Nat.le_of_eq g138.symm)
  have ne_t0_b138 : t0 ≠ b138 := Nat.ne_of_lt (Nat.lt_of_lt_of_le f119.lt (Nat.le_of_eq g138.symm))
  have ne_b15_b138 : b15 ≠ b138 := Nat.ne_of_lt (Nat.lt_of_lt_of_le f128.lt (Nat.le_of_eq g138.symm))
  have ne_b40_b138 : b40 ≠ b138 := Nat.ne_of_lt (Nat.lt_of_lt_of_le f130.lt (Nat.le_of_eq g138.symm))
  have ne_b69_b138 : b69 ≠ b138 := Nat.ne_of_lt (Nat.lt_of_lt_of_le f132.lt (Nat.le_of_eq g138.symm))
  have f139 := f119.ext E138
  have f140 := f120.ext E138
  have f141 := f121.ext E138
  have f142 := f122.ext E138
  have f143 := f123.ext E138
  have f144 := f135.ext E138
  have f145 := f125.ext E138
  have f146 := f126.ext E138
  have f147 := f127.ext E138
  have f148 := f128.ext E138
  have f149 := f129.ext E138
  have f150 := f130.ext E138
  have f151 := f131.ext E138
  have f152 := f132.ext E138
  have f153 := f133.ext E138
  have Z138 := Nat.le_trans Z118 E138.1
  have sz_b138 : h0.size ≤ b138 := Nat.le_trans K118.1 (Nat.le_of_eq g138.symm)
  have K138 := K118.ext E138
  have f154 := f134.ext E138
  have gr_b138 : b138 < b102 ∨ b102 + 1 + 27 ≤ b138 := Or.inr (Nat.le_trans (f134.top (by decide)) (Nat.le_of_eq g138.symm))
  have ne_b102_b138 : b102 ≠ b138 := Nat.ne_of_lt (Nat.lt_of_lt_of_le f134.lt (Nat.le_of_eq g138.symm))
  have A138 : own_Ar Z h138 b138 .int (List.map Value.int (List.replicate 81 (0 : Int32))) := A138
  show own_Fin _ _ _ _ _ _ _ (T138.setTop (mkF m 86 #[.val (.ref t0), .val (.int (3 : Int32)), .unset, .unset, .unset] [(.ref b138), (.ref t0)]))
  refine own_putF X138 hx hZ hown (host := "") (Or.inl (hw _ (List.mem_of_getElem? (i := 26) rfl))) Via.refl e138 f145 f139 (Or.inr ⟨(hw _ (List.mem_of_getElem? (i := 27) rfl)), rfl, hnm⟩) (hw _ (List.mem_of_getElem? (i := 5) rfl)) (ty := (.array .int)) (by decide) rfl rfl (hb hby d1g3_86) ?_
  intro T155 h155 X155 e155 W155
  have f156 := f139.wr W155
  have f157 := f140.other W155 (Or.inr (slot_ne (Or.inr (hw _ (List.mem_of_getElem? (i := 14) rfl))) (Or.inr (hw _ (List.mem_of_getElem? (i := 27) rfl))) (by decide) (t := .int) (t' := (.array .int)) (by decide) (by decide)))
  have f158 := f141.other W155 (Or.inr (slot_ne (Or.inr (hw _ (List.mem_of_getElem? (i := 17) rfl))) (Or.inr (hw _ (List.mem_of_getElem? (i := 27) rfl))) (by decide) (t := (.array .int)) (t' := (.array .int)) (by decide) (by decide)))
  have f159 := f142.other W155 (Or.inr (slot_ne (Or.inr (hw _ (List.mem_of_getElem? (i := 19) rfl))) (Or.inr (hw _ (List.mem_of_getElem? (i := 27) rfl))) (by decide) (t := (.array .int)) (t' := (.array .int)) (by decide) (by decide)))
  have f160 := f143.other W155 (Or.inr (slot_ne (Or.inr (hw _ (List.mem_of_getElem? (i := 21) rfl))) (Or.inr (hw _ (List.mem_of_getElem? (i := 27) rfl))) (by decide) (t := (.array .int)) (t' := (.array .int)) (by decide) (by decide)))
  have f161 := f144.other W155 (Or.inr (slot_ne (Or.inr (hw _ (List.mem_of_getElem? (i := 25) rfl))) (Or.inr (hw _ (List.mem_of_getElem? (i := 27) rfl))) (by decide) (t := (.array (.array .int))) (t' := (.array .int)) (by decide) (by decide)))
  have f163 := f146.other W155 (Or.inr (slot_ne (Or.inr (hw _ (List.mem_of_getElem? (i := 29) rfl))) (Or.inr (hw _ (List.mem_of_getElem? (i := 27) rfl))) (by decide) (t := (.array .int)) (t' := (.array .int)) (by decide) (by decide)))
  have f164 := f147.other W155 (Or.inr (slot_ne (Or.inr (hw _ (List.mem_of_getElem? (i := 31) rfl))) (Or.inr (hw _ (List.mem_of_getElem? (i := 27) rfl))) (by decide) (t := (.array .int)) (t' := (.array .int)) (by decide) (by decide)))
  have f165 := f148.other W155 (Ne.symm ne_t0_b15)
  have f166 := f149.wr W155
  have f167 := f150.other W155 (Ne.symm ne_t0_b40)
  have f168 := f151.wr W155
  have f169 := f152.other W155 (Ne.symm ne_t0_b69)
  have f170 := f153.wr W155
  have f171 := A138.other W155 (Ne.symm ne_t0_b138)
  have f172 := D138.wr W155
  have Z155 := Nat.le_trans Z138 (Keep.of_wr W155).1
  have K155 := K138.wr W155 (Or.inl (List.mem_of_getElem? (i := 0) rfl))
  have f173 := f154.other W155 gr_t0
  have f174 := f145.same W155
  have N155 := Fr.snoc X155 N118 g_t0
  show own_Fin _ _ _ _ _ _ _ (T155.setTop (mkF m 89 #[.val (.ref t0), .val (.int (3 : Int32)), .unset, .unset, .unset] []))
  refine own_go (fun _ kk => XS.aloadN X155.here hx rfl (hb hby d1g3_89) rfl rfl (XS.aloadN X155.here hx rfl (hb hby d1g3_90) rfl rfl kk)) ?_
  show own_Fin _ _ _ _ _ _ _ (T155.setTop (mkF m 91 #[.val (.ref t0), .val (.int (3 : Int32)), .unset, .unset, .unset] [(.ref t0), (.ref t0)]))
  refine own_getF X155 hx hZ hown (host := "") (Or.inl (hw _ (List.mem_of_getElem? (i := 13) rfl))) Via.refl e155 f157 (hb hby d1g3_91) ?_
  intro T175 X175 e175
  show own_Fin _ _ _ _ _ _ _ (T175.setTop (mkF m 94 #[.val (.ref t0), .val (.int (3 : Int32)), .unset, .unset, .unset] [(.int (9 : Int32)), (.ref t0)]))
  refine own_go (fun _ kk => XS.aloadN X175.here hx rfl (hb hby d1g3_94) rfl rfl kk) ?_
  show own_Fin _ _ _ _ _ _ _ (T175.setTop (mkF m 95 #[.val (.ref t0), .val (.int (3 : Int32)), .unset, .unset, .unset] [(.ref t0), (.int (9 : Int32)), (.ref t0)]))
  refine own_getF X175 hx hZ hown (host := "") (Or.inl (hw _ (List.mem_of_getElem? (i := 13) rfl))) Via.refl e175 f157 (hb hby d1g3_95) ?_
  intro T176 X176 e176
  show own_Fin _ _ _ _ _ _ _ (T176.setTop (mkF m 98 #[.val (.ref t0), .val (.int (3 : Int32)), .unset, .unset, .unset] [(.int (9 : Int32)), (.int (9 : Int32)), (.ref t0)]))
  refine own_go (fun _ kk => XS.imul X176.here hx rfl (hb hby d1g3_98) rfl kk) ?_
  show own_Fin _ _ _ _ _ _ _ (T176.setTop (mkF m 99 #[.val (.ref t0), .val (.int (3 : Int32)), .unset, .unset, .unset] [(.int (81 : Int32)), (.ref t0)]))
  refine own_newI X176 hx hZ (hw _ (List.mem_of_getElem? (i := 15) rfl)) e176 (hb hby d1g3_99) (by decide) (cap := 81) (by decide) (by decide) (by decide) (by decide) ?_
  intro T177 h177 b177 g177 X177 e177 E177 A177 D177
  have g_b177 : n0 ≤ b177 := Nat.le_trans Z155 (Nat.le_of_eq g177.symm)
  have ne_t0_b177 : t0 ≠ b177 := Nat.ne_of_lt (Nat.lt_of_lt_of_le f156.lt (Nat.le_of_eq g177.symm))
  have ne_b15_b177 : b15 ≠ b177 := Nat.ne_of_lt (Nat.lt_of_lt_of_le f165.lt (Nat.le_of_eq g177.symm))
  have ne_b40_b177 : b40 ≠ b177 := Nat.ne_of_lt (Nat.lt_of_lt_of_le f167.lt (Nat.le_of_eq g177.symm))
  have ne_b69_b177 : b69 ≠ b177 := Nat.ne_of_lt (Nat.lt_of_lt_of_le f169.lt (Nat.le_of_eq g177.symm))
  have ne_b138_b177 : b138 ≠ b177 := Nat.ne_of_lt (Nat.lt_of_lt_of_le f171.lt (Nat.le_of_eq g177.symm))
  have f178 := f156.ext E177
  have f179 := f157.ext E177
  have f180 := f158.ext E177
  have f181 := f159.ext E177
  have f182 := f160.ext E177
  have f183 := f161.ext E177
  have f184 := f174.ext E177
  have f185 := f163.ext E177
  have f186 := f164.ext E177
  have f187 := f165.ext E177
  have f188 := f166.ext E177
  have f189 := f167.ext E177
  have f190 := f168.ext E177
  have f191 := f169.ext E177
  have f192 := f170.ext E177
  have f193 := f171.ext E177
  have f194 := f172.ext E177
  have Z177 := Nat.le_trans Z155 E177.1
  have sz_b177 : h0.size ≤ b177 := Nat.le_trans K155.1 (Nat.le_of_eq g177.symm)
  have K177 := K155.ext E177
  have f195 := f173.ext E177
  have gr_b177 : b177 < b102 ∨ b102 + 1 + 27 ≤ b177 := Or.inr (Nat.le_trans (f173.top (by decide)) (Nat.le_of_eq g177.symm))
  have ne_b102_b177 : b102 ≠ b177 := Nat.ne_of_lt (Nat.lt_of_lt_of_le f173.lt (Nat.le_of_eq g177.symm))
  have A177 : own_Ar Z h177 b177 .int (List.map Value.int (List.replicate 81 (0 : Int32))) := A177
  show own_Fin _ _ _ _ _ _ _ (T177.setTop (mkF m 101 #[.val (.ref t0), .val (.int (3 : Int32)), .unset, .unset, .unset] [(.ref b177), (.ref t0)]))
  refine own_putF X177 hx hZ hown (host := "") (Or.inl (hw _ (List.mem_of_getElem? (i := 28) rfl))) Via.refl e177 f185 f178 (Or.inr ⟨(hw _ (List.mem_of_getElem? (i := 29) rfl)), rfl, hnm⟩) (hw _ (List.mem_of_getElem? (i := 5) rfl)) (ty := (.array .int)) (by decide) rfl rfl (hb hby d1g3_101) ?_
  intro T196 h196 X196 e196 W196
  have f197 := f178.wr W196
  have f198 := f179.other W196 (Or.inr (slot_ne (Or.inr (hw _ (List.mem_of_getElem? (i := 14) rfl))) (Or.inr (hw _ (List.mem_of_getElem? (i := 29) rfl))) (by decide) (t := .int) (t' := (.array .int)) (by decide) (by decide)))
  have f199 := f180.other W196 (Or.inr (slot_ne (Or.inr (hw _ (List.mem_of_getElem? (i := 17) rfl))) (Or.inr (hw _ (List.mem_of_getElem? (i := 29) rfl))) (by decide) (t := (.array .int)) (t' := (.array .int)) (by decide) (by decide)))
  have f200 := f181.other W196 (Or.inr (slot_ne (Or.inr (hw _ (List.mem_of_getElem? (i := 19) rfl))) (Or.inr (hw _ (List.mem_of_getElem? (i := 29) rfl))) (by decide) (t := (.array .int)) (t' := (.array .int)) (by decide) (by decide)))
  have f201 := f182.other W196 (Or.inr (slot_ne (Or.inr (hw _ (List.mem_of_getElem? (i := 21) rfl))) (Or.inr (hw _ (List.mem_of_getElem? (i := 29) rfl))) (by decide) (t := (.array .int)) (t' := (.array .int)) (by decide) (by decide)))
  have f202 := f183.other W196 (Or.inr (slot_ne (Or.inr (hw _ (List.mem_of_getElem? (i := 25) rfl))) (Or.inr (hw _ (List.mem_of_getElem? (i := 29) rfl))) (by decide) (t := (.array (.array .int))) (t' := (.array .int)) (by decide) (by decide)))
  have f203 := f184.other W196 (Or.inr (slot_ne (Or.inr (hw _ (List.mem_of_getElem? (i := 27) rfl))) (Or.inr (hw _ (List.mem_of_getElem? (i := 29) rfl))) (by decide) (t := (.array .int)) (t' := (.array .int)) (by decide) (by decide)))
  have f205 := f186.other W196 (Or.inr (slot_ne (Or.inr (hw _ (List.mem_of_getElem? (i := 31) rfl))) (Or.inr (hw _ (List.mem_of_getElem? (i := 29) rfl))) (by decide) (t := (.array .int)) (t' := (.array .int)) (by decide) (by decide)))
  have f206 := f187.other W196 (Ne.symm ne_t0_b15)
  have f207 := f188.wr W196
  have f208 := f189.other W196 (Ne.symm ne_t0_b40)
  have f209 := f190.wr W196
  have f210 := f191.other W196 (Ne.symm ne_t0_b69)
  have f211 := f192.wr W196
  have f212 := f193.other W196 (Ne.symm ne_t0_b138)
  have f213 := f194.wr W196
  have f214 := A177.other W196 (Ne.symm ne_t0_b177)
  have f215 := D177.wr W196
  have Z196 := Nat.le_trans Z177 (Keep.of_wr W196).1
  have K196 := K177.wr W196 (Or.inl (List.mem_of_getElem? (i := 0) rfl))
  have f216 := f195.other W196 gr_t0
  have f217 := f185.same W196
  have N196 := Fr.snoc X196 N155 g_t0
  show own_Fin _ _ _ _ _ _ _ (T196.setTop (mkF m 104 #[.val (.ref t0), .val (.int (3 : Int32)), .unset, .unset, .unset] []))
  refine own_go (fun _ kk => XS.aloadN X196.here hx rfl (hb hby d1g3_104) rfl rfl (XS.aloadN X196.here hx rfl (hb hby d1g3_105) rfl rfl kk)) ?_
  show own_Fin _ _ _ _ _ _ _ (T196.setTop (mkF m 106 #[.val (.ref t0), .val (.int (3 : Int32)), .unset, .unset, .unset] [(.ref t0), (.ref t0)]))
  refine own_getF X196 hx hZ hown (host := "") (Or.inl (hw _ (List.mem_of_getElem? (i := 13) rfl))) Via.refl e196 f198 (hb hby d1g3_106) ?_
  intro T218 X218 e218
  show own_Fin _ _ _ _ _ _ _ (T218.setTop (mkF m 109 #[.val (.ref t0), .val (.int (3 : Int32)), .unset, .unset, .unset] [(.int (9 : Int32)), (.ref t0)]))
  refine own_go (fun _ kk => XS.aloadN X218.here hx rfl (hb hby d1g3_109) rfl rfl kk) ?_
  show own_Fin _ _ _ _ _ _ _ (T218.setTop (mkF m 110 #[.val (.ref t0), .val (.int (3 : Int32)), .unset, .unset, .unset] [(.ref t0), (.int (9 : Int32)), (.ref t0)]))
  refine own_getF X218 hx hZ hown (host := "") (Or.inl (hw _ (List.mem_of_getElem? (i := 13) rfl))) Via.refl e218 f198 (hb hby d1g3_110) ?_
  intro T219 X219 e219
  show own_Fin _ _ _ _ _ _ _ (T219.setTop (mkF m 113 #[.val (.ref t0), .val (.int (3 : Int32)), .unset, .unset, .unset] [(.int (9 : Int32)), (.int (9 : Int32)), (.ref t0)]))
  refine own_go (fun _ kk => XS.imul X219.here hx rfl (hb hby d1g3_113) rfl kk) ?_
  show own_Fin _ _ _ _ _ _ _ (T219.setTop (mkF m 114 #[.val (.ref t0), .val (.int (3 : Int32)), .unset, .unset, .unset] [(.int (81 : Int32)), (.ref t0)]))
  refine own_newI X219 hx hZ (hw _ (List.mem_of_getElem? (i := 15) rfl)) e219 (hb hby d1g3_114) (by decide) (cap := 81) (by decide) (by decide) (by decide) (by decide) ?_
  intro T220 h220 b220 g220 X220 e220 E220 A220 D220
  have g_b220 : n0 ≤ b220 := Nat.le_trans Z196 (Nat.le_of_eq g220.symm)
  have ne_t0_b220 : t0 ≠ b220 := Nat.ne_of_lt (Nat.lt_of_lt_of_le f197.lt (Nat.le_of_eq g220.symm))
  have ne_b15_b220 : b15 ≠ b220 := Nat.ne_of_lt (Nat.lt_of_lt_of_le f206.lt (Nat.le_of_eq g220.symm))
  have ne_b40_b220 : b40 ≠ b220 := Nat.ne_of_lt (Nat.lt_of_lt_of_le f208.lt (Nat.le_of_eq g220.symm))
  have ne_b69_b220 : b69 ≠ b220 := Nat.ne_of_lt (Nat.lt_of_lt_of_le f210.lt (Nat.le_of_eq g220.symm))
  have ne_b138_b220 : b138 ≠ b220 := Nat.ne_of_lt (Nat.lt_of_lt_of_le f212.lt (Nat.le_of_eq g220.symm))
  have ne_b177_b220 : b177 ≠ b220 := Nat.ne_of_lt (Nat.lt_of_lt_of_le f214.lt (Nat.le_of_eq g220.symm))
  have f221 := f197.ext E220
  have f222 := f198.ext E220
  have f223 := f199.ext E220
  have f224 := f200.ext E220
  have f225 := f201.ext E220
  have f226 := f202.ext E220
  have f227 := f203.ext E220
  have f228 := f217.ext E220
  have f229 := f205.ext E220
  have f230 := f206.ext E220
  have f231 := f207.ext E220
  have f232 := f208.ext E220
  have f233 := f209.ext E220
  have f234 := f210.ext E220
  have f235 := f211.ext E220
  have f236 := f212.ext E220
  have f237 := f213.ext E220
  have f238 := f214.ext E220
  have f239 := f215.ext E220
  have Z220 := Nat.le_trans Z196 E220.1
  have sz_b220 : h0.size ≤ b220 := Nat.le_trans K196.1 (Nat.le_of_eq g220.symm)
  have K220 := K196.ext E220
  have f240 := f216.ext E220
  have gr_b220 : b220 < b102 ∨ b102 + 1 + 27 ≤ b220 := Or.inr (Nat.le_trans (f216.top (by decide)) (Nat.le_of_eq g220.symm))
  have ne_b102_b220 : b102 ≠ b220 := Nat.ne_of_lt (Nat.lt_of_lt_of_le f216.lt (Nat.le_of_eq g220.symm))
  have A220 : own_Ar Z h220 b220 .int (List.map Value.int (List.replicate 81 (0 : Int32))) := A220
  show own_Fin _ _ _ _ _ _ _ (T220.setTop (mkF m 116 #[.val (.ref t0), .val (.int (3 : Int32)), .unset, .unset, .unset] [(.ref b220), (.ref t0)]))
  refine own_putF X220 hx hZ hown (host := "") (Or.inl (hw _ (List.mem_of_getElem? (i := 30) rfl))) Via.refl e220 f229 f221 (Or.inr ⟨(hw _ (List.mem_of_getElem? (i := 31) rfl)), rfl, hnm⟩) (hw _ (List.mem_of_getElem? (i := 5) rfl)) (ty := (.array .int)) (by decide) rfl rfl (hb hby d1g3_116) ?_
  intro T241 h241 X241 e241 W241
  have f242 := f221.wr W241
  have f243 := f222.other W241 (Or.inr (slot_ne (Or.inr (hw _ (List.mem_of_getElem? (i := 14) rfl))) (Or.inr (hw _ (List.mem_of_getElem? (i := 31) rfl))) (by decide) (t := .int) (t' := (.array .int)) (by decide) (by decide)))
  have f244 := f223.other W241 (Or.inr (slot_ne (Or.inr (hw _ (List.mem_of_getElem? (i := 17) rfl))) (Or.inr (hw _ (List.mem_of_getElem? (i := 31) rfl))) (by decide) (t := (.array .int)) (t' := (.array .int)) (by decide) (by decide)))
  have f245 := f224.other W241 (Or.inr (slot_ne (Or.inr (hw _ (List.mem_of_getElem? (i := 19) rfl))) (Or.inr (hw _ (List.mem_of_getElem? (i := 31) rfl))) (by decide) (t := (.array .int)) (t' := (.array .int)) (by decide) (by decide)))
  have f246 := f225.other W241 (Or.inr (slot_ne (Or.inr (hw _ (List.mem_of_getElem? (i := 21) rfl))) (Or.inr (hw _ (List.mem_of_getElem? (i := 31) rfl))) (by decide) (t := (.array .int)) (t' := (.array .int)) (by decide) (by decide)))
  have f247 := f226.other W241 (Or.inr (slot_ne (Or.inr (hw _ (List.mem_of_getElem? (i := 25) rfl))) (Or.inr (hw _ (List.mem_of_getElem? (i := 31) rfl))) (by decide) (t := (.array (.array .int))) (t' := (.array .int)) (by decide) (by decide)))
  have f248 := f227.other W241 (Or.inr (slot_ne (Or.inr (hw _ (List.mem_of_getElem? (i := 27) rfl))) (Or.inr (hw _ (List.mem_of_getElem? (i := 31) rfl))) (by decide) (t := (.array .int)) (t' := (.array .int)) (by decide) (by decide)))
  have f249 := f228.other W241 (Or.inr (slot_ne (Or.inr (hw _ (List.mem_of_getElem? (i := 29) rfl))) (Or.inr (hw _ (List.mem_of_getElem? (i := 31) rfl))) (by decide) (t := (.array .int)) (t' := (.array .int)) (by decide) (by decide)))
  have f251 := f230.other W241 (Ne.symm ne_t0_b15)
  have f252 := f231.wr W241
  have f253 := f232.other W241 (Ne.symm ne_t0_b40)
  have f254 := f233.wr W241
  have f255 := f234.other W241 (Ne.symm ne_t0_b69)
  have f256 := f235.wr W241
  have f257 := f236.other W241 (Ne.symm ne_t0_b138)
  have f258 := f237.wr W241
  have f259 := f238.other W241 (Ne.symm ne_t0_b177)
  have f260 := f239.wr W241
  have f261 := A220.other W241 (Ne.symm ne_t0_b220)
  have f262 := D220.wr W241
  have Z241 := Nat.le_trans Z220 (Keep.of_wr W241).1
  have K241 := K220.wr W241 (Or.inl (List.mem_of_getElem? (i := 0) rfl))
  have f263 := f240.other W241 gr_t0
  have f264 := f229.same W241
  have N241 := Fr.snoc X241 N196 g_t0
  show own_Fin _ _ _ _ _ _ _ (T241.setTop (mkF m 119 #[.val (.ref t0), .val (.int (3 : Int32)), .unset, .unset, .unset] []))
  refine own_go (fun _ kk => XS.iconst X241.here hx rfl (hb hby d1g3_119) (XS.istoreN X241.here hx rfl (hb hby d1g3_120) rfl (l' := #[.val (.ref t0), .val (.int (3 : Int32)), .val (.int (0 : Int32)), .unset, .unset]) rfl kk)) ?_
  show own_Fin _ _ _ _ _ _ _ (T241.setTop (mkF m 121 #[.val (.ref t0), .val (.int (3 : Int32)), .val (.int (0 : Int32)), .unset, .unset] []))
  have L121 : ∀ (mm : Nat) (TL121 : State) (hL121 : Heap) (locsL121 : List Loc) (i : Nat) (s3 : Slot) (s4 : Slot), 81 - i = mm → (i ≤ 81) → (s3 = .unset ∨ ∃ w, s3 = .val w ∧ w.category = 1) → (s4 = .unset ∨ ∃ w, s4 = .val w ∧ w.category = 1) → Stand p l e ({ frames := 1, cells := 34, slots := 756, locals := 12 } : Room) s m #[(.ref t0), (.int (3 : Int32))] below meth c TL121 locsL121 34 756 → Fr n0 locsL121 → TL121.heap = hL121 → Keep h0 hL121 [t0] → n0 ≤ hL121.size → Exa Z hL121 t0 "com/example/onda/onda/sudoku/Geometry" → Fld Z hL121 t0 "com/example/onda/onda/sudoku/Geometry" "size" "I" (.int (9 : Int32)) → Fld Z hL121 t0 "com/example/onda/onda/sudoku/Geometry" "rowOf" "[I" (.ref b15) → Fld Z hL121 t0 "com/example/onda/onda/sudoku/Geometry" "columnOf" "[I" (.ref b40) → Fld Z hL121 t0 "com/example/onda/onda/sudoku/Geometry" "boxOf" "[I" (.ref b69) → Fld Z hL121 t0 "com/example/onda/onda/sudoku/Geometry" "cellsOf" "[[I" (.ref b102) → Fld Z hL121 t0 "com/example/onda/onda/sudoku/Geometry" "indexInRow" "[I" (.ref b138) → Fld Z hL121 t0 "com/example/onda/onda/sudoku/Geometry" "indexInColumn" "[I" (.ref b177) → Fld Z hL121 t0 "com/example/onda/onda/sudoku/Geometry" "indexInBox" "[I" (.ref b220) → own_Ar Z hL121 b15 .int ((own_L own_fR3 81 i).map Value.int) → own_Ar Z hL121 b40 .int ((own_L own_fC3 81 i).map Value.int) → own_Ar Z hL121 b69 .int ((own_L own_fB3 81 i).map Value.int) → own_Ar Z hL121 b138 .int ((own_L own_fIR3 81 i).map Value.int) → own_Ar Z hL121 b177 .int ((own_L own_fIC3 81 i).map Value.int) → own_Ar Z hL121 b220 .int ((own_L own_fIB3 81 i).map Value.int) → own_Grid Z hL121 b102 27 9 → own_Fin p e below s (own_QGeo3 Z t0 h0 n0) ({ frames := 1, cells := 34, slots := 756, locals := 12 } : Room).cells ({ frames := 1, cells := 34, slots := 756, locals := 12 } : Room).slots (TL121.setTop (mkF m 121 #[.val (.ref t0), .val (.int (3 : Int32)), .val (.int (Int32.ofNat i)), s3, s4] [])) := by
    intro mm
    induction mm using Nat.strongRecOn with
    | _ mm ih =>
    intro TL121 hL121 locsL121 i s3 s4 hmm hi h_s3 h_s4 XL121 NL121 eL121 KL121 ZL121 El Fl_size Fl_rowOf Fl_columnOf Fl_boxOf Fl_cellsOf Fl_indexInRow Fl_indexInColumn Fl_indexInBox Vl_rowOf Vl_columnOf Vl_boxOf Vl_indexInRow Vl_indexInColumn Vl_indexInBox Gl
    refine own_go (fun _ kk => XS.iloadN XL121.here hx rfl (hb hby d1g3_121) rfl (XS.aloadN XL121.here hx rfl (hb hby d1g3_122) rfl rfl kk)) ?_
    show own_Fin _ _ _ _ _ _ _ (TL121.setTop (mkF m 123 #[.val (.ref t0), .val (.int (3 : Int32)), .val (.int (Int32.ofNat i)), s3, s4] [(.ref t0), (.int (Int32.ofNat i))]))
    refine own_getF XL121 hx hZ hown (host := "") (Or.inl (hw _ (List.mem_of_getElem? (i := 13) rfl))) Via.refl eL121 Fl_size (hb hby d1g3_123) ?_
    intro T265 X265 e265
    show own_Fin _ _ _ _ _ _ _ (T265.setTop (mkF m 126 #[.val (.ref t0), .val (.int (3 : Int32)), .val (.int (Int32.ofNat i)), s3, s4] [(.int (9 : Int32)), (.int (Int32.ofNat i))]))
    refine own_go (fun _ kk => XS.aloadN X265.here hx rfl (hb hby d1g3_126) rfl rfl kk) ?_
    show own_Fin _ _ _ _ _ _ _ (T265.setTop (mkF m 127 #[.val (.ref t0), .val (.int (3 : Int32)), .val (.int (Int32.ofNat i)), s3, s4] [(.ref t0), (.int (9 : Int32)), (.int (Int32.ofNat i))]))
    refine own_getF X265 hx hZ hown (host := "") (Or.inl (hw _ (List.mem_of_getElem? (i := 13) rfl))) Via.refl e265 Fl_size (hb hby d1g3_127) ?_
    intro T266 X266 e266
    show own_Fin _ _ _ _ _ _ _ (T266.setTop (mkF m 130 #[.val (.ref t0), .val (.int (3 : Int32)), .val (.int (Int32.ofNat i)), s3, s4] [(.int (9 : Int32)), (.int (9 : Int32)), (.int (Int32.ofNat i))]))
    refine own_go (fun _ kk => XS.imul X266.here hx rfl (hb hby d1g3_130) rfl kk) ?_
    show own_Fin _ _ _ _ _ _ _ (T266.setTop (mkF m 131 #[.val (.ref t0), .val (.int (3 : Int32)), .val (.int (Int32.ofNat i)), s3, s4] [(.int (81 : Int32)), (.int (Int32.ofNat i))]))
    by_cases hc131 : (Int32.ofNat i) < (81 : Int32)
    · refine own_go (fun _ kk => XS.icmpNo X266.here hx rfl (hb hby d1g3_131) rfl (XT.ii_ge_f hc131) kk) ?_
      show own_Fin _ _ _ _ _ _ _ (T266.setTop (mkF m 134 #[.val (.ref t0), .val (.int (3 : Int32)), .val (.int (Int32.ofNat i)), s3, s4] []))
      have hi' : i < 81 := (own_ltN i 81 (by omega) (by decide)).mp hc131
      refine own_go (fun _ kk => XS.iloadN X266.here hx rfl (hb hby d1g3_134) rfl (XS.aloadN X266.here hx rfl (hb hby d1g3_135) rfl rfl kk)) ?_
      show own_Fin _ _ _ _ _ _ _ (T266.setTop (mkF m 136 #[.val (.ref t0), .val (.int (3 : Int32)), .val (.int (Int32.ofNat i)), s3, s4] [(.ref t0), (.int (Int32.ofNat i))]))
      refine own_getF X266 hx hZ hown (host := "") (Or.inl (hw _ (List.mem_of_getElem? (i := 13) rfl))) Via.refl e266 Fl_size (hb hby d1g3_136) ?_
      intro T267 X267 e267
      show own_Fin _ _ _ _ _ _ _ (T267.setTop (mkF m 139 #[.val (.ref t0), .val (.int (3 : Int32)), .val (.int (Int32.ofNat i)), s3, s4] [(.int (9 : Int32)), (.int (Int32.ofNat i))]))
      refine own_go (fun _ kk => XS.idiv X267.here hx rfl (hb hby d1g3_139) rfl (by decide) (XS.istoreNS X267.here hx rfl (hb hby d1g3_140) rfl rfl h_s3 (XS.iloadN X267.here hx rfl (hb hby d1g3_141) rfl (XS.aloadN X267.here hx rfl (hb hby d1g3_142) rfl rfl kk)))) ?_
      show own_Fin _ _ _ _ _ _ _ (T267.setTop (mkF m 143 #[.val (.ref t0), .val (.int (3 : Int32)), .val (.int (Int32.ofNat i)), .val (.int ((Int32.ofNat i) / (9 : Int32))), s4] [(.ref t0), (.int (Int32.ofNat i))]))
      refine own_getF X267 hx hZ hown (host := "") (Or.inl (hw _ (List.mem_of_getElem? (i := 13) rfl))) Via.refl e267 Fl_size (hb hby d1g3_143) ?_
      intro T268 X268 e268
      show own_Fin _ _ _ _ _ _ _ (T268.setTop (mkF m 146 #[.val (.ref t0), .val (.int (3 : Int32)), .val (.int (Int32.ofNat i)), .val (.int ((Int32.ofNat i) / (9 : Int32))), s4] [(.int (9 : Int32)), (.int (Int32.ofNat i))]))
      refine own_go (fun _ kk => iremM X268 hx rfl (hb hby d1g3_146) rfl (by decide) (XS.istoreS X268.here hx rfl (hb hby d1g3_147) rfl rfl h_s4 (XS.aloadN X268.here hx rfl (hb hby d1g3_149) rfl rfl kk))) ?_
      show own_Fin _ _ _ _ _ _ _ (T268.setTop (mkF m 150 #[.val (.ref t0), .val (.int (3 : Int32)), .val (.int (Int32.ofNat i)), .val (.int ((Int32.ofNat i) / (9 : Int32))), .val (.int ((Int32.ofNat i) % (9 : Int32)))] [(.ref t0)]))
      refine own_getF X268 hx hZ hown (host := "") (Or.inl (hw _ (List.mem_of_getElem? (i := 16) rfl))) Via.refl e268 Fl_rowOf (hb hby d1g3_150) ?_
      intro T269 X269 e269
      show own_Fin _ _ _ _ _ _ _ (T269.setTop (mkF m 153 #[.val (.ref t0), .val (.int (3 : Int32)), .val (.int (Int32.ofNat i)), .val (.int ((Int32.ofNat i) / (9 : Int32))), .val (.int ((Int32.ofNat i) % (9 : Int32)))] [(.ref b15)]))
      refine own_go (fun _ kk => XS.iloadN X269.here hx rfl (hb hby d1g3_153) rfl (XS.iloadN X269.here hx rfl (hb hby d1g3_154) rfl kk)) ?_
      show own_Fin _ _ _ _ _ _ _ (T269.setTop (mkF m 155 #[.val (.ref t0), .val (.int (3 : Int32)), .val (.int (Int32.ofNat i)), .val (.int ((Int32.ofNat i) / (9 : Int32))), .val (.int ((Int32.ofNat i) % (9 : Int32)))] [(.int ((Int32.ofNat i) / (9 : Int32))), (.int (Int32.ofNat i)), (.ref b15)]))
      refine own_stI X269 hx hZ e269 Vl_rowOf (own_nn (by omega)) (by rw [own_Llen, own_tn (by omega)]; exact hi') (hb hby d1g3_155) ?_
      intro T270 h270 X270 e270 W270 A270
      have f271 := El.wr W270
      have f272 := Fl_size.other W270 (Or.inl ne_t0_b15)
      have f273 := Fl_rowOf.other W270 (Or.inl ne_t0_b15)
      have f274 := Fl_columnOf.other W270 (Or.inl ne_t0_b15)
      have f275 := Fl_boxOf.other W270 (Or.inl ne_t0_b15)
      have f276 := Fl_cellsOf.other W270 (Or.inl ne_t0_b15)
      have f277 := Fl_indexInRow.other W270 (Or.inl ne_t0_b15)
      have f278 := Fl_indexInColumn.other W270 (Or.inl ne_t0_b15)
      have f279 := Fl_indexInBox.other W270 (Or.inl ne_t0_b15)
      have f281 := Vl_columnOf.other W270 (Ne.symm ne_b15_b40)
      have f282 := Vl_boxOf.other W270 (Ne.symm ne_b15_b69)
      have f283 := Vl_indexInRow.other W270 (Ne.symm ne_b15_b138)
      have f284 := Vl_indexInColumn.other W270 (Ne.symm ne_b15_b177)
      have f285 := Vl_indexInBox.other W270 (Ne.symm ne_b15_b220)
      have Z270 := Nat.le_trans ZL121 (Keep.of_wr W270).1
      have K270 := KL121.wr W270 (Or.inr sz_b15)
      have f286 := Gl.other W270 gr_b15
      have N270 := Fr.snoc X270 NL121 g_b15
      show own_Fin _ _ _ _ _ _ _ (T270.setTop (mkF m 156 #[.val (.ref t0), .val (.int (3 : Int32)), .val (.int (Int32.ofNat i)), .val (.int ((Int32.ofNat i) / (9 : Int32))), .val (.int ((Int32.ofNat i) % (9 : Int32)))] []))
      have V287 : own_Ar Z h270 b15 .int (List.map Value.int (own_L own_fR3 81 (i + 1))) := by rw [← own_Lset (f := own_fR3) hi' (by decide)]; exact A270
      refine own_go (fun _ kk => XS.aloadN X270.here hx rfl (hb hby d1g3_156) rfl rfl kk) ?_
      show own_Fin _ _ _ _ _ _ _ (T270.setTop (mkF m 157 #[.val (.ref t0), .val (.int (3 : Int32)), .val (.int (Int32.ofNat i)), .val (.int ((Int32.ofNat i) / (9 : Int32))), .val (.int ((Int32.ofNat i) % (9 : Int32)))] [(.ref t0)]))
      refine own_getF X270 hx hZ hown (host := "") (Or.inl (hw _ (List.mem_of_getElem? (i := 18) rfl))) Via.refl e270 f274 (hb hby d1g3_157) ?_
      intro T288 X288 e288
      show own_Fin _ _ _ _ _ _ _ (T288.setTop (mkF m 160 #[.val (.ref t0), .val (.int (3 : Int32)), .val (.int (Int32.ofNat i)), .val (.int ((Int32.ofNat i) / (9 : Int32))), .val (.int ((Int32.ofNat i) % (9 : Int32)))] [(.ref b40)]))
      refine own_go (fun _ kk => XS.iloadN X288.here hx rfl (hb hby d1g3_160) rfl (XS.aloadN X288.here hx rfl (hb hby d1g3_161) rfl rfl kk)) ?_
      show own_Fin _ _ _ _ _ _ _ (T288.setTop (mkF m 162 #[.val (.ref t0), .val (.int (3 : Int32)), .val (.int (Int32.ofNat i)), .val (.int ((Int32.ofNat i) / (9 : Int32))), .val (.int ((Int32.ofNat i) % (9 : Int32)))] [(.ref t0), (.int (Int32.ofNat i)), (.ref b40)]))
      refine own_getF X288 hx hZ hown (host := "") (Or.inl (hw _ (List.mem_of_getElem? (i := 13) rfl))) Via.refl e288 f272 (hb hby d1g3_162) ?_
      intro T289 X289 e289
      show own_Fin _ _ _ _ _ _ _ (T289.setTop (mkF m 165 #[.val (.ref t0), .val (.int (3 : Int32)), .val (.int (Int32.ofNat i)), .val (.int ((Int32.ofNat i) / (9 : Int32))), .val (.int ((Int32.ofNat i) % (9 : Int32)))] [(.int (9 : Int32)), (.int (Int32.ofNat i)), (.ref b40)]))
      refine own_go (fun _ kk => XS.iload X289.here hx rfl (hb hby d1g3_165) rfl (XS.iadd X289.here hx rfl (hb hby d1g3_167) rfl kk)) ?_
      show own_Fin _ _ _ _ _ _ _ (T289.setTop (mkF m 168 #[.val (.ref t0), .val (.int (3 : Int32)), .val (.int (Int32.ofNat i)), .val (.int ((Int32.ofNat i) / (9 : Int32))), .val (.int ((Int32.ofNat i) % (9 : Int32)))] [(.int ((9 : Int32) + ((Int32.ofNat i) % (9 : Int32)))), (.int (Int32.ofNat i)), (.ref b40)]))
      refine own_stI X289 hx hZ e289 f281 (own_nn (by omega)) (by rw [own_Llen, own_tn (by omega)]; exact hi') (hb hby d1g3_168) ?_
      intro T290 h290 X290 e290 W290 A290
      have f291 := f271.wr W290
      have f292 := f272.other W290 (Or.inl ne_t0_b40)
      have f293 := f273.other W290 (Or.inl ne_t0_b40)
      have f294 := f274.other W290 (Or.inl ne_t0_b40)
      have f295 := f275.other W290 (Or.inl ne_t0_b40)
      have f296 := f276.other W290 (Or.inl ne_t0_b40)
      have f297 := f277.other W290 (Or.inl ne_t0_b40)
      have f298 := f278.other W290 (Or.inl ne_t0_b40)
      have f299 := f279.other W290 (Or.inl ne_t0_b40)
      have f300 := V287.other W290 ne_b15_b40
      have f302 := f282.other W290 (Ne.symm ne_b40_b69)
      have f303 := f283.other W290 (Ne.symm ne_b40_b138)
      have f304 := f284.other W290 (Ne.symm ne_b40_b177)
      have f305 := f285.other W290 (Ne.symm ne_b40_b220)
      have Z290 := Nat.le_trans Z270 (Keep.of_wr W290).1
      have K290 := K270.wr W290 (Or.inr sz_b40)
      have f306 := f286.other W290 gr_b40
      have N290 := Fr.snoc X290 N270 g_b40
      show own_Fin _ _ _ _ _ _ _ (T290.setTop (mkF m 169 #[.val (.ref t0), .val (.int (3 : Int32)), .val (.int (Int32.ofNat i)), .val (.int ((Int32.ofNat i) / (9 : Int32))), .val (.int ((Int32.ofNat i) % (9 : Int32)))] []))
      have V307 : own_Ar Z h290 b40 .int (List.map Value.int (own_L own_fC3 81 (i + 1))) := by rw [← own_Lset (f := own_fC3) hi' (by decide)]; exact A290
      refine own_go (fun _ kk => XS.aloadN X290.here hx rfl (hb hby d1g3_169) rfl rfl kk) ?_
      show own_Fin _ _ _ _ _ _ _ (T290.setTop (mkF m 170 #[.val (.ref t0), .val (.int (3 : Int32)), .val (.int (Int32.ofNat i)), .val (.int ((Int32.ofNat i) / (9 : Int32))), .val (.int ((Int32.ofNat i) % (9 : Int32)))] [(.ref t0)]))
      refine own_getF X290 hx hZ hown (host := "") (Or.inl (hw _ (List.mem_of_getElem? (i := 20) rfl))) Via.refl e290 f295 (hb hby d1g3_170) ?_
      intro T308 X308 e308
      show own_Fin _ _ _ _ _ _ _ (T308.setTop (mkF m 173 #[.val (.ref t0), .val (.int (3 : Int32)), .val (.int (Int32.ofNat i)), .val (.int ((Int32.ofNat i) / (9 : Int32))), .val (.int ((Int32.ofNat i) % (9 : Int32)))] [(.ref b69)]))
      refine own_go (fun _ kk => XS.iloadN X308.here hx rfl (hb hby d1g3_173) rfl (XS.iconst X308.here hx rfl (hb hby d1g3_174) (XS.aloadN X308.here hx rfl (hb hby d1g3_175) rfl rfl kk))) ?_
      show own_Fin _ _ _ _ _ _ _ (T308.setTop (mkF m 176 #[.val (.ref t0), .val (.int (3 : Int32)), .val (.int (Int32.ofNat i)), .val (.int ((Int32.ofNat i) / (9 : Int32))), .val (.int ((Int32.ofNat i) % (9 : Int32)))] [(.ref t0), (.int (2 : Int32)), (.int (Int32.ofNat i)), (.ref b69)]))
      refine own_getF X308 hx hZ hown (host := "") (Or.inl (hw _ (List.mem_of_getElem? (i := 13) rfl))) Via.refl e308 f292 (hb hby d1g3_176) ?_
      intro T309 X309 e309
      show own_Fin _ _ _ _ _ _ _ (T309.setTop (mkF m 179 #[.val (.ref t0), .val (.int (3 : Int32)), .val (.int (Int32.ofNat i)), .val (.int ((Int32.ofNat i) / (9 : Int32))), .val (.int ((Int32.ofNat i) % (9 : Int32)))] [(.int (9 : Int32)), (.int (2 : Int32)), (.int (Int32.ofNat i)), (.ref b69)]))
      refine own_go (fun _ kk => XS.imul X309.here hx rfl (hb hby d1g3_179) rfl (XS.iloadN X309.here hx rfl (hb hby d1g3_180) rfl (XS.iloadN X309.here hx rfl (hb hby d1g3_181) rfl (XS.idiv X309.here hx rfl (hb hby d1g3_182) rfl (by decide) (XS.iloadN X309.here hx rfl (hb hby d1g3_183) rfl (XS.imul X309.here hx rfl (hb hby d1g3_184) rfl (XS.iadd X309.here hx rfl (hb hby d1g3_185) rfl (XS.iload X309.here hx rfl (hb hby d1g3_186) rfl (XS.iloadN X309.here hx rfl (hb hby d1g3_188) rfl (XS.idiv X309.here hx rfl (hb hby d1g3_189) rfl (by decide) kk)))))))))) ?_
      show own_Fin _ _ _ _ _ _ _ (T309.setTop (mkF m 190 #[.val (.ref t0), .val (.int (3 : Int32)), .val (.int (Int32.ofNat i)), .val (.int ((Int32.ofNat i) / (9 : Int32))), .val (.int ((Int32.ofNat i) % (9 : Int32)))] [(.int (((Int32.ofNat i) % (9 : Int32)) / (3 : Int32))), (.int ((18 : Int32) + ((((Int32.ofNat i) / (9 : Int32)) / (3 : Int32)) * (3 : Int32)))), (.int (Int32.ofNat i)), (.ref b69)]))
      refine own_go (fun _ kk => XS.iadd X309.here hx rfl (hb hby d1g3_190) rfl kk) ?_
      show own_Fin _ _ _ _ _ _ _ (T309.setTop (mkF m 191 #[.val (.ref t0), .val (.int (3 : Int32)), .val (.int (Int32.ofNat i)), .val (.int ((Int32.ofNat i) / (9 : Int32))), .val (.int ((Int32.ofNat i) % (9 : Int32)))] [(.int (((18 : Int32) + ((((Int32.ofNat i) / (9 : Int32)) / (3 : Int32)) * (3 : Int32))) + (((Int32.ofNat i) % (9 : Int32)) / (3 : Int32)))), (.int (Int32.ofNat i)), (.ref b69)]))
      refine own_stI X309 hx hZ e309 f302 (own_nn (by omega)) (by rw [own_Llen, own_tn (by omega)]; exact hi') (hb hby d1g3_191) ?_
      intro T310 h310 X310 e310 W310 A310
      have f311 := f291.wr W310
      have f312 := f292.other W310 (Or.inl ne_t0_b69)
      have f313 := f293.other W310 (Or.inl ne_t0_b69)
      have f314 := f294.other W310 (Or.inl ne_t0_b69)
      have f315 := f295.other W310 (Or.inl ne_t0_b69)
      have f316 := f296.other W310 (Or.inl ne_t0_b69)
      have f317 := f297.other W310 (Or.inl ne_t0_b69)
      have f318 := f298.other W310 (Or.inl ne_t0_b69)
      have f319 := f299.other W310 (Or.inl ne_t0_b69)
      have f320 := f300.other W310 ne_b15_b69
      have f321 := V307.other W310 ne_b40_b69
      have f323 := f303.other W310 (Ne.symm ne_b69_b138)
      have f324 := f304.other W310 (Ne.symm ne_b69_b177)
      have f325 := f305.other W310 (Ne.symm ne_b69_b220)
      have Z310 := Nat.le_trans Z290 (Keep.of_wr W310).1
      have K310 := K290.wr W310 (Or.inr sz_b69)
      have f326 := f306.other W310 gr_b69
      have N310 := Fr.snoc X310 N290 g_b69
      show own_Fin _ _ _ _ _ _ _ (T310.setTop (mkF m 192 #[.val (.ref t0), .val (.int (3 : Int32)), .val (.int (Int32.ofNat i)), .val (.int ((Int32.ofNat i) / (9 : Int32))), .val (.int ((Int32.ofNat i) % (9 : Int32)))] []))
      have V327 : own_Ar Z h310 b69 .int (List.map Value.int (own_L own_fB3 81 (i + 1))) := by rw [← own_Lset (f := own_fB3) hi' (by decide)]; exact A310
      refine own_go (fun _ kk => XS.aloadN X310.here hx rfl (hb hby d1g3_192) rfl rfl kk) ?_
      show own_Fin _ _ _ _ _ _ _ (T310.setTop (mkF m 193 #[.val (.ref t0), .val (.int (3 : Int32)), .val (.int (Int32.ofNat i)), .val (.int ((Int32.ofNat i) / (9 : Int32))), .val (.int ((Int32.ofNat i) % (9 : Int32)))] [(.ref t0)]))
      refine own_getF X310 hx hZ hown (host := "") (Or.inl (hw _ (List.mem_of_getElem? (i := 26) rfl))) Via.refl e310 f317 (hb hby d1g3_193) ?_
      intro T328 X328 e328
      show own_Fin _ _ _ _ _ _ _ (T328.setTop (mkF m 196 #[.val (.ref t0), .val (.int (3 : Int32)), .val (.int (Int32.ofNat i)), .val (.int ((Int32.ofNat i) / (9 : Int32))), .val (.int ((Int32.ofNat i) % (9 : Int32)))] [(.ref b138)]))
      refine own_go (fun _ kk => XS.iloadN X328.here hx rfl (hb hby d1g3_196) rfl (XS.iload X328.here hx rfl (hb hby d1g3_197) rfl kk)) ?_
      show own_Fin _ _ _ _ _ _ _ (T328.setTop (mkF m 199 #[.val (.ref t0), .val (.int (3 : Int32)), .val (.int (Int32.ofNat i)), .val (.int ((Int32.ofNat i) / (9 : Int32))), .val (.int ((Int32.ofNat i) % (9 : Int32)))] [(.int ((Int32.ofNat i) % (9 : Int32))), (.int (Int32.ofNat i)), (.ref b138)]))
      refine own_stI X328 hx hZ e328 f323 (own_nn (by omega)) (by rw [own_Llen, own_tn (by omega)]; exact hi') (hb hby d1g3_199) ?_
      intro T329 h329 X329 e329 W329 A329
      have f330 := f311.wr W329
      have f331 := f312.other W329 (Or.inl ne_t0_b138)
      have f332 := f313.other W329 (Or.inl ne_t0_b138)
      have f333 := f314.other W329 (Or.inl ne_t0_b138)
      have f334 := f315.other W329 (Or.inl ne_t0_b138)
      have f335 := f316.other W329 (Or.inl ne_t0_b138)
      have f336 := f317.other W329 (Or.inl ne_t0_b138)
      have f337 := f318.other W329 (Or.inl ne_t0_b138)
      have f338 := f319.other W329 (Or.inl ne_t0_b138)
      have f339 := f320.other W329 ne_b15_b138
      have f340 := f321.other W329 ne_b40_b138
      have f341 := V327.other W329 ne_b69_b138
      have f343 := f324.other W329 (Ne.symm ne_b138_b177)
      have f344 := f325.other W329 (Ne.symm ne_b138_b220)
      have Z329 := Nat.le_trans Z310 (Keep.of_wr W329).1
      have K329 := K310.wr W329 (Or.inr sz_b138)
      have f345 := f326.other W329 gr_b138
      have N329 := Fr.snoc X329 N310 g_b138
      show own_Fin _ _ _ _ _ _ _ (T329.setTop (mkF m 200 #[.val (.ref t0), .val (.int (3 : Int32)), .val (.int (Int32.ofNat i)), .val (.int ((Int32.ofNat i) / (9 : Int32))), .val (.int ((Int32.ofNat i) % (9 : Int32)))] []))
      have V346 : own_Ar Z h329 b138 .int (List.map Value.int (own_L own_fIR3 81 (i + 1))) := by rw [← own_Lset (f := own_fIR3) hi' (by decide)]; exact A329
      refine own_go (fun _ kk => XS.aloadN X329.here hx rfl (hb hby d1g3_200) rfl rfl kk) ?_
      show own_Fin _ _ _ _ _ _ _ (T329.setTop (mkF m 201 #[.val (.ref t0), .val (.int (3 : Int32)), .val (.int (Int32.ofNat i)), .val (.int ((Int32.ofNat i) / (9 : Int32))), .val (.int ((Int32.ofNat i) % (9 : Int32)))] [(.ref t0)]))
      refine own_getF X329 hx hZ hown (host := "") (Or.inl (hw _ (List.mem_of_getElem? (i := 28) rfl))) Via.refl e329 f337 (hb hby d1g3_201) ?_
      intro T347 X347 e347
      show own_Fin _ _ _ _ _ _ _ (T347.setTop (mkF m 204 #[.val (.ref t0), .val (.int (3 : Int32)), .val (.int (Int32.ofNat i)), .val (.int ((Int32.ofNat i) / (9 : Int32))), .val (.int ((Int32.ofNat i) % (9 : Int32)))] [(.ref b177)]))
      refine own_go (fun _ kk => XS.iloadN X347.here hx rfl (hb hby d1g3_204) rfl (XS.iloadN X347.here hx rfl (hb hby d1g3_205) rfl kk)) ?_
      show own_Fin _ _ _ _ _ _ _ (T347.setTop (mkF m 206 #[.val (.ref t0), .val (.int (3 : Int32)), .val (.int (Int32.ofNat i)), .val (.int ((Int32.ofNat i) / (9 : Int32))), .val (.int ((Int32.ofNat i) % (9 : Int32)))] [(.int ((Int32.ofNat i) / (9 : Int32))), (.int (Int32.ofNat i)), (.ref b177)]))
      refine own_stI X347 hx hZ e347 f343 (own_nn (by omega)) (by rw [own_Llen, own_tn (by omega)]; exact hi') (hb hby d1g3_206) ?_
      intro T348 h348 X348 e348 W348 A348
      have f349 := f330.wr W348
      have f350 := f331.other W348 (Or.inl ne_t0_b177)
      have f351 := f332.other W348 (Or.inl ne_t0_b177)
      have f352 := f333.other W348 (Or.inl ne_t0_b177)
      have f353 := f334.other W348 (Or.inl ne_t0_b177)
      have f354 := f335.other W348 (Or.inl ne_t0_b177)
      have f355 := f336.other W348 (Or.inl ne_t0_b177)
      have f356 := f337.other W348 (Or.inl ne_t0_b177)
      have f357 := f338.other W348 (Or.inl ne_t0_b177)
      have f358 := f339.other W348 ne_b15_b177
      have f359 := f340.other W348 ne_b40_b177
      have f360 := f341.other W348 ne_b69_b177
      have f361 := V346.other W348 ne_b138_b177
      have f363 := f344.other W348 (Ne.symm ne_b177_b220)
      have Z348 := Nat.le_trans Z329 (Keep.of_wr W348).1
      have K348 := K329.wr W348 (Or.inr sz_b177)
      have f364 := f345.other W348 gr_b177
      have N348 := Fr.snoc X348 N329 g_b177
      show own_Fin _ _ _ _ _ _ _ (T348.setTop (mkF m 207 #[.val (.ref t0), .val (.int (3 : Int32)), .val (.int (Int32.ofNat i)), .val (.int ((Int32.ofNat i) / (9 : Int32))), .val (.int ((Int32.ofNat i) % (9 : Int32)))] []))
      have V365 : own_Ar Z h348 b177 .int (List.map Value.int (own_L own_fIC3 81 (i + 1))) := by rw [← own_Lset (f := own_fIC3) hi' (by decide)]; exact A348
      refine own_go (fun _ kk => XS.aloadN X348.here hx rfl (hb hby d1g3_207) rfl rfl kk) ?_
      show own_Fin _ _ _ _ _ _ _ (T348.setTop (mkF m 208 #[.val (.ref t0), .val (.int (3 : Int32)), .val (.int (Int32.ofNat i)), .val (.int ((Int32.ofNat i) / (9 : Int32))), .val (.int ((Int32.ofNat i) % (9 : Int32)))] [(.ref t0)]))
      refine own_getF X348 hx hZ hown (host := "") (Or.inl (hw _ (List.mem_of_getElem? (i := 30) rfl))) Via.refl e348 f357 (hb hby d1g3_208) ?_
      intro T366 X366 e366
      show own_Fin _ _ _ _ _ _ _ (T366.setTop (mkF m 211 #[.val (.ref t0), .val (.int (3 : Int32)), .val (.int (Int32.ofNat i)), .val (.int ((Int32.ofNat i) / (9 : Int32))), .val (.int ((Int32.ofNat i) % (9 : Int32)))] [(.ref b220)]))
      refine own_go (fun _ kk => XS.iloadN X366.here hx rfl (hb hby d1g3_211) rfl (XS.iloadN X366.here hx rfl (hb hby d1g3_212) rfl (XS.iloadN X366.here hx rfl (hb hby d1g3_213) rfl (iremM X366 hx rfl (hb hby d1g3_214) rfl (by decide) (XS.iloadN X366.here hx rfl (hb hby d1g3_215) rfl (XS.imul X366.here hx rfl (hb hby d1g3_216) rfl (XS.iload X366.here hx rfl (hb hby d1g3_217) rfl (XS.iloadN X366.here hx rfl (hb hby d1g3_219) rfl (iremM X366 hx rfl (hb hby d1g3_220) rfl (by decide) (XS.iadd X366.here hx rfl (hb hby d1g3_221) rfl kk)))))))))) ?_
      show own_Fin _ _ _ _ _ _ _ (T366.setTop (mkF m 222 #[.val (.ref t0), .val (.int (3 : Int32)), .val (.int (Int32.ofNat i)), .val (.int ((Int32.ofNat i) / (9 : Int32))), .val (.int ((Int32.ofNat i) % (9 : Int32)))] [(.int (((((Int32.ofNat i) / (9 : Int32)) % (3 : Int32)) * (3 : Int32)) + (((Int32.ofNat i) % (9 : Int32)) % (3 : Int32)))), (.int (Int32.ofNat i)), (.ref b220)]))
      refine own_stI X366 hx hZ e366 f363 (own_nn (by omega)) (by rw [own_Llen, own_tn (by omega)]; exact hi') (hb hby d1g3_222) ?_
      intro T367 h367 X367 e367 W367 A367
      have f368 := f349.wr W367
      have f369 := f350.other W367 (Or.inl ne_t0_b220)
      have f370 := f351.other W367 (Or.inl ne_t0_b220)
      have f371 := f352.other W367 (Or.inl ne_t0_b220)
      have f372 := f353.other W367 (Or.inl ne_t0_b220)
      have f373 := f354.other W367 (Or.inl ne_t0_b220)
      have f374 := f355.other W367 (Or.inl ne_t0_b220)
      have f375 := f356.other W367 (Or.inl ne_t0_b220)
      have f376 := f357.other W367 (Or.inl ne_t0_b220)
      have f377 := f358.other W367 ne_b15_b220
      have f378 := f359.other W367 ne_b40_b220
      have f379 := f360.other W367 ne_b69_b220
      have f380 := f361.other W367 ne_b138_b220
      have f381 := V365.other W367 ne_b177_b220
      have Z367 := Nat.le_trans Z348 (Keep.of_wr W367).1
      have K367 := K348.wr W367 (Or.inr sz_b220)
      have f383 := f364.other W367 gr_b220
      have N367 := Fr.snoc X367 N348 g_b220
      show own_Fin _ _ _ _ _ _ _ (T367.setTop (mkF m 223 #[.val (.ref t0), .val (.int (3 : Int32)), .val (.int (Int32.ofNat i)), .val (.int ((Int32.ofNat i) / (9 : Int32))), .val (.int ((Int32.ofNat i) % (9 : Int32)))] []))
      have V384 : own_Ar Z h367 b220 .int (List.map Value.int (own_L own_fIB3 81 (i + 1))) := by rw [← own_Lset (f := own_fIB3) hi' (by decide)]; exact A367
      refine own_go (fun _ kk => XS.aloadN X367.here hx rfl (hb hby d1g3_223) rfl rfl kk) ?_
      show own_Fin _ _ _ _ _ _ _ (T367.setTop (mkF m 224 #[.val (.ref t0), .val (.int (3 : Int32)), .val (.int (Int32.ofNat i)), .val (.int ((Int32.ofNat i) / (9 : Int32))), .val (.int ((Int32.ofNat i) % (9 : Int32)))] [(.ref t0)]))
      refine own_getF X367 hx hZ hown (host := "") (Or.inl (hw _ (List.mem_of_getElem? (i := 24) rfl))) Via.refl e367 f373 (hb hby d1g3_224) ?_
      intro T385 X385 e385
      show own_Fin _ _ _ _ _ _ _ (T385.setTop (mkF m 227 #[.val (.ref t0), .val (.int (3 : Int32)), .val (.int (Int32.ofNat i)), .val (.int ((Int32.ofNat i) / (9 : Int32))), .val (.int ((Int32.ofNat i) % (9 : Int32)))] [(.ref b102)]))
      refine own_go (fun _ kk => XS.aloadN X385.here hx rfl (hb hby d1g3_227) rfl rfl kk) ?_
      show own_Fin _ _ _ _ _ _ _ (T385.setTop (mkF m 228 #[.val (.ref t0), .val (.int (3 : Int32)), .val (.int (Int32.ofNat i)), .val (.int ((Int32.ofNat i) / (9 : Int32))), .val (.int ((Int32.ofNat i) % (9 : Int32)))] [(.ref t0), (.ref b102)]))
      refine own_getF X385 hx hZ hown (host := "") (Or.inl (hw _ (List.mem_of_getElem? (i := 16) rfl))) Via.refl e385 f370 (hb hby d1g3_228) ?_
      intro T386 X386 e386
      show own_Fin _ _ _ _ _ _ _ (T386.setTop (mkF m 231 #[.val (.ref t0), .val (.int (3 : Int32)), .val (.int (Int32.ofNat i)), .val (.int ((Int32.ofNat i) / (9 : Int32))), .val (.int ((Int32.ofNat i) % (9 : Int32)))] [(.ref b15), (.ref b102)]))
      refine own_go (fun _ kk => XS.iloadN X386.here hx rfl (hb hby d1g3_231) rfl kk) ?_
      show own_Fin _ _ _ _ _ _ _ (T386.setTop (mkF m 232 #[.val (.ref t0), .val (.int (3 : Int32)), .val (.int (Int32.ofNat i)), .val (.int ((Int32.ofNat i) / (9 : Int32))), .val (.int ((Int32.ofNat i) % (9 : Int32)))] [(.int (Int32.ofNat i)), (.ref b15), (.ref b102)]))
      refine own_ldI X386 hx hZ e386 f377 (own_nn (by omega)) (by rw [own_Llen, own_tn (by omega)]; exact hi') (hb hby d1g3_232) ?_
      show own_Fin _ _ _ _ _ _ _ (T386.setTop (mkF m 233 #[.val (.ref t0), .val (.int (3 : Int32)), .val (.int (Int32.ofNat i)), .val (.int ((Int32.ofNat i) / (9 : Int32))), .val (.int ((Int32.ofNat i) % (9 : Int32)))] [(.int (List.getD (own_L own_fR3 81 (i + 1)) ((Int32.ofNat i)).toNatClampNeg 0)), (.ref b102)]))
      rw [own_Lget (f := own_fR3) hi' (by decide)]
      show own_Fin _ _ _ _ _ _ _ (T386.setTop (mkF m 233 #[.val (.ref t0), .val (.int (3 : Int32)), .val (.int (Int32.ofNat i)), .val (.int ((Int32.ofNat i) / (9 : Int32))), .val (.int ((Int32.ofNat i) % (9 : Int32)))] [(.int (own_fR3 i)), (.ref b102)]))
      refine own_gload X386 hx hZ e386 f383 (own_bd3 _ hi').1.1 (own_bd3 _ hi').1.2 (hb hby d1g3_233) ?_
      show own_Fin _ _ _ _ _ _ _ (T386.setTop (mkF m 234 #[.val (.ref t0), .val (.int (3 : Int32)), .val (.int (Int32.ofNat i)), .val (.int ((Int32.ofNat i) / (9 : Int32))), .val (.int ((Int32.ofNat i) % (9 : Int32)))] [(.ref (b102 + 1 + (own_fR3 i).toNatClampNeg))]))
      refine own_go (fun _ kk => XS.aloadN X386.here hx rfl (hb hby d1g3_234) rfl rfl kk) ?_
      show own_Fin _ _ _ _ _ _ _ (T386.setTop (mkF m 235 #[.val (.ref t0), .val (.int (3 : Int32)), .val (.int (Int32.ofNat i)), .val (.int ((Int32.ofNat i) / (9 : Int32))), .val (.int ((Int32.ofNat i) % (9 : Int32)))] [(.ref t0), (.ref (b102 + 1 + (own_fR3 i).toNatClampNeg))]))
      refine own_getF X386 hx hZ hown (host := "") (Or.inl (hw _ (List.mem_of_getElem? (i := 26) rfl))) Via.refl e386 f374 (hb hby d1g3_235) ?_
      intro T387 X387 e387
      show own_Fin _ _ _ _ _ _ _ (T387.setTop (mkF m 238 #[.val (.ref t0), .val (.int (3 : Int32)), .val (.int (Int32.ofNat i)), .val (.int ((Int32.ofNat i) / (9 : Int32))), .val (.int ((Int32.ofNat i) % (9 : Int32)))] [(.ref b138), (.ref (b102 + 1 + (own_fR3 i).toNatClampNeg))]))
      refine own_go (fun _ kk => XS.iloadN X387.here hx rfl (hb hby d1g3_238) rfl kk) ?_
      show own_Fin _ _ _ _ _ _ _ (T387.setTop (mkF m 239 #[.val (.ref t0), .val (.int (3 : Int32)), .val (.int (Int32.ofNat i)), .val (.int ((Int32.ofNat i) / (9 : Int32))), .val (.int ((Int32.ofNat i) % (9 : Int32)))] [(.int (Int32.ofNat i)), (.ref b138), (.ref (b102 + 1 + (own_fR3 i).toNatClampNeg))]))
      refine own_ldI X387 hx hZ e387 f380 (own_nn (by omega)) (by rw [own_Llen, own_tn (by omega)]; exact hi') (hb hby d1g3_239) ?_
      show own_Fin _ _ _ _ _ _ _ (T387.setTop (mkF m 240 #[.val (.ref t0), .val (.int (3 : Int32)), .val (.int (Int32.ofNat i)), .val (.int ((Int32.ofNat i) / (9 : Int32))), .val (.int ((Int32.ofNat i) % (9 : Int32)))] [(.int (List.getD (own_L own_fIR3 81 (i + 1)) ((Int32.ofNat i)).toNatClampNeg 0)), (.ref (b102 + 1 + (own_fR3 i).toNatClampNeg))]))
      rw [own_Lget (f := own_fIR3) hi' (by decide)]
      show own_Fin _ _ _ _ _ _ _ (T387.setTop (mkF m 240 #[.val (.ref t0), .val (.int (3 : Int32)), .val (.int (Int32.ofNat i)), .val (.int ((Int32.ofNat i) / (9 : Int32))), .val (.int ((Int32.ofNat i) % (9 : Int32)))] [(.int (own_fIR3 i)), (.ref (b102 + 1 + (own_fR3 i).toNatClampNeg))]))
      refine own_go (fun _ kk => XS.iloadN X387.here hx rfl (hb hby d1g3_240) rfl kk) ?_
      show own_Fin _ _ _ _ _ _ _ (T387.setTop (mkF m 241 #[.val (.ref t0), .val (.int (3 : Int32)), .val (.int (Int32.ofNat i)), .val (.int ((Int32.ofNat i) / (9 : Int32))), .val (.int ((Int32.ofNat i) % (9 : Int32)))] [(.int (Int32.ofNat i)), (.int (own_fIR3 i)), (.ref (b102 + 1 + (own_fR3 i).toNatClampNeg))]))
      refine own_gstore X387 hx hZ e387 f383 (own_bd3 _ hi').1.2 (own_bd3 _ hi').2.2.2.1.1 (own_bd3 _ hi').2.2.2.1.2 (hb hby d1g3_241) ?_
      intro T388 h388 X388 e388 W388 G388
      have gg388 : n0 ≤ (b102 + 1 + (own_fR3 i).toNatClampNeg) := Nat.le_trans g_b102 (Nat.le_trans (Nat.le_succ _) (Nat.le_add_right _ _))
      have zz388 : h0.size ≤ (b102 + 1 + (own_fR3 i).toNatClampNeg) := Nat.le_trans sz_b102 (Nat.le_trans (Nat.le_succ _) (Nat.le_add_right _ _))
      have f389 := f368.wr W388
      have f390 := f369.other W388 (Or.inl (own_gne gr_t0 (own_bd3 _ hi').1.2))
      have f391 := f370.other W388 (Or.inl (own_gne gr_t0 (own_bd3 _ hi').1.2))
      have f392 := f371.other W388 (Or.inl (own_gne gr_t0 (own_bd3 _ hi').1.2))
      have f393 := f372.other W388 (Or.inl (own_gne gr_t0 (own_bd3 _ hi').1.2))
      have f394 := f373.other W388 (Or.inl (own_gne gr_t0 (own_bd3 _ hi').1.2))
      have f395 := f374.other W388 (Or.inl (own_gne gr_t0 (own_bd3 _ hi').1.2))
      have f396 := f375.other W388 (Or.inl (own_gne gr_t0 (own_bd3 _ hi').1.2))
      have f397 := f376.other W388 (Or.inl (own_gne gr_t0 (own_bd3 _ hi').1.2))
      have f398 := f377.other W388 (own_gne gr_b15 (own_bd3 _ hi').1.2)
      have f399 := f378.other W388 (own_gne gr_b40 (own_bd3 _ hi').1.2)
      have f400 := f379.other W388 (own_gne gr_b69 (own_bd3 _ hi').1.2)
      have f401 := f380.other W388 (own_gne gr_b138 (own_bd3 _ hi').1.2)
      have f402 := f381.other W388 (own_gne gr_b177 (own_bd3 _ hi').1.2)
      have f403 := V384.other W388 (own_gne gr_b220 (own_bd3 _ hi').1.2)
      have Z388 := Nat.le_trans Z367 (Keep.of_wr W388).1
      have K388 := K367.wr W388 (Or.inr zz388)
      have N388 := Fr.snoc X388 N367 gg388
      show own_Fin _ _ _ _ _ _ _ (T388.setTop (mkF m 242 #[.val (.ref t0), .val (.int (3 : Int32)), .val (.int (Int32.ofNat i)), .val (.int ((Int32.ofNat i) / (9 : Int32))), .val (.int ((Int32.ofNat i) % (9 : Int32)))] []))
      refine own_go (fun _ kk => XS.aloadN X388.here hx rfl (hb hby d1g3_242) rfl rfl kk) ?_
      show own_Fin _ _ _ _ _ _ _ (T388.setTop (mkF m 243 #[.val (.ref t0), .val (.int (3 : Int32)), .val (.int (Int32.ofNat i)), .val (.int ((Int32.ofNat i) / (9 : Int32))), .val (.int ((Int32.ofNat i) % (9 : Int32)))] [(.ref t0)]))
      refine own_getF X388 hx hZ hown (host := "") (Or.inl (hw _ (List.mem_of_getElem? (i := 24) rfl))) Via.refl e388 f394 (hb hby d1g3_243) ?_
      intro T404 X404 e404
      show own_Fin _ _ _ _ _ _ _ (T404.setTop (mkF m 246 #[.val (.ref t0), .val (.int (3 : Int32)), .val (.int (Int32.ofNat i)), .val (.int ((Int32.ofNat i) / (9 : Int32))), .val (.int ((Int32.ofNat i) % (9 : Int32)))] [(.ref b102)]))
      refine own_go (fun _ kk => XS.aloadN X404.here hx rfl (hb hby d1g3_246) rfl rfl kk) ?_
      show own_Fin _ _ _ _ _ _ _ (T404.setTop (mkF m 247 #[.val (.ref t0), .val (.int (3 : Int32)), .val (.int (Int32.ofNat i)), .val (.int ((Int32.ofNat i) / (9 : Int32))), .val (.int ((Int32.ofNat i) % (9 : Int32)))] [(.ref t0), (.ref b102)]))
      refine own_getF X404 hx hZ hown (host := "") (Or.inl (hw _ (List.mem_of_getElem? (i := 18) rfl))) Via.refl e404 f392 (hb hby d1g3_247) ?_
      intro T405 X405 e405
      show own_Fin _ _ _ _ _ _ _ (T405.setTop (mkF m 250 #[.val (.ref t0), .val (.int (3 : Int32)), .val (.int (Int32.ofNat i)), .val (.int ((Int32.ofNat i) / (9 : Int32))), .val (.int ((Int32.ofNat i) % (9 : Int32)))] [(.ref b40), (.ref b102)]))
      refine own_go (fun _ kk => XS.iloadN X405.here hx rfl (hb hby d1g3_250) rfl kk) ?_
      show own_Fin _ _ _ _ _ _ _ (T405.setTop (mkF m 251 #[.val (.ref t0), .val (.int (3 : Int32)), .val (.int (Int32.ofNat i)), .val (.int ((Int32.ofNat i) / (9 : Int32))), .val (.int ((Int32.ofNat i) % (9 : Int32)))] [(.int (Int32.ofNat i)), (.ref b40), (.ref b102)]))
      refine own_ldI X405 hx hZ e405 f399 (own_nn (by omega)) (by rw [own_Llen, own_tn (by omega)]; exact hi') (hb hby d1g3_251) ?_
      show own_Fin _ _ _ _ _ _ _ (T405.setTop (mkF m 252 #[.val (.ref t0), .val (.int (3 : Int32)), .val (.int (Int32.ofNat i)), .val (.int ((Int32.ofNat i) / (9 : Int32))), .val (.int ((Int32.ofNat i) % (9 : Int32)))] [(.int (List.getD (own_L own_fC3 81 (i + 1)) ((Int32.ofNat i)).toNatClampNeg 0)), (.ref b102)]))
      rw [own_Lget (f := own_fC3) hi' (by decide)]
      show own_Fin _ _ _ _ _ _ _ (T405.setTop (mkF m 252 #[.val (.ref t0), .val (.int (3 : Int32)), .val (.int (Int32.ofNat i)), .val (.int ((Int32.ofNat i) / (9 : Int32))), .val (.int ((Int32.ofNat i) % (9 : Int32)))] [(.int (own_fC3 i)), (.ref b102)]))
      refine own_gload X405 hx hZ e405 G388 (own_bd3 _ hi').2.1.1 (own_bd3 _ hi').2.1.2 (hb hby d1g3_252) ?_
      show own_Fin _ _ _ _ _ _ _ (T405.setTop (mkF m 253 #[.val (.ref t0), .val (.int (3 : Int32)), .val (.int (Int32.ofNat i)), .val (.int ((Int32.ofNat i) / (9 : Int32))), .val (.int ((Int32.ofNat i) % (9 : Int32)))] [(.ref (b102 + 1 + (own_fC3 i).toNatClampNeg))]))
      refine own_go (fun _ kk => XS.aloadN X405.here hx rfl (hb hby d1g3_253) rfl rfl kk) ?_
      show own_Fin _ _ _ _ _ _ _ (T405.setTop (mkF m 254 #[.val (.ref t0), .val (.int (3 : Int32)), .val (.int (Int32.ofNat i)), .val (.int ((Int32.ofNat i) / (9 : Int32))), .val (.int ((Int32.ofNat i) % (9 : Int32)))] [(.ref t0), (.ref (b102 + 1 + (own_fC3 i).toNatClampNeg))]))
      refine own_getF X405 hx hZ hown (host := "") (Or.inl (hw _ (List.mem_of_getElem? (i := 28) rfl))) Via.refl e405 f396 (hb hby d1g3_254) ?_
      intro T406 X406 e406
      show own_Fin _ _ _ _ _ _ _ (T406.setTop (mkF m 257 #[.val (.ref t0), .val (.int (3 : Int32)), .val (.int (Int32.ofNat i)), .val (.int ((Int32.ofNat i) / (9 : Int32))), .val (.int ((Int32.ofNat i) % (9 : Int32)))] [(.ref b177), (.ref (b102 + 1 + (own_fC3 i).toNatClampNeg))]))
      refine own_go (fun _ kk => XS.iloadN X406.here hx rfl (hb hby d1g3_257) rfl kk) ?_
      show own_Fin _ _ _ _ _ _ _ (T406.setTop (mkF m 258 #[.val (.ref t0), .val (.int (3 : Int32)), .val (.int (Int32.ofNat i)), .val (.int ((Int32.ofNat i) / (9 : Int32))), .val (.int ((Int32.ofNat i) % (9 : Int32)))] [(.int (Int32.ofNat i)), (.ref b177), (.ref (b102 + 1 + (own_fC3 i).toNatClampNeg))]))
      refine own_ldI X406 hx hZ e406 f402 (own_nn (by omega)) (by rw [own_Llen, own_tn (by omega)]; exact hi') (hb hby d1g3_258) ?_
      show own_Fin _ _ _ _ _ _ _ (T406.setTop (mkF m 259 #[.val (.ref t0), .val (.int (3 : Int32)), .val (.int (Int32.ofNat i)), .val (.int ((Int32.ofNat i) / (9 : Int32))), .val (.int ((Int32.ofNat i) % (9 : Int32)))] [(.int (List.getD (own_L own_fIC3 81 (i + 1)) ((Int32.ofNat i)).toNatClampNeg 0)), (.ref (b102 + 1 + (own_fC3 i).toNatClampNeg))]))
      rw [own_Lget (f := own_fIC3) hi' (by decide)]
      show own_Fin _ _ _ _ _ _ _ (T406.setTop (mkF m 259 #[.val (.ref t0), .val (.int (3 : Int32)), .val (.int (Int32.ofNat i)), .val (.int ((Int32.ofNat i) / (9 : Int32))), .val (.int ((Int32.ofNat i) % (9 : Int32)))] [(.int (own_fIC3 i)), (.ref (b102 + 1 + (own_fC3 i).toNatClampNeg))]))
      refine own_go (fun _ kk => XS.iloadN X406.here hx rfl (hb hby d1g3_259) rfl kk) ?_
      show own_Fin _ _ _ _ _ _ _ (T406.setTop (mkF m 260 #[.val (.ref t0), .val (.int (3 : Int32)), .val (.int (Int32.ofNat i)), .val (.int ((Int32.ofNat i) / (9 : Int32))), .val (.int ((Int32.ofNat i) % (9 : Int32)))] [(.int (Int32.ofNat i)), (.int (own_fIC3 i)), (.ref (b102 + 1 + (own_fC3 i).toNatClampNeg))]))
      refine own_gstore X406 hx hZ e406 G388 (own_bd3 _ hi').2.1.2 (own_bd3 _ hi').2.2.2.2.1.1 (own_bd3 _ hi').2.2.2.2.1.2 (hb hby d1g3_260) ?_
      intro T407 h407 X407 e407 W407 G407
      have gg407 : n0 ≤ (b102 + 1 + (own_fC3 i).toNatClampNeg) := Nat.le_trans g_b102 (Nat.le_trans (Nat.le_succ _) (Nat.le_add_right _ _))
      have zz407 : h0.size ≤ (b102 + 1 + (own_fC3 i).toNatClampNeg) := Nat.le_trans sz_b102 (Nat.le_trans (Nat.le_succ _) (Nat.le_add_right _ _))
      have f408 := f389.wr W407
      have f409 := f390.other W407 (Or.inl (own_gne gr_t0 (own_bd3 _ hi').2.1.2))
      have f410 := f391.other W407 (Or.inl (own_gne gr_t0 (own_bd3 _ hi').2.1.2))
      have f411 := f392.other W407 (Or.inl (own_gne gr_t0 (own_bd3 _ hi').2.1.2))
      have f412 := f393.other W407 (Or.inl (own_gne gr_t0 (own_bd3 _ hi').2.1.2))
      have f413 := f394.other W407 (Or.inl (own_gne gr_t0 (own_bd3 _ hi').2.1.2))
      have f414 := f395.other W407 (Or.inl (own_gne gr_t0 (own_bd3 _ hi').2.1.2))
      have f415 := f396.other W407 (Or.inl (own_gne gr_t0 (own_bd3 _ hi').2.1.2))
      have f416 := f397.other W407 (Or.inl (own_gne gr_t0 (own_bd3 _ hi').2.1.2))
      have f417 := f398.other W407 (own_gne gr_b15 (own_bd3 _ hi').2.1.2)
      have f418 := f399.other W407 (own_gne gr_b40 (own_bd3 _ hi').2.1.2)
      have f419 := f400.other W407 (own_gne gr_b69 (own_bd3 _ hi').2.1.2)
      have f420 := f401.other W407 (own_gne gr_b138 (own_bd3 _ hi').2.1.2)
      have f421 := f402.other W407 (own_gne gr_b177 (own_bd3 _ hi').2.1.2)
      have f422 := f403.other W407 (own_gne gr_b220 (own_bd3 _ hi').2.1.2)
      have Z407 := Nat.le_trans Z388 (Keep.of_wr W407).1
      have K407 := K388.wr W407 (Or.inr zz407)
      have N407 := Fr.snoc X407 N388 gg407
      show own_Fin _ _ _ _ _ _ _ (T407.setTop (mkF m 261 #[.val (.ref t0), .val (.int (3 : Int32)), .val (.int (Int32.ofNat i)), .val (.int ((Int32.ofNat i) / (9 : Int32))), .val (.int ((Int32.ofNat i) % (9 : Int32)))] []))
      refine own_go (fun _ kk => XS.aloadN X407.here hx rfl (hb hby d1g3_261) rfl rfl kk) ?_
      show own_Fin _ _ _ _ _ _ _ (T407.setTop (mkF m 262 #[.val (.ref t0), .val (.int (3 : Int32)), .val (.int (Int32.ofNat i)), .val (.int ((Int32.ofNat i) / (9 : Int32))), .val (.int ((Int32.ofNat i) % (9 : Int32)))] [(.ref t0)]))
      refine own_getF X407 hx hZ hown (host := "") (Or.inl (hw _ (List.mem_of_getElem? (i := 24) rfl))) Via.refl e407 f413 (hb hby d1g3_262) ?_
      intro T423 X423 e423
      show own_Fin _ _ _ _ _ _ _ (T423.setTop (mkF m 265 #[.val (.ref t0), .val (.int (3 : Int32)), .val (.int (Int32.ofNat i)), .val (.int ((Int32.ofNat i) / (9 : Int32))), .val (.int ((Int32.ofNat i) % (9 : Int32)))] [(.ref b102)]))
      refine own_go (fun _ kk => XS.aloadN X423.here hx rfl (hb hby d1g3_265) rfl rfl kk) ?_
      show own_Fin _ _ _ _ _ _ _ (T423.setTop (mkF m 266 #[.val (.ref t0), .val (.int (3 : Int32)), .val (.int (Int32.ofNat i)), .val (.int ((Int32.ofNat i) / (9 : Int32))), .val (.int ((Int32.ofNat i) % (9 : Int32)))] [(.ref t0), (.ref b102)]))
      refine own_getF X423 hx hZ hown (host := "") (Or.inl (hw _ (List.mem_of_getElem? (i := 20) rfl))) Via.refl e423 f412 (hb hby d1g3_266) ?_
      intro T424 X424 e424
      show own_Fin _ _ _ _ _ _ _ (T424.setTop (mkF m 269 #[.val (.ref t0), .val (.int (3 : Int32)), .val (.int (Int32.ofNat i)), .val (.int ((Int32.ofNat i) / (9 : Int32))), .val (.int ((Int32.ofNat i) % (9 : Int32)))] [(.ref b69), (.ref b102)]))
      refine own_go (fun _ kk => XS.iloadN X424.here hx rfl (hb hby d1g3_269) rfl kk) ?_
      show own_Fin _ _ _ _ _ _ _ (T424.setTop (mkF m 270 #[.val (.ref t0), .val (.int (3 : Int32)), .val (.int (Int32.ofNat i)), .val (.int ((Int32.ofNat i) / (9 : Int32))), .val (.int ((Int32.ofNat i) % (9 : Int32)))] [(.int (Int32.ofNat i)), (.ref b69), (.ref b102)]))
      refine own_ldI X424 hx hZ e424 f419 (own_nn (by omega)) (by rw [own_Llen, own_tn (by omega)]; exact hi') (hb hby d1g3_270) ?_
      show own_Fin _ _ _ _ _ _ _ (T424.setTop (mkF m 271 #[.val (.ref t0), .val (.int (3 : Int32)), .val (.int (Int32.ofNat i)), .val (.int ((Int32.ofNat i) / (9 : Int32))), .val (.int ((Int32.ofNat i) % (9 : Int32)))] [(.int (List.getD (own_L own_fB3 81 (i + 1)) ((Int32.ofNat i)).toNatClampNeg 0)), (.ref b102)]))
      rw [own_Lget (f := own_fB3) hi' (by decide)]
      show own_Fin _ _ _ _ _ _ _ (T424.setTop (mkF m 271 #[.val (.ref t0), .val (.int (3 : Int32)), .val (.int (Int32.ofNat i)), .val (.int ((Int32.ofNat i) / (9 : Int32))), .val (.int ((Int32.ofNat i) % (9 : Int32)))] [(.int (own_fB3 i)), (.ref b102)]))
      refine own_gload X424 hx hZ e424 G407 (own_bd3 _ hi').2.2.1.1 (own_bd3 _ hi').2.2.1.2 (hb hby d1g3_271) ?_
      show own_Fin _ _ _ _ _ _ _ (T424.setTop (mkF m 272 #[.val (.ref t0), .val (.int (3 : Int32)), .val (.int (Int32.ofNat i)), .val (.int ((Int32.ofNat i) / (9 : Int32))), .val (.int ((Int32.ofNat i) % (9 : Int32)))] [(.ref (b102 + 1 + (own_fB3 i).toNatClampNeg))]))
      refine own_go (fun _ kk => XS.aloadN X424.here hx rfl (hb hby d1g3_272) rfl rfl kk) ?_
      show own_Fin _ _ _ _ _ _ _ (T424.setTop (mkF m 273 #[.val (.ref t0), .val (.int (3 : Int32)), .val (.int (Int32.ofNat i)), .val (.int ((Int32.ofNat i) / (9 : Int32))), .val (.int ((Int32.ofNat i) % (9 : Int32)))] [(.ref t0), (.ref (b102 + 1 + (own_fB3 i).toNatClampNeg))]))
      refine own_getF X424 hx hZ hown (host := "") (Or.inl (hw _ (List.mem_of_getElem? (i := 30) rfl))) Via.refl e424 f416 (hb hby d1g3_273) ?_
      intro T425 X425 e425
      show own_Fin _ _ _ _ _ _ _ (T425.setTop (mkF m 276 #[.val (.ref t0), .val (.int (3 : Int32)), .val (.int (Int32.ofNat i)), .val (.int ((Int32.ofNat i) / (9 : Int32))), .val (.int ((Int32.ofNat i) % (9 : Int32)))] [(.ref b220), (.ref (b102 + 1 + (own_fB3 i).toNatClampNeg))]))
      refine own_go (fun _ kk => XS.iloadN X425.here hx rfl (hb hby d1g3_276) rfl kk) ?_
      show own_Fin _ _ _ _ _ _ _ (T425.setTop (mkF m 277 #[.val (.ref t0), .val (.int (3 : Int32)), .val (.int (Int32.ofNat i)), .val (.int ((Int32.ofNat i) / (9 : Int32))), .val (.int ((Int32.ofNat i) % (9 : Int32)))] [(.int (Int32.ofNat i)), (.ref b220), (.ref (b102 + 1 + (own_fB3 i).toNatClampNeg))]))
      refine own_ldI X425 hx hZ e425 f422 (own_nn (by omega)) (by rw [own_Llen, own_tn (by omega)]; exact hi') (hb hby d1g3_277) ?_
      show own_Fin _ _ _ _ _ _ _ (T425.setTop (mkF m 278 #[.val (.ref t0), .val (.int (3 : Int32)), .val (.int (Int32.ofNat i)), .val (.int ((Int32.ofNat i) / (9 : Int32))), .val (.int ((Int32.ofNat i) % (9 : Int32)))] [(.int (List.getD (own_L own_fIB3 81 (i + 1)) ((Int32.ofNat i)).toNatClampNeg 0)), (.ref (b102 + 1 + (own_fB3 i).toNatClampNeg))]))
      rw [own_Lget (f := own_fIB3) hi' (by decide)]
      show own_Fin _ _ _ _ _ _ _ (T425.setTop (mkF m 278 #[.val (.ref t0), .val (.int (3 : Int32)), .val (.int (Int32.ofNat i)), .val (.int ((Int32.ofNat i) / (9 : Int32))), .val (.int ((Int32.ofNat i) % (9 : Int32)))] [(.int (own_fIB3 i)), (.ref (b102 + 1 + (own_fB3 i).toNatClampNeg))]))
      refine own_go (fun _ kk => XS.iloadN X425.here hx rfl (hb hby d1g3_278) rfl kk) ?_
      show own_Fin _ _ _ _ _ _ _ (T425.setTop (mkF m 279 #[.val (.ref t0), .val (.int (3 : Int32)), .val (.int (Int32.ofNat i)), .val (.int ((Int32.ofNat i) / (9 : Int32))), .val (.int ((Int32.ofNat i) % (9 : Int32)))] [(.int (Int32.ofNat i)), (.int (own_fIB3 i)), (.ref (b102 + 1 + (own_fB3 i).toNatClampNeg))]))
      refine own_gstore X425 hx hZ e425 G407 (own_bd3 _ hi').2.2.1.2 (own_bd3 _ hi').2.2.2.2.2.1 (own_bd3 _ hi').2.2.2.2.2.2 (hb hby d1g3_279) ?_
      intro T426 h426 X426 e426 W426 G426
      have gg426 : n0 ≤ (b102 + 1 + (own_fB3 i).toNatClampNeg) := Nat.le_trans g_b102 (Nat.le_trans (Nat.le_succ _) (Nat.le_add_right _ _))
      have zz426 : h0.size ≤ (b102 + 1 + (own_fB3 i).toNatClampNeg) := Nat.le_trans sz_b102 (Nat.le_trans (Nat.le_succ _) (Nat.le_add_right _ _))
      have f427 := f408.wr W426
      have f428 := f409.other W426 (Or.inl (own_gne gr_t0 (own_bd3 _ hi').2.2.1.2))
      have f429 := f410.other W426 (Or.inl (own_gne gr_t0 (own_bd3 _ hi').2.2.1.2))
      have f430 := f411.other W426 (Or.inl (own_gne gr_t0 (own_bd3 _ hi').2.2.1.2))
      have f431 := f412.other W426 (Or.inl (own_gne gr_t0 (own_bd3 _ hi').2.2.1.2))
      have f432 := f413.other W426 (Or.inl (own_gne gr_t0 (own_bd3 _ hi').2.2.1.2))
      have f433 := f414.other W426 (Or.inl (own_gne gr_t0 (own_bd3 _ hi').2.2.1.2))
      have f434 := f415.other W426 (Or.inl (own_gne gr_t0 (own_bd3 _ hi').2.2.1.2))
      have f435 := f416.other W426 (Or.inl (own_gne gr_t0 (own_bd3 _ hi').2.2.1.2))
      have f436 := f417.other W426 (own_gne gr_b15 (own_bd3 _ hi').2.2.1.2)
      have f437 := f418.other W426 (own_gne gr_b40 (own_bd3 _ hi').2.2.1.2)
      have f438 := f419.other W426 (own_gne gr_b69 (own_bd3 _ hi').2.2.1.2)
      have f439 := f420.other W426 (own_gne gr_b138 (own_bd3 _ hi').2.2.1.2)
      have f440 := f421.other W426 (own_gne gr_b177 (own_bd3 _ hi').2.2.1.2)
      have f441 := f422.other W426 (own_gne gr_b220 (own_bd3 _ hi').2.2.1.2)
      have Z426 := Nat.le_trans Z407 (Keep.of_wr W426).1
      have K426 := K407.wr W426 (Or.inr zz426)
      have N426 := Fr.snoc X426 N407 gg426
      show own_Fin _ _ _ _ _ _ _ (T426.setTop (mkF m 280 #[.val (.ref t0), .val (.int (3 : Int32)), .val (.int (Int32.ofNat i)), .val (.int ((Int32.ofNat i) / (9 : Int32))), .val (.int ((Int32.ofNat i) % (9 : Int32)))] []))
      refine own_go (fun _ kk => XS.iinc X426.here hx rfl (hb hby d1g3_280) rfl (l' := #[.val (.ref t0), .val (.int (3 : Int32)), .val (.int ((Int32.ofNat i) + (1 : Int32))), .val (.int ((Int32.ofNat i) / (9 : Int32))), .val (.int ((Int32.ofNat i) % (9 : Int32)))]) rfl (XS.goto X426.here hx rfl (pc0 := 283) (pc' := 121) rfl (hb hby d1g3_283) (by decide) (by decide) kk)) ?_
      show own_Fin _ _ _ _ _ _ _ (T426.setTop (mkF m 121 #[.val (.ref t0), .val (.int (3 : Int32)), .val (.int ((Int32.ofNat i) + (1 : Int32))), .val (.int ((Int32.ofNat i) / (9 : Int32))), .val (.int ((Int32.ofNat i) % (9 : Int32)))] []))
      rw [own_succ i]
      exact ih _ (by omega) T426 h426 _ (i + 1) (.val (.int ((Int32.ofNat i) / (9 : Int32)))) (.val (.int ((Int32.ofNat i) % (9 : Int32)))) rfl (by omega) (Or.inr ⟨_, rfl, rfl⟩) (Or.inr ⟨_, rfl, rfl⟩) X426 N426 e426 K426 Z426 f427 f428 f429 f430 f431 f432 f433 f434 f435 f436 f437 f438 f439 f440 f441 G426
    · refine own_go (fun _ kk => XS.icmpYes X266.here hx rfl (pc0 := 131) (pc' := 286) rfl (hb hby d1g3_131) rfl (XT.ii_ge_t hc131) (by decide) (by decide) kk) ?_
      show own_Fin _ _ _ _ _ _ _ (T266.setTop (mkF m 286 #[.val (.ref t0), .val (.int (3 : Int32)), .val (.int (Int32.ofNat i)), s3, s4] []))
      obtain rfl : i = 81 := by have := mt (own_ltN i 81 (by omega) (by decide)).mpr hc131; omega
      exact own_retV X266 hx hlk hret (hb hby d1g3_286) (by decide) (by decide) (by rw [e266]; exact ⟨rfl, NL121, KL121, b15, b40, b69, b102, sz_b15, sz_b40, sz_b69, sz_b102, Fl_size, Fl_rowOf, Fl_columnOf, Fl_boxOf, Fl_cellsOf, Vl_rowOf, Vl_columnOf, Vl_boxOf, Gl.1⟩)
  exact L121 _ T241 h241 _ (0) (.unset) (.unset) rfl (Nat.zero_le _) (Or.inl rfl) (Or.inl rfl) X241 N241 e241 K241 Z241 f242 f243 f244 f245 f246 f247 f248 f249 f264 (by rw [own_L0]; exact f251) (by rw [own_L0]; exact f253) (by rw [own_L0]; exact f255) (by rw [own_L0]; exact f257) (by rw [own_L0]; exact f259) (by rw [own_L0]; exact f261) f263

theorem d8g3_0 : decode prog_22_method_3_code 0 = .ok (.aload_n 0, 1) := by decide +kernel
theorem d8g3_1 : decode prog_22_method_3_code 1 = .ok (.getfield 25, 3) := by decide +kernel
theorem d8g3_4 : decode prog_22_method_3_code 4 = .ok (.arraylength, 1) := by decide +kernel
theorem d8g3_5 : decode prog_22_method_3_code 5 = .ok (.ireturn, 1) := by decide +kernel
theorem pn_8g3 : plainFor (⟨"com/example/onda/onda/sudoku/Geometry", "units", "()I"⟩ : MethodName) = true := plainFor_of_name (by show plainName "com/example/onda/onda/sudoku/Geometry" = true; first | (simp [plainName, overriddenIn]; done) | decide +kernel)
theorem ef_8g3 (m : MethodId) (x0 : Addr) : entryFrame m #[(.ref x0)] 1 = mkF m 0 #[.val (.ref x0)] [] := by first | (simp [entryFrame, mkF, argsToLocals, Value.category]; done) | rfl
set_option maxRecDepth 65536 in
set_option maxHeartbeats 40000000 in
theorem rm8g3 (l : Launch) (Z : State) (a0 : Array Value) (hw : ∀ d ∈ tables_1, d.before a0 Z = true) (t0 : Addr) (h0 : Heap) (n0 : Nat) (Z0 : n0 ≤ h0.size) (gg : Addr) (F0 : Fld Z h0 t0 "com/example/onda/onda/sudoku/Geometry" "cellsOf" "[[I" (.ref gg)) (VG : own_Ar Z h0 gg (.array .int) ((List.range 27).map fun j => Value.ref (gg + 1 + j))) :
    own_Met l (⟨"com/example/onda/onda/sudoku/Geometry", "units", "()I"⟩ : MethodName) prog_22_method_3_code 1 (some .int) ({ frames := 0, cells := 0, slots := 0, locals := 0 } : Room) Z [] #[(.ref t0)] h0 (own_P (some (.int (27 : Int32))) h0 n0) := by
  refine own_enter pn_8g3 ?_
  intro p e s m below meth c s₁ hx hby hml hown hnm hret hlk hZ e0 X0
  rw [ef_8g3]
  have N0 := Fr.nil n0
  show own_Fin _ _ _ _ _ _ _ (s₁.setTop (mkF m 0 #[.val (.ref t0)] []))
  refine own_go (fun _ kk => XS.aloadN X0.here hx rfl (hb hby d8g3_0) rfl rfl kk) ?_
  show own_Fin _ _ _ _ _ _ _ (s₁.setTop (mkF m 1 #[.val (.ref t0)] [(.ref t0)]))
  refine own_getF X0 hx hZ hown (host := "") (Or.inl (hw _ (List.mem_of_getElem? (i := 24) rfl))) Via.refl e0 F0 (hb hby d8g3_1) ?_
  intro T1 X1 e1
  show own_Fin _ _ _ _ _ _ _ (T1.setTop (mkF m 4 #[.val (.ref t0)] [(.ref gg)]))
  refine own_alen X1 hx hZ e1 VG (hb hby d8g3_4) ?_
  show own_Fin _ _ _ _ _ _ _ (T1.setTop (mkF m 5 #[.val (.ref t0)] [(.int (27 : Int32))]))
  exact own_retI X1 hx hlk hret (hb hby d8g3_5) (by decide) (by decide) ⟨rfl, N0, e1⟩

def own_QU3 (Z : State) (t0 bR bC bB : Addr) (h0 : Heap) (n0 : Nat) (v : Option Value) (h : Heap) (L : List Loc) : Prop := v = none ∧ Fr n0 L ∧ Keep h0 h [t0] ∧ ∃ hd : Addr, h0.size ≤ hd ∧ Fld Z h t0 "com/example/onda/onda/sudoku/Units" "rowOf" "[I" (.ref bR) ∧ Fld Z h t0 "com/example/onda/onda/sudoku/Units" "columnOf" "[I" (.ref bC) ∧ Fld Z h t0 "com/example/onda/onda/sudoku/Units" "boxOf" "[I" (.ref bB) ∧ Fld Z h t0 "com/example/onda/onda/sudoku/Units" "numbers" "J" (.long (((1 : Int64) <<< (((10 : Int32)) &&& 0x3f).toInt64) - (2 : Int64))) ∧ Fld Z h t0 "com/example/onda/onda/sudoku/Units" "held" "[J" (.ref hd) ∧ own_Ar Z h hd .long ((List.replicate 27 (0 : Int64)).map Value.long)
theorem d3g3_0 : decode prog_24_method_2_code 0 = .ok (.aload_n 0, 1) := by decide +kernel
theorem d3g3_1 : decode prog_24_method_2_code 1 = .ok (.invokespecial 12, 3) := by decide +kernel
theorem d3g3_4 : decode prog_24_method_2_code 4 = .ok (.aload_n 0, 1) := by decide +kernel
theorem d3g3_5 : decode prog_24_method_2_code 5 = .ok (.aload_n 1, 1) := by decide +kernel
theorem d3g3_6 : decode prog_24_method_2_code 6 = .ok (.invokevirtual 17, 3) := by decide +kernel
theorem d3g3_9 : decode prog_24_method_2_code 9 = .ok (.putfield 21, 3) := by decide +kernel
theorem d3g3_12 : decode prog_24_method_2_code 12 = .ok (.aload_n 0, 1) := by decide +kernel
theorem d3g3_13 : decode prog_24_method_2_code 13 = .ok (.aload_n 1, 1) := by decide +kernel
theorem d3g3_14 : decode prog_24_method_2_code 14 = .ok (.invokevirtual 24, 3) := by decide +kernel
theorem d3g3_17 : decode prog_24_method_2_code 17 = .ok (.putfield 27, 3) := by decide +kernel
theorem d3g3_20 : decode prog_24_method_2_code 20 = .ok (.aload_n 0, 1) := by decide +kernel
theorem d3g3_21 : decode prog_24_method_2_code 21 = .ok (.aload_n 1, 1) := by decide +kernel
theorem d3g3_22 : decode prog_24_method_2_code 22 = .ok (.invokevirtual 29, 3) := by decide +kernel
theorem d3g3_25 : decode prog_24_method_2_code 25 = .ok (.putfield 32, 3) := by decide +kernel
theorem d3g3_28 : decode prog_24_method_2_code 28 = .ok (.aload_n 0, 1) := by decide +kernel
theorem d3g3_29 : decode prog_24_method_2_code 29 = .ok (.lconst 1, 1) := by decide +kernel
theorem d3g3_30 : decode prog_24_method_2_code 30 = .ok (.aload_n 1, 1) := by decide +kernel
theorem d3g3_31 : decode prog_24_method_2_code 31 = .ok (.invokevirtual 34, 3) := by decide +kernel
theorem d3g3_34 : decode prog_24_method_2_code 34 = .ok (.iconst 1, 1) := by decide +kernel
theorem d3g3_35 : decode prog_24_method_2_code 35 = .ok (.iadd, 1) := by decide +kernel
theorem d3g3_36 : decode prog_24_method_2_code 36 = .ok (.lshl, 1) := by decide +kernel
theorem d3g3_37 : decode prog_24_method_2_code 37 = .ok (.ldc2_w 38, 3) := by decide +kernel
theorem d3g3_40 : decode prog_24_method_2_code 40 = .ok (.lsub, 1) := by decide +kernel
theorem d3g3_41 : decode prog_24_method_2_code 41 = .ok (.putfield 40, 3) := by decide +kernel
theorem d3g3_44 : decode prog_24_method_2_code 44 = .ok (.aload_n 0, 1) := by decide +kernel
theorem d3g3_45 : decode prog_24_method_2_code 45 = .ok (.aload_n 1, 1) := by decide +kernel
theorem d3g3_46 : decode prog_24_method_2_code 46 = .ok (.invokevirtual 44, 3) := by decide +kernel
theorem d3g3_49 : decode prog_24_method_2_code 49 = .ok (.newarray .long, 2) := by decide +kernel
theorem d3g3_51 : decode prog_24_method_2_code 51 = .ok (.putfield 47, 3) := by decide +kernel
theorem d3g3_54 : decode prog_24_method_2_code 54 = .ok (.return_, 1) := by decide +kernel
theorem pd_3g3_0 : parseMethodDescriptor "()[I" = some ⟨[], some (.array .int)⟩ := by decide +kernel
theorem pd_3g3_1 : parseMethodDescriptor "()I" = some ⟨[], some .int⟩ := by decide +kernel
theorem pn_3g3 : plainFor (⟨"com/example/onda/onda/sudoku/Units", "<init>", "(Lcom/example/onda/onda/sudoku/Geometry;)V"⟩ : MethodName) = true := plainFor_of_name (by show plainName "com/example/onda/onda/sudoku/Units" = true; first | (simp [plainName, overriddenIn]; done) | decide +kernel)
theorem ef_3g3 (m : MethodId) (x0 : Addr) (x1 : Addr) : entryFrame m #[(.ref x0), (.ref x1)] 2 = mkF m 0 #[.val (.ref x0), .val (.ref x1)] [] := by first | (simp [entryFrame, mkF, argsToLocals, Value.category]; done) | rfl
set_option maxRecDepth 65536 in
set_option maxHeartbeats 40000000 in
theorem rm3g3 (l : Launch) (Z : State) (a0 : Array Value) (hw : ∀ d ∈ tables_1, d.before a0 Z = true) (t0 : Addr) (t1 : Addr) (h0 : Heap) (n0 : Nat) (Z0 : n0 ≤ h0.size) (E_t0 : Exa Z h0 t0 "com/example/onda/onda/sudoku/Units") (F_rowOf : Fld Z h0 t0 "com/example/onda/onda/sudoku/Units" "rowOf" "[I" .null) (F_columnOf : Fld Z h0 t0 "com/example/onda/onda/sudoku/Units" "columnOf" "[I" .null) (F_boxOf : Fld Z h0 t0 "com/example/onda/onda/sudoku/Units" "boxOf" "[I" .null) (F_numbers : Fld Z h0 t0 "com/example/onda/onda/sudoku/Units" "numbers" "J" (.long (0 : Int64))) (F_held : Fld Z h0 t0 "com/example/onda/onda/sudoku/Units" "held" "[J" .null) (g_t0 : n0 ≤ t0) (bR bC bB gg : Addr) (E_t1 : Exa Z h0 t1 "com/example/onda/onda/sudoku/Geometry") (G_size : Fld Z h0 t1 "com/example/onda/onda/sudoku/Geometry" "size" "I" (.int (9 : Int32))) (G_rowOf : Fld Z h0 t1 "com/example/onda/onda/sudoku/Geometry" "rowOf" "[I" (.ref bR)) (G_columnOf : Fld Z h0 t1 "com/example/onda/onda/sudoku/Geometry" "columnOf" "[I" (.ref bC)) (G_boxOf : Fld Z h0 t1 "com/example/onda/onda/sudoku/Geometry" "boxOf" "[I" (.ref bB)) (G_cellsOf : Fld Z h0 t1 "com/example/onda/onda/sudoku/Geometry" "cellsOf" "[[I" (.ref gg)) (VR : own_Ar Z h0 bR .int ((own_L own_fR3 81 81).map Value.int)) (VC : own_Ar Z h0 bC .int ((own_L own_fC3 81 81).map Value.int)) (VB : own_Ar Z h0 bB .int ((own_L own_fB3 81 81).map Value.int)) (VG : own_Ar Z h0 gg (.array .int) ((List.range 27).map fun j => Value.ref (gg + 1 + j))) (n01 : t0 ≠ t1) (n0bR : t0 ≠ bR) (n0bC : t0 ≠ bC) (n0bB : t0 ≠ bB) (n0gg : t0 ≠ gg) :
    own_Met l (⟨"com/example/onda/onda/sudoku/Units", "<init>", "(Lcom/example/onda/onda/sudoku/Geometry;)V"⟩ : MethodName) prog_24_method_2_code 2 none ({ frames := 1, cells := 1, slots := 27, locals := 15 } : Room) Z [] #[(.ref t0), (.ref t1)] h0 (own_QU3 Z t0 bR bC bB h0 n0) := by
  refine own_enter pn_3g3 ?_
  intro p e s m below meth c s₁ hx hby hml hown hnm hret hlk hZ e0 X0
  rw [ef_3g3]
  have N0 := Fr.nil n0
  show own_Fin _ _ _ _ _ _ _ (s₁.setTop (mkF m 0 #[.val (.ref t0), .val (.ref t1)] []))
  refine own_go (fun _ kk => XS.aloadN X0.here hx rfl (hb hby d3g3_0) rfl rfl kk) ?_
  show own_Fin _ _ _ _ _ _ _ (s₁.setTop (mkF m 1 #[.val (.ref t0), .val (.ref t1)] [(.ref t0)]))
  refine own_initO X0 hx hZ hown (hw _ (List.mem_of_getElem? (i := 35) rfl)) (hw _ (List.mem_of_getElem? (i := 11) rfl)) (hw _ (List.mem_of_getElem? (i := 12) rfl)) e0 (by rw [hml]; rfl) (hb hby d3g3_1) (by decide) (W := 0) (Nat.le_of_eq rfl) (by decide) ?_
  intro T1 X1 e1
  show own_Fin _ _ _ _ _ _ _ (T1.setTop (mkF m 4 #[.val (.ref t0), .val (.ref t1)] []))
  refine own_go (fun _ kk => XS.aloadN X1.here hx rfl (hb hby d3g3_4) rfl rfl (XS.aloadN X1.here hx rfl (hb hby d3g3_5) rfl rfl kk)) ?_
  show own_Fin _ _ _ _ _ _ _ (T1.setTop (mkF m 6 #[.val (.ref t0), .val (.ref t1)] [(.ref t1), (.ref t0)]))
  refine own_callV X1 hx hZ hown (hw _ (List.mem_of_getElem? (i := 36) rfl)) (hw _ (List.mem_of_getElem? (i := 37) rfl)) (notFace_of_selects (args := #[]) (mvT hZ (hw _ (List.mem_of_getElem? (i := 39) rfl)))) (hw _ (List.mem_of_getElem? (i := 39) rfl)) (hw _ (List.mem_of_getElem? (i := 38) rfl)) (hw _ (List.mem_of_getElem? (i := 40) rfl)) (hw _ (List.mem_of_getElem? (i := 6) rfl)) (by decide) (rm4 l Z a0 hw t1 h0 n0 Z0 bR G_rowOf) e1 E_t1 (argsL := []) (rest := [(.ref t0)]) rfl rfl (by rw [hml]; rfl) (lenOf pd_3g3_0 rfl) (hb hby d3g3_6) (W := 1) (Nat.le_of_eq rfl) (by decide) (by decide) (by decide) (by decide) ?_
  rintro v2 T2 L2 X2 ⟨rfl, M2, e2⟩
  have N2 := Fr.app N0 M2
  show own_Fin _ _ _ _ _ _ _ (T2.setTop (mkF m 9 #[.val (.ref t0), .val (.ref t1)] [(.ref bR), (.ref t0)]))
  refine own_putF X2 hx hZ hown (host := "") (Or.inl (hw _ (List.mem_of_getElem? (i := 41) rfl))) Via.refl e2 F_rowOf E_t0 (Or.inr ⟨(hw _ (List.mem_of_getElem? (i := 42) rfl)), rfl, hnm⟩) (hw _ (List.mem_of_getElem? (i := 2) rfl)) (ty := (.array .int)) (by decide) rfl rfl (hb hby d3g3_9) ?_
  intro T3 h3 X3 e3 W3
  have f4 := E_t0.wr W3
  have f6 := F_columnOf.other W3 (Or.inr (slot_ne (Or.inr (hw _ (List.mem_of_getElem? (i := 49) rfl))) (Or.inr (hw _ (List.mem_of_getElem? (i := 42) rfl))) (by decide) (t := (.array .int)) (t' := (.array .int)) (by decide) (by decide)))
  have f7 := F_boxOf.other W3 (Or.inr (slot_ne (Or.inr (hw _ (List.mem_of_getElem? (i := 56) rfl))) (Or.inr (hw _ (List.mem_of_getElem? (i := 42) rfl))) (by decide) (t := (.array .int)) (t' := (.array .int)) (by decide) (by decide)))
  have f8 := F_numbers.other W3 (Or.inr (slot_ne (Or.inr (hw _ (List.mem_of_getElem? (i := 64) rfl))) (Or.inr (hw _ (List.mem_of_getElem? (i := 42) rfl))) (by decide) (t := .long) (t' := (.array .int)) (by decide) (by decide)))
  have f9 := F_held.other W3 (Or.inr (slot_ne (Or.inr (hw _ (List.mem_of_getElem? (i := 72) rfl))) (Or.inr (hw _ (List.mem_of_getElem? (i := 42) rfl))) (by decide) (t := (.array .long)) (t' := (.array .int)) (by decide) (by decide)))
  have f10 := E_t1.wr W3
  have f11 := G_size.other W3 (Or.inl (Ne.symm n01))
  have f12 := G_rowOf.other W3 (Or.inl (Ne.symm n01))
  have f13 := G_columnOf.other W3 (Or.inl (Ne.symm n01))
  have f14 := G_boxOf.other W3 (Or.inl (Ne.symm n01))
  have f15 := G_cellsOf.other W3 (Or.inl (Ne.symm n01))
  have f16 := VR.other W3 (Ne.symm n0bR)
  have f17 := VC.other W3 (Ne.symm n0bC)
  have f18 := VB.other W3 (Ne.symm n0bB)
  have f19 := VG.other W3 (Ne.symm n0gg)
  have Z3 := Nat.le_trans Z0 (Keep.of_wr W3).1
  have K3 := (Keep.refl h0 [t0]).wr W3 (Or.inl (List.mem_of_getElem? (i := 0) rfl))
  have f20 := F_rowOf.same W3
  have N3 := Fr.snoc X3 N2 g_t0
  show own_Fin _ _ _ _ _ _ _ (T3.setTop (mkF m 12 #[.val (.ref t0), .val (.ref t1)] []))
  refine own_go (fun _ kk => XS.aloadN X3.here hx rfl (hb hby d3g3_12) rfl rfl (XS.aloadN X3.here hx rfl (hb hby d3g3_13) rfl rfl kk)) ?_
  show own_Fin _ _ _ _ _ _ _ (T3.setTop (mkF m 14 #[.val (.ref t0), .val (.ref t1)] [(.ref t1), (.ref t0)]))
  refine own_callV X3 hx hZ hown (hw _ (List.mem_of_getElem? (i := 43) rfl)) (hw _ (List.mem_of_getElem? (i := 44) rfl)) (notFace_of_selects (args := #[]) (mvT hZ (hw _ (List.mem_of_getElem? (i := 46) rfl)))) (hw _ (List.mem_of_getElem? (i := 46) rfl)) (hw _ (List.mem_of_getElem? (i := 45) rfl)) (hw _ (List.mem_of_getElem? (i := 47) rfl)) (hw _ (List.mem_of_getElem? (i := 6) rfl)) (by decide) (rm5 l Z a0 hw t1 h3 n0 Z3 bC f13) e3 f10 (argsL := []) (rest := [(.ref t0)]) rfl rfl (by rw [hml]; rfl) (lenOf pd_3g3_0 rfl) (hb hby d3g3_14) (W := 1) (Nat.le_of_eq rfl) (by decide) (by decide) (by decide) (by decide) ?_
  rintro v21 T21 L21 X21 ⟨rfl, M21, e21⟩
  have N21 := Fr.app N3 M21
  show own_Fin _ _ _ _ _ _ _ (T21.setTop (mkF m 17 #[.val (.ref t0), .val (.ref t1)] [(.ref bC), (.ref t0)]))
  refine own_putF X21 hx hZ hown (host := "") (Or.inl (hw _ (List.mem_of_getElem? (i := 48) rfl))) Via.refl e21 f6 f4 (Or.inr ⟨(hw _ (List.mem_of_getElem? (i := 49) rfl)), rfl, hnm⟩) (hw _ (List.mem_of_getElem? (i := 2) rfl)) (ty := (.array .int)) (by decide) rfl rfl (hb hby d3g3_17) ?_
  intro T22 h22 X22 e22 W22
  have f23 := f4.wr W22
  have f24 := f20.other W22 (Or.inr (slot_ne (Or.inr (hw _ (List.mem_of_getElem? (i := 42) rfl))) (Or.inr (hw _ (List.mem_of_getElem? (i := 49) rfl))) (by decide) (t := (.array .int)) (t' := (.array .int)) (by decide) (by decide)))
  have f26 := f7.other W22 (Or.inr (slot_ne (Or.inr (hw _ (List.mem_of_getElem? (i := 56) rfl))) (Or.inr (hw _ (List.mem_of_getElem? (i := 49) rfl))) (by decide) (t := (.array .int)) (t' := (.array .int)) (by decide) (by decide)))
  have f27 := f8.other W22 (Or.inr (slot_ne (Or.inr (hw _ (List.mem_of_getElem? (i := 64) rfl))) (Or.inr (hw _ (List.mem_of_getElem? (i := 49) rfl))) (by decide) (t := .long) (t' := (.array .int)) (by decide) (by decide)))
  have f28 := f9.other W22 (Or.inr (slot_ne (Or.inr (hw _ (List.mem_of_getElem? (i := 72) rfl))) (Or.inr (hw _ (List.mem_of_getElem? (i := 49) rfl))) (by decide) (t := (.array .long)) (t' := (.array .int)) (by decide) (by decide)))
  have f29 := f10.wr W22
  have f30 := f11.other W22 (Or.inl (Ne.symm n01))
  have f31 := f12.other W22 (Or.inl (Ne.symm n01))
  have f32 := f13.other W22 (Or.inl (Ne.symm n01))
  have f33 := f14.other W22 (Or.inl (Ne.symm n01))
  have f34 := f15.other W22 (Or.inl (Ne.symm n01))
  have f35 := f16.other W22 (Ne.symm n0bR)
  have f36 := f17.other W22 (Ne.symm n0bC)
  have f37 := f18.other W22 (Ne.symm n0bB)
  have f38 := f19.other W22 (Ne.symm n0gg)
  have Z22 := Nat.le_trans Z3 (Keep.of_wr W22).1
  have K22 := K3.wr W22 (Or.inl (List.mem_of_getElem? (i := 0) rfl))
  have f39 := f6.same W22
  have N22 := Fr.snoc X22 N21 g_t0
  show own_Fin _ _ _ _ _ _ _ (T22.setTop (mkF m 20 #[.val (.ref t0), .val (.ref t1)] []))
  refine own_go (fun _ kk => XS.aloadN X22.here hx rfl (hb hby d3g3_20) rfl rfl (XS.aloadN X22.here hx rfl (hb hby d3g3_21) rfl rfl kk)) ?_
  show own_Fin _ _ _ _ _ _ _ (T22.setTop (mkF m 22 #[.val (.ref t0), .val (.ref t1)] [(.ref t1), (.ref t0)]))
  refine own_callV X22 hx hZ hown (hw _ (List.mem_of_getElem? (i := 50) rfl)) (hw _ (List.mem_of_getElem? (i := 51) rfl)) (notFace_of_selects (args := #[]) (mvT hZ (hw _ (List.mem_of_getElem? (i := 53) rfl)))) (hw _ (List.mem_of_getElem? (i := 53) rfl)) (hw _ (List.mem_of_getElem? (i := 52) rfl)) (hw _ (List.mem_of_getElem? (i := 54) rfl)) (hw _ (List.mem_of_getElem? (i := 6) rfl)) (by decide) (rm6 l Z a0 hw t1 h22 n0 Z22 bB f33) e22 f29 (argsL := []) (rest := [(.ref t0)]) rfl rfl (by rw [hml]; rfl) (lenOf pd_3g3_0 rfl) (hb hby d3g3_22) (W := 1) (Nat.le_of_eq rfl) (by decide) (by decide) (by decide) (by decide) ?_
  rintro v40 T40 L40 X40 ⟨rfl, M40, e40⟩
  have N40 := Fr.app N22 M40
  show own_Fin _ _ _ _ _ _ _ (T40.setTop (mkF m 25 #[.val (.ref t0), .val (.ref t1)] [(.ref bB), (.ref t0)]))
  refine own_putF X40 hx hZ hown (host := "") (Or.inl (hw _ (List.mem_of_getElem? (i := 55) rfl))) Via.refl e40 f26 f23 (Or.inr ⟨(hw _ (List.mem_of_getElem? (i := 56) rfl)), rfl, hnm⟩) (hw _ (List.mem_of_getElem? (i := 2) rfl)) (ty := (.array .int)) (by decide) rfl rfl (hb hby d3g3_25) ?_
  intro T41 h41 X41 e41 W41
  have f42 := f23.wr W41
  have f43 := f24.other W41 (Or.inr (slot_ne (Or.inr (hw _ (List.mem_of_getElem? (i := 42) rfl))) (Or.inr (hw _ (List.mem_of_getElem? (i := 56) rfl))) (by decide) (t := (.array .int)) (t' := (.array .int)) (by decide) (by decide)))
  have f44 := f39.other W41 (Or.inr (slot_ne (Or.inr (hw _ (List.mem_of_getElem? (i := 49) rfl))) (Or.inr (hw _ (List.mem_of_getElem? (i := 56) rfl))) (by decide) (t := (.array .int)) (t' := (.array .int)) (by decide) (by decide)))
  have f46 := f27.other W41 (Or.inr (slot_ne (Or.inr (hw _ (List.mem_of_getElem? (i := 64) rfl))) (Or.inr (hw _ (List.mem_of_getElem? (i := 56) rfl))) (by decide) (t := .long) (t' := (.array .int)) (by decide) (by decide)))
  have f47 := f28.other W41 (Or.inr (slot_ne (Or.inr (hw _ (List.mem_of_getElem? (i := 72) rfl))) (Or.inr (hw _ (List.mem_of_getElem? (i := 56) rfl))) (by decide) (t := (.array .long)) (t' := (.array .int)) (by decide) (by decide)))
  have f48 := f29.wr W41
  have f49 := f30.other W41 (Or.inl (Ne.symm n01))
  have f50 := f31.other W41 (Or.inl (Ne.symm n01))
  have f51 := f32.other W41 (Or.inl (Ne.symm n01))
  have f52 := f33.other W41 (Or.inl (Ne.symm n01))
  have f53 := f34.other W41 (Or.inl (Ne.symm n01))
  have f54 := f35.other W41 (Ne.symm n0bR)
  have f55 := f36.other W41 (Ne.symm n0bC)
  have f56 := f37.other W41 (Ne.symm n0bB)
  have f57 := f38.other W41 (Ne.symm n0gg)
  have Z41 := Nat.le_trans Z22 (Keep.of_wr W41).1
  have K41 := K22.wr W41 (Or.inl (List.mem_of_getElem? (i := 0) rfl))
  have f58 := f26.same W41
  have N41 := Fr.snoc X41 N40 g_t0
  show own_Fin _ _ _ _ _ _ _ (T41.setTop (mkF m 28 #[.val (.ref t0), .val (.ref t1)] []))
  refine own_go (fun _ kk => XS.aloadN X41.here hx rfl (hb hby d3g3_28) rfl rfl (XS.lconst X41.here hx rfl (hb hby d3g3_29) (XS.aloadN X41.here hx rfl (hb hby d3g3_30) rfl rfl kk))) ?_
  show own_Fin _ _ _ _ _ _ _ (T41.setTop (mkF m 31 #[.val (.ref t0), .val (.ref t1)] [(.ref t1), (.long (1 : Int64)), (.ref t0)]))
  refine own_callV X41 hx hZ hown (hw _ (List.mem_of_getElem? (i := 57) rfl)) (hw _ (List.mem_of_getElem? (i := 58) rfl)) (notFace_of_selects (args := #[]) (mvT hZ (hw _ (List.mem_of_getElem? (i := 60) rfl)))) (hw _ (List.mem_of_getElem? (i := 60) rfl)) (hw _ (List.mem_of_getElem? (i := 59) rfl)) (hw _ (List.mem_of_getElem? (i := 61) rfl)) (hw _ (List.mem_of_getElem? (i := 6) rfl)) (by decide) (rm7 l Z a0 hw t1 h41 n0 Z41 (9 : Int32) f49) e41 f48 (argsL := []) (rest := [(.long (1 : Int64)), (.ref t0)]) rfl rfl (by rw [hml]; rfl) (lenOf pd_3g3_1 rfl) (hb hby d3g3_31) (W := 3) (Nat.le_of_eq rfl) (by decide) (by decide) (by decide) (by decide) ?_
  rintro v59 T59 L59 X59 ⟨rfl, M59, e59⟩
  have N59 := Fr.app N41 M59
  show own_Fin _ _ _ _ _ _ _ (T59.setTop (mkF m 34 #[.val (.ref t0), .val (.ref t1)] [(.int (9 : Int32)), (.long (1 : Int64)), (.ref t0)]))
  refine own_go (fun _ kk => XS.iconst X59.here hx rfl (hb hby d3g3_34) (XS.iadd X59.here hx rfl (hb hby d3g3_35) rfl (XS.lshl X59.here hx rfl (hb hby d3g3_36) rfl (X59.ldc2J hx hown (mvT hZ (hw _ (List.mem_of_getElem? (i := 62) rfl))) rfl (hb hby d3g3_37) (XS.lsub X59.here hx rfl (hb hby d3g3_40) rfl kk))))) ?_
  show own_Fin _ _ _ _ _ _ _ (T59.setTop (mkF m 41 #[.val (.ref t0), .val (.ref t1)] [(.long (((1 : Int64) <<< ((10 : Int32) &&& 0x3f).toInt64) - (2 : Int64))), (.ref t0)]))
  refine own_putF X59 hx hZ hown (host := "") (Or.inl (hw _ (List.mem_of_getElem? (i := 63) rfl))) Via.refl e59 f46 f42 (Or.inr ⟨(hw _ (List.mem_of_getElem? (i := 64) rfl)), rfl, hnm⟩) (hw _ (List.mem_of_getElem? (i := 2) rfl)) (ty := .long) (by decide) rfl rfl (hb hby d3g3_41) ?_
  intro T60 h60 X60 e60 W60
  have f61 := f42.wr W60
  have f62 := f43.other W60 (Or.inr (slot_ne (Or.inr (hw _ (List.mem_of_getElem? (i := 42) rfl))) (Or.inr (hw _ (List.mem_of_getElem? (i := 64) rfl))) (by decide) (t := (.array .int)) (t' := .long) (by decide) (by decide)))
  have f63 := f44.other W60 (Or.inr (slot_ne (Or.inr (hw _ (List.mem_of_getElem? (i := 49) rfl))) (Or.inr (hw _ (List.mem_of_getElem? (i := 64) rfl))) (by decide) (t := (.array .int)) (t' := .long) (by decide) (by decide)))
  have f64 := f58.other W60 (Or.inr (slot_ne (Or.inr (hw _ (List.mem_of_getElem? (i := 56) rfl))) (Or.inr (hw _ (List.mem_of_getElem? (i := 64) rfl))) (by decide) (t := (.array .int)) (t' := .long) (by decide) (by decide)))
  have f66 := f47.other W60 (Or.inr (slot_ne (Or.inr (hw _ (List.mem_of_getElem? (i := 72) rfl))) (Or.inr (hw _ (List.mem_of_getElem? (i := 64) rfl))) (by decide) (t := (.array .long)) (t' := .long) (by decide) (by decide)))
  have f67 := f48.wr W60
  have f68 := f49.other W60 (Or.inl (Ne.symm n01))
  have f69 := f50.other W60 (Or.inl (Ne.symm n01))
  have f70 := f51.other W60 (Or.inl (Ne.symm n01))
  have f71 := f52.other W60 (Or.inl (Ne.symm n01))
  have f72 := f53.other W60 (Or.inl (Ne.symm n01))
  have f73 := f54.other W60 (Ne.symm n0bR)
  have f74 := f55.other W60 (Ne.symm n0bC)
  have f75 := f56.other W60 (Ne.symm n0bB)
  have f76 := f57.other W60 (Ne.symm n0gg)
  have Z60 := Nat.le_trans Z41 (Keep.of_wr W60).1
  have K60 := K41.wr W60 (Or.inl (List.mem_of_getElem? (i := 0) rfl))
  have f77 := f46.same W60
  have N60 := Fr.snoc X60 N59 g_t0
  show own_Fin _ _ _ _ _ _ _ (T60.setTop (mkF m 44 #[.val (.ref t0), .val (.ref t1)] []))
  refine own_go (fun _ kk => XS.aloadN X60.here hx rfl (hb hby d3g3_44) rfl rfl (XS.aloadN X60.here hx rfl (hb hby d3g3_45) rfl rfl kk)) ?_
  show own_Fin _ _ _ _ _ _ _ (T60.setTop (mkF m 46 #[.val (.ref t0), .val (.ref t1)] [(.ref t1), (.ref t0)]))
  refine own_callV X60 hx hZ hown (hw _ (List.mem_of_getElem? (i := 65) rfl)) (hw _ (List.mem_of_getElem? (i := 66) rfl)) (notFace_of_selects (args := #[]) (mvT hZ (hw _ (List.mem_of_getElem? (i := 68) rfl)))) (hw _ (List.mem_of_getElem? (i := 68) rfl)) (hw _ (List.mem_of_getElem? (i := 67) rfl)) (hw _ (List.mem_of_getElem? (i := 69) rfl)) (hw _ (List.mem_of_getElem? (i := 6) rfl)) (by decide) (rm8g3 l Z a0 hw t1 h60 n0 Z60 gg f72 f76) e60 f67 (argsL := []) (rest := [(.ref t0)]) rfl rfl (by rw [hml]; rfl) (lenOf pd_3g3_1 rfl) (hb hby d3g3_46) (W := 1) (Nat.le_of_eq rfl) (by decide) (by decide) (by decide) (by decide) ?_
  rintro v78 T78 L78 X78 ⟨rfl, M78, e78⟩
  have N78 := Fr.app N60 M78
  show own_Fin _ _ _ _ _ _ _ (T78.setTop (mkF m 49 #[.val (.ref t0), .val (.ref t1)] [(.int (27 : Int32)), (.ref t0)]))
  refine own_newJ X78 hx hZ (hw _ (List.mem_of_getElem? (i := 70) rfl)) e78 (hb hby d3g3_49) (by decide) (cap := 27) (by decide) (by decide) (by decide) (by decide) ?_
  intro T79 h79 b79 g79 X79 e79 E79 A79 D79
  have g_b79 : n0 ≤ b79 := Nat.le_trans Z60 (Nat.le_of_eq g79.symm)
  have ne_t0_b79 : t0 ≠ b79 := Nat.ne_of_lt (Nat.lt_of_lt_of_le f61.lt (Nat.le_of_eq g79.symm))
  have ne_t1_b79 : t1 ≠ b79 := Nat.ne_of_lt (Nat.lt_of_lt_of_le f67.lt (Nat.le_of_eq g79.symm))
  have ne_bR_b79 : bR ≠ b79 := Nat.ne_of_lt (Nat.lt_of_lt_of_le f73.lt (Nat.le_of_eq g79.symm))
  have ne_bC_b79 : bC ≠ b79 := Nat.ne_of_lt (Nat.lt_of_lt_of_le f74.lt (Nat.le_of_eq g79.symm))
  have ne_bB_b79 : bB ≠ b79 := Nat.ne_of_lt (Nat.lt_of_lt_of_le f75.lt (Nat.le_of_eq g79.symm))
  have ne_gg_b79 : gg ≠ b79 := Nat.ne_of_lt (Nat.lt_of_lt_of_le f76.lt (Nat.le_of_eq g79.symm))
  have f80 := f61.ext E79
  have f81 := f62.ext E79
  have f82 := f63.ext E79
  have f83 := f64.ext E79
  have f84 := f77.ext E79
  have f85 := f66.ext E79
  have f86 := f67.ext E79
  have f87 := f68.ext E79
  have f88 := f69.ext E79
  have f89 := f70.ext E79
  have f90 := f71.ext E79
  have f91 := f72.ext E79
  have f92 := f73.ext E79
  have f93 := f74.ext E79
  have f94 := f75.ext E79
  have f95 := f76.ext E79
  have Z79 := Nat.le_trans Z60 E79.1
  have sz_b79 : h0.size ≤ b79 := Nat.le_trans K60.1 (Nat.le_of_eq g79.symm)
  have K79 := K60.ext E79
  have A79 : own_Ar Z h79 b79 .long (List.map Value.long (List.replicate 27 (0 : Int64))) := A79
  show own_Fin _ _ _ _ _ _ _ (T79.setTop (mkF m 51 #[.val (.ref t0), .val (.ref t1)] [(.ref b79), (.ref t0)]))
  refine own_putF X79 hx hZ hown (host := "") (Or.inl (hw _ (List.mem_of_getElem? (i := 71) rfl))) Via.refl e79 f85 f80 (Or.inr ⟨(hw _ (List.mem_of_getElem? (i := 72) rfl)), rfl, hnm⟩) (hw _ (List.mem_of_getElem? (i := 2) rfl)) (ty := (.array .long)) (by decide) rfl rfl (hb hby d3g3_51) ?_
  intro T96 h96 X96 e96 W96
  have f97 := f80.wr W96
  have f98 := f81.other W96 (Or.inr (slot_ne (Or.inr (hw _ (List.mem_of_getElem? (i := 42) rfl))) (Or.inr (hw _ (List.mem_of_getElem? (i := 72) rfl))) (by decide) (t := (.array .int)) (t' := (.array .long)) (by decide) (by decide)))
  have f99 := f82.other W96 (Or.inr (slot_ne (Or.inr (hw _ (List.mem_of_getElem? (i := 49) rfl))) (Or.inr (hw _ (List.mem_of_getElem? (i := 72) rfl))) (by decide) (t := (.array .int)) (t' := (.array .long)) (by decide) (by decide)))
  have f100 := f83.other W96 (Or.inr (slot_ne (Or.inr (hw _ (List.mem_of_getElem? (i := 56) rfl))) (Or.inr (hw _ (List.mem_of_getElem? (i := 72) rfl))) (by decide) (t := (.array .int)) (t' := (.array .long)) (by decide) (by decide)))
  have f101 := f84.other W96 (Or.inr (slot_ne (Or.inr (hw _ (List.mem_of_getElem? (i := 64) rfl))) (Or.inr (hw _ (List.mem_of_getElem? (i := 72) rfl))) (by decide) (t := .long) (t' := (.array .long)) (by decide) (by decide)))
  have f103 := f86.wr W96
  have f104 := f87.other W96 (Or.inl (Ne.symm n01))
  have f105 := f88.other W96 (Or.inl (Ne.symm n01))
  have f106 := f89.other W96 (Or.inl (Ne.symm n01))
  have f107 := f90.other W96 (Or.inl (Ne.symm n01))
  have f108 := f91.other W96 (Or.inl (Ne.symm n01))
  have f109 := f92.other W96 (Ne.symm n0bR)
  have f110 := f93.other W96 (Ne.symm n0bC)
  have f111 := f94.other W96 (Ne.symm n0bB)
  have f112 := f95.other W96 (Ne.symm n0gg)
  have f113 := A79.other W96 (Ne.symm ne_t0_b79)
  have f114 := D79.wr W96
  have Z96 := Nat.le_trans Z79 (Keep.of_wr W96).1
  have K96 := K79.wr W96 (Or.inl (List.mem_of_getElem? (i := 0) rfl))
  have f115 := f85.same W96
  have N96 := Fr.snoc X96 N78 g_t0
  show own_Fin _ _ _ _ _ _ _ (T96.setTop (mkF m 54 #[.val (.ref t0), .val (.ref t1)] []))
  exact own_retV X96 hx hlk hret (hb hby d3g3_54) (by decide) (by decide) (by rw [e96]; exact ⟨rfl, N96, K96, b79, sz_b79, f98, f99, f100, f101, f115, f113⟩)

def own_pl3 (hs : List Int64) (cell : Int32) (b : Int64) : List Int64 := own_upd (own_upd (own_upd hs (own_fR3 (cell).toNatClampNeg) b) (own_fC3 (cell).toNatClampNeg) b) (own_fB3 (cell).toNatClampNeg) b
theorem own_pllen3 (hs : List Int64) (cell : Int32) (b : Int64) : (own_pl3 hs cell b).length = hs.length := by simp only [own_pl3, own_updlen]
def own_QP3 (Z : State) (hd : Addr) (hs : List Int64) (h0 : Heap) (n0 : Nat) (v : Option Value) (h : Heap) (L : List Loc) : Prop := v = none ∧ Fr n0 L ∧ Keep h0 h [hd] ∧ own_Ar Z h hd .long (hs.map Value.long)
theorem d9g3_0 : decode prog_24_method_6_code 0 = .ok (.lconst 1, 1) := by decide +kernel
theorem d9g3_1 : decode prog_24_method_6_code 1 = .ok (.iload_n 2, 1) := by decide +kernel
theorem d9g3_2 : decode prog_24_method_6_code 2 = .ok (.lshl, 1) := by decide +kernel
theorem d9g3_3 : decode prog_24_method_6_code 3 = .ok (.lstore_n 3, 1) := by decide +kernel
theorem d9g3_4 : decode prog_24_method_6_code 4 = .ok (.aload_n 0, 1) := by decide +kernel
theorem d9g3_5 : decode prog_24_method_6_code 5 = .ok (.getfield 47, 3) := by decide +kernel
theorem d9g3_8 : decode prog_24_method_6_code 8 = .ok (.aload_n 0, 1) := by decide +kernel
theorem d9g3_9 : decode prog_24_method_6_code 9 = .ok (.getfield 21, 3) := by decide +kernel
theorem d9g3_12 : decode prog_24_method_6_code 12 = .ok (.iload_n 1, 1) := by decide +kernel
theorem d9g3_13 : decode prog_24_method_6_code 13 = .ok (.iaload, 1) := by decide +kernel
theorem d9g3_14 : decode prog_24_method_6_code 14 = .ok (.dup2, 1) := by decide +kernel
theorem d9g3_15 : decode prog_24_method_6_code 15 = .ok (.laload, 1) := by decide +kernel
theorem d9g3_16 : decode prog_24_method_6_code 16 = .ok (.lload_n 3, 1) := by decide +kernel
theorem d9g3_17 : decode prog_24_method_6_code 17 = .ok (.lor, 1) := by decide +kernel
theorem d9g3_18 : decode prog_24_method_6_code 18 = .ok (.lastore, 1) := by decide +kernel
theorem d9g3_19 : decode prog_24_method_6_code 19 = .ok (.aload_n 0, 1) := by decide +kernel
theorem d9g3_20 : decode prog_24_method_6_code 20 = .ok (.getfield 47, 3) := by decide +kernel
theorem d9g3_23 : decode prog_24_method_6_code 23 = .ok (.aload_n 0, 1) := by decide +kernel
theorem d9g3_24 : decode prog_24_method_6_code 24 = .ok (.getfield 27, 3) := by decide +kernel
theorem d9g3_27 : decode prog_24_method_6_code 27 = .ok (.iload_n 1, 1) := by decide +kernel
theorem d9g3_28 : decode prog_24_method_6_code 28 = .ok (.iaload, 1) := by decide +kernel
theorem d9g3_29 : decode prog_24_method_6_code 29 = .ok (.dup2, 1) := by decide +kernel
theorem d9g3_30 : decode prog_24_method_6_code 30 = .ok (.laload, 1) := by decide +kernel
theorem d9g3_31 : decode prog_24_method_6_code 31 = .ok (.lload_n 3, 1) := by decide +kernel
theorem d9g3_32 : decode prog_24_method_6_code 32 = .ok (.lor, 1) := by decide +kernel
theorem d9g3_33 : decode prog_24_method_6_code 33 = .ok (.lastore, 1) := by decide +kernel
theorem d9g3_34 : decode prog_24_method_6_code 34 = .ok (.aload_n 0, 1) := by decide +kernel
theorem d9g3_35 : decode prog_24_method_6_code 35 = .ok (.getfield 47, 3) := by decide +kernel
theorem d9g3_38 : decode prog_24_method_6_code 38 = .ok (.aload_n 0, 1) := by decide +kernel
theorem d9g3_39 : decode prog_24_method_6_code 39 = .ok (.getfield 32, 3) := by decide +kernel
theorem d9g3_42 : decode prog_24_method_6_code 42 = .ok (.iload_n 1, 1) := by decide +kernel
theorem d9g3_43 : decode prog_24_method_6_code 43 = .ok (.iaload, 1) := by decide +kernel
theorem d9g3_44 : decode prog_24_method_6_code 44 = .ok (.dup2, 1) := by decide +kernel
theorem d9g3_45 : decode prog_24_method_6_code 45 = .ok (.laload, 1) := by decide +kernel
theorem d9g3_46 : decode prog_24_method_6_code 46 = .ok (.lload_n 3, 1) := by decide +kernel
theorem d9g3_47 : decode prog_24_method_6_code 47 = .ok (.lor, 1) := by decide +kernel
theorem d9g3_48 : decode prog_24_method_6_code 48 = .ok (.lastore, 1) := by decide +kernel
theorem d9g3_49 : decode prog_24_method_6_code 49 = .ok (.return_, 1) := by decide +kernel
theorem pn_9g3 : plainFor (⟨"com/example/onda/onda/sudoku/Units", "place", "(II)V"⟩ : MethodName) = true := plainFor_of_name (by show plainName "com/example/onda/onda/sudoku/Units" = true; first | (simp [plainName, overriddenIn]; done) | decide +kernel)
theorem ef_9g3 (m : MethodId) (x0 : Addr) (x1 : Int32) (x2 : Int32) : entryFrame m #[(.ref x0), (.int x1), (.int x2)] 5 = mkF m 0 #[.val (.ref x0), .val (.int x1), .val (.int x2), .unset, .unset] [] := by first | (simp [entryFrame, mkF, argsToLocals, Value.category]; done) | rfl
set_option maxRecDepth 65536 in
set_option maxHeartbeats 40000000 in
theorem rm9g3 (l : Launch) (Z : State) (a0 : Array Value) (hw : ∀ d ∈ tables_1, d.before a0 Z = true) (t0 : Addr) (p1 : Int32) (p2 : Int32) (h0 : Heap) (n0 : Nat) (Z0 : n0 ≤ h0.size) (bR bC bB hd : Addr) (hs : List Int64) (F_rowOf : Fld Z h0 t0 "com/example/onda/onda/sudoku/Units" "rowOf" "[I" (.ref bR)) (F_columnOf : Fld Z h0 t0 "com/example/onda/onda/sudoku/Units" "columnOf" "[I" (.ref bC)) (F_boxOf : Fld Z h0 t0 "com/example/onda/onda/sudoku/Units" "boxOf" "[I" (.ref bB)) (F_held : Fld Z h0 t0 "com/example/onda/onda/sudoku/Units" "held" "[J" (.ref hd)) (VR : own_Ar Z h0 bR .int ((own_L own_fR3 81 81).map Value.int)) (VC : own_Ar Z h0 bC .int ((own_L own_fC3 81 81).map Value.int)) (VB : own_Ar Z h0 bB .int ((own_L own_fB3 81 81).map Value.int)) (VH : own_Ar Z h0 hd .long (hs.map Value.long)) (hl : hs.length = 27) (nt0 : t0 ≠ hd) (nbR : bR ≠ hd) (nbC : bC ≠ hd) (nbB : bB ≠ hd) (g_hd : n0 ≤ hd) (hj : ¬ p1 < 0) (hi : p1.toNatClampNeg < 81) :
    own_Met l (⟨"com/example/onda/onda/sudoku/Units", "place", "(II)V"⟩ : MethodName) prog_24_method_6_code 5 none ({ frames := 0, cells := 0, slots := 0, locals := 0 } : Room) Z [] #[(.ref t0), (.int p1), (.int p2)] h0 (own_QP3 Z hd (own_pl3 hs p1 ((1 : Int64) <<< (p2 &&& 0x3f).toInt64)) h0 n0) := by
  refine own_enter pn_9g3 ?_
  intro p e s m below meth c s₁ hx hby hml hown hnm hret hlk hZ e0 X0
  rw [ef_9g3]
  have N0 := Fr.nil n0
  show own_Fin _ _ _ _ _ _ _ (s₁.setTop (mkF m 0 #[.val (.ref t0), .val (.int p1), .val (.int p2), .unset, .unset] []))
  refine own_go (fun _ kk => XS.lconst X0.here hx rfl (hb hby d9g3_0) (XS.iloadN X0.here hx rfl (hb hby d9g3_1) rfl (XS.lshl X0.here hx rfl (hb hby d9g3_2) rfl (XS.lstoreN X0.here hx rfl (hb hby d9g3_3) rfl (l' := #[.val (.ref t0), .val (.int p1), .val (.int p2), .val (.long ((1 : Int64) <<< (p2 &&& 0x3f).toInt64)), .second]) rfl kk)))) ?_
  show own_Fin _ _ _ _ _ _ _ (s₁.setTop (mkF m 4 #[.val (.ref t0), .val (.int p1), .val (.int p2), .val (.long ((1 : Int64) <<< (p2 &&& 0x3f).toInt64)), .second] []))
  generalize hbit : ((1 : Int64) <<< (p2 &&& 0x3f).toInt64) = bit
  show own_Fin _ _ _ _ _ _ _ (s₁.setTop (mkF m 4 #[.val (.ref t0), .val (.int p1), .val (.int p2), .val (.long bit), .second] []))
  refine own_go (fun _ kk => XS.aloadN X0.here hx rfl (hb hby d9g3_4) rfl rfl kk) ?_
  show own_Fin _ _ _ _ _ _ _ (s₁.setTop (mkF m 5 #[.val (.ref t0), .val (.int p1), .val (.int p2), .val (.long bit), .second] [(.ref t0)]))
  refine own_getF X0 hx hZ hown (host := "") (Or.inl (hw _ (List.mem_of_getElem? (i := 71) rfl))) Via.refl e0 F_held (hb hby d9g3_5) ?_
  intro T1 X1 e1
  show own_Fin _ _ _ _ _ _ _ (T1.setTop (mkF m 8 #[.val (.ref t0), .val (.int p1), .val (.int p2), .val (.long bit), .second] [(.ref hd)]))
  refine own_go (fun _ kk => XS.aloadN X1.here hx rfl (hb hby d9g3_8) rfl rfl kk) ?_
  show own_Fin _ _ _ _ _ _ _ (T1.setTop (mkF m 9 #[.val (.ref t0), .val (.int p1), .val (.int p2), .val (.long bit), .second] [(.ref t0), (.ref hd)]))
  refine own_getF X1 hx hZ hown (host := "") (Or.inl (hw _ (List.mem_of_getElem? (i := 41) rfl))) Via.refl e1 F_rowOf (hb hby d9g3_9) ?_
  intro T2 X2 e2
  show own_Fin _ _ _ _ _ _ _ (T2.setTop (mkF m 12 #[.val (.ref t0), .val (.int p1), .val (.int p2), .val (.long bit), .second] [(.ref bR), (.ref hd)]))
  refine own_go (fun _ kk => XS.iloadN X2.here hx rfl (hb hby d9g3_12) rfl kk) ?_
  show own_Fin _ _ _ _ _ _ _ (T2.setTop (mkF m 13 #[.val (.ref t0), .val (.int p1), .val (.int p2), .val (.long bit), .second] [(.int p1), (.ref bR), (.ref hd)]))
  refine own_ldI X2 hx hZ e2 VR hj (by rw [own_Llen]; exact hi) (hb hby d9g3_13) ?_
  show own_Fin _ _ _ _ _ _ _ (T2.setTop (mkF m 14 #[.val (.ref t0), .val (.int p1), .val (.int p2), .val (.long bit), .second] [(.int (List.getD (own_L own_fR3 81 81) (p1).toNatClampNeg 0)), (.ref hd)]))
  rw [own_LgetK (f := own_fR3) hi (Nat.le_refl _)]
  show own_Fin _ _ _ _ _ _ _ (T2.setTop (mkF m 14 #[.val (.ref t0), .val (.int p1), .val (.int p2), .val (.long bit), .second] [(.int (own_fR3 (p1).toNatClampNeg)), (.ref hd)]))
  refine own_go (fun _ kk => XT.dup2 X2.here hx rfl (hb hby d9g3_14) rfl rfl rfl kk) ?_
  show own_Fin _ _ _ _ _ _ _ (T2.setTop (mkF m 15 #[.val (.ref t0), .val (.int p1), .val (.int p2), .val (.long bit), .second] [(.int (own_fR3 (p1).toNatClampNeg)), (.ref hd), (.int (own_fR3 (p1).toNatClampNeg)), (.ref hd)]))
  refine own_ldJ X2 hx hZ e2 VH (own_bd3 _ hi).1.1 (by rw [hl]; exact (own_bd3 _ hi).1.2) (hb hby d9g3_15) ?_
  show own_Fin _ _ _ _ _ _ _ (T2.setTop (mkF m 16 #[.val (.ref t0), .val (.int p1), .val (.int p2), .val (.long bit), .second] [(.long (List.getD hs ((own_fR3 (p1).toNatClampNeg)).toNatClampNeg 0)), (.int (own_fR3 (p1).toNatClampNeg)), (.ref hd)]))
  refine own_go (fun _ kk => XS.lloadN X2.here hx rfl (hb hby d9g3_16) rfl (XS.lor X2.here hx rfl (hb hby d9g3_17) rfl kk)) ?_
  show own_Fin _ _ _ _ _ _ _ (T2.setTop (mkF m 18 #[.val (.ref t0), .val (.int p1), .val (.int p2), .val (.long bit), .second] [(.long ((List.getD hs ((own_fR3 (p1).toNatClampNeg)).toNatClampNeg 0) ||| bit)), (.int (own_fR3 (p1).toNatClampNeg)), (.ref hd)]))
  refine own_stJ X2 hx hZ e2 VH (own_bd3 _ hi).1.1 (by rw [hl]; exact (own_bd3 _ hi).1.2) (hb hby d9g3_18) ?_
  intro T3 h3 X3 e3 W3 A3
  have f4 := F_rowOf.other W3 (Or.inl nt0)
  have f5 := F_columnOf.other W3 (Or.inl nt0)
  have f6 := F_boxOf.other W3 (Or.inl nt0)
  have f7 := F_held.other W3 (Or.inl nt0)
  have f8 := VR.other W3 nbR
  have f9 := VC.other W3 nbC
  have f10 := VB.other W3 nbB
  have Z3 := Nat.le_trans Z0 (Keep.of_wr W3).1
  have K3 := (Keep.refl h0 [hd]).wr W3 (Or.inl (List.mem_of_getElem? (i := 0) rfl))
  have N3 := Fr.snoc X3 N0 g_hd
  show own_Fin _ _ _ _ _ _ _ (T3.setTop (mkF m 19 #[.val (.ref t0), .val (.int p1), .val (.int p2), .val (.long bit), .second] []))
  have UA3 : own_Ar Z h3 hd .long (List.map Value.long (own_upd hs (own_fR3 (p1).toNatClampNeg) bit)) := A3
  refine own_go (fun _ kk => XS.aloadN X3.here hx rfl (hb hby d9g3_19) rfl rfl kk) ?_
  show own_Fin _ _ _ _ _ _ _ (T3.setTop (mkF m 20 #[.val (.ref t0), .val (.int p1), .val (.int p2), .val (.long bit), .second] [(.ref t0)]))
  refine own_getF X3 hx hZ hown (host := "") (Or.inl (hw _ (List.mem_of_getElem? (i := 71) rfl))) Via.refl e3 f7 (hb hby d9g3_20) ?_
  intro T12 X12 e12
  show own_Fin _ _ _ _ _ _ _ (T12.setTop (mkF m 23 #[.val (.ref t0), .val (.int p1), .val (.int p2), .val (.long bit), .second] [(.ref hd)]))
  refine own_go (fun _ kk => XS.aloadN X12.here hx rfl (hb hby d9g3_23) rfl rfl kk) ?_
  show own_Fin _ _ _ _ _ _ _ (T12.setTop (mkF m 24 #[.val (.ref t0), .val (.int p1), .val (.int p2), .val (.long bit), .second] [(.ref t0), (.ref hd)]))
  refine own_getF X12 hx hZ hown (host := "") (Or.inl (hw _ (List.mem_of_getElem? (i := 48) rfl))) Via.refl e12 f5 (hb hby d9g3_24) ?_
  intro T13 X13 e13
  show own_Fin _ _ _ _ _ _ _ (T13.setTop (mkF m 27 #[.val (.ref t0), .val (.int p1), .val (.int p2), .val (.long bit), .second] [(.ref bC), (.ref hd)]))
  refine own_go (fun _ kk => XS.iloadN X13.here hx rfl (hb hby d9g3_27) rfl kk) ?_
  show own_Fin _ _ _ _ _ _ _ (T13.setTop (mkF m 28 #[.val (.ref t0), .val (.int p1), .val (.int p2), .val (.long bit), .second] [(.int p1), (.ref bC), (.ref hd)]))
  refine own_ldI X13 hx hZ e13 f9 hj (by rw [own_Llen]; exact hi) (hb hby d9g3_28) ?_
  show own_Fin _ _ _ _ _ _ _ (T13.setTop (mkF m 29 #[.val (.ref t0), .val (.int p1), .val (.int p2), .val (.long bit), .second] [(.int (List.getD (own_L own_fC3 81 81) (p1).toNatClampNeg 0)), (.ref hd)]))
  rw [own_LgetK (f := own_fC3) hi (Nat.le_refl _)]
  show own_Fin _ _ _ _ _ _ _ (T13.setTop (mkF m 29 #[.val (.ref t0), .val (.int p1), .val (.int p2), .val (.long bit), .second] [(.int (own_fC3 (p1).toNatClampNeg)), (.ref hd)]))
  refine own_go (fun _ kk => XT.dup2 X13.here hx rfl (hb hby d9g3_29) rfl rfl rfl kk) ?_
  show own_Fin _ _ _ _ _ _ _ (T13.setTop (mkF m 30 #[.val (.ref t0), .val (.int p1), .val (.int p2), .val (.long bit), .second] [(.int (own_fC3 (p1).toNatClampNeg)), (.ref hd), (.int (own_fC3 (p1).toNatClampNeg)), (.ref hd)]))
  refine own_ldJ X13 hx hZ e13 UA3 (own_bd3 _ hi).2.1.1 (by rw [own_updlen, hl]; exact (own_bd3 _ hi).2.1.2) (hb hby d9g3_30) ?_
  show own_Fin _ _ _ _ _ _ _ (T13.setTop (mkF m 31 #[.val (.ref t0), .val (.int p1), .val (.int p2), .val (.long bit), .second] [(.long (List.getD (own_upd hs (own_fR3 (p1).toNatClampNeg) bit) ((own_fC3 (p1).toNatClampNeg)).toNatClampNeg 0)), (.int (own_fC3 (p1).toNatClampNeg)), (.ref hd)]))
  refine own_go (fun _ kk => XS.lloadN X13.here hx rfl (hb hby d9g3_31) rfl (XS.lor X13.here hx rfl (hb hby d9g3_32) rfl kk)) ?_
  show own_Fin _ _ _ _ _ _ _ (T13.setTop (mkF m 33 #[.val (.ref t0), .val (.int p1), .val (.int p2), .val (.long bit), .second] [(.long ((List.getD (own_upd hs (own_fR3 (p1).toNatClampNeg) bit) ((own_fC3 (p1).toNatClampNeg)).toNatClampNeg 0) ||| bit)), (.int (own_fC3 (p1).toNatClampNeg)), (.ref hd)]))
  refine own_stJ X13 hx hZ e13 UA3 (own_bd3 _ hi).2.1.1 (by rw [own_updlen, hl]; exact (own_bd3 _ hi).2.1.2) (hb hby d9g3_33) ?_
  intro T14 h14 X14 e14 W14 A14
  have f15 := f4.other W14 (Or.inl nt0)
  have f16 := f5.other W14 (Or.inl nt0)
  have f17 := f6.other W14 (Or.inl nt0)
  have f18 := f7.other W14 (Or.inl nt0)
  have f19 := f8.other W14 nbR
  have f20 := f9.other W14 nbC
  have f21 := f10.other W14 nbB
  have Z14 := Nat.le_trans Z3 (Keep.of_wr W14).1
  have K14 := K3.wr W14 (Or.inl (List.mem_of_getElem? (i := 0) rfl))
  have N14 := Fr.snoc X14 N3 g_hd
  show own_Fin _ _ _ _ _ _ _ (T14.setTop (mkF m 34 #[.val (.ref t0), .val (.int p1), .val (.int p2), .val (.long bit), .second] []))
  have UA14 : own_Ar Z h14 hd .long (List.map Value.long (own_upd (own_upd hs (own_fR3 (p1).toNatClampNeg) bit) (own_fC3 (p1).toNatClampNeg) bit)) := A14
  refine own_go (fun _ kk => XS.aloadN X14.here hx rfl (hb hby d9g3_34) rfl rfl kk) ?_
  show own_Fin _ _ _ _ _ _ _ (T14.setTop (mkF m 35 #[.val (.ref t0), .val (.int p1), .val (.int p2), .val (.long bit), .second] [(.ref t0)]))
  refine own_getF X14 hx hZ hown (host := "") (Or.inl (hw _ (List.mem_of_getElem? (i := 71) rfl))) Via.refl e14 f18 (hb hby d9g3_35) ?_
  intro T23 X23 e23
  show own_Fin _ _ _ _ _ _ _ (T23.setTop (mkF m 38 #[.val (.ref t0), .val (.int p1), .val (.int p2), .val (.long bit), .second] [(.ref hd)]))
  refine own_go (fun _ kk => XS.aloadN X23.here hx rfl (hb hby d9g3_38) rfl rfl kk) ?_
  show own_Fin _ _ _ _ _ _ _ (T23.setTop (mkF m 39 #[.val (.ref t0), .val (.int p1), .val (.int p2), .val (.long bit), .second] [(.ref t0), (.ref hd)]))
  refine own_getF X23 hx hZ hown (host := "") (Or.inl (hw _ (List.mem_of_getElem? (i := 55) rfl))) Via.refl e23 f17 (hb hby d9g3_39) ?_
  intro T24 X24 e24
  show own_Fin _ _ _ _ _ _ _ (T24.setTop (mkF m 42 #[.val (.ref t0), .val (.int p1), .val (.int p2), .val (.long bit), .second] [(.ref bB), (.ref hd)]))
  refine own_go (fun _ kk => XS.iloadN X24.here hx rfl (hb hby d9g3_42) rfl kk) ?_
  show own_Fin _ _ _ _ _ _ _ (T24.setTop (mkF m 43 #[.val (.ref t0), .val (.int p1), .val (.int p2), .val (.long bit), .second] [(.int p1), (.ref bB), (.ref hd)]))
  refine own_ldI X24 hx hZ e24 f21 hj (by rw [own_Llen]; exact hi) (hb hby d9g3_43) ?_
  show own_Fin _ _ _ _ _ _ _ (T24.setTop (mkF m 44 #[.val (.ref t0), .val (.int p1), .val (.int p2), .val (.long bit), .second] [(.int (List.getD (own_L own_fB3 81 81) (p1).toNatClampNeg 0)), (.ref hd)]))
  rw [own_LgetK (f := own_fB3) hi (Nat.le_refl _)]
  show own_Fin _ _ _ _ _ _ _ (T24.setTop (mkF m 44 #[.val (.ref t0), .val (.int p1), .val (.int p2), .val (.long bit), .second] [(.int (own_fB3 (p1).toNatClampNeg)), (.ref hd)]))
  refine own_go (fun _ kk => XT.dup2 X24.here hx rfl (hb hby d9g3_44) rfl rfl rfl kk) ?_
  show own_Fin _ _ _ _ _ _ _ (T24.setTop (mkF m 45 #[.val (.ref t0), .val (.int p1), .val (.int p2), .val (.long bit), .second] [(.int (own_fB3 (p1).toNatClampNeg)), (.ref hd), (.int (own_fB3 (p1).toNatClampNeg)), (.ref hd)]))
  refine own_ldJ X24 hx hZ e24 UA14 (own_bd3 _ hi).2.2.1.1 (by rw [own_updlen, own_updlen, hl]; exact (own_bd3 _ hi).2.2.1.2) (hb hby d9g3_45) ?_
  show own_Fin _ _ _ _ _ _ _ (T24.setTop (mkF m 46 #[.val (.ref t0), .val (.int p1), .val (.int p2), .val (.long bit), .second] [(.long (List.getD (own_upd (own_upd hs (own_fR3 (p1).toNatClampNeg) bit) (own_fC3 (p1).toNatClampNeg) bit) ((own_fB3 (p1).toNatClampNeg)).toNatClampNeg 0)), (.int (own_fB3 (p1).toNatClampNeg)), (.ref hd)]))
  refine own_go (fun _ kk => XS.lloadN X24.here hx rfl (hb hby d9g3_46) rfl (XS.lor X24.here hx rfl (hb hby d9g3_47) rfl kk)) ?_
  show own_Fin _ _ _ _ _ _ _ (T24.setTop (mkF m 48 #[.val (.ref t0), .val (.int p1), .val (.int p2), .val (.long bit), .second] [(.long ((List.getD (own_upd (own_upd hs (own_fR3 (p1).toNatClampNeg) bit) (own_fC3 (p1).toNatClampNeg) bit) ((own_fB3 (p1).toNatClampNeg)).toNatClampNeg 0) ||| bit)), (.int (own_fB3 (p1).toNatClampNeg)), (.ref hd)]))
  refine own_stJ X24 hx hZ e24 UA14 (own_bd3 _ hi).2.2.1.1 (by rw [own_updlen, own_updlen, hl]; exact (own_bd3 _ hi).2.2.1.2) (hb hby d9g3_48) ?_
  intro T25 h25 X25 e25 W25 A25
  have f26 := f15.other W25 (Or.inl nt0)
  have f27 := f16.other W25 (Or.inl nt0)
  have f28 := f17.other W25 (Or.inl nt0)
  have f29 := f18.other W25 (Or.inl nt0)
  have f30 := f19.other W25 nbR
  have f31 := f20.other W25 nbC
  have f32 := f21.other W25 nbB
  have Z25 := Nat.le_trans Z14 (Keep.of_wr W25).1
  have K25 := K14.wr W25 (Or.inl (List.mem_of_getElem? (i := 0) rfl))
  have N25 := Fr.snoc X25 N14 g_hd
  show own_Fin _ _ _ _ _ _ _ (T25.setTop (mkF m 49 #[.val (.ref t0), .val (.int p1), .val (.int p2), .val (.long bit), .second] []))
  have UA25 : own_Ar Z h25 hd .long (List.map Value.long (own_upd (own_upd (own_upd hs (own_fR3 (p1).toNatClampNeg) bit) (own_fC3 (p1).toNatClampNeg) bit) (own_fB3 (p1).toNatClampNeg) bit)) := A25
  exact own_retV X25 hx hlk hret (hb hby d9g3_49) (by decide) (by decide) (by rw [e25]; exact ⟨rfl, N25, K25, UA25⟩)

theorem d13g3_0 : decode prog_24_method_3_code 0 = .ok (.aload_n 0, 1) := by decide +kernel
theorem d13g3_1 : decode prog_24_method_3_code 1 = .ok (.getfield 47, 3) := by decide +kernel
theorem d13g3_4 : decode prog_24_method_3_code 4 = .ok (.aload_n 0, 1) := by decide +kernel
theorem d13g3_5 : decode prog_24_method_3_code 5 = .ok (.getfield 21, 3) := by decide +kernel
theorem d13g3_8 : decode prog_24_method_3_code 8 = .ok (.iload_n 1, 1) := by decide +kernel
theorem d13g3_9 : decode prog_24_method_3_code 9 = .ok (.iaload, 1) := by decide +kernel
theorem d13g3_10 : decode prog_24_method_3_code 10 = .ok (.laload, 1) := by decide +kernel
theorem d13g3_11 : decode prog_24_method_3_code 11 = .ok (.lconst 1, 1) := by decide +kernel
theorem d13g3_12 : decode prog_24_method_3_code 12 = .ok (.iload_n 2, 1) := by decide +kernel
theorem d13g3_13 : decode prog_24_method_3_code 13 = .ok (.lshl, 1) := by decide +kernel
theorem d13g3_14 : decode prog_24_method_3_code 14 = .ok (.land, 1) := by decide +kernel
theorem d13g3_15 : decode prog_24_method_3_code 15 = .ok (.lconst 0, 1) := by decide +kernel
theorem d13g3_16 : decode prog_24_method_3_code 16 = .ok (.lcmp, 1) := by decide +kernel
theorem d13g3_17 : decode prog_24_method_3_code 17 = .ok (.ifCond .eq 7, 3) := by decide +kernel
theorem d13g3_20 : decode prog_24_method_3_code 20 = .ok (.iconst 1, 1) := by decide +kernel
theorem d13g3_21 : decode prog_24_method_3_code 21 = .ok (.goto 4, 3) := by decide +kernel
theorem d13g3_24 : decode prog_24_method_3_code 24 = .ok (.iconst 0, 1) := by decide +kernel
theorem d13g3_25 : decode prog_24_method_3_code 25 = .ok (.ireturn, 1) := by decide +kernel
theorem pn_13g3 : plainFor (⟨"com/example/onda/onda/sudoku/Units", "rowHolds", "(II)Z"⟩ : MethodName) = true := plainFor_of_name (by show plainName "com/example/onda/onda/sudoku/Units" = true; first | (simp [plainName, overriddenIn]; done) | decide +kernel)
theorem ef_13g3 (m : MethodId) (x0 : Addr) (x1 : Int32) (x2 : Int32) : entryFrame m #[(.ref x0), (.int x1), (.int x2)] 3 = mkF m 0 #[.val (.ref x0), .val (.int x1), .val (.int x2)] [] := by first | (simp [entryFrame, mkF, argsToLocals, Value.category]; done) | rfl
def own_f13g3 (hs : List Int64) (p1 : Int32) (p2 : Int32) : Int32 :=
  if ((List.getD hs ((own_fR3 (p1).toNatClampNeg)).toNatClampNeg 0) &&& ((1 : Int64) <<< (p2 &&& 0x3f).toInt64)) = (0 : Int64) then
    (0 : Int32)
  else
    (1 : Int32)
set_option maxRecDepth 65536 in
set_option maxHeartbeats 40000000 in
theorem rm13g3 (l : Launch) (Z : State) (a0 : Array Value) (hw : ∀ d ∈ tables_1, d.before a0 Z = true) (t0 : Addr) (p1 : Int32) (p2 : Int32) (h0 : Heap) (n0 : Nat) (Z0 : n0 ≤ h0.size) (bR bC bB hd : Addr) (hs : List Int64) (F_rowOf : Fld Z h0 t0 "com/example/onda/onda/sudoku/Units" "rowOf" "[I" (.ref bR)) (F_columnOf : Fld Z h0 t0 "com/example/onda/onda/sudoku/Units" "columnOf" "[I" (.ref bC)) (F_boxOf : Fld Z h0 t0 "com/example/onda/onda/sudoku/Units" "boxOf" "[I" (.ref bB)) (F_held : Fld Z h0 t0 "com/example/onda/onda/sudoku/Units" "held" "[J" (.ref hd)) (VR : own_Ar Z h0 bR .int ((own_L own_fR3 81 81).map Value.int)) (VC : own_Ar Z h0 bC .int ((own_L own_fC3 81 81).map Value.int)) (VB : own_Ar Z h0 bB .int ((own_L own_fB3 81 81).map Value.int)) (VH : own_Ar Z h0 hd .long (hs.map Value.long)) (hl : hs.length = 27) (hj : ¬ p1 < 0) (hi : p1.toNatClampNeg < 81) :
    own_Met l (⟨"com/example/onda/onda/sudoku/Units", "rowHolds", "(II)Z"⟩ : MethodName) prog_24_method_3_code 3 (some .boolean) ({ frames := 0, cells := 0, slots := 0, locals := 0 } : Room) Z [] #[(.ref t0), (.int p1), (.int p2)] h0 (own_P (some (.int (own_f13g3 hs p1 p2))) h0 n0) := by
  refine own_enter pn_13g3 ?_
  intro p e s m below meth c s₁ hx hby hml hown hnm hret hlk hZ e0 X0
  rw [ef_13g3]
  have N0 := Fr.nil n0
  show own_Fin _ _ _ _ _ _ _ (s₁.setTop (mkF m 0 #[.val (.ref t0), .val (.int p1), .val (.int p2)] []))
  refine own_go (fun _ kk => XS.aloadN X0.here hx rfl (hb hby d13g3_0) rfl rfl kk) ?_
  show own_Fin _ _ _ _ _ _ _ (s₁.setTop (mkF m 1 #[.val (.ref t0), .val (.int p1), .val (.int p2)] [(.ref t0)]))
  refine own_getF X0 hx hZ hown (host := "") (Or.inl (hw _ (List.mem_of_getElem? (i := 71) rfl))) Via.refl e0 F_held (hb hby d13g3_1) ?_
  intro T1 X1 e1
  show own_Fin _ _ _ _ _ _ _ (T1.setTop (mkF m 4 #[.val (.ref t0), .val (.int p1), .val (.int p2)] [(.ref hd)]))
  refine own_go (fun _ kk => XS.aloadN X1.here hx rfl (hb hby d13g3_4) rfl rfl kk) ?_
  show own_Fin _ _ _ _ _ _ _ (T1.setTop (mkF m 5 #[.val (.ref t0), .val (.int p1), .val (.int p2)] [(.ref t0), (.ref hd)]))
  refine own_getF X1 hx hZ hown (host := "") (Or.inl (hw _ (List.mem_of_getElem? (i := 41) rfl))) Via.refl e1 F_rowOf (hb hby d13g3_5) ?_
  intro T2 X2 e2
  show own_Fin _ _ _ _ _ _ _ (T2.setTop (mkF m 8 #[.val (.ref t0), .val (.int p1), .val (.int p2)] [(.ref bR), (.ref hd)]))
  refine own_go (fun _ kk => XS.iloadN X2.here hx rfl (hb hby d13g3_8) rfl kk) ?_
  show own_Fin _ _ _ _ _ _ _ (T2.setTop (mkF m 9 #[.val (.ref t0), .val (.int p1), .val (.int p2)] [(.int p1), (.ref bR), (.ref hd)]))
  refine own_ldI X2 hx hZ e2 VR hj (by rw [own_Llen]; exact hi) (hb hby d13g3_9) ?_
  show own_Fin _ _ _ _ _ _ _ (T2.setTop (mkF m 10 #[.val (.ref t0), .val (.int p1), .val (.int p2)] [(.int (List.getD (own_L own_fR3 81 81) (p1).toNatClampNeg 0)), (.ref hd)]))
  rw [own_LgetK (f := own_fR3) hi (Nat.le_refl _)]
  show own_Fin _ _ _ _ _ _ _ (T2.setTop (mkF m 10 #[.val (.ref t0), .val (.int p1), .val (.int p2)] [(.int (own_fR3 (p1).toNatClampNeg)), (.ref hd)]))
  refine own_ldJ X2 hx hZ e2 VH (own_bd3 _ hi).1.1 (by rw [hl]; exact (own_bd3 _ hi).1.2) (hb hby d13g3_10) ?_
  show own_Fin _ _ _ _ _ _ _ (T2.setTop (mkF m 11 #[.val (.ref t0), .val (.int p1), .val (.int p2)] [(.long (List.getD hs ((own_fR3 (p1).toNatClampNeg)).toNatClampNeg 0))]))
  refine own_go (fun _ kk => XS.lconst X2.here hx rfl (hb hby d13g3_11) (XS.iloadN X2.here hx rfl (hb hby d13g3_12) rfl (XS.lshl X2.here hx rfl (hb hby d13g3_13) rfl (XS.land X2.here hx rfl (hb hby d13g3_14) rfl (XS.lconst X2.here hx rfl (hb hby d13g3_15) (XT.lcmp X2.here hx rfl (hb hby d13g3_16) rfl kk)))))) ?_
  show own_Fin _ _ _ _ _ _ _ (T2.setTop (mkF m 17 #[.val (.ref t0), .val (.int p1), .val (.int p2)] [(.int (XT.cmpL ((List.getD hs ((own_fR3 (p1).toNatClampNeg)).toNatClampNeg 0) &&& ((1 : Int64) <<< (p2 &&& 0x3f).toInt64)) (0 : Int64)))]))
  by_cases hc17 : ((List.getD hs ((own_fR3 (p1).toNatClampNeg)).toNatClampNeg 0) &&& ((1 : Int64) <<< (p2 &&& 0x3f).toInt64)) = (0 : Int64)
  · refine own_go (fun _ kk => XS.ifYes X2.here hx rfl (pc0 := 17) (pc' := 24) rfl (hb hby d13g3_17) rfl (XT.ll_eq_t hc17) (by decide) (by decide) (XS.iconst X2.here hx rfl (hb hby d13g3_24) kk)) ?_
    show own_Fin _ _ _ _ _ _ _ (T2.setTop (mkF m 25 #[.val (.ref t0), .val (.int p1), .val (.int p2)] [(.int (0 : Int32))]))
    exact own_retZ X2 hx hlk hret rfl (hb hby d13g3_25) (by decide) (by decide) ⟨(by rw [own_f13g3, if_pos hc17]), N0, e2⟩
  · refine own_go (fun _ kk => XS.ifNo X2.here hx rfl (hb hby d13g3_17) rfl (XT.ll_eq_f hc17) (XS.iconst X2.here hx rfl (hb hby d13g3_20) (XS.goto X2.here hx rfl (pc0 := 21) (pc' := 25) rfl (hb hby d13g3_21) (by decide) (by decide) kk))) ?_
    show own_Fin _ _ _ _ _ _ _ (T2.setTop (mkF m 25 #[.val (.ref t0), .val (.int p1), .val (.int p2)] [(.int (1 : Int32))]))
    exact own_retZ X2 hx hlk hret rfl (hb hby d13g3_25) (by decide) (by decide) ⟨(by rw [own_f13g3, if_neg hc17]), N0, e2⟩

theorem d14g3_0 : decode prog_24_method_4_code 0 = .ok (.aload_n 0, 1) := by decide +kernel
theorem d14g3_1 : decode prog_24_method_4_code 1 = .ok (.getfield 47, 3) := by decide +kernel
theorem d14g3_4 : decode prog_24_method_4_code 4 = .ok (.aload_n 0, 1) := by decide +kernel
theorem d14g3_5 : decode prog_24_method_4_code 5 = .ok (.getfield 27, 3) := by decide +kernel
theorem d14g3_8 : decode prog_24_method_4_code 8 = .ok (.iload_n 1, 1) := by decide +kernel
theorem d14g3_9 : decode prog_24_method_4_code 9 = .ok (.iaload, 1) := by decide +kernel
theorem d14g3_10 : decode prog_24_method_4_code 10 = .ok (.laload, 1) := by decide +kernel
theorem d14g3_11 : decode prog_24_method_4_code 11 = .ok (.lconst 1, 1) := by decide +kernel
theorem d14g3_12 : decode prog_24_method_4_code 12 = .ok (.iload_n 2, 1) := by decide +kernel
theorem d14g3_13 : decode prog_24_method_4_code 13 = .ok (.lshl, 1) := by decide +kernel
theorem d14g3_14 : decode prog_24_method_4_code 14 = .ok (.land, 1) := by decide +kernel
theorem d14g3_15 : decode prog_24_method_4_code 15 = .ok (.lconst 0, 1) := by decide +kernel
theorem d14g3_16 : decode prog_24_method_4_code 16 = .ok (.lcmp, 1) := by decide +kernel
theorem d14g3_17 : decode prog_24_method_4_code 17 = .ok (.ifCond .eq 7, 3) := by decide +kernel
theorem d14g3_20 : decode prog_24_method_4_code 20 = .ok (.iconst 1, 1) := by decide +kernel
theorem d14g3_21 : decode prog_24_method_4_code 21 = .ok (.goto 4, 3) := by decide +kernel
theorem d14g3_24 : decode prog_24_method_4_code 24 = .ok (.iconst 0, 1) := by decide +kernel
theorem d14g3_25 : decode prog_24_method_4_code 25 = .ok (.ireturn, 1) := by decide +kernel
theorem pn_14g3 : plainFor (⟨"com/example/onda/onda/sudoku/Units", "columnHolds", "(II)Z"⟩ : MethodName) = true := plainFor_of_name (by show plainName "com/example/onda/onda/sudoku/Units" = true; first | (simp [plainName, overriddenIn]; done) | decide +kernel)
theorem ef_14g3 (m : MethodId) (x0 : Addr) (x1 : Int32) (x2 : Int32) : entryFrame m #[(.ref x0), (.int x1), (.int x2)] 3 = mkF m 0 #[.val (.ref x0), .val (.int x1), .val (.int x2)] [] := by first | (simp [entryFrame, mkF, argsToLocals, Value.category]; done) | rfl
def own_f14g3 (hs : List Int64) (p1 : Int32) (p2 : Int32) : Int32 :=
  if ((List.getD hs ((own_fC3 (p1).toNatClampNeg)).toNatClampNeg 0) &&& ((1 : Int64) <<< (p2 &&& 0x3f).toInt64)) = (0 : Int64) then
    (0 : Int32)
  else
    (1 : Int32)
set_option maxRecDepth 65536 in
set_option maxHeartbeats 40000000 in
theorem rm14g3 (l : Launch) (Z : State) (a0 : Array Value) (hw : ∀ d ∈ tables_1, d.before a0 Z = true) (t0 : Addr) (p1 : Int32) (p2 : Int32) (h0 : Heap) (n0 : Nat) (Z0 : n0 ≤ h0.size) (bR bC bB hd : Addr) (hs : List Int64) (F_rowOf : Fld Z h0 t0 "com/example/onda/onda/sudoku/Units" "rowOf" "[I" (.ref bR)) (F_columnOf : Fld Z h0 t0 "com/example/onda/onda/sudoku/Units" "columnOf" "[I" (.ref bC)) (F_boxOf : Fld Z h0 t0 "com/example/onda/onda/sudoku/Units" "boxOf" "[I" (.ref bB)) (F_held : Fld Z h0 t0 "com/example/onda/onda/sudoku/Units" "held" "[J" (.ref hd)) (VR : own_Ar Z h0 bR .int ((own_L own_fR3 81 81).map Value.int)) (VC : own_Ar Z h0 bC .int ((own_L own_fC3 81 81).map Value.int)) (VB : own_Ar Z h0 bB .int ((own_L own_fB3 81 81).map Value.int)) (VH : own_Ar Z h0 hd .long (hs.map Value.long)) (hl : hs.length = 27) (hj : ¬ p1 < 0) (hi : p1.toNatClampNeg < 81) :
    own_Met l (⟨"com/example/onda/onda/sudoku/Units", "columnHolds", "(II)Z"⟩ : MethodName) prog_24_method_4_code 3 (some .boolean) ({ frames := 0, cells := 0, slots := 0, locals := 0 } : Room) Z [] #[(.ref t0), (.int p1), (.int p2)] h0 (own_P (some (.int (own_f14g3 hs p1 p2))) h0 n0) := by
  refine own_enter pn_14g3 ?_
  intro p e s m below meth c s₁ hx hby hml hown hnm hret hlk hZ e0 X0
  rw [ef_14g3]
  have N0 := Fr.nil n0
  show own_Fin _ _ _ _ _ _ _ (s₁.setTop (mkF m 0 #[.val (.ref t0), .val (.int p1), .val (.int p2)] []))
  refine own_go (fun _ kk => XS.aloadN X0.here hx rfl (hb hby d14g3_0) rfl rfl kk) ?_
  show own_Fin _ _ _ _ _ _ _ (s₁.setTop (mkF m 1 #[.val (.ref t0), .val (.int p1), .val (.int p2)] [(.ref t0)]))
  refine own_getF X0 hx hZ hown (host := "") (Or.inl (hw _ (List.mem_of_getElem? (i := 71) rfl))) Via.refl e0 F_held (hb hby d14g3_1) ?_
  intro T1 X1 e1
  show own_Fin _ _ _ _ _ _ _ (T1.setTop (mkF m 4 #[.val (.ref t0), .val (.int p1), .val (.int p2)] [(.ref hd)]))
  refine own_go (fun _ kk => XS.aloadN X1.here hx rfl (hb hby d14g3_4) rfl rfl kk) ?_
  show own_Fin _ _ _ _ _ _ _ (T1.setTop (mkF m 5 #[.val (.ref t0), .val (.int p1), .val (.int p2)] [(.ref t0), (.ref hd)]))
  refine own_getF X1 hx hZ hown (host := "") (Or.inl (hw _ (List.mem_of_getElem? (i := 48) rfl))) Via.refl e1 F_columnOf (hb hby d14g3_5) ?_
  intro T2 X2 e2
  show own_Fin _ _ _ _ _ _ _ (T2.setTop (mkF m 8 #[.val (.ref t0), .val (.int p1), .val (.int p2)] [(.ref bC), (.ref hd)]))
  refine own_go (fun _ kk => XS.iloadN X2.here hx rfl (hb hby d14g3_8) rfl kk) ?_
  show own_Fin _ _ _ _ _ _ _ (T2.setTop (mkF m 9 #[.val (.ref t0), .val (.int p1), .val (.int p2)] [(.int p1), (.ref bC), (.ref hd)]))
  refine own_ldI X2 hx hZ e2 VC hj (by rw [own_Llen]; exact hi) (hb hby d14g3_9) ?_
  show own_Fin _ _ _ _ _ _ _ (T2.setTop (mkF m 10 #[.val (.ref t0), .val (.int p1), .val (.int p2)] [(.int (List.getD (own_L own_fC3 81 81) (p1).toNatClampNeg 0)), (.ref hd)]))
  rw [own_LgetK (f := own_fC3) hi (Nat.le_refl _)]
  show own_Fin _ _ _ _ _ _ _ (T2.setTop (mkF m 10 #[.val (.ref t0), .val (.int p1), .val (.int p2)] [(.int (own_fC3 (p1).toNatClampNeg)), (.ref hd)]))
  refine own_ldJ X2 hx hZ e2 VH (own_bd3 _ hi).2.1.1 (by rw [hl]; exact (own_bd3 _ hi).2.1.2) (hb hby d14g3_10) ?_
  show own_Fin _ _ _ _ _ _ _ (T2.setTop (mkF m 11 #[.val (.ref t0), .val (.int p1), .val (.int p2)] [(.long (List.getD hs ((own_fC3 (p1).toNatClampNeg)).toNatClampNeg 0))]))
  refine own_go (fun _ kk => XS.lconst X2.here hx rfl (hb hby d14g3_11) (XS.iloadN X2.here hx rfl (hb hby d14g3_12) rfl (XS.lshl X2.here hx rfl (hb hby d14g3_13) rfl (XS.land X2.here hx rfl (hb hby d14g3_14) rfl (XS.lconst X2.here hx rfl (hb hby d14g3_15) (XT.lcmp X2.here hx rfl (hb hby d14g3_16) rfl kk)))))) ?_
  show own_Fin _ _ _ _ _ _ _ (T2.setTop (mkF m 17 #[.val (.ref t0), .val (.int p1), .val (.int p2)] [(.int (XT.cmpL ((List.getD hs ((own_fC3 (p1).toNatClampNeg)).toNatClampNeg 0) &&& ((1 : Int64) <<< (p2 &&& 0x3f).toInt64)) (0 : Int64)))]))
  by_cases hc17 : ((List.getD hs ((own_fC3 (p1).toNatClampNeg)).toNatClampNeg 0) &&& ((1 : Int64) <<< (p2 &&& 0x3f).toInt64)) = (0 : Int64)
  · refine own_go (fun _ kk => XS.ifYes X2.here hx rfl (pc0 := 17) (pc' := 24) rfl (hb hby d14g3_17) rfl (XT.ll_eq_t hc17) (by decide) (by decide) (XS.iconst X2.here hx rfl (hb hby d14g3_24) kk)) ?_
    show own_Fin _ _ _ _ _ _ _ (T2.setTop (mkF m 25 #[.val (.ref t0), .val (.int p1), .val (.int p2)] [(.int (0 : Int32))]))
    exact own_retZ X2 hx hlk hret rfl (hb hby d14g3_25) (by decide) (by decide) ⟨(by rw [own_f14g3, if_pos hc17]), N0, e2⟩
  · refine own_go (fun _ kk => XS.ifNo X2.here hx rfl (hb hby d14g3_17) rfl (XT.ll_eq_f hc17) (XS.iconst X2.here hx rfl (hb hby d14g3_20) (XS.goto X2.here hx rfl (pc0 := 21) (pc' := 25) rfl (hb hby d14g3_21) (by decide) (by decide) kk))) ?_
    show own_Fin _ _ _ _ _ _ _ (T2.setTop (mkF m 25 #[.val (.ref t0), .val (.int p1), .val (.int p2)] [(.int (1 : Int32))]))
    exact own_retZ X2 hx hlk hret rfl (hb hby d14g3_25) (by decide) (by decide) ⟨(by rw [own_f14g3, if_neg hc17]), N0, e2⟩

theorem d15g3_0 : decode prog_24_method_5_code 0 = .ok (.aload_n 0, 1) := by decide +kernel
theorem d15g3_1 : decode prog_24_method_5_code 1 = .ok (.getfield 47, 3) := by decide +kernel
theorem d15g3_4 : decode prog_24_method_5_code 4 = .ok (.aload_n 0, 1) := by decide +kernel
theorem d15g3_5 : decode prog_24_method_5_code 5 = .ok (.getfield 32, 3) := by decide +kernel
theorem d15g3_8 : decode prog_24_method_5_code 8 = .ok (.iload_n 1, 1) := by decide +kernel
theorem d15g3_9 : decode prog_24_method_5_code 9 = .ok (.iaload, 1) := by decide +kernel
theorem d15g3_10 : decode prog_24_method_5_code 10 = .ok (.laload, 1) := by decide +kernel
theorem d15g3_11 : decode prog_24_method_5_code 11 = .ok (.lconst 1, 1) := by decide +kernel
theorem d15g3_12 : decode prog_24_method_5_code 12 = .ok (.iload_n 2, 1) := by decide +kernel
theorem d15g3_13 : decode prog_24_method_5_code 13 = .ok (.lshl, 1) := by decide +kernel
theorem d15g3_14 : decode prog_24_method_5_code 14 = .ok (.land, 1) := by decide +kernel
theorem d15g3_15 : decode prog_24_method_5_code 15 = .ok (.lconst 0, 1) := by decide +kernel
theorem d15g3_16 : decode prog_24_method_5_code 16 = .ok (.lcmp, 1) := by decide +kernel
theorem d15g3_17 : decode prog_24_method_5_code 17 = .ok (.ifCond .eq 7, 3) := by decide +kernel
theorem d15g3_20 : decode prog_24_method_5_code 20 = .ok (.iconst 1, 1) := by decide +kernel
theorem d15g3_21 : decode prog_24_method_5_code 21 = .ok (.goto 4, 3) := by decide +kernel
theorem d15g3_24 : decode prog_24_method_5_code 24 = .ok (.iconst 0, 1) := by decide +kernel
theorem d15g3_25 : decode prog_24_method_5_code 25 = .ok (.ireturn, 1) := by decide +kernel
theorem pn_15g3 : plainFor (⟨"com/example/onda/onda/sudoku/Units", "boxHolds", "(II)Z"⟩ : MethodName) = true := plainFor_of_name (by show plainName "com/example/onda/onda/sudoku/Units" = true; first | (simp [plainName, overriddenIn]; done) | decide +kernel)
theorem ef_15g3 (m : MethodId) (x0 : Addr) (x1 : Int32) (x2 : Int32) : entryFrame m #[(.ref x0), (.int x1), (.int x2)] 3 = mkF m 0 #[.val (.ref x0), .val (.int x1), .val (.int x2)] [] := by first | (simp [entryFrame, mkF, argsToLocals, Value.category]; done) | rfl
def own_f15g3 (hs : List Int64) (p1 : Int32) (p2 : Int32) : Int32 :=
  if ((List.getD hs ((own_fB3 (p1).toNatClampNeg)).toNatClampNeg 0) &&& ((1 : Int64) <<< (p2 &&& 0x3f).toInt64)) = (0 : Int64) then
    (0 : Int32)
  else
    (1 : Int32)
set_option maxRecDepth 65536 in
set_option maxHeartbeats 40000000 in
theorem rm15g3 (l : Launch) (Z : State) (a0 : Array Value) (hw : ∀ d ∈ tables_1, d.before a0 Z = true) (t0 : Addr) (p1 : Int32) (p2 : Int32) (h0 : Heap) (n0 : Nat) (Z0 : n0 ≤ h0.size) (bR bC bB hd : Addr) (hs : List Int64) (F_rowOf : Fld Z h0 t0 "com/example/onda/onda/sudoku/Units" "rowOf" "[I" (.ref bR)) (F_columnOf : Fld Z h0 t0 "com/example/onda/onda/sudoku/Units" "columnOf" "[I" (.ref bC)) (F_boxOf : Fld Z h0 t0 "com/example/onda/onda/sudoku/Units" "boxOf" "[I" (.ref bB)) (F_held : Fld Z h0 t0 "com/example/onda/onda/sudoku/Units" "held" "[J" (.ref hd)) (VR : own_Ar Z h0 bR .int ((own_L own_fR3 81 81).map Value.int)) (VC : own_Ar Z h0 bC .int ((own_L own_fC3 81 81).map Value.int)) (VB : own_Ar Z h0 bB .int ((own_L own_fB3 81 81).map Value.int)) (VH : own_Ar Z h0 hd .long (hs.map Value.long)) (hl : hs.length = 27) (hj : ¬ p1 < 0) (hi : p1.toNatClampNeg < 81) :
    own_Met l (⟨"com/example/onda/onda/sudoku/Units", "boxHolds", "(II)Z"⟩ : MethodName) prog_24_method_5_code 3 (some .boolean) ({ frames := 0, cells := 0, slots := 0, locals := 0 } : Room) Z [] #[(.ref t0), (.int p1), (.int p2)] h0 (own_P (some (.int (own_f15g3 hs p1 p2))) h0 n0) := by
  refine own_enter pn_15g3 ?_
  intro p e s m below meth c s₁ hx hby hml hown hnm hret hlk hZ e0 X0
  rw [ef_15g3]
  have N0 := Fr.nil n0
  show own_Fin _ _ _ _ _ _ _ (s₁.setTop (mkF m 0 #[.val (.ref t0), .val (.int p1), .val (.int p2)] []))
  refine own_go (fun _ kk => XS.aloadN X0.here hx rfl (hb hby d15g3_0) rfl rfl kk) ?_
  show own_Fin _ _ _ _ _ _ _ (s₁.setTop (mkF m 1 #[.val (.ref t0), .val (.int p1), .val (.int p2)] [(.ref t0)]))
  refine own_getF X0 hx hZ hown (host := "") (Or.inl (hw _ (List.mem_of_getElem? (i := 71) rfl))) Via.refl e0 F_held (hb hby d15g3_1) ?_
  intro T1 X1 e1
  show own_Fin _ _ _ _ _ _ _ (T1.setTop (mkF m 4 #[.val (.ref t0), .val (.int p1), .val (.int p2)] [(.ref hd)]))
  refine own_go (fun _ kk => XS.aloadN X1.here hx rfl (hb hby d15g3_4) rfl rfl kk) ?_
  show own_Fin _ _ _ _ _ _ _ (T1.setTop (mkF m 5 #[.val (.ref t0), .val (.int p1), .val (.int p2)] [(.ref t0), (.ref hd)]))
  refine own_getF X1 hx hZ hown (host := "") (Or.inl (hw _ (List.mem_of_getElem? (i := 55) rfl))) Via.refl e1 F_boxOf (hb hby d15g3_5) ?_
  intro T2 X2 e2
  show own_Fin _ _ _ _ _ _ _ (T2.setTop (mkF m 8 #[.val (.ref t0), .val (.int p1), .val (.int p2)] [(.ref bB), (.ref hd)]))
  refine own_go (fun _ kk => XS.iloadN X2.here hx rfl (hb hby d15g3_8) rfl kk) ?_
  show own_Fin _ _ _ _ _ _ _ (T2.setTop (mkF m 9 #[.val (.ref t0), .val (.int p1), .val (.int p2)] [(.int p1), (.ref bB), (.ref hd)]))
  refine own_ldI X2 hx hZ e2 VB hj (by rw [own_Llen]; exact hi) (hb hby d15g3_9) ?_
  show own_Fin _ _ _ _ _ _ _ (T2.setTop (mkF m 10 #[.val (.ref t0), .val (.int p1), .val (.int p2)] [(.int (List.getD (own_L own_fB3 81 81) (p1).toNatClampNeg 0)), (.ref hd)]))
  rw [own_LgetK (f := own_fB3) hi (Nat.le_refl _)]
  show own_Fin _ _ _ _ _ _ _ (T2.setTop (mkF m 10 #[.val (.ref t0), .val (.int p1), .val (.int p2)] [(.int (own_fB3 (p1).toNatClampNeg)), (.ref hd)]))
  refine own_ldJ X2 hx hZ e2 VH (own_bd3 _ hi).2.2.1.1 (by rw [hl]; exact (own_bd3 _ hi).2.2.1.2) (hb hby d15g3_10) ?_
  show own_Fin _ _ _ _ _ _ _ (T2.setTop (mkF m 11 #[.val (.ref t0), .val (.int p1), .val (.int p2)] [(.long (List.getD hs ((own_fB3 (p1).toNatClampNeg)).toNatClampNeg 0))]))
  refine own_go (fun _ kk => XS.lconst X2.here hx rfl (hb hby d15g3_11) (XS.iloadN X2.here hx rfl (hb hby d15g3_12) rfl (XS.lshl X2.here hx rfl (hb hby d15g3_13) rfl (XS.land X2.here hx rfl (hb hby d15g3_14) rfl (XS.lconst X2.here hx rfl (hb hby d15g3_15) (XT.lcmp X2.here hx rfl (hb hby d15g3_16) rfl kk)))))) ?_
  show own_Fin _ _ _ _ _ _ _ (T2.setTop (mkF m 17 #[.val (.ref t0), .val (.int p1), .val (.int p2)] [(.int (XT.cmpL ((List.getD hs ((own_fB3 (p1).toNatClampNeg)).toNatClampNeg 0) &&& ((1 : Int64) <<< (p2 &&& 0x3f).toInt64)) (0 : Int64)))]))
  by_cases hc17 : ((List.getD hs ((own_fB3 (p1).toNatClampNeg)).toNatClampNeg 0) &&& ((1 : Int64) <<< (p2 &&& 0x3f).toInt64)) = (0 : Int64)
  · refine own_go (fun _ kk => XS.ifYes X2.here hx rfl (pc0 := 17) (pc' := 24) rfl (hb hby d15g3_17) rfl (XT.ll_eq_t hc17) (by decide) (by decide) (XS.iconst X2.here hx rfl (hb hby d15g3_24) kk)) ?_
    show own_Fin _ _ _ _ _ _ _ (T2.setTop (mkF m 25 #[.val (.ref t0), .val (.int p1), .val (.int p2)] [(.int (0 : Int32))]))
    exact own_retZ X2 hx hlk hret rfl (hb hby d15g3_25) (by decide) (by decide) ⟨(by rw [own_f15g3, if_pos hc17]), N0, e2⟩
  · refine own_go (fun _ kk => XS.ifNo X2.here hx rfl (hb hby d15g3_17) rfl (XT.ll_eq_f hc17) (XS.iconst X2.here hx rfl (hb hby d15g3_20) (XS.goto X2.here hx rfl (pc0 := 21) (pc' := 25) rfl (hb hby d15g3_21) (by decide) (by decide) kk))) ?_
    show own_Fin _ _ _ _ _ _ _ (T2.setTop (mkF m 25 #[.val (.ref t0), .val (.int p1), .val (.int p2)] [(.int (1 : Int32))]))
    exact own_retZ X2 hx hlk hret rfl (hb hby d15g3_25) (by decide) (by decide) ⟨(by rw [own_f15g3, if_neg hc17]), N0, e2⟩

theorem d10_0 : decode method_2_code 0 = .ok (.iload_n 0, 1) := by decide +kernel
theorem d10_1 : decode method_2_code 1 = .ok (.iload_n 2, 1) := by decide +kernel
theorem d10_2 : decode method_2_code 2 = .ok (.idiv, 1) := by decide +kernel
theorem d10_3 : decode method_2_code 3 = .ok (.iload_n 1, 1) := by decide +kernel
theorem d10_4 : decode method_2_code 4 = .ok (.iload_n 2, 1) := by decide +kernel
theorem d10_5 : decode method_2_code 5 = .ok (.idiv, 1) := by decide +kernel
theorem d10_6 : decode method_2_code 6 = .ok (.if_icmp .ne 7, 3) := by decide +kernel
theorem d10_9 : decode method_2_code 9 = .ok (.iconst 1, 1) := by decide +kernel
theorem d10_10 : decode method_2_code 10 = .ok (.goto 4, 3) := by decide +kernel
theorem d10_13 : decode method_2_code 13 = .ok (.iconst 0, 1) := by decide +kernel
theorem d10_14 : decode method_2_code 14 = .ok (.ireturn, 1) := by decide +kernel
theorem pn_10 : plainFor (⟨"com/example/onda/onda/sudoku/UnitsPlacePinLaw", "sameRow", "(III)Z"⟩ : MethodName) = true := plainFor_of_name (by show plainName "com/example/onda/onda/sudoku/UnitsPlacePinLaw" = true; first | (simp [plainName, overriddenIn]; done) | decide +kernel)
theorem ef_10 (m : MethodId) (x0 : Int32) (x1 : Int32) (x2 : Int32) : entryFrame m #[(.int x0), (.int x1), (.int x2)] 3 = mkF m 0 #[.val (.int x0), .val (.int x1), .val (.int x2)] [] := by first | (simp [entryFrame, mkF, argsToLocals, Value.category]; done) | rfl
def own_f10 (i0 : Int32) (i1 : Int32) (n : Int32) : Int32 :=
  if (i0 / n) = (i1 / n) then
    (1 : Int32)
  else
    (0 : Int32)
set_option maxRecDepth 65536 in
set_option maxHeartbeats 40000000 in
theorem rm10 (l : Launch) (Z : State) (a0 : Array Value) (hw : ∀ d ∈ tables_1, d.before a0 Z = true) (i0 : Int32) (i1 : Int32) (n : Int32) (h0 : Heap) (n0 : Nat) (Z0 : n0 ≤ h0.size) (hnz : n ≠ 0) :
    own_Met l (⟨"com/example/onda/onda/sudoku/UnitsPlacePinLaw", "sameRow", "(III)Z"⟩ : MethodName) method_2_code 3 (some .boolean) ({ frames := 0, cells := 0, slots := 0, locals := 0 } : Room) Z [] #[(.int i0), (.int i1), (.int n)] h0 (own_P (some (.int (own_f10 i0 i1 n))) h0 n0) := by
  refine own_enter pn_10 ?_
  intro p e s m below meth c s₁ hx hby hml hown hnm hret hlk hZ e0 X0
  rw [ef_10]
  have N0 := Fr.nil n0
  show own_Fin _ _ _ _ _ _ _ (s₁.setTop (mkF m 0 #[.val (.int i0), .val (.int i1), .val (.int n)] []))
  refine own_go (fun _ kk => XS.iloadN X0.here hx rfl (hb hby d10_0) rfl (XS.iloadN X0.here hx rfl (hb hby d10_1) rfl (XS.idiv X0.here hx rfl (hb hby d10_2) rfl hnz (XS.iloadN X0.here hx rfl (hb hby d10_3) rfl (XS.iloadN X0.here hx rfl (hb hby d10_4) rfl (XS.idiv X0.here hx rfl (hb hby d10_5) rfl hnz kk)))))) ?_
  show own_Fin _ _ _ _ _ _ _ (s₁.setTop (mkF m 6 #[.val (.int i0), .val (.int i1), .val (.int n)] [(.int (i1 / n)), (.int (i0 / n))]))
  by_cases hc6 : (i0 / n) = (i1 / n)
  · refine own_go (fun _ kk => XS.icmpNo X0.here hx rfl (hb hby d10_6) rfl (XT.ii_ne_f hc6) (XS.iconst X0.here hx rfl (hb hby d10_9) (XS.goto X0.here hx rfl (pc0 := 10) (pc' := 14) rfl (hb hby d10_10) (by decide) (by decide) kk))) ?_
    show own_Fin _ _ _ _ _ _ _ (s₁.setTop (mkF m 14 #[.val (.int i0), .val (.int i1), .val (.int n)] [(.int (1 : Int32))]))
    exact own_retZ X0 hx hlk hret rfl (hb hby d10_14) (by decide) (by decide) ⟨(by rw [own_f10, if_pos hc6]), N0, e0⟩
  · refine own_go (fun _ kk => XS.icmpYes X0.here hx rfl (pc0 := 6) (pc' := 13) rfl (hb hby d10_6) rfl (XT.ii_ne_t hc6) (by decide) (by decide) (XS.iconst X0.here hx rfl (hb hby d10_13) kk)) ?_
    show own_Fin _ _ _ _ _ _ _ (s₁.setTop (mkF m 14 #[.val (.int i0), .val (.int i1), .val (.int n)] [(.int (0 : Int32))]))
    exact own_retZ X0 hx hlk hret rfl (hb hby d10_14) (by decide) (by decide) ⟨(by rw [own_f10, if_neg hc6]), N0, e0⟩

theorem d11_0 : decode method_3_code 0 = .ok (.iload_n 0, 1) := by decide +kernel
theorem d11_1 : decode method_3_code 1 = .ok (.iload_n 2, 1) := by decide +kernel
theorem d11_2 : decode method_3_code 2 = .ok (.irem, 1) := by decide +kernel
theorem d11_3 : decode method_3_code 3 = .ok (.iload_n 1, 1) := by decide +kernel
theorem d11_4 : decode method_3_code 4 = .ok (.iload_n 2, 1) := by decide +kernel
theorem d11_5 : decode method_3_code 5 = .ok (.irem, 1) := by decide +kernel
theorem d11_6 : decode method_3_code 6 = .ok (.if_icmp .ne 7, 3) := by decide +kernel
theorem d11_9 : decode method_3_code 9 = .ok (.iconst 1, 1) := by decide +kernel
theorem d11_10 : decode method_3_code 10 = .ok (.goto 4, 3) := by decide +kernel
theorem d11_13 : decode method_3_code 13 = .ok (.iconst 0, 1) := by decide +kernel
theorem d11_14 : decode method_3_code 14 = .ok (.ireturn, 1) := by decide +kernel
theorem pn_11 : plainFor (⟨"com/example/onda/onda/sudoku/UnitsPlacePinLaw", "sameColumn", "(III)Z"⟩ : MethodName) = true := plainFor_of_name (by show plainName "com/example/onda/onda/sudoku/UnitsPlacePinLaw" = true; first | (simp [plainName, overriddenIn]; done) | decide +kernel)
theorem ef_11 (m : MethodId) (x0 : Int32) (x1 : Int32) (x2 : Int32) : entryFrame m #[(.int x0), (.int x1), (.int x2)] 3 = mkF m 0 #[.val (.int x0), .val (.int x1), .val (.int x2)] [] := by first | (simp [entryFrame, mkF, argsToLocals, Value.category]; done) | rfl
def own_f11 (i0 : Int32) (i1 : Int32) (n : Int32) : Int32 :=
  if (i0 % n) = (i1 % n) then
    (1 : Int32)
  else
    (0 : Int32)
set_option maxRecDepth 65536 in
set_option maxHeartbeats 40000000 in
theorem rm11 (l : Launch) (Z : State) (a0 : Array Value) (hw : ∀ d ∈ tables_1, d.before a0 Z = true) (i0 : Int32) (i1 : Int32) (n : Int32) (h0 : Heap) (n0 : Nat) (Z0 : n0 ≤ h0.size) (hnz : n ≠ 0) :
    own_Met l (⟨"com/example/onda/onda/sudoku/UnitsPlacePinLaw", "sameColumn", "(III)Z"⟩ : MethodName) method_3_code 3 (some .boolean) ({ frames := 0, cells := 0, slots := 0, locals := 0 } : Room) Z [] #[(.int i0), (.int i1), (.int n)] h0 (own_P (some (.int (own_f11 i0 i1 n))) h0 n0) := by
  refine own_enter pn_11 ?_
  intro p e s m below meth c s₁ hx hby hml hown hnm hret hlk hZ e0 X0
  rw [ef_11]
  have N0 := Fr.nil n0
  show own_Fin _ _ _ _ _ _ _ (s₁.setTop (mkF m 0 #[.val (.int i0), .val (.int i1), .val (.int n)] []))
  refine own_go (fun _ kk => XS.iloadN X0.here hx rfl (hb hby d11_0) rfl (XS.iloadN X0.here hx rfl (hb hby d11_1) rfl (iremM X0 hx rfl (hb hby d11_2) rfl hnz (XS.iloadN X0.here hx rfl (hb hby d11_3) rfl (XS.iloadN X0.here hx rfl (hb hby d11_4) rfl (iremM X0 hx rfl (hb hby d11_5) rfl hnz kk)))))) ?_
  show own_Fin _ _ _ _ _ _ _ (s₁.setTop (mkF m 6 #[.val (.int i0), .val (.int i1), .val (.int n)] [(.int (i1 % n)), (.int (i0 % n))]))
  by_cases hc6 : (i0 % n) = (i1 % n)
  · refine own_go (fun _ kk => XS.icmpNo X0.here hx rfl (hb hby d11_6) rfl (XT.ii_ne_f hc6) (XS.iconst X0.here hx rfl (hb hby d11_9) (XS.goto X0.here hx rfl (pc0 := 10) (pc' := 14) rfl (hb hby d11_10) (by decide) (by decide) kk))) ?_
    show own_Fin _ _ _ _ _ _ _ (s₁.setTop (mkF m 14 #[.val (.int i0), .val (.int i1), .val (.int n)] [(.int (1 : Int32))]))
    exact own_retZ X0 hx hlk hret rfl (hb hby d11_14) (by decide) (by decide) ⟨(by rw [own_f11, if_pos hc6]), N0, e0⟩
  · refine own_go (fun _ kk => XS.icmpYes X0.here hx rfl (pc0 := 6) (pc' := 13) rfl (hb hby d11_6) rfl (XT.ii_ne_t hc6) (by decide) (by decide) (XS.iconst X0.here hx rfl (hb hby d11_13) kk)) ?_
    show own_Fin _ _ _ _ _ _ _ (s₁.setTop (mkF m 14 #[.val (.int i0), .val (.int i1), .val (.int n)] [(.int (0 : Int32))]))
    exact own_retZ X0 hx hlk hret rfl (hb hby d11_14) (by decide) (by decide) ⟨(by rw [own_f11, if_neg hc6]), N0, e0⟩

theorem d12_0 : decode method_4_code 0 = .ok (.iload_n 0, 1) := by decide +kernel
theorem d12_1 : decode method_4_code 1 = .ok (.iload_n 2, 1) := by decide +kernel
theorem d12_2 : decode method_4_code 2 = .ok (.idiv, 1) := by decide +kernel
theorem d12_3 : decode method_4_code 3 = .ok (.iload_n 3, 1) := by decide +kernel
theorem d12_4 : decode method_4_code 4 = .ok (.idiv, 1) := by decide +kernel
theorem d12_5 : decode method_4_code 5 = .ok (.iload_n 1, 1) := by decide +kernel
theorem d12_6 : decode method_4_code 6 = .ok (.iload_n 2, 1) := by decide +kernel
theorem d12_7 : decode method_4_code 7 = .ok (.idiv, 1) := by decide +kernel
theorem d12_8 : decode method_4_code 8 = .ok (.iload_n 3, 1) := by decide +kernel
theorem d12_9 : decode method_4_code 9 = .ok (.idiv, 1) := by decide +kernel
theorem d12_10 : decode method_4_code 10 = .ok (.if_icmp .ne 20, 3) := by decide +kernel
theorem d12_13 : decode method_4_code 13 = .ok (.iload_n 0, 1) := by decide +kernel
theorem d12_14 : decode method_4_code 14 = .ok (.iload_n 2, 1) := by decide +kernel
theorem d12_15 : decode method_4_code 15 = .ok (.irem, 1) := by decide +kernel
theorem d12_16 : decode method_4_code 16 = .ok (.iload_n 3, 1) := by decide +kernel
theorem d12_17 : decode method_4_code 17 = .ok (.idiv, 1) := by decide +kernel
theorem d12_18 : decode method_4_code 18 = .ok (.iload_n 1, 1) := by decide +kernel
theorem d12_19 : decode method_4_code 19 = .ok (.iload_n 2, 1) := by decide +kernel
theorem d12_20 : decode method_4_code 20 = .ok (.irem, 1) := by decide +kernel
theorem d12_21 : decode method_4_code 21 = .ok (.iload_n 3, 1) := by decide +kernel
theorem d12_22 : decode method_4_code 22 = .ok (.idiv, 1) := by decide +kernel
theorem d12_23 : decode method_4_code 23 = .ok (.if_icmp .ne 7, 3) := by decide +kernel
theorem d12_26 : decode method_4_code 26 = .ok (.iconst 1, 1) := by decide +kernel
theorem d12_27 : decode method_4_code 27 = .ok (.goto 4, 3) := by decide +kernel
theorem d12_30 : decode method_4_code 30 = .ok (.iconst 0, 1) := by decide +kernel
theorem d12_31 : decode method_4_code 31 = .ok (.ireturn, 1) := by decide +kernel
theorem pn_12 : plainFor (⟨"com/example/onda/onda/sudoku/UnitsPlacePinLaw", "sameBox", "(IIII)Z"⟩ : MethodName) = true := plainFor_of_name (by show plainName "com/example/onda/onda/sudoku/UnitsPlacePinLaw" = true; first | (simp [plainName, overriddenIn]; done) | decide +kernel)
theorem ef_12 (m : MethodId) (x0 : Int32) (x1 : Int32) (x2 : Int32) (x3 : Int32) : entryFrame m #[(.int x0), (.int x1), (.int x2), (.int x3)] 4 = mkF m 0 #[.val (.int x0), .val (.int x1), .val (.int x2), .val (.int x3)] [] := by first | (simp [entryFrame, mkF, argsToLocals, Value.category]; done) | rfl
def own_f12 (i0 : Int32) (i1 : Int32) (n : Int32) (b : Int32) : Int32 :=
  if ((i0 / n) / b) = ((i1 / n) / b) then
    if ((i0 % n) / b) = ((i1 % n) / b) then
      (1 : Int32)
    else
      (0 : Int32)
  else
    (0 : Int32)
set_option maxRecDepth 65536 in
set_option maxHeartbeats 40000000 in
theorem rm12 (l : Launch) (Z : State) (a0 : Array Value) (hw : ∀ d ∈ tables_1, d.before a0 Z = true) (i0 : Int32) (i1 : Int32) (n : Int32) (b : Int32) (h0 : Heap) (n0 : Nat) (Z0 : n0 ≤ h0.size) (hnz : n ≠ 0) (hbz : b ≠ 0) :
    own_Met l (⟨"com/example/onda/onda/sudoku/UnitsPlacePinLaw", "sameBox", "(IIII)Z"⟩ : MethodName) method_4_code 4 (some .boolean) ({ frames := 0, cells := 0, slots := 0, locals := 0 } : Room) Z [] #[(.int i0), (.int i1), (.int n), (.int b)] h0 (own_P (some (.int (own_f12 i0 i1 n b))) h0 n0) := by
  refine own_enter pn_12 ?_
  intro p e s m below meth c s₁ hx hby hml hown hnm hret hlk hZ e0 X0
  rw [ef_12]
  have N0 := Fr.nil n0
  show own_Fin _ _ _ _ _ _ _ (s₁.setTop (mkF m 0 #[.val (.int i0), .val (.int i1), .val (.int n), .val (.int b)] []))
  refine own_go (fun _ kk => XS.iloadN X0.here hx rfl (hb hby d12_0) rfl (XS.iloadN X0.here hx rfl (hb hby d12_1) rfl (XS.idiv X0.here hx rfl (hb hby d12_2) rfl hnz (XS.iloadN X0.here hx rfl (hb hby d12_3) rfl (XS.idiv X0.here hx rfl (hb hby d12_4) rfl hbz (XS.iloadN X0.here hx rfl (hb hby d12_5) rfl (XS.iloadN X0.here hx rfl (hb hby d12_6) rfl (XS.idiv X0.here hx rfl (hb hby d12_7) rfl hnz (XS.iloadN X0.here hx rfl (hb hby d12_8) rfl (XS.idiv X0.here hx rfl (hb hby d12_9) rfl hbz kk)))))))))) ?_
  show own_Fin _ _ _ _ _ _ _ (s₁.setTop (mkF m 10 #[.val (.int i0), .val (.int i1), .val (.int n), .val (.int b)] [(.int ((i1 / n) / b)), (.int ((i0 / n) / b))]))
  by_cases hc10 : ((i0 / n) / b) = ((i1 / n) / b)
  · refine own_go (fun _ kk => XS.icmpNo X0.here hx rfl (hb hby d12_10) rfl (XT.ii_ne_f hc10) (XS.iloadN X0.here hx rfl (hb hby d12_13) rfl (XS.iloadN X0.here hx rfl (hb hby d12_14) rfl (iremM X0 hx rfl (hb hby d12_15) rfl hnz (XS.iloadN X0.here hx rfl (hb hby d12_16) rfl (XS.idiv X0.here hx rfl (hb hby d12_17) rfl hbz (XS.iloadN X0.here hx rfl (hb hby d12_18) rfl (XS.iloadN X0.here hx rfl (hb hby d12_19) rfl (iremM X0 hx rfl (hb hby d12_20) rfl hnz (XS.iloadN X0.here hx rfl (hb hby d12_21) rfl kk)))))))))) ?_
    show own_Fin _ _ _ _ _ _ _ (s₁.setTop (mkF m 22 #[.val (.int i0), .val (.int i1), .val (.int n), .val (.int b)] [(.int b), (.int (i1 % n)), (.int ((i0 % n) / b))]))
    refine own_go (fun _ kk => XS.idiv X0.here hx rfl (hb hby d12_22) rfl hbz kk) ?_
    show own_Fin _ _ _ _ _ _ _ (s₁.setTop (mkF m 23 #[.val (.int i0), .val (.int i1), .val (.int n), .val (.int b)] [(.int ((i1 % n) / b)), (.int ((i0 % n) / b))]))
    by_cases hc23 : ((i0 % n) / b) = ((i1 % n) / b)
    · refine own_go (fun _ kk => XS.icmpNo X0.here hx rfl (hb hby d12_23) rfl (XT.ii_ne_f hc23) (XS.iconst X0.here hx rfl (hb hby d12_26) (XS.goto X0.here hx rfl (pc0 := 27) (pc' := 31) rfl (hb hby d12_27) (by decide) (by decide) kk))) ?_
      show own_Fin _ _ _ _ _ _ _ (s₁.setTop (mkF m 31 #[.val (.int i0), .val (.int i1), .val (.int n), .val (.int b)] [(.int (1 : Int32))]))
      exact own_retZ X0 hx hlk hret rfl (hb hby d12_31) (by decide) (by decide) ⟨(by rw [own_f12, if_pos hc10, if_pos hc23]), N0, e0⟩
    · refine own_go (fun _ kk => XS.icmpYes X0.here hx rfl (pc0 := 23) (pc' := 30) rfl (hb hby d12_23) rfl (XT.ii_ne_t hc23) (by decide) (by decide) (XS.iconst X0.here hx rfl (hb hby d12_30) kk)) ?_
      show own_Fin _ _ _ _ _ _ _ (s₁.setTop (mkF m 31 #[.val (.int i0), .val (.int i1), .val (.int n), .val (.int b)] [(.int (0 : Int32))]))
      exact own_retZ X0 hx hlk hret rfl (hb hby d12_31) (by decide) (by decide) ⟨(by rw [own_f12, if_pos hc10, if_neg hc23]), N0, e0⟩
  · refine own_go (fun _ kk => XS.icmpYes X0.here hx rfl (pc0 := 10) (pc' := 30) rfl (hb hby d12_10) rfl (XT.ii_ne_t hc10) (by decide) (by decide) (XS.iconst X0.here hx rfl (hb hby d12_30) kk)) ?_
    show own_Fin _ _ _ _ _ _ _ (s₁.setTop (mkF m 31 #[.val (.int i0), .val (.int i1), .val (.int n), .val (.int b)] [(.int (0 : Int32))]))
    exact own_retZ X0 hx hlk hret rfl (hb hby d12_31) (by decide) (by decide) ⟨(by rw [own_f12, if_neg hc10]), N0, e0⟩

theorem own_m31 (a : Int32) : (a &&& (2147483647 : Int32)).toInt = a.toInt % 2147483648 := Jvm.Kit.i32_mask a 2147483647 (k := 31) (by decide) (by decide)
theorem own_md (a k : Int32) (n : Int) (hk : k.toInt = n) (h0 : 0 < n) : ((a &&& (2147483647 : Int32)) % k).toInt = (a.toInt % 2147483648) % n := by
  rw [Jvm.Kit.i32_rem_nonneg (by rw [own_m31]; omega), own_m31, hk]
theorem own_cl (a k : Int32) (n : Nat) (hk : k.toInt = n) (h0 : 0 < n) : ¬ ((a &&& (2147483647 : Int32)) % k) < 0 ∧ ((a &&& (2147483647 : Int32)) % k).toNatClampNeg < n := by
  have e := own_md a k n hk (by omega)
  have h1 := Int.emod_nonneg (a.toInt % 2147483648) (show (n : Int) ≠ 0 by omega)
  have h2 := Int.emod_lt_of_pos (a.toInt % 2147483648) (show (0 : Int) < n by omega)
  have e0 : (0 : Int32).toInt = 0 := by decide
  constructor
  · rw [Int32.lt_iff_toInt_lt, e, e0]; omega
  · simp only [Int32.toNatClampNeg, e]; omega
def own_Q0 (w : Option Value) (n0 : Nat) (v : Option Value) (h : Heap) (L : List Loc) : Prop := v = w ∧ Fr n0 L

theorem pd_0_0 : parseMethodDescriptor "(I)V" = some ⟨[.int], none⟩ := by decide +kernel
theorem pd_0_1 : parseMethodDescriptor "(Lcom/example/onda/onda/sudoku/Geometry;)V" = some ⟨[(.object "com/example/onda/onda/sudoku/Geometry")], none⟩ := by decide +kernel
theorem pd_0_2 : parseMethodDescriptor "(II)V" = some ⟨[.int, .int], none⟩ := by decide +kernel
theorem pd_0_3 : parseMethodDescriptor "(III)Z" = some ⟨[.int, .int, .int], some .boolean⟩ := by decide +kernel
theorem pd_0_4 : parseMethodDescriptor "(IIII)Z" = some ⟨[.int, .int, .int, .int], some .boolean⟩ := by decide +kernel
theorem pd_0_5 : parseMethodDescriptor "(II)Z" = some ⟨[.int, .int], some .boolean⟩ := by decide +kernel
theorem pn_0 : plainFor x = true := plainFor_of_name (by show plainName "com/example/onda/onda/sudoku/UnitsPlacePinLaw" = true; first | (simp [plainName, overriddenIn]; done) | decide +kernel)
theorem ef_0 (m : MethodId) (x0 : Int32) (x1 : Int32) (x2 : Int32) (x3 : Int32) (x4 : Int32) (x5 : Int32) : entryFrame m #[(.int x0), (.int x1), (.int x2), (.int x3), (.int x4), (.int x5)] maxLocals = mkF m 0 #[.val (.int x0), .val (.int x1), .val (.int x2), .val (.int x3), .val (.int x4), .val (.int x5), .unset, .unset, .unset, .unset, .unset, .unset, .unset, .unset, .unset, .unset, .unset, .unset, .unset] [] := by first | (simp [entryFrame, mkF, argsToLocals, Value.category, maxLocals]; done) | rfl
def own_f0_253 (p0 : Int32) (p1 : Int32) (p2 : Int32) (p3 : Int32) (p4 : Int32) (p5 : Int32) (mm : Int32) (c1 : Int32) (n1 : Int32) (c2 : Int32) (n2 : Int32) (pr : Int32) (ro : Int32) (co : Int32) (bo : Int32) : Int32 :=
  if (own_f13g2 (own_pl2 (own_pl2 (List.replicate 12 (0 : Int64)) c1 ((1 : Int64) <<< (n1 &&& 0x3f).toInt64)) c2 ((1 : Int64) <<< (n2 &&& 0x3f).toInt64)) pr mm) = ro then
    if (own_f14g2 (own_pl2 (own_pl2 (List.replicate 12 (0 : Int64)) c1 ((1 : Int64) <<< (n1 &&& 0x3f).toInt64)) c2 ((1 : Int64) <<< (n2 &&& 0x3f).toInt64)) pr mm) = co then
      if (own_f15g2 (own_pl2 (own_pl2 (List.replicate 12 (0 : Int64)) c1 ((1 : Int64) <<< (n1 &&& 0x3f).toInt64)) c2 ((1 : Int64) <<< (n2 &&& 0x3f).toInt64)) pr mm) = bo then
        (1 : Int32)
      else
        (0 : Int32)
    else
      (0 : Int32)
  else
    (0 : Int32)
def own_f0_204 (p0 : Int32) (p1 : Int32) (p2 : Int32) (p3 : Int32) (p4 : Int32) (p5 : Int32) (mm : Int32) (c1 : Int32) (n1 : Int32) (c2 : Int32) (n2 : Int32) (pr : Int32) (ro : Int32) (co : Int32) : Int32 :=
  if (own_f12 pr c1 (4 : Int32) (2 : Int32)) = 0 then
    if (own_f12 pr c2 (4 : Int32) (2 : Int32)) = 0 then
      own_f0_253 p0 p1 p2 p3 p4 p5 mm c1 n1 c2 n2 pr ro co ((0 : Int32))
    else
      if mm = n2 then
        own_f0_253 p0 p1 p2 p3 p4 p5 mm c1 n1 c2 n2 pr ro co ((1 : Int32))
      else
        own_f0_253 p0 p1 p2 p3 p4 p5 mm c1 n1 c2 n2 pr ro co ((0 : Int32))
  else
    if mm = n1 then
      own_f0_253 p0 p1 p2 p3 p4 p5 mm c1 n1 c2 n2 pr ro co ((1 : Int32))
    else
      if (own_f12 pr c2 (4 : Int32) (2 : Int32)) = 0 then
        own_f0_253 p0 p1 p2 p3 p4 p5 mm c1 n1 c2 n2 pr ro co ((0 : Int32))
      else
        if mm = n2 then
          own_f0_253 p0 p1 p2 p3 p4 p5 mm c1 n1 c2 n2 pr ro co ((1 : Int32))
        else
          own_f0_253 p0 p1 p2 p3 p4 p5 mm c1 n1 c2 n2 pr ro co ((0 : Int32))
def own_f0_159 (p0 : Int32) (p1 : Int32) (p2 : Int32) (p3 : Int32) (p4 : Int32) (p5 : Int32) (mm : Int32) (c1 : Int32) (n1 : Int32) (c2 : Int32) (n2 : Int32) (pr : Int32) (ro : Int32) : Int32 :=
  if (own_f11 pr c1 (4 : Int32)) = 0 then
    if (own_f11 pr c2 (4 : Int32)) = 0 then
      own_f0_204 p0 p1 p2 p3 p4 p5 mm c1 n1 c2 n2 pr ro ((0 : Int32))
    else
      if mm = n2 then
        own_f0_204 p0 p1 p2 p3 p4 p5 mm c1 n1 c2 n2 pr ro ((1 : Int32))
      else
        own_f0_204 p0 p1 p2 p3 p4 p5 mm c1 n1 c2 n2 pr ro ((0 : Int32))
  else
    if mm = n1 then
      own_f0_204 p0 p1 p2 p3 p4 p5 mm c1 n1 c2 n2 pr ro ((1 : Int32))
    else
      if (own_f11 pr c2 (4 : Int32)) = 0 then
        own_f0_204 p0 p1 p2 p3 p4 p5 mm c1 n1 c2 n2 pr ro ((0 : Int32))
      else
        if mm = n2 then
          own_f0_204 p0 p1 p2 p3 p4 p5 mm c1 n1 c2 n2 pr ro ((1 : Int32))
        else
          own_f0_204 p0 p1 p2 p3 p4 p5 mm c1 n1 c2 n2 pr ro ((0 : Int32))
def own_f0_80 (p0 : Int32) (p1 : Int32) (p2 : Int32) (p3 : Int32) (p4 : Int32) (p5 : Int32) (mm : Int32) (c1 : Int32) (n1 : Int32) (c2 : Int32) (n2 : Int32) (pr : Int32) : Int32 :=
  if (own_f10 pr c1 (4 : Int32)) = 0 then
    if (own_f10 pr c2 (4 : Int32)) = 0 then
      own_f0_159 p0 p1 p2 p3 p4 p5 mm c1 n1 c2 n2 pr ((0 : Int32))
    else
      if mm = n2 then
        own_f0_159 p0 p1 p2 p3 p4 p5 mm c1 n1 c2 n2 pr ((1 : Int32))
      else
        own_f0_159 p0 p1 p2 p3 p4 p5 mm c1 n1 c2 n2 pr ((0 : Int32))
  else
    if mm = n1 then
      own_f0_159 p0 p1 p2 p3 p4 p5 mm c1 n1 c2 n2 pr ((1 : Int32))
    else
      if (own_f10 pr c2 (4 : Int32)) = 0 then
        own_f0_159 p0 p1 p2 p3 p4 p5 mm c1 n1 c2 n2 pr ((0 : Int32))
      else
        if mm = n2 then
          own_f0_159 p0 p1 p2 p3 p4 p5 mm c1 n1 c2 n2 pr ((1 : Int32))
        else
          own_f0_159 p0 p1 p2 p3 p4 p5 mm c1 n1 c2 n2 pr ((0 : Int32))
def own_f0_253_1 (p0 : Int32) (p1 : Int32) (p2 : Int32) (p3 : Int32) (p4 : Int32) (p5 : Int32) (mm : Int32) (c1 : Int32) (n1 : Int32) (c2 : Int32) (n2 : Int32) (pr : Int32) (ro : Int32) (co : Int32) (bo : Int32) : Int32 :=
  if (own_f13g3 (own_pl3 (own_pl3 (List.replicate 27 (0 : Int64)) c1 ((1 : Int64) <<< (n1 &&& 0x3f).toInt64)) c2 ((1 : Int64) <<< (n2 &&& 0x3f).toInt64)) pr mm) = ro then
    if (own_f14g3 (own_pl3 (own_pl3 (List.replicate 27 (0 : Int64)) c1 ((1 : Int64) <<< (n1 &&& 0x3f).toInt64)) c2 ((1 : Int64) <<< (n2 &&& 0x3f).toInt64)) pr mm) = co then
      if (own_f15g3 (own_pl3 (own_pl3 (List.replicate 27 (0 : Int64)) c1 ((1 : Int64) <<< (n1 &&& 0x3f).toInt64)) c2 ((1 : Int64) <<< (n2 &&& 0x3f).toInt64)) pr mm) = bo then
        (1 : Int32)
      else
        (0 : Int32)
    else
      (0 : Int32)
  else
    (0 : Int32)
def own_f0_204_1 (p0 : Int32) (p1 : Int32) (p2 : Int32) (p3 : Int32) (p4 : Int32) (p5 : Int32) (mm : Int32) (c1 : Int32) (n1 : Int32) (c2 : Int32) (n2 : Int32) (pr : Int32) (ro : Int32) (co : Int32) : Int32 :=
  if (own_f12 pr c1 (9 : Int32) (3 : Int32)) = 0 then
    if (own_f12 pr c2 (9 : Int32) (3 : Int32)) = 0 then
      own_f0_253_1 p0 p1 p2 p3 p4 p5 mm c1 n1 c2 n2 pr ro co ((0 : Int32))
    else
      if mm = n2 then
        own_f0_253_1 p0 p1 p2 p3 p4 p5 mm c1 n1 c2 n2 pr ro co ((1 : Int32))
      else
        own_f0_253_1 p0 p1 p2 p3 p4 p5 mm c1 n1 c2 n2 pr ro co ((0 : Int32))
  else
    if mm = n1 then
      own_f0_253_1 p0 p1 p2 p3 p4 p5 mm c1 n1 c2 n2 pr ro co ((1 : Int32))
    else
      if (own_f12 pr c2 (9 : Int32) (3 : Int32)) = 0 then
        own_f0_253_1 p0 p1 p2 p3 p4 p5 mm c1 n1 c2 n2 pr ro co ((0 : Int32))
      else
        if mm = n2 then
          own_f0_253_1 p0 p1 p2 p3 p4 p5 mm c1 n1 c2 n2 pr ro co ((1 : Int32))
        else
          own_f0_253_1 p0 p1 p2 p3 p4 p5 mm c1 n1 c2 n2 pr ro co ((0 : Int32))
def own_f0_159_1 (p0 : Int32) (p1 : Int32) (p2 : Int32) (p3 : Int32) (p4 : Int32) (p5 : Int32) (mm : Int32) (c1 : Int32) (n1 : Int32) (c2 : Int32) (n2 : Int32) (pr : Int32) (ro : Int32) : Int32 :=
  if (own_f11 pr c1 (9 : Int32)) = 0 then
    if (own_f11 pr c2 (9 : Int32)) = 0 then
      own_f0_204_1 p0 p1 p2 p3 p4 p5 mm c1 n1 c2 n2 pr ro ((0 : Int32))
    else
      if mm = n2 then
        own_f0_204_1 p0 p1 p2 p3 p4 p5 mm c1 n1 c2 n2 pr ro ((1 : Int32))
      else
        own_f0_204_1 p0 p1 p2 p3 p4 p5 mm c1 n1 c2 n2 pr ro ((0 : Int32))
  else
    if mm = n1 then
      own_f0_204_1 p0 p1 p2 p3 p4 p5 mm c1 n1 c2 n2 pr ro ((1 : Int32))
    else
      if (own_f11 pr c2 (9 : Int32)) = 0 then
        own_f0_204_1 p0 p1 p2 p3 p4 p5 mm c1 n1 c2 n2 pr ro ((0 : Int32))
      else
        if mm = n2 then
          own_f0_204_1 p0 p1 p2 p3 p4 p5 mm c1 n1 c2 n2 pr ro ((1 : Int32))
        else
          own_f0_204_1 p0 p1 p2 p3 p4 p5 mm c1 n1 c2 n2 pr ro ((0 : Int32))
def own_f0_80_1 (p0 : Int32) (p1 : Int32) (p2 : Int32) (p3 : Int32) (p4 : Int32) (p5 : Int32) (mm : Int32) (c1 : Int32) (n1 : Int32) (c2 : Int32) (n2 : Int32) (pr : Int32) : Int32 :=
  if (own_f10 pr c1 (9 : Int32)) = 0 then
    if (own_f10 pr c2 (9 : Int32)) = 0 then
      own_f0_159_1 p0 p1 p2 p3 p4 p5 mm c1 n1 c2 n2 pr ((0 : Int32))
    else
      if mm = n2 then
        own_f0_159_1 p0 p1 p2 p3 p4 p5 mm c1 n1 c2 n2 pr ((1 : Int32))
      else
        own_f0_159_1 p0 p1 p2 p3 p4 p5 mm c1 n1 c2 n2 pr ((0 : Int32))
  else
    if mm = n1 then
      own_f0_159_1 p0 p1 p2 p3 p4 p5 mm c1 n1 c2 n2 pr ((1 : Int32))
    else
      if (own_f10 pr c2 (9 : Int32)) = 0 then
        own_f0_159_1 p0 p1 p2 p3 p4 p5 mm c1 n1 c2 n2 pr ((0 : Int32))
      else
        if mm = n2 then
          own_f0_159_1 p0 p1 p2 p3 p4 p5 mm c1 n1 c2 n2 pr ((1 : Int32))
        else
          own_f0_159_1 p0 p1 p2 p3 p4 p5 mm c1 n1 c2 n2 pr ((0 : Int32))
def own_f0 (p0 : Int32) (p1 : Int32) (p2 : Int32) (p3 : Int32) (p4 : Int32) (p5 : Int32) : Int32 :=
  if (p0 &&& (1 : Int32)) = 0 then
    own_f0_80 p0 p1 p2 p3 p4 p5 ((((p0.toUInt32 >>> ((1 : Int32) &&& 31).toUInt32).toInt32) &&& (63 : Int32))) (((p1 &&& (2147483647 : Int32)) % (16 : Int32))) (((1 : Int32) + ((p2 &&& (2147483647 : Int32)) % (4 : Int32)))) (((p3 &&& (2147483647 : Int32)) % (16 : Int32))) (((1 : Int32) + ((p4 &&& (2147483647 : Int32)) % (4 : Int32)))) (((p5 &&& (2147483647 : Int32)) % (16 : Int32)))
  else
    own_f0_80_1 p0 p1 p2 p3 p4 p5 ((((p0.toUInt32 >>> ((1 : Int32) &&& 31).toUInt32).toInt32) &&& (63 : Int32))) (((p1 &&& (2147483647 : Int32)) % (81 : Int32))) (((1 : Int32) + ((p2 &&& (2147483647 : Int32)) % (9 : Int32)))) (((p3 &&& (2147483647 : Int32)) % (81 : Int32))) (((1 : Int32) + ((p4 &&& (2147483647 : Int32)) % (9 : Int32)))) (((p5 &&& (2147483647 : Int32)) % (81 : Int32)))
set_option maxRecDepth 65536 in
set_option maxHeartbeats 40000000 in
theorem rm0 (l : Launch) (Z : State) (a0 : Array Value) (hw : ∀ d ∈ tables_1, d.before a0 Z = true) (p0 : Int32) (p1 : Int32) (p2 : Int32) (p3 : Int32) (p4 : Int32) (p5 : Int32) (h0 : Heap) (n0 : Nat) (Z0 : n0 ≤ h0.size) :
    own_Met l x code maxLocals ret room_1 Z tables_1 #[(.int p0), (.int p1), (.int p2), (.int p3), (.int p4), (.int p5)] h0 (own_Q0 (some (.int (own_f0 p0 p1 p2 p3 p4 p5))) n0) := by
  refine own_enter pn_0 ?_
  intro p e s m below meth c s₁ hx hby hml hown hnm hret hlk hZ e0 X0
  rw [ef_0]
  have N0 := Fr.nil n0
  have hml : c.maxLocals = 19 := hml
  show own_Fin _ _ _ _ _ _ _ (s₁.setTop (mkF m 0 #[.val (.int p0), .val (.int p1), .val (.int p2), .val (.int p3), .val (.int p4), .val (.int p5), .unset, .unset, .unset, .unset, .unset, .unset, .unset, .unset, .unset, .unset, .unset, .unset, .unset] []))
  refine own_go (fun _ kk => XS.iconst X0.here hx rfl (hb hby at_0) (XS.iloadN X0.here hx rfl (hb hby at_1) rfl (XS.iconst X0.here hx rfl (hb hby at_2) (XS.iand X0.here hx rfl (hb hby at_3) rfl (XS.iadd X0.here hx rfl (hb hby at_4) rfl kk))))) ?_
  show own_Fin _ _ _ _ _ _ _ (s₁.setTop (mkF m 5 #[.val (.int p0), .val (.int p1), .val (.int p2), .val (.int p3), .val (.int p4), .val (.int p5), .unset, .unset, .unset, .unset, .unset, .unset, .unset, .unset, .unset, .unset, .unset, .unset, .unset] [(.int ((2 : Int32) + (p0 &&& (1 : Int32))))]))
  by_cases hbs : (p0 &&& (1 : Int32)) = 0
  · rw [hbs]
    show own_Fin _ _ _ _ _ _ _ (s₁.setTop (mkF m 5 #[.val (.int p0), .val (.int p1), .val (.int p2), .val (.int p3), .val (.int p4), .val (.int p5), .unset, .unset, .unset, .unset, .unset, .unset, .unset, .unset, .unset, .unset, .unset, .unset, .unset] [(.int (2 : Int32))]))
    refine own_go (fun _ kk => XS.istore X0.here hx rfl (hb hby at_5) rfl (l' := #[.val (.int p0), .val (.int p1), .val (.int p2), .val (.int p3), .val (.int p4), .val (.int p5), .val (.int (2 : Int32)), .unset, .unset, .unset, .unset, .unset, .unset, .unset, .unset, .unset, .unset, .unset, .unset]) rfl (XS.iload X0.here hx rfl (hb hby at_7) rfl (XS.iload X0.here hx rfl (hb hby at_9) rfl (XS.imul X0.here hx rfl (hb hby at_11) rfl (XS.istore X0.here hx rfl (hb hby at_12) rfl (l' := #[.val (.int p0), .val (.int p1), .val (.int p2), .val (.int p3), .val (.int p4), .val (.int p5), .val (.int (2 : Int32)), .val (.int (4 : Int32)), .unset, .unset, .unset, .unset, .unset, .unset, .unset, .unset, .unset, .unset, .unset]) rfl (XS.iload X0.here hx rfl (hb hby at_14) rfl (XS.iload X0.here hx rfl (hb hby at_16) rfl (XS.imul X0.here hx rfl (hb hby at_18) rfl (XS.istore X0.here hx rfl (hb hby at_19) rfl (l' := #[.val (.int p0), .val (.int p1), .val (.int p2), .val (.int p3), .val (.int p4), .val (.int p5), .val (.int (2 : Int32)), .val (.int (4 : Int32)), .val (.int (16 : Int32)), .unset, .unset, .unset, .unset, .unset, .unset, .unset, .unset, .unset, .unset]) rfl kk))))))))) ?_
    show own_Fin _ _ _ _ _ _ _ (s₁.setTop (mkF m 21 #[.val (.int p0), .val (.int p1), .val (.int p2), .val (.int p3), .val (.int p4), .val (.int p5), .val (.int (2 : Int32)), .val (.int (4 : Int32)), .val (.int (16 : Int32)), .unset, .unset, .unset, .unset, .unset, .unset, .unset, .unset, .unset, .unset] []))
    have J80 : ∀ (TJ80 : State) (locsJ80 : List Loc) (mm : Int32) (c1 : Int32) (n1 : Int32) (c2 : Int32) (n2 : Int32) (pr : Int32), Stand p l e room_1 s m #[(.int p0), (.int p1), (.int p2), (.int p3), (.int p4), (.int p5)] below meth c TJ80 locsJ80 0 0 → Fr n0 locsJ80 → TJ80.heap = h0 → (own_f0 p0 p1 p2 p3 p4 p5) = own_f0_80 p0 p1 p2 p3 p4 p5 mm c1 n1 c2 n2 pr → (¬ c1 < 0 ∧ c1.toNatClampNeg < 16) → (¬ c2 < 0 ∧ c2.toNatClampNeg < 16) → (¬ pr < 0 ∧ pr.toNatClampNeg < 16) → own_Fin p e below s (own_Q0 (some (.int (own_f0 p0 p1 p2 p3 p4 p5))) n0) room_1.cells room_1.slots (TJ80.setTop (mkF m 80 #[.val (.int p0), .val (.int p1), .val (.int p2), .val (.int p3), .val (.int p4), .val (.int p5), .val (.int (2 : Int32)), .val (.int (4 : Int32)), .val (.int (16 : Int32)), .val (.int mm), .val (.int c1), .val (.int n1), .val (.int c2), .val (.int n2), .val (.int pr), .unset, .unset, .unset, .unset] [])) := by
      intro TJ80 locsJ80 mm c1 n1 c2 n2 pr XJ80 NJ80 eJ80 hjJ80 h_c1 h_c2 h_pr
      refine own_new XJ80 hx hZ hown (hw _ (List.mem_of_getElem? (i := 1) rfl)) (hw _ (List.mem_of_getElem? (i := 2) rfl)) (hw _ (List.mem_of_getElem? (i := 3) rfl)) eJ80 (hb hby at_80) (by decide) (by decide) ?_
      intro T1 h1 b1 g1 X1 e1 E1 A1 D1
      have g_b1 : n0 ≤ b1 := Nat.le_trans Z0 (Nat.le_of_eq g1.symm)
      have Z1 := Nat.le_trans Z0 E1.1
      have F1_rowOf : Fld Z h1 b1 "com/example/onda/onda/sudoku/Units" "rowOf" "[I" .null := D1 (Or.inr (hw _ (List.mem_of_getElem? (i := 42) rfl))) (ty := (.array .int)) (by decide)
      have F1_columnOf : Fld Z h1 b1 "com/example/onda/onda/sudoku/Units" "columnOf" "[I" .null := D1 (Or.inr (hw _ (List.mem_of_getElem? (i := 49) rfl))) (ty := (.array .int)) (by decide)
      have F1_boxOf : Fld Z h1 b1 "com/example/onda/onda/sudoku/Units" "boxOf" "[I" .null := D1 (Or.inr (hw _ (List.mem_of_getElem? (i := 56) rfl))) (ty := (.array .int)) (by decide)
      have F1_numbers : Fld Z h1 b1 "com/example/onda/onda/sudoku/Units" "numbers" "J" (.long (0 : Int64)) := D1 (Or.inr (hw _ (List.mem_of_getElem? (i := 64) rfl))) (ty := .long) (by decide)
      have F1_held : Fld Z h1 b1 "com/example/onda/onda/sudoku/Units" "held" "[J" .null := D1 (Or.inr (hw _ (List.mem_of_getElem? (i := 72) rfl))) (ty := (.array .long)) (by decide)
      show own_Fin _ _ _ _ _ _ _ (T1.setTop (mkF m 83 #[.val (.int p0), .val (.int p1), .val (.int p2), .val (.int p3), .val (.int p4), .val (.int p5), .val (.int (2 : Int32)), .val (.int (4 : Int32)), .val (.int (16 : Int32)), .val (.int mm), .val (.int c1), .val (.int n1), .val (.int c2), .val (.int n2), .val (.int pr), .unset, .unset, .unset, .unset] [(.ref b1)]))
      refine own_go (fun _ kk => XS.dup X1.here hx rfl (hb hby at_83) rfl rfl kk) ?_
      show own_Fin _ _ _ _ _ _ _ (T1.setTop (mkF m 84 #[.val (.int p0), .val (.int p1), .val (.int p2), .val (.int p3), .val (.int p4), .val (.int p5), .val (.int (2 : Int32)), .val (.int (4 : Int32)), .val (.int (16 : Int32)), .val (.int mm), .val (.int c1), .val (.int n1), .val (.int c2), .val (.int n2), .val (.int pr), .unset, .unset, .unset, .unset] [(.ref b1), (.ref b1)]))
      refine own_new X1 hx hZ hown (hw _ (List.mem_of_getElem? (i := 4) rfl)) (hw _ (List.mem_of_getElem? (i := 5) rfl)) (hw _ (List.mem_of_getElem? (i := 6) rfl)) e1 (hb hby at_84) (by decide) (by decide) ?_
      intro T2 h2 b2 g2 X2 e2 E2 A2 D2
      have g_b2 : n0 ≤ b2 := Nat.le_trans Z1 (Nat.le_of_eq g2.symm)
      have ne_b1_b2 : b1 ≠ b2 := Nat.ne_of_lt (Nat.lt_of_lt_of_le A1.lt (Nat.le_of_eq g2.symm))
      have f3 := A1.ext E2
      have f4 := F1_rowOf.ext E2
      have f5 := F1_columnOf.ext E2
      have f6 := F1_boxOf.ext E2
      have f7 := F1_numbers.ext E2
      have f8 := F1_held.ext E2
      have Z2 := Nat.le_trans Z1 E2.1
      have F2_size : Fld Z h2 b2 "com/example/onda/onda/sudoku/Geometry" "size" "I" (.int (0 : Int32)) := D2 (Or.inr (hw _ (List.mem_of_getElem? (i := 14) rfl))) (ty := .int) (by decide)
      have F2_rowOf : Fld Z h2 b2 "com/example/onda/onda/sudoku/Geometry" "rowOf" "[I" .null := D2 (Or.inr (hw _ (List.mem_of_getElem? (i := 17) rfl))) (ty := (.array .int)) (by decide)
      have F2_columnOf : Fld Z h2 b2 "com/example/onda/onda/sudoku/Geometry" "columnOf" "[I" .null := D2 (Or.inr (hw _ (List.mem_of_getElem? (i := 19) rfl))) (ty := (.array .int)) (by decide)
      have F2_boxOf : Fld Z h2 b2 "com/example/onda/onda/sudoku/Geometry" "boxOf" "[I" .null := D2 (Or.inr (hw _ (List.mem_of_getElem? (i := 21) rfl))) (ty := (.array .int)) (by decide)
      have F2_cellsOf : Fld Z h2 b2 "com/example/onda/onda/sudoku/Geometry" "cellsOf" "[[I" .null := D2 (Or.inr (hw _ (List.mem_of_getElem? (i := 25) rfl))) (ty := (.array (.array .int))) (by decide)
      have F2_indexInRow : Fld Z h2 b2 "com/example/onda/onda/sudoku/Geometry" "indexInRow" "[I" .null := D2 (Or.inr (hw _ (List.mem_of_getElem? (i := 27) rfl))) (ty := (.array .int)) (by decide)
      have F2_indexInColumn : Fld Z h2 b2 "com/example/onda/onda/sudoku/Geometry" "indexInColumn" "[I" .null := D2 (Or.inr (hw _ (List.mem_of_getElem? (i := 29) rfl))) (ty := (.array .int)) (by decide)
      have F2_indexInBox : Fld Z h2 b2 "com/example/onda/onda/sudoku/Geometry" "indexInBox" "[I" .null := D2 (Or.inr (hw _ (List.mem_of_getElem? (i := 31) rfl))) (ty := (.array .int)) (by decide)
      show own_Fin _ _ _ _ _ _ _ (T2.setTop (mkF m 87 #[.val (.int p0), .val (.int p1), .val (.int p2), .val (.int p3), .val (.int p4), .val (.int p5), .val (.int (2 : Int32)), .val (.int (4 : Int32)), .val (.int (16 : Int32)), .val (.int mm), .val (.int c1), .val (.int n1), .val (.int c2), .val (.int n2), .val (.int pr), .unset, .unset, .unset, .unset] [(.ref b2), (.ref b1), (.ref b1)]))
      refine own_go (fun _ kk => XS.dup X2.here hx rfl (hb hby at_87) rfl rfl (XS.iload X2.here hx rfl (hb hby at_88) rfl kk)) ?_
      show own_Fin _ _ _ _ _ _ _ (T2.setTop (mkF m 90 #[.val (.int p0), .val (.int p1), .val (.int p2), .val (.int p3), .val (.int p4), .val (.int p5), .val (.int (2 : Int32)), .val (.int (4 : Int32)), .val (.int (16 : Int32)), .val (.int mm), .val (.int c1), .val (.int n1), .val (.int c2), .val (.int n2), .val (.int pr), .unset, .unset, .unset, .unset] [(.int (2 : Int32)), (.ref b2), (.ref b2), (.ref b1), (.ref b1)]))
      refine own_callN X2 hx hZ rfl hown (hw _ (List.mem_of_getElem? (i := 7) rfl)) (hw _ (List.mem_of_getElem? (i := 8) rfl)) (hw _ (List.mem_of_getElem? (i := 6) rfl)) (hw _ (List.mem_of_getElem? (i := 9) rfl)) (by decide) (rm1g2 l Z a0 hw b2 h2 n0 Z2 A2 F2_size F2_rowOf F2_columnOf F2_boxOf F2_cellsOf F2_indexInRow F2_indexInColumn F2_indexInBox g_b2) e2 (a := b2) (argsL := [(.int (2 : Int32))]) (rest := [(.ref b2), (.ref b1), (.ref b1)]) rfl rfl (by rw [hml]; rfl) (lenOf pd_0_0 rfl) (hb hby at_90) (W := 3) (Nat.le_of_eq rfl) (by decide) (by decide) (by decide) (by decide) ?_
      rintro v9 T9 L9 X9 ⟨rfl, M9, Kc9, bR, bC, bB, gg, szbR, szbC, szbB, szgg, Gs9, Gr9, Gc9, Gb9, Gg9, VR9, VC9, VB9, VG9⟩
      have N9 := Fr.app NJ80 M9
      have ne_b1_bR : b1 ≠ bR := Nat.ne_of_lt (Nat.lt_of_lt_of_le f3.lt szbR)
      have ne_b1_bC : b1 ≠ bC := Nat.ne_of_lt (Nat.lt_of_lt_of_le f3.lt szbC)
      have ne_b1_bB : b1 ≠ bB := Nat.ne_of_lt (Nat.lt_of_lt_of_le f3.lt szbB)
      have ne_b1_gg : b1 ≠ gg := Nat.ne_of_lt (Nat.lt_of_lt_of_le f3.lt szgg)
      have ne_b2_bR : b2 ≠ bR := Nat.ne_of_lt (Nat.lt_of_lt_of_le A2.lt szbR)
      have ne_b2_bC : b2 ≠ bC := Nat.ne_of_lt (Nat.lt_of_lt_of_le A2.lt szbC)
      have ne_b2_bB : b2 ≠ bB := Nat.ne_of_lt (Nat.lt_of_lt_of_le A2.lt szbB)
      have ne_b2_gg : b2 ≠ gg := Nat.ne_of_lt (Nat.lt_of_lt_of_le A2.lt szgg)
      have f10 := f3.keep Kc9
      have f11 := f4.keep Kc9 (ninS ne_b1_b2 nin0)
      have f12 := f5.keep Kc9 (ninS ne_b1_b2 nin0)
      have f13 := f6.keep Kc9 (ninS ne_b1_b2 nin0)
      have f14 := f7.keep Kc9 (ninS ne_b1_b2 nin0)
      have f15 := f8.keep Kc9 (ninS ne_b1_b2 nin0)
      have f16 := A2.keep Kc9
      have Z9 := Nat.le_trans Z2 Kc9.1
      show own_Fin _ _ _ _ _ _ _ (T9.setTop (mkF m 93 #[.val (.int p0), .val (.int p1), .val (.int p2), .val (.int p3), .val (.int p4), .val (.int p5), .val (.int (2 : Int32)), .val (.int (4 : Int32)), .val (.int (16 : Int32)), .val (.int mm), .val (.int c1), .val (.int n1), .val (.int c2), .val (.int n2), .val (.int pr), .unset, .unset, .unset, .unset] [(.ref b2), (.ref b1), (.ref b1)]))
      refine own_callN X9 hx hZ rfl hown (hw _ (List.mem_of_getElem? (i := 32) rfl)) (hw _ (List.mem_of_getElem? (i := 33) rfl)) (hw _ (List.mem_of_getElem? (i := 3) rfl)) (hw _ (List.mem_of_getElem? (i := 34) rfl)) (by decide) (rm3g2 l Z a0 hw b1 b2 T9.heap n0 Z9 f10 f11 f12 f13 f14 f15 g_b1 bR bC bB gg f16 Gs9 Gr9 Gc9 Gb9 Gg9 VR9 VC9 VB9 VG9 ne_b1_b2 ne_b1_bR ne_b1_bC ne_b1_bB ne_b1_gg) rfl (a := b1) (argsL := [(.ref b2)]) (rest := [(.ref b1)]) rfl rfl (by rw [hml]; rfl) (lenOf pd_0_1 rfl) (hb hby at_93) (W := 1) (Nat.le_of_eq rfl) (by decide) (by decide) (by decide) (by decide) ?_
      rintro v17 T17 L17 X17 ⟨rfl, M17, Kc17, hd, sz17, Ur17, Uc17, Ub17, Un17, Uh17, VH17⟩
      have N17 := Fr.app N9 M17
      have g_hd : n0 ≤ hd := Nat.le_trans Z9 sz17
      have ne_b1_hd : b1 ≠ hd := Nat.ne_of_lt (Nat.lt_of_lt_of_le f10.lt sz17)
      have ne_b2_hd : b2 ≠ hd := Nat.ne_of_lt (Nat.lt_of_lt_of_le f16.lt sz17)
      have ne_bR_hd : bR ≠ hd := Nat.ne_of_lt (Nat.lt_of_lt_of_le VR9.lt sz17)
      have ne_bC_hd : bC ≠ hd := Nat.ne_of_lt (Nat.lt_of_lt_of_le VC9.lt sz17)
      have ne_bB_hd : bB ≠ hd := Nat.ne_of_lt (Nat.lt_of_lt_of_le VB9.lt sz17)
      have ne_gg_hd : gg ≠ hd := Nat.ne_of_lt (Nat.lt_of_lt_of_le VG9.lt sz17)
      have f18 := f10.keep Kc17
      have f19 := f16.keep Kc17
      have f20 := Gs9.keep Kc17 (ninS (Ne.symm ne_b1_b2) nin0)
      have f21 := Gr9.keep Kc17 (ninS (Ne.symm ne_b1_b2) nin0)
      have f22 := Gc9.keep Kc17 (ninS (Ne.symm ne_b1_b2) nin0)
      have f23 := Gb9.keep Kc17 (ninS (Ne.symm ne_b1_b2) nin0)
      have f24 := Gg9.keep Kc17 (ninS (Ne.symm ne_b1_b2) nin0)
      have f25 := VR9.keep Kc17 (ninS (Ne.symm ne_b1_bR) nin0)
      have f26 := VC9.keep Kc17 (ninS (Ne.symm ne_b1_bC) nin0)
      have f27 := VB9.keep Kc17 (ninS (Ne.symm ne_b1_bB) nin0)
      have f28 := VG9.keep Kc17 (ninS (Ne.symm ne_b1_gg) nin0)
      have Z17 := Nat.le_trans Z9 Kc17.1
      have hl0 : (List.replicate 12 (0 : Int64)).length = 12 := List.length_replicate
      show own_Fin _ _ _ _ _ _ _ (T17.setTop (mkF m 96 #[.val (.int p0), .val (.int p1), .val (.int p2), .val (.int p3), .val (.int p4), .val (.int p5), .val (.int (2 : Int32)), .val (.int (4 : Int32)), .val (.int (16 : Int32)), .val (.int mm), .val (.int c1), .val (.int n1), .val (.int c2), .val (.int n2), .val (.int pr), .unset, .unset, .unset, .unset] [(.ref b1)]))
      refine own_go (fun _ kk => XS.astore X17.here hx rfl (hb hby at_96) rfl rfl (l' := #[.val (.int p0), .val (.int p1), .val (.int p2), .val (.int p3), .val (.int p4), .val (.int p5), .val (.int (2 : Int32)), .val (.int (4 : Int32)), .val (.int (16 : Int32)), .val (.int mm), .val (.int c1), .val (.int n1), .val (.int c2), .val (.int n2), .val (.int pr), .val (.ref b1), .unset, .unset, .unset]) rfl (XS.aload X17.here hx rfl (hb hby at_98) rfl rfl (XS.iload X17.here hx rfl (hb hby at_100) rfl (XS.iload X17.here hx rfl (hb hby at_102) rfl kk)))) ?_
      show own_Fin _ _ _ _ _ _ _ (T17.setTop (mkF m 104 #[.val (.int p0), .val (.int p1), .val (.int p2), .val (.int p3), .val (.int p4), .val (.int p5), .val (.int (2 : Int32)), .val (.int (4 : Int32)), .val (.int (16 : Int32)), .val (.int mm), .val (.int c1), .val (.int n1), .val (.int c2), .val (.int n2), .val (.int pr), .val (.ref b1), .unset, .unset, .unset] [(.int n1), (.int c1), (.ref b1)]))
      refine own_callV X17 hx hZ hown (hw _ (List.mem_of_getElem? (i := 73) rfl)) (hw _ (List.mem_of_getElem? (i := 74) rfl)) (notFace_of_selects (args := #[]) (mvT hZ (hw _ (List.mem_of_getElem? (i := 76) rfl)))) (hw _ (List.mem_of_getElem? (i := 76) rfl)) (hw _ (List.mem_of_getElem? (i := 75) rfl)) (hw _ (List.mem_of_getElem? (i := 77) rfl)) (hw _ (List.mem_of_getElem? (i := 3) rfl)) (by decide) (rm9g2 l Z a0 hw b1 c1 n1 T17.heap n0 Z17 bR bC bB hd (List.replicate 12 (0 : Int64)) Ur17 Uc17 Ub17 Uh17 f25 f26 f27 VH17 hl0 ne_b1_hd ne_bR_hd ne_bC_hd ne_bB_hd g_hd h_c1.1 h_c1.2) rfl f18 (argsL := [(.int c1), (.int n1)]) (rest := []) rfl rfl (by rw [hml]; rfl) (lenOf pd_0_2 rfl) (hb hby at_104) (W := 0) (Nat.le_of_eq rfl) (by decide) (by decide) (by decide) (by decide) ?_
      rintro v29 T29 L29 X29 ⟨rfl, M29, Kc29, VH29⟩
      have N29 := Fr.app N17 M29
      have f30 := f18.keep Kc29
      have f31 := f19.keep Kc29
      have f32 := f20.keep Kc29 (ninS ne_b2_hd nin0)
      have f33 := f21.keep Kc29 (ninS ne_b2_hd nin0)
      have f34 := f22.keep Kc29 (ninS ne_b2_hd nin0)
      have f35 := f23.keep Kc29 (ninS ne_b2_hd nin0)
      have f36 := f24.keep Kc29 (ninS ne_b2_hd nin0)
      have f37 := f25.keep Kc29 (ninS ne_bR_hd nin0)
      have f38 := f26.keep Kc29 (ninS ne_bC_hd nin0)
      have f39 := f27.keep Kc29 (ninS ne_bB_hd nin0)
      have f40 := f28.keep Kc29 (ninS ne_gg_hd nin0)
      have f41 := Ur17.keep Kc29 (ninS ne_b1_hd nin0)
      have f42 := Uc17.keep Kc29 (ninS ne_b1_hd nin0)
      have f43 := Ub17.keep Kc29 (ninS ne_b1_hd nin0)
      have f44 := Un17.keep Kc29 (ninS ne_b1_hd nin0)
      have f45 := Uh17.keep Kc29 (ninS ne_b1_hd nin0)
      have Z29 := Nat.le_trans Z17 Kc29.1
      have hl29 : (own_pl2 (List.replicate 12 (0 : Int64)) c1 ((1 : Int64) <<< (n1 &&& 0x3f).toInt64)).length = 12 := (own_pllen2 _ _ _).trans hl0
      show own_Fin _ _ _ _ _ _ _ (T29.setTop (mkF m 107 #[.val (.int p0), .val (.int p1), .val (.int p2), .val (.int p3), .val (.int p4), .val (.int p5), .val (.int (2 : Int32)), .val (.int (4 : Int32)), .val (.int (16 : Int32)), .val (.int mm), .val (.int c1), .val (.int n1), .val (.int c2), .val (.int n2), .val (.int pr), .val (.ref b1), .unset, .unset, .unset] []))
      refine own_go (fun _ kk => XS.aload X29.here hx rfl (hb hby at_107) rfl rfl (XS.iload X29.here hx rfl (hb hby at_109) rfl (XS.iload X29.here hx rfl (hb hby at_111) rfl kk))) ?_
      show own_Fin _ _ _ _ _ _ _ (T29.setTop (mkF m 113 #[.val (.int p0), .val (.int p1), .val (.int p2), .val (.int p3), .val (.int p4), .val (.int p5), .val (.int (2 : Int32)), .val (.int (4 : Int32)), .val (.int (16 : Int32)), .val (.int mm), .val (.int c1), .val (.int n1), .val (.int c2), .val (.int n2), .val (.int pr), .val (.ref b1), .unset, .unset, .unset] [(.int n2), (.int c2), (.ref b1)]))
      refine own_callV X29 hx hZ hown (hw _ (List.mem_of_getElem? (i := 73) rfl)) (hw _ (List.mem_of_getElem? (i := 74) rfl)) (notFace_of_selects (args := #[]) (mvT hZ (hw _ (List.mem_of_getElem? (i := 76) rfl)))) (hw _ (List.mem_of_getElem? (i := 76) rfl)) (hw _ (List.mem_of_getElem? (i := 75) rfl)) (hw _ (List.mem_of_getElem? (i := 77) rfl)) (hw _ (List.mem_of_getElem? (i := 3) rfl)) (by decide) (rm9g2 l Z a0 hw b1 c2 n2 T29.heap n0 Z29 bR bC bB hd (own_pl2 (List.replicate 12 (0 : Int64)) c1 ((1 : Int64) <<< (n1 &&& 0x3f).toInt64)) f41 f42 f43 f45 f37 f38 f39 VH29 hl29 ne_b1_hd ne_bR_hd ne_bC_hd ne_bB_hd g_hd h_c2.1 h_c2.2) rfl f30 (argsL := [(.int c2), (.int n2)]) (rest := []) rfl rfl (by rw [hml]; rfl) (lenOf pd_0_2 rfl) (hb hby at_113) (W := 0) (Nat.le_of_eq rfl) (by decide) (by decide) (by decide) (by decide) ?_
      rintro v46 T46 L46 X46 ⟨rfl, M46, Kc46, VH46⟩
      have N46 := Fr.app N29 M46
      have f47 := f30.keep Kc46
      have f48 := f31.keep Kc46
      have f49 := f32.keep Kc46 (ninS ne_b2_hd nin0)
      have f50 := f33.keep Kc46 (ninS ne_b2_hd nin0)
      have f51 := f34.keep Kc46 (ninS ne_b2_hd nin0)
      have f52 := f35.keep Kc46 (ninS ne_b2_hd nin0)
      have f53 := f36.keep Kc46 (ninS ne_b2_hd nin0)
      have f54 := f37.keep Kc46 (ninS ne_bR_hd nin0)
      have f55 := f38.keep Kc46 (ninS ne_bC_hd nin0)
      have f56 := f39.keep Kc46 (ninS ne_bB_hd nin0)
      have f57 := f40.keep Kc46 (ninS ne_gg_hd nin0)
      have f58 := f41.keep Kc46 (ninS ne_b1_hd nin0)
      have f59 := f42.keep Kc46 (ninS ne_b1_hd nin0)
      have f60 := f43.keep Kc46 (ninS ne_b1_hd nin0)
      have f61 := f44.keep Kc46 (ninS ne_b1_hd nin0)
      have f62 := f45.keep Kc46 (ninS ne_b1_hd nin0)
      have Z46 := Nat.le_trans Z29 Kc46.1
      have hl46 : (own_pl2 (own_pl2 (List.replicate 12 (0 : Int64)) c1 ((1 : Int64) <<< (n1 &&& 0x3f).toInt64)) c2 ((1 : Int64) <<< (n2 &&& 0x3f).toInt64)).length = 12 := (own_pllen2 _ _ _).trans hl29
      show own_Fin _ _ _ _ _ _ _ (T46.setTop (mkF m 116 #[.val (.int p0), .val (.int p1), .val (.int p2), .val (.int p3), .val (.int p4), .val (.int p5), .val (.int (2 : Int32)), .val (.int (4 : Int32)), .val (.int (16 : Int32)), .val (.int mm), .val (.int c1), .val (.int n1), .val (.int c2), .val (.int n2), .val (.int pr), .val (.ref b1), .unset, .unset, .unset] []))
      refine own_go (fun _ kk => XS.iload X46.here hx rfl (hb hby at_116) rfl (XS.iload X46.here hx rfl (hb hby at_118) rfl (XS.iload X46.here hx rfl (hb hby at_120) rfl kk))) ?_
      show own_Fin _ _ _ _ _ _ _ (T46.setTop (mkF m 122 #[.val (.int p0), .val (.int p1), .val (.int p2), .val (.int p3), .val (.int p4), .val (.int p5), .val (.int (2 : Int32)), .val (.int (4 : Int32)), .val (.int (16 : Int32)), .val (.int mm), .val (.int c1), .val (.int n1), .val (.int c2), .val (.int n2), .val (.int pr), .val (.ref b1), .unset, .unset, .unset] [(.int (4 : Int32)), (.int c1), (.int pr)]))
      refine own_callS X46 hx hZ hown (hw _ (List.mem_of_getElem? (i := 78) rfl)) (hw _ (List.mem_of_getElem? (i := 79) rfl)) (hw _ (List.mem_of_getElem? (i := 80) rfl)) (hw _ (List.mem_of_getElem? (i := 81) rfl)) (by decide) (rm10 l Z a0 hw pr c1 (4 : Int32) T46.heap n0 Z46 (by decide)) rfl (argsL := [(.int pr), (.int c1), (.int (4 : Int32))]) (rest := []) rfl rfl (by rw [hml]; rfl) (lenOf pd_0_3 rfl) (hb hby at_122) (W := 0) (Nat.le_of_eq rfl) (by decide) (by decide) (by decide) (by decide) ?_
      rintro v63 T63 L63 X63 ⟨rfl, M63, e63⟩
      have N63 := Fr.app N46 M63
      show own_Fin _ _ _ _ _ _ _ (T63.setTop (mkF m 125 #[.val (.int p0), .val (.int p1), .val (.int p2), .val (.int p3), .val (.int p4), .val (.int p5), .val (.int (2 : Int32)), .val (.int (4 : Int32)), .val (.int (16 : Int32)), .val (.int mm), .val (.int c1), .val (.int n1), .val (.int c2), .val (.int n2), .val (.int pr), .val (.ref b1), .unset, .unset, .unset] [(.int (own_f10 pr c1 (4 : Int32)))]))
      have J159 : ∀ (TJ159 : State) (locsJ159 : List Loc) (ro : Int32), Stand p l e room_1 s m #[(.int p0), (.int p1), (.int p2), (.int p3), (.int p4), (.int p5)] below meth c TJ159 locsJ159 22 181 → Fr n0 locsJ159 → TJ159.heap = T46.heap → (own_f0 p0 p1 p2 p3 p4 p5) = own_f0_159 p0 p1 p2 p3 p4 p5 mm c1 n1 c2 n2 pr ro → own_Fin p e below s (own_Q0 (some (.int (own_f0 p0 p1 p2 p3 p4 p5))) n0) room_1.cells room_1.slots (TJ159.setTop (mkF m 159 #[.val (.int p0), .val (.int p1), .val (.int p2), .val (.int p3), .val (.int p4), .val (.int p5), .val (.int (2 : Int32)), .val (.int (4 : Int32)), .val (.int (16 : Int32)), .val (.int mm), .val (.int c1), .val (.int n1), .val (.int c2), .val (.int n2), .val (.int pr), .val (.ref b1), .unset, .unset, .unset] [(.int ro)])) := by
        intro TJ159 locsJ159 ro XJ159 NJ159 eJ159 hjJ159
        refine own_go (fun _ kk => XS.istore XJ159.here hx rfl (hb hby at_159) rfl (l' := #[.val (.int p0), .val (.int p1), .val (.int p2), .val (.int p3), .val (.int p4), .val (.int p5), .val (.int (2 : Int32)), .val (.int (4 : Int32)), .val (.int (16 : Int32)), .val (.int mm), .val (.int c1), .val (.int n1), .val (.int c2), .val (.int n2), .val (.int pr), .val (.ref b1), .val (.int ro), .unset, .unset]) rfl (XS.iload XJ159.here hx rfl (hb hby at_161) rfl (XS.iload XJ159.here hx rfl (hb hby at_163) rfl (XS.iload XJ159.here hx rfl (hb hby at_165) rfl kk)))) ?_
        show own_Fin _ _ _ _ _ _ _ (TJ159.setTop (mkF m 167 #[.val (.int p0), .val (.int p1), .val (.int p2), .val (.int p3), .val (.int p4), .val (.int p5), .val (.int (2 : Int32)), .val (.int (4 : Int32)), .val (.int (16 : Int32)), .val (.int mm), .val (.int c1), .val (.int n1), .val (.int c2), .val (.int n2), .val (.int pr), .val (.ref b1), .val (.int ro), .unset, .unset] [(.int (4 : Int32)), (.int c1), (.int pr)]))
        refine own_callS XJ159 hx hZ hown (hw _ (List.mem_of_getElem? (i := 82) rfl)) (hw _ (List.mem_of_getElem? (i := 83) rfl)) (hw _ (List.mem_of_getElem? (i := 80) rfl)) (hw _ (List.mem_of_getElem? (i := 84) rfl)) (by decide) (rm11 l Z a0 hw pr c1 (4 : Int32) T46.heap n0 Z46 (by decide)) eJ159 (argsL := [(.int pr), (.int c1), (.int (4 : Int32))]) (rest := []) rfl rfl (by rw [hml]; rfl) (lenOf pd_0_3 rfl) (hb hby at_167) (W := 0) (Nat.le_of_eq rfl) (by decide) (by decide) (by decide) (by decide) ?_
        rintro v64 T64 L64 X64 ⟨rfl, M64, e64⟩
        have N64 := Fr.app NJ159 M64
        show own_Fin _ _ _ _ _ _ _ (T64.setTop (mkF m 170 #[.val (.int p0), .val (.int p1), .val (.int p2), .val (.int p3), .val (.int p4), .val (.int p5), .val (.int (2 : Int32)), .val (.int (4 : Int32)), .val (.int (16 : Int32)), .val (.int mm), .val (.int c1), .val (.int n1), .val (.int c2), .val (.int n2), .val (.int pr), .val (.ref b1), .val (.int ro), .unset, .unset] [(.int (own_f11 pr c1 (4 : Int32)))]))
        have J204 : ∀ (TJ204 : State) (locsJ204 : List Loc) (co : Int32), Stand p l e room_1 s m #[(.int p0), (.int p1), (.int p2), (.int p3), (.int p4), (.int p5)] below meth c TJ204 locsJ204 22 181 → Fr n0 locsJ204 → TJ204.heap = T46.heap → (own_f0 p0 p1 p2 p3 p4 p5) = own_f0_204 p0 p1 p2 p3 p4 p5 mm c1 n1 c2 n2 pr ro co → own_Fin p e below s (own_Q0 (some (.int (own_f0 p0 p1 p2 p3 p4 p5))) n0) room_1.cells room_1.slots (TJ204.setTop (mkF m 204 #[.val (.int p0), .val (.int p1), .val (.int p2), .val (.int p3), .val (.int p4), .val (.int p5), .val (.int (2 : Int32)), .val (.int (4 : Int32)), .val (.int (16 : Int32)), .val (.int mm), .val (.int c1), .val (.int n1), .val (.int c2), .val (.int n2), .val (.int pr), .val (.ref b1), .val (.int ro), .unset, .unset] [(.int co)])) := by
          intro TJ204 locsJ204 co XJ204 NJ204 eJ204 hjJ204
          refine own_go (fun _ kk => XS.istore XJ204.here hx rfl (hb hby at_204) rfl (l' := #[.val (.int p0), .val (.int p1), .val (.int p2), .val (.int p3), .val (.int p4), .val (.int p5), .val (.int (2 : Int32)), .val (.int (4 : Int32)), .val (.int (16 : Int32)), .val (.int mm), .val (.int c1), .val (.int n1), .val (.int c2), .val (.int n2), .val (.int pr), .val (.ref b1), .val (.int ro), .val (.int co), .unset]) rfl (XS.iload XJ204.here hx rfl (hb hby at_206) rfl (XS.iload XJ204.here hx rfl (hb hby at_208) rfl (XS.iload XJ204.here hx rfl (hb hby at_210) rfl (XS.iload XJ204.here hx rfl (hb hby at_212) rfl kk))))) ?_
          show own_Fin _ _ _ _ _ _ _ (TJ204.setTop (mkF m 214 #[.val (.int p0), .val (.int p1), .val (.int p2), .val (.int p3), .val (.int p4), .val (.int p5), .val (.int (2 : Int32)), .val (.int (4 : Int32)), .val (.int (16 : Int32)), .val (.int mm), .val (.int c1), .val (.int n1), .val (.int c2), .val (.int n2), .val (.int pr), .val (.ref b1), .val (.int ro), .val (.int co), .unset] [(.int (2 : Int32)), (.int (4 : Int32)), (.int c1), (.int pr)]))
          refine own_callS XJ204 hx hZ hown (hw _ (List.mem_of_getElem? (i := 85) rfl)) (hw _ (List.mem_of_getElem? (i := 86) rfl)) (hw _ (List.mem_of_getElem? (i := 80) rfl)) (hw _ (List.mem_of_getElem? (i := 87) rfl)) (by decide) (rm12 l Z a0 hw pr c1 (4 : Int32) (2 : Int32) T46.heap n0 Z46 (by decide) (by decide)) eJ204 (argsL := [(.int pr), (.int c1), (.int (4 : Int32)), (.int (2 : Int32))]) (rest := []) rfl rfl (by rw [hml]; rfl) (lenOf pd_0_4 rfl) (hb hby at_214) (W := 0) (Nat.le_of_eq rfl) (by decide) (by decide) (by decide) (by decide) ?_
          rintro v65 T65 L65 X65 ⟨rfl, M65, e65⟩
          have N65 := Fr.app NJ204 M65
          show own_Fin _ _ _ _ _ _ _ (T65.setTop (mkF m 217 #[.val (.int p0), .val (.int p1), .val (.int p2), .val (.int p3), .val (.int p4), .val (.int p5), .val (.int (2 : Int32)), .val (.int (4 : Int32)), .val (.int (16 : Int32)), .val (.int mm), .val (.int c1), .val (.int n1), .val (.int c2), .val (.int n2), .val (.int pr), .val (.ref b1), .val (.int ro), .val (.int co), .unset] [(.int (own_f12 pr c1 (4 : Int32) (2 : Int32)))]))
          have J253 : ∀ (TJ253 : State) (locsJ253 : List Loc) (bo : Int32), Stand p l e room_1 s m #[(.int p0), (.int p1), (.int p2), (.int p3), (.int p4), (.int p5)] below meth c TJ253 locsJ253 22 181 → Fr n0 locsJ253 → TJ253.heap = T46.heap → (own_f0 p0 p1 p2 p3 p4 p5) = own_f0_253 p0 p1 p2 p3 p4 p5 mm c1 n1 c2 n2 pr ro co bo → own_Fin p e below s (own_Q0 (some (.int (own_f0 p0 p1 p2 p3 p4 p5))) n0) room_1.cells room_1.slots (TJ253.setTop (mkF m 253 #[.val (.int p0), .val (.int p1), .val (.int p2), .val (.int p3), .val (.int p4), .val (.int p5), .val (.int (2 : Int32)), .val (.int (4 : Int32)), .val (.int (16 : Int32)), .val (.int mm), .val (.int c1), .val (.int n1), .val (.int c2), .val (.int n2), .val (.int pr), .val (.ref b1), .val (.int ro), .val (.int co), .unset] [(.int bo)])) := by
            intro TJ253 locsJ253 bo XJ253 NJ253 eJ253 hjJ253
            refine own_go (fun _ kk => XS.istore XJ253.here hx rfl (hb hby at_253) rfl (l' := #[.val (.int p0), .val (.int p1), .val (.int p2), .val (.int p3), .val (.int p4), .val (.int p5), .val (.int (2 : Int32)), .val (.int (4 : Int32)), .val (.int (16 : Int32)), .val (.int mm), .val (.int c1), .val (.int n1), .val (.int c2), .val (.int n2), .val (.int pr), .val (.ref b1), .val (.int ro), .val (.int co), .val (.int bo)]) rfl (XS.aload XJ253.here hx rfl (hb hby at_255) rfl rfl (XS.iload XJ253.here hx rfl (hb hby at_257) rfl (XS.iload XJ253.here hx rfl (hb hby at_259) rfl kk)))) ?_
            show own_Fin _ _ _ _ _ _ _ (TJ253.setTop (mkF m 261 #[.val (.int p0), .val (.int p1), .val (.int p2), .val (.int p3), .val (.int p4), .val (.int p5), .val (.int (2 : Int32)), .val (.int (4 : Int32)), .val (.int (16 : Int32)), .val (.int mm), .val (.int c1), .val (.int n1), .val (.int c2), .val (.int n2), .val (.int pr), .val (.ref b1), .val (.int ro), .val (.int co), .val (.int bo)] [(.int mm), (.int pr), (.ref b1)]))
            refine own_callV XJ253 hx hZ hown (hw _ (List.mem_of_getElem? (i := 88) rfl)) (hw _ (List.mem_of_getElem? (i := 89) rfl)) (notFace_of_selects (args := #[]) (mvT hZ (hw _ (List.mem_of_getElem? (i := 91) rfl)))) (hw _ (List.mem_of_getElem? (i := 91) rfl)) (hw _ (List.mem_of_getElem? (i := 90) rfl)) (hw _ (List.mem_of_getElem? (i := 92) rfl)) (hw _ (List.mem_of_getElem? (i := 3) rfl)) (by decide) (rm13g2 l Z a0 hw b1 pr mm T46.heap n0 Z46 bR bC bB hd (own_pl2 (own_pl2 (List.replicate 12 (0 : Int64)) c1 ((1 : Int64) <<< (n1 &&& 0x3f).toInt64)) c2 ((1 : Int64) <<< (n2 &&& 0x3f).toInt64)) f58 f59 f60 f62 f54 f55 f56 VH46 hl46 h_pr.1 h_pr.2) eJ253 f47 (argsL := [(.int pr), (.int mm)]) (rest := []) rfl rfl (by rw [hml]; rfl) (lenOf pd_0_5 rfl) (hb hby at_261) (W := 0) (Nat.le_of_eq rfl) (by decide) (by decide) (by decide) (by decide) ?_
            rintro v66 T66 L66 X66 ⟨rfl, M66, e66⟩
            have N66 := Fr.app NJ253 M66
            show own_Fin _ _ _ _ _ _ _ (T66.setTop (mkF m 264 #[.val (.int p0), .val (.int p1), .val (.int p2), .val (.int p3), .val (.int p4), .val (.int p5), .val (.int (2 : Int32)), .val (.int (4 : Int32)), .val (.int (16 : Int32)), .val (.int mm), .val (.int c1), .val (.int n1), .val (.int c2), .val (.int n2), .val (.int pr), .val (.ref b1), .val (.int ro), .val (.int co), .val (.int bo)] [(.int (own_f13g2 (own_pl2 (own_pl2 (List.replicate 12 (0 : Int64)) c1 ((1 : Int64) <<< (n1 &&& 0x3f).toInt64)) c2 ((1 : Int64) <<< (n2 &&& 0x3f).toInt64)) pr mm))]))
            refine own_go (fun _ kk => XS.iload X66.here hx rfl (hb hby at_264) rfl kk) ?_
            show own_Fin _ _ _ _ _ _ _ (T66.setTop (mkF m 266 #[.val (.int p0), .val (.int p1), .val (.int p2), .val (.int p3), .val (.int p4), .val (.int p5), .val (.int (2 : Int32)), .val (.int (4 : Int32)), .val (.int (16 : Int32)), .val (.int mm), .val (.int c1), .val (.int n1), .val (.int c2), .val (.int n2), .val (.int pr), .val (.ref b1), .val (.int ro), .val (.int co), .val (.int bo)] [(.int ro), (.int (own_f13g2 (own_pl2 (own_pl2 (List.replicate 12 (0 : Int64)) c1 ((1 : Int64) <<< (n1 &&& 0x3f).toInt64)) c2 ((1 : Int64) <<< (n2 &&& 0x3f).toInt64)) pr mm))]))
            by_cases hc266 : (own_f13g2 (own_pl2 (own_pl2 (List.replicate 12 (0 : Int64)) c1 ((1 : Int64) <<< (n1 &&& 0x3f).toInt64)) c2 ((1 : Int64) <<< (n2 &&& 0x3f).toInt64)) pr mm) = ro
            · refine own_go (fun _ kk => XS.icmpNo X66.here hx rfl (hb hby at_266) rfl (XT.ii_ne_f hc266) (XS.aload X66.here hx rfl (hb hby at_269) rfl rfl (XS.iload X66.here hx rfl (hb hby at_271) rfl (XS.iload X66.here hx rfl (hb hby at_273) rfl kk)))) ?_
              show own_Fin _ _ _ _ _ _ _ (T66.setTop (mkF m 275 #[.val (.int p0), .val (.int p1), .val (.int p2), .val (.int p3), .val (.int p4), .val (.int p5), .val (.int (2 : Int32)), .val (.int (4 : Int32)), .val (.int (16 : Int32)), .val (.int mm), .val (.int c1), .val (.int n1), .val (.int c2), .val (.int n2), .val (.int pr), .val (.ref b1), .val (.int ro), .val (.int co), .val (.int bo)] [(.int mm), (.int pr), (.ref b1)]))
              refine own_callV X66 hx hZ hown (hw _ (List.mem_of_getElem? (i := 93) rfl)) (hw _ (List.mem_of_getElem? (i := 94) rfl)) (notFace_of_selects (args := #[]) (mvT hZ (hw _ (List.mem_of_getElem? (i := 96) rfl)))) (hw _ (List.mem_of_getElem? (i := 96) rfl)) (hw _ (List.mem_of_getElem? (i := 95) rfl)) (hw _ (List.mem_of_getElem? (i := 97) rfl)) (hw _ (List.mem_of_getElem? (i := 3) rfl)) (by decide) (rm14g2 l Z a0 hw b1 pr mm T46.heap n0 Z46 bR bC bB hd (own_pl2 (own_pl2 (List.replicate 12 (0 : Int64)) c1 ((1 : Int64) <<< (n1 &&& 0x3f).toInt64)) c2 ((1 : Int64) <<< (n2 &&& 0x3f).toInt64)) f58 f59 f60 f62 f54 f55 f56 VH46 hl46 h_pr.1 h_pr.2) e66 f47 (argsL := [(.int pr), (.int mm)]) (rest := []) rfl rfl (by rw [hml]; rfl) (lenOf pd_0_5 rfl) (hb hby at_275) (W := 0) (Nat.le_of_eq rfl) (by decide) (by decide) (by decide) (by decide) ?_
              rintro v67 T67 L67 X67 ⟨rfl, M67, e67⟩
              have N67 := Fr.app N66 M67
              show own_Fin _ _ _ _ _ _ _ (T67.setTop (mkF m 278 #[.val (.int p0), .val (.int p1), .val (.int p2), .val (.int p3), .val (.int p4), .val (.int p5), .val (.int (2 : Int32)), .val (.int (4 : Int32)), .val (.int (16 : Int32)), .val (.int mm), .val (.int c1), .val (.int n1), .val (.int c2), .val (.int n2), .val (.int pr), .val (.ref b1), .val (.int ro), .val (.int co), .val (.int bo)] [(.int (own_f14g2 (own_pl2 (own_pl2 (List.replicate 12 (0 : Int64)) c1 ((1 : Int64) <<< (n1 &&& 0x3f).toInt64)) c2 ((1 : Int64) <<< (n2 &&& 0x3f).toInt64)) pr mm))]))
              refine own_go (fun _ kk => XS.iload X67.here hx rfl (hb hby at_278) rfl kk) ?_
              show own_Fin _ _ _ _ _ _ _ (T67.setTop (mkF m 280 #[.val (.int p0), .val (.int p1), .val (.int p2), .val (.int p3), .val (.int p4), .val (.int p5), .val (.int (2 : Int32)), .val (.int (4 : Int32)), .val (.int (16 : Int32)), .val (.int mm), .val (.int c1), .val (.int n1), .val (.int c2), .val (.int n2), .val (.int pr), .val (.ref b1), .val (.int ro), .val (.int co), .val (.int bo)] [(.int co), (.int (own_f14g2 (own_pl2 (own_pl2 (List.replicate 12 (0 : Int64)) c1 ((1 : Int64) <<< (n1 &&& 0x3f).toInt64)) c2 ((1 : Int64) <<< (n2 &&& 0x3f).toInt64)) pr mm))]))
              by_cases hc280 : (own_f14g2 (own_pl2 (own_pl2 (List.replicate 12 (0 : Int64)) c1 ((1 : Int64) <<< (n1 &&& 0x3f).toInt64)) c2 ((1 : Int64) <<< (n2 &&& 0x3f).toInt64)) pr mm) = co
              · refine own_go (fun _ kk => XS.icmpNo X67.here hx rfl (hb hby at_280) rfl (XT.ii_ne_f hc280) (XS.aload X67.here hx rfl (hb hby at_283) rfl rfl (XS.iload X67.here hx rfl (hb hby at_285) rfl (XS.iload X67.here hx rfl (hb hby at_287) rfl kk)))) ?_
                show own_Fin _ _ _ _ _ _ _ (T67.setTop (mkF m 289 #[.val (.int p0), .val (.int p1), .val (.int p2), .val (.int p3), .val (.int p4), .val (.int p5), .val (.int (2 : Int32)), .val (.int (4 : Int32)), .val (.int (16 : Int32)), .val (.int mm), .val (.int c1), .val (.int n1), .val (.int c2), .val (.int n2), .val (.int pr), .val (.ref b1), .val (.int ro), .val (.int co), .val (.int bo)] [(.int mm), (.int pr), (.ref b1)]))
                refine own_callV X67 hx hZ hown (hw _ (List.mem_of_getElem? (i := 98) rfl)) (hw _ (List.mem_of_getElem? (i := 99) rfl)) (notFace_of_selects (args := #[]) (mvT hZ (hw _ (List.mem_of_getElem? (i := 101) rfl)))) (hw _ (List.mem_of_getElem? (i := 101) rfl)) (hw _ (List.mem_of_getElem? (i := 100) rfl)) (hw _ (List.mem_of_getElem? (i := 102) rfl)) (hw _ (List.mem_of_getElem? (i := 3) rfl)) (by decide) (rm15g2 l Z a0 hw b1 pr mm T46.heap n0 Z46 bR bC bB hd (own_pl2 (own_pl2 (List.replicate 12 (0 : Int64)) c1 ((1 : Int64) <<< (n1 &&& 0x3f).toInt64)) c2 ((1 : Int64) <<< (n2 &&& 0x3f).toInt64)) f58 f59 f60 f62 f54 f55 f56 VH46 hl46 h_pr.1 h_pr.2) e67 f47 (argsL := [(.int pr), (.int mm)]) (rest := []) rfl rfl (by rw [hml]; rfl) (lenOf pd_0_5 rfl) (hb hby at_289) (W := 0) (Nat.le_of_eq rfl) (by decide) (by decide) (by decide) (by decide) ?_
                rintro v68 T68 L68 X68 ⟨rfl, M68, e68⟩
                have N68 := Fr.app N67 M68
                show own_Fin _ _ _ _ _ _ _ (T68.setTop (mkF m 292 #[.val (.int p0), .val (.int p1), .val (.int p2), .val (.int p3), .val (.int p4), .val (.int p5), .val (.int (2 : Int32)), .val (.int (4 : Int32)), .val (.int (16 : Int32)), .val (.int mm), .val (.int c1), .val (.int n1), .val (.int c2), .val (.int n2), .val (.int pr), .val (.ref b1), .val (.int ro), .val (.int co), .val (.int bo)] [(.int (own_f15g2 (own_pl2 (own_pl2 (List.replicate 12 (0 : Int64)) c1 ((1 : Int64) <<< (n1 &&& 0x3f).toInt64)) c2 ((1 : Int64) <<< (n2 &&& 0x3f).toInt64)) pr mm))]))
                refine own_go (fun _ kk => XS.iload X68.here hx rfl (hb hby at_292) rfl kk) ?_
                show own_Fin _ _ _ _ _ _ _ (T68.setTop (mkF m 294 #[.val (.int p0), .val (.int p1), .val (.int p2), .val (.int p3), .val (.int p4), .val (.int p5), .val (.int (2 : Int32)), .val (.int (4 : Int32)), .val (.int (16 : Int32)), .val (.int mm), .val (.int c1), .val (.int n1), .val (.int c2), .val (.int n2), .val (.int pr), .val (.ref b1), .val (.int ro), .val (.int co), .val (.int bo)] [(.int bo), (.int (own_f15g2 (own_pl2 (own_pl2 (List.replicate 12 (0 : Int64)) c1 ((1 : Int64) <<< (n1 &&& 0x3f).toInt64)) c2 ((1 : Int64) <<< (n2 &&& 0x3f).toInt64)) pr mm))]))
                by_cases hc294 : (own_f15g2 (own_pl2 (own_pl2 (List.replicate 12 (0 : Int64)) c1 ((1 : Int64) <<< (n1 &&& 0x3f).toInt64)) c2 ((1 : Int64) <<< (n2 &&& 0x3f).toInt64)) pr mm) = bo
                · refine own_go (fun _ kk => XS.icmpNo X68.here hx rfl (hb hby at_294) rfl (XT.ii_ne_f hc294) (XS.iconst X68.here hx rfl (hb hby at_297) (XS.goto X68.here hx rfl (pc0 := 298) (pc' := 302) rfl (hb hby at_298) (by decide) (by decide) kk))) ?_
                  show own_Fin _ _ _ _ _ _ _ (T68.setTop (mkF m 302 #[.val (.int p0), .val (.int p1), .val (.int p2), .val (.int p3), .val (.int p4), .val (.int p5), .val (.int (2 : Int32)), .val (.int (4 : Int32)), .val (.int (16 : Int32)), .val (.int mm), .val (.int c1), .val (.int n1), .val (.int c2), .val (.int n2), .val (.int pr), .val (.ref b1), .val (.int ro), .val (.int co), .val (.int bo)] [(.int (1 : Int32))]))
                  exact own_retZ X68 hx hlk hret rfl (hb hby at_302) (by decide) (by decide) ⟨(by rw [hjJ253, own_f0_253, if_pos hc266, if_pos hc280, if_pos hc294]), N68⟩
                · refine own_go (fun _ kk => XS.icmpYes X68.here hx rfl (pc0 := 294) (pc' := 301) rfl (hb hby at_294) rfl (XT.ii_ne_t hc294) (by decide) (by decide) (XS.iconst X68.here hx rfl (hb hby at_301) kk)) ?_
                  show own_Fin _ _ _ _ _ _ _ (T68.setTop (mkF m 302 #[.val (.int p0), .val (.int p1), .val (.int p2), .val (.int p3), .val (.int p4), .val (.int p5), .val (.int (2 : Int32)), .val (.int (4 : Int32)), .val (.int (16 : Int32)), .val (.int mm), .val (.int c1), .val (.int n1), .val (.int c2), .val (.int n2), .val (.int pr), .val (.ref b1), .val (.int ro), .val (.int co), .val (.int bo)] [(.int (0 : Int32))]))
                  exact own_retZ X68 hx hlk hret rfl (hb hby at_302) (by decide) (by decide) ⟨(by rw [hjJ253, own_f0_253, if_pos hc266, if_pos hc280, if_neg hc294]), N68⟩
              · refine own_go (fun _ kk => XS.icmpYes X67.here hx rfl (pc0 := 280) (pc' := 301) rfl (hb hby at_280) rfl (XT.ii_ne_t hc280) (by decide) (by decide) (XS.iconst X67.here hx rfl (hb hby at_301) kk)) ?_
                show own_Fin _ _ _ _ _ _ _ (T67.setTop (mkF m 302 #[.val (.int p0), .val (.int p1), .val (.int p2), .val (.int p3), .val (.int p4), .val (.int p5), .val (.int (2 : Int32)), .val (.int (4 : Int32)), .val (.int (16 : Int32)), .val (.int mm), .val (.int c1), .val (.int n1), .val (.int c2), .val (.int n2), .val (.int pr), .val (.ref b1), .val (.int ro), .val (.int co), .val (.int bo)] [(.int (0 : Int32))]))
                exact own_retZ X67 hx hlk hret rfl (hb hby at_302) (by decide) (by decide) ⟨(by rw [hjJ253, own_f0_253, if_pos hc266, if_neg hc280]), N67⟩
            · refine own_go (fun _ kk => XS.icmpYes X66.here hx rfl (pc0 := 266) (pc' := 301) rfl (hb hby at_266) rfl (XT.ii_ne_t hc266) (by decide) (by decide) (XS.iconst X66.here hx rfl (hb hby at_301) kk)) ?_
              show own_Fin _ _ _ _ _ _ _ (T66.setTop (mkF m 302 #[.val (.int p0), .val (.int p1), .val (.int p2), .val (.int p3), .val (.int p4), .val (.int p5), .val (.int (2 : Int32)), .val (.int (4 : Int32)), .val (.int (16 : Int32)), .val (.int mm), .val (.int c1), .val (.int n1), .val (.int c2), .val (.int n2), .val (.int pr), .val (.ref b1), .val (.int ro), .val (.int co), .val (.int bo)] [(.int (0 : Int32))]))
              exact own_retZ X66 hx hlk hret rfl (hb hby at_302) (by decide) (by decide) ⟨(by rw [hjJ253, own_f0_253, if_neg hc266]), N66⟩
          by_cases hc217 : (own_f12 pr c1 (4 : Int32) (2 : Int32)) = 0
          · refine own_go (fun _ kk => XS.ifYes X65.here hx rfl (pc0 := 217) (pc' := 227) rfl (hb hby at_217) rfl (XT.i0_eq_t hc217) (by decide) (by decide) (XS.iload X65.here hx rfl (hb hby at_227) rfl (XS.iload X65.here hx rfl (hb hby at_229) rfl (XS.iload X65.here hx rfl (hb hby at_231) rfl (XS.iload X65.here hx rfl (hb hby at_233) rfl kk))))) ?_
            show own_Fin _ _ _ _ _ _ _ (T65.setTop (mkF m 235 #[.val (.int p0), .val (.int p1), .val (.int p2), .val (.int p3), .val (.int p4), .val (.int p5), .val (.int (2 : Int32)), .val (.int (4 : Int32)), .val (.int (16 : Int32)), .val (.int mm), .val (.int c1), .val (.int n1), .val (.int c2), .val (.int n2), .val (.int pr), .val (.ref b1), .val (.int ro), .val (.int co), .unset] [(.int (2 : Int32)), (.int (4 : Int32)), (.int c2), (.int pr)]))
            refine own_callS X65 hx hZ hown (hw _ (List.mem_of_getElem? (i := 85) rfl)) (hw _ (List.mem_of_getElem? (i := 86) rfl)) (hw _ (List.mem_of_getElem? (i := 80) rfl)) (hw _ (List.mem_of_getElem? (i := 87) rfl)) (by decide) (rm12 l Z a0 hw pr c2 (4 : Int32) (2 : Int32) T46.heap n0 Z46 (by decide) (by decide)) e65 (argsL := [(.int pr), (.int c2), (.int (4 : Int32)), (.int (2 : Int32))]) (rest := []) rfl rfl (by rw [hml]; rfl) (lenOf pd_0_4 rfl) (hb hby at_235) (W := 0) (Nat.le_of_eq rfl) (by decide) (by decide) (by decide) (by decide) ?_
            rintro v69 T69 L69 X69 ⟨rfl, M69, e69⟩
            have N69 := Fr.app N65 M69
            show own_Fin _ _ _ _ _ _ _ (T69.setTop (mkF m 238 #[.val (.int p0), .val (.int p1), .val (.int p2), .val (.int p3), .val (.int p4), .val (.int p5), .val (.int (2 : Int32)), .val (.int (4 : Int32)), .val (.int (16 : Int32)), .val (.int mm), .val (.int c1), .val (.int n1), .val (.int c2), .val (.int n2), .val (.int pr), .val (.ref b1), .val (.int ro), .val (.int co), .unset] [(.int (own_f12 pr c2 (4 : Int32) (2 : Int32)))]))
            by_cases hc238 : (own_f12 pr c2 (4 : Int32) (2 : Int32)) = 0
            · refine own_go (fun _ kk => XS.ifYes X69.here hx rfl (pc0 := 238) (pc' := 252) rfl (hb hby at_238) rfl (XT.i0_eq_t hc238) (by decide) (by decide) (XS.iconst X69.here hx rfl (hb hby at_252) kk)) ?_
              show own_Fin _ _ _ _ _ _ _ (T69.setTop (mkF m 253 #[.val (.int p0), .val (.int p1), .val (.int p2), .val (.int p3), .val (.int p4), .val (.int p5), .val (.int (2 : Int32)), .val (.int (4 : Int32)), .val (.int (16 : Int32)), .val (.int mm), .val (.int c1), .val (.int n1), .val (.int c2), .val (.int n2), .val (.int pr), .val (.ref b1), .val (.int ro), .val (.int co), .unset] [(.int (0 : Int32))]))
              exact J253 _ _ ((0 : Int32)) X69 N69 e69 (by rw [hjJ204, own_f0_204, if_pos hc217, if_pos hc238])
            · refine own_go (fun _ kk => XS.ifNo X69.here hx rfl (hb hby at_238) rfl (XT.i0_eq_f hc238) (XS.iload X69.here hx rfl (hb hby at_241) rfl (XS.iload X69.here hx rfl (hb hby at_243) rfl kk))) ?_
              show own_Fin _ _ _ _ _ _ _ (T69.setTop (mkF m 245 #[.val (.int p0), .val (.int p1), .val (.int p2), .val (.int p3), .val (.int p4), .val (.int p5), .val (.int (2 : Int32)), .val (.int (4 : Int32)), .val (.int (16 : Int32)), .val (.int mm), .val (.int c1), .val (.int n1), .val (.int c2), .val (.int n2), .val (.int pr), .val (.ref b1), .val (.int ro), .val (.int co), .unset] [(.int n2), (.int mm)]))
              by_cases hc245 : mm = n2
              · refine own_go (fun _ kk => XS.icmpNo X69.here hx rfl (hb hby at_245) rfl (XT.ii_ne_f hc245) (XS.iconst X69.here hx rfl (hb hby at_248) (XS.goto X69.here hx rfl (pc0 := 249) (pc' := 253) rfl (hb hby at_249) (by decide) (by decide) kk))) ?_
                show own_Fin _ _ _ _ _ _ _ (T69.setTop (mkF m 253 #[.val (.int p0), .val (.int p1), .val (.int p2), .val (.int p3), .val (.int p4), .val (.int p5), .val (.int (2 : Int32)), .val (.int (4 : Int32)), .val (.int (16 : Int32)), .val (.int mm), .val (.int c1), .val (.int n1), .val (.int c2), .val (.int n2), .val (.int pr), .val (.ref b1), .val (.int ro), .val (.int co), .unset] [(.int (1 : Int32))]))
                exact J253 _ _ ((1 : Int32)) X69 N69 e69 (by rw [hjJ204, own_f0_204, if_pos hc217, if_neg hc238, if_pos hc245])
              · refine own_go (fun _ kk => XS.icmpYes X69.here hx rfl (pc0 := 245) (pc' := 252) rfl (hb hby at_245) rfl (XT.ii_ne_t hc245) (by decide) (by decide) (XS.iconst X69.here hx rfl (hb hby at_252) kk)) ?_
                show own_Fin _ _ _ _ _ _ _ (T69.setTop (mkF m 253 #[.val (.int p0), .val (.int p1), .val (.int p2), .val (.int p3), .val (.int p4), .val (.int p5), .val (.int (2 : Int32)), .val (.int (4 : Int32)), .val (.int (16 : Int32)), .val (.int mm), .val (.int c1), .val (.int n1), .val (.int c2), .val (.int n2), .val (.int pr), .val (.ref b1), .val (.int ro), .val (.int co), .unset] [(.int (0 : Int32))]))
                exact J253 _ _ ((0 : Int32)) X69 N69 e69 (by rw [hjJ204, own_f0_204, if_pos hc217, if_neg hc238, if_neg hc245])
          · refine own_go (fun _ kk => XS.ifNo X65.here hx rfl (hb hby at_217) rfl (XT.i0_eq_f hc217) (XS.iload X65.here hx rfl (hb hby at_220) rfl (XS.iload X65.here hx rfl (hb hby at_222) rfl kk))) ?_
            show own_Fin _ _ _ _ _ _ _ (T65.setTop (mkF m 224 #[.val (.int p0), .val (.int p1), .val (.int p2), .val (.int p3), .val (.int p4), .val (.int p5), .val (.int (2 : Int32)), .val (.int (4 : Int32)), .val (.int (16 : Int32)), .val (.int mm), .val (.int c1), .val (.int n1), .val (.int c2), .val (.int n2), .val (.int pr), .val (.ref b1), .val (.int ro), .val (.int co), .unset] [(.int n1), (.int mm)]))
            by_cases hc224 : mm = n1
            · refine own_go (fun _ kk => XS.icmpYes X65.here hx rfl (pc0 := 224) (pc' := 248) rfl (hb hby at_224) rfl (XT.ii_eq_t hc224) (by decide) (by decide) (XS.iconst X65.here hx rfl (hb hby at_248) (XS.goto X65.here hx rfl (pc0 := 249) (pc' := 253) rfl (hb hby at_249) (by decide) (by decide) kk))) ?_
              show own_Fin _ _ _ _ _ _ _ (T65.setTop (mkF m 253 #[.val (.int p0), .val (.int p1), .val (.int p2), .val (.int p3), .val (.int p4), .val (.int p5), .val (.int (2 : Int32)), .val (.int (4 : Int32)), .val (.int (16 : Int32)), .val (.int mm), .val (.int c1), .val (.int n1), .val (.int c2), .val (.int n2), .val (.int pr), .val (.ref b1), .val (.int ro), .val (.int co), .unset] [(.int (1 : Int32))]))
              exact J253 _ _ ((1 : Int32)) X65 N65 e65 (by rw [hjJ204, own_f0_204, if_neg hc217, if_pos hc224])
            · refine own_go (fun _ kk => XS.icmpNo X65.here hx rfl (hb hby at_224) rfl (XT.ii_eq_f hc224) (XS.iload X65.here hx rfl (hb hby at_227) rfl (XS.iload X65.here hx rfl (hb hby at_229) rfl (XS.iload X65.here hx rfl (hb hby at_231) rfl (XS.iload X65.here hx rfl (hb hby at_233) rfl kk))))) ?_
              show own_Fin _ _ _ _ _ _ _ (T65.setTop (mkF m 235 #[.val (.int p0), .val (.int p1), .val (.int p2), .val (.int p3), .val (.int p4), .val (.int p5), .val (.int (2 : Int32)), .val (.int (4 : Int32)), .val (.int (16 : Int32)), .val (.int mm), .val (.int c1), .val (.int n1), .val (.int c2), .val (.int n2), .val (.int pr), .val (.ref b1), .val (.int ro), .val (.int co), .unset] [(.int (2 : Int32)), (.int (4 : Int32)), (.int c2), (.int pr)]))
              refine own_callS X65 hx hZ hown (hw _ (List.mem_of_getElem? (i := 85) rfl)) (hw _ (List.mem_of_getElem? (i := 86) rfl)) (hw _ (List.mem_of_getElem? (i := 80) rfl)) (hw _ (List.mem_of_getElem? (i := 87) rfl)) (by decide) (rm12 l Z a0 hw pr c2 (4 : Int32) (2 : Int32) T46.heap n0 Z46 (by decide) (by decide)) e65 (argsL := [(.int pr), (.int c2), (.int (4 : Int32)), (.int (2 : Int32))]) (rest := []) rfl rfl (by rw [hml]; rfl) (lenOf pd_0_4 rfl) (hb hby at_235) (W := 0) (Nat.le_of_eq rfl) (by decide) (by decide) (by decide) (by decide) ?_
              rintro v70 T70 L70 X70 ⟨rfl, M70, e70⟩
              have N70 := Fr.app N65 M70
              show own_Fin _ _ _ _ _ _ _ (T70.setTop (mkF m 238 #[.val (.int p0), .val (.int p1), .val (.int p2), .val (.int p3), .val (.int p4), .val (.int p5), .val (.int (2 : Int32)), .val (.int (4 : Int32)), .val (.int (16 : Int32)), .val (.int mm), .val (.int c1), .val (.int n1), .val (.int c2), .val (.int n2), .val (.int pr), .val (.ref b1), .val (.int ro), .val (.int co), .unset] [(.int (own_f12 pr c2 (4 : Int32) (2 : Int32)))]))
              by_cases hc238 : (own_f12 pr c2 (4 : Int32) (2 : Int32)) = 0
              · refine own_go (fun _ kk => XS.ifYes X70.here hx rfl (pc0 := 238) (pc' := 252) rfl (hb hby at_238) rfl (XT.i0_eq_t hc238) (by decide) (by decide) (XS.iconst X70.here hx rfl (hb hby at_252) kk)) ?_
                show own_Fin _ _ _ _ _ _ _ (T70.setTop (mkF m 253 #[.val (.int p0), .val (.int p1), .val (.int p2), .val (.int p3), .val (.int p4), .val (.int p5), .val (.int (2 : Int32)), .val (.int (4 : Int32)), .val (.int (16 : Int32)), .val (.int mm), .val (.int c1), .val (.int n1), .val (.int c2), .val (.int n2), .val (.int pr), .val (.ref b1), .val (.int ro), .val (.int co), .unset] [(.int (0 : Int32))]))
                exact J253 _ _ ((0 : Int32)) X70 N70 e70 (by rw [hjJ204, own_f0_204, if_neg hc217, if_neg hc224, if_pos hc238])
              · refine own_go (fun _ kk => XS.ifNo X70.here hx rfl (hb hby at_238) rfl (XT.i0_eq_f hc238) (XS.iload X70.here hx rfl (hb hby at_241) rfl (XS.iload X70.here hx rfl (hb hby at_243) rfl kk))) ?_
                show own_Fin _ _ _ _ _ _ _ (T70.setTop (mkF m 245 #[.val (.int p0), .val (.int p1), .val (.int p2), .val (.int p3), .val (.int p4), .val (.int p5), .val (.int (2 : Int32)), .val (.int (4 : Int32)), .val (.int (16 : Int32)), .val (.int mm), .val (.int c1), .val (.int n1), .val (.int c2), .val (.int n2), .val (.int pr), .val (.ref b1), .val (.int ro), .val (.int co), .unset] [(.int n2), (.int mm)]))
                by_cases hc245 : mm = n2
                · refine own_go (fun _ kk => XS.icmpNo X70.here hx rfl (hb hby at_245) rfl (XT.ii_ne_f hc245) (XS.iconst X70.here hx rfl (hb hby at_248) (XS.goto X70.here hx rfl (pc0 := 249) (pc' := 253) rfl (hb hby at_249) (by decide) (by decide) kk))) ?_
                  show own_Fin _ _ _ _ _ _ _ (T70.setTop (mkF m 253 #[.val (.int p0), .val (.int p1), .val (.int p2), .val (.int p3), .val (.int p4), .val (.int p5), .val (.int (2 : Int32)), .val (.int (4 : Int32)), .val (.int (16 : Int32)), .val (.int mm), .val (.int c1), .val (.int n1), .val (.int c2), .val (.int n2), .val (.int pr), .val (.ref b1), .val (.int ro), .val (.int co), .unset] [(.int (1 : Int32))]))
                  exact J253 _ _ ((1 : Int32)) X70 N70 e70 (by rw [hjJ204, own_f0_204, if_neg hc217, if_neg hc224, if_neg hc238, if_pos hc245])
                · refine own_go (fun _ kk => XS.icmpYes X70.here hx rfl (pc0 := 245) (pc' := 252) rfl (hb hby at_245) rfl (XT.ii_ne_t hc245) (by decide) (by decide) (XS.iconst X70.here hx rfl (hb hby at_252) kk)) ?_
                  show own_Fin _ _ _ _ _ _ _ (T70.setTop (mkF m 253 #[.val (.int p0), .val (.int p1), .val (.int p2), .val (.int p3), .val (.int p4), .val (.int p5), .val (.int (2 : Int32)), .val (.int (4 : Int32)), .val (.int (16 : Int32)), .val (.int mm), .val (.int c1), .val (.int n1), .val (.int c2), .val (.int n2), .val (.int pr), .val (.ref b1), .val (.int ro), .val (.int co), .unset] [(.int (0 : Int32))]))
                  exact J253 _ _ ((0 : Int32)) X70 N70 e70 (by rw [hjJ204, own_f0_204, if_neg hc217, if_neg hc224, if_neg hc238, if_neg hc245])
        by_cases hc170 : (own_f11 pr c1 (4 : Int32)) = 0
        · refine own_go (fun _ kk => XS.ifYes X64.here hx rfl (pc0 := 170) (pc' := 180) rfl (hb hby at_170) rfl (XT.i0_eq_t hc170) (by decide) (by decide) (XS.iload X64.here hx rfl (hb hby at_180) rfl (XS.iload X64.here hx rfl (hb hby at_182) rfl (XS.iload X64.here hx rfl (hb hby at_184) rfl kk)))) ?_
          show own_Fin _ _ _ _ _ _ _ (T64.setTop (mkF m 186 #[.val (.int p0), .val (.int p1), .val (.int p2), .val (.int p3), .val (.int p4), .val (.int p5), .val (.int (2 : Int32)), .val (.int (4 : Int32)), .val (.int (16 : Int32)), .val (.int mm), .val (.int c1), .val (.int n1), .val (.int c2), .val (.int n2), .val (.int pr), .val (.ref b1), .val (.int ro), .unset, .unset] [(.int (4 : Int32)), (.int c2), (.int pr)]))
          refine own_callS X64 hx hZ hown (hw _ (List.mem_of_getElem? (i := 82) rfl)) (hw _ (List.mem_of_getElem? (i := 83) rfl)) (hw _ (List.mem_of_getElem? (i := 80) rfl)) (hw _ (List.mem_of_getElem? (i := 84) rfl)) (by decide) (rm11 l Z a0 hw pr c2 (4 : Int32) T46.heap n0 Z46 (by decide)) e64 (argsL := [(.int pr), (.int c2), (.int (4 : Int32))]) (rest := []) rfl rfl (by rw [hml]; rfl) (lenOf pd_0_3 rfl) (hb hby at_186) (W := 0) (Nat.le_of_eq rfl) (by decide) (by decide) (by decide) (by decide) ?_
          rintro v71 T71 L71 X71 ⟨rfl, M71, e71⟩
          have N71 := Fr.app N64 M71
          show own_Fin _ _ _ _ _ _ _ (T71.setTop (mkF m 189 #[.val (.int p0), .val (.int p1), .val (.int p2), .val (.int p3), .val (.int p4), .val (.int p5), .val (.int (2 : Int32)), .val (.int (4 : Int32)), .val (.int (16 : Int32)), .val (.int mm), .val (.int c1), .val (.int n1), .val (.int c2), .val (.int n2), .val (.int pr), .val (.ref b1), .val (.int ro), .unset, .unset] [(.int (own_f11 pr c2 (4 : Int32)))]))
          by_cases hc189 : (own_f11 pr c2 (4 : Int32)) = 0
          · refine own_go (fun _ kk => XS.ifYes X71.here hx rfl (pc0 := 189) (pc' := 203) rfl (hb hby at_189) rfl (XT.i0_eq_t hc189) (by decide) (by decide) (XS.iconst X71.here hx rfl (hb hby at_203) kk)) ?_
            show own_Fin _ _ _ _ _ _ _ (T71.setTop (mkF m 204 #[.val (.int p0), .val (.int p1), .val (.int p2), .val (.int p3), .val (.int p4), .val (.int p5), .val (.int (2 : Int32)), .val (.int (4 : Int32)), .val (.int (16 : Int32)), .val (.int mm), .val (.int c1), .val (.int n1), .val (.int c2), .val (.int n2), .val (.int pr), .val (.ref b1), .val (.int ro), .unset, .unset] [(.int (0 : Int32))]))
            exact J204 _ _ ((0 : Int32)) X71 N71 e71 (by rw [hjJ159, own_f0_159, if_pos hc170, if_pos hc189])
          · refine own_go (fun _ kk => XS.ifNo X71.here hx rfl (hb hby at_189) rfl (XT.i0_eq_f hc189) (XS.iload X71.here hx rfl (hb hby at_192) rfl (XS.iload X71.here hx rfl (hb hby at_194) rfl kk))) ?_
            show own_Fin _ _ _ _ _ _ _ (T71.setTop (mkF m 196 #[.val (.int p0), .val (.int p1), .val (.int p2), .val (.int p3), .val (.int p4), .val (.int p5), .val (.int (2 : Int32)), .val (.int (4 : Int32)), .val (.int (16 : Int32)), .val (.int mm), .val (.int c1), .val (.int n1), .val (.int c2), .val (.int n2), .val (.int pr), .val (.ref b1), .val (.int ro), .unset, .unset] [(.int n2), (.int mm)]))
            by_cases hc196 : mm = n2
            · refine own_go (fun _ kk => XS.icmpNo X71.here hx rfl (hb hby at_196) rfl (XT.ii_ne_f hc196) (XS.iconst X71.here hx rfl (hb hby at_199) (XS.goto X71.here hx rfl (pc0 := 200) (pc' := 204) rfl (hb hby at_200) (by decide) (by decide) kk))) ?_
              show own_Fin _ _ _ _ _ _ _ (T71.setTop (mkF m 204 #[.val (.int p0), .val (.int p1), .val (.int p2), .val (.int p3), .val (.int p4), .val (.int p5), .val (.int (2 : Int32)), .val (.int (4 : Int32)), .val (.int (16 : Int32)), .val (.int mm), .val (.int c1), .val (.int n1), .val (.int c2), .val (.int n2), .val (.int pr), .val (.ref b1), .val (.int ro), .unset, .unset] [(.int (1 : Int32))]))
              exact J204 _ _ ((1 : Int32)) X71 N71 e71 (by rw [hjJ159, own_f0_159, if_pos hc170, if_neg hc189, if_pos hc196])
            · refine own_go (fun _ kk => XS.icmpYes X71.here hx rfl (pc0 := 196) (pc' := 203) rfl (hb hby at_196) rfl (XT.ii_ne_t hc196) (by decide) (by decide) (XS.iconst X71.here hx rfl (hb hby at_203) kk)) ?_
              show own_Fin _ _ _ _ _ _ _ (T71.setTop (mkF m 204 #[.val (.int p0), .val (.int p1), .val (.int p2), .val (.int p3), .val (.int p4), .val (.int p5), .val (.int (2 : Int32)), .val (.int (4 : Int32)), .val (.int (16 : Int32)), .val (.int mm), .val (.int c1), .val (.int n1), .val (.int c2), .val (.int n2), .val (.int pr), .val (.ref b1), .val (.int ro), .unset, .unset] [(.int (0 : Int32))]))
              exact J204 _ _ ((0 : Int32)) X71 N71 e71 (by rw [hjJ159, own_f0_159, if_pos hc170, if_neg hc189, if_neg hc196])
        · refine own_go (fun _ kk => XS.ifNo X64.here hx rfl (hb hby at_170) rfl (XT.i0_eq_f hc170) (XS.iload X64.here hx rfl (hb hby at_173) rfl (XS.iload X64.here hx rfl (hb hby at_175) rfl kk))) ?_
          show own_Fin _ _ _ _ _ _ _ (T64.setTop (mkF m 177 #[.val (.int p0), .val (.int p1), .val (.int p2), .val (.int p3), .val (.int p4), .val (.int p5), .val (.int (2 : Int32)), .val (.int (4 : Int32)), .val (.int (16 : Int32)), .val (.int mm), .val (.int c1), .val (.int n1), .val (.int c2), .val (.int n2), .val (.int pr), .val (.ref b1), .val (.int ro), .unset, .unset] [(.int n1), (.int mm)]))
          by_cases hc177 : mm = n1
          · refine own_go (fun _ kk => XS.icmpYes X64.here hx rfl (pc0 := 177) (pc' := 199) rfl (hb hby at_177) rfl (XT.ii_eq_t hc177) (by decide) (by decide) (XS.iconst X64.here hx rfl (hb hby at_199) (XS.goto X64.here hx rfl (pc0 := 200) (pc' := 204) rfl (hb hby at_200) (by decide) (by decide) kk))) ?_
            show own_Fin _ _ _ _ _ _ _ (T64.setTop (mkF m 204 #[.val (.int p0), .val (.int p1), .val (.int p2), .val (.int p3), .val (.int p4), .val (.int p5), .val (.int (2 : Int32)), .val (.int (4 : Int32)), .val (.int (16 : Int32)), .val (.int mm), .val (.int c1), .val (.int n1), .val (.int c2), .val (.int n2), .val (.int pr), .val (.ref b1), .val (.int ro), .unset, .unset] [(.int (1 : Int32))]))
            exact J204 _ _ ((1 : Int32)) X64 N64 e64 (by rw [hjJ159, own_f0_159, if_neg hc170, if_pos hc177])
          · refine own_go (fun _ kk => XS.icmpNo X64.here hx rfl (hb hby at_177) rfl (XT.ii_eq_f hc177) (XS.iload X64.here hx rfl (hb hby at_180) rfl (XS.iload X64.here hx rfl (hb hby at_182) rfl (XS.iload X64.here hx rfl (hb hby at_184) rfl kk)))) ?_
            show own_Fin _ _ _ _ _ _ _ (T64.setTop (mkF m 186 #[.val (.int p0), .val (.int p1), .val (.int p2), .val (.int p3), .val (.int p4), .val (.int p5), .val (.int (2 : Int32)), .val (.int (4 : Int32)), .val (.int (16 : Int32)), .val (.int mm), .val (.int c1), .val (.int n1), .val (.int c2), .val (.int n2), .val (.int pr), .val (.ref b1), .val (.int ro), .unset, .unset] [(.int (4 : Int32)), (.int c2), (.int pr)]))
            refine own_callS X64 hx hZ hown (hw _ (List.mem_of_getElem? (i := 82) rfl)) (hw _ (List.mem_of_getElem? (i := 83) rfl)) (hw _ (List.mem_of_getElem? (i := 80) rfl)) (hw _ (List.mem_of_getElem? (i := 84) rfl)) (by decide) (rm11 l Z a0 hw pr c2 (4 : Int32) T46.heap n0 Z46 (by decide)) e64 (argsL := [(.int pr), (.int c2), (.int (4 : Int32))]) (rest := []) rfl rfl (by rw [hml]; rfl) (lenOf pd_0_3 rfl) (hb hby at_186) (W := 0) (Nat.le_of_eq rfl) (by decide) (by decide) (by decide) (by decide) ?_
            rintro v72 T72 L72 X72 ⟨rfl, M72, e72⟩
            have N72 := Fr.app N64 M72
            show own_Fin _ _ _ _ _ _ _ (T72.setTop (mkF m 189 #[.val (.int p0), .val (.int p1), .val (.int p2), .val (.int p3), .val (.int p4), .val (.int p5), .val (.int (2 : Int32)), .val (.int (4 : Int32)), .val (.int (16 : Int32)), .val (.int mm), .val (.int c1), .val (.int n1), .val (.int c2), .val (.int n2), .val (.int pr), .val (.ref b1), .val (.int ro), .unset, .unset] [(.int (own_f11 pr c2 (4 : Int32)))]))
            by_cases hc189 : (own_f11 pr c2 (4 : Int32)) = 0
            · refine own_go (fun _ kk => XS.ifYes X72.here hx rfl (pc0 := 189) (pc' := 203) rfl (hb hby at_189) rfl (XT.i0_eq_t hc189) (by decide) (by decide) (XS.iconst X72.here hx rfl (hb hby at_203) kk)) ?_
              show own_Fin _ _ _ _ _ _ _ (T72.setTop (mkF m 204 #[.val (.int p0), .val (.int p1), .val (.int p2), .val (.int p3), .val (.int p4), .val (.int p5), .val (.int (2 : Int32)), .val (.int (4 : Int32)), .val (.int (16 : Int32)), .val (.int mm), .val (.int c1), .val (.int n1), .val (.int c2), .val (.int n2), .val (.int pr), .val (.ref b1), .val (.int ro), .unset, .unset] [(.int (0 : Int32))]))
              exact J204 _ _ ((0 : Int32)) X72 N72 e72 (by rw [hjJ159, own_f0_159, if_neg hc170, if_neg hc177, if_pos hc189])
            · refine own_go (fun _ kk => XS.ifNo X72.here hx rfl (hb hby at_189) rfl (XT.i0_eq_f hc189) (XS.iload X72.here hx rfl (hb hby at_192) rfl (XS.iload X72.here hx rfl (hb hby at_194) rfl kk))) ?_
              show own_Fin _ _ _ _ _ _ _ (T72.setTop (mkF m 196 #[.val (.int p0), .val (.int p1), .val (.int p2), .val (.int p3), .val (.int p4), .val (.int p5), .val (.int (2 : Int32)), .val (.int (4 : Int32)), .val (.int (16 : Int32)), .val (.int mm), .val (.int c1), .val (.int n1), .val (.int c2), .val (.int n2), .val (.int pr), .val (.ref b1), .val (.int ro), .unset, .unset] [(.int n2), (.int mm)]))
              by_cases hc196 : mm = n2
              · refine own_go (fun _ kk => XS.icmpNo X72.here hx rfl (hb hby at_196) rfl (XT.ii_ne_f hc196) (XS.iconst X72.here hx rfl (hb hby at_199) (XS.goto X72.here hx rfl (pc0 := 200) (pc' := 204) rfl (hb hby at_200) (by decide) (by decide) kk))) ?_
                show own_Fin _ _ _ _ _ _ _ (T72.setTop (mkF m 204 #[.val (.int p0), .val (.int p1), .val (.int p2), .val (.int p3), .val (.int p4), .val (.int p5), .val (.int (2 : Int32)), .val (.int (4 : Int32)), .val (.int (16 : Int32)), .val (.int mm), .val (.int c1), .val (.int n1), .val (.int c2), .val (.int n2), .val (.int pr), .val (.ref b1), .val (.int ro), .unset, .unset] [(.int (1 : Int32))]))
                exact J204 _ _ ((1 : Int32)) X72 N72 e72 (by rw [hjJ159, own_f0_159, if_neg hc170, if_neg hc177, if_neg hc189, if_pos hc196])
              · refine own_go (fun _ kk => XS.icmpYes X72.here hx rfl (pc0 := 196) (pc' := 203) rfl (hb hby at_196) rfl (XT.ii_ne_t hc196) (by decide) (by decide) (XS.iconst X72.here hx rfl (hb hby at_203) kk)) ?_
                show own_Fin _ _ _ _ _ _ _ (T72.setTop (mkF m 204 #[.val (.int p0), .val (.int p1), .val (.int p2), .val (.int p3), .val (.int p4), .val (.int p5), .val (.int (2 : Int32)), .val (.int (4 : Int32)), .val (.int (16 : Int32)), .val (.int mm), .val (.int c1), .val (.int n1), .val (.int c2), .val (.int n2), .val (.int pr), .val (.ref b1), .val (.int ro), .unset, .unset] [(.int (0 : Int32))]))
                exact J204 _ _ ((0 : Int32)) X72 N72 e72 (by rw [hjJ159, own_f0_159, if_neg hc170, if_neg hc177, if_neg hc189, if_neg hc196])
      by_cases hc125 : (own_f10 pr c1 (4 : Int32)) = 0
      · refine own_go (fun _ kk => XS.ifYes X63.here hx rfl (pc0 := 125) (pc' := 135) rfl (hb hby at_125) rfl (XT.i0_eq_t hc125) (by decide) (by decide) (XS.iload X63.here hx rfl (hb hby at_135) rfl (XS.iload X63.here hx rfl (hb hby at_137) rfl (XS.iload X63.here hx rfl (hb hby at_139) rfl kk)))) ?_
        show own_Fin _ _ _ _ _ _ _ (T63.setTop (mkF m 141 #[.val (.int p0), .val (.int p1), .val (.int p2), .val (.int p3), .val (.int p4), .val (.int p5), .val (.int (2 : Int32)), .val (.int (4 : Int32)), .val (.int (16 : Int32)), .val (.int mm), .val (.int c1), .val (.int n1), .val (.int c2), .val (.int n2), .val (.int pr), .val (.ref b1), .unset, .unset, .unset] [(.int (4 : Int32)), (.int c2), (.int pr)]))
        refine own_callS X63 hx hZ hown (hw _ (List.mem_of_getElem? (i := 78) rfl)) (hw _ (List.mem_of_getElem? (i := 79) rfl)) (hw _ (List.mem_of_getElem? (i := 80) rfl)) (hw _ (List.mem_of_getElem? (i := 81) rfl)) (by decide) (rm10 l Z a0 hw pr c2 (4 : Int32) T46.heap n0 Z46 (by decide)) e63 (argsL := [(.int pr), (.int c2), (.int (4 : Int32))]) (rest := []) rfl rfl (by rw [hml]; rfl) (lenOf pd_0_3 rfl) (hb hby at_141) (W := 0) (Nat.le_of_eq rfl) (by decide) (by decide) (by decide) (by decide) ?_
        rintro v73 T73 L73 X73 ⟨rfl, M73, e73⟩
        have N73 := Fr.app N63 M73
        show own_Fin _ _ _ _ _ _ _ (T73.setTop (mkF m 144 #[.val (.int p0), .val (.int p1), .val (.int p2), .val (.int p3), .val (.int p4), .val (.int p5), .val (.int (2 : Int32)), .val (.int (4 : Int32)), .val (.int (16 : Int32)), .val (.int mm), .val (.int c1), .val (.int n1), .val (.int c2), .val (.int n2), .val (.int pr), .val (.ref b1), .unset, .unset, .unset] [(.int (own_f10 pr c2 (4 : Int32)))]))
        by_cases hc144 : (own_f10 pr c2 (4 : Int32)) = 0
        · refine own_go (fun _ kk => XS.ifYes X73.here hx rfl (pc0 := 144) (pc' := 158) rfl (hb hby at_144) rfl (XT.i0_eq_t hc144) (by decide) (by decide) (XS.iconst X73.here hx rfl (hb hby at_158) kk)) ?_
          show own_Fin _ _ _ _ _ _ _ (T73.setTop (mkF m 159 #[.val (.int p0), .val (.int p1), .val (.int p2), .val (.int p3), .val (.int p4), .val (.int p5), .val (.int (2 : Int32)), .val (.int (4 : Int32)), .val (.int (16 : Int32)), .val (.int mm), .val (.int c1), .val (.int n1), .val (.int c2), .val (.int n2), .val (.int pr), .val (.ref b1), .unset, .unset, .unset] [(.int (0 : Int32))]))
          exact J159 _ _ ((0 : Int32)) X73 N73 e73 (by rw [hjJ80, own_f0_80, if_pos hc125, if_pos hc144])
        · refine own_go (fun _ kk => XS.ifNo X73.here hx rfl (hb hby at_144) rfl (XT.i0_eq_f hc144) (XS.iload X73.here hx rfl (hb hby at_147) rfl (XS.iload X73.here hx rfl (hb hby at_149) rfl kk))) ?_
          show own_Fin _ _ _ _ _ _ _ (T73.setTop (mkF m 151 #[.val (.int p0), .val (.int p1), .val (.int p2), .val (.int p3), .val (.int p4), .val (.int p5), .val (.int (2 : Int32)), .val (.int (4 : Int32)), .val (.int (16 : Int32)), .val (.int mm), .val (.int c1), .val (.int n1), .val (.int c2), .val (.int n2), .val (.int pr), .val (.ref b1), .unset, .unset, .unset] [(.int n2), (.int mm)]))
          by_cases hc151 : mm = n2
          · refine own_go (fun _ kk => XS.icmpNo X73.here hx rfl (hb hby at_151) rfl (XT.ii_ne_f hc151) (XS.iconst X73.here hx rfl (hb hby at_154) (XS.goto X73.here hx rfl (pc0 := 155) (pc' := 159) rfl (hb hby at_155) (by decide) (by decide) kk))) ?_
            show own_Fin _ _ _ _ _ _ _ (T73.setTop (mkF m 159 #[.val (.int p0), .val (.int p1), .val (.int p2), .val (.int p3), .val (.int p4), .val (.int p5), .val (.int (2 : Int32)), .val (.int (4 : Int32)), .val (.int (16 : Int32)), .val (.int mm), .val (.int c1), .val (.int n1), .val (.int c2), .val (.int n2), .val (.int pr), .val (.ref b1), .unset, .unset, .unset] [(.int (1 : Int32))]))
            exact J159 _ _ ((1 : Int32)) X73 N73 e73 (by rw [hjJ80, own_f0_80, if_pos hc125, if_neg hc144, if_pos hc151])
          · refine own_go (fun _ kk => XS.icmpYes X73.here hx rfl (pc0 := 151) (pc' := 158) rfl (hb hby at_151) rfl (XT.ii_ne_t hc151) (by decide) (by decide) (XS.iconst X73.here hx rfl (hb hby at_158) kk)) ?_
            show own_Fin _ _ _ _ _ _ _ (T73.setTop (mkF m 159 #[.val (.int p0), .val (.int p1), .val (.int p2), .val (.int p3), .val (.int p4), .val (.int p5), .val (.int (2 : Int32)), .val (.int (4 : Int32)), .val (.int (16 : Int32)), .val (.int mm), .val (.int c1), .val (.int n1), .val (.int c2), .val (.int n2), .val (.int pr), .val (.ref b1), .unset, .unset, .unset] [(.int (0 : Int32))]))
            exact J159 _ _ ((0 : Int32)) X73 N73 e73 (by rw [hjJ80, own_f0_80, if_pos hc125, if_neg hc144, if_neg hc151])
      · refine own_go (fun _ kk => XS.ifNo X63.here hx rfl (hb hby at_125) rfl (XT.i0_eq_f hc125) (XS.iload X63.here hx rfl (hb hby at_128) rfl (XS.iload X63.here hx rfl (hb hby at_130) rfl kk))) ?_
        show own_Fin _ _ _ _ _ _ _ (T63.setTop (mkF m 132 #[.val (.int p0), .val (.int p1), .val (.int p2), .val (.int p3), .val (.int p4), .val (.int p5), .val (.int (2 : Int32)), .val (.int (4 : Int32)), .val (.int (16 : Int32)), .val (.int mm), .val (.int c1), .val (.int n1), .val (.int c2), .val (.int n2), .val (.int pr), .val (.ref b1), .unset, .unset, .unset] [(.int n1), (.int mm)]))
        by_cases hc132 : mm = n1
        · refine own_go (fun _ kk => XS.icmpYes X63.here hx rfl (pc0 := 132) (pc' := 154) rfl (hb hby at_132) rfl (XT.ii_eq_t hc132) (by decide) (by decide) (XS.iconst X63.here hx rfl (hb hby at_154) (XS.goto X63.here hx rfl (pc0 := 155) (pc' := 159) rfl (hb hby at_155) (by decide) (by decide) kk))) ?_
          show own_Fin _ _ _ _ _ _ _ (T63.setTop (mkF m 159 #[.val (.int p0), .val (.int p1), .val (.int p2), .val (.int p3), .val (.int p4), .val (.int p5), .val (.int (2 : Int32)), .val (.int (4 : Int32)), .val (.int (16 : Int32)), .val (.int mm), .val (.int c1), .val (.int n1), .val (.int c2), .val (.int n2), .val (.int pr), .val (.ref b1), .unset, .unset, .unset] [(.int (1 : Int32))]))
          exact J159 _ _ ((1 : Int32)) X63 N63 e63 (by rw [hjJ80, own_f0_80, if_neg hc125, if_pos hc132])
        · refine own_go (fun _ kk => XS.icmpNo X63.here hx rfl (hb hby at_132) rfl (XT.ii_eq_f hc132) (XS.iload X63.here hx rfl (hb hby at_135) rfl (XS.iload X63.here hx rfl (hb hby at_137) rfl (XS.iload X63.here hx rfl (hb hby at_139) rfl kk)))) ?_
          show own_Fin _ _ _ _ _ _ _ (T63.setTop (mkF m 141 #[.val (.int p0), .val (.int p1), .val (.int p2), .val (.int p3), .val (.int p4), .val (.int p5), .val (.int (2 : Int32)), .val (.int (4 : Int32)), .val (.int (16 : Int32)), .val (.int mm), .val (.int c1), .val (.int n1), .val (.int c2), .val (.int n2), .val (.int pr), .val (.ref b1), .unset, .unset, .unset] [(.int (4 : Int32)), (.int c2), (.int pr)]))
          refine own_callS X63 hx hZ hown (hw _ (List.mem_of_getElem? (i := 78) rfl)) (hw _ (List.mem_of_getElem? (i := 79) rfl)) (hw _ (List.mem_of_getElem? (i := 80) rfl)) (hw _ (List.mem_of_getElem? (i := 81) rfl)) (by decide) (rm10 l Z a0 hw pr c2 (4 : Int32) T46.heap n0 Z46 (by decide)) e63 (argsL := [(.int pr), (.int c2), (.int (4 : Int32))]) (rest := []) rfl rfl (by rw [hml]; rfl) (lenOf pd_0_3 rfl) (hb hby at_141) (W := 0) (Nat.le_of_eq rfl) (by decide) (by decide) (by decide) (by decide) ?_
          rintro v74 T74 L74 X74 ⟨rfl, M74, e74⟩
          have N74 := Fr.app N63 M74
          show own_Fin _ _ _ _ _ _ _ (T74.setTop (mkF m 144 #[.val (.int p0), .val (.int p1), .val (.int p2), .val (.int p3), .val (.int p4), .val (.int p5), .val (.int (2 : Int32)), .val (.int (4 : Int32)), .val (.int (16 : Int32)), .val (.int mm), .val (.int c1), .val (.int n1), .val (.int c2), .val (.int n2), .val (.int pr), .val (.ref b1), .unset, .unset, .unset] [(.int (own_f10 pr c2 (4 : Int32)))]))
          by_cases hc144 : (own_f10 pr c2 (4 : Int32)) = 0
          · refine own_go (fun _ kk => XS.ifYes X74.here hx rfl (pc0 := 144) (pc' := 158) rfl (hb hby at_144) rfl (XT.i0_eq_t hc144) (by decide) (by decide) (XS.iconst X74.here hx rfl (hb hby at_158) kk)) ?_
            show own_Fin _ _ _ _ _ _ _ (T74.setTop (mkF m 159 #[.val (.int p0), .val (.int p1), .val (.int p2), .val (.int p3), .val (.int p4), .val (.int p5), .val (.int (2 : Int32)), .val (.int (4 : Int32)), .val (.int (16 : Int32)), .val (.int mm), .val (.int c1), .val (.int n1), .val (.int c2), .val (.int n2), .val (.int pr), .val (.ref b1), .unset, .unset, .unset] [(.int (0 : Int32))]))
            exact J159 _ _ ((0 : Int32)) X74 N74 e74 (by rw [hjJ80, own_f0_80, if_neg hc125, if_neg hc132, if_pos hc144])
          · refine own_go (fun _ kk => XS.ifNo X74.here hx rfl (hb hby at_144) rfl (XT.i0_eq_f hc144) (XS.iload X74.here hx rfl (hb hby at_147) rfl (XS.iload X74.here hx rfl (hb hby at_149) rfl kk))) ?_
            show own_Fin _ _ _ _ _ _ _ (T74.setTop (mkF m 151 #[.val (.int p0), .val (.int p1), .val (.int p2), .val (.int p3), .val (.int p4), .val (.int p5), .val (.int (2 : Int32)), .val (.int (4 : Int32)), .val (.int (16 : Int32)), .val (.int mm), .val (.int c1), .val (.int n1), .val (.int c2), .val (.int n2), .val (.int pr), .val (.ref b1), .unset, .unset, .unset] [(.int n2), (.int mm)]))
            by_cases hc151 : mm = n2
            · refine own_go (fun _ kk => XS.icmpNo X74.here hx rfl (hb hby at_151) rfl (XT.ii_ne_f hc151) (XS.iconst X74.here hx rfl (hb hby at_154) (XS.goto X74.here hx rfl (pc0 := 155) (pc' := 159) rfl (hb hby at_155) (by decide) (by decide) kk))) ?_
              show own_Fin _ _ _ _ _ _ _ (T74.setTop (mkF m 159 #[.val (.int p0), .val (.int p1), .val (.int p2), .val (.int p3), .val (.int p4), .val (.int p5), .val (.int (2 : Int32)), .val (.int (4 : Int32)), .val (.int (16 : Int32)), .val (.int mm), .val (.int c1), .val (.int n1), .val (.int c2), .val (.int n2), .val (.int pr), .val (.ref b1), .unset, .unset, .unset] [(.int (1 : Int32))]))
              exact J159 _ _ ((1 : Int32)) X74 N74 e74 (by rw [hjJ80, own_f0_80, if_neg hc125, if_neg hc132, if_neg hc144, if_pos hc151])
            · refine own_go (fun _ kk => XS.icmpYes X74.here hx rfl (pc0 := 151) (pc' := 158) rfl (hb hby at_151) rfl (XT.ii_ne_t hc151) (by decide) (by decide) (XS.iconst X74.here hx rfl (hb hby at_158) kk)) ?_
              show own_Fin _ _ _ _ _ _ _ (T74.setTop (mkF m 159 #[.val (.int p0), .val (.int p1), .val (.int p2), .val (.int p3), .val (.int p4), .val (.int p5), .val (.int (2 : Int32)), .val (.int (4 : Int32)), .val (.int (16 : Int32)), .val (.int mm), .val (.int c1), .val (.int n1), .val (.int c2), .val (.int n2), .val (.int pr), .val (.ref b1), .unset, .unset, .unset] [(.int (0 : Int32))]))
              exact J159 _ _ ((0 : Int32)) X74 N74 e74 (by rw [hjJ80, own_f0_80, if_neg hc125, if_neg hc132, if_neg hc144, if_neg hc151])
    refine own_go (fun _ kk => XS.iloadN X0.here hx rfl (hb hby at_21) rfl (XS.iconst X0.here hx rfl (hb hby at_22) (XS.iushr X0.here hx rfl (hb hby at_23) rfl (XS.bipush X0.here hx rfl (hb hby at_24) (XS.iand X0.here hx rfl (hb hby at_26) rfl (XS.istore X0.here hx rfl (hb hby at_27) rfl (l' := #[.val (.int p0), .val (.int p1), .val (.int p2), .val (.int p3), .val (.int p4), .val (.int p5), .val (.int (2 : Int32)), .val (.int (4 : Int32)), .val (.int (16 : Int32)), .val (.int (((p0.toUInt32 >>> ((1 : Int32) &&& 31).toUInt32).toInt32) &&& (63 : Int32))), .unset, .unset, .unset, .unset, .unset, .unset, .unset, .unset, .unset]) rfl (XS.iloadN X0.here hx rfl (hb hby at_29) rfl (X0.ldcI hx hown (mvT hZ (hw _ (List.mem_of_getElem? (i := 0) rfl))) rfl (hb hby at_30) (XS.iand X0.here hx rfl (hb hby at_32) rfl (XS.iload X0.here hx rfl (hb hby at_33) rfl kk)))))))))) ?_
    show own_Fin _ _ _ _ _ _ _ (s₁.setTop (mkF m 35 #[.val (.int p0), .val (.int p1), .val (.int p2), .val (.int p3), .val (.int p4), .val (.int p5), .val (.int (2 : Int32)), .val (.int (4 : Int32)), .val (.int (16 : Int32)), .val (.int (((p0.toUInt32 >>> ((1 : Int32) &&& 31).toUInt32).toInt32) &&& (63 : Int32))), .unset, .unset, .unset, .unset, .unset, .unset, .unset, .unset, .unset] [(.int (16 : Int32)), (.int (p1 &&& (2147483647 : Int32)))]))
    refine own_go (fun _ kk => iremM X0 hx rfl (hb hby at_35) rfl (by decide) (XS.istore X0.here hx rfl (hb hby at_36) rfl (l' := #[.val (.int p0), .val (.int p1), .val (.int p2), .val (.int p3), .val (.int p4), .val (.int p5), .val (.int (2 : Int32)), .val (.int (4 : Int32)), .val (.int (16 : Int32)), .val (.int (((p0.toUInt32 >>> ((1 : Int32) &&& 31).toUInt32).toInt32) &&& (63 : Int32))), .val (.int ((p1 &&& (2147483647 : Int32)) % (16 : Int32))), .unset, .unset, .unset, .unset, .unset, .unset, .unset, .unset]) rfl (XS.iconst X0.here hx rfl (hb hby at_38) (XS.iloadN X0.here hx rfl (hb hby at_39) rfl (X0.ldcI hx hown (mvT hZ (hw _ (List.mem_of_getElem? (i := 0) rfl))) rfl (hb hby at_40) (XS.iand X0.here hx rfl (hb hby at_42) rfl (XS.iload X0.here hx rfl (hb hby at_43) rfl (iremM X0 hx rfl (hb hby at_45) rfl (by decide) (XS.iadd X0.here hx rfl (hb hby at_46) rfl (XS.istore X0.here hx rfl (hb hby at_47) rfl (l' := #[.val (.int p0), .val (.int p1), .val (.int p2), .val (.int p3), .val (.int p4), .val (.int p5), .val (.int (2 : Int32)), .val (.int (4 : Int32)), .val (.int (16 : Int32)), .val (.int (((p0.toUInt32 >>> ((1 : Int32) &&& 31).toUInt32).toInt32) &&& (63 : Int32))), .val (.int ((p1 &&& (2147483647 : Int32)) % (16 : Int32))), .val (.int ((1 : Int32) + ((p2 &&& (2147483647 : Int32)) % (4 : Int32)))), .unset, .unset, .unset, .unset, .unset, .unset, .unset]) rfl kk)))))))))) ?_
    show own_Fin _ _ _ _ _ _ _ (s₁.setTop (mkF m 49 #[.val (.int p0), .val (.int p1), .val (.int p2), .val (.int p3), .val (.int p4), .val (.int p5), .val (.int (2 : Int32)), .val (.int (4 : Int32)), .val (.int (16 : Int32)), .val (.int (((p0.toUInt32 >>> ((1 : Int32) &&& 31).toUInt32).toInt32) &&& (63 : Int32))), .val (.int ((p1 &&& (2147483647 : Int32)) % (16 : Int32))), .val (.int ((1 : Int32) + ((p2 &&& (2147483647 : Int32)) % (4 : Int32)))), .unset, .unset, .unset, .unset, .unset, .unset, .unset] []))
    refine own_go (fun _ kk => XS.iloadN X0.here hx rfl (hb hby at_49) rfl (X0.ldcI hx hown (mvT hZ (hw _ (List.mem_of_getElem? (i := 0) rfl))) rfl (hb hby at_50) (XS.iand X0.here hx rfl (hb hby at_52) rfl (XS.iload X0.here hx rfl (hb hby at_53) rfl (iremM X0 hx rfl (hb hby at_55) rfl (by decide) (XS.istore X0.here hx rfl (hb hby at_56) rfl (l' := #[.val (.int p0), .val (.int p1), .val (.int p2), .val (.int p3), .val (.int p4), .val (.int p5), .val (.int (2 : Int32)), .val (.int (4 : Int32)), .val (.int (16 : Int32)), .val (.int (((p0.toUInt32 >>> ((1 : Int32) &&& 31).toUInt32).toInt32) &&& (63 : Int32))), .val (.int ((p1 &&& (2147483647 : Int32)) % (16 : Int32))), .val (.int ((1 : Int32) + ((p2 &&& (2147483647 : Int32)) % (4 : Int32)))), .val (.int ((p3 &&& (2147483647 : Int32)) % (16 : Int32))), .unset, .unset, .unset, .unset, .unset, .unset]) rfl (XS.iconst X0.here hx rfl (hb hby at_58) (XS.iload X0.here hx rfl (hb hby at_59) rfl (X0.ldcI hx hown (mvT hZ (hw _ (List.mem_of_getElem? (i := 0) rfl))) rfl (hb hby at_61) (XS.iand X0.here hx rfl (hb hby at_63) rfl kk)))))))))) ?_
    show own_Fin _ _ _ _ _ _ _ (s₁.setTop (mkF m 64 #[.val (.int p0), .val (.int p1), .val (.int p2), .val (.int p3), .val (.int p4), .val (.int p5), .val (.int (2 : Int32)), .val (.int (4 : Int32)), .val (.int (16 : Int32)), .val (.int (((p0.toUInt32 >>> ((1 : Int32) &&& 31).toUInt32).toInt32) &&& (63 : Int32))), .val (.int ((p1 &&& (2147483647 : Int32)) % (16 : Int32))), .val (.int ((1 : Int32) + ((p2 &&& (2147483647 : Int32)) % (4 : Int32)))), .val (.int ((p3 &&& (2147483647 : Int32)) % (16 : Int32))), .unset, .unset, .unset, .unset, .unset, .unset] [(.int (p4 &&& (2147483647 : Int32))), (.int (1 : Int32))]))
    refine own_go (fun _ kk => XS.iload X0.here hx rfl (hb hby at_64) rfl (iremM X0 hx rfl (hb hby at_66) rfl (by decide) (XS.iadd X0.here hx rfl (hb hby at_67) rfl (XS.istore X0.here hx rfl (hb hby at_68) rfl (l' := #[.val (.int p0), .val (.int p1), .val (.int p2), .val (.int p3), .val (.int p4), .val (.int p5), .val (.int (2 : Int32)), .val (.int (4 : Int32)), .val (.int (16 : Int32)), .val (.int (((p0.toUInt32 >>> ((1 : Int32) &&& 31).toUInt32).toInt32) &&& (63 : Int32))), .val (.int ((p1 &&& (2147483647 : Int32)) % (16 : Int32))), .val (.int ((1 : Int32) + ((p2 &&& (2147483647 : Int32)) % (4 : Int32)))), .val (.int ((p3 &&& (2147483647 : Int32)) % (16 : Int32))), .val (.int ((1 : Int32) + ((p4 &&& (2147483647 : Int32)) % (4 : Int32)))), .unset, .unset, .unset, .unset, .unset]) rfl (XS.iload X0.here hx rfl (hb hby at_70) rfl (X0.ldcI hx hown (mvT hZ (hw _ (List.mem_of_getElem? (i := 0) rfl))) rfl (hb hby at_72) (XS.iand X0.here hx rfl (hb hby at_74) rfl (XS.iload X0.here hx rfl (hb hby at_75) rfl (iremM X0 hx rfl (hb hby at_77) rfl (by decide) (XS.istore X0.here hx rfl (hb hby at_78) rfl (l' := #[.val (.int p0), .val (.int p1), .val (.int p2), .val (.int p3), .val (.int p4), .val (.int p5), .val (.int (2 : Int32)), .val (.int (4 : Int32)), .val (.int (16 : Int32)), .val (.int (((p0.toUInt32 >>> ((1 : Int32) &&& 31).toUInt32).toInt32) &&& (63 : Int32))), .val (.int ((p1 &&& (2147483647 : Int32)) % (16 : Int32))), .val (.int ((1 : Int32) + ((p2 &&& (2147483647 : Int32)) % (4 : Int32)))), .val (.int ((p3 &&& (2147483647 : Int32)) % (16 : Int32))), .val (.int ((1 : Int32) + ((p4 &&& (2147483647 : Int32)) % (4 : Int32)))), .val (.int ((p5 &&& (2147483647 : Int32)) % (16 : Int32))), .unset, .unset, .unset, .unset]) rfl kk)))))))))) ?_
    show own_Fin _ _ _ _ _ _ _ (s₁.setTop (mkF m 80 #[.val (.int p0), .val (.int p1), .val (.int p2), .val (.int p3), .val (.int p4), .val (.int p5), .val (.int (2 : Int32)), .val (.int (4 : Int32)), .val (.int (16 : Int32)), .val (.int (((p0.toUInt32 >>> ((1 : Int32) &&& 31).toUInt32).toInt32) &&& (63 : Int32))), .val (.int ((p1 &&& (2147483647 : Int32)) % (16 : Int32))), .val (.int ((1 : Int32) + ((p2 &&& (2147483647 : Int32)) % (4 : Int32)))), .val (.int ((p3 &&& (2147483647 : Int32)) % (16 : Int32))), .val (.int ((1 : Int32) + ((p4 &&& (2147483647 : Int32)) % (4 : Int32)))), .val (.int ((p5 &&& (2147483647 : Int32)) % (16 : Int32))), .unset, .unset, .unset, .unset] []))
    exact J80 _ _ ((((p0.toUInt32 >>> ((1 : Int32) &&& 31).toUInt32).toInt32) &&& (63 : Int32))) (((p1 &&& (2147483647 : Int32)) % (16 : Int32))) (((1 : Int32) + ((p2 &&& (2147483647 : Int32)) % (4 : Int32)))) (((p3 &&& (2147483647 : Int32)) % (16 : Int32))) (((1 : Int32) + ((p4 &&& (2147483647 : Int32)) % (4 : Int32)))) (((p5 &&& (2147483647 : Int32)) % (16 : Int32))) X0 N0 e0 (by rw [own_f0, if_pos hbs]) (own_cl _ (16 : Int32) 16 (by decide) (by decide)) (own_cl _ (16 : Int32) 16 (by decide) (by decide)) (own_cl _ (16 : Int32) 16 (by decide) (by decide))
  · rw [(and_one p0).resolve_left hbs]
    show own_Fin _ _ _ _ _ _ _ (s₁.setTop (mkF m 5 #[.val (.int p0), .val (.int p1), .val (.int p2), .val (.int p3), .val (.int p4), .val (.int p5), .unset, .unset, .unset, .unset, .unset, .unset, .unset, .unset, .unset, .unset, .unset, .unset, .unset] [(.int (3 : Int32))]))
    refine own_go (fun _ kk => XS.istore X0.here hx rfl (hb hby at_5) rfl (l' := #[.val (.int p0), .val (.int p1), .val (.int p2), .val (.int p3), .val (.int p4), .val (.int p5), .val (.int (3 : Int32)), .unset, .unset, .unset, .unset, .unset, .unset, .unset, .unset, .unset, .unset, .unset, .unset]) rfl (XS.iload X0.here hx rfl (hb hby at_7) rfl (XS.iload X0.here hx rfl (hb hby at_9) rfl (XS.imul X0.here hx rfl (hb hby at_11) rfl (XS.istore X0.here hx rfl (hb hby at_12) rfl (l' := #[.val (.int p0), .val (.int p1), .val (.int p2), .val (.int p3), .val (.int p4), .val (.int p5), .val (.int (3 : Int32)), .val (.int (9 : Int32)), .unset, .unset, .unset, .unset, .unset, .unset, .unset, .unset, .unset, .unset, .unset]) rfl (XS.iload X0.here hx rfl (hb hby at_14) rfl (XS.iload X0.here hx rfl (hb hby at_16) rfl (XS.imul X0.here hx rfl (hb hby at_18) rfl (XS.istore X0.here hx rfl (hb hby at_19) rfl (l' := #[.val (.int p0), .val (.int p1), .val (.int p2), .val (.int p3), .val (.int p4), .val (.int p5), .val (.int (3 : Int32)), .val (.int (9 : Int32)), .val (.int (81 : Int32)), .unset, .unset, .unset, .unset, .unset, .unset, .unset, .unset, .unset, .unset]) rfl kk))))))))) ?_
    show own_Fin _ _ _ _ _ _ _ (s₁.setTop (mkF m 21 #[.val (.int p0), .val (.int p1), .val (.int p2), .val (.int p3), .val (.int p4), .val (.int p5), .val (.int (3 : Int32)), .val (.int (9 : Int32)), .val (.int (81 : Int32)), .unset, .unset, .unset, .unset, .unset, .unset, .unset, .unset, .unset, .unset] []))
    have J80 : ∀ (TJ80 : State) (locsJ80 : List Loc) (mm : Int32) (c1 : Int32) (n1 : Int32) (c2 : Int32) (n2 : Int32) (pr : Int32), Stand p l e room_1 s m #[(.int p0), (.int p1), (.int p2), (.int p3), (.int p4), (.int p5)] below meth c TJ80 locsJ80 0 0 → Fr n0 locsJ80 → TJ80.heap = h0 → (own_f0 p0 p1 p2 p3 p4 p5) = own_f0_80_1 p0 p1 p2 p3 p4 p5 mm c1 n1 c2 n2 pr → (¬ c1 < 0 ∧ c1.toNatClampNeg < 81) → (¬ c2 < 0 ∧ c2.toNatClampNeg < 81) → (¬ pr < 0 ∧ pr.toNatClampNeg < 81) → own_Fin p e below s (own_Q0 (some (.int (own_f0 p0 p1 p2 p3 p4 p5))) n0) room_1.cells room_1.slots (TJ80.setTop (mkF m 80 #[.val (.int p0), .val (.int p1), .val (.int p2), .val (.int p3), .val (.int p4), .val (.int p5), .val (.int (3 : Int32)), .val (.int (9 : Int32)), .val (.int (81 : Int32)), .val (.int mm), .val (.int c1), .val (.int n1), .val (.int c2), .val (.int n2), .val (.int pr), .unset, .unset, .unset, .unset] [])) := by
      intro TJ80 locsJ80 mm c1 n1 c2 n2 pr XJ80 NJ80 eJ80 hjJ80 h_c1 h_c2 h_pr
      refine own_new XJ80 hx hZ hown (hw _ (List.mem_of_getElem? (i := 1) rfl)) (hw _ (List.mem_of_getElem? (i := 2) rfl)) (hw _ (List.mem_of_getElem? (i := 3) rfl)) eJ80 (hb hby at_80) (by decide) (by decide) ?_
      intro T75 h75 b75 g75 X75 e75 E75 A75 D75
      have g_b75 : n0 ≤ b75 := Nat.le_trans Z0 (Nat.le_of_eq g75.symm)
      have Z75 := Nat.le_trans Z0 E75.1
      have F75_rowOf : Fld Z h75 b75 "com/example/onda/onda/sudoku/Units" "rowOf" "[I" .null := D75 (Or.inr (hw _ (List.mem_of_getElem? (i := 42) rfl))) (ty := (.array .int)) (by decide)
      have F75_columnOf : Fld Z h75 b75 "com/example/onda/onda/sudoku/Units" "columnOf" "[I" .null := D75 (Or.inr (hw _ (List.mem_of_getElem? (i := 49) rfl))) (ty := (.array .int)) (by decide)
      have F75_boxOf : Fld Z h75 b75 "com/example/onda/onda/sudoku/Units" "boxOf" "[I" .null := D75 (Or.inr (hw _ (List.mem_of_getElem? (i := 56) rfl))) (ty := (.array .int)) (by decide)
      have F75_numbers : Fld Z h75 b75 "com/example/onda/onda/sudoku/Units" "numbers" "J" (.long (0 : Int64)) := D75 (Or.inr (hw _ (List.mem_of_getElem? (i := 64) rfl))) (ty := .long) (by decide)
      have F75_held : Fld Z h75 b75 "com/example/onda/onda/sudoku/Units" "held" "[J" .null := D75 (Or.inr (hw _ (List.mem_of_getElem? (i := 72) rfl))) (ty := (.array .long)) (by decide)
      show own_Fin _ _ _ _ _ _ _ (T75.setTop (mkF m 83 #[.val (.int p0), .val (.int p1), .val (.int p2), .val (.int p3), .val (.int p4), .val (.int p5), .val (.int (3 : Int32)), .val (.int (9 : Int32)), .val (.int (81 : Int32)), .val (.int mm), .val (.int c1), .val (.int n1), .val (.int c2), .val (.int n2), .val (.int pr), .unset, .unset, .unset, .unset] [(.ref b75)]))
      refine own_go (fun _ kk => XS.dup X75.here hx rfl (hb hby at_83) rfl rfl kk) ?_
      show own_Fin _ _ _ _ _ _ _ (T75.setTop (mkF m 84 #[.val (.int p0), .val (.int p1), .val (.int p2), .val (.int p3), .val (.int p4), .val (.int p5), .val (.int (3 : Int32)), .val (.int (9 : Int32)), .val (.int (81 : Int32)), .val (.int mm), .val (.int c1), .val (.int n1), .val (.int c2), .val (.int n2), .val (.int pr), .unset, .unset, .unset, .unset] [(.ref b75), (.ref b75)]))
      refine own_new X75 hx hZ hown (hw _ (List.mem_of_getElem? (i := 4) rfl)) (hw _ (List.mem_of_getElem? (i := 5) rfl)) (hw _ (List.mem_of_getElem? (i := 6) rfl)) e75 (hb hby at_84) (by decide) (by decide) ?_
      intro T76 h76 b76 g76 X76 e76 E76 A76 D76
      have g_b76 : n0 ≤ b76 := Nat.le_trans Z75 (Nat.le_of_eq g76.symm)
      have ne_b75_b76 : b75 ≠ b76 := Nat.ne_of_lt (Nat.lt_of_lt_of_le A75.lt (Nat.le_of_eq g76.symm))
      have f77 := A75.ext E76
      have f78 := F75_rowOf.ext E76
      have f79 := F75_columnOf.ext E76
      have f80 := F75_boxOf.ext E76
      have f81 := F75_numbers.ext E76
      have f82 := F75_held.ext E76
      have Z76 := Nat.le_trans Z75 E76.1
      have F76_size : Fld Z h76 b76 "com/example/onda/onda/sudoku/Geometry" "size" "I" (.int (0 : Int32)) := D76 (Or.inr (hw _ (List.mem_of_getElem? (i := 14) rfl))) (ty := .int) (by decide)
      have F76_rowOf : Fld Z h76 b76 "com/example/onda/onda/sudoku/Geometry" "rowOf" "[I" .null := D76 (Or.inr (hw _ (List.mem_of_getElem? (i := 17) rfl))) (ty := (.array .int)) (by decide)
      have F76_columnOf : Fld Z h76 b76 "com/example/onda/onda/sudoku/Geometry" "columnOf" "[I" .null := D76 (Or.inr (hw _ (List.mem_of_getElem? (i := 19) rfl))) (ty := (.array .int)) (by decide)
      have F76_boxOf : Fld Z h76 b76 "com/example/onda/onda/sudoku/Geometry" "boxOf" "[I" .null := D76 (Or.inr (hw _ (List.mem_of_getElem? (i := 21) rfl))) (ty := (.array .int)) (by decide)
      have F76_cellsOf : Fld Z h76 b76 "com/example/onda/onda/sudoku/Geometry" "cellsOf" "[[I" .null := D76 (Or.inr (hw _ (List.mem_of_getElem? (i := 25) rfl))) (ty := (.array (.array .int))) (by decide)
      have F76_indexInRow : Fld Z h76 b76 "com/example/onda/onda/sudoku/Geometry" "indexInRow" "[I" .null := D76 (Or.inr (hw _ (List.mem_of_getElem? (i := 27) rfl))) (ty := (.array .int)) (by decide)
      have F76_indexInColumn : Fld Z h76 b76 "com/example/onda/onda/sudoku/Geometry" "indexInColumn" "[I" .null := D76 (Or.inr (hw _ (List.mem_of_getElem? (i := 29) rfl))) (ty := (.array .int)) (by decide)
      have F76_indexInBox : Fld Z h76 b76 "com/example/onda/onda/sudoku/Geometry" "indexInBox" "[I" .null := D76 (Or.inr (hw _ (List.mem_of_getElem? (i := 31) rfl))) (ty := (.array .int)) (by decide)
      show own_Fin _ _ _ _ _ _ _ (T76.setTop (mkF m 87 #[.val (.int p0), .val (.int p1), .val (.int p2), .val (.int p3), .val (.int p4), .val (.int p5), .val (.int (3 : Int32)), .val (.int (9 : Int32)), .val (.int (81 : Int32)), .val (.int mm), .val (.int c1), .val (.int n1), .val (.int c2), .val (.int n2), .val (.int pr), .unset, .unset, .unset, .unset] [(.ref b76), (.ref b75), (.ref b75)]))
      refine own_go (fun _ kk => XS.dup X76.here hx rfl (hb hby at_87) rfl rfl (XS.iload X76.here hx rfl (hb hby at_88) rfl kk)) ?_
      show own_Fin _ _ _ _ _ _ _ (T76.setTop (mkF m 90 #[.val (.int p0), .val (.int p1), .val (.int p2), .val (.int p3), .val (.int p4), .val (.int p5), .val (.int (3 : Int32)), .val (.int (9 : Int32)), .val (.int (81 : Int32)), .val (.int mm), .val (.int c1), .val (.int n1), .val (.int c2), .val (.int n2), .val (.int pr), .unset, .unset, .unset, .unset] [(.int (3 : Int32)), (.ref b76), (.ref b76), (.ref b75), (.ref b75)]))
      refine own_callN X76 hx hZ rfl hown (hw _ (List.mem_of_getElem? (i := 7) rfl)) (hw _ (List.mem_of_getElem? (i := 8) rfl)) (hw _ (List.mem_of_getElem? (i := 6) rfl)) (hw _ (List.mem_of_getElem? (i := 9) rfl)) (by decide) (rm1g3 l Z a0 hw b76 h76 n0 Z76 A76 F76_size F76_rowOf F76_columnOf F76_boxOf F76_cellsOf F76_indexInRow F76_indexInColumn F76_indexInBox g_b76) e76 (a := b76) (argsL := [(.int (3 : Int32))]) (rest := [(.ref b76), (.ref b75), (.ref b75)]) rfl rfl (by rw [hml]; rfl) (lenOf pd_0_0 rfl) (hb hby at_90) (W := 3) (Nat.le_of_eq rfl) (by decide) (by decide) (by decide) (by decide) ?_
      rintro v83 T83 L83 X83 ⟨rfl, M83, Kc83, bR, bC, bB, gg, szbR, szbC, szbB, szgg, Gs83, Gr83, Gc83, Gb83, Gg83, VR83, VC83, VB83, VG83⟩
      have N83 := Fr.app NJ80 M83
      have ne_b75_bR : b75 ≠ bR := Nat.ne_of_lt (Nat.lt_of_lt_of_le f77.lt szbR)
      have ne_b75_bC : b75 ≠ bC := Nat.ne_of_lt (Nat.lt_of_lt_of_le f77.lt szbC)
      have ne_b75_bB : b75 ≠ bB := Nat.ne_of_lt (Nat.lt_of_lt_of_le f77.lt szbB)
      have ne_b75_gg : b75 ≠ gg := Nat.ne_of_lt (Nat.lt_of_lt_of_le f77.lt szgg)
      have ne_b76_bR : b76 ≠ bR := Nat.ne_of_lt (Nat.lt_of_lt_of_le A76.lt szbR)
      have ne_b76_bC : b76 ≠ bC := Nat.ne_of_lt (Nat.lt_of_lt_of_le A76.lt szbC)
      have ne_b76_bB : b76 ≠ bB := Nat.ne_of_lt (Nat.lt_of_lt_of_le A76.lt szbB)
      have ne_b76_gg : b76 ≠ gg := Nat.ne_of_lt (Nat.lt_of_lt_of_le A76.lt szgg)
      have f84 := f77.keep Kc83
      have f85 := f78.keep Kc83 (ninS ne_b75_b76 nin0)
      have f86 := f79.keep Kc83 (ninS ne_b75_b76 nin0)
      have f87 := f80.keep Kc83 (ninS ne_b75_b76 nin0)
      have f88 := f81.keep Kc83 (ninS ne_b75_b76 nin0)
      have f89 := f82.keep Kc83 (ninS ne_b75_b76 nin0)
      have f90 := A76.keep Kc83
      have Z83 := Nat.le_trans Z76 Kc83.1
      show own_Fin _ _ _ _ _ _ _ (T83.setTop (mkF m 93 #[.val (.int p0), .val (.int p1), .val (.int p2), .val (.int p3), .val (.int p4), .val (.int p5), .val (.int (3 : Int32)), .val (.int (9 : Int32)), .val (.int (81 : Int32)), .val (.int mm), .val (.int c1), .val (.int n1), .val (.int c2), .val (.int n2), .val (.int pr), .unset, .unset, .unset, .unset] [(.ref b76), (.ref b75), (.ref b75)]))
      refine own_callN X83 hx hZ rfl hown (hw _ (List.mem_of_getElem? (i := 32) rfl)) (hw _ (List.mem_of_getElem? (i := 33) rfl)) (hw _ (List.mem_of_getElem? (i := 3) rfl)) (hw _ (List.mem_of_getElem? (i := 34) rfl)) (by decide) (rm3g3 l Z a0 hw b75 b76 T83.heap n0 Z83 f84 f85 f86 f87 f88 f89 g_b75 bR bC bB gg f90 Gs83 Gr83 Gc83 Gb83 Gg83 VR83 VC83 VB83 VG83 ne_b75_b76 ne_b75_bR ne_b75_bC ne_b75_bB ne_b75_gg) rfl (a := b75) (argsL := [(.ref b76)]) (rest := [(.ref b75)]) rfl rfl (by rw [hml]; rfl) (lenOf pd_0_1 rfl) (hb hby at_93) (W := 1) (Nat.le_of_eq rfl) (by decide) (by decide) (by decide) (by decide) ?_
      rintro v91 T91 L91 X91 ⟨rfl, M91, Kc91, hd, sz91, Ur91, Uc91, Ub91, Un91, Uh91, VH91⟩
      have N91 := Fr.app N83 M91
      have g_hd : n0 ≤ hd := Nat.le_trans Z83 sz91
      have ne_b75_hd : b75 ≠ hd := Nat.ne_of_lt (Nat.lt_of_lt_of_le f84.lt sz91)
      have ne_b76_hd : b76 ≠ hd := Nat.ne_of_lt (Nat.lt_of_lt_of_le f90.lt sz91)
      have ne_bR_hd : bR ≠ hd := Nat.ne_of_lt (Nat.lt_of_lt_of_le VR83.lt sz91)
      have ne_bC_hd : bC ≠ hd := Nat.ne_of_lt (Nat.lt_of_lt_of_le VC83.lt sz91)
      have ne_bB_hd : bB ≠ hd := Nat.ne_of_lt (Nat.lt_of_lt_of_le VB83.lt sz91)
      have ne_gg_hd : gg ≠ hd := Nat.ne_of_lt (Nat.lt_of_lt_of_le VG83.lt sz91)
      have f92 := f84.keep Kc91
      have f93 := f90.keep Kc91
      have f94 := Gs83.keep Kc91 (ninS (Ne.symm ne_b75_b76) nin0)
      have f95 := Gr83.keep Kc91 (ninS (Ne.symm ne_b75_b76) nin0)
      have f96 := Gc83.keep Kc91 (ninS (Ne.symm ne_b75_b76) nin0)
      have f97 := Gb83.keep Kc91 (ninS (Ne.symm ne_b75_b76) nin0)
      have f98 := Gg83.keep Kc91 (ninS (Ne.symm ne_b75_b76) nin0)
      have f99 := VR83.keep Kc91 (ninS (Ne.symm ne_b75_bR) nin0)
      have f100 := VC83.keep Kc91 (ninS (Ne.symm ne_b75_bC) nin0)
      have f101 := VB83.keep Kc91 (ninS (Ne.symm ne_b75_bB) nin0)
      have f102 := VG83.keep Kc91 (ninS (Ne.symm ne_b75_gg) nin0)
      have Z91 := Nat.le_trans Z83 Kc91.1
      have hl0 : (List.replicate 27 (0 : Int64)).length = 27 := List.length_replicate
      show own_Fin _ _ _ _ _ _ _ (T91.setTop (mkF m 96 #[.val (.int p0), .val (.int p1), .val (.int p2), .val (.int p3), .val (.int p4), .val (.int p5), .val (.int (3 : Int32)), .val (.int (9 : Int32)), .val (.int (81 : Int32)), .val (.int mm), .val (.int c1), .val (.int n1), .val (.int c2), .val (.int n2), .val (.int pr), .unset, .unset, .unset, .unset] [(.ref b75)]))
      refine own_go (fun _ kk => XS.astore X91.here hx rfl (hb hby at_96) rfl rfl (l' := #[.val (.int p0), .val (.int p1), .val (.int p2), .val (.int p3), .val (.int p4), .val (.int p5), .val (.int (3 : Int32)), .val (.int (9 : Int32)), .val (.int (81 : Int32)), .val (.int mm), .val (.int c1), .val (.int n1), .val (.int c2), .val (.int n2), .val (.int pr), .val (.ref b75), .unset, .unset, .unset]) rfl (XS.aload X91.here hx rfl (hb hby at_98) rfl rfl (XS.iload X91.here hx rfl (hb hby at_100) rfl (XS.iload X91.here hx rfl (hb hby at_102) rfl kk)))) ?_
      show own_Fin _ _ _ _ _ _ _ (T91.setTop (mkF m 104 #[.val (.int p0), .val (.int p1), .val (.int p2), .val (.int p3), .val (.int p4), .val (.int p5), .val (.int (3 : Int32)), .val (.int (9 : Int32)), .val (.int (81 : Int32)), .val (.int mm), .val (.int c1), .val (.int n1), .val (.int c2), .val (.int n2), .val (.int pr), .val (.ref b75), .unset, .unset, .unset] [(.int n1), (.int c1), (.ref b75)]))
      refine own_callV X91 hx hZ hown (hw _ (List.mem_of_getElem? (i := 73) rfl)) (hw _ (List.mem_of_getElem? (i := 74) rfl)) (notFace_of_selects (args := #[]) (mvT hZ (hw _ (List.mem_of_getElem? (i := 76) rfl)))) (hw _ (List.mem_of_getElem? (i := 76) rfl)) (hw _ (List.mem_of_getElem? (i := 75) rfl)) (hw _ (List.mem_of_getElem? (i := 77) rfl)) (hw _ (List.mem_of_getElem? (i := 3) rfl)) (by decide) (rm9g3 l Z a0 hw b75 c1 n1 T91.heap n0 Z91 bR bC bB hd (List.replicate 27 (0 : Int64)) Ur91 Uc91 Ub91 Uh91 f99 f100 f101 VH91 hl0 ne_b75_hd ne_bR_hd ne_bC_hd ne_bB_hd g_hd h_c1.1 h_c1.2) rfl f92 (argsL := [(.int c1), (.int n1)]) (rest := []) rfl rfl (by rw [hml]; rfl) (lenOf pd_0_2 rfl) (hb hby at_104) (W := 0) (Nat.le_of_eq rfl) (by decide) (by decide) (by decide) (by decide) ?_
      rintro v103 T103 L103 X103 ⟨rfl, M103, Kc103, VH103⟩
      have N103 := Fr.app N91 M103
      have f104 := f92.keep Kc103
      have f105 := f93.keep Kc103
      have f106 := f94.keep Kc103 (ninS ne_b76_hd nin0)
      have f107 := f95.keep Kc103 (ninS ne_b76_hd nin0)
      have f108 := f96.keep Kc103 (ninS ne_b76_hd nin0)
      have f109 := f97.keep Kc103 (ninS ne_b76_hd nin0)
      have f110 := f98.keep Kc103 (ninS ne_b76_hd nin0)
      have f111 := f99.keep Kc103 (ninS ne_bR_hd nin0)
      have f112 := f100.keep Kc103 (ninS ne_bC_hd nin0)
      have f113 := f101.keep Kc103 (ninS ne_bB_hd nin0)
      have f114 := f102.keep Kc103 (ninS ne_gg_hd nin0)
      have f115 := Ur91.keep Kc103 (ninS ne_b75_hd nin0)
      have f116 := Uc91.keep Kc103 (ninS ne_b75_hd nin0)
      have f117 := Ub91.keep Kc103 (ninS ne_b75_hd nin0)
      have f118 := Un91.keep Kc103 (ninS ne_b75_hd nin0)
      have f119 := Uh91.keep Kc103 (ninS ne_b75_hd nin0)
      have Z103 := Nat.le_trans Z91 Kc103.1
      have hl103 : (own_pl3 (List.replicate 27 (0 : Int64)) c1 ((1 : Int64) <<< (n1 &&& 0x3f).toInt64)).length = 27 := (own_pllen3 _ _ _).trans hl0
      show own_Fin _ _ _ _ _ _ _ (T103.setTop (mkF m 107 #[.val (.int p0), .val (.int p1), .val (.int p2), .val (.int p3), .val (.int p4), .val (.int p5), .val (.int (3 : Int32)), .val (.int (9 : Int32)), .val (.int (81 : Int32)), .val (.int mm), .val (.int c1), .val (.int n1), .val (.int c2), .val (.int n2), .val (.int pr), .val (.ref b75), .unset, .unset, .unset] []))
      refine own_go (fun _ kk => XS.aload X103.here hx rfl (hb hby at_107) rfl rfl (XS.iload X103.here hx rfl (hb hby at_109) rfl (XS.iload X103.here hx rfl (hb hby at_111) rfl kk))) ?_
      show own_Fin _ _ _ _ _ _ _ (T103.setTop (mkF m 113 #[.val (.int p0), .val (.int p1), .val (.int p2), .val (.int p3), .val (.int p4), .val (.int p5), .val (.int (3 : Int32)), .val (.int (9 : Int32)), .val (.int (81 : Int32)), .val (.int mm), .val (.int c1), .val (.int n1), .val (.int c2), .val (.int n2), .val (.int pr), .val (.ref b75), .unset, .unset, .unset] [(.int n2), (.int c2), (.ref b75)]))
      refine own_callV X103 hx hZ hown (hw _ (List.mem_of_getElem? (i := 73) rfl)) (hw _ (List.mem_of_getElem? (i := 74) rfl)) (notFace_of_selects (args := #[]) (mvT hZ (hw _ (List.mem_of_getElem? (i := 76) rfl)))) (hw _ (List.mem_of_getElem? (i := 76) rfl)) (hw _ (List.mem_of_getElem? (i := 75) rfl)) (hw _ (List.mem_of_getElem? (i := 77) rfl)) (hw _ (List.mem_of_getElem? (i := 3) rfl)) (by decide) (rm9g3 l Z a0 hw b75 c2 n2 T103.heap n0 Z103 bR bC bB hd (own_pl3 (List.replicate 27 (0 : Int64)) c1 ((1 : Int64) <<< (n1 &&& 0x3f).toInt64)) f115 f116 f117 f119 f111 f112 f113 VH103 hl103 ne_b75_hd ne_bR_hd ne_bC_hd ne_bB_hd g_hd h_c2.1 h_c2.2) rfl f104 (argsL := [(.int c2), (.int n2)]) (rest := []) rfl rfl (by rw [hml]; rfl) (lenOf pd_0_2 rfl) (hb hby at_113) (W := 0) (Nat.le_of_eq rfl) (by decide) (by decide) (by decide) (by decide) ?_
      rintro v120 T120 L120 X120 ⟨rfl, M120, Kc120, VH120⟩
      have N120 := Fr.app N103 M120
      have f121 := f104.keep Kc120
      have f122 := f105.keep Kc120
      have f123 := f106.keep Kc120 (ninS ne_b76_hd nin0)
      have f124 := f107.keep Kc120 (ninS ne_b76_hd nin0)
      have f125 := f108.keep Kc120 (ninS ne_b76_hd nin0)
      have f126 := f109.keep Kc120 (ninS ne_b76_hd nin0)
      have f127 := f110.keep Kc120 (ninS ne_b76_hd nin0)
      have f128 := f111.keep Kc120 (ninS ne_bR_hd nin0)
      have f129 := f112.keep Kc120 (ninS ne_bC_hd nin0)
      have f130 := f113.keep Kc120 (ninS ne_bB_hd nin0)
      have f131 := f114.keep Kc120 (ninS ne_gg_hd nin0)
      have f132 := f115.keep Kc120 (ninS ne_b75_hd nin0)
      have f133 := f116.keep Kc120 (ninS ne_b75_hd nin0)
      have f134 := f117.keep Kc120 (ninS ne_b75_hd nin0)
      have f135 := f118.keep Kc120 (ninS ne_b75_hd nin0)
      have f136 := f119.keep Kc120 (ninS ne_b75_hd nin0)
      have Z120 := Nat.le_trans Z103 Kc120.1
      have hl120 : (own_pl3 (own_pl3 (List.replicate 27 (0 : Int64)) c1 ((1 : Int64) <<< (n1 &&& 0x3f).toInt64)) c2 ((1 : Int64) <<< (n2 &&& 0x3f).toInt64)).length = 27 := (own_pllen3 _ _ _).trans hl103
      show own_Fin _ _ _ _ _ _ _ (T120.setTop (mkF m 116 #[.val (.int p0), .val (.int p1), .val (.int p2), .val (.int p3), .val (.int p4), .val (.int p5), .val (.int (3 : Int32)), .val (.int (9 : Int32)), .val (.int (81 : Int32)), .val (.int mm), .val (.int c1), .val (.int n1), .val (.int c2), .val (.int n2), .val (.int pr), .val (.ref b75), .unset, .unset, .unset] []))
      refine own_go (fun _ kk => XS.iload X120.here hx rfl (hb hby at_116) rfl (XS.iload X120.here hx rfl (hb hby at_118) rfl (XS.iload X120.here hx rfl (hb hby at_120) rfl kk))) ?_
      show own_Fin _ _ _ _ _ _ _ (T120.setTop (mkF m 122 #[.val (.int p0), .val (.int p1), .val (.int p2), .val (.int p3), .val (.int p4), .val (.int p5), .val (.int (3 : Int32)), .val (.int (9 : Int32)), .val (.int (81 : Int32)), .val (.int mm), .val (.int c1), .val (.int n1), .val (.int c2), .val (.int n2), .val (.int pr), .val (.ref b75), .unset, .unset, .unset] [(.int (9 : Int32)), (.int c1), (.int pr)]))
      refine own_callS X120 hx hZ hown (hw _ (List.mem_of_getElem? (i := 78) rfl)) (hw _ (List.mem_of_getElem? (i := 79) rfl)) (hw _ (List.mem_of_getElem? (i := 80) rfl)) (hw _ (List.mem_of_getElem? (i := 81) rfl)) (by decide) (rm10 l Z a0 hw pr c1 (9 : Int32) T120.heap n0 Z120 (by decide)) rfl (argsL := [(.int pr), (.int c1), (.int (9 : Int32))]) (rest := []) rfl rfl (by rw [hml]; rfl) (lenOf pd_0_3 rfl) (hb hby at_122) (W := 0) (Nat.le_of_eq rfl) (by decide) (by decide) (by decide) (by decide) ?_
      rintro v137 T137 L137 X137 ⟨rfl, M137, e137⟩
      have N137 := Fr.app N120 M137
      show own_Fin _ _ _ _ _ _ _ (T137.setTop (mkF m 125 #[.val (.int p0), .val (.int p1), .val (.int p2), .val (.int p3), .val (.int p4), .val (.int p5), .val (.int (3 : Int32)), .val (.int (9 : Int32)), .val (.int (81 : Int32)), .val (.int mm), .val (.int c1), .val (.int n1), .val (.int c2), .val (.int n2), .val (.int pr), .val (.ref b75), .unset, .unset, .unset] [(.int (own_f10 pr c1 (9 : Int32)))]))
      have J159 : ∀ (TJ159 : State) (locsJ159 : List Loc) (ro : Int32), Stand p l e room_1 s m #[(.int p0), (.int p1), (.int p2), (.int p3), (.int p4), (.int p5)] below meth c TJ159 locsJ159 37 796 → Fr n0 locsJ159 → TJ159.heap = T120.heap → (own_f0 p0 p1 p2 p3 p4 p5) = own_f0_159_1 p0 p1 p2 p3 p4 p5 mm c1 n1 c2 n2 pr ro → own_Fin p e below s (own_Q0 (some (.int (own_f0 p0 p1 p2 p3 p4 p5))) n0) room_1.cells room_1.slots (TJ159.setTop (mkF m 159 #[.val (.int p0), .val (.int p1), .val (.int p2), .val (.int p3), .val (.int p4), .val (.int p5), .val (.int (3 : Int32)), .val (.int (9 : Int32)), .val (.int (81 : Int32)), .val (.int mm), .val (.int c1), .val (.int n1), .val (.int c2), .val (.int n2), .val (.int pr), .val (.ref b75), .unset, .unset, .unset] [(.int ro)])) := by
        intro TJ159 locsJ159 ro XJ159 NJ159 eJ159 hjJ159
        refine own_go (fun _ kk => XS.istore XJ159.here hx rfl (hb hby at_159) rfl (l' := #[.val (.int p0), .val (.int p1), .val (.int p2), .val (.int p3), .val (.int p4), .val (.int p5), .val (.int (3 : Int32)), .val (.int (9 : Int32)), .val (.int (81 : Int32)), .val (.int mm), .val (.int c1), .val (.int n1), .val (.int c2), .val (.int n2), .val (.int pr), .val (.ref b75), .val (.int ro), .unset, .unset]) rfl (XS.iload XJ159.here hx rfl (hb hby at_161) rfl (XS.iload XJ159.here hx rfl (hb hby at_163) rfl (XS.iload XJ159.here hx rfl (hb hby at_165) rfl kk)))) ?_
        show own_Fin _ _ _ _ _ _ _ (TJ159.setTop (mkF m 167 #[.val (.int p0), .val (.int p1), .val (.int p2), .val (.int p3), .val (.int p4), .val (.int p5), .val (.int (3 : Int32)), .val (.int (9 : Int32)), .val (.int (81 : Int32)), .val (.int mm), .val (.int c1), .val (.int n1), .val (.int c2), .val (.int n2), .val (.int pr), .val (.ref b75), .val (.int ro), .unset, .unset] [(.int (9 : Int32)), (.int c1), (.int pr)]))
        refine own_callS XJ159 hx hZ hown (hw _ (List.mem_of_getElem? (i := 82) rfl)) (hw _ (List.mem_of_getElem? (i := 83) rfl)) (hw _ (List.mem_of_getElem? (i := 80) rfl)) (hw _ (List.mem_of_getElem? (i := 84) rfl)) (by decide) (rm11 l Z a0 hw pr c1 (9 : Int32) T120.heap n0 Z120 (by decide)) eJ159 (argsL := [(.int pr), (.int c1), (.int (9 : Int32))]) (rest := []) rfl rfl (by rw [hml]; rfl) (lenOf pd_0_3 rfl) (hb hby at_167) (W := 0) (Nat.le_of_eq rfl) (by decide) (by decide) (by decide) (by decide) ?_
        rintro v138 T138 L138 X138 ⟨rfl, M138, e138⟩
        have N138 := Fr.app NJ159 M138
        show own_Fin _ _ _ _ _ _ _ (T138.setTop (mkF m 170 #[.val (.int p0), .val (.int p1), .val (.int p2), .val (.int p3), .val (.int p4), .val (.int p5), .val (.int (3 : Int32)), .val (.int (9 : Int32)), .val (.int (81 : Int32)), .val (.int mm), .val (.int c1), .val (.int n1), .val (.int c2), .val (.int n2), .val (.int pr), .val (.ref b75), .val (.int ro), .unset, .unset] [(.int (own_f11 pr c1 (9 : Int32)))]))
        have J204 : ∀ (TJ204 : State) (locsJ204 : List Loc) (co : Int32), Stand p l e room_1 s m #[(.int p0), (.int p1), (.int p2), (.int p3), (.int p4), (.int p5)] below meth c TJ204 locsJ204 37 796 → Fr n0 locsJ204 → TJ204.heap = T120.heap → (own_f0 p0 p1 p2 p3 p4 p5) = own_f0_204_1 p0 p1 p2 p3 p4 p5 mm c1 n1 c2 n2 pr ro co → own_Fin p e below s (own_Q0 (some (.int (own_f0 p0 p1 p2 p3 p4 p5))) n0) room_1.cells room_1.slots (TJ204.setTop (mkF m 204 #[.val (.int p0), .val (.int p1), .val (.int p2), .val (.int p3), .val (.int p4), .val (.int p5), .val (.int (3 : Int32)), .val (.int (9 : Int32)), .val (.int (81 : Int32)), .val (.int mm), .val (.int c1), .val (.int n1), .val (.int c2), .val (.int n2), .val (.int pr), .val (.ref b75), .val (.int ro), .unset, .unset] [(.int co)])) := by
          intro TJ204 locsJ204 co XJ204 NJ204 eJ204 hjJ204
          refine own_go (fun _ kk => XS.istore XJ204.here hx rfl (hb hby at_204) rfl (l' := #[.val (.int p0), .val (.int p1), .val (.int p2), .val (.int p3), .val (.int p4), .val (.int p5), .val (.int (3 : Int32)), .val (.int (9 : Int32)), .val (.int (81 : Int32)), .val (.int mm), .val (.int c1), .val (.int n1), .val (.int c2), .val (.int n2), .val (.int pr), .val (.ref b75), .val (.int ro), .val (.int co), .unset]) rfl (XS.iload XJ204.here hx rfl (hb hby at_206) rfl (XS.iload XJ204.here hx rfl (hb hby at_208) rfl (XS.iload XJ204.here hx rfl (hb hby at_210) rfl (XS.iload XJ204.here hx rfl (hb hby at_212) rfl kk))))) ?_
          show own_Fin _ _ _ _ _ _ _ (TJ204.setTop (mkF m 214 #[.val (.int p0), .val (.int p1), .val (.int p2), .val (.int p3), .val (.int p4), .val (.int p5), .val (.int (3 : Int32)), .val (.int (9 : Int32)), .val (.int (81 : Int32)), .val (.int mm), .val (.int c1), .val (.int n1), .val (.int c2), .val (.int n2), .val (.int pr), .val (.ref b75), .val (.int ro), .val (.int co), .unset] [(.int (3 : Int32)), (.int (9 : Int32)), (.int c1), (.int pr)]))
          refine own_callS XJ204 hx hZ hown (hw _ (List.mem_of_getElem? (i := 85) rfl)) (hw _ (List.mem_of_getElem? (i := 86) rfl)) (hw _ (List.mem_of_getElem? (i := 80) rfl)) (hw _ (List.mem_of_getElem? (i := 87) rfl)) (by decide) (rm12 l Z a0 hw pr c1 (9 : Int32) (3 : Int32) T120.heap n0 Z120 (by decide) (by decide)) eJ204 (argsL := [(.int pr), (.int c1), (.int (9 : Int32)), (.int (3 : Int32))]) (rest := []) rfl rfl (by rw [hml]; rfl) (lenOf pd_0_4 rfl) (hb hby at_214) (W := 0) (Nat.le_of_eq rfl) (by decide) (by decide) (by decide) (by decide) ?_
          rintro v139 T139 L139 X139 ⟨rfl, M139, e139⟩
          have N139 := Fr.app NJ204 M139
          show own_Fin _ _ _ _ _ _ _ (T139.setTop (mkF m 217 #[.val (.int p0), .val (.int p1), .val (.int p2), .val (.int p3), .val (.int p4), .val (.int p5), .val (.int (3 : Int32)), .val (.int (9 : Int32)), .val (.int (81 : Int32)), .val (.int mm), .val (.int c1), .val (.int n1), .val (.int c2), .val (.int n2), .val (.int pr), .val (.ref b75), .val (.int ro), .val (.int co), .unset] [(.int (own_f12 pr c1 (9 : Int32) (3 : Int32)))]))
          have J253 : ∀ (TJ253 : State) (locsJ253 : List Loc) (bo : Int32), Stand p l e room_1 s m #[(.int p0), (.int p1), (.int p2), (.int p3), (.int p4), (.int p5)] below meth c TJ253 locsJ253 37 796 → Fr n0 locsJ253 → TJ253.heap = T120.heap → (own_f0 p0 p1 p2 p3 p4 p5) = own_f0_253_1 p0 p1 p2 p3 p4 p5 mm c1 n1 c2 n2 pr ro co bo → own_Fin p e below s (own_Q0 (some (.int (own_f0 p0 p1 p2 p3 p4 p5))) n0) room_1.cells room_1.slots (TJ253.setTop (mkF m 253 #[.val (.int p0), .val (.int p1), .val (.int p2), .val (.int p3), .val (.int p4), .val (.int p5), .val (.int (3 : Int32)), .val (.int (9 : Int32)), .val (.int (81 : Int32)), .val (.int mm), .val (.int c1), .val (.int n1), .val (.int c2), .val (.int n2), .val (.int pr), .val (.ref b75), .val (.int ro), .val (.int co), .unset] [(.int bo)])) := by
            intro TJ253 locsJ253 bo XJ253 NJ253 eJ253 hjJ253
            refine own_go (fun _ kk => XS.istore XJ253.here hx rfl (hb hby at_253) rfl (l' := #[.val (.int p0), .val (.int p1), .val (.int p2), .val (.int p3), .val (.int p4), .val (.int p5), .val (.int (3 : Int32)), .val (.int (9 : Int32)), .val (.int (81 : Int32)), .val (.int mm), .val (.int c1), .val (.int n1), .val (.int c2), .val (.int n2), .val (.int pr), .val (.ref b75), .val (.int ro), .val (.int co), .val (.int bo)]) rfl (XS.aload XJ253.here hx rfl (hb hby at_255) rfl rfl (XS.iload XJ253.here hx rfl (hb hby at_257) rfl (XS.iload XJ253.here hx rfl (hb hby at_259) rfl kk)))) ?_
            show own_Fin _ _ _ _ _ _ _ (TJ253.setTop (mkF m 261 #[.val (.int p0), .val (.int p1), .val (.int p2), .val (.int p3), .val (.int p4), .val (.int p5), .val (.int (3 : Int32)), .val (.int (9 : Int32)), .val (.int (81 : Int32)), .val (.int mm), .val (.int c1), .val (.int n1), .val (.int c2), .val (.int n2), .val (.int pr), .val (.ref b75), .val (.int ro), .val (.int co), .val (.int bo)] [(.int mm), (.int pr), (.ref b75)]))
            refine own_callV XJ253 hx hZ hown (hw _ (List.mem_of_getElem? (i := 88) rfl)) (hw _ (List.mem_of_getElem? (i := 89) rfl)) (notFace_of_selects (args := #[]) (mvT hZ (hw _ (List.mem_of_getElem? (i := 91) rfl)))) (hw _ (List.mem_of_getElem? (i := 91) rfl)) (hw _ (List.mem_of_getElem? (i := 90) rfl)) (hw _ (List.mem_of_getElem? (i := 92) rfl)) (hw _ (List.mem_of_getElem? (i := 3) rfl)) (by decide) (rm13g3 l Z a0 hw b75 pr mm T120.heap n0 Z120 bR bC bB hd (own_pl3 (own_pl3 (List.replicate 27 (0 : Int64)) c1 ((1 : Int64) <<< (n1 &&& 0x3f).toInt64)) c2 ((1 : Int64) <<< (n2 &&& 0x3f).toInt64)) f132 f133 f134 f136 f128 f129 f130 VH120 hl120 h_pr.1 h_pr.2) eJ253 f121 (argsL := [(.int pr), (.int mm)]) (rest := []) rfl rfl (by rw [hml]; rfl) (lenOf pd_0_5 rfl) (hb hby at_261) (W := 0) (Nat.le_of_eq rfl) (by decide) (by decide) (by decide) (by decide) ?_
            rintro v140 T140 L140 X140 ⟨rfl, M140, e140⟩
            have N140 := Fr.app NJ253 M140
            show own_Fin _ _ _ _ _ _ _ (T140.setTop (mkF m 264 #[.val (.int p0), .val (.int p1), .val (.int p2), .val (.int p3), .val (.int p4), .val (.int p5), .val (.int (3 : Int32)), .val (.int (9 : Int32)), .val (.int (81 : Int32)), .val (.int mm), .val (.int c1), .val (.int n1), .val (.int c2), .val (.int n2), .val (.int pr), .val (.ref b75), .val (.int ro), .val (.int co), .val (.int bo)] [(.int (own_f13g3 (own_pl3 (own_pl3 (List.replicate 27 (0 : Int64)) c1 ((1 : Int64) <<< (n1 &&& 0x3f).toInt64)) c2 ((1 : Int64) <<< (n2 &&& 0x3f).toInt64)) pr mm))]))
            refine own_go (fun _ kk => XS.iload X140.here hx rfl (hb hby at_264) rfl kk) ?_
            show own_Fin _ _ _ _ _ _ _ (T140.setTop (mkF m 266 #[.val (.int p0), .val (.int p1), .val (.int p2), .val (.int p3), .val (.int p4), .val (.int p5), .val (.int (3 : Int32)), .val (.int (9 : Int32)), .val (.int (81 : Int32)), .val (.int mm), .val (.int c1), .val (.int n1), .val (.int c2), .val (.int n2), .val (.int pr), .val (.ref b75), .val (.int ro), .val (.int co), .val (.int bo)] [(.int ro), (.int (own_f13g3 (own_pl3 (own_pl3 (List.replicate 27 (0 : Int64)) c1 ((1 : Int64) <<< (n1 &&& 0x3f).toInt64)) c2 ((1 : Int64) <<< (n2 &&& 0x3f).toInt64)) pr mm))]))
            by_cases hc266 : (own_f13g3 (own_pl3 (own_pl3 (List.replicate 27 (0 : Int64)) c1 ((1 : Int64) <<< (n1 &&& 0x3f).toInt64)) c2 ((1 : Int64) <<< (n2 &&& 0x3f).toInt64)) pr mm) = ro
            · refine own_go (fun _ kk => XS.icmpNo X140.here hx rfl (hb hby at_266) rfl (XT.ii_ne_f hc266) (XS.aload X140.here hx rfl (hb hby at_269) rfl rfl (XS.iload X140.here hx rfl (hb hby at_271) rfl (XS.iload X140.here hx rfl (hb hby at_273) rfl kk)))) ?_
              show own_Fin _ _ _ _ _ _ _ (T140.setTop (mkF m 275 #[.val (.int p0), .val (.int p1), .val (.int p2), .val (.int p3), .val (.int p4), .val (.int p5), .val (.int (3 : Int32)), .val (.int (9 : Int32)), .val (.int (81 : Int32)), .val (.int mm), .val (.int c1), .val (.int n1), .val (.int c2), .val (.int n2), .val (.int pr), .val (.ref b75), .val (.int ro), .val (.int co), .val (.int bo)] [(.int mm), (.int pr), (.ref b75)]))
              refine own_callV X140 hx hZ hown (hw _ (List.mem_of_getElem? (i := 93) rfl)) (hw _ (List.mem_of_getElem? (i := 94) rfl)) (notFace_of_selects (args := #[]) (mvT hZ (hw _ (List.mem_of_getElem? (i := 96) rfl)))) (hw _ (List.mem_of_getElem? (i := 96) rfl)) (hw _ (List.mem_of_getElem? (i := 95) rfl)) (hw _ (List.mem_of_getElem? (i := 97) rfl)) (hw _ (List.mem_of_getElem? (i := 3) rfl)) (by decide) (rm14g3 l Z a0 hw b75 pr mm T120.heap n0 Z120 bR bC bB hd (own_pl3 (own_pl3 (List.replicate 27 (0 : Int64)) c1 ((1 : Int64) <<< (n1 &&& 0x3f).toInt64)) c2 ((1 : Int64) <<< (n2 &&& 0x3f).toInt64)) f132 f133 f134 f136 f128 f129 f130 VH120 hl120 h_pr.1 h_pr.2) e140 f121 (argsL := [(.int pr), (.int mm)]) (rest := []) rfl rfl (by rw [hml]; rfl) (lenOf pd_0_5 rfl) (hb hby at_275) (W := 0) (Nat.le_of_eq rfl) (by decide) (by decide) (by decide) (by decide) ?_
              rintro v141 T141 L141 X141 ⟨rfl, M141, e141⟩
              have N141 := Fr.app N140 M141
              show own_Fin _ _ _ _ _ _ _ (T141.setTop (mkF m 278 #[.val (.int p0), .val (.int p1), .val (.int p2), .val (.int p3), .val (.int p4), .val (.int p5), .val (.int (3 : Int32)), .val (.int (9 : Int32)), .val (.int (81 : Int32)), .val (.int mm), .val (.int c1), .val (.int n1), .val (.int c2), .val (.int n2), .val (.int pr), .val (.ref b75), .val (.int ro), .val (.int co), .val (.int bo)] [(.int (own_f14g3 (own_pl3 (own_pl3 (List.replicate 27 (0 : Int64)) c1 ((1 : Int64) <<< (n1 &&& 0x3f).toInt64)) c2 ((1 : Int64) <<< (n2 &&& 0x3f).toInt64)) pr mm))]))
              refine own_go (fun _ kk => XS.iload X141.here hx rfl (hb hby at_278) rfl kk) ?_
              show own_Fin _ _ _ _ _ _ _ (T141.setTop (mkF m 280 #[.val (.int p0), .val (.int p1), .val (.int p2), .val (.int p3), .val (.int p4), .val (.int p5), .val (.int (3 : Int32)), .val (.int (9 : Int32)), .val (.int (81 : Int32)), .val (.int mm), .val (.int c1), .val (.int n1), .val (.int c2), .val (.int n2), .val (.int pr), .val (.ref b75), .val (.int ro), .val (.int co), .val (.int bo)] [(.int co), (.int (own_f14g3 (own_pl3 (own_pl3 (List.replicate 27 (0 : Int64)) c1 ((1 : Int64) <<< (n1 &&& 0x3f).toInt64)) c2 ((1 : Int64) <<< (n2 &&& 0x3f).toInt64)) pr mm))]))
              by_cases hc280 : (own_f14g3 (own_pl3 (own_pl3 (List.replicate 27 (0 : Int64)) c1 ((1 : Int64) <<< (n1 &&& 0x3f).toInt64)) c2 ((1 : Int64) <<< (n2 &&& 0x3f).toInt64)) pr mm) = co
              · refine own_go (fun _ kk => XS.icmpNo X141.here hx rfl (hb hby at_280) rfl (XT.ii_ne_f hc280) (XS.aload X141.here hx rfl (hb hby at_283) rfl rfl (XS.iload X141.here hx rfl (hb hby at_285) rfl (XS.iload X141.here hx rfl (hb hby at_287) rfl kk)))) ?_
                show own_Fin _ _ _ _ _ _ _ (T141.setTop (mkF m 289 #[.val (.int p0), .val (.int p1), .val (.int p2), .val (.int p3), .val (.int p4), .val (.int p5), .val (.int (3 : Int32)), .val (.int (9 : Int32)), .val (.int (81 : Int32)), .val (.int mm), .val (.int c1), .val (.int n1), .val (.int c2), .val (.int n2), .val (.int pr), .val (.ref b75), .val (.int ro), .val (.int co), .val (.int bo)] [(.int mm), (.int pr), (.ref b75)]))
                refine own_callV X141 hx hZ hown (hw _ (List.mem_of_getElem? (i := 98) rfl)) (hw _ (List.mem_of_getElem? (i := 99) rfl)) (notFace_of_selects (args := #[]) (mvT hZ (hw _ (List.mem_of_getElem? (i := 101) rfl)))) (hw _ (List.mem_of_getElem? (i := 101) rfl)) (hw _ (List.mem_of_getElem? (i := 100) rfl)) (hw _ (List.mem_of_getElem? (i := 102) rfl)) (hw _ (List.mem_of_getElem? (i := 3) rfl)) (by decide) (rm15g3 l Z a0 hw b75 pr mm T120.heap n0 Z120 bR bC bB hd (own_pl3 (own_pl3 (List.replicate 27 (0 : Int64)) c1 ((1 : Int64) <<< (n1 &&& 0x3f).toInt64)) c2 ((1 : Int64) <<< (n2 &&& 0x3f).toInt64)) f132 f133 f134 f136 f128 f129 f130 VH120 hl120 h_pr.1 h_pr.2) e141 f121 (argsL := [(.int pr), (.int mm)]) (rest := []) rfl rfl (by rw [hml]; rfl) (lenOf pd_0_5 rfl) (hb hby at_289) (W := 0) (Nat.le_of_eq rfl) (by decide) (by decide) (by decide) (by decide) ?_
                rintro v142 T142 L142 X142 ⟨rfl, M142, e142⟩
                have N142 := Fr.app N141 M142
                show own_Fin _ _ _ _ _ _ _ (T142.setTop (mkF m 292 #[.val (.int p0), .val (.int p1), .val (.int p2), .val (.int p3), .val (.int p4), .val (.int p5), .val (.int (3 : Int32)), .val (.int (9 : Int32)), .val (.int (81 : Int32)), .val (.int mm), .val (.int c1), .val (.int n1), .val (.int c2), .val (.int n2), .val (.int pr), .val (.ref b75), .val (.int ro), .val (.int co), .val (.int bo)] [(.int (own_f15g3 (own_pl3 (own_pl3 (List.replicate 27 (0 : Int64)) c1 ((1 : Int64) <<< (n1 &&& 0x3f).toInt64)) c2 ((1 : Int64) <<< (n2 &&& 0x3f).toInt64)) pr mm))]))
                refine own_go (fun _ kk => XS.iload X142.here hx rfl (hb hby at_292) rfl kk) ?_
                show own_Fin _ _ _ _ _ _ _ (T142.setTop (mkF m 294 #[.val (.int p0), .val (.int p1), .val (.int p2), .val (.int p3), .val (.int p4), .val (.int p5), .val (.int (3 : Int32)), .val (.int (9 : Int32)), .val (.int (81 : Int32)), .val (.int mm), .val (.int c1), .val (.int n1), .val (.int c2), .val (.int n2), .val (.int pr), .val (.ref b75), .val (.int ro), .val (.int co), .val (.int bo)] [(.int bo), (.int (own_f15g3 (own_pl3 (own_pl3 (List.replicate 27 (0 : Int64)) c1 ((1 : Int64) <<< (n1 &&& 0x3f).toInt64)) c2 ((1 : Int64) <<< (n2 &&& 0x3f).toInt64)) pr mm))]))
                by_cases hc294 : (own_f15g3 (own_pl3 (own_pl3 (List.replicate 27 (0 : Int64)) c1 ((1 : Int64) <<< (n1 &&& 0x3f).toInt64)) c2 ((1 : Int64) <<< (n2 &&& 0x3f).toInt64)) pr mm) = bo
                · refine own_go (fun _ kk => XS.icmpNo X142.here hx rfl (hb hby at_294) rfl (XT.ii_ne_f hc294) (XS.iconst X142.here hx rfl (hb hby at_297) (XS.goto X142.here hx rfl (pc0 := 298) (pc' := 302) rfl (hb hby at_298) (by decide) (by decide) kk))) ?_
                  show own_Fin _ _ _ _ _ _ _ (T142.setTop (mkF m 302 #[.val (.int p0), .val (.int p1), .val (.int p2), .val (.int p3), .val (.int p4), .val (.int p5), .val (.int (3 : Int32)), .val (.int (9 : Int32)), .val (.int (81 : Int32)), .val (.int mm), .val (.int c1), .val (.int n1), .val (.int c2), .val (.int n2), .val (.int pr), .val (.ref b75), .val (.int ro), .val (.int co), .val (.int bo)] [(.int (1 : Int32))]))
                  exact own_retZ X142 hx hlk hret rfl (hb hby at_302) (by decide) (by decide) ⟨(by rw [hjJ253, own_f0_253_1, if_pos hc266, if_pos hc280, if_pos hc294]), N142⟩
                · refine own_go (fun _ kk => XS.icmpYes X142.here hx rfl (pc0 := 294) (pc' := 301) rfl (hb hby at_294) rfl (XT.ii_ne_t hc294) (by decide) (by decide) (XS.iconst X142.here hx rfl (hb hby at_301) kk)) ?_
                  show own_Fin _ _ _ _ _ _ _ (T142.setTop (mkF m 302 #[.val (.int p0), .val (.int p1), .val (.int p2), .val (.int p3), .val (.int p4), .val (.int p5), .val (.int (3 : Int32)), .val (.int (9 : Int32)), .val (.int (81 : Int32)), .val (.int mm), .val (.int c1), .val (.int n1), .val (.int c2), .val (.int n2), .val (.int pr), .val (.ref b75), .val (.int ro), .val (.int co), .val (.int bo)] [(.int (0 : Int32))]))
                  exact own_retZ X142 hx hlk hret rfl (hb hby at_302) (by decide) (by decide) ⟨(by rw [hjJ253, own_f0_253_1, if_pos hc266, if_pos hc280, if_neg hc294]), N142⟩
              · refine own_go (fun _ kk => XS.icmpYes X141.here hx rfl (pc0 := 280) (pc' := 301) rfl (hb hby at_280) rfl (XT.ii_ne_t hc280) (by decide) (by decide) (XS.iconst X141.here hx rfl (hb hby at_301) kk)) ?_
                show own_Fin _ _ _ _ _ _ _ (T141.setTop (mkF m 302 #[.val (.int p0), .val (.int p1), .val (.int p2), .val (.int p3), .val (.int p4), .val (.int p5), .val (.int (3 : Int32)), .val (.int (9 : Int32)), .val (.int (81 : Int32)), .val (.int mm), .val (.int c1), .val (.int n1), .val (.int c2), .val (.int n2), .val (.int pr), .val (.ref b75), .val (.int ro), .val (.int co), .val (.int bo)] [(.int (0 : Int32))]))
                exact own_retZ X141 hx hlk hret rfl (hb hby at_302) (by decide) (by decide) ⟨(by rw [hjJ253, own_f0_253_1, if_pos hc266, if_neg hc280]), N141⟩
            · refine own_go (fun _ kk => XS.icmpYes X140.here hx rfl (pc0 := 266) (pc' := 301) rfl (hb hby at_266) rfl (XT.ii_ne_t hc266) (by decide) (by decide) (XS.iconst X140.here hx rfl (hb hby at_301) kk)) ?_
              show own_Fin _ _ _ _ _ _ _ (T140.setTop (mkF m 302 #[.val (.int p0), .val (.int p1), .val (.int p2), .val (.int p3), .val (.int p4), .val (.int p5), .val (.int (3 : Int32)), .val (.int (9 : Int32)), .val (.int (81 : Int32)), .val (.int mm), .val (.int c1), .val (.int n1), .val (.int c2), .val (.int n2), .val (.int pr), .val (.ref b75), .val (.int ro), .val (.int co), .val (.int bo)] [(.int (0 : Int32))]))
              exact own_retZ X140 hx hlk hret rfl (hb hby at_302) (by decide) (by decide) ⟨(by rw [hjJ253, own_f0_253_1, if_neg hc266]), N140⟩
          by_cases hc217 : (own_f12 pr c1 (9 : Int32) (3 : Int32)) = 0
          · refine own_go (fun _ kk => XS.ifYes X139.here hx rfl (pc0 := 217) (pc' := 227) rfl (hb hby at_217) rfl (XT.i0_eq_t hc217) (by decide) (by decide) (XS.iload X139.here hx rfl (hb hby at_227) rfl (XS.iload X139.here hx rfl (hb hby at_229) rfl (XS.iload X139.here hx rfl (hb hby at_231) rfl (XS.iload X139.here hx rfl (hb hby at_233) rfl kk))))) ?_
            show own_Fin _ _ _ _ _ _ _ (T139.setTop (mkF m 235 #[.val (.int p0), .val (.int p1), .val (.int p2), .val (.int p3), .val (.int p4), .val (.int p5), .val (.int (3 : Int32)), .val (.int (9 : Int32)), .val (.int (81 : Int32)), .val (.int mm), .val (.int c1), .val (.int n1), .val (.int c2), .val (.int n2), .val (.int pr), .val (.ref b75), .val (.int ro), .val (.int co), .unset] [(.int (3 : Int32)), (.int (9 : Int32)), (.int c2), (.int pr)]))
            refine own_callS X139 hx hZ hown (hw _ (List.mem_of_getElem? (i := 85) rfl)) (hw _ (List.mem_of_getElem? (i := 86) rfl)) (hw _ (List.mem_of_getElem? (i := 80) rfl)) (hw _ (List.mem_of_getElem? (i := 87) rfl)) (by decide) (rm12 l Z a0 hw pr c2 (9 : Int32) (3 : Int32) T120.heap n0 Z120 (by decide) (by decide)) e139 (argsL := [(.int pr), (.int c2), (.int (9 : Int32)), (.int (3 : Int32))]) (rest := []) rfl rfl (by rw [hml]; rfl) (lenOf pd_0_4 rfl) (hb hby at_235) (W := 0) (Nat.le_of_eq rfl) (by decide) (by decide) (by decide) (by decide) ?_
            rintro v143 T143 L143 X143 ⟨rfl, M143, e143⟩
            have N143 := Fr.app N139 M143
            show own_Fin _ _ _ _ _ _ _ (T143.setTop (mkF m 238 #[.val (.int p0), .val (.int p1), .val (.int p2), .val (.int p3), .val (.int p4), .val (.int p5), .val (.int (3 : Int32)), .val (.int (9 : Int32)), .val (.int (81 : Int32)), .val (.int mm), .val (.int c1), .val (.int n1), .val (.int c2), .val (.int n2), .val (.int pr), .val (.ref b75), .val (.int ro), .val (.int co), .unset] [(.int (own_f12 pr c2 (9 : Int32) (3 : Int32)))]))
            by_cases hc238 : (own_f12 pr c2 (9 : Int32) (3 : Int32)) = 0
            · refine own_go (fun _ kk => XS.ifYes X143.here hx rfl (pc0 := 238) (pc' := 252) rfl (hb hby at_238) rfl (XT.i0_eq_t hc238) (by decide) (by decide) (XS.iconst X143.here hx rfl (hb hby at_252) kk)) ?_
              show own_Fin _ _ _ _ _ _ _ (T143.setTop (mkF m 253 #[.val (.int p0), .val (.int p1), .val (.int p2), .val (.int p3), .val (.int p4), .val (.int p5), .val (.int (3 : Int32)), .val (.int (9 : Int32)), .val (.int (81 : Int32)), .val (.int mm), .val (.int c1), .val (.int n1), .val (.int c2), .val (.int n2), .val (.int pr), .val (.ref b75), .val (.int ro), .val (.int co), .unset] [(.int (0 : Int32))]))
              exact J253 _ _ ((0 : Int32)) X143 N143 e143 (by rw [hjJ204, own_f0_204_1, if_pos hc217, if_pos hc238])
            · refine own_go (fun _ kk => XS.ifNo X143.here hx rfl (hb hby at_238) rfl (XT.i0_eq_f hc238) (XS.iload X143.here hx rfl (hb hby at_241) rfl (XS.iload X143.here hx rfl (hb hby at_243) rfl kk))) ?_
              show own_Fin _ _ _ _ _ _ _ (T143.setTop (mkF m 245 #[.val (.int p0), .val (.int p1), .val (.int p2), .val (.int p3), .val (.int p4), .val (.int p5), .val (.int (3 : Int32)), .val (.int (9 : Int32)), .val (.int (81 : Int32)), .val (.int mm), .val (.int c1), .val (.int n1), .val (.int c2), .val (.int n2), .val (.int pr), .val (.ref b75), .val (.int ro), .val (.int co), .unset] [(.int n2), (.int mm)]))
              by_cases hc245 : mm = n2
              · refine own_go (fun _ kk => XS.icmpNo X143.here hx rfl (hb hby at_245) rfl (XT.ii_ne_f hc245) (XS.iconst X143.here hx rfl (hb hby at_248) (XS.goto X143.here hx rfl (pc0 := 249) (pc' := 253) rfl (hb hby at_249) (by decide) (by decide) kk))) ?_
                show own_Fin _ _ _ _ _ _ _ (T143.setTop (mkF m 253 #[.val (.int p0), .val (.int p1), .val (.int p2), .val (.int p3), .val (.int p4), .val (.int p5), .val (.int (3 : Int32)), .val (.int (9 : Int32)), .val (.int (81 : Int32)), .val (.int mm), .val (.int c1), .val (.int n1), .val (.int c2), .val (.int n2), .val (.int pr), .val (.ref b75), .val (.int ro), .val (.int co), .unset] [(.int (1 : Int32))]))
                exact J253 _ _ ((1 : Int32)) X143 N143 e143 (by rw [hjJ204, own_f0_204_1, if_pos hc217, if_neg hc238, if_pos hc245])
              · refine own_go (fun _ kk => XS.icmpYes X143.here hx rfl (pc0 := 245) (pc' := 252) rfl (hb hby at_245) rfl (XT.ii_ne_t hc245) (by decide) (by decide) (XS.iconst X143.here hx rfl (hb hby at_252) kk)) ?_
                show own_Fin _ _ _ _ _ _ _ (T143.setTop (mkF m 253 #[.val (.int p0), .val (.int p1), .val (.int p2), .val (.int p3), .val (.int p4), .val (.int p5), .val (.int (3 : Int32)), .val (.int (9 : Int32)), .val (.int (81 : Int32)), .val (.int mm), .val (.int c1), .val (.int n1), .val (.int c2), .val (.int n2), .val (.int pr), .val (.ref b75), .val (.int ro), .val (.int co), .unset] [(.int (0 : Int32))]))
                exact J253 _ _ ((0 : Int32)) X143 N143 e143 (by rw [hjJ204, own_f0_204_1, if_pos hc217, if_neg hc238, if_neg hc245])
          · refine own_go (fun _ kk => XS.ifNo X139.here hx rfl (hb hby at_217) rfl (XT.i0_eq_f hc217) (XS.iload X139.here hx rfl (hb hby at_220) rfl (XS.iload X139.here hx rfl (hb hby at_222) rfl kk))) ?_
            show own_Fin _ _ _ _ _ _ _ (T139.setTop (mkF m 224 #[.val (.int p0), .val (.int p1), .val (.int p2), .val (.int p3), .val (.int p4), .val (.int p5), .val (.int (3 : Int32)), .val (.int (9 : Int32)), .val (.int (81 : Int32)), .val (.int mm), .val (.int c1), .val (.int n1), .val (.int c2), .val (.int n2), .val (.int pr), .val (.ref b75), .val (.int ro), .val (.int co), .unset] [(.int n1), (.int mm)]))
            by_cases hc224 : mm = n1
            · refine own_go (fun _ kk => XS.icmpYes X139.here hx rfl (pc0 := 224) (pc' := 248) rfl (hb hby at_224) rfl (XT.ii_eq_t hc224) (by decide) (by decide) (XS.iconst X139.here hx rfl (hb hby at_248) (XS.goto X139.here hx rfl (pc0 := 249) (pc' := 253) rfl (hb hby at_249) (by decide) (by decide) kk))) ?_
              show own_Fin _ _ _ _ _ _ _ (T139.setTop (mkF m 253 #[.val (.int p0), .val (.int p1), .val (.int p2), .val (.int p3), .val (.int p4), .val (.int p5), .val (.int (3 : Int32)), .val (.int (9 : Int32)), .val (.int (81 : Int32)), .val (.int mm), .val (.int c1), .val (.int n1), .val (.int c2), .val (.int n2), .val (.int pr), .val (.ref b75), .val (.int ro), .val (.int co), .unset] [(.int (1 : Int32))]))
              exact J253 _ _ ((1 : Int32)) X139 N139 e139 (by rw [hjJ204, own_f0_204_1, if_neg hc217, if_pos hc224])
            · refine own_go (fun _ kk => XS.icmpNo X139.here hx rfl (hb hby at_224) rfl (XT.ii_eq_f hc224) (XS.iload X139.here hx rfl (hb hby at_227) rfl (XS.iload X139.here hx rfl (hb hby at_229) rfl (XS.iload X139.here hx rfl (hb hby at_231) rfl (XS.iload X139.here hx rfl (hb hby at_233) rfl kk))))) ?_
              show own_Fin _ _ _ _ _ _ _ (T139.setTop (mkF m 235 #[.val (.int p0), .val (.int p1), .val (.int p2), .val (.int p3), .val (.int p4), .val (.int p5), .val (.int (3 : Int32)), .val (.int (9 : Int32)), .val (.int (81 : Int32)), .val (.int mm), .val (.int c1), .val (.int n1), .val (.int c2), .val (.int n2), .val (.int pr), .val (.ref b75), .val (.int ro), .val (.int co), .unset] [(.int (3 : Int32)), (.int (9 : Int32)), (.int c2), (.int pr)]))
              refine own_callS X139 hx hZ hown (hw _ (List.mem_of_getElem? (i := 85) rfl)) (hw _ (List.mem_of_getElem? (i := 86) rfl)) (hw _ (List.mem_of_getElem? (i := 80) rfl)) (hw _ (List.mem_of_getElem? (i := 87) rfl)) (by decide) (rm12 l Z a0 hw pr c2 (9 : Int32) (3 : Int32) T120.heap n0 Z120 (by decide) (by decide)) e139 (argsL := [(.int pr), (.int c2), (.int (9 : Int32)), (.int (3 : Int32))]) (rest := []) rfl rfl (by rw [hml]; rfl) (lenOf pd_0_4 rfl) (hb hby at_235) (W := 0) (Nat.le_of_eq rfl) (by decide) (by decide) (by decide) (by decide) ?_
              rintro v144 T144 L144 X144 ⟨rfl, M144, e144⟩
              have N144 := Fr.app N139 M144
              show own_Fin _ _ _ _ _ _ _ (T144.setTop (mkF m 238 #[.val (.int p0), .val (.int p1), .val (.int p2), .val (.int p3), .val (.int p4), .val (.int p5), .val (.int (3 : Int32)), .val (.int (9 : Int32)), .val (.int (81 : Int32)), .val (.int mm), .val (.int c1), .val (.int n1), .val (.int c2), .val (.int n2), .val (.int pr), .val (.ref b75), .val (.int ro), .val (.int co), .unset] [(.int (own_f12 pr c2 (9 : Int32) (3 : Int32)))]))
              by_cases hc238 : (own_f12 pr c2 (9 : Int32) (3 : Int32)) = 0
              · refine own_go (fun _ kk => XS.ifYes X144.here hx rfl (pc0 := 238) (pc' := 252) rfl (hb hby at_238) rfl (XT.i0_eq_t hc238) (by decide) (by decide) (XS.iconst X144.here hx rfl (hb hby at_252) kk)) ?_
                show own_Fin _ _ _ _ _ _ _ (T144.setTop (mkF m 253 #[.val (.int p0), .val (.int p1), .val (.int p2), .val (.int p3), .val (.int p4), .val (.int p5), .val (.int (3 : Int32)), .val (.int (9 : Int32)), .val (.int (81 : Int32)), .val (.int mm), .val (.int c1), .val (.int n1), .val (.int c2), .val (.int n2), .val (.int pr), .val (.ref b75), .val (.int ro), .val (.int co), .unset] [(.int (0 : Int32))]))
                exact J253 _ _ ((0 : Int32)) X144 N144 e144 (by rw [hjJ204, own_f0_204_1, if_neg hc217, if_neg hc224, if_pos hc238])
              · refine own_go (fun _ kk => XS.ifNo X144.here hx rfl (hb hby at_238) rfl (XT.i0_eq_f hc238) (XS.iload X144.here hx rfl (hb hby at_241) rfl (XS.iload X144.here hx rfl (hb hby at_243) rfl kk))) ?_
                show own_Fin _ _ _ _ _ _ _ (T144.setTop (mkF m 245 #[.val (.int p0), .val (.int p1), .val (.int p2), .val (.int p3), .val (.int p4), .val (.int p5), .val (.int (3 : Int32)), .val (.int (9 : Int32)), .val (.int (81 : Int32)), .val (.int mm), .val (.int c1), .val (.int n1), .val (.int c2), .val (.int n2), .val (.int pr), .val (.ref b75), .val (.int ro), .val (.int co), .unset] [(.int n2), (.int mm)]))
                by_cases hc245 : mm = n2
                · refine own_go (fun _ kk => XS.icmpNo X144.here hx rfl (hb hby at_245) rfl (XT.ii_ne_f hc245) (XS.iconst X144.here hx rfl (hb hby at_248) (XS.goto X144.here hx rfl (pc0 := 249) (pc' := 253) rfl (hb hby at_249) (by decide) (by decide) kk))) ?_
                  show own_Fin _ _ _ _ _ _ _ (T144.setTop (mkF m 253 #[.val (.int p0), .val (.int p1), .val (.int p2), .val (.int p3), .val (.int p4), .val (.int p5), .val (.int (3 : Int32)), .val (.int (9 : Int32)), .val (.int (81 : Int32)), .val (.int mm), .val (.int c1), .val (.int n1), .val (.int c2), .val (.int n2), .val (.int pr), .val (.ref b75), .val (.int ro), .val (.int co), .unset] [(.int (1 : Int32))]))
                  exact J253 _ _ ((1 : Int32)) X144 N144 e144 (by rw [hjJ204, own_f0_204_1, if_neg hc217, if_neg hc224, if_neg hc238, if_pos hc245])
                · refine own_go (fun _ kk => XS.icmpYes X144.here hx rfl (pc0 := 245) (pc' := 252) rfl (hb hby at_245) rfl (XT.ii_ne_t hc245) (by decide) (by decide) (XS.iconst X144.here hx rfl (hb hby at_252) kk)) ?_
                  show own_Fin _ _ _ _ _ _ _ (T144.setTop (mkF m 253 #[.val (.int p0), .val (.int p1), .val (.int p2), .val (.int p3), .val (.int p4), .val (.int p5), .val (.int (3 : Int32)), .val (.int (9 : Int32)), .val (.int (81 : Int32)), .val (.int mm), .val (.int c1), .val (.int n1), .val (.int c2), .val (.int n2), .val (.int pr), .val (.ref b75), .val (.int ro), .val (.int co), .unset] [(.int (0 : Int32))]))
                  exact J253 _ _ ((0 : Int32)) X144 N144 e144 (by rw [hjJ204, own_f0_204_1, if_neg hc217, if_neg hc224, if_neg hc238, if_neg hc245])
        by_cases hc170 : (own_f11 pr c1 (9 : Int32)) = 0
        · refine own_go (fun _ kk => XS.ifYes X138.here hx rfl (pc0 := 170) (pc' := 180) rfl (hb hby at_170) rfl (XT.i0_eq_t hc170) (by decide) (by decide) (XS.iload X138.here hx rfl (hb hby at_180) rfl (XS.iload X138.here hx rfl (hb hby at_182) rfl (XS.iload X138.here hx rfl (hb hby at_184) rfl kk)))) ?_
          show own_Fin _ _ _ _ _ _ _ (T138.setTop (mkF m 186 #[.val (.int p0), .val (.int p1), .val (.int p2), .val (.int p3), .val (.int p4), .val (.int p5), .val (.int (3 : Int32)), .val (.int (9 : Int32)), .val (.int (81 : Int32)), .val (.int mm), .val (.int c1), .val (.int n1), .val (.int c2), .val (.int n2), .val (.int pr), .val (.ref b75), .val (.int ro), .unset, .unset] [(.int (9 : Int32)), (.int c2), (.int pr)]))
          refine own_callS X138 hx hZ hown (hw _ (List.mem_of_getElem? (i := 82) rfl)) (hw _ (List.mem_of_getElem? (i := 83) rfl)) (hw _ (List.mem_of_getElem? (i := 80) rfl)) (hw _ (List.mem_of_getElem? (i := 84) rfl)) (by decide) (rm11 l Z a0 hw pr c2 (9 : Int32) T120.heap n0 Z120 (by decide)) e138 (argsL := [(.int pr), (.int c2), (.int (9 : Int32))]) (rest := []) rfl rfl (by rw [hml]; rfl) (lenOf pd_0_3 rfl) (hb hby at_186) (W := 0) (Nat.le_of_eq rfl) (by decide) (by decide) (by decide) (by decide) ?_
          rintro v145 T145 L145 X145 ⟨rfl, M145, e145⟩
          have N145 := Fr.app N138 M145
          show own_Fin _ _ _ _ _ _ _ (T145.setTop (mkF m 189 #[.val (.int p0), .val (.int p1), .val (.int p2), .val (.int p3), .val (.int p4), .val (.int p5), .val (.int (3 : Int32)), .val (.int (9 : Int32)), .val (.int (81 : Int32)), .val (.int mm), .val (.int c1), .val (.int n1), .val (.int c2), .val (.int n2), .val (.int pr), .val (.ref b75), .val (.int ro), .unset, .unset] [(.int (own_f11 pr c2 (9 : Int32)))]))
          by_cases hc189 : (own_f11 pr c2 (9 : Int32)) = 0
          · refine own_go (fun _ kk => XS.ifYes X145.here hx rfl (pc0 := 189) (pc' := 203) rfl (hb hby at_189) rfl (XT.i0_eq_t hc189) (by decide) (by decide) (XS.iconst X145.here hx rfl (hb hby at_203) kk)) ?_
            show own_Fin _ _ _ _ _ _ _ (T145.setTop (mkF m 204 #[.val (.int p0), .val (.int p1), .val (.int p2), .val (.int p3), .val (.int p4), .val (.int p5), .val (.int (3 : Int32)), .val (.int (9 : Int32)), .val (.int (81 : Int32)), .val (.int mm), .val (.int c1), .val (.int n1), .val (.int c2), .val (.int n2), .val (.int pr), .val (.ref b75), .val (.int ro), .unset, .unset] [(.int (0 : Int32))]))
            exact J204 _ _ ((0 : Int32)) X145 N145 e145 (by rw [hjJ159, own_f0_159_1, if_pos hc170, if_pos hc189])
          · refine own_go (fun _ kk => XS.ifNo X145.here hx rfl (hb hby at_189) rfl (XT.i0_eq_f hc189) (XS.iload X145.here hx rfl (hb hby at_192) rfl (XS.iload X145.here hx rfl (hb hby at_194) rfl kk))) ?_
            show own_Fin _ _ _ _ _ _ _ (T145.setTop (mkF m 196 #[.val (.int p0), .val (.int p1), .val (.int p2), .val (.int p3), .val (.int p4), .val (.int p5), .val (.int (3 : Int32)), .val (.int (9 : Int32)), .val (.int (81 : Int32)), .val (.int mm), .val (.int c1), .val (.int n1), .val (.int c2), .val (.int n2), .val (.int pr), .val (.ref b75), .val (.int ro), .unset, .unset] [(.int n2), (.int mm)]))
            by_cases hc196 : mm = n2
            · refine own_go (fun _ kk => XS.icmpNo X145.here hx rfl (hb hby at_196) rfl (XT.ii_ne_f hc196) (XS.iconst X145.here hx rfl (hb hby at_199) (XS.goto X145.here hx rfl (pc0 := 200) (pc' := 204) rfl (hb hby at_200) (by decide) (by decide) kk))) ?_
              show own_Fin _ _ _ _ _ _ _ (T145.setTop (mkF m 204 #[.val (.int p0), .val (.int p1), .val (.int p2), .val (.int p3), .val (.int p4), .val (.int p5), .val (.int (3 : Int32)), .val (.int (9 : Int32)), .val (.int (81 : Int32)), .val (.int mm), .val (.int c1), .val (.int n1), .val (.int c2), .val (.int n2), .val (.int pr), .val (.ref b75), .val (.int ro), .unset, .unset] [(.int (1 : Int32))]))
              exact J204 _ _ ((1 : Int32)) X145 N145 e145 (by rw [hjJ159, own_f0_159_1, if_pos hc170, if_neg hc189, if_pos hc196])
            · refine own_go (fun _ kk => XS.icmpYes X145.here hx rfl (pc0 := 196) (pc' := 203) rfl (hb hby at_196) rfl (XT.ii_ne_t hc196) (by decide) (by decide) (XS.iconst X145.here hx rfl (hb hby at_203) kk)) ?_
              show own_Fin _ _ _ _ _ _ _ (T145.setTop (mkF m 204 #[.val (.int p0), .val (.int p1), .val (.int p2), .val (.int p3), .val (.int p4), .val (.int p5), .val (.int (3 : Int32)), .val (.int (9 : Int32)), .val (.int (81 : Int32)), .val (.int mm), .val (.int c1), .val (.int n1), .val (.int c2), .val (.int n2), .val (.int pr), .val (.ref b75), .val (.int ro), .unset, .unset] [(.int (0 : Int32))]))
              exact J204 _ _ ((0 : Int32)) X145 N145 e145 (by rw [hjJ159, own_f0_159_1, if_pos hc170, if_neg hc189, if_neg hc196])
        · refine own_go (fun _ kk => XS.ifNo X138.here hx rfl (hb hby at_170) rfl (XT.i0_eq_f hc170) (XS.iload X138.here hx rfl (hb hby at_173) rfl (XS.iload X138.here hx rfl (hb hby at_175) rfl kk))) ?_
          show own_Fin _ _ _ _ _ _ _ (T138.setTop (mkF m 177 #[.val (.int p0), .val (.int p1), .val (.int p2), .val (.int p3), .val (.int p4), .val (.int p5), .val (.int (3 : Int32)), .val (.int (9 : Int32)), .val (.int (81 : Int32)), .val (.int mm), .val (.int c1), .val (.int n1), .val (.int c2), .val (.int n2), .val (.int pr), .val (.ref b75), .val (.int ro), .unset, .unset] [(.int n1), (.int mm)]))
          by_cases hc177 : mm = n1
          · refine own_go (fun _ kk => XS.icmpYes X138.here hx rfl (pc0 := 177) (pc' := 199) rfl (hb hby at_177) rfl (XT.ii_eq_t hc177) (by decide) (by decide) (XS.iconst X138.here hx rfl (hb hby at_199) (XS.goto X138.here hx rfl (pc0 := 200) (pc' := 204) rfl (hb hby at_200) (by decide) (by decide) kk))) ?_
            show own_Fin _ _ _ _ _ _ _ (T138.setTop (mkF m 204 #[.val (.int p0), .val (.int p1), .val (.int p2), .val (.int p3), .val (.int p4), .val (.int p5), .val (.int (3 : Int32)), .val (.int (9 : Int32)), .val (.int (81 : Int32)), .val (.int mm), .val (.int c1), .val (.int n1), .val (.int c2), .val (.int n2), .val (.int pr), .val (.ref b75), .val (.int ro), .unset, .unset] [(.int (1 : Int32))]))
            exact J204 _ _ ((1 : Int32)) X138 N138 e138 (by rw [hjJ159, own_f0_159_1, if_neg hc170, if_pos hc177])
          · refine own_go (fun _ kk => XS.icmpNo X138.here hx rfl (hb hby at_177) rfl (XT.ii_eq_f hc177) (XS.iload X138.here hx rfl (hb hby at_180) rfl (XS.iload X138.here hx rfl (hb hby at_182) rfl (XS.iload X138.here hx rfl (hb hby at_184) rfl kk)))) ?_
            show own_Fin _ _ _ _ _ _ _ (T138.setTop (mkF m 186 #[.val (.int p0), .val (.int p1), .val (.int p2), .val (.int p3), .val (.int p4), .val (.int p5), .val (.int (3 : Int32)), .val (.int (9 : Int32)), .val (.int (81 : Int32)), .val (.int mm), .val (.int c1), .val (.int n1), .val (.int c2), .val (.int n2), .val (.int pr), .val (.ref b75), .val (.int ro), .unset, .unset] [(.int (9 : Int32)), (.int c2), (.int pr)]))
            refine own_callS X138 hx hZ hown (hw _ (List.mem_of_getElem? (i := 82) rfl)) (hw _ (List.mem_of_getElem? (i := 83) rfl)) (hw _ (List.mem_of_getElem? (i := 80) rfl)) (hw _ (List.mem_of_getElem? (i := 84) rfl)) (by decide) (rm11 l Z a0 hw pr c2 (9 : Int32) T120.heap n0 Z120 (by decide)) e138 (argsL := [(.int pr), (.int c2), (.int (9 : Int32))]) (rest := []) rfl rfl (by rw [hml]; rfl) (lenOf pd_0_3 rfl) (hb hby at_186) (W := 0) (Nat.le_of_eq rfl) (by decide) (by decide) (by decide) (by decide) ?_
            rintro v146 T146 L146 X146 ⟨rfl, M146, e146⟩
            have N146 := Fr.app N138 M146
            show own_Fin _ _ _ _ _ _ _ (T146.setTop (mkF m 189 #[.val (.int p0), .val (.int p1), .val (.int p2), .val (.int p3), .val (.int p4), .val (.int p5), .val (.int (3 : Int32)), .val (.int (9 : Int32)), .val (.int (81 : Int32)), .val (.int mm), .val (.int c1), .val (.int n1), .val (.int c2), .val (.int n2), .val (.int pr), .val (.ref b75), .val (.int ro), .unset, .unset] [(.int (own_f11 pr c2 (9 : Int32)))]))
            by_cases hc189 : (own_f11 pr c2 (9 : Int32)) = 0
            · refine own_go (fun _ kk => XS.ifYes X146.here hx rfl (pc0 := 189) (pc' := 203) rfl (hb hby at_189) rfl (XT.i0_eq_t hc189) (by decide) (by decide) (XS.iconst X146.here hx rfl (hb hby at_203) kk)) ?_
              show own_Fin _ _ _ _ _ _ _ (T146.setTop (mkF m 204 #[.val (.int p0), .val (.int p1), .val (.int p2), .val (.int p3), .val (.int p4), .val (.int p5), .val (.int (3 : Int32)), .val (.int (9 : Int32)), .val (.int (81 : Int32)), .val (.int mm), .val (.int c1), .val (.int n1), .val (.int c2), .val (.int n2), .val (.int pr), .val (.ref b75), .val (.int ro), .unset, .unset] [(.int (0 : Int32))]))
              exact J204 _ _ ((0 : Int32)) X146 N146 e146 (by rw [hjJ159, own_f0_159_1, if_neg hc170, if_neg hc177, if_pos hc189])
            · refine own_go (fun _ kk => XS.ifNo X146.here hx rfl (hb hby at_189) rfl (XT.i0_eq_f hc189) (XS.iload X146.here hx rfl (hb hby at_192) rfl (XS.iload X146.here hx rfl (hb hby at_194) rfl kk))) ?_
              show own_Fin _ _ _ _ _ _ _ (T146.setTop (mkF m 196 #[.val (.int p0), .val (.int p1), .val (.int p2), .val (.int p3), .val (.int p4), .val (.int p5), .val (.int (3 : Int32)), .val (.int (9 : Int32)), .val (.int (81 : Int32)), .val (.int mm), .val (.int c1), .val (.int n1), .val (.int c2), .val (.int n2), .val (.int pr), .val (.ref b75), .val (.int ro), .unset, .unset] [(.int n2), (.int mm)]))
              by_cases hc196 : mm = n2
              · refine own_go (fun _ kk => XS.icmpNo X146.here hx rfl (hb hby at_196) rfl (XT.ii_ne_f hc196) (XS.iconst X146.here hx rfl (hb hby at_199) (XS.goto X146.here hx rfl (pc0 := 200) (pc' := 204) rfl (hb hby at_200) (by decide) (by decide) kk))) ?_
                show own_Fin _ _ _ _ _ _ _ (T146.setTop (mkF m 204 #[.val (.int p0), .val (.int p1), .val (.int p2), .val (.int p3), .val (.int p4), .val (.int p5), .val (.int (3 : Int32)), .val (.int (9 : Int32)), .val (.int (81 : Int32)), .val (.int mm), .val (.int c1), .val (.int n1), .val (.int c2), .val (.int n2), .val (.int pr), .val (.ref b75), .val (.int ro), .unset, .unset] [(.int (1 : Int32))]))
                exact J204 _ _ ((1 : Int32)) X146 N146 e146 (by rw [hjJ159, own_f0_159_1, if_neg hc170, if_neg hc177, if_neg hc189, if_pos hc196])
              · refine own_go (fun _ kk => XS.icmpYes X146.here hx rfl (pc0 := 196) (pc' := 203) rfl (hb hby at_196) rfl (XT.ii_ne_t hc196) (by decide) (by decide) (XS.iconst X146.here hx rfl (hb hby at_203) kk)) ?_
                show own_Fin _ _ _ _ _ _ _ (T146.setTop (mkF m 204 #[.val (.int p0), .val (.int p1), .val (.int p2), .val (.int p3), .val (.int p4), .val (.int p5), .val (.int (3 : Int32)), .val (.int (9 : Int32)), .val (.int (81 : Int32)), .val (.int mm), .val (.int c1), .val (.int n1), .val (.int c2), .val (.int n2), .val (.int pr), .val (.ref b75), .val (.int ro), .unset, .unset] [(.int (0 : Int32))]))
                exact J204 _ _ ((0 : Int32)) X146 N146 e146 (by rw [hjJ159, own_f0_159_1, if_neg hc170, if_neg hc177, if_neg hc189, if_neg hc196])
      by_cases hc125 : (own_f10 pr c1 (9 : Int32)) = 0
      · refine own_go (fun _ kk => XS.ifYes X137.here hx rfl (pc0 := 125) (pc' := 135) rfl (hb hby at_125) rfl (XT.i0_eq_t hc125) (by decide) (by decide) (XS.iload X137.here hx rfl (hb hby at_135) rfl (XS.iload X137.here hx rfl (hb hby at_137) rfl (XS.iload X137.here hx rfl (hb hby at_139) rfl kk)))) ?_
        show own_Fin _ _ _ _ _ _ _ (T137.setTop (mkF m 141 #[.val (.int p0), .val (.int p1), .val (.int p2), .val (.int p3), .val (.int p4), .val (.int p5), .val (.int (3 : Int32)), .val (.int (9 : Int32)), .val (.int (81 : Int32)), .val (.int mm), .val (.int c1), .val (.int n1), .val (.int c2), .val (.int n2), .val (.int pr), .val (.ref b75), .unset, .unset, .unset] [(.int (9 : Int32)), (.int c2), (.int pr)]))
        refine own_callS X137 hx hZ hown (hw _ (List.mem_of_getElem? (i := 78) rfl)) (hw _ (List.mem_of_getElem? (i := 79) rfl)) (hw _ (List.mem_of_getElem? (i := 80) rfl)) (hw _ (List.mem_of_getElem? (i := 81) rfl)) (by decide) (rm10 l Z a0 hw pr c2 (9 : Int32) T120.heap n0 Z120 (by decide)) e137 (argsL := [(.int pr), (.int c2), (.int (9 : Int32))]) (rest := []) rfl rfl (by rw [hml]; rfl) (lenOf pd_0_3 rfl) (hb hby at_141) (W := 0) (Nat.le_of_eq rfl) (by decide) (by decide) (by decide) (by decide) ?_
        rintro v147 T147 L147 X147 ⟨rfl, M147, e147⟩
        have N147 := Fr.app N137 M147
        show own_Fin _ _ _ _ _ _ _ (T147.setTop (mkF m 144 #[.val (.int p0), .val (.int p1), .val (.int p2), .val (.int p3), .val (.int p4), .val (.int p5), .val (.int (3 : Int32)), .val (.int (9 : Int32)), .val (.int (81 : Int32)), .val (.int mm), .val (.int c1), .val (.int n1), .val (.int c2), .val (.int n2), .val (.int pr), .val (.ref b75), .unset, .unset, .unset] [(.int (own_f10 pr c2 (9 : Int32)))]))
        by_cases hc144 : (own_f10 pr c2 (9 : Int32)) = 0
        · refine own_go (fun _ kk => XS.ifYes X147.here hx rfl (pc0 := 144) (pc' := 158) rfl (hb hby at_144) rfl (XT.i0_eq_t hc144) (by decide) (by decide) (XS.iconst X147.here hx rfl (hb hby at_158) kk)) ?_
          show own_Fin _ _ _ _ _ _ _ (T147.setTop (mkF m 159 #[.val (.int p0), .val (.int p1), .val (.int p2), .val (.int p3), .val (.int p4), .val (.int p5), .val (.int (3 : Int32)), .val (.int (9 : Int32)), .val (.int (81 : Int32)), .val (.int mm), .val (.int c1), .val (.int n1), .val (.int c2), .val (.int n2), .val (.int pr), .val (.ref b75), .unset, .unset, .unset] [(.int (0 : Int32))]))
          exact J159 _ _ ((0 : Int32)) X147 N147 e147 (by rw [hjJ80, own_f0_80_1, if_pos hc125, if_pos hc144])
        · refine own_go (fun _ kk => XS.ifNo X147.here hx rfl (hb hby at_144) rfl (XT.i0_eq_f hc144) (XS.iload X147.here hx rfl (hb hby at_147) rfl (XS.iload X147.here hx rfl (hb hby at_149) rfl kk))) ?_
          show own_Fin _ _ _ _ _ _ _ (T147.setTop (mkF m 151 #[.val (.int p0), .val (.int p1), .val (.int p2), .val (.int p3), .val (.int p4), .val (.int p5), .val (.int (3 : Int32)), .val (.int (9 : Int32)), .val (.int (81 : Int32)), .val (.int mm), .val (.int c1), .val (.int n1), .val (.int c2), .val (.int n2), .val (.int pr), .val (.ref b75), .unset, .unset, .unset] [(.int n2), (.int mm)]))
          by_cases hc151 : mm = n2
          · refine own_go (fun _ kk => XS.icmpNo X147.here hx rfl (hb hby at_151) rfl (XT.ii_ne_f hc151) (XS.iconst X147.here hx rfl (hb hby at_154) (XS.goto X147.here hx rfl (pc0 := 155) (pc' := 159) rfl (hb hby at_155) (by decide) (by decide) kk))) ?_
            show own_Fin _ _ _ _ _ _ _ (T147.setTop (mkF m 159 #[.val (.int p0), .val (.int p1), .val (.int p2), .val (.int p3), .val (.int p4), .val (.int p5), .val (.int (3 : Int32)), .val (.int (9 : Int32)), .val (.int (81 : Int32)), .val (.int mm), .val (.int c1), .val (.int n1), .val (.int c2), .val (.int n2), .val (.int pr), .val (.ref b75), .unset, .unset, .unset] [(.int (1 : Int32))]))
            exact J159 _ _ ((1 : Int32)) X147 N147 e147 (by rw [hjJ80, own_f0_80_1, if_pos hc125, if_neg hc144, if_pos hc151])
          · refine own_go (fun _ kk => XS.icmpYes X147.here hx rfl (pc0 := 151) (pc' := 158) rfl (hb hby at_151) rfl (XT.ii_ne_t hc151) (by decide) (by decide) (XS.iconst X147.here hx rfl (hb hby at_158) kk)) ?_
            show own_Fin _ _ _ _ _ _ _ (T147.setTop (mkF m 159 #[.val (.int p0), .val (.int p1), .val (.int p2), .val (.int p3), .val (.int p4), .val (.int p5), .val (.int (3 : Int32)), .val (.int (9 : Int32)), .val (.int (81 : Int32)), .val (.int mm), .val (.int c1), .val (.int n1), .val (.int c2), .val (.int n2), .val (.int pr), .val (.ref b75), .unset, .unset, .unset] [(.int (0 : Int32))]))
            exact J159 _ _ ((0 : Int32)) X147 N147 e147 (by rw [hjJ80, own_f0_80_1, if_pos hc125, if_neg hc144, if_neg hc151])
      · refine own_go (fun _ kk => XS.ifNo X137.here hx rfl (hb hby at_125) rfl (XT.i0_eq_f hc125) (XS.iload X137.here hx rfl (hb hby at_128) rfl (XS.iload X137.here hx rfl (hb hby at_130) rfl kk))) ?_
        show own_Fin _ _ _ _ _ _ _ (T137.setTop (mkF m 132 #[.val (.int p0), .val (.int p1), .val (.int p2), .val (.int p3), .val (.int p4), .val (.int p5), .val (.int (3 : Int32)), .val (.int (9 : Int32)), .val (.int (81 : Int32)), .val (.int mm), .val (.int c1), .val (.int n1), .val (.int c2), .val (.int n2), .val (.int pr), .val (.ref b75), .unset, .unset, .unset] [(.int n1), (.int mm)]))
        by_cases hc132 : mm = n1
        · refine own_go (fun _ kk => XS.icmpYes X137.here hx rfl (pc0 := 132) (pc' := 154) rfl (hb hby at_132) rfl (XT.ii_eq_t hc132) (by decide) (by decide) (XS.iconst X137.here hx rfl (hb hby at_154) (XS.goto X137.here hx rfl (pc0 := 155) (pc' := 159) rfl (hb hby at_155) (by decide) (by decide) kk))) ?_
          show own_Fin _ _ _ _ _ _ _ (T137.setTop (mkF m 159 #[.val (.int p0), .val (.int p1), .val (.int p2), .val (.int p3), .val (.int p4), .val (.int p5), .val (.int (3 : Int32)), .val (.int (9 : Int32)), .val (.int (81 : Int32)), .val (.int mm), .val (.int c1), .val (.int n1), .val (.int c2), .val (.int n2), .val (.int pr), .val (.ref b75), .unset, .unset, .unset] [(.int (1 : Int32))]))
          exact J159 _ _ ((1 : Int32)) X137 N137 e137 (by rw [hjJ80, own_f0_80_1, if_neg hc125, if_pos hc132])
        · refine own_go (fun _ kk => XS.icmpNo X137.here hx rfl (hb hby at_132) rfl (XT.ii_eq_f hc132) (XS.iload X137.here hx rfl (hb hby at_135) rfl (XS.iload X137.here hx rfl (hb hby at_137) rfl (XS.iload X137.here hx rfl (hb hby at_139) rfl kk)))) ?_
          show own_Fin _ _ _ _ _ _ _ (T137.setTop (mkF m 141 #[.val (.int p0), .val (.int p1), .val (.int p2), .val (.int p3), .val (.int p4), .val (.int p5), .val (.int (3 : Int32)), .val (.int (9 : Int32)), .val (.int (81 : Int32)), .val (.int mm), .val (.int c1), .val (.int n1), .val (.int c2), .val (.int n2), .val (.int pr), .val (.ref b75), .unset, .unset, .unset] [(.int (9 : Int32)), (.int c2), (.int pr)]))
          refine own_callS X137 hx hZ hown (hw _ (List.mem_of_getElem? (i := 78) rfl)) (hw _ (List.mem_of_getElem? (i := 79) rfl)) (hw _ (List.mem_of_getElem? (i := 80) rfl)) (hw _ (List.mem_of_getElem? (i := 81) rfl)) (by decide) (rm10 l Z a0 hw pr c2 (9 : Int32) T120.heap n0 Z120 (by decide)) e137 (argsL := [(.int pr), (.int c2), (.int (9 : Int32))]) (rest := []) rfl rfl (by rw [hml]; rfl) (lenOf pd_0_3 rfl) (hb hby at_141) (W := 0) (Nat.le_of_eq rfl) (by decide) (by decide) (by decide) (by decide) ?_
          rintro v148 T148 L148 X148 ⟨rfl, M148, e148⟩
          have N148 := Fr.app N137 M148
          show own_Fin _ _ _ _ _ _ _ (T148.setTop (mkF m 144 #[.val (.int p0), .val (.int p1), .val (.int p2), .val (.int p3), .val (.int p4), .val (.int p5), .val (.int (3 : Int32)), .val (.int (9 : Int32)), .val (.int (81 : Int32)), .val (.int mm), .val (.int c1), .val (.int n1), .val (.int c2), .val (.int n2), .val (.int pr), .val (.ref b75), .unset, .unset, .unset] [(.int (own_f10 pr c2 (9 : Int32)))]))
          by_cases hc144 : (own_f10 pr c2 (9 : Int32)) = 0
          · refine own_go (fun _ kk => XS.ifYes X148.here hx rfl (pc0 := 144) (pc' := 158) rfl (hb hby at_144) rfl (XT.i0_eq_t hc144) (by decide) (by decide) (XS.iconst X148.here hx rfl (hb hby at_158) kk)) ?_
            show own_Fin _ _ _ _ _ _ _ (T148.setTop (mkF m 159 #[.val (.int p0), .val (.int p1), .val (.int p2), .val (.int p3), .val (.int p4), .val (.int p5), .val (.int (3 : Int32)), .val (.int (9 : Int32)), .val (.int (81 : Int32)), .val (.int mm), .val (.int c1), .val (.int n1), .val (.int c2), .val (.int n2), .val (.int pr), .val (.ref b75), .unset, .unset, .unset] [(.int (0 : Int32))]))
            exact J159 _ _ ((0 : Int32)) X148 N148 e148 (by rw [hjJ80, own_f0_80_1, if_neg hc125, if_neg hc132, if_pos hc144])
          · refine own_go (fun _ kk => XS.ifNo X148.here hx rfl (hb hby at_144) rfl (XT.i0_eq_f hc144) (XS.iload X148.here hx rfl (hb hby at_147) rfl (XS.iload X148.here hx rfl (hb hby at_149) rfl kk))) ?_
            show own_Fin _ _ _ _ _ _ _ (T148.setTop (mkF m 151 #[.val (.int p0), .val (.int p1), .val (.int p2), .val (.int p3), .val (.int p4), .val (.int p5), .val (.int (3 : Int32)), .val (.int (9 : Int32)), .val (.int (81 : Int32)), .val (.int mm), .val (.int c1), .val (.int n1), .val (.int c2), .val (.int n2), .val (.int pr), .val (.ref b75), .unset, .unset, .unset] [(.int n2), (.int mm)]))
            by_cases hc151 : mm = n2
            · refine own_go (fun _ kk => XS.icmpNo X148.here hx rfl (hb hby at_151) rfl (XT.ii_ne_f hc151) (XS.iconst X148.here hx rfl (hb hby at_154) (XS.goto X148.here hx rfl (pc0 := 155) (pc' := 159) rfl (hb hby at_155) (by decide) (by decide) kk))) ?_
              show own_Fin _ _ _ _ _ _ _ (T148.setTop (mkF m 159 #[.val (.int p0), .val (.int p1), .val (.int p2), .val (.int p3), .val (.int p4), .val (.int p5), .val (.int (3 : Int32)), .val (.int (9 : Int32)), .val (.int (81 : Int32)), .val (.int mm), .val (.int c1), .val (.int n1), .val (.int c2), .val (.int n2), .val (.int pr), .val (.ref b75), .unset, .unset, .unset] [(.int (1 : Int32))]))
              exact J159 _ _ ((1 : Int32)) X148 N148 e148 (by rw [hjJ80, own_f0_80_1, if_neg hc125, if_neg hc132, if_neg hc144, if_pos hc151])
            · refine own_go (fun _ kk => XS.icmpYes X148.here hx rfl (pc0 := 151) (pc' := 158) rfl (hb hby at_151) rfl (XT.ii_ne_t hc151) (by decide) (by decide) (XS.iconst X148.here hx rfl (hb hby at_158) kk)) ?_
              show own_Fin _ _ _ _ _ _ _ (T148.setTop (mkF m 159 #[.val (.int p0), .val (.int p1), .val (.int p2), .val (.int p3), .val (.int p4), .val (.int p5), .val (.int (3 : Int32)), .val (.int (9 : Int32)), .val (.int (81 : Int32)), .val (.int mm), .val (.int c1), .val (.int n1), .val (.int c2), .val (.int n2), .val (.int pr), .val (.ref b75), .unset, .unset, .unset] [(.int (0 : Int32))]))
              exact J159 _ _ ((0 : Int32)) X148 N148 e148 (by rw [hjJ80, own_f0_80_1, if_neg hc125, if_neg hc132, if_neg hc144, if_neg hc151])
    refine own_go (fun _ kk => XS.iloadN X0.here hx rfl (hb hby at_21) rfl (XS.iconst X0.here hx rfl (hb hby at_22) (XS.iushr X0.here hx rfl (hb hby at_23) rfl (XS.bipush X0.here hx rfl (hb hby at_24) (XS.iand X0.here hx rfl (hb hby at_26) rfl (XS.istore X0.here hx rfl (hb hby at_27) rfl (l' := #[.val (.int p0), .val (.int p1), .val (.int p2), .val (.int p3), .val (.int p4), .val (.int p5), .val (.int (3 : Int32)), .val (.int (9 : Int32)), .val (.int (81 : Int32)), .val (.int (((p0.toUInt32 >>> ((1 : Int32) &&& 31).toUInt32).toInt32) &&& (63 : Int32))), .unset, .unset, .unset, .unset, .unset, .unset, .unset, .unset, .unset]) rfl (XS.iloadN X0.here hx rfl (hb hby at_29) rfl (X0.ldcI hx hown (mvT hZ (hw _ (List.mem_of_getElem? (i := 0) rfl))) rfl (hb hby at_30) (XS.iand X0.here hx rfl (hb hby at_32) rfl (XS.iload X0.here hx rfl (hb hby at_33) rfl kk)))))))))) ?_
    show own_Fin _ _ _ _ _ _ _ (s₁.setTop (mkF m 35 #[.val (.int p0), .val (.int p1), .val (.int p2), .val (.int p3), .val (.int p4), .val (.int p5), .val (.int (3 : Int32)), .val (.int (9 : Int32)), .val (.int (81 : Int32)), .val (.int (((p0.toUInt32 >>> ((1 : Int32) &&& 31).toUInt32).toInt32) &&& (63 : Int32))), .unset, .unset, .unset, .unset, .unset, .unset, .unset, .unset, .unset] [(.int (81 : Int32)), (.int (p1 &&& (2147483647 : Int32)))]))
    refine own_go (fun _ kk => iremM X0 hx rfl (hb hby at_35) rfl (by decide) (XS.istore X0.here hx rfl (hb hby at_36) rfl (l' := #[.val (.int p0), .val (.int p1), .val (.int p2), .val (.int p3), .val (.int p4), .val (.int p5), .val (.int (3 : Int32)), .val (.int (9 : Int32)), .val (.int (81 : Int32)), .val (.int (((p0.toUInt32 >>> ((1 : Int32) &&& 31).toUInt32).toInt32) &&& (63 : Int32))), .val (.int ((p1 &&& (2147483647 : Int32)) % (81 : Int32))), .unset, .unset, .unset, .unset, .unset, .unset, .unset, .unset]) rfl (XS.iconst X0.here hx rfl (hb hby at_38) (XS.iloadN X0.here hx rfl (hb hby at_39) rfl (X0.ldcI hx hown (mvT hZ (hw _ (List.mem_of_getElem? (i := 0) rfl))) rfl (hb hby at_40) (XS.iand X0.here hx rfl (hb hby at_42) rfl (XS.iload X0.here hx rfl (hb hby at_43) rfl (iremM X0 hx rfl (hb hby at_45) rfl (by decide) (XS.iadd X0.here hx rfl (hb hby at_46) rfl (XS.istore X0.here hx rfl (hb hby at_47) rfl (l' := #[.val (.int p0), .val (.int p1), .val (.int p2), .val (.int p3), .val (.int p4), .val (.int p5), .val (.int (3 : Int32)), .val (.int (9 : Int32)), .val (.int (81 : Int32)), .val (.int (((p0.toUInt32 >>> ((1 : Int32) &&& 31).toUInt32).toInt32) &&& (63 : Int32))), .val (.int ((p1 &&& (2147483647 : Int32)) % (81 : Int32))), .val (.int ((1 : Int32) + ((p2 &&& (2147483647 : Int32)) % (9 : Int32)))), .unset, .unset, .unset, .unset, .unset, .unset, .unset]) rfl kk)))))))))) ?_
    show own_Fin _ _ _ _ _ _ _ (s₁.setTop (mkF m 49 #[.val (.int p0), .val (.int p1), .val (.int p2), .val (.int p3), .val (.int p4), .val (.int p5), .val (.int (3 : Int32)), .val (.int (9 : Int32)), .val (.int (81 : Int32)), .val (.int (((p0.toUInt32 >>> ((1 : Int32) &&& 31).toUInt32).toInt32) &&& (63 : Int32))), .val (.int ((p1 &&& (2147483647 : Int32)) % (81 : Int32))), .val (.int ((1 : Int32) + ((p2 &&& (2147483647 : Int32)) % (9 : Int32)))), .unset, .unset, .unset, .unset, .unset, .unset, .unset] []))
    refine own_go (fun _ kk => XS.iloadN X0.here hx rfl (hb hby at_49) rfl (X0.ldcI hx hown (mvT hZ (hw _ (List.mem_of_getElem? (i := 0) rfl))) rfl (hb hby at_50) (XS.iand X0.here hx rfl (hb hby at_52) rfl (XS.iload X0.here hx rfl (hb hby at_53) rfl (iremM X0 hx rfl (hb hby at_55) rfl (by decide) (XS.istore X0.here hx rfl (hb hby at_56) rfl (l' := #[.val (.int p0), .val (.int p1), .val (.int p2), .val (.int p3), .val (.int p4), .val (.int p5), .val (.int (3 : Int32)), .val (.int (9 : Int32)), .val (.int (81 : Int32)), .val (.int (((p0.toUInt32 >>> ((1 : Int32) &&& 31).toUInt32).toInt32) &&& (63 : Int32))), .val (.int ((p1 &&& (2147483647 : Int32)) % (81 : Int32))), .val (.int ((1 : Int32) + ((p2 &&& (2147483647 : Int32)) % (9 : Int32)))), .val (.int ((p3 &&& (2147483647 : Int32)) % (81 : Int32))), .unset, .unset, .unset, .unset, .unset, .unset]) rfl (XS.iconst X0.here hx rfl (hb hby at_58) (XS.iload X0.here hx rfl (hb hby at_59) rfl (X0.ldcI hx hown (mvT hZ (hw _ (List.mem_of_getElem? (i := 0) rfl))) rfl (hb hby at_61) (XS.iand X0.here hx rfl (hb hby at_63) rfl kk)))))))))) ?_
    show own_Fin _ _ _ _ _ _ _ (s₁.setTop (mkF m 64 #[.val (.int p0), .val (.int p1), .val (.int p2), .val (.int p3), .val (.int p4), .val (.int p5), .val (.int (3 : Int32)), .val (.int (9 : Int32)), .val (.int (81 : Int32)), .val (.int (((p0.toUInt32 >>> ((1 : Int32) &&& 31).toUInt32).toInt32) &&& (63 : Int32))), .val (.int ((p1 &&& (2147483647 : Int32)) % (81 : Int32))), .val (.int ((1 : Int32) + ((p2 &&& (2147483647 : Int32)) % (9 : Int32)))), .val (.int ((p3 &&& (2147483647 : Int32)) % (81 : Int32))), .unset, .unset, .unset, .unset, .unset, .unset] [(.int (p4 &&& (2147483647 : Int32))), (.int (1 : Int32))]))
    refine own_go (fun _ kk => XS.iload X0.here hx rfl (hb hby at_64) rfl (iremM X0 hx rfl (hb hby at_66) rfl (by decide) (XS.iadd X0.here hx rfl (hb hby at_67) rfl (XS.istore X0.here hx rfl (hb hby at_68) rfl (l' := #[.val (.int p0), .val (.int p1), .val (.int p2), .val (.int p3), .val (.int p4), .val (.int p5), .val (.int (3 : Int32)), .val (.int (9 : Int32)), .val (.int (81 : Int32)), .val (.int (((p0.toUInt32 >>> ((1 : Int32) &&& 31).toUInt32).toInt32) &&& (63 : Int32))), .val (.int ((p1 &&& (2147483647 : Int32)) % (81 : Int32))), .val (.int ((1 : Int32) + ((p2 &&& (2147483647 : Int32)) % (9 : Int32)))), .val (.int ((p3 &&& (2147483647 : Int32)) % (81 : Int32))), .val (.int ((1 : Int32) + ((p4 &&& (2147483647 : Int32)) % (9 : Int32)))), .unset, .unset, .unset, .unset, .unset]) rfl (XS.iload X0.here hx rfl (hb hby at_70) rfl (X0.ldcI hx hown (mvT hZ (hw _ (List.mem_of_getElem? (i := 0) rfl))) rfl (hb hby at_72) (XS.iand X0.here hx rfl (hb hby at_74) rfl (XS.iload X0.here hx rfl (hb hby at_75) rfl (iremM X0 hx rfl (hb hby at_77) rfl (by decide) (XS.istore X0.here hx rfl (hb hby at_78) rfl (l' := #[.val (.int p0), .val (.int p1), .val (.int p2), .val (.int p3), .val (.int p4), .val (.int p5), .val (.int (3 : Int32)), .val (.int (9 : Int32)), .val (.int (81 : Int32)), .val (.int (((p0.toUInt32 >>> ((1 : Int32) &&& 31).toUInt32).toInt32) &&& (63 : Int32))), .val (.int ((p1 &&& (2147483647 : Int32)) % (81 : Int32))), .val (.int ((1 : Int32) + ((p2 &&& (2147483647 : Int32)) % (9 : Int32)))), .val (.int ((p3 &&& (2147483647 : Int32)) % (81 : Int32))), .val (.int ((1 : Int32) + ((p4 &&& (2147483647 : Int32)) % (9 : Int32)))), .val (.int ((p5 &&& (2147483647 : Int32)) % (81 : Int32))), .unset, .unset, .unset, .unset]) rfl kk)))))))))) ?_
    show own_Fin _ _ _ _ _ _ _ (s₁.setTop (mkF m 80 #[.val (.int p0), .val (.int p1), .val (.int p2), .val (.int p3), .val (.int p4), .val (.int p5), .val (.int (3 : Int32)), .val (.int (9 : Int32)), .val (.int (81 : Int32)), .val (.int (((p0.toUInt32 >>> ((1 : Int32) &&& 31).toUInt32).toInt32) &&& (63 : Int32))), .val (.int ((p1 &&& (2147483647 : Int32)) % (81 : Int32))), .val (.int ((1 : Int32) + ((p2 &&& (2147483647 : Int32)) % (9 : Int32)))), .val (.int ((p3 &&& (2147483647 : Int32)) % (81 : Int32))), .val (.int ((1 : Int32) + ((p4 &&& (2147483647 : Int32)) % (9 : Int32)))), .val (.int ((p5 &&& (2147483647 : Int32)) % (81 : Int32))), .unset, .unset, .unset, .unset] []))
    exact J80 _ _ ((((p0.toUInt32 >>> ((1 : Int32) &&& 31).toUInt32).toInt32) &&& (63 : Int32))) (((p1 &&& (2147483647 : Int32)) % (81 : Int32))) (((1 : Int32) + ((p2 &&& (2147483647 : Int32)) % (9 : Int32)))) (((p3 &&& (2147483647 : Int32)) % (81 : Int32))) (((1 : Int32) + ((p4 &&& (2147483647 : Int32)) % (9 : Int32)))) (((p5 &&& (2147483647 : Int32)) % (81 : Int32))) X0 N0 e0 (by rw [own_f0, if_neg hbs]) (own_cl _ (81 : Int32) 81 (by decide) (by decide)) (own_cl _ (81 : Int32) 81 (by decide) (by decide)) (own_cl _ (81 : Int32) 81 (by decide) (by decide))

def own_bt (k : Nat) : Int64 := (1 : Int64) <<< (Int32.ofNat k &&& 0x3f).toInt64
theorem own_b1 : ∀ a, a < 10 → ∀ m, m < 64 → (own_bt a &&& own_bt m = 0 ↔ ¬ a = m) := by decide +kernel
theorem own_b2 : ∀ a, a < 10 → ∀ b, b < 10 → ∀ m, m < 64 → ((own_bt a ||| own_bt b) &&& own_bt m = 0 ↔ ¬ (a = m ∨ b = m)) := by decide +kernel
theorem own_asN {x : Int32} (h : ¬ x < 0) : x = Int32.ofNat x.toNatClampNeg := (back32 h).1.symm
theorem own_inj {x y : Int32} (hx : ¬ x < 0) (hy : ¬ y < 0) (h : x.toNatClampNeg = y.toNatClampNeg) : x = y := by rw [own_asN hx, own_asN hy, h]
theorem own_injN {a b : Nat} (ha : a < 2 ^ 31) (hb : b < 2 ^ 31) : Int32.ofNat a = Int32.ofNat b ↔ a = b := ⟨fun h => by rw [← own_tn ha, ← own_tn hb, h], fun h => by rw [h]⟩
theorem own_updget (hs : List Int64) (u : Int32) (b : Int64) (x : Nat) (hu : u.toNatClampNeg < hs.length) : List.getD (own_upd hs u b) x 0 = if x = u.toNatClampNeg then List.getD hs x 0 ||| b else List.getD hs x 0 := by
  unfold own_upd
  by_cases h : x = u.toNatClampNeg
  · subst h
    rw [if_pos rfl]
    simp [List.getD_eq_getElem?_getD, hu]
  · rw [if_neg h]
    simp only [List.getD_eq_getElem?_getD]
    rw [List.getElem?_set_ne (fun q => h q.symm)]
theorem own_choose0 {α : Type} (g : Int32 → α) (A B P Q : Prop) [Decidable A] [Decidable B] [Decidable P] [Decidable Q] : (if A then (if B then g (0 : Int32) else if Q then g (1 : Int32) else g (0 : Int32)) else if P then g (1 : Int32) else if B then g (0 : Int32) else if Q then g (1 : Int32) else g (0 : Int32)) = g (if (¬ A ∧ P) ∨ (¬ B ∧ Q) then 1 else 0) := by
  by_cases h1 : A <;> by_cases h2 : B <;> by_cases h3 : P <;> by_cases h4 : Q <;> simp [h1, h2, h3, h4]
theorem own_choose (g : Int32 → Int32) (s1 s2 mm n1 n2 : Int32) : (if s1 = 0 then (if s2 = 0 then g (0 : Int32) else if mm = n2 then g (1 : Int32) else g (0 : Int32)) else if mm = n1 then g (1 : Int32) else if s2 = 0 then g (0 : Int32) else if mm = n2 then g (1 : Int32) else g (0 : Int32)) = g (if (¬ s1 = 0 ∧ mm = n1) ∨ (¬ s2 = 0 ∧ mm = n2) then 1 else 0) :=
  own_choose0 g _ _ _ _
theorem own_zor (x : Int64) : (0 : Int64) ||| x = x := Int64.zero_or
theorem own_ite3 {P Q : Prop} [Decidable P] [Decidable Q] (h : P ↔ ¬ Q) : (if P then (0 : Int32) else 1) = if Q then 1 else 0 := by
  by_cases q : Q
  · rw [if_neg (fun p => h.mp p q), if_pos q]
  · rw [if_pos (h.mpr q), if_neg q]
/-- one unit, after two numbers have been placed -/
theorem own_unit {z1 z2 : Prop} [Decidable z1] [Decidable z2] {a b m : Nat} (ha : a < 10) (hb : b < 10) (hm : m < 64) (v : Int64) (hv : v = (if z1 then own_bt a else 0) ||| (if z2 then own_bt b else 0)) : v &&& own_bt m = 0 ↔ ¬ ((z1 ∧ m = a) ∨ (z2 ∧ m = b)) := by
  subst hv
  by_cases h1 : z1 <;> by_cases h2 : z2
  · rw [if_pos h1, if_pos h2, own_b2 a ha b hb m hm]
    simp only [h1, h2, true_and]
    omega
  · rw [if_pos h1, if_neg h2, Int64.or_zero, own_b1 a ha m hm]
    simp only [h1, h2, true_and, false_and, or_false]
    omega
  · rw [if_neg h1, if_pos h2, own_zor, own_b1 b hb m hm]
    simp only [h1, h2, true_and, false_and, false_or]
    omega
  · rw [if_neg h1, if_neg h2]
    simp [h1, h2]

theorem own_rg2 : ∀ j, j < 16 → (own_fR2 j).toNatClampNeg < 4 ∧ (4 ≤ (own_fC2 j).toNatClampNeg ∧ (own_fC2 j).toNatClampNeg < 8) ∧ (8 ≤ (own_fB2 j).toNatClampNeg ∧ (own_fB2 j).toNatClampNeg < 12) := by decide +kernel
theorem own_relC2 : ∀ k, k < 16 → ∀ j, j < 16 → (own_f11 (Int32.ofNat k) (Int32.ofNat j) (4 : Int32) = 0 ↔ ¬ (own_fC2 k).toNatClampNeg = (own_fC2 j).toNatClampNeg) := by decide +kernel
theorem own_relR2 : ∀ k, k < 16 → ∀ j, j < 16 → (own_f10 (Int32.ofNat k) (Int32.ofNat j) (4 : Int32) = 0 ↔ ¬ (own_fR2 k).toNatClampNeg = (own_fR2 j).toNatClampNeg) := by decide +kernel
theorem own_relB2 : ∀ k, k < 16 → ∀ j, j < 16 → (own_f12 (Int32.ofNat k) (Int32.ofNat j) (4 : Int32) (2 : Int32) = 0 ↔ ¬ (own_fB2 k).toNatClampNeg = (own_fB2 j).toNatClampNeg) := by decide +kernel
theorem own_plget2 (hs : List Int64) (hl : hs.length = 12) (j : Nat) (hj : j < 16) (b : Int64) (x : Nat) (w : Nat)
    (hw : (x < 4 ∧ w = (own_fR2 j).toNatClampNeg) ∨ (4 ≤ x ∧ x < 8 ∧ w = (own_fC2 j).toNatClampNeg) ∨ (8 ≤ x ∧ w = (own_fB2 j).toNatClampNeg)) :
    List.getD (own_pl2 hs (Int32.ofNat j) b) x 0 = if x = w then List.getD hs x 0 ||| b else List.getD hs x 0 := by
  obtain ⟨r1, ⟨r2, r3⟩, r4, r5⟩ := own_rg2 j hj
  unfold own_pl2
  rw [own_tn (show j < 2 ^ 31 by omega)]
  rw [own_updget _ _ _ _ (by rw [own_updlen, own_updlen, hl]; omega), own_updget _ _ _ _ (by rw [own_updlen, hl]; omega), own_updget _ _ _ _ (by rw [hl]; omega)]
  rcases hw with ⟨h1, rfl⟩ | ⟨h1, h2, rfl⟩ | ⟨h1, rfl⟩
  · rw [if_neg (show ¬ x = (own_fB2 j).toNatClampNeg by omega), if_neg (show ¬ x = (own_fC2 j).toNatClampNeg by omega)]
  · rw [if_neg (show ¬ x = (own_fB2 j).toNatClampNeg by omega), if_neg (show ¬ x = (own_fR2 j).toNatClampNeg by omega)]
  · rw [if_neg (show ¬ x = (own_fC2 j).toNatClampNeg by omega), if_neg (show ¬ x = (own_fR2 j).toNatClampNeg by omega)]
theorem own_two2 (j1 j2 : Nat) (h1 : j1 < 16) (h2 : j2 < 16) (b1 b2 : Int64) (x w1 w2 : Nat)
    (hw1 : (x < 4 ∧ w1 = (own_fR2 j1).toNatClampNeg) ∨ (4 ≤ x ∧ x < 8 ∧ w1 = (own_fC2 j1).toNatClampNeg) ∨ (8 ≤ x ∧ w1 = (own_fB2 j1).toNatClampNeg))
    (hw2 : (x < 4 ∧ w2 = (own_fR2 j2).toNatClampNeg) ∨ (4 ≤ x ∧ x < 8 ∧ w2 = (own_fC2 j2).toNatClampNeg) ∨ (8 ≤ x ∧ w2 = (own_fB2 j2).toNatClampNeg)) :
    List.getD (own_pl2 (own_pl2 (List.replicate 12 (0 : Int64)) (Int32.ofNat j1) b1) (Int32.ofNat j2) b2) x 0 = (if x = w1 then b1 else 0) ||| (if x = w2 then b2 else 0) := by
  have hz : List.getD (List.replicate 12 (0 : Int64)) x 0 = 0 := by
    simp only [List.getD_eq_getElem?_getD, List.getElem?_replicate]
    split <;> rfl
  rw [own_plget2 _ ((own_pllen2 _ _ _).trans List.length_replicate) j2 h2 b2 x w2 hw2, own_plget2 _ List.length_replicate j1 h1 b1 x w1 hw1, hz]
  by_cases q1 : x = w1 <;> by_cases q2 : x = w2
  · rw [if_pos q1, if_pos q2, if_pos q1, if_pos q2, own_zor]
  · rw [if_pos q1, if_neg q2, if_pos q1, if_neg q2, own_zor, Int64.or_zero]
  · rw [if_neg q1, if_pos q2, if_neg q1, if_pos q2]
  · rw [if_neg q1, if_neg q2, if_neg q1, if_neg q2, own_zor]
theorem own_main2 (p0 p1 p2 p3 p4 p5 : Int32) (m j1 a j2 b k : Nat) (hm : m < 64) (h1 : j1 < 16) (ha : a < 10) (h2 : j2 < 16) (hb : b < 10) (hk : k < 16) : own_f0_80 p0 p1 p2 p3 p4 p5 (Int32.ofNat m) (Int32.ofNat j1) (Int32.ofNat a) (Int32.ofNat j2) (Int32.ofNat b) (Int32.ofNat k) = 1 := by
  obtain ⟨r1, ⟨r2, r3⟩, r4, r5⟩ := own_rg2 k hk
  have ek : (Int32.ofNat k).toNatClampNeg = k := own_tn (by omega)
  have n1 : (Int32.ofNat m = Int32.ofNat a) ↔ m = a := own_injN (by omega) (by omega)
  have n2 : (Int32.ofNat m = Int32.ofNat b) ↔ m = b := own_injN (by omega) (by omega)
  have eR : own_f13g2 (own_pl2 (own_pl2 (List.replicate 12 (0 : Int64)) (Int32.ofNat j1) ((1 : Int64) <<< (Int32.ofNat a &&& 0x3f).toInt64)) (Int32.ofNat j2) ((1 : Int64) <<< (Int32.ofNat b &&& 0x3f).toInt64)) (Int32.ofNat k) (Int32.ofNat m) = if (¬ own_f10 (Int32.ofNat k) (Int32.ofNat j1) (4 : Int32) = 0 ∧ Int32.ofNat m = Int32.ofNat a) ∨ (¬ own_f10 (Int32.ofNat k) (Int32.ofNat j2) (4 : Int32) = 0 ∧ Int32.ofNat m = Int32.ofNat b) then 1 else 0 := by
    unfold own_f13g2
    refine own_ite3 ?_
    rw [ek, own_relR2 k hk j1 h1, own_relR2 k hk j2 h2, n1, n2, Decidable.not_not, Decidable.not_not]
    exact own_unit ha hb hm _ (own_two2 j1 j2 h1 h2 _ _ _ _ _ (Or.inl ⟨r1, rfl⟩) (Or.inl ⟨r1, rfl⟩))
  have eC : own_f14g2 (own_pl2 (own_pl2 (List.replicate 12 (0 : Int64)) (Int32.ofNat j1) ((1 : Int64) <<< (Int32.ofNat a &&& 0x3f).toInt64)) (Int32.ofNat j2) ((1 : Int64) <<< (Int32.ofNat b &&& 0x3f).toInt64)) (Int32.ofNat k) (Int32.ofNat m) = if (¬ own_f11 (Int32.ofNat k) (Int32.ofNat j1) (4 : Int32) = 0 ∧ Int32.ofNat m = Int32.ofNat a) ∨ (¬ own_f11 (Int32.ofNat k) (Int32.ofNat j2) (4 : Int32) = 0 ∧ Int32.ofNat m = Int32.ofNat b) then 1 else 0 := by
    unfold own_f14g2
    refine own_ite3 ?_
    rw [ek, own_relC2 k hk j1 h1, own_relC2 k hk j2 h2, n1, n2, Decidable.not_not, Decidable.not_not]
    exact own_unit ha hb hm _ (own_two2 j1 j2 h1 h2 _ _ _ _ _ (Or.inr (Or.inl ⟨r2, r3, rfl⟩)) (Or.inr (Or.inl ⟨r2, r3, rfl⟩)))
  have eB : own_f15g2 (own_pl2 (own_pl2 (List.replicate 12 (0 : Int64)) (Int32.ofNat j1) ((1 : Int64) <<< (Int32.ofNat a &&& 0x3f).toInt64)) (Int32.ofNat j2) ((1 : Int64) <<< (Int32.ofNat b &&& 0x3f).toInt64)) (Int32.ofNat k) (Int32.ofNat m) = if (¬ own_f12 (Int32.ofNat k) (Int32.ofNat j1) (4 : Int32) (2 : Int32) = 0 ∧ Int32.ofNat m = Int32.ofNat a) ∨ (¬ own_f12 (Int32.ofNat k) (Int32.ofNat j2) (4 : Int32) (2 : Int32) = 0 ∧ Int32.ofNat m = Int32.ofNat b) then 1 else 0 := by
    unfold own_f15g2
    refine own_ite3 ?_
    rw [ek, own_relB2 k hk j1 h1, own_relB2 k hk j2 h2, n1, n2, Decidable.not_not, Decidable.not_not]
    exact own_unit ha hb hm _ (own_two2 j1 j2 h1 h2 _ _ _ _ _ (Or.inr (Or.inr ⟨r4, rfl⟩)) (Or.inr (Or.inr ⟨r4, rfl⟩)))
  unfold own_f0_80
  rw [own_choose (fun z => own_f0_159 p0 p1 p2 p3 p4 p5 (Int32.ofNat m) (Int32.ofNat j1) (Int32.ofNat a) (Int32.ofNat j2) (Int32.ofNat b) (Int32.ofNat k) z), ← eR]
  unfold own_f0_159
  rw [own_choose (fun z => own_f0_204 p0 p1 p2 p3 p4 p5 (Int32.ofNat m) (Int32.ofNat j1) (Int32.ofNat a) (Int32.ofNat j2) (Int32.ofNat b) (Int32.ofNat k) _ z), ← eC]
  unfold own_f0_204
  rw [own_choose (fun z => own_f0_253 p0 p1 p2 p3 p4 p5 (Int32.ofNat m) (Int32.ofNat j1) (Int32.ofNat a) (Int32.ofNat j2) (Int32.ofNat b) (Int32.ofNat k) _ _ z), ← eB]
  unfold own_f0_253
  rw [if_pos rfl, if_pos rfl, if_pos rfl]

theorem own_rg3 : ∀ j, j < 81 → (own_fR3 j).toNatClampNeg < 9 ∧ (9 ≤ (own_fC3 j).toNatClampNeg ∧ (own_fC3 j).toNatClampNeg < 18) ∧ (18 ≤ (own_fB3 j).toNatClampNeg ∧ (own_fB3 j).toNatClampNeg < 27) := by decide +kernel
theorem own_relC3 : ∀ k, k < 81 → ∀ j, j < 81 → (own_f11 (Int32.ofNat k) (Int32.ofNat j) (9 : Int32) = 0 ↔ ¬ (own_fC3 k).toNatClampNeg = (own_fC3 j).toNatClampNeg) := by decide +kernel
theorem own_relR3 : ∀ k, k < 81 → ∀ j, j < 81 → (own_f10 (Int32.ofNat k) (Int32.ofNat j) (9 : Int32) = 0 ↔ ¬ (own_fR3 k).toNatClampNeg = (own_fR3 j).toNatClampNeg) := by decide +kernel
theorem own_relB3 : ∀ k, k < 81 → ∀ j, j < 81 → (own_f12 (Int32.ofNat k) (Int32.ofNat j) (9 : Int32) (3 : Int32) = 0 ↔ ¬ (own_fB3 k).toNatClampNeg = (own_fB3 j).toNatClampNeg) := by decide +kernel
theorem own_plget3 (hs : List Int64) (hl : hs.length = 27) (j : Nat) (hj : j < 81) (b : Int64) (x : Nat) (w : Nat)
    (hw : (x < 9 ∧ w = (own_fR3 j).toNatClampNeg) ∨ (9 ≤ x ∧ x < 18 ∧ w = (own_fC3 j).toNatClampNeg) ∨ (18 ≤ x ∧ w = (own_fB3 j).toNatClampNeg)) :
    List.getD (own_pl3 hs (Int32.ofNat j) b) x 0 = if x = w then List.getD hs x 0 ||| b else List.getD hs x 0 := by
  obtain ⟨r1, ⟨r2, r3⟩, r4, r5⟩ := own_rg3 j hj
  unfold own_pl3
  rw [own_tn (show j < 2 ^ 31 by omega)]
  rw [own_updget _ _ _ _ (by rw [own_updlen, own_updlen, hl]; omega), own_updget _ _ _ _ (by rw [own_updlen, hl]; omega), own_updget _ _ _ _ (by rw [hl]; omega)]
  rcases hw with ⟨h1, rfl⟩ | ⟨h1, h2, rfl⟩ | ⟨h1, rfl⟩
  · rw [if_neg (show ¬ x = (own_fB3 j).toNatClampNeg by omega), if_neg (show ¬ x = (own_fC3 j).toNatClampNeg by omega)]
  · rw [if_neg (show ¬ x = (own_fB3 j).toNatClampNeg by omega), if_neg (show ¬ x = (own_fR3 j).toNatClampNeg by omega)]
  · rw [if_neg (show ¬ x = (own_fC3 j).toNatClampNeg by omega), if_neg (show ¬ x = (own_fR3 j).toNatClampNeg by omega)]
theorem own_two3 (j1 j2 : Nat) (h1 : j1 < 81) (h2 : j2 < 81) (b1 b2 : Int64) (x w1 w2 : Nat)
    (hw1 : (x < 9 ∧ w1 = (own_fR3 j1).toNatClampNeg) ∨ (9 ≤ x ∧ x < 18 ∧ w1 = (own_fC3 j1).toNatClampNeg) ∨ (18 ≤ x ∧ w1 = (own_fB3 j1).toNatClampNeg))
    (hw2 : (x < 9 ∧ w2 = (own_fR3 j2).toNatClampNeg) ∨ (9 ≤ x ∧ x < 18 ∧ w2 = (own_fC3 j2).toNatClampNeg) ∨ (18 ≤ x ∧ w2 = (own_fB3 j2).toNatClampNeg)) :
    List.getD (own_pl3 (own_pl3 (List.replicate 27 (0 : Int64)) (Int32.ofNat j1) b1) (Int32.ofNat j2) b2) x 0 = (if x = w1 then b1 else 0) ||| (if x = w2 then b2 else 0) := by
  have hz : List.getD (List.replicate 27 (0 : Int64)) x 0 = 0 := by
    simp only [List.getD_eq_getElem?_getD, List.getElem?_replicate]
    split <;> rfl
  rw [own_plget3 _ ((own_pllen3 _ _ _).trans List.length_replicate) j2 h2 b2 x w2 hw2, own_plget3 _ List.length_replicate j1 h1 b1 x w1 hw1, hz]
  by_cases q1 : x = w1 <;> by_cases q2 : x = w2
  · rw [if_pos q1, if_pos q2, if_pos q1, if_pos q2, own_zor]
  · rw [if_pos q1, if_neg q2, if_pos q1, if_neg q2, own_zor, Int64.or_zero]
  · rw [if_neg q1, if_pos q2, if_neg q1, if_pos q2]
  · rw [if_neg q1, if_neg q2, if_neg q1, if_neg q2, own_zor]
theorem own_main3 (p0 p1 p2 p3 p4 p5 : Int32) (m j1 a j2 b k : Nat) (hm : m < 64) (h1 : j1 < 81) (ha : a < 10) (h2 : j2 < 81) (hb : b < 10) (hk : k < 81) : own_f0_80_1 p0 p1 p2 p3 p4 p5 (Int32.ofNat m) (Int32.ofNat j1) (Int32.ofNat a) (Int32.ofNat j2) (Int32.ofNat b) (Int32.ofNat k) = 1 := by
  obtain ⟨r1, ⟨r2, r3⟩, r4, r5⟩ := own_rg3 k hk
  have ek : (Int32.ofNat k).toNatClampNeg = k := own_tn (by omega)
  have n1 : (Int32.ofNat m = Int32.ofNat a) ↔ m = a := own_injN (by omega) (by omega)
  have n2 : (Int32.ofNat m = Int32.ofNat b) ↔ m = b := own_injN (by omega) (by omega)
  have eR : own_f13g3 (own_pl3 (own_pl3 (List.replicate 27 (0 : Int64)) (Int32.ofNat j1) ((1 : Int64) <<< (Int32.ofNat a &&& 0x3f).toInt64)) (Int32.ofNat j2) ((1 : Int64) <<< (Int32.ofNat b &&& 0x3f).toInt64)) (Int32.ofNat k) (Int32.ofNat m) = if (¬ own_f10 (Int32.ofNat k) (Int32.ofNat j1) (9 : Int32) = 0 ∧ Int32.ofNat m = Int32.ofNat a) ∨ (¬ own_f10 (Int32.ofNat k) (Int32.ofNat j2) (9 : Int32) = 0 ∧ Int32.ofNat m = Int32.ofNat b) then 1 else 0 := by
    unfold own_f13g3
    refine own_ite3 ?_
    rw [ek, own_relR3 k hk j1 h1, own_relR3 k hk j2 h2, n1, n2, Decidable.not_not, Decidable.not_not]
    exact own_unit ha hb hm _ (own_two3 j1 j2 h1 h2 _ _ _ _ _ (Or.inl ⟨r1, rfl⟩) (Or.inl ⟨r1, rfl⟩))
  have eC : own_f14g3 (own_pl3 (own_pl3 (List.replicate 27 (0 : Int64)) (Int32.ofNat j1) ((1 : Int64) <<< (Int32.ofNat a &&& 0x3f).toInt64)) (Int32.ofNat j2) ((1 : Int64) <<< (Int32.ofNat b &&& 0x3f).toInt64)) (Int32.ofNat k) (Int32.ofNat m) = if (¬ own_f11 (Int32.ofNat k) (Int32.ofNat j1) (9 : Int32) = 0 ∧ Int32.ofNat m = Int32.ofNat a) ∨ (¬ own_f11 (Int32.ofNat k) (Int32.ofNat j2) (9 : Int32) = 0 ∧ Int32.ofNat m = Int32.ofNat b) then 1 else 0 := by
    unfold own_f14g3
    refine own_ite3 ?_
    rw [ek, own_relC3 k hk j1 h1, own_relC3 k hk j2 h2, n1, n2, Decidable.not_not, Decidable.not_not]
    exact own_unit ha hb hm _ (own_two3 j1 j2 h1 h2 _ _ _ _ _ (Or.inr (Or.inl ⟨r2, r3, rfl⟩)) (Or.inr (Or.inl ⟨r2, r3, rfl⟩)))
  have eB : own_f15g3 (own_pl3 (own_pl3 (List.replicate 27 (0 : Int64)) (Int32.ofNat j1) ((1 : Int64) <<< (Int32.ofNat a &&& 0x3f).toInt64)) (Int32.ofNat j2) ((1 : Int64) <<< (Int32.ofNat b &&& 0x3f).toInt64)) (Int32.ofNat k) (Int32.ofNat m) = if (¬ own_f12 (Int32.ofNat k) (Int32.ofNat j1) (9 : Int32) (3 : Int32) = 0 ∧ Int32.ofNat m = Int32.ofNat a) ∨ (¬ own_f12 (Int32.ofNat k) (Int32.ofNat j2) (9 : Int32) (3 : Int32) = 0 ∧ Int32.ofNat m = Int32.ofNat b) then 1 else 0 := by
    unfold own_f15g3
    refine own_ite3 ?_
    rw [ek, own_relB3 k hk j1 h1, own_relB3 k hk j2 h2, n1, n2, Decidable.not_not, Decidable.not_not]
    exact own_unit ha hb hm _ (own_two3 j1 j2 h1 h2 _ _ _ _ _ (Or.inr (Or.inr ⟨r4, rfl⟩)) (Or.inr (Or.inr ⟨r4, rfl⟩)))
  unfold own_f0_80_1
  rw [own_choose (fun z => own_f0_159_1 p0 p1 p2 p3 p4 p5 (Int32.ofNat m) (Int32.ofNat j1) (Int32.ofNat a) (Int32.ofNat j2) (Int32.ofNat b) (Int32.ofNat k) z), ← eR]
  unfold own_f0_159_1
  rw [own_choose (fun z => own_f0_204_1 p0 p1 p2 p3 p4 p5 (Int32.ofNat m) (Int32.ofNat j1) (Int32.ofNat a) (Int32.ofNat j2) (Int32.ofNat b) (Int32.ofNat k) _ z), ← eC]
  unfold own_f0_204_1
  rw [own_choose (fun z => own_f0_253_1 p0 p1 p2 p3 p4 p5 (Int32.ofNat m) (Int32.ofNat j1) (Int32.ofNat a) (Int32.ofNat j2) (Int32.ofNat b) (Int32.ofNat k) _ _ z), ← eB]
  unfold own_f0_253_1
  rw [if_pos rfl, if_pos rfl, if_pos rfl]

theorem own_law (p0 p1 p2 p3 p4 p5 : Int32) : own_f0 p0 p1 p2 p3 p4 p5 = 1 := by
  have hm : ¬ ((p0.toUInt32 >>> ((1 : Int32) &&& 31).toUInt32).toInt32 &&& (63 : Int32)) < 0 ∧ ((p0.toUInt32 >>> ((1 : Int32) &&& 31).toUInt32).toInt32 &&& (63 : Int32)).toNatClampNeg < 64 := by
    generalize (p0.toUInt32 >>> ((1 : Int32) &&& 31).toUInt32).toInt32 = q
    have e : (q &&& (63 : Int32)).toInt = q.toInt % 64 := Jvm.Kit.i32_mask q 63 (k := 6) (by decide) (by decide)
    have e0 : (0 : Int32).toInt = 0 := by decide
    constructor
    · rw [Int32.lt_iff_toInt_lt, e, e0]; omega
    · simp only [Int32.toNatClampNeg, e]; omega
  have hnum : ∀ (a k : Int32) (n : Nat), k.toInt = n → 0 < n → n < 10 → ¬ ((1 : Int32) + ((a &&& (2147483647 : Int32)) % k)) < 0 ∧ ((1 : Int32) + ((a &&& (2147483647 : Int32)) % k)).toNatClampNeg < 10 := by
    intro a k n hk h0 h9
    have e := own_md a k n hk (by omega)
    have h1 := Int.emod_nonneg (a.toInt % 2147483648) (show (n : Int) ≠ 0 by omega)
    have h2 := Int.emod_lt_of_pos (a.toInt % 2147483648) (show (0 : Int) < n by omega)
    have e0 : (0 : Int32).toInt = 0 := by decide
    have e1 : (1 : Int32).toInt = 1 := by decide
    have ea : ((1 : Int32) + ((a &&& (2147483647 : Int32)) % k)).toInt = 1 + (a.toInt % 2147483648) % n := by rw [Jvm.Kit.i32_add (by rw [e, e1]; omega) (by rw [e, e1]; omega), e, e1]
    constructor
    · rw [Int32.lt_iff_toInt_lt, ea, e0]; omega
    · simp only [Int32.toNatClampNeg, ea]; omega
  unfold own_f0
  split
  · have c1 := own_cl p1 (16 : Int32) 16 (by decide) (by decide)
    have c2 := own_cl p3 (16 : Int32) 16 (by decide) (by decide)
    have c3 := own_cl p5 (16 : Int32) 16 (by decide) (by decide)
    have d1 := hnum p2 (4 : Int32) 4 (by decide) (by decide) (by decide)
    have d2 := hnum p4 (4 : Int32) 4 (by decide) (by decide) (by decide)
    rw [own_asN hm.1, own_asN c1.1, own_asN c2.1, own_asN c3.1, own_asN d1.1, own_asN d2.1]
    exact own_main2 _ _ _ _ _ _ _ _ _ _ _ _ hm.2 c1.2 d1.2 c2.2 d2.2 c3.2
  · have c1 := own_cl p1 (81 : Int32) 81 (by decide) (by decide)
    have c2 := own_cl p3 (81 : Int32) 81 (by decide) (by decide)
    have c3 := own_cl p5 (81 : Int32) 81 (by decide) (by decide)
    have d1 := hnum p2 (9 : Int32) 9 (by decide) (by decide) (by decide)
    have d2 := hnum p4 (9 : Int32) 9 (by decide) (by decide) (by decide)
    rw [own_asN hm.1, own_asN c1.1, own_asN c2.1, own_asN c3.1, own_asN d1.1, own_asN d2.1]
    exact own_main3 _ _ _ _ _ _ _ _ _ _ _ _ hm.2 c1.2 d1.2 c2.2 d2.2 c3.2

set_option maxRecDepth 65536 in
set_option maxHeartbeats 40000000 in
theorem comes_1 {Post : Tables → Env → Array Value → State → Outcome → State → Prop} (hpost : ∀ tb e args s v u, (limb_1_1.after args s (.returned v) u = true ∧ limb_1_2.after args s (.returned v) u = true ∧ True) → FrameEnd s (.returned v) u (Jvm.fieldLocs frame_1_writes args s ++ Jvm.arrayLocs frame_1_arrays args s ++ Jvm.staticLocs frame_1_statics s) 88 1664 → Post tb e args s (.returned v) u) :
    ArmFor flags0 classFile x code maxLocals ret World_1 tables_1 room_1 Calls_1 rest_1 Pre_1 Post := by
  intro l hfl _ _ p e ha hc hk s m args below hf hA hF happ hP
  obtain ⟨hcalls, hrest, hpre⟩ := hP
  obtain ⟨-, -, -, hnamed, -, -, -, hat⟩ := (Spec.applies_iff hf).mp happ
  obtain ⟨hg, hn⟩ := and_e (Cond.before_iff.mp (show (Jvm.Cond.and given_1 narrow_1).before args s = true from hpre))
  obtain ⟨gg1, gg2⟩ := and_e hg
  obtain ⟨gg3, gg4⟩ := and_e gg2
  obtain ⟨gg5, gg6⟩ := and_e gg4
  obtain ⟨gg7, gg8⟩ := and_e gg6
  obtain ⟨gg9, gg10⟩ := and_e gg8
  obtain ⟨gg11, gg12⟩ := and_e gg10
  obtain ⟨w0, w1, w2, w3, w4, w5, rfl⟩ : ∃ w0 w1 w2 w3 w4 w5 : Value, args = #[w0, w1, w2, w3, w4, w5] := by
    have hs : args.size = 6 := by simpa [Cond.value, given_1] using gg1
    obtain ⟨L⟩ := args
    match L, hs with
    | [w0, w1, w2, w3, w4, w5], _ => exact ⟨w0, w1, w2, w3, w4, w5, rfl⟩
  have hw := fun d (hd : d ∈ tables_1) => atoms_spec (ws := Jvm.Cond.code x code maxLocals ret :: tables_1) hat d (List.mem_cons_of_mem _ hd)
  have hfit : Fit s := fun {y c} hc i hi => by
    obtain ⟨ha, rfl⟩ := Array.getElem?_eq_some_iff.mp hc
    have q := List.all_eq_true.mp ((Array.all_eq_true_iff_forall_mem.mp hF) _ (Array.getElem_mem ha)) i (List.mem_range.mpr hi)
    simpa [Array.getElem?_eq_getElem hi] using q
  obtain ⟨i0, ei0⟩ := is_v gg3
  obtain rfl : w0 = (.int i0) := Option.some.inj ei0
  obtain ⟨i1, ei1⟩ := is_v gg5
  obtain rfl : w1 = (.int i1) := Option.some.inj ei1
  obtain ⟨i2, ei2⟩ := is_v gg7
  obtain rfl : w2 = (.int i2) := Option.some.inj ei2
  obtain ⟨i3, ei3⟩ := is_v gg9
  obtain rfl : w3 = (.int i3) := Option.some.inj ei3
  obtain ⟨i4, ei4⟩ := is_v gg11
  obtain rfl : w4 = (.int i4) := Option.some.inj ei4
  obtain ⟨i5, ei5⟩ := is_v gg12
  obtain rfl : w5 = (.int i5) := Option.some.inj ei5
  obtain ⟨n, o, h1, h2, h3, _, L, rfl, ⟨rfl, N⟩, hq⟩ := rm0 l s _ hw i0 i1 i2 i3 i4 i5 s.heap s.heap.size (Nat.le_refl _)  p e ha hc hk s m _ below hf ((Spec.applies_iff_loose hf).mp happ).1 ⟨rfl, State.Warmed39.refl s, rfl⟩ trivial
  refine ⟨n, _, h1, h2, h3, hpost _ _ _ _ _ _ ⟨Cond.after_iff.mpr rfl, Cond.after_iff.mpr (eq_i res_at (Term.int_eval (1)) (congrArg Value.int (own_law _ _ _ _ _ _))), trivial⟩ ⟨hq.1, hq.2.1, (hq.2.2.sift fun y hy => Or.inr (N y hy)).mono (by decide) (by decide)⟩⟩
theorem main_1_1 : Claimed_1_1 := comes_1 fun _ _ _ _ _ _ h hF => ⟨h.1, hF⟩
theorem main_1_2 : Claimed_1_2 := comes_1 fun _ _ _ _ _ _ h hF => ⟨h.2.1, hF⟩

end Jvm.Pilot.@@N@@
namespace Jvm.Pilot.@@N@@
open Jvm Jvm.ClassFile Sem Op Lib Jvm.Free Jvm.Stand Jvm.Pilot.@@N@@.Jvm.D
/-! MADE BY PROGRAM (witnessworld.py) out of the Statement's table words and the real class files: 12 classes; the members and pool entries that the words name. The judged class is class 1, her method 4. -/
namespace start1
open Jvm.ClassFile
def u (s : String) : CpInfo := .utf8 (stringToUtf16 s)
/-- a pool by its gaps: so many unusable entries, then the entry; so many at the end -/
def gap : Nat → List CpInfo → List CpInfo
  | 0, r => r
  | n + 1, r => .unusable :: gap n r
def poolList (es : List (Nat × CpInfo)) (last : Nat) : List CpInfo := es.foldr (fun e r => gap e.1 (e.2 :: r)) (gap last [])
def pool (es : List (Nat × CpInfo)) (last : Nat) : Array CpInfo := ⟨poolList es last⟩
def fileOf (pool : Array CpInfo) (this : Nat) (attrs : Array Attribute := #[]) (ms : Array MethodInfo := #[]) (fl : Nat := 33) (sup : Nat := 0) (ifs : Array Nat := #[]) (fds : Array FieldInfo := #[]) : ClassFile where
  minorVersion := 0
  majorVersion := 65
  constantPool := pool
  accessFlags := fl
  thisClass := this
  superClass := sup
  interfaces := ifs
  fields := fds
  methods := ms
  attributes := attrs
def plain (name : String) (sup : Option ClassId) : Class where
  name := name
  kind := .ordinary
  loader := none
  accessFlags := 33
  super := sup
  interfaces := #[]
  cf := none
  fields := #[]
  methods := #[]
  instanceTypes := #[]
  staticTypes := #[]
  resolved := #[]
  callSites := []
  init := .initialized
  statics := none
  mirror := none

def pool0 : Array CpInfo := pool [(5, u "<init>"), (0, u "()V"), (1, .class_ 10), (1, u "java/lang/Object")] 113

def k0c0 : Code := { maxStack := 0, maxLocals := 1, code := object_method_1_code, exceptionTable := #[], attributes := #[] }
def k0m0 : Method := { name := "<init>", desc := "()V", sig := { parameters := [], returnType := none }, accessFlags := 1, code := some k0c0 }
/-- java/lang/Object -/
def k0 : Class := { plain "java/lang/Object" none with
  accessFlags := 33
  interfaces := #[]
  cf := some (fileOf pool0 8 #[] #[{ accessFlags := 1, nameIndex := 5, descriptorIndex := 6, attributes := #[] }] 33 0 #[] #[])
  fields := #[]
  methods := #[k0m0]
  instanceTypes := #[]
  staticTypes := #[]
  resolved := Array.replicate 124 none
  statics := none }

def pool1 : Array CpInfo := pool [(2, .class_ 4), (1, u "java/lang/Object"), (0, u "<init>"), (0, u "()V"), (0, .integer 2147483647), (0, .class_ 9), (0, u "com/example/onda/onda/sudoku/Units"), (0, .class_ 11), (0, u "com/example/onda/onda/sudoku/Geometry"), (0, .methodref 10 13), (0, .nameAndType 5 14), (0, u "(I)V"), (0, .methodref 8 16), (0, .nameAndType 5 17), (0, u "(Lcom/example/onda/onda/sudoku/Geometry;)V"), (0, .methodref 8 19), (0, .nameAndType 20 21), (0, u "place"), (0, u "(II)V"), (0, .methodref 23 24), (0, .class_ 25), (0, .nameAndType 26 27), (0, u "com/example/onda/onda/sudoku/UnitsPlacePinLaw"), (0, u "sameRow"), (0, u "(III)Z"), (0, .methodref 23 29), (0, .nameAndType 30 27), (0, u "sameColumn"), (0, .methodref 23 32), (0, .nameAndType 33 34), (0, u "sameBox"), (0, u "(IIII)Z"), (0, .methodref 8 36), (0, .nameAndType 37 38), (0, u "rowHolds"), (0, u "(II)Z"), (0, .methodref 8 40), (0, .nameAndType 41 38), (0, u "columnHolds"), (0, .methodref 8 43), (0, .nameAndType 44 38), (0, u "boxHolds"), (3, u "law"), (0, u "(IIIIII)Z")] 2

def k1m0 : Method := { name := "<init>", desc := "()V", sig := { parameters := [], returnType := none }, accessFlags := 1, code := none }
def k1c1 : Code := { maxStack := 3, maxLocals := 3, code := method_2_code, exceptionTable := #[], attributes := #[] }
def k1m1 : Method := { name := "sameRow", desc := "(III)Z", sig := { parameters := [.int, .int, .int], returnType := some .boolean }, accessFlags := 10, code := some k1c1 }
def k1c2 : Code := { maxStack := 3, maxLocals := 3, code := method_3_code, exceptionTable := #[], attributes := #[] }
def k1m2 : Method := { name := "sameColumn", desc := "(III)Z", sig := { parameters := [.int, .int, .int], returnType := some .boolean }, accessFlags := 10, code := some k1c2 }
def k1c3 : Code := { maxStack := 3, maxLocals := 4, code := method_4_code, exceptionTable := #[], attributes := #[] }
def k1m3 : Method := { name := "sameBox", desc := "(IIII)Z", sig := { parameters := [.int, .int, .int, .int], returnType := some .boolean }, accessFlags := 10, code := some k1c3 }
def k1c4 : Code := { maxStack := 5, maxLocals := 19, code := code, exceptionTable := #[], attributes := #[] }
def k1m4 : Method := { name := "law", desc := "(IIIIII)Z", sig := { parameters := [.int, .int, .int, .int, .int, .int], returnType := some .boolean }, accessFlags := 9, code := some k1c4 }
/-- com/example/onda/onda/sudoku/UnitsPlacePinLaw -/
def k1 : Class := { plain "com/example/onda/onda/sudoku/UnitsPlacePinLaw" (some 0) with
  accessFlags := 49
  interfaces := #[]
  cf := some (fileOf pool1 23 #[] #[{ accessFlags := 1, nameIndex := 5, descriptorIndex := 6, attributes := #[] }, { accessFlags := 10, nameIndex := 26, descriptorIndex := 27, attributes := #[] }, { accessFlags := 10, nameIndex := 30, descriptorIndex := 27, attributes := #[] }, { accessFlags := 10, nameIndex := 33, descriptorIndex := 34, attributes := #[] }, { accessFlags := 9, nameIndex := 48, descriptorIndex := 49, attributes := #[] }] 49 2 #[] #[])
  fields := #[]
  methods := #[k1m0, k1m1, k1m2, k1m3, k1m4]
  instanceTypes := #[]
  staticTypes := #[]
  resolved := Array.replicate 52 none
  statics := none }

def pool2 : Array CpInfo := pool [(1, .class_ 2), (0, u "com/example/onda/onda/sudoku/Geometry"), (2, u "<init>"), (2, .class_ 10), (1, u "com/example/onda/onda/sudoku/Units"), (0, u "(Lcom/example/onda/onda/sudoku/Geometry;)V"), (0, .methodref 13 14), (0, .class_ 15), (0, .nameAndType 5 16), (0, u "java/lang/Object"), (0, u "()V"), (0, .methodref 1 18), (0, .nameAndType 19 20), (0, u "rowOf"), (0, u "()[I"), (0, .fieldref 8 22), (0, .nameAndType 19 23), (0, u "[I"), (0, .methodref 1 25), (0, .nameAndType 26 20), (0, u "columnOf"), (0, .fieldref 8 28), (0, .nameAndType 26 23), (0, .methodref 1 30), (0, .nameAndType 31 20), (0, u "boxOf"), (0, .fieldref 8 33), (0, .nameAndType 31 23), (0, .methodref 1 35), (0, .nameAndType 36 37), (0, u "size"), (0, u "()I"), (0, .long 2), (1, .fieldref 8 41), (0, .nameAndType 42 43), (0, u "numbers"), (0, u "J"), (0, .methodref 1 45), (0, .nameAndType 46 37), (0, u "units"), (0, .fieldref 8 48), (0, .nameAndType 49 50), (0, u "held"), (0, u "[J"), (10, u "rowHolds"), (0, u "(II)Z"), (1, u "columnHolds"), (0, u "boxHolds"), (0, u "place"), (0, u "(II)V")] 5

def k2c0 : Code := { maxStack := 5, maxLocals := 2, code := prog_24_method_2_code, exceptionTable := #[], attributes := #[] }
def k2m0 : Method := { name := "<init>", desc := "(Lcom/example/onda/onda/sudoku/Geometry;)V", sig := { parameters := [(.object "com/example/onda/onda/sudoku/Geometry")], returnType := none }, accessFlags := 0, code := some k2c0 }
def k2c1 : Code := { maxStack := 5, maxLocals := 3, code := prog_24_method_3_code, exceptionTable := #[], attributes := #[] }
def k2m1 : Method := { name := "rowHolds", desc := "(II)Z", sig := { parameters := [.int, .int], returnType := some .boolean }, accessFlags := 0, code := some k2c1 }
def k2c2 : Code := { maxStack := 5, maxLocals := 3, code := prog_24_method_4_code, exceptionTable := #[], attributes := #[] }
def k2m2 : Method := { name := "columnHolds", desc := "(II)Z", sig := { parameters := [.int, .int], returnType := some .boolean }, accessFlags := 0, code := some k2c2 }
def k2c3 : Code := { maxStack := 5, maxLocals := 3, code := prog_24_method_5_code, exceptionTable := #[], attributes := #[] }
def k2m3 : Method := { name := "boxHolds", desc := "(II)Z", sig := { parameters := [.int, .int], returnType := some .boolean }, accessFlags := 0, code := some k2c3 }
def k2c4 : Code := { maxStack := 6, maxLocals := 5, code := prog_24_method_6_code, exceptionTable := #[], attributes := #[] }
def k2m4 : Method := { name := "place", desc := "(II)V", sig := { parameters := [.int, .int], returnType := none }, accessFlags := 0, code := some k2c4 }
/-- com/example/onda/onda/sudoku/Units -/
def k2 : Class := { plain "com/example/onda/onda/sudoku/Units" (some 0) with
  accessFlags := 48
  interfaces := #[]
  cf := some (fileOf pool2 8 #[] #[{ accessFlags := 0, nameIndex := 5, descriptorIndex := 11, attributes := #[] }, { accessFlags := 0, nameIndex := 61, descriptorIndex := 62, attributes := #[] }, { accessFlags := 0, nameIndex := 64, descriptorIndex := 62, attributes := #[] }, { accessFlags := 0, nameIndex := 65, descriptorIndex := 62, attributes := #[] }, { accessFlags := 0, nameIndex := 66, descriptorIndex := 67, attributes := #[] }] 48 13 #[] #[{ accessFlags := 18, nameIndex := 19, descriptorIndex := 23, attributes := #[] }, { accessFlags := 18, nameIndex := 26, descriptorIndex := 23, attributes := #[] }, { accessFlags := 18, nameIndex := 31, descriptorIndex := 23, attributes := #[] }, { accessFlags := 18, nameIndex := 42, descriptorIndex := 43, attributes := #[] }, { accessFlags := 18, nameIndex := 49, descriptorIndex := 50, attributes := #[] }])
  fields := #[{ name := "rowOf", type := (.array .int), accessFlags := 18, slot := 0, constantValue := 0 }, { name := "columnOf", type := (.array .int), accessFlags := 18, slot := 1, constantValue := 0 }, { name := "boxOf", type := (.array .int), accessFlags := 18, slot := 2, constantValue := 0 }, { name := "numbers", type := .long, accessFlags := 18, slot := 3, constantValue := 0 }, { name := "held", type := (.array .long), accessFlags := 18, slot := 4, constantValue := 0 }]
  methods := #[k2m0, k2m1, k2m2, k2m3, k2m4]
  instanceTypes := #[(.array .int), (.array .int), (.array .int), .long, (.array .long)]
  staticTypes := #[]
  resolved := Array.replicate 73 none
  statics := none }

def pool3 : Array CpInfo := pool [(1, .methodref 2 3), (0, .class_ 4), (0, .nameAndType 5 6), (0, u "java/lang/Object"), (0, u "<init>"), (0, u "()V"), (0, .fieldref 8 9), (0, .class_ 10), (0, .nameAndType 11 12), (0, u "com/example/onda/onda/sudoku/Geometry"), (0, u "size"), (0, u "I"), (0, .fieldref 8 14), (0, .nameAndType 15 16), (0, u "rowOf"), (0, u "[I"), (0, .fieldref 8 18), (0, .nameAndType 19 16), (0, u "columnOf"), (0, .fieldref 8 21), (0, .nameAndType 22 16), (0, u "boxOf"), (0, .class_ 24), (0, u "[[I"), (0, .fieldref 8 26), (0, .nameAndType 27 24), (0, u "cellsOf"), (0, .fieldref 8 29), (0, .nameAndType 30 16), (0, u "indexInRow"), (0, .fieldref 8 32), (0, .nameAndType 33 16), (0, u "indexInColumn"), (0, .fieldref 8 35), (0, .nameAndType 36 16), (0, u "indexInBox"), (0, u "(I)V"), (3, u "()I"), (0, u "units"), (0, u "()[I")] 3

def k3c0 : Code := { maxStack := 5, maxLocals := 5, code := prog_22_method_1_code, exceptionTable := #[], attributes := #[] }
def k3m0 : Method := { name := "<init>", desc := "(I)V", sig := { parameters := [.int], returnType := none }, accessFlags := 0, code := some k3c0 }
def k3c1 : Code := { maxStack := 1, maxLocals := 1, code := prog_22_method_2_code, exceptionTable := #[], attributes := #[] }
def k3m1 : Method := { name := "size", desc := "()I", sig := { parameters := [], returnType := some .int }, accessFlags := 0, code := some k3c1 }
def k3c2 : Code := { maxStack := 1, maxLocals := 1, code := prog_22_method_3_code, exceptionTable := #[], attributes := #[] }
def k3m2 : Method := { name := "units", desc := "()I", sig := { parameters := [], returnType := some .int }, accessFlags := 0, code := some k3c2 }
def k3c3 : Code := { maxStack := 1, maxLocals := 1, code := prog_22_method_4_code, exceptionTable := #[], attributes := #[] }
def k3m3 : Method := { name := "rowOf", desc := "()[I", sig := { parameters := [], returnType := some (.array .int) }, accessFlags := 0, code := some k3c3 }
def k3c4 : Code := { maxStack := 1, maxLocals := 1, code := prog_22_method_5_code, exceptionTable := #[], attributes := #[] }
def k3m4 : Method := { name := "columnOf", desc := "()[I", sig := { parameters := [], returnType := some (.array .int) }, accessFlags := 0, code := some k3c4 }
def k3c5 : Code := { maxStack := 1, maxLocals := 1, code := prog_22_method_6_code, exceptionTable := #[], attributes := #[] }
def k3m5 : Method := { name := "boxOf", desc := "()[I", sig := { parameters := [], returnType := some (.array .int) }, accessFlags := 0, code := some k3c5 }
/-- com/example/onda/onda/sudoku/Geometry -/
def k3 : Class := { plain "com/example/onda/onda/sudoku/Geometry" (some 0) with
  accessFlags := 48
  interfaces := #[]
  cf := some (fileOf pool3 8 #[] #[{ accessFlags := 0, nameIndex := 5, descriptorIndex := 37, attributes := #[] }, { accessFlags := 0, nameIndex := 11, descriptorIndex := 41, attributes := #[] }, { accessFlags := 0, nameIndex := 42, descriptorIndex := 41, attributes := #[] }, { accessFlags := 0, nameIndex := 15, descriptorIndex := 43, attributes := #[] }, { accessFlags := 0, nameIndex := 19, descriptorIndex := 43, attributes := #[] }, { accessFlags := 0, nameIndex := 22, descriptorIndex := 43, attributes := #[] }] 48 2 #[] #[{ accessFlags := 18, nameIndex := 11, descriptorIndex := 12, attributes := #[] }, { accessFlags := 18, nameIndex := 15, descriptorIndex := 16, attributes := #[] }, { accessFlags := 18, nameIndex := 19, descriptorIndex := 16, attributes := #[] }, { accessFlags := 18, nameIndex := 22, descriptorIndex := 16, attributes := #[] }, { accessFlags := 18, nameIndex := 27, descriptorIndex := 24, attributes := #[] }, { accessFlags := 18, nameIndex := 30, descriptorIndex := 16, attributes := #[] }, { accessFlags := 18, nameIndex := 33, descriptorIndex := 16, attributes := #[] }, { accessFlags := 18, nameIndex := 36, descriptorIndex := 16, attributes := #[] }])
  fields := #[{ name := "size", type := .int, accessFlags := 18, slot := 0, constantValue := 0 }, { name := "rowOf", type := (.array .int), accessFlags := 18, slot := 1, constantValue := 0 }, { name := "columnOf", type := (.array .int), accessFlags := 18, slot := 2, constantValue := 0 }, { name := "boxOf", type := (.array .int), accessFlags := 18, slot := 3, constantValue := 0 }, { name := "cellsOf", type := (.array (.array .int)), accessFlags := 18, slot := 4, constantValue := 0 }, { name := "indexInRow", type := (.array .int), accessFlags := 18, slot := 5, constantValue := 0 }, { name := "indexInColumn", type := (.array .int), accessFlags := 18, slot := 6, constantValue := 0 }, { name := "indexInBox", type := (.array .int), accessFlags := 18, slot := 7, constantValue := 0 }]
  methods := #[k3m0, k3m1, k3m2, k3m3, k3m4, k3m5]
  instanceTypes := #[.int, (.array .int), (.array .int), (.array .int), (.array (.array .int)), (.array .int), (.array .int), (.array .int)]
  staticTypes := #[]
  resolved := Array.replicate 47 none
  statics := none }

def pool4 : Array CpInfo := pool [(1, u "java/lang/Cloneable"), (0, .class_ 1), (0, u "java/lang/Object"), (0, .class_ 3)] 3

/-- java/lang/Cloneable -/
def k4 : Class := { plain "java/lang/Cloneable" (some 0) with
  accessFlags := 1537
  interfaces := #[]
  cf := some (fileOf pool4 2 #[] #[] 1537 4 #[] #[])
  fields := #[]
  methods := #[]
  instanceTypes := #[]
  staticTypes := #[]
  resolved := Array.replicate 8 none
  statics := none }

def pool5 : Array CpInfo := pool [(1, u "java/io/Serializable"), (0, .class_ 1), (0, u "java/lang/Object"), (0, .class_ 3)] 3

/-- java/io/Serializable -/
def k5 : Class := { plain "java/io/Serializable" (some 0) with
  accessFlags := 1537
  interfaces := #[]
  cf := some (fileOf pool5 2 #[] #[] 1537 4 #[] #[])
  fields := #[]
  methods := #[]
  instanceTypes := #[]
  staticTypes := #[]
  resolved := Array.replicate 8 none
  statics := none }

/-- the primitive byte -/
def k6 : Class := { plain "byte" none with kind := .primitive 'B', accessFlags := 0x411 }
/-- [B -/
def k7 : Class := { plain "[B" (some 0) with kind := .array 6 .byte, interfaces := #[4, 5], accessFlags := 1041 }

/-- the primitive int -/
def k8 : Class := { plain "int" none with kind := .primitive 'I', accessFlags := 0x411 }
/-- [I -/
def k9 : Class := { plain "[I" (some 0) with kind := .array 8 .int, interfaces := #[4, 5], accessFlags := 1041 }

/-- the primitive long -/
def k10 : Class := { plain "long" none with kind := .primitive 'J', accessFlags := 0x411 }
/-- [J -/
def k11 : Class := { plain "[J" (some 0) with kind := .array 10 .long, interfaces := #[4, 5], accessFlags := 1041 }

/-- [[I -/
def k12 : Class := { plain "[[I" (some 0) with kind := .array 9 (.array .int), interfaces := #[4, 5], accessFlags := 1041 }

def heap : Heap := #[]
def classes : Array Class := #[k0, k1, k2, k3, k4, k5, k6, k7, k8, k9, k10, k11, k12]
def interned : List (Array UInt16 × Addr) := []
def slotsUsed : Nat := 0
def theMethod : MethodId := ⟨1, 4⟩
def args0 : Array Value := #[.int 5, .int 3, .int 7, .int 9, .int 6, .int 4]
def aboutOver (below : List Frame) : State where
  vm := { classes := classes, interned := interned.toArray }
  heap := heap
  slotsUsed := slotsUsed
  threads := #[{ frames := .invoking theMethod args0 :: below }]
def below0 : List Frame := [.native { method := ⟨0, 0⟩, args := #[] }]
def about1 : State := aboutOver below0
def p0 : Program := .bare "" "" ""
def e0 : Env := launch0.env 0 0 0
theorem w_frames : about1.frames = Frame.invoking theMethod args0 :: below0 := rfl
set_option maxRecDepth 65536 in
theorem w_args : argsFit about1.vm theMethod args0 = true := by decide +kernel
set_option maxRecDepth 65536 in
theorem w_heap : heapFits about1 = true := by decide +kernel
set_option maxRecDepth 65536 in
theorem w_runnable : about1.curStatus? = some .runnable := by decide +kernel
set_option maxRecDepth 65536 in
theorem w_alone : about1.alone = true := by decide +kernel
set_option maxRecDepth 65536 in
theorem w_named : about1.methodNamed? x = some theMethod := by decide +kernel
set_option maxRecDepth 65536 in
theorem w_hears : about1.hears theMethod below0 = true := by decide +kernel
set_option maxRecDepth 65536 in
theorem w_ripe : about1.ripe theMethod args0 below0 = true := by decide +kernel
theorem w_running : about1.status = .running := rfl
set_option maxRecDepth 65536 in
theorem w_room : about1.hasRoom e0.platform room_1 = true :=
  launch0.hasRoom_least _ room_1 (by decide +kernel) (by decide +kernel) (by decide +kernel) (by decide +kernel) (by decide +kernel) (by decide +kernel)
theorem allAtoms_all (ts : List Jvm.Cond) (a : Array Jvm.Value) (st : Jvm.State) : (allAtoms ts).before a st = ts.all (fun c => c.before a st) := by
  induction ts with
  | nil => rfl
  | cons c t ih =>
    show (Jvm.Cond.and c (allAtoms t)).before a st = _
    rw [Jvm.Cond.before_and, ih, List.all_cons]
def words1 : List Jvm.Cond := Jvm.Cond.code x code maxLocals ret :: tables_1
/-- a 'code' word, met by the world's own term for the bytes: nothing is compared byte by byte -/
theorem code_word {y : MethodName} {bytes : ByteArray} {mx : Nat} {rt : Option FieldType} {a : Array Value} {s : State} {m : MethodId} {meth : Method} {c : Code} (h1 : s.methodNamed? y = some m) (h2 : s.vm.method? m = some meth) (h3 : meth.code = some c) (h4 : c.code = bytes)
    (h5 : (c.maxLocals == mx && c.exceptionTable.isEmpty && decide (c.maxStack ≤ mostOperands) && decide (meth.sig.returnType = rt) && !meth.locks && decide (parseMethodDescriptor y.desc = some meth.sig)) = true) : (Jvm.Cond.code y bytes mx rt).before a s = true := by
  simp only [Bool.and_eq_true, beq_iff_eq, Bool.not_eq_true', decide_eq_true_eq] at h5
  obtain ⟨⟨⟨⟨⟨g1, g2⟩, g3⟩, g4⟩, g5⟩, g6⟩ := h5
  simp [Cond.before, Cond.holds, Cond.value, h1, h2, h3, h4, g1, g2, g3, g4, g5, g6]
def isCode : Jvm.Cond → Bool
  | .code _ _ _ _ => true
  | _ => false
theorem all_split {L : List Jvm.Cond} {P : Jvm.Cond → Bool} (h1 : L.all (fun c => isCode c || P c) = true) (h2 : ∀ c ∈ L.filter isCode, P c = true) : L.all P = true := by
  refine List.all_eq_true.mpr fun c hc => ?_
  have h := List.all_eq_true.mp h1 c hc
  rcases Bool.eq_false_or_eq_true (isCode c) with hi | hi
  · exact h2 c (List.mem_filter.mpr ⟨hc, hi⟩)
  · simpa [hi] using h
set_option maxRecDepth 65536 in
theorem w_c0 : (Jvm.Cond.code x code maxLocals ret).before args0 about1 = true := code_word (m := ⟨1, 4⟩) (meth := k1m4) (c := k1c4) (by decide +kernel) rfl rfl rfl (by decide +kernel)
set_option maxRecDepth 65536 in
theorem w_c1 : (Jvm.Cond.code ({ cls := "com/example/onda/onda/sudoku/Geometry", name := "<init>", desc := "(I)V" } : Jvm.MethodName) prog_22_method_1_code (5 : Nat) (Option.none : Option Jvm.ClassFile.FieldType)).before args0 about1 = true := code_word (m := ⟨3, 0⟩) (meth := k3m0) (c := k3c0) (by decide +kernel) rfl rfl rfl (by decide +kernel)
set_option maxRecDepth 65536 in
theorem w_c2 : (Jvm.Cond.code ({ cls := "java/lang/Object", name := "<init>", desc := "()V" } : Jvm.MethodName) object_method_1_code (1 : Nat) (Option.none : Option Jvm.ClassFile.FieldType)).before args0 about1 = true := code_word (m := ⟨0, 0⟩) (meth := k0m0) (c := k0c0) (by decide +kernel) rfl rfl rfl (by decide +kernel)
set_option maxRecDepth 65536 in
theorem w_c3 : (Jvm.Cond.code ({ cls := "com/example/onda/onda/sudoku/Units", name := "<init>", desc := "(Lcom/example/onda/onda/sudoku/Geometry;)V" } : Jvm.MethodName) prog_24_method_2_code (2 : Nat) (Option.none : Option Jvm.ClassFile.FieldType)).before args0 about1 = true := code_word (m := ⟨2, 0⟩) (meth := k2m0) (c := k2c0) (by decide +kernel) rfl rfl rfl (by decide +kernel)
set_option maxRecDepth 65536 in
theorem w_c4 : (Jvm.Cond.code ({ cls := "com/example/onda/onda/sudoku/Geometry", name := "rowOf", desc := "()[I" } : Jvm.MethodName) prog_22_method_4_code (1 : Nat) (Option.some (Jvm.ClassFile.FieldType.array Jvm.ClassFile.FieldType.int))).before args0 about1 = true := code_word (m := ⟨3, 3⟩) (meth := k3m3) (c := k3c3) (by decide +kernel) rfl rfl rfl (by decide +kernel)
set_option maxRecDepth 65536 in
theorem w_c5 : (Jvm.Cond.code ({ cls := "com/example/onda/onda/sudoku/Geometry", name := "columnOf", desc := "()[I" } : Jvm.MethodName) prog_22_method_5_code (1 : Nat) (Option.some (Jvm.ClassFile.FieldType.array Jvm.ClassFile.FieldType.int))).before args0 about1 = true := code_word (m := ⟨3, 4⟩) (meth := k3m4) (c := k3c4) (by decide +kernel) rfl rfl rfl (by decide +kernel)
set_option maxRecDepth 65536 in
theorem w_c6 : (Jvm.Cond.code ({ cls := "com/example/onda/onda/sudoku/Geometry", name := "boxOf", desc := "()[I" } : Jvm.MethodName) prog_22_method_6_code (1 : Nat) (Option.some (Jvm.ClassFile.FieldType.array Jvm.ClassFile.FieldType.int))).before args0 about1 = true := code_word (m := ⟨3, 5⟩) (meth := k3m5) (c := k3c5) (by decide +kernel) rfl rfl rfl (by decide +kernel)
set_option maxRecDepth 65536 in
theorem w_c7 : (Jvm.Cond.code ({ cls := "com/example/onda/onda/sudoku/Geometry", name := "size", desc := "()I" } : Jvm.MethodName) prog_22_method_2_code (1 : Nat) (Option.some Jvm.ClassFile.FieldType.int)).before args0 about1 = true := code_word (m := ⟨3, 1⟩) (meth := k3m1) (c := k3c1) (by decide +kernel) rfl rfl rfl (by decide +kernel)
set_option maxRecDepth 65536 in
theorem w_c8 : (Jvm.Cond.code ({ cls := "com/example/onda/onda/sudoku/Geometry", name := "units", desc := "()I" } : Jvm.MethodName) prog_22_method_3_code (1 : Nat) (Option.some Jvm.ClassFile.FieldType.int)).before args0 about1 = true := code_word (m := ⟨3, 2⟩) (meth := k3m2) (c := k3c2) (by decide +kernel) rfl rfl rfl (by decide +kernel)
set_option maxRecDepth 65536 in
theorem w_c9 : (Jvm.Cond.code ({ cls := "com/example/onda/onda/sudoku/Units", name := "place", desc := "(II)V" } : Jvm.MethodName) prog_24_method_6_code (5 : Nat) (Option.none : Option Jvm.ClassFile.FieldType)).before args0 about1 = true := code_word (m := ⟨2, 4⟩) (meth := k2m4) (c := k2c4) (by decide +kernel) rfl rfl rfl (by decide +kernel)
set_option maxRecDepth 65536 in
theorem w_c10 : (Jvm.Cond.code ({ cls := "com/example/onda/onda/sudoku/UnitsPlacePinLaw", name := "sameRow", desc := "(III)Z" } : Jvm.MethodName) method_2_code (3 : Nat) (Option.some Jvm.ClassFile.FieldType.boolean)).before args0 about1 = true := code_word (m := ⟨1, 1⟩) (meth := k1m1) (c := k1c1) (by decide +kernel) rfl rfl rfl (by decide +kernel)
set_option maxRecDepth 65536 in
theorem w_c11 : (Jvm.Cond.code ({ cls := "com/example/onda/onda/sudoku/UnitsPlacePinLaw", name := "sameColumn", desc := "(III)Z" } : Jvm.MethodName) method_3_code (3 : Nat) (Option.some Jvm.ClassFile.FieldType.boolean)).before args0 about1 = true := code_word (m := ⟨1, 2⟩) (meth := k1m2) (c := k1c2) (by decide +kernel) rfl rfl rfl (by decide +kernel)
set_option maxRecDepth 65536 in
theorem w_c12 : (Jvm.Cond.code ({ cls := "com/example/onda/onda/sudoku/UnitsPlacePinLaw", name := "sameBox", desc := "(IIII)Z" } : Jvm.MethodName) method_4_code (4 : Nat) (Option.some Jvm.ClassFile.FieldType.boolean)).before args0 about1 = true := code_word (m := ⟨1, 3⟩) (meth := k1m3) (c := k1c3) (by decide +kernel) rfl rfl rfl (by decide +kernel)
set_option maxRecDepth 65536 in
theorem w_c13 : (Jvm.Cond.code ({ cls := "com/example/onda/onda/sudoku/Units", name := "rowHolds", desc := "(II)Z" } : Jvm.MethodName) prog_24_method_3_code (3 : Nat) (Option.some Jvm.ClassFile.FieldType.boolean)).before args0 about1 = true := code_word (m := ⟨2, 1⟩) (meth := k2m1) (c := k2c1) (by decide +kernel) rfl rfl rfl (by decide +kernel)
set_option maxRecDepth 65536 in
theorem w_c14 : (Jvm.Cond.code ({ cls := "com/example/onda/onda/sudoku/Units", name := "columnHolds", desc := "(II)Z" } : Jvm.MethodName) prog_24_method_4_code (3 : Nat) (Option.some Jvm.ClassFile.FieldType.boolean)).before args0 about1 = true := code_word (m := ⟨2, 2⟩) (meth := k2m2) (c := k2c2) (by decide +kernel) rfl rfl rfl (by decide +kernel)
set_option maxRecDepth 65536 in
theorem w_c15 : (Jvm.Cond.code ({ cls := "com/example/onda/onda/sudoku/Units", name := "boxHolds", desc := "(II)Z" } : Jvm.MethodName) prog_24_method_5_code (3 : Nat) (Option.some Jvm.ClassFile.FieldType.boolean)).before args0 about1 = true := code_word (m := ⟨2, 3⟩) (meth := k2m3) (c := k2c3) (by decide +kernel) rfl rfl rfl (by decide +kernel)
def codes1 : List Jvm.Cond := [Jvm.Cond.code x code maxLocals ret, Jvm.Cond.code ({ cls := "com/example/onda/onda/sudoku/Geometry", name := "<init>", desc := "(I)V" } : Jvm.MethodName) prog_22_method_1_code (5 : Nat) (Option.none : Option Jvm.ClassFile.FieldType), Jvm.Cond.code ({ cls := "java/lang/Object", name := "<init>", desc := "()V" } : Jvm.MethodName) object_method_1_code (1 : Nat) (Option.none : Option Jvm.ClassFile.FieldType), Jvm.Cond.code ({ cls := "com/example/onda/onda/sudoku/Units", name := "<init>", desc := "(Lcom/example/onda/onda/sudoku/Geometry;)V" } : Jvm.MethodName) prog_24_method_2_code (2 : Nat) (Option.none : Option Jvm.ClassFile.FieldType), Jvm.Cond.code ({ cls := "com/example/onda/onda/sudoku/Geometry", name := "rowOf", desc := "()[I" } : Jvm.MethodName) prog_22_method_4_code (1 : Nat) (Option.some (Jvm.ClassFile.FieldType.array Jvm.ClassFile.FieldType.int)), Jvm.Cond.code ({ cls := "com/example/onda/onda/sudoku/Geometry", name := "columnOf", desc := "()[I" } : Jvm.MethodName) prog_22_method_5_code (1 : Nat) (Option.some (Jvm.ClassFile.FieldType.array Jvm.ClassFile.FieldType.int)), Jvm.Cond.code ({ cls := "com/example/onda/onda/sudoku/Geometry", name := "boxOf", desc := "()[I" } : Jvm.MethodName) prog_22_method_6_code (1 : Nat) (Option.some (Jvm.ClassFile.FieldType.array Jvm.ClassFile.FieldType.int)), Jvm.Cond.code ({ cls := "com/example/onda/onda/sudoku/Geometry", name := "size", desc := "()I" } : Jvm.MethodName) prog_22_method_2_code (1 : Nat) (Option.some Jvm.ClassFile.FieldType.int), Jvm.Cond.code ({ cls := "com/example/onda/onda/sudoku/Geometry", name := "units", desc := "()I" } : Jvm.MethodName) prog_22_method_3_code (1 : Nat) (Option.some Jvm.ClassFile.FieldType.int), Jvm.Cond.code ({ cls := "com/example/onda/onda/sudoku/Units", name := "place", desc := "(II)V" } : Jvm.MethodName) prog_24_method_6_code (5 : Nat) (Option.none : Option Jvm.ClassFile.FieldType), Jvm.Cond.code ({ cls := "com/example/onda/onda/sudoku/UnitsPlacePinLaw", name := "sameRow", desc := "(III)Z" } : Jvm.MethodName) method_2_code (3 : Nat) (Option.some Jvm.ClassFile.FieldType.boolean), Jvm.Cond.code ({ cls := "com/example/onda/onda/sudoku/UnitsPlacePinLaw", name := "sameColumn", desc := "(III)Z" } : Jvm.MethodName) method_3_code (3 : Nat) (Option.some Jvm.ClassFile.FieldType.boolean), Jvm.Cond.code ({ cls := "com/example/onda/onda/sudoku/UnitsPlacePinLaw", name := "sameBox", desc := "(IIII)Z" } : Jvm.MethodName) method_4_code (4 : Nat) (Option.some Jvm.ClassFile.FieldType.boolean), Jvm.Cond.code ({ cls := "com/example/onda/onda/sudoku/Units", name := "rowHolds", desc := "(II)Z" } : Jvm.MethodName) prog_24_method_3_code (3 : Nat) (Option.some Jvm.ClassFile.FieldType.boolean), Jvm.Cond.code ({ cls := "com/example/onda/onda/sudoku/Units", name := "columnHolds", desc := "(II)Z" } : Jvm.MethodName) prog_24_method_4_code (3 : Nat) (Option.some Jvm.ClassFile.FieldType.boolean), Jvm.Cond.code ({ cls := "com/example/onda/onda/sudoku/Units", name := "boxHolds", desc := "(II)Z" } : Jvm.MethodName) prog_24_method_5_code (3 : Nat) (Option.some Jvm.ClassFile.FieldType.boolean)]
set_option maxRecDepth 65536 in
theorem codes_eq : words1.filter isCode = codes1 := rfl
theorem w_codes : ∀ c ∈ words1.filter isCode, c.before args0 about1 = true := by
  rw [codes_eq]
  intro c hc
  simp only [codes1, List.mem_cons, List.not_mem_nil, or_false] at hc
  rcases hc with rfl | rfl | rfl | rfl | rfl | rfl | rfl | rfl | rfl | rfl | rfl | rfl | rfl | rfl | rfl | rfl
  · exact w_c0
  · exact w_c1
  · exact w_c2
  · exact w_c3
  · exact w_c4
  · exact w_c5
  · exact w_c6
  · exact w_c7
  · exact w_c8
  · exact w_c9
  · exact w_c10
  · exact w_c11
  · exact w_c12
  · exact w_c13
  · exact w_c14
  · exact w_c15
set_option maxRecDepth 65536 in
theorem w_t1 : (words1.take 24).all (fun c => isCode c || c.before args0 about1) = true := by decide +kernel
set_option maxRecDepth 65536 in
theorem w_t2 : ((words1.drop 24).take 24).all (fun c => isCode c || c.before args0 about1) = true := by decide +kernel
set_option maxRecDepth 65536 in
theorem w_t3 : (((words1.drop 24).drop 24).take 24).all (fun c => isCode c || c.before args0 about1) = true := by decide +kernel
set_option maxRecDepth 65536 in
theorem w_t4 : ((((words1.drop 24).drop 24).drop 24).take 24).all (fun c => isCode c || c.before args0 about1) = true := by decide +kernel
set_option maxRecDepth 65536 in
theorem w_t5 : ((((words1.drop 24).drop 24).drop 24).drop 24).all (fun c => isCode c || c.before args0 about1) = true := by decide +kernel
theorem w_tables : (allAtoms (Jvm.Cond.code x code maxLocals ret :: tables_1)).before args0 about1 = true := by
  rw [allAtoms_all]
  show words1.all (fun c => c.before args0 about1) = true
  refine all_split ?_ w_codes
  rw [← List.take_append_drop 24 words1, List.all_append, w_t1, ← List.take_append_drop 24 (words1.drop 24), List.all_append, w_t2, ← List.take_append_drop 24 ((words1.drop 24).drop 24), List.all_append, w_t3, ← List.take_append_drop 24 (((words1.drop 24).drop 24).drop 24), List.all_append, w_t4, w_t5]
  rfl
set_option maxRecDepth 65536 in
theorem w_case : (Jvm.Cond.and given_1 narrow_1).before args0 about1 = true := by decide +kernel
theorem w_applies : (headSpec (Jvm.Cond.code x code maxLocals ret :: tables_1) room_1).applies x e0.platform about1 = true :=
  (Spec.applies_iff w_frames).mpr ⟨w_running, w_runnable, w_alone, w_named, w_hears, w_ripe, w_room, w_tables⟩
theorem atStart : AtStart classFile x code maxLocals ret World_1 tables_1 room_1 Calls_1 rest_1 Pre_1 launch0 p0 e0 about1 theMethod args0 below0 :=
  ⟨lists_1, trivial, launch0.admits_env _ _ _, launch0.least_env, fairChoices_fair.cas, fairChoices_fair.clock, w_frames, w_args, w_heap, w_applies, trivial, trivial, w_case⟩
end start1
theorem witness_1 : WitnessClaimed_1 := ⟨start1.p0, start1.e0, start1.about1, start1.theMethod, start1.args0, start1.below0, start1.atStart⟩
end Jvm.Pilot.@@N@@
