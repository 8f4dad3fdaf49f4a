import JvmDerived
import JvmDerived.Pilot.@@N@@Statement
import JvmDerived.Pilot.@@N@@Code
set_option linter.unusedVariables false
set_option linter.unusedSimpArgs false
@@BLOCK:NumsL.lean.txt@@
namespace Jvm.Pilot.@@N@@
open Jvm Jvm.ClassFile Sem Op Lib Jvm.Free Jvm.Stand Jvm.LawKit Jvm.RoadKit Bundle Jvm.Pilot.@@N@@.Jvm.D

section Own
variable {p : Program} {l : Launch} {e : Env} {R : Room} {s : State} {m : MethodId} {args : Array Value} {below : List Frame} {meth : Method} {c : Code} {T : State} {locs : List Loc} {cells slots : Nat} {Z : State} {a0 : Array Value} {h : Heap} {Q : Option Value → Heap → List Loc → Prop} {kc kn : Nat}
/-- from U the body comes to its end, with Q -/
def own_Fin (p : Program) (e : Env) (below : List Frame) (s : State) (Q : Option Value → Heap → List Loc → Prop) (kc kn : Nat) (U : State) : Prop :=
  ∃ t o, Steps p.tables e below U t ∧ t.status = .running ∧ Ended t below o ∧ ∃ v L, o = .returned v ∧ Q v t.heap L ∧ FrameEnd s o t L kc kn
theorem own_go {U U' : State} (g : ∀ t, Steps p.tables e below U' t → Steps p.tables e below U t) (H : own_Fin p e below s Q kc kn U') : own_Fin p e below s Q kc kn U := by
  obtain ⟨t, o, h1, h2⟩ := H
  exact ⟨t, o, g t h1, h2⟩
/-- what a body that writes nothing and returns w leaves -/
def own_P (w : Option Value) (h0 : Heap) (n0 : Nat) (v : Option Value) (h : Heap) (L : List Loc) : Prop := v = w ∧ Fr n0 L ∧ h = h0
/-- a body's contract: called with as' on the heap h, it ends with Q -/
def own_Met (l : Launch) (y : MethodName) (bytes : ByteArray) (maxL : Nat) (ret : Option FieldType) (rm : Room) (Z : State) (ws : List Jvm.Cond) (as' : Array Value) (h : Heap) (Q : Option Value → Heap → List Loc → Prop) : Prop :=
  MetFree l y (head1 (Jvm.Cond.code y bytes maxL ret :: ws) rm) (fun a U => a = as' ∧ Z.Warmed39 U.vm ∧ U.heap = h) (fun _ _ _ _ _ => True) (fun _ U o U' => ∃ v L, o = .returned v ∧ Q v U'.heap L ∧ FrameEnd U o U' L rm.cells rm.slots)
theorem own_enter {y : MethodName} {bytes : ByteArray} {maxL : Nat} {ret : Option FieldType} {rm : Room} {ws : List Jvm.Cond} {as' : Array Value} (hp : plainFor y = true)
    (H : ∀ (p : Program) (e : Env) (s : State) (m : MethodId) (below : List Frame) (meth : Method) (c : Code) (s₁ : State), p.tables.exec = Jvm.exec → c.code = bytes → c.maxLocals = maxL → s.vm.findClass y.cls = some m.cls → meth.name = y.name → meth.sig.returnType = ret → meth.locks = false → Z.Warmed39 s.vm → s₁.heap = h → Stand p l e rm s m as' below meth c s₁ [] 0 0 → own_Fin p e below s Q rm.cells rm.slots (s₁.setTop (entryFrame m as' maxL))) :
    own_Met l y bytes maxL ret rm Z ws as' h Q := by
  unfold own_Met
  refine MetFree.of_bodySF hp hisR ?_
  intro p e s m args below meth c s₁ Bd hml0 hP hK
  obtain ⟨rfl, hZ, hh⟩ := hP
  exact H p e s m below meth c s₁ Bd.exec Bd.bytes hml0 (findClass_of_methodNamed Bd.named) (name_of_methodNamed Bd.named Bd.method).1 Bd.returns (BodyLoose.notSynchronized Bd) hZ (by rw [← hh, Bd.state]; rfl) (Stand.of_body Bd)
theorem own_ret (X : Stand p l e R s m args below meth c T locs cells slots) (hx : p.tables.exec = Jvm.exec) (hlk : meth.locks = false) {pc : Nat} {Ls : Array Slot} {w : Value} {t : FieldType} {i : Instr} {rest : List Value} (hret : meth.sig.returnType = some t) (hn : narrow t w = w)
    (hi : (i = .ireturn ∧ (t = .int ∨ t = .boolean ∨ t = .byte ∨ t = .char ∨ t = .short) ∧ ∃ z, w = .int z) ∨ (i = .lreturn ∧ t = .long ∧ ∃ z, w = .long z) ∨ (i = .dreturn ∧ t = .double ∧ ∃ z, w = .double z) ∨ (i = .freturn ∧ t = .float ∧ ∃ z, w = .float z) ∨ (i = .areturn ∧ t.isReference = true ∧ w.isRef = true))
    (hd : decode c.code pc = .ok (i, 1)) (hk : cells ≤ kc) (hs : slots ≤ kn) (hq : Q (some w) T.heap locs) : own_Fin p e below s Q kc kn (T.setTop (mkF m pc Ls (w :: rest))) := by
  obtain ⟨fs, hr, hrun, hended, hW, hsame⟩ := X.leave (v := some w) (fun h => by rw [hret] at h; cases h) hlk
  exact ⟨_, _, retOut X hx hret hn hi hd hr, hrun, hended, _, _, rfl, hq, ⟨_, rfl⟩, hW, hsame.mono hk hs⟩
theorem own_retI (X : Stand p l e R s m args below meth c T locs cells slots) (hx : p.tables.exec = Jvm.exec) (hlk : meth.locks = false) {pc : Nat} {Ls : Array Slot} {z : Int32} {rest : List Value} (hret : meth.sig.returnType = some .int)
    (hd : decode c.code pc = .ok (.ireturn, 1)) (hk : cells ≤ kc) (hs : slots ≤ kn) (hq : Q (some (.int z)) T.heap locs) : own_Fin p e below s Q kc kn (T.setTop (mkF m pc Ls (.int z :: rest))) :=
  own_ret X hx hlk hret rfl (Or.inl ⟨rfl, Or.inl rfl, _, rfl⟩) hd hk hs hq
theorem own_retZ (X : Stand p l e R s m args below meth c T locs cells slots) (hx : p.tables.exec = Jvm.exec) (hlk : meth.locks = false) {pc : Nat} {Ls : Array Slot} {z : Int32} {rest : List Value} (hret : meth.sig.returnType = some .boolean) (hn : narrow .boolean (.int z) = .int z)
    (hd : decode c.code pc = .ok (.ireturn, 1)) (hk : cells ≤ kc) (hs : slots ≤ kn) (hq : Q (some (.int z)) T.heap locs) : own_Fin p e below s Q kc kn (T.setTop (mkF m pc Ls (.int z :: rest))) :=
  own_ret X hx hlk hret hn (Or.inl ⟨rfl, Or.inr (Or.inl rfl), _, rfl⟩) hd hk hs hq
theorem own_retJ (X : Stand p l e R s m args below meth c T locs cells slots) (hx : p.tables.exec = Jvm.exec) (hlk : meth.locks = false) {pc : Nat} {Ls : Array Slot} {z : Int64} {rest : List Value} (hret : meth.sig.returnType = some .long)
    (hd : decode c.code pc = .ok (.lreturn, 1)) (hk : cells ≤ kc) (hs : slots ≤ kn) (hq : Q (some (.long z)) T.heap locs) : own_Fin p e below s Q kc kn (T.setTop (mkF m pc Ls (.long z :: rest))) :=
  own_ret X hx hlk hret rfl (Or.inr (Or.inl ⟨rfl, rfl, _, rfl⟩)) hd hk hs hq
theorem own_retA (X : Stand p l e R s m args below meth c T locs cells slots) (hx : p.tables.exec = Jvm.exec) (hlk : meth.locks = false) {pc : Nat} {Ls : Array Slot} {z : Addr} {t : FieldType} {rest : List Value} (hret : meth.sig.returnType = some t) (ht : t.isReference = true) (hn : narrow t (.ref z) = .ref z)
    (hd : decode c.code pc = .ok (.areturn, 1)) (hk : cells ≤ kc) (hs : slots ≤ kn) (hq : Q (some (.ref z)) T.heap locs) : own_Fin p e below s Q kc kn (T.setTop (mkF m pc Ls (.ref z :: rest))) :=
  own_ret X hx hlk hret hn (Or.inr (Or.inr (Or.inr (Or.inr ⟨rfl, ht, rfl⟩)))) hd hk hs hq
theorem own_retV (X : Stand p l e R s m args below meth c T locs cells slots) (hx : p.tables.exec = Jvm.exec) (hlk : meth.locks = false) {pc : Nat} {Ls : Array Slot} (hret : meth.sig.returnType = none)
    (hd : decode c.code pc = .ok (.return_, 1)) (hk : cells ≤ kc) (hs : slots ≤ kn) (hq : Q none T.heap locs) : own_Fin p e below s Q kc kn (T.setTop (mkF m pc Ls [])) := by
  obtain ⟨fs, hr, hrun, hended, hW, hsame⟩ := X.leave (v := none) (fun _ => rfl) hlk
  exact ⟨_, _, X.returnOut hx hret hd hr, hrun, hended, _, _, rfl, hq, ⟨_, rfl⟩, hW, hsame.mono hk hs⟩
theorem own_callS (X : Stand p l e R s m args below meth c T locs cells slots) (hx : p.tables.exec = Jvm.exec) (hZ : Z.Warmed39 s.vm) {own : String} {index : Nat} {y : MethodName} {bytes : ByteArray} {maxL : Nat} {ret : Option FieldType} {rm : Room} {as' : Array Value} {Q' : Option Value → Heap → List Loc → Prop}
    (hown : s.vm.findClass own = some m.cls) (w1 : (Jvm.Cond.methodLink own index y).before a0 Z = true) (w2 : (Jvm.Cond.static y).before a0 Z = true) (w3 : (Jvm.Cond.initialized y.cls).before a0 Z = true) (w4 : (Jvm.Cond.code y bytes maxL ret).before a0 Z = true) (hy : y.cls ≠ "java/lang/invoke/MethodHandle" ∧ y.cls ≠ "java/lang/invoke/VarHandle")
    (hM : own_Met l y bytes maxL ret rm Z [] as' h Q') (eT : T.heap = h) {pc : Nat} {Ls : Array Slot} {st argsL rest : List Value} (hst : st = argsL.reverse ++ rest) (has : argsL.toArray = as') (hsize : Ls.size = c.maxLocals) (hlen : ∀ sig, parseMethodDescriptor y.desc = some sig → argsL.length = sig.parameters.length)
    (hd : decode c.code pc = .ok (.invokestatic index, 3)) {W : Nat} (hW : (rest.map fun v => v.category).sum ≤ W) (hf : rm.frames + 1 ≤ R.frames) (hl : W + (maxL + 11) + rm.locals ≤ R.locals) (hc : cells + rm.cells ≤ R.cells) (hs : slots + rm.slots ≤ R.slots)
    (H : ∀ (v : Option Value) (T' : State) (L : List Loc), Stand p l e R s m args below meth c T' (locs ++ L) (cells + rm.cells) (slots + rm.slots) → Q' v T'.heap L → own_Fin p e below s Q kc kn (T'.setTop (mkF m (pc + 3) Ls (v.toList ++ rest)))) :
    own_Fin p e below s Q kc kn (T.setTop (mkF m pc Ls st)) := by
  subst hst
  obtain ⟨v, _, ⟨T', L', k', n'⟩, -, X', ⟨Lc, hQ, l1, y1, z1⟩, st⟩ := Jvm.LawKit.callS X hx (y := y) hown (mvT hZ w1) (mvT hZ w2) (mvT hZ w3) (mvT hZ w4) hy (backOf (W := W) hM hZ w4 w3 hf hl) (g := mkF m pc Ls (argsL.reverse ++ rest)) rfl hsize hlen rfl (by show 2 * 0 + _ ≤ _; omega) hd (fun _ _ => ⟨has, eT, hc, hs⟩)
  dsimp only [Pt.U, Pt.locs, Pt.cells, Pt.slots] at X' l1 y1 z1 st hQ
  subst l1 y1 z1
  exact own_go st (H _ _ _ X' hQ)
theorem own_callV (X : Stand p l e R s m args below meth c T locs cells slots) (hx : p.tables.exec = Jvm.exec) (hZ : Z.Warmed39 s.vm) {own C : String} {index : Nat} {y z : MethodName} {bytes : ByteArray} {maxL : Nat} {ret : Option FieldType} {rm : Room} {as' : Array Value} {Q' : Option Value → Heap → List Loc → Prop}
    (hown : s.vm.findClass own = some m.cls) (w1 : (Jvm.Cond.methodLink own index y).before a0 Z = true) (w2 : (Jvm.Cond.declares y).before a0 Z = true) (nf : NotFace s y) (w3 : (Jvm.Cond.selects C y z).before a0 Z = true) (w4 : (Jvm.Cond.instanceMethod z).before a0 Z = true) (w5 : (Jvm.Cond.code z bytes maxL ret).before a0 Z = true) (w6 : (Jvm.Cond.initialized z.cls).before a0 Z = true) (hy : y.cls ≠ "java/lang/invoke/MethodHandle" ∧ y.cls ≠ "java/lang/invoke/VarHandle")
    (hM : own_Met l z bytes maxL ret rm Z [] as' h Q') (eT : T.heap = h) {a : Addr} (E : Exa Z h a C) {pc : Nat} {Ls : Array Slot} {st argsL rest : List Value} (hst : st = argsL.reverse ++ .ref a :: rest) (has : (.ref a :: argsL).toArray = as') (hsize : Ls.size = c.maxLocals) (hlen : ∀ sig, parseMethodDescriptor y.desc = some sig → argsL.length = sig.parameters.length)
    (hd : decode c.code pc = .ok (.invokevirtual index, 3)) {W : Nat} (hW : (rest.map fun v => v.category).sum ≤ W) (hf : rm.frames + 1 ≤ R.frames) (hl : W + (maxL + 11) + rm.locals ≤ R.locals) (hc : cells + rm.cells ≤ R.cells) (hs : slots + rm.slots ≤ R.slots)
    (H : ∀ (v : Option Value) (T' : State) (L : List Loc), Stand p l e R s m args below meth c T' (locs ++ L) (cells + rm.cells) (slots + rm.slots) → Q' v T'.heap L → own_Fin p e below s Q kc kn (T'.setTop (mkF m (pc + 3) Ls (v.toList ++ rest)))) :
    own_Fin p e below s Q kc kn (T.setTop (mkF m pc Ls st)) := by
  subst hst
  obtain ⟨cB, kB, q1, q2, q3⟩ := isOf (T := T) hZ eT E
  obtain ⟨v, _, ⟨T', L', k', n'⟩, -, X', ⟨Lc, hQ, l1, y1, z1⟩, st⟩ := X.virtualBack hx (y := y) (z := z) hown (mvT hZ w1) (mvT hZ w2) nf (mvT hZ w3) (mvT hZ w4) hy (backOf (W := W) hM hZ w5 w6 hf hl) q1 q3 (g := mkF m pc Ls (argsL.reverse ++ .ref a :: rest)) rfl hsize (Steps.refl _) hlen rfl (by show 2 * 0 + _ ≤ _; omega) hd (fun _ _ => ⟨has, eT, hc, hs⟩)
  dsimp only [Pt.U, Pt.locs, Pt.cells, Pt.slots] at X' l1 y1 z1 st hQ
  subst l1 y1 z1
  exact own_go (fun _ k => st.trans k) (H _ _ _ X' hQ)
theorem own_callN (X : Stand p l e R s m args below meth c T locs cells slots) (hx : p.tables.exec = Jvm.exec) (hZ : Z.Warmed39 s.vm) {own : String} {index : Nat} {y : MethodName} {bytes : ByteArray} {maxL : Nat} {rm : Room} {as' : Array Value} {Q' : Option Value → Heap → List Loc → Prop} (hy1 : y.name = "<init>")
    (hown : s.vm.findClass own = some m.cls) (w1 : (Jvm.Cond.methodLink own index y).before a0 Z = true) (w2 : (Jvm.Cond.instanceMethod y).before a0 Z = true) (w3 : (Jvm.Cond.initialized y.cls).before a0 Z = true) (w4 : (Jvm.Cond.code y bytes maxL none).before a0 Z = true) (hy : y.cls ≠ "java/lang/invoke/MethodHandle" ∧ y.cls ≠ "java/lang/invoke/VarHandle")
    (hM : own_Met l y bytes maxL none rm Z [] as' h Q') (eT : T.heap = h) {a : Addr} {pc : Nat} {Ls : Array Slot} {st argsL rest : List Value} (hst : st = argsL.reverse ++ .ref a :: rest) (has : (.ref a :: argsL).toArray = as') (hsize : Ls.size = c.maxLocals) (hlen : ∀ sig, parseMethodDescriptor y.desc = some sig → argsL.length = sig.parameters.length)
    (hd : decode c.code pc = .ok (.invokespecial index, 3)) {W : Nat} (hW : (rest.map fun v => v.category).sum ≤ W) (hf : rm.frames + 1 ≤ R.frames) (hl : W + (maxL + 11) + rm.locals ≤ R.locals) (hc : cells + rm.cells ≤ R.cells) (hs : slots + rm.slots ≤ R.slots)
    (H : ∀ (v : Option Value) (T' : State) (L : List Loc), Stand p l e R s m args below meth c T' (locs ++ L) (cells + rm.cells) (slots + rm.slots) → Q' v T'.heap L → own_Fin p e below s Q kc kn (T'.setTop (mkF m (pc + 3) Ls (v.toList ++ rest)))) :
    own_Fin p e below s Q kc kn (T.setTop (mkF m pc Ls st)) := by
  subst hst
  obtain ⟨v, _, ⟨T', L', k', n'⟩, -, X', ⟨Lc, hQ, l1, y1, z1⟩, st⟩ := X.specialBack hx (y := y) hy1 hown (mvT hZ w1) (mvT hZ w2) (mvT hZ w4) hy (backOf (W := W) hM hZ w4 w3 hf hl) (g := mkF m pc Ls (argsL.reverse ++ .ref a :: rest)) rfl hsize (Steps.refl _) (a := a) hlen rfl (by show 2 * 0 + _ ≤ _; omega) hd (fun _ _ => ⟨has, eT, hc, hs⟩)
  dsimp only [Pt.U, Pt.locs, Pt.cells, Pt.slots] at X' l1 y1 z1 st hQ
  subst l1 y1 z1
  exact own_go (fun _ k => st.trans k) (H _ _ _ X' hQ)
theorem own_initO (X : Stand p l e R s m args below meth c T locs cells slots) (hx : p.tables.exec = Jvm.exec) (hZ : Z.Warmed39 s.vm) {own : String} {idx : Nat} (hown : s.vm.findClass own = some m.cls) (w1 : (Jvm.Cond.methodLink own idx Lib.objectInit).before a0 Z = true) (w2 : (Jvm.Cond.instanceMethod Lib.objectInit).before a0 Z = true)
    (w3 : (Jvm.Cond.code Lib.objectInit ⟨#[0xb1]⟩ 1 none).before a0 Z = true) (eT : T.heap = h) {pc : Nat} {Ls : Array Slot} (hsize : Ls.size = c.maxLocals) {a : Addr} {rest : List Value} (hd : decode c.code pc = .ok (.invokespecial idx, 3))
    (hf : 1 ≤ R.frames) {W : Nat} (hW : (rest.map fun v => v.category).sum ≤ W) (hl : W + 12 ≤ R.locals)
    (H : ∀ (T' : State), Stand p l e R s m args below meth c T' locs cells slots → T'.heap = h → own_Fin p e below s Q kc kn (T'.setTop (mkF m (pc + 3) Ls rest))) :
    own_Fin p e below s Q kc kn (T.setTop (mkF m pc Ls (.ref a :: rest))) := by
  obtain ⟨T', X', e', st⟩ := initO X hx hZ hown w1 w2 w3 eT (g := mkF m pc Ls (.ref a :: rest)) rfl hsize rfl hd hf (W := W) (by show 2 * 0 + _ ≤ _; omega) hl
  exact own_go st (H _ X' e')
theorem own_getF (X : Stand p l e R s m args below meth c T locs cells slots) (hx : p.tables.exec = Jvm.exec) (hZ : Z.Warmed39 s.vm) {own R0 O n d host : String} {index : Nat} (hown : s.vm.findClass own = some m.cls) (w : (Jvm.Cond.fieldLink own index R0 n d).before a0 Z = true ∨ (Jvm.Cond.fieldLinkNest own index R0 n d host).before a0 Z = true) (via : Via Z R0 O n d)
    (eT : T.heap = h) {a : Addr} {v : Value} (F : Fld Z h a O n d v) {pc : Nat} {Ls : Array Slot} {rest : List Value} (hd : decode c.code pc = .ok (.getfield index, 3))
    (H : ∀ (T' : State), Stand p l e R s m args below meth c T' locs cells slots → T'.heap = h → own_Fin p e below s Q kc kn (T'.setTop (mkF m (pc + 3) Ls (v :: rest)))) :
    own_Fin p e below s Q kc kn (T.setTop (mkF m pc Ls (.ref a :: rest))) := by
  obtain ⟨T', X', e', st⟩ := getF X hx hZ hown w via eT F (g := mkF m pc Ls (.ref a :: rest)) rfl rfl hd
  exact own_go st (H _ X' e')
theorem own_getS (X : Stand p l e R s m args below meth c T locs cells slots) (hx : p.tables.exec = Jvm.exec) (hZ : Z.Warmed39 s.vm) {own R0 O n d host : String} {index : Nat} (hown : s.vm.findClass own = some m.cls) (w : (Jvm.Cond.fieldLink own index R0 n d).before a0 Z = true ∨ (Jvm.Cond.fieldLinkNest own index R0 n d host).before a0 Z = true) (via : Via Z R0 O n d)
    (eT : T.heap = h) {v : Value} (F : Sta Z h O n d v) {pc : Nat} {Ls : Array Slot} {rest : List Value} (hd : decode c.code pc = .ok (.getstatic index, 3))
    (H : ∀ (T' : State), Stand p l e R s m args below meth c T' locs cells slots → T'.heap = h → own_Fin p e below s Q kc kn (T'.setTop (mkF m (pc + 3) Ls (v :: rest)))) :
    own_Fin p e below s Q kc kn (T.setTop (mkF m pc Ls rest)) := by
  obtain ⟨T', X', e', st⟩ := getS2 X hx hZ hown w via eT F (g := mkF m pc Ls rest) rfl hd
  exact own_go st (H _ X' e')
theorem own_putF (X : Stand p l e R s m args below meth c T locs cells slots) (hx : p.tables.exec = Jvm.exec) (hZ : Z.Warmed39 s.vm) {own R0 O n d host C : String} {index kk : Nat} {ty : FieldType} (hown : s.vm.findClass own = some m.cls) (w : (Jvm.Cond.fieldLink own index R0 n d).before a0 Z = true ∨ (Jvm.Cond.fieldLinkNest own index R0 n d host).before a0 Z = true) (via : Via Z R0 O n d)
    (eT : T.heap = h) {a : Addr} {v old : Value} (F : Fld Z h a O n d old) (E : Exa Z h a C) (L : (Jvm.Cond.lays C O n d).before a0 Z = true ∨ ((Jvm.Cond.laysFinal C O n d).before a0 Z = true ∧ own = O ∧ meth.name = "<init>")) (wi : (Jvm.Cond.instantiable C kk).before a0 Z = true)
    (hty : parseFieldDescriptor d = some ty) (hn : narrow ty v = v) (hf : fits ty v = true) {pc : Nat} {Ls : Array Slot} {rest : List Value} (hd : decode c.code pc = .ok (.putfield index, 3))
    (H : ∀ (T' : State) (h' : Heap), Stand p l e R s m args below meth c T' (locs ++ [⟨a, Jvm.RoadKit.slotOf Z O n d⟩]) cells slots → T'.heap = h' → Wr h h' a (Jvm.RoadKit.slotOf Z O n d) v → own_Fin p e below s Q kc kn (T'.setTop (mkF m (pc + 3) Ls rest))) :
    own_Fin p e below s Q kc kn (T.setTop (mkF m pc Ls (v :: .ref a :: rest))) := by
  obtain ⟨T', h', X', e', W', st⟩ := putF X hx hZ hown w via eT F E L wi hty hn hf (g := mkF m pc Ls (v :: .ref a :: rest)) rfl rfl hd
  exact own_go st (H _ _ X' e' W')
theorem own_new (X : Stand p l e R s m args below meth c T locs cells slots) (hx : p.tables.exec = Jvm.exec) (hZ : Z.Warmed39 s.vm) {own C : String} {index n : Nat} (hown : s.vm.findClass own = some m.cls) (w : (Jvm.Cond.classLink own index C).before a0 Z = true) (wi : (Jvm.Cond.instantiable C n).before a0 Z = true) (wz : (Jvm.Cond.initialized C).before a0 Z = true) (eT : T.heap = h)
    {pc : Nat} {Ls : Array Slot} {rest : List Value} (hd : decode c.code pc = .ok (.new index, 3)) (hc : cells + 1 ≤ R.cells) (hl : slots + n ≤ R.slots)
    (H : ∀ (T' : State) (h' : Heap) (a : Addr), a = h.size → Stand p l e R s m args below meth c T' locs (cells + 1) (slots + n) → T'.heap = h' → Ext h h' → Exa Z h' a C → (∀ {O nm d : String} {ty : FieldType}, Laid Z a0 C O nm d → parseFieldDescriptor d = some ty → Fld Z h' a O nm d (defaultValue ty)) → own_Fin p e below s Q kc kn (T'.setTop (mkF m (pc + 3) Ls (.ref a :: rest)))) :
    own_Fin p e below s Q kc kn (T.setTop (mkF m pc Ls rest)) := by
  obtain ⟨T', h', X', e', E', A', D', -, st⟩ := newO X hx hZ hown w wi wz eT (g := mkF m pc Ls rest) rfl hd hc hl
  exact own_go st (H _ _ _ rfl X' e' E' A' D')
theorem own_callU (X : Stand p l e R s m args below meth c T locs cells slots) (hx : p.tables.exec = Jvm.exec) (hZ : Z.Warmed39 s.vm) {own C owner : String} {index : Nat} {y z : MethodName} {bytes : ByteArray} {maxL : Nat} {ret : Option FieldType} {rm : Room} {as' : Array Value} {Q' : Option Value → Heap → List Loc → Prop}
    (hown : s.vm.findClass own = some m.cls) (w1 : (Jvm.Cond.methodLink own index y).before a0 Z = true) (w2 : (Jvm.Cond.sameMethod y.cls owner y.name y.desc).before a0 Z = true) (w2' : (Jvm.Cond.declares ⟨owner, y.name, y.desc⟩).before a0 Z = true) (hy : owner ≠ "java/lang/invoke/MethodHandle" ∧ owner ≠ "java/lang/invoke/VarHandle") (w3 : (Jvm.Cond.selects C y z).before a0 Z = true) (w4 : (Jvm.Cond.instanceMethod z).before a0 Z = true) (w5 : (Jvm.Cond.code z bytes maxL ret).before a0 Z = true) (w6 : (Jvm.Cond.initialized z.cls).before a0 Z = true)
    (hM : own_Met l z bytes maxL ret rm Z [] as' h Q') (eT : T.heap = h) {a : Addr} (E : Exa Z h a C) {pc : Nat} {Ls : Array Slot} {st argsL rest : List Value} (hst : st = argsL.reverse ++ .ref a :: rest) (has : (.ref a :: argsL).toArray = as') (hsize : Ls.size = c.maxLocals) (hlen : ∀ sig, parseMethodDescriptor y.desc = some sig → argsL.length = sig.parameters.length)
    (hd : decode c.code pc = .ok (.invokevirtual index, 3)) {W : Nat} (hW : (rest.map fun v => v.category).sum ≤ W) (hf : rm.frames + 1 ≤ R.frames) (hl : W + (maxL + 11) + rm.locals ≤ R.locals) (hc : cells + rm.cells ≤ R.cells) (hs : slots + rm.slots ≤ R.slots)
    (H : ∀ (v : Option Value) (T' : State) (L : List Loc), Stand p l e R s m args below meth c T' (locs ++ L) (cells + rm.cells) (slots + rm.slots) → Q' v T'.heap L → own_Fin p e below s Q kc kn (T'.setTop (mkF m (pc + 3) Ls (v.toList ++ rest)))) :
    own_Fin p e below s Q kc kn (T.setTop (mkF m pc Ls st)) := by
  subst hst
  obtain ⟨cB, kB, q1, q2, q3⟩ := isOf (T := T) hZ eT E
  obtain ⟨v, _, ⟨T', L', k', n'⟩, -, X', ⟨Lc, hQ, l1, y1, z1⟩, st⟩ := X.virtualBackUp hx (x := y) (y := z) hown (mvT hZ w1) (mvT hZ w2) (mvT hZ w2') hy (mvT hZ w3) (mvT hZ w4) (backOf (W := W) hM hZ w5 w6 hf hl) q1 q3 (g := mkF m pc Ls (argsL.reverse ++ .ref a :: rest)) rfl hsize (Steps.refl _) hlen rfl (by show 2 * 0 + _ ≤ _; omega) hd (fun _ _ => ⟨has, eT, hc, hs⟩)
  dsimp only [Pt.U, Pt.locs, Pt.cells, Pt.slots] at X' l1 y1 z1 st hQ
  subst l1 y1 z1
  exact own_go (fun _ k => st.trans k) (H _ _ _ X' hQ)
theorem own_lswHit (X : Stand p l e R s m args below meth c T locs cells slots) (hx : p.tables.exec = Jvm.exec) {pc pc' : Nat} {Ls : Array Slot} {k : Int32} {rest : List Value} {default : Int} {pairs : Array (Int × Int)} {len : Nat} (hd : decode c.code pc = .ok (.lookupswitch default pairs, len))
    (hsorted : (pairs.toList.zip (pairs.toList.drop 1)).all (fun (a, next) => a.1 < next.1) = true) {a off : Int} (hfind : pairs.find? (·.1 == k.toInt) = some (a, off)) (hoff : 0 ≤ (pc : Int) + off) (hp : ((pc : Int) + off).toNat = pc')
    (H : own_Fin p e below s Q kc kn (T.setTop (mkF m pc' Ls rest))) : own_Fin p e below s Q kc kn (T.setTop (mkF m pc Ls (.int k :: rest))) := by
  subst hp
  exact own_go (fun t q => X.lookupswitchHit hx (g := mkF m pc Ls (.int k :: rest)) rfl rfl hd hsorted hfind hoff t q) H
theorem own_lswMiss (X : Stand p l e R s m args below meth c T locs cells slots) (hx : p.tables.exec = Jvm.exec) {pc pc' : Nat} {Ls : Array Slot} {k : Int32} {rest : List Value} {default : Int} {pairs : Array (Int × Int)} {len : Nat} (hd : decode c.code pc = .ok (.lookupswitch default pairs, len))
    (hsorted : (pairs.toList.zip (pairs.toList.drop 1)).all (fun (a, next) => a.1 < next.1) = true) (hfind : ∀ q ∈ pairs.toList, q.1 ≠ k.toInt) (hoff : 0 ≤ (pc : Int) + default) (hp : ((pc : Int) + default).toNat = pc')
    (H : own_Fin p e below s Q kc kn (T.setTop (mkF m pc' Ls rest))) : own_Fin p e below s Q kc kn (T.setTop (mkF m pc Ls (.int k :: rest))) := by
  subst hp
  exact own_go (fun t q => X.lookupswitchMiss hx (g := mkF m pc Ls (.int k :: rest)) rfl rfl hd hsorted (find_miss hfind) hoff t q) H
theorem own_castY (X : Stand p l e R s m args below meth c T locs cells slots) (hx : p.tables.exec = Jvm.exec) (hZ : Z.Warmed39 s.vm) {own K : String} {index : Nat} (hown : s.vm.findClass own = some m.cls) (w : (Jvm.Cond.classLink own index K).before a0 Z = true) (eT : T.heap = h) {a : Addr} (F : Ins Z h a K true)
    {pc : Nat} {Ls : Array Slot} {rest : List Value} (hd : decode c.code pc = .ok (.checkcast index, 3))
    (H : ∀ (T' : State), Stand p l e R s m args below meth c T' locs cells slots → T'.heap = h → own_Fin p e below s Q kc kn (T'.setTop (mkF m (pc + 3) Ls (.ref a :: rest)))) :
    own_Fin p e below s Q kc kn (T.setTop (mkF m pc Ls (.ref a :: rest))) := by
  obtain ⟨T', X', e', st⟩ := castY X hx hZ hown w eT F (g := mkF m pc Ls (.ref a :: rest)) rfl rfl hd
  exact own_go st (H _ X' e')
theorem own_Sta_keep0 {C n d : String} {v : Value} {h h' : Heap} (F : Sta Z h C n d v) (K : Keep h h' []) : Sta Z h' C n d v := by
  obtain ⟨cf, i, k, f, st, cell, h1, h2, h3, h4, h5, r⟩ := F
  exact ⟨cf, i, k, f, st, cell, h1, h2, h3, h4, K.2.1 _ _ h5 nin0, r⟩
theorem own_Arr_keep0 {a : Addr} {cl : Cell} {ty : FieldType} {h h' : Heap} (F : Arr Z h a cl ty) (K : Keep h h' []) : Arr Z h' a cl ty := ⟨K.2.1 _ _ F.1 nin0, F.2⟩
theorem own_neI {k z : Int32} {n : Int} (hz : z.toInt = n) (q : ¬ k = z) : n ≠ k.toInt := fun e => q (Int32.toInt_inj.mp (by rw [hz]; exact e.symm))
theorem own_fldI {args : Array Value} {t : Term} {O nm dd : String} {v : Int32} {a : Addr} (q : (Jvm.Cond.eq (.field t O nm dd) (.int v)).value args Z none Z [] = some true) (ev : t.eval args Z none [] Z = some (.ref a)) : Fld Z Z.heap a O nm dd (.int v) := by
  refine Fld.start ?_
  have e1 := fld_at (C := O) (n := nm) (dd := dd) ev
  simp only [Cond.value, e1] at q
  cases hf : Z.fieldOf? a O nm dd with
  | none => simp [hf] at q
  | some x => cases x <;> simp [hf, Term.eval] at q ⊢; exact q
theorem own_fldR {args : Array Value} {t u : Term} {O nm dd : String} {a b : Addr} (q : (Jvm.Cond.eq (.field t O nm dd) u).value args Z none Z [] = some true) (ev : t.eval args Z none [] Z = some (.ref a)) (eu : u.eval args Z none [] Z = some (.ref b)) : Fld Z Z.heap a O nm dd (.ref b) := by
  refine Fld.start ?_
  have e1 := fld_at (C := O) (n := nm) (dd := dd) ev
  simp only [Cond.value, e1, eu] at q
  cases hf : Z.fieldOf? a O nm dd with
  | none => simp [hf] at q
  | some x => cases x <;> simp [hf] at q ⊢; exact q
end Own

theorem d1_0 : decode jdk_29_method_65_code 0 = .ok (.iload_n 0, 1) := by decide +kernel
theorem d1_1 : decode jdk_29_method_65_code 1 = .ok (.iload_n 1, 1) := by decide +kernel
theorem d1_2 : decode jdk_29_method_65_code 2 = .ok (.if_icmp .lt 7, 3) := by decide +kernel
theorem d1_5 : decode jdk_29_method_65_code 5 = .ok (.iload_n 0, 1) := by decide +kernel
theorem d1_6 : decode jdk_29_method_65_code 6 = .ok (.goto 4, 3) := by decide +kernel
theorem d1_9 : decode jdk_29_method_65_code 9 = .ok (.iload_n 1, 1) := by decide +kernel
theorem d1_10 : decode jdk_29_method_65_code 10 = .ok (.ireturn, 1) := by decide +kernel
theorem pn_1 : plainFor (⟨"java/lang/Math", "max", "(II)I"⟩ : MethodName) = true := Jvm.Free.JP.mathPlain rfl (by decide +kernel)
theorem ef_1 (m : MethodId) (x0 : Int32) (x1 : Int32) : entryFrame m #[(.int x0), (.int x1)] 2 = mkF m 0 #[.val (.int x0), .val (.int x1)] [] := by first | (simp [entryFrame, mkF, argsToLocals, Value.category]; done) | rfl
def own_f1 (p0 : Int32) (p1 : Int32) : Int32 :=
  if p0 < p1 then
    p1
  else
    p0
set_option maxRecDepth 65536 in
set_option maxHeartbeats 40000000 in
theorem rm1 (l : Launch) (Z : State) (a0 : Array Value) (hw : ∀ d ∈ tables_1, d.before a0 Z = true) (p0 : Int32) (p1 : Int32) (h0 : Heap) (n0 : Nat) (Z0 : n0 ≤ h0.size) :
    own_Met l (⟨"java/lang/Math", "max", "(II)I"⟩ : MethodName) jdk_29_method_65_code 2 (some .int) ({ frames := 0, cells := 0, slots := 0, locals := 0 } : Room) Z [] #[(.int p0), (.int p1)] h0 (own_P (some (.int (own_f1 p0 p1))) h0 n0) := by
  refine own_enter pn_1 ?_
  intro p e s m below meth c s₁ hx hby hml hown hnm hret hlk hZ e0 X0
  rw [ef_1]
  have N0 := Fr.nil n0
  show own_Fin _ _ _ _ _ _ _ (s₁.setTop (mkF m 0 #[.val (.int p0), .val (.int p1)] []))
  refine own_go (fun _ k => XS.iloadN X0.here hx rfl (hb hby d1_0) rfl k) ?_
  show own_Fin _ _ _ _ _ _ _ (s₁.setTop (mkF m 1 #[.val (.int p0), .val (.int p1)] [(.int p0)]))
  refine own_go (fun _ k => XS.iloadN X0.here hx rfl (hb hby d1_1) rfl k) ?_
  show own_Fin _ _ _ _ _ _ _ (s₁.setTop (mkF m 2 #[.val (.int p0), .val (.int p1)] [(.int p1), (.int p0)]))
  by_cases hc2 : p0 < p1
  · refine own_go (fun _ k => XS.icmpYes X0.here hx rfl (pc0 := 2) (pc' := 9) rfl (hb hby d1_2) rfl (XT.ii_lt_t hc2) (by decide) (by decide) k) ?_
    show own_Fin _ _ _ _ _ _ _ (s₁.setTop (mkF m 9 #[.val (.int p0), .val (.int p1)] []))
    refine own_go (fun _ k => XS.iloadN X0.here hx rfl (hb hby d1_9) rfl k) ?_
    show own_Fin _ _ _ _ _ _ _ (s₁.setTop (mkF m 10 #[.val (.int p0), .val (.int p1)] [(.int p1)]))
    exact own_retI X0 hx hlk hret (hb hby d1_10) (by decide) (by decide) ⟨(by rw [own_f1, if_pos hc2]), N0, e0⟩
  · refine own_go (fun _ k => XS.icmpNo X0.here hx rfl (hb hby d1_2) rfl (XT.ii_lt_f hc2) k) ?_
    show own_Fin _ _ _ _ _ _ _ (s₁.setTop (mkF m 5 #[.val (.int p0), .val (.int p1)] []))
    refine own_go (fun _ k => XS.iloadN X0.here hx rfl (hb hby d1_5) rfl k) ?_
    show own_Fin _ _ _ _ _ _ _ (s₁.setTop (mkF m 6 #[.val (.int p0), .val (.int p1)] [(.int p0)]))
    refine own_go (fun _ k => XS.goto X0.here hx rfl (pc0 := 6) (pc' := 10) rfl (hb hby d1_6) (by decide) (by decide) k) ?_
    show own_Fin _ _ _ _ _ _ _ (s₁.setTop (mkF m 10 #[.val (.int p0), .val (.int p1)] [(.int p0)]))
    exact own_retI X0 hx hlk hret (hb hby d1_10) (by decide) (by decide) ⟨(by rw [own_f1, if_neg hc2]), N0, e0⟩

theorem d6_0 : decode jdk_29_method_69_code 0 = .ok (.iload_n 0, 1) := by decide +kernel
theorem d6_1 : decode jdk_29_method_69_code 1 = .ok (.iload_n 1, 1) := by decide +kernel
theorem d6_2 : decode jdk_29_method_69_code 2 = .ok (.if_icmp .gt 7, 3) := by decide +kernel
theorem d6_5 : decode jdk_29_method_69_code 5 = .ok (.iload_n 0, 1) := by decide +kernel
theorem d6_6 : decode jdk_29_method_69_code 6 = .ok (.goto 4, 3) := by decide +kernel
theorem d6_9 : decode jdk_29_method_69_code 9 = .ok (.iload_n 1, 1) := by decide +kernel
theorem d6_10 : decode jdk_29_method_69_code 10 = .ok (.ireturn, 1) := by decide +kernel
theorem pn_6 : plainFor (⟨"java/lang/Math", "min", "(II)I"⟩ : MethodName) = true := Jvm.Free.JP.mathPlain rfl (by decide +kernel)
theorem ef_6 (m : MethodId) (x0 : Int32) (x1 : Int32) : entryFrame m #[(.int x0), (.int x1)] 2 = mkF m 0 #[.val (.int x0), .val (.int x1)] [] := by first | (simp [entryFrame, mkF, argsToLocals, Value.category]; done) | rfl
def own_f6 (p0 : Int32) (p1 : Int32) : Int32 :=
  if p1 < p0 then
    p1
  else
    p0
set_option maxRecDepth 65536 in
set_option maxHeartbeats 40000000 in
theorem rm6 (l : Launch) (Z : State) (a0 : Array Value) (hw : ∀ d ∈ tables_1, d.before a0 Z = true) (p0 : Int32) (p1 : Int32) (h0 : Heap) (n0 : Nat) (Z0 : n0 ≤ h0.size) :
    own_Met l (⟨"java/lang/Math", "min", "(II)I"⟩ : MethodName) jdk_29_method_69_code 2 (some .int) ({ frames := 0, cells := 0, slots := 0, locals := 0 } : Room) Z [] #[(.int p0), (.int p1)] h0 (own_P (some (.int (own_f6 p0 p1))) h0 n0) := by
  refine own_enter pn_6 ?_
  intro p e s m below meth c s₁ hx hby hml hown hnm hret hlk hZ e0 X0
  rw [ef_6]
  have N0 := Fr.nil n0
  show own_Fin _ _ _ _ _ _ _ (s₁.setTop (mkF m 0 #[.val (.int p0), .val (.int p1)] []))
  refine own_go (fun _ k => XS.iloadN X0.here hx rfl (hb hby d6_0) rfl k) ?_
  show own_Fin _ _ _ _ _ _ _ (s₁.setTop (mkF m 1 #[.val (.int p0), .val (.int p1)] [(.int p0)]))
  refine own_go (fun _ k => XS.iloadN X0.here hx rfl (hb hby d6_1) rfl k) ?_
  show own_Fin _ _ _ _ _ _ _ (s₁.setTop (mkF m 2 #[.val (.int p0), .val (.int p1)] [(.int p1), (.int p0)]))
  by_cases hc2 : p1 < p0
  · refine own_go (fun _ k => XS.icmpYes X0.here hx rfl (pc0 := 2) (pc' := 9) rfl (hb hby d6_2) rfl (XT.ii_gt_t hc2) (by decide) (by decide) k) ?_
    show own_Fin _ _ _ _ _ _ _ (s₁.setTop (mkF m 9 #[.val (.int p0), .val (.int p1)] []))
    refine own_go (fun _ k => XS.iloadN X0.here hx rfl (hb hby d6_9) rfl k) ?_
    show own_Fin _ _ _ _ _ _ _ (s₁.setTop (mkF m 10 #[.val (.int p0), .val (.int p1)] [(.int p1)]))
    exact own_retI X0 hx hlk hret (hb hby d6_10) (by decide) (by decide) ⟨(by rw [own_f6, if_pos hc2]), N0, e0⟩
  · refine own_go (fun _ k => XS.icmpNo X0.here hx rfl (hb hby d6_2) rfl (XT.ii_gt_f hc2) k) ?_
    show own_Fin _ _ _ _ _ _ _ (s₁.setTop (mkF m 5 #[.val (.int p0), .val (.int p1)] []))
    refine own_go (fun _ k => XS.iloadN X0.here hx rfl (hb hby d6_5) rfl k) ?_
    show own_Fin _ _ _ _ _ _ _ (s₁.setTop (mkF m 6 #[.val (.int p0), .val (.int p1)] [(.int p0)]))
    refine own_go (fun _ k => XS.goto X0.here hx rfl (pc0 := 6) (pc' := 10) rfl (hb hby d6_6) (by decide) (by decide) k) ?_
    show own_Fin _ _ _ _ _ _ _ (s₁.setTop (mkF m 10 #[.val (.int p0), .val (.int p1)] [(.int p0)]))
    exact own_retI X0 hx hlk hret (hb hby d6_10) (by decide) (by decide) ⟨(by rw [own_f6, if_neg hc2]), N0, e0⟩

theorem d3_0 : decode jdk_30_method_1_code 0 = .ok (.aload_n 0, 1) := by decide +kernel
theorem d3_1 : decode jdk_30_method_1_code 1 = .ok (.invokespecial 1, 3) := by decide +kernel
theorem d3_4 : decode jdk_30_method_1_code 4 = .ok (.return_, 1) := by decide +kernel
theorem pn_3 : plainFor (⟨"java/lang/Record", "<init>", "()V"⟩ : MethodName) = true := plainFor_of_name (by show plainName "java/lang/Record" = true; first | (simp [plainName, overriddenIn]; done) | decide +kernel)
theorem ef_3 (m : MethodId) (x0 : Addr) : entryFrame m #[(.ref x0)] 1 = mkF m 0 #[.val (.ref x0)] [] := by first | (simp [entryFrame, mkF, argsToLocals, Value.category]; done) | rfl
set_option maxRecDepth 65536 in
set_option maxHeartbeats 40000000 in
theorem rm3 (l : Launch) (Z : State) (a0 : Array Value) (hw : ∀ d ∈ tables_1, d.before a0 Z = true) (a0 : Addr) (h0 : Heap) (n0 : Nat) (Z0 : n0 ≤ h0.size) :
    own_Met l (⟨"java/lang/Record", "<init>", "()V"⟩ : MethodName) jdk_30_method_1_code 1 none ({ frames := 1, cells := 0, slots := 0, locals := 12 } : Room) Z [] #[(.ref a0)] h0 (own_P none h0 n0) := by
  refine own_enter pn_3 ?_
  intro p e s m below meth c s₁ hx hby hml hown hnm hret hlk hZ e0 X0
  rw [ef_3]
  have N0 := Fr.nil n0
  show own_Fin _ _ _ _ _ _ _ (s₁.setTop (mkF m 0 #[.val (.ref a0)] []))
  refine own_go (fun _ k => XS.aloadN X0.here hx rfl (hb hby d3_0) rfl rfl k) ?_
  show own_Fin _ _ _ _ _ _ _ (s₁.setTop (mkF m 1 #[.val (.ref a0)] [(.ref a0)]))
  refine own_initO X0 hx hZ hown (hw _ (List.mem_of_getElem? (i := 16) rfl)) (hw _ (List.mem_of_getElem? (i := 17) rfl)) (hw _ (List.mem_of_getElem? (i := 18) rfl)) e0 (by rw [hml]; rfl) (hb hby d3_1) (by decide) (W := 0) (Nat.le_of_eq rfl) (by decide) ?_
  intro T1 X1 e1
  show own_Fin _ _ _ _ _ _ _ (T1.setTop (mkF m 4 #[.val (.ref a0)] []))
  exact own_retV X1 hx hlk hret (hb hby d3_4) (by decide) (by decide) ⟨rfl, N0, e1⟩

theorem d5_0 : decode method_2_code 0 = .ok (.iload_n 0, 1) := by decide +kernel
theorem d5_1 : decode method_2_code 1 = .ok (.iload_n 1, 1) := by decide +kernel
theorem d5_2 : decode method_2_code 2 = .ok (.invokestatic 7, 3) := by decide +kernel
theorem d5_5 : decode method_2_code 5 = .ok (.iload_n 2, 1) := by decide +kernel
theorem d5_6 : decode method_2_code 6 = .ok (.invokestatic 13, 3) := by decide +kernel
theorem d5_9 : decode method_2_code 9 = .ok (.iload_n 0, 1) := by decide +kernel
theorem d5_10 : decode method_2_code 10 = .ok (.if_icmp .ne 7, 3) := by decide +kernel
theorem d5_13 : decode method_2_code 13 = .ok (.iconst 1, 1) := by decide +kernel
theorem d5_14 : decode method_2_code 14 = .ok (.goto 4, 3) := by decide +kernel
theorem d5_17 : decode method_2_code 17 = .ok (.iconst 0, 1) := by decide +kernel
theorem d5_18 : decode method_2_code 18 = .ok (.ireturn, 1) := by decide +kernel
theorem pd_5_0 : parseMethodDescriptor "(II)I" = some ⟨[.int, .int], some .int⟩ := by decide +kernel
theorem pn_5 : plainFor (⟨"com/example/onda/onda/hillclimb/AreaContainsPinLaw", "staysWhenClamped", "(III)Z"⟩ : MethodName) = true := plainFor_of_name (by show plainName "com/example/onda/onda/hillclimb/AreaContainsPinLaw" = true; first | (simp [plainName, overriddenIn]; done) | decide +kernel)
theorem ef_5 (m : MethodId) (x0 : Int32) (x1 : Int32) (x2 : Int32) : entryFrame m #[(.int x0), (.int x1), (.int x2)] 3 = mkF m 0 #[.val (.int x0), .val (.int x1), .val (.int x2)] [] := by first | (simp [entryFrame, mkF, argsToLocals, Value.category]; done) | rfl
def own_f5 (p0 : Int32) (p1 : Int32) (p2 : Int32) : Int32 :=
  if (own_f6 (own_f1 p0 p1) p2) = p0 then
    (1 : Int32)
  else
    (0 : Int32)
set_option maxRecDepth 65536 in
set_option maxHeartbeats 40000000 in
theorem rm5 (l : Launch) (Z : State) (a0 : Array Value) (hw : ∀ d ∈ tables_1, d.before a0 Z = true) (p0 : Int32) (p1 : Int32) (p2 : Int32) (h0 : Heap) (n0 : Nat) (Z0 : n0 ≤ h0.size) :
    own_Met l (⟨"com/example/onda/onda/hillclimb/AreaContainsPinLaw", "staysWhenClamped", "(III)Z"⟩ : MethodName) method_2_code 3 (some .boolean) ({ frames := 1, cells := 0, slots := 0, locals := 13 } : Room) Z [] #[(.int p0), (.int p1), (.int p2)] h0 (own_P (some (.int (own_f5 p0 p1 p2))) h0 n0) := by
  refine own_enter pn_5 ?_
  intro p e s m below meth c s₁ hx hby hml hown hnm hret hlk hZ e0 X0
  rw [ef_5]
  have N0 := Fr.nil n0
  show own_Fin _ _ _ _ _ _ _ (s₁.setTop (mkF m 0 #[.val (.int p0), .val (.int p1), .val (.int p2)] []))
  refine own_go (fun _ k => XS.iloadN X0.here hx rfl (hb hby d5_0) rfl k) ?_
  show own_Fin _ _ _ _ _ _ _ (s₁.setTop (mkF m 1 #[.val (.int p0), .val (.int p1), .val (.int p2)] [(.int p0)]))
  refine own_go (fun _ k => XS.iloadN X0.here hx rfl (hb hby d5_1) rfl k) ?_
  show own_Fin _ _ _ _ _ _ _ (s₁.setTop (mkF m 2 #[.val (.int p0), .val (.int p1), .val (.int p2)] [(.int p1), (.int p0)]))
  refine own_callS X0 hx hZ hown (hw _ (List.mem_of_getElem? (i := 1) rfl)) (hw _ (List.mem_of_getElem? (i := 2) rfl)) (hw _ (List.mem_of_getElem? (i := 3) rfl)) (hw _ (List.mem_of_getElem? (i := 4) rfl)) (by decide) (rm1 l Z a0 hw p0 p1 h0 n0 Z0) e0 (argsL := [(.int p0), (.int p1)]) (rest := []) rfl rfl (by rw [hml]; rfl) (lenOf pd_5_0 rfl) (hb hby d5_2) (W := 0) (Nat.le_of_eq rfl) (by decide) (by decide) (by decide) (by decide) ?_
  rintro v1 T1 L1 X1 ⟨rfl, M1, e1⟩
  have N1 := Fr.app N0 M1
  show own_Fin _ _ _ _ _ _ _ (T1.setTop (mkF m 5 #[.val (.int p0), .val (.int p1), .val (.int p2)] [(.int (own_f1 p0 p1))]))
  refine own_go (fun _ k => XS.iloadN X1.here hx rfl (hb hby d5_5) rfl k) ?_
  show own_Fin _ _ _ _ _ _ _ (T1.setTop (mkF m 6 #[.val (.int p0), .val (.int p1), .val (.int p2)] [(.int p2), (.int (own_f1 p0 p1))]))
  refine own_callS X1 hx hZ hown (hw _ (List.mem_of_getElem? (i := 31) rfl)) (hw _ (List.mem_of_getElem? (i := 32) rfl)) (hw _ (List.mem_of_getElem? (i := 3) rfl)) (hw _ (List.mem_of_getElem? (i := 33) rfl)) (by decide) (rm6 l Z a0 hw (own_f1 p0 p1) p2 h0 n0 Z0) e1 (argsL := [(.int (own_f1 p0 p1)), (.int p2)]) (rest := []) rfl rfl (by rw [hml]; rfl) (lenOf pd_5_0 rfl) (hb hby d5_6) (W := 0) (Nat.le_of_eq rfl) (by decide) (by decide) (by decide) (by decide) ?_
  rintro v2 T2 L2 X2 ⟨rfl, M2, e2⟩
  have N2 := Fr.app N1 M2
  show own_Fin _ _ _ _ _ _ _ (T2.setTop (mkF m 9 #[.val (.int p0), .val (.int p1), .val (.int p2)] [(.int (own_f6 (own_f1 p0 p1) p2))]))
  refine own_go (fun _ k => XS.iloadN X2.here hx rfl (hb hby d5_9) rfl k) ?_
  show own_Fin _ _ _ _ _ _ _ (T2.setTop (mkF m 10 #[.val (.int p0), .val (.int p1), .val (.int p2)] [(.int p0), (.int (own_f6 (own_f1 p0 p1) p2))]))
  by_cases hc10 : (own_f6 (own_f1 p0 p1) p2) = p0
  · refine own_go (fun _ k => XS.icmpNo X2.here hx rfl (hb hby d5_10) rfl (XT.ii_ne_f hc10) k) ?_
    show own_Fin _ _ _ _ _ _ _ (T2.setTop (mkF m 13 #[.val (.int p0), .val (.int p1), .val (.int p2)] []))
    refine own_go (fun _ k => XS.iconst X2.here hx rfl (hb hby d5_13) k) ?_
    show own_Fin _ _ _ _ _ _ _ (T2.setTop (mkF m 14 #[.val (.int p0), .val (.int p1), .val (.int p2)] [(.int (1 : Int32))]))
    refine own_go (fun _ k => XS.goto X2.here hx rfl (pc0 := 14) (pc' := 18) rfl (hb hby d5_14) (by decide) (by decide) k) ?_
    show own_Fin _ _ _ _ _ _ _ (T2.setTop (mkF m 18 #[.val (.int p0), .val (.int p1), .val (.int p2)] [(.int (1 : Int32))]))
    exact own_retZ X2 hx hlk hret rfl (hb hby d5_18) (by decide) (by decide) ⟨(by rw [own_f5, if_pos hc10]), N2, e2⟩
  · refine own_go (fun _ k => XS.icmpYes X2.here hx rfl (pc0 := 10) (pc' := 17) rfl (hb hby d5_10) rfl (XT.ii_ne_t hc10) (by decide) (by decide) k) ?_
    show own_Fin _ _ _ _ _ _ _ (T2.setTop (mkF m 17 #[.val (.int p0), .val (.int p1), .val (.int p2)] []))
    refine own_go (fun _ k => XS.iconst X2.here hx rfl (hb hby d5_17) k) ?_
    show own_Fin _ _ _ _ _ _ _ (T2.setTop (mkF m 18 #[.val (.int p0), .val (.int p1), .val (.int p2)] [(.int (0 : Int32))]))
    exact own_retZ X2 hx hlk hret rfl (hb hby d5_18) (by decide) (by decide) ⟨(by rw [own_f5, if_neg hc10]), N2, e2⟩

theorem d2_0 : decode prog_11_method_1_code 0 = .ok (.aload_n 0, 1) := by decide +kernel
theorem d2_1 : decode prog_11_method_1_code 1 = .ok (.invokespecial 1, 3) := by decide +kernel
theorem d2_4 : decode prog_11_method_1_code 4 = .ok (.iload_n 1, 1) := by decide +kernel
theorem d2_5 : decode prog_11_method_1_code 5 = .ok (.ifCond .lt 18, 3) := by decide +kernel
theorem d2_8 : decode prog_11_method_1_code 8 = .ok (.iload_n 2, 1) := by decide +kernel
theorem d2_9 : decode prog_11_method_1_code 9 = .ok (.ifCond .lt 14, 3) := by decide +kernel
theorem d2_12 : decode prog_11_method_1_code 12 = .ok (.iload_n 3, 1) := by decide +kernel
theorem d2_13 : decode prog_11_method_1_code 13 = .ok (.iload_n 1, 1) := by decide +kernel
theorem d2_14 : decode prog_11_method_1_code 14 = .ok (.if_icmp .lt 9, 3) := by decide +kernel
theorem d2_17 : decode prog_11_method_1_code 17 = .ok (.iload 4, 2) := by decide +kernel
theorem d2_19 : decode prog_11_method_1_code 19 = .ok (.iload_n 2, 1) := by decide +kernel
theorem d2_20 : decode prog_11_method_1_code 20 = .ok (.if_icmp .ge 21, 3) := by decide +kernel
theorem d2_41 : decode prog_11_method_1_code 41 = .ok (.aload_n 0, 1) := by decide +kernel
theorem d2_42 : decode prog_11_method_1_code 42 = .ok (.iload_n 1, 1) := by decide +kernel
theorem d2_43 : decode prog_11_method_1_code 43 = .ok (.putfield 16, 3) := by decide +kernel
theorem d2_46 : decode prog_11_method_1_code 46 = .ok (.aload_n 0, 1) := by decide +kernel
theorem d2_47 : decode prog_11_method_1_code 47 = .ok (.iload_n 2, 1) := by decide +kernel
theorem d2_48 : decode prog_11_method_1_code 48 = .ok (.putfield 22, 3) := by decide +kernel
theorem d2_51 : decode prog_11_method_1_code 51 = .ok (.aload_n 0, 1) := by decide +kernel
theorem d2_52 : decode prog_11_method_1_code 52 = .ok (.iload_n 3, 1) := by decide +kernel
theorem d2_53 : decode prog_11_method_1_code 53 = .ok (.putfield 25, 3) := by decide +kernel
theorem d2_56 : decode prog_11_method_1_code 56 = .ok (.aload_n 0, 1) := by decide +kernel
theorem d2_57 : decode prog_11_method_1_code 57 = .ok (.iload 4, 2) := by decide +kernel
theorem d2_59 : decode prog_11_method_1_code 59 = .ok (.putfield 28, 3) := by decide +kernel
theorem d2_62 : decode prog_11_method_1_code 62 = .ok (.return_, 1) := by decide +kernel
theorem pd_2_0 : parseMethodDescriptor "()V" = some ⟨[], none⟩ := by decide +kernel
theorem pn_2 : plainFor (⟨"com/example/onda/onda/hillclimb/Area", "<init>", "(IIII)V"⟩ : MethodName) = true := plainFor_of_name (by show plainName "com/example/onda/onda/hillclimb/Area" = true; first | (simp [plainName, overriddenIn]; done) | decide +kernel)
theorem ef_2 (m : MethodId) (x0 : Addr) (x1 : Int32) (x2 : Int32) (x3 : Int32) (x4 : Int32) : entryFrame m #[(.ref x0), (.int x1), (.int x2), (.int x3), (.int x4)] 5 = mkF m 0 #[.val (.ref x0), .val (.int x1), .val (.int x2), .val (.int x3), .val (.int x4)] [] := by first | (simp [entryFrame, mkF, argsToLocals, Value.category]; done) | rfl
def own_QI (Z : State) (t0 : Addr) (p1 p2 p3 p4 : Int32) (h0 : Heap) (n0 : Nat) (v : Option Value) (h : Heap) (L : List Loc) : Prop := v = none ∧ Fr n0 L ∧ Keep h0 h [t0] ∧ Fld Z h t0 "com/example/onda/onda/hillclimb/Area" "x0" "I" (.int p1) ∧ Fld Z h t0 "com/example/onda/onda/hillclimb/Area" "y0" "I" (.int p2) ∧ Fld Z h t0 "com/example/onda/onda/hillclimb/Area" "x1" "I" (.int p3) ∧ Fld Z h t0 "com/example/onda/onda/hillclimb/Area" "y1" "I" (.int p4)
set_option maxRecDepth 65536 in
set_option maxHeartbeats 40000000 in
theorem rm2 (l : Launch) (Z : State) (a0 : Array Value) (hw : ∀ d ∈ tables_1, d.before a0 Z = true) (t0 : Addr) (p1 : Int32) (p2 : Int32) (p3 : Int32) (p4 : Int32) (h0 : Heap) (n0 : Nat) (Z0 : n0 ≤ h0.size) (A0 : Exa Z h0 t0 "com/example/onda/onda/hillclimb/Area") (F_x0 : Fld Z h0 t0 "com/example/onda/onda/hillclimb/Area" "x0" "I" (.int (0 : Int32))) (F_y0 : Fld Z h0 t0 "com/example/onda/onda/hillclimb/Area" "y0" "I" (.int (0 : Int32))) (F_x1 : Fld Z h0 t0 "com/example/onda/onda/hillclimb/Area" "x1" "I" (.int (0 : Int32))) (F_y1 : Fld Z h0 t0 "com/example/onda/onda/hillclimb/Area" "y1" "I" (.int (0 : Int32))) (g_t0 : n0 ≤ t0) (q1 : ¬ p1 < 0) (q2 : ¬ p2 < 0) (q3 : ¬ p3 < p1) (q4 : ¬ p4 < p2) :
    own_Met l (⟨"com/example/onda/onda/hillclimb/Area", "<init>", "(IIII)V"⟩ : MethodName) prog_11_method_1_code 5 none ({ frames := 2, cells := 0, slots := 0, locals := 24 } : Room) Z [] #[(.ref t0), (.int p1), (.int p2), (.int p3), (.int p4)] h0 (own_QI Z t0 p1 p2 p3 p4 h0 n0) := by
  refine own_enter pn_2 ?_
  intro p e s m below meth c s₁ hx hby hml hown hnm hret hlk hZ e0 X0
  rw [ef_2]
  have N0 := Fr.nil n0
  show own_Fin _ _ _ _ _ _ _ (s₁.setTop (mkF m 0 #[.val (.ref t0), .val (.int p1), .val (.int p2), .val (.int p3), .val (.int p4)] []))
  refine own_go (fun _ k => XS.aloadN X0.here hx rfl (hb hby d2_0) rfl rfl k) ?_
  show own_Fin _ _ _ _ _ _ _ (s₁.setTop (mkF m 1 #[.val (.ref t0), .val (.int p1), .val (.int p2), .val (.int p3), .val (.int p4)] [(.ref t0)]))
  refine own_callN X0 hx hZ rfl hown (hw _ (List.mem_of_getElem? (i := 11) rfl)) (hw _ (List.mem_of_getElem? (i := 12) rfl)) (hw _ (List.mem_of_getElem? (i := 14) rfl)) (hw _ (List.mem_of_getElem? (i := 15) rfl)) (by decide) (rm3 l Z a0 hw t0 h0 n0 Z0) e0 (a := t0) (argsL := []) (rest := []) rfl rfl (by rw [hml]; rfl) (lenOf pd_2_0 rfl) (hb hby d2_1) (W := 0) (Nat.le_of_eq rfl) (by decide) (by decide) (by decide) (by decide) ?_
  rintro v1 T1 L1 X1 ⟨rfl, M1, e1⟩
  have N1 := Fr.app N0 M1
  show own_Fin _ _ _ _ _ _ _ (T1.setTop (mkF m 4 #[.val (.ref t0), .val (.int p1), .val (.int p2), .val (.int p3), .val (.int p4)] []))
  refine own_go (fun _ k => XS.iloadN X1.here hx rfl (hb hby d2_4) rfl k) ?_
  show own_Fin _ _ _ _ _ _ _ (T1.setTop (mkF m 5 #[.val (.ref t0), .val (.int p1), .val (.int p2), .val (.int p3), .val (.int p4)] [(.int p1)]))
  refine own_go (fun _ k => XS.ifNo X1.here hx rfl (hb hby d2_5) rfl (XT.i0_lt_f q1) k) ?_
  show own_Fin _ _ _ _ _ _ _ (T1.setTop (mkF m 8 #[.val (.ref t0), .val (.int p1), .val (.int p2), .val (.int p3), .val (.int p4)] []))
  refine own_go (fun _ k => XS.iloadN X1.here hx rfl (hb hby d2_8) rfl k) ?_
  show own_Fin _ _ _ _ _ _ _ (T1.setTop (mkF m 9 #[.val (.ref t0), .val (.int p1), .val (.int p2), .val (.int p3), .val (.int p4)] [(.int p2)]))
  refine own_go (fun _ k => XS.ifNo X1.here hx rfl (hb hby d2_9) rfl (XT.i0_lt_f q2) k) ?_
  show own_Fin _ _ _ _ _ _ _ (T1.setTop (mkF m 12 #[.val (.ref t0), .val (.int p1), .val (.int p2), .val (.int p3), .val (.int p4)] []))
  refine own_go (fun _ k => XS.iloadN X1.here hx rfl (hb hby d2_12) rfl k) ?_
  show own_Fin _ _ _ _ _ _ _ (T1.setTop (mkF m 13 #[.val (.ref t0), .val (.int p1), .val (.int p2), .val (.int p3), .val (.int p4)] [(.int p3)]))
  refine own_go (fun _ k => XS.iloadN X1.here hx rfl (hb hby d2_13) rfl k) ?_
  show own_Fin _ _ _ _ _ _ _ (T1.setTop (mkF m 14 #[.val (.ref t0), .val (.int p1), .val (.int p2), .val (.int p3), .val (.int p4)] [(.int p1), (.int p3)]))
  refine own_go (fun _ k => XS.icmpNo X1.here hx rfl (hb hby d2_14) rfl (XT.ii_lt_f q3) k) ?_
  show own_Fin _ _ _ _ _ _ _ (T1.setTop (mkF m 17 #[.val (.ref t0), .val (.int p1), .val (.int p2), .val (.int p3), .val (.int p4)] []))
  refine own_go (fun _ k => XS.iload X1.here hx rfl (hb hby d2_17) rfl k) ?_
  show own_Fin _ _ _ _ _ _ _ (T1.setTop (mkF m 19 #[.val (.ref t0), .val (.int p1), .val (.int p2), .val (.int p3), .val (.int p4)] [(.int p4)]))
  refine own_go (fun _ k => XS.iloadN X1.here hx rfl (hb hby d2_19) rfl k) ?_
  show own_Fin _ _ _ _ _ _ _ (T1.setTop (mkF m 20 #[.val (.ref t0), .val (.int p1), .val (.int p2), .val (.int p3), .val (.int p4)] [(.int p2), (.int p4)]))
  refine own_go (fun _ k => XS.icmpYes X1.here hx rfl (pc0 := 20) (pc' := 41) rfl (hb hby d2_20) rfl (XT.ii_ge_t q4) (by decide) (by decide) k) ?_
  show own_Fin _ _ _ _ _ _ _ (T1.setTop (mkF m 41 #[.val (.ref t0), .val (.int p1), .val (.int p2), .val (.int p3), .val (.int p4)] []))
  refine own_go (fun _ k => XS.aloadN X1.here hx rfl (hb hby d2_41) rfl rfl k) ?_
  show own_Fin _ _ _ _ _ _ _ (T1.setTop (mkF m 42 #[.val (.ref t0), .val (.int p1), .val (.int p2), .val (.int p3), .val (.int p4)] [(.ref t0)]))
  refine own_go (fun _ k => XS.iloadN X1.here hx rfl (hb hby d2_42) rfl k) ?_
  show own_Fin _ _ _ _ _ _ _ (T1.setTop (mkF m 43 #[.val (.ref t0), .val (.int p1), .val (.int p2), .val (.int p3), .val (.int p4)] [(.int p1), (.ref t0)]))
  refine own_putF X1 hx hZ hown (host := "") (Or.inl (hw _ (List.mem_of_getElem? (i := 19) rfl))) Via.refl e1 F_x0 A0 (Or.inr ⟨(hw _ (List.mem_of_getElem? (i := 20) rfl)), rfl, hnm⟩) (hw _ (List.mem_of_getElem? (i := 6) rfl)) (ty := .int) (by decide) rfl rfl (hb hby d2_43) ?_
  intro T2 h2 X2 e2 W2
  have f3 := A0.wr W2
  have f5 := F_y0.other W2 (Or.inr (slot_ne (Or.inr (hw _ (List.mem_of_getElem? (i := 22) rfl))) (Or.inr (hw _ (List.mem_of_getElem? (i := 20) rfl))) (by decide) (t := .int) (t' := .int) (by decide) (by decide)))
  have f6 := F_x1.other W2 (Or.inr (slot_ne (Or.inr (hw _ (List.mem_of_getElem? (i := 24) rfl))) (Or.inr (hw _ (List.mem_of_getElem? (i := 20) rfl))) (by decide) (t := .int) (t' := .int) (by decide) (by decide)))
  have f7 := F_y1.other W2 (Or.inr (slot_ne (Or.inr (hw _ (List.mem_of_getElem? (i := 26) rfl))) (Or.inr (hw _ (List.mem_of_getElem? (i := 20) rfl))) (by decide) (t := .int) (t' := .int) (by decide) (by decide)))
  have Z2 := Nat.le_trans Z0 (Keep.of_wr W2).1
  have K2 := (Keep.refl h0 [t0]).wr W2 (Or.inl (List.mem_of_getElem? (i := 0) rfl))
  have f8 := F_x0.same W2
  have N2 := Fr.snoc X2 N1 g_t0
  show own_Fin _ _ _ _ _ _ _ (T2.setTop (mkF m 46 #[.val (.ref t0), .val (.int p1), .val (.int p2), .val (.int p3), .val (.int p4)] []))
  refine own_go (fun _ k => XS.aloadN X2.here hx rfl (hb hby d2_46) rfl rfl k) ?_
  show own_Fin _ _ _ _ _ _ _ (T2.setTop (mkF m 47 #[.val (.ref t0), .val (.int p1), .val (.int p2), .val (.int p3), .val (.int p4)] [(.ref t0)]))
  refine own_go (fun _ k => XS.iloadN X2.here hx rfl (hb hby d2_47) rfl k) ?_
  show own_Fin _ _ _ _ _ _ _ (T2.setTop (mkF m 48 #[.val (.ref t0), .val (.int p1), .val (.int p2), .val (.int p3), .val (.int p4)] [(.int p2), (.ref t0)]))
  refine own_putF X2 hx hZ hown (host := "") (Or.inl (hw _ (List.mem_of_getElem? (i := 21) rfl))) Via.refl e2 f5 f3 (Or.inr ⟨(hw _ (List.mem_of_getElem? (i := 22) rfl)), rfl, hnm⟩) (hw _ (List.mem_of_getElem? (i := 6) rfl)) (ty := .int) (by decide) rfl rfl (hb hby d2_48) ?_
  intro T9 h9 X9 e9 W9
  have f10 := f3.wr W9
  have f11 := f8.other W9 (Or.inr (slot_ne (Or.inr (hw _ (List.mem_of_getElem? (i := 20) rfl))) (Or.inr (hw _ (List.mem_of_getElem? (i := 22) rfl))) (by decide) (t := .int) (t' := .int) (by decide) (by decide)))
  have f13 := f6.other W9 (Or.inr (slot_ne (Or.inr (hw _ (List.mem_of_getElem? (i := 24) rfl))) (Or.inr (hw _ (List.mem_of_getElem? (i := 22) rfl))) (by decide) (t := .int) (t' := .int) (by decide) (by decide)))
  have f14 := f7.other W9 (Or.inr (slot_ne (Or.inr (hw _ (List.mem_of_getElem? (i := 26) rfl))) (Or.inr (hw _ (List.mem_of_getElem? (i := 22) rfl))) (by decide) (t := .int) (t' := .int) (by decide) (by decide)))
  have Z9 := Nat.le_trans Z2 (Keep.of_wr W9).1
  have K9 := K2.wr W9 (Or.inl (List.mem_of_getElem? (i := 0) rfl))
  have f15 := f5.same W9
  have N9 := Fr.snoc X9 N2 g_t0
  show own_Fin _ _ _ _ _ _ _ (T9.setTop (mkF m 51 #[.val (.ref t0), .val (.int p1), .val (.int p2), .val (.int p3), .val (.int p4)] []))
  refine own_go (fun _ k => XS.aloadN X9.here hx rfl (hb hby d2_51) rfl rfl k) ?_
  show own_Fin _ _ _ _ _ _ _ (T9.setTop (mkF m 52 #[.val (.ref t0), .val (.int p1), .val (.int p2), .val (.int p3), .val (.int p4)] [(.ref t0)]))
  refine own_go (fun _ k => XS.iloadN X9.here hx rfl (hb hby d2_52) rfl k) ?_
  show own_Fin _ _ _ _ _ _ _ (T9.setTop (mkF m 53 #[.val (.ref t0), .val (.int p1), .val (.int p2), .val (.int p3), .val (.int p4)] [(.int p3), (.ref t0)]))
  refine own_putF X9 hx hZ hown (host := "") (Or.inl (hw _ (List.mem_of_getElem? (i := 23) rfl))) Via.refl e9 f13 f10 (Or.inr ⟨(hw _ (List.mem_of_getElem? (i := 24) rfl)), rfl, hnm⟩) (hw _ (List.mem_of_getElem? (i := 6) rfl)) (ty := .int) (by decide) rfl rfl (hb hby d2_53) ?_
  intro T16 h16 X16 e16 W16
  have f17 := f10.wr W16
  have f18 := f11.other W16 (Or.inr (slot_ne (Or.inr (hw _ (List.mem_of_getElem? (i := 20) rfl))) (Or.inr (hw _ (List.mem_of_getElem? (i := 24) rfl))) (by decide) (t := .int) (t' := .int) (by decide) (by decide)))
  have f19 := f15.other W16 (Or.inr (slot_ne (Or.inr (hw _ (List.mem_of_getElem? (i := 22) rfl))) (Or.inr (hw _ (List.mem_of_getElem? (i := 24) rfl))) (by decide) (t := .int) (t' := .int) (by decide) (by decide)))
  have f21 := f14.other W16 (Or.inr (slot_ne (Or.inr (hw _ (List.mem_of_getElem? (i := 26) rfl))) (Or.inr (hw _ (List.mem_of_getElem? (i := 24) rfl))) (by decide) (t := .int) (t' := .int) (by decide) (by decide)))
  have Z16 := Nat.le_trans Z9 (Keep.of_wr W16).1
  have K16 := K9.wr W16 (Or.inl (List.mem_of_getElem? (i := 0) rfl))
  have f22 := f13.same W16
  have N16 := Fr.snoc X16 N9 g_t0
  show own_Fin _ _ _ _ _ _ _ (T16.setTop (mkF m 56 #[.val (.ref t0), .val (.int p1), .val (.int p2), .val (.int p3), .val (.int p4)] []))
  refine own_go (fun _ k => XS.aloadN X16.here hx rfl (hb hby d2_56) rfl rfl k) ?_
  show own_Fin _ _ _ _ _ _ _ (T16.setTop (mkF m 57 #[.val (.ref t0), .val (.int p1), .val (.int p2), .val (.int p3), .val (.int p4)] [(.ref t0)]))
  refine own_go (fun _ k => XS.iload X16.here hx rfl (hb hby d2_57) rfl k) ?_
  show own_Fin _ _ _ _ _ _ _ (T16.setTop (mkF m 59 #[.val (.ref t0), .val (.int p1), .val (.int p2), .val (.int p3), .val (.int p4)] [(.int p4), (.ref t0)]))
  refine own_putF X16 hx hZ hown (host := "") (Or.inl (hw _ (List.mem_of_getElem? (i := 25) rfl))) Via.refl e16 f21 f17 (Or.inr ⟨(hw _ (List.mem_of_getElem? (i := 26) rfl)), rfl, hnm⟩) (hw _ (List.mem_of_getElem? (i := 6) rfl)) (ty := .int) (by decide) rfl rfl (hb hby d2_59) ?_
  intro T23 h23 X23 e23 W23
  have f24 := f17.wr W23
  have f25 := f18.other W23 (Or.inr (slot_ne (Or.inr (hw _ (List.mem_of_getElem? (i := 20) rfl))) (Or.inr (hw _ (List.mem_of_getElem? (i := 26) rfl))) (by decide) (t := .int) (t' := .int) (by decide) (by decide)))
  have f26 := f19.other W23 (Or.inr (slot_ne (Or.inr (hw _ (List.mem_of_getElem? (i := 22) rfl))) (Or.inr (hw _ (List.mem_of_getElem? (i := 26) rfl))) (by decide) (t := .int) (t' := .int) (by decide) (by decide)))
  have f27 := f22.other W23 (Or.inr (slot_ne (Or.inr (hw _ (List.mem_of_getElem? (i := 24) rfl))) (Or.inr (hw _ (List.mem_of_getElem? (i := 26) rfl))) (by decide) (t := .int) (t' := .int) (by decide) (by decide)))
  have Z23 := Nat.le_trans Z16 (Keep.of_wr W23).1
  have K23 := K16.wr W23 (Or.inl (List.mem_of_getElem? (i := 0) rfl))
  have f29 := f21.same W23
  have N23 := Fr.snoc X23 N16 g_t0
  show own_Fin _ _ _ _ _ _ _ (T23.setTop (mkF m 62 #[.val (.ref t0), .val (.int p1), .val (.int p2), .val (.int p3), .val (.int p4)] []))
  exact own_retV X23 hx hlk hret (hb hby d2_62) (by decide) (by decide) (by rw [e23]; exact ⟨rfl, N23, K23, f25, f26, f27, f29⟩)

theorem own_m31 (a : Int32) : (a &&& (2147483647 : Int32)).toInt = a.toInt % 2147483648 := Jvm.Kit.i32_mask a 2147483647 (k := 31) (by decide) (by decide)
theorem own_nn (p : Int32) : ¬ (p &&& (2147483647 : Int32)) < 0 := by
  have e0 : (0 : Int32).toInt = 0 := by decide
  rw [Int32.lt_iff_toInt_lt, own_m31, e0]; omega
theorem own_mx (a b : Int32) : ¬ own_f1 a b < a := by
  unfold own_f1
  split
  · rename_i h
    rw [Int32.lt_iff_toInt_lt] at h ⊢; omega
  · exact Int32.lt_irrefl

theorem d7_0 : decode prog_11_method_4_code 0 = .ok (.iload_n 1, 1) := by decide +kernel
theorem d7_1 : decode prog_11_method_4_code 1 = .ok (.aload_n 0, 1) := by decide +kernel
theorem d7_2 : decode prog_11_method_4_code 2 = .ok (.getfield 16, 3) := by decide +kernel
theorem d7_5 : decode prog_11_method_4_code 5 = .ok (.if_icmp .lt 31, 3) := by decide +kernel
theorem d7_8 : decode prog_11_method_4_code 8 = .ok (.iload_n 1, 1) := by decide +kernel
theorem d7_9 : decode prog_11_method_4_code 9 = .ok (.aload_n 0, 1) := by decide +kernel
theorem d7_10 : decode prog_11_method_4_code 10 = .ok (.getfield 25, 3) := by decide +kernel
theorem d7_13 : decode prog_11_method_4_code 13 = .ok (.if_icmp .gt 23, 3) := by decide +kernel
theorem d7_16 : decode prog_11_method_4_code 16 = .ok (.iload_n 2, 1) := by decide +kernel
theorem d7_17 : decode prog_11_method_4_code 17 = .ok (.aload_n 0, 1) := by decide +kernel
theorem d7_18 : decode prog_11_method_4_code 18 = .ok (.getfield 22, 3) := by decide +kernel
theorem d7_21 : decode prog_11_method_4_code 21 = .ok (.if_icmp .lt 15, 3) := by decide +kernel
theorem d7_24 : decode prog_11_method_4_code 24 = .ok (.iload_n 2, 1) := by decide +kernel
theorem d7_25 : decode prog_11_method_4_code 25 = .ok (.aload_n 0, 1) := by decide +kernel
theorem d7_26 : decode prog_11_method_4_code 26 = .ok (.getfield 28, 3) := by decide +kernel
theorem d7_29 : decode prog_11_method_4_code 29 = .ok (.if_icmp .gt 7, 3) := by decide +kernel
theorem d7_32 : decode prog_11_method_4_code 32 = .ok (.iconst 1, 1) := by decide +kernel
theorem d7_33 : decode prog_11_method_4_code 33 = .ok (.goto 4, 3) := by decide +kernel
theorem d7_36 : decode prog_11_method_4_code 36 = .ok (.iconst 0, 1) := by decide +kernel
theorem d7_37 : decode prog_11_method_4_code 37 = .ok (.ireturn, 1) := by decide +kernel
theorem pn_7 : plainFor (⟨"com/example/onda/onda/hillclimb/Area", "contains", "(II)Z"⟩ : MethodName) = true := plainFor_of_name (by show plainName "com/example/onda/onda/hillclimb/Area" = true; first | (simp [plainName, overriddenIn]; done) | decide +kernel)
theorem ef_7 (m : MethodId) (x0 : Addr) (x1 : Int32) (x2 : Int32) : entryFrame m #[(.ref x0), (.int x1), (.int x2)] 3 = mkF m 0 #[.val (.ref x0), .val (.int x1), .val (.int x2)] [] := by first | (simp [entryFrame, mkF, argsToLocals, Value.category]; done) | rfl
def own_f7 (p1 : Int32) (p2 : Int32) (w_x0 : Int32) (w_y0 : Int32) (w_x1 : Int32) (w_y1 : Int32) : Int32 :=
  if p1 < w_x0 then
    (0 : Int32)
  else
    if w_x1 < p1 then
      (0 : Int32)
    else
      if p2 < w_y0 then
        (0 : Int32)
      else
        if w_y1 < p2 then
          (0 : Int32)
        else
          (1 : Int32)
set_option maxRecDepth 65536 in
set_option maxHeartbeats 40000000 in
theorem rm7 (l : Launch) (Z : State) (a0 : Array Value) (hw : ∀ d ∈ tables_1, d.before a0 Z = true) (t0 : Addr) (p1 : Int32) (p2 : Int32) (h0 : Heap) (n0 : Nat) (Z0 : n0 ≤ h0.size) (w_x0 w_y0 w_x1 w_y1 : Int32) (F_x0 : Fld Z h0 t0 "com/example/onda/onda/hillclimb/Area" "x0" "I" (.int w_x0)) (F_y0 : Fld Z h0 t0 "com/example/onda/onda/hillclimb/Area" "y0" "I" (.int w_y0)) (F_x1 : Fld Z h0 t0 "com/example/onda/onda/hillclimb/Area" "x1" "I" (.int w_x1)) (F_y1 : Fld Z h0 t0 "com/example/onda/onda/hillclimb/Area" "y1" "I" (.int w_y1)) :
    own_Met l (⟨"com/example/onda/onda/hillclimb/Area", "contains", "(II)Z"⟩ : MethodName) prog_11_method_4_code 3 (some .boolean) ({ frames := 0, cells := 0, slots := 0, locals := 0 } : Room) Z [] #[(.ref t0), (.int p1), (.int p2)] h0 (own_P (some (.int (own_f7 p1 p2 w_x0 w_y0 w_x1 w_y1))) h0 n0) := by
  refine own_enter pn_7 ?_
  intro p e s m below meth c s₁ hx hby hml hown hnm hret hlk hZ e0 X0
  rw [ef_7]
  have N0 := Fr.nil n0
  show own_Fin _ _ _ _ _ _ _ (s₁.setTop (mkF m 0 #[.val (.ref t0), .val (.int p1), .val (.int p2)] []))
  refine own_go (fun _ k => XS.iloadN X0.here hx rfl (hb hby d7_0) rfl k) ?_
  show own_Fin _ _ _ _ _ _ _ (s₁.setTop (mkF m 1 #[.val (.ref t0), .val (.int p1), .val (.int p2)] [(.int p1)]))
  refine own_go (fun _ k => XS.aloadN X0.here hx rfl (hb hby d7_1) rfl rfl k) ?_
  show own_Fin _ _ _ _ _ _ _ (s₁.setTop (mkF m 2 #[.val (.ref t0), .val (.int p1), .val (.int p2)] [(.ref t0), (.int p1)]))
  refine own_getF X0 hx hZ hown (host := "") (Or.inl (hw _ (List.mem_of_getElem? (i := 19) rfl))) Via.refl e0 F_x0 (hb hby d7_2) ?_
  intro T1 X1 e1
  show own_Fin _ _ _ _ _ _ _ (T1.setTop (mkF m 5 #[.val (.ref t0), .val (.int p1), .val (.int p2)] [(.int w_x0), (.int p1)]))
  by_cases hc5 : p1 < w_x0
  · refine own_go (fun _ k => XS.icmpYes X1.here hx rfl (pc0 := 5) (pc' := 36) rfl (hb hby d7_5) rfl (XT.ii_lt_t hc5) (by decide) (by decide) k) ?_
    show own_Fin _ _ _ _ _ _ _ (T1.setTop (mkF m 36 #[.val (.ref t0), .val (.int p1), .val (.int p2)] []))
    refine own_go (fun _ k => XS.iconst X1.here hx rfl (hb hby d7_36) k) ?_
    show own_Fin _ _ _ _ _ _ _ (T1.setTop (mkF m 37 #[.val (.ref t0), .val (.int p1), .val (.int p2)] [(.int (0 : Int32))]))
    exact own_retZ X1 hx hlk hret rfl (hb hby d7_37) (by decide) (by decide) ⟨(by rw [own_f7, if_pos hc5]), N0, e1⟩
  · refine own_go (fun _ k => XS.icmpNo X1.here hx rfl (hb hby d7_5) rfl (XT.ii_lt_f hc5) k) ?_
    show own_Fin _ _ _ _ _ _ _ (T1.setTop (mkF m 8 #[.val (.ref t0), .val (.int p1), .val (.int p2)] []))
    refine own_go (fun _ k => XS.iloadN X1.here hx rfl (hb hby d7_8) rfl k) ?_
    show own_Fin _ _ _ _ _ _ _ (T1.setTop (mkF m 9 #[.val (.ref t0), .val (.int p1), .val (.int p2)] [(.int p1)]))
    refine own_go (fun _ k => XS.aloadN X1.here hx rfl (hb hby d7_9) rfl rfl k) ?_
    show own_Fin _ _ _ _ _ _ _ (T1.setTop (mkF m 10 #[.val (.ref t0), .val (.int p1), .val (.int p2)] [(.ref t0), (.int p1)]))
    refine own_getF X1 hx hZ hown (host := "") (Or.inl (hw _ (List.mem_of_getElem? (i := 23) rfl))) Via.refl e1 F_x1 (hb hby d7_10) ?_
    intro T2 X2 e2
    show own_Fin _ _ _ _ _ _ _ (T2.setTop (mkF m 13 #[.val (.ref t0), .val (.int p1), .val (.int p2)] [(.int w_x1), (.int p1)]))
    by_cases hc13 : w_x1 < p1
    · refine own_go (fun _ k => XS.icmpYes X2.here hx rfl (pc0 := 13) (pc' := 36) rfl (hb hby d7_13) rfl (XT.ii_gt_t hc13) (by decide) (by decide) k) ?_
      show own_Fin _ _ _ _ _ _ _ (T2.setTop (mkF m 36 #[.val (.ref t0), .val (.int p1), .val (.int p2)] []))
      refine own_go (fun _ k => XS.iconst X2.here hx rfl (hb hby d7_36) k) ?_
      show own_Fin _ _ _ _ _ _ _ (T2.setTop (mkF m 37 #[.val (.ref t0), .val (.int p1), .val (.int p2)] [(.int (0 : Int32))]))
      exact own_retZ X2 hx hlk hret rfl (hb hby d7_37) (by decide) (by decide) ⟨(by rw [own_f7, if_neg hc5, if_pos hc13]), N0, e2⟩
    · refine own_go (fun _ k => XS.icmpNo X2.here hx rfl (hb hby d7_13) rfl (XT.ii_gt_f hc13) k) ?_
      show own_Fin _ _ _ _ _ _ _ (T2.setTop (mkF m 16 #[.val (.ref t0), .val (.int p1), .val (.int p2)] []))
      refine own_go (fun _ k => XS.iloadN X2.here hx rfl (hb hby d7_16) rfl k) ?_
      show own_Fin _ _ _ _ _ _ _ (T2.setTop (mkF m 17 #[.val (.ref t0), .val (.int p1), .val (.int p2)] [(.int p2)]))
      refine own_go (fun _ k => XS.aloadN X2.here hx rfl (hb hby d7_17) rfl rfl k) ?_
      show own_Fin _ _ _ _ _ _ _ (T2.setTop (mkF m 18 #[.val (.ref t0), .val (.int p1), .val (.int p2)] [(.ref t0), (.int p2)]))
      refine own_getF X2 hx hZ hown (host := "") (Or.inl (hw _ (List.mem_of_getElem? (i := 21) rfl))) Via.refl e2 F_y0 (hb hby d7_18) ?_
      intro T3 X3 e3
      show own_Fin _ _ _ _ _ _ _ (T3.setTop (mkF m 21 #[.val (.ref t0), .val (.int p1), .val (.int p2)] [(.int w_y0), (.int p2)]))
      by_cases hc21 : p2 < w_y0
      · refine own_go (fun _ k => XS.icmpYes X3.here hx rfl (pc0 := 21) (pc' := 36) rfl (hb hby d7_21) rfl (XT.ii_lt_t hc21) (by decide) (by decide) k) ?_
        show own_Fin _ _ _ _ _ _ _ (T3.setTop (mkF m 36 #[.val (.ref t0), .val (.int p1), .val (.int p2)] []))
        refine own_go (fun _ k => XS.iconst X3.here hx rfl (hb hby d7_36) k) ?_
        show own_Fin _ _ _ _ _ _ _ (T3.setTop (mkF m 37 #[.val (.ref t0), .val (.int p1), .val (.int p2)] [(.int (0 : Int32))]))
        exact own_retZ X3 hx hlk hret rfl (hb hby d7_37) (by decide) (by decide) ⟨(by rw [own_f7, if_neg hc5, if_neg hc13, if_pos hc21]), N0, e3⟩
      · refine own_go (fun _ k => XS.icmpNo X3.here hx rfl (hb hby d7_21) rfl (XT.ii_lt_f hc21) k) ?_
        show own_Fin _ _ _ _ _ _ _ (T3.setTop (mkF m 24 #[.val (.ref t0), .val (.int p1), .val (.int p2)] []))
        refine own_go (fun _ k => XS.iloadN X3.here hx rfl (hb hby d7_24) rfl k) ?_
        show own_Fin _ _ _ _ _ _ _ (T3.setTop (mkF m 25 #[.val (.ref t0), .val (.int p1), .val (.int p2)] [(.int p2)]))
        refine own_go (fun _ k => XS.aloadN X3.here hx rfl (hb hby d7_25) rfl rfl k) ?_
        show own_Fin _ _ _ _ _ _ _ (T3.setTop (mkF m 26 #[.val (.ref t0), .val (.int p1), .val (.int p2)] [(.ref t0), (.int p2)]))
        refine own_getF X3 hx hZ hown (host := "") (Or.inl (hw _ (List.mem_of_getElem? (i := 25) rfl))) Via.refl e3 F_y1 (hb hby d7_26) ?_
        intro T4 X4 e4
        show own_Fin _ _ _ _ _ _ _ (T4.setTop (mkF m 29 #[.val (.ref t0), .val (.int p1), .val (.int p2)] [(.int w_y1), (.int p2)]))
        by_cases hc29 : w_y1 < p2
        · refine own_go (fun _ k => XS.icmpYes X4.here hx rfl (pc0 := 29) (pc' := 36) rfl (hb hby d7_29) rfl (XT.ii_gt_t hc29) (by decide) (by decide) k) ?_
          show own_Fin _ _ _ _ _ _ _ (T4.setTop (mkF m 36 #[.val (.ref t0), .val (.int p1), .val (.int p2)] []))
          refine own_go (fun _ k => XS.iconst X4.here hx rfl (hb hby d7_36) k) ?_
          show own_Fin _ _ _ _ _ _ _ (T4.setTop (mkF m 37 #[.val (.ref t0), .val (.int p1), .val (.int p2)] [(.int (0 : Int32))]))
          exact own_retZ X4 hx hlk hret rfl (hb hby d7_37) (by decide) (by decide) ⟨(by rw [own_f7, if_neg hc5, if_neg hc13, if_neg hc21, if_pos hc29]), N0, e4⟩
        · refine own_go (fun _ k => XS.icmpNo X4.here hx rfl (hb hby d7_29) rfl (XT.ii_gt_f hc29) k) ?_
          show own_Fin _ _ _ _ _ _ _ (T4.setTop (mkF m 32 #[.val (.ref t0), .val (.int p1), .val (.int p2)] []))
          refine own_go (fun _ k => XS.iconst X4.here hx rfl (hb hby d7_32) k) ?_
          show own_Fin _ _ _ _ _ _ _ (T4.setTop (mkF m 33 #[.val (.ref t0), .val (.int p1), .val (.int p2)] [(.int (1 : Int32))]))
          refine own_go (fun _ k => XS.goto X4.here hx rfl (pc0 := 33) (pc' := 37) rfl (hb hby d7_33) (by decide) (by decide) k) ?_
          show own_Fin _ _ _ _ _ _ _ (T4.setTop (mkF m 37 #[.val (.ref t0), .val (.int p1), .val (.int p2)] [(.int (1 : Int32))]))
          exact own_retZ X4 hx hlk hret rfl (hb hby d7_37) (by decide) (by decide) ⟨(by rw [own_f7, if_neg hc5, if_neg hc13, if_neg hc21, if_neg hc29]), N0, e4⟩

theorem pd_0_0 : parseMethodDescriptor "(II)I" = some ⟨[.int, .int], some .int⟩ := by decide +kernel
theorem pd_0_1 : parseMethodDescriptor "(IIII)V" = some ⟨[.int, .int, .int, .int], none⟩ := by decide +kernel
theorem pd_0_2 : parseMethodDescriptor "(III)Z" = some ⟨[.int, .int, .int], some .boolean⟩ := by decide +kernel
theorem pd_0_3 : parseMethodDescriptor "(II)Z" = some ⟨[.int, .int], some .boolean⟩ := by decide +kernel
theorem pn_0 : plainFor x = true := plainFor_of_name (by show plainName "com/example/onda/onda/hillclimb/AreaContainsPinLaw" = true; first | (simp [plainName, overriddenIn]; done) | decide +kernel)
theorem ef_0 (m : MethodId) (x0 : Int32) (x1 : Int32) (x2 : Int32) (x3 : Int32) (x4 : Int32) (x5 : Int32) : entryFrame m #[(.int x0), (.int x1), (.int x2), (.int x3), (.int x4), (.int x5)] maxLocals = mkF m 0 #[.val (.int x0), .val (.int x1), .val (.int x2), .val (.int x3), .val (.int x4), .val (.int x5), .unset, .unset, .unset, .unset, .unset, .unset] [] := by first | (simp [entryFrame, mkF, argsToLocals, Value.category, maxLocals]; done) | rfl
def own_Q0 (w : Option Value) (n0 : Nat) (v : Option Value) (h : Heap) (L : List Loc) : Prop := v = w ∧ Fr n0 L
def own_f0 (p0 : Int32) (p1 : Int32) (p2 : Int32) (p3 : Int32) (p4 : Int32) (p5 : Int32) : Int32 :=
  if (own_f5 p4 (p0 &&& (2147483647 : Int32)) (own_f1 (p0 &&& (2147483647 : Int32)) (p2 &&& (2147483647 : Int32)))) = 0 then
    if (own_f7 p4 p5 (p0 &&& (2147483647 : Int32)) (p1 &&& (2147483647 : Int32)) (own_f1 (p0 &&& (2147483647 : Int32)) (p2 &&& (2147483647 : Int32))) (own_f1 (p1 &&& (2147483647 : Int32)) (p3 &&& (2147483647 : Int32)))) = (0 : Int32) then
      (1 : Int32)
    else
      (0 : Int32)
  else
    if (own_f5 p5 (p1 &&& (2147483647 : Int32)) (own_f1 (p1 &&& (2147483647 : Int32)) (p3 &&& (2147483647 : Int32)))) = 0 then
      if (own_f7 p4 p5 (p0 &&& (2147483647 : Int32)) (p1 &&& (2147483647 : Int32)) (own_f1 (p0 &&& (2147483647 : Int32)) (p2 &&& (2147483647 : Int32))) (own_f1 (p1 &&& (2147483647 : Int32)) (p3 &&& (2147483647 : Int32)))) = (0 : Int32) then
        (1 : Int32)
      else
        (0 : Int32)
    else
      if (own_f7 p4 p5 (p0 &&& (2147483647 : Int32)) (p1 &&& (2147483647 : Int32)) (own_f1 (p0 &&& (2147483647 : Int32)) (p2 &&& (2147483647 : Int32))) (own_f1 (p1 &&& (2147483647 : Int32)) (p3 &&& (2147483647 : Int32)))) = (1 : Int32) then
        (1 : Int32)
      else
        (0 : Int32)
set_option maxRecDepth 65536 in
set_option maxHeartbeats 40000000 in
theorem rm0 (l : Launch) (Z : State) (a0 : Array Value) (hw : ∀ d ∈ tables_1, d.before a0 Z = true) (p0 : Int32) (p1 : Int32) (p2 : Int32) (p3 : Int32) (p4 : Int32) (p5 : Int32) (h0 : Heap) (n0 : Nat) (Z0 : n0 ≤ h0.size) :
    own_Met l x code maxLocals ret room_1 Z tables_1 #[(.int p0), (.int p1), (.int p2), (.int p3), (.int p4), (.int p5)] h0 (own_Q0 (some (.int (own_f0 p0 p1 p2 p3 p4 p5))) n0) := by
  refine own_enter pn_0 ?_
  intro p e s m below meth c s₁ hx hby hml hown hnm hret hlk hZ e0 X0
  rw [ef_0]
  have N0 := Fr.nil n0
  have hml : c.maxLocals = 12 := hml
  show own_Fin _ _ _ _ _ _ _ (s₁.setTop (mkF m 0 #[.val (.int p0), .val (.int p1), .val (.int p2), .val (.int p3), .val (.int p4), .val (.int p5), .unset, .unset, .unset, .unset, .unset, .unset] []))
  refine own_go (fun _ k => XS.iloadN X0.here hx rfl (hb hby at_0) rfl k) ?_
  show own_Fin _ _ _ _ _ _ _ (s₁.setTop (mkF m 1 #[.val (.int p0), .val (.int p1), .val (.int p2), .val (.int p3), .val (.int p4), .val (.int p5), .unset, .unset, .unset, .unset, .unset, .unset] [(.int p0)]))
  refine own_go (fun _ k => X0.ldcI hx hown (mvT hZ (hw _ (List.mem_of_getElem? (i := 0) rfl))) rfl (hb hby at_1) k) ?_
  show own_Fin _ _ _ _ _ _ _ (s₁.setTop (mkF m 3 #[.val (.int p0), .val (.int p1), .val (.int p2), .val (.int p3), .val (.int p4), .val (.int p5), .unset, .unset, .unset, .unset, .unset, .unset] [(.int (2147483647 : Int32)), (.int p0)]))
  refine own_go (fun _ k => XS.iand X0.here hx rfl (hb hby at_3) rfl k) ?_
  show own_Fin _ _ _ _ _ _ _ (s₁.setTop (mkF m 4 #[.val (.int p0), .val (.int p1), .val (.int p2), .val (.int p3), .val (.int p4), .val (.int p5), .unset, .unset, .unset, .unset, .unset, .unset] [(.int (p0 &&& (2147483647 : Int32)))]))
  refine own_go (fun _ k => XS.istore X0.here hx rfl (hb hby at_4) rfl (l' := #[.val (.int p0), .val (.int p1), .val (.int p2), .val (.int p3), .val (.int p4), .val (.int p5), .val (.int (p0 &&& (2147483647 : Int32))), .unset, .unset, .unset, .unset, .unset]) rfl k) ?_
  show own_Fin _ _ _ _ _ _ _ (s₁.setTop (mkF m 6 #[.val (.int p0), .val (.int p1), .val (.int p2), .val (.int p3), .val (.int p4), .val (.int p5), .val (.int (p0 &&& (2147483647 : Int32))), .unset, .unset, .unset, .unset, .unset] []))
  refine own_go (fun _ k => XS.iloadN X0.here hx rfl (hb hby at_6) rfl k) ?_
  show own_Fin _ _ _ _ _ _ _ (s₁.setTop (mkF m 7 #[.val (.int p0), .val (.int p1), .val (.int p2), .val (.int p3), .val (.int p4), .val (.int p5), .val (.int (p0 &&& (2147483647 : Int32))), .unset, .unset, .unset, .unset, .unset] [(.int p1)]))
  refine own_go (fun _ k => X0.ldcI hx hown (mvT hZ (hw _ (List.mem_of_getElem? (i := 0) rfl))) rfl (hb hby at_7) k) ?_
  show own_Fin _ _ _ _ _ _ _ (s₁.setTop (mkF m 9 #[.val (.int p0), .val (.int p1), .val (.int p2), .val (.int p3), .val (.int p4), .val (.int p5), .val (.int (p0 &&& (2147483647 : Int32))), .unset, .unset, .unset, .unset, .unset] [(.int (2147483647 : Int32)), (.int p1)]))
  refine own_go (fun _ k => XS.iand X0.here hx rfl (hb hby at_9) rfl k) ?_
  show own_Fin _ _ _ _ _ _ _ (s₁.setTop (mkF m 10 #[.val (.int p0), .val (.int p1), .val (.int p2), .val (.int p3), .val (.int p4), .val (.int p5), .val (.int (p0 &&& (2147483647 : Int32))), .unset, .unset, .unset, .unset, .unset] [(.int (p1 &&& (2147483647 : Int32)))]))
  refine own_go (fun _ k => XS.istore X0.here hx rfl (hb hby at_10) rfl (l' := #[.val (.int p0), .val (.int p1), .val (.int p2), .val (.int p3), .val (.int p4), .val (.int p5), .val (.int (p0 &&& (2147483647 : Int32))), .val (.int (p1 &&& (2147483647 : Int32))), .unset, .unset, .unset, .unset]) rfl k) ?_
  show own_Fin _ _ _ _ _ _ _ (s₁.setTop (mkF m 12 #[.val (.int p0), .val (.int p1), .val (.int p2), .val (.int p3), .val (.int p4), .val (.int p5), .val (.int (p0 &&& (2147483647 : Int32))), .val (.int (p1 &&& (2147483647 : Int32))), .unset, .unset, .unset, .unset] []))
  refine own_go (fun _ k => XS.iload X0.here hx rfl (hb hby at_12) rfl k) ?_
  show own_Fin _ _ _ _ _ _ _ (s₁.setTop (mkF m 14 #[.val (.int p0), .val (.int p1), .val (.int p2), .val (.int p3), .val (.int p4), .val (.int p5), .val (.int (p0 &&& (2147483647 : Int32))), .val (.int (p1 &&& (2147483647 : Int32))), .unset, .unset, .unset, .unset] [(.int (p0 &&& (2147483647 : Int32)))]))
  refine own_go (fun _ k => XS.iloadN X0.here hx rfl (hb hby at_14) rfl k) ?_
  show own_Fin _ _ _ _ _ _ _ (s₁.setTop (mkF m 15 #[.val (.int p0), .val (.int p1), .val (.int p2), .val (.int p3), .val (.int p4), .val (.int p5), .val (.int (p0 &&& (2147483647 : Int32))), .val (.int (p1 &&& (2147483647 : Int32))), .unset, .unset, .unset, .unset] [(.int p2), (.int (p0 &&& (2147483647 : Int32)))]))
  refine own_go (fun _ k => X0.ldcI hx hown (mvT hZ (hw _ (List.mem_of_getElem? (i := 0) rfl))) rfl (hb hby at_15) k) ?_
  show own_Fin _ _ _ _ _ _ _ (s₁.setTop (mkF m 17 #[.val (.int p0), .val (.int p1), .val (.int p2), .val (.int p3), .val (.int p4), .val (.int p5), .val (.int (p0 &&& (2147483647 : Int32))), .val (.int (p1 &&& (2147483647 : Int32))), .unset, .unset, .unset, .unset] [(.int (2147483647 : Int32)), (.int p2), (.int (p0 &&& (2147483647 : Int32)))]))
  refine own_go (fun _ k => XS.iand X0.here hx rfl (hb hby at_17) rfl k) ?_
  show own_Fin _ _ _ _ _ _ _ (s₁.setTop (mkF m 18 #[.val (.int p0), .val (.int p1), .val (.int p2), .val (.int p3), .val (.int p4), .val (.int p5), .val (.int (p0 &&& (2147483647 : Int32))), .val (.int (p1 &&& (2147483647 : Int32))), .unset, .unset, .unset, .unset] [(.int (p2 &&& (2147483647 : Int32))), (.int (p0 &&& (2147483647 : Int32)))]))
  refine own_callS X0 hx hZ hown (hw _ (List.mem_of_getElem? (i := 1) rfl)) (hw _ (List.mem_of_getElem? (i := 2) rfl)) (hw _ (List.mem_of_getElem? (i := 3) rfl)) (hw _ (List.mem_of_getElem? (i := 4) rfl)) (by decide) (rm1 l Z a0 hw (p0 &&& (2147483647 : Int32)) (p2 &&& (2147483647 : Int32)) h0 n0 Z0) e0 (argsL := [(.int (p0 &&& (2147483647 : Int32))), (.int (p2 &&& (2147483647 : Int32)))]) (rest := []) rfl rfl (by rw [hml]; rfl) (lenOf pd_0_0 rfl) (hb hby at_18) (W := 0) (Nat.le_of_eq rfl) (by decide) (by decide) (by decide) (by decide) ?_
  rintro v1 T1 L1 X1 ⟨rfl, M1, e1⟩
  have N1 := Fr.app N0 M1
  show own_Fin _ _ _ _ _ _ _ (T1.setTop (mkF m 21 #[.val (.int p0), .val (.int p1), .val (.int p2), .val (.int p3), .val (.int p4), .val (.int p5), .val (.int (p0 &&& (2147483647 : Int32))), .val (.int (p1 &&& (2147483647 : Int32))), .unset, .unset, .unset, .unset] [(.int (own_f1 (p0 &&& (2147483647 : Int32)) (p2 &&& (2147483647 : Int32))))]))
  refine own_go (fun _ k => XS.istore X1.here hx rfl (hb hby at_21) rfl (l' := #[.val (.int p0), .val (.int p1), .val (.int p2), .val (.int p3), .val (.int p4), .val (.int p5), .val (.int (p0 &&& (2147483647 : Int32))), .val (.int (p1 &&& (2147483647 : Int32))), .val (.int (own_f1 (p0 &&& (2147483647 : Int32)) (p2 &&& (2147483647 : Int32)))), .unset, .unset, .unset]) rfl k) ?_
  show own_Fin _ _ _ _ _ _ _ (T1.setTop (mkF m 23 #[.val (.int p0), .val (.int p1), .val (.int p2), .val (.int p3), .val (.int p4), .val (.int p5), .val (.int (p0 &&& (2147483647 : Int32))), .val (.int (p1 &&& (2147483647 : Int32))), .val (.int (own_f1 (p0 &&& (2147483647 : Int32)) (p2 &&& (2147483647 : Int32)))), .unset, .unset, .unset] []))
  refine own_go (fun _ k => XS.iload X1.here hx rfl (hb hby at_23) rfl k) ?_
  show own_Fin _ _ _ _ _ _ _ (T1.setTop (mkF m 25 #[.val (.int p0), .val (.int p1), .val (.int p2), .val (.int p3), .val (.int p4), .val (.int p5), .val (.int (p0 &&& (2147483647 : Int32))), .val (.int (p1 &&& (2147483647 : Int32))), .val (.int (own_f1 (p0 &&& (2147483647 : Int32)) (p2 &&& (2147483647 : Int32)))), .unset, .unset, .unset] [(.int (p1 &&& (2147483647 : Int32)))]))
  refine own_go (fun _ k => XS.iloadN X1.here hx rfl (hb hby at_25) rfl k) ?_
  show own_Fin _ _ _ _ _ _ _ (T1.setTop (mkF m 26 #[.val (.int p0), .val (.int p1), .val (.int p2), .val (.int p3), .val (.int p4), .val (.int p5), .val (.int (p0 &&& (2147483647 : Int32))), .val (.int (p1 &&& (2147483647 : Int32))), .val (.int (own_f1 (p0 &&& (2147483647 : Int32)) (p2 &&& (2147483647 : Int32)))), .unset, .unset, .unset] [(.int p3), (.int (p1 &&& (2147483647 : Int32)))]))
  refine own_go (fun _ k => X1.ldcI hx hown (mvT hZ (hw _ (List.mem_of_getElem? (i := 0) rfl))) rfl (hb hby at_26) k) ?_
  show own_Fin _ _ _ _ _ _ _ (T1.setTop (mkF m 28 #[.val (.int p0), .val (.int p1), .val (.int p2), .val (.int p3), .val (.int p4), .val (.int p5), .val (.int (p0 &&& (2147483647 : Int32))), .val (.int (p1 &&& (2147483647 : Int32))), .val (.int (own_f1 (p0 &&& (2147483647 : Int32)) (p2 &&& (2147483647 : Int32)))), .unset, .unset, .unset] [(.int (2147483647 : Int32)), (.int p3), (.int (p1 &&& (2147483647 : Int32)))]))
  refine own_go (fun _ k => XS.iand X1.here hx rfl (hb hby at_28) rfl k) ?_
  show own_Fin _ _ _ _ _ _ _ (T1.setTop (mkF m 29 #[.val (.int p0), .val (.int p1), .val (.int p2), .val (.int p3), .val (.int p4), .val (.int p5), .val (.int (p0 &&& (2147483647 : Int32))), .val (.int (p1 &&& (2147483647 : Int32))), .val (.int (own_f1 (p0 &&& (2147483647 : Int32)) (p2 &&& (2147483647 : Int32)))), .unset, .unset, .unset] [(.int (p3 &&& (2147483647 : Int32))), (.int (p1 &&& (2147483647 : Int32)))]))
  refine own_callS X1 hx hZ hown (hw _ (List.mem_of_getElem? (i := 1) rfl)) (hw _ (List.mem_of_getElem? (i := 2) rfl)) (hw _ (List.mem_of_getElem? (i := 3) rfl)) (hw _ (List.mem_of_getElem? (i := 4) rfl)) (by decide) (rm1 l Z a0 hw (p1 &&& (2147483647 : Int32)) (p3 &&& (2147483647 : Int32)) h0 n0 Z0) e1 (argsL := [(.int (p1 &&& (2147483647 : Int32))), (.int (p3 &&& (2147483647 : Int32)))]) (rest := []) rfl rfl (by rw [hml]; rfl) (lenOf pd_0_0 rfl) (hb hby at_29) (W := 0) (Nat.le_of_eq rfl) (by decide) (by decide) (by decide) (by decide) ?_
  rintro v2 T2 L2 X2 ⟨rfl, M2, e2⟩
  have N2 := Fr.app N1 M2
  show own_Fin _ _ _ _ _ _ _ (T2.setTop (mkF m 32 #[.val (.int p0), .val (.int p1), .val (.int p2), .val (.int p3), .val (.int p4), .val (.int p5), .val (.int (p0 &&& (2147483647 : Int32))), .val (.int (p1 &&& (2147483647 : Int32))), .val (.int (own_f1 (p0 &&& (2147483647 : Int32)) (p2 &&& (2147483647 : Int32)))), .unset, .unset, .unset] [(.int (own_f1 (p1 &&& (2147483647 : Int32)) (p3 &&& (2147483647 : Int32))))]))
  refine own_go (fun _ k => XS.istore X2.here hx rfl (hb hby at_32) rfl (l' := #[.val (.int p0), .val (.int p1), .val (.int p2), .val (.int p3), .val (.int p4), .val (.int p5), .val (.int (p0 &&& (2147483647 : Int32))), .val (.int (p1 &&& (2147483647 : Int32))), .val (.int (own_f1 (p0 &&& (2147483647 : Int32)) (p2 &&& (2147483647 : Int32)))), .val (.int (own_f1 (p1 &&& (2147483647 : Int32)) (p3 &&& (2147483647 : Int32)))), .unset, .unset]) rfl k) ?_
  show own_Fin _ _ _ _ _ _ _ (T2.setTop (mkF m 34 #[.val (.int p0), .val (.int p1), .val (.int p2), .val (.int p3), .val (.int p4), .val (.int p5), .val (.int (p0 &&& (2147483647 : Int32))), .val (.int (p1 &&& (2147483647 : Int32))), .val (.int (own_f1 (p0 &&& (2147483647 : Int32)) (p2 &&& (2147483647 : Int32)))), .val (.int (own_f1 (p1 &&& (2147483647 : Int32)) (p3 &&& (2147483647 : Int32)))), .unset, .unset] []))
  refine own_new X2 hx hZ hown (hw _ (List.mem_of_getElem? (i := 5) rfl)) (hw _ (List.mem_of_getElem? (i := 6) rfl)) (hw _ (List.mem_of_getElem? (i := 7) rfl)) e2 (hb hby at_34) (by decide) (by decide) ?_
  intro T3 h3 b3 g3 X3 e3 E3 A3 D3
  have g_b3 : n0 ≤ b3 := Nat.le_trans Z0 (Nat.le_of_eq g3.symm)
  have Z3 := Nat.le_trans Z0 E3.1
  have F3_x0 : Fld Z h3 b3 "com/example/onda/onda/hillclimb/Area" "x0" "I" (.int (0 : Int32)) := D3 (Or.inr (hw _ (List.mem_of_getElem? (i := 20) rfl))) (ty := .int) (by decide)
  have F3_y0 : Fld Z h3 b3 "com/example/onda/onda/hillclimb/Area" "y0" "I" (.int (0 : Int32)) := D3 (Or.inr (hw _ (List.mem_of_getElem? (i := 22) rfl))) (ty := .int) (by decide)
  have F3_x1 : Fld Z h3 b3 "com/example/onda/onda/hillclimb/Area" "x1" "I" (.int (0 : Int32)) := D3 (Or.inr (hw _ (List.mem_of_getElem? (i := 24) rfl))) (ty := .int) (by decide)
  have F3_y1 : Fld Z h3 b3 "com/example/onda/onda/hillclimb/Area" "y1" "I" (.int (0 : Int32)) := D3 (Or.inr (hw _ (List.mem_of_getElem? (i := 26) rfl))) (ty := .int) (by decide)
  show own_Fin _ _ _ _ _ _ _ (T3.setTop (mkF m 37 #[.val (.int p0), .val (.int p1), .val (.int p2), .val (.int p3), .val (.int p4), .val (.int p5), .val (.int (p0 &&& (2147483647 : Int32))), .val (.int (p1 &&& (2147483647 : Int32))), .val (.int (own_f1 (p0 &&& (2147483647 : Int32)) (p2 &&& (2147483647 : Int32)))), .val (.int (own_f1 (p1 &&& (2147483647 : Int32)) (p3 &&& (2147483647 : Int32)))), .unset, .unset] [(.ref b3)]))
  refine own_go (fun _ k => XS.dup X3.here hx rfl (hb hby at_37) rfl rfl k) ?_
  show own_Fin _ _ _ _ _ _ _ (T3.setTop (mkF m 38 #[.val (.int p0), .val (.int p1), .val (.int p2), .val (.int p3), .val (.int p4), .val (.int p5), .val (.int (p0 &&& (2147483647 : Int32))), .val (.int (p1 &&& (2147483647 : Int32))), .val (.int (own_f1 (p0 &&& (2147483647 : Int32)) (p2 &&& (2147483647 : Int32)))), .val (.int (own_f1 (p1 &&& (2147483647 : Int32)) (p3 &&& (2147483647 : Int32)))), .unset, .unset] [(.ref b3), (.ref b3)]))
  refine own_go (fun _ k => XS.iload X3.here hx rfl (hb hby at_38) rfl k) ?_
  show own_Fin _ _ _ _ _ _ _ (T3.setTop (mkF m 40 #[.val (.int p0), .val (.int p1), .val (.int p2), .val (.int p3), .val (.int p4), .val (.int p5), .val (.int (p0 &&& (2147483647 : Int32))), .val (.int (p1 &&& (2147483647 : Int32))), .val (.int (own_f1 (p0 &&& (2147483647 : Int32)) (p2 &&& (2147483647 : Int32)))), .val (.int (own_f1 (p1 &&& (2147483647 : Int32)) (p3 &&& (2147483647 : Int32)))), .unset, .unset] [(.int (p0 &&& (2147483647 : Int32))), (.ref b3), (.ref b3)]))
  refine own_go (fun _ k => XS.iload X3.here hx rfl (hb hby at_40) rfl k) ?_
  show own_Fin _ _ _ _ _ _ _ (T3.setTop (mkF m 42 #[.val (.int p0), .val (.int p1), .val (.int p2), .val (.int p3), .val (.int p4), .val (.int p5), .val (.int (p0 &&& (2147483647 : Int32))), .val (.int (p1 &&& (2147483647 : Int32))), .val (.int (own_f1 (p0 &&& (2147483647 : Int32)) (p2 &&& (2147483647 : Int32)))), .val (.int (own_f1 (p1 &&& (2147483647 : Int32)) (p3 &&& (2147483647 : Int32)))), .unset, .unset] [(.int (p1 &&& (2147483647 : Int32))), (.int (p0 &&& (2147483647 : Int32))), (.ref b3), (.ref b3)]))
  refine own_go (fun _ k => XS.iload X3.here hx rfl (hb hby at_42) rfl k) ?_
  show own_Fin _ _ _ _ _ _ _ (T3.setTop (mkF m 44 #[.val (.int p0), .val (.int p1), .val (.int p2), .val (.int p3), .val (.int p4), .val (.int p5), .val (.int (p0 &&& (2147483647 : Int32))), .val (.int (p1 &&& (2147483647 : Int32))), .val (.int (own_f1 (p0 &&& (2147483647 : Int32)) (p2 &&& (2147483647 : Int32)))), .val (.int (own_f1 (p1 &&& (2147483647 : Int32)) (p3 &&& (2147483647 : Int32)))), .unset, .unset] [(.int (own_f1 (p0 &&& (2147483647 : Int32)) (p2 &&& (2147483647 : Int32)))), (.int (p1 &&& (2147483647 : Int32))), (.int (p0 &&& (2147483647 : Int32))), (.ref b3), (.ref b3)]))
  refine own_go (fun _ k => XS.iload X3.here hx rfl (hb hby at_44) rfl k) ?_
  show own_Fin _ _ _ _ _ _ _ (T3.setTop (mkF m 46 #[.val (.int p0), .val (.int p1), .val (.int p2), .val (.int p3), .val (.int p4), .val (.int p5), .val (.int (p0 &&& (2147483647 : Int32))), .val (.int (p1 &&& (2147483647 : Int32))), .val (.int (own_f1 (p0 &&& (2147483647 : Int32)) (p2 &&& (2147483647 : Int32)))), .val (.int (own_f1 (p1 &&& (2147483647 : Int32)) (p3 &&& (2147483647 : Int32)))), .unset, .unset] [(.int (own_f1 (p1 &&& (2147483647 : Int32)) (p3 &&& (2147483647 : Int32)))), (.int (own_f1 (p0 &&& (2147483647 : Int32)) (p2 &&& (2147483647 : Int32)))), (.int (p1 &&& (2147483647 : Int32))), (.int (p0 &&& (2147483647 : Int32))), (.ref b3), (.ref b3)]))
  refine own_callN X3 hx hZ rfl hown (hw _ (List.mem_of_getElem? (i := 8) rfl)) (hw _ (List.mem_of_getElem? (i := 9) rfl)) (hw _ (List.mem_of_getElem? (i := 7) rfl)) (hw _ (List.mem_of_getElem? (i := 10) rfl)) (by decide) (rm2 l Z a0 hw b3 (p0 &&& (2147483647 : Int32)) (p1 &&& (2147483647 : Int32)) (own_f1 (p0 &&& (2147483647 : Int32)) (p2 &&& (2147483647 : Int32))) (own_f1 (p1 &&& (2147483647 : Int32)) (p3 &&& (2147483647 : Int32))) h3 n0 Z3 A3 F3_x0 F3_y0 F3_x1 F3_y1 g_b3 (own_nn _) (own_nn _) (own_mx _ _) (own_mx _ _)) e3 (a := b3) (argsL := [(.int (p0 &&& (2147483647 : Int32))), (.int (p1 &&& (2147483647 : Int32))), (.int (own_f1 (p0 &&& (2147483647 : Int32)) (p2 &&& (2147483647 : Int32)))), (.int (own_f1 (p1 &&& (2147483647 : Int32)) (p3 &&& (2147483647 : Int32))))]) (rest := [(.ref b3)]) rfl rfl (by rw [hml]; rfl) (lenOf pd_0_1 rfl) (hb hby at_46) (W := 1) (Nat.le_of_eq rfl) (by decide) (by decide) (by decide) (by decide) ?_
  rintro v4 T4 L4 X4 ⟨rfl, M4, Kc4, Fc4_x0, Fc4_y0, Fc4_x1, Fc4_y1⟩
  have N4 := Fr.app N2 M4
  have f5 := A3.keep Kc4
  have Z4 := Nat.le_trans Z3 Kc4.1
  show own_Fin _ _ _ _ _ _ _ (T4.setTop (mkF m 49 #[.val (.int p0), .val (.int p1), .val (.int p2), .val (.int p3), .val (.int p4), .val (.int p5), .val (.int (p0 &&& (2147483647 : Int32))), .val (.int (p1 &&& (2147483647 : Int32))), .val (.int (own_f1 (p0 &&& (2147483647 : Int32)) (p2 &&& (2147483647 : Int32)))), .val (.int (own_f1 (p1 &&& (2147483647 : Int32)) (p3 &&& (2147483647 : Int32)))), .unset, .unset] [(.ref b3)]))
  refine own_go (fun _ k => XS.astore X4.here hx rfl (hb hby at_49) rfl rfl (l' := #[.val (.int p0), .val (.int p1), .val (.int p2), .val (.int p3), .val (.int p4), .val (.int p5), .val (.int (p0 &&& (2147483647 : Int32))), .val (.int (p1 &&& (2147483647 : Int32))), .val (.int (own_f1 (p0 &&& (2147483647 : Int32)) (p2 &&& (2147483647 : Int32)))), .val (.int (own_f1 (p1 &&& (2147483647 : Int32)) (p3 &&& (2147483647 : Int32)))), .val (.ref b3), .unset]) rfl k) ?_
  show own_Fin _ _ _ _ _ _ _ (T4.setTop (mkF m 51 #[.val (.int p0), .val (.int p1), .val (.int p2), .val (.int p3), .val (.int p4), .val (.int p5), .val (.int (p0 &&& (2147483647 : Int32))), .val (.int (p1 &&& (2147483647 : Int32))), .val (.int (own_f1 (p0 &&& (2147483647 : Int32)) (p2 &&& (2147483647 : Int32)))), .val (.int (own_f1 (p1 &&& (2147483647 : Int32)) (p3 &&& (2147483647 : Int32)))), .val (.ref b3), .unset] []))
  refine own_go (fun _ k => XS.iload X4.here hx rfl (hb hby at_51) rfl k) ?_
  show own_Fin _ _ _ _ _ _ _ (T4.setTop (mkF m 53 #[.val (.int p0), .val (.int p1), .val (.int p2), .val (.int p3), .val (.int p4), .val (.int p5), .val (.int (p0 &&& (2147483647 : Int32))), .val (.int (p1 &&& (2147483647 : Int32))), .val (.int (own_f1 (p0 &&& (2147483647 : Int32)) (p2 &&& (2147483647 : Int32)))), .val (.int (own_f1 (p1 &&& (2147483647 : Int32)) (p3 &&& (2147483647 : Int32)))), .val (.ref b3), .unset] [(.int p4)]))
  refine own_go (fun _ k => XS.iload X4.here hx rfl (hb hby at_53) rfl k) ?_
  show own_Fin _ _ _ _ _ _ _ (T4.setTop (mkF m 55 #[.val (.int p0), .val (.int p1), .val (.int p2), .val (.int p3), .val (.int p4), .val (.int p5), .val (.int (p0 &&& (2147483647 : Int32))), .val (.int (p1 &&& (2147483647 : Int32))), .val (.int (own_f1 (p0 &&& (2147483647 : Int32)) (p2 &&& (2147483647 : Int32)))), .val (.int (own_f1 (p1 &&& (2147483647 : Int32)) (p3 &&& (2147483647 : Int32)))), .val (.ref b3), .unset] [(.int (p0 &&& (2147483647 : Int32))), (.int p4)]))
  refine own_go (fun _ k => XS.iload X4.here hx rfl (hb hby at_55) rfl k) ?_
  show own_Fin _ _ _ _ _ _ _ (T4.setTop (mkF m 57 #[.val (.int p0), .val (.int p1), .val (.int p2), .val (.int p3), .val (.int p4), .val (.int p5), .val (.int (p0 &&& (2147483647 : Int32))), .val (.int (p1 &&& (2147483647 : Int32))), .val (.int (own_f1 (p0 &&& (2147483647 : Int32)) (p2 &&& (2147483647 : Int32)))), .val (.int (own_f1 (p1 &&& (2147483647 : Int32)) (p3 &&& (2147483647 : Int32)))), .val (.ref b3), .unset] [(.int (own_f1 (p0 &&& (2147483647 : Int32)) (p2 &&& (2147483647 : Int32)))), (.int (p0 &&& (2147483647 : Int32))), (.int p4)]))
  refine own_callS X4 hx hZ hown (hw _ (List.mem_of_getElem? (i := 27) rfl)) (hw _ (List.mem_of_getElem? (i := 28) rfl)) (hw _ (List.mem_of_getElem? (i := 29) rfl)) (hw _ (List.mem_of_getElem? (i := 30) rfl)) (by decide) (rm5 l Z a0 hw p4 (p0 &&& (2147483647 : Int32)) (own_f1 (p0 &&& (2147483647 : Int32)) (p2 &&& (2147483647 : Int32))) T4.heap n0 Z4) rfl (argsL := [(.int p4), (.int (p0 &&& (2147483647 : Int32))), (.int (own_f1 (p0 &&& (2147483647 : Int32)) (p2 &&& (2147483647 : Int32))))]) (rest := []) rfl rfl (by rw [hml]; rfl) (lenOf pd_0_2 rfl) (hb hby at_57) (W := 0) (Nat.le_of_eq rfl) (by decide) (by decide) (by decide) (by decide) ?_
  rintro v6 T6 L6 X6 ⟨rfl, M6, e6⟩
  have N6 := Fr.app N4 M6
  show own_Fin _ _ _ _ _ _ _ (T6.setTop (mkF m 60 #[.val (.int p0), .val (.int p1), .val (.int p2), .val (.int p3), .val (.int p4), .val (.int p5), .val (.int (p0 &&& (2147483647 : Int32))), .val (.int (p1 &&& (2147483647 : Int32))), .val (.int (own_f1 (p0 &&& (2147483647 : Int32)) (p2 &&& (2147483647 : Int32)))), .val (.int (own_f1 (p1 &&& (2147483647 : Int32)) (p3 &&& (2147483647 : Int32)))), .val (.ref b3), .unset] [(.int (own_f5 p4 (p0 &&& (2147483647 : Int32)) (own_f1 (p0 &&& (2147483647 : Int32)) (p2 &&& (2147483647 : Int32)))))]))
  by_cases hc60 : (own_f5 p4 (p0 &&& (2147483647 : Int32)) (own_f1 (p0 &&& (2147483647 : Int32)) (p2 &&& (2147483647 : Int32)))) = 0
  · refine own_go (fun _ k => XS.ifYes X6.here hx rfl (pc0 := 60) (pc' := 79) rfl (hb hby at_60) rfl (XT.i0_eq_t hc60) (by decide) (by decide) k) ?_
    show own_Fin _ _ _ _ _ _ _ (T6.setTop (mkF m 79 #[.val (.int p0), .val (.int p1), .val (.int p2), .val (.int p3), .val (.int p4), .val (.int p5), .val (.int (p0 &&& (2147483647 : Int32))), .val (.int (p1 &&& (2147483647 : Int32))), .val (.int (own_f1 (p0 &&& (2147483647 : Int32)) (p2 &&& (2147483647 : Int32)))), .val (.int (own_f1 (p1 &&& (2147483647 : Int32)) (p3 &&& (2147483647 : Int32)))), .val (.ref b3), .unset] []))
    refine own_go (fun _ k => XS.iconst X6.here hx rfl (hb hby at_79) k) ?_
    show own_Fin _ _ _ _ _ _ _ (T6.setTop (mkF m 80 #[.val (.int p0), .val (.int p1), .val (.int p2), .val (.int p3), .val (.int p4), .val (.int p5), .val (.int (p0 &&& (2147483647 : Int32))), .val (.int (p1 &&& (2147483647 : Int32))), .val (.int (own_f1 (p0 &&& (2147483647 : Int32)) (p2 &&& (2147483647 : Int32)))), .val (.int (own_f1 (p1 &&& (2147483647 : Int32)) (p3 &&& (2147483647 : Int32)))), .val (.ref b3), .unset] [(.int (0 : Int32))]))
    refine own_go (fun _ k => XS.istore X6.here hx rfl (hb hby at_80) rfl (l' := #[.val (.int p0), .val (.int p1), .val (.int p2), .val (.int p3), .val (.int p4), .val (.int p5), .val (.int (p0 &&& (2147483647 : Int32))), .val (.int (p1 &&& (2147483647 : Int32))), .val (.int (own_f1 (p0 &&& (2147483647 : Int32)) (p2 &&& (2147483647 : Int32)))), .val (.int (own_f1 (p1 &&& (2147483647 : Int32)) (p3 &&& (2147483647 : Int32)))), .val (.ref b3), .val (.int (0 : Int32))]) rfl k) ?_
    show own_Fin _ _ _ _ _ _ _ (T6.setTop (mkF m 82 #[.val (.int p0), .val (.int p1), .val (.int p2), .val (.int p3), .val (.int p4), .val (.int p5), .val (.int (p0 &&& (2147483647 : Int32))), .val (.int (p1 &&& (2147483647 : Int32))), .val (.int (own_f1 (p0 &&& (2147483647 : Int32)) (p2 &&& (2147483647 : Int32)))), .val (.int (own_f1 (p1 &&& (2147483647 : Int32)) (p3 &&& (2147483647 : Int32)))), .val (.ref b3), .val (.int (0 : Int32))] []))
    refine own_go (fun _ k => XS.aload X6.here hx rfl (hb hby at_82) rfl rfl k) ?_
    show own_Fin _ _ _ _ _ _ _ (T6.setTop (mkF m 84 #[.val (.int p0), .val (.int p1), .val (.int p2), .val (.int p3), .val (.int p4), .val (.int p5), .val (.int (p0 &&& (2147483647 : Int32))), .val (.int (p1 &&& (2147483647 : Int32))), .val (.int (own_f1 (p0 &&& (2147483647 : Int32)) (p2 &&& (2147483647 : Int32)))), .val (.int (own_f1 (p1 &&& (2147483647 : Int32)) (p3 &&& (2147483647 : Int32)))), .val (.ref b3), .val (.int (0 : Int32))] [(.ref b3)]))
    refine own_go (fun _ k => XS.iload X6.here hx rfl (hb hby at_84) rfl k) ?_
    show own_Fin _ _ _ _ _ _ _ (T6.setTop (mkF m 86 #[.val (.int p0), .val (.int p1), .val (.int p2), .val (.int p3), .val (.int p4), .val (.int p5), .val (.int (p0 &&& (2147483647 : Int32))), .val (.int (p1 &&& (2147483647 : Int32))), .val (.int (own_f1 (p0 &&& (2147483647 : Int32)) (p2 &&& (2147483647 : Int32)))), .val (.int (own_f1 (p1 &&& (2147483647 : Int32)) (p3 &&& (2147483647 : Int32)))), .val (.ref b3), .val (.int (0 : Int32))] [(.int p4), (.ref b3)]))
    refine own_go (fun _ k => XS.iload X6.here hx rfl (hb hby at_86) rfl k) ?_
    show own_Fin _ _ _ _ _ _ _ (T6.setTop (mkF m 88 #[.val (.int p0), .val (.int p1), .val (.int p2), .val (.int p3), .val (.int p4), .val (.int p5), .val (.int (p0 &&& (2147483647 : Int32))), .val (.int (p1 &&& (2147483647 : Int32))), .val (.int (own_f1 (p0 &&& (2147483647 : Int32)) (p2 &&& (2147483647 : Int32)))), .val (.int (own_f1 (p1 &&& (2147483647 : Int32)) (p3 &&& (2147483647 : Int32)))), .val (.ref b3), .val (.int (0 : Int32))] [(.int p5), (.int p4), (.ref b3)]))
    refine own_callV X6 hx hZ hown (hw _ (List.mem_of_getElem? (i := 34) rfl)) (hw _ (List.mem_of_getElem? (i := 35) rfl)) (notFace_of_selects (args := #[]) (mvT hZ (hw _ (List.mem_of_getElem? (i := 37) rfl)))) (hw _ (List.mem_of_getElem? (i := 37) rfl)) (hw _ (List.mem_of_getElem? (i := 36) rfl)) (hw _ (List.mem_of_getElem? (i := 38) rfl)) (hw _ (List.mem_of_getElem? (i := 7) rfl)) (by decide) (rm7 l Z a0 hw b3 p4 p5 T4.heap n0 Z4 (p0 &&& (2147483647 : Int32)) (p1 &&& (2147483647 : Int32)) (own_f1 (p0 &&& (2147483647 : Int32)) (p2 &&& (2147483647 : Int32))) (own_f1 (p1 &&& (2147483647 : Int32)) (p3 &&& (2147483647 : Int32))) Fc4_x0 Fc4_y0 Fc4_x1 Fc4_y1) e6 f5 (argsL := [(.int p4), (.int p5)]) (rest := []) rfl rfl (by rw [hml]; rfl) (lenOf pd_0_3 rfl) (hb hby at_88) (W := 0) (Nat.le_of_eq rfl) (by decide) (by decide) (by decide) (by decide) ?_
    rintro v7 T7 L7 X7 ⟨rfl, M7, e7⟩
    have N7 := Fr.app N6 M7
    show own_Fin _ _ _ _ _ _ _ (T7.setTop (mkF m 91 #[.val (.int p0), .val (.int p1), .val (.int p2), .val (.int p3), .val (.int p4), .val (.int p5), .val (.int (p0 &&& (2147483647 : Int32))), .val (.int (p1 &&& (2147483647 : Int32))), .val (.int (own_f1 (p0 &&& (2147483647 : Int32)) (p2 &&& (2147483647 : Int32)))), .val (.int (own_f1 (p1 &&& (2147483647 : Int32)) (p3 &&& (2147483647 : Int32)))), .val (.ref b3), .val (.int (0 : Int32))] [(.int (own_f7 p4 p5 (p0 &&& (2147483647 : Int32)) (p1 &&& (2147483647 : Int32)) (own_f1 (p0 &&& (2147483647 : Int32)) (p2 &&& (2147483647 : Int32))) (own_f1 (p1 &&& (2147483647 : Int32)) (p3 &&& (2147483647 : Int32)))))]))
    refine own_go (fun _ k => XS.iload X7.here hx rfl (hb hby at_91) rfl k) ?_
    show own_Fin _ _ _ _ _ _ _ (T7.setTop (mkF m 93 #[.val (.int p0), .val (.int p1), .val (.int p2), .val (.int p3), .val (.int p4), .val (.int p5), .val (.int (p0 &&& (2147483647 : Int32))), .val (.int (p1 &&& (2147483647 : Int32))), .val (.int (own_f1 (p0 &&& (2147483647 : Int32)) (p2 &&& (2147483647 : Int32)))), .val (.int (own_f1 (p1 &&& (2147483647 : Int32)) (p3 &&& (2147483647 : Int32)))), .val (.ref b3), .val (.int (0 : Int32))] [(.int (0 : Int32)), (.int (own_f7 p4 p5 (p0 &&& (2147483647 : Int32)) (p1 &&& (2147483647 : Int32)) (own_f1 (p0 &&& (2147483647 : Int32)) (p2 &&& (2147483647 : Int32))) (own_f1 (p1 &&& (2147483647 : Int32)) (p3 &&& (2147483647 : Int32)))))]))
    by_cases hc93 : (own_f7 p4 p5 (p0 &&& (2147483647 : Int32)) (p1 &&& (2147483647 : Int32)) (own_f1 (p0 &&& (2147483647 : Int32)) (p2 &&& (2147483647 : Int32))) (own_f1 (p1 &&& (2147483647 : Int32)) (p3 &&& (2147483647 : Int32)))) = (0 : Int32)
    · refine own_go (fun _ k => XS.icmpNo X7.here hx rfl (hb hby at_93) rfl (XT.ii_ne_f hc93) k) ?_
      show own_Fin _ _ _ _ _ _ _ (T7.setTop (mkF m 96 #[.val (.int p0), .val (.int p1), .val (.int p2), .val (.int p3), .val (.int p4), .val (.int p5), .val (.int (p0 &&& (2147483647 : Int32))), .val (.int (p1 &&& (2147483647 : Int32))), .val (.int (own_f1 (p0 &&& (2147483647 : Int32)) (p2 &&& (2147483647 : Int32)))), .val (.int (own_f1 (p1 &&& (2147483647 : Int32)) (p3 &&& (2147483647 : Int32)))), .val (.ref b3), .val (.int (0 : Int32))] []))
      refine own_go (fun _ k => XS.iconst X7.here hx rfl (hb hby at_96) k) ?_
      show own_Fin _ _ _ _ _ _ _ (T7.setTop (mkF m 97 #[.val (.int p0), .val (.int p1), .val (.int p2), .val (.int p3), .val (.int p4), .val (.int p5), .val (.int (p0 &&& (2147483647 : Int32))), .val (.int (p1 &&& (2147483647 : Int32))), .val (.int (own_f1 (p0 &&& (2147483647 : Int32)) (p2 &&& (2147483647 : Int32)))), .val (.int (own_f1 (p1 &&& (2147483647 : Int32)) (p3 &&& (2147483647 : Int32)))), .val (.ref b3), .val (.int (0 : Int32))] [(.int (1 : Int32))]))
      refine own_go (fun _ k => XS.goto X7.here hx rfl (pc0 := 97) (pc' := 101) rfl (hb hby at_97) (by decide) (by decide) k) ?_
      show own_Fin _ _ _ _ _ _ _ (T7.setTop (mkF m 101 #[.val (.int p0), .val (.int p1), .val (.int p2), .val (.int p3), .val (.int p4), .val (.int p5), .val (.int (p0 &&& (2147483647 : Int32))), .val (.int (p1 &&& (2147483647 : Int32))), .val (.int (own_f1 (p0 &&& (2147483647 : Int32)) (p2 &&& (2147483647 : Int32)))), .val (.int (own_f1 (p1 &&& (2147483647 : Int32)) (p3 &&& (2147483647 : Int32)))), .val (.ref b3), .val (.int (0 : Int32))] [(.int (1 : Int32))]))
      exact own_retZ X7 hx hlk hret rfl (hb hby at_101) (by decide) (by decide) ⟨(by rw [own_f0, if_pos hc60, if_pos hc93]), N7⟩
    · refine own_go (fun _ k => XS.icmpYes X7.here hx rfl (pc0 := 93) (pc' := 100) rfl (hb hby at_93) rfl (XT.ii_ne_t hc93) (by decide) (by decide) k) ?_
      show own_Fin _ _ _ _ _ _ _ (T7.setTop (mkF m 100 #[.val (.int p0), .val (.int p1), .val (.int p2), .val (.int p3), .val (.int p4), .val (.int p5), .val (.int (p0 &&& (2147483647 : Int32))), .val (.int (p1 &&& (2147483647 : Int32))), .val (.int (own_f1 (p0 &&& (2147483647 : Int32)) (p2 &&& (2147483647 : Int32)))), .val (.int (own_f1 (p1 &&& (2147483647 : Int32)) (p3 &&& (2147483647 : Int32)))), .val (.ref b3), .val (.int (0 : Int32))] []))
      refine own_go (fun _ k => XS.iconst X7.here hx rfl (hb hby at_100) k) ?_
      show own_Fin _ _ _ _ _ _ _ (T7.setTop (mkF m 101 #[.val (.int p0), .val (.int p1), .val (.int p2), .val (.int p3), .val (.int p4), .val (.int p5), .val (.int (p0 &&& (2147483647 : Int32))), .val (.int (p1 &&& (2147483647 : Int32))), .val (.int (own_f1 (p0 &&& (2147483647 : Int32)) (p2 &&& (2147483647 : Int32)))), .val (.int (own_f1 (p1 &&& (2147483647 : Int32)) (p3 &&& (2147483647 : Int32)))), .val (.ref b3), .val (.int (0 : Int32))] [(.int (0 : Int32))]))
      exact own_retZ X7 hx hlk hret rfl (hb hby at_101) (by decide) (by decide) ⟨(by rw [own_f0, if_pos hc60, if_neg hc93]), N7⟩
  · refine own_go (fun _ k => XS.ifNo X6.here hx rfl (hb hby at_60) rfl (XT.i0_eq_f hc60) k) ?_
    show own_Fin _ _ _ _ _ _ _ (T6.setTop (mkF m 63 #[.val (.int p0), .val (.int p1), .val (.int p2), .val (.int p3), .val (.int p4), .val (.int p5), .val (.int (p0 &&& (2147483647 : Int32))), .val (.int (p1 &&& (2147483647 : Int32))), .val (.int (own_f1 (p0 &&& (2147483647 : Int32)) (p2 &&& (2147483647 : Int32)))), .val (.int (own_f1 (p1 &&& (2147483647 : Int32)) (p3 &&& (2147483647 : Int32)))), .val (.ref b3), .unset] []))
    refine own_go (fun _ k => XS.iload X6.here hx rfl (hb hby at_63) rfl k) ?_
    show own_Fin _ _ _ _ _ _ _ (T6.setTop (mkF m 65 #[.val (.int p0), .val (.int p1), .val (.int p2), .val (.int p3), .val (.int p4), .val (.int p5), .val (.int (p0 &&& (2147483647 : Int32))), .val (.int (p1 &&& (2147483647 : Int32))), .val (.int (own_f1 (p0 &&& (2147483647 : Int32)) (p2 &&& (2147483647 : Int32)))), .val (.int (own_f1 (p1 &&& (2147483647 : Int32)) (p3 &&& (2147483647 : Int32)))), .val (.ref b3), .unset] [(.int p5)]))
    refine own_go (fun _ k => XS.iload X6.here hx rfl (hb hby at_65) rfl k) ?_
    show own_Fin _ _ _ _ _ _ _ (T6.setTop (mkF m 67 #[.val (.int p0), .val (.int p1), .val (.int p2), .val (.int p3), .val (.int p4), .val (.int p5), .val (.int (p0 &&& (2147483647 : Int32))), .val (.int (p1 &&& (2147483647 : Int32))), .val (.int (own_f1 (p0 &&& (2147483647 : Int32)) (p2 &&& (2147483647 : Int32)))), .val (.int (own_f1 (p1 &&& (2147483647 : Int32)) (p3 &&& (2147483647 : Int32)))), .val (.ref b3), .unset] [(.int (p1 &&& (2147483647 : Int32))), (.int p5)]))
    refine own_go (fun _ k => XS.iload X6.here hx rfl (hb hby at_67) rfl k) ?_
    show own_Fin _ _ _ _ _ _ _ (T6.setTop (mkF m 69 #[.val (.int p0), .val (.int p1), .val (.int p2), .val (.int p3), .val (.int p4), .val (.int p5), .val (.int (p0 &&& (2147483647 : Int32))), .val (.int (p1 &&& (2147483647 : Int32))), .val (.int (own_f1 (p0 &&& (2147483647 : Int32)) (p2 &&& (2147483647 : Int32)))), .val (.int (own_f1 (p1 &&& (2147483647 : Int32)) (p3 &&& (2147483647 : Int32)))), .val (.ref b3), .unset] [(.int (own_f1 (p1 &&& (2147483647 : Int32)) (p3 &&& (2147483647 : Int32)))), (.int (p1 &&& (2147483647 : Int32))), (.int p5)]))
    refine own_callS X6 hx hZ hown (hw _ (List.mem_of_getElem? (i := 27) rfl)) (hw _ (List.mem_of_getElem? (i := 28) rfl)) (hw _ (List.mem_of_getElem? (i := 29) rfl)) (hw _ (List.mem_of_getElem? (i := 30) rfl)) (by decide) (rm5 l Z a0 hw p5 (p1 &&& (2147483647 : Int32)) (own_f1 (p1 &&& (2147483647 : Int32)) (p3 &&& (2147483647 : Int32))) T4.heap n0 Z4) e6 (argsL := [(.int p5), (.int (p1 &&& (2147483647 : Int32))), (.int (own_f1 (p1 &&& (2147483647 : Int32)) (p3 &&& (2147483647 : Int32))))]) (rest := []) rfl rfl (by rw [hml]; rfl) (lenOf pd_0_2 rfl) (hb hby at_69) (W := 0) (Nat.le_of_eq rfl) (by decide) (by decide) (by decide) (by decide) ?_
    rintro v8 T8 L8 X8 ⟨rfl, M8, e8⟩
    have N8 := Fr.app N6 M8
    show own_Fin _ _ _ _ _ _ _ (T8.setTop (mkF m 72 #[.val (.int p0), .val (.int p1), .val (.int p2), .val (.int p3), .val (.int p4), .val (.int p5), .val (.int (p0 &&& (2147483647 : Int32))), .val (.int (p1 &&& (2147483647 : Int32))), .val (.int (own_f1 (p0 &&& (2147483647 : Int32)) (p2 &&& (2147483647 : Int32)))), .val (.int (own_f1 (p1 &&& (2147483647 : Int32)) (p3 &&& (2147483647 : Int32)))), .val (.ref b3), .unset] [(.int (own_f5 p5 (p1 &&& (2147483647 : Int32)) (own_f1 (p1 &&& (2147483647 : Int32)) (p3 &&& (2147483647 : Int32)))))]))
    by_cases hc72 : (own_f5 p5 (p1 &&& (2147483647 : Int32)) (own_f1 (p1 &&& (2147483647 : Int32)) (p3 &&& (2147483647 : Int32)))) = 0
    · refine own_go (fun _ k => XS.ifYes X8.here hx rfl (pc0 := 72) (pc' := 79) rfl (hb hby at_72) rfl (XT.i0_eq_t hc72) (by decide) (by decide) k) ?_
      show own_Fin _ _ _ _ _ _ _ (T8.setTop (mkF m 79 #[.val (.int p0), .val (.int p1), .val (.int p2), .val (.int p3), .val (.int p4), .val (.int p5), .val (.int (p0 &&& (2147483647 : Int32))), .val (.int (p1 &&& (2147483647 : Int32))), .val (.int (own_f1 (p0 &&& (2147483647 : Int32)) (p2 &&& (2147483647 : Int32)))), .val (.int (own_f1 (p1 &&& (2147483647 : Int32)) (p3 &&& (2147483647 : Int32)))), .val (.ref b3), .unset] []))
      refine own_go (fun _ k => XS.iconst X8.here hx rfl (hb hby at_79) k) ?_
      show own_Fin _ _ _ _ _ _ _ (T8.setTop (mkF m 80 #[.val (.int p0), .val (.int p1), .val (.int p2), .val (.int p3), .val (.int p4), .val (.int p5), .val (.int (p0 &&& (2147483647 : Int32))), .val (.int (p1 &&& (2147483647 : Int32))), .val (.int (own_f1 (p0 &&& (2147483647 : Int32)) (p2 &&& (2147483647 : Int32)))), .val (.int (own_f1 (p1 &&& (2147483647 : Int32)) (p3 &&& (2147483647 : Int32)))), .val (.ref b3), .unset] [(.int (0 : Int32))]))
      refine own_go (fun _ k => XS.istore X8.here hx rfl (hb hby at_80) rfl (l' := #[.val (.int p0), .val (.int p1), .val (.int p2), .val (.int p3), .val (.int p4), .val (.int p5), .val (.int (p0 &&& (2147483647 : Int32))), .val (.int (p1 &&& (2147483647 : Int32))), .val (.int (own_f1 (p0 &&& (2147483647 : Int32)) (p2 &&& (2147483647 : Int32)))), .val (.int (own_f1 (p1 &&& (2147483647 : Int32)) (p3 &&& (2147483647 : Int32)))), .val (.ref b3), .val (.int (0 : Int32))]) rfl k) ?_
      show own_Fin _ _ _ _ _ _ _ (T8.setTop (mkF m 82 #[.val (.int p0), .val (.int p1), .val (.int p2), .val (.int p3), .val (.int p4), .val (.int p5), .val (.int (p0 &&& (2147483647 : Int32))), .val (.int (p1 &&& (2147483647 : Int32))), .val (.int (own_f1 (p0 &&& (2147483647 : Int32)) (p2 &&& (2147483647 : Int32)))), .val (.int (own_f1 (p1 &&& (2147483647 : Int32)) (p3 &&& (2147483647 : Int32)))), .val (.ref b3), .val (.int (0 : Int32))] []))
      refine own_go (fun _ k => XS.aload X8.here hx rfl (hb hby at_82) rfl rfl k) ?_
      show own_Fin _ _ _ _ _ _ _ (T8.setTop (mkF m 84 #[.val (.int p0), .val (.int p1), .val (.int p2), .val (.int p3), .val (.int p4), .val (.int p5), .val (.int (p0 &&& (2147483647 : Int32))), .val (.int (p1 &&& (2147483647 : Int32))), .val (.int (own_f1 (p0 &&& (2147483647 : Int32)) (p2 &&& (2147483647 : Int32)))), .val (.int (own_f1 (p1 &&& (2147483647 : Int32)) (p3 &&& (2147483647 : Int32)))), .val (.ref b3), .val (.int (0 : Int32))] [(.ref b3)]))
      refine own_go (fun _ k => XS.iload X8.here hx rfl (hb hby at_84) rfl k) ?_
      show own_Fin _ _ _ _ _ _ _ (T8.setTop (mkF m 86 #[.val (.int p0), .val (.int p1), .val (.int p2), .val (.int p3), .val (.int p4), .val (.int p5), .val (.int (p0 &&& (2147483647 : Int32))), .val (.int (p1 &&& (2147483647 : Int32))), .val (.int (own_f1 (p0 &&& (2147483647 : Int32)) (p2 &&& (2147483647 : Int32)))), .val (.int (own_f1 (p1 &&& (2147483647 : Int32)) (p3 &&& (2147483647 : Int32)))), .val (.ref b3), .val (.int (0 : Int32))] [(.int p4), (.ref b3)]))
      refine own_go (fun _ k => XS.iload X8.here hx rfl (hb hby at_86) rfl k) ?_
      show own_Fin _ _ _ _ _ _ _ (T8.setTop (mkF m 88 #[.val (.int p0), .val (.int p1), .val (.int p2), .val (.int p3), .val (.int p4), .val (.int p5), .val (.int (p0 &&& (2147483647 : Int32))), .val (.int (p1 &&& (2147483647 : Int32))), .val (.int (own_f1 (p0 &&& (2147483647 : Int32)) (p2 &&& (2147483647 : Int32)))), .val (.int (own_f1 (p1 &&& (2147483647 : Int32)) (p3 &&& (2147483647 : Int32)))), .val (.ref b3), .val (.int (0 : Int32))] [(.int p5), (.int p4), (.ref b3)]))
      refine own_callV X8 hx hZ hown (hw _ (List.mem_of_getElem? (i := 34) rfl)) (hw _ (List.mem_of_getElem? (i := 35) rfl)) (notFace_of_selects (args := #[]) (mvT hZ (hw _ (List.mem_of_getElem? (i := 37) rfl)))) (hw _ (List.mem_of_getElem? (i := 37) rfl)) (hw _ (List.mem_of_getElem? (i := 36) rfl)) (hw _ (List.mem_of_getElem? (i := 38) rfl)) (hw _ (List.mem_of_getElem? (i := 7) rfl)) (by decide) (rm7 l Z a0 hw b3 p4 p5 T4.heap n0 Z4 (p0 &&& (2147483647 : Int32)) (p1 &&& (2147483647 : Int32)) (own_f1 (p0 &&& (2147483647 : Int32)) (p2 &&& (2147483647 : Int32))) (own_f1 (p1 &&& (2147483647 : Int32)) (p3 &&& (2147483647 : Int32))) Fc4_x0 Fc4_y0 Fc4_x1 Fc4_y1) e8 f5 (argsL := [(.int p4), (.int p5)]) (rest := []) rfl rfl (by rw [hml]; rfl) (lenOf pd_0_3 rfl) (hb hby at_88) (W := 0) (Nat.le_of_eq rfl) (by decide) (by decide) (by decide) (by decide) ?_
      rintro v9 T9 L9 X9 ⟨rfl, M9, e9⟩
      have N9 := Fr.app N8 M9
      show own_Fin _ _ _ _ _ _ _ (T9.setTop (mkF m 91 #[.val (.int p0), .val (.int p1), .val (.int p2), .val (.int p3), .val (.int p4), .val (.int p5), .val (.int (p0 &&& (2147483647 : Int32))), .val (.int (p1 &&& (2147483647 : Int32))), .val (.int (own_f1 (p0 &&& (2147483647 : Int32)) (p2 &&& (2147483647 : Int32)))), .val (.int (own_f1 (p1 &&& (2147483647 : Int32)) (p3 &&& (2147483647 : Int32)))), .val (.ref b3), .val (.int (0 : Int32))] [(.int (own_f7 p4 p5 (p0 &&& (2147483647 : Int32)) (p1 &&& (2147483647 : Int32)) (own_f1 (p0 &&& (2147483647 : Int32)) (p2 &&& (2147483647 : Int32))) (own_f1 (p1 &&& (2147483647 : Int32)) (p3 &&& (2147483647 : Int32)))))]))
      refine own_go (fun _ k => XS.iload X9.here hx rfl (hb hby at_91) rfl k) ?_
      show own_Fin _ _ _ _ _ _ _ (T9.setTop (mkF m 93 #[.val (.int p0), .val (.int p1), .val (.int p2), .val (.int p3), .val (.int p4), .val (.int p5), .val (.int (p0 &&& (2147483647 : Int32))), .val (.int (p1 &&& (2147483647 : Int32))), .val (.int (own_f1 (p0 &&& (2147483647 : Int32)) (p2 &&& (2147483647 : Int32)))), .val (.int (own_f1 (p1 &&& (2147483647 : Int32)) (p3 &&& (2147483647 : Int32)))), .val (.ref b3), .val (.int (0 : Int32))] [(.int (0 : Int32)), (.int (own_f7 p4 p5 (p0 &&& (2147483647 : Int32)) (p1 &&& (2147483647 : Int32)) (own_f1 (p0 &&& (2147483647 : Int32)) (p2 &&& (2147483647 : Int32))) (own_f1 (p1 &&& (2147483647 : Int32)) (p3 &&& (2147483647 : Int32)))))]))
      by_cases hc93 : (own_f7 p4 p5 (p0 &&& (2147483647 : Int32)) (p1 &&& (2147483647 : Int32)) (own_f1 (p0 &&& (2147483647 : Int32)) (p2 &&& (2147483647 : Int32))) (own_f1 (p1 &&& (2147483647 : Int32)) (p3 &&& (2147483647 : Int32)))) = (0 : Int32)
      · refine own_go (fun _ k => XS.icmpNo X9.here hx rfl (hb hby at_93) rfl (XT.ii_ne_f hc93) k) ?_
        show own_Fin _ _ _ _ _ _ _ (T9.setTop (mkF m 96 #[.val (.int p0), .val (.int p1), .val (.int p2), .val (.int p3), .val (.int p4), .val (.int p5), .val (.int (p0 &&& (2147483647 : Int32))), .val (.int (p1 &&& (2147483647 : Int32))), .val (.int (own_f1 (p0 &&& (2147483647 : Int32)) (p2 &&& (2147483647 : Int32)))), .val (.int (own_f1 (p1 &&& (2147483647 : Int32)) (p3 &&& (2147483647 : Int32)))), .val (.ref b3), .val (.int (0 : Int32))] []))
        refine own_go (fun _ k => XS.iconst X9.here hx rfl (hb hby at_96) k) ?_
        show own_Fin _ _ _ _ _ _ _ (T9.setTop (mkF m 97 #[.val (.int p0), .val (.int p1), .val (.int p2), .val (.int p3), .val (.int p4), .val (.int p5), .val (.int (p0 &&& (2147483647 : Int32))), .val (.int (p1 &&& (2147483647 : Int32))), .val (.int (own_f1 (p0 &&& (2147483647 : Int32)) (p2 &&& (2147483647 : Int32)))), .val (.int (own_f1 (p1 &&& (2147483647 : Int32)) (p3 &&& (2147483647 : Int32)))), .val (.ref b3), .val (.int (0 : Int32))] [(.int (1 : Int32))]))
        refine own_go (fun _ k => XS.goto X9.here hx rfl (pc0 := 97) (pc' := 101) rfl (hb hby at_97) (by decide) (by decide) k) ?_
        show own_Fin _ _ _ _ _ _ _ (T9.setTop (mkF m 101 #[.val (.int p0), .val (.int p1), .val (.int p2), .val (.int p3), .val (.int p4), .val (.int p5), .val (.int (p0 &&& (2147483647 : Int32))), .val (.int (p1 &&& (2147483647 : Int32))), .val (.int (own_f1 (p0 &&& (2147483647 : Int32)) (p2 &&& (2147483647 : Int32)))), .val (.int (own_f1 (p1 &&& (2147483647 : Int32)) (p3 &&& (2147483647 : Int32)))), .val (.ref b3), .val (.int (0 : Int32))] [(.int (1 : Int32))]))
        exact own_retZ X9 hx hlk hret rfl (hb hby at_101) (by decide) (by decide) ⟨(by rw [own_f0, if_neg hc60, if_pos hc72, if_pos hc93]), N9⟩
      · refine own_go (fun _ k => XS.icmpYes X9.here hx rfl (pc0 := 93) (pc' := 100) rfl (hb hby at_93) rfl (XT.ii_ne_t hc93) (by decide) (by decide) k) ?_
        show own_Fin _ _ _ _ _ _ _ (T9.setTop (mkF m 100 #[.val (.int p0), .val (.int p1), .val (.int p2), .val (.int p3), .val (.int p4), .val (.int p5), .val (.int (p0 &&& (2147483647 : Int32))), .val (.int (p1 &&& (2147483647 : Int32))), .val (.int (own_f1 (p0 &&& (2147483647 : Int32)) (p2 &&& (2147483647 : Int32)))), .val (.int (own_f1 (p1 &&& (2147483647 : Int32)) (p3 &&& (2147483647 : Int32)))), .val (.ref b3), .val (.int (0 : Int32))] []))
        refine own_go (fun _ k => XS.iconst X9.here hx rfl (hb hby at_100) k) ?_
        show own_Fin _ _ _ _ _ _ _ (T9.setTop (mkF m 101 #[.val (.int p0), .val (.int p1), .val (.int p2), .val (.int p3), .val (.int p4), .val (.int p5), .val (.int (p0 &&& (2147483647 : Int32))), .val (.int (p1 &&& (2147483647 : Int32))), .val (.int (own_f1 (p0 &&& (2147483647 : Int32)) (p2 &&& (2147483647 : Int32)))), .val (.int (own_f1 (p1 &&& (2147483647 : Int32)) (p3 &&& (2147483647 : Int32)))), .val (.ref b3), .val (.int (0 : Int32))] [(.int (0 : Int32))]))
        exact own_retZ X9 hx hlk hret rfl (hb hby at_101) (by decide) (by decide) ⟨(by rw [own_f0, if_neg hc60, if_pos hc72, if_neg hc93]), N9⟩
    · refine own_go (fun _ k => XS.ifNo X8.here hx rfl (hb hby at_72) rfl (XT.i0_eq_f hc72) k) ?_
      show own_Fin _ _ _ _ _ _ _ (T8.setTop (mkF m 75 #[.val (.int p0), .val (.int p1), .val (.int p2), .val (.int p3), .val (.int p4), .val (.int p5), .val (.int (p0 &&& (2147483647 : Int32))), .val (.int (p1 &&& (2147483647 : Int32))), .val (.int (own_f1 (p0 &&& (2147483647 : Int32)) (p2 &&& (2147483647 : Int32)))), .val (.int (own_f1 (p1 &&& (2147483647 : Int32)) (p3 &&& (2147483647 : Int32)))), .val (.ref b3), .unset] []))
      refine own_go (fun _ k => XS.iconst X8.here hx rfl (hb hby at_75) k) ?_
      show own_Fin _ _ _ _ _ _ _ (T8.setTop (mkF m 76 #[.val (.int p0), .val (.int p1), .val (.int p2), .val (.int p3), .val (.int p4), .val (.int p5), .val (.int (p0 &&& (2147483647 : Int32))), .val (.int (p1 &&& (2147483647 : Int32))), .val (.int (own_f1 (p0 &&& (2147483647 : Int32)) (p2 &&& (2147483647 : Int32)))), .val (.int (own_f1 (p1 &&& (2147483647 : Int32)) (p3 &&& (2147483647 : Int32)))), .val (.ref b3), .unset] [(.int (1 : Int32))]))
      refine own_go (fun _ k => XS.goto X8.here hx rfl (pc0 := 76) (pc' := 80) rfl (hb hby at_76) (by decide) (by decide) k) ?_
      show own_Fin _ _ _ _ _ _ _ (T8.setTop (mkF m 80 #[.val (.int p0), .val (.int p1), .val (.int p2), .val (.int p3), .val (.int p4), .val (.int p5), .val (.int (p0 &&& (2147483647 : Int32))), .val (.int (p1 &&& (2147483647 : Int32))), .val (.int (own_f1 (p0 &&& (2147483647 : Int32)) (p2 &&& (2147483647 : Int32)))), .val (.int (own_f1 (p1 &&& (2147483647 : Int32)) (p3 &&& (2147483647 : Int32)))), .val (.ref b3), .unset] [(.int (1 : Int32))]))
      refine own_go (fun _ k => XS.istore X8.here hx rfl (hb hby at_80) rfl (l' := #[.val (.int p0), .val (.int p1), .val (.int p2), .val (.int p3), .val (.int p4), .val (.int p5), .val (.int (p0 &&& (2147483647 : Int32))), .val (.int (p1 &&& (2147483647 : Int32))), .val (.int (own_f1 (p0 &&& (2147483647 : Int32)) (p2 &&& (2147483647 : Int32)))), .val (.int (own_f1 (p1 &&& (2147483647 : Int32)) (p3 &&& (2147483647 : Int32)))), .val (.ref b3), .val (.int (1 : Int32))]) rfl k) ?_
      show own_Fin _ _ _ _ _ _ _ (T8.setTop (mkF m 82 #[.val (.int p0), .val (.int p1), .val (.int p2), .val (.int p3), .val (.int p4), .val (.int p5), .val (.int (p0 &&& (2147483647 : Int32))), .val (.int (p1 &&& (2147483647 : Int32))), .val (.int (own_f1 (p0 &&& (2147483647 : Int32)) (p2 &&& (2147483647 : Int32)))), .val (.int (own_f1 (p1 &&& (2147483647 : Int32)) (p3 &&& (2147483647 : Int32)))), .val (.ref b3), .val (.int (1 : Int32))] []))
      refine own_go (fun _ k => XS.aload X8.here hx rfl (hb hby at_82) rfl rfl k) ?_
      show own_Fin _ _ _ _ _ _ _ (T8.setTop (mkF m 84 #[.val (.int p0), .val (.int p1), .val (.int p2), .val (.int p3), .val (.int p4), .val (.int p5), .val (.int (p0 &&& (2147483647 : Int32))), .val (.int (p1 &&& (2147483647 : Int32))), .val (.int (own_f1 (p0 &&& (2147483647 : Int32)) (p2 &&& (2147483647 : Int32)))), .val (.int (own_f1 (p1 &&& (2147483647 : Int32)) (p3 &&& (2147483647 : Int32)))), .val (.ref b3), .val (.int (1 : Int32))] [(.ref b3)]))
      refine own_go (fun _ k => XS.iload X8.here hx rfl (hb hby at_84) rfl k) ?_
      show own_Fin _ _ _ _ _ _ _ (T8.setTop (mkF m 86 #[.val (.int p0), .val (.int p1), .val (.int p2), .val (.int p3), .val (.int p4), .val (.int p5), .val (.int (p0 &&& (2147483647 : Int32))), .val (.int (p1 &&& (2147483647 : Int32))), .val (.int (own_f1 (p0 &&& (2147483647 : Int32)) (p2 &&& (2147483647 : Int32)))), .val (.int (own_f1 (p1 &&& (2147483647 : Int32)) (p3 &&& (2147483647 : Int32)))), .val (.ref b3), .val (.int (1 : Int32))] [(.int p4), (.ref b3)]))
      refine own_go (fun _ k => XS.iload X8.here hx rfl (hb hby at_86) rfl k) ?_
      show own_Fin _ _ _ _ _ _ _ (T8.setTop (mkF m 88 #[.val (.int p0), .val (.int p1), .val (.int p2), .val (.int p3), .val (.int p4), .val (.int p5), .val (.int (p0 &&& (2147483647 : Int32))), .val (.int (p1 &&& (2147483647 : Int32))), .val (.int (own_f1 (p0 &&& (2147483647 : Int32)) (p2 &&& (2147483647 : Int32)))), .val (.int (own_f1 (p1 &&& (2147483647 : Int32)) (p3 &&& (2147483647 : Int32)))), .val (.ref b3), .val (.int (1 : Int32))] [(.int p5), (.int p4), (.ref b3)]))
      refine own_callV X8 hx hZ hown (hw _ (List.mem_of_getElem? (i := 34) rfl)) (hw _ (List.mem_of_getElem? (i := 35) rfl)) (notFace_of_selects (args := #[]) (mvT hZ (hw _ (List.mem_of_getElem? (i := 37) rfl)))) (hw _ (List.mem_of_getElem? (i := 37) rfl)) (hw _ (List.mem_of_getElem? (i := 36) rfl)) (hw _ (List.mem_of_getElem? (i := 38) rfl)) (hw _ (List.mem_of_getElem? (i := 7) rfl)) (by decide) (rm7 l Z a0 hw b3 p4 p5 T4.heap n0 Z4 (p0 &&& (2147483647 : Int32)) (p1 &&& (2147483647 : Int32)) (own_f1 (p0 &&& (2147483647 : Int32)) (p2 &&& (2147483647 : Int32))) (own_f1 (p1 &&& (2147483647 : Int32)) (p3 &&& (2147483647 : Int32))) Fc4_x0 Fc4_y0 Fc4_x1 Fc4_y1) e8 f5 (argsL := [(.int p4), (.int p5)]) (rest := []) rfl rfl (by rw [hml]; rfl) (lenOf pd_0_3 rfl) (hb hby at_88) (W := 0) (Nat.le_of_eq rfl) (by decide) (by decide) (by decide) (by decide) ?_
      rintro v10 T10 L10 X10 ⟨rfl, M10, e10⟩
      have N10 := Fr.app N8 M10
      show own_Fin _ _ _ _ _ _ _ (T10.setTop (mkF m 91 #[.val (.int p0), .val (.int p1), .val (.int p2), .val (.int p3), .val (.int p4), .val (.int p5), .val (.int (p0 &&& (2147483647 : Int32))), .val (.int (p1 &&& (2147483647 : Int32))), .val (.int (own_f1 (p0 &&& (2147483647 : Int32)) (p2 &&& (2147483647 : Int32)))), .val (.int (own_f1 (p1 &&& (2147483647 : Int32)) (p3 &&& (2147483647 : Int32)))), .val (.ref b3), .val (.int (1 : Int32))] [(.int (own_f7 p4 p5 (p0 &&& (2147483647 : Int32)) (p1 &&& (2147483647 : Int32)) (own_f1 (p0 &&& (2147483647 : Int32)) (p2 &&& (2147483647 : Int32))) (own_f1 (p1 &&& (2147483647 : Int32)) (p3 &&& (2147483647 : Int32)))))]))
      refine own_go (fun _ k => XS.iload X10.here hx rfl (hb hby at_91) rfl k) ?_
      show own_Fin _ _ _ _ _ _ _ (T10.setTop (mkF m 93 #[.val (.int p0), .val (.int p1), .val (.int p2), .val (.int p3), .val (.int p4), .val (.int p5), .val (.int (p0 &&& (2147483647 : Int32))), .val (.int (p1 &&& (2147483647 : Int32))), .val (.int (own_f1 (p0 &&& (2147483647 : Int32)) (p2 &&& (2147483647 : Int32)))), .val (.int (own_f1 (p1 &&& (2147483647 : Int32)) (p3 &&& (2147483647 : Int32)))), .val (.ref b3), .val (.int (1 : Int32))] [(.int (1 : Int32)), (.int (own_f7 p4 p5 (p0 &&& (2147483647 : Int32)) (p1 &&& (2147483647 : Int32)) (own_f1 (p0 &&& (2147483647 : Int32)) (p2 &&& (2147483647 : Int32))) (own_f1 (p1 &&& (2147483647 : Int32)) (p3 &&& (2147483647 : Int32)))))]))
      by_cases hc93 : (own_f7 p4 p5 (p0 &&& (2147483647 : Int32)) (p1 &&& (2147483647 : Int32)) (own_f1 (p0 &&& (2147483647 : Int32)) (p2 &&& (2147483647 : Int32))) (own_f1 (p1 &&& (2147483647 : Int32)) (p3 &&& (2147483647 : Int32)))) = (1 : Int32)
      · refine own_go (fun _ k => XS.icmpNo X10.here hx rfl (hb hby at_93) rfl (XT.ii_ne_f hc93) k) ?_
        show own_Fin _ _ _ _ _ _ _ (T10.setTop (mkF m 96 #[.val (.int p0), .val (.int p1), .val (.int p2), .val (.int p3), .val (.int p4), .val (.int p5), .val (.int (p0 &&& (2147483647 : Int32))), .val (.int (p1 &&& (2147483647 : Int32))), .val (.int (own_f1 (p0 &&& (2147483647 : Int32)) (p2 &&& (2147483647 : Int32)))), .val (.int (own_f1 (p1 &&& (2147483647 : Int32)) (p3 &&& (2147483647 : Int32)))), .val (.ref b3), .val (.int (1 : Int32))] []))
        refine own_go (fun _ k => XS.iconst X10.here hx rfl (hb hby at_96) k) ?_
        show own_Fin _ _ _ _ _ _ _ (T10.setTop (mkF m 97 #[.val (.int p0), .val (.int p1), .val (.int p2), .val (.int p3), .val (.int p4), .val (.int p5), .val (.int (p0 &&& (2147483647 : Int32))), .val (.int (p1 &&& (2147483647 : Int32))), .val (.int (own_f1 (p0 &&& (2147483647 : Int32)) (p2 &&& (2147483647 : Int32)))), .val (.int (own_f1 (p1 &&& (2147483647 : Int32)) (p3 &&& (2147483647 : Int32)))), .val (.ref b3), .val (.int (1 : Int32))] [(.int (1 : Int32))]))
        refine own_go (fun _ k => XS.goto X10.here hx rfl (pc0 := 97) (pc' := 101) rfl (hb hby at_97) (by decide) (by decide) k) ?_
        show own_Fin _ _ _ _ _ _ _ (T10.setTop (mkF m 101 #[.val (.int p0), .val (.int p1), .val (.int p2), .val (.int p3), .val (.int p4), .val (.int p5), .val (.int (p0 &&& (2147483647 : Int32))), .val (.int (p1 &&& (2147483647 : Int32))), .val (.int (own_f1 (p0 &&& (2147483647 : Int32)) (p2 &&& (2147483647 : Int32)))), .val (.int (own_f1 (p1 &&& (2147483647 : Int32)) (p3 &&& (2147483647 : Int32)))), .val (.ref b3), .val (.int (1 : Int32))] [(.int (1 : Int32))]))
        exact own_retZ X10 hx hlk hret rfl (hb hby at_101) (by decide) (by decide) ⟨(by rw [own_f0, if_neg hc60, if_neg hc72, if_pos hc93]), N10⟩
      · refine own_go (fun _ k => XS.icmpYes X10.here hx rfl (pc0 := 93) (pc' := 100) rfl (hb hby at_93) rfl (XT.ii_ne_t hc93) (by decide) (by decide) k) ?_
        show own_Fin _ _ _ _ _ _ _ (T10.setTop (mkF m 100 #[.val (.int p0), .val (.int p1), .val (.int p2), .val (.int p3), .val (.int p4), .val (.int p5), .val (.int (p0 &&& (2147483647 : Int32))), .val (.int (p1 &&& (2147483647 : Int32))), .val (.int (own_f1 (p0 &&& (2147483647 : Int32)) (p2 &&& (2147483647 : Int32)))), .val (.int (own_f1 (p1 &&& (2147483647 : Int32)) (p3 &&& (2147483647 : Int32)))), .val (.ref b3), .val (.int (1 : Int32))] []))
        refine own_go (fun _ k => XS.iconst X10.here hx rfl (hb hby at_100) k) ?_
        show own_Fin _ _ _ _ _ _ _ (T10.setTop (mkF m 101 #[.val (.int p0), .val (.int p1), .val (.int p2), .val (.int p3), .val (.int p4), .val (.int p5), .val (.int (p0 &&& (2147483647 : Int32))), .val (.int (p1 &&& (2147483647 : Int32))), .val (.int (own_f1 (p0 &&& (2147483647 : Int32)) (p2 &&& (2147483647 : Int32)))), .val (.int (own_f1 (p1 &&& (2147483647 : Int32)) (p3 &&& (2147483647 : Int32)))), .val (.ref b3), .val (.int (1 : Int32))] [(.int (0 : Int32))]))
        exact own_retZ X10 hx hlk hret rfl (hb hby at_101) (by decide) (by decide) ⟨(by rw [own_f0, if_neg hc60, if_neg hc72, if_neg hc93]), N10⟩

theorem own_cl (v lo hi : Int32) (h : ¬ hi < lo) : own_f5 v lo hi = if v < lo then 0 else if hi < v then 0 else 1 := by
  unfold own_f5 own_f1 own_f6
  simp only [Int32.lt_iff_toInt_lt, ← Int32.toInt_inj] at *
  repeat' (first | rfl | (exfalso; omega) | split)
theorem own_law (a b c d x y : Int32) : own_f0 a b c d x y = 1 := by
  unfold own_f0
  rw [own_cl _ _ _ (own_mx _ _), own_cl _ _ _ (own_mx _ _)]
  unfold own_f7
  generalize (a &&& (2147483647 : Int32)) = x0
  generalize (b &&& (2147483647 : Int32)) = y0
  generalize own_f1 x0 _ = x1
  generalize own_f1 y0 _ = y1
  by_cases h1 : x < x0 <;> by_cases h2 : x1 < x <;> by_cases h3 : y < y0 <;> by_cases h4 : y1 < y <;> simp [h1, h2, h3, h4]

set_option maxRecDepth 65536 in
set_option maxHeartbeats 40000000 in
theorem comes_1 {Post : Tables → Env → Array Value → State → Outcome → State → Prop} (hpost : ∀ tb e args s v u, (limb_1_1.after args s (.returned v) u = true ∧ limb_1_2.after args s (.returned v) u = true ∧ True) → FrameEnd s (.returned v) u (Jvm.fieldLocs frame_1_writes args s ++ Jvm.arrayLocs frame_1_arrays args s ++ Jvm.staticLocs frame_1_statics s) 16 128 → Post tb e args s (.returned v) u) :
    ArmFor flags0 classFile x code maxLocals ret World_1 tables_1 room_1 Calls_1 rest_1 Pre_1 Post := by
  intro l hfl _ _ p e ha hc hk s m args below hf hA hF happ hP
  obtain ⟨hcalls, hrest, hpre⟩ := hP
  obtain ⟨-, -, -, hnamed, -, -, -, hat⟩ := (Spec.applies_iff hf).mp happ
  obtain ⟨hg, hn⟩ := and_e (Cond.before_iff.mp (show (Jvm.Cond.and given_1 narrow_1).before args s = true from hpre))
  obtain ⟨gg1, gg2⟩ := and_e hg
  obtain ⟨gg3, gg4⟩ := and_e gg2
  obtain ⟨gg5, gg6⟩ := and_e gg4
  obtain ⟨gg7, gg8⟩ := and_e gg6
  obtain ⟨gg9, gg10⟩ := and_e gg8
  obtain ⟨gg11, gg12⟩ := and_e gg10
  obtain ⟨w0, w1, w2, w3, w4, w5, rfl⟩ : ∃ w0 w1 w2 w3 w4 w5 : Value, args = #[w0, w1, w2, w3, w4, w5] := by
    have hs : args.size = 6 := by simpa [Cond.value, given_1] using gg1
    obtain ⟨L⟩ := args
    match L, hs with
    | [w0, w1, w2, w3, w4, w5], _ => exact ⟨w0, w1, w2, w3, w4, w5, rfl⟩
  have hw := fun d (hd : d ∈ tables_1) => atoms_spec (ws := Jvm.Cond.code x code maxLocals ret :: tables_1) hat d (List.mem_cons_of_mem _ hd)
  have hfit : Fit s := fun {y c} hc i hi => by
    obtain ⟨ha, rfl⟩ := Array.getElem?_eq_some_iff.mp hc
    have q := List.all_eq_true.mp ((Array.all_eq_true_iff_forall_mem.mp hF) _ (Array.getElem_mem ha)) i (List.mem_range.mpr hi)
    simpa [Array.getElem?_eq_getElem hi] using q
  obtain ⟨i0, ei0⟩ := is_v gg3
  obtain rfl : w0 = (.int i0) := Option.some.inj ei0
  obtain ⟨i1, ei1⟩ := is_v gg5
  obtain rfl : w1 = (.int i1) := Option.some.inj ei1
  obtain ⟨i2, ei2⟩ := is_v gg7
  obtain rfl : w2 = (.int i2) := Option.some.inj ei2
  obtain ⟨i3, ei3⟩ := is_v gg9
  obtain rfl : w3 = (.int i3) := Option.some.inj ei3
  obtain ⟨i4, ei4⟩ := is_v gg11
  obtain rfl : w4 = (.int i4) := Option.some.inj ei4
  obtain ⟨i5, ei5⟩ := is_v gg12
  obtain rfl : w5 = (.int i5) := Option.some.inj ei5
  obtain ⟨n, o, h1, h2, h3, _, L, rfl, ⟨rfl, N⟩, hq⟩ := rm0 l s _ hw i0 i1 i2 i3 i4 i5 s.heap s.heap.size (Nat.le_refl _)  p e ha hc hk s m _ below hf ((Spec.applies_iff_loose hf).mp happ).1 ⟨rfl, State.Warmed39.refl s, rfl⟩ trivial
  refine ⟨n, _, h1, h2, h3, hpost _ _ _ _ _ _ ⟨Cond.after_iff.mpr rfl, Cond.after_iff.mpr (eq_i res_at (Term.int_eval (1)) (congrArg Value.int (own_law _ _ _ _ _ _))), trivial⟩ ⟨hq.1, hq.2.1, (hq.2.2.sift fun y hy => Or.inr (N y hy)).mono (by decide) (by decide)⟩⟩
theorem main_1_1 : Claimed_1_1 := comes_1 fun _ _ _ _ _ _ h hF => ⟨h.1, hF⟩
theorem main_1_2 : Claimed_1_2 := comes_1 fun _ _ _ _ _ _ h hF => ⟨h.2.1, hF⟩

end Jvm.Pilot.@@N@@
namespace Jvm.Pilot.@@N@@
open Jvm Jvm.ClassFile Sem Op Lib Jvm.Free Jvm.Stand Jvm.Pilot.@@N@@.Jvm.D
/-! MADE BY PROGRAM (witnessworld.py) out of the Statement's table words and the real class files: 11 classes; the members and pool entries that the words name. The judged class is class 1, her method 2. -/
namespace start1
open Jvm.ClassFile
def u (s : String) : CpInfo := .utf8 (stringToUtf16 s)
/-- a pool by its gaps: so many unusable entries, then the entry; so many at the end -/
def gap : Nat → List CpInfo → List CpInfo
  | 0, r => r
  | n + 1, r => .unusable :: gap n r
def poolList (es : List (Nat × CpInfo)) (last : Nat) : List CpInfo := es.foldr (fun e r => gap e.1 (e.2 :: r)) (gap last [])
def pool (es : List (Nat × CpInfo)) (last : Nat) : Array CpInfo := ⟨poolList es last⟩
def fileOf (pool : Array CpInfo) (this : Nat) (attrs : Array Attribute := #[]) (ms : Array MethodInfo := #[]) (fl : Nat := 33) (sup : Nat := 0) (ifs : Array Nat := #[]) (fds : Array FieldInfo := #[]) : ClassFile where
  minorVersion := 0
  majorVersion := 65
  constantPool := pool
  accessFlags := fl
  thisClass := this
  superClass := sup
  interfaces := ifs
  fields := fds
  methods := ms
  attributes := attrs
def plain (name : String) (sup : Option ClassId) : Class where
  name := name
  kind := .ordinary
  loader := none
  accessFlags := 33
  super := sup
  interfaces := #[]
  cf := none
  fields := #[]
  methods := #[]
  instanceTypes := #[]
  staticTypes := #[]
  resolved := #[]
  callSites := []
  init := .initialized
  statics := none
  mirror := none

def pool0 : Array CpInfo := pool [(5, u "<init>"), (0, u "()V"), (1, .class_ 10), (1, u "java/lang/Object")] 113

def k0c0 : Code := { maxStack := 0, maxLocals := 1, code := object_method_1_code, exceptionTable := #[], attributes := #[] }
def k0m0 : Method := { name := "<init>", desc := "()V", sig := { parameters := [], returnType := none }, accessFlags := 1, code := some k0c0 }
/-- java/lang/Object -/
def k0 : Class := { plain "java/lang/Object" none with
  accessFlags := 33
  interfaces := #[]
  cf := some (fileOf pool0 8 #[] #[{ accessFlags := 1, nameIndex := 5, descriptorIndex := 6, attributes := #[] }] 33 0 #[] #[])
  fields := #[]
  methods := #[k0m0]
  instanceTypes := #[]
  staticTypes := #[]
  resolved := Array.replicate 124 none
  statics := none }

def pool1 : Array CpInfo := pool [(2, .class_ 4), (1, u "java/lang/Object"), (0, u "<init>"), (0, u "()V"), (0, .methodref 8 9), (0, .class_ 10), (0, .nameAndType 11 12), (0, u "java/lang/Math"), (0, u "max"), (0, u "(II)I"), (0, .methodref 8 14), (0, .nameAndType 15 12), (0, u "min"), (0, .integer 2147483647), (0, .class_ 18), (0, u "com/example/onda/onda/hillclimb/Area"), (0, .methodref 17 20), (0, .nameAndType 5 21), (0, u "(IIII)V"), (0, .methodref 23 24), (0, .class_ 25), (0, .nameAndType 26 27), (0, u "com/example/onda/onda/hillclimb/AreaContainsPinLaw"), (0, u "staysWhenClamped"), (0, u "(III)Z"), (0, .methodref 17 29), (0, .nameAndType 30 31), (0, u "contains"), (0, u "(II)Z"), (3, u "law"), (0, u "(IIIIII)Z")] 2

def k1m0 : Method := { name := "<init>", desc := "()V", sig := { parameters := [], returnType := none }, accessFlags := 1, code := none }
def k1c1 : Code := { maxStack := 2, maxLocals := 3, code := method_2_code, exceptionTable := #[], attributes := #[] }
def k1m1 : Method := { name := "staysWhenClamped", desc := "(III)Z", sig := { parameters := [.int, .int, .int], returnType := some .boolean }, accessFlags := 10, code := some k1c1 }
def k1c2 : Code := { maxStack := 6, maxLocals := 12, code := code, exceptionTable := #[], attributes := #[] }
def k1m2 : Method := { name := "law", desc := "(IIIIII)Z", sig := { parameters := [.int, .int, .int, .int, .int, .int], returnType := some .boolean }, accessFlags := 9, code := some k1c2 }
/-- com/example/onda/onda/hillclimb/AreaContainsPinLaw -/
def k1 : Class := { plain "com/example/onda/onda/hillclimb/AreaContainsPinLaw" (some 0) with
  accessFlags := 49
  interfaces := #[]
  cf := some (fileOf pool1 23 #[] #[{ accessFlags := 1, nameIndex := 5, descriptorIndex := 6, attributes := #[] }, { accessFlags := 10, nameIndex := 26, descriptorIndex := 27, attributes := #[] }, { accessFlags := 9, nameIndex := 35, descriptorIndex := 36, attributes := #[] }] 49 2 #[] #[])
  fields := #[]
  methods := #[k1m0, k1m1, k1m2]
  instanceTypes := #[]
  staticTypes := #[]
  resolved := Array.replicate 39 none
  statics := none }

def pool2 : Array CpInfo := pool [(1, .class_ 2), (0, u "java/lang/Math"), (1, .class_ 6), (1, u "java/lang/Object"), (0, u "<init>"), (0, u "()V"), (89, .class_ 100), (1, u "java/lang/Math$RandomNumberGeneratorHolder"), (71, u "negativeZeroFloatBits"), (0, u "J"), (2, u "negativeZeroDoubleBits"), (21, u "max"), (2, u "min"), (43, u "$assertionsDisabled"), (0, u "Z"), (88, u "(II)I"), (2, u "twoToTheDoubleScaleDown"), (0, u "D"), (4, u "twoToTheDoubleScaleUp"), (9, u "E"), (3, u "PI"), (2, u "TAU"), (2, u "DEGREES_TO_RADIANS"), (0, u "RADIANS_TO_DEGREES")] 94

def k2m0 : Method := { name := "<init>", desc := "()V", sig := { parameters := [], returnType := none }, accessFlags := 2, code := none }
def k2c1 : Code := { maxStack := 2, maxLocals := 2, code := jdk_29_method_65_code, exceptionTable := #[], attributes := #[] }
def k2m1 : Method := { name := "max", desc := "(II)I", sig := { parameters := [.int, .int], returnType := some .int }, accessFlags := 9, code := some k2c1 }
def k2c2 : Code := { maxStack := 2, maxLocals := 2, code := jdk_29_method_69_code, exceptionTable := #[], attributes := #[] }
def k2m2 : Method := { name := "min", desc := "(II)I", sig := { parameters := [.int, .int], returnType := some .int }, accessFlags := 9, code := some k2c2 }
/-- java/lang/Math -/
def k2 : Class := { plain "java/lang/Math" (some 0) with
  accessFlags := 49
  interfaces := #[]
  cf := some (fileOf pool2 1 #[.nestMembers #[98]] #[{ accessFlags := 2, nameIndex := 7, descriptorIndex := 8, attributes := #[] }, { accessFlags := 9, nameIndex := 198, descriptorIndex := 335, attributes := #[] }, { accessFlags := 9, nameIndex := 201, descriptorIndex := 335, attributes := #[] }] 49 4 #[] #[{ accessFlags := 25, nameIndex := 354, descriptorIndex := 339, attributes := #[] }, { accessFlags := 25, nameIndex := 358, descriptorIndex := 339, attributes := #[] }, { accessFlags := 25, nameIndex := 361, descriptorIndex := 339, attributes := #[] }, { accessFlags := 26, nameIndex := 364, descriptorIndex := 339, attributes := #[] }, { accessFlags := 26, nameIndex := 365, descriptorIndex := 339, attributes := #[] }, { accessFlags := 26, nameIndex := 172, descriptorIndex := 173, attributes := #[] }, { accessFlags := 26, nameIndex := 176, descriptorIndex := 173, attributes := #[] }, { accessFlags := 8, nameIndex := 344, descriptorIndex := 339, attributes := #[] }, { accessFlags := 8, nameIndex := 338, descriptorIndex := 339, attributes := #[] }, { accessFlags := 4120, nameIndex := 245, descriptorIndex := 246, attributes := #[] }])
  fields := #[{ name := "E", type := .double, accessFlags := 25, slot := 0, constantValue := 0 }, { name := "PI", type := .double, accessFlags := 25, slot := 1, constantValue := 0 }, { name := "TAU", type := .double, accessFlags := 25, slot := 2, constantValue := 0 }, { name := "DEGREES_TO_RADIANS", type := .double, accessFlags := 26, slot := 3, constantValue := 0 }, { name := "RADIANS_TO_DEGREES", type := .double, accessFlags := 26, slot := 4, constantValue := 0 }, { name := "negativeZeroFloatBits", type := .long, accessFlags := 26, slot := 5, constantValue := 0 }, { name := "negativeZeroDoubleBits", type := .long, accessFlags := 26, slot := 6, constantValue := 0 }, { name := "twoToTheDoubleScaleUp", type := .double, accessFlags := 8, slot := 7, constantValue := 0 }, { name := "twoToTheDoubleScaleDown", type := .double, accessFlags := 8, slot := 8, constantValue := 0 }, { name := "$assertionsDisabled", type := .boolean, accessFlags := 4120, slot := 9, constantValue := 0 }]
  methods := #[k2m0, k2m1, k2m2]
  instanceTypes := #[]
  staticTypes := #[.double, .double, .double, .double, .double, .long, .long, .double, .double, .boolean]
  resolved := Array.replicate 460 none
  statics := none }

def pool3 : Array CpInfo := pool [(1, .methodref 2 3), (0, .class_ 4), (0, .nameAndType 5 6), (0, u "java/lang/Object"), (0, u "<init>"), (0, u "()V"), (0, .class_ 8), (0, u "java/lang/Record")] 13

def k3c0 : Code := { maxStack := 1, maxLocals := 1, code := jdk_30_method_1_code, exceptionTable := #[], attributes := #[] }
def k3m0 : Method := { name := "<init>", desc := "()V", sig := { parameters := [], returnType := none }, accessFlags := 4, code := some k3c0 }
/-- java/lang/Record -/
def k3 : Class := { plain "java/lang/Record" (some 0) with
  accessFlags := 1057
  interfaces := #[]
  cf := some (fileOf pool3 7 #[] #[{ accessFlags := 4, nameIndex := 5, descriptorIndex := 6, attributes := #[] }] 1057 2 #[] #[])
  fields := #[]
  methods := #[k3m0]
  instanceTypes := #[]
  staticTypes := #[]
  resolved := Array.replicate 22 none
  statics := none }

def pool4 : Array CpInfo := pool [(1, .methodref 2 3), (0, .class_ 4), (0, .nameAndType 5 6), (0, u "java/lang/Record"), (0, u "<init>"), (0, u "()V"), (9, .fieldref 17 18), (0, .class_ 19), (0, .nameAndType 20 21), (0, u "com/example/onda/onda/hillclimb/Area"), (0, u "x0"), (0, u "I"), (0, .fieldref 17 23), (0, .nameAndType 24 21), (0, u "y0"), (0, .fieldref 17 26), (0, .nameAndType 27 21), (0, u "x1"), (0, .fieldref 17 29), (0, .nameAndType 30 21), (0, u "y1"), (13, u "(IIII)V"), (6, u "contains"), (0, u "(II)Z")] 36

def k4c0 : Code := { maxStack := 6, maxLocals := 5, code := prog_11_method_1_code, exceptionTable := #[], attributes := #[] }
def k4m0 : Method := { name := "<init>", desc := "(IIII)V", sig := { parameters := [.int, .int, .int, .int], returnType := none }, accessFlags := 1, code := some k4c0 }
def k4c1 : Code := { maxStack := 2, maxLocals := 3, code := prog_11_method_4_code, exceptionTable := #[], attributes := #[] }
def k4m1 : Method := { name := "contains", desc := "(II)Z", sig := { parameters := [.int, .int], returnType := some .boolean }, accessFlags := 1, code := some k4c1 }
/-- com/example/onda/onda/hillclimb/Area -/
def k4 : Class := { plain "com/example/onda/onda/hillclimb/Area" (some 3) with
  accessFlags := 49
  interfaces := #[]
  cf := some (fileOf pool4 17 #[] #[{ accessFlags := 1, nameIndex := 5, descriptorIndex := 44, attributes := #[] }, { accessFlags := 1, nameIndex := 51, descriptorIndex := 52, attributes := #[] }] 49 2 #[] #[{ accessFlags := 18, nameIndex := 20, descriptorIndex := 21, attributes := #[] }, { accessFlags := 18, nameIndex := 24, descriptorIndex := 21, attributes := #[] }, { accessFlags := 18, nameIndex := 27, descriptorIndex := 21, attributes := #[] }, { accessFlags := 18, nameIndex := 30, descriptorIndex := 21, attributes := #[] }])
  fields := #[{ name := "x0", type := .int, accessFlags := 18, slot := 0, constantValue := 0 }, { name := "y0", type := .int, accessFlags := 18, slot := 1, constantValue := 0 }, { name := "x1", type := .int, accessFlags := 18, slot := 2, constantValue := 0 }, { name := "y1", type := .int, accessFlags := 18, slot := 3, constantValue := 0 }]
  methods := #[k4m0, k4m1]
  instanceTypes := #[.int, .int, .int, .int]
  staticTypes := #[]
  resolved := Array.replicate 89 none
  statics := none }

def pool5 : Array CpInfo := pool [(1, u "java/lang/Cloneable"), (0, .class_ 1), (0, u "java/lang/Object"), (0, .class_ 3)] 3

/-- java/lang/Cloneable -/
def k5 : Class := { plain "java/lang/Cloneable" (some 0) with
  accessFlags := 1537
  interfaces := #[]
  cf := some (fileOf pool5 2 #[] #[] 1537 4 #[] #[])
  fields := #[]
  methods := #[]
  instanceTypes := #[]
  staticTypes := #[]
  resolved := Array.replicate 8 none
  statics := none }

def pool6 : Array CpInfo := pool [(1, u "java/io/Serializable"), (0, .class_ 1), (0, u "java/lang/Object"), (0, .class_ 3)] 3

/-- java/io/Serializable -/
def k6 : Class := { plain "java/io/Serializable" (some 0) with
  accessFlags := 1537
  interfaces := #[]
  cf := some (fileOf pool6 2 #[] #[] 1537 4 #[] #[])
  fields := #[]
  methods := #[]
  instanceTypes := #[]
  staticTypes := #[]
  resolved := Array.replicate 8 none
  statics := none }

/-- the primitive byte -/
def k7 : Class := { plain "byte" none with kind := .primitive 'B', accessFlags := 0x411 }
/-- [B -/
def k8 : Class := { plain "[B" (some 0) with kind := .array 7 .byte, interfaces := #[5, 6], accessFlags := 1041 }

/-- the primitive int -/
def k9 : Class := { plain "int" none with kind := .primitive 'I', accessFlags := 0x411 }
/-- [I -/
def k10 : Class := { plain "[I" (some 0) with kind := .array 9 .int, interfaces := #[5, 6], accessFlags := 1041 }

def heap : Heap := #[]
def classes : Array Class := #[k0, k1, k2, k3, k4, k5, k6, k7, k8, k9, k10]
def interned : List (Array UInt16 × Addr) := []
def slotsUsed : Nat := 0
def theMethod : MethodId := ⟨1, 2⟩
def args0 : Array Value := #[.int 5, .int 3, .int 7, .int 9, .int 6, .int 4]
def aboutOver (below : List Frame) : State where
  vm := { classes := classes, interned := interned.toArray }
  heap := heap
  slotsUsed := slotsUsed
  threads := #[{ frames := .invoking theMethod args0 :: below }]
def below0 : List Frame := [.native { method := ⟨0, 0⟩, args := #[] }]
def about1 : State := aboutOver below0
def p0 : Program := .bare "" "" ""
def e0 : Env := launch0.env 0 0 0
theorem w_frames : about1.frames = Frame.invoking theMethod args0 :: below0 := rfl
set_option maxRecDepth 65536 in
theorem w_args : argsFit about1.vm theMethod args0 = true := by decide +kernel
set_option maxRecDepth 65536 in
theorem w_heap : heapFits about1 = true := by decide +kernel
set_option maxRecDepth 65536 in
theorem w_runnable : about1.curStatus? = some .runnable := by decide +kernel
set_option maxRecDepth 65536 in
theorem w_alone : about1.alone = true := by decide +kernel
set_option maxRecDepth 65536 in
theorem w_named : about1.methodNamed? x = some theMethod := by decide +kernel
set_option maxRecDepth 65536 in
theorem w_hears : about1.hears theMethod below0 = true := by decide +kernel
set_option maxRecDepth 65536 in
theorem w_ripe : about1.ripe theMethod args0 below0 = true := by decide +kernel
theorem w_running : about1.status = .running := rfl
set_option maxRecDepth 65536 in
theorem w_room : about1.hasRoom e0.platform room_1 = true :=
  launch0.hasRoom_least _ room_1 (by decide +kernel) (by decide +kernel) (by decide +kernel) (by decide +kernel) (by decide +kernel) (by decide +kernel)
theorem allAtoms_all (ts : List Jvm.Cond) (a : Array Jvm.Value) (st : Jvm.State) : (allAtoms ts).before a st = ts.all (fun c => c.before a st) := by
  induction ts with
  | nil => rfl
  | cons c t ih =>
    show (Jvm.Cond.and c (allAtoms t)).before a st = _
    rw [Jvm.Cond.before_and, ih, List.all_cons]
def words1 : List Jvm.Cond := Jvm.Cond.code x code maxLocals ret :: tables_1
/-- a 'code' word, met by the world's own term for the bytes: nothing is compared byte by byte -/
theorem code_word {y : MethodName} {bytes : ByteArray} {mx : Nat} {rt : Option FieldType} {a : Array Value} {s : State} {m : MethodId} {meth : Method} {c : Code} (h1 : s.methodNamed? y = some m) (h2 : s.vm.method? m = some meth) (h3 : meth.code = some c) (h4 : c.code = bytes)
    (h5 : (c.maxLocals == mx && c.exceptionTable.isEmpty && decide (c.maxStack ≤ mostOperands) && decide (meth.sig.returnType = rt) && !meth.locks && decide (parseMethodDescriptor y.desc = some meth.sig)) = true) : (Jvm.Cond.code y bytes mx rt).before a s = true := by
  simp only [Bool.and_eq_true, beq_iff_eq, Bool.not_eq_true', decide_eq_true_eq] at h5
  obtain ⟨⟨⟨⟨⟨g1, g2⟩, g3⟩, g4⟩, g5⟩, g6⟩ := h5
  simp [Cond.before, Cond.holds, Cond.value, h1, h2, h3, h4, g1, g2, g3, g4, g5, g6]
def isCode : Jvm.Cond → Bool
  | .code _ _ _ _ => true
  | _ => false
theorem all_split {L : List Jvm.Cond} {P : Jvm.Cond → Bool} (h1 : L.all (fun c => isCode c || P c) = true) (h2 : ∀ c ∈ L.filter isCode, P c = true) : L.all P = true := by
  refine List.all_eq_true.mpr fun c hc => ?_
  have h := List.all_eq_true.mp h1 c hc
  rcases Bool.eq_false_or_eq_true (isCode c) with hi | hi
  · exact h2 c (List.mem_filter.mpr ⟨hc, hi⟩)
  · simpa [hi] using h
set_option maxRecDepth 65536 in
theorem w_c0 : (Jvm.Cond.code x code maxLocals ret).before args0 about1 = true := code_word (m := ⟨1, 2⟩) (meth := k1m2) (c := k1c2) (by decide +kernel) rfl rfl rfl (by decide +kernel)
set_option maxRecDepth 65536 in
theorem w_c1 : (Jvm.Cond.code ({ cls := "java/lang/Math", name := "max", desc := "(II)I" } : Jvm.MethodName) jdk_29_method_65_code (2 : Nat) (Option.some Jvm.ClassFile.FieldType.int)).before args0 about1 = true := code_word (m := ⟨2, 1⟩) (meth := k2m1) (c := k2c1) (by decide +kernel) rfl rfl rfl (by decide +kernel)
set_option maxRecDepth 65536 in
theorem w_c2 : (Jvm.Cond.code ({ cls := "com/example/onda/onda/hillclimb/Area", name := "<init>", desc := "(IIII)V" } : Jvm.MethodName) prog_11_method_1_code (5 : Nat) (Option.none : Option Jvm.ClassFile.FieldType)).before args0 about1 = true := code_word (m := ⟨4, 0⟩) (meth := k4m0) (c := k4c0) (by decide +kernel) rfl rfl rfl (by decide +kernel)
set_option maxRecDepth 65536 in
theorem w_c3 : (Jvm.Cond.code ({ cls := "java/lang/Record", name := "<init>", desc := "()V" } : Jvm.MethodName) jdk_30_method_1_code (1 : Nat) (Option.none : Option Jvm.ClassFile.FieldType)).before args0 about1 = true := code_word (m := ⟨3, 0⟩) (meth := k3m0) (c := k3c0) (by decide +kernel) rfl rfl rfl (by decide +kernel)
set_option maxRecDepth 65536 in
theorem w_c4 : (Jvm.Cond.code ({ cls := "java/lang/Object", name := "<init>", desc := "()V" } : Jvm.MethodName) object_method_1_code (1 : Nat) (Option.none : Option Jvm.ClassFile.FieldType)).before args0 about1 = true := code_word (m := ⟨0, 0⟩) (meth := k0m0) (c := k0c0) (by decide +kernel) rfl rfl rfl (by decide +kernel)
set_option maxRecDepth 65536 in
theorem w_c5 : (Jvm.Cond.code ({ cls := "com/example/onda/onda/hillclimb/AreaContainsPinLaw", name := "staysWhenClamped", desc := "(III)Z" } : Jvm.MethodName) method_2_code (3 : Nat) (Option.some Jvm.ClassFile.FieldType.boolean)).before args0 about1 = true := code_word (m := ⟨1, 1⟩) (meth := k1m1) (c := k1c1) (by decide +kernel) rfl rfl rfl (by decide +kernel)
set_option maxRecDepth 65536 in
theorem w_c6 : (Jvm.Cond.code ({ cls := "java/lang/Math", name := "min", desc := "(II)I" } : Jvm.MethodName) jdk_29_method_69_code (2 : Nat) (Option.some Jvm.ClassFile.FieldType.int)).before args0 about1 = true := code_word (m := ⟨2, 2⟩) (meth := k2m2) (c := k2c2) (by decide +kernel) rfl rfl rfl (by decide +kernel)
set_option maxRecDepth 65536 in
theorem w_c7 : (Jvm.Cond.code ({ cls := "com/example/onda/onda/hillclimb/Area", name := "contains", desc := "(II)Z" } : Jvm.MethodName) prog_11_method_4_code (3 : Nat) (Option.some Jvm.ClassFile.FieldType.boolean)).before args0 about1 = true := code_word (m := ⟨4, 1⟩) (meth := k4m1) (c := k4c1) (by decide +kernel) rfl rfl rfl (by decide +kernel)
def codes1 : List Jvm.Cond := [Jvm.Cond.code x code maxLocals ret, Jvm.Cond.code ({ cls := "java/lang/Math", name := "max", desc := "(II)I" } : Jvm.MethodName) jdk_29_method_65_code (2 : Nat) (Option.some Jvm.ClassFile.FieldType.int), Jvm.Cond.code ({ cls := "com/example/onda/onda/hillclimb/Area", name := "<init>", desc := "(IIII)V" } : Jvm.MethodName) prog_11_method_1_code (5 : Nat) (Option.none : Option Jvm.ClassFile.FieldType), Jvm.Cond.code ({ cls := "java/lang/Record", name := "<init>", desc := "()V" } : Jvm.MethodName) jdk_30_method_1_code (1 : Nat) (Option.none : Option Jvm.ClassFile.FieldType), Jvm.Cond.code ({ cls := "java/lang/Object", name := "<init>", desc := "()V" } : Jvm.MethodName) object_method_1_code (1 : Nat) (Option.none : Option Jvm.ClassFile.FieldType), Jvm.Cond.code ({ cls := "com/example/onda/onda/hillclimb/AreaContainsPinLaw", name := "staysWhenClamped", desc := "(III)Z" } : Jvm.MethodName) method_2_code (3 : Nat) (Option.some Jvm.ClassFile.FieldType.boolean), Jvm.Cond.code ({ cls := "java/lang/Math", name := "min", desc := "(II)I" } : Jvm.MethodName) jdk_29_method_69_code (2 : Nat) (Option.some Jvm.ClassFile.FieldType.int), Jvm.Cond.code ({ cls := "com/example/onda/onda/hillclimb/Area", name := "contains", desc := "(II)Z" } : Jvm.MethodName) prog_11_method_4_code (3 : Nat) (Option.some Jvm.ClassFile.FieldType.boolean)]
set_option maxRecDepth 65536 in
theorem codes_eq : words1.filter isCode = codes1 := rfl
theorem w_codes : ∀ c ∈ words1.filter isCode, c.before args0 about1 = true := by
  rw [codes_eq]
  intro c hc
  simp only [codes1, List.mem_cons, List.not_mem_nil, or_false] at hc
  rcases hc with rfl | rfl | rfl | rfl | rfl | rfl | rfl | rfl
  · exact w_c0
  · exact w_c1
  · exact w_c2
  · exact w_c3
  · exact w_c4
  · exact w_c5
  · exact w_c6
  · exact w_c7
set_option maxRecDepth 65536 in
theorem w_t1 : (words1.take 24).all (fun c => isCode c || c.before args0 about1) = true := by decide +kernel
set_option maxRecDepth 65536 in
theorem w_t2 : (words1.drop 24).all (fun c => isCode c || c.before args0 about1) = true := by decide +kernel
theorem w_tables : (allAtoms (Jvm.Cond.code x code maxLocals ret :: tables_1)).before args0 about1 = true := by
  rw [allAtoms_all]
  show words1.all (fun c => c.before args0 about1) = true
  refine all_split ?_ w_codes
  rw [← List.take_append_drop 24 words1, List.all_append, w_t1, w_t2]
  rfl
set_option maxRecDepth 65536 in
theorem w_case : (Jvm.Cond.and given_1 narrow_1).before args0 about1 = true := by decide +kernel
theorem w_applies : (headSpec (Jvm.Cond.code x code maxLocals ret :: tables_1) room_1).applies x e0.platform about1 = true :=
  (Spec.applies_iff w_frames).mpr ⟨w_running, w_runnable, w_alone, w_named, w_hears, w_ripe, w_room, w_tables⟩
theorem atStart : AtStart classFile x code maxLocals ret World_1 tables_1 room_1 Calls_1 rest_1 Pre_1 launch0 p0 e0 about1 theMethod args0 below0 :=
  ⟨lists_1, trivial, launch0.admits_env _ _ _, launch0.least_env, fairChoices_fair.cas, fairChoices_fair.clock, w_frames, w_args, w_heap, w_applies, trivial, trivial, w_case⟩
end start1
theorem witness_1 : WitnessClaimed_1 := ⟨start1.p0, start1.e0, start1.about1, start1.theMethod, start1.args0, start1.below0, start1.atStart⟩
end Jvm.Pilot.@@N@@
