import JvmDerived
import JvmDerived.Pilot.@@N@@Statement
import JvmDerived.Pilot.@@N@@Code
set_option linter.unusedVariables false
set_option linter.unusedSimpArgs false
@@BLOCK:NumsL.lean.txt@@
namespace Jvm.Pilot.@@N@@
open Jvm Jvm.ClassFile Sem Op Lib Jvm.Free Jvm.Stand Jvm.LawKit Jvm.RoadKit Bundle Jvm.Pilot.@@N@@.Jvm.D

section Own
variable {p : Program} {l : Launch} {e : Env} {R : Room} {s : State} {m : MethodId} {args : Array Value} {below : List Frame} {meth : Method} {c : Code} {T : State} {locs : List Loc} {cells slots : Nat} {Z : State} {a0 : Array Value} {h : Heap} {Q : Option Value → Heap → List Loc → Prop} {kc kn : Nat}
/-- from U the body comes to its end, with Q -/
def own_Fin (p : Program) (e : Env) (below : List Frame) (s : State) (Q : Option Value → Heap → List Loc → Prop) (kc kn : Nat) (U : State) : Prop :=
  ∃ t o, Steps p.tables e below U t ∧ t.status = .running ∧ Ended t below o ∧ ∃ v L, o = .returned v ∧ Q v t.heap L ∧ FrameEnd s o t L kc kn
theorem own_go {U U' : State} (g : ∀ t, Steps p.tables e below U' t → Steps p.tables e below U t) (H : own_Fin p e below s Q kc kn U') : own_Fin p e below s Q kc kn U := by
  obtain ⟨t, o, h1, h2⟩ := H
  exact ⟨t, o, g t h1, h2⟩
/-- what a body that writes nothing and returns w leaves -/
def own_P (w : Option Value) (h0 : Heap) (n0 : Nat) (v : Option Value) (h : Heap) (L : List Loc) : Prop := v = w ∧ Fr n0 L ∧ h = h0
/-- a body's contract: called with as' on the heap h, it ends with Q -/
def own_Met (l : Launch) (y : MethodName) (bytes : ByteArray) (maxL : Nat) (ret : Option FieldType) (rm : Room) (Z : State) (ws : List Jvm.Cond) (as' : Array Value) (h : Heap) (Q : Option Value → Heap → List Loc → Prop) : Prop :=
  MetFree l y (head1 (Jvm.Cond.code y bytes maxL ret :: ws) rm) (fun a U => a = as' ∧ Z.Warmed39 U.vm ∧ U.heap = h) (fun _ _ _ _ _ => True) (fun _ U o U' => ∃ v L, o = .returned v ∧ Q v U'.heap L ∧ FrameEnd U o U' L rm.cells rm.slots)
theorem own_enter {y : MethodName} {bytes : ByteArray} {maxL : Nat} {ret : Option FieldType} {rm : Room} {ws : List Jvm.Cond} {as' : Array Value} (hp : plainFor y = true)
    (H : ∀ (p : Program) (e : Env) (s : State) (m : MethodId) (below : List Frame) (meth : Method) (c : Code) (s₁ : State), p.tables.exec = Jvm.exec → c.code = bytes → c.maxLocals = maxL → s.vm.findClass y.cls = some m.cls → meth.name = y.name → meth.sig.returnType = ret → meth.locks = false → Z.Warmed39 s.vm → s₁.heap = h → Stand p l e rm s m as' below meth c s₁ [] 0 0 → own_Fin p e below s Q rm.cells rm.slots (s₁.setTop (entryFrame m as' maxL))) :
    own_Met l y bytes maxL ret rm Z ws as' h Q := by
  unfold own_Met
  refine MetFree.of_bodySF hp hisR ?_
  intro p e s m args below meth c s₁ Bd hml0 hP hK
  obtain ⟨rfl, hZ, hh⟩ := hP
  exact H p e s m below meth c s₁ Bd.exec Bd.bytes hml0 (findClass_of_methodNamed Bd.named) (name_of_methodNamed Bd.named Bd.method).1 Bd.returns (BodyLoose.notSynchronized Bd) hZ (by rw [← hh, Bd.state]; rfl) (Stand.of_body Bd)
theorem own_ret (X : Stand p l e R s m args below meth c T locs cells slots) (hx : p.tables.exec = Jvm.exec) (hlk : meth.locks = false) {pc : Nat} {Ls : Array Slot} {w : Value} {t : FieldType} {i : Instr} {rest : List Value} (hret : meth.sig.returnType = some t) (hn : narrow t w = w)
    (hi : (i = .ireturn ∧ (t = .int ∨ t = .boolean ∨ t = .byte ∨ t = .char ∨ t = .short) ∧ ∃ z, w = .int z) ∨ (i = .lreturn ∧ t = .long ∧ ∃ z, w = .long z) ∨ (i = .dreturn ∧ t = .double ∧ ∃ z, w = .double z) ∨ (i = .freturn ∧ t = .float ∧ ∃ z, w = .float z) ∨ (i = .areturn ∧ t.isReference = true ∧ w.isRef = true))
    (hd : decode c.code pc = .ok (i, 1)) (hk : cells ≤ kc) (hs : slots ≤ kn) (hq : Q (some w) T.heap locs) : own_Fin p e below s Q kc kn (T.setTop (mkF m pc Ls (w :: rest))) := by
  obtain ⟨fs, hr, hrun, hended, hW, hsame⟩ := X.leave (v := some w) (fun h => by rw [hret] at h; cases h) hlk
  exact ⟨_, _, retOut X hx hret hn hi hd hr, hrun, hended, _, _, rfl, hq, ⟨_, rfl⟩, hW, hsame.mono hk hs⟩
theorem own_retI (X : Stand p l e R s m args below meth c T locs cells slots) (hx : p.tables.exec = Jvm.exec) (hlk : meth.locks = false) {pc : Nat} {Ls : Array Slot} {z : Int32} {rest : List Value} (hret : meth.sig.returnType = some .int)
    (hd : decode c.code pc = .ok (.ireturn, 1)) (hk : cells ≤ kc) (hs : slots ≤ kn) (hq : Q (some (.int z)) T.heap locs) : own_Fin p e below s Q kc kn (T.setTop (mkF m pc Ls (.int z :: rest))) :=
  own_ret X hx hlk hret rfl (Or.inl ⟨rfl, Or.inl rfl, _, rfl⟩) hd hk hs hq
theorem own_retZ (X : Stand p l e R s m args below meth c T locs cells slots) (hx : p.tables.exec = Jvm.exec) (hlk : meth.locks = false) {pc : Nat} {Ls : Array Slot} {z : Int32} {rest : List Value} (hret : meth.sig.returnType = some .boolean) (hn : narrow .boolean (.int z) = .int z)
    (hd : decode c.code pc = .ok (.ireturn, 1)) (hk : cells ≤ kc) (hs : slots ≤ kn) (hq : Q (some (.int z)) T.heap locs) : own_Fin p e below s Q kc kn (T.setTop (mkF m pc Ls (.int z :: rest))) :=
  own_ret X hx hlk hret hn (Or.inl ⟨rfl, Or.inr (Or.inl rfl), _, rfl⟩) hd hk hs hq
theorem own_retJ (X : Stand p l e R s m args below meth c T locs cells slots) (hx : p.tables.exec = Jvm.exec) (hlk : meth.locks = false) {pc : Nat} {Ls : Array Slot} {z : Int64} {rest : List Value} (hret : meth.sig.returnType = some .long)
    (hd : decode c.code pc = .ok (.lreturn, 1)) (hk : cells ≤ kc) (hs : slots ≤ kn) (hq : Q (some (.long z)) T.heap locs) : own_Fin p e below s Q kc kn (T.setTop (mkF m pc Ls (.long z :: rest))) :=
  own_ret X hx hlk hret rfl (Or.inr (Or.inl ⟨rfl, rfl, _, rfl⟩)) hd hk hs hq
theorem own_retA (X : Stand p l e R s m args below meth c T locs cells slots) (hx : p.tables.exec = Jvm.exec) (hlk : meth.locks = false) {pc : Nat} {Ls : Array Slot} {z : Addr} {t : FieldType} {rest : List Value} (hret : meth.sig.returnType = some t) (ht : t.isReference = true) (hn : narrow t (.ref z) = .ref z)
    (hd : decode c.code pc = .ok (.areturn, 1)) (hk : cells ≤ kc) (hs : slots ≤ kn) (hq : Q (some (.ref z)) T.heap locs) : own_Fin p e below s Q kc kn (T.setTop (mkF m pc Ls (.ref z :: rest))) :=
  own_ret X hx hlk hret hn (Or.inr (Or.inr (Or.inr (Or.inr ⟨rfl, ht, rfl⟩)))) hd hk hs hq
theorem own_retV (X : Stand p l e R s m args below meth c T locs cells slots) (hx : p.tables.exec = Jvm.exec) (hlk : meth.locks = false) {pc : Nat} {Ls : Array Slot} (hret : meth.sig.returnType = none)
    (hd : decode c.code pc = .ok (.return_, 1)) (hk : cells ≤ kc) (hs : slots ≤ kn) (hq : Q none T.heap locs) : own_Fin p e below s Q kc kn (T.setTop (mkF m pc Ls [])) := by
  obtain ⟨fs, hr, hrun, hended, hW, hsame⟩ := X.leave (v := none) (fun _ => rfl) hlk
  exact ⟨_, _, X.returnOut hx hret hd hr, hrun, hended, _, _, rfl, hq, ⟨_, rfl⟩, hW, hsame.mono hk hs⟩
theorem own_callS (X : Stand p l e R s m args below meth c T locs cells slots) (hx : p.tables.exec = Jvm.exec) (hZ : Z.Warmed39 s.vm) {own : String} {index : Nat} {y : MethodName} {bytes : ByteArray} {maxL : Nat} {ret : Option FieldType} {rm : Room} {as' : Array Value} {Q' : Option Value → Heap → List Loc → Prop}
    (hown : s.vm.findClass own = some m.cls) (w1 : (Jvm.Cond.methodLink own index y).before a0 Z = true) (w2 : (Jvm.Cond.static y).before a0 Z = true) (w3 : (Jvm.Cond.initialized y.cls).before a0 Z = true) (w4 : (Jvm.Cond.code y bytes maxL ret).before a0 Z = true) (hy : y.cls ≠ "java/lang/invoke/MethodHandle" ∧ y.cls ≠ "java/lang/invoke/VarHandle")
    (hM : own_Met l y bytes maxL ret rm Z [] as' h Q') (eT : T.heap = h) {pc : Nat} {Ls : Array Slot} {st argsL rest : List Value} (hst : st = argsL.reverse ++ rest) (has : argsL.toArray = as') (hsize : Ls.size = c.maxLocals) (hlen : ∀ sig, parseMethodDescriptor y.desc = some sig → argsL.length = sig.parameters.length)
    (hd : decode c.code pc = .ok (.invokestatic index, 3)) {W : Nat} (hW : (rest.map fun v => v.category).sum ≤ W) (hf : rm.frames + 1 ≤ R.frames) (hl : W + (maxL + 11) + rm.locals ≤ R.locals) (hc : cells + rm.cells ≤ R.cells) (hs : slots + rm.slots ≤ R.slots)
    (H : ∀ (v : Option Value) (T' : State) (L : List Loc), Stand p l e R s m args below meth c T' (locs ++ L) (cells + rm.cells) (slots + rm.slots) → Q' v T'.heap L → own_Fin p e below s Q kc kn (T'.setTop (mkF m (pc + 3) Ls (v.toList ++ rest)))) :
    own_Fin p e below s Q kc kn (T.setTop (mkF m pc Ls st)) := by
  subst hst
  obtain ⟨v, _, ⟨T', L', k', n'⟩, -, X', ⟨Lc, hQ, l1, y1, z1⟩, st⟩ := Jvm.LawKit.callS X hx (y := y) hown (mvT hZ w1) (mvT hZ w2) (mvT hZ w3) (mvT hZ w4) hy (backOf (W := W) hM hZ w4 w3 hf hl) (g := mkF m pc Ls (argsL.reverse ++ rest)) rfl hsize hlen rfl (by show 2 * 0 + _ ≤ _; omega) hd (fun _ _ => ⟨has, eT, hc, hs⟩)
  dsimp only [Pt.U, Pt.locs, Pt.cells, Pt.slots] at X' l1 y1 z1 st hQ
  subst l1 y1 z1
  exact own_go st (H _ _ _ X' hQ)
theorem own_callV (X : Stand p l e R s m args below meth c T locs cells slots) (hx : p.tables.exec = Jvm.exec) (hZ : Z.Warmed39 s.vm) {own C : String} {index : Nat} {y z : MethodName} {bytes : ByteArray} {maxL : Nat} {ret : Option FieldType} {rm : Room} {as' : Array Value} {Q' : Option Value → Heap → List Loc → Prop}
    (hown : s.vm.findClass own = some m.cls) (w1 : (Jvm.Cond.methodLink own index y).before a0 Z = true) (w2 : (Jvm.Cond.declares y).before a0 Z = true) (nf : NotFace s y) (w3 : (Jvm.Cond.selects C y z).before a0 Z = true) (w4 : (Jvm.Cond.instanceMethod z).before a0 Z = true) (w5 : (Jvm.Cond.code z bytes maxL ret).before a0 Z = true) (w6 : (Jvm.Cond.initialized z.cls).before a0 Z = true) (hy : y.cls ≠ "java/lang/invoke/MethodHandle" ∧ y.cls ≠ "java/lang/invoke/VarHandle")
    (hM : own_Met l z bytes maxL ret rm Z [] as' h Q') (eT : T.heap = h) {a : Addr} (E : Exa Z h a C) {pc : Nat} {Ls : Array Slot} {st argsL rest : List Value} (hst : st = argsL.reverse ++ .ref a :: rest) (has : (.ref a :: argsL).toArray = as') (hsize : Ls.size = c.maxLocals) (hlen : ∀ sig, parseMethodDescriptor y.desc = some sig → argsL.length = sig.parameters.length)
    (hd : decode c.code pc = .ok (.invokevirtual index, 3)) {W : Nat} (hW : (rest.map fun v => v.category).sum ≤ W) (hf : rm.frames + 1 ≤ R.frames) (hl : W + (maxL + 11) + rm.locals ≤ R.locals) (hc : cells + rm.cells ≤ R.cells) (hs : slots + rm.slots ≤ R.slots)
    (H : ∀ (v : Option Value) (T' : State) (L : List Loc), Stand p l e R s m args below meth c T' (locs ++ L) (cells + rm.cells) (slots + rm.slots) → Q' v T'.heap L → own_Fin p e below s Q kc kn (T'.setTop (mkF m (pc + 3) Ls (v.toList ++ rest)))) :
    own_Fin p e below s Q kc kn (T.setTop (mkF m pc Ls st)) := by
  subst hst
  obtain ⟨cB, kB, q1, q2, q3⟩ := isOf (T := T) hZ eT E
  obtain ⟨v, _, ⟨T', L', k', n'⟩, -, X', ⟨Lc, hQ, l1, y1, z1⟩, st⟩ := X.virtualBack hx (y := y) (z := z) hown (mvT hZ w1) (mvT hZ w2) nf (mvT hZ w3) (mvT hZ w4) hy (backOf (W := W) hM hZ w5 w6 hf hl) q1 q3 (g := mkF m pc Ls (argsL.reverse ++ .ref a :: rest)) rfl hsize (Steps.refl _) hlen rfl (by show 2 * 0 + _ ≤ _; omega) hd (fun _ _ => ⟨has, eT, hc, hs⟩)
  dsimp only [Pt.U, Pt.locs, Pt.cells, Pt.slots] at X' l1 y1 z1 st hQ
  subst l1 y1 z1
  exact own_go (fun _ k => st.trans k) (H _ _ _ X' hQ)
theorem own_callN (X : Stand p l e R s m args below meth c T locs cells slots) (hx : p.tables.exec = Jvm.exec) (hZ : Z.Warmed39 s.vm) {own : String} {index : Nat} {y : MethodName} {bytes : ByteArray} {maxL : Nat} {rm : Room} {as' : Array Value} {Q' : Option Value → Heap → List Loc → Prop} (hy1 : y.name = "<init>")
    (hown : s.vm.findClass own = some m.cls) (w1 : (Jvm.Cond.methodLink own index y).before a0 Z = true) (w2 : (Jvm.Cond.instanceMethod y).before a0 Z = true) (w3 : (Jvm.Cond.initialized y.cls).before a0 Z = true) (w4 : (Jvm.Cond.code y bytes maxL none).before a0 Z = true) (hy : y.cls ≠ "java/lang/invoke/MethodHandle" ∧ y.cls ≠ "java/lang/invoke/VarHandle")
    (hM : own_Met l y bytes maxL none rm Z [] as' h Q') (eT : T.heap = h) {a : Addr} {pc : Nat} {Ls : Array Slot} {st argsL rest : List Value} (hst : st = argsL.reverse ++ .ref a :: rest) (has : (.ref a :: argsL).toArray = as') (hsize : Ls.size = c.maxLocals) (hlen : ∀ sig, parseMethodDescriptor y.desc = some sig → argsL.length = sig.parameters.length)
    (hd : decode c.code pc = .ok (.invokespecial index, 3)) {W : Nat} (hW : (rest.map fun v => v.category).sum ≤ W) (hf : rm.frames + 1 ≤ R.frames) (hl : W + (maxL + 11) + rm.locals ≤ R.locals) (hc : cells + rm.cells ≤ R.cells) (hs : slots + rm.slots ≤ R.slots)
    (H : ∀ (v : Option Value) (T' : State) (L : List Loc), Stand p l e R s m args below meth c T' (locs ++ L) (cells + rm.cells) (slots + rm.slots) → Q' v T'.heap L → own_Fin p e below s Q kc kn (T'.setTop (mkF m (pc + 3) Ls (v.toList ++ rest)))) :
    own_Fin p e below s Q kc kn (T.setTop (mkF m pc Ls st)) := by
  subst hst
  obtain ⟨v, _, ⟨T', L', k', n'⟩, -, X', ⟨Lc, hQ, l1, y1, z1⟩, st⟩ := X.specialBack hx (y := y) hy1 hown (mvT hZ w1) (mvT hZ w2) (mvT hZ w4) hy (backOf (W := W) hM hZ w4 w3 hf hl) (g := mkF m pc Ls (argsL.reverse ++ .ref a :: rest)) rfl hsize (Steps.refl _) (a := a) hlen rfl (by show 2 * 0 + _ ≤ _; omega) hd (fun _ _ => ⟨has, eT, hc, hs⟩)
  dsimp only [Pt.U, Pt.locs, Pt.cells, Pt.slots] at X' l1 y1 z1 st hQ
  subst l1 y1 z1
  exact own_go (fun _ k => st.trans k) (H _ _ _ X' hQ)
theorem own_initO (X : Stand p l e R s m args below meth c T locs cells slots) (hx : p.tables.exec = Jvm.exec) (hZ : Z.Warmed39 s.vm) {own : String} {idx : Nat} (hown : s.vm.findClass own = some m.cls) (w1 : (Jvm.Cond.methodLink own idx Lib.objectInit).before a0 Z = true) (w2 : (Jvm.Cond.instanceMethod Lib.objectInit).before a0 Z = true)
    (w3 : (Jvm.Cond.code Lib.objectInit ⟨#[0xb1]⟩ 1 none).before a0 Z = true) (eT : T.heap = h) {pc : Nat} {Ls : Array Slot} (hsize : Ls.size = c.maxLocals) {a : Addr} {rest : List Value} (hd : decode c.code pc = .ok (.invokespecial idx, 3))
    (hf : 1 ≤ R.frames) {W : Nat} (hW : (rest.map fun v => v.category).sum ≤ W) (hl : W + 12 ≤ R.locals)
    (H : ∀ (T' : State), Stand p l e R s m args below meth c T' locs cells slots → T'.heap = h → own_Fin p e below s Q kc kn (T'.setTop (mkF m (pc + 3) Ls rest))) :
    own_Fin p e below s Q kc kn (T.setTop (mkF m pc Ls (.ref a :: rest))) := by
  obtain ⟨T', X', e', st⟩ := initO X hx hZ hown w1 w2 w3 eT (g := mkF m pc Ls (.ref a :: rest)) rfl hsize rfl hd hf (W := W) (by show 2 * 0 + _ ≤ _; omega) hl
  exact own_go st (H _ X' e')
theorem own_getF (X : Stand p l e R s m args below meth c T locs cells slots) (hx : p.tables.exec = Jvm.exec) (hZ : Z.Warmed39 s.vm) {own R0 O n d host : String} {index : Nat} (hown : s.vm.findClass own = some m.cls) (w : (Jvm.Cond.fieldLink own index R0 n d).before a0 Z = true ∨ (Jvm.Cond.fieldLinkNest own index R0 n d host).before a0 Z = true) (via : Via Z R0 O n d)
    (eT : T.heap = h) {a : Addr} {v : Value} (F : Fld Z h a O n d v) {pc : Nat} {Ls : Array Slot} {rest : List Value} (hd : decode c.code pc = .ok (.getfield index, 3))
    (H : ∀ (T' : State), Stand p l e R s m args below meth c T' locs cells slots → T'.heap = h → own_Fin p e below s Q kc kn (T'.setTop (mkF m (pc + 3) Ls (v :: rest)))) :
    own_Fin p e below s Q kc kn (T.setTop (mkF m pc Ls (.ref a :: rest))) := by
  obtain ⟨T', X', e', st⟩ := getF X hx hZ hown w via eT F (g := mkF m pc Ls (.ref a :: rest)) rfl rfl hd
  exact own_go st (H _ X' e')
theorem own_getS (X : Stand p l e R s m args below meth c T locs cells slots) (hx : p.tables.exec = Jvm.exec) (hZ : Z.Warmed39 s.vm) {own R0 O n d host : String} {index : Nat} (hown : s.vm.findClass own = some m.cls) (w : (Jvm.Cond.fieldLink own index R0 n d).before a0 Z = true ∨ (Jvm.Cond.fieldLinkNest own index R0 n d host).before a0 Z = true) (via : Via Z R0 O n d)
    (eT : T.heap = h) {v : Value} (F : Sta Z h O n d v) {pc : Nat} {Ls : Array Slot} {rest : List Value} (hd : decode c.code pc = .ok (.getstatic index, 3))
    (H : ∀ (T' : State), Stand p l e R s m args below meth c T' locs cells slots → T'.heap = h → own_Fin p e below s Q kc kn (T'.setTop (mkF m (pc + 3) Ls (v :: rest)))) :
    own_Fin p e below s Q kc kn (T.setTop (mkF m pc Ls rest)) := by
  obtain ⟨T', X', e', st⟩ := getS2 X hx hZ hown w via eT F (g := mkF m pc Ls rest) rfl hd
  exact own_go st (H _ X' e')
theorem own_putF (X : Stand p l e R s m args below meth c T locs cells slots) (hx : p.tables.exec = Jvm.exec) (hZ : Z.Warmed39 s.vm) {own R0 O n d host C : String} {index kk : Nat} {ty : FieldType} (hown : s.vm.findClass own = some m.cls) (w : (Jvm.Cond.fieldLink own index R0 n d).before a0 Z = true ∨ (Jvm.Cond.fieldLinkNest own index R0 n d host).before a0 Z = true) (via : Via Z R0 O n d)
    (eT : T.heap = h) {a : Addr} {v old : Value} (F : Fld Z h a O n d old) (E : Exa Z h a C) (L : (Jvm.Cond.lays C O n d).before a0 Z = true ∨ ((Jvm.Cond.laysFinal C O n d).before a0 Z = true ∧ own = O ∧ meth.name = "<init>")) (wi : (Jvm.Cond.instantiable C kk).before a0 Z = true)
    (hty : parseFieldDescriptor d = some ty) (hn : narrow ty v = v) (hf : fits ty v = true) {pc : Nat} {Ls : Array Slot} {rest : List Value} (hd : decode c.code pc = .ok (.putfield index, 3))
    (H : ∀ (T' : State) (h' : Heap), Stand p l e R s m args below meth c T' (locs ++ [⟨a, Jvm.RoadKit.slotOf Z O n d⟩]) cells slots → T'.heap = h' → Wr h h' a (Jvm.RoadKit.slotOf Z O n d) v → own_Fin p e below s Q kc kn (T'.setTop (mkF m (pc + 3) Ls rest))) :
    own_Fin p e below s Q kc kn (T.setTop (mkF m pc Ls (v :: .ref a :: rest))) := by
  obtain ⟨T', h', X', e', W', st⟩ := putF X hx hZ hown w via eT F E L wi hty hn hf (g := mkF m pc Ls (v :: .ref a :: rest)) rfl rfl hd
  exact own_go st (H _ _ X' e' W')
theorem own_new (X : Stand p l e R s m args below meth c T locs cells slots) (hx : p.tables.exec = Jvm.exec) (hZ : Z.Warmed39 s.vm) {own C : String} {index n : Nat} (hown : s.vm.findClass own = some m.cls) (w : (Jvm.Cond.classLink own index C).before a0 Z = true) (wi : (Jvm.Cond.instantiable C n).before a0 Z = true) (wz : (Jvm.Cond.initialized C).before a0 Z = true) (eT : T.heap = h)
    {pc : Nat} {Ls : Array Slot} {rest : List Value} (hd : decode c.code pc = .ok (.new index, 3)) (hc : cells + 1 ≤ R.cells) (hl : slots + n ≤ R.slots)
    (H : ∀ (T' : State) (h' : Heap) (a : Addr), a = h.size → Stand p l e R s m args below meth c T' locs (cells + 1) (slots + n) → T'.heap = h' → Ext h h' → Exa Z h' a C → (∀ {O nm d : String} {ty : FieldType}, Laid Z a0 C O nm d → parseFieldDescriptor d = some ty → Fld Z h' a O nm d (defaultValue ty)) → own_Fin p e below s Q kc kn (T'.setTop (mkF m (pc + 3) Ls (.ref a :: rest)))) :
    own_Fin p e below s Q kc kn (T.setTop (mkF m pc Ls rest)) := by
  obtain ⟨T', h', X', e', E', A', D', -, st⟩ := newO X hx hZ hown w wi wz eT (g := mkF m pc Ls rest) rfl hd hc hl
  exact own_go st (H _ _ _ rfl X' e' E' A' D')
theorem own_callU (X : Stand p l e R s m args below meth c T locs cells slots) (hx : p.tables.exec = Jvm.exec) (hZ : Z.Warmed39 s.vm) {own C owner : String} {index : Nat} {y z : MethodName} {bytes : ByteArray} {maxL : Nat} {ret : Option FieldType} {rm : Room} {as' : Array Value} {Q' : Option Value → Heap → List Loc → Prop}
    (hown : s.vm.findClass own = some m.cls) (w1 : (Jvm.Cond.methodLink own index y).before a0 Z = true) (w2 : (Jvm.Cond.sameMethod y.cls owner y.name y.desc).before a0 Z = true) (w2' : (Jvm.Cond.declares ⟨owner, y.name, y.desc⟩).before a0 Z = true) (hy : owner ≠ "java/lang/invoke/MethodHandle" ∧ owner ≠ "java/lang/invoke/VarHandle") (w3 : (Jvm.Cond.selects C y z).before a0 Z = true) (w4 : (Jvm.Cond.instanceMethod z).before a0 Z = true) (w5 : (Jvm.Cond.code z bytes maxL ret).before a0 Z = true) (w6 : (Jvm.Cond.initialized z.cls).before a0 Z = true)
    (hM : own_Met l z bytes maxL ret rm Z [] as' h Q') (eT : T.heap = h) {a : Addr} (E : Exa Z h a C) {pc : Nat} {Ls : Array Slot} {st argsL rest : List Value} (hst : st = argsL.reverse ++ .ref a :: rest) (has : (.ref a :: argsL).toArray = as') (hsize : Ls.size = c.maxLocals) (hlen : ∀ sig, parseMethodDescriptor y.desc = some sig → argsL.length = sig.parameters.length)
    (hd : decode c.code pc = .ok (.invokevirtual index, 3)) {W : Nat} (hW : (rest.map fun v => v.category).sum ≤ W) (hf : rm.frames + 1 ≤ R.frames) (hl : W + (maxL + 11) + rm.locals ≤ R.locals) (hc : cells + rm.cells ≤ R.cells) (hs : slots + rm.slots ≤ R.slots)
    (H : ∀ (v : Option Value) (T' : State) (L : List Loc), Stand p l e R s m args below meth c T' (locs ++ L) (cells + rm.cells) (slots + rm.slots) → Q' v T'.heap L → own_Fin p e below s Q kc kn (T'.setTop (mkF m (pc + 3) Ls (v.toList ++ rest)))) :
    own_Fin p e below s Q kc kn (T.setTop (mkF m pc Ls st)) := by
  subst hst
  obtain ⟨cB, kB, q1, q2, q3⟩ := isOf (T := T) hZ eT E
  obtain ⟨v, _, ⟨T', L', k', n'⟩, -, X', ⟨Lc, hQ, l1, y1, z1⟩, st⟩ := X.virtualBackUp hx (x := y) (y := z) hown (mvT hZ w1) (mvT hZ w2) (mvT hZ w2') hy (mvT hZ w3) (mvT hZ w4) (backOf (W := W) hM hZ w5 w6 hf hl) q1 q3 (g := mkF m pc Ls (argsL.reverse ++ .ref a :: rest)) rfl hsize (Steps.refl _) hlen rfl (by show 2 * 0 + _ ≤ _; omega) hd (fun _ _ => ⟨has, eT, hc, hs⟩)
  dsimp only [Pt.U, Pt.locs, Pt.cells, Pt.slots] at X' l1 y1 z1 st hQ
  subst l1 y1 z1
  exact own_go (fun _ k => st.trans k) (H _ _ _ X' hQ)
theorem own_lswHit (X : Stand p l e R s m args below meth c T locs cells slots) (hx : p.tables.exec = Jvm.exec) {pc pc' : Nat} {Ls : Array Slot} {k : Int32} {rest : List Value} {default : Int} {pairs : Array (Int × Int)} {len : Nat} (hd : decode c.code pc = .ok (.lookupswitch default pairs, len))
    (hsorted : (pairs.toList.zip (pairs.toList.drop 1)).all (fun (a, next) => a.1 < next.1) = true) {a off : Int} (hfind : pairs.find? (·.1 == k.toInt) = some (a, off)) (hoff : 0 ≤ (pc : Int) + off) (hp : ((pc : Int) + off).toNat = pc')
    (H : own_Fin p e below s Q kc kn (T.setTop (mkF m pc' Ls rest))) : own_Fin p e below s Q kc kn (T.setTop (mkF m pc Ls (.int k :: rest))) := by
  subst hp
  exact own_go (fun t q => X.lookupswitchHit hx (g := mkF m pc Ls (.int k :: rest)) rfl rfl hd hsorted hfind hoff t q) H
theorem own_lswMiss (X : Stand p l e R s m args below meth c T locs cells slots) (hx : p.tables.exec = Jvm.exec) {pc pc' : Nat} {Ls : Array Slot} {k : Int32} {rest : List Value} {default : Int} {pairs : Array (Int × Int)} {len : Nat} (hd : decode c.code pc = .ok (.lookupswitch default pairs, len))
    (hsorted : (pairs.toList.zip (pairs.toList.drop 1)).all (fun (a, next) => a.1 < next.1) = true) (hfind : ∀ q ∈ pairs.toList, q.1 ≠ k.toInt) (hoff : 0 ≤ (pc : Int) + default) (hp : ((pc : Int) + default).toNat = pc')
    (H : own_Fin p e below s Q kc kn (T.setTop (mkF m pc' Ls rest))) : own_Fin p e below s Q kc kn (T.setTop (mkF m pc Ls (.int k :: rest))) := by
  subst hp
  exact own_go (fun t q => X.lookupswitchMiss hx (g := mkF m pc Ls (.int k :: rest)) rfl rfl hd hsorted (find_miss hfind) hoff t q) H
theorem own_castY (X : Stand p l e R s m args below meth c T locs cells slots) (hx : p.tables.exec = Jvm.exec) (hZ : Z.Warmed39 s.vm) {own K : String} {index : Nat} (hown : s.vm.findClass own = some m.cls) (w : (Jvm.Cond.classLink own index K).before a0 Z = true) (eT : T.heap = h) {a : Addr} (F : Ins Z h a K true)
    {pc : Nat} {Ls : Array Slot} {rest : List Value} (hd : decode c.code pc = .ok (.checkcast index, 3))
    (H : ∀ (T' : State), Stand p l e R s m args below meth c T' locs cells slots → T'.heap = h → own_Fin p e below s Q kc kn (T'.setTop (mkF m (pc + 3) Ls (.ref a :: rest)))) :
    own_Fin p e below s Q kc kn (T.setTop (mkF m pc Ls (.ref a :: rest))) := by
  obtain ⟨T', X', e', st⟩ := castY X hx hZ hown w eT F (g := mkF m pc Ls (.ref a :: rest)) rfl rfl hd
  exact own_go st (H _ X' e')
theorem own_Sta_keep0 {C n d : String} {v : Value} {h h' : Heap} (F : Sta Z h C n d v) (K : Keep h h' []) : Sta Z h' C n d v := by
  obtain ⟨cf, i, k, f, st, cell, h1, h2, h3, h4, h5, r⟩ := F
  exact ⟨cf, i, k, f, st, cell, h1, h2, h3, h4, K.2.1 _ _ h5 nin0, r⟩
theorem own_Arr_keep0 {a : Addr} {cl : Cell} {ty : FieldType} {h h' : Heap} (F : Arr Z h a cl ty) (K : Keep h h' []) : Arr Z h' a cl ty := ⟨K.2.1 _ _ F.1 nin0, F.2⟩
theorem own_neI {k z : Int32} {n : Int} (hz : z.toInt = n) (q : ¬ k = z) : n ≠ k.toInt := fun e => q (Int32.toInt_inj.mp (by rw [hz]; exact e.symm))
theorem own_fldI {args : Array Value} {t : Term} {O nm dd : String} {v : Int32} {a : Addr} (q : (Jvm.Cond.eq (.field t O nm dd) (.int v)).value args Z none Z [] = some true) (ev : t.eval args Z none [] Z = some (.ref a)) : Fld Z Z.heap a O nm dd (.int v) := by
  refine Fld.start ?_
  have e1 := fld_at (C := O) (n := nm) (dd := dd) ev
  simp only [Cond.value, e1] at q
  cases hf : Z.fieldOf? a O nm dd with
  | none => simp [hf] at q
  | some x => cases x <;> simp [hf, Term.eval] at q ⊢; exact q
theorem own_fldR {args : Array Value} {t u : Term} {O nm dd : String} {a b : Addr} (q : (Jvm.Cond.eq (.field t O nm dd) u).value args Z none Z [] = some true) (ev : t.eval args Z none [] Z = some (.ref a)) (eu : u.eval args Z none [] Z = some (.ref b)) : Fld Z Z.heap a O nm dd (.ref b) := by
  refine Fld.start ?_
  have e1 := fld_at (C := O) (n := nm) (dd := dd) ev
  simp only [Cond.value, e1, eu] at q
  cases hf : Z.fieldOf? a O nm dd with
  | none => simp [hf] at q
  | some x => cases x <;> simp [hf] at q ⊢; exact q
end Own

theorem d1_0 : decode method_2_code 0 = .ok (.iload_n 0, 1) := by decide +kernel
theorem d1_1 : decode method_2_code 1 = .ok (.ifCond .ne 7, 3) := by decide +kernel
theorem d1_4 : decode method_2_code 4 = .ok (.getstatic 7, 3) := by decide +kernel
theorem d1_7 : decode method_2_code 7 = .ok (.areturn, 1) := by decide +kernel
theorem d1_8 : decode method_2_code 8 = .ok (.iload_n 0, 1) := by decide +kernel
theorem d1_9 : decode method_2_code 9 = .ok (.iconst 1, 1) := by decide +kernel
theorem d1_10 : decode method_2_code 10 = .ok (.if_icmp .ne 7, 3) := by decide +kernel
theorem d1_13 : decode method_2_code 13 = .ok (.getstatic 13, 3) := by decide +kernel
theorem d1_16 : decode method_2_code 16 = .ok (.areturn, 1) := by decide +kernel
theorem d1_17 : decode method_2_code 17 = .ok (.iload_n 0, 1) := by decide +kernel
theorem d1_18 : decode method_2_code 18 = .ok (.iconst 2, 1) := by decide +kernel
theorem d1_19 : decode method_2_code 19 = .ok (.if_icmp .ne 7, 3) := by decide +kernel
theorem d1_22 : decode method_2_code 22 = .ok (.getstatic 16, 3) := by decide +kernel
theorem d1_25 : decode method_2_code 25 = .ok (.areturn, 1) := by decide +kernel
theorem d1_26 : decode method_2_code 26 = .ok (.getstatic 19, 3) := by decide +kernel
theorem d1_29 : decode method_2_code 29 = .ok (.areturn, 1) := by decide +kernel
theorem pn_1 : plainFor (⟨"com/example/tenantry/tenantry/RoleFitsOnPinLaw", "role", "(I)Lcom/example/tenantry/tenantry/Role;"⟩ : MethodName) = true := plainFor_of_name (by show plainName "com/example/tenantry/tenantry/RoleFitsOnPinLaw" = true; first | (simp [plainName, overriddenIn]; done) | decide +kernel)
theorem ef_1 (m : MethodId) (x0 : Int32) : entryFrame m #[(.int x0)] 1 = mkF m 0 #[.val (.int x0)] [] := by first | (simp [entryFrame, mkF, argsToLocals, Value.category]; done) | rfl
def own_f1 (p0 : Int32) (k_SYSTEM_ADMIN : Addr) (k_SUBSIDIARY_ADMIN : Addr) (k_PROJECT_ADMIN : Addr) (k_TEAM_MEMBER : Addr) : Addr :=
  if p0 = 0 then
    k_SYSTEM_ADMIN
  else
    if p0 = (1 : Int32) then
      k_SUBSIDIARY_ADMIN
    else
      if p0 = (2 : Int32) then
        k_PROJECT_ADMIN
      else
        k_TEAM_MEMBER
set_option maxRecDepth 65536 in
set_option maxHeartbeats 40000000 in
theorem rm1 (l : Launch) (Z : State) (a0 : Array Value) (hw : ∀ d ∈ tables_1, d.before a0 Z = true) (p0 : Int32) (h0 : Heap) (n0 : Nat) (Z0 : n0 ≤ h0.size) (k_SYSTEM_ADMIN : Addr) (k_SUBSIDIARY_ADMIN : Addr) (k_PROJECT_ADMIN : Addr) (k_TEAM_MEMBER : Addr) (S_SYSTEM_ADMIN : Sta Z h0 "com/example/tenantry/tenantry/Role" "SYSTEM_ADMIN" "Lcom/example/tenantry/tenantry/Role;" (.ref k_SYSTEM_ADMIN)) (S_SUBSIDIARY_ADMIN : Sta Z h0 "com/example/tenantry/tenantry/Role" "SUBSIDIARY_ADMIN" "Lcom/example/tenantry/tenantry/Role;" (.ref k_SUBSIDIARY_ADMIN)) (S_PROJECT_ADMIN : Sta Z h0 "com/example/tenantry/tenantry/Role" "PROJECT_ADMIN" "Lcom/example/tenantry/tenantry/Role;" (.ref k_PROJECT_ADMIN)) (S_TEAM_MEMBER : Sta Z h0 "com/example/tenantry/tenantry/Role" "TEAM_MEMBER" "Lcom/example/tenantry/tenantry/Role;" (.ref k_TEAM_MEMBER)) :
    own_Met l (⟨"com/example/tenantry/tenantry/RoleFitsOnPinLaw", "role", "(I)Lcom/example/tenantry/tenantry/Role;"⟩ : MethodName) method_2_code 1 (some (.object "com/example/tenantry/tenantry/Role")) ({ frames := 0, cells := 0, slots := 0, locals := 0 } : Room) Z [] #[(.int p0)] h0 (own_P (some (.ref (own_f1 p0 k_SYSTEM_ADMIN k_SUBSIDIARY_ADMIN k_PROJECT_ADMIN k_TEAM_MEMBER))) h0 n0) := by
  refine own_enter pn_1 ?_
  intro p e s m below meth c s₁ hx hby hml hown hnm hret hlk hZ e0 X0
  rw [ef_1]
  have N0 := Fr.nil n0
  show own_Fin _ _ _ _ _ _ _ (s₁.setTop (mkF m 0 #[.val (.int p0)] []))
  refine own_go (fun _ k => XS.iloadN X0.here hx rfl (hb hby d1_0) rfl k) ?_
  show own_Fin _ _ _ _ _ _ _ (s₁.setTop (mkF m 1 #[.val (.int p0)] [(.int p0)]))
  by_cases hc1 : p0 = 0
  · refine own_go (fun _ k => XS.ifNo X0.here hx rfl (hb hby d1_1) rfl (XT.i0_ne_f hc1) k) ?_
    show own_Fin _ _ _ _ _ _ _ (s₁.setTop (mkF m 4 #[.val (.int p0)] []))
    refine own_getS X0 hx hZ hown (host := "") (Or.inl (hw _ (List.mem_of_getElem? (i := 5) rfl))) Via.refl e0 S_SYSTEM_ADMIN (hb hby d1_4) ?_
    intro T1 X1 e1
    show own_Fin _ _ _ _ _ _ _ (T1.setTop (mkF m 7 #[.val (.int p0)] [(.ref k_SYSTEM_ADMIN)]))
    exact own_retA X1 hx hlk hret rfl rfl (hb hby d1_7) (by decide) (by decide) ⟨(by rw [own_f1, if_pos hc1]), N0, e1⟩
  · refine own_go (fun _ k => XS.ifYes X0.here hx rfl (pc0 := 1) (pc' := 8) rfl (hb hby d1_1) rfl (XT.i0_ne_t hc1) (by decide) (by decide) k) ?_
    show own_Fin _ _ _ _ _ _ _ (s₁.setTop (mkF m 8 #[.val (.int p0)] []))
    refine own_go (fun _ k => XS.iloadN X0.here hx rfl (hb hby d1_8) rfl k) ?_
    show own_Fin _ _ _ _ _ _ _ (s₁.setTop (mkF m 9 #[.val (.int p0)] [(.int p0)]))
    refine own_go (fun _ k => XS.iconst X0.here hx rfl (hb hby d1_9) k) ?_
    show own_Fin _ _ _ _ _ _ _ (s₁.setTop (mkF m 10 #[.val (.int p0)] [(.int (1 : Int32)), (.int p0)]))
    by_cases hc10 : p0 = (1 : Int32)
    · refine own_go (fun _ k => XS.icmpNo X0.here hx rfl (hb hby d1_10) rfl (XT.ii_ne_f hc10) k) ?_
      show own_Fin _ _ _ _ _ _ _ (s₁.setTop (mkF m 13 #[.val (.int p0)] []))
      refine own_getS X0 hx hZ hown (host := "") (Or.inl (hw _ (List.mem_of_getElem? (i := 27) rfl))) Via.refl e0 S_SUBSIDIARY_ADMIN (hb hby d1_13) ?_
      intro T2 X2 e2
      show own_Fin _ _ _ _ _ _ _ (T2.setTop (mkF m 16 #[.val (.int p0)] [(.ref k_SUBSIDIARY_ADMIN)]))
      exact own_retA X2 hx hlk hret rfl rfl (hb hby d1_16) (by decide) (by decide) ⟨(by rw [own_f1, if_neg hc1, if_pos hc10]), N0, e2⟩
    · refine own_go (fun _ k => XS.icmpYes X0.here hx rfl (pc0 := 10) (pc' := 17) rfl (hb hby d1_10) rfl (XT.ii_ne_t hc10) (by decide) (by decide) k) ?_
      show own_Fin _ _ _ _ _ _ _ (s₁.setTop (mkF m 17 #[.val (.int p0)] []))
      refine own_go (fun _ k => XS.iloadN X0.here hx rfl (hb hby d1_17) rfl k) ?_
      show own_Fin _ _ _ _ _ _ _ (s₁.setTop (mkF m 18 #[.val (.int p0)] [(.int p0)]))
      refine own_go (fun _ k => XS.iconst X0.here hx rfl (hb hby d1_18) k) ?_
      show own_Fin _ _ _ _ _ _ _ (s₁.setTop (mkF m 19 #[.val (.int p0)] [(.int (2 : Int32)), (.int p0)]))
      by_cases hc19 : p0 = (2 : Int32)
      · refine own_go (fun _ k => XS.icmpNo X0.here hx rfl (hb hby d1_19) rfl (XT.ii_ne_f hc19) k) ?_
        show own_Fin _ _ _ _ _ _ _ (s₁.setTop (mkF m 22 #[.val (.int p0)] []))
        refine own_getS X0 hx hZ hown (host := "") (Or.inl (hw _ (List.mem_of_getElem? (i := 21) rfl))) Via.refl e0 S_PROJECT_ADMIN (hb hby d1_22) ?_
        intro T3 X3 e3
        show own_Fin _ _ _ _ _ _ _ (T3.setTop (mkF m 25 #[.val (.int p0)] [(.ref k_PROJECT_ADMIN)]))
        exact own_retA X3 hx hlk hret rfl rfl (hb hby d1_25) (by decide) (by decide) ⟨(by rw [own_f1, if_neg hc1, if_neg hc10, if_pos hc19]), N0, e3⟩
      · refine own_go (fun _ k => XS.icmpYes X0.here hx rfl (pc0 := 19) (pc' := 26) rfl (hb hby d1_19) rfl (XT.ii_ne_t hc19) (by decide) (by decide) k) ?_
        show own_Fin _ _ _ _ _ _ _ (s₁.setTop (mkF m 26 #[.val (.int p0)] []))
        refine own_getS X0 hx hZ hown (host := "") (Or.inl (hw _ (List.mem_of_getElem? (i := 29) rfl))) Via.refl e0 S_TEAM_MEMBER (hb hby d1_26) ?_
        intro T4 X4 e4
        show own_Fin _ _ _ _ _ _ _ (T4.setTop (mkF m 29 #[.val (.int p0)] [(.ref k_TEAM_MEMBER)]))
        exact own_retA X4 hx hlk hret rfl rfl (hb hby d1_29) (by decide) (by decide) ⟨(by rw [own_f1, if_neg hc1, if_neg hc10, if_neg hc19]), N0, e4⟩

theorem own_pick {P : Addr → Prop} (p0 : Int32) (k1 k2 k3 k4 : Addr) (h1 : P k1) (h2 : P k2) (h3 : P k3) (h4 : P k4) : P (own_f1 p0 k1 k2 k3 k4) := by
  unfold own_f1; split
  · exact h1
  · split
    · exact h2
    · split
      · exact h3
      · exact h4
def own_held (p0 : Int32) (kR kS kP : Addr) : Addr := if p0 = 0 then kR else if p0 = 1 then kS else kP
theorem own_pickF {Z : State} {h : Heap} (p0 : Int32) (k1 k2 k3 k4 kR kS kP : Addr) (h1 : Fld Z h k1 "com/example/tenantry/tenantry/Role" "heldOn" "Lcom/example/tenantry/tenantry/Tenant$Kind;" (.ref kR)) (h2 : Fld Z h k2 "com/example/tenantry/tenantry/Role" "heldOn" "Lcom/example/tenantry/tenantry/Tenant$Kind;" (.ref kS)) (h3 : Fld Z h k3 "com/example/tenantry/tenantry/Role" "heldOn" "Lcom/example/tenantry/tenantry/Tenant$Kind;" (.ref kP)) (h4 : Fld Z h k4 "com/example/tenantry/tenantry/Role" "heldOn" "Lcom/example/tenantry/tenantry/Tenant$Kind;" (.ref kP)) : Fld Z h (own_f1 p0 k1 k2 k3 k4) "com/example/tenantry/tenantry/Role" "heldOn" "Lcom/example/tenantry/tenantry/Tenant$Kind;" (.ref (own_held p0 kR kS kP)) := by
  unfold own_f1 own_held; split
  · exact h1
  · split
    · exact h2
    · split
      · exact h3
      · exact h4

theorem d2_0 : decode method_3_code 0 = .ok (.iload_n 0, 1) := by decide +kernel
theorem d2_1 : decode method_3_code 1 = .ok (.ifCond .ne 7, 3) := by decide +kernel
theorem d2_4 : decode method_3_code 4 = .ok (.getstatic 22, 3) := by decide +kernel
theorem d2_7 : decode method_3_code 7 = .ok (.areturn, 1) := by decide +kernel
theorem d2_8 : decode method_3_code 8 = .ok (.iload_n 0, 1) := by decide +kernel
theorem d2_9 : decode method_3_code 9 = .ok (.iconst 1, 1) := by decide +kernel
theorem d2_10 : decode method_3_code 10 = .ok (.if_icmp .ne 7, 3) := by decide +kernel
theorem d2_13 : decode method_3_code 13 = .ok (.getstatic 28, 3) := by decide +kernel
theorem d2_16 : decode method_3_code 16 = .ok (.areturn, 1) := by decide +kernel
theorem d2_17 : decode method_3_code 17 = .ok (.getstatic 31, 3) := by decide +kernel
theorem d2_20 : decode method_3_code 20 = .ok (.areturn, 1) := by decide +kernel
theorem pn_2 : plainFor (⟨"com/example/tenantry/tenantry/RoleFitsOnPinLaw", "kind", "(I)Lcom/example/tenantry/tenantry/Tenant$Kind;"⟩ : MethodName) = true := plainFor_of_name (by show plainName "com/example/tenantry/tenantry/RoleFitsOnPinLaw" = true; first | (simp [plainName, overriddenIn]; done) | decide +kernel)
theorem ef_2 (m : MethodId) (x0 : Int32) : entryFrame m #[(.int x0)] 1 = mkF m 0 #[.val (.int x0)] [] := by first | (simp [entryFrame, mkF, argsToLocals, Value.category]; done) | rfl
def own_f2 (p0 : Int32) (k_ROOT : Addr) (k_SUBSIDIARY : Addr) (k_PROJECT : Addr) : Addr :=
  if p0 = 0 then
    k_ROOT
  else
    if p0 = (1 : Int32) then
      k_SUBSIDIARY
    else
      k_PROJECT
set_option maxRecDepth 65536 in
set_option maxHeartbeats 40000000 in
theorem rm2 (l : Launch) (Z : State) (a0 : Array Value) (hw : ∀ d ∈ tables_1, d.before a0 Z = true) (p0 : Int32) (h0 : Heap) (n0 : Nat) (Z0 : n0 ≤ h0.size) (k_ROOT : Addr) (k_SUBSIDIARY : Addr) (k_PROJECT : Addr) (S_ROOT : Sta Z h0 "com/example/tenantry/tenantry/Tenant$Kind" "ROOT" "Lcom/example/tenantry/tenantry/Tenant$Kind;" (.ref k_ROOT)) (S_SUBSIDIARY : Sta Z h0 "com/example/tenantry/tenantry/Tenant$Kind" "SUBSIDIARY" "Lcom/example/tenantry/tenantry/Tenant$Kind;" (.ref k_SUBSIDIARY)) (S_PROJECT : Sta Z h0 "com/example/tenantry/tenantry/Tenant$Kind" "PROJECT" "Lcom/example/tenantry/tenantry/Tenant$Kind;" (.ref k_PROJECT)) :
    own_Met l (⟨"com/example/tenantry/tenantry/RoleFitsOnPinLaw", "kind", "(I)Lcom/example/tenantry/tenantry/Tenant$Kind;"⟩ : MethodName) method_3_code 1 (some (.object "com/example/tenantry/tenantry/Tenant$Kind")) ({ frames := 0, cells := 0, slots := 0, locals := 0 } : Room) Z [] #[(.int p0)] h0 (own_P (some (.ref (own_f2 p0 k_ROOT k_SUBSIDIARY k_PROJECT))) h0 n0) := by
  refine own_enter pn_2 ?_
  intro p e s m below meth c s₁ hx hby hml hown hnm hret hlk hZ e0 X0
  rw [ef_2]
  have N0 := Fr.nil n0
  show own_Fin _ _ _ _ _ _ _ (s₁.setTop (mkF m 0 #[.val (.int p0)] []))
  refine own_go (fun _ k => XS.iloadN X0.here hx rfl (hb hby d2_0) rfl k) ?_
  show own_Fin _ _ _ _ _ _ _ (s₁.setTop (mkF m 1 #[.val (.int p0)] [(.int p0)]))
  by_cases hc1 : p0 = 0
  · refine own_go (fun _ k => XS.ifNo X0.here hx rfl (hb hby d2_1) rfl (XT.i0_ne_f hc1) k) ?_
    show own_Fin _ _ _ _ _ _ _ (s₁.setTop (mkF m 4 #[.val (.int p0)] []))
    refine own_getS X0 hx hZ hown (host := "") (Or.inl (hw _ (List.mem_of_getElem? (i := 11) rfl))) Via.refl e0 S_ROOT (hb hby d2_4) ?_
    intro T1 X1 e1
    show own_Fin _ _ _ _ _ _ _ (T1.setTop (mkF m 7 #[.val (.int p0)] [(.ref k_ROOT)]))
    exact own_retA X1 hx hlk hret rfl rfl (hb hby d2_7) (by decide) (by decide) ⟨(by rw [own_f2, if_pos hc1]), N0, e1⟩
  · refine own_go (fun _ k => XS.ifYes X0.here hx rfl (pc0 := 1) (pc' := 8) rfl (hb hby d2_1) rfl (XT.i0_ne_t hc1) (by decide) (by decide) k) ?_
    show own_Fin _ _ _ _ _ _ _ (s₁.setTop (mkF m 8 #[.val (.int p0)] []))
    refine own_go (fun _ k => XS.iloadN X0.here hx rfl (hb hby d2_8) rfl k) ?_
    show own_Fin _ _ _ _ _ _ _ (s₁.setTop (mkF m 9 #[.val (.int p0)] [(.int p0)]))
    refine own_go (fun _ k => XS.iconst X0.here hx rfl (hb hby d2_9) k) ?_
    show own_Fin _ _ _ _ _ _ _ (s₁.setTop (mkF m 10 #[.val (.int p0)] [(.int (1 : Int32)), (.int p0)]))
    by_cases hc10 : p0 = (1 : Int32)
    · refine own_go (fun _ k => XS.icmpNo X0.here hx rfl (hb hby d2_10) rfl (XT.ii_ne_f hc10) k) ?_
      show own_Fin _ _ _ _ _ _ _ (s₁.setTop (mkF m 13 #[.val (.int p0)] []))
      refine own_getS X0 hx hZ hown (host := "") (Or.inl (hw _ (List.mem_of_getElem? (i := 23) rfl))) Via.refl e0 S_SUBSIDIARY (hb hby d2_13) ?_
      intro T2 X2 e2
      show own_Fin _ _ _ _ _ _ _ (T2.setTop (mkF m 16 #[.val (.int p0)] [(.ref k_SUBSIDIARY)]))
      exact own_retA X2 hx hlk hret rfl rfl (hb hby d2_16) (by decide) (by decide) ⟨(by rw [own_f2, if_neg hc1, if_pos hc10]), N0, e2⟩
    · refine own_go (fun _ k => XS.icmpYes X0.here hx rfl (pc0 := 10) (pc' := 17) rfl (hb hby d2_10) rfl (XT.ii_ne_t hc10) (by decide) (by decide) k) ?_
      show own_Fin _ _ _ _ _ _ _ (s₁.setTop (mkF m 17 #[.val (.int p0)] []))
      refine own_getS X0 hx hZ hown (host := "") (Or.inl (hw _ (List.mem_of_getElem? (i := 26) rfl))) Via.refl e0 S_PROJECT (hb hby d2_17) ?_
      intro T3 X3 e3
      show own_Fin _ _ _ _ _ _ _ (T3.setTop (mkF m 20 #[.val (.int p0)] [(.ref k_PROJECT)]))
      exact own_retA X3 hx hlk hret rfl rfl (hb hby d2_20) (by decide) (by decide) ⟨(by rw [own_f2, if_neg hc1, if_neg hc10]), N0, e3⟩

theorem d3_0 : decode prog_21_method_7_code 0 = .ok (.aload_n 1, 1) := by decide +kernel
theorem d3_1 : decode prog_21_method_7_code 1 = .ok (.aload_n 0, 1) := by decide +kernel
theorem d3_2 : decode prog_21_method_7_code 2 = .ok (.getfield 42, 3) := by decide +kernel
theorem d3_5 : decode prog_21_method_7_code 5 = .ok (.if_acmp .ne 7, 3) := by decide +kernel
theorem d3_8 : decode prog_21_method_7_code 8 = .ok (.iconst 1, 1) := by decide +kernel
theorem d3_9 : decode prog_21_method_7_code 9 = .ok (.goto 4, 3) := by decide +kernel
theorem d3_12 : decode prog_21_method_7_code 12 = .ok (.iconst 0, 1) := by decide +kernel
theorem d3_13 : decode prog_21_method_7_code 13 = .ok (.ireturn, 1) := by decide +kernel
theorem pn_3 : plainFor (⟨"com/example/tenantry/tenantry/Role", "fitsOn", "(Lcom/example/tenantry/tenantry/Tenant$Kind;)Z"⟩ : MethodName) = true := plainFor_of_name (by show plainName "com/example/tenantry/tenantry/Role" = true; first | (simp [plainName, overriddenIn]; done) | decide +kernel)
theorem ef_3 (m : MethodId) (x0 : Addr) (x1 : Addr) : entryFrame m #[(.ref x0), (.ref x1)] 2 = mkF m 0 #[.val (.ref x0), .val (.ref x1)] [] := by first | (simp [entryFrame, mkF, argsToLocals, Value.category]; done) | rfl
def own_f3 (t1 : Addr) (o0 : Addr) : Int32 :=
  if t1 = o0 then
    (1 : Int32)
  else
    (0 : Int32)
set_option maxRecDepth 65536 in
set_option maxHeartbeats 40000000 in
theorem rm3 (l : Launch) (Z : State) (a0 : Array Value) (hw : ∀ d ∈ tables_1, d.before a0 Z = true) (t0 : Addr) (t1 : Addr) (h0 : Heap) (n0 : Nat) (Z0 : n0 ≤ h0.size) (o0 : Addr) (F0 : Fld Z h0 t0 "com/example/tenantry/tenantry/Role" "heldOn" "Lcom/example/tenantry/tenantry/Tenant$Kind;" (.ref o0)) :
    own_Met l (⟨"com/example/tenantry/tenantry/Role", "fitsOn", "(Lcom/example/tenantry/tenantry/Tenant$Kind;)Z"⟩ : MethodName) prog_21_method_7_code 2 (some .boolean) ({ frames := 0, cells := 0, slots := 0, locals := 0 } : Room) Z [] #[(.ref t0), (.ref t1)] h0 (own_P (some (.int (own_f3 t1 o0))) h0 n0) := by
  refine own_enter pn_3 ?_
  intro p e s m below meth c s₁ hx hby hml hown hnm hret hlk hZ e0 X0
  rw [ef_3]
  have N0 := Fr.nil n0
  show own_Fin _ _ _ _ _ _ _ (s₁.setTop (mkF m 0 #[.val (.ref t0), .val (.ref t1)] []))
  refine own_go (fun _ k => XS.aloadN X0.here hx rfl (hb hby d3_0) rfl rfl k) ?_
  show own_Fin _ _ _ _ _ _ _ (s₁.setTop (mkF m 1 #[.val (.ref t0), .val (.ref t1)] [(.ref t1)]))
  refine own_go (fun _ k => XS.aloadN X0.here hx rfl (hb hby d3_1) rfl rfl k) ?_
  show own_Fin _ _ _ _ _ _ _ (s₁.setTop (mkF m 2 #[.val (.ref t0), .val (.ref t1)] [(.ref t0), (.ref t1)]))
  refine own_getF X0 hx hZ hown (host := "") (Or.inl (hw _ (List.mem_of_getElem? (i := 19) rfl))) Via.refl e0 F0 (hb hby d3_2) ?_
  intro T1 X1 e1
  show own_Fin _ _ _ _ _ _ _ (T1.setTop (mkF m 5 #[.val (.ref t0), .val (.ref t1)] [(.ref o0), (.ref t1)]))
  by_cases hc5 : t1 = o0
  · refine own_go (fun _ k => XT.acmpNo X1.here hx rfl (hb hby d3_5) rfl rfl rfl (XT.aa_ne_f (congrArg Value.ref hc5)) k) ?_
    show own_Fin _ _ _ _ _ _ _ (T1.setTop (mkF m 8 #[.val (.ref t0), .val (.ref t1)] []))
    refine own_go (fun _ k => XS.iconst X1.here hx rfl (hb hby d3_8) k) ?_
    show own_Fin _ _ _ _ _ _ _ (T1.setTop (mkF m 9 #[.val (.ref t0), .val (.ref t1)] [(.int (1 : Int32))]))
    refine own_go (fun _ k => XS.goto X1.here hx rfl (pc0 := 9) (pc' := 13) rfl (hb hby d3_9) (by decide) (by decide) k) ?_
    show own_Fin _ _ _ _ _ _ _ (T1.setTop (mkF m 13 #[.val (.ref t0), .val (.ref t1)] [(.int (1 : Int32))]))
    exact own_retZ X1 hx hlk hret rfl (hb hby d3_13) (by decide) (by decide) ⟨(by rw [own_f3, if_pos hc5]), N0, e1⟩
  · refine own_go (fun _ k => XT.acmpYes X1.here hx rfl (pc0 := 5) (pc' := 12) rfl (hb hby d3_5) rfl rfl rfl (XT.aa_ne_t (fun q => hc5 (Value.ref.inj q))) (by decide) (by decide) k) ?_
    show own_Fin _ _ _ _ _ _ _ (T1.setTop (mkF m 12 #[.val (.ref t0), .val (.ref t1)] []))
    refine own_go (fun _ k => XS.iconst X1.here hx rfl (hb hby d3_12) k) ?_
    show own_Fin _ _ _ _ _ _ _ (T1.setTop (mkF m 13 #[.val (.ref t0), .val (.ref t1)] [(.int (0 : Int32))]))
    exact own_retZ X1 hx hlk hret rfl (hb hby d3_13) (by decide) (by decide) ⟨(by rw [own_f3, if_neg hc5]), N0, e1⟩

theorem pd_0_0 : parseMethodDescriptor "(I)Lcom/example/tenantry/tenantry/Role;" = some ⟨[.int], some (.object "com/example/tenantry/tenantry/Role")⟩ := by decide +kernel
theorem pd_0_1 : parseMethodDescriptor "(I)Lcom/example/tenantry/tenantry/Tenant$Kind;" = some ⟨[.int], some (.object "com/example/tenantry/tenantry/Tenant$Kind")⟩ := by decide +kernel
theorem pd_0_2 : parseMethodDescriptor "(Lcom/example/tenantry/tenantry/Tenant$Kind;)Z" = some ⟨[(.object "com/example/tenantry/tenantry/Tenant$Kind")], some .boolean⟩ := by decide +kernel
theorem pn_0 : plainFor x = true := plainFor_of_name (by show plainName "com/example/tenantry/tenantry/RoleFitsOnPinLaw" = true; first | (simp [plainName, overriddenIn]; done) | decide +kernel)
theorem ef_0 (m : MethodId) (x0 : Int32) (x1 : Int32) : entryFrame m #[(.int x0), (.int x1)] maxLocals = mkF m 0 #[.val (.int x0), .val (.int x1), .unset, .unset, .unset] [] := by first | (simp [entryFrame, mkF, argsToLocals, Value.category, maxLocals]; done) | rfl
def own_f0_64 (p0 : Int32) (p1 : Int32) (k_ROOT : Addr) (k_SUBSIDIARY : Addr) (k_PROJECT : Addr) (k_SYSTEM_ADMIN : Addr) (k_SUBSIDIARY_ADMIN : Addr) (k_PROJECT_ADMIN : Addr) (k_TEAM_MEMBER : Addr) (b4 : Int32) : Int32 :=
  if (own_f3 (own_f2 ((p1 &&& (2147483647 : Int32)) % (3 : Int32)) k_ROOT k_SUBSIDIARY k_PROJECT) (own_held ((p0 &&& (2147483647 : Int32)) % (4 : Int32)) k_ROOT k_SUBSIDIARY k_PROJECT)) = b4 then
    (1 : Int32)
  else
    (0 : Int32)
def own_f0 (p0 : Int32) (p1 : Int32) (k_ROOT : Addr) (k_SUBSIDIARY : Addr) (k_PROJECT : Addr) (k_SYSTEM_ADMIN : Addr) (k_SUBSIDIARY_ADMIN : Addr) (k_PROJECT_ADMIN : Addr) (k_TEAM_MEMBER : Addr) : Int32 :=
  if ((p0 &&& (2147483647 : Int32)) % (4 : Int32)) = 0 then
    if ((p1 &&& (2147483647 : Int32)) % (3 : Int32)) = 0 then
      own_f0_64 p0 p1 k_ROOT k_SUBSIDIARY k_PROJECT k_SYSTEM_ADMIN k_SUBSIDIARY_ADMIN k_PROJECT_ADMIN k_TEAM_MEMBER ((1 : Int32))
    else
      own_f0_64 p0 p1 k_ROOT k_SUBSIDIARY k_PROJECT k_SYSTEM_ADMIN k_SUBSIDIARY_ADMIN k_PROJECT_ADMIN k_TEAM_MEMBER ((0 : Int32))
  else
    if ((p0 &&& (2147483647 : Int32)) % (4 : Int32)) = (1 : Int32) then
      if ((p1 &&& (2147483647 : Int32)) % (3 : Int32)) = (1 : Int32) then
        own_f0_64 p0 p1 k_ROOT k_SUBSIDIARY k_PROJECT k_SYSTEM_ADMIN k_SUBSIDIARY_ADMIN k_PROJECT_ADMIN k_TEAM_MEMBER ((1 : Int32))
      else
        own_f0_64 p0 p1 k_ROOT k_SUBSIDIARY k_PROJECT k_SYSTEM_ADMIN k_SUBSIDIARY_ADMIN k_PROJECT_ADMIN k_TEAM_MEMBER ((0 : Int32))
    else
      if ((p1 &&& (2147483647 : Int32)) % (3 : Int32)) = (2 : Int32) then
        own_f0_64 p0 p1 k_ROOT k_SUBSIDIARY k_PROJECT k_SYSTEM_ADMIN k_SUBSIDIARY_ADMIN k_PROJECT_ADMIN k_TEAM_MEMBER ((1 : Int32))
      else
        own_f0_64 p0 p1 k_ROOT k_SUBSIDIARY k_PROJECT k_SYSTEM_ADMIN k_SUBSIDIARY_ADMIN k_PROJECT_ADMIN k_TEAM_MEMBER ((0 : Int32))
set_option maxRecDepth 65536 in
set_option maxHeartbeats 40000000 in
theorem rm0 (l : Launch) (Z : State) (a0 : Array Value) (hw : ∀ d ∈ tables_1, d.before a0 Z = true) (p0 : Int32) (p1 : Int32) (h0 : Heap) (n0 : Nat) (Z0 : n0 ≤ h0.size) (k_ROOT : Addr) (k_SUBSIDIARY : Addr) (k_PROJECT : Addr) (k_SYSTEM_ADMIN : Addr) (k_SUBSIDIARY_ADMIN : Addr) (k_PROJECT_ADMIN : Addr) (k_TEAM_MEMBER : Addr) (S_ROOT : Sta Z h0 "com/example/tenantry/tenantry/Tenant$Kind" "ROOT" "Lcom/example/tenantry/tenantry/Tenant$Kind;" (.ref k_ROOT)) (S_SUBSIDIARY : Sta Z h0 "com/example/tenantry/tenantry/Tenant$Kind" "SUBSIDIARY" "Lcom/example/tenantry/tenantry/Tenant$Kind;" (.ref k_SUBSIDIARY)) (S_PROJECT : Sta Z h0 "com/example/tenantry/tenantry/Tenant$Kind" "PROJECT" "Lcom/example/tenantry/tenantry/Tenant$Kind;" (.ref k_PROJECT)) (S_SYSTEM_ADMIN : Sta Z h0 "com/example/tenantry/tenantry/Role" "SYSTEM_ADMIN" "Lcom/example/tenantry/tenantry/Role;" (.ref k_SYSTEM_ADMIN)) (S_SUBSIDIARY_ADMIN : Sta Z h0 "com/example/tenantry/tenantry/Role" "SUBSIDIARY_ADMIN" "Lcom/example/tenantry/tenantry/Role;" (.ref k_SUBSIDIARY_ADMIN)) (S_PROJECT_ADMIN : Sta Z h0 "com/example/tenantry/tenantry/Role" "PROJECT_ADMIN" "Lcom/example/tenantry/tenantry/Role;" (.ref k_PROJECT_ADMIN)) (S_TEAM_MEMBER : Sta Z h0 "com/example/tenantry/tenantry/Role" "TEAM_MEMBER" "Lcom/example/tenantry/tenantry/Role;" (.ref k_TEAM_MEMBER)) (E_SYSTEM_ADMIN : Exa Z h0 k_SYSTEM_ADMIN "com/example/tenantry/tenantry/Role") (E_SUBSIDIARY_ADMIN : Exa Z h0 k_SUBSIDIARY_ADMIN "com/example/tenantry/tenantry/Role") (E_PROJECT_ADMIN : Exa Z h0 k_PROJECT_ADMIN "com/example/tenantry/tenantry/Role") (E_TEAM_MEMBER : Exa Z h0 k_TEAM_MEMBER "com/example/tenantry/tenantry/Role") (F_SYSTEM_ADMIN_heldOn : Fld Z h0 k_SYSTEM_ADMIN "com/example/tenantry/tenantry/Role" "heldOn" "Lcom/example/tenantry/tenantry/Tenant$Kind;" (.ref k_ROOT)) (F_SUBSIDIARY_ADMIN_heldOn : Fld Z h0 k_SUBSIDIARY_ADMIN "com/example/tenantry/tenantry/Role" "heldOn" "Lcom/example/tenantry/tenantry/Tenant$Kind;" (.ref k_SUBSIDIARY)) (F_PROJECT_ADMIN_heldOn : Fld Z h0 k_PROJECT_ADMIN "com/example/tenantry/tenantry/Role" "heldOn" "Lcom/example/tenantry/tenantry/Tenant$Kind;" (.ref k_PROJECT)) (F_TEAM_MEMBER_heldOn : Fld Z h0 k_TEAM_MEMBER "com/example/tenantry/tenantry/Role" "heldOn" "Lcom/example/tenantry/tenantry/Tenant$Kind;" (.ref k_PROJECT)) :
    own_Met l x code maxLocals ret room_1 Z tables_1 #[(.int p0), (.int p1)] h0 (own_P (some (.int (own_f0 p0 p1 k_ROOT k_SUBSIDIARY k_PROJECT k_SYSTEM_ADMIN k_SUBSIDIARY_ADMIN k_PROJECT_ADMIN k_TEAM_MEMBER))) h0 n0) := by
  refine own_enter pn_0 ?_
  intro p e s m below meth c s₁ hx hby hml hown hnm hret hlk hZ e0 X0
  rw [ef_0]
  have N0 := Fr.nil n0
  have hml : c.maxLocals = 5 := hml
  show own_Fin _ _ _ _ _ _ _ (s₁.setTop (mkF m 0 #[.val (.int p0), .val (.int p1), .unset, .unset, .unset] []))
  refine own_go (fun _ k => XS.iloadN X0.here hx rfl (hb hby at_0) rfl k) ?_
  show own_Fin _ _ _ _ _ _ _ (s₁.setTop (mkF m 1 #[.val (.int p0), .val (.int p1), .unset, .unset, .unset] [(.int p0)]))
  refine own_go (fun _ k => X0.ldcI hx hown (mvT hZ (hw _ (List.mem_of_getElem? (i := 0) rfl))) rfl (hb hby at_1) k) ?_
  show own_Fin _ _ _ _ _ _ _ (s₁.setTop (mkF m 3 #[.val (.int p0), .val (.int p1), .unset, .unset, .unset] [(.int (2147483647 : Int32)), (.int p0)]))
  refine own_go (fun _ k => XS.iand X0.here hx rfl (hb hby at_3) rfl k) ?_
  show own_Fin _ _ _ _ _ _ _ (s₁.setTop (mkF m 4 #[.val (.int p0), .val (.int p1), .unset, .unset, .unset] [(.int (p0 &&& (2147483647 : Int32)))]))
  refine own_go (fun _ k => XS.iconst X0.here hx rfl (hb hby at_4) k) ?_
  show own_Fin _ _ _ _ _ _ _ (s₁.setTop (mkF m 5 #[.val (.int p0), .val (.int p1), .unset, .unset, .unset] [(.int (4 : Int32)), (.int (p0 &&& (2147483647 : Int32)))]))
  refine own_go (fun _ k => iremM X0 hx rfl (hb hby at_5) rfl (by decide) k) ?_
  show own_Fin _ _ _ _ _ _ _ (s₁.setTop (mkF m 6 #[.val (.int p0), .val (.int p1), .unset, .unset, .unset] [(.int ((p0 &&& (2147483647 : Int32)) % (4 : Int32)))]))
  refine own_go (fun _ k => XS.istoreN X0.here hx rfl (hb hby at_6) rfl (l' := #[.val (.int p0), .val (.int p1), .val (.int ((p0 &&& (2147483647 : Int32)) % (4 : Int32))), .unset, .unset]) rfl k) ?_
  show own_Fin _ _ _ _ _ _ _ (s₁.setTop (mkF m 7 #[.val (.int p0), .val (.int p1), .val (.int ((p0 &&& (2147483647 : Int32)) % (4 : Int32))), .unset, .unset] []))
  refine own_go (fun _ k => XS.iloadN X0.here hx rfl (hb hby at_7) rfl k) ?_
  show own_Fin _ _ _ _ _ _ _ (s₁.setTop (mkF m 8 #[.val (.int p0), .val (.int p1), .val (.int ((p0 &&& (2147483647 : Int32)) % (4 : Int32))), .unset, .unset] [(.int p1)]))
  refine own_go (fun _ k => X0.ldcI hx hown (mvT hZ (hw _ (List.mem_of_getElem? (i := 0) rfl))) rfl (hb hby at_8) k) ?_
  show own_Fin _ _ _ _ _ _ _ (s₁.setTop (mkF m 10 #[.val (.int p0), .val (.int p1), .val (.int ((p0 &&& (2147483647 : Int32)) % (4 : Int32))), .unset, .unset] [(.int (2147483647 : Int32)), (.int p1)]))
  refine own_go (fun _ k => XS.iand X0.here hx rfl (hb hby at_10) rfl k) ?_
  show own_Fin _ _ _ _ _ _ _ (s₁.setTop (mkF m 11 #[.val (.int p0), .val (.int p1), .val (.int ((p0 &&& (2147483647 : Int32)) % (4 : Int32))), .unset, .unset] [(.int (p1 &&& (2147483647 : Int32)))]))
  refine own_go (fun _ k => XS.iconst X0.here hx rfl (hb hby at_11) k) ?_
  show own_Fin _ _ _ _ _ _ _ (s₁.setTop (mkF m 12 #[.val (.int p0), .val (.int p1), .val (.int ((p0 &&& (2147483647 : Int32)) % (4 : Int32))), .unset, .unset] [(.int (3 : Int32)), (.int (p1 &&& (2147483647 : Int32)))]))
  refine own_go (fun _ k => iremM X0 hx rfl (hb hby at_12) rfl (by decide) k) ?_
  show own_Fin _ _ _ _ _ _ _ (s₁.setTop (mkF m 13 #[.val (.int p0), .val (.int p1), .val (.int ((p0 &&& (2147483647 : Int32)) % (4 : Int32))), .unset, .unset] [(.int ((p1 &&& (2147483647 : Int32)) % (3 : Int32)))]))
  refine own_go (fun _ k => XS.istoreN X0.here hx rfl (hb hby at_13) rfl (l' := #[.val (.int p0), .val (.int p1), .val (.int ((p0 &&& (2147483647 : Int32)) % (4 : Int32))), .val (.int ((p1 &&& (2147483647 : Int32)) % (3 : Int32))), .unset]) rfl k) ?_
  show own_Fin _ _ _ _ _ _ _ (s₁.setTop (mkF m 14 #[.val (.int p0), .val (.int p1), .val (.int ((p0 &&& (2147483647 : Int32)) % (4 : Int32))), .val (.int ((p1 &&& (2147483647 : Int32)) % (3 : Int32))), .unset] []))
  refine own_go (fun _ k => XS.iloadN X0.here hx rfl (hb hby at_14) rfl k) ?_
  show own_Fin _ _ _ _ _ _ _ (s₁.setTop (mkF m 15 #[.val (.int p0), .val (.int p1), .val (.int ((p0 &&& (2147483647 : Int32)) % (4 : Int32))), .val (.int ((p1 &&& (2147483647 : Int32)) % (3 : Int32))), .unset] [(.int ((p0 &&& (2147483647 : Int32)) % (4 : Int32)))]))
  have J64 : ∀ (TJ64 : State) (locsJ64 : List Loc) (b4 : Int32), Stand p l e room_1 s m #[(.int p0), (.int p1)] below meth c TJ64 locsJ64 0 0 → Fr n0 locsJ64 → TJ64.heap = h0 → (own_f0 p0 p1 k_ROOT k_SUBSIDIARY k_PROJECT k_SYSTEM_ADMIN k_SUBSIDIARY_ADMIN k_PROJECT_ADMIN k_TEAM_MEMBER) = own_f0_64 p0 p1 k_ROOT k_SUBSIDIARY k_PROJECT k_SYSTEM_ADMIN k_SUBSIDIARY_ADMIN k_PROJECT_ADMIN k_TEAM_MEMBER b4 → own_Fin p e below s (own_P (some (.int (own_f0 p0 p1 k_ROOT k_SUBSIDIARY k_PROJECT k_SYSTEM_ADMIN k_SUBSIDIARY_ADMIN k_PROJECT_ADMIN k_TEAM_MEMBER))) h0 n0) room_1.cells room_1.slots (TJ64.setTop (mkF m 64 #[.val (.int p0), .val (.int p1), .val (.int ((p0 &&& (2147483647 : Int32)) % (4 : Int32))), .val (.int ((p1 &&& (2147483647 : Int32)) % (3 : Int32))), .val (.int b4)] [])) := by
    intro TJ64 locsJ64 b4 XJ64 NJ64 eJ64 hjJ64
    refine own_go (fun _ k => XS.iloadN XJ64.here hx rfl (hb hby at_64) rfl k) ?_
    show own_Fin _ _ _ _ _ _ _ (TJ64.setTop (mkF m 65 #[.val (.int p0), .val (.int p1), .val (.int ((p0 &&& (2147483647 : Int32)) % (4 : Int32))), .val (.int ((p1 &&& (2147483647 : Int32)) % (3 : Int32))), .val (.int b4)] [(.int ((p0 &&& (2147483647 : Int32)) % (4 : Int32)))]))
    refine own_callS XJ64 hx hZ hown (hw _ (List.mem_of_getElem? (i := 1) rfl)) (hw _ (List.mem_of_getElem? (i := 2) rfl)) (hw _ (List.mem_of_getElem? (i := 3) rfl)) (hw _ (List.mem_of_getElem? (i := 4) rfl)) (by decide) (rm1 l Z a0 hw ((p0 &&& (2147483647 : Int32)) % (4 : Int32)) h0 n0 Z0 k_SYSTEM_ADMIN k_SUBSIDIARY_ADMIN k_PROJECT_ADMIN k_TEAM_MEMBER S_SYSTEM_ADMIN S_SUBSIDIARY_ADMIN S_PROJECT_ADMIN S_TEAM_MEMBER) eJ64 (argsL := [(.int ((p0 &&& (2147483647 : Int32)) % (4 : Int32)))]) (rest := []) rfl rfl (by rw [hml]; rfl) (lenOf pd_0_0 rfl) (hb hby at_65) (W := 0) (Nat.le_of_eq rfl) (by decide) (by decide) (by decide) (by decide) ?_
    rintro v1 T1 L1 X1 ⟨rfl, M1, e1⟩
    have N1 := Fr.app NJ64 M1
    have E1 : Exa Z h0 (own_f1 ((p0 &&& (2147483647 : Int32)) % (4 : Int32)) k_SYSTEM_ADMIN k_SUBSIDIARY_ADMIN k_PROJECT_ADMIN k_TEAM_MEMBER) "com/example/tenantry/tenantry/Role" := own_pick (P := fun z => Exa Z h0 z _) _ _ _ _ _ E_SYSTEM_ADMIN E_SUBSIDIARY_ADMIN E_PROJECT_ADMIN E_TEAM_MEMBER
    have F1 : Fld Z h0 (own_f1 ((p0 &&& (2147483647 : Int32)) % (4 : Int32)) k_SYSTEM_ADMIN k_SUBSIDIARY_ADMIN k_PROJECT_ADMIN k_TEAM_MEMBER) "com/example/tenantry/tenantry/Role" "heldOn" "Lcom/example/tenantry/tenantry/Tenant$Kind;" (.ref (own_held ((p0 &&& (2147483647 : Int32)) % (4 : Int32)) k_ROOT k_SUBSIDIARY k_PROJECT)) := own_pickF _ _ _ _ _ _ _ _ F_SYSTEM_ADMIN_heldOn F_SUBSIDIARY_ADMIN_heldOn F_PROJECT_ADMIN_heldOn F_TEAM_MEMBER_heldOn
    show own_Fin _ _ _ _ _ _ _ (T1.setTop (mkF m 68 #[.val (.int p0), .val (.int p1), .val (.int ((p0 &&& (2147483647 : Int32)) % (4 : Int32))), .val (.int ((p1 &&& (2147483647 : Int32)) % (3 : Int32))), .val (.int b4)] [(.ref (own_f1 ((p0 &&& (2147483647 : Int32)) % (4 : Int32)) k_SYSTEM_ADMIN k_SUBSIDIARY_ADMIN k_PROJECT_ADMIN k_TEAM_MEMBER))]))
    refine own_go (fun _ k => XS.iloadN X1.here hx rfl (hb hby at_68) rfl k) ?_
    show own_Fin _ _ _ _ _ _ _ (T1.setTop (mkF m 69 #[.val (.int p0), .val (.int p1), .val (.int ((p0 &&& (2147483647 : Int32)) % (4 : Int32))), .val (.int ((p1 &&& (2147483647 : Int32)) % (3 : Int32))), .val (.int b4)] [(.int ((p1 &&& (2147483647 : Int32)) % (3 : Int32))), (.ref (own_f1 ((p0 &&& (2147483647 : Int32)) % (4 : Int32)) k_SYSTEM_ADMIN k_SUBSIDIARY_ADMIN k_PROJECT_ADMIN k_TEAM_MEMBER))]))
    refine own_callS X1 hx hZ hown (hw _ (List.mem_of_getElem? (i := 8) rfl)) (hw _ (List.mem_of_getElem? (i := 9) rfl)) (hw _ (List.mem_of_getElem? (i := 3) rfl)) (hw _ (List.mem_of_getElem? (i := 10) rfl)) (by decide) (rm2 l Z a0 hw ((p1 &&& (2147483647 : Int32)) % (3 : Int32)) h0 n0 Z0 k_ROOT k_SUBSIDIARY k_PROJECT S_ROOT S_SUBSIDIARY S_PROJECT) e1 (argsL := [(.int ((p1 &&& (2147483647 : Int32)) % (3 : Int32)))]) (rest := [(.ref (own_f1 ((p0 &&& (2147483647 : Int32)) % (4 : Int32)) k_SYSTEM_ADMIN k_SUBSIDIARY_ADMIN k_PROJECT_ADMIN k_TEAM_MEMBER))]) rfl rfl (by rw [hml]; rfl) (lenOf pd_0_1 rfl) (hb hby at_69) (W := 1) (Nat.le_of_eq rfl) (by decide) (by decide) (by decide) (by decide) ?_
    rintro v2 T2 L2 X2 ⟨rfl, M2, e2⟩
    have N2 := Fr.app N1 M2
    show own_Fin _ _ _ _ _ _ _ (T2.setTop (mkF m 72 #[.val (.int p0), .val (.int p1), .val (.int ((p0 &&& (2147483647 : Int32)) % (4 : Int32))), .val (.int ((p1 &&& (2147483647 : Int32)) % (3 : Int32))), .val (.int b4)] [(.ref (own_f2 ((p1 &&& (2147483647 : Int32)) % (3 : Int32)) k_ROOT k_SUBSIDIARY k_PROJECT)), (.ref (own_f1 ((p0 &&& (2147483647 : Int32)) % (4 : Int32)) k_SYSTEM_ADMIN k_SUBSIDIARY_ADMIN k_PROJECT_ADMIN k_TEAM_MEMBER))]))
    refine own_callV X2 hx hZ hown (hw _ (List.mem_of_getElem? (i := 14) rfl)) (hw _ (List.mem_of_getElem? (i := 15) rfl)) (notFace_of_selects (args := #[]) (mvT hZ (hw _ (List.mem_of_getElem? (i := 17) rfl)))) (hw _ (List.mem_of_getElem? (i := 17) rfl)) (hw _ (List.mem_of_getElem? (i := 16) rfl)) (hw _ (List.mem_of_getElem? (i := 18) rfl)) (hw _ (List.mem_of_getElem? (i := 6) rfl)) (by decide) (rm3 l Z a0 hw (own_f1 ((p0 &&& (2147483647 : Int32)) % (4 : Int32)) k_SYSTEM_ADMIN k_SUBSIDIARY_ADMIN k_PROJECT_ADMIN k_TEAM_MEMBER) (own_f2 ((p1 &&& (2147483647 : Int32)) % (3 : Int32)) k_ROOT k_SUBSIDIARY k_PROJECT) h0 n0 Z0 (own_held ((p0 &&& (2147483647 : Int32)) % (4 : Int32)) k_ROOT k_SUBSIDIARY k_PROJECT) F1) e2 E1 (argsL := [(.ref (own_f2 ((p1 &&& (2147483647 : Int32)) % (3 : Int32)) k_ROOT k_SUBSIDIARY k_PROJECT))]) (rest := []) rfl rfl (by rw [hml]; rfl) (lenOf pd_0_2 rfl) (hb hby at_72) (W := 0) (Nat.le_of_eq rfl) (by decide) (by decide) (by decide) (by decide) ?_
    rintro v3 T3 L3 X3 ⟨rfl, M3, e3⟩
    have N3 := Fr.app N2 M3
    show own_Fin _ _ _ _ _ _ _ (T3.setTop (mkF m 75 #[.val (.int p0), .val (.int p1), .val (.int ((p0 &&& (2147483647 : Int32)) % (4 : Int32))), .val (.int ((p1 &&& (2147483647 : Int32)) % (3 : Int32))), .val (.int b4)] [(.int (own_f3 (own_f2 ((p1 &&& (2147483647 : Int32)) % (3 : Int32)) k_ROOT k_SUBSIDIARY k_PROJECT) (own_held ((p0 &&& (2147483647 : Int32)) % (4 : Int32)) k_ROOT k_SUBSIDIARY k_PROJECT)))]))
    refine own_go (fun _ k => XS.iload X3.here hx rfl (hb hby at_75) rfl k) ?_
    show own_Fin _ _ _ _ _ _ _ (T3.setTop (mkF m 77 #[.val (.int p0), .val (.int p1), .val (.int ((p0 &&& (2147483647 : Int32)) % (4 : Int32))), .val (.int ((p1 &&& (2147483647 : Int32)) % (3 : Int32))), .val (.int b4)] [(.int b4), (.int (own_f3 (own_f2 ((p1 &&& (2147483647 : Int32)) % (3 : Int32)) k_ROOT k_SUBSIDIARY k_PROJECT) (own_held ((p0 &&& (2147483647 : Int32)) % (4 : Int32)) k_ROOT k_SUBSIDIARY k_PROJECT)))]))
    by_cases hc77 : (own_f3 (own_f2 ((p1 &&& (2147483647 : Int32)) % (3 : Int32)) k_ROOT k_SUBSIDIARY k_PROJECT) (own_held ((p0 &&& (2147483647 : Int32)) % (4 : Int32)) k_ROOT k_SUBSIDIARY k_PROJECT)) = b4
    · refine own_go (fun _ k => XS.icmpNo X3.here hx rfl (hb hby at_77) rfl (XT.ii_ne_f hc77) k) ?_
      show own_Fin _ _ _ _ _ _ _ (T3.setTop (mkF m 80 #[.val (.int p0), .val (.int p1), .val (.int ((p0 &&& (2147483647 : Int32)) % (4 : Int32))), .val (.int ((p1 &&& (2147483647 : Int32)) % (3 : Int32))), .val (.int b4)] []))
      refine own_go (fun _ k => XS.iconst X3.here hx rfl (hb hby at_80) k) ?_
      show own_Fin _ _ _ _ _ _ _ (T3.setTop (mkF m 81 #[.val (.int p0), .val (.int p1), .val (.int ((p0 &&& (2147483647 : Int32)) % (4 : Int32))), .val (.int ((p1 &&& (2147483647 : Int32)) % (3 : Int32))), .val (.int b4)] [(.int (1 : Int32))]))
      refine own_go (fun _ k => XS.goto X3.here hx rfl (pc0 := 81) (pc' := 85) rfl (hb hby at_81) (by decide) (by decide) k) ?_
      show own_Fin _ _ _ _ _ _ _ (T3.setTop (mkF m 85 #[.val (.int p0), .val (.int p1), .val (.int ((p0 &&& (2147483647 : Int32)) % (4 : Int32))), .val (.int ((p1 &&& (2147483647 : Int32)) % (3 : Int32))), .val (.int b4)] [(.int (1 : Int32))]))
      exact own_retZ X3 hx hlk hret rfl (hb hby at_85) (by decide) (by decide) ⟨(by rw [hjJ64, own_f0_64, if_pos hc77]), N3, e3⟩
    · refine own_go (fun _ k => XS.icmpYes X3.here hx rfl (pc0 := 77) (pc' := 84) rfl (hb hby at_77) rfl (XT.ii_ne_t hc77) (by decide) (by decide) k) ?_
      show own_Fin _ _ _ _ _ _ _ (T3.setTop (mkF m 84 #[.val (.int p0), .val (.int p1), .val (.int ((p0 &&& (2147483647 : Int32)) % (4 : Int32))), .val (.int ((p1 &&& (2147483647 : Int32)) % (3 : Int32))), .val (.int b4)] []))
      refine own_go (fun _ k => XS.iconst X3.here hx rfl (hb hby at_84) k) ?_
      show own_Fin _ _ _ _ _ _ _ (T3.setTop (mkF m 85 #[.val (.int p0), .val (.int p1), .val (.int ((p0 &&& (2147483647 : Int32)) % (4 : Int32))), .val (.int ((p1 &&& (2147483647 : Int32)) % (3 : Int32))), .val (.int b4)] [(.int (0 : Int32))]))
      exact own_retZ X3 hx hlk hret rfl (hb hby at_85) (by decide) (by decide) ⟨(by rw [hjJ64, own_f0_64, if_neg hc77]), N3, e3⟩
  by_cases hc15 : ((p0 &&& (2147483647 : Int32)) % (4 : Int32)) = 0
  · refine own_go (fun _ k => XS.ifNo X0.here hx rfl (hb hby at_15) rfl (XT.i0_ne_f hc15) k) ?_
    show own_Fin _ _ _ _ _ _ _ (s₁.setTop (mkF m 18 #[.val (.int p0), .val (.int p1), .val (.int ((p0 &&& (2147483647 : Int32)) % (4 : Int32))), .val (.int ((p1 &&& (2147483647 : Int32)) % (3 : Int32))), .unset] []))
    refine own_go (fun _ k => XS.iloadN X0.here hx rfl (hb hby at_18) rfl k) ?_
    show own_Fin _ _ _ _ _ _ _ (s₁.setTop (mkF m 19 #[.val (.int p0), .val (.int p1), .val (.int ((p0 &&& (2147483647 : Int32)) % (4 : Int32))), .val (.int ((p1 &&& (2147483647 : Int32)) % (3 : Int32))), .unset] [(.int ((p1 &&& (2147483647 : Int32)) % (3 : Int32)))]))
    by_cases hc19 : ((p1 &&& (2147483647 : Int32)) % (3 : Int32)) = 0
    · refine own_go (fun _ k => XS.ifNo X0.here hx rfl (hb hby at_19) rfl (XT.i0_ne_f hc19) k) ?_
      show own_Fin _ _ _ _ _ _ _ (s₁.setTop (mkF m 22 #[.val (.int p0), .val (.int p1), .val (.int ((p0 &&& (2147483647 : Int32)) % (4 : Int32))), .val (.int ((p1 &&& (2147483647 : Int32)) % (3 : Int32))), .unset] []))
      refine own_go (fun _ k => XS.iconst X0.here hx rfl (hb hby at_22) k) ?_
      show own_Fin _ _ _ _ _ _ _ (s₁.setTop (mkF m 23 #[.val (.int p0), .val (.int p1), .val (.int ((p0 &&& (2147483647 : Int32)) % (4 : Int32))), .val (.int ((p1 &&& (2147483647 : Int32)) % (3 : Int32))), .unset] [(.int (1 : Int32))]))
      refine own_go (fun _ k => XS.goto X0.here hx rfl (pc0 := 23) (pc' := 27) rfl (hb hby at_23) (by decide) (by decide) k) ?_
      show own_Fin _ _ _ _ _ _ _ (s₁.setTop (mkF m 27 #[.val (.int p0), .val (.int p1), .val (.int ((p0 &&& (2147483647 : Int32)) % (4 : Int32))), .val (.int ((p1 &&& (2147483647 : Int32)) % (3 : Int32))), .unset] [(.int (1 : Int32))]))
      refine own_go (fun _ k => XS.istore X0.here hx rfl (hb hby at_27) rfl (l' := #[.val (.int p0), .val (.int p1), .val (.int ((p0 &&& (2147483647 : Int32)) % (4 : Int32))), .val (.int ((p1 &&& (2147483647 : Int32)) % (3 : Int32))), .val (.int (1 : Int32))]) rfl k) ?_
      show own_Fin _ _ _ _ _ _ _ (s₁.setTop (mkF m 29 #[.val (.int p0), .val (.int p1), .val (.int ((p0 &&& (2147483647 : Int32)) % (4 : Int32))), .val (.int ((p1 &&& (2147483647 : Int32)) % (3 : Int32))), .val (.int (1 : Int32))] []))
      refine own_go (fun _ k => XS.goto X0.here hx rfl (pc0 := 29) (pc' := 64) rfl (hb hby at_29) (by decide) (by decide) k) ?_
      show own_Fin _ _ _ _ _ _ _ (s₁.setTop (mkF m 64 #[.val (.int p0), .val (.int p1), .val (.int ((p0 &&& (2147483647 : Int32)) % (4 : Int32))), .val (.int ((p1 &&& (2147483647 : Int32)) % (3 : Int32))), .val (.int (1 : Int32))] []))
      exact J64 _ _ ((1 : Int32)) X0 N0 e0 (by rw [own_f0, if_pos hc15, if_pos hc19])
    · refine own_go (fun _ k => XS.ifYes X0.here hx rfl (pc0 := 19) (pc' := 26) rfl (hb hby at_19) rfl (XT.i0_ne_t hc19) (by decide) (by decide) k) ?_
      show own_Fin _ _ _ _ _ _ _ (s₁.setTop (mkF m 26 #[.val (.int p0), .val (.int p1), .val (.int ((p0 &&& (2147483647 : Int32)) % (4 : Int32))), .val (.int ((p1 &&& (2147483647 : Int32)) % (3 : Int32))), .unset] []))
      refine own_go (fun _ k => XS.iconst X0.here hx rfl (hb hby at_26) k) ?_
      show own_Fin _ _ _ _ _ _ _ (s₁.setTop (mkF m 27 #[.val (.int p0), .val (.int p1), .val (.int ((p0 &&& (2147483647 : Int32)) % (4 : Int32))), .val (.int ((p1 &&& (2147483647 : Int32)) % (3 : Int32))), .unset] [(.int (0 : Int32))]))
      refine own_go (fun _ k => XS.istore X0.here hx rfl (hb hby at_27) rfl (l' := #[.val (.int p0), .val (.int p1), .val (.int ((p0 &&& (2147483647 : Int32)) % (4 : Int32))), .val (.int ((p1 &&& (2147483647 : Int32)) % (3 : Int32))), .val (.int (0 : Int32))]) rfl k) ?_
      show own_Fin _ _ _ _ _ _ _ (s₁.setTop (mkF m 29 #[.val (.int p0), .val (.int p1), .val (.int ((p0 &&& (2147483647 : Int32)) % (4 : Int32))), .val (.int ((p1 &&& (2147483647 : Int32)) % (3 : Int32))), .val (.int (0 : Int32))] []))
      refine own_go (fun _ k => XS.goto X0.here hx rfl (pc0 := 29) (pc' := 64) rfl (hb hby at_29) (by decide) (by decide) k) ?_
      show own_Fin _ _ _ _ _ _ _ (s₁.setTop (mkF m 64 #[.val (.int p0), .val (.int p1), .val (.int ((p0 &&& (2147483647 : Int32)) % (4 : Int32))), .val (.int ((p1 &&& (2147483647 : Int32)) % (3 : Int32))), .val (.int (0 : Int32))] []))
      exact J64 _ _ ((0 : Int32)) X0 N0 e0 (by rw [own_f0, if_pos hc15, if_neg hc19])
  · refine own_go (fun _ k => XS.ifYes X0.here hx rfl (pc0 := 15) (pc' := 32) rfl (hb hby at_15) rfl (XT.i0_ne_t hc15) (by decide) (by decide) k) ?_
    show own_Fin _ _ _ _ _ _ _ (s₁.setTop (mkF m 32 #[.val (.int p0), .val (.int p1), .val (.int ((p0 &&& (2147483647 : Int32)) % (4 : Int32))), .val (.int ((p1 &&& (2147483647 : Int32)) % (3 : Int32))), .unset] []))
    refine own_go (fun _ k => XS.iloadN X0.here hx rfl (hb hby at_32) rfl k) ?_
    show own_Fin _ _ _ _ _ _ _ (s₁.setTop (mkF m 33 #[.val (.int p0), .val (.int p1), .val (.int ((p0 &&& (2147483647 : Int32)) % (4 : Int32))), .val (.int ((p1 &&& (2147483647 : Int32)) % (3 : Int32))), .unset] [(.int ((p0 &&& (2147483647 : Int32)) % (4 : Int32)))]))
    refine own_go (fun _ k => XS.iconst X0.here hx rfl (hb hby at_33) k) ?_
    show own_Fin _ _ _ _ _ _ _ (s₁.setTop (mkF m 34 #[.val (.int p0), .val (.int p1), .val (.int ((p0 &&& (2147483647 : Int32)) % (4 : Int32))), .val (.int ((p1 &&& (2147483647 : Int32)) % (3 : Int32))), .unset] [(.int (1 : Int32)), (.int ((p0 &&& (2147483647 : Int32)) % (4 : Int32)))]))
    by_cases hc34 : ((p0 &&& (2147483647 : Int32)) % (4 : Int32)) = (1 : Int32)
    · refine own_go (fun _ k => XS.icmpNo X0.here hx rfl (hb hby at_34) rfl (XT.ii_ne_f hc34) k) ?_
      show own_Fin _ _ _ _ _ _ _ (s₁.setTop (mkF m 37 #[.val (.int p0), .val (.int p1), .val (.int ((p0 &&& (2147483647 : Int32)) % (4 : Int32))), .val (.int ((p1 &&& (2147483647 : Int32)) % (3 : Int32))), .unset] []))
      refine own_go (fun _ k => XS.iloadN X0.here hx rfl (hb hby at_37) rfl k) ?_
      show own_Fin _ _ _ _ _ _ _ (s₁.setTop (mkF m 38 #[.val (.int p0), .val (.int p1), .val (.int ((p0 &&& (2147483647 : Int32)) % (4 : Int32))), .val (.int ((p1 &&& (2147483647 : Int32)) % (3 : Int32))), .unset] [(.int ((p1 &&& (2147483647 : Int32)) % (3 : Int32)))]))
      refine own_go (fun _ k => XS.iconst X0.here hx rfl (hb hby at_38) k) ?_
      show own_Fin _ _ _ _ _ _ _ (s₁.setTop (mkF m 39 #[.val (.int p0), .val (.int p1), .val (.int ((p0 &&& (2147483647 : Int32)) % (4 : Int32))), .val (.int ((p1 &&& (2147483647 : Int32)) % (3 : Int32))), .unset] [(.int (1 : Int32)), (.int ((p1 &&& (2147483647 : Int32)) % (3 : Int32)))]))
      by_cases hc39 : ((p1 &&& (2147483647 : Int32)) % (3 : Int32)) = (1 : Int32)
      · refine own_go (fun _ k => XS.icmpNo X0.here hx rfl (hb hby at_39) rfl (XT.ii_ne_f hc39) k) ?_
        show own_Fin _ _ _ _ _ _ _ (s₁.setTop (mkF m 42 #[.val (.int p0), .val (.int p1), .val (.int ((p0 &&& (2147483647 : Int32)) % (4 : Int32))), .val (.int ((p1 &&& (2147483647 : Int32)) % (3 : Int32))), .unset] []))
        refine own_go (fun _ k => XS.iconst X0.here hx rfl (hb hby at_42) k) ?_
        show own_Fin _ _ _ _ _ _ _ (s₁.setTop (mkF m 43 #[.val (.int p0), .val (.int p1), .val (.int ((p0 &&& (2147483647 : Int32)) % (4 : Int32))), .val (.int ((p1 &&& (2147483647 : Int32)) % (3 : Int32))), .unset] [(.int (1 : Int32))]))
        refine own_go (fun _ k => XS.goto X0.here hx rfl (pc0 := 43) (pc' := 47) rfl (hb hby at_43) (by decide) (by decide) k) ?_
        show own_Fin _ _ _ _ _ _ _ (s₁.setTop (mkF m 47 #[.val (.int p0), .val (.int p1), .val (.int ((p0 &&& (2147483647 : Int32)) % (4 : Int32))), .val (.int ((p1 &&& (2147483647 : Int32)) % (3 : Int32))), .unset] [(.int (1 : Int32))]))
        refine own_go (fun _ k => XS.istore X0.here hx rfl (hb hby at_47) rfl (l' := #[.val (.int p0), .val (.int p1), .val (.int ((p0 &&& (2147483647 : Int32)) % (4 : Int32))), .val (.int ((p1 &&& (2147483647 : Int32)) % (3 : Int32))), .val (.int (1 : Int32))]) rfl k) ?_
        show own_Fin _ _ _ _ _ _ _ (s₁.setTop (mkF m 49 #[.val (.int p0), .val (.int p1), .val (.int ((p0 &&& (2147483647 : Int32)) % (4 : Int32))), .val (.int ((p1 &&& (2147483647 : Int32)) % (3 : Int32))), .val (.int (1 : Int32))] []))
        refine own_go (fun _ k => XS.goto X0.here hx rfl (pc0 := 49) (pc' := 64) rfl (hb hby at_49) (by decide) (by decide) k) ?_
        show own_Fin _ _ _ _ _ _ _ (s₁.setTop (mkF m 64 #[.val (.int p0), .val (.int p1), .val (.int ((p0 &&& (2147483647 : Int32)) % (4 : Int32))), .val (.int ((p1 &&& (2147483647 : Int32)) % (3 : Int32))), .val (.int (1 : Int32))] []))
        exact J64 _ _ ((1 : Int32)) X0 N0 e0 (by rw [own_f0, if_neg hc15, if_pos hc34, if_pos hc39])
      · refine own_go (fun _ k => XS.icmpYes X0.here hx rfl (pc0 := 39) (pc' := 46) rfl (hb hby at_39) rfl (XT.ii_ne_t hc39) (by decide) (by decide) k) ?_
        show own_Fin _ _ _ _ _ _ _ (s₁.setTop (mkF m 46 #[.val (.int p0), .val (.int p1), .val (.int ((p0 &&& (2147483647 : Int32)) % (4 : Int32))), .val (.int ((p1 &&& (2147483647 : Int32)) % (3 : Int32))), .unset] []))
        refine own_go (fun _ k => XS.iconst X0.here hx rfl (hb hby at_46) k) ?_
        show own_Fin _ _ _ _ _ _ _ (s₁.setTop (mkF m 47 #[.val (.int p0), .val (.int p1), .val (.int ((p0 &&& (2147483647 : Int32)) % (4 : Int32))), .val (.int ((p1 &&& (2147483647 : Int32)) % (3 : Int32))), .unset] [(.int (0 : Int32))]))
        refine own_go (fun _ k => XS.istore X0.here hx rfl (hb hby at_47) rfl (l' := #[.val (.int p0), .val (.int p1), .val (.int ((p0 &&& (2147483647 : Int32)) % (4 : Int32))), .val (.int ((p1 &&& (2147483647 : Int32)) % (3 : Int32))), .val (.int (0 : Int32))]) rfl k) ?_
        show own_Fin _ _ _ _ _ _ _ (s₁.setTop (mkF m 49 #[.val (.int p0), .val (.int p1), .val (.int ((p0 &&& (2147483647 : Int32)) % (4 : Int32))), .val (.int ((p1 &&& (2147483647 : Int32)) % (3 : Int32))), .val (.int (0 : Int32))] []))
        refine own_go (fun _ k => XS.goto X0.here hx rfl (pc0 := 49) (pc' := 64) rfl (hb hby at_49) (by decide) (by decide) k) ?_
        show own_Fin _ _ _ _ _ _ _ (s₁.setTop (mkF m 64 #[.val (.int p0), .val (.int p1), .val (.int ((p0 &&& (2147483647 : Int32)) % (4 : Int32))), .val (.int ((p1 &&& (2147483647 : Int32)) % (3 : Int32))), .val (.int (0 : Int32))] []))
        exact J64 _ _ ((0 : Int32)) X0 N0 e0 (by rw [own_f0, if_neg hc15, if_pos hc34, if_neg hc39])
    · refine own_go (fun _ k => XS.icmpYes X0.here hx rfl (pc0 := 34) (pc' := 52) rfl (hb hby at_34) rfl (XT.ii_ne_t hc34) (by decide) (by decide) k) ?_
      show own_Fin _ _ _ _ _ _ _ (s₁.setTop (mkF m 52 #[.val (.int p0), .val (.int p1), .val (.int ((p0 &&& (2147483647 : Int32)) % (4 : Int32))), .val (.int ((p1 &&& (2147483647 : Int32)) % (3 : Int32))), .unset] []))
      refine own_go (fun _ k => XS.iloadN X0.here hx rfl (hb hby at_52) rfl k) ?_
      show own_Fin _ _ _ _ _ _ _ (s₁.setTop (mkF m 53 #[.val (.int p0), .val (.int p1), .val (.int ((p0 &&& (2147483647 : Int32)) % (4 : Int32))), .val (.int ((p1 &&& (2147483647 : Int32)) % (3 : Int32))), .unset] [(.int ((p1 &&& (2147483647 : Int32)) % (3 : Int32)))]))
      refine own_go (fun _ k => XS.iconst X0.here hx rfl (hb hby at_53) k) ?_
      show own_Fin _ _ _ _ _ _ _ (s₁.setTop (mkF m 54 #[.val (.int p0), .val (.int p1), .val (.int ((p0 &&& (2147483647 : Int32)) % (4 : Int32))), .val (.int ((p1 &&& (2147483647 : Int32)) % (3 : Int32))), .unset] [(.int (2 : Int32)), (.int ((p1 &&& (2147483647 : Int32)) % (3 : Int32)))]))
      by_cases hc54 : ((p1 &&& (2147483647 : Int32)) % (3 : Int32)) = (2 : Int32)
      · refine own_go (fun _ k => XS.icmpNo X0.here hx rfl (hb hby at_54) rfl (XT.ii_ne_f hc54) k) ?_
        show own_Fin _ _ _ _ _ _ _ (s₁.setTop (mkF m 57 #[.val (.int p0), .val (.int p1), .val (.int ((p0 &&& (2147483647 : Int32)) % (4 : Int32))), .val (.int ((p1 &&& (2147483647 : Int32)) % (3 : Int32))), .unset] []))
        refine own_go (fun _ k => XS.iconst X0.here hx rfl (hb hby at_57) k) ?_
        show own_Fin _ _ _ _ _ _ _ (s₁.setTop (mkF m 58 #[.val (.int p0), .val (.int p1), .val (.int ((p0 &&& (2147483647 : Int32)) % (4 : Int32))), .val (.int ((p1 &&& (2147483647 : Int32)) % (3 : Int32))), .unset] [(.int (1 : Int32))]))
        refine own_go (fun _ k => XS.goto X0.here hx rfl (pc0 := 58) (pc' := 62) rfl (hb hby at_58) (by decide) (by decide) k) ?_
        show own_Fin _ _ _ _ _ _ _ (s₁.setTop (mkF m 62 #[.val (.int p0), .val (.int p1), .val (.int ((p0 &&& (2147483647 : Int32)) % (4 : Int32))), .val (.int ((p1 &&& (2147483647 : Int32)) % (3 : Int32))), .unset] [(.int (1 : Int32))]))
        refine own_go (fun _ k => XS.istore X0.here hx rfl (hb hby at_62) rfl (l' := #[.val (.int p0), .val (.int p1), .val (.int ((p0 &&& (2147483647 : Int32)) % (4 : Int32))), .val (.int ((p1 &&& (2147483647 : Int32)) % (3 : Int32))), .val (.int (1 : Int32))]) rfl k) ?_
        show own_Fin _ _ _ _ _ _ _ (s₁.setTop (mkF m 64 #[.val (.int p0), .val (.int p1), .val (.int ((p0 &&& (2147483647 : Int32)) % (4 : Int32))), .val (.int ((p1 &&& (2147483647 : Int32)) % (3 : Int32))), .val (.int (1 : Int32))] []))
        exact J64 _ _ ((1 : Int32)) X0 N0 e0 (by rw [own_f0, if_neg hc15, if_neg hc34, if_pos hc54])
      · refine own_go (fun _ k => XS.icmpYes X0.here hx rfl (pc0 := 54) (pc' := 61) rfl (hb hby at_54) rfl (XT.ii_ne_t hc54) (by decide) (by decide) k) ?_
        show own_Fin _ _ _ _ _ _ _ (s₁.setTop (mkF m 61 #[.val (.int p0), .val (.int p1), .val (.int ((p0 &&& (2147483647 : Int32)) % (4 : Int32))), .val (.int ((p1 &&& (2147483647 : Int32)) % (3 : Int32))), .unset] []))
        refine own_go (fun _ k => XS.iconst X0.here hx rfl (hb hby at_61) k) ?_
        show own_Fin _ _ _ _ _ _ _ (s₁.setTop (mkF m 62 #[.val (.int p0), .val (.int p1), .val (.int ((p0 &&& (2147483647 : Int32)) % (4 : Int32))), .val (.int ((p1 &&& (2147483647 : Int32)) % (3 : Int32))), .unset] [(.int (0 : Int32))]))
        refine own_go (fun _ k => XS.istore X0.here hx rfl (hb hby at_62) rfl (l' := #[.val (.int p0), .val (.int p1), .val (.int ((p0 &&& (2147483647 : Int32)) % (4 : Int32))), .val (.int ((p1 &&& (2147483647 : Int32)) % (3 : Int32))), .val (.int (0 : Int32))]) rfl k) ?_
        show own_Fin _ _ _ _ _ _ _ (s₁.setTop (mkF m 64 #[.val (.int p0), .val (.int p1), .val (.int ((p0 &&& (2147483647 : Int32)) % (4 : Int32))), .val (.int ((p1 &&& (2147483647 : Int32)) % (3 : Int32))), .val (.int (0 : Int32))] []))
        exact J64 _ _ ((0 : Int32)) X0 N0 e0 (by rw [own_f0, if_neg hc15, if_neg hc34, if_neg hc54])

theorem own_m31 (a : Int32) : (a &&& (2147483647 : Int32)).toInt = a.toInt % 2147483648 := Jvm.Kit.i32_mask a 2147483647 (k := 31) (by decide) (by decide)
theorem own_mod (a k : Int32) : ((a &&& (2147483647 : Int32)) % k).toInt = (a.toInt % 2147483648) % k.toInt := by
  rw [Jvm.Kit.i32_rem_nonneg (by rw [own_m31]; omega), own_m31]
theorem own_mod3 (a : Int32) : (a &&& (2147483647 : Int32)) % (3 : Int32) = 0 ∨ (a &&& (2147483647 : Int32)) % (3 : Int32) = 1 ∨ (a &&& (2147483647 : Int32)) % (3 : Int32) = 2 := by
  have e := own_mod a 3
  have e3 : (3 : Int32).toInt = 3 := by decide
  rw [e3] at e
  have h : (a.toInt % 2147483648) % 3 = 0 ∨ (a.toInt % 2147483648) % 3 = 1 ∨ (a.toInt % 2147483648) % 3 = 2 := by omega
  rcases h with h | h | h <;> rw [h] at e
  · exact Or.inl (Int32.toInt_inj.mp e)
  · exact Or.inr (Or.inl (Int32.toInt_inj.mp e))
  · exact Or.inr (Or.inr (Int32.toInt_inj.mp e))
theorem own_mod4 (a : Int32) : (a &&& (2147483647 : Int32)) % (4 : Int32) = 0 ∨ (a &&& (2147483647 : Int32)) % (4 : Int32) = 1 ∨ (a &&& (2147483647 : Int32)) % (4 : Int32) = 2 ∨ (a &&& (2147483647 : Int32)) % (4 : Int32) = 3 := by
  have e := own_mod a 4
  have e3 : (4 : Int32).toInt = 4 := by decide
  rw [e3] at e
  have h : (a.toInt % 2147483648) % 4 = 0 ∨ (a.toInt % 2147483648) % 4 = 1 ∨ (a.toInt % 2147483648) % 4 = 2 ∨ (a.toInt % 2147483648) % 4 = 3 := by omega
  rcases h with h | h | h | h <;> rw [h] at e
  · exact Or.inl (Int32.toInt_inj.mp e)
  · exact Or.inr (Or.inl (Int32.toInt_inj.mp e))
  · exact Or.inr (Or.inr (Or.inl (Int32.toInt_inj.mp e)))
  · exact Or.inr (Or.inr (Or.inr (Int32.toInt_inj.mp e)))
theorem own_law (a b : Int32) (kR kS kP r1 r2 r3 r4 : Addr) (n1 : kR ≠ kS) (n2 : kR ≠ kP) (n3 : kS ≠ kP) : own_f0 a b kR kS kP r1 r2 r3 r4 = 1 := by
  unfold own_f0 own_f0_64
  have hp := own_mod4 a
  have hc := own_mod3 b
  generalize (a &&& (2147483647 : Int32)) % (4 : Int32) = p at *
  generalize (b &&& (2147483647 : Int32)) % (3 : Int32) = c at *
  have n1' := n1.symm
  have n2' := n2.symm
  have n3' := n3.symm
  rcases hp with rfl | rfl | rfl | rfl <;> rcases hc with rfl | rfl | rfl <;> simp [own_f2, own_f3, own_held, n1, n2, n3, n1', n2', n3']

set_option maxRecDepth 65536 in
set_option maxHeartbeats 40000000 in
theorem comes_1 {Post : Tables → Env → Array Value → State → Outcome → State → Prop} (hpost : ∀ tb e args s v u, (limb_1_1.after args s (.returned v) u = true ∧ limb_1_2.after args s (.returned v) u = true ∧ True) → FrameEnd s (.returned v) u (Jvm.fieldLocs frame_1_writes args s ++ Jvm.arrayLocs frame_1_arrays args s ++ Jvm.staticLocs frame_1_statics s) 0 0 → Post tb e args s (.returned v) u) :
    ArmFor flags0 classFile x code maxLocals ret World_1 tables_1 room_1 Calls_1 rest_1 Pre_1 Post := by
  intro l hfl _ _ p e ha hc hk s m args below hf hA hF happ hP
  obtain ⟨hcalls, hrest, hpre⟩ := hP
  obtain ⟨-, -, -, hnamed, -, -, -, hat⟩ := (Spec.applies_iff hf).mp happ
  obtain ⟨hg, hn⟩ := and_e (Cond.before_iff.mp (show (Jvm.Cond.and given_1 narrow_1).before args s = true from hpre))
  obtain ⟨gg1, gg2⟩ := and_e hg
  obtain ⟨gg3, gg4⟩ := and_e gg2
  obtain ⟨w0, w1, rfl⟩ : ∃ w0 w1 : Value, args = #[w0, w1] := by
    have hs : args.size = 2 := by simpa [Cond.value, given_1] using gg1
    obtain ⟨L⟩ := args
    match L, hs with
    | [w0, w1], _ => exact ⟨w0, w1, rfl⟩
  have hw := fun d (hd : d ∈ tables_1) => atoms_spec (ws := Jvm.Cond.code x code maxLocals ret :: tables_1) hat d (List.mem_cons_of_mem _ hd)
  have hfit : Fit s := fun {y c} hc i hi => by
    obtain ⟨ha, rfl⟩ := Array.getElem?_eq_some_iff.mp hc
    have q := List.all_eq_true.mp ((Array.all_eq_true_iff_forall_mem.mp hF) _ (Array.getElem_mem ha)) i (List.mem_range.mpr hi)
    simpa [Array.getElem?_eq_getElem hi] using q
  obtain ⟨i0, ei0⟩ := is_v gg3
  obtain rfl : w0 = (.int i0) := Option.some.inj ei0
  obtain ⟨i1, ei1⟩ := is_v gg4
  obtain rfl : w1 = (.int i1) := Option.some.inj ei1
  obtain ⟨nw1, nw2⟩ := and_e hn
  obtain ⟨nw3, nw4⟩ := and_e nw2
  obtain ⟨nw5, nw6⟩ := and_e nw4
  obtain ⟨nw7, nw8⟩ := and_e nw6
  obtain ⟨nw9, nw10⟩ := and_e nw8
  obtain ⟨nw11, nw12⟩ := and_e nw10
  obtain ⟨nw13, nw14⟩ := and_e nw12
  obtain ⟨nw15, nw16⟩ := and_e nw14
  obtain ⟨nw17, nw18⟩ := and_e nw16
  obtain ⟨nw19, nw20⟩ := and_e nw18
  obtain ⟨nw21, nw22⟩ := and_e nw20
  obtain ⟨nw23, nw24⟩ := and_e nw22
  obtain ⟨nw25, nw26⟩ := and_e nw24
  obtain ⟨k_SYSTEM_ADMIN, ev_SYSTEM_ADMIN⟩ := exa_v nw1
  have E_SYSTEM_ADMIN := Exa.start ev_SYSTEM_ADMIN nw1
  have S_SYSTEM_ADMIN := Sta.start ev_SYSTEM_ADMIN (Or.inr ⟨(hw _ (List.mem_of_getElem? (i := 6) rfl)), (hw _ (List.mem_of_getElem? (i := 7) rfl))⟩)
  obtain ⟨k_ROOT, ev_ROOT⟩ := exa_v nw3
  have E_ROOT := Exa.start ev_ROOT nw3
  have S_ROOT := Sta.start ev_ROOT (Or.inr ⟨(hw _ (List.mem_of_getElem? (i := 12) rfl)), (hw _ (List.mem_of_getElem? (i := 13) rfl))⟩)
  obtain ⟨k_PROJECT_ADMIN, ev_PROJECT_ADMIN⟩ := exa_v nw7
  have E_PROJECT_ADMIN := Exa.start ev_PROJECT_ADMIN nw7
  have S_PROJECT_ADMIN := Sta.start ev_PROJECT_ADMIN (Or.inr ⟨(hw _ (List.mem_of_getElem? (i := 6) rfl)), (hw _ (List.mem_of_getElem? (i := 22) rfl))⟩)
  obtain ⟨k_SUBSIDIARY, ev_SUBSIDIARY⟩ := exa_v nw9
  have E_SUBSIDIARY := Exa.start ev_SUBSIDIARY nw9
  have S_SUBSIDIARY := Sta.start ev_SUBSIDIARY (Or.inr ⟨(hw _ (List.mem_of_getElem? (i := 12) rfl)), (hw _ (List.mem_of_getElem? (i := 24) rfl))⟩)
  obtain ⟨k_PROJECT, ev_PROJECT⟩ := exa_v nw11
  have E_PROJECT := Exa.start ev_PROJECT nw11
  have S_PROJECT := Sta.start ev_PROJECT (Or.inr ⟨(hw _ (List.mem_of_getElem? (i := 12) rfl)), (hw _ (List.mem_of_getElem? (i := 25) rfl))⟩)
  obtain ⟨k_SUBSIDIARY_ADMIN, ev_SUBSIDIARY_ADMIN⟩ := exa_v nw21
  have E_SUBSIDIARY_ADMIN := Exa.start ev_SUBSIDIARY_ADMIN nw21
  have S_SUBSIDIARY_ADMIN := Sta.start ev_SUBSIDIARY_ADMIN (Or.inr ⟨(hw _ (List.mem_of_getElem? (i := 6) rfl)), (hw _ (List.mem_of_getElem? (i := 28) rfl))⟩)
  obtain ⟨k_TEAM_MEMBER, ev_TEAM_MEMBER⟩ := exa_v nw25
  have E_TEAM_MEMBER := Exa.start ev_TEAM_MEMBER nw25
  have S_TEAM_MEMBER := Sta.start ev_TEAM_MEMBER (Or.inr ⟨(hw _ (List.mem_of_getElem? (i := 6) rfl)), (hw _ (List.mem_of_getElem? (i := 30) rfl))⟩)
  have F_SYSTEM_ADMIN_heldOn := own_fldR nw5 ev_SYSTEM_ADMIN ev_ROOT
  have F_PROJECT_ADMIN_heldOn := own_fldR nw13 ev_PROJECT_ADMIN ev_PROJECT
  have F_SUBSIDIARY_ordinal := own_fldI nw15 ev_SUBSIDIARY
  have F_PROJECT_ordinal := own_fldI nw17 ev_PROJECT
  have F_ROOT_ordinal := own_fldI nw19 ev_ROOT
  have F_SUBSIDIARY_ADMIN_heldOn := own_fldR nw23 ev_SUBSIDIARY_ADMIN ev_SUBSIDIARY
  have F_TEAM_MEMBER_heldOn := own_fldR nw26 ev_TEAM_MEMBER ev_PROJECT
  obtain ⟨n, o, h1, h2, h3, _, L, rfl, ⟨rfl, N, -⟩, hq⟩ := rm0 l s _ hw i0 i1 s.heap s.heap.size (Nat.le_refl _) k_ROOT k_SUBSIDIARY k_PROJECT k_SYSTEM_ADMIN k_SUBSIDIARY_ADMIN k_PROJECT_ADMIN k_TEAM_MEMBER S_ROOT S_SUBSIDIARY S_PROJECT S_SYSTEM_ADMIN S_SUBSIDIARY_ADMIN S_PROJECT_ADMIN S_TEAM_MEMBER E_SYSTEM_ADMIN E_SUBSIDIARY_ADMIN E_PROJECT_ADMIN E_TEAM_MEMBER F_SYSTEM_ADMIN_heldOn F_SUBSIDIARY_ADMIN_heldOn F_PROJECT_ADMIN_heldOn F_TEAM_MEMBER_heldOn p e ha hc hk s m _ below hf ((Spec.applies_iff_loose hf).mp happ).1 ⟨rfl, State.Warmed39.refl s, rfl⟩ trivial
  refine ⟨n, _, h1, h2, h3, hpost _ _ _ _ _ _ ⟨Cond.after_iff.mpr rfl, Cond.after_iff.mpr (eq_i res_at (Term.int_eval (1)) (congrArg Value.int (own_law _ _ _ _ _ _ _ _ _ (F_ROOT_ordinal.ne F_SUBSIDIARY_ordinal (by decide)) (F_ROOT_ordinal.ne F_PROJECT_ordinal (by decide)) (F_SUBSIDIARY_ordinal.ne F_PROJECT_ordinal (by decide))))), trivial⟩ ⟨hq.1, hq.2.1, (hq.2.2.sift fun y hy => Or.inr (N y hy)).mono (by decide) (by decide)⟩⟩
theorem main_1_1 : Claimed_1_1 := comes_1 fun _ _ _ _ _ _ h hF => ⟨h.1, hF⟩
theorem main_1_2 : Claimed_1_2 := comes_1 fun _ _ _ _ _ _ h hF => ⟨h.2.1, hF⟩

end Jvm.Pilot.@@N@@
namespace Jvm.Pilot.@@N@@
open Jvm Jvm.ClassFile Sem Op Lib Jvm.Free Jvm.Stand Jvm.Pilot.@@N@@.Jvm.D
/-! MADE BY PROGRAM (witnessworld.py) out of the Statement's table words and the real class files: 13 classes; the members and pool entries that the words name. The judged class is class 1, her method 3. -/
namespace start1
open Jvm.ClassFile
def u (s : String) : CpInfo := .utf8 (stringToUtf16 s)
/-- a pool by its gaps: so many unusable entries, then the entry; so many at the end -/
def gap : Nat → List CpInfo → List CpInfo
  | 0, r => r
  | n + 1, r => .unusable :: gap n r
def poolList (es : List (Nat × CpInfo)) (last : Nat) : List CpInfo := es.foldr (fun e r => gap e.1 (e.2 :: r)) (gap last [])
def pool (es : List (Nat × CpInfo)) (last : Nat) : Array CpInfo := ⟨poolList es last⟩
def fileOf (pool : Array CpInfo) (this : Nat) (attrs : Array Attribute := #[]) (ms : Array MethodInfo := #[]) (fl : Nat := 33) (sup : Nat := 0) (ifs : Array Nat := #[]) (fds : Array FieldInfo := #[]) : ClassFile where
  minorVersion := 0
  majorVersion := 65
  constantPool := pool
  accessFlags := fl
  thisClass := this
  superClass := sup
  interfaces := ifs
  fields := fds
  methods := ms
  attributes := attrs
def plain (name : String) (sup : Option ClassId) : Class where
  name := name
  kind := .ordinary
  loader := none
  accessFlags := 33
  super := sup
  interfaces := #[]
  cf := none
  fields := #[]
  methods := #[]
  instanceTypes := #[]
  staticTypes := #[]
  resolved := #[]
  callSites := []
  init := .initialized
  statics := none
  mirror := none

def pool0 : Array CpInfo := pool [(5, u "<init>"), (0, u "()V"), (1, .class_ 10), (1, u "java/lang/Object")] 113

def k0m0 : Method := { name := "<init>", desc := "()V", sig := { parameters := [], returnType := none }, accessFlags := 1, code := none }
/-- java/lang/Object -/
def k0 : Class := { plain "java/lang/Object" none with
  accessFlags := 33
  interfaces := #[]
  cf := some (fileOf pool0 8 #[] #[{ accessFlags := 1, nameIndex := 5, descriptorIndex := 6, attributes := #[] }] 33 0 #[] #[])
  fields := #[]
  methods := #[k0m0]
  instanceTypes := #[]
  staticTypes := #[]
  resolved := Array.replicate 124 none
  statics := none }

def pool1 : Array CpInfo := pool [(2, .class_ 4), (1, u "java/lang/Object"), (0, u "<init>"), (0, u "()V"), (0, .fieldref 8 9), (0, .class_ 10), (0, .nameAndType 11 12), (0, u "com/example/tenantry/tenantry/Role"), (0, u "SYSTEM_ADMIN"), (0, u "Lcom/example/tenantry/tenantry/Role;"), (0, .fieldref 8 14), (0, .nameAndType 15 12), (0, u "SUBSIDIARY_ADMIN"), (0, .fieldref 8 17), (0, .nameAndType 18 12), (0, u "PROJECT_ADMIN"), (0, .fieldref 8 20), (0, .nameAndType 21 12), (0, u "TEAM_MEMBER"), (0, .fieldref 23 24), (0, .class_ 25), (0, .nameAndType 26 27), (0, u "com/example/tenantry/tenantry/Tenant$Kind"), (0, u "ROOT"), (0, u "Lcom/example/tenantry/tenantry/Tenant$Kind;"), (0, .fieldref 23 29), (0, .nameAndType 30 27), (0, u "SUBSIDIARY"), (0, .fieldref 23 32), (0, .nameAndType 33 27), (0, u "PROJECT"), (0, .integer 2147483647), (0, .methodref 36 37), (0, .class_ 38), (0, .nameAndType 39 40), (0, u "com/example/tenantry/tenantry/RoleFitsOnPinLaw"), (0, u "role"), (0, u "(I)Lcom/example/tenantry/tenantry/Role;"), (0, .methodref 36 42), (0, .nameAndType 43 44), (0, u "kind"), (0, u "(I)Lcom/example/tenantry/tenantry/Tenant$Kind;"), (0, .methodref 8 46), (0, .nameAndType 47 48), (0, u "fitsOn"), (0, u "(Lcom/example/tenantry/tenantry/Tenant$Kind;)Z"), (3, u "law"), (0, u "(II)Z")] 6

def k1m0 : Method := { name := "<init>", desc := "()V", sig := { parameters := [], returnType := none }, accessFlags := 1, code := none }
def k1c1 : Code := { maxStack := 2, maxLocals := 1, code := method_2_code, exceptionTable := #[], attributes := #[] }
def k1m1 : Method := { name := "role", desc := "(I)Lcom/example/tenantry/tenantry/Role;", sig := { parameters := [.int], returnType := some (.object "com/example/tenantry/tenantry/Role") }, accessFlags := 10, code := some k1c1 }
def k1c2 : Code := { maxStack := 2, maxLocals := 1, code := method_3_code, exceptionTable := #[], attributes := #[] }
def k1m2 : Method := { name := "kind", desc := "(I)Lcom/example/tenantry/tenantry/Tenant$Kind;", sig := { parameters := [.int], returnType := some (.object "com/example/tenantry/tenantry/Tenant$Kind") }, accessFlags := 10, code := some k1c2 }
def k1c3 : Code := { maxStack := 2, maxLocals := 5, code := code, exceptionTable := #[], attributes := #[] }
def k1m3 : Method := { name := "law", desc := "(II)Z", sig := { parameters := [.int, .int], returnType := some .boolean }, accessFlags := 9, code := some k1c3 }
/-- com/example/tenantry/tenantry/RoleFitsOnPinLaw -/
def k1 : Class := { plain "com/example/tenantry/tenantry/RoleFitsOnPinLaw" (some 0) with
  accessFlags := 49
  interfaces := #[]
  cf := some (fileOf pool1 36 #[] #[{ accessFlags := 1, nameIndex := 5, descriptorIndex := 6, attributes := #[] }, { accessFlags := 10, nameIndex := 39, descriptorIndex := 40, attributes := #[] }, { accessFlags := 10, nameIndex := 43, descriptorIndex := 44, attributes := #[] }, { accessFlags := 9, nameIndex := 52, descriptorIndex := 53, attributes := #[] }] 49 2 #[] #[])
  fields := #[]
  methods := #[k1m0, k1m1, k1m2, k1m3]
  instanceTypes := #[]
  staticTypes := #[]
  resolved := Array.replicate 60 none
  statics := none }

def pool2 : Array CpInfo := pool [(1, .class_ 2), (0, u "java/lang/constant/Constable"), (0, .class_ 4), (0, u "java/lang/Object")] 6

/-- java/lang/constant/Constable -/
def k2 : Class := { plain "java/lang/constant/Constable" (some 0) with
  accessFlags := 1537
  interfaces := #[]
  cf := some (fileOf pool2 1 #[] #[] 1537 3 #[] #[])
  fields := #[]
  methods := #[]
  instanceTypes := #[]
  staticTypes := #[]
  resolved := Array.replicate 11 none
  statics := none }

def pool3 : Array CpInfo := pool [(1, .class_ 2), (0, u "java/lang/Comparable"), (0, .class_ 4), (0, u "java/lang/Object")] 7

/-- java/lang/Comparable -/
def k3 : Class := { plain "java/lang/Comparable" (some 0) with
  accessFlags := 1537
  interfaces := #[]
  cf := some (fileOf pool3 1 #[] #[] 1537 3 #[] #[])
  fields := #[]
  methods := #[]
  instanceTypes := #[]
  staticTypes := #[]
  resolved := Array.replicate 12 none
  statics := none }

def pool4 : Array CpInfo := pool [(1, .class_ 2), (0, u "java/io/Serializable"), (0, .class_ 4), (0, u "java/lang/Object")] 2

/-- java/io/Serializable -/
def k4 : Class := { plain "java/io/Serializable" (some 0) with
  accessFlags := 1537
  interfaces := #[]
  cf := some (fileOf pool4 1 #[] #[] 1537 3 #[] #[])
  fields := #[]
  methods := #[]
  instanceTypes := #[]
  staticTypes := #[]
  resolved := Array.replicate 7 none
  statics := none }

def pool5 : Array CpInfo := pool [(2, .class_ 4), (1, u "java/lang/Enum"), (0, u "name"), (0, u "Ljava/lang/String;"), (2, u "ordinal"), (0, u "I"), (1, .class_ 14), (1, u "java/lang/Object"), (4, u "hash"), (86, .class_ 108), (1, u "java/lang/Enum$EnumDesc"), (2, .class_ 112), (0, u "java/lang/constant/Constable"), (0, .class_ 114), (0, u "java/lang/Comparable"), (0, .class_ 116), (0, u "java/io/Serializable")] 87

/-- java/lang/Enum -/
def k5 : Class := { plain "java/lang/Enum" (some 0) with
  accessFlags := 1057
  interfaces := #[2, 3, 4]
  cf := some (fileOf pool5 2 #[.nestMembers #[106]] #[] 1057 12 #[111, 113, 115] #[{ accessFlags := 18, nameIndex := 5, descriptorIndex := 6, attributes := #[] }, { accessFlags := 18, nameIndex := 9, descriptorIndex := 10, attributes := #[] }, { accessFlags := 2, nameIndex := 19, descriptorIndex := 10, attributes := #[] }])
  fields := #[{ name := "name", type := (.object "java/lang/String"), accessFlags := 18, slot := 0, constantValue := 0 }, { name := "ordinal", type := .int, accessFlags := 18, slot := 1, constantValue := 0 }, { name := "hash", type := .int, accessFlags := 2, slot := 2, constantValue := 0 }]
  methods := #[]
  instanceTypes := #[(.object "java/lang/String"), .int, .int]
  staticTypes := #[]
  resolved := Array.replicate 204 none
  statics := none }

def pool6 : Array CpInfo := pool [(1, .class_ 2), (0, u "com/example/tenantry/tenantry/Role"), (2, u "SYSTEM_ADMIN"), (0, u "Lcom/example/tenantry/tenantry/Role;"), (2, u "SUBSIDIARY_ADMIN"), (2, u "PROJECT_ADMIN"), (2, u "TEAM_MEMBER"), (2, u "$VALUES"), (0, u "[Lcom/example/tenantry/tenantry/Role;"), (6, .class_ 28), (1, u "java/lang/Enum"), (8, u "apiName"), (0, u "Ljava/lang/String;"), (2, u "shownName"), (0, .fieldref 1 43), (0, .nameAndType 44 45), (0, u "heldOn"), (0, u "Lcom/example/tenantry/tenantry/Tenant$Kind;"), (87, u "fitsOn"), (0, u "(Lcom/example/tenantry/tenantry/Tenant$Kind;)Z")] 12

def k6c0 : Code := { maxStack := 2, maxLocals := 2, code := prog_21_method_7_code, exceptionTable := #[], attributes := #[] }
def k6m0 : Method := { name := "fitsOn", desc := "(Lcom/example/tenantry/tenantry/Tenant$Kind;)Z", sig := { parameters := [(.object "com/example/tenantry/tenantry/Tenant$Kind")], returnType := some .boolean }, accessFlags := 0, code := some k6c0 }
/-- com/example/tenantry/tenantry/Role -/
def k6 : Class := { plain "com/example/tenantry/tenantry/Role" (some 5) with
  accessFlags := 16432
  interfaces := #[]
  cf := some (fileOf pool6 1 #[] #[{ accessFlags := 0, nameIndex := 133, descriptorIndex := 134, attributes := #[] }] 16432 26 #[] #[{ accessFlags := 16409, nameIndex := 5, descriptorIndex := 6, attributes := #[] }, { accessFlags := 16409, nameIndex := 9, descriptorIndex := 6, attributes := #[] }, { accessFlags := 16409, nameIndex := 12, descriptorIndex := 6, attributes := #[] }, { accessFlags := 16409, nameIndex := 15, descriptorIndex := 6, attributes := #[] }, { accessFlags := 18, nameIndex := 37, descriptorIndex := 38, attributes := #[] }, { accessFlags := 18, nameIndex := 41, descriptorIndex := 38, attributes := #[] }, { accessFlags := 18, nameIndex := 44, descriptorIndex := 45, attributes := #[] }, { accessFlags := 4122, nameIndex := 18, descriptorIndex := 19, attributes := #[] }])
  fields := #[{ name := "SYSTEM_ADMIN", type := (.object "com/example/tenantry/tenantry/Role"), accessFlags := 16409, slot := 0, constantValue := 0 }, { name := "SUBSIDIARY_ADMIN", type := (.object "com/example/tenantry/tenantry/Role"), accessFlags := 16409, slot := 1, constantValue := 0 }, { name := "PROJECT_ADMIN", type := (.object "com/example/tenantry/tenantry/Role"), accessFlags := 16409, slot := 2, constantValue := 0 }, { name := "TEAM_MEMBER", type := (.object "com/example/tenantry/tenantry/Role"), accessFlags := 16409, slot := 3, constantValue := 0 }, { name := "apiName", type := (.object "java/lang/String"), accessFlags := 18, slot := 3, constantValue := 0 }, { name := "shownName", type := (.object "java/lang/String"), accessFlags := 18, slot := 4, constantValue := 0 }, { name := "heldOn", type := (.object "com/example/tenantry/tenantry/Tenant$Kind"), accessFlags := 18, slot := 5, constantValue := 0 }, { name := "$VALUES", type := (.array (.object "com/example/tenantry/tenantry/Role")), accessFlags := 4122, slot := 4, constantValue := 0 }]
  methods := #[k6m0]
  instanceTypes := #[(.object "java/lang/String"), .int, .int, (.object "java/lang/String"), (.object "java/lang/String"), (.object "com/example/tenantry/tenantry/Tenant$Kind")]
  staticTypes := #[(.object "com/example/tenantry/tenantry/Role"), (.object "com/example/tenantry/tenantry/Role"), (.object "com/example/tenantry/tenantry/Role"), (.object "com/example/tenantry/tenantry/Role"), (.array (.object "com/example/tenantry/tenantry/Role"))]
  resolved := Array.replicate 147 none
  statics := some 0 }

def pool7 : Array CpInfo := pool [(1, .class_ 2), (0, u "com/example/tenantry/tenantry/Tenant$Kind"), (2, u "ROOT"), (0, u "Lcom/example/tenantry/tenantry/Tenant$Kind;"), (2, u "SUBSIDIARY"), (2, u "PROJECT"), (2, u "$VALUES"), (0, u "[Lcom/example/tenantry/tenantry/Tenant$Kind;"), (6, .class_ 25), (1, u "java/lang/Enum"), (8, u "apiName"), (0, u "Ljava/lang/String;"), (58, .class_ 95), (0, u "com/example/tenantry/tenantry/Tenant")] 2

/-- com/example/tenantry/tenantry/Tenant$Kind -/
def k7 : Class := { plain "com/example/tenantry/tenantry/Tenant$Kind" (some 5) with
  accessFlags := 16432
  interfaces := #[]
  cf := some (fileOf pool7 1 #[.nestHost 94] #[] 16432 23 #[] #[{ accessFlags := 16409, nameIndex := 5, descriptorIndex := 6, attributes := #[] }, { accessFlags := 16409, nameIndex := 9, descriptorIndex := 6, attributes := #[] }, { accessFlags := 16409, nameIndex := 12, descriptorIndex := 6, attributes := #[] }, { accessFlags := 18, nameIndex := 34, descriptorIndex := 35, attributes := #[] }, { accessFlags := 4122, nameIndex := 15, descriptorIndex := 16, attributes := #[] }])
  fields := #[{ name := "ROOT", type := (.object "com/example/tenantry/tenantry/Tenant$Kind"), accessFlags := 16409, slot := 0, constantValue := 0 }, { name := "SUBSIDIARY", type := (.object "com/example/tenantry/tenantry/Tenant$Kind"), accessFlags := 16409, slot := 1, constantValue := 0 }, { name := "PROJECT", type := (.object "com/example/tenantry/tenantry/Tenant$Kind"), accessFlags := 16409, slot := 2, constantValue := 0 }, { name := "apiName", type := (.object "java/lang/String"), accessFlags := 18, slot := 3, constantValue := 0 }, { name := "$VALUES", type := (.array (.object "com/example/tenantry/tenantry/Tenant$Kind")), accessFlags := 4122, slot := 3, constantValue := 0 }]
  methods := #[]
  instanceTypes := #[(.object "java/lang/String"), .int, .int, (.object "java/lang/String")]
  staticTypes := #[(.object "com/example/tenantry/tenantry/Tenant$Kind"), (.object "com/example/tenantry/tenantry/Tenant$Kind"), (.object "com/example/tenantry/tenantry/Tenant$Kind"), (.array (.object "com/example/tenantry/tenantry/Tenant$Kind"))]
  resolved := Array.replicate 98 none
  statics := some 1 }

def pool8 : Array CpInfo := pool [(1, u "java/lang/Cloneable"), (0, .class_ 1), (0, u "java/lang/Object"), (0, .class_ 3)] 3

/-- java/lang/Cloneable -/
def k8 : Class := { plain "java/lang/Cloneable" (some 0) with
  accessFlags := 1537
  interfaces := #[]
  cf := some (fileOf pool8 2 #[] #[] 1537 4 #[] #[])
  fields := #[]
  methods := #[]
  instanceTypes := #[]
  staticTypes := #[]
  resolved := Array.replicate 8 none
  statics := none }

/-- the primitive byte -/
def k9 : Class := { plain "byte" none with kind := .primitive 'B', accessFlags := 0x411 }
/-- [B -/
def k10 : Class := { plain "[B" (some 0) with kind := .array 9 .byte, interfaces := #[8, 4], accessFlags := 1041 }

/-- the primitive int -/
def k11 : Class := { plain "int" none with kind := .primitive 'I', accessFlags := 0x411 }
/-- [I -/
def k12 : Class := { plain "[I" (some 0) with kind := .array 11 .int, interfaces := #[8, 4], accessFlags := 1041 }

def heap : Heap := #[{ cls := 6, slots := #[.ref 5, .ref 6, .ref 7, .ref 8, .null], vm := .statics 6 },
  { cls := 7, slots := #[.ref 2, .ref 3, .ref 4, .null], vm := .statics 7 },
  { cls := 7, slots := #[.null, .int 0, .int 0, .null], vm := .none },
  { cls := 7, slots := #[.null, .int 1, .int 0, .null], vm := .none },
  { cls := 7, slots := #[.null, .int 2, .int 0, .null], vm := .none },
  { cls := 6, slots := #[.null, .int 0, .int 0, .null, .null, .ref 2], vm := .none },
  { cls := 6, slots := #[.null, .int 0, .int 0, .null, .null, .ref 3], vm := .none },
  { cls := 6, slots := #[.null, .int 0, .int 0, .null, .null, .ref 4], vm := .none },
  { cls := 6, slots := #[.null, .int 0, .int 0, .null, .null, .ref 4], vm := .none }]
def classes : Array Class := #[k0, k1, k2, k3, k4, k5, k6, k7, k8, k9, k10, k11, k12]
def interned : List (Array UInt16 × Addr) := []
def slotsUsed : Nat := 45
def theMethod : MethodId := ⟨1, 3⟩
def args0 : Array Value := #[.int 5, .int 3]
def aboutOver (below : List Frame) : State where
  vm := { classes := classes, interned := interned.toArray }
  heap := heap
  slotsUsed := slotsUsed
  threads := #[{ frames := .invoking theMethod args0 :: below }]
def below0 : List Frame := [.native { method := ⟨0, 0⟩, args := #[] }]
def about1 : State := aboutOver below0
def p0 : Program := .bare "" "" ""
def e0 : Env := launch0.env 0 0 0
theorem w_frames : about1.frames = Frame.invoking theMethod args0 :: below0 := rfl
set_option maxRecDepth 65536 in
theorem w_args : argsFit about1.vm theMethod args0 = true := by decide +kernel
set_option maxRecDepth 65536 in
theorem w_heap : heapFits about1 = true := by decide +kernel
set_option maxRecDepth 65536 in
theorem w_runnable : about1.curStatus? = some .runnable := by decide +kernel
set_option maxRecDepth 65536 in
theorem w_alone : about1.alone = true := by decide +kernel
set_option maxRecDepth 65536 in
theorem w_named : about1.methodNamed? x = some theMethod := by decide +kernel
set_option maxRecDepth 65536 in
theorem w_hears : about1.hears theMethod below0 = true := by decide +kernel
set_option maxRecDepth 65536 in
theorem w_ripe : about1.ripe theMethod args0 below0 = true := by decide +kernel
theorem w_running : about1.status = .running := rfl
set_option maxRecDepth 65536 in
theorem w_room : about1.hasRoom e0.platform room_1 = true :=
  launch0.hasRoom_least _ room_1 (by decide +kernel) (by decide +kernel) (by decide +kernel) (by decide +kernel) (by decide +kernel) (by decide +kernel)
theorem allAtoms_all (ts : List Jvm.Cond) (a : Array Jvm.Value) (st : Jvm.State) : (allAtoms ts).before a st = ts.all (fun c => c.before a st) := by
  induction ts with
  | nil => rfl
  | cons c t ih =>
    show (Jvm.Cond.and c (allAtoms t)).before a st = _
    rw [Jvm.Cond.before_and, ih, List.all_cons]
def words1 : List Jvm.Cond := Jvm.Cond.code x code maxLocals ret :: tables_1
/-- a 'code' word, met by the world's own term for the bytes: nothing is compared byte by byte -/
theorem code_word {y : MethodName} {bytes : ByteArray} {mx : Nat} {rt : Option FieldType} {a : Array Value} {s : State} {m : MethodId} {meth : Method} {c : Code} (h1 : s.methodNamed? y = some m) (h2 : s.vm.method? m = some meth) (h3 : meth.code = some c) (h4 : c.code = bytes)
    (h5 : (c.maxLocals == mx && c.exceptionTable.isEmpty && decide (c.maxStack ≤ mostOperands) && decide (meth.sig.returnType = rt) && !meth.locks && decide (parseMethodDescriptor y.desc = some meth.sig)) = true) : (Jvm.Cond.code y bytes mx rt).before a s = true := by
  simp only [Bool.and_eq_true, beq_iff_eq, Bool.not_eq_true', decide_eq_true_eq] at h5
  obtain ⟨⟨⟨⟨⟨g1, g2⟩, g3⟩, g4⟩, g5⟩, g6⟩ := h5
  simp [Cond.before, Cond.holds, Cond.value, h1, h2, h3, h4, g1, g2, g3, g4, g5, g6]
def isCode : Jvm.Cond → Bool
  | .code _ _ _ _ => true
  | _ => false
theorem all_split {L : List Jvm.Cond} {P : Jvm.Cond → Bool} (h1 : L.all (fun c => isCode c || P c) = true) (h2 : ∀ c ∈ L.filter isCode, P c = true) : L.all P = true := by
  refine List.all_eq_true.mpr fun c hc => ?_
  have h := List.all_eq_true.mp h1 c hc
  rcases Bool.eq_false_or_eq_true (isCode c) with hi | hi
  · exact h2 c (List.mem_filter.mpr ⟨hc, hi⟩)
  · simpa [hi] using h
set_option maxRecDepth 65536 in
theorem w_c0 : (Jvm.Cond.code x code maxLocals ret).before args0 about1 = true := code_word (m := ⟨1, 3⟩) (meth := k1m3) (c := k1c3) (by decide +kernel) rfl rfl rfl (by decide +kernel)
set_option maxRecDepth 65536 in
theorem w_c1 : (Jvm.Cond.code ({ cls := "com/example/tenantry/tenantry/RoleFitsOnPinLaw", name := "role", desc := "(I)Lcom/example/tenantry/tenantry/Role;" } : Jvm.MethodName) method_2_code (1 : Nat) (Option.some (Jvm.ClassFile.FieldType.object "com/example/tenantry/tenantry/Role"))).before args0 about1 = true := code_word (m := ⟨1, 1⟩) (meth := k1m1) (c := k1c1) (by decide +kernel) rfl rfl rfl (by decide +kernel)
set_option maxRecDepth 65536 in
theorem w_c2 : (Jvm.Cond.code ({ cls := "com/example/tenantry/tenantry/RoleFitsOnPinLaw", name := "kind", desc := "(I)Lcom/example/tenantry/tenantry/Tenant$Kind;" } : Jvm.MethodName) method_3_code (1 : Nat) (Option.some (Jvm.ClassFile.FieldType.object "com/example/tenantry/tenantry/Tenant$Kind"))).before args0 about1 = true := code_word (m := ⟨1, 2⟩) (meth := k1m2) (c := k1c2) (by decide +kernel) rfl rfl rfl (by decide +kernel)
set_option maxRecDepth 65536 in
theorem w_c3 : (Jvm.Cond.code ({ cls := "com/example/tenantry/tenantry/Role", name := "fitsOn", desc := "(Lcom/example/tenantry/tenantry/Tenant$Kind;)Z" } : Jvm.MethodName) prog_21_method_7_code (2 : Nat) (Option.some Jvm.ClassFile.FieldType.boolean)).before args0 about1 = true := code_word (m := ⟨6, 0⟩) (meth := k6m0) (c := k6c0) (by decide +kernel) rfl rfl rfl (by decide +kernel)
def codes1 : List Jvm.Cond := [Jvm.Cond.code x code maxLocals ret, Jvm.Cond.code ({ cls := "com/example/tenantry/tenantry/RoleFitsOnPinLaw", name := "role", desc := "(I)Lcom/example/tenantry/tenantry/Role;" } : Jvm.MethodName) method_2_code (1 : Nat) (Option.some (Jvm.ClassFile.FieldType.object "com/example/tenantry/tenantry/Role")), Jvm.Cond.code ({ cls := "com/example/tenantry/tenantry/RoleFitsOnPinLaw", name := "kind", desc := "(I)Lcom/example/tenantry/tenantry/Tenant$Kind;" } : Jvm.MethodName) method_3_code (1 : Nat) (Option.some (Jvm.ClassFile.FieldType.object "com/example/tenantry/tenantry/Tenant$Kind")), Jvm.Cond.code ({ cls := "com/example/tenantry/tenantry/Role", name := "fitsOn", desc := "(Lcom/example/tenantry/tenantry/Tenant$Kind;)Z" } : Jvm.MethodName) prog_21_method_7_code (2 : Nat) (Option.some Jvm.ClassFile.FieldType.boolean)]
set_option maxRecDepth 65536 in
theorem codes_eq : words1.filter isCode = codes1 := rfl
theorem w_codes : ∀ c ∈ words1.filter isCode, c.before args0 about1 = true := by
  rw [codes_eq]
  intro c hc
  simp only [codes1, List.mem_cons, List.not_mem_nil, or_false] at hc
  rcases hc with rfl | rfl | rfl | rfl
  · exact w_c0
  · exact w_c1
  · exact w_c2
  · exact w_c3
set_option maxRecDepth 65536 in
theorem w_t1 : (words1.take 24).all (fun c => isCode c || c.before args0 about1) = true := by decide +kernel
set_option maxRecDepth 65536 in
theorem w_t2 : (words1.drop 24).all (fun c => isCode c || c.before args0 about1) = true := by decide +kernel
theorem w_tables : (allAtoms (Jvm.Cond.code x code maxLocals ret :: tables_1)).before args0 about1 = true := by
  rw [allAtoms_all]
  show words1.all (fun c => c.before args0 about1) = true
  refine all_split ?_ w_codes
  rw [← List.take_append_drop 24 words1, List.all_append, w_t1, w_t2]
  rfl
set_option maxRecDepth 65536 in
theorem w_case : (Jvm.Cond.and given_1 narrow_1).before args0 about1 = true := by decide +kernel
theorem w_applies : (headSpec (Jvm.Cond.code x code maxLocals ret :: tables_1) room_1).applies x e0.platform about1 = true :=
  (Spec.applies_iff w_frames).mpr ⟨w_running, w_runnable, w_alone, w_named, w_hears, w_ripe, w_room, w_tables⟩
theorem atStart : AtStart classFile x code maxLocals ret World_1 tables_1 room_1 Calls_1 rest_1 Pre_1 launch0 p0 e0 about1 theMethod args0 below0 :=
  ⟨lists_1, trivial, launch0.admits_env _ _ _, launch0.least_env, fairChoices_fair.cas, fairChoices_fair.clock, w_frames, w_args, w_heap, w_applies, trivial, trivial, w_case⟩
end start1
theorem witness_1 : WitnessClaimed_1 := ⟨start1.p0, start1.e0, start1.about1, start1.theMethod, start1.args0, start1.below0, start1.atStart⟩
end Jvm.Pilot.@@N@@
