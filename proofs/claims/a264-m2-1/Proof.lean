import JvmDerived
import JvmDerived.Pilot.@@N@@Statement
import JvmDerived.Pilot.@@N@@Code
set_option linter.unusedVariables false
set_option linter.unusedSimpArgs false
@@BLOCK:NumsL.lean.txt@@
namespace Jvm.Pilot.@@N@@
open Jvm Jvm.ClassFile Sem Op Lib Jvm.Free Jvm.Stand Jvm.LawKit Jvm.RoadKit Bundle Jvm.Pilot.@@N@@.Jvm.D

section Own
variable {p : Program} {l : Launch} {e : Env} {R : Room} {s : State} {m : MethodId} {args : Array Value} {below : List Frame} {meth : Method} {c : Code} {T : State} {locs : List Loc} {cells slots : Nat} {Z : State} {a0 : Array Value} {h : Heap} {Q : Option Value → Heap → List Loc → Prop} {kc kn : Nat}
/-- from U the body comes to its end, with Q -/
def own_Fin (p : Program) (e : Env) (below : List Frame) (s : State) (Q : Option Value → Heap → List Loc → Prop) (kc kn : Nat) (U : State) : Prop :=
  ∃ t o, Steps p.tables e below U t ∧ t.status = .running ∧ Ended t below o ∧ ∃ v L, o = .returned v ∧ Q v t.heap L ∧ FrameEnd s o t L kc kn
theorem own_go {U U' : State} (g : ∀ t, Steps p.tables e below U' t → Steps p.tables e below U t) (H : own_Fin p e below s Q kc kn U') : own_Fin p e below s Q kc kn U := by
  obtain ⟨t, o, h1, h2⟩ := H
  exact ⟨t, o, g t h1, h2⟩
/-- what a body that writes nothing and returns w leaves -/
def own_P (w : Option Value) (h0 : Heap) (n0 : Nat) (v : Option Value) (h : Heap) (L : List Loc) : Prop := v = w ∧ Fr n0 L ∧ h = h0
/-- a body's contract: called with as' on the heap h, it ends with Q -/
def own_Met (l : Launch) (y : MethodName) (bytes : ByteArray) (maxL : Nat) (ret : Option FieldType) (rm : Room) (Z : State) (ws : List Jvm.Cond) (as' : Array Value) (h : Heap) (Q : Option Value → Heap → List Loc → Prop) : Prop :=
  MetFree l y (head1 (Jvm.Cond.code y bytes maxL ret :: ws) rm) (fun a U => a = as' ∧ Z.Warmed39 U.vm ∧ U.heap = h) (fun _ _ _ _ _ => True) (fun _ U o U' => ∃ v L, o = .returned v ∧ Q v U'.heap L ∧ FrameEnd U o U' L rm.cells rm.slots)
theorem own_enter {y : MethodName} {bytes : ByteArray} {maxL : Nat} {ret : Option FieldType} {rm : Room} {ws : List Jvm.Cond} {as' : Array Value} (hp : plainFor y = true)
    (H : ∀ (p : Program) (e : Env) (s : State) (m : MethodId) (below : List Frame) (meth : Method) (c : Code) (s₁ : State), p.tables.exec = Jvm.exec → c.code = bytes → c.maxLocals = maxL → s.vm.findClass y.cls = some m.cls → meth.name = y.name → meth.sig.returnType = ret → meth.locks = false → Z.Warmed39 s.vm → s₁.heap = h → Stand p l e rm s m as' below meth c s₁ [] 0 0 → own_Fin p e below s Q rm.cells rm.slots (s₁.setTop (entryFrame m as' maxL))) :
    own_Met l y bytes maxL ret rm Z ws as' h Q := by
  unfold own_Met
  refine MetFree.of_bodySF hp hisR ?_
  intro p e s m args below meth c s₁ Bd hml0 hP hK
  obtain ⟨rfl, hZ, hh⟩ := hP
  exact H p e s m below meth c s₁ Bd.exec Bd.bytes hml0 (findClass_of_methodNamed Bd.named) (name_of_methodNamed Bd.named Bd.method).1 Bd.returns (BodyLoose.notSynchronized Bd) hZ (by rw [← hh, Bd.state]; rfl) (Stand.of_body Bd)
theorem own_ret (X : Stand p l e R s m args below meth c T locs cells slots) (hx : p.tables.exec = Jvm.exec) (hlk : meth.locks = false) {pc : Nat} {Ls : Array Slot} {w : Value} {t : FieldType} {i : Instr} {rest : List Value} (hret : meth.sig.returnType = some t) (hn : narrow t w = w)
    (hi : (i = .ireturn ∧ (t = .int ∨ t = .boolean ∨ t = .byte ∨ t = .char ∨ t = .short) ∧ ∃ z, w = .int z) ∨ (i = .lreturn ∧ t = .long ∧ ∃ z, w = .long z) ∨ (i = .dreturn ∧ t = .double ∧ ∃ z, w = .double z) ∨ (i = .freturn ∧ t = .float ∧ ∃ z, w = .float z) ∨ (i = .areturn ∧ t.isReference = true ∧ w.isRef = true))
    (hd : decode c.code pc = .ok (i, 1)) (hk : cells ≤ kc) (hs : slots ≤ kn) (hq : Q (some w) T.heap locs) : own_Fin p e below s Q kc kn (T.setTop (mkF m pc Ls (w :: rest))) := by
  obtain ⟨fs, hr, hrun, hended, hW, hsame⟩ := X.leave (v := some w) (fun h => by rw [hret] at h; cases h) hlk
  exact ⟨_, _, retOut X hx hret hn hi hd hr, hrun, hended, _, _, rfl, hq, ⟨_, rfl⟩, hW, hsame.mono hk hs⟩
theorem own_retI (X : Stand p l e R s m args below meth c T locs cells slots) (hx : p.tables.exec = Jvm.exec) (hlk : meth.locks = false) {pc : Nat} {Ls : Array Slot} {z : Int32} {rest : List Value} (hret : meth.sig.returnType = some .int)
    (hd : decode c.code pc = .ok (.ireturn, 1)) (hk : cells ≤ kc) (hs : slots ≤ kn) (hq : Q (some (.int z)) T.heap locs) : own_Fin p e below s Q kc kn (T.setTop (mkF m pc Ls (.int z :: rest))) :=
  own_ret X hx hlk hret rfl (Or.inl ⟨rfl, Or.inl rfl, _, rfl⟩) hd hk hs hq
theorem own_retZ (X : Stand p l e R s m args below meth c T locs cells slots) (hx : p.tables.exec = Jvm.exec) (hlk : meth.locks = false) {pc : Nat} {Ls : Array Slot} {z : Int32} {rest : List Value} (hret : meth.sig.returnType = some .boolean) (hn : narrow .boolean (.int z) = .int z)
    (hd : decode c.code pc = .ok (.ireturn, 1)) (hk : cells ≤ kc) (hs : slots ≤ kn) (hq : Q (some (.int z)) T.heap locs) : own_Fin p e below s Q kc kn (T.setTop (mkF m pc Ls (.int z :: rest))) :=
  own_ret X hx hlk hret hn (Or.inl ⟨rfl, Or.inr (Or.inl rfl), _, rfl⟩) hd hk hs hq
theorem own_retJ (X : Stand p l e R s m args below meth c T locs cells slots) (hx : p.tables.exec = Jvm.exec) (hlk : meth.locks = false) {pc : Nat} {Ls : Array Slot} {z : Int64} {rest : List Value} (hret : meth.sig.returnType = some .long)
    (hd : decode c.code pc = .ok (.lreturn, 1)) (hk : cells ≤ kc) (hs : slots ≤ kn) (hq : Q (some (.long z)) T.heap locs) : own_Fin p e below s Q kc kn (T.setTop (mkF m pc Ls (.long z :: rest))) :=
  own_ret X hx hlk hret rfl (Or.inr (Or.inl ⟨rfl, rfl, _, rfl⟩)) hd hk hs hq
theorem own_retA (X : Stand p l e R s m args below meth c T locs cells slots) (hx : p.tables.exec = Jvm.exec) (hlk : meth.locks = false) {pc : Nat} {Ls : Array Slot} {z : Addr} {t : FieldType} {rest : List Value} (hret : meth.sig.returnType = some t) (ht : t.isReference = true) (hn : narrow t (.ref z) = .ref z)
    (hd : decode c.code pc = .ok (.areturn, 1)) (hk : cells ≤ kc) (hs : slots ≤ kn) (hq : Q (some (.ref z)) T.heap locs) : own_Fin p e below s Q kc kn (T.setTop (mkF m pc Ls (.ref z :: rest))) :=
  own_ret X hx hlk hret hn (Or.inr (Or.inr (Or.inr (Or.inr ⟨rfl, ht, rfl⟩)))) hd hk hs hq
theorem own_retV (X : Stand p l e R s m args below meth c T locs cells slots) (hx : p.tables.exec = Jvm.exec) (hlk : meth.locks = false) {pc : Nat} {Ls : Array Slot} (hret : meth.sig.returnType = none)
    (hd : decode c.code pc = .ok (.return_, 1)) (hk : cells ≤ kc) (hs : slots ≤ kn) (hq : Q none T.heap locs) : own_Fin p e below s Q kc kn (T.setTop (mkF m pc Ls [])) := by
  obtain ⟨fs, hr, hrun, hended, hW, hsame⟩ := X.leave (v := none) (fun _ => rfl) hlk
  exact ⟨_, _, X.returnOut hx hret hd hr, hrun, hended, _, _, rfl, hq, ⟨_, rfl⟩, hW, hsame.mono hk hs⟩
theorem own_callS (X : Stand p l e R s m args below meth c T locs cells slots) (hx : p.tables.exec = Jvm.exec) (hZ : Z.Warmed39 s.vm) {own : String} {index : Nat} {y : MethodName} {bytes : ByteArray} {maxL : Nat} {ret : Option FieldType} {rm : Room} {as' : Array Value} {Q' : Option Value → Heap → List Loc → Prop}
    (hown : s.vm.findClass own = some m.cls) (w1 : (Jvm.Cond.methodLink own index y).before a0 Z = true) (w2 : (Jvm.Cond.static y).before a0 Z = true) (w3 : (Jvm.Cond.initialized y.cls).before a0 Z = true) (w4 : (Jvm.Cond.code y bytes maxL ret).before a0 Z = true) (hy : y.cls ≠ "java/lang/invoke/MethodHandle" ∧ y.cls ≠ "java/lang/invoke/VarHandle")
    (hM : own_Met l y bytes maxL ret rm Z [] as' h Q') (eT : T.heap = h) {pc : Nat} {Ls : Array Slot} {st argsL rest : List Value} (hst : st = argsL.reverse ++ rest) (has : argsL.toArray = as') (hsize : Ls.size = c.maxLocals) (hlen : ∀ sig, parseMethodDescriptor y.desc = some sig → argsL.length = sig.parameters.length)
    (hd : decode c.code pc = .ok (.invokestatic index, 3)) {W : Nat} (hW : (rest.map fun v => v.category).sum ≤ W) (hf : rm.frames + 1 ≤ R.frames) (hl : W + (maxL + 11) + rm.locals ≤ R.locals) (hc : cells + rm.cells ≤ R.cells) (hs : slots + rm.slots ≤ R.slots)
    (H : ∀ (v : Option Value) (T' : State) (L : List Loc), Stand p l e R s m args below meth c T' (locs ++ L) (cells + rm.cells) (slots + rm.slots) → Q' v T'.heap L → own_Fin p e below s Q kc kn (T'.setTop (mkF m (pc + 3) Ls (v.toList ++ rest)))) :
    own_Fin p e below s Q kc kn (T.setTop (mkF m pc Ls st)) := by
  subst hst
  obtain ⟨v, _, ⟨T', L', k', n'⟩, -, X', ⟨Lc, hQ, l1, y1, z1⟩, st⟩ := Jvm.LawKit.callS X hx (y := y) hown (mvT hZ w1) (mvT hZ w2) (mvT hZ w3) (mvT hZ w4) hy (backOf (W := W) hM hZ w4 w3 hf hl) (g := mkF m pc Ls (argsL.reverse ++ rest)) rfl hsize hlen rfl (by show 2 * 0 + _ ≤ _; omega) hd (fun _ _ => ⟨has, eT, hc, hs⟩)
  dsimp only [Pt.U, Pt.locs, Pt.cells, Pt.slots] at X' l1 y1 z1 st hQ
  subst l1 y1 z1
  exact own_go st (H _ _ _ X' hQ)
theorem own_callV (X : Stand p l e R s m args below meth c T locs cells slots) (hx : p.tables.exec = Jvm.exec) (hZ : Z.Warmed39 s.vm) {own C : String} {index : Nat} {y z : MethodName} {bytes : ByteArray} {maxL : Nat} {ret : Option FieldType} {rm : Room} {as' : Array Value} {Q' : Option Value → Heap → List Loc → Prop}
    (hown : s.vm.findClass own = some m.cls) (w1 : (Jvm.Cond.methodLink own index y).before a0 Z = true) (w2 : (Jvm.Cond.declares y).before a0 Z = true) (nf : NotFace s y) (w3 : (Jvm.Cond.selects C y z).before a0 Z = true) (w4 : (Jvm.Cond.instanceMethod z).before a0 Z = true) (w5 : (Jvm.Cond.code z bytes maxL ret).before a0 Z = true) (w6 : (Jvm.Cond.initialized z.cls).before a0 Z = true) (hy : y.cls ≠ "java/lang/invoke/MethodHandle" ∧ y.cls ≠ "java/lang/invoke/VarHandle")
    (hM : own_Met l z bytes maxL ret rm Z [] as' h Q') (eT : T.heap = h) {a : Addr} (E : Exa Z h a C) {pc : Nat} {Ls : Array Slot} {st argsL rest : List Value} (hst : st = argsL.reverse ++ .ref a :: rest) (has : (.ref a :: argsL).toArray = as') (hsize : Ls.size = c.maxLocals) (hlen : ∀ sig, parseMethodDescriptor y.desc = some sig → argsL.length = sig.parameters.length)
    (hd : decode c.code pc = .ok (.invokevirtual index, 3)) {W : Nat} (hW : (rest.map fun v => v.category).sum ≤ W) (hf : rm.frames + 1 ≤ R.frames) (hl : W + (maxL + 11) + rm.locals ≤ R.locals) (hc : cells + rm.cells ≤ R.cells) (hs : slots + rm.slots ≤ R.slots)
    (H : ∀ (v : Option Value) (T' : State) (L : List Loc), Stand p l e R s m args below meth c T' (locs ++ L) (cells + rm.cells) (slots + rm.slots) → Q' v T'.heap L → own_Fin p e below s Q kc kn (T'.setTop (mkF m (pc + 3) Ls (v.toList ++ rest)))) :
    own_Fin p e below s Q kc kn (T.setTop (mkF m pc Ls st)) := by
  subst hst
  obtain ⟨cB, kB, q1, q2, q3⟩ := isOf (T := T) hZ eT E
  obtain ⟨v, _, ⟨T', L', k', n'⟩, -, X', ⟨Lc, hQ, l1, y1, z1⟩, st⟩ := X.virtualBack hx (y := y) (z := z) hown (mvT hZ w1) (mvT hZ w2) nf (mvT hZ w3) (mvT hZ w4) hy (backOf (W := W) hM hZ w5 w6 hf hl) q1 q3 (g := mkF m pc Ls (argsL.reverse ++ .ref a :: rest)) rfl hsize (Steps.refl _) hlen rfl (by show 2 * 0 + _ ≤ _; omega) hd (fun _ _ => ⟨has, eT, hc, hs⟩)
  dsimp only [Pt.U, Pt.locs, Pt.cells, Pt.slots] at X' l1 y1 z1 st hQ
  subst l1 y1 z1
  exact own_go (fun _ k => st.trans k) (H _ _ _ X' hQ)
theorem own_callN (X : Stand p l e R s m args below meth c T locs cells slots) (hx : p.tables.exec = Jvm.exec) (hZ : Z.Warmed39 s.vm) {own : String} {index : Nat} {y : MethodName} {bytes : ByteArray} {maxL : Nat} {rm : Room} {as' : Array Value} {Q' : Option Value → Heap → List Loc → Prop} (hy1 : y.name = "<init>")
    (hown : s.vm.findClass own = some m.cls) (w1 : (Jvm.Cond.methodLink own index y).before a0 Z = true) (w2 : (Jvm.Cond.instanceMethod y).before a0 Z = true) (w3 : (Jvm.Cond.initialized y.cls).before a0 Z = true) (w4 : (Jvm.Cond.code y bytes maxL none).before a0 Z = true) (hy : y.cls ≠ "java/lang/invoke/MethodHandle" ∧ y.cls ≠ "java/lang/invoke/VarHandle")
    (hM : own_Met l y bytes maxL none rm Z [] as' h Q') (eT : T.heap = h) {a : Addr} {pc : Nat} {Ls : Array Slot} {st argsL rest : List Value} (hst : st = argsL.reverse ++ .ref a :: rest) (has : (.ref a :: argsL).toArray = as') (hsize : Ls.size = c.maxLocals) (hlen : ∀ sig, parseMethodDescriptor y.desc = some sig → argsL.length = sig.parameters.length)
    (hd : decode c.code pc = .ok (.invokespecial index, 3)) {W : Nat} (hW : (rest.map fun v => v.category).sum ≤ W) (hf : rm.frames + 1 ≤ R.frames) (hl : W + (maxL + 11) + rm.locals ≤ R.locals) (hc : cells + rm.cells ≤ R.cells) (hs : slots + rm.slots ≤ R.slots)
    (H : ∀ (v : Option Value) (T' : State) (L : List Loc), Stand p l e R s m args below meth c T' (locs ++ L) (cells + rm.cells) (slots + rm.slots) → Q' v T'.heap L → own_Fin p e below s Q kc kn (T'.setTop (mkF m (pc + 3) Ls (v.toList ++ rest)))) :
    own_Fin p e below s Q kc kn (T.setTop (mkF m pc Ls st)) := by
  subst hst
  obtain ⟨v, _, ⟨T', L', k', n'⟩, -, X', ⟨Lc, hQ, l1, y1, z1⟩, st⟩ := X.specialBack hx (y := y) hy1 hown (mvT hZ w1) (mvT hZ w2) (mvT hZ w4) hy (backOf (W := W) hM hZ w4 w3 hf hl) (g := mkF m pc Ls (argsL.reverse ++ .ref a :: rest)) rfl hsize (Steps.refl _) (a := a) hlen rfl (by show 2 * 0 + _ ≤ _; omega) hd (fun _ _ => ⟨has, eT, hc, hs⟩)
  dsimp only [Pt.U, Pt.locs, Pt.cells, Pt.slots] at X' l1 y1 z1 st hQ
  subst l1 y1 z1
  exact own_go (fun _ k => st.trans k) (H _ _ _ X' hQ)
theorem own_initO (X : Stand p l e R s m args below meth c T locs cells slots) (hx : p.tables.exec = Jvm.exec) (hZ : Z.Warmed39 s.vm) {own : String} {idx : Nat} (hown : s.vm.findClass own = some m.cls) (w1 : (Jvm.Cond.methodLink own idx Lib.objectInit).before a0 Z = true) (w2 : (Jvm.Cond.instanceMethod Lib.objectInit).before a0 Z = true)
    (w3 : (Jvm.Cond.code Lib.objectInit ⟨#[0xb1]⟩ 1 none).before a0 Z = true) (eT : T.heap = h) {pc : Nat} {Ls : Array Slot} (hsize : Ls.size = c.maxLocals) {a : Addr} {rest : List Value} (hd : decode c.code pc = .ok (.invokespecial idx, 3))
    (hf : 1 ≤ R.frames) {W : Nat} (hW : (rest.map fun v => v.category).sum ≤ W) (hl : W + 12 ≤ R.locals)
    (H : ∀ (T' : State), Stand p l e R s m args below meth c T' locs cells slots → T'.heap = h → own_Fin p e below s Q kc kn (T'.setTop (mkF m (pc + 3) Ls rest))) :
    own_Fin p e below s Q kc kn (T.setTop (mkF m pc Ls (.ref a :: rest))) := by
  obtain ⟨T', X', e', st⟩ := initO X hx hZ hown w1 w2 w3 eT (g := mkF m pc Ls (.ref a :: rest)) rfl hsize rfl hd hf (W := W) (by show 2 * 0 + _ ≤ _; omega) hl
  exact own_go st (H _ X' e')
theorem own_getF (X : Stand p l e R s m args below meth c T locs cells slots) (hx : p.tables.exec = Jvm.exec) (hZ : Z.Warmed39 s.vm) {own R0 O n d host : String} {index : Nat} (hown : s.vm.findClass own = some m.cls) (w : (Jvm.Cond.fieldLink own index R0 n d).before a0 Z = true ∨ (Jvm.Cond.fieldLinkNest own index R0 n d host).before a0 Z = true) (via : Via Z R0 O n d)
    (eT : T.heap = h) {a : Addr} {v : Value} (F : Fld Z h a O n d v) {pc : Nat} {Ls : Array Slot} {rest : List Value} (hd : decode c.code pc = .ok (.getfield index, 3))
    (H : ∀ (T' : State), Stand p l e R s m args below meth c T' locs cells slots → T'.heap = h → own_Fin p e below s Q kc kn (T'.setTop (mkF m (pc + 3) Ls (v :: rest)))) :
    own_Fin p e below s Q kc kn (T.setTop (mkF m pc Ls (.ref a :: rest))) := by
  obtain ⟨T', X', e', st⟩ := getF X hx hZ hown w via eT F (g := mkF m pc Ls (.ref a :: rest)) rfl rfl hd
  exact own_go st (H _ X' e')
theorem own_getS (X : Stand p l e R s m args below meth c T locs cells slots) (hx : p.tables.exec = Jvm.exec) (hZ : Z.Warmed39 s.vm) {own R0 O n d host : String} {index : Nat} (hown : s.vm.findClass own = some m.cls) (w : (Jvm.Cond.fieldLink own index R0 n d).before a0 Z = true ∨ (Jvm.Cond.fieldLinkNest own index R0 n d host).before a0 Z = true) (via : Via Z R0 O n d)
    (eT : T.heap = h) {v : Value} (F : Sta Z h O n d v) {pc : Nat} {Ls : Array Slot} {rest : List Value} (hd : decode c.code pc = .ok (.getstatic index, 3))
    (H : ∀ (T' : State), Stand p l e R s m args below meth c T' locs cells slots → T'.heap = h → own_Fin p e below s Q kc kn (T'.setTop (mkF m (pc + 3) Ls (v :: rest)))) :
    own_Fin p e below s Q kc kn (T.setTop (mkF m pc Ls rest)) := by
  obtain ⟨T', X', e', st⟩ := getS2 X hx hZ hown w via eT F (g := mkF m pc Ls rest) rfl hd
  exact own_go st (H _ X' e')
theorem own_putF (X : Stand p l e R s m args below meth c T locs cells slots) (hx : p.tables.exec = Jvm.exec) (hZ : Z.Warmed39 s.vm) {own R0 O n d host C : String} {index kk : Nat} {ty : FieldType} (hown : s.vm.findClass own = some m.cls) (w : (Jvm.Cond.fieldLink own index R0 n d).before a0 Z = true ∨ (Jvm.Cond.fieldLinkNest own index R0 n d host).before a0 Z = true) (via : Via Z R0 O n d)
    (eT : T.heap = h) {a : Addr} {v old : Value} (F : Fld Z h a O n d old) (E : Exa Z h a C) (L : (Jvm.Cond.lays C O n d).before a0 Z = true ∨ ((Jvm.Cond.laysFinal C O n d).before a0 Z = true ∧ own = O ∧ meth.name = "<init>")) (wi : (Jvm.Cond.instantiable C kk).before a0 Z = true)
    (hty : parseFieldDescriptor d = some ty) (hn : narrow ty v = v) (hf : fits ty v = true) {pc : Nat} {Ls : Array Slot} {rest : List Value} (hd : decode c.code pc = .ok (.putfield index, 3))
    (H : ∀ (T' : State) (h' : Heap), Stand p l e R s m args below meth c T' (locs ++ [⟨a, Jvm.RoadKit.slotOf Z O n d⟩]) cells slots → T'.heap = h' → Wr h h' a (Jvm.RoadKit.slotOf Z O n d) v → own_Fin p e below s Q kc kn (T'.setTop (mkF m (pc + 3) Ls rest))) :
    own_Fin p e below s Q kc kn (T.setTop (mkF m pc Ls (v :: .ref a :: rest))) := by
  obtain ⟨T', h', X', e', W', st⟩ := putF X hx hZ hown w via eT F E L wi hty hn hf (g := mkF m pc Ls (v :: .ref a :: rest)) rfl rfl hd
  exact own_go st (H _ _ X' e' W')
theorem own_new (X : Stand p l e R s m args below meth c T locs cells slots) (hx : p.tables.exec = Jvm.exec) (hZ : Z.Warmed39 s.vm) {own C : String} {index n : Nat} (hown : s.vm.findClass own = some m.cls) (w : (Jvm.Cond.classLink own index C).before a0 Z = true) (wi : (Jvm.Cond.instantiable C n).before a0 Z = true) (wz : (Jvm.Cond.initialized C).before a0 Z = true) (eT : T.heap = h)
    {pc : Nat} {Ls : Array Slot} {rest : List Value} (hd : decode c.code pc = .ok (.new index, 3)) (hc : cells + 1 ≤ R.cells) (hl : slots + n ≤ R.slots)
    (H : ∀ (T' : State) (h' : Heap) (a : Addr), a = h.size → Stand p l e R s m args below meth c T' locs (cells + 1) (slots + n) → T'.heap = h' → Ext h h' → Exa Z h' a C → (∀ {O nm d : String} {ty : FieldType}, Laid Z a0 C O nm d → parseFieldDescriptor d = some ty → Fld Z h' a O nm d (defaultValue ty)) → own_Fin p e below s Q kc kn (T'.setTop (mkF m (pc + 3) Ls (.ref a :: rest)))) :
    own_Fin p e below s Q kc kn (T.setTop (mkF m pc Ls rest)) := by
  obtain ⟨T', h', X', e', E', A', D', -, st⟩ := newO X hx hZ hown w wi wz eT (g := mkF m pc Ls rest) rfl hd hc hl
  exact own_go st (H _ _ _ rfl X' e' E' A' D')
theorem own_callU (X : Stand p l e R s m args below meth c T locs cells slots) (hx : p.tables.exec = Jvm.exec) (hZ : Z.Warmed39 s.vm) {own C owner : String} {index : Nat} {y z : MethodName} {bytes : ByteArray} {maxL : Nat} {ret : Option FieldType} {rm : Room} {as' : Array Value} {Q' : Option Value → Heap → List Loc → Prop}
    (hown : s.vm.findClass own = some m.cls) (w1 : (Jvm.Cond.methodLink own index y).before a0 Z = true) (w2 : (Jvm.Cond.sameMethod y.cls owner y.name y.desc).before a0 Z = true) (w2' : (Jvm.Cond.declares ⟨owner, y.name, y.desc⟩).before a0 Z = true) (hy : owner ≠ "java/lang/invoke/MethodHandle" ∧ owner ≠ "java/lang/invoke/VarHandle") (w3 : (Jvm.Cond.selects C y z).before a0 Z = true) (w4 : (Jvm.Cond.instanceMethod z).before a0 Z = true) (w5 : (Jvm.Cond.code z bytes maxL ret).before a0 Z = true) (w6 : (Jvm.Cond.initialized z.cls).before a0 Z = true)
    (hM : own_Met l z bytes maxL ret rm Z [] as' h Q') (eT : T.heap = h) {a : Addr} (E : Exa Z h a C) {pc : Nat} {Ls : Array Slot} {st argsL rest : List Value} (hst : st = argsL.reverse ++ .ref a :: rest) (has : (.ref a :: argsL).toArray = as') (hsize : Ls.size = c.maxLocals) (hlen : ∀ sig, parseMethodDescriptor y.desc = some sig → argsL.length = sig.parameters.length)
    (hd : decode c.code pc = .ok (.invokevirtual index, 3)) {W : Nat} (hW : (rest.map fun v => v.category).sum ≤ W) (hf : rm.frames + 1 ≤ R.frames) (hl : W + (maxL + 11) + rm.locals ≤ R.locals) (hc : cells + rm.cells ≤ R.cells) (hs : slots + rm.slots ≤ R.slots)
    (H : ∀ (v : Option Value) (T' : State) (L : List Loc), Stand p l e R s m args below meth c T' (locs ++ L) (cells + rm.cells) (slots + rm.slots) → Q' v T'.heap L → own_Fin p e below s Q kc kn (T'.setTop (mkF m (pc + 3) Ls (v.toList ++ rest)))) :
    own_Fin p e below s Q kc kn (T.setTop (mkF m pc Ls st)) := by
  subst hst
  obtain ⟨cB, kB, q1, q2, q3⟩ := isOf (T := T) hZ eT E
  obtain ⟨v, _, ⟨T', L', k', n'⟩, -, X', ⟨Lc, hQ, l1, y1, z1⟩, st⟩ := X.virtualBackUp hx (x := y) (y := z) hown (mvT hZ w1) (mvT hZ w2) (mvT hZ w2') hy (mvT hZ w3) (mvT hZ w4) (backOf (W := W) hM hZ w5 w6 hf hl) q1 q3 (g := mkF m pc Ls (argsL.reverse ++ .ref a :: rest)) rfl hsize (Steps.refl _) hlen rfl (by show 2 * 0 + _ ≤ _; omega) hd (fun _ _ => ⟨has, eT, hc, hs⟩)
  dsimp only [Pt.U, Pt.locs, Pt.cells, Pt.slots] at X' l1 y1 z1 st hQ
  subst l1 y1 z1
  exact own_go (fun _ k => st.trans k) (H _ _ _ X' hQ)
theorem own_lswHit (X : Stand p l e R s m args below meth c T locs cells slots) (hx : p.tables.exec = Jvm.exec) {pc pc' : Nat} {Ls : Array Slot} {k : Int32} {rest : List Value} {default : Int} {pairs : Array (Int × Int)} {len : Nat} (hd : decode c.code pc = .ok (.lookupswitch default pairs, len))
    (hsorted : (pairs.toList.zip (pairs.toList.drop 1)).all (fun (a, next) => a.1 < next.1) = true) {a off : Int} (hfind : pairs.find? (·.1 == k.toInt) = some (a, off)) (hoff : 0 ≤ (pc : Int) + off) (hp : ((pc : Int) + off).toNat = pc')
    (H : own_Fin p e below s Q kc kn (T.setTop (mkF m pc' Ls rest))) : own_Fin p e below s Q kc kn (T.setTop (mkF m pc Ls (.int k :: rest))) := by
  subst hp
  exact own_go (fun t q => X.lookupswitchHit hx (g := mkF m pc Ls (.int k :: rest)) rfl rfl hd hsorted hfind hoff t q) H
theorem own_lswMiss (X : Stand p l e R s m args below meth c T locs cells slots) (hx : p.tables.exec = Jvm.exec) {pc pc' : Nat} {Ls : Array Slot} {k : Int32} {rest : List Value} {default : Int} {pairs : Array (Int × Int)} {len : Nat} (hd : decode c.code pc = .ok (.lookupswitch default pairs, len))
    (hsorted : (pairs.toList.zip (pairs.toList.drop 1)).all (fun (a, next) => a.1 < next.1) = true) (hfind : ∀ q ∈ pairs.toList, q.1 ≠ k.toInt) (hoff : 0 ≤ (pc : Int) + default) (hp : ((pc : Int) + default).toNat = pc')
    (H : own_Fin p e below s Q kc kn (T.setTop (mkF m pc' Ls rest))) : own_Fin p e below s Q kc kn (T.setTop (mkF m pc Ls (.int k :: rest))) := by
  subst hp
  exact own_go (fun t q => X.lookupswitchMiss hx (g := mkF m pc Ls (.int k :: rest)) rfl rfl hd hsorted (find_miss hfind) hoff t q) H
theorem own_castY (X : Stand p l e R s m args below meth c T locs cells slots) (hx : p.tables.exec = Jvm.exec) (hZ : Z.Warmed39 s.vm) {own K : String} {index : Nat} (hown : s.vm.findClass own = some m.cls) (w : (Jvm.Cond.classLink own index K).before a0 Z = true) (eT : T.heap = h) {a : Addr} (F : Ins Z h a K true)
    {pc : Nat} {Ls : Array Slot} {rest : List Value} (hd : decode c.code pc = .ok (.checkcast index, 3))
    (H : ∀ (T' : State), Stand p l e R s m args below meth c T' locs cells slots → T'.heap = h → own_Fin p e below s Q kc kn (T'.setTop (mkF m (pc + 3) Ls (.ref a :: rest)))) :
    own_Fin p e below s Q kc kn (T.setTop (mkF m pc Ls (.ref a :: rest))) := by
  obtain ⟨T', X', e', st⟩ := castY X hx hZ hown w eT F (g := mkF m pc Ls (.ref a :: rest)) rfl rfl hd
  exact own_go st (H _ X' e')
theorem own_Sta_keep0 {C n d : String} {v : Value} {h h' : Heap} (F : Sta Z h C n d v) (K : Keep h h' []) : Sta Z h' C n d v := by
  obtain ⟨cf, i, k, f, st, cell, h1, h2, h3, h4, h5, r⟩ := F
  exact ⟨cf, i, k, f, st, cell, h1, h2, h3, h4, K.2.1 _ _ h5 nin0, r⟩
theorem own_Arr_keep0 {a : Addr} {cl : Cell} {ty : FieldType} {h h' : Heap} (F : Arr Z h a cl ty) (K : Keep h h' []) : Arr Z h' a cl ty := ⟨K.2.1 _ _ F.1 nin0, F.2⟩
theorem own_neI {k z : Int32} {n : Int} (hz : z.toInt = n) (q : ¬ k = z) : n ≠ k.toInt := fun e => q (Int32.toInt_inj.mp (by rw [hz]; exact e.symm))
theorem own_fldI {args : Array Value} {t : Term} {O nm dd : String} {v : Int32} {a : Addr} (q : (Jvm.Cond.eq (.field t O nm dd) (.int v)).value args Z none Z [] = some true) (ev : t.eval args Z none [] Z = some (.ref a)) : Fld Z Z.heap a O nm dd (.int v) := by
  refine Fld.start ?_
  have e1 := fld_at (C := O) (n := nm) (dd := dd) ev
  simp only [Cond.value, e1] at q
  cases hf : Z.fieldOf? a O nm dd with
  | none => simp [hf] at q
  | some x => cases x <;> simp [hf, Term.eval] at q ⊢; exact q
theorem own_fldR {args : Array Value} {t u : Term} {O nm dd : String} {a b : Addr} (q : (Jvm.Cond.eq (.field t O nm dd) u).value args Z none Z [] = some true) (ev : t.eval args Z none [] Z = some (.ref a)) (eu : u.eval args Z none [] Z = some (.ref b)) : Fld Z Z.heap a O nm dd (.ref b) := by
  refine Fld.start ?_
  have e1 := fld_at (C := O) (n := nm) (dd := dd) ev
  simp only [Cond.value, e1, eu] at q
  cases hf : Z.fieldOf? a O nm dd with
  | none => simp [hf] at q
  | some x => cases x <;> simp [hf] at q ⊢; exact q
end Own

theorem d1_0 : decode jdk_29_method_66_code 0 = .ok (.lload_n 0, 1) := by decide +kernel
theorem d1_1 : decode jdk_29_method_66_code 1 = .ok (.lload_n 2, 1) := by decide +kernel
theorem d1_2 : decode jdk_29_method_66_code 2 = .ok (.lcmp, 1) := by decide +kernel
theorem d1_3 : decode jdk_29_method_66_code 3 = .ok (.ifCond .lt 7, 3) := by decide +kernel
theorem d1_6 : decode jdk_29_method_66_code 6 = .ok (.lload_n 0, 1) := by decide +kernel
theorem d1_7 : decode jdk_29_method_66_code 7 = .ok (.goto 4, 3) := by decide +kernel
theorem d1_10 : decode jdk_29_method_66_code 10 = .ok (.lload_n 2, 1) := by decide +kernel
theorem d1_11 : decode jdk_29_method_66_code 11 = .ok (.lreturn, 1) := by decide +kernel
theorem pn_1 : plainFor (⟨"java/lang/Math", "max", "(JJ)J"⟩ : MethodName) = true := Jvm.Free.JP.mathPlain rfl (by decide +kernel)
theorem ef_1 (m : MethodId) (x0 : Int64) (x1 : Int64) : entryFrame m #[(.long x0), (.long x1)] 4 = mkF m 0 #[.val (.long x0), .second, .val (.long x1), .second] [] := by first | (simp [entryFrame, mkF, argsToLocals, Value.category]; done) | rfl
def own_f1 (q0 : Int64) (q1 : Int64) : Int64 :=
  if q0 < q1 then
    q1
  else
    q0
set_option maxRecDepth 65536 in
set_option maxHeartbeats 40000000 in
theorem rm1 (l : Launch) (Z : State) (a0 : Array Value) (hw : ∀ d ∈ tables_1, d.before a0 Z = true) (q0 : Int64) (q1 : Int64) (h0 : Heap) (n0 : Nat) (Z0 : n0 ≤ h0.size) :
    own_Met l (⟨"java/lang/Math", "max", "(JJ)J"⟩ : MethodName) jdk_29_method_66_code 4 (some .long) ({ frames := 0, cells := 0, slots := 0, locals := 0 } : Room) Z [] #[(.long q0), (.long q1)] h0 (own_P (some (.long (own_f1 q0 q1))) h0 n0) := by
  refine own_enter pn_1 ?_
  intro p e s m below meth c s₁ hx hby hml hown hnm hret hlk hZ e0 X0
  rw [ef_1]
  have N0 := Fr.nil n0
  show own_Fin _ _ _ _ _ _ _ (s₁.setTop (mkF m 0 #[.val (.long q0), .second, .val (.long q1), .second] []))
  refine own_go (fun _ k => XS.lloadN X0.here hx rfl (hb hby d1_0) rfl k) ?_
  show own_Fin _ _ _ _ _ _ _ (s₁.setTop (mkF m 1 #[.val (.long q0), .second, .val (.long q1), .second] [(.long q0)]))
  refine own_go (fun _ k => XS.lloadN X0.here hx rfl (hb hby d1_1) rfl k) ?_
  show own_Fin _ _ _ _ _ _ _ (s₁.setTop (mkF m 2 #[.val (.long q0), .second, .val (.long q1), .second] [(.long q1), (.long q0)]))
  refine own_go (fun _ k => XT.lcmp X0.here hx rfl (hb hby d1_2) rfl k) ?_
  show own_Fin _ _ _ _ _ _ _ (s₁.setTop (mkF m 3 #[.val (.long q0), .second, .val (.long q1), .second] [(.int (XT.cmpL q0 q1))]))
  by_cases hc3 : q0 < q1
  · refine own_go (fun _ k => XS.ifYes X0.here hx rfl (pc0 := 3) (pc' := 10) rfl (hb hby d1_3) rfl (XT.ll_lt_t hc3) (by decide) (by decide) k) ?_
    show own_Fin _ _ _ _ _ _ _ (s₁.setTop (mkF m 10 #[.val (.long q0), .second, .val (.long q1), .second] []))
    refine own_go (fun _ k => XS.lloadN X0.here hx rfl (hb hby d1_10) rfl k) ?_
    show own_Fin _ _ _ _ _ _ _ (s₁.setTop (mkF m 11 #[.val (.long q0), .second, .val (.long q1), .second] [(.long q1)]))
    exact own_retJ X0 hx hlk hret (hb hby d1_11) (by decide) (by decide) ⟨(by rw [own_f1, if_pos hc3]), N0, e0⟩
  · refine own_go (fun _ k => XS.ifNo X0.here hx rfl (hb hby d1_3) rfl (XT.ll_lt_f hc3) k) ?_
    show own_Fin _ _ _ _ _ _ _ (s₁.setTop (mkF m 6 #[.val (.long q0), .second, .val (.long q1), .second] []))
    refine own_go (fun _ k => XS.lloadN X0.here hx rfl (hb hby d1_6) rfl k) ?_
    show own_Fin _ _ _ _ _ _ _ (s₁.setTop (mkF m 7 #[.val (.long q0), .second, .val (.long q1), .second] [(.long q0)]))
    refine own_go (fun _ k => XS.goto X0.here hx rfl (pc0 := 7) (pc' := 11) rfl (hb hby d1_7) (by decide) (by decide) k) ?_
    show own_Fin _ _ _ _ _ _ _ (s₁.setTop (mkF m 11 #[.val (.long q0), .second, .val (.long q1), .second] [(.long q0)]))
    exact own_retJ X0 hx hlk hret (hb hby d1_11) (by decide) (by decide) ⟨(by rw [own_f1, if_neg hc3]), N0, e0⟩

theorem d2_0 : decode prog_29_method_3_code 0 = .ok (.lload_n 0, 1) := by decide +kernel
theorem d2_1 : decode prog_29_method_3_code 1 = .ok (.ldc2_w 20, 3) := by decide +kernel
theorem d2_4 : decode prog_29_method_3_code 4 = .ok (.ladd, 1) := by decide +kernel
theorem d2_5 : decode prog_29_method_3_code 5 = .ok (.lconst 1, 1) := by decide +kernel
theorem d2_6 : decode prog_29_method_3_code 6 = .ok (.lsub, 1) := by decide +kernel
theorem d2_7 : decode prog_29_method_3_code 7 = .ok (.ldc2_w 20, 3) := by decide +kernel
theorem d2_10 : decode prog_29_method_3_code 10 = .ok (.ldiv, 1) := by decide +kernel
theorem d2_11 : decode prog_29_method_3_code 11 = .ok (.lreturn, 1) := by decide +kernel
theorem pn_2 : plainFor (⟨"com/example/tenantry/tenantry/builtin/Size", "mebibytes", "(J)J"⟩ : MethodName) = true := plainFor_of_name (by show plainName "com/example/tenantry/tenantry/builtin/Size" = true; first | (simp [plainName, overriddenIn]; done) | decide +kernel)
theorem ef_2 (m : MethodId) (x0 : Int64) : entryFrame m #[(.long x0)] 2 = mkF m 0 #[.val (.long x0), .second] [] := by first | (simp [entryFrame, mkF, argsToLocals, Value.category]; done) | rfl
def own_f2 (q0 : Int64) : Int64 :=
  (((q0 + (1048576 : Int64)) - (1 : Int64)) / (1048576 : Int64))
set_option maxRecDepth 65536 in
set_option maxHeartbeats 40000000 in
theorem rm2 (l : Launch) (Z : State) (a0 : Array Value) (hw : ∀ d ∈ tables_1, d.before a0 Z = true) (q0 : Int64) (h0 : Heap) (n0 : Nat) (Z0 : n0 ≤ h0.size) :
    own_Met l (⟨"com/example/tenantry/tenantry/builtin/Size", "mebibytes", "(J)J"⟩ : MethodName) prog_29_method_3_code 2 (some .long) ({ frames := 0, cells := 0, slots := 0, locals := 0 } : Room) Z [] #[(.long q0)] h0 (own_P (some (.long (own_f2 q0))) h0 n0) := by
  refine own_enter pn_2 ?_
  intro p e s m below meth c s₁ hx hby hml hown hnm hret hlk hZ e0 X0
  rw [ef_2]
  have N0 := Fr.nil n0
  show own_Fin _ _ _ _ _ _ _ (s₁.setTop (mkF m 0 #[.val (.long q0), .second] []))
  refine own_go (fun _ k => XS.lloadN X0.here hx rfl (hb hby d2_0) rfl k) ?_
  show own_Fin _ _ _ _ _ _ _ (s₁.setTop (mkF m 1 #[.val (.long q0), .second] [(.long q0)]))
  refine own_go (fun _ k => X0.ldc2J hx hown (mvT hZ (hw _ (List.mem_of_getElem? (i := 11) rfl))) rfl (hb hby d2_1) k) ?_
  show own_Fin _ _ _ _ _ _ _ (s₁.setTop (mkF m 4 #[.val (.long q0), .second] [(.long (1048576 : Int64)), (.long q0)]))
  refine own_go (fun _ k => XS.ladd X0.here hx rfl (hb hby d2_4) rfl k) ?_
  show own_Fin _ _ _ _ _ _ _ (s₁.setTop (mkF m 5 #[.val (.long q0), .second] [(.long (q0 + (1048576 : Int64)))]))
  refine own_go (fun _ k => XS.lconst X0.here hx rfl (hb hby d2_5) k) ?_
  show own_Fin _ _ _ _ _ _ _ (s₁.setTop (mkF m 6 #[.val (.long q0), .second] [(.long (1 : Int64)), (.long (q0 + (1048576 : Int64)))]))
  refine own_go (fun _ k => XS.lsub X0.here hx rfl (hb hby d2_6) rfl k) ?_
  show own_Fin _ _ _ _ _ _ _ (s₁.setTop (mkF m 7 #[.val (.long q0), .second] [(.long ((q0 + (1048576 : Int64)) - (1 : Int64)))]))
  refine own_go (fun _ k => X0.ldc2J hx hown (mvT hZ (hw _ (List.mem_of_getElem? (i := 11) rfl))) rfl (hb hby d2_7) k) ?_
  show own_Fin _ _ _ _ _ _ _ (s₁.setTop (mkF m 10 #[.val (.long q0), .second] [(.long (1048576 : Int64)), (.long ((q0 + (1048576 : Int64)) - (1 : Int64)))]))
  refine own_go (fun _ k => XS.ldiv X0.here hx rfl (hb hby d2_10) rfl (by decide) k) ?_
  show own_Fin _ _ _ _ _ _ _ (s₁.setTop (mkF m 11 #[.val (.long q0), .second] [(.long (((q0 + (1048576 : Int64)) - (1 : Int64)) / (1048576 : Int64)))]))
  exact own_retJ X0 hx hlk hret (hb hby d2_11) (by decide) (by decide) ⟨(by rw [own_f2]), N0, e0⟩

theorem pd_0_0 : parseMethodDescriptor "(J)J" = some ⟨[.long], some .long⟩ := by decide +kernel
theorem pd_0_1 : parseMethodDescriptor "(JJ)J" = some ⟨[.long, .long], some .long⟩ := by decide +kernel
theorem pn_0 : plainFor x = true := plainFor_of_name (by show plainName "com/example/tenantry/tenantry/builtin/SizeMebibytesPinLaw" = true; first | (simp [plainName, overriddenIn]; done) | decide +kernel)
theorem ef_0 (m : MethodId) (x0 : Int64) (x1 : Int32) (x2 : Int32) (x3 : Int32) : entryFrame m #[(.long x0), (.int x1), (.int x2), (.int x3)] maxLocals = mkF m 0 #[.val (.long x0), .second, .val (.int x1), .val (.int x2), .val (.int x3), .unset, .unset, .unset, .unset, .unset, .unset, .unset, .unset, .unset, .unset, .unset, .unset] [] := by first | (simp [entryFrame, mkF, argsToLocals, Value.category, maxLocals]; done) | rfl
def own_f0_43 (q0 : Int64) (p1 : Int32) (p2 : Int32) (p3 : Int32) (b7 : Int64) : Int32 :=
  if ((9223372036854775807 : Int64) - ((1048576 : Int64) - (1 : Int64))) < b7 then
    (1 : Int32)
  else
    if (b7 - ((b7 / (1048576 : Int64)) * (1048576 : Int64))) = (0 : Int64) then
      if (own_f2 b7) = (b7 / (1048576 : Int64)) then
        (1 : Int32)
      else
        (0 : Int32)
    else
      if (own_f2 b7) = ((b7 / (1048576 : Int64)) + (1 : Int64)) then
        (1 : Int32)
      else
        (0 : Int32)
def own_f0 (q0 : Int64) (p1 : Int32) (p2 : Int32) (p3 : Int32) : Int32 :=
  if (p3 &&& (1 : Int32)) = 0 then
    own_f0_43 q0 p1 p2 p3 ((own_f1 (0 : Int64) (((Int32.toInt64 (p1 &&& (268435455 : Int32))) * (1048576 : Int64)) + (Int32.toInt64 ((p2 &&& (3 : Int32)) - (1 : Int32))))))
  else
    own_f0_43 q0 p1 p2 p3 ((q0 &&& (9223372036854775807 : Int64)))
set_option maxRecDepth 65536 in
set_option maxHeartbeats 40000000 in
theorem rm0 (l : Launch) (Z : State) (a0 : Array Value) (hw : ∀ d ∈ tables_1, d.before a0 Z = true) (q0 : Int64) (p1 : Int32) (p2 : Int32) (p3 : Int32) (h0 : Heap) (n0 : Nat) (Z0 : n0 ≤ h0.size) :
    own_Met l x code maxLocals ret room_1 Z tables_1 #[(.long q0), (.int p1), (.int p2), (.int p3)] h0 (own_P (some (.int (own_f0 q0 p1 p2 p3))) h0 n0) := by
  refine own_enter pn_0 ?_
  intro p e s m below meth c s₁ hx hby hml hown hnm hret hlk hZ e0 X0
  rw [ef_0]
  have N0 := Fr.nil n0
  have hml : c.maxLocals = 17 := hml
  show own_Fin _ _ _ _ _ _ _ (s₁.setTop (mkF m 0 #[.val (.long q0), .second, .val (.int p1), .val (.int p2), .val (.int p3), .unset, .unset, .unset, .unset, .unset, .unset, .unset, .unset, .unset, .unset, .unset, .unset] []))
  refine own_go (fun _ k => X0.ldc2J hx hown (mvT hZ (hw _ (List.mem_of_getElem? (i := 0) rfl))) rfl (hb hby at_0) k) ?_
  show own_Fin _ _ _ _ _ _ _ (s₁.setTop (mkF m 3 #[.val (.long q0), .second, .val (.int p1), .val (.int p2), .val (.int p3), .unset, .unset, .unset, .unset, .unset, .unset, .unset, .unset, .unset, .unset, .unset, .unset] [(.long (1048576 : Int64))]))
  refine own_go (fun _ k => XS.lstore X0.here hx rfl (hb hby at_3) rfl (l' := #[.val (.long q0), .second, .val (.int p1), .val (.int p2), .val (.int p3), .val (.long (1048576 : Int64)), .second, .unset, .unset, .unset, .unset, .unset, .unset, .unset, .unset, .unset, .unset]) rfl k) ?_
  show own_Fin _ _ _ _ _ _ _ (s₁.setTop (mkF m 5 #[.val (.long q0), .second, .val (.int p1), .val (.int p2), .val (.int p3), .val (.long (1048576 : Int64)), .second, .unset, .unset, .unset, .unset, .unset, .unset, .unset, .unset, .unset, .unset] []))
  refine own_go (fun _ k => XS.iload X0.here hx rfl (hb hby at_5) rfl k) ?_
  show own_Fin _ _ _ _ _ _ _ (s₁.setTop (mkF m 7 #[.val (.long q0), .second, .val (.int p1), .val (.int p2), .val (.int p3), .val (.long (1048576 : Int64)), .second, .unset, .unset, .unset, .unset, .unset, .unset, .unset, .unset, .unset, .unset] [(.int p3)]))
  refine own_go (fun _ k => XS.iconst X0.here hx rfl (hb hby at_7) k) ?_
  show own_Fin _ _ _ _ _ _ _ (s₁.setTop (mkF m 8 #[.val (.long q0), .second, .val (.int p1), .val (.int p2), .val (.int p3), .val (.long (1048576 : Int64)), .second, .unset, .unset, .unset, .unset, .unset, .unset, .unset, .unset, .unset, .unset] [(.int (1 : Int32)), (.int p3)]))
  refine own_go (fun _ k => XS.iand X0.here hx rfl (hb hby at_8) rfl k) ?_
  show own_Fin _ _ _ _ _ _ _ (s₁.setTop (mkF m 9 #[.val (.long q0), .second, .val (.int p1), .val (.int p2), .val (.int p3), .val (.long (1048576 : Int64)), .second, .unset, .unset, .unset, .unset, .unset, .unset, .unset, .unset, .unset, .unset] [(.int (p3 &&& (1 : Int32)))]))
  have J43 : ∀ (TJ43 : State) (locsJ43 : List Loc) (b7 : Int64), Stand p l e room_1 s m #[(.long q0), (.int p1), (.int p2), (.int p3)] below meth c TJ43 locsJ43 0 0 → Fr n0 locsJ43 → TJ43.heap = h0 → (own_f0 q0 p1 p2 p3) = own_f0_43 q0 p1 p2 p3 b7 → own_Fin p e below s (own_P (some (.int (own_f0 q0 p1 p2 p3))) h0 n0) room_1.cells room_1.slots (TJ43.setTop (mkF m 43 #[.val (.long q0), .second, .val (.int p1), .val (.int p2), .val (.int p3), .val (.long (1048576 : Int64)), .second, .val (.long b7), .second, .unset, .unset, .unset, .unset, .unset, .unset, .unset, .unset] [])) := by
    intro TJ43 locsJ43 b7 XJ43 NJ43 eJ43 hjJ43
    refine own_go (fun _ k => XS.lload XJ43.here hx rfl (hb hby at_43) rfl k) ?_
    show own_Fin _ _ _ _ _ _ _ (TJ43.setTop (mkF m 45 #[.val (.long q0), .second, .val (.int p1), .val (.int p2), .val (.int p3), .val (.long (1048576 : Int64)), .second, .val (.long b7), .second, .unset, .unset, .unset, .unset, .unset, .unset, .unset, .unset] [(.long b7)]))
    refine own_go (fun _ k => XJ43.ldc2J hx hown (mvT hZ (hw _ (List.mem_of_getElem? (i := 6) rfl))) rfl (hb hby at_45) k) ?_
    show own_Fin _ _ _ _ _ _ _ (TJ43.setTop (mkF m 48 #[.val (.long q0), .second, .val (.int p1), .val (.int p2), .val (.int p3), .val (.long (1048576 : Int64)), .second, .val (.long b7), .second, .unset, .unset, .unset, .unset, .unset, .unset, .unset, .unset] [(.long (9223372036854775807 : Int64)), (.long b7)]))
    refine own_go (fun _ k => XS.lload XJ43.here hx rfl (hb hby at_48) rfl k) ?_
    show own_Fin _ _ _ _ _ _ _ (TJ43.setTop (mkF m 50 #[.val (.long q0), .second, .val (.int p1), .val (.int p2), .val (.int p3), .val (.long (1048576 : Int64)), .second, .val (.long b7), .second, .unset, .unset, .unset, .unset, .unset, .unset, .unset, .unset] [(.long (1048576 : Int64)), (.long (9223372036854775807 : Int64)), (.long b7)]))
    refine own_go (fun _ k => XS.lconst XJ43.here hx rfl (hb hby at_50) k) ?_
    show own_Fin _ _ _ _ _ _ _ (TJ43.setTop (mkF m 51 #[.val (.long q0), .second, .val (.int p1), .val (.int p2), .val (.int p3), .val (.long (1048576 : Int64)), .second, .val (.long b7), .second, .unset, .unset, .unset, .unset, .unset, .unset, .unset, .unset] [(.long (1 : Int64)), (.long (1048576 : Int64)), (.long (9223372036854775807 : Int64)), (.long b7)]))
    refine own_go (fun _ k => XS.lsub XJ43.here hx rfl (hb hby at_51) rfl k) ?_
    show own_Fin _ _ _ _ _ _ _ (TJ43.setTop (mkF m 52 #[.val (.long q0), .second, .val (.int p1), .val (.int p2), .val (.int p3), .val (.long (1048576 : Int64)), .second, .val (.long b7), .second, .unset, .unset, .unset, .unset, .unset, .unset, .unset, .unset] [(.long ((1048576 : Int64) - (1 : Int64))), (.long (9223372036854775807 : Int64)), (.long b7)]))
    refine own_go (fun _ k => XS.lsub XJ43.here hx rfl (hb hby at_52) rfl k) ?_
    show own_Fin _ _ _ _ _ _ _ (TJ43.setTop (mkF m 53 #[.val (.long q0), .second, .val (.int p1), .val (.int p2), .val (.int p3), .val (.long (1048576 : Int64)), .second, .val (.long b7), .second, .unset, .unset, .unset, .unset, .unset, .unset, .unset, .unset] [(.long ((9223372036854775807 : Int64) - ((1048576 : Int64) - (1 : Int64)))), (.long b7)]))
    refine own_go (fun _ k => XT.lcmp XJ43.here hx rfl (hb hby at_53) rfl k) ?_
    show own_Fin _ _ _ _ _ _ _ (TJ43.setTop (mkF m 54 #[.val (.long q0), .second, .val (.int p1), .val (.int p2), .val (.int p3), .val (.long (1048576 : Int64)), .second, .val (.long b7), .second, .unset, .unset, .unset, .unset, .unset, .unset, .unset, .unset] [(.int (XT.cmpL b7 ((9223372036854775807 : Int64) - ((1048576 : Int64) - (1 : Int64)))))]))
    by_cases hc54 : ((9223372036854775807 : Int64) - ((1048576 : Int64) - (1 : Int64))) < b7
    · refine own_go (fun _ k => XS.ifNo XJ43.here hx rfl (hb hby at_54) rfl (XT.ll_le_f hc54) k) ?_
      show own_Fin _ _ _ _ _ _ _ (TJ43.setTop (mkF m 57 #[.val (.long q0), .second, .val (.int p1), .val (.int p2), .val (.int p3), .val (.long (1048576 : Int64)), .second, .val (.long b7), .second, .unset, .unset, .unset, .unset, .unset, .unset, .unset, .unset] []))
      refine own_go (fun _ k => XS.iconst XJ43.here hx rfl (hb hby at_57) k) ?_
      show own_Fin _ _ _ _ _ _ _ (TJ43.setTop (mkF m 58 #[.val (.long q0), .second, .val (.int p1), .val (.int p2), .val (.int p3), .val (.long (1048576 : Int64)), .second, .val (.long b7), .second, .unset, .unset, .unset, .unset, .unset, .unset, .unset, .unset] [(.int (1 : Int32))]))
      exact own_retZ XJ43 hx hlk hret rfl (hb hby at_58) (by decide) (by decide) ⟨(by rw [hjJ43, own_f0_43, if_pos hc54]), NJ43, eJ43⟩
    · refine own_go (fun _ k => XS.ifYes XJ43.here hx rfl (pc0 := 54) (pc' := 59) rfl (hb hby at_54) rfl (XT.ll_le_t hc54) (by decide) (by decide) k) ?_
      show own_Fin _ _ _ _ _ _ _ (TJ43.setTop (mkF m 59 #[.val (.long q0), .second, .val (.int p1), .val (.int p2), .val (.int p3), .val (.long (1048576 : Int64)), .second, .val (.long b7), .second, .unset, .unset, .unset, .unset, .unset, .unset, .unset, .unset] []))
      refine own_go (fun _ k => XS.lload XJ43.here hx rfl (hb hby at_59) rfl k) ?_
      show own_Fin _ _ _ _ _ _ _ (TJ43.setTop (mkF m 61 #[.val (.long q0), .second, .val (.int p1), .val (.int p2), .val (.int p3), .val (.long (1048576 : Int64)), .second, .val (.long b7), .second, .unset, .unset, .unset, .unset, .unset, .unset, .unset, .unset] [(.long b7)]))
      refine own_callS XJ43 hx hZ hown (hw _ (List.mem_of_getElem? (i := 7) rfl)) (hw _ (List.mem_of_getElem? (i := 8) rfl)) (hw _ (List.mem_of_getElem? (i := 9) rfl)) (hw _ (List.mem_of_getElem? (i := 10) rfl)) (by decide) (rm2 l Z a0 hw b7 h0 n0 Z0) eJ43 (argsL := [(.long b7)]) (rest := []) rfl rfl (by rw [hml]; rfl) (lenOf pd_0_0 rfl) (hb hby at_61) (W := 0) (by decide) (by decide) (by decide) (by decide) (by decide) ?_
      rintro v1 T1 L1 X1 ⟨rfl, M1, e1⟩
      have N1 := Fr.app NJ43 M1
      show own_Fin _ _ _ _ _ _ _ (T1.setTop (mkF m 64 #[.val (.long q0), .second, .val (.int p1), .val (.int p2), .val (.int p3), .val (.long (1048576 : Int64)), .second, .val (.long b7), .second, .unset, .unset, .unset, .unset, .unset, .unset, .unset, .unset] [(.long (own_f2 b7))]))
      refine own_go (fun _ k => XS.lstore X1.here hx rfl (hb hby at_64) rfl (l' := #[.val (.long q0), .second, .val (.int p1), .val (.int p2), .val (.int p3), .val (.long (1048576 : Int64)), .second, .val (.long b7), .second, .val (.long (own_f2 b7)), .second, .unset, .unset, .unset, .unset, .unset, .unset]) rfl k) ?_
      show own_Fin _ _ _ _ _ _ _ (T1.setTop (mkF m 66 #[.val (.long q0), .second, .val (.int p1), .val (.int p2), .val (.int p3), .val (.long (1048576 : Int64)), .second, .val (.long b7), .second, .val (.long (own_f2 b7)), .second, .unset, .unset, .unset, .unset, .unset, .unset] []))
      refine own_go (fun _ k => XS.lload X1.here hx rfl (hb hby at_66) rfl k) ?_
      show own_Fin _ _ _ _ _ _ _ (T1.setTop (mkF m 68 #[.val (.long q0), .second, .val (.int p1), .val (.int p2), .val (.int p3), .val (.long (1048576 : Int64)), .second, .val (.long b7), .second, .val (.long (own_f2 b7)), .second, .unset, .unset, .unset, .unset, .unset, .unset] [(.long b7)]))
      refine own_go (fun _ k => XS.lload X1.here hx rfl (hb hby at_68) rfl k) ?_
      show own_Fin _ _ _ _ _ _ _ (T1.setTop (mkF m 70 #[.val (.long q0), .second, .val (.int p1), .val (.int p2), .val (.int p3), .val (.long (1048576 : Int64)), .second, .val (.long b7), .second, .val (.long (own_f2 b7)), .second, .unset, .unset, .unset, .unset, .unset, .unset] [(.long (1048576 : Int64)), (.long b7)]))
      refine own_go (fun _ k => XS.ldiv X1.here hx rfl (hb hby at_70) rfl (by decide) k) ?_
      show own_Fin _ _ _ _ _ _ _ (T1.setTop (mkF m 71 #[.val (.long q0), .second, .val (.int p1), .val (.int p2), .val (.int p3), .val (.long (1048576 : Int64)), .second, .val (.long b7), .second, .val (.long (own_f2 b7)), .second, .unset, .unset, .unset, .unset, .unset, .unset] [(.long (b7 / (1048576 : Int64)))]))
      refine own_go (fun _ k => XS.lstore X1.here hx rfl (hb hby at_71) rfl (l' := #[.val (.long q0), .second, .val (.int p1), .val (.int p2), .val (.int p3), .val (.long (1048576 : Int64)), .second, .val (.long b7), .second, .val (.long (own_f2 b7)), .second, .val (.long (b7 / (1048576 : Int64))), .second, .unset, .unset, .unset, .unset]) rfl k) ?_
      show own_Fin _ _ _ _ _ _ _ (T1.setTop (mkF m 73 #[.val (.long q0), .second, .val (.int p1), .val (.int p2), .val (.int p3), .val (.long (1048576 : Int64)), .second, .val (.long b7), .second, .val (.long (own_f2 b7)), .second, .val (.long (b7 / (1048576 : Int64))), .second, .unset, .unset, .unset, .unset] []))
      refine own_go (fun _ k => XS.lload X1.here hx rfl (hb hby at_73) rfl k) ?_
      show own_Fin _ _ _ _ _ _ _ (T1.setTop (mkF m 75 #[.val (.long q0), .second, .val (.int p1), .val (.int p2), .val (.int p3), .val (.long (1048576 : Int64)), .second, .val (.long b7), .second, .val (.long (own_f2 b7)), .second, .val (.long (b7 / (1048576 : Int64))), .second, .unset, .unset, .unset, .unset] [(.long b7)]))
      refine own_go (fun _ k => XS.lload X1.here hx rfl (hb hby at_75) rfl k) ?_
      show own_Fin _ _ _ _ _ _ _ (T1.setTop (mkF m 77 #[.val (.long q0), .second, .val (.int p1), .val (.int p2), .val (.int p3), .val (.long (1048576 : Int64)), .second, .val (.long b7), .second, .val (.long (own_f2 b7)), .second, .val (.long (b7 / (1048576 : Int64))), .second, .unset, .unset, .unset, .unset] [(.long (b7 / (1048576 : Int64))), (.long b7)]))
      refine own_go (fun _ k => XS.lload X1.here hx rfl (hb hby at_77) rfl k) ?_
      show own_Fin _ _ _ _ _ _ _ (T1.setTop (mkF m 79 #[.val (.long q0), .second, .val (.int p1), .val (.int p2), .val (.int p3), .val (.long (1048576 : Int64)), .second, .val (.long b7), .second, .val (.long (own_f2 b7)), .second, .val (.long (b7 / (1048576 : Int64))), .second, .unset, .unset, .unset, .unset] [(.long (1048576 : Int64)), (.long (b7 / (1048576 : Int64))), (.long b7)]))
      refine own_go (fun _ k => XS.lmul X1.here hx rfl (hb hby at_79) rfl k) ?_
      show own_Fin _ _ _ _ _ _ _ (T1.setTop (mkF m 80 #[.val (.long q0), .second, .val (.int p1), .val (.int p2), .val (.int p3), .val (.long (1048576 : Int64)), .second, .val (.long b7), .second, .val (.long (own_f2 b7)), .second, .val (.long (b7 / (1048576 : Int64))), .second, .unset, .unset, .unset, .unset] [(.long ((b7 / (1048576 : Int64)) * (1048576 : Int64))), (.long b7)]))
      refine own_go (fun _ k => XS.lsub X1.here hx rfl (hb hby at_80) rfl k) ?_
      show own_Fin _ _ _ _ _ _ _ (T1.setTop (mkF m 81 #[.val (.long q0), .second, .val (.int p1), .val (.int p2), .val (.int p3), .val (.long (1048576 : Int64)), .second, .val (.long b7), .second, .val (.long (own_f2 b7)), .second, .val (.long (b7 / (1048576 : Int64))), .second, .unset, .unset, .unset, .unset] [(.long (b7 - ((b7 / (1048576 : Int64)) * (1048576 : Int64))))]))
      refine own_go (fun _ k => XS.lstore X1.here hx rfl (hb hby at_81) rfl (l' := #[.val (.long q0), .second, .val (.int p1), .val (.int p2), .val (.int p3), .val (.long (1048576 : Int64)), .second, .val (.long b7), .second, .val (.long (own_f2 b7)), .second, .val (.long (b7 / (1048576 : Int64))), .second, .val (.long (b7 - ((b7 / (1048576 : Int64)) * (1048576 : Int64)))), .second, .unset, .unset]) rfl k) ?_
      show own_Fin _ _ _ _ _ _ _ (T1.setTop (mkF m 83 #[.val (.long q0), .second, .val (.int p1), .val (.int p2), .val (.int p3), .val (.long (1048576 : Int64)), .second, .val (.long b7), .second, .val (.long (own_f2 b7)), .second, .val (.long (b7 / (1048576 : Int64))), .second, .val (.long (b7 - ((b7 / (1048576 : Int64)) * (1048576 : Int64)))), .second, .unset, .unset] []))
      refine own_go (fun _ k => XS.lload X1.here hx rfl (hb hby at_83) rfl k) ?_
      show own_Fin _ _ _ _ _ _ _ (T1.setTop (mkF m 85 #[.val (.long q0), .second, .val (.int p1), .val (.int p2), .val (.int p3), .val (.long (1048576 : Int64)), .second, .val (.long b7), .second, .val (.long (own_f2 b7)), .second, .val (.long (b7 / (1048576 : Int64))), .second, .val (.long (b7 - ((b7 / (1048576 : Int64)) * (1048576 : Int64)))), .second, .unset, .unset] [(.long (b7 - ((b7 / (1048576 : Int64)) * (1048576 : Int64))))]))
      refine own_go (fun _ k => XS.lconst X1.here hx rfl (hb hby at_85) k) ?_
      show own_Fin _ _ _ _ _ _ _ (T1.setTop (mkF m 86 #[.val (.long q0), .second, .val (.int p1), .val (.int p2), .val (.int p3), .val (.long (1048576 : Int64)), .second, .val (.long b7), .second, .val (.long (own_f2 b7)), .second, .val (.long (b7 / (1048576 : Int64))), .second, .val (.long (b7 - ((b7 / (1048576 : Int64)) * (1048576 : Int64)))), .second, .unset, .unset] [(.long (0 : Int64)), (.long (b7 - ((b7 / (1048576 : Int64)) * (1048576 : Int64))))]))
      refine own_go (fun _ k => XT.lcmp X1.here hx rfl (hb hby at_86) rfl k) ?_
      show own_Fin _ _ _ _ _ _ _ (T1.setTop (mkF m 87 #[.val (.long q0), .second, .val (.int p1), .val (.int p2), .val (.int p3), .val (.long (1048576 : Int64)), .second, .val (.long b7), .second, .val (.long (own_f2 b7)), .second, .val (.long (b7 / (1048576 : Int64))), .second, .val (.long (b7 - ((b7 / (1048576 : Int64)) * (1048576 : Int64)))), .second, .unset, .unset] [(.int (XT.cmpL (b7 - ((b7 / (1048576 : Int64)) * (1048576 : Int64))) (0 : Int64)))]))
      by_cases hc87 : (b7 - ((b7 / (1048576 : Int64)) * (1048576 : Int64))) = (0 : Int64)
      · refine own_go (fun _ k => XS.ifNo X1.here hx rfl (hb hby at_87) rfl (XT.ll_ne_f hc87) k) ?_
        show own_Fin _ _ _ _ _ _ _ (T1.setTop (mkF m 90 #[.val (.long q0), .second, .val (.int p1), .val (.int p2), .val (.int p3), .val (.long (1048576 : Int64)), .second, .val (.long b7), .second, .val (.long (own_f2 b7)), .second, .val (.long (b7 / (1048576 : Int64))), .second, .val (.long (b7 - ((b7 / (1048576 : Int64)) * (1048576 : Int64)))), .second, .unset, .unset] []))
        refine own_go (fun _ k => XS.lload X1.here hx rfl (hb hby at_90) rfl k) ?_
        show own_Fin _ _ _ _ _ _ _ (T1.setTop (mkF m 92 #[.val (.long q0), .second, .val (.int p1), .val (.int p2), .val (.int p3), .val (.long (1048576 : Int64)), .second, .val (.long b7), .second, .val (.long (own_f2 b7)), .second, .val (.long (b7 / (1048576 : Int64))), .second, .val (.long (b7 - ((b7 / (1048576 : Int64)) * (1048576 : Int64)))), .second, .unset, .unset] [(.long (b7 / (1048576 : Int64)))]))
        refine own_go (fun _ k => XS.goto X1.here hx rfl (pc0 := 92) (pc' := 99) rfl (hb hby at_92) (by decide) (by decide) k) ?_
        show own_Fin _ _ _ _ _ _ _ (T1.setTop (mkF m 99 #[.val (.long q0), .second, .val (.int p1), .val (.int p2), .val (.int p3), .val (.long (1048576 : Int64)), .second, .val (.long b7), .second, .val (.long (own_f2 b7)), .second, .val (.long (b7 / (1048576 : Int64))), .second, .val (.long (b7 - ((b7 / (1048576 : Int64)) * (1048576 : Int64)))), .second, .unset, .unset] [(.long (b7 / (1048576 : Int64)))]))
        refine own_go (fun _ k => XS.lstore X1.here hx rfl (hb hby at_99) rfl (l' := #[.val (.long q0), .second, .val (.int p1), .val (.int p2), .val (.int p3), .val (.long (1048576 : Int64)), .second, .val (.long b7), .second, .val (.long (own_f2 b7)), .second, .val (.long (b7 / (1048576 : Int64))), .second, .val (.long (b7 - ((b7 / (1048576 : Int64)) * (1048576 : Int64)))), .second, .val (.long (b7 / (1048576 : Int64))), .second]) rfl k) ?_
        show own_Fin _ _ _ _ _ _ _ (T1.setTop (mkF m 101 #[.val (.long q0), .second, .val (.int p1), .val (.int p2), .val (.int p3), .val (.long (1048576 : Int64)), .second, .val (.long b7), .second, .val (.long (own_f2 b7)), .second, .val (.long (b7 / (1048576 : Int64))), .second, .val (.long (b7 - ((b7 / (1048576 : Int64)) * (1048576 : Int64)))), .second, .val (.long (b7 / (1048576 : Int64))), .second] []))
        refine own_go (fun _ k => XS.lload X1.here hx rfl (hb hby at_101) rfl k) ?_
        show own_Fin _ _ _ _ _ _ _ (T1.setTop (mkF m 103 #[.val (.long q0), .second, .val (.int p1), .val (.int p2), .val (.int p3), .val (.long (1048576 : Int64)), .second, .val (.long b7), .second, .val (.long (own_f2 b7)), .second, .val (.long (b7 / (1048576 : Int64))), .second, .val (.long (b7 - ((b7 / (1048576 : Int64)) * (1048576 : Int64)))), .second, .val (.long (b7 / (1048576 : Int64))), .second] [(.long (own_f2 b7))]))
        refine own_go (fun _ k => XS.lload X1.here hx rfl (hb hby at_103) rfl k) ?_
        show own_Fin _ _ _ _ _ _ _ (T1.setTop (mkF m 105 #[.val (.long q0), .second, .val (.int p1), .val (.int p2), .val (.int p3), .val (.long (1048576 : Int64)), .second, .val (.long b7), .second, .val (.long (own_f2 b7)), .second, .val (.long (b7 / (1048576 : Int64))), .second, .val (.long (b7 - ((b7 / (1048576 : Int64)) * (1048576 : Int64)))), .second, .val (.long (b7 / (1048576 : Int64))), .second] [(.long (b7 / (1048576 : Int64))), (.long (own_f2 b7))]))
        refine own_go (fun _ k => XT.lcmp X1.here hx rfl (hb hby at_105) rfl k) ?_
        show own_Fin _ _ _ _ _ _ _ (T1.setTop (mkF m 106 #[.val (.long q0), .second, .val (.int p1), .val (.int p2), .val (.int p3), .val (.long (1048576 : Int64)), .second, .val (.long b7), .second, .val (.long (own_f2 b7)), .second, .val (.long (b7 / (1048576 : Int64))), .second, .val (.long (b7 - ((b7 / (1048576 : Int64)) * (1048576 : Int64)))), .second, .val (.long (b7 / (1048576 : Int64))), .second] [(.int (XT.cmpL (own_f2 b7) (b7 / (1048576 : Int64))))]))
        by_cases hc106 : (own_f2 b7) = (b7 / (1048576 : Int64))
        · refine own_go (fun _ k => XS.ifNo X1.here hx rfl (hb hby at_106) rfl (XT.ll_ne_f hc106) k) ?_
          show own_Fin _ _ _ _ _ _ _ (T1.setTop (mkF m 109 #[.val (.long q0), .second, .val (.int p1), .val (.int p2), .val (.int p3), .val (.long (1048576 : Int64)), .second, .val (.long b7), .second, .val (.long (own_f2 b7)), .second, .val (.long (b7 / (1048576 : Int64))), .second, .val (.long (b7 - ((b7 / (1048576 : Int64)) * (1048576 : Int64)))), .second, .val (.long (b7 / (1048576 : Int64))), .second] []))
          refine own_go (fun _ k => XS.iconst X1.here hx rfl (hb hby at_109) k) ?_
          show own_Fin _ _ _ _ _ _ _ (T1.setTop (mkF m 110 #[.val (.long q0), .second, .val (.int p1), .val (.int p2), .val (.int p3), .val (.long (1048576 : Int64)), .second, .val (.long b7), .second, .val (.long (own_f2 b7)), .second, .val (.long (b7 / (1048576 : Int64))), .second, .val (.long (b7 - ((b7 / (1048576 : Int64)) * (1048576 : Int64)))), .second, .val (.long (b7 / (1048576 : Int64))), .second] [(.int (1 : Int32))]))
          refine own_go (fun _ k => XS.goto X1.here hx rfl (pc0 := 110) (pc' := 114) rfl (hb hby at_110) (by decide) (by decide) k) ?_
          show own_Fin _ _ _ _ _ _ _ (T1.setTop (mkF m 114 #[.val (.long q0), .second, .val (.int p1), .val (.int p2), .val (.int p3), .val (.long (1048576 : Int64)), .second, .val (.long b7), .second, .val (.long (own_f2 b7)), .second, .val (.long (b7 / (1048576 : Int64))), .second, .val (.long (b7 - ((b7 / (1048576 : Int64)) * (1048576 : Int64)))), .second, .val (.long (b7 / (1048576 : Int64))), .second] [(.int (1 : Int32))]))
          exact own_retZ X1 hx hlk hret rfl (hb hby at_114) (by decide) (by decide) ⟨(by rw [hjJ43, own_f0_43, if_neg hc54, if_pos hc87, if_pos hc106]), N1, e1⟩
        · refine own_go (fun _ k => XS.ifYes X1.here hx rfl (pc0 := 106) (pc' := 113) rfl (hb hby at_106) rfl (XT.ll_ne_t hc106) (by decide) (by decide) k) ?_
          show own_Fin _ _ _ _ _ _ _ (T1.setTop (mkF m 113 #[.val (.long q0), .second, .val (.int p1), .val (.int p2), .val (.int p3), .val (.long (1048576 : Int64)), .second, .val (.long b7), .second, .val (.long (own_f2 b7)), .second, .val (.long (b7 / (1048576 : Int64))), .second, .val (.long (b7 - ((b7 / (1048576 : Int64)) * (1048576 : Int64)))), .second, .val (.long (b7 / (1048576 : Int64))), .second] []))
          refine own_go (fun _ k => XS.iconst X1.here hx rfl (hb hby at_113) k) ?_
          show own_Fin _ _ _ _ _ _ _ (T1.setTop (mkF m 114 #[.val (.long q0), .second, .val (.int p1), .val (.int p2), .val (.int p3), .val (.long (1048576 : Int64)), .second, .val (.long b7), .second, .val (.long (own_f2 b7)), .second, .val (.long (b7 / (1048576 : Int64))), .second, .val (.long (b7 - ((b7 / (1048576 : Int64)) * (1048576 : Int64)))), .second, .val (.long (b7 / (1048576 : Int64))), .second] [(.int (0 : Int32))]))
          exact own_retZ X1 hx hlk hret rfl (hb hby at_114) (by decide) (by decide) ⟨(by rw [hjJ43, own_f0_43, if_neg hc54, if_pos hc87, if_neg hc106]), N1, e1⟩
      · refine own_go (fun _ k => XS.ifYes X1.here hx rfl (pc0 := 87) (pc' := 95) rfl (hb hby at_87) rfl (XT.ll_ne_t hc87) (by decide) (by decide) k) ?_
        show own_Fin _ _ _ _ _ _ _ (T1.setTop (mkF m 95 #[.val (.long q0), .second, .val (.int p1), .val (.int p2), .val (.int p3), .val (.long (1048576 : Int64)), .second, .val (.long b7), .second, .val (.long (own_f2 b7)), .second, .val (.long (b7 / (1048576 : Int64))), .second, .val (.long (b7 - ((b7 / (1048576 : Int64)) * (1048576 : Int64)))), .second, .unset, .unset] []))
        refine own_go (fun _ k => XS.lload X1.here hx rfl (hb hby at_95) rfl k) ?_
        show own_Fin _ _ _ _ _ _ _ (T1.setTop (mkF m 97 #[.val (.long q0), .second, .val (.int p1), .val (.int p2), .val (.int p3), .val (.long (1048576 : Int64)), .second, .val (.long b7), .second, .val (.long (own_f2 b7)), .second, .val (.long (b7 / (1048576 : Int64))), .second, .val (.long (b7 - ((b7 / (1048576 : Int64)) * (1048576 : Int64)))), .second, .unset, .unset] [(.long (b7 / (1048576 : Int64)))]))
        refine own_go (fun _ k => XS.lconst X1.here hx rfl (hb hby at_97) k) ?_
        show own_Fin _ _ _ _ _ _ _ (T1.setTop (mkF m 98 #[.val (.long q0), .second, .val (.int p1), .val (.int p2), .val (.int p3), .val (.long (1048576 : Int64)), .second, .val (.long b7), .second, .val (.long (own_f2 b7)), .second, .val (.long (b7 / (1048576 : Int64))), .second, .val (.long (b7 - ((b7 / (1048576 : Int64)) * (1048576 : Int64)))), .second, .unset, .unset] [(.long (1 : Int64)), (.long (b7 / (1048576 : Int64)))]))
        refine own_go (fun _ k => XS.ladd X1.here hx rfl (hb hby at_98) rfl k) ?_
        show own_Fin _ _ _ _ _ _ _ (T1.setTop (mkF m 99 #[.val (.long q0), .second, .val (.int p1), .val (.int p2), .val (.int p3), .val (.long (1048576 : Int64)), .second, .val (.long b7), .second, .val (.long (own_f2 b7)), .second, .val (.long (b7 / (1048576 : Int64))), .second, .val (.long (b7 - ((b7 / (1048576 : Int64)) * (1048576 : Int64)))), .second, .unset, .unset] [(.long ((b7 / (1048576 : Int64)) + (1 : Int64)))]))
        refine own_go (fun _ k => XS.lstore X1.here hx rfl (hb hby at_99) rfl (l' := #[.val (.long q0), .second, .val (.int p1), .val (.int p2), .val (.int p3), .val (.long (1048576 : Int64)), .second, .val (.long b7), .second, .val (.long (own_f2 b7)), .second, .val (.long (b7 / (1048576 : Int64))), .second, .val (.long (b7 - ((b7 / (1048576 : Int64)) * (1048576 : Int64)))), .second, .val (.long ((b7 / (1048576 : Int64)) + (1 : Int64))), .second]) rfl k) ?_
        show own_Fin _ _ _ _ _ _ _ (T1.setTop (mkF m 101 #[.val (.long q0), .second, .val (.int p1), .val (.int p2), .val (.int p3), .val (.long (1048576 : Int64)), .second, .val (.long b7), .second, .val (.long (own_f2 b7)), .second, .val (.long (b7 / (1048576 : Int64))), .second, .val (.long (b7 - ((b7 / (1048576 : Int64)) * (1048576 : Int64)))), .second, .val (.long ((b7 / (1048576 : Int64)) + (1 : Int64))), .second] []))
        refine own_go (fun _ k => XS.lload X1.here hx rfl (hb hby at_101) rfl k) ?_
        show own_Fin _ _ _ _ _ _ _ (T1.setTop (mkF m 103 #[.val (.long q0), .second, .val (.int p1), .val (.int p2), .val (.int p3), .val (.long (1048576 : Int64)), .second, .val (.long b7), .second, .val (.long (own_f2 b7)), .second, .val (.long (b7 / (1048576 : Int64))), .second, .val (.long (b7 - ((b7 / (1048576 : Int64)) * (1048576 : Int64)))), .second, .val (.long ((b7 / (1048576 : Int64)) + (1 : Int64))), .second] [(.long (own_f2 b7))]))
        refine own_go (fun _ k => XS.lload X1.here hx rfl (hb hby at_103) rfl k) ?_
        show own_Fin _ _ _ _ _ _ _ (T1.setTop (mkF m 105 #[.val (.long q0), .second, .val (.int p1), .val (.int p2), .val (.int p3), .val (.long (1048576 : Int64)), .second, .val (.long b7), .second, .val (.long (own_f2 b7)), .second, .val (.long (b7 / (1048576 : Int64))), .second, .val (.long (b7 - ((b7 / (1048576 : Int64)) * (1048576 : Int64)))), .second, .val (.long ((b7 / (1048576 : Int64)) + (1 : Int64))), .second] [(.long ((b7 / (1048576 : Int64)) + (1 : Int64))), (.long (own_f2 b7))]))
        refine own_go (fun _ k => XT.lcmp X1.here hx rfl (hb hby at_105) rfl k) ?_
        show own_Fin _ _ _ _ _ _ _ (T1.setTop (mkF m 106 #[.val (.long q0), .second, .val (.int p1), .val (.int p2), .val (.int p3), .val (.long (1048576 : Int64)), .second, .val (.long b7), .second, .val (.long (own_f2 b7)), .second, .val (.long (b7 / (1048576 : Int64))), .second, .val (.long (b7 - ((b7 / (1048576 : Int64)) * (1048576 : Int64)))), .second, .val (.long ((b7 / (1048576 : Int64)) + (1 : Int64))), .second] [(.int (XT.cmpL (own_f2 b7) ((b7 / (1048576 : Int64)) + (1 : Int64))))]))
        by_cases hc106 : (own_f2 b7) = ((b7 / (1048576 : Int64)) + (1 : Int64))
        · refine own_go (fun _ k => XS.ifNo X1.here hx rfl (hb hby at_106) rfl (XT.ll_ne_f hc106) k) ?_
          show own_Fin _ _ _ _ _ _ _ (T1.setTop (mkF m 109 #[.val (.long q0), .second, .val (.int p1), .val (.int p2), .val (.int p3), .val (.long (1048576 : Int64)), .second, .val (.long b7), .second, .val (.long (own_f2 b7)), .second, .val (.long (b7 / (1048576 : Int64))), .second, .val (.long (b7 - ((b7 / (1048576 : Int64)) * (1048576 : Int64)))), .second, .val (.long ((b7 / (1048576 : Int64)) + (1 : Int64))), .second] []))
          refine own_go (fun _ k => XS.iconst X1.here hx rfl (hb hby at_109) k) ?_
          show own_Fin _ _ _ _ _ _ _ (T1.setTop (mkF m 110 #[.val (.long q0), .second, .val (.int p1), .val (.int p2), .val (.int p3), .val (.long (1048576 : Int64)), .second, .val (.long b7), .second, .val (.long (own_f2 b7)), .second, .val (.long (b7 / (1048576 : Int64))), .second, .val (.long (b7 - ((b7 / (1048576 : Int64)) * (1048576 : Int64)))), .second, .val (.long ((b7 / (1048576 : Int64)) + (1 : Int64))), .second] [(.int (1 : Int32))]))
          refine own_go (fun _ k => XS.goto X1.here hx rfl (pc0 := 110) (pc' := 114) rfl (hb hby at_110) (by decide) (by decide) k) ?_
          show own_Fin _ _ _ _ _ _ _ (T1.setTop (mkF m 114 #[.val (.long q0), .second, .val (.int p1), .val (.int p2), .val (.int p3), .val (.long (1048576 : Int64)), .second, .val (.long b7), .second, .val (.long (own_f2 b7)), .second, .val (.long (b7 / (1048576 : Int64))), .second, .val (.long (b7 - ((b7 / (1048576 : Int64)) * (1048576 : Int64)))), .second, .val (.long ((b7 / (1048576 : Int64)) + (1 : Int64))), .second] [(.int (1 : Int32))]))
          exact own_retZ X1 hx hlk hret rfl (hb hby at_114) (by decide) (by decide) ⟨(by rw [hjJ43, own_f0_43, if_neg hc54, if_neg hc87, if_pos hc106]), N1, e1⟩
        · refine own_go (fun _ k => XS.ifYes X1.here hx rfl (pc0 := 106) (pc' := 113) rfl (hb hby at_106) rfl (XT.ll_ne_t hc106) (by decide) (by decide) k) ?_
          show own_Fin _ _ _ _ _ _ _ (T1.setTop (mkF m 113 #[.val (.long q0), .second, .val (.int p1), .val (.int p2), .val (.int p3), .val (.long (1048576 : Int64)), .second, .val (.long b7), .second, .val (.long (own_f2 b7)), .second, .val (.long (b7 / (1048576 : Int64))), .second, .val (.long (b7 - ((b7 / (1048576 : Int64)) * (1048576 : Int64)))), .second, .val (.long ((b7 / (1048576 : Int64)) + (1 : Int64))), .second] []))
          refine own_go (fun _ k => XS.iconst X1.here hx rfl (hb hby at_113) k) ?_
          show own_Fin _ _ _ _ _ _ _ (T1.setTop (mkF m 114 #[.val (.long q0), .second, .val (.int p1), .val (.int p2), .val (.int p3), .val (.long (1048576 : Int64)), .second, .val (.long b7), .second, .val (.long (own_f2 b7)), .second, .val (.long (b7 / (1048576 : Int64))), .second, .val (.long (b7 - ((b7 / (1048576 : Int64)) * (1048576 : Int64)))), .second, .val (.long ((b7 / (1048576 : Int64)) + (1 : Int64))), .second] [(.int (0 : Int32))]))
          exact own_retZ X1 hx hlk hret rfl (hb hby at_114) (by decide) (by decide) ⟨(by rw [hjJ43, own_f0_43, if_neg hc54, if_neg hc87, if_neg hc106]), N1, e1⟩
  by_cases hc9 : (p3 &&& (1 : Int32)) = 0
  · refine own_go (fun _ k => XS.ifYes X0.here hx rfl (pc0 := 9) (pc' := 22) rfl (hb hby at_9) rfl (XT.i0_eq_t hc9) (by decide) (by decide) k) ?_
    show own_Fin _ _ _ _ _ _ _ (s₁.setTop (mkF m 22 #[.val (.long q0), .second, .val (.int p1), .val (.int p2), .val (.int p3), .val (.long (1048576 : Int64)), .second, .unset, .unset, .unset, .unset, .unset, .unset, .unset, .unset, .unset, .unset] []))
    refine own_go (fun _ k => XS.lconst X0.here hx rfl (hb hby at_22) k) ?_
    show own_Fin _ _ _ _ _ _ _ (s₁.setTop (mkF m 23 #[.val (.long q0), .second, .val (.int p1), .val (.int p2), .val (.int p3), .val (.long (1048576 : Int64)), .second, .unset, .unset, .unset, .unset, .unset, .unset, .unset, .unset, .unset, .unset] [(.long (0 : Int64))]))
    refine own_go (fun _ k => XS.iloadN X0.here hx rfl (hb hby at_23) rfl k) ?_
    show own_Fin _ _ _ _ _ _ _ (s₁.setTop (mkF m 24 #[.val (.long q0), .second, .val (.int p1), .val (.int p2), .val (.int p3), .val (.long (1048576 : Int64)), .second, .unset, .unset, .unset, .unset, .unset, .unset, .unset, .unset, .unset, .unset] [(.int p1), (.long (0 : Int64))]))
    refine own_go (fun _ k => X0.ldcI hx hown (mvT hZ (hw _ (List.mem_of_getElem? (i := 1) rfl))) rfl (hb hby at_24) k) ?_
    show own_Fin _ _ _ _ _ _ _ (s₁.setTop (mkF m 26 #[.val (.long q0), .second, .val (.int p1), .val (.int p2), .val (.int p3), .val (.long (1048576 : Int64)), .second, .unset, .unset, .unset, .unset, .unset, .unset, .unset, .unset, .unset, .unset] [(.int (268435455 : Int32)), (.int p1), (.long (0 : Int64))]))
    refine own_go (fun _ k => XS.iand X0.here hx rfl (hb hby at_26) rfl k) ?_
    show own_Fin _ _ _ _ _ _ _ (s₁.setTop (mkF m 27 #[.val (.long q0), .second, .val (.int p1), .val (.int p2), .val (.int p3), .val (.long (1048576 : Int64)), .second, .unset, .unset, .unset, .unset, .unset, .unset, .unset, .unset, .unset, .unset] [(.int (p1 &&& (268435455 : Int32))), (.long (0 : Int64))]))
    refine own_go (fun _ k => XS.i2l X0.here hx rfl (hb hby at_27) rfl k) ?_
    show own_Fin _ _ _ _ _ _ _ (s₁.setTop (mkF m 28 #[.val (.long q0), .second, .val (.int p1), .val (.int p2), .val (.int p3), .val (.long (1048576 : Int64)), .second, .unset, .unset, .unset, .unset, .unset, .unset, .unset, .unset, .unset, .unset] [(.long (Int32.toInt64 (p1 &&& (268435455 : Int32)))), (.long (0 : Int64))]))
    refine own_go (fun _ k => XS.lload X0.here hx rfl (hb hby at_28) rfl k) ?_
    show own_Fin _ _ _ _ _ _ _ (s₁.setTop (mkF m 30 #[.val (.long q0), .second, .val (.int p1), .val (.int p2), .val (.int p3), .val (.long (1048576 : Int64)), .second, .unset, .unset, .unset, .unset, .unset, .unset, .unset, .unset, .unset, .unset] [(.long (1048576 : Int64)), (.long (Int32.toInt64 (p1 &&& (268435455 : Int32)))), (.long (0 : Int64))]))
    refine own_go (fun _ k => XS.lmul X0.here hx rfl (hb hby at_30) rfl k) ?_
    show own_Fin _ _ _ _ _ _ _ (s₁.setTop (mkF m 31 #[.val (.long q0), .second, .val (.int p1), .val (.int p2), .val (.int p3), .val (.long (1048576 : Int64)), .second, .unset, .unset, .unset, .unset, .unset, .unset, .unset, .unset, .unset, .unset] [(.long ((Int32.toInt64 (p1 &&& (268435455 : Int32))) * (1048576 : Int64))), (.long (0 : Int64))]))
    refine own_go (fun _ k => XS.iloadN X0.here hx rfl (hb hby at_31) rfl k) ?_
    show own_Fin _ _ _ _ _ _ _ (s₁.setTop (mkF m 32 #[.val (.long q0), .second, .val (.int p1), .val (.int p2), .val (.int p3), .val (.long (1048576 : Int64)), .second, .unset, .unset, .unset, .unset, .unset, .unset, .unset, .unset, .unset, .unset] [(.int p2), (.long ((Int32.toInt64 (p1 &&& (268435455 : Int32))) * (1048576 : Int64))), (.long (0 : Int64))]))
    refine own_go (fun _ k => XS.iconst X0.here hx rfl (hb hby at_32) k) ?_
    show own_Fin _ _ _ _ _ _ _ (s₁.setTop (mkF m 33 #[.val (.long q0), .second, .val (.int p1), .val (.int p2), .val (.int p3), .val (.long (1048576 : Int64)), .second, .unset, .unset, .unset, .unset, .unset, .unset, .unset, .unset, .unset, .unset] [(.int (3 : Int32)), (.int p2), (.long ((Int32.toInt64 (p1 &&& (268435455 : Int32))) * (1048576 : Int64))), (.long (0 : Int64))]))
    refine own_go (fun _ k => XS.iand X0.here hx rfl (hb hby at_33) rfl k) ?_
    show own_Fin _ _ _ _ _ _ _ (s₁.setTop (mkF m 34 #[.val (.long q0), .second, .val (.int p1), .val (.int p2), .val (.int p3), .val (.long (1048576 : Int64)), .second, .unset, .unset, .unset, .unset, .unset, .unset, .unset, .unset, .unset, .unset] [(.int (p2 &&& (3 : Int32))), (.long ((Int32.toInt64 (p1 &&& (268435455 : Int32))) * (1048576 : Int64))), (.long (0 : Int64))]))
    refine own_go (fun _ k => XS.iconst X0.here hx rfl (hb hby at_34) k) ?_
    show own_Fin _ _ _ _ _ _ _ (s₁.setTop (mkF m 35 #[.val (.long q0), .second, .val (.int p1), .val (.int p2), .val (.int p3), .val (.long (1048576 : Int64)), .second, .unset, .unset, .unset, .unset, .unset, .unset, .unset, .unset, .unset, .unset] [(.int (1 : Int32)), (.int (p2 &&& (3 : Int32))), (.long ((Int32.toInt64 (p1 &&& (268435455 : Int32))) * (1048576 : Int64))), (.long (0 : Int64))]))
    refine own_go (fun _ k => XS.isub X0.here hx rfl (hb hby at_35) rfl k) ?_
    show own_Fin _ _ _ _ _ _ _ (s₁.setTop (mkF m 36 #[.val (.long q0), .second, .val (.int p1), .val (.int p2), .val (.int p3), .val (.long (1048576 : Int64)), .second, .unset, .unset, .unset, .unset, .unset, .unset, .unset, .unset, .unset, .unset] [(.int ((p2 &&& (3 : Int32)) - (1 : Int32))), (.long ((Int32.toInt64 (p1 &&& (268435455 : Int32))) * (1048576 : Int64))), (.long (0 : Int64))]))
    refine own_go (fun _ k => XS.i2l X0.here hx rfl (hb hby at_36) rfl k) ?_
    show own_Fin _ _ _ _ _ _ _ (s₁.setTop (mkF m 37 #[.val (.long q0), .second, .val (.int p1), .val (.int p2), .val (.int p3), .val (.long (1048576 : Int64)), .second, .unset, .unset, .unset, .unset, .unset, .unset, .unset, .unset, .unset, .unset] [(.long (Int32.toInt64 ((p2 &&& (3 : Int32)) - (1 : Int32)))), (.long ((Int32.toInt64 (p1 &&& (268435455 : Int32))) * (1048576 : Int64))), (.long (0 : Int64))]))
    refine own_go (fun _ k => XS.ladd X0.here hx rfl (hb hby at_37) rfl k) ?_
    show own_Fin _ _ _ _ _ _ _ (s₁.setTop (mkF m 38 #[.val (.long q0), .second, .val (.int p1), .val (.int p2), .val (.int p3), .val (.long (1048576 : Int64)), .second, .unset, .unset, .unset, .unset, .unset, .unset, .unset, .unset, .unset, .unset] [(.long (((Int32.toInt64 (p1 &&& (268435455 : Int32))) * (1048576 : Int64)) + (Int32.toInt64 ((p2 &&& (3 : Int32)) - (1 : Int32))))), (.long (0 : Int64))]))
    refine own_callS X0 hx hZ hown (hw _ (List.mem_of_getElem? (i := 2) rfl)) (hw _ (List.mem_of_getElem? (i := 3) rfl)) (hw _ (List.mem_of_getElem? (i := 4) rfl)) (hw _ (List.mem_of_getElem? (i := 5) rfl)) (by decide) (rm1 l Z a0 hw (0 : Int64) (((Int32.toInt64 (p1 &&& (268435455 : Int32))) * (1048576 : Int64)) + (Int32.toInt64 ((p2 &&& (3 : Int32)) - (1 : Int32)))) h0 n0 Z0) e0 (argsL := [(.long (0 : Int64)), (.long (((Int32.toInt64 (p1 &&& (268435455 : Int32))) * (1048576 : Int64)) + (Int32.toInt64 ((p2 &&& (3 : Int32)) - (1 : Int32)))))]) (rest := []) rfl rfl (by rw [hml]; rfl) (lenOf pd_0_1 rfl) (hb hby at_38) (W := 0) (by decide) (by decide) (by decide) (by decide) (by decide) ?_
    rintro v2 T2 L2 X2 ⟨rfl, M2, e2⟩
    have N2 := Fr.app N0 M2
    show own_Fin _ _ _ _ _ _ _ (T2.setTop (mkF m 41 #[.val (.long q0), .second, .val (.int p1), .val (.int p2), .val (.int p3), .val (.long (1048576 : Int64)), .second, .unset, .unset, .unset, .unset, .unset, .unset, .unset, .unset, .unset, .unset] [(.long (own_f1 (0 : Int64) (((Int32.toInt64 (p1 &&& (268435455 : Int32))) * (1048576 : Int64)) + (Int32.toInt64 ((p2 &&& (3 : Int32)) - (1 : Int32))))))]))
    refine own_go (fun _ k => XS.lstore X2.here hx rfl (hb hby at_41) rfl (l' := #[.val (.long q0), .second, .val (.int p1), .val (.int p2), .val (.int p3), .val (.long (1048576 : Int64)), .second, .val (.long (own_f1 (0 : Int64) (((Int32.toInt64 (p1 &&& (268435455 : Int32))) * (1048576 : Int64)) + (Int32.toInt64 ((p2 &&& (3 : Int32)) - (1 : Int32)))))), .second, .unset, .unset, .unset, .unset, .unset, .unset, .unset, .unset]) rfl k) ?_
    show own_Fin _ _ _ _ _ _ _ (T2.setTop (mkF m 43 #[.val (.long q0), .second, .val (.int p1), .val (.int p2), .val (.int p3), .val (.long (1048576 : Int64)), .second, .val (.long (own_f1 (0 : Int64) (((Int32.toInt64 (p1 &&& (268435455 : Int32))) * (1048576 : Int64)) + (Int32.toInt64 ((p2 &&& (3 : Int32)) - (1 : Int32)))))), .second, .unset, .unset, .unset, .unset, .unset, .unset, .unset, .unset] []))
    exact J43 _ _ ((own_f1 (0 : Int64) (((Int32.toInt64 (p1 &&& (268435455 : Int32))) * (1048576 : Int64)) + (Int32.toInt64 ((p2 &&& (3 : Int32)) - (1 : Int32)))))) X2 N2 e2 (by rw [own_f0, if_pos hc9])
  · refine own_go (fun _ k => XS.ifNo X0.here hx rfl (hb hby at_9) rfl (XT.i0_eq_f hc9) k) ?_
    show own_Fin _ _ _ _ _ _ _ (s₁.setTop (mkF m 12 #[.val (.long q0), .second, .val (.int p1), .val (.int p2), .val (.int p3), .val (.long (1048576 : Int64)), .second, .unset, .unset, .unset, .unset, .unset, .unset, .unset, .unset, .unset, .unset] []))
    refine own_go (fun _ k => XS.lloadN X0.here hx rfl (hb hby at_12) rfl k) ?_
    show own_Fin _ _ _ _ _ _ _ (s₁.setTop (mkF m 13 #[.val (.long q0), .second, .val (.int p1), .val (.int p2), .val (.int p3), .val (.long (1048576 : Int64)), .second, .unset, .unset, .unset, .unset, .unset, .unset, .unset, .unset, .unset, .unset] [(.long q0)]))
    refine own_go (fun _ k => X0.ldc2J hx hown (mvT hZ (hw _ (List.mem_of_getElem? (i := 6) rfl))) rfl (hb hby at_13) k) ?_
    show own_Fin _ _ _ _ _ _ _ (s₁.setTop (mkF m 16 #[.val (.long q0), .second, .val (.int p1), .val (.int p2), .val (.int p3), .val (.long (1048576 : Int64)), .second, .unset, .unset, .unset, .unset, .unset, .unset, .unset, .unset, .unset, .unset] [(.long (9223372036854775807 : Int64)), (.long q0)]))
    refine own_go (fun _ k => XS.land X0.here hx rfl (hb hby at_16) rfl k) ?_
    show own_Fin _ _ _ _ _ _ _ (s₁.setTop (mkF m 17 #[.val (.long q0), .second, .val (.int p1), .val (.int p2), .val (.int p3), .val (.long (1048576 : Int64)), .second, .unset, .unset, .unset, .unset, .unset, .unset, .unset, .unset, .unset, .unset] [(.long (q0 &&& (9223372036854775807 : Int64)))]))
    refine own_go (fun _ k => XS.lstore X0.here hx rfl (hb hby at_17) rfl (l' := #[.val (.long q0), .second, .val (.int p1), .val (.int p2), .val (.int p3), .val (.long (1048576 : Int64)), .second, .val (.long (q0 &&& (9223372036854775807 : Int64))), .second, .unset, .unset, .unset, .unset, .unset, .unset, .unset, .unset]) rfl k) ?_
    show own_Fin _ _ _ _ _ _ _ (s₁.setTop (mkF m 19 #[.val (.long q0), .second, .val (.int p1), .val (.int p2), .val (.int p3), .val (.long (1048576 : Int64)), .second, .val (.long (q0 &&& (9223372036854775807 : Int64))), .second, .unset, .unset, .unset, .unset, .unset, .unset, .unset, .unset] []))
    refine own_go (fun _ k => XS.goto X0.here hx rfl (pc0 := 19) (pc' := 43) rfl (hb hby at_19) (by decide) (by decide) k) ?_
    show own_Fin _ _ _ _ _ _ _ (s₁.setTop (mkF m 43 #[.val (.long q0), .second, .val (.int p1), .val (.int p2), .val (.int p3), .val (.long (1048576 : Int64)), .second, .val (.long (q0 &&& (9223372036854775807 : Int64))), .second, .unset, .unset, .unset, .unset, .unset, .unset, .unset, .unset] []))
    exact J43 _ _ ((q0 &&& (9223372036854775807 : Int64))) X0 N0 e0 (by rw [own_f0, if_neg hc9])

theorem own_tail (q0 : Int64) (p1 p2 p3 : Int32) (b : Int64) (hb : 0 ≤ b.toInt) : own_f0_43 q0 p1 p2 p3 b = 1 := by
  have e1 : ((9223372036854775807 : Int64) - ((1048576 : Int64) - (1 : Int64))) = 9223372036853727232 := by decide
  have eM : (1048576 : Int64).toInt = 1048576 := by decide
  have e1' : (1 : Int64).toInt = 1 := by decide
  unfold own_f0_43
  rw [e1]
  by_cases h : (9223372036853727232 : Int64) < b
  · rw [if_pos h]
  · rw [if_neg h]
    rw [Int64.lt_iff_toInt_lt] at h
    have eL : (9223372036853727232 : Int64).toInt = 9223372036853727232 := by decide
    rw [eL] at h
    have d1 : (b / 1048576).toInt = b.toInt / 1048576 := by
      rw [Jvm.Kit.i64_div (by rw [eM]; omega), eM, Int.tdiv_eq_ediv_of_nonneg hb]
    have m1 : (b / 1048576 * 1048576).toInt = b.toInt / 1048576 * 1048576 := by
      rw [Jvm.Kit.i64_mul (by rw [d1, eM]; omega) (by rw [d1, eM]; omega), d1, eM]
    have r1 : (b - b / 1048576 * 1048576).toInt = b.toInt - b.toInt / 1048576 * 1048576 := by
      rw [Jvm.Kit.i64_sub (by rw [m1]; omega) (by rw [m1]; omega), m1]
    have s1 : (b + 1048576) - 1 = b + 1048575 := by
      rw [Int64.sub_eq_add_neg, Int64.add_assoc]; rfl
    have eN : (1048575 : Int64).toInt = 1048575 := by decide
    have s2 : (b + 1048575).toInt = b.toInt + 1048575 := by
      rw [Jvm.Kit.i64_add (by rw [eN]; omega) (by rw [eN]; omega), eN]
    have f2 : (own_f2 b).toInt = (b.toInt + 1048575) / 1048576 := by
      unfold own_f2
      rw [s1, Jvm.Kit.i64_div (by rw [eM]; omega), eM, s2, Int.tdiv_eq_ediv_of_nonneg (by omega)]
    by_cases hr : b - b / 1048576 * 1048576 = 0
    · rw [if_pos hr, if_pos]
      have h0 : (b - b / 1048576 * 1048576).toInt = 0 := by rw [hr]; rfl
      apply Int64.toInt_inj.mp
      rw [f2, d1]; omega
    · rw [if_neg hr, if_pos]
      have h0 : (b - b / 1048576 * 1048576).toInt ≠ 0 := fun q => hr (Int64.toInt_inj.mp q)
      apply Int64.toInt_inj.mp
      rw [f2, Jvm.Kit.i64_add (by rw [d1, e1']; omega) (by rw [d1, e1']; omega), d1, e1']; omega
theorem own_law (q0 : Int64) (p1 p2 p3 : Int32) : own_f0 q0 p1 p2 p3 = 1 := by
  unfold own_f0
  split
  · refine own_tail _ _ _ _ _ ?_
    unfold own_f1
    split
    · rename_i h
      rw [Int64.lt_iff_toInt_lt] at h
      have : (0 : Int64).toInt = 0 := by decide
      omega
    · decide
  · refine own_tail _ _ _ _ _ ?_
    rw [Jvm.Kit.i64_mask q0 9223372036854775807 (k := 63) (by decide) (by decide)]
    omega

set_option maxRecDepth 65536 in
set_option maxHeartbeats 40000000 in
theorem comes_1 {Post : Tables → Env → Array Value → State → Outcome → State → Prop} (hpost : ∀ tb e args s v u, (limb_1_1.after args s (.returned v) u = true ∧ limb_1_2.after args s (.returned v) u = true ∧ True) → FrameEnd s (.returned v) u (Jvm.fieldLocs frame_1_writes args s ++ Jvm.arrayLocs frame_1_arrays args s ++ Jvm.staticLocs frame_1_statics s) 0 0 → Post tb e args s (.returned v) u) :
    ArmFor flags0 classFile x code maxLocals ret World_1 tables_1 room_1 Calls_1 rest_1 Pre_1 Post := by
  intro l hfl _ _ p e ha hc hk s m args below hf hA hF happ hP
  obtain ⟨hcalls, hrest, hpre⟩ := hP
  obtain ⟨-, -, -, hnamed, -, -, -, hat⟩ := (Spec.applies_iff hf).mp happ
  obtain ⟨hg, hn⟩ := and_e (Cond.before_iff.mp (show (Jvm.Cond.and given_1 narrow_1).before args s = true from hpre))
  obtain ⟨gg1, gg2⟩ := and_e hg
  obtain ⟨gg3, gg4⟩ := and_e gg2
  obtain ⟨gg5, gg6⟩ := and_e gg4
  obtain ⟨gg7, gg8⟩ := and_e gg6
  obtain ⟨w0, w1, w2, w3, rfl⟩ : ∃ w0 w1 w2 w3 : Value, args = #[w0, w1, w2, w3] := by
    have hs : args.size = 4 := by simpa [Cond.value, given_1] using gg1
    obtain ⟨L⟩ := args
    match L, hs with
    | [w0, w1, w2, w3], _ => exact ⟨w0, w1, w2, w3, rfl⟩
  have hw := fun d (hd : d ∈ tables_1) => atoms_spec (ws := Jvm.Cond.code x code maxLocals ret :: tables_1) hat d (List.mem_cons_of_mem _ hd)
  have hfit : Fit s := fun {y c} hc i hi => by
    obtain ⟨ha, rfl⟩ := Array.getElem?_eq_some_iff.mp hc
    have q := List.all_eq_true.mp ((Array.all_eq_true_iff_forall_mem.mp hF) _ (Array.getElem_mem ha)) i (List.mem_range.mpr hi)
    simpa [Array.getElem?_eq_getElem hi] using q
  obtain ⟨i0, ei0⟩ := isL_v gg3
  obtain rfl : w0 = (.long i0) := Option.some.inj ei0
  obtain ⟨i1, ei1⟩ := is_v gg5
  obtain rfl : w1 = (.int i1) := Option.some.inj ei1
  obtain ⟨i2, ei2⟩ := is_v gg7
  obtain rfl : w2 = (.int i2) := Option.some.inj ei2
  obtain ⟨i3, ei3⟩ := is_v gg8
  obtain rfl : w3 = (.int i3) := Option.some.inj ei3
  obtain ⟨n, o, h1, h2, h3, _, L, rfl, ⟨rfl, N, -⟩, hq⟩ := rm0 l s _ hw i0 i1 i2 i3 s.heap s.heap.size (Nat.le_refl _)  p e ha hc hk s m _ below hf ((Spec.applies_iff_loose hf).mp happ).1 ⟨rfl, State.Warmed39.refl s, rfl⟩ trivial
  refine ⟨n, _, h1, h2, h3, hpost _ _ _ _ _ _ ⟨Cond.after_iff.mpr rfl, Cond.after_iff.mpr (eq_i res_at (Term.int_eval (1)) (congrArg Value.int (own_law _ _ _ _))), trivial⟩ ⟨hq.1, hq.2.1, (hq.2.2.sift fun y hy => Or.inr (N y hy)).mono (by decide) (by decide)⟩⟩
theorem main_1_1 : Claimed_1_1 := comes_1 fun _ _ _ _ _ _ h hF => ⟨h.1, hF⟩
theorem main_1_2 : Claimed_1_2 := comes_1 fun _ _ _ _ _ _ h hF => ⟨h.2.1, hF⟩

end Jvm.Pilot.@@N@@
namespace Jvm.Pilot.@@N@@
open Jvm Jvm.ClassFile Sem Op Lib Jvm.Free Jvm.Stand Jvm.Pilot.@@N@@.Jvm.D
/-! MADE BY PROGRAM (witnessworld.py) out of the Statement's table words and the real class files: 11 classes; the members and pool entries that the words name. The judged class is class 1, her method 1. -/
namespace start1
open Jvm.ClassFile
def u (s : String) : CpInfo := .utf8 (stringToUtf16 s)
/-- a pool by its gaps: so many unusable entries, then the entry; so many at the end -/
def gap : Nat → List CpInfo → List CpInfo
  | 0, r => r
  | n + 1, r => .unusable :: gap n r
def poolList (es : List (Nat × CpInfo)) (last : Nat) : List CpInfo := es.foldr (fun e r => gap e.1 (e.2 :: r)) (gap last [])
def pool (es : List (Nat × CpInfo)) (last : Nat) : Array CpInfo := ⟨poolList es last⟩
def fileOf (pool : Array CpInfo) (this : Nat) (attrs : Array Attribute := #[]) (ms : Array MethodInfo := #[]) (fl : Nat := 33) (sup : Nat := 0) (ifs : Array Nat := #[]) (fds : Array FieldInfo := #[]) : ClassFile where
  minorVersion := 0
  majorVersion := 65
  constantPool := pool
  accessFlags := fl
  thisClass := this
  superClass := sup
  interfaces := ifs
  fields := fds
  methods := ms
  attributes := attrs
def plain (name : String) (sup : Option ClassId) : Class where
  name := name
  kind := .ordinary
  loader := none
  accessFlags := 33
  super := sup
  interfaces := #[]
  cf := none
  fields := #[]
  methods := #[]
  instanceTypes := #[]
  staticTypes := #[]
  resolved := #[]
  callSites := []
  init := .initialized
  statics := none
  mirror := none

def pool0 : Array CpInfo := pool [(5, u "<init>"), (0, u "()V"), (1, .class_ 10), (1, u "java/lang/Object")] 113

def k0m0 : Method := { name := "<init>", desc := "()V", sig := { parameters := [], returnType := none }, accessFlags := 1, code := none }
/-- java/lang/Object -/
def k0 : Class := { plain "java/lang/Object" none with
  accessFlags := 33
  interfaces := #[]
  cf := some (fileOf pool0 8 #[] #[{ accessFlags := 1, nameIndex := 5, descriptorIndex := 6, attributes := #[] }] 33 0 #[] #[])
  fields := #[]
  methods := #[k0m0]
  instanceTypes := #[]
  staticTypes := #[]
  resolved := Array.replicate 124 none
  statics := none }

def pool1 : Array CpInfo := pool [(2, .class_ 4), (1, u "java/lang/Object"), (0, u "<init>"), (0, u "()V"), (0, .long 1048576), (3, .long 9223372036854775807), (1, .integer 268435455), (0, .methodref 15 16), (0, .class_ 17), (0, .nameAndType 18 19), (0, u "java/lang/Math"), (0, u "max"), (0, u "(JJ)J"), (0, .methodref 21 22), (0, .class_ 23), (0, .nameAndType 24 25), (0, u "com/example/tenantry/tenantry/builtin/Size"), (0, u "mebibytes"), (0, u "(J)J"), (0, .class_ 27), (0, u "com/example/tenantry/tenantry/builtin/SizeMebibytesPinLaw"), (2, u "law"), (0, u "(JIII)Z")] 3

def k1m0 : Method := { name := "<init>", desc := "()V", sig := { parameters := [], returnType := none }, accessFlags := 1, code := none }
def k1c1 : Code := { maxStack := 8, maxLocals := 17, code := code, exceptionTable := #[], attributes := #[] }
def k1m1 : Method := { name := "law", desc := "(JIII)Z", sig := { parameters := [.long, .int, .int, .int], returnType := some .boolean }, accessFlags := 9, code := some k1c1 }
/-- com/example/tenantry/tenantry/builtin/SizeMebibytesPinLaw -/
def k1 : Class := { plain "com/example/tenantry/tenantry/builtin/SizeMebibytesPinLaw" (some 0) with
  accessFlags := 49
  interfaces := #[]
  cf := some (fileOf pool1 26 #[] #[{ accessFlags := 1, nameIndex := 5, descriptorIndex := 6, attributes := #[] }, { accessFlags := 9, nameIndex := 30, descriptorIndex := 31, attributes := #[] }] 49 2 #[] #[])
  fields := #[]
  methods := #[k1m0, k1m1]
  instanceTypes := #[]
  staticTypes := #[]
  resolved := Array.replicate 35 none
  statics := none }

def pool2 : Array CpInfo := pool [(1, .class_ 2), (0, u "java/lang/Math"), (1, .class_ 6), (1, u "java/lang/Object"), (0, u "<init>"), (0, u "()V"), (89, .class_ 100), (1, u "java/lang/Math$RandomNumberGeneratorHolder"), (20, u "(JJ)J"), (50, u "negativeZeroFloatBits"), (0, u "J"), (2, u "negativeZeroDoubleBits"), (21, u "max"), (46, u "$assertionsDisabled"), (0, u "Z"), (91, u "twoToTheDoubleScaleDown"), (0, u "D"), (4, u "twoToTheDoubleScaleUp"), (9, u "E"), (3, u "PI"), (2, u "TAU"), (2, u "DEGREES_TO_RADIANS"), (0, u "RADIANS_TO_DEGREES")] 94

def k2m0 : Method := { name := "<init>", desc := "()V", sig := { parameters := [], returnType := none }, accessFlags := 2, code := none }
def k2c1 : Code := { maxStack := 4, maxLocals := 4, code := jdk_29_method_66_code, exceptionTable := #[], attributes := #[] }
def k2m1 : Method := { name := "max", desc := "(JJ)J", sig := { parameters := [.long, .long], returnType := some .long }, accessFlags := 9, code := some k2c1 }
/-- java/lang/Math -/
def k2 : Class := { plain "java/lang/Math" (some 0) with
  accessFlags := 49
  interfaces := #[]
  cf := some (fileOf pool2 1 #[.nestMembers #[98]] #[{ accessFlags := 2, nameIndex := 7, descriptorIndex := 8, attributes := #[] }, { accessFlags := 9, nameIndex := 198, descriptorIndex := 121, attributes := #[] }] 49 4 #[] #[{ accessFlags := 25, nameIndex := 354, descriptorIndex := 339, attributes := #[] }, { accessFlags := 25, nameIndex := 358, descriptorIndex := 339, attributes := #[] }, { accessFlags := 25, nameIndex := 361, descriptorIndex := 339, attributes := #[] }, { accessFlags := 26, nameIndex := 364, descriptorIndex := 339, attributes := #[] }, { accessFlags := 26, nameIndex := 365, descriptorIndex := 339, attributes := #[] }, { accessFlags := 26, nameIndex := 172, descriptorIndex := 173, attributes := #[] }, { accessFlags := 26, nameIndex := 176, descriptorIndex := 173, attributes := #[] }, { accessFlags := 8, nameIndex := 344, descriptorIndex := 339, attributes := #[] }, { accessFlags := 8, nameIndex := 338, descriptorIndex := 339, attributes := #[] }, { accessFlags := 4120, nameIndex := 245, descriptorIndex := 246, attributes := #[] }])
  fields := #[{ name := "E", type := .double, accessFlags := 25, slot := 0, constantValue := 0 }, { name := "PI", type := .double, accessFlags := 25, slot := 1, constantValue := 0 }, { name := "TAU", type := .double, accessFlags := 25, slot := 2, constantValue := 0 }, { name := "DEGREES_TO_RADIANS", type := .double, accessFlags := 26, slot := 3, constantValue := 0 }, { name := "RADIANS_TO_DEGREES", type := .double, accessFlags := 26, slot := 4, constantValue := 0 }, { name := "negativeZeroFloatBits", type := .long, accessFlags := 26, slot := 5, constantValue := 0 }, { name := "negativeZeroDoubleBits", type := .long, accessFlags := 26, slot := 6, constantValue := 0 }, { name := "twoToTheDoubleScaleUp", type := .double, accessFlags := 8, slot := 7, constantValue := 0 }, { name := "twoToTheDoubleScaleDown", type := .double, accessFlags := 8, slot := 8, constantValue := 0 }, { name := "$assertionsDisabled", type := .boolean, accessFlags := 4120, slot := 9, constantValue := 0 }]
  methods := #[k2m0, k2m1]
  instanceTypes := #[]
  staticTypes := #[.double, .double, .double, .double, .double, .long, .long, .double, .double, .boolean]
  resolved := Array.replicate 460 none
  statics := none }

def pool3 : Array CpInfo := pool [(2, .class_ 4), (1, u "java/lang/Object"), (0, u "<init>"), (0, u "()V"), (0, .class_ 8), (0, u "java/lang/Record")] 13

def k3m0 : Method := { name := "<init>", desc := "()V", sig := { parameters := [], returnType := none }, accessFlags := 4, code := none }
/-- java/lang/Record -/
def k3 : Class := { plain "java/lang/Record" (some 0) with
  accessFlags := 1057
  interfaces := #[]
  cf := some (fileOf pool3 7 #[] #[{ accessFlags := 4, nameIndex := 5, descriptorIndex := 6, attributes := #[] }] 1057 2 #[] #[])
  fields := #[]
  methods := #[k3m0]
  instanceTypes := #[]
  staticTypes := #[]
  resolved := Array.replicate 22 none
  statics := none }

def pool4 : Array CpInfo := pool [(2, .class_ 4), (1, u "java/lang/Record"), (3, .class_ 10), (1, u "com/example/tenantry/tenantry/builtin/Size"), (0, u "bytes"), (0, u "J"), (2, u "complete"), (0, u "Z"), (3, .long 1048576), (15, u "NONE"), (0, u "Lcom/example/tenantry/tenantry/builtin/Size;"), (0, u "MIB"), (7, u "mebibytes"), (0, u "(J)J")] 27

def k4c0 : Code := { maxStack := 4, maxLocals := 2, code := prog_29_method_3_code, exceptionTable := #[], attributes := #[] }
def k4m0 : Method := { name := "mebibytes", desc := "(J)J", sig := { parameters := [.long], returnType := some .long }, accessFlags := 9, code := some k4c0 }
/-- com/example/tenantry/tenantry/builtin/Size -/
def k4 : Class := { plain "com/example/tenantry/tenantry/builtin/Size" (some 3) with
  accessFlags := 49
  interfaces := #[]
  cf := some (fileOf pool4 8 #[] #[{ accessFlags := 9, nameIndex := 46, descriptorIndex := 47, attributes := #[] }] 49 2 #[] #[{ accessFlags := 18, nameIndex := 11, descriptorIndex := 12, attributes := #[] }, { accessFlags := 18, nameIndex := 15, descriptorIndex := 16, attributes := #[] }, { accessFlags := 25, nameIndex := 36, descriptorIndex := 37, attributes := #[] }, { accessFlags := 26, nameIndex := 38, descriptorIndex := 12, attributes := #[] }])
  fields := #[{ name := "bytes", type := .long, accessFlags := 18, slot := 0, constantValue := 0 }, { name := "complete", type := .boolean, accessFlags := 18, slot := 1, constantValue := 0 }, { name := "NONE", type := (.object "com/example/tenantry/tenantry/builtin/Size"), accessFlags := 25, slot := 0, constantValue := 0 }, { name := "MIB", type := .long, accessFlags := 26, slot := 1, constantValue := 0 }]
  methods := #[k4m0]
  instanceTypes := #[.long, .boolean]
  staticTypes := #[(.object "com/example/tenantry/tenantry/builtin/Size"), .long]
  resolved := Array.replicate 75 none
  statics := none }

def pool5 : Array CpInfo := pool [(1, u "java/lang/Cloneable"), (0, .class_ 1), (0, u "java/lang/Object"), (0, .class_ 3)] 3

/-- java/lang/Cloneable -/
def k5 : Class := { plain "java/lang/Cloneable" (some 0) with
  accessFlags := 1537
  interfaces := #[]
  cf := some (fileOf pool5 2 #[] #[] 1537 4 #[] #[])
  fields := #[]
  methods := #[]
  instanceTypes := #[]
  staticTypes := #[]
  resolved := Array.replicate 8 none
  statics := none }

def pool6 : Array CpInfo := pool [(1, u "java/io/Serializable"), (0, .class_ 1), (0, u "java/lang/Object"), (0, .class_ 3)] 3

/-- java/io/Serializable -/
def k6 : Class := { plain "java/io/Serializable" (some 0) with
  accessFlags := 1537
  interfaces := #[]
  cf := some (fileOf pool6 2 #[] #[] 1537 4 #[] #[])
  fields := #[]
  methods := #[]
  instanceTypes := #[]
  staticTypes := #[]
  resolved := Array.replicate 8 none
  statics := none }

/-- the primitive byte -/
def k7 : Class := { plain "byte" none with kind := .primitive 'B', accessFlags := 0x411 }
/-- [B -/
def k8 : Class := { plain "[B" (some 0) with kind := .array 7 .byte, interfaces := #[5, 6], accessFlags := 1041 }

/-- the primitive int -/
def k9 : Class := { plain "int" none with kind := .primitive 'I', accessFlags := 0x411 }
/-- [I -/
def k10 : Class := { plain "[I" (some 0) with kind := .array 9 .int, interfaces := #[5, 6], accessFlags := 1041 }

def heap : Heap := #[]
def classes : Array Class := #[k0, k1, k2, k3, k4, k5, k6, k7, k8, k9, k10]
def interned : List (Array UInt16 × Addr) := []
def slotsUsed : Nat := 0
def theMethod : MethodId := ⟨1, 1⟩
def args0 : Array Value := #[.long 5, .int 3, .int 2, .int 1]
def aboutOver (below : List Frame) : State where
  vm := { classes := classes, interned := interned.toArray }
  heap := heap
  slotsUsed := slotsUsed
  threads := #[{ frames := .invoking theMethod args0 :: below }]
def below0 : List Frame := [.native { method := ⟨0, 0⟩, args := #[] }]
def about1 : State := aboutOver below0
def p0 : Program := .bare "" "" ""
def e0 : Env := launch0.env 0 0 0
theorem w_frames : about1.frames = Frame.invoking theMethod args0 :: below0 := rfl
set_option maxRecDepth 65536 in
theorem w_args : argsFit about1.vm theMethod args0 = true := by decide +kernel
set_option maxRecDepth 65536 in
theorem w_heap : heapFits about1 = true := by decide +kernel
set_option maxRecDepth 65536 in
theorem w_runnable : about1.curStatus? = some .runnable := by decide +kernel
set_option maxRecDepth 65536 in
theorem w_alone : about1.alone = true := by decide +kernel
set_option maxRecDepth 65536 in
theorem w_named : about1.methodNamed? x = some theMethod := by decide +kernel
set_option maxRecDepth 65536 in
theorem w_hears : about1.hears theMethod below0 = true := by decide +kernel
set_option maxRecDepth 65536 in
theorem w_ripe : about1.ripe theMethod args0 below0 = true := by decide +kernel
theorem w_running : about1.status = .running := rfl
set_option maxRecDepth 65536 in
theorem w_room : about1.hasRoom e0.platform room_1 = true :=
  launch0.hasRoom_least _ room_1 (by decide +kernel) (by decide +kernel) (by decide +kernel) (by decide +kernel) (by decide +kernel) (by decide +kernel)
theorem allAtoms_all (ts : List Jvm.Cond) (a : Array Jvm.Value) (st : Jvm.State) : (allAtoms ts).before a st = ts.all (fun c => c.before a st) := by
  induction ts with
  | nil => rfl
  | cons c t ih =>
    show (Jvm.Cond.and c (allAtoms t)).before a st = _
    rw [Jvm.Cond.before_and, ih, List.all_cons]
def words1 : List Jvm.Cond := Jvm.Cond.code x code maxLocals ret :: tables_1
/-- a 'code' word, met by the world's own term for the bytes: nothing is compared byte by byte -/
theorem code_word {y : MethodName} {bytes : ByteArray} {mx : Nat} {rt : Option FieldType} {a : Array Value} {s : State} {m : MethodId} {meth : Method} {c : Code} (h1 : s.methodNamed? y = some m) (h2 : s.vm.method? m = some meth) (h3 : meth.code = some c) (h4 : c.code = bytes)
    (h5 : (c.maxLocals == mx && c.exceptionTable.isEmpty && decide (c.maxStack ≤ mostOperands) && decide (meth.sig.returnType = rt) && !meth.locks && decide (parseMethodDescriptor y.desc = some meth.sig)) = true) : (Jvm.Cond.code y bytes mx rt).before a s = true := by
  simp only [Bool.and_eq_true, beq_iff_eq, Bool.not_eq_true', decide_eq_true_eq] at h5
  obtain ⟨⟨⟨⟨⟨g1, g2⟩, g3⟩, g4⟩, g5⟩, g6⟩ := h5
  simp [Cond.before, Cond.holds, Cond.value, h1, h2, h3, h4, g1, g2, g3, g4, g5, g6]
def isCode : Jvm.Cond → Bool
  | .code _ _ _ _ => true
  | _ => false
theorem all_split {L : List Jvm.Cond} {P : Jvm.Cond → Bool} (h1 : L.all (fun c => isCode c || P c) = true) (h2 : ∀ c ∈ L.filter isCode, P c = true) : L.all P = true := by
  refine List.all_eq_true.mpr fun c hc => ?_
  have h := List.all_eq_true.mp h1 c hc
  rcases Bool.eq_false_or_eq_true (isCode c) with hi | hi
  · exact h2 c (List.mem_filter.mpr ⟨hc, hi⟩)
  · simpa [hi] using h
set_option maxRecDepth 65536 in
theorem w_c0 : (Jvm.Cond.code x code maxLocals ret).before args0 about1 = true := code_word (m := ⟨1, 1⟩) (meth := k1m1) (c := k1c1) (by decide +kernel) rfl rfl rfl (by decide +kernel)
set_option maxRecDepth 65536 in
theorem w_c1 : (Jvm.Cond.code ({ cls := "java/lang/Math", name := "max", desc := "(JJ)J" } : Jvm.MethodName) jdk_29_method_66_code (4 : Nat) (Option.some Jvm.ClassFile.FieldType.long)).before args0 about1 = true := code_word (m := ⟨2, 1⟩) (meth := k2m1) (c := k2c1) (by decide +kernel) rfl rfl rfl (by decide +kernel)
set_option maxRecDepth 65536 in
theorem w_c2 : (Jvm.Cond.code ({ cls := "com/example/tenantry/tenantry/builtin/Size", name := "mebibytes", desc := "(J)J" } : Jvm.MethodName) prog_29_method_3_code (2 : Nat) (Option.some Jvm.ClassFile.FieldType.long)).before args0 about1 = true := code_word (m := ⟨4, 0⟩) (meth := k4m0) (c := k4c0) (by decide +kernel) rfl rfl rfl (by decide +kernel)
def codes1 : List Jvm.Cond := [Jvm.Cond.code x code maxLocals ret, Jvm.Cond.code ({ cls := "java/lang/Math", name := "max", desc := "(JJ)J" } : Jvm.MethodName) jdk_29_method_66_code (4 : Nat) (Option.some Jvm.ClassFile.FieldType.long), Jvm.Cond.code ({ cls := "com/example/tenantry/tenantry/builtin/Size", name := "mebibytes", desc := "(J)J" } : Jvm.MethodName) prog_29_method_3_code (2 : Nat) (Option.some Jvm.ClassFile.FieldType.long)]
set_option maxRecDepth 65536 in
theorem codes_eq : words1.filter isCode = codes1 := rfl
theorem w_codes : ∀ c ∈ words1.filter isCode, c.before args0 about1 = true := by
  rw [codes_eq]
  intro c hc
  simp only [codes1, List.mem_cons, List.not_mem_nil, or_false] at hc
  rcases hc with rfl | rfl | rfl
  · exact w_c0
  · exact w_c1
  · exact w_c2
set_option maxRecDepth 65536 in
theorem w_t1 : words1.all (fun c => isCode c || c.before args0 about1) = true := by decide +kernel
theorem w_tables : (allAtoms (Jvm.Cond.code x code maxLocals ret :: tables_1)).before args0 about1 = true := by
  rw [allAtoms_all]
  show words1.all (fun c => c.before args0 about1) = true
  refine all_split ?_ w_codes
  rw [w_t1]
set_option maxRecDepth 65536 in
theorem w_case : (Jvm.Cond.and given_1 narrow_1).before args0 about1 = true := by decide +kernel
theorem w_applies : (headSpec (Jvm.Cond.code x code maxLocals ret :: tables_1) room_1).applies x e0.platform about1 = true :=
  (Spec.applies_iff w_frames).mpr ⟨w_running, w_runnable, w_alone, w_named, w_hears, w_ripe, w_room, w_tables⟩
theorem atStart : AtStart classFile x code maxLocals ret World_1 tables_1 room_1 Calls_1 rest_1 Pre_1 launch0 p0 e0 about1 theMethod args0 below0 :=
  ⟨lists_1, trivial, launch0.admits_env _ _ _, launch0.least_env, fairChoices_fair.cas, fairChoices_fair.clock, w_frames, w_args, w_heap, w_applies, trivial, trivial, w_case⟩
end start1
theorem witness_1 : WitnessClaimed_1 := ⟨start1.p0, start1.e0, start1.about1, start1.theMethod, start1.args0, start1.below0, start1.atStart⟩
end Jvm.Pilot.@@N@@
