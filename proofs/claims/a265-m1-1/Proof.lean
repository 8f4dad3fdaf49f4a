import JvmDerived
import JvmDerived.Pilot.@@N@@Statement
import JvmDerived.Pilot.@@N@@Code
set_option linter.unusedVariables false
set_option linter.unusedSimpArgs false
@@BLOCK:NumsL.lean.txt@@
namespace Jvm.Pilot.@@N@@
open Jvm Jvm.ClassFile Sem Op Lib Jvm.Free Jvm.Stand Jvm.LawKit Jvm.RoadKit Bundle Jvm.Pilot.@@N@@.Jvm.D

section Own
variable {p : Program} {l : Launch} {e : Env} {R : Room} {s : State} {m : MethodId} {args : Array Value} {below : List Frame} {meth : Method} {c : Code} {T : State} {locs : List Loc} {cells slots : Nat} {Z : State} {a0 : Array Value} {h : Heap} {Q : Option Value → Heap → List Loc → Prop} {kc kn : Nat}
/-- from U the body comes to its end, with Q -/
def own_Fin (p : Program) (e : Env) (below : List Frame) (s : State) (Q : Option Value → Heap → List Loc → Prop) (kc kn : Nat) (U : State) : Prop :=
  ∃ t o, Steps p.tables e below U t ∧ t.status = .running ∧ Ended t below o ∧ ∃ v L, o = .returned v ∧ Q v t.heap L ∧ FrameEnd s o t L kc kn
theorem own_go {U U' : State} (g : ∀ t, Steps p.tables e below U' t → Steps p.tables e below U t) (H : own_Fin p e below s Q kc kn U') : own_Fin p e below s Q kc kn U := by
  obtain ⟨t, o, h1, h2⟩ := H
  exact ⟨t, o, g t h1, h2⟩
/-- what a body that writes nothing and returns w leaves -/
def own_P (w : Option Value) (h0 : Heap) (n0 : Nat) (v : Option Value) (h : Heap) (L : List Loc) : Prop := v = w ∧ Fr n0 L ∧ h = h0
/-- a body's contract: called with as' on the heap h, it ends with Q -/
def own_Met (l : Launch) (y : MethodName) (bytes : ByteArray) (maxL : Nat) (ret : Option FieldType) (rm : Room) (Z : State) (ws : List Jvm.Cond) (as' : Array Value) (h : Heap) (Q : Option Value → Heap → List Loc → Prop) : Prop :=
  MetFree l y (head1 (Jvm.Cond.code y bytes maxL ret :: ws) rm) (fun a U => a = as' ∧ Z.Warmed39 U.vm ∧ U.heap = h) (fun _ _ _ _ _ => True) (fun _ U o U' => ∃ v L, o = .returned v ∧ Q v U'.heap L ∧ FrameEnd U o U' L rm.cells rm.slots)
theorem own_enter {y : MethodName} {bytes : ByteArray} {maxL : Nat} {ret : Option FieldType} {rm : Room} {ws : List Jvm.Cond} {as' : Array Value} (hp : plainFor y = true)
    (H : ∀ (p : Program) (e : Env) (s : State) (m : MethodId) (below : List Frame) (meth : Method) (c : Code) (s₁ : State), p.tables.exec = Jvm.exec → c.code = bytes → c.maxLocals = maxL → s.vm.findClass y.cls = some m.cls → meth.name = y.name → meth.sig.returnType = ret → meth.locks = false → Z.Warmed39 s.vm → s₁.heap = h → Stand p l e rm s m as' below meth c s₁ [] 0 0 → own_Fin p e below s Q rm.cells rm.slots (s₁.setTop (entryFrame m as' maxL))) :
    own_Met l y bytes maxL ret rm Z ws as' h Q := by
  unfold own_Met
  refine MetFree.of_bodySF hp hisR ?_
  intro p e s m args below meth c s₁ Bd hml0 hP hK
  obtain ⟨rfl, hZ, hh⟩ := hP
  exact H p e s m below meth c s₁ Bd.exec Bd.bytes hml0 (findClass_of_methodNamed Bd.named) (name_of_methodNamed Bd.named Bd.method).1 Bd.returns (BodyLoose.notSynchronized Bd) hZ (by rw [← hh, Bd.state]; rfl) (Stand.of_body Bd)
theorem own_ret (X : Stand p l e R s m args below meth c T locs cells slots) (hx : p.tables.exec = Jvm.exec) (hlk : meth.locks = false) {pc : Nat} {Ls : Array Slot} {w : Value} {t : FieldType} {i : Instr} {rest : List Value} (hret : meth.sig.returnType = some t) (hn : narrow t w = w)
    (hi : (i = .ireturn ∧ (t = .int ∨ t = .boolean ∨ t = .byte ∨ t = .char ∨ t = .short) ∧ ∃ z, w = .int z) ∨ (i = .lreturn ∧ t = .long ∧ ∃ z, w = .long z) ∨ (i = .dreturn ∧ t = .double ∧ ∃ z, w = .double z) ∨ (i = .freturn ∧ t = .float ∧ ∃ z, w = .float z) ∨ (i = .areturn ∧ t.isReference = true ∧ w.isRef = true))
    (hd : decode c.code pc = .ok (i, 1)) (hk : cells ≤ kc) (hs : slots ≤ kn) (hq : Q (some w) T.heap locs) : own_Fin p e below s Q kc kn (T.setTop (mkF m pc Ls (w :: rest))) := by
  obtain ⟨fs, hr, hrun, hended, hW, hsame⟩ := X.leave (v := some w) (fun h => by rw [hret] at h; cases h) hlk
  exact ⟨_, _, retOut X hx hret hn hi hd hr, hrun, hended, _, _, rfl, hq, ⟨_, rfl⟩, hW, hsame.mono hk hs⟩
theorem own_retI (X : Stand p l e R s m args below meth c T locs cells slots) (hx : p.tables.exec = Jvm.exec) (hlk : meth.locks = false) {pc : Nat} {Ls : Array Slot} {z : Int32} {rest : List Value} (hret : meth.sig.returnType = some .int)
    (hd : decode c.code pc = .ok (.ireturn, 1)) (hk : cells ≤ kc) (hs : slots ≤ kn) (hq : Q (some (.int z)) T.heap locs) : own_Fin p e below s Q kc kn (T.setTop (mkF m pc Ls (.int z :: rest))) :=
  own_ret X hx hlk hret rfl (Or.inl ⟨rfl, Or.inl rfl, _, rfl⟩) hd hk hs hq
theorem own_retZ (X : Stand p l e R s m args below meth c T locs cells slots) (hx : p.tables.exec = Jvm.exec) (hlk : meth.locks = false) {pc : Nat} {Ls : Array Slot} {z : Int32} {rest : List Value} (hret : meth.sig.returnType = some .boolean) (hn : narrow .boolean (.int z) = .int z)
    (hd : decode c.code pc = .ok (.ireturn, 1)) (hk : cells ≤ kc) (hs : slots ≤ kn) (hq : Q (some (.int z)) T.heap locs) : own_Fin p e below s Q kc kn (T.setTop (mkF m pc Ls (.int z :: rest))) :=
  own_ret X hx hlk hret hn (Or.inl ⟨rfl, Or.inr (Or.inl rfl), _, rfl⟩) hd hk hs hq
theorem own_retJ (X : Stand p l e R s m args below meth c T locs cells slots) (hx : p.tables.exec = Jvm.exec) (hlk : meth.locks = false) {pc : Nat} {Ls : Array Slot} {z : Int64} {rest : List Value} (hret : meth.sig.returnType = some .long)
    (hd : decode c.code pc = .ok (.lreturn, 1)) (hk : cells ≤ kc) (hs : slots ≤ kn) (hq : Q (some (.long z)) T.heap locs) : own_Fin p e below s Q kc kn (T.setTop (mkF m pc Ls (.long z :: rest))) :=
  own_ret X hx hlk hret rfl (Or.inr (Or.inl ⟨rfl, rfl, _, rfl⟩)) hd hk hs hq
theorem own_retA (X : Stand p l e R s m args below meth c T locs cells slots) (hx : p.tables.exec = Jvm.exec) (hlk : meth.locks = false) {pc : Nat} {Ls : Array Slot} {z : Addr} {t : FieldType} {rest : List Value} (hret : meth.sig.returnType = some t) (ht : t.isReference = true) (hn : narrow t (.ref z) = .ref z)
    (hd : decode c.code pc = .ok (.areturn, 1)) (hk : cells ≤ kc) (hs : slots ≤ kn) (hq : Q (some (.ref z)) T.heap locs) : own_Fin p e below s Q kc kn (T.setTop (mkF m pc Ls (.ref z :: rest))) :=
  own_ret X hx hlk hret hn (Or.inr (Or.inr (Or.inr (Or.inr ⟨rfl, ht, rfl⟩)))) hd hk hs hq
theorem own_retV (X : Stand p l e R s m args below meth c T locs cells slots) (hx : p.tables.exec = Jvm.exec) (hlk : meth.locks = false) {pc : Nat} {Ls : Array Slot} (hret : meth.sig.returnType = none)
    (hd : decode c.code pc = .ok (.return_, 1)) (hk : cells ≤ kc) (hs : slots ≤ kn) (hq : Q none T.heap locs) : own_Fin p e below s Q kc kn (T.setTop (mkF m pc Ls [])) := by
  obtain ⟨fs, hr, hrun, hended, hW, hsame⟩ := X.leave (v := none) (fun _ => rfl) hlk
  exact ⟨_, _, X.returnOut hx hret hd hr, hrun, hended, _, _, rfl, hq, ⟨_, rfl⟩, hW, hsame.mono hk hs⟩
theorem own_callS (X : Stand p l e R s m args below meth c T locs cells slots) (hx : p.tables.exec = Jvm.exec) (hZ : Z.Warmed39 s.vm) {own : String} {index : Nat} {y : MethodName} {bytes : ByteArray} {maxL : Nat} {ret : Option FieldType} {rm : Room} {as' : Array Value} {Q' : Option Value → Heap → List Loc → Prop}
    (hown : s.vm.findClass own = some m.cls) (w1 : (Jvm.Cond.methodLink own index y).before a0 Z = true) (w2 : (Jvm.Cond.static y).before a0 Z = true) (w3 : (Jvm.Cond.initialized y.cls).before a0 Z = true) (w4 : (Jvm.Cond.code y bytes maxL ret).before a0 Z = true) (hy : y.cls ≠ "java/lang/invoke/MethodHandle" ∧ y.cls ≠ "java/lang/invoke/VarHandle")
    (hM : own_Met l y bytes maxL ret rm Z [] as' h Q') (eT : T.heap = h) {pc : Nat} {Ls : Array Slot} {st argsL rest : List Value} (hst : st = argsL.reverse ++ rest) (has : argsL.toArray = as') (hsize : Ls.size = c.maxLocals) (hlen : ∀ sig, parseMethodDescriptor y.desc = some sig → argsL.length = sig.parameters.length)
    (hd : decode c.code pc = .ok (.invokestatic index, 3)) {W : Nat} (hW : (rest.map fun v => v.category).sum ≤ W) (hf : rm.frames + 1 ≤ R.frames) (hl : W + (maxL + 11) + rm.locals ≤ R.locals) (hc : cells + rm.cells ≤ R.cells) (hs : slots + rm.slots ≤ R.slots)
    (H : ∀ (v : Option Value) (T' : State) (L : List Loc), Stand p l e R s m args below meth c T' (locs ++ L) (cells + rm.cells) (slots + rm.slots) → Q' v T'.heap L → own_Fin p e below s Q kc kn (T'.setTop (mkF m (pc + 3) Ls (v.toList ++ rest)))) :
    own_Fin p e below s Q kc kn (T.setTop (mkF m pc Ls st)) := by
  subst hst
  obtain ⟨v, _, ⟨T', L', k', n'⟩, -, X', ⟨Lc, hQ, l1, y1, z1⟩, st⟩ := Jvm.LawKit.callS X hx (y := y) hown (mvT hZ w1) (mvT hZ w2) (mvT hZ w3) (mvT hZ w4) hy (backOf (W := W) hM hZ w4 w3 hf hl) (g := mkF m pc Ls (argsL.reverse ++ rest)) rfl hsize hlen rfl (by show 2 * 0 + _ ≤ _; omega) hd (fun _ _ => ⟨has, eT, hc, hs⟩)
  dsimp only [Pt.U, Pt.locs, Pt.cells, Pt.slots] at X' l1 y1 z1 st hQ
  subst l1 y1 z1
  exact own_go st (H _ _ _ X' hQ)
theorem own_callV (X : Stand p l e R s m args below meth c T locs cells slots) (hx : p.tables.exec = Jvm.exec) (hZ : Z.Warmed39 s.vm) {own C : String} {index : Nat} {y z : MethodName} {bytes : ByteArray} {maxL : Nat} {ret : Option FieldType} {rm : Room} {as' : Array Value} {Q' : Option Value → Heap → List Loc → Prop}
    (hown : s.vm.findClass own = some m.cls) (w1 : (Jvm.Cond.methodLink own index y).before a0 Z = true) (w2 : (Jvm.Cond.declares y).before a0 Z = true) (nf : NotFace s y) (w3 : (Jvm.Cond.selects C y z).before a0 Z = true) (w4 : (Jvm.Cond.instanceMethod z).before a0 Z = true) (w5 : (Jvm.Cond.code z bytes maxL ret).before a0 Z = true) (w6 : (Jvm.Cond.initialized z.cls).before a0 Z = true) (hy : y.cls ≠ "java/lang/invoke/MethodHandle" ∧ y.cls ≠ "java/lang/invoke/VarHandle")
    (hM : own_Met l z bytes maxL ret rm Z [] as' h Q') (eT : T.heap = h) {a : Addr} (E : Exa Z h a C) {pc : Nat} {Ls : Array Slot} {st argsL rest : List Value} (hst : st = argsL.reverse ++ .ref a :: rest) (has : (.ref a :: argsL).toArray = as') (hsize : Ls.size = c.maxLocals) (hlen : ∀ sig, parseMethodDescriptor y.desc = some sig → argsL.length = sig.parameters.length)
    (hd : decode c.code pc = .ok (.invokevirtual index, 3)) {W : Nat} (hW : (rest.map fun v => v.category).sum ≤ W) (hf : rm.frames + 1 ≤ R.frames) (hl : W + (maxL + 11) + rm.locals ≤ R.locals) (hc : cells + rm.cells ≤ R.cells) (hs : slots + rm.slots ≤ R.slots)
    (H : ∀ (v : Option Value) (T' : State) (L : List Loc), Stand p l e R s m args below meth c T' (locs ++ L) (cells + rm.cells) (slots + rm.slots) → Q' v T'.heap L → own_Fin p e below s Q kc kn (T'.setTop (mkF m (pc + 3) Ls (v.toList ++ rest)))) :
    own_Fin p e below s Q kc kn (T.setTop (mkF m pc Ls st)) := by
  subst hst
  obtain ⟨cB, kB, q1, q2, q3⟩ := isOf (T := T) hZ eT E
  obtain ⟨v, _, ⟨T', L', k', n'⟩, -, X', ⟨Lc, hQ, l1, y1, z1⟩, st⟩ := X.virtualBack hx (y := y) (z := z) hown (mvT hZ w1) (mvT hZ w2) nf (mvT hZ w3) (mvT hZ w4) hy (backOf (W := W) hM hZ w5 w6 hf hl) q1 q3 (g := mkF m pc Ls (argsL.reverse ++ .ref a :: rest)) rfl hsize (Steps.refl _) hlen rfl (by show 2 * 0 + _ ≤ _; omega) hd (fun _ _ => ⟨has, eT, hc, hs⟩)
  dsimp only [Pt.U, Pt.locs, Pt.cells, Pt.slots] at X' l1 y1 z1 st hQ
  subst l1 y1 z1
  exact own_go (fun _ k => st.trans k) (H _ _ _ X' hQ)
theorem own_callN (X : Stand p l e R s m args below meth c T locs cells slots) (hx : p.tables.exec = Jvm.exec) (hZ : Z.Warmed39 s.vm) {own : String} {index : Nat} {y : MethodName} {bytes : ByteArray} {maxL : Nat} {rm : Room} {as' : Array Value} {Q' : Option Value → Heap → List Loc → Prop} (hy1 : y.name = "<init>")
    (hown : s.vm.findClass own = some m.cls) (w1 : (Jvm.Cond.methodLink own index y).before a0 Z = true) (w2 : (Jvm.Cond.instanceMethod y).before a0 Z = true) (w3 : (Jvm.Cond.initialized y.cls).before a0 Z = true) (w4 : (Jvm.Cond.code y bytes maxL none).before a0 Z = true) (hy : y.cls ≠ "java/lang/invoke/MethodHandle" ∧ y.cls ≠ "java/lang/invoke/VarHandle")
    (hM : own_Met l y bytes maxL none rm Z [] as' h Q') (eT : T.heap = h) {a : Addr} {pc : Nat} {Ls : Array Slot} {st argsL rest : List Value} (hst : st = argsL.reverse ++ .ref a :: rest) (has : (.ref a :: argsL).toArray = as') (hsize : Ls.size = c.maxLocals) (hlen : ∀ sig, parseMethodDescriptor y.desc = some sig → argsL.length = sig.parameters.length)
    (hd : decode c.code pc = .ok (.invokespecial index, 3)) {W : Nat} (hW : (rest.map fun v => v.category).sum ≤ W) (hf : rm.frames + 1 ≤ R.frames) (hl : W + (maxL + 11) + rm.locals ≤ R.locals) (hc : cells + rm.cells ≤ R.cells) (hs : slots + rm.slots ≤ R.slots)
    (H : ∀ (v : Option Value) (T' : State) (L : List Loc), Stand p l e R s m args below meth c T' (locs ++ L) (cells + rm.cells) (slots + rm.slots) → Q' v T'.heap L → own_Fin p e below s Q kc kn (T'.setTop (mkF m (pc + 3) Ls (v.toList ++ rest)))) :
    own_Fin p e below s Q kc kn (T.setTop (mkF m pc Ls st)) := by
  subst hst
  obtain ⟨v, _, ⟨T', L', k', n'⟩, -, X', ⟨Lc, hQ, l1, y1, z1⟩, st⟩ := X.specialBack hx (y := y) hy1 hown (mvT hZ w1) (mvT hZ w2) (mvT hZ w4) hy (backOf (W := W) hM hZ w4 w3 hf hl) (g := mkF m pc Ls (argsL.reverse ++ .ref a :: rest)) rfl hsize (Steps.refl _) (a := a) hlen rfl (by show 2 * 0 + _ ≤ _; omega) hd (fun _ _ => ⟨has, eT, hc, hs⟩)
  dsimp only [Pt.U, Pt.locs, Pt.cells, Pt.slots] at X' l1 y1 z1 st hQ
  subst l1 y1 z1
  exact own_go (fun _ k => st.trans k) (H _ _ _ X' hQ)
theorem own_initO (X : Stand p l e R s m args below meth c T locs cells slots) (hx : p.tables.exec = Jvm.exec) (hZ : Z.Warmed39 s.vm) {own : String} {idx : Nat} (hown : s.vm.findClass own = some m.cls) (w1 : (Jvm.Cond.methodLink own idx Lib.objectInit).before a0 Z = true) (w2 : (Jvm.Cond.instanceMethod Lib.objectInit).before a0 Z = true)
    (w3 : (Jvm.Cond.code Lib.objectInit ⟨#[0xb1]⟩ 1 none).before a0 Z = true) (eT : T.heap = h) {pc : Nat} {Ls : Array Slot} (hsize : Ls.size = c.maxLocals) {a : Addr} {rest : List Value} (hd : decode c.code pc = .ok (.invokespecial idx, 3))
    (hf : 1 ≤ R.frames) {W : Nat} (hW : (rest.map fun v => v.category).sum ≤ W) (hl : W + 12 ≤ R.locals)
    (H : ∀ (T' : State), Stand p l e R s m args below meth c T' locs cells slots → T'.heap = h → own_Fin p e below s Q kc kn (T'.setTop (mkF m (pc + 3) Ls rest))) :
    own_Fin p e below s Q kc kn (T.setTop (mkF m pc Ls (.ref a :: rest))) := by
  obtain ⟨T', X', e', st⟩ := initO X hx hZ hown w1 w2 w3 eT (g := mkF m pc Ls (.ref a :: rest)) rfl hsize rfl hd hf (W := W) (by show 2 * 0 + _ ≤ _; omega) hl
  exact own_go st (H _ X' e')
theorem own_getF (X : Stand p l e R s m args below meth c T locs cells slots) (hx : p.tables.exec = Jvm.exec) (hZ : Z.Warmed39 s.vm) {own R0 O n d host : String} {index : Nat} (hown : s.vm.findClass own = some m.cls) (w : (Jvm.Cond.fieldLink own index R0 n d).before a0 Z = true ∨ (Jvm.Cond.fieldLinkNest own index R0 n d host).before a0 Z = true) (via : Via Z R0 O n d)
    (eT : T.heap = h) {a : Addr} {v : Value} (F : Fld Z h a O n d v) {pc : Nat} {Ls : Array Slot} {rest : List Value} (hd : decode c.code pc = .ok (.getfield index, 3))
    (H : ∀ (T' : State), Stand p l e R s m args below meth c T' locs cells slots → T'.heap = h → own_Fin p e below s Q kc kn (T'.setTop (mkF m (pc + 3) Ls (v :: rest)))) :
    own_Fin p e below s Q kc kn (T.setTop (mkF m pc Ls (.ref a :: rest))) := by
  obtain ⟨T', X', e', st⟩ := getF X hx hZ hown w via eT F (g := mkF m pc Ls (.ref a :: rest)) rfl rfl hd
  exact own_go st (H _ X' e')
theorem own_getS (X : Stand p l e R s m args below meth c T locs cells slots) (hx : p.tables.exec = Jvm.exec) (hZ : Z.Warmed39 s.vm) {own R0 O n d host : String} {index : Nat} (hown : s.vm.findClass own = some m.cls) (w : (Jvm.Cond.fieldLink own index R0 n d).before a0 Z = true ∨ (Jvm.Cond.fieldLinkNest own index R0 n d host).before a0 Z = true) (via : Via Z R0 O n d)
    (eT : T.heap = h) {v : Value} (F : Sta Z h O n d v) {pc : Nat} {Ls : Array Slot} {rest : List Value} (hd : decode c.code pc = .ok (.getstatic index, 3))
    (H : ∀ (T' : State), Stand p l e R s m args below meth c T' locs cells slots → T'.heap = h → own_Fin p e below s Q kc kn (T'.setTop (mkF m (pc + 3) Ls (v :: rest)))) :
    own_Fin p e below s Q kc kn (T.setTop (mkF m pc Ls rest)) := by
  obtain ⟨T', X', e', st⟩ := getS2 X hx hZ hown w via eT F (g := mkF m pc Ls rest) rfl hd
  exact own_go st (H _ X' e')
theorem own_putF (X : Stand p l e R s m args below meth c T locs cells slots) (hx : p.tables.exec = Jvm.exec) (hZ : Z.Warmed39 s.vm) {own R0 O n d host C : String} {index kk : Nat} {ty : FieldType} (hown : s.vm.findClass own = some m.cls) (w : (Jvm.Cond.fieldLink own index R0 n d).before a0 Z = true ∨ (Jvm.Cond.fieldLinkNest own index R0 n d host).before a0 Z = true) (via : Via Z R0 O n d)
    (eT : T.heap = h) {a : Addr} {v old : Value} (F : Fld Z h a O n d old) (E : Exa Z h a C) (L : (Jvm.Cond.lays C O n d).before a0 Z = true ∨ ((Jvm.Cond.laysFinal C O n d).before a0 Z = true ∧ own = O ∧ meth.name = "<init>")) (wi : (Jvm.Cond.instantiable C kk).before a0 Z = true)
    (hty : parseFieldDescriptor d = some ty) (hn : narrow ty v = v) (hf : fits ty v = true) {pc : Nat} {Ls : Array Slot} {rest : List Value} (hd : decode c.code pc = .ok (.putfield index, 3))
    (H : ∀ (T' : State) (h' : Heap), Stand p l e R s m args below meth c T' (locs ++ [⟨a, Jvm.RoadKit.slotOf Z O n d⟩]) cells slots → T'.heap = h' → Wr h h' a (Jvm.RoadKit.slotOf Z O n d) v → own_Fin p e below s Q kc kn (T'.setTop (mkF m (pc + 3) Ls rest))) :
    own_Fin p e below s Q kc kn (T.setTop (mkF m pc Ls (v :: .ref a :: rest))) := by
  obtain ⟨T', h', X', e', W', st⟩ := putF X hx hZ hown w via eT F E L wi hty hn hf (g := mkF m pc Ls (v :: .ref a :: rest)) rfl rfl hd
  exact own_go st (H _ _ X' e' W')
theorem own_new (X : Stand p l e R s m args below meth c T locs cells slots) (hx : p.tables.exec = Jvm.exec) (hZ : Z.Warmed39 s.vm) {own C : String} {index n : Nat} (hown : s.vm.findClass own = some m.cls) (w : (Jvm.Cond.classLink own index C).before a0 Z = true) (wi : (Jvm.Cond.instantiable C n).before a0 Z = true) (wz : (Jvm.Cond.initialized C).before a0 Z = true) (eT : T.heap = h)
    {pc : Nat} {Ls : Array Slot} {rest : List Value} (hd : decode c.code pc = .ok (.new index, 3)) (hc : cells + 1 ≤ R.cells) (hl : slots + n ≤ R.slots)
    (H : ∀ (T' : State) (h' : Heap) (a : Addr), a = h.size → Stand p l e R s m args below meth c T' locs (cells + 1) (slots + n) → T'.heap = h' → Ext h h' → Exa Z h' a C → (∀ {O nm d : String} {ty : FieldType}, Laid Z a0 C O nm d → parseFieldDescriptor d = some ty → Fld Z h' a O nm d (defaultValue ty)) → own_Fin p e below s Q kc kn (T'.setTop (mkF m (pc + 3) Ls (.ref a :: rest)))) :
    own_Fin p e below s Q kc kn (T.setTop (mkF m pc Ls rest)) := by
  obtain ⟨T', h', X', e', E', A', D', -, st⟩ := newO X hx hZ hown w wi wz eT (g := mkF m pc Ls rest) rfl hd hc hl
  exact own_go st (H _ _ _ rfl X' e' E' A' D')
theorem own_callU (X : Stand p l e R s m args below meth c T locs cells slots) (hx : p.tables.exec = Jvm.exec) (hZ : Z.Warmed39 s.vm) {own C owner : String} {index : Nat} {y z : MethodName} {bytes : ByteArray} {maxL : Nat} {ret : Option FieldType} {rm : Room} {as' : Array Value} {Q' : Option Value → Heap → List Loc → Prop}
    (hown : s.vm.findClass own = some m.cls) (w1 : (Jvm.Cond.methodLink own index y).before a0 Z = true) (w2 : (Jvm.Cond.sameMethod y.cls owner y.name y.desc).before a0 Z = true) (w2' : (Jvm.Cond.declares ⟨owner, y.name, y.desc⟩).before a0 Z = true) (hy : owner ≠ "java/lang/invoke/MethodHandle" ∧ owner ≠ "java/lang/invoke/VarHandle") (w3 : (Jvm.Cond.selects C y z).before a0 Z = true) (w4 : (Jvm.Cond.instanceMethod z).before a0 Z = true) (w5 : (Jvm.Cond.code z bytes maxL ret).before a0 Z = true) (w6 : (Jvm.Cond.initialized z.cls).before a0 Z = true)
    (hM : own_Met l z bytes maxL ret rm Z [] as' h Q') (eT : T.heap = h) {a : Addr} (E : Exa Z h a C) {pc : Nat} {Ls : Array Slot} {st argsL rest : List Value} (hst : st = argsL.reverse ++ .ref a :: rest) (has : (.ref a :: argsL).toArray = as') (hsize : Ls.size = c.maxLocals) (hlen : ∀ sig, parseMethodDescriptor y.desc = some sig → argsL.length = sig.parameters.length)
    (hd : decode c.code pc = .ok (.invokevirtual index, 3)) {W : Nat} (hW : (rest.map fun v => v.category).sum ≤ W) (hf : rm.frames + 1 ≤ R.frames) (hl : W + (maxL + 11) + rm.locals ≤ R.locals) (hc : cells + rm.cells ≤ R.cells) (hs : slots + rm.slots ≤ R.slots)
    (H : ∀ (v : Option Value) (T' : State) (L : List Loc), Stand p l e R s m args below meth c T' (locs ++ L) (cells + rm.cells) (slots + rm.slots) → Q' v T'.heap L → own_Fin p e below s Q kc kn (T'.setTop (mkF m (pc + 3) Ls (v.toList ++ rest)))) :
    own_Fin p e below s Q kc kn (T.setTop (mkF m pc Ls st)) := by
  subst hst
  obtain ⟨cB, kB, q1, q2, q3⟩ := isOf (T := T) hZ eT E
  obtain ⟨v, _, ⟨T', L', k', n'⟩, -, X', ⟨Lc, hQ, l1, y1, z1⟩, st⟩ := X.virtualBackUp hx (x := y) (y := z) hown (mvT hZ w1) (mvT hZ w2) (mvT hZ w2') hy (mvT hZ w3) (mvT hZ w4) (backOf (W := W) hM hZ w5 w6 hf hl) q1 q3 (g := mkF m pc Ls (argsL.reverse ++ .ref a :: rest)) rfl hsize (Steps.refl _) hlen rfl (by show 2 * 0 + _ ≤ _; omega) hd (fun _ _ => ⟨has, eT, hc, hs⟩)
  dsimp only [Pt.U, Pt.locs, Pt.cells, Pt.slots] at X' l1 y1 z1 st hQ
  subst l1 y1 z1
  exact own_go (fun _ k => st.trans k) (H _ _ _ X' hQ)
theorem own_lswHit (X : Stand p l e R s m args below meth c T locs cells slots) (hx : p.tables.exec = Jvm.exec) {pc pc' : Nat} {Ls : Array Slot} {k : Int32} {rest : List Value} {default : Int} {pairs : Array (Int × Int)} {len : Nat} (hd : decode c.code pc = .ok (.lookupswitch default pairs, len))
    (hsorted : (pairs.toList.zip (pairs.toList.drop 1)).all (fun (a, next) => a.1 < next.1) = true) {a off : Int} (hfind : pairs.find? (·.1 == k.toInt) = some (a, off)) (hoff : 0 ≤ (pc : Int) + off) (hp : ((pc : Int) + off).toNat = pc')
    (H : own_Fin p e below s Q kc kn (T.setTop (mkF m pc' Ls rest))) : own_Fin p e below s Q kc kn (T.setTop (mkF m pc Ls (.int k :: rest))) := by
  subst hp
  exact own_go (fun t q => X.lookupswitchHit hx (g := mkF m pc Ls (.int k :: rest)) rfl rfl hd hsorted hfind hoff t q) H
theorem own_lswMiss (X : Stand p l e R s m args below meth c T locs cells slots) (hx : p.tables.exec = Jvm.exec) {pc pc' : Nat} {Ls : Array Slot} {k : Int32} {rest : List Value} {default : Int} {pairs : Array (Int × Int)} {len : Nat} (hd : decode c.code pc = .ok (.lookupswitch default pairs, len))
    (hsorted : (pairs.toList.zip (pairs.toList.drop 1)).all (fun (a, next) => a.1 < next.1) = true) (hfind : ∀ q ∈ pairs.toList, q.1 ≠ k.toInt) (hoff : 0 ≤ (pc : Int) + default) (hp : ((pc : Int) + default).toNat = pc')
    (H : own_Fin p e below s Q kc kn (T.setTop (mkF m pc' Ls rest))) : own_Fin p e below s Q kc kn (T.setTop (mkF m pc Ls (.int k :: rest))) := by
  subst hp
  exact own_go (fun t q => X.lookupswitchMiss hx (g := mkF m pc Ls (.int k :: rest)) rfl rfl hd hsorted (find_miss hfind) hoff t q) H
theorem own_castY (X : Stand p l e R s m args below meth c T locs cells slots) (hx : p.tables.exec = Jvm.exec) (hZ : Z.Warmed39 s.vm) {own K : String} {index : Nat} (hown : s.vm.findClass own = some m.cls) (w : (Jvm.Cond.classLink own index K).before a0 Z = true) (eT : T.heap = h) {a : Addr} (F : Ins Z h a K true)
    {pc : Nat} {Ls : Array Slot} {rest : List Value} (hd : decode c.code pc = .ok (.checkcast index, 3))
    (H : ∀ (T' : State), Stand p l e R s m args below meth c T' locs cells slots → T'.heap = h → own_Fin p e below s Q kc kn (T'.setTop (mkF m (pc + 3) Ls (.ref a :: rest)))) :
    own_Fin p e below s Q kc kn (T.setTop (mkF m pc Ls (.ref a :: rest))) := by
  obtain ⟨T', X', e', st⟩ := castY X hx hZ hown w eT F (g := mkF m pc Ls (.ref a :: rest)) rfl rfl hd
  exact own_go st (H _ X' e')
theorem own_Sta_keep0 {C n d : String} {v : Value} {h h' : Heap} (F : Sta Z h C n d v) (K : Keep h h' []) : Sta Z h' C n d v := by
  obtain ⟨cf, i, k, f, st, cell, h1, h2, h3, h4, h5, r⟩ := F
  exact ⟨cf, i, k, f, st, cell, h1, h2, h3, h4, K.2.1 _ _ h5 nin0, r⟩
theorem own_Arr_keep0 {a : Addr} {cl : Cell} {ty : FieldType} {h h' : Heap} (F : Arr Z h a cl ty) (K : Keep h h' []) : Arr Z h' a cl ty := ⟨K.2.1 _ _ F.1 nin0, F.2⟩
theorem own_neI {k z : Int32} {n : Int} (hz : z.toInt = n) (q : ¬ k = z) : n ≠ k.toInt := fun e => q (Int32.toInt_inj.mp (by rw [hz]; exact e.symm))
theorem own_fldI {args : Array Value} {t : Term} {O nm dd : String} {v : Int32} {a : Addr} (q : (Jvm.Cond.eq (.field t O nm dd) (.int v)).value args Z none Z [] = some true) (ev : t.eval args Z none [] Z = some (.ref a)) : Fld Z Z.heap a O nm dd (.int v) := by
  refine Fld.start ?_
  have e1 := fld_at (C := O) (n := nm) (dd := dd) ev
  simp only [Cond.value, e1] at q
  cases hf : Z.fieldOf? a O nm dd with
  | none => simp [hf] at q
  | some x => cases x <;> simp [hf, Term.eval] at q ⊢; exact q
theorem own_fldR {args : Array Value} {t u : Term} {O nm dd : String} {a b : Addr} (q : (Jvm.Cond.eq (.field t O nm dd) u).value args Z none Z [] = some true) (ev : t.eval args Z none [] Z = some (.ref a)) (eu : u.eval args Z none [] Z = some (.ref b)) : Fld Z Z.heap a O nm dd (.ref b) := by
  refine Fld.start ?_
  have e1 := fld_at (C := O) (n := nm) (dd := dd) ev
  simp only [Cond.value, e1, eu] at q
  cases hf : Z.fieldOf? a O nm dd with
  | none => simp [hf] at q
  | some x => cases x <;> simp [hf] at q ⊢; exact q
end Own

section OwnArr
variable {p : Program} {l : Launch} {e : Env} {R : Room} {s : State} {m : MethodId} {args : Array Value} {below : List Frame} {meth : Method} {c : Code} {T : State} {locs : List Loc} {cells slots : Nat} {Z : State} {a0 : Array Value} {h h' : Heap} {Q : Option Value → Heap → List Loc → Prop} {kc kn : Nat} {a b : Addr} {ty : FieldType} {vs : List Value} {v w : Value} {ws : List Addr} {sl : Nat}
/-- the array at a holds just vs -/
def own_Ar (Z : State) (h : Heap) (a : Addr) (ty : FieldType) (vs : List Value) : Prop := ∃ c : Cell, Arr Z h a c ty ∧ c.slots = vs.toArray ∧ vs.length < 2 ^ 31
theorem own_Ar.lt (F : own_Ar Z h a ty vs) : a < h.size := by obtain ⟨c, A, -⟩ := F; exact A.lt
theorem own_Ar.ext (F : own_Ar Z h a ty vs) (E : Ext h h') : own_Ar Z h' a ty vs := by obtain ⟨c, A, r⟩ := F; exact ⟨c, A.ext E, r⟩
theorem own_Ar.other (F : own_Ar Z h b ty vs) (W : Wr h h' a sl v) (q : b ≠ a) : own_Ar Z h' b ty vs := by obtain ⟨c, A, r⟩ := F; exact ⟨c, A.other W q, r⟩
theorem own_Ar.keep (F : own_Ar Z h a ty vs) (K : Keep h h' ws) (q : a ∉ ws) : own_Ar Z h' a ty vs := by obtain ⟨c, A, r⟩ := F; exact ⟨c, ⟨K.2.1 a c A.1 q, A.2⟩, r⟩
theorem own_Ar.set (F : own_Ar Z h a ty vs) (W : Wr h h' a sl v) : own_Ar Z h' a ty (vs.set sl v) := by
  obtain ⟨c, A, q1, q2⟩ := F
  refine ⟨_, A.same W, ?_, by rw [List.length_set]; exact q2⟩
  show c.slots.setIfInBounds sl v = _
  rw [q1]; simp
theorem own_Ar.len (F : own_Ar Z h a ty vs) : vs.length < 2 ^ 31 := by obtain ⟨_, _, _, q⟩ := F; exact q
theorem own_in {c : Cell} (q : c.slots = vs.toArray) {j : Int32} (hj : ¬ j < 0) (hi : j.toNatClampNeg < vs.length) : ¬ (j < 0 ∨ c.slots.size ≤ j.toNatClampNeg) := by
  rw [q]; simp only [List.size_toArray]; exact fun w => w.elim hj fun w => absurd hi (Nat.not_lt.mpr w)
theorem own_lt {vs : List Value} {i : Nat} (hv : vs[i]? = some v) : i < vs.length := (List.getElem?_eq_some_iff.mp hv).1
theorem own_iaload (X : Stand p l e R s m args below meth c T locs cells slots) (hx : p.tables.exec = Jvm.exec) (hZ : Z.Warmed39 s.vm) (eT : T.heap = h) (F : own_Ar Z h a .int vs) {j : Int32} (hj : ¬ j < 0) (hv : vs[j.toNatClampNeg]? = some v) {pc : Nat} {Ls : Array Slot} {rest : List Value} (hd : decode c.code pc = .ok (.iaload, 1))
    (H : own_Fin p e below s Q kc kn (T.setTop (mkF m (pc + 1) Ls (v :: rest)))) : own_Fin p e below s Q kc kn (T.setTop (mkF m pc Ls (.int j :: .ref a :: rest))) := by
  obtain ⟨c', A, q1, q2⟩ := F
  exact own_go (fun t k => X.iaload hx (j := j) (v := v) (by rw [eT]; exact A.1) (State.isArrayOf_alike hZ.alike A.2.1) A.2.2 (own_in q1 hj (own_lt hv)) (by rw [q1]; simpa using hv) (g := mkF m pc Ls (.int j :: .ref a :: rest)) rfl rfl hd t k) H
theorem own_laload (X : Stand p l e R s m args below meth c T locs cells slots) (hx : p.tables.exec = Jvm.exec) (hZ : Z.Warmed39 s.vm) (eT : T.heap = h) (F : own_Ar Z h a .long vs) {j : Int32} (hj : ¬ j < 0) (hv : vs[j.toNatClampNeg]? = some v) {pc : Nat} {Ls : Array Slot} {rest : List Value} (hd : decode c.code pc = .ok (.laload, 1))
    (H : own_Fin p e below s Q kc kn (T.setTop (mkF m (pc + 1) Ls (v :: rest)))) : own_Fin p e below s Q kc kn (T.setTop (mkF m pc Ls (.int j :: .ref a :: rest))) := by
  obtain ⟨c', A, q1, q2⟩ := F
  exact own_go (fun t k => X.laload hx (j := j) (v := v) (by rw [eT]; exact A.1) (State.isArrayOf_alike hZ.alike A.2.1) A.2.2 (own_in q1 hj (own_lt hv)) (by rw [q1]; simpa using hv) (g := mkF m pc Ls (.int j :: .ref a :: rest)) rfl rfl hd t k) H
theorem own_zaload (X : Stand p l e R s m args below meth c T locs cells slots) (hx : p.tables.exec = Jvm.exec) (hZ : Z.Warmed39 s.vm) (eT : T.heap = h) (F : own_Ar Z h a .boolean vs) {j : Int32} (hj : ¬ j < 0) (hv : vs[j.toNatClampNeg]? = some v) {pc : Nat} {Ls : Array Slot} {rest : List Value} (hd : decode c.code pc = .ok (.baload, 1))
    (H : own_Fin p e below s Q kc kn (T.setTop (mkF m (pc + 1) Ls (v :: rest)))) : own_Fin p e below s Q kc kn (T.setTop (mkF m pc Ls (.int j :: .ref a :: rest))) := by
  obtain ⟨c', A, q1, q2⟩ := F
  exact own_go (fun t k => X.baloadBooleans hx (j := j) (v := v) (by rw [eT]; exact A.1) (State.isArrayOf_alike hZ.alike A.2.1) A.2.2 (own_in q1 hj (own_lt hv)) (by rw [q1]; simpa using hv) (g := mkF m pc Ls (.int j :: .ref a :: rest)) rfl rfl hd t k) H
theorem own_aaload (X : Stand p l e R s m args below meth c T locs cells slots) (hx : p.tables.exec = Jvm.exec) (hZ : Z.Warmed39 s.vm) (eT : T.heap = h) (F : own_Ar Z h a ty vs) (hty : ty.isReference = true) {j : Int32} (hj : ¬ j < 0) (hv : vs[j.toNatClampNeg]? = some v) {pc : Nat} {Ls : Array Slot} {rest : List Value} (hd : decode c.code pc = .ok (.aaload, 1))
    (H : own_Fin p e below s Q kc kn (T.setTop (mkF m (pc + 1) Ls (v :: rest)))) : own_Fin p e below s Q kc kn (T.setTop (mkF m pc Ls (.int j :: .ref a :: rest))) := by
  obtain ⟨c', A, q1, q2⟩ := F
  exact own_go (fun t k => X.aaload hx (j := j) (v := v) (by rw [eT]; exact A.1) (State.isArrayOf_alike hZ.alike A.2.1) hty A.2.2 (own_in q1 hj (own_lt hv)) (by rw [q1]; simpa using hv) (g := mkF m pc Ls (.int j :: .ref a :: rest)) rfl rfl hd t k) H
theorem own_alen (X : Stand p l e R s m args below meth c T locs cells slots) (hx : p.tables.exec = Jvm.exec) (hZ : Z.Warmed39 s.vm) (eT : T.heap = h) (F : own_Ar Z h a ty vs) {pc : Nat} {Ls : Array Slot} {rest : List Value} (hd : decode c.code pc = .ok (.arraylength, 1))
    (H : own_Fin p e below s Q kc kn (T.setTop (mkF m (pc + 1) Ls (.int (Int32.ofNat vs.length) :: rest)))) : own_Fin p e below s Q kc kn (T.setTop (mkF m pc Ls (.ref a :: rest))) := by
  obtain ⟨c', A, q1, q2⟩ := F
  refine own_go (fun t k => X.arraylength hx (by rw [eT]; exact A.1) (State.isArrayOf_alike hZ.alike A.2.1) (g := mkF m pc Ls (.ref a :: rest)) rfl rfl hd t k) ?_
  rw [q1]; simp only [List.size_toArray]; exact H
theorem own_iastore (X : Stand p l e R s m args below meth c T locs cells slots) (hx : p.tables.exec = Jvm.exec) (hZ : Z.Warmed39 s.vm) (eT : T.heap = h) (F : own_Ar Z h a .int vs) {j x : Int32} (hj : ¬ j < 0) (hi : j.toNatClampNeg < vs.length) {pc : Nat} {Ls : Array Slot} {rest : List Value} (hd : decode c.code pc = .ok (.iastore, 1))
    (H : ∀ (T' : State) (h' : Heap), Stand p l e R s m args below meth c T' (locs ++ [⟨a, j.toNatClampNeg⟩]) cells slots → T'.heap = h' → Wr h h' a j.toNatClampNeg (.int x) → own_Ar Z h' a .int (vs.set j.toNatClampNeg (.int x)) → own_Fin p e below s Q kc kn (T'.setTop (mkF m (pc + 1) Ls rest))) :
    own_Fin p e below s Q kc kn (T.setTop (mkF m pc Ls (.int x :: .int j :: .ref a :: rest))) := by
  have F' := F
  obtain ⟨c', A, q1, q2⟩ := F
  obtain ⟨T', h', X', e', W', st⟩ := stI X hx hZ eT A (j := j) (x := x) (own_in q1 hj hi) (g := mkF m pc Ls (.int x :: .int j :: .ref a :: rest)) rfl rfl hd
  exact own_go st (H _ _ X' e' W' (F'.set W'))
theorem own_lastore (X : Stand p l e R s m args below meth c T locs cells slots) (hx : p.tables.exec = Jvm.exec) (hZ : Z.Warmed39 s.vm) (eT : T.heap = h) (F : own_Ar Z h a .long vs) {j : Int32} {x : Int64} (hj : ¬ j < 0) (hi : j.toNatClampNeg < vs.length) {pc : Nat} {Ls : Array Slot} {rest : List Value} (hd : decode c.code pc = .ok (.lastore, 1))
    (H : ∀ (T' : State) (h' : Heap), Stand p l e R s m args below meth c T' (locs ++ [⟨a, j.toNatClampNeg⟩]) cells slots → T'.heap = h' → Wr h h' a j.toNatClampNeg (.long x) → own_Ar Z h' a .long (vs.set j.toNatClampNeg (.long x)) → own_Fin p e below s Q kc kn (T'.setTop (mkF m (pc + 1) Ls rest))) :
    own_Fin p e below s Q kc kn (T.setTop (mkF m pc Ls (.long x :: .int j :: .ref a :: rest))) := by
  have F' := F
  obtain ⟨c', A, q1, q2⟩ := F
  obtain ⟨T', h', X', e', W', st⟩ := stJ X hx hZ eT A (j := j) (x := x) (own_in q1 hj hi) (g := mkF m pc Ls (.long x :: .int j :: .ref a :: rest)) rfl rfl hd
  exact own_go st (H _ _ X' e' W' (F'.set W'))
theorem own_zastore (X : Stand p l e R s m args below meth c T locs cells slots) (hx : p.tables.exec = Jvm.exec) (hZ : Z.Warmed39 s.vm) (eT : T.heap = h) (F : own_Ar Z h a .boolean vs) {j x : Int32} (hj : ¬ j < 0) (hi : j.toNatClampNeg < vs.length) {pc : Nat} {Ls : Array Slot} {rest : List Value} (hd : decode c.code pc = .ok (.bastore, 1)) (hn : nar .boolean x = x)
    (H : ∀ (T' : State) (h' : Heap), Stand p l e R s m args below meth c T' (locs ++ [⟨a, j.toNatClampNeg⟩]) cells slots → T'.heap = h' → Wr h h' a j.toNatClampNeg (.int x) → own_Ar Z h' a .boolean (vs.set j.toNatClampNeg (.int x)) → own_Fin p e below s Q kc kn (T'.setTop (mkF m (pc + 1) Ls rest))) :
    own_Fin p e below s Q kc kn (T.setTop (mkF m pc Ls (.int x :: .int j :: .ref a :: rest))) := by
  have F' := F
  obtain ⟨c', A, q1, q2⟩ := F
  obtain ⟨T', h', X', e', W', st⟩ := stZ X hx hZ eT A (j := j) (x := x) (own_in q1 hj hi) (g := mkF m pc Ls (.int x :: .int j :: .ref a :: rest)) rfl rfl hd
  rw [hn] at W'
  exact own_go st (H _ _ X' e' W' (F'.set W'))
theorem own_newarr (X : Stand p l e R s m args below meth c T locs cells slots) (hx : p.tables.exec = Jvm.exec) (hZ : Z.Warmed39 s.vm) {aty : ArrayType} (w : (Jvm.Cond.arrayClass (newarray.typeOf aty)).before a0 Z = true) (eT : T.heap = h) {pc : Nat} {Ls : Array Slot} {rest : List Value} (hd : decode c.code pc = .ok (.newarray aty, 2)) {n : Int32}
    (hn : ¬ n < 0) {cap : Nat} (hcap : n.toNatClampNeg ≤ cap) (hb : cap * 8 ≤ 536870912) (hc : cells + 1 ≤ R.cells) (hl : slots + cap ≤ R.slots) {ad : String} (had : "[" ++ (newarray.typeOf aty).toString = ad)
    (H : ∀ (T' : State) (h' : Heap) (a : Addr), a = h.size → Stand p l e R s m args below meth c T' locs (cells + 1) (slots + cap) → T'.heap = h' → Ext h h' → own_Ar Z h' a (newarray.typeOf aty) (List.replicate n.toNatClampNeg (defaultValue (newarray.typeOf aty))) → Exa Z h' a ad → own_Fin p e below s Q kc kn (T'.setTop (mkF m (pc + 2) Ls (.ref a :: rest)))) :
    own_Fin p e below s Q kc kn (T.setTop (mkF m pc Ls (.int n :: rest))) := by
  obtain ⟨T', h', cA, X', e', E', A', D', st⟩ := newPE X hx hZ w eT (g := mkF m pc Ls (.int n :: rest)) rfl hd rfl hn hcap hb hc hl had
  exact own_go st (H _ _ _ rfl X' e' E' ⟨_, A', by simp [newA], by simp only [List.length_replicate]; omega⟩ D')
theorem own_ldI (X : Stand p l e R s m args below meth c T locs cells slots) (hx : p.tables.exec = Jvm.exec) (hZ : Z.Warmed39 s.vm) (eT : T.heap = h) {xs : List Int32} (F : own_Ar Z h a .int (xs.map Value.int)) {j : Int32} (hj : ¬ j < 0) (hi : j.toNatClampNeg < xs.length) {pc : Nat} {Ls : Array Slot} {rest : List Value} (hd : decode c.code pc = .ok (.iaload, 1))
    (H : own_Fin p e below s Q kc kn (T.setTop (mkF m (pc + 1) Ls (Value.int (xs.getD j.toNatClampNeg 0) :: rest)))) : own_Fin p e below s Q kc kn (T.setTop (mkF m pc Ls (.int j :: .ref a :: rest))) :=
  own_iaload X hx hZ eT F hj (by simp [List.getD_eq_getElem?_getD, hi]) hd H
theorem own_ldZ (X : Stand p l e R s m args below meth c T locs cells slots) (hx : p.tables.exec = Jvm.exec) (hZ : Z.Warmed39 s.vm) (eT : T.heap = h) {xs : List Int32} (F : own_Ar Z h a .boolean (xs.map Value.int)) {j : Int32} (hj : ¬ j < 0) (hi : j.toNatClampNeg < xs.length) {pc : Nat} {Ls : Array Slot} {rest : List Value} (hd : decode c.code pc = .ok (.baload, 1))
    (H : own_Fin p e below s Q kc kn (T.setTop (mkF m (pc + 1) Ls (Value.int (xs.getD j.toNatClampNeg 0) :: rest)))) : own_Fin p e below s Q kc kn (T.setTop (mkF m pc Ls (.int j :: .ref a :: rest))) :=
  own_zaload X hx hZ eT F hj (by simp [List.getD_eq_getElem?_getD, hi]) hd H
theorem own_ldJ (X : Stand p l e R s m args below meth c T locs cells slots) (hx : p.tables.exec = Jvm.exec) (hZ : Z.Warmed39 s.vm) (eT : T.heap = h) {xs : List Int64} (F : own_Ar Z h a .long (xs.map Value.long)) {j : Int32} (hj : ¬ j < 0) (hi : j.toNatClampNeg < xs.length) {pc : Nat} {Ls : Array Slot} {rest : List Value} (hd : decode c.code pc = .ok (.laload, 1))
    (H : own_Fin p e below s Q kc kn (T.setTop (mkF m (pc + 1) Ls (Value.long (xs.getD j.toNatClampNeg 0) :: rest)))) : own_Fin p e below s Q kc kn (T.setTop (mkF m pc Ls (.int j :: .ref a :: rest))) :=
  own_laload X hx hZ eT F hj (by simp [List.getD_eq_getElem?_getD, hi]) hd H
theorem own_stI (X : Stand p l e R s m args below meth c T locs cells slots) (hx : p.tables.exec = Jvm.exec) (hZ : Z.Warmed39 s.vm) (eT : T.heap = h) {xs : List Int32} (F : own_Ar Z h a .int (xs.map Value.int)) {j : Int32} {x : Int32} (hj : ¬ j < 0) (hi : j.toNatClampNeg < xs.length) {pc : Nat} {Ls : Array Slot} {rest : List Value} (hd : decode c.code pc = .ok (.iastore, 1))
    (H : ∀ (T' : State) (h' : Heap), Stand p l e R s m args below meth c T' (locs ++ [⟨a, j.toNatClampNeg⟩]) cells slots → T'.heap = h' → Wr h h' a j.toNatClampNeg (Value.int x) → own_Ar Z h' a .int ((xs.set j.toNatClampNeg x).map Value.int) → own_Fin p e below s Q kc kn (T'.setTop (mkF m (pc + 1) Ls rest))) :
    own_Fin p e below s Q kc kn (T.setTop (mkF m pc Ls (Value.int x :: .int j :: .ref a :: rest))) :=
  own_iastore X hx hZ eT F hj (by simpa using hi) hd fun T' h' X' e' W' F' => H T' h' X' e' W' (by rw [List.map_set]; exact F')
theorem own_stZ (X : Stand p l e R s m args below meth c T locs cells slots) (hx : p.tables.exec = Jvm.exec) (hZ : Z.Warmed39 s.vm) (eT : T.heap = h) {xs : List Int32} (F : own_Ar Z h a .boolean (xs.map Value.int)) {j : Int32} {x : Int32} (hj : ¬ j < 0) (hi : j.toNatClampNeg < xs.length) {pc : Nat} {Ls : Array Slot} {rest : List Value} (hd : decode c.code pc = .ok (.bastore, 1)) (hn : nar .boolean x = x)
    (H : ∀ (T' : State) (h' : Heap), Stand p l e R s m args below meth c T' (locs ++ [⟨a, j.toNatClampNeg⟩]) cells slots → T'.heap = h' → Wr h h' a j.toNatClampNeg (Value.int x) → own_Ar Z h' a .boolean ((xs.set j.toNatClampNeg x).map Value.int) → own_Fin p e below s Q kc kn (T'.setTop (mkF m (pc + 1) Ls rest))) :
    own_Fin p e below s Q kc kn (T.setTop (mkF m pc Ls (Value.int x :: .int j :: .ref a :: rest))) :=
  own_zastore X hx hZ eT F hj (by simpa using hi) hd hn fun T' h' X' e' W' F' => H T' h' X' e' W' (by rw [List.map_set]; exact F')
theorem own_stJ (X : Stand p l e R s m args below meth c T locs cells slots) (hx : p.tables.exec = Jvm.exec) (hZ : Z.Warmed39 s.vm) (eT : T.heap = h) {xs : List Int64} (F : own_Ar Z h a .long (xs.map Value.long)) {j : Int32} {x : Int64} (hj : ¬ j < 0) (hi : j.toNatClampNeg < xs.length) {pc : Nat} {Ls : Array Slot} {rest : List Value} (hd : decode c.code pc = .ok (.lastore, 1))
    (H : ∀ (T' : State) (h' : Heap), Stand p l e R s m args below meth c T' (locs ++ [⟨a, j.toNatClampNeg⟩]) cells slots → T'.heap = h' → Wr h h' a j.toNatClampNeg (Value.long x) → own_Ar Z h' a .long ((xs.set j.toNatClampNeg x).map Value.long) → own_Fin p e below s Q kc kn (T'.setTop (mkF m (pc + 1) Ls rest))) :
    own_Fin p e below s Q kc kn (T.setTop (mkF m pc Ls (Value.long x :: .int j :: .ref a :: rest))) :=
  own_lastore X hx hZ eT F hj (by simpa using hi) hd fun T' h' X' e' W' F' => H T' h' X' e' W' (by rw [List.map_set]; exact F')
theorem own_newI (X : Stand p l e R s m args below meth c T locs cells slots) (hx : p.tables.exec = Jvm.exec) (hZ : Z.Warmed39 s.vm) (w : (Jvm.Cond.arrayClass .int).before a0 Z = true) (eT : T.heap = h) {pc : Nat} {Ls : Array Slot} {rest : List Value} (hd : decode c.code pc = .ok (.newarray .int, 2)) {n : Int32}
    (hn : ¬ n < 0) {cap : Nat} (hcap : n.toNatClampNeg ≤ cap) (hb : cap * 8 ≤ 536870912) (hc : cells + 1 ≤ R.cells) (hl : slots + cap ≤ R.slots)
    (H : ∀ (T' : State) (h' : Heap) (a : Addr), a = h.size → Stand p l e R s m args below meth c T' locs (cells + 1) (slots + cap) → T'.heap = h' → Ext h h' → own_Ar Z h' a .int ((List.replicate n.toNatClampNeg (0 : Int32)).map Value.int) → Exa Z h' a "[I" → own_Fin p e below s Q kc kn (T'.setTop (mkF m (pc + 2) Ls (.ref a :: rest)))) :
    own_Fin p e below s Q kc kn (T.setTop (mkF m pc Ls (.int n :: rest))) :=
  own_newarr X hx hZ (aty := .int) w eT hd hn hcap hb hc hl rfl fun T' h' a g' X' e' E' F' D' => H T' h' a g' X' e' E' (by rw [List.map_replicate]; exact F') D'
theorem own_newZ (X : Stand p l e R s m args below meth c T locs cells slots) (hx : p.tables.exec = Jvm.exec) (hZ : Z.Warmed39 s.vm) (w : (Jvm.Cond.arrayClass .boolean).before a0 Z = true) (eT : T.heap = h) {pc : Nat} {Ls : Array Slot} {rest : List Value} (hd : decode c.code pc = .ok (.newarray .boolean, 2)) {n : Int32}
    (hn : ¬ n < 0) {cap : Nat} (hcap : n.toNatClampNeg ≤ cap) (hb : cap * 8 ≤ 536870912) (hc : cells + 1 ≤ R.cells) (hl : slots + cap ≤ R.slots)
    (H : ∀ (T' : State) (h' : Heap) (a : Addr), a = h.size → Stand p l e R s m args below meth c T' locs (cells + 1) (slots + cap) → T'.heap = h' → Ext h h' → own_Ar Z h' a .boolean ((List.replicate n.toNatClampNeg (0 : Int32)).map Value.int) → Exa Z h' a "[Z" → own_Fin p e below s Q kc kn (T'.setTop (mkF m (pc + 2) Ls (.ref a :: rest)))) :
    own_Fin p e below s Q kc kn (T.setTop (mkF m pc Ls (.int n :: rest))) :=
  own_newarr X hx hZ (aty := .boolean) w eT hd hn hcap hb hc hl rfl fun T' h' a g' X' e' E' F' D' => H T' h' a g' X' e' E' (by rw [List.map_replicate]; exact F') D'
theorem own_newJ (X : Stand p l e R s m args below meth c T locs cells slots) (hx : p.tables.exec = Jvm.exec) (hZ : Z.Warmed39 s.vm) (w : (Jvm.Cond.arrayClass .long).before a0 Z = true) (eT : T.heap = h) {pc : Nat} {Ls : Array Slot} {rest : List Value} (hd : decode c.code pc = .ok (.newarray .long, 2)) {n : Int32}
    (hn : ¬ n < 0) {cap : Nat} (hcap : n.toNatClampNeg ≤ cap) (hb : cap * 8 ≤ 536870912) (hc : cells + 1 ≤ R.cells) (hl : slots + cap ≤ R.slots)
    (H : ∀ (T' : State) (h' : Heap) (a : Addr), a = h.size → Stand p l e R s m args below meth c T' locs (cells + 1) (slots + cap) → T'.heap = h' → Ext h h' → own_Ar Z h' a .long ((List.replicate n.toNatClampNeg (0 : Int64)).map Value.long) → Exa Z h' a "[J" → own_Fin p e below s Q kc kn (T'.setTop (mkF m (pc + 2) Ls (.ref a :: rest)))) :
    own_Fin p e below s Q kc kn (T.setTop (mkF m pc Ls (.int n :: rest))) :=
  own_newarr X hx hZ (aty := .long) w eT hd hn hcap hb hc hl rfl fun T' h' a g' X' e' E' F' D' => H T' h' a g' X' e' E' (by rw [List.map_replicate]; exact F') D'
end OwnArr
section OwnArr2
variable {p : Program} {l : Launch} {e : Env} {R : Room} {s : State} {m : MethodId} {args : Array Value} {below : List Frame} {meth : Method} {c : Code} {T : State} {locs : List Loc} {cells slots : Nat} {Z : State} {a0 : Array Value} {h h' : Heap} {Q : Option Value → Heap → List Loc → Prop} {kc kn : Nat} {a b : Addr} {ty : FieldType} {vs : List Value} {v w : Value} {ws : List Addr} {sl : Nat}
theorem own_cloneI (X : Stand p l e R s m args below meth c T locs cells slots) (hx : p.tables.exec = Jvm.exec) (hZ : Z.Warmed39 s.vm) {own : String} {index : Nat} (hown : s.vm.findClass own = some m.cls)
    (w1 : (Jvm.Cond.methodLink own index ⟨"[I", "clone", "()Ljava/lang/Object;"⟩).before a0 Z = true) (w2 : (Jvm.Cond.sameMethod "[I" "java/lang/Object" "clone" "()Ljava/lang/Object;").before a0 Z = true) (w3 : (Jvm.Cond.native ⟨"java/lang/Object", "clone", "()Ljava/lang/Object;"⟩).before a0 Z = true)
    (w4 : (Jvm.Cond.instanceMethod ⟨"java/lang/Object", "clone", "()Ljava/lang/Object;"⟩).before a0 Z = true) (w5 : (Jvm.Cond.selects "[I" ⟨"[I", "clone", "()Ljava/lang/Object;"⟩ ⟨"java/lang/Object", "clone", "()Ljava/lang/Object;"⟩).before a0 Z = true) (w6 : (Jvm.Cond.castable "[I" "java/lang/Cloneable").before a0 Z = true)
    (eT : T.heap = h) {xs : List Int32} (F : own_Ar Z h a .int (xs.map Value.int)) (E : Exa Z h a "[I") {pc : Nat} {Ls : Array Slot} (hsize : Ls.size = c.maxLocals) {rest : List Value} (hd : decode c.code pc = .ok (.invokevirtual index, 3))
    (hf : 1 ≤ R.frames) {W cap : Nat} (hW : (rest.map fun v => v.category).sum ≤ W) (hl : W + 14 ≤ R.locals) (hcap : xs.length ≤ cap) (hc : cells + 1 ≤ R.cells) (hsl : slots + cap ≤ R.slots)
    (H : ∀ (T' : State) (h' : Heap) (b : Addr), b = h.size → Stand p l e R s m args below meth c T' locs (cells + 1) (slots + cap) → T'.heap = h' → Ext h h' → own_Ar Z h' b .int (xs.map Value.int) → Exa Z h' b "[I" → own_Fin p e below s Q kc kn (T'.setTop (mkF m (pc + 3) Ls (.ref b :: rest)))) :
    own_Fin p e below s Q kc kn (T.setTop (mkF m pc Ls (.ref a :: rest))) := by
  obtain ⟨cl, A, q1, q2⟩ := F
  have FC : FitC Z cl := fitC_of A fun i hi v hv => by
    rw [q1] at hv
    simp only [List.getElem?_toArray, List.getElem?_map, Option.map_eq_some_iff] at hv
    obtain ⟨x, -, rfl⟩ := hv; rfl
  obtain ⟨T', h', X', e', ex, A', E', st⟩ := cloneA X hx hZ hown w1 w2 w3 w4 w5 w6 eT A E FC (g := mkF m pc Ls (.ref a :: rest)) rfl hsize rfl hd hf (W := W) (by show 2 * 0 + _ ≤ _; omega) hl (cap := cap) (by rw [q1]; simpa using hcap) hc hsl
  exact own_go st (H _ _ _ rfl X' e' ex ⟨_, A', q1, q2⟩ E')
theorem own_Ar.arvI {xs : List Int32} (F : own_Ar Z h a .int (xs.map Value.int)) : ∃ k, Arv Z h a k .int (Int32.ofNat xs.length) (xs.map Value.int) (.int 0) := by
  obtain ⟨cl, A, q1, q2⟩ := F
  have q2' : xs.length < 2 ^ 31 := by simpa using q2
  have e1 : (Int32.ofNat xs.length).toNatClampNeg = xs.length := Int32.toNatClampNeg_ofNat_of_lt q2'
  refine ⟨cl.cls, cl, A, rfl, by rw [q1, e1]; simp, ?_, fun i hi => ?_, fun i hi => ?_⟩
  · rw [Int32.lt_iff_toInt_lt, Int32.toInt_ofNat_of_lt q2']; show ¬ (xs.length : Int) < 0; omega
  · rw [q1] at hi ⊢
    have hi' : i < xs.length := by simpa using hi
    simp [List.getD_eq_getElem?_getD, hi']
  · rw [q1] at hi
    have hi' : i < xs.length := by simpa using hi
    simp [List.getD_eq_getElem?_getD, hi', fits]
theorem own_of_arvI {xs : List Int32} {k : ClassId} {n : Int32} {d : Value} (F : Arv Z h a k .int n (xs.map Value.int) d) (hn : n.toNatClampNeg = xs.length) : own_Ar Z h a .int (xs.map Value.int) := by
  obtain ⟨cl, A, -, S, q3, H, -⟩ := F
  have hl : n.toNatClampNeg < 2 ^ 31 := (back32 q3).2
  refine ⟨cl, A, ?_, by simpa [← hn] using hl⟩
  apply Array.ext_getElem?
  intro i
  by_cases hi : i < cl.slots.size
  · rw [H i hi]
    have hi' : i < xs.length := by rw [← hn, ← S]; exact hi
    simp [List.getD_eq_getElem?_getD, hi']
  · rw [Array.getElem?_eq_none (by omega)]
    symm
    rw [List.getElem?_toArray, List.getElem?_eq_none]
    rw [List.length_map, ← hn, ← S]; omega
theorem own_copyI (X : Stand p l e R s m args below meth c T locs cells slots) (hx : p.tables.exec = Jvm.exec) (hZ : Z.Warmed39 s.vm) {own : String} {index : Nat} (hown : s.vm.findClass own = some m.cls)
    (w1 : (Jvm.Cond.methodLink own index Jvm.Stand.acN).before a0 Z = true) (w2 : (Jvm.Cond.native Jvm.Stand.acN).before a0 Z = true) (w3 : (Jvm.Cond.static Jvm.Stand.acN).before a0 Z = true) (w4 : (Jvm.Cond.initialized "java/lang/System").before a0 Z = true) (eT : T.heap = h)
    {xs ys : List Int32} (F : own_Ar Z h a .int (xs.map Value.int)) (G : own_Ar Z h b .int (ys.map Value.int)) {nn : Int32} {n0 : Nat} (h3 : ¬ nn < 0) (h4 : nn.toNatClampNeg ≤ xs.length) (h5 : nn.toNatClampNeg ≤ ys.length) (N : Fr n0 locs) (ge : n0 ≤ b)
    {pc : Nat} {Ls : Array Slot} (hsize : Ls.size = c.maxLocals) {rest : List Value} (hd : decode c.code pc = .ok (.invokestatic index, 3))
    (hf : 1 ≤ R.frames) {W : Nat} (hW : (rest.map fun v => v.category).sum ≤ W) (hlo : W + (nativeFrameWords "java/lang/System" "arraycopy" 5 + 11) ≤ R.locals)
    (H : ∀ (T' : State) (h' : Heap) (L : List Loc), Stand p l e R s m args below meth c T' L cells slots → T'.heap = h' → Fr n0 L → Keep h h' [b] → own_Ar Z h' b .int ((xs.take nn.toNatClampNeg ++ ys.drop nn.toNatClampNeg).map Value.int) → own_Fin p e below s Q kc kn (T'.setTop (mkF m (pc + 3) Ls rest))) :
    own_Fin p e below s Q kc kn (T.setTop (mkF m pc Ls (.int nn :: .int (0 : Int32) :: .ref b :: .int (0 : Int32) :: .ref a :: rest))) := by
  have lx : xs.length < 2 ^ 31 := by simpa using F.len
  have ly : ys.length < 2 ^ 31 := by simpa using G.len
  have ex : (Int32.ofNat xs.length).toNatClampNeg = xs.length := Int32.toNatClampNeg_ofNat_of_lt lx
  have ey : (Int32.ofNat ys.length).toNatClampNeg = ys.length := Int32.toNatClampNeg_ofNat_of_lt ly
  have e0 : (0 : Int32).toNatClampNeg = 0 := by decide
  obtain ⟨k1, A⟩ := F.arvI
  obtain ⟨k2, B⟩ := G.arvI
  obtain ⟨T', h', L, X', e', N', K', V', st⟩ := cpA X hx hZ hown w1 w2 w3 w4 eT A B (sp := 0) (dp := 0) (nn := nn) (us := (xs.take nn.toNatClampNeg).map Value.int) (Or.inl ⟨rfl, rfl⟩) (by decide) (by decide) h3 (by rw [e0, ex]; omega) (by rw [e0, ey]; omega) (by
      rw [e0]
      apply List.ext_getElem?
      intro i
      by_cases hi : i < nn.toNatClampNeg
      · have hi' : i < xs.length := by omega
        simp [List.getElem?_take, hi, List.getD_eq_getElem?_getD, hi']
      · simp [List.getElem?_take, hi]) (by rw [e0]; simpa using h5) N ge (g := mkF m pc Ls (.int nn :: .int (0 : Int32) :: .ref b :: .int (0 : Int32) :: .ref a :: rest)) rfl hsize rfl hd hf (W := W) (by show 2 * 0 + _ ≤ _; omega) hlo
  refine own_go st (H _ _ _ X' e' N' K' ?_)
  refine own_of_arvI (n := Int32.ofNat ys.length) (k := k2) (d := .int 0) ?_ ?_
  · rw [e0] at V'
    simpa [List.map_append, List.map_take, List.map_drop] using V'
  · rw [ey]; simp; omega
end OwnArr2

theorem d1_0 : decode method_2_code 0 = .ok (.iload_n 0, 1) := by decide +kernel
theorem d1_1 : decode method_2_code 1 = .ok (.iconst 3, 1) := by decide +kernel
theorem d1_2 : decode method_2_code 2 = .ok (.iload_n 1, 1) := by decide +kernel
theorem d1_3 : decode method_2_code 3 = .ok (.imul, 1) := by decide +kernel
theorem d1_4 : decode method_2_code 4 = .ok (.iushr, 1) := by decide +kernel
theorem d1_5 : decode method_2_code 5 = .ok (.bipush 7, 2) := by decide +kernel
theorem d1_7 : decode method_2_code 7 = .ok (.iand, 1) := by decide +kernel
theorem d1_8 : decode method_2_code 8 = .ok (.ireturn, 1) := by decide +kernel
theorem pn_1 : plainFor (⟨"com/example/conflux/conflux/compose/CatalogueIndexMarkedPinLaw", "pick", "(II)I"⟩ : MethodName) = true := plainFor_of_name (by show plainName "com/example/conflux/conflux/compose/CatalogueIndexMarkedPinLaw" = true; first | (simp [plainName, overriddenIn]; done) | decide +kernel)
theorem ef_1 (m : MethodId) (x0 : Int32) (x1 : Int32) : entryFrame m #[(.int x0), (.int x1)] 2 = mkF m 0 #[.val (.int x0), .val (.int x1)] [] := by first | (simp [entryFrame, mkF, argsToLocals, Value.category]; done) | rfl
def own_f1 (p0 : Int32) (p1 : Int32) : Int32 :=
  (((p0.toUInt32 >>> (((3 : Int32) * p1) &&& 31).toUInt32).toInt32) &&& (7 : Int32))
set_option maxRecDepth 65536 in
set_option maxHeartbeats 40000000 in
theorem rm1 (l : Launch) (Z : State) (a0 : Array Value) (hw : ∀ d ∈ tables_1, d.before a0 Z = true) (p0 : Int32) (p1 : Int32) (h0 : Heap) (n0 : Nat) (Z0 : n0 ≤ h0.size) :
    own_Met l (⟨"com/example/conflux/conflux/compose/CatalogueIndexMarkedPinLaw", "pick", "(II)I"⟩ : MethodName) method_2_code 2 (some .int) ({ frames := 0, cells := 0, slots := 0, locals := 0 } : Room) Z [] #[(.int p0), (.int p1)] h0 (own_P (some (.int (own_f1 p0 p1))) h0 n0) := by
  refine own_enter pn_1 ?_
  intro p e s m below meth c s₁ hx hby hml hown hnm hret hlk hZ e0 X0
  rw [ef_1]
  have N0 := Fr.nil n0
  show own_Fin _ _ _ _ _ _ _ (s₁.setTop (mkF m 0 #[.val (.int p0), .val (.int p1)] []))
  refine own_go (fun _ kk => XS.iloadN X0.here hx rfl (hb hby d1_0) rfl (XS.iconst X0.here hx rfl (hb hby d1_1) (XS.iloadN X0.here hx rfl (hb hby d1_2) rfl (XS.imul X0.here hx rfl (hb hby d1_3) rfl (XS.iushr X0.here hx rfl (hb hby d1_4) rfl (XS.bipush X0.here hx rfl (hb hby d1_5) (XS.iand X0.here hx rfl (hb hby d1_7) rfl kk))))))) ?_
  show own_Fin _ _ _ _ _ _ _ (s₁.setTop (mkF m 8 #[.val (.int p0), .val (.int p1)] [(.int (((p0.toUInt32 >>> (((3 : Int32) * p1) &&& 31).toUInt32).toInt32) &&& (7 : Int32)))]))
  exact own_retI X0 hx hlk hret (hb hby d1_8) (by decide) (by decide) ⟨(by rw [own_f1]), N0, e0⟩

theorem d4_0 : decode jdk_29_method_69_code 0 = .ok (.iload_n 0, 1) := by decide +kernel
theorem d4_1 : decode jdk_29_method_69_code 1 = .ok (.iload_n 1, 1) := by decide +kernel
theorem d4_2 : decode jdk_29_method_69_code 2 = .ok (.if_icmp .gt 7, 3) := by decide +kernel
theorem d4_5 : decode jdk_29_method_69_code 5 = .ok (.iload_n 0, 1) := by decide +kernel
theorem d4_6 : decode jdk_29_method_69_code 6 = .ok (.goto 4, 3) := by decide +kernel
theorem d4_9 : decode jdk_29_method_69_code 9 = .ok (.iload_n 1, 1) := by decide +kernel
theorem d4_10 : decode jdk_29_method_69_code 10 = .ok (.ireturn, 1) := by decide +kernel
theorem pn_4 : plainFor (⟨"java/lang/Math", "min", "(II)I"⟩ : MethodName) = true := Jvm.Free.JP.mathPlain rfl (by decide +kernel)
theorem ef_4 (m : MethodId) (x0 : Int32) (x1 : Int32) : entryFrame m #[(.int x0), (.int x1)] 2 = mkF m 0 #[.val (.int x0), .val (.int x1)] [] := by first | (simp [entryFrame, mkF, argsToLocals, Value.category]; done) | rfl
def own_f4 (p0 : Int32) (p1 : Int32) : Int32 :=
  if p1 < p0 then
    p1
  else
    p0
set_option maxRecDepth 65536 in
set_option maxHeartbeats 40000000 in
theorem rm4 (l : Launch) (Z : State) (a0 : Array Value) (hw : ∀ d ∈ tables_1, d.before a0 Z = true) (p0 : Int32) (p1 : Int32) (h0 : Heap) (n0 : Nat) (Z0 : n0 ≤ h0.size) :
    own_Met l (⟨"java/lang/Math", "min", "(II)I"⟩ : MethodName) jdk_29_method_69_code 2 (some .int) ({ frames := 0, cells := 0, slots := 0, locals := 0 } : Room) Z [] #[(.int p0), (.int p1)] h0 (own_P (some (.int (own_f4 p0 p1))) h0 n0) := by
  refine own_enter pn_4 ?_
  intro p e s m below meth c s₁ hx hby hml hown hnm hret hlk hZ e0 X0
  rw [ef_4]
  have N0 := Fr.nil n0
  show own_Fin _ _ _ _ _ _ _ (s₁.setTop (mkF m 0 #[.val (.int p0), .val (.int p1)] []))
  refine own_go (fun _ kk => XS.iloadN X0.here hx rfl (hb hby d4_0) rfl (XS.iloadN X0.here hx rfl (hb hby d4_1) rfl kk)) ?_
  show own_Fin _ _ _ _ _ _ _ (s₁.setTop (mkF m 2 #[.val (.int p0), .val (.int p1)] [(.int p1), (.int p0)]))
  by_cases hc2 : p1 < p0
  · refine own_go (fun _ kk => XS.icmpYes X0.here hx rfl (pc0 := 2) (pc' := 9) rfl (hb hby d4_2) rfl (XT.ii_gt_t hc2) (by decide) (by decide) (XS.iloadN X0.here hx rfl (hb hby d4_9) rfl kk)) ?_
    show own_Fin _ _ _ _ _ _ _ (s₁.setTop (mkF m 10 #[.val (.int p0), .val (.int p1)] [(.int p1)]))
    exact own_retI X0 hx hlk hret (hb hby d4_10) (by decide) (by decide) ⟨(by rw [own_f4, if_pos hc2]), N0, e0⟩
  · refine own_go (fun _ kk => XS.icmpNo X0.here hx rfl (hb hby d4_2) rfl (XT.ii_gt_f hc2) (XS.iloadN X0.here hx rfl (hb hby d4_5) rfl (XS.goto X0.here hx rfl (pc0 := 6) (pc' := 10) rfl (hb hby d4_6) (by decide) (by decide) kk))) ?_
    show own_Fin _ _ _ _ _ _ _ (s₁.setTop (mkF m 10 #[.val (.int p0), .val (.int p1)] [(.int p0)]))
    exact own_retI X0 hx hlk hret (hb hby d4_10) (by decide) (by decide) ⟨(by rw [own_f4, if_neg hc2]), N0, e0⟩

theorem own_ltN (i n : Nat) (hi : i < 2 ^ 31) (hn : n < 2 ^ 31) : Int32.ofNat i < Int32.ofNat n ↔ i < n := by
  rw [Int32.lt_iff_toInt_lt, Int32.toInt_ofNat_of_lt hi, Int32.toInt_ofNat_of_lt hn]; omega
theorem own_inj {i n : Nat} (hi : i < 2 ^ 31) (hn : n < 2 ^ 31) (h : Int32.ofNat i = Int32.ofNat n) : i = n := by
  have := congrArg Int32.toInt h
  rw [Int32.toInt_ofNat_of_lt hi, Int32.toInt_ofNat_of_lt hn] at this; omega
theorem own_nn {i : Nat} (hi : i < 2 ^ 31) : ¬ Int32.ofNat i < 0 := by
  rw [Int32.lt_iff_toInt_lt, Int32.toInt_ofNat_of_lt hi]
  have : (0 : Int32).toInt = 0 := by decide
  omega
theorem own_tn {i : Nat} (hi : i < 2 ^ 31) : (Int32.ofNat i).toNatClampNeg = i := Int32.toNatClampNeg_ofNat_of_lt hi
theorem own_succ (i : Nat) : Int32.ofNat i + (1 : Int32) = Int32.ofNat (i + 1) := by rw [Int32.ofNat_add]; rfl
theorem own_min (n k : Nat) (hn : n < 2 ^ 31) (h : k ≤ n) : own_f4 (Int32.ofNat n) (Int32.ofNat k) = Int32.ofNat k := by
  unfold own_f4
  split
  · rfl
  · rename_i q
    rw [own_ltN _ _ (by omega) hn] at q
    rw [show n = k by omega]
def own_mk (bs : List Int32) (x : Int32) : Bool := decide (¬ List.getD bs x.toNatClampNeg 0 = 0)

theorem d3_0 : decode jdk_65_method_123_code 0 = .ok (.iload_n 1, 1) := by decide +kernel
theorem d3_1 : decode jdk_65_method_123_code 1 = .ok (.aload_n 0, 1) := by decide +kernel
theorem d3_2 : decode jdk_65_method_123_code 2 = .ok (.arraylength, 1) := by decide +kernel
theorem d3_3 : decode jdk_65_method_123_code 3 = .ok (.if_icmp .ne 11, 3) := by decide +kernel
theorem d3_6 : decode jdk_65_method_123_code 6 = .ok (.aload_n 0, 1) := by decide +kernel
theorem d3_7 : decode jdk_65_method_123_code 7 = .ok (.invokevirtual 316, 3) := by decide +kernel
theorem d3_10 : decode jdk_65_method_123_code 10 = .ok (.checkcast 317, 3) := by decide +kernel
theorem d3_13 : decode jdk_65_method_123_code 13 = .ok (.areturn, 1) := by decide +kernel
theorem d3_14 : decode jdk_65_method_123_code 14 = .ok (.iload_n 1, 1) := by decide +kernel
theorem d3_15 : decode jdk_65_method_123_code 15 = .ok (.newarray .int, 2) := by decide +kernel
theorem d3_17 : decode jdk_65_method_123_code 17 = .ok (.astore_n 2, 1) := by decide +kernel
theorem d3_18 : decode jdk_65_method_123_code 18 = .ok (.aload_n 0, 1) := by decide +kernel
theorem d3_19 : decode jdk_65_method_123_code 19 = .ok (.iconst 0, 1) := by decide +kernel
theorem d3_20 : decode jdk_65_method_123_code 20 = .ok (.aload_n 2, 1) := by decide +kernel
theorem d3_21 : decode jdk_65_method_123_code 21 = .ok (.iconst 0, 1) := by decide +kernel
theorem d3_22 : decode jdk_65_method_123_code 22 = .ok (.aload_n 0, 1) := by decide +kernel
theorem d3_23 : decode jdk_65_method_123_code 23 = .ok (.arraylength, 1) := by decide +kernel
theorem d3_24 : decode jdk_65_method_123_code 24 = .ok (.iload_n 1, 1) := by decide +kernel
theorem d3_25 : decode jdk_65_method_123_code 25 = .ok (.invokestatic 304, 3) := by decide +kernel
theorem d3_28 : decode jdk_65_method_123_code 28 = .ok (.invokestatic 150, 3) := by decide +kernel
theorem d3_31 : decode jdk_65_method_123_code 31 = .ok (.aload_n 2, 1) := by decide +kernel
theorem d3_32 : decode jdk_65_method_123_code 32 = .ok (.areturn, 1) := by decide +kernel
theorem pd_3_0 : parseMethodDescriptor "(II)I" = some ⟨[.int, .int], some .int⟩ := by decide +kernel
theorem pn_3 : plainFor (⟨"java/util/Arrays", "copyOf", "([II)[I"⟩ : MethodName) = true := plainFor_of_name (by show plainName "java/util/Arrays" = true; first | (simp [plainName, overriddenIn]; done) | decide +kernel)
theorem ef_3 (m : MethodId) (x0 : Addr) (x1 : Int32) : entryFrame m #[(.ref x0), (.int x1)] 3 = mkF m 0 #[.val (.ref x0), .val (.int x1), .unset] [] := by first | (simp [entryFrame, mkF, argsToLocals, Value.category]; done) | rfl
def own_QC (Z : State) (xs : List Int32) (h0 : Heap) (n0 : Nat) (v : Option Value) (h : Heap) (L : List Loc) : Prop := ∃ r, v = some (.ref r) ∧ Fr n0 L ∧ Keep h0 h [] ∧ h0.size ≤ r ∧ own_Ar Z h r .int (xs.map Value.int)
set_option maxRecDepth 65536 in
set_option maxHeartbeats 40000000 in
theorem rm3 (l : Launch) (Z : State) (a0 : Array Value) (hw : ∀ d ∈ tables_1, d.before a0 Z = true) (t0 : Addr) (p1 : Int32) (h0 : Heap) (n0 : Nat) (Z0 : n0 ≤ h0.size) (xs : List Int32) (k : Nat) (V0 : own_Ar Z h0 t0 .int (xs.map Value.int)) (E0 : Exa Z h0 t0 "[I") (hk : k ≤ xs.length) (h4 : xs.length ≤ 4) (hp : p1 = Int32.ofNat k) :
    own_Met l (⟨"java/util/Arrays", "copyOf", "([II)[I"⟩ : MethodName) jdk_65_method_123_code 3 (some (.array .int)) ({ frames := 1, cells := 1, slots := 4, locals := 30 } : Room) Z [] #[(.ref t0), (.int p1)] h0 (own_QC Z (xs.take k) h0 n0) := by
  refine own_enter pn_3 ?_
  intro p e s m below meth c s₁ hx hby hml hown hnm hret hlk hZ e0 X0
  rw [ef_3]
  have N0 := Fr.nil n0
  show own_Fin _ _ _ _ _ _ _ (s₁.setTop (mkF m 0 #[.val (.ref t0), .val (.int p1), .unset] []))
  refine own_go (fun _ kk => XS.iloadN X0.here hx rfl (hb hby d3_0) rfl (XS.aloadN X0.here hx rfl (hb hby d3_1) rfl rfl kk)) ?_
  show own_Fin _ _ _ _ _ _ _ (s₁.setTop (mkF m 2 #[.val (.ref t0), .val (.int p1), .unset] [(.ref t0), (.int p1)]))
  refine own_alen X0 hx hZ e0 V0 (hb hby d3_2) ?_
  rw [List.length_map]
  show own_Fin _ _ _ _ _ _ _ (s₁.setTop (mkF m 3 #[.val (.ref t0), .val (.int p1), .unset] [(.int (Int32.ofNat (xs).length)), (.int p1)]))
  by_cases hc3 : p1 = (Int32.ofNat (xs).length)
  · refine own_go (fun _ kk => XS.icmpNo X0.here hx rfl (hb hby d3_3) rfl (XT.ii_ne_f hc3) (XS.aloadN X0.here hx rfl (hb hby d3_6) rfl rfl kk)) ?_
    show own_Fin _ _ _ _ _ _ _ (s₁.setTop (mkF m 7 #[.val (.ref t0), .val (.int p1), .unset] [(.ref t0)]))
    refine own_cloneI X0 hx hZ hown (hw _ (List.mem_of_getElem? (i := 15) rfl)) (hw _ (List.mem_of_getElem? (i := 16) rfl)) (hw _ (List.mem_of_getElem? (i := 20) rfl)) (hw _ (List.mem_of_getElem? (i := 18) rfl)) (hw _ (List.mem_of_getElem? (i := 19) rfl)) (hw _ (List.mem_of_getElem? (i := 21) rfl)) e0 V0 E0 (by rw [hml]; rfl) (hb hby d3_7) (by decide) (W := 0) (cap := 4) (by decide) (by decide) h4 (by decide) (by decide) ?_
    intro T1 h1 b1 g1 X1 e1 E1 A1 D1
    have g_b1 : n0 ≤ b1 := Nat.le_trans Z0 (Nat.le_of_eq g1.symm)
    have ne_t0_b1 : t0 ≠ b1 := Nat.ne_of_lt (Nat.lt_of_lt_of_le V0.lt (Nat.le_of_eq g1.symm))
    have f2 := V0.ext E1
    have f3 := E0.ext E1
    have Z1 := Nat.le_trans Z0 E1.1
    have sz_b1 : h0.size ≤ b1 := Nat.le_trans (Keep.refl h0 []).1 (Nat.le_of_eq g1.symm)
    have K1 := (Keep.refl h0 []).ext E1
    show own_Fin _ _ _ _ _ _ _ (T1.setTop (mkF m 10 #[.val (.ref t0), .val (.int p1), .unset] [(.ref b1)]))
    refine own_castY X1 hx hZ hown (hw _ (List.mem_of_getElem? (i := 22) rfl)) e1 (Ins.self D1) (hb hby d3_10) ?_
    intro T4 X4 e4
    show own_Fin _ _ _ _ _ _ _ (T4.setTop (mkF m 13 #[.val (.ref t0), .val (.int p1), .unset] [(.ref b1)]))
    exact own_retA X4 hx hlk hret rfl rfl (hb hby d3_13) (by decide) (by decide) (by rw [e4]; exact ⟨_, rfl, N0, K1, sz_b1, (by rw [List.take_of_length_le (Nat.le_of_eq (own_inj (by omega) (by omega) (hp.symm.trans hc3)).symm)]; exact A1)⟩)
  · refine own_go (fun _ kk => XS.icmpYes X0.here hx rfl (pc0 := 3) (pc' := 14) rfl (hb hby d3_3) rfl (XT.ii_ne_t hc3) (by decide) (by decide) (XS.iloadN X0.here hx rfl (hb hby d3_14) rfl kk)) ?_
    show own_Fin _ _ _ _ _ _ _ (s₁.setTop (mkF m 15 #[.val (.ref t0), .val (.int p1), .unset] [(.int p1)]))
    refine own_newI X0 hx hZ (hw _ (List.mem_of_getElem? (i := 5) rfl)) e0 (hb hby d3_15) (by rw [hp]; exact own_nn (by omega)) (cap := 4) (by rw [hp, own_tn (by omega)]; omega) (by decide) (by decide) (by decide) ?_
    intro T5 h5 b5 g5 X5 e5 E5 A5 D5
    have g_b5 : n0 ≤ b5 := Nat.le_trans Z0 (Nat.le_of_eq g5.symm)
    have ne_t0_b5 : t0 ≠ b5 := Nat.ne_of_lt (Nat.lt_of_lt_of_le V0.lt (Nat.le_of_eq g5.symm))
    have f6 := V0.ext E5
    have f7 := E0.ext E5
    have Z5 := Nat.le_trans Z0 E5.1
    have sz_b5 : h0.size ≤ b5 := Nat.le_trans (Keep.refl h0 []).1 (Nat.le_of_eq g5.symm)
    have K5 := (Keep.refl h0 []).ext E5
    show own_Fin _ _ _ _ _ _ _ (T5.setTop (mkF m 17 #[.val (.ref t0), .val (.int p1), .unset] [(.ref b5)]))
    refine own_go (fun _ kk => XS.astoreN X5.here hx rfl (hb hby d3_17) rfl rfl (l' := #[.val (.ref t0), .val (.int p1), .val (.ref b5)]) rfl (XS.aloadN X5.here hx rfl (hb hby d3_18) rfl rfl (XS.iconst X5.here hx rfl (hb hby d3_19) (XS.aloadN X5.here hx rfl (hb hby d3_20) rfl rfl (XS.iconst X5.here hx rfl (hb hby d3_21) (XS.aloadN X5.here hx rfl (hb hby d3_22) rfl rfl kk)))))) ?_
    show own_Fin _ _ _ _ _ _ _ (T5.setTop (mkF m 23 #[.val (.ref t0), .val (.int p1), .val (.ref b5)] [(.ref t0), (.int (0 : Int32)), (.ref b5), (.int (0 : Int32)), (.ref t0)]))
    refine own_alen X5 hx hZ e5 f6 (hb hby d3_23) ?_
    rw [List.length_map]
    show own_Fin _ _ _ _ _ _ _ (T5.setTop (mkF m 24 #[.val (.ref t0), .val (.int p1), .val (.ref b5)] [(.int (Int32.ofNat (xs).length)), (.int (0 : Int32)), (.ref b5), (.int (0 : Int32)), (.ref t0)]))
    refine own_go (fun _ kk => XS.iloadN X5.here hx rfl (hb hby d3_24) rfl kk) ?_
    show own_Fin _ _ _ _ _ _ _ (T5.setTop (mkF m 25 #[.val (.ref t0), .val (.int p1), .val (.ref b5)] [(.int p1), (.int (Int32.ofNat (xs).length)), (.int (0 : Int32)), (.ref b5), (.int (0 : Int32)), (.ref t0)]))
    refine own_callS X5 hx hZ hown (hw _ (List.mem_of_getElem? (i := 24) rfl)) (hw _ (List.mem_of_getElem? (i := 25) rfl)) (hw _ (List.mem_of_getElem? (i := 26) rfl)) (hw _ (List.mem_of_getElem? (i := 27) rfl)) (by decide) (rm4 l Z a0 hw (Int32.ofNat (xs).length) p1 h5 n0 Z5) e5 (argsL := [(.int (Int32.ofNat (xs).length)), (.int p1)]) (rest := [(.int (0 : Int32)), (.ref b5), (.int (0 : Int32)), (.ref t0)]) rfl rfl (by rw [hml]; rfl) (lenOf pd_3_0 rfl) (hb hby d3_25) (W := 4) (Nat.le_of_eq rfl) (by decide) (by decide) (by decide) (by decide) ?_
    rintro v8 T8 L8 X8 ⟨rfl, M8, e8⟩
    have N8 := Fr.app N0 M8
    show own_Fin _ _ _ _ _ _ _ (T8.setTop (mkF m 28 #[.val (.ref t0), .val (.int p1), .val (.ref b5)] [(.int (own_f4 (Int32.ofNat (xs).length) p1)), (.int (0 : Int32)), (.ref b5), (.int (0 : Int32)), (.ref t0)]))
    have hmn : (own_f4 (Int32.ofNat (xs).length) p1) = Int32.ofNat k := by rw [hp]; exact own_min _ _ (by omega) hk
    refine own_copyI X8 hx hZ hown (hw _ (List.mem_of_getElem? (i := 28) rfl)) (hw _ (List.mem_of_getElem? (i := 31) rfl)) (hw _ (List.mem_of_getElem? (i := 29) rfl)) (hw _ (List.mem_of_getElem? (i := 30) rfl)) e8 f6 A5 (by rw [hmn]; exact own_nn (by omega)) (by rw [hmn, own_tn (by omega)]; exact hk) (by rw [hmn, hp, own_tn (by omega)]; simp [own_tn (show k < 2 ^ 31 by omega)]) N8 g_b5 (by rw [hml]; rfl) (hb hby d3_28) (by decide) (W := 0) (by decide) (by decide) ?_
    intro T9 h9 L9 X9 e9 N9 Kc9 A9
    have f10 := f6.keep Kc9 (ninS ne_t0_b5 nin0)
    have f11 := f7.keep Kc9
    have f12 := D5.keep Kc9
    have Z9 := Nat.le_trans Z5 Kc9.1
    have K9 := K5.trans Kc9 (allS (Or.inr sz_b5) all0)
    have B9 : own_Ar Z h9 b5 .int ((xs.take k).map Value.int) := by
      rw [hmn, own_tn (by omega), hp, own_tn (by omega)] at A9
      simpa using A9
    show own_Fin _ _ _ _ _ _ _ (T9.setTop (mkF m 31 #[.val (.ref t0), .val (.int p1), .val (.ref b5)] []))
    refine own_go (fun _ kk => XS.aloadN X9.here hx rfl (hb hby d3_31) rfl rfl kk) ?_
    show own_Fin _ _ _ _ _ _ _ (T9.setTop (mkF m 32 #[.val (.ref t0), .val (.int p1), .val (.ref b5)] [(.ref b5)]))
    exact own_retA X9 hx hlk hret rfl rfl (hb hby d3_32) (by decide) (by decide) (by rw [e9]; exact ⟨_, rfl, N9, K9, sz_b5, B9⟩)

theorem own_step0 {xs bs ys : List Int32} {i k : Nat} (hi : i < xs.length) (hf : ys.take k = (xs.take i).filter (own_mk bs)) (hz : List.getD bs (List.getD xs (Int32.ofNat i).toNatClampNeg 0).toNatClampNeg 0 = 0) (hb : i < 2 ^ 31) : ys.take k = (xs.take (i + 1)).filter (own_mk bs) := by
  rw [own_tn hb] at hz
  have e : List.getD xs i 0 = xs[i] := by simp [List.getD_eq_getElem?_getD, hi]
  rw [e] at hz
  rw [List.take_succ_eq_append_getElem hi, List.filter_append, ← hf]
  have q : own_mk bs xs[i] = false := decide_eq_false (fun h => h hz)
  simp [q]
theorem own_step1 {xs bs ys : List Int32} {i k : Nat} (hi : i < xs.length) (hk : k < ys.length) (hf : ys.take k = (xs.take i).filter (own_mk bs)) (hz : ¬ List.getD bs (List.getD xs (Int32.ofNat i).toNatClampNeg 0).toNatClampNeg 0 = 0) (hb : i < 2 ^ 31 ∧ k < 2 ^ 31) : (List.set ys (Int32.ofNat k).toNatClampNeg (List.getD xs (Int32.ofNat i).toNatClampNeg 0)).take (k + 1) = (xs.take (i + 1)).filter (own_mk bs) := by
  rw [own_tn hb.1] at hz ⊢
  rw [own_tn hb.2]
  have e : List.getD xs i 0 = xs[i] := by simp [List.getD_eq_getElem?_getD, hi]
  rw [e] at hz ⊢
  rw [List.take_succ_eq_append_getElem (by simpa using hk), List.take_succ_eq_append_getElem hi, List.filter_append, ← hf]
  have t : (ys.set k xs[i]).take k = ys.take k := by simp [List.take_set_of_le]
  rw [t]
  have q : own_mk bs xs[i] = true := decide_eq_true hz
  simp [q]
theorem own_done {Z : State} {h : Heap} {r : Addr} {xs bs ys : List Int32} {i k : Nat} (A : own_Ar Z h r .int ((ys.take k).map Value.int)) (hf : ys.take k = (xs.take i).filter (own_mk bs)) (hi : xs.length ≤ i) : own_Ar Z h r .int ((xs.filter (own_mk bs)).map Value.int) := by
  rw [hf, List.take_of_length_le hi] at A; exact A

theorem d2_0 : decode prog_22_method_20_code 0 = .ok (.aload_n 0, 1) := by decide +kernel
theorem d2_1 : decode prog_22_method_20_code 1 = .ok (.arraylength, 1) := by decide +kernel
theorem d2_2 : decode prog_22_method_20_code 2 = .ok (.newarray .int, 2) := by decide +kernel
theorem d2_4 : decode prog_22_method_20_code 4 = .ok (.astore_n 2, 1) := by decide +kernel
theorem d2_5 : decode prog_22_method_20_code 5 = .ok (.iconst 0, 1) := by decide +kernel
theorem d2_6 : decode prog_22_method_20_code 6 = .ok (.istore_n 3, 1) := by decide +kernel
theorem d2_7 : decode prog_22_method_20_code 7 = .ok (.aload_n 0, 1) := by decide +kernel
theorem d2_8 : decode prog_22_method_20_code 8 = .ok (.astore 4, 2) := by decide +kernel
theorem d2_10 : decode prog_22_method_20_code 10 = .ok (.aload 4, 2) := by decide +kernel
theorem d2_12 : decode prog_22_method_20_code 12 = .ok (.arraylength, 1) := by decide +kernel
theorem d2_13 : decode prog_22_method_20_code 13 = .ok (.istore 5, 2) := by decide +kernel
theorem d2_15 : decode prog_22_method_20_code 15 = .ok (.iconst 0, 1) := by decide +kernel
theorem d2_16 : decode prog_22_method_20_code 16 = .ok (.istore 6, 2) := by decide +kernel
theorem d2_18 : decode prog_22_method_20_code 18 = .ok (.iload 6, 2) := by decide +kernel
theorem d2_20 : decode prog_22_method_20_code 20 = .ok (.iload 5, 2) := by decide +kernel
theorem d2_22 : decode prog_22_method_20_code 22 = .ok (.if_icmp .ge 31, 3) := by decide +kernel
theorem d2_25 : decode prog_22_method_20_code 25 = .ok (.aload 4, 2) := by decide +kernel
theorem d2_27 : decode prog_22_method_20_code 27 = .ok (.iload 6, 2) := by decide +kernel
theorem d2_29 : decode prog_22_method_20_code 29 = .ok (.iaload, 1) := by decide +kernel
theorem d2_30 : decode prog_22_method_20_code 30 = .ok (.istore 7, 2) := by decide +kernel
theorem d2_32 : decode prog_22_method_20_code 32 = .ok (.aload_n 1, 1) := by decide +kernel
theorem d2_33 : decode prog_22_method_20_code 33 = .ok (.iload 7, 2) := by decide +kernel
theorem d2_35 : decode prog_22_method_20_code 35 = .ok (.baload, 1) := by decide +kernel
theorem d2_36 : decode prog_22_method_20_code 36 = .ok (.ifCond .eq 11, 3) := by decide +kernel
theorem d2_39 : decode prog_22_method_20_code 39 = .ok (.aload_n 2, 1) := by decide +kernel
theorem d2_40 : decode prog_22_method_20_code 40 = .ok (.iload_n 3, 1) := by decide +kernel
theorem d2_41 : decode prog_22_method_20_code 41 = .ok (.iinc 3 1, 3) := by decide +kernel
theorem d2_44 : decode prog_22_method_20_code 44 = .ok (.iload 7, 2) := by decide +kernel
theorem d2_46 : decode prog_22_method_20_code 46 = .ok (.iastore, 1) := by decide +kernel
theorem d2_47 : decode prog_22_method_20_code 47 = .ok (.iinc 6 1, 3) := by decide +kernel
theorem d2_50 : decode prog_22_method_20_code 50 = .ok (.goto (-32), 3) := by decide +kernel
theorem d2_53 : decode prog_22_method_20_code 53 = .ok (.aload_n 2, 1) := by decide +kernel
theorem d2_54 : decode prog_22_method_20_code 54 = .ok (.iload_n 3, 1) := by decide +kernel
theorem d2_55 : decode prog_22_method_20_code 55 = .ok (.invokestatic 146, 3) := by decide +kernel
theorem d2_58 : decode prog_22_method_20_code 58 = .ok (.areturn, 1) := by decide +kernel
theorem pd_2_0 : parseMethodDescriptor "([II)[I" = some ⟨[(.array .int), .int], some (.array .int)⟩ := by decide +kernel
theorem pn_2 : plainFor (⟨"com/example/conflux/conflux/compose/CatalogueIndex", "marked", "([I[Z)[I"⟩ : MethodName) = true := plainFor_of_name (by show plainName "com/example/conflux/conflux/compose/CatalogueIndex" = true; first | (simp [plainName, overriddenIn]; done) | decide +kernel)
theorem ef_2 (m : MethodId) (x0 : Addr) (x1 : Addr) : entryFrame m #[(.ref x0), (.ref x1)] 8 = mkF m 0 #[.val (.ref x0), .val (.ref x1), .unset, .unset, .unset, .unset, .unset, .unset] [] := by first | (simp [entryFrame, mkF, argsToLocals, Value.category]; done) | rfl
set_option maxRecDepth 65536 in
set_option maxHeartbeats 40000000 in
theorem rm2 (l : Launch) (Z : State) (a0 : Array Value) (hw : ∀ d ∈ tables_1, d.before a0 Z = true) (t0 : Addr) (t1 : Addr) (h0 : Heap) (n0 : Nat) (Z0 : n0 ≤ h0.size) (xs bs : List Int32) (V0 : own_Ar Z h0 t0 .int (xs.map Value.int)) (V1 : own_Ar Z h0 t1 .boolean (bs.map Value.int)) (h4 : xs.length ≤ 4) (hr : ∀ x ∈ xs, ¬ x < 0 ∧ x.toNatClampNeg < bs.length) :
    own_Met l (⟨"com/example/conflux/conflux/compose/CatalogueIndex", "marked", "([I[Z)[I"⟩ : MethodName) prog_22_method_20_code 8 (some (.array .int)) ({ frames := 2, cells := 2, slots := 8, locals := 44 } : Room) Z [] #[(.ref t0), (.ref t1)] h0 (own_QC Z (xs.filter (own_mk bs)) h0 n0) := by
  refine own_enter pn_2 ?_
  intro p e s m below meth c s₁ hx hby hml hown hnm hret hlk hZ e0 X0
  rw [ef_2]
  have N0 := Fr.nil n0
  show own_Fin _ _ _ _ _ _ _ (s₁.setTop (mkF m 0 #[.val (.ref t0), .val (.ref t1), .unset, .unset, .unset, .unset, .unset, .unset] []))
  refine own_go (fun _ kk => XS.aloadN X0.here hx rfl (hb hby d2_0) rfl rfl kk) ?_
  show own_Fin _ _ _ _ _ _ _ (s₁.setTop (mkF m 1 #[.val (.ref t0), .val (.ref t1), .unset, .unset, .unset, .unset, .unset, .unset] [(.ref t0)]))
  refine own_alen X0 hx hZ e0 V0 (hb hby d2_1) ?_
  rw [List.length_map]
  show own_Fin _ _ _ _ _ _ _ (s₁.setTop (mkF m 2 #[.val (.ref t0), .val (.ref t1), .unset, .unset, .unset, .unset, .unset, .unset] [(.int (Int32.ofNat (xs).length))]))
  refine own_newI X0 hx hZ (hw _ (List.mem_of_getElem? (i := 5) rfl)) e0 (hb hby d2_2) (own_nn (by omega)) (cap := 4) (by rw [own_tn (by omega)]; exact h4) (by decide) (by decide) (by decide) ?_
  intro T1 h1 b1 g1 X1 e1 E1 A1 D1
  have g_b1 : n0 ≤ b1 := Nat.le_trans Z0 (Nat.le_of_eq g1.symm)
  have ne_t0_b1 : t0 ≠ b1 := Nat.ne_of_lt (Nat.lt_of_lt_of_le V0.lt (Nat.le_of_eq g1.symm))
  have ne_t1_b1 : t1 ≠ b1 := Nat.ne_of_lt (Nat.lt_of_lt_of_le V1.lt (Nat.le_of_eq g1.symm))
  have f2 := V0.ext E1
  have f3 := V1.ext E1
  have Z1 := Nat.le_trans Z0 E1.1
  have sz_b1 : h0.size ≤ b1 := Nat.le_trans (Keep.refl h0 []).1 (Nat.le_of_eq g1.symm)
  have K1 := (Keep.refl h0 []).ext E1
  show own_Fin _ _ _ _ _ _ _ (T1.setTop (mkF m 4 #[.val (.ref t0), .val (.ref t1), .unset, .unset, .unset, .unset, .unset, .unset] [(.ref b1)]))
  refine own_go (fun _ kk => XS.astoreN X1.here hx rfl (hb hby d2_4) rfl rfl (l' := #[.val (.ref t0), .val (.ref t1), .val (.ref b1), .unset, .unset, .unset, .unset, .unset]) rfl (XS.iconst X1.here hx rfl (hb hby d2_5) (XS.istoreN X1.here hx rfl (hb hby d2_6) rfl (l' := #[.val (.ref t0), .val (.ref t1), .val (.ref b1), .val (.int (0 : Int32)), .unset, .unset, .unset, .unset]) rfl (XS.aloadN X1.here hx rfl (hb hby d2_7) rfl rfl (XS.astore X1.here hx rfl (hb hby d2_8) rfl rfl (l' := #[.val (.ref t0), .val (.ref t1), .val (.ref b1), .val (.int (0 : Int32)), .val (.ref t0), .unset, .unset, .unset]) rfl (XS.aload X1.here hx rfl (hb hby d2_10) rfl rfl kk)))))) ?_
  show own_Fin _ _ _ _ _ _ _ (T1.setTop (mkF m 12 #[.val (.ref t0), .val (.ref t1), .val (.ref b1), .val (.int (0 : Int32)), .val (.ref t0), .unset, .unset, .unset] [(.ref t0)]))
  refine own_alen X1 hx hZ e1 f2 (hb hby d2_12) ?_
  rw [List.length_map]
  show own_Fin _ _ _ _ _ _ _ (T1.setTop (mkF m 13 #[.val (.ref t0), .val (.ref t1), .val (.ref b1), .val (.int (0 : Int32)), .val (.ref t0), .unset, .unset, .unset] [(.int (Int32.ofNat (xs).length))]))
  refine own_go (fun _ kk => XS.istore X1.here hx rfl (hb hby d2_13) rfl (l' := #[.val (.ref t0), .val (.ref t1), .val (.ref b1), .val (.int (0 : Int32)), .val (.ref t0), .val (.int (Int32.ofNat (xs).length)), .unset, .unset]) rfl (XS.iconst X1.here hx rfl (hb hby d2_15) (XS.istore X1.here hx rfl (hb hby d2_16) rfl (l' := #[.val (.ref t0), .val (.ref t1), .val (.ref b1), .val (.int (0 : Int32)), .val (.ref t0), .val (.int (Int32.ofNat (xs).length)), .val (.int (0 : Int32)), .unset]) rfl kk))) ?_
  show own_Fin _ _ _ _ _ _ _ (T1.setTop (mkF m 18 #[.val (.ref t0), .val (.ref t1), .val (.ref b1), .val (.int (0 : Int32)), .val (.ref t0), .val (.int (Int32.ofNat (xs).length)), .val (.int (0 : Int32)), .unset] []))
  have L18 : ∀ (mm : Nat) (TL18 : State) (hL18 : Heap) (locsL18 : List Loc) (i : Nat) (k : Nat) (ys : List Int32) (s7 : Slot), xs.length - i = mm → (i ≤ xs.length) → (ys.length = xs.length) → (k ≤ i) → (ys.take k = (xs.take i).filter (own_mk bs)) → (s7 = .unset ∨ ∃ w, s7 = .val w ∧ w.category = 1) → Stand p l e ({ frames := 2, cells := 2, slots := 8, locals := 44 } : Room) s m #[(.ref t0), (.ref t1)] below meth c TL18 locsL18 1 4 → Fr n0 locsL18 → TL18.heap = hL18 → Keep h0 hL18 [] → n0 ≤ hL18.size → own_Ar Z hL18 b1 .int (ys.map Value.int) → own_Ar Z hL18 t0 .int (xs.map Value.int) → own_Ar Z hL18 t1 .boolean (bs.map Value.int) → Exa Z hL18 b1 "[I" → own_Fin p e below s (own_QC Z (xs.filter (own_mk bs)) h0 n0) ({ frames := 2, cells := 2, slots := 8, locals := 44 } : Room).cells ({ frames := 2, cells := 2, slots := 8, locals := 44 } : Room).slots (TL18.setTop (mkF m 18 #[.val (.ref t0), .val (.ref t1), .val (.ref b1), .val (.int (Int32.ofNat k)), .val (.ref t0), .val (.int (Int32.ofNat (xs).length)), .val (.int (Int32.ofNat i)), s7] [])) := by
    intro mm
    induction mm using Nat.strongRecOn with
    | _ mm ih =>
    intro TL18 hL18 locsL18 i k ys s7 hmm hi hlen hk hf h_s7 XL18 NL18 eL18 KL18 ZL18 Ab At0 At1 Eb
    refine own_go (fun _ kk => XS.iload XL18.here hx rfl (hb hby d2_18) rfl (XS.iload XL18.here hx rfl (hb hby d2_20) rfl kk)) ?_
    show own_Fin _ _ _ _ _ _ _ (TL18.setTop (mkF m 22 #[.val (.ref t0), .val (.ref t1), .val (.ref b1), .val (.int (Int32.ofNat k)), .val (.ref t0), .val (.int (Int32.ofNat (xs).length)), .val (.int (Int32.ofNat i)), s7] [(.int (Int32.ofNat (xs).length)), (.int (Int32.ofNat i))]))
    by_cases hc22 : (Int32.ofNat i) < (Int32.ofNat (xs).length)
    · refine own_go (fun _ kk => XS.icmpNo XL18.here hx rfl (hb hby d2_22) rfl (XT.ii_ge_f hc22) kk) ?_
      show own_Fin _ _ _ _ _ _ _ (TL18.setTop (mkF m 25 #[.val (.ref t0), .val (.ref t1), .val (.ref b1), .val (.int (Int32.ofNat k)), .val (.ref t0), .val (.int (Int32.ofNat (xs).length)), .val (.int (Int32.ofNat i)), s7] []))
      have hi' : i < xs.length := (own_ltN _ _ (by omega) (by omega)).mp hc22
      have hmem : (List.getD xs (Int32.ofNat i).toNatClampNeg 0) ∈ xs := by rw [own_tn (by omega)]; simp [List.getD_eq_getElem?_getD, hi']
      refine own_go (fun _ kk => XS.aload XL18.here hx rfl (hb hby d2_25) rfl rfl (XS.iload XL18.here hx rfl (hb hby d2_27) rfl kk)) ?_
      show own_Fin _ _ _ _ _ _ _ (TL18.setTop (mkF m 29 #[.val (.ref t0), .val (.ref t1), .val (.ref b1), .val (.int (Int32.ofNat k)), .val (.ref t0), .val (.int (Int32.ofNat (xs).length)), .val (.int (Int32.ofNat i)), s7] [(.int (Int32.ofNat i)), (.ref t0)]))
      refine own_ldI XL18 hx hZ eL18 At0 (own_nn (by omega)) (by rw [own_tn (by omega)]; exact hi') (hb hby d2_29) ?_
      show own_Fin _ _ _ _ _ _ _ (TL18.setTop (mkF m 30 #[.val (.ref t0), .val (.ref t1), .val (.ref b1), .val (.int (Int32.ofNat k)), .val (.ref t0), .val (.int (Int32.ofNat (xs).length)), .val (.int (Int32.ofNat i)), s7] [(.int (List.getD xs ((Int32.ofNat i)).toNatClampNeg 0))]))
      refine own_go (fun _ kk => XS.istoreS XL18.here hx rfl (hb hby d2_30) rfl rfl h_s7 (XS.aloadN XL18.here hx rfl (hb hby d2_32) rfl rfl (XS.iload XL18.here hx rfl (hb hby d2_33) rfl kk))) ?_
      show own_Fin _ _ _ _ _ _ _ (TL18.setTop (mkF m 35 #[.val (.ref t0), .val (.ref t1), .val (.ref b1), .val (.int (Int32.ofNat k)), .val (.ref t0), .val (.int (Int32.ofNat (xs).length)), .val (.int (Int32.ofNat i)), .val (.int (List.getD xs ((Int32.ofNat i)).toNatClampNeg 0))] [(.int (List.getD xs ((Int32.ofNat i)).toNatClampNeg 0)), (.ref t1)]))
      refine own_ldZ XL18 hx hZ eL18 At1 (hr _ hmem).1 (hr _ hmem).2 (hb hby d2_35) ?_
      show own_Fin _ _ _ _ _ _ _ (TL18.setTop (mkF m 36 #[.val (.ref t0), .val (.ref t1), .val (.ref b1), .val (.int (Int32.ofNat k)), .val (.ref t0), .val (.int (Int32.ofNat (xs).length)), .val (.int (Int32.ofNat i)), .val (.int (List.getD xs ((Int32.ofNat i)).toNatClampNeg 0))] [(.int (List.getD bs ((List.getD xs ((Int32.ofNat i)).toNatClampNeg 0)).toNatClampNeg 0))]))
      by_cases hc36 : (List.getD bs ((List.getD xs ((Int32.ofNat i)).toNatClampNeg 0)).toNatClampNeg 0) = 0
      · refine own_go (fun _ kk => XS.ifYes XL18.here hx rfl (pc0 := 36) (pc' := 47) rfl (hb hby d2_36) rfl (XT.i0_eq_t hc36) (by decide) (by decide) (XS.iinc XL18.here hx rfl (hb hby d2_47) rfl (l' := #[.val (.ref t0), .val (.ref t1), .val (.ref b1), .val (.int (Int32.ofNat k)), .val (.ref t0), .val (.int (Int32.ofNat (xs).length)), .val (.int ((Int32.ofNat i) + (1 : Int32))), .val (.int (List.getD xs ((Int32.ofNat i)).toNatClampNeg 0))]) rfl (XS.goto XL18.here hx rfl (pc0 := 50) (pc' := 18) rfl (hb hby d2_50) (by decide) (by decide) kk))) ?_
        show own_Fin _ _ _ _ _ _ _ (TL18.setTop (mkF m 18 #[.val (.ref t0), .val (.ref t1), .val (.ref b1), .val (.int (Int32.ofNat k)), .val (.ref t0), .val (.int (Int32.ofNat (xs).length)), .val (.int ((Int32.ofNat i) + (1 : Int32))), .val (.int (List.getD xs ((Int32.ofNat i)).toNatClampNeg 0))] []))
        rw [own_succ i]
        exact ih _ (by omega) TL18 hL18 _ (i + 1) (k) (ys) (.val (.int (List.getD xs (Int32.ofNat i).toNatClampNeg 0))) rfl (by omega) hlen (by omega) (own_step0 hi' hf hc36 (by omega)) (Or.inr ⟨_, rfl, rfl⟩) XL18 NL18 eL18 KL18 ZL18 Ab At0 At1 Eb
      · refine own_go (fun _ kk => XS.ifNo XL18.here hx rfl (hb hby d2_36) rfl (XT.i0_eq_f hc36) (XS.aloadN XL18.here hx rfl (hb hby d2_39) rfl rfl (XS.iloadN XL18.here hx rfl (hb hby d2_40) rfl (XS.iinc XL18.here hx rfl (hb hby d2_41) rfl (l' := #[.val (.ref t0), .val (.ref t1), .val (.ref b1), .val (.int ((Int32.ofNat k) + (1 : Int32))), .val (.ref t0), .val (.int (Int32.ofNat (xs).length)), .val (.int (Int32.ofNat i)), .val (.int (List.getD xs ((Int32.ofNat i)).toNatClampNeg 0))]) rfl (XS.iload XL18.here hx rfl (hb hby d2_44) rfl kk))))) ?_
        show own_Fin _ _ _ _ _ _ _ (TL18.setTop (mkF m 46 #[.val (.ref t0), .val (.ref t1), .val (.ref b1), .val (.int ((Int32.ofNat k) + (1 : Int32))), .val (.ref t0), .val (.int (Int32.ofNat (xs).length)), .val (.int (Int32.ofNat i)), .val (.int (List.getD xs ((Int32.ofNat i)).toNatClampNeg 0))] [(.int (List.getD xs ((Int32.ofNat i)).toNatClampNeg 0)), (.int (Int32.ofNat k)), (.ref b1)]))
        refine own_stI XL18 hx hZ eL18 Ab (own_nn (by omega)) (by rw [own_tn (by omega)]; omega) (hb hby d2_46) ?_
        intro T4 h4 X4 e4 W4 A4
        have f6 := At0.other W4 ne_t0_b1
        have f7 := At1.other W4 ne_t1_b1
        have f8 := Eb.wr W4
        have Z4 := Nat.le_trans ZL18 (Keep.of_wr W4).1
        have K4 := KL18.wr W4 (Or.inr sz_b1)
        have N4 := Fr.snoc X4 NL18 g_b1
        show own_Fin _ _ _ _ _ _ _ (T4.setTop (mkF m 47 #[.val (.ref t0), .val (.ref t1), .val (.ref b1), .val (.int ((Int32.ofNat k) + (1 : Int32))), .val (.ref t0), .val (.int (Int32.ofNat (xs).length)), .val (.int (Int32.ofNat i)), .val (.int (List.getD xs ((Int32.ofNat i)).toNatClampNeg 0))] []))
        refine own_go (fun _ kk => XS.iinc X4.here hx rfl (hb hby d2_47) rfl (l' := #[.val (.ref t0), .val (.ref t1), .val (.ref b1), .val (.int ((Int32.ofNat k) + (1 : Int32))), .val (.ref t0), .val (.int (Int32.ofNat (xs).length)), .val (.int ((Int32.ofNat i) + (1 : Int32))), .val (.int (List.getD xs ((Int32.ofNat i)).toNatClampNeg 0))]) rfl (XS.goto X4.here hx rfl (pc0 := 50) (pc' := 18) rfl (hb hby d2_50) (by decide) (by decide) kk)) ?_
        show own_Fin _ _ _ _ _ _ _ (T4.setTop (mkF m 18 #[.val (.ref t0), .val (.ref t1), .val (.ref b1), .val (.int ((Int32.ofNat k) + (1 : Int32))), .val (.ref t0), .val (.int (Int32.ofNat (xs).length)), .val (.int ((Int32.ofNat i) + (1 : Int32))), .val (.int (List.getD xs ((Int32.ofNat i)).toNatClampNeg 0))] []))
        rw [own_succ i, own_succ k]
        exact ih _ (by omega) T4 h4 _ (i + 1) (k + 1) ((List.set ys ((Int32.ofNat k)).toNatClampNeg (List.getD xs ((Int32.ofNat i)).toNatClampNeg 0))) (.val (.int (List.getD xs (Int32.ofNat i).toNatClampNeg 0))) rfl (by omega) (by rw [List.length_set]; exact hlen) (by omega) (own_step1 hi' (by omega) hf hc36 (by omega)) (Or.inr ⟨_, rfl, rfl⟩) X4 N4 e4 K4 Z4 A4 f6 f7 f8
    · refine own_go (fun _ kk => XS.icmpYes XL18.here hx rfl (pc0 := 22) (pc' := 53) rfl (hb hby d2_22) rfl (XT.ii_ge_t hc22) (by decide) (by decide) kk) ?_
      show own_Fin _ _ _ _ _ _ _ (TL18.setTop (mkF m 53 #[.val (.ref t0), .val (.ref t1), .val (.ref b1), .val (.int (Int32.ofNat k)), .val (.ref t0), .val (.int (Int32.ofNat (xs).length)), .val (.int (Int32.ofNat i)), s7] []))
      have hi' : ¬ i < xs.length := fun q => hc22 ((own_ltN _ _ (by omega) (by omega)).mpr q)
      refine own_go (fun _ kk => XS.aloadN XL18.here hx rfl (hb hby d2_53) rfl rfl (XS.iloadN XL18.here hx rfl (hb hby d2_54) rfl kk)) ?_
      show own_Fin _ _ _ _ _ _ _ (TL18.setTop (mkF m 55 #[.val (.ref t0), .val (.ref t1), .val (.ref b1), .val (.int (Int32.ofNat k)), .val (.ref t0), .val (.int (Int32.ofNat (xs).length)), .val (.int (Int32.ofNat i)), s7] [(.int (Int32.ofNat k)), (.ref b1)]))
      refine own_callS XL18 hx hZ hown (hw _ (List.mem_of_getElem? (i := 11) rfl)) (hw _ (List.mem_of_getElem? (i := 12) rfl)) (hw _ (List.mem_of_getElem? (i := 13) rfl)) (hw _ (List.mem_of_getElem? (i := 14) rfl)) (by decide) (rm3 l Z a0 hw b1 (Int32.ofNat k) hL18 n0 ZL18 ys k Ab Eb (by omega) (by omega) rfl) eL18 (argsL := [(.ref b1), (.int (Int32.ofNat k))]) (rest := []) rfl rfl (by rw [hml]; rfl) (lenOf pd_2_0 rfl) (hb hby d2_55) (W := 0) (Nat.le_of_eq rfl) (by decide) (by decide) (by decide) (by decide) ?_
      rintro v9 T9 L9 X9 ⟨r9, rfl, M9, Kc9, sz9, A9⟩
      have N9 := Fr.app NL18 M9
      have f10 := Ab.keep Kc9 nin0
      have f11 := At0.keep Kc9 nin0
      have f12 := At1.keep Kc9 nin0
      have f13 := Eb.keep Kc9
      have Z9 := Nat.le_trans ZL18 Kc9.1
      have K9 := KL18.trans Kc9 all0
      show own_Fin _ _ _ _ _ _ _ (T9.setTop (mkF m 58 #[.val (.ref t0), .val (.ref t1), .val (.ref b1), .val (.int (Int32.ofNat k)), .val (.ref t0), .val (.int (Int32.ofNat (xs).length)), .val (.int (Int32.ofNat i)), s7] [(.ref r9)]))
      exact own_retA X9 hx hlk hret rfl rfl (hb hby d2_58) (by decide) (by decide) ⟨_, rfl, N9, K9, Nat.le_trans KL18.1 sz9, own_done A9 hf (by omega)⟩
  exact L18 _ T1 h1 _ (0) (0) (List.replicate (Int32.ofNat xs.length).toNatClampNeg 0) (.unset) rfl (Nat.zero_le _) (by rw [List.length_replicate, own_tn (by omega)]) (Nat.le_refl 0) rfl (Or.inl rfl) X1 N0 e1 K1 Z1 A1 f2 f3 D1

theorem own_m31 (a : Int32) : (a &&& (2147483647 : Int32)).toInt = a.toInt % 2147483648 := Jvm.Kit.i32_mask a 2147483647 (k := 31) (by decide) (by decide)
theorem own_five {p n : Int32} (h : (p &&& (2147483647 : Int32)) % (5 : Int32) = n) (h0 : ¬ n = 0) (h1 : ¬ n = (1 : Int32)) (h2 : ¬ n = (2 : Int32)) (h3 : ¬ n = (3 : Int32)) : n = (4 : Int32) := by
  have e : ((p &&& (2147483647 : Int32)) % (5 : Int32)).toInt = (p.toInt % 2147483648) % 5 := by
    rw [Jvm.Kit.i32_rem_nonneg (by rw [own_m31]; omega), own_m31]; rfl
  rw [h] at e
  rw [← Int32.toInt_inj] at h0 h1 h2 h3 ⊢
  simp only [Int32.reduceToInt] at h0 h1 h2 h3 ⊢
  omega
theorem own_rg (p i : Int32) : ¬ own_f1 p i < 0 ∧ (own_f1 p i).toNatClampNeg < 8 := by
  unfold own_f1
  generalize (p.toUInt32 >>> _).toInt32 = q
  have e : (q &&& (7 : Int32)).toInt = q.toInt % 8 := Jvm.Kit.i32_mask q 7 (k := 3) (by decide) (by decide)
  constructor
  · rw [Int32.lt_iff_toInt_lt, e]
    have : (0 : Int32).toInt = 0 := by decide
    omega
  · simp only [Int32.toNatClampNeg, e]; omega
def own_Q0 (n0 : Nat) (v : Option Value) (h : Heap) (L : List Loc) : Prop := v = some (.int 1) ∧ Fr n0 L

theorem pd_0_0 : parseMethodDescriptor "(II)I" = some ⟨[.int, .int], some .int⟩ := by decide +kernel
theorem pd_0_1 : parseMethodDescriptor "([I[Z)[I" = some ⟨[(.array .int), (.array .boolean)], some (.array .int)⟩ := by decide +kernel
theorem pn_0 : plainFor x = true := plainFor_of_name (by show plainName "com/example/conflux/conflux/compose/CatalogueIndexMarkedPinLaw" = true; first | (simp [plainName, overriddenIn]; done) | decide +kernel)
theorem ef_0 (m : MethodId) (x0 : Int32) (x1 : Int32) (x2 : Int32) : entryFrame m #[(.int x0), (.int x1), (.int x2)] maxLocals = mkF m 0 #[.val (.int x0), .val (.int x1), .val (.int x2), .unset, .unset, .unset, .unset, .unset, .unset, .unset, .unset, .unset, .unset] [] := by first | (simp [entryFrame, mkF, argsToLocals, Value.category, maxLocals]; done) | rfl
set_option maxRecDepth 65536 in
set_option maxHeartbeats 40000000 in
theorem rm0 (l : Launch) (Z : State) (a0 : Array Value) (hw : ∀ d ∈ tables_1, d.before a0 Z = true) (p0 : Int32) (p1 : Int32) (p2 : Int32) (h0 : Heap) (n0 : Nat) (Z0 : n0 ≤ h0.size) :
    own_Met l x code maxLocals ret room_1 Z tables_1 #[(.int p0), (.int p1), (.int p2)] h0 (own_Q0 n0) := by
  refine own_enter pn_0 ?_
  intro p e s m below meth c s₁ hx hby hml hown hnm hret hlk hZ e0 X0
  rw [ef_0]
  have N0 := Fr.nil n0
  have hml : c.maxLocals = 13 := hml
  show own_Fin _ _ _ _ _ _ _ (s₁.setTop (mkF m 0 #[.val (.int p0), .val (.int p1), .val (.int p2), .unset, .unset, .unset, .unset, .unset, .unset, .unset, .unset, .unset, .unset] []))
  refine own_go (fun _ kk => XS.iloadN X0.here hx rfl (hb hby at_0) rfl (X0.ldcI hx hown (mvT hZ (hw _ (List.mem_of_getElem? (i := 0) rfl))) rfl (hb hby at_1) (XS.iand X0.here hx rfl (hb hby at_3) rfl (XS.iconst X0.here hx rfl (hb hby at_4) (iremM X0 hx rfl (hb hby at_5) rfl (by decide) (XS.istoreN X0.here hx rfl (hb hby at_6) rfl (l' := #[.val (.int p0), .val (.int p1), .val (.int p2), .val (.int ((p0 &&& (2147483647 : Int32)) % (5 : Int32))), .unset, .unset, .unset, .unset, .unset, .unset, .unset, .unset, .unset]) rfl kk)))))) ?_
  show own_Fin _ _ _ _ _ _ _ (s₁.setTop (mkF m 7 #[.val (.int p0), .val (.int p1), .val (.int p2), .val (.int ((p0 &&& (2147483647 : Int32)) % (5 : Int32))), .unset, .unset, .unset, .unset, .unset, .unset, .unset, .unset, .unset] []))
  generalize hn : ((p0 &&& (2147483647 : Int32)) % (5 : Int32)) = n
  show own_Fin _ _ _ _ _ _ _ (s₁.setTop (mkF m 7 #[.val (.int p0), .val (.int p1), .val (.int p2), .val (.int n), .unset, .unset, .unset, .unset, .unset, .unset, .unset, .unset, .unset] []))
  refine own_go (fun _ kk => XS.iloadN X0.here hx rfl (hb hby at_7) rfl (XS.iconst X0.here hx rfl (hb hby at_8) kk)) ?_
  show own_Fin _ _ _ _ _ _ _ (s₁.setTop (mkF m 9 #[.val (.int p0), .val (.int p1), .val (.int p2), .val (.int n), .unset, .unset, .unset, .unset, .unset, .unset, .unset, .unset, .unset] [(.int (0 : Int32)), (.int p1)]))
  refine own_callS X0 hx hZ hown (hw _ (List.mem_of_getElem? (i := 1) rfl)) (hw _ (List.mem_of_getElem? (i := 2) rfl)) (hw _ (List.mem_of_getElem? (i := 3) rfl)) (hw _ (List.mem_of_getElem? (i := 4) rfl)) (by decide) (rm1 l Z a0 hw p1 (0 : Int32) h0 n0 Z0) e0 (argsL := [(.int p1), (.int (0 : Int32))]) (rest := []) rfl rfl (by rw [hml]; rfl) (lenOf pd_0_0 rfl) (hb hby at_9) (W := 0) (Nat.le_of_eq rfl) (by decide) (by decide) (by decide) (by decide) ?_
  rintro v1 T1 L1 X1 ⟨rfl, M1, e1⟩
  have N1 := Fr.app N0 M1
  show own_Fin _ _ _ _ _ _ _ (T1.setTop (mkF m 12 #[.val (.int p0), .val (.int p1), .val (.int p2), .val (.int n), .unset, .unset, .unset, .unset, .unset, .unset, .unset, .unset, .unset] [(.int (own_f1 p1 (0 : Int32)))]))
  refine own_go (fun _ kk => XS.istore X1.here hx rfl (hb hby at_12) rfl (l' := #[.val (.int p0), .val (.int p1), .val (.int p2), .val (.int n), .val (.int (own_f1 p1 (0 : Int32))), .unset, .unset, .unset, .unset, .unset, .unset, .unset, .unset]) rfl kk) ?_
  show own_Fin _ _ _ _ _ _ _ (T1.setTop (mkF m 14 #[.val (.int p0), .val (.int p1), .val (.int p2), .val (.int n), .val (.int (own_f1 p1 (0 : Int32))), .unset, .unset, .unset, .unset, .unset, .unset, .unset, .unset] []))
  have rxa := own_rg p1 (0 : Int32)
  generalize (own_f1 p1 (0 : Int32)) = xa at rxa ⊢
  show own_Fin _ _ _ _ _ _ _ (T1.setTop (mkF m 14 #[.val (.int p0), .val (.int p1), .val (.int p2), .val (.int n), .val (.int xa), .unset, .unset, .unset, .unset, .unset, .unset, .unset, .unset] []))
  refine own_go (fun _ kk => XS.iloadN X1.here hx rfl (hb hby at_14) rfl (XS.iconst X1.here hx rfl (hb hby at_15) kk)) ?_
  show own_Fin _ _ _ _ _ _ _ (T1.setTop (mkF m 16 #[.val (.int p0), .val (.int p1), .val (.int p2), .val (.int n), .val (.int xa), .unset, .unset, .unset, .unset, .unset, .unset, .unset, .unset] [(.int (1 : Int32)), (.int p1)]))
  refine own_callS X1 hx hZ hown (hw _ (List.mem_of_getElem? (i := 1) rfl)) (hw _ (List.mem_of_getElem? (i := 2) rfl)) (hw _ (List.mem_of_getElem? (i := 3) rfl)) (hw _ (List.mem_of_getElem? (i := 4) rfl)) (by decide) (rm1 l Z a0 hw p1 (1 : Int32) h0 n0 Z0) e1 (argsL := [(.int p1), (.int (1 : Int32))]) (rest := []) rfl rfl (by rw [hml]; rfl) (lenOf pd_0_0 rfl) (hb hby at_16) (W := 0) (Nat.le_of_eq rfl) (by decide) (by decide) (by decide) (by decide) ?_
  rintro v2 T2 L2 X2 ⟨rfl, M2, e2⟩
  have N2 := Fr.app N1 M2
  show own_Fin _ _ _ _ _ _ _ (T2.setTop (mkF m 19 #[.val (.int p0), .val (.int p1), .val (.int p2), .val (.int n), .val (.int xa), .unset, .unset, .unset, .unset, .unset, .unset, .unset, .unset] [(.int (own_f1 p1 (1 : Int32)))]))
  refine own_go (fun _ kk => XS.istore X2.here hx rfl (hb hby at_19) rfl (l' := #[.val (.int p0), .val (.int p1), .val (.int p2), .val (.int n), .val (.int xa), .val (.int (own_f1 p1 (1 : Int32))), .unset, .unset, .unset, .unset, .unset, .unset, .unset]) rfl kk) ?_
  show own_Fin _ _ _ _ _ _ _ (T2.setTop (mkF m 21 #[.val (.int p0), .val (.int p1), .val (.int p2), .val (.int n), .val (.int xa), .val (.int (own_f1 p1 (1 : Int32))), .unset, .unset, .unset, .unset, .unset, .unset, .unset] []))
  have rxb := own_rg p1 (1 : Int32)
  generalize (own_f1 p1 (1 : Int32)) = xb at rxb ⊢
  show own_Fin _ _ _ _ _ _ _ (T2.setTop (mkF m 21 #[.val (.int p0), .val (.int p1), .val (.int p2), .val (.int n), .val (.int xa), .val (.int xb), .unset, .unset, .unset, .unset, .unset, .unset, .unset] []))
  refine own_go (fun _ kk => XS.iloadN X2.here hx rfl (hb hby at_21) rfl (XS.iconst X2.here hx rfl (hb hby at_22) kk)) ?_
  show own_Fin _ _ _ _ _ _ _ (T2.setTop (mkF m 23 #[.val (.int p0), .val (.int p1), .val (.int p2), .val (.int n), .val (.int xa), .val (.int xb), .unset, .unset, .unset, .unset, .unset, .unset, .unset] [(.int (2 : Int32)), (.int p1)]))
  refine own_callS X2 hx hZ hown (hw _ (List.mem_of_getElem? (i := 1) rfl)) (hw _ (List.mem_of_getElem? (i := 2) rfl)) (hw _ (List.mem_of_getElem? (i := 3) rfl)) (hw _ (List.mem_of_getElem? (i := 4) rfl)) (by decide) (rm1 l Z a0 hw p1 (2 : Int32) h0 n0 Z0) e2 (argsL := [(.int p1), (.int (2 : Int32))]) (rest := []) rfl rfl (by rw [hml]; rfl) (lenOf pd_0_0 rfl) (hb hby at_23) (W := 0) (Nat.le_of_eq rfl) (by decide) (by decide) (by decide) (by decide) ?_
  rintro v3 T3 L3 X3 ⟨rfl, M3, e3⟩
  have N3 := Fr.app N2 M3
  show own_Fin _ _ _ _ _ _ _ (T3.setTop (mkF m 26 #[.val (.int p0), .val (.int p1), .val (.int p2), .val (.int n), .val (.int xa), .val (.int xb), .unset, .unset, .unset, .unset, .unset, .unset, .unset] [(.int (own_f1 p1 (2 : Int32)))]))
  refine own_go (fun _ kk => XS.istore X3.here hx rfl (hb hby at_26) rfl (l' := #[.val (.int p0), .val (.int p1), .val (.int p2), .val (.int n), .val (.int xa), .val (.int xb), .val (.int (own_f1 p1 (2 : Int32))), .unset, .unset, .unset, .unset, .unset, .unset]) rfl kk) ?_
  show own_Fin _ _ _ _ _ _ _ (T3.setTop (mkF m 28 #[.val (.int p0), .val (.int p1), .val (.int p2), .val (.int n), .val (.int xa), .val (.int xb), .val (.int (own_f1 p1 (2 : Int32))), .unset, .unset, .unset, .unset, .unset, .unset] []))
  have rxc := own_rg p1 (2 : Int32)
  generalize (own_f1 p1 (2 : Int32)) = xc at rxc ⊢
  show own_Fin _ _ _ _ _ _ _ (T3.setTop (mkF m 28 #[.val (.int p0), .val (.int p1), .val (.int p2), .val (.int n), .val (.int xa), .val (.int xb), .val (.int xc), .unset, .unset, .unset, .unset, .unset, .unset] []))
  refine own_go (fun _ kk => XS.iloadN X3.here hx rfl (hb hby at_28) rfl (XS.iconst X3.here hx rfl (hb hby at_29) kk)) ?_
  show own_Fin _ _ _ _ _ _ _ (T3.setTop (mkF m 30 #[.val (.int p0), .val (.int p1), .val (.int p2), .val (.int n), .val (.int xa), .val (.int xb), .val (.int xc), .unset, .unset, .unset, .unset, .unset, .unset] [(.int (3 : Int32)), (.int p1)]))
  refine own_callS X3 hx hZ hown (hw _ (List.mem_of_getElem? (i := 1) rfl)) (hw _ (List.mem_of_getElem? (i := 2) rfl)) (hw _ (List.mem_of_getElem? (i := 3) rfl)) (hw _ (List.mem_of_getElem? (i := 4) rfl)) (by decide) (rm1 l Z a0 hw p1 (3 : Int32) h0 n0 Z0) e3 (argsL := [(.int p1), (.int (3 : Int32))]) (rest := []) rfl rfl (by rw [hml]; rfl) (lenOf pd_0_0 rfl) (hb hby at_30) (W := 0) (Nat.le_of_eq rfl) (by decide) (by decide) (by decide) (by decide) ?_
  rintro v4 T4 L4 X4 ⟨rfl, M4, e4⟩
  have N4 := Fr.app N3 M4
  show own_Fin _ _ _ _ _ _ _ (T4.setTop (mkF m 33 #[.val (.int p0), .val (.int p1), .val (.int p2), .val (.int n), .val (.int xa), .val (.int xb), .val (.int xc), .unset, .unset, .unset, .unset, .unset, .unset] [(.int (own_f1 p1 (3 : Int32)))]))
  refine own_go (fun _ kk => XS.istore X4.here hx rfl (hb hby at_33) rfl (l' := #[.val (.int p0), .val (.int p1), .val (.int p2), .val (.int n), .val (.int xa), .val (.int xb), .val (.int xc), .val (.int (own_f1 p1 (3 : Int32))), .unset, .unset, .unset, .unset, .unset]) rfl kk) ?_
  show own_Fin _ _ _ _ _ _ _ (T4.setTop (mkF m 35 #[.val (.int p0), .val (.int p1), .val (.int p2), .val (.int n), .val (.int xa), .val (.int xb), .val (.int xc), .val (.int (own_f1 p1 (3 : Int32))), .unset, .unset, .unset, .unset, .unset] []))
  have rxd := own_rg p1 (3 : Int32)
  generalize (own_f1 p1 (3 : Int32)) = xd at rxd ⊢
  show own_Fin _ _ _ _ _ _ _ (T4.setTop (mkF m 35 #[.val (.int p0), .val (.int p1), .val (.int p2), .val (.int n), .val (.int xa), .val (.int xb), .val (.int xc), .val (.int xd), .unset, .unset, .unset, .unset, .unset] []))
  refine own_go (fun _ kk => XS.iloadN X4.here hx rfl (hb hby at_35) rfl kk) ?_
  show own_Fin _ _ _ _ _ _ _ (T4.setTop (mkF m 36 #[.val (.int p0), .val (.int p1), .val (.int p2), .val (.int n), .val (.int xa), .val (.int xb), .val (.int xc), .val (.int xd), .unset, .unset, .unset, .unset, .unset] [(.int n)]))
  by_cases hc36 : n = 0
  · refine own_go (fun _ kk => XS.ifNo X4.here hx rfl (hb hby at_36) rfl (XT.i0_ne_f hc36) kk) ?_
    show own_Fin _ _ _ _ _ _ _ (T4.setTop (mkF m 39 #[.val (.int p0), .val (.int p1), .val (.int p2), .val (.int n), .val (.int xa), .val (.int xb), .val (.int xc), .val (.int xd), .unset, .unset, .unset, .unset, .unset] []))
    subst hc36
    show own_Fin _ _ _ _ _ _ _ (T4.setTop (mkF m 39 #[.val (.int p0), .val (.int p1), .val (.int p2), .val (.int (0 : Int32)), .val (.int xa), .val (.int xb), .val (.int xc), .val (.int xd), .unset, .unset, .unset, .unset, .unset] []))
    refine own_go (fun _ kk => XS.iconst X4.here hx rfl (hb hby at_39) kk) ?_
    show own_Fin _ _ _ _ _ _ _ (T4.setTop (mkF m 40 #[.val (.int p0), .val (.int p1), .val (.int p2), .val (.int (0 : Int32)), .val (.int xa), .val (.int xb), .val (.int xc), .val (.int xd), .unset, .unset, .unset, .unset, .unset] [(.int (0 : Int32))]))
    refine own_newI X4 hx hZ (hw _ (List.mem_of_getElem? (i := 5) rfl)) e4 (hb hby at_40) (by decide) (cap := 0) (by decide) (by decide) (by decide) (by decide) ?_
    intro T5 h5 b5 g5 X5 e5 E5 A5 D5
    have g_b5 : n0 ≤ b5 := Nat.le_trans Z0 (Nat.le_of_eq g5.symm)
    have Z5 := Nat.le_trans Z0 E5.1
    have A5 : own_Ar Z h5 b5 .int (List.map Value.int []) := A5
    show own_Fin _ _ _ _ _ _ _ (T5.setTop (mkF m 42 #[.val (.int p0), .val (.int p1), .val (.int p2), .val (.int (0 : Int32)), .val (.int xa), .val (.int xb), .val (.int xc), .val (.int xd), .unset, .unset, .unset, .unset, .unset] [(.ref b5)]))
    refine own_go (fun _ kk => XS.astore X5.here hx rfl (hb hby at_42) rfl rfl (l' := #[.val (.int p0), .val (.int p1), .val (.int p2), .val (.int (0 : Int32)), .val (.int xa), .val (.int xb), .val (.int xc), .val (.int xd), .val (.ref b5), .unset, .unset, .unset, .unset]) rfl (XS.goto X5.here hx rfl (pc0 := 44) (pc' := 141) rfl (hb hby at_44) (by decide) (by decide) (XS.bipush X5.here hx rfl (hb hby at_141) kk))) ?_
    show own_Fin _ _ _ _ _ _ _ (T5.setTop (mkF m 143 #[.val (.int p0), .val (.int p1), .val (.int p2), .val (.int (0 : Int32)), .val (.int xa), .val (.int xb), .val (.int xc), .val (.int xd), .val (.ref b5), .unset, .unset, .unset, .unset] [(.int (8 : Int32))]))
    refine own_newZ X5 hx hZ (hw _ (List.mem_of_getElem? (i := 6) rfl)) e5 (hb hby at_143) (by decide) (cap := 8) (by decide) (by decide) (by decide) (by decide) ?_
    intro T6 h6 b6 g6 X6 e6 E6 A6 D6
    have g_b6 : n0 ≤ b6 := Nat.le_trans Z5 (Nat.le_of_eq g6.symm)
    have ne_b5_b6 : b5 ≠ b6 := Nat.ne_of_lt (Nat.lt_of_lt_of_le A5.lt (Nat.le_of_eq g6.symm))
    have f7 := A5.ext E6
    have f8 := D5.ext E6
    have Z6 := Nat.le_trans Z5 E6.1
    have A6 : own_Ar Z h6 b6 .boolean (List.map Value.int [(0 : Int32), (0 : Int32), (0 : Int32), (0 : Int32), (0 : Int32), (0 : Int32), (0 : Int32), (0 : Int32)]) := A6
    show own_Fin _ _ _ _ _ _ _ (T6.setTop (mkF m 145 #[.val (.int p0), .val (.int p1), .val (.int p2), .val (.int (0 : Int32)), .val (.int xa), .val (.int xb), .val (.int xc), .val (.int xd), .val (.ref b5), .unset, .unset, .unset, .unset] [(.ref b6)]))
    refine own_go (fun _ kk => XS.astore X6.here hx rfl (hb hby at_145) rfl rfl (l' := #[.val (.int p0), .val (.int p1), .val (.int p2), .val (.int (0 : Int32)), .val (.int xa), .val (.int xb), .val (.int xc), .val (.int xd), .val (.ref b5), .val (.ref b6), .unset, .unset, .unset]) rfl (XS.aload X6.here hx rfl (hb hby at_147) rfl rfl (XS.iconst X6.here hx rfl (hb hby at_149) (XS.iloadN X6.here hx rfl (hb hby at_150) rfl (XS.iconst X6.here hx rfl (hb hby at_151) (XS.iand X6.here hx rfl (hb hby at_152) rfl kk)))))) ?_
    show own_Fin _ _ _ _ _ _ _ (T6.setTop (mkF m 153 #[.val (.int p0), .val (.int p1), .val (.int p2), .val (.int (0 : Int32)), .val (.int xa), .val (.int xb), .val (.int xc), .val (.int xd), .val (.ref b5), .val (.ref b6), .unset, .unset, .unset] [(.int (p2 &&& (1 : Int32))), (.int (0 : Int32)), (.ref b6)]))
    refine own_go (U' := T6.setTop (mkF m 161 #[.val (.int p0), .val (.int p1), .val (.int p2), .val (.int (0 : Int32)), .val (.int xa), .val (.int xb), .val (.int xc), .val (.int xd), .val (.ref b5), .val (.ref b6), .unset, .unset, .unset] [(.int (if (p2 &&& (1 : Int32)) = 0 then (0 : Int32) else (1 : Int32))), (.int (0 : Int32)), (.ref b6)])) (fun t k => ?_) ?_
    · by_cases hd153 : (p2 &&& (1 : Int32)) = 0
      · simp only [if_pos hd153] at k
        refine XS.ifYes X6.here hx rfl (pc0 := 153) (pc' := 160) rfl (hb hby at_153) rfl (XT.i0_eq_t hd153) (by decide) (by decide) (XS.iconst X6.here hx rfl (hb hby at_160) ?_)
        show Steps p.tables e below (T6.setTop (mkF m 161 #[.val (.int p0), .val (.int p1), .val (.int p2), .val (.int (0 : Int32)), .val (.int xa), .val (.int xb), .val (.int xc), .val (.int xd), .val (.ref b5), .val (.ref b6), .unset, .unset, .unset] [(.int (0 : Int32)), (.int (0 : Int32)), (.ref b6)])) _
        exact k
      · simp only [if_neg hd153] at k
        refine XS.ifNo X6.here hx rfl (hb hby at_153) rfl (XT.i0_eq_f hd153) (XS.iconst X6.here hx rfl (hb hby at_156) (XS.goto X6.here hx rfl (pc0 := 157) (pc' := 161) rfl (hb hby at_157) (by decide) (by decide) ?_))
        show Steps p.tables e below (T6.setTop (mkF m 161 #[.val (.int p0), .val (.int p1), .val (.int p2), .val (.int (0 : Int32)), .val (.int xa), .val (.int xb), .val (.int xc), .val (.int xd), .val (.ref b5), .val (.ref b6), .unset, .unset, .unset] [(.int (1 : Int32)), (.int (0 : Int32)), (.ref b6)])) _
        exact k
    show own_Fin _ _ _ _ _ _ _ (T6.setTop (mkF m 161 #[.val (.int p0), .val (.int p1), .val (.int p2), .val (.int (0 : Int32)), .val (.int xa), .val (.int xb), .val (.int xc), .val (.int xd), .val (.ref b5), .val (.ref b6), .unset, .unset, .unset] [(.int (if (p2 &&& (1 : Int32)) = 0 then (0 : Int32) else (1 : Int32))), (.int (0 : Int32)), (.ref b6)]))
    refine own_stZ X6 hx hZ e6 A6 (by decide) (by show (0 : Int32).toNatClampNeg < 8; decide) (hb hby at_161) (by split <;> rfl) ?_
    intro T9 h9 X9 e9 W9 A9
    have f10 := f7.other W9 ne_b5_b6
    have f11 := f8.wr W9
    have f13 := D6.wr W9
    have Z9 := Nat.le_trans Z6 (Keep.of_wr W9).1
    have A9 : own_Ar Z h9 b6 .boolean (List.map Value.int [(if (p2 &&& (1 : Int32)) = 0 then (0 : Int32) else (1 : Int32)), (0 : Int32), (0 : Int32), (0 : Int32), (0 : Int32), (0 : Int32), (0 : Int32), (0 : Int32)]) := A9
    have N9 := Fr.snoc X9 N4 g_b6
    show own_Fin _ _ _ _ _ _ _ (T9.setTop (mkF m 162 #[.val (.int p0), .val (.int p1), .val (.int p2), .val (.int (0 : Int32)), .val (.int xa), .val (.int xb), .val (.int xc), .val (.int xd), .val (.ref b5), .val (.ref b6), .unset, .unset, .unset] []))
    refine own_go (fun _ kk => XS.aload X9.here hx rfl (hb hby at_162) rfl rfl (XS.iconst X9.here hx rfl (hb hby at_164) (XS.iloadN X9.here hx rfl (hb hby at_165) rfl (XS.iconst X9.here hx rfl (hb hby at_166) (XS.iand X9.here hx rfl (hb hby at_167) rfl kk))))) ?_
    show own_Fin _ _ _ _ _ _ _ (T9.setTop (mkF m 168 #[.val (.int p0), .val (.int p1), .val (.int p2), .val (.int (0 : Int32)), .val (.int xa), .val (.int xb), .val (.int xc), .val (.int xd), .val (.ref b5), .val (.ref b6), .unset, .unset, .unset] [(.int (p2 &&& (2 : Int32))), (.int (1 : Int32)), (.ref b6)]))
    refine own_go (U' := T9.setTop (mkF m 176 #[.val (.int p0), .val (.int p1), .val (.int p2), .val (.int (0 : Int32)), .val (.int xa), .val (.int xb), .val (.int xc), .val (.int xd), .val (.ref b5), .val (.ref b6), .unset, .unset, .unset] [(.int (if (p2 &&& (2 : Int32)) = 0 then (0 : Int32) else (1 : Int32))), (.int (1 : Int32)), (.ref b6)])) (fun t k => ?_) ?_
    · by_cases hd168 : (p2 &&& (2 : Int32)) = 0
      · simp only [if_pos hd168] at k
        refine XS.ifYes X9.here hx rfl (pc0 := 168) (pc' := 175) rfl (hb hby at_168) rfl (XT.i0_eq_t hd168) (by decide) (by decide) (XS.iconst X9.here hx rfl (hb hby at_175) ?_)
        show Steps p.tables e below (T9.setTop (mkF m 176 #[.val (.int p0), .val (.int p1), .val (.int p2), .val (.int (0 : Int32)), .val (.int xa), .val (.int xb), .val (.int xc), .val (.int xd), .val (.ref b5), .val (.ref b6), .unset, .unset, .unset] [(.int (0 : Int32)), (.int (1 : Int32)), (.ref b6)])) _
        exact k
      · simp only [if_neg hd168] at k
        refine XS.ifNo X9.here hx rfl (hb hby at_168) rfl (XT.i0_eq_f hd168) (XS.iconst X9.here hx rfl (hb hby at_171) (XS.goto X9.here hx rfl (pc0 := 172) (pc' := 176) rfl (hb hby at_172) (by decide) (by decide) ?_))
        show Steps p.tables e below (T9.setTop (mkF m 176 #[.val (.int p0), .val (.int p1), .val (.int p2), .val (.int (0 : Int32)), .val (.int xa), .val (.int xb), .val (.int xc), .val (.int xd), .val (.ref b5), .val (.ref b6), .unset, .unset, .unset] [(.int (1 : Int32)), (.int (1 : Int32)), (.ref b6)])) _
        exact k
    show own_Fin _ _ _ _ _ _ _ (T9.setTop (mkF m 176 #[.val (.int p0), .val (.int p1), .val (.int p2), .val (.int (0 : Int32)), .val (.int xa), .val (.int xb), .val (.int xc), .val (.int xd), .val (.ref b5), .val (.ref b6), .unset, .unset, .unset] [(.int (if (p2 &&& (2 : Int32)) = 0 then (0 : Int32) else (1 : Int32))), (.int (1 : Int32)), (.ref b6)]))
    refine own_stZ X9 hx hZ e9 A9 (by decide) (by show (1 : Int32).toNatClampNeg < 8; decide) (hb hby at_176) (by split <;> rfl) ?_
    intro T14 h14 X14 e14 W14 A14
    have f15 := f10.other W14 ne_b5_b6
    have f16 := f11.wr W14
    have f18 := f13.wr W14
    have Z14 := Nat.le_trans Z9 (Keep.of_wr W14).1
    have A14 : own_Ar Z h14 b6 .boolean (List.map Value.int [(if (p2 &&& (1 : Int32)) = 0 then (0 : Int32) else (1 : Int32)), (if (p2 &&& (2 : Int32)) = 0 then (0 : Int32) else (1 : Int32)), (0 : Int32), (0 : Int32), (0 : Int32), (0 : Int32), (0 : Int32), (0 : Int32)]) := A14
    have N14 := Fr.snoc X14 N9 g_b6
    show own_Fin _ _ _ _ _ _ _ (T14.setTop (mkF m 177 #[.val (.int p0), .val (.int p1), .val (.int p2), .val (.int (0 : Int32)), .val (.int xa), .val (.int xb), .val (.int xc), .val (.int xd), .val (.ref b5), .val (.ref b6), .unset, .unset, .unset] []))
    refine own_go (fun _ kk => XS.aload X14.here hx rfl (hb hby at_177) rfl rfl (XS.iconst X14.here hx rfl (hb hby at_179) (XS.iloadN X14.here hx rfl (hb hby at_180) rfl (XS.iconst X14.here hx rfl (hb hby at_181) (XS.iand X14.here hx rfl (hb hby at_182) rfl kk))))) ?_
    show own_Fin _ _ _ _ _ _ _ (T14.setTop (mkF m 183 #[.val (.int p0), .val (.int p1), .val (.int p2), .val (.int (0 : Int32)), .val (.int xa), .val (.int xb), .val (.int xc), .val (.int xd), .val (.ref b5), .val (.ref b6), .unset, .unset, .unset] [(.int (p2 &&& (4 : Int32))), (.int (2 : Int32)), (.ref b6)]))
    refine own_go (U' := T14.setTop (mkF m 191 #[.val (.int p0), .val (.int p1), .val (.int p2), .val (.int (0 : Int32)), .val (.int xa), .val (.int xb), .val (.int xc), .val (.int xd), .val (.ref b5), .val (.ref b6), .unset, .unset, .unset] [(.int (if (p2 &&& (4 : Int32)) = 0 then (0 : Int32) else (1 : Int32))), (.int (2 : Int32)), (.ref b6)])) (fun t k => ?_) ?_
    · by_cases hd183 : (p2 &&& (4 : Int32)) = 0
      · simp only [if_pos hd183] at k
        refine XS.ifYes X14.here hx rfl (pc0 := 183) (pc' := 190) rfl (hb hby at_183) rfl (XT.i0_eq_t hd183) (by decide) (by decide) (XS.iconst X14.here hx rfl (hb hby at_190) ?_)
        show Steps p.tables e below (T14.setTop (mkF m 191 #[.val (.int p0), .val (.int p1), .val (.int p2), .val (.int (0 : Int32)), .val (.int xa), .val (.int xb), .val (.int xc), .val (.int xd), .val (.ref b5), .val (.ref b6), .unset, .unset, .unset] [(.int (0 : Int32)), (.int (2 : Int32)), (.ref b6)])) _
        exact k
      · simp only [if_neg hd183] at k
        refine XS.ifNo X14.here hx rfl (hb hby at_183) rfl (XT.i0_eq_f hd183) (XS.iconst X14.here hx rfl (hb hby at_186) (XS.goto X14.here hx rfl (pc0 := 187) (pc' := 191) rfl (hb hby at_187) (by decide) (by decide) ?_))
        show Steps p.tables e below (T14.setTop (mkF m 191 #[.val (.int p0), .val (.int p1), .val (.int p2), .val (.int (0 : Int32)), .val (.int xa), .val (.int xb), .val (.int xc), .val (.int xd), .val (.ref b5), .val (.ref b6), .unset, .unset, .unset] [(.int (1 : Int32)), (.int (2 : Int32)), (.ref b6)])) _
        exact k
    show own_Fin _ _ _ _ _ _ _ (T14.setTop (mkF m 191 #[.val (.int p0), .val (.int p1), .val (.int p2), .val (.int (0 : Int32)), .val (.int xa), .val (.int xb), .val (.int xc), .val (.int xd), .val (.ref b5), .val (.ref b6), .unset, .unset, .unset] [(.int (if (p2 &&& (4 : Int32)) = 0 then (0 : Int32) else (1 : Int32))), (.int (2 : Int32)), (.ref b6)]))
    refine own_stZ X14 hx hZ e14 A14 (by decide) (by show (2 : Int32).toNatClampNeg < 8; decide) (hb hby at_191) (by split <;> rfl) ?_
    intro T19 h19 X19 e19 W19 A19
    have f20 := f15.other W19 ne_b5_b6
    have f21 := f16.wr W19
    have f23 := f18.wr W19
    have Z19 := Nat.le_trans Z14 (Keep.of_wr W19).1
    have A19 : own_Ar Z h19 b6 .boolean (List.map Value.int [(if (p2 &&& (1 : Int32)) = 0 then (0 : Int32) else (1 : Int32)), (if (p2 &&& (2 : Int32)) = 0 then (0 : Int32) else (1 : Int32)), (if (p2 &&& (4 : Int32)) = 0 then (0 : Int32) else (1 : Int32)), (0 : Int32), (0 : Int32), (0 : Int32), (0 : Int32), (0 : Int32)]) := A19
    have N19 := Fr.snoc X19 N14 g_b6
    show own_Fin _ _ _ _ _ _ _ (T19.setTop (mkF m 192 #[.val (.int p0), .val (.int p1), .val (.int p2), .val (.int (0 : Int32)), .val (.int xa), .val (.int xb), .val (.int xc), .val (.int xd), .val (.ref b5), .val (.ref b6), .unset, .unset, .unset] []))
    refine own_go (fun _ kk => XS.aload X19.here hx rfl (hb hby at_192) rfl rfl (XS.iconst X19.here hx rfl (hb hby at_194) (XS.iloadN X19.here hx rfl (hb hby at_195) rfl (XS.bipush X19.here hx rfl (hb hby at_196) (XS.iand X19.here hx rfl (hb hby at_198) rfl kk))))) ?_
    show own_Fin _ _ _ _ _ _ _ (T19.setTop (mkF m 199 #[.val (.int p0), .val (.int p1), .val (.int p2), .val (.int (0 : Int32)), .val (.int xa), .val (.int xb), .val (.int xc), .val (.int xd), .val (.ref b5), .val (.ref b6), .unset, .unset, .unset] [(.int (p2 &&& (8 : Int32))), (.int (3 : Int32)), (.ref b6)]))
    refine own_go (U' := T19.setTop (mkF m 207 #[.val (.int p0), .val (.int p1), .val (.int p2), .val (.int (0 : Int32)), .val (.int xa), .val (.int xb), .val (.int xc), .val (.int xd), .val (.ref b5), .val (.ref b6), .unset, .unset, .unset] [(.int (if (p2 &&& (8 : Int32)) = 0 then (0 : Int32) else (1 : Int32))), (.int (3 : Int32)), (.ref b6)])) (fun t k => ?_) ?_
    · by_cases hd199 : (p2 &&& (8 : Int32)) = 0
      · simp only [if_pos hd199] at k
        refine XS.ifYes X19.here hx rfl (pc0 := 199) (pc' := 206) rfl (hb hby at_199) rfl (XT.i0_eq_t hd199) (by decide) (by decide) (XS.iconst X19.here hx rfl (hb hby at_206) ?_)
        show Steps p.tables e below (T19.setTop (mkF m 207 #[.val (.int p0), .val (.int p1), .val (.int p2), .val (.int (0 : Int32)), .val (.int xa), .val (.int xb), .val (.int xc), .val (.int xd), .val (.ref b5), .val (.ref b6), .unset, .unset, .unset] [(.int (0 : Int32)), (.int (3 : Int32)), (.ref b6)])) _
        exact k
      · simp only [if_neg hd199] at k
        refine XS.ifNo X19.here hx rfl (hb hby at_199) rfl (XT.i0_eq_f hd199) (XS.iconst X19.here hx rfl (hb hby at_202) (XS.goto X19.here hx rfl (pc0 := 203) (pc' := 207) rfl (hb hby at_203) (by decide) (by decide) ?_))
        show Steps p.tables e below (T19.setTop (mkF m 207 #[.val (.int p0), .val (.int p1), .val (.int p2), .val (.int (0 : Int32)), .val (.int xa), .val (.int xb), .val (.int xc), .val (.int xd), .val (.ref b5), .val (.ref b6), .unset, .unset, .unset] [(.int (1 : Int32)), (.int (3 : Int32)), (.ref b6)])) _
        exact k
    show own_Fin _ _ _ _ _ _ _ (T19.setTop (mkF m 207 #[.val (.int p0), .val (.int p1), .val (.int p2), .val (.int (0 : Int32)), .val (.int xa), .val (.int xb), .val (.int xc), .val (.int xd), .val (.ref b5), .val (.ref b6), .unset, .unset, .unset] [(.int (if (p2 &&& (8 : Int32)) = 0 then (0 : Int32) else (1 : Int32))), (.int (3 : Int32)), (.ref b6)]))
    refine own_stZ X19 hx hZ e19 A19 (by decide) (by show (3 : Int32).toNatClampNeg < 8; decide) (hb hby at_207) (by split <;> rfl) ?_
    intro T24 h24 X24 e24 W24 A24
    have f25 := f20.other W24 ne_b5_b6
    have f26 := f21.wr W24
    have f28 := f23.wr W24
    have Z24 := Nat.le_trans Z19 (Keep.of_wr W24).1
    have A24 : own_Ar Z h24 b6 .boolean (List.map Value.int [(if (p2 &&& (1 : Int32)) = 0 then (0 : Int32) else (1 : Int32)), (if (p2 &&& (2 : Int32)) = 0 then (0 : Int32) else (1 : Int32)), (if (p2 &&& (4 : Int32)) = 0 then (0 : Int32) else (1 : Int32)), (if (p2 &&& (8 : Int32)) = 0 then (0 : Int32) else (1 : Int32)), (0 : Int32), (0 : Int32), (0 : Int32), (0 : Int32)]) := A24
    have N24 := Fr.snoc X24 N19 g_b6
    show own_Fin _ _ _ _ _ _ _ (T24.setTop (mkF m 208 #[.val (.int p0), .val (.int p1), .val (.int p2), .val (.int (0 : Int32)), .val (.int xa), .val (.int xb), .val (.int xc), .val (.int xd), .val (.ref b5), .val (.ref b6), .unset, .unset, .unset] []))
    refine own_go (fun _ kk => XS.aload X24.here hx rfl (hb hby at_208) rfl rfl (XS.iconst X24.here hx rfl (hb hby at_210) (XS.iloadN X24.here hx rfl (hb hby at_211) rfl (XS.bipush X24.here hx rfl (hb hby at_212) (XS.iand X24.here hx rfl (hb hby at_214) rfl kk))))) ?_
    show own_Fin _ _ _ _ _ _ _ (T24.setTop (mkF m 215 #[.val (.int p0), .val (.int p1), .val (.int p2), .val (.int (0 : Int32)), .val (.int xa), .val (.int xb), .val (.int xc), .val (.int xd), .val (.ref b5), .val (.ref b6), .unset, .unset, .unset] [(.int (p2 &&& (16 : Int32))), (.int (4 : Int32)), (.ref b6)]))
    refine own_go (U' := T24.setTop (mkF m 223 #[.val (.int p0), .val (.int p1), .val (.int p2), .val (.int (0 : Int32)), .val (.int xa), .val (.int xb), .val (.int xc), .val (.int xd), .val (.ref b5), .val (.ref b6), .unset, .unset, .unset] [(.int (if (p2 &&& (16 : Int32)) = 0 then (0 : Int32) else (1 : Int32))), (.int (4 : Int32)), (.ref b6)])) (fun t k => ?_) ?_
    · by_cases hd215 : (p2 &&& (16 : Int32)) = 0
      · simp only [if_pos hd215] at k
        refine XS.ifYes X24.here hx rfl (pc0 := 215) (pc' := 222) rfl (hb hby at_215) rfl (XT.i0_eq_t hd215) (by decide) (by decide) (XS.iconst X24.here hx rfl (hb hby at_222) ?_)
        show Steps p.tables e below (T24.setTop (mkF m 223 #[.val (.int p0), .val (.int p1), .val (.int p2), .val (.int (0 : Int32)), .val (.int xa), .val (.int xb), .val (.int xc), .val (.int xd), .val (.ref b5), .val (.ref b6), .unset, .unset, .unset] [(.int (0 : Int32)), (.int (4 : Int32)), (.ref b6)])) _
        exact k
      · simp only [if_neg hd215] at k
        refine XS.ifNo X24.here hx rfl (hb hby at_215) rfl (XT.i0_eq_f hd215) (XS.iconst X24.here hx rfl (hb hby at_218) (XS.goto X24.here hx rfl (pc0 := 219) (pc' := 223) rfl (hb hby at_219) (by decide) (by decide) ?_))
        show Steps p.tables e below (T24.setTop (mkF m 223 #[.val (.int p0), .val (.int p1), .val (.int p2), .val (.int (0 : Int32)), .val (.int xa), .val (.int xb), .val (.int xc), .val (.int xd), .val (.ref b5), .val (.ref b6), .unset, .unset, .unset] [(.int (1 : Int32)), (.int (4 : Int32)), (.ref b6)])) _
        exact k
    show own_Fin _ _ _ _ _ _ _ (T24.setTop (mkF m 223 #[.val (.int p0), .val (.int p1), .val (.int p2), .val (.int (0 : Int32)), .val (.int xa), .val (.int xb), .val (.int xc), .val (.int xd), .val (.ref b5), .val (.ref b6), .unset, .unset, .unset] [(.int (if (p2 &&& (16 : Int32)) = 0 then (0 : Int32) else (1 : Int32))), (.int (4 : Int32)), (.ref b6)]))
    refine own_stZ X24 hx hZ e24 A24 (by decide) (by show (4 : Int32).toNatClampNeg < 8; decide) (hb hby at_223) (by split <;> rfl) ?_
    intro T29 h29 X29 e29 W29 A29
    have f30 := f25.other W29 ne_b5_b6
    have f31 := f26.wr W29
    have f33 := f28.wr W29
    have Z29 := Nat.le_trans Z24 (Keep.of_wr W29).1
    have A29 : own_Ar Z h29 b6 .boolean (List.map Value.int [(if (p2 &&& (1 : Int32)) = 0 then (0 : Int32) else (1 : Int32)), (if (p2 &&& (2 : Int32)) = 0 then (0 : Int32) else (1 : Int32)), (if (p2 &&& (4 : Int32)) = 0 then (0 : Int32) else (1 : Int32)), (if (p2 &&& (8 : Int32)) = 0 then (0 : Int32) else (1 : Int32)), (if (p2 &&& (16 : Int32)) = 0 then (0 : Int32) else (1 : Int32)), (0 : Int32), (0 : Int32), (0 : Int32)]) := A29
    have N29 := Fr.snoc X29 N24 g_b6
    show own_Fin _ _ _ _ _ _ _ (T29.setTop (mkF m 224 #[.val (.int p0), .val (.int p1), .val (.int p2), .val (.int (0 : Int32)), .val (.int xa), .val (.int xb), .val (.int xc), .val (.int xd), .val (.ref b5), .val (.ref b6), .unset, .unset, .unset] []))
    refine own_go (fun _ kk => XS.aload X29.here hx rfl (hb hby at_224) rfl rfl (XS.iconst X29.here hx rfl (hb hby at_226) (XS.iloadN X29.here hx rfl (hb hby at_227) rfl (XS.bipush X29.here hx rfl (hb hby at_228) (XS.iand X29.here hx rfl (hb hby at_230) rfl kk))))) ?_
    show own_Fin _ _ _ _ _ _ _ (T29.setTop (mkF m 231 #[.val (.int p0), .val (.int p1), .val (.int p2), .val (.int (0 : Int32)), .val (.int xa), .val (.int xb), .val (.int xc), .val (.int xd), .val (.ref b5), .val (.ref b6), .unset, .unset, .unset] [(.int (p2 &&& (32 : Int32))), (.int (5 : Int32)), (.ref b6)]))
    refine own_go (U' := T29.setTop (mkF m 239 #[.val (.int p0), .val (.int p1), .val (.int p2), .val (.int (0 : Int32)), .val (.int xa), .val (.int xb), .val (.int xc), .val (.int xd), .val (.ref b5), .val (.ref b6), .unset, .unset, .unset] [(.int (if (p2 &&& (32 : Int32)) = 0 then (0 : Int32) else (1 : Int32))), (.int (5 : Int32)), (.ref b6)])) (fun t k => ?_) ?_
    · by_cases hd231 : (p2 &&& (32 : Int32)) = 0
      · simp only [if_pos hd231] at k
        refine XS.ifYes X29.here hx rfl (pc0 := 231) (pc' := 238) rfl (hb hby at_231) rfl (XT.i0_eq_t hd231) (by decide) (by decide) (XS.iconst X29.here hx rfl (hb hby at_238) ?_)
        show Steps p.tables e below (T29.setTop (mkF m 239 #[.val (.int p0), .val (.int p1), .val (.int p2), .val (.int (0 : Int32)), .val (.int xa), .val (.int xb), .val (.int xc), .val (.int xd), .val (.ref b5), .val (.ref b6), .unset, .unset, .unset] [(.int (0 : Int32)), (.int (5 : Int32)), (.ref b6)])) _
        exact k
      · simp only [if_neg hd231] at k
        refine XS.ifNo X29.here hx rfl (hb hby at_231) rfl (XT.i0_eq_f hd231) (XS.iconst X29.here hx rfl (hb hby at_234) (XS.goto X29.here hx rfl (pc0 := 235) (pc' := 239) rfl (hb hby at_235) (by decide) (by decide) ?_))
        show Steps p.tables e below (T29.setTop (mkF m 239 #[.val (.int p0), .val (.int p1), .val (.int p2), .val (.int (0 : Int32)), .val (.int xa), .val (.int xb), .val (.int xc), .val (.int xd), .val (.ref b5), .val (.ref b6), .unset, .unset, .unset] [(.int (1 : Int32)), (.int (5 : Int32)), (.ref b6)])) _
        exact k
    show own_Fin _ _ _ _ _ _ _ (T29.setTop (mkF m 239 #[.val (.int p0), .val (.int p1), .val (.int p2), .val (.int (0 : Int32)), .val (.int xa), .val (.int xb), .val (.int xc), .val (.int xd), .val (.ref b5), .val (.ref b6), .unset, .unset, .unset] [(.int (if (p2 &&& (32 : Int32)) = 0 then (0 : Int32) else (1 : Int32))), (.int (5 : Int32)), (.ref b6)]))
    refine own_stZ X29 hx hZ e29 A29 (by decide) (by show (5 : Int32).toNatClampNeg < 8; decide) (hb hby at_239) (by split <;> rfl) ?_
    intro T34 h34 X34 e34 W34 A34
    have f35 := f30.other W34 ne_b5_b6
    have f36 := f31.wr W34
    have f38 := f33.wr W34
    have Z34 := Nat.le_trans Z29 (Keep.of_wr W34).1
    have A34 : own_Ar Z h34 b6 .boolean (List.map Value.int [(if (p2 &&& (1 : Int32)) = 0 then (0 : Int32) else (1 : Int32)), (if (p2 &&& (2 : Int32)) = 0 then (0 : Int32) else (1 : Int32)), (if (p2 &&& (4 : Int32)) = 0 then (0 : Int32) else (1 : Int32)), (if (p2 &&& (8 : Int32)) = 0 then (0 : Int32) else (1 : Int32)), (if (p2 &&& (16 : Int32)) = 0 then (0 : Int32) else (1 : Int32)), (if (p2 &&& (32 : Int32)) = 0 then (0 : Int32) else (1 : Int32)), (0 : Int32), (0 : Int32)]) := A34
    have N34 := Fr.snoc X34 N29 g_b6
    show own_Fin _ _ _ _ _ _ _ (T34.setTop (mkF m 240 #[.val (.int p0), .val (.int p1), .val (.int p2), .val (.int (0 : Int32)), .val (.int xa), .val (.int xb), .val (.int xc), .val (.int xd), .val (.ref b5), .val (.ref b6), .unset, .unset, .unset] []))
    refine own_go (fun _ kk => XS.aload X34.here hx rfl (hb hby at_240) rfl rfl (XS.bipush X34.here hx rfl (hb hby at_242) (XS.iloadN X34.here hx rfl (hb hby at_244) rfl (XS.bipush X34.here hx rfl (hb hby at_245) (XS.iand X34.here hx rfl (hb hby at_247) rfl kk))))) ?_
    show own_Fin _ _ _ _ _ _ _ (T34.setTop (mkF m 248 #[.val (.int p0), .val (.int p1), .val (.int p2), .val (.int (0 : Int32)), .val (.int xa), .val (.int xb), .val (.int xc), .val (.int xd), .val (.ref b5), .val (.ref b6), .unset, .unset, .unset] [(.int (p2 &&& (64 : Int32))), (.int (6 : Int32)), (.ref b6)]))
    refine own_go (U' := T34.setTop (mkF m 256 #[.val (.int p0), .val (.int p1), .val (.int p2), .val (.int (0 : Int32)), .val (.int xa), .val (.int xb), .val (.int xc), .val (.int xd), .val (.ref b5), .val (.ref b6), .unset, .unset, .unset] [(.int (if (p2 &&& (64 : Int32)) = 0 then (0 : Int32) else (1 : Int32))), (.int (6 : Int32)), (.ref b6)])) (fun t k => ?_) ?_
    · by_cases hd248 : (p2 &&& (64 : Int32)) = 0
      · simp only [if_pos hd248] at k
        refine XS.ifYes X34.here hx rfl (pc0 := 248) (pc' := 255) rfl (hb hby at_248) rfl (XT.i0_eq_t hd248) (by decide) (by decide) (XS.iconst X34.here hx rfl (hb hby at_255) ?_)
        show Steps p.tables e below (T34.setTop (mkF m 256 #[.val (.int p0), .val (.int p1), .val (.int p2), .val (.int (0 : Int32)), .val (.int xa), .val (.int xb), .val (.int xc), .val (.int xd), .val (.ref b5), .val (.ref b6), .unset, .unset, .unset] [(.int (0 : Int32)), (.int (6 : Int32)), (.ref b6)])) _
        exact k
      · simp only [if_neg hd248] at k
        refine XS.ifNo X34.here hx rfl (hb hby at_248) rfl (XT.i0_eq_f hd248) (XS.iconst X34.here hx rfl (hb hby at_251) (XS.goto X34.here hx rfl (pc0 := 252) (pc' := 256) rfl (hb hby at_252) (by decide) (by decide) ?_))
        show Steps p.tables e below (T34.setTop (mkF m 256 #[.val (.int p0), .val (.int p1), .val (.int p2), .val (.int (0 : Int32)), .val (.int xa), .val (.int xb), .val (.int xc), .val (.int xd), .val (.ref b5), .val (.ref b6), .unset, .unset, .unset] [(.int (1 : Int32)), (.int (6 : Int32)), (.ref b6)])) _
        exact k
    show own_Fin _ _ _ _ _ _ _ (T34.setTop (mkF m 256 #[.val (.int p0), .val (.int p1), .val (.int p2), .val (.int (0 : Int32)), .val (.int xa), .val (.int xb), .val (.int xc), .val (.int xd), .val (.ref b5), .val (.ref b6), .unset, .unset, .unset] [(.int (if (p2 &&& (64 : Int32)) = 0 then (0 : Int32) else (1 : Int32))), (.int (6 : Int32)), (.ref b6)]))
    refine own_stZ X34 hx hZ e34 A34 (by decide) (by show (6 : Int32).toNatClampNeg < 8; decide) (hb hby at_256) (by split <;> rfl) ?_
    intro T39 h39 X39 e39 W39 A39
    have f40 := f35.other W39 ne_b5_b6
    have f41 := f36.wr W39
    have f43 := f38.wr W39
    have Z39 := Nat.le_trans Z34 (Keep.of_wr W39).1
    have A39 : own_Ar Z h39 b6 .boolean (List.map Value.int [(if (p2 &&& (1 : Int32)) = 0 then (0 : Int32) else (1 : Int32)), (if (p2 &&& (2 : Int32)) = 0 then (0 : Int32) else (1 : Int32)), (if (p2 &&& (4 : Int32)) = 0 then (0 : Int32) else (1 : Int32)), (if (p2 &&& (8 : Int32)) = 0 then (0 : Int32) else (1 : Int32)), (if (p2 &&& (16 : Int32)) = 0 then (0 : Int32) else (1 : Int32)), (if (p2 &&& (32 : Int32)) = 0 then (0 : Int32) else (1 : Int32)), (if (p2 &&& (64 : Int32)) = 0 then (0 : Int32) else (1 : Int32)), (0 : Int32)]) := A39
    have N39 := Fr.snoc X39 N34 g_b6
    show own_Fin _ _ _ _ _ _ _ (T39.setTop (mkF m 257 #[.val (.int p0), .val (.int p1), .val (.int p2), .val (.int (0 : Int32)), .val (.int xa), .val (.int xb), .val (.int xc), .val (.int xd), .val (.ref b5), .val (.ref b6), .unset, .unset, .unset] []))
    refine own_go (fun _ kk => XS.aload X39.here hx rfl (hb hby at_257) rfl rfl (XS.bipush X39.here hx rfl (hb hby at_259) (XS.iloadN X39.here hx rfl (hb hby at_261) rfl (XS.sipush X39.here hx rfl (hb hby at_262) (XS.iand X39.here hx rfl (hb hby at_265) rfl kk))))) ?_
    show own_Fin _ _ _ _ _ _ _ (T39.setTop (mkF m 266 #[.val (.int p0), .val (.int p1), .val (.int p2), .val (.int (0 : Int32)), .val (.int xa), .val (.int xb), .val (.int xc), .val (.int xd), .val (.ref b5), .val (.ref b6), .unset, .unset, .unset] [(.int (p2 &&& (128 : Int32))), (.int (7 : Int32)), (.ref b6)]))
    refine own_go (U' := T39.setTop (mkF m 274 #[.val (.int p0), .val (.int p1), .val (.int p2), .val (.int (0 : Int32)), .val (.int xa), .val (.int xb), .val (.int xc), .val (.int xd), .val (.ref b5), .val (.ref b6), .unset, .unset, .unset] [(.int (if (p2 &&& (128 : Int32)) = 0 then (0 : Int32) else (1 : Int32))), (.int (7 : Int32)), (.ref b6)])) (fun t k => ?_) ?_
    · by_cases hd266 : (p2 &&& (128 : Int32)) = 0
      · simp only [if_pos hd266] at k
        refine XS.ifYes X39.here hx rfl (pc0 := 266) (pc' := 273) rfl (hb hby at_266) rfl (XT.i0_eq_t hd266) (by decide) (by decide) (XS.iconst X39.here hx rfl (hb hby at_273) ?_)
        show Steps p.tables e below (T39.setTop (mkF m 274 #[.val (.int p0), .val (.int p1), .val (.int p2), .val (.int (0 : Int32)), .val (.int xa), .val (.int xb), .val (.int xc), .val (.int xd), .val (.ref b5), .val (.ref b6), .unset, .unset, .unset] [(.int (0 : Int32)), (.int (7 : Int32)), (.ref b6)])) _
        exact k
      · simp only [if_neg hd266] at k
        refine XS.ifNo X39.here hx rfl (hb hby at_266) rfl (XT.i0_eq_f hd266) (XS.iconst X39.here hx rfl (hb hby at_269) (XS.goto X39.here hx rfl (pc0 := 270) (pc' := 274) rfl (hb hby at_270) (by decide) (by decide) ?_))
        show Steps p.tables e below (T39.setTop (mkF m 274 #[.val (.int p0), .val (.int p1), .val (.int p2), .val (.int (0 : Int32)), .val (.int xa), .val (.int xb), .val (.int xc), .val (.int xd), .val (.ref b5), .val (.ref b6), .unset, .unset, .unset] [(.int (1 : Int32)), (.int (7 : Int32)), (.ref b6)])) _
        exact k
    show own_Fin _ _ _ _ _ _ _ (T39.setTop (mkF m 274 #[.val (.int p0), .val (.int p1), .val (.int p2), .val (.int (0 : Int32)), .val (.int xa), .val (.int xb), .val (.int xc), .val (.int xd), .val (.ref b5), .val (.ref b6), .unset, .unset, .unset] [(.int (if (p2 &&& (128 : Int32)) = 0 then (0 : Int32) else (1 : Int32))), (.int (7 : Int32)), (.ref b6)]))
    refine own_stZ X39 hx hZ e39 A39 (by decide) (by show (7 : Int32).toNatClampNeg < 8; decide) (hb hby at_274) (by split <;> rfl) ?_
    intro T44 h44 X44 e44 W44 A44
    have f45 := f40.other W44 ne_b5_b6
    have f46 := f41.wr W44
    have f48 := f43.wr W44
    have Z44 := Nat.le_trans Z39 (Keep.of_wr W44).1
    have A44 : own_Ar Z h44 b6 .boolean (List.map Value.int [(if (p2 &&& (1 : Int32)) = 0 then (0 : Int32) else (1 : Int32)), (if (p2 &&& (2 : Int32)) = 0 then (0 : Int32) else (1 : Int32)), (if (p2 &&& (4 : Int32)) = 0 then (0 : Int32) else (1 : Int32)), (if (p2 &&& (8 : Int32)) = 0 then (0 : Int32) else (1 : Int32)), (if (p2 &&& (16 : Int32)) = 0 then (0 : Int32) else (1 : Int32)), (if (p2 &&& (32 : Int32)) = 0 then (0 : Int32) else (1 : Int32)), (if (p2 &&& (64 : Int32)) = 0 then (0 : Int32) else (1 : Int32)), (if (p2 &&& (128 : Int32)) = 0 then (0 : Int32) else (1 : Int32))]) := A44
    have N44 := Fr.snoc X44 N39 g_b6
    show own_Fin _ _ _ _ _ _ _ (T44.setTop (mkF m 275 #[.val (.int p0), .val (.int p1), .val (.int p2), .val (.int (0 : Int32)), .val (.int xa), .val (.int xb), .val (.int xc), .val (.int xd), .val (.ref b5), .val (.ref b6), .unset, .unset, .unset] []))
    obtain ⟨bs, hbs⟩ : ∃ bs, bs = [(if (p2 &&& (1 : Int32)) = 0 then (0 : Int32) else (1 : Int32)), (if (p2 &&& (2 : Int32)) = 0 then (0 : Int32) else (1 : Int32)), (if (p2 &&& (4 : Int32)) = 0 then (0 : Int32) else (1 : Int32)), (if (p2 &&& (8 : Int32)) = 0 then (0 : Int32) else (1 : Int32)), (if (p2 &&& (16 : Int32)) = 0 then (0 : Int32) else (1 : Int32)), (if (p2 &&& (32 : Int32)) = 0 then (0 : Int32) else (1 : Int32)), (if (p2 &&& (64 : Int32)) = 0 then (0 : Int32) else (1 : Int32)), (if (p2 &&& (128 : Int32)) = 0 then (0 : Int32) else (1 : Int32))] := ⟨_, rfl⟩
    have Bb6 : own_Ar Z h44 b6 .boolean (List.map Value.int bs) := by rw [hbs]; exact A44
    have hbl : bs.length = 8 := by rw [hbs]; rfl
    have sa : ¬ xa < 0 ∧ xa.toNatClampNeg < bs.length := ⟨rxa.1, by rw [hbl]; exact rxa.2⟩
    have sb : ¬ xb < 0 ∧ xb.toNatClampNeg < bs.length := ⟨rxb.1, by rw [hbl]; exact rxb.2⟩
    have sc : ¬ xc < 0 ∧ xc.toNatClampNeg < bs.length := ⟨rxc.1, by rw [hbl]; exact rxc.2⟩
    have sd : ¬ xd < 0 ∧ xd.toNatClampNeg < bs.length := ⟨rxd.1, by rw [hbl]; exact rxd.2⟩
    refine own_go (fun _ kk => XS.iconst X44.here hx rfl (hb hby at_275) kk) ?_
    show own_Fin _ _ _ _ _ _ _ (T44.setTop (mkF m 276 #[.val (.int p0), .val (.int p1), .val (.int p2), .val (.int (0 : Int32)), .val (.int xa), .val (.int xb), .val (.int xc), .val (.int xd), .val (.ref b5), .val (.ref b6), .unset, .unset, .unset] [(.int (4 : Int32))]))
    refine own_newI X44 hx hZ (hw _ (List.mem_of_getElem? (i := 5) rfl)) e44 (hb hby at_276) (by decide) (cap := 4) (by decide) (by decide) (by decide) (by decide) ?_
    intro T49 h49 b49 g49 X49 e49 E49 A49 D49
    have g_b49 : n0 ≤ b49 := Nat.le_trans Z44 (Nat.le_of_eq g49.symm)
    have ne_b5_b49 : b5 ≠ b49 := Nat.ne_of_lt (Nat.lt_of_lt_of_le f45.lt (Nat.le_of_eq g49.symm))
    have ne_b6_b49 : b6 ≠ b49 := Nat.ne_of_lt (Nat.lt_of_lt_of_le Bb6.lt (Nat.le_of_eq g49.symm))
    have f50 := f45.ext E49
    have f51 := f46.ext E49
    have f52 := Bb6.ext E49
    have f53 := f48.ext E49
    have Z49 := Nat.le_trans Z44 E49.1
    have A49 : own_Ar Z h49 b49 .int (List.map Value.int [(0 : Int32), (0 : Int32), (0 : Int32), (0 : Int32)]) := A49
    show own_Fin _ _ _ _ _ _ _ (T49.setTop (mkF m 278 #[.val (.int p0), .val (.int p1), .val (.int p2), .val (.int (0 : Int32)), .val (.int xa), .val (.int xb), .val (.int xc), .val (.int xd), .val (.ref b5), .val (.ref b6), .unset, .unset, .unset] [(.ref b49)]))
    refine own_go (fun _ kk => XS.astore X49.here hx rfl (hb hby at_278) rfl rfl (l' := #[.val (.int p0), .val (.int p1), .val (.int p2), .val (.int (0 : Int32)), .val (.int xa), .val (.int xb), .val (.int xc), .val (.int xd), .val (.ref b5), .val (.ref b6), .val (.ref b49), .unset, .unset]) rfl (XS.iconst X49.here hx rfl (hb hby at_280) (XS.istore X49.here hx rfl (hb hby at_281) rfl (l' := #[.val (.int p0), .val (.int p1), .val (.int p2), .val (.int (0 : Int32)), .val (.int xa), .val (.int xb), .val (.int xc), .val (.int xd), .val (.ref b5), .val (.ref b6), .val (.ref b49), .val (.int (0 : Int32)), .unset]) rfl (XS.iloadN X49.here hx rfl (hb hby at_283) rfl (XS.ifYes X49.here hx rfl (pc0 := 284) (pc' := 305) rfl (hb hby at_284) rfl (XT.i0_le_t (by decide)) (by decide) (by decide) (XS.iloadN X49.here hx rfl (hb hby at_305) rfl (XS.iconst X49.here hx rfl (hb hby at_306) (XS.icmpYes X49.here hx rfl (pc0 := 307) (pc' := 328) rfl (hb hby at_307) rfl (XT.ii_le_t (by decide)) (by decide) (by decide) (XS.iloadN X49.here hx rfl (hb hby at_328) rfl (XS.iconst X49.here hx rfl (hb hby at_329) kk)))))))))) ?_
    show own_Fin _ _ _ _ _ _ _ (T49.setTop (mkF m 330 #[.val (.int p0), .val (.int p1), .val (.int p2), .val (.int (0 : Int32)), .val (.int xa), .val (.int xb), .val (.int xc), .val (.int xd), .val (.ref b5), .val (.ref b6), .val (.ref b49), .val (.int (0 : Int32)), .unset] [(.int (2 : Int32)), (.int (0 : Int32))]))
    refine own_go (fun _ kk => XS.icmpYes X49.here hx rfl (pc0 := 330) (pc' := 351) rfl (hb hby at_330) rfl (XT.ii_le_t (by decide)) (by decide) (by decide) (XS.iloadN X49.here hx rfl (hb hby at_351) rfl (XS.iconst X49.here hx rfl (hb hby at_352) (XS.icmpYes X49.here hx rfl (pc0 := 353) (pc' := 374) rfl (hb hby at_353) rfl (XT.ii_le_t (by decide)) (by decide) (by decide) (XS.aload X49.here hx rfl (hb hby at_374) rfl rfl (XS.aload X49.here hx rfl (hb hby at_376) rfl rfl kk)))))) ?_
    show own_Fin _ _ _ _ _ _ _ (T49.setTop (mkF m 378 #[.val (.int p0), .val (.int p1), .val (.int p2), .val (.int (0 : Int32)), .val (.int xa), .val (.int xb), .val (.int xc), .val (.int xd), .val (.ref b5), .val (.ref b6), .val (.ref b49), .val (.int (0 : Int32)), .unset] [(.ref b6), (.ref b5)]))
    refine own_callS X49 hx hZ hown (hw _ (List.mem_of_getElem? (i := 7) rfl)) (hw _ (List.mem_of_getElem? (i := 8) rfl)) (hw _ (List.mem_of_getElem? (i := 9) rfl)) (hw _ (List.mem_of_getElem? (i := 10) rfl)) (by decide) (rm2 l Z a0 hw b5 b6 h49 n0 Z49 [] bs f50 f52 (by show 0 ≤ 4; decide) (fun x h => nomatch h)) e49 (argsL := [(.ref b5), (.ref b6)]) (rest := []) rfl rfl (by rw [hml]; rfl) (lenOf pd_0_1 rfl) (hb hby at_378) (W := 0) (Nat.le_of_eq rfl) (by decide) (by decide) (by decide) (by decide) ?_
    rintro v54 T54 L54 X54 ⟨r54, rfl, M54, Kc54, sz54, A54⟩
    have N54 := Fr.app N44 M54
    have ne54 : r54 ≠ b5 := Nat.ne_of_gt (Nat.lt_of_lt_of_le f50.lt sz54)
    have f55 := f50.keep Kc54 nin0
    have f56 := f51.keep Kc54
    have f57 := f52.keep Kc54 nin0
    have f58 := f53.keep Kc54
    have f59 := A49.keep Kc54 nin0
    have f60 := D49.keep Kc54
    have Z54 := Nat.le_trans Z49 Kc54.1
    have F54 : own_Ar Z T54.heap r54 .int (List.map Value.int ([] : List Int32)) := by
      rw [List.filter_nil] at A54
      exact A54
    show own_Fin _ _ _ _ _ _ _ (T54.setTop (mkF m 381 #[.val (.int p0), .val (.int p1), .val (.int p2), .val (.int (0 : Int32)), .val (.int xa), .val (.int xb), .val (.int xc), .val (.int xd), .val (.ref b5), .val (.ref b6), .val (.ref b49), .val (.int (0 : Int32)), .unset] [(.ref r54)]))
    refine own_go (fun _ kk => XS.astore X54.here hx rfl (hb hby at_381) rfl rfl (l' := #[.val (.int p0), .val (.int p1), .val (.int p2), .val (.int (0 : Int32)), .val (.int xa), .val (.int xb), .val (.int xc), .val (.int xd), .val (.ref b5), .val (.ref b6), .val (.ref b49), .val (.int (0 : Int32)), .val (.ref r54)]) rfl (XS.aload X54.here hx rfl (hb hby at_383) rfl rfl (XS.ifnullNo X54.here hx rfl (hb hby at_385) rfl (XS.aload X54.here hx rfl (hb hby at_388) rfl rfl (XS.aload X54.here hx rfl (hb hby at_390) rfl rfl (XT.acmpYes X54.here hx rfl (pc0 := 392) (pc' := 397) rfl (hb hby at_392) rfl rfl rfl (XT.aa_ne_t (fun q => ne54 (Value.ref.inj q))) (by decide) (by decide) (XS.aload X54.here hx rfl (hb hby at_397) rfl rfl kk))))))) ?_
    show own_Fin _ _ _ _ _ _ _ (T54.setTop (mkF m 399 #[.val (.int p0), .val (.int p1), .val (.int p2), .val (.int (0 : Int32)), .val (.int xa), .val (.int xb), .val (.int xc), .val (.int xd), .val (.ref b5), .val (.ref b6), .val (.ref b49), .val (.int (0 : Int32)), .val (.ref r54)] [(.ref b5)]))
    refine own_alen X54 hx hZ rfl f55 (hb hby at_399) ?_
    show own_Fin _ _ _ _ _ _ _ (T54.setTop (mkF m 400 #[.val (.int p0), .val (.int p1), .val (.int p2), .val (.int (0 : Int32)), .val (.int xa), .val (.int xb), .val (.int xc), .val (.int xd), .val (.ref b5), .val (.ref b6), .val (.ref b49), .val (.int (0 : Int32)), .val (.ref r54)] [(.int (0 : Int32))]))
    refine own_go (fun _ kk => XS.iloadN X54.here hx rfl (hb hby at_400) rfl (XS.icmpYes X54.here hx rfl (pc0 := 401) (pc' := 406) rfl (hb hby at_401) rfl (XT.ii_eq_t (by decide)) (by decide) (by decide) (XS.iloadN X54.here hx rfl (hb hby at_406) rfl (XS.ifYes X54.here hx rfl (pc0 := 407) (pc' := 421) rfl (hb hby at_407) rfl (XT.i0_le_t (by decide)) (by decide) (by decide) (XS.iloadN X54.here hx rfl (hb hby at_421) rfl (XS.iconst X54.here hx rfl (hb hby at_422) (XS.icmpYes X54.here hx rfl (pc0 := 423) (pc' := 437) rfl (hb hby at_423) rfl (XT.ii_le_t (by decide)) (by decide) (by decide) (XS.iloadN X54.here hx rfl (hb hby at_437) rfl (XS.iconst X54.here hx rfl (hb hby at_438) (XS.icmpYes X54.here hx rfl (pc0 := 439) (pc' := 453) rfl (hb hby at_439) rfl (XT.ii_le_t (by decide)) (by decide) (by decide) kk)))))))))) ?_
    show own_Fin _ _ _ _ _ _ _ (T54.setTop (mkF m 453 #[.val (.int p0), .val (.int p1), .val (.int p2), .val (.int (0 : Int32)), .val (.int xa), .val (.int xb), .val (.int xc), .val (.int xd), .val (.ref b5), .val (.ref b6), .val (.ref b49), .val (.int (0 : Int32)), .val (.ref r54)] []))
    refine own_go (fun _ kk => XS.iloadN X54.here hx rfl (hb hby at_453) rfl (XS.iconst X54.here hx rfl (hb hby at_454) (XS.icmpYes X54.here hx rfl (pc0 := 455) (pc' := 469) rfl (hb hby at_455) rfl (XT.ii_le_t (by decide)) (by decide) (by decide) (XS.aload X54.here hx rfl (hb hby at_469) rfl rfl kk)))) ?_
    show own_Fin _ _ _ _ _ _ _ (T54.setTop (mkF m 471 #[.val (.int p0), .val (.int p1), .val (.int p2), .val (.int (0 : Int32)), .val (.int xa), .val (.int xb), .val (.int xc), .val (.int xd), .val (.ref b5), .val (.ref b6), .val (.ref b49), .val (.int (0 : Int32)), .val (.ref r54)] [(.ref r54)]))
    refine own_alen X54 hx hZ rfl F54 (hb hby at_471) ?_
    show own_Fin _ _ _ _ _ _ _ (T54.setTop (mkF m 472 #[.val (.int p0), .val (.int p1), .val (.int p2), .val (.int (0 : Int32)), .val (.int xa), .val (.int xb), .val (.int xc), .val (.int xd), .val (.ref b5), .val (.ref b6), .val (.ref b49), .val (.int (0 : Int32)), .val (.ref r54)] [(.int (0 : Int32))]))
    refine own_go (fun _ kk => XS.iload X54.here hx rfl (hb hby at_472) rfl (XS.icmpYes X54.here hx rfl (pc0 := 474) (pc' := 479) rfl (hb hby at_474) rfl (XT.ii_eq_t (by decide)) (by decide) (by decide) (XS.iload X54.here hx rfl (hb hby at_479) rfl (XS.ifYes X54.here hx rfl (pc0 := 481) (pc' := 497) rfl (hb hby at_481) rfl (XT.i0_le_t (by decide)) (by decide) (by decide) (XS.iload X54.here hx rfl (hb hby at_497) rfl (XS.iconst X54.here hx rfl (hb hby at_499) (XS.icmpYes X54.here hx rfl (pc0 := 500) (pc' := 516) rfl (hb hby at_500) rfl (XT.ii_le_t (by decide)) (by decide) (by decide) (XS.iload X54.here hx rfl (hb hby at_516) rfl (XS.iconst X54.here hx rfl (hb hby at_518) (XS.icmpYes X54.here hx rfl (pc0 := 519) (pc' := 535) rfl (hb hby at_519) rfl (XT.ii_le_t (by decide)) (by decide) (by decide) kk)))))))))) ?_
    show own_Fin _ _ _ _ _ _ _ (T54.setTop (mkF m 535 #[.val (.int p0), .val (.int p1), .val (.int p2), .val (.int (0 : Int32)), .val (.int xa), .val (.int xb), .val (.int xc), .val (.int xd), .val (.ref b5), .val (.ref b6), .val (.ref b49), .val (.int (0 : Int32)), .val (.ref r54)] []))
    refine own_go (fun _ kk => XS.iload X54.here hx rfl (hb hby at_535) rfl (XS.iconst X54.here hx rfl (hb hby at_537) (XS.icmpYes X54.here hx rfl (pc0 := 538) (pc' := 554) rfl (hb hby at_538) rfl (XT.ii_le_t (by decide)) (by decide) (by decide) (XS.iconst X54.here hx rfl (hb hby at_554) kk)))) ?_
    show own_Fin _ _ _ _ _ _ _ (T54.setTop (mkF m 555 #[.val (.int p0), .val (.int p1), .val (.int p2), .val (.int (0 : Int32)), .val (.int xa), .val (.int xb), .val (.int xc), .val (.int xd), .val (.ref b5), .val (.ref b6), .val (.ref b49), .val (.int (0 : Int32)), .val (.ref r54)] [(.int (1 : Int32))]))
    exact own_retZ X54 hx hlk hret rfl (hb hby at_555) (by decide) (by decide) ⟨rfl, N54⟩
  · refine own_go (fun _ kk => XS.ifYes X4.here hx rfl (pc0 := 36) (pc' := 47) rfl (hb hby at_36) rfl (XT.i0_ne_t hc36) (by decide) (by decide) (XS.iloadN X4.here hx rfl (hb hby at_47) rfl (XS.iconst X4.here hx rfl (hb hby at_48) kk))) ?_
    show own_Fin _ _ _ _ _ _ _ (T4.setTop (mkF m 49 #[.val (.int p0), .val (.int p1), .val (.int p2), .val (.int n), .val (.int xa), .val (.int xb), .val (.int xc), .val (.int xd), .unset, .unset, .unset, .unset, .unset] [(.int (1 : Int32)), (.int n)]))
    by_cases hc49 : n = (1 : Int32)
    · refine own_go (fun _ kk => XS.icmpNo X4.here hx rfl (hb hby at_49) rfl (XT.ii_ne_f hc49) kk) ?_
      show own_Fin _ _ _ _ _ _ _ (T4.setTop (mkF m 52 #[.val (.int p0), .val (.int p1), .val (.int p2), .val (.int n), .val (.int xa), .val (.int xb), .val (.int xc), .val (.int xd), .unset, .unset, .unset, .unset, .unset] []))
      subst hc49
      show own_Fin _ _ _ _ _ _ _ (T4.setTop (mkF m 52 #[.val (.int p0), .val (.int p1), .val (.int p2), .val (.int (1 : Int32)), .val (.int xa), .val (.int xb), .val (.int xc), .val (.int xd), .unset, .unset, .unset, .unset, .unset] []))
      refine own_go (fun _ kk => XS.iconst X4.here hx rfl (hb hby at_52) kk) ?_
      show own_Fin _ _ _ _ _ _ _ (T4.setTop (mkF m 53 #[.val (.int p0), .val (.int p1), .val (.int p2), .val (.int (1 : Int32)), .val (.int xa), .val (.int xb), .val (.int xc), .val (.int xd), .unset, .unset, .unset, .unset, .unset] [(.int (1 : Int32))]))
      refine own_newI X4 hx hZ (hw _ (List.mem_of_getElem? (i := 5) rfl)) e4 (hb hby at_53) (by decide) (cap := 1) (by decide) (by decide) (by decide) (by decide) ?_
      intro T61 h61 b61 g61 X61 e61 E61 A61 D61
      have g_b61 : n0 ≤ b61 := Nat.le_trans Z0 (Nat.le_of_eq g61.symm)
      have Z61 := Nat.le_trans Z0 E61.1
      have A61 : own_Ar Z h61 b61 .int (List.map Value.int [(0 : Int32)]) := A61
      show own_Fin _ _ _ _ _ _ _ (T61.setTop (mkF m 55 #[.val (.int p0), .val (.int p1), .val (.int p2), .val (.int (1 : Int32)), .val (.int xa), .val (.int xb), .val (.int xc), .val (.int xd), .unset, .unset, .unset, .unset, .unset] [(.ref b61)]))
      refine own_go (fun _ kk => XS.dup X61.here hx rfl (hb hby at_55) rfl rfl (XS.iconst X61.here hx rfl (hb hby at_56) (XS.iload X61.here hx rfl (hb hby at_57) rfl kk))) ?_
      show own_Fin _ _ _ _ _ _ _ (T61.setTop (mkF m 59 #[.val (.int p0), .val (.int p1), .val (.int p2), .val (.int (1 : Int32)), .val (.int xa), .val (.int xb), .val (.int xc), .val (.int xd), .unset, .unset, .unset, .unset, .unset] [(.int xa), (.int (0 : Int32)), (.ref b61), (.ref b61)]))
      refine own_stI X61 hx hZ e61 A61 (by decide) (by show (0 : Int32).toNatClampNeg < 1; decide) (hb hby at_59) ?_
      intro T62 h62 X62 e62 W62 A62
      have f64 := D61.wr W62
      have Z62 := Nat.le_trans Z61 (Keep.of_wr W62).1
      have A62 : own_Ar Z h62 b61 .int (List.map Value.int [xa]) := A62
      have N62 := Fr.snoc X62 N4 g_b61
      show own_Fin _ _ _ _ _ _ _ (T62.setTop (mkF m 60 #[.val (.int p0), .val (.int p1), .val (.int p2), .val (.int (1 : Int32)), .val (.int xa), .val (.int xb), .val (.int xc), .val (.int xd), .unset, .unset, .unset, .unset, .unset] [(.ref b61)]))
      refine own_go (fun _ kk => XS.astore X62.here hx rfl (hb hby at_60) rfl rfl (l' := #[.val (.int p0), .val (.int p1), .val (.int p2), .val (.int (1 : Int32)), .val (.int xa), .val (.int xb), .val (.int xc), .val (.int xd), .val (.ref b61), .unset, .unset, .unset, .unset]) rfl (XS.goto X62.here hx rfl (pc0 := 62) (pc' := 141) rfl (hb hby at_62) (by decide) (by decide) (XS.bipush X62.here hx rfl (hb hby at_141) kk))) ?_
      show own_Fin _ _ _ _ _ _ _ (T62.setTop (mkF m 143 #[.val (.int p0), .val (.int p1), .val (.int p2), .val (.int (1 : Int32)), .val (.int xa), .val (.int xb), .val (.int xc), .val (.int xd), .val (.ref b61), .unset, .unset, .unset, .unset] [(.int (8 : Int32))]))
      refine own_newZ X62 hx hZ (hw _ (List.mem_of_getElem? (i := 6) rfl)) e62 (hb hby at_143) (by decide) (cap := 8) (by decide) (by decide) (by decide) (by decide) ?_
      intro T65 h65 b65 g65 X65 e65 E65 A65 D65
      have g_b65 : n0 ≤ b65 := Nat.le_trans Z62 (Nat.le_of_eq g65.symm)
      have ne_b61_b65 : b61 ≠ b65 := Nat.ne_of_lt (Nat.lt_of_lt_of_le A62.lt (Nat.le_of_eq g65.symm))
      have f66 := A62.ext E65
      have f67 := f64.ext E65
      have Z65 := Nat.le_trans Z62 E65.1
      have A65 : own_Ar Z h65 b65 .boolean (List.map Value.int [(0 : Int32), (0 : Int32), (0 : Int32), (0 : Int32), (0 : Int32), (0 : Int32), (0 : Int32), (0 : Int32)]) := A65
      show own_Fin _ _ _ _ _ _ _ (T65.setTop (mkF m 145 #[.val (.int p0), .val (.int p1), .val (.int p2), .val (.int (1 : Int32)), .val (.int xa), .val (.int xb), .val (.int xc), .val (.int xd), .val (.ref b61), .unset, .unset, .unset, .unset] [(.ref b65)]))
      refine own_go (fun _ kk => XS.astore X65.here hx rfl (hb hby at_145) rfl rfl (l' := #[.val (.int p0), .val (.int p1), .val (.int p2), .val (.int (1 : Int32)), .val (.int xa), .val (.int xb), .val (.int xc), .val (.int xd), .val (.ref b61), .val (.ref b65), .unset, .unset, .unset]) rfl (XS.aload X65.here hx rfl (hb hby at_147) rfl rfl (XS.iconst X65.here hx rfl (hb hby at_149) (XS.iloadN X65.here hx rfl (hb hby at_150) rfl (XS.iconst X65.here hx rfl (hb hby at_151) (XS.iand X65.here hx rfl (hb hby at_152) rfl kk)))))) ?_
      show own_Fin _ _ _ _ _ _ _ (T65.setTop (mkF m 153 #[.val (.int p0), .val (.int p1), .val (.int p2), .val (.int (1 : Int32)), .val (.int xa), .val (.int xb), .val (.int xc), .val (.int xd), .val (.ref b61), .val (.ref b65), .unset, .unset, .unset] [(.int (p2 &&& (1 : Int32))), (.int (0 : Int32)), (.ref b65)]))
      refine own_go (U' := T65.setTop (mkF m 161 #[.val (.int p0), .val (.int p1), .val (.int p2), .val (.int (1 : Int32)), .val (.int xa), .val (.int xb), .val (.int xc), .val (.int xd), .val (.ref b61), .val (.ref b65), .unset, .unset, .unset] [(.int (if (p2 &&& (1 : Int32)) = 0 then (0 : Int32) else (1 : Int32))), (.int (0 : Int32)), (.ref b65)])) (fun t k => ?_) ?_
      · by_cases hd153 : (p2 &&& (1 : Int32)) = 0
        · simp only [if_pos hd153] at k
          refine XS.ifYes X65.here hx rfl (pc0 := 153) (pc' := 160) rfl (hb hby at_153) rfl (XT.i0_eq_t hd153) (by decide) (by decide) (XS.iconst X65.here hx rfl (hb hby at_160) ?_)
          show Steps p.tables e below (T65.setTop (mkF m 161 #[.val (.int p0), .val (.int p1), .val (.int p2), .val (.int (1 : Int32)), .val (.int xa), .val (.int xb), .val (.int xc), .val (.int xd), .val (.ref b61), .val (.ref b65), .unset, .unset, .unset] [(.int (0 : Int32)), (.int (0 : Int32)), (.ref b65)])) _
          exact k
        · simp only [if_neg hd153] at k
          refine XS.ifNo X65.here hx rfl (hb hby at_153) rfl (XT.i0_eq_f hd153) (XS.iconst X65.here hx rfl (hb hby at_156) (XS.goto X65.here hx rfl (pc0 := 157) (pc' := 161) rfl (hb hby at_157) (by decide) (by decide) ?_))
          show Steps p.tables e below (T65.setTop (mkF m 161 #[.val (.int p0), .val (.int p1), .val (.int p2), .val (.int (1 : Int32)), .val (.int xa), .val (.int xb), .val (.int xc), .val (.int xd), .val (.ref b61), .val (.ref b65), .unset, .unset, .unset] [(.int (1 : Int32)), (.int (0 : Int32)), (.ref b65)])) _
          exact k
      show own_Fin _ _ _ _ _ _ _ (T65.setTop (mkF m 161 #[.val (.int p0), .val (.int p1), .val (.int p2), .val (.int (1 : Int32)), .val (.int xa), .val (.int xb), .val (.int xc), .val (.int xd), .val (.ref b61), .val (.ref b65), .unset, .unset, .unset] [(.int (if (p2 &&& (1 : Int32)) = 0 then (0 : Int32) else (1 : Int32))), (.int (0 : Int32)), (.ref b65)]))
      refine own_stZ X65 hx hZ e65 A65 (by decide) (by show (0 : Int32).toNatClampNeg < 8; decide) (hb hby at_161) (by split <;> rfl) ?_
      intro T68 h68 X68 e68 W68 A68
      have f69 := f66.other W68 ne_b61_b65
      have f70 := f67.wr W68
      have f72 := D65.wr W68
      have Z68 := Nat.le_trans Z65 (Keep.of_wr W68).1
      have A68 : own_Ar Z h68 b65 .boolean (List.map Value.int [(if (p2 &&& (1 : Int32)) = 0 then (0 : Int32) else (1 : Int32)), (0 : Int32), (0 : Int32), (0 : Int32), (0 : Int32), (0 : Int32), (0 : Int32), (0 : Int32)]) := A68
      have N68 := Fr.snoc X68 N62 g_b65
      show own_Fin _ _ _ _ _ _ _ (T68.setTop (mkF m 162 #[.val (.int p0), .val (.int p1), .val (.int p2), .val (.int (1 : Int32)), .val (.int xa), .val (.int xb), .val (.int xc), .val (.int xd), .val (.ref b61), .val (.ref b65), .unset, .unset, .unset] []))
      refine own_go (fun _ kk => XS.aload X68.here hx rfl (hb hby at_162) rfl rfl (XS.iconst X68.here hx rfl (hb hby at_164) (XS.iloadN X68.here hx rfl (hb hby at_165) rfl (XS.iconst X68.here hx rfl (hb hby at_166) (XS.iand X68.here hx rfl (hb hby at_167) rfl kk))))) ?_
      show own_Fin _ _ _ _ _ _ _ (T68.setTop (mkF m 168 #[.val (.int p0), .val (.int p1), .val (.int p2), .val (.int (1 : Int32)), .val (.int xa), .val (.int xb), .val (.int xc), .val (.int xd), .val (.ref b61), .val (.ref b65), .unset, .unset, .unset] [(.int (p2 &&& (2 : Int32))), (.int (1 : Int32)), (.ref b65)]))
      refine own_go (U' := T68.setTop (mkF m 176 #[.val (.int p0), .val (.int p1), .val (.int p2), .val (.int (1 : Int32)), .val (.int xa), .val (.int xb), .val (.int xc), .val (.int xd), .val (.ref b61), .val (.ref b65), .unset, .unset, .unset] [(.int (if (p2 &&& (2 : Int32)) = 0 then (0 : Int32) else (1 : Int32))), (.int (1 : Int32)), (.ref b65)])) (fun t k => ?_) ?_
      · by_cases hd168 : (p2 &&& (2 : Int32)) = 0
        · simp only [if_pos hd168] at k
          refine XS.ifYes X68.here hx rfl (pc0 := 168) (pc' := 175) rfl (hb hby at_168) rfl (XT.i0_eq_t hd168) (by decide) (by decide) (XS.iconst X68.here hx rfl (hb hby at_175) ?_)
          show Steps p.tables e below (T68.setTop (mkF m 176 #[.val (.int p0), .val (.int p1), .val (.int p2), .val (.int (1 : Int32)), .val (.int xa), .val (.int xb), .val (.int xc), .val (.int xd), .val (.ref b61), .val (.ref b65), .unset, .unset, .unset] [(.int (0 : Int32)), (.int (1 : Int32)), (.ref b65)])) _
          exact k
        · simp only [if_neg hd168] at k
          refine XS.ifNo X68.here hx rfl (hb hby at_168) rfl (XT.i0_eq_f hd168) (XS.iconst X68.here hx rfl (hb hby at_171) (XS.goto X68.here hx rfl (pc0 := 172) (pc' := 176) rfl (hb hby at_172) (by decide) (by decide) ?_))
          show Steps p.tables e below (T68.setTop (mkF m 176 #[.val (.int p0), .val (.int p1), .val (.int p2), .val (.int (1 : Int32)), .val (.int xa), .val (.int xb), .val (.int xc), .val (.int xd), .val (.ref b61), .val (.ref b65), .unset, .unset, .unset] [(.int (1 : Int32)), (.int (1 : Int32)), (.ref b65)])) _
          exact k
      show own_Fin _ _ _ _ _ _ _ (T68.setTop (mkF m 176 #[.val (.int p0), .val (.int p1), .val (.int p2), .val (.int (1 : Int32)), .val (.int xa), .val (.int xb), .val (.int xc), .val (.int xd), .val (.ref b61), .val (.ref b65), .unset, .unset, .unset] [(.int (if (p2 &&& (2 : Int32)) = 0 then (0 : Int32) else (1 : Int32))), (.int (1 : Int32)), (.ref b65)]))
      refine own_stZ X68 hx hZ e68 A68 (by decide) (by show (1 : Int32).toNatClampNeg < 8; decide) (hb hby at_176) (by split <;> rfl) ?_
      intro T73 h73 X73 e73 W73 A73
      have f74 := f69.other W73 ne_b61_b65
      have f75 := f70.wr W73
      have f77 := f72.wr W73
      have Z73 := Nat.le_trans Z68 (Keep.of_wr W73).1
      have A73 : own_Ar Z h73 b65 .boolean (List.map Value.int [(if (p2 &&& (1 : Int32)) = 0 then (0 : Int32) else (1 : Int32)), (if (p2 &&& (2 : Int32)) = 0 then (0 : Int32) else (1 : Int32)), (0 : Int32), (0 : Int32), (0 : Int32), (0 : Int32), (0 : Int32), (0 : Int32)]) := A73
      have N73 := Fr.snoc X73 N68 g_b65
      show own_Fin _ _ _ _ _ _ _ (T73.setTop (mkF m 177 #[.val (.int p0), .val (.int p1), .val (.int p2), .val (.int (1 : Int32)), .val (.int xa), .val (.int xb), .val (.int xc), .val (.int xd), .val (.ref b61), .val (.ref b65), .unset, .unset, .unset] []))
      refine own_go (fun _ kk => XS.aload X73.here hx rfl (hb hby at_177) rfl rfl (XS.iconst X73.here hx rfl (hb hby at_179) (XS.iloadN X73.here hx rfl (hb hby at_180) rfl (XS.iconst X73.here hx rfl (hb hby at_181) (XS.iand X73.here hx rfl (hb hby at_182) rfl kk))))) ?_
      show own_Fin _ _ _ _ _ _ _ (T73.setTop (mkF m 183 #[.val (.int p0), .val (.int p1), .val (.int p2), .val (.int (1 : Int32)), .val (.int xa), .val (.int xb), .val (.int xc), .val (.int xd), .val (.ref b61), .val (.ref b65), .unset, .unset, .unset] [(.int (p2 &&& (4 : Int32))), (.int (2 : Int32)), (.ref b65)]))
      refine own_go (U' := T73.setTop (mkF m 191 #[.val (.int p0), .val (.int p1), .val (.int p2), .val (.int (1 : Int32)), .val (.int xa), .val (.int xb), .val (.int xc), .val (.int xd), .val (.ref b61), .val (.ref b65), .unset, .unset, .unset] [(.int (if (p2 &&& (4 : Int32)) = 0 then (0 : Int32) else (1 : Int32))), (.int (2 : Int32)), (.ref b65)])) (fun t k => ?_) ?_
      · by_cases hd183 : (p2 &&& (4 : Int32)) = 0
        · simp only [if_pos hd183] at k
          refine XS.ifYes X73.here hx rfl (pc0 := 183) (pc' := 190) rfl (hb hby at_183) rfl (XT.i0_eq_t hd183) (by decide) (by decide) (XS.iconst X73.here hx rfl (hb hby at_190) ?_)
          show Steps p.tables e below (T73.setTop (mkF m 191 #[.val (.int p0), .val (.int p1), .val (.int p2), .val (.int (1 : Int32)), .val (.int xa), .val (.int xb), .val (.int xc), .val (.int xd), .val (.ref b61), .val (.ref b65), .unset, .unset, .unset] [(.int (0 : Int32)), (.int (2 : Int32)), (.ref b65)])) _
          exact k
        · simp only [if_neg hd183] at k
          refine XS.ifNo X73.here hx rfl (hb hby at_183) rfl (XT.i0_eq_f hd183) (XS.iconst X73.here hx rfl (hb hby at_186) (XS.goto X73.here hx rfl (pc0 := 187) (pc' := 191) rfl (hb hby at_187) (by decide) (by decide) ?_))
          show Steps p.tables e below (T73.setTop (mkF m 191 #[.val (.int p0), .val (.int p1), .val (.int p2), .val (.int (1 : Int32)), .val (.int xa), .val (.int xb), .val (.int xc), .val (.int xd), .val (.ref b61), .val (.ref b65), .unset, .unset, .unset] [(.int (1 : Int32)), (.int (2 : Int32)), (.ref b65)])) _
          exact k
      show own_Fin _ _ _ _ _ _ _ (T73.setTop (mkF m 191 #[.val (.int p0), .val (.int p1), .val (.int p2), .val (.int (1 : Int32)), .val (.int xa), .val (.int xb), .val (.int xc), .val (.int xd), .val (.ref b61), .val (.ref b65), .unset, .unset, .unset] [(.int (if (p2 &&& (4 : Int32)) = 0 then (0 : Int32) else (1 : Int32))), (.int (2 : Int32)), (.ref b65)]))
      refine own_stZ X73 hx hZ e73 A73 (by decide) (by show (2 : Int32).toNatClampNeg < 8; decide) (hb hby at_191) (by split <;> rfl) ?_
      intro T78 h78 X78 e78 W78 A78
      have f79 := f74.other W78 ne_b61_b65
      have f80 := f75.wr W78
      have f82 := f77.wr W78
      have Z78 := Nat.le_trans Z73 (Keep.of_wr W78).1
      have A78 : own_Ar Z h78 b65 .boolean (List.map Value.int [(if (p2 &&& (1 : Int32)) = 0 then (0 : Int32) else (1 : Int32)), (if (p2 &&& (2 : Int32)) = 0 then (0 : Int32) else (1 : Int32)), (if (p2 &&& (4 : Int32)) = 0 then (0 : Int32) else (1 : Int32)), (0 : Int32), (0 : Int32), (0 : Int32), (0 : Int32), (0 : Int32)]) := A78
      have N78 := Fr.snoc X78 N73 g_b65
      show own_Fin _ _ _ _ _ _ _ (T78.setTop (mkF m 192 #[.val (.int p0), .val (.int p1), .val (.int p2), .val (.int (1 : Int32)), .val (.int xa), .val (.int xb), .val (.int xc), .val (.int xd), .val (.ref b61), .val (.ref b65), .unset, .unset, .unset] []))
      refine own_go (fun _ kk => XS.aload X78.here hx rfl (hb hby at_192) rfl rfl (XS.iconst X78.here hx rfl (hb hby at_194) (XS.iloadN X78.here hx rfl (hb hby at_195) rfl (XS.bipush X78.here hx rfl (hb hby at_196) (XS.iand X78.here hx rfl (hb hby at_198) rfl kk))))) ?_
      show own_Fin _ _ _ _ _ _ _ (T78.setTop (mkF m 199 #[.val (.int p0), .val (.int p1), .val (.int p2), .val (.int (1 : Int32)), .val (.int xa), .val (.int xb), .val (.int xc), .val (.int xd), .val (.ref b61), .val (.ref b65), .unset, .unset, .unset] [(.int (p2 &&& (8 : Int32))), (.int (3 : Int32)), (.ref b65)]))
      refine own_go (U' := T78.setTop (mkF m 207 #[.val (.int p0), .val (.int p1), .val (.int p2), .val (.int (1 : Int32)), .val (.int xa), .val (.int xb), .val (.int xc), .val (.int xd), .val (.ref b61), .val (.ref b65), .unset, .unset, .unset] [(.int (if (p2 &&& (8 : Int32)) = 0 then (0 : Int32) else (1 : Int32))), (.int (3 : Int32)), (.ref b65)])) (fun t k => ?_) ?_
      · by_cases hd199 : (p2 &&& (8 : Int32)) = 0
        · simp only [if_pos hd199] at k
          refine XS.ifYes X78.here hx rfl (pc0 := 199) (pc' := 206) rfl (hb hby at_199) rfl (XT.i0_eq_t hd199) (by decide) (by decide) (XS.iconst X78.here hx rfl (hb hby at_206) ?_)
          show Steps p.tables e below (T78.setTop (mkF m 207 #[.val (.int p0), .val (.int p1), .val (.int p2), .val (.int (1 : Int32)), .val (.int xa), .val (.int xb), .val (.int xc), .val (.int xd), .val (.ref b61), .val (.ref b65), .unset, .unset, .unset] [(.int (0 : Int32)), (.int (3 : Int32)), (.ref b65)])) _
          exact k
        · simp only [if_neg hd199] at k
          refine XS.ifNo X78.here hx rfl (hb hby at_199) rfl (XT.i0_eq_f hd199) (XS.iconst X78.here hx rfl (hb hby at_202) (XS.goto X78.here hx rfl (pc0 := 203) (pc' := 207) rfl (hb hby at_203) (by decide) (by decide) ?_))
          show Steps p.tables e below (T78.setTop (mkF m 207 #[.val (.int p0), .val (.int p1), .val (.int p2), .val (.int (1 : Int32)), .val (.int xa), .val (.int xb), .val (.int xc), .val (.int xd), .val (.ref b61), .val (.ref b65), .unset, .unset, .unset] [(.int (1 : Int32)), (.int (3 : Int32)), (.ref b65)])) _
          exact k
      show own_Fin _ _ _ _ _ _ _ (T78.setTop (mkF m 207 #[.val (.int p0), .val (.int p1), .val (.int p2), .val (.int (1 : Int32)), .val (.int xa), .val (.int xb), .val (.int xc), .val (.int xd), .val (.ref b61), .val (.ref b65), .unset, .unset, .unset] [(.int (if (p2 &&& (8 : Int32)) = 0 then (0 : Int32) else (1 : Int32))), (.int (3 : Int32)), (.ref b65)]))
      refine own_stZ X78 hx hZ e78 A78 (by decide) (by show (3 : Int32).toNatClampNeg < 8; decide) (hb hby at_207) (by split <;> rfl) ?_
      intro T83 h83 X83 e83 W83 A83
      have f84 := f79.other W83 ne_b61_b65
      have f85 := f80.wr W83
      have f87 := f82.wr W83
      have Z83 := Nat.le_trans Z78 (Keep.of_wr W83).1
      have A83 : own_Ar Z h83 b65 .boolean (List.map Value.int [(if (p2 &&& (1 : Int32)) = 0 then (0 : Int32) else (1 : Int32)), (if (p2 &&& (2 : Int32)) = 0 then (0 : Int32) else (1 : Int32)), (if (p2 &&& (4 : Int32)) = 0 then (0 : Int32) else (1 : Int32)), (if (p2 &&& (8 : Int32)) = 0 then (0 : Int32) else (1 : Int32)), (0 : Int32), (0 : Int32), (0 : Int32), (0 : Int32)]) := A83
      have N83 := Fr.snoc X83 N78 g_b65
      show own_Fin _ _ _ _ _ _ _ (T83.setTop (mkF m 208 #[.val (.int p0), .val (.int p1), .val (.int p2), .val (.int (1 : Int32)), .val (.int xa), .val (.int xb), .val (.int xc), .val (.int xd), .val (.ref b61), .val (.ref b65), .unset, .unset, .unset] []))
      refine own_go (fun _ kk => XS.aload X83.here hx rfl (hb hby at_208) rfl rfl (XS.iconst X83.here hx rfl (hb hby at_210) (XS.iloadN X83.here hx rfl (hb hby at_211) rfl (XS.bipush X83.here hx rfl (hb hby at_212) (XS.iand X83.here hx rfl (hb hby at_214) rfl kk))))) ?_
      show own_Fin _ _ _ _ _ _ _ (T83.setTop (mkF m 215 #[.val (.int p0), .val (.int p1), .val (.int p2), .val (.int (1 : Int32)), .val (.int xa), .val (.int xb), .val (.int xc), .val (.int xd), .val (.ref b61), .val (.ref b65), .unset, .unset, .unset] [(.int (p2 &&& (16 : Int32))), (.int (4 : Int32)), (.ref b65)]))
      refine own_go (U' := T83.setTop (mkF m 223 #[.val (.int p0), .val (.int p1), .val (.int p2), .val (.int (1 : Int32)), .val (.int xa), .val (.int xb), .val (.int xc), .val (.int xd), .val (.ref b61), .val (.ref b65), .unset, .unset, .unset] [(.int (if (p2 &&& (16 : Int32)) = 0 then (0 : Int32) else (1 : Int32))), (.int (4 : Int32)), (.ref b65)])) (fun t k => ?_) ?_
      · by_cases hd215 : (p2 &&& (16 : Int32)) = 0
        · simp only [if_pos hd215] at k
          refine XS.ifYes X83.here hx rfl (pc0 := 215) (pc' := 222) rfl (hb hby at_215) rfl (XT.i0_eq_t hd215) (by decide) (by decide) (XS.iconst X83.here hx rfl (hb hby at_222) ?_)
          show Steps p.tables e below (T83.setTop (mkF m 223 #[.val (.int p0), .val (.int p1), .val (.int p2), .val (.int (1 : Int32)), .val (.int xa), .val (.int xb), .val (.int xc), .val (.int xd), .val (.ref b61), .val (.ref b65), .unset, .unset, .unset] [(.int (0 : Int32)), (.int (4 : Int32)), (.ref b65)])) _
          exact k
        · simp only [if_neg hd215] at k
          refine XS.ifNo X83.here hx rfl (hb hby at_215) rfl (XT.i0_eq_f hd215) (XS.iconst X83.here hx rfl (hb hby at_218) (XS.goto X83.here hx rfl (pc0 := 219) (pc' := 223) rfl (hb hby at_219) (by decide) (by decide) ?_))
          show Steps p.tables e below (T83.setTop (mkF m 223 #[.val (.int p0), .val (.int p1), .val (.int p2), .val (.int (1 : Int32)), .val (.int xa), .val (.int xb), .val (.int xc), .val (.int xd), .val (.ref b61), .val (.ref b65), .unset, .unset, .unset] [(.int (1 : Int32)), (.int (4 : Int32)), (.ref b65)])) _
          exact k
      show own_Fin _ _ _ _ _ _ _ (T83.setTop (mkF m 223 #[.val (.int p0), .val (.int p1), .val (.int p2), .val (.int (1 : Int32)), .val (.int xa), .val (.int xb), .val (.int xc), .val (.int xd), .val (.ref b61), .val (.ref b65), .unset, .unset, .unset] [(.int (if (p2 &&& (16 : Int32)) = 0 then (0 : Int32) else (1 : Int32))), (.int (4 : Int32)), (.ref b65)]))
      refine own_stZ X83 hx hZ e83 A83 (by decide) (by show (4 : Int32).toNatClampNeg < 8; decide) (hb hby at_223) (by split <;> rfl) ?_
      intro T88 h88 X88 e88 W88 A88
      have f89 := f84.other W88 ne_b61_b65
      have f90 := f85.wr W88
      have f92 := f87.wr W88
      have Z88 := Nat.le_trans Z83 (Keep.of_wr W88).1
      have A88 : own_Ar Z h88 b65 .boolean (List.map Value.int [(if (p2 &&& (1 : Int32)) = 0 then (0 : Int32) else (1 : Int32)), (if (p2 &&& (2 : Int32)) = 0 then (0 : Int32) else (1 : Int32)), (if (p2 &&& (4 : Int32)) = 0 then (0 : Int32) else (1 : Int32)), (if (p2 &&& (8 : Int32)) = 0 then (0 : Int32) else (1 : Int32)), (if (p2 &&& (16 : Int32)) = 0 then (0 : Int32) else (1 : Int32)), (0 : Int32), (0 : Int32), (0 : Int32)]) := A88
      have N88 := Fr.snoc X88 N83 g_b65
      show own_Fin _ _ _ _ _ _ _ (T88.setTop (mkF m 224 #[.val (.int p0), .val (.int p1), .val (.int p2), .val (.int (1 : Int32)), .val (.int xa), .val (.int xb), .val (.int xc), .val (.int xd), .val (.ref b61), .val (.ref b65), .unset, .unset, .unset] []))
      refine own_go (fun _ kk => XS.aload X88.here hx rfl (hb hby at_224) rfl rfl (XS.iconst X88.here hx rfl (hb hby at_226) (XS.iloadN X88.here hx rfl (hb hby at_227) rfl (XS.bipush X88.here hx rfl (hb hby at_228) (XS.iand X88.here hx rfl (hb hby at_230) rfl kk))))) ?_
      show own_Fin _ _ _ _ _ _ _ (T88.setTop (mkF m 231 #[.val (.int p0), .val (.int p1), .val (.int p2), .val (.int (1 : Int32)), .val (.int xa), .val (.int xb), .val (.int xc), .val (.int xd), .val (.ref b61), .val (.ref b65), .unset, .unset, .unset] [(.int (p2 &&& (32 : Int32))), (.int (5 : Int32)), (.ref b65)]))
      refine own_go (U' := T88.setTop (mkF m 239 #[.val (.int p0), .val (.int p1), .val (.int p2), .val (.int (1 : Int32)), .val (.int xa), .val (.int xb), .val (.int xc), .val (.int xd), .val (.ref b61), .val (.ref b65), .unset, .unset, .unset] [(.int (if (p2 &&& (32 : Int32)) = 0 then (0 : Int32) else (1 : Int32))), (.int (5 : Int32)), (.ref b65)])) (fun t k => ?_) ?_
      · by_cases hd231 : (p2 &&& (32 : Int32)) = 0
        · simp only [if_pos hd231] at k
          refine XS.ifYes X88.here hx rfl (pc0 := 231) (pc' := 238) rfl (hb hby at_231) rfl (XT.i0_eq_t hd231) (by decide) (by decide) (XS.iconst X88.here hx rfl (hb hby at_238) ?_)
          show Steps p.tables e below (T88.setTop (mkF m 239 #[.val (.int p0), .val (.int p1), .val (.int p2), .val (.int (1 : Int32)), .val (.int xa), .val (.int xb), .val (.int xc), .val (.int xd), .val (.ref b61), .val (.ref b65), .unset, .unset, .unset] [(.int (0 : Int32)), (.int (5 : Int32)), (.ref b65)])) _
          exact k
        · simp only [if_neg hd231] at k
          refine XS.ifNo X88.here hx rfl (hb hby at_231) rfl (XT.i0_eq_f hd231) (XS.iconst X88.here hx rfl (hb hby at_234) (XS.goto X88.here hx rfl (pc0 := 235) (pc' := 239) rfl (hb hby at_235) (by decide) (by decide) ?_))
          show Steps p.tables e below (T88.setTop (mkF m 239 #[.val (.int p0), .val (.int p1), .val (.int p2), .val (.int (1 : Int32)), .val (.int xa), .val (.int xb), .val (.int xc), .val (.int xd), .val (.ref b61), .val (.ref b65), .unset, .unset, .unset] [(.int (1 : Int32)), (.int (5 : Int32)), (.ref b65)])) _
          exact k
      show own_Fin _ _ _ _ _ _ _ (T88.setTop (mkF m 239 #[.val (.int p0), .val (.int p1), .val (.int p2), .val (.int (1 : Int32)), .val (.int xa), .val (.int xb), .val (.int xc), .val (.int xd), .val (.ref b61), .val (.ref b65), .unset, .unset, .unset] [(.int (if (p2 &&& (32 : Int32)) = 0 then (0 : Int32) else (1 : Int32))), (.int (5 : Int32)), (.ref b65)]))
      refine own_stZ X88 hx hZ e88 A88 (by decide) (by show (5 : Int32).toNatClampNeg < 8; decide) (hb hby at_239) (by split <;> rfl) ?_
      intro T93 h93 X93 e93 W93 A93
      have f94 := f89.other W93 ne_b61_b65
      have f95 := f90.wr W93
      have f97 := f92.wr W93
      have Z93 := Nat.le_trans Z88 (Keep.of_wr W93).1
      have A93 : own_Ar Z h93 b65 .boolean (List.map Value.int [(if (p2 &&& (1 : Int32)) = 0 then (0 : Int32) else (1 : Int32)), (if (p2 &&& (2 : Int32)) = 0 then (0 : Int32) else (1 : Int32)), (if (p2 &&& (4 : Int32)) = 0 then (0 : Int32) else (1 : Int32)), (if (p2 &&& (8 : Int32)) = 0 then (0 : Int32) else (1 : Int32)), (if (p2 &&& (16 : Int32)) = 0 then (0 : Int32) else (1 : Int32)), (if (p2 &&& (32 : Int32)) = 0 then (0 : Int32) else (1 : Int32)), (0 : Int32), (0 : Int32)]) := A93
      have N93 := Fr.snoc X93 N88 g_b65
      show own_Fin _ _ _ _ _ _ _ (T93.setTop (mkF m 240 #[.val (.int p0), .val (.int p1), .val (.int p2), .val (.int (1 : Int32)), .val (.int xa), .val (.int xb), .val (.int xc), .val (.int xd), .val (.ref b61), .val (.ref b65), .unset, .unset, .unset] []))
      refine own_go (fun _ kk => XS.aload X93.here hx rfl (hb hby at_240) rfl rfl (XS.bipush X93.here hx rfl (hb hby at_242) (XS.iloadN X93.here hx rfl (hb hby at_244) rfl (XS.bipush X93.here hx rfl (hb hby at_245) (XS.iand X93.here hx rfl (hb hby at_247) rfl kk))))) ?_
      show own_Fin _ _ _ _ _ _ _ (T93.setTop (mkF m 248 #[.val (.int p0), .val (.int p1), .val (.int p2), .val (.int (1 : Int32)), .val (.int xa), .val (.int xb), .val (.int xc), .val (.int xd), .val (.ref b61), .val (.ref b65), .unset, .unset, .unset] [(.int (p2 &&& (64 : Int32))), (.int (6 : Int32)), (.ref b65)]))
      refine own_go (U' := T93.setTop (mkF m 256 #[.val (.int p0), .val (.int p1), .val (.int p2), .val (.int (1 : Int32)), .val (.int xa), .val (.int xb), .val (.int xc), .val (.int xd), .val (.ref b61), .val (.ref b65), .unset, .unset, .unset] [(.int (if (p2 &&& (64 : Int32)) = 0 then (0 : Int32) else (1 : Int32))), (.int (6 : Int32)), (.ref b65)])) (fun t k => ?_) ?_
      · by_cases hd248 : (p2 &&& (64 : Int32)) = 0
        · simp only [if_pos hd248] at k
          refine XS.ifYes X93.here hx rfl (pc0 := 248) (pc' := 255) rfl (hb hby at_248) rfl (XT.i0_eq_t hd248) (by decide) (by decide) (XS.iconst X93.here hx rfl (hb hby at_255) ?_)
          show Steps p.tables e below (T93.setTop (mkF m 256 #[.val (.int p0), .val (.int p1), .val (.int p2), .val (.int (1 : Int32)), .val (.int xa), .val (.int xb), .val (.int xc), .val (.int xd), .val (.ref b61), .val (.ref b65), .unset, .unset, .unset] [(.int (0 : Int32)), (.int (6 : Int32)), (.ref b65)])) _
          exact k
        · simp only [if_neg hd248] at k
          refine XS.ifNo X93.here hx rfl (hb hby at_248) rfl (XT.i0_eq_f hd248) (XS.iconst X93.here hx rfl (hb hby at_251) (XS.goto X93.here hx rfl (pc0 := 252) (pc' := 256) rfl (hb hby at_252) (by decide) (by decide) ?_))
          show Steps p.tables e below (T93.setTop (mkF m 256 #[.val (.int p0), .val (.int p1), .val (.int p2), .val (.int (1 : Int32)), .val (.int xa), .val (.int xb), .val (.int xc), .val (.int xd), .val (.ref b61), .val (.ref b65), .unset, .unset, .unset] [(.int (1 : Int32)), (.int (6 : Int32)), (.ref b65)])) _
          exact k
      show own_Fin _ _ _ _ _ _ _ (T93.setTop (mkF m 256 #[.val (.int p0), .val (.int p1), .val (.int p2), .val (.int (1 : Int32)), .val (.int xa), .val (.int xb), .val (.int xc), .val (.int xd), .val (.ref b61), .val (.ref b65), .unset, .unset, .unset] [(.int (if (p2 &&& (64 : Int32)) = 0 then (0 : Int32) else (1 : Int32))), (.int (6 : Int32)), (.ref b65)]))
      refine own_stZ X93 hx hZ e93 A93 (by decide) (by show (6 : Int32).toNatClampNeg < 8; decide) (hb hby at_256) (by split <;> rfl) ?_
      intro T98 h98 X98 e98 W98 A98
      have f99 := f94.other W98 ne_b61_b65
      have f100 := f95.wr W98
      have f102 := f97.wr W98
      have Z98 := Nat.le_trans Z93 (Keep.of_wr W98).1
      have A98 : own_Ar Z h98 b65 .boolean (List.map Value.int [(if (p2 &&& (1 : Int32)) = 0 then (0 : Int32) else (1 : Int32)), (if (p2 &&& (2 : Int32)) = 0 then (0 : Int32) else (1 : Int32)), (if (p2 &&& (4 : Int32)) = 0 then (0 : Int32) else (1 : Int32)), (if (p2 &&& (8 : Int32)) = 0 then (0 : Int32) else (1 : Int32)), (if (p2 &&& (16 : Int32)) = 0 then (0 : Int32) else (1 : Int32)), (if (p2 &&& (32 : Int32)) = 0 then (0 : Int32) else (1 : Int32)), (if (p2 &&& (64 : Int32)) = 0 then (0 : Int32) else (1 : Int32)), (0 : Int32)]) := A98
      have N98 := Fr.snoc X98 N93 g_b65
      show own_Fin _ _ _ _ _ _ _ (T98.setTop (mkF m 257 #[.val (.int p0), .val (.int p1), .val (.int p2), .val (.int (1 : Int32)), .val (.int xa), .val (.int xb), .val (.int xc), .val (.int xd), .val (.ref b61), .val (.ref b65), .unset, .unset, .unset] []))
      refine own_go (fun _ kk => XS.aload X98.here hx rfl (hb hby at_257) rfl rfl (XS.bipush X98.here hx rfl (hb hby at_259) (XS.iloadN X98.here hx rfl (hb hby at_261) rfl (XS.sipush X98.here hx rfl (hb hby at_262) (XS.iand X98.here hx rfl (hb hby at_265) rfl kk))))) ?_
      show own_Fin _ _ _ _ _ _ _ (T98.setTop (mkF m 266 #[.val (.int p0), .val (.int p1), .val (.int p2), .val (.int (1 : Int32)), .val (.int xa), .val (.int xb), .val (.int xc), .val (.int xd), .val (.ref b61), .val (.ref b65), .unset, .unset, .unset] [(.int (p2 &&& (128 : Int32))), (.int (7 : Int32)), (.ref b65)]))
      refine own_go (U' := T98.setTop (mkF m 274 #[.val (.int p0), .val (.int p1), .val (.int p2), .val (.int (1 : Int32)), .val (.int xa), .val (.int xb), .val (.int xc), .val (.int xd), .val (.ref b61), .val (.ref b65), .unset, .unset, .unset] [(.int (if (p2 &&& (128 : Int32)) = 0 then (0 : Int32) else (1 : Int32))), (.int (7 : Int32)), (.ref b65)])) (fun t k => ?_) ?_
      · by_cases hd266 : (p2 &&& (128 : Int32)) = 0
        · simp only [if_pos hd266] at k
          refine XS.ifYes X98.here hx rfl (pc0 := 266) (pc' := 273) rfl (hb hby at_266) rfl (XT.i0_eq_t hd266) (by decide) (by decide) (XS.iconst X98.here hx rfl (hb hby at_273) ?_)
          show Steps p.tables e below (T98.setTop (mkF m 274 #[.val (.int p0), .val (.int p1), .val (.int p2), .val (.int (1 : Int32)), .val (.int xa), .val (.int xb), .val (.int xc), .val (.int xd), .val (.ref b61), .val (.ref b65), .unset, .unset, .unset] [(.int (0 : Int32)), (.int (7 : Int32)), (.ref b65)])) _
          exact k
        · simp only [if_neg hd266] at k
          refine XS.ifNo X98.here hx rfl (hb hby at_266) rfl (XT.i0_eq_f hd266) (XS.iconst X98.here hx rfl (hb hby at_269) (XS.goto X98.here hx rfl (pc0 := 270) (pc' := 274) rfl (hb hby at_270) (by decide) (by decide) ?_))
          show Steps p.tables e below (T98.setTop (mkF m 274 #[.val (.int p0), .val (.int p1), .val (.int p2), .val (.int (1 : Int32)), .val (.int xa), .val (.int xb), .val (.int xc), .val (.int xd), .val (.ref b61), .val (.ref b65), .unset, .unset, .unset] [(.int (1 : Int32)), (.int (7 : Int32)), (.ref b65)])) _
          exact k
      show own_Fin _ _ _ _ _ _ _ (T98.setTop (mkF m 274 #[.val (.int p0), .val (.int p1), .val (.int p2), .val (.int (1 : Int32)), .val (.int xa), .val (.int xb), .val (.int xc), .val (.int xd), .val (.ref b61), .val (.ref b65), .unset, .unset, .unset] [(.int (if (p2 &&& (128 : Int32)) = 0 then (0 : Int32) else (1 : Int32))), (.int (7 : Int32)), (.ref b65)]))
      refine own_stZ X98 hx hZ e98 A98 (by decide) (by show (7 : Int32).toNatClampNeg < 8; decide) (hb hby at_274) (by split <;> rfl) ?_
      intro T103 h103 X103 e103 W103 A103
      have f104 := f99.other W103 ne_b61_b65
      have f105 := f100.wr W103
      have f107 := f102.wr W103
      have Z103 := Nat.le_trans Z98 (Keep.of_wr W103).1
      have A103 : own_Ar Z h103 b65 .boolean (List.map Value.int [(if (p2 &&& (1 : Int32)) = 0 then (0 : Int32) else (1 : Int32)), (if (p2 &&& (2 : Int32)) = 0 then (0 : Int32) else (1 : Int32)), (if (p2 &&& (4 : Int32)) = 0 then (0 : Int32) else (1 : Int32)), (if (p2 &&& (8 : Int32)) = 0 then (0 : Int32) else (1 : Int32)), (if (p2 &&& (16 : Int32)) = 0 then (0 : Int32) else (1 : Int32)), (if (p2 &&& (32 : Int32)) = 0 then (0 : Int32) else (1 : Int32)), (if (p2 &&& (64 : Int32)) = 0 then (0 : Int32) else (1 : Int32)), (if (p2 &&& (128 : Int32)) = 0 then (0 : Int32) else (1 : Int32))]) := A103
      have N103 := Fr.snoc X103 N98 g_b65
      show own_Fin _ _ _ _ _ _ _ (T103.setTop (mkF m 275 #[.val (.int p0), .val (.int p1), .val (.int p2), .val (.int (1 : Int32)), .val (.int xa), .val (.int xb), .val (.int xc), .val (.int xd), .val (.ref b61), .val (.ref b65), .unset, .unset, .unset] []))
      obtain ⟨bs, hbs⟩ : ∃ bs, bs = [(if (p2 &&& (1 : Int32)) = 0 then (0 : Int32) else (1 : Int32)), (if (p2 &&& (2 : Int32)) = 0 then (0 : Int32) else (1 : Int32)), (if (p2 &&& (4 : Int32)) = 0 then (0 : Int32) else (1 : Int32)), (if (p2 &&& (8 : Int32)) = 0 then (0 : Int32) else (1 : Int32)), (if (p2 &&& (16 : Int32)) = 0 then (0 : Int32) else (1 : Int32)), (if (p2 &&& (32 : Int32)) = 0 then (0 : Int32) else (1 : Int32)), (if (p2 &&& (64 : Int32)) = 0 then (0 : Int32) else (1 : Int32)), (if (p2 &&& (128 : Int32)) = 0 then (0 : Int32) else (1 : Int32))] := ⟨_, rfl⟩
      have Bb65 : own_Ar Z h103 b65 .boolean (List.map Value.int bs) := by rw [hbs]; exact A103
      have hbl : bs.length = 8 := by rw [hbs]; rfl
      have sa : ¬ xa < 0 ∧ xa.toNatClampNeg < bs.length := ⟨rxa.1, by rw [hbl]; exact rxa.2⟩
      have sb : ¬ xb < 0 ∧ xb.toNatClampNeg < bs.length := ⟨rxb.1, by rw [hbl]; exact rxb.2⟩
      have sc : ¬ xc < 0 ∧ xc.toNatClampNeg < bs.length := ⟨rxc.1, by rw [hbl]; exact rxc.2⟩
      have sd : ¬ xd < 0 ∧ xd.toNatClampNeg < bs.length := ⟨rxd.1, by rw [hbl]; exact rxd.2⟩
      refine own_go (fun _ kk => XS.iconst X103.here hx rfl (hb hby at_275) kk) ?_
      show own_Fin _ _ _ _ _ _ _ (T103.setTop (mkF m 276 #[.val (.int p0), .val (.int p1), .val (.int p2), .val (.int (1 : Int32)), .val (.int xa), .val (.int xb), .val (.int xc), .val (.int xd), .val (.ref b61), .val (.ref b65), .unset, .unset, .unset] [(.int (4 : Int32))]))
      refine own_newI X103 hx hZ (hw _ (List.mem_of_getElem? (i := 5) rfl)) e103 (hb hby at_276) (by decide) (cap := 4) (by decide) (by decide) (by decide) (by decide) ?_
      intro T108 h108 b108 g108 X108 e108 E108 A108 D108
      have g_b108 : n0 ≤ b108 := Nat.le_trans Z103 (Nat.le_of_eq g108.symm)
      have ne_b61_b108 : b61 ≠ b108 := Nat.ne_of_lt (Nat.lt_of_lt_of_le f104.lt (Nat.le_of_eq g108.symm))
      have ne_b65_b108 : b65 ≠ b108 := Nat.ne_of_lt (Nat.lt_of_lt_of_le Bb65.lt (Nat.le_of_eq g108.symm))
      have f109 := f104.ext E108
      have f110 := f105.ext E108
      have f111 := Bb65.ext E108
      have f112 := f107.ext E108
      have Z108 := Nat.le_trans Z103 E108.1
      have A108 : own_Ar Z h108 b108 .int (List.map Value.int [(0 : Int32), (0 : Int32), (0 : Int32), (0 : Int32)]) := A108
      show own_Fin _ _ _ _ _ _ _ (T108.setTop (mkF m 278 #[.val (.int p0), .val (.int p1), .val (.int p2), .val (.int (1 : Int32)), .val (.int xa), .val (.int xb), .val (.int xc), .val (.int xd), .val (.ref b61), .val (.ref b65), .unset, .unset, .unset] [(.ref b108)]))
      refine own_go (fun _ kk => XS.astore X108.here hx rfl (hb hby at_278) rfl rfl (l' := #[.val (.int p0), .val (.int p1), .val (.int p2), .val (.int (1 : Int32)), .val (.int xa), .val (.int xb), .val (.int xc), .val (.int xd), .val (.ref b61), .val (.ref b65), .val (.ref b108), .unset, .unset]) rfl (XS.iconst X108.here hx rfl (hb hby at_280) (XS.istore X108.here hx rfl (hb hby at_281) rfl (l' := #[.val (.int p0), .val (.int p1), .val (.int p2), .val (.int (1 : Int32)), .val (.int xa), .val (.int xb), .val (.int xc), .val (.int xd), .val (.ref b61), .val (.ref b65), .val (.ref b108), .val (.int (0 : Int32)), .unset]) rfl (XS.iloadN X108.here hx rfl (hb hby at_283) rfl (XS.ifNo X108.here hx rfl (hb hby at_284) rfl (XT.i0_le_f (by decide)) (XS.aload X108.here hx rfl (hb hby at_287) rfl rfl (XS.iload X108.here hx rfl (hb hby at_289) rfl kk))))))) ?_
      show own_Fin _ _ _ _ _ _ _ (T108.setTop (mkF m 291 #[.val (.int p0), .val (.int p1), .val (.int p2), .val (.int (1 : Int32)), .val (.int xa), .val (.int xb), .val (.int xc), .val (.int xd), .val (.ref b61), .val (.ref b65), .val (.ref b108), .val (.int (0 : Int32)), .unset] [(.int xa), (.ref b65)]))
      refine own_ldZ X108 hx hZ e108 f111 sa.1 sa.2 (hb hby at_291) ?_
      show own_Fin _ _ _ _ _ _ _ (T108.setTop (mkF m 292 #[.val (.int p0), .val (.int p1), .val (.int p2), .val (.int (1 : Int32)), .val (.int xa), .val (.int xb), .val (.int xc), .val (.int xd), .val (.ref b61), .val (.ref b65), .val (.ref b108), .val (.int (0 : Int32)), .unset] [(.int (List.getD bs (xa).toNatClampNeg 0))]))
      by_cases hc292 : (List.getD bs (xa).toNatClampNeg 0) = 0
      · refine own_go (fun _ kk => XS.ifYes X108.here hx rfl (pc0 := 292) (pc' := 305) rfl (hb hby at_292) rfl (XT.i0_eq_t hc292) (by decide) (by decide) (XS.iloadN X108.here hx rfl (hb hby at_305) rfl (XS.iconst X108.here hx rfl (hb hby at_306) (XS.icmpYes X108.here hx rfl (pc0 := 307) (pc' := 328) rfl (hb hby at_307) rfl (XT.ii_le_t (by decide)) (by decide) (by decide) (XS.iloadN X108.here hx rfl (hb hby at_328) rfl (XS.iconst X108.here hx rfl (hb hby at_329) (XS.icmpYes X108.here hx rfl (pc0 := 330) (pc' := 351) rfl (hb hby at_330) rfl (XT.ii_le_t (by decide)) (by decide) (by decide) (XS.iloadN X108.here hx rfl (hb hby at_351) rfl (XS.iconst X108.here hx rfl (hb hby at_352) (XS.icmpYes X108.here hx rfl (pc0 := 353) (pc' := 374) rfl (hb hby at_353) rfl (XT.ii_le_t (by decide)) (by decide) (by decide) kk)))))))))) ?_
        show own_Fin _ _ _ _ _ _ _ (T108.setTop (mkF m 374 #[.val (.int p0), .val (.int p1), .val (.int p2), .val (.int (1 : Int32)), .val (.int xa), .val (.int xb), .val (.int xc), .val (.int xd), .val (.ref b61), .val (.ref b65), .val (.ref b108), .val (.int (0 : Int32)), .unset] []))
        refine own_go (fun _ kk => XS.aload X108.here hx rfl (hb hby at_374) rfl rfl (XS.aload X108.here hx rfl (hb hby at_376) rfl rfl kk)) ?_
        show own_Fin _ _ _ _ _ _ _ (T108.setTop (mkF m 378 #[.val (.int p0), .val (.int p1), .val (.int p2), .val (.int (1 : Int32)), .val (.int xa), .val (.int xb), .val (.int xc), .val (.int xd), .val (.ref b61), .val (.ref b65), .val (.ref b108), .val (.int (0 : Int32)), .unset] [(.ref b65), (.ref b61)]))
        refine own_callS X108 hx hZ hown (hw _ (List.mem_of_getElem? (i := 7) rfl)) (hw _ (List.mem_of_getElem? (i := 8) rfl)) (hw _ (List.mem_of_getElem? (i := 9) rfl)) (hw _ (List.mem_of_getElem? (i := 10) rfl)) (by decide) (rm2 l Z a0 hw b61 b65 h108 n0 Z108 [xa] bs f109 f111 (by show 1 ≤ 4; decide) (List.forall_mem_cons.mpr ⟨sa, (fun x h => nomatch h)⟩)) e108 (argsL := [(.ref b61), (.ref b65)]) (rest := []) rfl rfl (by rw [hml]; rfl) (lenOf pd_0_1 rfl) (hb hby at_378) (W := 0) (Nat.le_of_eq rfl) (by decide) (by decide) (by decide) (by decide) ?_
        rintro v113 T113 L113 X113 ⟨r113, rfl, M113, Kc113, sz113, A113⟩
        have N113 := Fr.app N103 M113
        have ne113 : r113 ≠ b61 := Nat.ne_of_gt (Nat.lt_of_lt_of_le f109.lt sz113)
        have f114 := f109.keep Kc113 nin0
        have f115 := f110.keep Kc113
        have f116 := f111.keep Kc113 nin0
        have f117 := f112.keep Kc113
        have f118 := A108.keep Kc113 nin0
        have f119 := D108.keep Kc113
        have Z113 := Nat.le_trans Z108 Kc113.1
        have F113 : own_Ar Z T113.heap r113 .int (List.map Value.int ([] : List Int32)) := by
          rw [List.filter_cons_of_neg (by rw [show own_mk bs xa = false from decide_eq_false (fun q => q hc292)]; decide), List.filter_nil] at A113
          exact A113
        show own_Fin _ _ _ _ _ _ _ (T113.setTop (mkF m 381 #[.val (.int p0), .val (.int p1), .val (.int p2), .val (.int (1 : Int32)), .val (.int xa), .val (.int xb), .val (.int xc), .val (.int xd), .val (.ref b61), .val (.ref b65), .val (.ref b108), .val (.int (0 : Int32)), .unset] [(.ref r113)]))
        refine own_go (fun _ kk => XS.astore X113.here hx rfl (hb hby at_381) rfl rfl (l' := #[.val (.int p0), .val (.int p1), .val (.int p2), .val (.int (1 : Int32)), .val (.int xa), .val (.int xb), .val (.int xc), .val (.int xd), .val (.ref b61), .val (.ref b65), .val (.ref b108), .val (.int (0 : Int32)), .val (.ref r113)]) rfl (XS.aload X113.here hx rfl (hb hby at_383) rfl rfl (XS.ifnullNo X113.here hx rfl (hb hby at_385) rfl (XS.aload X113.here hx rfl (hb hby at_388) rfl rfl (XS.aload X113.here hx rfl (hb hby at_390) rfl rfl (XT.acmpYes X113.here hx rfl (pc0 := 392) (pc' := 397) rfl (hb hby at_392) rfl rfl rfl (XT.aa_ne_t (fun q => ne113 (Value.ref.inj q))) (by decide) (by decide) (XS.aload X113.here hx rfl (hb hby at_397) rfl rfl kk))))))) ?_
        show own_Fin _ _ _ _ _ _ _ (T113.setTop (mkF m 399 #[.val (.int p0), .val (.int p1), .val (.int p2), .val (.int (1 : Int32)), .val (.int xa), .val (.int xb), .val (.int xc), .val (.int xd), .val (.ref b61), .val (.ref b65), .val (.ref b108), .val (.int (0 : Int32)), .val (.ref r113)] [(.ref b61)]))
        refine own_alen X113 hx hZ rfl f114 (hb hby at_399) ?_
        show own_Fin _ _ _ _ _ _ _ (T113.setTop (mkF m 400 #[.val (.int p0), .val (.int p1), .val (.int p2), .val (.int (1 : Int32)), .val (.int xa), .val (.int xb), .val (.int xc), .val (.int xd), .val (.ref b61), .val (.ref b65), .val (.ref b108), .val (.int (0 : Int32)), .val (.ref r113)] [(.int (1 : Int32))]))
        refine own_go (fun _ kk => XS.iloadN X113.here hx rfl (hb hby at_400) rfl (XS.icmpYes X113.here hx rfl (pc0 := 401) (pc' := 406) rfl (hb hby at_401) rfl (XT.ii_eq_t (by decide)) (by decide) (by decide) (XS.iloadN X113.here hx rfl (hb hby at_406) rfl (XS.ifNo X113.here hx rfl (hb hby at_407) rfl (XT.i0_le_f (by decide)) (XS.aload X113.here hx rfl (hb hby at_410) rfl rfl (XS.iconst X113.here hx rfl (hb hby at_412) kk)))))) ?_
        show own_Fin _ _ _ _ _ _ _ (T113.setTop (mkF m 413 #[.val (.int p0), .val (.int p1), .val (.int p2), .val (.int (1 : Int32)), .val (.int xa), .val (.int xb), .val (.int xc), .val (.int xd), .val (.ref b61), .val (.ref b65), .val (.ref b108), .val (.int (0 : Int32)), .val (.ref r113)] [(.int (0 : Int32)), (.ref b61)]))
        refine own_ldI X113 hx hZ rfl f114 (by decide) (by show (0 : Int32).toNatClampNeg < 1; decide) (hb hby at_413) ?_
        show own_Fin _ _ _ _ _ _ _ (T113.setTop (mkF m 414 #[.val (.int p0), .val (.int p1), .val (.int p2), .val (.int (1 : Int32)), .val (.int xa), .val (.int xb), .val (.int xc), .val (.int xd), .val (.ref b61), .val (.ref b65), .val (.ref b108), .val (.int (0 : Int32)), .val (.ref r113)] [(.int xa)]))
        refine own_go (fun _ kk => XS.iload X113.here hx rfl (hb hby at_414) rfl (XS.icmpYes X113.here hx rfl (pc0 := 416) (pc' := 421) rfl (hb hby at_416) rfl (XT.ii_eq_t rfl) (by decide) (by decide) (XS.iloadN X113.here hx rfl (hb hby at_421) rfl (XS.iconst X113.here hx rfl (hb hby at_422) (XS.icmpYes X113.here hx rfl (pc0 := 423) (pc' := 437) rfl (hb hby at_423) rfl (XT.ii_le_t (by decide)) (by decide) (by decide) (XS.iloadN X113.here hx rfl (hb hby at_437) rfl (XS.iconst X113.here hx rfl (hb hby at_438) (XS.icmpYes X113.here hx rfl (pc0 := 439) (pc' := 453) rfl (hb hby at_439) rfl (XT.ii_le_t (by decide)) (by decide) (by decide) (XS.iloadN X113.here hx rfl (hb hby at_453) rfl (XS.iconst X113.here hx rfl (hb hby at_454) kk)))))))))) ?_
        show own_Fin _ _ _ _ _ _ _ (T113.setTop (mkF m 455 #[.val (.int p0), .val (.int p1), .val (.int p2), .val (.int (1 : Int32)), .val (.int xa), .val (.int xb), .val (.int xc), .val (.int xd), .val (.ref b61), .val (.ref b65), .val (.ref b108), .val (.int (0 : Int32)), .val (.ref r113)] [(.int (3 : Int32)), (.int (1 : Int32))]))
        refine own_go (fun _ kk => XS.icmpYes X113.here hx rfl (pc0 := 455) (pc' := 469) rfl (hb hby at_455) rfl (XT.ii_le_t (by decide)) (by decide) (by decide) (XS.aload X113.here hx rfl (hb hby at_469) rfl rfl kk)) ?_
        show own_Fin _ _ _ _ _ _ _ (T113.setTop (mkF m 471 #[.val (.int p0), .val (.int p1), .val (.int p2), .val (.int (1 : Int32)), .val (.int xa), .val (.int xb), .val (.int xc), .val (.int xd), .val (.ref b61), .val (.ref b65), .val (.ref b108), .val (.int (0 : Int32)), .val (.ref r113)] [(.ref r113)]))
        refine own_alen X113 hx hZ rfl F113 (hb hby at_471) ?_
        show own_Fin _ _ _ _ _ _ _ (T113.setTop (mkF m 472 #[.val (.int p0), .val (.int p1), .val (.int p2), .val (.int (1 : Int32)), .val (.int xa), .val (.int xb), .val (.int xc), .val (.int xd), .val (.ref b61), .val (.ref b65), .val (.ref b108), .val (.int (0 : Int32)), .val (.ref r113)] [(.int (0 : Int32))]))
        refine own_go (fun _ kk => XS.iload X113.here hx rfl (hb hby at_472) rfl (XS.icmpYes X113.here hx rfl (pc0 := 474) (pc' := 479) rfl (hb hby at_474) rfl (XT.ii_eq_t (by decide)) (by decide) (by decide) (XS.iload X113.here hx rfl (hb hby at_479) rfl (XS.ifYes X113.here hx rfl (pc0 := 481) (pc' := 497) rfl (hb hby at_481) rfl (XT.i0_le_t (by decide)) (by decide) (by decide) (XS.iload X113.here hx rfl (hb hby at_497) rfl (XS.iconst X113.here hx rfl (hb hby at_499) (XS.icmpYes X113.here hx rfl (pc0 := 500) (pc' := 516) rfl (hb hby at_500) rfl (XT.ii_le_t (by decide)) (by decide) (by decide) (XS.iload X113.here hx rfl (hb hby at_516) rfl (XS.iconst X113.here hx rfl (hb hby at_518) (XS.icmpYes X113.here hx rfl (pc0 := 519) (pc' := 535) rfl (hb hby at_519) rfl (XT.ii_le_t (by decide)) (by decide) (by decide) kk)))))))))) ?_
        show own_Fin _ _ _ _ _ _ _ (T113.setTop (mkF m 535 #[.val (.int p0), .val (.int p1), .val (.int p2), .val (.int (1 : Int32)), .val (.int xa), .val (.int xb), .val (.int xc), .val (.int xd), .val (.ref b61), .val (.ref b65), .val (.ref b108), .val (.int (0 : Int32)), .val (.ref r113)] []))
        refine own_go (fun _ kk => XS.iload X113.here hx rfl (hb hby at_535) rfl (XS.iconst X113.here hx rfl (hb hby at_537) (XS.icmpYes X113.here hx rfl (pc0 := 538) (pc' := 554) rfl (hb hby at_538) rfl (XT.ii_le_t (by decide)) (by decide) (by decide) (XS.iconst X113.here hx rfl (hb hby at_554) kk)))) ?_
        show own_Fin _ _ _ _ _ _ _ (T113.setTop (mkF m 555 #[.val (.int p0), .val (.int p1), .val (.int p2), .val (.int (1 : Int32)), .val (.int xa), .val (.int xb), .val (.int xc), .val (.int xd), .val (.ref b61), .val (.ref b65), .val (.ref b108), .val (.int (0 : Int32)), .val (.ref r113)] [(.int (1 : Int32))]))
        exact own_retZ X113 hx hlk hret rfl (hb hby at_555) (by decide) (by decide) ⟨rfl, N113⟩
      · refine own_go (fun _ kk => XS.ifNo X108.here hx rfl (hb hby at_292) rfl (XT.i0_eq_f hc292) (XS.aload X108.here hx rfl (hb hby at_295) rfl rfl (XS.iload X108.here hx rfl (hb hby at_297) rfl (XS.iload X108.here hx rfl (hb hby at_299) rfl kk)))) ?_
        show own_Fin _ _ _ _ _ _ _ (T108.setTop (mkF m 301 #[.val (.int p0), .val (.int p1), .val (.int p2), .val (.int (1 : Int32)), .val (.int xa), .val (.int xb), .val (.int xc), .val (.int xd), .val (.ref b61), .val (.ref b65), .val (.ref b108), .val (.int (0 : Int32)), .unset] [(.int xa), (.int (0 : Int32)), (.ref b108)]))
        refine own_stI X108 hx hZ e108 A108 (by decide) (by show (0 : Int32).toNatClampNeg < 4; decide) (hb hby at_301) ?_
        intro T120 h120 X120 e120 W120 A120
        have f121 := f109.other W120 ne_b61_b108
        have f122 := f110.wr W120
        have f123 := f111.other W120 ne_b65_b108
        have f124 := f112.wr W120
        have f126 := D108.wr W120
        have Z120 := Nat.le_trans Z108 (Keep.of_wr W120).1
        have A120 : own_Ar Z h120 b108 .int (List.map Value.int [xa, (0 : Int32), (0 : Int32), (0 : Int32)]) := A120
        have N120 := Fr.snoc X120 N103 g_b108
        show own_Fin _ _ _ _ _ _ _ (T120.setTop (mkF m 302 #[.val (.int p0), .val (.int p1), .val (.int p2), .val (.int (1 : Int32)), .val (.int xa), .val (.int xb), .val (.int xc), .val (.int xd), .val (.ref b61), .val (.ref b65), .val (.ref b108), .val (.int (0 : Int32)), .unset] []))
        refine own_go (fun _ kk => XS.iinc X120.here hx rfl (hb hby at_302) rfl (l' := #[.val (.int p0), .val (.int p1), .val (.int p2), .val (.int (1 : Int32)), .val (.int xa), .val (.int xb), .val (.int xc), .val (.int xd), .val (.ref b61), .val (.ref b65), .val (.ref b108), .val (.int (1 : Int32)), .unset]) rfl (XS.iloadN X120.here hx rfl (hb hby at_305) rfl (XS.iconst X120.here hx rfl (hb hby at_306) (XS.icmpYes X120.here hx rfl (pc0 := 307) (pc' := 328) rfl (hb hby at_307) rfl (XT.ii_le_t (by decide)) (by decide) (by decide) (XS.iloadN X120.here hx rfl (hb hby at_328) rfl (XS.iconst X120.here hx rfl (hb hby at_329) (XS.icmpYes X120.here hx rfl (pc0 := 330) (pc' := 351) rfl (hb hby at_330) rfl (XT.ii_le_t (by decide)) (by decide) (by decide) (XS.iloadN X120.here hx rfl (hb hby at_351) rfl (XS.iconst X120.here hx rfl (hb hby at_352) (XS.icmpYes X120.here hx rfl (pc0 := 353) (pc' := 374) rfl (hb hby at_353) rfl (XT.ii_le_t (by decide)) (by decide) (by decide) kk)))))))))) ?_
        show own_Fin _ _ _ _ _ _ _ (T120.setTop (mkF m 374 #[.val (.int p0), .val (.int p1), .val (.int p2), .val (.int (1 : Int32)), .val (.int xa), .val (.int xb), .val (.int xc), .val (.int xd), .val (.ref b61), .val (.ref b65), .val (.ref b108), .val (.int (1 : Int32)), .unset] []))
        refine own_go (fun _ kk => XS.aload X120.here hx rfl (hb hby at_374) rfl rfl (XS.aload X120.here hx rfl (hb hby at_376) rfl rfl kk)) ?_
        show own_Fin _ _ _ _ _ _ _ (T120.setTop (mkF m 378 #[.val (.int p0), .val (.int p1), .val (.int p2), .val (.int (1 : Int32)), .val (.int xa), .val (.int xb), .val (.int xc), .val (.int xd), .val (.ref b61), .val (.ref b65), .val (.ref b108), .val (.int (1 : Int32)), .unset] [(.ref b65), (.ref b61)]))
        refine own_callS X120 hx hZ hown (hw _ (List.mem_of_getElem? (i := 7) rfl)) (hw _ (List.mem_of_getElem? (i := 8) rfl)) (hw _ (List.mem_of_getElem? (i := 9) rfl)) (hw _ (List.mem_of_getElem? (i := 10) rfl)) (by decide) (rm2 l Z a0 hw b61 b65 h120 n0 Z120 [xa] bs f121 f123 (by show 1 ≤ 4; decide) (List.forall_mem_cons.mpr ⟨sa, (fun x h => nomatch h)⟩)) e120 (argsL := [(.ref b61), (.ref b65)]) (rest := []) rfl rfl (by rw [hml]; rfl) (lenOf pd_0_1 rfl) (hb hby at_378) (W := 0) (Nat.le_of_eq rfl) (by decide) (by decide) (by decide) (by decide) ?_
        rintro v127 T127 L127 X127 ⟨r127, rfl, M127, Kc127, sz127, A127⟩
        have N127 := Fr.app N120 M127
        have ne127 : r127 ≠ b61 := Nat.ne_of_gt (Nat.lt_of_lt_of_le f121.lt sz127)
        have f128 := f121.keep Kc127 nin0
        have f129 := f122.keep Kc127
        have f130 := f123.keep Kc127 nin0
        have f131 := f124.keep Kc127
        have f132 := A120.keep Kc127 nin0
        have f133 := f126.keep Kc127
        have Z127 := Nat.le_trans Z120 Kc127.1
        have F127 : own_Ar Z T127.heap r127 .int (List.map Value.int [xa]) := by
          rw [List.filter_cons_of_pos (show own_mk bs xa = true from decide_eq_true hc292), List.filter_nil] at A127
          exact A127
        show own_Fin _ _ _ _ _ _ _ (T127.setTop (mkF m 381 #[.val (.int p0), .val (.int p1), .val (.int p2), .val (.int (1 : Int32)), .val (.int xa), .val (.int xb), .val (.int xc), .val (.int xd), .val (.ref b61), .val (.ref b65), .val (.ref b108), .val (.int (1 : Int32)), .unset] [(.ref r127)]))
        refine own_go (fun _ kk => XS.astore X127.here hx rfl (hb hby at_381) rfl rfl (l' := #[.val (.int p0), .val (.int p1), .val (.int p2), .val (.int (1 : Int32)), .val (.int xa), .val (.int xb), .val (.int xc), .val (.int xd), .val (.ref b61), .val (.ref b65), .val (.ref b108), .val (.int (1 : Int32)), .val (.ref r127)]) rfl (XS.aload X127.here hx rfl (hb hby at_383) rfl rfl (XS.ifnullNo X127.here hx rfl (hb hby at_385) rfl (XS.aload X127.here hx rfl (hb hby at_388) rfl rfl (XS.aload X127.here hx rfl (hb hby at_390) rfl rfl (XT.acmpYes X127.here hx rfl (pc0 := 392) (pc' := 397) rfl (hb hby at_392) rfl rfl rfl (XT.aa_ne_t (fun q => ne127 (Value.ref.inj q))) (by decide) (by decide) (XS.aload X127.here hx rfl (hb hby at_397) rfl rfl kk))))))) ?_
        show own_Fin _ _ _ _ _ _ _ (T127.setTop (mkF m 399 #[.val (.int p0), .val (.int p1), .val (.int p2), .val (.int (1 : Int32)), .val (.int xa), .val (.int xb), .val (.int xc), .val (.int xd), .val (.ref b61), .val (.ref b65), .val (.ref b108), .val (.int (1 : Int32)), .val (.ref r127)] [(.ref b61)]))
        refine own_alen X127 hx hZ rfl f128 (hb hby at_399) ?_
        show own_Fin _ _ _ _ _ _ _ (T127.setTop (mkF m 400 #[.val (.int p0), .val (.int p1), .val (.int p2), .val (.int (1 : Int32)), .val (.int xa), .val (.int xb), .val (.int xc), .val (.int xd), .val (.ref b61), .val (.ref b65), .val (.ref b108), .val (.int (1 : Int32)), .val (.ref r127)] [(.int (1 : Int32))]))
        refine own_go (fun _ kk => XS.iloadN X127.here hx rfl (hb hby at_400) rfl (XS.icmpYes X127.here hx rfl (pc0 := 401) (pc' := 406) rfl (hb hby at_401) rfl (XT.ii_eq_t (by decide)) (by decide) (by decide) (XS.iloadN X127.here hx rfl (hb hby at_406) rfl (XS.ifNo X127.here hx rfl (hb hby at_407) rfl (XT.i0_le_f (by decide)) (XS.aload X127.here hx rfl (hb hby at_410) rfl rfl (XS.iconst X127.here hx rfl (hb hby at_412) kk)))))) ?_
        show own_Fin _ _ _ _ _ _ _ (T127.setTop (mkF m 413 #[.val (.int p0), .val (.int p1), .val (.int p2), .val (.int (1 : Int32)), .val (.int xa), .val (.int xb), .val (.int xc), .val (.int xd), .val (.ref b61), .val (.ref b65), .val (.ref b108), .val (.int (1 : Int32)), .val (.ref r127)] [(.int (0 : Int32)), (.ref b61)]))
        refine own_ldI X127 hx hZ rfl f128 (by decide) (by show (0 : Int32).toNatClampNeg < 1; decide) (hb hby at_413) ?_
        show own_Fin _ _ _ _ _ _ _ (T127.setTop (mkF m 414 #[.val (.int p0), .val (.int p1), .val (.int p2), .val (.int (1 : Int32)), .val (.int xa), .val (.int xb), .val (.int xc), .val (.int xd), .val (.ref b61), .val (.ref b65), .val (.ref b108), .val (.int (1 : Int32)), .val (.ref r127)] [(.int xa)]))
        refine own_go (fun _ kk => XS.iload X127.here hx rfl (hb hby at_414) rfl (XS.icmpYes X127.here hx rfl (pc0 := 416) (pc' := 421) rfl (hb hby at_416) rfl (XT.ii_eq_t rfl) (by decide) (by decide) (XS.iloadN X127.here hx rfl (hb hby at_421) rfl (XS.iconst X127.here hx rfl (hb hby at_422) (XS.icmpYes X127.here hx rfl (pc0 := 423) (pc' := 437) rfl (hb hby at_423) rfl (XT.ii_le_t (by decide)) (by decide) (by decide) (XS.iloadN X127.here hx rfl (hb hby at_437) rfl (XS.iconst X127.here hx rfl (hb hby at_438) (XS.icmpYes X127.here hx rfl (pc0 := 439) (pc' := 453) rfl (hb hby at_439) rfl (XT.ii_le_t (by decide)) (by decide) (by decide) (XS.iloadN X127.here hx rfl (hb hby at_453) rfl (XS.iconst X127.here hx rfl (hb hby at_454) kk)))))))))) ?_
        show own_Fin _ _ _ _ _ _ _ (T127.setTop (mkF m 455 #[.val (.int p0), .val (.int p1), .val (.int p2), .val (.int (1 : Int32)), .val (.int xa), .val (.int xb), .val (.int xc), .val (.int xd), .val (.ref b61), .val (.ref b65), .val (.ref b108), .val (.int (1 : Int32)), .val (.ref r127)] [(.int (3 : Int32)), (.int (1 : Int32))]))
        refine own_go (fun _ kk => XS.icmpYes X127.here hx rfl (pc0 := 455) (pc' := 469) rfl (hb hby at_455) rfl (XT.ii_le_t (by decide)) (by decide) (by decide) (XS.aload X127.here hx rfl (hb hby at_469) rfl rfl kk)) ?_
        show own_Fin _ _ _ _ _ _ _ (T127.setTop (mkF m 471 #[.val (.int p0), .val (.int p1), .val (.int p2), .val (.int (1 : Int32)), .val (.int xa), .val (.int xb), .val (.int xc), .val (.int xd), .val (.ref b61), .val (.ref b65), .val (.ref b108), .val (.int (1 : Int32)), .val (.ref r127)] [(.ref r127)]))
        refine own_alen X127 hx hZ rfl F127 (hb hby at_471) ?_
        show own_Fin _ _ _ _ _ _ _ (T127.setTop (mkF m 472 #[.val (.int p0), .val (.int p1), .val (.int p2), .val (.int (1 : Int32)), .val (.int xa), .val (.int xb), .val (.int xc), .val (.int xd), .val (.ref b61), .val (.ref b65), .val (.ref b108), .val (.int (1 : Int32)), .val (.ref r127)] [(.int (1 : Int32))]))
        refine own_go (fun _ kk => XS.iload X127.here hx rfl (hb hby at_472) rfl (XS.icmpYes X127.here hx rfl (pc0 := 474) (pc' := 479) rfl (hb hby at_474) rfl (XT.ii_eq_t (by decide)) (by decide) (by decide) (XS.iload X127.here hx rfl (hb hby at_479) rfl (XS.ifNo X127.here hx rfl (hb hby at_481) rfl (XT.i0_le_f (by decide)) (XS.aload X127.here hx rfl (hb hby at_484) rfl rfl (XS.iconst X127.here hx rfl (hb hby at_486) kk)))))) ?_
        show own_Fin _ _ _ _ _ _ _ (T127.setTop (mkF m 487 #[.val (.int p0), .val (.int p1), .val (.int p2), .val (.int (1 : Int32)), .val (.int xa), .val (.int xb), .val (.int xc), .val (.int xd), .val (.ref b61), .val (.ref b65), .val (.ref b108), .val (.int (1 : Int32)), .val (.ref r127)] [(.int (0 : Int32)), (.ref r127)]))
        refine own_ldI X127 hx hZ rfl F127 (by decide) (by show (0 : Int32).toNatClampNeg < 1; decide) (hb hby at_487) ?_
        show own_Fin _ _ _ _ _ _ _ (T127.setTop (mkF m 488 #[.val (.int p0), .val (.int p1), .val (.int p2), .val (.int (1 : Int32)), .val (.int xa), .val (.int xb), .val (.int xc), .val (.int xd), .val (.ref b61), .val (.ref b65), .val (.ref b108), .val (.int (1 : Int32)), .val (.ref r127)] [(.int xa)]))
        refine own_go (fun _ kk => XS.aload X127.here hx rfl (hb hby at_488) rfl rfl (XS.iconst X127.here hx rfl (hb hby at_490) kk)) ?_
        show own_Fin _ _ _ _ _ _ _ (T127.setTop (mkF m 491 #[.val (.int p0), .val (.int p1), .val (.int p2), .val (.int (1 : Int32)), .val (.int xa), .val (.int xb), .val (.int xc), .val (.int xd), .val (.ref b61), .val (.ref b65), .val (.ref b108), .val (.int (1 : Int32)), .val (.ref r127)] [(.int (0 : Int32)), (.ref b108), (.int xa)]))
        refine own_ldI X127 hx hZ rfl f132 (by decide) (by show (0 : Int32).toNatClampNeg < 4; decide) (hb hby at_491) ?_
        show own_Fin _ _ _ _ _ _ _ (T127.setTop (mkF m 492 #[.val (.int p0), .val (.int p1), .val (.int p2), .val (.int (1 : Int32)), .val (.int xa), .val (.int xb), .val (.int xc), .val (.int xd), .val (.ref b61), .val (.ref b65), .val (.ref b108), .val (.int (1 : Int32)), .val (.ref r127)] [(.int xa), (.int xa)]))
        refine own_go (fun _ kk => XS.icmpYes X127.here hx rfl (pc0 := 492) (pc' := 497) rfl (hb hby at_492) rfl (XT.ii_eq_t rfl) (by decide) (by decide) (XS.iload X127.here hx rfl (hb hby at_497) rfl (XS.iconst X127.here hx rfl (hb hby at_499) (XS.icmpYes X127.here hx rfl (pc0 := 500) (pc' := 516) rfl (hb hby at_500) rfl (XT.ii_le_t (by decide)) (by decide) (by decide) (XS.iload X127.here hx rfl (hb hby at_516) rfl (XS.iconst X127.here hx rfl (hb hby at_518) (XS.icmpYes X127.here hx rfl (pc0 := 519) (pc' := 535) rfl (hb hby at_519) rfl (XT.ii_le_t (by decide)) (by decide) (by decide) (XS.iload X127.here hx rfl (hb hby at_535) rfl (XS.iconst X127.here hx rfl (hb hby at_537) (XS.icmpYes X127.here hx rfl (pc0 := 538) (pc' := 554) rfl (hb hby at_538) rfl (XT.ii_le_t (by decide)) (by decide) (by decide) kk)))))))))) ?_
        show own_Fin _ _ _ _ _ _ _ (T127.setTop (mkF m 554 #[.val (.int p0), .val (.int p1), .val (.int p2), .val (.int (1 : Int32)), .val (.int xa), .val (.int xb), .val (.int xc), .val (.int xd), .val (.ref b61), .val (.ref b65), .val (.ref b108), .val (.int (1 : Int32)), .val (.ref r127)] []))
        refine own_go (fun _ kk => XS.iconst X127.here hx rfl (hb hby at_554) kk) ?_
        show own_Fin _ _ _ _ _ _ _ (T127.setTop (mkF m 555 #[.val (.int p0), .val (.int p1), .val (.int p2), .val (.int (1 : Int32)), .val (.int xa), .val (.int xb), .val (.int xc), .val (.int xd), .val (.ref b61), .val (.ref b65), .val (.ref b108), .val (.int (1 : Int32)), .val (.ref r127)] [(.int (1 : Int32))]))
        exact own_retZ X127 hx hlk hret rfl (hb hby at_555) (by decide) (by decide) ⟨rfl, N127⟩
    · refine own_go (fun _ kk => XS.icmpYes X4.here hx rfl (pc0 := 49) (pc' := 65) rfl (hb hby at_49) rfl (XT.ii_ne_t hc49) (by decide) (by decide) (XS.iloadN X4.here hx rfl (hb hby at_65) rfl (XS.iconst X4.here hx rfl (hb hby at_66) kk))) ?_
      show own_Fin _ _ _ _ _ _ _ (T4.setTop (mkF m 67 #[.val (.int p0), .val (.int p1), .val (.int p2), .val (.int n), .val (.int xa), .val (.int xb), .val (.int xc), .val (.int xd), .unset, .unset, .unset, .unset, .unset] [(.int (2 : Int32)), (.int n)]))
      by_cases hc67 : n = (2 : Int32)
      · refine own_go (fun _ kk => XS.icmpNo X4.here hx rfl (hb hby at_67) rfl (XT.ii_ne_f hc67) kk) ?_
        show own_Fin _ _ _ _ _ _ _ (T4.setTop (mkF m 70 #[.val (.int p0), .val (.int p1), .val (.int p2), .val (.int n), .val (.int xa), .val (.int xb), .val (.int xc), .val (.int xd), .unset, .unset, .unset, .unset, .unset] []))
        subst hc67
        show own_Fin _ _ _ _ _ _ _ (T4.setTop (mkF m 70 #[.val (.int p0), .val (.int p1), .val (.int p2), .val (.int (2 : Int32)), .val (.int xa), .val (.int xb), .val (.int xc), .val (.int xd), .unset, .unset, .unset, .unset, .unset] []))
        refine own_go (fun _ kk => XS.iconst X4.here hx rfl (hb hby at_70) kk) ?_
        show own_Fin _ _ _ _ _ _ _ (T4.setTop (mkF m 71 #[.val (.int p0), .val (.int p1), .val (.int p2), .val (.int (2 : Int32)), .val (.int xa), .val (.int xb), .val (.int xc), .val (.int xd), .unset, .unset, .unset, .unset, .unset] [(.int (2 : Int32))]))
        refine own_newI X4 hx hZ (hw _ (List.mem_of_getElem? (i := 5) rfl)) e4 (hb hby at_71) (by decide) (cap := 2) (by decide) (by decide) (by decide) (by decide) ?_
        intro T134 h134 b134 g134 X134 e134 E134 A134 D134
        have g_b134 : n0 ≤ b134 := Nat.le_trans Z0 (Nat.le_of_eq g134.symm)
        have Z134 := Nat.le_trans Z0 E134.1
        have A134 : own_Ar Z h134 b134 .int (List.map Value.int [(0 : Int32), (0 : Int32)]) := A134
        show own_Fin _ _ _ _ _ _ _ (T134.setTop (mkF m 73 #[.val (.int p0), .val (.int p1), .val (.int p2), .val (.int (2 : Int32)), .val (.int xa), .val (.int xb), .val (.int xc), .val (.int xd), .unset, .unset, .unset, .unset, .unset] [(.ref b134)]))
        refine own_go (fun _ kk => XS.dup X134.here hx rfl (hb hby at_73) rfl rfl (XS.iconst X134.here hx rfl (hb hby at_74) (XS.iload X134.here hx rfl (hb hby at_75) rfl kk))) ?_
        show own_Fin _ _ _ _ _ _ _ (T134.setTop (mkF m 77 #[.val (.int p0), .val (.int p1), .val (.int p2), .val (.int (2 : Int32)), .val (.int xa), .val (.int xb), .val (.int xc), .val (.int xd), .unset, .unset, .unset, .unset, .unset] [(.int xa), (.int (0 : Int32)), (.ref b134), (.ref b134)]))
        refine own_stI X134 hx hZ e134 A134 (by decide) (by show (0 : Int32).toNatClampNeg < 2; decide) (hb hby at_77) ?_
        intro T135 h135 X135 e135 W135 A135
        have f137 := D134.wr W135
        have Z135 := Nat.le_trans Z134 (Keep.of_wr W135).1
        have A135 : own_Ar Z h135 b134 .int (List.map Value.int [xa, (0 : Int32)]) := A135
        have N135 := Fr.snoc X135 N4 g_b134
        show own_Fin _ _ _ _ _ _ _ (T135.setTop (mkF m 78 #[.val (.int p0), .val (.int p1), .val (.int p2), .val (.int (2 : Int32)), .val (.int xa), .val (.int xb), .val (.int xc), .val (.int xd), .unset, .unset, .unset, .unset, .unset] [(.ref b134)]))
        refine own_go (fun _ kk => XS.dup X135.here hx rfl (hb hby at_78) rfl rfl (XS.iconst X135.here hx rfl (hb hby at_79) (XS.iload X135.here hx rfl (hb hby at_80) rfl kk))) ?_
        show own_Fin _ _ _ _ _ _ _ (T135.setTop (mkF m 82 #[.val (.int p0), .val (.int p1), .val (.int p2), .val (.int (2 : Int32)), .val (.int xa), .val (.int xb), .val (.int xc), .val (.int xd), .unset, .unset, .unset, .unset, .unset] [(.int xb), (.int (1 : Int32)), (.ref b134), (.ref b134)]))
        refine own_stI X135 hx hZ e135 A135 (by decide) (by show (1 : Int32).toNatClampNeg < 2; decide) (hb hby at_82) ?_
        intro T138 h138 X138 e138 W138 A138
        have f140 := f137.wr W138
        have Z138 := Nat.le_trans Z135 (Keep.of_wr W138).1
        have A138 : own_Ar Z h138 b134 .int (List.map Value.int [xa, xb]) := A138
        have N138 := Fr.snoc X138 N135 g_b134
        show own_Fin _ _ _ _ _ _ _ (T138.setTop (mkF m 83 #[.val (.int p0), .val (.int p1), .val (.int p2), .val (.int (2 : Int32)), .val (.int xa), .val (.int xb), .val (.int xc), .val (.int xd), .unset, .unset, .unset, .unset, .unset] [(.ref b134)]))
        refine own_go (fun _ kk => XS.astore X138.here hx rfl (hb hby at_83) rfl rfl (l' := #[.val (.int p0), .val (.int p1), .val (.int p2), .val (.int (2 : Int32)), .val (.int xa), .val (.int xb), .val (.int xc), .val (.int xd), .val (.ref b134), .unset, .unset, .unset, .unset]) rfl (XS.goto X138.here hx rfl (pc0 := 85) (pc' := 141) rfl (hb hby at_85) (by decide) (by decide) (XS.bipush X138.here hx rfl (hb hby at_141) kk))) ?_
        show own_Fin _ _ _ _ _ _ _ (T138.setTop (mkF m 143 #[.val (.int p0), .val (.int p1), .val (.int p2), .val (.int (2 : Int32)), .val (.int xa), .val (.int xb), .val (.int xc), .val (.int xd), .val (.ref b134), .unset, .unset, .unset, .unset] [(.int (8 : Int32))]))
        refine own_newZ X138 hx hZ (hw _ (List.mem_of_getElem? (i := 6) rfl)) e138 (hb hby at_143) (by decide) (cap := 8) (by decide) (by decide) (by decide) (by decide) ?_
        intro T141 h141 b141 g141 X141 e141 E141 A141 D141
        have g_b141 : n0 ≤ b141 := Nat.le_trans Z138 (Nat.le_of_eq g141.symm)
        have ne_b134_b141 : b134 ≠ b141 := Nat.ne_of_lt (Nat.lt_of_lt_of_le A138.lt (Nat.le_of_eq g141.symm))
        have f142 := A138.ext E141
        have f143 := f140.ext E141
        have Z141 := Nat.le_trans Z138 E141.1
        have A141 : own_Ar Z h141 b141 .boolean (List.map Value.int [(0 : Int32), (0 : Int32), (0 : Int32), (0 : Int32), (0 : Int32), (0 : Int32), (0 : Int32), (0 : Int32)]) := A141
        show own_Fin _ _ _ _ _ _ _ (T141.setTop (mkF m 145 #[.val (.int p0), .val (.int p1), .val (.int p2), .val (.int (2 : Int32)), .val (.int xa), .val (.int xb), .val (.int xc), .val (.int xd), .val (.ref b134), .unset, .unset, .unset, .unset] [(.ref b141)]))
        refine own_go (fun _ kk => XS.astore X141.here hx rfl (hb hby at_145) rfl rfl (l' := #[.val (.int p0), .val (.int p1), .val (.int p2), .val (.int (2 : Int32)), .val (.int xa), .val (.int xb), .val (.int xc), .val (.int xd), .val (.ref b134), .val (.ref b141), .unset, .unset, .unset]) rfl (XS.aload X141.here hx rfl (hb hby at_147) rfl rfl (XS.iconst X141.here hx rfl (hb hby at_149) (XS.iloadN X141.here hx rfl (hb hby at_150) rfl (XS.iconst X141.here hx rfl (hb hby at_151) (XS.iand X141.here hx rfl (hb hby at_152) rfl kk)))))) ?_
        show own_Fin _ _ _ _ _ _ _ (T141.setTop (mkF m 153 #[.val (.int p0), .val (.int p1), .val (.int p2), .val (.int (2 : Int32)), .val (.int xa), .val (.int xb), .val (.int xc), .val (.int xd), .val (.ref b134), .val (.ref b141), .unset, .unset, .unset] [(.int (p2 &&& (1 : Int32))), (.int (0 : Int32)), (.ref b141)]))
        refine own_go (U' := T141.setTop (mkF m 161 #[.val (.int p0), .val (.int p1), .val (.int p2), .val (.int (2 : Int32)), .val (.int xa), .val (.int xb), .val (.int xc), .val (.int xd), .val (.ref b134), .val (.ref b141), .unset, .unset, .unset] [(.int (if (p2 &&& (1 : Int32)) = 0 then (0 : Int32) else (1 : Int32))), (.int (0 : Int32)), (.ref b141)])) (fun t k => ?_) ?_
        · by_cases hd153 : (p2 &&& (1 : Int32)) = 0
          · simp only [if_pos hd153] at k
            refine XS.ifYes X141.here hx rfl (pc0 := 153) (pc' := 160) rfl (hb hby at_153) rfl (XT.i0_eq_t hd153) (by decide) (by decide) (XS.iconst X141.here hx rfl (hb hby at_160) ?_)
            show Steps p.tables e below (T141.setTop (mkF m 161 #[.val (.int p0), .val (.int p1), .val (.int p2), .val (.int (2 : Int32)), .val (.int xa), .val (.int xb), .val (.int xc), .val (.int xd), .val (.ref b134), .val (.ref b141), .unset, .unset, .unset] [(.int (0 : Int32)), (.int (0 : Int32)), (.ref b141)])) _
            exact k
          · simp only [if_neg hd153] at k
            refine XS.ifNo X141.here hx rfl (hb hby at_153) rfl (XT.i0_eq_f hd153) (XS.iconst X141.here hx rfl (hb hby at_156) (XS.goto X141.here hx rfl (pc0 := 157) (pc' := 161) rfl (hb hby at_157) (by decide) (by decide) ?_))
            show Steps p.tables e below (T141.setTop (mkF m 161 #[.val (.int p0), .val (.int p1), .val (.int p2), .val (.int (2 : Int32)), .val (.int xa), .val (.int xb), .val (.int xc), .val (.int xd), .val (.ref b134), .val (.ref b141), .unset, .unset, .unset] [(.int (1 : Int32)), (.int (0 : Int32)), (.ref b141)])) _
            exact k
        show own_Fin _ _ _ _ _ _ _ (T141.setTop (mkF m 161 #[.val (.int p0), .val (.int p1), .val (.int p2), .val (.int (2 : Int32)), .val (.int xa), .val (.int xb), .val (.int xc), .val (.int xd), .val (.ref b134), .val (.ref b141), .unset, .unset, .unset] [(.int (if (p2 &&& (1 : Int32)) = 0 then (0 : Int32) else (1 : Int32))), (.int (0 : Int32)), (.ref b141)]))
        refine own_stZ X141 hx hZ e141 A141 (by decide) (by show (0 : Int32).toNatClampNeg < 8; decide) (hb hby at_161) (by split <;> rfl) ?_
        intro T144 h144 X144 e144 W144 A144
        have f145 := f142.other W144 ne_b134_b141
        have f146 := f143.wr W144
        have f148 := D141.wr W144
        have Z144 := Nat.le_trans Z141 (Keep.of_wr W144).1
        have A144 : own_Ar Z h144 b141 .boolean (List.map Value.int [(if (p2 &&& (1 : Int32)) = 0 then (0 : Int32) else (1 : Int32)), (0 : Int32), (0 : Int32), (0 : Int32), (0 : Int32), (0 : Int32), (0 : Int32), (0 : Int32)]) := A144
        have N144 := Fr.snoc X144 N138 g_b141
        show own_Fin _ _ _ _ _ _ _ (T144.setTop (mkF m 162 #[.val (.int p0), .val (.int p1), .val (.int p2), .val (.int (2 : Int32)), .val (.int xa), .val (.int xb), .val (.int xc), .val (.int xd), .val (.ref b134), .val (.ref b141), .unset, .unset, .unset] []))
        refine own_go (fun _ kk => XS.aload X144.here hx rfl (hb hby at_162) rfl rfl (XS.iconst X144.here hx rfl (hb hby at_164) (XS.iloadN X144.here hx rfl (hb hby at_165) rfl (XS.iconst X144.here hx rfl (hb hby at_166) (XS.iand X144.here hx rfl (hb hby at_167) rfl kk))))) ?_
        show own_Fin _ _ _ _ _ _ _ (T144.setTop (mkF m 168 #[.val (.int p0), .val (.int p1), .val (.int p2), .val (.int (2 : Int32)), .val (.int xa), .val (.int xb), .val (.int xc), .val (.int xd), .val (.ref b134), .val (.ref b141), .unset, .unset, .unset] [(.int (p2 &&& (2 : Int32))), (.int (1 : Int32)), (.ref b141)]))
        refine own_go (U' := T144.setTop (mkF m 176 #[.val (.int p0), .val (.int p1), .val (.int p2), .val (.int (2 : Int32)), .val (.int xa), .val (.int xb), .val (.int xc), .val (.int xd), .val (.ref b134), .val (.ref b141), .unset, .unset, .unset] [(.int (if (p2 &&& (2 : Int32)) = 0 then (0 : Int32) else (1 : Int32))), (.int (1 : Int32)), (.ref b141)])) (fun t k => ?_) ?_
        · by_cases hd168 : (p2 &&& (2 : Int32)) = 0
          · simp only [if_pos hd168] at k
            refine XS.ifYes X144.here hx rfl (pc0 := 168) (pc' := 175) rfl (hb hby at_168) rfl (XT.i0_eq_t hd168) (by decide) (by decide) (XS.iconst X144.here hx rfl (hb hby at_175) ?_)
            show Steps p.tables e below (T144.setTop (mkF m 176 #[.val (.int p0), .val (.int p1), .val (.int p2), .val (.int (2 : Int32)), .val (.int xa), .val (.int xb), .val (.int xc), .val (.int xd), .val (.ref b134), .val (.ref b141), .unset, .unset, .unset] [(.int (0 : Int32)), (.int (1 : Int32)), (.ref b141)])) _
            exact k
          · simp only [if_neg hd168] at k
            refine XS.ifNo X144.here hx rfl (hb hby at_168) rfl (XT.i0_eq_f hd168) (XS.iconst X144.here hx rfl (hb hby at_171) (XS.goto X144.here hx rfl (pc0 := 172) (pc' := 176) rfl (hb hby at_172) (by decide) (by decide) ?_))
            show Steps p.tables e below (T144.setTop (mkF m 176 #[.val (.int p0), .val (.int p1), .val (.int p2), .val (.int (2 : Int32)), .val (.int xa), .val (.int xb), .val (.int xc), .val (.int xd), .val (.ref b134), .val (.ref b141), .unset, .unset, .unset] [(.int (1 : Int32)), (.int (1 : Int32)), (.ref b141)])) _
            exact k
        show own_Fin _ _ _ _ _ _ _ (T144.setTop (mkF m 176 #[.val (.int p0), .val (.int p1), .val (.int p2), .val (.int (2 : Int32)), .val (.int xa), .val (.int xb), .val (.int xc), .val (.int xd), .val (.ref b134), .val (.ref b141), .unset, .unset, .unset] [(.int (if (p2 &&& (2 : Int32)) = 0 then (0 : Int32) else (1 : Int32))), (.int (1 : Int32)), (.ref b141)]))
        refine own_stZ X144 hx hZ e144 A144 (by decide) (by show (1 : Int32).toNatClampNeg < 8; decide) (hb hby at_176) (by split <;> rfl) ?_
        intro T149 h149 X149 e149 W149 A149
        have f150 := f145.other W149 ne_b134_b141
        have f151 := f146.wr W149
        have f153 := f148.wr W149
        have Z149 := Nat.le_trans Z144 (Keep.of_wr W149).1
        have A149 : own_Ar Z h149 b141 .boolean (List.map Value.int [(if (p2 &&& (1 : Int32)) = 0 then (0 : Int32) else (1 : Int32)), (if (p2 &&& (2 : Int32)) = 0 then (0 : Int32) else (1 : Int32)), (0 : Int32), (0 : Int32), (0 : Int32), (0 : Int32), (0 : Int32), (0 : Int32)]) := A149
        have N149 := Fr.snoc X149 N144 g_b141
        show own_Fin _ _ _ _ _ _ _ (T149.setTop (mkF m 177 #[.val (.int p0), .val (.int p1), .val (.int p2), .val (.int (2 : Int32)), .val (.int xa), .val (.int xb), .val (.int xc), .val (.int xd), .val (.ref b134), .val (.ref b141), .unset, .unset, .unset] []))
        refine own_go (fun _ kk => XS.aload X149.here hx rfl (hb hby at_177) rfl rfl (XS.iconst X149.here hx rfl (hb hby at_179) (XS.iloadN X149.here hx rfl (hb hby at_180) rfl (XS.iconst X149.here hx rfl (hb hby at_181) (XS.iand X149.here hx rfl (hb hby at_182) rfl kk))))) ?_
        show own_Fin _ _ _ _ _ _ _ (T149.setTop (mkF m 183 #[.val (.int p0), .val (.int p1), .val (.int p2), .val (.int (2 : Int32)), .val (.int xa), .val (.int xb), .val (.int xc), .val (.int xd), .val (.ref b134), .val (.ref b141), .unset, .unset, .unset] [(.int (p2 &&& (4 : Int32))), (.int (2 : Int32)), (.ref b141)]))
        refine own_go (U' := T149.setTop (mkF m 191 #[.val (.int p0), .val (.int p1), .val (.int p2), .val (.int (2 : Int32)), .val (.int xa), .val (.int xb), .val (.int xc), .val (.int xd), .val (.ref b134), .val (.ref b141), .unset, .unset, .unset] [(.int (if (p2 &&& (4 : Int32)) = 0 then (0 : Int32) else (1 : Int32))), (.int (2 : Int32)), (.ref b141)])) (fun t k => ?_) ?_
        · by_cases hd183 : (p2 &&& (4 : Int32)) = 0
          · simp only [if_pos hd183] at k
            refine XS.ifYes X149.here hx rfl (pc0 := 183) (pc' := 190) rfl (hb hby at_183) rfl (XT.i0_eq_t hd183) (by decide) (by decide) (XS.iconst X149.here hx rfl (hb hby at_190) ?_)
            show Steps p.tables e below (T149.setTop (mkF m 191 #[.val (.int p0), .val (.int p1), .val (.int p2), .val (.int (2 : Int32)), .val (.int xa), .val (.int xb), .val (.int xc), .val (.int xd), .val (.ref b134), .val (.ref b141), .unset, .unset, .unset] [(.int (0 : Int32)), (.int (2 : Int32)), (.ref b141)])) _
            exact k
          · simp only [if_neg hd183] at k
            refine XS.ifNo X149.here hx rfl (hb hby at_183) rfl (XT.i0_eq_f hd183) (XS.iconst X149.here hx rfl (hb hby at_186) (XS.goto X149.here hx rfl (pc0 := 187) (pc' := 191) rfl (hb hby at_187) (by decide) (by decide) ?_))
            show Steps p.tables e below (T149.setTop (mkF m 191 #[.val (.int p0), .val (.int p1), .val (.int p2), .val (.int (2 : Int32)), .val (.int xa), .val (.int xb), .val (.int xc), .val (.int xd), .val (.ref b134), .val (.ref b141), .unset, .unset, .unset] [(.int (1 : Int32)), (.int (2 : Int32)), (.ref b141)])) _
            exact k
        show own_Fin _ _ _ _ _ _ _ (T149.setTop (mkF m 191 #[.val (.int p0), .val (.int p1), .val (.int p2), .val (.int (2 : Int32)), .val (.int xa), .val (.int xb), .val (.int xc), .val (.int xd), .val (.ref b134), .val (.ref b141), .unset, .unset, .unset] [(.int (if (p2 &&& (4 : Int32)) = 0 then (0 : Int32) else (1 : Int32))), (.int (2 : Int32)), (.ref b141)]))
        refine own_stZ X149 hx hZ e149 A149 (by decide) (by show (2 : Int32).toNatClampNeg < 8; decide) (hb hby at_191) (by split <;> rfl) ?_
        intro T154 h154 X154 e154 W154 A154
        have f155 := f150.other W154 ne_b134_b141
        have f156 := f151.wr W154
        have f158 := f153.wr W154
        have Z154 := Nat.le_trans Z149 (Keep.of_wr W154).1
        have A154 : own_Ar Z h154 b141 .boolean (List.map Value.int [(if (p2 &&& (1 : Int32)) = 0 then (0 : Int32) else (1 : Int32)), (if (p2 &&& (2 : Int32)) = 0 then (0 : Int32) else (1 : Int32)), (if (p2 &&& (4 : Int32)) = 0 then (0 : Int32) else (1 : Int32)), (0 : Int32), (0 : Int32), (0 : Int32), (0 : Int32), (0 : Int32)]) := A154
        have N154 := Fr.snoc X154 N149 g_b141
        show own_Fin _ _ _ _ _ _ _ (T154.setTop (mkF m 192 #[.val (.int p0), .val (.int p1), .val (.int p2), .val (.int (2 : Int32)), .val (.int xa), .val (.int xb), .val (.int xc), .val (.int xd), .val (.ref b134), .val (.ref b141), .unset, .unset, .unset] []))
        refine own_go (fun _ kk => XS.aload X154.here hx rfl (hb hby at_192) rfl rfl (XS.iconst X154.here hx rfl (hb hby at_194) (XS.iloadN X154.here hx rfl (hb hby at_195) rfl (XS.bipush X154.here hx rfl (hb hby at_196) (XS.iand X154.here hx rfl (hb hby at_198) rfl kk))))) ?_
        show own_Fin _ _ _ _ _ _ _ (T154.setTop (mkF m 199 #[.val (.int p0), .val (.int p1), .val (.int p2), .val (.int (2 : Int32)), .val (.int xa), .val (.int xb), .val (.int xc), .val (.int xd), .val (.ref b134), .val (.ref b141), .unset, .unset, .unset] [(.int (p2 &&& (8 : Int32))), (.int (3 : Int32)), (.ref b141)]))
        refine own_go (U' := T154.setTop (mkF m 207 #[.val (.int p0), .val (.int p1), .val (.int p2), .val (.int (2 : Int32)), .val (.int xa), .val (.int xb), .val (.int xc), .val (.int xd), .val (.ref b134), .val (.ref b141), .unset, .unset, .unset] [(.int (if (p2 &&& (8 : Int32)) = 0 then (0 : Int32) else (1 : Int32))), (.int (3 : Int32)), (.ref b141)])) (fun t k => ?_) ?_
        · by_cases hd199 : (p2 &&& (8 : Int32)) = 0
          · simp only [if_pos hd199] at k
            refine XS.ifYes X154.here hx rfl (pc0 := 199) (pc' := 206) rfl (hb hby at_199) rfl (XT.i0_eq_t hd199) (by decide) (by decide) (XS.iconst X154.here hx rfl (hb hby at_206) ?_)
            show Steps p.tables e below (T154.setTop (mkF m 207 #[.val (.int p0), .val (.int p1), .val (.int p2), .val (.int (2 : Int32)), .val (.int xa), .val (.int xb), .val (.int xc), .val (.int xd), .val (.ref b134), .val (.ref b141), .unset, .unset, .unset] [(.int (0 : Int32)), (.int (3 : Int32)), (.ref b141)])) _
            exact k
          · simp only [if_neg hd199] at k
            refine XS.ifNo X154.here hx rfl (hb hby at_199) rfl (XT.i0_eq_f hd199) (XS.iconst X154.here hx rfl (hb hby at_202) (XS.goto X154.here hx rfl (pc0 := 203) (pc' := 207) rfl (hb hby at_203) (by decide) (by decide) ?_))
            show Steps p.tables e below (T154.setTop (mkF m 207 #[.val (.int p0), .val (.int p1), .val (.int p2), .val (.int (2 : Int32)), .val (.int xa), .val (.int xb), .val (.int xc), .val (.int xd), .val (.ref b134), .val (.ref b141), .unset, .unset, .unset] [(.int (1 : Int32)), (.int (3 : Int32)), (.ref b141)])) _
            exact k
        show own_Fin _ _ _ _ _ _ _ (T154.setTop (mkF m 207 #[.val (.int p0), .val (.int p1), .val (.int p2), .val (.int (2 : Int32)), .val (.int xa), .val (.int xb), .val (.int xc), .val (.int xd), .val (.ref b134), .val (.ref b141), .unset, .unset, .unset] [(.int (if (p2 &&& (8 : Int32)) = 0 then (0 : Int32) else (1 : Int32))), (.int (3 : Int32)), (.ref b141)]))
        refine own_stZ X154 hx hZ e154 A154 (by decide) (by show (3 : Int32).toNatClampNeg < 8; decide) (hb hby at_207) (by split <;> rfl) ?_
        intro T159 h159 X159 e159 W159 A159
        have f160 := f155.other W159 ne_b134_b141
        have f161 := f156.wr W159
        have f163 := f158.wr W159
        have Z159 := Nat.le_trans Z154 (Keep.of_wr W159).1
        have A159 : own_Ar Z h159 b141 .boolean (List.map Value.int [(if (p2 &&& (1 : Int32)) = 0 then (0 : Int32) else (1 : Int32)), (if (p2 &&& (2 : Int32)) = 0 then (0 : Int32) else (1 : Int32)), (if (p2 &&& (4 : Int32)) = 0 then (0 : Int32) else (1 : Int32)), (if (p2 &&& (8 : Int32)) = 0 then (0 : Int32) else (1 : Int32)), (0 : Int32), (0 : Int32), (0 : Int32), (0 : Int32)]) := A159
        have N159 := Fr.snoc X159 N154 g_b141
        show own_Fin _ _ _ _ _ _ _ (T159.setTop (mkF m 208 #[.val (.int p0), .val (.int p1), .val (.int p2), .val (.int (2 : Int32)), .val (.int xa), .val (.int xb), .val (.int xc), .val (.int xd), .val (.ref b134), .val (.ref b141), .unset, .unset, .unset] []))
        refine own_go (fun _ kk => XS.aload X159.here hx rfl (hb hby at_208) rfl rfl (XS.iconst X159.here hx rfl (hb hby at_210) (XS.iloadN X159.here hx rfl (hb hby at_211) rfl (XS.bipush X159.here hx rfl (hb hby at_212) (XS.iand X159.here hx rfl (hb hby at_214) rfl kk))))) ?_
        show own_Fin _ _ _ _ _ _ _ (T159.setTop (mkF m 215 #[.val (.int p0), .val (.int p1), .val (.int p2), .val (.int (2 : Int32)), .val (.int xa), .val (.int xb), .val (.int xc), .val (.int xd), .val (.ref b134), .val (.ref b141), .unset, .unset, .unset] [(.int (p2 &&& (16 : Int32))), (.int (4 : Int32)), (.ref b141)]))
        refine own_go (U' := T159.setTop (mkF m 223 #[.val (.int p0), .val (.int p1), .val (.int p2), .val (.int (2 : Int32)), .val (.int xa), .val (.int xb), .val (.int xc), .val (.int xd), .val (.ref b134), .val (.ref b141), .unset, .unset, .unset] [(.int (if (p2 &&& (16 : Int32)) = 0 then (0 : Int32) else (1 : Int32))), (.int (4 : Int32)), (.ref b141)])) (fun t k => ?_) ?_
        · by_cases hd215 : (p2 &&& (16 : Int32)) = 0
          · simp only [if_pos hd215] at k
            refine XS.ifYes X159.here hx rfl (pc0 := 215) (pc' := 222) rfl (hb hby at_215) rfl (XT.i0_eq_t hd215) (by decide) (by decide) (XS.iconst X159.here hx rfl (hb hby at_222) ?_)
            show Steps p.tables e below (T159.setTop (mkF m 223 #[.val (.int p0), .val (.int p1), .val (.int p2), .val (.int (2 : Int32)), .val (.int xa), .val (.int xb), .val (.int xc), .val (.int xd), .val (.ref b134), .val (.ref b141), .unset, .unset, .unset] [(.int (0 : Int32)), (.int (4 : Int32)), (.ref b141)])) _
            exact k
          · simp only [if_neg hd215] at k
            refine XS.ifNo X159.here hx rfl (hb hby at_215) rfl (XT.i0_eq_f hd215) (XS.iconst X159.here hx rfl (hb hby at_218) (XS.goto X159.here hx rfl (pc0 := 219) (pc' := 223) rfl (hb hby at_219) (by decide) (by decide) ?_))
            show Steps p.tables e below (T159.setTop (mkF m 223 #[.val (.int p0), .val (.int p1), .val (.int p2), .val (.int (2 : Int32)), .val (.int xa), .val (.int xb), .val (.int xc), .val (.int xd), .val (.ref b134), .val (.ref b141), .unset, .unset, .unset] [(.int (1 : Int32)), (.int (4 : Int32)), (.ref b141)])) _
            exact k
        show own_Fin _ _ _ _ _ _ _ (T159.setTop (mkF m 223 #[.val (.int p0), .val (.int p1), .val (.int p2), .val (.int (2 : Int32)), .val (.int xa), .val (.int xb), .val (.int xc), .val (.int xd), .val (.ref b134), .val (.ref b141), .unset, .unset, .unset] [(.int (if (p2 &&& (16 : Int32)) = 0 then (0 : Int32) else (1 : Int32))), (.int (4 : Int32)), (.ref b141)]))
        refine own_stZ X159 hx hZ e159 A159 (by decide) (by show (4 : Int32).toNatClampNeg < 8; decide) (hb hby at_223) (by split <;> rfl) ?_
        intro T164 h164 X164 e164 W164 A164
        have f165 := f160.other W164 ne_b134_b141
        have f166 := f161.wr W164
        have f168 := f163.wr W164
        have Z164 := Nat.le_trans Z159 (Keep.of_wr W164).1
        have A164 : own_Ar Z h164 b141 .boolean (List.map Value.int [(if (p2 &&& (1 : Int32)) = 0 then (0 : Int32) else (1 : Int32)), (if (p2 &&& (2 : Int32)) = 0 then (0 : Int32) else (1 : Int32)), (if (p2 &&& (4 : Int32)) = 0 then (0 : Int32) else (1 : Int32)), (if (p2 &&& (8 : Int32)) = 0 then (0 : Int32) else (1 : Int32)), (if (p2 &&& (16 : Int32)) = 0 then (0 : Int32) else (1 : Int32)), (0 : Int32), (0 : Int32), (0 : Int32)]) := A164
        have N164 := Fr.snoc X164 N159 g_b141
        show own_Fin _ _ _ _ _ _ _ (T164.setTop (mkF m 224 #[.val (.int p0), .val (.int p1), .val (.int p2), .val (.int (2 : Int32)), .val (.int xa), .val (.int xb), .val (.int xc), .val (.int xd), .val (.ref b134), .val (.ref b141), .unset, .unset, .unset] []))
        refine own_go (fun _ kk => XS.aload X164.here hx rfl (hb hby at_224) rfl rfl (XS.iconst X164.here hx rfl (hb hby at_226) (XS.iloadN X164.here hx rfl (hb hby at_227) rfl (XS.bipush X164.here hx rfl (hb hby at_228) (XS.iand X164.here hx rfl (hb hby at_230) rfl kk))))) ?_
        show own_Fin _ _ _ _ _ _ _ (T164.setTop (mkF m 231 #[.val (.int p0), .val (.int p1), .val (.int p2), .val (.int (2 : Int32)), .val (.int xa), .val (.int xb), .val (.int xc), .val (.int xd), .val (.ref b134), .val (.ref b141), .unset, .unset, .unset] [(.int (p2 &&& (32 : Int32))), (.int (5 : Int32)), (.ref b141)]))
        refine own_go (U' := T164.setTop (mkF m 239 #[.val (.int p0), .val (.int p1), .val (.int p2), .val (.int (2 : Int32)), .val (.int xa), .val (.int xb), .val (.int xc), .val (.int xd), .val (.ref b134), .val (.ref b141), .unset, .unset, .unset] [(.int (if (p2 &&& (32 : Int32)) = 0 then (0 : Int32) else (1 : Int32))), (.int (5 : Int32)), (.ref b141)])) (fun t k => ?_) ?_
        · by_cases hd231 : (p2 &&& (32 : Int32)) = 0
          · simp only [if_pos hd231] at k
            refine XS.ifYes X164.here hx rfl (pc0 := 231) (pc' := 238) rfl (hb hby at_231) rfl (XT.i0_eq_t hd231) (by decide) (by decide) (XS.iconst X164.here hx rfl (hb hby at_238) ?_)
            show Steps p.tables e below (T164.setTop (mkF m 239 #[.val (.int p0), .val (.int p1), .val (.int p2), .val (.int (2 : Int32)), .val (.int xa), .val (.int xb), .val (.int xc), .val (.int xd), .val (.ref b134), .val (.ref b141), .unset, .unset, .unset] [(.int (0 : Int32)), (.int (5 : Int32)), (.ref b141)])) _
            exact k
          · simp only [if_neg hd231] at k
            refine XS.ifNo X164.here hx rfl (hb hby at_231) rfl (XT.i0_eq_f hd231) (XS.iconst X164.here hx rfl (hb hby at_234) (XS.goto X164.here hx rfl (pc0 := 235) (pc' := 239) rfl (hb hby at_235) (by decide) (by decide) ?_))
            show Steps p.tables e below (T164.setTop (mkF m 239 #[.val (.int p0), .val (.int p1), .val (.int p2), .val (.int (2 : Int32)), .val (.int xa), .val (.int xb), .val (.int xc), .val (.int xd), .val (.ref b134), .val (.ref b141), .unset, .unset, .unset] [(.int (1 : Int32)), (.int (5 : Int32)), (.ref b141)])) _
            exact k
        show own_Fin _ _ _ _ _ _ _ (T164.setTop (mkF m 239 #[.val (.int p0), .val (.int p1), .val (.int p2), .val (.int (2 : Int32)), .val (.int xa), .val (.int xb), .val (.int xc), .val (.int xd), .val (.ref b134), .val (.ref b141), .unset, .unset, .unset] [(.int (if (p2 &&& (32 : Int32)) = 0 then (0 : Int32) else (1 : Int32))), (.int (5 : Int32)), (.ref b141)]))
        refine own_stZ X164 hx hZ e164 A164 (by decide) (by show (5 : Int32).toNatClampNeg < 8; decide) (hb hby at_239) (by split <;> rfl) ?_
        intro T169 h169 X169 e169 W169 A169
        have f170 := f165.other W169 ne_b134_b141
        have f171 := f166.wr W169
        have f173 := f168.wr W169
        have Z169 := Nat.le_trans Z164 (Keep.of_wr W169).1
        have A169 : own_Ar Z h169 b141 .boolean (List.map Value.int [(if (p2 &&& (1 : Int32)) = 0 then (0 : Int32) else (1 : Int32)), (if (p2 &&& (2 : Int32)) = 0 then (0 : Int32) else (1 : Int32)), (if (p2 &&& (4 : Int32)) = 0 then (0 : Int32) else (1 : Int32)), (if (p2 &&& (8 : Int32)) = 0 then (0 : Int32) else (1 : Int32)), (if (p2 &&& (16 : Int32)) = 0 then (0 : Int32) else (1 : Int32)), (if (p2 &&& (32 : Int32)) = 0 then (0 : Int32) else (1 : Int32)), (0 : Int32), (0 : Int32)]) := A169
        have N169 := Fr.snoc X169 N164 g_b141
        show own_Fin _ _ _ _ _ _ _ (T169.setTop (mkF m 240 #[.val (.int p0), .val (.int p1), .val (.int p2), .val (.int (2 : Int32)), .val (.int xa), .val (.int xb), .val (.int xc), .val (.int xd), .val (.ref b134), .val (.ref b141), .unset, .unset, .unset] []))
        refine own_go (fun _ kk => XS.aload X169.here hx rfl (hb hby at_240) rfl rfl (XS.bipush X169.here hx rfl (hb hby at_242) (XS.iloadN X169.here hx rfl (hb hby at_244) rfl (XS.bipush X169.here hx rfl (hb hby at_245) (XS.iand X169.here hx rfl (hb hby at_247) rfl kk))))) ?_
        show own_Fin _ _ _ _ _ _ _ (T169.setTop (mkF m 248 #[.val (.int p0), .val (.int p1), .val (.int p2), .val (.int (2 : Int32)), .val (.int xa), .val (.int xb), .val (.int xc), .val (.int xd), .val (.ref b134), .val (.ref b141), .unset, .unset, .unset] [(.int (p2 &&& (64 : Int32))), (.int (6 : Int32)), (.ref b141)]))
        refine own_go (U' := T169.setTop (mkF m 256 #[.val (.int p0), .val (.int p1), .val (.int p2), .val (.int (2 : Int32)), .val (.int xa), .val (.int xb), .val (.int xc), .val (.int xd), .val (.ref b134), .val (.ref b141), .unset, .unset, .unset] [(.int (if (p2 &&& (64 : Int32)) = 0 then (0 : Int32) else (1 : Int32))), (.int (6 : Int32)), (.ref b141)])) (fun t k => ?_) ?_
        · by_cases hd248 : (p2 &&& (64 : Int32)) = 0
          · simp only [if_pos hd248] at k
            refine XS.ifYes X169.here hx rfl (pc0 := 248) (pc' := 255) rfl (hb hby at_248) rfl (XT.i0_eq_t hd248) (by decide) (by decide) (XS.iconst X169.here hx rfl (hb hby at_255) ?_)
            show Steps p.tables e below (T169.setTop (mkF m 256 #[.val (.int p0), .val (.int p1), .val (.int p2), .val (.int (2 : Int32)), .val (.int xa), .val (.int xb), .val (.int xc), .val (.int xd), .val (.ref b134), .val (.ref b141), .unset, .unset, .unset] [(.int (0 : Int32)), (.int (6 : Int32)), (.ref b141)])) _
            exact k
          · simp only [if_neg hd248] at k
            refine XS.ifNo X169.here hx rfl (hb hby at_248) rfl (XT.i0_eq_f hd248) (XS.iconst X169.here hx rfl (hb hby at_251) (XS.goto X169.here hx rfl (pc0 := 252) (pc' := 256) rfl (hb hby at_252) (by decide) (by decide) ?_))
            show Steps p.tables e below (T169.setTop (mkF m 256 #[.val (.int p0), .val (.int p1), .val (.int p2), .val (.int (2 : Int32)), .val (.int xa), .val (.int xb), .val (.int xc), .val (.int xd), .val (.ref b134), .val (.ref b141), .unset, .unset, .unset] [(.int (1 : Int32)), (.int (6 : Int32)), (.ref b141)])) _
            exact k
        show own_Fin _ _ _ _ _ _ _ (T169.setTop (mkF m 256 #[.val (.int p0), .val (.int p1), .val (.int p2), .val (.int (2 : Int32)), .val (.int xa), .val (.int xb), .val (.int xc), .val (.int xd), .val (.ref b134), .val (.ref b141), .unset, .unset, .unset] [(.int (if (p2 &&& (64 : Int32)) = 0 then (0 : Int32) else (1 : Int32))), (.int (6 : Int32)), (.ref b141)]))
        refine own_stZ X169 hx hZ e169 A169 (by decide) (by show (6 : Int32).toNatClampNeg < 8; decide) (hb hby at_256) (by split <;> rfl) ?_
        intro T174 h174 X174 e174 W174 A174
        have f175 := f170.other W174 ne_b134_b141
        have f176 := f171.wr W174
        have f178 := f173.wr W174
        have Z174 := Nat.le_trans Z169 (Keep.of_wr W174).1
        have A174 : own_Ar Z h174 b141 .boolean (List.map Value.int [(if (p2 &&& (1 : Int32)) = 0 then (0 : Int32) else (1 : Int32)), (if (p2 &&& (2 : Int32)) = 0 then (0 : Int32) else (1 : Int32)), (if (p2 &&& (4 : Int32)) = 0 then (0 : Int32) else (1 : Int32)), (if (p2 &&& (8 : Int32)) = 0 then (0 : Int32) else (1 : Int32)), (if (p2 &&& (16 : Int32)) = 0 then (0 : Int32) else (1 : Int32)), (if (p2 &&& (32 : Int32)) = 0 then (0 : Int32) else (1 : Int32)), (if (p2 &&& (64 : Int32)) = 0 then (0 : Int32) else (1 : Int32)), (0 : Int32)]) := A174
        have N174 := Fr.snoc X174 N169 g_b141
        show own_Fin _ _ _ _ _ _ _ (T174.setTop (mkF m 257 #[.val (.int p0), .val (.int p1), .val (.int p2), .val (.int (2 : Int32)), .val (.int xa), .val (.int xb), .val (.int xc), .val (.int xd), .val (.ref b134), .val (.ref b141), .unset, .unset, .unset] []))
        refine own_go (fun _ kk => XS.aload X174.here hx rfl (hb hby at_257) rfl rfl (XS.bipush X174.here hx rfl (hb hby at_259) (XS.iloadN X174.here hx rfl (hb hby at_261) rfl (XS.sipush X174.here hx rfl (hb hby at_262) (XS.iand X174.here hx rfl (hb hby at_265) rfl kk))))) ?_
        show own_Fin _ _ _ _ _ _ _ (T174.setTop (mkF m 266 #[.val (.int p0), .val (.int p1), .val (.int p2), .val (.int (2 : Int32)), .val (.int xa), .val (.int xb), .val (.int xc), .val (.int xd), .val (.ref b134), .val (.ref b141), .unset, .unset, .unset] [(.int (p2 &&& (128 : Int32))), (.int (7 : Int32)), (.ref b141)]))
        refine own_go (U' := T174.setTop (mkF m 274 #[.val (.int p0), .val (.int p1), .val (.int p2), .val (.int (2 : Int32)), .val (.int xa), .val (.int xb), .val (.int xc), .val (.int xd), .val (.ref b134), .val (.ref b141), .unset, .unset, .unset] [(.int (if (p2 &&& (128 : Int32)) = 0 then (0 : Int32) else (1 : Int32))), (.int (7 : Int32)), (.ref b141)])) (fun t k => ?_) ?_
        · by_cases hd266 : (p2 &&& (128 : Int32)) = 0
          · simp only [if_pos hd266] at k
            refine XS.ifYes X174.here hx rfl (pc0 := 266) (pc' := 273) rfl (hb hby at_266) rfl (XT.i0_eq_t hd266) (by decide) (by decide) (XS.iconst X174.here hx rfl (hb hby at_273) ?_)
            show Steps p.tables e below (T174.setTop (mkF m 274 #[.val (.int p0), .val (.int p1), .val (.int p2), .val (.int (2 : Int32)), .val (.int xa), .val (.int xb), .val (.int xc), .val (.int xd), .val (.ref b134), .val (.ref b141), .unset, .unset, .unset] [(.int (0 : Int32)), (.int (7 : Int32)), (.ref b141)])) _
            exact k
          · simp only [if_neg hd266] at k
            refine XS.ifNo X174.here hx rfl (hb hby at_266) rfl (XT.i0_eq_f hd266) (XS.iconst X174.here hx rfl (hb hby at_269) (XS.goto X174.here hx rfl (pc0 := 270) (pc' := 274) rfl (hb hby at_270) (by decide) (by decide) ?_))
            show Steps p.tables e below (T174.setTop (mkF m 274 #[.val (.int p0), .val (.int p1), .val (.int p2), .val (.int (2 : Int32)), .val (.int xa), .val (.int xb), .val (.int xc), .val (.int xd), .val (.ref b134), .val (.ref b141), .unset, .unset, .unset] [(.int (1 : Int32)), (.int (7 : Int32)), (.ref b141)])) _
            exact k
        show own_Fin _ _ _ _ _ _ _ (T174.setTop (mkF m 274 #[.val (.int p0), .val (.int p1), .val (.int p2), .val (.int (2 : Int32)), .val (.int xa), .val (.int xb), .val (.int xc), .val (.int xd), .val (.ref b134), .val (.ref b141), .unset, .unset, .unset] [(.int (if (p2 &&& (128 : Int32)) = 0 then (0 : Int32) else (1 : Int32))), (.int (7 : Int32)), (.ref b141)]))
        refine own_stZ X174 hx hZ e174 A174 (by decide) (by show (7 : Int32).toNatClampNeg < 8; decide) (hb hby at_274) (by split <;> rfl) ?_
        intro T179 h179 X179 e179 W179 A179
        have f180 := f175.other W179 ne_b134_b141
        have f181 := f176.wr W179
        have f183 := f178.wr W179
        have Z179 := Nat.le_trans Z174 (Keep.of_wr W179).1
        have A179 : own_Ar Z h179 b141 .boolean (List.map Value.int [(if (p2 &&& (1 : Int32)) = 0 then (0 : Int32) else (1 : Int32)), (if (p2 &&& (2 : Int32)) = 0 then (0 : Int32) else (1 : Int32)), (if (p2 &&& (4 : Int32)) = 0 then (0 : Int32) else (1 : Int32)), (if (p2 &&& (8 : Int32)) = 0 then (0 : Int32) else (1 : Int32)), (if (p2 &&& (16 : Int32)) = 0 then (0 : Int32) else (1 : Int32)), (if (p2 &&& (32 : Int32)) = 0 then (0 : Int32) else (1 : Int32)), (if (p2 &&& (64 : Int32)) = 0 then (0 : Int32) else (1 : Int32)), (if (p2 &&& (128 : Int32)) = 0 then (0 : Int32) else (1 : Int32))]) := A179
        have N179 := Fr.snoc X179 N174 g_b141
        show own_Fin _ _ _ _ _ _ _ (T179.setTop (mkF m 275 #[.val (.int p0), .val (.int p1), .val (.int p2), .val (.int (2 : Int32)), .val (.int xa), .val (.int xb), .val (.int xc), .val (.int xd), .val (.ref b134), .val (.ref b141), .unset, .unset, .unset] []))
        obtain ⟨bs, hbs⟩ : ∃ bs, bs = [(if (p2 &&& (1 : Int32)) = 0 then (0 : Int32) else (1 : Int32)), (if (p2 &&& (2 : Int32)) = 0 then (0 : Int32) else (1 : Int32)), (if (p2 &&& (4 : Int32)) = 0 then (0 : Int32) else (1 : Int32)), (if (p2 &&& (8 : Int32)) = 0 then (0 : Int32) else (1 : Int32)), (if (p2 &&& (16 : Int32)) = 0 then (0 : Int32) else (1 : Int32)), (if (p2 &&& (32 : Int32)) = 0 then (0 : Int32) else (1 : Int32)), (if (p2 &&& (64 : Int32)) = 0 then (0 : Int32) else (1 : Int32)), (if (p2 &&& (128 : Int32)) = 0 then (0 : Int32) else (1 : Int32))] := ⟨_, rfl⟩
        have Bb141 : own_Ar Z h179 b141 .boolean (List.map Value.int bs) := by rw [hbs]; exact A179
        have hbl : bs.length = 8 := by rw [hbs]; rfl
        have sa : ¬ xa < 0 ∧ xa.toNatClampNeg < bs.length := ⟨rxa.1, by rw [hbl]; exact rxa.2⟩
        have sb : ¬ xb < 0 ∧ xb.toNatClampNeg < bs.length := ⟨rxb.1, by rw [hbl]; exact rxb.2⟩
        have sc : ¬ xc < 0 ∧ xc.toNatClampNeg < bs.length := ⟨rxc.1, by rw [hbl]; exact rxc.2⟩
        have sd : ¬ xd < 0 ∧ xd.toNatClampNeg < bs.length := ⟨rxd.1, by rw [hbl]; exact rxd.2⟩
        refine own_go (fun _ kk => XS.iconst X179.here hx rfl (hb hby at_275) kk) ?_
        show own_Fin _ _ _ _ _ _ _ (T179.setTop (mkF m 276 #[.val (.int p0), .val (.int p1), .val (.int p2), .val (.int (2 : Int32)), .val (.int xa), .val (.int xb), .val (.int xc), .val (.int xd), .val (.ref b134), .val (.ref b141), .unset, .unset, .unset] [(.int (4 : Int32))]))
        refine own_newI X179 hx hZ (hw _ (List.mem_of_getElem? (i := 5) rfl)) e179 (hb hby at_276) (by decide) (cap := 4) (by decide) (by decide) (by decide) (by decide) ?_
        intro T184 h184 b184 g184 X184 e184 E184 A184 D184
        have g_b184 : n0 ≤ b184 := Nat.le_trans Z179 (Nat.le_of_eq g184.symm)
        have ne_b134_b184 : b134 ≠ b184 := Nat.ne_of_lt (Nat.lt_of_lt_of_le f180.lt (Nat.le_of_eq g184.symm))
        have ne_b141_b184 : b141 ≠ b184 := Nat.ne_of_lt (Nat.lt_of_lt_of_le Bb141.lt (Nat.le_of_eq g184.symm))
        have f185 := f180.ext E184
        have f186 := f181.ext E184
        have f187 := Bb141.ext E184
        have f188 := f183.ext E184
        have Z184 := Nat.le_trans Z179 E184.1
        have A184 : own_Ar Z h184 b184 .int (List.map Value.int [(0 : Int32), (0 : Int32), (0 : Int32), (0 : Int32)]) := A184
        show own_Fin _ _ _ _ _ _ _ (T184.setTop (mkF m 278 #[.val (.int p0), .val (.int p1), .val (.int p2), .val (.int (2 : Int32)), .val (.int xa), .val (.int xb), .val (.int xc), .val (.int xd), .val (.ref b134), .val (.ref b141), .unset, .unset, .unset] [(.ref b184)]))
        refine own_go (fun _ kk => XS.astore X184.here hx rfl (hb hby at_278) rfl rfl (l' := #[.val (.int p0), .val (.int p1), .val (.int p2), .val (.int (2 : Int32)), .val (.int xa), .val (.int xb), .val (.int xc), .val (.int xd), .val (.ref b134), .val (.ref b141), .val (.ref b184), .unset, .unset]) rfl (XS.iconst X184.here hx rfl (hb hby at_280) (XS.istore X184.here hx rfl (hb hby at_281) rfl (l' := #[.val (.int p0), .val (.int p1), .val (.int p2), .val (.int (2 : Int32)), .val (.int xa), .val (.int xb), .val (.int xc), .val (.int xd), .val (.ref b134), .val (.ref b141), .val (.ref b184), .val (.int (0 : Int32)), .unset]) rfl (XS.iloadN X184.here hx rfl (hb hby at_283) rfl (XS.ifNo X184.here hx rfl (hb hby at_284) rfl (XT.i0_le_f (by decide)) (XS.aload X184.here hx rfl (hb hby at_287) rfl rfl (XS.iload X184.here hx rfl (hb hby at_289) rfl kk))))))) ?_
        show own_Fin _ _ _ _ _ _ _ (T184.setTop (mkF m 291 #[.val (.int p0), .val (.int p1), .val (.int p2), .val (.int (2 : Int32)), .val (.int xa), .val (.int xb), .val (.int xc), .val (.int xd), .val (.ref b134), .val (.ref b141), .val (.ref b184), .val (.int (0 : Int32)), .unset] [(.int xa), (.ref b141)]))
        refine own_ldZ X184 hx hZ e184 f187 sa.1 sa.2 (hb hby at_291) ?_
        show own_Fin _ _ _ _ _ _ _ (T184.setTop (mkF m 292 #[.val (.int p0), .val (.int p1), .val (.int p2), .val (.int (2 : Int32)), .val (.int xa), .val (.int xb), .val (.int xc), .val (.int xd), .val (.ref b134), .val (.ref b141), .val (.ref b184), .val (.int (0 : Int32)), .unset] [(.int (List.getD bs (xa).toNatClampNeg 0))]))
        by_cases hc292 : (List.getD bs (xa).toNatClampNeg 0) = 0
        · refine own_go (fun _ kk => XS.ifYes X184.here hx rfl (pc0 := 292) (pc' := 305) rfl (hb hby at_292) rfl (XT.i0_eq_t hc292) (by decide) (by decide) (XS.iloadN X184.here hx rfl (hb hby at_305) rfl (XS.iconst X184.here hx rfl (hb hby at_306) (XS.icmpNo X184.here hx rfl (hb hby at_307) rfl (XT.ii_le_f (by decide)) (XS.aload X184.here hx rfl (hb hby at_310) rfl rfl (XS.iload X184.here hx rfl (hb hby at_312) rfl kk)))))) ?_
          show own_Fin _ _ _ _ _ _ _ (T184.setTop (mkF m 314 #[.val (.int p0), .val (.int p1), .val (.int p2), .val (.int (2 : Int32)), .val (.int xa), .val (.int xb), .val (.int xc), .val (.int xd), .val (.ref b134), .val (.ref b141), .val (.ref b184), .val (.int (0 : Int32)), .unset] [(.int xb), (.ref b141)]))
          refine own_ldZ X184 hx hZ e184 f187 sb.1 sb.2 (hb hby at_314) ?_
          show own_Fin _ _ _ _ _ _ _ (T184.setTop (mkF m 315 #[.val (.int p0), .val (.int p1), .val (.int p2), .val (.int (2 : Int32)), .val (.int xa), .val (.int xb), .val (.int xc), .val (.int xd), .val (.ref b134), .val (.ref b141), .val (.ref b184), .val (.int (0 : Int32)), .unset] [(.int (List.getD bs (xb).toNatClampNeg 0))]))
          by_cases hc315 : (List.getD bs (xb).toNatClampNeg 0) = 0
          · refine own_go (fun _ kk => XS.ifYes X184.here hx rfl (pc0 := 315) (pc' := 328) rfl (hb hby at_315) rfl (XT.i0_eq_t hc315) (by decide) (by decide) (XS.iloadN X184.here hx rfl (hb hby at_328) rfl (XS.iconst X184.here hx rfl (hb hby at_329) (XS.icmpYes X184.here hx rfl (pc0 := 330) (pc' := 351) rfl (hb hby at_330) rfl (XT.ii_le_t (by decide)) (by decide) (by decide) (XS.iloadN X184.here hx rfl (hb hby at_351) rfl (XS.iconst X184.here hx rfl (hb hby at_352) (XS.icmpYes X184.here hx rfl (pc0 := 353) (pc' := 374) rfl (hb hby at_353) rfl (XT.ii_le_t (by decide)) (by decide) (by decide) (XS.aload X184.here hx rfl (hb hby at_374) rfl rfl (XS.aload X184.here hx rfl (hb hby at_376) rfl rfl kk))))))))) ?_
            show own_Fin _ _ _ _ _ _ _ (T184.setTop (mkF m 378 #[.val (.int p0), .val (.int p1), .val (.int p2), .val (.int (2 : Int32)), .val (.int xa), .val (.int xb), .val (.int xc), .val (.int xd), .val (.ref b134), .val (.ref b141), .val (.ref b184), .val (.int (0 : Int32)), .unset] [(.ref b141), (.ref b134)]))
            refine own_callS X184 hx hZ hown (hw _ (List.mem_of_getElem? (i := 7) rfl)) (hw _ (List.mem_of_getElem? (i := 8) rfl)) (hw _ (List.mem_of_getElem? (i := 9) rfl)) (hw _ (List.mem_of_getElem? (i := 10) rfl)) (by decide) (rm2 l Z a0 hw b134 b141 h184 n0 Z184 [xa, xb] bs f185 f187 (by show 2 ≤ 4; decide) (List.forall_mem_cons.mpr ⟨sa, (List.forall_mem_cons.mpr ⟨sb, (fun x h => nomatch h)⟩)⟩)) e184 (argsL := [(.ref b134), (.ref b141)]) (rest := []) rfl rfl (by rw [hml]; rfl) (lenOf pd_0_1 rfl) (hb hby at_378) (W := 0) (Nat.le_of_eq rfl) (by decide) (by decide) (by decide) (by decide) ?_
            rintro v189 T189 L189 X189 ⟨r189, rfl, M189, Kc189, sz189, A189⟩
            have N189 := Fr.app N179 M189
            have ne189 : r189 ≠ b134 := Nat.ne_of_gt (Nat.lt_of_lt_of_le f185.lt sz189)
            have f190 := f185.keep Kc189 nin0
            have f191 := f186.keep Kc189
            have f192 := f187.keep Kc189 nin0
            have f193 := f188.keep Kc189
            have f194 := A184.keep Kc189 nin0
            have f195 := D184.keep Kc189
            have Z189 := Nat.le_trans Z184 Kc189.1
            have F189 : own_Ar Z T189.heap r189 .int (List.map Value.int ([] : List Int32)) := by
              rw [List.filter_cons_of_neg (by rw [show own_mk bs xa = false from decide_eq_false (fun q => q hc292)]; decide), List.filter_cons_of_neg (by rw [show own_mk bs xb = false from decide_eq_false (fun q => q hc315)]; decide), List.filter_nil] at A189
              exact A189
            show own_Fin _ _ _ _ _ _ _ (T189.setTop (mkF m 381 #[.val (.int p0), .val (.int p1), .val (.int p2), .val (.int (2 : Int32)), .val (.int xa), .val (.int xb), .val (.int xc), .val (.int xd), .val (.ref b134), .val (.ref b141), .val (.ref b184), .val (.int (0 : Int32)), .unset] [(.ref r189)]))
            refine own_go (fun _ kk => XS.astore X189.here hx rfl (hb hby at_381) rfl rfl (l' := #[.val (.int p0), .val (.int p1), .val (.int p2), .val (.int (2 : Int32)), .val (.int xa), .val (.int xb), .val (.int xc), .val (.int xd), .val (.ref b134), .val (.ref b141), .val (.ref b184), .val (.int (0 : Int32)), .val (.ref r189)]) rfl (XS.aload X189.here hx rfl (hb hby at_383) rfl rfl (XS.ifnullNo X189.here hx rfl (hb hby at_385) rfl (XS.aload X189.here hx rfl (hb hby at_388) rfl rfl (XS.aload X189.here hx rfl (hb hby at_390) rfl rfl (XT.acmpYes X189.here hx rfl (pc0 := 392) (pc' := 397) rfl (hb hby at_392) rfl rfl rfl (XT.aa_ne_t (fun q => ne189 (Value.ref.inj q))) (by decide) (by decide) (XS.aload X189.here hx rfl (hb hby at_397) rfl rfl kk))))))) ?_
            show own_Fin _ _ _ _ _ _ _ (T189.setTop (mkF m 399 #[.val (.int p0), .val (.int p1), .val (.int p2), .val (.int (2 : Int32)), .val (.int xa), .val (.int xb), .val (.int xc), .val (.int xd), .val (.ref b134), .val (.ref b141), .val (.ref b184), .val (.int (0 : Int32)), .val (.ref r189)] [(.ref b134)]))
            refine own_alen X189 hx hZ rfl f190 (hb hby at_399) ?_
            show own_Fin _ _ _ _ _ _ _ (T189.setTop (mkF m 400 #[.val (.int p0), .val (.int p1), .val (.int p2), .val (.int (2 : Int32)), .val (.int xa), .val (.int xb), .val (.int xc), .val (.int xd), .val (.ref b134), .val (.ref b141), .val (.ref b184), .val (.int (0 : Int32)), .val (.ref r189)] [(.int (2 : Int32))]))
            refine own_go (fun _ kk => XS.iloadN X189.here hx rfl (hb hby at_400) rfl (XS.icmpYes X189.here hx rfl (pc0 := 401) (pc' := 406) rfl (hb hby at_401) rfl (XT.ii_eq_t (by decide)) (by decide) (by decide) (XS.iloadN X189.here hx rfl (hb hby at_406) rfl (XS.ifNo X189.here hx rfl (hb hby at_407) rfl (XT.i0_le_f (by decide)) (XS.aload X189.here hx rfl (hb hby at_410) rfl rfl (XS.iconst X189.here hx rfl (hb hby at_412) kk)))))) ?_
            show own_Fin _ _ _ _ _ _ _ (T189.setTop (mkF m 413 #[.val (.int p0), .val (.int p1), .val (.int p2), .val (.int (2 : Int32)), .val (.int xa), .val (.int xb), .val (.int xc), .val (.int xd), .val (.ref b134), .val (.ref b141), .val (.ref b184), .val (.int (0 : Int32)), .val (.ref r189)] [(.int (0 : Int32)), (.ref b134)]))
            refine own_ldI X189 hx hZ rfl f190 (by decide) (by show (0 : Int32).toNatClampNeg < 2; decide) (hb hby at_413) ?_
            show own_Fin _ _ _ _ _ _ _ (T189.setTop (mkF m 414 #[.val (.int p0), .val (.int p1), .val (.int p2), .val (.int (2 : Int32)), .val (.int xa), .val (.int xb), .val (.int xc), .val (.int xd), .val (.ref b134), .val (.ref b141), .val (.ref b184), .val (.int (0 : Int32)), .val (.ref r189)] [(.int xa)]))
            refine own_go (fun _ kk => XS.iload X189.here hx rfl (hb hby at_414) rfl (XS.icmpYes X189.here hx rfl (pc0 := 416) (pc' := 421) rfl (hb hby at_416) rfl (XT.ii_eq_t rfl) (by decide) (by decide) (XS.iloadN X189.here hx rfl (hb hby at_421) rfl (XS.iconst X189.here hx rfl (hb hby at_422) (XS.icmpNo X189.here hx rfl (hb hby at_423) rfl (XT.ii_le_f (by decide)) (XS.aload X189.here hx rfl (hb hby at_426) rfl rfl (XS.iconst X189.here hx rfl (hb hby at_428) kk))))))) ?_
            show own_Fin _ _ _ _ _ _ _ (T189.setTop (mkF m 429 #[.val (.int p0), .val (.int p1), .val (.int p2), .val (.int (2 : Int32)), .val (.int xa), .val (.int xb), .val (.int xc), .val (.int xd), .val (.ref b134), .val (.ref b141), .val (.ref b184), .val (.int (0 : Int32)), .val (.ref r189)] [(.int (1 : Int32)), (.ref b134)]))
            refine own_ldI X189 hx hZ rfl f190 (by decide) (by show (1 : Int32).toNatClampNeg < 2; decide) (hb hby at_429) ?_
            show own_Fin _ _ _ _ _ _ _ (T189.setTop (mkF m 430 #[.val (.int p0), .val (.int p1), .val (.int p2), .val (.int (2 : Int32)), .val (.int xa), .val (.int xb), .val (.int xc), .val (.int xd), .val (.ref b134), .val (.ref b141), .val (.ref b184), .val (.int (0 : Int32)), .val (.ref r189)] [(.int xb)]))
            refine own_go (fun _ kk => XS.iload X189.here hx rfl (hb hby at_430) rfl (XS.icmpYes X189.here hx rfl (pc0 := 432) (pc' := 437) rfl (hb hby at_432) rfl (XT.ii_eq_t rfl) (by decide) (by decide) (XS.iloadN X189.here hx rfl (hb hby at_437) rfl (XS.iconst X189.here hx rfl (hb hby at_438) (XS.icmpYes X189.here hx rfl (pc0 := 439) (pc' := 453) rfl (hb hby at_439) rfl (XT.ii_le_t (by decide)) (by decide) (by decide) (XS.iloadN X189.here hx rfl (hb hby at_453) rfl (XS.iconst X189.here hx rfl (hb hby at_454) (XS.icmpYes X189.here hx rfl (pc0 := 455) (pc' := 469) rfl (hb hby at_455) rfl (XT.ii_le_t (by decide)) (by decide) (by decide) (XS.aload X189.here hx rfl (hb hby at_469) rfl rfl kk))))))))) ?_
            show own_Fin _ _ _ _ _ _ _ (T189.setTop (mkF m 471 #[.val (.int p0), .val (.int p1), .val (.int p2), .val (.int (2 : Int32)), .val (.int xa), .val (.int xb), .val (.int xc), .val (.int xd), .val (.ref b134), .val (.ref b141), .val (.ref b184), .val (.int (0 : Int32)), .val (.ref r189)] [(.ref r189)]))
            refine own_alen X189 hx hZ rfl F189 (hb hby at_471) ?_
            show own_Fin _ _ _ _ _ _ _ (T189.setTop (mkF m 472 #[.val (.int p0), .val (.int p1), .val (.int p2), .val (.int (2 : Int32)), .val (.int xa), .val (.int xb), .val (.int xc), .val (.int xd), .val (.ref b134), .val (.ref b141), .val (.ref b184), .val (.int (0 : Int32)), .val (.ref r189)] [(.int (0 : Int32))]))
            refine own_go (fun _ kk => XS.iload X189.here hx rfl (hb hby at_472) rfl (XS.icmpYes X189.here hx rfl (pc0 := 474) (pc' := 479) rfl (hb hby at_474) rfl (XT.ii_eq_t (by decide)) (by decide) (by decide) (XS.iload X189.here hx rfl (hb hby at_479) rfl (XS.ifYes X189.here hx rfl (pc0 := 481) (pc' := 497) rfl (hb hby at_481) rfl (XT.i0_le_t (by decide)) (by decide) (by decide) (XS.iload X189.here hx rfl (hb hby at_497) rfl (XS.iconst X189.here hx rfl (hb hby at_499) (XS.icmpYes X189.here hx rfl (pc0 := 500) (pc' := 516) rfl (hb hby at_500) rfl (XT.ii_le_t (by decide)) (by decide) (by decide) (XS.iload X189.here hx rfl (hb hby at_516) rfl (XS.iconst X189.here hx rfl (hb hby at_518) (XS.icmpYes X189.here hx rfl (pc0 := 519) (pc' := 535) rfl (hb hby at_519) rfl (XT.ii_le_t (by decide)) (by decide) (by decide) kk)))))))))) ?_
            show own_Fin _ _ _ _ _ _ _ (T189.setTop (mkF m 535 #[.val (.int p0), .val (.int p1), .val (.int p2), .val (.int (2 : Int32)), .val (.int xa), .val (.int xb), .val (.int xc), .val (.int xd), .val (.ref b134), .val (.ref b141), .val (.ref b184), .val (.int (0 : Int32)), .val (.ref r189)] []))
            refine own_go (fun _ kk => XS.iload X189.here hx rfl (hb hby at_535) rfl (XS.iconst X189.here hx rfl (hb hby at_537) (XS.icmpYes X189.here hx rfl (pc0 := 538) (pc' := 554) rfl (hb hby at_538) rfl (XT.ii_le_t (by decide)) (by decide) (by decide) (XS.iconst X189.here hx rfl (hb hby at_554) kk)))) ?_
            show own_Fin _ _ _ _ _ _ _ (T189.setTop (mkF m 555 #[.val (.int p0), .val (.int p1), .val (.int p2), .val (.int (2 : Int32)), .val (.int xa), .val (.int xb), .val (.int xc), .val (.int xd), .val (.ref b134), .val (.ref b141), .val (.ref b184), .val (.int (0 : Int32)), .val (.ref r189)] [(.int (1 : Int32))]))
            exact own_retZ X189 hx hlk hret rfl (hb hby at_555) (by decide) (by decide) ⟨rfl, N189⟩
          · refine own_go (fun _ kk => XS.ifNo X184.here hx rfl (hb hby at_315) rfl (XT.i0_eq_f hc315) (XS.aload X184.here hx rfl (hb hby at_318) rfl rfl (XS.iload X184.here hx rfl (hb hby at_320) rfl (XS.iload X184.here hx rfl (hb hby at_322) rfl kk)))) ?_
            show own_Fin _ _ _ _ _ _ _ (T184.setTop (mkF m 324 #[.val (.int p0), .val (.int p1), .val (.int p2), .val (.int (2 : Int32)), .val (.int xa), .val (.int xb), .val (.int xc), .val (.int xd), .val (.ref b134), .val (.ref b141), .val (.ref b184), .val (.int (0 : Int32)), .unset] [(.int xb), (.int (0 : Int32)), (.ref b184)]))
            refine own_stI X184 hx hZ e184 A184 (by decide) (by show (0 : Int32).toNatClampNeg < 4; decide) (hb hby at_324) ?_
            intro T196 h196 X196 e196 W196 A196
            have f197 := f185.other W196 ne_b134_b184
            have f198 := f186.wr W196
            have f199 := f187.other W196 ne_b141_b184
            have f200 := f188.wr W196
            have f202 := D184.wr W196
            have Z196 := Nat.le_trans Z184 (Keep.of_wr W196).1
            have A196 : own_Ar Z h196 b184 .int (List.map Value.int [xb, (0 : Int32), (0 : Int32), (0 : Int32)]) := A196
            have N196 := Fr.snoc X196 N179 g_b184
            show own_Fin _ _ _ _ _ _ _ (T196.setTop (mkF m 325 #[.val (.int p0), .val (.int p1), .val (.int p2), .val (.int (2 : Int32)), .val (.int xa), .val (.int xb), .val (.int xc), .val (.int xd), .val (.ref b134), .val (.ref b141), .val (.ref b184), .val (.int (0 : Int32)), .unset] []))
            refine own_go (fun _ kk => XS.iinc X196.here hx rfl (hb hby at_325) rfl (l' := #[.val (.int p0), .val (.int p1), .val (.int p2), .val (.int (2 : Int32)), .val (.int xa), .val (.int xb), .val (.int xc), .val (.int xd), .val (.ref b134), .val (.ref b141), .val (.ref b184), .val (.int (1 : Int32)), .unset]) rfl (XS.iloadN X196.here hx rfl (hb hby at_328) rfl (XS.iconst X196.here hx rfl (hb hby at_329) (XS.icmpYes X196.here hx rfl (pc0 := 330) (pc' := 351) rfl (hb hby at_330) rfl (XT.ii_le_t (by decide)) (by decide) (by decide) (XS.iloadN X196.here hx rfl (hb hby at_351) rfl (XS.iconst X196.here hx rfl (hb hby at_352) (XS.icmpYes X196.here hx rfl (pc0 := 353) (pc' := 374) rfl (hb hby at_353) rfl (XT.ii_le_t (by decide)) (by decide) (by decide) (XS.aload X196.here hx rfl (hb hby at_374) rfl rfl (XS.aload X196.here hx rfl (hb hby at_376) rfl rfl kk))))))))) ?_
            show own_Fin _ _ _ _ _ _ _ (T196.setTop (mkF m 378 #[.val (.int p0), .val (.int p1), .val (.int p2), .val (.int (2 : Int32)), .val (.int xa), .val (.int xb), .val (.int xc), .val (.int xd), .val (.ref b134), .val (.ref b141), .val (.ref b184), .val (.int (1 : Int32)), .unset] [(.ref b141), (.ref b134)]))
            refine own_callS X196 hx hZ hown (hw _ (List.mem_of_getElem? (i := 7) rfl)) (hw _ (List.mem_of_getElem? (i := 8) rfl)) (hw _ (List.mem_of_getElem? (i := 9) rfl)) (hw _ (List.mem_of_getElem? (i := 10) rfl)) (by decide) (rm2 l Z a0 hw b134 b141 h196 n0 Z196 [xa, xb] bs f197 f199 (by show 2 ≤ 4; decide) (List.forall_mem_cons.mpr ⟨sa, (List.forall_mem_cons.mpr ⟨sb, (fun x h => nomatch h)⟩)⟩)) e196 (argsL := [(.ref b134), (.ref b141)]) (rest := []) rfl rfl (by rw [hml]; rfl) (lenOf pd_0_1 rfl) (hb hby at_378) (W := 0) (Nat.le_of_eq rfl) (by decide) (by decide) (by decide) (by decide) ?_
            rintro v203 T203 L203 X203 ⟨r203, rfl, M203, Kc203, sz203, A203⟩
            have N203 := Fr.app N196 M203
            have ne203 : r203 ≠ b134 := Nat.ne_of_gt (Nat.lt_of_lt_of_le f197.lt sz203)
            have f204 := f197.keep Kc203 nin0
            have f205 := f198.keep Kc203
            have f206 := f199.keep Kc203 nin0
            have f207 := f200.keep Kc203
            have f208 := A196.keep Kc203 nin0
            have f209 := f202.keep Kc203
            have Z203 := Nat.le_trans Z196 Kc203.1
            have F203 : own_Ar Z T203.heap r203 .int (List.map Value.int [xb]) := by
              rw [List.filter_cons_of_neg (by rw [show own_mk bs xa = false from decide_eq_false (fun q => q hc292)]; decide), List.filter_cons_of_pos (show own_mk bs xb = true from decide_eq_true hc315), List.filter_nil] at A203
              exact A203
            show own_Fin _ _ _ _ _ _ _ (T203.setTop (mkF m 381 #[.val (.int p0), .val (.int p1), .val (.int p2), .val (.int (2 : Int32)), .val (.int xa), .val (.int xb), .val (.int xc), .val (.int xd), .val (.ref b134), .val (.ref b141), .val (.ref b184), .val (.int (1 : Int32)), .unset] [(.ref r203)]))
            refine own_go (fun _ kk => XS.astore X203.here hx rfl (hb hby at_381) rfl rfl (l' := #[.val (.int p0), .val (.int p1), .val (.int p2), .val (.int (2 : Int32)), .val (.int xa), .val (.int xb), .val (.int xc), .val (.int xd), .val (.ref b134), .val (.ref b141), .val (.ref b184), .val (.int (1 : Int32)), .val (.ref r203)]) rfl (XS.aload X203.here hx rfl (hb hby at_383) rfl rfl (XS.ifnullNo X203.here hx rfl (hb hby at_385) rfl (XS.aload X203.here hx rfl (hb hby at_388) rfl rfl (XS.aload X203.here hx rfl (hb hby at_390) rfl rfl (XT.acmpYes X203.here hx rfl (pc0 := 392) (pc' := 397) rfl (hb hby at_392) rfl rfl rfl (XT.aa_ne_t (fun q => ne203 (Value.ref.inj q))) (by decide) (by decide) (XS.aload X203.here hx rfl (hb hby at_397) rfl rfl kk))))))) ?_
            show own_Fin _ _ _ _ _ _ _ (T203.setTop (mkF m 399 #[.val (.int p0), .val (.int p1), .val (.int p2), .val (.int (2 : Int32)), .val (.int xa), .val (.int xb), .val (.int xc), .val (.int xd), .val (.ref b134), .val (.ref b141), .val (.ref b184), .val (.int (1 : Int32)), .val (.ref r203)] [(.ref b134)]))
            refine own_alen X203 hx hZ rfl f204 (hb hby at_399) ?_
            show own_Fin _ _ _ _ _ _ _ (T203.setTop (mkF m 400 #[.val (.int p0), .val (.int p1), .val (.int p2), .val (.int (2 : Int32)), .val (.int xa), .val (.int xb), .val (.int xc), .val (.int xd), .val (.ref b134), .val (.ref b141), .val (.ref b184), .val (.int (1 : Int32)), .val (.ref r203)] [(.int (2 : Int32))]))
            refine own_go (fun _ kk => XS.iloadN X203.here hx rfl (hb hby at_400) rfl (XS.icmpYes X203.here hx rfl (pc0 := 401) (pc' := 406) rfl (hb hby at_401) rfl (XT.ii_eq_t (by decide)) (by decide) (by decide) (XS.iloadN X203.here hx rfl (hb hby at_406) rfl (XS.ifNo X203.here hx rfl (hb hby at_407) rfl (XT.i0_le_f (by decide)) (XS.aload X203.here hx rfl (hb hby at_410) rfl rfl (XS.iconst X203.here hx rfl (hb hby at_412) kk)))))) ?_
            show own_Fin _ _ _ _ _ _ _ (T203.setTop (mkF m 413 #[.val (.int p0), .val (.int p1), .val (.int p2), .val (.int (2 : Int32)), .val (.int xa), .val (.int xb), .val (.int xc), .val (.int xd), .val (.ref b134), .val (.ref b141), .val (.ref b184), .val (.int (1 : Int32)), .val (.ref r203)] [(.int (0 : Int32)), (.ref b134)]))
            refine own_ldI X203 hx hZ rfl f204 (by decide) (by show (0 : Int32).toNatClampNeg < 2; decide) (hb hby at_413) ?_
            show own_Fin _ _ _ _ _ _ _ (T203.setTop (mkF m 414 #[.val (.int p0), .val (.int p1), .val (.int p2), .val (.int (2 : Int32)), .val (.int xa), .val (.int xb), .val (.int xc), .val (.int xd), .val (.ref b134), .val (.ref b141), .val (.ref b184), .val (.int (1 : Int32)), .val (.ref r203)] [(.int xa)]))
            refine own_go (fun _ kk => XS.iload X203.here hx rfl (hb hby at_414) rfl (XS.icmpYes X203.here hx rfl (pc0 := 416) (pc' := 421) rfl (hb hby at_416) rfl (XT.ii_eq_t rfl) (by decide) (by decide) (XS.iloadN X203.here hx rfl (hb hby at_421) rfl (XS.iconst X203.here hx rfl (hb hby at_422) (XS.icmpNo X203.here hx rfl (hb hby at_423) rfl (XT.ii_le_f (by decide)) (XS.aload X203.here hx rfl (hb hby at_426) rfl rfl (XS.iconst X203.here hx rfl (hb hby at_428) kk))))))) ?_
            show own_Fin _ _ _ _ _ _ _ (T203.setTop (mkF m 429 #[.val (.int p0), .val (.int p1), .val (.int p2), .val (.int (2 : Int32)), .val (.int xa), .val (.int xb), .val (.int xc), .val (.int xd), .val (.ref b134), .val (.ref b141), .val (.ref b184), .val (.int (1 : Int32)), .val (.ref r203)] [(.int (1 : Int32)), (.ref b134)]))
            refine own_ldI X203 hx hZ rfl f204 (by decide) (by show (1 : Int32).toNatClampNeg < 2; decide) (hb hby at_429) ?_
            show own_Fin _ _ _ _ _ _ _ (T203.setTop (mkF m 430 #[.val (.int p0), .val (.int p1), .val (.int p2), .val (.int (2 : Int32)), .val (.int xa), .val (.int xb), .val (.int xc), .val (.int xd), .val (.ref b134), .val (.ref b141), .val (.ref b184), .val (.int (1 : Int32)), .val (.ref r203)] [(.int xb)]))
            refine own_go (fun _ kk => XS.iload X203.here hx rfl (hb hby at_430) rfl (XS.icmpYes X203.here hx rfl (pc0 := 432) (pc' := 437) rfl (hb hby at_432) rfl (XT.ii_eq_t rfl) (by decide) (by decide) (XS.iloadN X203.here hx rfl (hb hby at_437) rfl (XS.iconst X203.here hx rfl (hb hby at_438) (XS.icmpYes X203.here hx rfl (pc0 := 439) (pc' := 453) rfl (hb hby at_439) rfl (XT.ii_le_t (by decide)) (by decide) (by decide) (XS.iloadN X203.here hx rfl (hb hby at_453) rfl (XS.iconst X203.here hx rfl (hb hby at_454) (XS.icmpYes X203.here hx rfl (pc0 := 455) (pc' := 469) rfl (hb hby at_455) rfl (XT.ii_le_t (by decide)) (by decide) (by decide) (XS.aload X203.here hx rfl (hb hby at_469) rfl rfl kk))))))))) ?_
            show own_Fin _ _ _ _ _ _ _ (T203.setTop (mkF m 471 #[.val (.int p0), .val (.int p1), .val (.int p2), .val (.int (2 : Int32)), .val (.int xa), .val (.int xb), .val (.int xc), .val (.int xd), .val (.ref b134), .val (.ref b141), .val (.ref b184), .val (.int (1 : Int32)), .val (.ref r203)] [(.ref r203)]))
            refine own_alen X203 hx hZ rfl F203 (hb hby at_471) ?_
            show own_Fin _ _ _ _ _ _ _ (T203.setTop (mkF m 472 #[.val (.int p0), .val (.int p1), .val (.int p2), .val (.int (2 : Int32)), .val (.int xa), .val (.int xb), .val (.int xc), .val (.int xd), .val (.ref b134), .val (.ref b141), .val (.ref b184), .val (.int (1 : Int32)), .val (.ref r203)] [(.int (1 : Int32))]))
            refine own_go (fun _ kk => XS.iload X203.here hx rfl (hb hby at_472) rfl (XS.icmpYes X203.here hx rfl (pc0 := 474) (pc' := 479) rfl (hb hby at_474) rfl (XT.ii_eq_t (by decide)) (by decide) (by decide) (XS.iload X203.here hx rfl (hb hby at_479) rfl (XS.ifNo X203.here hx rfl (hb hby at_481) rfl (XT.i0_le_f (by decide)) (XS.aload X203.here hx rfl (hb hby at_484) rfl rfl (XS.iconst X203.here hx rfl (hb hby at_486) kk)))))) ?_
            show own_Fin _ _ _ _ _ _ _ (T203.setTop (mkF m 487 #[.val (.int p0), .val (.int p1), .val (.int p2), .val (.int (2 : Int32)), .val (.int xa), .val (.int xb), .val (.int xc), .val (.int xd), .val (.ref b134), .val (.ref b141), .val (.ref b184), .val (.int (1 : Int32)), .val (.ref r203)] [(.int (0 : Int32)), (.ref r203)]))
            refine own_ldI X203 hx hZ rfl F203 (by decide) (by show (0 : Int32).toNatClampNeg < 1; decide) (hb hby at_487) ?_
            show own_Fin _ _ _ _ _ _ _ (T203.setTop (mkF m 488 #[.val (.int p0), .val (.int p1), .val (.int p2), .val (.int (2 : Int32)), .val (.int xa), .val (.int xb), .val (.int xc), .val (.int xd), .val (.ref b134), .val (.ref b141), .val (.ref b184), .val (.int (1 : Int32)), .val (.ref r203)] [(.int xb)]))
            refine own_go (fun _ kk => XS.aload X203.here hx rfl (hb hby at_488) rfl rfl (XS.iconst X203.here hx rfl (hb hby at_490) kk)) ?_
            show own_Fin _ _ _ _ _ _ _ (T203.setTop (mkF m 491 #[.val (.int p0), .val (.int p1), .val (.int p2), .val (.int (2 : Int32)), .val (.int xa), .val (.int xb), .val (.int xc), .val (.int xd), .val (.ref b134), .val (.ref b141), .val (.ref b184), .val (.int (1 : Int32)), .val (.ref r203)] [(.int (0 : Int32)), (.ref b184), (.int xb)]))
            refine own_ldI X203 hx hZ rfl f208 (by decide) (by show (0 : Int32).toNatClampNeg < 4; decide) (hb hby at_491) ?_
            show own_Fin _ _ _ _ _ _ _ (T203.setTop (mkF m 492 #[.val (.int p0), .val (.int p1), .val (.int p2), .val (.int (2 : Int32)), .val (.int xa), .val (.int xb), .val (.int xc), .val (.int xd), .val (.ref b134), .val (.ref b141), .val (.ref b184), .val (.int (1 : Int32)), .val (.ref r203)] [(.int xb), (.int xb)]))
            refine own_go (fun _ kk => XS.icmpYes X203.here hx rfl (pc0 := 492) (pc' := 497) rfl (hb hby at_492) rfl (XT.ii_eq_t rfl) (by decide) (by decide) (XS.iload X203.here hx rfl (hb hby at_497) rfl (XS.iconst X203.here hx rfl (hb hby at_499) (XS.icmpYes X203.here hx rfl (pc0 := 500) (pc' := 516) rfl (hb hby at_500) rfl (XT.ii_le_t (by decide)) (by decide) (by decide) (XS.iload X203.here hx rfl (hb hby at_516) rfl (XS.iconst X203.here hx rfl (hb hby at_518) (XS.icmpYes X203.here hx rfl (pc0 := 519) (pc' := 535) rfl (hb hby at_519) rfl (XT.ii_le_t (by decide)) (by decide) (by decide) (XS.iload X203.here hx rfl (hb hby at_535) rfl (XS.iconst X203.here hx rfl (hb hby at_537) (XS.icmpYes X203.here hx rfl (pc0 := 538) (pc' := 554) rfl (hb hby at_538) rfl (XT.ii_le_t (by decide)) (by decide) (by decide) kk)))))))))) ?_
            show own_Fin _ _ _ _ _ _ _ (T203.setTop (mkF m 554 #[.val (.int p0), .val (.int p1), .val (.int p2), .val (.int (2 : Int32)), .val (.int xa), .val (.int xb), .val (.int xc), .val (.int xd), .val (.ref b134), .val (.ref b141), .val (.ref b184), .val (.int (1 : Int32)), .val (.ref r203)] []))
            refine own_go (fun _ kk => XS.iconst X203.here hx rfl (hb hby at_554) kk) ?_
            show own_Fin _ _ _ _ _ _ _ (T203.setTop (mkF m 555 #[.val (.int p0), .val (.int p1), .val (.int p2), .val (.int (2 : Int32)), .val (.int xa), .val (.int xb), .val (.int xc), .val (.int xd), .val (.ref b134), .val (.ref b141), .val (.ref b184), .val (.int (1 : Int32)), .val (.ref r203)] [(.int (1 : Int32))]))
            exact own_retZ X203 hx hlk hret rfl (hb hby at_555) (by decide) (by decide) ⟨rfl, N203⟩
        · refine own_go (fun _ kk => XS.ifNo X184.here hx rfl (hb hby at_292) rfl (XT.i0_eq_f hc292) (XS.aload X184.here hx rfl (hb hby at_295) rfl rfl (XS.iload X184.here hx rfl (hb hby at_297) rfl (XS.iload X184.here hx rfl (hb hby at_299) rfl kk)))) ?_
          show own_Fin _ _ _ _ _ _ _ (T184.setTop (mkF m 301 #[.val (.int p0), .val (.int p1), .val (.int p2), .val (.int (2 : Int32)), .val (.int xa), .val (.int xb), .val (.int xc), .val (.int xd), .val (.ref b134), .val (.ref b141), .val (.ref b184), .val (.int (0 : Int32)), .unset] [(.int xa), (.int (0 : Int32)), (.ref b184)]))
          refine own_stI X184 hx hZ e184 A184 (by decide) (by show (0 : Int32).toNatClampNeg < 4; decide) (hb hby at_301) ?_
          intro T210 h210 X210 e210 W210 A210
          have f211 := f185.other W210 ne_b134_b184
          have f212 := f186.wr W210
          have f213 := f187.other W210 ne_b141_b184
          have f214 := f188.wr W210
          have f216 := D184.wr W210
          have Z210 := Nat.le_trans Z184 (Keep.of_wr W210).1
          have A210 : own_Ar Z h210 b184 .int (List.map Value.int [xa, (0 : Int32), (0 : Int32), (0 : Int32)]) := A210
          have N210 := Fr.snoc X210 N179 g_b184
          show own_Fin _ _ _ _ _ _ _ (T210.setTop (mkF m 302 #[.val (.int p0), .val (.int p1), .val (.int p2), .val (.int (2 : Int32)), .val (.int xa), .val (.int xb), .val (.int xc), .val (.int xd), .val (.ref b134), .val (.ref b141), .val (.ref b184), .val (.int (0 : Int32)), .unset] []))
          refine own_go (fun _ kk => XS.iinc X210.here hx rfl (hb hby at_302) rfl (l' := #[.val (.int p0), .val (.int p1), .val (.int p2), .val (.int (2 : Int32)), .val (.int xa), .val (.int xb), .val (.int xc), .val (.int xd), .val (.ref b134), .val (.ref b141), .val (.ref b184), .val (.int (1 : Int32)), .unset]) rfl (XS.iloadN X210.here hx rfl (hb hby at_305) rfl (XS.iconst X210.here hx rfl (hb hby at_306) (XS.icmpNo X210.here hx rfl (hb hby at_307) rfl (XT.ii_le_f (by decide)) (XS.aload X210.here hx rfl (hb hby at_310) rfl rfl (XS.iload X210.here hx rfl (hb hby at_312) rfl kk)))))) ?_
          show own_Fin _ _ _ _ _ _ _ (T210.setTop (mkF m 314 #[.val (.int p0), .val (.int p1), .val (.int p2), .val (.int (2 : Int32)), .val (.int xa), .val (.int xb), .val (.int xc), .val (.int xd), .val (.ref b134), .val (.ref b141), .val (.ref b184), .val (.int (1 : Int32)), .unset] [(.int xb), (.ref b141)]))
          refine own_ldZ X210 hx hZ e210 f213 sb.1 sb.2 (hb hby at_314) ?_
          show own_Fin _ _ _ _ _ _ _ (T210.setTop (mkF m 315 #[.val (.int p0), .val (.int p1), .val (.int p2), .val (.int (2 : Int32)), .val (.int xa), .val (.int xb), .val (.int xc), .val (.int xd), .val (.ref b134), .val (.ref b141), .val (.ref b184), .val (.int (1 : Int32)), .unset] [(.int (List.getD bs (xb).toNatClampNeg 0))]))
          by_cases hc315 : (List.getD bs (xb).toNatClampNeg 0) = 0
          · refine own_go (fun _ kk => XS.ifYes X210.here hx rfl (pc0 := 315) (pc' := 328) rfl (hb hby at_315) rfl (XT.i0_eq_t hc315) (by decide) (by decide) (XS.iloadN X210.here hx rfl (hb hby at_328) rfl (XS.iconst X210.here hx rfl (hb hby at_329) (XS.icmpYes X210.here hx rfl (pc0 := 330) (pc' := 351) rfl (hb hby at_330) rfl (XT.ii_le_t (by decide)) (by decide) (by decide) (XS.iloadN X210.here hx rfl (hb hby at_351) rfl (XS.iconst X210.here hx rfl (hb hby at_352) (XS.icmpYes X210.here hx rfl (pc0 := 353) (pc' := 374) rfl (hb hby at_353) rfl (XT.ii_le_t (by decide)) (by decide) (by decide) (XS.aload X210.here hx rfl (hb hby at_374) rfl rfl (XS.aload X210.here hx rfl (hb hby at_376) rfl rfl kk))))))))) ?_
            show own_Fin _ _ _ _ _ _ _ (T210.setTop (mkF m 378 #[.val (.int p0), .val (.int p1), .val (.int p2), .val (.int (2 : Int32)), .val (.int xa), .val (.int xb), .val (.int xc), .val (.int xd), .val (.ref b134), .val (.ref b141), .val (.ref b184), .val (.int (1 : Int32)), .unset] [(.ref b141), (.ref b134)]))
            refine own_callS X210 hx hZ hown (hw _ (List.mem_of_getElem? (i := 7) rfl)) (hw _ (List.mem_of_getElem? (i := 8) rfl)) (hw _ (List.mem_of_getElem? (i := 9) rfl)) (hw _ (List.mem_of_getElem? (i := 10) rfl)) (by decide) (rm2 l Z a0 hw b134 b141 h210 n0 Z210 [xa, xb] bs f211 f213 (by show 2 ≤ 4; decide) (List.forall_mem_cons.mpr ⟨sa, (List.forall_mem_cons.mpr ⟨sb, (fun x h => nomatch h)⟩)⟩)) e210 (argsL := [(.ref b134), (.ref b141)]) (rest := []) rfl rfl (by rw [hml]; rfl) (lenOf pd_0_1 rfl) (hb hby at_378) (W := 0) (Nat.le_of_eq rfl) (by decide) (by decide) (by decide) (by decide) ?_
            rintro v217 T217 L217 X217 ⟨r217, rfl, M217, Kc217, sz217, A217⟩
            have N217 := Fr.app N210 M217
            have ne217 : r217 ≠ b134 := Nat.ne_of_gt (Nat.lt_of_lt_of_le f211.lt sz217)
            have f218 := f211.keep Kc217 nin0
            have f219 := f212.keep Kc217
            have f220 := f213.keep Kc217 nin0
            have f221 := f214.keep Kc217
            have f222 := A210.keep Kc217 nin0
            have f223 := f216.keep Kc217
            have Z217 := Nat.le_trans Z210 Kc217.1
            have F217 : own_Ar Z T217.heap r217 .int (List.map Value.int [xa]) := by
              rw [List.filter_cons_of_pos (show own_mk bs xa = true from decide_eq_true hc292), List.filter_cons_of_neg (by rw [show own_mk bs xb = false from decide_eq_false (fun q => q hc315)]; decide), List.filter_nil] at A217
              exact A217
            show own_Fin _ _ _ _ _ _ _ (T217.setTop (mkF m 381 #[.val (.int p0), .val (.int p1), .val (.int p2), .val (.int (2 : Int32)), .val (.int xa), .val (.int xb), .val (.int xc), .val (.int xd), .val (.ref b134), .val (.ref b141), .val (.ref b184), .val (.int (1 : Int32)), .unset] [(.ref r217)]))
            refine own_go (fun _ kk => XS.astore X217.here hx rfl (hb hby at_381) rfl rfl (l' := #[.val (.int p0), .val (.int p1), .val (.int p2), .val (.int (2 : Int32)), .val (.int xa), .val (.int xb), .val (.int xc), .val (.int xd), .val (.ref b134), .val (.ref b141), .val (.ref b184), .val (.int (1 : Int32)), .val (.ref r217)]) rfl (XS.aload X217.here hx rfl (hb hby at_383) rfl rfl (XS.ifnullNo X217.here hx rfl (hb hby at_385) rfl (XS.aload X217.here hx rfl (hb hby at_388) rfl rfl (XS.aload X217.here hx rfl (hb hby at_390) rfl rfl (XT.acmpYes X217.here hx rfl (pc0 := 392) (pc' := 397) rfl (hb hby at_392) rfl rfl rfl (XT.aa_ne_t (fun q => ne217 (Value.ref.inj q))) (by decide) (by decide) (XS.aload X217.here hx rfl (hb hby at_397) rfl rfl kk))))))) ?_
            show own_Fin _ _ _ _ _ _ _ (T217.setTop (mkF m 399 #[.val (.int p0), .val (.int p1), .val (.int p2), .val (.int (2 : Int32)), .val (.int xa), .val (.int xb), .val (.int xc), .val (.int xd), .val (.ref b134), .val (.ref b141), .val (.ref b184), .val (.int (1 : Int32)), .val (.ref r217)] [(.ref b134)]))
            refine own_alen X217 hx hZ rfl f218 (hb hby at_399) ?_
            show own_Fin _ _ _ _ _ _ _ (T217.setTop (mkF m 400 #[.val (.int p0), .val (.int p1), .val (.int p2), .val (.int (2 : Int32)), .val (.int xa), .val (.int xb), .val (.int xc), .val (.int xd), .val (.ref b134), .val (.ref b141), .val (.ref b184), .val (.int (1 : Int32)), .val (.ref r217)] [(.int (2 : Int32))]))
            refine own_go (fun _ kk => XS.iloadN X217.here hx rfl (hb hby at_400) rfl (XS.icmpYes X217.here hx rfl (pc0 := 401) (pc' := 406) rfl (hb hby at_401) rfl (XT.ii_eq_t (by decide)) (by decide) (by decide) (XS.iloadN X217.here hx rfl (hb hby at_406) rfl (XS.ifNo X217.here hx rfl (hb hby at_407) rfl (XT.i0_le_f (by decide)) (XS.aload X217.here hx rfl (hb hby at_410) rfl rfl (XS.iconst X217.here hx rfl (hb hby at_412) kk)))))) ?_
            show own_Fin _ _ _ _ _ _ _ (T217.setTop (mkF m 413 #[.val (.int p0), .val (.int p1), .val (.int p2), .val (.int (2 : Int32)), .val (.int xa), .val (.int xb), .val (.int xc), .val (.int xd), .val (.ref b134), .val (.ref b141), .val (.ref b184), .val (.int (1 : Int32)), .val (.ref r217)] [(.int (0 : Int32)), (.ref b134)]))
            refine own_ldI X217 hx hZ rfl f218 (by decide) (by show (0 : Int32).toNatClampNeg < 2; decide) (hb hby at_413) ?_
            show own_Fin _ _ _ _ _ _ _ (T217.setTop (mkF m 414 #[.val (.int p0), .val (.int p1), .val (.int p2), .val (.int (2 : Int32)), .val (.int xa), .val (.int xb), .val (.int xc), .val (.int xd), .val (.ref b134), .val (.ref b141), .val (.ref b184), .val (.int (1 : Int32)), .val (.ref r217)] [(.int xa)]))
            refine own_go (fun _ kk => XS.iload X217.here hx rfl (hb hby at_414) rfl (XS.icmpYes X217.here hx rfl (pc0 := 416) (pc' := 421) rfl (hb hby at_416) rfl (XT.ii_eq_t rfl) (by decide) (by decide) (XS.iloadN X217.here hx rfl (hb hby at_421) rfl (XS.iconst X217.here hx rfl (hb hby at_422) (XS.icmpNo X217.here hx rfl (hb hby at_423) rfl (XT.ii_le_f (by decide)) (XS.aload X217.here hx rfl (hb hby at_426) rfl rfl (XS.iconst X217.here hx rfl (hb hby at_428) kk))))))) ?_
            show own_Fin _ _ _ _ _ _ _ (T217.setTop (mkF m 429 #[.val (.int p0), .val (.int p1), .val (.int p2), .val (.int (2 : Int32)), .val (.int xa), .val (.int xb), .val (.int xc), .val (.int xd), .val (.ref b134), .val (.ref b141), .val (.ref b184), .val (.int (1 : Int32)), .val (.ref r217)] [(.int (1 : Int32)), (.ref b134)]))
            refine own_ldI X217 hx hZ rfl f218 (by decide) (by show (1 : Int32).toNatClampNeg < 2; decide) (hb hby at_429) ?_
            show own_Fin _ _ _ _ _ _ _ (T217.setTop (mkF m 430 #[.val (.int p0), .val (.int p1), .val (.int p2), .val (.int (2 : Int32)), .val (.int xa), .val (.int xb), .val (.int xc), .val (.int xd), .val (.ref b134), .val (.ref b141), .val (.ref b184), .val (.int (1 : Int32)), .val (.ref r217)] [(.int xb)]))
            refine own_go (fun _ kk => XS.iload X217.here hx rfl (hb hby at_430) rfl (XS.icmpYes X217.here hx rfl (pc0 := 432) (pc' := 437) rfl (hb hby at_432) rfl (XT.ii_eq_t rfl) (by decide) (by decide) (XS.iloadN X217.here hx rfl (hb hby at_437) rfl (XS.iconst X217.here hx rfl (hb hby at_438) (XS.icmpYes X217.here hx rfl (pc0 := 439) (pc' := 453) rfl (hb hby at_439) rfl (XT.ii_le_t (by decide)) (by decide) (by decide) (XS.iloadN X217.here hx rfl (hb hby at_453) rfl (XS.iconst X217.here hx rfl (hb hby at_454) (XS.icmpYes X217.here hx rfl (pc0 := 455) (pc' := 469) rfl (hb hby at_455) rfl (XT.ii_le_t (by decide)) (by decide) (by decide) (XS.aload X217.here hx rfl (hb hby at_469) rfl rfl kk))))))))) ?_
            show own_Fin _ _ _ _ _ _ _ (T217.setTop (mkF m 471 #[.val (.int p0), .val (.int p1), .val (.int p2), .val (.int (2 : Int32)), .val (.int xa), .val (.int xb), .val (.int xc), .val (.int xd), .val (.ref b134), .val (.ref b141), .val (.ref b184), .val (.int (1 : Int32)), .val (.ref r217)] [(.ref r217)]))
            refine own_alen X217 hx hZ rfl F217 (hb hby at_471) ?_
            show own_Fin _ _ _ _ _ _ _ (T217.setTop (mkF m 472 #[.val (.int p0), .val (.int p1), .val (.int p2), .val (.int (2 : Int32)), .val (.int xa), .val (.int xb), .val (.int xc), .val (.int xd), .val (.ref b134), .val (.ref b141), .val (.ref b184), .val (.int (1 : Int32)), .val (.ref r217)] [(.int (1 : Int32))]))
            refine own_go (fun _ kk => XS.iload X217.here hx rfl (hb hby at_472) rfl (XS.icmpYes X217.here hx rfl (pc0 := 474) (pc' := 479) rfl (hb hby at_474) rfl (XT.ii_eq_t (by decide)) (by decide) (by decide) (XS.iload X217.here hx rfl (hb hby at_479) rfl (XS.ifNo X217.here hx rfl (hb hby at_481) rfl (XT.i0_le_f (by decide)) (XS.aload X217.here hx rfl (hb hby at_484) rfl rfl (XS.iconst X217.here hx rfl (hb hby at_486) kk)))))) ?_
            show own_Fin _ _ _ _ _ _ _ (T217.setTop (mkF m 487 #[.val (.int p0), .val (.int p1), .val (.int p2), .val (.int (2 : Int32)), .val (.int xa), .val (.int xb), .val (.int xc), .val (.int xd), .val (.ref b134), .val (.ref b141), .val (.ref b184), .val (.int (1 : Int32)), .val (.ref r217)] [(.int (0 : Int32)), (.ref r217)]))
            refine own_ldI X217 hx hZ rfl F217 (by decide) (by show (0 : Int32).toNatClampNeg < 1; decide) (hb hby at_487) ?_
            show own_Fin _ _ _ _ _ _ _ (T217.setTop (mkF m 488 #[.val (.int p0), .val (.int p1), .val (.int p2), .val (.int (2 : Int32)), .val (.int xa), .val (.int xb), .val (.int xc), .val (.int xd), .val (.ref b134), .val (.ref b141), .val (.ref b184), .val (.int (1 : Int32)), .val (.ref r217)] [(.int xa)]))
            refine own_go (fun _ kk => XS.aload X217.here hx rfl (hb hby at_488) rfl rfl (XS.iconst X217.here hx rfl (hb hby at_490) kk)) ?_
            show own_Fin _ _ _ _ _ _ _ (T217.setTop (mkF m 491 #[.val (.int p0), .val (.int p1), .val (.int p2), .val (.int (2 : Int32)), .val (.int xa), .val (.int xb), .val (.int xc), .val (.int xd), .val (.ref b134), .val (.ref b141), .val (.ref b184), .val (.int (1 : Int32)), .val (.ref r217)] [(.int (0 : Int32)), (.ref b184), (.int xa)]))
            refine own_ldI X217 hx hZ rfl f222 (by decide) (by show (0 : Int32).toNatClampNeg < 4; decide) (hb hby at_491) ?_
            show own_Fin _ _ _ _ _ _ _ (T217.setTop (mkF m 492 #[.val (.int p0), .val (.int p1), .val (.int p2), .val (.int (2 : Int32)), .val (.int xa), .val (.int xb), .val (.int xc), .val (.int xd), .val (.ref b134), .val (.ref b141), .val (.ref b184), .val (.int (1 : Int32)), .val (.ref r217)] [(.int xa), (.int xa)]))
            refine own_go (fun _ kk => XS.icmpYes X217.here hx rfl (pc0 := 492) (pc' := 497) rfl (hb hby at_492) rfl (XT.ii_eq_t rfl) (by decide) (by decide) (XS.iload X217.here hx rfl (hb hby at_497) rfl (XS.iconst X217.here hx rfl (hb hby at_499) (XS.icmpYes X217.here hx rfl (pc0 := 500) (pc' := 516) rfl (hb hby at_500) rfl (XT.ii_le_t (by decide)) (by decide) (by decide) (XS.iload X217.here hx rfl (hb hby at_516) rfl (XS.iconst X217.here hx rfl (hb hby at_518) (XS.icmpYes X217.here hx rfl (pc0 := 519) (pc' := 535) rfl (hb hby at_519) rfl (XT.ii_le_t (by decide)) (by decide) (by decide) (XS.iload X217.here hx rfl (hb hby at_535) rfl (XS.iconst X217.here hx rfl (hb hby at_537) (XS.icmpYes X217.here hx rfl (pc0 := 538) (pc' := 554) rfl (hb hby at_538) rfl (XT.ii_le_t (by decide)) (by decide) (by decide) kk)))))))))) ?_
            show own_Fin _ _ _ _ _ _ _ (T217.setTop (mkF m 554 #[.val (.int p0), .val (.int p1), .val (.int p2), .val (.int (2 : Int32)), .val (.int xa), .val (.int xb), .val (.int xc), .val (.int xd), .val (.ref b134), .val (.ref b141), .val (.ref b184), .val (.int (1 : Int32)), .val (.ref r217)] []))
            refine own_go (fun _ kk => XS.iconst X217.here hx rfl (hb hby at_554) kk) ?_
            show own_Fin _ _ _ _ _ _ _ (T217.setTop (mkF m 555 #[.val (.int p0), .val (.int p1), .val (.int p2), .val (.int (2 : Int32)), .val (.int xa), .val (.int xb), .val (.int xc), .val (.int xd), .val (.ref b134), .val (.ref b141), .val (.ref b184), .val (.int (1 : Int32)), .val (.ref r217)] [(.int (1 : Int32))]))
            exact own_retZ X217 hx hlk hret rfl (hb hby at_555) (by decide) (by decide) ⟨rfl, N217⟩
          · refine own_go (fun _ kk => XS.ifNo X210.here hx rfl (hb hby at_315) rfl (XT.i0_eq_f hc315) (XS.aload X210.here hx rfl (hb hby at_318) rfl rfl (XS.iload X210.here hx rfl (hb hby at_320) rfl (XS.iload X210.here hx rfl (hb hby at_322) rfl kk)))) ?_
            show own_Fin _ _ _ _ _ _ _ (T210.setTop (mkF m 324 #[.val (.int p0), .val (.int p1), .val (.int p2), .val (.int (2 : Int32)), .val (.int xa), .val (.int xb), .val (.int xc), .val (.int xd), .val (.ref b134), .val (.ref b141), .val (.ref b184), .val (.int (1 : Int32)), .unset] [(.int xb), (.int (1 : Int32)), (.ref b184)]))
            refine own_stI X210 hx hZ e210 A210 (by decide) (by show (1 : Int32).toNatClampNeg < 4; decide) (hb hby at_324) ?_
            intro T224 h224 X224 e224 W224 A224
            have f225 := f211.other W224 ne_b134_b184
            have f226 := f212.wr W224
            have f227 := f213.other W224 ne_b141_b184
            have f228 := f214.wr W224
            have f230 := f216.wr W224
            have Z224 := Nat.le_trans Z210 (Keep.of_wr W224).1
            have A224 : own_Ar Z h224 b184 .int (List.map Value.int [xa, xb, (0 : Int32), (0 : Int32)]) := A224
            have N224 := Fr.snoc X224 N210 g_b184
            show own_Fin _ _ _ _ _ _ _ (T224.setTop (mkF m 325 #[.val (.int p0), .val (.int p1), .val (.int p2), .val (.int (2 : Int32)), .val (.int xa), .val (.int xb), .val (.int xc), .val (.int xd), .val (.ref b134), .val (.ref b141), .val (.ref b184), .val (.int (1 : Int32)), .unset] []))
            refine own_go (fun _ kk => XS.iinc X224.here hx rfl (hb hby at_325) rfl (l' := #[.val (.int p0), .val (.int p1), .val (.int p2), .val (.int (2 : Int32)), .val (.int xa), .val (.int xb), .val (.int xc), .val (.int xd), .val (.ref b134), .val (.ref b141), .val (.ref b184), .val (.int (2 : Int32)), .unset]) rfl (XS.iloadN X224.here hx rfl (hb hby at_328) rfl (XS.iconst X224.here hx rfl (hb hby at_329) (XS.icmpYes X224.here hx rfl (pc0 := 330) (pc' := 351) rfl (hb hby at_330) rfl (XT.ii_le_t (by decide)) (by decide) (by decide) (XS.iloadN X224.here hx rfl (hb hby at_351) rfl (XS.iconst X224.here hx rfl (hb hby at_352) (XS.icmpYes X224.here hx rfl (pc0 := 353) (pc' := 374) rfl (hb hby at_353) rfl (XT.ii_le_t (by decide)) (by decide) (by decide) (XS.aload X224.here hx rfl (hb hby at_374) rfl rfl (XS.aload X224.here hx rfl (hb hby at_376) rfl rfl kk))))))))) ?_
            show own_Fin _ _ _ _ _ _ _ (T224.setTop (mkF m 378 #[.val (.int p0), .val (.int p1), .val (.int p2), .val (.int (2 : Int32)), .val (.int xa), .val (.int xb), .val (.int xc), .val (.int xd), .val (.ref b134), .val (.ref b141), .val (.ref b184), .val (.int (2 : Int32)), .unset] [(.ref b141), (.ref b134)]))
            refine own_callS X224 hx hZ hown (hw _ (List.mem_of_getElem? (i := 7) rfl)) (hw _ (List.mem_of_getElem? (i := 8) rfl)) (hw _ (List.mem_of_getElem? (i := 9) rfl)) (hw _ (List.mem_of_getElem? (i := 10) rfl)) (by decide) (rm2 l Z a0 hw b134 b141 h224 n0 Z224 [xa, xb] bs f225 f227 (by show 2 ≤ 4; decide) (List.forall_mem_cons.mpr ⟨sa, (List.forall_mem_cons.mpr ⟨sb, (fun x h => nomatch h)⟩)⟩)) e224 (argsL := [(.ref b134), (.ref b141)]) (rest := []) rfl rfl (by rw [hml]; rfl) (lenOf pd_0_1 rfl) (hb hby at_378) (W := 0) (Nat.le_of_eq rfl) (by decide) (by decide) (by decide) (by decide) ?_
            rintro v231 T231 L231 X231 ⟨r231, rfl, M231, Kc231, sz231, A231⟩
            have N231 := Fr.app N224 M231
            have ne231 : r231 ≠ b134 := Nat.ne_of_gt (Nat.lt_of_lt_of_le f225.lt sz231)
            have f232 := f225.keep Kc231 nin0
            have f233 := f226.keep Kc231
            have f234 := f227.keep Kc231 nin0
            have f235 := f228.keep Kc231
            have f236 := A224.keep Kc231 nin0
            have f237 := f230.keep Kc231
            have Z231 := Nat.le_trans Z224 Kc231.1
            have F231 : own_Ar Z T231.heap r231 .int (List.map Value.int [xa, xb]) := by
              rw [List.filter_cons_of_pos (show own_mk bs xa = true from decide_eq_true hc292), List.filter_cons_of_pos (show own_mk bs xb = true from decide_eq_true hc315), List.filter_nil] at A231
              exact A231
            show own_Fin _ _ _ _ _ _ _ (T231.setTop (mkF m 381 #[.val (.int p0), .val (.int p1), .val (.int p2), .val (.int (2 : Int32)), .val (.int xa), .val (.int xb), .val (.int xc), .val (.int xd), .val (.ref b134), .val (.ref b141), .val (.ref b184), .val (.int (2 : Int32)), .unset] [(.ref r231)]))
            refine own_go (fun _ kk => XS.astore X231.here hx rfl (hb hby at_381) rfl rfl (l' := #[.val (.int p0), .val (.int p1), .val (.int p2), .val (.int (2 : Int32)), .val (.int xa), .val (.int xb), .val (.int xc), .val (.int xd), .val (.ref b134), .val (.ref b141), .val (.ref b184), .val (.int (2 : Int32)), .val (.ref r231)]) rfl (XS.aload X231.here hx rfl (hb hby at_383) rfl rfl (XS.ifnullNo X231.here hx rfl (hb hby at_385) rfl (XS.aload X231.here hx rfl (hb hby at_388) rfl rfl (XS.aload X231.here hx rfl (hb hby at_390) rfl rfl (XT.acmpYes X231.here hx rfl (pc0 := 392) (pc' := 397) rfl (hb hby at_392) rfl rfl rfl (XT.aa_ne_t (fun q => ne231 (Value.ref.inj q))) (by decide) (by decide) (XS.aload X231.here hx rfl (hb hby at_397) rfl rfl kk))))))) ?_
            show own_Fin _ _ _ _ _ _ _ (T231.setTop (mkF m 399 #[.val (.int p0), .val (.int p1), .val (.int p2), .val (.int (2 : Int32)), .val (.int xa), .val (.int xb), .val (.int xc), .val (.int xd), .val (.ref b134), .val (.ref b141), .val (.ref b184), .val (.int (2 : Int32)), .val (.ref r231)] [(.ref b134)]))
            refine own_alen X231 hx hZ rfl f232 (hb hby at_399) ?_
            show own_Fin _ _ _ _ _ _ _ (T231.setTop (mkF m 400 #[.val (.int p0), .val (.int p1), .val (.int p2), .val (.int (2 : Int32)), .val (.int xa), .val (.int xb), .val (.int xc), .val (.int xd), .val (.ref b134), .val (.ref b141), .val (.ref b184), .val (.int (2 : Int32)), .val (.ref r231)] [(.int (2 : Int32))]))
            refine own_go (fun _ kk => XS.iloadN X231.here hx rfl (hb hby at_400) rfl (XS.icmpYes X231.here hx rfl (pc0 := 401) (pc' := 406) rfl (hb hby at_401) rfl (XT.ii_eq_t (by decide)) (by decide) (by decide) (XS.iloadN X231.here hx rfl (hb hby at_406) rfl (XS.ifNo X231.here hx rfl (hb hby at_407) rfl (XT.i0_le_f (by decide)) (XS.aload X231.here hx rfl (hb hby at_410) rfl rfl (XS.iconst X231.here hx rfl (hb hby at_412) kk)))))) ?_
            show own_Fin _ _ _ _ _ _ _ (T231.setTop (mkF m 413 #[.val (.int p0), .val (.int p1), .val (.int p2), .val (.int (2 : Int32)), .val (.int xa), .val (.int xb), .val (.int xc), .val (.int xd), .val (.ref b134), .val (.ref b141), .val (.ref b184), .val (.int (2 : Int32)), .val (.ref r231)] [(.int (0 : Int32)), (.ref b134)]))
            refine own_ldI X231 hx hZ rfl f232 (by decide) (by show (0 : Int32).toNatClampNeg < 2; decide) (hb hby at_413) ?_
            show own_Fin _ _ _ _ _ _ _ (T231.setTop (mkF m 414 #[.val (.int p0), .val (.int p1), .val (.int p2), .val (.int (2 : Int32)), .val (.int xa), .val (.int xb), .val (.int xc), .val (.int xd), .val (.ref b134), .val (.ref b141), .val (.ref b184), .val (.int (2 : Int32)), .val (.ref r231)] [(.int xa)]))
            refine own_go (fun _ kk => XS.iload X231.here hx rfl (hb hby at_414) rfl (XS.icmpYes X231.here hx rfl (pc0 := 416) (pc' := 421) rfl (hb hby at_416) rfl (XT.ii_eq_t rfl) (by decide) (by decide) (XS.iloadN X231.here hx rfl (hb hby at_421) rfl (XS.iconst X231.here hx rfl (hb hby at_422) (XS.icmpNo X231.here hx rfl (hb hby at_423) rfl (XT.ii_le_f (by decide)) (XS.aload X231.here hx rfl (hb hby at_426) rfl rfl (XS.iconst X231.here hx rfl (hb hby at_428) kk))))))) ?_
            show own_Fin _ _ _ _ _ _ _ (T231.setTop (mkF m 429 #[.val (.int p0), .val (.int p1), .val (.int p2), .val (.int (2 : Int32)), .val (.int xa), .val (.int xb), .val (.int xc), .val (.int xd), .val (.ref b134), .val (.ref b141), .val (.ref b184), .val (.int (2 : Int32)), .val (.ref r231)] [(.int (1 : Int32)), (.ref b134)]))
            refine own_ldI X231 hx hZ rfl f232 (by decide) (by show (1 : Int32).toNatClampNeg < 2; decide) (hb hby at_429) ?_
            show own_Fin _ _ _ _ _ _ _ (T231.setTop (mkF m 430 #[.val (.int p0), .val (.int p1), .val (.int p2), .val (.int (2 : Int32)), .val (.int xa), .val (.int xb), .val (.int xc), .val (.int xd), .val (.ref b134), .val (.ref b141), .val (.ref b184), .val (.int (2 : Int32)), .val (.ref r231)] [(.int xb)]))
            refine own_go (fun _ kk => XS.iload X231.here hx rfl (hb hby at_430) rfl (XS.icmpYes X231.here hx rfl (pc0 := 432) (pc' := 437) rfl (hb hby at_432) rfl (XT.ii_eq_t rfl) (by decide) (by decide) (XS.iloadN X231.here hx rfl (hb hby at_437) rfl (XS.iconst X231.here hx rfl (hb hby at_438) (XS.icmpYes X231.here hx rfl (pc0 := 439) (pc' := 453) rfl (hb hby at_439) rfl (XT.ii_le_t (by decide)) (by decide) (by decide) (XS.iloadN X231.here hx rfl (hb hby at_453) rfl (XS.iconst X231.here hx rfl (hb hby at_454) (XS.icmpYes X231.here hx rfl (pc0 := 455) (pc' := 469) rfl (hb hby at_455) rfl (XT.ii_le_t (by decide)) (by decide) (by decide) (XS.aload X231.here hx rfl (hb hby at_469) rfl rfl kk))))))))) ?_
            show own_Fin _ _ _ _ _ _ _ (T231.setTop (mkF m 471 #[.val (.int p0), .val (.int p1), .val (.int p2), .val (.int (2 : Int32)), .val (.int xa), .val (.int xb), .val (.int xc), .val (.int xd), .val (.ref b134), .val (.ref b141), .val (.ref b184), .val (.int (2 : Int32)), .val (.ref r231)] [(.ref r231)]))
            refine own_alen X231 hx hZ rfl F231 (hb hby at_471) ?_
            show own_Fin _ _ _ _ _ _ _ (T231.setTop (mkF m 472 #[.val (.int p0), .val (.int p1), .val (.int p2), .val (.int (2 : Int32)), .val (.int xa), .val (.int xb), .val (.int xc), .val (.int xd), .val (.ref b134), .val (.ref b141), .val (.ref b184), .val (.int (2 : Int32)), .val (.ref r231)] [(.int (2 : Int32))]))
            refine own_go (fun _ kk => XS.iload X231.here hx rfl (hb hby at_472) rfl (XS.icmpYes X231.here hx rfl (pc0 := 474) (pc' := 479) rfl (hb hby at_474) rfl (XT.ii_eq_t (by decide)) (by decide) (by decide) (XS.iload X231.here hx rfl (hb hby at_479) rfl (XS.ifNo X231.here hx rfl (hb hby at_481) rfl (XT.i0_le_f (by decide)) (XS.aload X231.here hx rfl (hb hby at_484) rfl rfl (XS.iconst X231.here hx rfl (hb hby at_486) kk)))))) ?_
            show own_Fin _ _ _ _ _ _ _ (T231.setTop (mkF m 487 #[.val (.int p0), .val (.int p1), .val (.int p2), .val (.int (2 : Int32)), .val (.int xa), .val (.int xb), .val (.int xc), .val (.int xd), .val (.ref b134), .val (.ref b141), .val (.ref b184), .val (.int (2 : Int32)), .val (.ref r231)] [(.int (0 : Int32)), (.ref r231)]))
            refine own_ldI X231 hx hZ rfl F231 (by decide) (by show (0 : Int32).toNatClampNeg < 2; decide) (hb hby at_487) ?_
            show own_Fin _ _ _ _ _ _ _ (T231.setTop (mkF m 488 #[.val (.int p0), .val (.int p1), .val (.int p2), .val (.int (2 : Int32)), .val (.int xa), .val (.int xb), .val (.int xc), .val (.int xd), .val (.ref b134), .val (.ref b141), .val (.ref b184), .val (.int (2 : Int32)), .val (.ref r231)] [(.int xa)]))
            refine own_go (fun _ kk => XS.aload X231.here hx rfl (hb hby at_488) rfl rfl (XS.iconst X231.here hx rfl (hb hby at_490) kk)) ?_
            show own_Fin _ _ _ _ _ _ _ (T231.setTop (mkF m 491 #[.val (.int p0), .val (.int p1), .val (.int p2), .val (.int (2 : Int32)), .val (.int xa), .val (.int xb), .val (.int xc), .val (.int xd), .val (.ref b134), .val (.ref b141), .val (.ref b184), .val (.int (2 : Int32)), .val (.ref r231)] [(.int (0 : Int32)), (.ref b184), (.int xa)]))
            refine own_ldI X231 hx hZ rfl f236 (by decide) (by show (0 : Int32).toNatClampNeg < 4; decide) (hb hby at_491) ?_
            show own_Fin _ _ _ _ _ _ _ (T231.setTop (mkF m 492 #[.val (.int p0), .val (.int p1), .val (.int p2), .val (.int (2 : Int32)), .val (.int xa), .val (.int xb), .val (.int xc), .val (.int xd), .val (.ref b134), .val (.ref b141), .val (.ref b184), .val (.int (2 : Int32)), .val (.ref r231)] [(.int xa), (.int xa)]))
            refine own_go (fun _ kk => XS.icmpYes X231.here hx rfl (pc0 := 492) (pc' := 497) rfl (hb hby at_492) rfl (XT.ii_eq_t rfl) (by decide) (by decide) (XS.iload X231.here hx rfl (hb hby at_497) rfl (XS.iconst X231.here hx rfl (hb hby at_499) (XS.icmpNo X231.here hx rfl (hb hby at_500) rfl (XT.ii_le_f (by decide)) (XS.aload X231.here hx rfl (hb hby at_503) rfl rfl (XS.iconst X231.here hx rfl (hb hby at_505) kk)))))) ?_
            show own_Fin _ _ _ _ _ _ _ (T231.setTop (mkF m 506 #[.val (.int p0), .val (.int p1), .val (.int p2), .val (.int (2 : Int32)), .val (.int xa), .val (.int xb), .val (.int xc), .val (.int xd), .val (.ref b134), .val (.ref b141), .val (.ref b184), .val (.int (2 : Int32)), .val (.ref r231)] [(.int (1 : Int32)), (.ref r231)]))
            refine own_ldI X231 hx hZ rfl F231 (by decide) (by show (1 : Int32).toNatClampNeg < 2; decide) (hb hby at_506) ?_
            show own_Fin _ _ _ _ _ _ _ (T231.setTop (mkF m 507 #[.val (.int p0), .val (.int p1), .val (.int p2), .val (.int (2 : Int32)), .val (.int xa), .val (.int xb), .val (.int xc), .val (.int xd), .val (.ref b134), .val (.ref b141), .val (.ref b184), .val (.int (2 : Int32)), .val (.ref r231)] [(.int xb)]))
            refine own_go (fun _ kk => XS.aload X231.here hx rfl (hb hby at_507) rfl rfl (XS.iconst X231.here hx rfl (hb hby at_509) kk)) ?_
            show own_Fin _ _ _ _ _ _ _ (T231.setTop (mkF m 510 #[.val (.int p0), .val (.int p1), .val (.int p2), .val (.int (2 : Int32)), .val (.int xa), .val (.int xb), .val (.int xc), .val (.int xd), .val (.ref b134), .val (.ref b141), .val (.ref b184), .val (.int (2 : Int32)), .val (.ref r231)] [(.int (1 : Int32)), (.ref b184), (.int xb)]))
            refine own_ldI X231 hx hZ rfl f236 (by decide) (by show (1 : Int32).toNatClampNeg < 4; decide) (hb hby at_510) ?_
            show own_Fin _ _ _ _ _ _ _ (T231.setTop (mkF m 511 #[.val (.int p0), .val (.int p1), .val (.int p2), .val (.int (2 : Int32)), .val (.int xa), .val (.int xb), .val (.int xc), .val (.int xd), .val (.ref b134), .val (.ref b141), .val (.ref b184), .val (.int (2 : Int32)), .val (.ref r231)] [(.int xb), (.int xb)]))
            refine own_go (fun _ kk => XS.icmpYes X231.here hx rfl (pc0 := 511) (pc' := 516) rfl (hb hby at_511) rfl (XT.ii_eq_t rfl) (by decide) (by decide) (XS.iload X231.here hx rfl (hb hby at_516) rfl (XS.iconst X231.here hx rfl (hb hby at_518) (XS.icmpYes X231.here hx rfl (pc0 := 519) (pc' := 535) rfl (hb hby at_519) rfl (XT.ii_le_t (by decide)) (by decide) (by decide) (XS.iload X231.here hx rfl (hb hby at_535) rfl (XS.iconst X231.here hx rfl (hb hby at_537) (XS.icmpYes X231.here hx rfl (pc0 := 538) (pc' := 554) rfl (hb hby at_538) rfl (XT.ii_le_t (by decide)) (by decide) (by decide) (XS.iconst X231.here hx rfl (hb hby at_554) kk)))))))) ?_
            show own_Fin _ _ _ _ _ _ _ (T231.setTop (mkF m 555 #[.val (.int p0), .val (.int p1), .val (.int p2), .val (.int (2 : Int32)), .val (.int xa), .val (.int xb), .val (.int xc), .val (.int xd), .val (.ref b134), .val (.ref b141), .val (.ref b184), .val (.int (2 : Int32)), .val (.ref r231)] [(.int (1 : Int32))]))
            exact own_retZ X231 hx hlk hret rfl (hb hby at_555) (by decide) (by decide) ⟨rfl, N231⟩
      · refine own_go (fun _ kk => XS.icmpYes X4.here hx rfl (pc0 := 67) (pc' := 88) rfl (hb hby at_67) rfl (XT.ii_ne_t hc67) (by decide) (by decide) (XS.iloadN X4.here hx rfl (hb hby at_88) rfl (XS.iconst X4.here hx rfl (hb hby at_89) kk))) ?_
        show own_Fin _ _ _ _ _ _ _ (T4.setTop (mkF m 90 #[.val (.int p0), .val (.int p1), .val (.int p2), .val (.int n), .val (.int xa), .val (.int xb), .val (.int xc), .val (.int xd), .unset, .unset, .unset, .unset, .unset] [(.int (3 : Int32)), (.int n)]))
        by_cases hc90 : n = (3 : Int32)
        · refine own_go (fun _ kk => XS.icmpNo X4.here hx rfl (hb hby at_90) rfl (XT.ii_ne_f hc90) kk) ?_
          show own_Fin _ _ _ _ _ _ _ (T4.setTop (mkF m 93 #[.val (.int p0), .val (.int p1), .val (.int p2), .val (.int n), .val (.int xa), .val (.int xb), .val (.int xc), .val (.int xd), .unset, .unset, .unset, .unset, .unset] []))
          subst hc90
          show own_Fin _ _ _ _ _ _ _ (T4.setTop (mkF m 93 #[.val (.int p0), .val (.int p1), .val (.int p2), .val (.int (3 : Int32)), .val (.int xa), .val (.int xb), .val (.int xc), .val (.int xd), .unset, .unset, .unset, .unset, .unset] []))
          refine own_go (fun _ kk => XS.iconst X4.here hx rfl (hb hby at_93) kk) ?_
          show own_Fin _ _ _ _ _ _ _ (T4.setTop (mkF m 94 #[.val (.int p0), .val (.int p1), .val (.int p2), .val (.int (3 : Int32)), .val (.int xa), .val (.int xb), .val (.int xc), .val (.int xd), .unset, .unset, .unset, .unset, .unset] [(.int (3 : Int32))]))
          refine own_newI X4 hx hZ (hw _ (List.mem_of_getElem? (i := 5) rfl)) e4 (hb hby at_94) (by decide) (cap := 3) (by decide) (by decide) (by decide) (by decide) ?_
          intro T238 h238 b238 g238 X238 e238 E238 A238 D238
          have g_b238 : n0 ≤ b238 := Nat.le_trans Z0 (Nat.le_of_eq g238.symm)
          have Z238 := Nat.le_trans Z0 E238.1
          have A238 : own_Ar Z h238 b238 .int (List.map Value.int [(0 : Int32), (0 : Int32), (0 : Int32)]) := A238
          show own_Fin _ _ _ _ _ _ _ (T238.setTop (mkF m 96 #[.val (.int p0), .val (.int p1), .val (.int p2), .val (.int (3 : Int32)), .val (.int xa), .val (.int xb), .val (.int xc), .val (.int xd), .unset, .unset, .unset, .unset, .unset] [(.ref b238)]))
          refine own_go (fun _ kk => XS.dup X238.here hx rfl (hb hby at_96) rfl rfl (XS.iconst X238.here hx rfl (hb hby at_97) (XS.iload X238.here hx rfl (hb hby at_98) rfl kk))) ?_
          show own_Fin _ _ _ _ _ _ _ (T238.setTop (mkF m 100 #[.val (.int p0), .val (.int p1), .val (.int p2), .val (.int (3 : Int32)), .val (.int xa), .val (.int xb), .val (.int xc), .val (.int xd), .unset, .unset, .unset, .unset, .unset] [(.int xa), (.int (0 : Int32)), (.ref b238), (.ref b238)]))
          refine own_stI X238 hx hZ e238 A238 (by decide) (by show (0 : Int32).toNatClampNeg < 3; decide) (hb hby at_100) ?_
          intro T239 h239 X239 e239 W239 A239
          have f241 := D238.wr W239
          have Z239 := Nat.le_trans Z238 (Keep.of_wr W239).1
          have A239 : own_Ar Z h239 b238 .int (List.map Value.int [xa, (0 : Int32), (0 : Int32)]) := A239
          have N239 := Fr.snoc X239 N4 g_b238
          show own_Fin _ _ _ _ _ _ _ (T239.setTop (mkF m 101 #[.val (.int p0), .val (.int p1), .val (.int p2), .val (.int (3 : Int32)), .val (.int xa), .val (.int xb), .val (.int xc), .val (.int xd), .unset, .unset, .unset, .unset, .unset] [(.ref b238)]))
          refine own_go (fun _ kk => XS.dup X239.here hx rfl (hb hby at_101) rfl rfl (XS.iconst X239.here hx rfl (hb hby at_102) (XS.iload X239.here hx rfl (hb hby at_103) rfl kk))) ?_
          show own_Fin _ _ _ _ _ _ _ (T239.setTop (mkF m 105 #[.val (.int p0), .val (.int p1), .val (.int p2), .val (.int (3 : Int32)), .val (.int xa), .val (.int xb), .val (.int xc), .val (.int xd), .unset, .unset, .unset, .unset, .unset] [(.int xb), (.int (1 : Int32)), (.ref b238), (.ref b238)]))
          refine own_stI X239 hx hZ e239 A239 (by decide) (by show (1 : Int32).toNatClampNeg < 3; decide) (hb hby at_105) ?_
          intro T242 h242 X242 e242 W242 A242
          have f244 := f241.wr W242
          have Z242 := Nat.le_trans Z239 (Keep.of_wr W242).1
          have A242 : own_Ar Z h242 b238 .int (List.map Value.int [xa, xb, (0 : Int32)]) := A242
          have N242 := Fr.snoc X242 N239 g_b238
          show own_Fin _ _ _ _ _ _ _ (T242.setTop (mkF m 106 #[.val (.int p0), .val (.int p1), .val (.int p2), .val (.int (3 : Int32)), .val (.int xa), .val (.int xb), .val (.int xc), .val (.int xd), .unset, .unset, .unset, .unset, .unset] [(.ref b238)]))
          refine own_go (fun _ kk => XS.dup X242.here hx rfl (hb hby at_106) rfl rfl (XS.iconst X242.here hx rfl (hb hby at_107) (XS.iload X242.here hx rfl (hb hby at_108) rfl kk))) ?_
          show own_Fin _ _ _ _ _ _ _ (T242.setTop (mkF m 110 #[.val (.int p0), .val (.int p1), .val (.int p2), .val (.int (3 : Int32)), .val (.int xa), .val (.int xb), .val (.int xc), .val (.int xd), .unset, .unset, .unset, .unset, .unset] [(.int xc), (.int (2 : Int32)), (.ref b238), (.ref b238)]))
          refine own_stI X242 hx hZ e242 A242 (by decide) (by show (2 : Int32).toNatClampNeg < 3; decide) (hb hby at_110) ?_
          intro T245 h245 X245 e245 W245 A245
          have f247 := f244.wr W245
          have Z245 := Nat.le_trans Z242 (Keep.of_wr W245).1
          have A245 : own_Ar Z h245 b238 .int (List.map Value.int [xa, xb, xc]) := A245
          have N245 := Fr.snoc X245 N242 g_b238
          show own_Fin _ _ _ _ _ _ _ (T245.setTop (mkF m 111 #[.val (.int p0), .val (.int p1), .val (.int p2), .val (.int (3 : Int32)), .val (.int xa), .val (.int xb), .val (.int xc), .val (.int xd), .unset, .unset, .unset, .unset, .unset] [(.ref b238)]))
          refine own_go (fun _ kk => XS.astore X245.here hx rfl (hb hby at_111) rfl rfl (l' := #[.val (.int p0), .val (.int p1), .val (.int p2), .val (.int (3 : Int32)), .val (.int xa), .val (.int xb), .val (.int xc), .val (.int xd), .val (.ref b238), .unset, .unset, .unset, .unset]) rfl (XS.goto X245.here hx rfl (pc0 := 113) (pc' := 141) rfl (hb hby at_113) (by decide) (by decide) (XS.bipush X245.here hx rfl (hb hby at_141) kk))) ?_
          show own_Fin _ _ _ _ _ _ _ (T245.setTop (mkF m 143 #[.val (.int p0), .val (.int p1), .val (.int p2), .val (.int (3 : Int32)), .val (.int xa), .val (.int xb), .val (.int xc), .val (.int xd), .val (.ref b238), .unset, .unset, .unset, .unset] [(.int (8 : Int32))]))
          refine own_newZ X245 hx hZ (hw _ (List.mem_of_getElem? (i := 6) rfl)) e245 (hb hby at_143) (by decide) (cap := 8) (by decide) (by decide) (by decide) (by decide) ?_
          intro T248 h248 b248 g248 X248 e248 E248 A248 D248
          have g_b248 : n0 ≤ b248 := Nat.le_trans Z245 (Nat.le_of_eq g248.symm)
          have ne_b238_b248 : b238 ≠ b248 := Nat.ne_of_lt (Nat.lt_of_lt_of_le A245.lt (Nat.le_of_eq g248.symm))
          have f249 := A245.ext E248
          have f250 := f247.ext E248
          have Z248 := Nat.le_trans Z245 E248.1
          have A248 : own_Ar Z h248 b248 .boolean (List.map Value.int [(0 : Int32), (0 : Int32), (0 : Int32), (0 : Int32), (0 : Int32), (0 : Int32), (0 : Int32), (0 : Int32)]) := A248
          show own_Fin _ _ _ _ _ _ _ (T248.setTop (mkF m 145 #[.val (.int p0), .val (.int p1), .val (.int p2), .val (.int (3 : Int32)), .val (.int xa), .val (.int xb), .val (.int xc), .val (.int xd), .val (.ref b238), .unset, .unset, .unset, .unset] [(.ref b248)]))
          refine own_go (fun _ kk => XS.astore X248.here hx rfl (hb hby at_145) rfl rfl (l' := #[.val (.int p0), .val (.int p1), .val (.int p2), .val (.int (3 : Int32)), .val (.int xa), .val (.int xb), .val (.int xc), .val (.int xd), .val (.ref b238), .val (.ref b248), .unset, .unset, .unset]) rfl (XS.aload X248.here hx rfl (hb hby at_147) rfl rfl (XS.iconst X248.here hx rfl (hb hby at_149) (XS.iloadN X248.here hx rfl (hb hby at_150) rfl (XS.iconst X248.here hx rfl (hb hby at_151) (XS.iand X248.here hx rfl (hb hby at_152) rfl kk)))))) ?_
          show own_Fin _ _ _ _ _ _ _ (T248.setTop (mkF m 153 #[.val (.int p0), .val (.int p1), .val (.int p2), .val (.int (3 : Int32)), .val (.int xa), .val (.int xb), .val (.int xc), .val (.int xd), .val (.ref b238), .val (.ref b248), .unset, .unset, .unset] [(.int (p2 &&& (1 : Int32))), (.int (0 : Int32)), (.ref b248)]))
          refine own_go (U' := T248.setTop (mkF m 161 #[.val (.int p0), .val (.int p1), .val (.int p2), .val (.int (3 : Int32)), .val (.int xa), .val (.int xb), .val (.int xc), .val (.int xd), .val (.ref b238), .val (.ref b248), .unset, .unset, .unset] [(.int (if (p2 &&& (1 : Int32)) = 0 then (0 : Int32) else (1 : Int32))), (.int (0 : Int32)), (.ref b248)])) (fun t k => ?_) ?_
          · by_cases hd153 : (p2 &&& (1 : Int32)) = 0
            · simp only [if_pos hd153] at k
              refine XS.ifYes X248.here hx rfl (pc0 := 153) (pc' := 160) rfl (hb hby at_153) rfl (XT.i0_eq_t hd153) (by decide) (by decide) (XS.iconst X248.here hx rfl (hb hby at_160) ?_)
              show Steps p.tables e below (T248.setTop (mkF m 161 #[.val (.int p0), .val (.int p1), .val (.int p2), .val (.int (3 : Int32)), .val (.int xa), .val (.int xb), .val (.int xc), .val (.int xd), .val (.ref b238), .val (.ref b248), .unset, .unset, .unset] [(.int (0 : Int32)), (.int (0 : Int32)), (.ref b248)])) _
              exact k
            · simp only [if_neg hd153] at k
              refine XS.ifNo X248.here hx rfl (hb hby at_153) rfl (XT.i0_eq_f hd153) (XS.iconst X248.here hx rfl (hb hby at_156) (XS.goto X248.here hx rfl (pc0 := 157) (pc' := 161) rfl (hb hby at_157) (by decide) (by decide) ?_))
              show Steps p.tables e below (T248.setTop (mkF m 161 #[.val (.int p0), .val (.int p1), .val (.int p2), .val (.int (3 : Int32)), .val (.int xa), .val (.int xb), .val (.int xc), .val (.int xd), .val (.ref b238), .val (.ref b248), .unset, .unset, .unset] [(.int (1 : Int32)), (.int (0 : Int32)), (.ref b248)])) _
              exact k
          show own_Fin _ _ _ _ _ _ _ (T248.setTop (mkF m 161 #[.val (.int p0), .val (.int p1), .val (.int p2), .val (.int (3 : Int32)), .val (.int xa), .val (.int xb), .val (.int xc), .val (.int xd), .val (.ref b238), .val (.ref b248), .unset, .unset, .unset] [(.int (if (p2 &&& (1 : Int32)) = 0 then (0 : Int32) else (1 : Int32))), (.int (0 : Int32)), (.ref b248)]))
          refine own_stZ X248 hx hZ e248 A248 (by decide) (by show (0 : Int32).toNatClampNeg < 8; decide) (hb hby at_161) (by split <;> rfl) ?_
          intro T251 h251 X251 e251 W251 A251
          have f252 := f249.other W251 ne_b238_b248
          have f253 := f250.wr W251
          have f255 := D248.wr W251
          have Z251 := Nat.le_trans Z248 (Keep.of_wr W251).1
          have A251 : own_Ar Z h251 b248 .boolean (List.map Value.int [(if (p2 &&& (1 : Int32)) = 0 then (0 : Int32) else (1 : Int32)), (0 : Int32), (0 : Int32), (0 : Int32), (0 : Int32), (0 : Int32), (0 : Int32), (0 : Int32)]) := A251
          have N251 := Fr.snoc X251 N245 g_b248
          show own_Fin _ _ _ _ _ _ _ (T251.setTop (mkF m 162 #[.val (.int p0), .val (.int p1), .val (.int p2), .val (.int (3 : Int32)), .val (.int xa), .val (.int xb), .val (.int xc), .val (.int xd), .val (.ref b238), .val (.ref b248), .unset, .unset, .unset] []))
          refine own_go (fun _ kk => XS.aload X251.here hx rfl (hb hby at_162) rfl rfl (XS.iconst X251.here hx rfl (hb hby at_164) (XS.iloadN X251.here hx rfl (hb hby at_165) rfl (XS.iconst X251.here hx rfl (hb hby at_166) (XS.iand X251.here hx rfl (hb hby at_167) rfl kk))))) ?_
          show own_Fin _ _ _ _ _ _ _ (T251.setTop (mkF m 168 #[.val (.int p0), .val (.int p1), .val (.int p2), .val (.int (3 : Int32)), .val (.int xa), .val (.int xb), .val (.int xc), .val (.int xd), .val (.ref b238), .val (.ref b248), .unset, .unset, .unset] [(.int (p2 &&& (2 : Int32))), (.int (1 : Int32)), (.ref b248)]))
          refine own_go (U' := T251.setTop (mkF m 176 #[.val (.int p0), .val (.int p1), .val (.int p2), .val (.int (3 : Int32)), .val (.int xa), .val (.int xb), .val (.int xc), .val (.int xd), .val (.ref b238), .val (.ref b248), .unset, .unset, .unset] [(.int (if (p2 &&& (2 : Int32)) = 0 then (0 : Int32) else (1 : Int32))), (.int (1 : Int32)), (.ref b248)])) (fun t k => ?_) ?_
          · by_cases hd168 : (p2 &&& (2 : Int32)) = 0
            · simp only [if_pos hd168] at k
              refine XS.ifYes X251.here hx rfl (pc0 := 168) (pc' := 175) rfl (hb hby at_168) rfl (XT.i0_eq_t hd168) (by decide) (by decide) (XS.iconst X251.here hx rfl (hb hby at_175) ?_)
              show Steps p.tables e below (T251.setTop (mkF m 176 #[.val (.int p0), .val (.int p1), .val (.int p2), .val (.int (3 : Int32)), .val (.int xa), .val (.int xb), .val (.int xc), .val (.int xd), .val (.ref b238), .val (.ref b248), .unset, .unset, .unset] [(.int (0 : Int32)), (.int (1 : Int32)), (.ref b248)])) _
              exact k
            · simp only [if_neg hd168] at k
              refine XS.ifNo X251.here hx rfl (hb hby at_168) rfl (XT.i0_eq_f hd168) (XS.iconst X251.here hx rfl (hb hby at_171) (XS.goto X251.here hx rfl (pc0 := 172) (pc' := 176) rfl (hb hby at_172) (by decide) (by decide) ?_))
              show Steps p.tables e below (T251.setTop (mkF m 176 #[.val (.int p0), .val (.int p1), .val (.int p2), .val (.int (3 : Int32)), .val (.int xa), .val (.int xb), .val (.int xc), .val (.int xd), .val (.ref b238), .val (.ref b248), .unset, .unset, .unset] [(.int (1 : Int32)), (.int (1 : Int32)), (.ref b248)])) _
              exact k
          show own_Fin _ _ _ _ _ _ _ (T251.setTop (mkF m 176 #[.val (.int p0), .val (.int p1), .val (.int p2), .val (.int (3 : Int32)), .val (.int xa), .val (.int xb), .val (.int xc), .val (.int xd), .val (.ref b238), .val (.ref b248), .unset, .unset, .unset] [(.int (if (p2 &&& (2 : Int32)) = 0 then (0 : Int32) else (1 : Int32))), (.int (1 : Int32)), (.ref b248)]))
          refine own_stZ X251 hx hZ e251 A251 (by decide) (by show (1 : Int32).toNatClampNeg < 8; decide) (hb hby at_176) (by split <;> rfl) ?_
          intro T256 h256 X256 e256 W256 A256
          have f257 := f252.other W256 ne_b238_b248
          have f258 := f253.wr W256
          have f260 := f255.wr W256
          have Z256 := Nat.le_trans Z251 (Keep.of_wr W256).1
          have A256 : own_Ar Z h256 b248 .boolean (List.map Value.int [(if (p2 &&& (1 : Int32)) = 0 then (0 : Int32) else (1 : Int32)), (if (p2 &&& (2 : Int32)) = 0 then (0 : Int32) else (1 : Int32)), (0 : Int32), (0 : Int32), (0 : Int32), (0 : Int32), (0 : Int32), (0 : Int32)]) := A256
          have N256 := Fr.snoc X256 N251 g_b248
          show own_Fin _ _ _ _ _ _ _ (T256.setTop (mkF m 177 #[.val (.int p0), .val (.int p1), .val (.int p2), .val (.int (3 : Int32)), .val (.int xa), .val (.int xb), .val (.int xc), .val (.int xd), .val (.ref b238), .val (.ref b248), .unset, .unset, .unset] []))
          refine own_go (fun _ kk => XS.aload X256.here hx rfl (hb hby at_177) rfl rfl (XS.iconst X256.here hx rfl (hb hby at_179) (XS.iloadN X256.here hx rfl (hb hby at_180) rfl (XS.iconst X256.here hx rfl (hb hby at_181) (XS.iand X256.here hx rfl (hb hby at_182) rfl kk))))) ?_
          show own_Fin _ _ _ _ _ _ _ (T256.setTop (mkF m 183 #[.val (.int p0), .val (.int p1), .val (.int p2), .val (.int (3 : Int32)), .val (.int xa), .val (.int xb), .val (.int xc), .val (.int xd), .val (.ref b238), .val (.ref b248), .unset, .unset, .unset] [(.int (p2 &&& (4 : Int32))), (.int (2 : Int32)), (.ref b248)]))
          refine own_go (U' := T256.setTop (mkF m 191 #[.val (.int p0), .val (.int p1), .val (.int p2), .val (.int (3 : Int32)), .val (.int xa), .val (.int xb), .val (.int xc), .val (.int xd), .val (.ref b238), .val (.ref b248), .unset, .unset, .unset] [(.int (if (p2 &&& (4 : Int32)) = 0 then (0 : Int32) else (1 : Int32))), (.int (2 : Int32)), (.ref b248)])) (fun t k => ?_) ?_
          · by_cases hd183 : (p2 &&& (4 : Int32)) = 0
            · simp only [if_pos hd183] at k
              refine XS.ifYes X256.here hx rfl (pc0 := 183) (pc' := 190) rfl (hb hby at_183) rfl (XT.i0_eq_t hd183) (by decide) (by decide) (XS.iconst X256.here hx rfl (hb hby at_190) ?_)
              show Steps p.tables e below (T256.setTop (mkF m 191 #[.val (.int p0), .val (.int p1), .val (.int p2), .val (.int (3 : Int32)), .val (.int xa), .val (.int xb), .val (.int xc), .val (.int xd), .val (.ref b238), .val (.ref b248), .unset, .unset, .unset] [(.int (0 : Int32)), (.int (2 : Int32)), (.ref b248)])) _
              exact k
            · simp only [if_neg hd183] at k
              refine XS.ifNo X256.here hx rfl (hb hby at_183) rfl (XT.i0_eq_f hd183) (XS.iconst X256.here hx rfl (hb hby at_186) (XS.goto X256.here hx rfl (pc0 := 187) (pc' := 191) rfl (hb hby at_187) (by decide) (by decide) ?_))
              show Steps p.tables e below (T256.setTop (mkF m 191 #[.val (.int p0), .val (.int p1), .val (.int p2), .val (.int (3 : Int32)), .val (.int xa), .val (.int xb), .val (.int xc), .val (.int xd), .val (.ref b238), .val (.ref b248), .unset, .unset, .unset] [(.int (1 : Int32)), (.int (2 : Int32)), (.ref b248)])) _
              exact k
          show own_Fin _ _ _ _ _ _ _ (T256.setTop (mkF m 191 #[.val (.int p0), .val (.int p1), .val (.int p2), .val (.int (3 : Int32)), .val (.int xa), .val (.int xb), .val (.int xc), .val (.int xd), .val (.ref b238), .val (.ref b248), .unset, .unset, .unset] [(.int (if (p2 &&& (4 : Int32)) = 0 then (0 : Int32) else (1 : Int32))), (.int (2 : Int32)), (.ref b248)]))
          refine own_stZ X256 hx hZ e256 A256 (by decide) (by show (2 : Int32).toNatClampNeg < 8; decide) (hb hby at_191) (by split <;> rfl) ?_
          intro T261 h261 X261 e261 W261 A261
          have f262 := f257.other W261 ne_b238_b248
          have f263 := f258.wr W261
          have f265 := f260.wr W261
          have Z261 := Nat.le_trans Z256 (Keep.of_wr W261).1
          have A261 : own_Ar Z h261 b248 .boolean (List.map Value.int [(if (p2 &&& (1 : Int32)) = 0 then (0 : Int32) else (1 : Int32)), (if (p2 &&& (2 : Int32)) = 0 then (0 : Int32) else (1 : Int32)), (if (p2 &&& (4 : Int32)) = 0 then (0 : Int32) else (1 : Int32)), (0 : Int32), (0 : Int32), (0 : Int32), (0 : Int32), (0 : Int32)]) := A261
          have N261 := Fr.snoc X261 N256 g_b248
          show own_Fin _ _ _ _ _ _ _ (T261.setTop (mkF m 192 #[.val (.int p0), .val (.int p1), .val (.int p2), .val (.int (3 : Int32)), .val (.int xa), .val (.int xb), .val (.int xc), .val (.int xd), .val (.ref b238), .val (.ref b248), .unset, .unset, .unset] []))
          refine own_go (fun _ kk => XS.aload X261.here hx rfl (hb hby at_192) rfl rfl (XS.iconst X261.here hx rfl (hb hby at_194) (XS.iloadN X261.here hx rfl (hb hby at_195) rfl (XS.bipush X261.here hx rfl (hb hby at_196) (XS.iand X261.here hx rfl (hb hby at_198) rfl kk))))) ?_
          show own_Fin _ _ _ _ _ _ _ (T261.setTop (mkF m 199 #[.val (.int p0), .val (.int p1), .val (.int p2), .val (.int (3 : Int32)), .val (.int xa), .val (.int xb), .val (.int xc), .val (.int xd), .val (.ref b238), .val (.ref b248), .unset, .unset, .unset] [(.int (p2 &&& (8 : Int32))), (.int (3 : Int32)), (.ref b248)]))
          refine own_go (U' := T261.setTop (mkF m 207 #[.val (.int p0), .val (.int p1), .val (.int p2), .val (.int (3 : Int32)), .val (.int xa), .val (.int xb), .val (.int xc), .val (.int xd), .val (.ref b238), .val (.ref b248), .unset, .unset, .unset] [(.int (if (p2 &&& (8 : Int32)) = 0 then (0 : Int32) else (1 : Int32))), (.int (3 : Int32)), (.ref b248)])) (fun t k => ?_) ?_
          · by_cases hd199 : (p2 &&& (8 : Int32)) = 0
            · simp only [if_pos hd199] at k
              refine XS.ifYes X261.here hx rfl (pc0 := 199) (pc' := 206) rfl (hb hby at_199) rfl (XT.i0_eq_t hd199) (by decide) (by decide) (XS.iconst X261.here hx rfl (hb hby at_206) ?_)
              show Steps p.tables e below (T261.setTop (mkF m 207 #[.val (.int p0), .val (.int p1), .val (.int p2), .val (.int (3 : Int32)), .val (.int xa), .val (.int xb), .val (.int xc), .val (.int xd), .val (.ref b238), .val (.ref b248), .unset, .unset, .unset] [(.int (0 : Int32)), (.int (3 : Int32)), (.ref b248)])) _
              exact k
            · simp only [if_neg hd199] at k
              refine XS.ifNo X261.here hx rfl (hb hby at_199) rfl (XT.i0_eq_f hd199) (XS.iconst X261.here hx rfl (hb hby at_202) (XS.goto X261.here hx rfl (pc0 := 203) (pc' := 207) rfl (hb hby at_203) (by decide) (by decide) ?_))
              show Steps p.tables e below (T261.setTop (mkF m 207 #[.val (.int p0), .val (.int p1), .val (.int p2), .val (.int (3 : Int32)), .val (.int xa), .val (.int xb), .val (.int xc), .val (.int xd), .val (.ref b238), .val (.ref b248), .unset, .unset, .unset] [(.int (1 : Int32)), (.int (3 : Int32)), (.ref b248)])) _
              exact k
          show own_Fin _ _ _ _ _ _ _ (T261.setTop (mkF m 207 #[.val (.int p0), .val (.int p1), .val (.int p2), .val (.int (3 : Int32)), .val (.int xa), .val (.int xb), .val (.int xc), .val (.int xd), .val (.ref b238), .val (.ref b248), .unset, .unset, .unset] [(.int (if (p2 &&& (8 : Int32)) = 0 then (0 : Int32) else (1 : Int32))), (.int (3 : Int32)), (.ref b248)]))
          refine own_stZ X261 hx hZ e261 A261 (by decide) (by show (3 : Int32).toNatClampNeg < 8; decide) (hb hby at_207) (by split <;> rfl) ?_
          intro T266 h266 X266 e266 W266 A266
          have f267 := f262.other W266 ne_b238_b248
          have f268 := f263.wr W266
          have f270 := f265.wr W266
          have Z266 := Nat.le_trans Z261 (Keep.of_wr W266).1
          have A266 : own_Ar Z h266 b248 .boolean (List.map Value.int [(if (p2 &&& (1 : Int32)) = 0 then (0 : Int32) else (1 : Int32)), (if (p2 &&& (2 : Int32)) = 0 then (0 : Int32) else (1 : Int32)), (if (p2 &&& (4 : Int32)) = 0 then (0 : Int32) else (1 : Int32)), (if (p2 &&& (8 : Int32)) = 0 then (0 : Int32) else (1 : Int32)), (0 : Int32), (0 : Int32), (0 : Int32), (0 : Int32)]) := A266
          have N266 := Fr.snoc X266 N261 g_b248
          show own_Fin _ _ _ _ _ _ _ (T266.setTop (mkF m 208 #[.val (.int p0), .val (.int p1), .val (.int p2), .val (.int (3 : Int32)), .val (.int xa), .val (.int xb), .val (.int xc), .val (.int xd), .val (.ref b238), .val (.ref b248), .unset, .unset, .unset] []))
          refine own_go (fun _ kk => XS.aload X266.here hx rfl (hb hby at_208) rfl rfl (XS.iconst X266.here hx rfl (hb hby at_210) (XS.iloadN X266.here hx rfl (hb hby at_211) rfl (XS.bipush X266.here hx rfl (hb hby at_212) (XS.iand X266.here hx rfl (hb hby at_214) rfl kk))))) ?_
          show own_Fin _ _ _ _ _ _ _ (T266.setTop (mkF m 215 #[.val (.int p0), .val (.int p1), .val (.int p2), .val (.int (3 : Int32)), .val (.int xa), .val (.int xb), .val (.int xc), .val (.int xd), .val (.ref b238), .val (.ref b248), .unset, .unset, .unset] [(.int (p2 &&& (16 : Int32))), (.int (4 : Int32)), (.ref b248)]))
          refine own_go (U' := T266.setTop (mkF m 223 #[.val (.int p0), .val (.int p1), .val (.int p2), .val (.int (3 : Int32)), .val (.int xa), .val (.int xb), .val (.int xc), .val (.int xd), .val (.ref b238), .val (.ref b248), .unset, .unset, .unset] [(.int (if (p2 &&& (16 : Int32)) = 0 then (0 : Int32) else (1 : Int32))), (.int (4 : Int32)), (.ref b248)])) (fun t k => ?_) ?_
          · by_cases hd215 : (p2 &&& (16 : Int32)) = 0
            · simp only [if_pos hd215] at k
              refine XS.ifYes X266.here hx rfl (pc0 := 215) (pc' := 222) rfl (hb hby at_215) rfl (XT.i0_eq_t hd215) (by decide) (by decide) (XS.iconst X266.here hx rfl (hb hby at_222) ?_)
              show Steps p.tables e below (T266.setTop (mkF m 223 #[.val (.int p0), .val (.int p1), .val (.int p2), .val (.int (3 : Int32)), .val (.int xa), .val (.int xb), .val (.int xc), .val (.int xd), .val (.ref b238), .val (.ref b248), .unset, .unset, .unset] [(.int (0 : Int32)), (.int (4 : Int32)), (.ref b248)])) _
              exact k
            · simp only [if_neg hd215] at k
              refine XS.ifNo X266.here hx rfl (hb hby at_215) rfl (XT.i0_eq_f hd215) (XS.iconst X266.here hx rfl (hb hby at_218) (XS.goto X266.here hx rfl (pc0 := 219) (pc' := 223) rfl (hb hby at_219) (by decide) (by decide) ?_))
              show Steps p.tables e below (T266.setTop (mkF m 223 #[.val (.int p0), .val (.int p1), .val (.int p2), .val (.int (3 : Int32)), .val (.int xa), .val (.int xb), .val (.int xc), .val (.int xd), .val (.ref b238), .val (.ref b248), .unset, .unset, .unset] [(.int (1 : Int32)), (.int (4 : Int32)), (.ref b248)])) _
              exact k
          show own_Fin _ _ _ _ _ _ _ (T266.setTop (mkF m 223 #[.val (.int p0), .val (.int p1), .val (.int p2), .val (.int (3 : Int32)), .val (.int xa), .val (.int xb), .val (.int xc), .val (.int xd), .val (.ref b238), .val (.ref b248), .unset, .unset, .unset] [(.int (if (p2 &&& (16 : Int32)) = 0 then (0 : Int32) else (1 : Int32))), (.int (4 : Int32)), (.ref b248)]))
          refine own_stZ X266 hx hZ e266 A266 (by decide) (by show (4 : Int32).toNatClampNeg < 8; decide) (hb hby at_223) (by split <;> rfl) ?_
          intro T271 h271 X271 e271 W271 A271
          have f272 := f267.other W271 ne_b238_b248
          have f273 := f268.wr W271
          have f275 := f270.wr W271
          have Z271 := Nat.le_trans Z266 (Keep.of_wr W271).1
          have A271 : own_Ar Z h271 b248 .boolean (List.map Value.int [(if (p2 &&& (1 : Int32)) = 0 then (0 : Int32) else (1 : Int32)), (if (p2 &&& (2 : Int32)) = 0 then (0 : Int32) else (1 : Int32)), (if (p2 &&& (4 : Int32)) = 0 then (0 : Int32) else (1 : Int32)), (if (p2 &&& (8 : Int32)) = 0 then (0 : Int32) else (1 : Int32)), (if (p2 &&& (16 : Int32)) = 0 then (0 : Int32) else (1 : Int32)), (0 : Int32), (0 : Int32), (0 : Int32)]) := A271
          have N271 := Fr.snoc X271 N266 g_b248
          show own_Fin _ _ _ _ _ _ _ (T271.setTop (mkF m 224 #[.val (.int p0), .val (.int p1), .val (.int p2), .val (.int (3 : Int32)), .val (.int xa), .val (.int xb), .val (.int xc), .val (.int xd), .val (.ref b238), .val (.ref b248), .unset, .unset, .unset] []))
          refine own_go (fun _ kk => XS.aload X271.here hx rfl (hb hby at_224) rfl rfl (XS.iconst X271.here hx rfl (hb hby at_226) (XS.iloadN X271.here hx rfl (hb hby at_227) rfl (XS.bipush X271.here hx rfl (hb hby at_228) (XS.iand X271.here hx rfl (hb hby at_230) rfl kk))))) ?_
          show own_Fin _ _ _ _ _ _ _ (T271.setTop (mkF m 231 #[.val (.int p0), .val (.int p1), .val (.int p2), .val (.int (3 : Int32)), .val (.int xa), .val (.int xb), .val (.int xc), .val (.int xd), .val (.ref b238), .val (.ref b248), .unset, .unset, .unset] [(.int (p2 &&& (32 : Int32))), (.int (5 : Int32)), (.ref b248)]))
          refine own_go (U' := T271.setTop (mkF m 239 #[.val (.int p0), .val (.int p1), .val (.int p2), .val (.int (3 : Int32)), .val (.int xa), .val (.int xb), .val (.int xc), .val (.int xd), .val (.ref b238), .val (.ref b248), .unset, .unset, .unset] [(.int (if (p2 &&& (32 : Int32)) = 0 then (0 : Int32) else (1 : Int32))), (.int (5 : Int32)), (.ref b248)])) (fun t k => ?_) ?_
          · by_cases hd231 : (p2 &&& (32 : Int32)) = 0
            · simp only [if_pos hd231] at k
              refine XS.ifYes X271.here hx rfl (pc0 := 231) (pc' := 238) rfl (hb hby at_231) rfl (XT.i0_eq_t hd231) (by decide) (by decide) (XS.iconst X271.here hx rfl (hb hby at_238) ?_)
              show Steps p.tables e below (T271.setTop (mkF m 239 #[.val (.int p0), .val (.int p1), .val (.int p2), .val (.int (3 : Int32)), .val (.int xa), .val (.int xb), .val (.int xc), .val (.int xd), .val (.ref b238), .val (.ref b248), .unset, .unset, .unset] [(.int (0 : Int32)), (.int (5 : Int32)), (.ref b248)])) _
              exact k
            · simp only [if_neg hd231] at k
              refine XS.ifNo X271.here hx rfl (hb hby at_231) rfl (XT.i0_eq_f hd231) (XS.iconst X271.here hx rfl (hb hby at_234) (XS.goto X271.here hx rfl (pc0 := 235) (pc' := 239) rfl (hb hby at_235) (by decide) (by decide) ?_))
              show Steps p.tables e below (T271.setTop (mkF m 239 #[.val (.int p0), .val (.int p1), .val (.int p2), .val (.int (3 : Int32)), .val (.int xa), .val (.int xb), .val (.int xc), .val (.int xd), .val (.ref b238), .val (.ref b248), .unset, .unset, .unset] [(.int (1 : Int32)), (.int (5 : Int32)), (.ref b248)])) _
              exact k
          show own_Fin _ _ _ _ _ _ _ (T271.setTop (mkF m 239 #[.val (.int p0), .val (.int p1), .val (.int p2), .val (.int (3 : Int32)), .val (.int xa), .val (.int xb), .val (.int xc), .val (.int xd), .val (.ref b238), .val (.ref b248), .unset, .unset, .unset] [(.int (if (p2 &&& (32 : Int32)) = 0 then (0 : Int32) else (1 : Int32))), (.int (5 : Int32)), (.ref b248)]))
          refine own_stZ X271 hx hZ e271 A271 (by decide) (by show (5 : Int32).toNatClampNeg < 8; decide) (hb hby at_239) (by split <;> rfl) ?_
          intro T276 h276 X276 e276 W276 A276
          have f277 := f272.other W276 ne_b238_b248
          have f278 := f273.wr W276
          have f280 := f275.wr W276
          have Z276 := Nat.le_trans Z271 (Keep.of_wr W276).1
          have A276 : own_Ar Z h276 b248 .boolean (List.map Value.int [(if (p2 &&& (1 : Int32)) = 0 then (0 : Int32) else (1 : Int32)), (if (p2 &&& (2 : Int32)) = 0 then (0 : Int32) else (1 : Int32)), (if (p2 &&& (4 : Int32)) = 0 then (0 : Int32) else (1 : Int32)), (if (p2 &&& (8 : Int32)) = 0 then (0 : Int32) else (1 : Int32)), (if (p2 &&& (16 : Int32)) = 0 then (0 : Int32) else (1 : Int32)), (if (p2 &&& (32 : Int32)) = 0 then (0 : Int32) else (1 : Int32)), (0 : Int32), (0 : Int32)]) := A276
          have N276 := Fr.snoc X276 N271 g_b248
          show own_Fin _ _ _ _ _ _ _ (T276.setTop (mkF m 240 #[.val (.int p0), .val (.int p1), .val (.int p2), .val (.int (3 : Int32)), .val (.int xa), .val (.int xb), .val (.int xc), .val (.int xd), .val (.ref b238), .val (.ref b248), .unset, .unset, .unset] []))
          refine own_go (fun _ kk => XS.aload X276.here hx rfl (hb hby at_240) rfl rfl (XS.bipush X276.here hx rfl (hb hby at_242) (XS.iloadN X276.here hx rfl (hb hby at_244) rfl (XS.bipush X276.here hx rfl (hb hby at_245) (XS.iand X276.here hx rfl (hb hby at_247) rfl kk))))) ?_
          show own_Fin _ _ _ _ _ _ _ (T276.setTop (mkF m 248 #[.val (.int p0), .val (.int p1), .val (.int p2), .val (.int (3 : Int32)), .val (.int xa), .val (.int xb), .val (.int xc), .val (.int xd), .val (.ref b238), .val (.ref b248), .unset, .unset, .unset] [(.int (p2 &&& (64 : Int32))), (.int (6 : Int32)), (.ref b248)]))
          refine own_go (U' := T276.setTop (mkF m 256 #[.val (.int p0), .val (.int p1), .val (.int p2), .val (.int (3 : Int32)), .val (.int xa), .val (.int xb), .val (.int xc), .val (.int xd), .val (.ref b238), .val (.ref b248), .unset, .unset, .unset] [(.int (if (p2 &&& (64 : Int32)) = 0 then (0 : Int32) else (1 : Int32))), (.int (6 : Int32)), (.ref b248)])) (fun t k => ?_) ?_
          · by_cases hd248 : (p2 &&& (64 : Int32)) = 0
            · simp only [if_pos hd248] at k
              refine XS.ifYes X276.here hx rfl (pc0 := 248) (pc' := 255) rfl (hb hby at_248) rfl (XT.i0_eq_t hd248) (by decide) (by decide) (XS.iconst X276.here hx rfl (hb hby at_255) ?_)
              show Steps p.tables e below (T276.setTop (mkF m 256 #[.val (.int p0), .val (.int p1), .val (.int p2), .val (.int (3 : Int32)), .val (.int xa), .val (.int xb), .val (.int xc), .val (.int xd), .val (.ref b238), .val (.ref b248), .unset, .unset, .unset] [(.int (0 : Int32)), (.int (6 : Int32)), (.ref b248)])) _
              exact k
            · simp only [if_neg hd248] at k
              refine XS.ifNo X276.here hx rfl (hb hby at_248) rfl (XT.i0_eq_f hd248) (XS.iconst X276.here hx rfl (hb hby at_251) (XS.goto X276.here hx rfl (pc0 := 252) (pc' := 256) rfl (hb hby at_252) (by decide) (by decide) ?_))
              show Steps p.tables e below (T276.setTop (mkF m 256 #[.val (.int p0), .val (.int p1), .val (.int p2), .val (.int (3 : Int32)), .val (.int xa), .val (.int xb), .val (.int xc), .val (.int xd), .val (.ref b238), .val (.ref b248), .unset, .unset, .unset] [(.int (1 : Int32)), (.int (6 : Int32)), (.ref b248)])) _
              exact k
          show own_Fin _ _ _ _ _ _ _ (T276.setTop (mkF m 256 #[.val (.int p0), .val (.int p1), .val (.int p2), .val (.int (3 : Int32)), .val (.int xa), .val (.int xb), .val (.int xc), .val (.int xd), .val (.ref b238), .val (.ref b248), .unset, .unset, .unset] [(.int (if (p2 &&& (64 : Int32)) = 0 then (0 : Int32) else (1 : Int32))), (.int (6 : Int32)), (.ref b248)]))
          refine own_stZ X276 hx hZ e276 A276 (by decide) (by show (6 : Int32).toNatClampNeg < 8; decide) (hb hby at_256) (by split <;> rfl) ?_
          intro T281 h281 X281 e281 W281 A281
          have f282 := f277.other W281 ne_b238_b248
          have f283 := f278.wr W281
          have f285 := f280.wr W281
          have Z281 := Nat.le_trans Z276 (Keep.of_wr W281).1
          have A281 : own_Ar Z h281 b248 .boolean (List.map Value.int [(if (p2 &&& (1 : Int32)) = 0 then (0 : Int32) else (1 : Int32)), (if (p2 &&& (2 : Int32)) = 0 then (0 : Int32) else (1 : Int32)), (if (p2 &&& (4 : Int32)) = 0 then (0 : Int32) else (1 : Int32)), (if (p2 &&& (8 : Int32)) = 0 then (0 : Int32) else (1 : Int32)), (if (p2 &&& (16 : Int32)) = 0 then (0 : Int32) else (1 : Int32)), (if (p2 &&& (32 : Int32)) = 0 then (0 : Int32) else (1 : Int32)), (if (p2 &&& (64 : Int32)) = 0 then (0 : Int32) else (1 : Int32)), (0 : Int32)]) := A281
          have N281 := Fr.snoc X281 N276 g_b248
          show own_Fin _ _ _ _ _ _ _ (T281.setTop (mkF m 257 #[.val (.int p0), .val (.int p1), .val (.int p2), .val (.int (3 : Int32)), .val (.int xa), .val (.int xb), .val (.int xc), .val (.int xd), .val (.ref b238), .val (.ref b248), .unset, .unset, .unset] []))
          refine own_go (fun _ kk => XS.aload X281.here hx rfl (hb hby at_257) rfl rfl (XS.bipush X281.here hx rfl (hb hby at_259) (XS.iloadN X281.here hx rfl (hb hby at_261) rfl (XS.sipush X281.here hx rfl (hb hby at_262) (XS.iand X281.here hx rfl (hb hby at_265) rfl kk))))) ?_
          show own_Fin _ _ _ _ _ _ _ (T281.setTop (mkF m 266 #[.val (.int p0), .val (.int p1), .val (.int p2), .val (.int (3 : Int32)), .val (.int xa), .val (.int xb), .val (.int xc), .val (.int xd), .val (.ref b238), .val (.ref b248), .unset, .unset, .unset] [(.int (p2 &&& (128 : Int32))), (.int (7 : Int32)), (.ref b248)]))
          refine own_go (U' := T281.setTop (mkF m 274 #[.val (.int p0), .val (.int p1), .val (.int p2), .val (.int (3 : Int32)), .val (.int xa), .val (.int xb), .val (.int xc), .val (.int xd), .val (.ref b238), .val (.ref b248), .unset, .unset, .unset] [(.int (if (p2 &&& (128 : Int32)) = 0 then (0 : Int32) else (1 : Int32))), (.int (7 : Int32)), (.ref b248)])) (fun t k => ?_) ?_
          · by_cases hd266 : (p2 &&& (128 : Int32)) = 0
            · simp only [if_pos hd266] at k
              refine XS.ifYes X281.here hx rfl (pc0 := 266) (pc' := 273) rfl (hb hby at_266) rfl (XT.i0_eq_t hd266) (by decide) (by decide) (XS.iconst X281.here hx rfl (hb hby at_273) ?_)
              show Steps p.tables e below (T281.setTop (mkF m 274 #[.val (.int p0), .val (.int p1), .val (.int p2), .val (.int (3 : Int32)), .val (.int xa), .val (.int xb), .val (.int xc), .val (.int xd), .val (.ref b238), .val (.ref b248), .unset, .unset, .unset] [(.int (0 : Int32)), (.int (7 : Int32)), (.ref b248)])) _
              exact k
            · simp only [if_neg hd266] at k
              refine XS.ifNo X281.here hx rfl (hb hby at_266) rfl (XT.i0_eq_f hd266) (XS.iconst X281.here hx rfl (hb hby at_269) (XS.goto X281.here hx rfl (pc0 := 270) (pc' := 274) rfl (hb hby at_270) (by decide) (by decide) ?_))
              show Steps p.tables e below (T281.setTop (mkF m 274 #[.val (.int p0), .val (.int p1), .val (.int p2), .val (.int (3 : Int32)), .val (.int xa), .val (.int xb), .val (.int xc), .val (.int xd), .val (.ref b238), .val (.ref b248), .unset, .unset, .unset] [(.int (1 : Int32)), (.int (7 : Int32)), (.ref b248)])) _
              exact k
          show own_Fin _ _ _ _ _ _ _ (T281.setTop (mkF m 274 #[.val (.int p0), .val (.int p1), .val (.int p2), .val (.int (3 : Int32)), .val (.int xa), .val (.int xb), .val (.int xc), .val (.int xd), .val (.ref b238), .val (.ref b248), .unset, .unset, .unset] [(.int (if (p2 &&& (128 : Int32)) = 0 then (0 : Int32) else (1 : Int32))), (.int (7 : Int32)), (.ref b248)]))
          refine own_stZ X281 hx hZ e281 A281 (by decide) (by show (7 : Int32).toNatClampNeg < 8; decide) (hb hby at_274) (by split <;> rfl) ?_
          intro T286 h286 X286 e286 W286 A286
          have f287 := f282.other W286 ne_b238_b248
          have f288 := f283.wr W286
          have f290 := f285.wr W286
          have Z286 := Nat.le_trans Z281 (Keep.of_wr W286).1
          have A286 : own_Ar Z h286 b248 .boolean (List.map Value.int [(if (p2 &&& (1 : Int32)) = 0 then (0 : Int32) else (1 : Int32)), (if (p2 &&& (2 : Int32)) = 0 then (0 : Int32) else (1 : Int32)), (if (p2 &&& (4 : Int32)) = 0 then (0 : Int32) else (1 : Int32)), (if (p2 &&& (8 : Int32)) = 0 then (0 : Int32) else (1 : Int32)), (if (p2 &&& (16 : Int32)) = 0 then (0 : Int32) else (1 : Int32)), (if (p2 &&& (32 : Int32)) = 0 then (0 : Int32) else (1 : Int32)), (if (p2 &&& (64 : Int32)) = 0 then (0 : Int32) else (1 : Int32)), (if (p2 &&& (128 : Int32)) = 0 then (0 : Int32) else (1 : Int32))]) := A286
          have N286 := Fr.snoc X286 N281 g_b248
          show own_Fin _ _ _ _ _ _ _ (T286.setTop (mkF m 275 #[.val (.int p0), .val (.int p1), .val (.int p2), .val (.int (3 : Int32)), .val (.int xa), .val (.int xb), .val (.int xc), .val (.int xd), .val (.ref b238), .val (.ref b248), .unset, .unset, .unset] []))
          obtain ⟨bs, hbs⟩ : ∃ bs, bs = [(if (p2 &&& (1 : Int32)) = 0 then (0 : Int32) else (1 : Int32)), (if (p2 &&& (2 : Int32)) = 0 then (0 : Int32) else (1 : Int32)), (if (p2 &&& (4 : Int32)) = 0 then (0 : Int32) else (1 : Int32)), (if (p2 &&& (8 : Int32)) = 0 then (0 : Int32) else (1 : Int32)), (if (p2 &&& (16 : Int32)) = 0 then (0 : Int32) else (1 : Int32)), (if (p2 &&& (32 : Int32)) = 0 then (0 : Int32) else (1 : Int32)), (if (p2 &&& (64 : Int32)) = 0 then (0 : Int32) else (1 : Int32)), (if (p2 &&& (128 : Int32)) = 0 then (0 : Int32) else (1 : Int32))] := ⟨_, rfl⟩
          have Bb248 : own_Ar Z h286 b248 .boolean (List.map Value.int bs) := by rw [hbs]; exact A286
          have hbl : bs.length = 8 := by rw [hbs]; rfl
          have sa : ¬ xa < 0 ∧ xa.toNatClampNeg < bs.length := ⟨rxa.1, by rw [hbl]; exact rxa.2⟩
          have sb : ¬ xb < 0 ∧ xb.toNatClampNeg < bs.length := ⟨rxb.1, by rw [hbl]; exact rxb.2⟩
          have sc : ¬ xc < 0 ∧ xc.toNatClampNeg < bs.length := ⟨rxc.1, by rw [hbl]; exact rxc.2⟩
          have sd : ¬ xd < 0 ∧ xd.toNatClampNeg < bs.length := ⟨rxd.1, by rw [hbl]; exact rxd.2⟩
          refine own_go (fun _ kk => XS.iconst X286.here hx rfl (hb hby at_275) kk) ?_
          show own_Fin _ _ _ _ _ _ _ (T286.setTop (mkF m 276 #[.val (.int p0), .val (.int p1), .val (.int p2), .val (.int (3 : Int32)), .val (.int xa), .val (.int xb), .val (.int xc), .val (.int xd), .val (.ref b238), .val (.ref b248), .unset, .unset, .unset] [(.int (4 : Int32))]))
          refine own_newI X286 hx hZ (hw _ (List.mem_of_getElem? (i := 5) rfl)) e286 (hb hby at_276) (by decide) (cap := 4) (by decide) (by decide) (by decide) (by decide) ?_
          intro T291 h291 b291 g291 X291 e291 E291 A291 D291
          have g_b291 : n0 ≤ b291 := Nat.le_trans Z286 (Nat.le_of_eq g291.symm)
          have ne_b238_b291 : b238 ≠ b291 := Nat.ne_of_lt (Nat.lt_of_lt_of_le f287.lt (Nat.le_of_eq g291.symm))
          have ne_b248_b291 : b248 ≠ b291 := Nat.ne_of_lt (Nat.lt_of_lt_of_le Bb248.lt (Nat.le_of_eq g291.symm))
          have f292 := f287.ext E291
          have f293 := f288.ext E291
          have f294 := Bb248.ext E291
          have f295 := f290.ext E291
          have Z291 := Nat.le_trans Z286 E291.1
          have A291 : own_Ar Z h291 b291 .int (List.map Value.int [(0 : Int32), (0 : Int32), (0 : Int32), (0 : Int32)]) := A291
          show own_Fin _ _ _ _ _ _ _ (T291.setTop (mkF m 278 #[.val (.int p0), .val (.int p1), .val (.int p2), .val (.int (3 : Int32)), .val (.int xa), .val (.int xb), .val (.int xc), .val (.int xd), .val (.ref b238), .val (.ref b248), .unset, .unset, .unset] [(.ref b291)]))
          refine own_go (fun _ kk => XS.astore X291.here hx rfl (hb hby at_278) rfl rfl (l' := #[.val (.int p0), .val (.int p1), .val (.int p2), .val (.int (3 : Int32)), .val (.int xa), .val (.int xb), .val (.int xc), .val (.int xd), .val (.ref b238), .val (.ref b248), .val (.ref b291), .unset, .unset]) rfl (XS.iconst X291.here hx rfl (hb hby at_280) (XS.istore X291.here hx rfl (hb hby at_281) rfl (l' := #[.val (.int p0), .val (.int p1), .val (.int p2), .val (.int (3 : Int32)), .val (.int xa), .val (.int xb), .val (.int xc), .val (.int xd), .val (.ref b238), .val (.ref b248), .val (.ref b291), .val (.int (0 : Int32)), .unset]) rfl (XS.iloadN X291.here hx rfl (hb hby at_283) rfl (XS.ifNo X291.here hx rfl (hb hby at_284) rfl (XT.i0_le_f (by decide)) (XS.aload X291.here hx rfl (hb hby at_287) rfl rfl (XS.iload X291.here hx rfl (hb hby at_289) rfl kk))))))) ?_
          show own_Fin _ _ _ _ _ _ _ (T291.setTop (mkF m 291 #[.val (.int p0), .val (.int p1), .val (.int p2), .val (.int (3 : Int32)), .val (.int xa), .val (.int xb), .val (.int xc), .val (.int xd), .val (.ref b238), .val (.ref b248), .val (.ref b291), .val (.int (0 : Int32)), .unset] [(.int xa), (.ref b248)]))
          refine own_ldZ X291 hx hZ e291 f294 sa.1 sa.2 (hb hby at_291) ?_
          show own_Fin _ _ _ _ _ _ _ (T291.setTop (mkF m 292 #[.val (.int p0), .val (.int p1), .val (.int p2), .val (.int (3 : Int32)), .val (.int xa), .val (.int xb), .val (.int xc), .val (.int xd), .val (.ref b238), .val (.ref b248), .val (.ref b291), .val (.int (0 : Int32)), .unset] [(.int (List.getD bs (xa).toNatClampNeg 0))]))
          by_cases hc292 : (List.getD bs (xa).toNatClampNeg 0) = 0
          · refine own_go (fun _ kk => XS.ifYes X291.here hx rfl (pc0 := 292) (pc' := 305) rfl (hb hby at_292) rfl (XT.i0_eq_t hc292) (by decide) (by decide) (XS.iloadN X291.here hx rfl (hb hby at_305) rfl (XS.iconst X291.here hx rfl (hb hby at_306) (XS.icmpNo X291.here hx rfl (hb hby at_307) rfl (XT.ii_le_f (by decide)) (XS.aload X291.here hx rfl (hb hby at_310) rfl rfl (XS.iload X291.here hx rfl (hb hby at_312) rfl kk)))))) ?_
            show own_Fin _ _ _ _ _ _ _ (T291.setTop (mkF m 314 #[.val (.int p0), .val (.int p1), .val (.int p2), .val (.int (3 : Int32)), .val (.int xa), .val (.int xb), .val (.int xc), .val (.int xd), .val (.ref b238), .val (.ref b248), .val (.ref b291), .val (.int (0 : Int32)), .unset] [(.int xb), (.ref b248)]))
            refine own_ldZ X291 hx hZ e291 f294 sb.1 sb.2 (hb hby at_314) ?_
            show own_Fin _ _ _ _ _ _ _ (T291.setTop (mkF m 315 #[.val (.int p0), .val (.int p1), .val (.int p2), .val (.int (3 : Int32)), .val (.int xa), .val (.int xb), .val (.int xc), .val (.int xd), .val (.ref b238), .val (.ref b248), .val (.ref b291), .val (.int (0 : Int32)), .unset] [(.int (List.getD bs (xb).toNatClampNeg 0))]))
            by_cases hc315 : (List.getD bs (xb).toNatClampNeg 0) = 0
            · refine own_go (fun _ kk => XS.ifYes X291.here hx rfl (pc0 := 315) (pc' := 328) rfl (hb hby at_315) rfl (XT.i0_eq_t hc315) (by decide) (by decide) (XS.iloadN X291.here hx rfl (hb hby at_328) rfl (XS.iconst X291.here hx rfl (hb hby at_329) (XS.icmpNo X291.here hx rfl (hb hby at_330) rfl (XT.ii_le_f (by decide)) (XS.aload X291.here hx rfl (hb hby at_333) rfl rfl (XS.iload X291.here hx rfl (hb hby at_335) rfl kk)))))) ?_
              show own_Fin _ _ _ _ _ _ _ (T291.setTop (mkF m 337 #[.val (.int p0), .val (.int p1), .val (.int p2), .val (.int (3 : Int32)), .val (.int xa), .val (.int xb), .val (.int xc), .val (.int xd), .val (.ref b238), .val (.ref b248), .val (.ref b291), .val (.int (0 : Int32)), .unset] [(.int xc), (.ref b248)]))
              refine own_ldZ X291 hx hZ e291 f294 sc.1 sc.2 (hb hby at_337) ?_
              show own_Fin _ _ _ _ _ _ _ (T291.setTop (mkF m 338 #[.val (.int p0), .val (.int p1), .val (.int p2), .val (.int (3 : Int32)), .val (.int xa), .val (.int xb), .val (.int xc), .val (.int xd), .val (.ref b238), .val (.ref b248), .val (.ref b291), .val (.int (0 : Int32)), .unset] [(.int (List.getD bs (xc).toNatClampNeg 0))]))
              by_cases hc338 : (List.getD bs (xc).toNatClampNeg 0) = 0
              · refine own_go (fun _ kk => XS.ifYes X291.here hx rfl (pc0 := 338) (pc' := 351) rfl (hb hby at_338) rfl (XT.i0_eq_t hc338) (by decide) (by decide) (XS.iloadN X291.here hx rfl (hb hby at_351) rfl (XS.iconst X291.here hx rfl (hb hby at_352) (XS.icmpYes X291.here hx rfl (pc0 := 353) (pc' := 374) rfl (hb hby at_353) rfl (XT.ii_le_t (by decide)) (by decide) (by decide) (XS.aload X291.here hx rfl (hb hby at_374) rfl rfl (XS.aload X291.here hx rfl (hb hby at_376) rfl rfl kk)))))) ?_
                show own_Fin _ _ _ _ _ _ _ (T291.setTop (mkF m 378 #[.val (.int p0), .val (.int p1), .val (.int p2), .val (.int (3 : Int32)), .val (.int xa), .val (.int xb), .val (.int xc), .val (.int xd), .val (.ref b238), .val (.ref b248), .val (.ref b291), .val (.int (0 : Int32)), .unset] [(.ref b248), (.ref b238)]))
                refine own_callS X291 hx hZ hown (hw _ (List.mem_of_getElem? (i := 7) rfl)) (hw _ (List.mem_of_getElem? (i := 8) rfl)) (hw _ (List.mem_of_getElem? (i := 9) rfl)) (hw _ (List.mem_of_getElem? (i := 10) rfl)) (by decide) (rm2 l Z a0 hw b238 b248 h291 n0 Z291 [xa, xb, xc] bs f292 f294 (by show 3 ≤ 4; decide) (List.forall_mem_cons.mpr ⟨sa, (List.forall_mem_cons.mpr ⟨sb, (List.forall_mem_cons.mpr ⟨sc, (fun x h => nomatch h)⟩)⟩)⟩)) e291 (argsL := [(.ref b238), (.ref b248)]) (rest := []) rfl rfl (by rw [hml]; rfl) (lenOf pd_0_1 rfl) (hb hby at_378) (W := 0) (Nat.le_of_eq rfl) (by decide) (by decide) (by decide) (by decide) ?_
                rintro v296 T296 L296 X296 ⟨r296, rfl, M296, Kc296, sz296, A296⟩
                have N296 := Fr.app N286 M296
                have ne296 : r296 ≠ b238 := Nat.ne_of_gt (Nat.lt_of_lt_of_le f292.lt sz296)
                have f297 := f292.keep Kc296 nin0
                have f298 := f293.keep Kc296
                have f299 := f294.keep Kc296 nin0
                have f300 := f295.keep Kc296
                have f301 := A291.keep Kc296 nin0
                have f302 := D291.keep Kc296
                have Z296 := Nat.le_trans Z291 Kc296.1
                have F296 : own_Ar Z T296.heap r296 .int (List.map Value.int ([] : List Int32)) := by
                  rw [List.filter_cons_of_neg (by rw [show own_mk bs xa = false from decide_eq_false (fun q => q hc292)]; decide), List.filter_cons_of_neg (by rw [show own_mk bs xb = false from decide_eq_false (fun q => q hc315)]; decide), List.filter_cons_of_neg (by rw [show own_mk bs xc = false from decide_eq_false (fun q => q hc338)]; decide), List.filter_nil] at A296
                  exact A296
                show own_Fin _ _ _ _ _ _ _ (T296.setTop (mkF m 381 #[.val (.int p0), .val (.int p1), .val (.int p2), .val (.int (3 : Int32)), .val (.int xa), .val (.int xb), .val (.int xc), .val (.int xd), .val (.ref b238), .val (.ref b248), .val (.ref b291), .val (.int (0 : Int32)), .unset] [(.ref r296)]))
                refine own_go (fun _ kk => XS.astore X296.here hx rfl (hb hby at_381) rfl rfl (l' := #[.val (.int p0), .val (.int p1), .val (.int p2), .val (.int (3 : Int32)), .val (.int xa), .val (.int xb), .val (.int xc), .val (.int xd), .val (.ref b238), .val (.ref b248), .val (.ref b291), .val (.int (0 : Int32)), .val (.ref r296)]) rfl (XS.aload X296.here hx rfl (hb hby at_383) rfl rfl (XS.ifnullNo X296.here hx rfl (hb hby at_385) rfl (XS.aload X296.here hx rfl (hb hby at_388) rfl rfl (XS.aload X296.here hx rfl (hb hby at_390) rfl rfl (XT.acmpYes X296.here hx rfl (pc0 := 392) (pc' := 397) rfl (hb hby at_392) rfl rfl rfl (XT.aa_ne_t (fun q => ne296 (Value.ref.inj q))) (by decide) (by decide) (XS.aload X296.here hx rfl (hb hby at_397) rfl rfl kk))))))) ?_
                show own_Fin _ _ _ _ _ _ _ (T296.setTop (mkF m 399 #[.val (.int p0), .val (.int p1), .val (.int p2), .val (.int (3 : Int32)), .val (.int xa), .val (.int xb), .val (.int xc), .val (.int xd), .val (.ref b238), .val (.ref b248), .val (.ref b291), .val (.int (0 : Int32)), .val (.ref r296)] [(.ref b238)]))
                refine own_alen X296 hx hZ rfl f297 (hb hby at_399) ?_
                show own_Fin _ _ _ _ _ _ _ (T296.setTop (mkF m 400 #[.val (.int p0), .val (.int p1), .val (.int p2), .val (.int (3 : Int32)), .val (.int xa), .val (.int xb), .val (.int xc), .val (.int xd), .val (.ref b238), .val (.ref b248), .val (.ref b291), .val (.int (0 : Int32)), .val (.ref r296)] [(.int (3 : Int32))]))
                refine own_go (fun _ kk => XS.iloadN X296.here hx rfl (hb hby at_400) rfl (XS.icmpYes X296.here hx rfl (pc0 := 401) (pc' := 406) rfl (hb hby at_401) rfl (XT.ii_eq_t (by decide)) (by decide) (by decide) (XS.iloadN X296.here hx rfl (hb hby at_406) rfl (XS.ifNo X296.here hx rfl (hb hby at_407) rfl (XT.i0_le_f (by decide)) (XS.aload X296.here hx rfl (hb hby at_410) rfl rfl (XS.iconst X296.here hx rfl (hb hby at_412) kk)))))) ?_
                show own_Fin _ _ _ _ _ _ _ (T296.setTop (mkF m 413 #[.val (.int p0), .val (.int p1), .val (.int p2), .val (.int (3 : Int32)), .val (.int xa), .val (.int xb), .val (.int xc), .val (.int xd), .val (.ref b238), .val (.ref b248), .val (.ref b291), .val (.int (0 : Int32)), .val (.ref r296)] [(.int (0 : Int32)), (.ref b238)]))
                refine own_ldI X296 hx hZ rfl f297 (by decide) (by show (0 : Int32).toNatClampNeg < 3; decide) (hb hby at_413) ?_
                show own_Fin _ _ _ _ _ _ _ (T296.setTop (mkF m 414 #[.val (.int p0), .val (.int p1), .val (.int p2), .val (.int (3 : Int32)), .val (.int xa), .val (.int xb), .val (.int xc), .val (.int xd), .val (.ref b238), .val (.ref b248), .val (.ref b291), .val (.int (0 : Int32)), .val (.ref r296)] [(.int xa)]))
                refine own_go (fun _ kk => XS.iload X296.here hx rfl (hb hby at_414) rfl (XS.icmpYes X296.here hx rfl (pc0 := 416) (pc' := 421) rfl (hb hby at_416) rfl (XT.ii_eq_t rfl) (by decide) (by decide) (XS.iloadN X296.here hx rfl (hb hby at_421) rfl (XS.iconst X296.here hx rfl (hb hby at_422) (XS.icmpNo X296.here hx rfl (hb hby at_423) rfl (XT.ii_le_f (by decide)) (XS.aload X296.here hx rfl (hb hby at_426) rfl rfl (XS.iconst X296.here hx rfl (hb hby at_428) kk))))))) ?_
                show own_Fin _ _ _ _ _ _ _ (T296.setTop (mkF m 429 #[.val (.int p0), .val (.int p1), .val (.int p2), .val (.int (3 : Int32)), .val (.int xa), .val (.int xb), .val (.int xc), .val (.int xd), .val (.ref b238), .val (.ref b248), .val (.ref b291), .val (.int (0 : Int32)), .val (.ref r296)] [(.int (1 : Int32)), (.ref b238)]))
                refine own_ldI X296 hx hZ rfl f297 (by decide) (by show (1 : Int32).toNatClampNeg < 3; decide) (hb hby at_429) ?_
                show own_Fin _ _ _ _ _ _ _ (T296.setTop (mkF m 430 #[.val (.int p0), .val (.int p1), .val (.int p2), .val (.int (3 : Int32)), .val (.int xa), .val (.int xb), .val (.int xc), .val (.int xd), .val (.ref b238), .val (.ref b248), .val (.ref b291), .val (.int (0 : Int32)), .val (.ref r296)] [(.int xb)]))
                refine own_go (fun _ kk => XS.iload X296.here hx rfl (hb hby at_430) rfl (XS.icmpYes X296.here hx rfl (pc0 := 432) (pc' := 437) rfl (hb hby at_432) rfl (XT.ii_eq_t rfl) (by decide) (by decide) (XS.iloadN X296.here hx rfl (hb hby at_437) rfl (XS.iconst X296.here hx rfl (hb hby at_438) (XS.icmpNo X296.here hx rfl (hb hby at_439) rfl (XT.ii_le_f (by decide)) (XS.aload X296.here hx rfl (hb hby at_442) rfl rfl (XS.iconst X296.here hx rfl (hb hby at_444) kk))))))) ?_
                show own_Fin _ _ _ _ _ _ _ (T296.setTop (mkF m 445 #[.val (.int p0), .val (.int p1), .val (.int p2), .val (.int (3 : Int32)), .val (.int xa), .val (.int xb), .val (.int xc), .val (.int xd), .val (.ref b238), .val (.ref b248), .val (.ref b291), .val (.int (0 : Int32)), .val (.ref r296)] [(.int (2 : Int32)), (.ref b238)]))
                refine own_ldI X296 hx hZ rfl f297 (by decide) (by show (2 : Int32).toNatClampNeg < 3; decide) (hb hby at_445) ?_
                show own_Fin _ _ _ _ _ _ _ (T296.setTop (mkF m 446 #[.val (.int p0), .val (.int p1), .val (.int p2), .val (.int (3 : Int32)), .val (.int xa), .val (.int xb), .val (.int xc), .val (.int xd), .val (.ref b238), .val (.ref b248), .val (.ref b291), .val (.int (0 : Int32)), .val (.ref r296)] [(.int xc)]))
                refine own_go (fun _ kk => XS.iload X296.here hx rfl (hb hby at_446) rfl (XS.icmpYes X296.here hx rfl (pc0 := 448) (pc' := 453) rfl (hb hby at_448) rfl (XT.ii_eq_t rfl) (by decide) (by decide) (XS.iloadN X296.here hx rfl (hb hby at_453) rfl (XS.iconst X296.here hx rfl (hb hby at_454) (XS.icmpYes X296.here hx rfl (pc0 := 455) (pc' := 469) rfl (hb hby at_455) rfl (XT.ii_le_t (by decide)) (by decide) (by decide) (XS.aload X296.here hx rfl (hb hby at_469) rfl rfl kk)))))) ?_
                show own_Fin _ _ _ _ _ _ _ (T296.setTop (mkF m 471 #[.val (.int p0), .val (.int p1), .val (.int p2), .val (.int (3 : Int32)), .val (.int xa), .val (.int xb), .val (.int xc), .val (.int xd), .val (.ref b238), .val (.ref b248), .val (.ref b291), .val (.int (0 : Int32)), .val (.ref r296)] [(.ref r296)]))
                refine own_alen X296 hx hZ rfl F296 (hb hby at_471) ?_
                show own_Fin _ _ _ _ _ _ _ (T296.setTop (mkF m 472 #[.val (.int p0), .val (.int p1), .val (.int p2), .val (.int (3 : Int32)), .val (.int xa), .val (.int xb), .val (.int xc), .val (.int xd), .val (.ref b238), .val (.ref b248), .val (.ref b291), .val (.int (0 : Int32)), .val (.ref r296)] [(.int (0 : Int32))]))
                refine own_go (fun _ kk => XS.iload X296.here hx rfl (hb hby at_472) rfl (XS.icmpYes X296.here hx rfl (pc0 := 474) (pc' := 479) rfl (hb hby at_474) rfl (XT.ii_eq_t (by decide)) (by decide) (by decide) (XS.iload X296.here hx rfl (hb hby at_479) rfl (XS.ifYes X296.here hx rfl (pc0 := 481) (pc' := 497) rfl (hb hby at_481) rfl (XT.i0_le_t (by decide)) (by decide) (by decide) (XS.iload X296.here hx rfl (hb hby at_497) rfl (XS.iconst X296.here hx rfl (hb hby at_499) (XS.icmpYes X296.here hx rfl (pc0 := 500) (pc' := 516) rfl (hb hby at_500) rfl (XT.ii_le_t (by decide)) (by decide) (by decide) (XS.iload X296.here hx rfl (hb hby at_516) rfl (XS.iconst X296.here hx rfl (hb hby at_518) (XS.icmpYes X296.here hx rfl (pc0 := 519) (pc' := 535) rfl (hb hby at_519) rfl (XT.ii_le_t (by decide)) (by decide) (by decide) kk)))))))))) ?_
                show own_Fin _ _ _ _ _ _ _ (T296.setTop (mkF m 535 #[.val (.int p0), .val (.int p1), .val (.int p2), .val (.int (3 : Int32)), .val (.int xa), .val (.int xb), .val (.int xc), .val (.int xd), .val (.ref b238), .val (.ref b248), .val (.ref b291), .val (.int (0 : Int32)), .val (.ref r296)] []))
                refine own_go (fun _ kk => XS.iload X296.here hx rfl (hb hby at_535) rfl (XS.iconst X296.here hx rfl (hb hby at_537) (XS.icmpYes X296.here hx rfl (pc0 := 538) (pc' := 554) rfl (hb hby at_538) rfl (XT.ii_le_t (by decide)) (by decide) (by decide) (XS.iconst X296.here hx rfl (hb hby at_554) kk)))) ?_
                show own_Fin _ _ _ _ _ _ _ (T296.setTop (mkF m 555 #[.val (.int p0), .val (.int p1), .val (.int p2), .val (.int (3 : Int32)), .val (.int xa), .val (.int xb), .val (.int xc), .val (.int xd), .val (.ref b238), .val (.ref b248), .val (.ref b291), .val (.int (0 : Int32)), .val (.ref r296)] [(.int (1 : Int32))]))
                exact own_retZ X296 hx hlk hret rfl (hb hby at_555) (by decide) (by decide) ⟨rfl, N296⟩
              · refine own_go (fun _ kk => XS.ifNo X291.here hx rfl (hb hby at_338) rfl (XT.i0_eq_f hc338) (XS.aload X291.here hx rfl (hb hby at_341) rfl rfl (XS.iload X291.here hx rfl (hb hby at_343) rfl (XS.iload X291.here hx rfl (hb hby at_345) rfl kk)))) ?_
                show own_Fin _ _ _ _ _ _ _ (T291.setTop (mkF m 347 #[.val (.int p0), .val (.int p1), .val (.int p2), .val (.int (3 : Int32)), .val (.int xa), .val (.int xb), .val (.int xc), .val (.int xd), .val (.ref b238), .val (.ref b248), .val (.ref b291), .val (.int (0 : Int32)), .unset] [(.int xc), (.int (0 : Int32)), (.ref b291)]))
                refine own_stI X291 hx hZ e291 A291 (by decide) (by show (0 : Int32).toNatClampNeg < 4; decide) (hb hby at_347) ?_
                intro T303 h303 X303 e303 W303 A303
                have f304 := f292.other W303 ne_b238_b291
                have f305 := f293.wr W303
                have f306 := f294.other W303 ne_b248_b291
                have f307 := f295.wr W303
                have f309 := D291.wr W303
                have Z303 := Nat.le_trans Z291 (Keep.of_wr W303).1
                have A303 : own_Ar Z h303 b291 .int (List.map Value.int [xc, (0 : Int32), (0 : Int32), (0 : Int32)]) := A303
                have N303 := Fr.snoc X303 N286 g_b291
                show own_Fin _ _ _ _ _ _ _ (T303.setTop (mkF m 348 #[.val (.int p0), .val (.int p1), .val (.int p2), .val (.int (3 : Int32)), .val (.int xa), .val (.int xb), .val (.int xc), .val (.int xd), .val (.ref b238), .val (.ref b248), .val (.ref b291), .val (.int (0 : Int32)), .unset] []))
                refine own_go (fun _ kk => XS.iinc X303.here hx rfl (hb hby at_348) rfl (l' := #[.val (.int p0), .val (.int p1), .val (.int p2), .val (.int (3 : Int32)), .val (.int xa), .val (.int xb), .val (.int xc), .val (.int xd), .val (.ref b238), .val (.ref b248), .val (.ref b291), .val (.int (1 : Int32)), .unset]) rfl (XS.iloadN X303.here hx rfl (hb hby at_351) rfl (XS.iconst X303.here hx rfl (hb hby at_352) (XS.icmpYes X303.here hx rfl (pc0 := 353) (pc' := 374) rfl (hb hby at_353) rfl (XT.ii_le_t (by decide)) (by decide) (by decide) (XS.aload X303.here hx rfl (hb hby at_374) rfl rfl (XS.aload X303.here hx rfl (hb hby at_376) rfl rfl kk)))))) ?_
                show own_Fin _ _ _ _ _ _ _ (T303.setTop (mkF m 378 #[.val (.int p0), .val (.int p1), .val (.int p2), .val (.int (3 : Int32)), .val (.int xa), .val (.int xb), .val (.int xc), .val (.int xd), .val (.ref b238), .val (.ref b248), .val (.ref b291), .val (.int (1 : Int32)), .unset] [(.ref b248), (.ref b238)]))
                refine own_callS X303 hx hZ hown (hw _ (List.mem_of_getElem? (i := 7) rfl)) (hw _ (List.mem_of_getElem? (i := 8) rfl)) (hw _ (List.mem_of_getElem? (i := 9) rfl)) (hw _ (List.mem_of_getElem? (i := 10) rfl)) (by decide) (rm2 l Z a0 hw b238 b248 h303 n0 Z303 [xa, xb, xc] bs f304 f306 (by show 3 ≤ 4; decide) (List.forall_mem_cons.mpr ⟨sa, (List.forall_mem_cons.mpr ⟨sb, (List.forall_mem_cons.mpr ⟨sc, (fun x h => nomatch h)⟩)⟩)⟩)) e303 (argsL := [(.ref b238), (.ref b248)]) (rest := []) rfl rfl (by rw [hml]; rfl) (lenOf pd_0_1 rfl) (hb hby at_378) (W := 0) (Nat.le_of_eq rfl) (by decide) (by decide) (by decide) (by decide) ?_
                rintro v310 T310 L310 X310 ⟨r310, rfl, M310, Kc310, sz310, A310⟩
                have N310 := Fr.app N303 M310
                have ne310 : r310 ≠ b238 := Nat.ne_of_gt (Nat.lt_of_lt_of_le f304.lt sz310)
                have f311 := f304.keep Kc310 nin0
                have f312 := f305.keep Kc310
                have f313 := f306.keep Kc310 nin0
                have f314 := f307.keep Kc310
                have f315 := A303.keep Kc310 nin0
                have f316 := f309.keep Kc310
                have Z310 := Nat.le_trans Z303 Kc310.1
                have F310 : own_Ar Z T310.heap r310 .int (List.map Value.int [xc]) := by
                  rw [List.filter_cons_of_neg (by rw [show own_mk bs xa = false from decide_eq_false (fun q => q hc292)]; decide), List.filter_cons_of_neg (by rw [show own_mk bs xb = false from decide_eq_false (fun q => q hc315)]; decide), List.filter_cons_of_pos (show own_mk bs xc = true from decide_eq_true hc338), List.filter_nil] at A310
                  exact A310
                show own_Fin _ _ _ _ _ _ _ (T310.setTop (mkF m 381 #[.val (.int p0), .val (.int p1), .val (.int p2), .val (.int (3 : Int32)), .val (.int xa), .val (.int xb), .val (.int xc), .val (.int xd), .val (.ref b238), .val (.ref b248), .val (.ref b291), .val (.int (1 : Int32)), .unset] [(.ref r310)]))
                refine own_go (fun _ kk => XS.astore X310.here hx rfl (hb hby at_381) rfl rfl (l' := #[.val (.int p0), .val (.int p1), .val (.int p2), .val (.int (3 : Int32)), .val (.int xa), .val (.int xb), .val (.int xc), .val (.int xd), .val (.ref b238), .val (.ref b248), .val (.ref b291), .val (.int (1 : Int32)), .val (.ref r310)]) rfl (XS.aload X310.here hx rfl (hb hby at_383) rfl rfl (XS.ifnullNo X310.here hx rfl (hb hby at_385) rfl (XS.aload X310.here hx rfl (hb hby at_388) rfl rfl (XS.aload X310.here hx rfl (hb hby at_390) rfl rfl (XT.acmpYes X310.here hx rfl (pc0 := 392) (pc' := 397) rfl (hb hby at_392) rfl rfl rfl (XT.aa_ne_t (fun q => ne310 (Value.ref.inj q))) (by decide) (by decide) (XS.aload X310.here hx rfl (hb hby at_397) rfl rfl kk))))))) ?_
                show own_Fin _ _ _ _ _ _ _ (T310.setTop (mkF m 399 #[.val (.int p0), .val (.int p1), .val (.int p2), .val (.int (3 : Int32)), .val (.int xa), .val (.int xb), .val (.int xc), .val (.int xd), .val (.ref b238), .val (.ref b248), .val (.ref b291), .val (.int (1 : Int32)), .val (.ref r310)] [(.ref b238)]))
                refine own_alen X310 hx hZ rfl f311 (hb hby at_399) ?_
                show own_Fin _ _ _ _ _ _ _ (T310.setTop (mkF m 400 #[.val (.int p0), .val (.int p1), .val (.int p2), .val (.int (3 : Int32)), .val (.int xa), .val (.int xb), .val (.int xc), .val (.int xd), .val (.ref b238), .val (.ref b248), .val (.ref b291), .val (.int (1 : Int32)), .val (.ref r310)] [(.int (3 : Int32))]))
                refine own_go (fun _ kk => XS.iloadN X310.here hx rfl (hb hby at_400) rfl (XS.icmpYes X310.here hx rfl (pc0 := 401) (pc' := 406) rfl (hb hby at_401) rfl (XT.ii_eq_t (by decide)) (by decide) (by decide) (XS.iloadN X310.here hx rfl (hb hby at_406) rfl (XS.ifNo X310.here hx rfl (hb hby at_407) rfl (XT.i0_le_f (by decide)) (XS.aload X310.here hx rfl (hb hby at_410) rfl rfl (XS.iconst X310.here hx rfl (hb hby at_412) kk)))))) ?_
                show own_Fin _ _ _ _ _ _ _ (T310.setTop (mkF m 413 #[.val (.int p0), .val (.int p1), .val (.int p2), .val (.int (3 : Int32)), .val (.int xa), .val (.int xb), .val (.int xc), .val (.int xd), .val (.ref b238), .val (.ref b248), .val (.ref b291), .val (.int (1 : Int32)), .val (.ref r310)] [(.int (0 : Int32)), (.ref b238)]))
                refine own_ldI X310 hx hZ rfl f311 (by decide) (by show (0 : Int32).toNatClampNeg < 3; decide) (hb hby at_413) ?_
                show own_Fin _ _ _ _ _ _ _ (T310.setTop (mkF m 414 #[.val (.int p0), .val (.int p1), .val (.int p2), .val (.int (3 : Int32)), .val (.int xa), .val (.int xb), .val (.int xc), .val (.int xd), .val (.ref b238), .val (.ref b248), .val (.ref b291), .val (.int (1 : Int32)), .val (.ref r310)] [(.int xa)]))
                refine own_go (fun _ kk => XS.iload X310.here hx rfl (hb hby at_414) rfl (XS.icmpYes X310.here hx rfl (pc0 := 416) (pc' := 421) rfl (hb hby at_416) rfl (XT.ii_eq_t rfl) (by decide) (by decide) (XS.iloadN X310.here hx rfl (hb hby at_421) rfl (XS.iconst X310.here hx rfl (hb hby at_422) (XS.icmpNo X310.here hx rfl (hb hby at_423) rfl (XT.ii_le_f (by decide)) (XS.aload X310.here hx rfl (hb hby at_426) rfl rfl (XS.iconst X310.here hx rfl (hb hby at_428) kk))))))) ?_
                show own_Fin _ _ _ _ _ _ _ (T310.setTop (mkF m 429 #[.val (.int p0), .val (.int p1), .val (.int p2), .val (.int (3 : Int32)), .val (.int xa), .val (.int xb), .val (.int xc), .val (.int xd), .val (.ref b238), .val (.ref b248), .val (.ref b291), .val (.int (1 : Int32)), .val (.ref r310)] [(.int (1 : Int32)), (.ref b238)]))
                refine own_ldI X310 hx hZ rfl f311 (by decide) (by show (1 : Int32).toNatClampNeg < 3; decide) (hb hby at_429) ?_
                show own_Fin _ _ _ _ _ _ _ (T310.setTop (mkF m 430 #[.val (.int p0), .val (.int p1), .val (.int p2), .val (.int (3 : Int32)), .val (.int xa), .val (.int xb), .val (.int xc), .val (.int xd), .val (.ref b238), .val (.ref b248), .val (.ref b291), .val (.int (1 : Int32)), .val (.ref r310)] [(.int xb)]))
                refine own_go (fun _ kk => XS.iload X310.here hx rfl (hb hby at_430) rfl (XS.icmpYes X310.here hx rfl (pc0 := 432) (pc' := 437) rfl (hb hby at_432) rfl (XT.ii_eq_t rfl) (by decide) (by decide) (XS.iloadN X310.here hx rfl (hb hby at_437) rfl (XS.iconst X310.here hx rfl (hb hby at_438) (XS.icmpNo X310.here hx rfl (hb hby at_439) rfl (XT.ii_le_f (by decide)) (XS.aload X310.here hx rfl (hb hby at_442) rfl rfl (XS.iconst X310.here hx rfl (hb hby at_444) kk))))))) ?_
                show own_Fin _ _ _ _ _ _ _ (T310.setTop (mkF m 445 #[.val (.int p0), .val (.int p1), .val (.int p2), .val (.int (3 : Int32)), .val (.int xa), .val (.int xb), .val (.int xc), .val (.int xd), .val (.ref b238), .val (.ref b248), .val (.ref b291), .val (.int (1 : Int32)), .val (.ref r310)] [(.int (2 : Int32)), (.ref b238)]))
                refine own_ldI X310 hx hZ rfl f311 (by decide) (by show (2 : Int32).toNatClampNeg < 3; decide) (hb hby at_445) ?_
                show own_Fin _ _ _ _ _ _ _ (T310.setTop (mkF m 446 #[.val (.int p0), .val (.int p1), .val (.int p2), .val (.int (3 : Int32)), .val (.int xa), .val (.int xb), .val (.int xc), .val (.int xd), .val (.ref b238), .val (.ref b248), .val (.ref b291), .val (.int (1 : Int32)), .val (.ref r310)] [(.int xc)]))
                refine own_go (fun _ kk => XS.iload X310.here hx rfl (hb hby at_446) rfl (XS.icmpYes X310.here hx rfl (pc0 := 448) (pc' := 453) rfl (hb hby at_448) rfl (XT.ii_eq_t rfl) (by decide) (by decide) (XS.iloadN X310.here hx rfl (hb hby at_453) rfl (XS.iconst X310.here hx rfl (hb hby at_454) (XS.icmpYes X310.here hx rfl (pc0 := 455) (pc' := 469) rfl (hb hby at_455) rfl (XT.ii_le_t (by decide)) (by decide) (by decide) (XS.aload X310.here hx rfl (hb hby at_469) rfl rfl kk)))))) ?_
                show own_Fin _ _ _ _ _ _ _ (T310.setTop (mkF m 471 #[.val (.int p0), .val (.int p1), .val (.int p2), .val (.int (3 : Int32)), .val (.int xa), .val (.int xb), .val (.int xc), .val (.int xd), .val (.ref b238), .val (.ref b248), .val (.ref b291), .val (.int (1 : Int32)), .val (.ref r310)] [(.ref r310)]))
                refine own_alen X310 hx hZ rfl F310 (hb hby at_471) ?_
                show own_Fin _ _ _ _ _ _ _ (T310.setTop (mkF m 472 #[.val (.int p0), .val (.int p1), .val (.int p2), .val (.int (3 : Int32)), .val (.int xa), .val (.int xb), .val (.int xc), .val (.int xd), .val (.ref b238), .val (.ref b248), .val (.ref b291), .val (.int (1 : Int32)), .val (.ref r310)] [(.int (1 : Int32))]))
                refine own_go (fun _ kk => XS.iload X310.here hx rfl (hb hby at_472) rfl (XS.icmpYes X310.here hx rfl (pc0 := 474) (pc' := 479) rfl (hb hby at_474) rfl (XT.ii_eq_t (by decide)) (by decide) (by decide) (XS.iload X310.here hx rfl (hb hby at_479) rfl (XS.ifNo X310.here hx rfl (hb hby at_481) rfl (XT.i0_le_f (by decide)) (XS.aload X310.here hx rfl (hb hby at_484) rfl rfl (XS.iconst X310.here hx rfl (hb hby at_486) kk)))))) ?_
                show own_Fin _ _ _ _ _ _ _ (T310.setTop (mkF m 487 #[.val (.int p0), .val (.int p1), .val (.int p2), .val (.int (3 : Int32)), .val (.int xa), .val (.int xb), .val (.int xc), .val (.int xd), .val (.ref b238), .val (.ref b248), .val (.ref b291), .val (.int (1 : Int32)), .val (.ref r310)] [(.int (0 : Int32)), (.ref r310)]))
                refine own_ldI X310 hx hZ rfl F310 (by decide) (by show (0 : Int32).toNatClampNeg < 1; decide) (hb hby at_487) ?_
                show own_Fin _ _ _ _ _ _ _ (T310.setTop (mkF m 488 #[.val (.int p0), .val (.int p1), .val (.int p2), .val (.int (3 : Int32)), .val (.int xa), .val (.int xb), .val (.int xc), .val (.int xd), .val (.ref b238), .val (.ref b248), .val (.ref b291), .val (.int (1 : Int32)), .val (.ref r310)] [(.int xc)]))
                refine own_go (fun _ kk => XS.aload X310.here hx rfl (hb hby at_488) rfl rfl (XS.iconst X310.here hx rfl (hb hby at_490) kk)) ?_
                show own_Fin _ _ _ _ _ _ _ (T310.setTop (mkF m 491 #[.val (.int p0), .val (.int p1), .val (.int p2), .val (.int (3 : Int32)), .val (.int xa), .val (.int xb), .val (.int xc), .val (.int xd), .val (.ref b238), .val (.ref b248), .val (.ref b291), .val (.int (1 : Int32)), .val (.ref r310)] [(.int (0 : Int32)), (.ref b291), (.int xc)]))
                refine own_ldI X310 hx hZ rfl f315 (by decide) (by show (0 : Int32).toNatClampNeg < 4; decide) (hb hby at_491) ?_
                show own_Fin _ _ _ _ _ _ _ (T310.setTop (mkF m 492 #[.val (.int p0), .val (.int p1), .val (.int p2), .val (.int (3 : Int32)), .val (.int xa), .val (.int xb), .val (.int xc), .val (.int xd), .val (.ref b238), .val (.ref b248), .val (.ref b291), .val (.int (1 : Int32)), .val (.ref r310)] [(.int xc), (.int xc)]))
                refine own_go (fun _ kk => XS.icmpYes X310.here hx rfl (pc0 := 492) (pc' := 497) rfl (hb hby at_492) rfl (XT.ii_eq_t rfl) (by decide) (by decide) (XS.iload X310.here hx rfl (hb hby at_497) rfl (XS.iconst X310.here hx rfl (hb hby at_499) (XS.icmpYes X310.here hx rfl (pc0 := 500) (pc' := 516) rfl (hb hby at_500) rfl (XT.ii_le_t (by decide)) (by decide) (by decide) (XS.iload X310.here hx rfl (hb hby at_516) rfl (XS.iconst X310.here hx rfl (hb hby at_518) (XS.icmpYes X310.here hx rfl (pc0 := 519) (pc' := 535) rfl (hb hby at_519) rfl (XT.ii_le_t (by decide)) (by decide) (by decide) (XS.iload X310.here hx rfl (hb hby at_535) rfl (XS.iconst X310.here hx rfl (hb hby at_537) (XS.icmpYes X310.here hx rfl (pc0 := 538) (pc' := 554) rfl (hb hby at_538) rfl (XT.ii_le_t (by decide)) (by decide) (by decide) kk)))))))))) ?_
                show own_Fin _ _ _ _ _ _ _ (T310.setTop (mkF m 554 #[.val (.int p0), .val (.int p1), .val (.int p2), .val (.int (3 : Int32)), .val (.int xa), .val (.int xb), .val (.int xc), .val (.int xd), .val (.ref b238), .val (.ref b248), .val (.ref b291), .val (.int (1 : Int32)), .val (.ref r310)] []))
                refine own_go (fun _ kk => XS.iconst X310.here hx rfl (hb hby at_554) kk) ?_
                show own_Fin _ _ _ _ _ _ _ (T310.setTop (mkF m 555 #[.val (.int p0), .val (.int p1), .val (.int p2), .val (.int (3 : Int32)), .val (.int xa), .val (.int xb), .val (.int xc), .val (.int xd), .val (.ref b238), .val (.ref b248), .val (.ref b291), .val (.int (1 : Int32)), .val (.ref r310)] [(.int (1 : Int32))]))
                exact own_retZ X310 hx hlk hret rfl (hb hby at_555) (by decide) (by decide) ⟨rfl, N310⟩
            · refine own_go (fun _ kk => XS.ifNo X291.here hx rfl (hb hby at_315) rfl (XT.i0_eq_f hc315) (XS.aload X291.here hx rfl (hb hby at_318) rfl rfl (XS.iload X291.here hx rfl (hb hby at_320) rfl (XS.iload X291.here hx rfl (hb hby at_322) rfl kk)))) ?_
              show own_Fin _ _ _ _ _ _ _ (T291.setTop (mkF m 324 #[.val (.int p0), .val (.int p1), .val (.int p2), .val (.int (3 : Int32)), .val (.int xa), .val (.int xb), .val (.int xc), .val (.int xd), .val (.ref b238), .val (.ref b248), .val (.ref b291), .val (.int (0 : Int32)), .unset] [(.int xb), (.int (0 : Int32)), (.ref b291)]))
              refine own_stI X291 hx hZ e291 A291 (by decide) (by show (0 : Int32).toNatClampNeg < 4; decide) (hb hby at_324) ?_
              intro T317 h317 X317 e317 W317 A317
              have f318 := f292.other W317 ne_b238_b291
              have f319 := f293.wr W317
              have f320 := f294.other W317 ne_b248_b291
              have f321 := f295.wr W317
              have f323 := D291.wr W317
              have Z317 := Nat.le_trans Z291 (Keep.of_wr W317).1
              have A317 : own_Ar Z h317 b291 .int (List.map Value.int [xb, (0 : Int32), (0 : Int32), (0 : Int32)]) := A317
              have N317 := Fr.snoc X317 N286 g_b291
              show own_Fin _ _ _ _ _ _ _ (T317.setTop (mkF m 325 #[.val (.int p0), .val (.int p1), .val (.int p2), .val (.int (3 : Int32)), .val (.int xa), .val (.int xb), .val (.int xc), .val (.int xd), .val (.ref b238), .val (.ref b248), .val (.ref b291), .val (.int (0 : Int32)), .unset] []))
              refine own_go (fun _ kk => XS.iinc X317.here hx rfl (hb hby at_325) rfl (l' := #[.val (.int p0), .val (.int p1), .val (.int p2), .val (.int (3 : Int32)), .val (.int xa), .val (.int xb), .val (.int xc), .val (.int xd), .val (.ref b238), .val (.ref b248), .val (.ref b291), .val (.int (1 : Int32)), .unset]) rfl (XS.iloadN X317.here hx rfl (hb hby at_328) rfl (XS.iconst X317.here hx rfl (hb hby at_329) (XS.icmpNo X317.here hx rfl (hb hby at_330) rfl (XT.ii_le_f (by decide)) (XS.aload X317.here hx rfl (hb hby at_333) rfl rfl (XS.iload X317.here hx rfl (hb hby at_335) rfl kk)))))) ?_
              show own_Fin _ _ _ _ _ _ _ (T317.setTop (mkF m 337 #[.val (.int p0), .val (.int p1), .val (.int p2), .val (.int (3 : Int32)), .val (.int xa), .val (.int xb), .val (.int xc), .val (.int xd), .val (.ref b238), .val (.ref b248), .val (.ref b291), .val (.int (1 : Int32)), .unset] [(.int xc), (.ref b248)]))
              refine own_ldZ X317 hx hZ e317 f320 sc.1 sc.2 (hb hby at_337) ?_
              show own_Fin _ _ _ _ _ _ _ (T317.setTop (mkF m 338 #[.val (.int p0), .val (.int p1), .val (.int p2), .val (.int (3 : Int32)), .val (.int xa), .val (.int xb), .val (.int xc), .val (.int xd), .val (.ref b238), .val (.ref b248), .val (.ref b291), .val (.int (1 : Int32)), .unset] [(.int (List.getD bs (xc).toNatClampNeg 0))]))
              by_cases hc338 : (List.getD bs (xc).toNatClampNeg 0) = 0
              · refine own_go (fun _ kk => XS.ifYes X317.here hx rfl (pc0 := 338) (pc' := 351) rfl (hb hby at_338) rfl (XT.i0_eq_t hc338) (by decide) (by decide) (XS.iloadN X317.here hx rfl (hb hby at_351) rfl (XS.iconst X317.here hx rfl (hb hby at_352) (XS.icmpYes X317.here hx rfl (pc0 := 353) (pc' := 374) rfl (hb hby at_353) rfl (XT.ii_le_t (by decide)) (by decide) (by decide) (XS.aload X317.here hx rfl (hb hby at_374) rfl rfl (XS.aload X317.here hx rfl (hb hby at_376) rfl rfl kk)))))) ?_
                show own_Fin _ _ _ _ _ _ _ (T317.setTop (mkF m 378 #[.val (.int p0), .val (.int p1), .val (.int p2), .val (.int (3 : Int32)), .val (.int xa), .val (.int xb), .val (.int xc), .val (.int xd), .val (.ref b238), .val (.ref b248), .val (.ref b291), .val (.int (1 : Int32)), .unset] [(.ref b248), (.ref b238)]))
                refine own_callS X317 hx hZ hown (hw _ (List.mem_of_getElem? (i := 7) rfl)) (hw _ (List.mem_of_getElem? (i := 8) rfl)) (hw _ (List.mem_of_getElem? (i := 9) rfl)) (hw _ (List.mem_of_getElem? (i := 10) rfl)) (by decide) (rm2 l Z a0 hw b238 b248 h317 n0 Z317 [xa, xb, xc] bs f318 f320 (by show 3 ≤ 4; decide) (List.forall_mem_cons.mpr ⟨sa, (List.forall_mem_cons.mpr ⟨sb, (List.forall_mem_cons.mpr ⟨sc, (fun x h => nomatch h)⟩)⟩)⟩)) e317 (argsL := [(.ref b238), (.ref b248)]) (rest := []) rfl rfl (by rw [hml]; rfl) (lenOf pd_0_1 rfl) (hb hby at_378) (W := 0) (Nat.le_of_eq rfl) (by decide) (by decide) (by decide) (by decide) ?_
                rintro v324 T324 L324 X324 ⟨r324, rfl, M324, Kc324, sz324, A324⟩
                have N324 := Fr.app N317 M324
                have ne324 : r324 ≠ b238 := Nat.ne_of_gt (Nat.lt_of_lt_of_le f318.lt sz324)
                have f325 := f318.keep Kc324 nin0
                have f326 := f319.keep Kc324
                have f327 := f320.keep Kc324 nin0
                have f328 := f321.keep Kc324
                have f329 := A317.keep Kc324 nin0
                have f330 := f323.keep Kc324
                have Z324 := Nat.le_trans Z317 Kc324.1
                have F324 : own_Ar Z T324.heap r324 .int (List.map Value.int [xb]) := by
                  rw [List.filter_cons_of_neg (by rw [show own_mk bs xa = false from decide_eq_false (fun q => q hc292)]; decide), List.filter_cons_of_pos (show own_mk bs xb = true from decide_eq_true hc315), List.filter_cons_of_neg (by rw [show own_mk bs xc = false from decide_eq_false (fun q => q hc338)]; decide), List.filter_nil] at A324
                  exact A324
                show own_Fin _ _ _ _ _ _ _ (T324.setTop (mkF m 381 #[.val (.int p0), .val (.int p1), .val (.int p2), .val (.int (3 : Int32)), .val (.int xa), .val (.int xb), .val (.int xc), .val (.int xd), .val (.ref b238), .val (.ref b248), .val (.ref b291), .val (.int (1 : Int32)), .unset] [(.ref r324)]))
                refine own_go (fun _ kk => XS.astore X324.here hx rfl (hb hby at_381) rfl rfl (l' := #[.val (.int p0), .val (.int p1), .val (.int p2), .val (.int (3 : Int32)), .val (.int xa), .val (.int xb), .val (.int xc), .val (.int xd), .val (.ref b238), .val (.ref b248), .val (.ref b291), .val (.int (1 : Int32)), .val (.ref r324)]) rfl (XS.aload X324.here hx rfl (hb hby at_383) rfl rfl (XS.ifnullNo X324.here hx rfl (hb hby at_385) rfl (XS.aload X324.here hx rfl (hb hby at_388) rfl rfl (XS.aload X324.here hx rfl (hb hby at_390) rfl rfl (XT.acmpYes X324.here hx rfl (pc0 := 392) (pc' := 397) rfl (hb hby at_392) rfl rfl rfl (XT.aa_ne_t (fun q => ne324 (Value.ref.inj q))) (by decide) (by decide) (XS.aload X324.here hx rfl (hb hby at_397) rfl rfl kk))))))) ?_
                show own_Fin _ _ _ _ _ _ _ (T324.setTop (mkF m 399 #[.val (.int p0), .val (.int p1), .val (.int p2), .val (.int (3 : Int32)), .val (.int xa), .val (.int xb), .val (.int xc), .val (.int xd), .val (.ref b238), .val (.ref b248), .val (.ref b291), .val (.int (1 : Int32)), .val (.ref r324)] [(.ref b238)]))
                refine own_alen X324 hx hZ rfl f325 (hb hby at_399) ?_
                show own_Fin _ _ _ _ _ _ _ (T324.setTop (mkF m 400 #[.val (.int p0), .val (.int p1), .val (.int p2), .val (.int (3 : Int32)), .val (.int xa), .val (.int xb), .val (.int xc), .val (.int xd), .val (.ref b238), .val (.ref b248), .val (.ref b291), .val (.int (1 : Int32)), .val (.ref r324)] [(.int (3 : Int32))]))
                refine own_go (fun _ kk => XS.iloadN X324.here hx rfl (hb hby at_400) rfl (XS.icmpYes X324.here hx rfl (pc0 := 401) (pc' := 406) rfl (hb hby at_401) rfl (XT.ii_eq_t (by decide)) (by decide) (by decide) (XS.iloadN X324.here hx rfl (hb hby at_406) rfl (XS.ifNo X324.here hx rfl (hb hby at_407) rfl (XT.i0_le_f (by decide)) (XS.aload X324.here hx rfl (hb hby at_410) rfl rfl (XS.iconst X324.here hx rfl (hb hby at_412) kk)))))) ?_
                show own_Fin _ _ _ _ _ _ _ (T324.setTop (mkF m 413 #[.val (.int p0), .val (.int p1), .val (.int p2), .val (.int (3 : Int32)), .val (.int xa), .val (.int xb), .val (.int xc), .val (.int xd), .val (.ref b238), .val (.ref b248), .val (.ref b291), .val (.int (1 : Int32)), .val (.ref r324)] [(.int (0 : Int32)), (.ref b238)]))
                refine own_ldI X324 hx hZ rfl f325 (by decide) (by show (0 : Int32).toNatClampNeg < 3; decide) (hb hby at_413) ?_
                show own_Fin _ _ _ _ _ _ _ (T324.setTop (mkF m 414 #[.val (.int p0), .val (.int p1), .val (.int p2), .val (.int (3 : Int32)), .val (.int xa), .val (.int xb), .val (.int xc), .val (.int xd), .val (.ref b238), .val (.ref b248), .val (.ref b291), .val (.int (1 : Int32)), .val (.ref r324)] [(.int xa)]))
                refine own_go (fun _ kk => XS.iload X324.here hx rfl (hb hby at_414) rfl (XS.icmpYes X324.here hx rfl (pc0 := 416) (pc' := 421) rfl (hb hby at_416) rfl (XT.ii_eq_t rfl) (by decide) (by decide) (XS.iloadN X324.here hx rfl (hb hby at_421) rfl (XS.iconst X324.here hx rfl (hb hby at_422) (XS.icmpNo X324.here hx rfl (hb hby at_423) rfl (XT.ii_le_f (by decide)) (XS.aload X324.here hx rfl (hb hby at_426) rfl rfl (XS.iconst X324.here hx rfl (hb hby at_428) kk))))))) ?_
                show own_Fin _ _ _ _ _ _ _ (T324.setTop (mkF m 429 #[.val (.int p0), .val (.int p1), .val (.int p2), .val (.int (3 : Int32)), .val (.int xa), .val (.int xb), .val (.int xc), .val (.int xd), .val (.ref b238), .val (.ref b248), .val (.ref b291), .val (.int (1 : Int32)), .val (.ref r324)] [(.int (1 : Int32)), (.ref b238)]))
                refine own_ldI X324 hx hZ rfl f325 (by decide) (by show (1 : Int32).toNatClampNeg < 3; decide) (hb hby at_429) ?_
                show own_Fin _ _ _ _ _ _ _ (T324.setTop (mkF m 430 #[.val (.int p0), .val (.int p1), .val (.int p2), .val (.int (3 : Int32)), .val (.int xa), .val (.int xb), .val (.int xc), .val (.int xd), .val (.ref b238), .val (.ref b248), .val (.ref b291), .val (.int (1 : Int32)), .val (.ref r324)] [(.int xb)]))
                refine own_go (fun _ kk => XS.iload X324.here hx rfl (hb hby at_430) rfl (XS.icmpYes X324.here hx rfl (pc0 := 432) (pc' := 437) rfl (hb hby at_432) rfl (XT.ii_eq_t rfl) (by decide) (by decide) (XS.iloadN X324.here hx rfl (hb hby at_437) rfl (XS.iconst X324.here hx rfl (hb hby at_438) (XS.icmpNo X324.here hx rfl (hb hby at_439) rfl (XT.ii_le_f (by decide)) (XS.aload X324.here hx rfl (hb hby at_442) rfl rfl (XS.iconst X324.here hx rfl (hb hby at_444) kk))))))) ?_
                show own_Fin _ _ _ _ _ _ _ (T324.setTop (mkF m 445 #[.val (.int p0), .val (.int p1), .val (.int p2), .val (.int (3 : Int32)), .val (.int xa), .val (.int xb), .val (.int xc), .val (.int xd), .val (.ref b238), .val (.ref b248), .val (.ref b291), .val (.int (1 : Int32)), .val (.ref r324)] [(.int (2 : Int32)), (.ref b238)]))
                refine own_ldI X324 hx hZ rfl f325 (by decide) (by show (2 : Int32).toNatClampNeg < 3; decide) (hb hby at_445) ?_
                show own_Fin _ _ _ _ _ _ _ (T324.setTop (mkF m 446 #[.val (.int p0), .val (.int p1), .val (.int p2), .val (.int (3 : Int32)), .val (.int xa), .val (.int xb), .val (.int xc), .val (.int xd), .val (.ref b238), .val (.ref b248), .val (.ref b291), .val (.int (1 : Int32)), .val (.ref r324)] [(.int xc)]))
                refine own_go (fun _ kk => XS.iload X324.here hx rfl (hb hby at_446) rfl (XS.icmpYes X324.here hx rfl (pc0 := 448) (pc' := 453) rfl (hb hby at_448) rfl (XT.ii_eq_t rfl) (by decide) (by decide) (XS.iloadN X324.here hx rfl (hb hby at_453) rfl (XS.iconst X324.here hx rfl (hb hby at_454) (XS.icmpYes X324.here hx rfl (pc0 := 455) (pc' := 469) rfl (hb hby at_455) rfl (XT.ii_le_t (by decide)) (by decide) (by decide) (XS.aload X324.here hx rfl (hb hby at_469) rfl rfl kk)))))) ?_
                show own_Fin _ _ _ _ _ _ _ (T324.setTop (mkF m 471 #[.val (.int p0), .val (.int p1), .val (.int p2), .val (.int (3 : Int32)), .val (.int xa), .val (.int xb), .val (.int xc), .val (.int xd), .val (.ref b238), .val (.ref b248), .val (.ref b291), .val (.int (1 : Int32)), .val (.ref r324)] [(.ref r324)]))
                refine own_alen X324 hx hZ rfl F324 (hb hby at_471) ?_
                show own_Fin _ _ _ _ _ _ _ (T324.setTop (mkF m 472 #[.val (.int p0), .val (.int p1), .val (.int p2), .val (.int (3 : Int32)), .val (.int xa), .val (.int xb), .val (.int xc), .val (.int xd), .val (.ref b238), .val (.ref b248), .val (.ref b291), .val (.int (1 : Int32)), .val (.ref r324)] [(.int (1 : Int32))]))
                refine own_go (fun _ kk => XS.iload X324.here hx rfl (hb hby at_472) rfl (XS.icmpYes X324.here hx rfl (pc0 := 474) (pc' := 479) rfl (hb hby at_474) rfl (XT.ii_eq_t (by decide)) (by decide) (by decide) (XS.iload X324.here hx rfl (hb hby at_479) rfl (XS.ifNo X324.here hx rfl (hb hby at_481) rfl (XT.i0_le_f (by decide)) (XS.aload X324.here hx rfl (hb hby at_484) rfl rfl (XS.iconst X324.here hx rfl (hb hby at_486) kk)))))) ?_
                show own_Fin _ _ _ _ _ _ _ (T324.setTop (mkF m 487 #[.val (.int p0), .val (.int p1), .val (.int p2), .val (.int (3 : Int32)), .val (.int xa), .val (.int xb), .val (.int xc), .val (.int xd), .val (.ref b238), .val (.ref b248), .val (.ref b291), .val (.int (1 : Int32)), .val (.ref r324)] [(.int (0 : Int32)), (.ref r324)]))
                refine own_ldI X324 hx hZ rfl F324 (by decide) (by show (0 : Int32).toNatClampNeg < 1; decide) (hb hby at_487) ?_
                show own_Fin _ _ _ _ _ _ _ (T324.setTop (mkF m 488 #[.val (.int p0), .val (.int p1), .val (.int p2), .val (.int (3 : Int32)), .val (.int xa), .val (.int xb), .val (.int xc), .val (.int xd), .val (.ref b238), .val (.ref b248), .val (.ref b291), .val (.int (1 : Int32)), .val (.ref r324)] [(.int xb)]))
                refine own_go (fun _ kk => XS.aload X324.here hx rfl (hb hby at_488) rfl rfl (XS.iconst X324.here hx rfl (hb hby at_490) kk)) ?_
                show own_Fin _ _ _ _ _ _ _ (T324.setTop (mkF m 491 #[.val (.int p0), .val (.int p1), .val (.int p2), .val (.int (3 : Int32)), .val (.int xa), .val (.int xb), .val (.int xc), .val (.int xd), .val (.ref b238), .val (.ref b248), .val (.ref b291), .val (.int (1 : Int32)), .val (.ref r324)] [(.int (0 : Int32)), (.ref b291), (.int xb)]))
                refine own_ldI X324 hx hZ rfl f329 (by decide) (by show (0 : Int32).toNatClampNeg < 4; decide) (hb hby at_491) ?_
                show own_Fin _ _ _ _ _ _ _ (T324.setTop (mkF m 492 #[.val (.int p0), .val (.int p1), .val (.int p2), .val (.int (3 : Int32)), .val (.int xa), .val (.int xb), .val (.int xc), .val (.int xd), .val (.ref b238), .val (.ref b248), .val (.ref b291), .val (.int (1 : Int32)), .val (.ref r324)] [(.int xb), (.int xb)]))
                refine own_go (fun _ kk => XS.icmpYes X324.here hx rfl (pc0 := 492) (pc' := 497) rfl (hb hby at_492) rfl (XT.ii_eq_t rfl) (by decide) (by decide) (XS.iload X324.here hx rfl (hb hby at_497) rfl (XS.iconst X324.here hx rfl (hb hby at_499) (XS.icmpYes X324.here hx rfl (pc0 := 500) (pc' := 516) rfl (hb hby at_500) rfl (XT.ii_le_t (by decide)) (by decide) (by decide) (XS.iload X324.here hx rfl (hb hby at_516) rfl (XS.iconst X324.here hx rfl (hb hby at_518) (XS.icmpYes X324.here hx rfl (pc0 := 519) (pc' := 535) rfl (hb hby at_519) rfl (XT.ii_le_t (by decide)) (by decide) (by decide) (XS.iload X324.here hx rfl (hb hby at_535) rfl (XS.iconst X324.here hx rfl (hb hby at_537) (XS.icmpYes X324.here hx rfl (pc0 := 538) (pc' := 554) rfl (hb hby at_538) rfl (XT.ii_le_t (by decide)) (by decide) (by decide) kk)))))))))) ?_
                show own_Fin _ _ _ _ _ _ _ (T324.setTop (mkF m 554 #[.val (.int p0), .val (.int p1), .val (.int p2), .val (.int (3 : Int32)), .val (.int xa), .val (.int xb), .val (.int xc), .val (.int xd), .val (.ref b238), .val (.ref b248), .val (.ref b291), .val (.int (1 : Int32)), .val (.ref r324)] []))
                refine own_go (fun _ kk => XS.iconst X324.here hx rfl (hb hby at_554) kk) ?_
                show own_Fin _ _ _ _ _ _ _ (T324.setTop (mkF m 555 #[.val (.int p0), .val (.int p1), .val (.int p2), .val (.int (3 : Int32)), .val (.int xa), .val (.int xb), .val (.int xc), .val (.int xd), .val (.ref b238), .val (.ref b248), .val (.ref b291), .val (.int (1 : Int32)), .val (.ref r324)] [(.int (1 : Int32))]))
                exact own_retZ X324 hx hlk hret rfl (hb hby at_555) (by decide) (by decide) ⟨rfl, N324⟩
              · refine own_go (fun _ kk => XS.ifNo X317.here hx rfl (hb hby at_338) rfl (XT.i0_eq_f hc338) (XS.aload X317.here hx rfl (hb hby at_341) rfl rfl (XS.iload X317.here hx rfl (hb hby at_343) rfl (XS.iload X317.here hx rfl (hb hby at_345) rfl kk)))) ?_
                show own_Fin _ _ _ _ _ _ _ (T317.setTop (mkF m 347 #[.val (.int p0), .val (.int p1), .val (.int p2), .val (.int (3 : Int32)), .val (.int xa), .val (.int xb), .val (.int xc), .val (.int xd), .val (.ref b238), .val (.ref b248), .val (.ref b291), .val (.int (1 : Int32)), .unset] [(.int xc), (.int (1 : Int32)), (.ref b291)]))
                refine own_stI X317 hx hZ e317 A317 (by decide) (by show (1 : Int32).toNatClampNeg < 4; decide) (hb hby at_347) ?_
                intro T331 h331 X331 e331 W331 A331
                have f332 := f318.other W331 ne_b238_b291
                have f333 := f319.wr W331
                have f334 := f320.other W331 ne_b248_b291
                have f335 := f321.wr W331
                have f337 := f323.wr W331
                have Z331 := Nat.le_trans Z317 (Keep.of_wr W331).1
                have A331 : own_Ar Z h331 b291 .int (List.map Value.int [xb, xc, (0 : Int32), (0 : Int32)]) := A331
                have N331 := Fr.snoc X331 N317 g_b291
                show own_Fin _ _ _ _ _ _ _ (T331.setTop (mkF m 348 #[.val (.int p0), .val (.int p1), .val (.int p2), .val (.int (3 : Int32)), .val (.int xa), .val (.int xb), .val (.int xc), .val (.int xd), .val (.ref b238), .val (.ref b248), .val (.ref b291), .val (.int (1 : Int32)), .unset] []))
                refine own_go (fun _ kk => XS.iinc X331.here hx rfl (hb hby at_348) rfl (l' := #[.val (.int p0), .val (.int p1), .val (.int p2), .val (.int (3 : Int32)), .val (.int xa), .val (.int xb), .val (.int xc), .val (.int xd), .val (.ref b238), .val (.ref b248), .val (.ref b291), .val (.int (2 : Int32)), .unset]) rfl (XS.iloadN X331.here hx rfl (hb hby at_351) rfl (XS.iconst X331.here hx rfl (hb hby at_352) (XS.icmpYes X331.here hx rfl (pc0 := 353) (pc' := 374) rfl (hb hby at_353) rfl (XT.ii_le_t (by decide)) (by decide) (by decide) (XS.aload X331.here hx rfl (hb hby at_374) rfl rfl (XS.aload X331.here hx rfl (hb hby at_376) rfl rfl kk)))))) ?_
                show own_Fin _ _ _ _ _ _ _ (T331.setTop (mkF m 378 #[.val (.int p0), .val (.int p1), .val (.int p2), .val (.int (3 : Int32)), .val (.int xa), .val (.int xb), .val (.int xc), .val (.int xd), .val (.ref b238), .val (.ref b248), .val (.ref b291), .val (.int (2 : Int32)), .unset] [(.ref b248), (.ref b238)]))
                refine own_callS X331 hx hZ hown (hw _ (List.mem_of_getElem? (i := 7) rfl)) (hw _ (List.mem_of_getElem? (i := 8) rfl)) (hw _ (List.mem_of_getElem? (i := 9) rfl)) (hw _ (List.mem_of_getElem? (i := 10) rfl)) (by decide) (rm2 l Z a0 hw b238 b248 h331 n0 Z331 [xa, xb, xc] bs f332 f334 (by show 3 ≤ 4; decide) (List.forall_mem_cons.mpr ⟨sa, (List.forall_mem_cons.mpr ⟨sb, (List.forall_mem_cons.mpr ⟨sc, (fun x h => nomatch h)⟩)⟩)⟩)) e331 (argsL := [(.ref b238), (.ref b248)]) (rest := []) rfl rfl (by rw [hml]; rfl) (lenOf pd_0_1 rfl) (hb hby at_378) (W := 0) (Nat.le_of_eq rfl) (by decide) (by decide) (by decide) (by decide) ?_
                rintro v338 T338 L338 X338 ⟨r338, rfl, M338, Kc338, sz338, A338⟩
                have N338 := Fr.app N331 M338
                have ne338 : r338 ≠ b238 := Nat.ne_of_gt (Nat.lt_of_lt_of_le f332.lt sz338)
                have f339 := f332.keep Kc338 nin0
                have f340 := f333.keep Kc338
                have f341 := f334.keep Kc338 nin0
                have f342 := f335.keep Kc338
                have f343 := A331.keep Kc338 nin0
                have f344 := f337.keep Kc338
                have Z338 := Nat.le_trans Z331 Kc338.1
                have F338 : own_Ar Z T338.heap r338 .int (List.map Value.int [xb, xc]) := by
                  rw [List.filter_cons_of_neg (by rw [show own_mk bs xa = false from decide_eq_false (fun q => q hc292)]; decide), List.filter_cons_of_pos (show own_mk bs xb = true from decide_eq_true hc315), List.filter_cons_of_pos (show own_mk bs xc = true from decide_eq_true hc338), List.filter_nil] at A338
                  exact A338
                show own_Fin _ _ _ _ _ _ _ (T338.setTop (mkF m 381 #[.val (.int p0), .val (.int p1), .val (.int p2), .val (.int (3 : Int32)), .val (.int xa), .val (.int xb), .val (.int xc), .val (.int xd), .val (.ref b238), .val (.ref b248), .val (.ref b291), .val (.int (2 : Int32)), .unset] [(.ref r338)]))
                refine own_go (fun _ kk => XS.astore X338.here hx rfl (hb hby at_381) rfl rfl (l' := #[.val (.int p0), .val (.int p1), .val (.int p2), .val (.int (3 : Int32)), .val (.int xa), .val (.int xb), .val (.int xc), .val (.int xd), .val (.ref b238), .val (.ref b248), .val (.ref b291), .val (.int (2 : Int32)), .val (.ref r338)]) rfl (XS.aload X338.here hx rfl (hb hby at_383) rfl rfl (XS.ifnullNo X338.here hx rfl (hb hby at_385) rfl (XS.aload X338.here hx rfl (hb hby at_388) rfl rfl (XS.aload X338.here hx rfl (hb hby at_390) rfl rfl (XT.acmpYes X338.here hx rfl (pc0 := 392) (pc' := 397) rfl (hb hby at_392) rfl rfl rfl (XT.aa_ne_t (fun q => ne338 (Value.ref.inj q))) (by decide) (by decide) (XS.aload X338.here hx rfl (hb hby at_397) rfl rfl kk))))))) ?_
                show own_Fin _ _ _ _ _ _ _ (T338.setTop (mkF m 399 #[.val (.int p0), .val (.int p1), .val (.int p2), .val (.int (3 : Int32)), .val (.int xa), .val (.int xb), .val (.int xc), .val (.int xd), .val (.ref b238), .val (.ref b248), .val (.ref b291), .val (.int (2 : Int32)), .val (.ref r338)] [(.ref b238)]))
                refine own_alen X338 hx hZ rfl f339 (hb hby at_399) ?_
                show own_Fin _ _ _ _ _ _ _ (T338.setTop (mkF m 400 #[.val (.int p0), .val (.int p1), .val (.int p2), .val (.int (3 : Int32)), .val (.int xa), .val (.int xb), .val (.int xc), .val (.int xd), .val (.ref b238), .val (.ref b248), .val (.ref b291), .val (.int (2 : Int32)), .val (.ref r338)] [(.int (3 : Int32))]))
                refine own_go (fun _ kk => XS.iloadN X338.here hx rfl (hb hby at_400) rfl (XS.icmpYes X338.here hx rfl (pc0 := 401) (pc' := 406) rfl (hb hby at_401) rfl (XT.ii_eq_t (by decide)) (by decide) (by decide) (XS.iloadN X338.here hx rfl (hb hby at_406) rfl (XS.ifNo X338.here hx rfl (hb hby at_407) rfl (XT.i0_le_f (by decide)) (XS.aload X338.here hx rfl (hb hby at_410) rfl rfl (XS.iconst X338.here hx rfl (hb hby at_412) kk)))))) ?_
                show own_Fin _ _ _ _ _ _ _ (T338.setTop (mkF m 413 #[.val (.int p0), .val (.int p1), .val (.int p2), .val (.int (3 : Int32)), .val (.int xa), .val (.int xb), .val (.int xc), .val (.int xd), .val (.ref b238), .val (.ref b248), .val (.ref b291), .val (.int (2 : Int32)), .val (.ref r338)] [(.int (0 : Int32)), (.ref b238)]))
                refine own_ldI X338 hx hZ rfl f339 (by decide) (by show (0 : Int32).toNatClampNeg < 3; decide) (hb hby at_413) ?_
                show own_Fin _ _ _ _ _ _ _ (T338.setTop (mkF m 414 #[.val (.int p0), .val (.int p1), .val (.int p2), .val (.int (3 : Int32)), .val (.int xa), .val (.int xb), .val (.int xc), .val (.int xd), .val (.ref b238), .val (.ref b248), .val (.ref b291), .val (.int (2 : Int32)), .val (.ref r338)] [(.int xa)]))
                refine own_go (fun _ kk => XS.iload X338.here hx rfl (hb hby at_414) rfl (XS.icmpYes X338.here hx rfl (pc0 := 416) (pc' := 421) rfl (hb hby at_416) rfl (XT.ii_eq_t rfl) (by decide) (by decide) (XS.iloadN X338.here hx rfl (hb hby at_421) rfl (XS.iconst X338.here hx rfl (hb hby at_422) (XS.icmpNo X338.here hx rfl (hb hby at_423) rfl (XT.ii_le_f (by decide)) (XS.aload X338.here hx rfl (hb hby at_426) rfl rfl (XS.iconst X338.here hx rfl (hb hby at_428) kk))))))) ?_
                show own_Fin _ _ _ _ _ _ _ (T338.setTop (mkF m 429 #[.val (.int p0), .val (.int p1), .val (.int p2), .val (.int (3 : Int32)), .val (.int xa), .val (.int xb), .val (.int xc), .val (.int xd), .val (.ref b238), .val (.ref b248), .val (.ref b291), .val (.int (2 : Int32)), .val (.ref r338)] [(.int (1 : Int32)), (.ref b238)]))
                refine own_ldI X338 hx hZ rfl f339 (by decide) (by show (1 : Int32).toNatClampNeg < 3; decide) (hb hby at_429) ?_
                show own_Fin _ _ _ _ _ _ _ (T338.setTop (mkF m 430 #[.val (.int p0), .val (.int p1), .val (.int p2), .val (.int (3 : Int32)), .val (.int xa), .val (.int xb), .val (.int xc), .val (.int xd), .val (.ref b238), .val (.ref b248), .val (.ref b291), .val (.int (2 : Int32)), .val (.ref r338)] [(.int xb)]))
                refine own_go (fun _ kk => XS.iload X338.here hx rfl (hb hby at_430) rfl (XS.icmpYes X338.here hx rfl (pc0 := 432) (pc' := 437) rfl (hb hby at_432) rfl (XT.ii_eq_t rfl) (by decide) (by decide) (XS.iloadN X338.here hx rfl (hb hby at_437) rfl (XS.iconst X338.here hx rfl (hb hby at_438) (XS.icmpNo X338.here hx rfl (hb hby at_439) rfl (XT.ii_le_f (by decide)) (XS.aload X338.here hx rfl (hb hby at_442) rfl rfl (XS.iconst X338.here hx rfl (hb hby at_444) kk))))))) ?_
                show own_Fin _ _ _ _ _ _ _ (T338.setTop (mkF m 445 #[.val (.int p0), .val (.int p1), .val (.int p2), .val (.int (3 : Int32)), .val (.int xa), .val (.int xb), .val (.int xc), .val (.int xd), .val (.ref b238), .val (.ref b248), .val (.ref b291), .val (.int (2 : Int32)), .val (.ref r338)] [(.int (2 : Int32)), (.ref b238)]))
                refine own_ldI X338 hx hZ rfl f339 (by decide) (by show (2 : Int32).toNatClampNeg < 3; decide) (hb hby at_445) ?_
                show own_Fin _ _ _ _ _ _ _ (T338.setTop (mkF m 446 #[.val (.int p0), .val (.int p1), .val (.int p2), .val (.int (3 : Int32)), .val (.int xa), .val (.int xb), .val (.int xc), .val (.int xd), .val (.ref b238), .val (.ref b248), .val (.ref b291), .val (.int (2 : Int32)), .val (.ref r338)] [(.int xc)]))
                refine own_go (fun _ kk => XS.iload X338.here hx rfl (hb hby at_446) rfl (XS.icmpYes X338.here hx rfl (pc0 := 448) (pc' := 453) rfl (hb hby at_448) rfl (XT.ii_eq_t rfl) (by decide) (by decide) (XS.iloadN X338.here hx rfl (hb hby at_453) rfl (XS.iconst X338.here hx rfl (hb hby at_454) (XS.icmpYes X338.here hx rfl (pc0 := 455) (pc' := 469) rfl (hb hby at_455) rfl (XT.ii_le_t (by decide)) (by decide) (by decide) (XS.aload X338.here hx rfl (hb hby at_469) rfl rfl kk)))))) ?_
                show own_Fin _ _ _ _ _ _ _ (T338.setTop (mkF m 471 #[.val (.int p0), .val (.int p1), .val (.int p2), .val (.int (3 : Int32)), .val (.int xa), .val (.int xb), .val (.int xc), .val (.int xd), .val (.ref b238), .val (.ref b248), .val (.ref b291), .val (.int (2 : Int32)), .val (.ref r338)] [(.ref r338)]))
                refine own_alen X338 hx hZ rfl F338 (hb hby at_471) ?_
                show own_Fin _ _ _ _ _ _ _ (T338.setTop (mkF m 472 #[.val (.int p0), .val (.int p1), .val (.int p2), .val (.int (3 : Int32)), .val (.int xa), .val (.int xb), .val (.int xc), .val (.int xd), .val (.ref b238), .val (.ref b248), .val (.ref b291), .val (.int (2 : Int32)), .val (.ref r338)] [(.int (2 : Int32))]))
                refine own_go (fun _ kk => XS.iload X338.here hx rfl (hb hby at_472) rfl (XS.icmpYes X338.here hx rfl (pc0 := 474) (pc' := 479) rfl (hb hby at_474) rfl (XT.ii_eq_t (by decide)) (by decide) (by decide) (XS.iload X338.here hx rfl (hb hby at_479) rfl (XS.ifNo X338.here hx rfl (hb hby at_481) rfl (XT.i0_le_f (by decide)) (XS.aload X338.here hx rfl (hb hby at_484) rfl rfl (XS.iconst X338.here hx rfl (hb hby at_486) kk)))))) ?_
                show own_Fin _ _ _ _ _ _ _ (T338.setTop (mkF m 487 #[.val (.int p0), .val (.int p1), .val (.int p2), .val (.int (3 : Int32)), .val (.int xa), .val (.int xb), .val (.int xc), .val (.int xd), .val (.ref b238), .val (.ref b248), .val (.ref b291), .val (.int (2 : Int32)), .val (.ref r338)] [(.int (0 : Int32)), (.ref r338)]))
                refine own_ldI X338 hx hZ rfl F338 (by decide) (by show (0 : Int32).toNatClampNeg < 2; decide) (hb hby at_487) ?_
                show own_Fin _ _ _ _ _ _ _ (T338.setTop (mkF m 488 #[.val (.int p0), .val (.int p1), .val (.int p2), .val (.int (3 : Int32)), .val (.int xa), .val (.int xb), .val (.int xc), .val (.int xd), .val (.ref b238), .val (.ref b248), .val (.ref b291), .val (.int (2 : Int32)), .val (.ref r338)] [(.int xb)]))
                refine own_go (fun _ kk => XS.aload X338.here hx rfl (hb hby at_488) rfl rfl (XS.iconst X338.here hx rfl (hb hby at_490) kk)) ?_
                show own_Fin _ _ _ _ _ _ _ (T338.setTop (mkF m 491 #[.val (.int p0), .val (.int p1), .val (.int p2), .val (.int (3 : Int32)), .val (.int xa), .val (.int xb), .val (.int xc), .val (.int xd), .val (.ref b238), .val (.ref b248), .val (.ref b291), .val (.int (2 : Int32)), .val (.ref r338)] [(.int (0 : Int32)), (.ref b291), (.int xb)]))
                refine own_ldI X338 hx hZ rfl f343 (by decide) (by show (0 : Int32).toNatClampNeg < 4; decide) (hb hby at_491) ?_
                show own_Fin _ _ _ _ _ _ _ (T338.setTop (mkF m 492 #[.val (.int p0), .val (.int p1), .val (.int p2), .val (.int (3 : Int32)), .val (.int xa), .val (.int xb), .val (.int xc), .val (.int xd), .val (.ref b238), .val (.ref b248), .val (.ref b291), .val (.int (2 : Int32)), .val (.ref r338)] [(.int xb), (.int xb)]))
                refine own_go (fun _ kk => XS.icmpYes X338.here hx rfl (pc0 := 492) (pc' := 497) rfl (hb hby at_492) rfl (XT.ii_eq_t rfl) (by decide) (by decide) (XS.iload X338.here hx rfl (hb hby at_497) rfl (XS.iconst X338.here hx rfl (hb hby at_499) (XS.icmpNo X338.here hx rfl (hb hby at_500) rfl (XT.ii_le_f (by decide)) (XS.aload X338.here hx rfl (hb hby at_503) rfl rfl (XS.iconst X338.here hx rfl (hb hby at_505) kk)))))) ?_
                show own_Fin _ _ _ _ _ _ _ (T338.setTop (mkF m 506 #[.val (.int p0), .val (.int p1), .val (.int p2), .val (.int (3 : Int32)), .val (.int xa), .val (.int xb), .val (.int xc), .val (.int xd), .val (.ref b238), .val (.ref b248), .val (.ref b291), .val (.int (2 : Int32)), .val (.ref r338)] [(.int (1 : Int32)), (.ref r338)]))
                refine own_ldI X338 hx hZ rfl F338 (by decide) (by show (1 : Int32).toNatClampNeg < 2; decide) (hb hby at_506) ?_
                show own_Fin _ _ _ _ _ _ _ (T338.setTop (mkF m 507 #[.val (.int p0), .val (.int p1), .val (.int p2), .val (.int (3 : Int32)), .val (.int xa), .val (.int xb), .val (.int xc), .val (.int xd), .val (.ref b238), .val (.ref b248), .val (.ref b291), .val (.int (2 : Int32)), .val (.ref r338)] [(.int xc)]))
                refine own_go (fun _ kk => XS.aload X338.here hx rfl (hb hby at_507) rfl rfl (XS.iconst X338.here hx rfl (hb hby at_509) kk)) ?_
                show own_Fin _ _ _ _ _ _ _ (T338.setTop (mkF m 510 #[.val (.int p0), .val (.int p1), .val (.int p2), .val (.int (3 : Int32)), .val (.int xa), .val (.int xb), .val (.int xc), .val (.int xd), .val (.ref b238), .val (.ref b248), .val (.ref b291), .val (.int (2 : Int32)), .val (.ref r338)] [(.int (1 : Int32)), (.ref b291), (.int xc)]))
                refine own_ldI X338 hx hZ rfl f343 (by decide) (by show (1 : Int32).toNatClampNeg < 4; decide) (hb hby at_510) ?_
                show own_Fin _ _ _ _ _ _ _ (T338.setTop (mkF m 511 #[.val (.int p0), .val (.int p1), .val (.int p2), .val (.int (3 : Int32)), .val (.int xa), .val (.int xb), .val (.int xc), .val (.int xd), .val (.ref b238), .val (.ref b248), .val (.ref b291), .val (.int (2 : Int32)), .val (.ref r338)] [(.int xc), (.int xc)]))
                refine own_go (fun _ kk => XS.icmpYes X338.here hx rfl (pc0 := 511) (pc' := 516) rfl (hb hby at_511) rfl (XT.ii_eq_t rfl) (by decide) (by decide) (XS.iload X338.here hx rfl (hb hby at_516) rfl (XS.iconst X338.here hx rfl (hb hby at_518) (XS.icmpYes X338.here hx rfl (pc0 := 519) (pc' := 535) rfl (hb hby at_519) rfl (XT.ii_le_t (by decide)) (by decide) (by decide) (XS.iload X338.here hx rfl (hb hby at_535) rfl (XS.iconst X338.here hx rfl (hb hby at_537) (XS.icmpYes X338.here hx rfl (pc0 := 538) (pc' := 554) rfl (hb hby at_538) rfl (XT.ii_le_t (by decide)) (by decide) (by decide) (XS.iconst X338.here hx rfl (hb hby at_554) kk)))))))) ?_
                show own_Fin _ _ _ _ _ _ _ (T338.setTop (mkF m 555 #[.val (.int p0), .val (.int p1), .val (.int p2), .val (.int (3 : Int32)), .val (.int xa), .val (.int xb), .val (.int xc), .val (.int xd), .val (.ref b238), .val (.ref b248), .val (.ref b291), .val (.int (2 : Int32)), .val (.ref r338)] [(.int (1 : Int32))]))
                exact own_retZ X338 hx hlk hret rfl (hb hby at_555) (by decide) (by decide) ⟨rfl, N338⟩
          · refine own_go (fun _ kk => XS.ifNo X291.here hx rfl (hb hby at_292) rfl (XT.i0_eq_f hc292) (XS.aload X291.here hx rfl (hb hby at_295) rfl rfl (XS.iload X291.here hx rfl (hb hby at_297) rfl (XS.iload X291.here hx rfl (hb hby at_299) rfl kk)))) ?_
            show own_Fin _ _ _ _ _ _ _ (T291.setTop (mkF m 301 #[.val (.int p0), .val (.int p1), .val (.int p2), .val (.int (3 : Int32)), .val (.int xa), .val (.int xb), .val (.int xc), .val (.int xd), .val (.ref b238), .val (.ref b248), .val (.ref b291), .val (.int (0 : Int32)), .unset] [(.int xa), (.int (0 : Int32)), (.ref b291)]))
            refine own_stI X291 hx hZ e291 A291 (by decide) (by show (0 : Int32).toNatClampNeg < 4; decide) (hb hby at_301) ?_
            intro T345 h345 X345 e345 W345 A345
            have f346 := f292.other W345 ne_b238_b291
            have f347 := f293.wr W345
            have f348 := f294.other W345 ne_b248_b291
            have f349 := f295.wr W345
            have f351 := D291.wr W345
            have Z345 := Nat.le_trans Z291 (Keep.of_wr W345).1
            have A345 : own_Ar Z h345 b291 .int (List.map Value.int [xa, (0 : Int32), (0 : Int32), (0 : Int32)]) := A345
            have N345 := Fr.snoc X345 N286 g_b291
            show own_Fin _ _ _ _ _ _ _ (T345.setTop (mkF m 302 #[.val (.int p0), .val (.int p1), .val (.int p2), .val (.int (3 : Int32)), .val (.int xa), .val (.int xb), .val (.int xc), .val (.int xd), .val (.ref b238), .val (.ref b248), .val (.ref b291), .val (.int (0 : Int32)), .unset] []))
            refine own_go (fun _ kk => XS.iinc X345.here hx rfl (hb hby at_302) rfl (l' := #[.val (.int p0), .val (.int p1), .val (.int p2), .val (.int (3 : Int32)), .val (.int xa), .val (.int xb), .val (.int xc), .val (.int xd), .val (.ref b238), .val (.ref b248), .val (.ref b291), .val (.int (1 : Int32)), .unset]) rfl (XS.iloadN X345.here hx rfl (hb hby at_305) rfl (XS.iconst X345.here hx rfl (hb hby at_306) (XS.icmpNo X345.here hx rfl (hb hby at_307) rfl (XT.ii_le_f (by decide)) (XS.aload X345.here hx rfl (hb hby at_310) rfl rfl (XS.iload X345.here hx rfl (hb hby at_312) rfl kk)))))) ?_
            show own_Fin _ _ _ _ _ _ _ (T345.setTop (mkF m 314 #[.val (.int p0), .val (.int p1), .val (.int p2), .val (.int (3 : Int32)), .val (.int xa), .val (.int xb), .val (.int xc), .val (.int xd), .val (.ref b238), .val (.ref b248), .val (.ref b291), .val (.int (1 : Int32)), .unset] [(.int xb), (.ref b248)]))
            refine own_ldZ X345 hx hZ e345 f348 sb.1 sb.2 (hb hby at_314) ?_
            show own_Fin _ _ _ _ _ _ _ (T345.setTop (mkF m 315 #[.val (.int p0), .val (.int p1), .val (.int p2), .val (.int (3 : Int32)), .val (.int xa), .val (.int xb), .val (.int xc), .val (.int xd), .val (.ref b238), .val (.ref b248), .val (.ref b291), .val (.int (1 : Int32)), .unset] [(.int (List.getD bs (xb).toNatClampNeg 0))]))
            by_cases hc315 : (List.getD bs (xb).toNatClampNeg 0) = 0
            · refine own_go (fun _ kk => XS.ifYes X345.here hx rfl (pc0 := 315) (pc' := 328) rfl (hb hby at_315) rfl (XT.i0_eq_t hc315) (by decide) (by decide) (XS.iloadN X345.here hx rfl (hb hby at_328) rfl (XS.iconst X345.here hx rfl (hb hby at_329) (XS.icmpNo X345.here hx rfl (hb hby at_330) rfl (XT.ii_le_f (by decide)) (XS.aload X345.here hx rfl (hb hby at_333) rfl rfl (XS.iload X345.here hx rfl (hb hby at_335) rfl kk)))))) ?_
              show own_Fin _ _ _ _ _ _ _ (T345.setTop (mkF m 337 #[.val (.int p0), .val (.int p1), .val (.int p2), .val (.int (3 : Int32)), .val (.int xa), .val (.int xb), .val (.int xc), .val (.int xd), .val (.ref b238), .val (.ref b248), .val (.ref b291), .val (.int (1 : Int32)), .unset] [(.int xc), (.ref b248)]))
              refine own_ldZ X345 hx hZ e345 f348 sc.1 sc.2 (hb hby at_337) ?_
              show own_Fin _ _ _ _ _ _ _ (T345.setTop (mkF m 338 #[.val (.int p0), .val (.int p1), .val (.int p2), .val (.int (3 : Int32)), .val (.int xa), .val (.int xb), .val (.int xc), .val (.int xd), .val (.ref b238), .val (.ref b248), .val (.ref b291), .val (.int (1 : Int32)), .unset] [(.int (List.getD bs (xc).toNatClampNeg 0))]))
              by_cases hc338 : (List.getD bs (xc).toNatClampNeg 0) = 0
              · refine own_go (fun _ kk => XS.ifYes X345.here hx rfl (pc0 := 338) (pc' := 351) rfl (hb hby at_338) rfl (XT.i0_eq_t hc338) (by decide) (by decide) (XS.iloadN X345.here hx rfl (hb hby at_351) rfl (XS.iconst X345.here hx rfl (hb hby at_352) (XS.icmpYes X345.here hx rfl (pc0 := 353) (pc' := 374) rfl (hb hby at_353) rfl (XT.ii_le_t (by decide)) (by decide) (by decide) (XS.aload X345.here hx rfl (hb hby at_374) rfl rfl (XS.aload X345.here hx rfl (hb hby at_376) rfl rfl kk)))))) ?_
                show own_Fin _ _ _ _ _ _ _ (T345.setTop (mkF m 378 #[.val (.int p0), .val (.int p1), .val (.int p2), .val (.int (3 : Int32)), .val (.int xa), .val (.int xb), .val (.int xc), .val (.int xd), .val (.ref b238), .val (.ref b248), .val (.ref b291), .val (.int (1 : Int32)), .unset] [(.ref b248), (.ref b238)]))
                refine own_callS X345 hx hZ hown (hw _ (List.mem_of_getElem? (i := 7) rfl)) (hw _ (List.mem_of_getElem? (i := 8) rfl)) (hw _ (List.mem_of_getElem? (i := 9) rfl)) (hw _ (List.mem_of_getElem? (i := 10) rfl)) (by decide) (rm2 l Z a0 hw b238 b248 h345 n0 Z345 [xa, xb, xc] bs f346 f348 (by show 3 ≤ 4; decide) (List.forall_mem_cons.mpr ⟨sa, (List.forall_mem_cons.mpr ⟨sb, (List.forall_mem_cons.mpr ⟨sc, (fun x h => nomatch h)⟩)⟩)⟩)) e345 (argsL := [(.ref b238), (.ref b248)]) (rest := []) rfl rfl (by rw [hml]; rfl) (lenOf pd_0_1 rfl) (hb hby at_378) (W := 0) (Nat.le_of_eq rfl) (by decide) (by decide) (by decide) (by decide) ?_
                rintro v352 T352 L352 X352 ⟨r352, rfl, M352, Kc352, sz352, A352⟩
                have N352 := Fr.app N345 M352
                have ne352 : r352 ≠ b238 := Nat.ne_of_gt (Nat.lt_of_lt_of_le f346.lt sz352)
                have f353 := f346.keep Kc352 nin0
                have f354 := f347.keep Kc352
                have f355 := f348.keep Kc352 nin0
                have f356 := f349.keep Kc352
                have f357 := A345.keep Kc352 nin0
                have f358 := f351.keep Kc352
                have Z352 := Nat.le_trans Z345 Kc352.1
                have F352 : own_Ar Z T352.heap r352 .int (List.map Value.int [xa]) := by
                  rw [List.filter_cons_of_pos (show own_mk bs xa = true from decide_eq_true hc292), List.filter_cons_of_neg (by rw [show own_mk bs xb = false from decide_eq_false (fun q => q hc315)]; decide), List.filter_cons_of_neg (by rw [show own_mk bs xc = false from decide_eq_false (fun q => q hc338)]; decide), List.filter_nil] at A352
                  exact A352
                show own_Fin _ _ _ _ _ _ _ (T352.setTop (mkF m 381 #[.val (.int p0), .val (.int p1), .val (.int p2), .val (.int (3 : Int32)), .val (.int xa), .val (.int xb), .val (.int xc), .val (.int xd), .val (.ref b238), .val (.ref b248), .val (.ref b291), .val (.int (1 : Int32)), .unset] [(.ref r352)]))
                refine own_go (fun _ kk => XS.astore X352.here hx rfl (hb hby at_381) rfl rfl (l' := #[.val (.int p0), .val (.int p1), .val (.int p2), .val (.int (3 : Int32)), .val (.int xa), .val (.int xb), .val (.int xc), .val (.int xd), .val (.ref b238), .val (.ref b248), .val (.ref b291), .val (.int (1 : Int32)), .val (.ref r352)]) rfl (XS.aload X352.here hx rfl (hb hby at_383) rfl rfl (XS.ifnullNo X352.here hx rfl (hb hby at_385) rfl (XS.aload X352.here hx rfl (hb hby at_388) rfl rfl (XS.aload X352.here hx rfl (hb hby at_390) rfl rfl (XT.acmpYes X352.here hx rfl (pc0 := 392) (pc' := 397) rfl (hb hby at_392) rfl rfl rfl (XT.aa_ne_t (fun q => ne352 (Value.ref.inj q))) (by decide) (by decide) (XS.aload X352.here hx rfl (hb hby at_397) rfl rfl kk))))))) ?_
                show own_Fin _ _ _ _ _ _ _ (T352.setTop (mkF m 399 #[.val (.int p0), .val (.int p1), .val (.int p2), .val (.int (3 : Int32)), .val (.int xa), .val (.int xb), .val (.int xc), .val (.int xd), .val (.ref b238), .val (.ref b248), .val (.ref b291), .val (.int (1 : Int32)), .val (.ref r352)] [(.ref b238)]))
                refine own_alen X352 hx hZ rfl f353 (hb hby at_399) ?_
                show own_Fin _ _ _ _ _ _ _ (T352.setTop (mkF m 400 #[.val (.int p0), .val (.int p1), .val (.int p2), .val (.int (3 : Int32)), .val (.int xa), .val (.int xb), .val (.int xc), .val (.int xd), .val (.ref b238), .val (.ref b248), .val (.ref b291), .val (.int (1 : Int32)), .val (.ref r352)] [(.int (3 : Int32))]))
                refine own_go (fun _ kk => XS.iloadN X352.here hx rfl (hb hby at_400) rfl (XS.icmpYes X352.here hx rfl (pc0 := 401) (pc' := 406) rfl (hb hby at_401) rfl (XT.ii_eq_t (by decide)) (by decide) (by decide) (XS.iloadN X352.here hx rfl (hb hby at_406) rfl (XS.ifNo X352.here hx rfl (hb hby at_407) rfl (XT.i0_le_f (by decide)) (XS.aload X352.here hx rfl (hb hby at_410) rfl rfl (XS.iconst X352.here hx rfl (hb hby at_412) kk)))))) ?_
                show own_Fin _ _ _ _ _ _ _ (T352.setTop (mkF m 413 #[.val (.int p0), .val (.int p1), .val (.int p2), .val (.int (3 : Int32)), .val (.int xa), .val (.int xb), .val (.int xc), .val (.int xd), .val (.ref b238), .val (.ref b248), .val (.ref b291), .val (.int (1 : Int32)), .val (.ref r352)] [(.int (0 : Int32)), (.ref b238)]))
                refine own_ldI X352 hx hZ rfl f353 (by decide) (by show (0 : Int32).toNatClampNeg < 3; decide) (hb hby at_413) ?_
                show own_Fin _ _ _ _ _ _ _ (T352.setTop (mkF m 414 #[.val (.int p0), .val (.int p1), .val (.int p2), .val (.int (3 : Int32)), .val (.int xa), .val (.int xb), .val (.int xc), .val (.int xd), .val (.ref b238), .val (.ref b248), .val (.ref b291), .val (.int (1 : Int32)), .val (.ref r352)] [(.int xa)]))
                refine own_go (fun _ kk => XS.iload X352.here hx rfl (hb hby at_414) rfl (XS.icmpYes X352.here hx rfl (pc0 := 416) (pc' := 421) rfl (hb hby at_416) rfl (XT.ii_eq_t rfl) (by decide) (by decide) (XS.iloadN X352.here hx rfl (hb hby at_421) rfl (XS.iconst X352.here hx rfl (hb hby at_422) (XS.icmpNo X352.here hx rfl (hb hby at_423) rfl (XT.ii_le_f (by decide)) (XS.aload X352.here hx rfl (hb hby at_426) rfl rfl (XS.iconst X352.here hx rfl (hb hby at_428) kk))))))) ?_
                show own_Fin _ _ _ _ _ _ _ (T352.setTop (mkF m 429 #[.val (.int p0), .val (.int p1), .val (.int p2), .val (.int (3 : Int32)), .val (.int xa), .val (.int xb), .val (.int xc), .val (.int xd), .val (.ref b238), .val (.ref b248), .val (.ref b291), .val (.int (1 : Int32)), .val (.ref r352)] [(.int (1 : Int32)), (.ref b238)]))
                refine own_ldI X352 hx hZ rfl f353 (by decide) (by show (1 : Int32).toNatClampNeg < 3; decide) (hb hby at_429) ?_
                show own_Fin _ _ _ _ _ _ _ (T352.setTop (mkF m 430 #[.val (.int p0), .val (.int p1), .val (.int p2), .val (.int (3 : Int32)), .val (.int xa), .val (.int xb), .val (.int xc), .val (.int xd), .val (.ref b238), .val (.ref b248), .val (.ref b291), .val (.int (1 : Int32)), .val (.ref r352)] [(.int xb)]))
                refine own_go (fun _ kk => XS.iload X352.here hx rfl (hb hby at_430) rfl (XS.icmpYes X352.here hx rfl (pc0 := 432) (pc' := 437) rfl (hb hby at_432) rfl (XT.ii_eq_t rfl) (by decide) (by decide) (XS.iloadN X352.here hx rfl (hb hby at_437) rfl (XS.iconst X352.here hx rfl (hb hby at_438) (XS.icmpNo X352.here hx rfl (hb hby at_439) rfl (XT.ii_le_f (by decide)) (XS.aload X352.here hx rfl (hb hby at_442) rfl rfl (XS.iconst X352.here hx rfl (hb hby at_444) kk))))))) ?_
                show own_Fin _ _ _ _ _ _ _ (T352.setTop (mkF m 445 #[.val (.int p0), .val (.int p1), .val (.int p2), .val (.int (3 : Int32)), .val (.int xa), .val (.int xb), .val (.int xc), .val (.int xd), .val (.ref b238), .val (.ref b248), .val (.ref b291), .val (.int (1 : Int32)), .val (.ref r352)] [(.int (2 : Int32)), (.ref b238)]))
                refine own_ldI X352 hx hZ rfl f353 (by decide) (by show (2 : Int32).toNatClampNeg < 3; decide) (hb hby at_445) ?_
                show own_Fin _ _ _ _ _ _ _ (T352.setTop (mkF m 446 #[.val (.int p0), .val (.int p1), .val (.int p2), .val (.int (3 : Int32)), .val (.int xa), .val (.int xb), .val (.int xc), .val (.int xd), .val (.ref b238), .val (.ref b248), .val (.ref b291), .val (.int (1 : Int32)), .val (.ref r352)] [(.int xc)]))
                refine own_go (fun _ kk => XS.iload X352.here hx rfl (hb hby at_446) rfl (XS.icmpYes X352.here hx rfl (pc0 := 448) (pc' := 453) rfl (hb hby at_448) rfl (XT.ii_eq_t rfl) (by decide) (by decide) (XS.iloadN X352.here hx rfl (hb hby at_453) rfl (XS.iconst X352.here hx rfl (hb hby at_454) (XS.icmpYes X352.here hx rfl (pc0 := 455) (pc' := 469) rfl (hb hby at_455) rfl (XT.ii_le_t (by decide)) (by decide) (by decide) (XS.aload X352.here hx rfl (hb hby at_469) rfl rfl kk)))))) ?_
                show own_Fin _ _ _ _ _ _ _ (T352.setTop (mkF m 471 #[.val (.int p0), .val (.int p1), .val (.int p2), .val (.int (3 : Int32)), .val (.int xa), .val (.int xb), .val (.int xc), .val (.int xd), .val (.ref b238), .val (.ref b248), .val (.ref b291), .val (.int (1 : Int32)), .val (.ref r352)] [(.ref r352)]))
                refine own_alen X352 hx hZ rfl F352 (hb hby at_471) ?_
                show own_Fin _ _ _ _ _ _ _ (T352.setTop (mkF m 472 #[.val (.int p0), .val (.int p1), .val (.int p2), .val (.int (3 : Int32)), .val (.int xa), .val (.int xb), .val (.int xc), .val (.int xd), .val (.ref b238), .val (.ref b248), .val (.ref b291), .val (.int (1 : Int32)), .val (.ref r352)] [(.int (1 : Int32))]))
                refine own_go (fun _ kk => XS.iload X352.here hx rfl (hb hby at_472) rfl (XS.icmpYes X352.here hx rfl (pc0 := 474) (pc' := 479) rfl (hb hby at_474) rfl (XT.ii_eq_t (by decide)) (by decide) (by decide) (XS.iload X352.here hx rfl (hb hby at_479) rfl (XS.ifNo X352.here hx rfl (hb hby at_481) rfl (XT.i0_le_f (by decide)) (XS.aload X352.here hx rfl (hb hby at_484) rfl rfl (XS.iconst X352.here hx rfl (hb hby at_486) kk)))))) ?_
                show own_Fin _ _ _ _ _ _ _ (T352.setTop (mkF m 487 #[.val (.int p0), .val (.int p1), .val (.int p2), .val (.int (3 : Int32)), .val (.int xa), .val (.int xb), .val (.int xc), .val (.int xd), .val (.ref b238), .val (.ref b248), .val (.ref b291), .val (.int (1 : Int32)), .val (.ref r352)] [(.int (0 : Int32)), (.ref r352)]))
                refine own_ldI X352 hx hZ rfl F352 (by decide) (by show (0 : Int32).toNatClampNeg < 1; decide) (hb hby at_487) ?_
                show own_Fin _ _ _ _ _ _ _ (T352.setTop (mkF m 488 #[.val (.int p0), .val (.int p1), .val (.int p2), .val (.int (3 : Int32)), .val (.int xa), .val (.int xb), .val (.int xc), .val (.int xd), .val (.ref b238), .val (.ref b248), .val (.ref b291), .val (.int (1 : Int32)), .val (.ref r352)] [(.int xa)]))
                refine own_go (fun _ kk => XS.aload X352.here hx rfl (hb hby at_488) rfl rfl (XS.iconst X352.here hx rfl (hb hby at_490) kk)) ?_
                show own_Fin _ _ _ _ _ _ _ (T352.setTop (mkF m 491 #[.val (.int p0), .val (.int p1), .val (.int p2), .val (.int (3 : Int32)), .val (.int xa), .val (.int xb), .val (.int xc), .val (.int xd), .val (.ref b238), .val (.ref b248), .val (.ref b291), .val (.int (1 : Int32)), .val (.ref r352)] [(.int (0 : Int32)), (.ref b291), (.int xa)]))
                refine own_ldI X352 hx hZ rfl f357 (by decide) (by show (0 : Int32).toNatClampNeg < 4; decide) (hb hby at_491) ?_
                show own_Fin _ _ _ _ _ _ _ (T352.setTop (mkF m 492 #[.val (.int p0), .val (.int p1), .val (.int p2), .val (.int (3 : Int32)), .val (.int xa), .val (.int xb), .val (.int xc), .val (.int xd), .val (.ref b238), .val (.ref b248), .val (.ref b291), .val (.int (1 : Int32)), .val (.ref r352)] [(.int xa), (.int xa)]))
                refine own_go (fun _ kk => XS.icmpYes X352.here hx rfl (pc0 := 492) (pc' := 497) rfl (hb hby at_492) rfl (XT.ii_eq_t rfl) (by decide) (by decide) (XS.iload X352.here hx rfl (hb hby at_497) rfl (XS.iconst X352.here hx rfl (hb hby at_499) (XS.icmpYes X352.here hx rfl (pc0 := 500) (pc' := 516) rfl (hb hby at_500) rfl (XT.ii_le_t (by decide)) (by decide) (by decide) (XS.iload X352.here hx rfl (hb hby at_516) rfl (XS.iconst X352.here hx rfl (hb hby at_518) (XS.icmpYes X352.here hx rfl (pc0 := 519) (pc' := 535) rfl (hb hby at_519) rfl (XT.ii_le_t (by decide)) (by decide) (by decide) (XS.iload X352.here hx rfl (hb hby at_535) rfl (XS.iconst X352.here hx rfl (hb hby at_537) (XS.icmpYes X352.here hx rfl (pc0 := 538) (pc' := 554) rfl (hb hby at_538) rfl (XT.ii_le_t (by decide)) (by decide) (by decide) kk)))))))))) ?_
                show own_Fin _ _ _ _ _ _ _ (T352.setTop (mkF m 554 #[.val (.int p0), .val (.int p1), .val (.int p2), .val (.int (3 : Int32)), .val (.int xa), .val (.int xb), .val (.int xc), .val (.int xd), .val (.ref b238), .val (.ref b248), .val (.ref b291), .val (.int (1 : Int32)), .val (.ref r352)] []))
                refine own_go (fun _ kk => XS.iconst X352.here hx rfl (hb hby at_554) kk) ?_
                show own_Fin _ _ _ _ _ _ _ (T352.setTop (mkF m 555 #[.val (.int p0), .val (.int p1), .val (.int p2), .val (.int (3 : Int32)), .val (.int xa), .val (.int xb), .val (.int xc), .val (.int xd), .val (.ref b238), .val (.ref b248), .val (.ref b291), .val (.int (1 : Int32)), .val (.ref r352)] [(.int (1 : Int32))]))
                exact own_retZ X352 hx hlk hret rfl (hb hby at_555) (by decide) (by decide) ⟨rfl, N352⟩
              · refine own_go (fun _ kk => XS.ifNo X345.here hx rfl (hb hby at_338) rfl (XT.i0_eq_f hc338) (XS.aload X345.here hx rfl (hb hby at_341) rfl rfl (XS.iload X345.here hx rfl (hb hby at_343) rfl (XS.iload X345.here hx rfl (hb hby at_345) rfl kk)))) ?_
                show own_Fin _ _ _ _ _ _ _ (T345.setTop (mkF m 347 #[.val (.int p0), .val (.int p1), .val (.int p2), .val (.int (3 : Int32)), .val (.int xa), .val (.int xb), .val (.int xc), .val (.int xd), .val (.ref b238), .val (.ref b248), .val (.ref b291), .val (.int (1 : Int32)), .unset] [(.int xc), (.int (1 : Int32)), (.ref b291)]))
                refine own_stI X345 hx hZ e345 A345 (by decide) (by show (1 : Int32).toNatClampNeg < 4; decide) (hb hby at_347) ?_
                intro T359 h359 X359 e359 W359 A359
                have f360 := f346.other W359 ne_b238_b291
                have f361 := f347.wr W359
                have f362 := f348.other W359 ne_b248_b291
                have f363 := f349.wr W359
                have f365 := f351.wr W359
                have Z359 := Nat.le_trans Z345 (Keep.of_wr W359).1
                have A359 : own_Ar Z h359 b291 .int (List.map Value.int [xa, xc, (0 : Int32), (0 : Int32)]) := A359
                have N359 := Fr.snoc X359 N345 g_b291
                show own_Fin _ _ _ _ _ _ _ (T359.setTop (mkF m 348 #[.val (.int p0), .val (.int p1), .val (.int p2), .val (.int (3 : Int32)), .val (.int xa), .val (.int xb), .val (.int xc), .val (.int xd), .val (.ref b238), .val (.ref b248), .val (.ref b291), .val (.int (1 : Int32)), .unset] []))
                refine own_go (fun _ kk => XS.iinc X359.here hx rfl (hb hby at_348) rfl (l' := #[.val (.int p0), .val (.int p1), .val (.int p2), .val (.int (3 : Int32)), .val (.int xa), .val (.int xb), .val (.int xc), .val (.int xd), .val (.ref b238), .val (.ref b248), .val (.ref b291), .val (.int (2 : Int32)), .unset]) rfl (XS.iloadN X359.here hx rfl (hb hby at_351) rfl (XS.iconst X359.here hx rfl (hb hby at_352) (XS.icmpYes X359.here hx rfl (pc0 := 353) (pc' := 374) rfl (hb hby at_353) rfl (XT.ii_le_t (by decide)) (by decide) (by decide) (XS.aload X359.here hx rfl (hb hby at_374) rfl rfl (XS.aload X359.here hx rfl (hb hby at_376) rfl rfl kk)))))) ?_
                show own_Fin _ _ _ _ _ _ _ (T359.setTop (mkF m 378 #[.val (.int p0), .val (.int p1), .val (.int p2), .val (.int (3 : Int32)), .val (.int xa), .val (.int xb), .val (.int xc), .val (.int xd), .val (.ref b238), .val (.ref b248), .val (.ref b291), .val (.int (2 : Int32)), .unset] [(.ref b248), (.ref b238)]))
                refine own_callS X359 hx hZ hown (hw _ (List.mem_of_getElem? (i := 7) rfl)) (hw _ (List.mem_of_getElem? (i := 8) rfl)) (hw _ (List.mem_of_getElem? (i := 9) rfl)) (hw _ (List.mem_of_getElem? (i := 10) rfl)) (by decide) (rm2 l Z a0 hw b238 b248 h359 n0 Z359 [xa, xb, xc] bs f360 f362 (by show 3 ≤ 4; decide) (List.forall_mem_cons.mpr ⟨sa, (List.forall_mem_cons.mpr ⟨sb, (List.forall_mem_cons.mpr ⟨sc, (fun x h => nomatch h)⟩)⟩)⟩)) e359 (argsL := [(.ref b238), (.ref b248)]) (rest := []) rfl rfl (by rw [hml]; rfl) (lenOf pd_0_1 rfl) (hb hby at_378) (W := 0) (Nat.le_of_eq rfl) (by decide) (by decide) (by decide) (by decide) ?_
                rintro v366 T366 L366 X366 ⟨r366, rfl, M366, Kc366, sz366, A366⟩
                have N366 := Fr.app N359 M366
                have ne366 : r366 ≠ b238 := Nat.ne_of_gt (Nat.lt_of_lt_of_le f360.lt sz366)
                have f367 := f360.keep Kc366 nin0
                have f368 := f361.keep Kc366
                have f369 := f362.keep Kc366 nin0
                have f370 := f363.keep Kc366
                have f371 := A359.keep Kc366 nin0
                have f372 := f365.keep Kc366
                have Z366 := Nat.le_trans Z359 Kc366.1
                have F366 : own_Ar Z T366.heap r366 .int (List.map Value.int [xa, xc]) := by
                  rw [List.filter_cons_of_pos (show own_mk bs xa = true from decide_eq_true hc292), List.filter_cons_of_neg (by rw [show own_mk bs xb = false from decide_eq_false (fun q => q hc315)]; decide), List.filter_cons_of_pos (show own_mk bs xc = true from decide_eq_true hc338), List.filter_nil] at A366
                  exact A366
                show own_Fin _ _ _ _ _ _ _ (T366.setTop (mkF m 381 #[.val (.int p0), .val (.int p1), .val (.int p2), .val (.int (3 : Int32)), .val (.int xa), .val (.int xb), .val (.int xc), .val (.int xd), .val (.ref b238), .val (.ref b248), .val (.ref b291), .val (.int (2 : Int32)), .unset] [(.ref r366)]))
                refine own_go (fun _ kk => XS.astore X366.here hx rfl (hb hby at_381) rfl rfl (l' := #[.val (.int p0), .val (.int p1), .val (.int p2), .val (.int (3 : Int32)), .val (.int xa), .val (.int xb), .val (.int xc), .val (.int xd), .val (.ref b238), .val (.ref b248), .val (.ref b291), .val (.int (2 : Int32)), .val (.ref r366)]) rfl (XS.aload X366.here hx rfl (hb hby at_383) rfl rfl (XS.ifnullNo X366.here hx rfl (hb hby at_385) rfl (XS.aload X366.here hx rfl (hb hby at_388) rfl rfl (XS.aload X366.here hx rfl (hb hby at_390) rfl rfl (XT.acmpYes X366.here hx rfl (pc0 := 392) (pc' := 397) rfl (hb hby at_392) rfl rfl rfl (XT.aa_ne_t (fun q => ne366 (Value.ref.inj q))) (by decide) (by decide) (XS.aload X366.here hx rfl (hb hby at_397) rfl rfl kk))))))) ?_
                show own_Fin _ _ _ _ _ _ _ (T366.setTop (mkF m 399 #[.val (.int p0), .val (.int p1), .val (.int p2), .val (.int (3 : Int32)), .val (.int xa), .val (.int xb), .val (.int xc), .val (.int xd), .val (.ref b238), .val (.ref b248), .val (.ref b291), .val (.int (2 : Int32)), .val (.ref r366)] [(.ref b238)]))
                refine own_alen X366 hx hZ rfl f367 (hb hby at_399) ?_
                show own_Fin _ _ _ _ _ _ _ (T366.setTop (mkF m 400 #[.val (.int p0), .val (.int p1), .val (.int p2), .val (.int (3 : Int32)), .val (.int xa), .val (.int xb), .val (.int xc), .val (.int xd), .val (.ref b238), .val (.ref b248), .val (.ref b291), .val (.int (2 : Int32)), .val (.ref r366)] [(.int (3 : Int32))]))
                refine own_go (fun _ kk => XS.iloadN X366.here hx rfl (hb hby at_400) rfl (XS.icmpYes X366.here hx rfl (pc0 := 401) (pc' := 406) rfl (hb hby at_401) rfl (XT.ii_eq_t (by decide)) (by decide) (by decide) (XS.iloadN X366.here hx rfl (hb hby at_406) rfl (XS.ifNo X366.here hx rfl (hb hby at_407) rfl (XT.i0_le_f (by decide)) (XS.aload X366.here hx rfl (hb hby at_410) rfl rfl (XS.iconst X366.here hx rfl (hb hby at_412) kk)))))) ?_
                show own_Fin _ _ _ _ _ _ _ (T366.setTop (mkF m 413 #[.val (.int p0), .val (.int p1), .val (.int p2), .val (.int (3 : Int32)), .val (.int xa), .val (.int xb), .val (.int xc), .val (.int xd), .val (.ref b238), .val (.ref b248), .val (.ref b291), .val (.int (2 : Int32)), .val (.ref r366)] [(.int (0 : Int32)), (.ref b238)]))
                refine own_ldI X366 hx hZ rfl f367 (by decide) (by show (0 : Int32).toNatClampNeg < 3; decide) (hb hby at_413) ?_
                show own_Fin _ _ _ _ _ _ _ (T366.setTop (mkF m 414 #[.val (.int p0), .val (.int p1), .val (.int p2), .val (.int (3 : Int32)), .val (.int xa), .val (.int xb), .val (.int xc), .val (.int xd), .val (.ref b238), .val (.ref b248), .val (.ref b291), .val (.int (2 : Int32)), .val (.ref r366)] [(.int xa)]))
                refine own_go (fun _ kk => XS.iload X366.here hx rfl (hb hby at_414) rfl (XS.icmpYes X366.here hx rfl (pc0 := 416) (pc' := 421) rfl (hb hby at_416) rfl (XT.ii_eq_t rfl) (by decide) (by decide) (XS.iloadN X366.here hx rfl (hb hby at_421) rfl (XS.iconst X366.here hx rfl (hb hby at_422) (XS.icmpNo X366.here hx rfl (hb hby at_423) rfl (XT.ii_le_f (by decide)) (XS.aload X366.here hx rfl (hb hby at_426) rfl rfl (XS.iconst X366.here hx rfl (hb hby at_428) kk))))))) ?_
                show own_Fin _ _ _ _ _ _ _ (T366.setTop (mkF m 429 #[.val (.int p0), .val (.int p1), .val (.int p2), .val (.int (3 : Int32)), .val (.int xa), .val (.int xb), .val (.int xc), .val (.int xd), .val (.ref b238), .val (.ref b248), .val (.ref b291), .val (.int (2 : Int32)), .val (.ref r366)] [(.int (1 : Int32)), (.ref b238)]))
                refine own_ldI X366 hx hZ rfl f367 (by decide) (by show (1 : Int32).toNatClampNeg < 3; decide) (hb hby at_429) ?_
                show own_Fin _ _ _ _ _ _ _ (T366.setTop (mkF m 430 #[.val (.int p0), .val (.int p1), .val (.int p2), .val (.int (3 : Int32)), .val (.int xa), .val (.int xb), .val (.int xc), .val (.int xd), .val (.ref b238), .val (.ref b248), .val (.ref b291), .val (.int (2 : Int32)), .val (.ref r366)] [(.int xb)]))
                refine own_go (fun _ kk => XS.iload X366.here hx rfl (hb hby at_430) rfl (XS.icmpYes X366.here hx rfl (pc0 := 432) (pc' := 437) rfl (hb hby at_432) rfl (XT.ii_eq_t rfl) (by decide) (by decide) (XS.iloadN X366.here hx rfl (hb hby at_437) rfl (XS.iconst X366.here hx rfl (hb hby at_438) (XS.icmpNo X366.here hx rfl (hb hby at_439) rfl (XT.ii_le_f (by decide)) (XS.aload X366.here hx rfl (hb hby at_442) rfl rfl (XS.iconst X366.here hx rfl (hb hby at_444) kk))))))) ?_
                show own_Fin _ _ _ _ _ _ _ (T366.setTop (mkF m 445 #[.val (.int p0), .val (.int p1), .val (.int p2), .val (.int (3 : Int32)), .val (.int xa), .val (.int xb), .val (.int xc), .val (.int xd), .val (.ref b238), .val (.ref b248), .val (.ref b291), .val (.int (2 : Int32)), .val (.ref r366)] [(.int (2 : Int32)), (.ref b238)]))
                refine own_ldI X366 hx hZ rfl f367 (by decide) (by show (2 : Int32).toNatClampNeg < 3; decide) (hb hby at_445) ?_
                show own_Fin _ _ _ _ _ _ _ (T366.setTop (mkF m 446 #[.val (.int p0), .val (.int p1), .val (.int p2), .val (.int (3 : Int32)), .val (.int xa), .val (.int xb), .val (.int xc), .val (.int xd), .val (.ref b238), .val (.ref b248), .val (.ref b291), .val (.int (2 : Int32)), .val (.ref r366)] [(.int xc)]))
                refine own_go (fun _ kk => XS.iload X366.here hx rfl (hb hby at_446) rfl (XS.icmpYes X366.here hx rfl (pc0 := 448) (pc' := 453) rfl (hb hby at_448) rfl (XT.ii_eq_t rfl) (by decide) (by decide) (XS.iloadN X366.here hx rfl (hb hby at_453) rfl (XS.iconst X366.here hx rfl (hb hby at_454) (XS.icmpYes X366.here hx rfl (pc0 := 455) (pc' := 469) rfl (hb hby at_455) rfl (XT.ii_le_t (by decide)) (by decide) (by decide) (XS.aload X366.here hx rfl (hb hby at_469) rfl rfl kk)))))) ?_
                show own_Fin _ _ _ _ _ _ _ (T366.setTop (mkF m 471 #[.val (.int p0), .val (.int p1), .val (.int p2), .val (.int (3 : Int32)), .val (.int xa), .val (.int xb), .val (.int xc), .val (.int xd), .val (.ref b238), .val (.ref b248), .val (.ref b291), .val (.int (2 : Int32)), .val (.ref r366)] [(.ref r366)]))
                refine own_alen X366 hx hZ rfl F366 (hb hby at_471) ?_
                show own_Fin _ _ _ _ _ _ _ (T366.setTop (mkF m 472 #[.val (.int p0), .val (.int p1), .val (.int p2), .val (.int (3 : Int32)), .val (.int xa), .val (.int xb), .val (.int xc), .val (.int xd), .val (.ref b238), .val (.ref b248), .val (.ref b291), .val (.int (2 : Int32)), .val (.ref r366)] [(.int (2 : Int32))]))
                refine own_go (fun _ kk => XS.iload X366.here hx rfl (hb hby at_472) rfl (XS.icmpYes X366.here hx rfl (pc0 := 474) (pc' := 479) rfl (hb hby at_474) rfl (XT.ii_eq_t (by decide)) (by decide) (by decide) (XS.iload X366.here hx rfl (hb hby at_479) rfl (XS.ifNo X366.here hx rfl (hb hby at_481) rfl (XT.i0_le_f (by decide)) (XS.aload X366.here hx rfl (hb hby at_484) rfl rfl (XS.iconst X366.here hx rfl (hb hby at_486) kk)))))) ?_
                show own_Fin _ _ _ _ _ _ _ (T366.setTop (mkF m 487 #[.val (.int p0), .val (.int p1), .val (.int p2), .val (.int (3 : Int32)), .val (.int xa), .val (.int xb), .val (.int xc), .val (.int xd), .val (.ref b238), .val (.ref b248), .val (.ref b291), .val (.int (2 : Int32)), .val (.ref r366)] [(.int (0 : Int32)), (.ref r366)]))
                refine own_ldI X366 hx hZ rfl F366 (by decide) (by show (0 : Int32).toNatClampNeg < 2; decide) (hb hby at_487) ?_
                show own_Fin _ _ _ _ _ _ _ (T366.setTop (mkF m 488 #[.val (.int p0), .val (.int p1), .val (.int p2), .val (.int (3 : Int32)), .val (.int xa), .val (.int xb), .val (.int xc), .val (.int xd), .val (.ref b238), .val (.ref b248), .val (.ref b291), .val (.int (2 : Int32)), .val (.ref r366)] [(.int xa)]))
                refine own_go (fun _ kk => XS.aload X366.here hx rfl (hb hby at_488) rfl rfl (XS.iconst X366.here hx rfl (hb hby at_490) kk)) ?_
                show own_Fin _ _ _ _ _ _ _ (T366.setTop (mkF m 491 #[.val (.int p0), .val (.int p1), .val (.int p2), .val (.int (3 : Int32)), .val (.int xa), .val (.int xb), .val (.int xc), .val (.int xd), .val (.ref b238), .val (.ref b248), .val (.ref b291), .val (.int (2 : Int32)), .val (.ref r366)] [(.int (0 : Int32)), (.ref b291), (.int xa)]))
                refine own_ldI X366 hx hZ rfl f371 (by decide) (by show (0 : Int32).toNatClampNeg < 4; decide) (hb hby at_491) ?_
                show own_Fin _ _ _ _ _ _ _ (T366.setTop (mkF m 492 #[.val (.int p0), .val (.int p1), .val (.int p2), .val (.int (3 : Int32)), .val (.int xa), .val (.int xb), .val (.int xc), .val (.int xd), .val (.ref b238), .val (.ref b248), .val (.ref b291), .val (.int (2 : Int32)), .val (.ref r366)] [(.int xa), (.int xa)]))
                refine own_go (fun _ kk => XS.icmpYes X366.here hx rfl (pc0 := 492) (pc' := 497) rfl (hb hby at_492) rfl (XT.ii_eq_t rfl) (by decide) (by decide) (XS.iload X366.here hx rfl (hb hby at_497) rfl (XS.iconst X366.here hx rfl (hb hby at_499) (XS.icmpNo X366.here hx rfl (hb hby at_500) rfl (XT.ii_le_f (by decide)) (XS.aload X366.here hx rfl (hb hby at_503) rfl rfl (XS.iconst X366.here hx rfl (hb hby at_505) kk)))))) ?_
                show own_Fin _ _ _ _ _ _ _ (T366.setTop (mkF m 506 #[.val (.int p0), .val (.int p1), .val (.int p2), .val (.int (3 : Int32)), .val (.int xa), .val (.int xb), .val (.int xc), .val (.int xd), .val (.ref b238), .val (.ref b248), .val (.ref b291), .val (.int (2 : Int32)), .val (.ref r366)] [(.int (1 : Int32)), (.ref r366)]))
                refine own_ldI X366 hx hZ rfl F366 (by decide) (by show (1 : Int32).toNatClampNeg < 2; decide) (hb hby at_506) ?_
                show own_Fin _ _ _ _ _ _ _ (T366.setTop (mkF m 507 #[.val (.int p0), .val (.int p1), .val (.int p2), .val (.int (3 : Int32)), .val (.int xa), .val (.int xb), .val (.int xc), .val (.int xd), .val (.ref b238), .val (.ref b248), .val (.ref b291), .val (.int (2 : Int32)), .val (.ref r366)] [(.int xc)]))
                refine own_go (fun _ kk => XS.aload X366.here hx rfl (hb hby at_507) rfl rfl (XS.iconst X366.here hx rfl (hb hby at_509) kk)) ?_
                show own_Fin _ _ _ _ _ _ _ (T366.setTop (mkF m 510 #[.val (.int p0), .val (.int p1), .val (.int p2), .val (.int (3 : Int32)), .val (.int xa), .val (.int xb), .val (.int xc), .val (.int xd), .val (.ref b238), .val (.ref b248), .val (.ref b291), .val (.int (2 : Int32)), .val (.ref r366)] [(.int (1 : Int32)), (.ref b291), (.int xc)]))
                refine own_ldI X366 hx hZ rfl f371 (by decide) (by show (1 : Int32).toNatClampNeg < 4; decide) (hb hby at_510) ?_
                show own_Fin _ _ _ _ _ _ _ (T366.setTop (mkF m 511 #[.val (.int p0), .val (.int p1), .val (.int p2), .val (.int (3 : Int32)), .val (.int xa), .val (.int xb), .val (.int xc), .val (.int xd), .val (.ref b238), .val (.ref b248), .val (.ref b291), .val (.int (2 : Int32)), .val (.ref r366)] [(.int xc), (.int xc)]))
                refine own_go (fun _ kk => XS.icmpYes X366.here hx rfl (pc0 := 511) (pc' := 516) rfl (hb hby at_511) rfl (XT.ii_eq_t rfl) (by decide) (by decide) (XS.iload X366.here hx rfl (hb hby at_516) rfl (XS.iconst X366.here hx rfl (hb hby at_518) (XS.icmpYes X366.here hx rfl (pc0 := 519) (pc' := 535) rfl (hb hby at_519) rfl (XT.ii_le_t (by decide)) (by decide) (by decide) (XS.iload X366.here hx rfl (hb hby at_535) rfl (XS.iconst X366.here hx rfl (hb hby at_537) (XS.icmpYes X366.here hx rfl (pc0 := 538) (pc' := 554) rfl (hb hby at_538) rfl (XT.ii_le_t (by decide)) (by decide) (by decide) (XS.iconst X366.here hx rfl (hb hby at_554) kk)))))))) ?_
                show own_Fin _ _ _ _ _ _ _ (T366.setTop (mkF m 555 #[.val (.int p0), .val (.int p1), .val (.int p2), .val (.int (3 : Int32)), .val (.int xa), .val (.int xb), .val (.int xc), .val (.int xd), .val (.ref b238), .val (.ref b248), .val (.ref b291), .val (.int (2 : Int32)), .val (.ref r366)] [(.int (1 : Int32))]))
                exact own_retZ X366 hx hlk hret rfl (hb hby at_555) (by decide) (by decide) ⟨rfl, N366⟩
            · refine own_go (fun _ kk => XS.ifNo X345.here hx rfl (hb hby at_315) rfl (XT.i0_eq_f hc315) (XS.aload X345.here hx rfl (hb hby at_318) rfl rfl (XS.iload X345.here hx rfl (hb hby at_320) rfl (XS.iload X345.here hx rfl (hb hby at_322) rfl kk)))) ?_
              show own_Fin _ _ _ _ _ _ _ (T345.setTop (mkF m 324 #[.val (.int p0), .val (.int p1), .val (.int p2), .val (.int (3 : Int32)), .val (.int xa), .val (.int xb), .val (.int xc), .val (.int xd), .val (.ref b238), .val (.ref b248), .val (.ref b291), .val (.int (1 : Int32)), .unset] [(.int xb), (.int (1 : Int32)), (.ref b291)]))
              refine own_stI X345 hx hZ e345 A345 (by decide) (by show (1 : Int32).toNatClampNeg < 4; decide) (hb hby at_324) ?_
              intro T373 h373 X373 e373 W373 A373
              have f374 := f346.other W373 ne_b238_b291
              have f375 := f347.wr W373
              have f376 := f348.other W373 ne_b248_b291
              have f377 := f349.wr W373
              have f379 := f351.wr W373
              have Z373 := Nat.le_trans Z345 (Keep.of_wr W373).1
              have A373 : own_Ar Z h373 b291 .int (List.map Value.int [xa, xb, (0 : Int32), (0 : Int32)]) := A373
              have N373 := Fr.snoc X373 N345 g_b291
              show own_Fin _ _ _ _ _ _ _ (T373.setTop (mkF m 325 #[.val (.int p0), .val (.int p1), .val (.int p2), .val (.int (3 : Int32)), .val (.int xa), .val (.int xb), .val (.int xc), .val (.int xd), .val (.ref b238), .val (.ref b248), .val (.ref b291), .val (.int (1 : Int32)), .unset] []))
              refine own_go (fun _ kk => XS.iinc X373.here hx rfl (hb hby at_325) rfl (l' := #[.val (.int p0), .val (.int p1), .val (.int p2), .val (.int (3 : Int32)), .val (.int xa), .val (.int xb), .val (.int xc), .val (.int xd), .val (.ref b238), .val (.ref b248), .val (.ref b291), .val (.int (2 : Int32)), .unset]) rfl (XS.iloadN X373.here hx rfl (hb hby at_328) rfl (XS.iconst X373.here hx rfl (hb hby at_329) (XS.icmpNo X373.here hx rfl (hb hby at_330) rfl (XT.ii_le_f (by decide)) (XS.aload X373.here hx rfl (hb hby at_333) rfl rfl (XS.iload X373.here hx rfl (hb hby at_335) rfl kk)))))) ?_
              show own_Fin _ _ _ _ _ _ _ (T373.setTop (mkF m 337 #[.val (.int p0), .val (.int p1), .val (.int p2), .val (.int (3 : Int32)), .val (.int xa), .val (.int xb), .val (.int xc), .val (.int xd), .val (.ref b238), .val (.ref b248), .val (.ref b291), .val (.int (2 : Int32)), .unset] [(.int xc), (.ref b248)]))
              refine own_ldZ X373 hx hZ e373 f376 sc.1 sc.2 (hb hby at_337) ?_
              show own_Fin _ _ _ _ _ _ _ (T373.setTop (mkF m 338 #[.val (.int p0), .val (.int p1), .val (.int p2), .val (.int (3 : Int32)), .val (.int xa), .val (.int xb), .val (.int xc), .val (.int xd), .val (.ref b238), .val (.ref b248), .val (.ref b291), .val (.int (2 : Int32)), .unset] [(.int (List.getD bs (xc).toNatClampNeg 0))]))
              by_cases hc338 : (List.getD bs (xc).toNatClampNeg 0) = 0
              · refine own_go (fun _ kk => XS.ifYes X373.here hx rfl (pc0 := 338) (pc' := 351) rfl (hb hby at_338) rfl (XT.i0_eq_t hc338) (by decide) (by decide) (XS.iloadN X373.here hx rfl (hb hby at_351) rfl (XS.iconst X373.here hx rfl (hb hby at_352) (XS.icmpYes X373.here hx rfl (pc0 := 353) (pc' := 374) rfl (hb hby at_353) rfl (XT.ii_le_t (by decide)) (by decide) (by decide) (XS.aload X373.here hx rfl (hb hby at_374) rfl rfl (XS.aload X373.here hx rfl (hb hby at_376) rfl rfl kk)))))) ?_
                show own_Fin _ _ _ _ _ _ _ (T373.setTop (mkF m 378 #[.val (.int p0), .val (.int p1), .val (.int p2), .val (.int (3 : Int32)), .val (.int xa), .val (.int xb), .val (.int xc), .val (.int xd), .val (.ref b238), .val (.ref b248), .val (.ref b291), .val (.int (2 : Int32)), .unset] [(.ref b248), (.ref b238)]))
                refine own_callS X373 hx hZ hown (hw _ (List.mem_of_getElem? (i := 7) rfl)) (hw _ (List.mem_of_getElem? (i := 8) rfl)) (hw _ (List.mem_of_getElem? (i := 9) rfl)) (hw _ (List.mem_of_getElem? (i := 10) rfl)) (by decide) (rm2 l Z a0 hw b238 b248 h373 n0 Z373 [xa, xb, xc] bs f374 f376 (by show 3 ≤ 4; decide) (List.forall_mem_cons.mpr ⟨sa, (List.forall_mem_cons.mpr ⟨sb, (List.forall_mem_cons.mpr ⟨sc, (fun x h => nomatch h)⟩)⟩)⟩)) e373 (argsL := [(.ref b238), (.ref b248)]) (rest := []) rfl rfl (by rw [hml]; rfl) (lenOf pd_0_1 rfl) (hb hby at_378) (W := 0) (Nat.le_of_eq rfl) (by decide) (by decide) (by decide) (by decide) ?_
                rintro v380 T380 L380 X380 ⟨r380, rfl, M380, Kc380, sz380, A380⟩
                have N380 := Fr.app N373 M380
                have ne380 : r380 ≠ b238 := Nat.ne_of_gt (Nat.lt_of_lt_of_le f374.lt sz380)
                have f381 := f374.keep Kc380 nin0
                have f382 := f375.keep Kc380
                have f383 := f376.keep Kc380 nin0
                have f384 := f377.keep Kc380
                have f385 := A373.keep Kc380 nin0
                have f386 := f379.keep Kc380
                have Z380 := Nat.le_trans Z373 Kc380.1
                have F380 : own_Ar Z T380.heap r380 .int (List.map Value.int [xa, xb]) := by
                  rw [List.filter_cons_of_pos (show own_mk bs xa = true from decide_eq_true hc292), List.filter_cons_of_pos (show own_mk bs xb = true from decide_eq_true hc315), List.filter_cons_of_neg (by rw [show own_mk bs xc = false from decide_eq_false (fun q => q hc338)]; decide), List.filter_nil] at A380
                  exact A380
                show own_Fin _ _ _ _ _ _ _ (T380.setTop (mkF m 381 #[.val (.int p0), .val (.int p1), .val (.int p2), .val (.int (3 : Int32)), .val (.int xa), .val (.int xb), .val (.int xc), .val (.int xd), .val (.ref b238), .val (.ref b248), .val (.ref b291), .val (.int (2 : Int32)), .unset] [(.ref r380)]))
                refine own_go (fun _ kk => XS.astore X380.here hx rfl (hb hby at_381) rfl rfl (l' := #[.val (.int p0), .val (.int p1), .val (.int p2), .val (.int (3 : Int32)), .val (.int xa), .val (.int xb), .val (.int xc), .val (.int xd), .val (.ref b238), .val (.ref b248), .val (.ref b291), .val (.int (2 : Int32)), .val (.ref r380)]) rfl (XS.aload X380.here hx rfl (hb hby at_383) rfl rfl (XS.ifnullNo X380.here hx rfl (hb hby at_385) rfl (XS.aload X380.here hx rfl (hb hby at_388) rfl rfl (XS.aload X380.here hx rfl (hb hby at_390) rfl rfl (XT.acmpYes X380.here hx rfl (pc0 := 392) (pc' := 397) rfl (hb hby at_392) rfl rfl rfl (XT.aa_ne_t (fun q => ne380 (Value.ref.inj q))) (by decide) (by decide) (XS.aload X380.here hx rfl (hb hby at_397) rfl rfl kk))))))) ?_
                show own_Fin _ _ _ _ _ _ _ (T380.setTop (mkF m 399 #[.val (.int p0), .val (.int p1), .val (.int p2), .val (.int (3 : Int32)), .val (.int xa), .val (.int xb), .val (.int xc), .val (.int xd), .val (.ref b238), .val (.ref b248), .val (.ref b291), .val (.int (2 : Int32)), .val (.ref r380)] [(.ref b238)]))
                refine own_alen X380 hx hZ rfl f381 (hb hby at_399) ?_
                show own_Fin _ _ _ _ _ _ _ (T380.setTop (mkF m 400 #[.val (.int p0), .val (.int p1), .val (.int p2), .val (.int (3 : Int32)), .val (.int xa), .val (.int xb), .val (.int xc), .val (.int xd), .val (.ref b238), .val (.ref b248), .val (.ref b291), .val (.int (2 : Int32)), .val (.ref r380)] [(.int (3 : Int32))]))
                refine own_go (fun _ kk => XS.iloadN X380.here hx rfl (hb hby at_400) rfl (XS.icmpYes X380.here hx rfl (pc0 := 401) (pc' := 406) rfl (hb hby at_401) rfl (XT.ii_eq_t (by decide)) (by decide) (by decide) (XS.iloadN X380.here hx rfl (hb hby at_406) rfl (XS.ifNo X380.here hx rfl (hb hby at_407) rfl (XT.i0_le_f (by decide)) (XS.aload X380.here hx rfl (hb hby at_410) rfl rfl (XS.iconst X380.here hx rfl (hb hby at_412) kk)))))) ?_
                show own_Fin _ _ _ _ _ _ _ (T380.setTop (mkF m 413 #[.val (.int p0), .val (.int p1), .val (.int p2), .val (.int (3 : Int32)), .val (.int xa), .val (.int xb), .val (.int xc), .val (.int xd), .val (.ref b238), .val (.ref b248), .val (.ref b291), .val (.int (2 : Int32)), .val (.ref r380)] [(.int (0 : Int32)), (.ref b238)]))
                refine own_ldI X380 hx hZ rfl f381 (by decide) (by show (0 : Int32).toNatClampNeg < 3; decide) (hb hby at_413) ?_
                show own_Fin _ _ _ _ _ _ _ (T380.setTop (mkF m 414 #[.val (.int p0), .val (.int p1), .val (.int p2), .val (.int (3 : Int32)), .val (.int xa), .val (.int xb), .val (.int xc), .val (.int xd), .val (.ref b238), .val (.ref b248), .val (.ref b291), .val (.int (2 : Int32)), .val (.ref r380)] [(.int xa)]))
                refine own_go (fun _ kk => XS.iload X380.here hx rfl (hb hby at_414) rfl (XS.icmpYes X380.here hx rfl (pc0 := 416) (pc' := 421) rfl (hb hby at_416) rfl (XT.ii_eq_t rfl) (by decide) (by decide) (XS.iloadN X380.here hx rfl (hb hby at_421) rfl (XS.iconst X380.here hx rfl (hb hby at_422) (XS.icmpNo X380.here hx rfl (hb hby at_423) rfl (XT.ii_le_f (by decide)) (XS.aload X380.here hx rfl (hb hby at_426) rfl rfl (XS.iconst X380.here hx rfl (hb hby at_428) kk))))))) ?_
                show own_Fin _ _ _ _ _ _ _ (T380.setTop (mkF m 429 #[.val (.int p0), .val (.int p1), .val (.int p2), .val (.int (3 : Int32)), .val (.int xa), .val (.int xb), .val (.int xc), .val (.int xd), .val (.ref b238), .val (.ref b248), .val (.ref b291), .val (.int (2 : Int32)), .val (.ref r380)] [(.int (1 : Int32)), (.ref b238)]))
                refine own_ldI X380 hx hZ rfl f381 (by decide) (by show (1 : Int32).toNatClampNeg < 3; decide) (hb hby at_429) ?_
                show own_Fin _ _ _ _ _ _ _ (T380.setTop (mkF m 430 #[.val (.int p0), .val (.int p1), .val (.int p2), .val (.int (3 : Int32)), .val (.int xa), .val (.int xb), .val (.int xc), .val (.int xd), .val (.ref b238), .val (.ref b248), .val (.ref b291), .val (.int (2 : Int32)), .val (.ref r380)] [(.int xb)]))
                refine own_go (fun _ kk => XS.iload X380.here hx rfl (hb hby at_430) rfl (XS.icmpYes X380.here hx rfl (pc0 := 432) (pc' := 437) rfl (hb hby at_432) rfl (XT.ii_eq_t rfl) (by decide) (by decide) (XS.iloadN X380.here hx rfl (hb hby at_437) rfl (XS.iconst X380.here hx rfl (hb hby at_438) (XS.icmpNo X380.here hx rfl (hb hby at_439) rfl (XT.ii_le_f (by decide)) (XS.aload X380.here hx rfl (hb hby at_442) rfl rfl (XS.iconst X380.here hx rfl (hb hby at_444) kk))))))) ?_
                show own_Fin _ _ _ _ _ _ _ (T380.setTop (mkF m 445 #[.val (.int p0), .val (.int p1), .val (.int p2), .val (.int (3 : Int32)), .val (.int xa), .val (.int xb), .val (.int xc), .val (.int xd), .val (.ref b238), .val (.ref b248), .val (.ref b291), .val (.int (2 : Int32)), .val (.ref r380)] [(.int (2 : Int32)), (.ref b238)]))
                refine own_ldI X380 hx hZ rfl f381 (by decide) (by show (2 : Int32).toNatClampNeg < 3; decide) (hb hby at_445) ?_
                show own_Fin _ _ _ _ _ _ _ (T380.setTop (mkF m 446 #[.val (.int p0), .val (.int p1), .val (.int p2), .val (.int (3 : Int32)), .val (.int xa), .val (.int xb), .val (.int xc), .val (.int xd), .val (.ref b238), .val (.ref b248), .val (.ref b291), .val (.int (2 : Int32)), .val (.ref r380)] [(.int xc)]))
                refine own_go (fun _ kk => XS.iload X380.here hx rfl (hb hby at_446) rfl (XS.icmpYes X380.here hx rfl (pc0 := 448) (pc' := 453) rfl (hb hby at_448) rfl (XT.ii_eq_t rfl) (by decide) (by decide) (XS.iloadN X380.here hx rfl (hb hby at_453) rfl (XS.iconst X380.here hx rfl (hb hby at_454) (XS.icmpYes X380.here hx rfl (pc0 := 455) (pc' := 469) rfl (hb hby at_455) rfl (XT.ii_le_t (by decide)) (by decide) (by decide) (XS.aload X380.here hx rfl (hb hby at_469) rfl rfl kk)))))) ?_
                show own_Fin _ _ _ _ _ _ _ (T380.setTop (mkF m 471 #[.val (.int p0), .val (.int p1), .val (.int p2), .val (.int (3 : Int32)), .val (.int xa), .val (.int xb), .val (.int xc), .val (.int xd), .val (.ref b238), .val (.ref b248), .val (.ref b291), .val (.int (2 : Int32)), .val (.ref r380)] [(.ref r380)]))
                refine own_alen X380 hx hZ rfl F380 (hb hby at_471) ?_
                show own_Fin _ _ _ _ _ _ _ (T380.setTop (mkF m 472 #[.val (.int p0), .val (.int p1), .val (.int p2), .val (.int (3 : Int32)), .val (.int xa), .val (.int xb), .val (.int xc), .val (.int xd), .val (.ref b238), .val (.ref b248), .val (.ref b291), .val (.int (2 : Int32)), .val (.ref r380)] [(.int (2 : Int32))]))
                refine own_go (fun _ kk => XS.iload X380.here hx rfl (hb hby at_472) rfl (XS.icmpYes X380.here hx rfl (pc0 := 474) (pc' := 479) rfl (hb hby at_474) rfl (XT.ii_eq_t (by decide)) (by decide) (by decide) (XS.iload X380.here hx rfl (hb hby at_479) rfl (XS.ifNo X380.here hx rfl (hb hby at_481) rfl (XT.i0_le_f (by decide)) (XS.aload X380.here hx rfl (hb hby at_484) rfl rfl (XS.iconst X380.here hx rfl (hb hby at_486) kk)))))) ?_
                show own_Fin _ _ _ _ _ _ _ (T380.setTop (mkF m 487 #[.val (.int p0), .val (.int p1), .val (.int p2), .val (.int (3 : Int32)), .val (.int xa), .val (.int xb), .val (.int xc), .val (.int xd), .val (.ref b238), .val (.ref b248), .val (.ref b291), .val (.int (2 : Int32)), .val (.ref r380)] [(.int (0 : Int32)), (.ref r380)]))
                refine own_ldI X380 hx hZ rfl F380 (by decide) (by show (0 : Int32).toNatClampNeg < 2; decide) (hb hby at_487) ?_
                show own_Fin _ _ _ _ _ _ _ (T380.setTop (mkF m 488 #[.val (.int p0), .val (.int p1), .val (.int p2), .val (.int (3 : Int32)), .val (.int xa), .val (.int xb), .val (.int xc), .val (.int xd), .val (.ref b238), .val (.ref b248), .val (.ref b291), .val (.int (2 : Int32)), .val (.ref r380)] [(.int xa)]))
                refine own_go (fun _ kk => XS.aload X380.here hx rfl (hb hby at_488) rfl rfl (XS.iconst X380.here hx rfl (hb hby at_490) kk)) ?_
                show own_Fin _ _ _ _ _ _ _ (T380.setTop (mkF m 491 #[.val (.int p0), .val (.int p1), .val (.int p2), .val (.int (3 : Int32)), .val (.int xa), .val (.int xb), .val (.int xc), .val (.int xd), .val (.ref b238), .val (.ref b248), .val (.ref b291), .val (.int (2 : Int32)), .val (.ref r380)] [(.int (0 : Int32)), (.ref b291), (.int xa)]))
                refine own_ldI X380 hx hZ rfl f385 (by decide) (by show (0 : Int32).toNatClampNeg < 4; decide) (hb hby at_491) ?_
                show own_Fin _ _ _ _ _ _ _ (T380.setTop (mkF m 492 #[.val (.int p0), .val (.int p1), .val (.int p2), .val (.int (3 : Int32)), .val (.int xa), .val (.int xb), .val (.int xc), .val (.int xd), .val (.ref b238), .val (.ref b248), .val (.ref b291), .val (.int (2 : Int32)), .val (.ref r380)] [(.int xa), (.int xa)]))
                refine own_go (fun _ kk => XS.icmpYes X380.here hx rfl (pc0 := 492) (pc' := 497) rfl (hb hby at_492) rfl (XT.ii_eq_t rfl) (by decide) (by decide) (XS.iload X380.here hx rfl (hb hby at_497) rfl (XS.iconst X380.here hx rfl (hb hby at_499) (XS.icmpNo X380.here hx rfl (hb hby at_500) rfl (XT.ii_le_f (by decide)) (XS.aload X380.here hx rfl (hb hby at_503) rfl rfl (XS.iconst X380.here hx rfl (hb hby at_505) kk)))))) ?_
                show own_Fin _ _ _ _ _ _ _ (T380.setTop (mkF m 506 #[.val (.int p0), .val (.int p1), .val (.int p2), .val (.int (3 : Int32)), .val (.int xa), .val (.int xb), .val (.int xc), .val (.int xd), .val (.ref b238), .val (.ref b248), .val (.ref b291), .val (.int (2 : Int32)), .val (.ref r380)] [(.int (1 : Int32)), (.ref r380)]))
                refine own_ldI X380 hx hZ rfl F380 (by decide) (by show (1 : Int32).toNatClampNeg < 2; decide) (hb hby at_506) ?_
                show own_Fin _ _ _ _ _ _ _ (T380.setTop (mkF m 507 #[.val (.int p0), .val (.int p1), .val (.int p2), .val (.int (3 : Int32)), .val (.int xa), .val (.int xb), .val (.int xc), .val (.int xd), .val (.ref b238), .val (.ref b248), .val (.ref b291), .val (.int (2 : Int32)), .val (.ref r380)] [(.int xb)]))
                refine own_go (fun _ kk => XS.aload X380.here hx rfl (hb hby at_507) rfl rfl (XS.iconst X380.here hx rfl (hb hby at_509) kk)) ?_
                show own_Fin _ _ _ _ _ _ _ (T380.setTop (mkF m 510 #[.val (.int p0), .val (.int p1), .val (.int p2), .val (.int (3 : Int32)), .val (.int xa), .val (.int xb), .val (.int xc), .val (.int xd), .val (.ref b238), .val (.ref b248), .val (.ref b291), .val (.int (2 : Int32)), .val (.ref r380)] [(.int (1 : Int32)), (.ref b291), (.int xb)]))
                refine own_ldI X380 hx hZ rfl f385 (by decide) (by show (1 : Int32).toNatClampNeg < 4; decide) (hb hby at_510) ?_
                show own_Fin _ _ _ _ _ _ _ (T380.setTop (mkF m 511 #[.val (.int p0), .val (.int p1), .val (.int p2), .val (.int (3 : Int32)), .val (.int xa), .val (.int xb), .val (.int xc), .val (.int xd), .val (.ref b238), .val (.ref b248), .val (.ref b291), .val (.int (2 : Int32)), .val (.ref r380)] [(.int xb), (.int xb)]))
                refine own_go (fun _ kk => XS.icmpYes X380.here hx rfl (pc0 := 511) (pc' := 516) rfl (hb hby at_511) rfl (XT.ii_eq_t rfl) (by decide) (by decide) (XS.iload X380.here hx rfl (hb hby at_516) rfl (XS.iconst X380.here hx rfl (hb hby at_518) (XS.icmpYes X380.here hx rfl (pc0 := 519) (pc' := 535) rfl (hb hby at_519) rfl (XT.ii_le_t (by decide)) (by decide) (by decide) (XS.iload X380.here hx rfl (hb hby at_535) rfl (XS.iconst X380.here hx rfl (hb hby at_537) (XS.icmpYes X380.here hx rfl (pc0 := 538) (pc' := 554) rfl (hb hby at_538) rfl (XT.ii_le_t (by decide)) (by decide) (by decide) (XS.iconst X380.here hx rfl (hb hby at_554) kk)))))))) ?_
                show own_Fin _ _ _ _ _ _ _ (T380.setTop (mkF m 555 #[.val (.int p0), .val (.int p1), .val (.int p2), .val (.int (3 : Int32)), .val (.int xa), .val (.int xb), .val (.int xc), .val (.int xd), .val (.ref b238), .val (.ref b248), .val (.ref b291), .val (.int (2 : Int32)), .val (.ref r380)] [(.int (1 : Int32))]))
                exact own_retZ X380 hx hlk hret rfl (hb hby at_555) (by decide) (by decide) ⟨rfl, N380⟩
              · refine own_go (fun _ kk => XS.ifNo X373.here hx rfl (hb hby at_338) rfl (XT.i0_eq_f hc338) (XS.aload X373.here hx rfl (hb hby at_341) rfl rfl (XS.iload X373.here hx rfl (hb hby at_343) rfl (XS.iload X373.here hx rfl (hb hby at_345) rfl kk)))) ?_
                show own_Fin _ _ _ _ _ _ _ (T373.setTop (mkF m 347 #[.val (.int p0), .val (.int p1), .val (.int p2), .val (.int (3 : Int32)), .val (.int xa), .val (.int xb), .val (.int xc), .val (.int xd), .val (.ref b238), .val (.ref b248), .val (.ref b291), .val (.int (2 : Int32)), .unset] [(.int xc), (.int (2 : Int32)), (.ref b291)]))
                refine own_stI X373 hx hZ e373 A373 (by decide) (by show (2 : Int32).toNatClampNeg < 4; decide) (hb hby at_347) ?_
                intro T387 h387 X387 e387 W387 A387
                have f388 := f374.other W387 ne_b238_b291
                have f389 := f375.wr W387
                have f390 := f376.other W387 ne_b248_b291
                have f391 := f377.wr W387
                have f393 := f379.wr W387
                have Z387 := Nat.le_trans Z373 (Keep.of_wr W387).1
                have A387 : own_Ar Z h387 b291 .int (List.map Value.int [xa, xb, xc, (0 : Int32)]) := A387
                have N387 := Fr.snoc X387 N373 g_b291
                show own_Fin _ _ _ _ _ _ _ (T387.setTop (mkF m 348 #[.val (.int p0), .val (.int p1), .val (.int p2), .val (.int (3 : Int32)), .val (.int xa), .val (.int xb), .val (.int xc), .val (.int xd), .val (.ref b238), .val (.ref b248), .val (.ref b291), .val (.int (2 : Int32)), .unset] []))
                refine own_go (fun _ kk => XS.iinc X387.here hx rfl (hb hby at_348) rfl (l' := #[.val (.int p0), .val (.int p1), .val (.int p2), .val (.int (3 : Int32)), .val (.int xa), .val (.int xb), .val (.int xc), .val (.int xd), .val (.ref b238), .val (.ref b248), .val (.ref b291), .val (.int (3 : Int32)), .unset]) rfl (XS.iloadN X387.here hx rfl (hb hby at_351) rfl (XS.iconst X387.here hx rfl (hb hby at_352) (XS.icmpYes X387.here hx rfl (pc0 := 353) (pc' := 374) rfl (hb hby at_353) rfl (XT.ii_le_t (by decide)) (by decide) (by decide) (XS.aload X387.here hx rfl (hb hby at_374) rfl rfl (XS.aload X387.here hx rfl (hb hby at_376) rfl rfl kk)))))) ?_
                show own_Fin _ _ _ _ _ _ _ (T387.setTop (mkF m 378 #[.val (.int p0), .val (.int p1), .val (.int p2), .val (.int (3 : Int32)), .val (.int xa), .val (.int xb), .val (.int xc), .val (.int xd), .val (.ref b238), .val (.ref b248), .val (.ref b291), .val (.int (3 : Int32)), .unset] [(.ref b248), (.ref b238)]))
                refine own_callS X387 hx hZ hown (hw _ (List.mem_of_getElem? (i := 7) rfl)) (hw _ (List.mem_of_getElem? (i := 8) rfl)) (hw _ (List.mem_of_getElem? (i := 9) rfl)) (hw _ (List.mem_of_getElem? (i := 10) rfl)) (by decide) (rm2 l Z a0 hw b238 b248 h387 n0 Z387 [xa, xb, xc] bs f388 f390 (by show 3 ≤ 4; decide) (List.forall_mem_cons.mpr ⟨sa, (List.forall_mem_cons.mpr ⟨sb, (List.forall_mem_cons.mpr ⟨sc, (fun x h => nomatch h)⟩)⟩)⟩)) e387 (argsL := [(.ref b238), (.ref b248)]) (rest := []) rfl rfl (by rw [hml]; rfl) (lenOf pd_0_1 rfl) (hb hby at_378) (W := 0) (Nat.le_of_eq rfl) (by decide) (by decide) (by decide) (by decide) ?_
                rintro v394 T394 L394 X394 ⟨r394, rfl, M394, Kc394, sz394, A394⟩
                have N394 := Fr.app N387 M394
                have ne394 : r394 ≠ b238 := Nat.ne_of_gt (Nat.lt_of_lt_of_le f388.lt sz394)
                have f395 := f388.keep Kc394 nin0
                have f396 := f389.keep Kc394
                have f397 := f390.keep Kc394 nin0
                have f398 := f391.keep Kc394
                have f399 := A387.keep Kc394 nin0
                have f400 := f393.keep Kc394
                have Z394 := Nat.le_trans Z387 Kc394.1
                have F394 : own_Ar Z T394.heap r394 .int (List.map Value.int [xa, xb, xc]) := by
                  rw [List.filter_cons_of_pos (show own_mk bs xa = true from decide_eq_true hc292), List.filter_cons_of_pos (show own_mk bs xb = true from decide_eq_true hc315), List.filter_cons_of_pos (show own_mk bs xc = true from decide_eq_true hc338), List.filter_nil] at A394
                  exact A394
                show own_Fin _ _ _ _ _ _ _ (T394.setTop (mkF m 381 #[.val (.int p0), .val (.int p1), .val (.int p2), .val (.int (3 : Int32)), .val (.int xa), .val (.int xb), .val (.int xc), .val (.int xd), .val (.ref b238), .val (.ref b248), .val (.ref b291), .val (.int (3 : Int32)), .unset] [(.ref r394)]))
                refine own_go (fun _ kk => XS.astore X394.here hx rfl (hb hby at_381) rfl rfl (l' := #[.val (.int p0), .val (.int p1), .val (.int p2), .val (.int (3 : Int32)), .val (.int xa), .val (.int xb), .val (.int xc), .val (.int xd), .val (.ref b238), .val (.ref b248), .val (.ref b291), .val (.int (3 : Int32)), .val (.ref r394)]) rfl (XS.aload X394.here hx rfl (hb hby at_383) rfl rfl (XS.ifnullNo X394.here hx rfl (hb hby at_385) rfl (XS.aload X394.here hx rfl (hb hby at_388) rfl rfl (XS.aload X394.here hx rfl (hb hby at_390) rfl rfl (XT.acmpYes X394.here hx rfl (pc0 := 392) (pc' := 397) rfl (hb hby at_392) rfl rfl rfl (XT.aa_ne_t (fun q => ne394 (Value.ref.inj q))) (by decide) (by decide) (XS.aload X394.here hx rfl (hb hby at_397) rfl rfl kk))))))) ?_
                show own_Fin _ _ _ _ _ _ _ (T394.setTop (mkF m 399 #[.val (.int p0), .val (.int p1), .val (.int p2), .val (.int (3 : Int32)), .val (.int xa), .val (.int xb), .val (.int xc), .val (.int xd), .val (.ref b238), .val (.ref b248), .val (.ref b291), .val (.int (3 : Int32)), .val (.ref r394)] [(.ref b238)]))
                refine own_alen X394 hx hZ rfl f395 (hb hby at_399) ?_
                show own_Fin _ _ _ _ _ _ _ (T394.setTop (mkF m 400 #[.val (.int p0), .val (.int p1), .val (.int p2), .val (.int (3 : Int32)), .val (.int xa), .val (.int xb), .val (.int xc), .val (.int xd), .val (.ref b238), .val (.ref b248), .val (.ref b291), .val (.int (3 : Int32)), .val (.ref r394)] [(.int (3 : Int32))]))
                refine own_go (fun _ kk => XS.iloadN X394.here hx rfl (hb hby at_400) rfl (XS.icmpYes X394.here hx rfl (pc0 := 401) (pc' := 406) rfl (hb hby at_401) rfl (XT.ii_eq_t (by decide)) (by decide) (by decide) (XS.iloadN X394.here hx rfl (hb hby at_406) rfl (XS.ifNo X394.here hx rfl (hb hby at_407) rfl (XT.i0_le_f (by decide)) (XS.aload X394.here hx rfl (hb hby at_410) rfl rfl (XS.iconst X394.here hx rfl (hb hby at_412) kk)))))) ?_
                show own_Fin _ _ _ _ _ _ _ (T394.setTop (mkF m 413 #[.val (.int p0), .val (.int p1), .val (.int p2), .val (.int (3 : Int32)), .val (.int xa), .val (.int xb), .val (.int xc), .val (.int xd), .val (.ref b238), .val (.ref b248), .val (.ref b291), .val (.int (3 : Int32)), .val (.ref r394)] [(.int (0 : Int32)), (.ref b238)]))
                refine own_ldI X394 hx hZ rfl f395 (by decide) (by show (0 : Int32).toNatClampNeg < 3; decide) (hb hby at_413) ?_
                show own_Fin _ _ _ _ _ _ _ (T394.setTop (mkF m 414 #[.val (.int p0), .val (.int p1), .val (.int p2), .val (.int (3 : Int32)), .val (.int xa), .val (.int xb), .val (.int xc), .val (.int xd), .val (.ref b238), .val (.ref b248), .val (.ref b291), .val (.int (3 : Int32)), .val (.ref r394)] [(.int xa)]))
                refine own_go (fun _ kk => XS.iload X394.here hx rfl (hb hby at_414) rfl (XS.icmpYes X394.here hx rfl (pc0 := 416) (pc' := 421) rfl (hb hby at_416) rfl (XT.ii_eq_t rfl) (by decide) (by decide) (XS.iloadN X394.here hx rfl (hb hby at_421) rfl (XS.iconst X394.here hx rfl (hb hby at_422) (XS.icmpNo X394.here hx rfl (hb hby at_423) rfl (XT.ii_le_f (by decide)) (XS.aload X394.here hx rfl (hb hby at_426) rfl rfl (XS.iconst X394.here hx rfl (hb hby at_428) kk))))))) ?_
                show own_Fin _ _ _ _ _ _ _ (T394.setTop (mkF m 429 #[.val (.int p0), .val (.int p1), .val (.int p2), .val (.int (3 : Int32)), .val (.int xa), .val (.int xb), .val (.int xc), .val (.int xd), .val (.ref b238), .val (.ref b248), .val (.ref b291), .val (.int (3 : Int32)), .val (.ref r394)] [(.int (1 : Int32)), (.ref b238)]))
                refine own_ldI X394 hx hZ rfl f395 (by decide) (by show (1 : Int32).toNatClampNeg < 3; decide) (hb hby at_429) ?_
                show own_Fin _ _ _ _ _ _ _ (T394.setTop (mkF m 430 #[.val (.int p0), .val (.int p1), .val (.int p2), .val (.int (3 : Int32)), .val (.int xa), .val (.int xb), .val (.int xc), .val (.int xd), .val (.ref b238), .val (.ref b248), .val (.ref b291), .val (.int (3 : Int32)), .val (.ref r394)] [(.int xb)]))
                refine own_go (fun _ kk => XS.iload X394.here hx rfl (hb hby at_430) rfl (XS.icmpYes X394.here hx rfl (pc0 := 432) (pc' := 437) rfl (hb hby at_432) rfl (XT.ii_eq_t rfl) (by decide) (by decide) (XS.iloadN X394.here hx rfl (hb hby at_437) rfl (XS.iconst X394.here hx rfl (hb hby at_438) (XS.icmpNo X394.here hx rfl (hb hby at_439) rfl (XT.ii_le_f (by decide)) (XS.aload X394.here hx rfl (hb hby at_442) rfl rfl (XS.iconst X394.here hx rfl (hb hby at_444) kk))))))) ?_
                show own_Fin _ _ _ _ _ _ _ (T394.setTop (mkF m 445 #[.val (.int p0), .val (.int p1), .val (.int p2), .val (.int (3 : Int32)), .val (.int xa), .val (.int xb), .val (.int xc), .val (.int xd), .val (.ref b238), .val (.ref b248), .val (.ref b291), .val (.int (3 : Int32)), .val (.ref r394)] [(.int (2 : Int32)), (.ref b238)]))
                refine own_ldI X394 hx hZ rfl f395 (by decide) (by show (2 : Int32).toNatClampNeg < 3; decide) (hb hby at_445) ?_
                show own_Fin _ _ _ _ _ _ _ (T394.setTop (mkF m 446 #[.val (.int p0), .val (.int p1), .val (.int p2), .val (.int (3 : Int32)), .val (.int xa), .val (.int xb), .val (.int xc), .val (.int xd), .val (.ref b238), .val (.ref b248), .val (.ref b291), .val (.int (3 : Int32)), .val (.ref r394)] [(.int xc)]))
                refine own_go (fun _ kk => XS.iload X394.here hx rfl (hb hby at_446) rfl (XS.icmpYes X394.here hx rfl (pc0 := 448) (pc' := 453) rfl (hb hby at_448) rfl (XT.ii_eq_t rfl) (by decide) (by decide) (XS.iloadN X394.here hx rfl (hb hby at_453) rfl (XS.iconst X394.here hx rfl (hb hby at_454) (XS.icmpYes X394.here hx rfl (pc0 := 455) (pc' := 469) rfl (hb hby at_455) rfl (XT.ii_le_t (by decide)) (by decide) (by decide) (XS.aload X394.here hx rfl (hb hby at_469) rfl rfl kk)))))) ?_
                show own_Fin _ _ _ _ _ _ _ (T394.setTop (mkF m 471 #[.val (.int p0), .val (.int p1), .val (.int p2), .val (.int (3 : Int32)), .val (.int xa), .val (.int xb), .val (.int xc), .val (.int xd), .val (.ref b238), .val (.ref b248), .val (.ref b291), .val (.int (3 : Int32)), .val (.ref r394)] [(.ref r394)]))
                refine own_alen X394 hx hZ rfl F394 (hb hby at_471) ?_
                show own_Fin _ _ _ _ _ _ _ (T394.setTop (mkF m 472 #[.val (.int p0), .val (.int p1), .val (.int p2), .val (.int (3 : Int32)), .val (.int xa), .val (.int xb), .val (.int xc), .val (.int xd), .val (.ref b238), .val (.ref b248), .val (.ref b291), .val (.int (3 : Int32)), .val (.ref r394)] [(.int (3 : Int32))]))
                refine own_go (fun _ kk => XS.iload X394.here hx rfl (hb hby at_472) rfl (XS.icmpYes X394.here hx rfl (pc0 := 474) (pc' := 479) rfl (hb hby at_474) rfl (XT.ii_eq_t (by decide)) (by decide) (by decide) (XS.iload X394.here hx rfl (hb hby at_479) rfl (XS.ifNo X394.here hx rfl (hb hby at_481) rfl (XT.i0_le_f (by decide)) (XS.aload X394.here hx rfl (hb hby at_484) rfl rfl (XS.iconst X394.here hx rfl (hb hby at_486) kk)))))) ?_
                show own_Fin _ _ _ _ _ _ _ (T394.setTop (mkF m 487 #[.val (.int p0), .val (.int p1), .val (.int p2), .val (.int (3 : Int32)), .val (.int xa), .val (.int xb), .val (.int xc), .val (.int xd), .val (.ref b238), .val (.ref b248), .val (.ref b291), .val (.int (3 : Int32)), .val (.ref r394)] [(.int (0 : Int32)), (.ref r394)]))
                refine own_ldI X394 hx hZ rfl F394 (by decide) (by show (0 : Int32).toNatClampNeg < 3; decide) (hb hby at_487) ?_
                show own_Fin _ _ _ _ _ _ _ (T394.setTop (mkF m 488 #[.val (.int p0), .val (.int p1), .val (.int p2), .val (.int (3 : Int32)), .val (.int xa), .val (.int xb), .val (.int xc), .val (.int xd), .val (.ref b238), .val (.ref b248), .val (.ref b291), .val (.int (3 : Int32)), .val (.ref r394)] [(.int xa)]))
                refine own_go (fun _ kk => XS.aload X394.here hx rfl (hb hby at_488) rfl rfl (XS.iconst X394.here hx rfl (hb hby at_490) kk)) ?_
                show own_Fin _ _ _ _ _ _ _ (T394.setTop (mkF m 491 #[.val (.int p0), .val (.int p1), .val (.int p2), .val (.int (3 : Int32)), .val (.int xa), .val (.int xb), .val (.int xc), .val (.int xd), .val (.ref b238), .val (.ref b248), .val (.ref b291), .val (.int (3 : Int32)), .val (.ref r394)] [(.int (0 : Int32)), (.ref b291), (.int xa)]))
                refine own_ldI X394 hx hZ rfl f399 (by decide) (by show (0 : Int32).toNatClampNeg < 4; decide) (hb hby at_491) ?_
                show own_Fin _ _ _ _ _ _ _ (T394.setTop (mkF m 492 #[.val (.int p0), .val (.int p1), .val (.int p2), .val (.int (3 : Int32)), .val (.int xa), .val (.int xb), .val (.int xc), .val (.int xd), .val (.ref b238), .val (.ref b248), .val (.ref b291), .val (.int (3 : Int32)), .val (.ref r394)] [(.int xa), (.int xa)]))
                refine own_go (fun _ kk => XS.icmpYes X394.here hx rfl (pc0 := 492) (pc' := 497) rfl (hb hby at_492) rfl (XT.ii_eq_t rfl) (by decide) (by decide) (XS.iload X394.here hx rfl (hb hby at_497) rfl (XS.iconst X394.here hx rfl (hb hby at_499) (XS.icmpNo X394.here hx rfl (hb hby at_500) rfl (XT.ii_le_f (by decide)) (XS.aload X394.here hx rfl (hb hby at_503) rfl rfl (XS.iconst X394.here hx rfl (hb hby at_505) kk)))))) ?_
                show own_Fin _ _ _ _ _ _ _ (T394.setTop (mkF m 506 #[.val (.int p0), .val (.int p1), .val (.int p2), .val (.int (3 : Int32)), .val (.int xa), .val (.int xb), .val (.int xc), .val (.int xd), .val (.ref b238), .val (.ref b248), .val (.ref b291), .val (.int (3 : Int32)), .val (.ref r394)] [(.int (1 : Int32)), (.ref r394)]))
                refine own_ldI X394 hx hZ rfl F394 (by decide) (by show (1 : Int32).toNatClampNeg < 3; decide) (hb hby at_506) ?_
                show own_Fin _ _ _ _ _ _ _ (T394.setTop (mkF m 507 #[.val (.int p0), .val (.int p1), .val (.int p2), .val (.int (3 : Int32)), .val (.int xa), .val (.int xb), .val (.int xc), .val (.int xd), .val (.ref b238), .val (.ref b248), .val (.ref b291), .val (.int (3 : Int32)), .val (.ref r394)] [(.int xb)]))
                refine own_go (fun _ kk => XS.aload X394.here hx rfl (hb hby at_507) rfl rfl (XS.iconst X394.here hx rfl (hb hby at_509) kk)) ?_
                show own_Fin _ _ _ _ _ _ _ (T394.setTop (mkF m 510 #[.val (.int p0), .val (.int p1), .val (.int p2), .val (.int (3 : Int32)), .val (.int xa), .val (.int xb), .val (.int xc), .val (.int xd), .val (.ref b238), .val (.ref b248), .val (.ref b291), .val (.int (3 : Int32)), .val (.ref r394)] [(.int (1 : Int32)), (.ref b291), (.int xb)]))
                refine own_ldI X394 hx hZ rfl f399 (by decide) (by show (1 : Int32).toNatClampNeg < 4; decide) (hb hby at_510) ?_
                show own_Fin _ _ _ _ _ _ _ (T394.setTop (mkF m 511 #[.val (.int p0), .val (.int p1), .val (.int p2), .val (.int (3 : Int32)), .val (.int xa), .val (.int xb), .val (.int xc), .val (.int xd), .val (.ref b238), .val (.ref b248), .val (.ref b291), .val (.int (3 : Int32)), .val (.ref r394)] [(.int xb), (.int xb)]))
                refine own_go (fun _ kk => XS.icmpYes X394.here hx rfl (pc0 := 511) (pc' := 516) rfl (hb hby at_511) rfl (XT.ii_eq_t rfl) (by decide) (by decide) (XS.iload X394.here hx rfl (hb hby at_516) rfl (XS.iconst X394.here hx rfl (hb hby at_518) (XS.icmpNo X394.here hx rfl (hb hby at_519) rfl (XT.ii_le_f (by decide)) (XS.aload X394.here hx rfl (hb hby at_522) rfl rfl (XS.iconst X394.here hx rfl (hb hby at_524) kk)))))) ?_
                show own_Fin _ _ _ _ _ _ _ (T394.setTop (mkF m 525 #[.val (.int p0), .val (.int p1), .val (.int p2), .val (.int (3 : Int32)), .val (.int xa), .val (.int xb), .val (.int xc), .val (.int xd), .val (.ref b238), .val (.ref b248), .val (.ref b291), .val (.int (3 : Int32)), .val (.ref r394)] [(.int (2 : Int32)), (.ref r394)]))
                refine own_ldI X394 hx hZ rfl F394 (by decide) (by show (2 : Int32).toNatClampNeg < 3; decide) (hb hby at_525) ?_
                show own_Fin _ _ _ _ _ _ _ (T394.setTop (mkF m 526 #[.val (.int p0), .val (.int p1), .val (.int p2), .val (.int (3 : Int32)), .val (.int xa), .val (.int xb), .val (.int xc), .val (.int xd), .val (.ref b238), .val (.ref b248), .val (.ref b291), .val (.int (3 : Int32)), .val (.ref r394)] [(.int xc)]))
                refine own_go (fun _ kk => XS.aload X394.here hx rfl (hb hby at_526) rfl rfl (XS.iconst X394.here hx rfl (hb hby at_528) kk)) ?_
                show own_Fin _ _ _ _ _ _ _ (T394.setTop (mkF m 529 #[.val (.int p0), .val (.int p1), .val (.int p2), .val (.int (3 : Int32)), .val (.int xa), .val (.int xb), .val (.int xc), .val (.int xd), .val (.ref b238), .val (.ref b248), .val (.ref b291), .val (.int (3 : Int32)), .val (.ref r394)] [(.int (2 : Int32)), (.ref b291), (.int xc)]))
                refine own_ldI X394 hx hZ rfl f399 (by decide) (by show (2 : Int32).toNatClampNeg < 4; decide) (hb hby at_529) ?_
                show own_Fin _ _ _ _ _ _ _ (T394.setTop (mkF m 530 #[.val (.int p0), .val (.int p1), .val (.int p2), .val (.int (3 : Int32)), .val (.int xa), .val (.int xb), .val (.int xc), .val (.int xd), .val (.ref b238), .val (.ref b248), .val (.ref b291), .val (.int (3 : Int32)), .val (.ref r394)] [(.int xc), (.int xc)]))
                refine own_go (fun _ kk => XS.icmpYes X394.here hx rfl (pc0 := 530) (pc' := 535) rfl (hb hby at_530) rfl (XT.ii_eq_t rfl) (by decide) (by decide) (XS.iload X394.here hx rfl (hb hby at_535) rfl (XS.iconst X394.here hx rfl (hb hby at_537) (XS.icmpYes X394.here hx rfl (pc0 := 538) (pc' := 554) rfl (hb hby at_538) rfl (XT.ii_le_t (by decide)) (by decide) (by decide) (XS.iconst X394.here hx rfl (hb hby at_554) kk))))) ?_
                show own_Fin _ _ _ _ _ _ _ (T394.setTop (mkF m 555 #[.val (.int p0), .val (.int p1), .val (.int p2), .val (.int (3 : Int32)), .val (.int xa), .val (.int xb), .val (.int xc), .val (.int xd), .val (.ref b238), .val (.ref b248), .val (.ref b291), .val (.int (3 : Int32)), .val (.ref r394)] [(.int (1 : Int32))]))
                exact own_retZ X394 hx hlk hret rfl (hb hby at_555) (by decide) (by decide) ⟨rfl, N394⟩
        · refine own_go (fun _ kk => XS.icmpYes X4.here hx rfl (pc0 := 90) (pc' := 116) rfl (hb hby at_90) rfl (XT.ii_ne_t hc90) (by decide) (by decide) kk) ?_
          show own_Fin _ _ _ _ _ _ _ (T4.setTop (mkF m 116 #[.val (.int p0), .val (.int p1), .val (.int p2), .val (.int n), .val (.int xa), .val (.int xb), .val (.int xc), .val (.int xd), .unset, .unset, .unset, .unset, .unset] []))
          have hc4 : n = (4 : Int32) := own_five hn hc36 hc49 hc67 hc90
          subst hc4
          show own_Fin _ _ _ _ _ _ _ (T4.setTop (mkF m 116 #[.val (.int p0), .val (.int p1), .val (.int p2), .val (.int (4 : Int32)), .val (.int xa), .val (.int xb), .val (.int xc), .val (.int xd), .unset, .unset, .unset, .unset, .unset] []))
          refine own_go (fun _ kk => XS.iconst X4.here hx rfl (hb hby at_116) kk) ?_
          show own_Fin _ _ _ _ _ _ _ (T4.setTop (mkF m 117 #[.val (.int p0), .val (.int p1), .val (.int p2), .val (.int (4 : Int32)), .val (.int xa), .val (.int xb), .val (.int xc), .val (.int xd), .unset, .unset, .unset, .unset, .unset] [(.int (4 : Int32))]))
          refine own_newI X4 hx hZ (hw _ (List.mem_of_getElem? (i := 5) rfl)) e4 (hb hby at_117) (by decide) (cap := 4) (by decide) (by decide) (by decide) (by decide) ?_
          intro T401 h401 b401 g401 X401 e401 E401 A401 D401
          have g_b401 : n0 ≤ b401 := Nat.le_trans Z0 (Nat.le_of_eq g401.symm)
          have Z401 := Nat.le_trans Z0 E401.1
          have A401 : own_Ar Z h401 b401 .int (List.map Value.int [(0 : Int32), (0 : Int32), (0 : Int32), (0 : Int32)]) := A401
          show own_Fin _ _ _ _ _ _ _ (T401.setTop (mkF m 119 #[.val (.int p0), .val (.int p1), .val (.int p2), .val (.int (4 : Int32)), .val (.int xa), .val (.int xb), .val (.int xc), .val (.int xd), .unset, .unset, .unset, .unset, .unset] [(.ref b401)]))
          refine own_go (fun _ kk => XS.dup X401.here hx rfl (hb hby at_119) rfl rfl (XS.iconst X401.here hx rfl (hb hby at_120) (XS.iload X401.here hx rfl (hb hby at_121) rfl kk))) ?_
          show own_Fin _ _ _ _ _ _ _ (T401.setTop (mkF m 123 #[.val (.int p0), .val (.int p1), .val (.int p2), .val (.int (4 : Int32)), .val (.int xa), .val (.int xb), .val (.int xc), .val (.int xd), .unset, .unset, .unset, .unset, .unset] [(.int xa), (.int (0 : Int32)), (.ref b401), (.ref b401)]))
          refine own_stI X401 hx hZ e401 A401 (by decide) (by show (0 : Int32).toNatClampNeg < 4; decide) (hb hby at_123) ?_
          intro T402 h402 X402 e402 W402 A402
          have f404 := D401.wr W402
          have Z402 := Nat.le_trans Z401 (Keep.of_wr W402).1
          have A402 : own_Ar Z h402 b401 .int (List.map Value.int [xa, (0 : Int32), (0 : Int32), (0 : Int32)]) := A402
          have N402 := Fr.snoc X402 N4 g_b401
          show own_Fin _ _ _ _ _ _ _ (T402.setTop (mkF m 124 #[.val (.int p0), .val (.int p1), .val (.int p2), .val (.int (4 : Int32)), .val (.int xa), .val (.int xb), .val (.int xc), .val (.int xd), .unset, .unset, .unset, .unset, .unset] [(.ref b401)]))
          refine own_go (fun _ kk => XS.dup X402.here hx rfl (hb hby at_124) rfl rfl (XS.iconst X402.here hx rfl (hb hby at_125) (XS.iload X402.here hx rfl (hb hby at_126) rfl kk))) ?_
          show own_Fin _ _ _ _ _ _ _ (T402.setTop (mkF m 128 #[.val (.int p0), .val (.int p1), .val (.int p2), .val (.int (4 : Int32)), .val (.int xa), .val (.int xb), .val (.int xc), .val (.int xd), .unset, .unset, .unset, .unset, .unset] [(.int xb), (.int (1 : Int32)), (.ref b401), (.ref b401)]))
          refine own_stI X402 hx hZ e402 A402 (by decide) (by show (1 : Int32).toNatClampNeg < 4; decide) (hb hby at_128) ?_
          intro T405 h405 X405 e405 W405 A405
          have f407 := f404.wr W405
          have Z405 := Nat.le_trans Z402 (Keep.of_wr W405).1
          have A405 : own_Ar Z h405 b401 .int (List.map Value.int [xa, xb, (0 : Int32), (0 : Int32)]) := A405
          have N405 := Fr.snoc X405 N402 g_b401
          show own_Fin _ _ _ _ _ _ _ (T405.setTop (mkF m 129 #[.val (.int p0), .val (.int p1), .val (.int p2), .val (.int (4 : Int32)), .val (.int xa), .val (.int xb), .val (.int xc), .val (.int xd), .unset, .unset, .unset, .unset, .unset] [(.ref b401)]))
          refine own_go (fun _ kk => XS.dup X405.here hx rfl (hb hby at_129) rfl rfl (XS.iconst X405.here hx rfl (hb hby at_130) (XS.iload X405.here hx rfl (hb hby at_131) rfl kk))) ?_
          show own_Fin _ _ _ _ _ _ _ (T405.setTop (mkF m 133 #[.val (.int p0), .val (.int p1), .val (.int p2), .val (.int (4 : Int32)), .val (.int xa), .val (.int xb), .val (.int xc), .val (.int xd), .unset, .unset, .unset, .unset, .unset] [(.int xc), (.int (2 : Int32)), (.ref b401), (.ref b401)]))
          refine own_stI X405 hx hZ e405 A405 (by decide) (by show (2 : Int32).toNatClampNeg < 4; decide) (hb hby at_133) ?_
          intro T408 h408 X408 e408 W408 A408
          have f410 := f407.wr W408
          have Z408 := Nat.le_trans Z405 (Keep.of_wr W408).1
          have A408 : own_Ar Z h408 b401 .int (List.map Value.int [xa, xb, xc, (0 : Int32)]) := A408
          have N408 := Fr.snoc X408 N405 g_b401
          show own_Fin _ _ _ _ _ _ _ (T408.setTop (mkF m 134 #[.val (.int p0), .val (.int p1), .val (.int p2), .val (.int (4 : Int32)), .val (.int xa), .val (.int xb), .val (.int xc), .val (.int xd), .unset, .unset, .unset, .unset, .unset] [(.ref b401)]))
          refine own_go (fun _ kk => XS.dup X408.here hx rfl (hb hby at_134) rfl rfl (XS.iconst X408.here hx rfl (hb hby at_135) (XS.iload X408.here hx rfl (hb hby at_136) rfl kk))) ?_
          show own_Fin _ _ _ _ _ _ _ (T408.setTop (mkF m 138 #[.val (.int p0), .val (.int p1), .val (.int p2), .val (.int (4 : Int32)), .val (.int xa), .val (.int xb), .val (.int xc), .val (.int xd), .unset, .unset, .unset, .unset, .unset] [(.int xd), (.int (3 : Int32)), (.ref b401), (.ref b401)]))
          refine own_stI X408 hx hZ e408 A408 (by decide) (by show (3 : Int32).toNatClampNeg < 4; decide) (hb hby at_138) ?_
          intro T411 h411 X411 e411 W411 A411
          have f413 := f410.wr W411
          have Z411 := Nat.le_trans Z408 (Keep.of_wr W411).1
          have A411 : own_Ar Z h411 b401 .int (List.map Value.int [xa, xb, xc, xd]) := A411
          have N411 := Fr.snoc X411 N408 g_b401
          show own_Fin _ _ _ _ _ _ _ (T411.setTop (mkF m 139 #[.val (.int p0), .val (.int p1), .val (.int p2), .val (.int (4 : Int32)), .val (.int xa), .val (.int xb), .val (.int xc), .val (.int xd), .unset, .unset, .unset, .unset, .unset] [(.ref b401)]))
          refine own_go (fun _ kk => XS.astore X411.here hx rfl (hb hby at_139) rfl rfl (l' := #[.val (.int p0), .val (.int p1), .val (.int p2), .val (.int (4 : Int32)), .val (.int xa), .val (.int xb), .val (.int xc), .val (.int xd), .val (.ref b401), .unset, .unset, .unset, .unset]) rfl (XS.bipush X411.here hx rfl (hb hby at_141) kk)) ?_
          show own_Fin _ _ _ _ _ _ _ (T411.setTop (mkF m 143 #[.val (.int p0), .val (.int p1), .val (.int p2), .val (.int (4 : Int32)), .val (.int xa), .val (.int xb), .val (.int xc), .val (.int xd), .val (.ref b401), .unset, .unset, .unset, .unset] [(.int (8 : Int32))]))
          refine own_newZ X411 hx hZ (hw _ (List.mem_of_getElem? (i := 6) rfl)) e411 (hb hby at_143) (by decide) (cap := 8) (by decide) (by decide) (by decide) (by decide) ?_
          intro T414 h414 b414 g414 X414 e414 E414 A414 D414
          have g_b414 : n0 ≤ b414 := Nat.le_trans Z411 (Nat.le_of_eq g414.symm)
          have ne_b401_b414 : b401 ≠ b414 := Nat.ne_of_lt (Nat.lt_of_lt_of_le A411.lt (Nat.le_of_eq g414.symm))
          have f415 := A411.ext E414
          have f416 := f413.ext E414
          have Z414 := Nat.le_trans Z411 E414.1
          have A414 : own_Ar Z h414 b414 .boolean (List.map Value.int [(0 : Int32), (0 : Int32), (0 : Int32), (0 : Int32), (0 : Int32), (0 : Int32), (0 : Int32), (0 : Int32)]) := A414
          show own_Fin _ _ _ _ _ _ _ (T414.setTop (mkF m 145 #[.val (.int p0), .val (.int p1), .val (.int p2), .val (.int (4 : Int32)), .val (.int xa), .val (.int xb), .val (.int xc), .val (.int xd), .val (.ref b401), .unset, .unset, .unset, .unset] [(.ref b414)]))
          refine own_go (fun _ kk => XS.astore X414.here hx rfl (hb hby at_145) rfl rfl (l' := #[.val (.int p0), .val (.int p1), .val (.int p2), .val (.int (4 : Int32)), .val (.int xa), .val (.int xb), .val (.int xc), .val (.int xd), .val (.ref b401), .val (.ref b414), .unset, .unset, .unset]) rfl (XS.aload X414.here hx rfl (hb hby at_147) rfl rfl (XS.iconst X414.here hx rfl (hb hby at_149) (XS.iloadN X414.here hx rfl (hb hby at_150) rfl (XS.iconst X414.here hx rfl (hb hby at_151) (XS.iand X414.here hx rfl (hb hby at_152) rfl kk)))))) ?_
          show own_Fin _ _ _ _ _ _ _ (T414.setTop (mkF m 153 #[.val (.int p0), .val (.int p1), .val (.int p2), .val (.int (4 : Int32)), .val (.int xa), .val (.int xb), .val (.int xc), .val (.int xd), .val (.ref b401), .val (.ref b414), .unset, .unset, .unset] [(.int (p2 &&& (1 : Int32))), (.int (0 : Int32)), (.ref b414)]))
          refine own_go (U' := T414.setTop (mkF m 161 #[.val (.int p0), .val (.int p1), .val (.int p2), .val (.int (4 : Int32)), .val (.int xa), .val (.int xb), .val (.int xc), .val (.int xd), .val (.ref b401), .val (.ref b414), .unset, .unset, .unset] [(.int (if (p2 &&& (1 : Int32)) = 0 then (0 : Int32) else (1 : Int32))), (.int (0 : Int32)), (.ref b414)])) (fun t k => ?_) ?_
          · by_cases hd153 : (p2 &&& (1 : Int32)) = 0
            · simp only [if_pos hd153] at k
              refine XS.ifYes X414.here hx rfl (pc0 := 153) (pc' := 160) rfl (hb hby at_153) rfl (XT.i0_eq_t hd153) (by decide) (by decide) (XS.iconst X414.here hx rfl (hb hby at_160) ?_)
              show Steps p.tables e below (T414.setTop (mkF m 161 #[.val (.int p0), .val (.int p1), .val (.int p2), .val (.int (4 : Int32)), .val (.int xa), .val (.int xb), .val (.int xc), .val (.int xd), .val (.ref b401), .val (.ref b414), .unset, .unset, .unset] [(.int (0 : Int32)), (.int (0 : Int32)), (.ref b414)])) _
              exact k
            · simp only [if_neg hd153] at k
              refine XS.ifNo X414.here hx rfl (hb hby at_153) rfl (XT.i0_eq_f hd153) (XS.iconst X414.here hx rfl (hb hby at_156) (XS.goto X414.here hx rfl (pc0 := 157) (pc' := 161) rfl (hb hby at_157) (by decide) (by decide) ?_))
              show Steps p.tables e below (T414.setTop (mkF m 161 #[.val (.int p0), .val (.int p1), .val (.int p2), .val (.int (4 : Int32)), .val (.int xa), .val (.int xb), .val (.int xc), .val (.int xd), .val (.ref b401), .val (.ref b414), .unset, .unset, .unset] [(.int (1 : Int32)), (.int (0 : Int32)), (.ref b414)])) _
              exact k
          show own_Fin _ _ _ _ _ _ _ (T414.setTop (mkF m 161 #[.val (.int p0), .val (.int p1), .val (.int p2), .val (.int (4 : Int32)), .val (.int xa), .val (.int xb), .val (.int xc), .val (.int xd), .val (.ref b401), .val (.ref b414), .unset, .unset, .unset] [(.int (if (p2 &&& (1 : Int32)) = 0 then (0 : Int32) else (1 : Int32))), (.int (0 : Int32)), (.ref b414)]))
          refine own_stZ X414 hx hZ e414 A414 (by decide) (by show (0 : Int32).toNatClampNeg < 8; decide) (hb hby at_161) (by split <;> rfl) ?_
          intro T417 h417 X417 e417 W417 A417
          have f418 := f415.other W417 ne_b401_b414
          have f419 := f416.wr W417
          have f421 := D414.wr W417
          have Z417 := Nat.le_trans Z414 (Keep.of_wr W417).1
          have A417 : own_Ar Z h417 b414 .boolean (List.map Value.int [(if (p2 &&& (1 : Int32)) = 0 then (0 : Int32) else (1 : Int32)), (0 : Int32), (0 : Int32), (0 : Int32), (0 : Int32), (0 : Int32), (0 : Int32), (0 : Int32)]) := A417
          have N417 := Fr.snoc X417 N411 g_b414
          show own_Fin _ _ _ _ _ _ _ (T417.setTop (mkF m 162 #[.val (.int p0), .val (.int p1), .val (.int p2), .val (.int (4 : Int32)), .val (.int xa), .val (.int xb), .val (.int xc), .val (.int xd), .val (.ref b401), .val (.ref b414), .unset, .unset, .unset] []))
          refine own_go (fun _ kk => XS.aload X417.here hx rfl (hb hby at_162) rfl rfl (XS.iconst X417.here hx rfl (hb hby at_164) (XS.iloadN X417.here hx rfl (hb hby at_165) rfl (XS.iconst X417.here hx rfl (hb hby at_166) (XS.iand X417.here hx rfl (hb hby at_167) rfl kk))))) ?_
          show own_Fin _ _ _ _ _ _ _ (T417.setTop (mkF m 168 #[.val (.int p0), .val (.int p1), .val (.int p2), .val (.int (4 : Int32)), .val (.int xa), .val (.int xb), .val (.int xc), .val (.int xd), .val (.ref b401), .val (.ref b414), .unset, .unset, .unset] [(.int (p2 &&& (2 : Int32))), (.int (1 : Int32)), (.ref b414)]))
          refine own_go (U' := T417.setTop (mkF m 176 #[.val (.int p0), .val (.int p1), .val (.int p2), .val (.int (4 : Int32)), .val (.int xa), .val (.int xb), .val (.int xc), .val (.int xd), .val (.ref b401), .val (.ref b414), .unset, .unset, .unset] [(.int (if (p2 &&& (2 : Int32)) = 0 then (0 : Int32) else (1 : Int32))), (.int (1 : Int32)), (.ref b414)])) (fun t k => ?_) ?_
          · by_cases hd168 : (p2 &&& (2 : Int32)) = 0
            · simp only [if_pos hd168] at k
              refine XS.ifYes X417.here hx rfl (pc0 := 168) (pc' := 175) rfl (hb hby at_168) rfl (XT.i0_eq_t hd168) (by decide) (by decide) (XS.iconst X417.here hx rfl (hb hby at_175) ?_)
              show Steps p.tables e below (T417.setTop (mkF m 176 #[.val (.int p0), .val (.int p1), .val (.int p2), .val (.int (4 : Int32)), .val (.int xa), .val (.int xb), .val (.int xc), .val (.int xd), .val (.ref b401), .val (.ref b414), .unset, .unset, .unset] [(.int (0 : Int32)), (.int (1 : Int32)), (.ref b414)])) _
              exact k
            · simp only [if_neg hd168] at k
              refine XS.ifNo X417.here hx rfl (hb hby at_168) rfl (XT.i0_eq_f hd168) (XS.iconst X417.here hx rfl (hb hby at_171) (XS.goto X417.here hx rfl (pc0 := 172) (pc' := 176) rfl (hb hby at_172) (by decide) (by decide) ?_))
              show Steps p.tables e below (T417.setTop (mkF m 176 #[.val (.int p0), .val (.int p1), .val (.int p2), .val (.int (4 : Int32)), .val (.int xa), .val (.int xb), .val (.int xc), .val (.int xd), .val (.ref b401), .val (.ref b414), .unset, .unset, .unset] [(.int (1 : Int32)), (.int (1 : Int32)), (.ref b414)])) _
              exact k
          show own_Fin _ _ _ _ _ _ _ (T417.setTop (mkF m 176 #[.val (.int p0), .val (.int p1), .val (.int p2), .val (.int (4 : Int32)), .val (.int xa), .val (.int xb), .val (.int xc), .val (.int xd), .val (.ref b401), .val (.ref b414), .unset, .unset, .unset] [(.int (if (p2 &&& (2 : Int32)) = 0 then (0 : Int32) else (1 : Int32))), (.int (1 : Int32)), (.ref b414)]))
          refine own_stZ X417 hx hZ e417 A417 (by decide) (by show (1 : Int32).toNatClampNeg < 8; decide) (hb hby at_176) (by split <;> rfl) ?_
          intro T422 h422 X422 e422 W422 A422
          have f423 := f418.other W422 ne_b401_b414
          have f424 := f419.wr W422
          have f426 := f421.wr W422
          have Z422 := Nat.le_trans Z417 (Keep.of_wr W422).1
          have A422 : own_Ar Z h422 b414 .boolean (List.map Value.int [(if (p2 &&& (1 : Int32)) = 0 then (0 : Int32) else (1 : Int32)), (if (p2 &&& (2 : Int32)) = 0 then (0 : Int32) else (1 : Int32)), (0 : Int32), (0 : Int32), (0 : Int32), (0 : Int32), (0 : Int32), (0 : Int32)]) := A422
          have N422 := Fr.snoc X422 N417 g_b414
          show own_Fin _ _ _ _ _ _ _ (T422.setTop (mkF m 177 #[.val (.int p0), .val (.int p1), .val (.int p2), .val (.int (4 : Int32)), .val (.int xa), .val (.int xb), .val (.int xc), .val (.int xd), .val (.ref b401), .val (.ref b414), .unset, .unset, .unset] []))
          refine own_go (fun _ kk => XS.aload X422.here hx rfl (hb hby at_177) rfl rfl (XS.iconst X422.here hx rfl (hb hby at_179) (XS.iloadN X422.here hx rfl (hb hby at_180) rfl (XS.iconst X422.here hx rfl (hb hby at_181) (XS.iand X422.here hx rfl (hb hby at_182) rfl kk))))) ?_
          show own_Fin _ _ _ _ _ _ _ (T422.setTop (mkF m 183 #[.val (.int p0), .val (.int p1), .val (.int p2), .val (.int (4 : Int32)), .val (.int xa), .val (.int xb), .val (.int xc), .val (.int xd), .val (.ref b401), .val (.ref b414), .unset, .unset, .unset] [(.int (p2 &&& (4 : Int32))), (.int (2 : Int32)), (.ref b414)]))
          refine own_go (U' := T422.setTop (mkF m 191 #[.val (.int p0), .val (.int p1), .val (.int p2), .val (.int (4 : Int32)), .val (.int xa), .val (.int xb), .val (.int xc), .val (.int xd), .val (.ref b401), .val (.ref b414), .unset, .unset, .unset] [(.int (if (p2 &&& (4 : Int32)) = 0 then (0 : Int32) else (1 : Int32))), (.int (2 : Int32)), (.ref b414)])) (fun t k => ?_) ?_
          · by_cases hd183 : (p2 &&& (4 : Int32)) = 0
            · simp only [if_pos hd183] at k
              refine XS.ifYes X422.here hx rfl (pc0 := 183) (pc' := 190) rfl (hb hby at_183) rfl (XT.i0_eq_t hd183) (by decide) (by decide) (XS.iconst X422.here hx rfl (hb hby at_190) ?_)
              show Steps p.tables e below (T422.setTop (mkF m 191 #[.val (.int p0), .val (.int p1), .val (.int p2), .val (.int (4 : Int32)), .val (.int xa), .val (.int xb), .val (.int xc), .val (.int xd), .val (.ref b401), .val (.ref b414), .unset, .unset, .unset] [(.int (0 : Int32)), (.int (2 : Int32)), (.ref b414)])) _
              exact k
            · simp only [if_neg hd183] at k
              refine XS.ifNo X422.here hx rfl (hb hby at_183) rfl (XT.i0_eq_f hd183) (XS.iconst X422.here hx rfl (hb hby at_186) (XS.goto X422.here hx rfl (pc0 := 187) (pc' := 191) rfl (hb hby at_187) (by decide) (by decide) ?_))
              show Steps p.tables e below (T422.setTop (mkF m 191 #[.val (.int p0), .val (.int p1), .val (.int p2), .val (.int (4 : Int32)), .val (.int xa), .val (.int xb), .val (.int xc), .val (.int xd), .val (.ref b401), .val (.ref b414), .unset, .unset, .unset] [(.int (1 : Int32)), (.int (2 : Int32)), (.ref b414)])) _
              exact k
          show own_Fin _ _ _ _ _ _ _ (T422.setTop (mkF m 191 #[.val (.int p0), .val (.int p1), .val (.int p2), .val (.int (4 : Int32)), .val (.int xa), .val (.int xb), .val (.int xc), .val (.int xd), .val (.ref b401), .val (.ref b414), .unset, .unset, .unset] [(.int (if (p2 &&& (4 : Int32)) = 0 then (0 : Int32) else (1 : Int32))), (.int (2 : Int32)), (.ref b414)]))
          refine own_stZ X422 hx hZ e422 A422 (by decide) (by show (2 : Int32).toNatClampNeg < 8; decide) (hb hby at_191) (by split <;> rfl) ?_
          intro T427 h427 X427 e427 W427 A427
          have f428 := f423.other W427 ne_b401_b414
          have f429 := f424.wr W427
          have f431 := f426.wr W427
          have Z427 := Nat.le_trans Z422 (Keep.of_wr W427).1
          have A427 : own_Ar Z h427 b414 .boolean (List.map Value.int [(if (p2 &&& (1 : Int32)) = 0 then (0 : Int32) else (1 : Int32)), (if (p2 &&& (2 : Int32)) = 0 then (0 : Int32) else (1 : Int32)), (if (p2 &&& (4 : Int32)) = 0 then (0 : Int32) else (1 : Int32)), (0 : Int32), (0 : Int32), (0 : Int32), (0 : Int32), (0 : Int32)]) := A427
          have N427 := Fr.snoc X427 N422 g_b414
          show own_Fin _ _ _ _ _ _ _ (T427.setTop (mkF m 192 #[.val (.int p0), .val (.int p1), .val (.int p2), .val (.int (4 : Int32)), .val (.int xa), .val (.int xb), .val (.int xc), .val (.int xd), .val (.ref b401), .val (.ref b414), .unset, .unset, .unset] []))
          refine own_go (fun _ kk => XS.aload X427.here hx rfl (hb hby at_192) rfl rfl (XS.iconst X427.here hx rfl (hb hby at_194) (XS.iloadN X427.here hx rfl (hb hby at_195) rfl (XS.bipush X427.here hx rfl (hb hby at_196) (XS.iand X427.here hx rfl (hb hby at_198) rfl kk))))) ?_
          show own_Fin _ _ _ _ _ _ _ (T427.setTop (mkF m 199 #[.val (.int p0), .val (.int p1), .val (.int p2), .val (.int (4 : Int32)), .val (.int xa), .val (.int xb), .val (.int xc), .val (.int xd), .val (.ref b401), .val (.ref b414), .unset, .unset, .unset] [(.int (p2 &&& (8 : Int32))), (.int (3 : Int32)), (.ref b414)]))
          refine own_go (U' := T427.setTop (mkF m 207 #[.val (.int p0), .val (.int p1), .val (.int p2), .val (.int (4 : Int32)), .val (.int xa), .val (.int xb), .val (.int xc), .val (.int xd), .val (.ref b401), .val (.ref b414), .unset, .unset, .unset] [(.int (if (p2 &&& (8 : Int32)) = 0 then (0 : Int32) else (1 : Int32))), (.int (3 : Int32)), (.ref b414)])) (fun t k => ?_) ?_
          · by_cases hd199 : (p2 &&& (8 : Int32)) = 0
            · simp only [if_pos hd199] at k
              refine XS.ifYes X427.here hx rfl (pc0 := 199) (pc' := 206) rfl (hb hby at_199) rfl (XT.i0_eq_t hd199) (by decide) (by decide) (XS.iconst X427.here hx rfl (hb hby at_206) ?_)
              show Steps p.tables e below (T427.setTop (mkF m 207 #[.val (.int p0), .val (.int p1), .val (.int p2), .val (.int (4 : Int32)), .val (.int xa), .val (.int xb), .val (.int xc), .val (.int xd), .val (.ref b401), .val (.ref b414), .unset, .unset, .unset] [(.int (0 : Int32)), (.int (3 : Int32)), (.ref b414)])) _
              exact k
            · simp only [if_neg hd199] at k
              refine XS.ifNo X427.here hx rfl (hb hby at_199) rfl (XT.i0_eq_f hd199) (XS.iconst X427.here hx rfl (hb hby at_202) (XS.goto X427.here hx rfl (pc0 := 203) (pc' := 207) rfl (hb hby at_203) (by decide) (by decide) ?_))
              show Steps p.tables e below (T427.setTop (mkF m 207 #[.val (.int p0), .val (.int p1), .val (.int p2), .val (.int (4 : Int32)), .val (.int xa), .val (.int xb), .val (.int xc), .val (.int xd), .val (.ref b401), .val (.ref b414), .unset, .unset, .unset] [(.int (1 : Int32)), (.int (3 : Int32)), (.ref b414)])) _
              exact k
          show own_Fin _ _ _ _ _ _ _ (T427.setTop (mkF m 207 #[.val (.int p0), .val (.int p1), .val (.int p2), .val (.int (4 : Int32)), .val (.int xa), .val (.int xb), .val (.int xc), .val (.int xd), .val (.ref b401), .val (.ref b414), .unset, .unset, .unset] [(.int (if (p2 &&& (8 : Int32)) = 0 then (0 : Int32) else (1 : Int32))), (.int (3 : Int32)), (.ref b414)]))
          refine own_stZ X427 hx hZ e427 A427 (by decide) (by show (3 : Int32).toNatClampNeg < 8; decide) (hb hby at_207) (by split <;> rfl) ?_
          intro T432 h432 X432 e432 W432 A432
          have f433 := f428.other W432 ne_b401_b414
          have f434 := f429.wr W432
          have f436 := f431.wr W432
          have Z432 := Nat.le_trans Z427 (Keep.of_wr W432).1
          have A432 : own_Ar Z h432 b414 .boolean (List.map Value.int [(if (p2 &&& (1 : Int32)) = 0 then (0 : Int32) else (1 : Int32)), (if (p2 &&& (2 : Int32)) = 0 then (0 : Int32) else (1 : Int32)), (if (p2 &&& (4 : Int32)) = 0 then (0 : Int32) else (1 : Int32)), (if (p2 &&& (8 : Int32)) = 0 then (0 : Int32) else (1 : Int32)), (0 : Int32), (0 : Int32), (0 : Int32), (0 : Int32)]) := A432
          have N432 := Fr.snoc X432 N427 g_b414
          show own_Fin _ _ _ _ _ _ _ (T432.setTop (mkF m 208 #[.val (.int p0), .val (.int p1), .val (.int p2), .val (.int (4 : Int32)), .val (.int xa), .val (.int xb), .val (.int xc), .val (.int xd), .val (.ref b401), .val (.ref b414), .unset, .unset, .unset] []))
          refine own_go (fun _ kk => XS.aload X432.here hx rfl (hb hby at_208) rfl rfl (XS.iconst X432.here hx rfl (hb hby at_210) (XS.iloadN X432.here hx rfl (hb hby at_211) rfl (XS.bipush X432.here hx rfl (hb hby at_212) (XS.iand X432.here hx rfl (hb hby at_214) rfl kk))))) ?_
          show own_Fin _ _ _ _ _ _ _ (T432.setTop (mkF m 215 #[.val (.int p0), .val (.int p1), .val (.int p2), .val (.int (4 : Int32)), .val (.int xa), .val (.int xb), .val (.int xc), .val (.int xd), .val (.ref b401), .val (.ref b414), .unset, .unset, .unset] [(.int (p2 &&& (16 : Int32))), (.int (4 : Int32)), (.ref b414)]))
          refine own_go (U' := T432.setTop (mkF m 223 #[.val (.int p0), .val (.int p1), .val (.int p2), .val (.int (4 : Int32)), .val (.int xa), .val (.int xb), .val (.int xc), .val (.int xd), .val (.ref b401), .val (.ref b414), .unset, .unset, .unset] [(.int (if (p2 &&& (16 : Int32)) = 0 then (0 : Int32) else (1 : Int32))), (.int (4 : Int32)), (.ref b414)])) (fun t k => ?_) ?_
          · by_cases hd215 : (p2 &&& (16 : Int32)) = 0
            · simp only [if_pos hd215] at k
              refine XS.ifYes X432.here hx rfl (pc0 := 215) (pc' := 222) rfl (hb hby at_215) rfl (XT.i0_eq_t hd215) (by decide) (by decide) (XS.iconst X432.here hx rfl (hb hby at_222) ?_)
              show Steps p.tables e below (T432.setTop (mkF m 223 #[.val (.int p0), .val (.int p1), .val (.int p2), .val (.int (4 : Int32)), .val (.int xa), .val (.int xb), .val (.int xc), .val (.int xd), .val (.ref b401), .val (.ref b414), .unset, .unset, .unset] [(.int (0 : Int32)), (.int (4 : Int32)), (.ref b414)])) _
              exact k
            · simp only [if_neg hd215] at k
              refine XS.ifNo X432.here hx rfl (hb hby at_215) rfl (XT.i0_eq_f hd215) (XS.iconst X432.here hx rfl (hb hby at_218) (XS.goto X432.here hx rfl (pc0 := 219) (pc' := 223) rfl (hb hby at_219) (by decide) (by decide) ?_))
              show Steps p.tables e below (T432.setTop (mkF m 223 #[.val (.int p0), .val (.int p1), .val (.int p2), .val (.int (4 : Int32)), .val (.int xa), .val (.int xb), .val (.int xc), .val (.int xd), .val (.ref b401), .val (.ref b414), .unset, .unset, .unset] [(.int (1 : Int32)), (.int (4 : Int32)), (.ref b414)])) _
              exact k
          show own_Fin _ _ _ _ _ _ _ (T432.setTop (mkF m 223 #[.val (.int p0), .val (.int p1), .val (.int p2), .val (.int (4 : Int32)), .val (.int xa), .val (.int xb), .val (.int xc), .val (.int xd), .val (.ref b401), .val (.ref b414), .unset, .unset, .unset] [(.int (if (p2 &&& (16 : Int32)) = 0 then (0 : Int32) else (1 : Int32))), (.int (4 : Int32)), (.ref b414)]))
          refine own_stZ X432 hx hZ e432 A432 (by decide) (by show (4 : Int32).toNatClampNeg < 8; decide) (hb hby at_223) (by split <;> rfl) ?_
          intro T437 h437 X437 e437 W437 A437
          have f438 := f433.other W437 ne_b401_b414
          have f439 := f434.wr W437
          have f441 := f436.wr W437
          have Z437 := Nat.le_trans Z432 (Keep.of_wr W437).1
          have A437 : own_Ar Z h437 b414 .boolean (List.map Value.int [(if (p2 &&& (1 : Int32)) = 0 then (0 : Int32) else (1 : Int32)), (if (p2 &&& (2 : Int32)) = 0 then (0 : Int32) else (1 : Int32)), (if (p2 &&& (4 : Int32)) = 0 then (0 : Int32) else (1 : Int32)), (if (p2 &&& (8 : Int32)) = 0 then (0 : Int32) else (1 : Int32)), (if (p2 &&& (16 : Int32)) = 0 then (0 : Int32) else (1 : Int32)), (0 : Int32), (0 : Int32), (0 : Int32)]) := A437
          have N437 := Fr.snoc X437 N432 g_b414
          show own_Fin _ _ _ _ _ _ _ (T437.setTop (mkF m 224 #[.val (.int p0), .val (.int p1), .val (.int p2), .val (.int (4 : Int32)), .val (.int xa), .val (.int xb), .val (.int xc), .val (.int xd), .val (.ref b401), .val (.ref b414), .unset, .unset, .unset] []))
          refine own_go (fun _ kk => XS.aload X437.here hx rfl (hb hby at_224) rfl rfl (XS.iconst X437.here hx rfl (hb hby at_226) (XS.iloadN X437.here hx rfl (hb hby at_227) rfl (XS.bipush X437.here hx rfl (hb hby at_228) (XS.iand X437.here hx rfl (hb hby at_230) rfl kk))))) ?_
          show own_Fin _ _ _ _ _ _ _ (T437.setTop (mkF m 231 #[.val (.int p0), .val (.int p1), .val (.int p2), .val (.int (4 : Int32)), .val (.int xa), .val (.int xb), .val (.int xc), .val (.int xd), .val (.ref b401), .val (.ref b414), .unset, .unset, .unset] [(.int (p2 &&& (32 : Int32))), (.int (5 : Int32)), (.ref b414)]))
          refine own_go (U' := T437.setTop (mkF m 239 #[.val (.int p0), .val (.int p1), .val (.int p2), .val (.int (4 : Int32)), .val (.int xa), .val (.int xb), .val (.int xc), .val (.int xd), .val (.ref b401), .val (.ref b414), .unset, .unset, .unset] [(.int (if (p2 &&& (32 : Int32)) = 0 then (0 : Int32) else (1 : Int32))), (.int (5 : Int32)), (.ref b414)])) (fun t k => ?_) ?_
          · by_cases hd231 : (p2 &&& (32 : Int32)) = 0
            · simp only [if_pos hd231] at k
              refine XS.ifYes X437.here hx rfl (pc0 := 231) (pc' := 238) rfl (hb hby at_231) rfl (XT.i0_eq_t hd231) (by decide) (by decide) (XS.iconst X437.here hx rfl (hb hby at_238) ?_)
              show Steps p.tables e below (T437.setTop (mkF m 239 #[.val (.int p0), .val (.int p1), .val (.int p2), .val (.int (4 : Int32)), .val (.int xa), .val (.int xb), .val (.int xc), .val (.int xd), .val (.ref b401), .val (.ref b414), .unset, .unset, .unset] [(.int (0 : Int32)), (.int (5 : Int32)), (.ref b414)])) _
              exact k
            · simp only [if_neg hd231] at k
              refine XS.ifNo X437.here hx rfl (hb hby at_231) rfl (XT.i0_eq_f hd231) (XS.iconst X437.here hx rfl (hb hby at_234) (XS.goto X437.here hx rfl (pc0 := 235) (pc' := 239) rfl (hb hby at_235) (by decide) (by decide) ?_))
              show Steps p.tables e below (T437.setTop (mkF m 239 #[.val (.int p0), .val (.int p1), .val (.int p2), .val (.int (4 : Int32)), .val (.int xa), .val (.int xb), .val (.int xc), .val (.int xd), .val (.ref b401), .val (.ref b414), .unset, .unset, .unset] [(.int (1 : Int32)), (.int (5 : Int32)), (.ref b414)])) _
              exact k
          show own_Fin _ _ _ _ _ _ _ (T437.setTop (mkF m 239 #[.val (.int p0), .val (.int p1), .val (.int p2), .val (.int (4 : Int32)), .val (.int xa), .val (.int xb), .val (.int xc), .val (.int xd), .val (.ref b401), .val (.ref b414), .unset, .unset, .unset] [(.int (if (p2 &&& (32 : Int32)) = 0 then (0 : Int32) else (1 : Int32))), (.int (5 : Int32)), (.ref b414)]))
          refine own_stZ X437 hx hZ e437 A437 (by decide) (by show (5 : Int32).toNatClampNeg < 8; decide) (hb hby at_239) (by split <;> rfl) ?_
          intro T442 h442 X442 e442 W442 A442
          have f443 := f438.other W442 ne_b401_b414
          have f444 := f439.wr W442
          have f446 := f441.wr W442
          have Z442 := Nat.le_trans Z437 (Keep.of_wr W442).1
          have A442 : own_Ar Z h442 b414 .boolean (List.map Value.int [(if (p2 &&& (1 : Int32)) = 0 then (0 : Int32) else (1 : Int32)), (if (p2 &&& (2 : Int32)) = 0 then (0 : Int32) else (1 : Int32)), (if (p2 &&& (4 : Int32)) = 0 then (0 : Int32) else (1 : Int32)), (if (p2 &&& (8 : Int32)) = 0 then (0 : Int32) else (1 : Int32)), (if (p2 &&& (16 : Int32)) = 0 then (0 : Int32) else (1 : Int32)), (if (p2 &&& (32 : Int32)) = 0 then (0 : Int32) else (1 : Int32)), (0 : Int32), (0 : Int32)]) := A442
          have N442 := Fr.snoc X442 N437 g_b414
          show own_Fin _ _ _ _ _ _ _ (T442.setTop (mkF m 240 #[.val (.int p0), .val (.int p1), .val (.int p2), .val (.int (4 : Int32)), .val (.int xa), .val (.int xb), .val (.int xc), .val (.int xd), .val (.ref b401), .val (.ref b414), .unset, .unset, .unset] []))
          refine own_go (fun _ kk => XS.aload X442.here hx rfl (hb hby at_240) rfl rfl (XS.bipush X442.here hx rfl (hb hby at_242) (XS.iloadN X442.here hx rfl (hb hby at_244) rfl (XS.bipush X442.here hx rfl (hb hby at_245) (XS.iand X442.here hx rfl (hb hby at_247) rfl kk))))) ?_
          show own_Fin _ _ _ _ _ _ _ (T442.setTop (mkF m 248 #[.val (.int p0), .val (.int p1), .val (.int p2), .val (.int (4 : Int32)), .val (.int xa), .val (.int xb), .val (.int xc), .val (.int xd), .val (.ref b401), .val (.ref b414), .unset, .unset, .unset] [(.int (p2 &&& (64 : Int32))), (.int (6 : Int32)), (.ref b414)]))
          refine own_go (U' := T442.setTop (mkF m 256 #[.val (.int p0), .val (.int p1), .val (.int p2), .val (.int (4 : Int32)), .val (.int xa), .val (.int xb), .val (.int xc), .val (.int xd), .val (.ref b401), .val (.ref b414), .unset, .unset, .unset] [(.int (if (p2 &&& (64 : Int32)) = 0 then (0 : Int32) else (1 : Int32))), (.int (6 : Int32)), (.ref b414)])) (fun t k => ?_) ?_
          · by_cases hd248 : (p2 &&& (64 : Int32)) = 0
            · simp only [if_pos hd248] at k
              refine XS.ifYes X442.here hx rfl (pc0 := 248) (pc' := 255) rfl (hb hby at_248) rfl (XT.i0_eq_t hd248) (by decide) (by decide) (XS.iconst X442.here hx rfl (hb hby at_255) ?_)
              show Steps p.tables e below (T442.setTop (mkF m 256 #[.val (.int p0), .val (.int p1), .val (.int p2), .val (.int (4 : Int32)), .val (.int xa), .val (.int xb), .val (.int xc), .val (.int xd), .val (.ref b401), .val (.ref b414), .unset, .unset, .unset] [(.int (0 : Int32)), (.int (6 : Int32)), (.ref b414)])) _
              exact k
            · simp only [if_neg hd248] at k
              refine XS.ifNo X442.here hx rfl (hb hby at_248) rfl (XT.i0_eq_f hd248) (XS.iconst X442.here hx rfl (hb hby at_251) (XS.goto X442.here hx rfl (pc0 := 252) (pc' := 256) rfl (hb hby at_252) (by decide) (by decide) ?_))
              show Steps p.tables e below (T442.setTop (mkF m 256 #[.val (.int p0), .val (.int p1), .val (.int p2), .val (.int (4 : Int32)), .val (.int xa), .val (.int xb), .val (.int xc), .val (.int xd), .val (.ref b401), .val (.ref b414), .unset, .unset, .unset] [(.int (1 : Int32)), (.int (6 : Int32)), (.ref b414)])) _
              exact k
          show own_Fin _ _ _ _ _ _ _ (T442.setTop (mkF m 256 #[.val (.int p0), .val (.int p1), .val (.int p2), .val (.int (4 : Int32)), .val (.int xa), .val (.int xb), .val (.int xc), .val (.int xd), .val (.ref b401), .val (.ref b414), .unset, .unset, .unset] [(.int (if (p2 &&& (64 : Int32)) = 0 then (0 : Int32) else (1 : Int32))), (.int (6 : Int32)), (.ref b414)]))
          refine own_stZ X442 hx hZ e442 A442 (by decide) (by show (6 : Int32).toNatClampNeg < 8; decide) (hb hby at_256) (by split <;> rfl) ?_
          intro T447 h447 X447 e447 W447 A447
          have f448 := f443.other W447 ne_b401_b414
          have f449 := f444.wr W447
          have f451 := f446.wr W447
          have Z447 := Nat.le_trans Z442 (Keep.of_wr W447).1
          have A447 : own_Ar Z h447 b414 .boolean (List.map Value.int [(if (p2 &&& (1 : Int32)) = 0 then (0 : Int32) else (1 : Int32)), (if (p2 &&& (2 : Int32)) = 0 then (0 : Int32) else (1 : Int32)), (if (p2 &&& (4 : Int32)) = 0 then (0 : Int32) else (1 : Int32)), (if (p2 &&& (8 : Int32)) = 0 then (0 : Int32) else (1 : Int32)), (if (p2 &&& (16 : Int32)) = 0 then (0 : Int32) else (1 : Int32)), (if (p2 &&& (32 : Int32)) = 0 then (0 : Int32) else (1 : Int32)), (if (p2 &&& (64 : Int32)) = 0 then (0 : Int32) else (1 : Int32)), (0 : Int32)]) := A447
          have N447 := Fr.snoc X447 N442 g_b414
          show own_Fin _ _ _ _ _ _ _ (T447.setTop (mkF m 257 #[.val (.int p0), .val (.int p1), .val (.int p2), .val (.int (4 : Int32)), .val (.int xa), .val (.int xb), .val (.int xc), .val (.int xd), .val (.ref b401), .val (.ref b414), .unset, .unset, .unset] []))
          refine own_go (fun _ kk => XS.aload X447.here hx rfl (hb hby at_257) rfl rfl (XS.bipush X447.here hx rfl (hb hby at_259) (XS.iloadN X447.here hx rfl (hb hby at_261) rfl (XS.sipush X447.here hx rfl (hb hby at_262) (XS.iand X447.here hx rfl (hb hby at_265) rfl kk))))) ?_
          show own_Fin _ _ _ _ _ _ _ (T447.setTop (mkF m 266 #[.val (.int p0), .val (.int p1), .val (.int p2), .val (.int (4 : Int32)), .val (.int xa), .val (.int xb), .val (.int xc), .val (.int xd), .val (.ref b401), .val (.ref b414), .unset, .unset, .unset] [(.int (p2 &&& (128 : Int32))), (.int (7 : Int32)), (.ref b414)]))
          refine own_go (U' := T447.setTop (mkF m 274 #[.val (.int p0), .val (.int p1), .val (.int p2), .val (.int (4 : Int32)), .val (.int xa), .val (.int xb), .val (.int xc), .val (.int xd), .val (.ref b401), .val (.ref b414), .unset, .unset, .unset] [(.int (if (p2 &&& (128 : Int32)) = 0 then (0 : Int32) else (1 : Int32))), (.int (7 : Int32)), (.ref b414)])) (fun t k => ?_) ?_
          · by_cases hd266 : (p2 &&& (128 : Int32)) = 0
            · simp only [if_pos hd266] at k
              refine XS.ifYes X447.here hx rfl (pc0 := 266) (pc' := 273) rfl (hb hby at_266) rfl (XT.i0_eq_t hd266) (by decide) (by decide) (XS.iconst X447.here hx rfl (hb hby at_273) ?_)
              show Steps p.tables e below (T447.setTop (mkF m 274 #[.val (.int p0), .val (.int p1), .val (.int p2), .val (.int (4 : Int32)), .val (.int xa), .val (.int xb), .val (.int xc), .val (.int xd), .val (.ref b401), .val (.ref b414), .unset, .unset, .unset] [(.int (0 : Int32)), (.int (7 : Int32)), (.ref b414)])) _
              exact k
            · simp only [if_neg hd266] at k
              refine XS.ifNo X447.here hx rfl (hb hby at_266) rfl (XT.i0_eq_f hd266) (XS.iconst X447.here hx rfl (hb hby at_269) (XS.goto X447.here hx rfl (pc0 := 270) (pc' := 274) rfl (hb hby at_270) (by decide) (by decide) ?_))
              show Steps p.tables e below (T447.setTop (mkF m 274 #[.val (.int p0), .val (.int p1), .val (.int p2), .val (.int (4 : Int32)), .val (.int xa), .val (.int xb), .val (.int xc), .val (.int xd), .val (.ref b401), .val (.ref b414), .unset, .unset, .unset] [(.int (1 : Int32)), (.int (7 : Int32)), (.ref b414)])) _
              exact k
          show own_Fin _ _ _ _ _ _ _ (T447.setTop (mkF m 274 #[.val (.int p0), .val (.int p1), .val (.int p2), .val (.int (4 : Int32)), .val (.int xa), .val (.int xb), .val (.int xc), .val (.int xd), .val (.ref b401), .val (.ref b414), .unset, .unset, .unset] [(.int (if (p2 &&& (128 : Int32)) = 0 then (0 : Int32) else (1 : Int32))), (.int (7 : Int32)), (.ref b414)]))
          refine own_stZ X447 hx hZ e447 A447 (by decide) (by show (7 : Int32).toNatClampNeg < 8; decide) (hb hby at_274) (by split <;> rfl) ?_
          intro T452 h452 X452 e452 W452 A452
          have f453 := f448.other W452 ne_b401_b414
          have f454 := f449.wr W452
          have f456 := f451.wr W452
          have Z452 := Nat.le_trans Z447 (Keep.of_wr W452).1
          have A452 : own_Ar Z h452 b414 .boolean (List.map Value.int [(if (p2 &&& (1 : Int32)) = 0 then (0 : Int32) else (1 : Int32)), (if (p2 &&& (2 : Int32)) = 0 then (0 : Int32) else (1 : Int32)), (if (p2 &&& (4 : Int32)) = 0 then (0 : Int32) else (1 : Int32)), (if (p2 &&& (8 : Int32)) = 0 then (0 : Int32) else (1 : Int32)), (if (p2 &&& (16 : Int32)) = 0 then (0 : Int32) else (1 : Int32)), (if (p2 &&& (32 : Int32)) = 0 then (0 : Int32) else (1 : Int32)), (if (p2 &&& (64 : Int32)) = 0 then (0 : Int32) else (1 : Int32)), (if (p2 &&& (128 : Int32)) = 0 then (0 : Int32) else (1 : Int32))]) := A452
          have N452 := Fr.snoc X452 N447 g_b414
          show own_Fin _ _ _ _ _ _ _ (T452.setTop (mkF m 275 #[.val (.int p0), .val (.int p1), .val (.int p2), .val (.int (4 : Int32)), .val (.int xa), .val (.int xb), .val (.int xc), .val (.int xd), .val (.ref b401), .val (.ref b414), .unset, .unset, .unset] []))
          obtain ⟨bs, hbs⟩ : ∃ bs, bs = [(if (p2 &&& (1 : Int32)) = 0 then (0 : Int32) else (1 : Int32)), (if (p2 &&& (2 : Int32)) = 0 then (0 : Int32) else (1 : Int32)), (if (p2 &&& (4 : Int32)) = 0 then (0 : Int32) else (1 : Int32)), (if (p2 &&& (8 : Int32)) = 0 then (0 : Int32) else (1 : Int32)), (if (p2 &&& (16 : Int32)) = 0 then (0 : Int32) else (1 : Int32)), (if (p2 &&& (32 : Int32)) = 0 then (0 : Int32) else (1 : Int32)), (if (p2 &&& (64 : Int32)) = 0 then (0 : Int32) else (1 : Int32)), (if (p2 &&& (128 : Int32)) = 0 then (0 : Int32) else (1 : Int32))] := ⟨_, rfl⟩
          have Bb414 : own_Ar Z h452 b414 .boolean (List.map Value.int bs) := by rw [hbs]; exact A452
          have hbl : bs.length = 8 := by rw [hbs]; rfl
          have sa : ¬ xa < 0 ∧ xa.toNatClampNeg < bs.length := ⟨rxa.1, by rw [hbl]; exact rxa.2⟩
          have sb : ¬ xb < 0 ∧ xb.toNatClampNeg < bs.length := ⟨rxb.1, by rw [hbl]; exact rxb.2⟩
          have sc : ¬ xc < 0 ∧ xc.toNatClampNeg < bs.length := ⟨rxc.1, by rw [hbl]; exact rxc.2⟩
          have sd : ¬ xd < 0 ∧ xd.toNatClampNeg < bs.length := ⟨rxd.1, by rw [hbl]; exact rxd.2⟩
          refine own_go (fun _ kk => XS.iconst X452.here hx rfl (hb hby at_275) kk) ?_
          show own_Fin _ _ _ _ _ _ _ (T452.setTop (mkF m 276 #[.val (.int p0), .val (.int p1), .val (.int p2), .val (.int (4 : Int32)), .val (.int xa), .val (.int xb), .val (.int xc), .val (.int xd), .val (.ref b401), .val (.ref b414), .unset, .unset, .unset] [(.int (4 : Int32))]))
          refine own_newI X452 hx hZ (hw _ (List.mem_of_getElem? (i := 5) rfl)) e452 (hb hby at_276) (by decide) (cap := 4) (by decide) (by decide) (by decide) (by decide) ?_
          intro T457 h457 b457 g457 X457 e457 E457 A457 D457
          have g_b457 : n0 ≤ b457 := Nat.le_trans Z452 (Nat.le_of_eq g457.symm)
          have ne_b401_b457 : b401 ≠ b457 := Nat.ne_of_lt (Nat.lt_of_lt_of_le f453.lt (Nat.le_of_eq g457.symm))
          have ne_b414_b457 : b414 ≠ b457 := Nat.ne_of_lt (Nat.lt_of_lt_of_le Bb414.lt (Nat.le_of_eq g457.symm))
          have f458 := f453.ext E457
          have f459 := f454.ext E457
          have f460 := Bb414.ext E457
          have f461 := f456.ext E457
          have Z457 := Nat.le_trans Z452 E457.1
          have A457 : own_Ar Z h457 b457 .int (List.map Value.int [(0 : Int32), (0 : Int32), (0 : Int32), (0 : Int32)]) := A457
          show own_Fin _ _ _ _ _ _ _ (T457.setTop (mkF m 278 #[.val (.int p0), .val (.int p1), .val (.int p2), .val (.int (4 : Int32)), .val (.int xa), .val (.int xb), .val (.int xc), .val (.int xd), .val (.ref b401), .val (.ref b414), .unset, .unset, .unset] [(.ref b457)]))
          refine own_go (fun _ kk => XS.astore X457.here hx rfl (hb hby at_278) rfl rfl (l' := #[.val (.int p0), .val (.int p1), .val (.int p2), .val (.int (4 : Int32)), .val (.int xa), .val (.int xb), .val (.int xc), .val (.int xd), .val (.ref b401), .val (.ref b414), .val (.ref b457), .unset, .unset]) rfl (XS.iconst X457.here hx rfl (hb hby at_280) (XS.istore X457.here hx rfl (hb hby at_281) rfl (l' := #[.val (.int p0), .val (.int p1), .val (.int p2), .val (.int (4 : Int32)), .val (.int xa), .val (.int xb), .val (.int xc), .val (.int xd), .val (.ref b401), .val (.ref b414), .val (.ref b457), .val (.int (0 : Int32)), .unset]) rfl (XS.iloadN X457.here hx rfl (hb hby at_283) rfl (XS.ifNo X457.here hx rfl (hb hby at_284) rfl (XT.i0_le_f (by decide)) (XS.aload X457.here hx rfl (hb hby at_287) rfl rfl (XS.iload X457.here hx rfl (hb hby at_289) rfl kk))))))) ?_
          show own_Fin _ _ _ _ _ _ _ (T457.setTop (mkF m 291 #[.val (.int p0), .val (.int p1), .val (.int p2), .val (.int (4 : Int32)), .val (.int xa), .val (.int xb), .val (.int xc), .val (.int xd), .val (.ref b401), .val (.ref b414), .val (.ref b457), .val (.int (0 : Int32)), .unset] [(.int xa), (.ref b414)]))
          refine own_ldZ X457 hx hZ e457 f460 sa.1 sa.2 (hb hby at_291) ?_
          show own_Fin _ _ _ _ _ _ _ (T457.setTop (mkF m 292 #[.val (.int p0), .val (.int p1), .val (.int p2), .val (.int (4 : Int32)), .val (.int xa), .val (.int xb), .val (.int xc), .val (.int xd), .val (.ref b401), .val (.ref b414), .val (.ref b457), .val (.int (0 : Int32)), .unset] [(.int (List.getD bs (xa).toNatClampNeg 0))]))
          by_cases hc292 : (List.getD bs (xa).toNatClampNeg 0) = 0
          · refine own_go (fun _ kk => XS.ifYes X457.here hx rfl (pc0 := 292) (pc' := 305) rfl (hb hby at_292) rfl (XT.i0_eq_t hc292) (by decide) (by decide) (XS.iloadN X457.here hx rfl (hb hby at_305) rfl (XS.iconst X457.here hx rfl (hb hby at_306) (XS.icmpNo X457.here hx rfl (hb hby at_307) rfl (XT.ii_le_f (by decide)) (XS.aload X457.here hx rfl (hb hby at_310) rfl rfl (XS.iload X457.here hx rfl (hb hby at_312) rfl kk)))))) ?_
            show own_Fin _ _ _ _ _ _ _ (T457.setTop (mkF m 314 #[.val (.int p0), .val (.int p1), .val (.int p2), .val (.int (4 : Int32)), .val (.int xa), .val (.int xb), .val (.int xc), .val (.int xd), .val (.ref b401), .val (.ref b414), .val (.ref b457), .val (.int (0 : Int32)), .unset] [(.int xb), (.ref b414)]))
            refine own_ldZ X457 hx hZ e457 f460 sb.1 sb.2 (hb hby at_314) ?_
            show own_Fin _ _ _ _ _ _ _ (T457.setTop (mkF m 315 #[.val (.int p0), .val (.int p1), .val (.int p2), .val (.int (4 : Int32)), .val (.int xa), .val (.int xb), .val (.int xc), .val (.int xd), .val (.ref b401), .val (.ref b414), .val (.ref b457), .val (.int (0 : Int32)), .unset] [(.int (List.getD bs (xb).toNatClampNeg 0))]))
            by_cases hc315 : (List.getD bs (xb).toNatClampNeg 0) = 0
            · refine own_go (fun _ kk => XS.ifYes X457.here hx rfl (pc0 := 315) (pc' := 328) rfl (hb hby at_315) rfl (XT.i0_eq_t hc315) (by decide) (by decide) (XS.iloadN X457.here hx rfl (hb hby at_328) rfl (XS.iconst X457.here hx rfl (hb hby at_329) (XS.icmpNo X457.here hx rfl (hb hby at_330) rfl (XT.ii_le_f (by decide)) (XS.aload X457.here hx rfl (hb hby at_333) rfl rfl (XS.iload X457.here hx rfl (hb hby at_335) rfl kk)))))) ?_
              show own_Fin _ _ _ _ _ _ _ (T457.setTop (mkF m 337 #[.val (.int p0), .val (.int p1), .val (.int p2), .val (.int (4 : Int32)), .val (.int xa), .val (.int xb), .val (.int xc), .val (.int xd), .val (.ref b401), .val (.ref b414), .val (.ref b457), .val (.int (0 : Int32)), .unset] [(.int xc), (.ref b414)]))
              refine own_ldZ X457 hx hZ e457 f460 sc.1 sc.2 (hb hby at_337) ?_
              show own_Fin _ _ _ _ _ _ _ (T457.setTop (mkF m 338 #[.val (.int p0), .val (.int p1), .val (.int p2), .val (.int (4 : Int32)), .val (.int xa), .val (.int xb), .val (.int xc), .val (.int xd), .val (.ref b401), .val (.ref b414), .val (.ref b457), .val (.int (0 : Int32)), .unset] [(.int (List.getD bs (xc).toNatClampNeg 0))]))
              by_cases hc338 : (List.getD bs (xc).toNatClampNeg 0) = 0
              · refine own_go (fun _ kk => XS.ifYes X457.here hx rfl (pc0 := 338) (pc' := 351) rfl (hb hby at_338) rfl (XT.i0_eq_t hc338) (by decide) (by decide) (XS.iloadN X457.here hx rfl (hb hby at_351) rfl (XS.iconst X457.here hx rfl (hb hby at_352) (XS.icmpNo X457.here hx rfl (hb hby at_353) rfl (XT.ii_le_f (by decide)) (XS.aload X457.here hx rfl (hb hby at_356) rfl rfl (XS.iload X457.here hx rfl (hb hby at_358) rfl kk)))))) ?_
                show own_Fin _ _ _ _ _ _ _ (T457.setTop (mkF m 360 #[.val (.int p0), .val (.int p1), .val (.int p2), .val (.int (4 : Int32)), .val (.int xa), .val (.int xb), .val (.int xc), .val (.int xd), .val (.ref b401), .val (.ref b414), .val (.ref b457), .val (.int (0 : Int32)), .unset] [(.int xd), (.ref b414)]))
                refine own_ldZ X457 hx hZ e457 f460 sd.1 sd.2 (hb hby at_360) ?_
                show own_Fin _ _ _ _ _ _ _ (T457.setTop (mkF m 361 #[.val (.int p0), .val (.int p1), .val (.int p2), .val (.int (4 : Int32)), .val (.int xa), .val (.int xb), .val (.int xc), .val (.int xd), .val (.ref b401), .val (.ref b414), .val (.ref b457), .val (.int (0 : Int32)), .unset] [(.int (List.getD bs (xd).toNatClampNeg 0))]))
                by_cases hc361 : (List.getD bs (xd).toNatClampNeg 0) = 0
                · refine own_go (fun _ kk => XS.ifYes X457.here hx rfl (pc0 := 361) (pc' := 374) rfl (hb hby at_361) rfl (XT.i0_eq_t hc361) (by decide) (by decide) (XS.aload X457.here hx rfl (hb hby at_374) rfl rfl (XS.aload X457.here hx rfl (hb hby at_376) rfl rfl kk))) ?_
                  show own_Fin _ _ _ _ _ _ _ (T457.setTop (mkF m 378 #[.val (.int p0), .val (.int p1), .val (.int p2), .val (.int (4 : Int32)), .val (.int xa), .val (.int xb), .val (.int xc), .val (.int xd), .val (.ref b401), .val (.ref b414), .val (.ref b457), .val (.int (0 : Int32)), .unset] [(.ref b414), (.ref b401)]))
                  refine own_callS X457 hx hZ hown (hw _ (List.mem_of_getElem? (i := 7) rfl)) (hw _ (List.mem_of_getElem? (i := 8) rfl)) (hw _ (List.mem_of_getElem? (i := 9) rfl)) (hw _ (List.mem_of_getElem? (i := 10) rfl)) (by decide) (rm2 l Z a0 hw b401 b414 h457 n0 Z457 [xa, xb, xc, xd] bs f458 f460 (by show 4 ≤ 4; decide) (List.forall_mem_cons.mpr ⟨sa, (List.forall_mem_cons.mpr ⟨sb, (List.forall_mem_cons.mpr ⟨sc, (List.forall_mem_cons.mpr ⟨sd, (fun x h => nomatch h)⟩)⟩)⟩)⟩)) e457 (argsL := [(.ref b401), (.ref b414)]) (rest := []) rfl rfl (by rw [hml]; rfl) (lenOf pd_0_1 rfl) (hb hby at_378) (W := 0) (Nat.le_of_eq rfl) (by decide) (by decide) (by decide) (by decide) ?_
                  rintro v462 T462 L462 X462 ⟨r462, rfl, M462, Kc462, sz462, A462⟩
                  have N462 := Fr.app N452 M462
                  have ne462 : r462 ≠ b401 := Nat.ne_of_gt (Nat.lt_of_lt_of_le f458.lt sz462)
                  have f463 := f458.keep Kc462 nin0
                  have f464 := f459.keep Kc462
                  have f465 := f460.keep Kc462 nin0
                  have f466 := f461.keep Kc462
                  have f467 := A457.keep Kc462 nin0
                  have f468 := D457.keep Kc462
                  have Z462 := Nat.le_trans Z457 Kc462.1
                  have F462 : own_Ar Z T462.heap r462 .int (List.map Value.int ([] : List Int32)) := by
                    rw [List.filter_cons_of_neg (by rw [show own_mk bs xa = false from decide_eq_false (fun q => q hc292)]; decide), List.filter_cons_of_neg (by rw [show own_mk bs xb = false from decide_eq_false (fun q => q hc315)]; decide), List.filter_cons_of_neg (by rw [show own_mk bs xc = false from decide_eq_false (fun q => q hc338)]; decide), List.filter_cons_of_neg (by rw [show own_mk bs xd = false from decide_eq_false (fun q => q hc361)]; decide), List.filter_nil] at A462
                    exact A462
                  show own_Fin _ _ _ _ _ _ _ (T462.setTop (mkF m 381 #[.val (.int p0), .val (.int p1), .val (.int p2), .val (.int (4 : Int32)), .val (.int xa), .val (.int xb), .val (.int xc), .val (.int xd), .val (.ref b401), .val (.ref b414), .val (.ref b457), .val (.int (0 : Int32)), .unset] [(.ref r462)]))
                  refine own_go (fun _ kk => XS.astore X462.here hx rfl (hb hby at_381) rfl rfl (l' := #[.val (.int p0), .val (.int p1), .val (.int p2), .val (.int (4 : Int32)), .val (.int xa), .val (.int xb), .val (.int xc), .val (.int xd), .val (.ref b401), .val (.ref b414), .val (.ref b457), .val (.int (0 : Int32)), .val (.ref r462)]) rfl (XS.aload X462.here hx rfl (hb hby at_383) rfl rfl (XS.ifnullNo X462.here hx rfl (hb hby at_385) rfl (XS.aload X462.here hx rfl (hb hby at_388) rfl rfl (XS.aload X462.here hx rfl (hb hby at_390) rfl rfl (XT.acmpYes X462.here hx rfl (pc0 := 392) (pc' := 397) rfl (hb hby at_392) rfl rfl rfl (XT.aa_ne_t (fun q => ne462 (Value.ref.inj q))) (by decide) (by decide) (XS.aload X462.here hx rfl (hb hby at_397) rfl rfl kk))))))) ?_
                  show own_Fin _ _ _ _ _ _ _ (T462.setTop (mkF m 399 #[.val (.int p0), .val (.int p1), .val (.int p2), .val (.int (4 : Int32)), .val (.int xa), .val (.int xb), .val (.int xc), .val (.int xd), .val (.ref b401), .val (.ref b414), .val (.ref b457), .val (.int (0 : Int32)), .val (.ref r462)] [(.ref b401)]))
                  refine own_alen X462 hx hZ rfl f463 (hb hby at_399) ?_
                  show own_Fin _ _ _ _ _ _ _ (T462.setTop (mkF m 400 #[.val (.int p0), .val (.int p1), .val (.int p2), .val (.int (4 : Int32)), .val (.int xa), .val (.int xb), .val (.int xc), .val (.int xd), .val (.ref b401), .val (.ref b414), .val (.ref b457), .val (.int (0 : Int32)), .val (.ref r462)] [(.int (4 : Int32))]))
                  refine own_go (fun _ kk => XS.iloadN X462.here hx rfl (hb hby at_400) rfl (XS.icmpYes X462.here hx rfl (pc0 := 401) (pc' := 406) rfl (hb hby at_401) rfl (XT.ii_eq_t (by decide)) (by decide) (by decide) (XS.iloadN X462.here hx rfl (hb hby at_406) rfl (XS.ifNo X462.here hx rfl (hb hby at_407) rfl (XT.i0_le_f (by decide)) (XS.aload X462.here hx rfl (hb hby at_410) rfl rfl (XS.iconst X462.here hx rfl (hb hby at_412) kk)))))) ?_
                  show own_Fin _ _ _ _ _ _ _ (T462.setTop (mkF m 413 #[.val (.int p0), .val (.int p1), .val (.int p2), .val (.int (4 : Int32)), .val (.int xa), .val (.int xb), .val (.int xc), .val (.int xd), .val (.ref b401), .val (.ref b414), .val (.ref b457), .val (.int (0 : Int32)), .val (.ref r462)] [(.int (0 : Int32)), (.ref b401)]))
                  refine own_ldI X462 hx hZ rfl f463 (by decide) (by show (0 : Int32).toNatClampNeg < 4; decide) (hb hby at_413) ?_
                  show own_Fin _ _ _ _ _ _ _ (T462.setTop (mkF m 414 #[.val (.int p0), .val (.int p1), .val (.int p2), .val (.int (4 : Int32)), .val (.int xa), .val (.int xb), .val (.int xc), .val (.int xd), .val (.ref b401), .val (.ref b414), .val (.ref b457), .val (.int (0 : Int32)), .val (.ref r462)] [(.int xa)]))
                  refine own_go (fun _ kk => XS.iload X462.here hx rfl (hb hby at_414) rfl (XS.icmpYes X462.here hx rfl (pc0 := 416) (pc' := 421) rfl (hb hby at_416) rfl (XT.ii_eq_t rfl) (by decide) (by decide) (XS.iloadN X462.here hx rfl (hb hby at_421) rfl (XS.iconst X462.here hx rfl (hb hby at_422) (XS.icmpNo X462.here hx rfl (hb hby at_423) rfl (XT.ii_le_f (by decide)) (XS.aload X462.here hx rfl (hb hby at_426) rfl rfl (XS.iconst X462.here hx rfl (hb hby at_428) kk))))))) ?_
                  show own_Fin _ _ _ _ _ _ _ (T462.setTop (mkF m 429 #[.val (.int p0), .val (.int p1), .val (.int p2), .val (.int (4 : Int32)), .val (.int xa), .val (.int xb), .val (.int xc), .val (.int xd), .val (.ref b401), .val (.ref b414), .val (.ref b457), .val (.int (0 : Int32)), .val (.ref r462)] [(.int (1 : Int32)), (.ref b401)]))
                  refine own_ldI X462 hx hZ rfl f463 (by decide) (by show (1 : Int32).toNatClampNeg < 4; decide) (hb hby at_429) ?_
                  show own_Fin _ _ _ _ _ _ _ (T462.setTop (mkF m 430 #[.val (.int p0), .val (.int p1), .val (.int p2), .val (.int (4 : Int32)), .val (.int xa), .val (.int xb), .val (.int xc), .val (.int xd), .val (.ref b401), .val (.ref b414), .val (.ref b457), .val (.int (0 : Int32)), .val (.ref r462)] [(.int xb)]))
                  refine own_go (fun _ kk => XS.iload X462.here hx rfl (hb hby at_430) rfl (XS.icmpYes X462.here hx rfl (pc0 := 432) (pc' := 437) rfl (hb hby at_432) rfl (XT.ii_eq_t rfl) (by decide) (by decide) (XS.iloadN X462.here hx rfl (hb hby at_437) rfl (XS.iconst X462.here hx rfl (hb hby at_438) (XS.icmpNo X462.here hx rfl (hb hby at_439) rfl (XT.ii_le_f (by decide)) (XS.aload X462.here hx rfl (hb hby at_442) rfl rfl (XS.iconst X462.here hx rfl (hb hby at_444) kk))))))) ?_
                  show own_Fin _ _ _ _ _ _ _ (T462.setTop (mkF m 445 #[.val (.int p0), .val (.int p1), .val (.int p2), .val (.int (4 : Int32)), .val (.int xa), .val (.int xb), .val (.int xc), .val (.int xd), .val (.ref b401), .val (.ref b414), .val (.ref b457), .val (.int (0 : Int32)), .val (.ref r462)] [(.int (2 : Int32)), (.ref b401)]))
                  refine own_ldI X462 hx hZ rfl f463 (by decide) (by show (2 : Int32).toNatClampNeg < 4; decide) (hb hby at_445) ?_
                  show own_Fin _ _ _ _ _ _ _ (T462.setTop (mkF m 446 #[.val (.int p0), .val (.int p1), .val (.int p2), .val (.int (4 : Int32)), .val (.int xa), .val (.int xb), .val (.int xc), .val (.int xd), .val (.ref b401), .val (.ref b414), .val (.ref b457), .val (.int (0 : Int32)), .val (.ref r462)] [(.int xc)]))
                  refine own_go (fun _ kk => XS.iload X462.here hx rfl (hb hby at_446) rfl (XS.icmpYes X462.here hx rfl (pc0 := 448) (pc' := 453) rfl (hb hby at_448) rfl (XT.ii_eq_t rfl) (by decide) (by decide) (XS.iloadN X462.here hx rfl (hb hby at_453) rfl (XS.iconst X462.here hx rfl (hb hby at_454) (XS.icmpNo X462.here hx rfl (hb hby at_455) rfl (XT.ii_le_f (by decide)) (XS.aload X462.here hx rfl (hb hby at_458) rfl rfl (XS.iconst X462.here hx rfl (hb hby at_460) kk))))))) ?_
                  show own_Fin _ _ _ _ _ _ _ (T462.setTop (mkF m 461 #[.val (.int p0), .val (.int p1), .val (.int p2), .val (.int (4 : Int32)), .val (.int xa), .val (.int xb), .val (.int xc), .val (.int xd), .val (.ref b401), .val (.ref b414), .val (.ref b457), .val (.int (0 : Int32)), .val (.ref r462)] [(.int (3 : Int32)), (.ref b401)]))
                  refine own_ldI X462 hx hZ rfl f463 (by decide) (by show (3 : Int32).toNatClampNeg < 4; decide) (hb hby at_461) ?_
                  show own_Fin _ _ _ _ _ _ _ (T462.setTop (mkF m 462 #[.val (.int p0), .val (.int p1), .val (.int p2), .val (.int (4 : Int32)), .val (.int xa), .val (.int xb), .val (.int xc), .val (.int xd), .val (.ref b401), .val (.ref b414), .val (.ref b457), .val (.int (0 : Int32)), .val (.ref r462)] [(.int xd)]))
                  refine own_go (fun _ kk => XS.iload X462.here hx rfl (hb hby at_462) rfl (XS.icmpYes X462.here hx rfl (pc0 := 464) (pc' := 469) rfl (hb hby at_464) rfl (XT.ii_eq_t rfl) (by decide) (by decide) (XS.aload X462.here hx rfl (hb hby at_469) rfl rfl kk))) ?_
                  show own_Fin _ _ _ _ _ _ _ (T462.setTop (mkF m 471 #[.val (.int p0), .val (.int p1), .val (.int p2), .val (.int (4 : Int32)), .val (.int xa), .val (.int xb), .val (.int xc), .val (.int xd), .val (.ref b401), .val (.ref b414), .val (.ref b457), .val (.int (0 : Int32)), .val (.ref r462)] [(.ref r462)]))
                  refine own_alen X462 hx hZ rfl F462 (hb hby at_471) ?_
                  show own_Fin _ _ _ _ _ _ _ (T462.setTop (mkF m 472 #[.val (.int p0), .val (.int p1), .val (.int p2), .val (.int (4 : Int32)), .val (.int xa), .val (.int xb), .val (.int xc), .val (.int xd), .val (.ref b401), .val (.ref b414), .val (.ref b457), .val (.int (0 : Int32)), .val (.ref r462)] [(.int (0 : Int32))]))
                  refine own_go (fun _ kk => XS.iload X462.here hx rfl (hb hby at_472) rfl (XS.icmpYes X462.here hx rfl (pc0 := 474) (pc' := 479) rfl (hb hby at_474) rfl (XT.ii_eq_t (by decide)) (by decide) (by decide) (XS.iload X462.here hx rfl (hb hby at_479) rfl (XS.ifYes X462.here hx rfl (pc0 := 481) (pc' := 497) rfl (hb hby at_481) rfl (XT.i0_le_t (by decide)) (by decide) (by decide) (XS.iload X462.here hx rfl (hb hby at_497) rfl (XS.iconst X462.here hx rfl (hb hby at_499) (XS.icmpYes X462.here hx rfl (pc0 := 500) (pc' := 516) rfl (hb hby at_500) rfl (XT.ii_le_t (by decide)) (by decide) (by decide) (XS.iload X462.here hx rfl (hb hby at_516) rfl (XS.iconst X462.here hx rfl (hb hby at_518) (XS.icmpYes X462.here hx rfl (pc0 := 519) (pc' := 535) rfl (hb hby at_519) rfl (XT.ii_le_t (by decide)) (by decide) (by decide) kk)))))))))) ?_
                  show own_Fin _ _ _ _ _ _ _ (T462.setTop (mkF m 535 #[.val (.int p0), .val (.int p1), .val (.int p2), .val (.int (4 : Int32)), .val (.int xa), .val (.int xb), .val (.int xc), .val (.int xd), .val (.ref b401), .val (.ref b414), .val (.ref b457), .val (.int (0 : Int32)), .val (.ref r462)] []))
                  refine own_go (fun _ kk => XS.iload X462.here hx rfl (hb hby at_535) rfl (XS.iconst X462.here hx rfl (hb hby at_537) (XS.icmpYes X462.here hx rfl (pc0 := 538) (pc' := 554) rfl (hb hby at_538) rfl (XT.ii_le_t (by decide)) (by decide) (by decide) (XS.iconst X462.here hx rfl (hb hby at_554) kk)))) ?_
                  show own_Fin _ _ _ _ _ _ _ (T462.setTop (mkF m 555 #[.val (.int p0), .val (.int p1), .val (.int p2), .val (.int (4 : Int32)), .val (.int xa), .val (.int xb), .val (.int xc), .val (.int xd), .val (.ref b401), .val (.ref b414), .val (.ref b457), .val (.int (0 : Int32)), .val (.ref r462)] [(.int (1 : Int32))]))
                  exact own_retZ X462 hx hlk hret rfl (hb hby at_555) (by decide) (by decide) ⟨rfl, N462⟩
                · refine own_go (fun _ kk => XS.ifNo X457.here hx rfl (hb hby at_361) rfl (XT.i0_eq_f hc361) (XS.aload X457.here hx rfl (hb hby at_364) rfl rfl (XS.iload X457.here hx rfl (hb hby at_366) rfl (XS.iload X457.here hx rfl (hb hby at_368) rfl kk)))) ?_
                  show own_Fin _ _ _ _ _ _ _ (T457.setTop (mkF m 370 #[.val (.int p0), .val (.int p1), .val (.int p2), .val (.int (4 : Int32)), .val (.int xa), .val (.int xb), .val (.int xc), .val (.int xd), .val (.ref b401), .val (.ref b414), .val (.ref b457), .val (.int (0 : Int32)), .unset] [(.int xd), (.int (0 : Int32)), (.ref b457)]))
                  refine own_stI X457 hx hZ e457 A457 (by decide) (by show (0 : Int32).toNatClampNeg < 4; decide) (hb hby at_370) ?_
                  intro T469 h469 X469 e469 W469 A469
                  have f470 := f458.other W469 ne_b401_b457
                  have f471 := f459.wr W469
                  have f472 := f460.other W469 ne_b414_b457
                  have f473 := f461.wr W469
                  have f475 := D457.wr W469
                  have Z469 := Nat.le_trans Z457 (Keep.of_wr W469).1
                  have A469 : own_Ar Z h469 b457 .int (List.map Value.int [xd, (0 : Int32), (0 : Int32), (0 : Int32)]) := A469
                  have N469 := Fr.snoc X469 N452 g_b457
                  show own_Fin _ _ _ _ _ _ _ (T469.setTop (mkF m 371 #[.val (.int p0), .val (.int p1), .val (.int p2), .val (.int (4 : Int32)), .val (.int xa), .val (.int xb), .val (.int xc), .val (.int xd), .val (.ref b401), .val (.ref b414), .val (.ref b457), .val (.int (0 : Int32)), .unset] []))
                  refine own_go (fun _ kk => XS.iinc X469.here hx rfl (hb hby at_371) rfl (l' := #[.val (.int p0), .val (.int p1), .val (.int p2), .val (.int (4 : Int32)), .val (.int xa), .val (.int xb), .val (.int xc), .val (.int xd), .val (.ref b401), .val (.ref b414), .val (.ref b457), .val (.int (1 : Int32)), .unset]) rfl (XS.aload X469.here hx rfl (hb hby at_374) rfl rfl (XS.aload X469.here hx rfl (hb hby at_376) rfl rfl kk))) ?_
                  show own_Fin _ _ _ _ _ _ _ (T469.setTop (mkF m 378 #[.val (.int p0), .val (.int p1), .val (.int p2), .val (.int (4 : Int32)), .val (.int xa), .val (.int xb), .val (.int xc), .val (.int xd), .val (.ref b401), .val (.ref b414), .val (.ref b457), .val (.int (1 : Int32)), .unset] [(.ref b414), (.ref b401)]))
                  refine own_callS X469 hx hZ hown (hw _ (List.mem_of_getElem? (i := 7) rfl)) (hw _ (List.mem_of_getElem? (i := 8) rfl)) (hw _ (List.mem_of_getElem? (i := 9) rfl)) (hw _ (List.mem_of_getElem? (i := 10) rfl)) (by decide) (rm2 l Z a0 hw b401 b414 h469 n0 Z469 [xa, xb, xc, xd] bs f470 f472 (by show 4 ≤ 4; decide) (List.forall_mem_cons.mpr ⟨sa, (List.forall_mem_cons.mpr ⟨sb, (List.forall_mem_cons.mpr ⟨sc, (List.forall_mem_cons.mpr ⟨sd, (fun x h => nomatch h)⟩)⟩)⟩)⟩)) e469 (argsL := [(.ref b401), (.ref b414)]) (rest := []) rfl rfl (by rw [hml]; rfl) (lenOf pd_0_1 rfl) (hb hby at_378) (W := 0) (Nat.le_of_eq rfl) (by decide) (by decide) (by decide) (by decide) ?_
                  rintro v476 T476 L476 X476 ⟨r476, rfl, M476, Kc476, sz476, A476⟩
                  have N476 := Fr.app N469 M476
                  have ne476 : r476 ≠ b401 := Nat.ne_of_gt (Nat.lt_of_lt_of_le f470.lt sz476)
                  have f477 := f470.keep Kc476 nin0
                  have f478 := f471.keep Kc476
                  have f479 := f472.keep Kc476 nin0
                  have f480 := f473.keep Kc476
                  have f481 := A469.keep Kc476 nin0
                  have f482 := f475.keep Kc476
                  have Z476 := Nat.le_trans Z469 Kc476.1
                  have F476 : own_Ar Z T476.heap r476 .int (List.map Value.int [xd]) := by
                    rw [List.filter_cons_of_neg (by rw [show own_mk bs xa = false from decide_eq_false (fun q => q hc292)]; decide), List.filter_cons_of_neg (by rw [show own_mk bs xb = false from decide_eq_false (fun q => q hc315)]; decide), List.filter_cons_of_neg (by rw [show own_mk bs xc = false from decide_eq_false (fun q => q hc338)]; decide), List.filter_cons_of_pos (show own_mk bs xd = true from decide_eq_true hc361), List.filter_nil] at A476
                    exact A476
                  show own_Fin _ _ _ _ _ _ _ (T476.setTop (mkF m 381 #[.val (.int p0), .val (.int p1), .val (.int p2), .val (.int (4 : Int32)), .val (.int xa), .val (.int xb), .val (.int xc), .val (.int xd), .val (.ref b401), .val (.ref b414), .val (.ref b457), .val (.int (1 : Int32)), .unset] [(.ref r476)]))
                  refine own_go (fun _ kk => XS.astore X476.here hx rfl (hb hby at_381) rfl rfl (l' := #[.val (.int p0), .val (.int p1), .val (.int p2), .val (.int (4 : Int32)), .val (.int xa), .val (.int xb), .val (.int xc), .val (.int xd), .val (.ref b401), .val (.ref b414), .val (.ref b457), .val (.int (1 : Int32)), .val (.ref r476)]) rfl (XS.aload X476.here hx rfl (hb hby at_383) rfl rfl (XS.ifnullNo X476.here hx rfl (hb hby at_385) rfl (XS.aload X476.here hx rfl (hb hby at_388) rfl rfl (XS.aload X476.here hx rfl (hb hby at_390) rfl rfl (XT.acmpYes X476.here hx rfl (pc0 := 392) (pc' := 397) rfl (hb hby at_392) rfl rfl rfl (XT.aa_ne_t (fun q => ne476 (Value.ref.inj q))) (by decide) (by decide) (XS.aload X476.here hx rfl (hb hby at_397) rfl rfl kk))))))) ?_
                  show own_Fin _ _ _ _ _ _ _ (T476.setTop (mkF m 399 #[.val (.int p0), .val (.int p1), .val (.int p2), .val (.int (4 : Int32)), .val (.int xa), .val (.int xb), .val (.int xc), .val (.int xd), .val (.ref b401), .val (.ref b414), .val (.ref b457), .val (.int (1 : Int32)), .val (.ref r476)] [(.ref b401)]))
                  refine own_alen X476 hx hZ rfl f477 (hb hby at_399) ?_
                  show own_Fin _ _ _ _ _ _ _ (T476.setTop (mkF m 400 #[.val (.int p0), .val (.int p1), .val (.int p2), .val (.int (4 : Int32)), .val (.int xa), .val (.int xb), .val (.int xc), .val (.int xd), .val (.ref b401), .val (.ref b414), .val (.ref b457), .val (.int (1 : Int32)), .val (.ref r476)] [(.int (4 : Int32))]))
                  refine own_go (fun _ kk => XS.iloadN X476.here hx rfl (hb hby at_400) rfl (XS.icmpYes X476.here hx rfl (pc0 := 401) (pc' := 406) rfl (hb hby at_401) rfl (XT.ii_eq_t (by decide)) (by decide) (by decide) (XS.iloadN X476.here hx rfl (hb hby at_406) rfl (XS.ifNo X476.here hx rfl (hb hby at_407) rfl (XT.i0_le_f (by decide)) (XS.aload X476.here hx rfl (hb hby at_410) rfl rfl (XS.iconst X476.here hx rfl (hb hby at_412) kk)))))) ?_
                  show own_Fin _ _ _ _ _ _ _ (T476.setTop (mkF m 413 #[.val (.int p0), .val (.int p1), .val (.int p2), .val (.int (4 : Int32)), .val (.int xa), .val (.int xb), .val (.int xc), .val (.int xd), .val (.ref b401), .val (.ref b414), .val (.ref b457), .val (.int (1 : Int32)), .val (.ref r476)] [(.int (0 : Int32)), (.ref b401)]))
                  refine own_ldI X476 hx hZ rfl f477 (by decide) (by show (0 : Int32).toNatClampNeg < 4; decide) (hb hby at_413) ?_
                  show own_Fin _ _ _ _ _ _ _ (T476.setTop (mkF m 414 #[.val (.int p0), .val (.int p1), .val (.int p2), .val (.int (4 : Int32)), .val (.int xa), .val (.int xb), .val (.int xc), .val (.int xd), .val (.ref b401), .val (.ref b414), .val (.ref b457), .val (.int (1 : Int32)), .val (.ref r476)] [(.int xa)]))
                  refine own_go (fun _ kk => XS.iload X476.here hx rfl (hb hby at_414) rfl (XS.icmpYes X476.here hx rfl (pc0 := 416) (pc' := 421) rfl (hb hby at_416) rfl (XT.ii_eq_t rfl) (by decide) (by decide) (XS.iloadN X476.here hx rfl (hb hby at_421) rfl (XS.iconst X476.here hx rfl (hb hby at_422) (XS.icmpNo X476.here hx rfl (hb hby at_423) rfl (XT.ii_le_f (by decide)) (XS.aload X476.here hx rfl (hb hby at_426) rfl rfl (XS.iconst X476.here hx rfl (hb hby at_428) kk))))))) ?_
                  show own_Fin _ _ _ _ _ _ _ (T476.setTop (mkF m 429 #[.val (.int p0), .val (.int p1), .val (.int p2), .val (.int (4 : Int32)), .val (.int xa), .val (.int xb), .val (.int xc), .val (.int xd), .val (.ref b401), .val (.ref b414), .val (.ref b457), .val (.int (1 : Int32)), .val (.ref r476)] [(.int (1 : Int32)), (.ref b401)]))
                  refine own_ldI X476 hx hZ rfl f477 (by decide) (by show (1 : Int32).toNatClampNeg < 4; decide) (hb hby at_429) ?_
                  show own_Fin _ _ _ _ _ _ _ (T476.setTop (mkF m 430 #[.val (.int p0), .val (.int p1), .val (.int p2), .val (.int (4 : Int32)), .val (.int xa), .val (.int xb), .val (.int xc), .val (.int xd), .val (.ref b401), .val (.ref b414), .val (.ref b457), .val (.int (1 : Int32)), .val (.ref r476)] [(.int xb)]))
                  refine own_go (fun _ kk => XS.iload X476.here hx rfl (hb hby at_430) rfl (XS.icmpYes X476.here hx rfl (pc0 := 432) (pc' := 437) rfl (hb hby at_432) rfl (XT.ii_eq_t rfl) (by decide) (by decide) (XS.iloadN X476.here hx rfl (hb hby at_437) rfl (XS.iconst X476.here hx rfl (hb hby at_438) (XS.icmpNo X476.here hx rfl (hb hby at_439) rfl (XT.ii_le_f (by decide)) (XS.aload X476.here hx rfl (hb hby at_442) rfl rfl (XS.iconst X476.here hx rfl (hb hby at_444) kk))))))) ?_
                  show own_Fin _ _ _ _ _ _ _ (T476.setTop (mkF m 445 #[.val (.int p0), .val (.int p1), .val (.int p2), .val (.int (4 : Int32)), .val (.int xa), .val (.int xb), .val (.int xc), .val (.int xd), .val (.ref b401), .val (.ref b414), .val (.ref b457), .val (.int (1 : Int32)), .val (.ref r476)] [(.int (2 : Int32)), (.ref b401)]))
                  refine own_ldI X476 hx hZ rfl f477 (by decide) (by show (2 : Int32).toNatClampNeg < 4; decide) (hb hby at_445) ?_
                  show own_Fin _ _ _ _ _ _ _ (T476.setTop (mkF m 446 #[.val (.int p0), .val (.int p1), .val (.int p2), .val (.int (4 : Int32)), .val (.int xa), .val (.int xb), .val (.int xc), .val (.int xd), .val (.ref b401), .val (.ref b414), .val (.ref b457), .val (.int (1 : Int32)), .val (.ref r476)] [(.int xc)]))
                  refine own_go (fun _ kk => XS.iload X476.here hx rfl (hb hby at_446) rfl (XS.icmpYes X476.here hx rfl (pc0 := 448) (pc' := 453) rfl (hb hby at_448) rfl (XT.ii_eq_t rfl) (by decide) (by decide) (XS.iloadN X476.here hx rfl (hb hby at_453) rfl (XS.iconst X476.here hx rfl (hb hby at_454) (XS.icmpNo X476.here hx rfl (hb hby at_455) rfl (XT.ii_le_f (by decide)) (XS.aload X476.here hx rfl (hb hby at_458) rfl rfl (XS.iconst X476.here hx rfl (hb hby at_460) kk))))))) ?_
                  show own_Fin _ _ _ _ _ _ _ (T476.setTop (mkF m 461 #[.val (.int p0), .val (.int p1), .val (.int p2), .val (.int (4 : Int32)), .val (.int xa), .val (.int xb), .val (.int xc), .val (.int xd), .val (.ref b401), .val (.ref b414), .val (.ref b457), .val (.int (1 : Int32)), .val (.ref r476)] [(.int (3 : Int32)), (.ref b401)]))
                  refine own_ldI X476 hx hZ rfl f477 (by decide) (by show (3 : Int32).toNatClampNeg < 4; decide) (hb hby at_461) ?_
                  show own_Fin _ _ _ _ _ _ _ (T476.setTop (mkF m 462 #[.val (.int p0), .val (.int p1), .val (.int p2), .val (.int (4 : Int32)), .val (.int xa), .val (.int xb), .val (.int xc), .val (.int xd), .val (.ref b401), .val (.ref b414), .val (.ref b457), .val (.int (1 : Int32)), .val (.ref r476)] [(.int xd)]))
                  refine own_go (fun _ kk => XS.iload X476.here hx rfl (hb hby at_462) rfl (XS.icmpYes X476.here hx rfl (pc0 := 464) (pc' := 469) rfl (hb hby at_464) rfl (XT.ii_eq_t rfl) (by decide) (by decide) (XS.aload X476.here hx rfl (hb hby at_469) rfl rfl kk))) ?_
                  show own_Fin _ _ _ _ _ _ _ (T476.setTop (mkF m 471 #[.val (.int p0), .val (.int p1), .val (.int p2), .val (.int (4 : Int32)), .val (.int xa), .val (.int xb), .val (.int xc), .val (.int xd), .val (.ref b401), .val (.ref b414), .val (.ref b457), .val (.int (1 : Int32)), .val (.ref r476)] [(.ref r476)]))
                  refine own_alen X476 hx hZ rfl F476 (hb hby at_471) ?_
                  show own_Fin _ _ _ _ _ _ _ (T476.setTop (mkF m 472 #[.val (.int p0), .val (.int p1), .val (.int p2), .val (.int (4 : Int32)), .val (.int xa), .val (.int xb), .val (.int xc), .val (.int xd), .val (.ref b401), .val (.ref b414), .val (.ref b457), .val (.int (1 : Int32)), .val (.ref r476)] [(.int (1 : Int32))]))
                  refine own_go (fun _ kk => XS.iload X476.here hx rfl (hb hby at_472) rfl (XS.icmpYes X476.here hx rfl (pc0 := 474) (pc' := 479) rfl (hb hby at_474) rfl (XT.ii_eq_t (by decide)) (by decide) (by decide) (XS.iload X476.here hx rfl (hb hby at_479) rfl (XS.ifNo X476.here hx rfl (hb hby at_481) rfl (XT.i0_le_f (by decide)) (XS.aload X476.here hx rfl (hb hby at_484) rfl rfl (XS.iconst X476.here hx rfl (hb hby at_486) kk)))))) ?_
                  show own_Fin _ _ _ _ _ _ _ (T476.setTop (mkF m 487 #[.val (.int p0), .val (.int p1), .val (.int p2), .val (.int (4 : Int32)), .val (.int xa), .val (.int xb), .val (.int xc), .val (.int xd), .val (.ref b401), .val (.ref b414), .val (.ref b457), .val (.int (1 : Int32)), .val (.ref r476)] [(.int (0 : Int32)), (.ref r476)]))
                  refine own_ldI X476 hx hZ rfl F476 (by decide) (by show (0 : Int32).toNatClampNeg < 1; decide) (hb hby at_487) ?_
                  show own_Fin _ _ _ _ _ _ _ (T476.setTop (mkF m 488 #[.val (.int p0), .val (.int p1), .val (.int p2), .val (.int (4 : Int32)), .val (.int xa), .val (.int xb), .val (.int xc), .val (.int xd), .val (.ref b401), .val (.ref b414), .val (.ref b457), .val (.int (1 : Int32)), .val (.ref r476)] [(.int xd)]))
                  refine own_go (fun _ kk => XS.aload X476.here hx rfl (hb hby at_488) rfl rfl (XS.iconst X476.here hx rfl (hb hby at_490) kk)) ?_
                  show own_Fin _ _ _ _ _ _ _ (T476.setTop (mkF m 491 #[.val (.int p0), .val (.int p1), .val (.int p2), .val (.int (4 : Int32)), .val (.int xa), .val (.int xb), .val (.int xc), .val (.int xd), .val (.ref b401), .val (.ref b414), .val (.ref b457), .val (.int (1 : Int32)), .val (.ref r476)] [(.int (0 : Int32)), (.ref b457), (.int xd)]))
                  refine own_ldI X476 hx hZ rfl f481 (by decide) (by show (0 : Int32).toNatClampNeg < 4; decide) (hb hby at_491) ?_
                  show own_Fin _ _ _ _ _ _ _ (T476.setTop (mkF m 492 #[.val (.int p0), .val (.int p1), .val (.int p2), .val (.int (4 : Int32)), .val (.int xa), .val (.int xb), .val (.int xc), .val (.int xd), .val (.ref b401), .val (.ref b414), .val (.ref b457), .val (.int (1 : Int32)), .val (.ref r476)] [(.int xd), (.int xd)]))
                  refine own_go (fun _ kk => XS.icmpYes X476.here hx rfl (pc0 := 492) (pc' := 497) rfl (hb hby at_492) rfl (XT.ii_eq_t rfl) (by decide) (by decide) (XS.iload X476.here hx rfl (hb hby at_497) rfl (XS.iconst X476.here hx rfl (hb hby at_499) (XS.icmpYes X476.here hx rfl (pc0 := 500) (pc' := 516) rfl (hb hby at_500) rfl (XT.ii_le_t (by decide)) (by decide) (by decide) (XS.iload X476.here hx rfl (hb hby at_516) rfl (XS.iconst X476.here hx rfl (hb hby at_518) (XS.icmpYes X476.here hx rfl (pc0 := 519) (pc' := 535) rfl (hb hby at_519) rfl (XT.ii_le_t (by decide)) (by decide) (by decide) (XS.iload X476.here hx rfl (hb hby at_535) rfl (XS.iconst X476.here hx rfl (hb hby at_537) (XS.icmpYes X476.here hx rfl (pc0 := 538) (pc' := 554) rfl (hb hby at_538) rfl (XT.ii_le_t (by decide)) (by decide) (by decide) kk)))))))))) ?_
                  show own_Fin _ _ _ _ _ _ _ (T476.setTop (mkF m 554 #[.val (.int p0), .val (.int p1), .val (.int p2), .val (.int (4 : Int32)), .val (.int xa), .val (.int xb), .val (.int xc), .val (.int xd), .val (.ref b401), .val (.ref b414), .val (.ref b457), .val (.int (1 : Int32)), .val (.ref r476)] []))
                  refine own_go (fun _ kk => XS.iconst X476.here hx rfl (hb hby at_554) kk) ?_
                  show own_Fin _ _ _ _ _ _ _ (T476.setTop (mkF m 555 #[.val (.int p0), .val (.int p1), .val (.int p2), .val (.int (4 : Int32)), .val (.int xa), .val (.int xb), .val (.int xc), .val (.int xd), .val (.ref b401), .val (.ref b414), .val (.ref b457), .val (.int (1 : Int32)), .val (.ref r476)] [(.int (1 : Int32))]))
                  exact own_retZ X476 hx hlk hret rfl (hb hby at_555) (by decide) (by decide) ⟨rfl, N476⟩
              · refine own_go (fun _ kk => XS.ifNo X457.here hx rfl (hb hby at_338) rfl (XT.i0_eq_f hc338) (XS.aload X457.here hx rfl (hb hby at_341) rfl rfl (XS.iload X457.here hx rfl (hb hby at_343) rfl (XS.iload X457.here hx rfl (hb hby at_345) rfl kk)))) ?_
                show own_Fin _ _ _ _ _ _ _ (T457.setTop (mkF m 347 #[.val (.int p0), .val (.int p1), .val (.int p2), .val (.int (4 : Int32)), .val (.int xa), .val (.int xb), .val (.int xc), .val (.int xd), .val (.ref b401), .val (.ref b414), .val (.ref b457), .val (.int (0 : Int32)), .unset] [(.int xc), (.int (0 : Int32)), (.ref b457)]))
                refine own_stI X457 hx hZ e457 A457 (by decide) (by show (0 : Int32).toNatClampNeg < 4; decide) (hb hby at_347) ?_
                intro T483 h483 X483 e483 W483 A483
                have f484 := f458.other W483 ne_b401_b457
                have f485 := f459.wr W483
                have f486 := f460.other W483 ne_b414_b457
                have f487 := f461.wr W483
                have f489 := D457.wr W483
                have Z483 := Nat.le_trans Z457 (Keep.of_wr W483).1
                have A483 : own_Ar Z h483 b457 .int (List.map Value.int [xc, (0 : Int32), (0 : Int32), (0 : Int32)]) := A483
                have N483 := Fr.snoc X483 N452 g_b457
                show own_Fin _ _ _ _ _ _ _ (T483.setTop (mkF m 348 #[.val (.int p0), .val (.int p1), .val (.int p2), .val (.int (4 : Int32)), .val (.int xa), .val (.int xb), .val (.int xc), .val (.int xd), .val (.ref b401), .val (.ref b414), .val (.ref b457), .val (.int (0 : Int32)), .unset] []))
                refine own_go (fun _ kk => XS.iinc X483.here hx rfl (hb hby at_348) rfl (l' := #[.val (.int p0), .val (.int p1), .val (.int p2), .val (.int (4 : Int32)), .val (.int xa), .val (.int xb), .val (.int xc), .val (.int xd), .val (.ref b401), .val (.ref b414), .val (.ref b457), .val (.int (1 : Int32)), .unset]) rfl (XS.iloadN X483.here hx rfl (hb hby at_351) rfl (XS.iconst X483.here hx rfl (hb hby at_352) (XS.icmpNo X483.here hx rfl (hb hby at_353) rfl (XT.ii_le_f (by decide)) (XS.aload X483.here hx rfl (hb hby at_356) rfl rfl (XS.iload X483.here hx rfl (hb hby at_358) rfl kk)))))) ?_
                show own_Fin _ _ _ _ _ _ _ (T483.setTop (mkF m 360 #[.val (.int p0), .val (.int p1), .val (.int p2), .val (.int (4 : Int32)), .val (.int xa), .val (.int xb), .val (.int xc), .val (.int xd), .val (.ref b401), .val (.ref b414), .val (.ref b457), .val (.int (1 : Int32)), .unset] [(.int xd), (.ref b414)]))
                refine own_ldZ X483 hx hZ e483 f486 sd.1 sd.2 (hb hby at_360) ?_
                show own_Fin _ _ _ _ _ _ _ (T483.setTop (mkF m 361 #[.val (.int p0), .val (.int p1), .val (.int p2), .val (.int (4 : Int32)), .val (.int xa), .val (.int xb), .val (.int xc), .val (.int xd), .val (.ref b401), .val (.ref b414), .val (.ref b457), .val (.int (1 : Int32)), .unset] [(.int (List.getD bs (xd).toNatClampNeg 0))]))
                by_cases hc361 : (List.getD bs (xd).toNatClampNeg 0) = 0
                · refine own_go (fun _ kk => XS.ifYes X483.here hx rfl (pc0 := 361) (pc' := 374) rfl (hb hby at_361) rfl (XT.i0_eq_t hc361) (by decide) (by decide) (XS.aload X483.here hx rfl (hb hby at_374) rfl rfl (XS.aload X483.here hx rfl (hb hby at_376) rfl rfl kk))) ?_
                  show own_Fin _ _ _ _ _ _ _ (T483.setTop (mkF m 378 #[.val (.int p0), .val (.int p1), .val (.int p2), .val (.int (4 : Int32)), .val (.int xa), .val (.int xb), .val (.int xc), .val (.int xd), .val (.ref b401), .val (.ref b414), .val (.ref b457), .val (.int (1 : Int32)), .unset] [(.ref b414), (.ref b401)]))
                  refine own_callS X483 hx hZ hown (hw _ (List.mem_of_getElem? (i := 7) rfl)) (hw _ (List.mem_of_getElem? (i := 8) rfl)) (hw _ (List.mem_of_getElem? (i := 9) rfl)) (hw _ (List.mem_of_getElem? (i := 10) rfl)) (by decide) (rm2 l Z a0 hw b401 b414 h483 n0 Z483 [xa, xb, xc, xd] bs f484 f486 (by show 4 ≤ 4; decide) (List.forall_mem_cons.mpr ⟨sa, (List.forall_mem_cons.mpr ⟨sb, (List.forall_mem_cons.mpr ⟨sc, (List.forall_mem_cons.mpr ⟨sd, (fun x h => nomatch h)⟩)⟩)⟩)⟩)) e483 (argsL := [(.ref b401), (.ref b414)]) (rest := []) rfl rfl (by rw [hml]; rfl) (lenOf pd_0_1 rfl) (hb hby at_378) (W := 0) (Nat.le_of_eq rfl) (by decide) (by decide) (by decide) (by decide) ?_
                  rintro v490 T490 L490 X490 ⟨r490, rfl, M490, Kc490, sz490, A490⟩
                  have N490 := Fr.app N483 M490
                  have ne490 : r490 ≠ b401 := Nat.ne_of_gt (Nat.lt_of_lt_of_le f484.lt sz490)
                  have f491 := f484.keep Kc490 nin0
                  have f492 := f485.keep Kc490
                  have f493 := f486.keep Kc490 nin0
                  have f494 := f487.keep Kc490
                  have f495 := A483.keep Kc490 nin0
                  have f496 := f489.keep Kc490
                  have Z490 := Nat.le_trans Z483 Kc490.1
                  have F490 : own_Ar Z T490.heap r490 .int (List.map Value.int [xc]) := by
                    rw [List.filter_cons_of_neg (by rw [show own_mk bs xa = false from decide_eq_false (fun q => q hc292)]; decide), List.filter_cons_of_neg (by rw [show own_mk bs xb = false from decide_eq_false (fun q => q hc315)]; decide), List.filter_cons_of_pos (show own_mk bs xc = true from decide_eq_true hc338), List.filter_cons_of_neg (by rw [show own_mk bs xd = false from decide_eq_false (fun q => q hc361)]; decide), List.filter_nil] at A490
                    exact A490
                  show own_Fin _ _ _ _ _ _ _ (T490.setTop (mkF m 381 #[.val (.int p0), .val (.int p1), .val (.int p2), .val (.int (4 : Int32)), .val (.int xa), .val (.int xb), .val (.int xc), .val (.int xd), .val (.ref b401), .val (.ref b414), .val (.ref b457), .val (.int (1 : Int32)), .unset] [(.ref r490)]))
                  refine own_go (fun _ kk => XS.astore X490.here hx rfl (hb hby at_381) rfl rfl (l' := #[.val (.int p0), .val (.int p1), .val (.int p2), .val (.int (4 : Int32)), .val (.int xa), .val (.int xb), .val (.int xc), .val (.int xd), .val (.ref b401), .val (.ref b414), .val (.ref b457), .val (.int (1 : Int32)), .val (.ref r490)]) rfl (XS.aload X490.here hx rfl (hb hby at_383) rfl rfl (XS.ifnullNo X490.here hx rfl (hb hby at_385) rfl (XS.aload X490.here hx rfl (hb hby at_388) rfl rfl (XS.aload X490.here hx rfl (hb hby at_390) rfl rfl (XT.acmpYes X490.here hx rfl (pc0 := 392) (pc' := 397) rfl (hb hby at_392) rfl rfl rfl (XT.aa_ne_t (fun q => ne490 (Value.ref.inj q))) (by decide) (by decide) (XS.aload X490.here hx rfl (hb hby at_397) rfl rfl kk))))))) ?_
                  show own_Fin _ _ _ _ _ _ _ (T490.setTop (mkF m 399 #[.val (.int p0), .val (.int p1), .val (.int p2), .val (.int (4 : Int32)), .val (.int xa), .val (.int xb), .val (.int xc), .val (.int xd), .val (.ref b401), .val (.ref b414), .val (.ref b457), .val (.int (1 : Int32)), .val (.ref r490)] [(.ref b401)]))
                  refine own_alen X490 hx hZ rfl f491 (hb hby at_399) ?_
                  show own_Fin _ _ _ _ _ _ _ (T490.setTop (mkF m 400 #[.val (.int p0), .val (.int p1), .val (.int p2), .val (.int (4 : Int32)), .val (.int xa), .val (.int xb), .val (.int xc), .val (.int xd), .val (.ref b401), .val (.ref b414), .val (.ref b457), .val (.int (1 : Int32)), .val (.ref r490)] [(.int (4 : Int32))]))
                  refine own_go (fun _ kk => XS.iloadN X490.here hx rfl (hb hby at_400) rfl (XS.icmpYes X490.here hx rfl (pc0 := 401) (pc' := 406) rfl (hb hby at_401) rfl (XT.ii_eq_t (by decide)) (by decide) (by decide) (XS.iloadN X490.here hx rfl (hb hby at_406) rfl (XS.ifNo X490.here hx rfl (hb hby at_407) rfl (XT.i0_le_f (by decide)) (XS.aload X490.here hx rfl (hb hby at_410) rfl rfl (XS.iconst X490.here hx rfl (hb hby at_412) kk)))))) ?_
                  show own_Fin _ _ _ _ _ _ _ (T490.setTop (mkF m 413 #[.val (.int p0), .val (.int p1), .val (.int p2), .val (.int (4 : Int32)), .val (.int xa), .val (.int xb), .val (.int xc), .val (.int xd), .val (.ref b401), .val (.ref b414), .val (.ref b457), .val (.int (1 : Int32)), .val (.ref r490)] [(.int (0 : Int32)), (.ref b401)]))
                  refine own_ldI X490 hx hZ rfl f491 (by decide) (by show (0 : Int32).toNatClampNeg < 4; decide) (hb hby at_413) ?_
                  show own_Fin _ _ _ _ _ _ _ (T490.setTop (mkF m 414 #[.val (.int p0), .val (.int p1), .val (.int p2), .val (.int (4 : Int32)), .val (.int xa), .val (.int xb), .val (.int xc), .val (.int xd), .val (.ref b401), .val (.ref b414), .val (.ref b457), .val (.int (1 : Int32)), .val (.ref r490)] [(.int xa)]))
                  refine own_go (fun _ kk => XS.iload X490.here hx rfl (hb hby at_414) rfl (XS.icmpYes X490.here hx rfl (pc0 := 416) (pc' := 421) rfl (hb hby at_416) rfl (XT.ii_eq_t rfl) (by decide) (by decide) (XS.iloadN X490.here hx rfl (hb hby at_421) rfl (XS.iconst X490.here hx rfl (hb hby at_422) (XS.icmpNo X490.here hx rfl (hb hby at_423) rfl (XT.ii_le_f (by decide)) (XS.aload X490.here hx rfl (hb hby at_426) rfl rfl (XS.iconst X490.here hx rfl (hb hby at_428) kk))))))) ?_
                  show own_Fin _ _ _ _ _ _ _ (T490.setTop (mkF m 429 #[.val (.int p0), .val (.int p1), .val (.int p2), .val (.int (4 : Int32)), .val (.int xa), .val (.int xb), .val (.int xc), .val (.int xd), .val (.ref b401), .val (.ref b414), .val (.ref b457), .val (.int (1 : Int32)), .val (.ref r490)] [(.int (1 : Int32)), (.ref b401)]))
                  refine own_ldI X490 hx hZ rfl f491 (by decide) (by show (1 : Int32).toNatClampNeg < 4; decide) (hb hby at_429) ?_
                  show own_Fin _ _ _ _ _ _ _ (T490.setTop (mkF m 430 #[.val (.int p0), .val (.int p1), .val (.int p2), .val (.int (4 : Int32)), .val (.int xa), .val (.int xb), .val (.int xc), .val (.int xd), .val (.ref b401), .val (.ref b414), .val (.ref b457), .val (.int (1 : Int32)), .val (.ref r490)] [(.int xb)]))
                  refine own_go (fun _ kk => XS.iload X490.here hx rfl (hb hby at_430) rfl (XS.icmpYes X490.here hx rfl (pc0 := 432) (pc' := 437) rfl (hb hby at_432) rfl (XT.ii_eq_t rfl) (by decide) (by decide) (XS.iloadN X490.here hx rfl (hb hby at_437) rfl (XS.iconst X490.here hx rfl (hb hby at_438) (XS.icmpNo X490.here hx rfl (hb hby at_439) rfl (XT.ii_le_f (by decide)) (XS.aload X490.here hx rfl (hb hby at_442) rfl rfl (XS.iconst X490.here hx rfl (hb hby at_444) kk))))))) ?_
                  show own_Fin _ _ _ _ _ _ _ (T490.setTop (mkF m 445 #[.val (.int p0), .val (.int p1), .val (.int p2), .val (.int (4 : Int32)), .val (.int xa), .val (.int xb), .val (.int xc), .val (.int xd), .val (.ref b401), .val (.ref b414), .val (.ref b457), .val (.int (1 : Int32)), .val (.ref r490)] [(.int (2 : Int32)), (.ref b401)]))
                  refine own_ldI X490 hx hZ rfl f491 (by decide) (by show (2 : Int32).toNatClampNeg < 4; decide) (hb hby at_445) ?_
                  show own_Fin _ _ _ _ _ _ _ (T490.setTop (mkF m 446 #[.val (.int p0), .val (.int p1), .val (.int p2), .val (.int (4 : Int32)), .val (.int xa), .val (.int xb), .val (.int xc), .val (.int xd), .val (.ref b401), .val (.ref b414), .val (.ref b457), .val (.int (1 : Int32)), .val (.ref r490)] [(.int xc)]))
                  refine own_go (fun _ kk => XS.iload X490.here hx rfl (hb hby at_446) rfl (XS.icmpYes X490.here hx rfl (pc0 := 448) (pc' := 453) rfl (hb hby at_448) rfl (XT.ii_eq_t rfl) (by decide) (by decide) (XS.iloadN X490.here hx rfl (hb hby at_453) rfl (XS.iconst X490.here hx rfl (hb hby at_454) (XS.icmpNo X490.here hx rfl (hb hby at_455) rfl (XT.ii_le_f (by decide)) (XS.aload X490.here hx rfl (hb hby at_458) rfl rfl (XS.iconst X490.here hx rfl (hb hby at_460) kk))))))) ?_
                  show own_Fin _ _ _ _ _ _ _ (T490.setTop (mkF m 461 #[.val (.int p0), .val (.int p1), .val (.int p2), .val (.int (4 : Int32)), .val (.int xa), .val (.int xb), .val (.int xc), .val (.int xd), .val (.ref b401), .val (.ref b414), .val (.ref b457), .val (.int (1 : Int32)), .val (.ref r490)] [(.int (3 : Int32)), (.ref b401)]))
                  refine own_ldI X490 hx hZ rfl f491 (by decide) (by show (3 : Int32).toNatClampNeg < 4; decide) (hb hby at_461) ?_
                  show own_Fin _ _ _ _ _ _ _ (T490.setTop (mkF m 462 #[.val (.int p0), .val (.int p1), .val (.int p2), .val (.int (4 : Int32)), .val (.int xa), .val (.int xb), .val (.int xc), .val (.int xd), .val (.ref b401), .val (.ref b414), .val (.ref b457), .val (.int (1 : Int32)), .val (.ref r490)] [(.int xd)]))
                  refine own_go (fun _ kk => XS.iload X490.here hx rfl (hb hby at_462) rfl (XS.icmpYes X490.here hx rfl (pc0 := 464) (pc' := 469) rfl (hb hby at_464) rfl (XT.ii_eq_t rfl) (by decide) (by decide) (XS.aload X490.here hx rfl (hb hby at_469) rfl rfl kk))) ?_
                  show own_Fin _ _ _ _ _ _ _ (T490.setTop (mkF m 471 #[.val (.int p0), .val (.int p1), .val (.int p2), .val (.int (4 : Int32)), .val (.int xa), .val (.int xb), .val (.int xc), .val (.int xd), .val (.ref b401), .val (.ref b414), .val (.ref b457), .val (.int (1 : Int32)), .val (.ref r490)] [(.ref r490)]))
                  refine own_alen X490 hx hZ rfl F490 (hb hby at_471) ?_
                  show own_Fin _ _ _ _ _ _ _ (T490.setTop (mkF m 472 #[.val (.int p0), .val (.int p1), .val (.int p2), .val (.int (4 : Int32)), .val (.int xa), .val (.int xb), .val (.int xc), .val (.int xd), .val (.ref b401), .val (.ref b414), .val (.ref b457), .val (.int (1 : Int32)), .val (.ref r490)] [(.int (1 : Int32))]))
                  refine own_go (fun _ kk => XS.iload X490.here hx rfl (hb hby at_472) rfl (XS.icmpYes X490.here hx rfl (pc0 := 474) (pc' := 479) rfl (hb hby at_474) rfl (XT.ii_eq_t (by decide)) (by decide) (by decide) (XS.iload X490.here hx rfl (hb hby at_479) rfl (XS.ifNo X490.here hx rfl (hb hby at_481) rfl (XT.i0_le_f (by decide)) (XS.aload X490.here hx rfl (hb hby at_484) rfl rfl (XS.iconst X490.here hx rfl (hb hby at_486) kk)))))) ?_
                  show own_Fin _ _ _ _ _ _ _ (T490.setTop (mkF m 487 #[.val (.int p0), .val (.int p1), .val (.int p2), .val (.int (4 : Int32)), .val (.int xa), .val (.int xb), .val (.int xc), .val (.int xd), .val (.ref b401), .val (.ref b414), .val (.ref b457), .val (.int (1 : Int32)), .val (.ref r490)] [(.int (0 : Int32)), (.ref r490)]))
                  refine own_ldI X490 hx hZ rfl F490 (by decide) (by show (0 : Int32).toNatClampNeg < 1; decide) (hb hby at_487) ?_
                  show own_Fin _ _ _ _ _ _ _ (T490.setTop (mkF m 488 #[.val (.int p0), .val (.int p1), .val (.int p2), .val (.int (4 : Int32)), .val (.int xa), .val (.int xb), .val (.int xc), .val (.int xd), .val (.ref b401), .val (.ref b414), .val (.ref b457), .val (.int (1 : Int32)), .val (.ref r490)] [(.int xc)]))
                  refine own_go (fun _ kk => XS.aload X490.here hx rfl (hb hby at_488) rfl rfl (XS.iconst X490.here hx rfl (hb hby at_490) kk)) ?_
                  show own_Fin _ _ _ _ _ _ _ (T490.setTop (mkF m 491 #[.val (.int p0), .val (.int p1), .val (.int p2), .val (.int (4 : Int32)), .val (.int xa), .val (.int xb), .val (.int xc), .val (.int xd), .val (.ref b401), .val (.ref b414), .val (.ref b457), .val (.int (1 : Int32)), .val (.ref r490)] [(.int (0 : Int32)), (.ref b457), (.int xc)]))
                  refine own_ldI X490 hx hZ rfl f495 (by decide) (by show (0 : Int32).toNatClampNeg < 4; decide) (hb hby at_491) ?_
                  show own_Fin _ _ _ _ _ _ _ (T490.setTop (mkF m 492 #[.val (.int p0), .val (.int p1), .val (.int p2), .val (.int (4 : Int32)), .val (.int xa), .val (.int xb), .val (.int xc), .val (.int xd), .val (.ref b401), .val (.ref b414), .val (.ref b457), .val (.int (1 : Int32)), .val (.ref r490)] [(.int xc), (.int xc)]))
                  refine own_go (fun _ kk => XS.icmpYes X490.here hx rfl (pc0 := 492) (pc' := 497) rfl (hb hby at_492) rfl (XT.ii_eq_t rfl) (by decide) (by decide) (XS.iload X490.here hx rfl (hb hby at_497) rfl (XS.iconst X490.here hx rfl (hb hby at_499) (XS.icmpYes X490.here hx rfl (pc0 := 500) (pc' := 516) rfl (hb hby at_500) rfl (XT.ii_le_t (by decide)) (by decide) (by decide) (XS.iload X490.here hx rfl (hb hby at_516) rfl (XS.iconst X490.here hx rfl (hb hby at_518) (XS.icmpYes X490.here hx rfl (pc0 := 519) (pc' := 535) rfl (hb hby at_519) rfl (XT.ii_le_t (by decide)) (by decide) (by decide) (XS.iload X490.here hx rfl (hb hby at_535) rfl (XS.iconst X490.here hx rfl (hb hby at_537) (XS.icmpYes X490.here hx rfl (pc0 := 538) (pc' := 554) rfl (hb hby at_538) rfl (XT.ii_le_t (by decide)) (by decide) (by decide) kk)))))))))) ?_
                  show own_Fin _ _ _ _ _ _ _ (T490.setTop (mkF m 554 #[.val (.int p0), .val (.int p1), .val (.int p2), .val (.int (4 : Int32)), .val (.int xa), .val (.int xb), .val (.int xc), .val (.int xd), .val (.ref b401), .val (.ref b414), .val (.ref b457), .val (.int (1 : Int32)), .val (.ref r490)] []))
                  refine own_go (fun _ kk => XS.iconst X490.here hx rfl (hb hby at_554) kk) ?_
                  show own_Fin _ _ _ _ _ _ _ (T490.setTop (mkF m 555 #[.val (.int p0), .val (.int p1), .val (.int p2), .val (.int (4 : Int32)), .val (.int xa), .val (.int xb), .val (.int xc), .val (.int xd), .val (.ref b401), .val (.ref b414), .val (.ref b457), .val (.int (1 : Int32)), .val (.ref r490)] [(.int (1 : Int32))]))
                  exact own_retZ X490 hx hlk hret rfl (hb hby at_555) (by decide) (by decide) ⟨rfl, N490⟩
                · refine own_go (fun _ kk => XS.ifNo X483.here hx rfl (hb hby at_361) rfl (XT.i0_eq_f hc361) (XS.aload X483.here hx rfl (hb hby at_364) rfl rfl (XS.iload X483.here hx rfl (hb hby at_366) rfl (XS.iload X483.here hx rfl (hb hby at_368) rfl kk)))) ?_
                  show own_Fin _ _ _ _ _ _ _ (T483.setTop (mkF m 370 #[.val (.int p0), .val (.int p1), .val (.int p2), .val (.int (4 : Int32)), .val (.int xa), .val (.int xb), .val (.int xc), .val (.int xd), .val (.ref b401), .val (.ref b414), .val (.ref b457), .val (.int (1 : Int32)), .unset] [(.int xd), (.int (1 : Int32)), (.ref b457)]))
                  refine own_stI X483 hx hZ e483 A483 (by decide) (by show (1 : Int32).toNatClampNeg < 4; decide) (hb hby at_370) ?_
                  intro T497 h497 X497 e497 W497 A497
                  have f498 := f484.other W497 ne_b401_b457
                  have f499 := f485.wr W497
                  have f500 := f486.other W497 ne_b414_b457
                  have f501 := f487.wr W497
                  have f503 := f489.wr W497
                  have Z497 := Nat.le_trans Z483 (Keep.of_wr W497).1
                  have A497 : own_Ar Z h497 b457 .int (List.map Value.int [xc, xd, (0 : Int32), (0 : Int32)]) := A497
                  have N497 := Fr.snoc X497 N483 g_b457
                  show own_Fin _ _ _ _ _ _ _ (T497.setTop (mkF m 371 #[.val (.int p0), .val (.int p1), .val (.int p2), .val (.int (4 : Int32)), .val (.int xa), .val (.int xb), .val (.int xc), .val (.int xd), .val (.ref b401), .val (.ref b414), .val (.ref b457), .val (.int (1 : Int32)), .unset] []))
                  refine own_go (fun _ kk => XS.iinc X497.here hx rfl (hb hby at_371) rfl (l' := #[.val (.int p0), .val (.int p1), .val (.int p2), .val (.int (4 : Int32)), .val (.int xa), .val (.int xb), .val (.int xc), .val (.int xd), .val (.ref b401), .val (.ref b414), .val (.ref b457), .val (.int (2 : Int32)), .unset]) rfl (XS.aload X497.here hx rfl (hb hby at_374) rfl rfl (XS.aload X497.here hx rfl (hb hby at_376) rfl rfl kk))) ?_
                  show own_Fin _ _ _ _ _ _ _ (T497.setTop (mkF m 378 #[.val (.int p0), .val (.int p1), .val (.int p2), .val (.int (4 : Int32)), .val (.int xa), .val (.int xb), .val (.int xc), .val (.int xd), .val (.ref b401), .val (.ref b414), .val (.ref b457), .val (.int (2 : Int32)), .unset] [(.ref b414), (.ref b401)]))
                  refine own_callS X497 hx hZ hown (hw _ (List.mem_of_getElem? (i := 7) rfl)) (hw _ (List.mem_of_getElem? (i := 8) rfl)) (hw _ (List.mem_of_getElem? (i := 9) rfl)) (hw _ (List.mem_of_getElem? (i := 10) rfl)) (by decide) (rm2 l Z a0 hw b401 b414 h497 n0 Z497 [xa, xb, xc, xd] bs f498 f500 (by show 4 ≤ 4; decide) (List.forall_mem_cons.mpr ⟨sa, (List.forall_mem_cons.mpr ⟨sb, (List.forall_mem_cons.mpr ⟨sc, (List.forall_mem_cons.mpr ⟨sd, (fun x h => nomatch h)⟩)⟩)⟩)⟩)) e497 (argsL := [(.ref b401), (.ref b414)]) (rest := []) rfl rfl (by rw [hml]; rfl) (lenOf pd_0_1 rfl) (hb hby at_378) (W := 0) (Nat.le_of_eq rfl) (by decide) (by decide) (by decide) (by decide) ?_
                  rintro v504 T504 L504 X504 ⟨r504, rfl, M504, Kc504, sz504, A504⟩
                  have N504 := Fr.app N497 M504
                  have ne504 : r504 ≠ b401 := Nat.ne_of_gt (Nat.lt_of_lt_of_le f498.lt sz504)
                  have f505 := f498.keep Kc504 nin0
                  have f506 := f499.keep Kc504
                  have f507 := f500.keep Kc504 nin0
                  have f508 := f501.keep Kc504
                  have f509 := A497.keep Kc504 nin0
                  have f510 := f503.keep Kc504
                  have Z504 := Nat.le_trans Z497 Kc504.1
                  have F504 : own_Ar Z T504.heap r504 .int (List.map Value.int [xc, xd]) := by
                    rw [List.filter_cons_of_neg (by rw [show own_mk bs xa = false from decide_eq_false (fun q => q hc292)]; decide), List.filter_cons_of_neg (by rw [show own_mk bs xb = false from decide_eq_false (fun q => q hc315)]; decide), List.filter_cons_of_pos (show own_mk bs xc = true from decide_eq_true hc338), List.filter_cons_of_pos (show own_mk bs xd = true from decide_eq_true hc361), List.filter_nil] at A504
                    exact A504
                  show own_Fin _ _ _ _ _ _ _ (T504.setTop (mkF m 381 #[.val (.int p0), .val (.int p1), .val (.int p2), .val (.int (4 : Int32)), .val (.int xa), .val (.int xb), .val (.int xc), .val (.int xd), .val (.ref b401), .val (.ref b414), .val (.ref b457), .val (.int (2 : Int32)), .unset] [(.ref r504)]))
                  refine own_go (fun _ kk => XS.astore X504.here hx rfl (hb hby at_381) rfl rfl (l' := #[.val (.int p0), .val (.int p1), .val (.int p2), .val (.int (4 : Int32)), .val (.int xa), .val (.int xb), .val (.int xc), .val (.int xd), .val (.ref b401), .val (.ref b414), .val (.ref b457), .val (.int (2 : Int32)), .val (.ref r504)]) rfl (XS.aload X504.here hx rfl (hb hby at_383) rfl rfl (XS.ifnullNo X504.here hx rfl (hb hby at_385) rfl (XS.aload X504.here hx rfl (hb hby at_388) rfl rfl (XS.aload X504.here hx rfl (hb hby at_390) rfl rfl (XT.acmpYes X504.here hx rfl (pc0 := 392) (pc' := 397) rfl (hb hby at_392) rfl rfl rfl (XT.aa_ne_t (fun q => ne504 (Value.ref.inj q))) (by decide) (by decide) (XS.aload X504.here hx rfl (hb hby at_397) rfl rfl kk))))))) ?_
                  show own_Fin _ _ _ _ _ _ _ (T504.setTop (mkF m 399 #[.val (.int p0), .val (.int p1), .val (.int p2), .val (.int (4 : Int32)), .val (.int xa), .val (.int xb), .val (.int xc), .val (.int xd), .val (.ref b401), .val (.ref b414), .val (.ref b457), .val (.int (2 : Int32)), .val (.ref r504)] [(.ref b401)]))
                  refine own_alen X504 hx hZ rfl f505 (hb hby at_399) ?_
                  show own_Fin _ _ _ _ _ _ _ (T504.setTop (mkF m 400 #[.val (.int p0), .val (.int p1), .val (.int p2), .val (.int (4 : Int32)), .val (.int xa), .val (.int xb), .val (.int xc), .val (.int xd), .val (.ref b401), .val (.ref b414), .val (.ref b457), .val (.int (2 : Int32)), .val (.ref r504)] [(.int (4 : Int32))]))
                  refine own_go (fun _ kk => XS.iloadN X504.here hx rfl (hb hby at_400) rfl (XS.icmpYes X504.here hx rfl (pc0 := 401) (pc' := 406) rfl (hb hby at_401) rfl (XT.ii_eq_t (by decide)) (by decide) (by decide) (XS.iloadN X504.here hx rfl (hb hby at_406) rfl (XS.ifNo X504.here hx rfl (hb hby at_407) rfl (XT.i0_le_f (by decide)) (XS.aload X504.here hx rfl (hb hby at_410) rfl rfl (XS.iconst X504.here hx rfl (hb hby at_412) kk)))))) ?_
                  show own_Fin _ _ _ _ _ _ _ (T504.setTop (mkF m 413 #[.val (.int p0), .val (.int p1), .val (.int p2), .val (.int (4 : Int32)), .val (.int xa), .val (.int xb), .val (.int xc), .val (.int xd), .val (.ref b401), .val (.ref b414), .val (.ref b457), .val (.int (2 : Int32)), .val (.ref r504)] [(.int (0 : Int32)), (.ref b401)]))
                  refine own_ldI X504 hx hZ rfl f505 (by decide) (by show (0 : Int32).toNatClampNeg < 4; decide) (hb hby at_413) ?_
                  show own_Fin _ _ _ _ _ _ _ (T504.setTop (mkF m 414 #[.val (.int p0), .val (.int p1), .val (.int p2), .val (.int (4 : Int32)), .val (.int xa), .val (.int xb), .val (.int xc), .val (.int xd), .val (.ref b401), .val (.ref b414), .val (.ref b457), .val (.int (2 : Int32)), .val (.ref r504)] [(.int xa)]))
                  refine own_go (fun _ kk => XS.iload X504.here hx rfl (hb hby at_414) rfl (XS.icmpYes X504.here hx rfl (pc0 := 416) (pc' := 421) rfl (hb hby at_416) rfl (XT.ii_eq_t rfl) (by decide) (by decide) (XS.iloadN X504.here hx rfl (hb hby at_421) rfl (XS.iconst X504.here hx rfl (hb hby at_422) (XS.icmpNo X504.here hx rfl (hb hby at_423) rfl (XT.ii_le_f (by decide)) (XS.aload X504.here hx rfl (hb hby at_426) rfl rfl (XS.iconst X504.here hx rfl (hb hby at_428) kk))))))) ?_
                  show own_Fin _ _ _ _ _ _ _ (T504.setTop (mkF m 429 #[.val (.int p0), .val (.int p1), .val (.int p2), .val (.int (4 : Int32)), .val (.int xa), .val (.int xb), .val (.int xc), .val (.int xd), .val (.ref b401), .val (.ref b414), .val (.ref b457), .val (.int (2 : Int32)), .val (.ref r504)] [(.int (1 : Int32)), (.ref b401)]))
                  refine own_ldI X504 hx hZ rfl f505 (by decide) (by show (1 : Int32).toNatClampNeg < 4; decide) (hb hby at_429) ?_
                  show own_Fin _ _ _ _ _ _ _ (T504.setTop (mkF m 430 #[.val (.int p0), .val (.int p1), .val (.int p2), .val (.int (4 : Int32)), .val (.int xa), .val (.int xb), .val (.int xc), .val (.int xd), .val (.ref b401), .val (.ref b414), .val (.ref b457), .val (.int (2 : Int32)), .val (.ref r504)] [(.int xb)]))
                  refine own_go (fun _ kk => XS.iload X504.here hx rfl (hb hby at_430) rfl (XS.icmpYes X504.here hx rfl (pc0 := 432) (pc' := 437) rfl (hb hby at_432) rfl (XT.ii_eq_t rfl) (by decide) (by decide) (XS.iloadN X504.here hx rfl (hb hby at_437) rfl (XS.iconst X504.here hx rfl (hb hby at_438) (XS.icmpNo X504.here hx rfl (hb hby at_439) rfl (XT.ii_le_f (by decide)) (XS.aload X504.here hx rfl (hb hby at_442) rfl rfl (XS.iconst X504.here hx rfl (hb hby at_444) kk))))))) ?_
                  show own_Fin _ _ _ _ _ _ _ (T504.setTop (mkF m 445 #[.val (.int p0), .val (.int p1), .val (.int p2), .val (.int (4 : Int32)), .val (.int xa), .val (.int xb), .val (.int xc), .val (.int xd), .val (.ref b401), .val (.ref b414), .val (.ref b457), .val (.int (2 : Int32)), .val (.ref r504)] [(.int (2 : Int32)), (.ref b401)]))
                  refine own_ldI X504 hx hZ rfl f505 (by decide) (by show (2 : Int32).toNatClampNeg < 4; decide) (hb hby at_445) ?_
                  show own_Fin _ _ _ _ _ _ _ (T504.setTop (mkF m 446 #[.val (.int p0), .val (.int p1), .val (.int p2), .val (.int (4 : Int32)), .val (.int xa), .val (.int xb), .val (.int xc), .val (.int xd), .val (.ref b401), .val (.ref b414), .val (.ref b457), .val (.int (2 : Int32)), .val (.ref r504)] [(.int xc)]))
                  refine own_go (fun _ kk => XS.iload X504.here hx rfl (hb hby at_446) rfl (XS.icmpYes X504.here hx rfl (pc0 := 448) (pc' := 453) rfl (hb hby at_448) rfl (XT.ii_eq_t rfl) (by decide) (by decide) (XS.iloadN X504.here hx rfl (hb hby at_453) rfl (XS.iconst X504.here hx rfl (hb hby at_454) (XS.icmpNo X504.here hx rfl (hb hby at_455) rfl (XT.ii_le_f (by decide)) (XS.aload X504.here hx rfl (hb hby at_458) rfl rfl (XS.iconst X504.here hx rfl (hb hby at_460) kk))))))) ?_
                  show own_Fin _ _ _ _ _ _ _ (T504.setTop (mkF m 461 #[.val (.int p0), .val (.int p1), .val (.int p2), .val (.int (4 : Int32)), .val (.int xa), .val (.int xb), .val (.int xc), .val (.int xd), .val (.ref b401), .val (.ref b414), .val (.ref b457), .val (.int (2 : Int32)), .val (.ref r504)] [(.int (3 : Int32)), (.ref b401)]))
                  refine own_ldI X504 hx hZ rfl f505 (by decide) (by show (3 : Int32).toNatClampNeg < 4; decide) (hb hby at_461) ?_
                  show own_Fin _ _ _ _ _ _ _ (T504.setTop (mkF m 462 #[.val (.int p0), .val (.int p1), .val (.int p2), .val (.int (4 : Int32)), .val (.int xa), .val (.int xb), .val (.int xc), .val (.int xd), .val (.ref b401), .val (.ref b414), .val (.ref b457), .val (.int (2 : Int32)), .val (.ref r504)] [(.int xd)]))
                  refine own_go (fun _ kk => XS.iload X504.here hx rfl (hb hby at_462) rfl (XS.icmpYes X504.here hx rfl (pc0 := 464) (pc' := 469) rfl (hb hby at_464) rfl (XT.ii_eq_t rfl) (by decide) (by decide) (XS.aload X504.here hx rfl (hb hby at_469) rfl rfl kk))) ?_
                  show own_Fin _ _ _ _ _ _ _ (T504.setTop (mkF m 471 #[.val (.int p0), .val (.int p1), .val (.int p2), .val (.int (4 : Int32)), .val (.int xa), .val (.int xb), .val (.int xc), .val (.int xd), .val (.ref b401), .val (.ref b414), .val (.ref b457), .val (.int (2 : Int32)), .val (.ref r504)] [(.ref r504)]))
                  refine own_alen X504 hx hZ rfl F504 (hb hby at_471) ?_
                  show own_Fin _ _ _ _ _ _ _ (T504.setTop (mkF m 472 #[.val (.int p0), .val (.int p1), .val (.int p2), .val (.int (4 : Int32)), .val (.int xa), .val (.int xb), .val (.int xc), .val (.int xd), .val (.ref b401), .val (.ref b414), .val (.ref b457), .val (.int (2 : Int32)), .val (.ref r504)] [(.int (2 : Int32))]))
                  refine own_go (fun _ kk => XS.iload X504.here hx rfl (hb hby at_472) rfl (XS.icmpYes X504.here hx rfl (pc0 := 474) (pc' := 479) rfl (hb hby at_474) rfl (XT.ii_eq_t (by decide)) (by decide) (by decide) (XS.iload X504.here hx rfl (hb hby at_479) rfl (XS.ifNo X504.here hx rfl (hb hby at_481) rfl (XT.i0_le_f (by decide)) (XS.aload X504.here hx rfl (hb hby at_484) rfl rfl (XS.iconst X504.here hx rfl (hb hby at_486) kk)))))) ?_
                  show own_Fin _ _ _ _ _ _ _ (T504.setTop (mkF m 487 #[.val (.int p0), .val (.int p1), .val (.int p2), .val (.int (4 : Int32)), .val (.int xa), .val (.int xb), .val (.int xc), .val (.int xd), .val (.ref b401), .val (.ref b414), .val (.ref b457), .val (.int (2 : Int32)), .val (.ref r504)] [(.int (0 : Int32)), (.ref r504)]))
                  refine own_ldI X504 hx hZ rfl F504 (by decide) (by show (0 : Int32).toNatClampNeg < 2; decide) (hb hby at_487) ?_
                  show own_Fin _ _ _ _ _ _ _ (T504.setTop (mkF m 488 #[.val (.int p0), .val (.int p1), .val (.int p2), .val (.int (4 : Int32)), .val (.int xa), .val (.int xb), .val (.int xc), .val (.int xd), .val (.ref b401), .val (.ref b414), .val (.ref b457), .val (.int (2 : Int32)), .val (.ref r504)] [(.int xc)]))
                  refine own_go (fun _ kk => XS.aload X504.here hx rfl (hb hby at_488) rfl rfl (XS.iconst X504.here hx rfl (hb hby at_490) kk)) ?_
                  show own_Fin _ _ _ _ _ _ _ (T504.setTop (mkF m 491 #[.val (.int p0), .val (.int p1), .val (.int p2), .val (.int (4 : Int32)), .val (.int xa), .val (.int xb), .val (.int xc), .val (.int xd), .val (.ref b401), .val (.ref b414), .val (.ref b457), .val (.int (2 : Int32)), .val (.ref r504)] [(.int (0 : Int32)), (.ref b457), (.int xc)]))
                  refine own_ldI X504 hx hZ rfl f509 (by decide) (by show (0 : Int32).toNatClampNeg < 4; decide) (hb hby at_491) ?_
                  show own_Fin _ _ _ _ _ _ _ (T504.setTop (mkF m 492 #[.val (.int p0), .val (.int p1), .val (.int p2), .val (.int (4 : Int32)), .val (.int xa), .val (.int xb), .val (.int xc), .val (.int xd), .val (.ref b401), .val (.ref b414), .val (.ref b457), .val (.int (2 : Int32)), .val (.ref r504)] [(.int xc), (.int xc)]))
                  refine own_go (fun _ kk => XS.icmpYes X504.here hx rfl (pc0 := 492) (pc' := 497) rfl (hb hby at_492) rfl (XT.ii_eq_t rfl) (by decide) (by decide) (XS.iload X504.here hx rfl (hb hby at_497) rfl (XS.iconst X504.here hx rfl (hb hby at_499) (XS.icmpNo X504.here hx rfl (hb hby at_500) rfl (XT.ii_le_f (by decide)) (XS.aload X504.here hx rfl (hb hby at_503) rfl rfl (XS.iconst X504.here hx rfl (hb hby at_505) kk)))))) ?_
                  show own_Fin _ _ _ _ _ _ _ (T504.setTop (mkF m 506 #[.val (.int p0), .val (.int p1), .val (.int p2), .val (.int (4 : Int32)), .val (.int xa), .val (.int xb), .val (.int xc), .val (.int xd), .val (.ref b401), .val (.ref b414), .val (.ref b457), .val (.int (2 : Int32)), .val (.ref r504)] [(.int (1 : Int32)), (.ref r504)]))
                  refine own_ldI X504 hx hZ rfl F504 (by decide) (by show (1 : Int32).toNatClampNeg < 2; decide) (hb hby at_506) ?_
                  show own_Fin _ _ _ _ _ _ _ (T504.setTop (mkF m 507 #[.val (.int p0), .val (.int p1), .val (.int p2), .val (.int (4 : Int32)), .val (.int xa), .val (.int xb), .val (.int xc), .val (.int xd), .val (.ref b401), .val (.ref b414), .val (.ref b457), .val (.int (2 : Int32)), .val (.ref r504)] [(.int xd)]))
                  refine own_go (fun _ kk => XS.aload X504.here hx rfl (hb hby at_507) rfl rfl (XS.iconst X504.here hx rfl (hb hby at_509) kk)) ?_
                  show own_Fin _ _ _ _ _ _ _ (T504.setTop (mkF m 510 #[.val (.int p0), .val (.int p1), .val (.int p2), .val (.int (4 : Int32)), .val (.int xa), .val (.int xb), .val (.int xc), .val (.int xd), .val (.ref b401), .val (.ref b414), .val (.ref b457), .val (.int (2 : Int32)), .val (.ref r504)] [(.int (1 : Int32)), (.ref b457), (.int xd)]))
                  refine own_ldI X504 hx hZ rfl f509 (by decide) (by show (1 : Int32).toNatClampNeg < 4; decide) (hb hby at_510) ?_
                  show own_Fin _ _ _ _ _ _ _ (T504.setTop (mkF m 511 #[.val (.int p0), .val (.int p1), .val (.int p2), .val (.int (4 : Int32)), .val (.int xa), .val (.int xb), .val (.int xc), .val (.int xd), .val (.ref b401), .val (.ref b414), .val (.ref b457), .val (.int (2 : Int32)), .val (.ref r504)] [(.int xd), (.int xd)]))
                  refine own_go (fun _ kk => XS.icmpYes X504.here hx rfl (pc0 := 511) (pc' := 516) rfl (hb hby at_511) rfl (XT.ii_eq_t rfl) (by decide) (by decide) (XS.iload X504.here hx rfl (hb hby at_516) rfl (XS.iconst X504.here hx rfl (hb hby at_518) (XS.icmpYes X504.here hx rfl (pc0 := 519) (pc' := 535) rfl (hb hby at_519) rfl (XT.ii_le_t (by decide)) (by decide) (by decide) (XS.iload X504.here hx rfl (hb hby at_535) rfl (XS.iconst X504.here hx rfl (hb hby at_537) (XS.icmpYes X504.here hx rfl (pc0 := 538) (pc' := 554) rfl (hb hby at_538) rfl (XT.ii_le_t (by decide)) (by decide) (by decide) (XS.iconst X504.here hx rfl (hb hby at_554) kk)))))))) ?_
                  show own_Fin _ _ _ _ _ _ _ (T504.setTop (mkF m 555 #[.val (.int p0), .val (.int p1), .val (.int p2), .val (.int (4 : Int32)), .val (.int xa), .val (.int xb), .val (.int xc), .val (.int xd), .val (.ref b401), .val (.ref b414), .val (.ref b457), .val (.int (2 : Int32)), .val (.ref r504)] [(.int (1 : Int32))]))
                  exact own_retZ X504 hx hlk hret rfl (hb hby at_555) (by decide) (by decide) ⟨rfl, N504⟩
            · refine own_go (fun _ kk => XS.ifNo X457.here hx rfl (hb hby at_315) rfl (XT.i0_eq_f hc315) (XS.aload X457.here hx rfl (hb hby at_318) rfl rfl (XS.iload X457.here hx rfl (hb hby at_320) rfl (XS.iload X457.here hx rfl (hb hby at_322) rfl kk)))) ?_
              show own_Fin _ _ _ _ _ _ _ (T457.setTop (mkF m 324 #[.val (.int p0), .val (.int p1), .val (.int p2), .val (.int (4 : Int32)), .val (.int xa), .val (.int xb), .val (.int xc), .val (.int xd), .val (.ref b401), .val (.ref b414), .val (.ref b457), .val (.int (0 : Int32)), .unset] [(.int xb), (.int (0 : Int32)), (.ref b457)]))
              refine own_stI X457 hx hZ e457 A457 (by decide) (by show (0 : Int32).toNatClampNeg < 4; decide) (hb hby at_324) ?_
              intro T511 h511 X511 e511 W511 A511
              have f512 := f458.other W511 ne_b401_b457
              have f513 := f459.wr W511
              have f514 := f460.other W511 ne_b414_b457
              have f515 := f461.wr W511
              have f517 := D457.wr W511
              have Z511 := Nat.le_trans Z457 (Keep.of_wr W511).1
              have A511 : own_Ar Z h511 b457 .int (List.map Value.int [xb, (0 : Int32), (0 : Int32), (0 : Int32)]) := A511
              have N511 := Fr.snoc X511 N452 g_b457
              show own_Fin _ _ _ _ _ _ _ (T511.setTop (mkF m 325 #[.val (.int p0), .val (.int p1), .val (.int p2), .val (.int (4 : Int32)), .val (.int xa), .val (.int xb), .val (.int xc), .val (.int xd), .val (.ref b401), .val (.ref b414), .val (.ref b457), .val (.int (0 : Int32)), .unset] []))
              refine own_go (fun _ kk => XS.iinc X511.here hx rfl (hb hby at_325) rfl (l' := #[.val (.int p0), .val (.int p1), .val (.int p2), .val (.int (4 : Int32)), .val (.int xa), .val (.int xb), .val (.int xc), .val (.int xd), .val (.ref b401), .val (.ref b414), .val (.ref b457), .val (.int (1 : Int32)), .unset]) rfl (XS.iloadN X511.here hx rfl (hb hby at_328) rfl (XS.iconst X511.here hx rfl (hb hby at_329) (XS.icmpNo X511.here hx rfl (hb hby at_330) rfl (XT.ii_le_f (by decide)) (XS.aload X511.here hx rfl (hb hby at_333) rfl rfl (XS.iload X511.here hx rfl (hb hby at_335) rfl kk)))))) ?_
              show own_Fin _ _ _ _ _ _ _ (T511.setTop (mkF m 337 #[.val (.int p0), .val (.int p1), .val (.int p2), .val (.int (4 : Int32)), .val (.int xa), .val (.int xb), .val (.int xc), .val (.int xd), .val (.ref b401), .val (.ref b414), .val (.ref b457), .val (.int (1 : Int32)), .unset] [(.int xc), (.ref b414)]))
              refine own_ldZ X511 hx hZ e511 f514 sc.1 sc.2 (hb hby at_337) ?_
              show own_Fin _ _ _ _ _ _ _ (T511.setTop (mkF m 338 #[.val (.int p0), .val (.int p1), .val (.int p2), .val (.int (4 : Int32)), .val (.int xa), .val (.int xb), .val (.int xc), .val (.int xd), .val (.ref b401), .val (.ref b414), .val (.ref b457), .val (.int (1 : Int32)), .unset] [(.int (List.getD bs (xc).toNatClampNeg 0))]))
              by_cases hc338 : (List.getD bs (xc).toNatClampNeg 0) = 0
              · refine own_go (fun _ kk => XS.ifYes X511.here hx rfl (pc0 := 338) (pc' := 351) rfl (hb hby at_338) rfl (XT.i0_eq_t hc338) (by decide) (by decide) (XS.iloadN X511.here hx rfl (hb hby at_351) rfl (XS.iconst X511.here hx rfl (hb hby at_352) (XS.icmpNo X511.here hx rfl (hb hby at_353) rfl (XT.ii_le_f (by decide)) (XS.aload X511.here hx rfl (hb hby at_356) rfl rfl (XS.iload X511.here hx rfl (hb hby at_358) rfl kk)))))) ?_
                show own_Fin _ _ _ _ _ _ _ (T511.setTop (mkF m 360 #[.val (.int p0), .val (.int p1), .val (.int p2), .val (.int (4 : Int32)), .val (.int xa), .val (.int xb), .val (.int xc), .val (.int xd), .val (.ref b401), .val (.ref b414), .val (.ref b457), .val (.int (1 : Int32)), .unset] [(.int xd), (.ref b414)]))
                refine own_ldZ X511 hx hZ e511 f514 sd.1 sd.2 (hb hby at_360) ?_
                show own_Fin _ _ _ _ _ _ _ (T511.setTop (mkF m 361 #[.val (.int p0), .val (.int p1), .val (.int p2), .val (.int (4 : Int32)), .val (.int xa), .val (.int xb), .val (.int xc), .val (.int xd), .val (.ref b401), .val (.ref b414), .val (.ref b457), .val (.int (1 : Int32)), .unset] [(.int (List.getD bs (xd).toNatClampNeg 0))]))
                by_cases hc361 : (List.getD bs (xd).toNatClampNeg 0) = 0
                · refine own_go (fun _ kk => XS.ifYes X511.here hx rfl (pc0 := 361) (pc' := 374) rfl (hb hby at_361) rfl (XT.i0_eq_t hc361) (by decide) (by decide) (XS.aload X511.here hx rfl (hb hby at_374) rfl rfl (XS.aload X511.here hx rfl (hb hby at_376) rfl rfl kk))) ?_
                  show own_Fin _ _ _ _ _ _ _ (T511.setTop (mkF m 378 #[.val (.int p0), .val (.int p1), .val (.int p2), .val (.int (4 : Int32)), .val (.int xa), .val (.int xb), .val (.int xc), .val (.int xd), .val (.ref b401), .val (.ref b414), .val (.ref b457), .val (.int (1 : Int32)), .unset] [(.ref b414), (.ref b401)]))
                  refine own_callS X511 hx hZ hown (hw _ (List.mem_of_getElem? (i := 7) rfl)) (hw _ (List.mem_of_getElem? (i := 8) rfl)) (hw _ (List.mem_of_getElem? (i := 9) rfl)) (hw _ (List.mem_of_getElem? (i := 10) rfl)) (by decide) (rm2 l Z a0 hw b401 b414 h511 n0 Z511 [xa, xb, xc, xd] bs f512 f514 (by show 4 ≤ 4; decide) (List.forall_mem_cons.mpr ⟨sa, (List.forall_mem_cons.mpr ⟨sb, (List.forall_mem_cons.mpr ⟨sc, (List.forall_mem_cons.mpr ⟨sd, (fun x h => nomatch h)⟩)⟩)⟩)⟩)) e511 (argsL := [(.ref b401), (.ref b414)]) (rest := []) rfl rfl (by rw [hml]; rfl) (lenOf pd_0_1 rfl) (hb hby at_378) (W := 0) (Nat.le_of_eq rfl) (by decide) (by decide) (by decide) (by decide) ?_
                  rintro v518 T518 L518 X518 ⟨r518, rfl, M518, Kc518, sz518, A518⟩
                  have N518 := Fr.app N511 M518
                  have ne518 : r518 ≠ b401 := Nat.ne_of_gt (Nat.lt_of_lt_of_le f512.lt sz518)
                  have f519 := f512.keep Kc518 nin0
                  have f520 := f513.keep Kc518
                  have f521 := f514.keep Kc518 nin0
                  have f522 := f515.keep Kc518
                  have f523 := A511.keep Kc518 nin0
                  have f524 := f517.keep Kc518
                  have Z518 := Nat.le_trans Z511 Kc518.1
                  have F518 : own_Ar Z T518.heap r518 .int (List.map Value.int [xb]) := by
                    rw [List.filter_cons_of_neg (by rw [show own_mk bs xa = false from decide_eq_false (fun q => q hc292)]; decide), List.filter_cons_of_pos (show own_mk bs xb = true from decide_eq_true hc315), List.filter_cons_of_neg (by rw [show own_mk bs xc = false from decide_eq_false (fun q => q hc338)]; decide), List.filter_cons_of_neg (by rw [show own_mk bs xd = false from decide_eq_false (fun q => q hc361)]; decide), List.filter_nil] at A518
                    exact A518
                  show own_Fin _ _ _ _ _ _ _ (T518.setTop (mkF m 381 #[.val (.int p0), .val (.int p1), .val (.int p2), .val (.int (4 : Int32)), .val (.int xa), .val (.int xb), .val (.int xc), .val (.int xd), .val (.ref b401), .val (.ref b414), .val (.ref b457), .val (.int (1 : Int32)), .unset] [(.ref r518)]))
                  refine own_go (fun _ kk => XS.astore X518.here hx rfl (hb hby at_381) rfl rfl (l' := #[.val (.int p0), .val (.int p1), .val (.int p2), .val (.int (4 : Int32)), .val (.int xa), .val (.int xb), .val (.int xc), .val (.int xd), .val (.ref b401), .val (.ref b414), .val (.ref b457), .val (.int (1 : Int32)), .val (.ref r518)]) rfl (XS.aload X518.here hx rfl (hb hby at_383) rfl rfl (XS.ifnullNo X518.here hx rfl (hb hby at_385) rfl (XS.aload X518.here hx rfl (hb hby at_388) rfl rfl (XS.aload X518.here hx rfl (hb hby at_390) rfl rfl (XT.acmpYes X518.here hx rfl (pc0 := 392) (pc' := 397) rfl (hb hby at_392) rfl rfl rfl (XT.aa_ne_t (fun q => ne518 (Value.ref.inj q))) (by decide) (by decide) (XS.aload X518.here hx rfl (hb hby at_397) rfl rfl kk))))))) ?_
                  show own_Fin _ _ _ _ _ _ _ (T518.setTop (mkF m 399 #[.val (.int p0), .val (.int p1), .val (.int p2), .val (.int (4 : Int32)), .val (.int xa), .val (.int xb), .val (.int xc), .val (.int xd), .val (.ref b401), .val (.ref b414), .val (.ref b457), .val (.int (1 : Int32)), .val (.ref r518)] [(.ref b401)]))
                  refine own_alen X518 hx hZ rfl f519 (hb hby at_399) ?_
                  show own_Fin _ _ _ _ _ _ _ (T518.setTop (mkF m 400 #[.val (.int p0), .val (.int p1), .val (.int p2), .val (.int (4 : Int32)), .val (.int xa), .val (.int xb), .val (.int xc), .val (.int xd), .val (.ref b401), .val (.ref b414), .val (.ref b457), .val (.int (1 : Int32)), .val (.ref r518)] [(.int (4 : Int32))]))
                  refine own_go (fun _ kk => XS.iloadN X518.here hx rfl (hb hby at_400) rfl (XS.icmpYes X518.here hx rfl (pc0 := 401) (pc' := 406) rfl (hb hby at_401) rfl (XT.ii_eq_t (by decide)) (by decide) (by decide) (XS.iloadN X518.here hx rfl (hb hby at_406) rfl (XS.ifNo X518.here hx rfl (hb hby at_407) rfl (XT.i0_le_f (by decide)) (XS.aload X518.here hx rfl (hb hby at_410) rfl rfl (XS.iconst X518.here hx rfl (hb hby at_412) kk)))))) ?_
                  show own_Fin _ _ _ _ _ _ _ (T518.setTop (mkF m 413 #[.val (.int p0), .val (.int p1), .val (.int p2), .val (.int (4 : Int32)), .val (.int xa), .val (.int xb), .val (.int xc), .val (.int xd), .val (.ref b401), .val (.ref b414), .val (.ref b457), .val (.int (1 : Int32)), .val (.ref r518)] [(.int (0 : Int32)), (.ref b401)]))
                  refine own_ldI X518 hx hZ rfl f519 (by decide) (by show (0 : Int32).toNatClampNeg < 4; decide) (hb hby at_413) ?_
                  show own_Fin _ _ _ _ _ _ _ (T518.setTop (mkF m 414 #[.val (.int p0), .val (.int p1), .val (.int p2), .val (.int (4 : Int32)), .val (.int xa), .val (.int xb), .val (.int xc), .val (.int xd), .val (.ref b401), .val (.ref b414), .val (.ref b457), .val (.int (1 : Int32)), .val (.ref r518)] [(.int xa)]))
                  refine own_go (fun _ kk => XS.iload X518.here hx rfl (hb hby at_414) rfl (XS.icmpYes X518.here hx rfl (pc0 := 416) (pc' := 421) rfl (hb hby at_416) rfl (XT.ii_eq_t rfl) (by decide) (by decide) (XS.iloadN X518.here hx rfl (hb hby at_421) rfl (XS.iconst X518.here hx rfl (hb hby at_422) (XS.icmpNo X518.here hx rfl (hb hby at_423) rfl (XT.ii_le_f (by decide)) (XS.aload X518.here hx rfl (hb hby at_426) rfl rfl (XS.iconst X518.here hx rfl (hb hby at_428) kk))))))) ?_
                  show own_Fin _ _ _ _ _ _ _ (T518.setTop (mkF m 429 #[.val (.int p0), .val (.int p1), .val (.int p2), .val (.int (4 : Int32)), .val (.int xa), .val (.int xb), .val (.int xc), .val (.int xd), .val (.ref b401), .val (.ref b414), .val (.ref b457), .val (.int (1 : Int32)), .val (.ref r518)] [(.int (1 : Int32)), (.ref b401)]))
                  refine own_ldI X518 hx hZ rfl f519 (by decide) (by show (1 : Int32).toNatClampNeg < 4; decide) (hb hby at_429) ?_
                  show own_Fin _ _ _ _ _ _ _ (T518.setTop (mkF m 430 #[.val (.int p0), .val (.int p1), .val (.int p2), .val (.int (4 : Int32)), .val (.int xa), .val (.int xb), .val (.int xc), .val (.int xd), .val (.ref b401), .val (.ref b414), .val (.ref b457), .val (.int (1 : Int32)), .val (.ref r518)] [(.int xb)]))
                  refine own_go (fun _ kk => XS.iload X518.here hx rfl (hb hby at_430) rfl (XS.icmpYes X518.here hx rfl (pc0 := 432) (pc' := 437) rfl (hb hby at_432) rfl (XT.ii_eq_t rfl) (by decide) (by decide) (XS.iloadN X518.here hx rfl (hb hby at_437) rfl (XS.iconst X518.here hx rfl (hb hby at_438) (XS.icmpNo X518.here hx rfl (hb hby at_439) rfl (XT.ii_le_f (by decide)) (XS.aload X518.here hx rfl (hb hby at_442) rfl rfl (XS.iconst X518.here hx rfl (hb hby at_444) kk))))))) ?_
                  show own_Fin _ _ _ _ _ _ _ (T518.setTop (mkF m 445 #[.val (.int p0), .val (.int p1), .val (.int p2), .val (.int (4 : Int32)), .val (.int xa), .val (.int xb), .val (.int xc), .val (.int xd), .val (.ref b401), .val (.ref b414), .val (.ref b457), .val (.int (1 : Int32)), .val (.ref r518)] [(.int (2 : Int32)), (.ref b401)]))
                  refine own_ldI X518 hx hZ rfl f519 (by decide) (by show (2 : Int32).toNatClampNeg < 4; decide) (hb hby at_445) ?_
                  show own_Fin _ _ _ _ _ _ _ (T518.setTop (mkF m 446 #[.val (.int p0), .val (.int p1), .val (.int p2), .val (.int (4 : Int32)), .val (.int xa), .val (.int xb), .val (.int xc), .val (.int xd), .val (.ref b401), .val (.ref b414), .val (.ref b457), .val (.int (1 : Int32)), .val (.ref r518)] [(.int xc)]))
                  refine own_go (fun _ kk => XS.iload X518.here hx rfl (hb hby at_446) rfl (XS.icmpYes X518.here hx rfl (pc0 := 448) (pc' := 453) rfl (hb hby at_448) rfl (XT.ii_eq_t rfl) (by decide) (by decide) (XS.iloadN X518.here hx rfl (hb hby at_453) rfl (XS.iconst X518.here hx rfl (hb hby at_454) (XS.icmpNo X518.here hx rfl (hb hby at_455) rfl (XT.ii_le_f (by decide)) (XS.aload X518.here hx rfl (hb hby at_458) rfl rfl (XS.iconst X518.here hx rfl (hb hby at_460) kk))))))) ?_
                  show own_Fin _ _ _ _ _ _ _ (T518.setTop (mkF m 461 #[.val (.int p0), .val (.int p1), .val (.int p2), .val (.int (4 : Int32)), .val (.int xa), .val (.int xb), .val (.int xc), .val (.int xd), .val (.ref b401), .val (.ref b414), .val (.ref b457), .val (.int (1 : Int32)), .val (.ref r518)] [(.int (3 : Int32)), (.ref b401)]))
                  refine own_ldI X518 hx hZ rfl f519 (by decide) (by show (3 : Int32).toNatClampNeg < 4; decide) (hb hby at_461) ?_
                  show own_Fin _ _ _ _ _ _ _ (T518.setTop (mkF m 462 #[.val (.int p0), .val (.int p1), .val (.int p2), .val (.int (4 : Int32)), .val (.int xa), .val (.int xb), .val (.int xc), .val (.int xd), .val (.ref b401), .val (.ref b414), .val (.ref b457), .val (.int (1 : Int32)), .val (.ref r518)] [(.int xd)]))
                  refine own_go (fun _ kk => XS.iload X518.here hx rfl (hb hby at_462) rfl (XS.icmpYes X518.here hx rfl (pc0 := 464) (pc' := 469) rfl (hb hby at_464) rfl (XT.ii_eq_t rfl) (by decide) (by decide) (XS.aload X518.here hx rfl (hb hby at_469) rfl rfl kk))) ?_
                  show own_Fin _ _ _ _ _ _ _ (T518.setTop (mkF m 471 #[.val (.int p0), .val (.int p1), .val (.int p2), .val (.int (4 : Int32)), .val (.int xa), .val (.int xb), .val (.int xc), .val (.int xd), .val (.ref b401), .val (.ref b414), .val (.ref b457), .val (.int (1 : Int32)), .val (.ref r518)] [(.ref r518)]))
                  refine own_alen X518 hx hZ rfl F518 (hb hby at_471) ?_
                  show own_Fin _ _ _ _ _ _ _ (T518.setTop (mkF m 472 #[.val (.int p0), .val (.int p1), .val (.int p2), .val (.int (4 : Int32)), .val (.int xa), .val (.int xb), .val (.int xc), .val (.int xd), .val (.ref b401), .val (.ref b414), .val (.ref b457), .val (.int (1 : Int32)), .val (.ref r518)] [(.int (1 : Int32))]))
                  refine own_go (fun _ kk => XS.iload X518.here hx rfl (hb hby at_472) rfl (XS.icmpYes X518.here hx rfl (pc0 := 474) (pc' := 479) rfl (hb hby at_474) rfl (XT.ii_eq_t (by decide)) (by decide) (by decide) (XS.iload X518.here hx rfl (hb hby at_479) rfl (XS.ifNo X518.here hx rfl (hb hby at_481) rfl (XT.i0_le_f (by decide)) (XS.aload X518.here hx rfl (hb hby at_484) rfl rfl (XS.iconst X518.here hx rfl (hb hby at_486) kk)))))) ?_
                  show own_Fin _ _ _ _ _ _ _ (T518.setTop (mkF m 487 #[.val (.int p0), .val (.int p1), .val (.int p2), .val (.int (4 : Int32)), .val (.int xa), .val (.int xb), .val (.int xc), .val (.int xd), .val (.ref b401), .val (.ref b414), .val (.ref b457), .val (.int (1 : Int32)), .val (.ref r518)] [(.int (0 : Int32)), (.ref r518)]))
                  refine own_ldI X518 hx hZ rfl F518 (by decide) (by show (0 : Int32).toNatClampNeg < 1; decide) (hb hby at_487) ?_
                  show own_Fin _ _ _ _ _ _ _ (T518.setTop (mkF m 488 #[.val (.int p0), .val (.int p1), .val (.int p2), .val (.int (4 : Int32)), .val (.int xa), .val (.int xb), .val (.int xc), .val (.int xd), .val (.ref b401), .val (.ref b414), .val (.ref b457), .val (.int (1 : Int32)), .val (.ref r518)] [(.int xb)]))
                  refine own_go (fun _ kk => XS.aload X518.here hx rfl (hb hby at_488) rfl rfl (XS.iconst X518.here hx rfl (hb hby at_490) kk)) ?_
                  show own_Fin _ _ _ _ _ _ _ (T518.setTop (mkF m 491 #[.val (.int p0), .val (.int p1), .val (.int p2), .val (.int (4 : Int32)), .val (.int xa), .val (.int xb), .val (.int xc), .val (.int xd), .val (.ref b401), .val (.ref b414), .val (.ref b457), .val (.int (1 : Int32)), .val (.ref r518)] [(.int (0 : Int32)), (.ref b457), (.int xb)]))
                  refine own_ldI X518 hx hZ rfl f523 (by decide) (by show (0 : Int32).toNatClampNeg < 4; decide) (hb hby at_491) ?_
                  show own_Fin _ _ _ _ _ _ _ (T518.setTop (mkF m 492 #[.val (.int p0), .val (.int p1), .val (.int p2), .val (.int (4 : Int32)), .val (.int xa), .val (.int xb), .val (.int xc), .val (.int xd), .val (.ref b401), .val (.ref b414), .val (.ref b457), .val (.int (1 : Int32)), .val (.ref r518)] [(.int xb), (.int xb)]))
                  refine own_go (fun _ kk => XS.icmpYes X518.here hx rfl (pc0 := 492) (pc' := 497) rfl (hb hby at_492) rfl (XT.ii_eq_t rfl) (by decide) (by decide) (XS.iload X518.here hx rfl (hb hby at_497) rfl (XS.iconst X518.here hx rfl (hb hby at_499) (XS.icmpYes X518.here hx rfl (pc0 := 500) (pc' := 516) rfl (hb hby at_500) rfl (XT.ii_le_t (by decide)) (by decide) (by decide) (XS.iload X518.here hx rfl (hb hby at_516) rfl (XS.iconst X518.here hx rfl (hb hby at_518) (XS.icmpYes X518.here hx rfl (pc0 := 519) (pc' := 535) rfl (hb hby at_519) rfl (XT.ii_le_t (by decide)) (by decide) (by decide) (XS.iload X518.here hx rfl (hb hby at_535) rfl (XS.iconst X518.here hx rfl (hb hby at_537) (XS.icmpYes X518.here hx rfl (pc0 := 538) (pc' := 554) rfl (hb hby at_538) rfl (XT.ii_le_t (by decide)) (by decide) (by decide) kk)))))))))) ?_
                  show own_Fin _ _ _ _ _ _ _ (T518.setTop (mkF m 554 #[.val (.int p0), .val (.int p1), .val (.int p2), .val (.int (4 : Int32)), .val (.int xa), .val (.int xb), .val (.int xc), .val (.int xd), .val (.ref b401), .val (.ref b414), .val (.ref b457), .val (.int (1 : Int32)), .val (.ref r518)] []))
                  refine own_go (fun _ kk => XS.iconst X518.here hx rfl (hb hby at_554) kk) ?_
                  show own_Fin _ _ _ _ _ _ _ (T518.setTop (mkF m 555 #[.val (.int p0), .val (.int p1), .val (.int p2), .val (.int (4 : Int32)), .val (.int xa), .val (.int xb), .val (.int xc), .val (.int xd), .val (.ref b401), .val (.ref b414), .val (.ref b457), .val (.int (1 : Int32)), .val (.ref r518)] [(.int (1 : Int32))]))
                  exact own_retZ X518 hx hlk hret rfl (hb hby at_555) (by decide) (by decide) ⟨rfl, N518⟩
                · refine own_go (fun _ kk => XS.ifNo X511.here hx rfl (hb hby at_361) rfl (XT.i0_eq_f hc361) (XS.aload X511.here hx rfl (hb hby at_364) rfl rfl (XS.iload X511.here hx rfl (hb hby at_366) rfl (XS.iload X511.here hx rfl (hb hby at_368) rfl kk)))) ?_
                  show own_Fin _ _ _ _ _ _ _ (T511.setTop (mkF m 370 #[.val (.int p0), .val (.int p1), .val (.int p2), .val (.int (4 : Int32)), .val (.int xa), .val (.int xb), .val (.int xc), .val (.int xd), .val (.ref b401), .val (.ref b414), .val (.ref b457), .val (.int (1 : Int32)), .unset] [(.int xd), (.int (1 : Int32)), (.ref b457)]))
                  refine own_stI X511 hx hZ e511 A511 (by decide) (by show (1 : Int32).toNatClampNeg < 4; decide) (hb hby at_370) ?_
                  intro T525 h525 X525 e525 W525 A525
                  have f526 := f512.other W525 ne_b401_b457
                  have f527 := f513.wr W525
                  have f528 := f514.other W525 ne_b414_b457
                  have f529 := f515.wr W525
                  have f531 := f517.wr W525
                  have Z525 := Nat.le_trans Z511 (Keep.of_wr W525).1
                  have A525 : own_Ar Z h525 b457 .int (List.map Value.int [xb, xd, (0 : Int32), (0 : Int32)]) := A525
                  have N525 := Fr.snoc X525 N511 g_b457
                  show own_Fin _ _ _ _ _ _ _ (T525.setTop (mkF m 371 #[.val (.int p0), .val (.int p1), .val (.int p2), .val (.int (4 : Int32)), .val (.int xa), .val (.int xb), .val (.int xc), .val (.int xd), .val (.ref b401), .val (.ref b414), .val (.ref b457), .val (.int (1 : Int32)), .unset] []))
                  refine own_go (fun _ kk => XS.iinc X525.here hx rfl (hb hby at_371) rfl (l' := #[.val (.int p0), .val (.int p1), .val (.int p2), .val (.int (4 : Int32)), .val (.int xa), .val (.int xb), .val (.int xc), .val (.int xd), .val (.ref b401), .val (.ref b414), .val (.ref b457), .val (.int (2 : Int32)), .unset]) rfl (XS.aload X525.here hx rfl (hb hby at_374) rfl rfl (XS.aload X525.here hx rfl (hb hby at_376) rfl rfl kk))) ?_
                  show own_Fin _ _ _ _ _ _ _ (T525.setTop (mkF m 378 #[.val (.int p0), .val (.int p1), .val (.int p2), .val (.int (4 : Int32)), .val (.int xa), .val (.int xb), .val (.int xc), .val (.int xd), .val (.ref b401), .val (.ref b414), .val (.ref b457), .val (.int (2 : Int32)), .unset] [(.ref b414), (.ref b401)]))
                  refine own_callS X525 hx hZ hown (hw _ (List.mem_of_getElem? (i := 7) rfl)) (hw _ (List.mem_of_getElem? (i := 8) rfl)) (hw _ (List.mem_of_getElem? (i := 9) rfl)) (hw _ (List.mem_of_getElem? (i := 10) rfl)) (by decide) (rm2 l Z a0 hw b401 b414 h525 n0 Z525 [xa, xb, xc, xd] bs f526 f528 (by show 4 ≤ 4; decide) (List.forall_mem_cons.mpr ⟨sa, (List.forall_mem_cons.mpr ⟨sb, (List.forall_mem_cons.mpr ⟨sc, (List.forall_mem_cons.mpr ⟨sd, (fun x h => nomatch h)⟩)⟩)⟩)⟩)) e525 (argsL := [(.ref b401), (.ref b414)]) (rest := []) rfl rfl (by rw [hml]; rfl) (lenOf pd_0_1 rfl) (hb hby at_378) (W := 0) (Nat.le_of_eq rfl) (by decide) (by decide) (by decide) (by decide) ?_
                  rintro v532 T532 L532 X532 ⟨r532, rfl, M532, Kc532, sz532, A532⟩
                  have N532 := Fr.app N525 M532
                  have ne532 : r532 ≠ b401 := Nat.ne_of_gt (Nat.lt_of_lt_of_le f526.lt sz532)
                  have f533 := f526.keep Kc532 nin0
                  have f534 := f527.keep Kc532
                  have f535 := f528.keep Kc532 nin0
                  have f536 := f529.keep Kc532
                  have f537 := A525.keep Kc532 nin0
                  have f538 := f531.keep Kc532
                  have Z532 := Nat.le_trans Z525 Kc532.1
                  have F532 : own_Ar Z T532.heap r532 .int (List.map Value.int [xb, xd]) := by
                    rw [List.filter_cons_of_neg (by rw [show own_mk bs xa = false from decide_eq_false (fun q => q hc292)]; decide), List.filter_cons_of_pos (show own_mk bs xb = true from decide_eq_true hc315), List.filter_cons_of_neg (by rw [show own_mk bs xc = false from decide_eq_false (fun q => q hc338)]; decide), List.filter_cons_of_pos (show own_mk bs xd = true from decide_eq_true hc361), List.filter_nil] at A532
                    exact A532
                  show own_Fin _ _ _ _ _ _ _ (T532.setTop (mkF m 381 #[.val (.int p0), .val (.int p1), .val (.int p2), .val (.int (4 : Int32)), .val (.int xa), .val (.int xb), .val (.int xc), .val (.int xd), .val (.ref b401), .val (.ref b414), .val (.ref b457), .val (.int (2 : Int32)), .unset] [(.ref r532)]))
                  refine own_go (fun _ kk => XS.astore X532.here hx rfl (hb hby at_381) rfl rfl (l' := #[.val (.int p0), .val (.int p1), .val (.int p2), .val (.int (4 : Int32)), .val (.int xa), .val (.int xb), .val (.int xc), .val (.int xd), .val (.ref b401), .val (.ref b414), .val (.ref b457), .val (.int (2 : Int32)), .val (.ref r532)]) rfl (XS.aload X532.here hx rfl (hb hby at_383) rfl rfl (XS.ifnullNo X532.here hx rfl (hb hby at_385) rfl (XS.aload X532.here hx rfl (hb hby at_388) rfl rfl (XS.aload X532.here hx rfl (hb hby at_390) rfl rfl (XT.acmpYes X532.here hx rfl (pc0 := 392) (pc' := 397) rfl (hb hby at_392) rfl rfl rfl (XT.aa_ne_t (fun q => ne532 (Value.ref.inj q))) (by decide) (by decide) (XS.aload X532.here hx rfl (hb hby at_397) rfl rfl kk))))))) ?_
                  show own_Fin _ _ _ _ _ _ _ (T532.setTop (mkF m 399 #[.val (.int p0), .val (.int p1), .val (.int p2), .val (.int (4 : Int32)), .val (.int xa), .val (.int xb), .val (.int xc), .val (.int xd), .val (.ref b401), .val (.ref b414), .val (.ref b457), .val (.int (2 : Int32)), .val (.ref r532)] [(.ref b401)]))
                  refine own_alen X532 hx hZ rfl f533 (hb hby at_399) ?_
                  show own_Fin _ _ _ _ _ _ _ (T532.setTop (mkF m 400 #[.val (.int p0), .val (.int p1), .val (.int p2), .val (.int (4 : Int32)), .val (.int xa), .val (.int xb), .val (.int xc), .val (.int xd), .val (.ref b401), .val (.ref b414), .val (.ref b457), .val (.int (2 : Int32)), .val (.ref r532)] [(.int (4 : Int32))]))
                  refine own_go (fun _ kk => XS.iloadN X532.here hx rfl (hb hby at_400) rfl (XS.icmpYes X532.here hx rfl (pc0 := 401) (pc' := 406) rfl (hb hby at_401) rfl (XT.ii_eq_t (by decide)) (by decide) (by decide) (XS.iloadN X532.here hx rfl (hb hby at_406) rfl (XS.ifNo X532.here hx rfl (hb hby at_407) rfl (XT.i0_le_f (by decide)) (XS.aload X532.here hx rfl (hb hby at_410) rfl rfl (XS.iconst X532.here hx rfl (hb hby at_412) kk)))))) ?_
                  show own_Fin _ _ _ _ _ _ _ (T532.setTop (mkF m 413 #[.val (.int p0), .val (.int p1), .val (.int p2), .val (.int (4 : Int32)), .val (.int xa), .val (.int xb), .val (.int xc), .val (.int xd), .val (.ref b401), .val (.ref b414), .val (.ref b457), .val (.int (2 : Int32)), .val (.ref r532)] [(.int (0 : Int32)), (.ref b401)]))
                  refine own_ldI X532 hx hZ rfl f533 (by decide) (by show (0 : Int32).toNatClampNeg < 4; decide) (hb hby at_413) ?_
                  show own_Fin _ _ _ _ _ _ _ (T532.setTop (mkF m 414 #[.val (.int p0), .val (.int p1), .val (.int p2), .val (.int (4 : Int32)), .val (.int xa), .val (.int xb), .val (.int xc), .val (.int xd), .val (.ref b401), .val (.ref b414), .val (.ref b457), .val (.int (2 : Int32)), .val (.ref r532)] [(.int xa)]))
                  refine own_go (fun _ kk => XS.iload X532.here hx rfl (hb hby at_414) rfl (XS.icmpYes X532.here hx rfl (pc0 := 416) (pc' := 421) rfl (hb hby at_416) rfl (XT.ii_eq_t rfl) (by decide) (by decide) (XS.iloadN X532.here hx rfl (hb hby at_421) rfl (XS.iconst X532.here hx rfl (hb hby at_422) (XS.icmpNo X532.here hx rfl (hb hby at_423) rfl (XT.ii_le_f (by decide)) (XS.aload X532.here hx rfl (hb hby at_426) rfl rfl (XS.iconst X532.here hx rfl (hb hby at_428) kk))))))) ?_
                  show own_Fin _ _ _ _ _ _ _ (T532.setTop (mkF m 429 #[.val (.int p0), .val (.int p1), .val (.int p2), .val (.int (4 : Int32)), .val (.int xa), .val (.int xb), .val (.int xc), .val (.int xd), .val (.ref b401), .val (.ref b414), .val (.ref b457), .val (.int (2 : Int32)), .val (.ref r532)] [(.int (1 : Int32)), (.ref b401)]))
                  refine own_ldI X532 hx hZ rfl f533 (by decide) (by show (1 : Int32).toNatClampNeg < 4; decide) (hb hby at_429) ?_
                  show own_Fin _ _ _ _ _ _ _ (T532.setTop (mkF m 430 #[.val (.int p0), .val (.int p1), .val (.int p2), .val (.int (4 : Int32)), .val (.int xa), .val (.int xb), .val (.int xc), .val (.int xd), .val (.ref b401), .val (.ref b414), .val (.ref b457), .val (.int (2 : Int32)), .val (.ref r532)] [(.int xb)]))
                  refine own_go (fun _ kk => XS.iload X532.here hx rfl (hb hby at_430) rfl (XS.icmpYes X532.here hx rfl (pc0 := 432) (pc' := 437) rfl (hb hby at_432) rfl (XT.ii_eq_t rfl) (by decide) (by decide) (XS.iloadN X532.here hx rfl (hb hby at_437) rfl (XS.iconst X532.here hx rfl (hb hby at_438) (XS.icmpNo X532.here hx rfl (hb hby at_439) rfl (XT.ii_le_f (by decide)) (XS.aload X532.here hx rfl (hb hby at_442) rfl rfl (XS.iconst X532.here hx rfl (hb hby at_444) kk))))))) ?_
                  show own_Fin _ _ _ _ _ _ _ (T532.setTop (mkF m 445 #[.val (.int p0), .val (.int p1), .val (.int p2), .val (.int (4 : Int32)), .val (.int xa), .val (.int xb), .val (.int xc), .val (.int xd), .val (.ref b401), .val (.ref b414), .val (.ref b457), .val (.int (2 : Int32)), .val (.ref r532)] [(.int (2 : Int32)), (.ref b401)]))
                  refine own_ldI X532 hx hZ rfl f533 (by decide) (by show (2 : Int32).toNatClampNeg < 4; decide) (hb hby at_445) ?_
                  show own_Fin _ _ _ _ _ _ _ (T532.setTop (mkF m 446 #[.val (.int p0), .val (.int p1), .val (.int p2), .val (.int (4 : Int32)), .val (.int xa), .val (.int xb), .val (.int xc), .val (.int xd), .val (.ref b401), .val (.ref b414), .val (.ref b457), .val (.int (2 : Int32)), .val (.ref r532)] [(.int xc)]))
                  refine own_go (fun _ kk => XS.iload X532.here hx rfl (hb hby at_446) rfl (XS.icmpYes X532.here hx rfl (pc0 := 448) (pc' := 453) rfl (hb hby at_448) rfl (XT.ii_eq_t rfl) (by decide) (by decide) (XS.iloadN X532.here hx rfl (hb hby at_453) rfl (XS.iconst X532.here hx rfl (hb hby at_454) (XS.icmpNo X532.here hx rfl (hb hby at_455) rfl (XT.ii_le_f (by decide)) (XS.aload X532.here hx rfl (hb hby at_458) rfl rfl (XS.iconst X532.here hx rfl (hb hby at_460) kk))))))) ?_
                  show own_Fin _ _ _ _ _ _ _ (T532.setTop (mkF m 461 #[.val (.int p0), .val (.int p1), .val (.int p2), .val (.int (4 : Int32)), .val (.int xa), .val (.int xb), .val (.int xc), .val (.int xd), .val (.ref b401), .val (.ref b414), .val (.ref b457), .val (.int (2 : Int32)), .val (.ref r532)] [(.int (3 : Int32)), (.ref b401)]))
                  refine own_ldI X532 hx hZ rfl f533 (by decide) (by show (3 : Int32).toNatClampNeg < 4; decide) (hb hby at_461) ?_
                  show own_Fin _ _ _ _ _ _ _ (T532.setTop (mkF m 462 #[.val (.int p0), .val (.int p1), .val (.int p2), .val (.int (4 : Int32)), .val (.int xa), .val (.int xb), .val (.int xc), .val (.int xd), .val (.ref b401), .val (.ref b414), .val (.ref b457), .val (.int (2 : Int32)), .val (.ref r532)] [(.int xd)]))
                  refine own_go (fun _ kk => XS.iload X532.here hx rfl (hb hby at_462) rfl (XS.icmpYes X532.here hx rfl (pc0 := 464) (pc' := 469) rfl (hb hby at_464) rfl (XT.ii_eq_t rfl) (by decide) (by decide) (XS.aload X532.here hx rfl (hb hby at_469) rfl rfl kk))) ?_
                  show own_Fin _ _ _ _ _ _ _ (T532.setTop (mkF m 471 #[.val (.int p0), .val (.int p1), .val (.int p2), .val (.int (4 : Int32)), .val (.int xa), .val (.int xb), .val (.int xc), .val (.int xd), .val (.ref b401), .val (.ref b414), .val (.ref b457), .val (.int (2 : Int32)), .val (.ref r532)] [(.ref r532)]))
                  refine own_alen X532 hx hZ rfl F532 (hb hby at_471) ?_
                  show own_Fin _ _ _ _ _ _ _ (T532.setTop (mkF m 472 #[.val (.int p0), .val (.int p1), .val (.int p2), .val (.int (4 : Int32)), .val (.int xa), .val (.int xb), .val (.int xc), .val (.int xd), .val (.ref b401), .val (.ref b414), .val (.ref b457), .val (.int (2 : Int32)), .val (.ref r532)] [(.int (2 : Int32))]))
                  refine own_go (fun _ kk => XS.iload X532.here hx rfl (hb hby at_472) rfl (XS.icmpYes X532.here hx rfl (pc0 := 474) (pc' := 479) rfl (hb hby at_474) rfl (XT.ii_eq_t (by decide)) (by decide) (by decide) (XS.iload X532.here hx rfl (hb hby at_479) rfl (XS.ifNo X532.here hx rfl (hb hby at_481) rfl (XT.i0_le_f (by decide)) (XS.aload X532.here hx rfl (hb hby at_484) rfl rfl (XS.iconst X532.here hx rfl (hb hby at_486) kk)))))) ?_
                  show own_Fin _ _ _ _ _ _ _ (T532.setTop (mkF m 487 #[.val (.int p0), .val (.int p1), .val (.int p2), .val (.int (4 : Int32)), .val (.int xa), .val (.int xb), .val (.int xc), .val (.int xd), .val (.ref b401), .val (.ref b414), .val (.ref b457), .val (.int (2 : Int32)), .val (.ref r532)] [(.int (0 : Int32)), (.ref r532)]))
                  refine own_ldI X532 hx hZ rfl F532 (by decide) (by show (0 : Int32).toNatClampNeg < 2; decide) (hb hby at_487) ?_
                  show own_Fin _ _ _ _ _ _ _ (T532.setTop (mkF m 488 #[.val (.int p0), .val (.int p1), .val (.int p2), .val (.int (4 : Int32)), .val (.int xa), .val (.int xb), .val (.int xc), .val (.int xd), .val (.ref b401), .val (.ref b414), .val (.ref b457), .val (.int (2 : Int32)), .val (.ref r532)] [(.int xb)]))
                  refine own_go (fun _ kk => XS.aload X532.here hx rfl (hb hby at_488) rfl rfl (XS.iconst X532.here hx rfl (hb hby at_490) kk)) ?_
                  show own_Fin _ _ _ _ _ _ _ (T532.setTop (mkF m 491 #[.val (.int p0), .val (.int p1), .val (.int p2), .val (.int (4 : Int32)), .val (.int xa), .val (.int xb), .val (.int xc), .val (.int xd), .val (.ref b401), .val (.ref b414), .val (.ref b457), .val (.int (2 : Int32)), .val (.ref r532)] [(.int (0 : Int32)), (.ref b457), (.int xb)]))
                  refine own_ldI X532 hx hZ rfl f537 (by decide) (by show (0 : Int32).toNatClampNeg < 4; decide) (hb hby at_491) ?_
                  show own_Fin _ _ _ _ _ _ _ (T532.setTop (mkF m 492 #[.val (.int p0), .val (.int p1), .val (.int p2), .val (.int (4 : Int32)), .val (.int xa), .val (.int xb), .val (.int xc), .val (.int xd), .val (.ref b401), .val (.ref b414), .val (.ref b457), .val (.int (2 : Int32)), .val (.ref r532)] [(.int xb), (.int xb)]))
                  refine own_go (fun _ kk => XS.icmpYes X532.here hx rfl (pc0 := 492) (pc' := 497) rfl (hb hby at_492) rfl (XT.ii_eq_t rfl) (by decide) (by decide) (XS.iload X532.here hx rfl (hb hby at_497) rfl (XS.iconst X532.here hx rfl (hb hby at_499) (XS.icmpNo X532.here hx rfl (hb hby at_500) rfl (XT.ii_le_f (by decide)) (XS.aload X532.here hx rfl (hb hby at_503) rfl rfl (XS.iconst X532.here hx rfl (hb hby at_505) kk)))))) ?_
                  show own_Fin _ _ _ _ _ _ _ (T532.setTop (mkF m 506 #[.val (.int p0), .val (.int p1), .val (.int p2), .val (.int (4 : Int32)), .val (.int xa), .val (.int xb), .val (.int xc), .val (.int xd), .val (.ref b401), .val (.ref b414), .val (.ref b457), .val (.int (2 : Int32)), .val (.ref r532)] [(.int (1 : Int32)), (.ref r532)]))
                  refine own_ldI X532 hx hZ rfl F532 (by decide) (by show (1 : Int32).toNatClampNeg < 2; decide) (hb hby at_506) ?_
                  show own_Fin _ _ _ _ _ _ _ (T532.setTop (mkF m 507 #[.val (.int p0), .val (.int p1), .val (.int p2), .val (.int (4 : Int32)), .val (.int xa), .val (.int xb), .val (.int xc), .val (.int xd), .val (.ref b401), .val (.ref b414), .val (.ref b457), .val (.int (2 : Int32)), .val (.ref r532)] [(.int xd)]))
                  refine own_go (fun _ kk => XS.aload X532.here hx rfl (hb hby at_507) rfl rfl (XS.iconst X532.here hx rfl (hb hby at_509) kk)) ?_
                  show own_Fin _ _ _ _ _ _ _ (T532.setTop (mkF m 510 #[.val (.int p0), .val (.int p1), .val (.int p2), .val (.int (4 : Int32)), .val (.int xa), .val (.int xb), .val (.int xc), .val (.int xd), .val (.ref b401), .val (.ref b414), .val (.ref b457), .val (.int (2 : Int32)), .val (.ref r532)] [(.int (1 : Int32)), (.ref b457), (.int xd)]))
                  refine own_ldI X532 hx hZ rfl f537 (by decide) (by show (1 : Int32).toNatClampNeg < 4; decide) (hb hby at_510) ?_
                  show own_Fin _ _ _ _ _ _ _ (T532.setTop (mkF m 511 #[.val (.int p0), .val (.int p1), .val (.int p2), .val (.int (4 : Int32)), .val (.int xa), .val (.int xb), .val (.int xc), .val (.int xd), .val (.ref b401), .val (.ref b414), .val (.ref b457), .val (.int (2 : Int32)), .val (.ref r532)] [(.int xd), (.int xd)]))
                  refine own_go (fun _ kk => XS.icmpYes X532.here hx rfl (pc0 := 511) (pc' := 516) rfl (hb hby at_511) rfl (XT.ii_eq_t rfl) (by decide) (by decide) (XS.iload X532.here hx rfl (hb hby at_516) rfl (XS.iconst X532.here hx rfl (hb hby at_518) (XS.icmpYes X532.here hx rfl (pc0 := 519) (pc' := 535) rfl (hb hby at_519) rfl (XT.ii_le_t (by decide)) (by decide) (by decide) (XS.iload X532.here hx rfl (hb hby at_535) rfl (XS.iconst X532.here hx rfl (hb hby at_537) (XS.icmpYes X532.here hx rfl (pc0 := 538) (pc' := 554) rfl (hb hby at_538) rfl (XT.ii_le_t (by decide)) (by decide) (by decide) (XS.iconst X532.here hx rfl (hb hby at_554) kk)))))))) ?_
                  show own_Fin _ _ _ _ _ _ _ (T532.setTop (mkF m 555 #[.val (.int p0), .val (.int p1), .val (.int p2), .val (.int (4 : Int32)), .val (.int xa), .val (.int xb), .val (.int xc), .val (.int xd), .val (.ref b401), .val (.ref b414), .val (.ref b457), .val (.int (2 : Int32)), .val (.ref r532)] [(.int (1 : Int32))]))
                  exact own_retZ X532 hx hlk hret rfl (hb hby at_555) (by decide) (by decide) ⟨rfl, N532⟩
              · refine own_go (fun _ kk => XS.ifNo X511.here hx rfl (hb hby at_338) rfl (XT.i0_eq_f hc338) (XS.aload X511.here hx rfl (hb hby at_341) rfl rfl (XS.iload X511.here hx rfl (hb hby at_343) rfl (XS.iload X511.here hx rfl (hb hby at_345) rfl kk)))) ?_
                show own_Fin _ _ _ _ _ _ _ (T511.setTop (mkF m 347 #[.val (.int p0), .val (.int p1), .val (.int p2), .val (.int (4 : Int32)), .val (.int xa), .val (.int xb), .val (.int xc), .val (.int xd), .val (.ref b401), .val (.ref b414), .val (.ref b457), .val (.int (1 : Int32)), .unset] [(.int xc), (.int (1 : Int32)), (.ref b457)]))
                refine own_stI X511 hx hZ e511 A511 (by decide) (by show (1 : Int32).toNatClampNeg < 4; decide) (hb hby at_347) ?_
                intro T539 h539 X539 e539 W539 A539
                have f540 := f512.other W539 ne_b401_b457
                have f541 := f513.wr W539
                have f542 := f514.other W539 ne_b414_b457
                have f543 := f515.wr W539
                have f545 := f517.wr W539
                have Z539 := Nat.le_trans Z511 (Keep.of_wr W539).1
                have A539 : own_Ar Z h539 b457 .int (List.map Value.int [xb, xc, (0 : Int32), (0 : Int32)]) := A539
                have N539 := Fr.snoc X539 N511 g_b457
                show own_Fin _ _ _ _ _ _ _ (T539.setTop (mkF m 348 #[.val (.int p0), .val (.int p1), .val (.int p2), .val (.int (4 : Int32)), .val (.int xa), .val (.int xb), .val (.int xc), .val (.int xd), .val (.ref b401), .val (.ref b414), .val (.ref b457), .val (.int (1 : Int32)), .unset] []))
                refine own_go (fun _ kk => XS.iinc X539.here hx rfl (hb hby at_348) rfl (l' := #[.val (.int p0), .val (.int p1), .val (.int p2), .val (.int (4 : Int32)), .val (.int xa), .val (.int xb), .val (.int xc), .val (.int xd), .val (.ref b401), .val (.ref b414), .val (.ref b457), .val (.int (2 : Int32)), .unset]) rfl (XS.iloadN X539.here hx rfl (hb hby at_351) rfl (XS.iconst X539.here hx rfl (hb hby at_352) (XS.icmpNo X539.here hx rfl (hb hby at_353) rfl (XT.ii_le_f (by decide)) (XS.aload X539.here hx rfl (hb hby at_356) rfl rfl (XS.iload X539.here hx rfl (hb hby at_358) rfl kk)))))) ?_
                show own_Fin _ _ _ _ _ _ _ (T539.setTop (mkF m 360 #[.val (.int p0), .val (.int p1), .val (.int p2), .val (.int (4 : Int32)), .val (.int xa), .val (.int xb), .val (.int xc), .val (.int xd), .val (.ref b401), .val (.ref b414), .val (.ref b457), .val (.int (2 : Int32)), .unset] [(.int xd), (.ref b414)]))
                refine own_ldZ X539 hx hZ e539 f542 sd.1 sd.2 (hb hby at_360) ?_
                show own_Fin _ _ _ _ _ _ _ (T539.setTop (mkF m 361 #[.val (.int p0), .val (.int p1), .val (.int p2), .val (.int (4 : Int32)), .val (.int xa), .val (.int xb), .val (.int xc), .val (.int xd), .val (.ref b401), .val (.ref b414), .val (.ref b457), .val (.int (2 : Int32)), .unset] [(.int (List.getD bs (xd).toNatClampNeg 0))]))
                by_cases hc361 : (List.getD bs (xd).toNatClampNeg 0) = 0
                · refine own_go (fun _ kk => XS.ifYes X539.here hx rfl (pc0 := 361) (pc' := 374) rfl (hb hby at_361) rfl (XT.i0_eq_t hc361) (by decide) (by decide) (XS.aload X539.here hx rfl (hb hby at_374) rfl rfl (XS.aload X539.here hx rfl (hb hby at_376) rfl rfl kk))) ?_
                  show own_Fin _ _ _ _ _ _ _ (T539.setTop (mkF m 378 #[.val (.int p0), .val (.int p1), .val (.int p2), .val (.int (4 : Int32)), .val (.int xa), .val (.int xb), .val (.int xc), .val (.int xd), .val (.ref b401), .val (.ref b414), .val (.ref b457), .val (.int (2 : Int32)), .unset] [(.ref b414), (.ref b401)]))
                  refine own_callS X539 hx hZ hown (hw _ (List.mem_of_getElem? (i := 7) rfl)) (hw _ (List.mem_of_getElem? (i := 8) rfl)) (hw _ (List.mem_of_getElem? (i := 9) rfl)) (hw _ (List.mem_of_getElem? (i := 10) rfl)) (by decide) (rm2 l Z a0 hw b401 b414 h539 n0 Z539 [xa, xb, xc, xd] bs f540 f542 (by show 4 ≤ 4; decide) (List.forall_mem_cons.mpr ⟨sa, (List.forall_mem_cons.mpr ⟨sb, (List.forall_mem_cons.mpr ⟨sc, (List.forall_mem_cons.mpr ⟨sd, (fun x h => nomatch h)⟩)⟩)⟩)⟩)) e539 (argsL := [(.ref b401), (.ref b414)]) (rest := []) rfl rfl (by rw [hml]; rfl) (lenOf pd_0_1 rfl) (hb hby at_378) (W := 0) (Nat.le_of_eq rfl) (by decide) (by decide) (by decide) (by decide) ?_
                  rintro v546 T546 L546 X546 ⟨r546, rfl, M546, Kc546, sz546, A546⟩
                  have N546 := Fr.app N539 M546
                  have ne546 : r546 ≠ b401 := Nat.ne_of_gt (Nat.lt_of_lt_of_le f540.lt sz546)
                  have f547 := f540.keep Kc546 nin0
                  have f548 := f541.keep Kc546
                  have f549 := f542.keep Kc546 nin0
                  have f550 := f543.keep Kc546
                  have f551 := A539.keep Kc546 nin0
                  have f552 := f545.keep Kc546
                  have Z546 := Nat.le_trans Z539 Kc546.1
                  have F546 : own_Ar Z T546.heap r546 .int (List.map Value.int [xb, xc]) := by
                    rw [List.filter_cons_of_neg (by rw [show own_mk bs xa = false from decide_eq_false (fun q => q hc292)]; decide), List.filter_cons_of_pos (show own_mk bs xb = true from decide_eq_true hc315), List.filter_cons_of_pos (show own_mk bs xc = true from decide_eq_true hc338), List.filter_cons_of_neg (by rw [show own_mk bs xd = false from decide_eq_false (fun q => q hc361)]; decide), List.filter_nil] at A546
                    exact A546
                  show own_Fin _ _ _ _ _ _ _ (T546.setTop (mkF m 381 #[.val (.int p0), .val (.int p1), .val (.int p2), .val (.int (4 : Int32)), .val (.int xa), .val (.int xb), .val (.int xc), .val (.int xd), .val (.ref b401), .val (.ref b414), .val (.ref b457), .val (.int (2 : Int32)), .unset] [(.ref r546)]))
                  refine own_go (fun _ kk => XS.astore X546.here hx rfl (hb hby at_381) rfl rfl (l' := #[.val (.int p0), .val (.int p1), .val (.int p2), .val (.int (4 : Int32)), .val (.int xa), .val (.int xb), .val (.int xc), .val (.int xd), .val (.ref b401), .val (.ref b414), .val (.ref b457), .val (.int (2 : Int32)), .val (.ref r546)]) rfl (XS.aload X546.here hx rfl (hb hby at_383) rfl rfl (XS.ifnullNo X546.here hx rfl (hb hby at_385) rfl (XS.aload X546.here hx rfl (hb hby at_388) rfl rfl (XS.aload X546.here hx rfl (hb hby at_390) rfl rfl (XT.acmpYes X546.here hx rfl (pc0 := 392) (pc' := 397) rfl (hb hby at_392) rfl rfl rfl (XT.aa_ne_t (fun q => ne546 (Value.ref.inj q))) (by decide) (by decide) (XS.aload X546.here hx rfl (hb hby at_397) rfl rfl kk))))))) ?_
                  show own_Fin _ _ _ _ _ _ _ (T546.setTop (mkF m 399 #[.val (.int p0), .val (.int p1), .val (.int p2), .val (.int (4 : Int32)), .val (.int xa), .val (.int xb), .val (.int xc), .val (.int xd), .val (.ref b401), .val (.ref b414), .val (.ref b457), .val (.int (2 : Int32)), .val (.ref r546)] [(.ref b401)]))
                  refine own_alen X546 hx hZ rfl f547 (hb hby at_399) ?_
                  show own_Fin _ _ _ _ _ _ _ (T546.setTop (mkF m 400 #[.val (.int p0), .val (.int p1), .val (.int p2), .val (.int (4 : Int32)), .val (.int xa), .val (.int xb), .val (.int xc), .val (.int xd), .val (.ref b401), .val (.ref b414), .val (.ref b457), .val (.int (2 : Int32)), .val (.ref r546)] [(.int (4 : Int32))]))
                  refine own_go (fun _ kk => XS.iloadN X546.here hx rfl (hb hby at_400) rfl (XS.icmpYes X546.here hx rfl (pc0 := 401) (pc' := 406) rfl (hb hby at_401) rfl (XT.ii_eq_t (by decide)) (by decide) (by decide) (XS.iloadN X546.here hx rfl (hb hby at_406) rfl (XS.ifNo X546.here hx rfl (hb hby at_407) rfl (XT.i0_le_f (by decide)) (XS.aload X546.here hx rfl (hb hby at_410) rfl rfl (XS.iconst X546.here hx rfl (hb hby at_412) kk)))))) ?_
                  show own_Fin _ _ _ _ _ _ _ (T546.setTop (mkF m 413 #[.val (.int p0), .val (.int p1), .val (.int p2), .val (.int (4 : Int32)), .val (.int xa), .val (.int xb), .val (.int xc), .val (.int xd), .val (.ref b401), .val (.ref b414), .val (.ref b457), .val (.int (2 : Int32)), .val (.ref r546)] [(.int (0 : Int32)), (.ref b401)]))
                  refine own_ldI X546 hx hZ rfl f547 (by decide) (by show (0 : Int32).toNatClampNeg < 4; decide) (hb hby at_413) ?_
                  show own_Fin _ _ _ _ _ _ _ (T546.setTop (mkF m 414 #[.val (.int p0), .val (.int p1), .val (.int p2), .val (.int (4 : Int32)), .val (.int xa), .val (.int xb), .val (.int xc), .val (.int xd), .val (.ref b401), .val (.ref b414), .val (.ref b457), .val (.int (2 : Int32)), .val (.ref r546)] [(.int xa)]))
                  refine own_go (fun _ kk => XS.iload X546.here hx rfl (hb hby at_414) rfl (XS.icmpYes X546.here hx rfl (pc0 := 416) (pc' := 421) rfl (hb hby at_416) rfl (XT.ii_eq_t rfl) (by decide) (by decide) (XS.iloadN X546.here hx rfl (hb hby at_421) rfl (XS.iconst X546.here hx rfl (hb hby at_422) (XS.icmpNo X546.here hx rfl (hb hby at_423) rfl (XT.ii_le_f (by decide)) (XS.aload X546.here hx rfl (hb hby at_426) rfl rfl (XS.iconst X546.here hx rfl (hb hby at_428) kk))))))) ?_
                  show own_Fin _ _ _ _ _ _ _ (T546.setTop (mkF m 429 #[.val (.int p0), .val (.int p1), .val (.int p2), .val (.int (4 : Int32)), .val (.int xa), .val (.int xb), .val (.int xc), .val (.int xd), .val (.ref b401), .val (.ref b414), .val (.ref b457), .val (.int (2 : Int32)), .val (.ref r546)] [(.int (1 : Int32)), (.ref b401)]))
                  refine own_ldI X546 hx hZ rfl f547 (by decide) (by show (1 : Int32).toNatClampNeg < 4; decide) (hb hby at_429) ?_
                  show own_Fin _ _ _ _ _ _ _ (T546.setTop (mkF m 430 #[.val (.int p0), .val (.int p1), .val (.int p2), .val (.int (4 : Int32)), .val (.int xa), .val (.int xb), .val (.int xc), .val (.int xd), .val (.ref b401), .val (.ref b414), .val (.ref b457), .val (.int (2 : Int32)), .val (.ref r546)] [(.int xb)]))
                  refine own_go (fun _ kk => XS.iload X546.here hx rfl (hb hby at_430) rfl (XS.icmpYes X546.here hx rfl (pc0 := 432) (pc' := 437) rfl (hb hby at_432) rfl (XT.ii_eq_t rfl) (by decide) (by decide) (XS.iloadN X546.here hx rfl (hb hby at_437) rfl (XS.iconst X546.here hx rfl (hb hby at_438) (XS.icmpNo X546.here hx rfl (hb hby at_439) rfl (XT.ii_le_f (by decide)) (XS.aload X546.here hx rfl (hb hby at_442) rfl rfl (XS.iconst X546.here hx rfl (hb hby at_444) kk))))))) ?_
                  show own_Fin _ _ _ _ _ _ _ (T546.setTop (mkF m 445 #[.val (.int p0), .val (.int p1), .val (.int p2), .val (.int (4 : Int32)), .val (.int xa), .val (.int xb), .val (.int xc), .val (.int xd), .val (.ref b401), .val (.ref b414), .val (.ref b457), .val (.int (2 : Int32)), .val (.ref r546)] [(.int (2 : Int32)), (.ref b401)]))
                  refine own_ldI X546 hx hZ rfl f547 (by decide) (by show (2 : Int32).toNatClampNeg < 4; decide) (hb hby at_445) ?_
                  show own_Fin _ _ _ _ _ _ _ (T546.setTop (mkF m 446 #[.val (.int p0), .val (.int p1), .val (.int p2), .val (.int (4 : Int32)), .val (.int xa), .val (.int xb), .val (.int xc), .val (.int xd), .val (.ref b401), .val (.ref b414), .val (.ref b457), .val (.int (2 : Int32)), .val (.ref r546)] [(.int xc)]))
                  refine own_go (fun _ kk => XS.iload X546.here hx rfl (hb hby at_446) rfl (XS.icmpYes X546.here hx rfl (pc0 := 448) (pc' := 453) rfl (hb hby at_448) rfl (XT.ii_eq_t rfl) (by decide) (by decide) (XS.iloadN X546.here hx rfl (hb hby at_453) rfl (XS.iconst X546.here hx rfl (hb hby at_454) (XS.icmpNo X546.here hx rfl (hb hby at_455) rfl (XT.ii_le_f (by decide)) (XS.aload X546.here hx rfl (hb hby at_458) rfl rfl (XS.iconst X546.here hx rfl (hb hby at_460) kk))))))) ?_
                  show own_Fin _ _ _ _ _ _ _ (T546.setTop (mkF m 461 #[.val (.int p0), .val (.int p1), .val (.int p2), .val (.int (4 : Int32)), .val (.int xa), .val (.int xb), .val (.int xc), .val (.int xd), .val (.ref b401), .val (.ref b414), .val (.ref b457), .val (.int (2 : Int32)), .val (.ref r546)] [(.int (3 : Int32)), (.ref b401)]))
                  refine own_ldI X546 hx hZ rfl f547 (by decide) (by show (3 : Int32).toNatClampNeg < 4; decide) (hb hby at_461) ?_
                  show own_Fin _ _ _ _ _ _ _ (T546.setTop (mkF m 462 #[.val (.int p0), .val (.int p1), .val (.int p2), .val (.int (4 : Int32)), .val (.int xa), .val (.int xb), .val (.int xc), .val (.int xd), .val (.ref b401), .val (.ref b414), .val (.ref b457), .val (.int (2 : Int32)), .val (.ref r546)] [(.int xd)]))
                  refine own_go (fun _ kk => XS.iload X546.here hx rfl (hb hby at_462) rfl (XS.icmpYes X546.here hx rfl (pc0 := 464) (pc' := 469) rfl (hb hby at_464) rfl (XT.ii_eq_t rfl) (by decide) (by decide) (XS.aload X546.here hx rfl (hb hby at_469) rfl rfl kk))) ?_
                  show own_Fin _ _ _ _ _ _ _ (T546.setTop (mkF m 471 #[.val (.int p0), .val (.int p1), .val (.int p2), .val (.int (4 : Int32)), .val (.int xa), .val (.int xb), .val (.int xc), .val (.int xd), .val (.ref b401), .val (.ref b414), .val (.ref b457), .val (.int (2 : Int32)), .val (.ref r546)] [(.ref r546)]))
                  refine own_alen X546 hx hZ rfl F546 (hb hby at_471) ?_
                  show own_Fin _ _ _ _ _ _ _ (T546.setTop (mkF m 472 #[.val (.int p0), .val (.int p1), .val (.int p2), .val (.int (4 : Int32)), .val (.int xa), .val (.int xb), .val (.int xc), .val (.int xd), .val (.ref b401), .val (.ref b414), .val (.ref b457), .val (.int (2 : Int32)), .val (.ref r546)] [(.int (2 : Int32))]))
                  refine own_go (fun _ kk => XS.iload X546.here hx rfl (hb hby at_472) rfl (XS.icmpYes X546.here hx rfl (pc0 := 474) (pc' := 479) rfl (hb hby at_474) rfl (XT.ii_eq_t (by decide)) (by decide) (by decide) (XS.iload X546.here hx rfl (hb hby at_479) rfl (XS.ifNo X546.here hx rfl (hb hby at_481) rfl (XT.i0_le_f (by decide)) (XS.aload X546.here hx rfl (hb hby at_484) rfl rfl (XS.iconst X546.here hx rfl (hb hby at_486) kk)))))) ?_
                  show own_Fin _ _ _ _ _ _ _ (T546.setTop (mkF m 487 #[.val (.int p0), .val (.int p1), .val (.int p2), .val (.int (4 : Int32)), .val (.int xa), .val (.int xb), .val (.int xc), .val (.int xd), .val (.ref b401), .val (.ref b414), .val (.ref b457), .val (.int (2 : Int32)), .val (.ref r546)] [(.int (0 : Int32)), (.ref r546)]))
                  refine own_ldI X546 hx hZ rfl F546 (by decide) (by show (0 : Int32).toNatClampNeg < 2; decide) (hb hby at_487) ?_
                  show own_Fin _ _ _ _ _ _ _ (T546.setTop (mkF m 488 #[.val (.int p0), .val (.int p1), .val (.int p2), .val (.int (4 : Int32)), .val (.int xa), .val (.int xb), .val (.int xc), .val (.int xd), .val (.ref b401), .val (.ref b414), .val (.ref b457), .val (.int (2 : Int32)), .val (.ref r546)] [(.int xb)]))
                  refine own_go (fun _ kk => XS.aload X546.here hx rfl (hb hby at_488) rfl rfl (XS.iconst X546.here hx rfl (hb hby at_490) kk)) ?_
                  show own_Fin _ _ _ _ _ _ _ (T546.setTop (mkF m 491 #[.val (.int p0), .val (.int p1), .val (.int p2), .val (.int (4 : Int32)), .val (.int xa), .val (.int xb), .val (.int xc), .val (.int xd), .val (.ref b401), .val (.ref b414), .val (.ref b457), .val (.int (2 : Int32)), .val (.ref r546)] [(.int (0 : Int32)), (.ref b457), (.int xb)]))
                  refine own_ldI X546 hx hZ rfl f551 (by decide) (by show (0 : Int32).toNatClampNeg < 4; decide) (hb hby at_491) ?_
                  show own_Fin _ _ _ _ _ _ _ (T546.setTop (mkF m 492 #[.val (.int p0), .val (.int p1), .val (.int p2), .val (.int (4 : Int32)), .val (.int xa), .val (.int xb), .val (.int xc), .val (.int xd), .val (.ref b401), .val (.ref b414), .val (.ref b457), .val (.int (2 : Int32)), .val (.ref r546)] [(.int xb), (.int xb)]))
                  refine own_go (fun _ kk => XS.icmpYes X546.here hx rfl (pc0 := 492) (pc' := 497) rfl (hb hby at_492) rfl (XT.ii_eq_t rfl) (by decide) (by decide) (XS.iload X546.here hx rfl (hb hby at_497) rfl (XS.iconst X546.here hx rfl (hb hby at_499) (XS.icmpNo X546.here hx rfl (hb hby at_500) rfl (XT.ii_le_f (by decide)) (XS.aload X546.here hx rfl (hb hby at_503) rfl rfl (XS.iconst X546.here hx rfl (hb hby at_505) kk)))))) ?_
                  show own_Fin _ _ _ _ _ _ _ (T546.setTop (mkF m 506 #[.val (.int p0), .val (.int p1), .val (.int p2), .val (.int (4 : Int32)), .val (.int xa), .val (.int xb), .val (.int xc), .val (.int xd), .val (.ref b401), .val (.ref b414), .val (.ref b457), .val (.int (2 : Int32)), .val (.ref r546)] [(.int (1 : Int32)), (.ref r546)]))
                  refine own_ldI X546 hx hZ rfl F546 (by decide) (by show (1 : Int32).toNatClampNeg < 2; decide) (hb hby at_506) ?_
                  show own_Fin _ _ _ _ _ _ _ (T546.setTop (mkF m 507 #[.val (.int p0), .val (.int p1), .val (.int p2), .val (.int (4 : Int32)), .val (.int xa), .val (.int xb), .val (.int xc), .val (.int xd), .val (.ref b401), .val (.ref b414), .val (.ref b457), .val (.int (2 : Int32)), .val (.ref r546)] [(.int xc)]))
                  refine own_go (fun _ kk => XS.aload X546.here hx rfl (hb hby at_507) rfl rfl (XS.iconst X546.here hx rfl (hb hby at_509) kk)) ?_
                  show own_Fin _ _ _ _ _ _ _ (T546.setTop (mkF m 510 #[.val (.int p0), .val (.int p1), .val (.int p2), .val (.int (4 : Int32)), .val (.int xa), .val (.int xb), .val (.int xc), .val (.int xd), .val (.ref b401), .val (.ref b414), .val (.ref b457), .val (.int (2 : Int32)), .val (.ref r546)] [(.int (1 : Int32)), (.ref b457), (.int xc)]))
                  refine own_ldI X546 hx hZ rfl f551 (by decide) (by show (1 : Int32).toNatClampNeg < 4; decide) (hb hby at_510) ?_
                  show own_Fin _ _ _ _ _ _ _ (T546.setTop (mkF m 511 #[.val (.int p0), .val (.int p1), .val (.int p2), .val (.int (4 : Int32)), .val (.int xa), .val (.int xb), .val (.int xc), .val (.int xd), .val (.ref b401), .val (.ref b414), .val (.ref b457), .val (.int (2 : Int32)), .val (.ref r546)] [(.int xc), (.int xc)]))
                  refine own_go (fun _ kk => XS.icmpYes X546.here hx rfl (pc0 := 511) (pc' := 516) rfl (hb hby at_511) rfl (XT.ii_eq_t rfl) (by decide) (by decide) (XS.iload X546.here hx rfl (hb hby at_516) rfl (XS.iconst X546.here hx rfl (hb hby at_518) (XS.icmpYes X546.here hx rfl (pc0 := 519) (pc' := 535) rfl (hb hby at_519) rfl (XT.ii_le_t (by decide)) (by decide) (by decide) (XS.iload X546.here hx rfl (hb hby at_535) rfl (XS.iconst X546.here hx rfl (hb hby at_537) (XS.icmpYes X546.here hx rfl (pc0 := 538) (pc' := 554) rfl (hb hby at_538) rfl (XT.ii_le_t (by decide)) (by decide) (by decide) (XS.iconst X546.here hx rfl (hb hby at_554) kk)))))))) ?_
                  show own_Fin _ _ _ _ _ _ _ (T546.setTop (mkF m 555 #[.val (.int p0), .val (.int p1), .val (.int p2), .val (.int (4 : Int32)), .val (.int xa), .val (.int xb), .val (.int xc), .val (.int xd), .val (.ref b401), .val (.ref b414), .val (.ref b457), .val (.int (2 : Int32)), .val (.ref r546)] [(.int (1 : Int32))]))
                  exact own_retZ X546 hx hlk hret rfl (hb hby at_555) (by decide) (by decide) ⟨rfl, N546⟩
                · refine own_go (fun _ kk => XS.ifNo X539.here hx rfl (hb hby at_361) rfl (XT.i0_eq_f hc361) (XS.aload X539.here hx rfl (hb hby at_364) rfl rfl (XS.iload X539.here hx rfl (hb hby at_366) rfl (XS.iload X539.here hx rfl (hb hby at_368) rfl kk)))) ?_
                  show own_Fin _ _ _ _ _ _ _ (T539.setTop (mkF m 370 #[.val (.int p0), .val (.int p1), .val (.int p2), .val (.int (4 : Int32)), .val (.int xa), .val (.int xb), .val (.int xc), .val (.int xd), .val (.ref b401), .val (.ref b414), .val (.ref b457), .val (.int (2 : Int32)), .unset] [(.int xd), (.int (2 : Int32)), (.ref b457)]))
                  refine own_stI X539 hx hZ e539 A539 (by decide) (by show (2 : Int32).toNatClampNeg < 4; decide) (hb hby at_370) ?_
                  intro T553 h553 X553 e553 W553 A553
                  have f554 := f540.other W553 ne_b401_b457
                  have f555 := f541.wr W553
                  have f556 := f542.other W553 ne_b414_b457
                  have f557 := f543.wr W553
                  have f559 := f545.wr W553
                  have Z553 := Nat.le_trans Z539 (Keep.of_wr W553).1
                  have A553 : own_Ar Z h553 b457 .int (List.map Value.int [xb, xc, xd, (0 : Int32)]) := A553
                  have N553 := Fr.snoc X553 N539 g_b457
                  show own_Fin _ _ _ _ _ _ _ (T553.setTop (mkF m 371 #[.val (.int p0), .val (.int p1), .val (.int p2), .val (.int (4 : Int32)), .val (.int xa), .val (.int xb), .val (.int xc), .val (.int xd), .val (.ref b401), .val (.ref b414), .val (.ref b457), .val (.int (2 : Int32)), .unset] []))
                  refine own_go (fun _ kk => XS.iinc X553.here hx rfl (hb hby at_371) rfl (l' := #[.val (.int p0), .val (.int p1), .val (.int p2), .val (.int (4 : Int32)), .val (.int xa), .val (.int xb), .val (.int xc), .val (.int xd), .val (.ref b401), .val (.ref b414), .val (.ref b457), .val (.int (3 : Int32)), .unset]) rfl (XS.aload X553.here hx rfl (hb hby at_374) rfl rfl (XS.aload X553.here hx rfl (hb hby at_376) rfl rfl kk))) ?_
                  show own_Fin _ _ _ _ _ _ _ (T553.setTop (mkF m 378 #[.val (.int p0), .val (.int p1), .val (.int p2), .val (.int (4 : Int32)), .val (.int xa), .val (.int xb), .val (.int xc), .val (.int xd), .val (.ref b401), .val (.ref b414), .val (.ref b457), .val (.int (3 : Int32)), .unset] [(.ref b414), (.ref b401)]))
                  refine own_callS X553 hx hZ hown (hw _ (List.mem_of_getElem? (i := 7) rfl)) (hw _ (List.mem_of_getElem? (i := 8) rfl)) (hw _ (List.mem_of_getElem? (i := 9) rfl)) (hw _ (List.mem_of_getElem? (i := 10) rfl)) (by decide) (rm2 l Z a0 hw b401 b414 h553 n0 Z553 [xa, xb, xc, xd] bs f554 f556 (by show 4 ≤ 4; decide) (List.forall_mem_cons.mpr ⟨sa, (List.forall_mem_cons.mpr ⟨sb, (List.forall_mem_cons.mpr ⟨sc, (List.forall_mem_cons.mpr ⟨sd, (fun x h => nomatch h)⟩)⟩)⟩)⟩)) e553 (argsL := [(.ref b401), (.ref b414)]) (rest := []) rfl rfl (by rw [hml]; rfl) (lenOf pd_0_1 rfl) (hb hby at_378) (W := 0) (Nat.le_of_eq rfl) (by decide) (by decide) (by decide) (by decide) ?_
                  rintro v560 T560 L560 X560 ⟨r560, rfl, M560, Kc560, sz560, A560⟩
                  have N560 := Fr.app N553 M560
                  have ne560 : r560 ≠ b401 := Nat.ne_of_gt (Nat.lt_of_lt_of_le f554.lt sz560)
                  have f561 := f554.keep Kc560 nin0
                  have f562 := f555.keep Kc560
                  have f563 := f556.keep Kc560 nin0
                  have f564 := f557.keep Kc560
                  have f565 := A553.keep Kc560 nin0
                  have f566 := f559.keep Kc560
                  have Z560 := Nat.le_trans Z553 Kc560.1
                  have F560 : own_Ar Z T560.heap r560 .int (List.map Value.int [xb, xc, xd]) := by
                    rw [List.filter_cons_of_neg (by rw [show own_mk bs xa = false from decide_eq_false (fun q => q hc292)]; decide), List.filter_cons_of_pos (show own_mk bs xb = true from decide_eq_true hc315), List.filter_cons_of_pos (show own_mk bs xc = true from decide_eq_true hc338), List.filter_cons_of_pos (show own_mk bs xd = true from decide_eq_true hc361), List.filter_nil] at A560
                    exact A560
                  show own_Fin _ _ _ _ _ _ _ (T560.setTop (mkF m 381 #[.val (.int p0), .val (.int p1), .val (.int p2), .val (.int (4 : Int32)), .val (.int xa), .val (.int xb), .val (.int xc), .val (.int xd), .val (.ref b401), .val (.ref b414), .val (.ref b457), .val (.int (3 : Int32)), .unset] [(.ref r560)]))
                  refine own_go (fun _ kk => XS.astore X560.here hx rfl (hb hby at_381) rfl rfl (l' := #[.val (.int p0), .val (.int p1), .val (.int p2), .val (.int (4 : Int32)), .val (.int xa), .val (.int xb), .val (.int xc), .val (.int xd), .val (.ref b401), .val (.ref b414), .val (.ref b457), .val (.int (3 : Int32)), .val (.ref r560)]) rfl (XS.aload X560.here hx rfl (hb hby at_383) rfl rfl (XS.ifnullNo X560.here hx rfl (hb hby at_385) rfl (XS.aload X560.here hx rfl (hb hby at_388) rfl rfl (XS.aload X560.here hx rfl (hb hby at_390) rfl rfl (XT.acmpYes X560.here hx rfl (pc0 := 392) (pc' := 397) rfl (hb hby at_392) rfl rfl rfl (XT.aa_ne_t (fun q => ne560 (Value.ref.inj q))) (by decide) (by decide) (XS.aload X560.here hx rfl (hb hby at_397) rfl rfl kk))))))) ?_
                  show own_Fin _ _ _ _ _ _ _ (T560.setTop (mkF m 399 #[.val (.int p0), .val (.int p1), .val (.int p2), .val (.int (4 : Int32)), .val (.int xa), .val (.int xb), .val (.int xc), .val (.int xd), .val (.ref b401), .val (.ref b414), .val (.ref b457), .val (.int (3 : Int32)), .val (.ref r560)] [(.ref b401)]))
                  refine own_alen X560 hx hZ rfl f561 (hb hby at_399) ?_
                  show own_Fin _ _ _ _ _ _ _ (T560.setTop (mkF m 400 #[.val (.int p0), .val (.int p1), .val (.int p2), .val (.int (4 : Int32)), .val (.int xa), .val (.int xb), .val (.int xc), .val (.int xd), .val (.ref b401), .val (.ref b414), .val (.ref b457), .val (.int (3 : Int32)), .val (.ref r560)] [(.int (4 : Int32))]))
                  refine own_go (fun _ kk => XS.iloadN X560.here hx rfl (hb hby at_400) rfl (XS.icmpYes X560.here hx rfl (pc0 := 401) (pc' := 406) rfl (hb hby at_401) rfl (XT.ii_eq_t (by decide)) (by decide) (by decide) (XS.iloadN X560.here hx rfl (hb hby at_406) rfl (XS.ifNo X560.here hx rfl (hb hby at_407) rfl (XT.i0_le_f (by decide)) (XS.aload X560.here hx rfl (hb hby at_410) rfl rfl (XS.iconst X560.here hx rfl (hb hby at_412) kk)))))) ?_
                  show own_Fin _ _ _ _ _ _ _ (T560.setTop (mkF m 413 #[.val (.int p0), .val (.int p1), .val (.int p2), .val (.int (4 : Int32)), .val (.int xa), .val (.int xb), .val (.int xc), .val (.int xd), .val (.ref b401), .val (.ref b414), .val (.ref b457), .val (.int (3 : Int32)), .val (.ref r560)] [(.int (0 : Int32)), (.ref b401)]))
                  refine own_ldI X560 hx hZ rfl f561 (by decide) (by show (0 : Int32).toNatClampNeg < 4; decide) (hb hby at_413) ?_
                  show own_Fin _ _ _ _ _ _ _ (T560.setTop (mkF m 414 #[.val (.int p0), .val (.int p1), .val (.int p2), .val (.int (4 : Int32)), .val (.int xa), .val (.int xb), .val (.int xc), .val (.int xd), .val (.ref b401), .val (.ref b414), .val (.ref b457), .val (.int (3 : Int32)), .val (.ref r560)] [(.int xa)]))
                  refine own_go (fun _ kk => XS.iload X560.here hx rfl (hb hby at_414) rfl (XS.icmpYes X560.here hx rfl (pc0 := 416) (pc' := 421) rfl (hb hby at_416) rfl (XT.ii_eq_t rfl) (by decide) (by decide) (XS.iloadN X560.here hx rfl (hb hby at_421) rfl (XS.iconst X560.here hx rfl (hb hby at_422) (XS.icmpNo X560.here hx rfl (hb hby at_423) rfl (XT.ii_le_f (by decide)) (XS.aload X560.here hx rfl (hb hby at_426) rfl rfl (XS.iconst X560.here hx rfl (hb hby at_428) kk))))))) ?_
                  show own_Fin _ _ _ _ _ _ _ (T560.setTop (mkF m 429 #[.val (.int p0), .val (.int p1), .val (.int p2), .val (.int (4 : Int32)), .val (.int xa), .val (.int xb), .val (.int xc), .val (.int xd), .val (.ref b401), .val (.ref b414), .val (.ref b457), .val (.int (3 : Int32)), .val (.ref r560)] [(.int (1 : Int32)), (.ref b401)]))
                  refine own_ldI X560 hx hZ rfl f561 (by decide) (by show (1 : Int32).toNatClampNeg < 4; decide) (hb hby at_429) ?_
                  show own_Fin _ _ _ _ _ _ _ (T560.setTop (mkF m 430 #[.val (.int p0), .val (.int p1), .val (.int p2), .val (.int (4 : Int32)), .val (.int xa), .val (.int xb), .val (.int xc), .val (.int xd), .val (.ref b401), .val (.ref b414), .val (.ref b457), .val (.int (3 : Int32)), .val (.ref r560)] [(.int xb)]))
                  refine own_go (fun _ kk => XS.iload X560.here hx rfl (hb hby at_430) rfl (XS.icmpYes X560.here hx rfl (pc0 := 432) (pc' := 437) rfl (hb hby at_432) rfl (XT.ii_eq_t rfl) (by decide) (by decide) (XS.iloadN X560.here hx rfl (hb hby at_437) rfl (XS.iconst X560.here hx rfl (hb hby at_438) (XS.icmpNo X560.here hx rfl (hb hby at_439) rfl (XT.ii_le_f (by decide)) (XS.aload X560.here hx rfl (hb hby at_442) rfl rfl (XS.iconst X560.here hx rfl (hb hby at_444) kk))))))) ?_
                  show own_Fin _ _ _ _ _ _ _ (T560.setTop (mkF m 445 #[.val (.int p0), .val (.int p1), .val (.int p2), .val (.int (4 : Int32)), .val (.int xa), .val (.int xb), .val (.int xc), .val (.int xd), .val (.ref b401), .val (.ref b414), .val (.ref b457), .val (.int (3 : Int32)), .val (.ref r560)] [(.int (2 : Int32)), (.ref b401)]))
                  refine own_ldI X560 hx hZ rfl f561 (by decide) (by show (2 : Int32).toNatClampNeg < 4; decide) (hb hby at_445) ?_
                  show own_Fin _ _ _ _ _ _ _ (T560.setTop (mkF m 446 #[.val (.int p0), .val (.int p1), .val (.int p2), .val (.int (4 : Int32)), .val (.int xa), .val (.int xb), .val (.int xc), .val (.int xd), .val (.ref b401), .val (.ref b414), .val (.ref b457), .val (.int (3 : Int32)), .val (.ref r560)] [(.int xc)]))
                  refine own_go (fun _ kk => XS.iload X560.here hx rfl (hb hby at_446) rfl (XS.icmpYes X560.here hx rfl (pc0 := 448) (pc' := 453) rfl (hb hby at_448) rfl (XT.ii_eq_t rfl) (by decide) (by decide) (XS.iloadN X560.here hx rfl (hb hby at_453) rfl (XS.iconst X560.here hx rfl (hb hby at_454) (XS.icmpNo X560.here hx rfl (hb hby at_455) rfl (XT.ii_le_f (by decide)) (XS.aload X560.here hx rfl (hb hby at_458) rfl rfl (XS.iconst X560.here hx rfl (hb hby at_460) kk))))))) ?_
                  show own_Fin _ _ _ _ _ _ _ (T560.setTop (mkF m 461 #[.val (.int p0), .val (.int p1), .val (.int p2), .val (.int (4 : Int32)), .val (.int xa), .val (.int xb), .val (.int xc), .val (.int xd), .val (.ref b401), .val (.ref b414), .val (.ref b457), .val (.int (3 : Int32)), .val (.ref r560)] [(.int (3 : Int32)), (.ref b401)]))
                  refine own_ldI X560 hx hZ rfl f561 (by decide) (by show (3 : Int32).toNatClampNeg < 4; decide) (hb hby at_461) ?_
                  show own_Fin _ _ _ _ _ _ _ (T560.setTop (mkF m 462 #[.val (.int p0), .val (.int p1), .val (.int p2), .val (.int (4 : Int32)), .val (.int xa), .val (.int xb), .val (.int xc), .val (.int xd), .val (.ref b401), .val (.ref b414), .val (.ref b457), .val (.int (3 : Int32)), .val (.ref r560)] [(.int xd)]))
                  refine own_go (fun _ kk => XS.iload X560.here hx rfl (hb hby at_462) rfl (XS.icmpYes X560.here hx rfl (pc0 := 464) (pc' := 469) rfl (hb hby at_464) rfl (XT.ii_eq_t rfl) (by decide) (by decide) (XS.aload X560.here hx rfl (hb hby at_469) rfl rfl kk))) ?_
                  show own_Fin _ _ _ _ _ _ _ (T560.setTop (mkF m 471 #[.val (.int p0), .val (.int p1), .val (.int p2), .val (.int (4 : Int32)), .val (.int xa), .val (.int xb), .val (.int xc), .val (.int xd), .val (.ref b401), .val (.ref b414), .val (.ref b457), .val (.int (3 : Int32)), .val (.ref r560)] [(.ref r560)]))
                  refine own_alen X560 hx hZ rfl F560 (hb hby at_471) ?_
                  show own_Fin _ _ _ _ _ _ _ (T560.setTop (mkF m 472 #[.val (.int p0), .val (.int p1), .val (.int p2), .val (.int (4 : Int32)), .val (.int xa), .val (.int xb), .val (.int xc), .val (.int xd), .val (.ref b401), .val (.ref b414), .val (.ref b457), .val (.int (3 : Int32)), .val (.ref r560)] [(.int (3 : Int32))]))
                  refine own_go (fun _ kk => XS.iload X560.here hx rfl (hb hby at_472) rfl (XS.icmpYes X560.here hx rfl (pc0 := 474) (pc' := 479) rfl (hb hby at_474) rfl (XT.ii_eq_t (by decide)) (by decide) (by decide) (XS.iload X560.here hx rfl (hb hby at_479) rfl (XS.ifNo X560.here hx rfl (hb hby at_481) rfl (XT.i0_le_f (by decide)) (XS.aload X560.here hx rfl (hb hby at_484) rfl rfl (XS.iconst X560.here hx rfl (hb hby at_486) kk)))))) ?_
                  show own_Fin _ _ _ _ _ _ _ (T560.setTop (mkF m 487 #[.val (.int p0), .val (.int p1), .val (.int p2), .val (.int (4 : Int32)), .val (.int xa), .val (.int xb), .val (.int xc), .val (.int xd), .val (.ref b401), .val (.ref b414), .val (.ref b457), .val (.int (3 : Int32)), .val (.ref r560)] [(.int (0 : Int32)), (.ref r560)]))
                  refine own_ldI X560 hx hZ rfl F560 (by decide) (by show (0 : Int32).toNatClampNeg < 3; decide) (hb hby at_487) ?_
                  show own_Fin _ _ _ _ _ _ _ (T560.setTop (mkF m 488 #[.val (.int p0), .val (.int p1), .val (.int p2), .val (.int (4 : Int32)), .val (.int xa), .val (.int xb), .val (.int xc), .val (.int xd), .val (.ref b401), .val (.ref b414), .val (.ref b457), .val (.int (3 : Int32)), .val (.ref r560)] [(.int xb)]))
                  refine own_go (fun _ kk => XS.aload X560.here hx rfl (hb hby at_488) rfl rfl (XS.iconst X560.here hx rfl (hb hby at_490) kk)) ?_
                  show own_Fin _ _ _ _ _ _ _ (T560.setTop (mkF m 491 #[.val (.int p0), .val (.int p1), .val (.int p2), .val (.int (4 : Int32)), .val (.int xa), .val (.int xb), .val (.int xc), .val (.int xd), .val (.ref b401), .val (.ref b414), .val (.ref b457), .val (.int (3 : Int32)), .val (.ref r560)] [(.int (0 : Int32)), (.ref b457), (.int xb)]))
                  refine own_ldI X560 hx hZ rfl f565 (by decide) (by show (0 : Int32).toNatClampNeg < 4; decide) (hb hby at_491) ?_
                  show own_Fin _ _ _ _ _ _ _ (T560.setTop (mkF m 492 #[.val (.int p0), .val (.int p1), .val (.int p2), .val (.int (4 : Int32)), .val (.int xa), .val (.int xb), .val (.int xc), .val (.int xd), .val (.ref b401), .val (.ref b414), .val (.ref b457), .val (.int (3 : Int32)), .val (.ref r560)] [(.int xb), (.int xb)]))
                  refine own_go (fun _ kk => XS.icmpYes X560.here hx rfl (pc0 := 492) (pc' := 497) rfl (hb hby at_492) rfl (XT.ii_eq_t rfl) (by decide) (by decide) (XS.iload X560.here hx rfl (hb hby at_497) rfl (XS.iconst X560.here hx rfl (hb hby at_499) (XS.icmpNo X560.here hx rfl (hb hby at_500) rfl (XT.ii_le_f (by decide)) (XS.aload X560.here hx rfl (hb hby at_503) rfl rfl (XS.iconst X560.here hx rfl (hb hby at_505) kk)))))) ?_
                  show own_Fin _ _ _ _ _ _ _ (T560.setTop (mkF m 506 #[.val (.int p0), .val (.int p1), .val (.int p2), .val (.int (4 : Int32)), .val (.int xa), .val (.int xb), .val (.int xc), .val (.int xd), .val (.ref b401), .val (.ref b414), .val (.ref b457), .val (.int (3 : Int32)), .val (.ref r560)] [(.int (1 : Int32)), (.ref r560)]))
                  refine own_ldI X560 hx hZ rfl F560 (by decide) (by show (1 : Int32).toNatClampNeg < 3; decide) (hb hby at_506) ?_
                  show own_Fin _ _ _ _ _ _ _ (T560.setTop (mkF m 507 #[.val (.int p0), .val (.int p1), .val (.int p2), .val (.int (4 : Int32)), .val (.int xa), .val (.int xb), .val (.int xc), .val (.int xd), .val (.ref b401), .val (.ref b414), .val (.ref b457), .val (.int (3 : Int32)), .val (.ref r560)] [(.int xc)]))
                  refine own_go (fun _ kk => XS.aload X560.here hx rfl (hb hby at_507) rfl rfl (XS.iconst X560.here hx rfl (hb hby at_509) kk)) ?_
                  show own_Fin _ _ _ _ _ _ _ (T560.setTop (mkF m 510 #[.val (.int p0), .val (.int p1), .val (.int p2), .val (.int (4 : Int32)), .val (.int xa), .val (.int xb), .val (.int xc), .val (.int xd), .val (.ref b401), .val (.ref b414), .val (.ref b457), .val (.int (3 : Int32)), .val (.ref r560)] [(.int (1 : Int32)), (.ref b457), (.int xc)]))
                  refine own_ldI X560 hx hZ rfl f565 (by decide) (by show (1 : Int32).toNatClampNeg < 4; decide) (hb hby at_510) ?_
                  show own_Fin _ _ _ _ _ _ _ (T560.setTop (mkF m 511 #[.val (.int p0), .val (.int p1), .val (.int p2), .val (.int (4 : Int32)), .val (.int xa), .val (.int xb), .val (.int xc), .val (.int xd), .val (.ref b401), .val (.ref b414), .val (.ref b457), .val (.int (3 : Int32)), .val (.ref r560)] [(.int xc), (.int xc)]))
                  refine own_go (fun _ kk => XS.icmpYes X560.here hx rfl (pc0 := 511) (pc' := 516) rfl (hb hby at_511) rfl (XT.ii_eq_t rfl) (by decide) (by decide) (XS.iload X560.here hx rfl (hb hby at_516) rfl (XS.iconst X560.here hx rfl (hb hby at_518) (XS.icmpNo X560.here hx rfl (hb hby at_519) rfl (XT.ii_le_f (by decide)) (XS.aload X560.here hx rfl (hb hby at_522) rfl rfl (XS.iconst X560.here hx rfl (hb hby at_524) kk)))))) ?_
                  show own_Fin _ _ _ _ _ _ _ (T560.setTop (mkF m 525 #[.val (.int p0), .val (.int p1), .val (.int p2), .val (.int (4 : Int32)), .val (.int xa), .val (.int xb), .val (.int xc), .val (.int xd), .val (.ref b401), .val (.ref b414), .val (.ref b457), .val (.int (3 : Int32)), .val (.ref r560)] [(.int (2 : Int32)), (.ref r560)]))
                  refine own_ldI X560 hx hZ rfl F560 (by decide) (by show (2 : Int32).toNatClampNeg < 3; decide) (hb hby at_525) ?_
                  show own_Fin _ _ _ _ _ _ _ (T560.setTop (mkF m 526 #[.val (.int p0), .val (.int p1), .val (.int p2), .val (.int (4 : Int32)), .val (.int xa), .val (.int xb), .val (.int xc), .val (.int xd), .val (.ref b401), .val (.ref b414), .val (.ref b457), .val (.int (3 : Int32)), .val (.ref r560)] [(.int xd)]))
                  refine own_go (fun _ kk => XS.aload X560.here hx rfl (hb hby at_526) rfl rfl (XS.iconst X560.here hx rfl (hb hby at_528) kk)) ?_
                  show own_Fin _ _ _ _ _ _ _ (T560.setTop (mkF m 529 #[.val (.int p0), .val (.int p1), .val (.int p2), .val (.int (4 : Int32)), .val (.int xa), .val (.int xb), .val (.int xc), .val (.int xd), .val (.ref b401), .val (.ref b414), .val (.ref b457), .val (.int (3 : Int32)), .val (.ref r560)] [(.int (2 : Int32)), (.ref b457), (.int xd)]))
                  refine own_ldI X560 hx hZ rfl f565 (by decide) (by show (2 : Int32).toNatClampNeg < 4; decide) (hb hby at_529) ?_
                  show own_Fin _ _ _ _ _ _ _ (T560.setTop (mkF m 530 #[.val (.int p0), .val (.int p1), .val (.int p2), .val (.int (4 : Int32)), .val (.int xa), .val (.int xb), .val (.int xc), .val (.int xd), .val (.ref b401), .val (.ref b414), .val (.ref b457), .val (.int (3 : Int32)), .val (.ref r560)] [(.int xd), (.int xd)]))
                  refine own_go (fun _ kk => XS.icmpYes X560.here hx rfl (pc0 := 530) (pc' := 535) rfl (hb hby at_530) rfl (XT.ii_eq_t rfl) (by decide) (by decide) (XS.iload X560.here hx rfl (hb hby at_535) rfl (XS.iconst X560.here hx rfl (hb hby at_537) (XS.icmpYes X560.here hx rfl (pc0 := 538) (pc' := 554) rfl (hb hby at_538) rfl (XT.ii_le_t (by decide)) (by decide) (by decide) (XS.iconst X560.here hx rfl (hb hby at_554) kk))))) ?_
                  show own_Fin _ _ _ _ _ _ _ (T560.setTop (mkF m 555 #[.val (.int p0), .val (.int p1), .val (.int p2), .val (.int (4 : Int32)), .val (.int xa), .val (.int xb), .val (.int xc), .val (.int xd), .val (.ref b401), .val (.ref b414), .val (.ref b457), .val (.int (3 : Int32)), .val (.ref r560)] [(.int (1 : Int32))]))
                  exact own_retZ X560 hx hlk hret rfl (hb hby at_555) (by decide) (by decide) ⟨rfl, N560⟩
          · refine own_go (fun _ kk => XS.ifNo X457.here hx rfl (hb hby at_292) rfl (XT.i0_eq_f hc292) (XS.aload X457.here hx rfl (hb hby at_295) rfl rfl (XS.iload X457.here hx rfl (hb hby at_297) rfl (XS.iload X457.here hx rfl (hb hby at_299) rfl kk)))) ?_
            show own_Fin _ _ _ _ _ _ _ (T457.setTop (mkF m 301 #[.val (.int p0), .val (.int p1), .val (.int p2), .val (.int (4 : Int32)), .val (.int xa), .val (.int xb), .val (.int xc), .val (.int xd), .val (.ref b401), .val (.ref b414), .val (.ref b457), .val (.int (0 : Int32)), .unset] [(.int xa), (.int (0 : Int32)), (.ref b457)]))
            refine own_stI X457 hx hZ e457 A457 (by decide) (by show (0 : Int32).toNatClampNeg < 4; decide) (hb hby at_301) ?_
            intro T567 h567 X567 e567 W567 A567
            have f568 := f458.other W567 ne_b401_b457
            have f569 := f459.wr W567
            have f570 := f460.other W567 ne_b414_b457
            have f571 := f461.wr W567
            have f573 := D457.wr W567
            have Z567 := Nat.le_trans Z457 (Keep.of_wr W567).1
            have A567 : own_Ar Z h567 b457 .int (List.map Value.int [xa, (0 : Int32), (0 : Int32), (0 : Int32)]) := A567
            have N567 := Fr.snoc X567 N452 g_b457
            show own_Fin _ _ _ _ _ _ _ (T567.setTop (mkF m 302 #[.val (.int p0), .val (.int p1), .val (.int p2), .val (.int (4 : Int32)), .val (.int xa), .val (.int xb), .val (.int xc), .val (.int xd), .val (.ref b401), .val (.ref b414), .val (.ref b457), .val (.int (0 : Int32)), .unset] []))
            refine own_go (fun _ kk => XS.iinc X567.here hx rfl (hb hby at_302) rfl (l' := #[.val (.int p0), .val (.int p1), .val (.int p2), .val (.int (4 : Int32)), .val (.int xa), .val (.int xb), .val (.int xc), .val (.int xd), .val (.ref b401), .val (.ref b414), .val (.ref b457), .val (.int (1 : Int32)), .unset]) rfl (XS.iloadN X567.here hx rfl (hb hby at_305) rfl (XS.iconst X567.here hx rfl (hb hby at_306) (XS.icmpNo X567.here hx rfl (hb hby at_307) rfl (XT.ii_le_f (by decide)) (XS.aload X567.here hx rfl (hb hby at_310) rfl rfl (XS.iload X567.here hx rfl (hb hby at_312) rfl kk)))))) ?_
            show own_Fin _ _ _ _ _ _ _ (T567.setTop (mkF m 314 #[.val (.int p0), .val (.int p1), .val (.int p2), .val (.int (4 : Int32)), .val (.int xa), .val (.int xb), .val (.int xc), .val (.int xd), .val (.ref b401), .val (.ref b414), .val (.ref b457), .val (.int (1 : Int32)), .unset] [(.int xb), (.ref b414)]))
            refine own_ldZ X567 hx hZ e567 f570 sb.1 sb.2 (hb hby at_314) ?_
            show own_Fin _ _ _ _ _ _ _ (T567.setTop (mkF m 315 #[.val (.int p0), .val (.int p1), .val (.int p2), .val (.int (4 : Int32)), .val (.int xa), .val (.int xb), .val (.int xc), .val (.int xd), .val (.ref b401), .val (.ref b414), .val (.ref b457), .val (.int (1 : Int32)), .unset] [(.int (List.getD bs (xb).toNatClampNeg 0))]))
            by_cases hc315 : (List.getD bs (xb).toNatClampNeg 0) = 0
            · refine own_go (fun _ kk => XS.ifYes X567.here hx rfl (pc0 := 315) (pc' := 328) rfl (hb hby at_315) rfl (XT.i0_eq_t hc315) (by decide) (by decide) (XS.iloadN X567.here hx rfl (hb hby at_328) rfl (XS.iconst X567.here hx rfl (hb hby at_329) (XS.icmpNo X567.here hx rfl (hb hby at_330) rfl (XT.ii_le_f (by decide)) (XS.aload X567.here hx rfl (hb hby at_333) rfl rfl (XS.iload X567.here hx rfl (hb hby at_335) rfl kk)))))) ?_
              show own_Fin _ _ _ _ _ _ _ (T567.setTop (mkF m 337 #[.val (.int p0), .val (.int p1), .val (.int p2), .val (.int (4 : Int32)), .val (.int xa), .val (.int xb), .val (.int xc), .val (.int xd), .val (.ref b401), .val (.ref b414), .val (.ref b457), .val (.int (1 : Int32)), .unset] [(.int xc), (.ref b414)]))
              refine own_ldZ X567 hx hZ e567 f570 sc.1 sc.2 (hb hby at_337) ?_
              show own_Fin _ _ _ _ _ _ _ (T567.setTop (mkF m 338 #[.val (.int p0), .val (.int p1), .val (.int p2), .val (.int (4 : Int32)), .val (.int xa), .val (.int xb), .val (.int xc), .val (.int xd), .val (.ref b401), .val (.ref b414), .val (.ref b457), .val (.int (1 : Int32)), .unset] [(.int (List.getD bs (xc).toNatClampNeg 0))]))
              by_cases hc338 : (List.getD bs (xc).toNatClampNeg 0) = 0
              · refine own_go (fun _ kk => XS.ifYes X567.here hx rfl (pc0 := 338) (pc' := 351) rfl (hb hby at_338) rfl (XT.i0_eq_t hc338) (by decide) (by decide) (XS.iloadN X567.here hx rfl (hb hby at_351) rfl (XS.iconst X567.here hx rfl (hb hby at_352) (XS.icmpNo X567.here hx rfl (hb hby at_353) rfl (XT.ii_le_f (by decide)) (XS.aload X567.here hx rfl (hb hby at_356) rfl rfl (XS.iload X567.here hx rfl (hb hby at_358) rfl kk)))))) ?_
                show own_Fin _ _ _ _ _ _ _ (T567.setTop (mkF m 360 #[.val (.int p0), .val (.int p1), .val (.int p2), .val (.int (4 : Int32)), .val (.int xa), .val (.int xb), .val (.int xc), .val (.int xd), .val (.ref b401), .val (.ref b414), .val (.ref b457), .val (.int (1 : Int32)), .unset] [(.int xd), (.ref b414)]))
                refine own_ldZ X567 hx hZ e567 f570 sd.1 sd.2 (hb hby at_360) ?_
                show own_Fin _ _ _ _ _ _ _ (T567.setTop (mkF m 361 #[.val (.int p0), .val (.int p1), .val (.int p2), .val (.int (4 : Int32)), .val (.int xa), .val (.int xb), .val (.int xc), .val (.int xd), .val (.ref b401), .val (.ref b414), .val (.ref b457), .val (.int (1 : Int32)), .unset] [(.int (List.getD bs (xd).toNatClampNeg 0))]))
                by_cases hc361 : (List.getD bs (xd).toNatClampNeg 0) = 0
                · refine own_go (fun _ kk => XS.ifYes X567.here hx rfl (pc0 := 361) (pc' := 374) rfl (hb hby at_361) rfl (XT.i0_eq_t hc361) (by decide) (by decide) (XS.aload X567.here hx rfl (hb hby at_374) rfl rfl (XS.aload X567.here hx rfl (hb hby at_376) rfl rfl kk))) ?_
                  show own_Fin _ _ _ _ _ _ _ (T567.setTop (mkF m 378 #[.val (.int p0), .val (.int p1), .val (.int p2), .val (.int (4 : Int32)), .val (.int xa), .val (.int xb), .val (.int xc), .val (.int xd), .val (.ref b401), .val (.ref b414), .val (.ref b457), .val (.int (1 : Int32)), .unset] [(.ref b414), (.ref b401)]))
                  refine own_callS X567 hx hZ hown (hw _ (List.mem_of_getElem? (i := 7) rfl)) (hw _ (List.mem_of_getElem? (i := 8) rfl)) (hw _ (List.mem_of_getElem? (i := 9) rfl)) (hw _ (List.mem_of_getElem? (i := 10) rfl)) (by decide) (rm2 l Z a0 hw b401 b414 h567 n0 Z567 [xa, xb, xc, xd] bs f568 f570 (by show 4 ≤ 4; decide) (List.forall_mem_cons.mpr ⟨sa, (List.forall_mem_cons.mpr ⟨sb, (List.forall_mem_cons.mpr ⟨sc, (List.forall_mem_cons.mpr ⟨sd, (fun x h => nomatch h)⟩)⟩)⟩)⟩)) e567 (argsL := [(.ref b401), (.ref b414)]) (rest := []) rfl rfl (by rw [hml]; rfl) (lenOf pd_0_1 rfl) (hb hby at_378) (W := 0) (Nat.le_of_eq rfl) (by decide) (by decide) (by decide) (by decide) ?_
                  rintro v574 T574 L574 X574 ⟨r574, rfl, M574, Kc574, sz574, A574⟩
                  have N574 := Fr.app N567 M574
                  have ne574 : r574 ≠ b401 := Nat.ne_of_gt (Nat.lt_of_lt_of_le f568.lt sz574)
                  have f575 := f568.keep Kc574 nin0
                  have f576 := f569.keep Kc574
                  have f577 := f570.keep Kc574 nin0
                  have f578 := f571.keep Kc574
                  have f579 := A567.keep Kc574 nin0
                  have f580 := f573.keep Kc574
                  have Z574 := Nat.le_trans Z567 Kc574.1
                  have F574 : own_Ar Z T574.heap r574 .int (List.map Value.int [xa]) := by
                    rw [List.filter_cons_of_pos (show own_mk bs xa = true from decide_eq_true hc292), List.filter_cons_of_neg (by rw [show own_mk bs xb = false from decide_eq_false (fun q => q hc315)]; decide), List.filter_cons_of_neg (by rw [show own_mk bs xc = false from decide_eq_false (fun q => q hc338)]; decide), List.filter_cons_of_neg (by rw [show own_mk bs xd = false from decide_eq_false (fun q => q hc361)]; decide), List.filter_nil] at A574
                    exact A574
                  show own_Fin _ _ _ _ _ _ _ (T574.setTop (mkF m 381 #[.val (.int p0), .val (.int p1), .val (.int p2), .val (.int (4 : Int32)), .val (.int xa), .val (.int xb), .val (.int xc), .val (.int xd), .val (.ref b401), .val (.ref b414), .val (.ref b457), .val (.int (1 : Int32)), .unset] [(.ref r574)]))
                  refine own_go (fun _ kk => XS.astore X574.here hx rfl (hb hby at_381) rfl rfl (l' := #[.val (.int p0), .val (.int p1), .val (.int p2), .val (.int (4 : Int32)), .val (.int xa), .val (.int xb), .val (.int xc), .val (.int xd), .val (.ref b401), .val (.ref b414), .val (.ref b457), .val (.int (1 : Int32)), .val (.ref r574)]) rfl (XS.aload X574.here hx rfl (hb hby at_383) rfl rfl (XS.ifnullNo X574.here hx rfl (hb hby at_385) rfl (XS.aload X574.here hx rfl (hb hby at_388) rfl rfl (XS.aload X574.here hx rfl (hb hby at_390) rfl rfl (XT.acmpYes X574.here hx rfl (pc0 := 392) (pc' := 397) rfl (hb hby at_392) rfl rfl rfl (XT.aa_ne_t (fun q => ne574 (Value.ref.inj q))) (by decide) (by decide) (XS.aload X574.here hx rfl (hb hby at_397) rfl rfl kk))))))) ?_
                  show own_Fin _ _ _ _ _ _ _ (T574.setTop (mkF m 399 #[.val (.int p0), .val (.int p1), .val (.int p2), .val (.int (4 : Int32)), .val (.int xa), .val (.int xb), .val (.int xc), .val (.int xd), .val (.ref b401), .val (.ref b414), .val (.ref b457), .val (.int (1 : Int32)), .val (.ref r574)] [(.ref b401)]))
                  refine own_alen X574 hx hZ rfl f575 (hb hby at_399) ?_
                  show own_Fin _ _ _ _ _ _ _ (T574.setTop (mkF m 400 #[.val (.int p0), .val (.int p1), .val (.int p2), .val (.int (4 : Int32)), .val (.int xa), .val (.int xb), .val (.int xc), .val (.int xd), .val (.ref b401), .val (.ref b414), .val (.ref b457), .val (.int (1 : Int32)), .val (.ref r574)] [(.int (4 : Int32))]))
                  refine own_go (fun _ kk => XS.iloadN X574.here hx rfl (hb hby at_400) rfl (XS.icmpYes X574.here hx rfl (pc0 := 401) (pc' := 406) rfl (hb hby at_401) rfl (XT.ii_eq_t (by decide)) (by decide) (by decide) (XS.iloadN X574.here hx rfl (hb hby at_406) rfl (XS.ifNo X574.here hx rfl (hb hby at_407) rfl (XT.i0_le_f (by decide)) (XS.aload X574.here hx rfl (hb hby at_410) rfl rfl (XS.iconst X574.here hx rfl (hb hby at_412) kk)))))) ?_
                  show own_Fin _ _ _ _ _ _ _ (T574.setTop (mkF m 413 #[.val (.int p0), .val (.int p1), .val (.int p2), .val (.int (4 : Int32)), .val (.int xa), .val (.int xb), .val (.int xc), .val (.int xd), .val (.ref b401), .val (.ref b414), .val (.ref b457), .val (.int (1 : Int32)), .val (.ref r574)] [(.int (0 : Int32)), (.ref b401)]))
                  refine own_ldI X574 hx hZ rfl f575 (by decide) (by show (0 : Int32).toNatClampNeg < 4; decide) (hb hby at_413) ?_
                  show own_Fin _ _ _ _ _ _ _ (T574.setTop (mkF m 414 #[.val (.int p0), .val (.int p1), .val (.int p2), .val (.int (4 : Int32)), .val (.int xa), .val (.int xb), .val (.int xc), .val (.int xd), .val (.ref b401), .val (.ref b414), .val (.ref b457), .val (.int (1 : Int32)), .val (.ref r574)] [(.int xa)]))
                  refine own_go (fun _ kk => XS.iload X574.here hx rfl (hb hby at_414) rfl (XS.icmpYes X574.here hx rfl (pc0 := 416) (pc' := 421) rfl (hb hby at_416) rfl (XT.ii_eq_t rfl) (by decide) (by decide) (XS.iloadN X574.here hx rfl (hb hby at_421) rfl (XS.iconst X574.here hx rfl (hb hby at_422) (XS.icmpNo X574.here hx rfl (hb hby at_423) rfl (XT.ii_le_f (by decide)) (XS.aload X574.here hx rfl (hb hby at_426) rfl rfl (XS.iconst X574.here hx rfl (hb hby at_428) kk))))))) ?_
                  show own_Fin _ _ _ _ _ _ _ (T574.setTop (mkF m 429 #[.val (.int p0), .val (.int p1), .val (.int p2), .val (.int (4 : Int32)), .val (.int xa), .val (.int xb), .val (.int xc), .val (.int xd), .val (.ref b401), .val (.ref b414), .val (.ref b457), .val (.int (1 : Int32)), .val (.ref r574)] [(.int (1 : Int32)), (.ref b401)]))
                  refine own_ldI X574 hx hZ rfl f575 (by decide) (by show (1 : Int32).toNatClampNeg < 4; decide) (hb hby at_429) ?_
                  show own_Fin _ _ _ _ _ _ _ (T574.setTop (mkF m 430 #[.val (.int p0), .val (.int p1), .val (.int p2), .val (.int (4 : Int32)), .val (.int xa), .val (.int xb), .val (.int xc), .val (.int xd), .val (.ref b401), .val (.ref b414), .val (.ref b457), .val (.int (1 : Int32)), .val (.ref r574)] [(.int xb)]))
                  refine own_go (fun _ kk => XS.iload X574.here hx rfl (hb hby at_430) rfl (XS.icmpYes X574.here hx rfl (pc0 := 432) (pc' := 437) rfl (hb hby at_432) rfl (XT.ii_eq_t rfl) (by decide) (by decide) (XS.iloadN X574.here hx rfl (hb hby at_437) rfl (XS.iconst X574.here hx rfl (hb hby at_438) (XS.icmpNo X574.here hx rfl (hb hby at_439) rfl (XT.ii_le_f (by decide)) (XS.aload X574.here hx rfl (hb hby at_442) rfl rfl (XS.iconst X574.here hx rfl (hb hby at_444) kk))))))) ?_
                  show own_Fin _ _ _ _ _ _ _ (T574.setTop (mkF m 445 #[.val (.int p0), .val (.int p1), .val (.int p2), .val (.int (4 : Int32)), .val (.int xa), .val (.int xb), .val (.int xc), .val (.int xd), .val (.ref b401), .val (.ref b414), .val (.ref b457), .val (.int (1 : Int32)), .val (.ref r574)] [(.int (2 : Int32)), (.ref b401)]))
                  refine own_ldI X574 hx hZ rfl f575 (by decide) (by show (2 : Int32).toNatClampNeg < 4; decide) (hb hby at_445) ?_
                  show own_Fin _ _ _ _ _ _ _ (T574.setTop (mkF m 446 #[.val (.int p0), .val (.int p1), .val (.int p2), .val (.int (4 : Int32)), .val (.int xa), .val (.int xb), .val (.int xc), .val (.int xd), .val (.ref b401), .val (.ref b414), .val (.ref b457), .val (.int (1 : Int32)), .val (.ref r574)] [(.int xc)]))
                  refine own_go (fun _ kk => XS.iload X574.here hx rfl (hb hby at_446) rfl (XS.icmpYes X574.here hx rfl (pc0 := 448) (pc' := 453) rfl (hb hby at_448) rfl (XT.ii_eq_t rfl) (by decide) (by decide) (XS.iloadN X574.here hx rfl (hb hby at_453) rfl (XS.iconst X574.here hx rfl (hb hby at_454) (XS.icmpNo X574.here hx rfl (hb hby at_455) rfl (XT.ii_le_f (by decide)) (XS.aload X574.here hx rfl (hb hby at_458) rfl rfl (XS.iconst X574.here hx rfl (hb hby at_460) kk))))))) ?_
                  show own_Fin _ _ _ _ _ _ _ (T574.setTop (mkF m 461 #[.val (.int p0), .val (.int p1), .val (.int p2), .val (.int (4 : Int32)), .val (.int xa), .val (.int xb), .val (.int xc), .val (.int xd), .val (.ref b401), .val (.ref b414), .val (.ref b457), .val (.int (1 : Int32)), .val (.ref r574)] [(.int (3 : Int32)), (.ref b401)]))
                  refine own_ldI X574 hx hZ rfl f575 (by decide) (by show (3 : Int32).toNatClampNeg < 4; decide) (hb hby at_461) ?_
                  show own_Fin _ _ _ _ _ _ _ (T574.setTop (mkF m 462 #[.val (.int p0), .val (.int p1), .val (.int p2), .val (.int (4 : Int32)), .val (.int xa), .val (.int xb), .val (.int xc), .val (.int xd), .val (.ref b401), .val (.ref b414), .val (.ref b457), .val (.int (1 : Int32)), .val (.ref r574)] [(.int xd)]))
                  refine own_go (fun _ kk => XS.iload X574.here hx rfl (hb hby at_462) rfl (XS.icmpYes X574.here hx rfl (pc0 := 464) (pc' := 469) rfl (hb hby at_464) rfl (XT.ii_eq_t rfl) (by decide) (by decide) (XS.aload X574.here hx rfl (hb hby at_469) rfl rfl kk))) ?_
                  show own_Fin _ _ _ _ _ _ _ (T574.setTop (mkF m 471 #[.val (.int p0), .val (.int p1), .val (.int p2), .val (.int (4 : Int32)), .val (.int xa), .val (.int xb), .val (.int xc), .val (.int xd), .val (.ref b401), .val (.ref b414), .val (.ref b457), .val (.int (1 : Int32)), .val (.ref r574)] [(.ref r574)]))
                  refine own_alen X574 hx hZ rfl F574 (hb hby at_471) ?_
                  show own_Fin _ _ _ _ _ _ _ (T574.setTop (mkF m 472 #[.val (.int p0), .val (.int p1), .val (.int p2), .val (.int (4 : Int32)), .val (.int xa), .val (.int xb), .val (.int xc), .val (.int xd), .val (.ref b401), .val (.ref b414), .val (.ref b457), .val (.int (1 : Int32)), .val (.ref r574)] [(.int (1 : Int32))]))
                  refine own_go (fun _ kk => XS.iload X574.here hx rfl (hb hby at_472) rfl (XS.icmpYes X574.here hx rfl (pc0 := 474) (pc' := 479) rfl (hb hby at_474) rfl (XT.ii_eq_t (by decide)) (by decide) (by decide) (XS.iload X574.here hx rfl (hb hby at_479) rfl (XS.ifNo X574.here hx rfl (hb hby at_481) rfl (XT.i0_le_f (by decide)) (XS.aload X574.here hx rfl (hb hby at_484) rfl rfl (XS.iconst X574.here hx rfl (hb hby at_486) kk)))))) ?_
                  show own_Fin _ _ _ _ _ _ _ (T574.setTop (mkF m 487 #[.val (.int p0), .val (.int p1), .val (.int p2), .val (.int (4 : Int32)), .val (.int xa), .val (.int xb), .val (.int xc), .val (.int xd), .val (.ref b401), .val (.ref b414), .val (.ref b457), .val (.int (1 : Int32)), .val (.ref r574)] [(.int (0 : Int32)), (.ref r574)]))
                  refine own_ldI X574 hx hZ rfl F574 (by decide) (by show (0 : Int32).toNatClampNeg < 1; decide) (hb hby at_487) ?_
                  show own_Fin _ _ _ _ _ _ _ (T574.setTop (mkF m 488 #[.val (.int p0), .val (.int p1), .val (.int p2), .val (.int (4 : Int32)), .val (.int xa), .val (.int xb), .val (.int xc), .val (.int xd), .val (.ref b401), .val (.ref b414), .val (.ref b457), .val (.int (1 : Int32)), .val (.ref r574)] [(.int xa)]))
                  refine own_go (fun _ kk => XS.aload X574.here hx rfl (hb hby at_488) rfl rfl (XS.iconst X574.here hx rfl (hb hby at_490) kk)) ?_
                  show own_Fin _ _ _ _ _ _ _ (T574.setTop (mkF m 491 #[.val (.int p0), .val (.int p1), .val (.int p2), .val (.int (4 : Int32)), .val (.int xa), .val (.int xb), .val (.int xc), .val (.int xd), .val (.ref b401), .val (.ref b414), .val (.ref b457), .val (.int (1 : Int32)), .val (.ref r574)] [(.int (0 : Int32)), (.ref b457), (.int xa)]))
                  refine own_ldI X574 hx hZ rfl f579 (by decide) (by show (0 : Int32).toNatClampNeg < 4; decide) (hb hby at_491) ?_
                  show own_Fin _ _ _ _ _ _ _ (T574.setTop (mkF m 492 #[.val (.int p0), .val (.int p1), .val (.int p2), .val (.int (4 : Int32)), .val (.int xa), .val (.int xb), .val (.int xc), .val (.int xd), .val (.ref b401), .val (.ref b414), .val (.ref b457), .val (.int (1 : Int32)), .val (.ref r574)] [(.int xa), (.int xa)]))
                  refine own_go (fun _ kk => XS.icmpYes X574.here hx rfl (pc0 := 492) (pc' := 497) rfl (hb hby at_492) rfl (XT.ii_eq_t rfl) (by decide) (by decide) (XS.iload X574.here hx rfl (hb hby at_497) rfl (XS.iconst X574.here hx rfl (hb hby at_499) (XS.icmpYes X574.here hx rfl (pc0 := 500) (pc' := 516) rfl (hb hby at_500) rfl (XT.ii_le_t (by decide)) (by decide) (by decide) (XS.iload X574.here hx rfl (hb hby at_516) rfl (XS.iconst X574.here hx rfl (hb hby at_518) (XS.icmpYes X574.here hx rfl (pc0 := 519) (pc' := 535) rfl (hb hby at_519) rfl (XT.ii_le_t (by decide)) (by decide) (by decide) (XS.iload X574.here hx rfl (hb hby at_535) rfl (XS.iconst X574.here hx rfl (hb hby at_537) (XS.icmpYes X574.here hx rfl (pc0 := 538) (pc' := 554) rfl (hb hby at_538) rfl (XT.ii_le_t (by decide)) (by decide) (by decide) kk)))))))))) ?_
                  show own_Fin _ _ _ _ _ _ _ (T574.setTop (mkF m 554 #[.val (.int p0), .val (.int p1), .val (.int p2), .val (.int (4 : Int32)), .val (.int xa), .val (.int xb), .val (.int xc), .val (.int xd), .val (.ref b401), .val (.ref b414), .val (.ref b457), .val (.int (1 : Int32)), .val (.ref r574)] []))
                  refine own_go (fun _ kk => XS.iconst X574.here hx rfl (hb hby at_554) kk) ?_
                  show own_Fin _ _ _ _ _ _ _ (T574.setTop (mkF m 555 #[.val (.int p0), .val (.int p1), .val (.int p2), .val (.int (4 : Int32)), .val (.int xa), .val (.int xb), .val (.int xc), .val (.int xd), .val (.ref b401), .val (.ref b414), .val (.ref b457), .val (.int (1 : Int32)), .val (.ref r574)] [(.int (1 : Int32))]))
                  exact own_retZ X574 hx hlk hret rfl (hb hby at_555) (by decide) (by decide) ⟨rfl, N574⟩
                · refine own_go (fun _ kk => XS.ifNo X567.here hx rfl (hb hby at_361) rfl (XT.i0_eq_f hc361) (XS.aload X567.here hx rfl (hb hby at_364) rfl rfl (XS.iload X567.here hx rfl (hb hby at_366) rfl (XS.iload X567.here hx rfl (hb hby at_368) rfl kk)))) ?_
                  show own_Fin _ _ _ _ _ _ _ (T567.setTop (mkF m 370 #[.val (.int p0), .val (.int p1), .val (.int p2), .val (.int (4 : Int32)), .val (.int xa), .val (.int xb), .val (.int xc), .val (.int xd), .val (.ref b401), .val (.ref b414), .val (.ref b457), .val (.int (1 : Int32)), .unset] [(.int xd), (.int (1 : Int32)), (.ref b457)]))
                  refine own_stI X567 hx hZ e567 A567 (by decide) (by show (1 : Int32).toNatClampNeg < 4; decide) (hb hby at_370) ?_
                  intro T581 h581 X581 e581 W581 A581
                  have f582 := f568.other W581 ne_b401_b457
                  have f583 := f569.wr W581
                  have f584 := f570.other W581 ne_b414_b457
                  have f585 := f571.wr W581
                  have f587 := f573.wr W581
                  have Z581 := Nat.le_trans Z567 (Keep.of_wr W581).1
                  have A581 : own_Ar Z h581 b457 .int (List.map Value.int [xa, xd, (0 : Int32), (0 : Int32)]) := A581
                  have N581 := Fr.snoc X581 N567 g_b457
                  show own_Fin _ _ _ _ _ _ _ (T581.setTop (mkF m 371 #[.val (.int p0), .val (.int p1), .val (.int p2), .val (.int (4 : Int32)), .val (.int xa), .val (.int xb), .val (.int xc), .val (.int xd), .val (.ref b401), .val (.ref b414), .val (.ref b457), .val (.int (1 : Int32)), .unset] []))
                  refine own_go (fun _ kk => XS.iinc X581.here hx rfl (hb hby at_371) rfl (l' := #[.val (.int p0), .val (.int p1), .val (.int p2), .val (.int (4 : Int32)), .val (.int xa), .val (.int xb), .val (.int xc), .val (.int xd), .val (.ref b401), .val (.ref b414), .val (.ref b457), .val (.int (2 : Int32)), .unset]) rfl (XS.aload X581.here hx rfl (hb hby at_374) rfl rfl (XS.aload X581.here hx rfl (hb hby at_376) rfl rfl kk))) ?_
                  show own_Fin _ _ _ _ _ _ _ (T581.setTop (mkF m 378 #[.val (.int p0), .val (.int p1), .val (.int p2), .val (.int (4 : Int32)), .val (.int xa), .val (.int xb), .val (.int xc), .val (.int xd), .val (.ref b401), .val (.ref b414), .val (.ref b457), .val (.int (2 : Int32)), .unset] [(.ref b414), (.ref b401)]))
                  refine own_callS X581 hx hZ hown (hw _ (List.mem_of_getElem? (i := 7) rfl)) (hw _ (List.mem_of_getElem? (i := 8) rfl)) (hw _ (List.mem_of_getElem? (i := 9) rfl)) (hw _ (List.mem_of_getElem? (i := 10) rfl)) (by decide) (rm2 l Z a0 hw b401 b414 h581 n0 Z581 [xa, xb, xc, xd] bs f582 f584 (by show 4 ≤ 4; decide) (List.forall_mem_cons.mpr ⟨sa, (List.forall_mem_cons.mpr ⟨sb, (List.forall_mem_cons.mpr ⟨sc, (List.forall_mem_cons.mpr ⟨sd, (fun x h => nomatch h)⟩)⟩)⟩)⟩)) e581 (argsL := [(.ref b401), (.ref b414)]) (rest := []) rfl rfl (by rw [hml]; rfl) (lenOf pd_0_1 rfl) (hb hby at_378) (W := 0) (Nat.le_of_eq rfl) (by decide) (by decide) (by decide) (by decide) ?_
                  rintro v588 T588 L588 X588 ⟨r588, rfl, M588, Kc588, sz588, A588⟩
                  have N588 := Fr.app N581 M588
                  have ne588 : r588 ≠ b401 := Nat.ne_of_gt (Nat.lt_of_lt_of_le f582.lt sz588)
                  have f589 := f582.keep Kc588 nin0
                  have f590 := f583.keep Kc588
                  have f591 := f584.keep Kc588 nin0
                  have f592 := f585.keep Kc588
                  have f593 := A581.keep Kc588 nin0
                  have f594 := f587.keep Kc588
                  have Z588 := Nat.le_trans Z581 Kc588.1
                  have F588 : own_Ar Z T588.heap r588 .int (List.map Value.int [xa, xd]) := by
                    rw [List.filter_cons_of_pos (show own_mk bs xa = true from decide_eq_true hc292), List.filter_cons_of_neg (by rw [show own_mk bs xb = false from decide_eq_false (fun q => q hc315)]; decide), List.filter_cons_of_neg (by rw [show own_mk bs xc = false from decide_eq_false (fun q => q hc338)]; decide), List.filter_cons_of_pos (show own_mk bs xd = true from decide_eq_true hc361), List.filter_nil] at A588
                    exact A588
                  show own_Fin _ _ _ _ _ _ _ (T588.setTop (mkF m 381 #[.val (.int p0), .val (.int p1), .val (.int p2), .val (.int (4 : Int32)), .val (.int xa), .val (.int xb), .val (.int xc), .val (.int xd), .val (.ref b401), .val (.ref b414), .val (.ref b457), .val (.int (2 : Int32)), .unset] [(.ref r588)]))
                  refine own_go (fun _ kk => XS.astore X588.here hx rfl (hb hby at_381) rfl rfl (l' := #[.val (.int p0), .val (.int p1), .val (.int p2), .val (.int (4 : Int32)), .val (.int xa), .val (.int xb), .val (.int xc), .val (.int xd), .val (.ref b401), .val (.ref b414), .val (.ref b457), .val (.int (2 : Int32)), .val (.ref r588)]) rfl (XS.aload X588.here hx rfl (hb hby at_383) rfl rfl (XS.ifnullNo X588.here hx rfl (hb hby at_385) rfl (XS.aload X588.here hx rfl (hb hby at_388) rfl rfl (XS.aload X588.here hx rfl (hb hby at_390) rfl rfl (XT.acmpYes X588.here hx rfl (pc0 := 392) (pc' := 397) rfl (hb hby at_392) rfl rfl rfl (XT.aa_ne_t (fun q => ne588 (Value.ref.inj q))) (by decide) (by decide) (XS.aload X588.here hx rfl (hb hby at_397) rfl rfl kk))))))) ?_
                  show own_Fin _ _ _ _ _ _ _ (T588.setTop (mkF m 399 #[.val (.int p0), .val (.int p1), .val (.int p2), .val (.int (4 : Int32)), .val (.int xa), .val (.int xb), .val (.int xc), .val (.int xd), .val (.ref b401), .val (.ref b414), .val (.ref b457), .val (.int (2 : Int32)), .val (.ref r588)] [(.ref b401)]))
                  refine own_alen X588 hx hZ rfl f589 (hb hby at_399) ?_
                  show own_Fin _ _ _ _ _ _ _ (T588.setTop (mkF m 400 #[.val (.int p0), .val (.int p1), .val (.int p2), .val (.int (4 : Int32)), .val (.int xa), .val (.int xb), .val (.int xc), .val (.int xd), .val (.ref b401), .val (.ref b414), .val (.ref b457), .val (.int (2 : Int32)), .val (.ref r588)] [(.int (4 : Int32))]))
                  refine own_go (fun _ kk => XS.iloadN X588.here hx rfl (hb hby at_400) rfl (XS.icmpYes X588.here hx rfl (pc0 := 401) (pc' := 406) rfl (hb hby at_401) rfl (XT.ii_eq_t (by decide)) (by decide) (by decide) (XS.iloadN X588.here hx rfl (hb hby at_406) rfl (XS.ifNo X588.here hx rfl (hb hby at_407) rfl (XT.i0_le_f (by decide)) (XS.aload X588.here hx rfl (hb hby at_410) rfl rfl (XS.iconst X588.here hx rfl (hb hby at_412) kk)))))) ?_
                  show own_Fin _ _ _ _ _ _ _ (T588.setTop (mkF m 413 #[.val (.int p0), .val (.int p1), .val (.int p2), .val (.int (4 : Int32)), .val (.int xa), .val (.int xb), .val (.int xc), .val (.int xd), .val (.ref b401), .val (.ref b414), .val (.ref b457), .val (.int (2 : Int32)), .val (.ref r588)] [(.int (0 : Int32)), (.ref b401)]))
                  refine own_ldI X588 hx hZ rfl f589 (by decide) (by show (0 : Int32).toNatClampNeg < 4; decide) (hb hby at_413) ?_
                  show own_Fin _ _ _ _ _ _ _ (T588.setTop (mkF m 414 #[.val (.int p0), .val (.int p1), .val (.int p2), .val (.int (4 : Int32)), .val (.int xa), .val (.int xb), .val (.int xc), .val (.int xd), .val (.ref b401), .val (.ref b414), .val (.ref b457), .val (.int (2 : Int32)), .val (.ref r588)] [(.int xa)]))
                  refine own_go (fun _ kk => XS.iload X588.here hx rfl (hb hby at_414) rfl (XS.icmpYes X588.here hx rfl (pc0 := 416) (pc' := 421) rfl (hb hby at_416) rfl (XT.ii_eq_t rfl) (by decide) (by decide) (XS.iloadN X588.here hx rfl (hb hby at_421) rfl (XS.iconst X588.here hx rfl (hb hby at_422) (XS.icmpNo X588.here hx rfl (hb hby at_423) rfl (XT.ii_le_f (by decide)) (XS.aload X588.here hx rfl (hb hby at_426) rfl rfl (XS.iconst X588.here hx rfl (hb hby at_428) kk))))))) ?_
                  show own_Fin _ _ _ _ _ _ _ (T588.setTop (mkF m 429 #[.val (.int p0), .val (.int p1), .val (.int p2), .val (.int (4 : Int32)), .val (.int xa), .val (.int xb), .val (.int xc), .val (.int xd), .val (.ref b401), .val (.ref b414), .val (.ref b457), .val (.int (2 : Int32)), .val (.ref r588)] [(.int (1 : Int32)), (.ref b401)]))
                  refine own_ldI X588 hx hZ rfl f589 (by decide) (by show (1 : Int32).toNatClampNeg < 4; decide) (hb hby at_429) ?_
                  show own_Fin _ _ _ _ _ _ _ (T588.setTop (mkF m 430 #[.val (.int p0), .val (.int p1), .val (.int p2), .val (.int (4 : Int32)), .val (.int xa), .val (.int xb), .val (.int xc), .val (.int xd), .val (.ref b401), .val (.ref b414), .val (.ref b457), .val (.int (2 : Int32)), .val (.ref r588)] [(.int xb)]))
                  refine own_go (fun _ kk => XS.iload X588.here hx rfl (hb hby at_430) rfl (XS.icmpYes X588.here hx rfl (pc0 := 432) (pc' := 437) rfl (hb hby at_432) rfl (XT.ii_eq_t rfl) (by decide) (by decide) (XS.iloadN X588.here hx rfl (hb hby at_437) rfl (XS.iconst X588.here hx rfl (hb hby at_438) (XS.icmpNo X588.here hx rfl (hb hby at_439) rfl (XT.ii_le_f (by decide)) (XS.aload X588.here hx rfl (hb hby at_442) rfl rfl (XS.iconst X588.here hx rfl (hb hby at_444) kk))))))) ?_
                  show own_Fin _ _ _ _ _ _ _ (T588.setTop (mkF m 445 #[.val (.int p0), .val (.int p1), .val (.int p2), .val (.int (4 : Int32)), .val (.int xa), .val (.int xb), .val (.int xc), .val (.int xd), .val (.ref b401), .val (.ref b414), .val (.ref b457), .val (.int (2 : Int32)), .val (.ref r588)] [(.int (2 : Int32)), (.ref b401)]))
                  refine own_ldI X588 hx hZ rfl f589 (by decide) (by show (2 : Int32).toNatClampNeg < 4; decide) (hb hby at_445) ?_
                  show own_Fin _ _ _ _ _ _ _ (T588.setTop (mkF m 446 #[.val (.int p0), .val (.int p1), .val (.int p2), .val (.int (4 : Int32)), .val (.int xa), .val (.int xb), .val (.int xc), .val (.int xd), .val (.ref b401), .val (.ref b414), .val (.ref b457), .val (.int (2 : Int32)), .val (.ref r588)] [(.int xc)]))
                  refine own_go (fun _ kk => XS.iload X588.here hx rfl (hb hby at_446) rfl (XS.icmpYes X588.here hx rfl (pc0 := 448) (pc' := 453) rfl (hb hby at_448) rfl (XT.ii_eq_t rfl) (by decide) (by decide) (XS.iloadN X588.here hx rfl (hb hby at_453) rfl (XS.iconst X588.here hx rfl (hb hby at_454) (XS.icmpNo X588.here hx rfl (hb hby at_455) rfl (XT.ii_le_f (by decide)) (XS.aload X588.here hx rfl (hb hby at_458) rfl rfl (XS.iconst X588.here hx rfl (hb hby at_460) kk))))))) ?_
                  show own_Fin _ _ _ _ _ _ _ (T588.setTop (mkF m 461 #[.val (.int p0), .val (.int p1), .val (.int p2), .val (.int (4 : Int32)), .val (.int xa), .val (.int xb), .val (.int xc), .val (.int xd), .val (.ref b401), .val (.ref b414), .val (.ref b457), .val (.int (2 : Int32)), .val (.ref r588)] [(.int (3 : Int32)), (.ref b401)]))
                  refine own_ldI X588 hx hZ rfl f589 (by decide) (by show (3 : Int32).toNatClampNeg < 4; decide) (hb hby at_461) ?_
                  show own_Fin _ _ _ _ _ _ _ (T588.setTop (mkF m 462 #[.val (.int p0), .val (.int p1), .val (.int p2), .val (.int (4 : Int32)), .val (.int xa), .val (.int xb), .val (.int xc), .val (.int xd), .val (.ref b401), .val (.ref b414), .val (.ref b457), .val (.int (2 : Int32)), .val (.ref r588)] [(.int xd)]))
                  refine own_go (fun _ kk => XS.iload X588.here hx rfl (hb hby at_462) rfl (XS.icmpYes X588.here hx rfl (pc0 := 464) (pc' := 469) rfl (hb hby at_464) rfl (XT.ii_eq_t rfl) (by decide) (by decide) (XS.aload X588.here hx rfl (hb hby at_469) rfl rfl kk))) ?_
                  show own_Fin _ _ _ _ _ _ _ (T588.setTop (mkF m 471 #[.val (.int p0), .val (.int p1), .val (.int p2), .val (.int (4 : Int32)), .val (.int xa), .val (.int xb), .val (.int xc), .val (.int xd), .val (.ref b401), .val (.ref b414), .val (.ref b457), .val (.int (2 : Int32)), .val (.ref r588)] [(.ref r588)]))
                  refine own_alen X588 hx hZ rfl F588 (hb hby at_471) ?_
                  show own_Fin _ _ _ _ _ _ _ (T588.setTop (mkF m 472 #[.val (.int p0), .val (.int p1), .val (.int p2), .val (.int (4 : Int32)), .val (.int xa), .val (.int xb), .val (.int xc), .val (.int xd), .val (.ref b401), .val (.ref b414), .val (.ref b457), .val (.int (2 : Int32)), .val (.ref r588)] [(.int (2 : Int32))]))
                  refine own_go (fun _ kk => XS.iload X588.here hx rfl (hb hby at_472) rfl (XS.icmpYes X588.here hx rfl (pc0 := 474) (pc' := 479) rfl (hb hby at_474) rfl (XT.ii_eq_t (by decide)) (by decide) (by decide) (XS.iload X588.here hx rfl (hb hby at_479) rfl (XS.ifNo X588.here hx rfl (hb hby at_481) rfl (XT.i0_le_f (by decide)) (XS.aload X588.here hx rfl (hb hby at_484) rfl rfl (XS.iconst X588.here hx rfl (hb hby at_486) kk)))))) ?_
                  show own_Fin _ _ _ _ _ _ _ (T588.setTop (mkF m 487 #[.val (.int p0), .val (.int p1), .val (.int p2), .val (.int (4 : Int32)), .val (.int xa), .val (.int xb), .val (.int xc), .val (.int xd), .val (.ref b401), .val (.ref b414), .val (.ref b457), .val (.int (2 : Int32)), .val (.ref r588)] [(.int (0 : Int32)), (.ref r588)]))
                  refine own_ldI X588 hx hZ rfl F588 (by decide) (by show (0 : Int32).toNatClampNeg < 2; decide) (hb hby at_487) ?_
                  show own_Fin _ _ _ _ _ _ _ (T588.setTop (mkF m 488 #[.val (.int p0), .val (.int p1), .val (.int p2), .val (.int (4 : Int32)), .val (.int xa), .val (.int xb), .val (.int xc), .val (.int xd), .val (.ref b401), .val (.ref b414), .val (.ref b457), .val (.int (2 : Int32)), .val (.ref r588)] [(.int xa)]))
                  refine own_go (fun _ kk => XS.aload X588.here hx rfl (hb hby at_488) rfl rfl (XS.iconst X588.here hx rfl (hb hby at_490) kk)) ?_
                  show own_Fin _ _ _ _ _ _ _ (T588.setTop (mkF m 491 #[.val (.int p0), .val (.int p1), .val (.int p2), .val (.int (4 : Int32)), .val (.int xa), .val (.int xb), .val (.int xc), .val (.int xd), .val (.ref b401), .val (.ref b414), .val (.ref b457), .val (.int (2 : Int32)), .val (.ref r588)] [(.int (0 : Int32)), (.ref b457), (.int xa)]))
                  refine own_ldI X588 hx hZ rfl f593 (by decide) (by show (0 : Int32).toNatClampNeg < 4; decide) (hb hby at_491) ?_
                  show own_Fin _ _ _ _ _ _ _ (T588.setTop (mkF m 492 #[.val (.int p0), .val (.int p1), .val (.int p2), .val (.int (4 : Int32)), .val (.int xa), .val (.int xb), .val (.int xc), .val (.int xd), .val (.ref b401), .val (.ref b414), .val (.ref b457), .val (.int (2 : Int32)), .val (.ref r588)] [(.int xa), (.int xa)]))
                  refine own_go (fun _ kk => XS.icmpYes X588.here hx rfl (pc0 := 492) (pc' := 497) rfl (hb hby at_492) rfl (XT.ii_eq_t rfl) (by decide) (by decide) (XS.iload X588.here hx rfl (hb hby at_497) rfl (XS.iconst X588.here hx rfl (hb hby at_499) (XS.icmpNo X588.here hx rfl (hb hby at_500) rfl (XT.ii_le_f (by decide)) (XS.aload X588.here hx rfl (hb hby at_503) rfl rfl (XS.iconst X588.here hx rfl (hb hby at_505) kk)))))) ?_
                  show own_Fin _ _ _ _ _ _ _ (T588.setTop (mkF m 506 #[.val (.int p0), .val (.int p1), .val (.int p2), .val (.int (4 : Int32)), .val (.int xa), .val (.int xb), .val (.int xc), .val (.int xd), .val (.ref b401), .val (.ref b414), .val (.ref b457), .val (.int (2 : Int32)), .val (.ref r588)] [(.int (1 : Int32)), (.ref r588)]))
                  refine own_ldI X588 hx hZ rfl F588 (by decide) (by show (1 : Int32).toNatClampNeg < 2; decide) (hb hby at_506) ?_
                  show own_Fin _ _ _ _ _ _ _ (T588.setTop (mkF m 507 #[.val (.int p0), .val (.int p1), .val (.int p2), .val (.int (4 : Int32)), .val (.int xa), .val (.int xb), .val (.int xc), .val (.int xd), .val (.ref b401), .val (.ref b414), .val (.ref b457), .val (.int (2 : Int32)), .val (.ref r588)] [(.int xd)]))
                  refine own_go (fun _ kk => XS.aload X588.here hx rfl (hb hby at_507) rfl rfl (XS.iconst X588.here hx rfl (hb hby at_509) kk)) ?_
                  show own_Fin _ _ _ _ _ _ _ (T588.setTop (mkF m 510 #[.val (.int p0), .val (.int p1), .val (.int p2), .val (.int (4 : Int32)), .val (.int xa), .val (.int xb), .val (.int xc), .val (.int xd), .val (.ref b401), .val (.ref b414), .val (.ref b457), .val (.int (2 : Int32)), .val (.ref r588)] [(.int (1 : Int32)), (.ref b457), (.int xd)]))
                  refine own_ldI X588 hx hZ rfl f593 (by decide) (by show (1 : Int32).toNatClampNeg < 4; decide) (hb hby at_510) ?_
                  show own_Fin _ _ _ _ _ _ _ (T588.setTop (mkF m 511 #[.val (.int p0), .val (.int p1), .val (.int p2), .val (.int (4 : Int32)), .val (.int xa), .val (.int xb), .val (.int xc), .val (.int xd), .val (.ref b401), .val (.ref b414), .val (.ref b457), .val (.int (2 : Int32)), .val (.ref r588)] [(.int xd), (.int xd)]))
                  refine own_go (fun _ kk => XS.icmpYes X588.here hx rfl (pc0 := 511) (pc' := 516) rfl (hb hby at_511) rfl (XT.ii_eq_t rfl) (by decide) (by decide) (XS.iload X588.here hx rfl (hb hby at_516) rfl (XS.iconst X588.here hx rfl (hb hby at_518) (XS.icmpYes X588.here hx rfl (pc0 := 519) (pc' := 535) rfl (hb hby at_519) rfl (XT.ii_le_t (by decide)) (by decide) (by decide) (XS.iload X588.here hx rfl (hb hby at_535) rfl (XS.iconst X588.here hx rfl (hb hby at_537) (XS.icmpYes X588.here hx rfl (pc0 := 538) (pc' := 554) rfl (hb hby at_538) rfl (XT.ii_le_t (by decide)) (by decide) (by decide) (XS.iconst X588.here hx rfl (hb hby at_554) kk)))))))) ?_
                  show own_Fin _ _ _ _ _ _ _ (T588.setTop (mkF m 555 #[.val (.int p0), .val (.int p1), .val (.int p2), .val (.int (4 : Int32)), .val (.int xa), .val (.int xb), .val (.int xc), .val (.int xd), .val (.ref b401), .val (.ref b414), .val (.ref b457), .val (.int (2 : Int32)), .val (.ref r588)] [(.int (1 : Int32))]))
                  exact own_retZ X588 hx hlk hret rfl (hb hby at_555) (by decide) (by decide) ⟨rfl, N588⟩
              · refine own_go (fun _ kk => XS.ifNo X567.here hx rfl (hb hby at_338) rfl (XT.i0_eq_f hc338) (XS.aload X567.here hx rfl (hb hby at_341) rfl rfl (XS.iload X567.here hx rfl (hb hby at_343) rfl (XS.iload X567.here hx rfl (hb hby at_345) rfl kk)))) ?_
                show own_Fin _ _ _ _ _ _ _ (T567.setTop (mkF m 347 #[.val (.int p0), .val (.int p1), .val (.int p2), .val (.int (4 : Int32)), .val (.int xa), .val (.int xb), .val (.int xc), .val (.int xd), .val (.ref b401), .val (.ref b414), .val (.ref b457), .val (.int (1 : Int32)), .unset] [(.int xc), (.int (1 : Int32)), (.ref b457)]))
                refine own_stI X567 hx hZ e567 A567 (by decide) (by show (1 : Int32).toNatClampNeg < 4; decide) (hb hby at_347) ?_
                intro T595 h595 X595 e595 W595 A595
                have f596 := f568.other W595 ne_b401_b457
                have f597 := f569.wr W595
                have f598 := f570.other W595 ne_b414_b457
                have f599 := f571.wr W595
                have f601 := f573.wr W595
                have Z595 := Nat.le_trans Z567 (Keep.of_wr W595).1
                have A595 : own_Ar Z h595 b457 .int (List.map Value.int [xa, xc, (0 : Int32), (0 : Int32)]) := A595
                have N595 := Fr.snoc X595 N567 g_b457
                show own_Fin _ _ _ _ _ _ _ (T595.setTop (mkF m 348 #[.val (.int p0), .val (.int p1), .val (.int p2), .val (.int (4 : Int32)), .val (.int xa), .val (.int xb), .val (.int xc), .val (.int xd), .val (.ref b401), .val (.ref b414), .val (.ref b457), .val (.int (1 : Int32)), .unset] []))
                refine own_go (fun _ kk => XS.iinc X595.here hx rfl (hb hby at_348) rfl (l' := #[.val (.int p0), .val (.int p1), .val (.int p2), .val (.int (4 : Int32)), .val (.int xa), .val (.int xb), .val (.int xc), .val (.int xd), .val (.ref b401), .val (.ref b414), .val (.ref b457), .val (.int (2 : Int32)), .unset]) rfl (XS.iloadN X595.here hx rfl (hb hby at_351) rfl (XS.iconst X595.here hx rfl (hb hby at_352) (XS.icmpNo X595.here hx rfl (hb hby at_353) rfl (XT.ii_le_f (by decide)) (XS.aload X595.here hx rfl (hb hby at_356) rfl rfl (XS.iload X595.here hx rfl (hb hby at_358) rfl kk)))))) ?_
                show own_Fin _ _ _ _ _ _ _ (T595.setTop (mkF m 360 #[.val (.int p0), .val (.int p1), .val (.int p2), .val (.int (4 : Int32)), .val (.int xa), .val (.int xb), .val (.int xc), .val (.int xd), .val (.ref b401), .val (.ref b414), .val (.ref b457), .val (.int (2 : Int32)), .unset] [(.int xd), (.ref b414)]))
                refine own_ldZ X595 hx hZ e595 f598 sd.1 sd.2 (hb hby at_360) ?_
                show own_Fin _ _ _ _ _ _ _ (T595.setTop (mkF m 361 #[.val (.int p0), .val (.int p1), .val (.int p2), .val (.int (4 : Int32)), .val (.int xa), .val (.int xb), .val (.int xc), .val (.int xd), .val (.ref b401), .val (.ref b414), .val (.ref b457), .val (.int (2 : Int32)), .unset] [(.int (List.getD bs (xd).toNatClampNeg 0))]))
                by_cases hc361 : (List.getD bs (xd).toNatClampNeg 0) = 0
                · refine own_go (fun _ kk => XS.ifYes X595.here hx rfl (pc0 := 361) (pc' := 374) rfl (hb hby at_361) rfl (XT.i0_eq_t hc361) (by decide) (by decide) (XS.aload X595.here hx rfl (hb hby at_374) rfl rfl (XS.aload X595.here hx rfl (hb hby at_376) rfl rfl kk))) ?_
                  show own_Fin _ _ _ _ _ _ _ (T595.setTop (mkF m 378 #[.val (.int p0), .val (.int p1), .val (.int p2), .val (.int (4 : Int32)), .val (.int xa), .val (.int xb), .val (.int xc), .val (.int xd), .val (.ref b401), .val (.ref b414), .val (.ref b457), .val (.int (2 : Int32)), .unset] [(.ref b414), (.ref b401)]))
                  refine own_callS X595 hx hZ hown (hw _ (List.mem_of_getElem? (i := 7) rfl)) (hw _ (List.mem_of_getElem? (i := 8) rfl)) (hw _ (List.mem_of_getElem? (i := 9) rfl)) (hw _ (List.mem_of_getElem? (i := 10) rfl)) (by decide) (rm2 l Z a0 hw b401 b414 h595 n0 Z595 [xa, xb, xc, xd] bs f596 f598 (by show 4 ≤ 4; decide) (List.forall_mem_cons.mpr ⟨sa, (List.forall_mem_cons.mpr ⟨sb, (List.forall_mem_cons.mpr ⟨sc, (List.forall_mem_cons.mpr ⟨sd, (fun x h => nomatch h)⟩)⟩)⟩)⟩)) e595 (argsL := [(.ref b401), (.ref b414)]) (rest := []) rfl rfl (by rw [hml]; rfl) (lenOf pd_0_1 rfl) (hb hby at_378) (W := 0) (Nat.le_of_eq rfl) (by decide) (by decide) (by decide) (by decide) ?_
                  rintro v602 T602 L602 X602 ⟨r602, rfl, M602, Kc602, sz602, A602⟩
                  have N602 := Fr.app N595 M602
                  have ne602 : r602 ≠ b401 := Nat.ne_of_gt (Nat.lt_of_lt_of_le f596.lt sz602)
                  have f603 := f596.keep Kc602 nin0
                  have f604 := f597.keep Kc602
                  have f605 := f598.keep Kc602 nin0
                  have f606 := f599.keep Kc602
                  have f607 := A595.keep Kc602 nin0
                  have f608 := f601.keep Kc602
                  have Z602 := Nat.le_trans Z595 Kc602.1
                  have F602 : own_Ar Z T602.heap r602 .int (List.map Value.int [xa, xc]) := by
                    rw [List.filter_cons_of_pos (show own_mk bs xa = true from decide_eq_true hc292), List.filter_cons_of_neg (by rw [show own_mk bs xb = false from decide_eq_false (fun q => q hc315)]; decide), List.filter_cons_of_pos (show own_mk bs xc = true from decide_eq_true hc338), List.filter_cons_of_neg (by rw [show own_mk bs xd = false from decide_eq_false (fun q => q hc361)]; decide), List.filter_nil] at A602
                    exact A602
                  show own_Fin _ _ _ _ _ _ _ (T602.setTop (mkF m 381 #[.val (.int p0), .val (.int p1), .val (.int p2), .val (.int (4 : Int32)), .val (.int xa), .val (.int xb), .val (.int xc), .val (.int xd), .val (.ref b401), .val (.ref b414), .val (.ref b457), .val (.int (2 : Int32)), .unset] [(.ref r602)]))
                  refine own_go (fun _ kk => XS.astore X602.here hx rfl (hb hby at_381) rfl rfl (l' := #[.val (.int p0), .val (.int p1), .val (.int p2), .val (.int (4 : Int32)), .val (.int xa), .val (.int xb), .val (.int xc), .val (.int xd), .val (.ref b401), .val (.ref b414), .val (.ref b457), .val (.int (2 : Int32)), .val (.ref r602)]) rfl (XS.aload X602.here hx rfl (hb hby at_383) rfl rfl (XS.ifnullNo X602.here hx rfl (hb hby at_385) rfl (XS.aload X602.here hx rfl (hb hby at_388) rfl rfl (XS.aload X602.here hx rfl (hb hby at_390) rfl rfl (XT.acmpYes X602.here hx rfl (pc0 := 392) (pc' := 397) rfl (hb hby at_392) rfl rfl rfl (XT.aa_ne_t (fun q => ne602 (Value.ref.inj q))) (by decide) (by decide) (XS.aload X602.here hx rfl (hb hby at_397) rfl rfl kk))))))) ?_
                  show own_Fin _ _ _ _ _ _ _ (T602.setTop (mkF m 399 #[.val (.int p0), .val (.int p1), .val (.int p2), .val (.int (4 : Int32)), .val (.int xa), .val (.int xb), .val (.int xc), .val (.int xd), .val (.ref b401), .val (.ref b414), .val (.ref b457), .val (.int (2 : Int32)), .val (.ref r602)] [(.ref b401)]))
                  refine own_alen X602 hx hZ rfl f603 (hb hby at_399) ?_
                  show own_Fin _ _ _ _ _ _ _ (T602.setTop (mkF m 400 #[.val (.int p0), .val (.int p1), .val (.int p2), .val (.int (4 : Int32)), .val (.int xa), .val (.int xb), .val (.int xc), .val (.int xd), .val (.ref b401), .val (.ref b414), .val (.ref b457), .val (.int (2 : Int32)), .val (.ref r602)] [(.int (4 : Int32))]))
                  refine own_go (fun _ kk => XS.iloadN X602.here hx rfl (hb hby at_400) rfl (XS.icmpYes X602.here hx rfl (pc0 := 401) (pc' := 406) rfl (hb hby at_401) rfl (XT.ii_eq_t (by decide)) (by decide) (by decide) (XS.iloadN X602.here hx rfl (hb hby at_406) rfl (XS.ifNo X602.here hx rfl (hb hby at_407) rfl (XT.i0_le_f (by decide)) (XS.aload X602.here hx rfl (hb hby at_410) rfl rfl (XS.iconst X602.here hx rfl (hb hby at_412) kk)))))) ?_
                  show own_Fin _ _ _ _ _ _ _ (T602.setTop (mkF m 413 #[.val (.int p0), .val (.int p1), .val (.int p2), .val (.int (4 : Int32)), .val (.int xa), .val (.int xb), .val (.int xc), .val (.int xd), .val (.ref b401), .val (.ref b414), .val (.ref b457), .val (.int (2 : Int32)), .val (.ref r602)] [(.int (0 : Int32)), (.ref b401)]))
                  refine own_ldI X602 hx hZ rfl f603 (by decide) (by show (0 : Int32).toNatClampNeg < 4; decide) (hb hby at_413) ?_
                  show own_Fin _ _ _ _ _ _ _ (T602.setTop (mkF m 414 #[.val (.int p0), .val (.int p1), .val (.int p2), .val (.int (4 : Int32)), .val (.int xa), .val (.int xb), .val (.int xc), .val (.int xd), .val (.ref b401), .val (.ref b414), .val (.ref b457), .val (.int (2 : Int32)), .val (.ref r602)] [(.int xa)]))
                  refine own_go (fun _ kk => XS.iload X602.here hx rfl (hb hby at_414) rfl (XS.icmpYes X602.here hx rfl (pc0 := 416) (pc' := 421) rfl (hb hby at_416) rfl (XT.ii_eq_t rfl) (by decide) (by decide) (XS.iloadN X602.here hx rfl (hb hby at_421) rfl (XS.iconst X602.here hx rfl (hb hby at_422) (XS.icmpNo X602.here hx rfl (hb hby at_423) rfl (XT.ii_le_f (by decide)) (XS.aload X602.here hx rfl (hb hby at_426) rfl rfl (XS.iconst X602.here hx rfl (hb hby at_428) kk))))))) ?_
                  show own_Fin _ _ _ _ _ _ _ (T602.setTop (mkF m 429 #[.val (.int p0), .val (.int p1), .val (.int p2), .val (.int (4 : Int32)), .val (.int xa), .val (.int xb), .val (.int xc), .val (.int xd), .val (.ref b401), .val (.ref b414), .val (.ref b457), .val (.int (2 : Int32)), .val (.ref r602)] [(.int (1 : Int32)), (.ref b401)]))
                  refine own_ldI X602 hx hZ rfl f603 (by decide) (by show (1 : Int32).toNatClampNeg < 4; decide) (hb hby at_429) ?_
                  show own_Fin _ _ _ _ _ _ _ (T602.setTop (mkF m 430 #[.val (.int p0), .val (.int p1), .val (.int p2), .val (.int (4 : Int32)), .val (.int xa), .val (.int xb), .val (.int xc), .val (.int xd), .val (.ref b401), .val (.ref b414), .val (.ref b457), .val (.int (2 : Int32)), .val (.ref r602)] [(.int xb)]))
                  refine own_go (fun _ kk => XS.iload X602.here hx rfl (hb hby at_430) rfl (XS.icmpYes X602.here hx rfl (pc0 := 432) (pc' := 437) rfl (hb hby at_432) rfl (XT.ii_eq_t rfl) (by decide) (by decide) (XS.iloadN X602.here hx rfl (hb hby at_437) rfl (XS.iconst X602.here hx rfl (hb hby at_438) (XS.icmpNo X602.here hx rfl (hb hby at_439) rfl (XT.ii_le_f (by decide)) (XS.aload X602.here hx rfl (hb hby at_442) rfl rfl (XS.iconst X602.here hx rfl (hb hby at_444) kk))))))) ?_
                  show own_Fin _ _ _ _ _ _ _ (T602.setTop (mkF m 445 #[.val (.int p0), .val (.int p1), .val (.int p2), .val (.int (4 : Int32)), .val (.int xa), .val (.int xb), .val (.int xc), .val (.int xd), .val (.ref b401), .val (.ref b414), .val (.ref b457), .val (.int (2 : Int32)), .val (.ref r602)] [(.int (2 : Int32)), (.ref b401)]))
                  refine own_ldI X602 hx hZ rfl f603 (by decide) (by show (2 : Int32).toNatClampNeg < 4; decide) (hb hby at_445) ?_
                  show own_Fin _ _ _ _ _ _ _ (T602.setTop (mkF m 446 #[.val (.int p0), .val (.int p1), .val (.int p2), .val (.int (4 : Int32)), .val (.int xa), .val (.int xb), .val (.int xc), .val (.int xd), .val (.ref b401), .val (.ref b414), .val (.ref b457), .val (.int (2 : Int32)), .val (.ref r602)] [(.int xc)]))
                  refine own_go (fun _ kk => XS.iload X602.here hx rfl (hb hby at_446) rfl (XS.icmpYes X602.here hx rfl (pc0 := 448) (pc' := 453) rfl (hb hby at_448) rfl (XT.ii_eq_t rfl) (by decide) (by decide) (XS.iloadN X602.here hx rfl (hb hby at_453) rfl (XS.iconst X602.here hx rfl (hb hby at_454) (XS.icmpNo X602.here hx rfl (hb hby at_455) rfl (XT.ii_le_f (by decide)) (XS.aload X602.here hx rfl (hb hby at_458) rfl rfl (XS.iconst X602.here hx rfl (hb hby at_460) kk))))))) ?_
                  show own_Fin _ _ _ _ _ _ _ (T602.setTop (mkF m 461 #[.val (.int p0), .val (.int p1), .val (.int p2), .val (.int (4 : Int32)), .val (.int xa), .val (.int xb), .val (.int xc), .val (.int xd), .val (.ref b401), .val (.ref b414), .val (.ref b457), .val (.int (2 : Int32)), .val (.ref r602)] [(.int (3 : Int32)), (.ref b401)]))
                  refine own_ldI X602 hx hZ rfl f603 (by decide) (by show (3 : Int32).toNatClampNeg < 4; decide) (hb hby at_461) ?_
                  show own_Fin _ _ _ _ _ _ _ (T602.setTop (mkF m 462 #[.val (.int p0), .val (.int p1), .val (.int p2), .val (.int (4 : Int32)), .val (.int xa), .val (.int xb), .val (.int xc), .val (.int xd), .val (.ref b401), .val (.ref b414), .val (.ref b457), .val (.int (2 : Int32)), .val (.ref r602)] [(.int xd)]))
                  refine own_go (fun _ kk => XS.iload X602.here hx rfl (hb hby at_462) rfl (XS.icmpYes X602.here hx rfl (pc0 := 464) (pc' := 469) rfl (hb hby at_464) rfl (XT.ii_eq_t rfl) (by decide) (by decide) (XS.aload X602.here hx rfl (hb hby at_469) rfl rfl kk))) ?_
                  show own_Fin _ _ _ _ _ _ _ (T602.setTop (mkF m 471 #[.val (.int p0), .val (.int p1), .val (.int p2), .val (.int (4 : Int32)), .val (.int xa), .val (.int xb), .val (.int xc), .val (.int xd), .val (.ref b401), .val (.ref b414), .val (.ref b457), .val (.int (2 : Int32)), .val (.ref r602)] [(.ref r602)]))
                  refine own_alen X602 hx hZ rfl F602 (hb hby at_471) ?_
                  show own_Fin _ _ _ _ _ _ _ (T602.setTop (mkF m 472 #[.val (.int p0), .val (.int p1), .val (.int p2), .val (.int (4 : Int32)), .val (.int xa), .val (.int xb), .val (.int xc), .val (.int xd), .val (.ref b401), .val (.ref b414), .val (.ref b457), .val (.int (2 : Int32)), .val (.ref r602)] [(.int (2 : Int32))]))
                  refine own_go (fun _ kk => XS.iload X602.here hx rfl (hb hby at_472) rfl (XS.icmpYes X602.here hx rfl (pc0 := 474) (pc' := 479) rfl (hb hby at_474) rfl (XT.ii_eq_t (by decide)) (by decide) (by decide) (XS.iload X602.here hx rfl (hb hby at_479) rfl (XS.ifNo X602.here hx rfl (hb hby at_481) rfl (XT.i0_le_f (by decide)) (XS.aload X602.here hx rfl (hb hby at_484) rfl rfl (XS.iconst X602.here hx rfl (hb hby at_486) kk)))))) ?_
                  show own_Fin _ _ _ _ _ _ _ (T602.setTop (mkF m 487 #[.val (.int p0), .val (.int p1), .val (.int p2), .val (.int (4 : Int32)), .val (.int xa), .val (.int xb), .val (.int xc), .val (.int xd), .val (.ref b401), .val (.ref b414), .val (.ref b457), .val (.int (2 : Int32)), .val (.ref r602)] [(.int (0 : Int32)), (.ref r602)]))
                  refine own_ldI X602 hx hZ rfl F602 (by decide) (by show (0 : Int32).toNatClampNeg < 2; decide) (hb hby at_487) ?_
                  show own_Fin _ _ _ _ _ _ _ (T602.setTop (mkF m 488 #[.val (.int p0), .val (.int p1), .val (.int p2), .val (.int (4 : Int32)), .val (.int xa), .val (.int xb), .val (.int xc), .val (.int xd), .val (.ref b401), .val (.ref b414), .val (.ref b457), .val (.int (2 : Int32)), .val (.ref r602)] [(.int xa)]))
                  refine own_go (fun _ kk => XS.aload X602.here hx rfl (hb hby at_488) rfl rfl (XS.iconst X602.here hx rfl (hb hby at_490) kk)) ?_
                  show own_Fin _ _ _ _ _ _ _ (T602.setTop (mkF m 491 #[.val (.int p0), .val (.int p1), .val (.int p2), .val (.int (4 : Int32)), .val (.int xa), .val (.int xb), .val (.int xc), .val (.int xd), .val (.ref b401), .val (.ref b414), .val (.ref b457), .val (.int (2 : Int32)), .val (.ref r602)] [(.int (0 : Int32)), (.ref b457), (.int xa)]))
                  refine own_ldI X602 hx hZ rfl f607 (by decide) (by show (0 : Int32).toNatClampNeg < 4; decide) (hb hby at_491) ?_
                  show own_Fin _ _ _ _ _ _ _ (T602.setTop (mkF m 492 #[.val (.int p0), .val (.int p1), .val (.int p2), .val (.int (4 : Int32)), .val (.int xa), .val (.int xb), .val (.int xc), .val (.int xd), .val (.ref b401), .val (.ref b414), .val (.ref b457), .val (.int (2 : Int32)), .val (.ref r602)] [(.int xa), (.int xa)]))
                  refine own_go (fun _ kk => XS.icmpYes X602.here hx rfl (pc0 := 492) (pc' := 497) rfl (hb hby at_492) rfl (XT.ii_eq_t rfl) (by decide) (by decide) (XS.iload X602.here hx rfl (hb hby at_497) rfl (XS.iconst X602.here hx rfl (hb hby at_499) (XS.icmpNo X602.here hx rfl (hb hby at_500) rfl (XT.ii_le_f (by decide)) (XS.aload X602.here hx rfl (hb hby at_503) rfl rfl (XS.iconst X602.here hx rfl (hb hby at_505) kk)))))) ?_
                  show own_Fin _ _ _ _ _ _ _ (T602.setTop (mkF m 506 #[.val (.int p0), .val (.int p1), .val (.int p2), .val (.int (4 : Int32)), .val (.int xa), .val (.int xb), .val (.int xc), .val (.int xd), .val (.ref b401), .val (.ref b414), .val (.ref b457), .val (.int (2 : Int32)), .val (.ref r602)] [(.int (1 : Int32)), (.ref r602)]))
                  refine own_ldI X602 hx hZ rfl F602 (by decide) (by show (1 : Int32).toNatClampNeg < 2; decide) (hb hby at_506) ?_
                  show own_Fin _ _ _ _ _ _ _ (T602.setTop (mkF m 507 #[.val (.int p0), .val (.int p1), .val (.int p2), .val (.int (4 : Int32)), .val (.int xa), .val (.int xb), .val (.int xc), .val (.int xd), .val (.ref b401), .val (.ref b414), .val (.ref b457), .val (.int (2 : Int32)), .val (.ref r602)] [(.int xc)]))
                  refine own_go (fun _ kk => XS.aload X602.here hx rfl (hb hby at_507) rfl rfl (XS.iconst X602.here hx rfl (hb hby at_509) kk)) ?_
                  show own_Fin _ _ _ _ _ _ _ (T602.setTop (mkF m 510 #[.val (.int p0), .val (.int p1), .val (.int p2), .val (.int (4 : Int32)), .val (.int xa), .val (.int xb), .val (.int xc), .val (.int xd), .val (.ref b401), .val (.ref b414), .val (.ref b457), .val (.int (2 : Int32)), .val (.ref r602)] [(.int (1 : Int32)), (.ref b457), (.int xc)]))
                  refine own_ldI X602 hx hZ rfl f607 (by decide) (by show (1 : Int32).toNatClampNeg < 4; decide) (hb hby at_510) ?_
                  show own_Fin _ _ _ _ _ _ _ (T602.setTop (mkF m 511 #[.val (.int p0), .val (.int p1), .val (.int p2), .val (.int (4 : Int32)), .val (.int xa), .val (.int xb), .val (.int xc), .val (.int xd), .val (.ref b401), .val (.ref b414), .val (.ref b457), .val (.int (2 : Int32)), .val (.ref r602)] [(.int xc), (.int xc)]))
                  refine own_go (fun _ kk => XS.icmpYes X602.here hx rfl (pc0 := 511) (pc' := 516) rfl (hb hby at_511) rfl (XT.ii_eq_t rfl) (by decide) (by decide) (XS.iload X602.here hx rfl (hb hby at_516) rfl (XS.iconst X602.here hx rfl (hb hby at_518) (XS.icmpYes X602.here hx rfl (pc0 := 519) (pc' := 535) rfl (hb hby at_519) rfl (XT.ii_le_t (by decide)) (by decide) (by decide) (XS.iload X602.here hx rfl (hb hby at_535) rfl (XS.iconst X602.here hx rfl (hb hby at_537) (XS.icmpYes X602.here hx rfl (pc0 := 538) (pc' := 554) rfl (hb hby at_538) rfl (XT.ii_le_t (by decide)) (by decide) (by decide) (XS.iconst X602.here hx rfl (hb hby at_554) kk)))))))) ?_
                  show own_Fin _ _ _ _ _ _ _ (T602.setTop (mkF m 555 #[.val (.int p0), .val (.int p1), .val (.int p2), .val (.int (4 : Int32)), .val (.int xa), .val (.int xb), .val (.int xc), .val (.int xd), .val (.ref b401), .val (.ref b414), .val (.ref b457), .val (.int (2 : Int32)), .val (.ref r602)] [(.int (1 : Int32))]))
                  exact own_retZ X602 hx hlk hret rfl (hb hby at_555) (by decide) (by decide) ⟨rfl, N602⟩
                · refine own_go (fun _ kk => XS.ifNo X595.here hx rfl (hb hby at_361) rfl (XT.i0_eq_f hc361) (XS.aload X595.here hx rfl (hb hby at_364) rfl rfl (XS.iload X595.here hx rfl (hb hby at_366) rfl (XS.iload X595.here hx rfl (hb hby at_368) rfl kk)))) ?_
                  show own_Fin _ _ _ _ _ _ _ (T595.setTop (mkF m 370 #[.val (.int p0), .val (.int p1), .val (.int p2), .val (.int (4 : Int32)), .val (.int xa), .val (.int xb), .val (.int xc), .val (.int xd), .val (.ref b401), .val (.ref b414), .val (.ref b457), .val (.int (2 : Int32)), .unset] [(.int xd), (.int (2 : Int32)), (.ref b457)]))
                  refine own_stI X595 hx hZ e595 A595 (by decide) (by show (2 : Int32).toNatClampNeg < 4; decide) (hb hby at_370) ?_
                  intro T609 h609 X609 e609 W609 A609
                  have f610 := f596.other W609 ne_b401_b457
                  have f611 := f597.wr W609
                  have f612 := f598.other W609 ne_b414_b457
                  have f613 := f599.wr W609
                  have f615 := f601.wr W609
                  have Z609 := Nat.le_trans Z595 (Keep.of_wr W609).1
                  have A609 : own_Ar Z h609 b457 .int (List.map Value.int [xa, xc, xd, (0 : Int32)]) := A609
                  have N609 := Fr.snoc X609 N595 g_b457
                  show own_Fin _ _ _ _ _ _ _ (T609.setTop (mkF m 371 #[.val (.int p0), .val (.int p1), .val (.int p2), .val (.int (4 : Int32)), .val (.int xa), .val (.int xb), .val (.int xc), .val (.int xd), .val (.ref b401), .val (.ref b414), .val (.ref b457), .val (.int (2 : Int32)), .unset] []))
                  refine own_go (fun _ kk => XS.iinc X609.here hx rfl (hb hby at_371) rfl (l' := #[.val (.int p0), .val (.int p1), .val (.int p2), .val (.int (4 : Int32)), .val (.int xa), .val (.int xb), .val (.int xc), .val (.int xd), .val (.ref b401), .val (.ref b414), .val (.ref b457), .val (.int (3 : Int32)), .unset]) rfl (XS.aload X609.here hx rfl (hb hby at_374) rfl rfl (XS.aload X609.here hx rfl (hb hby at_376) rfl rfl kk))) ?_
                  show own_Fin _ _ _ _ _ _ _ (T609.setTop (mkF m 378 #[.val (.int p0), .val (.int p1), .val (.int p2), .val (.int (4 : Int32)), .val (.int xa), .val (.int xb), .val (.int xc), .val (.int xd), .val (.ref b401), .val (.ref b414), .val (.ref b457), .val (.int (3 : Int32)), .unset] [(.ref b414), (.ref b401)]))
                  refine own_callS X609 hx hZ hown (hw _ (List.mem_of_getElem? (i := 7) rfl)) (hw _ (List.mem_of_getElem? (i := 8) rfl)) (hw _ (List.mem_of_getElem? (i := 9) rfl)) (hw _ (List.mem_of_getElem? (i := 10) rfl)) (by decide) (rm2 l Z a0 hw b401 b414 h609 n0 Z609 [xa, xb, xc, xd] bs f610 f612 (by show 4 ≤ 4; decide) (List.forall_mem_cons.mpr ⟨sa, (List.forall_mem_cons.mpr ⟨sb, (List.forall_mem_cons.mpr ⟨sc, (List.forall_mem_cons.mpr ⟨sd, (fun x h => nomatch h)⟩)⟩)⟩)⟩)) e609 (argsL := [(.ref b401), (.ref b414)]) (rest := []) rfl rfl (by rw [hml]; rfl) (lenOf pd_0_1 rfl) (hb hby at_378) (W := 0) (Nat.le_of_eq rfl) (by decide) (by decide) (by decide) (by decide) ?_
                  rintro v616 T616 L616 X616 ⟨r616, rfl, M616, Kc616, sz616, A616⟩
                  have N616 := Fr.app N609 M616
                  have ne616 : r616 ≠ b401 := Nat.ne_of_gt (Nat.lt_of_lt_of_le f610.lt sz616)
                  have f617 := f610.keep Kc616 nin0
                  have f618 := f611.keep Kc616
                  have f619 := f612.keep Kc616 nin0
                  have f620 := f613.keep Kc616
                  have f621 := A609.keep Kc616 nin0
                  have f622 := f615.keep Kc616
                  have Z616 := Nat.le_trans Z609 Kc616.1
                  have F616 : own_Ar Z T616.heap r616 .int (List.map Value.int [xa, xc, xd]) := by
                    rw [List.filter_cons_of_pos (show own_mk bs xa = true from decide_eq_true hc292), List.filter_cons_of_neg (by rw [show own_mk bs xb = false from decide_eq_false (fun q => q hc315)]; decide), List.filter_cons_of_pos (show own_mk bs xc = true from decide_eq_true hc338), List.filter_cons_of_pos (show own_mk bs xd = true from decide_eq_true hc361), List.filter_nil] at A616
                    exact A616
                  show own_Fin _ _ _ _ _ _ _ (T616.setTop (mkF m 381 #[.val (.int p0), .val (.int p1), .val (.int p2), .val (.int (4 : Int32)), .val (.int xa), .val (.int xb), .val (.int xc), .val (.int xd), .val (.ref b401), .val (.ref b414), .val (.ref b457), .val (.int (3 : Int32)), .unset] [(.ref r616)]))
                  refine own_go (fun _ kk => XS.astore X616.here hx rfl (hb hby at_381) rfl rfl (l' := #[.val (.int p0), .val (.int p1), .val (.int p2), .val (.int (4 : Int32)), .val (.int xa), .val (.int xb), .val (.int xc), .val (.int xd), .val (.ref b401), .val (.ref b414), .val (.ref b457), .val (.int (3 : Int32)), .val (.ref r616)]) rfl (XS.aload X616.here hx rfl (hb hby at_383) rfl rfl (XS.ifnullNo X616.here hx rfl (hb hby at_385) rfl (XS.aload X616.here hx rfl (hb hby at_388) rfl rfl (XS.aload X616.here hx rfl (hb hby at_390) rfl rfl (XT.acmpYes X616.here hx rfl (pc0 := 392) (pc' := 397) rfl (hb hby at_392) rfl rfl rfl (XT.aa_ne_t (fun q => ne616 (Value.ref.inj q))) (by decide) (by decide) (XS.aload X616.here hx rfl (hb hby at_397) rfl rfl kk))))))) ?_
                  show own_Fin _ _ _ _ _ _ _ (T616.setTop (mkF m 399 #[.val (.int p0), .val (.int p1), .val (.int p2), .val (.int (4 : Int32)), .val (.int xa), .val (.int xb), .val (.int xc), .val (.int xd), .val (.ref b401), .val (.ref b414), .val (.ref b457), .val (.int (3 : Int32)), .val (.ref r616)] [(.ref b401)]))
                  refine own_alen X616 hx hZ rfl f617 (hb hby at_399) ?_
                  show own_Fin _ _ _ _ _ _ _ (T616.setTop (mkF m 400 #[.val (.int p0), .val (.int p1), .val (.int p2), .val (.int (4 : Int32)), .val (.int xa), .val (.int xb), .val (.int xc), .val (.int xd), .val (.ref b401), .val (.ref b414), .val (.ref b457), .val (.int (3 : Int32)), .val (.ref r616)] [(.int (4 : Int32))]))
                  refine own_go (fun _ kk => XS.iloadN X616.here hx rfl (hb hby at_400) rfl (XS.icmpYes X616.here hx rfl (pc0 := 401) (pc' := 406) rfl (hb hby at_401) rfl (XT.ii_eq_t (by decide)) (by decide) (by decide) (XS.iloadN X616.here hx rfl (hb hby at_406) rfl (XS.ifNo X616.here hx rfl (hb hby at_407) rfl (XT.i0_le_f (by decide)) (XS.aload X616.here hx rfl (hb hby at_410) rfl rfl (XS.iconst X616.here hx rfl (hb hby at_412) kk)))))) ?_
                  show own_Fin _ _ _ _ _ _ _ (T616.setTop (mkF m 413 #[.val (.int p0), .val (.int p1), .val (.int p2), .val (.int (4 : Int32)), .val (.int xa), .val (.int xb), .val (.int xc), .val (.int xd), .val (.ref b401), .val (.ref b414), .val (.ref b457), .val (.int (3 : Int32)), .val (.ref r616)] [(.int (0 : Int32)), (.ref b401)]))
                  refine own_ldI X616 hx hZ rfl f617 (by decide) (by show (0 : Int32).toNatClampNeg < 4; decide) (hb hby at_413) ?_
                  show own_Fin _ _ _ _ _ _ _ (T616.setTop (mkF m 414 #[.val (.int p0), .val (.int p1), .val (.int p2), .val (.int (4 : Int32)), .val (.int xa), .val (.int xb), .val (.int xc), .val (.int xd), .val (.ref b401), .val (.ref b414), .val (.ref b457), .val (.int (3 : Int32)), .val (.ref r616)] [(.int xa)]))
                  refine own_go (fun _ kk => XS.iload X616.here hx rfl (hb hby at_414) rfl (XS.icmpYes X616.here hx rfl (pc0 := 416) (pc' := 421) rfl (hb hby at_416) rfl (XT.ii_eq_t rfl) (by decide) (by decide) (XS.iloadN X616.here hx rfl (hb hby at_421) rfl (XS.iconst X616.here hx rfl (hb hby at_422) (XS.icmpNo X616.here hx rfl (hb hby at_423) rfl (XT.ii_le_f (by decide)) (XS.aload X616.here hx rfl (hb hby at_426) rfl rfl (XS.iconst X616.here hx rfl (hb hby at_428) kk))))))) ?_
                  show own_Fin _ _ _ _ _ _ _ (T616.setTop (mkF m 429 #[.val (.int p0), .val (.int p1), .val (.int p2), .val (.int (4 : Int32)), .val (.int xa), .val (.int xb), .val (.int xc), .val (.int xd), .val (.ref b401), .val (.ref b414), .val (.ref b457), .val (.int (3 : Int32)), .val (.ref r616)] [(.int (1 : Int32)), (.ref b401)]))
                  refine own_ldI X616 hx hZ rfl f617 (by decide) (by show (1 : Int32).toNatClampNeg < 4; decide) (hb hby at_429) ?_
                  show own_Fin _ _ _ _ _ _ _ (T616.setTop (mkF m 430 #[.val (.int p0), .val (.int p1), .val (.int p2), .val (.int (4 : Int32)), .val (.int xa), .val (.int xb), .val (.int xc), .val (.int xd), .val (.ref b401), .val (.ref b414), .val (.ref b457), .val (.int (3 : Int32)), .val (.ref r616)] [(.int xb)]))
                  refine own_go (fun _ kk => XS.iload X616.here hx rfl (hb hby at_430) rfl (XS.icmpYes X616.here hx rfl (pc0 := 432) (pc' := 437) rfl (hb hby at_432) rfl (XT.ii_eq_t rfl) (by decide) (by decide) (XS.iloadN X616.here hx rfl (hb hby at_437) rfl (XS.iconst X616.here hx rfl (hb hby at_438) (XS.icmpNo X616.here hx rfl (hb hby at_439) rfl (XT.ii_le_f (by decide)) (XS.aload X616.here hx rfl (hb hby at_442) rfl rfl (XS.iconst X616.here hx rfl (hb hby at_444) kk))))))) ?_
                  show own_Fin _ _ _ _ _ _ _ (T616.setTop (mkF m 445 #[.val (.int p0), .val (.int p1), .val (.int p2), .val (.int (4 : Int32)), .val (.int xa), .val (.int xb), .val (.int xc), .val (.int xd), .val (.ref b401), .val (.ref b414), .val (.ref b457), .val (.int (3 : Int32)), .val (.ref r616)] [(.int (2 : Int32)), (.ref b401)]))
                  refine own_ldI X616 hx hZ rfl f617 (by decide) (by show (2 : Int32).toNatClampNeg < 4; decide) (hb hby at_445) ?_
                  show own_Fin _ _ _ _ _ _ _ (T616.setTop (mkF m 446 #[.val (.int p0), .val (.int p1), .val (.int p2), .val (.int (4 : Int32)), .val (.int xa), .val (.int xb), .val (.int xc), .val (.int xd), .val (.ref b401), .val (.ref b414), .val (.ref b457), .val (.int (3 : Int32)), .val (.ref r616)] [(.int xc)]))
                  refine own_go (fun _ kk => XS.iload X616.here hx rfl (hb hby at_446) rfl (XS.icmpYes X616.here hx rfl (pc0 := 448) (pc' := 453) rfl (hb hby at_448) rfl (XT.ii_eq_t rfl) (by decide) (by decide) (XS.iloadN X616.here hx rfl (hb hby at_453) rfl (XS.iconst X616.here hx rfl (hb hby at_454) (XS.icmpNo X616.here hx rfl (hb hby at_455) rfl (XT.ii_le_f (by decide)) (XS.aload X616.here hx rfl (hb hby at_458) rfl rfl (XS.iconst X616.here hx rfl (hb hby at_460) kk))))))) ?_
                  show own_Fin _ _ _ _ _ _ _ (T616.setTop (mkF m 461 #[.val (.int p0), .val (.int p1), .val (.int p2), .val (.int (4 : Int32)), .val (.int xa), .val (.int xb), .val (.int xc), .val (.int xd), .val (.ref b401), .val (.ref b414), .val (.ref b457), .val (.int (3 : Int32)), .val (.ref r616)] [(.int (3 : Int32)), (.ref b401)]))
                  refine own_ldI X616 hx hZ rfl f617 (by decide) (by show (3 : Int32).toNatClampNeg < 4; decide) (hb hby at_461) ?_
                  show own_Fin _ _ _ _ _ _ _ (T616.setTop (mkF m 462 #[.val (.int p0), .val (.int p1), .val (.int p2), .val (.int (4 : Int32)), .val (.int xa), .val (.int xb), .val (.int xc), .val (.int xd), .val (.ref b401), .val (.ref b414), .val (.ref b457), .val (.int (3 : Int32)), .val (.ref r616)] [(.int xd)]))
                  refine own_go (fun _ kk => XS.iload X616.here hx rfl (hb hby at_462) rfl (XS.icmpYes X616.here hx rfl (pc0 := 464) (pc' := 469) rfl (hb hby at_464) rfl (XT.ii_eq_t rfl) (by decide) (by decide) (XS.aload X616.here hx rfl (hb hby at_469) rfl rfl kk))) ?_
                  show own_Fin _ _ _ _ _ _ _ (T616.setTop (mkF m 471 #[.val (.int p0), .val (.int p1), .val (.int p2), .val (.int (4 : Int32)), .val (.int xa), .val (.int xb), .val (.int xc), .val (.int xd), .val (.ref b401), .val (.ref b414), .val (.ref b457), .val (.int (3 : Int32)), .val (.ref r616)] [(.ref r616)]))
                  refine own_alen X616 hx hZ rfl F616 (hb hby at_471) ?_
                  show own_Fin _ _ _ _ _ _ _ (T616.setTop (mkF m 472 #[.val (.int p0), .val (.int p1), .val (.int p2), .val (.int (4 : Int32)), .val (.int xa), .val (.int xb), .val (.int xc), .val (.int xd), .val (.ref b401), .val (.ref b414), .val (.ref b457), .val (.int (3 : Int32)), .val (.ref r616)] [(.int (3 : Int32))]))
                  refine own_go (fun _ kk => XS.iload X616.here hx rfl (hb hby at_472) rfl (XS.icmpYes X616.here hx rfl (pc0 := 474) (pc' := 479) rfl (hb hby at_474) rfl (XT.ii_eq_t (by decide)) (by decide) (by decide) (XS.iload X616.here hx rfl (hb hby at_479) rfl (XS.ifNo X616.here hx rfl (hb hby at_481) rfl (XT.i0_le_f (by decide)) (XS.aload X616.here hx rfl (hb hby at_484) rfl rfl (XS.iconst X616.here hx rfl (hb hby at_486) kk)))))) ?_
                  show own_Fin _ _ _ _ _ _ _ (T616.setTop (mkF m 487 #[.val (.int p0), .val (.int p1), .val (.int p2), .val (.int (4 : Int32)), .val (.int xa), .val (.int xb), .val (.int xc), .val (.int xd), .val (.ref b401), .val (.ref b414), .val (.ref b457), .val (.int (3 : Int32)), .val (.ref r616)] [(.int (0 : Int32)), (.ref r616)]))
                  refine own_ldI X616 hx hZ rfl F616 (by decide) (by show (0 : Int32).toNatClampNeg < 3; decide) (hb hby at_487) ?_
                  show own_Fin _ _ _ _ _ _ _ (T616.setTop (mkF m 488 #[.val (.int p0), .val (.int p1), .val (.int p2), .val (.int (4 : Int32)), .val (.int xa), .val (.int xb), .val (.int xc), .val (.int xd), .val (.ref b401), .val (.ref b414), .val (.ref b457), .val (.int (3 : Int32)), .val (.ref r616)] [(.int xa)]))
                  refine own_go (fun _ kk => XS.aload X616.here hx rfl (hb hby at_488) rfl rfl (XS.iconst X616.here hx rfl (hb hby at_490) kk)) ?_
                  show own_Fin _ _ _ _ _ _ _ (T616.setTop (mkF m 491 #[.val (.int p0), .val (.int p1), .val (.int p2), .val (.int (4 : Int32)), .val (.int xa), .val (.int xb), .val (.int xc), .val (.int xd), .val (.ref b401), .val (.ref b414), .val (.ref b457), .val (.int (3 : Int32)), .val (.ref r616)] [(.int (0 : Int32)), (.ref b457), (.int xa)]))
                  refine own_ldI X616 hx hZ rfl f621 (by decide) (by show (0 : Int32).toNatClampNeg < 4; decide) (hb hby at_491) ?_
                  show own_Fin _ _ _ _ _ _ _ (T616.setTop (mkF m 492 #[.val (.int p0), .val (.int p1), .val (.int p2), .val (.int (4 : Int32)), .val (.int xa), .val (.int xb), .val (.int xc), .val (.int xd), .val (.ref b401), .val (.ref b414), .val (.ref b457), .val (.int (3 : Int32)), .val (.ref r616)] [(.int xa), (.int xa)]))
                  refine own_go (fun _ kk => XS.icmpYes X616.here hx rfl (pc0 := 492) (pc' := 497) rfl (hb hby at_492) rfl (XT.ii_eq_t rfl) (by decide) (by decide) (XS.iload X616.here hx rfl (hb hby at_497) rfl (XS.iconst X616.here hx rfl (hb hby at_499) (XS.icmpNo X616.here hx rfl (hb hby at_500) rfl (XT.ii_le_f (by decide)) (XS.aload X616.here hx rfl (hb hby at_503) rfl rfl (XS.iconst X616.here hx rfl (hb hby at_505) kk)))))) ?_
                  show own_Fin _ _ _ _ _ _ _ (T616.setTop (mkF m 506 #[.val (.int p0), .val (.int p1), .val (.int p2), .val (.int (4 : Int32)), .val (.int xa), .val (.int xb), .val (.int xc), .val (.int xd), .val (.ref b401), .val (.ref b414), .val (.ref b457), .val (.int (3 : Int32)), .val (.ref r616)] [(.int (1 : Int32)), (.ref r616)]))
                  refine own_ldI X616 hx hZ rfl F616 (by decide) (by show (1 : Int32).toNatClampNeg < 3; decide) (hb hby at_506) ?_
                  show own_Fin _ _ _ _ _ _ _ (T616.setTop (mkF m 507 #[.val (.int p0), .val (.int p1), .val (.int p2), .val (.int (4 : Int32)), .val (.int xa), .val (.int xb), .val (.int xc), .val (.int xd), .val (.ref b401), .val (.ref b414), .val (.ref b457), .val (.int (3 : Int32)), .val (.ref r616)] [(.int xc)]))
                  refine own_go (fun _ kk => XS.aload X616.here hx rfl (hb hby at_507) rfl rfl (XS.iconst X616.here hx rfl (hb hby at_509) kk)) ?_
                  show own_Fin _ _ _ _ _ _ _ (T616.setTop (mkF m 510 #[.val (.int p0), .val (.int p1), .val (.int p2), .val (.int (4 : Int32)), .val (.int xa), .val (.int xb), .val (.int xc), .val (.int xd), .val (.ref b401), .val (.ref b414), .val (.ref b457), .val (.int (3 : Int32)), .val (.ref r616)] [(.int (1 : Int32)), (.ref b457), (.int xc)]))
                  refine own_ldI X616 hx hZ rfl f621 (by decide) (by show (1 : Int32).toNatClampNeg < 4; decide) (hb hby at_510) ?_
                  show own_Fin _ _ _ _ _ _ _ (T616.setTop (mkF m 511 #[.val (.int p0), .val (.int p1), .val (.int p2), .val (.int (4 : Int32)), .val (.int xa), .val (.int xb), .val (.int xc), .val (.int xd), .val (.ref b401), .val (.ref b414), .val (.ref b457), .val (.int (3 : Int32)), .val (.ref r616)] [(.int xc), (.int xc)]))
                  refine own_go (fun _ kk => XS.icmpYes X616.here hx rfl (pc0 := 511) (pc' := 516) rfl (hb hby at_511) rfl (XT.ii_eq_t rfl) (by decide) (by decide) (XS.iload X616.here hx rfl (hb hby at_516) rfl (XS.iconst X616.here hx rfl (hb hby at_518) (XS.icmpNo X616.here hx rfl (hb hby at_519) rfl (XT.ii_le_f (by decide)) (XS.aload X616.here hx rfl (hb hby at_522) rfl rfl (XS.iconst X616.here hx rfl (hb hby at_524) kk)))))) ?_
                  show own_Fin _ _ _ _ _ _ _ (T616.setTop (mkF m 525 #[.val (.int p0), .val (.int p1), .val (.int p2), .val (.int (4 : Int32)), .val (.int xa), .val (.int xb), .val (.int xc), .val (.int xd), .val (.ref b401), .val (.ref b414), .val (.ref b457), .val (.int (3 : Int32)), .val (.ref r616)] [(.int (2 : Int32)), (.ref r616)]))
                  refine own_ldI X616 hx hZ rfl F616 (by decide) (by show (2 : Int32).toNatClampNeg < 3; decide) (hb hby at_525) ?_
                  show own_Fin _ _ _ _ _ _ _ (T616.setTop (mkF m 526 #[.val (.int p0), .val (.int p1), .val (.int p2), .val (.int (4 : Int32)), .val (.int xa), .val (.int xb), .val (.int xc), .val (.int xd), .val (.ref b401), .val (.ref b414), .val (.ref b457), .val (.int (3 : Int32)), .val (.ref r616)] [(.int xd)]))
                  refine own_go (fun _ kk => XS.aload X616.here hx rfl (hb hby at_526) rfl rfl (XS.iconst X616.here hx rfl (hb hby at_528) kk)) ?_
                  show own_Fin _ _ _ _ _ _ _ (T616.setTop (mkF m 529 #[.val (.int p0), .val (.int p1), .val (.int p2), .val (.int (4 : Int32)), .val (.int xa), .val (.int xb), .val (.int xc), .val (.int xd), .val (.ref b401), .val (.ref b414), .val (.ref b457), .val (.int (3 : Int32)), .val (.ref r616)] [(.int (2 : Int32)), (.ref b457), (.int xd)]))
                  refine own_ldI X616 hx hZ rfl f621 (by decide) (by show (2 : Int32).toNatClampNeg < 4; decide) (hb hby at_529) ?_
                  show own_Fin _ _ _ _ _ _ _ (T616.setTop (mkF m 530 #[.val (.int p0), .val (.int p1), .val (.int p2), .val (.int (4 : Int32)), .val (.int xa), .val (.int xb), .val (.int xc), .val (.int xd), .val (.ref b401), .val (.ref b414), .val (.ref b457), .val (.int (3 : Int32)), .val (.ref r616)] [(.int xd), (.int xd)]))
                  refine own_go (fun _ kk => XS.icmpYes X616.here hx rfl (pc0 := 530) (pc' := 535) rfl (hb hby at_530) rfl (XT.ii_eq_t rfl) (by decide) (by decide) (XS.iload X616.here hx rfl (hb hby at_535) rfl (XS.iconst X616.here hx rfl (hb hby at_537) (XS.icmpYes X616.here hx rfl (pc0 := 538) (pc' := 554) rfl (hb hby at_538) rfl (XT.ii_le_t (by decide)) (by decide) (by decide) (XS.iconst X616.here hx rfl (hb hby at_554) kk))))) ?_
                  show own_Fin _ _ _ _ _ _ _ (T616.setTop (mkF m 555 #[.val (.int p0), .val (.int p1), .val (.int p2), .val (.int (4 : Int32)), .val (.int xa), .val (.int xb), .val (.int xc), .val (.int xd), .val (.ref b401), .val (.ref b414), .val (.ref b457), .val (.int (3 : Int32)), .val (.ref r616)] [(.int (1 : Int32))]))
                  exact own_retZ X616 hx hlk hret rfl (hb hby at_555) (by decide) (by decide) ⟨rfl, N616⟩
            · refine own_go (fun _ kk => XS.ifNo X567.here hx rfl (hb hby at_315) rfl (XT.i0_eq_f hc315) (XS.aload X567.here hx rfl (hb hby at_318) rfl rfl (XS.iload X567.here hx rfl (hb hby at_320) rfl (XS.iload X567.here hx rfl (hb hby at_322) rfl kk)))) ?_
              show own_Fin _ _ _ _ _ _ _ (T567.setTop (mkF m 324 #[.val (.int p0), .val (.int p1), .val (.int p2), .val (.int (4 : Int32)), .val (.int xa), .val (.int xb), .val (.int xc), .val (.int xd), .val (.ref b401), .val (.ref b414), .val (.ref b457), .val (.int (1 : Int32)), .unset] [(.int xb), (.int (1 : Int32)), (.ref b457)]))
              refine own_stI X567 hx hZ e567 A567 (by decide) (by show (1 : Int32).toNatClampNeg < 4; decide) (hb hby at_324) ?_
              intro T623 h623 X623 e623 W623 A623
              have f624 := f568.other W623 ne_b401_b457
              have f625 := f569.wr W623
              have f626 := f570.other W623 ne_b414_b457
              have f627 := f571.wr W623
              have f629 := f573.wr W623
              have Z623 := Nat.le_trans Z567 (Keep.of_wr W623).1
              have A623 : own_Ar Z h623 b457 .int (List.map Value.int [xa, xb, (0 : Int32), (0 : Int32)]) := A623
              have N623 := Fr.snoc X623 N567 g_b457
              show own_Fin _ _ _ _ _ _ _ (T623.setTop (mkF m 325 #[.val (.int p0), .val (.int p1), .val (.int p2), .val (.int (4 : Int32)), .val (.int xa), .val (.int xb), .val (.int xc), .val (.int xd), .val (.ref b401), .val (.ref b414), .val (.ref b457), .val (.int (1 : Int32)), .unset] []))
              refine own_go (fun _ kk => XS.iinc X623.here hx rfl (hb hby at_325) rfl (l' := #[.val (.int p0), .val (.int p1), .val (.int p2), .val (.int (4 : Int32)), .val (.int xa), .val (.int xb), .val (.int xc), .val (.int xd), .val (.ref b401), .val (.ref b414), .val (.ref b457), .val (.int (2 : Int32)), .unset]) rfl (XS.iloadN X623.here hx rfl (hb hby at_328) rfl (XS.iconst X623.here hx rfl (hb hby at_329) (XS.icmpNo X623.here hx rfl (hb hby at_330) rfl (XT.ii_le_f (by decide)) (XS.aload X623.here hx rfl (hb hby at_333) rfl rfl (XS.iload X623.here hx rfl (hb hby at_335) rfl kk)))))) ?_
              show own_Fin _ _ _ _ _ _ _ (T623.setTop (mkF m 337 #[.val (.int p0), .val (.int p1), .val (.int p2), .val (.int (4 : Int32)), .val (.int xa), .val (.int xb), .val (.int xc), .val (.int xd), .val (.ref b401), .val (.ref b414), .val (.ref b457), .val (.int (2 : Int32)), .unset] [(.int xc), (.ref b414)]))
              refine own_ldZ X623 hx hZ e623 f626 sc.1 sc.2 (hb hby at_337) ?_
              show own_Fin _ _ _ _ _ _ _ (T623.setTop (mkF m 338 #[.val (.int p0), .val (.int p1), .val (.int p2), .val (.int (4 : Int32)), .val (.int xa), .val (.int xb), .val (.int xc), .val (.int xd), .val (.ref b401), .val (.ref b414), .val (.ref b457), .val (.int (2 : Int32)), .unset] [(.int (List.getD bs (xc).toNatClampNeg 0))]))
              by_cases hc338 : (List.getD bs (xc).toNatClampNeg 0) = 0
              · refine own_go (fun _ kk => XS.ifYes X623.here hx rfl (pc0 := 338) (pc' := 351) rfl (hb hby at_338) rfl (XT.i0_eq_t hc338) (by decide) (by decide) (XS.iloadN X623.here hx rfl (hb hby at_351) rfl (XS.iconst X623.here hx rfl (hb hby at_352) (XS.icmpNo X623.here hx rfl (hb hby at_353) rfl (XT.ii_le_f (by decide)) (XS.aload X623.here hx rfl (hb hby at_356) rfl rfl (XS.iload X623.here hx rfl (hb hby at_358) rfl kk)))))) ?_
                show own_Fin _ _ _ _ _ _ _ (T623.setTop (mkF m 360 #[.val (.int p0), .val (.int p1), .val (.int p2), .val (.int (4 : Int32)), .val (.int xa), .val (.int xb), .val (.int xc), .val (.int xd), .val (.ref b401), .val (.ref b414), .val (.ref b457), .val (.int (2 : Int32)), .unset] [(.int xd), (.ref b414)]))
                refine own_ldZ X623 hx hZ e623 f626 sd.1 sd.2 (hb hby at_360) ?_
                show own_Fin _ _ _ _ _ _ _ (T623.setTop (mkF m 361 #[.val (.int p0), .val (.int p1), .val (.int p2), .val (.int (4 : Int32)), .val (.int xa), .val (.int xb), .val (.int xc), .val (.int xd), .val (.ref b401), .val (.ref b414), .val (.ref b457), .val (.int (2 : Int32)), .unset] [(.int (List.getD bs (xd).toNatClampNeg 0))]))
                by_cases hc361 : (List.getD bs (xd).toNatClampNeg 0) = 0
                · refine own_go (fun _ kk => XS.ifYes X623.here hx rfl (pc0 := 361) (pc' := 374) rfl (hb hby at_361) rfl (XT.i0_eq_t hc361) (by decide) (by decide) (XS.aload X623.here hx rfl (hb hby at_374) rfl rfl (XS.aload X623.here hx rfl (hb hby at_376) rfl rfl kk))) ?_
                  show own_Fin _ _ _ _ _ _ _ (T623.setTop (mkF m 378 #[.val (.int p0), .val (.int p1), .val (.int p2), .val (.int (4 : Int32)), .val (.int xa), .val (.int xb), .val (.int xc), .val (.int xd), .val (.ref b401), .val (.ref b414), .val (.ref b457), .val (.int (2 : Int32)), .unset] [(.ref b414), (.ref b401)]))
                  refine own_callS X623 hx hZ hown (hw _ (List.mem_of_getElem? (i := 7) rfl)) (hw _ (List.mem_of_getElem? (i := 8) rfl)) (hw _ (List.mem_of_getElem? (i := 9) rfl)) (hw _ (List.mem_of_getElem? (i := 10) rfl)) (by decide) (rm2 l Z a0 hw b401 b414 h623 n0 Z623 [xa, xb, xc, xd] bs f624 f626 (by show 4 ≤ 4; decide) (List.forall_mem_cons.mpr ⟨sa, (List.forall_mem_cons.mpr ⟨sb, (List.forall_mem_cons.mpr ⟨sc, (List.forall_mem_cons.mpr ⟨sd, (fun x h => nomatch h)⟩)⟩)⟩)⟩)) e623 (argsL := [(.ref b401), (.ref b414)]) (rest := []) rfl rfl (by rw [hml]; rfl) (lenOf pd_0_1 rfl) (hb hby at_378) (W := 0) (Nat.le_of_eq rfl) (by decide) (by decide) (by decide) (by decide) ?_
                  rintro v630 T630 L630 X630 ⟨r630, rfl, M630, Kc630, sz630, A630⟩
                  have N630 := Fr.app N623 M630
                  have ne630 : r630 ≠ b401 := Nat.ne_of_gt (Nat.lt_of_lt_of_le f624.lt sz630)
                  have f631 := f624.keep Kc630 nin0
                  have f632 := f625.keep Kc630
                  have f633 := f626.keep Kc630 nin0
                  have f634 := f627.keep Kc630
                  have f635 := A623.keep Kc630 nin0
                  have f636 := f629.keep Kc630
                  have Z630 := Nat.le_trans Z623 Kc630.1
                  have F630 : own_Ar Z T630.heap r630 .int (List.map Value.int [xa, xb]) := by
                    rw [List.filter_cons_of_pos (show own_mk bs xa = true from decide_eq_true hc292), List.filter_cons_of_pos (show own_mk bs xb = true from decide_eq_true hc315), List.filter_cons_of_neg (by rw [show own_mk bs xc = false from decide_eq_false (fun q => q hc338)]; decide), List.filter_cons_of_neg (by rw [show own_mk bs xd = false from decide_eq_false (fun q => q hc361)]; decide), List.filter_nil] at A630
                    exact A630
                  show own_Fin _ _ _ _ _ _ _ (T630.setTop (mkF m 381 #[.val (.int p0), .val (.int p1), .val (.int p2), .val (.int (4 : Int32)), .val (.int xa), .val (.int xb), .val (.int xc), .val (.int xd), .val (.ref b401), .val (.ref b414), .val (.ref b457), .val (.int (2 : Int32)), .unset] [(.ref r630)]))
                  refine own_go (fun _ kk => XS.astore X630.here hx rfl (hb hby at_381) rfl rfl (l' := #[.val (.int p0), .val (.int p1), .val (.int p2), .val (.int (4 : Int32)), .val (.int xa), .val (.int xb), .val (.int xc), .val (.int xd), .val (.ref b401), .val (.ref b414), .val (.ref b457), .val (.int (2 : Int32)), .val (.ref r630)]) rfl (XS.aload X630.here hx rfl (hb hby at_383) rfl rfl (XS.ifnullNo X630.here hx rfl (hb hby at_385) rfl (XS.aload X630.here hx rfl (hb hby at_388) rfl rfl (XS.aload X630.here hx rfl (hb hby at_390) rfl rfl (XT.acmpYes X630.here hx rfl (pc0 := 392) (pc' := 397) rfl (hb hby at_392) rfl rfl rfl (XT.aa_ne_t (fun q => ne630 (Value.ref.inj q))) (by decide) (by decide) (XS.aload X630.here hx rfl (hb hby at_397) rfl rfl kk))))))) ?_
                  show own_Fin _ _ _ _ _ _ _ (T630.setTop (mkF m 399 #[.val (.int p0), .val (.int p1), .val (.int p2), .val (.int (4 : Int32)), .val (.int xa), .val (.int xb), .val (.int xc), .val (.int xd), .val (.ref b401), .val (.ref b414), .val (.ref b457), .val (.int (2 : Int32)), .val (.ref r630)] [(.ref b401)]))
                  refine own_alen X630 hx hZ rfl f631 (hb hby at_399) ?_
                  show own_Fin _ _ _ _ _ _ _ (T630.setTop (mkF m 400 #[.val (.int p0), .val (.int p1), .val (.int p2), .val (.int (4 : Int32)), .val (.int xa), .val (.int xb), .val (.int xc), .val (.int xd), .val (.ref b401), .val (.ref b414), .val (.ref b457), .val (.int (2 : Int32)), .val (.ref r630)] [(.int (4 : Int32))]))
                  refine own_go (fun _ kk => XS.iloadN X630.here hx rfl (hb hby at_400) rfl (XS.icmpYes X630.here hx rfl (pc0 := 401) (pc' := 406) rfl (hb hby at_401) rfl (XT.ii_eq_t (by decide)) (by decide) (by decide) (XS.iloadN X630.here hx rfl (hb hby at_406) rfl (XS.ifNo X630.here hx rfl (hb hby at_407) rfl (XT.i0_le_f (by decide)) (XS.aload X630.here hx rfl (hb hby at_410) rfl rfl (XS.iconst X630.here hx rfl (hb hby at_412) kk)))))) ?_
                  show own_Fin _ _ _ _ _ _ _ (T630.setTop (mkF m 413 #[.val (.int p0), .val (.int p1), .val (.int p2), .val (.int (4 : Int32)), .val (.int xa), .val (.int xb), .val (.int xc), .val (.int xd), .val (.ref b401), .val (.ref b414), .val (.ref b457), .val (.int (2 : Int32)), .val (.ref r630)] [(.int (0 : Int32)), (.ref b401)]))
                  refine own_ldI X630 hx hZ rfl f631 (by decide) (by show (0 : Int32).toNatClampNeg < 4; decide) (hb hby at_413) ?_
                  show own_Fin _ _ _ _ _ _ _ (T630.setTop (mkF m 414 #[.val (.int p0), .val (.int p1), .val (.int p2), .val (.int (4 : Int32)), .val (.int xa), .val (.int xb), .val (.int xc), .val (.int xd), .val (.ref b401), .val (.ref b414), .val (.ref b457), .val (.int (2 : Int32)), .val (.ref r630)] [(.int xa)]))
                  refine own_go (fun _ kk => XS.iload X630.here hx rfl (hb hby at_414) rfl (XS.icmpYes X630.here hx rfl (pc0 := 416) (pc' := 421) rfl (hb hby at_416) rfl (XT.ii_eq_t rfl) (by decide) (by decide) (XS.iloadN X630.here hx rfl (hb hby at_421) rfl (XS.iconst X630.here hx rfl (hb hby at_422) (XS.icmpNo X630.here hx rfl (hb hby at_423) rfl (XT.ii_le_f (by decide)) (XS.aload X630.here hx rfl (hb hby at_426) rfl rfl (XS.iconst X630.here hx rfl (hb hby at_428) kk))))))) ?_
                  show own_Fin _ _ _ _ _ _ _ (T630.setTop (mkF m 429 #[.val (.int p0), .val (.int p1), .val (.int p2), .val (.int (4 : Int32)), .val (.int xa), .val (.int xb), .val (.int xc), .val (.int xd), .val (.ref b401), .val (.ref b414), .val (.ref b457), .val (.int (2 : Int32)), .val (.ref r630)] [(.int (1 : Int32)), (.ref b401)]))
                  refine own_ldI X630 hx hZ rfl f631 (by decide) (by show (1 : Int32).toNatClampNeg < 4; decide) (hb hby at_429) ?_
                  show own_Fin _ _ _ _ _ _ _ (T630.setTop (mkF m 430 #[.val (.int p0), .val (.int p1), .val (.int p2), .val (.int (4 : Int32)), .val (.int xa), .val (.int xb), .val (.int xc), .val (.int xd), .val (.ref b401), .val (.ref b414), .val (.ref b457), .val (.int (2 : Int32)), .val (.ref r630)] [(.int xb)]))
                  refine own_go (fun _ kk => XS.iload X630.here hx rfl (hb hby at_430) rfl (XS.icmpYes X630.here hx rfl (pc0 := 432) (pc' := 437) rfl (hb hby at_432) rfl (XT.ii_eq_t rfl) (by decide) (by decide) (XS.iloadN X630.here hx rfl (hb hby at_437) rfl (XS.iconst X630.here hx rfl (hb hby at_438) (XS.icmpNo X630.here hx rfl (hb hby at_439) rfl (XT.ii_le_f (by decide)) (XS.aload X630.here hx rfl (hb hby at_442) rfl rfl (XS.iconst X630.here hx rfl (hb hby at_444) kk))))))) ?_
                  show own_Fin _ _ _ _ _ _ _ (T630.setTop (mkF m 445 #[.val (.int p0), .val (.int p1), .val (.int p2), .val (.int (4 : Int32)), .val (.int xa), .val (.int xb), .val (.int xc), .val (.int xd), .val (.ref b401), .val (.ref b414), .val (.ref b457), .val (.int (2 : Int32)), .val (.ref r630)] [(.int (2 : Int32)), (.ref b401)]))
                  refine own_ldI X630 hx hZ rfl f631 (by decide) (by show (2 : Int32).toNatClampNeg < 4; decide) (hb hby at_445) ?_
                  show own_Fin _ _ _ _ _ _ _ (T630.setTop (mkF m 446 #[.val (.int p0), .val (.int p1), .val (.int p2), .val (.int (4 : Int32)), .val (.int xa), .val (.int xb), .val (.int xc), .val (.int xd), .val (.ref b401), .val (.ref b414), .val (.ref b457), .val (.int (2 : Int32)), .val (.ref r630)] [(.int xc)]))
                  refine own_go (fun _ kk => XS.iload X630.here hx rfl (hb hby at_446) rfl (XS.icmpYes X630.here hx rfl (pc0 := 448) (pc' := 453) rfl (hb hby at_448) rfl (XT.ii_eq_t rfl) (by decide) (by decide) (XS.iloadN X630.here hx rfl (hb hby at_453) rfl (XS.iconst X630.here hx rfl (hb hby at_454) (XS.icmpNo X630.here hx rfl (hb hby at_455) rfl (XT.ii_le_f (by decide)) (XS.aload X630.here hx rfl (hb hby at_458) rfl rfl (XS.iconst X630.here hx rfl (hb hby at_460) kk))))))) ?_
                  show own_Fin _ _ _ _ _ _ _ (T630.setTop (mkF m 461 #[.val (.int p0), .val (.int p1), .val (.int p2), .val (.int (4 : Int32)), .val (.int xa), .val (.int xb), .val (.int xc), .val (.int xd), .val (.ref b401), .val (.ref b414), .val (.ref b457), .val (.int (2 : Int32)), .val (.ref r630)] [(.int (3 : Int32)), (.ref b401)]))
                  refine own_ldI X630 hx hZ rfl f631 (by decide) (by show (3 : Int32).toNatClampNeg < 4; decide) (hb hby at_461) ?_
                  show own_Fin _ _ _ _ _ _ _ (T630.setTop (mkF m 462 #[.val (.int p0), .val (.int p1), .val (.int p2), .val (.int (4 : Int32)), .val (.int xa), .val (.int xb), .val (.int xc), .val (.int xd), .val (.ref b401), .val (.ref b414), .val (.ref b457), .val (.int (2 : Int32)), .val (.ref r630)] [(.int xd)]))
                  refine own_go (fun _ kk => XS.iload X630.here hx rfl (hb hby at_462) rfl (XS.icmpYes X630.here hx rfl (pc0 := 464) (pc' := 469) rfl (hb hby at_464) rfl (XT.ii_eq_t rfl) (by decide) (by decide) (XS.aload X630.here hx rfl (hb hby at_469) rfl rfl kk))) ?_
                  show own_Fin _ _ _ _ _ _ _ (T630.setTop (mkF m 471 #[.val (.int p0), .val (.int p1), .val (.int p2), .val (.int (4 : Int32)), .val (.int xa), .val (.int xb), .val (.int xc), .val (.int xd), .val (.ref b401), .val (.ref b414), .val (.ref b457), .val (.int (2 : Int32)), .val (.ref r630)] [(.ref r630)]))
                  refine own_alen X630 hx hZ rfl F630 (hb hby at_471) ?_
                  show own_Fin _ _ _ _ _ _ _ (T630.setTop (mkF m 472 #[.val (.int p0), .val (.int p1), .val (.int p2), .val (.int (4 : Int32)), .val (.int xa), .val (.int xb), .val (.int xc), .val (.int xd), .val (.ref b401), .val (.ref b414), .val (.ref b457), .val (.int (2 : Int32)), .val (.ref r630)] [(.int (2 : Int32))]))
                  refine own_go (fun _ kk => XS.iload X630.here hx rfl (hb hby at_472) rfl (XS.icmpYes X630.here hx rfl (pc0 := 474) (pc' := 479) rfl (hb hby at_474) rfl (XT.ii_eq_t (by decide)) (by decide) (by decide) (XS.iload X630.here hx rfl (hb hby at_479) rfl (XS.ifNo X630.here hx rfl (hb hby at_481) rfl (XT.i0_le_f (by decide)) (XS.aload X630.here hx rfl (hb hby at_484) rfl rfl (XS.iconst X630.here hx rfl (hb hby at_486) kk)))))) ?_
                  show own_Fin _ _ _ _ _ _ _ (T630.setTop (mkF m 487 #[.val (.int p0), .val (.int p1), .val (.int p2), .val (.int (4 : Int32)), .val (.int xa), .val (.int xb), .val (.int xc), .val (.int xd), .val (.ref b401), .val (.ref b414), .val (.ref b457), .val (.int (2 : Int32)), .val (.ref r630)] [(.int (0 : Int32)), (.ref r630)]))
                  refine own_ldI X630 hx hZ rfl F630 (by decide) (by show (0 : Int32).toNatClampNeg < 2; decide) (hb hby at_487) ?_
                  show own_Fin _ _ _ _ _ _ _ (T630.setTop (mkF m 488 #[.val (.int p0), .val (.int p1), .val (.int p2), .val (.int (4 : Int32)), .val (.int xa), .val (.int xb), .val (.int xc), .val (.int xd), .val (.ref b401), .val (.ref b414), .val (.ref b457), .val (.int (2 : Int32)), .val (.ref r630)] [(.int xa)]))
                  refine own_go (fun _ kk => XS.aload X630.here hx rfl (hb hby at_488) rfl rfl (XS.iconst X630.here hx rfl (hb hby at_490) kk)) ?_
                  show own_Fin _ _ _ _ _ _ _ (T630.setTop (mkF m 491 #[.val (.int p0), .val (.int p1), .val (.int p2), .val (.int (4 : Int32)), .val (.int xa), .val (.int xb), .val (.int xc), .val (.int xd), .val (.ref b401), .val (.ref b414), .val (.ref b457), .val (.int (2 : Int32)), .val (.ref r630)] [(.int (0 : Int32)), (.ref b457), (.int xa)]))
                  refine own_ldI X630 hx hZ rfl f635 (by decide) (by show (0 : Int32).toNatClampNeg < 4; decide) (hb hby at_491) ?_
                  show own_Fin _ _ _ _ _ _ _ (T630.setTop (mkF m 492 #[.val (.int p0), .val (.int p1), .val (.int p2), .val (.int (4 : Int32)), .val (.int xa), .val (.int xb), .val (.int xc), .val (.int xd), .val (.ref b401), .val (.ref b414), .val (.ref b457), .val (.int (2 : Int32)), .val (.ref r630)] [(.int xa), (.int xa)]))
                  refine own_go (fun _ kk => XS.icmpYes X630.here hx rfl (pc0 := 492) (pc' := 497) rfl (hb hby at_492) rfl (XT.ii_eq_t rfl) (by decide) (by decide) (XS.iload X630.here hx rfl (hb hby at_497) rfl (XS.iconst X630.here hx rfl (hb hby at_499) (XS.icmpNo X630.here hx rfl (hb hby at_500) rfl (XT.ii_le_f (by decide)) (XS.aload X630.here hx rfl (hb hby at_503) rfl rfl (XS.iconst X630.here hx rfl (hb hby at_505) kk)))))) ?_
                  show own_Fin _ _ _ _ _ _ _ (T630.setTop (mkF m 506 #[.val (.int p0), .val (.int p1), .val (.int p2), .val (.int (4 : Int32)), .val (.int xa), .val (.int xb), .val (.int xc), .val (.int xd), .val (.ref b401), .val (.ref b414), .val (.ref b457), .val (.int (2 : Int32)), .val (.ref r630)] [(.int (1 : Int32)), (.ref r630)]))
                  refine own_ldI X630 hx hZ rfl F630 (by decide) (by show (1 : Int32).toNatClampNeg < 2; decide) (hb hby at_506) ?_
                  show own_Fin _ _ _ _ _ _ _ (T630.setTop (mkF m 507 #[.val (.int p0), .val (.int p1), .val (.int p2), .val (.int (4 : Int32)), .val (.int xa), .val (.int xb), .val (.int xc), .val (.int xd), .val (.ref b401), .val (.ref b414), .val (.ref b457), .val (.int (2 : Int32)), .val (.ref r630)] [(.int xb)]))
                  refine own_go (fun _ kk => XS.aload X630.here hx rfl (hb hby at_507) rfl rfl (XS.iconst X630.here hx rfl (hb hby at_509) kk)) ?_
                  show own_Fin _ _ _ _ _ _ _ (T630.setTop (mkF m 510 #[.val (.int p0), .val (.int p1), .val (.int p2), .val (.int (4 : Int32)), .val (.int xa), .val (.int xb), .val (.int xc), .val (.int xd), .val (.ref b401), .val (.ref b414), .val (.ref b457), .val (.int (2 : Int32)), .val (.ref r630)] [(.int (1 : Int32)), (.ref b457), (.int xb)]))
                  refine own_ldI X630 hx hZ rfl f635 (by decide) (by show (1 : Int32).toNatClampNeg < 4; decide) (hb hby at_510) ?_
                  show own_Fin _ _ _ _ _ _ _ (T630.setTop (mkF m 511 #[.val (.int p0), .val (.int p1), .val (.int p2), .val (.int (4 : Int32)), .val (.int xa), .val (.int xb), .val (.int xc), .val (.int xd), .val (.ref b401), .val (.ref b414), .val (.ref b457), .val (.int (2 : Int32)), .val (.ref r630)] [(.int xb), (.int xb)]))
                  refine own_go (fun _ kk => XS.icmpYes X630.here hx rfl (pc0 := 511) (pc' := 516) rfl (hb hby at_511) rfl (XT.ii_eq_t rfl) (by decide) (by decide) (XS.iload X630.here hx rfl (hb hby at_516) rfl (XS.iconst X630.here hx rfl (hb hby at_518) (XS.icmpYes X630.here hx rfl (pc0 := 519) (pc' := 535) rfl (hb hby at_519) rfl (XT.ii_le_t (by decide)) (by decide) (by decide) (XS.iload X630.here hx rfl (hb hby at_535) rfl (XS.iconst X630.here hx rfl (hb hby at_537) (XS.icmpYes X630.here hx rfl (pc0 := 538) (pc' := 554) rfl (hb hby at_538) rfl (XT.ii_le_t (by decide)) (by decide) (by decide) (XS.iconst X630.here hx rfl (hb hby at_554) kk)))))))) ?_
                  show own_Fin _ _ _ _ _ _ _ (T630.setTop (mkF m 555 #[.val (.int p0), .val (.int p1), .val (.int p2), .val (.int (4 : Int32)), .val (.int xa), .val (.int xb), .val (.int xc), .val (.int xd), .val (.ref b401), .val (.ref b414), .val (.ref b457), .val (.int (2 : Int32)), .val (.ref r630)] [(.int (1 : Int32))]))
                  exact own_retZ X630 hx hlk hret rfl (hb hby at_555) (by decide) (by decide) ⟨rfl, N630⟩
                · refine own_go (fun _ kk => XS.ifNo X623.here hx rfl (hb hby at_361) rfl (XT.i0_eq_f hc361) (XS.aload X623.here hx rfl (hb hby at_364) rfl rfl (XS.iload X623.here hx rfl (hb hby at_366) rfl (XS.iload X623.here hx rfl (hb hby at_368) rfl kk)))) ?_
                  show own_Fin _ _ _ _ _ _ _ (T623.setTop (mkF m 370 #[.val (.int p0), .val (.int p1), .val (.int p2), .val (.int (4 : Int32)), .val (.int xa), .val (.int xb), .val (.int xc), .val (.int xd), .val (.ref b401), .val (.ref b414), .val (.ref b457), .val (.int (2 : Int32)), .unset] [(.int xd), (.int (2 : Int32)), (.ref b457)]))
                  refine own_stI X623 hx hZ e623 A623 (by decide) (by show (2 : Int32).toNatClampNeg < 4; decide) (hb hby at_370) ?_
                  intro T637 h637 X637 e637 W637 A637
                  have f638 := f624.other W637 ne_b401_b457
                  have f639 := f625.wr W637
                  have f640 := f626.other W637 ne_b414_b457
                  have f641 := f627.wr W637
                  have f643 := f629.wr W637
                  have Z637 := Nat.le_trans Z623 (Keep.of_wr W637).1
                  have A637 : own_Ar Z h637 b457 .int (List.map Value.int [xa, xb, xd, (0 : Int32)]) := A637
                  have N637 := Fr.snoc X637 N623 g_b457
                  show own_Fin _ _ _ _ _ _ _ (T637.setTop (mkF m 371 #[.val (.int p0), .val (.int p1), .val (.int p2), .val (.int (4 : Int32)), .val (.int xa), .val (.int xb), .val (.int xc), .val (.int xd), .val (.ref b401), .val (.ref b414), .val (.ref b457), .val (.int (2 : Int32)), .unset] []))
                  refine own_go (fun _ kk => XS.iinc X637.here hx rfl (hb hby at_371) rfl (l' := #[.val (.int p0), .val (.int p1), .val (.int p2), .val (.int (4 : Int32)), .val (.int xa), .val (.int xb), .val (.int xc), .val (.int xd), .val (.ref b401), .val (.ref b414), .val (.ref b457), .val (.int (3 : Int32)), .unset]) rfl (XS.aload X637.here hx rfl (hb hby at_374) rfl rfl (XS.aload X637.here hx rfl (hb hby at_376) rfl rfl kk))) ?_
                  show own_Fin _ _ _ _ _ _ _ (T637.setTop (mkF m 378 #[.val (.int p0), .val (.int p1), .val (.int p2), .val (.int (4 : Int32)), .val (.int xa), .val (.int xb), .val (.int xc), .val (.int xd), .val (.ref b401), .val (.ref b414), .val (.ref b457), .val (.int (3 : Int32)), .unset] [(.ref b414), (.ref b401)]))
                  refine own_callS X637 hx hZ hown (hw _ (List.mem_of_getElem? (i := 7) rfl)) (hw _ (List.mem_of_getElem? (i := 8) rfl)) (hw _ (List.mem_of_getElem? (i := 9) rfl)) (hw _ (List.mem_of_getElem? (i := 10) rfl)) (by decide) (rm2 l Z a0 hw b401 b414 h637 n0 Z637 [xa, xb, xc, xd] bs f638 f640 (by show 4 ≤ 4; decide) (List.forall_mem_cons.mpr ⟨sa, (List.forall_mem_cons.mpr ⟨sb, (List.forall_mem_cons.mpr ⟨sc, (List.forall_mem_cons.mpr ⟨sd, (fun x h => nomatch h)⟩)⟩)⟩)⟩)) e637 (argsL := [(.ref b401), (.ref b414)]) (rest := []) rfl rfl (by rw [hml]; rfl) (lenOf pd_0_1 rfl) (hb hby at_378) (W := 0) (Nat.le_of_eq rfl) (by decide) (by decide) (by decide) (by decide) ?_
                  rintro v644 T644 L644 X644 ⟨r644, rfl, M644, Kc644, sz644, A644⟩
                  have N644 := Fr.app N637 M644
                  have ne644 : r644 ≠ b401 := Nat.ne_of_gt (Nat.lt_of_lt_of_le f638.lt sz644)
                  have f645 := f638.keep Kc644 nin0
                  have f646 := f639.keep Kc644
                  have f647 := f640.keep Kc644 nin0
                  have f648 := f641.keep Kc644
                  have f649 := A637.keep Kc644 nin0
                  have f650 := f643.keep Kc644
                  have Z644 := Nat.le_trans Z637 Kc644.1
                  have F644 : own_Ar Z T644.heap r644 .int (List.map Value.int [xa, xb, xd]) := by
                    rw [List.filter_cons_of_pos (show own_mk bs xa = true from decide_eq_true hc292), List.filter_cons_of_pos (show own_mk bs xb = true from decide_eq_true hc315), List.filter_cons_of_neg (by rw [show own_mk bs xc = false from decide_eq_false (fun q => q hc338)]; decide), List.filter_cons_of_pos (show own_mk bs xd = true from decide_eq_true hc361), List.filter_nil] at A644
                    exact A644
                  show own_Fin _ _ _ _ _ _ _ (T644.setTop (mkF m 381 #[.val (.int p0), .val (.int p1), .val (.int p2), .val (.int (4 : Int32)), .val (.int xa), .val (.int xb), .val (.int xc), .val (.int xd), .val (.ref b401), .val (.ref b414), .val (.ref b457), .val (.int (3 : Int32)), .unset] [(.ref r644)]))
                  refine own_go (fun _ kk => XS.astore X644.here hx rfl (hb hby at_381) rfl rfl (l' := #[.val (.int p0), .val (.int p1), .val (.int p2), .val (.int (4 : Int32)), .val (.int xa), .val (.int xb), .val (.int xc), .val (.int xd), .val (.ref b401), .val (.ref b414), .val (.ref b457), .val (.int (3 : Int32)), .val (.ref r644)]) rfl (XS.aload X644.here hx rfl (hb hby at_383) rfl rfl (XS.ifnullNo X644.here hx rfl (hb hby at_385) rfl (XS.aload X644.here hx rfl (hb hby at_388) rfl rfl (XS.aload X644.here hx rfl (hb hby at_390) rfl rfl (XT.acmpYes X644.here hx rfl (pc0 := 392) (pc' := 397) rfl (hb hby at_392) rfl rfl rfl (XT.aa_ne_t (fun q => ne644 (Value.ref.inj q))) (by decide) (by decide) (XS.aload X644.here hx rfl (hb hby at_397) rfl rfl kk))))))) ?_
                  show own_Fin _ _ _ _ _ _ _ (T644.setTop (mkF m 399 #[.val (.int p0), .val (.int p1), .val (.int p2), .val (.int (4 : Int32)), .val (.int xa), .val (.int xb), .val (.int xc), .val (.int xd), .val (.ref b401), .val (.ref b414), .val (.ref b457), .val (.int (3 : Int32)), .val (.ref r644)] [(.ref b401)]))
                  refine own_alen X644 hx hZ rfl f645 (hb hby at_399) ?_
                  show own_Fin _ _ _ _ _ _ _ (T644.setTop (mkF m 400 #[.val (.int p0), .val (.int p1), .val (.int p2), .val (.int (4 : Int32)), .val (.int xa), .val (.int xb), .val (.int xc), .val (.int xd), .val (.ref b401), .val (.ref b414), .val (.ref b457), .val (.int (3 : Int32)), .val (.ref r644)] [(.int (4 : Int32))]))
                  refine own_go (fun _ kk => XS.iloadN X644.here hx rfl (hb hby at_400) rfl (XS.icmpYes X644.here hx rfl (pc0 := 401) (pc' := 406) rfl (hb hby at_401) rfl (XT.ii_eq_t (by decide)) (by decide) (by decide) (XS.iloadN X644.here hx rfl (hb hby at_406) rfl (XS.ifNo X644.here hx rfl (hb hby at_407) rfl (XT.i0_le_f (by decide)) (XS.aload X644.here hx rfl (hb hby at_410) rfl rfl (XS.iconst X644.here hx rfl (hb hby at_412) kk)))))) ?_
                  show own_Fin _ _ _ _ _ _ _ (T644.setTop (mkF m 413 #[.val (.int p0), .val (.int p1), .val (.int p2), .val (.int (4 : Int32)), .val (.int xa), .val (.int xb), .val (.int xc), .val (.int xd), .val (.ref b401), .val (.ref b414), .val (.ref b457), .val (.int (3 : Int32)), .val (.ref r644)] [(.int (0 : Int32)), (.ref b401)]))
                  refine own_ldI X644 hx hZ rfl f645 (by decide) (by show (0 : Int32).toNatClampNeg < 4; decide) (hb hby at_413) ?_
                  show own_Fin _ _ _ _ _ _ _ (T644.setTop (mkF m 414 #[.val (.int p0), .val (.int p1), .val (.int p2), .val (.int (4 : Int32)), .val (.int xa), .val (.int xb), .val (.int xc), .val (.int xd), .val (.ref b401), .val (.ref b414), .val (.ref b457), .val (.int (3 : Int32)), .val (.ref r644)] [(.int xa)]))
                  refine own_go (fun _ kk => XS.iload X644.here hx rfl (hb hby at_414) rfl (XS.icmpYes X644.here hx rfl (pc0 := 416) (pc' := 421) rfl (hb hby at_416) rfl (XT.ii_eq_t rfl) (by decide) (by decide) (XS.iloadN X644.here hx rfl (hb hby at_421) rfl (XS.iconst X644.here hx rfl (hb hby at_422) (XS.icmpNo X644.here hx rfl (hb hby at_423) rfl (XT.ii_le_f (by decide)) (XS.aload X644.here hx rfl (hb hby at_426) rfl rfl (XS.iconst X644.here hx rfl (hb hby at_428) kk))))))) ?_
                  show own_Fin _ _ _ _ _ _ _ (T644.setTop (mkF m 429 #[.val (.int p0), .val (.int p1), .val (.int p2), .val (.int (4 : Int32)), .val (.int xa), .val (.int xb), .val (.int xc), .val (.int xd), .val (.ref b401), .val (.ref b414), .val (.ref b457), .val (.int (3 : Int32)), .val (.ref r644)] [(.int (1 : Int32)), (.ref b401)]))
                  refine own_ldI X644 hx hZ rfl f645 (by decide) (by show (1 : Int32).toNatClampNeg < 4; decide) (hb hby at_429) ?_
                  show own_Fin _ _ _ _ _ _ _ (T644.setTop (mkF m 430 #[.val (.int p0), .val (.int p1), .val (.int p2), .val (.int (4 : Int32)), .val (.int xa), .val (.int xb), .val (.int xc), .val (.int xd), .val (.ref b401), .val (.ref b414), .val (.ref b457), .val (.int (3 : Int32)), .val (.ref r644)] [(.int xb)]))
                  refine own_go (fun _ kk => XS.iload X644.here hx rfl (hb hby at_430) rfl (XS.icmpYes X644.here hx rfl (pc0 := 432) (pc' := 437) rfl (hb hby at_432) rfl (XT.ii_eq_t rfl) (by decide) (by decide) (XS.iloadN X644.here hx rfl (hb hby at_437) rfl (XS.iconst X644.here hx rfl (hb hby at_438) (XS.icmpNo X644.here hx rfl (hb hby at_439) rfl (XT.ii_le_f (by decide)) (XS.aload X644.here hx rfl (hb hby at_442) rfl rfl (XS.iconst X644.here hx rfl (hb hby at_444) kk))))))) ?_
                  show own_Fin _ _ _ _ _ _ _ (T644.setTop (mkF m 445 #[.val (.int p0), .val (.int p1), .val (.int p2), .val (.int (4 : Int32)), .val (.int xa), .val (.int xb), .val (.int xc), .val (.int xd), .val (.ref b401), .val (.ref b414), .val (.ref b457), .val (.int (3 : Int32)), .val (.ref r644)] [(.int (2 : Int32)), (.ref b401)]))
                  refine own_ldI X644 hx hZ rfl f645 (by decide) (by show (2 : Int32).toNatClampNeg < 4; decide) (hb hby at_445) ?_
                  show own_Fin _ _ _ _ _ _ _ (T644.setTop (mkF m 446 #[.val (.int p0), .val (.int p1), .val (.int p2), .val (.int (4 : Int32)), .val (.int xa), .val (.int xb), .val (.int xc), .val (.int xd), .val (.ref b401), .val (.ref b414), .val (.ref b457), .val (.int (3 : Int32)), .val (.ref r644)] [(.int xc)]))
                  refine own_go (fun _ kk => XS.iload X644.here hx rfl (hb hby at_446) rfl (XS.icmpYes X644.here hx rfl (pc0 := 448) (pc' := 453) rfl (hb hby at_448) rfl (XT.ii_eq_t rfl) (by decide) (by decide) (XS.iloadN X644.here hx rfl (hb hby at_453) rfl (XS.iconst X644.here hx rfl (hb hby at_454) (XS.icmpNo X644.here hx rfl (hb hby at_455) rfl (XT.ii_le_f (by decide)) (XS.aload X644.here hx rfl (hb hby at_458) rfl rfl (XS.iconst X644.here hx rfl (hb hby at_460) kk))))))) ?_
                  show own_Fin _ _ _ _ _ _ _ (T644.setTop (mkF m 461 #[.val (.int p0), .val (.int p1), .val (.int p2), .val (.int (4 : Int32)), .val (.int xa), .val (.int xb), .val (.int xc), .val (.int xd), .val (.ref b401), .val (.ref b414), .val (.ref b457), .val (.int (3 : Int32)), .val (.ref r644)] [(.int (3 : Int32)), (.ref b401)]))
                  refine own_ldI X644 hx hZ rfl f645 (by decide) (by show (3 : Int32).toNatClampNeg < 4; decide) (hb hby at_461) ?_
                  show own_Fin _ _ _ _ _ _ _ (T644.setTop (mkF m 462 #[.val (.int p0), .val (.int p1), .val (.int p2), .val (.int (4 : Int32)), .val (.int xa), .val (.int xb), .val (.int xc), .val (.int xd), .val (.ref b401), .val (.ref b414), .val (.ref b457), .val (.int (3 : Int32)), .val (.ref r644)] [(.int xd)]))
                  refine own_go (fun _ kk => XS.iload X644.here hx rfl (hb hby at_462) rfl (XS.icmpYes X644.here hx rfl (pc0 := 464) (pc' := 469) rfl (hb hby at_464) rfl (XT.ii_eq_t rfl) (by decide) (by decide) (XS.aload X644.here hx rfl (hb hby at_469) rfl rfl kk))) ?_
                  show own_Fin _ _ _ _ _ _ _ (T644.setTop (mkF m 471 #[.val (.int p0), .val (.int p1), .val (.int p2), .val (.int (4 : Int32)), .val (.int xa), .val (.int xb), .val (.int xc), .val (.int xd), .val (.ref b401), .val (.ref b414), .val (.ref b457), .val (.int (3 : Int32)), .val (.ref r644)] [(.ref r644)]))
                  refine own_alen X644 hx hZ rfl F644 (hb hby at_471) ?_
                  show own_Fin _ _ _ _ _ _ _ (T644.setTop (mkF m 472 #[.val (.int p0), .val (.int p1), .val (.int p2), .val (.int (4 : Int32)), .val (.int xa), .val (.int xb), .val (.int xc), .val (.int xd), .val (.ref b401), .val (.ref b414), .val (.ref b457), .val (.int (3 : Int32)), .val (.ref r644)] [(.int (3 : Int32))]))
                  refine own_go (fun _ kk => XS.iload X644.here hx rfl (hb hby at_472) rfl (XS.icmpYes X644.here hx rfl (pc0 := 474) (pc' := 479) rfl (hb hby at_474) rfl (XT.ii_eq_t (by decide)) (by decide) (by decide) (XS.iload X644.here hx rfl (hb hby at_479) rfl (XS.ifNo X644.here hx rfl (hb hby at_481) rfl (XT.i0_le_f (by decide)) (XS.aload X644.here hx rfl (hb hby at_484) rfl rfl (XS.iconst X644.here hx rfl (hb hby at_486) kk)))))) ?_
                  show own_Fin _ _ _ _ _ _ _ (T644.setTop (mkF m 487 #[.val (.int p0), .val (.int p1), .val (.int p2), .val (.int (4 : Int32)), .val (.int xa), .val (.int xb), .val (.int xc), .val (.int xd), .val (.ref b401), .val (.ref b414), .val (.ref b457), .val (.int (3 : Int32)), .val (.ref r644)] [(.int (0 : Int32)), (.ref r644)]))
                  refine own_ldI X644 hx hZ rfl F644 (by decide) (by show (0 : Int32).toNatClampNeg < 3; decide) (hb hby at_487) ?_
                  show own_Fin _ _ _ _ _ _ _ (T644.setTop (mkF m 488 #[.val (.int p0), .val (.int p1), .val (.int p2), .val (.int (4 : Int32)), .val (.int xa), .val (.int xb), .val (.int xc), .val (.int xd), .val (.ref b401), .val (.ref b414), .val (.ref b457), .val (.int (3 : Int32)), .val (.ref r644)] [(.int xa)]))
                  refine own_go (fun _ kk => XS.aload X644.here hx rfl (hb hby at_488) rfl rfl (XS.iconst X644.here hx rfl (hb hby at_490) kk)) ?_
                  show own_Fin _ _ _ _ _ _ _ (T644.setTop (mkF m 491 #[.val (.int p0), .val (.int p1), .val (.int p2), .val (.int (4 : Int32)), .val (.int xa), .val (.int xb), .val (.int xc), .val (.int xd), .val (.ref b401), .val (.ref b414), .val (.ref b457), .val (.int (3 : Int32)), .val (.ref r644)] [(.int (0 : Int32)), (.ref b457), (.int xa)]))
                  refine own_ldI X644 hx hZ rfl f649 (by decide) (by show (0 : Int32).toNatClampNeg < 4; decide) (hb hby at_491) ?_
                  show own_Fin _ _ _ _ _ _ _ (T644.setTop (mkF m 492 #[.val (.int p0), .val (.int p1), .val (.int p2), .val (.int (4 : Int32)), .val (.int xa), .val (.int xb), .val (.int xc), .val (.int xd), .val (.ref b401), .val (.ref b414), .val (.ref b457), .val (.int (3 : Int32)), .val (.ref r644)] [(.int xa), (.int xa)]))
                  refine own_go (fun _ kk => XS.icmpYes X644.here hx rfl (pc0 := 492) (pc' := 497) rfl (hb hby at_492) rfl (XT.ii_eq_t rfl) (by decide) (by decide) (XS.iload X644.here hx rfl (hb hby at_497) rfl (XS.iconst X644.here hx rfl (hb hby at_499) (XS.icmpNo X644.here hx rfl (hb hby at_500) rfl (XT.ii_le_f (by decide)) (XS.aload X644.here hx rfl (hb hby at_503) rfl rfl (XS.iconst X644.here hx rfl (hb hby at_505) kk)))))) ?_
                  show own_Fin _ _ _ _ _ _ _ (T644.setTop (mkF m 506 #[.val (.int p0), .val (.int p1), .val (.int p2), .val (.int (4 : Int32)), .val (.int xa), .val (.int xb), .val (.int xc), .val (.int xd), .val (.ref b401), .val (.ref b414), .val (.ref b457), .val (.int (3 : Int32)), .val (.ref r644)] [(.int (1 : Int32)), (.ref r644)]))
                  refine own_ldI X644 hx hZ rfl F644 (by decide) (by show (1 : Int32).toNatClampNeg < 3; decide) (hb hby at_506) ?_
                  show own_Fin _ _ _ _ _ _ _ (T644.setTop (mkF m 507 #[.val (.int p0), .val (.int p1), .val (.int p2), .val (.int (4 : Int32)), .val (.int xa), .val (.int xb), .val (.int xc), .val (.int xd), .val (.ref b401), .val (.ref b414), .val (.ref b457), .val (.int (3 : Int32)), .val (.ref r644)] [(.int xb)]))
                  refine own_go (fun _ kk => XS.aload X644.here hx rfl (hb hby at_507) rfl rfl (XS.iconst X644.here hx rfl (hb hby at_509) kk)) ?_
                  show own_Fin _ _ _ _ _ _ _ (T644.setTop (mkF m 510 #[.val (.int p0), .val (.int p1), .val (.int p2), .val (.int (4 : Int32)), .val (.int xa), .val (.int xb), .val (.int xc), .val (.int xd), .val (.ref b401), .val (.ref b414), .val (.ref b457), .val (.int (3 : Int32)), .val (.ref r644)] [(.int (1 : Int32)), (.ref b457), (.int xb)]))
                  refine own_ldI X644 hx hZ rfl f649 (by decide) (by show (1 : Int32).toNatClampNeg < 4; decide) (hb hby at_510) ?_
                  show own_Fin _ _ _ _ _ _ _ (T644.setTop (mkF m 511 #[.val (.int p0), .val (.int p1), .val (.int p2), .val (.int (4 : Int32)), .val (.int xa), .val (.int xb), .val (.int xc), .val (.int xd), .val (.ref b401), .val (.ref b414), .val (.ref b457), .val (.int (3 : Int32)), .val (.ref r644)] [(.int xb), (.int xb)]))
                  refine own_go (fun _ kk => XS.icmpYes X644.here hx rfl (pc0 := 511) (pc' := 516) rfl (hb hby at_511) rfl (XT.ii_eq_t rfl) (by decide) (by decide) (XS.iload X644.here hx rfl (hb hby at_516) rfl (XS.iconst X644.here hx rfl (hb hby at_518) (XS.icmpNo X644.here hx rfl (hb hby at_519) rfl (XT.ii_le_f (by decide)) (XS.aload X644.here hx rfl (hb hby at_522) rfl rfl (XS.iconst X644.here hx rfl (hb hby at_524) kk)))))) ?_
                  show own_Fin _ _ _ _ _ _ _ (T644.setTop (mkF m 525 #[.val (.int p0), .val (.int p1), .val (.int p2), .val (.int (4 : Int32)), .val (.int xa), .val (.int xb), .val (.int xc), .val (.int xd), .val (.ref b401), .val (.ref b414), .val (.ref b457), .val (.int (3 : Int32)), .val (.ref r644)] [(.int (2 : Int32)), (.ref r644)]))
                  refine own_ldI X644 hx hZ rfl F644 (by decide) (by show (2 : Int32).toNatClampNeg < 3; decide) (hb hby at_525) ?_
                  show own_Fin _ _ _ _ _ _ _ (T644.setTop (mkF m 526 #[.val (.int p0), .val (.int p1), .val (.int p2), .val (.int (4 : Int32)), .val (.int xa), .val (.int xb), .val (.int xc), .val (.int xd), .val (.ref b401), .val (.ref b414), .val (.ref b457), .val (.int (3 : Int32)), .val (.ref r644)] [(.int xd)]))
                  refine own_go (fun _ kk => XS.aload X644.here hx rfl (hb hby at_526) rfl rfl (XS.iconst X644.here hx rfl (hb hby at_528) kk)) ?_
                  show own_Fin _ _ _ _ _ _ _ (T644.setTop (mkF m 529 #[.val (.int p0), .val (.int p1), .val (.int p2), .val (.int (4 : Int32)), .val (.int xa), .val (.int xb), .val (.int xc), .val (.int xd), .val (.ref b401), .val (.ref b414), .val (.ref b457), .val (.int (3 : Int32)), .val (.ref r644)] [(.int (2 : Int32)), (.ref b457), (.int xd)]))
                  refine own_ldI X644 hx hZ rfl f649 (by decide) (by show (2 : Int32).toNatClampNeg < 4; decide) (hb hby at_529) ?_
                  show own_Fin _ _ _ _ _ _ _ (T644.setTop (mkF m 530 #[.val (.int p0), .val (.int p1), .val (.int p2), .val (.int (4 : Int32)), .val (.int xa), .val (.int xb), .val (.int xc), .val (.int xd), .val (.ref b401), .val (.ref b414), .val (.ref b457), .val (.int (3 : Int32)), .val (.ref r644)] [(.int xd), (.int xd)]))
                  refine own_go (fun _ kk => XS.icmpYes X644.here hx rfl (pc0 := 530) (pc' := 535) rfl (hb hby at_530) rfl (XT.ii_eq_t rfl) (by decide) (by decide) (XS.iload X644.here hx rfl (hb hby at_535) rfl (XS.iconst X644.here hx rfl (hb hby at_537) (XS.icmpYes X644.here hx rfl (pc0 := 538) (pc' := 554) rfl (hb hby at_538) rfl (XT.ii_le_t (by decide)) (by decide) (by decide) (XS.iconst X644.here hx rfl (hb hby at_554) kk))))) ?_
                  show own_Fin _ _ _ _ _ _ _ (T644.setTop (mkF m 555 #[.val (.int p0), .val (.int p1), .val (.int p2), .val (.int (4 : Int32)), .val (.int xa), .val (.int xb), .val (.int xc), .val (.int xd), .val (.ref b401), .val (.ref b414), .val (.ref b457), .val (.int (3 : Int32)), .val (.ref r644)] [(.int (1 : Int32))]))
                  exact own_retZ X644 hx hlk hret rfl (hb hby at_555) (by decide) (by decide) ⟨rfl, N644⟩
              · refine own_go (fun _ kk => XS.ifNo X623.here hx rfl (hb hby at_338) rfl (XT.i0_eq_f hc338) (XS.aload X623.here hx rfl (hb hby at_341) rfl rfl (XS.iload X623.here hx rfl (hb hby at_343) rfl (XS.iload X623.here hx rfl (hb hby at_345) rfl kk)))) ?_
                show own_Fin _ _ _ _ _ _ _ (T623.setTop (mkF m 347 #[.val (.int p0), .val (.int p1), .val (.int p2), .val (.int (4 : Int32)), .val (.int xa), .val (.int xb), .val (.int xc), .val (.int xd), .val (.ref b401), .val (.ref b414), .val (.ref b457), .val (.int (2 : Int32)), .unset] [(.int xc), (.int (2 : Int32)), (.ref b457)]))
                refine own_stI X623 hx hZ e623 A623 (by decide) (by show (2 : Int32).toNatClampNeg < 4; decide) (hb hby at_347) ?_
                intro T651 h651 X651 e651 W651 A651
                have f652 := f624.other W651 ne_b401_b457
                have f653 := f625.wr W651
                have f654 := f626.other W651 ne_b414_b457
                have f655 := f627.wr W651
                have f657 := f629.wr W651
                have Z651 := Nat.le_trans Z623 (Keep.of_wr W651).1
                have A651 : own_Ar Z h651 b457 .int (List.map Value.int [xa, xb, xc, (0 : Int32)]) := A651
                have N651 := Fr.snoc X651 N623 g_b457
                show own_Fin _ _ _ _ _ _ _ (T651.setTop (mkF m 348 #[.val (.int p0), .val (.int p1), .val (.int p2), .val (.int (4 : Int32)), .val (.int xa), .val (.int xb), .val (.int xc), .val (.int xd), .val (.ref b401), .val (.ref b414), .val (.ref b457), .val (.int (2 : Int32)), .unset] []))
                refine own_go (fun _ kk => XS.iinc X651.here hx rfl (hb hby at_348) rfl (l' := #[.val (.int p0), .val (.int p1), .val (.int p2), .val (.int (4 : Int32)), .val (.int xa), .val (.int xb), .val (.int xc), .val (.int xd), .val (.ref b401), .val (.ref b414), .val (.ref b457), .val (.int (3 : Int32)), .unset]) rfl (XS.iloadN X651.here hx rfl (hb hby at_351) rfl (XS.iconst X651.here hx rfl (hb hby at_352) (XS.icmpNo X651.here hx rfl (hb hby at_353) rfl (XT.ii_le_f (by decide)) (XS.aload X651.here hx rfl (hb hby at_356) rfl rfl (XS.iload X651.here hx rfl (hb hby at_358) rfl kk)))))) ?_
                show own_Fin _ _ _ _ _ _ _ (T651.setTop (mkF m 360 #[.val (.int p0), .val (.int p1), .val (.int p2), .val (.int (4 : Int32)), .val (.int xa), .val (.int xb), .val (.int xc), .val (.int xd), .val (.ref b401), .val (.ref b414), .val (.ref b457), .val (.int (3 : Int32)), .unset] [(.int xd), (.ref b414)]))
                refine own_ldZ X651 hx hZ e651 f654 sd.1 sd.2 (hb hby at_360) ?_
                show own_Fin _ _ _ _ _ _ _ (T651.setTop (mkF m 361 #[.val (.int p0), .val (.int p1), .val (.int p2), .val (.int (4 : Int32)), .val (.int xa), .val (.int xb), .val (.int xc), .val (.int xd), .val (.ref b401), .val (.ref b414), .val (.ref b457), .val (.int (3 : Int32)), .unset] [(.int (List.getD bs (xd).toNatClampNeg 0))]))
                by_cases hc361 : (List.getD bs (xd).toNatClampNeg 0) = 0
                · refine own_go (fun _ kk => XS.ifYes X651.here hx rfl (pc0 := 361) (pc' := 374) rfl (hb hby at_361) rfl (XT.i0_eq_t hc361) (by decide) (by decide) (XS.aload X651.here hx rfl (hb hby at_374) rfl rfl (XS.aload X651.here hx rfl (hb hby at_376) rfl rfl kk))) ?_
                  show own_Fin _ _ _ _ _ _ _ (T651.setTop (mkF m 378 #[.val (.int p0), .val (.int p1), .val (.int p2), .val (.int (4 : Int32)), .val (.int xa), .val (.int xb), .val (.int xc), .val (.int xd), .val (.ref b401), .val (.ref b414), .val (.ref b457), .val (.int (3 : Int32)), .unset] [(.ref b414), (.ref b401)]))
                  refine own_callS X651 hx hZ hown (hw _ (List.mem_of_getElem? (i := 7) rfl)) (hw _ (List.mem_of_getElem? (i := 8) rfl)) (hw _ (List.mem_of_getElem? (i := 9) rfl)) (hw _ (List.mem_of_getElem? (i := 10) rfl)) (by decide) (rm2 l Z a0 hw b401 b414 h651 n0 Z651 [xa, xb, xc, xd] bs f652 f654 (by show 4 ≤ 4; decide) (List.forall_mem_cons.mpr ⟨sa, (List.forall_mem_cons.mpr ⟨sb, (List.forall_mem_cons.mpr ⟨sc, (List.forall_mem_cons.mpr ⟨sd, (fun x h => nomatch h)⟩)⟩)⟩)⟩)) e651 (argsL := [(.ref b401), (.ref b414)]) (rest := []) rfl rfl (by rw [hml]; rfl) (lenOf pd_0_1 rfl) (hb hby at_378) (W := 0) (Nat.le_of_eq rfl) (by decide) (by decide) (by decide) (by decide) ?_
                  rintro v658 T658 L658 X658 ⟨r658, rfl, M658, Kc658, sz658, A658⟩
                  have N658 := Fr.app N651 M658
                  have ne658 : r658 ≠ b401 := Nat.ne_of_gt (Nat.lt_of_lt_of_le f652.lt sz658)
                  have f659 := f652.keep Kc658 nin0
                  have f660 := f653.keep Kc658
                  have f661 := f654.keep Kc658 nin0
                  have f662 := f655.keep Kc658
                  have f663 := A651.keep Kc658 nin0
                  have f664 := f657.keep Kc658
                  have Z658 := Nat.le_trans Z651 Kc658.1
                  have F658 : own_Ar Z T658.heap r658 .int (List.map Value.int [xa, xb, xc]) := by
                    rw [List.filter_cons_of_pos (show own_mk bs xa = true from decide_eq_true hc292), List.filter_cons_of_pos (show own_mk bs xb = true from decide_eq_true hc315), List.filter_cons_of_pos (show own_mk bs xc = true from decide_eq_true hc338), List.filter_cons_of_neg (by rw [show own_mk bs xd = false from decide_eq_false (fun q => q hc361)]; decide), List.filter_nil] at A658
                    exact A658
                  show own_Fin _ _ _ _ _ _ _ (T658.setTop (mkF m 381 #[.val (.int p0), .val (.int p1), .val (.int p2), .val (.int (4 : Int32)), .val (.int xa), .val (.int xb), .val (.int xc), .val (.int xd), .val (.ref b401), .val (.ref b414), .val (.ref b457), .val (.int (3 : Int32)), .unset] [(.ref r658)]))
                  refine own_go (fun _ kk => XS.astore X658.here hx rfl (hb hby at_381) rfl rfl (l' := #[.val (.int p0), .val (.int p1), .val (.int p2), .val (.int (4 : Int32)), .val (.int xa), .val (.int xb), .val (.int xc), .val (.int xd), .val (.ref b401), .val (.ref b414), .val (.ref b457), .val (.int (3 : Int32)), .val (.ref r658)]) rfl (XS.aload X658.here hx rfl (hb hby at_383) rfl rfl (XS.ifnullNo X658.here hx rfl (hb hby at_385) rfl (XS.aload X658.here hx rfl (hb hby at_388) rfl rfl (XS.aload X658.here hx rfl (hb hby at_390) rfl rfl (XT.acmpYes X658.here hx rfl (pc0 := 392) (pc' := 397) rfl (hb hby at_392) rfl rfl rfl (XT.aa_ne_t (fun q => ne658 (Value.ref.inj q))) (by decide) (by decide) (XS.aload X658.here hx rfl (hb hby at_397) rfl rfl kk))))))) ?_
                  show own_Fin _ _ _ _ _ _ _ (T658.setTop (mkF m 399 #[.val (.int p0), .val (.int p1), .val (.int p2), .val (.int (4 : Int32)), .val (.int xa), .val (.int xb), .val (.int xc), .val (.int xd), .val (.ref b401), .val (.ref b414), .val (.ref b457), .val (.int (3 : Int32)), .val (.ref r658)] [(.ref b401)]))
                  refine own_alen X658 hx hZ rfl f659 (hb hby at_399) ?_
                  show own_Fin _ _ _ _ _ _ _ (T658.setTop (mkF m 400 #[.val (.int p0), .val (.int p1), .val (.int p2), .val (.int (4 : Int32)), .val (.int xa), .val (.int xb), .val (.int xc), .val (.int xd), .val (.ref b401), .val (.ref b414), .val (.ref b457), .val (.int (3 : Int32)), .val (.ref r658)] [(.int (4 : Int32))]))
                  refine own_go (fun _ kk => XS.iloadN X658.here hx rfl (hb hby at_400) rfl (XS.icmpYes X658.here hx rfl (pc0 := 401) (pc' := 406) rfl (hb hby at_401) rfl (XT.ii_eq_t (by decide)) (by decide) (by decide) (XS.iloadN X658.here hx rfl (hb hby at_406) rfl (XS.ifNo X658.here hx rfl (hb hby at_407) rfl (XT.i0_le_f (by decide)) (XS.aload X658.here hx rfl (hb hby at_410) rfl rfl (XS.iconst X658.here hx rfl (hb hby at_412) kk)))))) ?_
                  show own_Fin _ _ _ _ _ _ _ (T658.setTop (mkF m 413 #[.val (.int p0), .val (.int p1), .val (.int p2), .val (.int (4 : Int32)), .val (.int xa), .val (.int xb), .val (.int xc), .val (.int xd), .val (.ref b401), .val (.ref b414), .val (.ref b457), .val (.int (3 : Int32)), .val (.ref r658)] [(.int (0 : Int32)), (.ref b401)]))
                  refine own_ldI X658 hx hZ rfl f659 (by decide) (by show (0 : Int32).toNatClampNeg < 4; decide) (hb hby at_413) ?_
                  show own_Fin _ _ _ _ _ _ _ (T658.setTop (mkF m 414 #[.val (.int p0), .val (.int p1), .val (.int p2), .val (.int (4 : Int32)), .val (.int xa), .val (.int xb), .val (.int xc), .val (.int xd), .val (.ref b401), .val (.ref b414), .val (.ref b457), .val (.int (3 : Int32)), .val (.ref r658)] [(.int xa)]))
                  refine own_go (fun _ kk => XS.iload X658.here hx rfl (hb hby at_414) rfl (XS.icmpYes X658.here hx rfl (pc0 := 416) (pc' := 421) rfl (hb hby at_416) rfl (XT.ii_eq_t rfl) (by decide) (by decide) (XS.iloadN X658.here hx rfl (hb hby at_421) rfl (XS.iconst X658.here hx rfl (hb hby at_422) (XS.icmpNo X658.here hx rfl (hb hby at_423) rfl (XT.ii_le_f (by decide)) (XS.aload X658.here hx rfl (hb hby at_426) rfl rfl (XS.iconst X658.here hx rfl (hb hby at_428) kk))))))) ?_
                  show own_Fin _ _ _ _ _ _ _ (T658.setTop (mkF m 429 #[.val (.int p0), .val (.int p1), .val (.int p2), .val (.int (4 : Int32)), .val (.int xa), .val (.int xb), .val (.int xc), .val (.int xd), .val (.ref b401), .val (.ref b414), .val (.ref b457), .val (.int (3 : Int32)), .val (.ref r658)] [(.int (1 : Int32)), (.ref b401)]))
                  refine own_ldI X658 hx hZ rfl f659 (by decide) (by show (1 : Int32).toNatClampNeg < 4; decide) (hb hby at_429) ?_
                  show own_Fin _ _ _ _ _ _ _ (T658.setTop (mkF m 430 #[.val (.int p0), .val (.int p1), .val (.int p2), .val (.int (4 : Int32)), .val (.int xa), .val (.int xb), .val (.int xc), .val (.int xd), .val (.ref b401), .val (.ref b414), .val (.ref b457), .val (.int (3 : Int32)), .val (.ref r658)] [(.int xb)]))
                  refine own_go (fun _ kk => XS.iload X658.here hx rfl (hb hby at_430) rfl (XS.icmpYes X658.here hx rfl (pc0 := 432) (pc' := 437) rfl (hb hby at_432) rfl (XT.ii_eq_t rfl) (by decide) (by decide) (XS.iloadN X658.here hx rfl (hb hby at_437) rfl (XS.iconst X658.here hx rfl (hb hby at_438) (XS.icmpNo X658.here hx rfl (hb hby at_439) rfl (XT.ii_le_f (by decide)) (XS.aload X658.here hx rfl (hb hby at_442) rfl rfl (XS.iconst X658.here hx rfl (hb hby at_444) kk))))))) ?_
                  show own_Fin _ _ _ _ _ _ _ (T658.setTop (mkF m 445 #[.val (.int p0), .val (.int p1), .val (.int p2), .val (.int (4 : Int32)), .val (.int xa), .val (.int xb), .val (.int xc), .val (.int xd), .val (.ref b401), .val (.ref b414), .val (.ref b457), .val (.int (3 : Int32)), .val (.ref r658)] [(.int (2 : Int32)), (.ref b401)]))
                  refine own_ldI X658 hx hZ rfl f659 (by decide) (by show (2 : Int32).toNatClampNeg < 4; decide) (hb hby at_445) ?_
                  show own_Fin _ _ _ _ _ _ _ (T658.setTop (mkF m 446 #[.val (.int p0), .val (.int p1), .val (.int p2), .val (.int (4 : Int32)), .val (.int xa), .val (.int xb), .val (.int xc), .val (.int xd), .val (.ref b401), .val (.ref b414), .val (.ref b457), .val (.int (3 : Int32)), .val (.ref r658)] [(.int xc)]))
                  refine own_go (fun _ kk => XS.iload X658.here hx rfl (hb hby at_446) rfl (XS.icmpYes X658.here hx rfl (pc0 := 448) (pc' := 453) rfl (hb hby at_448) rfl (XT.ii_eq_t rfl) (by decide) (by decide) (XS.iloadN X658.here hx rfl (hb hby at_453) rfl (XS.iconst X658.here hx rfl (hb hby at_454) (XS.icmpNo X658.here hx rfl (hb hby at_455) rfl (XT.ii_le_f (by decide)) (XS.aload X658.here hx rfl (hb hby at_458) rfl rfl (XS.iconst X658.here hx rfl (hb hby at_460) kk))))))) ?_
                  show own_Fin _ _ _ _ _ _ _ (T658.setTop (mkF m 461 #[.val (.int p0), .val (.int p1), .val (.int p2), .val (.int (4 : Int32)), .val (.int xa), .val (.int xb), .val (.int xc), .val (.int xd), .val (.ref b401), .val (.ref b414), .val (.ref b457), .val (.int (3 : Int32)), .val (.ref r658)] [(.int (3 : Int32)), (.ref b401)]))
                  refine own_ldI X658 hx hZ rfl f659 (by decide) (by show (3 : Int32).toNatClampNeg < 4; decide) (hb hby at_461) ?_
                  show own_Fin _ _ _ _ _ _ _ (T658.setTop (mkF m 462 #[.val (.int p0), .val (.int p1), .val (.int p2), .val (.int (4 : Int32)), .val (.int xa), .val (.int xb), .val (.int xc), .val (.int xd), .val (.ref b401), .val (.ref b414), .val (.ref b457), .val (.int (3 : Int32)), .val (.ref r658)] [(.int xd)]))
                  refine own_go (fun _ kk => XS.iload X658.here hx rfl (hb hby at_462) rfl (XS.icmpYes X658.here hx rfl (pc0 := 464) (pc' := 469) rfl (hb hby at_464) rfl (XT.ii_eq_t rfl) (by decide) (by decide) (XS.aload X658.here hx rfl (hb hby at_469) rfl rfl kk))) ?_
                  show own_Fin _ _ _ _ _ _ _ (T658.setTop (mkF m 471 #[.val (.int p0), .val (.int p1), .val (.int p2), .val (.int (4 : Int32)), .val (.int xa), .val (.int xb), .val (.int xc), .val (.int xd), .val (.ref b401), .val (.ref b414), .val (.ref b457), .val (.int (3 : Int32)), .val (.ref r658)] [(.ref r658)]))
                  refine own_alen X658 hx hZ rfl F658 (hb hby at_471) ?_
                  show own_Fin _ _ _ _ _ _ _ (T658.setTop (mkF m 472 #[.val (.int p0), .val (.int p1), .val (.int p2), .val (.int (4 : Int32)), .val (.int xa), .val (.int xb), .val (.int xc), .val (.int xd), .val (.ref b401), .val (.ref b414), .val (.ref b457), .val (.int (3 : Int32)), .val (.ref r658)] [(.int (3 : Int32))]))
                  refine own_go (fun _ kk => XS.iload X658.here hx rfl (hb hby at_472) rfl (XS.icmpYes X658.here hx rfl (pc0 := 474) (pc' := 479) rfl (hb hby at_474) rfl (XT.ii_eq_t (by decide)) (by decide) (by decide) (XS.iload X658.here hx rfl (hb hby at_479) rfl (XS.ifNo X658.here hx rfl (hb hby at_481) rfl (XT.i0_le_f (by decide)) (XS.aload X658.here hx rfl (hb hby at_484) rfl rfl (XS.iconst X658.here hx rfl (hb hby at_486) kk)))))) ?_
                  show own_Fin _ _ _ _ _ _ _ (T658.setTop (mkF m 487 #[.val (.int p0), .val (.int p1), .val (.int p2), .val (.int (4 : Int32)), .val (.int xa), .val (.int xb), .val (.int xc), .val (.int xd), .val (.ref b401), .val (.ref b414), .val (.ref b457), .val (.int (3 : Int32)), .val (.ref r658)] [(.int (0 : Int32)), (.ref r658)]))
                  refine own_ldI X658 hx hZ rfl F658 (by decide) (by show (0 : Int32).toNatClampNeg < 3; decide) (hb hby at_487) ?_
                  show own_Fin _ _ _ _ _ _ _ (T658.setTop (mkF m 488 #[.val (.int p0), .val (.int p1), .val (.int p2), .val (.int (4 : Int32)), .val (.int xa), .val (.int xb), .val (.int xc), .val (.int xd), .val (.ref b401), .val (.ref b414), .val (.ref b457), .val (.int (3 : Int32)), .val (.ref r658)] [(.int xa)]))
                  refine own_go (fun _ kk => XS.aload X658.here hx rfl (hb hby at_488) rfl rfl (XS.iconst X658.here hx rfl (hb hby at_490) kk)) ?_
                  show own_Fin _ _ _ _ _ _ _ (T658.setTop (mkF m 491 #[.val (.int p0), .val (.int p1), .val (.int p2), .val (.int (4 : Int32)), .val (.int xa), .val (.int xb), .val (.int xc), .val (.int xd), .val (.ref b401), .val (.ref b414), .val (.ref b457), .val (.int (3 : Int32)), .val (.ref r658)] [(.int (0 : Int32)), (.ref b457), (.int xa)]))
                  refine own_ldI X658 hx hZ rfl f663 (by decide) (by show (0 : Int32).toNatClampNeg < 4; decide) (hb hby at_491) ?_
                  show own_Fin _ _ _ _ _ _ _ (T658.setTop (mkF m 492 #[.val (.int p0), .val (.int p1), .val (.int p2), .val (.int (4 : Int32)), .val (.int xa), .val (.int xb), .val (.int xc), .val (.int xd), .val (.ref b401), .val (.ref b414), .val (.ref b457), .val (.int (3 : Int32)), .val (.ref r658)] [(.int xa), (.int xa)]))
                  refine own_go (fun _ kk => XS.icmpYes X658.here hx rfl (pc0 := 492) (pc' := 497) rfl (hb hby at_492) rfl (XT.ii_eq_t rfl) (by decide) (by decide) (XS.iload X658.here hx rfl (hb hby at_497) rfl (XS.iconst X658.here hx rfl (hb hby at_499) (XS.icmpNo X658.here hx rfl (hb hby at_500) rfl (XT.ii_le_f (by decide)) (XS.aload X658.here hx rfl (hb hby at_503) rfl rfl (XS.iconst X658.here hx rfl (hb hby at_505) kk)))))) ?_
                  show own_Fin _ _ _ _ _ _ _ (T658.setTop (mkF m 506 #[.val (.int p0), .val (.int p1), .val (.int p2), .val (.int (4 : Int32)), .val (.int xa), .val (.int xb), .val (.int xc), .val (.int xd), .val (.ref b401), .val (.ref b414), .val (.ref b457), .val (.int (3 : Int32)), .val (.ref r658)] [(.int (1 : Int32)), (.ref r658)]))
                  refine own_ldI X658 hx hZ rfl F658 (by decide) (by show (1 : Int32).toNatClampNeg < 3; decide) (hb hby at_506) ?_
                  show own_Fin _ _ _ _ _ _ _ (T658.setTop (mkF m 507 #[.val (.int p0), .val (.int p1), .val (.int p2), .val (.int (4 : Int32)), .val (.int xa), .val (.int xb), .val (.int xc), .val (.int xd), .val (.ref b401), .val (.ref b414), .val (.ref b457), .val (.int (3 : Int32)), .val (.ref r658)] [(.int xb)]))
                  refine own_go (fun _ kk => XS.aload X658.here hx rfl (hb hby at_507) rfl rfl (XS.iconst X658.here hx rfl (hb hby at_509) kk)) ?_
                  show own_Fin _ _ _ _ _ _ _ (T658.setTop (mkF m 510 #[.val (.int p0), .val (.int p1), .val (.int p2), .val (.int (4 : Int32)), .val (.int xa), .val (.int xb), .val (.int xc), .val (.int xd), .val (.ref b401), .val (.ref b414), .val (.ref b457), .val (.int (3 : Int32)), .val (.ref r658)] [(.int (1 : Int32)), (.ref b457), (.int xb)]))
                  refine own_ldI X658 hx hZ rfl f663 (by decide) (by show (1 : Int32).toNatClampNeg < 4; decide) (hb hby at_510) ?_
                  show own_Fin _ _ _ _ _ _ _ (T658.setTop (mkF m 511 #[.val (.int p0), .val (.int p1), .val (.int p2), .val (.int (4 : Int32)), .val (.int xa), .val (.int xb), .val (.int xc), .val (.int xd), .val (.ref b401), .val (.ref b414), .val (.ref b457), .val (.int (3 : Int32)), .val (.ref r658)] [(.int xb), (.int xb)]))
                  refine own_go (fun _ kk => XS.icmpYes X658.here hx rfl (pc0 := 511) (pc' := 516) rfl (hb hby at_511) rfl (XT.ii_eq_t rfl) (by decide) (by decide) (XS.iload X658.here hx rfl (hb hby at_516) rfl (XS.iconst X658.here hx rfl (hb hby at_518) (XS.icmpNo X658.here hx rfl (hb hby at_519) rfl (XT.ii_le_f (by decide)) (XS.aload X658.here hx rfl (hb hby at_522) rfl rfl (XS.iconst X658.here hx rfl (hb hby at_524) kk)))))) ?_
                  show own_Fin _ _ _ _ _ _ _ (T658.setTop (mkF m 525 #[.val (.int p0), .val (.int p1), .val (.int p2), .val (.int (4 : Int32)), .val (.int xa), .val (.int xb), .val (.int xc), .val (.int xd), .val (.ref b401), .val (.ref b414), .val (.ref b457), .val (.int (3 : Int32)), .val (.ref r658)] [(.int (2 : Int32)), (.ref r658)]))
                  refine own_ldI X658 hx hZ rfl F658 (by decide) (by show (2 : Int32).toNatClampNeg < 3; decide) (hb hby at_525) ?_
                  show own_Fin _ _ _ _ _ _ _ (T658.setTop (mkF m 526 #[.val (.int p0), .val (.int p1), .val (.int p2), .val (.int (4 : Int32)), .val (.int xa), .val (.int xb), .val (.int xc), .val (.int xd), .val (.ref b401), .val (.ref b414), .val (.ref b457), .val (.int (3 : Int32)), .val (.ref r658)] [(.int xc)]))
                  refine own_go (fun _ kk => XS.aload X658.here hx rfl (hb hby at_526) rfl rfl (XS.iconst X658.here hx rfl (hb hby at_528) kk)) ?_
                  show own_Fin _ _ _ _ _ _ _ (T658.setTop (mkF m 529 #[.val (.int p0), .val (.int p1), .val (.int p2), .val (.int (4 : Int32)), .val (.int xa), .val (.int xb), .val (.int xc), .val (.int xd), .val (.ref b401), .val (.ref b414), .val (.ref b457), .val (.int (3 : Int32)), .val (.ref r658)] [(.int (2 : Int32)), (.ref b457), (.int xc)]))
                  refine own_ldI X658 hx hZ rfl f663 (by decide) (by show (2 : Int32).toNatClampNeg < 4; decide) (hb hby at_529) ?_
                  show own_Fin _ _ _ _ _ _ _ (T658.setTop (mkF m 530 #[.val (.int p0), .val (.int p1), .val (.int p2), .val (.int (4 : Int32)), .val (.int xa), .val (.int xb), .val (.int xc), .val (.int xd), .val (.ref b401), .val (.ref b414), .val (.ref b457), .val (.int (3 : Int32)), .val (.ref r658)] [(.int xc), (.int xc)]))
                  refine own_go (fun _ kk => XS.icmpYes X658.here hx rfl (pc0 := 530) (pc' := 535) rfl (hb hby at_530) rfl (XT.ii_eq_t rfl) (by decide) (by decide) (XS.iload X658.here hx rfl (hb hby at_535) rfl (XS.iconst X658.here hx rfl (hb hby at_537) (XS.icmpYes X658.here hx rfl (pc0 := 538) (pc' := 554) rfl (hb hby at_538) rfl (XT.ii_le_t (by decide)) (by decide) (by decide) (XS.iconst X658.here hx rfl (hb hby at_554) kk))))) ?_
                  show own_Fin _ _ _ _ _ _ _ (T658.setTop (mkF m 555 #[.val (.int p0), .val (.int p1), .val (.int p2), .val (.int (4 : Int32)), .val (.int xa), .val (.int xb), .val (.int xc), .val (.int xd), .val (.ref b401), .val (.ref b414), .val (.ref b457), .val (.int (3 : Int32)), .val (.ref r658)] [(.int (1 : Int32))]))
                  exact own_retZ X658 hx hlk hret rfl (hb hby at_555) (by decide) (by decide) ⟨rfl, N658⟩
                · refine own_go (fun _ kk => XS.ifNo X651.here hx rfl (hb hby at_361) rfl (XT.i0_eq_f hc361) (XS.aload X651.here hx rfl (hb hby at_364) rfl rfl (XS.iload X651.here hx rfl (hb hby at_366) rfl (XS.iload X651.here hx rfl (hb hby at_368) rfl kk)))) ?_
                  show own_Fin _ _ _ _ _ _ _ (T651.setTop (mkF m 370 #[.val (.int p0), .val (.int p1), .val (.int p2), .val (.int (4 : Int32)), .val (.int xa), .val (.int xb), .val (.int xc), .val (.int xd), .val (.ref b401), .val (.ref b414), .val (.ref b457), .val (.int (3 : Int32)), .unset] [(.int xd), (.int (3 : Int32)), (.ref b457)]))
                  refine own_stI X651 hx hZ e651 A651 (by decide) (by show (3 : Int32).toNatClampNeg < 4; decide) (hb hby at_370) ?_
                  intro T665 h665 X665 e665 W665 A665
                  have f666 := f652.other W665 ne_b401_b457
                  have f667 := f653.wr W665
                  have f668 := f654.other W665 ne_b414_b457
                  have f669 := f655.wr W665
                  have f671 := f657.wr W665
                  have Z665 := Nat.le_trans Z651 (Keep.of_wr W665).1
                  have A665 : own_Ar Z h665 b457 .int (List.map Value.int [xa, xb, xc, xd]) := A665
                  have N665 := Fr.snoc X665 N651 g_b457
                  show own_Fin _ _ _ _ _ _ _ (T665.setTop (mkF m 371 #[.val (.int p0), .val (.int p1), .val (.int p2), .val (.int (4 : Int32)), .val (.int xa), .val (.int xb), .val (.int xc), .val (.int xd), .val (.ref b401), .val (.ref b414), .val (.ref b457), .val (.int (3 : Int32)), .unset] []))
                  refine own_go (fun _ kk => XS.iinc X665.here hx rfl (hb hby at_371) rfl (l' := #[.val (.int p0), .val (.int p1), .val (.int p2), .val (.int (4 : Int32)), .val (.int xa), .val (.int xb), .val (.int xc), .val (.int xd), .val (.ref b401), .val (.ref b414), .val (.ref b457), .val (.int (4 : Int32)), .unset]) rfl (XS.aload X665.here hx rfl (hb hby at_374) rfl rfl (XS.aload X665.here hx rfl (hb hby at_376) rfl rfl kk))) ?_
                  show own_Fin _ _ _ _ _ _ _ (T665.setTop (mkF m 378 #[.val (.int p0), .val (.int p1), .val (.int p2), .val (.int (4 : Int32)), .val (.int xa), .val (.int xb), .val (.int xc), .val (.int xd), .val (.ref b401), .val (.ref b414), .val (.ref b457), .val (.int (4 : Int32)), .unset] [(.ref b414), (.ref b401)]))
                  refine own_callS X665 hx hZ hown (hw _ (List.mem_of_getElem? (i := 7) rfl)) (hw _ (List.mem_of_getElem? (i := 8) rfl)) (hw _ (List.mem_of_getElem? (i := 9) rfl)) (hw _ (List.mem_of_getElem? (i := 10) rfl)) (by decide) (rm2 l Z a0 hw b401 b414 h665 n0 Z665 [xa, xb, xc, xd] bs f666 f668 (by show 4 ≤ 4; decide) (List.forall_mem_cons.mpr ⟨sa, (List.forall_mem_cons.mpr ⟨sb, (List.forall_mem_cons.mpr ⟨sc, (List.forall_mem_cons.mpr ⟨sd, (fun x h => nomatch h)⟩)⟩)⟩)⟩)) e665 (argsL := [(.ref b401), (.ref b414)]) (rest := []) rfl rfl (by rw [hml]; rfl) (lenOf pd_0_1 rfl) (hb hby at_378) (W := 0) (Nat.le_of_eq rfl) (by decide) (by decide) (by decide) (by decide) ?_
                  rintro v672 T672 L672 X672 ⟨r672, rfl, M672, Kc672, sz672, A672⟩
                  have N672 := Fr.app N665 M672
                  have ne672 : r672 ≠ b401 := Nat.ne_of_gt (Nat.lt_of_lt_of_le f666.lt sz672)
                  have f673 := f666.keep Kc672 nin0
                  have f674 := f667.keep Kc672
                  have f675 := f668.keep Kc672 nin0
                  have f676 := f669.keep Kc672
                  have f677 := A665.keep Kc672 nin0
                  have f678 := f671.keep Kc672
                  have Z672 := Nat.le_trans Z665 Kc672.1
                  have F672 : own_Ar Z T672.heap r672 .int (List.map Value.int [xa, xb, xc, xd]) := by
                    rw [List.filter_cons_of_pos (show own_mk bs xa = true from decide_eq_true hc292), List.filter_cons_of_pos (show own_mk bs xb = true from decide_eq_true hc315), List.filter_cons_of_pos (show own_mk bs xc = true from decide_eq_true hc338), List.filter_cons_of_pos (show own_mk bs xd = true from decide_eq_true hc361), List.filter_nil] at A672
                    exact A672
                  show own_Fin _ _ _ _ _ _ _ (T672.setTop (mkF m 381 #[.val (.int p0), .val (.int p1), .val (.int p2), .val (.int (4 : Int32)), .val (.int xa), .val (.int xb), .val (.int xc), .val (.int xd), .val (.ref b401), .val (.ref b414), .val (.ref b457), .val (.int (4 : Int32)), .unset] [(.ref r672)]))
                  refine own_go (fun _ kk => XS.astore X672.here hx rfl (hb hby at_381) rfl rfl (l' := #[.val (.int p0), .val (.int p1), .val (.int p2), .val (.int (4 : Int32)), .val (.int xa), .val (.int xb), .val (.int xc), .val (.int xd), .val (.ref b401), .val (.ref b414), .val (.ref b457), .val (.int (4 : Int32)), .val (.ref r672)]) rfl (XS.aload X672.here hx rfl (hb hby at_383) rfl rfl (XS.ifnullNo X672.here hx rfl (hb hby at_385) rfl (XS.aload X672.here hx rfl (hb hby at_388) rfl rfl (XS.aload X672.here hx rfl (hb hby at_390) rfl rfl (XT.acmpYes X672.here hx rfl (pc0 := 392) (pc' := 397) rfl (hb hby at_392) rfl rfl rfl (XT.aa_ne_t (fun q => ne672 (Value.ref.inj q))) (by decide) (by decide) (XS.aload X672.here hx rfl (hb hby at_397) rfl rfl kk))))))) ?_
                  show own_Fin _ _ _ _ _ _ _ (T672.setTop (mkF m 399 #[.val (.int p0), .val (.int p1), .val (.int p2), .val (.int (4 : Int32)), .val (.int xa), .val (.int xb), .val (.int xc), .val (.int xd), .val (.ref b401), .val (.ref b414), .val (.ref b457), .val (.int (4 : Int32)), .val (.ref r672)] [(.ref b401)]))
                  refine own_alen X672 hx hZ rfl f673 (hb hby at_399) ?_
                  show own_Fin _ _ _ _ _ _ _ (T672.setTop (mkF m 400 #[.val (.int p0), .val (.int p1), .val (.int p2), .val (.int (4 : Int32)), .val (.int xa), .val (.int xb), .val (.int xc), .val (.int xd), .val (.ref b401), .val (.ref b414), .val (.ref b457), .val (.int (4 : Int32)), .val (.ref r672)] [(.int (4 : Int32))]))
                  refine own_go (fun _ kk => XS.iloadN X672.here hx rfl (hb hby at_400) rfl (XS.icmpYes X672.here hx rfl (pc0 := 401) (pc' := 406) rfl (hb hby at_401) rfl (XT.ii_eq_t (by decide)) (by decide) (by decide) (XS.iloadN X672.here hx rfl (hb hby at_406) rfl (XS.ifNo X672.here hx rfl (hb hby at_407) rfl (XT.i0_le_f (by decide)) (XS.aload X672.here hx rfl (hb hby at_410) rfl rfl (XS.iconst X672.here hx rfl (hb hby at_412) kk)))))) ?_
                  show own_Fin _ _ _ _ _ _ _ (T672.setTop (mkF m 413 #[.val (.int p0), .val (.int p1), .val (.int p2), .val (.int (4 : Int32)), .val (.int xa), .val (.int xb), .val (.int xc), .val (.int xd), .val (.ref b401), .val (.ref b414), .val (.ref b457), .val (.int (4 : Int32)), .val (.ref r672)] [(.int (0 : Int32)), (.ref b401)]))
                  refine own_ldI X672 hx hZ rfl f673 (by decide) (by show (0 : Int32).toNatClampNeg < 4; decide) (hb hby at_413) ?_
                  show own_Fin _ _ _ _ _ _ _ (T672.setTop (mkF m 414 #[.val (.int p0), .val (.int p1), .val (.int p2), .val (.int (4 : Int32)), .val (.int xa), .val (.int xb), .val (.int xc), .val (.int xd), .val (.ref b401), .val (.ref b414), .val (.ref b457), .val (.int (4 : Int32)), .val (.ref r672)] [(.int xa)]))
                  refine own_go (fun _ kk => XS.iload X672.here hx rfl (hb hby at_414) rfl (XS.icmpYes X672.here hx rfl (pc0 := 416) (pc' := 421) rfl (hb hby at_416) rfl (XT.ii_eq_t rfl) (by decide) (by decide) (XS.iloadN X672.here hx rfl (hb hby at_421) rfl (XS.iconst X672.here hx rfl (hb hby at_422) (XS.icmpNo X672.here hx rfl (hb hby at_423) rfl (XT.ii_le_f (by decide)) (XS.aload X672.here hx rfl (hb hby at_426) rfl rfl (XS.iconst X672.here hx rfl (hb hby at_428) kk))))))) ?_
                  show own_Fin _ _ _ _ _ _ _ (T672.setTop (mkF m 429 #[.val (.int p0), .val (.int p1), .val (.int p2), .val (.int (4 : Int32)), .val (.int xa), .val (.int xb), .val (.int xc), .val (.int xd), .val (.ref b401), .val (.ref b414), .val (.ref b457), .val (.int (4 : Int32)), .val (.ref r672)] [(.int (1 : Int32)), (.ref b401)]))
                  refine own_ldI X672 hx hZ rfl f673 (by decide) (by show (1 : Int32).toNatClampNeg < 4; decide) (hb hby at_429) ?_
                  show own_Fin _ _ _ _ _ _ _ (T672.setTop (mkF m 430 #[.val (.int p0), .val (.int p1), .val (.int p2), .val (.int (4 : Int32)), .val (.int xa), .val (.int xb), .val (.int xc), .val (.int xd), .val (.ref b401), .val (.ref b414), .val (.ref b457), .val (.int (4 : Int32)), .val (.ref r672)] [(.int xb)]))
                  refine own_go (fun _ kk => XS.iload X672.here hx rfl (hb hby at_430) rfl (XS.icmpYes X672.here hx rfl (pc0 := 432) (pc' := 437) rfl (hb hby at_432) rfl (XT.ii_eq_t rfl) (by decide) (by decide) (XS.iloadN X672.here hx rfl (hb hby at_437) rfl (XS.iconst X672.here hx rfl (hb hby at_438) (XS.icmpNo X672.here hx rfl (hb hby at_439) rfl (XT.ii_le_f (by decide)) (XS.aload X672.here hx rfl (hb hby at_442) rfl rfl (XS.iconst X672.here hx rfl (hb hby at_444) kk))))))) ?_
                  show own_Fin _ _ _ _ _ _ _ (T672.setTop (mkF m 445 #[.val (.int p0), .val (.int p1), .val (.int p2), .val (.int (4 : Int32)), .val (.int xa), .val (.int xb), .val (.int xc), .val (.int xd), .val (.ref b401), .val (.ref b414), .val (.ref b457), .val (.int (4 : Int32)), .val (.ref r672)] [(.int (2 : Int32)), (.ref b401)]))
                  refine own_ldI X672 hx hZ rfl f673 (by decide) (by show (2 : Int32).toNatClampNeg < 4; decide) (hb hby at_445) ?_
                  show own_Fin _ _ _ _ _ _ _ (T672.setTop (mkF m 446 #[.val (.int p0), .val (.int p1), .val (.int p2), .val (.int (4 : Int32)), .val (.int xa), .val (.int xb), .val (.int xc), .val (.int xd), .val (.ref b401), .val (.ref b414), .val (.ref b457), .val (.int (4 : Int32)), .val (.ref r672)] [(.int xc)]))
                  refine own_go (fun _ kk => XS.iload X672.here hx rfl (hb hby at_446) rfl (XS.icmpYes X672.here hx rfl (pc0 := 448) (pc' := 453) rfl (hb hby at_448) rfl (XT.ii_eq_t rfl) (by decide) (by decide) (XS.iloadN X672.here hx rfl (hb hby at_453) rfl (XS.iconst X672.here hx rfl (hb hby at_454) (XS.icmpNo X672.here hx rfl (hb hby at_455) rfl (XT.ii_le_f (by decide)) (XS.aload X672.here hx rfl (hb hby at_458) rfl rfl (XS.iconst X672.here hx rfl (hb hby at_460) kk))))))) ?_
                  show own_Fin _ _ _ _ _ _ _ (T672.setTop (mkF m 461 #[.val (.int p0), .val (.int p1), .val (.int p2), .val (.int (4 : Int32)), .val (.int xa), .val (.int xb), .val (.int xc), .val (.int xd), .val (.ref b401), .val (.ref b414), .val (.ref b457), .val (.int (4 : Int32)), .val (.ref r672)] [(.int (3 : Int32)), (.ref b401)]))
                  refine own_ldI X672 hx hZ rfl f673 (by decide) (by show (3 : Int32).toNatClampNeg < 4; decide) (hb hby at_461) ?_
                  show own_Fin _ _ _ _ _ _ _ (T672.setTop (mkF m 462 #[.val (.int p0), .val (.int p1), .val (.int p2), .val (.int (4 : Int32)), .val (.int xa), .val (.int xb), .val (.int xc), .val (.int xd), .val (.ref b401), .val (.ref b414), .val (.ref b457), .val (.int (4 : Int32)), .val (.ref r672)] [(.int xd)]))
                  refine own_go (fun _ kk => XS.iload X672.here hx rfl (hb hby at_462) rfl (XS.icmpYes X672.here hx rfl (pc0 := 464) (pc' := 469) rfl (hb hby at_464) rfl (XT.ii_eq_t rfl) (by decide) (by decide) (XS.aload X672.here hx rfl (hb hby at_469) rfl rfl kk))) ?_
                  show own_Fin _ _ _ _ _ _ _ (T672.setTop (mkF m 471 #[.val (.int p0), .val (.int p1), .val (.int p2), .val (.int (4 : Int32)), .val (.int xa), .val (.int xb), .val (.int xc), .val (.int xd), .val (.ref b401), .val (.ref b414), .val (.ref b457), .val (.int (4 : Int32)), .val (.ref r672)] [(.ref r672)]))
                  refine own_alen X672 hx hZ rfl F672 (hb hby at_471) ?_
                  show own_Fin _ _ _ _ _ _ _ (T672.setTop (mkF m 472 #[.val (.int p0), .val (.int p1), .val (.int p2), .val (.int (4 : Int32)), .val (.int xa), .val (.int xb), .val (.int xc), .val (.int xd), .val (.ref b401), .val (.ref b414), .val (.ref b457), .val (.int (4 : Int32)), .val (.ref r672)] [(.int (4 : Int32))]))
                  refine own_go (fun _ kk => XS.iload X672.here hx rfl (hb hby at_472) rfl (XS.icmpYes X672.here hx rfl (pc0 := 474) (pc' := 479) rfl (hb hby at_474) rfl (XT.ii_eq_t (by decide)) (by decide) (by decide) (XS.iload X672.here hx rfl (hb hby at_479) rfl (XS.ifNo X672.here hx rfl (hb hby at_481) rfl (XT.i0_le_f (by decide)) (XS.aload X672.here hx rfl (hb hby at_484) rfl rfl (XS.iconst X672.here hx rfl (hb hby at_486) kk)))))) ?_
                  show own_Fin _ _ _ _ _ _ _ (T672.setTop (mkF m 487 #[.val (.int p0), .val (.int p1), .val (.int p2), .val (.int (4 : Int32)), .val (.int xa), .val (.int xb), .val (.int xc), .val (.int xd), .val (.ref b401), .val (.ref b414), .val (.ref b457), .val (.int (4 : Int32)), .val (.ref r672)] [(.int (0 : Int32)), (.ref r672)]))
                  refine own_ldI X672 hx hZ rfl F672 (by decide) (by show (0 : Int32).toNatClampNeg < 4; decide) (hb hby at_487) ?_
                  show own_Fin _ _ _ _ _ _ _ (T672.setTop (mkF m 488 #[.val (.int p0), .val (.int p1), .val (.int p2), .val (.int (4 : Int32)), .val (.int xa), .val (.int xb), .val (.int xc), .val (.int xd), .val (.ref b401), .val (.ref b414), .val (.ref b457), .val (.int (4 : Int32)), .val (.ref r672)] [(.int xa)]))
                  refine own_go (fun _ kk => XS.aload X672.here hx rfl (hb hby at_488) rfl rfl (XS.iconst X672.here hx rfl (hb hby at_490) kk)) ?_
                  show own_Fin _ _ _ _ _ _ _ (T672.setTop (mkF m 491 #[.val (.int p0), .val (.int p1), .val (.int p2), .val (.int (4 : Int32)), .val (.int xa), .val (.int xb), .val (.int xc), .val (.int xd), .val (.ref b401), .val (.ref b414), .val (.ref b457), .val (.int (4 : Int32)), .val (.ref r672)] [(.int (0 : Int32)), (.ref b457), (.int xa)]))
                  refine own_ldI X672 hx hZ rfl f677 (by decide) (by show (0 : Int32).toNatClampNeg < 4; decide) (hb hby at_491) ?_
                  show own_Fin _ _ _ _ _ _ _ (T672.setTop (mkF m 492 #[.val (.int p0), .val (.int p1), .val (.int p2), .val (.int (4 : Int32)), .val (.int xa), .val (.int xb), .val (.int xc), .val (.int xd), .val (.ref b401), .val (.ref b414), .val (.ref b457), .val (.int (4 : Int32)), .val (.ref r672)] [(.int xa), (.int xa)]))
                  refine own_go (fun _ kk => XS.icmpYes X672.here hx rfl (pc0 := 492) (pc' := 497) rfl (hb hby at_492) rfl (XT.ii_eq_t rfl) (by decide) (by decide) (XS.iload X672.here hx rfl (hb hby at_497) rfl (XS.iconst X672.here hx rfl (hb hby at_499) (XS.icmpNo X672.here hx rfl (hb hby at_500) rfl (XT.ii_le_f (by decide)) (XS.aload X672.here hx rfl (hb hby at_503) rfl rfl (XS.iconst X672.here hx rfl (hb hby at_505) kk)))))) ?_
                  show own_Fin _ _ _ _ _ _ _ (T672.setTop (mkF m 506 #[.val (.int p0), .val (.int p1), .val (.int p2), .val (.int (4 : Int32)), .val (.int xa), .val (.int xb), .val (.int xc), .val (.int xd), .val (.ref b401), .val (.ref b414), .val (.ref b457), .val (.int (4 : Int32)), .val (.ref r672)] [(.int (1 : Int32)), (.ref r672)]))
                  refine own_ldI X672 hx hZ rfl F672 (by decide) (by show (1 : Int32).toNatClampNeg < 4; decide) (hb hby at_506) ?_
                  show own_Fin _ _ _ _ _ _ _ (T672.setTop (mkF m 507 #[.val (.int p0), .val (.int p1), .val (.int p2), .val (.int (4 : Int32)), .val (.int xa), .val (.int xb), .val (.int xc), .val (.int xd), .val (.ref b401), .val (.ref b414), .val (.ref b457), .val (.int (4 : Int32)), .val (.ref r672)] [(.int xb)]))
                  refine own_go (fun _ kk => XS.aload X672.here hx rfl (hb hby at_507) rfl rfl (XS.iconst X672.here hx rfl (hb hby at_509) kk)) ?_
                  show own_Fin _ _ _ _ _ _ _ (T672.setTop (mkF m 510 #[.val (.int p0), .val (.int p1), .val (.int p2), .val (.int (4 : Int32)), .val (.int xa), .val (.int xb), .val (.int xc), .val (.int xd), .val (.ref b401), .val (.ref b414), .val (.ref b457), .val (.int (4 : Int32)), .val (.ref r672)] [(.int (1 : Int32)), (.ref b457), (.int xb)]))
                  refine own_ldI X672 hx hZ rfl f677 (by decide) (by show (1 : Int32).toNatClampNeg < 4; decide) (hb hby at_510) ?_
                  show own_Fin _ _ _ _ _ _ _ (T672.setTop (mkF m 511 #[.val (.int p0), .val (.int p1), .val (.int p2), .val (.int (4 : Int32)), .val (.int xa), .val (.int xb), .val (.int xc), .val (.int xd), .val (.ref b401), .val (.ref b414), .val (.ref b457), .val (.int (4 : Int32)), .val (.ref r672)] [(.int xb), (.int xb)]))
                  refine own_go (fun _ kk => XS.icmpYes X672.here hx rfl (pc0 := 511) (pc' := 516) rfl (hb hby at_511) rfl (XT.ii_eq_t rfl) (by decide) (by decide) (XS.iload X672.here hx rfl (hb hby at_516) rfl (XS.iconst X672.here hx rfl (hb hby at_518) (XS.icmpNo X672.here hx rfl (hb hby at_519) rfl (XT.ii_le_f (by decide)) (XS.aload X672.here hx rfl (hb hby at_522) rfl rfl (XS.iconst X672.here hx rfl (hb hby at_524) kk)))))) ?_
                  show own_Fin _ _ _ _ _ _ _ (T672.setTop (mkF m 525 #[.val (.int p0), .val (.int p1), .val (.int p2), .val (.int (4 : Int32)), .val (.int xa), .val (.int xb), .val (.int xc), .val (.int xd), .val (.ref b401), .val (.ref b414), .val (.ref b457), .val (.int (4 : Int32)), .val (.ref r672)] [(.int (2 : Int32)), (.ref r672)]))
                  refine own_ldI X672 hx hZ rfl F672 (by decide) (by show (2 : Int32).toNatClampNeg < 4; decide) (hb hby at_525) ?_
                  show own_Fin _ _ _ _ _ _ _ (T672.setTop (mkF m 526 #[.val (.int p0), .val (.int p1), .val (.int p2), .val (.int (4 : Int32)), .val (.int xa), .val (.int xb), .val (.int xc), .val (.int xd), .val (.ref b401), .val (.ref b414), .val (.ref b457), .val (.int (4 : Int32)), .val (.ref r672)] [(.int xc)]))
                  refine own_go (fun _ kk => XS.aload X672.here hx rfl (hb hby at_526) rfl rfl (XS.iconst X672.here hx rfl (hb hby at_528) kk)) ?_
                  show own_Fin _ _ _ _ _ _ _ (T672.setTop (mkF m 529 #[.val (.int p0), .val (.int p1), .val (.int p2), .val (.int (4 : Int32)), .val (.int xa), .val (.int xb), .val (.int xc), .val (.int xd), .val (.ref b401), .val (.ref b414), .val (.ref b457), .val (.int (4 : Int32)), .val (.ref r672)] [(.int (2 : Int32)), (.ref b457), (.int xc)]))
                  refine own_ldI X672 hx hZ rfl f677 (by decide) (by show (2 : Int32).toNatClampNeg < 4; decide) (hb hby at_529) ?_
                  show own_Fin _ _ _ _ _ _ _ (T672.setTop (mkF m 530 #[.val (.int p0), .val (.int p1), .val (.int p2), .val (.int (4 : Int32)), .val (.int xa), .val (.int xb), .val (.int xc), .val (.int xd), .val (.ref b401), .val (.ref b414), .val (.ref b457), .val (.int (4 : Int32)), .val (.ref r672)] [(.int xc), (.int xc)]))
                  refine own_go (fun _ kk => XS.icmpYes X672.here hx rfl (pc0 := 530) (pc' := 535) rfl (hb hby at_530) rfl (XT.ii_eq_t rfl) (by decide) (by decide) (XS.iload X672.here hx rfl (hb hby at_535) rfl (XS.iconst X672.here hx rfl (hb hby at_537) (XS.icmpNo X672.here hx rfl (hb hby at_538) rfl (XT.ii_le_f (by decide)) (XS.aload X672.here hx rfl (hb hby at_541) rfl rfl (XS.iconst X672.here hx rfl (hb hby at_543) kk)))))) ?_
                  show own_Fin _ _ _ _ _ _ _ (T672.setTop (mkF m 544 #[.val (.int p0), .val (.int p1), .val (.int p2), .val (.int (4 : Int32)), .val (.int xa), .val (.int xb), .val (.int xc), .val (.int xd), .val (.ref b401), .val (.ref b414), .val (.ref b457), .val (.int (4 : Int32)), .val (.ref r672)] [(.int (3 : Int32)), (.ref r672)]))
                  refine own_ldI X672 hx hZ rfl F672 (by decide) (by show (3 : Int32).toNatClampNeg < 4; decide) (hb hby at_544) ?_
                  show own_Fin _ _ _ _ _ _ _ (T672.setTop (mkF m 545 #[.val (.int p0), .val (.int p1), .val (.int p2), .val (.int (4 : Int32)), .val (.int xa), .val (.int xb), .val (.int xc), .val (.int xd), .val (.ref b401), .val (.ref b414), .val (.ref b457), .val (.int (4 : Int32)), .val (.ref r672)] [(.int xd)]))
                  refine own_go (fun _ kk => XS.aload X672.here hx rfl (hb hby at_545) rfl rfl (XS.iconst X672.here hx rfl (hb hby at_547) kk)) ?_
                  show own_Fin _ _ _ _ _ _ _ (T672.setTop (mkF m 548 #[.val (.int p0), .val (.int p1), .val (.int p2), .val (.int (4 : Int32)), .val (.int xa), .val (.int xb), .val (.int xc), .val (.int xd), .val (.ref b401), .val (.ref b414), .val (.ref b457), .val (.int (4 : Int32)), .val (.ref r672)] [(.int (3 : Int32)), (.ref b457), (.int xd)]))
                  refine own_ldI X672 hx hZ rfl f677 (by decide) (by show (3 : Int32).toNatClampNeg < 4; decide) (hb hby at_548) ?_
                  show own_Fin _ _ _ _ _ _ _ (T672.setTop (mkF m 549 #[.val (.int p0), .val (.int p1), .val (.int p2), .val (.int (4 : Int32)), .val (.int xa), .val (.int xb), .val (.int xc), .val (.int xd), .val (.ref b401), .val (.ref b414), .val (.ref b457), .val (.int (4 : Int32)), .val (.ref r672)] [(.int xd), (.int xd)]))
                  refine own_go (fun _ kk => XS.icmpYes X672.here hx rfl (pc0 := 549) (pc' := 554) rfl (hb hby at_549) rfl (XT.ii_eq_t rfl) (by decide) (by decide) (XS.iconst X672.here hx rfl (hb hby at_554) kk)) ?_
                  show own_Fin _ _ _ _ _ _ _ (T672.setTop (mkF m 555 #[.val (.int p0), .val (.int p1), .val (.int p2), .val (.int (4 : Int32)), .val (.int xa), .val (.int xb), .val (.int xc), .val (.int xd), .val (.ref b401), .val (.ref b414), .val (.ref b457), .val (.int (4 : Int32)), .val (.ref r672)] [(.int (1 : Int32))]))
                  exact own_retZ X672 hx hlk hret rfl (hb hby at_555) (by decide) (by decide) ⟨rfl, N672⟩

set_option maxRecDepth 65536 in
set_option maxHeartbeats 40000000 in
theorem comes_1 {Post : Tables → Env → Array Value → State → Outcome → State → Prop} (hpost : ∀ tb e args s v u, (limb_1_1.after args s (.returned v) u = true ∧ limb_1_2.after args s (.returned v) u = true ∧ True) → FrameEnd s (.returned v) u (Jvm.fieldLocs frame_1_writes args s ++ Jvm.arrayLocs frame_1_arrays args s ++ Jvm.staticLocs frame_1_statics s) 24 128 → Post tb e args s (.returned v) u) :
    ArmFor flags0 classFile x code maxLocals ret World_1 tables_1 room_1 Calls_1 rest_1 Pre_1 Post := by
  intro l hfl _ _ p e ha hc hk s m args below hf hA hF happ hP
  obtain ⟨hcalls, hrest, hpre⟩ := hP
  obtain ⟨-, -, -, hnamed, -, -, -, hat⟩ := (Spec.applies_iff hf).mp happ
  obtain ⟨hg, hn⟩ := and_e (Cond.before_iff.mp (show (Jvm.Cond.and given_1 narrow_1).before args s = true from hpre))
  obtain ⟨gg1, gg2⟩ := and_e hg
  obtain ⟨gg3, gg4⟩ := and_e gg2
  obtain ⟨gg5, gg6⟩ := and_e gg4
  obtain ⟨w0, w1, w2, rfl⟩ : ∃ w0 w1 w2 : Value, args = #[w0, w1, w2] := by
    have hs : args.size = 3 := by simpa [Cond.value, given_1] using gg1
    obtain ⟨L⟩ := args
    match L, hs with
    | [w0, w1, w2], _ => exact ⟨w0, w1, w2, rfl⟩
  have hw := fun d (hd : d ∈ tables_1) => atoms_spec (ws := Jvm.Cond.code x code maxLocals ret :: tables_1) hat d (List.mem_cons_of_mem _ hd)
  have hfit : Fit s := fun {y c} hc i hi => by
    obtain ⟨ha, rfl⟩ := Array.getElem?_eq_some_iff.mp hc
    have q := List.all_eq_true.mp ((Array.all_eq_true_iff_forall_mem.mp hF) _ (Array.getElem_mem ha)) i (List.mem_range.mpr hi)
    simpa [Array.getElem?_eq_getElem hi] using q
  obtain ⟨i0, ei0⟩ := is_v gg3
  obtain rfl : w0 = (.int i0) := Option.some.inj ei0
  obtain ⟨i1, ei1⟩ := is_v gg5
  obtain rfl : w1 = (.int i1) := Option.some.inj ei1
  obtain ⟨i2, ei2⟩ := is_v gg6
  obtain rfl : w2 = (.int i2) := Option.some.inj ei2
  obtain ⟨n, o, h1, h2, h3, _, L, rfl, ⟨rfl, N⟩, hq⟩ := rm0 l s _ hw i0 i1 i2 s.heap s.heap.size (Nat.le_refl _)  p e ha hc hk s m _ below hf ((Spec.applies_iff_loose hf).mp happ).1 ⟨rfl, State.Warmed39.refl s, rfl⟩ trivial
  refine ⟨n, _, h1, h2, h3, hpost _ _ _ _ _ _ ⟨Cond.after_iff.mpr rfl, Cond.after_iff.mpr (eq_i res_at (Term.int_eval (1)) (rfl)), trivial⟩ ⟨hq.1, hq.2.1, (hq.2.2.sift fun y hy => Or.inr (N y hy)).mono (by decide) (by decide)⟩⟩
theorem main_1_1 : Claimed_1_1 := comes_1 fun _ _ _ _ _ _ h hF => ⟨h.1, hF⟩
theorem main_1_2 : Claimed_1_2 := comes_1 fun _ _ _ _ _ _ h hF => ⟨h.2.1, hF⟩

end Jvm.Pilot.@@N@@
namespace Jvm.Pilot.@@N@@
open Jvm Jvm.ClassFile Sem Op Lib Jvm.Free Jvm.Stand Jvm.Pilot.@@N@@.Jvm.D
/-! MADE BY PROGRAM (witnessworld.py) out of the Statement's table words and the real class files: 14 classes; the members and pool entries that the words name. The judged class is class 1, her method 2. -/
namespace start1
open Jvm.ClassFile
def u (s : String) : CpInfo := .utf8 (stringToUtf16 s)
/-- a pool by its gaps: so many unusable entries, then the entry; so many at the end -/
def gap : Nat → List CpInfo → List CpInfo
  | 0, r => r
  | n + 1, r => .unusable :: gap n r
def poolList (es : List (Nat × CpInfo)) (last : Nat) : List CpInfo := es.foldr (fun e r => gap e.1 (e.2 :: r)) (gap last [])
def pool (es : List (Nat × CpInfo)) (last : Nat) : Array CpInfo := ⟨poolList es last⟩
def fileOf (pool : Array CpInfo) (this : Nat) (attrs : Array Attribute := #[]) (ms : Array MethodInfo := #[]) (fl : Nat := 33) (sup : Nat := 0) (ifs : Array Nat := #[]) (fds : Array FieldInfo := #[]) : ClassFile where
  minorVersion := 0
  majorVersion := 65
  constantPool := pool
  accessFlags := fl
  thisClass := this
  superClass := sup
  interfaces := ifs
  fields := fds
  methods := ms
  attributes := attrs
def plain (name : String) (sup : Option ClassId) : Class where
  name := name
  kind := .ordinary
  loader := none
  accessFlags := 33
  super := sup
  interfaces := #[]
  cf := none
  fields := #[]
  methods := #[]
  instanceTypes := #[]
  staticTypes := #[]
  resolved := #[]
  callSites := []
  init := .initialized
  statics := none
  mirror := none

def pool0 : Array CpInfo := pool [(5, u "<init>"), (0, u "()V"), (1, .class_ 10), (1, u "java/lang/Object"), (85, u "clone"), (0, u "()Ljava/lang/Object;")] 26

def k0m0 : Method := { name := "<init>", desc := "()V", sig := { parameters := [], returnType := none }, accessFlags := 1, code := none }
def k0m1 : Method := { name := "clone", desc := "()Ljava/lang/Object;", sig := { parameters := [], returnType := some (.object "java/lang/Object") }, accessFlags := 260, code := none }
/-- java/lang/Object -/
def k0 : Class := { plain "java/lang/Object" none with
  accessFlags := 33
  interfaces := #[]
  cf := some (fileOf pool0 8 #[] #[{ accessFlags := 1, nameIndex := 5, descriptorIndex := 6, attributes := #[] }, { accessFlags := 260, nameIndex := 96, descriptorIndex := 97, attributes := #[] }] 33 0 #[] #[])
  fields := #[]
  methods := #[k0m0, k0m1]
  instanceTypes := #[]
  staticTypes := #[]
  resolved := Array.replicate 124 none
  statics := none }

def pool1 : Array CpInfo := pool [(2, .class_ 4), (1, u "java/lang/Object"), (0, u "<init>"), (0, u "()V"), (0, .integer 2147483647), (0, .methodref 9 10), (0, .class_ 11), (0, .nameAndType 12 13), (0, u "com/example/conflux/conflux/compose/CatalogueIndexMarkedPinLaw"), (0, u "pick"), (0, u "(II)I"), (0, .methodref 15 16), (0, .class_ 17), (0, .nameAndType 18 19), (0, u "com/example/conflux/conflux/compose/CatalogueIndex"), (0, u "marked"), (0, u "([I[Z)[I"), (2, u "law"), (0, u "(III)Z")] 7

def k1m0 : Method := { name := "<init>", desc := "()V", sig := { parameters := [], returnType := none }, accessFlags := 1, code := none }
def k1c1 : Code := { maxStack := 3, maxLocals := 2, code := method_2_code, exceptionTable := #[], attributes := #[] }
def k1m1 : Method := { name := "pick", desc := "(II)I", sig := { parameters := [.int, .int], returnType := some .int }, accessFlags := 10, code := some k1c1 }
def k1c2 : Code := { maxStack := 4, maxLocals := 13, code := code, exceptionTable := #[], attributes := #[] }
def k1m2 : Method := { name := "law", desc := "(III)Z", sig := { parameters := [.int, .int, .int], returnType := some .boolean }, accessFlags := 9, code := some k1c2 }
/-- com/example/conflux/conflux/compose/CatalogueIndexMarkedPinLaw -/
def k1 : Class := { plain "com/example/conflux/conflux/compose/CatalogueIndexMarkedPinLaw" (some 0) with
  accessFlags := 49
  interfaces := #[]
  cf := some (fileOf pool1 9 #[] #[{ accessFlags := 1, nameIndex := 5, descriptorIndex := 6, attributes := #[] }, { accessFlags := 10, nameIndex := 12, descriptorIndex := 13, attributes := #[] }, { accessFlags := 9, nameIndex := 22, descriptorIndex := 23, attributes := #[] }] 49 2 #[] #[])
  fields := #[]
  methods := #[k1m0, k1m1, k1m2]
  instanceTypes := #[]
  staticTypes := #[]
  resolved := Array.replicate 31 none
  statics := none }

def pool2 : Array CpInfo := pool [(2, .class_ 4), (1, u "java/lang/Object"), (6, u "services"), (2, .class_ 16), (1, u "com/example/conflux/conflux/compose/CatalogueIndex"), (0, u "Ljava/util/List;"), (2, u "vocabulary"), (3, u "Lcom/example/conflux/conflux/compose/Vocabulary;"), (2, u "most"), (0, u "I"), (5, u "numbers"), (0, u "Ljava/util/Map;"), (5, u "concepts"), (7, u "[I"), (2, u "inputs"), (0, u "[[I"), (2, u "outputs"), (20, u "brings"), (18, u "broughtBy"), (2, u "directGivers"), (2, u "takers"), (2, u "taken"), (0, u "[Z"), (6, u "takenAhead"), (2, u "gives"), (2, u "NONE"), (1, .class_ 123), (1, u "java/util/Arrays"), (14, u "held"), (2, u "givers"), (4, .methodref 121 147), (0, .nameAndType 148 149), (0, u "copyOf"), (0, u "([II)[I"), (30, .class_ 181), (0, u "com/example/conflux/conflux/compose/CatalogueIndex$Closures"), (19, .class_ 202), (0, u "com/example/conflux/conflux/compose/CatalogueIndex$NameOrder"), (9, .class_ 213), (0, u "com/example/conflux/conflux/compose/CatalogueIndex$FromEachService"), (3, .class_ 218), (0, u "com/example/conflux/conflux/compose/CatalogueIndex$BackFromEachKept"), (2, u "marked"), (4, .class_ 228), (1, u "com/example/conflux/conflux/compose/CatalogueIndex$PairWalk"), (26, .class_ 256), (0, u "com/example/conflux/conflux/compose/CatalogueIndex$Walk"), (11, u "NOWHERE"), (2, u "UNKNOWN"), (30, u "([I[Z)[I")] 25

def k2c0 : Code := { maxStack := 3, maxLocals := 8, code := prog_22_method_20_code, exceptionTable := #[], attributes := #[] }
def k2m0 : Method := { name := "marked", desc := "([I[Z)[I", sig := { parameters := [(.array .int), (.array .boolean)], returnType := some (.array .int) }, accessFlags := 8, code := some k2c0 }
/-- com/example/conflux/conflux/compose/CatalogueIndex -/
def k2 : Class := { plain "com/example/conflux/conflux/compose/CatalogueIndex" (some 0) with
  accessFlags := 32
  interfaces := #[]
  cf := some (fileOf pool2 14 #[.nestMembers #[201, 217, 212, 226, 255, 180]] #[{ accessFlags := 8, nameIndex := 221, descriptorIndex := 302, attributes := #[] }] 32 2 #[] #[{ accessFlags := 26, nameIndex := 119, descriptorIndex := 49, attributes := #[] }, { accessFlags := 26, nameIndex := 268, descriptorIndex := 28, attributes := #[] }, { accessFlags := 26, nameIndex := 271, descriptorIndex := 28, attributes := #[] }, { accessFlags := 18, nameIndex := 11, descriptorIndex := 17, attributes := #[] }, { accessFlags := 18, nameIndex := 20, descriptorIndex := 24, attributes := #[] }, { accessFlags := 18, nameIndex := 27, descriptorIndex := 28, attributes := #[] }, { accessFlags := 18, nameIndex := 34, descriptorIndex := 35, attributes := #[] }, { accessFlags := 18, nameIndex := 41, descriptorIndex := 17, attributes := #[] }, { accessFlags := 18, nameIndex := 77, descriptorIndex := 53, attributes := #[] }, { accessFlags := 18, nameIndex := 96, descriptorIndex := 53, attributes := #[] }, { accessFlags := 18, nameIndex := 52, descriptorIndex := 53, attributes := #[] }, { accessFlags := 18, nameIndex := 56, descriptorIndex := 53, attributes := #[] }, { accessFlags := 18, nameIndex := 99, descriptorIndex := 53, attributes := #[] }, { accessFlags := 18, nameIndex := 102, descriptorIndex := 53, attributes := #[] }, { accessFlags := 18, nameIndex := 105, descriptorIndex := 106, attributes := #[] }, { accessFlags := 18, nameIndex := 113, descriptorIndex := 49, attributes := #[] }, { accessFlags := 18, nameIndex := 116, descriptorIndex := 53, attributes := #[] }, { accessFlags := 18, nameIndex := 141, descriptorIndex := 53, attributes := #[] }, { accessFlags := 18, nameIndex := 138, descriptorIndex := 28, attributes := #[] }])
  fields := #[{ name := "NONE", type := (.array .int), accessFlags := 26, slot := 0, constantValue := 0 }, { name := "NOWHERE", type := .int, accessFlags := 26, slot := 1, constantValue := 0 }, { name := "UNKNOWN", type := .int, accessFlags := 26, slot := 2, constantValue := 0 }, { name := "services", type := (.object "java/util/List"), accessFlags := 18, slot := 0, constantValue := 0 }, { name := "vocabulary", type := (.object "com/example/conflux/conflux/compose/Vocabulary"), accessFlags := 18, slot := 1, constantValue := 0 }, { name := "most", type := .int, accessFlags := 18, slot := 2, constantValue := 0 }, { name := "numbers", type := (.object "java/util/Map"), accessFlags := 18, slot := 3, constantValue := 0 }, { name := "concepts", type := (.object "java/util/List"), accessFlags := 18, slot := 4, constantValue := 0 }, { name := "brings", type := (.array (.array .int)), accessFlags := 18, slot := 5, constantValue := 0 }, { name := "broughtBy", type := (.array (.array .int)), accessFlags := 18, slot := 6, constantValue := 0 }, { name := "inputs", type := (.array (.array .int)), accessFlags := 18, slot := 7, constantValue := 0 }, { name := "outputs", type := (.array (.array .int)), accessFlags := 18, slot := 8, constantValue := 0 }, { name := "directGivers", type := (.array (.array .int)), accessFlags := 18, slot := 9, constantValue := 0 }, { name := "takers", type := (.array (.array .int)), accessFlags := 18, slot := 10, constantValue := 0 }, { name := "taken", type := (.array .boolean), accessFlags := 18, slot := 11, constantValue := 0 }, { name := "takenAhead", type := (.array .int), accessFlags := 18, slot := 12, constantValue := 0 }, { name := "gives", type := (.array (.array .int)), accessFlags := 18, slot := 13, constantValue := 0 }, { name := "givers", type := (.array (.array .int)), accessFlags := 18, slot := 14, constantValue := 0 }, { name := "held", type := .int, accessFlags := 18, slot := 15, constantValue := 0 }]
  methods := #[k2m0]
  instanceTypes := #[(.object "java/util/List"), (.object "com/example/conflux/conflux/compose/Vocabulary"), .int, (.object "java/util/Map"), (.object "java/util/List"), (.array (.array .int)), (.array (.array .int)), (.array (.array .int)), (.array (.array .int)), (.array (.array .int)), (.array (.array .int)), (.array .boolean), (.array .int), (.array (.array .int)), (.array (.array .int)), .int]
  staticTypes := #[(.array .int), .int, .int]
  resolved := Array.replicate 328 none
  statics := none }

def pool3 : Array CpInfo := pool [(2, .class_ 4), (1, u "java/lang/Object"), (0, u "<init>"), (0, u "()V"), (7, .class_ 16), (1, u "java/util/Arrays"), (57, .class_ 76), (1, u "java/util/Arrays$NaturalOrder"), (32, u "()Ljava/lang/Object;"), (3, .class_ 115), (1, u "java/util/Arrays$LegacyMergeSort"), (1, u "Z"), (10, .nameAndType 129 109), (0, u "clone"), (20, .methodref 151 152), (0, .class_ 153), (0, .nameAndType 154 155), (0, u "java/lang/System"), (0, u "arraycopy"), (0, u "(Ljava/lang/Object;ILjava/lang/Object;II)V"), (146, u "copyOf"), (1, .methodref 305 306), (0, .class_ 307), (0, .nameAndType 308 309), (0, u "java/lang/Math"), (0, u "min"), (0, u "(II)I"), (6, .methodref 317 128), (0, .class_ 318), (0, u "[I"), (56, .class_ 376), (0, u "java/util/Arrays$ArrayList"), (68, u "$assertionsDisabled"), (269, u "MIN_ARRAY_SORT_GRAN"), (0, u "I"), (2, u "INSERTIONSORT_THRESHOLD"), (151, u "([II)[I"), (103, .class_ 976), (0, u "java/util/Arrays$ArrayItr")] 52

def k3m0 : Method := { name := "<init>", desc := "()V", sig := { parameters := [], returnType := none }, accessFlags := 2, code := none }
def k3c1 : Code := { maxStack := 6, maxLocals := 3, code := jdk_65_method_123_code, exceptionTable := #[], attributes := #[] }
def k3m1 : Method := { name := "copyOf", desc := "([II)[I", sig := { parameters := [(.array .int), .int], returnType := some (.array .int) }, accessFlags := 9, code := some k3c1 }
/-- java/util/Arrays -/
def k3 : Class := { plain "java/util/Arrays" (some 0) with
  accessFlags := 49
  interfaces := #[]
  cf := some (fileOf pool3 14 #[.nestMembers #[975, 375, 113, 74]] #[{ accessFlags := 2, nameIndex := 5, descriptorIndex := 6, attributes := #[] }, { accessFlags := 9, nameIndex := 302, descriptorIndex := 871, attributes := #[] }] 49 2 #[] #[{ accessFlags := 26, nameIndex := 715, descriptorIndex := 716, attributes := #[] }, { accessFlags := 26, nameIndex := 719, descriptorIndex := 716, attributes := #[] }, { accessFlags := 4120, nameIndex := 445, descriptorIndex := 117, attributes := #[] }])
  fields := #[{ name := "MIN_ARRAY_SORT_GRAN", type := .int, accessFlags := 26, slot := 0, constantValue := 0 }, { name := "INSERTIONSORT_THRESHOLD", type := .int, accessFlags := 26, slot := 1, constantValue := 0 }, { name := "$assertionsDisabled", type := .boolean, accessFlags := 4120, slot := 2, constantValue := 0 }]
  methods := #[k3m0, k3m1]
  instanceTypes := #[]
  staticTypes := #[.int, .int, .boolean]
  resolved := Array.replicate 1029 none
  statics := none }

def pool4 : Array CpInfo := pool [(1, .class_ 2), (0, u "java/lang/Cloneable"), (0, .class_ 4), (0, u "java/lang/Object")] 2

/-- java/lang/Cloneable -/
def k4 : Class := { plain "java/lang/Cloneable" (some 0) with
  accessFlags := 1537
  interfaces := #[]
  cf := some (fileOf pool4 1 #[] #[] 1537 3 #[] #[])
  fields := #[]
  methods := #[]
  instanceTypes := #[]
  staticTypes := #[]
  resolved := Array.replicate 7 none
  statics := none }

def pool5 : Array CpInfo := pool [(1, .class_ 2), (0, u "java/lang/Math"), (1, .class_ 6), (1, u "java/lang/Object"), (0, u "<init>"), (0, u "()V"), (89, .class_ 100), (1, u "java/lang/Math$RandomNumberGeneratorHolder"), (71, u "negativeZeroFloatBits"), (0, u "J"), (2, u "negativeZeroDoubleBits"), (24, u "min"), (43, u "$assertionsDisabled"), (0, u "Z"), (88, u "(II)I"), (2, u "twoToTheDoubleScaleDown"), (0, u "D"), (4, u "twoToTheDoubleScaleUp"), (9, u "E"), (3, u "PI"), (2, u "TAU"), (2, u "DEGREES_TO_RADIANS"), (0, u "RADIANS_TO_DEGREES")] 94

def k5m0 : Method := { name := "<init>", desc := "()V", sig := { parameters := [], returnType := none }, accessFlags := 2, code := none }
def k5c1 : Code := { maxStack := 2, maxLocals := 2, code := jdk_29_method_69_code, exceptionTable := #[], attributes := #[] }
def k5m1 : Method := { name := "min", desc := "(II)I", sig := { parameters := [.int, .int], returnType := some .int }, accessFlags := 9, code := some k5c1 }
/-- java/lang/Math -/
def k5 : Class := { plain "java/lang/Math" (some 0) with
  accessFlags := 49
  interfaces := #[]
  cf := some (fileOf pool5 1 #[.nestMembers #[98]] #[{ accessFlags := 2, nameIndex := 7, descriptorIndex := 8, attributes := #[] }, { accessFlags := 9, nameIndex := 201, descriptorIndex := 335, attributes := #[] }] 49 4 #[] #[{ accessFlags := 25, nameIndex := 354, descriptorIndex := 339, attributes := #[] }, { accessFlags := 25, nameIndex := 358, descriptorIndex := 339, attributes := #[] }, { accessFlags := 25, nameIndex := 361, descriptorIndex := 339, attributes := #[] }, { accessFlags := 26, nameIndex := 364, descriptorIndex := 339, attributes := #[] }, { accessFlags := 26, nameIndex := 365, descriptorIndex := 339, attributes := #[] }, { accessFlags := 26, nameIndex := 172, descriptorIndex := 173, attributes := #[] }, { accessFlags := 26, nameIndex := 176, descriptorIndex := 173, attributes := #[] }, { accessFlags := 8, nameIndex := 344, descriptorIndex := 339, attributes := #[] }, { accessFlags := 8, nameIndex := 338, descriptorIndex := 339, attributes := #[] }, { accessFlags := 4120, nameIndex := 245, descriptorIndex := 246, attributes := #[] }])
  fields := #[{ name := "E", type := .double, accessFlags := 25, slot := 0, constantValue := 0 }, { name := "PI", type := .double, accessFlags := 25, slot := 1, constantValue := 0 }, { name := "TAU", type := .double, accessFlags := 25, slot := 2, constantValue := 0 }, { name := "DEGREES_TO_RADIANS", type := .double, accessFlags := 26, slot := 3, constantValue := 0 }, { name := "RADIANS_TO_DEGREES", type := .double, accessFlags := 26, slot := 4, constantValue := 0 }, { name := "negativeZeroFloatBits", type := .long, accessFlags := 26, slot := 5, constantValue := 0 }, { name := "negativeZeroDoubleBits", type := .long, accessFlags := 26, slot := 6, constantValue := 0 }, { name := "twoToTheDoubleScaleUp", type := .double, accessFlags := 8, slot := 7, constantValue := 0 }, { name := "twoToTheDoubleScaleDown", type := .double, accessFlags := 8, slot := 8, constantValue := 0 }, { name := "$assertionsDisabled", type := .boolean, accessFlags := 4120, slot := 9, constantValue := 0 }]
  methods := #[k5m0, k5m1]
  instanceTypes := #[]
  staticTypes := #[.double, .double, .double, .double, .double, .long, .long, .double, .double, .boolean]
  resolved := Array.replicate 460 none
  statics := none }

def pool6 : Array CpInfo := pool [(2, .class_ 4), (1, u "java/lang/Object"), (0, u "<init>"), (0, u "()V"), (1, .class_ 10), (1, u "java/lang/System"), (0, u "allowSecurityManager"), (0, u "I"), (16, u "cons"), (0, u "Ljava/io/Console;"), (77, .class_ 110), (1, u "java/lang/System$CallersHolder"), (43, u "initialErrStream"), (0, u "Ljava/io/PrintStream;"), (19, u "security"), (0, u "Ljava/lang/SecurityManager;"), (31, .class_ 209), (0, u "java/lang/System$1"), (7, u "props"), (0, u "Ljava/util/Properties;"), (2, u "lineSeparator"), (0, u "Ljava/lang/String;"), (96, .class_ 321), (1, u "java/lang/System$LoggerFinder"), (5, .class_ 328), (0, u "java/lang/System$Logger"), (67, u "err"), (2, u "out"), (91, u "notSupportedJnuEncoding"), (15, u "in"), (17, u "initialIn"), (0, u "Ljava/io/InputStream;"), (35, u "bootLayer"), (0, u "Ljava/lang/ModuleLayer;"), (99, .class_ 664), (0, u "java/lang/System$2"), (9, u "NEVER"), (2, u "MAYBE"), (49, u "arraycopy"), (0, u "(Ljava/lang/Object;ILjava/lang/Object;II)V"), (72, .class_ 802), (0, u "java/lang/System$Logger$Level")] 31

def k6m0 : Method := { name := "<init>", desc := "()V", sig := { parameters := [], returnType := none }, accessFlags := 2, code := none }
def k6m1 : Method := { name := "arraycopy", desc := "(Ljava/lang/Object;ILjava/lang/Object;II)V", sig := { parameters := [(.object "java/lang/Object"), .int, (.object "java/lang/Object"), .int, .int], returnType := none }, accessFlags := 265, code := none }
/-- java/lang/System -/
def k6 : Class := { plain "java/lang/System" (some 0) with
  accessFlags := 49
  interfaces := #[]
  cf := some (fileOf pool6 8 #[.nestMembers #[319, 327, 801, 108, 663, 208]] #[{ accessFlags := 2, nameIndex := 5, descriptorIndex := 6, attributes := #[] }, { accessFlags := 265, nameIndex := 727, descriptorIndex := 728, attributes := #[] }] 49 2 #[] #[{ accessFlags := 25, nameIndex := 507, descriptorIndex := 526, attributes := #[] }, { accessFlags := 25, nameIndex := 399, descriptorIndex := 155, attributes := #[] }, { accessFlags := 25, nameIndex := 396, descriptorIndex := 155, attributes := #[] }, { accessFlags := 10, nameIndex := 525, descriptorIndex := 526, attributes := #[] }, { accessFlags := 26, nameIndex := 674, descriptorIndex := 12, attributes := #[] }, { accessFlags := 26, nameIndex := 677, descriptorIndex := 12, attributes := #[] }, { accessFlags := 10, nameIndex := 11, descriptorIndex := 12, attributes := #[] }, { accessFlags := 74, nameIndex := 175, descriptorIndex := 176, attributes := #[] }, { accessFlags := 10, nameIndex := 491, descriptorIndex := 222, attributes := #[] }, { accessFlags := 74, nameIndex := 29, descriptorIndex := 30, attributes := #[] }, { accessFlags := 74, nameIndex := 154, descriptorIndex := 155, attributes := #[] }, { accessFlags := 10, nameIndex := 217, descriptorIndex := 218, attributes := #[] }, { accessFlags := 10, nameIndex := 221, descriptorIndex := 222, attributes := #[] }, { accessFlags := 8, nameIndex := 562, descriptorIndex := 563, attributes := #[] }])
  fields := #[{ name := "in", type := (.object "java/io/InputStream"), accessFlags := 25, slot := 0, constantValue := 0 }, { name := "out", type := (.object "java/io/PrintStream"), accessFlags := 25, slot := 1, constantValue := 0 }, { name := "err", type := (.object "java/io/PrintStream"), accessFlags := 25, slot := 2, constantValue := 0 }, { name := "initialIn", type := (.object "java/io/InputStream"), accessFlags := 10, slot := 3, constantValue := 0 }, { name := "NEVER", type := .int, accessFlags := 26, slot := 4, constantValue := 0 }, { name := "MAYBE", type := .int, accessFlags := 26, slot := 5, constantValue := 0 }, { name := "allowSecurityManager", type := .int, accessFlags := 10, slot := 6, constantValue := 0 }, { name := "security", type := (.object "java/lang/SecurityManager"), accessFlags := 74, slot := 7, constantValue := 0 }, { name := "notSupportedJnuEncoding", type := (.object "java/lang/String"), accessFlags := 10, slot := 8, constantValue := 0 }, { name := "cons", type := (.object "java/io/Console"), accessFlags := 74, slot := 9, constantValue := 0 }, { name := "initialErrStream", type := (.object "java/io/PrintStream"), accessFlags := 74, slot := 10, constantValue := 0 }, { name := "props", type := (.object "java/util/Properties"), accessFlags := 10, slot := 11, constantValue := 0 }, { name := "lineSeparator", type := (.object "java/lang/String"), accessFlags := 10, slot := 12, constantValue := 0 }, { name := "bootLayer", type := (.object "java/lang/ModuleLayer"), accessFlags := 8, slot := 13, constantValue := 0 }]
  methods := #[k6m0, k6m1]
  instanceTypes := #[]
  staticTypes := #[(.object "java/io/InputStream"), (.object "java/io/PrintStream"), (.object "java/io/PrintStream"), (.object "java/io/InputStream"), .int, .int, .int, (.object "java/lang/SecurityManager"), (.object "java/lang/String"), (.object "java/io/Console"), (.object "java/io/PrintStream"), (.object "java/util/Properties"), (.object "java/lang/String"), (.object "java/lang/ModuleLayer")]
  resolved := Array.replicate 834 none
  statics := none }

def pool7 : Array CpInfo := pool [(1, u "java/io/Serializable"), (0, .class_ 1), (0, u "java/lang/Object"), (0, .class_ 3)] 3

/-- java/io/Serializable -/
def k7 : Class := { plain "java/io/Serializable" (some 0) with
  accessFlags := 1537
  interfaces := #[]
  cf := some (fileOf pool7 2 #[] #[] 1537 4 #[] #[])
  fields := #[]
  methods := #[]
  instanceTypes := #[]
  staticTypes := #[]
  resolved := Array.replicate 8 none
  statics := none }

/-- the primitive boolean -/
def k8 : Class := { plain "boolean" none with kind := .primitive 'Z', accessFlags := 0x411 }
/-- [Z -/
def k9 : Class := { plain "[Z" (some 0) with kind := .array 8 .boolean, interfaces := #[4, 7], accessFlags := 1041 }

/-- the primitive byte -/
def k10 : Class := { plain "byte" none with kind := .primitive 'B', accessFlags := 0x411 }
/-- [B -/
def k11 : Class := { plain "[B" (some 0) with kind := .array 10 .byte, interfaces := #[4, 7], accessFlags := 1041 }

/-- the primitive int -/
def k12 : Class := { plain "int" none with kind := .primitive 'I', accessFlags := 0x411 }
/-- [I -/
def k13 : Class := { plain "[I" (some 0) with kind := .array 12 .int, interfaces := #[4, 7], accessFlags := 1041 }

def heap : Heap := #[]
def classes : Array Class := #[k0, k1, k2, k3, k4, k5, k6, k7, k8, k9, k10, k11, k12, k13]
def interned : List (Array UInt16 × Addr) := []
def slotsUsed : Nat := 0
def theMethod : MethodId := ⟨1, 2⟩
def args0 : Array Value := #[.int 5, .int 3, .int 2]
def aboutOver (below : List Frame) : State where
  vm := { classes := classes, interned := interned.toArray }
  heap := heap
  slotsUsed := slotsUsed
  threads := #[{ frames := .invoking theMethod args0 :: below }]
def below0 : List Frame := [.native { method := ⟨0, 0⟩, args := #[] }]
def about1 : State := aboutOver below0
def p0 : Program := .bare "" "" ""
def e0 : Env := launch0.env 0 0 0
theorem w_frames : about1.frames = Frame.invoking theMethod args0 :: below0 := rfl
set_option maxRecDepth 65536 in
theorem w_args : argsFit about1.vm theMethod args0 = true := by decide +kernel
set_option maxRecDepth 65536 in
theorem w_heap : heapFits about1 = true := by decide +kernel
set_option maxRecDepth 65536 in
theorem w_runnable : about1.curStatus? = some .runnable := by decide +kernel
set_option maxRecDepth 65536 in
theorem w_alone : about1.alone = true := by decide +kernel
set_option maxRecDepth 65536 in
theorem w_named : about1.methodNamed? x = some theMethod := by decide +kernel
set_option maxRecDepth 65536 in
theorem w_hears : about1.hears theMethod below0 = true := by decide +kernel
set_option maxRecDepth 65536 in
theorem w_ripe : about1.ripe theMethod args0 below0 = true := by decide +kernel
theorem w_running : about1.status = .running := rfl
set_option maxRecDepth 65536 in
theorem w_room : about1.hasRoom e0.platform room_1 = true :=
  launch0.hasRoom_least _ room_1 (by decide +kernel) (by decide +kernel) (by decide +kernel) (by decide +kernel) (by decide +kernel) (by decide +kernel)
theorem allAtoms_all (ts : List Jvm.Cond) (a : Array Jvm.Value) (st : Jvm.State) : (allAtoms ts).before a st = ts.all (fun c => c.before a st) := by
  induction ts with
  | nil => rfl
  | cons c t ih =>
    show (Jvm.Cond.and c (allAtoms t)).before a st = _
    rw [Jvm.Cond.before_and, ih, List.all_cons]
def words1 : List Jvm.Cond := Jvm.Cond.code x code maxLocals ret :: tables_1
/-- a 'code' word, met by the world's own term for the bytes: nothing is compared byte by byte -/
theorem code_word {y : MethodName} {bytes : ByteArray} {mx : Nat} {rt : Option FieldType} {a : Array Value} {s : State} {m : MethodId} {meth : Method} {c : Code} (h1 : s.methodNamed? y = some m) (h2 : s.vm.method? m = some meth) (h3 : meth.code = some c) (h4 : c.code = bytes)
    (h5 : (c.maxLocals == mx && c.exceptionTable.isEmpty && decide (c.maxStack ≤ mostOperands) && decide (meth.sig.returnType = rt) && !meth.locks && decide (parseMethodDescriptor y.desc = some meth.sig)) = true) : (Jvm.Cond.code y bytes mx rt).before a s = true := by
  simp only [Bool.and_eq_true, beq_iff_eq, Bool.not_eq_true', decide_eq_true_eq] at h5
  obtain ⟨⟨⟨⟨⟨g1, g2⟩, g3⟩, g4⟩, g5⟩, g6⟩ := h5
  simp [Cond.before, Cond.holds, Cond.value, h1, h2, h3, h4, g1, g2, g3, g4, g5, g6]
def isCode : Jvm.Cond → Bool
  | .code _ _ _ _ => true
  | _ => false
theorem all_split {L : List Jvm.Cond} {P : Jvm.Cond → Bool} (h1 : L.all (fun c => isCode c || P c) = true) (h2 : ∀ c ∈ L.filter isCode, P c = true) : L.all P = true := by
  refine List.all_eq_true.mpr fun c hc => ?_
  have h := List.all_eq_true.mp h1 c hc
  rcases Bool.eq_false_or_eq_true (isCode c) with hi | hi
  · exact h2 c (List.mem_filter.mpr ⟨hc, hi⟩)
  · simpa [hi] using h
set_option maxRecDepth 65536 in
theorem w_c0 : (Jvm.Cond.code x code maxLocals ret).before args0 about1 = true := code_word (m := ⟨1, 2⟩) (meth := k1m2) (c := k1c2) (by decide +kernel) rfl rfl rfl (by decide +kernel)
set_option maxRecDepth 65536 in
theorem w_c1 : (Jvm.Cond.code ({ cls := "com/example/conflux/conflux/compose/CatalogueIndexMarkedPinLaw", name := "pick", desc := "(II)I" } : Jvm.MethodName) method_2_code (2 : Nat) (Option.some Jvm.ClassFile.FieldType.int)).before args0 about1 = true := code_word (m := ⟨1, 1⟩) (meth := k1m1) (c := k1c1) (by decide +kernel) rfl rfl rfl (by decide +kernel)
set_option maxRecDepth 65536 in
theorem w_c2 : (Jvm.Cond.code ({ cls := "com/example/conflux/conflux/compose/CatalogueIndex", name := "marked", desc := "([I[Z)[I" } : Jvm.MethodName) prog_22_method_20_code (8 : Nat) (Option.some (Jvm.ClassFile.FieldType.array Jvm.ClassFile.FieldType.int))).before args0 about1 = true := code_word (m := ⟨2, 0⟩) (meth := k2m0) (c := k2c0) (by decide +kernel) rfl rfl rfl (by decide +kernel)
set_option maxRecDepth 65536 in
theorem w_c3 : (Jvm.Cond.code ({ cls := "java/util/Arrays", name := "copyOf", desc := "([II)[I" } : Jvm.MethodName) jdk_65_method_123_code (3 : Nat) (Option.some (Jvm.ClassFile.FieldType.array Jvm.ClassFile.FieldType.int))).before args0 about1 = true := code_word (m := ⟨3, 1⟩) (meth := k3m1) (c := k3c1) (by decide +kernel) rfl rfl rfl (by decide +kernel)
set_option maxRecDepth 65536 in
theorem w_c4 : (Jvm.Cond.code ({ cls := "java/lang/Math", name := "min", desc := "(II)I" } : Jvm.MethodName) jdk_29_method_69_code (2 : Nat) (Option.some Jvm.ClassFile.FieldType.int)).before args0 about1 = true := code_word (m := ⟨5, 1⟩) (meth := k5m1) (c := k5c1) (by decide +kernel) rfl rfl rfl (by decide +kernel)
def codes1 : List Jvm.Cond := [Jvm.Cond.code x code maxLocals ret, Jvm.Cond.code ({ cls := "com/example/conflux/conflux/compose/CatalogueIndexMarkedPinLaw", name := "pick", desc := "(II)I" } : Jvm.MethodName) method_2_code (2 : Nat) (Option.some Jvm.ClassFile.FieldType.int), Jvm.Cond.code ({ cls := "com/example/conflux/conflux/compose/CatalogueIndex", name := "marked", desc := "([I[Z)[I" } : Jvm.MethodName) prog_22_method_20_code (8 : Nat) (Option.some (Jvm.ClassFile.FieldType.array Jvm.ClassFile.FieldType.int)), Jvm.Cond.code ({ cls := "java/util/Arrays", name := "copyOf", desc := "([II)[I" } : Jvm.MethodName) jdk_65_method_123_code (3 : Nat) (Option.some (Jvm.ClassFile.FieldType.array Jvm.ClassFile.FieldType.int)), Jvm.Cond.code ({ cls := "java/lang/Math", name := "min", desc := "(II)I" } : Jvm.MethodName) jdk_29_method_69_code (2 : Nat) (Option.some Jvm.ClassFile.FieldType.int)]
set_option maxRecDepth 65536 in
theorem codes_eq : words1.filter isCode = codes1 := rfl
theorem w_codes : ∀ c ∈ words1.filter isCode, c.before args0 about1 = true := by
  rw [codes_eq]
  intro c hc
  simp only [codes1, List.mem_cons, List.not_mem_nil, or_false] at hc
  rcases hc with rfl | rfl | rfl | rfl | rfl
  · exact w_c0
  · exact w_c1
  · exact w_c2
  · exact w_c3
  · exact w_c4
set_option maxRecDepth 65536 in
theorem w_t1 : (words1.take 24).all (fun c => isCode c || c.before args0 about1) = true := by decide +kernel
set_option maxRecDepth 65536 in
theorem w_t2 : (words1.drop 24).all (fun c => isCode c || c.before args0 about1) = true := by decide +kernel
theorem w_tables : (allAtoms (Jvm.Cond.code x code maxLocals ret :: tables_1)).before args0 about1 = true := by
  rw [allAtoms_all]
  show words1.all (fun c => c.before args0 about1) = true
  refine all_split ?_ w_codes
  rw [← List.take_append_drop 24 words1, List.all_append, w_t1, w_t2]
  rfl
set_option maxRecDepth 65536 in
theorem w_case : (Jvm.Cond.and given_1 narrow_1).before args0 about1 = true := by decide +kernel
theorem w_applies : (headSpec (Jvm.Cond.code x code maxLocals ret :: tables_1) room_1).applies x e0.platform about1 = true :=
  (Spec.applies_iff w_frames).mpr ⟨w_running, w_runnable, w_alone, w_named, w_hears, w_ripe, w_room, w_tables⟩
theorem atStart : AtStart classFile x code maxLocals ret World_1 tables_1 room_1 Calls_1 rest_1 Pre_1 launch0 p0 e0 about1 theMethod args0 below0 :=
  ⟨lists_1, trivial, launch0.admits_env _ _ _, launch0.least_env, fairChoices_fair.cas, fairChoices_fair.clock, w_frames, w_args, w_heap, w_applies, trivial, trivial, w_case⟩
end start1
theorem witness_1 : WitnessClaimed_1 := ⟨start1.p0, start1.e0, start1.about1, start1.theMethod, start1.args0, start1.below0, start1.atStart⟩
end Jvm.Pilot.@@N@@
