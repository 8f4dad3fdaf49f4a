import JvmDerived
import JvmDerived.Pilot.@@N@@Statement
import JvmDerived.Pilot.@@N@@Code
set_option linter.unusedVariables false
set_option linter.unusedSimpArgs false
@@BLOCK:NumsL.lean.txt@@
namespace Jvm.Pilot.@@N@@
open Jvm Jvm.ClassFile Sem Op Lib Jvm.Free Jvm.Stand Jvm.LawKit Jvm.RoadKit Bundle Jvm.Pilot.@@N@@.Jvm.D

section Own
variable {p : Program} {l : Launch} {e : Env} {R : Room} {s : State} {m : MethodId} {args : Array Value} {below : List Frame} {meth : Method} {c : Code} {T : State} {locs : List Loc} {cells slots : Nat} {Z : State} {a0 : Array Value} {h : Heap} {Q : Option Value → Heap → List Loc → Prop} {kc kn : Nat}
/-- from U the body comes to its end, with Q -/
def own_Fin (p : Program) (e : Env) (below : List Frame) (s : State) (Q : Option Value → Heap → List Loc → Prop) (kc kn : Nat) (U : State) : Prop :=
  ∃ t o, Steps p.tables e below U t ∧ t.status = .running ∧ Ended t below o ∧ ∃ v L, o = .returned v ∧ Q v t.heap L ∧ FrameEnd s o t L kc kn
theorem own_go {U U' : State} (g : ∀ t, Steps p.tables e below U' t → Steps p.tables e below U t) (H : own_Fin p e below s Q kc kn U') : own_Fin p e below s Q kc kn U := by
  obtain ⟨t, o, h1, h2⟩ := H
  exact ⟨t, o, g t h1, h2⟩
/-- what a body that writes nothing and returns w leaves -/
def own_P (w : Option Value) (h0 : Heap) (n0 : Nat) (v : Option Value) (h : Heap) (L : List Loc) : Prop := v = w ∧ Fr n0 L ∧ h = h0
/-- a body's contract: called with as' on the heap h, it ends with Q -/
def own_Met (l : Launch) (y : MethodName) (bytes : ByteArray) (maxL : Nat) (ret : Option FieldType) (rm : Room) (Z : State) (ws : List Jvm.Cond) (as' : Array Value) (h : Heap) (Q : Option Value → Heap → List Loc → Prop) : Prop :=
  MetFree l y (head1 (Jvm.Cond.code y bytes maxL ret :: ws) rm) (fun a U => a = as' ∧ Z.Warmed39 U.vm ∧ U.heap = h) (fun _ _ _ _ _ => True) (fun _ U o U' => ∃ v L, o = .returned v ∧ Q v U'.heap L ∧ FrameEnd U o U' L rm.cells rm.slots)
theorem own_enter {y : MethodName} {bytes : ByteArray} {maxL : Nat} {ret : Option FieldType} {rm : Room} {ws : List Jvm.Cond} {as' : Array Value} (hp : plainFor y = true)
    (H : ∀ (p : Program) (e : Env) (s : State) (m : MethodId) (below : List Frame) (meth : Method) (c : Code) (s₁ : State), p.tables.exec = Jvm.exec → c.code = bytes → c.maxLocals = maxL → s.vm.findClass y.cls = some m.cls → meth.name = y.name → meth.sig.returnType = ret → meth.locks = false → Z.Warmed39 s.vm → s₁.heap = h → Stand p l e rm s m as' below meth c s₁ [] 0 0 → own_Fin p e below s Q rm.cells rm.slots (s₁.setTop (entryFrame m as' maxL))) :
    own_Met l y bytes maxL ret rm Z ws as' h Q := by
  unfold own_Met
  refine MetFree.of_bodySF hp hisR ?_
  intro p e s m args below meth c s₁ Bd hml0 hP hK
  obtain ⟨rfl, hZ, hh⟩ := hP
  exact H p e s m below meth c s₁ Bd.exec Bd.bytes hml0 (findClass_of_methodNamed Bd.named) (name_of_methodNamed Bd.named Bd.method).1 Bd.returns (BodyLoose.notSynchronized Bd) hZ (by rw [← hh, Bd.state]; rfl) (Stand.of_body Bd)
theorem own_ret (X : Stand p l e R s m args below meth c T locs cells slots) (hx : p.tables.exec = Jvm.exec) (hlk : meth.locks = false) {pc : Nat} {Ls : Array Slot} {w : Value} {t : FieldType} {i : Instr} {rest : List Value} (hret : meth.sig.returnType = some t) (hn : narrow t w = w)
    (hi : (i = .ireturn ∧ (t = .int ∨ t = .boolean ∨ t = .byte ∨ t = .char ∨ t = .short) ∧ ∃ z, w = .int z) ∨ (i = .lreturn ∧ t = .long ∧ ∃ z, w = .long z) ∨ (i = .dreturn ∧ t = .double ∧ ∃ z, w = .double z) ∨ (i = .freturn ∧ t = .float ∧ ∃ z, w = .float z) ∨ (i = .areturn ∧ t.isReference = true ∧ w.isRef = true))
    (hd : decode c.code pc = .ok (i, 1)) (hk : cells ≤ kc) (hs : slots ≤ kn) (hq : Q (some w) T.heap locs) : own_Fin p e below s Q kc kn (T.setTop (mkF m pc Ls (w :: rest))) := by
  obtain ⟨fs, hr, hrun, hended, hW, hsame⟩ := X.leave (v := some w) (fun h => by rw [hret] at h; cases h) hlk
  exact ⟨_, _, retOut X hx hret hn hi hd hr, hrun, hended, _, _, rfl, hq, ⟨_, rfl⟩, hW, hsame.mono hk hs⟩
theorem own_retI (X : Stand p l e R s m args below meth c T locs cells slots) (hx : p.tables.exec = Jvm.exec) (hlk : meth.locks = false) {pc : Nat} {Ls : Array Slot} {z : Int32} {rest : List Value} (hret : meth.sig.returnType = some .int)
    (hd : decode c.code pc = .ok (.ireturn, 1)) (hk : cells ≤ kc) (hs : slots ≤ kn) (hq : Q (some (.int z)) T.heap locs) : own_Fin p e below s Q kc kn (T.setTop (mkF m pc Ls (.int z :: rest))) :=
  own_ret X hx hlk hret rfl (Or.inl ⟨rfl, Or.inl rfl, _, rfl⟩) hd hk hs hq
theorem own_retZ (X : Stand p l e R s m args below meth c T locs cells slots) (hx : p.tables.exec = Jvm.exec) (hlk : meth.locks = false) {pc : Nat} {Ls : Array Slot} {z : Int32} {rest : List Value} (hret : meth.sig.returnType = some .boolean) (hn : narrow .boolean (.int z) = .int z)
    (hd : decode c.code pc = .ok (.ireturn, 1)) (hk : cells ≤ kc) (hs : slots ≤ kn) (hq : Q (some (.int z)) T.heap locs) : own_Fin p e below s Q kc kn (T.setTop (mkF m pc Ls (.int z :: rest))) :=
  own_ret X hx hlk hret hn (Or.inl ⟨rfl, Or.inr (Or.inl rfl), _, rfl⟩) hd hk hs hq
theorem own_retJ (X : Stand p l e R s m args below meth c T locs cells slots) (hx : p.tables.exec = Jvm.exec) (hlk : meth.locks = false) {pc : Nat} {Ls : Array Slot} {z : Int64} {rest : List Value} (hret : meth.sig.returnType = some .long)
    (hd : decode c.code pc = .ok (.lreturn, 1)) (hk : cells ≤ kc) (hs : slots ≤ kn) (hq : Q (some (.long z)) T.heap locs) : own_Fin p e below s Q kc kn (T.setTop (mkF m pc Ls (.long z :: rest))) :=
  own_ret X hx hlk hret rfl (Or.inr (Or.inl ⟨rfl, rfl, _, rfl⟩)) hd hk hs hq
theorem own_retA (X : Stand p l e R s m args below meth c T locs cells slots) (hx : p.tables.exec = Jvm.exec) (hlk : meth.locks = false) {pc : Nat} {Ls : Array Slot} {z : Addr} {t : FieldType} {rest : List Value} (hret : meth.sig.returnType = some t) (ht : t.isReference = true) (hn : narrow t (.ref z) = .ref z)
    (hd : decode c.code pc = .ok (.areturn, 1)) (hk : cells ≤ kc) (hs : slots ≤ kn) (hq : Q (some (.ref z)) T.heap locs) : own_Fin p e below s Q kc kn (T.setTop (mkF m pc Ls (.ref z :: rest))) :=
  own_ret X hx hlk hret hn (Or.inr (Or.inr (Or.inr (Or.inr ⟨rfl, ht, rfl⟩)))) hd hk hs hq
theorem own_retV (X : Stand p l e R s m args below meth c T locs cells slots) (hx : p.tables.exec = Jvm.exec) (hlk : meth.locks = false) {pc : Nat} {Ls : Array Slot} (hret : meth.sig.returnType = none)
    (hd : decode c.code pc = .ok (.return_, 1)) (hk : cells ≤ kc) (hs : slots ≤ kn) (hq : Q none T.heap locs) : own_Fin p e below s Q kc kn (T.setTop (mkF m pc Ls [])) := by
  obtain ⟨fs, hr, hrun, hended, hW, hsame⟩ := X.leave (v := none) (fun _ => rfl) hlk
  exact ⟨_, _, X.returnOut hx hret hd hr, hrun, hended, _, _, rfl, hq, ⟨_, rfl⟩, hW, hsame.mono hk hs⟩
theorem own_callS (X : Stand p l e R s m args below meth c T locs cells slots) (hx : p.tables.exec = Jvm.exec) (hZ : Z.Warmed39 s.vm) {own : String} {index : Nat} {y : MethodName} {bytes : ByteArray} {maxL : Nat} {ret : Option FieldType} {rm : Room} {as' : Array Value} {Q' : Option Value → Heap → List Loc → Prop}
    (hown : s.vm.findClass own = some m.cls) (w1 : (Jvm.Cond.methodLink own index y).before a0 Z = true) (w2 : (Jvm.Cond.static y).before a0 Z = true) (w3 : (Jvm.Cond.initialized y.cls).before a0 Z = true) (w4 : (Jvm.Cond.code y bytes maxL ret).before a0 Z = true) (hy : y.cls ≠ "java/lang/invoke/MethodHandle" ∧ y.cls ≠ "java/lang/invoke/VarHandle")
    (hM : own_Met l y bytes maxL ret rm Z [] as' h Q') (eT : T.heap = h) {pc : Nat} {Ls : Array Slot} {st argsL rest : List Value} (hst : st = argsL.reverse ++ rest) (has : argsL.toArray = as') (hsize : Ls.size = c.maxLocals) (hlen : ∀ sig, parseMethodDescriptor y.desc = some sig → argsL.length = sig.parameters.length)
    (hd : decode c.code pc = .ok (.invokestatic index, 3)) {W : Nat} (hW : (rest.map fun v => v.category).sum ≤ W) (hf : rm.frames + 1 ≤ R.frames) (hl : W + (maxL + 11) + rm.locals ≤ R.locals) (hc : cells + rm.cells ≤ R.cells) (hs : slots + rm.slots ≤ R.slots)
    (H : ∀ (v : Option Value) (T' : State) (L : List Loc), Stand p l e R s m args below meth c T' (locs ++ L) (cells + rm.cells) (slots + rm.slots) → Q' v T'.heap L → own_Fin p e below s Q kc kn (T'.setTop (mkF m (pc + 3) Ls (v.toList ++ rest)))) :
    own_Fin p e below s Q kc kn (T.setTop (mkF m pc Ls st)) := by
  subst hst
  obtain ⟨v, _, ⟨T', L', k', n'⟩, -, X', ⟨Lc, hQ, l1, y1, z1⟩, st⟩ := Jvm.LawKit.callS X hx (y := y) hown (mvT hZ w1) (mvT hZ w2) (mvT hZ w3) (mvT hZ w4) hy (backOf (W := W) hM hZ w4 w3 hf hl) (g := mkF m pc Ls (argsL.reverse ++ rest)) rfl hsize hlen rfl (by show 2 * 0 + _ ≤ _; omega) hd (fun _ _ => ⟨has, eT, hc, hs⟩)
  dsimp only [Pt.U, Pt.locs, Pt.cells, Pt.slots] at X' l1 y1 z1 st hQ
  subst l1 y1 z1
  exact own_go st (H _ _ _ X' hQ)
theorem own_callV (X : Stand p l e R s m args below meth c T locs cells slots) (hx : p.tables.exec = Jvm.exec) (hZ : Z.Warmed39 s.vm) {own C : String} {index : Nat} {y z : MethodName} {bytes : ByteArray} {maxL : Nat} {ret : Option FieldType} {rm : Room} {as' : Array Value} {Q' : Option Value → Heap → List Loc → Prop}
    (hown : s.vm.findClass own = some m.cls) (w1 : (Jvm.Cond.methodLink own index y).before a0 Z = true) (w2 : (Jvm.Cond.declares y).before a0 Z = true) (nf : NotFace s y) (w3 : (Jvm.Cond.selects C y z).before a0 Z = true) (w4 : (Jvm.Cond.instanceMethod z).before a0 Z = true) (w5 : (Jvm.Cond.code z bytes maxL ret).before a0 Z = true) (w6 : (Jvm.Cond.initialized z.cls).before a0 Z = true) (hy : y.cls ≠ "java/lang/invoke/MethodHandle" ∧ y.cls ≠ "java/lang/invoke/VarHandle")
    (hM : own_Met l z bytes maxL ret rm Z [] as' h Q') (eT : T.heap = h) {a : Addr} (E : Exa Z h a C) {pc : Nat} {Ls : Array Slot} {st argsL rest : List Value} (hst : st = argsL.reverse ++ .ref a :: rest) (has : (.ref a :: argsL).toArray = as') (hsize : Ls.size = c.maxLocals) (hlen : ∀ sig, parseMethodDescriptor y.desc = some sig → argsL.length = sig.parameters.length)
    (hd : decode c.code pc = .ok (.invokevirtual index, 3)) {W : Nat} (hW : (rest.map fun v => v.category).sum ≤ W) (hf : rm.frames + 1 ≤ R.frames) (hl : W + (maxL + 11) + rm.locals ≤ R.locals) (hc : cells + rm.cells ≤ R.cells) (hs : slots + rm.slots ≤ R.slots)
    (H : ∀ (v : Option Value) (T' : State) (L : List Loc), Stand p l e R s m args below meth c T' (locs ++ L) (cells + rm.cells) (slots + rm.slots) → Q' v T'.heap L → own_Fin p e below s Q kc kn (T'.setTop (mkF m (pc + 3) Ls (v.toList ++ rest)))) :
    own_Fin p e below s Q kc kn (T.setTop (mkF m pc Ls st)) := by
  subst hst
  obtain ⟨cB, kB, q1, q2, q3⟩ := isOf (T := T) hZ eT E
  obtain ⟨v, _, ⟨T', L', k', n'⟩, -, X', ⟨Lc, hQ, l1, y1, z1⟩, st⟩ := X.virtualBack hx (y := y) (z := z) hown (mvT hZ w1) (mvT hZ w2) nf (mvT hZ w3) (mvT hZ w4) hy (backOf (W := W) hM hZ w5 w6 hf hl) q1 q3 (g := mkF m pc Ls (argsL.reverse ++ .ref a :: rest)) rfl hsize (Steps.refl _) hlen rfl (by show 2 * 0 + _ ≤ _; omega) hd (fun _ _ => ⟨has, eT, hc, hs⟩)
  dsimp only [Pt.U, Pt.locs, Pt.cells, Pt.slots] at X' l1 y1 z1 st hQ
  subst l1 y1 z1
  exact own_go (fun _ k => st.trans k) (H _ _ _ X' hQ)
theorem own_callN (X : Stand p l e R s m args below meth c T locs cells slots) (hx : p.tables.exec = Jvm.exec) (hZ : Z.Warmed39 s.vm) {own : String} {index : Nat} {y : MethodName} {bytes : ByteArray} {maxL : Nat} {rm : Room} {as' : Array Value} {Q' : Option Value → Heap → List Loc → Prop} (hy1 : y.name = "<init>")
    (hown : s.vm.findClass own = some m.cls) (w1 : (Jvm.Cond.methodLink own index y).before a0 Z = true) (w2 : (Jvm.Cond.instanceMethod y).before a0 Z = true) (w3 : (Jvm.Cond.initialized y.cls).before a0 Z = true) (w4 : (Jvm.Cond.code y bytes maxL none).before a0 Z = true) (hy : y.cls ≠ "java/lang/invoke/MethodHandle" ∧ y.cls ≠ "java/lang/invoke/VarHandle")
    (hM : own_Met l y bytes maxL none rm Z [] as' h Q') (eT : T.heap = h) {a : Addr} {pc : Nat} {Ls : Array Slot} {st argsL rest : List Value} (hst : st = argsL.reverse ++ .ref a :: rest) (has : (.ref a :: argsL).toArray = as') (hsize : Ls.size = c.maxLocals) (hlen : ∀ sig, parseMethodDescriptor y.desc = some sig → argsL.length = sig.parameters.length)
    (hd : decode c.code pc = .ok (.invokespecial index, 3)) {W : Nat} (hW : (rest.map fun v => v.category).sum ≤ W) (hf : rm.frames + 1 ≤ R.frames) (hl : W + (maxL + 11) + rm.locals ≤ R.locals) (hc : cells + rm.cells ≤ R.cells) (hs : slots + rm.slots ≤ R.slots)
    (H : ∀ (v : Option Value) (T' : State) (L : List Loc), Stand p l e R s m args below meth c T' (locs ++ L) (cells + rm.cells) (slots + rm.slots) → Q' v T'.heap L → own_Fin p e below s Q kc kn (T'.setTop (mkF m (pc + 3) Ls (v.toList ++ rest)))) :
    own_Fin p e below s Q kc kn (T.setTop (mkF m pc Ls st)) := by
  subst hst
  obtain ⟨v, _, ⟨T', L', k', n'⟩, -, X', ⟨Lc, hQ, l1, y1, z1⟩, st⟩ := X.specialBack hx (y := y) hy1 hown (mvT hZ w1) (mvT hZ w2) (mvT hZ w4) hy (backOf (W := W) hM hZ w4 w3 hf hl) (g := mkF m pc Ls (argsL.reverse ++ .ref a :: rest)) rfl hsize (Steps.refl _) (a := a) hlen rfl (by show 2 * 0 + _ ≤ _; omega) hd (fun _ _ => ⟨has, eT, hc, hs⟩)
  dsimp only [Pt.U, Pt.locs, Pt.cells, Pt.slots] at X' l1 y1 z1 st hQ
  subst l1 y1 z1
  exact own_go (fun _ k => st.trans k) (H _ _ _ X' hQ)
theorem own_initO (X : Stand p l e R s m args below meth c T locs cells slots) (hx : p.tables.exec = Jvm.exec) (hZ : Z.Warmed39 s.vm) {own : String} {idx : Nat} (hown : s.vm.findClass own = some m.cls) (w1 : (Jvm.Cond.methodLink own idx Lib.objectInit).before a0 Z = true) (w2 : (Jvm.Cond.instanceMethod Lib.objectInit).before a0 Z = true)
    (w3 : (Jvm.Cond.code Lib.objectInit ⟨#[0xb1]⟩ 1 none).before a0 Z = true) (eT : T.heap = h) {pc : Nat} {Ls : Array Slot} (hsize : Ls.size = c.maxLocals) {a : Addr} {rest : List Value} (hd : decode c.code pc = .ok (.invokespecial idx, 3))
    (hf : 1 ≤ R.frames) {W : Nat} (hW : (rest.map fun v => v.category).sum ≤ W) (hl : W + 12 ≤ R.locals)
    (H : ∀ (T' : State), Stand p l e R s m args below meth c T' locs cells slots → T'.heap = h → own_Fin p e below s Q kc kn (T'.setTop (mkF m (pc + 3) Ls rest))) :
    own_Fin p e below s Q kc kn (T.setTop (mkF m pc Ls (.ref a :: rest))) := by
  obtain ⟨T', X', e', st⟩ := initO X hx hZ hown w1 w2 w3 eT (g := mkF m pc Ls (.ref a :: rest)) rfl hsize rfl hd hf (W := W) (by show 2 * 0 + _ ≤ _; omega) hl
  exact own_go st (H _ X' e')
theorem own_getF (X : Stand p l e R s m args below meth c T locs cells slots) (hx : p.tables.exec = Jvm.exec) (hZ : Z.Warmed39 s.vm) {own R0 O n d host : String} {index : Nat} (hown : s.vm.findClass own = some m.cls) (w : (Jvm.Cond.fieldLink own index R0 n d).before a0 Z = true ∨ (Jvm.Cond.fieldLinkNest own index R0 n d host).before a0 Z = true) (via : Via Z R0 O n d)
    (eT : T.heap = h) {a : Addr} {v : Value} (F : Fld Z h a O n d v) {pc : Nat} {Ls : Array Slot} {rest : List Value} (hd : decode c.code pc = .ok (.getfield index, 3))
    (H : ∀ (T' : State), Stand p l e R s m args below meth c T' locs cells slots → T'.heap = h → own_Fin p e below s Q kc kn (T'.setTop (mkF m (pc + 3) Ls (v :: rest)))) :
    own_Fin p e below s Q kc kn (T.setTop (mkF m pc Ls (.ref a :: rest))) := by
  obtain ⟨T', X', e', st⟩ := getF X hx hZ hown w via eT F (g := mkF m pc Ls (.ref a :: rest)) rfl rfl hd
  exact own_go st (H _ X' e')
theorem own_getS (X : Stand p l e R s m args below meth c T locs cells slots) (hx : p.tables.exec = Jvm.exec) (hZ : Z.Warmed39 s.vm) {own R0 O n d host : String} {index : Nat} (hown : s.vm.findClass own = some m.cls) (w : (Jvm.Cond.fieldLink own index R0 n d).before a0 Z = true ∨ (Jvm.Cond.fieldLinkNest own index R0 n d host).before a0 Z = true) (via : Via Z R0 O n d)
    (eT : T.heap = h) {v : Value} (F : Sta Z h O n d v) {pc : Nat} {Ls : Array Slot} {rest : List Value} (hd : decode c.code pc = .ok (.getstatic index, 3))
    (H : ∀ (T' : State), Stand p l e R s m args below meth c T' locs cells slots → T'.heap = h → own_Fin p e below s Q kc kn (T'.setTop (mkF m (pc + 3) Ls (v :: rest)))) :
    own_Fin p e below s Q kc kn (T.setTop (mkF m pc Ls rest)) := by
  obtain ⟨T', X', e', st⟩ := getS2 X hx hZ hown w via eT F (g := mkF m pc Ls rest) rfl hd
  exact own_go st (H _ X' e')
theorem own_putF (X : Stand p l e R s m args below meth c T locs cells slots) (hx : p.tables.exec = Jvm.exec) (hZ : Z.Warmed39 s.vm) {own R0 O n d host C : String} {index kk : Nat} {ty : FieldType} (hown : s.vm.findClass own = some m.cls) (w : (Jvm.Cond.fieldLink own index R0 n d).before a0 Z = true ∨ (Jvm.Cond.fieldLinkNest own index R0 n d host).before a0 Z = true) (via : Via Z R0 O n d)
    (eT : T.heap = h) {a : Addr} {v old : Value} (F : Fld Z h a O n d old) (E : Exa Z h a C) (L : (Jvm.Cond.lays C O n d).before a0 Z = true ∨ ((Jvm.Cond.laysFinal C O n d).before a0 Z = true ∧ own = O ∧ meth.name = "<init>")) (wi : (Jvm.Cond.instantiable C kk).before a0 Z = true)
    (hty : parseFieldDescriptor d = some ty) (hn : narrow ty v = v) (hf : fits ty v = true) {pc : Nat} {Ls : Array Slot} {rest : List Value} (hd : decode c.code pc = .ok (.putfield index, 3))
    (H : ∀ (T' : State) (h' : Heap), Stand p l e R s m args below meth c T' (locs ++ [⟨a, Jvm.RoadKit.slotOf Z O n d⟩]) cells slots → T'.heap = h' → Wr h h' a (Jvm.RoadKit.slotOf Z O n d) v → own_Fin p e below s Q kc kn (T'.setTop (mkF m (pc + 3) Ls rest))) :
    own_Fin p e below s Q kc kn (T.setTop (mkF m pc Ls (v :: .ref a :: rest))) := by
  obtain ⟨T', h', X', e', W', st⟩ := putF X hx hZ hown w via eT F E L wi hty hn hf (g := mkF m pc Ls (v :: .ref a :: rest)) rfl rfl hd
  exact own_go st (H _ _ X' e' W')
theorem own_new (X : Stand p l e R s m args below meth c T locs cells slots) (hx : p.tables.exec = Jvm.exec) (hZ : Z.Warmed39 s.vm) {own C : String} {index n : Nat} (hown : s.vm.findClass own = some m.cls) (w : (Jvm.Cond.classLink own index C).before a0 Z = true) (wi : (Jvm.Cond.instantiable C n).before a0 Z = true) (wz : (Jvm.Cond.initialized C).before a0 Z = true) (eT : T.heap = h)
    {pc : Nat} {Ls : Array Slot} {rest : List Value} (hd : decode c.code pc = .ok (.new index, 3)) (hc : cells + 1 ≤ R.cells) (hl : slots + n ≤ R.slots)
    (H : ∀ (T' : State) (h' : Heap) (a : Addr), a = h.size → Stand p l e R s m args below meth c T' locs (cells + 1) (slots + n) → T'.heap = h' → Ext h h' → Exa Z h' a C → (∀ {O nm d : String} {ty : FieldType}, Laid Z a0 C O nm d → parseFieldDescriptor d = some ty → Fld Z h' a O nm d (defaultValue ty)) → own_Fin p e below s Q kc kn (T'.setTop (mkF m (pc + 3) Ls (.ref a :: rest)))) :
    own_Fin p e below s Q kc kn (T.setTop (mkF m pc Ls rest)) := by
  obtain ⟨T', h', X', e', E', A', D', -, st⟩ := newO X hx hZ hown w wi wz eT (g := mkF m pc Ls rest) rfl hd hc hl
  exact own_go st (H _ _ _ rfl X' e' E' A' D')
theorem own_callU (X : Stand p l e R s m args below meth c T locs cells slots) (hx : p.tables.exec = Jvm.exec) (hZ : Z.Warmed39 s.vm) {own C owner : String} {index : Nat} {y z : MethodName} {bytes : ByteArray} {maxL : Nat} {ret : Option FieldType} {rm : Room} {as' : Array Value} {Q' : Option Value → Heap → List Loc → Prop}
    (hown : s.vm.findClass own = some m.cls) (w1 : (Jvm.Cond.methodLink own index y).before a0 Z = true) (w2 : (Jvm.Cond.sameMethod y.cls owner y.name y.desc).before a0 Z = true) (w2' : (Jvm.Cond.declares ⟨owner, y.name, y.desc⟩).before a0 Z = true) (hy : owner ≠ "java/lang/invoke/MethodHandle" ∧ owner ≠ "java/lang/invoke/VarHandle") (w3 : (Jvm.Cond.selects C y z).before a0 Z = true) (w4 : (Jvm.Cond.instanceMethod z).before a0 Z = true) (w5 : (Jvm.Cond.code z bytes maxL ret).before a0 Z = true) (w6 : (Jvm.Cond.initialized z.cls).before a0 Z = true)
    (hM : own_Met l z bytes maxL ret rm Z [] as' h Q') (eT : T.heap = h) {a : Addr} (E : Exa Z h a C) {pc : Nat} {Ls : Array Slot} {st argsL rest : List Value} (hst : st = argsL.reverse ++ .ref a :: rest) (has : (.ref a :: argsL).toArray = as') (hsize : Ls.size = c.maxLocals) (hlen : ∀ sig, parseMethodDescriptor y.desc = some sig → argsL.length = sig.parameters.length)
    (hd : decode c.code pc = .ok (.invokevirtual index, 3)) {W : Nat} (hW : (rest.map fun v => v.category).sum ≤ W) (hf : rm.frames + 1 ≤ R.frames) (hl : W + (maxL + 11) + rm.locals ≤ R.locals) (hc : cells + rm.cells ≤ R.cells) (hs : slots + rm.slots ≤ R.slots)
    (H : ∀ (v : Option Value) (T' : State) (L : List Loc), Stand p l e R s m args below meth c T' (locs ++ L) (cells + rm.cells) (slots + rm.slots) → Q' v T'.heap L → own_Fin p e below s Q kc kn (T'.setTop (mkF m (pc + 3) Ls (v.toList ++ rest)))) :
    own_Fin p e below s Q kc kn (T.setTop (mkF m pc Ls st)) := by
  subst hst
  obtain ⟨cB, kB, q1, q2, q3⟩ := isOf (T := T) hZ eT E
  obtain ⟨v, _, ⟨T', L', k', n'⟩, -, X', ⟨Lc, hQ, l1, y1, z1⟩, st⟩ := X.virtualBackUp hx (x := y) (y := z) hown (mvT hZ w1) (mvT hZ w2) (mvT hZ w2') hy (mvT hZ w3) (mvT hZ w4) (backOf (W := W) hM hZ w5 w6 hf hl) q1 q3 (g := mkF m pc Ls (argsL.reverse ++ .ref a :: rest)) rfl hsize (Steps.refl _) hlen rfl (by show 2 * 0 + _ ≤ _; omega) hd (fun _ _ => ⟨has, eT, hc, hs⟩)
  dsimp only [Pt.U, Pt.locs, Pt.cells, Pt.slots] at X' l1 y1 z1 st hQ
  subst l1 y1 z1
  exact own_go (fun _ k => st.trans k) (H _ _ _ X' hQ)
theorem own_lswHit (X : Stand p l e R s m args below meth c T locs cells slots) (hx : p.tables.exec = Jvm.exec) {pc pc' : Nat} {Ls : Array Slot} {k : Int32} {rest : List Value} {default : Int} {pairs : Array (Int × Int)} {len : Nat} (hd : decode c.code pc = .ok (.lookupswitch default pairs, len))
    (hsorted : (pairs.toList.zip (pairs.toList.drop 1)).all (fun (a, next) => a.1 < next.1) = true) {a off : Int} (hfind : pairs.find? (·.1 == k.toInt) = some (a, off)) (hoff : 0 ≤ (pc : Int) + off) (hp : ((pc : Int) + off).toNat = pc')
    (H : own_Fin p e below s Q kc kn (T.setTop (mkF m pc' Ls rest))) : own_Fin p e below s Q kc kn (T.setTop (mkF m pc Ls (.int k :: rest))) := by
  subst hp
  exact own_go (fun t q => X.lookupswitchHit hx (g := mkF m pc Ls (.int k :: rest)) rfl rfl hd hsorted hfind hoff t q) H
theorem own_lswMiss (X : Stand p l e R s m args below meth c T locs cells slots) (hx : p.tables.exec = Jvm.exec) {pc pc' : Nat} {Ls : Array Slot} {k : Int32} {rest : List Value} {default : Int} {pairs : Array (Int × Int)} {len : Nat} (hd : decode c.code pc = .ok (.lookupswitch default pairs, len))
    (hsorted : (pairs.toList.zip (pairs.toList.drop 1)).all (fun (a, next) => a.1 < next.1) = true) (hfind : ∀ q ∈ pairs.toList, q.1 ≠ k.toInt) (hoff : 0 ≤ (pc : Int) + default) (hp : ((pc : Int) + default).toNat = pc')
    (H : own_Fin p e below s Q kc kn (T.setTop (mkF m pc' Ls rest))) : own_Fin p e below s Q kc kn (T.setTop (mkF m pc Ls (.int k :: rest))) := by
  subst hp
  exact own_go (fun t q => X.lookupswitchMiss hx (g := mkF m pc Ls (.int k :: rest)) rfl rfl hd hsorted (find_miss hfind) hoff t q) H
theorem own_castY (X : Stand p l e R s m args below meth c T locs cells slots) (hx : p.tables.exec = Jvm.exec) (hZ : Z.Warmed39 s.vm) {own K : String} {index : Nat} (hown : s.vm.findClass own = some m.cls) (w : (Jvm.Cond.classLink own index K).before a0 Z = true) (eT : T.heap = h) {a : Addr} (F : Ins Z h a K true)
    {pc : Nat} {Ls : Array Slot} {rest : List Value} (hd : decode c.code pc = .ok (.checkcast index, 3))
    (H : ∀ (T' : State), Stand p l e R s m args below meth c T' locs cells slots → T'.heap = h → own_Fin p e below s Q kc kn (T'.setTop (mkF m (pc + 3) Ls (.ref a :: rest)))) :
    own_Fin p e below s Q kc kn (T.setTop (mkF m pc Ls (.ref a :: rest))) := by
  obtain ⟨T', X', e', st⟩ := castY X hx hZ hown w eT F (g := mkF m pc Ls (.ref a :: rest)) rfl rfl hd
  exact own_go st (H _ X' e')
theorem own_Sta_keep0 {C n d : String} {v : Value} {h h' : Heap} (F : Sta Z h C n d v) (K : Keep h h' []) : Sta Z h' C n d v := by
  obtain ⟨cf, i, k, f, st, cell, h1, h2, h3, h4, h5, r⟩ := F
  exact ⟨cf, i, k, f, st, cell, h1, h2, h3, h4, K.2.1 _ _ h5 nin0, r⟩
theorem own_Arr_keep0 {a : Addr} {cl : Cell} {ty : FieldType} {h h' : Heap} (F : Arr Z h a cl ty) (K : Keep h h' []) : Arr Z h' a cl ty := ⟨K.2.1 _ _ F.1 nin0, F.2⟩
theorem own_neI {k z : Int32} {n : Int} (hz : z.toInt = n) (q : ¬ k = z) : n ≠ k.toInt := fun e => q (Int32.toInt_inj.mp (by rw [hz]; exact e.symm))
theorem own_fldI {args : Array Value} {t : Term} {O nm dd : String} {v : Int32} {a : Addr} (q : (Jvm.Cond.eq (.field t O nm dd) (.int v)).value args Z none Z [] = some true) (ev : t.eval args Z none [] Z = some (.ref a)) : Fld Z Z.heap a O nm dd (.int v) := by
  refine Fld.start ?_
  have e1 := fld_at (C := O) (n := nm) (dd := dd) ev
  simp only [Cond.value, e1] at q
  cases hf : Z.fieldOf? a O nm dd with
  | none => simp [hf] at q
  | some x => cases x <;> simp [hf, Term.eval] at q ⊢; exact q
theorem own_fldR {args : Array Value} {t u : Term} {O nm dd : String} {a b : Addr} (q : (Jvm.Cond.eq (.field t O nm dd) u).value args Z none Z [] = some true) (ev : t.eval args Z none [] Z = some (.ref a)) (eu : u.eval args Z none [] Z = some (.ref b)) : Fld Z Z.heap a O nm dd (.ref b) := by
  refine Fld.start ?_
  have e1 := fld_at (C := O) (n := nm) (dd := dd) ev
  simp only [Cond.value, e1, eu] at q
  cases hf : Z.fieldOf? a O nm dd with
  | none => simp [hf] at q
  | some x => cases x <;> simp [hf] at q ⊢; exact q
end Own

section OwnArr
variable {p : Program} {l : Launch} {e : Env} {R : Room} {s : State} {m : MethodId} {args : Array Value} {below : List Frame} {meth : Method} {c : Code} {T : State} {locs : List Loc} {cells slots : Nat} {Z : State} {a0 : Array Value} {h h' : Heap} {Q : Option Value → Heap → List Loc → Prop} {kc kn : Nat} {a b : Addr} {ty : FieldType} {vs : List Value} {v w : Value} {ws : List Addr} {sl : Nat}
/-- the array at a holds just vs -/
def own_Ar (Z : State) (h : Heap) (a : Addr) (ty : FieldType) (vs : List Value) : Prop := ∃ c : Cell, Arr Z h a c ty ∧ c.slots = vs.toArray ∧ vs.length < 2 ^ 31
theorem own_Ar.lt (F : own_Ar Z h a ty vs) : a < h.size := by obtain ⟨c, A, -⟩ := F; exact A.lt
theorem own_Ar.ext (F : own_Ar Z h a ty vs) (E : Ext h h') : own_Ar Z h' a ty vs := by obtain ⟨c, A, r⟩ := F; exact ⟨c, A.ext E, r⟩
theorem own_Ar.other (F : own_Ar Z h b ty vs) (W : Wr h h' a sl v) (q : b ≠ a) : own_Ar Z h' b ty vs := by obtain ⟨c, A, r⟩ := F; exact ⟨c, A.other W q, r⟩
theorem own_Ar.keep (F : own_Ar Z h a ty vs) (K : Keep h h' ws) (q : a ∉ ws) : own_Ar Z h' a ty vs := by obtain ⟨c, A, r⟩ := F; exact ⟨c, ⟨K.2.1 a c A.1 q, A.2⟩, r⟩
theorem own_Ar.set (F : own_Ar Z h a ty vs) (W : Wr h h' a sl v) : own_Ar Z h' a ty (vs.set sl v) := by
  obtain ⟨c, A, q1, q2⟩ := F
  refine ⟨_, A.same W, ?_, by rw [List.length_set]; exact q2⟩
  show c.slots.setIfInBounds sl v = _
  rw [q1]; simp
theorem own_Ar.len (F : own_Ar Z h a ty vs) : vs.length < 2 ^ 31 := by obtain ⟨_, _, _, q⟩ := F; exact q
theorem own_in {c : Cell} (q : c.slots = vs.toArray) {j : Int32} (hj : ¬ j < 0) (hi : j.toNatClampNeg < vs.length) : ¬ (j < 0 ∨ c.slots.size ≤ j.toNatClampNeg) := by
  rw [q]; simp only [List.size_toArray]; exact fun w => w.elim hj fun w => absurd hi (Nat.not_lt.mpr w)
theorem own_lt {vs : List Value} {i : Nat} (hv : vs[i]? = some v) : i < vs.length := (List.getElem?_eq_some_iff.mp hv).1
theorem own_iaload (X : Stand p l e R s m args below meth c T locs cells slots) (hx : p.tables.exec = Jvm.exec) (hZ : Z.Warmed39 s.vm) (eT : T.heap = h) (F : own_Ar Z h a .int vs) {j : Int32} (hj : ¬ j < 0) (hv : vs[j.toNatClampNeg]? = some v) {pc : Nat} {Ls : Array Slot} {rest : List Value} (hd : decode c.code pc = .ok (.iaload, 1))
    (H : own_Fin p e below s Q kc kn (T.setTop (mkF m (pc + 1) Ls (v :: rest)))) : own_Fin p e below s Q kc kn (T.setTop (mkF m pc Ls (.int j :: .ref a :: rest))) := by
  obtain ⟨c', A, q1, q2⟩ := F
  exact own_go (fun t k => X.iaload hx (j := j) (v := v) (by rw [eT]; exact A.1) (State.isArrayOf_alike hZ.alike A.2.1) A.2.2 (own_in q1 hj (own_lt hv)) (by rw [q1]; simpa using hv) (g := mkF m pc Ls (.int j :: .ref a :: rest)) rfl rfl hd t k) H
theorem own_laload (X : Stand p l e R s m args below meth c T locs cells slots) (hx : p.tables.exec = Jvm.exec) (hZ : Z.Warmed39 s.vm) (eT : T.heap = h) (F : own_Ar Z h a .long vs) {j : Int32} (hj : ¬ j < 0) (hv : vs[j.toNatClampNeg]? = some v) {pc : Nat} {Ls : Array Slot} {rest : List Value} (hd : decode c.code pc = .ok (.laload, 1))
    (H : own_Fin p e below s Q kc kn (T.setTop (mkF m (pc + 1) Ls (v :: rest)))) : own_Fin p e below s Q kc kn (T.setTop (mkF m pc Ls (.int j :: .ref a :: rest))) := by
  obtain ⟨c', A, q1, q2⟩ := F
  exact own_go (fun t k => X.laload hx (j := j) (v := v) (by rw [eT]; exact A.1) (State.isArrayOf_alike hZ.alike A.2.1) A.2.2 (own_in q1 hj (own_lt hv)) (by rw [q1]; simpa using hv) (g := mkF m pc Ls (.int j :: .ref a :: rest)) rfl rfl hd t k) H
theorem own_zaload (X : Stand p l e R s m args below meth c T locs cells slots) (hx : p.tables.exec = Jvm.exec) (hZ : Z.Warmed39 s.vm) (eT : T.heap = h) (F : own_Ar Z h a .boolean vs) {j : Int32} (hj : ¬ j < 0) (hv : vs[j.toNatClampNeg]? = some v) {pc : Nat} {Ls : Array Slot} {rest : List Value} (hd : decode c.code pc = .ok (.baload, 1))
    (H : own_Fin p e below s Q kc kn (T.setTop (mkF m (pc + 1) Ls (v :: rest)))) : own_Fin p e below s Q kc kn (T.setTop (mkF m pc Ls (.int j :: .ref a :: rest))) := by
  obtain ⟨c', A, q1, q2⟩ := F
  exact own_go (fun t k => X.baloadBooleans hx (j := j) (v := v) (by rw [eT]; exact A.1) (State.isArrayOf_alike hZ.alike A.2.1) A.2.2 (own_in q1 hj (own_lt hv)) (by rw [q1]; simpa using hv) (g := mkF m pc Ls (.int j :: .ref a :: rest)) rfl rfl hd t k) H
theorem own_aaload (X : Stand p l e R s m args below meth c T locs cells slots) (hx : p.tables.exec = Jvm.exec) (hZ : Z.Warmed39 s.vm) (eT : T.heap = h) (F : own_Ar Z h a ty vs) (hty : ty.isReference = true) {j : Int32} (hj : ¬ j < 0) (hv : vs[j.toNatClampNeg]? = some v) {pc : Nat} {Ls : Array Slot} {rest : List Value} (hd : decode c.code pc = .ok (.aaload, 1))
    (H : own_Fin p e below s Q kc kn (T.setTop (mkF m (pc + 1) Ls (v :: rest)))) : own_Fin p e below s Q kc kn (T.setTop (mkF m pc Ls (.int j :: .ref a :: rest))) := by
  obtain ⟨c', A, q1, q2⟩ := F
  exact own_go (fun t k => X.aaload hx (j := j) (v := v) (by rw [eT]; exact A.1) (State.isArrayOf_alike hZ.alike A.2.1) hty A.2.2 (own_in q1 hj (own_lt hv)) (by rw [q1]; simpa using hv) (g := mkF m pc Ls (.int j :: .ref a :: rest)) rfl rfl hd t k) H
theorem own_alen (X : Stand p l e R s m args below meth c T locs cells slots) (hx : p.tables.exec = Jvm.exec) (hZ : Z.Warmed39 s.vm) (eT : T.heap = h) (F : own_Ar Z h a ty vs) {pc : Nat} {Ls : Array Slot} {rest : List Value} (hd : decode c.code pc = .ok (.arraylength, 1))
    (H : own_Fin p e below s Q kc kn (T.setTop (mkF m (pc + 1) Ls (.int (Int32.ofNat vs.length) :: rest)))) : own_Fin p e below s Q kc kn (T.setTop (mkF m pc Ls (.ref a :: rest))) := by
  obtain ⟨c', A, q1, q2⟩ := F
  refine own_go (fun t k => X.arraylength hx (by rw [eT]; exact A.1) (State.isArrayOf_alike hZ.alike A.2.1) (g := mkF m pc Ls (.ref a :: rest)) rfl rfl hd t k) ?_
  rw [q1]; simp only [List.size_toArray]; exact H
theorem own_iastore (X : Stand p l e R s m args below meth c T locs cells slots) (hx : p.tables.exec = Jvm.exec) (hZ : Z.Warmed39 s.vm) (eT : T.heap = h) (F : own_Ar Z h a .int vs) {j x : Int32} (hj : ¬ j < 0) (hi : j.toNatClampNeg < vs.length) {pc : Nat} {Ls : Array Slot} {rest : List Value} (hd : decode c.code pc = .ok (.iastore, 1))
    (H : ∀ (T' : State) (h' : Heap), Stand p l e R s m args below meth c T' (locs ++ [⟨a, j.toNatClampNeg⟩]) cells slots → T'.heap = h' → Wr h h' a j.toNatClampNeg (.int x) → own_Ar Z h' a .int (vs.set j.toNatClampNeg (.int x)) → own_Fin p e below s Q kc kn (T'.setTop (mkF m (pc + 1) Ls rest))) :
    own_Fin p e below s Q kc kn (T.setTop (mkF m pc Ls (.int x :: .int j :: .ref a :: rest))) := by
  have F' := F
  obtain ⟨c', A, q1, q2⟩ := F
  obtain ⟨T', h', X', e', W', st⟩ := stI X hx hZ eT A (j := j) (x := x) (own_in q1 hj hi) (g := mkF m pc Ls (.int x :: .int j :: .ref a :: rest)) rfl rfl hd
  exact own_go st (H _ _ X' e' W' (F'.set W'))
theorem own_lastore (X : Stand p l e R s m args below meth c T locs cells slots) (hx : p.tables.exec = Jvm.exec) (hZ : Z.Warmed39 s.vm) (eT : T.heap = h) (F : own_Ar Z h a .long vs) {j : Int32} {x : Int64} (hj : ¬ j < 0) (hi : j.toNatClampNeg < vs.length) {pc : Nat} {Ls : Array Slot} {rest : List Value} (hd : decode c.code pc = .ok (.lastore, 1))
    (H : ∀ (T' : State) (h' : Heap), Stand p l e R s m args below meth c T' (locs ++ [⟨a, j.toNatClampNeg⟩]) cells slots → T'.heap = h' → Wr h h' a j.toNatClampNeg (.long x) → own_Ar Z h' a .long (vs.set j.toNatClampNeg (.long x)) → own_Fin p e below s Q kc kn (T'.setTop (mkF m (pc + 1) Ls rest))) :
    own_Fin p e below s Q kc kn (T.setTop (mkF m pc Ls (.long x :: .int j :: .ref a :: rest))) := by
  have F' := F
  obtain ⟨c', A, q1, q2⟩ := F
  obtain ⟨T', h', X', e', W', st⟩ := stJ X hx hZ eT A (j := j) (x := x) (own_in q1 hj hi) (g := mkF m pc Ls (.long x :: .int j :: .ref a :: rest)) rfl rfl hd
  exact own_go st (H _ _ X' e' W' (F'.set W'))
theorem own_zastore (X : Stand p l e R s m args below meth c T locs cells slots) (hx : p.tables.exec = Jvm.exec) (hZ : Z.Warmed39 s.vm) (eT : T.heap = h) (F : own_Ar Z h a .boolean vs) {j x : Int32} (hj : ¬ j < 0) (hi : j.toNatClampNeg < vs.length) {pc : Nat} {Ls : Array Slot} {rest : List Value} (hd : decode c.code pc = .ok (.bastore, 1)) (hn : nar .boolean x = x)
    (H : ∀ (T' : State) (h' : Heap), Stand p l e R s m args below meth c T' (locs ++ [⟨a, j.toNatClampNeg⟩]) cells slots → T'.heap = h' → Wr h h' a j.toNatClampNeg (.int x) → own_Ar Z h' a .boolean (vs.set j.toNatClampNeg (.int x)) → own_Fin p e below s Q kc kn (T'.setTop (mkF m (pc + 1) Ls rest))) :
    own_Fin p e below s Q kc kn (T.setTop (mkF m pc Ls (.int x :: .int j :: .ref a :: rest))) := by
  have F' := F
  obtain ⟨c', A, q1, q2⟩ := F
  obtain ⟨T', h', X', e', W', st⟩ := stZ X hx hZ eT A (j := j) (x := x) (own_in q1 hj hi) (g := mkF m pc Ls (.int x :: .int j :: .ref a :: rest)) rfl rfl hd
  rw [hn] at W'
  exact own_go st (H _ _ X' e' W' (F'.set W'))
theorem own_newarr (X : Stand p l e R s m args below meth c T locs cells slots) (hx : p.tables.exec = Jvm.exec) (hZ : Z.Warmed39 s.vm) {aty : ArrayType} (w : (Jvm.Cond.arrayClass (newarray.typeOf aty)).before a0 Z = true) (eT : T.heap = h) {pc : Nat} {Ls : Array Slot} {rest : List Value} (hd : decode c.code pc = .ok (.newarray aty, 2)) {n : Int32}
    (hn : ¬ n < 0) {cap : Nat} (hcap : n.toNatClampNeg ≤ cap) (hb : cap * 8 ≤ 536870912) (hc : cells + 1 ≤ R.cells) (hl : slots + cap ≤ R.slots) {ad : String} (had : "[" ++ (newarray.typeOf aty).toString = ad)
    (H : ∀ (T' : State) (h' : Heap) (a : Addr), a = h.size → Stand p l e R s m args below meth c T' locs (cells + 1) (slots + cap) → T'.heap = h' → Ext h h' → own_Ar Z h' a (newarray.typeOf aty) (List.replicate n.toNatClampNeg (defaultValue (newarray.typeOf aty))) → Exa Z h' a ad → own_Fin p e below s Q kc kn (T'.setTop (mkF m (pc + 2) Ls (.ref a :: rest)))) :
    own_Fin p e below s Q kc kn (T.setTop (mkF m pc Ls (.int n :: rest))) := by
  obtain ⟨T', h', cA, X', e', E', A', D', st⟩ := newPE X hx hZ w eT (g := mkF m pc Ls (.int n :: rest)) rfl hd rfl hn hcap hb hc hl had
  exact own_go st (H _ _ _ rfl X' e' E' ⟨_, A', by simp [newA], by simp only [List.length_replicate]; omega⟩ D')
theorem own_ldI (X : Stand p l e R s m args below meth c T locs cells slots) (hx : p.tables.exec = Jvm.exec) (hZ : Z.Warmed39 s.vm) (eT : T.heap = h) {xs : List Int32} (F : own_Ar Z h a .int (xs.map Value.int)) {j : Int32} (hj : ¬ j < 0) (hi : j.toNatClampNeg < xs.length) {pc : Nat} {Ls : Array Slot} {rest : List Value} (hd : decode c.code pc = .ok (.iaload, 1))
    (H : own_Fin p e below s Q kc kn (T.setTop (mkF m (pc + 1) Ls (Value.int (xs.getD j.toNatClampNeg 0) :: rest)))) : own_Fin p e below s Q kc kn (T.setTop (mkF m pc Ls (.int j :: .ref a :: rest))) :=
  own_iaload X hx hZ eT F hj (by simp [List.getD_eq_getElem?_getD, hi]) hd H
theorem own_ldZ (X : Stand p l e R s m args below meth c T locs cells slots) (hx : p.tables.exec = Jvm.exec) (hZ : Z.Warmed39 s.vm) (eT : T.heap = h) {xs : List Int32} (F : own_Ar Z h a .boolean (xs.map Value.int)) {j : Int32} (hj : ¬ j < 0) (hi : j.toNatClampNeg < xs.length) {pc : Nat} {Ls : Array Slot} {rest : List Value} (hd : decode c.code pc = .ok (.baload, 1))
    (H : own_Fin p e below s Q kc kn (T.setTop (mkF m (pc + 1) Ls (Value.int (xs.getD j.toNatClampNeg 0) :: rest)))) : own_Fin p e below s Q kc kn (T.setTop (mkF m pc Ls (.int j :: .ref a :: rest))) :=
  own_zaload X hx hZ eT F hj (by simp [List.getD_eq_getElem?_getD, hi]) hd H
theorem own_ldJ (X : Stand p l e R s m args below meth c T locs cells slots) (hx : p.tables.exec = Jvm.exec) (hZ : Z.Warmed39 s.vm) (eT : T.heap = h) {xs : List Int64} (F : own_Ar Z h a .long (xs.map Value.long)) {j : Int32} (hj : ¬ j < 0) (hi : j.toNatClampNeg < xs.length) {pc : Nat} {Ls : Array Slot} {rest : List Value} (hd : decode c.code pc = .ok (.laload, 1))
    (H : own_Fin p e below s Q kc kn (T.setTop (mkF m (pc + 1) Ls (Value.long (xs.getD j.toNatClampNeg 0) :: rest)))) : own_Fin p e below s Q kc kn (T.setTop (mkF m pc Ls (.int j :: .ref a :: rest))) :=
  own_laload X hx hZ eT F hj (by simp [List.getD_eq_getElem?_getD, hi]) hd H
theorem own_stI (X : Stand p l e R s m args below meth c T locs cells slots) (hx : p.tables.exec = Jvm.exec) (hZ : Z.Warmed39 s.vm) (eT : T.heap = h) {xs : List Int32} (F : own_Ar Z h a .int (xs.map Value.int)) {j : Int32} {x : Int32} (hj : ¬ j < 0) (hi : j.toNatClampNeg < xs.length) {pc : Nat} {Ls : Array Slot} {rest : List Value} (hd : decode c.code pc = .ok (.iastore, 1))
    (H : ∀ (T' : State) (h' : Heap), Stand p l e R s m args below meth c T' (locs ++ [⟨a, j.toNatClampNeg⟩]) cells slots → T'.heap = h' → Wr h h' a j.toNatClampNeg (Value.int x) → own_Ar Z h' a .int ((xs.set j.toNatClampNeg x).map Value.int) → own_Fin p e below s Q kc kn (T'.setTop (mkF m (pc + 1) Ls rest))) :
    own_Fin p e below s Q kc kn (T.setTop (mkF m pc Ls (Value.int x :: .int j :: .ref a :: rest))) :=
  own_iastore X hx hZ eT F hj (by simpa using hi) hd fun T' h' X' e' W' F' => H T' h' X' e' W' (by rw [List.map_set]; exact F')
theorem own_stZ (X : Stand p l e R s m args below meth c T locs cells slots) (hx : p.tables.exec = Jvm.exec) (hZ : Z.Warmed39 s.vm) (eT : T.heap = h) {xs : List Int32} (F : own_Ar Z h a .boolean (xs.map Value.int)) {j : Int32} {x : Int32} (hj : ¬ j < 0) (hi : j.toNatClampNeg < xs.length) {pc : Nat} {Ls : Array Slot} {rest : List Value} (hd : decode c.code pc = .ok (.bastore, 1)) (hn : nar .boolean x = x)
    (H : ∀ (T' : State) (h' : Heap), Stand p l e R s m args below meth c T' (locs ++ [⟨a, j.toNatClampNeg⟩]) cells slots → T'.heap = h' → Wr h h' a j.toNatClampNeg (Value.int x) → own_Ar Z h' a .boolean ((xs.set j.toNatClampNeg x).map Value.int) → own_Fin p e below s Q kc kn (T'.setTop (mkF m (pc + 1) Ls rest))) :
    own_Fin p e below s Q kc kn (T.setTop (mkF m pc Ls (Value.int x :: .int j :: .ref a :: rest))) :=
  own_zastore X hx hZ eT F hj (by simpa using hi) hd hn fun T' h' X' e' W' F' => H T' h' X' e' W' (by rw [List.map_set]; exact F')
theorem own_stJ (X : Stand p l e R s m args below meth c T locs cells slots) (hx : p.tables.exec = Jvm.exec) (hZ : Z.Warmed39 s.vm) (eT : T.heap = h) {xs : List Int64} (F : own_Ar Z h a .long (xs.map Value.long)) {j : Int32} {x : Int64} (hj : ¬ j < 0) (hi : j.toNatClampNeg < xs.length) {pc : Nat} {Ls : Array Slot} {rest : List Value} (hd : decode c.code pc = .ok (.lastore, 1))
    (H : ∀ (T' : State) (h' : Heap), Stand p l e R s m args below meth c T' (locs ++ [⟨a, j.toNatClampNeg⟩]) cells slots → T'.heap = h' → Wr h h' a j.toNatClampNeg (Value.long x) → own_Ar Z h' a .long ((xs.set j.toNatClampNeg x).map Value.long) → own_Fin p e below s Q kc kn (T'.setTop (mkF m (pc + 1) Ls rest))) :
    own_Fin p e below s Q kc kn (T.setTop (mkF m pc Ls (Value.long x :: .int j :: .ref a :: rest))) :=
  own_lastore X hx hZ eT F hj (by simpa using hi) hd fun T' h' X' e' W' F' => H T' h' X' e' W' (by rw [List.map_set]; exact F')
theorem own_newI (X : Stand p l e R s m args below meth c T locs cells slots) (hx : p.tables.exec = Jvm.exec) (hZ : Z.Warmed39 s.vm) (w : (Jvm.Cond.arrayClass .int).before a0 Z = true) (eT : T.heap = h) {pc : Nat} {Ls : Array Slot} {rest : List Value} (hd : decode c.code pc = .ok (.newarray .int, 2)) {n : Int32}
    (hn : ¬ n < 0) {cap : Nat} (hcap : n.toNatClampNeg ≤ cap) (hb : cap * 8 ≤ 536870912) (hc : cells + 1 ≤ R.cells) (hl : slots + cap ≤ R.slots)
    (H : ∀ (T' : State) (h' : Heap) (a : Addr), a = h.size → Stand p l e R s m args below meth c T' locs (cells + 1) (slots + cap) → T'.heap = h' → Ext h h' → own_Ar Z h' a .int ((List.replicate n.toNatClampNeg (0 : Int32)).map Value.int) → Exa Z h' a "[I" → own_Fin p e below s Q kc kn (T'.setTop (mkF m (pc + 2) Ls (.ref a :: rest)))) :
    own_Fin p e below s Q kc kn (T.setTop (mkF m pc Ls (.int n :: rest))) :=
  own_newarr X hx hZ (aty := .int) w eT hd hn hcap hb hc hl rfl fun T' h' a g' X' e' E' F' D' => H T' h' a g' X' e' E' (by rw [List.map_replicate]; exact F') D'
theorem own_newZ (X : Stand p l e R s m args below meth c T locs cells slots) (hx : p.tables.exec = Jvm.exec) (hZ : Z.Warmed39 s.vm) (w : (Jvm.Cond.arrayClass .boolean).before a0 Z = true) (eT : T.heap = h) {pc : Nat} {Ls : Array Slot} {rest : List Value} (hd : decode c.code pc = .ok (.newarray .boolean, 2)) {n : Int32}
    (hn : ¬ n < 0) {cap : Nat} (hcap : n.toNatClampNeg ≤ cap) (hb : cap * 8 ≤ 536870912) (hc : cells + 1 ≤ R.cells) (hl : slots + cap ≤ R.slots)
    (H : ∀ (T' : State) (h' : Heap) (a : Addr), a = h.size → Stand p l e R s m args below meth c T' locs (cells + 1) (slots + cap) → T'.heap = h' → Ext h h' → own_Ar Z h' a .boolean ((List.replicate n.toNatClampNeg (0 : Int32)).map Value.int) → Exa Z h' a "[Z" → own_Fin p e below s Q kc kn (T'.setTop (mkF m (pc + 2) Ls (.ref a :: rest)))) :
    own_Fin p e below s Q kc kn (T.setTop (mkF m pc Ls (.int n :: rest))) :=
  own_newarr X hx hZ (aty := .boolean) w eT hd hn hcap hb hc hl rfl fun T' h' a g' X' e' E' F' D' => H T' h' a g' X' e' E' (by rw [List.map_replicate]; exact F') D'
theorem own_newJ (X : Stand p l e R s m args below meth c T locs cells slots) (hx : p.tables.exec = Jvm.exec) (hZ : Z.Warmed39 s.vm) (w : (Jvm.Cond.arrayClass .long).before a0 Z = true) (eT : T.heap = h) {pc : Nat} {Ls : Array Slot} {rest : List Value} (hd : decode c.code pc = .ok (.newarray .long, 2)) {n : Int32}
    (hn : ¬ n < 0) {cap : Nat} (hcap : n.toNatClampNeg ≤ cap) (hb : cap * 8 ≤ 536870912) (hc : cells + 1 ≤ R.cells) (hl : slots + cap ≤ R.slots)
    (H : ∀ (T' : State) (h' : Heap) (a : Addr), a = h.size → Stand p l e R s m args below meth c T' locs (cells + 1) (slots + cap) → T'.heap = h' → Ext h h' → own_Ar Z h' a .long ((List.replicate n.toNatClampNeg (0 : Int64)).map Value.long) → Exa Z h' a "[J" → own_Fin p e below s Q kc kn (T'.setTop (mkF m (pc + 2) Ls (.ref a :: rest)))) :
    own_Fin p e below s Q kc kn (T.setTop (mkF m pc Ls (.int n :: rest))) :=
  own_newarr X hx hZ (aty := .long) w eT hd hn hcap hb hc hl rfl fun T' h' a g' X' e' E' F' D' => H T' h' a g' X' e' E' (by rw [List.map_replicate]; exact F') D'
end OwnArr
section OwnArr2
variable {p : Program} {l : Launch} {e : Env} {R : Room} {s : State} {m : MethodId} {args : Array Value} {below : List Frame} {meth : Method} {c : Code} {T : State} {locs : List Loc} {cells slots : Nat} {Z : State} {a0 : Array Value} {h h' : Heap} {Q : Option Value → Heap → List Loc → Prop} {kc kn : Nat} {a b : Addr} {ty : FieldType} {vs : List Value} {v w : Value} {ws : List Addr} {sl : Nat}
theorem own_cloneI (X : Stand p l e R s m args below meth c T locs cells slots) (hx : p.tables.exec = Jvm.exec) (hZ : Z.Warmed39 s.vm) {own : String} {index : Nat} (hown : s.vm.findClass own = some m.cls)
    (w1 : (Jvm.Cond.methodLink own index ⟨"[I", "clone", "()Ljava/lang/Object;"⟩).before a0 Z = true) (w2 : (Jvm.Cond.sameMethod "[I" "java/lang/Object" "clone" "()Ljava/lang/Object;").before a0 Z = true) (w3 : (Jvm.Cond.native ⟨"java/lang/Object", "clone", "()Ljava/lang/Object;"⟩).before a0 Z = true)
    (w4 : (Jvm.Cond.instanceMethod ⟨"java/lang/Object", "clone", "()Ljava/lang/Object;"⟩).before a0 Z = true) (w5 : (Jvm.Cond.selects "[I" ⟨"[I", "clone", "()Ljava/lang/Object;"⟩ ⟨"java/lang/Object", "clone", "()Ljava/lang/Object;"⟩).before a0 Z = true) (w6 : (Jvm.Cond.castable "[I" "java/lang/Cloneable").before a0 Z = true)
    (eT : T.heap = h) {xs : List Int32} (F : own_Ar Z h a .int (xs.map Value.int)) (E : Exa Z h a "[I") {pc : Nat} {Ls : Array Slot} (hsize : Ls.size = c.maxLocals) {rest : List Value} (hd : decode c.code pc = .ok (.invokevirtual index, 3))
    (hf : 1 ≤ R.frames) {W cap : Nat} (hW : (rest.map fun v => v.category).sum ≤ W) (hl : W + 14 ≤ R.locals) (hcap : xs.length ≤ cap) (hc : cells + 1 ≤ R.cells) (hsl : slots + cap ≤ R.slots)
    (H : ∀ (T' : State) (h' : Heap) (b : Addr), b = h.size → Stand p l e R s m args below meth c T' locs (cells + 1) (slots + cap) → T'.heap = h' → Ext h h' → own_Ar Z h' b .int (xs.map Value.int) → Exa Z h' b "[I" → own_Fin p e below s Q kc kn (T'.setTop (mkF m (pc + 3) Ls (.ref b :: rest)))) :
    own_Fin p e below s Q kc kn (T.setTop (mkF m pc Ls (.ref a :: rest))) := by
  obtain ⟨cl, A, q1, q2⟩ := F
  have FC : FitC Z cl := fitC_of A fun i hi v hv => by
    rw [q1] at hv
    simp only [List.getElem?_toArray, List.getElem?_map, Option.map_eq_some_iff] at hv
    obtain ⟨x, -, rfl⟩ := hv; rfl
  obtain ⟨T', h', X', e', ex, A', E', st⟩ := cloneA X hx hZ hown w1 w2 w3 w4 w5 w6 eT A E FC (g := mkF m pc Ls (.ref a :: rest)) rfl hsize rfl hd hf (W := W) (by show 2 * 0 + _ ≤ _; omega) hl (cap := cap) (by rw [q1]; simpa using hcap) hc hsl
  exact own_go st (H _ _ _ rfl X' e' ex ⟨_, A', q1, q2⟩ E')
theorem own_Ar.arvI {xs : List Int32} (F : own_Ar Z h a .int (xs.map Value.int)) : ∃ k, Arv Z h a k .int (Int32.ofNat xs.length) (xs.map Value.int) (.int 0) := by
  obtain ⟨cl, A, q1, q2⟩ := F
  have q2' : xs.length < 2 ^ 31 := by simpa using q2
  have e1 : (Int32.ofNat xs.length).toNatClampNeg = xs.length := Int32.toNatClampNeg_ofNat_of_lt q2'
  refine ⟨cl.cls, cl, A, rfl, by rw [q1, e1]; simp, ?_, fun i hi => ?_, fun i hi => ?_⟩
  · rw [Int32.lt_iff_toInt_lt, Int32.toInt_ofNat_of_lt q2']; show ¬ (xs.length : Int) < 0; omega
  · rw [q1] at hi ⊢
    have hi' : i < xs.length := by simpa using hi
    simp [List.getD_eq_getElem?_getD, hi']
  · rw [q1] at hi
    have hi' : i < xs.length := by simpa using hi
    simp [List.getD_eq_getElem?_getD, hi', fits]
theorem own_of_arvI {xs : List Int32} {k : ClassId} {n : Int32} {d : Value} (F : Arv Z h a k .int n (xs.map Value.int) d) (hn : n.toNatClampNeg = xs.length) : own_Ar Z h a .int (xs.map Value.int) := by
  obtain ⟨cl, A, -, S, q3, H, -⟩ := F
  have hl : n.toNatClampNeg < 2 ^ 31 := (back32 q3).2
  refine ⟨cl, A, ?_, by simpa [← hn] using hl⟩
  apply Array.ext_getElem?
  intro i
  by_cases hi : i < cl.slots.size
  · rw [H i hi]
    have hi' : i < xs.length := by rw [← hn, ← S]; exact hi
    simp [List.getD_eq_getElem?_getD, hi']
  · rw [Array.getElem?_eq_none (by omega)]
    symm
    rw [List.getElem?_toArray, List.getElem?_eq_none]
    rw [List.length_map, ← hn, ← S]; omega
theorem own_copyI (X : Stand p l e R s m args below meth c T locs cells slots) (hx : p.tables.exec = Jvm.exec) (hZ : Z.Warmed39 s.vm) {own : String} {index : Nat} (hown : s.vm.findClass own = some m.cls)
    (w1 : (Jvm.Cond.methodLink own index Jvm.Stand.acN).before a0 Z = true) (w2 : (Jvm.Cond.native Jvm.Stand.acN).before a0 Z = true) (w3 : (Jvm.Cond.static Jvm.Stand.acN).before a0 Z = true) (w4 : (Jvm.Cond.initialized "java/lang/System").before a0 Z = true) (eT : T.heap = h)
    {xs ys : List Int32} (F : own_Ar Z h a .int (xs.map Value.int)) (G : own_Ar Z h b .int (ys.map Value.int)) {nn : Int32} {n0 : Nat} (h3 : ¬ nn < 0) (h4 : nn.toNatClampNeg ≤ xs.length) (h5 : nn.toNatClampNeg ≤ ys.length) (N : Fr n0 locs) (ge : n0 ≤ b)
    {pc : Nat} {Ls : Array Slot} (hsize : Ls.size = c.maxLocals) {rest : List Value} (hd : decode c.code pc = .ok (.invokestatic index, 3))
    (hf : 1 ≤ R.frames) {W : Nat} (hW : (rest.map fun v => v.category).sum ≤ W) (hlo : W + (nativeFrameWords "java/lang/System" "arraycopy" 5 + 11) ≤ R.locals)
    (H : ∀ (T' : State) (h' : Heap) (L : List Loc), Stand p l e R s m args below meth c T' L cells slots → T'.heap = h' → Fr n0 L → Keep h h' [b] → own_Ar Z h' b .int ((xs.take nn.toNatClampNeg ++ ys.drop nn.toNatClampNeg).map Value.int) → own_Fin p e below s Q kc kn (T'.setTop (mkF m (pc + 3) Ls rest))) :
    own_Fin p e below s Q kc kn (T.setTop (mkF m pc Ls (.int nn :: .int (0 : Int32) :: .ref b :: .int (0 : Int32) :: .ref a :: rest))) := by
  have lx : xs.length < 2 ^ 31 := by simpa using F.len
  have ly : ys.length < 2 ^ 31 := by simpa using G.len
  have ex : (Int32.ofNat xs.length).toNatClampNeg = xs.length := Int32.toNatClampNeg_ofNat_of_lt lx
  have ey : (Int32.ofNat ys.length).toNatClampNeg = ys.length := Int32.toNatClampNeg_ofNat_of_lt ly
  have e0 : (0 : Int32).toNatClampNeg = 0 := by decide
  obtain ⟨k1, A⟩ := F.arvI
  obtain ⟨k2, B⟩ := G.arvI
  obtain ⟨T', h', L, X', e', N', K', V', st⟩ := cpA X hx hZ hown w1 w2 w3 w4 eT A B (sp := 0) (dp := 0) (nn := nn) (us := (xs.take nn.toNatClampNeg).map Value.int) (Or.inl ⟨rfl, rfl⟩) (by decide) (by decide) h3 (by rw [e0, ex]; omega) (by rw [e0, ey]; omega) (by
      rw [e0]
      apply List.ext_getElem?
      intro i
      by_cases hi : i < nn.toNatClampNeg
      · have hi' : i < xs.length := by omega
        simp [List.getElem?_take, hi, List.getD_eq_getElem?_getD, hi']
      · simp [List.getElem?_take, hi]) (by rw [e0]; simpa using h5) N ge (g := mkF m pc Ls (.int nn :: .int (0 : Int32) :: .ref b :: .int (0 : Int32) :: .ref a :: rest)) rfl hsize rfl hd hf (W := W) (by show 2 * 0 + _ ≤ _; omega) hlo
  refine own_go st (H _ _ _ X' e' N' K' ?_)
  refine own_of_arvI (n := Int32.ofNat ys.length) (k := k2) (d := .int 0) ?_ ?_
  · rw [e0] at V'
    simpa [List.map_append, List.map_take, List.map_drop] using V'
  · rw [ey]; simp; omega
end OwnArr2

theorem d1_0 : decode prog_45_method_1_code 0 = .ok (.aload_n 0, 1) := by decide +kernel
theorem d1_1 : decode prog_45_method_1_code 1 = .ok (.invokespecial 1, 3) := by decide +kernel
theorem d1_4 : decode prog_45_method_1_code 4 = .ok (.aload_n 0, 1) := by decide +kernel
theorem d1_5 : decode prog_45_method_1_code 5 = .ok (.aload_n 1, 1) := by decide +kernel
theorem d1_6 : decode prog_45_method_1_code 6 = .ok (.putfield 7, 3) := by decide +kernel
theorem d1_9 : decode prog_45_method_1_code 9 = .ok (.return_, 1) := by decide +kernel
theorem pn_1 : plainFor (⟨"com/example/conflux/conflux/compose/LowestKeyFirst", "<init>", "([I)V"⟩ : MethodName) = true := plainFor_of_name (by show plainName "com/example/conflux/conflux/compose/LowestKeyFirst" = true; first | (simp [plainName, overriddenIn]; done) | decide +kernel)
theorem ef_1 (m : MethodId) (x0 : Addr) (x1 : Addr) : entryFrame m #[(.ref x0), (.ref x1)] 2 = mkF m 0 #[.val (.ref x0), .val (.ref x1)] [] := by first | (simp [entryFrame, mkF, argsToLocals, Value.category]; done) | rfl
def own_QI (Z : State) (t0 t1 : Addr) (h0 : Heap) (n0 : Nat) (v : Option Value) (h : Heap) (L : List Loc) : Prop := v = none ∧ Fr n0 L ∧ Keep h0 h [t0] ∧ Fld Z h t0 "com/example/conflux/conflux/compose/LowestKeyFirst" "keys" "[I" (.ref t1)
set_option maxRecDepth 65536 in
set_option maxHeartbeats 40000000 in
theorem rm1 (l : Launch) (Z : State) (a0 : Array Value) (hw : ∀ d ∈ tables_1, d.before a0 Z = true) (t0 : Addr) (t1 : Addr) (h0 : Heap) (n0 : Nat) (Z0 : n0 ≤ h0.size) (A0 : Exa Z h0 t0 "com/example/conflux/conflux/compose/LowestKeyFirst") (F0 : Fld Z h0 t0 "com/example/conflux/conflux/compose/LowestKeyFirst" "keys" "[I" .null) (g_t0 : n0 ≤ t0) :
    own_Met l (⟨"com/example/conflux/conflux/compose/LowestKeyFirst", "<init>", "([I)V"⟩ : MethodName) prog_45_method_1_code 2 none ({ frames := 1, cells := 0, slots := 0, locals := 12 } : Room) Z [] #[(.ref t0), (.ref t1)] h0 (own_QI Z t0 t1 h0 n0) := by
  refine own_enter pn_1 ?_
  intro p e s m below meth c s₁ hx hby hml hown hnm hret hlk hZ e0 X0
  rw [ef_1]
  have N0 := Fr.nil n0
  show own_Fin _ _ _ _ _ _ _ (s₁.setTop (mkF m 0 #[.val (.ref t0), .val (.ref t1)] []))
  refine own_go (fun _ k => XS.aloadN X0.here hx rfl (hb hby d1_0) rfl rfl k) ?_
  show own_Fin _ _ _ _ _ _ _ (s₁.setTop (mkF m 1 #[.val (.ref t0), .val (.ref t1)] [(.ref t0)]))
  refine own_initO X0 hx hZ hown (hw _ (List.mem_of_getElem? (i := 7) rfl)) (hw _ (List.mem_of_getElem? (i := 8) rfl)) (hw _ (List.mem_of_getElem? (i := 9) rfl)) e0 (by rw [hml]; rfl) (hb hby d1_1) (by decide) (W := 0) (Nat.le_of_eq rfl) (by decide) ?_
  intro T1 X1 e1
  show own_Fin _ _ _ _ _ _ _ (T1.setTop (mkF m 4 #[.val (.ref t0), .val (.ref t1)] []))
  refine own_go (fun _ k => XS.aloadN X1.here hx rfl (hb hby d1_4) rfl rfl k) ?_
  show own_Fin _ _ _ _ _ _ _ (T1.setTop (mkF m 5 #[.val (.ref t0), .val (.ref t1)] [(.ref t0)]))
  refine own_go (fun _ k => XS.aloadN X1.here hx rfl (hb hby d1_5) rfl rfl k) ?_
  show own_Fin _ _ _ _ _ _ _ (T1.setTop (mkF m 6 #[.val (.ref t0), .val (.ref t1)] [(.ref t1), (.ref t0)]))
  refine own_putF X1 hx hZ hown (host := "") (Or.inl (hw _ (List.mem_of_getElem? (i := 10) rfl))) Via.refl e1 F0 A0 (Or.inr ⟨(hw _ (List.mem_of_getElem? (i := 11) rfl)), rfl, hnm⟩) (hw _ (List.mem_of_getElem? (i := 2) rfl)) (ty := (.array .int)) (by decide) rfl rfl (hb hby d1_6) ?_
  intro T2 h2 X2 e2 W2
  have f3 := A0.wr W2
  have Z2 := Nat.le_trans Z0 (Keep.of_wr W2).1
  have K2 := (Keep.refl h0 [t0]).wr W2 (Or.inl (List.mem_of_getElem? (i := 0) rfl))
  have f5 := F0.same W2
  have N2 := Fr.snoc X2 N0 g_t0
  show own_Fin _ _ _ _ _ _ _ (T2.setTop (mkF m 9 #[.val (.ref t0), .val (.ref t1)] []))
  exact own_retV X2 hx hlk hret (hb hby d1_9) (by decide) (by decide) (by rw [e2]; exact ⟨rfl, N2, K2, f5⟩)

theorem d3_0 : decode jdk_33_method_22_code 0 = .ok (.iload_n 0, 1) := by decide +kernel
theorem d3_1 : decode jdk_33_method_22_code 1 = .ok (.bipush (-128), 2) := by decide +kernel
theorem d3_3 : decode jdk_33_method_22_code 3 = .ok (.if_icmp .lt 20, 3) := by decide +kernel
theorem d3_6 : decode jdk_33_method_22_code 6 = .ok (.iload_n 0, 1) := by decide +kernel
theorem d3_7 : decode jdk_33_method_22_code 7 = .ok (.getstatic 191, 3) := by decide +kernel
theorem d3_10 : decode jdk_33_method_22_code 10 = .ok (.if_icmp .gt 13, 3) := by decide +kernel
theorem d3_13 : decode jdk_33_method_22_code 13 = .ok (.getstatic 195, 3) := by decide +kernel
theorem d3_16 : decode jdk_33_method_22_code 16 = .ok (.iload_n 0, 1) := by decide +kernel
theorem d3_17 : decode jdk_33_method_22_code 17 = .ok (.sipush 128, 3) := by decide +kernel
theorem d3_20 : decode jdk_33_method_22_code 20 = .ok (.iadd, 1) := by decide +kernel
theorem d3_21 : decode jdk_33_method_22_code 21 = .ok (.aaload, 1) := by decide +kernel
theorem d3_22 : decode jdk_33_method_22_code 22 = .ok (.areturn, 1) := by decide +kernel
theorem pn_3 : plainFor (⟨"java/lang/Integer", "valueOf", "(I)Ljava/lang/Integer;"⟩ : MethodName) = true := plainFor_of_name (by show plainName "java/lang/Integer" = true; first | (simp [plainName, overriddenIn]; done) | decide +kernel)
theorem ef_3 (m : MethodId) (x0 : Int32) : entryFrame m #[(.int x0)] 1 = mkF m 0 #[.val (.int x0)] [] := by first | (simp [entryFrame, mkF, argsToLocals, Value.category]; done) | rfl
set_option maxRecDepth 65536 in
set_option maxHeartbeats 40000000 in
theorem rm3 (l : Launch) (Z : State) (a0 : Array Value) (hw : ∀ d ∈ tables_1, d.before a0 Z = true) (p0 : Int32) (h0 : Heap) (n0 : Nat) (Z0 : n0 ≤ h0.size) (bA cA : Addr) (cl : Cell) (Sh : Sta Z h0 "java/lang/Integer$IntegerCache" "high" "I" (.int (127 : Int32))) (Sc : Sta Z h0 "java/lang/Integer$IntegerCache" "cache" "[Ljava/lang/Integer;" (.ref cA)) (Ac : Arr Z h0 cA cl (.object "java/lang/Integer")) (q1 : ¬ p0 < (-128 : Int32)) (q2 : ¬ (127 : Int32) < p0) (hin : ¬ ((p0 + (128 : Int32)) < 0 ∨ cl.slots.size ≤ (p0 + (128 : Int32)).toNatClampNeg)) (hat : cl.slots[(p0 + (128 : Int32)).toNatClampNeg]? = some (.ref bA)) :
    own_Met l (⟨"java/lang/Integer", "valueOf", "(I)Ljava/lang/Integer;"⟩ : MethodName) jdk_33_method_22_code 1 (some (.object "java/lang/Integer")) ({ frames := 0, cells := 0, slots := 0, locals := 0 } : Room) Z [] #[(.int p0)] h0 (own_P (some (.ref bA)) h0 n0) := by
  refine own_enter pn_3 ?_
  intro p e s m below meth c s₁ hx hby hml hown hnm hret hlk hZ e0 X0
  rw [ef_3]
  have N0 := Fr.nil n0
  show own_Fin _ _ _ _ _ _ _ (s₁.setTop (mkF m 0 #[.val (.int p0)] []))
  refine own_go (fun _ k => XS.iloadN X0.here hx rfl (hb hby d3_0) rfl k) ?_
  show own_Fin _ _ _ _ _ _ _ (s₁.setTop (mkF m 1 #[.val (.int p0)] [(.int p0)]))
  refine own_go (fun _ k => XS.bipush X0.here hx rfl (hb hby d3_1) k) ?_
  show own_Fin _ _ _ _ _ _ _ (s₁.setTop (mkF m 3 #[.val (.int p0)] [(.int (-128 : Int32)), (.int p0)]))
  refine own_go (fun _ k => XS.icmpNo X0.here hx rfl (hb hby d3_3) rfl (XT.ii_lt_f q1) k) ?_
  show own_Fin _ _ _ _ _ _ _ (s₁.setTop (mkF m 6 #[.val (.int p0)] []))
  refine own_go (fun _ k => XS.iloadN X0.here hx rfl (hb hby d3_6) rfl k) ?_
  show own_Fin _ _ _ _ _ _ _ (s₁.setTop (mkF m 7 #[.val (.int p0)] [(.int p0)]))
  refine own_getS X0 hx hZ hown (host := "") (Or.inl (hw _ (List.mem_of_getElem? (i := 17) rfl))) Via.refl e0 Sh (hb hby d3_7) ?_
  intro T1 X1 e1
  show own_Fin _ _ _ _ _ _ _ (T1.setTop (mkF m 10 #[.val (.int p0)] [(.int (127 : Int32)), (.int p0)]))
  refine own_go (fun _ k => XS.icmpNo X1.here hx rfl (hb hby d3_10) rfl (XT.ii_gt_f q2) k) ?_
  show own_Fin _ _ _ _ _ _ _ (T1.setTop (mkF m 13 #[.val (.int p0)] []))
  refine own_getS X1 hx hZ hown (host := "") (Or.inl (hw _ (List.mem_of_getElem? (i := 19) rfl))) Via.refl e1 Sc (hb hby d3_13) ?_
  intro T2 X2 e2
  show own_Fin _ _ _ _ _ _ _ (T2.setTop (mkF m 16 #[.val (.int p0)] [(.ref cA)]))
  refine own_go (fun _ k => XS.iloadN X2.here hx rfl (hb hby d3_16) rfl k) ?_
  show own_Fin _ _ _ _ _ _ _ (T2.setTop (mkF m 17 #[.val (.int p0)] [(.int p0), (.ref cA)]))
  refine own_go (fun _ k => XS.sipush X2.here hx rfl (hb hby d3_17) k) ?_
  show own_Fin _ _ _ _ _ _ _ (T2.setTop (mkF m 20 #[.val (.int p0)] [(.int (128 : Int32)), (.int p0), (.ref cA)]))
  refine own_go (fun _ k => XS.iadd X2.here hx rfl (hb hby d3_20) rfl k) ?_
  show own_Fin _ _ _ _ _ _ _ (T2.setTop (mkF m 21 #[.val (.int p0)] [(.int (p0 + (128 : Int32))), (.ref cA)]))
  refine own_go (fun _ k => X2.aaload hx (j := (p0 + (128 : Int32))) (v := .ref bA) (by rw [e2]; exact Ac.1) (State.isArrayOf_alike hZ.alike Ac.2.1) rfl Ac.2.2 hin hat (g := (mkF m 21 #[.val (.int p0)] [(.int (p0 + (128 : Int32))), (.ref cA)])) rfl rfl (hb hby d3_21) _ k) ?_
  show own_Fin _ _ _ _ _ _ _ (T2.setTop (mkF m 22 #[.val (.int p0)] [(.ref bA)]))
  exact own_retA X2 hx hlk hret rfl rfl (hb hby d3_22) (by decide) (by decide) ⟨rfl, N0, e2⟩

theorem d5_0 : decode jdk_33_method_27_code 0 = .ok (.aload_n 0, 1) := by decide +kernel
theorem d5_1 : decode jdk_33_method_27_code 1 = .ok (.getfield 205, 3) := by decide +kernel
theorem d5_4 : decode jdk_33_method_27_code 4 = .ok (.ireturn, 1) := by decide +kernel
theorem pn_5 : plainFor (⟨"java/lang/Integer", "intValue", "()I"⟩ : MethodName) = true := plainFor_of_name (by show plainName "java/lang/Integer" = true; first | (simp [plainName, overriddenIn]; done) | decide +kernel)
theorem ef_5 (m : MethodId) (x0 : Addr) : entryFrame m #[(.ref x0)] 1 = mkF m 0 #[.val (.ref x0)] [] := by first | (simp [entryFrame, mkF, argsToLocals, Value.category]; done) | rfl
set_option maxRecDepth 65536 in
set_option maxHeartbeats 40000000 in
theorem rm5 (l : Launch) (Z : State) (a0 : Array Value) (hw : ∀ d ∈ tables_1, d.before a0 Z = true) (t0 : Addr) (h0 : Heap) (n0 : Nat) (Z0 : n0 ≤ h0.size) (o0 : Int32) (F0 : Fld Z h0 t0 "java/lang/Integer" "value" "I" (.int o0)) :
    own_Met l (⟨"java/lang/Integer", "intValue", "()I"⟩ : MethodName) jdk_33_method_27_code 1 (some .int) ({ frames := 0, cells := 0, slots := 0, locals := 0 } : Room) Z [] #[(.ref t0)] h0 (own_P (some (.int o0)) h0 n0) := by
  refine own_enter pn_5 ?_
  intro p e s m below meth c s₁ hx hby hml hown hnm hret hlk hZ e0 X0
  rw [ef_5]
  have N0 := Fr.nil n0
  show own_Fin _ _ _ _ _ _ _ (s₁.setTop (mkF m 0 #[.val (.ref t0)] []))
  refine own_go (fun _ k => XS.aloadN X0.here hx rfl (hb hby d5_0) rfl rfl k) ?_
  show own_Fin _ _ _ _ _ _ _ (s₁.setTop (mkF m 1 #[.val (.ref t0)] [(.ref t0)]))
  refine own_getF X0 hx hZ hown (host := "") (Or.inl (hw _ (List.mem_of_getElem? (i := 30) rfl))) Via.refl e0 F0 (hb hby d5_1) ?_
  intro T1 X1 e1
  show own_Fin _ _ _ _ _ _ _ (T1.setTop (mkF m 4 #[.val (.ref t0)] [(.int o0)]))
  exact own_retI X1 hx hlk hret (hb hby d5_4) (by decide) (by decide) ⟨rfl, N0, e1⟩

theorem d6_0 : decode jdk_33_method_40_code 0 = .ok (.iload_n 0, 1) := by decide +kernel
theorem d6_1 : decode jdk_33_method_40_code 1 = .ok (.iload_n 1, 1) := by decide +kernel
theorem d6_2 : decode jdk_33_method_40_code 2 = .ok (.if_icmp .ge 7, 3) := by decide +kernel
theorem d6_5 : decode jdk_33_method_40_code 5 = .ok (.iconst (-1), 1) := by decide +kernel
theorem d6_6 : decode jdk_33_method_40_code 6 = .ok (.goto 13, 3) := by decide +kernel
theorem d6_9 : decode jdk_33_method_40_code 9 = .ok (.iload_n 0, 1) := by decide +kernel
theorem d6_10 : decode jdk_33_method_40_code 10 = .ok (.iload_n 1, 1) := by decide +kernel
theorem d6_11 : decode jdk_33_method_40_code 11 = .ok (.if_icmp .ne 7, 3) := by decide +kernel
theorem d6_14 : decode jdk_33_method_40_code 14 = .ok (.iconst 0, 1) := by decide +kernel
theorem d6_15 : decode jdk_33_method_40_code 15 = .ok (.goto 4, 3) := by decide +kernel
theorem d6_18 : decode jdk_33_method_40_code 18 = .ok (.iconst 1, 1) := by decide +kernel
theorem d6_19 : decode jdk_33_method_40_code 19 = .ok (.ireturn, 1) := by decide +kernel
theorem pn_6 : plainFor (⟨"java/lang/Integer", "compare", "(II)I"⟩ : MethodName) = true := plainFor_of_name (by show plainName "java/lang/Integer" = true; first | (simp [plainName, overriddenIn]; done) | decide +kernel)
theorem ef_6 (m : MethodId) (x0 : Int32) (x1 : Int32) : entryFrame m #[(.int x0), (.int x1)] 2 = mkF m 0 #[.val (.int x0), .val (.int x1)] [] := by first | (simp [entryFrame, mkF, argsToLocals, Value.category]; done) | rfl
def own_f6 (p0 : Int32) (p1 : Int32) : Int32 :=
  if p0 < p1 then
    (-1 : Int32)
  else
    if p0 = p1 then
      (0 : Int32)
    else
      (1 : Int32)
set_option maxRecDepth 65536 in
set_option maxHeartbeats 40000000 in
theorem rm6 (l : Launch) (Z : State) (a0 : Array Value) (hw : ∀ d ∈ tables_1, d.before a0 Z = true) (p0 : Int32) (p1 : Int32) (h0 : Heap) (n0 : Nat) (Z0 : n0 ≤ h0.size) :
    own_Met l (⟨"java/lang/Integer", "compare", "(II)I"⟩ : MethodName) jdk_33_method_40_code 2 (some .int) ({ frames := 0, cells := 0, slots := 0, locals := 0 } : Room) Z [] #[(.int p0), (.int p1)] h0 (own_P (some (.int (own_f6 p0 p1))) h0 n0) := by
  refine own_enter pn_6 ?_
  intro p e s m below meth c s₁ hx hby hml hown hnm hret hlk hZ e0 X0
  rw [ef_6]
  have N0 := Fr.nil n0
  show own_Fin _ _ _ _ _ _ _ (s₁.setTop (mkF m 0 #[.val (.int p0), .val (.int p1)] []))
  refine own_go (fun _ k => XS.iloadN X0.here hx rfl (hb hby d6_0) rfl k) ?_
  show own_Fin _ _ _ _ _ _ _ (s₁.setTop (mkF m 1 #[.val (.int p0), .val (.int p1)] [(.int p0)]))
  refine own_go (fun _ k => XS.iloadN X0.here hx rfl (hb hby d6_1) rfl k) ?_
  show own_Fin _ _ _ _ _ _ _ (s₁.setTop (mkF m 2 #[.val (.int p0), .val (.int p1)] [(.int p1), (.int p0)]))
  by_cases hc2 : p0 < p1
  · refine own_go (fun _ k => XS.icmpNo X0.here hx rfl (hb hby d6_2) rfl (XT.ii_ge_f hc2) k) ?_
    show own_Fin _ _ _ _ _ _ _ (s₁.setTop (mkF m 5 #[.val (.int p0), .val (.int p1)] []))
    refine own_go (fun _ k => XS.iconst X0.here hx rfl (hb hby d6_5) k) ?_
    show own_Fin _ _ _ _ _ _ _ (s₁.setTop (mkF m 6 #[.val (.int p0), .val (.int p1)] [(.int (-1 : Int32))]))
    refine own_go (fun _ k => XS.goto X0.here hx rfl (pc0 := 6) (pc' := 19) rfl (hb hby d6_6) (by decide) (by decide) k) ?_
    show own_Fin _ _ _ _ _ _ _ (s₁.setTop (mkF m 19 #[.val (.int p0), .val (.int p1)] [(.int (-1 : Int32))]))
    exact own_retI X0 hx hlk hret (hb hby d6_19) (by decide) (by decide) ⟨(by rw [own_f6, if_pos hc2]), N0, e0⟩
  · refine own_go (fun _ k => XS.icmpYes X0.here hx rfl (pc0 := 2) (pc' := 9) rfl (hb hby d6_2) rfl (XT.ii_ge_t hc2) (by decide) (by decide) k) ?_
    show own_Fin _ _ _ _ _ _ _ (s₁.setTop (mkF m 9 #[.val (.int p0), .val (.int p1)] []))
    refine own_go (fun _ k => XS.iloadN X0.here hx rfl (hb hby d6_9) rfl k) ?_
    show own_Fin _ _ _ _ _ _ _ (s₁.setTop (mkF m 10 #[.val (.int p0), .val (.int p1)] [(.int p0)]))
    refine own_go (fun _ k => XS.iloadN X0.here hx rfl (hb hby d6_10) rfl k) ?_
    show own_Fin _ _ _ _ _ _ _ (s₁.setTop (mkF m 11 #[.val (.int p0), .val (.int p1)] [(.int p1), (.int p0)]))
    by_cases hc11 : p0 = p1
    · refine own_go (fun _ k => XS.icmpNo X0.here hx rfl (hb hby d6_11) rfl (XT.ii_ne_f hc11) k) ?_
      show own_Fin _ _ _ _ _ _ _ (s₁.setTop (mkF m 14 #[.val (.int p0), .val (.int p1)] []))
      refine own_go (fun _ k => XS.iconst X0.here hx rfl (hb hby d6_14) k) ?_
      show own_Fin _ _ _ _ _ _ _ (s₁.setTop (mkF m 15 #[.val (.int p0), .val (.int p1)] [(.int (0 : Int32))]))
      refine own_go (fun _ k => XS.goto X0.here hx rfl (pc0 := 15) (pc' := 19) rfl (hb hby d6_15) (by decide) (by decide) k) ?_
      show own_Fin _ _ _ _ _ _ _ (s₁.setTop (mkF m 19 #[.val (.int p0), .val (.int p1)] [(.int (0 : Int32))]))
      exact own_retI X0 hx hlk hret (hb hby d6_19) (by decide) (by decide) ⟨(by rw [own_f6, if_neg hc2, if_pos hc11]), N0, e0⟩
    · refine own_go (fun _ k => XS.icmpYes X0.here hx rfl (pc0 := 11) (pc' := 18) rfl (hb hby d6_11) rfl (XT.ii_ne_t hc11) (by decide) (by decide) k) ?_
      show own_Fin _ _ _ _ _ _ _ (s₁.setTop (mkF m 18 #[.val (.int p0), .val (.int p1)] []))
      refine own_go (fun _ k => XS.iconst X0.here hx rfl (hb hby d6_18) k) ?_
      show own_Fin _ _ _ _ _ _ _ (s₁.setTop (mkF m 19 #[.val (.int p0), .val (.int p1)] [(.int (1 : Int32))]))
      exact own_retI X0 hx hlk hret (hb hby d6_19) (by decide) (by decide) ⟨(by rw [own_f6, if_neg hc2, if_neg hc11]), N0, e0⟩

theorem d7_0 : decode method_2_code 0 = .ok (.iload_n 0, 1) := by decide +kernel
theorem d7_1 : decode method_2_code 1 = .ok (.ifCond .ge 5, 3) := by decide +kernel
theorem d7_4 : decode method_2_code 4 = .ok (.iconst (-1), 1) := by decide +kernel
theorem d7_5 : decode method_2_code 5 = .ok (.ireturn, 1) := by decide +kernel
theorem d7_6 : decode method_2_code 6 = .ok (.iload_n 0, 1) := by decide +kernel
theorem d7_7 : decode method_2_code 7 = .ok (.ifCond .le 5, 3) := by decide +kernel
theorem d7_10 : decode method_2_code 10 = .ok (.iconst 1, 1) := by decide +kernel
theorem d7_11 : decode method_2_code 11 = .ok (.ireturn, 1) := by decide +kernel
theorem d7_12 : decode method_2_code 12 = .ok (.iconst 0, 1) := by decide +kernel
theorem d7_13 : decode method_2_code 13 = .ok (.ireturn, 1) := by decide +kernel
theorem pn_7 : plainFor (⟨"com/example/conflux/conflux/compose/LowestKeyFirstComparePinLaw", "sgn", "(I)I"⟩ : MethodName) = true := plainFor_of_name (by show plainName "com/example/conflux/conflux/compose/LowestKeyFirstComparePinLaw" = true; first | (simp [plainName, overriddenIn]; done) | decide +kernel)
theorem ef_7 (m : MethodId) (x0 : Int32) : entryFrame m #[(.int x0)] 1 = mkF m 0 #[.val (.int x0)] [] := by first | (simp [entryFrame, mkF, argsToLocals, Value.category]; done) | rfl
def own_f7 (p0 : Int32) : Int32 :=
  if p0 < 0 then
    (-1 : Int32)
  else
    if 0 < p0 then
      (1 : Int32)
    else
      (0 : Int32)
set_option maxRecDepth 65536 in
set_option maxHeartbeats 40000000 in
theorem rm7 (l : Launch) (Z : State) (a0 : Array Value) (hw : ∀ d ∈ tables_1, d.before a0 Z = true) (p0 : Int32) (h0 : Heap) (n0 : Nat) (Z0 : n0 ≤ h0.size) :
    own_Met l (⟨"com/example/conflux/conflux/compose/LowestKeyFirstComparePinLaw", "sgn", "(I)I"⟩ : MethodName) method_2_code 1 (some .int) ({ frames := 0, cells := 0, slots := 0, locals := 0 } : Room) Z [] #[(.int p0)] h0 (own_P (some (.int (own_f7 p0))) h0 n0) := by
  refine own_enter pn_7 ?_
  intro p e s m below meth c s₁ hx hby hml hown hnm hret hlk hZ e0 X0
  rw [ef_7]
  have N0 := Fr.nil n0
  show own_Fin _ _ _ _ _ _ _ (s₁.setTop (mkF m 0 #[.val (.int p0)] []))
  refine own_go (fun _ k => XS.iloadN X0.here hx rfl (hb hby d7_0) rfl k) ?_
  show own_Fin _ _ _ _ _ _ _ (s₁.setTop (mkF m 1 #[.val (.int p0)] [(.int p0)]))
  by_cases hc1 : p0 < 0
  · refine own_go (fun _ k => XS.ifNo X0.here hx rfl (hb hby d7_1) rfl (XT.i0_ge_f hc1) k) ?_
    show own_Fin _ _ _ _ _ _ _ (s₁.setTop (mkF m 4 #[.val (.int p0)] []))
    refine own_go (fun _ k => XS.iconst X0.here hx rfl (hb hby d7_4) k) ?_
    show own_Fin _ _ _ _ _ _ _ (s₁.setTop (mkF m 5 #[.val (.int p0)] [(.int (-1 : Int32))]))
    exact own_retI X0 hx hlk hret (hb hby d7_5) (by decide) (by decide) ⟨(by rw [own_f7, if_pos hc1]), N0, e0⟩
  · refine own_go (fun _ k => XS.ifYes X0.here hx rfl (pc0 := 1) (pc' := 6) rfl (hb hby d7_1) rfl (XT.i0_ge_t hc1) (by decide) (by decide) k) ?_
    show own_Fin _ _ _ _ _ _ _ (s₁.setTop (mkF m 6 #[.val (.int p0)] []))
    refine own_go (fun _ k => XS.iloadN X0.here hx rfl (hb hby d7_6) rfl k) ?_
    show own_Fin _ _ _ _ _ _ _ (s₁.setTop (mkF m 7 #[.val (.int p0)] [(.int p0)]))
    by_cases hc7 : 0 < p0
    · refine own_go (fun _ k => XS.ifNo X0.here hx rfl (hb hby d7_7) rfl (XT.i0_le_f hc7) k) ?_
      show own_Fin _ _ _ _ _ _ _ (s₁.setTop (mkF m 10 #[.val (.int p0)] []))
      refine own_go (fun _ k => XS.iconst X0.here hx rfl (hb hby d7_10) k) ?_
      show own_Fin _ _ _ _ _ _ _ (s₁.setTop (mkF m 11 #[.val (.int p0)] [(.int (1 : Int32))]))
      exact own_retI X0 hx hlk hret (hb hby d7_11) (by decide) (by decide) ⟨(by rw [own_f7, if_neg hc1, if_pos hc7]), N0, e0⟩
    · refine own_go (fun _ k => XS.ifYes X0.here hx rfl (pc0 := 7) (pc' := 12) rfl (hb hby d7_7) rfl (XT.i0_le_t hc7) (by decide) (by decide) k) ?_
      show own_Fin _ _ _ _ _ _ _ (s₁.setTop (mkF m 12 #[.val (.int p0)] []))
      refine own_go (fun _ k => XS.iconst X0.here hx rfl (hb hby d7_12) k) ?_
      show own_Fin _ _ _ _ _ _ _ (s₁.setTop (mkF m 13 #[.val (.int p0)] [(.int (0 : Int32))]))
      exact own_retI X0 hx hlk hret (hb hby d7_13) (by decide) (by decide) ⟨(by rw [own_f7, if_neg hc1, if_neg hc7]), N0, e0⟩

theorem d8_0 : decode method_3_code 0 = .ok (.iload_n 0, 1) := by decide +kernel
theorem d8_1 : decode method_3_code 1 = .ok (.iload_n 1, 1) := by decide +kernel
theorem d8_2 : decode method_3_code 2 = .ok (.if_icmp .ge 5, 3) := by decide +kernel
theorem d8_5 : decode method_3_code 5 = .ok (.iconst (-1), 1) := by decide +kernel
theorem d8_6 : decode method_3_code 6 = .ok (.ireturn, 1) := by decide +kernel
theorem d8_7 : decode method_3_code 7 = .ok (.iload_n 0, 1) := by decide +kernel
theorem d8_8 : decode method_3_code 8 = .ok (.iload_n 1, 1) := by decide +kernel
theorem d8_9 : decode method_3_code 9 = .ok (.if_icmp .le 5, 3) := by decide +kernel
theorem d8_12 : decode method_3_code 12 = .ok (.iconst 1, 1) := by decide +kernel
theorem d8_13 : decode method_3_code 13 = .ok (.ireturn, 1) := by decide +kernel
theorem d8_14 : decode method_3_code 14 = .ok (.iconst 0, 1) := by decide +kernel
theorem d8_15 : decode method_3_code 15 = .ok (.ireturn, 1) := by decide +kernel
theorem pn_8 : plainFor (⟨"com/example/conflux/conflux/compose/LowestKeyFirstComparePinLaw", "expect", "(II)I"⟩ : MethodName) = true := plainFor_of_name (by show plainName "com/example/conflux/conflux/compose/LowestKeyFirstComparePinLaw" = true; first | (simp [plainName, overriddenIn]; done) | decide +kernel)
theorem ef_8 (m : MethodId) (x0 : Int32) (x1 : Int32) : entryFrame m #[(.int x0), (.int x1)] 2 = mkF m 0 #[.val (.int x0), .val (.int x1)] [] := by first | (simp [entryFrame, mkF, argsToLocals, Value.category]; done) | rfl
def own_f8 (p0 : Int32) (p1 : Int32) : Int32 :=
  if p0 < p1 then
    (-1 : Int32)
  else
    if p1 < p0 then
      (1 : Int32)
    else
      (0 : Int32)
set_option maxRecDepth 65536 in
set_option maxHeartbeats 40000000 in
theorem rm8 (l : Launch) (Z : State) (a0 : Array Value) (hw : ∀ d ∈ tables_1, d.before a0 Z = true) (p0 : Int32) (p1 : Int32) (h0 : Heap) (n0 : Nat) (Z0 : n0 ≤ h0.size) :
    own_Met l (⟨"com/example/conflux/conflux/compose/LowestKeyFirstComparePinLaw", "expect", "(II)I"⟩ : MethodName) method_3_code 2 (some .int) ({ frames := 0, cells := 0, slots := 0, locals := 0 } : Room) Z [] #[(.int p0), (.int p1)] h0 (own_P (some (.int (own_f8 p0 p1))) h0 n0) := by
  refine own_enter pn_8 ?_
  intro p e s m below meth c s₁ hx hby hml hown hnm hret hlk hZ e0 X0
  rw [ef_8]
  have N0 := Fr.nil n0
  show own_Fin _ _ _ _ _ _ _ (s₁.setTop (mkF m 0 #[.val (.int p0), .val (.int p1)] []))
  refine own_go (fun _ k => XS.iloadN X0.here hx rfl (hb hby d8_0) rfl k) ?_
  show own_Fin _ _ _ _ _ _ _ (s₁.setTop (mkF m 1 #[.val (.int p0), .val (.int p1)] [(.int p0)]))
  refine own_go (fun _ k => XS.iloadN X0.here hx rfl (hb hby d8_1) rfl k) ?_
  show own_Fin _ _ _ _ _ _ _ (s₁.setTop (mkF m 2 #[.val (.int p0), .val (.int p1)] [(.int p1), (.int p0)]))
  by_cases hc2 : p0 < p1
  · refine own_go (fun _ k => XS.icmpNo X0.here hx rfl (hb hby d8_2) rfl (XT.ii_ge_f hc2) k) ?_
    show own_Fin _ _ _ _ _ _ _ (s₁.setTop (mkF m 5 #[.val (.int p0), .val (.int p1)] []))
    refine own_go (fun _ k => XS.iconst X0.here hx rfl (hb hby d8_5) k) ?_
    show own_Fin _ _ _ _ _ _ _ (s₁.setTop (mkF m 6 #[.val (.int p0), .val (.int p1)] [(.int (-1 : Int32))]))
    exact own_retI X0 hx hlk hret (hb hby d8_6) (by decide) (by decide) ⟨(by rw [own_f8, if_pos hc2]), N0, e0⟩
  · refine own_go (fun _ k => XS.icmpYes X0.here hx rfl (pc0 := 2) (pc' := 7) rfl (hb hby d8_2) rfl (XT.ii_ge_t hc2) (by decide) (by decide) k) ?_
    show own_Fin _ _ _ _ _ _ _ (s₁.setTop (mkF m 7 #[.val (.int p0), .val (.int p1)] []))
    refine own_go (fun _ k => XS.iloadN X0.here hx rfl (hb hby d8_7) rfl k) ?_
    show own_Fin _ _ _ _ _ _ _ (s₁.setTop (mkF m 8 #[.val (.int p0), .val (.int p1)] [(.int p0)]))
    refine own_go (fun _ k => XS.iloadN X0.here hx rfl (hb hby d8_8) rfl k) ?_
    show own_Fin _ _ _ _ _ _ _ (s₁.setTop (mkF m 9 #[.val (.int p0), .val (.int p1)] [(.int p1), (.int p0)]))
    by_cases hc9 : p1 < p0
    · refine own_go (fun _ k => XS.icmpNo X0.here hx rfl (hb hby d8_9) rfl (XT.ii_le_f hc9) k) ?_
      show own_Fin _ _ _ _ _ _ _ (s₁.setTop (mkF m 12 #[.val (.int p0), .val (.int p1)] []))
      refine own_go (fun _ k => XS.iconst X0.here hx rfl (hb hby d8_12) k) ?_
      show own_Fin _ _ _ _ _ _ _ (s₁.setTop (mkF m 13 #[.val (.int p0), .val (.int p1)] [(.int (1 : Int32))]))
      exact own_retI X0 hx hlk hret (hb hby d8_13) (by decide) (by decide) ⟨(by rw [own_f8, if_neg hc2, if_pos hc9]), N0, e0⟩
    · refine own_go (fun _ k => XS.icmpYes X0.here hx rfl (pc0 := 9) (pc' := 14) rfl (hb hby d8_9) rfl (XT.ii_le_t hc9) (by decide) (by decide) k) ?_
      show own_Fin _ _ _ _ _ _ _ (s₁.setTop (mkF m 14 #[.val (.int p0), .val (.int p1)] []))
      refine own_go (fun _ k => XS.iconst X0.here hx rfl (hb hby d8_14) k) ?_
      show own_Fin _ _ _ _ _ _ _ (s₁.setTop (mkF m 15 #[.val (.int p0), .val (.int p1)] [(.int (0 : Int32))]))
      exact own_retI X0 hx hlk hret (hb hby d8_15) (by decide) (by decide) ⟨(by rw [own_f8, if_neg hc2, if_neg hc9]), N0, e0⟩

theorem d4_0 : decode prog_45_method_2_code 0 = .ok (.aload_n 0, 1) := by decide +kernel
theorem d4_1 : decode prog_45_method_2_code 1 = .ok (.getfield 7, 3) := by decide +kernel
theorem d4_4 : decode prog_45_method_2_code 4 = .ok (.aload_n 1, 1) := by decide +kernel
theorem d4_5 : decode prog_45_method_2_code 5 = .ok (.invokevirtual 13, 3) := by decide +kernel
theorem d4_8 : decode prog_45_method_2_code 8 = .ok (.iaload, 1) := by decide +kernel
theorem d4_9 : decode prog_45_method_2_code 9 = .ok (.aload_n 0, 1) := by decide +kernel
theorem d4_10 : decode prog_45_method_2_code 10 = .ok (.getfield 7, 3) := by decide +kernel
theorem d4_13 : decode prog_45_method_2_code 13 = .ok (.aload_n 2, 1) := by decide +kernel
theorem d4_14 : decode prog_45_method_2_code 14 = .ok (.invokevirtual 13, 3) := by decide +kernel
theorem d4_17 : decode prog_45_method_2_code 17 = .ok (.iaload, 1) := by decide +kernel
theorem d4_18 : decode prog_45_method_2_code 18 = .ok (.invokestatic 19, 3) := by decide +kernel
theorem d4_21 : decode prog_45_method_2_code 21 = .ok (.ireturn, 1) := by decide +kernel
theorem pd_4_0 : parseMethodDescriptor "()I" = some ⟨[], some .int⟩ := by decide +kernel
theorem pd_4_1 : parseMethodDescriptor "(II)I" = some ⟨[.int, .int], some .int⟩ := by decide +kernel
theorem pn_4 : plainFor (⟨"com/example/conflux/conflux/compose/LowestKeyFirst", "compare", "(Ljava/lang/Integer;Ljava/lang/Integer;)I"⟩ : MethodName) = true := plainFor_of_name (by show plainName "com/example/conflux/conflux/compose/LowestKeyFirst" = true; first | (simp [plainName, overriddenIn]; done) | decide +kernel)
theorem ef_4 (m : MethodId) (x0 : Addr) (x1 : Addr) (x2 : Addr) : entryFrame m #[(.ref x0), (.ref x1), (.ref x2)] 3 = mkF m 0 #[.val (.ref x0), .val (.ref x1), .val (.ref x2)] [] := by first | (simp [entryFrame, mkF, argsToLocals, Value.category]; done) | rfl
def own_f4 (xs : List Int32) (v1 : Int32) (v2 : Int32) : Int32 :=
  (own_f6 (List.getD xs (v1).toNatClampNeg 0) (List.getD xs (v2).toNatClampNeg 0))
set_option maxRecDepth 65536 in
set_option maxHeartbeats 40000000 in
theorem rm4 (l : Launch) (Z : State) (a0 : Array Value) (hw : ∀ d ∈ tables_1, d.before a0 Z = true) (t0 : Addr) (t1 : Addr) (t2 : Addr) (h0 : Heap) (n0 : Nat) (Z0 : n0 ≤ h0.size) (kA : Addr) (xs : List Int32) (v1 v2 : Int32) (F0 : Fld Z h0 t0 "com/example/conflux/conflux/compose/LowestKeyFirst" "keys" "[I" (.ref kA)) (V0 : own_Ar Z h0 kA .int (xs.map Value.int)) (E1 : Exa Z h0 t1 "java/lang/Integer") (F1 : Fld Z h0 t1 "java/lang/Integer" "value" "I" (.int v1)) (hj1 : ¬ v1 < 0) (hi1 : v1.toNatClampNeg < xs.length) (E2 : Exa Z h0 t2 "java/lang/Integer") (F2 : Fld Z h0 t2 "java/lang/Integer" "value" "I" (.int v2)) (hj2 : ¬ v2 < 0) (hi2 : v2.toNatClampNeg < xs.length) :
    own_Met l (⟨"com/example/conflux/conflux/compose/LowestKeyFirst", "compare", "(Ljava/lang/Integer;Ljava/lang/Integer;)I"⟩ : MethodName) prog_45_method_2_code 3 (some .int) ({ frames := 1, cells := 0, slots := 0, locals := 14 } : Room) Z [] #[(.ref t0), (.ref t1), (.ref t2)] h0 (own_P (some (.int (own_f4 xs v1 v2))) h0 n0) := by
  refine own_enter pn_4 ?_
  intro p e s m below meth c s₁ hx hby hml hown hnm hret hlk hZ e0 X0
  rw [ef_4]
  have N0 := Fr.nil n0
  show own_Fin _ _ _ _ _ _ _ (s₁.setTop (mkF m 0 #[.val (.ref t0), .val (.ref t1), .val (.ref t2)] []))
  refine own_go (fun _ k => XS.aloadN X0.here hx rfl (hb hby d4_0) rfl rfl k) ?_
  show own_Fin _ _ _ _ _ _ _ (s₁.setTop (mkF m 1 #[.val (.ref t0), .val (.ref t1), .val (.ref t2)] [(.ref t0)]))
  refine own_getF X0 hx hZ hown (host := "") (Or.inl (hw _ (List.mem_of_getElem? (i := 10) rfl))) Via.refl e0 F0 (hb hby d4_1) ?_
  intro T1 X1 e1
  show own_Fin _ _ _ _ _ _ _ (T1.setTop (mkF m 4 #[.val (.ref t0), .val (.ref t1), .val (.ref t2)] [(.ref kA)]))
  refine own_go (fun _ k => XS.aloadN X1.here hx rfl (hb hby d4_4) rfl rfl k) ?_
  show own_Fin _ _ _ _ _ _ _ (T1.setTop (mkF m 5 #[.val (.ref t0), .val (.ref t1), .val (.ref t2)] [(.ref t1), (.ref kA)]))
  refine own_callV X1 hx hZ hown (hw _ (List.mem_of_getElem? (i := 25) rfl)) (hw _ (List.mem_of_getElem? (i := 26) rfl)) (notFace_of_selects (args := #[]) (mvT hZ (hw _ (List.mem_of_getElem? (i := 28) rfl)))) (hw _ (List.mem_of_getElem? (i := 28) rfl)) (hw _ (List.mem_of_getElem? (i := 27) rfl)) (hw _ (List.mem_of_getElem? (i := 29) rfl)) (hw _ (List.mem_of_getElem? (i := 15) rfl)) (by decide) (rm5 l Z a0 hw t1 h0 n0 Z0 v1 F1) e1 E1 (argsL := []) (rest := [(.ref kA)]) rfl rfl (by rw [hml]; rfl) (lenOf pd_4_0 rfl) (hb hby d4_5) (W := 1) (Nat.le_of_eq rfl) (by decide) (by decide) (by decide) (by decide) ?_
  rintro v2 T2 L2 X2 ⟨rfl, M2, e2⟩
  have N2 := Fr.app N0 M2
  show own_Fin _ _ _ _ _ _ _ (T2.setTop (mkF m 8 #[.val (.ref t0), .val (.ref t1), .val (.ref t2)] [(.int v1), (.ref kA)]))
  refine own_ldI X2 hx hZ e2 V0 hj1 hi1 (hb hby d4_8) ?_
  show own_Fin _ _ _ _ _ _ _ (T2.setTop (mkF m 9 #[.val (.ref t0), .val (.ref t1), .val (.ref t2)] [(.int (List.getD xs (v1).toNatClampNeg 0))]))
  refine own_go (fun _ k => XS.aloadN X2.here hx rfl (hb hby d4_9) rfl rfl k) ?_
  show own_Fin _ _ _ _ _ _ _ (T2.setTop (mkF m 10 #[.val (.ref t0), .val (.ref t1), .val (.ref t2)] [(.ref t0), (.int (List.getD xs (v1).toNatClampNeg 0))]))
  refine own_getF X2 hx hZ hown (host := "") (Or.inl (hw _ (List.mem_of_getElem? (i := 10) rfl))) Via.refl e2 F0 (hb hby d4_10) ?_
  intro T3 X3 e3
  show own_Fin _ _ _ _ _ _ _ (T3.setTop (mkF m 13 #[.val (.ref t0), .val (.ref t1), .val (.ref t2)] [(.ref kA), (.int (List.getD xs (v1).toNatClampNeg 0))]))
  refine own_go (fun _ k => XS.aloadN X3.here hx rfl (hb hby d4_13) rfl rfl k) ?_
  show own_Fin _ _ _ _ _ _ _ (T3.setTop (mkF m 14 #[.val (.ref t0), .val (.ref t1), .val (.ref t2)] [(.ref t2), (.ref kA), (.int (List.getD xs (v1).toNatClampNeg 0))]))
  refine own_callV X3 hx hZ hown (hw _ (List.mem_of_getElem? (i := 25) rfl)) (hw _ (List.mem_of_getElem? (i := 26) rfl)) (notFace_of_selects (args := #[]) (mvT hZ (hw _ (List.mem_of_getElem? (i := 28) rfl)))) (hw _ (List.mem_of_getElem? (i := 28) rfl)) (hw _ (List.mem_of_getElem? (i := 27) rfl)) (hw _ (List.mem_of_getElem? (i := 29) rfl)) (hw _ (List.mem_of_getElem? (i := 15) rfl)) (by decide) (rm5 l Z a0 hw t2 h0 n0 Z0 v2 F2) e3 E2 (argsL := []) (rest := [(.ref kA), (.int (List.getD xs (v1).toNatClampNeg 0))]) rfl rfl (by rw [hml]; rfl) (lenOf pd_4_0 rfl) (hb hby d4_14) (W := 2) (Nat.le_of_eq rfl) (by decide) (by decide) (by decide) (by decide) ?_
  rintro v4 T4 L4 X4 ⟨rfl, M4, e4⟩
  have N4 := Fr.app N2 M4
  show own_Fin _ _ _ _ _ _ _ (T4.setTop (mkF m 17 #[.val (.ref t0), .val (.ref t1), .val (.ref t2)] [(.int v2), (.ref kA), (.int (List.getD xs (v1).toNatClampNeg 0))]))
  refine own_ldI X4 hx hZ e4 V0 hj2 hi2 (hb hby d4_17) ?_
  show own_Fin _ _ _ _ _ _ _ (T4.setTop (mkF m 18 #[.val (.ref t0), .val (.ref t1), .val (.ref t2)] [(.int (List.getD xs (v2).toNatClampNeg 0)), (.int (List.getD xs (v1).toNatClampNeg 0))]))
  refine own_callS X4 hx hZ hown (hw _ (List.mem_of_getElem? (i := 32) rfl)) (hw _ (List.mem_of_getElem? (i := 33) rfl)) (hw _ (List.mem_of_getElem? (i := 15) rfl)) (hw _ (List.mem_of_getElem? (i := 34) rfl)) (by decide) (rm6 l Z a0 hw (List.getD xs (v1).toNatClampNeg 0) (List.getD xs (v2).toNatClampNeg 0) h0 n0 Z0) e4 (argsL := [(.int (List.getD xs (v1).toNatClampNeg 0)), (.int (List.getD xs (v2).toNatClampNeg 0))]) (rest := []) rfl rfl (by rw [hml]; rfl) (lenOf pd_4_1 rfl) (hb hby d4_18) (W := 0) (Nat.le_of_eq rfl) (by decide) (by decide) (by decide) (by decide) ?_
  rintro v5 T5 L5 X5 ⟨rfl, M5, e5⟩
  have N5 := Fr.app N4 M5
  show own_Fin _ _ _ _ _ _ _ (T5.setTop (mkF m 21 #[.val (.ref t0), .val (.ref t1), .val (.ref t2)] [(.int (own_f6 (List.getD xs (v1).toNatClampNeg 0) (List.getD xs (v2).toNatClampNeg 0)))]))
  exact own_retI X5 hx hlk hret (hb hby d4_21) (by decide) (by decide) ⟨(by rw [own_f4]), N5, e5⟩

theorem own_m31 (a : Int32) : (a &&& (2147483647 : Int32)).toInt = a.toInt % 2147483648 := Jvm.Kit.i32_mask a 2147483647 (k := 31) (by decide) (by decide)
theorem own_mod (a : Int32) : ((a &&& (2147483647 : Int32)) % (3 : Int32)).toInt = (a.toInt % 2147483648) % 3 := by
  rw [Jvm.Kit.i32_rem_nonneg (by rw [own_m31]; omega), own_m31]; rfl
theorem own_lo (a : Int32) : 0 ≤ ((a &&& (2147483647 : Int32)) % (3 : Int32)).toInt := by rw [own_mod]; omega
theorem own_hi (a : Int32) : ((a &&& (2147483647 : Int32)) % (3 : Int32)).toInt < 3 := by rw [own_mod]; omega
theorem own_nneg {x : Int32} (h : 0 ≤ x.toInt) : ¬ x < 0 := by rw [Int32.lt_iff_toInt_lt]; simpa using h
theorem own_lt3 {x : Int32} (h : 0 ≤ x.toInt) (h2 : x.toInt < 3) : x.toNatClampNeg < 3 := by simp only [Int32.toNatClampNeg]; omega
theorem own_q1 {x : Int32} (h : 0 ≤ x.toInt) : ¬ x < (-128 : Int32) := by
  have e : (-128 : Int32).toInt = -128 := by decide
  rw [Int32.lt_iff_toInt_lt, e]; omega
theorem own_q2 {x : Int32} (h : x.toInt < 3) : ¬ (127 : Int32) < x := by
  have e : (127 : Int32).toInt = 127 := by decide
  rw [Int32.lt_iff_toInt_lt, e]; omega
theorem own_box {Z : State} {h0 : Heap} {cA : Addr} {cl : Cell} (B : Bxs Z cA cl "java/lang/Integer" "I" 256 (fun j => .int (j - 128))) (hh : h0 = Z.heap) (x : Int32) (h1 : 0 ≤ x.toInt) (h2 : x.toInt < 3) :
    ∃ b, ¬ ((x + (128 : Int32)) < 0 ∨ cl.slots.size ≤ (x + (128 : Int32)).toNatClampNeg) ∧ cl.slots[(x + (128 : Int32)).toNatClampNeg]? = some (.ref b) ∧ Exa Z h0 b "java/lang/Integer" ∧ Fld Z h0 b "java/lang/Integer" "value" "I" (.int x) := by
  subst hh
  have e8 : (128 : Int32).toInt = 128 := by decide
  have e : (x + (128 : Int32)).toInt = x.toInt + 128 := by rw [Jvm.Kit.i32_add (by rw [e8]; omega) (by rw [e8]; omega), e8]
  have hin : ¬ ((x + (128 : Int32)) < 0 ∨ cl.slots.size ≤ (x + (128 : Int32)).toNatClampNeg) := by
    rw [B.2.1, Int32.lt_iff_toInt_lt, e]
    have e5 : (256 : Int32).toNatClampNeg = 256 := by decide
    have e0 : (0 : Int32).toInt = 0 := by decide
    rw [e5, e0]; simp only [Int32.toNatClampNeg, e]; omega
  obtain ⟨b, b1, b2, b3⟩ := B.2.2.2 _ hin
  refine ⟨b, hin, b1, b2, ?_⟩
  have : x + (128 : Int32) - 128 = x := by rw [Int32.sub_eq_add_neg, Int32.add_assoc]; exact Int32.add_zero x
  simpa only [this] using b3

theorem pd_0_0 : parseMethodDescriptor "([I)V" = some ⟨[(.array .int)], none⟩ := by decide +kernel
theorem pd_0_1 : parseMethodDescriptor "(I)Ljava/lang/Integer;" = some ⟨[.int], some (.object "java/lang/Integer")⟩ := by decide +kernel
theorem pd_0_2 : parseMethodDescriptor "(Ljava/lang/Integer;Ljava/lang/Integer;)I" = some ⟨[(.object "java/lang/Integer"), (.object "java/lang/Integer")], some .int⟩ := by decide +kernel
theorem pd_0_3 : parseMethodDescriptor "(I)I" = some ⟨[.int], some .int⟩ := by decide +kernel
theorem pd_0_4 : parseMethodDescriptor "(II)I" = some ⟨[.int, .int], some .int⟩ := by decide +kernel
theorem pn_0 : plainFor x = true := plainFor_of_name (by show plainName "com/example/conflux/conflux/compose/LowestKeyFirstComparePinLaw" = true; first | (simp [plainName, overriddenIn]; done) | decide +kernel)
theorem ef_0 (m : MethodId) (x0 : Int32) (x1 : Int32) (x2 : Int32) (x3 : Int32) (x4 : Int32) (x5 : Int32) : entryFrame m #[(.int x0), (.int x1), (.int x2), (.int x3), (.int x4), (.int x5)] maxLocals = mkF m 0 #[.val (.int x0), .val (.int x1), .val (.int x2), .val (.int x3), .val (.int x4), .val (.int x5), .unset, .unset, .unset, .unset, .unset, .unset, .unset, .unset] [] := by first | (simp [entryFrame, mkF, argsToLocals, Value.category, maxLocals]; done) | rfl
def own_Q0 (w : Option Value) (n0 : Nat) (v : Option Value) (h : Heap) (L : List Loc) : Prop := v = w ∧ Fr n0 L
def own_f0 (p0 : Int32) (p1 : Int32) (p2 : Int32) (p3 : Int32) (p4 : Int32) (p5 : Int32) : Int32 :=
  if (if (own_f7 (own_f4 [p0, p1, p2] ((p3 &&& (2147483647 : Int32)) % (3 : Int32)) ((p4 &&& (2147483647 : Int32)) % (3 : Int32)))) = (own_f8 (List.getD [p0, p1, p2] (((p3 &&& (2147483647 : Int32)) % (3 : Int32))).toNatClampNeg 0) (List.getD [p0, p1, p2] (((p4 &&& (2147483647 : Int32)) % (3 : Int32))).toNatClampNeg 0)) then (1 : Int32) else (0 : Int32)) = 0 then
    (0 : Int32)
  else
    if (if (own_f7 (own_f4 (List.set [p0, p1, p2] (((p3 &&& (2147483647 : Int32)) % (3 : Int32))).toNatClampNeg p5) ((p3 &&& (2147483647 : Int32)) % (3 : Int32)) ((p4 &&& (2147483647 : Int32)) % (3 : Int32)))) = (own_f8 (List.getD (List.set [p0, p1, p2] (((p3 &&& (2147483647 : Int32)) % (3 : Int32))).toNatClampNeg p5) (((p3 &&& (2147483647 : Int32)) % (3 : Int32))).toNatClampNeg 0) (List.getD (List.set [p0, p1, p2] (((p3 &&& (2147483647 : Int32)) % (3 : Int32))).toNatClampNeg p5) (((p4 &&& (2147483647 : Int32)) % (3 : Int32))).toNatClampNeg 0)) then (1 : Int32) else (0 : Int32)) = 0 then
      (0 : Int32)
    else
      (1 : Int32)
set_option maxRecDepth 65536 in
set_option maxHeartbeats 40000000 in
theorem rm0 (l : Launch) (Z : State) (a0 : Array Value) (hw : ∀ d ∈ tables_1, d.before a0 Z = true) (p0 : Int32) (p1 : Int32) (p2 : Int32) (p3 : Int32) (p4 : Int32) (p5 : Int32) (h0 : Heap) (n0 : Nat) (Z0 : n0 ≤ h0.size) (hh : h0 = Z.heap) (cA : Addr) (cl : Cell) (Sh : Sta Z h0 "java/lang/Integer$IntegerCache" "high" "I" (.int (127 : Int32))) (Sc : Sta Z h0 "java/lang/Integer$IntegerCache" "cache" "[Ljava/lang/Integer;" (.ref cA)) (Ac : Arr Z h0 cA cl (.object "java/lang/Integer")) (B : Bxs Z cA cl "java/lang/Integer" "I" 256 (fun j => .int (j - 128))) :
    own_Met l x code maxLocals ret room_1 Z tables_1 #[(.int p0), (.int p1), (.int p2), (.int p3), (.int p4), (.int p5)] h0 (own_Q0 (some (.int (own_f0 p0 p1 p2 p3 p4 p5))) n0) := by
  refine own_enter pn_0 ?_
  intro p e s m below meth c s₁ hx hby hml hown hnm hret hlk hZ e0 X0
  rw [ef_0]
  have N0 := Fr.nil n0
  have hml : c.maxLocals = 14 := hml
  show own_Fin _ _ _ _ _ _ _ (s₁.setTop (mkF m 0 #[.val (.int p0), .val (.int p1), .val (.int p2), .val (.int p3), .val (.int p4), .val (.int p5), .unset, .unset, .unset, .unset, .unset, .unset, .unset, .unset] []))
  refine own_go (fun _ k => XS.iconst X0.here hx rfl (hb hby at_0) k) ?_
  show own_Fin _ _ _ _ _ _ _ (s₁.setTop (mkF m 1 #[.val (.int p0), .val (.int p1), .val (.int p2), .val (.int p3), .val (.int p4), .val (.int p5), .unset, .unset, .unset, .unset, .unset, .unset, .unset, .unset] [(.int (3 : Int32))]))
  refine own_newI X0 hx hZ (hw _ (List.mem_of_getElem? (i := 0) rfl)) e0 (hb hby at_1) (by decide) (cap := 3) (by decide) (by decide) (by decide) (by decide) ?_
  intro T1 h1 b1 g1 X1 e1 E1 A1 D1
  have g_b1 : n0 ≤ b1 := Nat.le_trans Z0 (Nat.le_of_eq g1.symm)
  have Z1 := Nat.le_trans Z0 E1.1
  have sz_b1 : h0.size ≤ b1 := Nat.le_trans (Keep.refl h0 []).1 (Nat.le_of_eq g1.symm)
  have K1 := (Keep.refl h0 []).ext E1
  have A1 : own_Ar Z h1 b1 .int (List.map Value.int [(0 : Int32), (0 : Int32), (0 : Int32)]) := A1
  show own_Fin _ _ _ _ _ _ _ (T1.setTop (mkF m 3 #[.val (.int p0), .val (.int p1), .val (.int p2), .val (.int p3), .val (.int p4), .val (.int p5), .unset, .unset, .unset, .unset, .unset, .unset, .unset, .unset] [(.ref b1)]))
  refine own_go (fun _ k => XS.astore X1.here hx rfl (hb hby at_3) rfl rfl (l' := #[.val (.int p0), .val (.int p1), .val (.int p2), .val (.int p3), .val (.int p4), .val (.int p5), .val (.ref b1), .unset, .unset, .unset, .unset, .unset, .unset, .unset]) rfl k) ?_
  show own_Fin _ _ _ _ _ _ _ (T1.setTop (mkF m 5 #[.val (.int p0), .val (.int p1), .val (.int p2), .val (.int p3), .val (.int p4), .val (.int p5), .val (.ref b1), .unset, .unset, .unset, .unset, .unset, .unset, .unset] []))
  refine own_new X1 hx hZ hown (hw _ (List.mem_of_getElem? (i := 1) rfl)) (hw _ (List.mem_of_getElem? (i := 2) rfl)) (hw _ (List.mem_of_getElem? (i := 3) rfl)) e1 (hb hby at_5) (by decide) (by decide) ?_
  intro T2 h2 b2 g2 X2 e2 E2 A2 D2
  have g_b2 : n0 ≤ b2 := Nat.le_trans Z1 (Nat.le_of_eq g2.symm)
  have ne_b1_b2 : b1 ≠ b2 := Nat.ne_of_lt (Nat.lt_of_lt_of_le A1.lt (Nat.le_of_eq g2.symm))
  have f3 := A1.ext E2
  have f4 := D1.ext E2
  have Z2 := Nat.le_trans Z1 E2.1
  have sz_b2 : h0.size ≤ b2 := Nat.le_trans K1.1 (Nat.le_of_eq g2.symm)
  have K2 := K1.ext E2
  have F2_keys : Fld Z h2 b2 "com/example/conflux/conflux/compose/LowestKeyFirst" "keys" "[I" .null := D2 (Or.inr (hw _ (List.mem_of_getElem? (i := 11) rfl))) (ty := (.array .int)) (by decide)
  show own_Fin _ _ _ _ _ _ _ (T2.setTop (mkF m 8 #[.val (.int p0), .val (.int p1), .val (.int p2), .val (.int p3), .val (.int p4), .val (.int p5), .val (.ref b1), .unset, .unset, .unset, .unset, .unset, .unset, .unset] [(.ref b2)]))
  refine own_go (fun _ k => XS.dup X2.here hx rfl (hb hby at_8) rfl rfl k) ?_
  show own_Fin _ _ _ _ _ _ _ (T2.setTop (mkF m 9 #[.val (.int p0), .val (.int p1), .val (.int p2), .val (.int p3), .val (.int p4), .val (.int p5), .val (.ref b1), .unset, .unset, .unset, .unset, .unset, .unset, .unset] [(.ref b2), (.ref b2)]))
  refine own_go (fun _ k => XS.aload X2.here hx rfl (hb hby at_9) rfl rfl k) ?_
  show own_Fin _ _ _ _ _ _ _ (T2.setTop (mkF m 11 #[.val (.int p0), .val (.int p1), .val (.int p2), .val (.int p3), .val (.int p4), .val (.int p5), .val (.ref b1), .unset, .unset, .unset, .unset, .unset, .unset, .unset] [(.ref b1), (.ref b2), (.ref b2)]))
  refine own_callN X2 hx hZ rfl hown (hw _ (List.mem_of_getElem? (i := 4) rfl)) (hw _ (List.mem_of_getElem? (i := 5) rfl)) (hw _ (List.mem_of_getElem? (i := 3) rfl)) (hw _ (List.mem_of_getElem? (i := 6) rfl)) (by decide) (rm1 l Z a0 hw b2 b1 h2 n0 Z2 A2 F2_keys g_b2) e2 (a := b2) (argsL := [(.ref b1)]) (rest := [(.ref b2)]) rfl rfl (by rw [hml]; rfl) (lenOf pd_0_0 rfl) (hb hby at_11) (W := 1) (Nat.le_of_eq rfl) (by decide) (by decide) (by decide) (by decide) ?_
  rintro v5 T5 L5 X5 ⟨rfl, M5, Kc5, Fc5⟩
  have N5 := Fr.app N0 M5
  have f6 := f3.keep Kc5 (ninS ne_b1_b2 nin0)
  have f7 := f4.keep Kc5
  have f8 := A2.keep Kc5
  have Z5 := Nat.le_trans Z2 Kc5.1
  have K5 := K2.trans Kc5 (allS (Or.inr sz_b2) all0)
  show own_Fin _ _ _ _ _ _ _ (T5.setTop (mkF m 14 #[.val (.int p0), .val (.int p1), .val (.int p2), .val (.int p3), .val (.int p4), .val (.int p5), .val (.ref b1), .unset, .unset, .unset, .unset, .unset, .unset, .unset] [(.ref b2)]))
  refine own_go (fun _ k => XS.astore X5.here hx rfl (hb hby at_14) rfl rfl (l' := #[.val (.int p0), .val (.int p1), .val (.int p2), .val (.int p3), .val (.int p4), .val (.int p5), .val (.ref b1), .val (.ref b2), .unset, .unset, .unset, .unset, .unset, .unset]) rfl k) ?_
  show own_Fin _ _ _ _ _ _ _ (T5.setTop (mkF m 16 #[.val (.int p0), .val (.int p1), .val (.int p2), .val (.int p3), .val (.int p4), .val (.int p5), .val (.ref b1), .val (.ref b2), .unset, .unset, .unset, .unset, .unset, .unset] []))
  refine own_go (fun _ k => XS.aload X5.here hx rfl (hb hby at_16) rfl rfl k) ?_
  show own_Fin _ _ _ _ _ _ _ (T5.setTop (mkF m 18 #[.val (.int p0), .val (.int p1), .val (.int p2), .val (.int p3), .val (.int p4), .val (.int p5), .val (.ref b1), .val (.ref b2), .unset, .unset, .unset, .unset, .unset, .unset] [(.ref b1)]))
  refine own_go (fun _ k => XS.iconst X5.here hx rfl (hb hby at_18) k) ?_
  show own_Fin _ _ _ _ _ _ _ (T5.setTop (mkF m 19 #[.val (.int p0), .val (.int p1), .val (.int p2), .val (.int p3), .val (.int p4), .val (.int p5), .val (.ref b1), .val (.ref b2), .unset, .unset, .unset, .unset, .unset, .unset] [(.int (0 : Int32)), (.ref b1)]))
  refine own_go (fun _ k => XS.iloadN X5.here hx rfl (hb hby at_19) rfl k) ?_
  show own_Fin _ _ _ _ _ _ _ (T5.setTop (mkF m 20 #[.val (.int p0), .val (.int p1), .val (.int p2), .val (.int p3), .val (.int p4), .val (.int p5), .val (.ref b1), .val (.ref b2), .unset, .unset, .unset, .unset, .unset, .unset] [(.int p0), (.int (0 : Int32)), (.ref b1)]))
  refine own_stI X5 hx hZ rfl f6 (by decide) (by show (0 : Int32).toNatClampNeg < 3; decide) (hb hby at_20) ?_
  intro T9 h9 X9 e9 W9 A9
  have f11 := f7.wr W9
  have f12 := f8.wr W9
  have f13 := Fc5.other W9 (Or.inl (Ne.symm ne_b1_b2))
  have Z9 := Nat.le_trans Z5 (Keep.of_wr W9).1
  have K9 := K5.wr W9 (Or.inr sz_b1)
  have A9 : own_Ar Z h9 b1 .int (List.map Value.int [p0, (0 : Int32), (0 : Int32)]) := A9
  have N9 := Fr.snoc X9 N5 g_b1
  show own_Fin _ _ _ _ _ _ _ (T9.setTop (mkF m 21 #[.val (.int p0), .val (.int p1), .val (.int p2), .val (.int p3), .val (.int p4), .val (.int p5), .val (.ref b1), .val (.ref b2), .unset, .unset, .unset, .unset, .unset, .unset] []))
  refine own_go (fun _ k => XS.aload X9.here hx rfl (hb hby at_21) rfl rfl k) ?_
  show own_Fin _ _ _ _ _ _ _ (T9.setTop (mkF m 23 #[.val (.int p0), .val (.int p1), .val (.int p2), .val (.int p3), .val (.int p4), .val (.int p5), .val (.ref b1), .val (.ref b2), .unset, .unset, .unset, .unset, .unset, .unset] [(.ref b1)]))
  refine own_go (fun _ k => XS.iconst X9.here hx rfl (hb hby at_23) k) ?_
  show own_Fin _ _ _ _ _ _ _ (T9.setTop (mkF m 24 #[.val (.int p0), .val (.int p1), .val (.int p2), .val (.int p3), .val (.int p4), .val (.int p5), .val (.ref b1), .val (.ref b2), .unset, .unset, .unset, .unset, .unset, .unset] [(.int (1 : Int32)), (.ref b1)]))
  refine own_go (fun _ k => XS.iloadN X9.here hx rfl (hb hby at_24) rfl k) ?_
  show own_Fin _ _ _ _ _ _ _ (T9.setTop (mkF m 25 #[.val (.int p0), .val (.int p1), .val (.int p2), .val (.int p3), .val (.int p4), .val (.int p5), .val (.ref b1), .val (.ref b2), .unset, .unset, .unset, .unset, .unset, .unset] [(.int p1), (.int (1 : Int32)), (.ref b1)]))
  refine own_stI X9 hx hZ e9 A9 (by decide) (by show (1 : Int32).toNatClampNeg < 3; decide) (hb hby at_25) ?_
  intro T14 h14 X14 e14 W14 A14
  have f16 := f11.wr W14
  have f17 := f12.wr W14
  have f18 := f13.other W14 (Or.inl (Ne.symm ne_b1_b2))
  have Z14 := Nat.le_trans Z9 (Keep.of_wr W14).1
  have K14 := K9.wr W14 (Or.inr sz_b1)
  have A14 : own_Ar Z h14 b1 .int (List.map Value.int [p0, p1, (0 : Int32)]) := A14
  have N14 := Fr.snoc X14 N9 g_b1
  show own_Fin _ _ _ _ _ _ _ (T14.setTop (mkF m 26 #[.val (.int p0), .val (.int p1), .val (.int p2), .val (.int p3), .val (.int p4), .val (.int p5), .val (.ref b1), .val (.ref b2), .unset, .unset, .unset, .unset, .unset, .unset] []))
  refine own_go (fun _ k => XS.aload X14.here hx rfl (hb hby at_26) rfl rfl k) ?_
  show own_Fin _ _ _ _ _ _ _ (T14.setTop (mkF m 28 #[.val (.int p0), .val (.int p1), .val (.int p2), .val (.int p3), .val (.int p4), .val (.int p5), .val (.ref b1), .val (.ref b2), .unset, .unset, .unset, .unset, .unset, .unset] [(.ref b1)]))
  refine own_go (fun _ k => XS.iconst X14.here hx rfl (hb hby at_28) k) ?_
  show own_Fin _ _ _ _ _ _ _ (T14.setTop (mkF m 29 #[.val (.int p0), .val (.int p1), .val (.int p2), .val (.int p3), .val (.int p4), .val (.int p5), .val (.ref b1), .val (.ref b2), .unset, .unset, .unset, .unset, .unset, .unset] [(.int (2 : Int32)), (.ref b1)]))
  refine own_go (fun _ k => XS.iloadN X14.here hx rfl (hb hby at_29) rfl k) ?_
  show own_Fin _ _ _ _ _ _ _ (T14.setTop (mkF m 30 #[.val (.int p0), .val (.int p1), .val (.int p2), .val (.int p3), .val (.int p4), .val (.int p5), .val (.ref b1), .val (.ref b2), .unset, .unset, .unset, .unset, .unset, .unset] [(.int p2), (.int (2 : Int32)), (.ref b1)]))
  refine own_stI X14 hx hZ e14 A14 (by decide) (by show (2 : Int32).toNatClampNeg < 3; decide) (hb hby at_30) ?_
  intro T19 h19 X19 e19 W19 A19
  have f21 := f16.wr W19
  have f22 := f17.wr W19
  have f23 := f18.other W19 (Or.inl (Ne.symm ne_b1_b2))
  have Z19 := Nat.le_trans Z14 (Keep.of_wr W19).1
  have K19 := K14.wr W19 (Or.inr sz_b1)
  have A19 : own_Ar Z h19 b1 .int (List.map Value.int [p0, p1, p2]) := A19
  have N19 := Fr.snoc X19 N14 g_b1
  show own_Fin _ _ _ _ _ _ _ (T19.setTop (mkF m 31 #[.val (.int p0), .val (.int p1), .val (.int p2), .val (.int p3), .val (.int p4), .val (.int p5), .val (.ref b1), .val (.ref b2), .unset, .unset, .unset, .unset, .unset, .unset] []))
  refine own_go (fun _ k => XS.iloadN X19.here hx rfl (hb hby at_31) rfl k) ?_
  show own_Fin _ _ _ _ _ _ _ (T19.setTop (mkF m 32 #[.val (.int p0), .val (.int p1), .val (.int p2), .val (.int p3), .val (.int p4), .val (.int p5), .val (.ref b1), .val (.ref b2), .unset, .unset, .unset, .unset, .unset, .unset] [(.int p3)]))
  refine own_go (fun _ k => X19.ldcI hx hown (mvT hZ (hw _ (List.mem_of_getElem? (i := 12) rfl))) rfl (hb hby at_32) k) ?_
  show own_Fin _ _ _ _ _ _ _ (T19.setTop (mkF m 34 #[.val (.int p0), .val (.int p1), .val (.int p2), .val (.int p3), .val (.int p4), .val (.int p5), .val (.ref b1), .val (.ref b2), .unset, .unset, .unset, .unset, .unset, .unset] [(.int (2147483647 : Int32)), (.int p3)]))
  refine own_go (fun _ k => XS.iand X19.here hx rfl (hb hby at_34) rfl k) ?_
  show own_Fin _ _ _ _ _ _ _ (T19.setTop (mkF m 35 #[.val (.int p0), .val (.int p1), .val (.int p2), .val (.int p3), .val (.int p4), .val (.int p5), .val (.ref b1), .val (.ref b2), .unset, .unset, .unset, .unset, .unset, .unset] [(.int (p3 &&& (2147483647 : Int32)))]))
  refine own_go (fun _ k => XS.iconst X19.here hx rfl (hb hby at_35) k) ?_
  show own_Fin _ _ _ _ _ _ _ (T19.setTop (mkF m 36 #[.val (.int p0), .val (.int p1), .val (.int p2), .val (.int p3), .val (.int p4), .val (.int p5), .val (.ref b1), .val (.ref b2), .unset, .unset, .unset, .unset, .unset, .unset] [(.int (3 : Int32)), (.int (p3 &&& (2147483647 : Int32)))]))
  refine own_go (fun _ k => iremM X19 hx rfl (hb hby at_36) rfl (by decide) k) ?_
  show own_Fin _ _ _ _ _ _ _ (T19.setTop (mkF m 37 #[.val (.int p0), .val (.int p1), .val (.int p2), .val (.int p3), .val (.int p4), .val (.int p5), .val (.ref b1), .val (.ref b2), .unset, .unset, .unset, .unset, .unset, .unset] [(.int ((p3 &&& (2147483647 : Int32)) % (3 : Int32)))]))
  refine own_go (fun _ k => XS.istore X19.here hx rfl (hb hby at_37) rfl (l' := #[.val (.int p0), .val (.int p1), .val (.int p2), .val (.int p3), .val (.int p4), .val (.int p5), .val (.ref b1), .val (.ref b2), .val (.int ((p3 &&& (2147483647 : Int32)) % (3 : Int32))), .unset, .unset, .unset, .unset, .unset]) rfl k) ?_
  show own_Fin _ _ _ _ _ _ _ (T19.setTop (mkF m 39 #[.val (.int p0), .val (.int p1), .val (.int p2), .val (.int p3), .val (.int p4), .val (.int p5), .val (.ref b1), .val (.ref b2), .val (.int ((p3 &&& (2147483647 : Int32)) % (3 : Int32))), .unset, .unset, .unset, .unset, .unset] []))
  refine own_go (fun _ k => XS.iload X19.here hx rfl (hb hby at_39) rfl k) ?_
  show own_Fin _ _ _ _ _ _ _ (T19.setTop (mkF m 41 #[.val (.int p0), .val (.int p1), .val (.int p2), .val (.int p3), .val (.int p4), .val (.int p5), .val (.ref b1), .val (.ref b2), .val (.int ((p3 &&& (2147483647 : Int32)) % (3 : Int32))), .unset, .unset, .unset, .unset, .unset] [(.int p4)]))
  refine own_go (fun _ k => X19.ldcI hx hown (mvT hZ (hw _ (List.mem_of_getElem? (i := 12) rfl))) rfl (hb hby at_41) k) ?_
  show own_Fin _ _ _ _ _ _ _ (T19.setTop (mkF m 43 #[.val (.int p0), .val (.int p1), .val (.int p2), .val (.int p3), .val (.int p4), .val (.int p5), .val (.ref b1), .val (.ref b2), .val (.int ((p3 &&& (2147483647 : Int32)) % (3 : Int32))), .unset, .unset, .unset, .unset, .unset] [(.int (2147483647 : Int32)), (.int p4)]))
  refine own_go (fun _ k => XS.iand X19.here hx rfl (hb hby at_43) rfl k) ?_
  show own_Fin _ _ _ _ _ _ _ (T19.setTop (mkF m 44 #[.val (.int p0), .val (.int p1), .val (.int p2), .val (.int p3), .val (.int p4), .val (.int p5), .val (.ref b1), .val (.ref b2), .val (.int ((p3 &&& (2147483647 : Int32)) % (3 : Int32))), .unset, .unset, .unset, .unset, .unset] [(.int (p4 &&& (2147483647 : Int32)))]))
  refine own_go (fun _ k => XS.iconst X19.here hx rfl (hb hby at_44) k) ?_
  show own_Fin _ _ _ _ _ _ _ (T19.setTop (mkF m 45 #[.val (.int p0), .val (.int p1), .val (.int p2), .val (.int p3), .val (.int p4), .val (.int p5), .val (.ref b1), .val (.ref b2), .val (.int ((p3 &&& (2147483647 : Int32)) % (3 : Int32))), .unset, .unset, .unset, .unset, .unset] [(.int (3 : Int32)), (.int (p4 &&& (2147483647 : Int32)))]))
  refine own_go (fun _ k => iremM X19 hx rfl (hb hby at_45) rfl (by decide) k) ?_
  show own_Fin _ _ _ _ _ _ _ (T19.setTop (mkF m 46 #[.val (.int p0), .val (.int p1), .val (.int p2), .val (.int p3), .val (.int p4), .val (.int p5), .val (.ref b1), .val (.ref b2), .val (.int ((p3 &&& (2147483647 : Int32)) % (3 : Int32))), .unset, .unset, .unset, .unset, .unset] [(.int ((p4 &&& (2147483647 : Int32)) % (3 : Int32)))]))
  refine own_go (fun _ k => XS.istore X19.here hx rfl (hb hby at_46) rfl (l' := #[.val (.int p0), .val (.int p1), .val (.int p2), .val (.int p3), .val (.int p4), .val (.int p5), .val (.ref b1), .val (.ref b2), .val (.int ((p3 &&& (2147483647 : Int32)) % (3 : Int32))), .val (.int ((p4 &&& (2147483647 : Int32)) % (3 : Int32))), .unset, .unset, .unset, .unset]) rfl k) ?_
  show own_Fin _ _ _ _ _ _ _ (T19.setTop (mkF m 48 #[.val (.int p0), .val (.int p1), .val (.int p2), .val (.int p3), .val (.int p4), .val (.int p5), .val (.ref b1), .val (.ref b2), .val (.int ((p3 &&& (2147483647 : Int32)) % (3 : Int32))), .val (.int ((p4 &&& (2147483647 : Int32)) % (3 : Int32))), .unset, .unset, .unset, .unset] []))
  refine own_go (fun _ k => XS.aload X19.here hx rfl (hb hby at_48) rfl rfl k) ?_
  show own_Fin _ _ _ _ _ _ _ (T19.setTop (mkF m 50 #[.val (.int p0), .val (.int p1), .val (.int p2), .val (.int p3), .val (.int p4), .val (.int p5), .val (.ref b1), .val (.ref b2), .val (.int ((p3 &&& (2147483647 : Int32)) % (3 : Int32))), .val (.int ((p4 &&& (2147483647 : Int32)) % (3 : Int32))), .unset, .unset, .unset, .unset] [(.ref b2)]))
  refine own_go (fun _ k => XS.iload X19.here hx rfl (hb hby at_50) rfl k) ?_
  show own_Fin _ _ _ _ _ _ _ (T19.setTop (mkF m 52 #[.val (.int p0), .val (.int p1), .val (.int p2), .val (.int p3), .val (.int p4), .val (.int p5), .val (.ref b1), .val (.ref b2), .val (.int ((p3 &&& (2147483647 : Int32)) % (3 : Int32))), .val (.int ((p4 &&& (2147483647 : Int32)) % (3 : Int32))), .unset, .unset, .unset, .unset] [(.int ((p3 &&& (2147483647 : Int32)) % (3 : Int32))), (.ref b2)]))
  obtain ⟨z52, hi_z52, ha_z52, hE_z52, hF_z52⟩ := own_box B hh ((p3 &&& (2147483647 : Int32)) % (3 : Int32)) (own_lo _) (own_hi _)
  refine own_callS X19 hx hZ hown (hw _ (List.mem_of_getElem? (i := 13) rfl)) (hw _ (List.mem_of_getElem? (i := 14) rfl)) (hw _ (List.mem_of_getElem? (i := 15) rfl)) (hw _ (List.mem_of_getElem? (i := 16) rfl)) (by decide) (rm3 l Z a0 hw ((p3 &&& (2147483647 : Int32)) % (3 : Int32)) h19 n0 Z19 z52 cA cl (own_Sta_keep0 Sh K19) (own_Sta_keep0 Sc K19) (own_Arr_keep0 Ac K19) (own_q1 (own_lo _)) (own_q2 (own_hi _)) hi_z52 ha_z52) e19 (argsL := [(.int ((p3 &&& (2147483647 : Int32)) % (3 : Int32)))]) (rest := [(.ref b2)]) rfl rfl (by rw [hml]; rfl) (lenOf pd_0_1 rfl) (hb hby at_52) (W := 1) (Nat.le_of_eq rfl) (by decide) (by decide) (by decide) (by decide) ?_
  rintro v24 T24 L24 X24 ⟨rfl, M24, e24⟩
  have N24 := Fr.app N19 M24
  show own_Fin _ _ _ _ _ _ _ (T24.setTop (mkF m 55 #[.val (.int p0), .val (.int p1), .val (.int p2), .val (.int p3), .val (.int p4), .val (.int p5), .val (.ref b1), .val (.ref b2), .val (.int ((p3 &&& (2147483647 : Int32)) % (3 : Int32))), .val (.int ((p4 &&& (2147483647 : Int32)) % (3 : Int32))), .unset, .unset, .unset, .unset] [(.ref z52), (.ref b2)]))
  refine own_go (fun _ k => XS.iload X24.here hx rfl (hb hby at_55) rfl k) ?_
  show own_Fin _ _ _ _ _ _ _ (T24.setTop (mkF m 57 #[.val (.int p0), .val (.int p1), .val (.int p2), .val (.int p3), .val (.int p4), .val (.int p5), .val (.ref b1), .val (.ref b2), .val (.int ((p3 &&& (2147483647 : Int32)) % (3 : Int32))), .val (.int ((p4 &&& (2147483647 : Int32)) % (3 : Int32))), .unset, .unset, .unset, .unset] [(.int ((p4 &&& (2147483647 : Int32)) % (3 : Int32))), (.ref z52), (.ref b2)]))
  obtain ⟨z57, hi_z57, ha_z57, hE_z57, hF_z57⟩ := own_box B hh ((p4 &&& (2147483647 : Int32)) % (3 : Int32)) (own_lo _) (own_hi _)
  refine own_callS X24 hx hZ hown (hw _ (List.mem_of_getElem? (i := 13) rfl)) (hw _ (List.mem_of_getElem? (i := 14) rfl)) (hw _ (List.mem_of_getElem? (i := 15) rfl)) (hw _ (List.mem_of_getElem? (i := 16) rfl)) (by decide) (rm3 l Z a0 hw ((p4 &&& (2147483647 : Int32)) % (3 : Int32)) h19 n0 Z19 z57 cA cl (own_Sta_keep0 Sh K19) (own_Sta_keep0 Sc K19) (own_Arr_keep0 Ac K19) (own_q1 (own_lo _)) (own_q2 (own_hi _)) hi_z57 ha_z57) e24 (argsL := [(.int ((p4 &&& (2147483647 : Int32)) % (3 : Int32)))]) (rest := [(.ref z52), (.ref b2)]) rfl rfl (by rw [hml]; rfl) (lenOf pd_0_1 rfl) (hb hby at_57) (W := 2) (Nat.le_of_eq rfl) (by decide) (by decide) (by decide) (by decide) ?_
  rintro v25 T25 L25 X25 ⟨rfl, M25, e25⟩
  have N25 := Fr.app N24 M25
  show own_Fin _ _ _ _ _ _ _ (T25.setTop (mkF m 60 #[.val (.int p0), .val (.int p1), .val (.int p2), .val (.int p3), .val (.int p4), .val (.int p5), .val (.ref b1), .val (.ref b2), .val (.int ((p3 &&& (2147483647 : Int32)) % (3 : Int32))), .val (.int ((p4 &&& (2147483647 : Int32)) % (3 : Int32))), .unset, .unset, .unset, .unset] [(.ref z57), (.ref z52), (.ref b2)]))
  refine own_callV X25 hx hZ hown (hw _ (List.mem_of_getElem? (i := 20) rfl)) (hw _ (List.mem_of_getElem? (i := 21) rfl)) (notFace_of_selects (args := #[]) (mvT hZ (hw _ (List.mem_of_getElem? (i := 23) rfl)))) (hw _ (List.mem_of_getElem? (i := 23) rfl)) (hw _ (List.mem_of_getElem? (i := 22) rfl)) (hw _ (List.mem_of_getElem? (i := 24) rfl)) (hw _ (List.mem_of_getElem? (i := 3) rfl)) (by decide) (rm4 l Z a0 hw b2 z52 z57 h19 n0 Z19 b1 [p0, p1, p2] ((p3 &&& (2147483647 : Int32)) % (3 : Int32)) ((p4 &&& (2147483647 : Int32)) % (3 : Int32)) f23 A19 (hE_z52.keep K19) (hF_z52.keep K19 nin0) (own_nneg (own_lo _)) (own_lt3 (own_lo _) (own_hi _)) (hE_z57.keep K19) (hF_z57.keep K19 nin0) (own_nneg (own_lo _)) (own_lt3 (own_lo _) (own_hi _))) e25 f22 (argsL := [(.ref z52), (.ref z57)]) (rest := []) rfl rfl (by rw [hml]; rfl) (lenOf pd_0_2 rfl) (hb hby at_60) (W := 0) (Nat.le_of_eq rfl) (by decide) (by decide) (by decide) (by decide) ?_
  rintro v26 T26 L26 X26 ⟨rfl, M26, e26⟩
  have N26 := Fr.app N25 M26
  show own_Fin _ _ _ _ _ _ _ (T26.setTop (mkF m 63 #[.val (.int p0), .val (.int p1), .val (.int p2), .val (.int p3), .val (.int p4), .val (.int p5), .val (.ref b1), .val (.ref b2), .val (.int ((p3 &&& (2147483647 : Int32)) % (3 : Int32))), .val (.int ((p4 &&& (2147483647 : Int32)) % (3 : Int32))), .unset, .unset, .unset, .unset] [(.int (own_f4 [p0, p1, p2] ((p3 &&& (2147483647 : Int32)) % (3 : Int32)) ((p4 &&& (2147483647 : Int32)) % (3 : Int32))))]))
  refine own_go (fun _ k => XS.istore X26.here hx rfl (hb hby at_63) rfl (l' := #[.val (.int p0), .val (.int p1), .val (.int p2), .val (.int p3), .val (.int p4), .val (.int p5), .val (.ref b1), .val (.ref b2), .val (.int ((p3 &&& (2147483647 : Int32)) % (3 : Int32))), .val (.int ((p4 &&& (2147483647 : Int32)) % (3 : Int32))), .val (.int (own_f4 [p0, p1, p2] ((p3 &&& (2147483647 : Int32)) % (3 : Int32)) ((p4 &&& (2147483647 : Int32)) % (3 : Int32)))), .unset, .unset, .unset]) rfl k) ?_
  show own_Fin _ _ _ _ _ _ _ (T26.setTop (mkF m 65 #[.val (.int p0), .val (.int p1), .val (.int p2), .val (.int p3), .val (.int p4), .val (.int p5), .val (.ref b1), .val (.ref b2), .val (.int ((p3 &&& (2147483647 : Int32)) % (3 : Int32))), .val (.int ((p4 &&& (2147483647 : Int32)) % (3 : Int32))), .val (.int (own_f4 [p0, p1, p2] ((p3 &&& (2147483647 : Int32)) % (3 : Int32)) ((p4 &&& (2147483647 : Int32)) % (3 : Int32)))), .unset, .unset, .unset] []))
  refine own_go (fun _ k => XS.iload X26.here hx rfl (hb hby at_65) rfl k) ?_
  show own_Fin _ _ _ _ _ _ _ (T26.setTop (mkF m 67 #[.val (.int p0), .val (.int p1), .val (.int p2), .val (.int p3), .val (.int p4), .val (.int p5), .val (.ref b1), .val (.ref b2), .val (.int ((p3 &&& (2147483647 : Int32)) % (3 : Int32))), .val (.int ((p4 &&& (2147483647 : Int32)) % (3 : Int32))), .val (.int (own_f4 [p0, p1, p2] ((p3 &&& (2147483647 : Int32)) % (3 : Int32)) ((p4 &&& (2147483647 : Int32)) % (3 : Int32)))), .unset, .unset, .unset] [(.int (own_f4 [p0, p1, p2] ((p3 &&& (2147483647 : Int32)) % (3 : Int32)) ((p4 &&& (2147483647 : Int32)) % (3 : Int32))))]))
  refine own_callS X26 hx hZ hown (hw _ (List.mem_of_getElem? (i := 35) rfl)) (hw _ (List.mem_of_getElem? (i := 36) rfl)) (hw _ (List.mem_of_getElem? (i := 37) rfl)) (hw _ (List.mem_of_getElem? (i := 38) rfl)) (by decide) (rm7 l Z a0 hw (own_f4 [p0, p1, p2] ((p3 &&& (2147483647 : Int32)) % (3 : Int32)) ((p4 &&& (2147483647 : Int32)) % (3 : Int32))) h19 n0 Z19) e26 (argsL := [(.int (own_f4 [p0, p1, p2] ((p3 &&& (2147483647 : Int32)) % (3 : Int32)) ((p4 &&& (2147483647 : Int32)) % (3 : Int32))))]) (rest := []) rfl rfl (by rw [hml]; rfl) (lenOf pd_0_3 rfl) (hb hby at_67) (W := 0) (Nat.le_of_eq rfl) (by decide) (by decide) (by decide) (by decide) ?_
  rintro v27 T27 L27 X27 ⟨rfl, M27, e27⟩
  have N27 := Fr.app N26 M27
  show own_Fin _ _ _ _ _ _ _ (T27.setTop (mkF m 70 #[.val (.int p0), .val (.int p1), .val (.int p2), .val (.int p3), .val (.int p4), .val (.int p5), .val (.ref b1), .val (.ref b2), .val (.int ((p3 &&& (2147483647 : Int32)) % (3 : Int32))), .val (.int ((p4 &&& (2147483647 : Int32)) % (3 : Int32))), .val (.int (own_f4 [p0, p1, p2] ((p3 &&& (2147483647 : Int32)) % (3 : Int32)) ((p4 &&& (2147483647 : Int32)) % (3 : Int32)))), .unset, .unset, .unset] [(.int (own_f7 (own_f4 [p0, p1, p2] ((p3 &&& (2147483647 : Int32)) % (3 : Int32)) ((p4 &&& (2147483647 : Int32)) % (3 : Int32)))))]))
  refine own_go (fun _ k => XS.aload X27.here hx rfl (hb hby at_70) rfl rfl k) ?_
  show own_Fin _ _ _ _ _ _ _ (T27.setTop (mkF m 72 #[.val (.int p0), .val (.int p1), .val (.int p2), .val (.int p3), .val (.int p4), .val (.int p5), .val (.ref b1), .val (.ref b2), .val (.int ((p3 &&& (2147483647 : Int32)) % (3 : Int32))), .val (.int ((p4 &&& (2147483647 : Int32)) % (3 : Int32))), .val (.int (own_f4 [p0, p1, p2] ((p3 &&& (2147483647 : Int32)) % (3 : Int32)) ((p4 &&& (2147483647 : Int32)) % (3 : Int32)))), .unset, .unset, .unset] [(.ref b1), (.int (own_f7 (own_f4 [p0, p1, p2] ((p3 &&& (2147483647 : Int32)) % (3 : Int32)) ((p4 &&& (2147483647 : Int32)) % (3 : Int32)))))]))
  refine own_go (fun _ k => XS.iload X27.here hx rfl (hb hby at_72) rfl k) ?_
  show own_Fin _ _ _ _ _ _ _ (T27.setTop (mkF m 74 #[.val (.int p0), .val (.int p1), .val (.int p2), .val (.int p3), .val (.int p4), .val (.int p5), .val (.ref b1), .val (.ref b2), .val (.int ((p3 &&& (2147483647 : Int32)) % (3 : Int32))), .val (.int ((p4 &&& (2147483647 : Int32)) % (3 : Int32))), .val (.int (own_f4 [p0, p1, p2] ((p3 &&& (2147483647 : Int32)) % (3 : Int32)) ((p4 &&& (2147483647 : Int32)) % (3 : Int32)))), .unset, .unset, .unset] [(.int ((p3 &&& (2147483647 : Int32)) % (3 : Int32))), (.ref b1), (.int (own_f7 (own_f4 [p0, p1, p2] ((p3 &&& (2147483647 : Int32)) % (3 : Int32)) ((p4 &&& (2147483647 : Int32)) % (3 : Int32)))))]))
  refine own_ldI X27 hx hZ e27 A19 (own_nneg (own_lo _)) (own_lt3 (own_lo _) (own_hi _)) (hb hby at_74) ?_
  show own_Fin _ _ _ _ _ _ _ (T27.setTop (mkF m 75 #[.val (.int p0), .val (.int p1), .val (.int p2), .val (.int p3), .val (.int p4), .val (.int p5), .val (.ref b1), .val (.ref b2), .val (.int ((p3 &&& (2147483647 : Int32)) % (3 : Int32))), .val (.int ((p4 &&& (2147483647 : Int32)) % (3 : Int32))), .val (.int (own_f4 [p0, p1, p2] ((p3 &&& (2147483647 : Int32)) % (3 : Int32)) ((p4 &&& (2147483647 : Int32)) % (3 : Int32)))), .unset, .unset, .unset] [(.int (List.getD [p0, p1, p2] (((p3 &&& (2147483647 : Int32)) % (3 : Int32))).toNatClampNeg 0)), (.int (own_f7 (own_f4 [p0, p1, p2] ((p3 &&& (2147483647 : Int32)) % (3 : Int32)) ((p4 &&& (2147483647 : Int32)) % (3 : Int32)))))]))
  refine own_go (fun _ k => XS.aload X27.here hx rfl (hb hby at_75) rfl rfl k) ?_
  show own_Fin _ _ _ _ _ _ _ (T27.setTop (mkF m 77 #[.val (.int p0), .val (.int p1), .val (.int p2), .val (.int p3), .val (.int p4), .val (.int p5), .val (.ref b1), .val (.ref b2), .val (.int ((p3 &&& (2147483647 : Int32)) % (3 : Int32))), .val (.int ((p4 &&& (2147483647 : Int32)) % (3 : Int32))), .val (.int (own_f4 [p0, p1, p2] ((p3 &&& (2147483647 : Int32)) % (3 : Int32)) ((p4 &&& (2147483647 : Int32)) % (3 : Int32)))), .unset, .unset, .unset] [(.ref b1), (.int (List.getD [p0, p1, p2] (((p3 &&& (2147483647 : Int32)) % (3 : Int32))).toNatClampNeg 0)), (.int (own_f7 (own_f4 [p0, p1, p2] ((p3 &&& (2147483647 : Int32)) % (3 : Int32)) ((p4 &&& (2147483647 : Int32)) % (3 : Int32)))))]))
  refine own_go (fun _ k => XS.iload X27.here hx rfl (hb hby at_77) rfl k) ?_
  show own_Fin _ _ _ _ _ _ _ (T27.setTop (mkF m 79 #[.val (.int p0), .val (.int p1), .val (.int p2), .val (.int p3), .val (.int p4), .val (.int p5), .val (.ref b1), .val (.ref b2), .val (.int ((p3 &&& (2147483647 : Int32)) % (3 : Int32))), .val (.int ((p4 &&& (2147483647 : Int32)) % (3 : Int32))), .val (.int (own_f4 [p0, p1, p2] ((p3 &&& (2147483647 : Int32)) % (3 : Int32)) ((p4 &&& (2147483647 : Int32)) % (3 : Int32)))), .unset, .unset, .unset] [(.int ((p4 &&& (2147483647 : Int32)) % (3 : Int32))), (.ref b1), (.int (List.getD [p0, p1, p2] (((p3 &&& (2147483647 : Int32)) % (3 : Int32))).toNatClampNeg 0)), (.int (own_f7 (own_f4 [p0, p1, p2] ((p3 &&& (2147483647 : Int32)) % (3 : Int32)) ((p4 &&& (2147483647 : Int32)) % (3 : Int32)))))]))
  refine own_ldI X27 hx hZ e27 A19 (own_nneg (own_lo _)) (own_lt3 (own_lo _) (own_hi _)) (hb hby at_79) ?_
  show own_Fin _ _ _ _ _ _ _ (T27.setTop (mkF m 80 #[.val (.int p0), .val (.int p1), .val (.int p2), .val (.int p3), .val (.int p4), .val (.int p5), .val (.ref b1), .val (.ref b2), .val (.int ((p3 &&& (2147483647 : Int32)) % (3 : Int32))), .val (.int ((p4 &&& (2147483647 : Int32)) % (3 : Int32))), .val (.int (own_f4 [p0, p1, p2] ((p3 &&& (2147483647 : Int32)) % (3 : Int32)) ((p4 &&& (2147483647 : Int32)) % (3 : Int32)))), .unset, .unset, .unset] [(.int (List.getD [p0, p1, p2] (((p4 &&& (2147483647 : Int32)) % (3 : Int32))).toNatClampNeg 0)), (.int (List.getD [p0, p1, p2] (((p3 &&& (2147483647 : Int32)) % (3 : Int32))).toNatClampNeg 0)), (.int (own_f7 (own_f4 [p0, p1, p2] ((p3 &&& (2147483647 : Int32)) % (3 : Int32)) ((p4 &&& (2147483647 : Int32)) % (3 : Int32)))))]))
  refine own_callS X27 hx hZ hown (hw _ (List.mem_of_getElem? (i := 39) rfl)) (hw _ (List.mem_of_getElem? (i := 40) rfl)) (hw _ (List.mem_of_getElem? (i := 37) rfl)) (hw _ (List.mem_of_getElem? (i := 41) rfl)) (by decide) (rm8 l Z a0 hw (List.getD [p0, p1, p2] (((p3 &&& (2147483647 : Int32)) % (3 : Int32))).toNatClampNeg 0) (List.getD [p0, p1, p2] (((p4 &&& (2147483647 : Int32)) % (3 : Int32))).toNatClampNeg 0) h19 n0 Z19) e27 (argsL := [(.int (List.getD [p0, p1, p2] (((p3 &&& (2147483647 : Int32)) % (3 : Int32))).toNatClampNeg 0)), (.int (List.getD [p0, p1, p2] (((p4 &&& (2147483647 : Int32)) % (3 : Int32))).toNatClampNeg 0))]) (rest := [(.int (own_f7 (own_f4 [p0, p1, p2] ((p3 &&& (2147483647 : Int32)) % (3 : Int32)) ((p4 &&& (2147483647 : Int32)) % (3 : Int32)))))]) rfl rfl (by rw [hml]; rfl) (lenOf pd_0_4 rfl) (hb hby at_80) (W := 1) (Nat.le_of_eq rfl) (by decide) (by decide) (by decide) (by decide) ?_
  rintro v28 T28 L28 X28 ⟨rfl, M28, e28⟩
  have N28 := Fr.app N27 M28
  show own_Fin _ _ _ _ _ _ _ (T28.setTop (mkF m 83 #[.val (.int p0), .val (.int p1), .val (.int p2), .val (.int p3), .val (.int p4), .val (.int p5), .val (.ref b1), .val (.ref b2), .val (.int ((p3 &&& (2147483647 : Int32)) % (3 : Int32))), .val (.int ((p4 &&& (2147483647 : Int32)) % (3 : Int32))), .val (.int (own_f4 [p0, p1, p2] ((p3 &&& (2147483647 : Int32)) % (3 : Int32)) ((p4 &&& (2147483647 : Int32)) % (3 : Int32)))), .unset, .unset, .unset] [(.int (own_f8 (List.getD [p0, p1, p2] (((p3 &&& (2147483647 : Int32)) % (3 : Int32))).toNatClampNeg 0) (List.getD [p0, p1, p2] (((p4 &&& (2147483647 : Int32)) % (3 : Int32))).toNatClampNeg 0))), (.int (own_f7 (own_f4 [p0, p1, p2] ((p3 &&& (2147483647 : Int32)) % (3 : Int32)) ((p4 &&& (2147483647 : Int32)) % (3 : Int32)))))]))
  refine own_go (U' := T28.setTop (mkF m 91 #[.val (.int p0), .val (.int p1), .val (.int p2), .val (.int p3), .val (.int p4), .val (.int p5), .val (.ref b1), .val (.ref b2), .val (.int ((p3 &&& (2147483647 : Int32)) % (3 : Int32))), .val (.int ((p4 &&& (2147483647 : Int32)) % (3 : Int32))), .val (.int (own_f4 [p0, p1, p2] ((p3 &&& (2147483647 : Int32)) % (3 : Int32)) ((p4 &&& (2147483647 : Int32)) % (3 : Int32)))), .unset, .unset, .unset] [(.int (if (own_f7 (own_f4 [p0, p1, p2] ((p3 &&& (2147483647 : Int32)) % (3 : Int32)) ((p4 &&& (2147483647 : Int32)) % (3 : Int32)))) = (own_f8 (List.getD [p0, p1, p2] (((p3 &&& (2147483647 : Int32)) % (3 : Int32))).toNatClampNeg 0) (List.getD [p0, p1, p2] (((p4 &&& (2147483647 : Int32)) % (3 : Int32))).toNatClampNeg 0)) then (1 : Int32) else (0 : Int32)))])) (fun t k => ?_) ?_
  · by_cases hd83 : (own_f7 (own_f4 [p0, p1, p2] ((p3 &&& (2147483647 : Int32)) % (3 : Int32)) ((p4 &&& (2147483647 : Int32)) % (3 : Int32)))) = (own_f8 (List.getD [p0, p1, p2] (((p3 &&& (2147483647 : Int32)) % (3 : Int32))).toNatClampNeg 0) (List.getD [p0, p1, p2] (((p4 &&& (2147483647 : Int32)) % (3 : Int32))).toNatClampNeg 0))
    · simp only [if_pos hd83] at k
      refine XS.icmpNo X28.here hx rfl (hb hby at_83) rfl (XT.ii_ne_f hd83) ?_
      show Steps p.tables e below (T28.setTop (mkF m 86 #[.val (.int p0), .val (.int p1), .val (.int p2), .val (.int p3), .val (.int p4), .val (.int p5), .val (.ref b1), .val (.ref b2), .val (.int ((p3 &&& (2147483647 : Int32)) % (3 : Int32))), .val (.int ((p4 &&& (2147483647 : Int32)) % (3 : Int32))), .val (.int (own_f4 [p0, p1, p2] ((p3 &&& (2147483647 : Int32)) % (3 : Int32)) ((p4 &&& (2147483647 : Int32)) % (3 : Int32)))), .unset, .unset, .unset] [])) _
      refine XS.iconst X28.here hx rfl (hb hby at_86) ?_
      show Steps p.tables e below (T28.setTop (mkF m 87 #[.val (.int p0), .val (.int p1), .val (.int p2), .val (.int p3), .val (.int p4), .val (.int p5), .val (.ref b1), .val (.ref b2), .val (.int ((p3 &&& (2147483647 : Int32)) % (3 : Int32))), .val (.int ((p4 &&& (2147483647 : Int32)) % (3 : Int32))), .val (.int (own_f4 [p0, p1, p2] ((p3 &&& (2147483647 : Int32)) % (3 : Int32)) ((p4 &&& (2147483647 : Int32)) % (3 : Int32)))), .unset, .unset, .unset] [(.int (1 : Int32))])) _
      refine XS.goto X28.here hx rfl (pc0 := 87) (pc' := 91) rfl (hb hby at_87) (by decide) (by decide) ?_
      show Steps p.tables e below (T28.setTop (mkF m 91 #[.val (.int p0), .val (.int p1), .val (.int p2), .val (.int p3), .val (.int p4), .val (.int p5), .val (.ref b1), .val (.ref b2), .val (.int ((p3 &&& (2147483647 : Int32)) % (3 : Int32))), .val (.int ((p4 &&& (2147483647 : Int32)) % (3 : Int32))), .val (.int (own_f4 [p0, p1, p2] ((p3 &&& (2147483647 : Int32)) % (3 : Int32)) ((p4 &&& (2147483647 : Int32)) % (3 : Int32)))), .unset, .unset, .unset] [(.int (1 : Int32))])) _
      exact k
    · simp only [if_neg hd83] at k
      refine XS.icmpYes X28.here hx rfl (pc0 := 83) (pc' := 90) rfl (hb hby at_83) rfl (XT.ii_ne_t hd83) (by decide) (by decide) ?_
      show Steps p.tables e below (T28.setTop (mkF m 90 #[.val (.int p0), .val (.int p1), .val (.int p2), .val (.int p3), .val (.int p4), .val (.int p5), .val (.ref b1), .val (.ref b2), .val (.int ((p3 &&& (2147483647 : Int32)) % (3 : Int32))), .val (.int ((p4 &&& (2147483647 : Int32)) % (3 : Int32))), .val (.int (own_f4 [p0, p1, p2] ((p3 &&& (2147483647 : Int32)) % (3 : Int32)) ((p4 &&& (2147483647 : Int32)) % (3 : Int32)))), .unset, .unset, .unset] [])) _
      refine XS.iconst X28.here hx rfl (hb hby at_90) ?_
      show Steps p.tables e below (T28.setTop (mkF m 91 #[.val (.int p0), .val (.int p1), .val (.int p2), .val (.int p3), .val (.int p4), .val (.int p5), .val (.ref b1), .val (.ref b2), .val (.int ((p3 &&& (2147483647 : Int32)) % (3 : Int32))), .val (.int ((p4 &&& (2147483647 : Int32)) % (3 : Int32))), .val (.int (own_f4 [p0, p1, p2] ((p3 &&& (2147483647 : Int32)) % (3 : Int32)) ((p4 &&& (2147483647 : Int32)) % (3 : Int32)))), .unset, .unset, .unset] [(.int (0 : Int32))])) _
      exact k
  show own_Fin _ _ _ _ _ _ _ (T28.setTop (mkF m 91 #[.val (.int p0), .val (.int p1), .val (.int p2), .val (.int p3), .val (.int p4), .val (.int p5), .val (.ref b1), .val (.ref b2), .val (.int ((p3 &&& (2147483647 : Int32)) % (3 : Int32))), .val (.int ((p4 &&& (2147483647 : Int32)) % (3 : Int32))), .val (.int (own_f4 [p0, p1, p2] ((p3 &&& (2147483647 : Int32)) % (3 : Int32)) ((p4 &&& (2147483647 : Int32)) % (3 : Int32)))), .unset, .unset, .unset] [(.int (if (own_f7 (own_f4 [p0, p1, p2] ((p3 &&& (2147483647 : Int32)) % (3 : Int32)) ((p4 &&& (2147483647 : Int32)) % (3 : Int32)))) = (own_f8 (List.getD [p0, p1, p2] (((p3 &&& (2147483647 : Int32)) % (3 : Int32))).toNatClampNeg 0) (List.getD [p0, p1, p2] (((p4 &&& (2147483647 : Int32)) % (3 : Int32))).toNatClampNeg 0)) then (1 : Int32) else (0 : Int32)))]))
  refine own_go (fun _ k => XS.istore X28.here hx rfl (hb hby at_91) rfl (l' := #[.val (.int p0), .val (.int p1), .val (.int p2), .val (.int p3), .val (.int p4), .val (.int p5), .val (.ref b1), .val (.ref b2), .val (.int ((p3 &&& (2147483647 : Int32)) % (3 : Int32))), .val (.int ((p4 &&& (2147483647 : Int32)) % (3 : Int32))), .val (.int (own_f4 [p0, p1, p2] ((p3 &&& (2147483647 : Int32)) % (3 : Int32)) ((p4 &&& (2147483647 : Int32)) % (3 : Int32)))), .val (.int (if (own_f7 (own_f4 [p0, p1, p2] ((p3 &&& (2147483647 : Int32)) % (3 : Int32)) ((p4 &&& (2147483647 : Int32)) % (3 : Int32)))) = (own_f8 (List.getD [p0, p1, p2] (((p3 &&& (2147483647 : Int32)) % (3 : Int32))).toNatClampNeg 0) (List.getD [p0, p1, p2] (((p4 &&& (2147483647 : Int32)) % (3 : Int32))).toNatClampNeg 0)) then (1 : Int32) else (0 : Int32))), .unset, .unset]) rfl k) ?_
  show own_Fin _ _ _ _ _ _ _ (T28.setTop (mkF m 93 #[.val (.int p0), .val (.int p1), .val (.int p2), .val (.int p3), .val (.int p4), .val (.int p5), .val (.ref b1), .val (.ref b2), .val (.int ((p3 &&& (2147483647 : Int32)) % (3 : Int32))), .val (.int ((p4 &&& (2147483647 : Int32)) % (3 : Int32))), .val (.int (own_f4 [p0, p1, p2] ((p3 &&& (2147483647 : Int32)) % (3 : Int32)) ((p4 &&& (2147483647 : Int32)) % (3 : Int32)))), .val (.int (if (own_f7 (own_f4 [p0, p1, p2] ((p3 &&& (2147483647 : Int32)) % (3 : Int32)) ((p4 &&& (2147483647 : Int32)) % (3 : Int32)))) = (own_f8 (List.getD [p0, p1, p2] (((p3 &&& (2147483647 : Int32)) % (3 : Int32))).toNatClampNeg 0) (List.getD [p0, p1, p2] (((p4 &&& (2147483647 : Int32)) % (3 : Int32))).toNatClampNeg 0)) then (1 : Int32) else (0 : Int32))), .unset, .unset] []))
  refine own_go (fun _ k => XS.aload X28.here hx rfl (hb hby at_93) rfl rfl k) ?_
  show own_Fin _ _ _ _ _ _ _ (T28.setTop (mkF m 95 #[.val (.int p0), .val (.int p1), .val (.int p2), .val (.int p3), .val (.int p4), .val (.int p5), .val (.ref b1), .val (.ref b2), .val (.int ((p3 &&& (2147483647 : Int32)) % (3 : Int32))), .val (.int ((p4 &&& (2147483647 : Int32)) % (3 : Int32))), .val (.int (own_f4 [p0, p1, p2] ((p3 &&& (2147483647 : Int32)) % (3 : Int32)) ((p4 &&& (2147483647 : Int32)) % (3 : Int32)))), .val (.int (if (own_f7 (own_f4 [p0, p1, p2] ((p3 &&& (2147483647 : Int32)) % (3 : Int32)) ((p4 &&& (2147483647 : Int32)) % (3 : Int32)))) = (own_f8 (List.getD [p0, p1, p2] (((p3 &&& (2147483647 : Int32)) % (3 : Int32))).toNatClampNeg 0) (List.getD [p0, p1, p2] (((p4 &&& (2147483647 : Int32)) % (3 : Int32))).toNatClampNeg 0)) then (1 : Int32) else (0 : Int32))), .unset, .unset] [(.ref b1)]))
  refine own_go (fun _ k => XS.iload X28.here hx rfl (hb hby at_95) rfl k) ?_
  show own_Fin _ _ _ _ _ _ _ (T28.setTop (mkF m 97 #[.val (.int p0), .val (.int p1), .val (.int p2), .val (.int p3), .val (.int p4), .val (.int p5), .val (.ref b1), .val (.ref b2), .val (.int ((p3 &&& (2147483647 : Int32)) % (3 : Int32))), .val (.int ((p4 &&& (2147483647 : Int32)) % (3 : Int32))), .val (.int (own_f4 [p0, p1, p2] ((p3 &&& (2147483647 : Int32)) % (3 : Int32)) ((p4 &&& (2147483647 : Int32)) % (3 : Int32)))), .val (.int (if (own_f7 (own_f4 [p0, p1, p2] ((p3 &&& (2147483647 : Int32)) % (3 : Int32)) ((p4 &&& (2147483647 : Int32)) % (3 : Int32)))) = (own_f8 (List.getD [p0, p1, p2] (((p3 &&& (2147483647 : Int32)) % (3 : Int32))).toNatClampNeg 0) (List.getD [p0, p1, p2] (((p4 &&& (2147483647 : Int32)) % (3 : Int32))).toNatClampNeg 0)) then (1 : Int32) else (0 : Int32))), .unset, .unset] [(.int ((p3 &&& (2147483647 : Int32)) % (3 : Int32))), (.ref b1)]))
  refine own_go (fun _ k => XS.iload X28.here hx rfl (hb hby at_97) rfl k) ?_
  show own_Fin _ _ _ _ _ _ _ (T28.setTop (mkF m 99 #[.val (.int p0), .val (.int p1), .val (.int p2), .val (.int p3), .val (.int p4), .val (.int p5), .val (.ref b1), .val (.ref b2), .val (.int ((p3 &&& (2147483647 : Int32)) % (3 : Int32))), .val (.int ((p4 &&& (2147483647 : Int32)) % (3 : Int32))), .val (.int (own_f4 [p0, p1, p2] ((p3 &&& (2147483647 : Int32)) % (3 : Int32)) ((p4 &&& (2147483647 : Int32)) % (3 : Int32)))), .val (.int (if (own_f7 (own_f4 [p0, p1, p2] ((p3 &&& (2147483647 : Int32)) % (3 : Int32)) ((p4 &&& (2147483647 : Int32)) % (3 : Int32)))) = (own_f8 (List.getD [p0, p1, p2] (((p3 &&& (2147483647 : Int32)) % (3 : Int32))).toNatClampNeg 0) (List.getD [p0, p1, p2] (((p4 &&& (2147483647 : Int32)) % (3 : Int32))).toNatClampNeg 0)) then (1 : Int32) else (0 : Int32))), .unset, .unset] [(.int p5), (.int ((p3 &&& (2147483647 : Int32)) % (3 : Int32))), (.ref b1)]))
  refine own_stI X28 hx hZ e28 A19 (own_nneg (own_lo _)) (own_lt3 (own_lo _) (own_hi _)) (hb hby at_99) ?_
  intro T29 h29 X29 e29 W29 A29
  have f31 := f21.wr W29
  have f32 := f22.wr W29
  have f33 := f23.other W29 (Or.inl (Ne.symm ne_b1_b2))
  have Z29 := Nat.le_trans Z19 (Keep.of_wr W29).1
  have K29 := K19.wr W29 (Or.inr sz_b1)
  have N29 := Fr.snoc X29 N28 g_b1
  show own_Fin _ _ _ _ _ _ _ (T29.setTop (mkF m 100 #[.val (.int p0), .val (.int p1), .val (.int p2), .val (.int p3), .val (.int p4), .val (.int p5), .val (.ref b1), .val (.ref b2), .val (.int ((p3 &&& (2147483647 : Int32)) % (3 : Int32))), .val (.int ((p4 &&& (2147483647 : Int32)) % (3 : Int32))), .val (.int (own_f4 [p0, p1, p2] ((p3 &&& (2147483647 : Int32)) % (3 : Int32)) ((p4 &&& (2147483647 : Int32)) % (3 : Int32)))), .val (.int (if (own_f7 (own_f4 [p0, p1, p2] ((p3 &&& (2147483647 : Int32)) % (3 : Int32)) ((p4 &&& (2147483647 : Int32)) % (3 : Int32)))) = (own_f8 (List.getD [p0, p1, p2] (((p3 &&& (2147483647 : Int32)) % (3 : Int32))).toNatClampNeg 0) (List.getD [p0, p1, p2] (((p4 &&& (2147483647 : Int32)) % (3 : Int32))).toNatClampNeg 0)) then (1 : Int32) else (0 : Int32))), .unset, .unset] []))
  refine own_go (fun _ k => XS.aload X29.here hx rfl (hb hby at_100) rfl rfl k) ?_
  show own_Fin _ _ _ _ _ _ _ (T29.setTop (mkF m 102 #[.val (.int p0), .val (.int p1), .val (.int p2), .val (.int p3), .val (.int p4), .val (.int p5), .val (.ref b1), .val (.ref b2), .val (.int ((p3 &&& (2147483647 : Int32)) % (3 : Int32))), .val (.int ((p4 &&& (2147483647 : Int32)) % (3 : Int32))), .val (.int (own_f4 [p0, p1, p2] ((p3 &&& (2147483647 : Int32)) % (3 : Int32)) ((p4 &&& (2147483647 : Int32)) % (3 : Int32)))), .val (.int (if (own_f7 (own_f4 [p0, p1, p2] ((p3 &&& (2147483647 : Int32)) % (3 : Int32)) ((p4 &&& (2147483647 : Int32)) % (3 : Int32)))) = (own_f8 (List.getD [p0, p1, p2] (((p3 &&& (2147483647 : Int32)) % (3 : Int32))).toNatClampNeg 0) (List.getD [p0, p1, p2] (((p4 &&& (2147483647 : Int32)) % (3 : Int32))).toNatClampNeg 0)) then (1 : Int32) else (0 : Int32))), .unset, .unset] [(.ref b2)]))
  refine own_go (fun _ k => XS.iload X29.here hx rfl (hb hby at_102) rfl k) ?_
  show own_Fin _ _ _ _ _ _ _ (T29.setTop (mkF m 104 #[.val (.int p0), .val (.int p1), .val (.int p2), .val (.int p3), .val (.int p4), .val (.int p5), .val (.ref b1), .val (.ref b2), .val (.int ((p3 &&& (2147483647 : Int32)) % (3 : Int32))), .val (.int ((p4 &&& (2147483647 : Int32)) % (3 : Int32))), .val (.int (own_f4 [p0, p1, p2] ((p3 &&& (2147483647 : Int32)) % (3 : Int32)) ((p4 &&& (2147483647 : Int32)) % (3 : Int32)))), .val (.int (if (own_f7 (own_f4 [p0, p1, p2] ((p3 &&& (2147483647 : Int32)) % (3 : Int32)) ((p4 &&& (2147483647 : Int32)) % (3 : Int32)))) = (own_f8 (List.getD [p0, p1, p2] (((p3 &&& (2147483647 : Int32)) % (3 : Int32))).toNatClampNeg 0) (List.getD [p0, p1, p2] (((p4 &&& (2147483647 : Int32)) % (3 : Int32))).toNatClampNeg 0)) then (1 : Int32) else (0 : Int32))), .unset, .unset] [(.int ((p3 &&& (2147483647 : Int32)) % (3 : Int32))), (.ref b2)]))
  obtain ⟨z104, hi_z104, ha_z104, hE_z104, hF_z104⟩ := own_box B hh ((p3 &&& (2147483647 : Int32)) % (3 : Int32)) (own_lo _) (own_hi _)
  refine own_callS X29 hx hZ hown (hw _ (List.mem_of_getElem? (i := 13) rfl)) (hw _ (List.mem_of_getElem? (i := 14) rfl)) (hw _ (List.mem_of_getElem? (i := 15) rfl)) (hw _ (List.mem_of_getElem? (i := 16) rfl)) (by decide) (rm3 l Z a0 hw ((p3 &&& (2147483647 : Int32)) % (3 : Int32)) h29 n0 Z29 z104 cA cl (own_Sta_keep0 Sh K29) (own_Sta_keep0 Sc K29) (own_Arr_keep0 Ac K29) (own_q1 (own_lo _)) (own_q2 (own_hi _)) hi_z104 ha_z104) e29 (argsL := [(.int ((p3 &&& (2147483647 : Int32)) % (3 : Int32)))]) (rest := [(.ref b2)]) rfl rfl (by rw [hml]; rfl) (lenOf pd_0_1 rfl) (hb hby at_104) (W := 1) (Nat.le_of_eq rfl) (by decide) (by decide) (by decide) (by decide) ?_
  rintro v34 T34 L34 X34 ⟨rfl, M34, e34⟩
  have N34 := Fr.app N29 M34
  show own_Fin _ _ _ _ _ _ _ (T34.setTop (mkF m 107 #[.val (.int p0), .val (.int p1), .val (.int p2), .val (.int p3), .val (.int p4), .val (.int p5), .val (.ref b1), .val (.ref b2), .val (.int ((p3 &&& (2147483647 : Int32)) % (3 : Int32))), .val (.int ((p4 &&& (2147483647 : Int32)) % (3 : Int32))), .val (.int (own_f4 [p0, p1, p2] ((p3 &&& (2147483647 : Int32)) % (3 : Int32)) ((p4 &&& (2147483647 : Int32)) % (3 : Int32)))), .val (.int (if (own_f7 (own_f4 [p0, p1, p2] ((p3 &&& (2147483647 : Int32)) % (3 : Int32)) ((p4 &&& (2147483647 : Int32)) % (3 : Int32)))) = (own_f8 (List.getD [p0, p1, p2] (((p3 &&& (2147483647 : Int32)) % (3 : Int32))).toNatClampNeg 0) (List.getD [p0, p1, p2] (((p4 &&& (2147483647 : Int32)) % (3 : Int32))).toNatClampNeg 0)) then (1 : Int32) else (0 : Int32))), .unset, .unset] [(.ref z104), (.ref b2)]))
  refine own_go (fun _ k => XS.iload X34.here hx rfl (hb hby at_107) rfl k) ?_
  show own_Fin _ _ _ _ _ _ _ (T34.setTop (mkF m 109 #[.val (.int p0), .val (.int p1), .val (.int p2), .val (.int p3), .val (.int p4), .val (.int p5), .val (.ref b1), .val (.ref b2), .val (.int ((p3 &&& (2147483647 : Int32)) % (3 : Int32))), .val (.int ((p4 &&& (2147483647 : Int32)) % (3 : Int32))), .val (.int (own_f4 [p0, p1, p2] ((p3 &&& (2147483647 : Int32)) % (3 : Int32)) ((p4 &&& (2147483647 : Int32)) % (3 : Int32)))), .val (.int (if (own_f7 (own_f4 [p0, p1, p2] ((p3 &&& (2147483647 : Int32)) % (3 : Int32)) ((p4 &&& (2147483647 : Int32)) % (3 : Int32)))) = (own_f8 (List.getD [p0, p1, p2] (((p3 &&& (2147483647 : Int32)) % (3 : Int32))).toNatClampNeg 0) (List.getD [p0, p1, p2] (((p4 &&& (2147483647 : Int32)) % (3 : Int32))).toNatClampNeg 0)) then (1 : Int32) else (0 : Int32))), .unset, .unset] [(.int ((p4 &&& (2147483647 : Int32)) % (3 : Int32))), (.ref z104), (.ref b2)]))
  obtain ⟨z109, hi_z109, ha_z109, hE_z109, hF_z109⟩ := own_box B hh ((p4 &&& (2147483647 : Int32)) % (3 : Int32)) (own_lo _) (own_hi _)
  refine own_callS X34 hx hZ hown (hw _ (List.mem_of_getElem? (i := 13) rfl)) (hw _ (List.mem_of_getElem? (i := 14) rfl)) (hw _ (List.mem_of_getElem? (i := 15) rfl)) (hw _ (List.mem_of_getElem? (i := 16) rfl)) (by decide) (rm3 l Z a0 hw ((p4 &&& (2147483647 : Int32)) % (3 : Int32)) h29 n0 Z29 z109 cA cl (own_Sta_keep0 Sh K29) (own_Sta_keep0 Sc K29) (own_Arr_keep0 Ac K29) (own_q1 (own_lo _)) (own_q2 (own_hi _)) hi_z109 ha_z109) e34 (argsL := [(.int ((p4 &&& (2147483647 : Int32)) % (3 : Int32)))]) (rest := [(.ref z104), (.ref b2)]) rfl rfl (by rw [hml]; rfl) (lenOf pd_0_1 rfl) (hb hby at_109) (W := 2) (Nat.le_of_eq rfl) (by decide) (by decide) (by decide) (by decide) ?_
  rintro v35 T35 L35 X35 ⟨rfl, M35, e35⟩
  have N35 := Fr.app N34 M35
  show own_Fin _ _ _ _ _ _ _ (T35.setTop (mkF m 112 #[.val (.int p0), .val (.int p1), .val (.int p2), .val (.int p3), .val (.int p4), .val (.int p5), .val (.ref b1), .val (.ref b2), .val (.int ((p3 &&& (2147483647 : Int32)) % (3 : Int32))), .val (.int ((p4 &&& (2147483647 : Int32)) % (3 : Int32))), .val (.int (own_f4 [p0, p1, p2] ((p3 &&& (2147483647 : Int32)) % (3 : Int32)) ((p4 &&& (2147483647 : Int32)) % (3 : Int32)))), .val (.int (if (own_f7 (own_f4 [p0, p1, p2] ((p3 &&& (2147483647 : Int32)) % (3 : Int32)) ((p4 &&& (2147483647 : Int32)) % (3 : Int32)))) = (own_f8 (List.getD [p0, p1, p2] (((p3 &&& (2147483647 : Int32)) % (3 : Int32))).toNatClampNeg 0) (List.getD [p0, p1, p2] (((p4 &&& (2147483647 : Int32)) % (3 : Int32))).toNatClampNeg 0)) then (1 : Int32) else (0 : Int32))), .unset, .unset] [(.ref z109), (.ref z104), (.ref b2)]))
  refine own_callV X35 hx hZ hown (hw _ (List.mem_of_getElem? (i := 20) rfl)) (hw _ (List.mem_of_getElem? (i := 21) rfl)) (notFace_of_selects (args := #[]) (mvT hZ (hw _ (List.mem_of_getElem? (i := 23) rfl)))) (hw _ (List.mem_of_getElem? (i := 23) rfl)) (hw _ (List.mem_of_getElem? (i := 22) rfl)) (hw _ (List.mem_of_getElem? (i := 24) rfl)) (hw _ (List.mem_of_getElem? (i := 3) rfl)) (by decide) (rm4 l Z a0 hw b2 z104 z109 h29 n0 Z29 b1 (List.set [p0, p1, p2] (((p3 &&& (2147483647 : Int32)) % (3 : Int32))).toNatClampNeg p5) ((p3 &&& (2147483647 : Int32)) % (3 : Int32)) ((p4 &&& (2147483647 : Int32)) % (3 : Int32)) f33 A29 (hE_z104.keep K29) (hF_z104.keep K29 nin0) (own_nneg (own_lo _)) (by rw [List.length_set]; exact own_lt3 (own_lo _) (own_hi _)) (hE_z109.keep K29) (hF_z109.keep K29 nin0) (own_nneg (own_lo _)) (by rw [List.length_set]; exact own_lt3 (own_lo _) (own_hi _))) e35 f32 (argsL := [(.ref z104), (.ref z109)]) (rest := []) rfl rfl (by rw [hml]; rfl) (lenOf pd_0_2 rfl) (hb hby at_112) (W := 0) (Nat.le_of_eq rfl) (by decide) (by decide) (by decide) (by decide) ?_
  rintro v36 T36 L36 X36 ⟨rfl, M36, e36⟩
  have N36 := Fr.app N35 M36
  show own_Fin _ _ _ _ _ _ _ (T36.setTop (mkF m 115 #[.val (.int p0), .val (.int p1), .val (.int p2), .val (.int p3), .val (.int p4), .val (.int p5), .val (.ref b1), .val (.ref b2), .val (.int ((p3 &&& (2147483647 : Int32)) % (3 : Int32))), .val (.int ((p4 &&& (2147483647 : Int32)) % (3 : Int32))), .val (.int (own_f4 [p0, p1, p2] ((p3 &&& (2147483647 : Int32)) % (3 : Int32)) ((p4 &&& (2147483647 : Int32)) % (3 : Int32)))), .val (.int (if (own_f7 (own_f4 [p0, p1, p2] ((p3 &&& (2147483647 : Int32)) % (3 : Int32)) ((p4 &&& (2147483647 : Int32)) % (3 : Int32)))) = (own_f8 (List.getD [p0, p1, p2] (((p3 &&& (2147483647 : Int32)) % (3 : Int32))).toNatClampNeg 0) (List.getD [p0, p1, p2] (((p4 &&& (2147483647 : Int32)) % (3 : Int32))).toNatClampNeg 0)) then (1 : Int32) else (0 : Int32))), .unset, .unset] [(.int (own_f4 (List.set [p0, p1, p2] (((p3 &&& (2147483647 : Int32)) % (3 : Int32))).toNatClampNeg p5) ((p3 &&& (2147483647 : Int32)) % (3 : Int32)) ((p4 &&& (2147483647 : Int32)) % (3 : Int32))))]))
  refine own_go (fun _ k => XS.istore X36.here hx rfl (hb hby at_115) rfl (l' := #[.val (.int p0), .val (.int p1), .val (.int p2), .val (.int p3), .val (.int p4), .val (.int p5), .val (.ref b1), .val (.ref b2), .val (.int ((p3 &&& (2147483647 : Int32)) % (3 : Int32))), .val (.int ((p4 &&& (2147483647 : Int32)) % (3 : Int32))), .val (.int (own_f4 [p0, p1, p2] ((p3 &&& (2147483647 : Int32)) % (3 : Int32)) ((p4 &&& (2147483647 : Int32)) % (3 : Int32)))), .val (.int (if (own_f7 (own_f4 [p0, p1, p2] ((p3 &&& (2147483647 : Int32)) % (3 : Int32)) ((p4 &&& (2147483647 : Int32)) % (3 : Int32)))) = (own_f8 (List.getD [p0, p1, p2] (((p3 &&& (2147483647 : Int32)) % (3 : Int32))).toNatClampNeg 0) (List.getD [p0, p1, p2] (((p4 &&& (2147483647 : Int32)) % (3 : Int32))).toNatClampNeg 0)) then (1 : Int32) else (0 : Int32))), .val (.int (own_f4 (List.set [p0, p1, p2] (((p3 &&& (2147483647 : Int32)) % (3 : Int32))).toNatClampNeg p5) ((p3 &&& (2147483647 : Int32)) % (3 : Int32)) ((p4 &&& (2147483647 : Int32)) % (3 : Int32)))), .unset]) rfl k) ?_
  show own_Fin _ _ _ _ _ _ _ (T36.setTop (mkF m 117 #[.val (.int p0), .val (.int p1), .val (.int p2), .val (.int p3), .val (.int p4), .val (.int p5), .val (.ref b1), .val (.ref b2), .val (.int ((p3 &&& (2147483647 : Int32)) % (3 : Int32))), .val (.int ((p4 &&& (2147483647 : Int32)) % (3 : Int32))), .val (.int (own_f4 [p0, p1, p2] ((p3 &&& (2147483647 : Int32)) % (3 : Int32)) ((p4 &&& (2147483647 : Int32)) % (3 : Int32)))), .val (.int (if (own_f7 (own_f4 [p0, p1, p2] ((p3 &&& (2147483647 : Int32)) % (3 : Int32)) ((p4 &&& (2147483647 : Int32)) % (3 : Int32)))) = (own_f8 (List.getD [p0, p1, p2] (((p3 &&& (2147483647 : Int32)) % (3 : Int32))).toNatClampNeg 0) (List.getD [p0, p1, p2] (((p4 &&& (2147483647 : Int32)) % (3 : Int32))).toNatClampNeg 0)) then (1 : Int32) else (0 : Int32))), .val (.int (own_f4 (List.set [p0, p1, p2] (((p3 &&& (2147483647 : Int32)) % (3 : Int32))).toNatClampNeg p5) ((p3 &&& (2147483647 : Int32)) % (3 : Int32)) ((p4 &&& (2147483647 : Int32)) % (3 : Int32)))), .unset] []))
  refine own_go (fun _ k => XS.iload X36.here hx rfl (hb hby at_117) rfl k) ?_
  show own_Fin _ _ _ _ _ _ _ (T36.setTop (mkF m 119 #[.val (.int p0), .val (.int p1), .val (.int p2), .val (.int p3), .val (.int p4), .val (.int p5), .val (.ref b1), .val (.ref b2), .val (.int ((p3 &&& (2147483647 : Int32)) % (3 : Int32))), .val (.int ((p4 &&& (2147483647 : Int32)) % (3 : Int32))), .val (.int (own_f4 [p0, p1, p2] ((p3 &&& (2147483647 : Int32)) % (3 : Int32)) ((p4 &&& (2147483647 : Int32)) % (3 : Int32)))), .val (.int (if (own_f7 (own_f4 [p0, p1, p2] ((p3 &&& (2147483647 : Int32)) % (3 : Int32)) ((p4 &&& (2147483647 : Int32)) % (3 : Int32)))) = (own_f8 (List.getD [p0, p1, p2] (((p3 &&& (2147483647 : Int32)) % (3 : Int32))).toNatClampNeg 0) (List.getD [p0, p1, p2] (((p4 &&& (2147483647 : Int32)) % (3 : Int32))).toNatClampNeg 0)) then (1 : Int32) else (0 : Int32))), .val (.int (own_f4 (List.set [p0, p1, p2] (((p3 &&& (2147483647 : Int32)) % (3 : Int32))).toNatClampNeg p5) ((p3 &&& (2147483647 : Int32)) % (3 : Int32)) ((p4 &&& (2147483647 : Int32)) % (3 : Int32)))), .unset] [(.int (own_f4 (List.set [p0, p1, p2] (((p3 &&& (2147483647 : Int32)) % (3 : Int32))).toNatClampNeg p5) ((p3 &&& (2147483647 : Int32)) % (3 : Int32)) ((p4 &&& (2147483647 : Int32)) % (3 : Int32))))]))
  refine own_callS X36 hx hZ hown (hw _ (List.mem_of_getElem? (i := 35) rfl)) (hw _ (List.mem_of_getElem? (i := 36) rfl)) (hw _ (List.mem_of_getElem? (i := 37) rfl)) (hw _ (List.mem_of_getElem? (i := 38) rfl)) (by decide) (rm7 l Z a0 hw (own_f4 (List.set [p0, p1, p2] (((p3 &&& (2147483647 : Int32)) % (3 : Int32))).toNatClampNeg p5) ((p3 &&& (2147483647 : Int32)) % (3 : Int32)) ((p4 &&& (2147483647 : Int32)) % (3 : Int32))) h29 n0 Z29) e36 (argsL := [(.int (own_f4 (List.set [p0, p1, p2] (((p3 &&& (2147483647 : Int32)) % (3 : Int32))).toNatClampNeg p5) ((p3 &&& (2147483647 : Int32)) % (3 : Int32)) ((p4 &&& (2147483647 : Int32)) % (3 : Int32))))]) (rest := []) rfl rfl (by rw [hml]; rfl) (lenOf pd_0_3 rfl) (hb hby at_119) (W := 0) (Nat.le_of_eq rfl) (by decide) (by decide) (by decide) (by decide) ?_
  rintro v37 T37 L37 X37 ⟨rfl, M37, e37⟩
  have N37 := Fr.app N36 M37
  show own_Fin _ _ _ _ _ _ _ (T37.setTop (mkF m 122 #[.val (.int p0), .val (.int p1), .val (.int p2), .val (.int p3), .val (.int p4), .val (.int p5), .val (.ref b1), .val (.ref b2), .val (.int ((p3 &&& (2147483647 : Int32)) % (3 : Int32))), .val (.int ((p4 &&& (2147483647 : Int32)) % (3 : Int32))), .val (.int (own_f4 [p0, p1, p2] ((p3 &&& (2147483647 : Int32)) % (3 : Int32)) ((p4 &&& (2147483647 : Int32)) % (3 : Int32)))), .val (.int (if (own_f7 (own_f4 [p0, p1, p2] ((p3 &&& (2147483647 : Int32)) % (3 : Int32)) ((p4 &&& (2147483647 : Int32)) % (3 : Int32)))) = (own_f8 (List.getD [p0, p1, p2] (((p3 &&& (2147483647 : Int32)) % (3 : Int32))).toNatClampNeg 0) (List.getD [p0, p1, p2] (((p4 &&& (2147483647 : Int32)) % (3 : Int32))).toNatClampNeg 0)) then (1 : Int32) else (0 : Int32))), .val (.int (own_f4 (List.set [p0, p1, p2] (((p3 &&& (2147483647 : Int32)) % (3 : Int32))).toNatClampNeg p5) ((p3 &&& (2147483647 : Int32)) % (3 : Int32)) ((p4 &&& (2147483647 : Int32)) % (3 : Int32)))), .unset] [(.int (own_f7 (own_f4 (List.set [p0, p1, p2] (((p3 &&& (2147483647 : Int32)) % (3 : Int32))).toNatClampNeg p5) ((p3 &&& (2147483647 : Int32)) % (3 : Int32)) ((p4 &&& (2147483647 : Int32)) % (3 : Int32)))))]))
  refine own_go (fun _ k => XS.aload X37.here hx rfl (hb hby at_122) rfl rfl k) ?_
  show own_Fin _ _ _ _ _ _ _ (T37.setTop (mkF m 124 #[.val (.int p0), .val (.int p1), .val (.int p2), .val (.int p3), .val (.int p4), .val (.int p5), .val (.ref b1), .val (.ref b2), .val (.int ((p3 &&& (2147483647 : Int32)) % (3 : Int32))), .val (.int ((p4 &&& (2147483647 : Int32)) % (3 : Int32))), .val (.int (own_f4 [p0, p1, p2] ((p3 &&& (2147483647 : Int32)) % (3 : Int32)) ((p4 &&& (2147483647 : Int32)) % (3 : Int32)))), .val (.int (if (own_f7 (own_f4 [p0, p1, p2] ((p3 &&& (2147483647 : Int32)) % (3 : Int32)) ((p4 &&& (2147483647 : Int32)) % (3 : Int32)))) = (own_f8 (List.getD [p0, p1, p2] (((p3 &&& (2147483647 : Int32)) % (3 : Int32))).toNatClampNeg 0) (List.getD [p0, p1, p2] (((p4 &&& (2147483647 : Int32)) % (3 : Int32))).toNatClampNeg 0)) then (1 : Int32) else (0 : Int32))), .val (.int (own_f4 (List.set [p0, p1, p2] (((p3 &&& (2147483647 : Int32)) % (3 : Int32))).toNatClampNeg p5) ((p3 &&& (2147483647 : Int32)) % (3 : Int32)) ((p4 &&& (2147483647 : Int32)) % (3 : Int32)))), .unset] [(.ref b1), (.int (own_f7 (own_f4 (List.set [p0, p1, p2] (((p3 &&& (2147483647 : Int32)) % (3 : Int32))).toNatClampNeg p5) ((p3 &&& (2147483647 : Int32)) % (3 : Int32)) ((p4 &&& (2147483647 : Int32)) % (3 : Int32)))))]))
  refine own_go (fun _ k => XS.iload X37.here hx rfl (hb hby at_124) rfl k) ?_
  show own_Fin _ _ _ _ _ _ _ (T37.setTop (mkF m 126 #[.val (.int p0), .val (.int p1), .val (.int p2), .val (.int p3), .val (.int p4), .val (.int p5), .val (.ref b1), .val (.ref b2), .val (.int ((p3 &&& (2147483647 : Int32)) % (3 : Int32))), .val (.int ((p4 &&& (2147483647 : Int32)) % (3 : Int32))), .val (.int (own_f4 [p0, p1, p2] ((p3 &&& (2147483647 : Int32)) % (3 : Int32)) ((p4 &&& (2147483647 : Int32)) % (3 : Int32)))), .val (.int (if (own_f7 (own_f4 [p0, p1, p2] ((p3 &&& (2147483647 : Int32)) % (3 : Int32)) ((p4 &&& (2147483647 : Int32)) % (3 : Int32)))) = (own_f8 (List.getD [p0, p1, p2] (((p3 &&& (2147483647 : Int32)) % (3 : Int32))).toNatClampNeg 0) (List.getD [p0, p1, p2] (((p4 &&& (2147483647 : Int32)) % (3 : Int32))).toNatClampNeg 0)) then (1 : Int32) else (0 : Int32))), .val (.int (own_f4 (List.set [p0, p1, p2] (((p3 &&& (2147483647 : Int32)) % (3 : Int32))).toNatClampNeg p5) ((p3 &&& (2147483647 : Int32)) % (3 : Int32)) ((p4 &&& (2147483647 : Int32)) % (3 : Int32)))), .unset] [(.int ((p3 &&& (2147483647 : Int32)) % (3 : Int32))), (.ref b1), (.int (own_f7 (own_f4 (List.set [p0, p1, p2] (((p3 &&& (2147483647 : Int32)) % (3 : Int32))).toNatClampNeg p5) ((p3 &&& (2147483647 : Int32)) % (3 : Int32)) ((p4 &&& (2147483647 : Int32)) % (3 : Int32)))))]))
  refine own_ldI X37 hx hZ e37 A29 (own_nneg (own_lo _)) (by rw [List.length_set]; exact own_lt3 (own_lo _) (own_hi _)) (hb hby at_126) ?_
  show own_Fin _ _ _ _ _ _ _ (T37.setTop (mkF m 127 #[.val (.int p0), .val (.int p1), .val (.int p2), .val (.int p3), .val (.int p4), .val (.int p5), .val (.ref b1), .val (.ref b2), .val (.int ((p3 &&& (2147483647 : Int32)) % (3 : Int32))), .val (.int ((p4 &&& (2147483647 : Int32)) % (3 : Int32))), .val (.int (own_f4 [p0, p1, p2] ((p3 &&& (2147483647 : Int32)) % (3 : Int32)) ((p4 &&& (2147483647 : Int32)) % (3 : Int32)))), .val (.int (if (own_f7 (own_f4 [p0, p1, p2] ((p3 &&& (2147483647 : Int32)) % (3 : Int32)) ((p4 &&& (2147483647 : Int32)) % (3 : Int32)))) = (own_f8 (List.getD [p0, p1, p2] (((p3 &&& (2147483647 : Int32)) % (3 : Int32))).toNatClampNeg 0) (List.getD [p0, p1, p2] (((p4 &&& (2147483647 : Int32)) % (3 : Int32))).toNatClampNeg 0)) then (1 : Int32) else (0 : Int32))), .val (.int (own_f4 (List.set [p0, p1, p2] (((p3 &&& (2147483647 : Int32)) % (3 : Int32))).toNatClampNeg p5) ((p3 &&& (2147483647 : Int32)) % (3 : Int32)) ((p4 &&& (2147483647 : Int32)) % (3 : Int32)))), .unset] [(.int (List.getD (List.set [p0, p1, p2] (((p3 &&& (2147483647 : Int32)) % (3 : Int32))).toNatClampNeg p5) (((p3 &&& (2147483647 : Int32)) % (3 : Int32))).toNatClampNeg 0)), (.int (own_f7 (own_f4 (List.set [p0, p1, p2] (((p3 &&& (2147483647 : Int32)) % (3 : Int32))).toNatClampNeg p5) ((p3 &&& (2147483647 : Int32)) % (3 : Int32)) ((p4 &&& (2147483647 : Int32)) % (3 : Int32)))))]))
  refine own_go (fun _ k => XS.aload X37.here hx rfl (hb hby at_127) rfl rfl k) ?_
  show own_Fin _ _ _ _ _ _ _ (T37.setTop (mkF m 129 #[.val (.int p0), .val (.int p1), .val (.int p2), .val (.int p3), .val (.int p4), .val (.int p5), .val (.ref b1), .val (.ref b2), .val (.int ((p3 &&& (2147483647 : Int32)) % (3 : Int32))), .val (.int ((p4 &&& (2147483647 : Int32)) % (3 : Int32))), .val (.int (own_f4 [p0, p1, p2] ((p3 &&& (2147483647 : Int32)) % (3 : Int32)) ((p4 &&& (2147483647 : Int32)) % (3 : Int32)))), .val (.int (if (own_f7 (own_f4 [p0, p1, p2] ((p3 &&& (2147483647 : Int32)) % (3 : Int32)) ((p4 &&& (2147483647 : Int32)) % (3 : Int32)))) = (own_f8 (List.getD [p0, p1, p2] (((p3 &&& (2147483647 : Int32)) % (3 : Int32))).toNatClampNeg 0) (List.getD [p0, p1, p2] (((p4 &&& (2147483647 : Int32)) % (3 : Int32))).toNatClampNeg 0)) then (1 : Int32) else (0 : Int32))), .val (.int (own_f4 (List.set [p0, p1, p2] (((p3 &&& (2147483647 : Int32)) % (3 : Int32))).toNatClampNeg p5) ((p3 &&& (2147483647 : Int32)) % (3 : Int32)) ((p4 &&& (2147483647 : Int32)) % (3 : Int32)))), .unset] [(.ref b1), (.int (List.getD (List.set [p0, p1, p2] (((p3 &&& (2147483647 : Int32)) % (3 : Int32))).toNatClampNeg p5) (((p3 &&& (2147483647 : Int32)) % (3 : Int32))).toNatClampNeg 0)), (.int (own_f7 (own_f4 (List.set [p0, p1, p2] (((p3 &&& (2147483647 : Int32)) % (3 : Int32))).toNatClampNeg p5) ((p3 &&& (2147483647 : Int32)) % (3 : Int32)) ((p4 &&& (2147483647 : Int32)) % (3 : Int32)))))]))
  refine own_go (fun _ k => XS.iload X37.here hx rfl (hb hby at_129) rfl k) ?_
  show own_Fin _ _ _ _ _ _ _ (T37.setTop (mkF m 131 #[.val (.int p0), .val (.int p1), .val (.int p2), .val (.int p3), .val (.int p4), .val (.int p5), .val (.ref b1), .val (.ref b2), .val (.int ((p3 &&& (2147483647 : Int32)) % (3 : Int32))), .val (.int ((p4 &&& (2147483647 : Int32)) % (3 : Int32))), .val (.int (own_f4 [p0, p1, p2] ((p3 &&& (2147483647 : Int32)) % (3 : Int32)) ((p4 &&& (2147483647 : Int32)) % (3 : Int32)))), .val (.int (if (own_f7 (own_f4 [p0, p1, p2] ((p3 &&& (2147483647 : Int32)) % (3 : Int32)) ((p4 &&& (2147483647 : Int32)) % (3 : Int32)))) = (own_f8 (List.getD [p0, p1, p2] (((p3 &&& (2147483647 : Int32)) % (3 : Int32))).toNatClampNeg 0) (List.getD [p0, p1, p2] (((p4 &&& (2147483647 : Int32)) % (3 : Int32))).toNatClampNeg 0)) then (1 : Int32) else (0 : Int32))), .val (.int (own_f4 (List.set [p0, p1, p2] (((p3 &&& (2147483647 : Int32)) % (3 : Int32))).toNatClampNeg p5) ((p3 &&& (2147483647 : Int32)) % (3 : Int32)) ((p4 &&& (2147483647 : Int32)) % (3 : Int32)))), .unset] [(.int ((p4 &&& (2147483647 : Int32)) % (3 : Int32))), (.ref b1), (.int (List.getD (List.set [p0, p1, p2] (((p3 &&& (2147483647 : Int32)) % (3 : Int32))).toNatClampNeg p5) (((p3 &&& (2147483647 : Int32)) % (3 : Int32))).toNatClampNeg 0)), (.int (own_f7 (own_f4 (List.set [p0, p1, p2] (((p3 &&& (2147483647 : Int32)) % (3 : Int32))).toNatClampNeg p5) ((p3 &&& (2147483647 : Int32)) % (3 : Int32)) ((p4 &&& (2147483647 : Int32)) % (3 : Int32)))))]))
  refine own_ldI X37 hx hZ e37 A29 (own_nneg (own_lo _)) (by rw [List.length_set]; exact own_lt3 (own_lo _) (own_hi _)) (hb hby at_131) ?_
  show own_Fin _ _ _ _ _ _ _ (T37.setTop (mkF m 132 #[.val (.int p0), .val (.int p1), .val (.int p2), .val (.int p3), .val (.int p4), .val (.int p5), .val (.ref b1), .val (.ref b2), .val (.int ((p3 &&& (2147483647 : Int32)) % (3 : Int32))), .val (.int ((p4 &&& (2147483647 : Int32)) % (3 : Int32))), .val (.int (own_f4 [p0, p1, p2] ((p3 &&& (2147483647 : Int32)) % (3 : Int32)) ((p4 &&& (2147483647 : Int32)) % (3 : Int32)))), .val (.int (if (own_f7 (own_f4 [p0, p1, p2] ((p3 &&& (2147483647 : Int32)) % (3 : Int32)) ((p4 &&& (2147483647 : Int32)) % (3 : Int32)))) = (own_f8 (List.getD [p0, p1, p2] (((p3 &&& (2147483647 : Int32)) % (3 : Int32))).toNatClampNeg 0) (List.getD [p0, p1, p2] (((p4 &&& (2147483647 : Int32)) % (3 : Int32))).toNatClampNeg 0)) then (1 : Int32) else (0 : Int32))), .val (.int (own_f4 (List.set [p0, p1, p2] (((p3 &&& (2147483647 : Int32)) % (3 : Int32))).toNatClampNeg p5) ((p3 &&& (2147483647 : Int32)) % (3 : Int32)) ((p4 &&& (2147483647 : Int32)) % (3 : Int32)))), .unset] [(.int (List.getD (List.set [p0, p1, p2] (((p3 &&& (2147483647 : Int32)) % (3 : Int32))).toNatClampNeg p5) (((p4 &&& (2147483647 : Int32)) % (3 : Int32))).toNatClampNeg 0)), (.int (List.getD (List.set [p0, p1, p2] (((p3 &&& (2147483647 : Int32)) % (3 : Int32))).toNatClampNeg p5) (((p3 &&& (2147483647 : Int32)) % (3 : Int32))).toNatClampNeg 0)), (.int (own_f7 (own_f4 (List.set [p0, p1, p2] (((p3 &&& (2147483647 : Int32)) % (3 : Int32))).toNatClampNeg p5) ((p3 &&& (2147483647 : Int32)) % (3 : Int32)) ((p4 &&& (2147483647 : Int32)) % (3 : Int32)))))]))
  refine own_callS X37 hx hZ hown (hw _ (List.mem_of_getElem? (i := 39) rfl)) (hw _ (List.mem_of_getElem? (i := 40) rfl)) (hw _ (List.mem_of_getElem? (i := 37) rfl)) (hw _ (List.mem_of_getElem? (i := 41) rfl)) (by decide) (rm8 l Z a0 hw (List.getD (List.set [p0, p1, p2] (((p3 &&& (2147483647 : Int32)) % (3 : Int32))).toNatClampNeg p5) (((p3 &&& (2147483647 : Int32)) % (3 : Int32))).toNatClampNeg 0) (List.getD (List.set [p0, p1, p2] (((p3 &&& (2147483647 : Int32)) % (3 : Int32))).toNatClampNeg p5) (((p4 &&& (2147483647 : Int32)) % (3 : Int32))).toNatClampNeg 0) h29 n0 Z29) e37 (argsL := [(.int (List.getD (List.set [p0, p1, p2] (((p3 &&& (2147483647 : Int32)) % (3 : Int32))).toNatClampNeg p5) (((p3 &&& (2147483647 : Int32)) % (3 : Int32))).toNatClampNeg 0)), (.int (List.getD (List.set [p0, p1, p2] (((p3 &&& (2147483647 : Int32)) % (3 : Int32))).toNatClampNeg p5) (((p4 &&& (2147483647 : Int32)) % (3 : Int32))).toNatClampNeg 0))]) (rest := [(.int (own_f7 (own_f4 (List.set [p0, p1, p2] (((p3 &&& (2147483647 : Int32)) % (3 : Int32))).toNatClampNeg p5) ((p3 &&& (2147483647 : Int32)) % (3 : Int32)) ((p4 &&& (2147483647 : Int32)) % (3 : Int32)))))]) rfl rfl (by rw [hml]; rfl) (lenOf pd_0_4 rfl) (hb hby at_132) (W := 1) (Nat.le_of_eq rfl) (by decide) (by decide) (by decide) (by decide) ?_
  rintro v38 T38 L38 X38 ⟨rfl, M38, e38⟩
  have N38 := Fr.app N37 M38
  show own_Fin _ _ _ _ _ _ _ (T38.setTop (mkF m 135 #[.val (.int p0), .val (.int p1), .val (.int p2), .val (.int p3), .val (.int p4), .val (.int p5), .val (.ref b1), .val (.ref b2), .val (.int ((p3 &&& (2147483647 : Int32)) % (3 : Int32))), .val (.int ((p4 &&& (2147483647 : Int32)) % (3 : Int32))), .val (.int (own_f4 [p0, p1, p2] ((p3 &&& (2147483647 : Int32)) % (3 : Int32)) ((p4 &&& (2147483647 : Int32)) % (3 : Int32)))), .val (.int (if (own_f7 (own_f4 [p0, p1, p2] ((p3 &&& (2147483647 : Int32)) % (3 : Int32)) ((p4 &&& (2147483647 : Int32)) % (3 : Int32)))) = (own_f8 (List.getD [p0, p1, p2] (((p3 &&& (2147483647 : Int32)) % (3 : Int32))).toNatClampNeg 0) (List.getD [p0, p1, p2] (((p4 &&& (2147483647 : Int32)) % (3 : Int32))).toNatClampNeg 0)) then (1 : Int32) else (0 : Int32))), .val (.int (own_f4 (List.set [p0, p1, p2] (((p3 &&& (2147483647 : Int32)) % (3 : Int32))).toNatClampNeg p5) ((p3 &&& (2147483647 : Int32)) % (3 : Int32)) ((p4 &&& (2147483647 : Int32)) % (3 : Int32)))), .unset] [(.int (own_f8 (List.getD (List.set [p0, p1, p2] (((p3 &&& (2147483647 : Int32)) % (3 : Int32))).toNatClampNeg p5) (((p3 &&& (2147483647 : Int32)) % (3 : Int32))).toNatClampNeg 0) (List.getD (List.set [p0, p1, p2] (((p3 &&& (2147483647 : Int32)) % (3 : Int32))).toNatClampNeg p5) (((p4 &&& (2147483647 : Int32)) % (3 : Int32))).toNatClampNeg 0))), (.int (own_f7 (own_f4 (List.set [p0, p1, p2] (((p3 &&& (2147483647 : Int32)) % (3 : Int32))).toNatClampNeg p5) ((p3 &&& (2147483647 : Int32)) % (3 : Int32)) ((p4 &&& (2147483647 : Int32)) % (3 : Int32)))))]))
  refine own_go (U' := T38.setTop (mkF m 143 #[.val (.int p0), .val (.int p1), .val (.int p2), .val (.int p3), .val (.int p4), .val (.int p5), .val (.ref b1), .val (.ref b2), .val (.int ((p3 &&& (2147483647 : Int32)) % (3 : Int32))), .val (.int ((p4 &&& (2147483647 : Int32)) % (3 : Int32))), .val (.int (own_f4 [p0, p1, p2] ((p3 &&& (2147483647 : Int32)) % (3 : Int32)) ((p4 &&& (2147483647 : Int32)) % (3 : Int32)))), .val (.int (if (own_f7 (own_f4 [p0, p1, p2] ((p3 &&& (2147483647 : Int32)) % (3 : Int32)) ((p4 &&& (2147483647 : Int32)) % (3 : Int32)))) = (own_f8 (List.getD [p0, p1, p2] (((p3 &&& (2147483647 : Int32)) % (3 : Int32))).toNatClampNeg 0) (List.getD [p0, p1, p2] (((p4 &&& (2147483647 : Int32)) % (3 : Int32))).toNatClampNeg 0)) then (1 : Int32) else (0 : Int32))), .val (.int (own_f4 (List.set [p0, p1, p2] (((p3 &&& (2147483647 : Int32)) % (3 : Int32))).toNatClampNeg p5) ((p3 &&& (2147483647 : Int32)) % (3 : Int32)) ((p4 &&& (2147483647 : Int32)) % (3 : Int32)))), .unset] [(.int (if (own_f7 (own_f4 (List.set [p0, p1, p2] (((p3 &&& (2147483647 : Int32)) % (3 : Int32))).toNatClampNeg p5) ((p3 &&& (2147483647 : Int32)) % (3 : Int32)) ((p4 &&& (2147483647 : Int32)) % (3 : Int32)))) = (own_f8 (List.getD (List.set [p0, p1, p2] (((p3 &&& (2147483647 : Int32)) % (3 : Int32))).toNatClampNeg p5) (((p3 &&& (2147483647 : Int32)) % (3 : Int32))).toNatClampNeg 0) (List.getD (List.set [p0, p1, p2] (((p3 &&& (2147483647 : Int32)) % (3 : Int32))).toNatClampNeg p5) (((p4 &&& (2147483647 : Int32)) % (3 : Int32))).toNatClampNeg 0)) then (1 : Int32) else (0 : Int32)))])) (fun t k => ?_) ?_
  · by_cases hd135 : (own_f7 (own_f4 (List.set [p0, p1, p2] (((p3 &&& (2147483647 : Int32)) % (3 : Int32))).toNatClampNeg p5) ((p3 &&& (2147483647 : Int32)) % (3 : Int32)) ((p4 &&& (2147483647 : Int32)) % (3 : Int32)))) = (own_f8 (List.getD (List.set [p0, p1, p2] (((p3 &&& (2147483647 : Int32)) % (3 : Int32))).toNatClampNeg p5) (((p3 &&& (2147483647 : Int32)) % (3 : Int32))).toNatClampNeg 0) (List.getD (List.set [p0, p1, p2] (((p3 &&& (2147483647 : Int32)) % (3 : Int32))).toNatClampNeg p5) (((p4 &&& (2147483647 : Int32)) % (3 : Int32))).toNatClampNeg 0))
    · simp only [if_pos hd135] at k
      refine XS.icmpNo X38.here hx rfl (hb hby at_135) rfl (XT.ii_ne_f hd135) ?_
      show Steps p.tables e below (T38.setTop (mkF m 138 #[.val (.int p0), .val (.int p1), .val (.int p2), .val (.int p3), .val (.int p4), .val (.int p5), .val (.ref b1), .val (.ref b2), .val (.int ((p3 &&& (2147483647 : Int32)) % (3 : Int32))), .val (.int ((p4 &&& (2147483647 : Int32)) % (3 : Int32))), .val (.int (own_f4 [p0, p1, p2] ((p3 &&& (2147483647 : Int32)) % (3 : Int32)) ((p4 &&& (2147483647 : Int32)) % (3 : Int32)))), .val (.int (if (own_f7 (own_f4 [p0, p1, p2] ((p3 &&& (2147483647 : Int32)) % (3 : Int32)) ((p4 &&& (2147483647 : Int32)) % (3 : Int32)))) = (own_f8 (List.getD [p0, p1, p2] (((p3 &&& (2147483647 : Int32)) % (3 : Int32))).toNatClampNeg 0) (List.getD [p0, p1, p2] (((p4 &&& (2147483647 : Int32)) % (3 : Int32))).toNatClampNeg 0)) then (1 : Int32) else (0 : Int32))), .val (.int (own_f4 (List.set [p0, p1, p2] (((p3 &&& (2147483647 : Int32)) % (3 : Int32))).toNatClampNeg p5) ((p3 &&& (2147483647 : Int32)) % (3 : Int32)) ((p4 &&& (2147483647 : Int32)) % (3 : Int32)))), .unset] [])) _
      refine XS.iconst X38.here hx rfl (hb hby at_138) ?_
      show Steps p.tables e below (T38.setTop (mkF m 139 #[.val (.int p0), .val (.int p1), .val (.int p2), .val (.int p3), .val (.int p4), .val (.int p5), .val (.ref b1), .val (.ref b2), .val (.int ((p3 &&& (2147483647 : Int32)) % (3 : Int32))), .val (.int ((p4 &&& (2147483647 : Int32)) % (3 : Int32))), .val (.int (own_f4 [p0, p1, p2] ((p3 &&& (2147483647 : Int32)) % (3 : Int32)) ((p4 &&& (2147483647 : Int32)) % (3 : Int32)))), .val (.int (if (own_f7 (own_f4 [p0, p1, p2] ((p3 &&& (2147483647 : Int32)) % (3 : Int32)) ((p4 &&& (2147483647 : Int32)) % (3 : Int32)))) = (own_f8 (List.getD [p0, p1, p2] (((p3 &&& (2147483647 : Int32)) % (3 : Int32))).toNatClampNeg 0) (List.getD [p0, p1, p2] (((p4 &&& (2147483647 : Int32)) % (3 : Int32))).toNatClampNeg 0)) then (1 : Int32) else (0 : Int32))), .val (.int (own_f4 (List.set [p0, p1, p2] (((p3 &&& (2147483647 : Int32)) % (3 : Int32))).toNatClampNeg p5) ((p3 &&& (2147483647 : Int32)) % (3 : Int32)) ((p4 &&& (2147483647 : Int32)) % (3 : Int32)))), .unset] [(.int (1 : Int32))])) _
      refine XS.goto X38.here hx rfl (pc0 := 139) (pc' := 143) rfl (hb hby at_139) (by decide) (by decide) ?_
      show Steps p.tables e below (T38.setTop (mkF m 143 #[.val (.int p0), .val (.int p1), .val (.int p2), .val (.int p3), .val (.int p4), .val (.int p5), .val (.ref b1), .val (.ref b2), .val (.int ((p3 &&& (2147483647 : Int32)) % (3 : Int32))), .val (.int ((p4 &&& (2147483647 : Int32)) % (3 : Int32))), .val (.int (own_f4 [p0, p1, p2] ((p3 &&& (2147483647 : Int32)) % (3 : Int32)) ((p4 &&& (2147483647 : Int32)) % (3 : Int32)))), .val (.int (if (own_f7 (own_f4 [p0, p1, p2] ((p3 &&& (2147483647 : Int32)) % (3 : Int32)) ((p4 &&& (2147483647 : Int32)) % (3 : Int32)))) = (own_f8 (List.getD [p0, p1, p2] (((p3 &&& (2147483647 : Int32)) % (3 : Int32))).toNatClampNeg 0) (List.getD [p0, p1, p2] (((p4 &&& (2147483647 : Int32)) % (3 : Int32))).toNatClampNeg 0)) then (1 : Int32) else (0 : Int32))), .val (.int (own_f4 (List.set [p0, p1, p2] (((p3 &&& (2147483647 : Int32)) % (3 : Int32))).toNatClampNeg p5) ((p3 &&& (2147483647 : Int32)) % (3 : Int32)) ((p4 &&& (2147483647 : Int32)) % (3 : Int32)))), .unset] [(.int (1 : Int32))])) _
      exact k
    · simp only [if_neg hd135] at k
      refine XS.icmpYes X38.here hx rfl (pc0 := 135) (pc' := 142) rfl (hb hby at_135) rfl (XT.ii_ne_t hd135) (by decide) (by decide) ?_
      show Steps p.tables e below (T38.setTop (mkF m 142 #[.val (.int p0), .val (.int p1), .val (.int p2), .val (.int p3), .val (.int p4), .val (.int p5), .val (.ref b1), .val (.ref b2), .val (.int ((p3 &&& (2147483647 : Int32)) % (3 : Int32))), .val (.int ((p4 &&& (2147483647 : Int32)) % (3 : Int32))), .val (.int (own_f4 [p0, p1, p2] ((p3 &&& (2147483647 : Int32)) % (3 : Int32)) ((p4 &&& (2147483647 : Int32)) % (3 : Int32)))), .val (.int (if (own_f7 (own_f4 [p0, p1, p2] ((p3 &&& (2147483647 : Int32)) % (3 : Int32)) ((p4 &&& (2147483647 : Int32)) % (3 : Int32)))) = (own_f8 (List.getD [p0, p1, p2] (((p3 &&& (2147483647 : Int32)) % (3 : Int32))).toNatClampNeg 0) (List.getD [p0, p1, p2] (((p4 &&& (2147483647 : Int32)) % (3 : Int32))).toNatClampNeg 0)) then (1 : Int32) else (0 : Int32))), .val (.int (own_f4 (List.set [p0, p1, p2] (((p3 &&& (2147483647 : Int32)) % (3 : Int32))).toNatClampNeg p5) ((p3 &&& (2147483647 : Int32)) % (3 : Int32)) ((p4 &&& (2147483647 : Int32)) % (3 : Int32)))), .unset] [])) _
      refine XS.iconst X38.here hx rfl (hb hby at_142) ?_
      show Steps p.tables e below (T38.setTop (mkF m 143 #[.val (.int p0), .val (.int p1), .val (.int p2), .val (.int p3), .val (.int p4), .val (.int p5), .val (.ref b1), .val (.ref b2), .val (.int ((p3 &&& (2147483647 : Int32)) % (3 : Int32))), .val (.int ((p4 &&& (2147483647 : Int32)) % (3 : Int32))), .val (.int (own_f4 [p0, p1, p2] ((p3 &&& (2147483647 : Int32)) % (3 : Int32)) ((p4 &&& (2147483647 : Int32)) % (3 : Int32)))), .val (.int (if (own_f7 (own_f4 [p0, p1, p2] ((p3 &&& (2147483647 : Int32)) % (3 : Int32)) ((p4 &&& (2147483647 : Int32)) % (3 : Int32)))) = (own_f8 (List.getD [p0, p1, p2] (((p3 &&& (2147483647 : Int32)) % (3 : Int32))).toNatClampNeg 0) (List.getD [p0, p1, p2] (((p4 &&& (2147483647 : Int32)) % (3 : Int32))).toNatClampNeg 0)) then (1 : Int32) else (0 : Int32))), .val (.int (own_f4 (List.set [p0, p1, p2] (((p3 &&& (2147483647 : Int32)) % (3 : Int32))).toNatClampNeg p5) ((p3 &&& (2147483647 : Int32)) % (3 : Int32)) ((p4 &&& (2147483647 : Int32)) % (3 : Int32)))), .unset] [(.int (0 : Int32))])) _
      exact k
  show own_Fin _ _ _ _ _ _ _ (T38.setTop (mkF m 143 #[.val (.int p0), .val (.int p1), .val (.int p2), .val (.int p3), .val (.int p4), .val (.int p5), .val (.ref b1), .val (.ref b2), .val (.int ((p3 &&& (2147483647 : Int32)) % (3 : Int32))), .val (.int ((p4 &&& (2147483647 : Int32)) % (3 : Int32))), .val (.int (own_f4 [p0, p1, p2] ((p3 &&& (2147483647 : Int32)) % (3 : Int32)) ((p4 &&& (2147483647 : Int32)) % (3 : Int32)))), .val (.int (if (own_f7 (own_f4 [p0, p1, p2] ((p3 &&& (2147483647 : Int32)) % (3 : Int32)) ((p4 &&& (2147483647 : Int32)) % (3 : Int32)))) = (own_f8 (List.getD [p0, p1, p2] (((p3 &&& (2147483647 : Int32)) % (3 : Int32))).toNatClampNeg 0) (List.getD [p0, p1, p2] (((p4 &&& (2147483647 : Int32)) % (3 : Int32))).toNatClampNeg 0)) then (1 : Int32) else (0 : Int32))), .val (.int (own_f4 (List.set [p0, p1, p2] (((p3 &&& (2147483647 : Int32)) % (3 : Int32))).toNatClampNeg p5) ((p3 &&& (2147483647 : Int32)) % (3 : Int32)) ((p4 &&& (2147483647 : Int32)) % (3 : Int32)))), .unset] [(.int (if (own_f7 (own_f4 (List.set [p0, p1, p2] (((p3 &&& (2147483647 : Int32)) % (3 : Int32))).toNatClampNeg p5) ((p3 &&& (2147483647 : Int32)) % (3 : Int32)) ((p4 &&& (2147483647 : Int32)) % (3 : Int32)))) = (own_f8 (List.getD (List.set [p0, p1, p2] (((p3 &&& (2147483647 : Int32)) % (3 : Int32))).toNatClampNeg p5) (((p3 &&& (2147483647 : Int32)) % (3 : Int32))).toNatClampNeg 0) (List.getD (List.set [p0, p1, p2] (((p3 &&& (2147483647 : Int32)) % (3 : Int32))).toNatClampNeg p5) (((p4 &&& (2147483647 : Int32)) % (3 : Int32))).toNatClampNeg 0)) then (1 : Int32) else (0 : Int32)))]))
  refine own_go (fun _ k => XS.istore X38.here hx rfl (hb hby at_143) rfl (l' := #[.val (.int p0), .val (.int p1), .val (.int p2), .val (.int p3), .val (.int p4), .val (.int p5), .val (.ref b1), .val (.ref b2), .val (.int ((p3 &&& (2147483647 : Int32)) % (3 : Int32))), .val (.int ((p4 &&& (2147483647 : Int32)) % (3 : Int32))), .val (.int (own_f4 [p0, p1, p2] ((p3 &&& (2147483647 : Int32)) % (3 : Int32)) ((p4 &&& (2147483647 : Int32)) % (3 : Int32)))), .val (.int (if (own_f7 (own_f4 [p0, p1, p2] ((p3 &&& (2147483647 : Int32)) % (3 : Int32)) ((p4 &&& (2147483647 : Int32)) % (3 : Int32)))) = (own_f8 (List.getD [p0, p1, p2] (((p3 &&& (2147483647 : Int32)) % (3 : Int32))).toNatClampNeg 0) (List.getD [p0, p1, p2] (((p4 &&& (2147483647 : Int32)) % (3 : Int32))).toNatClampNeg 0)) then (1 : Int32) else (0 : Int32))), .val (.int (own_f4 (List.set [p0, p1, p2] (((p3 &&& (2147483647 : Int32)) % (3 : Int32))).toNatClampNeg p5) ((p3 &&& (2147483647 : Int32)) % (3 : Int32)) ((p4 &&& (2147483647 : Int32)) % (3 : Int32)))), .val (.int (if (own_f7 (own_f4 (List.set [p0, p1, p2] (((p3 &&& (2147483647 : Int32)) % (3 : Int32))).toNatClampNeg p5) ((p3 &&& (2147483647 : Int32)) % (3 : Int32)) ((p4 &&& (2147483647 : Int32)) % (3 : Int32)))) = (own_f8 (List.getD (List.set [p0, p1, p2] (((p3 &&& (2147483647 : Int32)) % (3 : Int32))).toNatClampNeg p5) (((p3 &&& (2147483647 : Int32)) % (3 : Int32))).toNatClampNeg 0) (List.getD (List.set [p0, p1, p2] (((p3 &&& (2147483647 : Int32)) % (3 : Int32))).toNatClampNeg p5) (((p4 &&& (2147483647 : Int32)) % (3 : Int32))).toNatClampNeg 0)) then (1 : Int32) else (0 : Int32)))]) rfl k) ?_
  show own_Fin _ _ _ _ _ _ _ (T38.setTop (mkF m 145 #[.val (.int p0), .val (.int p1), .val (.int p2), .val (.int p3), .val (.int p4), .val (.int p5), .val (.ref b1), .val (.ref b2), .val (.int ((p3 &&& (2147483647 : Int32)) % (3 : Int32))), .val (.int ((p4 &&& (2147483647 : Int32)) % (3 : Int32))), .val (.int (own_f4 [p0, p1, p2] ((p3 &&& (2147483647 : Int32)) % (3 : Int32)) ((p4 &&& (2147483647 : Int32)) % (3 : Int32)))), .val (.int (if (own_f7 (own_f4 [p0, p1, p2] ((p3 &&& (2147483647 : Int32)) % (3 : Int32)) ((p4 &&& (2147483647 : Int32)) % (3 : Int32)))) = (own_f8 (List.getD [p0, p1, p2] (((p3 &&& (2147483647 : Int32)) % (3 : Int32))).toNatClampNeg 0) (List.getD [p0, p1, p2] (((p4 &&& (2147483647 : Int32)) % (3 : Int32))).toNatClampNeg 0)) then (1 : Int32) else (0 : Int32))), .val (.int (own_f4 (List.set [p0, p1, p2] (((p3 &&& (2147483647 : Int32)) % (3 : Int32))).toNatClampNeg p5) ((p3 &&& (2147483647 : Int32)) % (3 : Int32)) ((p4 &&& (2147483647 : Int32)) % (3 : Int32)))), .val (.int (if (own_f7 (own_f4 (List.set [p0, p1, p2] (((p3 &&& (2147483647 : Int32)) % (3 : Int32))).toNatClampNeg p5) ((p3 &&& (2147483647 : Int32)) % (3 : Int32)) ((p4 &&& (2147483647 : Int32)) % (3 : Int32)))) = (own_f8 (List.getD (List.set [p0, p1, p2] (((p3 &&& (2147483647 : Int32)) % (3 : Int32))).toNatClampNeg p5) (((p3 &&& (2147483647 : Int32)) % (3 : Int32))).toNatClampNeg 0) (List.getD (List.set [p0, p1, p2] (((p3 &&& (2147483647 : Int32)) % (3 : Int32))).toNatClampNeg p5) (((p4 &&& (2147483647 : Int32)) % (3 : Int32))).toNatClampNeg 0)) then (1 : Int32) else (0 : Int32)))] []))
  refine own_go (fun _ k => XS.iload X38.here hx rfl (hb hby at_145) rfl k) ?_
  show own_Fin _ _ _ _ _ _ _ (T38.setTop (mkF m 147 #[.val (.int p0), .val (.int p1), .val (.int p2), .val (.int p3), .val (.int p4), .val (.int p5), .val (.ref b1), .val (.ref b2), .val (.int ((p3 &&& (2147483647 : Int32)) % (3 : Int32))), .val (.int ((p4 &&& (2147483647 : Int32)) % (3 : Int32))), .val (.int (own_f4 [p0, p1, p2] ((p3 &&& (2147483647 : Int32)) % (3 : Int32)) ((p4 &&& (2147483647 : Int32)) % (3 : Int32)))), .val (.int (if (own_f7 (own_f4 [p0, p1, p2] ((p3 &&& (2147483647 : Int32)) % (3 : Int32)) ((p4 &&& (2147483647 : Int32)) % (3 : Int32)))) = (own_f8 (List.getD [p0, p1, p2] (((p3 &&& (2147483647 : Int32)) % (3 : Int32))).toNatClampNeg 0) (List.getD [p0, p1, p2] (((p4 &&& (2147483647 : Int32)) % (3 : Int32))).toNatClampNeg 0)) then (1 : Int32) else (0 : Int32))), .val (.int (own_f4 (List.set [p0, p1, p2] (((p3 &&& (2147483647 : Int32)) % (3 : Int32))).toNatClampNeg p5) ((p3 &&& (2147483647 : Int32)) % (3 : Int32)) ((p4 &&& (2147483647 : Int32)) % (3 : Int32)))), .val (.int (if (own_f7 (own_f4 (List.set [p0, p1, p2] (((p3 &&& (2147483647 : Int32)) % (3 : Int32))).toNatClampNeg p5) ((p3 &&& (2147483647 : Int32)) % (3 : Int32)) ((p4 &&& (2147483647 : Int32)) % (3 : Int32)))) = (own_f8 (List.getD (List.set [p0, p1, p2] (((p3 &&& (2147483647 : Int32)) % (3 : Int32))).toNatClampNeg p5) (((p3 &&& (2147483647 : Int32)) % (3 : Int32))).toNatClampNeg 0) (List.getD (List.set [p0, p1, p2] (((p3 &&& (2147483647 : Int32)) % (3 : Int32))).toNatClampNeg p5) (((p4 &&& (2147483647 : Int32)) % (3 : Int32))).toNatClampNeg 0)) then (1 : Int32) else (0 : Int32)))] [(.int (if (own_f7 (own_f4 [p0, p1, p2] ((p3 &&& (2147483647 : Int32)) % (3 : Int32)) ((p4 &&& (2147483647 : Int32)) % (3 : Int32)))) = (own_f8 (List.getD [p0, p1, p2] (((p3 &&& (2147483647 : Int32)) % (3 : Int32))).toNatClampNeg 0) (List.getD [p0, p1, p2] (((p4 &&& (2147483647 : Int32)) % (3 : Int32))).toNatClampNeg 0)) then (1 : Int32) else (0 : Int32)))]))
  by_cases hc147 : (if (own_f7 (own_f4 [p0, p1, p2] ((p3 &&& (2147483647 : Int32)) % (3 : Int32)) ((p4 &&& (2147483647 : Int32)) % (3 : Int32)))) = (own_f8 (List.getD [p0, p1, p2] (((p3 &&& (2147483647 : Int32)) % (3 : Int32))).toNatClampNeg 0) (List.getD [p0, p1, p2] (((p4 &&& (2147483647 : Int32)) % (3 : Int32))).toNatClampNeg 0)) then (1 : Int32) else (0 : Int32)) = 0
  · refine own_go (fun _ k => XS.ifYes X38.here hx rfl (pc0 := 147) (pc' := 159) rfl (hb hby at_147) rfl (XT.i0_eq_t hc147) (by decide) (by decide) k) ?_
    show own_Fin _ _ _ _ _ _ _ (T38.setTop (mkF m 159 #[.val (.int p0), .val (.int p1), .val (.int p2), .val (.int p3), .val (.int p4), .val (.int p5), .val (.ref b1), .val (.ref b2), .val (.int ((p3 &&& (2147483647 : Int32)) % (3 : Int32))), .val (.int ((p4 &&& (2147483647 : Int32)) % (3 : Int32))), .val (.int (own_f4 [p0, p1, p2] ((p3 &&& (2147483647 : Int32)) % (3 : Int32)) ((p4 &&& (2147483647 : Int32)) % (3 : Int32)))), .val (.int (if (own_f7 (own_f4 [p0, p1, p2] ((p3 &&& (2147483647 : Int32)) % (3 : Int32)) ((p4 &&& (2147483647 : Int32)) % (3 : Int32)))) = (own_f8 (List.getD [p0, p1, p2] (((p3 &&& (2147483647 : Int32)) % (3 : Int32))).toNatClampNeg 0) (List.getD [p0, p1, p2] (((p4 &&& (2147483647 : Int32)) % (3 : Int32))).toNatClampNeg 0)) then (1 : Int32) else (0 : Int32))), .val (.int (own_f4 (List.set [p0, p1, p2] (((p3 &&& (2147483647 : Int32)) % (3 : Int32))).toNatClampNeg p5) ((p3 &&& (2147483647 : Int32)) % (3 : Int32)) ((p4 &&& (2147483647 : Int32)) % (3 : Int32)))), .val (.int (if (own_f7 (own_f4 (List.set [p0, p1, p2] (((p3 &&& (2147483647 : Int32)) % (3 : Int32))).toNatClampNeg p5) ((p3 &&& (2147483647 : Int32)) % (3 : Int32)) ((p4 &&& (2147483647 : Int32)) % (3 : Int32)))) = (own_f8 (List.getD (List.set [p0, p1, p2] (((p3 &&& (2147483647 : Int32)) % (3 : Int32))).toNatClampNeg p5) (((p3 &&& (2147483647 : Int32)) % (3 : Int32))).toNatClampNeg 0) (List.getD (List.set [p0, p1, p2] (((p3 &&& (2147483647 : Int32)) % (3 : Int32))).toNatClampNeg p5) (((p4 &&& (2147483647 : Int32)) % (3 : Int32))).toNatClampNeg 0)) then (1 : Int32) else (0 : Int32)))] []))
    refine own_go (fun _ k => XS.iconst X38.here hx rfl (hb hby at_159) k) ?_
    show own_Fin _ _ _ _ _ _ _ (T38.setTop (mkF m 160 #[.val (.int p0), .val (.int p1), .val (.int p2), .val (.int p3), .val (.int p4), .val (.int p5), .val (.ref b1), .val (.ref b2), .val (.int ((p3 &&& (2147483647 : Int32)) % (3 : Int32))), .val (.int ((p4 &&& (2147483647 : Int32)) % (3 : Int32))), .val (.int (own_f4 [p0, p1, p2] ((p3 &&& (2147483647 : Int32)) % (3 : Int32)) ((p4 &&& (2147483647 : Int32)) % (3 : Int32)))), .val (.int (if (own_f7 (own_f4 [p0, p1, p2] ((p3 &&& (2147483647 : Int32)) % (3 : Int32)) ((p4 &&& (2147483647 : Int32)) % (3 : Int32)))) = (own_f8 (List.getD [p0, p1, p2] (((p3 &&& (2147483647 : Int32)) % (3 : Int32))).toNatClampNeg 0) (List.getD [p0, p1, p2] (((p4 &&& (2147483647 : Int32)) % (3 : Int32))).toNatClampNeg 0)) then (1 : Int32) else (0 : Int32))), .val (.int (own_f4 (List.set [p0, p1, p2] (((p3 &&& (2147483647 : Int32)) % (3 : Int32))).toNatClampNeg p5) ((p3 &&& (2147483647 : Int32)) % (3 : Int32)) ((p4 &&& (2147483647 : Int32)) % (3 : Int32)))), .val (.int (if (own_f7 (own_f4 (List.set [p0, p1, p2] (((p3 &&& (2147483647 : Int32)) % (3 : Int32))).toNatClampNeg p5) ((p3 &&& (2147483647 : Int32)) % (3 : Int32)) ((p4 &&& (2147483647 : Int32)) % (3 : Int32)))) = (own_f8 (List.getD (List.set [p0, p1, p2] (((p3 &&& (2147483647 : Int32)) % (3 : Int32))).toNatClampNeg p5) (((p3 &&& (2147483647 : Int32)) % (3 : Int32))).toNatClampNeg 0) (List.getD (List.set [p0, p1, p2] (((p3 &&& (2147483647 : Int32)) % (3 : Int32))).toNatClampNeg p5) (((p4 &&& (2147483647 : Int32)) % (3 : Int32))).toNatClampNeg 0)) then (1 : Int32) else (0 : Int32)))] [(.int (0 : Int32))]))
    exact own_retZ X38 hx hlk hret rfl (hb hby at_160) (by decide) (by decide) ⟨(by rw [own_f0, if_pos hc147]), N38⟩
  · refine own_go (fun _ k => XS.ifNo X38.here hx rfl (hb hby at_147) rfl (XT.i0_eq_f hc147) k) ?_
    show own_Fin _ _ _ _ _ _ _ (T38.setTop (mkF m 150 #[.val (.int p0), .val (.int p1), .val (.int p2), .val (.int p3), .val (.int p4), .val (.int p5), .val (.ref b1), .val (.ref b2), .val (.int ((p3 &&& (2147483647 : Int32)) % (3 : Int32))), .val (.int ((p4 &&& (2147483647 : Int32)) % (3 : Int32))), .val (.int (own_f4 [p0, p1, p2] ((p3 &&& (2147483647 : Int32)) % (3 : Int32)) ((p4 &&& (2147483647 : Int32)) % (3 : Int32)))), .val (.int (if (own_f7 (own_f4 [p0, p1, p2] ((p3 &&& (2147483647 : Int32)) % (3 : Int32)) ((p4 &&& (2147483647 : Int32)) % (3 : Int32)))) = (own_f8 (List.getD [p0, p1, p2] (((p3 &&& (2147483647 : Int32)) % (3 : Int32))).toNatClampNeg 0) (List.getD [p0, p1, p2] (((p4 &&& (2147483647 : Int32)) % (3 : Int32))).toNatClampNeg 0)) then (1 : Int32) else (0 : Int32))), .val (.int (own_f4 (List.set [p0, p1, p2] (((p3 &&& (2147483647 : Int32)) % (3 : Int32))).toNatClampNeg p5) ((p3 &&& (2147483647 : Int32)) % (3 : Int32)) ((p4 &&& (2147483647 : Int32)) % (3 : Int32)))), .val (.int (if (own_f7 (own_f4 (List.set [p0, p1, p2] (((p3 &&& (2147483647 : Int32)) % (3 : Int32))).toNatClampNeg p5) ((p3 &&& (2147483647 : Int32)) % (3 : Int32)) ((p4 &&& (2147483647 : Int32)) % (3 : Int32)))) = (own_f8 (List.getD (List.set [p0, p1, p2] (((p3 &&& (2147483647 : Int32)) % (3 : Int32))).toNatClampNeg p5) (((p3 &&& (2147483647 : Int32)) % (3 : Int32))).toNatClampNeg 0) (List.getD (List.set [p0, p1, p2] (((p3 &&& (2147483647 : Int32)) % (3 : Int32))).toNatClampNeg p5) (((p4 &&& (2147483647 : Int32)) % (3 : Int32))).toNatClampNeg 0)) then (1 : Int32) else (0 : Int32)))] []))
    refine own_go (fun _ k => XS.iload X38.here hx rfl (hb hby at_150) rfl k) ?_
    show own_Fin _ _ _ _ _ _ _ (T38.setTop (mkF m 152 #[.val (.int p0), .val (.int p1), .val (.int p2), .val (.int p3), .val (.int p4), .val (.int p5), .val (.ref b1), .val (.ref b2), .val (.int ((p3 &&& (2147483647 : Int32)) % (3 : Int32))), .val (.int ((p4 &&& (2147483647 : Int32)) % (3 : Int32))), .val (.int (own_f4 [p0, p1, p2] ((p3 &&& (2147483647 : Int32)) % (3 : Int32)) ((p4 &&& (2147483647 : Int32)) % (3 : Int32)))), .val (.int (if (own_f7 (own_f4 [p0, p1, p2] ((p3 &&& (2147483647 : Int32)) % (3 : Int32)) ((p4 &&& (2147483647 : Int32)) % (3 : Int32)))) = (own_f8 (List.getD [p0, p1, p2] (((p3 &&& (2147483647 : Int32)) % (3 : Int32))).toNatClampNeg 0) (List.getD [p0, p1, p2] (((p4 &&& (2147483647 : Int32)) % (3 : Int32))).toNatClampNeg 0)) then (1 : Int32) else (0 : Int32))), .val (.int (own_f4 (List.set [p0, p1, p2] (((p3 &&& (2147483647 : Int32)) % (3 : Int32))).toNatClampNeg p5) ((p3 &&& (2147483647 : Int32)) % (3 : Int32)) ((p4 &&& (2147483647 : Int32)) % (3 : Int32)))), .val (.int (if (own_f7 (own_f4 (List.set [p0, p1, p2] (((p3 &&& (2147483647 : Int32)) % (3 : Int32))).toNatClampNeg p5) ((p3 &&& (2147483647 : Int32)) % (3 : Int32)) ((p4 &&& (2147483647 : Int32)) % (3 : Int32)))) = (own_f8 (List.getD (List.set [p0, p1, p2] (((p3 &&& (2147483647 : Int32)) % (3 : Int32))).toNatClampNeg p5) (((p3 &&& (2147483647 : Int32)) % (3 : Int32))).toNatClampNeg 0) (List.getD (List.set [p0, p1, p2] (((p3 &&& (2147483647 : Int32)) % (3 : Int32))).toNatClampNeg p5) (((p4 &&& (2147483647 : Int32)) % (3 : Int32))).toNatClampNeg 0)) then (1 : Int32) else (0 : Int32)))] [(.int (if (own_f7 (own_f4 (List.set [p0, p1, p2] (((p3 &&& (2147483647 : Int32)) % (3 : Int32))).toNatClampNeg p5) ((p3 &&& (2147483647 : Int32)) % (3 : Int32)) ((p4 &&& (2147483647 : Int32)) % (3 : Int32)))) = (own_f8 (List.getD (List.set [p0, p1, p2] (((p3 &&& (2147483647 : Int32)) % (3 : Int32))).toNatClampNeg p5) (((p3 &&& (2147483647 : Int32)) % (3 : Int32))).toNatClampNeg 0) (List.getD (List.set [p0, p1, p2] (((p3 &&& (2147483647 : Int32)) % (3 : Int32))).toNatClampNeg p5) (((p4 &&& (2147483647 : Int32)) % (3 : Int32))).toNatClampNeg 0)) then (1 : Int32) else (0 : Int32)))]))
    by_cases hc152 : (if (own_f7 (own_f4 (List.set [p0, p1, p2] (((p3 &&& (2147483647 : Int32)) % (3 : Int32))).toNatClampNeg p5) ((p3 &&& (2147483647 : Int32)) % (3 : Int32)) ((p4 &&& (2147483647 : Int32)) % (3 : Int32)))) = (own_f8 (List.getD (List.set [p0, p1, p2] (((p3 &&& (2147483647 : Int32)) % (3 : Int32))).toNatClampNeg p5) (((p3 &&& (2147483647 : Int32)) % (3 : Int32))).toNatClampNeg 0) (List.getD (List.set [p0, p1, p2] (((p3 &&& (2147483647 : Int32)) % (3 : Int32))).toNatClampNeg p5) (((p4 &&& (2147483647 : Int32)) % (3 : Int32))).toNatClampNeg 0)) then (1 : Int32) else (0 : Int32)) = 0
    · refine own_go (fun _ k => XS.ifYes X38.here hx rfl (pc0 := 152) (pc' := 159) rfl (hb hby at_152) rfl (XT.i0_eq_t hc152) (by decide) (by decide) k) ?_
      show own_Fin _ _ _ _ _ _ _ (T38.setTop (mkF m 159 #[.val (.int p0), .val (.int p1), .val (.int p2), .val (.int p3), .val (.int p4), .val (.int p5), .val (.ref b1), .val (.ref b2), .val (.int ((p3 &&& (2147483647 : Int32)) % (3 : Int32))), .val (.int ((p4 &&& (2147483647 : Int32)) % (3 : Int32))), .val (.int (own_f4 [p0, p1, p2] ((p3 &&& (2147483647 : Int32)) % (3 : Int32)) ((p4 &&& (2147483647 : Int32)) % (3 : Int32)))), .val (.int (if (own_f7 (own_f4 [p0, p1, p2] ((p3 &&& (2147483647 : Int32)) % (3 : Int32)) ((p4 &&& (2147483647 : Int32)) % (3 : Int32)))) = (own_f8 (List.getD [p0, p1, p2] (((p3 &&& (2147483647 : Int32)) % (3 : Int32))).toNatClampNeg 0) (List.getD [p0, p1, p2] (((p4 &&& (2147483647 : Int32)) % (3 : Int32))).toNatClampNeg 0)) then (1 : Int32) else (0 : Int32))), .val (.int (own_f4 (List.set [p0, p1, p2] (((p3 &&& (2147483647 : Int32)) % (3 : Int32))).toNatClampNeg p5) ((p3 &&& (2147483647 : Int32)) % (3 : Int32)) ((p4 &&& (2147483647 : Int32)) % (3 : Int32)))), .val (.int (if (own_f7 (own_f4 (List.set [p0, p1, p2] (((p3 &&& (2147483647 : Int32)) % (3 : Int32))).toNatClampNeg p5) ((p3 &&& (2147483647 : Int32)) % (3 : Int32)) ((p4 &&& (2147483647 : Int32)) % (3 : Int32)))) = (own_f8 (List.getD (List.set [p0, p1, p2] (((p3 &&& (2147483647 : Int32)) % (3 : Int32))).toNatClampNeg p5) (((p3 &&& (2147483647 : Int32)) % (3 : Int32))).toNatClampNeg 0) (List.getD (List.set [p0, p1, p2] (((p3 &&& (2147483647 : Int32)) % (3 : Int32))).toNatClampNeg p5) (((p4 &&& (2147483647 : Int32)) % (3 : Int32))).toNatClampNeg 0)) then (1 : Int32) else (0 : Int32)))] []))
      refine own_go (fun _ k => XS.iconst X38.here hx rfl (hb hby at_159) k) ?_
      show own_Fin _ _ _ _ _ _ _ (T38.setTop (mkF m 160 #[.val (.int p0), .val (.int p1), .val (.int p2), .val (.int p3), .val (.int p4), .val (.int p5), .val (.ref b1), .val (.ref b2), .val (.int ((p3 &&& (2147483647 : Int32)) % (3 : Int32))), .val (.int ((p4 &&& (2147483647 : Int32)) % (3 : Int32))), .val (.int (own_f4 [p0, p1, p2] ((p3 &&& (2147483647 : Int32)) % (3 : Int32)) ((p4 &&& (2147483647 : Int32)) % (3 : Int32)))), .val (.int (if (own_f7 (own_f4 [p0, p1, p2] ((p3 &&& (2147483647 : Int32)) % (3 : Int32)) ((p4 &&& (2147483647 : Int32)) % (3 : Int32)))) = (own_f8 (List.getD [p0, p1, p2] (((p3 &&& (2147483647 : Int32)) % (3 : Int32))).toNatClampNeg 0) (List.getD [p0, p1, p2] (((p4 &&& (2147483647 : Int32)) % (3 : Int32))).toNatClampNeg 0)) then (1 : Int32) else (0 : Int32))), .val (.int (own_f4 (List.set [p0, p1, p2] (((p3 &&& (2147483647 : Int32)) % (3 : Int32))).toNatClampNeg p5) ((p3 &&& (2147483647 : Int32)) % (3 : Int32)) ((p4 &&& (2147483647 : Int32)) % (3 : Int32)))), .val (.int (if (own_f7 (own_f4 (List.set [p0, p1, p2] (((p3 &&& (2147483647 : Int32)) % (3 : Int32))).toNatClampNeg p5) ((p3 &&& (2147483647 : Int32)) % (3 : Int32)) ((p4 &&& (2147483647 : Int32)) % (3 : Int32)))) = (own_f8 (List.getD (List.set [p0, p1, p2] (((p3 &&& (2147483647 : Int32)) % (3 : Int32))).toNatClampNeg p5) (((p3 &&& (2147483647 : Int32)) % (3 : Int32))).toNatClampNeg 0) (List.getD (List.set [p0, p1, p2] (((p3 &&& (2147483647 : Int32)) % (3 : Int32))).toNatClampNeg p5) (((p4 &&& (2147483647 : Int32)) % (3 : Int32))).toNatClampNeg 0)) then (1 : Int32) else (0 : Int32)))] [(.int (0 : Int32))]))
      exact own_retZ X38 hx hlk hret rfl (hb hby at_160) (by decide) (by decide) ⟨(by rw [own_f0, if_neg hc147, if_pos hc152]), N38⟩
    · refine own_go (fun _ k => XS.ifNo X38.here hx rfl (hb hby at_152) rfl (XT.i0_eq_f hc152) k) ?_
      show own_Fin _ _ _ _ _ _ _ (T38.setTop (mkF m 155 #[.val (.int p0), .val (.int p1), .val (.int p2), .val (.int p3), .val (.int p4), .val (.int p5), .val (.ref b1), .val (.ref b2), .val (.int ((p3 &&& (2147483647 : Int32)) % (3 : Int32))), .val (.int ((p4 &&& (2147483647 : Int32)) % (3 : Int32))), .val (.int (own_f4 [p0, p1, p2] ((p3 &&& (2147483647 : Int32)) % (3 : Int32)) ((p4 &&& (2147483647 : Int32)) % (3 : Int32)))), .val (.int (if (own_f7 (own_f4 [p0, p1, p2] ((p3 &&& (2147483647 : Int32)) % (3 : Int32)) ((p4 &&& (2147483647 : Int32)) % (3 : Int32)))) = (own_f8 (List.getD [p0, p1, p2] (((p3 &&& (2147483647 : Int32)) % (3 : Int32))).toNatClampNeg 0) (List.getD [p0, p1, p2] (((p4 &&& (2147483647 : Int32)) % (3 : Int32))).toNatClampNeg 0)) then (1 : Int32) else (0 : Int32))), .val (.int (own_f4 (List.set [p0, p1, p2] (((p3 &&& (2147483647 : Int32)) % (3 : Int32))).toNatClampNeg p5) ((p3 &&& (2147483647 : Int32)) % (3 : Int32)) ((p4 &&& (2147483647 : Int32)) % (3 : Int32)))), .val (.int (if (own_f7 (own_f4 (List.set [p0, p1, p2] (((p3 &&& (2147483647 : Int32)) % (3 : Int32))).toNatClampNeg p5) ((p3 &&& (2147483647 : Int32)) % (3 : Int32)) ((p4 &&& (2147483647 : Int32)) % (3 : Int32)))) = (own_f8 (List.getD (List.set [p0, p1, p2] (((p3 &&& (2147483647 : Int32)) % (3 : Int32))).toNatClampNeg p5) (((p3 &&& (2147483647 : Int32)) % (3 : Int32))).toNatClampNeg 0) (List.getD (List.set [p0, p1, p2] (((p3 &&& (2147483647 : Int32)) % (3 : Int32))).toNatClampNeg p5) (((p4 &&& (2147483647 : Int32)) % (3 : Int32))).toNatClampNeg 0)) then (1 : Int32) else (0 : Int32)))] []))
      refine own_go (fun _ k => XS.iconst X38.here hx rfl (hb hby at_155) k) ?_
      show own_Fin _ _ _ _ _ _ _ (T38.setTop (mkF m 156 #[.val (.int p0), .val (.int p1), .val (.int p2), .val (.int p3), .val (.int p4), .val (.int p5), .val (.ref b1), .val (.ref b2), .val (.int ((p3 &&& (2147483647 : Int32)) % (3 : Int32))), .val (.int ((p4 &&& (2147483647 : Int32)) % (3 : Int32))), .val (.int (own_f4 [p0, p1, p2] ((p3 &&& (2147483647 : Int32)) % (3 : Int32)) ((p4 &&& (2147483647 : Int32)) % (3 : Int32)))), .val (.int (if (own_f7 (own_f4 [p0, p1, p2] ((p3 &&& (2147483647 : Int32)) % (3 : Int32)) ((p4 &&& (2147483647 : Int32)) % (3 : Int32)))) = (own_f8 (List.getD [p0, p1, p2] (((p3 &&& (2147483647 : Int32)) % (3 : Int32))).toNatClampNeg 0) (List.getD [p0, p1, p2] (((p4 &&& (2147483647 : Int32)) % (3 : Int32))).toNatClampNeg 0)) then (1 : Int32) else (0 : Int32))), .val (.int (own_f4 (List.set [p0, p1, p2] (((p3 &&& (2147483647 : Int32)) % (3 : Int32))).toNatClampNeg p5) ((p3 &&& (2147483647 : Int32)) % (3 : Int32)) ((p4 &&& (2147483647 : Int32)) % (3 : Int32)))), .val (.int (if (own_f7 (own_f4 (List.set [p0, p1, p2] (((p3 &&& (2147483647 : Int32)) % (3 : Int32))).toNatClampNeg p5) ((p3 &&& (2147483647 : Int32)) % (3 : Int32)) ((p4 &&& (2147483647 : Int32)) % (3 : Int32)))) = (own_f8 (List.getD (List.set [p0, p1, p2] (((p3 &&& (2147483647 : Int32)) % (3 : Int32))).toNatClampNeg p5) (((p3 &&& (2147483647 : Int32)) % (3 : Int32))).toNatClampNeg 0) (List.getD (List.set [p0, p1, p2] (((p3 &&& (2147483647 : Int32)) % (3 : Int32))).toNatClampNeg p5) (((p4 &&& (2147483647 : Int32)) % (3 : Int32))).toNatClampNeg 0)) then (1 : Int32) else (0 : Int32)))] [(.int (1 : Int32))]))
      refine own_go (fun _ k => XS.goto X38.here hx rfl (pc0 := 156) (pc' := 160) rfl (hb hby at_156) (by decide) (by decide) k) ?_
      show own_Fin _ _ _ _ _ _ _ (T38.setTop (mkF m 160 #[.val (.int p0), .val (.int p1), .val (.int p2), .val (.int p3), .val (.int p4), .val (.int p5), .val (.ref b1), .val (.ref b2), .val (.int ((p3 &&& (2147483647 : Int32)) % (3 : Int32))), .val (.int ((p4 &&& (2147483647 : Int32)) % (3 : Int32))), .val (.int (own_f4 [p0, p1, p2] ((p3 &&& (2147483647 : Int32)) % (3 : Int32)) ((p4 &&& (2147483647 : Int32)) % (3 : Int32)))), .val (.int (if (own_f7 (own_f4 [p0, p1, p2] ((p3 &&& (2147483647 : Int32)) % (3 : Int32)) ((p4 &&& (2147483647 : Int32)) % (3 : Int32)))) = (own_f8 (List.getD [p0, p1, p2] (((p3 &&& (2147483647 : Int32)) % (3 : Int32))).toNatClampNeg 0) (List.getD [p0, p1, p2] (((p4 &&& (2147483647 : Int32)) % (3 : Int32))).toNatClampNeg 0)) then (1 : Int32) else (0 : Int32))), .val (.int (own_f4 (List.set [p0, p1, p2] (((p3 &&& (2147483647 : Int32)) % (3 : Int32))).toNatClampNeg p5) ((p3 &&& (2147483647 : Int32)) % (3 : Int32)) ((p4 &&& (2147483647 : Int32)) % (3 : Int32)))), .val (.int (if (own_f7 (own_f4 (List.set [p0, p1, p2] (((p3 &&& (2147483647 : Int32)) % (3 : Int32))).toNatClampNeg p5) ((p3 &&& (2147483647 : Int32)) % (3 : Int32)) ((p4 &&& (2147483647 : Int32)) % (3 : Int32)))) = (own_f8 (List.getD (List.set [p0, p1, p2] (((p3 &&& (2147483647 : Int32)) % (3 : Int32))).toNatClampNeg p5) (((p3 &&& (2147483647 : Int32)) % (3 : Int32))).toNatClampNeg 0) (List.getD (List.set [p0, p1, p2] (((p3 &&& (2147483647 : Int32)) % (3 : Int32))).toNatClampNeg p5) (((p4 &&& (2147483647 : Int32)) % (3 : Int32))).toNatClampNeg 0)) then (1 : Int32) else (0 : Int32)))] [(.int (1 : Int32))]))
      exact own_retZ X38 hx hlk hret rfl (hb hby at_160) (by decide) (by decide) ⟨(by rw [own_f0, if_neg hc147, if_neg hc152]), N38⟩

theorem own_same (a b : Int32) : own_f7 (own_f6 a b) = own_f8 a b := by
  unfold own_f6 own_f8
  by_cases h : a < b
  · rw [if_pos h, if_pos h]; decide
  · rw [if_neg h, if_neg h]
    by_cases h2 : a = b
    · subst h2
      rw [if_pos rfl, if_neg h]; decide
    · rw [if_neg h2, if_pos]
      · decide
      · rw [Int32.lt_iff_toInt_lt] at h ⊢
        have : a.toInt ≠ b.toInt := fun q => h2 (Int32.toInt_inj.mp q)
        omega
theorem own_law (a b c d x y : Int32) : own_f0 a b c d x y = 1 := by
  unfold own_f0 own_f4
  simp [own_same]

theorem own_bxs {Z : State} {args : Array Value} {a : Addr} {c : Cell} (ec : (Term.static "java/lang/Integer$IntegerCache" "cache" "[Ljava/lang/Integer;").eval args Z none [] Z = some (.ref a)) (A : Arr Z Z.heap a c (.object "java/lang/Integer")) (el : (Term.length (Term.static "java/lang/Integer$IntegerCache" "cache" "[Ljava/lang/Integer;")).eval args Z none [] Z = some (.int 256))
    (h : (Jvm.Cond.all (Term.static "java/lang/Integer$IntegerCache" "cache" "[Ljava/lang/Integer;") (.and (.exactly (.elem (Term.static "java/lang/Integer$IntegerCache" "cache" "[Ljava/lang/Integer;") (.index 0)) "java/lang/Integer") (.eq (.field (.elem (Term.static "java/lang/Integer$IntegerCache" "cache" "[Ljava/lang/Integer;") (.index 0)) "java/lang/Integer" "value" "I") (.sub (.index 0) (.int 128))))).value args Z none Z [] = some true) :
    Bxs Z a c "java/lang/Integer" "I" 256 (fun j => .int (j - 128)) := by
  have hl : c.slots.size < 2 ^ 31 ∧ c.slots.size.toInt32 = 256 := by
    have ha : Z.arrayAt? a = some c := A.fin (Vm.Alike.refl _)
    obtain ⟨b, cell, h1, h2, h3, h4⟩ := Jvm.Lib.length_spec el
    cases ec.symm.trans h1
    cases ha.symm.trans h2
    exact ⟨h3, (Value.int.inj h4).symm⟩
  refine Bxs.start (fun idx => ec) A hl.1 hl.2 (by decide) h fun X j hj q => ?_
  refine eqv_i ?_ q
  simp [Term.eval, (back32 hj).1]

set_option maxRecDepth 65536 in
set_option maxHeartbeats 40000000 in
theorem comes_1 {Post : Tables → Env → Array Value → State → Outcome → State → Prop} (hpost : ∀ tb e args s v u, (limb_1_1.after args s (.returned v) u = true ∧ limb_1_2.after args s (.returned v) u = true ∧ True) → FrameEnd s (.returned v) u (Jvm.fieldLocs frame_1_writes args s ++ Jvm.arrayLocs frame_1_arrays args s ++ Jvm.staticLocs frame_1_statics s) 16 128 → Post tb e args s (.returned v) u) :
    ArmFor flags0 classFile x code maxLocals ret World_1 tables_1 room_1 Calls_1 rest_1 Pre_1 Post := by
  intro l hfl _ _ p e ha hc hk s m args below hf hA hF happ hP
  obtain ⟨hcalls, hrest, hpre⟩ := hP
  obtain ⟨-, -, -, hnamed, -, -, -, hat⟩ := (Spec.applies_iff hf).mp happ
  obtain ⟨hg, hn⟩ := and_e (Cond.before_iff.mp (show (Jvm.Cond.and given_1 narrow_1).before args s = true from hpre))
  obtain ⟨gg1, gg2⟩ := and_e hg
  obtain ⟨gg3, gg4⟩ := and_e gg2
  obtain ⟨gg5, gg6⟩ := and_e gg4
  obtain ⟨gg7, gg8⟩ := and_e gg6
  obtain ⟨gg9, gg10⟩ := and_e gg8
  obtain ⟨gg11, gg12⟩ := and_e gg10
  obtain ⟨w0, w1, w2, w3, w4, w5, rfl⟩ : ∃ w0 w1 w2 w3 w4 w5 : Value, args = #[w0, w1, w2, w3, w4, w5] := by
    have hs : args.size = 6 := by simpa [Cond.value, given_1] using gg1
    obtain ⟨L⟩ := args
    match L, hs with
    | [w0, w1, w2, w3, w4, w5], _ => exact ⟨w0, w1, w2, w3, w4, w5, rfl⟩
  have hw := fun d (hd : d ∈ tables_1) => atoms_spec (ws := Jvm.Cond.code x code maxLocals ret :: tables_1) hat d (List.mem_cons_of_mem _ hd)
  have hfit : Fit s := fun {y c} hc i hi => by
    obtain ⟨ha, rfl⟩ := Array.getElem?_eq_some_iff.mp hc
    have q := List.all_eq_true.mp ((Array.all_eq_true_iff_forall_mem.mp hF) _ (Array.getElem_mem ha)) i (List.mem_range.mpr hi)
    simpa [Array.getElem?_eq_getElem hi] using q
  obtain ⟨hsets, hown0⟩ := atoms_of _ (rest_1_c_eq ▸ (show rest_1_c.before _ s = true from hrest))
  have hr0 := Cond.before_iff.mp hown0
  obtain ⟨i0, ei0⟩ := is_v gg3
  obtain rfl : w0 = (.int i0) := Option.some.inj ei0
  obtain ⟨i1, ei1⟩ := is_v gg5
  obtain rfl : w1 = (.int i1) := Option.some.inj ei1
  obtain ⟨i2, ei2⟩ := is_v gg7
  obtain rfl : w2 = (.int i2) := Option.some.inj ei2
  obtain ⟨i3, ei3⟩ := is_v gg9
  obtain rfl : w3 = (.int i3) := Option.some.inj ei3
  obtain ⟨i4, ei4⟩ := is_v gg11
  obtain rfl : w4 = (.int i4) := Option.some.inj ei4
  obtain ⟨i5, ei5⟩ := is_v gg12
  obtain rfl : w5 = (.int i5) := Option.some.inj ei5
  have eh := eqv_i (idx := []) (Term.int_eval (127 : Int32)) (Cond.before_iff.mp (hsets _ (List.mem_of_getElem? (i := 3) rfl)))
  have Sh := Sta.start eh (Or.inl (hsets _ (List.mem_of_getElem? (i := 1) rfl)))
  obtain ⟨cA, ec⟩ := arr_v (Cond.before_iff.mp (hsets _ (List.mem_of_getElem? (i := 4) rfl)))
  have Sc := Sta.start ec (Or.inr ⟨(hw _ (List.mem_of_getElem? (i := 18) rfl)), (hsets _ (List.mem_of_getElem? (i := 2) rfl))⟩)
  obtain ⟨cl, Ac⟩ := Arr.start ec (Cond.before_iff.mp (hsets _ (List.mem_of_getElem? (i := 4) rfl)))
  have el := eqv_i (idx := []) (Term.int_eval (256 : Int32)) (Cond.before_iff.mp (hsets _ (List.mem_of_getElem? (i := 6) rfl)))
  have B : Bxs s cA cl "java/lang/Integer" "I" 256 (fun j => .int (j - 128)) := own_bxs ec Ac el (Cond.before_iff.mp (hsets _ (List.mem_of_getElem? (i := 7) rfl)))
  obtain ⟨n, o, h1, h2, h3, _, L, rfl, ⟨rfl, N⟩, hq⟩ := rm0 l s _ hw i0 i1 i2 i3 i4 i5 s.heap s.heap.size (Nat.le_refl _) rfl cA cl Sh Sc Ac B p e ha hc hk s m _ below hf ((Spec.applies_iff_loose hf).mp happ).1 ⟨rfl, State.Warmed39.refl s, rfl⟩ trivial
  refine ⟨n, _, h1, h2, h3, hpost _ _ _ _ _ _ ⟨Cond.after_iff.mpr rfl, Cond.after_iff.mpr (eq_i res_at (Term.int_eval (1)) (congrArg Value.int (own_law _ _ _ _ _ _))), trivial⟩ ⟨hq.1, hq.2.1, (hq.2.2.sift fun y hy => Or.inr (N y hy)).mono (by decide) (by decide)⟩⟩
theorem main_1_1 : Claimed_1_1 := comes_1 fun _ _ _ _ _ _ h hF => ⟨h.1, hF⟩
theorem main_1_2 : Claimed_1_2 := comes_1 fun _ _ _ _ _ _ h hF => ⟨h.2.1, hF⟩

end Jvm.Pilot.@@N@@
namespace Jvm.Pilot.@@N@@
open Jvm Jvm.ClassFile Sem Op Lib Jvm.Free Jvm.Stand Jvm.Pilot.@@N@@.Jvm.D
/-! MADE BY PROGRAM (witnessworld.py) out of the Statement's table words and the real class files: 17 classes; the members and pool entries that the words name. The judged class is class 1, her method 3. -/
namespace start1
open Jvm.ClassFile
def u (s : String) : CpInfo := .utf8 (stringToUtf16 s)
/-- a pool by its gaps: so many unusable entries, then the entry; so many at the end -/
def gap : Nat → List CpInfo → List CpInfo
  | 0, r => r
  | n + 1, r => .unusable :: gap n r
def poolList (es : List (Nat × CpInfo)) (last : Nat) : List CpInfo := es.foldr (fun e r => gap e.1 (e.2 :: r)) (gap last [])
def pool (es : List (Nat × CpInfo)) (last : Nat) : Array CpInfo := ⟨poolList es last⟩
def fileOf (pool : Array CpInfo) (this : Nat) (attrs : Array Attribute := #[]) (ms : Array MethodInfo := #[]) (fl : Nat := 33) (sup : Nat := 0) (ifs : Array Nat := #[]) (fds : Array FieldInfo := #[]) : ClassFile where
  minorVersion := 0
  majorVersion := 65
  constantPool := pool
  accessFlags := fl
  thisClass := this
  superClass := sup
  interfaces := ifs
  fields := fds
  methods := ms
  attributes := attrs
def plain (name : String) (sup : Option ClassId) : Class where
  name := name
  kind := .ordinary
  loader := none
  accessFlags := 33
  super := sup
  interfaces := #[]
  cf := none
  fields := #[]
  methods := #[]
  instanceTypes := #[]
  staticTypes := #[]
  resolved := #[]
  callSites := []
  init := .initialized
  statics := none
  mirror := none

def pool0 : Array CpInfo := pool [(5, u "<init>"), (0, u "()V"), (1, .class_ 10), (1, u "java/lang/Object")] 113

def k0c0 : Code := { maxStack := 0, maxLocals := 1, code := object_method_1_code, exceptionTable := #[], attributes := #[] }
def k0m0 : Method := { name := "<init>", desc := "()V", sig := { parameters := [], returnType := none }, accessFlags := 1, code := some k0c0 }
/-- java/lang/Object -/
def k0 : Class := { plain "java/lang/Object" none with
  accessFlags := 33
  interfaces := #[]
  cf := some (fileOf pool0 8 #[] #[{ accessFlags := 1, nameIndex := 5, descriptorIndex := 6, attributes := #[] }] 33 0 #[] #[])
  fields := #[]
  methods := #[k0m0]
  instanceTypes := #[]
  staticTypes := #[]
  resolved := Array.replicate 124 none
  statics := none }

def pool1 : Array CpInfo := pool [(2, .class_ 4), (1, u "java/lang/Object"), (0, u "<init>"), (0, u "()V"), (0, .class_ 8), (0, u "com/example/conflux/conflux/compose/LowestKeyFirst"), (0, .methodref 7 10), (0, .nameAndType 5 11), (0, u "([I)V"), (0, .integer 2147483647), (0, .methodref 14 15), (0, .class_ 16), (0, .nameAndType 17 18), (0, u "java/lang/Integer"), (0, u "valueOf"), (0, u "(I)Ljava/lang/Integer;"), (0, .methodref 7 20), (0, .nameAndType 21 22), (0, u "compare"), (0, u "(Ljava/lang/Integer;Ljava/lang/Integer;)I"), (0, .methodref 24 25), (0, .class_ 26), (0, .nameAndType 27 28), (0, u "com/example/conflux/conflux/compose/LowestKeyFirstComparePinLaw"), (0, u "sgn"), (0, u "(I)I"), (0, .methodref 24 30), (0, .nameAndType 31 32), (0, u "expect"), (0, u "(II)I"), (3, u "law"), (0, u "(IIIIII)Z")] 4

def k1m0 : Method := { name := "<init>", desc := "()V", sig := { parameters := [], returnType := none }, accessFlags := 1, code := none }
def k1c1 : Code := { maxStack := 1, maxLocals := 1, code := method_2_code, exceptionTable := #[], attributes := #[] }
def k1m1 : Method := { name := "sgn", desc := "(I)I", sig := { parameters := [.int], returnType := some .int }, accessFlags := 10, code := some k1c1 }
def k1c2 : Code := { maxStack := 2, maxLocals := 2, code := method_3_code, exceptionTable := #[], attributes := #[] }
def k1m2 : Method := { name := "expect", desc := "(II)I", sig := { parameters := [.int, .int], returnType := some .int }, accessFlags := 10, code := some k1c2 }
def k1c3 : Code := { maxStack := 4, maxLocals := 14, code := code, exceptionTable := #[], attributes := #[] }
def k1m3 : Method := { name := "law", desc := "(IIIIII)Z", sig := { parameters := [.int, .int, .int, .int, .int, .int], returnType := some .boolean }, accessFlags := 9, code := some k1c3 }
/-- com/example/conflux/conflux/compose/LowestKeyFirstComparePinLaw -/
def k1 : Class := { plain "com/example/conflux/conflux/compose/LowestKeyFirstComparePinLaw" (some 0) with
  accessFlags := 49
  interfaces := #[]
  cf := some (fileOf pool1 24 #[] #[{ accessFlags := 1, nameIndex := 5, descriptorIndex := 6, attributes := #[] }, { accessFlags := 10, nameIndex := 27, descriptorIndex := 28, attributes := #[] }, { accessFlags := 10, nameIndex := 31, descriptorIndex := 32, attributes := #[] }, { accessFlags := 9, nameIndex := 36, descriptorIndex := 37, attributes := #[] }] 49 2 #[] #[])
  fields := #[]
  methods := #[k1m0, k1m1, k1m2, k1m3]
  instanceTypes := #[]
  staticTypes := #[]
  resolved := Array.replicate 42 none
  statics := none }

def pool2 : Array CpInfo := pool [(19, .class_ 20), (0, u "java/util/Comparator"), (84, .class_ 106), (0, u "java/lang/Object")] 181

/-- java/util/Comparator -/
def k2 : Class := { plain "java/util/Comparator" (some 0) with
  accessFlags := 1537
  interfaces := #[]
  cf := some (fileOf pool2 19 #[] #[] 1537 105 #[] #[])
  fields := #[]
  methods := #[]
  instanceTypes := #[]
  staticTypes := #[]
  resolved := Array.replicate 288 none
  statics := none }

def pool3 : Array CpInfo := pool [(1, .methodref 2 3), (0, .class_ 4), (0, .nameAndType 5 6), (0, u "java/lang/Object"), (0, u "<init>"), (0, u "()V"), (0, .fieldref 8 9), (0, .class_ 10), (0, .nameAndType 11 12), (0, u "com/example/conflux/conflux/compose/LowestKeyFirst"), (0, u "keys"), (0, u "[I"), (0, .methodref 14 15), (0, .class_ 16), (0, .nameAndType 17 18), (0, u "java/lang/Integer"), (0, u "intValue"), (0, u "()I"), (0, .methodref 14 20), (0, .nameAndType 21 22), (0, u "compare"), (0, u "(II)I"), (2, u "(Ljava/lang/Integer;Ljava/lang/Integer;)I"), (0, .class_ 27), (0, u "java/util/Comparator"), (0, u "([I)V")] 8

def k3c0 : Code := { maxStack := 2, maxLocals := 2, code := prog_45_method_1_code, exceptionTable := #[], attributes := #[] }
def k3m0 : Method := { name := "<init>", desc := "([I)V", sig := { parameters := [(.array .int)], returnType := none }, accessFlags := 0, code := some k3c0 }
def k3c1 : Code := { maxStack := 3, maxLocals := 3, code := prog_45_method_2_code, exceptionTable := #[], attributes := #[] }
def k3m1 : Method := { name := "compare", desc := "(Ljava/lang/Integer;Ljava/lang/Integer;)I", sig := { parameters := [(.object "java/lang/Integer"), (.object "java/lang/Integer")], returnType := some .int }, accessFlags := 1, code := some k3c1 }
/-- com/example/conflux/conflux/compose/LowestKeyFirst -/
def k3 : Class := { plain "com/example/conflux/conflux/compose/LowestKeyFirst" (some 0) with
  accessFlags := 32
  interfaces := #[2]
  cf := some (fileOf pool3 8 #[] #[{ accessFlags := 0, nameIndex := 5, descriptorIndex := 28, attributes := #[] }, { accessFlags := 1, nameIndex := 21, descriptorIndex := 25, attributes := #[] }] 32 2 #[26] #[{ accessFlags := 18, nameIndex := 11, descriptorIndex := 12, attributes := #[] }])
  fields := #[{ name := "keys", type := (.array .int), accessFlags := 18, slot := 0, constantValue := 0 }]
  methods := #[k3m0, k3m1]
  instanceTypes := #[(.array .int)]
  staticTypes := #[]
  resolved := Array.replicate 37 none
  statics := none }

def pool4 : Array CpInfo := pool [(1, .class_ 2), (0, u "java/io/Serializable"), (0, .class_ 4), (0, u "java/lang/Object")] 2

/-- java/io/Serializable -/
def k4 : Class := { plain "java/io/Serializable" (some 0) with
  accessFlags := 1537
  interfaces := #[]
  cf := some (fileOf pool4 1 #[] #[] 1537 3 #[] #[])
  fields := #[]
  methods := #[]
  instanceTypes := #[]
  staticTypes := #[]
  resolved := Array.replicate 7 none
  statics := none }

def pool5 : Array CpInfo := pool [(2, .class_ 4), (1, u "java/lang/Object"), (0, u "<init>"), (0, u "()V"), (1, .class_ 10), (1, u "java/lang/Number"), (2, .class_ 14), (0, u "java/io/Serializable"), (0, u "serialVersionUID"), (0, u "J")] 20

def k5m0 : Method := { name := "<init>", desc := "()V", sig := { parameters := [], returnType := none }, accessFlags := 1, code := none }
/-- java/lang/Number -/
def k5 : Class := { plain "java/lang/Number" (some 0) with
  accessFlags := 1057
  interfaces := #[4]
  cf := some (fileOf pool5 8 #[] #[{ accessFlags := 1, nameIndex := 5, descriptorIndex := 6, attributes := #[] }] 1057 2 #[13] #[{ accessFlags := 26, nameIndex := 15, descriptorIndex := 16, attributes := #[] }])
  fields := #[{ name := "serialVersionUID", type := .long, accessFlags := 26, slot := 0, constantValue := 0 }]
  methods := #[k5m0]
  instanceTypes := #[]
  staticTypes := #[.long]
  resolved := Array.replicate 37 none
  statics := none }

def pool6 : Array CpInfo := pool [(1, .class_ 2), (0, u "java/lang/Comparable"), (0, .class_ 4), (0, u "java/lang/Object")] 7

/-- java/lang/Comparable -/
def k6 : Class := { plain "java/lang/Comparable" (some 0) with
  accessFlags := 1537
  interfaces := #[]
  cf := some (fileOf pool6 1 #[] #[] 1537 3 #[] #[])
  fields := #[]
  methods := #[]
  instanceTypes := #[]
  staticTypes := #[]
  resolved := Array.replicate 12 none
  statics := none }

def pool7 : Array CpInfo := pool [(1, .class_ 2), (0, u "java/lang/constant/Constable"), (0, .class_ 4), (0, u "java/lang/Object")] 6

/-- java/lang/constant/Constable -/
def k7 : Class := { plain "java/lang/constant/Constable" (some 0) with
  accessFlags := 1537
  interfaces := #[]
  cf := some (fileOf pool7 1 #[] #[] 1537 3 #[] #[])
  fields := #[]
  methods := #[]
  instanceTypes := #[]
  staticTypes := #[]
  resolved := Array.replicate 11 none
  statics := none }

def pool8 : Array CpInfo := pool [(1, .class_ 2), (0, u "java/lang/constant/ConstantDesc"), (0, .class_ 4), (0, u "java/lang/Object")] 32

/-- java/lang/constant/ConstantDesc -/
def k8 : Class := { plain "java/lang/constant/ConstantDesc" (some 0) with
  accessFlags := 1537
  interfaces := #[]
  cf := some (fileOf pool8 1 #[] #[] 1537 3 #[] #[])
  fields := #[]
  methods := #[]
  instanceTypes := #[]
  staticTypes := #[]
  resolved := Array.replicate 37 none
  statics := none }

def pool9 : Array CpInfo := pool [(1, .class_ 2), (0, u "java/lang/Integer"), (16, u "digits"), (0, u "[C"), (39, u "(II)I"), (24, u "DigitOnes"), (0, u "[B"), (2, u "DigitTens"), (31, u "()I"), (65, u "valueOf"), (0, u "(I)Ljava/lang/Integer;"), (0, .class_ 190), (0, u "java/lang/Integer$IntegerCache"), (0, .fieldref 189 192), (0, .nameAndType 193 194), (0, u "high"), (0, u "I"), (0, .fieldref 189 196), (0, .nameAndType 197 198), (0, u "cache"), (0, u "[Ljava/lang/Integer;"), (4, .class_ 204), (0, u "java/lang/Number"), (0, .fieldref 1 206), (0, .nameAndType 207 194), (0, u "value"), (5, u "intValue"), (47, u "compare"), (40, u "TYPE"), (0, u "Ljava/lang/Class;"), (0, .class_ 305), (0, u "java/lang/Comparable"), (0, .class_ 307), (0, u "java/lang/constant/Constable"), (0, .class_ 309), (0, u "java/lang/constant/ConstantDesc"), (0, u "MIN_VALUE"), (1, u "MAX_VALUE"), (3, u "SIZE"), (1, u "BYTES"), (1, u "serialVersionUID"), (0, u "J")] 131

def k9c0 : Code := { maxStack := 3, maxLocals := 1, code := jdk_33_method_22_code, exceptionTable := #[], attributes := #[] }
def k9m0 : Method := { name := "valueOf", desc := "(I)Ljava/lang/Integer;", sig := { parameters := [.int], returnType := some (.object "java/lang/Integer") }, accessFlags := 9, code := some k9c0 }
def k9c1 : Code := { maxStack := 1, maxLocals := 1, code := jdk_33_method_27_code, exceptionTable := #[], attributes := #[] }
def k9m1 : Method := { name := "intValue", desc := "()I", sig := { parameters := [], returnType := some .int }, accessFlags := 1, code := some k9c1 }
def k9c2 : Code := { maxStack := 2, maxLocals := 2, code := jdk_33_method_40_code, exceptionTable := #[], attributes := #[] }
def k9m2 : Method := { name := "compare", desc := "(II)I", sig := { parameters := [.int, .int], returnType := some .int }, accessFlags := 9, code := some k9c2 }
/-- java/lang/Integer -/
def k9 : Class := { plain "java/lang/Integer" (some 5) with
  accessFlags := 49
  interfaces := #[6, 7, 8]
  cf := some (fileOf pool9 1 #[.nestMembers #[189]] #[{ accessFlags := 9, nameIndex := 187, descriptorIndex := 188, attributes := #[] }, { accessFlags := 1, nameIndex := 213, descriptorIndex := 121, attributes := #[] }, { accessFlags := 9, nameIndex := 261, descriptorIndex := 60, attributes := #[] }] 49 203 #[304, 306, 308] #[{ accessFlags := 25, nameIndex := 310, descriptorIndex := 194, attributes := #[] }, { accessFlags := 25, nameIndex := 312, descriptorIndex := 194, attributes := #[] }, { accessFlags := 25, nameIndex := 302, descriptorIndex := 303, attributes := #[] }, { accessFlags := 24, nameIndex := 19, descriptorIndex := 20, attributes := #[] }, { accessFlags := 24, nameIndex := 89, descriptorIndex := 86, attributes := #[] }, { accessFlags := 24, nameIndex := 85, descriptorIndex := 86, attributes := #[] }, { accessFlags := 18, nameIndex := 207, descriptorIndex := 194, attributes := #[] }, { accessFlags := 25, nameIndex := 316, descriptorIndex := 194, attributes := #[] }, { accessFlags := 25, nameIndex := 318, descriptorIndex := 194, attributes := #[] }, { accessFlags := 26, nameIndex := 320, descriptorIndex := 321, attributes := #[] }])
  fields := #[{ name := "MIN_VALUE", type := .int, accessFlags := 25, slot := 0, constantValue := 0 }, { name := "MAX_VALUE", type := .int, accessFlags := 25, slot := 1, constantValue := 0 }, { name := "TYPE", type := (.object "java/lang/Class"), accessFlags := 25, slot := 2, constantValue := 0 }, { name := "digits", type := (.array .char), accessFlags := 24, slot := 3, constantValue := 0 }, { name := "DigitTens", type := (.array .byte), accessFlags := 24, slot := 4, constantValue := 0 }, { name := "DigitOnes", type := (.array .byte), accessFlags := 24, slot := 5, constantValue := 0 }, { name := "value", type := .int, accessFlags := 18, slot := 0, constantValue := 0 }, { name := "SIZE", type := .int, accessFlags := 25, slot := 6, constantValue := 0 }, { name := "BYTES", type := .int, accessFlags := 25, slot := 7, constantValue := 0 }, { name := "serialVersionUID", type := .long, accessFlags := 26, slot := 8, constantValue := 0 }]
  methods := #[k9m0, k9m1, k9m2]
  instanceTypes := #[.int]
  staticTypes := #[.int, .int, (.object "java/lang/Class"), (.array .char), (.array .byte), (.array .byte), .int, .int, .long]
  resolved := Array.replicate 453 none
  statics := none }

def pool10 : Array CpInfo := pool [(2, .class_ 4), (1, u "java/lang/Object"), (0, u "<init>"), (0, u "()V"), (0, .class_ 8), (0, u "java/lang/Integer"), (7, .class_ 18), (1, u "java/lang/Integer$IntegerCache"), (0, u "$assertionsDisabled"), (0, u "Z"), (26, u "high"), (0, u "I"), (8, u "archivedCache"), (0, u "[Ljava/lang/Integer;"), (12, u "cache"), (0, u "low")] 27

def k10m0 : Method := { name := "<init>", desc := "()V", sig := { parameters := [], returnType := none }, accessFlags := 2, code := none }
/-- java/lang/Integer$IntegerCache -/
def k10 : Class := { plain "java/lang/Integer$IntegerCache" (some 0) with
  accessFlags := 48
  interfaces := #[]
  cf := some (fileOf pool10 16 #[.nestHost 7] #[{ accessFlags := 2, nameIndex := 5, descriptorIndex := 6, attributes := #[] }] 48 2 #[] #[{ accessFlags := 24, nameIndex := 72, descriptorIndex := 48, attributes := #[] }, { accessFlags := 24, nameIndex := 47, descriptorIndex := 48, attributes := #[] }, { accessFlags := 24, nameIndex := 71, descriptorIndex := 58, attributes := #[] }, { accessFlags := 8, nameIndex := 57, descriptorIndex := 58, attributes := #[] }, { accessFlags := 4120, nameIndex := 19, descriptorIndex := 20, attributes := #[] }])
  fields := #[{ name := "low", type := .int, accessFlags := 24, slot := 0, constantValue := 0 }, { name := "high", type := .int, accessFlags := 24, slot := 1, constantValue := 0 }, { name := "cache", type := (.array (.object "java/lang/Integer")), accessFlags := 24, slot := 2, constantValue := 0 }, { name := "archivedCache", type := (.array (.object "java/lang/Integer")), accessFlags := 8, slot := 3, constantValue := 0 }, { name := "$assertionsDisabled", type := .boolean, accessFlags := 4120, slot := 4, constantValue := 0 }]
  methods := #[k10m0]
  instanceTypes := #[]
  staticTypes := #[.int, .int, (.array (.object "java/lang/Integer")), (.array (.object "java/lang/Integer")), .boolean]
  resolved := Array.replicate 100 none
  statics := some 0 }

def pool11 : Array CpInfo := pool [(1, u "java/lang/Cloneable"), (0, .class_ 1), (0, u "java/lang/Object"), (0, .class_ 3)] 3

/-- java/lang/Cloneable -/
def k11 : Class := { plain "java/lang/Cloneable" (some 0) with
  accessFlags := 1537
  interfaces := #[]
  cf := some (fileOf pool11 2 #[] #[] 1537 4 #[] #[])
  fields := #[]
  methods := #[]
  instanceTypes := #[]
  staticTypes := #[]
  resolved := Array.replicate 8 none
  statics := none }

/-- the primitive byte -/
def k12 : Class := { plain "byte" none with kind := .primitive 'B', accessFlags := 0x411 }
/-- [B -/
def k13 : Class := { plain "[B" (some 0) with kind := .array 12 .byte, interfaces := #[11, 4], accessFlags := 1041 }

/-- the primitive int -/
def k14 : Class := { plain "int" none with kind := .primitive 'I', accessFlags := 0x411 }
/-- [I -/
def k15 : Class := { plain "[I" (some 0) with kind := .array 14 .int, interfaces := #[11, 4], accessFlags := 1041 }

/-- [Ljava/lang/Integer; -/
def k16 : Class := { plain "[Ljava/lang/Integer;" (some 0) with kind := .array 9 (.object "java/lang/Integer"), interfaces := #[11, 4], accessFlags := 1041 }

def heap : Heap := #[{ cls := 10, slots := #[.int 0, .int 127, .ref 1, .null, .int 0], vm := .statics 10 },
  { cls := 16, slots := #[.ref 2, .ref 3, .ref 4, .ref 5, .ref 6, .ref 7, .ref 8, .ref 9, .ref 10, .ref 11, .ref 12, .ref 13, .ref 14, .ref 15, .ref 16, .ref 17, .ref 18, .ref 19, .ref 20, .ref 21, .ref 22, .ref 23, .ref 24, .ref 25, .ref 26, .ref 27, .ref 28, .ref 29, .ref 30, .ref 31, .ref 32, .ref 33, .ref 34, .ref 35, .ref 36, .ref 37, .ref 38, .ref 39, .ref 40, .ref 41, .ref 42, .ref 43, .ref 44, .ref 45, .ref 46, .ref 47, .ref 48, .ref 49, .ref 50, .ref 51, .ref 52, .ref 53, .ref 54, .ref 55, .ref 56, .ref 57, .ref 58, .ref 59, .ref 60, .ref 61, .ref 62, .ref 63, .ref 64, .ref 65, .ref 66, .ref 67, .ref 68, .ref 69, .ref 70, .ref 71, .ref 72, .ref 73, .ref 74, .ref 75, .ref 76, .ref 77, .ref 78, .ref 79, .ref 80, .ref 81, .ref 82, .ref 83, .ref 84, .ref 85, .ref 86, .ref 87, .ref 88, .ref 89, .ref 90, .ref 91, .ref 92, .ref 93, .ref 94, .ref 95, .ref 96, .ref 97, .ref 98, .ref 99, .ref 100, .ref 101, .ref 102, .ref 103, .ref 104, .ref 105, .ref 106, .ref 107, .ref 108, .ref 109, .ref 110, .ref 111, .ref 112, .ref 113, .ref 114, .ref 115, .ref 116, .ref 117, .ref 118, .ref 119, .ref 120, .ref 121, .ref 122, .ref 123, .ref 124, .ref 125, .ref 126, .ref 127, .ref 128, .ref 129, .ref 130, .ref 131, .ref 132, .ref 133, .ref 134, .ref 135, .ref 136, .ref 137, .ref 138, .ref 139, .ref 140, .ref 141, .ref 142, .ref 143, .ref 144, .ref 145, .ref 146, .ref 147, .ref 148, .ref 149, .ref 150, .ref 151, .ref 152, .ref 153, .ref 154, .ref 155, .ref 156, .ref 157, .ref 158, .ref 159, .ref 160, .ref 161, .ref 162, .ref 163, .ref 164, .ref 165, .ref 166, .ref 167, .ref 168, .ref 169, .ref 170, .ref 171, .ref 172, .ref 173, .ref 174, .ref 175, .ref 176, .ref 177, .ref 178, .ref 179, .ref 180, .ref 181, .ref 182, .ref 183, .ref 184, .ref 185, .ref 186, .ref 187, .ref 188, .ref 189, .ref 190, .ref 191, .ref 192, .ref 193, .ref 194, .ref 195, .ref 196, .ref 197, .ref 198, .ref 199, .ref 200, .ref 201, .ref 202, .ref 203, .ref 204, .ref 205, .ref 206, .ref 207, .ref 208, .ref 209, .ref 210, .ref 211, .ref 212, .ref 213, .ref 214, .ref 215, .ref 216, .ref 217, .ref 218, .ref 219, .ref 220, .ref 221, .ref 222, .ref 223, .ref 224, .ref 225, .ref 226, .ref 227, .ref 228, .ref 229, .ref 230, .ref 231, .ref 232, .ref 233, .ref 234, .ref 235, .ref 236, .ref 237, .ref 238, .ref 239, .ref 240, .ref 241, .ref 242, .ref 243, .ref 244, .ref 245, .ref 246, .ref 247, .ref 248, .ref 249, .ref 250, .ref 251, .ref 252, .ref 253, .ref 254, .ref 255, .ref 256, .ref 257], vm := .none },
  { cls := 9, slots := #[.int (-128)], vm := .none },
  { cls := 9, slots := #[.int (-127)], vm := .none },
  { cls := 9, slots := #[.int (-126)], vm := .none },
  { cls := 9, slots := #[.int (-125)], vm := .none },
  { cls := 9, slots := #[.int (-124)], vm := .none },
  { cls := 9, slots := #[.int (-123)], vm := .none },
  { cls := 9, slots := #[.int (-122)], vm := .none },
  { cls := 9, slots := #[.int (-121)], vm := .none },
  { cls := 9, slots := #[.int (-120)], vm := .none },
  { cls := 9, slots := #[.int (-119)], vm := .none },
  { cls := 9, slots := #[.int (-118)], vm := .none },
  { cls := 9, slots := #[.int (-117)], vm := .none },
  { cls := 9, slots := #[.int (-116)], vm := .none },
  { cls := 9, slots := #[.int (-115)], vm := .none },
  { cls := 9, slots := #[.int (-114)], vm := .none },
  { cls := 9, slots := #[.int (-113)], vm := .none },
  { cls := 9, slots := #[.int (-112)], vm := .none },
  { cls := 9, slots := #[.int (-111)], vm := .none },
  { cls := 9, slots := #[.int (-110)], vm := .none },
  { cls := 9, slots := #[.int (-109)], vm := .none },
  { cls := 9, slots := #[.int (-108)], vm := .none },
  { cls := 9, slots := #[.int (-107)], vm := .none },
  { cls := 9, slots := #[.int (-106)], vm := .none },
  { cls := 9, slots := #[.int (-105)], vm := .none },
  { cls := 9, slots := #[.int (-104)], vm := .none },
  { cls := 9, slots := #[.int (-103)], vm := .none },
  { cls := 9, slots := #[.int (-102)], vm := .none },
  { cls := 9, slots := #[.int (-101)], vm := .none },
  { cls := 9, slots := #[.int (-100)], vm := .none },
  { cls := 9, slots := #[.int (-99)], vm := .none },
  { cls := 9, slots := #[.int (-98)], vm := .none },
  { cls := 9, slots := #[.int (-97)], vm := .none },
  { cls := 9, slots := #[.int (-96)], vm := .none },
  { cls := 9, slots := #[.int (-95)], vm := .none },
  { cls := 9, slots := #[.int (-94)], vm := .none },
  { cls := 9, slots := #[.int (-93)], vm := .none },
  { cls := 9, slots := #[.int (-92)], vm := .none },
  { cls := 9, slots := #[.int (-91)], vm := .none },
  { cls := 9, slots := #[.int (-90)], vm := .none },
  { cls := 9, slots := #[.int (-89)], vm := .none },
  { cls := 9, slots := #[.int (-88)], vm := .none },
  { cls := 9, slots := #[.int (-87)], vm := .none },
  { cls := 9, slots := #[.int (-86)], vm := .none },
  { cls := 9, slots := #[.int (-85)], vm := .none },
  { cls := 9, slots := #[.int (-84)], vm := .none },
  { cls := 9, slots := #[.int (-83)], vm := .none },
  { cls := 9, slots := #[.int (-82)], vm := .none },
  { cls := 9, slots := #[.int (-81)], vm := .none },
  { cls := 9, slots := #[.int (-80)], vm := .none },
  { cls := 9, slots := #[.int (-79)], vm := .none },
  { cls := 9, slots := #[.int (-78)], vm := .none },
  { cls := 9, slots := #[.int (-77)], vm := .none },
  { cls := 9, slots := #[.int (-76)], vm := .none },
  { cls := 9, slots := #[.int (-75)], vm := .none },
  { cls := 9, slots := #[.int (-74)], vm := .none },
  { cls := 9, slots := #[.int (-73)], vm := .none },
  { cls := 9, slots := #[.int (-72)], vm := .none },
  { cls := 9, slots := #[.int (-71)], vm := .none },
  { cls := 9, slots := #[.int (-70)], vm := .none },
  { cls := 9, slots := #[.int (-69)], vm := .none },
  { cls := 9, slots := #[.int (-68)], vm := .none },
  { cls := 9, slots := #[.int (-67)], vm := .none },
  { cls := 9, slots := #[.int (-66)], vm := .none },
  { cls := 9, slots := #[.int (-65)], vm := .none },
  { cls := 9, slots := #[.int (-64)], vm := .none },
  { cls := 9, slots := #[.int (-63)], vm := .none },
  { cls := 9, slots := #[.int (-62)], vm := .none },
  { cls := 9, slots := #[.int (-61)], vm := .none },
  { cls := 9, slots := #[.int (-60)], vm := .none },
  { cls := 9, slots := #[.int (-59)], vm := .none },
  { cls := 9, slots := #[.int (-58)], vm := .none },
  { cls := 9, slots := #[.int (-57)], vm := .none },
  { cls := 9, slots := #[.int (-56)], vm := .none },
  { cls := 9, slots := #[.int (-55)], vm := .none },
  { cls := 9, slots := #[.int (-54)], vm := .none },
  { cls := 9, slots := #[.int (-53)], vm := .none },
  { cls := 9, slots := #[.int (-52)], vm := .none },
  { cls := 9, slots := #[.int (-51)], vm := .none },
  { cls := 9, slots := #[.int (-50)], vm := .none },
  { cls := 9, slots := #[.int (-49)], vm := .none },
  { cls := 9, slots := #[.int (-48)], vm := .none },
  { cls := 9, slots := #[.int (-47)], vm := .none },
  { cls := 9, slots := #[.int (-46)], vm := .none },
  { cls := 9, slots := #[.int (-45)], vm := .none },
  { cls := 9, slots := #[.int (-44)], vm := .none },
  { cls := 9, slots := #[.int (-43)], vm := .none },
  { cls := 9, slots := #[.int (-42)], vm := .none },
  { cls := 9, slots := #[.int (-41)], vm := .none },
  { cls := 9, slots := #[.int (-40)], vm := .none },
  { cls := 9, slots := #[.int (-39)], vm := .none },
  { cls := 9, slots := #[.int (-38)], vm := .none },
  { cls := 9, slots := #[.int (-37)], vm := .none },
  { cls := 9, slots := #[.int (-36)], vm := .none },
  { cls := 9, slots := #[.int (-35)], vm := .none },
  { cls := 9, slots := #[.int (-34)], vm := .none },
  { cls := 9, slots := #[.int (-33)], vm := .none },
  { cls := 9, slots := #[.int (-32)], vm := .none },
  { cls := 9, slots := #[.int (-31)], vm := .none },
  { cls := 9, slots := #[.int (-30)], vm := .none },
  { cls := 9, slots := #[.int (-29)], vm := .none },
  { cls := 9, slots := #[.int (-28)], vm := .none },
  { cls := 9, slots := #[.int (-27)], vm := .none },
  { cls := 9, slots := #[.int (-26)], vm := .none },
  { cls := 9, slots := #[.int (-25)], vm := .none },
  { cls := 9, slots := #[.int (-24)], vm := .none },
  { cls := 9, slots := #[.int (-23)], vm := .none },
  { cls := 9, slots := #[.int (-22)], vm := .none },
  { cls := 9, slots := #[.int (-21)], vm := .none },
  { cls := 9, slots := #[.int (-20)], vm := .none },
  { cls := 9, slots := #[.int (-19)], vm := .none },
  { cls := 9, slots := #[.int (-18)], vm := .none },
  { cls := 9, slots := #[.int (-17)], vm := .none },
  { cls := 9, slots := #[.int (-16)], vm := .none },
  { cls := 9, slots := #[.int (-15)], vm := .none },
  { cls := 9, slots := #[.int (-14)], vm := .none },
  { cls := 9, slots := #[.int (-13)], vm := .none },
  { cls := 9, slots := #[.int (-12)], vm := .none },
  { cls := 9, slots := #[.int (-11)], vm := .none },
  { cls := 9, slots := #[.int (-10)], vm := .none },
  { cls := 9, slots := #[.int (-9)], vm := .none },
  { cls := 9, slots := #[.int (-8)], vm := .none },
  { cls := 9, slots := #[.int (-7)], vm := .none },
  { cls := 9, slots := #[.int (-6)], vm := .none },
  { cls := 9, slots := #[.int (-5)], vm := .none },
  { cls := 9, slots := #[.int (-4)], vm := .none },
  { cls := 9, slots := #[.int (-3)], vm := .none },
  { cls := 9, slots := #[.int (-2)], vm := .none },
  { cls := 9, slots := #[.int (-1)], vm := .none },
  { cls := 9, slots := #[.int 0], vm := .none },
  { cls := 9, slots := #[.int 1], vm := .none },
  { cls := 9, slots := #[.int 2], vm := .none },
  { cls := 9, slots := #[.int 3], vm := .none },
  { cls := 9, slots := #[.int 4], vm := .none },
  { cls := 9, slots := #[.int 5], vm := .none },
  { cls := 9, slots := #[.int 6], vm := .none },
  { cls := 9, slots := #[.int 7], vm := .none },
  { cls := 9, slots := #[.int 8], vm := .none },
  { cls := 9, slots := #[.int 9], vm := .none },
  { cls := 9, slots := #[.int 10], vm := .none },
  { cls := 9, slots := #[.int 11], vm := .none },
  { cls := 9, slots := #[.int 12], vm := .none },
  { cls := 9, slots := #[.int 13], vm := .none },
  { cls := 9, slots := #[.int 14], vm := .none },
  { cls := 9, slots := #[.int 15], vm := .none },
  { cls := 9, slots := #[.int 16], vm := .none },
  { cls := 9, slots := #[.int 17], vm := .none },
  { cls := 9, slots := #[.int 18], vm := .none },
  { cls := 9, slots := #[.int 19], vm := .none },
  { cls := 9, slots := #[.int 20], vm := .none },
  { cls := 9, slots := #[.int 21], vm := .none },
  { cls := 9, slots := #[.int 22], vm := .none },
  { cls := 9, slots := #[.int 23], vm := .none },
  { cls := 9, slots := #[.int 24], vm := .none },
  { cls := 9, slots := #[.int 25], vm := .none },
  { cls := 9, slots := #[.int 26], vm := .none },
  { cls := 9, slots := #[.int 27], vm := .none },
  { cls := 9, slots := #[.int 28], vm := .none },
  { cls := 9, slots := #[.int 29], vm := .none },
  { cls := 9, slots := #[.int 30], vm := .none },
  { cls := 9, slots := #[.int 31], vm := .none },
  { cls := 9, slots := #[.int 32], vm := .none },
  { cls := 9, slots := #[.int 33], vm := .none },
  { cls := 9, slots := #[.int 34], vm := .none },
  { cls := 9, slots := #[.int 35], vm := .none },
  { cls := 9, slots := #[.int 36], vm := .none },
  { cls := 9, slots := #[.int 37], vm := .none },
  { cls := 9, slots := #[.int 38], vm := .none },
  { cls := 9, slots := #[.int 39], vm := .none },
  { cls := 9, slots := #[.int 40], vm := .none },
  { cls := 9, slots := #[.int 41], vm := .none },
  { cls := 9, slots := #[.int 42], vm := .none },
  { cls := 9, slots := #[.int 43], vm := .none },
  { cls := 9, slots := #[.int 44], vm := .none },
  { cls := 9, slots := #[.int 45], vm := .none },
  { cls := 9, slots := #[.int 46], vm := .none },
  { cls := 9, slots := #[.int 47], vm := .none },
  { cls := 9, slots := #[.int 48], vm := .none },
  { cls := 9, slots := #[.int 49], vm := .none },
  { cls := 9, slots := #[.int 50], vm := .none },
  { cls := 9, slots := #[.int 51], vm := .none },
  { cls := 9, slots := #[.int 52], vm := .none },
  { cls := 9, slots := #[.int 53], vm := .none },
  { cls := 9, slots := #[.int 54], vm := .none },
  { cls := 9, slots := #[.int 55], vm := .none },
  { cls := 9, slots := #[.int 56], vm := .none },
  { cls := 9, slots := #[.int 57], vm := .none },
  { cls := 9, slots := #[.int 58], vm := .none },
  { cls := 9, slots := #[.int 59], vm := .none },
  { cls := 9, slots := #[.int 60], vm := .none },
  { cls := 9, slots := #[.int 61], vm := .none },
  { cls := 9, slots := #[.int 62], vm := .none },
  { cls := 9, slots := #[.int 63], vm := .none },
  { cls := 9, slots := #[.int 64], vm := .none },
  { cls := 9, slots := #[.int 65], vm := .none },
  { cls := 9, slots := #[.int 66], vm := .none },
  { cls := 9, slots := #[.int 67], vm := .none },
  { cls := 9, slots := #[.int 68], vm := .none },
  { cls := 9, slots := #[.int 69], vm := .none },
  { cls := 9, slots := #[.int 70], vm := .none },
  { cls := 9, slots := #[.int 71], vm := .none },
  { cls := 9, slots := #[.int 72], vm := .none },
  { cls := 9, slots := #[.int 73], vm := .none },
  { cls := 9, slots := #[.int 74], vm := .none },
  { cls := 9, slots := #[.int 75], vm := .none },
  { cls := 9, slots := #[.int 76], vm := .none },
  { cls := 9, slots := #[.int 77], vm := .none },
  { cls := 9, slots := #[.int 78], vm := .none },
  { cls := 9, slots := #[.int 79], vm := .none },
  { cls := 9, slots := #[.int 80], vm := .none },
  { cls := 9, slots := #[.int 81], vm := .none },
  { cls := 9, slots := #[.int 82], vm := .none },
  { cls := 9, slots := #[.int 83], vm := .none },
  { cls := 9, slots := #[.int 84], vm := .none },
  { cls := 9, slots := #[.int 85], vm := .none },
  { cls := 9, slots := #[.int 86], vm := .none },
  { cls := 9, slots := #[.int 87], vm := .none },
  { cls := 9, slots := #[.int 88], vm := .none },
  { cls := 9, slots := #[.int 89], vm := .none },
  { cls := 9, slots := #[.int 90], vm := .none },
  { cls := 9, slots := #[.int 91], vm := .none },
  { cls := 9, slots := #[.int 92], vm := .none },
  { cls := 9, slots := #[.int 93], vm := .none },
  { cls := 9, slots := #[.int 94], vm := .none },
  { cls := 9, slots := #[.int 95], vm := .none },
  { cls := 9, slots := #[.int 96], vm := .none },
  { cls := 9, slots := #[.int 97], vm := .none },
  { cls := 9, slots := #[.int 98], vm := .none },
  { cls := 9, slots := #[.int 99], vm := .none },
  { cls := 9, slots := #[.int 100], vm := .none },
  { cls := 9, slots := #[.int 101], vm := .none },
  { cls := 9, slots := #[.int 102], vm := .none },
  { cls := 9, slots := #[.int 103], vm := .none },
  { cls := 9, slots := #[.int 104], vm := .none },
  { cls := 9, slots := #[.int 105], vm := .none },
  { cls := 9, slots := #[.int 106], vm := .none },
  { cls := 9, slots := #[.int 107], vm := .none },
  { cls := 9, slots := #[.int 108], vm := .none },
  { cls := 9, slots := #[.int 109], vm := .none },
  { cls := 9, slots := #[.int 110], vm := .none },
  { cls := 9, slots := #[.int 111], vm := .none },
  { cls := 9, slots := #[.int 112], vm := .none },
  { cls := 9, slots := #[.int 113], vm := .none },
  { cls := 9, slots := #[.int 114], vm := .none },
  { cls := 9, slots := #[.int 115], vm := .none },
  { cls := 9, slots := #[.int 116], vm := .none },
  { cls := 9, slots := #[.int 117], vm := .none },
  { cls := 9, slots := #[.int 118], vm := .none },
  { cls := 9, slots := #[.int 119], vm := .none },
  { cls := 9, slots := #[.int 120], vm := .none },
  { cls := 9, slots := #[.int 121], vm := .none },
  { cls := 9, slots := #[.int 122], vm := .none },
  { cls := 9, slots := #[.int 123], vm := .none },
  { cls := 9, slots := #[.int 124], vm := .none },
  { cls := 9, slots := #[.int 125], vm := .none },
  { cls := 9, slots := #[.int 126], vm := .none },
  { cls := 9, slots := #[.int 127], vm := .none }]
def classes : Array Class := #[k0, k1, k2, k3, k4, k5, k6, k7, k8, k9, k10, k11, k12, k13, k14, k15, k16]
def interned : List (Array UInt16 × Addr) := []
def slotsUsed : Nat := 517
def theMethod : MethodId := ⟨1, 3⟩
def args0 : Array Value := #[.int 5, .int 3, .int 7, .int 9, .int 6, .int 4]
def aboutOver (below : List Frame) : State where
  vm := { classes := classes, interned := interned.toArray }
  heap := heap
  slotsUsed := slotsUsed
  threads := #[{ frames := .invoking theMethod args0 :: below }]
def below0 : List Frame := [.native { method := ⟨0, 0⟩, args := #[] }]
def about1 : State := aboutOver below0
def p0 : Program := .bare "" "" ""
def e0 : Env := launch0.env 0 0 0
theorem w_frames : about1.frames = Frame.invoking theMethod args0 :: below0 := rfl
set_option maxRecDepth 65536 in
theorem w_args : argsFit about1.vm theMethod args0 = true := by decide +kernel
set_option maxRecDepth 65536 in
theorem w_heap : heapFits about1 = true := by decide +kernel
set_option maxRecDepth 65536 in
theorem w_runnable : about1.curStatus? = some .runnable := by decide +kernel
set_option maxRecDepth 65536 in
theorem w_alone : about1.alone = true := by decide +kernel
set_option maxRecDepth 65536 in
theorem w_named : about1.methodNamed? x = some theMethod := by decide +kernel
set_option maxRecDepth 65536 in
theorem w_hears : about1.hears theMethod below0 = true := by decide +kernel
set_option maxRecDepth 65536 in
theorem w_ripe : about1.ripe theMethod args0 below0 = true := by decide +kernel
theorem w_running : about1.status = .running := rfl
set_option maxRecDepth 65536 in
theorem w_room : about1.hasRoom e0.platform room_1 = true :=
  launch0.hasRoom_least _ room_1 (by decide +kernel) (by decide +kernel) (by decide +kernel) (by decide +kernel) (by decide +kernel) (by decide +kernel)
theorem allAtoms_all (ts : List Jvm.Cond) (a : Array Jvm.Value) (st : Jvm.State) : (allAtoms ts).before a st = ts.all (fun c => c.before a st) := by
  induction ts with
  | nil => rfl
  | cons c t ih =>
    show (Jvm.Cond.and c (allAtoms t)).before a st = _
    rw [Jvm.Cond.before_and, ih, List.all_cons]
def words1 : List Jvm.Cond := Jvm.Cond.code x code maxLocals ret :: tables_1
/-- a 'code' word, met by the world's own term for the bytes: nothing is compared byte by byte -/
theorem code_word {y : MethodName} {bytes : ByteArray} {mx : Nat} {rt : Option FieldType} {a : Array Value} {s : State} {m : MethodId} {meth : Method} {c : Code} (h1 : s.methodNamed? y = some m) (h2 : s.vm.method? m = some meth) (h3 : meth.code = some c) (h4 : c.code = bytes)
    (h5 : (c.maxLocals == mx && c.exceptionTable.isEmpty && decide (c.maxStack ≤ mostOperands) && decide (meth.sig.returnType = rt) && !meth.locks && decide (parseMethodDescriptor y.desc = some meth.sig)) = true) : (Jvm.Cond.code y bytes mx rt).before a s = true := by
  simp only [Bool.and_eq_true, beq_iff_eq, Bool.not_eq_true', decide_eq_true_eq] at h5
  obtain ⟨⟨⟨⟨⟨g1, g2⟩, g3⟩, g4⟩, g5⟩, g6⟩ := h5
  simp [Cond.before, Cond.holds, Cond.value, h1, h2, h3, h4, g1, g2, g3, g4, g5, g6]
def isCode : Jvm.Cond → Bool
  | .code _ _ _ _ => true
  | _ => false
theorem all_split {L : List Jvm.Cond} {P : Jvm.Cond → Bool} (h1 : L.all (fun c => isCode c || P c) = true) (h2 : ∀ c ∈ L.filter isCode, P c = true) : L.all P = true := by
  refine List.all_eq_true.mpr fun c hc => ?_
  have h := List.all_eq_true.mp h1 c hc
  rcases Bool.eq_false_or_eq_true (isCode c) with hi | hi
  · exact h2 c (List.mem_filter.mpr ⟨hc, hi⟩)
  · simpa [hi] using h
set_option maxRecDepth 65536 in
theorem w_c0 : (Jvm.Cond.code x code maxLocals ret).before args0 about1 = true := code_word (m := ⟨1, 3⟩) (meth := k1m3) (c := k1c3) (by decide +kernel) rfl rfl rfl (by decide +kernel)
set_option maxRecDepth 65536 in
theorem w_c1 : (Jvm.Cond.code ({ cls := "com/example/conflux/conflux/compose/LowestKeyFirst", name := "<init>", desc := "([I)V" } : Jvm.MethodName) prog_45_method_1_code (2 : Nat) (Option.none : Option Jvm.ClassFile.FieldType)).before args0 about1 = true := code_word (m := ⟨3, 0⟩) (meth := k3m0) (c := k3c0) (by decide +kernel) rfl rfl rfl (by decide +kernel)
set_option maxRecDepth 65536 in
theorem w_c2 : (Jvm.Cond.code ({ cls := "java/lang/Object", name := "<init>", desc := "()V" } : Jvm.MethodName) object_method_1_code (1 : Nat) (Option.none : Option Jvm.ClassFile.FieldType)).before args0 about1 = true := code_word (m := ⟨0, 0⟩) (meth := k0m0) (c := k0c0) (by decide +kernel) rfl rfl rfl (by decide +kernel)
set_option maxRecDepth 65536 in
theorem w_c3 : (Jvm.Cond.code ({ cls := "java/lang/Integer", name := "valueOf", desc := "(I)Ljava/lang/Integer;" } : Jvm.MethodName) jdk_33_method_22_code (1 : Nat) (Option.some (Jvm.ClassFile.FieldType.object "java/lang/Integer"))).before args0 about1 = true := code_word (m := ⟨9, 0⟩) (meth := k9m0) (c := k9c0) (by decide +kernel) rfl rfl rfl (by decide +kernel)
set_option maxRecDepth 65536 in
theorem w_c4 : (Jvm.Cond.code ({ cls := "com/example/conflux/conflux/compose/LowestKeyFirst", name := "compare", desc := "(Ljava/lang/Integer;Ljava/lang/Integer;)I" } : Jvm.MethodName) prog_45_method_2_code (3 : Nat) (Option.some Jvm.ClassFile.FieldType.int)).before args0 about1 = true := code_word (m := ⟨3, 1⟩) (meth := k3m1) (c := k3c1) (by decide +kernel) rfl rfl rfl (by decide +kernel)
set_option maxRecDepth 65536 in
theorem w_c5 : (Jvm.Cond.code ({ cls := "java/lang/Integer", name := "intValue", desc := "()I" } : Jvm.MethodName) jdk_33_method_27_code (1 : Nat) (Option.some Jvm.ClassFile.FieldType.int)).before args0 about1 = true := code_word (m := ⟨9, 1⟩) (meth := k9m1) (c := k9c1) (by decide +kernel) rfl rfl rfl (by decide +kernel)
set_option maxRecDepth 65536 in
theorem w_c6 : (Jvm.Cond.code ({ cls := "java/lang/Integer", name := "compare", desc := "(II)I" } : Jvm.MethodName) jdk_33_method_40_code (2 : Nat) (Option.some Jvm.ClassFile.FieldType.int)).before args0 about1 = true := code_word (m := ⟨9, 2⟩) (meth := k9m2) (c := k9c2) (by decide +kernel) rfl rfl rfl (by decide +kernel)
set_option maxRecDepth 65536 in
theorem w_c7 : (Jvm.Cond.code ({ cls := "com/example/conflux/conflux/compose/LowestKeyFirstComparePinLaw", name := "sgn", desc := "(I)I" } : Jvm.MethodName) method_2_code (1 : Nat) (Option.some Jvm.ClassFile.FieldType.int)).before args0 about1 = true := code_word (m := ⟨1, 1⟩) (meth := k1m1) (c := k1c1) (by decide +kernel) rfl rfl rfl (by decide +kernel)
set_option maxRecDepth 65536 in
theorem w_c8 : (Jvm.Cond.code ({ cls := "com/example/conflux/conflux/compose/LowestKeyFirstComparePinLaw", name := "expect", desc := "(II)I" } : Jvm.MethodName) method_3_code (2 : Nat) (Option.some Jvm.ClassFile.FieldType.int)).before args0 about1 = true := code_word (m := ⟨1, 2⟩) (meth := k1m2) (c := k1c2) (by decide +kernel) rfl rfl rfl (by decide +kernel)
def codes1 : List Jvm.Cond := [Jvm.Cond.code x code maxLocals ret, Jvm.Cond.code ({ cls := "com/example/conflux/conflux/compose/LowestKeyFirst", name := "<init>", desc := "([I)V" } : Jvm.MethodName) prog_45_method_1_code (2 : Nat) (Option.none : Option Jvm.ClassFile.FieldType), Jvm.Cond.code ({ cls := "java/lang/Object", name := "<init>", desc := "()V" } : Jvm.MethodName) object_method_1_code (1 : Nat) (Option.none : Option Jvm.ClassFile.FieldType), Jvm.Cond.code ({ cls := "java/lang/Integer", name := "valueOf", desc := "(I)Ljava/lang/Integer;" } : Jvm.MethodName) jdk_33_method_22_code (1 : Nat) (Option.some (Jvm.ClassFile.FieldType.object "java/lang/Integer")), Jvm.Cond.code ({ cls := "com/example/conflux/conflux/compose/LowestKeyFirst", name := "compare", desc := "(Ljava/lang/Integer;Ljava/lang/Integer;)I" } : Jvm.MethodName) prog_45_method_2_code (3 : Nat) (Option.some Jvm.ClassFile.FieldType.int), Jvm.Cond.code ({ cls := "java/lang/Integer", name := "intValue", desc := "()I" } : Jvm.MethodName) jdk_33_method_27_code (1 : Nat) (Option.some Jvm.ClassFile.FieldType.int), Jvm.Cond.code ({ cls := "java/lang/Integer", name := "compare", desc := "(II)I" } : Jvm.MethodName) jdk_33_method_40_code (2 : Nat) (Option.some Jvm.ClassFile.FieldType.int), Jvm.Cond.code ({ cls := "com/example/conflux/conflux/compose/LowestKeyFirstComparePinLaw", name := "sgn", desc := "(I)I" } : Jvm.MethodName) method_2_code (1 : Nat) (Option.some Jvm.ClassFile.FieldType.int), Jvm.Cond.code ({ cls := "com/example/conflux/conflux/compose/LowestKeyFirstComparePinLaw", name := "expect", desc := "(II)I" } : Jvm.MethodName) method_3_code (2 : Nat) (Option.some Jvm.ClassFile.FieldType.int)]
set_option maxRecDepth 65536 in
theorem codes_eq : words1.filter isCode = codes1 := rfl
theorem w_codes : ∀ c ∈ words1.filter isCode, c.before args0 about1 = true := by
  rw [codes_eq]
  intro c hc
  simp only [codes1, List.mem_cons, List.not_mem_nil, or_false] at hc
  rcases hc with rfl | rfl | rfl | rfl | rfl | rfl | rfl | rfl | rfl
  · exact w_c0
  · exact w_c1
  · exact w_c2
  · exact w_c3
  · exact w_c4
  · exact w_c5
  · exact w_c6
  · exact w_c7
  · exact w_c8
set_option maxRecDepth 65536 in
theorem w_t1 : (words1.take 24).all (fun c => isCode c || c.before args0 about1) = true := by decide +kernel
set_option maxRecDepth 65536 in
theorem w_t2 : (words1.drop 24).all (fun c => isCode c || c.before args0 about1) = true := by decide +kernel
theorem w_tables : (allAtoms (Jvm.Cond.code x code maxLocals ret :: tables_1)).before args0 about1 = true := by
  rw [allAtoms_all]
  show words1.all (fun c => c.before args0 about1) = true
  refine all_split ?_ w_codes
  rw [← List.take_append_drop 24 words1, List.all_append, w_t1, w_t2]
  rfl
set_option maxRecDepth 65536 in
theorem w_rest : rest_1_c.before args0 about1 = true := by decide +kernel
set_option maxRecDepth 65536 in
theorem w_case : (Jvm.Cond.and given_1 narrow_1).before args0 about1 = true := by decide +kernel
theorem w_applies : (headSpec (Jvm.Cond.code x code maxLocals ret :: tables_1) room_1).applies x e0.platform about1 = true :=
  (Spec.applies_iff w_frames).mpr ⟨w_running, w_runnable, w_alone, w_named, w_hears, w_ripe, w_room, w_tables⟩
theorem atStart : AtStart classFile x code maxLocals ret World_1 tables_1 room_1 Calls_1 rest_1 Pre_1 launch0 p0 e0 about1 theMethod args0 below0 :=
  ⟨lists_1, trivial, launch0.admits_env _ _ _, launch0.least_env, fairChoices_fair.cas, fairChoices_fair.clock, w_frames, w_args, w_heap, w_applies, trivial, w_rest, w_case⟩
end start1
theorem witness_1 : WitnessClaimed_1 := ⟨start1.p0, start1.e0, start1.about1, start1.theMethod, start1.args0, start1.below0, start1.atStart⟩
end Jvm.Pilot.@@N@@
