import JvmDerived
import JvmDerived.Pilot.@@N@@Statement
import JvmDerived.Pilot.@@N@@Code
set_option linter.unusedVariables false
set_option linter.unusedSimpArgs false
@@BLOCK:NumsL.lean.txt@@
namespace Jvm.Pilot.@@N@@
open Jvm Jvm.ClassFile Sem Op Lib Jvm.Free Jvm.Stand Jvm.LawKit Jvm.RoadKit Bundle Jvm.Pilot.@@N@@.Jvm.D

section Own
variable {p : Program} {l : Launch} {e : Env} {R : Room} {s : State} {m : MethodId} {args : Array Value} {below : List Frame} {meth : Method} {c : Code} {T : State} {locs : List Loc} {cells slots : Nat} {Z : State} {a0 : Array Value} {h : Heap} {Q : Option Value → Heap → List Loc → Prop} {kc kn : Nat}
/-- from U the body comes to its end, with Q -/
def own_Fin (p : Program) (e : Env) (below : List Frame) (s : State) (Q : Option Value → Heap → List Loc → Prop) (kc kn : Nat) (U : State) : Prop :=
  ∃ t o, Steps p.tables e below U t ∧ t.status = .running ∧ Ended t below o ∧ ∃ v L, o = .returned v ∧ Q v t.heap L ∧ FrameEnd s o t L kc kn
theorem own_go {U U' : State} (g : ∀ t, Steps p.tables e below U' t → Steps p.tables e below U t) (H : own_Fin p e below s Q kc kn U') : own_Fin p e below s Q kc kn U := by
  obtain ⟨t, o, h1, h2⟩ := H
  exact ⟨t, o, g t h1, h2⟩
/-- what a body that writes nothing and returns w leaves -/
def own_P (w : Option Value) (h0 : Heap) (n0 : Nat) (v : Option Value) (h : Heap) (L : List Loc) : Prop := v = w ∧ Fr n0 L ∧ h = h0
/-- a body's contract: called with as' on the heap h, it ends with Q -/
def own_Met (l : Launch) (y : MethodName) (bytes : ByteArray) (maxL : Nat) (ret : Option FieldType) (rm : Room) (Z : State) (ws : List Jvm.Cond) (as' : Array Value) (h : Heap) (Q : Option Value → Heap → List Loc → Prop) : Prop :=
  MetFree l y (head1 (Jvm.Cond.code y bytes maxL ret :: ws) rm) (fun a U => a = as' ∧ Z.Warmed39 U.vm ∧ U.heap = h) (fun _ _ _ _ _ => True) (fun _ U o U' => ∃ v L, o = .returned v ∧ Q v U'.heap L ∧ FrameEnd U o U' L rm.cells rm.slots)
theorem own_enter {y : MethodName} {bytes : ByteArray} {maxL : Nat} {ret : Option FieldType} {rm : Room} {ws : List Jvm.Cond} {as' : Array Value} (hp : plainFor y = true)
    (H : ∀ (p : Program) (e : Env) (s : State) (m : MethodId) (below : List Frame) (meth : Method) (c : Code) (s₁ : State), p.tables.exec = Jvm.exec → c.code = bytes → c.maxLocals = maxL → s.vm.findClass y.cls = some m.cls → meth.name = y.name → meth.sig.returnType = ret → meth.locks = false → Z.Warmed39 s.vm → s₁.heap = h → Stand p l e rm s m as' below meth c s₁ [] 0 0 → own_Fin p e below s Q rm.cells rm.slots (s₁.setTop (entryFrame m as' maxL))) :
    own_Met l y bytes maxL ret rm Z ws as' h Q := by
  unfold own_Met
  refine MetFree.of_bodySF hp hisR ?_
  intro p e s m args below meth c s₁ Bd hml0 hP hK
  obtain ⟨rfl, hZ, hh⟩ := hP
  exact H p e s m below meth c s₁ Bd.exec Bd.bytes hml0 (findClass_of_methodNamed Bd.named) (name_of_methodNamed Bd.named Bd.method).1 Bd.returns (BodyLoose.notSynchronized Bd) hZ (by rw [← hh, Bd.state]; rfl) (Stand.of_body Bd)
theorem own_ret (X : Stand p l e R s m args below meth c T locs cells slots) (hx : p.tables.exec = Jvm.exec) (hlk : meth.locks = false) {pc : Nat} {Ls : Array Slot} {w : Value} {t : FieldType} {i : Instr} {rest : List Value} (hret : meth.sig.returnType = some t) (hn : narrow t w = w)
    (hi : (i = .ireturn ∧ (t = .int ∨ t = .boolean ∨ t = .byte ∨ t = .char ∨ t = .short) ∧ ∃ z, w = .int z) ∨ (i = .lreturn ∧ t = .long ∧ ∃ z, w = .long z) ∨ (i = .dreturn ∧ t = .double ∧ ∃ z, w = .double z) ∨ (i = .freturn ∧ t = .float ∧ ∃ z, w = .float z) ∨ (i = .areturn ∧ t.isReference = true ∧ w.isRef = true))
    (hd : decode c.code pc = .ok (i, 1)) (hk : cells ≤ kc) (hs : slots ≤ kn) (hq : Q (some w) T.heap locs) : own_Fin p e below s Q kc kn (T.setTop (mkF m pc Ls (w :: rest))) := by
  obtain ⟨fs, hr, hrun, hended, hW, hsame⟩ := X.leave (v := some w) (fun h => by rw [hret] at h; cases h) hlk
  exact ⟨_, _, retOut X hx hret hn hi hd hr, hrun, hended, _, _, rfl, hq, ⟨_, rfl⟩, hW, hsame.mono hk hs⟩
theorem own_retI (X : Stand p l e R s m args below meth c T locs cells slots) (hx : p.tables.exec = Jvm.exec) (hlk : meth.locks = false) {pc : Nat} {Ls : Array Slot} {z : Int32} {rest : List Value} (hret : meth.sig.returnType = some .int)
    (hd : decode c.code pc = .ok (.ireturn, 1)) (hk : cells ≤ kc) (hs : slots ≤ kn) (hq : Q (some (.int z)) T.heap locs) : own_Fin p e below s Q kc kn (T.setTop (mkF m pc Ls (.int z :: rest))) :=
  own_ret X hx hlk hret rfl (Or.inl ⟨rfl, Or.inl rfl, _, rfl⟩) hd hk hs hq
theorem own_retZ (X : Stand p l e R s m args below meth c T locs cells slots) (hx : p.tables.exec = Jvm.exec) (hlk : meth.locks = false) {pc : Nat} {Ls : Array Slot} {z : Int32} {rest : List Value} (hret : meth.sig.returnType = some .boolean) (hn : narrow .boolean (.int z) = .int z)
    (hd : decode c.code pc = .ok (.ireturn, 1)) (hk : cells ≤ kc) (hs : slots ≤ kn) (hq : Q (some (.int z)) T.heap locs) : own_Fin p e below s Q kc kn (T.setTop (mkF m pc Ls (.int z :: rest))) :=
  own_ret X hx hlk hret hn (Or.inl ⟨rfl, Or.inr (Or.inl rfl), _, rfl⟩) hd hk hs hq
theorem own_retJ (X : Stand p l e R s m args below meth c T locs cells slots) (hx : p.tables.exec = Jvm.exec) (hlk : meth.locks = false) {pc : Nat} {Ls : Array Slot} {z : Int64} {rest : List Value} (hret : meth.sig.returnType = some .long)
    (hd : decode c.code pc = .ok (.lreturn, 1)) (hk : cells ≤ kc) (hs : slots ≤ kn) (hq : Q (some (.long z)) T.heap locs) : own_Fin p e below s Q kc kn (T.setTop (mkF m pc Ls (.long z :: rest))) :=
  own_ret X hx hlk hret rfl (Or.inr (Or.inl ⟨rfl, rfl, _, rfl⟩)) hd hk hs hq
theorem own_retA (X : Stand p l e R s m args below meth c T locs cells slots) (hx : p.tables.exec = Jvm.exec) (hlk : meth.locks = false) {pc : Nat} {Ls : Array Slot} {z : Addr} {t : FieldType} {rest : List Value} (hret : meth.sig.returnType = some t) (ht : t.isReference = true) (hn : narrow t (.ref z) = .ref z)
    (hd : decode c.code pc = .ok (.areturn, 1)) (hk : cells ≤ kc) (hs : slots ≤ kn) (hq : Q (some (.ref z)) T.heap locs) : own_Fin p e below s Q kc kn (T.setTop (mkF m pc Ls (.ref z :: rest))) :=
  own_ret X hx hlk hret hn (Or.inr (Or.inr (Or.inr (Or.inr ⟨rfl, ht, rfl⟩)))) hd hk hs hq
theorem own_retV (X : Stand p l e R s m args below meth c T locs cells slots) (hx : p.tables.exec = Jvm.exec) (hlk : meth.locks = false) {pc : Nat} {Ls : Array Slot} (hret : meth.sig.returnType = none)
    (hd : decode c.code pc = .ok (.return_, 1)) (hk : cells ≤ kc) (hs : slots ≤ kn) (hq : Q none T.heap locs) : own_Fin p e below s Q kc kn (T.setTop (mkF m pc Ls [])) := by
  obtain ⟨fs, hr, hrun, hended, hW, hsame⟩ := X.leave (v := none) (fun _ => rfl) hlk
  exact ⟨_, _, X.returnOut hx hret hd hr, hrun, hended, _, _, rfl, hq, ⟨_, rfl⟩, hW, hsame.mono hk hs⟩
theorem own_callS (X : Stand p l e R s m args below meth c T locs cells slots) (hx : p.tables.exec = Jvm.exec) (hZ : Z.Warmed39 s.vm) {own : String} {index : Nat} {y : MethodName} {bytes : ByteArray} {maxL : Nat} {ret : Option FieldType} {rm : Room} {as' : Array Value} {Q' : Option Value → Heap → List Loc → Prop}
    (hown : s.vm.findClass own = some m.cls) (w1 : (Jvm.Cond.methodLink own index y).before a0 Z = true) (w2 : (Jvm.Cond.static y).before a0 Z = true) (w3 : (Jvm.Cond.initialized y.cls).before a0 Z = true) (w4 : (Jvm.Cond.code y bytes maxL ret).before a0 Z = true) (hy : y.cls ≠ "java/lang/invoke/MethodHandle" ∧ y.cls ≠ "java/lang/invoke/VarHandle")
    (hM : own_Met l y bytes maxL ret rm Z [] as' h Q') (eT : T.heap = h) {pc : Nat} {Ls : Array Slot} {st argsL rest : List Value} (hst : st = argsL.reverse ++ rest) (has : argsL.toArray = as') (hsize : Ls.size = c.maxLocals) (hlen : ∀ sig, parseMethodDescriptor y.desc = some sig → argsL.length = sig.parameters.length)
    (hd : decode c.code pc = .ok (.invokestatic index, 3)) {W : Nat} (hW : (rest.map fun v => v.category).sum ≤ W) (hf : rm.frames + 1 ≤ R.frames) (hl : W + (maxL + 11) + rm.locals ≤ R.locals) (hc : cells + rm.cells ≤ R.cells) (hs : slots + rm.slots ≤ R.slots)
    (H : ∀ (v : Option Value) (T' : State) (L : List Loc), Stand p l e R s m args below meth c T' (locs ++ L) (cells + rm.cells) (slots + rm.slots) → Q' v T'.heap L → own_Fin p e below s Q kc kn (T'.setTop (mkF m (pc + 3) Ls (v.toList ++ rest)))) :
    own_Fin p e below s Q kc kn (T.setTop (mkF m pc Ls st)) := by
  subst hst
  obtain ⟨v, _, ⟨T', L', k', n'⟩, -, X', ⟨Lc, hQ, l1, y1, z1⟩, st⟩ := Jvm.LawKit.callS X hx (y := y) hown (mvT hZ w1) (mvT hZ w2) (mvT hZ w3) (mvT hZ w4) hy (backOf (W := W) hM hZ w4 w3 hf hl) (g := mkF m pc Ls (argsL.reverse ++ rest)) rfl hsize hlen rfl (by show 2 * 0 + _ ≤ _; omega) hd (fun _ _ => ⟨has, eT, hc, hs⟩)
  dsimp only [Pt.U, Pt.locs, Pt.cells, Pt.slots] at X' l1 y1 z1 st hQ
  subst l1 y1 z1
  exact own_go st (H _ _ _ X' hQ)
theorem own_callV (X : Stand p l e R s m args below meth c T locs cells slots) (hx : p.tables.exec = Jvm.exec) (hZ : Z.Warmed39 s.vm) {own C : String} {index : Nat} {y z : MethodName} {bytes : ByteArray} {maxL : Nat} {ret : Option FieldType} {rm : Room} {as' : Array Value} {Q' : Option Value → Heap → List Loc → Prop}
    (hown : s.vm.findClass own = some m.cls) (w1 : (Jvm.Cond.methodLink own index y).before a0 Z = true) (w2 : (Jvm.Cond.declares y).before a0 Z = true) (nf : NotFace s y) (w3 : (Jvm.Cond.selects C y z).before a0 Z = true) (w4 : (Jvm.Cond.instanceMethod z).before a0 Z = true) (w5 : (Jvm.Cond.code z bytes maxL ret).before a0 Z = true) (w6 : (Jvm.Cond.initialized z.cls).before a0 Z = true) (hy : y.cls ≠ "java/lang/invoke/MethodHandle" ∧ y.cls ≠ "java/lang/invoke/VarHandle")
    (hM : own_Met l z bytes maxL ret rm Z [] as' h Q') (eT : T.heap = h) {a : Addr} (E : Exa Z h a C) {pc : Nat} {Ls : Array Slot} {st argsL rest : List Value} (hst : st = argsL.reverse ++ .ref a :: rest) (has : (.ref a :: argsL).toArray = as') (hsize : Ls.size = c.maxLocals) (hlen : ∀ sig, parseMethodDescriptor y.desc = some sig → argsL.length = sig.parameters.length)
    (hd : decode c.code pc = .ok (.invokevirtual index, 3)) {W : Nat} (hW : (rest.map fun v => v.category).sum ≤ W) (hf : rm.frames + 1 ≤ R.frames) (hl : W + (maxL + 11) + rm.locals ≤ R.locals) (hc : cells + rm.cells ≤ R.cells) (hs : slots + rm.slots ≤ R.slots)
    (H : ∀ (v : Option Value) (T' : State) (L : List Loc), Stand p l e R s m args below meth c T' (locs ++ L) (cells + rm.cells) (slots + rm.slots) → Q' v T'.heap L → own_Fin p e below s Q kc kn (T'.setTop (mkF m (pc + 3) Ls (v.toList ++ rest)))) :
    own_Fin p e below s Q kc kn (T.setTop (mkF m pc Ls st)) := by
  subst hst
  obtain ⟨cB, kB, q1, q2, q3⟩ := isOf (T := T) hZ eT E
  obtain ⟨v, _, ⟨T', L', k', n'⟩, -, X', ⟨Lc, hQ, l1, y1, z1⟩, st⟩ := X.virtualBack hx (y := y) (z := z) hown (mvT hZ w1) (mvT hZ w2) nf (mvT hZ w3) (mvT hZ w4) hy (backOf (W := W) hM hZ w5 w6 hf hl) q1 q3 (g := mkF m pc Ls (argsL.reverse ++ .ref a :: rest)) rfl hsize (Steps.refl _) hlen rfl (by show 2 * 0 + _ ≤ _; omega) hd (fun _ _ => ⟨has, eT, hc, hs⟩)
  dsimp only [Pt.U, Pt.locs, Pt.cells, Pt.slots] at X' l1 y1 z1 st hQ
  subst l1 y1 z1
  exact own_go (fun _ k => st.trans k) (H _ _ _ X' hQ)
theorem own_callN (X : Stand p l e R s m args below meth c T locs cells slots) (hx : p.tables.exec = Jvm.exec) (hZ : Z.Warmed39 s.vm) {own : String} {index : Nat} {y : MethodName} {bytes : ByteArray} {maxL : Nat} {rm : Room} {as' : Array Value} {Q' : Option Value → Heap → List Loc → Prop} (hy1 : y.name = "<init>")
    (hown : s.vm.findClass own = some m.cls) (w1 : (Jvm.Cond.methodLink own index y).before a0 Z = true) (w2 : (Jvm.Cond.instanceMethod y).before a0 Z = true) (w3 : (Jvm.Cond.initialized y.cls).before a0 Z = true) (w4 : (Jvm.Cond.code y bytes maxL none).before a0 Z = true) (hy : y.cls ≠ "java/lang/invoke/MethodHandle" ∧ y.cls ≠ "java/lang/invoke/VarHandle")
    (hM : own_Met l y bytes maxL none rm Z [] as' h Q') (eT : T.heap = h) {a : Addr} {pc : Nat} {Ls : Array Slot} {st argsL rest : List Value} (hst : st = argsL.reverse ++ .ref a :: rest) (has : (.ref a :: argsL).toArray = as') (hsize : Ls.size = c.maxLocals) (hlen : ∀ sig, parseMethodDescriptor y.desc = some sig → argsL.length = sig.parameters.length)
    (hd : decode c.code pc = .ok (.invokespecial index, 3)) {W : Nat} (hW : (rest.map fun v => v.category).sum ≤ W) (hf : rm.frames + 1 ≤ R.frames) (hl : W + (maxL + 11) + rm.locals ≤ R.locals) (hc : cells + rm.cells ≤ R.cells) (hs : slots + rm.slots ≤ R.slots)
    (H : ∀ (v : Option Value) (T' : State) (L : List Loc), Stand p l e R s m args below meth c T' (locs ++ L) (cells + rm.cells) (slots + rm.slots) → Q' v T'.heap L → own_Fin p e below s Q kc kn (T'.setTop (mkF m (pc + 3) Ls (v.toList ++ rest)))) :
    own_Fin p e below s Q kc kn (T.setTop (mkF m pc Ls st)) := by
  subst hst
  obtain ⟨v, _, ⟨T', L', k', n'⟩, -, X', ⟨Lc, hQ, l1, y1, z1⟩, st⟩ := X.specialBack hx (y := y) hy1 hown (mvT hZ w1) (mvT hZ w2) (mvT hZ w4) hy (backOf (W := W) hM hZ w4 w3 hf hl) (g := mkF m pc Ls (argsL.reverse ++ .ref a :: rest)) rfl hsize (Steps.refl _) (a := a) hlen rfl (by show 2 * 0 + _ ≤ _; omega) hd (fun _ _ => ⟨has, eT, hc, hs⟩)
  dsimp only [Pt.U, Pt.locs, Pt.cells, Pt.slots] at X' l1 y1 z1 st hQ
  subst l1 y1 z1
  exact own_go (fun _ k => st.trans k) (H _ _ _ X' hQ)
theorem own_initO (X : Stand p l e R s m args below meth c T locs cells slots) (hx : p.tables.exec = Jvm.exec) (hZ : Z.Warmed39 s.vm) {own : String} {idx : Nat} (hown : s.vm.findClass own = some m.cls) (w1 : (Jvm.Cond.methodLink own idx Lib.objectInit).before a0 Z = true) (w2 : (Jvm.Cond.instanceMethod Lib.objectInit).before a0 Z = true)
    (w3 : (Jvm.Cond.code Lib.objectInit ⟨#[0xb1]⟩ 1 none).before a0 Z = true) (eT : T.heap = h) {pc : Nat} {Ls : Array Slot} (hsize : Ls.size = c.maxLocals) {a : Addr} {rest : List Value} (hd : decode c.code pc = .ok (.invokespecial idx, 3))
    (hf : 1 ≤ R.frames) {W : Nat} (hW : (rest.map fun v => v.category).sum ≤ W) (hl : W + 12 ≤ R.locals)
    (H : ∀ (T' : State), Stand p l e R s m args below meth c T' locs cells slots → T'.heap = h → own_Fin p e below s Q kc kn (T'.setTop (mkF m (pc + 3) Ls rest))) :
    own_Fin p e below s Q kc kn (T.setTop (mkF m pc Ls (.ref a :: rest))) := by
  obtain ⟨T', X', e', st⟩ := initO X hx hZ hown w1 w2 w3 eT (g := mkF m pc Ls (.ref a :: rest)) rfl hsize rfl hd hf (W := W) (by show 2 * 0 + _ ≤ _; omega) hl
  exact own_go st (H _ X' e')
theorem own_getF (X : Stand p l e R s m args below meth c T locs cells slots) (hx : p.tables.exec = Jvm.exec) (hZ : Z.Warmed39 s.vm) {own R0 O n d host : String} {index : Nat} (hown : s.vm.findClass own = some m.cls) (w : (Jvm.Cond.fieldLink own index R0 n d).before a0 Z = true ∨ (Jvm.Cond.fieldLinkNest own index R0 n d host).before a0 Z = true) (via : Via Z R0 O n d)
    (eT : T.heap = h) {a : Addr} {v : Value} (F : Fld Z h a O n d v) {pc : Nat} {Ls : Array Slot} {rest : List Value} (hd : decode c.code pc = .ok (.getfield index, 3))
    (H : ∀ (T' : State), Stand p l e R s m args below meth c T' locs cells slots → T'.heap = h → own_Fin p e below s Q kc kn (T'.setTop (mkF m (pc + 3) Ls (v :: rest)))) :
    own_Fin p e below s Q kc kn (T.setTop (mkF m pc Ls (.ref a :: rest))) := by
  obtain ⟨T', X', e', st⟩ := getF X hx hZ hown w via eT F (g := mkF m pc Ls (.ref a :: rest)) rfl rfl hd
  exact own_go st (H _ X' e')
theorem own_getS (X : Stand p l e R s m args below meth c T locs cells slots) (hx : p.tables.exec = Jvm.exec) (hZ : Z.Warmed39 s.vm) {own R0 O n d host : String} {index : Nat} (hown : s.vm.findClass own = some m.cls) (w : (Jvm.Cond.fieldLink own index R0 n d).before a0 Z = true ∨ (Jvm.Cond.fieldLinkNest own index R0 n d host).before a0 Z = true) (via : Via Z R0 O n d)
    (eT : T.heap = h) {v : Value} (F : Sta Z h O n d v) {pc : Nat} {Ls : Array Slot} {rest : List Value} (hd : decode c.code pc = .ok (.getstatic index, 3))
    (H : ∀ (T' : State), Stand p l e R s m args below meth c T' locs cells slots → T'.heap = h → own_Fin p e below s Q kc kn (T'.setTop (mkF m (pc + 3) Ls (v :: rest)))) :
    own_Fin p e below s Q kc kn (T.setTop (mkF m pc Ls rest)) := by
  obtain ⟨T', X', e', st⟩ := getS2 X hx hZ hown w via eT F (g := mkF m pc Ls rest) rfl hd
  exact own_go st (H _ X' e')
theorem own_putF (X : Stand p l e R s m args below meth c T locs cells slots) (hx : p.tables.exec = Jvm.exec) (hZ : Z.Warmed39 s.vm) {own R0 O n d host C : String} {index kk : Nat} {ty : FieldType} (hown : s.vm.findClass own = some m.cls) (w : (Jvm.Cond.fieldLink own index R0 n d).before a0 Z = true ∨ (Jvm.Cond.fieldLinkNest own index R0 n d host).before a0 Z = true) (via : Via Z R0 O n d)
    (eT : T.heap = h) {a : Addr} {v old : Value} (F : Fld Z h a O n d old) (E : Exa Z h a C) (L : (Jvm.Cond.lays C O n d).before a0 Z = true ∨ ((Jvm.Cond.laysFinal C O n d).before a0 Z = true ∧ own = O ∧ meth.name = "<init>")) (wi : (Jvm.Cond.instantiable C kk).before a0 Z = true)
    (hty : parseFieldDescriptor d = some ty) (hn : narrow ty v = v) (hf : fits ty v = true) {pc : Nat} {Ls : Array Slot} {rest : List Value} (hd : decode c.code pc = .ok (.putfield index, 3))
    (H : ∀ (T' : State) (h' : Heap), Stand p l e R s m args below meth c T' (locs ++ [⟨a, Jvm.RoadKit.slotOf Z O n d⟩]) cells slots → T'.heap = h' → Wr h h' a (Jvm.RoadKit.slotOf Z O n d) v → own_Fin p e below s Q kc kn (T'.setTop (mkF m (pc + 3) Ls rest))) :
    own_Fin p e below s Q kc kn (T.setTop (mkF m pc Ls (v :: .ref a :: rest))) := by
  obtain ⟨T', h', X', e', W', st⟩ := putF X hx hZ hown w via eT F E L wi hty hn hf (g := mkF m pc Ls (v :: .ref a :: rest)) rfl rfl hd
  exact own_go st (H _ _ X' e' W')
theorem own_new (X : Stand p l e R s m args below meth c T locs cells slots) (hx : p.tables.exec = Jvm.exec) (hZ : Z.Warmed39 s.vm) {own C : String} {index n : Nat} (hown : s.vm.findClass own = some m.cls) (w : (Jvm.Cond.classLink own index C).before a0 Z = true) (wi : (Jvm.Cond.instantiable C n).before a0 Z = true) (wz : (Jvm.Cond.initialized C).before a0 Z = true) (eT : T.heap = h)
    {pc : Nat} {Ls : Array Slot} {rest : List Value} (hd : decode c.code pc = .ok (.new index, 3)) (hc : cells + 1 ≤ R.cells) (hl : slots + n ≤ R.slots)
    (H : ∀ (T' : State) (h' : Heap) (a : Addr), a = h.size → Stand p l e R s m args below meth c T' locs (cells + 1) (slots + n) → T'.heap = h' → Ext h h' → Exa Z h' a C → (∀ {O nm d : String} {ty : FieldType}, Laid Z a0 C O nm d → parseFieldDescriptor d = some ty → Fld Z h' a O nm d (defaultValue ty)) → own_Fin p e below s Q kc kn (T'.setTop (mkF m (pc + 3) Ls (.ref a :: rest)))) :
    own_Fin p e below s Q kc kn (T.setTop (mkF m pc Ls rest)) := by
  obtain ⟨T', h', X', e', E', A', D', -, st⟩ := newO X hx hZ hown w wi wz eT (g := mkF m pc Ls rest) rfl hd hc hl
  exact own_go st (H _ _ _ rfl X' e' E' A' D')
theorem own_callU (X : Stand p l e R s m args below meth c T locs cells slots) (hx : p.tables.exec = Jvm.exec) (hZ : Z.Warmed39 s.vm) {own C owner : String} {index : Nat} {y z : MethodName} {bytes : ByteArray} {maxL : Nat} {ret : Option FieldType} {rm : Room} {as' : Array Value} {Q' : Option Value → Heap → List Loc → Prop}
    (hown : s.vm.findClass own = some m.cls) (w1 : (Jvm.Cond.methodLink own index y).before a0 Z = true) (w2 : (Jvm.Cond.sameMethod y.cls owner y.name y.desc).before a0 Z = true) (w2' : (Jvm.Cond.declares ⟨owner, y.name, y.desc⟩).before a0 Z = true) (hy : owner ≠ "java/lang/invoke/MethodHandle" ∧ owner ≠ "java/lang/invoke/VarHandle") (w3 : (Jvm.Cond.selects C y z).before a0 Z = true) (w4 : (Jvm.Cond.instanceMethod z).before a0 Z = true) (w5 : (Jvm.Cond.code z bytes maxL ret).before a0 Z = true) (w6 : (Jvm.Cond.initialized z.cls).before a0 Z = true)
    (hM : own_Met l z bytes maxL ret rm Z [] as' h Q') (eT : T.heap = h) {a : Addr} (E : Exa Z h a C) {pc : Nat} {Ls : Array Slot} {st argsL rest : List Value} (hst : st = argsL.reverse ++ .ref a :: rest) (has : (.ref a :: argsL).toArray = as') (hsize : Ls.size = c.maxLocals) (hlen : ∀ sig, parseMethodDescriptor y.desc = some sig → argsL.length = sig.parameters.length)
    (hd : decode c.code pc = .ok (.invokevirtual index, 3)) {W : Nat} (hW : (rest.map fun v => v.category).sum ≤ W) (hf : rm.frames + 1 ≤ R.frames) (hl : W + (maxL + 11) + rm.locals ≤ R.locals) (hc : cells + rm.cells ≤ R.cells) (hs : slots + rm.slots ≤ R.slots)
    (H : ∀ (v : Option Value) (T' : State) (L : List Loc), Stand p l e R s m args below meth c T' (locs ++ L) (cells + rm.cells) (slots + rm.slots) → Q' v T'.heap L → own_Fin p e below s Q kc kn (T'.setTop (mkF m (pc + 3) Ls (v.toList ++ rest)))) :
    own_Fin p e below s Q kc kn (T.setTop (mkF m pc Ls st)) := by
  subst hst
  obtain ⟨cB, kB, q1, q2, q3⟩ := isOf (T := T) hZ eT E
  obtain ⟨v, _, ⟨T', L', k', n'⟩, -, X', ⟨Lc, hQ, l1, y1, z1⟩, st⟩ := X.virtualBackUp hx (x := y) (y := z) hown (mvT hZ w1) (mvT hZ w2) (mvT hZ w2') hy (mvT hZ w3) (mvT hZ w4) (backOf (W := W) hM hZ w5 w6 hf hl) q1 q3 (g := mkF m pc Ls (argsL.reverse ++ .ref a :: rest)) rfl hsize (Steps.refl _) hlen rfl (by show 2 * 0 + _ ≤ _; omega) hd (fun _ _ => ⟨has, eT, hc, hs⟩)
  dsimp only [Pt.U, Pt.locs, Pt.cells, Pt.slots] at X' l1 y1 z1 st hQ
  subst l1 y1 z1
  exact own_go (fun _ k => st.trans k) (H _ _ _ X' hQ)
theorem own_lswHit (X : Stand p l e R s m args below meth c T locs cells slots) (hx : p.tables.exec = Jvm.exec) {pc pc' : Nat} {Ls : Array Slot} {k : Int32} {rest : List Value} {default : Int} {pairs : Array (Int × Int)} {len : Nat} (hd : decode c.code pc = .ok (.lookupswitch default pairs, len))
    (hsorted : (pairs.toList.zip (pairs.toList.drop 1)).all (fun (a, next) => a.1 < next.1) = true) {a off : Int} (hfind : pairs.find? (·.1 == k.toInt) = some (a, off)) (hoff : 0 ≤ (pc : Int) + off) (hp : ((pc : Int) + off).toNat = pc')
    (H : own_Fin p e below s Q kc kn (T.setTop (mkF m pc' Ls rest))) : own_Fin p e below s Q kc kn (T.setTop (mkF m pc Ls (.int k :: rest))) := by
  subst hp
  exact own_go (fun t q => X.lookupswitchHit hx (g := mkF m pc Ls (.int k :: rest)) rfl rfl hd hsorted hfind hoff t q) H
theorem own_lswMiss (X : Stand p l e R s m args below meth c T locs cells slots) (hx : p.tables.exec = Jvm.exec) {pc pc' : Nat} {Ls : Array Slot} {k : Int32} {rest : List Value} {default : Int} {pairs : Array (Int × Int)} {len : Nat} (hd : decode c.code pc = .ok (.lookupswitch default pairs, len))
    (hsorted : (pairs.toList.zip (pairs.toList.drop 1)).all (fun (a, next) => a.1 < next.1) = true) (hfind : ∀ q ∈ pairs.toList, q.1 ≠ k.toInt) (hoff : 0 ≤ (pc : Int) + default) (hp : ((pc : Int) + default).toNat = pc')
    (H : own_Fin p e below s Q kc kn (T.setTop (mkF m pc' Ls rest))) : own_Fin p e below s Q kc kn (T.setTop (mkF m pc Ls (.int k :: rest))) := by
  subst hp
  exact own_go (fun t q => X.lookupswitchMiss hx (g := mkF m pc Ls (.int k :: rest)) rfl rfl hd hsorted (find_miss hfind) hoff t q) H
theorem own_castY (X : Stand p l e R s m args below meth c T locs cells slots) (hx : p.tables.exec = Jvm.exec) (hZ : Z.Warmed39 s.vm) {own K : String} {index : Nat} (hown : s.vm.findClass own = some m.cls) (w : (Jvm.Cond.classLink own index K).before a0 Z = true) (eT : T.heap = h) {a : Addr} (F : Ins Z h a K true)
    {pc : Nat} {Ls : Array Slot} {rest : List Value} (hd : decode c.code pc = .ok (.checkcast index, 3))
    (H : ∀ (T' : State), Stand p l e R s m args below meth c T' locs cells slots → T'.heap = h → own_Fin p e below s Q kc kn (T'.setTop (mkF m (pc + 3) Ls (.ref a :: rest)))) :
    own_Fin p e below s Q kc kn (T.setTop (mkF m pc Ls (.ref a :: rest))) := by
  obtain ⟨T', X', e', st⟩ := castY X hx hZ hown w eT F (g := mkF m pc Ls (.ref a :: rest)) rfl rfl hd
  exact own_go st (H _ X' e')
theorem own_Sta_keep0 {C n d : String} {v : Value} {h h' : Heap} (F : Sta Z h C n d v) (K : Keep h h' []) : Sta Z h' C n d v := by
  obtain ⟨cf, i, k, f, st, cell, h1, h2, h3, h4, h5, r⟩ := F
  exact ⟨cf, i, k, f, st, cell, h1, h2, h3, h4, K.2.1 _ _ h5 nin0, r⟩
theorem own_Arr_keep0 {a : Addr} {cl : Cell} {ty : FieldType} {h h' : Heap} (F : Arr Z h a cl ty) (K : Keep h h' []) : Arr Z h' a cl ty := ⟨K.2.1 _ _ F.1 nin0, F.2⟩
theorem own_neI {k z : Int32} {n : Int} (hz : z.toInt = n) (q : ¬ k = z) : n ≠ k.toInt := fun e => q (Int32.toInt_inj.mp (by rw [hz]; exact e.symm))
theorem own_fldI {args : Array Value} {t : Term} {O nm dd : String} {v : Int32} {a : Addr} (q : (Jvm.Cond.eq (.field t O nm dd) (.int v)).value args Z none Z [] = some true) (ev : t.eval args Z none [] Z = some (.ref a)) : Fld Z Z.heap a O nm dd (.int v) := by
  refine Fld.start ?_
  have e1 := fld_at (C := O) (n := nm) (dd := dd) ev
  simp only [Cond.value, e1] at q
  cases hf : Z.fieldOf? a O nm dd with
  | none => simp [hf] at q
  | some x => cases x <;> simp [hf, Term.eval] at q ⊢; exact q
theorem own_fldR {args : Array Value} {t u : Term} {O nm dd : String} {a b : Addr} (q : (Jvm.Cond.eq (.field t O nm dd) u).value args Z none Z [] = some true) (ev : t.eval args Z none [] Z = some (.ref a)) (eu : u.eval args Z none [] Z = some (.ref b)) : Fld Z Z.heap a O nm dd (.ref b) := by
  refine Fld.start ?_
  have e1 := fld_at (C := O) (n := nm) (dd := dd) ev
  simp only [Cond.value, e1, eu] at q
  cases hf : Z.fieldOf? a O nm dd with
  | none => simp [hf] at q
  | some x => cases x <;> simp [hf] at q ⊢; exact q
end Own

section OwnArr
variable {p : Program} {l : Launch} {e : Env} {R : Room} {s : State} {m : MethodId} {args : Array Value} {below : List Frame} {meth : Method} {c : Code} {T : State} {locs : List Loc} {cells slots : Nat} {Z : State} {a0 : Array Value} {h h' : Heap} {Q : Option Value → Heap → List Loc → Prop} {kc kn : Nat} {a b : Addr} {ty : FieldType} {vs : List Value} {v w : Value} {ws : List Addr} {sl : Nat}
/-- the array at a holds just vs -/
def own_Ar (Z : State) (h : Heap) (a : Addr) (ty : FieldType) (vs : List Value) : Prop := ∃ c : Cell, Arr Z h a c ty ∧ c.slots = vs.toArray ∧ vs.length < 2 ^ 31
theorem own_Ar.lt (F : own_Ar Z h a ty vs) : a < h.size := by obtain ⟨c, A, -⟩ := F; exact A.lt
theorem own_Ar.ext (F : own_Ar Z h a ty vs) (E : Ext h h') : own_Ar Z h' a ty vs := by obtain ⟨c, A, r⟩ := F; exact ⟨c, A.ext E, r⟩
theorem own_Ar.other (F : own_Ar Z h b ty vs) (W : Wr h h' a sl v) (q : b ≠ a) : own_Ar Z h' b ty vs := by obtain ⟨c, A, r⟩ := F; exact ⟨c, A.other W q, r⟩
theorem own_Ar.keep (F : own_Ar Z h a ty vs) (K : Keep h h' ws) (q : a ∉ ws) : own_Ar Z h' a ty vs := by obtain ⟨c, A, r⟩ := F; exact ⟨c, ⟨K.2.1 a c A.1 q, A.2⟩, r⟩
theorem own_Ar.set (F : own_Ar Z h a ty vs) (W : Wr h h' a sl v) : own_Ar Z h' a ty (vs.set sl v) := by
  obtain ⟨c, A, q1, q2⟩ := F
  refine ⟨_, A.same W, ?_, by rw [List.length_set]; exact q2⟩
  show c.slots.setIfInBounds sl v = _
  rw [q1]; simp
theorem own_Ar.len (F : own_Ar Z h a ty vs) : vs.length < 2 ^ 31 := by obtain ⟨_, _, _, q⟩ := F; exact q
theorem own_in {c : Cell} (q : c.slots = vs.toArray) {j : Int32} (hj : ¬ j < 0) (hi : j.toNatClampNeg < vs.length) : ¬ (j < 0 ∨ c.slots.size ≤ j.toNatClampNeg) := by
  rw [q]; simp only [List.size_toArray]; exact fun w => w.elim hj fun w => absurd hi (Nat.not_lt.mpr w)
theorem own_lt {vs : List Value} {i : Nat} (hv : vs[i]? = some v) : i < vs.length := (List.getElem?_eq_some_iff.mp hv).1
theorem own_iaload (X : Stand p l e R s m args below meth c T locs cells slots) (hx : p.tables.exec = Jvm.exec) (hZ : Z.Warmed39 s.vm) (eT : T.heap = h) (F : own_Ar Z h a .int vs) {j : Int32} (hj : ¬ j < 0) (hv : vs[j.toNatClampNeg]? = some v) {pc : Nat} {Ls : Array Slot} {rest : List Value} (hd : decode c.code pc = .ok (.iaload, 1))
    (H : own_Fin p e below s Q kc kn (T.setTop (mkF m (pc + 1) Ls (v :: rest)))) : own_Fin p e below s Q kc kn (T.setTop (mkF m pc Ls (.int j :: .ref a :: rest))) := by
  obtain ⟨c', A, q1, q2⟩ := F
  exact own_go (fun t k => X.iaload hx (j := j) (v := v) (by rw [eT]; exact A.1) (State.isArrayOf_alike hZ.alike A.2.1) A.2.2 (own_in q1 hj (own_lt hv)) (by rw [q1]; simpa using hv) (g := mkF m pc Ls (.int j :: .ref a :: rest)) rfl rfl hd t k) H
theorem own_laload (X : Stand p l e R s m args below meth c T locs cells slots) (hx : p.tables.exec = Jvm.exec) (hZ : Z.Warmed39 s.vm) (eT : T.heap = h) (F : own_Ar Z h a .long vs) {j : Int32} (hj : ¬ j < 0) (hv : vs[j.toNatClampNeg]? = some v) {pc : Nat} {Ls : Array Slot} {rest : List Value} (hd : decode c.code pc = .ok (.laload, 1))
    (H : own_Fin p e below s Q kc kn (T.setTop (mkF m (pc + 1) Ls (v :: rest)))) : own_Fin p e below s Q kc kn (T.setTop (mkF m pc Ls (.int j :: .ref a :: rest))) := by
  obtain ⟨c', A, q1, q2⟩ := F
  exact own_go (fun t k => X.laload hx (j := j) (v := v) (by rw [eT]; exact A.1) (State.isArrayOf_alike hZ.alike A.2.1) A.2.2 (own_in q1 hj (own_lt hv)) (by rw [q1]; simpa using hv) (g := mkF m pc Ls (.int j :: .ref a :: rest)) rfl rfl hd t k) H
theorem own_zaload (X : Stand p l e R s m args below meth c T locs cells slots) (hx : p.tables.exec = Jvm.exec) (hZ : Z.Warmed39 s.vm) (eT : T.heap = h) (F : own_Ar Z h a .boolean vs) {j : Int32} (hj : ¬ j < 0) (hv : vs[j.toNatClampNeg]? = some v) {pc : Nat} {Ls : Array Slot} {rest : List Value} (hd : decode c.code pc = .ok (.baload, 1))
    (H : own_Fin p e below s Q kc kn (T.setTop (mkF m (pc + 1) Ls (v :: rest)))) : own_Fin p e below s Q kc kn (T.setTop (mkF m pc Ls (.int j :: .ref a :: rest))) := by
  obtain ⟨c', A, q1, q2⟩ := F
  exact own_go (fun t k => X.baloadBooleans hx (j := j) (v := v) (by rw [eT]; exact A.1) (State.isArrayOf_alike hZ.alike A.2.1) A.2.2 (own_in q1 hj (own_lt hv)) (by rw [q1]; simpa using hv) (g := mkF m pc Ls (.int j :: .ref a :: rest)) rfl rfl hd t k) H
theorem own_aaload (X : Stand p l e R s m args below meth c T locs cells slots) (hx : p.tables.exec = Jvm.exec) (hZ : Z.Warmed39 s.vm) (eT : T.heap = h) (F : own_Ar Z h a ty vs) (hty : ty.isReference = true) {j : Int32} (hj : ¬ j < 0) (hv : vs[j.toNatClampNeg]? = some v) {pc : Nat} {Ls : Array Slot} {rest : List Value} (hd : decode c.code pc = .ok (.aaload, 1))
    (H : own_Fin p e below s Q kc kn (T.setTop (mkF m (pc + 1) Ls (v :: rest)))) : own_Fin p e below s Q kc kn (T.setTop (mkF m pc Ls (.int j :: .ref a :: rest))) := by
  obtain ⟨c', A, q1, q2⟩ := F
  exact own_go (fun t k => X.aaload hx (j := j) (v := v) (by rw [eT]; exact A.1) (State.isArrayOf_alike hZ.alike A.2.1) hty A.2.2 (own_in q1 hj (own_lt hv)) (by rw [q1]; simpa using hv) (g := mkF m pc Ls (.int j :: .ref a :: rest)) rfl rfl hd t k) H
theorem own_alen (X : Stand p l e R s m args below meth c T locs cells slots) (hx : p.tables.exec = Jvm.exec) (hZ : Z.Warmed39 s.vm) (eT : T.heap = h) (F : own_Ar Z h a ty vs) {pc : Nat} {Ls : Array Slot} {rest : List Value} (hd : decode c.code pc = .ok (.arraylength, 1))
    (H : own_Fin p e below s Q kc kn (T.setTop (mkF m (pc + 1) Ls (.int (Int32.ofNat vs.length) :: rest)))) : own_Fin p e below s Q kc kn (T.setTop (mkF m pc Ls (.ref a :: rest))) := by
  obtain ⟨c', A, q1, q2⟩ := F
  refine own_go (fun t k => X.arraylength hx (by rw [eT]; exact A.1) (State.isArrayOf_alike hZ.alike A.2.1) (g := mkF m pc Ls (.ref a :: rest)) rfl rfl hd t k) ?_
  rw [q1]; simp only [List.size_toArray]; exact H
theorem own_iastore (X : Stand p l e R s m args below meth c T locs cells slots) (hx : p.tables.exec = Jvm.exec) (hZ : Z.Warmed39 s.vm) (eT : T.heap = h) (F : own_Ar Z h a .int vs) {j x : Int32} (hj : ¬ j < 0) (hi : j.toNatClampNeg < vs.length) {pc : Nat} {Ls : Array Slot} {rest : List Value} (hd : decode c.code pc = .ok (.iastore, 1))
    (H : ∀ (T' : State) (h' : Heap), Stand p l e R s m args below meth c T' (locs ++ [⟨a, j.toNatClampNeg⟩]) cells slots → T'.heap = h' → Wr h h' a j.toNatClampNeg (.int x) → own_Ar Z h' a .int (vs.set j.toNatClampNeg (.int x)) → own_Fin p e below s Q kc kn (T'.setTop (mkF m (pc + 1) Ls rest))) :
    own_Fin p e below s Q kc kn (T.setTop (mkF m pc Ls (.int x :: .int j :: .ref a :: rest))) := by
  have F' := F
  obtain ⟨c', A, q1, q2⟩ := F
  obtain ⟨T', h', X', e', W', st⟩ := stI X hx hZ eT A (j := j) (x := x) (own_in q1 hj hi) (g := mkF m pc Ls (.int x :: .int j :: .ref a :: rest)) rfl rfl hd
  exact own_go st (H _ _ X' e' W' (F'.set W'))
theorem own_lastore (X : Stand p l e R s m args below meth c T locs cells slots) (hx : p.tables.exec = Jvm.exec) (hZ : Z.Warmed39 s.vm) (eT : T.heap = h) (F : own_Ar Z h a .long vs) {j : Int32} {x : Int64} (hj : ¬ j < 0) (hi : j.toNatClampNeg < vs.length) {pc : Nat} {Ls : Array Slot} {rest : List Value} (hd : decode c.code pc = .ok (.lastore, 1))
    (H : ∀ (T' : State) (h' : Heap), Stand p l e R s m args below meth c T' (locs ++ [⟨a, j.toNatClampNeg⟩]) cells slots → T'.heap = h' → Wr h h' a j.toNatClampNeg (.long x) → own_Ar Z h' a .long (vs.set j.toNatClampNeg (.long x)) → own_Fin p e below s Q kc kn (T'.setTop (mkF m (pc + 1) Ls rest))) :
    own_Fin p e below s Q kc kn (T.setTop (mkF m pc Ls (.long x :: .int j :: .ref a :: rest))) := by
  have F' := F
  obtain ⟨c', A, q1, q2⟩ := F
  obtain ⟨T', h', X', e', W', st⟩ := stJ X hx hZ eT A (j := j) (x := x) (own_in q1 hj hi) (g := mkF m pc Ls (.long x :: .int j :: .ref a :: rest)) rfl rfl hd
  exact own_go st (H _ _ X' e' W' (F'.set W'))
theorem own_zastore (X : Stand p l e R s m args below meth c T locs cells slots) (hx : p.tables.exec = Jvm.exec) (hZ : Z.Warmed39 s.vm) (eT : T.heap = h) (F : own_Ar Z h a .boolean vs) {j x : Int32} (hj : ¬ j < 0) (hi : j.toNatClampNeg < vs.length) {pc : Nat} {Ls : Array Slot} {rest : List Value} (hd : decode c.code pc = .ok (.bastore, 1)) (hn : nar .boolean x = x)
    (H : ∀ (T' : State) (h' : Heap), Stand p l e R s m args below meth c T' (locs ++ [⟨a, j.toNatClampNeg⟩]) cells slots → T'.heap = h' → Wr h h' a j.toNatClampNeg (.int x) → own_Ar Z h' a .boolean (vs.set j.toNatClampNeg (.int x)) → own_Fin p e below s Q kc kn (T'.setTop (mkF m (pc + 1) Ls rest))) :
    own_Fin p e below s Q kc kn (T.setTop (mkF m pc Ls (.int x :: .int j :: .ref a :: rest))) := by
  have F' := F
  obtain ⟨c', A, q1, q2⟩ := F
  obtain ⟨T', h', X', e', W', st⟩ := stZ X hx hZ eT A (j := j) (x := x) (own_in q1 hj hi) (g := mkF m pc Ls (.int x :: .int j :: .ref a :: rest)) rfl rfl hd
  rw [hn] at W'
  exact own_go st (H _ _ X' e' W' (F'.set W'))
theorem own_newarr (X : Stand p l e R s m args below meth c T locs cells slots) (hx : p.tables.exec = Jvm.exec) (hZ : Z.Warmed39 s.vm) {aty : ArrayType} (w : (Jvm.Cond.arrayClass (newarray.typeOf aty)).before a0 Z = true) (eT : T.heap = h) {pc : Nat} {Ls : Array Slot} {rest : List Value} (hd : decode c.code pc = .ok (.newarray aty, 2)) {n : Int32}
    (hn : ¬ n < 0) {cap : Nat} (hcap : n.toNatClampNeg ≤ cap) (hb : cap * 8 ≤ 536870912) (hc : cells + 1 ≤ R.cells) (hl : slots + cap ≤ R.slots) {ad : String} (had : "[" ++ (newarray.typeOf aty).toString = ad)
    (H : ∀ (T' : State) (h' : Heap) (a : Addr), a = h.size → Stand p l e R s m args below meth c T' locs (cells + 1) (slots + cap) → T'.heap = h' → Ext h h' → own_Ar Z h' a (newarray.typeOf aty) (List.replicate n.toNatClampNeg (defaultValue (newarray.typeOf aty))) → Exa Z h' a ad → own_Fin p e below s Q kc kn (T'.setTop (mkF m (pc + 2) Ls (.ref a :: rest)))) :
    own_Fin p e below s Q kc kn (T.setTop (mkF m pc Ls (.int n :: rest))) := by
  obtain ⟨T', h', cA, X', e', E', A', D', st⟩ := newPE X hx hZ w eT (g := mkF m pc Ls (.int n :: rest)) rfl hd rfl hn hcap hb hc hl had
  exact own_go st (H _ _ _ rfl X' e' E' ⟨_, A', by simp [newA], by simp only [List.length_replicate]; omega⟩ D')
theorem own_ldI (X : Stand p l e R s m args below meth c T locs cells slots) (hx : p.tables.exec = Jvm.exec) (hZ : Z.Warmed39 s.vm) (eT : T.heap = h) {xs : List Int32} (F : own_Ar Z h a .int (xs.map Value.int)) {j : Int32} (hj : ¬ j < 0) (hi : j.toNatClampNeg < xs.length) {pc : Nat} {Ls : Array Slot} {rest : List Value} (hd : decode c.code pc = .ok (.iaload, 1))
    (H : own_Fin p e below s Q kc kn (T.setTop (mkF m (pc + 1) Ls (Value.int (xs.getD j.toNatClampNeg 0) :: rest)))) : own_Fin p e below s Q kc kn (T.setTop (mkF m pc Ls (.int j :: .ref a :: rest))) :=
  own_iaload X hx hZ eT F hj (by simp [List.getD_eq_getElem?_getD, hi]) hd H
theorem own_ldZ (X : Stand p l e R s m args below meth c T locs cells slots) (hx : p.tables.exec = Jvm.exec) (hZ : Z.Warmed39 s.vm) (eT : T.heap = h) {xs : List Int32} (F : own_Ar Z h a .boolean (xs.map Value.int)) {j : Int32} (hj : ¬ j < 0) (hi : j.toNatClampNeg < xs.length) {pc : Nat} {Ls : Array Slot} {rest : List Value} (hd : decode c.code pc = .ok (.baload, 1))
    (H : own_Fin p e below s Q kc kn (T.setTop (mkF m (pc + 1) Ls (Value.int (xs.getD j.toNatClampNeg 0) :: rest)))) : own_Fin p e below s Q kc kn (T.setTop (mkF m pc Ls (.int j :: .ref a :: rest))) :=
  own_zaload X hx hZ eT F hj (by simp [List.getD_eq_getElem?_getD, hi]) hd H
theorem own_ldJ (X : Stand p l e R s m args below meth c T locs cells slots) (hx : p.tables.exec = Jvm.exec) (hZ : Z.Warmed39 s.vm) (eT : T.heap = h) {xs : List Int64} (F : own_Ar Z h a .long (xs.map Value.long)) {j : Int32} (hj : ¬ j < 0) (hi : j.toNatClampNeg < xs.length) {pc : Nat} {Ls : Array Slot} {rest : List Value} (hd : decode c.code pc = .ok (.laload, 1))
    (H : own_Fin p e below s Q kc kn (T.setTop (mkF m (pc + 1) Ls (Value.long (xs.getD j.toNatClampNeg 0) :: rest)))) : own_Fin p e below s Q kc kn (T.setTop (mkF m pc Ls (.int j :: .ref a :: rest))) :=
  own_laload X hx hZ eT F hj (by simp [List.getD_eq_getElem?_getD, hi]) hd H
theorem own_stI (X : Stand p l e R s m args below meth c T locs cells slots) (hx : p.tables.exec = Jvm.exec) (hZ : Z.Warmed39 s.vm) (eT : T.heap = h) {xs : List Int32} (F : own_Ar Z h a .int (xs.map Value.int)) {j : Int32} {x : Int32} (hj : ¬ j < 0) (hi : j.toNatClampNeg < xs.length) {pc : Nat} {Ls : Array Slot} {rest : List Value} (hd : decode c.code pc = .ok (.iastore, 1))
    (H : ∀ (T' : State) (h' : Heap), Stand p l e R s m args below meth c T' (locs ++ [⟨a, j.toNatClampNeg⟩]) cells slots → T'.heap = h' → Wr h h' a j.toNatClampNeg (Value.int x) → own_Ar Z h' a .int ((xs.set j.toNatClampNeg x).map Value.int) → own_Fin p e below s Q kc kn (T'.setTop (mkF m (pc + 1) Ls rest))) :
    own_Fin p e below s Q kc kn (T.setTop (mkF m pc Ls (Value.int x :: .int j :: .ref a :: rest))) :=
  own_iastore X hx hZ eT F hj (by simpa using hi) hd fun T' h' X' e' W' F' => H T' h' X' e' W' (by rw [List.map_set]; exact F')
theorem own_stZ (X : Stand p l e R s m args below meth c T locs cells slots) (hx : p.tables.exec = Jvm.exec) (hZ : Z.Warmed39 s.vm) (eT : T.heap = h) {xs : List Int32} (F : own_Ar Z h a .boolean (xs.map Value.int)) {j : Int32} {x : Int32} (hj : ¬ j < 0) (hi : j.toNatClampNeg < xs.length) {pc : Nat} {Ls : Array Slot} {rest : List Value} (hd : decode c.code pc = .ok (.bastore, 1)) (hn : nar .boolean x = x)
    (H : ∀ (T' : State) (h' : Heap), Stand p l e R s m args below meth c T' (locs ++ [⟨a, j.toNatClampNeg⟩]) cells slots → T'.heap = h' → Wr h h' a j.toNatClampNeg (Value.int x) → own_Ar Z h' a .boolean ((xs.set j.toNatClampNeg x).map Value.int) → own_Fin p e below s Q kc kn (T'.setTop (mkF m (pc + 1) Ls rest))) :
    own_Fin p e below s Q kc kn (T.setTop (mkF m pc Ls (Value.int x :: .int j :: .ref a :: rest))) :=
  own_zastore X hx hZ eT F hj (by simpa using hi) hd hn fun T' h' X' e' W' F' => H T' h' X' e' W' (by rw [List.map_set]; exact F')
theorem own_stJ (X : Stand p l e R s m args below meth c T locs cells slots) (hx : p.tables.exec = Jvm.exec) (hZ : Z.Warmed39 s.vm) (eT : T.heap = h) {xs : List Int64} (F : own_Ar Z h a .long (xs.map Value.long)) {j : Int32} {x : Int64} (hj : ¬ j < 0) (hi : j.toNatClampNeg < xs.length) {pc : Nat} {Ls : Array Slot} {rest : List Value} (hd : decode c.code pc = .ok (.lastore, 1))
    (H : ∀ (T' : State) (h' : Heap), Stand p l e R s m args below meth c T' (locs ++ [⟨a, j.toNatClampNeg⟩]) cells slots → T'.heap = h' → Wr h h' a j.toNatClampNeg (Value.long x) → own_Ar Z h' a .long ((xs.set j.toNatClampNeg x).map Value.long) → own_Fin p e below s Q kc kn (T'.setTop (mkF m (pc + 1) Ls rest))) :
    own_Fin p e below s Q kc kn (T.setTop (mkF m pc Ls (Value.long x :: .int j :: .ref a :: rest))) :=
  own_lastore X hx hZ eT F hj (by simpa using hi) hd fun T' h' X' e' W' F' => H T' h' X' e' W' (by rw [List.map_set]; exact F')
theorem own_newI (X : Stand p l e R s m args below meth c T locs cells slots) (hx : p.tables.exec = Jvm.exec) (hZ : Z.Warmed39 s.vm) (w : (Jvm.Cond.arrayClass .int).before a0 Z = true) (eT : T.heap = h) {pc : Nat} {Ls : Array Slot} {rest : List Value} (hd : decode c.code pc = .ok (.newarray .int, 2)) {n : Int32}
    (hn : ¬ n < 0) {cap : Nat} (hcap : n.toNatClampNeg ≤ cap) (hb : cap * 8 ≤ 536870912) (hc : cells + 1 ≤ R.cells) (hl : slots + cap ≤ R.slots)
    (H : ∀ (T' : State) (h' : Heap) (a : Addr), a = h.size → Stand p l e R s m args below meth c T' locs (cells + 1) (slots + cap) → T'.heap = h' → Ext h h' → own_Ar Z h' a .int ((List.replicate n.toNatClampNeg (0 : Int32)).map Value.int) → Exa Z h' a "[I" → own_Fin p e below s Q kc kn (T'.setTop (mkF m (pc + 2) Ls (.ref a :: rest)))) :
    own_Fin p e below s Q kc kn (T.setTop (mkF m pc Ls (.int n :: rest))) :=
  own_newarr X hx hZ (aty := .int) w eT hd hn hcap hb hc hl rfl fun T' h' a g' X' e' E' F' D' => H T' h' a g' X' e' E' (by rw [List.map_replicate]; exact F') D'
theorem own_newZ (X : Stand p l e R s m args below meth c T locs cells slots) (hx : p.tables.exec = Jvm.exec) (hZ : Z.Warmed39 s.vm) (w : (Jvm.Cond.arrayClass .boolean).before a0 Z = true) (eT : T.heap = h) {pc : Nat} {Ls : Array Slot} {rest : List Value} (hd : decode c.code pc = .ok (.newarray .boolean, 2)) {n : Int32}
    (hn : ¬ n < 0) {cap : Nat} (hcap : n.toNatClampNeg ≤ cap) (hb : cap * 8 ≤ 536870912) (hc : cells + 1 ≤ R.cells) (hl : slots + cap ≤ R.slots)
    (H : ∀ (T' : State) (h' : Heap) (a : Addr), a = h.size → Stand p l e R s m args below meth c T' locs (cells + 1) (slots + cap) → T'.heap = h' → Ext h h' → own_Ar Z h' a .boolean ((List.replicate n.toNatClampNeg (0 : Int32)).map Value.int) → Exa Z h' a "[Z" → own_Fin p e below s Q kc kn (T'.setTop (mkF m (pc + 2) Ls (.ref a :: rest)))) :
    own_Fin p e below s Q kc kn (T.setTop (mkF m pc Ls (.int n :: rest))) :=
  own_newarr X hx hZ (aty := .boolean) w eT hd hn hcap hb hc hl rfl fun T' h' a g' X' e' E' F' D' => H T' h' a g' X' e' E' (by rw [List.map_replicate]; exact F') D'
theorem own_newJ (X : Stand p l e R s m args below meth c T locs cells slots) (hx : p.tables.exec = Jvm.exec) (hZ : Z.Warmed39 s.vm) (w : (Jvm.Cond.arrayClass .long).before a0 Z = true) (eT : T.heap = h) {pc : Nat} {Ls : Array Slot} {rest : List Value} (hd : decode c.code pc = .ok (.newarray .long, 2)) {n : Int32}
    (hn : ¬ n < 0) {cap : Nat} (hcap : n.toNatClampNeg ≤ cap) (hb : cap * 8 ≤ 536870912) (hc : cells + 1 ≤ R.cells) (hl : slots + cap ≤ R.slots)
    (H : ∀ (T' : State) (h' : Heap) (a : Addr), a = h.size → Stand p l e R s m args below meth c T' locs (cells + 1) (slots + cap) → T'.heap = h' → Ext h h' → own_Ar Z h' a .long ((List.replicate n.toNatClampNeg (0 : Int64)).map Value.long) → Exa Z h' a "[J" → own_Fin p e below s Q kc kn (T'.setTop (mkF m (pc + 2) Ls (.ref a :: rest)))) :
    own_Fin p e below s Q kc kn (T.setTop (mkF m pc Ls (.int n :: rest))) :=
  own_newarr X hx hZ (aty := .long) w eT hd hn hcap hb hc hl rfl fun T' h' a g' X' e' E' F' D' => H T' h' a g' X' e' E' (by rw [List.map_replicate]; exact F') D'
end OwnArr
section OwnArr2
variable {p : Program} {l : Launch} {e : Env} {R : Room} {s : State} {m : MethodId} {args : Array Value} {below : List Frame} {meth : Method} {c : Code} {T : State} {locs : List Loc} {cells slots : Nat} {Z : State} {a0 : Array Value} {h h' : Heap} {Q : Option Value → Heap → List Loc → Prop} {kc kn : Nat} {a b : Addr} {ty : FieldType} {vs : List Value} {v w : Value} {ws : List Addr} {sl : Nat}
theorem own_cloneI (X : Stand p l e R s m args below meth c T locs cells slots) (hx : p.tables.exec = Jvm.exec) (hZ : Z.Warmed39 s.vm) {own : String} {index : Nat} (hown : s.vm.findClass own = some m.cls)
    (w1 : (Jvm.Cond.methodLink own index ⟨"[I", "clone", "()Ljava/lang/Object;"⟩).before a0 Z = true) (w2 : (Jvm.Cond.sameMethod "[I" "java/lang/Object" "clone" "()Ljava/lang/Object;").before a0 Z = true) (w3 : (Jvm.Cond.native ⟨"java/lang/Object", "clone", "()Ljava/lang/Object;"⟩).before a0 Z = true)
    (w4 : (Jvm.Cond.instanceMethod ⟨"java/lang/Object", "clone", "()Ljava/lang/Object;"⟩).before a0 Z = true) (w5 : (Jvm.Cond.selects "[I" ⟨"[I", "clone", "()Ljava/lang/Object;"⟩ ⟨"java/lang/Object", "clone", "()Ljava/lang/Object;"⟩).before a0 Z = true) (w6 : (Jvm.Cond.castable "[I" "java/lang/Cloneable").before a0 Z = true)
    (eT : T.heap = h) {xs : List Int32} (F : own_Ar Z h a .int (xs.map Value.int)) (E : Exa Z h a "[I") {pc : Nat} {Ls : Array Slot} (hsize : Ls.size = c.maxLocals) {rest : List Value} (hd : decode c.code pc = .ok (.invokevirtual index, 3))
    (hf : 1 ≤ R.frames) {W cap : Nat} (hW : (rest.map fun v => v.category).sum ≤ W) (hl : W + 14 ≤ R.locals) (hcap : xs.length ≤ cap) (hc : cells + 1 ≤ R.cells) (hsl : slots + cap ≤ R.slots)
    (H : ∀ (T' : State) (h' : Heap) (b : Addr), b = h.size → Stand p l e R s m args below meth c T' locs (cells + 1) (slots + cap) → T'.heap = h' → Ext h h' → own_Ar Z h' b .int (xs.map Value.int) → Exa Z h' b "[I" → own_Fin p e below s Q kc kn (T'.setTop (mkF m (pc + 3) Ls (.ref b :: rest)))) :
    own_Fin p e below s Q kc kn (T.setTop (mkF m pc Ls (.ref a :: rest))) := by
  obtain ⟨cl, A, q1, q2⟩ := F
  have FC : FitC Z cl := fitC_of A fun i hi v hv => by
    rw [q1] at hv
    simp only [List.getElem?_toArray, List.getElem?_map, Option.map_eq_some_iff] at hv
    obtain ⟨x, -, rfl⟩ := hv; rfl
  obtain ⟨T', h', X', e', ex, A', E', st⟩ := cloneA X hx hZ hown w1 w2 w3 w4 w5 w6 eT A E FC (g := mkF m pc Ls (.ref a :: rest)) rfl hsize rfl hd hf (W := W) (by show 2 * 0 + _ ≤ _; omega) hl (cap := cap) (by rw [q1]; simpa using hcap) hc hsl
  exact own_go st (H _ _ _ rfl X' e' ex ⟨_, A', q1, q2⟩ E')
theorem own_Ar.arvI {xs : List Int32} (F : own_Ar Z h a .int (xs.map Value.int)) : ∃ k, Arv Z h a k .int (Int32.ofNat xs.length) (xs.map Value.int) (.int 0) := by
  obtain ⟨cl, A, q1, q2⟩ := F
  have q2' : xs.length < 2 ^ 31 := by simpa using q2
  have e1 : (Int32.ofNat xs.length).toNatClampNeg = xs.length := Int32.toNatClampNeg_ofNat_of_lt q2'
  refine ⟨cl.cls, cl, A, rfl, by rw [q1, e1]; simp, ?_, fun i hi => ?_, fun i hi => ?_⟩
  · rw [Int32.lt_iff_toInt_lt, Int32.toInt_ofNat_of_lt q2']; show ¬ (xs.length : Int) < 0; omega
  · rw [q1] at hi ⊢
    have hi' : i < xs.length := by simpa using hi
    simp [List.getD_eq_getElem?_getD, hi']
  · rw [q1] at hi
    have hi' : i < xs.length := by simpa using hi
    simp [List.getD_eq_getElem?_getD, hi', fits]
theorem own_of_arvI {xs : List Int32} {k : ClassId} {n : Int32} {d : Value} (F : Arv Z h a k .int n (xs.map Value.int) d) (hn : n.toNatClampNeg = xs.length) : own_Ar Z h a .int (xs.map Value.int) := by
  obtain ⟨cl, A, -, S, q3, H, -⟩ := F
  have hl : n.toNatClampNeg < 2 ^ 31 := (back32 q3).2
  refine ⟨cl, A, ?_, by simpa [← hn] using hl⟩
  apply Array.ext_getElem?
  intro i
  by_cases hi : i < cl.slots.size
  · rw [H i hi]
    have hi' : i < xs.length := by rw [← hn, ← S]; exact hi
    simp [List.getD_eq_getElem?_getD, hi']
  · rw [Array.getElem?_eq_none (by omega)]
    symm
    rw [List.getElem?_toArray, List.getElem?_eq_none]
    rw [List.length_map, ← hn, ← S]; omega
theorem own_copyI (X : Stand p l e R s m args below meth c T locs cells slots) (hx : p.tables.exec = Jvm.exec) (hZ : Z.Warmed39 s.vm) {own : String} {index : Nat} (hown : s.vm.findClass own = some m.cls)
    (w1 : (Jvm.Cond.methodLink own index Jvm.Stand.acN).before a0 Z = true) (w2 : (Jvm.Cond.native Jvm.Stand.acN).before a0 Z = true) (w3 : (Jvm.Cond.static Jvm.Stand.acN).before a0 Z = true) (w4 : (Jvm.Cond.initialized "java/lang/System").before a0 Z = true) (eT : T.heap = h)
    {xs ys : List Int32} (F : own_Ar Z h a .int (xs.map Value.int)) (G : own_Ar Z h b .int (ys.map Value.int)) {nn : Int32} {n0 : Nat} (h3 : ¬ nn < 0) (h4 : nn.toNatClampNeg ≤ xs.length) (h5 : nn.toNatClampNeg ≤ ys.length) (N : Fr n0 locs) (ge : n0 ≤ b)
    {pc : Nat} {Ls : Array Slot} (hsize : Ls.size = c.maxLocals) {rest : List Value} (hd : decode c.code pc = .ok (.invokestatic index, 3))
    (hf : 1 ≤ R.frames) {W : Nat} (hW : (rest.map fun v => v.category).sum ≤ W) (hlo : W + (nativeFrameWords "java/lang/System" "arraycopy" 5 + 11) ≤ R.locals)
    (H : ∀ (T' : State) (h' : Heap) (L : List Loc), Stand p l e R s m args below meth c T' L cells slots → T'.heap = h' → Fr n0 L → Keep h h' [b] → own_Ar Z h' b .int ((xs.take nn.toNatClampNeg ++ ys.drop nn.toNatClampNeg).map Value.int) → own_Fin p e below s Q kc kn (T'.setTop (mkF m (pc + 3) Ls rest))) :
    own_Fin p e below s Q kc kn (T.setTop (mkF m pc Ls (.int nn :: .int (0 : Int32) :: .ref b :: .int (0 : Int32) :: .ref a :: rest))) := by
  have lx : xs.length < 2 ^ 31 := by simpa using F.len
  have ly : ys.length < 2 ^ 31 := by simpa using G.len
  have ex : (Int32.ofNat xs.length).toNatClampNeg = xs.length := Int32.toNatClampNeg_ofNat_of_lt lx
  have ey : (Int32.ofNat ys.length).toNatClampNeg = ys.length := Int32.toNatClampNeg_ofNat_of_lt ly
  have e0 : (0 : Int32).toNatClampNeg = 0 := by decide
  obtain ⟨k1, A⟩ := F.arvI
  obtain ⟨k2, B⟩ := G.arvI
  obtain ⟨T', h', L, X', e', N', K', V', st⟩ := cpA X hx hZ hown w1 w2 w3 w4 eT A B (sp := 0) (dp := 0) (nn := nn) (us := (xs.take nn.toNatClampNeg).map Value.int) (Or.inl ⟨rfl, rfl⟩) (by decide) (by decide) h3 (by rw [e0, ex]; omega) (by rw [e0, ey]; omega) (by
      rw [e0]
      apply List.ext_getElem?
      intro i
      by_cases hi : i < nn.toNatClampNeg
      · have hi' : i < xs.length := by omega
        simp [List.getElem?_take, hi, List.getD_eq_getElem?_getD, hi']
      · simp [List.getElem?_take, hi]) (by rw [e0]; simpa using h5) N ge (g := mkF m pc Ls (.int nn :: .int (0 : Int32) :: .ref b :: .int (0 : Int32) :: .ref a :: rest)) rfl hsize rfl hd hf (W := W) (by show 2 * 0 + _ ≤ _; omega) hlo
  refine own_go st (H _ _ _ X' e' N' K' ?_)
  refine own_of_arvI (n := Int32.ofNat ys.length) (k := k2) (d := .int 0) ?_ ?_
  · rw [e0] at V'
    simpa [List.map_append, List.map_take, List.map_drop] using V'
  · rw [ey]; simp; omega
end OwnArr2

section OwnObj
variable {p : Program} {l : Launch} {e : Env} {R : Room} {s : State} {m : MethodId} {args : Array Value} {below : List Frame} {meth : Method} {c : Code} {T : State} {locs : List Loc} {cells slots : Nat} {Z : State} {a0 : Array Value} {h h' : Heap} {Q : Option Value → Heap → List Loc → Prop} {kc kn : Nat} {a b : Addr} {v w : Value} {ws : List Addr} {sl : Nat}
theorem own_callP (X : Stand p l e R s m args below meth c T locs cells slots) (hx : p.tables.exec = Jvm.exec) (hZ : Z.Warmed39 s.vm) {own : String} {index : Nat} {y : MethodName} {bytes : ByteArray} {maxL : Nat} {ret : Option FieldType} {rm : Room} {as' : Array Value} {Q' : Option Value → Heap → List Loc → Prop}
    (hown : s.vm.findClass own = some m.cls) (w1 : (Jvm.Cond.methodLink own index y).before a0 Z = true) (w2 : (Jvm.Cond.instanceMethod y).before a0 Z = true) (w3 : (Jvm.Cond.selects y.cls y y).before a0 Z = true) (w4 : (Jvm.Cond.privateMethod y).before a0 Z = true) (w5 : (Jvm.Cond.code y bytes maxL ret).before a0 Z = true) (w6 : (Jvm.Cond.initialized y.cls).before a0 Z = true) (hy : y.cls ≠ "java/lang/invoke/MethodHandle" ∧ y.cls ≠ "java/lang/invoke/VarHandle")
    (hM : own_Met l y bytes maxL ret rm Z [] as' h Q') (eT : T.heap = h) {a : Addr} {C : String} (E : Exa Z h a C) {pc : Nat} {Ls : Array Slot} {st argsL rest : List Value} (hst : st = argsL.reverse ++ .ref a :: rest) (has : (.ref a :: argsL).toArray = as') (hsize : Ls.size = c.maxLocals) (hlen : ∀ sig, parseMethodDescriptor y.desc = some sig → argsL.length = sig.parameters.length)
    (hd : decode c.code pc = .ok (.invokevirtual index, 3)) {W : Nat} (hW : (rest.map fun v => v.category).sum ≤ W) (hf : rm.frames + 1 ≤ R.frames) (hl : W + (maxL + 11) + rm.locals ≤ R.locals) (hc : cells + rm.cells ≤ R.cells) (hs : slots + rm.slots ≤ R.slots)
    (H : ∀ (v : Option Value) (T' : State) (L : List Loc), Stand p l e R s m args below meth c T' (locs ++ L) (cells + rm.cells) (slots + rm.slots) → Q' v T'.heap L → own_Fin p e below s Q kc kn (T'.setTop (mkF m (pc + 3) Ls (v.toList ++ rest)))) :
    own_Fin p e below s Q kc kn (T.setTop (mkF m pc Ls st)) := by
  subst hst
  obtain ⟨cq, q1, q2⟩ := E.cell
  obtain ⟨v, _, ⟨T', L', k', n'⟩, -, X', ⟨Lc, hQ, l1, y1, z1⟩, st⟩ := X.privateBack hx (y := y) hown (mvT hZ w1) (mvT hZ w2) (mvT hZ w3) (Cond.privateMethod_at (mvP hZ w4 (args := #[]))) (mvT hZ w5) hy (backOf (W := W) hM hZ w5 w6 hf hl) (g := mkF m pc Ls (argsL.reverse ++ .ref a :: rest)) rfl hsize (Steps.refl _) (a := a) (by rw [eT]; exact q1) q2 hlen rfl (by show 2 * 0 + _ ≤ _; omega) hd (fun _ _ => ⟨has, eT, hc, hs⟩)
  dsimp only [Pt.U, Pt.locs, Pt.cells, Pt.slots] at X' l1 y1 z1 st hQ
  subst l1 y1 z1
  exact own_go (fun _ k => st.trans k) (H _ _ _ X' hQ)
theorem own_callI (X : Stand p l e R s m args below meth c T locs cells slots) (hx : p.tables.exec = Jvm.exec) (hZ : Z.Warmed39 s.vm) {own C : String} {index count : Nat} {y z : MethodName} {bytes : ByteArray} {maxL : Nat} {ret : Option FieldType} {rm : Room} {as' : Array Value} {Q' : Option Value → Heap → List Loc → Prop}
    (hown : s.vm.findClass own = some m.cls) (w1 : (Jvm.Cond.methodLink own index y).before a0 Z = true) (w2 : (Jvm.Cond.declares y).before a0 Z = true) (w2' : (Jvm.Cond.interfaceMethod y.cls y.cls y.name y.desc).before a0 Z = true) (hk2 : ((Jvm.Cond.interfaceMethod y.cls y.cls y.name y.desc).onTables && (Jvm.Cond.interfaceMethod y.cls y.cls y.name y.desc).keepsFace) = true) (w3 : (Jvm.Cond.selects C y z).before a0 Z = true) (w4 : (Jvm.Cond.instanceMethod z).before a0 Z = true) (w7 : (Jvm.Cond.publicMethod z).before a0 Z = true) (w8 : (Jvm.Cond.unhidden C y.name y.desc).before a0 Z = true) (w9 : (Jvm.Cond.castable C y.cls).before a0 Z = true) (w5 : (Jvm.Cond.code z bytes maxL ret).before a0 Z = true) (w6 : (Jvm.Cond.initialized z.cls).before a0 Z = true) (hy : y.cls ≠ "java/lang/invoke/MethodHandle" ∧ y.cls ≠ "java/lang/invoke/VarHandle")
    (hM : own_Met l z bytes maxL ret rm Z [] as' h Q') (eT : T.heap = h) {a : Addr} (E : Exa Z h a C) {pc : Nat} {Ls : Array Slot} {st argsL rest : List Value} (hst : st = argsL.reverse ++ .ref a :: rest) (has : (.ref a :: argsL).toArray = as') (hsize : Ls.size = c.maxLocals) (hlen : ∀ sig, parseMethodDescriptor y.desc = some sig → argsL.length = sig.parameters.length)
    (hd : decode c.code pc = .ok (.invokeinterface index count, 5)) {W : Nat} (hW : (rest.map fun v => v.category).sum ≤ W) (hf : rm.frames + 1 ≤ R.frames) (hl : W + (maxL + 11) + rm.locals ≤ R.locals) (hc : cells + rm.cells ≤ R.cells) (hs : slots + rm.slots ≤ R.slots)
    (H : ∀ (v : Option Value) (T' : State) (L : List Loc), Stand p l e R s m args below meth c T' (locs ++ L) (cells + rm.cells) (slots + rm.slots) → Q' v T'.heap L → own_Fin p e below s Q kc kn (T'.setTop (mkF m (pc + 5) Ls (v.toList ++ rest)))) :
    own_Fin p e below s Q kc kn (T.setTop (mkF m pc Ls st)) := by
  subst hst
  obtain ⟨cB, kB, q1, q2, q3⟩ := isOf (T := T) hZ eT E
  obtain ⟨v, _, ⟨T', L', k', n'⟩, -, X', ⟨Lc, hQ, l1, y1, z1⟩, st⟩ := X.interfaceBack hx (xi := y) (y := z) hown (mvT hZ w1) (mvT hZ w2) (mvT hZ w2' hk2) (mvT hZ w3) (mvT hZ w4) (mvT hZ w7) (mvT hZ w8) (mvT hZ w9) hy (backOf (W := W) hM hZ w5 w6 hf hl) q1 q2 q3 (g := mkF m pc Ls (argsL.reverse ++ .ref a :: rest)) rfl hsize (Steps.refl _) hlen rfl (by show 2 * 0 + _ ≤ _; omega) hd (fun _ _ => ⟨has, eT, hc, hs⟩)
  dsimp only [Pt.U, Pt.locs, Pt.cells, Pt.slots] at X' l1 y1 z1 st hQ
  subst l1 y1 z1
  exact own_go (fun _ k => st.trans k) (H _ _ _ X' hQ)
/-- an array of n places for objects of the class C -/
def own_OA (Z : State) (h : Heap) (a : Addr) (C : String) (n : Nat) : Prop := ∃ cl : Cell, Arr Z h a cl (.object C) ∧ cl.slots.size = n ∧ Ovr Z cl.cls C
theorem own_OA.lt {n : Nat} {C : String} (F : own_OA Z h a C n) : a < h.size := by obtain ⟨c, A, -⟩ := F; exact A.lt
theorem own_OA.ext {n : Nat} {C : String} (F : own_OA Z h a C n) (E : Ext h h') : own_OA Z h' a C n := by obtain ⟨c, A, r⟩ := F; exact ⟨c, A.ext E, r⟩
theorem own_OA.other {n : Nat} {C : String} (F : own_OA Z h b C n) (W : Wr h h' a sl v) (q : b ≠ a) : own_OA Z h' b C n := by obtain ⟨c, A, r⟩ := F; exact ⟨c, A.other W q, r⟩
theorem own_OA.keep {n : Nat} {C : String} (F : own_OA Z h a C n) (K : Keep h h' ws) (q : a ∉ ws) : own_OA Z h' a C n := by obtain ⟨c, A, r⟩ := F; exact ⟨c, ⟨K.2.1 a c A.1 q, A.2⟩, r⟩
theorem own_OA.set {n : Nat} {C : String} (F : own_OA Z h a C n) (W : Wr h h' a sl v) : own_OA Z h' a C n := by
  obtain ⟨c, A, q1, q2⟩ := F
  exact ⟨_, A.same W, by rw [sz_set]; exact q1, q2⟩
theorem own_aastoreO (X : Stand p l e R s m args below meth c T locs cells slots) (hx : p.tables.exec = Jvm.exec) (hZ : Z.Warmed39 s.vm) (eT : T.heap = h) {n : Nat} {C : String} (F : own_OA Z h a C n) {j : Int32} {y : Addr} (hj : ¬ j < 0) (hi : j.toNatClampNeg < n) (I : Ins Z h y C true) {pc : Nat} {Ls : Array Slot} {rest : List Value} (hd : decode c.code pc = .ok (.aastore, 1))
    (H : ∀ (T' : State) (h' : Heap), Stand p l e R s m args below meth c T' (locs ++ [⟨a, j.toNatClampNeg⟩]) cells slots → T'.heap = h' → Wr h h' a j.toNatClampNeg (.ref y) → own_OA Z h' a C n → own_Fin p e below s Q kc kn (T'.setTop (mkF m (pc + 1) Ls rest))) :
    own_Fin p e below s Q kc kn (T.setTop (mkF m pc Ls (.ref y :: .int j :: .ref a :: rest))) := by
  have F' := F
  obtain ⟨cl, A, q1, q2⟩ := F
  obtain ⟨T', h', X', e', W', st⟩ := stR X hx hZ eT A (j := j) (v := .ref y) (by rw [q1]; exact fun w => w.elim hj fun w => absurd hi (Nat.not_lt.mpr w)) rfl (Sto.of A q2 I) (g := mkF m pc Ls (.ref y :: .int j :: .ref a :: rest)) rfl rfl hd
  exact own_go st (H _ _ X' e' W' (F'.set W'))
theorem own_newO (X : Stand p l e R s m args below meth c T locs cells slots) (hx : p.tables.exec = Jvm.exec) (hZ : Z.Warmed39 s.vm) {own C : String} {index : Nat} (hown : s.vm.findClass own = some m.cls) (w1 : (Jvm.Cond.classLink own index C).before a0 Z = true) (w2 : (Jvm.Cond.arrayOver (.object C)).before a0 Z = true)
    (eT : T.heap = h) {pc : Nat} {Ls : Array Slot} {rest : List Value} (hd : decode c.code pc = .ok (.anewarray index, 3)) {n : Int32} (hn : ¬ n < 0) {cap : Nat} (hcap : n.toNatClampNeg ≤ cap) (hb : cap * 8 ≤ 536870912) (hc : cells + 1 ≤ R.cells) (hl : slots + cap ≤ R.slots) {ad : String} (had : "[" ++ (FieldType.object C).toString = ad)
    (H : ∀ (T' : State) (h' : Heap) (a : Addr), a = h.size → Stand p l e R s m args below meth c T' locs (cells + 1) (slots + cap) → T'.heap = h' → Ext h h' → own_OA Z h' a C n.toNatClampNeg → Exa Z h' a ad → own_Fin p e below s Q kc kn (T'.setTop (mkF m (pc + 3) Ls (.ref a :: rest)))) :
    own_Fin p e below s Q kc kn (T.setTop (mkF m pc Ls (.int n :: rest))) := by
  obtain ⟨T', h', cA, X', e', E', A', D', O', st⟩ := newRE X hx hZ hown w1 w2 eT (g := mkF m pc Ls (.int n :: rest)) rfl hd rfl hn hcap hb hc hl had
  exact own_go st (H _ _ _ rfl X' e' E' ⟨_, A', sz_new _ _ _, O'⟩ D')
end OwnObj

section OwnD
variable {p : Program} {l : Launch} {e : Env} {R : Room} {s : State} {m : MethodId} {args : Array Value} {below : List Frame} {meth : Method} {c : Code} {T : State} {locs : List Loc} {cells slots : Nat} {Z : State} {a0 : Array Value} {h h' : Heap} {Q : Option Value → Heap → List Loc → Prop} {kc kn : Nat} {a b : Addr} {v w : Value}
theorem own_ldD (X : Stand p l e R s m args below meth c T locs cells slots) (hx : p.tables.exec = Jvm.exec) (hZ : Z.Warmed39 s.vm) (eT : T.heap = h) {xs : List UInt64} (F : own_Ar Z h a .double (xs.map Value.double)) {j : Int32} (hj : ¬ j < 0) (hi : j.toNatClampNeg < xs.length) {pc : Nat} {Ls : Array Slot} {rest : List Value} (hd : decode c.code pc = .ok (.daload, 1))
    (H : own_Fin p e below s Q kc kn (T.setTop (mkF m (pc + 1) Ls (Value.double (xs.getD j.toNatClampNeg 0) :: rest)))) : own_Fin p e below s Q kc kn (T.setTop (mkF m pc Ls (.int j :: .ref a :: rest))) := by
  obtain ⟨c', A, q1, q2⟩ := F
  have hv : (xs.map Value.double)[j.toNatClampNeg]? = some (Value.double (xs.getD j.toNatClampNeg 0)) := by simp [List.getD_eq_getElem?_getD, hi]
  exact own_go (fun t k => X.daload hx (j := j) (by rw [eT]; exact A.1) (State.isArrayOf_alike hZ.alike A.2.1) A.2.2 (own_in q1 hj (own_lt hv)) (by rw [q1]; simpa using hv) (g := mkF m pc Ls (.int j :: .ref a :: rest)) rfl rfl hd t k) H
theorem own_stD (X : Stand p l e R s m args below meth c T locs cells slots) (hx : p.tables.exec = Jvm.exec) (hZ : Z.Warmed39 s.vm) (eT : T.heap = h) {xs : List UInt64} (F : own_Ar Z h a .double (xs.map Value.double)) {j : Int32} {x : UInt64} (hj : ¬ j < 0) (hi : j.toNatClampNeg < xs.length) {pc : Nat} {Ls : Array Slot} {rest : List Value} (hd : decode c.code pc = .ok (.dastore, 1))
    (H : ∀ (T' : State) (h' : Heap), Stand p l e R s m args below meth c T' (locs ++ [⟨a, j.toNatClampNeg⟩]) cells slots → T'.heap = h' → Wr h h' a j.toNatClampNeg (Value.double x) → own_Ar Z h' a .double ((xs.set j.toNatClampNeg x).map Value.double) → own_Fin p e below s Q kc kn (T'.setTop (mkF m (pc + 1) Ls rest))) :
    own_Fin p e below s Q kc kn (T.setTop (mkF m pc Ls (Value.double x :: .int j :: .ref a :: rest))) := by
  have F' := F
  obtain ⟨c', A, q1, q2⟩ := F
  have hin := own_in q1 hj (by simpa using hi)
  obtain ⟨X', st⟩ := Jvm.Stand.dastore X hx (j := j) (x := x) (by rw [eT]; exact A.1) (State.isArrayOf_alike hZ.alike A.2.1) A.2.2 hin (g := mkF m pc Ls (.double x :: .int j :: .ref a :: rest)) rfl rfl hd
  have W' : Wr h ((T.setCell a (c'.setSlot j.toNatClampNeg (.double x))).heap) a j.toNatClampNeg (.double x) := ⟨c', A.1, A.plain, Nat.lt_of_not_le fun q => hin (Or.inr q), by rw [← eT]; rfl⟩
  exact own_go st (H _ _ X' rfl W' (by rw [List.map_set]; exact F'.set W'))
theorem own_newD (X : Stand p l e R s m args below meth c T locs cells slots) (hx : p.tables.exec = Jvm.exec) (hZ : Z.Warmed39 s.vm) (w : (Jvm.Cond.arrayClass .double).before a0 Z = true) (eT : T.heap = h) {pc : Nat} {Ls : Array Slot} {rest : List Value} (hd : decode c.code pc = .ok (.newarray .double, 2)) {n : Int32}
    (hn : ¬ n < 0) {cap : Nat} (hcap : n.toNatClampNeg ≤ cap) (hb : cap * 8 ≤ 536870912) (hc : cells + 1 ≤ R.cells) (hl : slots + cap ≤ R.slots)
    (H : ∀ (T' : State) (h' : Heap) (a : Addr), a = h.size → Stand p l e R s m args below meth c T' locs (cells + 1) (slots + cap) → T'.heap = h' → Ext h h' → own_Ar Z h' a .double ((List.replicate n.toNatClampNeg (0 : UInt64)).map Value.double) → Exa Z h' a "[D" → own_Fin p e below s Q kc kn (T'.setTop (mkF m (pc + 2) Ls (.ref a :: rest)))) :
    own_Fin p e below s Q kc kn (T.setTop (mkF m pc Ls (.int n :: rest))) :=
  own_newarr X hx hZ (aty := .double) w eT hd hn hcap hb hc hl rfl fun T' h' a g' X' e' E' F' D' => H T' h' a g' X' e' E' (by rw [List.map_replicate]; exact F') D'
theorem own_retD (X : Stand p l e R s m args below meth c T locs cells slots) (hx : p.tables.exec = Jvm.exec) (hlk : meth.locks = false) {pc : Nat} {Ls : Array Slot} {z : UInt64} {rest : List Value} (hret : meth.sig.returnType = some .double)
    (hd : decode c.code pc = .ok (.dreturn, 1)) (hk : cells ≤ kc) (hs : slots ≤ kn) (hq : Q (some (.double z)) T.heap locs) : own_Fin p e below s Q kc kn (T.setTop (mkF m pc Ls (.double z :: rest))) :=
  own_ret X hx hlk hret rfl (Or.inr (Or.inr (Or.inl ⟨rfl, rfl, _, rfl⟩))) hd hk hs hq
theorem own_tsw (X : Stand p l e R s m args below meth c T locs cells slots) (hx : p.tables.exec = Jvm.exec) {pc pc' : Nat} {Ls : Array Slot} {k : Int32} {rest : List Value} {default low high : Int} {offsets : Array Int} {len : Nat} (hd : decode c.code pc = .ok (.tableswitch default low high offsets, len))
    (hin : ¬ (k.toInt < low ∨ k.toInt > high)) {off : Int} (hoffs : offsets[(k.toInt - low).toNat]? = some off) (hoff : 0 ≤ (pc : Int) + off) (hp : ((pc : Int) + off).toNat = pc')
    (H : own_Fin p e below s Q kc kn (T.setTop (mkF m pc' Ls rest))) : own_Fin p e below s Q kc kn (T.setTop (mkF m pc Ls (.int k :: rest))) := by
  subst hp
  exact own_go (fun t q => X.tableswitchIn hx (g := mkF m pc Ls (.int k :: rest)) rfl rfl hd hin hoffs hoff t q) H
theorem own_minD (X : Stand p l e R s m args below meth c T locs cells slots) (hx : p.tables.exec = Jvm.exec) (hZ : Z.Warmed39 s.vm) {own : String} {index : Nat} (hown : s.vm.findClass own = some m.cls) (w1 : (Jvm.Cond.methodLink own index Jvm.Free.Fl.Abs.minDN).before a0 Z = true) (w2 : (Jvm.Cond.static Jvm.Free.Fl.Abs.minDN).before a0 Z = true) (w3 : (Jvm.Cond.initialized "java/lang/Math").before a0 Z = true)
    (w4 : (Jvm.Cond.code Jvm.Free.Fl.Abs.minDN Jvm.Free.Fl.Abs.minDCode 4 (some .double)).before a0 Z = true) (eT : T.heap = h) {d1 d2 : UInt64} (n1 : Jvm.Free.Fl.NoNaN64 d1) (n2 : Jvm.Free.Fl.NoNaN64 d2) {pc : Nat} {Ls : Array Slot} {rest : List Value} (hsize : Ls.size = c.maxLocals) (hd : decode c.code pc = .ok (.invokestatic index, 3))
    {W : Nat} (hW : (rest.map fun v => v.category).sum ≤ W) (hf : 1 ≤ R.frames) (hl : W + 15 ≤ R.locals) (hc : cells ≤ R.cells) (hs : slots ≤ R.slots)
    (H : ∀ (T' : State), Stand p l e R s m args below meth c T' locs cells slots → T'.heap = h → own_Fin p e below s Q kc kn (T'.setTop (mkF m (pc + 3) Ls (.double (Native.java_lang_Math.nans.pick64 false d1 d2) :: rest)))) :
    own_Fin p e below s Q kc kn (T.setTop (mkF m pc Ls (.double d2 :: .double d1 :: rest))) := by
  obtain ⟨v, vm₁, B, -, X', ⟨rfl, rfl⟩, st⟩ := Jvm.LawKit.callS X hx (y := Jvm.Free.Fl.Abs.minDN) hown (mvT hZ w1) (mvT hZ w2) (mvT hZ w3) (mvT hZ w4) (by decide) (Jvm.Free.Fl.Abs.minD_pays (W := W) d1 d2 (mvT hZ w4) hf hl) (g := mkF m pc Ls (.double d2 :: .double d1 :: rest)) (argsL := [.double d1, .double d2]) (rest := rest) rfl hsize
    (fun sig hs => by rw [show parseMethodDescriptor Jvm.Free.Fl.Abs.minDN.desc = some ⟨[.double, .double], some .double⟩ from by decide +kernel] at hs; rw [← Option.some.inj hs]; rfl) rfl (by show 2 * 0 + _ ≤ _; omega) hd (fun _ _ => ⟨hc, hs, rfl, n1, n2⟩)
  exact own_go st (H _ X' eT)
open Jvm.FP.Core in
theorem own_noNaN {i : Int} {a : UInt64} (h : DInt i a) : Jvm.Free.Fl.NoNaN64 a := by
  have q := dcmp_int h h
  rw [Jvm.Free.Fl.noNaN64_no]
  cases hn : dIsNaN a with
  | false => rfl
  | true =>
    rw [(dcmp_none a a).mpr (Or.inl (by simpa [dIsNaN, isNaN, val64] using hn))] at q
    cases q
open Jvm.FP.Core in
theorem own_minI {i j : Int} {a b : UInt64} (ha : DInt i a) (hb : DInt j b) : DInt (min i j) (Native.java_lang_Math.nans.pick64 false a b) := by
  unfold Native.java_lang_Math.nans.pick64
  have q : FP.dcmp a b = some (compare i j) := dcmp_int ha hb
  rw [q]
  rcases Int.lt_trichotomy i j with h | h | h
  · rw [show compare i j = .lt from Int.compare_eq_lt.mpr h, show min i j = i by omega]; exact ha
  · subst h
    rw [show compare i i = .eq from Int.compare_eq_eq.mpr rfl, show min i i = i by omega]
    dsimp only
    split
    · exact hb
    · exact ha
  · rw [show compare i j = .gt from Int.compare_eq_gt.mpr h, show min i j = j by omega]; exact hb
end OwnD
theorem own_selP {Z : State} {a0 : Array Value} {y z : MethodName} (hz : z.cls = y.cls) (ws : (Jvm.Cond.selects z.cls z z).before a0 Z = true) (w2 : (Jvm.Cond.instanceMethod y).before a0 Z = true) (w4 : (Jvm.Cond.privateMethod y).before a0 Z = true) (wz : (Jvm.Cond.instanceMethod z).before a0 Z = true) (hy : y.cls ≠ "java/lang/invoke/MethodHandle" ∧ y.cls ≠ "java/lang/invoke/VarHandle") : (Jvm.Cond.selects y.cls y y).before a0 Z = true := by
  obtain ⟨mz, methZ, hnz, -, -, -⟩ := Cond.instanceMethod_spec wz
  obtain ⟨k, hk, hki⟩ := notFace_of_selects ws _ hnz
  have hc : Z.vm.findClass y.cls = some mz.cls := by rw [← hz]; exact findClass_of_methodNamed hnz
  exact selects_self_of_private hc hk hki (Cond.privateMethod_at w4) w2 hy

theorem d5_0 : decode jdk_37_method_2_code 0 = .ok (.aload_n 0, 1) := by decide +kernel
theorem d5_1 : decode jdk_37_method_2_code 1 = .ok (.getfield 7, 3) := by decide +kernel
theorem d5_4 : decode jdk_37_method_2_code 4 = .ok (.ireturn, 1) := by decide +kernel
theorem pn_5 : plainFor (⟨"java/lang/Enum", "ordinal", "()I"⟩ : MethodName) = true := plainFor_of_name (by show plainName "java/lang/Enum" = true; first | (simp [plainName, overriddenIn]; done) | decide +kernel)
theorem ef_5 (m : MethodId) (x0 : Addr) : entryFrame m #[(.ref x0)] 1 = mkF m 0 #[.val (.ref x0)] [] := by first | (simp [entryFrame, mkF, argsToLocals, Value.category]; done) | rfl
set_option maxRecDepth 65536 in
set_option maxHeartbeats 40000000 in
theorem rm5 (l : Launch) (Z : State) (a0 : Array Value) (hw : ∀ d ∈ tables_1, d.before a0 Z = true) (t0 : Addr) (h0 : Heap) (n0 : Nat) (Z0 : n0 ≤ h0.size) (o0 : Int32) (F0 : Fld Z h0 t0 "java/lang/Enum" "ordinal" "I" (.int o0)) :
    own_Met l (⟨"java/lang/Enum", "ordinal", "()I"⟩ : MethodName) jdk_37_method_2_code 1 (some .int) ({ frames := 0, cells := 0, slots := 0, locals := 0 } : Room) Z [] #[(.ref t0)] h0 (own_P (some (.int o0)) h0 n0) := by
  refine own_enter pn_5 ?_
  intro p e s m below meth c s₁ hx hby hml hown hnm hret hlk hZ e0 X0
  rw [ef_5]
  have N0 := Fr.nil n0
  show own_Fin _ _ _ _ _ _ _ (s₁.setTop (mkF m 0 #[.val (.ref t0)] []))
  refine own_go (fun _ kk => XS.aloadN X0.here hx rfl (hb hby d5_0) rfl rfl kk) ?_
  show own_Fin _ _ _ _ _ _ _ (s₁.setTop (mkF m 1 #[.val (.ref t0)] [(.ref t0)]))
  refine own_getF X0 hx hZ hown (host := "") (Or.inl (hw _ (List.mem_of_getElem? (i := 30) rfl))) Via.refl e0 F0 (hb hby d5_1) ?_
  intro T1 X1 e1
  show own_Fin _ _ _ _ _ _ _ (T1.setTop (mkF m 4 #[.val (.ref t0)] [(.int o0)]))
  exact own_retI X1 hx hlk hret (hb hby d5_4) (by decide) (by decide) ⟨rfl, N0, e1⟩

theorem d4o0_0 : decode prog_61_method_8_code 0 = .ok (.aload_n 0, 1) := by decide +kernel
theorem d4o0_1 : decode prog_61_method_8_code 1 = .ok (.invokevirtual 81, 3) := by decide +kernel
theorem d4o0_4 : decode prog_61_method_8_code 4 = .ok (.tableswitch 32 0 3 #[42, 48, 54, 42], 32) := by decide +kernel
theorem d4o0_46 : decode prog_61_method_8_code 46 = .ok (.dload_n 1, 1) := by decide +kernel
theorem d4o0_47 : decode prog_61_method_8_code 47 = .ok (.dload_n 3, 1) := by decide +kernel
theorem d4o0_48 : decode prog_61_method_8_code 48 = .ok (.dadd, 1) := by decide +kernel
theorem d4o0_49 : decode prog_61_method_8_code 49 = .ok (.goto 14, 3) := by decide +kernel
theorem d4o0_63 : decode prog_61_method_8_code 63 = .ok (.dreturn, 1) := by decide +kernel
theorem pd_4o0_0 : parseMethodDescriptor "()I" = some ⟨[], some .int⟩ := by decide +kernel
theorem pn_4o0 : plainFor (⟨"com/example/conflux/conflux/select/Aggregation", "combined", "(DD)D"⟩ : MethodName) = true := plainFor_of_name (by show plainName "com/example/conflux/conflux/select/Aggregation" = true; first | (simp [plainName, overriddenIn]; done) | decide +kernel)
theorem ef_4o0 (m : MethodId) (x0 : Addr) (x1 : UInt64) (x2 : UInt64) : entryFrame m #[(.ref x0), (.double x1), (.double x2)] 5 = mkF m 0 #[.val (.ref x0), .val (.double x1), .second, .val (.double x2), .second] [] := by first | (simp [entryFrame, mkF, argsToLocals, Value.category]; done) | rfl
set_option maxRecDepth 65536 in
set_option maxHeartbeats 40000000 in
theorem rm4o0 (l : Launch) (Z : State) (a0 : Array Value) (hw : ∀ d ∈ tables_1, d.before a0 Z = true) (t0 : Addr) (d1 : UInt64) (d2 : UInt64) (h0 : Heap) (n0 : Nat) (Z0 : n0 ≤ h0.size) (E_t0 : Exa Z h0 t0 "com/example/conflux/conflux/select/Aggregation") (F_ord : Fld Z h0 t0 "java/lang/Enum" "ordinal" "I" (.int (0 : Int32))) (nn : Jvm.Free.Fl.NoNaN64 (FP.dadd d1 d2)) :
    own_Met l (⟨"com/example/conflux/conflux/select/Aggregation", "combined", "(DD)D"⟩ : MethodName) prog_61_method_8_code 5 (some .double) ({ frames := 1, cells := 0, slots := 0, locals := 12 } : Room) Z [] #[(.ref t0), (.double d1), (.double d2)] h0 (own_P (some (.double (FP.dadd d1 d2))) h0 n0) := by
  refine own_enter pn_4o0 ?_
  intro p e s m below meth c s₁ hx hby hml hown hnm hret hlk hZ e0 X0
  rw [ef_4o0]
  have N0 := Fr.nil n0
  show own_Fin _ _ _ _ _ _ _ (s₁.setTop (mkF m 0 #[.val (.ref t0), .val (.double d1), .second, .val (.double d2), .second] []))
  refine own_go (fun _ kk => XS.aloadN X0.here hx rfl (hb hby d4o0_0) rfl rfl kk) ?_
  show own_Fin _ _ _ _ _ _ _ (s₁.setTop (mkF m 1 #[.val (.ref t0), .val (.double d1), .second, .val (.double d2), .second] [(.ref t0)]))
  refine own_callU X0 hx hZ hown (hw _ (List.mem_of_getElem? (i := 23) rfl)) (hw _ (List.mem_of_getElem? (i := 24) rfl)) (hw _ (List.mem_of_getElem? (i := 25) rfl)) (by decide) (hw _ (List.mem_of_getElem? (i := 27) rfl)) (hw _ (List.mem_of_getElem? (i := 26) rfl)) (hw _ (List.mem_of_getElem? (i := 29) rfl)) (hw _ (List.mem_of_getElem? (i := 28) rfl)) (rm5 l Z a0 hw t0 h0 n0 Z0 (0 : Int32) F_ord) e0 E_t0 (argsL := []) (rest := []) rfl rfl (by rw [hml]; rfl) (lenOf pd_4o0_0 rfl) (hb hby d4o0_1) (W := 0) (Nat.le_of_eq rfl) (by decide) (by decide) (by decide) (by decide) ?_
  rintro v1 T1 L1 X1 ⟨rfl, M1, e1⟩
  have N1 := Fr.app N0 M1
  show own_Fin _ _ _ _ _ _ _ (T1.setTop (mkF m 4 #[.val (.ref t0), .val (.double d1), .second, .val (.double d2), .second] [(.int (0 : Int32))]))
  refine own_tsw X1 hx (hb hby d4o0_4) (by decide) (off := 42) (by decide) (by decide) (pc' := 46) (by decide) ?_
  show own_Fin _ _ _ _ _ _ _ (T1.setTop (mkF m 46 #[.val (.ref t0), .val (.double d1), .second, .val (.double d2), .second] []))
  refine own_go (fun _ kk => XS.dloadN X1.here hx rfl (hb hby d4o0_46) rfl (XS.dloadN X1.here hx rfl (hb hby d4o0_47) rfl (XS.daddS X1.here hx rfl (hb hby d4o0_48) rfl nn rfl (XS.goto X1.here hx rfl (pc0 := 49) (pc' := 63) rfl (hb hby d4o0_49) (by decide) (by decide) kk)))) ?_
  show own_Fin _ _ _ _ _ _ _ (T1.setTop (mkF m 63 #[.val (.ref t0), .val (.double d1), .second, .val (.double d2), .second] [(.double (FP.dadd d1 d2))]))
  exact own_retD X1 hx hlk hret (hb hby d4o0_63) (by decide) (by decide) ⟨rfl, N1, e1⟩

theorem d4o1_0 : decode prog_61_method_8_code 0 = .ok (.aload_n 0, 1) := by decide +kernel
theorem d4o1_1 : decode prog_61_method_8_code 1 = .ok (.invokevirtual 81, 3) := by decide +kernel
theorem d4o1_4 : decode prog_61_method_8_code 4 = .ok (.tableswitch 32 0 3 #[42, 48, 54, 42], 32) := by decide +kernel
theorem d4o1_52 : decode prog_61_method_8_code 52 = .ok (.dload_n 1, 1) := by decide +kernel
theorem d4o1_53 : decode prog_61_method_8_code 53 = .ok (.dload_n 3, 1) := by decide +kernel
theorem d4o1_54 : decode prog_61_method_8_code 54 = .ok (.dmul, 1) := by decide +kernel
theorem d4o1_55 : decode prog_61_method_8_code 55 = .ok (.goto 8, 3) := by decide +kernel
theorem d4o1_63 : decode prog_61_method_8_code 63 = .ok (.dreturn, 1) := by decide +kernel
theorem pd_4o1_0 : parseMethodDescriptor "()I" = some ⟨[], some .int⟩ := by decide +kernel
theorem pn_4o1 : plainFor (⟨"com/example/conflux/conflux/select/Aggregation", "combined", "(DD)D"⟩ : MethodName) = true := plainFor_of_name (by show plainName "com/example/conflux/conflux/select/Aggregation" = true; first | (simp [plainName, overriddenIn]; done) | decide +kernel)
theorem ef_4o1 (m : MethodId) (x0 : Addr) (x1 : UInt64) (x2 : UInt64) : entryFrame m #[(.ref x0), (.double x1), (.double x2)] 5 = mkF m 0 #[.val (.ref x0), .val (.double x1), .second, .val (.double x2), .second] [] := by first | (simp [entryFrame, mkF, argsToLocals, Value.category]; done) | rfl
set_option maxRecDepth 65536 in
set_option maxHeartbeats 40000000 in
theorem rm4o1 (l : Launch) (Z : State) (a0 : Array Value) (hw : ∀ d ∈ tables_1, d.before a0 Z = true) (t0 : Addr) (d1 : UInt64) (d2 : UInt64) (h0 : Heap) (n0 : Nat) (Z0 : n0 ≤ h0.size) (E_t0 : Exa Z h0 t0 "com/example/conflux/conflux/select/Aggregation") (F_ord : Fld Z h0 t0 "java/lang/Enum" "ordinal" "I" (.int (1 : Int32))) (nn : Jvm.Free.Fl.NoNaN64 (FP.dmul d1 d2)) :
    own_Met l (⟨"com/example/conflux/conflux/select/Aggregation", "combined", "(DD)D"⟩ : MethodName) prog_61_method_8_code 5 (some .double) ({ frames := 1, cells := 0, slots := 0, locals := 12 } : Room) Z [] #[(.ref t0), (.double d1), (.double d2)] h0 (own_P (some (.double (FP.dmul d1 d2))) h0 n0) := by
  refine own_enter pn_4o1 ?_
  intro p e s m below meth c s₁ hx hby hml hown hnm hret hlk hZ e0 X0
  rw [ef_4o1]
  have N0 := Fr.nil n0
  show own_Fin _ _ _ _ _ _ _ (s₁.setTop (mkF m 0 #[.val (.ref t0), .val (.double d1), .second, .val (.double d2), .second] []))
  refine own_go (fun _ kk => XS.aloadN X0.here hx rfl (hb hby d4o1_0) rfl rfl kk) ?_
  show own_Fin _ _ _ _ _ _ _ (s₁.setTop (mkF m 1 #[.val (.ref t0), .val (.double d1), .second, .val (.double d2), .second] [(.ref t0)]))
  refine own_callU X0 hx hZ hown (hw _ (List.mem_of_getElem? (i := 23) rfl)) (hw _ (List.mem_of_getElem? (i := 24) rfl)) (hw _ (List.mem_of_getElem? (i := 25) rfl)) (by decide) (hw _ (List.mem_of_getElem? (i := 27) rfl)) (hw _ (List.mem_of_getElem? (i := 26) rfl)) (hw _ (List.mem_of_getElem? (i := 29) rfl)) (hw _ (List.mem_of_getElem? (i := 28) rfl)) (rm5 l Z a0 hw t0 h0 n0 Z0 (1 : Int32) F_ord) e0 E_t0 (argsL := []) (rest := []) rfl rfl (by rw [hml]; rfl) (lenOf pd_4o1_0 rfl) (hb hby d4o1_1) (W := 0) (Nat.le_of_eq rfl) (by decide) (by decide) (by decide) (by decide) ?_
  rintro v1 T1 L1 X1 ⟨rfl, M1, e1⟩
  have N1 := Fr.app N0 M1
  show own_Fin _ _ _ _ _ _ _ (T1.setTop (mkF m 4 #[.val (.ref t0), .val (.double d1), .second, .val (.double d2), .second] [(.int (1 : Int32))]))
  refine own_tsw X1 hx (hb hby d4o1_4) (by decide) (off := 48) (by decide) (by decide) (pc' := 52) (by decide) ?_
  show own_Fin _ _ _ _ _ _ _ (T1.setTop (mkF m 52 #[.val (.ref t0), .val (.double d1), .second, .val (.double d2), .second] []))
  refine own_go (fun _ kk => XS.dloadN X1.here hx rfl (hb hby d4o1_52) rfl (XS.dloadN X1.here hx rfl (hb hby d4o1_53) rfl (XS.dmulS X1.here hx rfl (hb hby d4o1_54) rfl nn rfl (XS.goto X1.here hx rfl (pc0 := 55) (pc' := 63) rfl (hb hby d4o1_55) (by decide) (by decide) kk)))) ?_
  show own_Fin _ _ _ _ _ _ _ (T1.setTop (mkF m 63 #[.val (.ref t0), .val (.double d1), .second, .val (.double d2), .second] [(.double (FP.dmul d1 d2))]))
  exact own_retD X1 hx hlk hret (hb hby d4o1_63) (by decide) (by decide) ⟨rfl, N1, e1⟩

theorem d4o2_0 : decode prog_61_method_8_code 0 = .ok (.aload_n 0, 1) := by decide +kernel
theorem d4o2_1 : decode prog_61_method_8_code 1 = .ok (.invokevirtual 81, 3) := by decide +kernel
theorem d4o2_4 : decode prog_61_method_8_code 4 = .ok (.tableswitch 32 0 3 #[42, 48, 54, 42], 32) := by decide +kernel
theorem d4o2_58 : decode prog_61_method_8_code 58 = .ok (.dload_n 1, 1) := by decide +kernel
theorem d4o2_59 : decode prog_61_method_8_code 59 = .ok (.dload_n 3, 1) := by decide +kernel
theorem d4o2_60 : decode prog_61_method_8_code 60 = .ok (.invokestatic 90, 3) := by decide +kernel
theorem d4o2_63 : decode prog_61_method_8_code 63 = .ok (.dreturn, 1) := by decide +kernel
theorem pd_4o2_0 : parseMethodDescriptor "()I" = some ⟨[], some .int⟩ := by decide +kernel
theorem pn_4o2 : plainFor (⟨"com/example/conflux/conflux/select/Aggregation", "combined", "(DD)D"⟩ : MethodName) = true := plainFor_of_name (by show plainName "com/example/conflux/conflux/select/Aggregation" = true; first | (simp [plainName, overriddenIn]; done) | decide +kernel)
theorem ef_4o2 (m : MethodId) (x0 : Addr) (x1 : UInt64) (x2 : UInt64) : entryFrame m #[(.ref x0), (.double x1), (.double x2)] 5 = mkF m 0 #[.val (.ref x0), .val (.double x1), .second, .val (.double x2), .second] [] := by first | (simp [entryFrame, mkF, argsToLocals, Value.category]; done) | rfl
set_option maxRecDepth 65536 in
set_option maxHeartbeats 40000000 in
theorem rm4o2 (l : Launch) (Z : State) (a0 : Array Value) (hw : ∀ d ∈ tables_1, d.before a0 Z = true) (t0 : Addr) (d1 : UInt64) (d2 : UInt64) (h0 : Heap) (n0 : Nat) (Z0 : n0 ≤ h0.size) (E_t0 : Exa Z h0 t0 "com/example/conflux/conflux/select/Aggregation") (F_ord : Fld Z h0 t0 "java/lang/Enum" "ordinal" "I" (.int (2 : Int32))) (na : Jvm.Free.Fl.NoNaN64 d1) (nb : Jvm.Free.Fl.NoNaN64 d2) :
    own_Met l (⟨"com/example/conflux/conflux/select/Aggregation", "combined", "(DD)D"⟩ : MethodName) prog_61_method_8_code 5 (some .double) ({ frames := 1, cells := 0, slots := 0, locals := 15 } : Room) Z [] #[(.ref t0), (.double d1), (.double d2)] h0 (own_P (some (.double (Native.java_lang_Math.nans.pick64 false d1 d2))) h0 n0) := by
  refine own_enter pn_4o2 ?_
  intro p e s m below meth c s₁ hx hby hml hown hnm hret hlk hZ e0 X0
  rw [ef_4o2]
  have N0 := Fr.nil n0
  show own_Fin _ _ _ _ _ _ _ (s₁.setTop (mkF m 0 #[.val (.ref t0), .val (.double d1), .second, .val (.double d2), .second] []))
  refine own_go (fun _ kk => XS.aloadN X0.here hx rfl (hb hby d4o2_0) rfl rfl kk) ?_
  show own_Fin _ _ _ _ _ _ _ (s₁.setTop (mkF m 1 #[.val (.ref t0), .val (.double d1), .second, .val (.double d2), .second] [(.ref t0)]))
  refine own_callU X0 hx hZ hown (hw _ (List.mem_of_getElem? (i := 23) rfl)) (hw _ (List.mem_of_getElem? (i := 24) rfl)) (hw _ (List.mem_of_getElem? (i := 25) rfl)) (by decide) (hw _ (List.mem_of_getElem? (i := 27) rfl)) (hw _ (List.mem_of_getElem? (i := 26) rfl)) (hw _ (List.mem_of_getElem? (i := 29) rfl)) (hw _ (List.mem_of_getElem? (i := 28) rfl)) (rm5 l Z a0 hw t0 h0 n0 Z0 (2 : Int32) F_ord) e0 E_t0 (argsL := []) (rest := []) rfl rfl (by rw [hml]; rfl) (lenOf pd_4o2_0 rfl) (hb hby d4o2_1) (W := 0) (Nat.le_of_eq rfl) (by decide) (by decide) (by decide) (by decide) ?_
  rintro v1 T1 L1 X1 ⟨rfl, M1, e1⟩
  have N1 := Fr.app N0 M1
  show own_Fin _ _ _ _ _ _ _ (T1.setTop (mkF m 4 #[.val (.ref t0), .val (.double d1), .second, .val (.double d2), .second] [(.int (2 : Int32))]))
  refine own_tsw X1 hx (hb hby d4o2_4) (by decide) (off := 54) (by decide) (by decide) (pc' := 58) (by decide) ?_
  show own_Fin _ _ _ _ _ _ _ (T1.setTop (mkF m 58 #[.val (.ref t0), .val (.double d1), .second, .val (.double d2), .second] []))
  refine own_go (fun _ kk => XS.dloadN X1.here hx rfl (hb hby d4o2_58) rfl (XS.dloadN X1.here hx rfl (hb hby d4o2_59) rfl kk)) ?_
  show own_Fin _ _ _ _ _ _ _ (T1.setTop (mkF m 60 #[.val (.ref t0), .val (.double d1), .second, .val (.double d2), .second] [(.double d2), (.double d1)]))
  refine own_minD X1 hx hZ hown (hw _ (List.mem_of_getElem? (i := 34) rfl)) (hw _ (List.mem_of_getElem? (i := 35) rfl)) (hw _ (List.mem_of_getElem? (i := 36) rfl)) (hw _ (List.mem_of_getElem? (i := 37) rfl)) e1 na nb (by rw [hml]; rfl) (hb hby d4o2_60) (W := 0) (Nat.le_of_eq rfl) (by decide) (by decide) (by decide) (by decide) ?_
  intro T2 X2 e2
  show own_Fin _ _ _ _ _ _ _ (T2.setTop (mkF m 63 #[.val (.ref t0), .val (.double d1), .second, .val (.double d2), .second] [(.double (Native.java_lang_Math.nans.pick64 false d1 d2))]))
  exact own_retD X2 hx hlk hret (hb hby d4o2_63) (by decide) (by decide) ⟨rfl, N1, e2⟩

theorem d4o3_0 : decode prog_61_method_8_code 0 = .ok (.aload_n 0, 1) := by decide +kernel
theorem d4o3_1 : decode prog_61_method_8_code 1 = .ok (.invokevirtual 81, 3) := by decide +kernel
theorem d4o3_4 : decode prog_61_method_8_code 4 = .ok (.tableswitch 32 0 3 #[42, 48, 54, 42], 32) := by decide +kernel
theorem d4o3_46 : decode prog_61_method_8_code 46 = .ok (.dload_n 1, 1) := by decide +kernel
theorem d4o3_47 : decode prog_61_method_8_code 47 = .ok (.dload_n 3, 1) := by decide +kernel
theorem d4o3_48 : decode prog_61_method_8_code 48 = .ok (.dadd, 1) := by decide +kernel
theorem d4o3_49 : decode prog_61_method_8_code 49 = .ok (.goto 14, 3) := by decide +kernel
theorem d4o3_63 : decode prog_61_method_8_code 63 = .ok (.dreturn, 1) := by decide +kernel
theorem pd_4o3_0 : parseMethodDescriptor "()I" = some ⟨[], some .int⟩ := by decide +kernel
theorem pn_4o3 : plainFor (⟨"com/example/conflux/conflux/select/Aggregation", "combined", "(DD)D"⟩ : MethodName) = true := plainFor_of_name (by show plainName "com/example/conflux/conflux/select/Aggregation" = true; first | (simp [plainName, overriddenIn]; done) | decide +kernel)
theorem ef_4o3 (m : MethodId) (x0 : Addr) (x1 : UInt64) (x2 : UInt64) : entryFrame m #[(.ref x0), (.double x1), (.double x2)] 5 = mkF m 0 #[.val (.ref x0), .val (.double x1), .second, .val (.double x2), .second] [] := by first | (simp [entryFrame, mkF, argsToLocals, Value.category]; done) | rfl
set_option maxRecDepth 65536 in
set_option maxHeartbeats 40000000 in
theorem rm4o3 (l : Launch) (Z : State) (a0 : Array Value) (hw : ∀ d ∈ tables_1, d.before a0 Z = true) (t0 : Addr) (d1 : UInt64) (d2 : UInt64) (h0 : Heap) (n0 : Nat) (Z0 : n0 ≤ h0.size) (E_t0 : Exa Z h0 t0 "com/example/conflux/conflux/select/Aggregation") (F_ord : Fld Z h0 t0 "java/lang/Enum" "ordinal" "I" (.int (3 : Int32))) (nn : Jvm.Free.Fl.NoNaN64 (FP.dadd d1 d2)) :
    own_Met l (⟨"com/example/conflux/conflux/select/Aggregation", "combined", "(DD)D"⟩ : MethodName) prog_61_method_8_code 5 (some .double) ({ frames := 1, cells := 0, slots := 0, locals := 12 } : Room) Z [] #[(.ref t0), (.double d1), (.double d2)] h0 (own_P (some (.double (FP.dadd d1 d2))) h0 n0) := by
  refine own_enter pn_4o3 ?_
  intro p e s m below meth c s₁ hx hby hml hown hnm hret hlk hZ e0 X0
  rw [ef_4o3]
  have N0 := Fr.nil n0
  show own_Fin _ _ _ _ _ _ _ (s₁.setTop (mkF m 0 #[.val (.ref t0), .val (.double d1), .second, .val (.double d2), .second] []))
  refine own_go (fun _ kk => XS.aloadN X0.here hx rfl (hb hby d4o3_0) rfl rfl kk) ?_
  show own_Fin _ _ _ _ _ _ _ (s₁.setTop (mkF m 1 #[.val (.ref t0), .val (.double d1), .second, .val (.double d2), .second] [(.ref t0)]))
  refine own_callU X0 hx hZ hown (hw _ (List.mem_of_getElem? (i := 23) rfl)) (hw _ (List.mem_of_getElem? (i := 24) rfl)) (hw _ (List.mem_of_getElem? (i := 25) rfl)) (by decide) (hw _ (List.mem_of_getElem? (i := 27) rfl)) (hw _ (List.mem_of_getElem? (i := 26) rfl)) (hw _ (List.mem_of_getElem? (i := 29) rfl)) (hw _ (List.mem_of_getElem? (i := 28) rfl)) (rm5 l Z a0 hw t0 h0 n0 Z0 (3 : Int32) F_ord) e0 E_t0 (argsL := []) (rest := []) rfl rfl (by rw [hml]; rfl) (lenOf pd_4o3_0 rfl) (hb hby d4o3_1) (W := 0) (Nat.le_of_eq rfl) (by decide) (by decide) (by decide) (by decide) ?_
  rintro v1 T1 L1 X1 ⟨rfl, M1, e1⟩
  have N1 := Fr.app N0 M1
  show own_Fin _ _ _ _ _ _ _ (T1.setTop (mkF m 4 #[.val (.ref t0), .val (.double d1), .second, .val (.double d2), .second] [(.int (3 : Int32))]))
  refine own_tsw X1 hx (hb hby d4o3_4) (by decide) (off := 42) (by decide) (by decide) (pc' := 46) (by decide) ?_
  show own_Fin _ _ _ _ _ _ _ (T1.setTop (mkF m 46 #[.val (.ref t0), .val (.double d1), .second, .val (.double d2), .second] []))
  refine own_go (fun _ kk => XS.dloadN X1.here hx rfl (hb hby d4o3_46) rfl (XS.dloadN X1.here hx rfl (hb hby d4o3_47) rfl (XS.daddS X1.here hx rfl (hb hby d4o3_48) rfl nn rfl (XS.goto X1.here hx rfl (pc0 := 49) (pc' := 63) rfl (hb hby d4o3_49) (by decide) (by decide) kk)))) ?_
  show own_Fin _ _ _ _ _ _ _ (T1.setTop (mkF m 63 #[.val (.ref t0), .val (.double d1), .second, .val (.double d2), .second] [(.double (FP.dadd d1 d2))]))
  exact own_retD X1 hx hlk hret (hb hby d4o3_63) (by decide) (by decide) ⟨rfl, N1, e1⟩

theorem d2k0n1_0 : decode prog_61_method_6_code 0 = .ok (.aload_n 1, 1) := by decide +kernel
theorem d2k0n1_1 : decode prog_61_method_6_code 1 = .ok (.arraylength, 1) := by decide +kernel
theorem d2k0n1_2 : decode prog_61_method_6_code 2 = .ok (.ifCond .ne 13, 3) := by decide +kernel
theorem d2k0n1_15 : decode prog_61_method_6_code 15 = .ok (.aload_n 1, 1) := by decide +kernel
theorem d2k0n1_16 : decode prog_61_method_6_code 16 = .ok (.iconst 0, 1) := by decide +kernel
theorem d2k0n1_17 : decode prog_61_method_6_code 17 = .ok (.daload, 1) := by decide +kernel
theorem d2k0n1_18 : decode prog_61_method_6_code 18 = .ok (.dstore_n 2, 1) := by decide +kernel
theorem d2k0n1_19 : decode prog_61_method_6_code 19 = .ok (.iconst 1, 1) := by decide +kernel
theorem d2k0n1_20 : decode prog_61_method_6_code 20 = .ok (.istore 4, 2) := by decide +kernel
theorem d2k0n1_22 : decode prog_61_method_6_code 22 = .ok (.iload 4, 2) := by decide +kernel
theorem d2k0n1_24 : decode prog_61_method_6_code 24 = .ok (.aload_n 1, 1) := by decide +kernel
theorem d2k0n1_25 : decode prog_61_method_6_code 25 = .ok (.arraylength, 1) := by decide +kernel
theorem d2k0n1_26 : decode prog_61_method_6_code 26 = .ok (.if_icmp .ge 19, 3) := by decide +kernel
theorem d2k0n1_45 : decode prog_61_method_6_code 45 = .ok (.dload_n 2, 1) := by decide +kernel
theorem d2k0n1_46 : decode prog_61_method_6_code 46 = .ok (.dreturn, 1) := by decide +kernel
theorem pn_2k0n1 : plainFor (⟨"com/example/conflux/conflux/select/Aggregation", "aggregate", "([D)D"⟩ : MethodName) = true := plainFor_of_name (by show plainName "com/example/conflux/conflux/select/Aggregation" = true; first | (simp [plainName, overriddenIn]; done) | decide +kernel)
theorem ef_2k0n1 (m : MethodId) (x0 : Addr) (x1 : Addr) : entryFrame m #[(.ref x0), (.ref x1)] 5 = mkF m 0 #[.val (.ref x0), .val (.ref x1), .unset, .unset, .unset] [] := by first | (simp [entryFrame, mkF, argsToLocals, Value.category]; done) | rfl
set_option maxRecDepth 65536 in
set_option maxHeartbeats 40000000 in
theorem rm2k0n1 (l : Launch) (Z : State) (a0 : Array Value) (hw : ∀ d ∈ tables_1, d.before a0 Z = true) (t0 : Addr) (va : Addr) (h0 : Heap) (n0 : Nat) (Z0 : n0 ≤ h0.size) (E_t0 : Exa Z h0 t0 "com/example/conflux/conflux/select/Aggregation") (F_ord : Fld Z h0 t0 "java/lang/Enum" "ordinal" "I" (.int (0 : Int32))) (v0 : UInt64) (VA : own_Ar Z h0 va .double (List.map Value.double [v0]))  :
    own_Met l (⟨"com/example/conflux/conflux/select/Aggregation", "aggregate", "([D)D"⟩ : MethodName) prog_61_method_6_code 5 (some .double) ({ frames := 0, cells := 0, slots := 0, locals := 0 } : Room) Z [] #[(.ref t0), (.ref va)] h0 (own_P (some (.double v0)) h0 n0) := by
  refine own_enter pn_2k0n1 ?_
  intro p e s m below meth c s₁ hx hby hml hown hnm hret hlk hZ e0 X0
  rw [ef_2k0n1]
  have N0 := Fr.nil n0
  show own_Fin _ _ _ _ _ _ _ (s₁.setTop (mkF m 0 #[.val (.ref t0), .val (.ref va), .unset, .unset, .unset] []))
  refine own_go (fun _ kk => XS.aloadN X0.here hx rfl (hb hby d2k0n1_0) rfl rfl kk) ?_
  show own_Fin _ _ _ _ _ _ _ (s₁.setTop (mkF m 1 #[.val (.ref t0), .val (.ref va), .unset, .unset, .unset] [(.ref va)]))
  refine own_alen X0 hx hZ e0 VA (hb hby d2k0n1_1) ?_
  show own_Fin _ _ _ _ _ _ _ (s₁.setTop (mkF m 2 #[.val (.ref t0), .val (.ref va), .unset, .unset, .unset] [(.int (1 : Int32))]))
  refine own_go (fun _ kk => XS.ifYes X0.here hx rfl (pc0 := 2) (pc' := 15) rfl (hb hby d2k0n1_2) rfl (XT.i0_ne_t (by decide)) (by decide) (by decide) (XS.aloadN X0.here hx rfl (hb hby d2k0n1_15) rfl rfl (XS.iconst X0.here hx rfl (hb hby d2k0n1_16) kk))) ?_
  show own_Fin _ _ _ _ _ _ _ (s₁.setTop (mkF m 17 #[.val (.ref t0), .val (.ref va), .unset, .unset, .unset] [(.int (0 : Int32)), (.ref va)]))
  refine own_ldD X0 hx hZ e0 VA (by decide) (by show (0 : Int32).toNatClampNeg < 1; decide) (hb hby d2k0n1_17) ?_
  show own_Fin _ _ _ _ _ _ _ (s₁.setTop (mkF m 18 #[.val (.ref t0), .val (.ref va), .unset, .unset, .unset] [(.double v0)]))
  refine own_go (fun _ kk => XS.dstoreN X0.here hx rfl (hb hby d2k0n1_18) rfl (l' := #[.val (.ref t0), .val (.ref va), .val (.double v0), .second, .unset]) rfl (XS.iconst X0.here hx rfl (hb hby d2k0n1_19) (XS.istore X0.here hx rfl (hb hby d2k0n1_20) rfl (l' := #[.val (.ref t0), .val (.ref va), .val (.double v0), .second, .val (.int (1 : Int32))]) rfl (XS.iload X0.here hx rfl (hb hby d2k0n1_22) rfl (XS.aloadN X0.here hx rfl (hb hby d2k0n1_24) rfl rfl kk))))) ?_
  show own_Fin _ _ _ _ _ _ _ (s₁.setTop (mkF m 25 #[.val (.ref t0), .val (.ref va), .val (.double v0), .second, .val (.int (1 : Int32))] [(.ref va), (.int (1 : Int32))]))
  refine own_alen X0 hx hZ e0 VA (hb hby d2k0n1_25) ?_
  show own_Fin _ _ _ _ _ _ _ (s₁.setTop (mkF m 26 #[.val (.ref t0), .val (.ref va), .val (.double v0), .second, .val (.int (1 : Int32))] [(.int (1 : Int32)), (.int (1 : Int32))]))
  refine own_go (fun _ kk => XS.icmpYes X0.here hx rfl (pc0 := 26) (pc' := 45) rfl (hb hby d2k0n1_26) rfl (XT.ii_ge_t (by decide)) (by decide) (by decide) (XS.dloadN X0.here hx rfl (hb hby d2k0n1_45) rfl kk)) ?_
  show own_Fin _ _ _ _ _ _ _ (s₁.setTop (mkF m 46 #[.val (.ref t0), .val (.ref va), .val (.double v0), .second, .val (.int (1 : Int32))] [(.double v0)]))
  exact own_retD X0 hx hlk hret (hb hby d2k0n1_46) (by decide) (by decide) ⟨rfl, N0, e0⟩

theorem d2k0n2_0 : decode prog_61_method_6_code 0 = .ok (.aload_n 1, 1) := by decide +kernel
theorem d2k0n2_1 : decode prog_61_method_6_code 1 = .ok (.arraylength, 1) := by decide +kernel
theorem d2k0n2_2 : decode prog_61_method_6_code 2 = .ok (.ifCond .ne 13, 3) := by decide +kernel
theorem d2k0n2_15 : decode prog_61_method_6_code 15 = .ok (.aload_n 1, 1) := by decide +kernel
theorem d2k0n2_16 : decode prog_61_method_6_code 16 = .ok (.iconst 0, 1) := by decide +kernel
theorem d2k0n2_17 : decode prog_61_method_6_code 17 = .ok (.daload, 1) := by decide +kernel
theorem d2k0n2_18 : decode prog_61_method_6_code 18 = .ok (.dstore_n 2, 1) := by decide +kernel
theorem d2k0n2_19 : decode prog_61_method_6_code 19 = .ok (.iconst 1, 1) := by decide +kernel
theorem d2k0n2_20 : decode prog_61_method_6_code 20 = .ok (.istore 4, 2) := by decide +kernel
theorem d2k0n2_22 : decode prog_61_method_6_code 22 = .ok (.iload 4, 2) := by decide +kernel
theorem d2k0n2_24 : decode prog_61_method_6_code 24 = .ok (.aload_n 1, 1) := by decide +kernel
theorem d2k0n2_25 : decode prog_61_method_6_code 25 = .ok (.arraylength, 1) := by decide +kernel
theorem d2k0n2_26 : decode prog_61_method_6_code 26 = .ok (.if_icmp .ge 19, 3) := by decide +kernel
theorem d2k0n2_29 : decode prog_61_method_6_code 29 = .ok (.aload_n 0, 1) := by decide +kernel
theorem d2k0n2_30 : decode prog_61_method_6_code 30 = .ok (.dload_n 2, 1) := by decide +kernel
theorem d2k0n2_31 : decode prog_61_method_6_code 31 = .ok (.aload_n 1, 1) := by decide +kernel
theorem d2k0n2_32 : decode prog_61_method_6_code 32 = .ok (.iload 4, 2) := by decide +kernel
theorem d2k0n2_34 : decode prog_61_method_6_code 34 = .ok (.daload, 1) := by decide +kernel
theorem d2k0n2_35 : decode prog_61_method_6_code 35 = .ok (.invokevirtual 58, 3) := by decide +kernel
theorem d2k0n2_38 : decode prog_61_method_6_code 38 = .ok (.dstore_n 2, 1) := by decide +kernel
theorem d2k0n2_39 : decode prog_61_method_6_code 39 = .ok (.iinc 4 1, 3) := by decide +kernel
theorem d2k0n2_42 : decode prog_61_method_6_code 42 = .ok (.goto (-20), 3) := by decide +kernel
theorem d2k0n2_45 : decode prog_61_method_6_code 45 = .ok (.dload_n 2, 1) := by decide +kernel
theorem d2k0n2_46 : decode prog_61_method_6_code 46 = .ok (.dreturn, 1) := by decide +kernel
theorem pd_2k0n2_0 : parseMethodDescriptor "(DD)D" = some ⟨[.double, .double], some .double⟩ := by decide +kernel
theorem pn_2k0n2 : plainFor (⟨"com/example/conflux/conflux/select/Aggregation", "aggregate", "([D)D"⟩ : MethodName) = true := plainFor_of_name (by show plainName "com/example/conflux/conflux/select/Aggregation" = true; first | (simp [plainName, overriddenIn]; done) | decide +kernel)
theorem ef_2k0n2 (m : MethodId) (x0 : Addr) (x1 : Addr) : entryFrame m #[(.ref x0), (.ref x1)] 5 = mkF m 0 #[.val (.ref x0), .val (.ref x1), .unset, .unset, .unset] [] := by first | (simp [entryFrame, mkF, argsToLocals, Value.category]; done) | rfl
set_option maxRecDepth 65536 in
set_option maxHeartbeats 40000000 in
theorem rm2k0n2 (l : Launch) (Z : State) (a0 : Array Value) (hw : ∀ d ∈ tables_1, d.before a0 Z = true) (t0 : Addr) (va : Addr) (h0 : Heap) (n0 : Nat) (Z0 : n0 ≤ h0.size) (E_t0 : Exa Z h0 t0 "com/example/conflux/conflux/select/Aggregation") (F_ord : Fld Z h0 t0 "java/lang/Enum" "ordinal" "I" (.int (0 : Int32))) (v0 : UInt64) (v1 : UInt64) (VA : own_Ar Z h0 va .double (List.map Value.double [v0, v1])) (np0 : Jvm.Free.Fl.NoNaN64 (FP.dadd v0 v1)) :
    own_Met l (⟨"com/example/conflux/conflux/select/Aggregation", "aggregate", "([D)D"⟩ : MethodName) prog_61_method_6_code 5 (some .double) ({ frames := 2, cells := 0, slots := 0, locals := 28 } : Room) Z [] #[(.ref t0), (.ref va)] h0 (own_P (some (.double (FP.dadd v0 v1))) h0 n0) := by
  refine own_enter pn_2k0n2 ?_
  intro p e s m below meth c s₁ hx hby hml hown hnm hret hlk hZ e0 X0
  rw [ef_2k0n2]
  have N0 := Fr.nil n0
  show own_Fin _ _ _ _ _ _ _ (s₁.setTop (mkF m 0 #[.val (.ref t0), .val (.ref va), .unset, .unset, .unset] []))
  refine own_go (fun _ kk => XS.aloadN X0.here hx rfl (hb hby d2k0n2_0) rfl rfl kk) ?_
  show own_Fin _ _ _ _ _ _ _ (s₁.setTop (mkF m 1 #[.val (.ref t0), .val (.ref va), .unset, .unset, .unset] [(.ref va)]))
  refine own_alen X0 hx hZ e0 VA (hb hby d2k0n2_1) ?_
  show own_Fin _ _ _ _ _ _ _ (s₁.setTop (mkF m 2 #[.val (.ref t0), .val (.ref va), .unset, .unset, .unset] [(.int (2 : Int32))]))
  refine own_go (fun _ kk => XS.ifYes X0.here hx rfl (pc0 := 2) (pc' := 15) rfl (hb hby d2k0n2_2) rfl (XT.i0_ne_t (by decide)) (by decide) (by decide) (XS.aloadN X0.here hx rfl (hb hby d2k0n2_15) rfl rfl (XS.iconst X0.here hx rfl (hb hby d2k0n2_16) kk))) ?_
  show own_Fin _ _ _ _ _ _ _ (s₁.setTop (mkF m 17 #[.val (.ref t0), .val (.ref va), .unset, .unset, .unset] [(.int (0 : Int32)), (.ref va)]))
  refine own_ldD X0 hx hZ e0 VA (by decide) (by show (0 : Int32).toNatClampNeg < 2; decide) (hb hby d2k0n2_17) ?_
  show own_Fin _ _ _ _ _ _ _ (s₁.setTop (mkF m 18 #[.val (.ref t0), .val (.ref va), .unset, .unset, .unset] [(.double v0)]))
  refine own_go (fun _ kk => XS.dstoreN X0.here hx rfl (hb hby d2k0n2_18) rfl (l' := #[.val (.ref t0), .val (.ref va), .val (.double v0), .second, .unset]) rfl (XS.iconst X0.here hx rfl (hb hby d2k0n2_19) (XS.istore X0.here hx rfl (hb hby d2k0n2_20) rfl (l' := #[.val (.ref t0), .val (.ref va), .val (.double v0), .second, .val (.int (1 : Int32))]) rfl (XS.iload X0.here hx rfl (hb hby d2k0n2_22) rfl (XS.aloadN X0.here hx rfl (hb hby d2k0n2_24) rfl rfl kk))))) ?_
  show own_Fin _ _ _ _ _ _ _ (s₁.setTop (mkF m 25 #[.val (.ref t0), .val (.ref va), .val (.double v0), .second, .val (.int (1 : Int32))] [(.ref va), (.int (1 : Int32))]))
  refine own_alen X0 hx hZ e0 VA (hb hby d2k0n2_25) ?_
  show own_Fin _ _ _ _ _ _ _ (s₁.setTop (mkF m 26 #[.val (.ref t0), .val (.ref va), .val (.double v0), .second, .val (.int (1 : Int32))] [(.int (2 : Int32)), (.int (1 : Int32))]))
  refine own_go (fun _ kk => XS.icmpNo X0.here hx rfl (hb hby d2k0n2_26) rfl (XT.ii_ge_f (by decide)) (XS.aloadN X0.here hx rfl (hb hby d2k0n2_29) rfl rfl (XS.dloadN X0.here hx rfl (hb hby d2k0n2_30) rfl (XS.aloadN X0.here hx rfl (hb hby d2k0n2_31) rfl rfl (XS.iload X0.here hx rfl (hb hby d2k0n2_32) rfl kk))))) ?_
  show own_Fin _ _ _ _ _ _ _ (s₁.setTop (mkF m 34 #[.val (.ref t0), .val (.ref va), .val (.double v0), .second, .val (.int (1 : Int32))] [(.int (1 : Int32)), (.ref va), (.double v0), (.ref t0)]))
  refine own_ldD X0 hx hZ e0 VA (by decide) (by show (1 : Int32).toNatClampNeg < 2; decide) (hb hby d2k0n2_34) ?_
  show own_Fin _ _ _ _ _ _ _ (s₁.setTop (mkF m 35 #[.val (.ref t0), .val (.ref va), .val (.double v0), .second, .val (.int (1 : Int32))] [(.double v1), (.double v0), (.ref t0)]))
  refine own_callP X0 hx hZ hown (hw _ (List.mem_of_getElem? (i := 19) rfl)) (hw _ (List.mem_of_getElem? (i := 20) rfl)) (own_selP (z := (⟨"com/example/conflux/conflux/select/Aggregation", "aggregate", "([D)D"⟩ : MethodName)) rfl (hw _ (List.mem_of_getElem? (i := 12) rfl)) (hw _ (List.mem_of_getElem? (i := 20) rfl)) (hw _ (List.mem_of_getElem? (i := 21) rfl)) (hw _ (List.mem_of_getElem? (i := 11) rfl)) (by decide)) (hw _ (List.mem_of_getElem? (i := 21) rfl)) (hw _ (List.mem_of_getElem? (i := 22) rfl)) (hw _ (List.mem_of_getElem? (i := 6) rfl)) (by decide) (rm4o0 l Z a0 hw t0 v0 v1 h0 n0 Z0 E_t0 F_ord np0) e0 E_t0 (argsL := [(.double v0), (.double v1)]) (rest := []) rfl rfl (by rw [hml]; rfl) (lenOf pd_2k0n2_0 rfl) (hb hby d2k0n2_35) (W := 0) (Nat.le_of_eq rfl) (by decide) (by decide) (by decide) (by decide) ?_
  rintro v1 T1 L1 X1 ⟨rfl, M1, e1⟩
  have N1 := Fr.app N0 M1
  show own_Fin _ _ _ _ _ _ _ (T1.setTop (mkF m 38 #[.val (.ref t0), .val (.ref va), .val (.double v0), .second, .val (.int (1 : Int32))] [(.double (FP.dadd v0 v1))]))
  refine own_go (fun _ kk => XS.dstoreN X1.here hx rfl (hb hby d2k0n2_38) rfl (l' := #[.val (.ref t0), .val (.ref va), .val (.double (FP.dadd v0 v1)), .second, .val (.int (1 : Int32))]) rfl (XS.iinc X1.here hx rfl (hb hby d2k0n2_39) rfl (l' := #[.val (.ref t0), .val (.ref va), .val (.double (FP.dadd v0 v1)), .second, .val (.int (2 : Int32))]) rfl (XS.goto X1.here hx rfl (pc0 := 42) (pc' := 22) rfl (hb hby d2k0n2_42) (by decide) (by decide) (XS.iload X1.here hx rfl (hb hby d2k0n2_22) rfl (XS.aloadN X1.here hx rfl (hb hby d2k0n2_24) rfl rfl kk))))) ?_
  show own_Fin _ _ _ _ _ _ _ (T1.setTop (mkF m 25 #[.val (.ref t0), .val (.ref va), .val (.double (FP.dadd v0 v1)), .second, .val (.int (2 : Int32))] [(.ref va), (.int (2 : Int32))]))
  refine own_alen X1 hx hZ e1 VA (hb hby d2k0n2_25) ?_
  show own_Fin _ _ _ _ _ _ _ (T1.setTop (mkF m 26 #[.val (.ref t0), .val (.ref va), .val (.double (FP.dadd v0 v1)), .second, .val (.int (2 : Int32))] [(.int (2 : Int32)), (.int (2 : Int32))]))
  refine own_go (fun _ kk => XS.icmpYes X1.here hx rfl (pc0 := 26) (pc' := 45) rfl (hb hby d2k0n2_26) rfl (XT.ii_ge_t (by decide)) (by decide) (by decide) (XS.dloadN X1.here hx rfl (hb hby d2k0n2_45) rfl kk)) ?_
  show own_Fin _ _ _ _ _ _ _ (T1.setTop (mkF m 46 #[.val (.ref t0), .val (.ref va), .val (.double (FP.dadd v0 v1)), .second, .val (.int (2 : Int32))] [(.double (FP.dadd v0 v1))]))
  exact own_retD X1 hx hlk hret (hb hby d2k0n2_46) (by decide) (by decide) ⟨rfl, N1, e1⟩

theorem d2k0n3_0 : decode prog_61_method_6_code 0 = .ok (.aload_n 1, 1) := by decide +kernel
theorem d2k0n3_1 : decode prog_61_method_6_code 1 = .ok (.arraylength, 1) := by decide +kernel
theorem d2k0n3_2 : decode prog_61_method_6_code 2 = .ok (.ifCond .ne 13, 3) := by decide +kernel
theorem d2k0n3_15 : decode prog_61_method_6_code 15 = .ok (.aload_n 1, 1) := by decide +kernel
theorem d2k0n3_16 : decode prog_61_method_6_code 16 = .ok (.iconst 0, 1) := by decide +kernel
theorem d2k0n3_17 : decode prog_61_method_6_code 17 = .ok (.daload, 1) := by decide +kernel
theorem d2k0n3_18 : decode prog_61_method_6_code 18 = .ok (.dstore_n 2, 1) := by decide +kernel
theorem d2k0n3_19 : decode prog_61_method_6_code 19 = .ok (.iconst 1, 1) := by decide +kernel
theorem d2k0n3_20 : decode prog_61_method_6_code 20 = .ok (.istore 4, 2) := by decide +kernel
theorem d2k0n3_22 : decode prog_61_method_6_code 22 = .ok (.iload 4, 2) := by decide +kernel
theorem d2k0n3_24 : decode prog_61_method_6_code 24 = .ok (.aload_n 1, 1) := by decide +kernel
theorem d2k0n3_25 : decode prog_61_method_6_code 25 = .ok (.arraylength, 1) := by decide +kernel
theorem d2k0n3_26 : decode prog_61_method_6_code 26 = .ok (.if_icmp .ge 19, 3) := by decide +kernel
theorem d2k0n3_29 : decode prog_61_method_6_code 29 = .ok (.aload_n 0, 1) := by decide +kernel
theorem d2k0n3_30 : decode prog_61_method_6_code 30 = .ok (.dload_n 2, 1) := by decide +kernel
theorem d2k0n3_31 : decode prog_61_method_6_code 31 = .ok (.aload_n 1, 1) := by decide +kernel
theorem d2k0n3_32 : decode prog_61_method_6_code 32 = .ok (.iload 4, 2) := by decide +kernel
theorem d2k0n3_34 : decode prog_61_method_6_code 34 = .ok (.daload, 1) := by decide +kernel
theorem d2k0n3_35 : decode prog_61_method_6_code 35 = .ok (.invokevirtual 58, 3) := by decide +kernel
theorem d2k0n3_38 : decode prog_61_method_6_code 38 = .ok (.dstore_n 2, 1) := by decide +kernel
theorem d2k0n3_39 : decode prog_61_method_6_code 39 = .ok (.iinc 4 1, 3) := by decide +kernel
theorem d2k0n3_42 : decode prog_61_method_6_code 42 = .ok (.goto (-20), 3) := by decide +kernel
theorem d2k0n3_45 : decode prog_61_method_6_code 45 = .ok (.dload_n 2, 1) := by decide +kernel
theorem d2k0n3_46 : decode prog_61_method_6_code 46 = .ok (.dreturn, 1) := by decide +kernel
theorem pd_2k0n3_0 : parseMethodDescriptor "(DD)D" = some ⟨[.double, .double], some .double⟩ := by decide +kernel
theorem pn_2k0n3 : plainFor (⟨"com/example/conflux/conflux/select/Aggregation", "aggregate", "([D)D"⟩ : MethodName) = true := plainFor_of_name (by show plainName "com/example/conflux/conflux/select/Aggregation" = true; first | (simp [plainName, overriddenIn]; done) | decide +kernel)
theorem ef_2k0n3 (m : MethodId) (x0 : Addr) (x1 : Addr) : entryFrame m #[(.ref x0), (.ref x1)] 5 = mkF m 0 #[.val (.ref x0), .val (.ref x1), .unset, .unset, .unset] [] := by first | (simp [entryFrame, mkF, argsToLocals, Value.category]; done) | rfl
set_option maxRecDepth 65536 in
set_option maxHeartbeats 40000000 in
theorem rm2k0n3 (l : Launch) (Z : State) (a0 : Array Value) (hw : ∀ d ∈ tables_1, d.before a0 Z = true) (t0 : Addr) (va : Addr) (h0 : Heap) (n0 : Nat) (Z0 : n0 ≤ h0.size) (E_t0 : Exa Z h0 t0 "com/example/conflux/conflux/select/Aggregation") (F_ord : Fld Z h0 t0 "java/lang/Enum" "ordinal" "I" (.int (0 : Int32))) (v0 : UInt64) (v1 : UInt64) (v2 : UInt64) (VA : own_Ar Z h0 va .double (List.map Value.double [v0, v1, v2])) (np0 : Jvm.Free.Fl.NoNaN64 (FP.dadd v0 v1)) (np1 : Jvm.Free.Fl.NoNaN64 (FP.dadd (FP.dadd v0 v1) v2)) :
    own_Met l (⟨"com/example/conflux/conflux/select/Aggregation", "aggregate", "([D)D"⟩ : MethodName) prog_61_method_6_code 5 (some .double) ({ frames := 2, cells := 0, slots := 0, locals := 28 } : Room) Z [] #[(.ref t0), (.ref va)] h0 (own_P (some (.double (FP.dadd (FP.dadd v0 v1) v2))) h0 n0) := by
  refine own_enter pn_2k0n3 ?_
  intro p e s m below meth c s₁ hx hby hml hown hnm hret hlk hZ e0 X0
  rw [ef_2k0n3]
  have N0 := Fr.nil n0
  show own_Fin _ _ _ _ _ _ _ (s₁.setTop (mkF m 0 #[.val (.ref t0), .val (.ref va), .unset, .unset, .unset] []))
  refine own_go (fun _ kk => XS.aloadN X0.here hx rfl (hb hby d2k0n3_0) rfl rfl kk) ?_
  show own_Fin _ _ _ _ _ _ _ (s₁.setTop (mkF m 1 #[.val (.ref t0), .val (.ref va), .unset, .unset, .unset] [(.ref va)]))
  refine own_alen X0 hx hZ e0 VA (hb hby d2k0n3_1) ?_
  show own_Fin _ _ _ _ _ _ _ (s₁.setTop (mkF m 2 #[.val (.ref t0), .val (.ref va), .unset, .unset, .unset] [(.int (3 : Int32))]))
  refine own_go (fun _ kk => XS.ifYes X0.here hx rfl (pc0 := 2) (pc' := 15) rfl (hb hby d2k0n3_2) rfl (XT.i0_ne_t (by decide)) (by decide) (by decide) (XS.aloadN X0.here hx rfl (hb hby d2k0n3_15) rfl rfl (XS.iconst X0.here hx rfl (hb hby d2k0n3_16) kk))) ?_
  show own_Fin _ _ _ _ _ _ _ (s₁.setTop (mkF m 17 #[.val (.ref t0), .val (.ref va), .unset, .unset, .unset] [(.int (0 : Int32)), (.ref va)]))
  refine own_ldD X0 hx hZ e0 VA (by decide) (by show (0 : Int32).toNatClampNeg < 3; decide) (hb hby d2k0n3_17) ?_
  show own_Fin _ _ _ _ _ _ _ (s₁.setTop (mkF m 18 #[.val (.ref t0), .val (.ref va), .unset, .unset, .unset] [(.double v0)]))
  refine own_go (fun _ kk => XS.dstoreN X0.here hx rfl (hb hby d2k0n3_18) rfl (l' := #[.val (.ref t0), .val (.ref va), .val (.double v0), .second, .unset]) rfl (XS.iconst X0.here hx rfl (hb hby d2k0n3_19) (XS.istore X0.here hx rfl (hb hby d2k0n3_20) rfl (l' := #[.val (.ref t0), .val (.ref va), .val (.double v0), .second, .val (.int (1 : Int32))]) rfl (XS.iload X0.here hx rfl (hb hby d2k0n3_22) rfl (XS.aloadN X0.here hx rfl (hb hby d2k0n3_24) rfl rfl kk))))) ?_
  show own_Fin _ _ _ _ _ _ _ (s₁.setTop (mkF m 25 #[.val (.ref t0), .val (.ref va), .val (.double v0), .second, .val (.int (1 : Int32))] [(.ref va), (.int (1 : Int32))]))
  refine own_alen X0 hx hZ e0 VA (hb hby d2k0n3_25) ?_
  show own_Fin _ _ _ _ _ _ _ (s₁.setTop (mkF m 26 #[.val (.ref t0), .val (.ref va), .val (.double v0), .second, .val (.int (1 : Int32))] [(.int (3 : Int32)), (.int (1 : Int32))]))
  refine own_go (fun _ kk => XS.icmpNo X0.here hx rfl (hb hby d2k0n3_26) rfl (XT.ii_ge_f (by decide)) (XS.aloadN X0.here hx rfl (hb hby d2k0n3_29) rfl rfl (XS.dloadN X0.here hx rfl (hb hby d2k0n3_30) rfl (XS.aloadN X0.here hx rfl (hb hby d2k0n3_31) rfl rfl (XS.iload X0.here hx rfl (hb hby d2k0n3_32) rfl kk))))) ?_
  show own_Fin _ _ _ _ _ _ _ (s₁.setTop (mkF m 34 #[.val (.ref t0), .val (.ref va), .val (.double v0), .second, .val (.int (1 : Int32))] [(.int (1 : Int32)), (.ref va), (.double v0), (.ref t0)]))
  refine own_ldD X0 hx hZ e0 VA (by decide) (by show (1 : Int32).toNatClampNeg < 3; decide) (hb hby d2k0n3_34) ?_
  show own_Fin _ _ _ _ _ _ _ (s₁.setTop (mkF m 35 #[.val (.ref t0), .val (.ref va), .val (.double v0), .second, .val (.int (1 : Int32))] [(.double v1), (.double v0), (.ref t0)]))
  refine own_callP X0 hx hZ hown (hw _ (List.mem_of_getElem? (i := 19) rfl)) (hw _ (List.mem_of_getElem? (i := 20) rfl)) (own_selP (z := (⟨"com/example/conflux/conflux/select/Aggregation", "aggregate", "([D)D"⟩ : MethodName)) rfl (hw _ (List.mem_of_getElem? (i := 12) rfl)) (hw _ (List.mem_of_getElem? (i := 20) rfl)) (hw _ (List.mem_of_getElem? (i := 21) rfl)) (hw _ (List.mem_of_getElem? (i := 11) rfl)) (by decide)) (hw _ (List.mem_of_getElem? (i := 21) rfl)) (hw _ (List.mem_of_getElem? (i := 22) rfl)) (hw _ (List.mem_of_getElem? (i := 6) rfl)) (by decide) (rm4o0 l Z a0 hw t0 v0 v1 h0 n0 Z0 E_t0 F_ord np0) e0 E_t0 (argsL := [(.double v0), (.double v1)]) (rest := []) rfl rfl (by rw [hml]; rfl) (lenOf pd_2k0n3_0 rfl) (hb hby d2k0n3_35) (W := 0) (Nat.le_of_eq rfl) (by decide) (by decide) (by decide) (by decide) ?_
  rintro v1 T1 L1 X1 ⟨rfl, M1, e1⟩
  have N1 := Fr.app N0 M1
  show own_Fin _ _ _ _ _ _ _ (T1.setTop (mkF m 38 #[.val (.ref t0), .val (.ref va), .val (.double v0), .second, .val (.int (1 : Int32))] [(.double (FP.dadd v0 v1))]))
  refine own_go (fun _ kk => XS.dstoreN X1.here hx rfl (hb hby d2k0n3_38) rfl (l' := #[.val (.ref t0), .val (.ref va), .val (.double (FP.dadd v0 v1)), .second, .val (.int (1 : Int32))]) rfl (XS.iinc X1.here hx rfl (hb hby d2k0n3_39) rfl (l' := #[.val (.ref t0), .val (.ref va), .val (.double (FP.dadd v0 v1)), .second, .val (.int (2 : Int32))]) rfl (XS.goto X1.here hx rfl (pc0 := 42) (pc' := 22) rfl (hb hby d2k0n3_42) (by decide) (by decide) (XS.iload X1.here hx rfl (hb hby d2k0n3_22) rfl (XS.aloadN X1.here hx rfl (hb hby d2k0n3_24) rfl rfl kk))))) ?_
  show own_Fin _ _ _ _ _ _ _ (T1.setTop (mkF m 25 #[.val (.ref t0), .val (.ref va), .val (.double (FP.dadd v0 v1)), .second, .val (.int (2 : Int32))] [(.ref va), (.int (2 : Int32))]))
  refine own_alen X1 hx hZ e1 VA (hb hby d2k0n3_25) ?_
  show own_Fin _ _ _ _ _ _ _ (T1.setTop (mkF m 26 #[.val (.ref t0), .val (.ref va), .val (.double (FP.dadd v0 v1)), .second, .val (.int (2 : Int32))] [(.int (3 : Int32)), (.int (2 : Int32))]))
  refine own_go (fun _ kk => XS.icmpNo X1.here hx rfl (hb hby d2k0n3_26) rfl (XT.ii_ge_f (by decide)) (XS.aloadN X1.here hx rfl (hb hby d2k0n3_29) rfl rfl (XS.dloadN X1.here hx rfl (hb hby d2k0n3_30) rfl (XS.aloadN X1.here hx rfl (hb hby d2k0n3_31) rfl rfl (XS.iload X1.here hx rfl (hb hby d2k0n3_32) rfl kk))))) ?_
  show own_Fin _ _ _ _ _ _ _ (T1.setTop (mkF m 34 #[.val (.ref t0), .val (.ref va), .val (.double (FP.dadd v0 v1)), .second, .val (.int (2 : Int32))] [(.int (2 : Int32)), (.ref va), (.double (FP.dadd v0 v1)), (.ref t0)]))
  refine own_ldD X1 hx hZ e1 VA (by decide) (by show (2 : Int32).toNatClampNeg < 3; decide) (hb hby d2k0n3_34) ?_
  show own_Fin _ _ _ _ _ _ _ (T1.setTop (mkF m 35 #[.val (.ref t0), .val (.ref va), .val (.double (FP.dadd v0 v1)), .second, .val (.int (2 : Int32))] [(.double v2), (.double (FP.dadd v0 v1)), (.ref t0)]))
  refine own_callP X1 hx hZ hown (hw _ (List.mem_of_getElem? (i := 19) rfl)) (hw _ (List.mem_of_getElem? (i := 20) rfl)) (own_selP (z := (⟨"com/example/conflux/conflux/select/Aggregation", "aggregate", "([D)D"⟩ : MethodName)) rfl (hw _ (List.mem_of_getElem? (i := 12) rfl)) (hw _ (List.mem_of_getElem? (i := 20) rfl)) (hw _ (List.mem_of_getElem? (i := 21) rfl)) (hw _ (List.mem_of_getElem? (i := 11) rfl)) (by decide)) (hw _ (List.mem_of_getElem? (i := 21) rfl)) (hw _ (List.mem_of_getElem? (i := 22) rfl)) (hw _ (List.mem_of_getElem? (i := 6) rfl)) (by decide) (rm4o0 l Z a0 hw t0 (FP.dadd v0 v1) v2 h0 n0 Z0 E_t0 F_ord np1) e1 E_t0 (argsL := [(.double (FP.dadd v0 v1)), (.double v2)]) (rest := []) rfl rfl (by rw [hml]; rfl) (lenOf pd_2k0n3_0 rfl) (hb hby d2k0n3_35) (W := 0) (Nat.le_of_eq rfl) (by decide) (by decide) (by decide) (by decide) ?_
  rintro v2 T2 L2 X2 ⟨rfl, M2, e2⟩
  have N2 := Fr.app N1 M2
  show own_Fin _ _ _ _ _ _ _ (T2.setTop (mkF m 38 #[.val (.ref t0), .val (.ref va), .val (.double (FP.dadd v0 v1)), .second, .val (.int (2 : Int32))] [(.double (FP.dadd (FP.dadd v0 v1) v2))]))
  refine own_go (fun _ kk => XS.dstoreN X2.here hx rfl (hb hby d2k0n3_38) rfl (l' := #[.val (.ref t0), .val (.ref va), .val (.double (FP.dadd (FP.dadd v0 v1) v2)), .second, .val (.int (2 : Int32))]) rfl (XS.iinc X2.here hx rfl (hb hby d2k0n3_39) rfl (l' := #[.val (.ref t0), .val (.ref va), .val (.double (FP.dadd (FP.dadd v0 v1) v2)), .second, .val (.int (3 : Int32))]) rfl (XS.goto X2.here hx rfl (pc0 := 42) (pc' := 22) rfl (hb hby d2k0n3_42) (by decide) (by decide) (XS.iload X2.here hx rfl (hb hby d2k0n3_22) rfl (XS.aloadN X2.here hx rfl (hb hby d2k0n3_24) rfl rfl kk))))) ?_
  show own_Fin _ _ _ _ _ _ _ (T2.setTop (mkF m 25 #[.val (.ref t0), .val (.ref va), .val (.double (FP.dadd (FP.dadd v0 v1) v2)), .second, .val (.int (3 : Int32))] [(.ref va), (.int (3 : Int32))]))
  refine own_alen X2 hx hZ e2 VA (hb hby d2k0n3_25) ?_
  show own_Fin _ _ _ _ _ _ _ (T2.setTop (mkF m 26 #[.val (.ref t0), .val (.ref va), .val (.double (FP.dadd (FP.dadd v0 v1) v2)), .second, .val (.int (3 : Int32))] [(.int (3 : Int32)), (.int (3 : Int32))]))
  refine own_go (fun _ kk => XS.icmpYes X2.here hx rfl (pc0 := 26) (pc' := 45) rfl (hb hby d2k0n3_26) rfl (XT.ii_ge_t (by decide)) (by decide) (by decide) (XS.dloadN X2.here hx rfl (hb hby d2k0n3_45) rfl kk)) ?_
  show own_Fin _ _ _ _ _ _ _ (T2.setTop (mkF m 46 #[.val (.ref t0), .val (.ref va), .val (.double (FP.dadd (FP.dadd v0 v1) v2)), .second, .val (.int (3 : Int32))] [(.double (FP.dadd (FP.dadd v0 v1) v2))]))
  exact own_retD X2 hx hlk hret (hb hby d2k0n3_46) (by decide) (by decide) ⟨rfl, N2, e2⟩

theorem d2k1n1_0 : decode prog_61_method_6_code 0 = .ok (.aload_n 1, 1) := by decide +kernel
theorem d2k1n1_1 : decode prog_61_method_6_code 1 = .ok (.arraylength, 1) := by decide +kernel
theorem d2k1n1_2 : decode prog_61_method_6_code 2 = .ok (.ifCond .ne 13, 3) := by decide +kernel
theorem d2k1n1_15 : decode prog_61_method_6_code 15 = .ok (.aload_n 1, 1) := by decide +kernel
theorem d2k1n1_16 : decode prog_61_method_6_code 16 = .ok (.iconst 0, 1) := by decide +kernel
theorem d2k1n1_17 : decode prog_61_method_6_code 17 = .ok (.daload, 1) := by decide +kernel
theorem d2k1n1_18 : decode prog_61_method_6_code 18 = .ok (.dstore_n 2, 1) := by decide +kernel
theorem d2k1n1_19 : decode prog_61_method_6_code 19 = .ok (.iconst 1, 1) := by decide +kernel
theorem d2k1n1_20 : decode prog_61_method_6_code 20 = .ok (.istore 4, 2) := by decide +kernel
theorem d2k1n1_22 : decode prog_61_method_6_code 22 = .ok (.iload 4, 2) := by decide +kernel
theorem d2k1n1_24 : decode prog_61_method_6_code 24 = .ok (.aload_n 1, 1) := by decide +kernel
theorem d2k1n1_25 : decode prog_61_method_6_code 25 = .ok (.arraylength, 1) := by decide +kernel
theorem d2k1n1_26 : decode prog_61_method_6_code 26 = .ok (.if_icmp .ge 19, 3) := by decide +kernel
theorem d2k1n1_45 : decode prog_61_method_6_code 45 = .ok (.dload_n 2, 1) := by decide +kernel
theorem d2k1n1_46 : decode prog_61_method_6_code 46 = .ok (.dreturn, 1) := by decide +kernel
theorem pn_2k1n1 : plainFor (⟨"com/example/conflux/conflux/select/Aggregation", "aggregate", "([D)D"⟩ : MethodName) = true := plainFor_of_name (by show plainName "com/example/conflux/conflux/select/Aggregation" = true; first | (simp [plainName, overriddenIn]; done) | decide +kernel)
theorem ef_2k1n1 (m : MethodId) (x0 : Addr) (x1 : Addr) : entryFrame m #[(.ref x0), (.ref x1)] 5 = mkF m 0 #[.val (.ref x0), .val (.ref x1), .unset, .unset, .unset] [] := by first | (simp [entryFrame, mkF, argsToLocals, Value.category]; done) | rfl
set_option maxRecDepth 65536 in
set_option maxHeartbeats 40000000 in
theorem rm2k1n1 (l : Launch) (Z : State) (a0 : Array Value) (hw : ∀ d ∈ tables_1, d.before a0 Z = true) (t0 : Addr) (va : Addr) (h0 : Heap) (n0 : Nat) (Z0 : n0 ≤ h0.size) (E_t0 : Exa Z h0 t0 "com/example/conflux/conflux/select/Aggregation") (F_ord : Fld Z h0 t0 "java/lang/Enum" "ordinal" "I" (.int (1 : Int32))) (v0 : UInt64) (VA : own_Ar Z h0 va .double (List.map Value.double [v0]))  :
    own_Met l (⟨"com/example/conflux/conflux/select/Aggregation", "aggregate", "([D)D"⟩ : MethodName) prog_61_method_6_code 5 (some .double) ({ frames := 0, cells := 0, slots := 0, locals := 0 } : Room) Z [] #[(.ref t0), (.ref va)] h0 (own_P (some (.double v0)) h0 n0) := by
  refine own_enter pn_2k1n1 ?_
  intro p e s m below meth c s₁ hx hby hml hown hnm hret hlk hZ e0 X0
  rw [ef_2k1n1]
  have N0 := Fr.nil n0
  show own_Fin _ _ _ _ _ _ _ (s₁.setTop (mkF m 0 #[.val (.ref t0), .val (.ref va), .unset, .unset, .unset] []))
  refine own_go (fun _ kk => XS.aloadN X0.here hx rfl (hb hby d2k1n1_0) rfl rfl kk) ?_
  show own_Fin _ _ _ _ _ _ _ (s₁.setTop (mkF m 1 #[.val (.ref t0), .val (.ref va), .unset, .unset, .unset] [(.ref va)]))
  refine own_alen X0 hx hZ e0 VA (hb hby d2k1n1_1) ?_
  show own_Fin _ _ _ _ _ _ _ (s₁.setTop (mkF m 2 #[.val (.ref t0), .val (.ref va), .unset, .unset, .unset] [(.int (1 : Int32))]))
  refine own_go (fun _ kk => XS.ifYes X0.here hx rfl (pc0 := 2) (pc' := 15) rfl (hb hby d2k1n1_2) rfl (XT.i0_ne_t (by decide)) (by decide) (by decide) (XS.aloadN X0.here hx rfl (hb hby d2k1n1_15) rfl rfl (XS.iconst X0.here hx rfl (hb hby d2k1n1_16) kk))) ?_
  show own_Fin _ _ _ _ _ _ _ (s₁.setTop (mkF m 17 #[.val (.ref t0), .val (.ref va), .unset, .unset, .unset] [(.int (0 : Int32)), (.ref va)]))
  refine own_ldD X0 hx hZ e0 VA (by decide) (by show (0 : Int32).toNatClampNeg < 1; decide) (hb hby d2k1n1_17) ?_
  show own_Fin _ _ _ _ _ _ _ (s₁.setTop (mkF m 18 #[.val (.ref t0), .val (.ref va), .unset, .unset, .unset] [(.double v0)]))
  refine own_go (fun _ kk => XS.dstoreN X0.here hx rfl (hb hby d2k1n1_18) rfl (l' := #[.val (.ref t0), .val (.ref va), .val (.double v0), .second, .unset]) rfl (XS.iconst X0.here hx rfl (hb hby d2k1n1_19) (XS.istore X0.here hx rfl (hb hby d2k1n1_20) rfl (l' := #[.val (.ref t0), .val (.ref va), .val (.double v0), .second, .val (.int (1 : Int32))]) rfl (XS.iload X0.here hx rfl (hb hby d2k1n1_22) rfl (XS.aloadN X0.here hx rfl (hb hby d2k1n1_24) rfl rfl kk))))) ?_
  show own_Fin _ _ _ _ _ _ _ (s₁.setTop (mkF m 25 #[.val (.ref t0), .val (.ref va), .val (.double v0), .second, .val (.int (1 : Int32))] [(.ref va), (.int (1 : Int32))]))
  refine own_alen X0 hx hZ e0 VA (hb hby d2k1n1_25) ?_
  show own_Fin _ _ _ _ _ _ _ (s₁.setTop (mkF m 26 #[.val (.ref t0), .val (.ref va), .val (.double v0), .second, .val (.int (1 : Int32))] [(.int (1 : Int32)), (.int (1 : Int32))]))
  refine own_go (fun _ kk => XS.icmpYes X0.here hx rfl (pc0 := 26) (pc' := 45) rfl (hb hby d2k1n1_26) rfl (XT.ii_ge_t (by decide)) (by decide) (by decide) (XS.dloadN X0.here hx rfl (hb hby d2k1n1_45) rfl kk)) ?_
  show own_Fin _ _ _ _ _ _ _ (s₁.setTop (mkF m 46 #[.val (.ref t0), .val (.ref va), .val (.double v0), .second, .val (.int (1 : Int32))] [(.double v0)]))
  exact own_retD X0 hx hlk hret (hb hby d2k1n1_46) (by decide) (by decide) ⟨rfl, N0, e0⟩

theorem d2k1n2_0 : decode prog_61_method_6_code 0 = .ok (.aload_n 1, 1) := by decide +kernel
theorem d2k1n2_1 : decode prog_61_method_6_code 1 = .ok (.arraylength, 1) := by decide +kernel
theorem d2k1n2_2 : decode prog_61_method_6_code 2 = .ok (.ifCond .ne 13, 3) := by decide +kernel
theorem d2k1n2_15 : decode prog_61_method_6_code 15 = .ok (.aload_n 1, 1) := by decide +kernel
theorem d2k1n2_16 : decode prog_61_method_6_code 16 = .ok (.iconst 0, 1) := by decide +kernel
theorem d2k1n2_17 : decode prog_61_method_6_code 17 = .ok (.daload, 1) := by decide +kernel
theorem d2k1n2_18 : decode prog_61_method_6_code 18 = .ok (.dstore_n 2, 1) := by decide +kernel
theorem d2k1n2_19 : decode prog_61_method_6_code 19 = .ok (.iconst 1, 1) := by decide +kernel
theorem d2k1n2_20 : decode prog_61_method_6_code 20 = .ok (.istore 4, 2) := by decide +kernel
theorem d2k1n2_22 : decode prog_61_method_6_code 22 = .ok (.iload 4, 2) := by decide +kernel
theorem d2k1n2_24 : decode prog_61_method_6_code 24 = .ok (.aload_n 1, 1) := by decide +kernel
theorem d2k1n2_25 : decode prog_61_method_6_code 25 = .ok (.arraylength, 1) := by decide +kernel
theorem d2k1n2_26 : decode prog_61_method_6_code 26 = .ok (.if_icmp .ge 19, 3) := by decide +kernel
theorem d2k1n2_29 : decode prog_61_method_6_code 29 = .ok (.aload_n 0, 1) := by decide +kernel
theorem d2k1n2_30 : decode prog_61_method_6_code 30 = .ok (.dload_n 2, 1) := by decide +kernel
theorem d2k1n2_31 : decode prog_61_method_6_code 31 = .ok (.aload_n 1, 1) := by decide +kernel
theorem d2k1n2_32 : decode prog_61_method_6_code 32 = .ok (.iload 4, 2) := by decide +kernel
theorem d2k1n2_34 : decode prog_61_method_6_code 34 = .ok (.daload, 1) := by decide +kernel
theorem d2k1n2_35 : decode prog_61_method_6_code 35 = .ok (.invokevirtual 58, 3) := by decide +kernel
theorem d2k1n2_38 : decode prog_61_method_6_code 38 = .ok (.dstore_n 2, 1) := by decide +kernel
theorem d2k1n2_39 : decode prog_61_method_6_code 39 = .ok (.iinc 4 1, 3) := by decide +kernel
theorem d2k1n2_42 : decode prog_61_method_6_code 42 = .ok (.goto (-20), 3) := by decide +kernel
theorem d2k1n2_45 : decode prog_61_method_6_code 45 = .ok (.dload_n 2, 1) := by decide +kernel
theorem d2k1n2_46 : decode prog_61_method_6_code 46 = .ok (.dreturn, 1) := by decide +kernel
theorem pd_2k1n2_0 : parseMethodDescriptor "(DD)D" = some ⟨[.double, .double], some .double⟩ := by decide +kernel
theorem pn_2k1n2 : plainFor (⟨"com/example/conflux/conflux/select/Aggregation", "aggregate", "([D)D"⟩ : MethodName) = true := plainFor_of_name (by show plainName "com/example/conflux/conflux/select/Aggregation" = true; first | (simp [plainName, overriddenIn]; done) | decide +kernel)
theorem ef_2k1n2 (m : MethodId) (x0 : Addr) (x1 : Addr) : entryFrame m #[(.ref x0), (.ref x1)] 5 = mkF m 0 #[.val (.ref x0), .val (.ref x1), .unset, .unset, .unset] [] := by first | (simp [entryFrame, mkF, argsToLocals, Value.category]; done) | rfl
set_option maxRecDepth 65536 in
set_option maxHeartbeats 40000000 in
theorem rm2k1n2 (l : Launch) (Z : State) (a0 : Array Value) (hw : ∀ d ∈ tables_1, d.before a0 Z = true) (t0 : Addr) (va : Addr) (h0 : Heap) (n0 : Nat) (Z0 : n0 ≤ h0.size) (E_t0 : Exa Z h0 t0 "com/example/conflux/conflux/select/Aggregation") (F_ord : Fld Z h0 t0 "java/lang/Enum" "ordinal" "I" (.int (1 : Int32))) (v0 : UInt64) (v1 : UInt64) (VA : own_Ar Z h0 va .double (List.map Value.double [v0, v1])) (np0 : Jvm.Free.Fl.NoNaN64 (FP.dmul v0 v1)) :
    own_Met l (⟨"com/example/conflux/conflux/select/Aggregation", "aggregate", "([D)D"⟩ : MethodName) prog_61_method_6_code 5 (some .double) ({ frames := 2, cells := 0, slots := 0, locals := 28 } : Room) Z [] #[(.ref t0), (.ref va)] h0 (own_P (some (.double (FP.dmul v0 v1))) h0 n0) := by
  refine own_enter pn_2k1n2 ?_
  intro p e s m below meth c s₁ hx hby hml hown hnm hret hlk hZ e0 X0
  rw [ef_2k1n2]
  have N0 := Fr.nil n0
  show own_Fin _ _ _ _ _ _ _ (s₁.setTop (mkF m 0 #[.val (.ref t0), .val (.ref va), .unset, .unset, .unset] []))
  refine own_go (fun _ kk => XS.aloadN X0.here hx rfl (hb hby d2k1n2_0) rfl rfl kk) ?_
  show own_Fin _ _ _ _ _ _ _ (s₁.setTop (mkF m 1 #[.val (.ref t0), .val (.ref va), .unset, .unset, .unset] [(.ref va)]))
  refine own_alen X0 hx hZ e0 VA (hb hby d2k1n2_1) ?_
  show own_Fin _ _ _ _ _ _ _ (s₁.setTop (mkF m 2 #[.val (.ref t0), .val (.ref va), .unset, .unset, .unset] [(.int (2 : Int32))]))
  refine own_go (fun _ kk => XS.ifYes X0.here hx rfl (pc0 := 2) (pc' := 15) rfl (hb hby d2k1n2_2) rfl (XT.i0_ne_t (by decide)) (by decide) (by decide) (XS.aloadN X0.here hx rfl (hb hby d2k1n2_15) rfl rfl (XS.iconst X0.here hx rfl (hb hby d2k1n2_16) kk))) ?_
  show own_Fin _ _ _ _ _ _ _ (s₁.setTop (mkF m 17 #[.val (.ref t0), .val (.ref va), .unset, .unset, .unset] [(.int (0 : Int32)), (.ref va)]))
  refine own_ldD X0 hx hZ e0 VA (by decide) (by show (0 : Int32).toNatClampNeg < 2; decide) (hb hby d2k1n2_17) ?_
  show own_Fin _ _ _ _ _ _ _ (s₁.setTop (mkF m 18 #[.val (.ref t0), .val (.ref va), .unset, .unset, .unset] [(.double v0)]))
  refine own_go (fun _ kk => XS.dstoreN X0.here hx rfl (hb hby d2k1n2_18) rfl (l' := #[.val (.ref t0), .val (.ref va), .val (.double v0), .second, .unset]) rfl (XS.iconst X0.here hx rfl (hb hby d2k1n2_19) (XS.istore X0.here hx rfl (hb hby d2k1n2_20) rfl (l' := #[.val (.ref t0), .val (.ref va), .val (.double v0), .second, .val (.int (1 : Int32))]) rfl (XS.iload X0.here hx rfl (hb hby d2k1n2_22) rfl (XS.aloadN X0.here hx rfl (hb hby d2k1n2_24) rfl rfl kk))))) ?_
  show own_Fin _ _ _ _ _ _ _ (s₁.setTop (mkF m 25 #[.val (.ref t0), .val (.ref va), .val (.double v0), .second, .val (.int (1 : Int32))] [(.ref va), (.int (1 : Int32))]))
  refine own_alen X0 hx hZ e0 VA (hb hby d2k1n2_25) ?_
  show own_Fin _ _ _ _ _ _ _ (s₁.setTop (mkF m 26 #[.val (.ref t0), .val (.ref va), .val (.double v0), .second, .val (.int (1 : Int32))] [(.int (2 : Int32)), (.int (1 : Int32))]))
  refine own_go (fun _ kk => XS.icmpNo X0.here hx rfl (hb hby d2k1n2_26) rfl (XT.ii_ge_f (by decide)) (XS.aloadN X0.here hx rfl (hb hby d2k1n2_29) rfl rfl (XS.dloadN X0.here hx rfl (hb hby d2k1n2_30) rfl (XS.aloadN X0.here hx rfl (hb hby d2k1n2_31) rfl rfl (XS.iload X0.here hx rfl (hb hby d2k1n2_32) rfl kk))))) ?_
  show own_Fin _ _ _ _ _ _ _ (s₁.setTop (mkF m 34 #[.val (.ref t0), .val (.ref va), .val (.double v0), .second, .val (.int (1 : Int32))] [(.int (1 : Int32)), (.ref va), (.double v0), (.ref t0)]))
  refine own_ldD X0 hx hZ e0 VA (by decide) (by show (1 : Int32).toNatClampNeg < 2; decide) (hb hby d2k1n2_34) ?_
  show own_Fin _ _ _ _ _ _ _ (s₁.setTop (mkF m 35 #[.val (.ref t0), .val (.ref va), .val (.double v0), .second, .val (.int (1 : Int32))] [(.double v1), (.double v0), (.ref t0)]))
  refine own_callP X0 hx hZ hown (hw _ (List.mem_of_getElem? (i := 19) rfl)) (hw _ (List.mem_of_getElem? (i := 20) rfl)) (own_selP (z := (⟨"com/example/conflux/conflux/select/Aggregation", "aggregate", "([D)D"⟩ : MethodName)) rfl (hw _ (List.mem_of_getElem? (i := 12) rfl)) (hw _ (List.mem_of_getElem? (i := 20) rfl)) (hw _ (List.mem_of_getElem? (i := 21) rfl)) (hw _ (List.mem_of_getElem? (i := 11) rfl)) (by decide)) (hw _ (List.mem_of_getElem? (i := 21) rfl)) (hw _ (List.mem_of_getElem? (i := 22) rfl)) (hw _ (List.mem_of_getElem? (i := 6) rfl)) (by decide) (rm4o1 l Z a0 hw t0 v0 v1 h0 n0 Z0 E_t0 F_ord np0) e0 E_t0 (argsL := [(.double v0), (.double v1)]) (rest := []) rfl rfl (by rw [hml]; rfl) (lenOf pd_2k1n2_0 rfl) (hb hby d2k1n2_35) (W := 0) (Nat.le_of_eq rfl) (by decide) (by decide) (by decide) (by decide) ?_
  rintro v1 T1 L1 X1 ⟨rfl, M1, e1⟩
  have N1 := Fr.app N0 M1
  show own_Fin _ _ _ _ _ _ _ (T1.setTop (mkF m 38 #[.val (.ref t0), .val (.ref va), .val (.double v0), .second, .val (.int (1 : Int32))] [(.double (FP.dmul v0 v1))]))
  refine own_go (fun _ kk => XS.dstoreN X1.here hx rfl (hb hby d2k1n2_38) rfl (l' := #[.val (.ref t0), .val (.ref va), .val (.double (FP.dmul v0 v1)), .second, .val (.int (1 : Int32))]) rfl (XS.iinc X1.here hx rfl (hb hby d2k1n2_39) rfl (l' := #[.val (.ref t0), .val (.ref va), .val (.double (FP.dmul v0 v1)), .second, .val (.int (2 : Int32))]) rfl (XS.goto X1.here hx rfl (pc0 := 42) (pc' := 22) rfl (hb hby d2k1n2_42) (by decide) (by decide) (XS.iload X1.here hx rfl (hb hby d2k1n2_22) rfl (XS.aloadN X1.here hx rfl (hb hby d2k1n2_24) rfl rfl kk))))) ?_
  show own_Fin _ _ _ _ _ _ _ (T1.setTop (mkF m 25 #[.val (.ref t0), .val (.ref va), .val (.double (FP.dmul v0 v1)), .second, .val (.int (2 : Int32))] [(.ref va), (.int (2 : Int32))]))
  refine own_alen X1 hx hZ e1 VA (hb hby d2k1n2_25) ?_
  show own_Fin _ _ _ _ _ _ _ (T1.setTop (mkF m 26 #[.val (.ref t0), .val (.ref va), .val (.double (FP.dmul v0 v1)), .second, .val (.int (2 : Int32))] [(.int (2 : Int32)), (.int (2 : Int32))]))
  refine own_go (fun _ kk => XS.icmpYes X1.here hx rfl (pc0 := 26) (pc' := 45) rfl (hb hby d2k1n2_26) rfl (XT.ii_ge_t (by decide)) (by decide) (by decide) (XS.dloadN X1.here hx rfl (hb hby d2k1n2_45) rfl kk)) ?_
  show own_Fin _ _ _ _ _ _ _ (T1.setTop (mkF m 46 #[.val (.ref t0), .val (.ref va), .val (.double (FP.dmul v0 v1)), .second, .val (.int (2 : Int32))] [(.double (FP.dmul v0 v1))]))
  exact own_retD X1 hx hlk hret (hb hby d2k1n2_46) (by decide) (by decide) ⟨rfl, N1, e1⟩

theorem d2k1n3_0 : decode prog_61_method_6_code 0 = .ok (.aload_n 1, 1) := by decide +kernel
theorem d2k1n3_1 : decode prog_61_method_6_code 1 = .ok (.arraylength, 1) := by decide +kernel
theorem d2k1n3_2 : decode prog_61_method_6_code 2 = .ok (.ifCond .ne 13, 3) := by decide +kernel
theorem d2k1n3_15 : decode prog_61_method_6_code 15 = .ok (.aload_n 1, 1) := by decide +kernel
theorem d2k1n3_16 : decode prog_61_method_6_code 16 = .ok (.iconst 0, 1) := by decide +kernel
theorem d2k1n3_17 : decode prog_61_method_6_code 17 = .ok (.daload, 1) := by decide +kernel
theorem d2k1n3_18 : decode prog_61_method_6_code 18 = .ok (.dstore_n 2, 1) := by decide +kernel
theorem d2k1n3_19 : decode prog_61_method_6_code 19 = .ok (.iconst 1, 1) := by decide +kernel
theorem d2k1n3_20 : decode prog_61_method_6_code 20 = .ok (.istore 4, 2) := by decide +kernel
theorem d2k1n3_22 : decode prog_61_method_6_code 22 = .ok (.iload 4, 2) := by decide +kernel
theorem d2k1n3_24 : decode prog_61_method_6_code 24 = .ok (.aload_n 1, 1) := by decide +kernel
theorem d2k1n3_25 : decode prog_61_method_6_code 25 = .ok (.arraylength, 1) := by decide +kernel
theorem d2k1n3_26 : decode prog_61_method_6_code 26 = .ok (.if_icmp .ge 19, 3) := by decide +kernel
theorem d2k1n3_29 : decode prog_61_method_6_code 29 = .ok (.aload_n 0, 1) := by decide +kernel
theorem d2k1n3_30 : decode prog_61_method_6_code 30 = .ok (.dload_n 2, 1) := by decide +kernel
theorem d2k1n3_31 : decode prog_61_method_6_code 31 = .ok (.aload_n 1, 1) := by decide +kernel
theorem d2k1n3_32 : decode prog_61_method_6_code 32 = .ok (.iload 4, 2) := by decide +kernel
theorem d2k1n3_34 : decode prog_61_method_6_code 34 = .ok (.daload, 1) := by decide +kernel
theorem d2k1n3_35 : decode prog_61_method_6_code 35 = .ok (.invokevirtual 58, 3) := by decide +kernel
theorem d2k1n3_38 : decode prog_61_method_6_code 38 = .ok (.dstore_n 2, 1) := by decide +kernel
theorem d2k1n3_39 : decode prog_61_method_6_code 39 = .ok (.iinc 4 1, 3) := by decide +kernel
theorem d2k1n3_42 : decode prog_61_method_6_code 42 = .ok (.goto (-20), 3) := by decide +kernel
theorem d2k1n3_45 : decode prog_61_method_6_code 45 = .ok (.dload_n 2, 1) := by decide +kernel
theorem d2k1n3_46 : decode prog_61_method_6_code 46 = .ok (.dreturn, 1) := by decide +kernel
theorem pd_2k1n3_0 : parseMethodDescriptor "(DD)D" = some ⟨[.double, .double], some .double⟩ := by decide +kernel
theorem pn_2k1n3 : plainFor (⟨"com/example/conflux/conflux/select/Aggregation", "aggregate", "([D)D"⟩ : MethodName) = true := plainFor_of_name (by show plainName "com/example/conflux/conflux/select/Aggregation" = true; first | (simp [plainName, overriddenIn]; done) | decide +kernel)
theorem ef_2k1n3 (m : MethodId) (x0 : Addr) (x1 : Addr) : entryFrame m #[(.ref x0), (.ref x1)] 5 = mkF m 0 #[.val (.ref x0), .val (.ref x1), .unset, .unset, .unset] [] := by first | (simp [entryFrame, mkF, argsToLocals, Value.category]; done) | rfl
set_option maxRecDepth 65536 in
set_option maxHeartbeats 40000000 in
theorem rm2k1n3 (l : Launch) (Z : State) (a0 : Array Value) (hw : ∀ d ∈ tables_1, d.before a0 Z = true) (t0 : Addr) (va : Addr) (h0 : Heap) (n0 : Nat) (Z0 : n0 ≤ h0.size) (E_t0 : Exa Z h0 t0 "com/example/conflux/conflux/select/Aggregation") (F_ord : Fld Z h0 t0 "java/lang/Enum" "ordinal" "I" (.int (1 : Int32))) (v0 : UInt64) (v1 : UInt64) (v2 : UInt64) (VA : own_Ar Z h0 va .double (List.map Value.double [v0, v1, v2])) (np0 : Jvm.Free.Fl.NoNaN64 (FP.dmul v0 v1)) (np1 : Jvm.Free.Fl.NoNaN64 (FP.dmul (FP.dmul v0 v1) v2)) :
    own_Met l (⟨"com/example/conflux/conflux/select/Aggregation", "aggregate", "([D)D"⟩ : MethodName) prog_61_method_6_code 5 (some .double) ({ frames := 2, cells := 0, slots := 0, locals := 28 } : Room) Z [] #[(.ref t0), (.ref va)] h0 (own_P (some (.double (FP.dmul (FP.dmul v0 v1) v2))) h0 n0) := by
  refine own_enter pn_2k1n3 ?_
  intro p e s m below meth c s₁ hx hby hml hown hnm hret hlk hZ e0 X0
  rw [ef_2k1n3]
  have N0 := Fr.nil n0
  show own_Fin _ _ _ _ _ _ _ (s₁.setTop (mkF m 0 #[.val (.ref t0), .val (.ref va), .unset, .unset, .unset] []))
  refine own_go (fun _ kk => XS.aloadN X0.here hx rfl (hb hby d2k1n3_0) rfl rfl kk) ?_
  show own_Fin _ _ _ _ _ _ _ (s₁.setTop (mkF m 1 #[.val (.ref t0), .val (.ref va), .unset, .unset, .unset] [(.ref va)]))
  refine own_alen X0 hx hZ e0 VA (hb hby d2k1n3_1) ?_
  show own_Fin _ _ _ _ _ _ _ (s₁.setTop (mkF m 2 #[.val (.ref t0), .val (.ref va), .unset, .unset, .unset] [(.int (3 : Int32))]))
  refine own_go (fun _ kk => XS.ifYes X0.here hx rfl (pc0 := 2) (pc' := 15) rfl (hb hby d2k1n3_2) rfl (XT.i0_ne_t (by decide)) (by decide) (by decide) (XS.aloadN X0.here hx rfl (hb hby d2k1n3_15) rfl rfl (XS.iconst X0.here hx rfl (hb hby d2k1n3_16) kk))) ?_
  show own_Fin _ _ _ _ _ _ _ (s₁.setTop (mkF m 17 #[.val (.ref t0), .val (.ref va), .unset, .unset, .unset] [(.int (0 : Int32)), (.ref va)]))
  refine own_ldD X0 hx hZ e0 VA (by decide) (by show (0 : Int32).toNatClampNeg < 3; decide) (hb hby d2k1n3_17) ?_
  show own_Fin _ _ _ _ _ _ _ (s₁.setTop (mkF m 18 #[.val (.ref t0), .val (.ref va), .unset, .unset, .unset] [(.double v0)]))
  refine own_go (fun _ kk => XS.dstoreN X0.here hx rfl (hb hby d2k1n3_18) rfl (l' := #[.val (.ref t0), .val (.ref va), .val (.double v0), .second, .unset]) rfl (XS.iconst X0.here hx rfl (hb hby d2k1n3_19) (XS.istore X0.here hx rfl (hb hby d2k1n3_20) rfl (l' := #[.val (.ref t0), .val (.ref va), .val (.double v0), .second, .val (.int (1 : Int32))]) rfl (XS.iload X0.here hx rfl (hb hby d2k1n3_22) rfl (XS.aloadN X0.here hx rfl (hb hby d2k1n3_24) rfl rfl kk))))) ?_
  show own_Fin _ _ _ _ _ _ _ (s₁.setTop (mkF m 25 #[.val (.ref t0), .val (.ref va), .val (.double v0), .second, .val (.int (1 : Int32))] [(.ref va), (.int (1 : Int32))]))
  refine own_alen X0 hx hZ e0 VA (hb hby d2k1n3_25) ?_
  show own_Fin _ _ _ _ _ _ _ (s₁.setTop (mkF m 26 #[.val (.ref t0), .val (.ref va), .val (.double v0), .second, .val (.int (1 : Int32))] [(.int (3 : Int32)), (.int (1 : Int32))]))
  refine own_go (fun _ kk => XS.icmpNo X0.here hx rfl (hb hby d2k1n3_26) rfl (XT.ii_ge_f (by decide)) (XS.aloadN X0.here hx rfl (hb hby d2k1n3_29) rfl rfl (XS.dloadN X0.here hx rfl (hb hby d2k1n3_30) rfl (XS.aloadN X0.here hx rfl (hb hby d2k1n3_31) rfl rfl (XS.iload X0.here hx rfl (hb hby d2k1n3_32) rfl kk))))) ?_
  show own_Fin _ _ _ _ _ _ _ (s₁.setTop (mkF m 34 #[.val (.ref t0), .val (.ref va), .val (.double v0), .second, .val (.int (1 : Int32))] [(.int (1 : Int32)), (.ref va), (.double v0), (.ref t0)]))
  refine own_ldD X0 hx hZ e0 VA (by decide) (by show (1 : Int32).toNatClampNeg < 3; decide) (hb hby d2k1n3_34) ?_
  show own_Fin _ _ _ _ _ _ _ (s₁.setTop (mkF m 35 #[.val (.ref t0), .val (.ref va), .val (.double v0), .second, .val (.int (1 : Int32))] [(.double v1), (.double v0), (.ref t0)]))
  refine own_callP X0 hx hZ hown (hw _ (List.mem_of_getElem? (i := 19) rfl)) (hw _ (List.mem_of_getElem? (i := 20) rfl)) (own_selP (z := (⟨"com/example/conflux/conflux/select/Aggregation", "aggregate", "([D)D"⟩ : MethodName)) rfl (hw _ (List.mem_of_getElem? (i := 12) rfl)) (hw _ (List.mem_of_getElem? (i := 20) rfl)) (hw _ (List.mem_of_getElem? (i := 21) rfl)) (hw _ (List.mem_of_getElem? (i := 11) rfl)) (by decide)) (hw _ (List.mem_of_getElem? (i := 21) rfl)) (hw _ (List.mem_of_getElem? (i := 22) rfl)) (hw _ (List.mem_of_getElem? (i := 6) rfl)) (by decide) (rm4o1 l Z a0 hw t0 v0 v1 h0 n0 Z0 E_t0 F_ord np0) e0 E_t0 (argsL := [(.double v0), (.double v1)]) (rest := []) rfl rfl (by rw [hml]; rfl) (lenOf pd_2k1n3_0 rfl) (hb hby d2k1n3_35) (W := 0) (Nat.le_of_eq rfl) (by decide) (by decide) (by decide) (by decide) ?_
  rintro v1 T1 L1 X1 ⟨rfl, M1, e1⟩
  have N1 := Fr.app N0 M1
  show own_Fin _ _ _ _ _ _ _ (T1.setTop (mkF m 38 #[.val (.ref t0), .val (.ref va), .val (.double v0), .second, .val (.int (1 : Int32))] [(.double (FP.dmul v0 v1))]))
  refine own_go (fun _ kk => XS.dstoreN X1.here hx rfl (hb hby d2k1n3_38) rfl (l' := #[.val (.ref t0), .val (.ref va), .val (.double (FP.dmul v0 v1)), .second, .val (.int (1 : Int32))]) rfl (XS.iinc X1.here hx rfl (hb hby d2k1n3_39) rfl (l' := #[.val (.ref t0), .val (.ref va), .val (.double (FP.dmul v0 v1)), .second, .val (.int (2 : Int32))]) rfl (XS.goto X1.here hx rfl (pc0 := 42) (pc' := 22) rfl (hb hby d2k1n3_42) (by decide) (by decide) (XS.iload X1.here hx rfl (hb hby d2k1n3_22) rfl (XS.aloadN X1.here hx rfl (hb hby d2k1n3_24) rfl rfl kk))))) ?_
  show own_Fin _ _ _ _ _ _ _ (T1.setTop (mkF m 25 #[.val (.ref t0), .val (.ref va), .val (.double (FP.dmul v0 v1)), .second, .val (.int (2 : Int32))] [(.ref va), (.int (2 : Int32))]))
  refine own_alen X1 hx hZ e1 VA (hb hby d2k1n3_25) ?_
  show own_Fin _ _ _ _ _ _ _ (T1.setTop (mkF m 26 #[.val (.ref t0), .val (.ref va), .val (.double (FP.dmul v0 v1)), .second, .val (.int (2 : Int32))] [(.int (3 : Int32)), (.int (2 : Int32))]))
  refine own_go (fun _ kk => XS.icmpNo X1.here hx rfl (hb hby d2k1n3_26) rfl (XT.ii_ge_f (by decide)) (XS.aloadN X1.here hx rfl (hb hby d2k1n3_29) rfl rfl (XS.dloadN X1.here hx rfl (hb hby d2k1n3_30) rfl (XS.aloadN X1.here hx rfl (hb hby d2k1n3_31) rfl rfl (XS.iload X1.here hx rfl (hb hby d2k1n3_32) rfl kk))))) ?_
  show own_Fin _ _ _ _ _ _ _ (T1.setTop (mkF m 34 #[.val (.ref t0), .val (.ref va), .val (.double (FP.dmul v0 v1)), .second, .val (.int (2 : Int32))] [(.int (2 : Int32)), (.ref va), (.double (FP.dmul v0 v1)), (.ref t0)]))
  refine own_ldD X1 hx hZ e1 VA (by decide) (by show (2 : Int32).toNatClampNeg < 3; decide) (hb hby d2k1n3_34) ?_
  show own_Fin _ _ _ _ _ _ _ (T1.setTop (mkF m 35 #[.val (.ref t0), .val (.ref va), .val (.double (FP.dmul v0 v1)), .second, .val (.int (2 : Int32))] [(.double v2), (.double (FP.dmul v0 v1)), (.ref t0)]))
  refine own_callP X1 hx hZ hown (hw _ (List.mem_of_getElem? (i := 19) rfl)) (hw _ (List.mem_of_getElem? (i := 20) rfl)) (own_selP (z := (⟨"com/example/conflux/conflux/select/Aggregation", "aggregate", "([D)D"⟩ : MethodName)) rfl (hw _ (List.mem_of_getElem? (i := 12) rfl)) (hw _ (List.mem_of_getElem? (i := 20) rfl)) (hw _ (List.mem_of_getElem? (i := 21) rfl)) (hw _ (List.mem_of_getElem? (i := 11) rfl)) (by decide)) (hw _ (List.mem_of_getElem? (i := 21) rfl)) (hw _ (List.mem_of_getElem? (i := 22) rfl)) (hw _ (List.mem_of_getElem? (i := 6) rfl)) (by decide) (rm4o1 l Z a0 hw t0 (FP.dmul v0 v1) v2 h0 n0 Z0 E_t0 F_ord np1) e1 E_t0 (argsL := [(.double (FP.dmul v0 v1)), (.double v2)]) (rest := []) rfl rfl (by rw [hml]; rfl) (lenOf pd_2k1n3_0 rfl) (hb hby d2k1n3_35) (W := 0) (Nat.le_of_eq rfl) (by decide) (by decide) (by decide) (by decide) ?_
  rintro v2 T2 L2 X2 ⟨rfl, M2, e2⟩
  have N2 := Fr.app N1 M2
  show own_Fin _ _ _ _ _ _ _ (T2.setTop (mkF m 38 #[.val (.ref t0), .val (.ref va), .val (.double (FP.dmul v0 v1)), .second, .val (.int (2 : Int32))] [(.double (FP.dmul (FP.dmul v0 v1) v2))]))
  refine own_go (fun _ kk => XS.dstoreN X2.here hx rfl (hb hby d2k1n3_38) rfl (l' := #[.val (.ref t0), .val (.ref va), .val (.double (FP.dmul (FP.dmul v0 v1) v2)), .second, .val (.int (2 : Int32))]) rfl (XS.iinc X2.here hx rfl (hb hby d2k1n3_39) rfl (l' := #[.val (.ref t0), .val (.ref va), .val (.double (FP.dmul (FP.dmul v0 v1) v2)), .second, .val (.int (3 : Int32))]) rfl (XS.goto X2.here hx rfl (pc0 := 42) (pc' := 22) rfl (hb hby d2k1n3_42) (by decide) (by decide) (XS.iload X2.here hx rfl (hb hby d2k1n3_22) rfl (XS.aloadN X2.here hx rfl (hb hby d2k1n3_24) rfl rfl kk))))) ?_
  show own_Fin _ _ _ _ _ _ _ (T2.setTop (mkF m 25 #[.val (.ref t0), .val (.ref va), .val (.double (FP.dmul (FP.dmul v0 v1) v2)), .second, .val (.int (3 : Int32))] [(.ref va), (.int (3 : Int32))]))
  refine own_alen X2 hx hZ e2 VA (hb hby d2k1n3_25) ?_
  show own_Fin _ _ _ _ _ _ _ (T2.setTop (mkF m 26 #[.val (.ref t0), .val (.ref va), .val (.double (FP.dmul (FP.dmul v0 v1) v2)), .second, .val (.int (3 : Int32))] [(.int (3 : Int32)), (.int (3 : Int32))]))
  refine own_go (fun _ kk => XS.icmpYes X2.here hx rfl (pc0 := 26) (pc' := 45) rfl (hb hby d2k1n3_26) rfl (XT.ii_ge_t (by decide)) (by decide) (by decide) (XS.dloadN X2.here hx rfl (hb hby d2k1n3_45) rfl kk)) ?_
  show own_Fin _ _ _ _ _ _ _ (T2.setTop (mkF m 46 #[.val (.ref t0), .val (.ref va), .val (.double (FP.dmul (FP.dmul v0 v1) v2)), .second, .val (.int (3 : Int32))] [(.double (FP.dmul (FP.dmul v0 v1) v2))]))
  exact own_retD X2 hx hlk hret (hb hby d2k1n3_46) (by decide) (by decide) ⟨rfl, N2, e2⟩

theorem d2k2n1_0 : decode prog_61_method_6_code 0 = .ok (.aload_n 1, 1) := by decide +kernel
theorem d2k2n1_1 : decode prog_61_method_6_code 1 = .ok (.arraylength, 1) := by decide +kernel
theorem d2k2n1_2 : decode prog_61_method_6_code 2 = .ok (.ifCond .ne 13, 3) := by decide +kernel
theorem d2k2n1_15 : decode prog_61_method_6_code 15 = .ok (.aload_n 1, 1) := by decide +kernel
theorem d2k2n1_16 : decode prog_61_method_6_code 16 = .ok (.iconst 0, 1) := by decide +kernel
theorem d2k2n1_17 : decode prog_61_method_6_code 17 = .ok (.daload, 1) := by decide +kernel
theorem d2k2n1_18 : decode prog_61_method_6_code 18 = .ok (.dstore_n 2, 1) := by decide +kernel
theorem d2k2n1_19 : decode prog_61_method_6_code 19 = .ok (.iconst 1, 1) := by decide +kernel
theorem d2k2n1_20 : decode prog_61_method_6_code 20 = .ok (.istore 4, 2) := by decide +kernel
theorem d2k2n1_22 : decode prog_61_method_6_code 22 = .ok (.iload 4, 2) := by decide +kernel
theorem d2k2n1_24 : decode prog_61_method_6_code 24 = .ok (.aload_n 1, 1) := by decide +kernel
theorem d2k2n1_25 : decode prog_61_method_6_code 25 = .ok (.arraylength, 1) := by decide +kernel
theorem d2k2n1_26 : decode prog_61_method_6_code 26 = .ok (.if_icmp .ge 19, 3) := by decide +kernel
theorem d2k2n1_45 : decode prog_61_method_6_code 45 = .ok (.dload_n 2, 1) := by decide +kernel
theorem d2k2n1_46 : decode prog_61_method_6_code 46 = .ok (.dreturn, 1) := by decide +kernel
theorem pn_2k2n1 : plainFor (⟨"com/example/conflux/conflux/select/Aggregation", "aggregate", "([D)D"⟩ : MethodName) = true := plainFor_of_name (by show plainName "com/example/conflux/conflux/select/Aggregation" = true; first | (simp [plainName, overriddenIn]; done) | decide +kernel)
theorem ef_2k2n1 (m : MethodId) (x0 : Addr) (x1 : Addr) : entryFrame m #[(.ref x0), (.ref x1)] 5 = mkF m 0 #[.val (.ref x0), .val (.ref x1), .unset, .unset, .unset] [] := by first | (simp [entryFrame, mkF, argsToLocals, Value.category]; done) | rfl
set_option maxRecDepth 65536 in
set_option maxHeartbeats 40000000 in
theorem rm2k2n1 (l : Launch) (Z : State) (a0 : Array Value) (hw : ∀ d ∈ tables_1, d.before a0 Z = true) (t0 : Addr) (va : Addr) (h0 : Heap) (n0 : Nat) (Z0 : n0 ≤ h0.size) (E_t0 : Exa Z h0 t0 "com/example/conflux/conflux/select/Aggregation") (F_ord : Fld Z h0 t0 "java/lang/Enum" "ordinal" "I" (.int (2 : Int32))) (v0 : UInt64) (VA : own_Ar Z h0 va .double (List.map Value.double [v0]))  :
    own_Met l (⟨"com/example/conflux/conflux/select/Aggregation", "aggregate", "([D)D"⟩ : MethodName) prog_61_method_6_code 5 (some .double) ({ frames := 0, cells := 0, slots := 0, locals := 0 } : Room) Z [] #[(.ref t0), (.ref va)] h0 (own_P (some (.double v0)) h0 n0) := by
  refine own_enter pn_2k2n1 ?_
  intro p e s m below meth c s₁ hx hby hml hown hnm hret hlk hZ e0 X0
  rw [ef_2k2n1]
  have N0 := Fr.nil n0
  show own_Fin _ _ _ _ _ _ _ (s₁.setTop (mkF m 0 #[.val (.ref t0), .val (.ref va), .unset, .unset, .unset] []))
  refine own_go (fun _ kk => XS.aloadN X0.here hx rfl (hb hby d2k2n1_0) rfl rfl kk) ?_
  show own_Fin _ _ _ _ _ _ _ (s₁.setTop (mkF m 1 #[.val (.ref t0), .val (.ref va), .unset, .unset, .unset] [(.ref va)]))
  refine own_alen X0 hx hZ e0 VA (hb hby d2k2n1_1) ?_
  show own_Fin _ _ _ _ _ _ _ (s₁.setTop (mkF m 2 #[.val (.ref t0), .val (.ref va), .unset, .unset, .unset] [(.int (1 : Int32))]))
  refine own_go (fun _ kk => XS.ifYes X0.here hx rfl (pc0 := 2) (pc' := 15) rfl (hb hby d2k2n1_2) rfl (XT.i0_ne_t (by decide)) (by decide) (by decide) (XS.aloadN X0.here hx rfl (hb hby d2k2n1_15) rfl rfl (XS.iconst X0.here hx rfl (hb hby d2k2n1_16) kk))) ?_
  show own_Fin _ _ _ _ _ _ _ (s₁.setTop (mkF m 17 #[.val (.ref t0), .val (.ref va), .unset, .unset, .unset] [(.int (0 : Int32)), (.ref va)]))
  refine own_ldD X0 hx hZ e0 VA (by decide) (by show (0 : Int32).toNatClampNeg < 1; decide) (hb hby d2k2n1_17) ?_
  show own_Fin _ _ _ _ _ _ _ (s₁.setTop (mkF m 18 #[.val (.ref t0), .val (.ref va), .unset, .unset, .unset] [(.double v0)]))
  refine own_go (fun _ kk => XS.dstoreN X0.here hx rfl (hb hby d2k2n1_18) rfl (l' := #[.val (.ref t0), .val (.ref va), .val (.double v0), .second, .unset]) rfl (XS.iconst X0.here hx rfl (hb hby d2k2n1_19) (XS.istore X0.here hx rfl (hb hby d2k2n1_20) rfl (l' := #[.val (.ref t0), .val (.ref va), .val (.double v0), .second, .val (.int (1 : Int32))]) rfl (XS.iload X0.here hx rfl (hb hby d2k2n1_22) rfl (XS.aloadN X0.here hx rfl (hb hby d2k2n1_24) rfl rfl kk))))) ?_
  show own_Fin _ _ _ _ _ _ _ (s₁.setTop (mkF m 25 #[.val (.ref t0), .val (.ref va), .val (.double v0), .second, .val (.int (1 : Int32))] [(.ref va), (.int (1 : Int32))]))
  refine own_alen X0 hx hZ e0 VA (hb hby d2k2n1_25) ?_
  show own_Fin _ _ _ _ _ _ _ (s₁.setTop (mkF m 26 #[.val (.ref t0), .val (.ref va), .val (.double v0), .second, .val (.int (1 : Int32))] [(.int (1 : Int32)), (.int (1 : Int32))]))
  refine own_go (fun _ kk => XS.icmpYes X0.here hx rfl (pc0 := 26) (pc' := 45) rfl (hb hby d2k2n1_26) rfl (XT.ii_ge_t (by decide)) (by decide) (by decide) (XS.dloadN X0.here hx rfl (hb hby d2k2n1_45) rfl kk)) ?_
  show own_Fin _ _ _ _ _ _ _ (s₁.setTop (mkF m 46 #[.val (.ref t0), .val (.ref va), .val (.double v0), .second, .val (.int (1 : Int32))] [(.double v0)]))
  exact own_retD X0 hx hlk hret (hb hby d2k2n1_46) (by decide) (by decide) ⟨rfl, N0, e0⟩

theorem d2k2n2_0 : decode prog_61_method_6_code 0 = .ok (.aload_n 1, 1) := by decide +kernel
theorem d2k2n2_1 : decode prog_61_method_6_code 1 = .ok (.arraylength, 1) := by decide +kernel
theorem d2k2n2_2 : decode prog_61_method_6_code 2 = .ok (.ifCond .ne 13, 3) := by decide +kernel
theorem d2k2n2_15 : decode prog_61_method_6_code 15 = .ok (.aload_n 1, 1) := by decide +kernel
theorem d2k2n2_16 : decode prog_61_method_6_code 16 = .ok (.iconst 0, 1) := by decide +kernel
theorem d2k2n2_17 : decode prog_61_method_6_code 17 = .ok (.daload, 1) := by decide +kernel
theorem d2k2n2_18 : decode prog_61_method_6_code 18 = .ok (.dstore_n 2, 1) := by decide +kernel
theorem d2k2n2_19 : decode prog_61_method_6_code 19 = .ok (.iconst 1, 1) := by decide +kernel
theorem d2k2n2_20 : decode prog_61_method_6_code 20 = .ok (.istore 4, 2) := by decide +kernel
theorem d2k2n2_22 : decode prog_61_method_6_code 22 = .ok (.iload 4, 2) := by decide +kernel
theorem d2k2n2_24 : decode prog_61_method_6_code 24 = .ok (.aload_n 1, 1) := by decide +kernel
theorem d2k2n2_25 : decode prog_61_method_6_code 25 = .ok (.arraylength, 1) := by decide +kernel
theorem d2k2n2_26 : decode prog_61_method_6_code 26 = .ok (.if_icmp .ge 19, 3) := by decide +kernel
theorem d2k2n2_29 : decode prog_61_method_6_code 29 = .ok (.aload_n 0, 1) := by decide +kernel
theorem d2k2n2_30 : decode prog_61_method_6_code 30 = .ok (.dload_n 2, 1) := by decide +kernel
theorem d2k2n2_31 : decode prog_61_method_6_code 31 = .ok (.aload_n 1, 1) := by decide +kernel
theorem d2k2n2_32 : decode prog_61_method_6_code 32 = .ok (.iload 4, 2) := by decide +kernel
theorem d2k2n2_34 : decode prog_61_method_6_code 34 = .ok (.daload, 1) := by decide +kernel
theorem d2k2n2_35 : decode prog_61_method_6_code 35 = .ok (.invokevirtual 58, 3) := by decide +kernel
theorem d2k2n2_38 : decode prog_61_method_6_code 38 = .ok (.dstore_n 2, 1) := by decide +kernel
theorem d2k2n2_39 : decode prog_61_method_6_code 39 = .ok (.iinc 4 1, 3) := by decide +kernel
theorem d2k2n2_42 : decode prog_61_method_6_code 42 = .ok (.goto (-20), 3) := by decide +kernel
theorem d2k2n2_45 : decode prog_61_method_6_code 45 = .ok (.dload_n 2, 1) := by decide +kernel
theorem d2k2n2_46 : decode prog_61_method_6_code 46 = .ok (.dreturn, 1) := by decide +kernel
theorem pd_2k2n2_0 : parseMethodDescriptor "(DD)D" = some ⟨[.double, .double], some .double⟩ := by decide +kernel
theorem pn_2k2n2 : plainFor (⟨"com/example/conflux/conflux/select/Aggregation", "aggregate", "([D)D"⟩ : MethodName) = true := plainFor_of_name (by show plainName "com/example/conflux/conflux/select/Aggregation" = true; first | (simp [plainName, overriddenIn]; done) | decide +kernel)
theorem ef_2k2n2 (m : MethodId) (x0 : Addr) (x1 : Addr) : entryFrame m #[(.ref x0), (.ref x1)] 5 = mkF m 0 #[.val (.ref x0), .val (.ref x1), .unset, .unset, .unset] [] := by first | (simp [entryFrame, mkF, argsToLocals, Value.category]; done) | rfl
set_option maxRecDepth 65536 in
set_option maxHeartbeats 40000000 in
theorem rm2k2n2 (l : Launch) (Z : State) (a0 : Array Value) (hw : ∀ d ∈ tables_1, d.before a0 Z = true) (t0 : Addr) (va : Addr) (h0 : Heap) (n0 : Nat) (Z0 : n0 ≤ h0.size) (E_t0 : Exa Z h0 t0 "com/example/conflux/conflux/select/Aggregation") (F_ord : Fld Z h0 t0 "java/lang/Enum" "ordinal" "I" (.int (2 : Int32))) (v0 : UInt64) (v1 : UInt64) (VA : own_Ar Z h0 va .double (List.map Value.double [v0, v1])) (np0 : Jvm.Free.Fl.NoNaN64 v0) (np1 : Jvm.Free.Fl.NoNaN64 v1) :
    own_Met l (⟨"com/example/conflux/conflux/select/Aggregation", "aggregate", "([D)D"⟩ : MethodName) prog_61_method_6_code 5 (some .double) ({ frames := 2, cells := 0, slots := 0, locals := 31 } : Room) Z [] #[(.ref t0), (.ref va)] h0 (own_P (some (.double (Native.java_lang_Math.nans.pick64 false v0 v1))) h0 n0) := by
  refine own_enter pn_2k2n2 ?_
  intro p e s m below meth c s₁ hx hby hml hown hnm hret hlk hZ e0 X0
  rw [ef_2k2n2]
  have N0 := Fr.nil n0
  show own_Fin _ _ _ _ _ _ _ (s₁.setTop (mkF m 0 #[.val (.ref t0), .val (.ref va), .unset, .unset, .unset] []))
  refine own_go (fun _ kk => XS.aloadN X0.here hx rfl (hb hby d2k2n2_0) rfl rfl kk) ?_
  show own_Fin _ _ _ _ _ _ _ (s₁.setTop (mkF m 1 #[.val (.ref t0), .val (.ref va), .unset, .unset, .unset] [(.ref va)]))
  refine own_alen X0 hx hZ e0 VA (hb hby d2k2n2_1) ?_
  show own_Fin _ _ _ _ _ _ _ (s₁.setTop (mkF m 2 #[.val (.ref t0), .val (.ref va), .unset, .unset, .unset] [(.int (2 : Int32))]))
  refine own_go (fun _ kk => XS.ifYes X0.here hx rfl (pc0 := 2) (pc' := 15) rfl (hb hby d2k2n2_2) rfl (XT.i0_ne_t (by decide)) (by decide) (by decide) (XS.aloadN X0.here hx rfl (hb hby d2k2n2_15) rfl rfl (XS.iconst X0.here hx rfl (hb hby d2k2n2_16) kk))) ?_
  show own_Fin _ _ _ _ _ _ _ (s₁.setTop (mkF m 17 #[.val (.ref t0), .val (.ref va), .unset, .unset, .unset] [(.int (0 : Int32)), (.ref va)]))
  refine own_ldD X0 hx hZ e0 VA (by decide) (by show (0 : Int32).toNatClampNeg < 2; decide) (hb hby d2k2n2_17) ?_
  show own_Fin _ _ _ _ _ _ _ (s₁.setTop (mkF m 18 #[.val (.ref t0), .val (.ref va), .unset, .unset, .unset] [(.double v0)]))
  refine own_go (fun _ kk => XS.dstoreN X0.here hx rfl (hb hby d2k2n2_18) rfl (l' := #[.val (.ref t0), .val (.ref va), .val (.double v0), .second, .unset]) rfl (XS.iconst X0.here hx rfl (hb hby d2k2n2_19) (XS.istore X0.here hx rfl (hb hby d2k2n2_20) rfl (l' := #[.val (.ref t0), .val (.ref va), .val (.double v0), .second, .val (.int (1 : Int32))]) rfl (XS.iload X0.here hx rfl (hb hby d2k2n2_22) rfl (XS.aloadN X0.here hx rfl (hb hby d2k2n2_24) rfl rfl kk))))) ?_
  show own_Fin _ _ _ _ _ _ _ (s₁.setTop (mkF m 25 #[.val (.ref t0), .val (.ref va), .val (.double v0), .second, .val (.int (1 : Int32))] [(.ref va), (.int (1 : Int32))]))
  refine own_alen X0 hx hZ e0 VA (hb hby d2k2n2_25) ?_
  show own_Fin _ _ _ _ _ _ _ (s₁.setTop (mkF m 26 #[.val (.ref t0), .val (.ref va), .val (.double v0), .second, .val (.int (1 : Int32))] [(.int (2 : Int32)), (.int (1 : Int32))]))
  refine own_go (fun _ kk => XS.icmpNo X0.here hx rfl (hb hby d2k2n2_26) rfl (XT.ii_ge_f (by decide)) (XS.aloadN X0.here hx rfl (hb hby d2k2n2_29) rfl rfl (XS.dloadN X0.here hx rfl (hb hby d2k2n2_30) rfl (XS.aloadN X0.here hx rfl (hb hby d2k2n2_31) rfl rfl (XS.iload X0.here hx rfl (hb hby d2k2n2_32) rfl kk))))) ?_
  show own_Fin _ _ _ _ _ _ _ (s₁.setTop (mkF m 34 #[.val (.ref t0), .val (.ref va), .val (.double v0), .second, .val (.int (1 : Int32))] [(.int (1 : Int32)), (.ref va), (.double v0), (.ref t0)]))
  refine own_ldD X0 hx hZ e0 VA (by decide) (by show (1 : Int32).toNatClampNeg < 2; decide) (hb hby d2k2n2_34) ?_
  show own_Fin _ _ _ _ _ _ _ (s₁.setTop (mkF m 35 #[.val (.ref t0), .val (.ref va), .val (.double v0), .second, .val (.int (1 : Int32))] [(.double v1), (.double v0), (.ref t0)]))
  refine own_callP X0 hx hZ hown (hw _ (List.mem_of_getElem? (i := 19) rfl)) (hw _ (List.mem_of_getElem? (i := 20) rfl)) (own_selP (z := (⟨"com/example/conflux/conflux/select/Aggregation", "aggregate", "([D)D"⟩ : MethodName)) rfl (hw _ (List.mem_of_getElem? (i := 12) rfl)) (hw _ (List.mem_of_getElem? (i := 20) rfl)) (hw _ (List.mem_of_getElem? (i := 21) rfl)) (hw _ (List.mem_of_getElem? (i := 11) rfl)) (by decide)) (hw _ (List.mem_of_getElem? (i := 21) rfl)) (hw _ (List.mem_of_getElem? (i := 22) rfl)) (hw _ (List.mem_of_getElem? (i := 6) rfl)) (by decide) (rm4o2 l Z a0 hw t0 v0 v1 h0 n0 Z0 E_t0 F_ord np0 np1) e0 E_t0 (argsL := [(.double v0), (.double v1)]) (rest := []) rfl rfl (by rw [hml]; rfl) (lenOf pd_2k2n2_0 rfl) (hb hby d2k2n2_35) (W := 0) (Nat.le_of_eq rfl) (by decide) (by decide) (by decide) (by decide) ?_
  rintro v1 T1 L1 X1 ⟨rfl, M1, e1⟩
  have N1 := Fr.app N0 M1
  show own_Fin _ _ _ _ _ _ _ (T1.setTop (mkF m 38 #[.val (.ref t0), .val (.ref va), .val (.double v0), .second, .val (.int (1 : Int32))] [(.double (Native.java_lang_Math.nans.pick64 false v0 v1))]))
  refine own_go (fun _ kk => XS.dstoreN X1.here hx rfl (hb hby d2k2n2_38) rfl (l' := #[.val (.ref t0), .val (.ref va), .val (.double (Native.java_lang_Math.nans.pick64 false v0 v1)), .second, .val (.int (1 : Int32))]) rfl (XS.iinc X1.here hx rfl (hb hby d2k2n2_39) rfl (l' := #[.val (.ref t0), .val (.ref va), .val (.double (Native.java_lang_Math.nans.pick64 false v0 v1)), .second, .val (.int (2 : Int32))]) rfl (XS.goto X1.here hx rfl (pc0 := 42) (pc' := 22) rfl (hb hby d2k2n2_42) (by decide) (by decide) (XS.iload X1.here hx rfl (hb hby d2k2n2_22) rfl (XS.aloadN X1.here hx rfl (hb hby d2k2n2_24) rfl rfl kk))))) ?_
  show own_Fin _ _ _ _ _ _ _ (T1.setTop (mkF m 25 #[.val (.ref t0), .val (.ref va), .val (.double (Native.java_lang_Math.nans.pick64 false v0 v1)), .second, .val (.int (2 : Int32))] [(.ref va), (.int (2 : Int32))]))
  refine own_alen X1 hx hZ e1 VA (hb hby d2k2n2_25) ?_
  show own_Fin _ _ _ _ _ _ _ (T1.setTop (mkF m 26 #[.val (.ref t0), .val (.ref va), .val (.double (Native.java_lang_Math.nans.pick64 false v0 v1)), .second, .val (.int (2 : Int32))] [(.int (2 : Int32)), (.int (2 : Int32))]))
  refine own_go (fun _ kk => XS.icmpYes X1.here hx rfl (pc0 := 26) (pc' := 45) rfl (hb hby d2k2n2_26) rfl (XT.ii_ge_t (by decide)) (by decide) (by decide) (XS.dloadN X1.here hx rfl (hb hby d2k2n2_45) rfl kk)) ?_
  show own_Fin _ _ _ _ _ _ _ (T1.setTop (mkF m 46 #[.val (.ref t0), .val (.ref va), .val (.double (Native.java_lang_Math.nans.pick64 false v0 v1)), .second, .val (.int (2 : Int32))] [(.double (Native.java_lang_Math.nans.pick64 false v0 v1))]))
  exact own_retD X1 hx hlk hret (hb hby d2k2n2_46) (by decide) (by decide) ⟨rfl, N1, e1⟩

theorem d2k2n3_0 : decode prog_61_method_6_code 0 = .ok (.aload_n 1, 1) := by decide +kernel
theorem d2k2n3_1 : decode prog_61_method_6_code 1 = .ok (.arraylength, 1) := by decide +kernel
theorem d2k2n3_2 : decode prog_61_method_6_code 2 = .ok (.ifCond .ne 13, 3) := by decide +kernel
theorem d2k2n3_15 : decode prog_61_method_6_code 15 = .ok (.aload_n 1, 1) := by decide +kernel
theorem d2k2n3_16 : decode prog_61_method_6_code 16 = .ok (.iconst 0, 1) := by decide +kernel
theorem d2k2n3_17 : decode prog_61_method_6_code 17 = .ok (.daload, 1) := by decide +kernel
theorem d2k2n3_18 : decode prog_61_method_6_code 18 = .ok (.dstore_n 2, 1) := by decide +kernel
theorem d2k2n3_19 : decode prog_61_method_6_code 19 = .ok (.iconst 1, 1) := by decide +kernel
theorem d2k2n3_20 : decode prog_61_method_6_code 20 = .ok (.istore 4, 2) := by decide +kernel
theorem d2k2n3_22 : decode prog_61_method_6_code 22 = .ok (.iload 4, 2) := by decide +kernel
theorem d2k2n3_24 : decode prog_61_method_6_code 24 = .ok (.aload_n 1, 1) := by decide +kernel
theorem d2k2n3_25 : decode prog_61_method_6_code 25 = .ok (.arraylength, 1) := by decide +kernel
theorem d2k2n3_26 : decode prog_61_method_6_code 26 = .ok (.if_icmp .ge 19, 3) := by decide +kernel
theorem d2k2n3_29 : decode prog_61_method_6_code 29 = .ok (.aload_n 0, 1) := by decide +kernel
theorem d2k2n3_30 : decode prog_61_method_6_code 30 = .ok (.dload_n 2, 1) := by decide +kernel
theorem d2k2n3_31 : decode prog_61_method_6_code 31 = .ok (.aload_n 1, 1) := by decide +kernel
theorem d2k2n3_32 : decode prog_61_method_6_code 32 = .ok (.iload 4, 2) := by decide +kernel
theorem d2k2n3_34 : decode prog_61_method_6_code 34 = .ok (.daload, 1) := by decide +kernel
theorem d2k2n3_35 : decode prog_61_method_6_code 35 = .ok (.invokevirtual 58, 3) := by decide +kernel
theorem d2k2n3_38 : decode prog_61_method_6_code 38 = .ok (.dstore_n 2, 1) := by decide +kernel
theorem d2k2n3_39 : decode prog_61_method_6_code 39 = .ok (.iinc 4 1, 3) := by decide +kernel
theorem d2k2n3_42 : decode prog_61_method_6_code 42 = .ok (.goto (-20), 3) := by decide +kernel
theorem d2k2n3_45 : decode prog_61_method_6_code 45 = .ok (.dload_n 2, 1) := by decide +kernel
theorem d2k2n3_46 : decode prog_61_method_6_code 46 = .ok (.dreturn, 1) := by decide +kernel
theorem pd_2k2n3_0 : parseMethodDescriptor "(DD)D" = some ⟨[.double, .double], some .double⟩ := by decide +kernel
theorem pn_2k2n3 : plainFor (⟨"com/example/conflux/conflux/select/Aggregation", "aggregate", "([D)D"⟩ : MethodName) = true := plainFor_of_name (by show plainName "com/example/conflux/conflux/select/Aggregation" = true; first | (simp [plainName, overriddenIn]; done) | decide +kernel)
theorem ef_2k2n3 (m : MethodId) (x0 : Addr) (x1 : Addr) : entryFrame m #[(.ref x0), (.ref x1)] 5 = mkF m 0 #[.val (.ref x0), .val (.ref x1), .unset, .unset, .unset] [] := by first | (simp [entryFrame, mkF, argsToLocals, Value.category]; done) | rfl
set_option maxRecDepth 65536 in
set_option maxHeartbeats 40000000 in
theorem rm2k2n3 (l : Launch) (Z : State) (a0 : Array Value) (hw : ∀ d ∈ tables_1, d.before a0 Z = true) (t0 : Addr) (va : Addr) (h0 : Heap) (n0 : Nat) (Z0 : n0 ≤ h0.size) (E_t0 : Exa Z h0 t0 "com/example/conflux/conflux/select/Aggregation") (F_ord : Fld Z h0 t0 "java/lang/Enum" "ordinal" "I" (.int (2 : Int32))) (v0 : UInt64) (v1 : UInt64) (v2 : UInt64) (VA : own_Ar Z h0 va .double (List.map Value.double [v0, v1, v2])) (np0 : Jvm.Free.Fl.NoNaN64 v0) (np1 : Jvm.Free.Fl.NoNaN64 v1) (np2 : Jvm.Free.Fl.NoNaN64 (Native.java_lang_Math.nans.pick64 false v0 v1)) (np3 : Jvm.Free.Fl.NoNaN64 v2) :
    own_Met l (⟨"com/example/conflux/conflux/select/Aggregation", "aggregate", "([D)D"⟩ : MethodName) prog_61_method_6_code 5 (some .double) ({ frames := 2, cells := 0, slots := 0, locals := 31 } : Room) Z [] #[(.ref t0), (.ref va)] h0 (own_P (some (.double (Native.java_lang_Math.nans.pick64 false (Native.java_lang_Math.nans.pick64 false v0 v1) v2))) h0 n0) := by
  refine own_enter pn_2k2n3 ?_
  intro p e s m below meth c s₁ hx hby hml hown hnm hret hlk hZ e0 X0
  rw [ef_2k2n3]
  have N0 := Fr.nil n0
  show own_Fin _ _ _ _ _ _ _ (s₁.setTop (mkF m 0 #[.val (.ref t0), .val (.ref va), .unset, .unset, .unset] []))
  refine own_go (fun _ kk => XS.aloadN X0.here hx rfl (hb hby d2k2n3_0) rfl rfl kk) ?_
  show own_Fin _ _ _ _ _ _ _ (s₁.setTop (mkF m 1 #[.val (.ref t0), .val (.ref va), .unset, .unset, .unset] [(.ref va)]))
  refine own_alen X0 hx hZ e0 VA (hb hby d2k2n3_1) ?_
  show own_Fin _ _ _ _ _ _ _ (s₁.setTop (mkF m 2 #[.val (.ref t0), .val (.ref va), .unset, .unset, .unset] [(.int (3 : Int32))]))
  refine own_go (fun _ kk => XS.ifYes X0.here hx rfl (pc0 := 2) (pc' := 15) rfl (hb hby d2k2n3_2) rfl (XT.i0_ne_t (by decide)) (by decide) (by decide) (XS.aloadN X0.here hx rfl (hb hby d2k2n3_15) rfl rfl (XS.iconst X0.here hx rfl (hb hby d2k2n3_16) kk))) ?_
  show own_Fin _ _ _ _ _ _ _ (s₁.setTop (mkF m 17 #[.val (.ref t0), .val (.ref va), .unset, .unset, .unset] [(.int (0 : Int32)), (.ref va)]))
  refine own_ldD X0 hx hZ e0 VA (by decide) (by show (0 : Int32).toNatClampNeg < 3; decide) (hb hby d2k2n3_17) ?_
  show own_Fin _ _ _ _ _ _ _ (s₁.setTop (mkF m 18 #[.val (.ref t0), .val (.ref va), .unset, .unset, .unset] [(.double v0)]))
  refine own_go (fun _ kk => XS.dstoreN X0.here hx rfl (hb hby d2k2n3_18) rfl (l' := #[.val (.ref t0), .val (.ref va), .val (.double v0), .second, .unset]) rfl (XS.iconst X0.here hx rfl (hb hby d2k2n3_19) (XS.istore X0.here hx rfl (hb hby d2k2n3_20) rfl (l' := #[.val (.ref t0), .val (.ref va), .val (.double v0), .second, .val (.int (1 : Int32))]) rfl (XS.iload X0.here hx rfl (hb hby d2k2n3_22) rfl (XS.aloadN X0.here hx rfl (hb hby d2k2n3_24) rfl rfl kk))))) ?_
  show own_Fin _ _ _ _ _ _ _ (s₁.setTop (mkF m 25 #[.val (.ref t0), .val (.ref va), .val (.double v0), .second, .val (.int (1 : Int32))] [(.ref va), (.int (1 : Int32))]))
  refine own_alen X0 hx hZ e0 VA (hb hby d2k2n3_25) ?_
  show own_Fin _ _ _ _ _ _ _ (s₁.setTop (mkF m 26 #[.val (.ref t0), .val (.ref va), .val (.double v0), .second, .val (.int (1 : Int32))] [(.int (3 : Int32)), (.int (1 : Int32))]))
  refine own_go (fun _ kk => XS.icmpNo X0.here hx rfl (hb hby d2k2n3_26) rfl (XT.ii_ge_f (by decide)) (XS.aloadN X0.here hx rfl (hb hby d2k2n3_29) rfl rfl (XS.dloadN X0.here hx rfl (hb hby d2k2n3_30) rfl (XS.aloadN X0.here hx rfl (hb hby d2k2n3_31) rfl rfl (XS.iload X0.here hx rfl (hb hby d2k2n3_32) rfl kk))))) ?_
  show own_Fin _ _ _ _ _ _ _ (s₁.setTop (mkF m 34 #[.val (.ref t0), .val (.ref va), .val (.double v0), .second, .val (.int (1 : Int32))] [(.int (1 : Int32)), (.ref va), (.double v0), (.ref t0)]))
  refine own_ldD X0 hx hZ e0 VA (by decide) (by show (1 : Int32).toNatClampNeg < 3; decide) (hb hby d2k2n3_34) ?_
  show own_Fin _ _ _ _ _ _ _ (s₁.setTop (mkF m 35 #[.val (.ref t0), .val (.ref va), .val (.double v0), .second, .val (.int (1 : Int32))] [(.double v1), (.double v0), (.ref t0)]))
  refine own_callP X0 hx hZ hown (hw _ (List.mem_of_getElem? (i := 19) rfl)) (hw _ (List.mem_of_getElem? (i := 20) rfl)) (own_selP (z := (⟨"com/example/conflux/conflux/select/Aggregation", "aggregate", "([D)D"⟩ : MethodName)) rfl (hw _ (List.mem_of_getElem? (i := 12) rfl)) (hw _ (List.mem_of_getElem? (i := 20) rfl)) (hw _ (List.mem_of_getElem? (i := 21) rfl)) (hw _ (List.mem_of_getElem? (i := 11) rfl)) (by decide)) (hw _ (List.mem_of_getElem? (i := 21) rfl)) (hw _ (List.mem_of_getElem? (i := 22) rfl)) (hw _ (List.mem_of_getElem? (i := 6) rfl)) (by decide) (rm4o2 l Z a0 hw t0 v0 v1 h0 n0 Z0 E_t0 F_ord np0 np1) e0 E_t0 (argsL := [(.double v0), (.double v1)]) (rest := []) rfl rfl (by rw [hml]; rfl) (lenOf pd_2k2n3_0 rfl) (hb hby d2k2n3_35) (W := 0) (Nat.le_of_eq rfl) (by decide) (by decide) (by decide) (by decide) ?_
  rintro v1 T1 L1 X1 ⟨rfl, M1, e1⟩
  have N1 := Fr.app N0 M1
  show own_Fin _ _ _ _ _ _ _ (T1.setTop (mkF m 38 #[.val (.ref t0), .val (.ref va), .val (.double v0), .second, .val (.int (1 : Int32))] [(.double (Native.java_lang_Math.nans.pick64 false v0 v1))]))
  refine own_go (fun _ kk => XS.dstoreN X1.here hx rfl (hb hby d2k2n3_38) rfl (l' := #[.val (.ref t0), .val (.ref va), .val (.double (Native.java_lang_Math.nans.pick64 false v0 v1)), .second, .val (.int (1 : Int32))]) rfl (XS.iinc X1.here hx rfl (hb hby d2k2n3_39) rfl (l' := #[.val (.ref t0), .val (.ref va), .val (.double (Native.java_lang_Math.nans.pick64 false v0 v1)), .second, .val (.int (2 : Int32))]) rfl (XS.goto X1.here hx rfl (pc0 := 42) (pc' := 22) rfl (hb hby d2k2n3_42) (by decide) (by decide) (XS.iload X1.here hx rfl (hb hby d2k2n3_22) rfl (XS.aloadN X1.here hx rfl (hb hby d2k2n3_24) rfl rfl kk))))) ?_
  show own_Fin _ _ _ _ _ _ _ (T1.setTop (mkF m 25 #[.val (.ref t0), .val (.ref va), .val (.double (Native.java_lang_Math.nans.pick64 false v0 v1)), .second, .val (.int (2 : Int32))] [(.ref va), (.int (2 : Int32))]))
  refine own_alen X1 hx hZ e1 VA (hb hby d2k2n3_25) ?_
  show own_Fin _ _ _ _ _ _ _ (T1.setTop (mkF m 26 #[.val (.ref t0), .val (.ref va), .val (.double (Native.java_lang_Math.nans.pick64 false v0 v1)), .second, .val (.int (2 : Int32))] [(.int (3 : Int32)), (.int (2 : Int32))]))
  refine own_go (fun _ kk => XS.icmpNo X1.here hx rfl (hb hby d2k2n3_26) rfl (XT.ii_ge_f (by decide)) (XS.aloadN X1.here hx rfl (hb hby d2k2n3_29) rfl rfl (XS.dloadN X1.here hx rfl (hb hby d2k2n3_30) rfl (XS.aloadN X1.here hx rfl (hb hby d2k2n3_31) rfl rfl (XS.iload X1.here hx rfl (hb hby d2k2n3_32) rfl kk))))) ?_
  show own_Fin _ _ _ _ _ _ _ (T1.setTop (mkF m 34 #[.val (.ref t0), .val (.ref va), .val (.double (Native.java_lang_Math.nans.pick64 false v0 v1)), .second, .val (.int (2 : Int32))] [(.int (2 : Int32)), (.ref va), (.double (Native.java_lang_Math.nans.pick64 false v0 v1)), (.ref t0)]))
  refine own_ldD X1 hx hZ e1 VA (by decide) (by show (2 : Int32).toNatClampNeg < 3; decide) (hb hby d2k2n3_34) ?_
  show own_Fin _ _ _ _ _ _ _ (T1.setTop (mkF m 35 #[.val (.ref t0), .val (.ref va), .val (.double (Native.java_lang_Math.nans.pick64 false v0 v1)), .second, .val (.int (2 : Int32))] [(.double v2), (.double (Native.java_lang_Math.nans.pick64 false v0 v1)), (.ref t0)]))
  refine own_callP X1 hx hZ hown (hw _ (List.mem_of_getElem? (i := 19) rfl)) (hw _ (List.mem_of_getElem? (i := 20) rfl)) (own_selP (z := (⟨"com/example/conflux/conflux/select/Aggregation", "aggregate", "([D)D"⟩ : MethodName)) rfl (hw _ (List.mem_of_getElem? (i := 12) rfl)) (hw _ (List.mem_of_getElem? (i := 20) rfl)) (hw _ (List.mem_of_getElem? (i := 21) rfl)) (hw _ (List.mem_of_getElem? (i := 11) rfl)) (by decide)) (hw _ (List.mem_of_getElem? (i := 21) rfl)) (hw _ (List.mem_of_getElem? (i := 22) rfl)) (hw _ (List.mem_of_getElem? (i := 6) rfl)) (by decide) (rm4o2 l Z a0 hw t0 (Native.java_lang_Math.nans.pick64 false v0 v1) v2 h0 n0 Z0 E_t0 F_ord np2 np3) e1 E_t0 (argsL := [(.double (Native.java_lang_Math.nans.pick64 false v0 v1)), (.double v2)]) (rest := []) rfl rfl (by rw [hml]; rfl) (lenOf pd_2k2n3_0 rfl) (hb hby d2k2n3_35) (W := 0) (Nat.le_of_eq rfl) (by decide) (by decide) (by decide) (by decide) ?_
  rintro v2 T2 L2 X2 ⟨rfl, M2, e2⟩
  have N2 := Fr.app N1 M2
  show own_Fin _ _ _ _ _ _ _ (T2.setTop (mkF m 38 #[.val (.ref t0), .val (.ref va), .val (.double (Native.java_lang_Math.nans.pick64 false v0 v1)), .second, .val (.int (2 : Int32))] [(.double (Native.java_lang_Math.nans.pick64 false (Native.java_lang_Math.nans.pick64 false v0 v1) v2))]))
  refine own_go (fun _ kk => XS.dstoreN X2.here hx rfl (hb hby d2k2n3_38) rfl (l' := #[.val (.ref t0), .val (.ref va), .val (.double (Native.java_lang_Math.nans.pick64 false (Native.java_lang_Math.nans.pick64 false v0 v1) v2)), .second, .val (.int (2 : Int32))]) rfl (XS.iinc X2.here hx rfl (hb hby d2k2n3_39) rfl (l' := #[.val (.ref t0), .val (.ref va), .val (.double (Native.java_lang_Math.nans.pick64 false (Native.java_lang_Math.nans.pick64 false v0 v1) v2)), .second, .val (.int (3 : Int32))]) rfl (XS.goto X2.here hx rfl (pc0 := 42) (pc' := 22) rfl (hb hby d2k2n3_42) (by decide) (by decide) (XS.iload X2.here hx rfl (hb hby d2k2n3_22) rfl (XS.aloadN X2.here hx rfl (hb hby d2k2n3_24) rfl rfl kk))))) ?_
  show own_Fin _ _ _ _ _ _ _ (T2.setTop (mkF m 25 #[.val (.ref t0), .val (.ref va), .val (.double (Native.java_lang_Math.nans.pick64 false (Native.java_lang_Math.nans.pick64 false v0 v1) v2)), .second, .val (.int (3 : Int32))] [(.ref va), (.int (3 : Int32))]))
  refine own_alen X2 hx hZ e2 VA (hb hby d2k2n3_25) ?_
  show own_Fin _ _ _ _ _ _ _ (T2.setTop (mkF m 26 #[.val (.ref t0), .val (.ref va), .val (.double (Native.java_lang_Math.nans.pick64 false (Native.java_lang_Math.nans.pick64 false v0 v1) v2)), .second, .val (.int (3 : Int32))] [(.int (3 : Int32)), (.int (3 : Int32))]))
  refine own_go (fun _ kk => XS.icmpYes X2.here hx rfl (pc0 := 26) (pc' := 45) rfl (hb hby d2k2n3_26) rfl (XT.ii_ge_t (by decide)) (by decide) (by decide) (XS.dloadN X2.here hx rfl (hb hby d2k2n3_45) rfl kk)) ?_
  show own_Fin _ _ _ _ _ _ _ (T2.setTop (mkF m 46 #[.val (.ref t0), .val (.ref va), .val (.double (Native.java_lang_Math.nans.pick64 false (Native.java_lang_Math.nans.pick64 false v0 v1) v2)), .second, .val (.int (3 : Int32))] [(.double (Native.java_lang_Math.nans.pick64 false (Native.java_lang_Math.nans.pick64 false v0 v1) v2))]))
  exact own_retD X2 hx hlk hret (hb hby d2k2n3_46) (by decide) (by decide) ⟨rfl, N2, e2⟩

theorem d2k3n1_0 : decode prog_61_method_6_code 0 = .ok (.aload_n 1, 1) := by decide +kernel
theorem d2k3n1_1 : decode prog_61_method_6_code 1 = .ok (.arraylength, 1) := by decide +kernel
theorem d2k3n1_2 : decode prog_61_method_6_code 2 = .ok (.ifCond .ne 13, 3) := by decide +kernel
theorem d2k3n1_15 : decode prog_61_method_6_code 15 = .ok (.aload_n 1, 1) := by decide +kernel
theorem d2k3n1_16 : decode prog_61_method_6_code 16 = .ok (.iconst 0, 1) := by decide +kernel
theorem d2k3n1_17 : decode prog_61_method_6_code 17 = .ok (.daload, 1) := by decide +kernel
theorem d2k3n1_18 : decode prog_61_method_6_code 18 = .ok (.dstore_n 2, 1) := by decide +kernel
theorem d2k3n1_19 : decode prog_61_method_6_code 19 = .ok (.iconst 1, 1) := by decide +kernel
theorem d2k3n1_20 : decode prog_61_method_6_code 20 = .ok (.istore 4, 2) := by decide +kernel
theorem d2k3n1_22 : decode prog_61_method_6_code 22 = .ok (.iload 4, 2) := by decide +kernel
theorem d2k3n1_24 : decode prog_61_method_6_code 24 = .ok (.aload_n 1, 1) := by decide +kernel
theorem d2k3n1_25 : decode prog_61_method_6_code 25 = .ok (.arraylength, 1) := by decide +kernel
theorem d2k3n1_26 : decode prog_61_method_6_code 26 = .ok (.if_icmp .ge 19, 3) := by decide +kernel
theorem d2k3n1_45 : decode prog_61_method_6_code 45 = .ok (.dload_n 2, 1) := by decide +kernel
theorem d2k3n1_46 : decode prog_61_method_6_code 46 = .ok (.dreturn, 1) := by decide +kernel
theorem pn_2k3n1 : plainFor (⟨"com/example/conflux/conflux/select/Aggregation", "aggregate", "([D)D"⟩ : MethodName) = true := plainFor_of_name (by show plainName "com/example/conflux/conflux/select/Aggregation" = true; first | (simp [plainName, overriddenIn]; done) | decide +kernel)
theorem ef_2k3n1 (m : MethodId) (x0 : Addr) (x1 : Addr) : entryFrame m #[(.ref x0), (.ref x1)] 5 = mkF m 0 #[.val (.ref x0), .val (.ref x1), .unset, .unset, .unset] [] := by first | (simp [entryFrame, mkF, argsToLocals, Value.category]; done) | rfl
set_option maxRecDepth 65536 in
set_option maxHeartbeats 40000000 in
theorem rm2k3n1 (l : Launch) (Z : State) (a0 : Array Value) (hw : ∀ d ∈ tables_1, d.before a0 Z = true) (t0 : Addr) (va : Addr) (h0 : Heap) (n0 : Nat) (Z0 : n0 ≤ h0.size) (E_t0 : Exa Z h0 t0 "com/example/conflux/conflux/select/Aggregation") (F_ord : Fld Z h0 t0 "java/lang/Enum" "ordinal" "I" (.int (3 : Int32))) (v0 : UInt64) (VA : own_Ar Z h0 va .double (List.map Value.double [v0]))  :
    own_Met l (⟨"com/example/conflux/conflux/select/Aggregation", "aggregate", "([D)D"⟩ : MethodName) prog_61_method_6_code 5 (some .double) ({ frames := 0, cells := 0, slots := 0, locals := 0 } : Room) Z [] #[(.ref t0), (.ref va)] h0 (own_P (some (.double v0)) h0 n0) := by
  refine own_enter pn_2k3n1 ?_
  intro p e s m below meth c s₁ hx hby hml hown hnm hret hlk hZ e0 X0
  rw [ef_2k3n1]
  have N0 := Fr.nil n0
  show own_Fin _ _ _ _ _ _ _ (s₁.setTop (mkF m 0 #[.val (.ref t0), .val (.ref va), .unset, .unset, .unset] []))
  refine own_go (fun _ kk => XS.aloadN X0.here hx rfl (hb hby d2k3n1_0) rfl rfl kk) ?_
  show own_Fin _ _ _ _ _ _ _ (s₁.setTop (mkF m 1 #[.val (.ref t0), .val (.ref va), .unset, .unset, .unset] [(.ref va)]))
  refine own_alen X0 hx hZ e0 VA (hb hby d2k3n1_1) ?_
  show own_Fin _ _ _ _ _ _ _ (s₁.setTop (mkF m 2 #[.val (.ref t0), .val (.ref va), .unset, .unset, .unset] [(.int (1 : Int32))]))
  refine own_go (fun _ kk => XS.ifYes X0.here hx rfl (pc0 := 2) (pc' := 15) rfl (hb hby d2k3n1_2) rfl (XT.i0_ne_t (by decide)) (by decide) (by decide) (XS.aloadN X0.here hx rfl (hb hby d2k3n1_15) rfl rfl (XS.iconst X0.here hx rfl (hb hby d2k3n1_16) kk))) ?_
  show own_Fin _ _ _ _ _ _ _ (s₁.setTop (mkF m 17 #[.val (.ref t0), .val (.ref va), .unset, .unset, .unset] [(.int (0 : Int32)), (.ref va)]))
  refine own_ldD X0 hx hZ e0 VA (by decide) (by show (0 : Int32).toNatClampNeg < 1; decide) (hb hby d2k3n1_17) ?_
  show own_Fin _ _ _ _ _ _ _ (s₁.setTop (mkF m 18 #[.val (.ref t0), .val (.ref va), .unset, .unset, .unset] [(.double v0)]))
  refine own_go (fun _ kk => XS.dstoreN X0.here hx rfl (hb hby d2k3n1_18) rfl (l' := #[.val (.ref t0), .val (.ref va), .val (.double v0), .second, .unset]) rfl (XS.iconst X0.here hx rfl (hb hby d2k3n1_19) (XS.istore X0.here hx rfl (hb hby d2k3n1_20) rfl (l' := #[.val (.ref t0), .val (.ref va), .val (.double v0), .second, .val (.int (1 : Int32))]) rfl (XS.iload X0.here hx rfl (hb hby d2k3n1_22) rfl (XS.aloadN X0.here hx rfl (hb hby d2k3n1_24) rfl rfl kk))))) ?_
  show own_Fin _ _ _ _ _ _ _ (s₁.setTop (mkF m 25 #[.val (.ref t0), .val (.ref va), .val (.double v0), .second, .val (.int (1 : Int32))] [(.ref va), (.int (1 : Int32))]))
  refine own_alen X0 hx hZ e0 VA (hb hby d2k3n1_25) ?_
  show own_Fin _ _ _ _ _ _ _ (s₁.setTop (mkF m 26 #[.val (.ref t0), .val (.ref va), .val (.double v0), .second, .val (.int (1 : Int32))] [(.int (1 : Int32)), (.int (1 : Int32))]))
  refine own_go (fun _ kk => XS.icmpYes X0.here hx rfl (pc0 := 26) (pc' := 45) rfl (hb hby d2k3n1_26) rfl (XT.ii_ge_t (by decide)) (by decide) (by decide) (XS.dloadN X0.here hx rfl (hb hby d2k3n1_45) rfl kk)) ?_
  show own_Fin _ _ _ _ _ _ _ (s₁.setTop (mkF m 46 #[.val (.ref t0), .val (.ref va), .val (.double v0), .second, .val (.int (1 : Int32))] [(.double v0)]))
  exact own_retD X0 hx hlk hret (hb hby d2k3n1_46) (by decide) (by decide) ⟨rfl, N0, e0⟩

theorem d2k3n2_0 : decode prog_61_method_6_code 0 = .ok (.aload_n 1, 1) := by decide +kernel
theorem d2k3n2_1 : decode prog_61_method_6_code 1 = .ok (.arraylength, 1) := by decide +kernel
theorem d2k3n2_2 : decode prog_61_method_6_code 2 = .ok (.ifCond .ne 13, 3) := by decide +kernel
theorem d2k3n2_15 : decode prog_61_method_6_code 15 = .ok (.aload_n 1, 1) := by decide +kernel
theorem d2k3n2_16 : decode prog_61_method_6_code 16 = .ok (.iconst 0, 1) := by decide +kernel
theorem d2k3n2_17 : decode prog_61_method_6_code 17 = .ok (.daload, 1) := by decide +kernel
theorem d2k3n2_18 : decode prog_61_method_6_code 18 = .ok (.dstore_n 2, 1) := by decide +kernel
theorem d2k3n2_19 : decode prog_61_method_6_code 19 = .ok (.iconst 1, 1) := by decide +kernel
theorem d2k3n2_20 : decode prog_61_method_6_code 20 = .ok (.istore 4, 2) := by decide +kernel
theorem d2k3n2_22 : decode prog_61_method_6_code 22 = .ok (.iload 4, 2) := by decide +kernel
theorem d2k3n2_24 : decode prog_61_method_6_code 24 = .ok (.aload_n 1, 1) := by decide +kernel
theorem d2k3n2_25 : decode prog_61_method_6_code 25 = .ok (.arraylength, 1) := by decide +kernel
theorem d2k3n2_26 : decode prog_61_method_6_code 26 = .ok (.if_icmp .ge 19, 3) := by decide +kernel
theorem d2k3n2_29 : decode prog_61_method_6_code 29 = .ok (.aload_n 0, 1) := by decide +kernel
theorem d2k3n2_30 : decode prog_61_method_6_code 30 = .ok (.dload_n 2, 1) := by decide +kernel
theorem d2k3n2_31 : decode prog_61_method_6_code 31 = .ok (.aload_n 1, 1) := by decide +kernel
theorem d2k3n2_32 : decode prog_61_method_6_code 32 = .ok (.iload 4, 2) := by decide +kernel
theorem d2k3n2_34 : decode prog_61_method_6_code 34 = .ok (.daload, 1) := by decide +kernel
theorem d2k3n2_35 : decode prog_61_method_6_code 35 = .ok (.invokevirtual 58, 3) := by decide +kernel
theorem d2k3n2_38 : decode prog_61_method_6_code 38 = .ok (.dstore_n 2, 1) := by decide +kernel
theorem d2k3n2_39 : decode prog_61_method_6_code 39 = .ok (.iinc 4 1, 3) := by decide +kernel
theorem d2k3n2_42 : decode prog_61_method_6_code 42 = .ok (.goto (-20), 3) := by decide +kernel
theorem d2k3n2_45 : decode prog_61_method_6_code 45 = .ok (.dload_n 2, 1) := by decide +kernel
theorem d2k3n2_46 : decode prog_61_method_6_code 46 = .ok (.dreturn, 1) := by decide +kernel
theorem pd_2k3n2_0 : parseMethodDescriptor "(DD)D" = some ⟨[.double, .double], some .double⟩ := by decide +kernel
theorem pn_2k3n2 : plainFor (⟨"com/example/conflux/conflux/select/Aggregation", "aggregate", "([D)D"⟩ : MethodName) = true := plainFor_of_name (by show plainName "com/example/conflux/conflux/select/Aggregation" = true; first | (simp [plainName, overriddenIn]; done) | decide +kernel)
theorem ef_2k3n2 (m : MethodId) (x0 : Addr) (x1 : Addr) : entryFrame m #[(.ref x0), (.ref x1)] 5 = mkF m 0 #[.val (.ref x0), .val (.ref x1), .unset, .unset, .unset] [] := by first | (simp [entryFrame, mkF, argsToLocals, Value.category]; done) | rfl
set_option maxRecDepth 65536 in
set_option maxHeartbeats 40000000 in
theorem rm2k3n2 (l : Launch) (Z : State) (a0 : Array Value) (hw : ∀ d ∈ tables_1, d.before a0 Z = true) (t0 : Addr) (va : Addr) (h0 : Heap) (n0 : Nat) (Z0 : n0 ≤ h0.size) (E_t0 : Exa Z h0 t0 "com/example/conflux/conflux/select/Aggregation") (F_ord : Fld Z h0 t0 "java/lang/Enum" "ordinal" "I" (.int (3 : Int32))) (v0 : UInt64) (v1 : UInt64) (VA : own_Ar Z h0 va .double (List.map Value.double [v0, v1])) (np0 : Jvm.Free.Fl.NoNaN64 (FP.dadd v0 v1)) :
    own_Met l (⟨"com/example/conflux/conflux/select/Aggregation", "aggregate", "([D)D"⟩ : MethodName) prog_61_method_6_code 5 (some .double) ({ frames := 2, cells := 0, slots := 0, locals := 28 } : Room) Z [] #[(.ref t0), (.ref va)] h0 (own_P (some (.double (FP.dadd v0 v1))) h0 n0) := by
  refine own_enter pn_2k3n2 ?_
  intro p e s m below meth c s₁ hx hby hml hown hnm hret hlk hZ e0 X0
  rw [ef_2k3n2]
  have N0 := Fr.nil n0
  show own_Fin _ _ _ _ _ _ _ (s₁.setTop (mkF m 0 #[.val (.ref t0), .val (.ref va), .unset, .unset, .unset] []))
  refine own_go (fun _ kk => XS.aloadN X0.here hx rfl (hb hby d2k3n2_0) rfl rfl kk) ?_
  show own_Fin _ _ _ _ _ _ _ (s₁.setTop (mkF m 1 #[.val (.ref t0), .val (.ref va), .unset, .unset, .unset] [(.ref va)]))
  refine own_alen X0 hx hZ e0 VA (hb hby d2k3n2_1) ?_
  show own_Fin _ _ _ _ _ _ _ (s₁.setTop (mkF m 2 #[.val (.ref t0), .val (.ref va), .unset, .unset, .unset] [(.int (2 : Int32))]))
  refine own_go (fun _ kk => XS.ifYes X0.here hx rfl (pc0 := 2) (pc' := 15) rfl (hb hby d2k3n2_2) rfl (XT.i0_ne_t (by decide)) (by decide) (by decide) (XS.aloadN X0.here hx rfl (hb hby d2k3n2_15) rfl rfl (XS.iconst X0.here hx rfl (hb hby d2k3n2_16) kk))) ?_
  show own_Fin _ _ _ _ _ _ _ (s₁.setTop (mkF m 17 #[.val (.ref t0), .val (.ref va), .unset, .unset, .unset] [(.int (0 : Int32)), (.ref va)]))
  refine own_ldD X0 hx hZ e0 VA (by decide) (by show (0 : Int32).toNatClampNeg < 2; decide) (hb hby d2k3n2_17) ?_
  show own_Fin _ _ _ _ _ _ _ (s₁.setTop (mkF m 18 #[.val (.ref t0), .val (.ref va), .unset, .unset, .unset] [(.double v0)]))
  refine own_go (fun _ kk => XS.dstoreN X0.here hx rfl (hb hby d2k3n2_18) rfl (l' := #[.val (.ref t0), .val (.ref va), .val (.double v0), .second, .unset]) rfl (XS.iconst X0.here hx rfl (hb hby d2k3n2_19) (XS.istore X0.here hx rfl (hb hby d2k3n2_20) rfl (l' := #[.val (.ref t0), .val (.ref va), .val (.double v0), .second, .val (.int (1 : Int32))]) rfl (XS.iload X0.here hx rfl (hb hby d2k3n2_22) rfl (XS.aloadN X0.here hx rfl (hb hby d2k3n2_24) rfl rfl kk))))) ?_
  show own_Fin _ _ _ _ _ _ _ (s₁.setTop (mkF m 25 #[.val (.ref t0), .val (.ref va), .val (.double v0), .second, .val (.int (1 : Int32))] [(.ref va), (.int (1 : Int32))]))
  refine own_alen X0 hx hZ e0 VA (hb hby d2k3n2_25) ?_
  show own_Fin _ _ _ _ _ _ _ (s₁.setTop (mkF m 26 #[.val (.ref t0), .val (.ref va), .val (.double v0), .second, .val (.int (1 : Int32))] [(.int (2 : Int32)), (.int (1 : Int32))]))
  refine own_go (fun _ kk => XS.icmpNo X0.here hx rfl (hb hby d2k3n2_26) rfl (XT.ii_ge_f (by decide)) (XS.aloadN X0.here hx rfl (hb hby d2k3n2_29) rfl rfl (XS.dloadN X0.here hx rfl (hb hby d2k3n2_30) rfl (XS.aloadN X0.here hx rfl (hb hby d2k3n2_31) rfl rfl (XS.iload X0.here hx rfl (hb hby d2k3n2_32) rfl kk))))) ?_
  show own_Fin _ _ _ _ _ _ _ (s₁.setTop (mkF m 34 #[.val (.ref t0), .val (.ref va), .val (.double v0), .second, .val (.int (1 : Int32))] [(.int (1 : Int32)), (.ref va), (.double v0), (.ref t0)]))
  refine own_ldD X0 hx hZ e0 VA (by decide) (by show (1 : Int32).toNatClampNeg < 2; decide) (hb hby d2k3n2_34) ?_
  show own_Fin _ _ _ _ _ _ _ (s₁.setTop (mkF m 35 #[.val (.ref t0), .val (.ref va), .val (.double v0), .second, .val (.int (1 : Int32))] [(.double v1), (.double v0), (.ref t0)]))
  refine own_callP X0 hx hZ hown (hw _ (List.mem_of_getElem? (i := 19) rfl)) (hw _ (List.mem_of_getElem? (i := 20) rfl)) (own_selP (z := (⟨"com/example/conflux/conflux/select/Aggregation", "aggregate", "([D)D"⟩ : MethodName)) rfl (hw _ (List.mem_of_getElem? (i := 12) rfl)) (hw _ (List.mem_of_getElem? (i := 20) rfl)) (hw _ (List.mem_of_getElem? (i := 21) rfl)) (hw _ (List.mem_of_getElem? (i := 11) rfl)) (by decide)) (hw _ (List.mem_of_getElem? (i := 21) rfl)) (hw _ (List.mem_of_getElem? (i := 22) rfl)) (hw _ (List.mem_of_getElem? (i := 6) rfl)) (by decide) (rm4o3 l Z a0 hw t0 v0 v1 h0 n0 Z0 E_t0 F_ord np0) e0 E_t0 (argsL := [(.double v0), (.double v1)]) (rest := []) rfl rfl (by rw [hml]; rfl) (lenOf pd_2k3n2_0 rfl) (hb hby d2k3n2_35) (W := 0) (Nat.le_of_eq rfl) (by decide) (by decide) (by decide) (by decide) ?_
  rintro v1 T1 L1 X1 ⟨rfl, M1, e1⟩
  have N1 := Fr.app N0 M1
  show own_Fin _ _ _ _ _ _ _ (T1.setTop (mkF m 38 #[.val (.ref t0), .val (.ref va), .val (.double v0), .second, .val (.int (1 : Int32))] [(.double (FP.dadd v0 v1))]))
  refine own_go (fun _ kk => XS.dstoreN X1.here hx rfl (hb hby d2k3n2_38) rfl (l' := #[.val (.ref t0), .val (.ref va), .val (.double (FP.dadd v0 v1)), .second, .val (.int (1 : Int32))]) rfl (XS.iinc X1.here hx rfl (hb hby d2k3n2_39) rfl (l' := #[.val (.ref t0), .val (.ref va), .val (.double (FP.dadd v0 v1)), .second, .val (.int (2 : Int32))]) rfl (XS.goto X1.here hx rfl (pc0 := 42) (pc' := 22) rfl (hb hby d2k3n2_42) (by decide) (by decide) (XS.iload X1.here hx rfl (hb hby d2k3n2_22) rfl (XS.aloadN X1.here hx rfl (hb hby d2k3n2_24) rfl rfl kk))))) ?_
  show own_Fin _ _ _ _ _ _ _ (T1.setTop (mkF m 25 #[.val (.ref t0), .val (.ref va), .val (.double (FP.dadd v0 v1)), .second, .val (.int (2 : Int32))] [(.ref va), (.int (2 : Int32))]))
  refine own_alen X1 hx hZ e1 VA (hb hby d2k3n2_25) ?_
  show own_Fin _ _ _ _ _ _ _ (T1.setTop (mkF m 26 #[.val (.ref t0), .val (.ref va), .val (.double (FP.dadd v0 v1)), .second, .val (.int (2 : Int32))] [(.int (2 : Int32)), (.int (2 : Int32))]))
  refine own_go (fun _ kk => XS.icmpYes X1.here hx rfl (pc0 := 26) (pc' := 45) rfl (hb hby d2k3n2_26) rfl (XT.ii_ge_t (by decide)) (by decide) (by decide) (XS.dloadN X1.here hx rfl (hb hby d2k3n2_45) rfl kk)) ?_
  show own_Fin _ _ _ _ _ _ _ (T1.setTop (mkF m 46 #[.val (.ref t0), .val (.ref va), .val (.double (FP.dadd v0 v1)), .second, .val (.int (2 : Int32))] [(.double (FP.dadd v0 v1))]))
  exact own_retD X1 hx hlk hret (hb hby d2k3n2_46) (by decide) (by decide) ⟨rfl, N1, e1⟩

theorem d2k3n3_0 : decode prog_61_method_6_code 0 = .ok (.aload_n 1, 1) := by decide +kernel
theorem d2k3n3_1 : decode prog_61_method_6_code 1 = .ok (.arraylength, 1) := by decide +kernel
theorem d2k3n3_2 : decode prog_61_method_6_code 2 = .ok (.ifCond .ne 13, 3) := by decide +kernel
theorem d2k3n3_15 : decode prog_61_method_6_code 15 = .ok (.aload_n 1, 1) := by decide +kernel
theorem d2k3n3_16 : decode prog_61_method_6_code 16 = .ok (.iconst 0, 1) := by decide +kernel
theorem d2k3n3_17 : decode prog_61_method_6_code 17 = .ok (.daload, 1) := by decide +kernel
theorem d2k3n3_18 : decode prog_61_method_6_code 18 = .ok (.dstore_n 2, 1) := by decide +kernel
theorem d2k3n3_19 : decode prog_61_method_6_code 19 = .ok (.iconst 1, 1) := by decide +kernel
theorem d2k3n3_20 : decode prog_61_method_6_code 20 = .ok (.istore 4, 2) := by decide +kernel
theorem d2k3n3_22 : decode prog_61_method_6_code 22 = .ok (.iload 4, 2) := by decide +kernel
theorem d2k3n3_24 : decode prog_61_method_6_code 24 = .ok (.aload_n 1, 1) := by decide +kernel
theorem d2k3n3_25 : decode prog_61_method_6_code 25 = .ok (.arraylength, 1) := by decide +kernel
theorem d2k3n3_26 : decode prog_61_method_6_code 26 = .ok (.if_icmp .ge 19, 3) := by decide +kernel
theorem d2k3n3_29 : decode prog_61_method_6_code 29 = .ok (.aload_n 0, 1) := by decide +kernel
theorem d2k3n3_30 : decode prog_61_method_6_code 30 = .ok (.dload_n 2, 1) := by decide +kernel
theorem d2k3n3_31 : decode prog_61_method_6_code 31 = .ok (.aload_n 1, 1) := by decide +kernel
theorem d2k3n3_32 : decode prog_61_method_6_code 32 = .ok (.iload 4, 2) := by decide +kernel
theorem d2k3n3_34 : decode prog_61_method_6_code 34 = .ok (.daload, 1) := by decide +kernel
theorem d2k3n3_35 : decode prog_61_method_6_code 35 = .ok (.invokevirtual 58, 3) := by decide +kernel
theorem d2k3n3_38 : decode prog_61_method_6_code 38 = .ok (.dstore_n 2, 1) := by decide +kernel
theorem d2k3n3_39 : decode prog_61_method_6_code 39 = .ok (.iinc 4 1, 3) := by decide +kernel
theorem d2k3n3_42 : decode prog_61_method_6_code 42 = .ok (.goto (-20), 3) := by decide +kernel
theorem d2k3n3_45 : decode prog_61_method_6_code 45 = .ok (.dload_n 2, 1) := by decide +kernel
theorem d2k3n3_46 : decode prog_61_method_6_code 46 = .ok (.dreturn, 1) := by decide +kernel
theorem pd_2k3n3_0 : parseMethodDescriptor "(DD)D" = some ⟨[.double, .double], some .double⟩ := by decide +kernel
theorem pn_2k3n3 : plainFor (⟨"com/example/conflux/conflux/select/Aggregation", "aggregate", "([D)D"⟩ : MethodName) = true := plainFor_of_name (by show plainName "com/example/conflux/conflux/select/Aggregation" = true; first | (simp [plainName, overriddenIn]; done) | decide +kernel)
theorem ef_2k3n3 (m : MethodId) (x0 : Addr) (x1 : Addr) : entryFrame m #[(.ref x0), (.ref x1)] 5 = mkF m 0 #[.val (.ref x0), .val (.ref x1), .unset, .unset, .unset] [] := by first | (simp [entryFrame, mkF, argsToLocals, Value.category]; done) | rfl
set_option maxRecDepth 65536 in
set_option maxHeartbeats 40000000 in
theorem rm2k3n3 (l : Launch) (Z : State) (a0 : Array Value) (hw : ∀ d ∈ tables_1, d.before a0 Z = true) (t0 : Addr) (va : Addr) (h0 : Heap) (n0 : Nat) (Z0 : n0 ≤ h0.size) (E_t0 : Exa Z h0 t0 "com/example/conflux/conflux/select/Aggregation") (F_ord : Fld Z h0 t0 "java/lang/Enum" "ordinal" "I" (.int (3 : Int32))) (v0 : UInt64) (v1 : UInt64) (v2 : UInt64) (VA : own_Ar Z h0 va .double (List.map Value.double [v0, v1, v2])) (np0 : Jvm.Free.Fl.NoNaN64 (FP.dadd v0 v1)) (np1 : Jvm.Free.Fl.NoNaN64 (FP.dadd (FP.dadd v0 v1) v2)) :
    own_Met l (⟨"com/example/conflux/conflux/select/Aggregation", "aggregate", "([D)D"⟩ : MethodName) prog_61_method_6_code 5 (some .double) ({ frames := 2, cells := 0, slots := 0, locals := 28 } : Room) Z [] #[(.ref t0), (.ref va)] h0 (own_P (some (.double (FP.dadd (FP.dadd v0 v1) v2))) h0 n0) := by
  refine own_enter pn_2k3n3 ?_
  intro p e s m below meth c s₁ hx hby hml hown hnm hret hlk hZ e0 X0
  rw [ef_2k3n3]
  have N0 := Fr.nil n0
  show own_Fin _ _ _ _ _ _ _ (s₁.setTop (mkF m 0 #[.val (.ref t0), .val (.ref va), .unset, .unset, .unset] []))
  refine own_go (fun _ kk => XS.aloadN X0.here hx rfl (hb hby d2k3n3_0) rfl rfl kk) ?_
  show own_Fin _ _ _ _ _ _ _ (s₁.setTop (mkF m 1 #[.val (.ref t0), .val (.ref va), .unset, .unset, .unset] [(.ref va)]))
  refine own_alen X0 hx hZ e0 VA (hb hby d2k3n3_1) ?_
  show own_Fin _ _ _ _ _ _ _ (s₁.setTop (mkF m 2 #[.val (.ref t0), .val (.ref va), .unset, .unset, .unset] [(.int (3 : Int32))]))
  refine own_go (fun _ kk => XS.ifYes X0.here hx rfl (pc0 := 2) (pc' := 15) rfl (hb hby d2k3n3_2) rfl (XT.i0_ne_t (by decide)) (by decide) (by decide) (XS.aloadN X0.here hx rfl (hb hby d2k3n3_15) rfl rfl (XS.iconst X0.here hx rfl (hb hby d2k3n3_16) kk))) ?_
  show own_Fin _ _ _ _ _ _ _ (s₁.setTop (mkF m 17 #[.val (.ref t0), .val (.ref va), .unset, .unset, .unset] [(.int (0 : Int32)), (.ref va)]))
  refine own_ldD X0 hx hZ e0 VA (by decide) (by show (0 : Int32).toNatClampNeg < 3; decide) (hb hby d2k3n3_17) ?_
  show own_Fin _ _ _ _ _ _ _ (s₁.setTop (mkF m 18 #[.val (.ref t0), .val (.ref va), .unset, .unset, .unset] [(.double v0)]))
  refine own_go (fun _ kk => XS.dstoreN X0.here hx rfl (hb hby d2k3n3_18) rfl (l' := #[.val (.ref t0), .val (.ref va), .val (.double v0), .second, .unset]) rfl (XS.iconst X0.here hx rfl (hb hby d2k3n3_19) (XS.istore X0.here hx rfl (hb hby d2k3n3_20) rfl (l' := #[.val (.ref t0), .val (.ref va), .val (.double v0), .second, .val (.int (1 : Int32))]) rfl (XS.iload X0.here hx rfl (hb hby d2k3n3_22) rfl (XS.aloadN X0.here hx rfl (hb hby d2k3n3_24) rfl rfl kk))))) ?_
  show own_Fin _ _ _ _ _ _ _ (s₁.setTop (mkF m 25 #[.val (.ref t0), .val (.ref va), .val (.double v0), .second, .val (.int (1 : Int32))] [(.ref va), (.int (1 : Int32))]))
  refine own_alen X0 hx hZ e0 VA (hb hby d2k3n3_25) ?_
  show own_Fin _ _ _ _ _ _ _ (s₁.setTop (mkF m 26 #[.val (.ref t0), .val (.ref va), .val (.double v0), .second, .val (.int (1 : Int32))] [(.int (3 : Int32)), (.int (1 : Int32))]))
  refine own_go (fun _ kk => XS.icmpNo X0.here hx rfl (hb hby d2k3n3_26) rfl (XT.ii_ge_f (by decide)) (XS.aloadN X0.here hx rfl (hb hby d2k3n3_29) rfl rfl (XS.dloadN X0.here hx rfl (hb hby d2k3n3_30) rfl (XS.aloadN X0.here hx rfl (hb hby d2k3n3_31) rfl rfl (XS.iload X0.here hx rfl (hb hby d2k3n3_32) rfl kk))))) ?_
  show own_Fin _ _ _ _ _ _ _ (s₁.setTop (mkF m 34 #[.val (.ref t0), .val (.ref va), .val (.double v0), .second, .val (.int (1 : Int32))] [(.int (1 : Int32)), (.ref va), (.double v0), (.ref t0)]))
  refine own_ldD X0 hx hZ e0 VA (by decide) (by show (1 : Int32).toNatClampNeg < 3; decide) (hb hby d2k3n3_34) ?_
  show own_Fin _ _ _ _ _ _ _ (s₁.setTop (mkF m 35 #[.val (.ref t0), .val (.ref va), .val (.double v0), .second, .val (.int (1 : Int32))] [(.double v1), (.double v0), (.ref t0)]))
  refine own_callP X0 hx hZ hown (hw _ (List.mem_of_getElem? (i := 19) rfl)) (hw _ (List.mem_of_getElem? (i := 20) rfl)) (own_selP (z := (⟨"com/example/conflux/conflux/select/Aggregation", "aggregate", "([D)D"⟩ : MethodName)) rfl (hw _ (List.mem_of_getElem? (i := 12) rfl)) (hw _ (List.mem_of_getElem? (i := 20) rfl)) (hw _ (List.mem_of_getElem? (i := 21) rfl)) (hw _ (List.mem_of_getElem? (i := 11) rfl)) (by decide)) (hw _ (List.mem_of_getElem? (i := 21) rfl)) (hw _ (List.mem_of_getElem? (i := 22) rfl)) (hw _ (List.mem_of_getElem? (i := 6) rfl)) (by decide) (rm4o3 l Z a0 hw t0 v0 v1 h0 n0 Z0 E_t0 F_ord np0) e0 E_t0 (argsL := [(.double v0), (.double v1)]) (rest := []) rfl rfl (by rw [hml]; rfl) (lenOf pd_2k3n3_0 rfl) (hb hby d2k3n3_35) (W := 0) (Nat.le_of_eq rfl) (by decide) (by decide) (by decide) (by decide) ?_
  rintro v1 T1 L1 X1 ⟨rfl, M1, e1⟩
  have N1 := Fr.app N0 M1
  show own_Fin _ _ _ _ _ _ _ (T1.setTop (mkF m 38 #[.val (.ref t0), .val (.ref va), .val (.double v0), .second, .val (.int (1 : Int32))] [(.double (FP.dadd v0 v1))]))
  refine own_go (fun _ kk => XS.dstoreN X1.here hx rfl (hb hby d2k3n3_38) rfl (l' := #[.val (.ref t0), .val (.ref va), .val (.double (FP.dadd v0 v1)), .second, .val (.int (1 : Int32))]) rfl (XS.iinc X1.here hx rfl (hb hby d2k3n3_39) rfl (l' := #[.val (.ref t0), .val (.ref va), .val (.double (FP.dadd v0 v1)), .second, .val (.int (2 : Int32))]) rfl (XS.goto X1.here hx rfl (pc0 := 42) (pc' := 22) rfl (hb hby d2k3n3_42) (by decide) (by decide) (XS.iload X1.here hx rfl (hb hby d2k3n3_22) rfl (XS.aloadN X1.here hx rfl (hb hby d2k3n3_24) rfl rfl kk))))) ?_
  show own_Fin _ _ _ _ _ _ _ (T1.setTop (mkF m 25 #[.val (.ref t0), .val (.ref va), .val (.double (FP.dadd v0 v1)), .second, .val (.int (2 : Int32))] [(.ref va), (.int (2 : Int32))]))
  refine own_alen X1 hx hZ e1 VA (hb hby d2k3n3_25) ?_
  show own_Fin _ _ _ _ _ _ _ (T1.setTop (mkF m 26 #[.val (.ref t0), .val (.ref va), .val (.double (FP.dadd v0 v1)), .second, .val (.int (2 : Int32))] [(.int (3 : Int32)), (.int (2 : Int32))]))
  refine own_go (fun _ kk => XS.icmpNo X1.here hx rfl (hb hby d2k3n3_26) rfl (XT.ii_ge_f (by decide)) (XS.aloadN X1.here hx rfl (hb hby d2k3n3_29) rfl rfl (XS.dloadN X1.here hx rfl (hb hby d2k3n3_30) rfl (XS.aloadN X1.here hx rfl (hb hby d2k3n3_31) rfl rfl (XS.iload X1.here hx rfl (hb hby d2k3n3_32) rfl kk))))) ?_
  show own_Fin _ _ _ _ _ _ _ (T1.setTop (mkF m 34 #[.val (.ref t0), .val (.ref va), .val (.double (FP.dadd v0 v1)), .second, .val (.int (2 : Int32))] [(.int (2 : Int32)), (.ref va), (.double (FP.dadd v0 v1)), (.ref t0)]))
  refine own_ldD X1 hx hZ e1 VA (by decide) (by show (2 : Int32).toNatClampNeg < 3; decide) (hb hby d2k3n3_34) ?_
  show own_Fin _ _ _ _ _ _ _ (T1.setTop (mkF m 35 #[.val (.ref t0), .val (.ref va), .val (.double (FP.dadd v0 v1)), .second, .val (.int (2 : Int32))] [(.double v2), (.double (FP.dadd v0 v1)), (.ref t0)]))
  refine own_callP X1 hx hZ hown (hw _ (List.mem_of_getElem? (i := 19) rfl)) (hw _ (List.mem_of_getElem? (i := 20) rfl)) (own_selP (z := (⟨"com/example/conflux/conflux/select/Aggregation", "aggregate", "([D)D"⟩ : MethodName)) rfl (hw _ (List.mem_of_getElem? (i := 12) rfl)) (hw _ (List.mem_of_getElem? (i := 20) rfl)) (hw _ (List.mem_of_getElem? (i := 21) rfl)) (hw _ (List.mem_of_getElem? (i := 11) rfl)) (by decide)) (hw _ (List.mem_of_getElem? (i := 21) rfl)) (hw _ (List.mem_of_getElem? (i := 22) rfl)) (hw _ (List.mem_of_getElem? (i := 6) rfl)) (by decide) (rm4o3 l Z a0 hw t0 (FP.dadd v0 v1) v2 h0 n0 Z0 E_t0 F_ord np1) e1 E_t0 (argsL := [(.double (FP.dadd v0 v1)), (.double v2)]) (rest := []) rfl rfl (by rw [hml]; rfl) (lenOf pd_2k3n3_0 rfl) (hb hby d2k3n3_35) (W := 0) (Nat.le_of_eq rfl) (by decide) (by decide) (by decide) (by decide) ?_
  rintro v2 T2 L2 X2 ⟨rfl, M2, e2⟩
  have N2 := Fr.app N1 M2
  show own_Fin _ _ _ _ _ _ _ (T2.setTop (mkF m 38 #[.val (.ref t0), .val (.ref va), .val (.double (FP.dadd v0 v1)), .second, .val (.int (2 : Int32))] [(.double (FP.dadd (FP.dadd v0 v1) v2))]))
  refine own_go (fun _ kk => XS.dstoreN X2.here hx rfl (hb hby d2k3n3_38) rfl (l' := #[.val (.ref t0), .val (.ref va), .val (.double (FP.dadd (FP.dadd v0 v1) v2)), .second, .val (.int (2 : Int32))]) rfl (XS.iinc X2.here hx rfl (hb hby d2k3n3_39) rfl (l' := #[.val (.ref t0), .val (.ref va), .val (.double (FP.dadd (FP.dadd v0 v1) v2)), .second, .val (.int (3 : Int32))]) rfl (XS.goto X2.here hx rfl (pc0 := 42) (pc' := 22) rfl (hb hby d2k3n3_42) (by decide) (by decide) (XS.iload X2.here hx rfl (hb hby d2k3n3_22) rfl (XS.aloadN X2.here hx rfl (hb hby d2k3n3_24) rfl rfl kk))))) ?_
  show own_Fin _ _ _ _ _ _ _ (T2.setTop (mkF m 25 #[.val (.ref t0), .val (.ref va), .val (.double (FP.dadd (FP.dadd v0 v1) v2)), .second, .val (.int (3 : Int32))] [(.ref va), (.int (3 : Int32))]))
  refine own_alen X2 hx hZ e2 VA (hb hby d2k3n3_25) ?_
  show own_Fin _ _ _ _ _ _ _ (T2.setTop (mkF m 26 #[.val (.ref t0), .val (.ref va), .val (.double (FP.dadd (FP.dadd v0 v1) v2)), .second, .val (.int (3 : Int32))] [(.int (3 : Int32)), (.int (3 : Int32))]))
  refine own_go (fun _ kk => XS.icmpYes X2.here hx rfl (pc0 := 26) (pc' := 45) rfl (hb hby d2k3n3_26) rfl (XT.ii_ge_t (by decide)) (by decide) (by decide) (XS.dloadN X2.here hx rfl (hb hby d2k3n3_45) rfl kk)) ?_
  show own_Fin _ _ _ _ _ _ _ (T2.setTop (mkF m 46 #[.val (.ref t0), .val (.ref va), .val (.double (FP.dadd (FP.dadd v0 v1) v2)), .second, .val (.int (3 : Int32))] [(.double (FP.dadd (FP.dadd v0 v1) v2))]))
  exact own_retD X2 hx hlk hret (hb hby d2k3n3_46) (by decide) (by decide) ⟨rfl, N2, e2⟩

theorem d3_0 : decode method_3_code 0 = .ok (.iload_n 0, 1) := by decide +kernel
theorem d3_1 : decode method_3_code 1 = .ok (.ifCond .eq 8, 3) := by decide +kernel
theorem d3_4 : decode method_3_code 4 = .ok (.iload_n 0, 1) := by decide +kernel
theorem d3_5 : decode method_3_code 5 = .ok (.iconst 3, 1) := by decide +kernel
theorem d3_6 : decode method_3_code 6 = .ok (.if_icmp .ne 28, 3) := by decide +kernel
theorem d3_9 : decode method_3_code 9 = .ok (.iload_n 1, 1) := by decide +kernel
theorem d3_10 : decode method_3_code 10 = .ok (.iconst 1, 1) := by decide +kernel
theorem d3_11 : decode method_3_code 11 = .ok (.if_icmp .ne 5, 3) := by decide +kernel
theorem d3_14 : decode method_3_code 14 = .ok (.lload_n 2, 1) := by decide +kernel
theorem d3_15 : decode method_3_code 15 = .ok (.lreturn, 1) := by decide +kernel
theorem d3_16 : decode method_3_code 16 = .ok (.iload_n 1, 1) := by decide +kernel
theorem d3_17 : decode method_3_code 17 = .ok (.iconst 2, 1) := by decide +kernel
theorem d3_18 : decode method_3_code 18 = .ok (.if_icmp .ne 8, 3) := by decide +kernel
theorem d3_21 : decode method_3_code 21 = .ok (.lload_n 2, 1) := by decide +kernel
theorem d3_22 : decode method_3_code 22 = .ok (.lload 4, 2) := by decide +kernel
theorem d3_24 : decode method_3_code 24 = .ok (.ladd, 1) := by decide +kernel
theorem d3_25 : decode method_3_code 25 = .ok (.lreturn, 1) := by decide +kernel
theorem d3_26 : decode method_3_code 26 = .ok (.lload_n 2, 1) := by decide +kernel
theorem d3_27 : decode method_3_code 27 = .ok (.lload 4, 2) := by decide +kernel
theorem d3_29 : decode method_3_code 29 = .ok (.ladd, 1) := by decide +kernel
theorem d3_30 : decode method_3_code 30 = .ok (.lload 6, 2) := by decide +kernel
theorem d3_32 : decode method_3_code 32 = .ok (.ladd, 1) := by decide +kernel
theorem d3_33 : decode method_3_code 33 = .ok (.lreturn, 1) := by decide +kernel
theorem d3_34 : decode method_3_code 34 = .ok (.iload_n 0, 1) := by decide +kernel
theorem d3_35 : decode method_3_code 35 = .ok (.iconst 1, 1) := by decide +kernel
theorem d3_36 : decode method_3_code 36 = .ok (.if_icmp .ne 28, 3) := by decide +kernel
theorem d3_39 : decode method_3_code 39 = .ok (.iload_n 1, 1) := by decide +kernel
theorem d3_40 : decode method_3_code 40 = .ok (.iconst 1, 1) := by decide +kernel
theorem d3_41 : decode method_3_code 41 = .ok (.if_icmp .ne 5, 3) := by decide +kernel
theorem d3_44 : decode method_3_code 44 = .ok (.lload_n 2, 1) := by decide +kernel
theorem d3_45 : decode method_3_code 45 = .ok (.lreturn, 1) := by decide +kernel
theorem d3_46 : decode method_3_code 46 = .ok (.iload_n 1, 1) := by decide +kernel
theorem d3_47 : decode method_3_code 47 = .ok (.iconst 2, 1) := by decide +kernel
theorem d3_48 : decode method_3_code 48 = .ok (.if_icmp .ne 8, 3) := by decide +kernel
theorem d3_51 : decode method_3_code 51 = .ok (.lload_n 2, 1) := by decide +kernel
theorem d3_52 : decode method_3_code 52 = .ok (.lload 4, 2) := by decide +kernel
theorem d3_54 : decode method_3_code 54 = .ok (.lmul, 1) := by decide +kernel
theorem d3_55 : decode method_3_code 55 = .ok (.lreturn, 1) := by decide +kernel
theorem d3_56 : decode method_3_code 56 = .ok (.lload_n 2, 1) := by decide +kernel
theorem d3_57 : decode method_3_code 57 = .ok (.lload 4, 2) := by decide +kernel
theorem d3_59 : decode method_3_code 59 = .ok (.lmul, 1) := by decide +kernel
theorem d3_60 : decode method_3_code 60 = .ok (.lload 6, 2) := by decide +kernel
theorem d3_62 : decode method_3_code 62 = .ok (.lmul, 1) := by decide +kernel
theorem d3_63 : decode method_3_code 63 = .ok (.lreturn, 1) := by decide +kernel
theorem d3_64 : decode method_3_code 64 = .ok (.lload_n 2, 1) := by decide +kernel
theorem d3_65 : decode method_3_code 65 = .ok (.lstore 8, 2) := by decide +kernel
theorem d3_67 : decode method_3_code 67 = .ok (.iload_n 1, 1) := by decide +kernel
theorem d3_68 : decode method_3_code 68 = .ok (.iconst 2, 1) := by decide +kernel
theorem d3_69 : decode method_3_code 69 = .ok (.if_icmp .lt 15, 3) := by decide +kernel
theorem d3_72 : decode method_3_code 72 = .ok (.lload 4, 2) := by decide +kernel
theorem d3_74 : decode method_3_code 74 = .ok (.lload 8, 2) := by decide +kernel
theorem d3_76 : decode method_3_code 76 = .ok (.lcmp, 1) := by decide +kernel
theorem d3_77 : decode method_3_code 77 = .ok (.ifCond .ge 7, 3) := by decide +kernel
theorem d3_80 : decode method_3_code 80 = .ok (.lload 4, 2) := by decide +kernel
theorem d3_82 : decode method_3_code 82 = .ok (.lstore 8, 2) := by decide +kernel
theorem d3_84 : decode method_3_code 84 = .ok (.iload_n 1, 1) := by decide +kernel
theorem d3_85 : decode method_3_code 85 = .ok (.iconst 3, 1) := by decide +kernel
theorem d3_86 : decode method_3_code 86 = .ok (.if_icmp .lt 15, 3) := by decide +kernel
theorem d3_89 : decode method_3_code 89 = .ok (.lload 6, 2) := by decide +kernel
theorem d3_91 : decode method_3_code 91 = .ok (.lload 8, 2) := by decide +kernel
theorem d3_93 : decode method_3_code 93 = .ok (.lcmp, 1) := by decide +kernel
theorem d3_94 : decode method_3_code 94 = .ok (.ifCond .ge 7, 3) := by decide +kernel
theorem d3_97 : decode method_3_code 97 = .ok (.lload 6, 2) := by decide +kernel
theorem d3_99 : decode method_3_code 99 = .ok (.lstore 8, 2) := by decide +kernel
theorem d3_101 : decode method_3_code 101 = .ok (.lload 8, 2) := by decide +kernel
theorem d3_103 : decode method_3_code 103 = .ok (.lreturn, 1) := by decide +kernel
theorem pn_3 : plainFor (⟨"com/example/conflux/conflux/select/AggregationAggregatePinLaw", "expected", "(IIJJJ)J"⟩ : MethodName) = true := plainFor_of_name (by show plainName "com/example/conflux/conflux/select/AggregationAggregatePinLaw" = true; first | (simp [plainName, overriddenIn]; done) | decide +kernel)
theorem ef_3 (m : MethodId) (x0 : Int32) (x1 : Int32) (x2 : Int64) (x3 : Int64) (x4 : Int64) : entryFrame m #[(.int x0), (.int x1), (.long x2), (.long x3), (.long x4)] 10 = mkF m 0 #[.val (.int x0), .val (.int x1), .val (.long x2), .second, .val (.long x3), .second, .val (.long x4), .second, .unset, .unset] [] := by first | (simp [entryFrame, mkF, argsToLocals, Value.category]; done) | rfl
def own_f3 (p0 : Int32) (p1 : Int32) (q2 : Int64) (q3 : Int64) (q4 : Int64) : Int64 :=
  if p0 = 0 then
    if p1 = (1 : Int32) then
      q2
    else
      if p1 = (2 : Int32) then
        (q2 + q3)
      else
        ((q2 + q3) + q4)
  else
    if p0 = (3 : Int32) then
      if p1 = (1 : Int32) then
        q2
      else
        if p1 = (2 : Int32) then
          (q2 + q3)
        else
          ((q2 + q3) + q4)
    else
      if p0 = (1 : Int32) then
        if p1 = (1 : Int32) then
          q2
        else
          if p1 = (2 : Int32) then
            (q2 * q3)
          else
            ((q2 * q3) * q4)
      else
        if p1 < (2 : Int32) then
          if p1 < (3 : Int32) then
            q2
          else
            if q4 < q2 then
              q4
            else
              q2
        else
          if q3 < q2 then
            if p1 < (3 : Int32) then
              q3
            else
              if q4 < q3 then
                q4
              else
                q3
          else
            if p1 < (3 : Int32) then
              q2
            else
              if q4 < q2 then
                q4
              else
                q2
set_option maxRecDepth 65536 in
set_option maxHeartbeats 40000000 in
theorem rm3 (l : Launch) (Z : State) (a0 : Array Value) (hw : ∀ d ∈ tables_1, d.before a0 Z = true) (p0 : Int32) (p1 : Int32) (q2 : Int64) (q3 : Int64) (q4 : Int64) (h0 : Heap) (n0 : Nat) (Z0 : n0 ≤ h0.size) :
    own_Met l (⟨"com/example/conflux/conflux/select/AggregationAggregatePinLaw", "expected", "(IIJJJ)J"⟩ : MethodName) method_3_code 10 (some .long) ({ frames := 0, cells := 0, slots := 0, locals := 0 } : Room) Z [] #[(.int p0), (.int p1), (.long q2), (.long q3), (.long q4)] h0 (own_P (some (.long (own_f3 p0 p1 q2 q3 q4))) h0 n0) := by
  refine own_enter pn_3 ?_
  intro p e s m below meth c s₁ hx hby hml hown hnm hret hlk hZ e0 X0
  rw [ef_3]
  have N0 := Fr.nil n0
  show own_Fin _ _ _ _ _ _ _ (s₁.setTop (mkF m 0 #[.val (.int p0), .val (.int p1), .val (.long q2), .second, .val (.long q3), .second, .val (.long q4), .second, .unset, .unset] []))
  refine own_go (fun _ kk => XS.iloadN X0.here hx rfl (hb hby d3_0) rfl kk) ?_
  show own_Fin _ _ _ _ _ _ _ (s₁.setTop (mkF m 1 #[.val (.int p0), .val (.int p1), .val (.long q2), .second, .val (.long q3), .second, .val (.long q4), .second, .unset, .unset] [(.int p0)]))
  by_cases hc1 : p0 = 0
  · refine own_go (fun _ kk => XS.ifYes X0.here hx rfl (pc0 := 1) (pc' := 9) rfl (hb hby d3_1) rfl (XT.i0_eq_t hc1) (by decide) (by decide) (XS.iloadN X0.here hx rfl (hb hby d3_9) rfl (XS.iconst X0.here hx rfl (hb hby d3_10) kk))) ?_
    show own_Fin _ _ _ _ _ _ _ (s₁.setTop (mkF m 11 #[.val (.int p0), .val (.int p1), .val (.long q2), .second, .val (.long q3), .second, .val (.long q4), .second, .unset, .unset] [(.int (1 : Int32)), (.int p1)]))
    by_cases hc11 : p1 = (1 : Int32)
    · refine own_go (fun _ kk => XS.icmpNo X0.here hx rfl (hb hby d3_11) rfl (XT.ii_ne_f hc11) (XS.lloadN X0.here hx rfl (hb hby d3_14) rfl kk)) ?_
      show own_Fin _ _ _ _ _ _ _ (s₁.setTop (mkF m 15 #[.val (.int p0), .val (.int p1), .val (.long q2), .second, .val (.long q3), .second, .val (.long q4), .second, .unset, .unset] [(.long q2)]))
      exact own_retJ X0 hx hlk hret (hb hby d3_15) (by decide) (by decide) ⟨(by rw [own_f3, if_pos hc1, if_pos hc11]), N0, e0⟩
    · refine own_go (fun _ kk => XS.icmpYes X0.here hx rfl (pc0 := 11) (pc' := 16) rfl (hb hby d3_11) rfl (XT.ii_ne_t hc11) (by decide) (by decide) (XS.iloadN X0.here hx rfl (hb hby d3_16) rfl (XS.iconst X0.here hx rfl (hb hby d3_17) kk))) ?_
      show own_Fin _ _ _ _ _ _ _ (s₁.setTop (mkF m 18 #[.val (.int p0), .val (.int p1), .val (.long q2), .second, .val (.long q3), .second, .val (.long q4), .second, .unset, .unset] [(.int (2 : Int32)), (.int p1)]))
      by_cases hc18 : p1 = (2 : Int32)
      · refine own_go (fun _ kk => XS.icmpNo X0.here hx rfl (hb hby d3_18) rfl (XT.ii_ne_f hc18) (XS.lloadN X0.here hx rfl (hb hby d3_21) rfl (XS.lload X0.here hx rfl (hb hby d3_22) rfl (XS.ladd X0.here hx rfl (hb hby d3_24) rfl kk)))) ?_
        show own_Fin _ _ _ _ _ _ _ (s₁.setTop (mkF m 25 #[.val (.int p0), .val (.int p1), .val (.long q2), .second, .val (.long q3), .second, .val (.long q4), .second, .unset, .unset] [(.long (q2 + q3))]))
        exact own_retJ X0 hx hlk hret (hb hby d3_25) (by decide) (by decide) ⟨(by rw [own_f3, if_pos hc1, if_neg hc11, if_pos hc18]), N0, e0⟩
      · refine own_go (fun _ kk => XS.icmpYes X0.here hx rfl (pc0 := 18) (pc' := 26) rfl (hb hby d3_18) rfl (XT.ii_ne_t hc18) (by decide) (by decide) (XS.lloadN X0.here hx rfl (hb hby d3_26) rfl (XS.lload X0.here hx rfl (hb hby d3_27) rfl (XS.ladd X0.here hx rfl (hb hby d3_29) rfl (XS.lload X0.here hx rfl (hb hby d3_30) rfl (XS.ladd X0.here hx rfl (hb hby d3_32) rfl kk)))))) ?_
        show own_Fin _ _ _ _ _ _ _ (s₁.setTop (mkF m 33 #[.val (.int p0), .val (.int p1), .val (.long q2), .second, .val (.long q3), .second, .val (.long q4), .second, .unset, .unset] [(.long ((q2 + q3) + q4))]))
        exact own_retJ X0 hx hlk hret (hb hby d3_33) (by decide) (by decide) ⟨(by rw [own_f3, if_pos hc1, if_neg hc11, if_neg hc18]), N0, e0⟩
  · refine own_go (fun _ kk => XS.ifNo X0.here hx rfl (hb hby d3_1) rfl (XT.i0_eq_f hc1) (XS.iloadN X0.here hx rfl (hb hby d3_4) rfl (XS.iconst X0.here hx rfl (hb hby d3_5) kk))) ?_
    show own_Fin _ _ _ _ _ _ _ (s₁.setTop (mkF m 6 #[.val (.int p0), .val (.int p1), .val (.long q2), .second, .val (.long q3), .second, .val (.long q4), .second, .unset, .unset] [(.int (3 : Int32)), (.int p0)]))
    by_cases hc6 : p0 = (3 : Int32)
    · refine own_go (fun _ kk => XS.icmpNo X0.here hx rfl (hb hby d3_6) rfl (XT.ii_ne_f hc6) (XS.iloadN X0.here hx rfl (hb hby d3_9) rfl (XS.iconst X0.here hx rfl (hb hby d3_10) kk))) ?_
      show own_Fin _ _ _ _ _ _ _ (s₁.setTop (mkF m 11 #[.val (.int p0), .val (.int p1), .val (.long q2), .second, .val (.long q3), .second, .val (.long q4), .second, .unset, .unset] [(.int (1 : Int32)), (.int p1)]))
      by_cases hc11 : p1 = (1 : Int32)
      · refine own_go (fun _ kk => XS.icmpNo X0.here hx rfl (hb hby d3_11) rfl (XT.ii_ne_f hc11) (XS.lloadN X0.here hx rfl (hb hby d3_14) rfl kk)) ?_
        show own_Fin _ _ _ _ _ _ _ (s₁.setTop (mkF m 15 #[.val (.int p0), .val (.int p1), .val (.long q2), .second, .val (.long q3), .second, .val (.long q4), .second, .unset, .unset] [(.long q2)]))
        exact own_retJ X0 hx hlk hret (hb hby d3_15) (by decide) (by decide) ⟨(by rw [own_f3, if_neg hc1, if_pos hc6, if_pos hc11]), N0, e0⟩
      · refine own_go (fun _ kk => XS.icmpYes X0.here hx rfl (pc0 := 11) (pc' := 16) rfl (hb hby d3_11) rfl (XT.ii_ne_t hc11) (by decide) (by decide) (XS.iloadN X0.here hx rfl (hb hby d3_16) rfl (XS.iconst X0.here hx rfl (hb hby d3_17) kk))) ?_
        show own_Fin _ _ _ _ _ _ _ (s₁.setTop (mkF m 18 #[.val (.int p0), .val (.int p1), .val (.long q2), .second, .val (.long q3), .second, .val (.long q4), .second, .unset, .unset] [(.int (2 : Int32)), (.int p1)]))
        by_cases hc18 : p1 = (2 : Int32)
        · refine own_go (fun _ kk => XS.icmpNo X0.here hx rfl (hb hby d3_18) rfl (XT.ii_ne_f hc18) (XS.lloadN X0.here hx rfl (hb hby d3_21) rfl (XS.lload X0.here hx rfl (hb hby d3_22) rfl (XS.ladd X0.here hx rfl (hb hby d3_24) rfl kk)))) ?_
          show own_Fin _ _ _ _ _ _ _ (s₁.setTop (mkF m 25 #[.val (.int p0), .val (.int p1), .val (.long q2), .second, .val (.long q3), .second, .val (.long q4), .second, .unset, .unset] [(.long (q2 + q3))]))
          exact own_retJ X0 hx hlk hret (hb hby d3_25) (by decide) (by decide) ⟨(by rw [own_f3, if_neg hc1, if_pos hc6, if_neg hc11, if_pos hc18]), N0, e0⟩
        · refine own_go (fun _ kk => XS.icmpYes X0.here hx rfl (pc0 := 18) (pc' := 26) rfl (hb hby d3_18) rfl (XT.ii_ne_t hc18) (by decide) (by decide) (XS.lloadN X0.here hx rfl (hb hby d3_26) rfl (XS.lload X0.here hx rfl (hb hby d3_27) rfl (XS.ladd X0.here hx rfl (hb hby d3_29) rfl (XS.lload X0.here hx rfl (hb hby d3_30) rfl (XS.ladd X0.here hx rfl (hb hby d3_32) rfl kk)))))) ?_
          show own_Fin _ _ _ _ _ _ _ (s₁.setTop (mkF m 33 #[.val (.int p0), .val (.int p1), .val (.long q2), .second, .val (.long q3), .second, .val (.long q4), .second, .unset, .unset] [(.long ((q2 + q3) + q4))]))
          exact own_retJ X0 hx hlk hret (hb hby d3_33) (by decide) (by decide) ⟨(by rw [own_f3, if_neg hc1, if_pos hc6, if_neg hc11, if_neg hc18]), N0, e0⟩
    · refine own_go (fun _ kk => XS.icmpYes X0.here hx rfl (pc0 := 6) (pc' := 34) rfl (hb hby d3_6) rfl (XT.ii_ne_t hc6) (by decide) (by decide) (XS.iloadN X0.here hx rfl (hb hby d3_34) rfl (XS.iconst X0.here hx rfl (hb hby d3_35) kk))) ?_
      show own_Fin _ _ _ _ _ _ _ (s₁.setTop (mkF m 36 #[.val (.int p0), .val (.int p1), .val (.long q2), .second, .val (.long q3), .second, .val (.long q4), .second, .unset, .unset] [(.int (1 : Int32)), (.int p0)]))
      by_cases hc36 : p0 = (1 : Int32)
      · refine own_go (fun _ kk => XS.icmpNo X0.here hx rfl (hb hby d3_36) rfl (XT.ii_ne_f hc36) (XS.iloadN X0.here hx rfl (hb hby d3_39) rfl (XS.iconst X0.here hx rfl (hb hby d3_40) kk))) ?_
        show own_Fin _ _ _ _ _ _ _ (s₁.setTop (mkF m 41 #[.val (.int p0), .val (.int p1), .val (.long q2), .second, .val (.long q3), .second, .val (.long q4), .second, .unset, .unset] [(.int (1 : Int32)), (.int p1)]))
        by_cases hc41 : p1 = (1 : Int32)
        · refine own_go (fun _ kk => XS.icmpNo X0.here hx rfl (hb hby d3_41) rfl (XT.ii_ne_f hc41) (XS.lloadN X0.here hx rfl (hb hby d3_44) rfl kk)) ?_
          show own_Fin _ _ _ _ _ _ _ (s₁.setTop (mkF m 45 #[.val (.int p0), .val (.int p1), .val (.long q2), .second, .val (.long q3), .second, .val (.long q4), .second, .unset, .unset] [(.long q2)]))
          exact own_retJ X0 hx hlk hret (hb hby d3_45) (by decide) (by decide) ⟨(by rw [own_f3, if_neg hc1, if_neg hc6, if_pos hc36, if_pos hc41]), N0, e0⟩
        · refine own_go (fun _ kk => XS.icmpYes X0.here hx rfl (pc0 := 41) (pc' := 46) rfl (hb hby d3_41) rfl (XT.ii_ne_t hc41) (by decide) (by decide) (XS.iloadN X0.here hx rfl (hb hby d3_46) rfl (XS.iconst X0.here hx rfl (hb hby d3_47) kk))) ?_
          show own_Fin _ _ _ _ _ _ _ (s₁.setTop (mkF m 48 #[.val (.int p0), .val (.int p1), .val (.long q2), .second, .val (.long q3), .second, .val (.long q4), .second, .unset, .unset] [(.int (2 : Int32)), (.int p1)]))
          by_cases hc48 : p1 = (2 : Int32)
          · refine own_go (fun _ kk => XS.icmpNo X0.here hx rfl (hb hby d3_48) rfl (XT.ii_ne_f hc48) (XS.lloadN X0.here hx rfl (hb hby d3_51) rfl (XS.lload X0.here hx rfl (hb hby d3_52) rfl (XS.lmul X0.here hx rfl (hb hby d3_54) rfl kk)))) ?_
            show own_Fin _ _ _ _ _ _ _ (s₁.setTop (mkF m 55 #[.val (.int p0), .val (.int p1), .val (.long q2), .second, .val (.long q3), .second, .val (.long q4), .second, .unset, .unset] [(.long (q2 * q3))]))
            exact own_retJ X0 hx hlk hret (hb hby d3_55) (by decide) (by decide) ⟨(by rw [own_f3, if_neg hc1, if_neg hc6, if_pos hc36, if_neg hc41, if_pos hc48]), N0, e0⟩
          · refine own_go (fun _ kk => XS.icmpYes X0.here hx rfl (pc0 := 48) (pc' := 56) rfl (hb hby d3_48) rfl (XT.ii_ne_t hc48) (by decide) (by decide) (XS.lloadN X0.here hx rfl (hb hby d3_56) rfl (XS.lload X0.here hx rfl (hb hby d3_57) rfl (XS.lmul X0.here hx rfl (hb hby d3_59) rfl (XS.lload X0.here hx rfl (hb hby d3_60) rfl (XS.lmul X0.here hx rfl (hb hby d3_62) rfl kk)))))) ?_
            show own_Fin _ _ _ _ _ _ _ (s₁.setTop (mkF m 63 #[.val (.int p0), .val (.int p1), .val (.long q2), .second, .val (.long q3), .second, .val (.long q4), .second, .unset, .unset] [(.long ((q2 * q3) * q4))]))
            exact own_retJ X0 hx hlk hret (hb hby d3_63) (by decide) (by decide) ⟨(by rw [own_f3, if_neg hc1, if_neg hc6, if_pos hc36, if_neg hc41, if_neg hc48]), N0, e0⟩
      · refine own_go (fun _ kk => XS.icmpYes X0.here hx rfl (pc0 := 36) (pc' := 64) rfl (hb hby d3_36) rfl (XT.ii_ne_t hc36) (by decide) (by decide) (XS.lloadN X0.here hx rfl (hb hby d3_64) rfl (XS.lstore X0.here hx rfl (hb hby d3_65) rfl (l' := #[.val (.int p0), .val (.int p1), .val (.long q2), .second, .val (.long q3), .second, .val (.long q4), .second, .val (.long q2), .second]) rfl (XS.iloadN X0.here hx rfl (hb hby d3_67) rfl (XS.iconst X0.here hx rfl (hb hby d3_68) kk))))) ?_
        show own_Fin _ _ _ _ _ _ _ (s₁.setTop (mkF m 69 #[.val (.int p0), .val (.int p1), .val (.long q2), .second, .val (.long q3), .second, .val (.long q4), .second, .val (.long q2), .second] [(.int (2 : Int32)), (.int p1)]))
        by_cases hc69 : p1 < (2 : Int32)
        · refine own_go (fun _ kk => XS.icmpYes X0.here hx rfl (pc0 := 69) (pc' := 84) rfl (hb hby d3_69) rfl (XT.ii_lt_t hc69) (by decide) (by decide) (XS.iloadN X0.here hx rfl (hb hby d3_84) rfl (XS.iconst X0.here hx rfl (hb hby d3_85) kk))) ?_
          show own_Fin _ _ _ _ _ _ _ (s₁.setTop (mkF m 86 #[.val (.int p0), .val (.int p1), .val (.long q2), .second, .val (.long q3), .second, .val (.long q4), .second, .val (.long q2), .second] [(.int (3 : Int32)), (.int p1)]))
          by_cases hc86 : p1 < (3 : Int32)
          · refine own_go (fun _ kk => XS.icmpYes X0.here hx rfl (pc0 := 86) (pc' := 101) rfl (hb hby d3_86) rfl (XT.ii_lt_t hc86) (by decide) (by decide) (XS.lload X0.here hx rfl (hb hby d3_101) rfl kk)) ?_
            show own_Fin _ _ _ _ _ _ _ (s₁.setTop (mkF m 103 #[.val (.int p0), .val (.int p1), .val (.long q2), .second, .val (.long q3), .second, .val (.long q4), .second, .val (.long q2), .second] [(.long q2)]))
            exact own_retJ X0 hx hlk hret (hb hby d3_103) (by decide) (by decide) ⟨(by rw [own_f3, if_neg hc1, if_neg hc6, if_neg hc36, if_pos hc69, if_pos hc86]), N0, e0⟩
          · refine own_go (fun _ kk => XS.icmpNo X0.here hx rfl (hb hby d3_86) rfl (XT.ii_lt_f hc86) (XS.lload X0.here hx rfl (hb hby d3_89) rfl (XS.lload X0.here hx rfl (hb hby d3_91) rfl (XT.lcmp X0.here hx rfl (hb hby d3_93) rfl kk)))) ?_
            show own_Fin _ _ _ _ _ _ _ (s₁.setTop (mkF m 94 #[.val (.int p0), .val (.int p1), .val (.long q2), .second, .val (.long q3), .second, .val (.long q4), .second, .val (.long q2), .second] [(.int (XT.cmpL q4 q2))]))
            by_cases hc94 : q4 < q2
            · refine own_go (fun _ kk => XS.ifNo X0.here hx rfl (hb hby d3_94) rfl (XT.ll_ge_f hc94) (XS.lload X0.here hx rfl (hb hby d3_97) rfl (XS.lstore X0.here hx rfl (hb hby d3_99) rfl (l' := #[.val (.int p0), .val (.int p1), .val (.long q2), .second, .val (.long q3), .second, .val (.long q4), .second, .val (.long q4), .second]) rfl (XS.lload X0.here hx rfl (hb hby d3_101) rfl kk)))) ?_
              show own_Fin _ _ _ _ _ _ _ (s₁.setTop (mkF m 103 #[.val (.int p0), .val (.int p1), .val (.long q2), .second, .val (.long q3), .second, .val (.long q4), .second, .val (.long q4), .second] [(.long q4)]))
              exact own_retJ X0 hx hlk hret (hb hby d3_103) (by decide) (by decide) ⟨(by rw [own_f3, if_neg hc1, if_neg hc6, if_neg hc36, if_pos hc69, if_neg hc86, if_pos hc94]), N0, e0⟩
            · refine own_go (fun _ kk => XS.ifYes X0.here hx rfl (pc0 := 94) (pc' := 101) rfl (hb hby d3_94) rfl (XT.ll_ge_t hc94) (by decide) (by decide) (XS.lload X0.here hx rfl (hb hby d3_101) rfl kk)) ?_
              show own_Fin _ _ _ _ _ _ _ (s₁.setTop (mkF m 103 #[.val (.int p0), .val (.int p1), .val (.long q2), .second, .val (.long q3), .second, .val (.long q4), .second, .val (.long q2), .second] [(.long q2)]))
              exact own_retJ X0 hx hlk hret (hb hby d3_103) (by decide) (by decide) ⟨(by rw [own_f3, if_neg hc1, if_neg hc6, if_neg hc36, if_pos hc69, if_neg hc86, if_neg hc94]), N0, e0⟩
        · refine own_go (fun _ kk => XS.icmpNo X0.here hx rfl (hb hby d3_69) rfl (XT.ii_lt_f hc69) (XS.lload X0.here hx rfl (hb hby d3_72) rfl (XS.lload X0.here hx rfl (hb hby d3_74) rfl (XT.lcmp X0.here hx rfl (hb hby d3_76) rfl kk)))) ?_
          show own_Fin _ _ _ _ _ _ _ (s₁.setTop (mkF m 77 #[.val (.int p0), .val (.int p1), .val (.long q2), .second, .val (.long q3), .second, .val (.long q4), .second, .val (.long q2), .second] [(.int (XT.cmpL q3 q2))]))
          by_cases hc77 : q3 < q2
          · refine own_go (fun _ kk => XS.ifNo X0.here hx rfl (hb hby d3_77) rfl (XT.ll_ge_f hc77) (XS.lload X0.here hx rfl (hb hby d3_80) rfl (XS.lstore X0.here hx rfl (hb hby d3_82) rfl (l' := #[.val (.int p0), .val (.int p1), .val (.long q2), .second, .val (.long q3), .second, .val (.long q4), .second, .val (.long q3), .second]) rfl (XS.iloadN X0.here hx rfl (hb hby d3_84) rfl (XS.iconst X0.here hx rfl (hb hby d3_85) kk))))) ?_
            show own_Fin _ _ _ _ _ _ _ (s₁.setTop (mkF m 86 #[.val (.int p0), .val (.int p1), .val (.long q2), .second, .val (.long q3), .second, .val (.long q4), .second, .val (.long q3), .second] [(.int (3 : Int32)), (.int p1)]))
            by_cases hc86 : p1 < (3 : Int32)
            · refine own_go (fun _ kk => XS.icmpYes X0.here hx rfl (pc0 := 86) (pc' := 101) rfl (hb hby d3_86) rfl (XT.ii_lt_t hc86) (by decide) (by decide) (XS.lload X0.here hx rfl (hb hby d3_101) rfl kk)) ?_
              show own_Fin _ _ _ _ _ _ _ (s₁.setTop (mkF m 103 #[.val (.int p0), .val (.int p1), .val (.long q2), .second, .val (.long q3), .second, .val (.long q4), .second, .val (.long q3), .second] [(.long q3)]))
              exact own_retJ X0 hx hlk hret (hb hby d3_103) (by decide) (by decide) ⟨(by rw [own_f3, if_neg hc1, if_neg hc6, if_neg hc36, if_neg hc69, if_pos hc77, if_pos hc86]), N0, e0⟩
            · refine own_go (fun _ kk => XS.icmpNo X0.here hx rfl (hb hby d3_86) rfl (XT.ii_lt_f hc86) (XS.lload X0.here hx rfl (hb hby d3_89) rfl (XS.lload X0.here hx rfl (hb hby d3_91) rfl (XT.lcmp X0.here hx rfl (hb hby d3_93) rfl kk)))) ?_
              show own_Fin _ _ _ _ _ _ _ (s₁.setTop (mkF m 94 #[.val (.int p0), .val (.int p1), .val (.long q2), .second, .val (.long q3), .second, .val (.long q4), .second, .val (.long q3), .second] [(.int (XT.cmpL q4 q3))]))
              by_cases hc94 : q4 < q3
              · refine own_go (fun _ kk => XS.ifNo X0.here hx rfl (hb hby d3_94) rfl (XT.ll_ge_f hc94) (XS.lload X0.here hx rfl (hb hby d3_97) rfl (XS.lstore X0.here hx rfl (hb hby d3_99) rfl (l' := #[.val (.int p0), .val (.int p1), .val (.long q2), .second, .val (.long q3), .second, .val (.long q4), .second, .val (.long q4), .second]) rfl (XS.lload X0.here hx rfl (hb hby d3_101) rfl kk)))) ?_
                show own_Fin _ _ _ _ _ _ _ (s₁.setTop (mkF m 103 #[.val (.int p0), .val (.int p1), .val (.long q2), .second, .val (.long q3), .second, .val (.long q4), .second, .val (.long q4), .second] [(.long q4)]))
                exact own_retJ X0 hx hlk hret (hb hby d3_103) (by decide) (by decide) ⟨(by rw [own_f3, if_neg hc1, if_neg hc6, if_neg hc36, if_neg hc69, if_pos hc77, if_neg hc86, if_pos hc94]), N0, e0⟩
              · refine own_go (fun _ kk => XS.ifYes X0.here hx rfl (pc0 := 94) (pc' := 101) rfl (hb hby d3_94) rfl (XT.ll_ge_t hc94) (by decide) (by decide) (XS.lload X0.here hx rfl (hb hby d3_101) rfl kk)) ?_
                show own_Fin _ _ _ _ _ _ _ (s₁.setTop (mkF m 103 #[.val (.int p0), .val (.int p1), .val (.long q2), .second, .val (.long q3), .second, .val (.long q4), .second, .val (.long q3), .second] [(.long q3)]))
                exact own_retJ X0 hx hlk hret (hb hby d3_103) (by decide) (by decide) ⟨(by rw [own_f3, if_neg hc1, if_neg hc6, if_neg hc36, if_neg hc69, if_pos hc77, if_neg hc86, if_neg hc94]), N0, e0⟩
          · refine own_go (fun _ kk => XS.ifYes X0.here hx rfl (pc0 := 77) (pc' := 84) rfl (hb hby d3_77) rfl (XT.ll_ge_t hc77) (by decide) (by decide) (XS.iloadN X0.here hx rfl (hb hby d3_84) rfl (XS.iconst X0.here hx rfl (hb hby d3_85) kk))) ?_
            show own_Fin _ _ _ _ _ _ _ (s₁.setTop (mkF m 86 #[.val (.int p0), .val (.int p1), .val (.long q2), .second, .val (.long q3), .second, .val (.long q4), .second, .val (.long q2), .second] [(.int (3 : Int32)), (.int p1)]))
            by_cases hc86 : p1 < (3 : Int32)
            · refine own_go (fun _ kk => XS.icmpYes X0.here hx rfl (pc0 := 86) (pc' := 101) rfl (hb hby d3_86) rfl (XT.ii_lt_t hc86) (by decide) (by decide) (XS.lload X0.here hx rfl (hb hby d3_101) rfl kk)) ?_
              show own_Fin _ _ _ _ _ _ _ (s₁.setTop (mkF m 103 #[.val (.int p0), .val (.int p1), .val (.long q2), .second, .val (.long q3), .second, .val (.long q4), .second, .val (.long q2), .second] [(.long q2)]))
              exact own_retJ X0 hx hlk hret (hb hby d3_103) (by decide) (by decide) ⟨(by rw [own_f3, if_neg hc1, if_neg hc6, if_neg hc36, if_neg hc69, if_neg hc77, if_pos hc86]), N0, e0⟩
            · refine own_go (fun _ kk => XS.icmpNo X0.here hx rfl (hb hby d3_86) rfl (XT.ii_lt_f hc86) (XS.lload X0.here hx rfl (hb hby d3_89) rfl (XS.lload X0.here hx rfl (hb hby d3_91) rfl (XT.lcmp X0.here hx rfl (hb hby d3_93) rfl kk)))) ?_
              show own_Fin _ _ _ _ _ _ _ (s₁.setTop (mkF m 94 #[.val (.int p0), .val (.int p1), .val (.long q2), .second, .val (.long q3), .second, .val (.long q4), .second, .val (.long q2), .second] [(.int (XT.cmpL q4 q2))]))
              by_cases hc94 : q4 < q2
              · refine own_go (fun _ kk => XS.ifNo X0.here hx rfl (hb hby d3_94) rfl (XT.ll_ge_f hc94) (XS.lload X0.here hx rfl (hb hby d3_97) rfl (XS.lstore X0.here hx rfl (hb hby d3_99) rfl (l' := #[.val (.int p0), .val (.int p1), .val (.long q2), .second, .val (.long q3), .second, .val (.long q4), .second, .val (.long q4), .second]) rfl (XS.lload X0.here hx rfl (hb hby d3_101) rfl kk)))) ?_
                show own_Fin _ _ _ _ _ _ _ (s₁.setTop (mkF m 103 #[.val (.int p0), .val (.int p1), .val (.long q2), .second, .val (.long q3), .second, .val (.long q4), .second, .val (.long q4), .second] [(.long q4)]))
                exact own_retJ X0 hx hlk hret (hb hby d3_103) (by decide) (by decide) ⟨(by rw [own_f3, if_neg hc1, if_neg hc6, if_neg hc36, if_neg hc69, if_neg hc77, if_neg hc86, if_pos hc94]), N0, e0⟩
              · refine own_go (fun _ kk => XS.ifYes X0.here hx rfl (pc0 := 94) (pc' := 101) rfl (hb hby d3_94) rfl (XT.ll_ge_t hc94) (by decide) (by decide) (XS.lload X0.here hx rfl (hb hby d3_101) rfl kk)) ?_
                show own_Fin _ _ _ _ _ _ _ (s₁.setTop (mkF m 103 #[.val (.int p0), .val (.int p1), .val (.long q2), .second, .val (.long q3), .second, .val (.long q4), .second, .val (.long q2), .second] [(.long q2)]))
                exact own_retJ X0 hx hlk hret (hb hby d3_103) (by decide) (by decide) ⟨(by rw [own_f3, if_neg hc1, if_neg hc6, if_neg hc36, if_neg hc69, if_neg hc77, if_neg hc86, if_neg hc94]), N0, e0⟩

theorem d1_0 : decode method_2_code 0 = .ok (.iload_n 0, 1) := by decide +kernel
theorem d1_1 : decode method_2_code 1 = .ok (.ifCond .ne 7, 3) := by decide +kernel
theorem d1_4 : decode method_2_code 4 = .ok (.getstatic 7, 3) := by decide +kernel
theorem d1_7 : decode method_2_code 7 = .ok (.areturn, 1) := by decide +kernel
theorem d1_8 : decode method_2_code 8 = .ok (.iload_n 0, 1) := by decide +kernel
theorem d1_9 : decode method_2_code 9 = .ok (.iconst 1, 1) := by decide +kernel
theorem d1_10 : decode method_2_code 10 = .ok (.if_icmp .ne 7, 3) := by decide +kernel
theorem d1_13 : decode method_2_code 13 = .ok (.getstatic 13, 3) := by decide +kernel
theorem d1_16 : decode method_2_code 16 = .ok (.areturn, 1) := by decide +kernel
theorem d1_17 : decode method_2_code 17 = .ok (.iload_n 0, 1) := by decide +kernel
theorem d1_18 : decode method_2_code 18 = .ok (.iconst 2, 1) := by decide +kernel
theorem d1_19 : decode method_2_code 19 = .ok (.if_icmp .ne 7, 3) := by decide +kernel
theorem d1_22 : decode method_2_code 22 = .ok (.getstatic 16, 3) := by decide +kernel
theorem d1_25 : decode method_2_code 25 = .ok (.areturn, 1) := by decide +kernel
theorem d1_26 : decode method_2_code 26 = .ok (.getstatic 19, 3) := by decide +kernel
theorem d1_29 : decode method_2_code 29 = .ok (.areturn, 1) := by decide +kernel
theorem pn_1 : plainFor (⟨"com/example/conflux/conflux/select/AggregationAggregatePinLaw", "pick", "(I)Lcom/example/conflux/conflux/select/Aggregation;"⟩ : MethodName) = true := plainFor_of_name (by show plainName "com/example/conflux/conflux/select/AggregationAggregatePinLaw" = true; first | (simp [plainName, overriddenIn]; done) | decide +kernel)
theorem ef_1 (m : MethodId) (x0 : Int32) : entryFrame m #[(.int x0)] 1 = mkF m 0 #[.val (.int x0)] [] := by first | (simp [entryFrame, mkF, argsToLocals, Value.category]; done) | rfl
def own_f1 (p0 : Int32) (g0 : Addr) (g1 : Addr) (g2 : Addr) (g3 : Addr) : Addr :=
  if p0 = 0 then
    g0
  else
    if p0 = (1 : Int32) then
      g1
    else
      if p0 = (2 : Int32) then
        g2
      else
        g3
set_option maxRecDepth 65536 in
set_option maxHeartbeats 40000000 in
theorem rm1 (l : Launch) (Z : State) (a0 : Array Value) (hw : ∀ d ∈ tables_1, d.before a0 Z = true) (p0 : Int32) (h0 : Heap) (n0 : Nat) (Z0 : n0 ≤ h0.size) (g0 g1 g2 g3 : Addr) (S_SUM : Sta Z Z.heap "com/example/conflux/conflux/select/Aggregation" "SUM" "Lcom/example/conflux/conflux/select/Aggregation;" (.ref g0)) (S_PRODUCT : Sta Z Z.heap "com/example/conflux/conflux/select/Aggregation" "PRODUCT" "Lcom/example/conflux/conflux/select/Aggregation;" (.ref g1)) (S_MIN : Sta Z Z.heap "com/example/conflux/conflux/select/Aggregation" "MIN" "Lcom/example/conflux/conflux/select/Aggregation;" (.ref g2)) (S_ELAPSED : Sta Z Z.heap "com/example/conflux/conflux/select/Aggregation" "ELAPSED" "Lcom/example/conflux/conflux/select/Aggregation;" (.ref g3)) (O0 : Old Z n0 h0) :
    own_Met l (⟨"com/example/conflux/conflux/select/AggregationAggregatePinLaw", "pick", "(I)Lcom/example/conflux/conflux/select/Aggregation;"⟩ : MethodName) method_2_code 1 (some (.object "com/example/conflux/conflux/select/Aggregation")) ({ frames := 0, cells := 0, slots := 0, locals := 0 } : Room) Z [] #[(.int p0)] h0 (own_P (some (.ref (own_f1 p0 g0 g1 g2 g3))) h0 n0) := by
  refine own_enter pn_1 ?_
  intro p e s m below meth c s₁ hx hby hml hown hnm hret hlk hZ e0 X0
  rw [ef_1]
  have N0 := Fr.nil n0
  show own_Fin _ _ _ _ _ _ _ (s₁.setTop (mkF m 0 #[.val (.int p0)] []))
  refine own_go (fun _ kk => XS.iloadN X0.here hx rfl (hb hby d1_0) rfl kk) ?_
  show own_Fin _ _ _ _ _ _ _ (s₁.setTop (mkF m 1 #[.val (.int p0)] [(.int p0)]))
  by_cases hc1 : p0 = 0
  · refine own_go (fun _ kk => XS.ifNo X0.here hx rfl (hb hby d1_1) rfl (XT.i0_ne_f hc1) kk) ?_
    show own_Fin _ _ _ _ _ _ _ (s₁.setTop (mkF m 4 #[.val (.int p0)] []))
    refine own_getS X0 hx hZ hown (host := "") (Or.inl (hw _ (List.mem_of_getElem? (i := 5) rfl))) Via.refl e0 (S_SUM.ext O0.2) (hb hby d1_4) ?_
    intro T1 X1 e1
    show own_Fin _ _ _ _ _ _ _ (T1.setTop (mkF m 7 #[.val (.int p0)] [(.ref g0)]))
    exact own_retA X1 hx hlk hret rfl rfl (hb hby d1_7) (by decide) (by decide) ⟨(by rw [own_f1, if_pos hc1]), N0, e1⟩
  · refine own_go (fun _ kk => XS.ifYes X0.here hx rfl (pc0 := 1) (pc' := 8) rfl (hb hby d1_1) rfl (XT.i0_ne_t hc1) (by decide) (by decide) (XS.iloadN X0.here hx rfl (hb hby d1_8) rfl (XS.iconst X0.here hx rfl (hb hby d1_9) kk))) ?_
    show own_Fin _ _ _ _ _ _ _ (s₁.setTop (mkF m 10 #[.val (.int p0)] [(.int (1 : Int32)), (.int p0)]))
    by_cases hc10 : p0 = (1 : Int32)
    · refine own_go (fun _ kk => XS.icmpNo X0.here hx rfl (hb hby d1_10) rfl (XT.ii_ne_f hc10) kk) ?_
      show own_Fin _ _ _ _ _ _ _ (s₁.setTop (mkF m 13 #[.val (.int p0)] []))
      refine own_getS X0 hx hZ hown (host := "") (Or.inl (hw _ (List.mem_of_getElem? (i := 38) rfl))) Via.refl e0 (S_PRODUCT.ext O0.2) (hb hby d1_13) ?_
      intro T2 X2 e2
      show own_Fin _ _ _ _ _ _ _ (T2.setTop (mkF m 16 #[.val (.int p0)] [(.ref g1)]))
      exact own_retA X2 hx hlk hret rfl rfl (hb hby d1_16) (by decide) (by decide) ⟨(by rw [own_f1, if_neg hc1, if_pos hc10]), N0, e2⟩
    · refine own_go (fun _ kk => XS.icmpYes X0.here hx rfl (pc0 := 10) (pc' := 17) rfl (hb hby d1_10) rfl (XT.ii_ne_t hc10) (by decide) (by decide) (XS.iloadN X0.here hx rfl (hb hby d1_17) rfl (XS.iconst X0.here hx rfl (hb hby d1_18) kk))) ?_
      show own_Fin _ _ _ _ _ _ _ (s₁.setTop (mkF m 19 #[.val (.int p0)] [(.int (2 : Int32)), (.int p0)]))
      by_cases hc19 : p0 = (2 : Int32)
      · refine own_go (fun _ kk => XS.icmpNo X0.here hx rfl (hb hby d1_19) rfl (XT.ii_ne_f hc19) kk) ?_
        show own_Fin _ _ _ _ _ _ _ (s₁.setTop (mkF m 22 #[.val (.int p0)] []))
        refine own_getS X0 hx hZ hown (host := "") (Or.inl (hw _ (List.mem_of_getElem? (i := 32) rfl))) Via.refl e0 (S_MIN.ext O0.2) (hb hby d1_22) ?_
        intro T3 X3 e3
        show own_Fin _ _ _ _ _ _ _ (T3.setTop (mkF m 25 #[.val (.int p0)] [(.ref g2)]))
        exact own_retA X3 hx hlk hret rfl rfl (hb hby d1_25) (by decide) (by decide) ⟨(by rw [own_f1, if_neg hc1, if_neg hc10, if_pos hc19]), N0, e3⟩
      · refine own_go (fun _ kk => XS.icmpYes X0.here hx rfl (pc0 := 19) (pc' := 26) rfl (hb hby d1_19) rfl (XT.ii_ne_t hc19) (by decide) (by decide) kk) ?_
        show own_Fin _ _ _ _ _ _ _ (s₁.setTop (mkF m 26 #[.val (.int p0)] []))
        refine own_getS X0 hx hZ hown (host := "") (Or.inl (hw _ (List.mem_of_getElem? (i := 17) rfl))) Via.refl e0 (S_ELAPSED.ext O0.2) (hb hby d1_26) ?_
        intro T4 X4 e4
        show own_Fin _ _ _ _ _ _ _ (T4.setTop (mkF m 29 #[.val (.int p0)] [(.ref g3)]))
        exact own_retA X4 hx hlk hret rfl rfl (hb hby d1_29) (by decide) (by decide) ⟨(by rw [own_f1, if_neg hc1, if_neg hc10, if_neg hc19]), N0, e4⟩

open Jvm.FP.Core in
theorem own_sm (x : Int32) : (x % (1024 : Int32)).toInt.natAbs ≤ 1023 := by
  have e : (x % (1024 : Int32)).toInt = x.toInt.tmod 1024 := by rw [Int32.toInt_mod]; rfl
  rw [e]
  have h1 := Int.natAbs_tmod x.toInt 1024
  have h2 : x.toInt.natAbs % 1024 < 1024 := Nat.mod_lt _ (by decide)
  have h3 : (1024 : Int).natAbs = 1024 := rfl
  rw [h3] at h1
  omega
def own_r (x : Int32) : Int := (x % (1024 : Int32)).toInt
open Jvm.FP.Core in
theorem own_d1 (x : Int32) : DInt (own_r x) (FP.i2d (x % (1024 : Int32))) := i2d_int _
open Jvm.FP.Core in
theorem own_a2 (x y : Int32) : DInt (own_r x + own_r y) (FP.dadd (FP.i2d (x % (1024 : Int32))) (FP.i2d (y % (1024 : Int32)))) := dadd_int (own_d1 x) (own_d1 y) (by have := own_sm x; have := own_sm y; unfold own_r; omega)
open Jvm.FP.Core in
theorem own_a3 (x y z : Int32) : DInt (own_r x + own_r y + own_r z) (FP.dadd (FP.dadd (FP.i2d (x % (1024 : Int32))) (FP.i2d (y % (1024 : Int32)))) (FP.i2d (z % (1024 : Int32)))) := dadd_int (own_a2 x y) (own_d1 z) (by have := own_sm x; have := own_sm y; have := own_sm z; unfold own_r; omega)
theorem own_mb2 (x y : Int32) : (own_r x * own_r y).natAbs ≤ 1023 * 1023 := by rw [Int.natAbs_mul]; exact Nat.mul_le_mul (own_sm x) (own_sm y)
theorem own_mb3 (x y z : Int32) : (own_r x * own_r y * own_r z).natAbs ≤ 1023 * 1023 * 1023 := by rw [Int.natAbs_mul]; exact Nat.mul_le_mul (own_mb2 x y) (own_sm z)
open Jvm.FP.Core in
theorem own_m2 (x y : Int32) : DInt (own_r x * own_r y) (FP.dmul (FP.i2d (x % (1024 : Int32))) (FP.i2d (y % (1024 : Int32)))) := dmul_int (own_d1 x) (own_d1 y) (by have := own_mb2 x y; omega)
open Jvm.FP.Core in
theorem own_m3 (x y z : Int32) : DInt (own_r x * own_r y * own_r z) (FP.dmul (FP.dmul (FP.i2d (x % (1024 : Int32))) (FP.i2d (y % (1024 : Int32)))) (FP.i2d (z % (1024 : Int32)))) := dmul_int (own_m2 x y) (own_d1 z) (by have := own_mb3 x y z; omega)
open Jvm.FP.Core in
theorem own_p2 (x y : Int32) : DInt (min (own_r x) (own_r y)) (Native.java_lang_Math.nans.pick64 false (FP.i2d (x % (1024 : Int32))) (FP.i2d (y % (1024 : Int32)))) := own_minI (own_d1 x) (own_d1 y)
open Jvm.FP.Core in
theorem own_p3 (x y z : Int32) : DInt (min (min (own_r x) (own_r y)) (own_r z)) (Native.java_lang_Math.nans.pick64 false (Native.java_lang_Math.nans.pick64 false (FP.i2d (x % (1024 : Int32))) (FP.i2d (y % (1024 : Int32)))) (FP.i2d (z % (1024 : Int32)))) := own_minI (own_p2 x y) (own_d1 z)
def own_Q0 (w : Option Value) (n0 : Nat) (v : Option Value) (h : Heap) (L : List Loc) : Prop := v = w ∧ Fr n0 L

theorem pd_0_0 : parseMethodDescriptor "(I)Lcom/example/conflux/conflux/select/Aggregation;" = some ⟨[.int], some (.object "com/example/conflux/conflux/select/Aggregation")⟩ := by decide +kernel
theorem pd_0_1 : parseMethodDescriptor "([D)D" = some ⟨[(.array .double)], some .double⟩ := by decide +kernel
theorem pd_0_2 : parseMethodDescriptor "(IIJJJ)J" = some ⟨[.int, .int, .long, .long, .long], some .long⟩ := by decide +kernel
theorem pn_0 : plainFor x = true := plainFor_of_name (by show plainName "com/example/conflux/conflux/select/AggregationAggregatePinLaw" = true; first | (simp [plainName, overriddenIn]; done) | decide +kernel)
theorem ef_0 (m : MethodId) (x0 : Int32) (x1 : Int32) (x2 : Int32) (x3 : Int32) (x4 : Int32) : entryFrame m #[(.int x0), (.int x1), (.int x2), (.int x3), (.int x4)] maxLocals = mkF m 0 #[.val (.int x0), .val (.int x1), .val (.int x2), .val (.int x3), .val (.int x4), .unset, .unset, .unset, .unset, .unset, .unset, .unset, .unset, .unset, .unset, .unset] [] := by first | (simp [entryFrame, mkF, argsToLocals, Value.category, maxLocals]; done) | rfl
def own_f0 (p0 : Int32) (p1 : Int32) (p2 : Int32) (p3 : Int32) (p4 : Int32) : Int32 :=
  if (p0 &&& (3 : Int32)) = 0 then
    if ((1 : Int32) + ((p1 &&& (2147483647 : Int32)) % (3 : Int32))) = (1 : Int32) then
      if (cmpValue (FP.dcmp (FP.i2d (p2 % (1024 : Int32))) (FP.l2d (own_f3 (p0 &&& (3 : Int32)) ((1 : Int32) + ((p1 &&& (2147483647 : Int32)) % (3 : Int32))) (Int32.toInt64 (p2 % (1024 : Int32))) (Int32.toInt64 (p3 % (1024 : Int32))) (Int32.toInt64 (p4 % (1024 : Int32)))))) .l) = 0 then
        (1 : Int32)
      else
        (0 : Int32)
    else
      if ((1 : Int32) + ((p1 &&& (2147483647 : Int32)) % (3 : Int32))) = (2 : Int32) then
        if (cmpValue (FP.dcmp (FP.dadd (FP.i2d (p2 % (1024 : Int32))) (FP.i2d (p3 % (1024 : Int32)))) (FP.l2d (own_f3 (p0 &&& (3 : Int32)) ((1 : Int32) + ((p1 &&& (2147483647 : Int32)) % (3 : Int32))) (Int32.toInt64 (p2 % (1024 : Int32))) (Int32.toInt64 (p3 % (1024 : Int32))) (Int32.toInt64 (p4 % (1024 : Int32)))))) .l) = 0 then
          (1 : Int32)
        else
          (0 : Int32)
      else
        if (cmpValue (FP.dcmp (FP.dadd (FP.dadd (FP.i2d (p2 % (1024 : Int32))) (FP.i2d (p3 % (1024 : Int32)))) (FP.i2d (p4 % (1024 : Int32)))) (FP.l2d (own_f3 (p0 &&& (3 : Int32)) ((1 : Int32) + ((p1 &&& (2147483647 : Int32)) % (3 : Int32))) (Int32.toInt64 (p2 % (1024 : Int32))) (Int32.toInt64 (p3 % (1024 : Int32))) (Int32.toInt64 (p4 % (1024 : Int32)))))) .l) = 0 then
          (1 : Int32)
        else
          (0 : Int32)
  else
    if (p0 &&& (3 : Int32)) = (1 : Int32) then
      if ((1 : Int32) + ((p1 &&& (2147483647 : Int32)) % (3 : Int32))) = (1 : Int32) then
        if (cmpValue (FP.dcmp (FP.i2d (p2 % (1024 : Int32))) (FP.l2d (own_f3 (p0 &&& (3 : Int32)) ((1 : Int32) + ((p1 &&& (2147483647 : Int32)) % (3 : Int32))) (Int32.toInt64 (p2 % (1024 : Int32))) (Int32.toInt64 (p3 % (1024 : Int32))) (Int32.toInt64 (p4 % (1024 : Int32)))))) .l) = 0 then
          (1 : Int32)
        else
          (0 : Int32)
      else
        if ((1 : Int32) + ((p1 &&& (2147483647 : Int32)) % (3 : Int32))) = (2 : Int32) then
          if (cmpValue (FP.dcmp (FP.dmul (FP.i2d (p2 % (1024 : Int32))) (FP.i2d (p3 % (1024 : Int32)))) (FP.l2d (own_f3 (p0 &&& (3 : Int32)) ((1 : Int32) + ((p1 &&& (2147483647 : Int32)) % (3 : Int32))) (Int32.toInt64 (p2 % (1024 : Int32))) (Int32.toInt64 (p3 % (1024 : Int32))) (Int32.toInt64 (p4 % (1024 : Int32)))))) .l) = 0 then
            (1 : Int32)
          else
            (0 : Int32)
        else
          if (cmpValue (FP.dcmp (FP.dmul (FP.dmul (FP.i2d (p2 % (1024 : Int32))) (FP.i2d (p3 % (1024 : Int32)))) (FP.i2d (p4 % (1024 : Int32)))) (FP.l2d (own_f3 (p0 &&& (3 : Int32)) ((1 : Int32) + ((p1 &&& (2147483647 : Int32)) % (3 : Int32))) (Int32.toInt64 (p2 % (1024 : Int32))) (Int32.toInt64 (p3 % (1024 : Int32))) (Int32.toInt64 (p4 % (1024 : Int32)))))) .l) = 0 then
            (1 : Int32)
          else
            (0 : Int32)
    else
      if (p0 &&& (3 : Int32)) = (2 : Int32) then
        if ((1 : Int32) + ((p1 &&& (2147483647 : Int32)) % (3 : Int32))) = (1 : Int32) then
          if (cmpValue (FP.dcmp (FP.i2d (p2 % (1024 : Int32))) (FP.l2d (own_f3 (p0 &&& (3 : Int32)) ((1 : Int32) + ((p1 &&& (2147483647 : Int32)) % (3 : Int32))) (Int32.toInt64 (p2 % (1024 : Int32))) (Int32.toInt64 (p3 % (1024 : Int32))) (Int32.toInt64 (p4 % (1024 : Int32)))))) .l) = 0 then
            (1 : Int32)
          else
            (0 : Int32)
        else
          if ((1 : Int32) + ((p1 &&& (2147483647 : Int32)) % (3 : Int32))) = (2 : Int32) then
            if (cmpValue (FP.dcmp (Native.java_lang_Math.nans.pick64 false (FP.i2d (p2 % (1024 : Int32))) (FP.i2d (p3 % (1024 : Int32)))) (FP.l2d (own_f3 (p0 &&& (3 : Int32)) ((1 : Int32) + ((p1 &&& (2147483647 : Int32)) % (3 : Int32))) (Int32.toInt64 (p2 % (1024 : Int32))) (Int32.toInt64 (p3 % (1024 : Int32))) (Int32.toInt64 (p4 % (1024 : Int32)))))) .l) = 0 then
              (1 : Int32)
            else
              (0 : Int32)
          else
            if (cmpValue (FP.dcmp (Native.java_lang_Math.nans.pick64 false (Native.java_lang_Math.nans.pick64 false (FP.i2d (p2 % (1024 : Int32))) (FP.i2d (p3 % (1024 : Int32)))) (FP.i2d (p4 % (1024 : Int32)))) (FP.l2d (own_f3 (p0 &&& (3 : Int32)) ((1 : Int32) + ((p1 &&& (2147483647 : Int32)) % (3 : Int32))) (Int32.toInt64 (p2 % (1024 : Int32))) (Int32.toInt64 (p3 % (1024 : Int32))) (Int32.toInt64 (p4 % (1024 : Int32)))))) .l) = 0 then
              (1 : Int32)
            else
              (0 : Int32)
      else
        if ((1 : Int32) + ((p1 &&& (2147483647 : Int32)) % (3 : Int32))) = (1 : Int32) then
          if (cmpValue (FP.dcmp (FP.i2d (p2 % (1024 : Int32))) (FP.l2d (own_f3 (p0 &&& (3 : Int32)) ((1 : Int32) + ((p1 &&& (2147483647 : Int32)) % (3 : Int32))) (Int32.toInt64 (p2 % (1024 : Int32))) (Int32.toInt64 (p3 % (1024 : Int32))) (Int32.toInt64 (p4 % (1024 : Int32)))))) .l) = 0 then
            (1 : Int32)
          else
            (0 : Int32)
        else
          if ((1 : Int32) + ((p1 &&& (2147483647 : Int32)) % (3 : Int32))) = (2 : Int32) then
            if (cmpValue (FP.dcmp (FP.dadd (FP.i2d (p2 % (1024 : Int32))) (FP.i2d (p3 % (1024 : Int32)))) (FP.l2d (own_f3 (p0 &&& (3 : Int32)) ((1 : Int32) + ((p1 &&& (2147483647 : Int32)) % (3 : Int32))) (Int32.toInt64 (p2 % (1024 : Int32))) (Int32.toInt64 (p3 % (1024 : Int32))) (Int32.toInt64 (p4 % (1024 : Int32)))))) .l) = 0 then
              (1 : Int32)
            else
              (0 : Int32)
          else
            if (cmpValue (FP.dcmp (FP.dadd (FP.dadd (FP.i2d (p2 % (1024 : Int32))) (FP.i2d (p3 % (1024 : Int32)))) (FP.i2d (p4 % (1024 : Int32)))) (FP.l2d (own_f3 (p0 &&& (3 : Int32)) ((1 : Int32) + ((p1 &&& (2147483647 : Int32)) % (3 : Int32))) (Int32.toInt64 (p2 % (1024 : Int32))) (Int32.toInt64 (p3 % (1024 : Int32))) (Int32.toInt64 (p4 % (1024 : Int32)))))) .l) = 0 then
              (1 : Int32)
            else
              (0 : Int32)
set_option maxRecDepth 65536 in
set_option maxHeartbeats 40000000 in
theorem rm0 (l : Launch) (Z : State) (a0 : Array Value) (hw : ∀ d ∈ tables_1, d.before a0 Z = true) (p0 : Int32) (p1 : Int32) (p2 : Int32) (p3 : Int32) (p4 : Int32) (h0 : Heap) (n0 : Nat) (Z0 : n0 ≤ h0.size) (g0 g1 g2 g3 : Addr) (S_SUM : Sta Z Z.heap "com/example/conflux/conflux/select/Aggregation" "SUM" "Lcom/example/conflux/conflux/select/Aggregation;" (.ref g0)) (S_PRODUCT : Sta Z Z.heap "com/example/conflux/conflux/select/Aggregation" "PRODUCT" "Lcom/example/conflux/conflux/select/Aggregation;" (.ref g1)) (S_MIN : Sta Z Z.heap "com/example/conflux/conflux/select/Aggregation" "MIN" "Lcom/example/conflux/conflux/select/Aggregation;" (.ref g2)) (S_ELAPSED : Sta Z Z.heap "com/example/conflux/conflux/select/Aggregation" "ELAPSED" "Lcom/example/conflux/conflux/select/Aggregation;" (.ref g3)) (E0 : Exa Z Z.heap g0 "com/example/conflux/conflux/select/Aggregation") (F0 : Fld Z Z.heap g0 "java/lang/Enum" "ordinal" "I" (.int (0 : Int32))) (E1 : Exa Z Z.heap g1 "com/example/conflux/conflux/select/Aggregation") (F1 : Fld Z Z.heap g1 "java/lang/Enum" "ordinal" "I" (.int (1 : Int32))) (E2 : Exa Z Z.heap g2 "com/example/conflux/conflux/select/Aggregation") (F2 : Fld Z Z.heap g2 "java/lang/Enum" "ordinal" "I" (.int (2 : Int32))) (E3 : Exa Z Z.heap g3 "com/example/conflux/conflux/select/Aggregation") (F3 : Fld Z Z.heap g3 "java/lang/Enum" "ordinal" "I" (.int (3 : Int32))) (O0 : Old Z n0 h0) :
    own_Met l x code maxLocals ret room_1 Z tables_1 #[(.int p0), (.int p1), (.int p2), (.int p3), (.int p4)] h0 (own_Q0 (some (.int (own_f0 p0 p1 p2 p3 p4))) n0) := by
  refine own_enter pn_0 ?_
  intro p e s m below meth c s₁ hx hby hml hown hnm hret hlk hZ e0 X0
  rw [ef_0]
  have N0 := Fr.nil n0
  have hml : c.maxLocals = 16 := hml
  show own_Fin _ _ _ _ _ _ _ (s₁.setTop (mkF m 0 #[.val (.int p0), .val (.int p1), .val (.int p2), .val (.int p3), .val (.int p4), .unset, .unset, .unset, .unset, .unset, .unset, .unset, .unset, .unset, .unset, .unset] []))
  refine own_go (fun _ kk => XS.iloadN X0.here hx rfl (hb hby at_0) rfl (XS.iconst X0.here hx rfl (hb hby at_1) (XS.iand X0.here hx rfl (hb hby at_2) rfl (XS.istore X0.here hx rfl (hb hby at_3) rfl (l' := #[.val (.int p0), .val (.int p1), .val (.int p2), .val (.int p3), .val (.int p4), .val (.int (p0 &&& (3 : Int32))), .unset, .unset, .unset, .unset, .unset, .unset, .unset, .unset, .unset, .unset]) rfl (XS.iconst X0.here hx rfl (hb hby at_5) (XS.iloadN X0.here hx rfl (hb hby at_6) rfl (X0.ldcI hx hown (mvT hZ (hw _ (List.mem_of_getElem? (i := 0) rfl))) rfl (hb hby at_7) (XS.iand X0.here hx rfl (hb hby at_9) rfl (XS.iconst X0.here hx rfl (hb hby at_10) (iremM X0 hx rfl (hb hby at_11) rfl (by decide) kk)))))))))) ?_
  show own_Fin _ _ _ _ _ _ _ (s₁.setTop (mkF m 12 #[.val (.int p0), .val (.int p1), .val (.int p2), .val (.int p3), .val (.int p4), .val (.int (p0 &&& (3 : Int32))), .unset, .unset, .unset, .unset, .unset, .unset, .unset, .unset, .unset, .unset] [(.int ((p1 &&& (2147483647 : Int32)) % (3 : Int32))), (.int (1 : Int32))]))
  refine own_go (fun _ kk => XS.iadd X0.here hx rfl (hb hby at_12) rfl (XS.istore X0.here hx rfl (hb hby at_13) rfl (l' := #[.val (.int p0), .val (.int p1), .val (.int p2), .val (.int p3), .val (.int p4), .val (.int (p0 &&& (3 : Int32))), .val (.int ((1 : Int32) + ((p1 &&& (2147483647 : Int32)) % (3 : Int32)))), .unset, .unset, .unset, .unset, .unset, .unset, .unset, .unset, .unset]) rfl (XS.iloadN X0.here hx rfl (hb hby at_15) rfl (XS.sipush X0.here hx rfl (hb hby at_16) (iremM X0 hx rfl (hb hby at_19) rfl (by decide) (XS.istore X0.here hx rfl (hb hby at_20) rfl (l' := #[.val (.int p0), .val (.int p1), .val (.int p2), .val (.int p3), .val (.int p4), .val (.int (p0 &&& (3 : Int32))), .val (.int ((1 : Int32) + ((p1 &&& (2147483647 : Int32)) % (3 : Int32)))), .val (.int (p2 % (1024 : Int32))), .unset, .unset, .unset, .unset, .unset, .unset, .unset, .unset]) rfl (XS.iloadN X0.here hx rfl (hb hby at_22) rfl (XS.sipush X0.here hx rfl (hb hby at_23) (iremM X0 hx rfl (hb hby at_26) rfl (by decide) (XS.istore X0.here hx rfl (hb hby at_27) rfl (l' := #[.val (.int p0), .val (.int p1), .val (.int p2), .val (.int p3), .val (.int p4), .val (.int (p0 &&& (3 : Int32))), .val (.int ((1 : Int32) + ((p1 &&& (2147483647 : Int32)) % (3 : Int32)))), .val (.int (p2 % (1024 : Int32))), .val (.int (p3 % (1024 : Int32))), .unset, .unset, .unset, .unset, .unset, .unset, .unset]) rfl kk)))))))))) ?_
  show own_Fin _ _ _ _ _ _ _ (s₁.setTop (mkF m 29 #[.val (.int p0), .val (.int p1), .val (.int p2), .val (.int p3), .val (.int p4), .val (.int (p0 &&& (3 : Int32))), .val (.int ((1 : Int32) + ((p1 &&& (2147483647 : Int32)) % (3 : Int32)))), .val (.int (p2 % (1024 : Int32))), .val (.int (p3 % (1024 : Int32))), .unset, .unset, .unset, .unset, .unset, .unset, .unset] []))
  refine own_go (fun _ kk => XS.iload X0.here hx rfl (hb hby at_29) rfl (XS.sipush X0.here hx rfl (hb hby at_31) (iremM X0 hx rfl (hb hby at_34) rfl (by decide) (XS.istore X0.here hx rfl (hb hby at_35) rfl (l' := #[.val (.int p0), .val (.int p1), .val (.int p2), .val (.int p3), .val (.int p4), .val (.int (p0 &&& (3 : Int32))), .val (.int ((1 : Int32) + ((p1 &&& (2147483647 : Int32)) % (3 : Int32)))), .val (.int (p2 % (1024 : Int32))), .val (.int (p3 % (1024 : Int32))), .val (.int (p4 % (1024 : Int32))), .unset, .unset, .unset, .unset, .unset, .unset]) rfl (XS.iload X0.here hx rfl (hb hby at_37) rfl kk))))) ?_
  show own_Fin _ _ _ _ _ _ _ (s₁.setTop (mkF m 39 #[.val (.int p0), .val (.int p1), .val (.int p2), .val (.int p3), .val (.int p4), .val (.int (p0 &&& (3 : Int32))), .val (.int ((1 : Int32) + ((p1 &&& (2147483647 : Int32)) % (3 : Int32)))), .val (.int (p2 % (1024 : Int32))), .val (.int (p3 % (1024 : Int32))), .val (.int (p4 % (1024 : Int32))), .unset, .unset, .unset, .unset, .unset, .unset] [(.int (p0 &&& (3 : Int32)))]))
  refine own_callS X0 hx hZ hown (hw _ (List.mem_of_getElem? (i := 1) rfl)) (hw _ (List.mem_of_getElem? (i := 2) rfl)) (hw _ (List.mem_of_getElem? (i := 3) rfl)) (hw _ (List.mem_of_getElem? (i := 4) rfl)) (by decide) (rm1 l Z a0 hw (p0 &&& (3 : Int32)) h0 n0 Z0 g0 g1 g2 g3 S_SUM S_PRODUCT S_MIN S_ELAPSED O0) e0 (argsL := [(.int (p0 &&& (3 : Int32)))]) (rest := []) rfl rfl (by rw [hml]; rfl) (lenOf pd_0_0 rfl) (hb hby at_39) (W := 0) (Nat.le_of_eq rfl) (by decide) (by decide) (by decide) (by decide) ?_
  rintro v1 T1 L1 X1 ⟨rfl, M1, e1⟩
  have N1 := Fr.app N0 M1
  show own_Fin _ _ _ _ _ _ _ (T1.setTop (mkF m 42 #[.val (.int p0), .val (.int p1), .val (.int p2), .val (.int p3), .val (.int p4), .val (.int (p0 &&& (3 : Int32))), .val (.int ((1 : Int32) + ((p1 &&& (2147483647 : Int32)) % (3 : Int32)))), .val (.int (p2 % (1024 : Int32))), .val (.int (p3 % (1024 : Int32))), .val (.int (p4 % (1024 : Int32))), .unset, .unset, .unset, .unset, .unset, .unset] [(.ref (own_f1 (p0 &&& (3 : Int32)) g0 g1 g2 g3))]))
  by_cases hk0 : (p0 &&& (3 : Int32)) = 0
  · rw [show own_f1 (p0 &&& (3 : Int32)) g0 g1 g2 g3 = g0 from by rw [own_f1, if_pos hk0]]
    show own_Fin _ _ _ _ _ _ _ (T1.setTop (mkF m 42 #[.val (.int p0), .val (.int p1), .val (.int p2), .val (.int p3), .val (.int p4), .val (.int (p0 &&& (3 : Int32))), .val (.int ((1 : Int32) + ((p1 &&& (2147483647 : Int32)) % (3 : Int32)))), .val (.int (p2 % (1024 : Int32))), .val (.int (p3 % (1024 : Int32))), .val (.int (p4 % (1024 : Int32))), .unset, .unset, .unset, .unset, .unset, .unset] [(.ref g0)]))
    refine own_go (fun _ kk => XS.astore X1.here hx rfl (hb hby at_42) rfl rfl (l' := #[.val (.int p0), .val (.int p1), .val (.int p2), .val (.int p3), .val (.int p4), .val (.int (p0 &&& (3 : Int32))), .val (.int ((1 : Int32) + ((p1 &&& (2147483647 : Int32)) % (3 : Int32)))), .val (.int (p2 % (1024 : Int32))), .val (.int (p3 % (1024 : Int32))), .val (.int (p4 % (1024 : Int32))), .val (.ref g0), .unset, .unset, .unset, .unset, .unset]) rfl (XS.iload X1.here hx rfl (hb hby at_44) rfl (XS.iconst X1.here hx rfl (hb hby at_46) kk))) ?_
    show own_Fin _ _ _ _ _ _ _ (T1.setTop (mkF m 47 #[.val (.int p0), .val (.int p1), .val (.int p2), .val (.int p3), .val (.int p4), .val (.int (p0 &&& (3 : Int32))), .val (.int ((1 : Int32) + ((p1 &&& (2147483647 : Int32)) % (3 : Int32)))), .val (.int (p2 % (1024 : Int32))), .val (.int (p3 % (1024 : Int32))), .val (.int (p4 % (1024 : Int32))), .val (.ref g0), .unset, .unset, .unset, .unset, .unset] [(.int (1 : Int32)), (.int ((1 : Int32) + ((p1 &&& (2147483647 : Int32)) % (3 : Int32))))]))
    by_cases hc47 : ((1 : Int32) + ((p1 &&& (2147483647 : Int32)) % (3 : Int32))) = (1 : Int32)
    · refine own_go (fun _ kk => XS.icmpNo X1.here hx rfl (hb hby at_47) rfl (XT.ii_ne_f hc47) (XS.iconst X1.here hx rfl (hb hby at_50) kk)) ?_
      show own_Fin _ _ _ _ _ _ _ (T1.setTop (mkF m 51 #[.val (.int p0), .val (.int p1), .val (.int p2), .val (.int p3), .val (.int p4), .val (.int (p0 &&& (3 : Int32))), .val (.int ((1 : Int32) + ((p1 &&& (2147483647 : Int32)) % (3 : Int32)))), .val (.int (p2 % (1024 : Int32))), .val (.int (p3 % (1024 : Int32))), .val (.int (p4 % (1024 : Int32))), .val (.ref g0), .unset, .unset, .unset, .unset, .unset] [(.int (1 : Int32))]))
      refine own_newD X1 hx hZ (hw _ (List.mem_of_getElem? (i := 8) rfl)) e1 (hb hby at_51) (by decide) (cap := 1) (by decide) (by decide) (by decide) (by decide) ?_
      intro T2 h2 b2 g2 X2 e2 E2 A2 D2
      have g_b2 : n0 ≤ b2 := Nat.le_trans Z0 (Nat.le_of_eq g2.symm)
      have f3 := O0.ext E2
      have Z2 := Nat.le_trans Z0 E2.1
      have A2 : own_Ar Z h2 b2 .double (List.map Value.double [(0 : UInt64)]) := A2
      show own_Fin _ _ _ _ _ _ _ (T2.setTop (mkF m 53 #[.val (.int p0), .val (.int p1), .val (.int p2), .val (.int p3), .val (.int p4), .val (.int (p0 &&& (3 : Int32))), .val (.int ((1 : Int32) + ((p1 &&& (2147483647 : Int32)) % (3 : Int32)))), .val (.int (p2 % (1024 : Int32))), .val (.int (p3 % (1024 : Int32))), .val (.int (p4 % (1024 : Int32))), .val (.ref g0), .unset, .unset, .unset, .unset, .unset] [(.ref b2)]))
      refine own_go (fun _ kk => XS.dup X2.here hx rfl (hb hby at_53) rfl rfl (XS.iconst X2.here hx rfl (hb hby at_54) (XS.iload X2.here hx rfl (hb hby at_55) rfl (XS.i2dS X2.here hx rfl (hb hby at_57) rfl rfl kk)))) ?_
      show own_Fin _ _ _ _ _ _ _ (T2.setTop (mkF m 58 #[.val (.int p0), .val (.int p1), .val (.int p2), .val (.int p3), .val (.int p4), .val (.int (p0 &&& (3 : Int32))), .val (.int ((1 : Int32) + ((p1 &&& (2147483647 : Int32)) % (3 : Int32)))), .val (.int (p2 % (1024 : Int32))), .val (.int (p3 % (1024 : Int32))), .val (.int (p4 % (1024 : Int32))), .val (.ref g0), .unset, .unset, .unset, .unset, .unset] [(.double (FP.i2d (p2 % (1024 : Int32)))), (.int (0 : Int32)), (.ref b2), (.ref b2)]))
      refine own_stD X2 hx hZ e2 A2 (by decide) (by show (0 : Int32).toNatClampNeg < 1; decide) (hb hby at_58) ?_
      intro T4 h4 X4 e4 W4 A4
      have f5 := f3.wr W4 g_b2
      have f7 := D2.wr W4
      have Z4 := Nat.le_trans Z2 (Keep.of_wr W4).1
      have A4 : own_Ar Z h4 b2 .double (List.map Value.double [(FP.i2d (p2 % (1024 : Int32)))]) := A4
      have N4 := Fr.snoc X4 N1 g_b2
      show own_Fin _ _ _ _ _ _ _ (T4.setTop (mkF m 59 #[.val (.int p0), .val (.int p1), .val (.int p2), .val (.int p3), .val (.int p4), .val (.int (p0 &&& (3 : Int32))), .val (.int ((1 : Int32) + ((p1 &&& (2147483647 : Int32)) % (3 : Int32)))), .val (.int (p2 % (1024 : Int32))), .val (.int (p3 % (1024 : Int32))), .val (.int (p4 % (1024 : Int32))), .val (.ref g0), .unset, .unset, .unset, .unset, .unset] [(.ref b2)]))
      refine own_go (fun _ kk => XS.astore X4.here hx rfl (hb hby at_59) rfl rfl (l' := #[.val (.int p0), .val (.int p1), .val (.int p2), .val (.int p3), .val (.int p4), .val (.int (p0 &&& (3 : Int32))), .val (.int ((1 : Int32) + ((p1 &&& (2147483647 : Int32)) % (3 : Int32)))), .val (.int (p2 % (1024 : Int32))), .val (.int (p3 % (1024 : Int32))), .val (.int (p4 % (1024 : Int32))), .val (.ref g0), .val (.ref b2), .unset, .unset, .unset, .unset]) rfl (XS.goto X4.here hx rfl (pc0 := 61) (pc' := 113) rfl (hb hby at_61) (by decide) (by decide) (XS.aload X4.here hx rfl (hb hby at_113) rfl rfl (XS.aload X4.here hx rfl (hb hby at_115) rfl rfl kk)))) ?_
      show own_Fin _ _ _ _ _ _ _ (T4.setTop (mkF m 117 #[.val (.int p0), .val (.int p1), .val (.int p2), .val (.int p3), .val (.int p4), .val (.int (p0 &&& (3 : Int32))), .val (.int ((1 : Int32) + ((p1 &&& (2147483647 : Int32)) % (3 : Int32)))), .val (.int (p2 % (1024 : Int32))), .val (.int (p3 % (1024 : Int32))), .val (.int (p4 % (1024 : Int32))), .val (.ref g0), .val (.ref b2), .unset, .unset, .unset, .unset] [(.ref b2), (.ref g0)]))
      refine own_callV X4 hx hZ hown (hw _ (List.mem_of_getElem? (i := 9) rfl)) (hw _ (List.mem_of_getElem? (i := 10) rfl)) (notFace_of_selects (args := #[]) (mvT hZ (hw _ (List.mem_of_getElem? (i := 12) rfl)))) (hw _ (List.mem_of_getElem? (i := 12) rfl)) (hw _ (List.mem_of_getElem? (i := 11) rfl)) (hw _ (List.mem_of_getElem? (i := 13) rfl)) (hw _ (List.mem_of_getElem? (i := 6) rfl)) (by decide) (rm2k0n1 l Z a0 hw g0 b2 h4 n0 Z4 (E0.ext f5.2) (F0.ext f5.2) (FP.i2d (p2 % (1024 : Int32))) A4) e4 (E0.ext f5.2) (argsL := [(.ref b2)]) (rest := []) rfl rfl (by rw [hml]; rfl) (lenOf pd_0_1 rfl) (hb hby at_117) (W := 0) (Nat.le_of_eq rfl) (by decide) (by decide) (by decide) (by decide) ?_
      rintro v8 T8 L8 X8 ⟨rfl, M8, e8⟩
      have N8 := Fr.app N4 M8
      show own_Fin _ _ _ _ _ _ _ (T8.setTop (mkF m 120 #[.val (.int p0), .val (.int p1), .val (.int p2), .val (.int p3), .val (.int p4), .val (.int (p0 &&& (3 : Int32))), .val (.int ((1 : Int32) + ((p1 &&& (2147483647 : Int32)) % (3 : Int32)))), .val (.int (p2 % (1024 : Int32))), .val (.int (p3 % (1024 : Int32))), .val (.int (p4 % (1024 : Int32))), .val (.ref g0), .val (.ref b2), .unset, .unset, .unset, .unset] [(.double (FP.i2d (p2 % (1024 : Int32))))]))
      refine own_go (fun _ kk => XS.dstore X8.here hx rfl (hb hby at_120) rfl (l' := #[.val (.int p0), .val (.int p1), .val (.int p2), .val (.int p3), .val (.int p4), .val (.int (p0 &&& (3 : Int32))), .val (.int ((1 : Int32) + ((p1 &&& (2147483647 : Int32)) % (3 : Int32)))), .val (.int (p2 % (1024 : Int32))), .val (.int (p3 % (1024 : Int32))), .val (.int (p4 % (1024 : Int32))), .val (.ref g0), .val (.ref b2), .val (.double (FP.i2d (p2 % (1024 : Int32)))), .second, .unset, .unset]) rfl (XS.iload X8.here hx rfl (hb hby at_122) rfl (XS.iload X8.here hx rfl (hb hby at_124) rfl (XS.iload X8.here hx rfl (hb hby at_126) rfl (XS.i2l X8.here hx rfl (hb hby at_128) rfl (XS.iload X8.here hx rfl (hb hby at_129) rfl (XS.i2l X8.here hx rfl (hb hby at_131) rfl (XS.iload X8.here hx rfl (hb hby at_132) rfl (XS.i2l X8.here hx rfl (hb hby at_134) rfl kk))))))))) ?_
      show own_Fin _ _ _ _ _ _ _ (T8.setTop (mkF m 135 #[.val (.int p0), .val (.int p1), .val (.int p2), .val (.int p3), .val (.int p4), .val (.int (p0 &&& (3 : Int32))), .val (.int ((1 : Int32) + ((p1 &&& (2147483647 : Int32)) % (3 : Int32)))), .val (.int (p2 % (1024 : Int32))), .val (.int (p3 % (1024 : Int32))), .val (.int (p4 % (1024 : Int32))), .val (.ref g0), .val (.ref b2), .val (.double (FP.i2d (p2 % (1024 : Int32)))), .second, .unset, .unset] [(.long (Int32.toInt64 (p4 % (1024 : Int32)))), (.long (Int32.toInt64 (p3 % (1024 : Int32)))), (.long (Int32.toInt64 (p2 % (1024 : Int32)))), (.int ((1 : Int32) + ((p1 &&& (2147483647 : Int32)) % (3 : Int32)))), (.int (p0 &&& (3 : Int32)))]))
      refine own_callS X8 hx hZ hown (hw _ (List.mem_of_getElem? (i := 14) rfl)) (hw _ (List.mem_of_getElem? (i := 15) rfl)) (hw _ (List.mem_of_getElem? (i := 3) rfl)) (hw _ (List.mem_of_getElem? (i := 16) rfl)) (by decide) (rm3 l Z a0 hw (p0 &&& (3 : Int32)) ((1 : Int32) + ((p1 &&& (2147483647 : Int32)) % (3 : Int32))) (Int32.toInt64 (p2 % (1024 : Int32))) (Int32.toInt64 (p3 % (1024 : Int32))) (Int32.toInt64 (p4 % (1024 : Int32))) h4 n0 Z4) e8 (argsL := [(.int (p0 &&& (3 : Int32))), (.int ((1 : Int32) + ((p1 &&& (2147483647 : Int32)) % (3 : Int32)))), (.long (Int32.toInt64 (p2 % (1024 : Int32)))), (.long (Int32.toInt64 (p3 % (1024 : Int32)))), (.long (Int32.toInt64 (p4 % (1024 : Int32))))]) (rest := []) rfl rfl (by rw [hml]; rfl) (lenOf pd_0_2 rfl) (hb hby at_135) (W := 0) (Nat.le_of_eq rfl) (by decide) (by decide) (by decide) (by decide) ?_
      rintro v9 T9 L9 X9 ⟨rfl, M9, e9⟩
      have N9 := Fr.app N8 M9
      show own_Fin _ _ _ _ _ _ _ (T9.setTop (mkF m 138 #[.val (.int p0), .val (.int p1), .val (.int p2), .val (.int p3), .val (.int p4), .val (.int (p0 &&& (3 : Int32))), .val (.int ((1 : Int32) + ((p1 &&& (2147483647 : Int32)) % (3 : Int32)))), .val (.int (p2 % (1024 : Int32))), .val (.int (p3 % (1024 : Int32))), .val (.int (p4 % (1024 : Int32))), .val (.ref g0), .val (.ref b2), .val (.double (FP.i2d (p2 % (1024 : Int32)))), .second, .unset, .unset] [(.long (own_f3 (p0 &&& (3 : Int32)) ((1 : Int32) + ((p1 &&& (2147483647 : Int32)) % (3 : Int32))) (Int32.toInt64 (p2 % (1024 : Int32))) (Int32.toInt64 (p3 % (1024 : Int32))) (Int32.toInt64 (p4 % (1024 : Int32)))))]))
      refine own_go (fun _ kk => XS.lstore X9.here hx rfl (hb hby at_138) rfl (l' := #[.val (.int p0), .val (.int p1), .val (.int p2), .val (.int p3), .val (.int p4), .val (.int (p0 &&& (3 : Int32))), .val (.int ((1 : Int32) + ((p1 &&& (2147483647 : Int32)) % (3 : Int32)))), .val (.int (p2 % (1024 : Int32))), .val (.int (p3 % (1024 : Int32))), .val (.int (p4 % (1024 : Int32))), .val (.ref g0), .val (.ref b2), .val (.double (FP.i2d (p2 % (1024 : Int32)))), .second, .val (.long (own_f3 (p0 &&& (3 : Int32)) ((1 : Int32) + ((p1 &&& (2147483647 : Int32)) % (3 : Int32))) (Int32.toInt64 (p2 % (1024 : Int32))) (Int32.toInt64 (p3 % (1024 : Int32))) (Int32.toInt64 (p4 % (1024 : Int32))))), .second]) rfl (XS.dload X9.here hx rfl (hb hby at_140) rfl (XS.lload X9.here hx rfl (hb hby at_142) rfl (XS.l2dS X9.here hx rfl (hb hby at_144) rfl rfl (XS.dcmpS X9.here hx rfl (hb hby at_145) rfl rfl kk))))) ?_
      show own_Fin _ _ _ _ _ _ _ (T9.setTop (mkF m 146 #[.val (.int p0), .val (.int p1), .val (.int p2), .val (.int p3), .val (.int p4), .val (.int (p0 &&& (3 : Int32))), .val (.int ((1 : Int32) + ((p1 &&& (2147483647 : Int32)) % (3 : Int32)))), .val (.int (p2 % (1024 : Int32))), .val (.int (p3 % (1024 : Int32))), .val (.int (p4 % (1024 : Int32))), .val (.ref g0), .val (.ref b2), .val (.double (FP.i2d (p2 % (1024 : Int32)))), .second, .val (.long (own_f3 (p0 &&& (3 : Int32)) ((1 : Int32) + ((p1 &&& (2147483647 : Int32)) % (3 : Int32))) (Int32.toInt64 (p2 % (1024 : Int32))) (Int32.toInt64 (p3 % (1024 : Int32))) (Int32.toInt64 (p4 % (1024 : Int32))))), .second] [(.int (cmpValue (FP.dcmp (FP.i2d (p2 % (1024 : Int32))) (FP.l2d (own_f3 (p0 &&& (3 : Int32)) ((1 : Int32) + ((p1 &&& (2147483647 : Int32)) % (3 : Int32))) (Int32.toInt64 (p2 % (1024 : Int32))) (Int32.toInt64 (p3 % (1024 : Int32))) (Int32.toInt64 (p4 % (1024 : Int32)))))) .l))]))
      by_cases hc146 : (cmpValue (FP.dcmp (FP.i2d (p2 % (1024 : Int32))) (FP.l2d (own_f3 (p0 &&& (3 : Int32)) ((1 : Int32) + ((p1 &&& (2147483647 : Int32)) % (3 : Int32))) (Int32.toInt64 (p2 % (1024 : Int32))) (Int32.toInt64 (p3 % (1024 : Int32))) (Int32.toInt64 (p4 % (1024 : Int32)))))) .l) = 0
      · refine own_go (fun _ kk => XS.ifNo X9.here hx rfl (hb hby at_146) rfl (XT.i0_ne_f hc146) (XS.iconst X9.here hx rfl (hb hby at_149) (XS.goto X9.here hx rfl (pc0 := 150) (pc' := 154) rfl (hb hby at_150) (by decide) (by decide) kk))) ?_
        show own_Fin _ _ _ _ _ _ _ (T9.setTop (mkF m 154 #[.val (.int p0), .val (.int p1), .val (.int p2), .val (.int p3), .val (.int p4), .val (.int (p0 &&& (3 : Int32))), .val (.int ((1 : Int32) + ((p1 &&& (2147483647 : Int32)) % (3 : Int32)))), .val (.int (p2 % (1024 : Int32))), .val (.int (p3 % (1024 : Int32))), .val (.int (p4 % (1024 : Int32))), .val (.ref g0), .val (.ref b2), .val (.double (FP.i2d (p2 % (1024 : Int32)))), .second, .val (.long (own_f3 (p0 &&& (3 : Int32)) ((1 : Int32) + ((p1 &&& (2147483647 : Int32)) % (3 : Int32))) (Int32.toInt64 (p2 % (1024 : Int32))) (Int32.toInt64 (p3 % (1024 : Int32))) (Int32.toInt64 (p4 % (1024 : Int32))))), .second] [(.int (1 : Int32))]))
        exact own_retZ X9 hx hlk hret rfl (hb hby at_154) (by decide) (by decide) ⟨(by rw [own_f0, if_pos hk0, if_pos hc47, if_pos hc146]), N9⟩
      · refine own_go (fun _ kk => XS.ifYes X9.here hx rfl (pc0 := 146) (pc' := 153) rfl (hb hby at_146) rfl (XT.i0_ne_t hc146) (by decide) (by decide) (XS.iconst X9.here hx rfl (hb hby at_153) kk)) ?_
        show own_Fin _ _ _ _ _ _ _ (T9.setTop (mkF m 154 #[.val (.int p0), .val (.int p1), .val (.int p2), .val (.int p3), .val (.int p4), .val (.int (p0 &&& (3 : Int32))), .val (.int ((1 : Int32) + ((p1 &&& (2147483647 : Int32)) % (3 : Int32)))), .val (.int (p2 % (1024 : Int32))), .val (.int (p3 % (1024 : Int32))), .val (.int (p4 % (1024 : Int32))), .val (.ref g0), .val (.ref b2), .val (.double (FP.i2d (p2 % (1024 : Int32)))), .second, .val (.long (own_f3 (p0 &&& (3 : Int32)) ((1 : Int32) + ((p1 &&& (2147483647 : Int32)) % (3 : Int32))) (Int32.toInt64 (p2 % (1024 : Int32))) (Int32.toInt64 (p3 % (1024 : Int32))) (Int32.toInt64 (p4 % (1024 : Int32))))), .second] [(.int (0 : Int32))]))
        exact own_retZ X9 hx hlk hret rfl (hb hby at_154) (by decide) (by decide) ⟨(by rw [own_f0, if_pos hk0, if_pos hc47, if_neg hc146]), N9⟩
    · refine own_go (fun _ kk => XS.icmpYes X1.here hx rfl (pc0 := 47) (pc' := 64) rfl (hb hby at_47) rfl (XT.ii_ne_t hc47) (by decide) (by decide) (XS.iload X1.here hx rfl (hb hby at_64) rfl (XS.iconst X1.here hx rfl (hb hby at_66) kk))) ?_
      show own_Fin _ _ _ _ _ _ _ (T1.setTop (mkF m 67 #[.val (.int p0), .val (.int p1), .val (.int p2), .val (.int p3), .val (.int p4), .val (.int (p0 &&& (3 : Int32))), .val (.int ((1 : Int32) + ((p1 &&& (2147483647 : Int32)) % (3 : Int32)))), .val (.int (p2 % (1024 : Int32))), .val (.int (p3 % (1024 : Int32))), .val (.int (p4 % (1024 : Int32))), .val (.ref g0), .unset, .unset, .unset, .unset, .unset] [(.int (2 : Int32)), (.int ((1 : Int32) + ((p1 &&& (2147483647 : Int32)) % (3 : Int32))))]))
      by_cases hc67 : ((1 : Int32) + ((p1 &&& (2147483647 : Int32)) % (3 : Int32))) = (2 : Int32)
      · refine own_go (fun _ kk => XS.icmpNo X1.here hx rfl (hb hby at_67) rfl (XT.ii_ne_f hc67) (XS.iconst X1.here hx rfl (hb hby at_70) kk)) ?_
        show own_Fin _ _ _ _ _ _ _ (T1.setTop (mkF m 71 #[.val (.int p0), .val (.int p1), .val (.int p2), .val (.int p3), .val (.int p4), .val (.int (p0 &&& (3 : Int32))), .val (.int ((1 : Int32) + ((p1 &&& (2147483647 : Int32)) % (3 : Int32)))), .val (.int (p2 % (1024 : Int32))), .val (.int (p3 % (1024 : Int32))), .val (.int (p4 % (1024 : Int32))), .val (.ref g0), .unset, .unset, .unset, .unset, .unset] [(.int (2 : Int32))]))
        refine own_newD X1 hx hZ (hw _ (List.mem_of_getElem? (i := 8) rfl)) e1 (hb hby at_71) (by decide) (cap := 2) (by decide) (by decide) (by decide) (by decide) ?_
        intro T10 h10 b10 g10 X10 e10 E10 A10 D10
        have g_b10 : n0 ≤ b10 := Nat.le_trans Z0 (Nat.le_of_eq g10.symm)
        have f11 := O0.ext E10
        have Z10 := Nat.le_trans Z0 E10.1
        have A10 : own_Ar Z h10 b10 .double (List.map Value.double [(0 : UInt64), (0 : UInt64)]) := A10
        show own_Fin _ _ _ _ _ _ _ (T10.setTop (mkF m 73 #[.val (.int p0), .val (.int p1), .val (.int p2), .val (.int p3), .val (.int p4), .val (.int (p0 &&& (3 : Int32))), .val (.int ((1 : Int32) + ((p1 &&& (2147483647 : Int32)) % (3 : Int32)))), .val (.int (p2 % (1024 : Int32))), .val (.int (p3 % (1024 : Int32))), .val (.int (p4 % (1024 : Int32))), .val (.ref g0), .unset, .unset, .unset, .unset, .unset] [(.ref b10)]))
        refine own_go (fun _ kk => XS.dup X10.here hx rfl (hb hby at_73) rfl rfl (XS.iconst X10.here hx rfl (hb hby at_74) (XS.iload X10.here hx rfl (hb hby at_75) rfl (XS.i2dS X10.here hx rfl (hb hby at_77) rfl rfl kk)))) ?_
        show own_Fin _ _ _ _ _ _ _ (T10.setTop (mkF m 78 #[.val (.int p0), .val (.int p1), .val (.int p2), .val (.int p3), .val (.int p4), .val (.int (p0 &&& (3 : Int32))), .val (.int ((1 : Int32) + ((p1 &&& (2147483647 : Int32)) % (3 : Int32)))), .val (.int (p2 % (1024 : Int32))), .val (.int (p3 % (1024 : Int32))), .val (.int (p4 % (1024 : Int32))), .val (.ref g0), .unset, .unset, .unset, .unset, .unset] [(.double (FP.i2d (p2 % (1024 : Int32)))), (.int (0 : Int32)), (.ref b10), (.ref b10)]))
        refine own_stD X10 hx hZ e10 A10 (by decide) (by show (0 : Int32).toNatClampNeg < 2; decide) (hb hby at_78) ?_
        intro T12 h12 X12 e12 W12 A12
        have f13 := f11.wr W12 g_b10
        have f15 := D10.wr W12
        have Z12 := Nat.le_trans Z10 (Keep.of_wr W12).1
        have A12 : own_Ar Z h12 b10 .double (List.map Value.double [(FP.i2d (p2 % (1024 : Int32))), (0 : UInt64)]) := A12
        have N12 := Fr.snoc X12 N1 g_b10
        show own_Fin _ _ _ _ _ _ _ (T12.setTop (mkF m 79 #[.val (.int p0), .val (.int p1), .val (.int p2), .val (.int p3), .val (.int p4), .val (.int (p0 &&& (3 : Int32))), .val (.int ((1 : Int32) + ((p1 &&& (2147483647 : Int32)) % (3 : Int32)))), .val (.int (p2 % (1024 : Int32))), .val (.int (p3 % (1024 : Int32))), .val (.int (p4 % (1024 : Int32))), .val (.ref g0), .unset, .unset, .unset, .unset, .unset] [(.ref b10)]))
        refine own_go (fun _ kk => XS.dup X12.here hx rfl (hb hby at_79) rfl rfl (XS.iconst X12.here hx rfl (hb hby at_80) (XS.iload X12.here hx rfl (hb hby at_81) rfl (XS.i2dS X12.here hx rfl (hb hby at_83) rfl rfl kk)))) ?_
        show own_Fin _ _ _ _ _ _ _ (T12.setTop (mkF m 84 #[.val (.int p0), .val (.int p1), .val (.int p2), .val (.int p3), .val (.int p4), .val (.int (p0 &&& (3 : Int32))), .val (.int ((1 : Int32) + ((p1 &&& (2147483647 : Int32)) % (3 : Int32)))), .val (.int (p2 % (1024 : Int32))), .val (.int (p3 % (1024 : Int32))), .val (.int (p4 % (1024 : Int32))), .val (.ref g0), .unset, .unset, .unset, .unset, .unset] [(.double (FP.i2d (p3 % (1024 : Int32)))), (.int (1 : Int32)), (.ref b10), (.ref b10)]))
        refine own_stD X12 hx hZ e12 A12 (by decide) (by show (1 : Int32).toNatClampNeg < 2; decide) (hb hby at_84) ?_
        intro T16 h16 X16 e16 W16 A16
        have f17 := f13.wr W16 g_b10
        have f19 := f15.wr W16
        have Z16 := Nat.le_trans Z12 (Keep.of_wr W16).1
        have A16 : own_Ar Z h16 b10 .double (List.map Value.double [(FP.i2d (p2 % (1024 : Int32))), (FP.i2d (p3 % (1024 : Int32)))]) := A16
        have N16 := Fr.snoc X16 N12 g_b10
        show own_Fin _ _ _ _ _ _ _ (T16.setTop (mkF m 85 #[.val (.int p0), .val (.int p1), .val (.int p2), .val (.int p3), .val (.int p4), .val (.int (p0 &&& (3 : Int32))), .val (.int ((1 : Int32) + ((p1 &&& (2147483647 : Int32)) % (3 : Int32)))), .val (.int (p2 % (1024 : Int32))), .val (.int (p3 % (1024 : Int32))), .val (.int (p4 % (1024 : Int32))), .val (.ref g0), .unset, .unset, .unset, .unset, .unset] [(.ref b10)]))
        refine own_go (fun _ kk => XS.astore X16.here hx rfl (hb hby at_85) rfl rfl (l' := #[.val (.int p0), .val (.int p1), .val (.int p2), .val (.int p3), .val (.int p4), .val (.int (p0 &&& (3 : Int32))), .val (.int ((1 : Int32) + ((p1 &&& (2147483647 : Int32)) % (3 : Int32)))), .val (.int (p2 % (1024 : Int32))), .val (.int (p3 % (1024 : Int32))), .val (.int (p4 % (1024 : Int32))), .val (.ref g0), .val (.ref b10), .unset, .unset, .unset, .unset]) rfl (XS.goto X16.here hx rfl (pc0 := 87) (pc' := 113) rfl (hb hby at_87) (by decide) (by decide) (XS.aload X16.here hx rfl (hb hby at_113) rfl rfl (XS.aload X16.here hx rfl (hb hby at_115) rfl rfl kk)))) ?_
        show own_Fin _ _ _ _ _ _ _ (T16.setTop (mkF m 117 #[.val (.int p0), .val (.int p1), .val (.int p2), .val (.int p3), .val (.int p4), .val (.int (p0 &&& (3 : Int32))), .val (.int ((1 : Int32) + ((p1 &&& (2147483647 : Int32)) % (3 : Int32)))), .val (.int (p2 % (1024 : Int32))), .val (.int (p3 % (1024 : Int32))), .val (.int (p4 % (1024 : Int32))), .val (.ref g0), .val (.ref b10), .unset, .unset, .unset, .unset] [(.ref b10), (.ref g0)]))
        refine own_callV X16 hx hZ hown (hw _ (List.mem_of_getElem? (i := 9) rfl)) (hw _ (List.mem_of_getElem? (i := 10) rfl)) (notFace_of_selects (args := #[]) (mvT hZ (hw _ (List.mem_of_getElem? (i := 12) rfl)))) (hw _ (List.mem_of_getElem? (i := 12) rfl)) (hw _ (List.mem_of_getElem? (i := 11) rfl)) (hw _ (List.mem_of_getElem? (i := 13) rfl)) (hw _ (List.mem_of_getElem? (i := 6) rfl)) (by decide) (rm2k0n2 l Z a0 hw g0 b10 h16 n0 Z16 (E0.ext f17.2) (F0.ext f17.2) (FP.i2d (p2 % (1024 : Int32))) (FP.i2d (p3 % (1024 : Int32))) A16 (own_noNaN (own_a2 _ _))) e16 (E0.ext f17.2) (argsL := [(.ref b10)]) (rest := []) rfl rfl (by rw [hml]; rfl) (lenOf pd_0_1 rfl) (hb hby at_117) (W := 0) (Nat.le_of_eq rfl) (by decide) (by decide) (by decide) (by decide) ?_
        rintro v20 T20 L20 X20 ⟨rfl, M20, e20⟩
        have N20 := Fr.app N16 M20
        show own_Fin _ _ _ _ _ _ _ (T20.setTop (mkF m 120 #[.val (.int p0), .val (.int p1), .val (.int p2), .val (.int p3), .val (.int p4), .val (.int (p0 &&& (3 : Int32))), .val (.int ((1 : Int32) + ((p1 &&& (2147483647 : Int32)) % (3 : Int32)))), .val (.int (p2 % (1024 : Int32))), .val (.int (p3 % (1024 : Int32))), .val (.int (p4 % (1024 : Int32))), .val (.ref g0), .val (.ref b10), .unset, .unset, .unset, .unset] [(.double (FP.dadd (FP.i2d (p2 % (1024 : Int32))) (FP.i2d (p3 % (1024 : Int32)))))]))
        refine own_go (fun _ kk => XS.dstore X20.here hx rfl (hb hby at_120) rfl (l' := #[.val (.int p0), .val (.int p1), .val (.int p2), .val (.int p3), .val (.int p4), .val (.int (p0 &&& (3 : Int32))), .val (.int ((1 : Int32) + ((p1 &&& (2147483647 : Int32)) % (3 : Int32)))), .val (.int (p2 % (1024 : Int32))), .val (.int (p3 % (1024 : Int32))), .val (.int (p4 % (1024 : Int32))), .val (.ref g0), .val (.ref b10), .val (.double (FP.dadd (FP.i2d (p2 % (1024 : Int32))) (FP.i2d (p3 % (1024 : Int32))))), .second, .unset, .unset]) rfl (XS.iload X20.here hx rfl (hb hby at_122) rfl (XS.iload X20.here hx rfl (hb hby at_124) rfl (XS.iload X20.here hx rfl (hb hby at_126) rfl (XS.i2l X20.here hx rfl (hb hby at_128) rfl (XS.iload X20.here hx rfl (hb hby at_129) rfl (XS.i2l X20.here hx rfl (hb hby at_131) rfl (XS.iload X20.here hx rfl (hb hby at_132) rfl (XS.i2l X20.here hx rfl (hb hby at_134) rfl kk))))))))) ?_
        show own_Fin _ _ _ _ _ _ _ (T20.setTop (mkF m 135 #[.val (.int p0), .val (.int p1), .val (.int p2), .val (.int p3), .val (.int p4), .val (.int (p0 &&& (3 : Int32))), .val (.int ((1 : Int32) + ((p1 &&& (2147483647 : Int32)) % (3 : Int32)))), .val (.int (p2 % (1024 : Int32))), .val (.int (p3 % (1024 : Int32))), .val (.int (p4 % (1024 : Int32))), .val (.ref g0), .val (.ref b10), .val (.double (FP.dadd (FP.i2d (p2 % (1024 : Int32))) (FP.i2d (p3 % (1024 : Int32))))), .second, .unset, .unset] [(.long (Int32.toInt64 (p4 % (1024 : Int32)))), (.long (Int32.toInt64 (p3 % (1024 : Int32)))), (.long (Int32.toInt64 (p2 % (1024 : Int32)))), (.int ((1 : Int32) + ((p1 &&& (2147483647 : Int32)) % (3 : Int32)))), (.int (p0 &&& (3 : Int32)))]))
        refine own_callS X20 hx hZ hown (hw _ (List.mem_of_getElem? (i := 14) rfl)) (hw _ (List.mem_of_getElem? (i := 15) rfl)) (hw _ (List.mem_of_getElem? (i := 3) rfl)) (hw _ (List.mem_of_getElem? (i := 16) rfl)) (by decide) (rm3 l Z a0 hw (p0 &&& (3 : Int32)) ((1 : Int32) + ((p1 &&& (2147483647 : Int32)) % (3 : Int32))) (Int32.toInt64 (p2 % (1024 : Int32))) (Int32.toInt64 (p3 % (1024 : Int32))) (Int32.toInt64 (p4 % (1024 : Int32))) h16 n0 Z16) e20 (argsL := [(.int (p0 &&& (3 : Int32))), (.int ((1 : Int32) + ((p1 &&& (2147483647 : Int32)) % (3 : Int32)))), (.long (Int32.toInt64 (p2 % (1024 : Int32)))), (.long (Int32.toInt64 (p3 % (1024 : Int32)))), (.long (Int32.toInt64 (p4 % (1024 : Int32))))]) (rest := []) rfl rfl (by rw [hml]; rfl) (lenOf pd_0_2 rfl) (hb hby at_135) (W := 0) (Nat.le_of_eq rfl) (by decide) (by decide) (by decide) (by decide) ?_
        rintro v21 T21 L21 X21 ⟨rfl, M21, e21⟩
        have N21 := Fr.app N20 M21
        show own_Fin _ _ _ _ _ _ _ (T21.setTop (mkF m 138 #[.val (.int p0), .val (.int p1), .val (.int p2), .val (.int p3), .val (.int p4), .val (.int (p0 &&& (3 : Int32))), .val (.int ((1 : Int32) + ((p1 &&& (2147483647 : Int32)) % (3 : Int32)))), .val (.int (p2 % (1024 : Int32))), .val (.int (p3 % (1024 : Int32))), .val (.int (p4 % (1024 : Int32))), .val (.ref g0), .val (.ref b10), .val (.double (FP.dadd (FP.i2d (p2 % (1024 : Int32))) (FP.i2d (p3 % (1024 : Int32))))), .second, .unset, .unset] [(.long (own_f3 (p0 &&& (3 : Int32)) ((1 : Int32) + ((p1 &&& (2147483647 : Int32)) % (3 : Int32))) (Int32.toInt64 (p2 % (1024 : Int32))) (Int32.toInt64 (p3 % (1024 : Int32))) (Int32.toInt64 (p4 % (1024 : Int32)))))]))
        refine own_go (fun _ kk => XS.lstore X21.here hx rfl (hb hby at_138) rfl (l' := #[.val (.int p0), .val (.int p1), .val (.int p2), .val (.int p3), .val (.int p4), .val (.int (p0 &&& (3 : Int32))), .val (.int ((1 : Int32) + ((p1 &&& (2147483647 : Int32)) % (3 : Int32)))), .val (.int (p2 % (1024 : Int32))), .val (.int (p3 % (1024 : Int32))), .val (.int (p4 % (1024 : Int32))), .val (.ref g0), .val (.ref b10), .val (.double (FP.dadd (FP.i2d (p2 % (1024 : Int32))) (FP.i2d (p3 % (1024 : Int32))))), .second, .val (.long (own_f3 (p0 &&& (3 : Int32)) ((1 : Int32) + ((p1 &&& (2147483647 : Int32)) % (3 : Int32))) (Int32.toInt64 (p2 % (1024 : Int32))) (Int32.toInt64 (p3 % (1024 : Int32))) (Int32.toInt64 (p4 % (1024 : Int32))))), .second]) rfl (XS.dload X21.here hx rfl (hb hby at_140) rfl (XS.lload X21.here hx rfl (hb hby at_142) rfl (XS.l2dS X21.here hx rfl (hb hby at_144) rfl rfl (XS.dcmpS X21.here hx rfl (hb hby at_145) rfl rfl kk))))) ?_
        show own_Fin _ _ _ _ _ _ _ (T21.setTop (mkF m 146 #[.val (.int p0), .val (.int p1), .val (.int p2), .val (.int p3), .val (.int p4), .val (.int (p0 &&& (3 : Int32))), .val (.int ((1 : Int32) + ((p1 &&& (2147483647 : Int32)) % (3 : Int32)))), .val (.int (p2 % (1024 : Int32))), .val (.int (p3 % (1024 : Int32))), .val (.int (p4 % (1024 : Int32))), .val (.ref g0), .val (.ref b10), .val (.double (FP.dadd (FP.i2d (p2 % (1024 : Int32))) (FP.i2d (p3 % (1024 : Int32))))), .second, .val (.long (own_f3 (p0 &&& (3 : Int32)) ((1 : Int32) + ((p1 &&& (2147483647 : Int32)) % (3 : Int32))) (Int32.toInt64 (p2 % (1024 : Int32))) (Int32.toInt64 (p3 % (1024 : Int32))) (Int32.toInt64 (p4 % (1024 : Int32))))), .second] [(.int (cmpValue (FP.dcmp (FP.dadd (FP.i2d (p2 % (1024 : Int32))) (FP.i2d (p3 % (1024 : Int32)))) (FP.l2d (own_f3 (p0 &&& (3 : Int32)) ((1 : Int32) + ((p1 &&& (2147483647 : Int32)) % (3 : Int32))) (Int32.toInt64 (p2 % (1024 : Int32))) (Int32.toInt64 (p3 % (1024 : Int32))) (Int32.toInt64 (p4 % (1024 : Int32)))))) .l))]))
        by_cases hc146 : (cmpValue (FP.dcmp (FP.dadd (FP.i2d (p2 % (1024 : Int32))) (FP.i2d (p3 % (1024 : Int32)))) (FP.l2d (own_f3 (p0 &&& (3 : Int32)) ((1 : Int32) + ((p1 &&& (2147483647 : Int32)) % (3 : Int32))) (Int32.toInt64 (p2 % (1024 : Int32))) (Int32.toInt64 (p3 % (1024 : Int32))) (Int32.toInt64 (p4 % (1024 : Int32)))))) .l) = 0
        · refine own_go (fun _ kk => XS.ifNo X21.here hx rfl (hb hby at_146) rfl (XT.i0_ne_f hc146) (XS.iconst X21.here hx rfl (hb hby at_149) (XS.goto X21.here hx rfl (pc0 := 150) (pc' := 154) rfl (hb hby at_150) (by decide) (by decide) kk))) ?_
          show own_Fin _ _ _ _ _ _ _ (T21.setTop (mkF m 154 #[.val (.int p0), .val (.int p1), .val (.int p2), .val (.int p3), .val (.int p4), .val (.int (p0 &&& (3 : Int32))), .val (.int ((1 : Int32) + ((p1 &&& (2147483647 : Int32)) % (3 : Int32)))), .val (.int (p2 % (1024 : Int32))), .val (.int (p3 % (1024 : Int32))), .val (.int (p4 % (1024 : Int32))), .val (.ref g0), .val (.ref b10), .val (.double (FP.dadd (FP.i2d (p2 % (1024 : Int32))) (FP.i2d (p3 % (1024 : Int32))))), .second, .val (.long (own_f3 (p0 &&& (3 : Int32)) ((1 : Int32) + ((p1 &&& (2147483647 : Int32)) % (3 : Int32))) (Int32.toInt64 (p2 % (1024 : Int32))) (Int32.toInt64 (p3 % (1024 : Int32))) (Int32.toInt64 (p4 % (1024 : Int32))))), .second] [(.int (1 : Int32))]))
          exact own_retZ X21 hx hlk hret rfl (hb hby at_154) (by decide) (by decide) ⟨(by rw [own_f0, if_pos hk0, if_neg hc47, if_pos hc67, if_pos hc146]), N21⟩
        · refine own_go (fun _ kk => XS.ifYes X21.here hx rfl (pc0 := 146) (pc' := 153) rfl (hb hby at_146) rfl (XT.i0_ne_t hc146) (by decide) (by decide) (XS.iconst X21.here hx rfl (hb hby at_153) kk)) ?_
          show own_Fin _ _ _ _ _ _ _ (T21.setTop (mkF m 154 #[.val (.int p0), .val (.int p1), .val (.int p2), .val (.int p3), .val (.int p4), .val (.int (p0 &&& (3 : Int32))), .val (.int ((1 : Int32) + ((p1 &&& (2147483647 : Int32)) % (3 : Int32)))), .val (.int (p2 % (1024 : Int32))), .val (.int (p3 % (1024 : Int32))), .val (.int (p4 % (1024 : Int32))), .val (.ref g0), .val (.ref b10), .val (.double (FP.dadd (FP.i2d (p2 % (1024 : Int32))) (FP.i2d (p3 % (1024 : Int32))))), .second, .val (.long (own_f3 (p0 &&& (3 : Int32)) ((1 : Int32) + ((p1 &&& (2147483647 : Int32)) % (3 : Int32))) (Int32.toInt64 (p2 % (1024 : Int32))) (Int32.toInt64 (p3 % (1024 : Int32))) (Int32.toInt64 (p4 % (1024 : Int32))))), .second] [(.int (0 : Int32))]))
          exact own_retZ X21 hx hlk hret rfl (hb hby at_154) (by decide) (by decide) ⟨(by rw [own_f0, if_pos hk0, if_neg hc47, if_pos hc67, if_neg hc146]), N21⟩
      · refine own_go (fun _ kk => XS.icmpYes X1.here hx rfl (pc0 := 67) (pc' := 90) rfl (hb hby at_67) rfl (XT.ii_ne_t hc67) (by decide) (by decide) (XS.iconst X1.here hx rfl (hb hby at_90) kk)) ?_
        show own_Fin _ _ _ _ _ _ _ (T1.setTop (mkF m 91 #[.val (.int p0), .val (.int p1), .val (.int p2), .val (.int p3), .val (.int p4), .val (.int (p0 &&& (3 : Int32))), .val (.int ((1 : Int32) + ((p1 &&& (2147483647 : Int32)) % (3 : Int32)))), .val (.int (p2 % (1024 : Int32))), .val (.int (p3 % (1024 : Int32))), .val (.int (p4 % (1024 : Int32))), .val (.ref g0), .unset, .unset, .unset, .unset, .unset] [(.int (3 : Int32))]))
        refine own_newD X1 hx hZ (hw _ (List.mem_of_getElem? (i := 8) rfl)) e1 (hb hby at_91) (by decide) (cap := 3) (by decide) (by decide) (by decide) (by decide) ?_
        intro T22 h22 b22 g22 X22 e22 E22 A22 D22
        have g_b22 : n0 ≤ b22 := Nat.le_trans Z0 (Nat.le_of_eq g22.symm)
        have f23 := O0.ext E22
        have Z22 := Nat.le_trans Z0 E22.1
        have A22 : own_Ar Z h22 b22 .double (List.map Value.double [(0 : UInt64), (0 : UInt64), (0 : UInt64)]) := A22
        show own_Fin _ _ _ _ _ _ _ (T22.setTop (mkF m 93 #[.val (.int p0), .val (.int p1), .val (.int p2), .val (.int p3), .val (.int p4), .val (.int (p0 &&& (3 : Int32))), .val (.int ((1 : Int32) + ((p1 &&& (2147483647 : Int32)) % (3 : Int32)))), .val (.int (p2 % (1024 : Int32))), .val (.int (p3 % (1024 : Int32))), .val (.int (p4 % (1024 : Int32))), .val (.ref g0), .unset, .unset, .unset, .unset, .unset] [(.ref b22)]))
        refine own_go (fun _ kk => XS.dup X22.here hx rfl (hb hby at_93) rfl rfl (XS.iconst X22.here hx rfl (hb hby at_94) (XS.iload X22.here hx rfl (hb hby at_95) rfl (XS.i2dS X22.here hx rfl (hb hby at_97) rfl rfl kk)))) ?_
        show own_Fin _ _ _ _ _ _ _ (T22.setTop (mkF m 98 #[.val (.int p0), .val (.int p1), .val (.int p2), .val (.int p3), .val (.int p4), .val (.int (p0 &&& (3 : Int32))), .val (.int ((1 : Int32) + ((p1 &&& (2147483647 : Int32)) % (3 : Int32)))), .val (.int (p2 % (1024 : Int32))), .val (.int (p3 % (1024 : Int32))), .val (.int (p4 % (1024 : Int32))), .val (.ref g0), .unset, .unset, .unset, .unset, .unset] [(.double (FP.i2d (p2 % (1024 : Int32)))), (.int (0 : Int32)), (.ref b22), (.ref b22)]))
        refine own_stD X22 hx hZ e22 A22 (by decide) (by show (0 : Int32).toNatClampNeg < 3; decide) (hb hby at_98) ?_
        intro T24 h24 X24 e24 W24 A24
        have f25 := f23.wr W24 g_b22
        have f27 := D22.wr W24
        have Z24 := Nat.le_trans Z22 (Keep.of_wr W24).1
        have A24 : own_Ar Z h24 b22 .double (List.map Value.double [(FP.i2d (p2 % (1024 : Int32))), (0 : UInt64), (0 : UInt64)]) := A24
        have N24 := Fr.snoc X24 N1 g_b22
        show own_Fin _ _ _ _ _ _ _ (T24.setTop (mkF m 99 #[.val (.int p0), .val (.int p1), .val (.int p2), .val (.int p3), .val (.int p4), .val (.int (p0 &&& (3 : Int32))), .val (.int ((1 : Int32) + ((p1 &&& (2147483647 : Int32)) % (3 : Int32)))), .val (.int (p2 % (1024 : Int32))), .val (.int (p3 % (1024 : Int32))), .val (.int (p4 % (1024 : Int32))), .val (.ref g0), .unset, .unset, .unset, .unset, .unset] [(.ref b22)]))
        refine own_go (fun _ kk => XS.dup X24.here hx rfl (hb hby at_99) rfl rfl (XS.iconst X24.here hx rfl (hb hby at_100) (XS.iload X24.here hx rfl (hb hby at_101) rfl (XS.i2dS X24.here hx rfl (hb hby at_103) rfl rfl kk)))) ?_
        show own_Fin _ _ _ _ _ _ _ (T24.setTop (mkF m 104 #[.val (.int p0), .val (.int p1), .val (.int p2), .val (.int p3), .val (.int p4), .val (.int (p0 &&& (3 : Int32))), .val (.int ((1 : Int32) + ((p1 &&& (2147483647 : Int32)) % (3 : Int32)))), .val (.int (p2 % (1024 : Int32))), .val (.int (p3 % (1024 : Int32))), .val (.int (p4 % (1024 : Int32))), .val (.ref g0), .unset, .unset, .unset, .unset, .unset] [(.double (FP.i2d (p3 % (1024 : Int32)))), (.int (1 : Int32)), (.ref b22), (.ref b22)]))
        refine own_stD X24 hx hZ e24 A24 (by decide) (by show (1 : Int32).toNatClampNeg < 3; decide) (hb hby at_104) ?_
        intro T28 h28 X28 e28 W28 A28
        have f29 := f25.wr W28 g_b22
        have f31 := f27.wr W28
        have Z28 := Nat.le_trans Z24 (Keep.of_wr W28).1
        have A28 : own_Ar Z h28 b22 .double (List.map Value.double [(FP.i2d (p2 % (1024 : Int32))), (FP.i2d (p3 % (1024 : Int32))), (0 : UInt64)]) := A28
        have N28 := Fr.snoc X28 N24 g_b22
        show own_Fin _ _ _ _ _ _ _ (T28.setTop (mkF m 105 #[.val (.int p0), .val (.int p1), .val (.int p2), .val (.int p3), .val (.int p4), .val (.int (p0 &&& (3 : Int32))), .val (.int ((1 : Int32) + ((p1 &&& (2147483647 : Int32)) % (3 : Int32)))), .val (.int (p2 % (1024 : Int32))), .val (.int (p3 % (1024 : Int32))), .val (.int (p4 % (1024 : Int32))), .val (.ref g0), .unset, .unset, .unset, .unset, .unset] [(.ref b22)]))
        refine own_go (fun _ kk => XS.dup X28.here hx rfl (hb hby at_105) rfl rfl (XS.iconst X28.here hx rfl (hb hby at_106) (XS.iload X28.here hx rfl (hb hby at_107) rfl (XS.i2dS X28.here hx rfl (hb hby at_109) rfl rfl kk)))) ?_
        show own_Fin _ _ _ _ _ _ _ (T28.setTop (mkF m 110 #[.val (.int p0), .val (.int p1), .val (.int p2), .val (.int p3), .val (.int p4), .val (.int (p0 &&& (3 : Int32))), .val (.int ((1 : Int32) + ((p1 &&& (2147483647 : Int32)) % (3 : Int32)))), .val (.int (p2 % (1024 : Int32))), .val (.int (p3 % (1024 : Int32))), .val (.int (p4 % (1024 : Int32))), .val (.ref g0), .unset, .unset, .unset, .unset, .unset] [(.double (FP.i2d (p4 % (1024 : Int32)))), (.int (2 : Int32)), (.ref b22), (.ref b22)]))
        refine own_stD X28 hx hZ e28 A28 (by decide) (by show (2 : Int32).toNatClampNeg < 3; decide) (hb hby at_110) ?_
        intro T32 h32 X32 e32 W32 A32
        have f33 := f29.wr W32 g_b22
        have f35 := f31.wr W32
        have Z32 := Nat.le_trans Z28 (Keep.of_wr W32).1
        have A32 : own_Ar Z h32 b22 .double (List.map Value.double [(FP.i2d (p2 % (1024 : Int32))), (FP.i2d (p3 % (1024 : Int32))), (FP.i2d (p4 % (1024 : Int32)))]) := A32
        have N32 := Fr.snoc X32 N28 g_b22
        show own_Fin _ _ _ _ _ _ _ (T32.setTop (mkF m 111 #[.val (.int p0), .val (.int p1), .val (.int p2), .val (.int p3), .val (.int p4), .val (.int (p0 &&& (3 : Int32))), .val (.int ((1 : Int32) + ((p1 &&& (2147483647 : Int32)) % (3 : Int32)))), .val (.int (p2 % (1024 : Int32))), .val (.int (p3 % (1024 : Int32))), .val (.int (p4 % (1024 : Int32))), .val (.ref g0), .unset, .unset, .unset, .unset, .unset] [(.ref b22)]))
        refine own_go (fun _ kk => XS.astore X32.here hx rfl (hb hby at_111) rfl rfl (l' := #[.val (.int p0), .val (.int p1), .val (.int p2), .val (.int p3), .val (.int p4), .val (.int (p0 &&& (3 : Int32))), .val (.int ((1 : Int32) + ((p1 &&& (2147483647 : Int32)) % (3 : Int32)))), .val (.int (p2 % (1024 : Int32))), .val (.int (p3 % (1024 : Int32))), .val (.int (p4 % (1024 : Int32))), .val (.ref g0), .val (.ref b22), .unset, .unset, .unset, .unset]) rfl (XS.aload X32.here hx rfl (hb hby at_113) rfl rfl (XS.aload X32.here hx rfl (hb hby at_115) rfl rfl kk))) ?_
        show own_Fin _ _ _ _ _ _ _ (T32.setTop (mkF m 117 #[.val (.int p0), .val (.int p1), .val (.int p2), .val (.int p3), .val (.int p4), .val (.int (p0 &&& (3 : Int32))), .val (.int ((1 : Int32) + ((p1 &&& (2147483647 : Int32)) % (3 : Int32)))), .val (.int (p2 % (1024 : Int32))), .val (.int (p3 % (1024 : Int32))), .val (.int (p4 % (1024 : Int32))), .val (.ref g0), .val (.ref b22), .unset, .unset, .unset, .unset] [(.ref b22), (.ref g0)]))
        refine own_callV X32 hx hZ hown (hw _ (List.mem_of_getElem? (i := 9) rfl)) (hw _ (List.mem_of_getElem? (i := 10) rfl)) (notFace_of_selects (args := #[]) (mvT hZ (hw _ (List.mem_of_getElem? (i := 12) rfl)))) (hw _ (List.mem_of_getElem? (i := 12) rfl)) (hw _ (List.mem_of_getElem? (i := 11) rfl)) (hw _ (List.mem_of_getElem? (i := 13) rfl)) (hw _ (List.mem_of_getElem? (i := 6) rfl)) (by decide) (rm2k0n3 l Z a0 hw g0 b22 h32 n0 Z32 (E0.ext f33.2) (F0.ext f33.2) (FP.i2d (p2 % (1024 : Int32))) (FP.i2d (p3 % (1024 : Int32))) (FP.i2d (p4 % (1024 : Int32))) A32 (own_noNaN (own_a2 _ _)) (own_noNaN (own_a3 _ _ _))) e32 (E0.ext f33.2) (argsL := [(.ref b22)]) (rest := []) rfl rfl (by rw [hml]; rfl) (lenOf pd_0_1 rfl) (hb hby at_117) (W := 0) (Nat.le_of_eq rfl) (by decide) (by decide) (by decide) (by decide) ?_
        rintro v36 T36 L36 X36 ⟨rfl, M36, e36⟩
        have N36 := Fr.app N32 M36
        show own_Fin _ _ _ _ _ _ _ (T36.setTop (mkF m 120 #[.val (.int p0), .val (.int p1), .val (.int p2), .val (.int p3), .val (.int p4), .val (.int (p0 &&& (3 : Int32))), .val (.int ((1 : Int32) + ((p1 &&& (2147483647 : Int32)) % (3 : Int32)))), .val (.int (p2 % (1024 : Int32))), .val (.int (p3 % (1024 : Int32))), .val (.int (p4 % (1024 : Int32))), .val (.ref g0), .val (.ref b22), .unset, .unset, .unset, .unset] [(.double (FP.dadd (FP.dadd (FP.i2d (p2 % (1024 : Int32))) (FP.i2d (p3 % (1024 : Int32)))) (FP.i2d (p4 % (1024 : Int32)))))]))
        refine own_go (fun _ kk => XS.dstore X36.here hx rfl (hb hby at_120) rfl (l' := #[.val (.int p0), .val (.int p1), .val (.int p2), .val (.int p3), .val (.int p4), .val (.int (p0 &&& (3 : Int32))), .val (.int ((1 : Int32) + ((p1 &&& (2147483647 : Int32)) % (3 : Int32)))), .val (.int (p2 % (1024 : Int32))), .val (.int (p3 % (1024 : Int32))), .val (.int (p4 % (1024 : Int32))), .val (.ref g0), .val (.ref b22), .val (.double (FP.dadd (FP.dadd (FP.i2d (p2 % (1024 : Int32))) (FP.i2d (p3 % (1024 : Int32)))) (FP.i2d (p4 % (1024 : Int32))))), .second, .unset, .unset]) rfl (XS.iload X36.here hx rfl (hb hby at_122) rfl (XS.iload X36.here hx rfl (hb hby at_124) rfl (XS.iload X36.here hx rfl (hb hby at_126) rfl (XS.i2l X36.here hx rfl (hb hby at_128) rfl (XS.iload X36.here hx rfl (hb hby at_129) rfl (XS.i2l X36.here hx rfl (hb hby at_131) rfl (XS.iload X36.here hx rfl (hb hby at_132) rfl (XS.i2l X36.here hx rfl (hb hby at_134) rfl kk))))))))) ?_
        show own_Fin _ _ _ _ _ _ _ (T36.setTop (mkF m 135 #[.val (.int p0), .val (.int p1), .val (.int p2), .val (.int p3), .val (.int p4), .val (.int (p0 &&& (3 : Int32))), .val (.int ((1 : Int32) + ((p1 &&& (2147483647 : Int32)) % (3 : Int32)))), .val (.int (p2 % (1024 : Int32))), .val (.int (p3 % (1024 : Int32))), .val (.int (p4 % (1024 : Int32))), .val (.ref g0), .val (.ref b22), .val (.double (FP.dadd (FP.dadd (FP.i2d (p2 % (1024 : Int32))) (FP.i2d (p3 % (1024 : Int32)))) (FP.i2d (p4 % (1024 : Int32))))), .second, .unset, .unset] [(.long (Int32.toInt64 (p4 % (1024 : Int32)))), (.long (Int32.toInt64 (p3 % (1024 : Int32)))), (.long (Int32.toInt64 (p2 % (1024 : Int32)))), (.int ((1 : Int32) + ((p1 &&& (2147483647 : Int32)) % (3 : Int32)))), (.int (p0 &&& (3 : Int32)))]))
        refine own_callS X36 hx hZ hown (hw _ (List.mem_of_getElem? (i := 14) rfl)) (hw _ (List.mem_of_getElem? (i := 15) rfl)) (hw _ (List.mem_of_getElem? (i := 3) rfl)) (hw _ (List.mem_of_getElem? (i := 16) rfl)) (by decide) (rm3 l Z a0 hw (p0 &&& (3 : Int32)) ((1 : Int32) + ((p1 &&& (2147483647 : Int32)) % (3 : Int32))) (Int32.toInt64 (p2 % (1024 : Int32))) (Int32.toInt64 (p3 % (1024 : Int32))) (Int32.toInt64 (p4 % (1024 : Int32))) h32 n0 Z32) e36 (argsL := [(.int (p0 &&& (3 : Int32))), (.int ((1 : Int32) + ((p1 &&& (2147483647 : Int32)) % (3 : Int32)))), (.long (Int32.toInt64 (p2 % (1024 : Int32)))), (.long (Int32.toInt64 (p3 % (1024 : Int32)))), (.long (Int32.toInt64 (p4 % (1024 : Int32))))]) (rest := []) rfl rfl (by rw [hml]; rfl) (lenOf pd_0_2 rfl) (hb hby at_135) (W := 0) (Nat.le_of_eq rfl) (by decide) (by decide) (by decide) (by decide) ?_
        rintro v37 T37 L37 X37 ⟨rfl, M37, e37⟩
        have N37 := Fr.app N36 M37
        show own_Fin _ _ _ _ _ _ _ (T37.setTop (mkF m 138 #[.val (.int p0), .val (.int p1), .val (.int p2), .val (.int p3), .val (.int p4), .val (.int (p0 &&& (3 : Int32))), .val (.int ((1 : Int32) + ((p1 &&& (2147483647 : Int32)) % (3 : Int32)))), .val (.int (p2 % (1024 : Int32))), .val (.int (p3 % (1024 : Int32))), .val (.int (p4 % (1024 : Int32))), .val (.ref g0), .val (.ref b22), .val (.double (FP.dadd (FP.dadd (FP.i2d (p2 % (1024 : Int32))) (FP.i2d (p3 % (1024 : Int32)))) (FP.i2d (p4 % (1024 : Int32))))), .second, .unset, .unset] [(.long (own_f3 (p0 &&& (3 : Int32)) ((1 : Int32) + ((p1 &&& (2147483647 : Int32)) % (3 : Int32))) (Int32.toInt64 (p2 % (1024 : Int32))) (Int32.toInt64 (p3 % (1024 : Int32))) (Int32.toInt64 (p4 % (1024 : Int32)))))]))
        refine own_go (fun _ kk => XS.lstore X37.here hx rfl (hb hby at_138) rfl (l' := #[.val (.int p0), .val (.int p1), .val (.int p2), .val (.int p3), .val (.int p4), .val (.int (p0 &&& (3 : Int32))), .val (.int ((1 : Int32) + ((p1 &&& (2147483647 : Int32)) % (3 : Int32)))), .val (.int (p2 % (1024 : Int32))), .val (.int (p3 % (1024 : Int32))), .val (.int (p4 % (1024 : Int32))), .val (.ref g0), .val (.ref b22), .val (.double (FP.dadd (FP.dadd (FP.i2d (p2 % (1024 : Int32))) (FP.i2d (p3 % (1024 : Int32)))) (FP.i2d (p4 % (1024 : Int32))))), .second, .val (.long (own_f3 (p0 &&& (3 : Int32)) ((1 : Int32) + ((p1 &&& (2147483647 : Int32)) % (3 : Int32))) (Int32.toInt64 (p2 % (1024 : Int32))) (Int32.toInt64 (p3 % (1024 : Int32))) (Int32.toInt64 (p4 % (1024 : Int32))))), .second]) rfl (XS.dload X37.here hx rfl (hb hby at_140) rfl (XS.lload X37.here hx rfl (hb hby at_142) rfl (XS.l2dS X37.here hx rfl (hb hby at_144) rfl rfl (XS.dcmpS X37.here hx rfl (hb hby at_145) rfl rfl kk))))) ?_
        show own_Fin _ _ _ _ _ _ _ (T37.setTop (mkF m 146 #[.val (.int p0), .val (.int p1), .val (.int p2), .val (.int p3), .val (.int p4), .val (.int (p0 &&& (3 : Int32))), .val (.int ((1 : Int32) + ((p1 &&& (2147483647 : Int32)) % (3 : Int32)))), .val (.int (p2 % (1024 : Int32))), .val (.int (p3 % (1024 : Int32))), .val (.int (p4 % (1024 : Int32))), .val (.ref g0), .val (.ref b22), .val (.double (FP.dadd (FP.dadd (FP.i2d (p2 % (1024 : Int32))) (FP.i2d (p3 % (1024 : Int32)))) (FP.i2d (p4 % (1024 : Int32))))), .second, .val (.long (own_f3 (p0 &&& (3 : Int32)) ((1 : Int32) + ((p1 &&& (2147483647 : Int32)) % (3 : Int32))) (Int32.toInt64 (p2 % (1024 : Int32))) (Int32.toInt64 (p3 % (1024 : Int32))) (Int32.toInt64 (p4 % (1024 : Int32))))), .second] [(.int (cmpValue (FP.dcmp (FP.dadd (FP.dadd (FP.i2d (p2 % (1024 : Int32))) (FP.i2d (p3 % (1024 : Int32)))) (FP.i2d (p4 % (1024 : Int32)))) (FP.l2d (own_f3 (p0 &&& (3 : Int32)) ((1 : Int32) + ((p1 &&& (2147483647 : Int32)) % (3 : Int32))) (Int32.toInt64 (p2 % (1024 : Int32))) (Int32.toInt64 (p3 % (1024 : Int32))) (Int32.toInt64 (p4 % (1024 : Int32)))))) .l))]))
        by_cases hc146 : (cmpValue (FP.dcmp (FP.dadd (FP.dadd (FP.i2d (p2 % (1024 : Int32))) (FP.i2d (p3 % (1024 : Int32)))) (FP.i2d (p4 % (1024 : Int32)))) (FP.l2d (own_f3 (p0 &&& (3 : Int32)) ((1 : Int32) + ((p1 &&& (2147483647 : Int32)) % (3 : Int32))) (Int32.toInt64 (p2 % (1024 : Int32))) (Int32.toInt64 (p3 % (1024 : Int32))) (Int32.toInt64 (p4 % (1024 : Int32)))))) .l) = 0
        · refine own_go (fun _ kk => XS.ifNo X37.here hx rfl (hb hby at_146) rfl (XT.i0_ne_f hc146) (XS.iconst X37.here hx rfl (hb hby at_149) (XS.goto X37.here hx rfl (pc0 := 150) (pc' := 154) rfl (hb hby at_150) (by decide) (by decide) kk))) ?_
          show own_Fin _ _ _ _ _ _ _ (T37.setTop (mkF m 154 #[.val (.int p0), .val (.int p1), .val (.int p2), .val (.int p3), .val (.int p4), .val (.int (p0 &&& (3 : Int32))), .val (.int ((1 : Int32) + ((p1 &&& (2147483647 : Int32)) % (3 : Int32)))), .val (.int (p2 % (1024 : Int32))), .val (.int (p3 % (1024 : Int32))), .val (.int (p4 % (1024 : Int32))), .val (.ref g0), .val (.ref b22), .val (.double (FP.dadd (FP.dadd (FP.i2d (p2 % (1024 : Int32))) (FP.i2d (p3 % (1024 : Int32)))) (FP.i2d (p4 % (1024 : Int32))))), .second, .val (.long (own_f3 (p0 &&& (3 : Int32)) ((1 : Int32) + ((p1 &&& (2147483647 : Int32)) % (3 : Int32))) (Int32.toInt64 (p2 % (1024 : Int32))) (Int32.toInt64 (p3 % (1024 : Int32))) (Int32.toInt64 (p4 % (1024 : Int32))))), .second] [(.int (1 : Int32))]))
          exact own_retZ X37 hx hlk hret rfl (hb hby at_154) (by decide) (by decide) ⟨(by rw [own_f0, if_pos hk0, if_neg hc47, if_neg hc67, if_pos hc146]), N37⟩
        · refine own_go (fun _ kk => XS.ifYes X37.here hx rfl (pc0 := 146) (pc' := 153) rfl (hb hby at_146) rfl (XT.i0_ne_t hc146) (by decide) (by decide) (XS.iconst X37.here hx rfl (hb hby at_153) kk)) ?_
          show own_Fin _ _ _ _ _ _ _ (T37.setTop (mkF m 154 #[.val (.int p0), .val (.int p1), .val (.int p2), .val (.int p3), .val (.int p4), .val (.int (p0 &&& (3 : Int32))), .val (.int ((1 : Int32) + ((p1 &&& (2147483647 : Int32)) % (3 : Int32)))), .val (.int (p2 % (1024 : Int32))), .val (.int (p3 % (1024 : Int32))), .val (.int (p4 % (1024 : Int32))), .val (.ref g0), .val (.ref b22), .val (.double (FP.dadd (FP.dadd (FP.i2d (p2 % (1024 : Int32))) (FP.i2d (p3 % (1024 : Int32)))) (FP.i2d (p4 % (1024 : Int32))))), .second, .val (.long (own_f3 (p0 &&& (3 : Int32)) ((1 : Int32) + ((p1 &&& (2147483647 : Int32)) % (3 : Int32))) (Int32.toInt64 (p2 % (1024 : Int32))) (Int32.toInt64 (p3 % (1024 : Int32))) (Int32.toInt64 (p4 % (1024 : Int32))))), .second] [(.int (0 : Int32))]))
          exact own_retZ X37 hx hlk hret rfl (hb hby at_154) (by decide) (by decide) ⟨(by rw [own_f0, if_pos hk0, if_neg hc47, if_neg hc67, if_neg hc146]), N37⟩
  · by_cases hk1 : (p0 &&& (3 : Int32)) = (1 : Int32)
    · rw [show own_f1 (p0 &&& (3 : Int32)) g0 g1 g2 g3 = g1 from by rw [own_f1, if_neg hk0, if_pos hk1]]
      show own_Fin _ _ _ _ _ _ _ (T1.setTop (mkF m 42 #[.val (.int p0), .val (.int p1), .val (.int p2), .val (.int p3), .val (.int p4), .val (.int (p0 &&& (3 : Int32))), .val (.int ((1 : Int32) + ((p1 &&& (2147483647 : Int32)) % (3 : Int32)))), .val (.int (p2 % (1024 : Int32))), .val (.int (p3 % (1024 : Int32))), .val (.int (p4 % (1024 : Int32))), .unset, .unset, .unset, .unset, .unset, .unset] [(.ref g1)]))
      refine own_go (fun _ kk => XS.astore X1.here hx rfl (hb hby at_42) rfl rfl (l' := #[.val (.int p0), .val (.int p1), .val (.int p2), .val (.int p3), .val (.int p4), .val (.int (p0 &&& (3 : Int32))), .val (.int ((1 : Int32) + ((p1 &&& (2147483647 : Int32)) % (3 : Int32)))), .val (.int (p2 % (1024 : Int32))), .val (.int (p3 % (1024 : Int32))), .val (.int (p4 % (1024 : Int32))), .val (.ref g1), .unset, .unset, .unset, .unset, .unset]) rfl (XS.iload X1.here hx rfl (hb hby at_44) rfl (XS.iconst X1.here hx rfl (hb hby at_46) kk))) ?_
      show own_Fin _ _ _ _ _ _ _ (T1.setTop (mkF m 47 #[.val (.int p0), .val (.int p1), .val (.int p2), .val (.int p3), .val (.int p4), .val (.int (p0 &&& (3 : Int32))), .val (.int ((1 : Int32) + ((p1 &&& (2147483647 : Int32)) % (3 : Int32)))), .val (.int (p2 % (1024 : Int32))), .val (.int (p3 % (1024 : Int32))), .val (.int (p4 % (1024 : Int32))), .val (.ref g1), .unset, .unset, .unset, .unset, .unset] [(.int (1 : Int32)), (.int ((1 : Int32) + ((p1 &&& (2147483647 : Int32)) % (3 : Int32))))]))
      by_cases hc47 : ((1 : Int32) + ((p1 &&& (2147483647 : Int32)) % (3 : Int32))) = (1 : Int32)
      · refine own_go (fun _ kk => XS.icmpNo X1.here hx rfl (hb hby at_47) rfl (XT.ii_ne_f hc47) (XS.iconst X1.here hx rfl (hb hby at_50) kk)) ?_
        show own_Fin _ _ _ _ _ _ _ (T1.setTop (mkF m 51 #[.val (.int p0), .val (.int p1), .val (.int p2), .val (.int p3), .val (.int p4), .val (.int (p0 &&& (3 : Int32))), .val (.int ((1 : Int32) + ((p1 &&& (2147483647 : Int32)) % (3 : Int32)))), .val (.int (p2 % (1024 : Int32))), .val (.int (p3 % (1024 : Int32))), .val (.int (p4 % (1024 : Int32))), .val (.ref g1), .unset, .unset, .unset, .unset, .unset] [(.int (1 : Int32))]))
        refine own_newD X1 hx hZ (hw _ (List.mem_of_getElem? (i := 8) rfl)) e1 (hb hby at_51) (by decide) (cap := 1) (by decide) (by decide) (by decide) (by decide) ?_
        intro T38 h38 b38 g38 X38 e38 E38 A38 D38
        have g_b38 : n0 ≤ b38 := Nat.le_trans Z0 (Nat.le_of_eq g38.symm)
        have f39 := O0.ext E38
        have Z38 := Nat.le_trans Z0 E38.1
        have A38 : own_Ar Z h38 b38 .double (List.map Value.double [(0 : UInt64)]) := A38
        show own_Fin _ _ _ _ _ _ _ (T38.setTop (mkF m 53 #[.val (.int p0), .val (.int p1), .val (.int p2), .val (.int p3), .val (.int p4), .val (.int (p0 &&& (3 : Int32))), .val (.int ((1 : Int32) + ((p1 &&& (2147483647 : Int32)) % (3 : Int32)))), .val (.int (p2 % (1024 : Int32))), .val (.int (p3 % (1024 : Int32))), .val (.int (p4 % (1024 : Int32))), .val (.ref g1), .unset, .unset, .unset, .unset, .unset] [(.ref b38)]))
        refine own_go (fun _ kk => XS.dup X38.here hx rfl (hb hby at_53) rfl rfl (XS.iconst X38.here hx rfl (hb hby at_54) (XS.iload X38.here hx rfl (hb hby at_55) rfl (XS.i2dS X38.here hx rfl (hb hby at_57) rfl rfl kk)))) ?_
        show own_Fin _ _ _ _ _ _ _ (T38.setTop (mkF m 58 #[.val (.int p0), .val (.int p1), .val (.int p2), .val (.int p3), .val (.int p4), .val (.int (p0 &&& (3 : Int32))), .val (.int ((1 : Int32) + ((p1 &&& (2147483647 : Int32)) % (3 : Int32)))), .val (.int (p2 % (1024 : Int32))), .val (.int (p3 % (1024 : Int32))), .val (.int (p4 % (1024 : Int32))), .val (.ref g1), .unset, .unset, .unset, .unset, .unset] [(.double (FP.i2d (p2 % (1024 : Int32)))), (.int (0 : Int32)), (.ref b38), (.ref b38)]))
        refine own_stD X38 hx hZ e38 A38 (by decide) (by show (0 : Int32).toNatClampNeg < 1; decide) (hb hby at_58) ?_
        intro T40 h40 X40 e40 W40 A40
        have f41 := f39.wr W40 g_b38
        have f43 := D38.wr W40
        have Z40 := Nat.le_trans Z38 (Keep.of_wr W40).1
        have A40 : own_Ar Z h40 b38 .double (List.map Value.double [(FP.i2d (p2 % (1024 : Int32)))]) := A40
        have N40 := Fr.snoc X40 N1 g_b38
        show own_Fin _ _ _ _ _ _ _ (T40.setTop (mkF m 59 #[.val (.int p0), .val (.int p1), .val (.int p2), .val (.int p3), .val (.int p4), .val (.int (p0 &&& (3 : Int32))), .val (.int ((1 : Int32) + ((p1 &&& (2147483647 : Int32)) % (3 : Int32)))), .val (.int (p2 % (1024 : Int32))), .val (.int (p3 % (1024 : Int32))), .val (.int (p4 % (1024 : Int32))), .val (.ref g1), .unset, .unset, .unset, .unset, .unset] [(.ref b38)]))
        refine own_go (fun _ kk => XS.astore X40.here hx rfl (hb hby at_59) rfl rfl (l' := #[.val (.int p0), .val (.int p1), .val (.int p2), .val (.int p3), .val (.int p4), .val (.int (p0 &&& (3 : Int32))), .val (.int ((1 : Int32) + ((p1 &&& (2147483647 : Int32)) % (3 : Int32)))), .val (.int (p2 % (1024 : Int32))), .val (.int (p3 % (1024 : Int32))), .val (.int (p4 % (1024 : Int32))), .val (.ref g1), .val (.ref b38), .unset, .unset, .unset, .unset]) rfl (XS.goto X40.here hx rfl (pc0 := 61) (pc' := 113) rfl (hb hby at_61) (by decide) (by decide) (XS.aload X40.here hx rfl (hb hby at_113) rfl rfl (XS.aload X40.here hx rfl (hb hby at_115) rfl rfl kk)))) ?_
        show own_Fin _ _ _ _ _ _ _ (T40.setTop (mkF m 117 #[.val (.int p0), .val (.int p1), .val (.int p2), .val (.int p3), .val (.int p4), .val (.int (p0 &&& (3 : Int32))), .val (.int ((1 : Int32) + ((p1 &&& (2147483647 : Int32)) % (3 : Int32)))), .val (.int (p2 % (1024 : Int32))), .val (.int (p3 % (1024 : Int32))), .val (.int (p4 % (1024 : Int32))), .val (.ref g1), .val (.ref b38), .unset, .unset, .unset, .unset] [(.ref b38), (.ref g1)]))
        refine own_callV X40 hx hZ hown (hw _ (List.mem_of_getElem? (i := 9) rfl)) (hw _ (List.mem_of_getElem? (i := 10) rfl)) (notFace_of_selects (args := #[]) (mvT hZ (hw _ (List.mem_of_getElem? (i := 12) rfl)))) (hw _ (List.mem_of_getElem? (i := 12) rfl)) (hw _ (List.mem_of_getElem? (i := 11) rfl)) (hw _ (List.mem_of_getElem? (i := 13) rfl)) (hw _ (List.mem_of_getElem? (i := 6) rfl)) (by decide) (rm2k1n1 l Z a0 hw g1 b38 h40 n0 Z40 (E1.ext f41.2) (F1.ext f41.2) (FP.i2d (p2 % (1024 : Int32))) A40) e40 (E1.ext f41.2) (argsL := [(.ref b38)]) (rest := []) rfl rfl (by rw [hml]; rfl) (lenOf pd_0_1 rfl) (hb hby at_117) (W := 0) (Nat.le_of_eq rfl) (by decide) (by decide) (by decide) (by decide) ?_
        rintro v44 T44 L44 X44 ⟨rfl, M44, e44⟩
        have N44 := Fr.app N40 M44
        show own_Fin _ _ _ _ _ _ _ (T44.setTop (mkF m 120 #[.val (.int p0), .val (.int p1), .val (.int p2), .val (.int p3), .val (.int p4), .val (.int (p0 &&& (3 : Int32))), .val (.int ((1 : Int32) + ((p1 &&& (2147483647 : Int32)) % (3 : Int32)))), .val (.int (p2 % (1024 : Int32))), .val (.int (p3 % (1024 : Int32))), .val (.int (p4 % (1024 : Int32))), .val (.ref g1), .val (.ref b38), .unset, .unset, .unset, .unset] [(.double (FP.i2d (p2 % (1024 : Int32))))]))
        refine own_go (fun _ kk => XS.dstore X44.here hx rfl (hb hby at_120) rfl (l' := #[.val (.int p0), .val (.int p1), .val (.int p2), .val (.int p3), .val (.int p4), .val (.int (p0 &&& (3 : Int32))), .val (.int ((1 : Int32) + ((p1 &&& (2147483647 : Int32)) % (3 : Int32)))), .val (.int (p2 % (1024 : Int32))), .val (.int (p3 % (1024 : Int32))), .val (.int (p4 % (1024 : Int32))), .val (.ref g1), .val (.ref b38), .val (.double (FP.i2d (p2 % (1024 : Int32)))), .second, .unset, .unset]) rfl (XS.iload X44.here hx rfl (hb hby at_122) rfl (XS.iload X44.here hx rfl (hb hby at_124) rfl (XS.iload X44.here hx rfl (hb hby at_126) rfl (XS.i2l X44.here hx rfl (hb hby at_128) rfl (XS.iload X44.here hx rfl (hb hby at_129) rfl (XS.i2l X44.here hx rfl (hb hby at_131) rfl (XS.iload X44.here hx rfl (hb hby at_132) rfl (XS.i2l X44.here hx rfl (hb hby at_134) rfl kk))))))))) ?_
        show own_Fin _ _ _ _ _ _ _ (T44.setTop (mkF m 135 #[.val (.int p0), .val (.int p1), .val (.int p2), .val (.int p3), .val (.int p4), .val (.int (p0 &&& (3 : Int32))), .val (.int ((1 : Int32) + ((p1 &&& (2147483647 : Int32)) % (3 : Int32)))), .val (.int (p2 % (1024 : Int32))), .val (.int (p3 % (1024 : Int32))), .val (.int (p4 % (1024 : Int32))), .val (.ref g1), .val (.ref b38), .val (.double (FP.i2d (p2 % (1024 : Int32)))), .second, .unset, .unset] [(.long (Int32.toInt64 (p4 % (1024 : Int32)))), (.long (Int32.toInt64 (p3 % (1024 : Int32)))), (.long (Int32.toInt64 (p2 % (1024 : Int32)))), (.int ((1 : Int32) + ((p1 &&& (2147483647 : Int32)) % (3 : Int32)))), (.int (p0 &&& (3 : Int32)))]))
        refine own_callS X44 hx hZ hown (hw _ (List.mem_of_getElem? (i := 14) rfl)) (hw _ (List.mem_of_getElem? (i := 15) rfl)) (hw _ (List.mem_of_getElem? (i := 3) rfl)) (hw _ (List.mem_of_getElem? (i := 16) rfl)) (by decide) (rm3 l Z a0 hw (p0 &&& (3 : Int32)) ((1 : Int32) + ((p1 &&& (2147483647 : Int32)) % (3 : Int32))) (Int32.toInt64 (p2 % (1024 : Int32))) (Int32.toInt64 (p3 % (1024 : Int32))) (Int32.toInt64 (p4 % (1024 : Int32))) h40 n0 Z40) e44 (argsL := [(.int (p0 &&& (3 : Int32))), (.int ((1 : Int32) + ((p1 &&& (2147483647 : Int32)) % (3 : Int32)))), (.long (Int32.toInt64 (p2 % (1024 : Int32)))), (.long (Int32.toInt64 (p3 % (1024 : Int32)))), (.long (Int32.toInt64 (p4 % (1024 : Int32))))]) (rest := []) rfl rfl (by rw [hml]; rfl) (lenOf pd_0_2 rfl) (hb hby at_135) (W := 0) (Nat.le_of_eq rfl) (by decide) (by decide) (by decide) (by decide) ?_
        rintro v45 T45 L45 X45 ⟨rfl, M45, e45⟩
        have N45 := Fr.app N44 M45
        show own_Fin _ _ _ _ _ _ _ (T45.setTop (mkF m 138 #[.val (.int p0), .val (.int p1), .val (.int p2), .val (.int p3), .val (.int p4), .val (.int (p0 &&& (3 : Int32))), .val (.int ((1 : Int32) + ((p1 &&& (2147483647 : Int32)) % (3 : Int32)))), .val (.int (p2 % (1024 : Int32))), .val (.int (p3 % (1024 : Int32))), .val (.int (p4 % (1024 : Int32))), .val (.ref g1), .val (.ref b38), .val (.double (FP.i2d (p2 % (1024 : Int32)))), .second, .unset, .unset] [(.long (own_f3 (p0 &&& (3 : Int32)) ((1 : Int32) + ((p1 &&& (2147483647 : Int32)) % (3 : Int32))) (Int32.toInt64 (p2 % (1024 : Int32))) (Int32.toInt64 (p3 % (1024 : Int32))) (Int32.toInt64 (p4 % (1024 : Int32)))))]))
        refine own_go (fun _ kk => XS.lstore X45.here hx rfl (hb hby at_138) rfl (l' := #[.val (.int p0), .val (.int p1), .val (.int p2), .val (.int p3), .val (.int p4), .val (.int (p0 &&& (3 : Int32))), .val (.int ((1 : Int32) + ((p1 &&& (2147483647 : Int32)) % (3 : Int32)))), .val (.int (p2 % (1024 : Int32))), .val (.int (p3 % (1024 : Int32))), .val (.int (p4 % (1024 : Int32))), .val (.ref g1), .val (.ref b38), .val (.double (FP.i2d (p2 % (1024 : Int32)))), .second, .val (.long (own_f3 (p0 &&& (3 : Int32)) ((1 : Int32) + ((p1 &&& (2147483647 : Int32)) % (3 : Int32))) (Int32.toInt64 (p2 % (1024 : Int32))) (Int32.toInt64 (p3 % (1024 : Int32))) (Int32.toInt64 (p4 % (1024 : Int32))))), .second]) rfl (XS.dload X45.here hx rfl (hb hby at_140) rfl (XS.lload X45.here hx rfl (hb hby at_142) rfl (XS.l2dS X45.here hx rfl (hb hby at_144) rfl rfl (XS.dcmpS X45.here hx rfl (hb hby at_145) rfl rfl kk))))) ?_
        show own_Fin _ _ _ _ _ _ _ (T45.setTop (mkF m 146 #[.val (.int p0), .val (.int p1), .val (.int p2), .val (.int p3), .val (.int p4), .val (.int (p0 &&& (3 : Int32))), .val (.int ((1 : Int32) + ((p1 &&& (2147483647 : Int32)) % (3 : Int32)))), .val (.int (p2 % (1024 : Int32))), .val (.int (p3 % (1024 : Int32))), .val (.int (p4 % (1024 : Int32))), .val (.ref g1), .val (.ref b38), .val (.double (FP.i2d (p2 % (1024 : Int32)))), .second, .val (.long (own_f3 (p0 &&& (3 : Int32)) ((1 : Int32) + ((p1 &&& (2147483647 : Int32)) % (3 : Int32))) (Int32.toInt64 (p2 % (1024 : Int32))) (Int32.toInt64 (p3 % (1024 : Int32))) (Int32.toInt64 (p4 % (1024 : Int32))))), .second] [(.int (cmpValue (FP.dcmp (FP.i2d (p2 % (1024 : Int32))) (FP.l2d (own_f3 (p0 &&& (3 : Int32)) ((1 : Int32) + ((p1 &&& (2147483647 : Int32)) % (3 : Int32))) (Int32.toInt64 (p2 % (1024 : Int32))) (Int32.toInt64 (p3 % (1024 : Int32))) (Int32.toInt64 (p4 % (1024 : Int32)))))) .l))]))
        by_cases hc146 : (cmpValue (FP.dcmp (FP.i2d (p2 % (1024 : Int32))) (FP.l2d (own_f3 (p0 &&& (3 : Int32)) ((1 : Int32) + ((p1 &&& (2147483647 : Int32)) % (3 : Int32))) (Int32.toInt64 (p2 % (1024 : Int32))) (Int32.toInt64 (p3 % (1024 : Int32))) (Int32.toInt64 (p4 % (1024 : Int32)))))) .l) = 0
        · refine own_go (fun _ kk => XS.ifNo X45.here hx rfl (hb hby at_146) rfl (XT.i0_ne_f hc146) (XS.iconst X45.here hx rfl (hb hby at_149) (XS.goto X45.here hx rfl (pc0 := 150) (pc' := 154) rfl (hb hby at_150) (by decide) (by decide) kk))) ?_
          show own_Fin _ _ _ _ _ _ _ (T45.setTop (mkF m 154 #[.val (.int p0), .val (.int p1), .val (.int p2), .val (.int p3), .val (.int p4), .val (.int (p0 &&& (3 : Int32))), .val (.int ((1 : Int32) + ((p1 &&& (2147483647 : Int32)) % (3 : Int32)))), .val (.int (p2 % (1024 : Int32))), .val (.int (p3 % (1024 : Int32))), .val (.int (p4 % (1024 : Int32))), .val (.ref g1), .val (.ref b38), .val (.double (FP.i2d (p2 % (1024 : Int32)))), .second, .val (.long (own_f3 (p0 &&& (3 : Int32)) ((1 : Int32) + ((p1 &&& (2147483647 : Int32)) % (3 : Int32))) (Int32.toInt64 (p2 % (1024 : Int32))) (Int32.toInt64 (p3 % (1024 : Int32))) (Int32.toInt64 (p4 % (1024 : Int32))))), .second] [(.int (1 : Int32))]))
          exact own_retZ X45 hx hlk hret rfl (hb hby at_154) (by decide) (by decide) ⟨(by rw [own_f0, if_neg hk0, if_pos hk1, if_pos hc47, if_pos hc146]), N45⟩
        · refine own_go (fun _ kk => XS.ifYes X45.here hx rfl (pc0 := 146) (pc' := 153) rfl (hb hby at_146) rfl (XT.i0_ne_t hc146) (by decide) (by decide) (XS.iconst X45.here hx rfl (hb hby at_153) kk)) ?_
          show own_Fin _ _ _ _ _ _ _ (T45.setTop (mkF m 154 #[.val (.int p0), .val (.int p1), .val (.int p2), .val (.int p3), .val (.int p4), .val (.int (p0 &&& (3 : Int32))), .val (.int ((1 : Int32) + ((p1 &&& (2147483647 : Int32)) % (3 : Int32)))), .val (.int (p2 % (1024 : Int32))), .val (.int (p3 % (1024 : Int32))), .val (.int (p4 % (1024 : Int32))), .val (.ref g1), .val (.ref b38), .val (.double (FP.i2d (p2 % (1024 : Int32)))), .second, .val (.long (own_f3 (p0 &&& (3 : Int32)) ((1 : Int32) + ((p1 &&& (2147483647 : Int32)) % (3 : Int32))) (Int32.toInt64 (p2 % (1024 : Int32))) (Int32.toInt64 (p3 % (1024 : Int32))) (Int32.toInt64 (p4 % (1024 : Int32))))), .second] [(.int (0 : Int32))]))
          exact own_retZ X45 hx hlk hret rfl (hb hby at_154) (by decide) (by decide) ⟨(by rw [own_f0, if_neg hk0, if_pos hk1, if_pos hc47, if_neg hc146]), N45⟩
      · refine own_go (fun _ kk => XS.icmpYes X1.here hx rfl (pc0 := 47) (pc' := 64) rfl (hb hby at_47) rfl (XT.ii_ne_t hc47) (by decide) (by decide) (XS.iload X1.here hx rfl (hb hby at_64) rfl (XS.iconst X1.here hx rfl (hb hby at_66) kk))) ?_
        show own_Fin _ _ _ _ _ _ _ (T1.setTop (mkF m 67 #[.val (.int p0), .val (.int p1), .val (.int p2), .val (.int p3), .val (.int p4), .val (.int (p0 &&& (3 : Int32))), .val (.int ((1 : Int32) + ((p1 &&& (2147483647 : Int32)) % (3 : Int32)))), .val (.int (p2 % (1024 : Int32))), .val (.int (p3 % (1024 : Int32))), .val (.int (p4 % (1024 : Int32))), .val (.ref g1), .unset, .unset, .unset, .unset, .unset] [(.int (2 : Int32)), (.int ((1 : Int32) + ((p1 &&& (2147483647 : Int32)) % (3 : Int32))))]))
        by_cases hc67 : ((1 : Int32) + ((p1 &&& (2147483647 : Int32)) % (3 : Int32))) = (2 : Int32)
        · refine own_go (fun _ kk => XS.icmpNo X1.here hx rfl (hb hby at_67) rfl (XT.ii_ne_f hc67) (XS.iconst X1.here hx rfl (hb hby at_70) kk)) ?_
          show own_Fin _ _ _ _ _ _ _ (T1.setTop (mkF m 71 #[.val (.int p0), .val (.int p1), .val (.int p2), .val (.int p3), .val (.int p4), .val (.int (p0 &&& (3 : Int32))), .val (.int ((1 : Int32) + ((p1 &&& (2147483647 : Int32)) % (3 : Int32)))), .val (.int (p2 % (1024 : Int32))), .val (.int (p3 % (1024 : Int32))), .val (.int (p4 % (1024 : Int32))), .val (.ref g1), .unset, .unset, .unset, .unset, .unset] [(.int (2 : Int32))]))
          refine own_newD X1 hx hZ (hw _ (List.mem_of_getElem? (i := 8) rfl)) e1 (hb hby at_71) (by decide) (cap := 2) (by decide) (by decide) (by decide) (by decide) ?_
          intro T46 h46 b46 g46 X46 e46 E46 A46 D46
          have g_b46 : n0 ≤ b46 := Nat.le_trans Z0 (Nat.le_of_eq g46.symm)
          have f47 := O0.ext E46
          have Z46 := Nat.le_trans Z0 E46.1
          have A46 : own_Ar Z h46 b46 .double (List.map Value.double [(0 : UInt64), (0 : UInt64)]) := A46
          show own_Fin _ _ _ _ _ _ _ (T46.setTop (mkF m 73 #[.val (.int p0), .val (.int p1), .val (.int p2), .val (.int p3), .val (.int p4), .val (.int (p0 &&& (3 : Int32))), .val (.int ((1 : Int32) + ((p1 &&& (2147483647 : Int32)) % (3 : Int32)))), .val (.int (p2 % (1024 : Int32))), .val (.int (p3 % (1024 : Int32))), .val (.int (p4 % (1024 : Int32))), .val (.ref g1), .unset, .unset, .unset, .unset, .unset] [(.ref b46)]))
          refine own_go (fun _ kk => XS.dup X46.here hx rfl (hb hby at_73) rfl rfl (XS.iconst X46.here hx rfl (hb hby at_74) (XS.iload X46.here hx rfl (hb hby at_75) rfl (XS.i2dS X46.here hx rfl (hb hby at_77) rfl rfl kk)))) ?_
          show own_Fin _ _ _ _ _ _ _ (T46.setTop (mkF m 78 #[.val (.int p0), .val (.int p1), .val (.int p2), .val (.int p3), .val (.int p4), .val (.int (p0 &&& (3 : Int32))), .val (.int ((1 : Int32) + ((p1 &&& (2147483647 : Int32)) % (3 : Int32)))), .val (.int (p2 % (1024 : Int32))), .val (.int (p3 % (1024 : Int32))), .val (.int (p4 % (1024 : Int32))), .val (.ref g1), .unset, .unset, .unset, .unset, .unset] [(.double (FP.i2d (p2 % (1024 : Int32)))), (.int (0 : Int32)), (.ref b46), (.ref b46)]))
          refine own_stD X46 hx hZ e46 A46 (by decide) (by show (0 : Int32).toNatClampNeg < 2; decide) (hb hby at_78) ?_
          intro T48 h48 X48 e48 W48 A48
          have f49 := f47.wr W48 g_b46
          have f51 := D46.wr W48
          have Z48 := Nat.le_trans Z46 (Keep.of_wr W48).1
          have A48 : own_Ar Z h48 b46 .double (List.map Value.double [(FP.i2d (p2 % (1024 : Int32))), (0 : UInt64)]) := A48
          have N48 := Fr.snoc X48 N1 g_b46
          show own_Fin _ _ _ _ _ _ _ (T48.setTop (mkF m 79 #[.val (.int p0), .val (.int p1), .val (.int p2), .val (.int p3), .val (.int p4), .val (.int (p0 &&& (3 : Int32))), .val (.int ((1 : Int32) + ((p1 &&& (2147483647 : Int32)) % (3 : Int32)))), .val (.int (p2 % (1024 : Int32))), .val (.int (p3 % (1024 : Int32))), .val (.int (p4 % (1024 : Int32))), .val (.ref g1), .unset, .unset, .unset, .unset, .unset] [(.ref b46)]))
          refine own_go (fun _ kk => XS.dup X48.here hx rfl (hb hby at_79) rfl rfl (XS.iconst X48.here hx rfl (hb hby at_80) (XS.iload X48.here hx rfl (hb hby at_81) rfl (XS.i2dS X48.here hx rfl (hb hby at_83) rfl rfl kk)))) ?_
          show own_Fin _ _ _ _ _ _ _ (T48.setTop (mkF m 84 #[.val (.int p0), .val (.int p1), .val (.int p2), .val (.int p3), .val (.int p4), .val (.int (p0 &&& (3 : Int32))), .val (.int ((1 : Int32) + ((p1 &&& (2147483647 : Int32)) % (3 : Int32)))), .val (.int (p2 % (1024 : Int32))), .val (.int (p3 % (1024 : Int32))), .val (.int (p4 % (1024 : Int32))), .val (.ref g1), .unset, .unset, .unset, .unset, .unset] [(.double (FP.i2d (p3 % (1024 : Int32)))), (.int (1 : Int32)), (.ref b46), (.ref b46)]))
          refine own_stD X48 hx hZ e48 A48 (by decide) (by show (1 : Int32).toNatClampNeg < 2; decide) (hb hby at_84) ?_
          intro T52 h52 X52 e52 W52 A52
          have f53 := f49.wr W52 g_b46
          have f55 := f51.wr W52
          have Z52 := Nat.le_trans Z48 (Keep.of_wr W52).1
          have A52 : own_Ar Z h52 b46 .double (List.map Value.double [(FP.i2d (p2 % (1024 : Int32))), (FP.i2d (p3 % (1024 : Int32)))]) := A52
          have N52 := Fr.snoc X52 N48 g_b46
          show own_Fin _ _ _ _ _ _ _ (T52.setTop (mkF m 85 #[.val (.int p0), .val (.int p1), .val (.int p2), .val (.int p3), .val (.int p4), .val (.int (p0 &&& (3 : Int32))), .val (.int ((1 : Int32) + ((p1 &&& (2147483647 : Int32)) % (3 : Int32)))), .val (.int (p2 % (1024 : Int32))), .val (.int (p3 % (1024 : Int32))), .val (.int (p4 % (1024 : Int32))), .val (.ref g1), .unset, .unset, .unset, .unset, .unset] [(.ref b46)]))
          refine own_go (fun _ kk => XS.astore X52.here hx rfl (hb hby at_85) rfl rfl (l' := #[.val (.int p0), .val (.int p1), .val (.int p2), .val (.int p3), .val (.int p4), .val (.int (p0 &&& (3 : Int32))), .val (.int ((1 : Int32) + ((p1 &&& (2147483647 : Int32)) % (3 : Int32)))), .val (.int (p2 % (1024 : Int32))), .val (.int (p3 % (1024 : Int32))), .val (.int (p4 % (1024 : Int32))), .val (.ref g1), .val (.ref b46), .unset, .unset, .unset, .unset]) rfl (XS.goto X52.here hx rfl (pc0 := 87) (pc' := 113) rfl (hb hby at_87) (by decide) (by decide) (XS.aload X52.here hx rfl (hb hby at_113) rfl rfl (XS.aload X52.here hx rfl (hb hby at_115) rfl rfl kk)))) ?_
          show own_Fin _ _ _ _ _ _ _ (T52.setTop (mkF m 117 #[.val (.int p0), .val (.int p1), .val (.int p2), .val (.int p3), .val (.int p4), .val (.int (p0 &&& (3 : Int32))), .val (.int ((1 : Int32) + ((p1 &&& (2147483647 : Int32)) % (3 : Int32)))), .val (.int (p2 % (1024 : Int32))), .val (.int (p3 % (1024 : Int32))), .val (.int (p4 % (1024 : Int32))), .val (.ref g1), .val (.ref b46), .unset, .unset, .unset, .unset] [(.ref b46), (.ref g1)]))
          refine own_callV X52 hx hZ hown (hw _ (List.mem_of_getElem? (i := 9) rfl)) (hw _ (List.mem_of_getElem? (i := 10) rfl)) (notFace_of_selects (args := #[]) (mvT hZ (hw _ (List.mem_of_getElem? (i := 12) rfl)))) (hw _ (List.mem_of_getElem? (i := 12) rfl)) (hw _ (List.mem_of_getElem? (i := 11) rfl)) (hw _ (List.mem_of_getElem? (i := 13) rfl)) (hw _ (List.mem_of_getElem? (i := 6) rfl)) (by decide) (rm2k1n2 l Z a0 hw g1 b46 h52 n0 Z52 (E1.ext f53.2) (F1.ext f53.2) (FP.i2d (p2 % (1024 : Int32))) (FP.i2d (p3 % (1024 : Int32))) A52 (own_noNaN (own_m2 _ _))) e52 (E1.ext f53.2) (argsL := [(.ref b46)]) (rest := []) rfl rfl (by rw [hml]; rfl) (lenOf pd_0_1 rfl) (hb hby at_117) (W := 0) (Nat.le_of_eq rfl) (by decide) (by decide) (by decide) (by decide) ?_
          rintro v56 T56 L56 X56 ⟨rfl, M56, e56⟩
          have N56 := Fr.app N52 M56
          show own_Fin _ _ _ _ _ _ _ (T56.setTop (mkF m 120 #[.val (.int p0), .val (.int p1), .val (.int p2), .val (.int p3), .val (.int p4), .val (.int (p0 &&& (3 : Int32))), .val (.int ((1 : Int32) + ((p1 &&& (2147483647 : Int32)) % (3 : Int32)))), .val (.int (p2 % (1024 : Int32))), .val (.int (p3 % (1024 : Int32))), .val (.int (p4 % (1024 : Int32))), .val (.ref g1), .val (.ref b46), .unset, .unset, .unset, .unset] [(.double (FP.dmul (FP.i2d (p2 % (1024 : Int32))) (FP.i2d (p3 % (1024 : Int32)))))]))
          refine own_go (fun _ kk => XS.dstore X56.here hx rfl (hb hby at_120) rfl (l' := #[.val (.int p0), .val (.int p1), .val (.int p2), .val (.int p3), .val (.int p4), .val (.int (p0 &&& (3 : Int32))), .val (.int ((1 : Int32) + ((p1 &&& (2147483647 : Int32)) % (3 : Int32)))), .val (.int (p2 % (1024 : Int32))), .val (.int (p3 % (1024 : Int32))), .val (.int (p4 % (1024 : Int32))), .val (.ref g1), .val (.ref b46), .val (.double (FP.dmul (FP.i2d (p2 % (1024 : Int32))) (FP.i2d (p3 % (1024 : Int32))))), .second, .unset, .unset]) rfl (XS.iload X56.here hx rfl (hb hby at_122) rfl (XS.iload X56.here hx rfl (hb hby at_124) rfl (XS.iload X56.here hx rfl (hb hby at_126) rfl (XS.i2l X56.here hx rfl (hb hby at_128) rfl (XS.iload X56.here hx rfl (hb hby at_129) rfl (XS.i2l X56.here hx rfl (hb hby at_131) rfl (XS.iload X56.here hx rfl (hb hby at_132) rfl (XS.i2l X56.here hx rfl (hb hby at_134) rfl kk))))))))) ?_
          show own_Fin _ _ _ _ _ _ _ (T56.setTop (mkF m 135 #[.val (.int p0), .val (.int p1), .val (.int p2), .val (.int p3), .val (.int p4), .val (.int (p0 &&& (3 : Int32))), .val (.int ((1 : Int32) + ((p1 &&& (2147483647 : Int32)) % (3 : Int32)))), .val (.int (p2 % (1024 : Int32))), .val (.int (p3 % (1024 : Int32))), .val (.int (p4 % (1024 : Int32))), .val (.ref g1), .val (.ref b46), .val (.double (FP.dmul (FP.i2d (p2 % (1024 : Int32))) (FP.i2d (p3 % (1024 : Int32))))), .second, .unset, .unset] [(.long (Int32.toInt64 (p4 % (1024 : Int32)))), (.long (Int32.toInt64 (p3 % (1024 : Int32)))), (.long (Int32.toInt64 (p2 % (1024 : Int32)))), (.int ((1 : Int32) + ((p1 &&& (2147483647 : Int32)) % (3 : Int32)))), (.int (p0 &&& (3 : Int32)))]))
          refine own_callS X56 hx hZ hown (hw _ (List.mem_of_getElem? (i := 14) rfl)) (hw _ (List.mem_of_getElem? (i := 15) rfl)) (hw _ (List.mem_of_getElem? (i := 3) rfl)) (hw _ (List.mem_of_getElem? (i := 16) rfl)) (by decide) (rm3 l Z a0 hw (p0 &&& (3 : Int32)) ((1 : Int32) + ((p1 &&& (2147483647 : Int32)) % (3 : Int32))) (Int32.toInt64 (p2 % (1024 : Int32))) (Int32.toInt64 (p3 % (1024 : Int32))) (Int32.toInt64 (p4 % (1024 : Int32))) h52 n0 Z52) e56 (argsL := [(.int (p0 &&& (3 : Int32))), (.int ((1 : Int32) + ((p1 &&& (2147483647 : Int32)) % (3 : Int32)))), (.long (Int32.toInt64 (p2 % (1024 : Int32)))), (.long (Int32.toInt64 (p3 % (1024 : Int32)))), (.long (Int32.toInt64 (p4 % (1024 : Int32))))]) (rest := []) rfl rfl (by rw [hml]; rfl) (lenOf pd_0_2 rfl) (hb hby at_135) (W := 0) (Nat.le_of_eq rfl) (by decide) (by decide) (by decide) (by decide) ?_
          rintro v57 T57 L57 X57 ⟨rfl, M57, e57⟩
          have N57 := Fr.app N56 M57
          show own_Fin _ _ _ _ _ _ _ (T57.setTop (mkF m 138 #[.val (.int p0), .val (.int p1), .val (.int p2), .val (.int p3), .val (.int p4), .val (.int (p0 &&& (3 : Int32))), .val (.int ((1 : Int32) + ((p1 &&& (2147483647 : Int32)) % (3 : Int32)))), .val (.int (p2 % (1024 : Int32))), .val (.int (p3 % (1024 : Int32))), .val (.int (p4 % (1024 : Int32))), .val (.ref g1), .val (.ref b46), .val (.double (FP.dmul (FP.i2d (p2 % (1024 : Int32))) (FP.i2d (p3 % (1024 : Int32))))), .second, .unset, .unset] [(.long (own_f3 (p0 &&& (3 : Int32)) ((1 : Int32) + ((p1 &&& (2147483647 : Int32)) % (3 : Int32))) (Int32.toInt64 (p2 % (1024 : Int32))) (Int32.toInt64 (p3 % (1024 : Int32))) (Int32.toInt64 (p4 % (1024 : Int32)))))]))
          refine own_go (fun _ kk => XS.lstore X57.here hx rfl (hb hby at_138) rfl (l' := #[.val (.int p0), .val (.int p1), .val (.int p2), .val (.int p3), .val (.int p4), .val (.int (p0 &&& (3 : Int32))), .val (.int ((1 : Int32) + ((p1 &&& (2147483647 : Int32)) % (3 : Int32)))), .val (.int (p2 % (1024 : Int32))), .val (.int (p3 % (1024 : Int32))), .val (.int (p4 % (1024 : Int32))), .val (.ref g1), .val (.ref b46), .val (.double (FP.dmul (FP.i2d (p2 % (1024 : Int32))) (FP.i2d (p3 % (1024 : Int32))))), .second, .val (.long (own_f3 (p0 &&& (3 : Int32)) ((1 : Int32) + ((p1 &&& (2147483647 : Int32)) % (3 : Int32))) (Int32.toInt64 (p2 % (1024 : Int32))) (Int32.toInt64 (p3 % (1024 : Int32))) (Int32.toInt64 (p4 % (1024 : Int32))))), .second]) rfl (XS.dload X57.here hx rfl (hb hby at_140) rfl (XS.lload X57.here hx rfl (hb hby at_142) rfl (XS.l2dS X57.here hx rfl (hb hby at_144) rfl rfl (XS.dcmpS X57.here hx rfl (hb hby at_145) rfl rfl kk))))) ?_
          show own_Fin _ _ _ _ _ _ _ (T57.setTop (mkF m 146 #[.val (.int p0), .val (.int p1), .val (.int p2), .val (.int p3), .val (.int p4), .val (.int (p0 &&& (3 : Int32))), .val (.int ((1 : Int32) + ((p1 &&& (2147483647 : Int32)) % (3 : Int32)))), .val (.int (p2 % (1024 : Int32))), .val (.int (p3 % (1024 : Int32))), .val (.int (p4 % (1024 : Int32))), .val (.ref g1), .val (.ref b46), .val (.double (FP.dmul (FP.i2d (p2 % (1024 : Int32))) (FP.i2d (p3 % (1024 : Int32))))), .second, .val (.long (own_f3 (p0 &&& (3 : Int32)) ((1 : Int32) + ((p1 &&& (2147483647 : Int32)) % (3 : Int32))) (Int32.toInt64 (p2 % (1024 : Int32))) (Int32.toInt64 (p3 % (1024 : Int32))) (Int32.toInt64 (p4 % (1024 : Int32))))), .second] [(.int (cmpValue (FP.dcmp (FP.dmul (FP.i2d (p2 % (1024 : Int32))) (FP.i2d (p3 % (1024 : Int32)))) (FP.l2d (own_f3 (p0 &&& (3 : Int32)) ((1 : Int32) + ((p1 &&& (2147483647 : Int32)) % (3 : Int32))) (Int32.toInt64 (p2 % (1024 : Int32))) (Int32.toInt64 (p3 % (1024 : Int32))) (Int32.toInt64 (p4 % (1024 : Int32)))))) .l))]))
          by_cases hc146 : (cmpValue (FP.dcmp (FP.dmul (FP.i2d (p2 % (1024 : Int32))) (FP.i2d (p3 % (1024 : Int32)))) (FP.l2d (own_f3 (p0 &&& (3 : Int32)) ((1 : Int32) + ((p1 &&& (2147483647 : Int32)) % (3 : Int32))) (Int32.toInt64 (p2 % (1024 : Int32))) (Int32.toInt64 (p3 % (1024 : Int32))) (Int32.toInt64 (p4 % (1024 : Int32)))))) .l) = 0
          · refine own_go (fun _ kk => XS.ifNo X57.here hx rfl (hb hby at_146) rfl (XT.i0_ne_f hc146) (XS.iconst X57.here hx rfl (hb hby at_149) (XS.goto X57.here hx rfl (pc0 := 150) (pc' := 154) rfl (hb hby at_150) (by decide) (by decide) kk))) ?_
            show own_Fin _ _ _ _ _ _ _ (T57.setTop (mkF m 154 #[.val (.int p0), .val (.int p1), .val (.int p2), .val (.int p3), .val (.int p4), .val (.int (p0 &&& (3 : Int32))), .val (.int ((1 : Int32) + ((p1 &&& (2147483647 : Int32)) % (3 : Int32)))), .val (.int (p2 % (1024 : Int32))), .val (.int (p3 % (1024 : Int32))), .val (.int (p4 % (1024 : Int32))), .val (.ref g1), .val (.ref b46), .val (.double (FP.dmul (FP.i2d (p2 % (1024 : Int32))) (FP.i2d (p3 % (1024 : Int32))))), .second, .val (.long (own_f3 (p0 &&& (3 : Int32)) ((1 : Int32) + ((p1 &&& (2147483647 : Int32)) % (3 : Int32))) (Int32.toInt64 (p2 % (1024 : Int32))) (Int32.toInt64 (p3 % (1024 : Int32))) (Int32.toInt64 (p4 % (1024 : Int32))))), .second] [(.int (1 : Int32))]))
            exact own_retZ X57 hx hlk hret rfl (hb hby at_154) (by decide) (by decide) ⟨(by rw [own_f0, if_neg hk0, if_pos hk1, if_neg hc47, if_pos hc67, if_pos hc146]), N57⟩
          · refine own_go (fun _ kk => XS.ifYes X57.here hx rfl (pc0 := 146) (pc' := 153) rfl (hb hby at_146) rfl (XT.i0_ne_t hc146) (by decide) (by decide) (XS.iconst X57.here hx rfl (hb hby at_153) kk)) ?_
            show own_Fin _ _ _ _ _ _ _ (T57.setTop (mkF m 154 #[.val (.int p0), .val (.int p1), .val (.int p2), .val (.int p3), .val (.int p4), .val (.int (p0 &&& (3 : Int32))), .val (.int ((1 : Int32) + ((p1 &&& (2147483647 : Int32)) % (3 : Int32)))), .val (.int (p2 % (1024 : Int32))), .val (.int (p3 % (1024 : Int32))), .val (.int (p4 % (1024 : Int32))), .val (.ref g1), .val (.ref b46), .val (.double (FP.dmul (FP.i2d (p2 % (1024 : Int32))) (FP.i2d (p3 % (1024 : Int32))))), .second, .val (.long (own_f3 (p0 &&& (3 : Int32)) ((1 : Int32) + ((p1 &&& (2147483647 : Int32)) % (3 : Int32))) (Int32.toInt64 (p2 % (1024 : Int32))) (Int32.toInt64 (p3 % (1024 : Int32))) (Int32.toInt64 (p4 % (1024 : Int32))))), .second] [(.int (0 : Int32))]))
            exact own_retZ X57 hx hlk hret rfl (hb hby at_154) (by decide) (by decide) ⟨(by rw [own_f0, if_neg hk0, if_pos hk1, if_neg hc47, if_pos hc67, if_neg hc146]), N57⟩
        · refine own_go (fun _ kk => XS.icmpYes X1.here hx rfl (pc0 := 67) (pc' := 90) rfl (hb hby at_67) rfl (XT.ii_ne_t hc67) (by decide) (by decide) (XS.iconst X1.here hx rfl (hb hby at_90) kk)) ?_
          show own_Fin _ _ _ _ _ _ _ (T1.setTop (mkF m 91 #[.val (.int p0), .val (.int p1), .val (.int p2), .val (.int p3), .val (.int p4), .val (.int (p0 &&& (3 : Int32))), .val (.int ((1 : Int32) + ((p1 &&& (2147483647 : Int32)) % (3 : Int32)))), .val (.int (p2 % (1024 : Int32))), .val (.int (p3 % (1024 : Int32))), .val (.int (p4 % (1024 : Int32))), .val (.ref g1), .unset, .unset, .unset, .unset, .unset] [(.int (3 : Int32))]))
          refine own_newD X1 hx hZ (hw _ (List.mem_of_getElem? (i := 8) rfl)) e1 (hb hby at_91) (by decide) (cap := 3) (by decide) (by decide) (by decide) (by decide) ?_
          intro T58 h58 b58 g58 X58 e58 E58 A58 D58
          have g_b58 : n0 ≤ b58 := Nat.le_trans Z0 (Nat.le_of_eq g58.symm)
          have f59 := O0.ext E58
          have Z58 := Nat.le_trans Z0 E58.1
          have A58 : own_Ar Z h58 b58 .double (List.map Value.double [(0 : UInt64), (0 : UInt64), (0 : UInt64)]) := A58
          show own_Fin _ _ _ _ _ _ _ (T58.setTop (mkF m 93 #[.val (.int p0), .val (.int p1), .val (.int p2), .val (.int p3), .val (.int p4), .val (.int (p0 &&& (3 : Int32))), .val (.int ((1 : Int32) + ((p1 &&& (2147483647 : Int32)) % (3 : Int32)))), .val (.int (p2 % (1024 : Int32))), .val (.int (p3 % (1024 : Int32))), .val (.int (p4 % (1024 : Int32))), .val (.ref g1), .unset, .unset, .unset, .unset, .unset] [(.ref b58)]))
          refine own_go (fun _ kk => XS.dup X58.here hx rfl (hb hby at_93) rfl rfl (XS.iconst X58.here hx rfl (hb hby at_94) (XS.iload X58.here hx rfl (hb hby at_95) rfl (XS.i2dS X58.here hx rfl (hb hby at_97) rfl rfl kk)))) ?_
          show own_Fin _ _ _ _ _ _ _ (T58.setTop (mkF m 98 #[.val (.int p0), .val (.int p1), .val (.int p2), .val (.int p3), .val (.int p4), .val (.int (p0 &&& (3 : Int32))), .val (.int ((1 : Int32) + ((p1 &&& (2147483647 : Int32)) % (3 : Int32)))), .val (.int (p2 % (1024 : Int32))), .val (.int (p3 % (1024 : Int32))), .val (.int (p4 % (1024 : Int32))), .val (.ref g1), .unset, .unset, .unset, .unset, .unset] [(.double (FP.i2d (p2 % (1024 : Int32)))), (.int (0 : Int32)), (.ref b58), (.ref b58)]))
          refine own_stD X58 hx hZ e58 A58 (by decide) (by show (0 : Int32).toNatClampNeg < 3; decide) (hb hby at_98) ?_
          intro T60 h60 X60 e60 W60 A60
          have f61 := f59.wr W60 g_b58
          have f63 := D58.wr W60
          have Z60 := Nat.le_trans Z58 (Keep.of_wr W60).1
          have A60 : own_Ar Z h60 b58 .double (List.map Value.double [(FP.i2d (p2 % (1024 : Int32))), (0 : UInt64), (0 : UInt64)]) := A60
          have N60 := Fr.snoc X60 N1 g_b58
          show own_Fin _ _ _ _ _ _ _ (T60.setTop (mkF m 99 #[.val (.int p0), .val (.int p1), .val (.int p2), .val (.int p3), .val (.int p4), .val (.int (p0 &&& (3 : Int32))), .val (.int ((1 : Int32) + ((p1 &&& (2147483647 : Int32)) % (3 : Int32)))), .val (.int (p2 % (1024 : Int32))), .val (.int (p3 % (1024 : Int32))), .val (.int (p4 % (1024 : Int32))), .val (.ref g1), .unset, .unset, .unset, .unset, .unset] [(.ref b58)]))
          refine own_go (fun _ kk => XS.dup X60.here hx rfl (hb hby at_99) rfl rfl (XS.iconst X60.here hx rfl (hb hby at_100) (XS.iload X60.here hx rfl (hb hby at_101) rfl (XS.i2dS X60.here hx rfl (hb hby at_103) rfl rfl kk)))) ?_
          show own_Fin _ _ _ _ _ _ _ (T60.setTop (mkF m 104 #[.val (.int p0), .val (.int p1), .val (.int p2), .val (.int p3), .val (.int p4), .val (.int (p0 &&& (3 : Int32))), .val (.int ((1 : Int32) + ((p1 &&& (2147483647 : Int32)) % (3 : Int32)))), .val (.int (p2 % (1024 : Int32))), .val (.int (p3 % (1024 : Int32))), .val (.int (p4 % (1024 : Int32))), .val (.ref g1), .unset, .unset, .unset, .unset, .unset] [(.double (FP.i2d (p3 % (1024 : Int32)))), (.int (1 : Int32)), (.ref b58), (.ref b58)]))
          refine own_stD X60 hx hZ e60 A60 (by decide) (by show (1 : Int32).toNatClampNeg < 3; decide) (hb hby at_104) ?_
          intro T64 h64 X64 e64 W64 A64
          have f65 := f61.wr W64 g_b58
          have f67 := f63.wr W64
          have Z64 := Nat.le_trans Z60 (Keep.of_wr W64).1
          have A64 : own_Ar Z h64 b58 .double (List.map Value.double [(FP.i2d (p2 % (1024 : Int32))), (FP.i2d (p3 % (1024 : Int32))), (0 : UInt64)]) := A64
          have N64 := Fr.snoc X64 N60 g_b58
          show own_Fin _ _ _ _ _ _ _ (T64.setTop (mkF m 105 #[.val (.int p0), .val (.int p1), .val (.int p2), .val (.int p3), .val (.int p4), .val (.int (p0 &&& (3 : Int32))), .val (.int ((1 : Int32) + ((p1 &&& (2147483647 : Int32)) % (3 : Int32)))), .val (.int (p2 % (1024 : Int32))), .val (.int (p3 % (1024 : Int32))), .val (.int (p4 % (1024 : Int32))), .val (.ref g1), .unset, .unset, .unset, .unset, .unset] [(.ref b58)]))
          refine own_go (fun _ kk => XS.dup X64.here hx rfl (hb hby at_105) rfl rfl (XS.iconst X64.here hx rfl (hb hby at_106) (XS.iload X64.here hx rfl (hb hby at_107) rfl (XS.i2dS X64.here hx rfl (hb hby at_109) rfl rfl kk)))) ?_
          show own_Fin _ _ _ _ _ _ _ (T64.setTop (mkF m 110 #[.val (.int p0), .val (.int p1), .val (.int p2), .val (.int p3), .val (.int p4), .val (.int (p0 &&& (3 : Int32))), .val (.int ((1 : Int32) + ((p1 &&& (2147483647 : Int32)) % (3 : Int32)))), .val (.int (p2 % (1024 : Int32))), .val (.int (p3 % (1024 : Int32))), .val (.int (p4 % (1024 : Int32))), .val (.ref g1), .unset, .unset, .unset, .unset, .unset] [(.double (FP.i2d (p4 % (1024 : Int32)))), (.int (2 : Int32)), (.ref b58), (.ref b58)]))
          refine own_stD X64 hx hZ e64 A64 (by decide) (by show (2 : Int32).toNatClampNeg < 3; decide) (hb hby at_110) ?_
          intro T68 h68 X68 e68 W68 A68
          have f69 := f65.wr W68 g_b58
          have f71 := f67.wr W68
          have Z68 := Nat.le_trans Z64 (Keep.of_wr W68).1
          have A68 : own_Ar Z h68 b58 .double (List.map Value.double [(FP.i2d (p2 % (1024 : Int32))), (FP.i2d (p3 % (1024 : Int32))), (FP.i2d (p4 % (1024 : Int32)))]) := A68
          have N68 := Fr.snoc X68 N64 g_b58
          show own_Fin _ _ _ _ _ _ _ (T68.setTop (mkF m 111 #[.val (.int p0), .val (.int p1), .val (.int p2), .val (.int p3), .val (.int p4), .val (.int (p0 &&& (3 : Int32))), .val (.int ((1 : Int32) + ((p1 &&& (2147483647 : Int32)) % (3 : Int32)))), .val (.int (p2 % (1024 : Int32))), .val (.int (p3 % (1024 : Int32))), .val (.int (p4 % (1024 : Int32))), .val (.ref g1), .unset, .unset, .unset, .unset, .unset] [(.ref b58)]))
          refine own_go (fun _ kk => XS.astore X68.here hx rfl (hb hby at_111) rfl rfl (l' := #[.val (.int p0), .val (.int p1), .val (.int p2), .val (.int p3), .val (.int p4), .val (.int (p0 &&& (3 : Int32))), .val (.int ((1 : Int32) + ((p1 &&& (2147483647 : Int32)) % (3 : Int32)))), .val (.int (p2 % (1024 : Int32))), .val (.int (p3 % (1024 : Int32))), .val (.int (p4 % (1024 : Int32))), .val (.ref g1), .val (.ref b58), .unset, .unset, .unset, .unset]) rfl (XS.aload X68.here hx rfl (hb hby at_113) rfl rfl (XS.aload X68.here hx rfl (hb hby at_115) rfl rfl kk))) ?_
          show own_Fin _ _ _ _ _ _ _ (T68.setTop (mkF m 117 #[.val (.int p0), .val (.int p1), .val (.int p2), .val (.int p3), .val (.int p4), .val (.int (p0 &&& (3 : Int32))), .val (.int ((1 : Int32) + ((p1 &&& (2147483647 : Int32)) % (3 : Int32)))), .val (.int (p2 % (1024 : Int32))), .val (.int (p3 % (1024 : Int32))), .val (.int (p4 % (1024 : Int32))), .val (.ref g1), .val (.ref b58), .unset, .unset, .unset, .unset] [(.ref b58), (.ref g1)]))
          refine own_callV X68 hx hZ hown (hw _ (List.mem_of_getElem? (i := 9) rfl)) (hw _ (List.mem_of_getElem? (i := 10) rfl)) (notFace_of_selects (args := #[]) (mvT hZ (hw _ (List.mem_of_getElem? (i := 12) rfl)))) (hw _ (List.mem_of_getElem? (i := 12) rfl)) (hw _ (List.mem_of_getElem? (i := 11) rfl)) (hw _ (List.mem_of_getElem? (i := 13) rfl)) (hw _ (List.mem_of_getElem? (i := 6) rfl)) (by decide) (rm2k1n3 l Z a0 hw g1 b58 h68 n0 Z68 (E1.ext f69.2) (F1.ext f69.2) (FP.i2d (p2 % (1024 : Int32))) (FP.i2d (p3 % (1024 : Int32))) (FP.i2d (p4 % (1024 : Int32))) A68 (own_noNaN (own_m2 _ _)) (own_noNaN (own_m3 _ _ _))) e68 (E1.ext f69.2) (argsL := [(.ref b58)]) (rest := []) rfl rfl (by rw [hml]; rfl) (lenOf pd_0_1 rfl) (hb hby at_117) (W := 0) (Nat.le_of_eq rfl) (by decide) (by decide) (by decide) (by decide) ?_
          rintro v72 T72 L72 X72 ⟨rfl, M72, e72⟩
          have N72 := Fr.app N68 M72
          show own_Fin _ _ _ _ _ _ _ (T72.setTop (mkF m 120 #[.val (.int p0), .val (.int p1), .val (.int p2), .val (.int p3), .val (.int p4), .val (.int (p0 &&& (3 : Int32))), .val (.int ((1 : Int32) + ((p1 &&& (2147483647 : Int32)) % (3 : Int32)))), .val (.int (p2 % (1024 : Int32))), .val (.int (p3 % (1024 : Int32))), .val (.int (p4 % (1024 : Int32))), .val (.ref g1), .val (.ref b58), .unset, .unset, .unset, .unset] [(.double (FP.dmul (FP.dmul (FP.i2d (p2 % (1024 : Int32))) (FP.i2d (p3 % (1024 : Int32)))) (FP.i2d (p4 % (1024 : Int32)))))]))
          refine own_go (fun _ kk => XS.dstore X72.here hx rfl (hb hby at_120) rfl (l' := #[.val (.int p0), .val (.int p1), .val (.int p2), .val (.int p3), .val (.int p4), .val (.int (p0 &&& (3 : Int32))), .val (.int ((1 : Int32) + ((p1 &&& (2147483647 : Int32)) % (3 : Int32)))), .val (.int (p2 % (1024 : Int32))), .val (.int (p3 % (1024 : Int32))), .val (.int (p4 % (1024 : Int32))), .val (.ref g1), .val (.ref b58), .val (.double (FP.dmul (FP.dmul (FP.i2d (p2 % (1024 : Int32))) (FP.i2d (p3 % (1024 : Int32)))) (FP.i2d (p4 % (1024 : Int32))))), .second, .unset, .unset]) rfl (XS.iload X72.here hx rfl (hb hby at_122) rfl (XS.iload X72.here hx rfl (hb hby at_124) rfl (XS.iload X72.here hx rfl (hb hby at_126) rfl (XS.i2l X72.here hx rfl (hb hby at_128) rfl (XS.iload X72.here hx rfl (hb hby at_129) rfl (XS.i2l X72.here hx rfl (hb hby at_131) rfl (XS.iload X72.here hx rfl (hb hby at_132) rfl (XS.i2l X72.here hx rfl (hb hby at_134) rfl kk))))))))) ?_
          show own_Fin _ _ _ _ _ _ _ (T72.setTop (mkF m 135 #[.val (.int p0), .val (.int p1), .val (.int p2), .val (.int p3), .val (.int p4), .val (.int (p0 &&& (3 : Int32))), .val (.int ((1 : Int32) + ((p1 &&& (2147483647 : Int32)) % (3 : Int32)))), .val (.int (p2 % (1024 : Int32))), .val (.int (p3 % (1024 : Int32))), .val (.int (p4 % (1024 : Int32))), .val (.ref g1), .val (.ref b58), .val (.double (FP.dmul (FP.dmul (FP.i2d (p2 % (1024 : Int32))) (FP.i2d (p3 % (1024 : Int32)))) (FP.i2d (p4 % (1024 : Int32))))), .second, .unset, .unset] [(.long (Int32.toInt64 (p4 % (1024 : Int32)))), (.long (Int32.toInt64 (p3 % (1024 : Int32)))), (.long (Int32.toInt64 (p2 % (1024 : Int32)))), (.int ((1 : Int32) + ((p1 &&& (2147483647 : Int32)) % (3 : Int32)))), (.int (p0 &&& (3 : Int32)))]))
          refine own_callS X72 hx hZ hown (hw _ (List.mem_of_getElem? (i := 14) rfl)) (hw _ (List.mem_of_getElem? (i := 15) rfl)) (hw _ (List.mem_of_getElem? (i := 3) rfl)) (hw _ (List.mem_of_getElem? (i := 16) rfl)) (by decide) (rm3 l Z a0 hw (p0 &&& (3 : Int32)) ((1 : Int32) + ((p1 &&& (2147483647 : Int32)) % (3 : Int32))) (Int32.toInt64 (p2 % (1024 : Int32))) (Int32.toInt64 (p3 % (1024 : Int32))) (Int32.toInt64 (p4 % (1024 : Int32))) h68 n0 Z68) e72 (argsL := [(.int (p0 &&& (3 : Int32))), (.int ((1 : Int32) + ((p1 &&& (2147483647 : Int32)) % (3 : Int32)))), (.long (Int32.toInt64 (p2 % (1024 : Int32)))), (.long (Int32.toInt64 (p3 % (1024 : Int32)))), (.long (Int32.toInt64 (p4 % (1024 : Int32))))]) (rest := []) rfl rfl (by rw [hml]; rfl) (lenOf pd_0_2 rfl) (hb hby at_135) (W := 0) (Nat.le_of_eq rfl) (by decide) (by decide) (by decide) (by decide) ?_
          rintro v73 T73 L73 X73 ⟨rfl, M73, e73⟩
          have N73 := Fr.app N72 M73
          show own_Fin _ _ _ _ _ _ _ (T73.setTop (mkF m 138 #[.val (.int p0), .val (.int p1), .val (.int p2), .val (.int p3), .val (.int p4), .val (.int (p0 &&& (3 : Int32))), .val (.int ((1 : Int32) + ((p1 &&& (2147483647 : Int32)) % (3 : Int32)))), .val (.int (p2 % (1024 : Int32))), .val (.int (p3 % (1024 : Int32))), .val (.int (p4 % (1024 : Int32))), .val (.ref g1), .val (.ref b58), .val (.double (FP.dmul (FP.dmul (FP.i2d (p2 % (1024 : Int32))) (FP.i2d (p3 % (1024 : Int32)))) (FP.i2d (p4 % (1024 : Int32))))), .second, .unset, .unset] [(.long (own_f3 (p0 &&& (3 : Int32)) ((1 : Int32) + ((p1 &&& (2147483647 : Int32)) % (3 : Int32))) (Int32.toInt64 (p2 % (1024 : Int32))) (Int32.toInt64 (p3 % (1024 : Int32))) (Int32.toInt64 (p4 % (1024 : Int32)))))]))
          refine own_go (fun _ kk => XS.lstore X73.here hx rfl (hb hby at_138) rfl (l' := #[.val (.int p0), .val (.int p1), .val (.int p2), .val (.int p3), .val (.int p4), .val (.int (p0 &&& (3 : Int32))), .val (.int ((1 : Int32) + ((p1 &&& (2147483647 : Int32)) % (3 : Int32)))), .val (.int (p2 % (1024 : Int32))), .val (.int (p3 % (1024 : Int32))), .val (.int (p4 % (1024 : Int32))), .val (.ref g1), .val (.ref b58), .val (.double (FP.dmul (FP.dmul (FP.i2d (p2 % (1024 : Int32))) (FP.i2d (p3 % (1024 : Int32)))) (FP.i2d (p4 % (1024 : Int32))))), .second, .val (.long (own_f3 (p0 &&& (3 : Int32)) ((1 : Int32) + ((p1 &&& (2147483647 : Int32)) % (3 : Int32))) (Int32.toInt64 (p2 % (1024 : Int32))) (Int32.toInt64 (p3 % (1024 : Int32))) (Int32.toInt64 (p4 % (1024 : Int32))))), .second]) rfl (XS.dload X73.here hx rfl (hb hby at_140) rfl (XS.lload X73.here hx rfl (hb hby at_142) rfl (XS.l2dS X73.here hx rfl (hb hby at_144) rfl rfl (XS.dcmpS X73.here hx rfl (hb hby at_145) rfl rfl kk))))) ?_
          show own_Fin _ _ _ _ _ _ _ (T73.setTop (mkF m 146 #[.val (.int p0), .val (.int p1), .val (.int p2), .val (.int p3), .val (.int p4), .val (.int (p0 &&& (3 : Int32))), .val (.int ((1 : Int32) + ((p1 &&& (2147483647 : Int32)) % (3 : Int32)))), .val (.int (p2 % (1024 : Int32))), .val (.int (p3 % (1024 : Int32))), .val (.int (p4 % (1024 : Int32))), .val (.ref g1), .val (.ref b58), .val (.double (FP.dmul (FP.dmul (FP.i2d (p2 % (1024 : Int32))) (FP.i2d (p3 % (1024 : Int32)))) (FP.i2d (p4 % (1024 : Int32))))), .second, .val (.long (own_f3 (p0 &&& (3 : Int32)) ((1 : Int32) + ((p1 &&& (2147483647 : Int32)) % (3 : Int32))) (Int32.toInt64 (p2 % (1024 : Int32))) (Int32.toInt64 (p3 % (1024 : Int32))) (Int32.toInt64 (p4 % (1024 : Int32))))), .second] [(.int (cmpValue (FP.dcmp (FP.dmul (FP.dmul (FP.i2d (p2 % (1024 : Int32))) (FP.i2d (p3 % (1024 : Int32)))) (FP.i2d (p4 % (1024 : Int32)))) (FP.l2d (own_f3 (p0 &&& (3 : Int32)) ((1 : Int32) + ((p1 &&& (2147483647 : Int32)) % (3 : Int32))) (Int32.toInt64 (p2 % (1024 : Int32))) (Int32.toInt64 (p3 % (1024 : Int32))) (Int32.toInt64 (p4 % (1024 : Int32)))))) .l))]))
          by_cases hc146 : (cmpValue (FP.dcmp (FP.dmul (FP.dmul (FP.i2d (p2 % (1024 : Int32))) (FP.i2d (p3 % (1024 : Int32)))) (FP.i2d (p4 % (1024 : Int32)))) (FP.l2d (own_f3 (p0 &&& (3 : Int32)) ((1 : Int32) + ((p1 &&& (2147483647 : Int32)) % (3 : Int32))) (Int32.toInt64 (p2 % (1024 : Int32))) (Int32.toInt64 (p3 % (1024 : Int32))) (Int32.toInt64 (p4 % (1024 : Int32)))))) .l) = 0
          · refine own_go (fun _ kk => XS.ifNo X73.here hx rfl (hb hby at_146) rfl (XT.i0_ne_f hc146) (XS.iconst X73.here hx rfl (hb hby at_149) (XS.goto X73.here hx rfl (pc0 := 150) (pc' := 154) rfl (hb hby at_150) (by decide) (by decide) kk))) ?_
            show own_Fin _ _ _ _ _ _ _ (T73.setTop (mkF m 154 #[.val (.int p0), .val (.int p1), .val (.int p2), .val (.int p3), .val (.int p4), .val (.int (p0 &&& (3 : Int32))), .val (.int ((1 : Int32) + ((p1 &&& (2147483647 : Int32)) % (3 : Int32)))), .val (.int (p2 % (1024 : Int32))), .val (.int (p3 % (1024 : Int32))), .val (.int (p4 % (1024 : Int32))), .val (.ref g1), .val (.ref b58), .val (.double (FP.dmul (FP.dmul (FP.i2d (p2 % (1024 : Int32))) (FP.i2d (p3 % (1024 : Int32)))) (FP.i2d (p4 % (1024 : Int32))))), .second, .val (.long (own_f3 (p0 &&& (3 : Int32)) ((1 : Int32) + ((p1 &&& (2147483647 : Int32)) % (3 : Int32))) (Int32.toInt64 (p2 % (1024 : Int32))) (Int32.toInt64 (p3 % (1024 : Int32))) (Int32.toInt64 (p4 % (1024 : Int32))))), .second] [(.int (1 : Int32))]))
            exact own_retZ X73 hx hlk hret rfl (hb hby at_154) (by decide) (by decide) ⟨(by rw [own_f0, if_neg hk0, if_pos hk1, if_neg hc47, if_neg hc67, if_pos hc146]), N73⟩
          · refine own_go (fun _ kk => XS.ifYes X73.here hx rfl (pc0 := 146) (pc' := 153) rfl (hb hby at_146) rfl (XT.i0_ne_t hc146) (by decide) (by decide) (XS.iconst X73.here hx rfl (hb hby at_153) kk)) ?_
            show own_Fin _ _ _ _ _ _ _ (T73.setTop (mkF m 154 #[.val (.int p0), .val (.int p1), .val (.int p2), .val (.int p3), .val (.int p4), .val (.int (p0 &&& (3 : Int32))), .val (.int ((1 : Int32) + ((p1 &&& (2147483647 : Int32)) % (3 : Int32)))), .val (.int (p2 % (1024 : Int32))), .val (.int (p3 % (1024 : Int32))), .val (.int (p4 % (1024 : Int32))), .val (.ref g1), .val (.ref b58), .val (.double (FP.dmul (FP.dmul (FP.i2d (p2 % (1024 : Int32))) (FP.i2d (p3 % (1024 : Int32)))) (FP.i2d (p4 % (1024 : Int32))))), .second, .val (.long (own_f3 (p0 &&& (3 : Int32)) ((1 : Int32) + ((p1 &&& (2147483647 : Int32)) % (3 : Int32))) (Int32.toInt64 (p2 % (1024 : Int32))) (Int32.toInt64 (p3 % (1024 : Int32))) (Int32.toInt64 (p4 % (1024 : Int32))))), .second] [(.int (0 : Int32))]))
            exact own_retZ X73 hx hlk hret rfl (hb hby at_154) (by decide) (by decide) ⟨(by rw [own_f0, if_neg hk0, if_pos hk1, if_neg hc47, if_neg hc67, if_neg hc146]), N73⟩
    · by_cases hk2 : (p0 &&& (3 : Int32)) = (2 : Int32)
      · rw [show own_f1 (p0 &&& (3 : Int32)) g0 g1 g2 g3 = g2 from by rw [own_f1, if_neg hk0, if_neg hk1, if_pos hk2]]
        show own_Fin _ _ _ _ _ _ _ (T1.setTop (mkF m 42 #[.val (.int p0), .val (.int p1), .val (.int p2), .val (.int p3), .val (.int p4), .val (.int (p0 &&& (3 : Int32))), .val (.int ((1 : Int32) + ((p1 &&& (2147483647 : Int32)) % (3 : Int32)))), .val (.int (p2 % (1024 : Int32))), .val (.int (p3 % (1024 : Int32))), .val (.int (p4 % (1024 : Int32))), .unset, .unset, .unset, .unset, .unset, .unset] [(.ref g2)]))
        refine own_go (fun _ kk => XS.astore X1.here hx rfl (hb hby at_42) rfl rfl (l' := #[.val (.int p0), .val (.int p1), .val (.int p2), .val (.int p3), .val (.int p4), .val (.int (p0 &&& (3 : Int32))), .val (.int ((1 : Int32) + ((p1 &&& (2147483647 : Int32)) % (3 : Int32)))), .val (.int (p2 % (1024 : Int32))), .val (.int (p3 % (1024 : Int32))), .val (.int (p4 % (1024 : Int32))), .val (.ref g2), .unset, .unset, .unset, .unset, .unset]) rfl (XS.iload X1.here hx rfl (hb hby at_44) rfl (XS.iconst X1.here hx rfl (hb hby at_46) kk))) ?_
        show own_Fin _ _ _ _ _ _ _ (T1.setTop (mkF m 47 #[.val (.int p0), .val (.int p1), .val (.int p2), .val (.int p3), .val (.int p4), .val (.int (p0 &&& (3 : Int32))), .val (.int ((1 : Int32) + ((p1 &&& (2147483647 : Int32)) % (3 : Int32)))), .val (.int (p2 % (1024 : Int32))), .val (.int (p3 % (1024 : Int32))), .val (.int (p4 % (1024 : Int32))), .val (.ref g2), .unset, .unset, .unset, .unset, .unset] [(.int (1 : Int32)), (.int ((1 : Int32) + ((p1 &&& (2147483647 : Int32)) % (3 : Int32))))]))
        by_cases hc47 : ((1 : Int32) + ((p1 &&& (2147483647 : Int32)) % (3 : Int32))) = (1 : Int32)
        · refine own_go (fun _ kk => XS.icmpNo X1.here hx rfl (hb hby at_47) rfl (XT.ii_ne_f hc47) (XS.iconst X1.here hx rfl (hb hby at_50) kk)) ?_
          show own_Fin _ _ _ _ _ _ _ (T1.setTop (mkF m 51 #[.val (.int p0), .val (.int p1), .val (.int p2), .val (.int p3), .val (.int p4), .val (.int (p0 &&& (3 : Int32))), .val (.int ((1 : Int32) + ((p1 &&& (2147483647 : Int32)) % (3 : Int32)))), .val (.int (p2 % (1024 : Int32))), .val (.int (p3 % (1024 : Int32))), .val (.int (p4 % (1024 : Int32))), .val (.ref g2), .unset, .unset, .unset, .unset, .unset] [(.int (1 : Int32))]))
          refine own_newD X1 hx hZ (hw _ (List.mem_of_getElem? (i := 8) rfl)) e1 (hb hby at_51) (by decide) (cap := 1) (by decide) (by decide) (by decide) (by decide) ?_
          intro T74 h74 b74 g74 X74 e74 E74 A74 D74
          have g_b74 : n0 ≤ b74 := Nat.le_trans Z0 (Nat.le_of_eq g74.symm)
          have f75 := O0.ext E74
          have Z74 := Nat.le_trans Z0 E74.1
          have A74 : own_Ar Z h74 b74 .double (List.map Value.double [(0 : UInt64)]) := A74
          show own_Fin _ _ _ _ _ _ _ (T74.setTop (mkF m 53 #[.val (.int p0), .val (.int p1), .val (.int p2), .val (.int p3), .val (.int p4), .val (.int (p0 &&& (3 : Int32))), .val (.int ((1 : Int32) + ((p1 &&& (2147483647 : Int32)) % (3 : Int32)))), .val (.int (p2 % (1024 : Int32))), .val (.int (p3 % (1024 : Int32))), .val (.int (p4 % (1024 : Int32))), .val (.ref g2), .unset, .unset, .unset, .unset, .unset] [(.ref b74)]))
          refine own_go (fun _ kk => XS.dup X74.here hx rfl (hb hby at_53) rfl rfl (XS.iconst X74.here hx rfl (hb hby at_54) (XS.iload X74.here hx rfl (hb hby at_55) rfl (XS.i2dS X74.here hx rfl (hb hby at_57) rfl rfl kk)))) ?_
          show own_Fin _ _ _ _ _ _ _ (T74.setTop (mkF m 58 #[.val (.int p0), .val (.int p1), .val (.int p2), .val (.int p3), .val (.int p4), .val (.int (p0 &&& (3 : Int32))), .val (.int ((1 : Int32) + ((p1 &&& (2147483647 : Int32)) % (3 : Int32)))), .val (.int (p2 % (1024 : Int32))), .val (.int (p3 % (1024 : Int32))), .val (.int (p4 % (1024 : Int32))), .val (.ref g2), .unset, .unset, .unset, .unset, .unset] [(.double (FP.i2d (p2 % (1024 : Int32)))), (.int (0 : Int32)), (.ref b74), (.ref b74)]))
          refine own_stD X74 hx hZ e74 A74 (by decide) (by show (0 : Int32).toNatClampNeg < 1; decide) (hb hby at_58) ?_
          intro T76 h76 X76 e76 W76 A76
          have f77 := f75.wr W76 g_b74
          have f79 := D74.wr W76
          have Z76 := Nat.le_trans Z74 (Keep.of_wr W76).1
          have A76 : own_Ar Z h76 b74 .double (List.map Value.double [(FP.i2d (p2 % (1024 : Int32)))]) := A76
          have N76 := Fr.snoc X76 N1 g_b74
          show own_Fin _ _ _ _ _ _ _ (T76.setTop (mkF m 59 #[.val (.int p0), .val (.int p1), .val (.int p2), .val (.int p3), .val (.int p4), .val (.int (p0 &&& (3 : Int32))), .val (.int ((1 : Int32) + ((p1 &&& (2147483647 : Int32)) % (3 : Int32)))), .val (.int (p2 % (1024 : Int32))), .val (.int (p3 % (1024 : Int32))), .val (.int (p4 % (1024 : Int32))), .val (.ref g2), .unset, .unset, .unset, .unset, .unset] [(.ref b74)]))
          refine own_go (fun _ kk => XS.astore X76.here hx rfl (hb hby at_59) rfl rfl (l' := #[.val (.int p0), .val (.int p1), .val (.int p2), .val (.int p3), .val (.int p4), .val (.int (p0 &&& (3 : Int32))), .val (.int ((1 : Int32) + ((p1 &&& (2147483647 : Int32)) % (3 : Int32)))), .val (.int (p2 % (1024 : Int32))), .val (.int (p3 % (1024 : Int32))), .val (.int (p4 % (1024 : Int32))), .val (.ref g2), .val (.ref b74), .unset, .unset, .unset, .unset]) rfl (XS.goto X76.here hx rfl (pc0 := 61) (pc' := 113) rfl (hb hby at_61) (by decide) (by decide) (XS.aload X76.here hx rfl (hb hby at_113) rfl rfl (XS.aload X76.here hx rfl (hb hby at_115) rfl rfl kk)))) ?_
          show own_Fin _ _ _ _ _ _ _ (T76.setTop (mkF m 117 #[.val (.int p0), .val (.int p1), .val (.int p2), .val (.int p3), .val (.int p4), .val (.int (p0 &&& (3 : Int32))), .val (.int ((1 : Int32) + ((p1 &&& (2147483647 : Int32)) % (3 : Int32)))), .val (.int (p2 % (1024 : Int32))), .val (.int (p3 % (1024 : Int32))), .val (.int (p4 % (1024 : Int32))), .val (.ref g2), .val (.ref b74), .unset, .unset, .unset, .unset] [(.ref b74), (.ref g2)]))
          refine own_callV X76 hx hZ hown (hw _ (List.mem_of_getElem? (i := 9) rfl)) (hw _ (List.mem_of_getElem? (i := 10) rfl)) (notFace_of_selects (args := #[]) (mvT hZ (hw _ (List.mem_of_getElem? (i := 12) rfl)))) (hw _ (List.mem_of_getElem? (i := 12) rfl)) (hw _ (List.mem_of_getElem? (i := 11) rfl)) (hw _ (List.mem_of_getElem? (i := 13) rfl)) (hw _ (List.mem_of_getElem? (i := 6) rfl)) (by decide) (rm2k2n1 l Z a0 hw g2 b74 h76 n0 Z76 (E2.ext f77.2) (F2.ext f77.2) (FP.i2d (p2 % (1024 : Int32))) A76) e76 (E2.ext f77.2) (argsL := [(.ref b74)]) (rest := []) rfl rfl (by rw [hml]; rfl) (lenOf pd_0_1 rfl) (hb hby at_117) (W := 0) (Nat.le_of_eq rfl) (by decide) (by decide) (by decide) (by decide) ?_
          rintro v80 T80 L80 X80 ⟨rfl, M80, e80⟩
          have N80 := Fr.app N76 M80
          show own_Fin _ _ _ _ _ _ _ (T80.setTop (mkF m 120 #[.val (.int p0), .val (.int p1), .val (.int p2), .val (.int p3), .val (.int p4), .val (.int (p0 &&& (3 : Int32))), .val (.int ((1 : Int32) + ((p1 &&& (2147483647 : Int32)) % (3 : Int32)))), .val (.int (p2 % (1024 : Int32))), .val (.int (p3 % (1024 : Int32))), .val (.int (p4 % (1024 : Int32))), .val (.ref g2), .val (.ref b74), .unset, .unset, .unset, .unset] [(.double (FP.i2d (p2 % (1024 : Int32))))]))
          refine own_go (fun _ kk => XS.dstore X80.here hx rfl (hb hby at_120) rfl (l' := #[.val (.int p0), .val (.int p1), .val (.int p2), .val (.int p3), .val (.int p4), .val (.int (p0 &&& (3 : Int32))), .val (.int ((1 : Int32) + ((p1 &&& (2147483647 : Int32)) % (3 : Int32)))), .val (.int (p2 % (1024 : Int32))), .val (.int (p3 % (1024 : Int32))), .val (.int (p4 % (1024 : Int32))), .val (.ref g2), .val (.ref b74), .val (.double (FP.i2d (p2 % (1024 : Int32)))), .second, .unset, .unset]) rfl (XS.iload X80.here hx rfl (hb hby at_122) rfl (XS.iload X80.here hx rfl (hb hby at_124) rfl (XS.iload X80.here hx rfl (hb hby at_126) rfl (XS.i2l X80.here hx rfl (hb hby at_128) rfl (XS.iload X80.here hx rfl (hb hby at_129) rfl (XS.i2l X80.here hx rfl (hb hby at_131) rfl (XS.iload X80.here hx rfl (hb hby at_132) rfl (XS.i2l X80.here hx rfl (hb hby at_134) rfl kk))))))))) ?_
          show own_Fin _ _ _ _ _ _ _ (T80.setTop (mkF m 135 #[.val (.int p0), .val (.int p1), .val (.int p2), .val (.int p3), .val (.int p4), .val (.int (p0 &&& (3 : Int32))), .val (.int ((1 : Int32) + ((p1 &&& (2147483647 : Int32)) % (3 : Int32)))), .val (.int (p2 % (1024 : Int32))), .val (.int (p3 % (1024 : Int32))), .val (.int (p4 % (1024 : Int32))), .val (.ref g2), .val (.ref b74), .val (.double (FP.i2d (p2 % (1024 : Int32)))), .second, .unset, .unset] [(.long (Int32.toInt64 (p4 % (1024 : Int32)))), (.long (Int32.toInt64 (p3 % (1024 : Int32)))), (.long (Int32.toInt64 (p2 % (1024 : Int32)))), (.int ((1 : Int32) + ((p1 &&& (2147483647 : Int32)) % (3 : Int32)))), (.int (p0 &&& (3 : Int32)))]))
          refine own_callS X80 hx hZ hown (hw _ (List.mem_of_getElem? (i := 14) rfl)) (hw _ (List.mem_of_getElem? (i := 15) rfl)) (hw _ (List.mem_of_getElem? (i := 3) rfl)) (hw _ (List.mem_of_getElem? (i := 16) rfl)) (by decide) (rm3 l Z a0 hw (p0 &&& (3 : Int32)) ((1 : Int32) + ((p1 &&& (2147483647 : Int32)) % (3 : Int32))) (Int32.toInt64 (p2 % (1024 : Int32))) (Int32.toInt64 (p3 % (1024 : Int32))) (Int32.toInt64 (p4 % (1024 : Int32))) h76 n0 Z76) e80 (argsL := [(.int (p0 &&& (3 : Int32))), (.int ((1 : Int32) + ((p1 &&& (2147483647 : Int32)) % (3 : Int32)))), (.long (Int32.toInt64 (p2 % (1024 : Int32)))), (.long (Int32.toInt64 (p3 % (1024 : Int32)))), (.long (Int32.toInt64 (p4 % (1024 : Int32))))]) (rest := []) rfl rfl (by rw [hml]; rfl) (lenOf pd_0_2 rfl) (hb hby at_135) (W := 0) (Nat.le_of_eq rfl) (by decide) (by decide) (by decide) (by decide) ?_
          rintro v81 T81 L81 X81 ⟨rfl, M81, e81⟩
          have N81 := Fr.app N80 M81
          show own_Fin _ _ _ _ _ _ _ (T81.setTop (mkF m 138 #[.val (.int p0), .val (.int p1), .val (.int p2), .val (.int p3), .val (.int p4), .val (.int (p0 &&& (3 : Int32))), .val (.int ((1 : Int32) + ((p1 &&& (2147483647 : Int32)) % (3 : Int32)))), .val (.int (p2 % (1024 : Int32))), .val (.int (p3 % (1024 : Int32))), .val (.int (p4 % (1024 : Int32))), .val (.ref g2), .val (.ref b74), .val (.double (FP.i2d (p2 % (1024 : Int32)))), .second, .unset, .unset] [(.long (own_f3 (p0 &&& (3 : Int32)) ((1 : Int32) + ((p1 &&& (2147483647 : Int32)) % (3 : Int32))) (Int32.toInt64 (p2 % (1024 : Int32))) (Int32.toInt64 (p3 % (1024 : Int32))) (Int32.toInt64 (p4 % (1024 : Int32)))))]))
          refine own_go (fun _ kk => XS.lstore X81.here hx rfl (hb hby at_138) rfl (l' := #[.val (.int p0), .val (.int p1), .val (.int p2), .val (.int p3), .val (.int p4), .val (.int (p0 &&& (3 : Int32))), .val (.int ((1 : Int32) + ((p1 &&& (2147483647 : Int32)) % (3 : Int32)))), .val (.int (p2 % (1024 : Int32))), .val (.int (p3 % (1024 : Int32))), .val (.int (p4 % (1024 : Int32))), .val (.ref g2), .val (.ref b74), .val (.double (FP.i2d (p2 % (1024 : Int32)))), .second, .val (.long (own_f3 (p0 &&& (3 : Int32)) ((1 : Int32) + ((p1 &&& (2147483647 : Int32)) % (3 : Int32))) (Int32.toInt64 (p2 % (1024 : Int32))) (Int32.toInt64 (p3 % (1024 : Int32))) (Int32.toInt64 (p4 % (1024 : Int32))))), .second]) rfl (XS.dload X81.here hx rfl (hb hby at_140) rfl (XS.lload X81.here hx rfl (hb hby at_142) rfl (XS.l2dS X81.here hx rfl (hb hby at_144) rfl rfl (XS.dcmpS X81.here hx rfl (hb hby at_145) rfl rfl kk))))) ?_
          show own_Fin _ _ _ _ _ _ _ (T81.setTop (mkF m 146 #[.val (.int p0), .val (.int p1), .val (.int p2), .val (.int p3), .val (.int p4), .val (.int (p0 &&& (3 : Int32))), .val (.int ((1 : Int32) + ((p1 &&& (2147483647 : Int32)) % (3 : Int32)))), .val (.int (p2 % (1024 : Int32))), .val (.int (p3 % (1024 : Int32))), .val (.int (p4 % (1024 : Int32))), .val (.ref g2), .val (.ref b74), .val (.double (FP.i2d (p2 % (1024 : Int32)))), .second, .val (.long (own_f3 (p0 &&& (3 : Int32)) ((1 : Int32) + ((p1 &&& (2147483647 : Int32)) % (3 : Int32))) (Int32.toInt64 (p2 % (1024 : Int32))) (Int32.toInt64 (p3 % (1024 : Int32))) (Int32.toInt64 (p4 % (1024 : Int32))))), .second] [(.int (cmpValue (FP.dcmp (FP.i2d (p2 % (1024 : Int32))) (FP.l2d (own_f3 (p0 &&& (3 : Int32)) ((1 : Int32) + ((p1 &&& (2147483647 : Int32)) % (3 : Int32))) (Int32.toInt64 (p2 % (1024 : Int32))) (Int32.toInt64 (p3 % (1024 : Int32))) (Int32.toInt64 (p4 % (1024 : Int32)))))) .l))]))
          by_cases hc146 : (cmpValue (FP.dcmp (FP.i2d (p2 % (1024 : Int32))) (FP.l2d (own_f3 (p0 &&& (3 : Int32)) ((1 : Int32) + ((p1 &&& (2147483647 : Int32)) % (3 : Int32))) (Int32.toInt64 (p2 % (1024 : Int32))) (Int32.toInt64 (p3 % (1024 : Int32))) (Int32.toInt64 (p4 % (1024 : Int32)))))) .l) = 0
          · refine own_go (fun _ kk => XS.ifNo X81.here hx rfl (hb hby at_146) rfl (XT.i0_ne_f hc146) (XS.iconst X81.here hx rfl (hb hby at_149) (XS.goto X81.here hx rfl (pc0 := 150) (pc' := 154) rfl (hb hby at_150) (by decide) (by decide) kk))) ?_
            show own_Fin _ _ _ _ _ _ _ (T81.setTop (mkF m 154 #[.val (.int p0), .val (.int p1), .val (.int p2), .val (.int p3), .val (.int p4), .val (.int (p0 &&& (3 : Int32))), .val (.int ((1 : Int32) + ((p1 &&& (2147483647 : Int32)) % (3 : Int32)))), .val (.int (p2 % (1024 : Int32))), .val (.int (p3 % (1024 : Int32))), .val (.int (p4 % (1024 : Int32))), .val (.ref g2), .val (.ref b74), .val (.double (FP.i2d (p2 % (1024 : Int32)))), .second, .val (.long (own_f3 (p0 &&& (3 : Int32)) ((1 : Int32) + ((p1 &&& (2147483647 : Int32)) % (3 : Int32))) (Int32.toInt64 (p2 % (1024 : Int32))) (Int32.toInt64 (p3 % (1024 : Int32))) (Int32.toInt64 (p4 % (1024 : Int32))))), .second] [(.int (1 : Int32))]))
            exact own_retZ X81 hx hlk hret rfl (hb hby at_154) (by decide) (by decide) ⟨(by rw [own_f0, if_neg hk0, if_neg hk1, if_pos hk2, if_pos hc47, if_pos hc146]), N81⟩
          · refine own_go (fun _ kk => XS.ifYes X81.here hx rfl (pc0 := 146) (pc' := 153) rfl (hb hby at_146) rfl (XT.i0_ne_t hc146) (by decide) (by decide) (XS.iconst X81.here hx rfl (hb hby at_153) kk)) ?_
            show own_Fin _ _ _ _ _ _ _ (T81.setTop (mkF m 154 #[.val (.int p0), .val (.int p1), .val (.int p2), .val (.int p3), .val (.int p4), .val (.int (p0 &&& (3 : Int32))), .val (.int ((1 : Int32) + ((p1 &&& (2147483647 : Int32)) % (3 : Int32)))), .val (.int (p2 % (1024 : Int32))), .val (.int (p3 % (1024 : Int32))), .val (.int (p4 % (1024 : Int32))), .val (.ref g2), .val (.ref b74), .val (.double (FP.i2d (p2 % (1024 : Int32)))), .second, .val (.long (own_f3 (p0 &&& (3 : Int32)) ((1 : Int32) + ((p1 &&& (2147483647 : Int32)) % (3 : Int32))) (Int32.toInt64 (p2 % (1024 : Int32))) (Int32.toInt64 (p3 % (1024 : Int32))) (Int32.toInt64 (p4 % (1024 : Int32))))), .second] [(.int (0 : Int32))]))
            exact own_retZ X81 hx hlk hret rfl (hb hby at_154) (by decide) (by decide) ⟨(by rw [own_f0, if_neg hk0, if_neg hk1, if_pos hk2, if_pos hc47, if_neg hc146]), N81⟩
        · refine own_go (fun _ kk => XS.icmpYes X1.here hx rfl (pc0 := 47) (pc' := 64) rfl (hb hby at_47) rfl (XT.ii_ne_t hc47) (by decide) (by decide) (XS.iload X1.here hx rfl (hb hby at_64) rfl (XS.iconst X1.here hx rfl (hb hby at_66) kk))) ?_
          show own_Fin _ _ _ _ _ _ _ (T1.setTop (mkF m 67 #[.val (.int p0), .val (.int p1), .val (.int p2), .val (.int p3), .val (.int p4), .val (.int (p0 &&& (3 : Int32))), .val (.int ((1 : Int32) + ((p1 &&& (2147483647 : Int32)) % (3 : Int32)))), .val (.int (p2 % (1024 : Int32))), .val (.int (p3 % (1024 : Int32))), .val (.int (p4 % (1024 : Int32))), .val (.ref g2), .unset, .unset, .unset, .unset, .unset] [(.int (2 : Int32)), (.int ((1 : Int32) + ((p1 &&& (2147483647 : Int32)) % (3 : Int32))))]))
          by_cases hc67 : ((1 : Int32) + ((p1 &&& (2147483647 : Int32)) % (3 : Int32))) = (2 : Int32)
          · refine own_go (fun _ kk => XS.icmpNo X1.here hx rfl (hb hby at_67) rfl (XT.ii_ne_f hc67) (XS.iconst X1.here hx rfl (hb hby at_70) kk)) ?_
            show own_Fin _ _ _ _ _ _ _ (T1.setTop (mkF m 71 #[.val (.int p0), .val (.int p1), .val (.int p2), .val (.int p3), .val (.int p4), .val (.int (p0 &&& (3 : Int32))), .val (.int ((1 : Int32) + ((p1 &&& (2147483647 : Int32)) % (3 : Int32)))), .val (.int (p2 % (1024 : Int32))), .val (.int (p3 % (1024 : Int32))), .val (.int (p4 % (1024 : Int32))), .val (.ref g2), .unset, .unset, .unset, .unset, .unset] [(.int (2 : Int32))]))
            refine own_newD X1 hx hZ (hw _ (List.mem_of_getElem? (i := 8) rfl)) e1 (hb hby at_71) (by decide) (cap := 2) (by decide) (by decide) (by decide) (by decide) ?_
            intro T82 h82 b82 g82 X82 e82 E82 A82 D82
            have g_b82 : n0 ≤ b82 := Nat.le_trans Z0 (Nat.le_of_eq g82.symm)
            have f83 := O0.ext E82
            have Z82 := Nat.le_trans Z0 E82.1
            have A82 : own_Ar Z h82 b82 .double (List.map Value.double [(0 : UInt64), (0 : UInt64)]) := A82
            show own_Fin _ _ _ _ _ _ _ (T82.setTop (mkF m 73 #[.val (.int p0), .val (.int p1), .val (.int p2), .val (.int p3), .val (.int p4), .val (.int (p0 &&& (3 : Int32))), .val (.int ((1 : Int32) + ((p1 &&& (2147483647 : Int32)) % (3 : Int32)))), .val (.int (p2 % (1024 : Int32))), .val (.int (p3 % (1024 : Int32))), .val (.int (p4 % (1024 : Int32))), .val (.ref g2), .unset, .unset, .unset, .unset, .unset] [(.ref b82)]))
            refine own_go (fun _ kk => XS.dup X82.here hx rfl (hb hby at_73) rfl rfl (XS.iconst X82.here hx rfl (hb hby at_74) (XS.iload X82.here hx rfl (hb hby at_75) rfl (XS.i2dS X82.here hx rfl (hb hby at_77) rfl rfl kk)))) ?_
            show own_Fin _ _ _ _ _ _ _ (T82.setTop (mkF m 78 #[.val (.int p0), .val (.int p1), .val (.int p2), .val (.int p3), .val (.int p4), .val (.int (p0 &&& (3 : Int32))), .val (.int ((1 : Int32) + ((p1 &&& (2147483647 : Int32)) % (3 : Int32)))), .val (.int (p2 % (1024 : Int32))), .val (.int (p3 % (1024 : Int32))), .val (.int (p4 % (1024 : Int32))), .val (.ref g2), .unset, .unset, .unset, .unset, .unset] [(.double (FP.i2d (p2 % (1024 : Int32)))), (.int (0 : Int32)), (.ref b82), (.ref b82)]))
            refine own_stD X82 hx hZ e82 A82 (by decide) (by show (0 : Int32).toNatClampNeg < 2; decide) (hb hby at_78) ?_
            intro T84 h84 X84 e84 W84 A84
            have f85 := f83.wr W84 g_b82
            have f87 := D82.wr W84
            have Z84 := Nat.le_trans Z82 (Keep.of_wr W84).1
            have A84 : own_Ar Z h84 b82 .double (List.map Value.double [(FP.i2d (p2 % (1024 : Int32))), (0 : UInt64)]) := A84
            have N84 := Fr.snoc X84 N1 g_b82
            show own_Fin _ _ _ _ _ _ _ (T84.setTop (mkF m 79 #[.val (.int p0), .val (.int p1), .val (.int p2), .val (.int p3), .val (.int p4), .val (.int (p0 &&& (3 : Int32))), .val (.int ((1 : Int32) + ((p1 &&& (2147483647 : Int32)) % (3 : Int32)))), .val (.int (p2 % (1024 : Int32))), .val (.int (p3 % (1024 : Int32))), .val (.int (p4 % (1024 : Int32))), .val (.ref g2), .unset, .unset, .unset, .unset, .unset] [(.ref b82)]))
            refine own_go (fun _ kk => XS.dup X84.here hx rfl (hb hby at_79) rfl rfl (XS.iconst X84.here hx rfl (hb hby at_80) (XS.iload X84.here hx rfl (hb hby at_81) rfl (XS.i2dS X84.here hx rfl (hb hby at_83) rfl rfl kk)))) ?_
            show own_Fin _ _ _ _ _ _ _ (T84.setTop (mkF m 84 #[.val (.int p0), .val (.int p1), .val (.int p2), .val (.int p3), .val (.int p4), .val (.int (p0 &&& (3 : Int32))), .val (.int ((1 : Int32) + ((p1 &&& (2147483647 : Int32)) % (3 : Int32)))), .val (.int (p2 % (1024 : Int32))), .val (.int (p3 % (1024 : Int32))), .val (.int (p4 % (1024 : Int32))), .val (.ref g2), .unset, .unset, .unset, .unset, .unset] [(.double (FP.i2d (p3 % (1024 : Int32)))), (.int (1 : Int32)), (.ref b82), (.ref b82)]))
            refine own_stD X84 hx hZ e84 A84 (by decide) (by show (1 : Int32).toNatClampNeg < 2; decide) (hb hby at_84) ?_
            intro T88 h88 X88 e88 W88 A88
            have f89 := f85.wr W88 g_b82
            have f91 := f87.wr W88
            have Z88 := Nat.le_trans Z84 (Keep.of_wr W88).1
            have A88 : own_Ar Z h88 b82 .double (List.map Value.double [(FP.i2d (p2 % (1024 : Int32))), (FP.i2d (p3 % (1024 : Int32)))]) := A88
            have N88 := Fr.snoc X88 N84 g_b82
            show own_Fin _ _ _ _ _ _ _ (T88.setTop (mkF m 85 #[.val (.int p0), .val (.int p1), .val (.int p2), .val (.int p3), .val (.int p4), .val (.int (p0 &&& (3 : Int32))), .val (.int ((1 : Int32) + ((p1 &&& (2147483647 : Int32)) % (3 : Int32)))), .val (.int (p2 % (1024 : Int32))), .val (.int (p3 % (1024 : Int32))), .val (.int (p4 % (1024 : Int32))), .val (.ref g2), .unset, .unset, .unset, .unset, .unset] [(.ref b82)]))
            refine own_go (fun _ kk => XS.astore X88.here hx rfl (hb hby at_85) rfl rfl (l' := #[.val (.int p0), .val (.int p1), .val (.int p2), .val (.int p3), .val (.int p4), .val (.int (p0 &&& (3 : Int32))), .val (.int ((1 : Int32) + ((p1 &&& (2147483647 : Int32)) % (3 : Int32)))), .val (.int (p2 % (1024 : Int32))), .val (.int (p3 % (1024 : Int32))), .val (.int (p4 % (1024 : Int32))), .val (.ref g2), .val (.ref b82), .unset, .unset, .unset, .unset]) rfl (XS.goto X88.here hx rfl (pc0 := 87) (pc' := 113) rfl (hb hby at_87) (by decide) (by decide) (XS.aload X88.here hx rfl (hb hby at_113) rfl rfl (XS.aload X88.here hx rfl (hb hby at_115) rfl rfl kk)))) ?_
            show own_Fin _ _ _ _ _ _ _ (T88.setTop (mkF m 117 #[.val (.int p0), .val (.int p1), .val (.int p2), .val (.int p3), .val (.int p4), .val (.int (p0 &&& (3 : Int32))), .val (.int ((1 : Int32) + ((p1 &&& (2147483647 : Int32)) % (3 : Int32)))), .val (.int (p2 % (1024 : Int32))), .val (.int (p3 % (1024 : Int32))), .val (.int (p4 % (1024 : Int32))), .val (.ref g2), .val (.ref b82), .unset, .unset, .unset, .unset] [(.ref b82), (.ref g2)]))
            refine own_callV X88 hx hZ hown (hw _ (List.mem_of_getElem? (i := 9) rfl)) (hw _ (List.mem_of_getElem? (i := 10) rfl)) (notFace_of_selects (args := #[]) (mvT hZ (hw _ (List.mem_of_getElem? (i := 12) rfl)))) (hw _ (List.mem_of_getElem? (i := 12) rfl)) (hw _ (List.mem_of_getElem? (i := 11) rfl)) (hw _ (List.mem_of_getElem? (i := 13) rfl)) (hw _ (List.mem_of_getElem? (i := 6) rfl)) (by decide) (rm2k2n2 l Z a0 hw g2 b82 h88 n0 Z88 (E2.ext f89.2) (F2.ext f89.2) (FP.i2d (p2 % (1024 : Int32))) (FP.i2d (p3 % (1024 : Int32))) A88 (own_noNaN (own_d1 _)) (own_noNaN (own_d1 _))) e88 (E2.ext f89.2) (argsL := [(.ref b82)]) (rest := []) rfl rfl (by rw [hml]; rfl) (lenOf pd_0_1 rfl) (hb hby at_117) (W := 0) (Nat.le_of_eq rfl) (by decide) (by decide) (by decide) (by decide) ?_
            rintro v92 T92 L92 X92 ⟨rfl, M92, e92⟩
            have N92 := Fr.app N88 M92
            show own_Fin _ _ _ _ _ _ _ (T92.setTop (mkF m 120 #[.val (.int p0), .val (.int p1), .val (.int p2), .val (.int p3), .val (.int p4), .val (.int (p0 &&& (3 : Int32))), .val (.int ((1 : Int32) + ((p1 &&& (2147483647 : Int32)) % (3 : Int32)))), .val (.int (p2 % (1024 : Int32))), .val (.int (p3 % (1024 : Int32))), .val (.int (p4 % (1024 : Int32))), .val (.ref g2), .val (.ref b82), .unset, .unset, .unset, .unset] [(.double (Native.java_lang_Math.nans.pick64 false (FP.i2d (p2 % (1024 : Int32))) (FP.i2d (p3 % (1024 : Int32)))))]))
            refine own_go (fun _ kk => XS.dstore X92.here hx rfl (hb hby at_120) rfl (l' := #[.val (.int p0), .val (.int p1), .val (.int p2), .val (.int p3), .val (.int p4), .val (.int (p0 &&& (3 : Int32))), .val (.int ((1 : Int32) + ((p1 &&& (2147483647 : Int32)) % (3 : Int32)))), .val (.int (p2 % (1024 : Int32))), .val (.int (p3 % (1024 : Int32))), .val (.int (p4 % (1024 : Int32))), .val (.ref g2), .val (.ref b82), .val (.double (Native.java_lang_Math.nans.pick64 false (FP.i2d (p2 % (1024 : Int32))) (FP.i2d (p3 % (1024 : Int32))))), .second, .unset, .unset]) rfl (XS.iload X92.here hx rfl (hb hby at_122) rfl (XS.iload X92.here hx rfl (hb hby at_124) rfl (XS.iload X92.here hx rfl (hb hby at_126) rfl (XS.i2l X92.here hx rfl (hb hby at_128) rfl (XS.iload X92.here hx rfl (hb hby at_129) rfl (XS.i2l X92.here hx rfl (hb hby at_131) rfl (XS.iload X92.here hx rfl (hb hby at_132) rfl (XS.i2l X92.here hx rfl (hb hby at_134) rfl kk))))))))) ?_
            show own_Fin _ _ _ _ _ _ _ (T92.setTop (mkF m 135 #[.val (.int p0), .val (.int p1), .val (.int p2), .val (.int p3), .val (.int p4), .val (.int (p0 &&& (3 : Int32))), .val (.int ((1 : Int32) + ((p1 &&& (2147483647 : Int32)) % (3 : Int32)))), .val (.int (p2 % (1024 : Int32))), .val (.int (p3 % (1024 : Int32))), .val (.int (p4 % (1024 : Int32))), .val (.ref g2), .val (.ref b82), .val (.double (Native.java_lang_Math.nans.pick64 false (FP.i2d (p2 % (1024 : Int32))) (FP.i2d (p3 % (1024 : Int32))))), .second, .unset, .unset] [(.long (Int32.toInt64 (p4 % (1024 : Int32)))), (.long (Int32.toInt64 (p3 % (1024 : Int32)))), (.long (Int32.toInt64 (p2 % (1024 : Int32)))), (.int ((1 : Int32) + ((p1 &&& (2147483647 : Int32)) % (3 : Int32)))), (.int (p0 &&& (3 : Int32)))]))
            refine own_callS X92 hx hZ hown (hw _ (List.mem_of_getElem? (i := 14) rfl)) (hw _ (List.mem_of_getElem? (i := 15) rfl)) (hw _ (List.mem_of_getElem? (i := 3) rfl)) (hw _ (List.mem_of_getElem? (i := 16) rfl)) (by decide) (rm3 l Z a0 hw (p0 &&& (3 : Int32)) ((1 : Int32) + ((p1 &&& (2147483647 : Int32)) % (3 : Int32))) (Int32.toInt64 (p2 % (1024 : Int32))) (Int32.toInt64 (p3 % (1024 : Int32))) (Int32.toInt64 (p4 % (1024 : Int32))) h88 n0 Z88) e92 (argsL := [(.int (p0 &&& (3 : Int32))), (.int ((1 : Int32) + ((p1 &&& (2147483647 : Int32)) % (3 : Int32)))), (.long (Int32.toInt64 (p2 % (1024 : Int32)))), (.long (Int32.toInt64 (p3 % (1024 : Int32)))), (.long (Int32.toInt64 (p4 % (1024 : Int32))))]) (rest := []) rfl rfl (by rw [hml]; rfl) (lenOf pd_0_2 rfl) (hb hby at_135) (W := 0) (Nat.le_of_eq rfl) (by decide) (by decide) (by decide) (by decide) ?_
            rintro v93 T93 L93 X93 ⟨rfl, M93, e93⟩
            have N93 := Fr.app N92 M93
            show own_Fin _ _ _ _ _ _ _ (T93.setTop (mkF m 138 #[.val (.int p0), .val (.int p1), .val (.int p2), .val (.int p3), .val (.int p4), .val (.int (p0 &&& (3 : Int32))), .val (.int ((1 : Int32) + ((p1 &&& (2147483647 : Int32)) % (3 : Int32)))), .val (.int (p2 % (1024 : Int32))), .val (.int (p3 % (1024 : Int32))), .val (.int (p4 % (1024 : Int32))), .val (.ref g2), .val (.ref b82), .val (.double (Native.java_lang_Math.nans.pick64 false (FP.i2d (p2 % (1024 : Int32))) (FP.i2d (p3 % (1024 : Int32))))), .second, .unset, .unset] [(.long (own_f3 (p0 &&& (3 : Int32)) ((1 : Int32) + ((p1 &&& (2147483647 : Int32)) % (3 : Int32))) (Int32.toInt64 (p2 % (1024 : Int32))) (Int32.toInt64 (p3 % (1024 : Int32))) (Int32.toInt64 (p4 % (1024 : Int32)))))]))
            refine own_go (fun _ kk => XS.lstore X93.here hx rfl (hb hby at_138) rfl (l' := #[.val (.int p0), .val (.int p1), .val (.int p2), .val (.int p3), .val (.int p4), .val (.int (p0 &&& (3 : Int32))), .val (.int ((1 : Int32) + ((p1 &&& (2147483647 : Int32)) % (3 : Int32)))), .val (.int (p2 % (1024 : Int32))), .val (.int (p3 % (1024 : Int32))), .val (.int (p4 % (1024 : Int32))), .val (.ref g2), .val (.ref b82), .val (.double (Native.java_lang_Math.nans.pick64 false (FP.i2d (p2 % (1024 : Int32))) (FP.i2d (p3 % (1024 : Int32))))), .second, .val (.long (own_f3 (p0 &&& (3 : Int32)) ((1 : Int32) + ((p1 &&& (2147483647 : Int32)) % (3 : Int32))) (Int32.toInt64 (p2 % (1024 : Int32))) (Int32.toInt64 (p3 % (1024 : Int32))) (Int32.toInt64 (p4 % (1024 : Int32))))), .second]) rfl (XS.dload X93.here hx rfl (hb hby at_140) rfl (XS.lload X93.here hx rfl (hb hby at_142) rfl (XS.l2dS X93.here hx rfl (hb hby at_144) rfl rfl (XS.dcmpS X93.here hx rfl (hb hby at_145) rfl rfl kk))))) ?_
            show own_Fin _ _ _ _ _ _ _ (T93.setTop (mkF m 146 #[.val (.int p0), .val (.int p1), .val (.int p2), .val (.int p3), .val (.int p4), .val (.int (p0 &&& (3 : Int32))), .val (.int ((1 : Int32) + ((p1 &&& (2147483647 : Int32)) % (3 : Int32)))), .val (.int (p2 % (1024 : Int32))), .val (.int (p3 % (1024 : Int32))), .val (.int (p4 % (1024 : Int32))), .val (.ref g2), .val (.ref b82), .val (.double (Native.java_lang_Math.nans.pick64 false (FP.i2d (p2 % (1024 : Int32))) (FP.i2d (p3 % (1024 : Int32))))), .second, .val (.long (own_f3 (p0 &&& (3 : Int32)) ((1 : Int32) + ((p1 &&& (2147483647 : Int32)) % (3 : Int32))) (Int32.toInt64 (p2 % (1024 : Int32))) (Int32.toInt64 (p3 % (1024 : Int32))) (Int32.toInt64 (p4 % (1024 : Int32))))), .second] [(.int (cmpValue (FP.dcmp (Native.java_lang_Math.nans.pick64 false (FP.i2d (p2 % (1024 : Int32))) (FP.i2d (p3 % (1024 : Int32)))) (FP.l2d (own_f3 (p0 &&& (3 : Int32)) ((1 : Int32) + ((p1 &&& (2147483647 : Int32)) % (3 : Int32))) (Int32.toInt64 (p2 % (1024 : Int32))) (Int32.toInt64 (p3 % (1024 : Int32))) (Int32.toInt64 (p4 % (1024 : Int32)))))) .l))]))
            by_cases hc146 : (cmpValue (FP.dcmp (Native.java_lang_Math.nans.pick64 false (FP.i2d (p2 % (1024 : Int32))) (FP.i2d (p3 % (1024 : Int32)))) (FP.l2d (own_f3 (p0 &&& (3 : Int32)) ((1 : Int32) + ((p1 &&& (2147483647 : Int32)) % (3 : Int32))) (Int32.toInt64 (p2 % (1024 : Int32))) (Int32.toInt64 (p3 % (1024 : Int32))) (Int32.toInt64 (p4 % (1024 : Int32)))))) .l) = 0
            · refine own_go (fun _ kk => XS.ifNo X93.here hx rfl (hb hby at_146) rfl (XT.i0_ne_f hc146) (XS.iconst X93.here hx rfl (hb hby at_149) (XS.goto X93.here hx rfl (pc0 := 150) (pc' := 154) rfl (hb hby at_150) (by decide) (by decide) kk))) ?_
              show own_Fin _ _ _ _ _ _ _ (T93.setTop (mkF m 154 #[.val (.int p0), .val (.int p1), .val (.int p2), .val (.int p3), .val (.int p4), .val (.int (p0 &&& (3 : Int32))), .val (.int ((1 : Int32) + ((p1 &&& (2147483647 : Int32)) % (3 : Int32)))), .val (.int (p2 % (1024 : Int32))), .val (.int (p3 % (1024 : Int32))), .val (.int (p4 % (1024 : Int32))), .val (.ref g2), .val (.ref b82), .val (.double (Native.java_lang_Math.nans.pick64 false (FP.i2d (p2 % (1024 : Int32))) (FP.i2d (p3 % (1024 : Int32))))), .second, .val (.long (own_f3 (p0 &&& (3 : Int32)) ((1 : Int32) + ((p1 &&& (2147483647 : Int32)) % (3 : Int32))) (Int32.toInt64 (p2 % (1024 : Int32))) (Int32.toInt64 (p3 % (1024 : Int32))) (Int32.toInt64 (p4 % (1024 : Int32))))), .second] [(.int (1 : Int32))]))
              exact own_retZ X93 hx hlk hret rfl (hb hby at_154) (by decide) (by decide) ⟨(by rw [own_f0, if_neg hk0, if_neg hk1, if_pos hk2, if_neg hc47, if_pos hc67, if_pos hc146]), N93⟩
            · refine own_go (fun _ kk => XS.ifYes X93.here hx rfl (pc0 := 146) (pc' := 153) rfl (hb hby at_146) rfl (XT.i0_ne_t hc146) (by decide) (by decide) (XS.iconst X93.here hx rfl (hb hby at_153) kk)) ?_
              show own_Fin _ _ _ _ _ _ _ (T93.setTop (mkF m 154 #[.val (.int p0), .val (.int p1), .val (.int p2), .val (.int p3), .val (.int p4), .val (.int (p0 &&& (3 : Int32))), .val (.int ((1 : Int32) + ((p1 &&& (2147483647 : Int32)) % (3 : Int32)))), .val (.int (p2 % (1024 : Int32))), .val (.int (p3 % (1024 : Int32))), .val (.int (p4 % (1024 : Int32))), .val (.ref g2), .val (.ref b82), .val (.double (Native.java_lang_Math.nans.pick64 false (FP.i2d (p2 % (1024 : Int32))) (FP.i2d (p3 % (1024 : Int32))))), .second, .val (.long (own_f3 (p0 &&& (3 : Int32)) ((1 : Int32) + ((p1 &&& (2147483647 : Int32)) % (3 : Int32))) (Int32.toInt64 (p2 % (1024 : Int32))) (Int32.toInt64 (p3 % (1024 : Int32))) (Int32.toInt64 (p4 % (1024 : Int32))))), .second] [(.int (0 : Int32))]))
              exact own_retZ X93 hx hlk hret rfl (hb hby at_154) (by decide) (by decide) ⟨(by rw [own_f0, if_neg hk0, if_neg hk1, if_pos hk2, if_neg hc47, if_pos hc67, if_neg hc146]), N93⟩
          · refine own_go (fun _ kk => XS.icmpYes X1.here hx rfl (pc0 := 67) (pc' := 90) rfl (hb hby at_67) rfl (XT.ii_ne_t hc67) (by decide) (by decide) (XS.iconst X1.here hx rfl (hb hby at_90) kk)) ?_
            show own_Fin _ _ _ _ _ _ _ (T1.setTop (mkF m 91 #[.val (.int p0), .val (.int p1), .val (.int p2), .val (.int p3), .val (.int p4), .val (.int (p0 &&& (3 : Int32))), .val (.int ((1 : Int32) + ((p1 &&& (2147483647 : Int32)) % (3 : Int32)))), .val (.int (p2 % (1024 : Int32))), .val (.int (p3 % (1024 : Int32))), .val (.int (p4 % (1024 : Int32))), .val (.ref g2), .unset, .unset, .unset, .unset, .unset] [(.int (3 : Int32))]))
            refine own_newD X1 hx hZ (hw _ (List.mem_of_getElem? (i := 8) rfl)) e1 (hb hby at_91) (by decide) (cap := 3) (by decide) (by decide) (by decide) (by decide) ?_
            intro T94 h94 b94 g94 X94 e94 E94 A94 D94
            have g_b94 : n0 ≤ b94 := Nat.le_trans Z0 (Nat.le_of_eq g94.symm)
            have f95 := O0.ext E94
            have Z94 := Nat.le_trans Z0 E94.1
            have A94 : own_Ar Z h94 b94 .double (List.map Value.double [(0 : UInt64), (0 : UInt64), (0 : UInt64)]) := A94
            show own_Fin _ _ _ _ _ _ _ (T94.setTop (mkF m 93 #[.val (.int p0), .val (.int p1), .val (.int p2), .val (.int p3), .val (.int p4), .val (.int (p0 &&& (3 : Int32))), .val (.int ((1 : Int32) + ((p1 &&& (2147483647 : Int32)) % (3 : Int32)))), .val (.int (p2 % (1024 : Int32))), .val (.int (p3 % (1024 : Int32))), .val (.int (p4 % (1024 : Int32))), .val (.ref g2), .unset, .unset, .unset, .unset, .unset] [(.ref b94)]))
            refine own_go (fun _ kk => XS.dup X94.here hx rfl (hb hby at_93) rfl rfl (XS.iconst X94.here hx rfl (hb hby at_94) (XS.iload X94.here hx rfl (hb hby at_95) rfl (XS.i2dS X94.here hx rfl (hb hby at_97) rfl rfl kk)))) ?_
            show own_Fin _ _ _ _ _ _ _ (T94.setTop (mkF m 98 #[.val (.int p0), .val (.int p1), .val (.int p2), .val (.int p3), .val (.int p4), .val (.int (p0 &&& (3 : Int32))), .val (.int ((1 : Int32) + ((p1 &&& (2147483647 : Int32)) % (3 : Int32)))), .val (.int (p2 % (1024 : Int32))), .val (.int (p3 % (1024 : Int32))), .val (.int (p4 % (1024 : Int32))), .val (.ref g2), .unset, .unset, .unset, .unset, .unset] [(.double (FP.i2d (p2 % (1024 : Int32)))), (.int (0 : Int32)), (.ref b94), (.ref b94)]))
            refine own_stD X94 hx hZ e94 A94 (by decide) (by show (0 : Int32).toNatClampNeg < 3; decide) (hb hby at_98) ?_
            intro T96 h96 X96 e96 W96 A96
            have f97 := f95.wr W96 g_b94
            have f99 := D94.wr W96
            have Z96 := Nat.le_trans Z94 (Keep.of_wr W96).1
            have A96 : own_Ar Z h96 b94 .double (List.map Value.double [(FP.i2d (p2 % (1024 : Int32))), (0 : UInt64), (0 : UInt64)]) := A96
            have N96 := Fr.snoc X96 N1 g_b94
            show own_Fin _ _ _ _ _ _ _ (T96.setTop (mkF m 99 #[.val (.int p0), .val (.int p1), .val (.int p2), .val (.int p3), .val (.int p4), .val (.int (p0 &&& (3 : Int32))), .val (.int ((1 : Int32) + ((p1 &&& (2147483647 : Int32)) % (3 : Int32)))), .val (.int (p2 % (1024 : Int32))), .val (.int (p3 % (1024 : Int32))), .val (.int (p4 % (1024 : Int32))), .val (.ref g2), .unset, .unset, .unset, .unset, .unset] [(.ref b94)]))
            refine own_go (fun _ kk => XS.dup X96.here hx rfl (hb hby at_99) rfl rfl (XS.iconst X96.here hx rfl (hb hby at_100) (XS.iload X96.here hx rfl (hb hby at_101) rfl (XS.i2dS X96.here hx rfl (hb hby at_103) rfl rfl kk)))) ?_
            show own_Fin _ _ _ _ _ _ _ (T96.setTop (mkF m 104 #[.val (.int p0), .val (.int p1), .val (.int p2), .val (.int p3), .val (.int p4), .val (.int (p0 &&& (3 : Int32))), .val (.int ((1 : Int32) + ((p1 &&& (2147483647 : Int32)) % (3 : Int32)))), .val (.int (p2 % (1024 : Int32))), .val (.int (p3 % (1024 : Int32))), .val (.int (p4 % (1024 : Int32))), .val (.ref g2), .unset, .unset, .unset, .unset, .unset] [(.double (FP.i2d (p3 % (1024 : Int32)))), (.int (1 : Int32)), (.ref b94), (.ref b94)]))
            refine own_stD X96 hx hZ e96 A96 (by decide) (by show (1 : Int32).toNatClampNeg < 3; decide) (hb hby at_104) ?_
            intro T100 h100 X100 e100 W100 A100
            have f101 := f97.wr W100 g_b94
            have f103 := f99.wr W100
            have Z100 := Nat.le_trans Z96 (Keep.of_wr W100).1
            have A100 : own_Ar Z h100 b94 .double (List.map Value.double [(FP.i2d (p2 % (1024 : Int32))), (FP.i2d (p3 % (1024 : Int32))), (0 : UInt64)]) := A100
            have N100 := Fr.snoc X100 N96 g_b94
            show own_Fin _ _ _ _ _ _ _ (T100.setTop (mkF m 105 #[.val (.int p0), .val (.int p1), .val (.int p2), .val (.int p3), .val (.int p4), .val (.int (p0 &&& (3 : Int32))), .val (.int ((1 : Int32) + ((p1 &&& (2147483647 : Int32)) % (3 : Int32)))), .val (.int (p2 % (1024 : Int32))), .val (.int (p3 % (1024 : Int32))), .val (.int (p4 % (1024 : Int32))), .val (.ref g2), .unset, .unset, .unset, .unset, .unset] [(.ref b94)]))
            refine own_go (fun _ kk => XS.dup X100.here hx rfl (hb hby at_105) rfl rfl (XS.iconst X100.here hx rfl (hb hby at_106) (XS.iload X100.here hx rfl (hb hby at_107) rfl (XS.i2dS X100.here hx rfl (hb hby at_109) rfl rfl kk)))) ?_
            show own_Fin _ _ _ _ _ _ _ (T100.setTop (mkF m 110 #[.val (.int p0), .val (.int p1), .val (.int p2), .val (.int p3), .val (.int p4), .val (.int (p0 &&& (3 : Int32))), .val (.int ((1 : Int32) + ((p1 &&& (2147483647 : Int32)) % (3 : Int32)))), .val (.int (p2 % (1024 : Int32))), .val (.int (p3 % (1024 : Int32))), .val (.int (p4 % (1024 : Int32))), .val (.ref g2), .unset, .unset, .unset, .unset, .unset] [(.double (FP.i2d (p4 % (1024 : Int32)))), (.int (2 : Int32)), (.ref b94), (.ref b94)]))
            refine own_stD X100 hx hZ e100 A100 (by decide) (by show (2 : Int32).toNatClampNeg < 3; decide) (hb hby at_110) ?_
            intro T104 h104 X104 e104 W104 A104
            have f105 := f101.wr W104 g_b94
            have f107 := f103.wr W104
            have Z104 := Nat.le_trans Z100 (Keep.of_wr W104).1
            have A104 : own_Ar Z h104 b94 .double (List.map Value.double [(FP.i2d (p2 % (1024 : Int32))), (FP.i2d (p3 % (1024 : Int32))), (FP.i2d (p4 % (1024 : Int32)))]) := A104
            have N104 := Fr.snoc X104 N100 g_b94
            show own_Fin _ _ _ _ _ _ _ (T104.setTop (mkF m 111 #[.val (.int p0), .val (.int p1), .val (.int p2), .val (.int p3), .val (.int p4), .val (.int (p0 &&& (3 : Int32))), .val (.int ((1 : Int32) + ((p1 &&& (2147483647 : Int32)) % (3 : Int32)))), .val (.int (p2 % (1024 : Int32))), .val (.int (p3 % (1024 : Int32))), .val (.int (p4 % (1024 : Int32))), .val (.ref g2), .unset, .unset, .unset, .unset, .unset] [(.ref b94)]))
            refine own_go (fun _ kk => XS.astore X104.here hx rfl (hb hby at_111) rfl rfl (l' := #[.val (.int p0), .val (.int p1), .val (.int p2), .val (.int p3), .val (.int p4), .val (.int (p0 &&& (3 : Int32))), .val (.int ((1 : Int32) + ((p1 &&& (2147483647 : Int32)) % (3 : Int32)))), .val (.int (p2 % (1024 : Int32))), .val (.int (p3 % (1024 : Int32))), .val (.int (p4 % (1024 : Int32))), .val (.ref g2), .val (.ref b94), .unset, .unset, .unset, .unset]) rfl (XS.aload X104.here hx rfl (hb hby at_113) rfl rfl (XS.aload X104.here hx rfl (hb hby at_115) rfl rfl kk))) ?_
            show own_Fin _ _ _ _ _ _ _ (T104.setTop (mkF m 117 #[.val (.int p0), .val (.int p1), .val (.int p2), .val (.int p3), .val (.int p4), .val (.int (p0 &&& (3 : Int32))), .val (.int ((1 : Int32) + ((p1 &&& (2147483647 : Int32)) % (3 : Int32)))), .val (.int (p2 % (1024 : Int32))), .val (.int (p3 % (1024 : Int32))), .val (.int (p4 % (1024 : Int32))), .val (.ref g2), .val (.ref b94), .unset, .unset, .unset, .unset] [(.ref b94), (.ref g2)]))
            refine own_callV X104 hx hZ hown (hw _ (List.mem_of_getElem? (i := 9) rfl)) (hw _ (List.mem_of_getElem? (i := 10) rfl)) (notFace_of_selects (args := #[]) (mvT hZ (hw _ (List.mem_of_getElem? (i := 12) rfl)))) (hw _ (List.mem_of_getElem? (i := 12) rfl)) (hw _ (List.mem_of_getElem? (i := 11) rfl)) (hw _ (List.mem_of_getElem? (i := 13) rfl)) (hw _ (List.mem_of_getElem? (i := 6) rfl)) (by decide) (rm2k2n3 l Z a0 hw g2 b94 h104 n0 Z104 (E2.ext f105.2) (F2.ext f105.2) (FP.i2d (p2 % (1024 : Int32))) (FP.i2d (p3 % (1024 : Int32))) (FP.i2d (p4 % (1024 : Int32))) A104 (own_noNaN (own_d1 _)) (own_noNaN (own_d1 _)) (own_noNaN (own_p2 _ _)) (own_noNaN (own_d1 _))) e104 (E2.ext f105.2) (argsL := [(.ref b94)]) (rest := []) rfl rfl (by rw [hml]; rfl) (lenOf pd_0_1 rfl) (hb hby at_117) (W := 0) (Nat.le_of_eq rfl) (by decide) (by decide) (by decide) (by decide) ?_
            rintro v108 T108 L108 X108 ⟨rfl, M108, e108⟩
            have N108 := Fr.app N104 M108
            show own_Fin _ _ _ _ _ _ _ (T108.setTop (mkF m 120 #[.val (.int p0), .val (.int p1), .val (.int p2), .val (.int p3), .val (.int p4), .val (.int (p0 &&& (3 : Int32))), .val (.int ((1 : Int32) + ((p1 &&& (2147483647 : Int32)) % (3 : Int32)))), .val (.int (p2 % (1024 : Int32))), .val (.int (p3 % (1024 : Int32))), .val (.int (p4 % (1024 : Int32))), .val (.ref g2), .val (.ref b94), .unset, .unset, .unset, .unset] [(.double (Native.java_lang_Math.nans.pick64 false (Native.java_lang_Math.nans.pick64 false (FP.i2d (p2 % (1024 : Int32))) (FP.i2d (p3 % (1024 : Int32)))) (FP.i2d (p4 % (1024 : Int32)))))]))
            refine own_go (fun _ kk => XS.dstore X108.here hx rfl (hb hby at_120) rfl (l' := #[.val (.int p0), .val (.int p1), .val (.int p2), .val (.int p3), .val (.int p4), .val (.int (p0 &&& (3 : Int32))), .val (.int ((1 : Int32) + ((p1 &&& (2147483647 : Int32)) % (3 : Int32)))), .val (.int (p2 % (1024 : Int32))), .val (.int (p3 % (1024 : Int32))), .val (.int (p4 % (1024 : Int32))), .val (.ref g2), .val (.ref b94), .val (.double (Native.java_lang_Math.nans.pick64 false (Native.java_lang_Math.nans.pick64 false (FP.i2d (p2 % (1024 : Int32))) (FP.i2d (p3 % (1024 : Int32)))) (FP.i2d (p4 % (1024 : Int32))))), .second, .unset, .unset]) rfl (XS.iload X108.here hx rfl (hb hby at_122) rfl (XS.iload X108.here hx rfl (hb hby at_124) rfl (XS.iload X108.here hx rfl (hb hby at_126) rfl (XS.i2l X108.here hx rfl (hb hby at_128) rfl (XS.iload X108.here hx rfl (hb hby at_129) rfl (XS.i2l X108.here hx rfl (hb hby at_131) rfl (XS.iload X108.here hx rfl (hb hby at_132) rfl (XS.i2l X108.here hx rfl (hb hby at_134) rfl kk))))))))) ?_
            show own_Fin _ _ _ _ _ _ _ (T108.setTop (mkF m 135 #[.val (.int p0), .val (.int p1), .val (.int p2), .val (.int p3), .val (.int p4), .val (.int (p0 &&& (3 : Int32))), .val (.int ((1 : Int32) + ((p1 &&& (2147483647 : Int32)) % (3 : Int32)))), .val (.int (p2 % (1024 : Int32))), .val (.int (p3 % (1024 : Int32))), .val (.int (p4 % (1024 : Int32))), .val (.ref g2), .val (.ref b94), .val (.double (Native.java_lang_Math.nans.pick64 false (Native.java_lang_Math.nans.pick64 false (FP.i2d (p2 % (1024 : Int32))) (FP.i2d (p3 % (1024 : Int32)))) (FP.i2d (p4 % (1024 : Int32))))), .second, .unset, .unset] [(.long (Int32.toInt64 (p4 % (1024 : Int32)))), (.long (Int32.toInt64 (p3 % (1024 : Int32)))), (.long (Int32.toInt64 (p2 % (1024 : Int32)))), (.int ((1 : Int32) + ((p1 &&& (2147483647 : Int32)) % (3 : Int32)))), (.int (p0 &&& (3 : Int32)))]))
            refine own_callS X108 hx hZ hown (hw _ (List.mem_of_getElem? (i := 14) rfl)) (hw _ (List.mem_of_getElem? (i := 15) rfl)) (hw _ (List.mem_of_getElem? (i := 3) rfl)) (hw _ (List.mem_of_getElem? (i := 16) rfl)) (by decide) (rm3 l Z a0 hw (p0 &&& (3 : Int32)) ((1 : Int32) + ((p1 &&& (2147483647 : Int32)) % (3 : Int32))) (Int32.toInt64 (p2 % (1024 : Int32))) (Int32.toInt64 (p3 % (1024 : Int32))) (Int32.toInt64 (p4 % (1024 : Int32))) h104 n0 Z104) e108 (argsL := [(.int (p0 &&& (3 : Int32))), (.int ((1 : Int32) + ((p1 &&& (2147483647 : Int32)) % (3 : Int32)))), (.long (Int32.toInt64 (p2 % (1024 : Int32)))), (.long (Int32.toInt64 (p3 % (1024 : Int32)))), (.long (Int32.toInt64 (p4 % (1024 : Int32))))]) (rest := []) rfl rfl (by rw [hml]; rfl) (lenOf pd_0_2 rfl) (hb hby at_135) (W := 0) (Nat.le_of_eq rfl) (by decide) (by decide) (by decide) (by decide) ?_
            rintro v109 T109 L109 X109 ⟨rfl, M109, e109⟩
            have N109 := Fr.app N108 M109
            show own_Fin _ _ _ _ _ _ _ (T109.setTop (mkF m 138 #[.val (.int p0), .val (.int p1), .val (.int p2), .val (.int p3), .val (.int p4), .val (.int (p0 &&& (3 : Int32))), .val (.int ((1 : Int32) + ((p1 &&& (2147483647 : Int32)) % (3 : Int32)))), .val (.int (p2 % (1024 : Int32))), .val (.int (p3 % (1024 : Int32))), .val (.int (p4 % (1024 : Int32))), .val (.ref g2), .val (.ref b94), .val (.double (Native.java_lang_Math.nans.pick64 false (Native.java_lang_Math.nans.pick64 false (FP.i2d (p2 % (1024 : Int32))) (FP.i2d (p3 % (1024 : Int32)))) (FP.i2d (p4 % (1024 : Int32))))), .second, .unset, .unset] [(.long (own_f3 (p0 &&& (3 : Int32)) ((1 : Int32) + ((p1 &&& (2147483647 : Int32)) % (3 : Int32))) (Int32.toInt64 (p2 % (1024 : Int32))) (Int32.toInt64 (p3 % (1024 : Int32))) (Int32.toInt64 (p4 % (1024 : Int32)))))]))
            refine own_go (fun _ kk => XS.lstore X109.here hx rfl (hb hby at_138) rfl (l' := #[.val (.int p0), .val (.int p1), .val (.int p2), .val (.int p3), .val (.int p4), .val (.int (p0 &&& (3 : Int32))), .val (.int ((1 : Int32) + ((p1 &&& (2147483647 : Int32)) % (3 : Int32)))), .val (.int (p2 % (1024 : Int32))), .val (.int (p3 % (1024 : Int32))), .val (.int (p4 % (1024 : Int32))), .val (.ref g2), .val (.ref b94), .val (.double (Native.java_lang_Math.nans.pick64 false (Native.java_lang_Math.nans.pick64 false (FP.i2d (p2 % (1024 : Int32))) (FP.i2d (p3 % (1024 : Int32)))) (FP.i2d (p4 % (1024 : Int32))))), .second, .val (.long (own_f3 (p0 &&& (3 : Int32)) ((1 : Int32) + ((p1 &&& (2147483647 : Int32)) % (3 : Int32))) (Int32.toInt64 (p2 % (1024 : Int32))) (Int32.toInt64 (p3 % (1024 : Int32))) (Int32.toInt64 (p4 % (1024 : Int32))))), .second]) rfl (XS.dload X109.here hx rfl (hb hby at_140) rfl (XS.lload X109.here hx rfl (hb hby at_142) rfl (XS.l2dS X109.here hx rfl (hb hby at_144) rfl rfl (XS.dcmpS X109.here hx rfl (hb hby at_145) rfl rfl kk))))) ?_
            show own_Fin _ _ _ _ _ _ _ (T109.setTop (mkF m 146 #[.val (.int p0), .val (.int p1), .val (.int p2), .val (.int p3), .val (.int p4), .val (.int (p0 &&& (3 : Int32))), .val (.int ((1 : Int32) + ((p1 &&& (2147483647 : Int32)) % (3 : Int32)))), .val (.int (p2 % (1024 : Int32))), .val (.int (p3 % (1024 : Int32))), .val (.int (p4 % (1024 : Int32))), .val (.ref g2), .val (.ref b94), .val (.double (Native.java_lang_Math.nans.pick64 false (Native.java_lang_Math.nans.pick64 false (FP.i2d (p2 % (1024 : Int32))) (FP.i2d (p3 % (1024 : Int32)))) (FP.i2d (p4 % (1024 : Int32))))), .second, .val (.long (own_f3 (p0 &&& (3 : Int32)) ((1 : Int32) + ((p1 &&& (2147483647 : Int32)) % (3 : Int32))) (Int32.toInt64 (p2 % (1024 : Int32))) (Int32.toInt64 (p3 % (1024 : Int32))) (Int32.toInt64 (p4 % (1024 : Int32))))), .second] [(.int (cmpValue (FP.dcmp (Native.java_lang_Math.nans.pick64 false (Native.java_lang_Math.nans.pick64 false (FP.i2d (p2 % (1024 : Int32))) (FP.i2d (p3 % (1024 : Int32)))) (FP.i2d (p4 % (1024 : Int32)))) (FP.l2d (own_f3 (p0 &&& (3 : Int32)) ((1 : Int32) + ((p1 &&& (2147483647 : Int32)) % (3 : Int32))) (Int32.toInt64 (p2 % (1024 : Int32))) (Int32.toInt64 (p3 % (1024 : Int32))) (Int32.toInt64 (p4 % (1024 : Int32)))))) .l))]))
            by_cases hc146 : (cmpValue (FP.dcmp (Native.java_lang_Math.nans.pick64 false (Native.java_lang_Math.nans.pick64 false (FP.i2d (p2 % (1024 : Int32))) (FP.i2d (p3 % (1024 : Int32)))) (FP.i2d (p4 % (1024 : Int32)))) (FP.l2d (own_f3 (p0 &&& (3 : Int32)) ((1 : Int32) + ((p1 &&& (2147483647 : Int32)) % (3 : Int32))) (Int32.toInt64 (p2 % (1024 : Int32))) (Int32.toInt64 (p3 % (1024 : Int32))) (Int32.toInt64 (p4 % (1024 : Int32)))))) .l) = 0
            · refine own_go (fun _ kk => XS.ifNo X109.here hx rfl (hb hby at_146) rfl (XT.i0_ne_f hc146) (XS.iconst X109.here hx rfl (hb hby at_149) (XS.goto X109.here hx rfl (pc0 := 150) (pc' := 154) rfl (hb hby at_150) (by decide) (by decide) kk))) ?_
              show own_Fin _ _ _ _ _ _ _ (T109.setTop (mkF m 154 #[.val (.int p0), .val (.int p1), .val (.int p2), .val (.int p3), .val (.int p4), .val (.int (p0 &&& (3 : Int32))), .val (.int ((1 : Int32) + ((p1 &&& (2147483647 : Int32)) % (3 : Int32)))), .val (.int (p2 % (1024 : Int32))), .val (.int (p3 % (1024 : Int32))), .val (.int (p4 % (1024 : Int32))), .val (.ref g2), .val (.ref b94), .val (.double (Native.java_lang_Math.nans.pick64 false (Native.java_lang_Math.nans.pick64 false (FP.i2d (p2 % (1024 : Int32))) (FP.i2d (p3 % (1024 : Int32)))) (FP.i2d (p4 % (1024 : Int32))))), .second, .val (.long (own_f3 (p0 &&& (3 : Int32)) ((1 : Int32) + ((p1 &&& (2147483647 : Int32)) % (3 : Int32))) (Int32.toInt64 (p2 % (1024 : Int32))) (Int32.toInt64 (p3 % (1024 : Int32))) (Int32.toInt64 (p4 % (1024 : Int32))))), .second] [(.int (1 : Int32))]))
              exact own_retZ X109 hx hlk hret rfl (hb hby at_154) (by decide) (by decide) ⟨(by rw [own_f0, if_neg hk0, if_neg hk1, if_pos hk2, if_neg hc47, if_neg hc67, if_pos hc146]), N109⟩
            · refine own_go (fun _ kk => XS.ifYes X109.here hx rfl (pc0 := 146) (pc' := 153) rfl (hb hby at_146) rfl (XT.i0_ne_t hc146) (by decide) (by decide) (XS.iconst X109.here hx rfl (hb hby at_153) kk)) ?_
              show own_Fin _ _ _ _ _ _ _ (T109.setTop (mkF m 154 #[.val (.int p0), .val (.int p1), .val (.int p2), .val (.int p3), .val (.int p4), .val (.int (p0 &&& (3 : Int32))), .val (.int ((1 : Int32) + ((p1 &&& (2147483647 : Int32)) % (3 : Int32)))), .val (.int (p2 % (1024 : Int32))), .val (.int (p3 % (1024 : Int32))), .val (.int (p4 % (1024 : Int32))), .val (.ref g2), .val (.ref b94), .val (.double (Native.java_lang_Math.nans.pick64 false (Native.java_lang_Math.nans.pick64 false (FP.i2d (p2 % (1024 : Int32))) (FP.i2d (p3 % (1024 : Int32)))) (FP.i2d (p4 % (1024 : Int32))))), .second, .val (.long (own_f3 (p0 &&& (3 : Int32)) ((1 : Int32) + ((p1 &&& (2147483647 : Int32)) % (3 : Int32))) (Int32.toInt64 (p2 % (1024 : Int32))) (Int32.toInt64 (p3 % (1024 : Int32))) (Int32.toInt64 (p4 % (1024 : Int32))))), .second] [(.int (0 : Int32))]))
              exact own_retZ X109 hx hlk hret rfl (hb hby at_154) (by decide) (by decide) ⟨(by rw [own_f0, if_neg hk0, if_neg hk1, if_pos hk2, if_neg hc47, if_neg hc67, if_neg hc146]), N109⟩
      · rw [show own_f1 (p0 &&& (3 : Int32)) g0 g1 g2 g3 = g3 from by rw [own_f1, if_neg hk0, if_neg hk1, if_neg hk2]]
        show own_Fin _ _ _ _ _ _ _ (T1.setTop (mkF m 42 #[.val (.int p0), .val (.int p1), .val (.int p2), .val (.int p3), .val (.int p4), .val (.int (p0 &&& (3 : Int32))), .val (.int ((1 : Int32) + ((p1 &&& (2147483647 : Int32)) % (3 : Int32)))), .val (.int (p2 % (1024 : Int32))), .val (.int (p3 % (1024 : Int32))), .val (.int (p4 % (1024 : Int32))), .unset, .unset, .unset, .unset, .unset, .unset] [(.ref g3)]))
        refine own_go (fun _ kk => XS.astore X1.here hx rfl (hb hby at_42) rfl rfl (l' := #[.val (.int p0), .val (.int p1), .val (.int p2), .val (.int p3), .val (.int p4), .val (.int (p0 &&& (3 : Int32))), .val (.int ((1 : Int32) + ((p1 &&& (2147483647 : Int32)) % (3 : Int32)))), .val (.int (p2 % (1024 : Int32))), .val (.int (p3 % (1024 : Int32))), .val (.int (p4 % (1024 : Int32))), .val (.ref g3), .unset, .unset, .unset, .unset, .unset]) rfl (XS.iload X1.here hx rfl (hb hby at_44) rfl (XS.iconst X1.here hx rfl (hb hby at_46) kk))) ?_
        show own_Fin _ _ _ _ _ _ _ (T1.setTop (mkF m 47 #[.val (.int p0), .val (.int p1), .val (.int p2), .val (.int p3), .val (.int p4), .val (.int (p0 &&& (3 : Int32))), .val (.int ((1 : Int32) + ((p1 &&& (2147483647 : Int32)) % (3 : Int32)))), .val (.int (p2 % (1024 : Int32))), .val (.int (p3 % (1024 : Int32))), .val (.int (p4 % (1024 : Int32))), .val (.ref g3), .unset, .unset, .unset, .unset, .unset] [(.int (1 : Int32)), (.int ((1 : Int32) + ((p1 &&& (2147483647 : Int32)) % (3 : Int32))))]))
        by_cases hc47 : ((1 : Int32) + ((p1 &&& (2147483647 : Int32)) % (3 : Int32))) = (1 : Int32)
        · refine own_go (fun _ kk => XS.icmpNo X1.here hx rfl (hb hby at_47) rfl (XT.ii_ne_f hc47) (XS.iconst X1.here hx rfl (hb hby at_50) kk)) ?_
          show own_Fin _ _ _ _ _ _ _ (T1.setTop (mkF m 51 #[.val (.int p0), .val (.int p1), .val (.int p2), .val (.int p3), .val (.int p4), .val (.int (p0 &&& (3 : Int32))), .val (.int ((1 : Int32) + ((p1 &&& (2147483647 : Int32)) % (3 : Int32)))), .val (.int (p2 % (1024 : Int32))), .val (.int (p3 % (1024 : Int32))), .val (.int (p4 % (1024 : Int32))), .val (.ref g3), .unset, .unset, .unset, .unset, .unset] [(.int (1 : Int32))]))
          refine own_newD X1 hx hZ (hw _ (List.mem_of_getElem? (i := 8) rfl)) e1 (hb hby at_51) (by decide) (cap := 1) (by decide) (by decide) (by decide) (by decide) ?_
          intro T110 h110 b110 g110 X110 e110 E110 A110 D110
          have g_b110 : n0 ≤ b110 := Nat.le_trans Z0 (Nat.le_of_eq g110.symm)
          have f111 := O0.ext E110
          have Z110 := Nat.le_trans Z0 E110.1
          have A110 : own_Ar Z h110 b110 .double (List.map Value.double [(0 : UInt64)]) := A110
          show own_Fin _ _ _ _ _ _ _ (T110.setTop (mkF m 53 #[.val (.int p0), .val (.int p1), .val (.int p2), .val (.int p3), .val (.int p4), .val (.int (p0 &&& (3 : Int32))), .val (.int ((1 : Int32) + ((p1 &&& (2147483647 : Int32)) % (3 : Int32)))), .val (.int (p2 % (1024 : Int32))), .val (.int (p3 % (1024 : Int32))), .val (.int (p4 % (1024 : Int32))), .val (.ref g3), .unset, .unset, .unset, .unset, .unset] [(.ref b110)]))
          refine own_go (fun _ kk => XS.dup X110.here hx rfl (hb hby at_53) rfl rfl (XS.iconst X110.here hx rfl (hb hby at_54) (XS.iload X110.here hx rfl (hb hby at_55) rfl (XS.i2dS X110.here hx rfl (hb hby at_57) rfl rfl kk)))) ?_
          show own_Fin _ _ _ _ _ _ _ (T110.setTop (mkF m 58 #[.val (.int p0), .val (.int p1), .val (.int p2), .val (.int p3), .val (.int p4), .val (.int (p0 &&& (3 : Int32))), .val (.int ((1 : Int32) + ((p1 &&& (2147483647 : Int32)) % (3 : Int32)))), .val (.int (p2 % (1024 : Int32))), .val (.int (p3 % (1024 : Int32))), .val (.int (p4 % (1024 : Int32))), .val (.ref g3), .unset, .unset, .unset, .unset, .unset] [(.double (FP.i2d (p2 % (1024 : Int32)))), (.int (0 : Int32)), (.ref b110), (.ref b110)]))
          refine own_stD X110 hx hZ e110 A110 (by decide) (by show (0 : Int32).toNatClampNeg < 1; decide) (hb hby at_58) ?_
          intro T112 h112 X112 e112 W112 A112
          have f113 := f111.wr W112 g_b110
          have f115 := D110.wr W112
          have Z112 := Nat.le_trans Z110 (Keep.of_wr W112).1
          have A112 : own_Ar Z h112 b110 .double (List.map Value.double [(FP.i2d (p2 % (1024 : Int32)))]) := A112
          have N112 := Fr.snoc X112 N1 g_b110
          show own_Fin _ _ _ _ _ _ _ (T112.setTop (mkF m 59 #[.val (.int p0), .val (.int p1), .val (.int p2), .val (.int p3), .val (.int p4), .val (.int (p0 &&& (3 : Int32))), .val (.int ((1 : Int32) + ((p1 &&& (2147483647 : Int32)) % (3 : Int32)))), .val (.int (p2 % (1024 : Int32))), .val (.int (p3 % (1024 : Int32))), .val (.int (p4 % (1024 : Int32))), .val (.ref g3), .unset, .unset, .unset, .unset, .unset] [(.ref b110)]))
          refine own_go (fun _ kk => XS.astore X112.here hx rfl (hb hby at_59) rfl rfl (l' := #[.val (.int p0), .val (.int p1), .val (.int p2), .val (.int p3), .val (.int p4), .val (.int (p0 &&& (3 : Int32))), .val (.int ((1 : Int32) + ((p1 &&& (2147483647 : Int32)) % (3 : Int32)))), .val (.int (p2 % (1024 : Int32))), .val (.int (p3 % (1024 : Int32))), .val (.int (p4 % (1024 : Int32))), .val (.ref g3), .val (.ref b110), .unset, .unset, .unset, .unset]) rfl (XS.goto X112.here hx rfl (pc0 := 61) (pc' := 113) rfl (hb hby at_61) (by decide) (by decide) (XS.aload X112.here hx rfl (hb hby at_113) rfl rfl (XS.aload X112.here hx rfl (hb hby at_115) rfl rfl kk)))) ?_
          show own_Fin _ _ _ _ _ _ _ (T112.setTop (mkF m 117 #[.val (.int p0), .val (.int p1), .val (.int p2), .val (.int p3), .val (.int p4), .val (.int (p0 &&& (3 : Int32))), .val (.int ((1 : Int32) + ((p1 &&& (2147483647 : Int32)) % (3 : Int32)))), .val (.int (p2 % (1024 : Int32))), .val (.int (p3 % (1024 : Int32))), .val (.int (p4 % (1024 : Int32))), .val (.ref g3), .val (.ref b110), .unset, .unset, .unset, .unset] [(.ref b110), (.ref g3)]))
          refine own_callV X112 hx hZ hown (hw _ (List.mem_of_getElem? (i := 9) rfl)) (hw _ (List.mem_of_getElem? (i := 10) rfl)) (notFace_of_selects (args := #[]) (mvT hZ (hw _ (List.mem_of_getElem? (i := 12) rfl)))) (hw _ (List.mem_of_getElem? (i := 12) rfl)) (hw _ (List.mem_of_getElem? (i := 11) rfl)) (hw _ (List.mem_of_getElem? (i := 13) rfl)) (hw _ (List.mem_of_getElem? (i := 6) rfl)) (by decide) (rm2k3n1 l Z a0 hw g3 b110 h112 n0 Z112 (E3.ext f113.2) (F3.ext f113.2) (FP.i2d (p2 % (1024 : Int32))) A112) e112 (E3.ext f113.2) (argsL := [(.ref b110)]) (rest := []) rfl rfl (by rw [hml]; rfl) (lenOf pd_0_1 rfl) (hb hby at_117) (W := 0) (Nat.le_of_eq rfl) (by decide) (by decide) (by decide) (by decide) ?_
          rintro v116 T116 L116 X116 ⟨rfl, M116, e116⟩
          have N116 := Fr.app N112 M116
          show own_Fin _ _ _ _ _ _ _ (T116.setTop (mkF m 120 #[.val (.int p0), .val (.int p1), .val (.int p2), .val (.int p3), .val (.int p4), .val (.int (p0 &&& (3 : Int32))), .val (.int ((1 : Int32) + ((p1 &&& (2147483647 : Int32)) % (3 : Int32)))), .val (.int (p2 % (1024 : Int32))), .val (.int (p3 % (1024 : Int32))), .val (.int (p4 % (1024 : Int32))), .val (.ref g3), .val (.ref b110), .unset, .unset, .unset, .unset] [(.double (FP.i2d (p2 % (1024 : Int32))))]))
          refine own_go (fun _ kk => XS.dstore X116.here hx rfl (hb hby at_120) rfl (l' := #[.val (.int p0), .val (.int p1), .val (.int p2), .val (.int p3), .val (.int p4), .val (.int (p0 &&& (3 : Int32))), .val (.int ((1 : Int32) + ((p1 &&& (2147483647 : Int32)) % (3 : Int32)))), .val (.int (p2 % (1024 : Int32))), .val (.int (p3 % (1024 : Int32))), .val (.int (p4 % (1024 : Int32))), .val (.ref g3), .val (.ref b110), .val (.double (FP.i2d (p2 % (1024 : Int32)))), .second, .unset, .unset]) rfl (XS.iload X116.here hx rfl (hb hby at_122) rfl (XS.iload X116.here hx rfl (hb hby at_124) rfl (XS.iload X116.here hx rfl (hb hby at_126) rfl (XS.i2l X116.here hx rfl (hb hby at_128) rfl (XS.iload X116.here hx rfl (hb hby at_129) rfl (XS.i2l X116.here hx rfl (hb hby at_131) rfl (XS.iload X116.here hx rfl (hb hby at_132) rfl (XS.i2l X116.here hx rfl (hb hby at_134) rfl kk))))))))) ?_
          show own_Fin _ _ _ _ _ _ _ (T116.setTop (mkF m 135 #[.val (.int p0), .val (.int p1), .val (.int p2), .val (.int p3), .val (.int p4), .val (.int (p0 &&& (3 : Int32))), .val (.int ((1 : Int32) + ((p1 &&& (2147483647 : Int32)) % (3 : Int32)))), .val (.int (p2 % (1024 : Int32))), .val (.int (p3 % (1024 : Int32))), .val (.int (p4 % (1024 : Int32))), .val (.ref g3), .val (.ref b110), .val (.double (FP.i2d (p2 % (1024 : Int32)))), .second, .unset, .unset] [(.long (Int32.toInt64 (p4 % (1024 : Int32)))), (.long (Int32.toInt64 (p3 % (1024 : Int32)))), (.long (Int32.toInt64 (p2 % (1024 : Int32)))), (.int ((1 : Int32) + ((p1 &&& (2147483647 : Int32)) % (3 : Int32)))), (.int (p0 &&& (3 : Int32)))]))
          refine own_callS X116 hx hZ hown (hw _ (List.mem_of_getElem? (i := 14) rfl)) (hw _ (List.mem_of_getElem? (i := 15) rfl)) (hw _ (List.mem_of_getElem? (i := 3) rfl)) (hw _ (List.mem_of_getElem? (i := 16) rfl)) (by decide) (rm3 l Z a0 hw (p0 &&& (3 : Int32)) ((1 : Int32) + ((p1 &&& (2147483647 : Int32)) % (3 : Int32))) (Int32.toInt64 (p2 % (1024 : Int32))) (Int32.toInt64 (p3 % (1024 : Int32))) (Int32.toInt64 (p4 % (1024 : Int32))) h112 n0 Z112) e116 (argsL := [(.int (p0 &&& (3 : Int32))), (.int ((1 : Int32) + ((p1 &&& (2147483647 : Int32)) % (3 : Int32)))), (.long (Int32.toInt64 (p2 % (1024 : Int32)))), (.long (Int32.toInt64 (p3 % (1024 : Int32)))), (.long (Int32.toInt64 (p4 % (1024 : Int32))))]) (rest := []) rfl rfl (by rw [hml]; rfl) (lenOf pd_0_2 rfl) (hb hby at_135) (W := 0) (Nat.le_of_eq rfl) (by decide) (by decide) (by decide) (by decide) ?_
          rintro v117 T117 L117 X117 ⟨rfl, M117, e117⟩
          have N117 := Fr.app N116 M117
          show own_Fin _ _ _ _ _ _ _ (T117.setTop (mkF m 138 #[.val (.int p0), .val (.int p1), .val (.int p2), .val (.int p3), .val (.int p4), .val (.int (p0 &&& (3 : Int32))), .val (.int ((1 : Int32) + ((p1 &&& (2147483647 : Int32)) % (3 : Int32)))), .val (.int (p2 % (1024 : Int32))), .val (.int (p3 % (1024 : Int32))), .val (.int (p4 % (1024 : Int32))), .val (.ref g3), .val (.ref b110), .val (.double (FP.i2d (p2 % (1024 : Int32)))), .second, .unset, .unset] [(.long (own_f3 (p0 &&& (3 : Int32)) ((1 : Int32) + ((p1 &&& (2147483647 : Int32)) % (3 : Int32))) (Int32.toInt64 (p2 % (1024 : Int32))) (Int32.toInt64 (p3 % (1024 : Int32))) (Int32.toInt64 (p4 % (1024 : Int32)))))]))
          refine own_go (fun _ kk => XS.lstore X117.here hx rfl (hb hby at_138) rfl (l' := #[.val (.int p0), .val (.int p1), .val (.int p2), .val (.int p3), .val (.int p4), .val (.int (p0 &&& (3 : Int32))), .val (.int ((1 : Int32) + ((p1 &&& (2147483647 : Int32)) % (3 : Int32)))), .val (.int (p2 % (1024 : Int32))), .val (.int (p3 % (1024 : Int32))), .val (.int (p4 % (1024 : Int32))), .val (.ref g3), .val (.ref b110), .val (.double (FP.i2d (p2 % (1024 : Int32)))), .second, .val (.long (own_f3 (p0 &&& (3 : Int32)) ((1 : Int32) + ((p1 &&& (2147483647 : Int32)) % (3 : Int32))) (Int32.toInt64 (p2 % (1024 : Int32))) (Int32.toInt64 (p3 % (1024 : Int32))) (Int32.toInt64 (p4 % (1024 : Int32))))), .second]) rfl (XS.dload X117.here hx rfl (hb hby at_140) rfl (XS.lload X117.here hx rfl (hb hby at_142) rfl (XS.l2dS X117.here hx rfl (hb hby at_144) rfl rfl (XS.dcmpS X117.here hx rfl (hb hby at_145) rfl rfl kk))))) ?_
          show own_Fin _ _ _ _ _ _ _ (T117.setTop (mkF m 146 #[.val (.int p0), .val (.int p1), .val (.int p2), .val (.int p3), .val (.int p4), .val (.int (p0 &&& (3 : Int32))), .val (.int ((1 : Int32) + ((p1 &&& (2147483647 : Int32)) % (3 : Int32)))), .val (.int (p2 % (1024 : Int32))), .val (.int (p3 % (1024 : Int32))), .val (.int (p4 % (1024 : Int32))), .val (.ref g3), .val (.ref b110), .val (.double (FP.i2d (p2 % (1024 : Int32)))), .second, .val (.long (own_f3 (p0 &&& (3 : Int32)) ((1 : Int32) + ((p1 &&& (2147483647 : Int32)) % (3 : Int32))) (Int32.toInt64 (p2 % (1024 : Int32))) (Int32.toInt64 (p3 % (1024 : Int32))) (Int32.toInt64 (p4 % (1024 : Int32))))), .second] [(.int (cmpValue (FP.dcmp (FP.i2d (p2 % (1024 : Int32))) (FP.l2d (own_f3 (p0 &&& (3 : Int32)) ((1 : Int32) + ((p1 &&& (2147483647 : Int32)) % (3 : Int32))) (Int32.toInt64 (p2 % (1024 : Int32))) (Int32.toInt64 (p3 % (1024 : Int32))) (Int32.toInt64 (p4 % (1024 : Int32)))))) .l))]))
          by_cases hc146 : (cmpValue (FP.dcmp (FP.i2d (p2 % (1024 : Int32))) (FP.l2d (own_f3 (p0 &&& (3 : Int32)) ((1 : Int32) + ((p1 &&& (2147483647 : Int32)) % (3 : Int32))) (Int32.toInt64 (p2 % (1024 : Int32))) (Int32.toInt64 (p3 % (1024 : Int32))) (Int32.toInt64 (p4 % (1024 : Int32)))))) .l) = 0
          · refine own_go (fun _ kk => XS.ifNo X117.here hx rfl (hb hby at_146) rfl (XT.i0_ne_f hc146) (XS.iconst X117.here hx rfl (hb hby at_149) (XS.goto X117.here hx rfl (pc0 := 150) (pc' := 154) rfl (hb hby at_150) (by decide) (by decide) kk))) ?_
            show own_Fin _ _ _ _ _ _ _ (T117.setTop (mkF m 154 #[.val (.int p0), .val (.int p1), .val (.int p2), .val (.int p3), .val (.int p4), .val (.int (p0 &&& (3 : Int32))), .val (.int ((1 : Int32) + ((p1 &&& (2147483647 : Int32)) % (3 : Int32)))), .val (.int (p2 % (1024 : Int32))), .val (.int (p3 % (1024 : Int32))), .val (.int (p4 % (1024 : Int32))), .val (.ref g3), .val (.ref b110), .val (.double (FP.i2d (p2 % (1024 : Int32)))), .second, .val (.long (own_f3 (p0 &&& (3 : Int32)) ((1 : Int32) + ((p1 &&& (2147483647 : Int32)) % (3 : Int32))) (Int32.toInt64 (p2 % (1024 : Int32))) (Int32.toInt64 (p3 % (1024 : Int32))) (Int32.toInt64 (p4 % (1024 : Int32))))), .second] [(.int (1 : Int32))]))
            exact own_retZ X117 hx hlk hret rfl (hb hby at_154) (by decide) (by decide) ⟨(by rw [own_f0, if_neg hk0, if_neg hk1, if_neg hk2, if_pos hc47, if_pos hc146]), N117⟩
          · refine own_go (fun _ kk => XS.ifYes X117.here hx rfl (pc0 := 146) (pc' := 153) rfl (hb hby at_146) rfl (XT.i0_ne_t hc146) (by decide) (by decide) (XS.iconst X117.here hx rfl (hb hby at_153) kk)) ?_
            show own_Fin _ _ _ _ _ _ _ (T117.setTop (mkF m 154 #[.val (.int p0), .val (.int p1), .val (.int p2), .val (.int p3), .val (.int p4), .val (.int (p0 &&& (3 : Int32))), .val (.int ((1 : Int32) + ((p1 &&& (2147483647 : Int32)) % (3 : Int32)))), .val (.int (p2 % (1024 : Int32))), .val (.int (p3 % (1024 : Int32))), .val (.int (p4 % (1024 : Int32))), .val (.ref g3), .val (.ref b110), .val (.double (FP.i2d (p2 % (1024 : Int32)))), .second, .val (.long (own_f3 (p0 &&& (3 : Int32)) ((1 : Int32) + ((p1 &&& (2147483647 : Int32)) % (3 : Int32))) (Int32.toInt64 (p2 % (1024 : Int32))) (Int32.toInt64 (p3 % (1024 : Int32))) (Int32.toInt64 (p4 % (1024 : Int32))))), .second] [(.int (0 : Int32))]))
            exact own_retZ X117 hx hlk hret rfl (hb hby at_154) (by decide) (by decide) ⟨(by rw [own_f0, if_neg hk0, if_neg hk1, if_neg hk2, if_pos hc47, if_neg hc146]), N117⟩
        · refine own_go (fun _ kk => XS.icmpYes X1.here hx rfl (pc0 := 47) (pc' := 64) rfl (hb hby at_47) rfl (XT.ii_ne_t hc47) (by decide) (by decide) (XS.iload X1.here hx rfl (hb hby at_64) rfl (XS.iconst X1.here hx rfl (hb hby at_66) kk))) ?_
          show own_Fin _ _ _ _ _ _ _ (T1.setTop (mkF m 67 #[.val (.int p0), .val (.int p1), .val (.int p2), .val (.int p3), .val (.int p4), .val (.int (p0 &&& (3 : Int32))), .val (.int ((1 : Int32) + ((p1 &&& (2147483647 : Int32)) % (3 : Int32)))), .val (.int (p2 % (1024 : Int32))), .val (.int (p3 % (1024 : Int32))), .val (.int (p4 % (1024 : Int32))), .val (.ref g3), .unset, .unset, .unset, .unset, .unset] [(.int (2 : Int32)), (.int ((1 : Int32) + ((p1 &&& (2147483647 : Int32)) % (3 : Int32))))]))
          by_cases hc67 : ((1 : Int32) + ((p1 &&& (2147483647 : Int32)) % (3 : Int32))) = (2 : Int32)
          · refine own_go (fun _ kk => XS.icmpNo X1.here hx rfl (hb hby at_67) rfl (XT.ii_ne_f hc67) (XS.iconst X1.here hx rfl (hb hby at_70) kk)) ?_
            show own_Fin _ _ _ _ _ _ _ (T1.setTop (mkF m 71 #[.val (.int p0), .val (.int p1), .val (.int p2), .val (.int p3), .val (.int p4), .val (.int (p0 &&& (3 : Int32))), .val (.int ((1 : Int32) + ((p1 &&& (2147483647 : Int32)) % (3 : Int32)))), .val (.int (p2 % (1024 : Int32))), .val (.int (p3 % (1024 : Int32))), .val (.int (p4 % (1024 : Int32))), .val (.ref g3), .unset, .unset, .unset, .unset, .unset] [(.int (2 : Int32))]))
            refine own_newD X1 hx hZ (hw _ (List.mem_of_getElem? (i := 8) rfl)) e1 (hb hby at_71) (by decide) (cap := 2) (by decide) (by decide) (by decide) (by decide) ?_
            intro T118 h118 b118 g118 X118 e118 E118 A118 D118
            have g_b118 : n0 ≤ b118 := Nat.le_trans Z0 (Nat.le_of_eq g118.symm)
            have f119 := O0.ext E118
            have Z118 := Nat.le_trans Z0 E118.1
            have A118 : own_Ar Z h118 b118 .double (List.map Value.double [(0 : UInt64), (0 : UInt64)]) := A118
            show own_Fin _ _ _ _ _ _ _ (T118.setTop (mkF m 73 #[.val (.int p0), .val (.int p1), .val (.int p2), .val (.int p3), .val (.int p4), .val (.int (p0 &&& (3 : Int32))), .val (.int ((1 : Int32) + ((p1 &&& (2147483647 : Int32)) % (3 : Int32)))), .val (.int (p2 % (1024 : Int32))), .val (.int (p3 % (1024 : Int32))), .val (.int (p4 % (1024 : Int32))), .val (.ref g3), .unset, .unset, .unset, .unset, .unset] [(.ref b118)]))
            refine own_go (fun _ kk => XS.dup X118.here hx rfl (hb hby at_73) rfl rfl (XS.iconst X118.here hx rfl (hb hby at_74) (XS.iload X118.here hx rfl (hb hby at_75) rfl (XS.i2dS X118.here hx rfl (hb hby at_77) rfl rfl kk)))) ?_
            show own_Fin _ _ _ _ _ _ _ (T118.setTop (mkF m 78 #[.val (.int p0), .val (.int p1), .val (.int p2), .val (.int p3), .val (.int p4), .val (.int (p0 &&& (3 : Int32))), .val (.int ((1 : Int32) + ((p1 &&& (2147483647 : Int32)) % (3 : Int32)))), .val (.int (p2 % (1024 : Int32))), .val (.int (p3 % (1024 : Int32))), .val (.int (p4 % (1024 : Int32))), .val (.ref g3), .unset, .unset, .unset, .unset, .unset] [(.double (FP.i2d (p2 % (1024 : Int32)))), (.int (0 : Int32)), (.ref b118), (.ref b118)]))
            refine own_stD X118 hx hZ e118 A118 (by decide) (by show (0 : Int32).toNatClampNeg < 2; decide) (hb hby at_78) ?_
            intro T120 h120 X120 e120 W120 A120
            have f121 := f119.wr W120 g_b118
            have f123 := D118.wr W120
            have Z120 := Nat.le_trans Z118 (Keep.of_wr W120).1
            have A120 : own_Ar Z h120 b118 .double (List.map Value.double [(FP.i2d (p2 % (1024 : Int32))), (0 : UInt64)]) := A120
            have N120 := Fr.snoc X120 N1 g_b118
            show own_Fin _ _ _ _ _ _ _ (T120.setTop (mkF m 79 #[.val (.int p0), .val (.int p1), .val (.int p2), .val (.int p3), .val (.int p4), .val (.int (p0 &&& (3 : Int32))), .val (.int ((1 : Int32) + ((p1 &&& (2147483647 : Int32)) % (3 : Int32)))), .val (.int (p2 % (1024 : Int32))), .val (.int (p3 % (1024 : Int32))), .val (.int (p4 % (1024 : Int32))), .val (.ref g3), .unset, .unset, .unset, .unset, .unset] [(.ref b118)]))
            refine own_go (fun _ kk => XS.dup X120.here hx rfl (hb hby at_79) rfl rfl (XS.iconst X120.here hx rfl (hb hby at_80) (XS.iload X120.here hx rfl (hb hby at_81) rfl (XS.i2dS X120.here hx rfl (hb hby at_83) rfl rfl kk)))) ?_
            show own_Fin _ _ _ _ _ _ _ (T120.setTop (mkF m 84 #[.val (.int p0), .val (.int p1), .val (.int p2), .val (.int p3), .val (.int p4), .val (.int (p0 &&& (3 : Int32))), .val (.int ((1 : Int32) + ((p1 &&& (2147483647 : Int32)) % (3 : Int32)))), .val (.int (p2 % (1024 : Int32))), .val (.int (p3 % (1024 : Int32))), .val (.int (p4 % (1024 : Int32))), .val (.ref g3), .unset, .unset, .unset, .unset, .unset] [(.double (FP.i2d (p3 % (1024 : Int32)))), (.int (1 : Int32)), (.ref b118), (.ref b118)]))
            refine own_stD X120 hx hZ e120 A120 (by decide) (by show (1 : Int32).toNatClampNeg < 2; decide) (hb hby at_84) ?_
            intro T124 h124 X124 e124 W124 A124
            have f125 := f121.wr W124 g_b118
            have f127 := f123.wr W124
            have Z124 := Nat.le_trans Z120 (Keep.of_wr W124).1
            have A124 : own_Ar Z h124 b118 .double (List.map Value.double [(FP.i2d (p2 % (1024 : Int32))), (FP.i2d (p3 % (1024 : Int32)))]) := A124
            have N124 := Fr.snoc X124 N120 g_b118
            show own_Fin _ _ _ _ _ _ _ (T124.setTop (mkF m 85 #[.val (.int p0), .val (.int p1), .val (.int p2), .val (.int p3), .val (.int p4), .val (.int (p0 &&& (3 : Int32))), .val (.int ((1 : Int32) + ((p1 &&& (2147483647 : Int32)) % (3 : Int32)))), .val (.int (p2 % (1024 : Int32))), .val (.int (p3 % (1024 : Int32))), .val (.int (p4 % (1024 : Int32))), .val (.ref g3), .unset, .unset, .unset, .unset, .unset] [(.ref b118)]))
            refine own_go (fun _ kk => XS.astore X124.here hx rfl (hb hby at_85) rfl rfl (l' := #[.val (.int p0), .val (.int p1), .val (.int p2), .val (.int p3), .val (.int p4), .val (.int (p0 &&& (3 : Int32))), .val (.int ((1 : Int32) + ((p1 &&& (2147483647 : Int32)) % (3 : Int32)))), .val (.int (p2 % (1024 : Int32))), .val (.int (p3 % (1024 : Int32))), .val (.int (p4 % (1024 : Int32))), .val (.ref g3), .val (.ref b118), .unset, .unset, .unset, .unset]) rfl (XS.goto X124.here hx rfl (pc0 := 87) (pc' := 113) rfl (hb hby at_87) (by decide) (by decide) (XS.aload X124.here hx rfl (hb hby at_113) rfl rfl (XS.aload X124.here hx rfl (hb hby at_115) rfl rfl kk)))) ?_
            show own_Fin _ _ _ _ _ _ _ (T124.setTop (mkF m 117 #[.val (.int p0), .val (.int p1), .val (.int p2), .val (.int p3), .val (.int p4), .val (.int (p0 &&& (3 : Int32))), .val (.int ((1 : Int32) + ((p1 &&& (2147483647 : Int32)) % (3 : Int32)))), .val (.int (p2 % (1024 : Int32))), .val (.int (p3 % (1024 : Int32))), .val (.int (p4 % (1024 : Int32))), .val (.ref g3), .val (.ref b118), .unset, .unset, .unset, .unset] [(.ref b118), (.ref g3)]))
            refine own_callV X124 hx hZ hown (hw _ (List.mem_of_getElem? (i := 9) rfl)) (hw _ (List.mem_of_getElem? (i := 10) rfl)) (notFace_of_selects (args := #[]) (mvT hZ (hw _ (List.mem_of_getElem? (i := 12) rfl)))) (hw _ (List.mem_of_getElem? (i := 12) rfl)) (hw _ (List.mem_of_getElem? (i := 11) rfl)) (hw _ (List.mem_of_getElem? (i := 13) rfl)) (hw _ (List.mem_of_getElem? (i := 6) rfl)) (by decide) (rm2k3n2 l Z a0 hw g3 b118 h124 n0 Z124 (E3.ext f125.2) (F3.ext f125.2) (FP.i2d (p2 % (1024 : Int32))) (FP.i2d (p3 % (1024 : Int32))) A124 (own_noNaN (own_a2 _ _))) e124 (E3.ext f125.2) (argsL := [(.ref b118)]) (rest := []) rfl rfl (by rw [hml]; rfl) (lenOf pd_0_1 rfl) (hb hby at_117) (W := 0) (Nat.le_of_eq rfl) (by decide) (by decide) (by decide) (by decide) ?_
            rintro v128 T128 L128 X128 ⟨rfl, M128, e128⟩
            have N128 := Fr.app N124 M128
            show own_Fin _ _ _ _ _ _ _ (T128.setTop (mkF m 120 #[.val (.int p0), .val (.int p1), .val (.int p2), .val (.int p3), .val (.int p4), .val (.int (p0 &&& (3 : Int32))), .val (.int ((1 : Int32) + ((p1 &&& (2147483647 : Int32)) % (3 : Int32)))), .val (.int (p2 % (1024 : Int32))), .val (.int (p3 % (1024 : Int32))), .val (.int (p4 % (1024 : Int32))), .val (.ref g3), .val (.ref b118), .unset, .unset, .unset, .unset] [(.double (FP.dadd (FP.i2d (p2 % (1024 : Int32))) (FP.i2d (p3 % (1024 : Int32)))))]))
            refine own_go (fun _ kk => XS.dstore X128.here hx rfl (hb hby at_120) rfl (l' := #[.val (.int p0), .val (.int p1), .val (.int p2), .val (.int p3), .val (.int p4), .val (.int (p0 &&& (3 : Int32))), .val (.int ((1 : Int32) + ((p1 &&& (2147483647 : Int32)) % (3 : Int32)))), .val (.int (p2 % (1024 : Int32))), .val (.int (p3 % (1024 : Int32))), .val (.int (p4 % (1024 : Int32))), .val (.ref g3), .val (.ref b118), .val (.double (FP.dadd (FP.i2d (p2 % (1024 : Int32))) (FP.i2d (p3 % (1024 : Int32))))), .second, .unset, .unset]) rfl (XS.iload X128.here hx rfl (hb hby at_122) rfl (XS.iload X128.here hx rfl (hb hby at_124) rfl (XS.iload X128.here hx rfl (hb hby at_126) rfl (XS.i2l X128.here hx rfl (hb hby at_128) rfl (XS.iload X128.here hx rfl (hb hby at_129) rfl (XS.i2l X128.here hx rfl (hb hby at_131) rfl (XS.iload X128.here hx rfl (hb hby at_132) rfl (XS.i2l X128.here hx rfl (hb hby at_134) rfl kk))))))))) ?_
            show own_Fin _ _ _ _ _ _ _ (T128.setTop (mkF m 135 #[.val (.int p0), .val (.int p1), .val (.int p2), .val (.int p3), .val (.int p4), .val (.int (p0 &&& (3 : Int32))), .val (.int ((1 : Int32) + ((p1 &&& (2147483647 : Int32)) % (3 : Int32)))), .val (.int (p2 % (1024 : Int32))), .val (.int (p3 % (1024 : Int32))), .val (.int (p4 % (1024 : Int32))), .val (.ref g3), .val (.ref b118), .val (.double (FP.dadd (FP.i2d (p2 % (1024 : Int32))) (FP.i2d (p3 % (1024 : Int32))))), .second, .unset, .unset] [(.long (Int32.toInt64 (p4 % (1024 : Int32)))), (.long (Int32.toInt64 (p3 % (1024 : Int32)))), (.long (Int32.toInt64 (p2 % (1024 : Int32)))), (.int ((1 : Int32) + ((p1 &&& (2147483647 : Int32)) % (3 : Int32)))), (.int (p0 &&& (3 : Int32)))]))
            refine own_callS X128 hx hZ hown (hw _ (List.mem_of_getElem? (i := 14) rfl)) (hw _ (List.mem_of_getElem? (i := 15) rfl)) (hw _ (List.mem_of_getElem? (i := 3) rfl)) (hw _ (List.mem_of_getElem? (i := 16) rfl)) (by decide) (rm3 l Z a0 hw (p0 &&& (3 : Int32)) ((1 : Int32) + ((p1 &&& (2147483647 : Int32)) % (3 : Int32))) (Int32.toInt64 (p2 % (1024 : Int32))) (Int32.toInt64 (p3 % (1024 : Int32))) (Int32.toInt64 (p4 % (1024 : Int32))) h124 n0 Z124) e128 (argsL := [(.int (p0 &&& (3 : Int32))), (.int ((1 : Int32) + ((p1 &&& (2147483647 : Int32)) % (3 : Int32)))), (.long (Int32.toInt64 (p2 % (1024 : Int32)))), (.long (Int32.toInt64 (p3 % (1024 : Int32)))), (.long (Int32.toInt64 (p4 % (1024 : Int32))))]) (rest := []) rfl rfl (by rw [hml]; rfl) (lenOf pd_0_2 rfl) (hb hby at_135) (W := 0) (Nat.le_of_eq rfl) (by decide) (by decide) (by decide) (by decide) ?_
            rintro v129 T129 L129 X129 ⟨rfl, M129, e129⟩
            have N129 := Fr.app N128 M129
            show own_Fin _ _ _ _ _ _ _ (T129.setTop (mkF m 138 #[.val (.int p0), .val (.int p1), .val (.int p2), .val (.int p3), .val (.int p4), .val (.int (p0 &&& (3 : Int32))), .val (.int ((1 : Int32) + ((p1 &&& (2147483647 : Int32)) % (3 : Int32)))), .val (.int (p2 % (1024 : Int32))), .val (.int (p3 % (1024 : Int32))), .val (.int (p4 % (1024 : Int32))), .val (.ref g3), .val (.ref b118), .val (.double (FP.dadd (FP.i2d (p2 % (1024 : Int32))) (FP.i2d (p3 % (1024 : Int32))))), .second, .unset, .unset] [(.long (own_f3 (p0 &&& (3 : Int32)) ((1 : Int32) + ((p1 &&& (2147483647 : Int32)) % (3 : Int32))) (Int32.toInt64 (p2 % (1024 : Int32))) (Int32.toInt64 (p3 % (1024 : Int32))) (Int32.toInt64 (p4 % (1024 : Int32)))))]))
            refine own_go (fun _ kk => XS.lstore X129.here hx rfl (hb hby at_138) rfl (l' := #[.val (.int p0), .val (.int p1), .val (.int p2), .val (.int p3), .val (.int p4), .val (.int (p0 &&& (3 : Int32))), .val (.int ((1 : Int32) + ((p1 &&& (2147483647 : Int32)) % (3 : Int32)))), .val (.int (p2 % (1024 : Int32))), .val (.int (p3 % (1024 : Int32))), .val (.int (p4 % (1024 : Int32))), .val (.ref g3), .val (.ref b118), .val (.double (FP.dadd (FP.i2d (p2 % (1024 : Int32))) (FP.i2d (p3 % (1024 : Int32))))), .second, .val (.long (own_f3 (p0 &&& (3 : Int32)) ((1 : Int32) + ((p1 &&& (2147483647 : Int32)) % (3 : Int32))) (Int32.toInt64 (p2 % (1024 : Int32))) (Int32.toInt64 (p3 % (1024 : Int32))) (Int32.toInt64 (p4 % (1024 : Int32))))), .second]) rfl (XS.dload X129.here hx rfl (hb hby at_140) rfl (XS.lload X129.here hx rfl (hb hby at_142) rfl (XS.l2dS X129.here hx rfl (hb hby at_144) rfl rfl (XS.dcmpS X129.here hx rfl (hb hby at_145) rfl rfl kk))))) ?_
            show own_Fin _ _ _ _ _ _ _ (T129.setTop (mkF m 146 #[.val (.int p0), .val (.int p1), .val (.int p2), .val (.int p3), .val (.int p4), .val (.int (p0 &&& (3 : Int32))), .val (.int ((1 : Int32) + ((p1 &&& (2147483647 : Int32)) % (3 : Int32)))), .val (.int (p2 % (1024 : Int32))), .val (.int (p3 % (1024 : Int32))), .val (.int (p4 % (1024 : Int32))), .val (.ref g3), .val (.ref b118), .val (.double (FP.dadd (FP.i2d (p2 % (1024 : Int32))) (FP.i2d (p3 % (1024 : Int32))))), .second, .val (.long (own_f3 (p0 &&& (3 : Int32)) ((1 : Int32) + ((p1 &&& (2147483647 : Int32)) % (3 : Int32))) (Int32.toInt64 (p2 % (1024 : Int32))) (Int32.toInt64 (p3 % (1024 : Int32))) (Int32.toInt64 (p4 % (1024 : Int32))))), .second] [(.int (cmpValue (FP.dcmp (FP.dadd (FP.i2d (p2 % (1024 : Int32))) (FP.i2d (p3 % (1024 : Int32)))) (FP.l2d (own_f3 (p0 &&& (3 : Int32)) ((1 : Int32) + ((p1 &&& (2147483647 : Int32)) % (3 : Int32))) (Int32.toInt64 (p2 % (1024 : Int32))) (Int32.toInt64 (p3 % (1024 : Int32))) (Int32.toInt64 (p4 % (1024 : Int32)))))) .l))]))
            by_cases hc146 : (cmpValue (FP.dcmp (FP.dadd (FP.i2d (p2 % (1024 : Int32))) (FP.i2d (p3 % (1024 : Int32)))) (FP.l2d (own_f3 (p0 &&& (3 : Int32)) ((1 : Int32) + ((p1 &&& (2147483647 : Int32)) % (3 : Int32))) (Int32.toInt64 (p2 % (1024 : Int32))) (Int32.toInt64 (p3 % (1024 : Int32))) (Int32.toInt64 (p4 % (1024 : Int32)))))) .l) = 0
            · refine own_go (fun _ kk => XS.ifNo X129.here hx rfl (hb hby at_146) rfl (XT.i0_ne_f hc146) (XS.iconst X129.here hx rfl (hb hby at_149) (XS.goto X129.here hx rfl (pc0 := 150) (pc' := 154) rfl (hb hby at_150) (by decide) (by decide) kk))) ?_
              show own_Fin _ _ _ _ _ _ _ (T129.setTop (mkF m 154 #[.val (.int p0), .val (.int p1), .val (.int p2), .val (.int p3), .val (.int p4), .val (.int (p0 &&& (3 : Int32))), .val (.int ((1 : Int32) + ((p1 &&& (2147483647 : Int32)) % (3 : Int32)))), .val (.int (p2 % (1024 : Int32))), .val (.int (p3 % (1024 : Int32))), .val (.int (p4 % (1024 : Int32))), .val (.ref g3), .val (.ref b118), .val (.double (FP.dadd (FP.i2d (p2 % (1024 : Int32))) (FP.i2d (p3 % (1024 : Int32))))), .second, .val (.long (own_f3 (p0 &&& (3 : Int32)) ((1 : Int32) + ((p1 &&& (2147483647 : Int32)) % (3 : Int32))) (Int32.toInt64 (p2 % (1024 : Int32))) (Int32.toInt64 (p3 % (1024 : Int32))) (Int32.toInt64 (p4 % (1024 : Int32))))), .second] [(.int (1 : Int32))]))
              exact own_retZ X129 hx hlk hret rfl (hb hby at_154) (by decide) (by decide) ⟨(by rw [own_f0, if_neg hk0, if_neg hk1, if_neg hk2, if_neg hc47, if_pos hc67, if_pos hc146]), N129⟩
            · refine own_go (fun _ kk => XS.ifYes X129.here hx rfl (pc0 := 146) (pc' := 153) rfl (hb hby at_146) rfl (XT.i0_ne_t hc146) (by decide) (by decide) (XS.iconst X129.here hx rfl (hb hby at_153) kk)) ?_
              show own_Fin _ _ _ _ _ _ _ (T129.setTop (mkF m 154 #[.val (.int p0), .val (.int p1), .val (.int p2), .val (.int p3), .val (.int p4), .val (.int (p0 &&& (3 : Int32))), .val (.int ((1 : Int32) + ((p1 &&& (2147483647 : Int32)) % (3 : Int32)))), .val (.int (p2 % (1024 : Int32))), .val (.int (p3 % (1024 : Int32))), .val (.int (p4 % (1024 : Int32))), .val (.ref g3), .val (.ref b118), .val (.double (FP.dadd (FP.i2d (p2 % (1024 : Int32))) (FP.i2d (p3 % (1024 : Int32))))), .second, .val (.long (own_f3 (p0 &&& (3 : Int32)) ((1 : Int32) + ((p1 &&& (2147483647 : Int32)) % (3 : Int32))) (Int32.toInt64 (p2 % (1024 : Int32))) (Int32.toInt64 (p3 % (1024 : Int32))) (Int32.toInt64 (p4 % (1024 : Int32))))), .second] [(.int (0 : Int32))]))
              exact own_retZ X129 hx hlk hret rfl (hb hby at_154) (by decide) (by decide) ⟨(by rw [own_f0, if_neg hk0, if_neg hk1, if_neg hk2, if_neg hc47, if_pos hc67, if_neg hc146]), N129⟩
          · refine own_go (fun _ kk => XS.icmpYes X1.here hx rfl (pc0 := 67) (pc' := 90) rfl (hb hby at_67) rfl (XT.ii_ne_t hc67) (by decide) (by decide) (XS.iconst X1.here hx rfl (hb hby at_90) kk)) ?_
            show own_Fin _ _ _ _ _ _ _ (T1.setTop (mkF m 91 #[.val (.int p0), .val (.int p1), .val (.int p2), .val (.int p3), .val (.int p4), .val (.int (p0 &&& (3 : Int32))), .val (.int ((1 : Int32) + ((p1 &&& (2147483647 : Int32)) % (3 : Int32)))), .val (.int (p2 % (1024 : Int32))), .val (.int (p3 % (1024 : Int32))), .val (.int (p4 % (1024 : Int32))), .val (.ref g3), .unset, .unset, .unset, .unset, .unset] [(.int (3 : Int32))]))
            refine own_newD X1 hx hZ (hw _ (List.mem_of_getElem? (i := 8) rfl)) e1 (hb hby at_91) (by decide) (cap := 3) (by decide) (by decide) (by decide) (by decide) ?_
            intro T130 h130 b130 g130 X130 e130 E130 A130 D130
            have g_b130 : n0 ≤ b130 := Nat.le_trans Z0 (Nat.le_of_eq g130.symm)
            have f131 := O0.ext E130
            have Z130 := Nat.le_trans Z0 E130.1
            have A130 : own_Ar Z h130 b130 .double (List.map Value.double [(0 : UInt64), (0 : UInt64), (0 : UInt64)]) := A130
            show own_Fin _ _ _ _ _ _ _ (T130.setTop (mkF m 93 #[.val (.int p0), .val (.int p1), .val (.int p2), .val (.int p3), .val (.int p4), .val (.int (p0 &&& (3 : Int32))), .val (.int ((1 : Int32) + ((p1 &&& (2147483647 : Int32)) % (3 : Int32)))), .val (.int (p2 % (1024 : Int32))), .val (.int (p3 % (1024 : Int32))), .val (.int (p4 % (1024 : Int32))), .val (.ref g3), .unset, .unset, .unset, .unset, .unset] [(.ref b130)]))
            refine own_go (fun _ kk => XS.dup X130.here hx rfl (hb hby at_93) rfl rfl (XS.iconst X130.here hx rfl (hb hby at_94) (XS.iload X130.here hx rfl (hb hby at_95) rfl (XS.i2dS X130.here hx rfl (hb hby at_97) rfl rfl kk)))) ?_
            show own_Fin _ _ _ _ _ _ _ (T130.setTop (mkF m 98 #[.val (.int p0), .val (.int p1), .val (.int p2), .val (.int p3), .val (.int p4), .val (.int (p0 &&& (3 : Int32))), .val (.int ((1 : Int32) + ((p1 &&& (2147483647 : Int32)) % (3 : Int32)))), .val (.int (p2 % (1024 : Int32))), .val (.int (p3 % (1024 : Int32))), .val (.int (p4 % (1024 : Int32))), .val (.ref g3), .unset, .unset, .unset, .unset, .unset] [(.double (FP.i2d (p2 % (1024 : Int32)))), (.int (0 : Int32)), (.ref b130), (.ref b130)]))
            refine own_stD X130 hx hZ e130 A130 (by decide) (by show (0 : Int32).toNatClampNeg < 3; decide) (hb hby at_98) ?_
            intro T132 h132 X132 e132 W132 A132
            have f133 := f131.wr W132 g_b130
            have f135 := D130.wr W132
            have Z132 := Nat.le_trans Z130 (Keep.of_wr W132).1
            have A132 : own_Ar Z h132 b130 .double (List.map Value.double [(FP.i2d (p2 % (1024 : Int32))), (0 : UInt64), (0 : UInt64)]) := A132
            have N132 := Fr.snoc X132 N1 g_b130
            show own_Fin _ _ _ _ _ _ _ (T132.setTop (mkF m 99 #[.val (.int p0), .val (.int p1), .val (.int p2), .val (.int p3), .val (.int p4), .val (.int (p0 &&& (3 : Int32))), .val (.int ((1 : Int32) + ((p1 &&& (2147483647 : Int32)) % (3 : Int32)))), .val (.int (p2 % (1024 : Int32))), .val (.int (p3 % (1024 : Int32))), .val (.int (p4 % (1024 : Int32))), .val (.ref g3), .unset, .unset, .unset, .unset, .unset] [(.ref b130)]))
            refine own_go (fun _ kk => XS.dup X132.here hx rfl (hb hby at_99) rfl rfl (XS.iconst X132.here hx rfl (hb hby at_100) (XS.iload X132.here hx rfl (hb hby at_101) rfl (XS.i2dS X132.here hx rfl (hb hby at_103) rfl rfl kk)))) ?_
            show own_Fin _ _ _ _ _ _ _ (T132.setTop (mkF m 104 #[.val (.int p0), .val (.int p1), .val (.int p2), .val (.int p3), .val (.int p4), .val (.int (p0 &&& (3 : Int32))), .val (.int ((1 : Int32) + ((p1 &&& (2147483647 : Int32)) % (3 : Int32)))), .val (.int (p2 % (1024 : Int32))), .val (.int (p3 % (1024 : Int32))), .val (.int (p4 % (1024 : Int32))), .val (.ref g3), .unset, .unset, .unset, .unset, .unset] [(.double (FP.i2d (p3 % (1024 : Int32)))), (.int (1 : Int32)), (.ref b130), (.ref b130)]))
            refine own_stD X132 hx hZ e132 A132 (by decide) (by show (1 : Int32).toNatClampNeg < 3; decide) (hb hby at_104) ?_
            intro T136 h136 X136 e136 W136 A136
            have f137 := f133.wr W136 g_b130
            have f139 := f135.wr W136
            have Z136 := Nat.le_trans Z132 (Keep.of_wr W136).1
            have A136 : own_Ar Z h136 b130 .double (List.map Value.double [(FP.i2d (p2 % (1024 : Int32))), (FP.i2d (p3 % (1024 : Int32))), (0 : UInt64)]) := A136
            have N136 := Fr.snoc X136 N132 g_b130
            show own_Fin _ _ _ _ _ _ _ (T136.setTop (mkF m 105 #[.val (.int p0), .val (.int p1), .val (.int p2), .val (.int p3), .val (.int p4), .val (.int (p0 &&& (3 : Int32))), .val (.int ((1 : Int32) + ((p1 &&& (2147483647 : Int32)) % (3 : Int32)))), .val (.int (p2 % (1024 : Int32))), .val (.int (p3 % (1024 : Int32))), .val (.int (p4 % (1024 : Int32))), .val (.ref g3), .unset, .unset, .unset, .unset, .unset] [(.ref b130)]))
            refine own_go (fun _ kk => XS.dup X136.here hx rfl (hb hby at_105) rfl rfl (XS.iconst X136.here hx rfl (hb hby at_106) (XS.iload X136.here hx rfl (hb hby at_107) rfl (XS.i2dS X136.here hx rfl (hb hby at_109) rfl rfl kk)))) ?_
            show own_Fin _ _ _ _ _ _ _ (T136.setTop (mkF m 110 #[.val (.int p0), .val (.int p1), .val (.int p2), .val (.int p3), .val (.int p4), .val (.int (p0 &&& (3 : Int32))), .val (.int ((1 : Int32) + ((p1 &&& (2147483647 : Int32)) % (3 : Int32)))), .val (.int (p2 % (1024 : Int32))), .val (.int (p3 % (1024 : Int32))), .val (.int (p4 % (1024 : Int32))), .val (.ref g3), .unset, .unset, .unset, .unset, .unset] [(.double (FP.i2d (p4 % (1024 : Int32)))), (.int (2 : Int32)), (.ref b130), (.ref b130)]))
            refine own_stD X136 hx hZ e136 A136 (by decide) (by show (2 : Int32).toNatClampNeg < 3; decide) (hb hby at_110) ?_
            intro T140 h140 X140 e140 W140 A140
            have f141 := f137.wr W140 g_b130
            have f143 := f139.wr W140
            have Z140 := Nat.le_trans Z136 (Keep.of_wr W140).1
            have A140 : own_Ar Z h140 b130 .double (List.map Value.double [(FP.i2d (p2 % (1024 : Int32))), (FP.i2d (p3 % (1024 : Int32))), (FP.i2d (p4 % (1024 : Int32)))]) := A140
            have N140 := Fr.snoc X140 N136 g_b130
            show own_Fin _ _ _ _ _ _ _ (T140.setTop (mkF m 111 #[.val (.int p0), .val (.int p1), .val (.int p2), .val (.int p3), .val (.int p4), .val (.int (p0 &&& (3 : Int32))), .val (.int ((1 : Int32) + ((p1 &&& (2147483647 : Int32)) % (3 : Int32)))), .val (.int (p2 % (1024 : Int32))), .val (.int (p3 % (1024 : Int32))), .val (.int (p4 % (1024 : Int32))), .val (.ref g3), .unset, .unset, .unset, .unset, .unset] [(.ref b130)]))
            refine own_go (fun _ kk => XS.astore X140.here hx rfl (hb hby at_111) rfl rfl (l' := #[.val (.int p0), .val (.int p1), .val (.int p2), .val (.int p3), .val (.int p4), .val (.int (p0 &&& (3 : Int32))), .val (.int ((1 : Int32) + ((p1 &&& (2147483647 : Int32)) % (3 : Int32)))), .val (.int (p2 % (1024 : Int32))), .val (.int (p3 % (1024 : Int32))), .val (.int (p4 % (1024 : Int32))), .val (.ref g3), .val (.ref b130), .unset, .unset, .unset, .unset]) rfl (XS.aload X140.here hx rfl (hb hby at_113) rfl rfl (XS.aload X140.here hx rfl (hb hby at_115) rfl rfl kk))) ?_
            show own_Fin _ _ _ _ _ _ _ (T140.setTop (mkF m 117 #[.val (.int p0), .val (.int p1), .val (.int p2), .val (.int p3), .val (.int p4), .val (.int (p0 &&& (3 : Int32))), .val (.int ((1 : Int32) + ((p1 &&& (2147483647 : Int32)) % (3 : Int32)))), .val (.int (p2 % (1024 : Int32))), .val (.int (p3 % (1024 : Int32))), .val (.int (p4 % (1024 : Int32))), .val (.ref g3), .val (.ref b130), .unset, .unset, .unset, .unset] [(.ref b130), (.ref g3)]))
            refine own_callV X140 hx hZ hown (hw _ (List.mem_of_getElem? (i := 9) rfl)) (hw _ (List.mem_of_getElem? (i := 10) rfl)) (notFace_of_selects (args := #[]) (mvT hZ (hw _ (List.mem_of_getElem? (i := 12) rfl)))) (hw _ (List.mem_of_getElem? (i := 12) rfl)) (hw _ (List.mem_of_getElem? (i := 11) rfl)) (hw _ (List.mem_of_getElem? (i := 13) rfl)) (hw _ (List.mem_of_getElem? (i := 6) rfl)) (by decide) (rm2k3n3 l Z a0 hw g3 b130 h140 n0 Z140 (E3.ext f141.2) (F3.ext f141.2) (FP.i2d (p2 % (1024 : Int32))) (FP.i2d (p3 % (1024 : Int32))) (FP.i2d (p4 % (1024 : Int32))) A140 (own_noNaN (own_a2 _ _)) (own_noNaN (own_a3 _ _ _))) e140 (E3.ext f141.2) (argsL := [(.ref b130)]) (rest := []) rfl rfl (by rw [hml]; rfl) (lenOf pd_0_1 rfl) (hb hby at_117) (W := 0) (Nat.le_of_eq rfl) (by decide) (by decide) (by decide) (by decide) ?_
            rintro v144 T144 L144 X144 ⟨rfl, M144, e144⟩
            have N144 := Fr.app N140 M144
            show own_Fin _ _ _ _ _ _ _ (T144.setTop (mkF m 120 #[.val (.int p0), .val (.int p1), .val (.int p2), .val (.int p3), .val (.int p4), .val (.int (p0 &&& (3 : Int32))), .val (.int ((1 : Int32) + ((p1 &&& (2147483647 : Int32)) % (3 : Int32)))), .val (.int (p2 % (1024 : Int32))), .val (.int (p3 % (1024 : Int32))), .val (.int (p4 % (1024 : Int32))), .val (.ref g3), .val (.ref b130), .unset, .unset, .unset, .unset] [(.double (FP.dadd (FP.dadd (FP.i2d (p2 % (1024 : Int32))) (FP.i2d (p3 % (1024 : Int32)))) (FP.i2d (p4 % (1024 : Int32)))))]))
            refine own_go (fun _ kk => XS.dstore X144.here hx rfl (hb hby at_120) rfl (l' := #[.val (.int p0), .val (.int p1), .val (.int p2), .val (.int p3), .val (.int p4), .val (.int (p0 &&& (3 : Int32))), .val (.int ((1 : Int32) + ((p1 &&& (2147483647 : Int32)) % (3 : Int32)))), .val (.int (p2 % (1024 : Int32))), .val (.int (p3 % (1024 : Int32))), .val (.int (p4 % (1024 : Int32))), .val (.ref g3), .val (.ref b130), .val (.double (FP.dadd (FP.dadd (FP.i2d (p2 % (1024 : Int32))) (FP.i2d (p3 % (1024 : Int32)))) (FP.i2d (p4 % (1024 : Int32))))), .second, .unset, .unset]) rfl (XS.iload X144.here hx rfl (hb hby at_122) rfl (XS.iload X144.here hx rfl (hb hby at_124) rfl (XS.iload X144.here hx rfl (hb hby at_126) rfl (XS.i2l X144.here hx rfl (hb hby at_128) rfl (XS.iload X144.here hx rfl (hb hby at_129) rfl (XS.i2l X144.here hx rfl (hb hby at_131) rfl (XS.iload X144.here hx rfl (hb hby at_132) rfl (XS.i2l X144.here hx rfl (hb hby at_134) rfl kk))))))))) ?_
            show own_Fin _ _ _ _ _ _ _ (T144.setTop (mkF m 135 #[.val (.int p0), .val (.int p1), .val (.int p2), .val (.int p3), .val (.int p4), .val (.int (p0 &&& (3 : Int32))), .val (.int ((1 : Int32) + ((p1 &&& (2147483647 : Int32)) % (3 : Int32)))), .val (.int (p2 % (1024 : Int32))), .val (.int (p3 % (1024 : Int32))), .val (.int (p4 % (1024 : Int32))), .val (.ref g3), .val (.ref b130), .val (.double (FP.dadd (FP.dadd (FP.i2d (p2 % (1024 : Int32))) (FP.i2d (p3 % (1024 : Int32)))) (FP.i2d (p4 % (1024 : Int32))))), .second, .unset, .unset] [(.long (Int32.toInt64 (p4 % (1024 : Int32)))), (.long (Int32.toInt64 (p3 % (1024 : Int32)))), (.long (Int32.toInt64 (p2 % (1024 : Int32)))), (.int ((1 : Int32) + ((p1 &&& (2147483647 : Int32)) % (3 : Int32)))), (.int (p0 &&& (3 : Int32)))]))
            refine own_callS X144 hx hZ hown (hw _ (List.mem_of_getElem? (i := 14) rfl)) (hw _ (List.mem_of_getElem? (i := 15) rfl)) (hw _ (List.mem_of_getElem? (i := 3) rfl)) (hw _ (List.mem_of_getElem? (i := 16) rfl)) (by decide) (rm3 l Z a0 hw (p0 &&& (3 : Int32)) ((1 : Int32) + ((p1 &&& (2147483647 : Int32)) % (3 : Int32))) (Int32.toInt64 (p2 % (1024 : Int32))) (Int32.toInt64 (p3 % (1024 : Int32))) (Int32.toInt64 (p4 % (1024 : Int32))) h140 n0 Z140) e144 (argsL := [(.int (p0 &&& (3 : Int32))), (.int ((1 : Int32) + ((p1 &&& (2147483647 : Int32)) % (3 : Int32)))), (.long (Int32.toInt64 (p2 % (1024 : Int32)))), (.long (Int32.toInt64 (p3 % (1024 : Int32)))), (.long (Int32.toInt64 (p4 % (1024 : Int32))))]) (rest := []) rfl rfl (by rw [hml]; rfl) (lenOf pd_0_2 rfl) (hb hby at_135) (W := 0) (Nat.le_of_eq rfl) (by decide) (by decide) (by decide) (by decide) ?_
            rintro v145 T145 L145 X145 ⟨rfl, M145, e145⟩
            have N145 := Fr.app N144 M145
            show own_Fin _ _ _ _ _ _ _ (T145.setTop (mkF m 138 #[.val (.int p0), .val (.int p1), .val (.int p2), .val (.int p3), .val (.int p4), .val (.int (p0 &&& (3 : Int32))), .val (.int ((1 : Int32) + ((p1 &&& (2147483647 : Int32)) % (3 : Int32)))), .val (.int (p2 % (1024 : Int32))), .val (.int (p3 % (1024 : Int32))), .val (.int (p4 % (1024 : Int32))), .val (.ref g3), .val (.ref b130), .val (.double (FP.dadd (FP.dadd (FP.i2d (p2 % (1024 : Int32))) (FP.i2d (p3 % (1024 : Int32)))) (FP.i2d (p4 % (1024 : Int32))))), .second, .unset, .unset] [(.long (own_f3 (p0 &&& (3 : Int32)) ((1 : Int32) + ((p1 &&& (2147483647 : Int32)) % (3 : Int32))) (Int32.toInt64 (p2 % (1024 : Int32))) (Int32.toInt64 (p3 % (1024 : Int32))) (Int32.toInt64 (p4 % (1024 : Int32)))))]))
            refine own_go (fun _ kk => XS.lstore X145.here hx rfl (hb hby at_138) rfl (l' := #[.val (.int p0), .val (.int p1), .val (.int p2), .val (.int p3), .val (.int p4), .val (.int (p0 &&& (3 : Int32))), .val (.int ((1 : Int32) + ((p1 &&& (2147483647 : Int32)) % (3 : Int32)))), .val (.int (p2 % (1024 : Int32))), .val (.int (p3 % (1024 : Int32))), .val (.int (p4 % (1024 : Int32))), .val (.ref g3), .val (.ref b130), .val (.double (FP.dadd (FP.dadd (FP.i2d (p2 % (1024 : Int32))) (FP.i2d (p3 % (1024 : Int32)))) (FP.i2d (p4 % (1024 : Int32))))), .second, .val (.long (own_f3 (p0 &&& (3 : Int32)) ((1 : Int32) + ((p1 &&& (2147483647 : Int32)) % (3 : Int32))) (Int32.toInt64 (p2 % (1024 : Int32))) (Int32.toInt64 (p3 % (1024 : Int32))) (Int32.toInt64 (p4 % (1024 : Int32))))), .second]) rfl (XS.dload X145.here hx rfl (hb hby at_140) rfl (XS.lload X145.here hx rfl (hb hby at_142) rfl (XS.l2dS X145.here hx rfl (hb hby at_144) rfl rfl (XS.dcmpS X145.here hx rfl (hb hby at_145) rfl rfl kk))))) ?_
            show own_Fin _ _ _ _ _ _ _ (T145.setTop (mkF m 146 #[.val (.int p0), .val (.int p1), .val (.int p2), .val (.int p3), .val (.int p4), .val (.int (p0 &&& (3 : Int32))), .val (.int ((1 : Int32) + ((p1 &&& (2147483647 : Int32)) % (3 : Int32)))), .val (.int (p2 % (1024 : Int32))), .val (.int (p3 % (1024 : Int32))), .val (.int (p4 % (1024 : Int32))), .val (.ref g3), .val (.ref b130), .val (.double (FP.dadd (FP.dadd (FP.i2d (p2 % (1024 : Int32))) (FP.i2d (p3 % (1024 : Int32)))) (FP.i2d (p4 % (1024 : Int32))))), .second, .val (.long (own_f3 (p0 &&& (3 : Int32)) ((1 : Int32) + ((p1 &&& (2147483647 : Int32)) % (3 : Int32))) (Int32.toInt64 (p2 % (1024 : Int32))) (Int32.toInt64 (p3 % (1024 : Int32))) (Int32.toInt64 (p4 % (1024 : Int32))))), .second] [(.int (cmpValue (FP.dcmp (FP.dadd (FP.dadd (FP.i2d (p2 % (1024 : Int32))) (FP.i2d (p3 % (1024 : Int32)))) (FP.i2d (p4 % (1024 : Int32)))) (FP.l2d (own_f3 (p0 &&& (3 : Int32)) ((1 : Int32) + ((p1 &&& (2147483647 : Int32)) % (3 : Int32))) (Int32.toInt64 (p2 % (1024 : Int32))) (Int32.toInt64 (p3 % (1024 : Int32))) (Int32.toInt64 (p4 % (1024 : Int32)))))) .l))]))
            by_cases hc146 : (cmpValue (FP.dcmp (FP.dadd (FP.dadd (FP.i2d (p2 % (1024 : Int32))) (FP.i2d (p3 % (1024 : Int32)))) (FP.i2d (p4 % (1024 : Int32)))) (FP.l2d (own_f3 (p0 &&& (3 : Int32)) ((1 : Int32) + ((p1 &&& (2147483647 : Int32)) % (3 : Int32))) (Int32.toInt64 (p2 % (1024 : Int32))) (Int32.toInt64 (p3 % (1024 : Int32))) (Int32.toInt64 (p4 % (1024 : Int32)))))) .l) = 0
            · refine own_go (fun _ kk => XS.ifNo X145.here hx rfl (hb hby at_146) rfl (XT.i0_ne_f hc146) (XS.iconst X145.here hx rfl (hb hby at_149) (XS.goto X145.here hx rfl (pc0 := 150) (pc' := 154) rfl (hb hby at_150) (by decide) (by decide) kk))) ?_
              show own_Fin _ _ _ _ _ _ _ (T145.setTop (mkF m 154 #[.val (.int p0), .val (.int p1), .val (.int p2), .val (.int p3), .val (.int p4), .val (.int (p0 &&& (3 : Int32))), .val (.int ((1 : Int32) + ((p1 &&& (2147483647 : Int32)) % (3 : Int32)))), .val (.int (p2 % (1024 : Int32))), .val (.int (p3 % (1024 : Int32))), .val (.int (p4 % (1024 : Int32))), .val (.ref g3), .val (.ref b130), .val (.double (FP.dadd (FP.dadd (FP.i2d (p2 % (1024 : Int32))) (FP.i2d (p3 % (1024 : Int32)))) (FP.i2d (p4 % (1024 : Int32))))), .second, .val (.long (own_f3 (p0 &&& (3 : Int32)) ((1 : Int32) + ((p1 &&& (2147483647 : Int32)) % (3 : Int32))) (Int32.toInt64 (p2 % (1024 : Int32))) (Int32.toInt64 (p3 % (1024 : Int32))) (Int32.toInt64 (p4 % (1024 : Int32))))), .second] [(.int (1 : Int32))]))
              exact own_retZ X145 hx hlk hret rfl (hb hby at_154) (by decide) (by decide) ⟨(by rw [own_f0, if_neg hk0, if_neg hk1, if_neg hk2, if_neg hc47, if_neg hc67, if_pos hc146]), N145⟩
            · refine own_go (fun _ kk => XS.ifYes X145.here hx rfl (pc0 := 146) (pc' := 153) rfl (hb hby at_146) rfl (XT.i0_ne_t hc146) (by decide) (by decide) (XS.iconst X145.here hx rfl (hb hby at_153) kk)) ?_
              show own_Fin _ _ _ _ _ _ _ (T145.setTop (mkF m 154 #[.val (.int p0), .val (.int p1), .val (.int p2), .val (.int p3), .val (.int p4), .val (.int (p0 &&& (3 : Int32))), .val (.int ((1 : Int32) + ((p1 &&& (2147483647 : Int32)) % (3 : Int32)))), .val (.int (p2 % (1024 : Int32))), .val (.int (p3 % (1024 : Int32))), .val (.int (p4 % (1024 : Int32))), .val (.ref g3), .val (.ref b130), .val (.double (FP.dadd (FP.dadd (FP.i2d (p2 % (1024 : Int32))) (FP.i2d (p3 % (1024 : Int32)))) (FP.i2d (p4 % (1024 : Int32))))), .second, .val (.long (own_f3 (p0 &&& (3 : Int32)) ((1 : Int32) + ((p1 &&& (2147483647 : Int32)) % (3 : Int32))) (Int32.toInt64 (p2 % (1024 : Int32))) (Int32.toInt64 (p3 % (1024 : Int32))) (Int32.toInt64 (p4 % (1024 : Int32))))), .second] [(.int (0 : Int32))]))
              exact own_retZ X145 hx hlk hret rfl (hb hby at_154) (by decide) (by decide) ⟨(by rw [own_f0, if_neg hk0, if_neg hk1, if_neg hk2, if_neg hc47, if_neg hc67, if_neg hc146]), N145⟩

open Jvm.FP.Core in
theorem own_fin {i : Int} {got : UInt64} {want : Int64} (h : DInt i got) (e : want.toInt = i) (hb : i.natAbs ≤ 2 ^ 53) : cmpValue (FP.dcmp got (FP.l2d want)) .l = 0 := by
  have hl : DInt i (FP.l2d want) := by
    have := l2d_int (a := want) (by rw [e]; exact hb)
    rw [e] at this; exact this
  have q : FP.dcmp got (FP.l2d want) = some (compare i i) := dcmp_int h hl
  rw [q, show compare i i = .eq from Int.compare_eq_eq.mpr rfl]; rfl
def own_t (x : Int32) : Int64 := Int32.toInt64 (x % (1024 : Int32))
theorem own_t1 (x : Int32) : (own_t x).toInt = own_r x := Jvm.Kit.i64_of_i32 _
theorem own_rb (x : Int32) : (own_r x).natAbs ≤ 1023 := own_sm x
theorem own_ta2 (x y : Int32) : (own_t x + own_t y).toInt = own_r x + own_r y := by
  have := own_rb x; have := own_rb y
  rw [Jvm.Kit.i64_add (by rw [own_t1, own_t1]; omega) (by rw [own_t1, own_t1]; omega), own_t1, own_t1]
theorem own_ta3 (x y z : Int32) : (own_t x + own_t y + own_t z).toInt = own_r x + own_r y + own_r z := by
  have := own_rb x; have := own_rb y; have := own_rb z
  rw [Jvm.Kit.i64_add (by rw [own_ta2, own_t1]; omega) (by rw [own_ta2, own_t1]; omega), own_ta2, own_t1]
theorem own_tm2 (x y : Int32) : (own_t x * own_t y).toInt = own_r x * own_r y := by
  have := own_mb2 x y
  rw [Jvm.Kit.i64_mul (by rw [own_t1, own_t1]; omega) (by rw [own_t1, own_t1]; omega), own_t1, own_t1]
theorem own_tm3 (x y z : Int32) : (own_t x * own_t y * own_t z).toInt = own_r x * own_r y * own_r z := by
  have := own_mb3 x y z
  rw [Jvm.Kit.i64_mul (by rw [own_tm2, own_t1]; omega) (by rw [own_tm2, own_t1]; omega), own_tm2, own_t1]
theorem own_lt64 (a b : Int64) : a < b ↔ a.toInt < b.toInt := Int64.lt_iff_toInt_lt
theorem own_tp2 (x y : Int32) : (if own_t y < own_t x then own_t y else own_t x).toInt = min (own_r x) (own_r y) := by
  by_cases h : own_t y < own_t x
  · rw [if_pos h, own_t1]; rw [own_lt64, own_t1, own_t1] at h; omega
  · rw [if_neg h, own_t1]; rw [own_lt64, own_t1, own_t1] at h; omega
theorem own_tp3 (m : Int64) (i : Int) (hm : m.toInt = i) (z : Int32) : (if own_t z < m then own_t z else m).toInt = min i (own_r z) := by
  by_cases h : own_t z < m
  · rw [if_pos h, own_t1]; rw [own_lt64, own_t1, hm] at h; omega
  · rw [if_neg h, hm]; rw [own_lt64, own_t1, hm] at h; omega

theorem own_w01 (x y z : Int32) : (own_f3 (0 : Int32) (1 : Int32) (own_t x) (own_t y) (own_t z)).toInt = own_r x := by
  show (own_t x : Int64).toInt = _
  exact own_t1 x
theorem own_w02 (x y z : Int32) : (own_f3 (0 : Int32) (2 : Int32) (own_t x) (own_t y) (own_t z)).toInt = own_r x + own_r y := by
  show (own_t x + own_t y : Int64).toInt = _
  exact own_ta2 x y
theorem own_w03 (x y z : Int32) : (own_f3 (0 : Int32) (3 : Int32) (own_t x) (own_t y) (own_t z)).toInt = own_r x + own_r y + own_r z := by
  show (own_t x + own_t y + own_t z : Int64).toInt = _
  exact own_ta3 x y z
theorem own_w11 (x y z : Int32) : (own_f3 (1 : Int32) (1 : Int32) (own_t x) (own_t y) (own_t z)).toInt = own_r x := by
  show (own_t x : Int64).toInt = _
  exact own_t1 x
theorem own_w12 (x y z : Int32) : (own_f3 (1 : Int32) (2 : Int32) (own_t x) (own_t y) (own_t z)).toInt = own_r x * own_r y := by
  show (own_t x * own_t y : Int64).toInt = _
  exact own_tm2 x y
theorem own_w13 (x y z : Int32) : (own_f3 (1 : Int32) (3 : Int32) (own_t x) (own_t y) (own_t z)).toInt = own_r x * own_r y * own_r z := by
  show (own_t x * own_t y * own_t z : Int64).toInt = _
  exact own_tm3 x y z
theorem own_w21 (x y z : Int32) : (own_f3 (2 : Int32) (1 : Int32) (own_t x) (own_t y) (own_t z)).toInt = own_r x := by
  show (own_t x : Int64).toInt = _
  exact own_t1 x
theorem own_w22 (x y z : Int32) : (own_f3 (2 : Int32) (2 : Int32) (own_t x) (own_t y) (own_t z)).toInt = min (own_r x) (own_r y) := by
  have e : own_f3 (2 : Int32) (2 : Int32) (own_t x) (own_t y) (own_t z) = if own_t y < own_t x then own_t y else own_t x := by unfold own_f3; simp
  rw [e]; exact own_tp2 x y
theorem own_w23 (x y z : Int32) : (own_f3 (2 : Int32) (3 : Int32) (own_t x) (own_t y) (own_t z)).toInt = min (min (own_r x) (own_r y)) (own_r z) := by
  have e : own_f3 (2 : Int32) (3 : Int32) (own_t x) (own_t y) (own_t z) = if own_t z < (if own_t y < own_t x then own_t y else own_t x) then own_t z else (if own_t y < own_t x then own_t y else own_t x) := by
    unfold own_f3
    by_cases h : own_t y < own_t x <;> simp [h]
  rw [e]; exact own_tp3 _ _ (own_tp2 x y) z
theorem own_w31 (x y z : Int32) : (own_f3 (3 : Int32) (1 : Int32) (own_t x) (own_t y) (own_t z)).toInt = own_r x := by
  show (own_t x : Int64).toInt = _
  exact own_t1 x
theorem own_w32 (x y z : Int32) : (own_f3 (3 : Int32) (2 : Int32) (own_t x) (own_t y) (own_t z)).toInt = own_r x + own_r y := by
  show (own_t x + own_t y : Int64).toInt = _
  exact own_ta2 x y
theorem own_w33 (x y z : Int32) : (own_f3 (3 : Int32) (3 : Int32) (own_t x) (own_t y) (own_t z)).toInt = own_r x + own_r y + own_r z := by
  show (own_t x + own_t y + own_t z : Int64).toInt = _
  exact own_ta3 x y z
theorem own_c01 (x y z : Int32) : (if (cmpValue (FP.dcmp (FP.i2d (x % (1024 : Int32))) (FP.l2d (own_f3 (0 : Int32) (1 : Int32) (Int32.toInt64 (x % (1024 : Int32))) (Int32.toInt64 (y % (1024 : Int32))) (Int32.toInt64 (z % (1024 : Int32)))))) .l) = 0 then (1 : Int32) else 0) = 1 := if_pos (own_fin (own_d1 x) (own_w01 x y z) (by have := own_rb x; have := own_rb y; have := own_rb z; omega))
theorem own_c02 (x y z : Int32) : (if (cmpValue (FP.dcmp (FP.dadd (FP.i2d (x % (1024 : Int32))) (FP.i2d (y % (1024 : Int32)))) (FP.l2d (own_f3 (0 : Int32) (2 : Int32) (Int32.toInt64 (x % (1024 : Int32))) (Int32.toInt64 (y % (1024 : Int32))) (Int32.toInt64 (z % (1024 : Int32)))))) .l) = 0 then (1 : Int32) else 0) = 1 := if_pos (own_fin (own_a2 x y) (own_w02 x y z) (by have := own_rb x; have := own_rb y; have := own_rb z; omega))
theorem own_c03 (x y z : Int32) : (if (cmpValue (FP.dcmp (FP.dadd (FP.dadd (FP.i2d (x % (1024 : Int32))) (FP.i2d (y % (1024 : Int32)))) (FP.i2d (z % (1024 : Int32)))) (FP.l2d (own_f3 (0 : Int32) (3 : Int32) (Int32.toInt64 (x % (1024 : Int32))) (Int32.toInt64 (y % (1024 : Int32))) (Int32.toInt64 (z % (1024 : Int32)))))) .l) = 0 then (1 : Int32) else 0) = 1 := if_pos (own_fin (own_a3 x y z) (own_w03 x y z) (by have := own_rb x; have := own_rb y; have := own_rb z; omega))
theorem own_c11 (x y z : Int32) : (if (cmpValue (FP.dcmp (FP.i2d (x % (1024 : Int32))) (FP.l2d (own_f3 (1 : Int32) (1 : Int32) (Int32.toInt64 (x % (1024 : Int32))) (Int32.toInt64 (y % (1024 : Int32))) (Int32.toInt64 (z % (1024 : Int32)))))) .l) = 0 then (1 : Int32) else 0) = 1 := if_pos (own_fin (own_d1 x) (own_w11 x y z) (by have := own_rb x; omega))
theorem own_c12 (x y z : Int32) : (if (cmpValue (FP.dcmp (FP.dmul (FP.i2d (x % (1024 : Int32))) (FP.i2d (y % (1024 : Int32)))) (FP.l2d (own_f3 (1 : Int32) (2 : Int32) (Int32.toInt64 (x % (1024 : Int32))) (Int32.toInt64 (y % (1024 : Int32))) (Int32.toInt64 (z % (1024 : Int32)))))) .l) = 0 then (1 : Int32) else 0) = 1 := if_pos (own_fin (own_m2 x y) (own_w12 x y z) (by have := own_mb2 x y; omega))
theorem own_c13 (x y z : Int32) : (if (cmpValue (FP.dcmp (FP.dmul (FP.dmul (FP.i2d (x % (1024 : Int32))) (FP.i2d (y % (1024 : Int32)))) (FP.i2d (z % (1024 : Int32)))) (FP.l2d (own_f3 (1 : Int32) (3 : Int32) (Int32.toInt64 (x % (1024 : Int32))) (Int32.toInt64 (y % (1024 : Int32))) (Int32.toInt64 (z % (1024 : Int32)))))) .l) = 0 then (1 : Int32) else 0) = 1 := if_pos (own_fin (own_m3 x y z) (own_w13 x y z) (by have := own_mb3 x y z; omega))
theorem own_c21 (x y z : Int32) : (if (cmpValue (FP.dcmp (FP.i2d (x % (1024 : Int32))) (FP.l2d (own_f3 (2 : Int32) (1 : Int32) (Int32.toInt64 (x % (1024 : Int32))) (Int32.toInt64 (y % (1024 : Int32))) (Int32.toInt64 (z % (1024 : Int32)))))) .l) = 0 then (1 : Int32) else 0) = 1 := if_pos (own_fin (own_d1 x) (own_w21 x y z) (by have := own_rb x; have := own_rb y; have := own_rb z; omega))
theorem own_c22 (x y z : Int32) : (if (cmpValue (FP.dcmp (Native.java_lang_Math.nans.pick64 false (FP.i2d (x % (1024 : Int32))) (FP.i2d (y % (1024 : Int32)))) (FP.l2d (own_f3 (2 : Int32) (2 : Int32) (Int32.toInt64 (x % (1024 : Int32))) (Int32.toInt64 (y % (1024 : Int32))) (Int32.toInt64 (z % (1024 : Int32)))))) .l) = 0 then (1 : Int32) else 0) = 1 := if_pos (own_fin (own_p2 x y) (own_w22 x y z) (by have := own_rb x; have := own_rb y; have := own_rb z; omega))
theorem own_c23 (x y z : Int32) : (if (cmpValue (FP.dcmp (Native.java_lang_Math.nans.pick64 false (Native.java_lang_Math.nans.pick64 false (FP.i2d (x % (1024 : Int32))) (FP.i2d (y % (1024 : Int32)))) (FP.i2d (z % (1024 : Int32)))) (FP.l2d (own_f3 (2 : Int32) (3 : Int32) (Int32.toInt64 (x % (1024 : Int32))) (Int32.toInt64 (y % (1024 : Int32))) (Int32.toInt64 (z % (1024 : Int32)))))) .l) = 0 then (1 : Int32) else 0) = 1 := if_pos (own_fin (own_p3 x y z) (own_w23 x y z) (by have := own_rb x; have := own_rb y; have := own_rb z; omega))
theorem own_c31 (x y z : Int32) : (if (cmpValue (FP.dcmp (FP.i2d (x % (1024 : Int32))) (FP.l2d (own_f3 (3 : Int32) (1 : Int32) (Int32.toInt64 (x % (1024 : Int32))) (Int32.toInt64 (y % (1024 : Int32))) (Int32.toInt64 (z % (1024 : Int32)))))) .l) = 0 then (1 : Int32) else 0) = 1 := if_pos (own_fin (own_d1 x) (own_w31 x y z) (by have := own_rb x; have := own_rb y; have := own_rb z; omega))
theorem own_c32 (x y z : Int32) : (if (cmpValue (FP.dcmp (FP.dadd (FP.i2d (x % (1024 : Int32))) (FP.i2d (y % (1024 : Int32)))) (FP.l2d (own_f3 (3 : Int32) (2 : Int32) (Int32.toInt64 (x % (1024 : Int32))) (Int32.toInt64 (y % (1024 : Int32))) (Int32.toInt64 (z % (1024 : Int32)))))) .l) = 0 then (1 : Int32) else 0) = 1 := if_pos (own_fin (own_a2 x y) (own_w32 x y z) (by have := own_rb x; have := own_rb y; have := own_rb z; omega))
theorem own_c33 (x y z : Int32) : (if (cmpValue (FP.dcmp (FP.dadd (FP.dadd (FP.i2d (x % (1024 : Int32))) (FP.i2d (y % (1024 : Int32)))) (FP.i2d (z % (1024 : Int32)))) (FP.l2d (own_f3 (3 : Int32) (3 : Int32) (Int32.toInt64 (x % (1024 : Int32))) (Int32.toInt64 (y % (1024 : Int32))) (Int32.toInt64 (z % (1024 : Int32)))))) .l) = 0 then (1 : Int32) else 0) = 1 := if_pos (own_fin (own_a3 x y z) (own_w33 x y z) (by have := own_rb x; have := own_rb y; have := own_rb z; omega))
theorem own_k4 (a : Int32) : (a &&& (3 : Int32)) = 0 ∨ (a &&& (3 : Int32)) = 1 ∨ (a &&& (3 : Int32)) = 2 ∨ (a &&& (3 : Int32)) = 3 := by
  have e : (a &&& (3 : Int32)).toInt = a.toInt % 4 := Jvm.Kit.i32_mask a 3 (k := 2) (by decide) (by decide)
  have h : a.toInt % 4 = 0 ∨ a.toInt % 4 = 1 ∨ a.toInt % 4 = 2 ∨ a.toInt % 4 = 3 := by omega
  rcases h with h | h | h | h
  · exact Or.inl (Int32.toInt_inj.mp (e.trans h))
  · exact Or.inr (Or.inl (Int32.toInt_inj.mp (e.trans h)))
  · exact Or.inr (Or.inr (Or.inl (Int32.toInt_inj.mp (e.trans h))))
  · exact Or.inr (Or.inr (Or.inr (Int32.toInt_inj.mp (e.trans h))))
theorem own_m31 (a : Int32) : (a &&& (2147483647 : Int32)).toInt = a.toInt % 2147483648 := Jvm.Kit.i32_mask a 2147483647 (k := 31) (by decide) (by decide)
theorem own_n3 (a : Int32) : (1 : Int32) + (a &&& (2147483647 : Int32)) % (3 : Int32) = 1 ∨ (1 : Int32) + (a &&& (2147483647 : Int32)) % (3 : Int32) = 2 ∨ (1 : Int32) + (a &&& (2147483647 : Int32)) % (3 : Int32) = 3 := by
  have e : ((a &&& (2147483647 : Int32)) % (3 : Int32)).toInt = (a.toInt % 2147483648) % 3 := by rw [Jvm.Kit.i32_rem_nonneg (by rw [own_m31]; omega), own_m31]; rfl
  have h : (a.toInt % 2147483648) % 3 = 0 ∨ (a.toInt % 2147483648) % 3 = 1 ∨ (a.toInt % 2147483648) % 3 = 2 := by omega
  rcases h with h | h | h
  · exact Or.inl (by rw [Int32.toInt_inj.mp (e.trans h : _ = (0 : Int32).toInt)]; rfl)
  · exact Or.inr (Or.inl (by rw [Int32.toInt_inj.mp (e.trans h : _ = (1 : Int32).toInt)]; rfl))
  · exact Or.inr (Or.inr (by rw [Int32.toInt_inj.mp (e.trans h : _ = (2 : Int32).toInt)]; rfl))
theorem own_law (p0 p1 x y z : Int32) : own_f0 p0 p1 x y z = 1 := by
  unfold own_f0
  rcases own_k4 p0 with hk | hk | hk | hk <;> rcases own_n3 p1 with hn | hn | hn <;> rw [hk, hn]
  · exact own_c01 x y z
  · exact own_c02 x y z
  · exact own_c03 x y z
  · exact own_c11 x y z
  · exact own_c12 x y z
  · exact own_c13 x y z
  · exact own_c21 x y z
  · exact own_c22 x y z
  · exact own_c23 x y z
  · exact own_c31 x y z
  · exact own_c32 x y z
  · exact own_c33 x y z

set_option maxRecDepth 65536 in
set_option maxHeartbeats 40000000 in
theorem comes_1 {Post : Tables → Env → Array Value → State → Outcome → State → Prop} (hpost : ∀ tb e args s v u, (limb_1_1.after args s (.returned v) u = true ∧ limb_1_2.after args s (.returned v) u = true ∧ True) → FrameEnd s (.returned v) u (Jvm.fieldLocs frame_1_writes args s ++ Jvm.arrayLocs frame_1_arrays args s ++ Jvm.staticLocs frame_1_statics s) 16 128 → Post tb e args s (.returned v) u) :
    ArmFor flags0 classFile x code maxLocals ret World_1 tables_1 room_1 Calls_1 rest_1 Pre_1 Post := by
  intro l hfl _ _ p e ha hc hk s m args below hf hA hF happ hP
  obtain ⟨hcalls, hrest, hpre⟩ := hP
  obtain ⟨-, -, -, hnamed, -, -, -, hat⟩ := (Spec.applies_iff hf).mp happ
  obtain ⟨hg, hn⟩ := and_e (Cond.before_iff.mp (show (Jvm.Cond.and given_1 narrow_1).before args s = true from hpre))
  obtain ⟨gg1, gg2⟩ := and_e hg
  obtain ⟨gg3, gg4⟩ := and_e gg2
  obtain ⟨gg5, gg6⟩ := and_e gg4
  obtain ⟨gg7, gg8⟩ := and_e gg6
  obtain ⟨gg9, gg10⟩ := and_e gg8
  obtain ⟨w0, w1, w2, w3, w4, rfl⟩ : ∃ w0 w1 w2 w3 w4 : Value, args = #[w0, w1, w2, w3, w4] := by
    have hs : args.size = 5 := by simpa [Cond.value, given_1] using gg1
    obtain ⟨L⟩ := args
    match L, hs with
    | [w0, w1, w2, w3, w4], _ => exact ⟨w0, w1, w2, w3, w4, rfl⟩
  have hw := fun d (hd : d ∈ tables_1) => atoms_spec (ws := Jvm.Cond.code x code maxLocals ret :: tables_1) hat d (List.mem_cons_of_mem _ hd)
  have hfit : Fit s := fun {y c} hc i hi => by
    obtain ⟨ha, rfl⟩ := Array.getElem?_eq_some_iff.mp hc
    have q := List.all_eq_true.mp ((Array.all_eq_true_iff_forall_mem.mp hF) _ (Array.getElem_mem ha)) i (List.mem_range.mpr hi)
    simpa [Array.getElem?_eq_getElem hi] using q
  obtain ⟨i0, ei0⟩ := is_v gg3
  obtain rfl : w0 = (.int i0) := Option.some.inj ei0
  obtain ⟨i1, ei1⟩ := is_v gg5
  obtain rfl : w1 = (.int i1) := Option.some.inj ei1
  obtain ⟨i2, ei2⟩ := is_v gg7
  obtain rfl : w2 = (.int i2) := Option.some.inj ei2
  obtain ⟨i3, ei3⟩ := is_v gg9
  obtain rfl : w3 = (.int i3) := Option.some.inj ei3
  obtain ⟨i4, ei4⟩ := is_v gg10
  obtain rfl : w4 = (.int i4) := Option.some.inj ei4
  obtain ⟨nw1, nw2⟩ := and_e hn
  obtain ⟨nw3, nw4⟩ := and_e nw2
  obtain ⟨nw5, nw6⟩ := and_e nw4
  obtain ⟨nw7, nw8⟩ := and_e nw6
  obtain ⟨nw9, nw10⟩ := and_e nw8
  obtain ⟨nw11, nw12⟩ := and_e nw10
  obtain ⟨nw13, nw14⟩ := and_e nw12
  obtain ⟨k_SUM, ev_SUM⟩ := exa_v nw1
  have E_SUM := Exa.start ev_SUM nw1
  have S_SUM := Sta.start ev_SUM (Or.inr ⟨(hw _ (List.mem_of_getElem? (i := 6) rfl)), (hw _ (List.mem_of_getElem? (i := 7) rfl))⟩)
  obtain ⟨k_ELAPSED, ev_ELAPSED⟩ := exa_v nw3
  have E_ELAPSED := Exa.start ev_ELAPSED nw3
  have S_ELAPSED := Sta.start ev_ELAPSED (Or.inr ⟨(hw _ (List.mem_of_getElem? (i := 6) rfl)), (hw _ (List.mem_of_getElem? (i := 18) rfl))⟩)
  obtain ⟨k_MIN, ev_MIN⟩ := exa_v nw9
  have E_MIN := Exa.start ev_MIN nw9
  have S_MIN := Sta.start ev_MIN (Or.inr ⟨(hw _ (List.mem_of_getElem? (i := 6) rfl)), (hw _ (List.mem_of_getElem? (i := 33) rfl))⟩)
  obtain ⟨k_PRODUCT, ev_PRODUCT⟩ := exa_v nw13
  have E_PRODUCT := Exa.start ev_PRODUCT nw13
  have S_PRODUCT := Sta.start ev_PRODUCT (Or.inr ⟨(hw _ (List.mem_of_getElem? (i := 6) rfl)), (hw _ (List.mem_of_getElem? (i := 39) rfl))⟩)
  have F_ELAPSED_ordinal := own_fldI nw5 ev_ELAPSED
  have F_SUM_ordinal := own_fldI nw7 ev_SUM
  have F_MIN_ordinal := own_fldI nw11 ev_MIN
  have F_PRODUCT_ordinal := own_fldI nw14 ev_PRODUCT
  obtain ⟨n, o, h1, h2, h3, _, L, rfl, ⟨rfl, N⟩, hq⟩ := rm0 l s _ hw i0 i1 i2 i3 i4 s.heap s.heap.size (Nat.le_refl _) k_SUM k_PRODUCT k_MIN k_ELAPSED S_SUM S_PRODUCT S_MIN S_ELAPSED E_SUM F_SUM_ordinal E_PRODUCT F_PRODUCT_ordinal E_MIN F_MIN_ordinal E_ELAPSED F_ELAPSED_ordinal (Old.start s) p e ha hc hk s m _ below hf ((Spec.applies_iff_loose hf).mp happ).1 ⟨rfl, State.Warmed39.refl s, rfl⟩ trivial
  refine ⟨n, _, h1, h2, h3, hpost _ _ _ _ _ _ ⟨Cond.after_iff.mpr rfl, Cond.after_iff.mpr (eq_i res_at (Term.int_eval (1)) (congrArg Value.int (own_law _ _ _ _ _))), trivial⟩ ⟨hq.1, hq.2.1, (hq.2.2.sift fun y hy => Or.inr (N y hy)).mono (by decide) (by decide)⟩⟩
theorem main_1_1 : Claimed_1_1 := comes_1 fun _ _ _ _ _ _ h hF => ⟨h.1, hF⟩
theorem main_1_2 : Claimed_1_2 := comes_1 fun _ _ _ _ _ _ h hF => ⟨h.2.1, hF⟩

end Jvm.Pilot.@@N@@
namespace Jvm.Pilot.@@N@@
open Jvm Jvm.ClassFile Sem Op Lib Jvm.Free Jvm.Stand Jvm.Pilot.@@N@@.Jvm.D
/-! MADE BY PROGRAM (witnessworld.py) out of the Statement's table words and the real class files: 14 classes; the members and pool entries that the words name. The judged class is class 1, her method 3. -/
namespace start1
open Jvm.ClassFile
def u (s : String) : CpInfo := .utf8 (stringToUtf16 s)
/-- a pool by its gaps: so many unusable entries, then the entry; so many at the end -/
def gap : Nat → List CpInfo → List CpInfo
  | 0, r => r
  | n + 1, r => .unusable :: gap n r
def poolList (es : List (Nat × CpInfo)) (last : Nat) : List CpInfo := es.foldr (fun e r => gap e.1 (e.2 :: r)) (gap last [])
def pool (es : List (Nat × CpInfo)) (last : Nat) : Array CpInfo := ⟨poolList es last⟩
def fileOf (pool : Array CpInfo) (this : Nat) (attrs : Array Attribute := #[]) (ms : Array MethodInfo := #[]) (fl : Nat := 33) (sup : Nat := 0) (ifs : Array Nat := #[]) (fds : Array FieldInfo := #[]) : ClassFile where
  minorVersion := 0
  majorVersion := 65
  constantPool := pool
  accessFlags := fl
  thisClass := this
  superClass := sup
  interfaces := ifs
  fields := fds
  methods := ms
  attributes := attrs
def plain (name : String) (sup : Option ClassId) : Class where
  name := name
  kind := .ordinary
  loader := none
  accessFlags := 33
  super := sup
  interfaces := #[]
  cf := none
  fields := #[]
  methods := #[]
  instanceTypes := #[]
  staticTypes := #[]
  resolved := #[]
  callSites := []
  init := .initialized
  statics := none
  mirror := none

def pool0 : Array CpInfo := pool [(5, u "<init>"), (0, u "()V"), (1, .class_ 10), (1, u "java/lang/Object")] 113

def k0m0 : Method := { name := "<init>", desc := "()V", sig := { parameters := [], returnType := none }, accessFlags := 1, code := none }
/-- java/lang/Object -/
def k0 : Class := { plain "java/lang/Object" none with
  accessFlags := 33
  interfaces := #[]
  cf := some (fileOf pool0 8 #[] #[{ accessFlags := 1, nameIndex := 5, descriptorIndex := 6, attributes := #[] }] 33 0 #[] #[])
  fields := #[]
  methods := #[k0m0]
  instanceTypes := #[]
  staticTypes := #[]
  resolved := Array.replicate 124 none
  statics := none }

def pool1 : Array CpInfo := pool [(2, .class_ 4), (1, u "java/lang/Object"), (0, u "<init>"), (0, u "()V"), (0, .fieldref 8 9), (0, .class_ 10), (0, .nameAndType 11 12), (0, u "com/example/conflux/conflux/select/Aggregation"), (0, u "SUM"), (0, u "Lcom/example/conflux/conflux/select/Aggregation;"), (0, .fieldref 8 14), (0, .nameAndType 15 12), (0, u "PRODUCT"), (0, .fieldref 8 17), (0, .nameAndType 18 12), (0, u "MIN"), (0, .fieldref 8 20), (0, .nameAndType 21 12), (0, u "ELAPSED"), (0, .integer 2147483647), (0, .methodref 24 25), (0, .class_ 26), (0, .nameAndType 27 28), (0, u "com/example/conflux/conflux/select/AggregationAggregatePinLaw"), (0, u "pick"), (0, u "(I)Lcom/example/conflux/conflux/select/Aggregation;"), (0, .methodref 8 30), (0, .nameAndType 31 32), (0, u "aggregate"), (0, u "([D)D"), (0, .methodref 24 34), (0, .nameAndType 35 36), (0, u "expected"), (0, u "(IIJJJ)J"), (3, u "law"), (0, u "(IIIII)Z")] 4

def k1m0 : Method := { name := "<init>", desc := "()V", sig := { parameters := [], returnType := none }, accessFlags := 1, code := none }
def k1c1 : Code := { maxStack := 2, maxLocals := 1, code := method_2_code, exceptionTable := #[], attributes := #[] }
def k1m1 : Method := { name := "pick", desc := "(I)Lcom/example/conflux/conflux/select/Aggregation;", sig := { parameters := [.int], returnType := some (.object "com/example/conflux/conflux/select/Aggregation") }, accessFlags := 10, code := some k1c1 }
def k1c2 : Code := { maxStack := 4, maxLocals := 10, code := method_3_code, exceptionTable := #[], attributes := #[] }
def k1m2 : Method := { name := "expected", desc := "(IIJJJ)J", sig := { parameters := [.int, .int, .long, .long, .long], returnType := some .long }, accessFlags := 10, code := some k1c2 }
def k1c3 : Code := { maxStack := 8, maxLocals := 16, code := code, exceptionTable := #[], attributes := #[] }
def k1m3 : Method := { name := "law", desc := "(IIIII)Z", sig := { parameters := [.int, .int, .int, .int, .int], returnType := some .boolean }, accessFlags := 9, code := some k1c3 }
/-- com/example/conflux/conflux/select/AggregationAggregatePinLaw -/
def k1 : Class := { plain "com/example/conflux/conflux/select/AggregationAggregatePinLaw" (some 0) with
  accessFlags := 49
  interfaces := #[]
  cf := some (fileOf pool1 24 #[] #[{ accessFlags := 1, nameIndex := 5, descriptorIndex := 6, attributes := #[] }, { accessFlags := 10, nameIndex := 27, descriptorIndex := 28, attributes := #[] }, { accessFlags := 10, nameIndex := 35, descriptorIndex := 36, attributes := #[] }, { accessFlags := 9, nameIndex := 40, descriptorIndex := 41, attributes := #[] }] 49 2 #[] #[])
  fields := #[]
  methods := #[k1m0, k1m1, k1m2, k1m3]
  instanceTypes := #[]
  staticTypes := #[]
  resolved := Array.replicate 46 none
  statics := none }

def pool2 : Array CpInfo := pool [(1, .class_ 2), (0, u "java/lang/constant/Constable"), (0, .class_ 4), (0, u "java/lang/Object")] 6

/-- java/lang/constant/Constable -/
def k2 : Class := { plain "java/lang/constant/Constable" (some 0) with
  accessFlags := 1537
  interfaces := #[]
  cf := some (fileOf pool2 1 #[] #[] 1537 3 #[] #[])
  fields := #[]
  methods := #[]
  instanceTypes := #[]
  staticTypes := #[]
  resolved := Array.replicate 11 none
  statics := none }

def pool3 : Array CpInfo := pool [(1, .class_ 2), (0, u "java/lang/Comparable"), (0, .class_ 4), (0, u "java/lang/Object")] 7

/-- java/lang/Comparable -/
def k3 : Class := { plain "java/lang/Comparable" (some 0) with
  accessFlags := 1537
  interfaces := #[]
  cf := some (fileOf pool3 1 #[] #[] 1537 3 #[] #[])
  fields := #[]
  methods := #[]
  instanceTypes := #[]
  staticTypes := #[]
  resolved := Array.replicate 12 none
  statics := none }

def pool4 : Array CpInfo := pool [(1, .class_ 2), (0, u "java/io/Serializable"), (0, .class_ 4), (0, u "java/lang/Object")] 2

/-- java/io/Serializable -/
def k4 : Class := { plain "java/io/Serializable" (some 0) with
  accessFlags := 1537
  interfaces := #[]
  cf := some (fileOf pool4 1 #[] #[] 1537 3 #[] #[])
  fields := #[]
  methods := #[]
  instanceTypes := #[]
  staticTypes := #[]
  resolved := Array.replicate 7 none
  statics := none }

def pool5 : Array CpInfo := pool [(2, .class_ 4), (1, u "java/lang/Enum"), (0, u "name"), (0, u "Ljava/lang/String;"), (0, .fieldref 2 8), (0, .nameAndType 9 10), (0, u "ordinal"), (0, u "I"), (1, .class_ 14), (1, u "java/lang/Object"), (4, u "hash"), (86, .class_ 108), (1, u "java/lang/Enum$EnumDesc"), (2, .class_ 112), (0, u "java/lang/constant/Constable"), (0, .class_ 114), (0, u "java/lang/Comparable"), (0, .class_ 116), (0, u "java/io/Serializable"), (9, u "()I")] 77

def k5c0 : Code := { maxStack := 1, maxLocals := 1, code := jdk_37_method_2_code, exceptionTable := #[], attributes := #[] }
def k5m0 : Method := { name := "ordinal", desc := "()I", sig := { parameters := [], returnType := some .int }, accessFlags := 17, code := some k5c0 }
/-- java/lang/Enum -/
def k5 : Class := { plain "java/lang/Enum" (some 0) with
  accessFlags := 1057
  interfaces := #[2, 3, 4]
  cf := some (fileOf pool5 2 #[.nestMembers #[106]] #[{ accessFlags := 17, nameIndex := 9, descriptorIndex := 126, attributes := #[] }] 1057 12 #[111, 113, 115] #[{ accessFlags := 18, nameIndex := 5, descriptorIndex := 6, attributes := #[] }, { accessFlags := 18, nameIndex := 9, descriptorIndex := 10, attributes := #[] }, { accessFlags := 2, nameIndex := 19, descriptorIndex := 10, attributes := #[] }])
  fields := #[{ name := "name", type := (.object "java/lang/String"), accessFlags := 18, slot := 0, constantValue := 0 }, { name := "ordinal", type := .int, accessFlags := 18, slot := 1, constantValue := 0 }, { name := "hash", type := .int, accessFlags := 2, slot := 2, constantValue := 0 }]
  methods := #[k5m0]
  instanceTypes := #[(.object "java/lang/String"), .int, .int]
  staticTypes := #[]
  resolved := Array.replicate 204 none
  statics := none }

def pool6 : Array CpInfo := pool [(1, .class_ 2), (0, u "com/example/conflux/conflux/Labels$Labelled"), (0, .class_ 4), (0, u "java/lang/Object"), (5, .class_ 11), (0, u "com/example/conflux/conflux/Labels")] 2

/-- com/example/conflux/conflux/Labels$Labelled -/
def k6 : Class := { plain "com/example/conflux/conflux/Labels$Labelled" (some 0) with
  accessFlags := 1537
  interfaces := #[]
  cf := some (fileOf pool6 1 #[.nestHost 10] #[] 1537 3 #[] #[])
  fields := #[]
  methods := #[]
  instanceTypes := #[]
  staticTypes := #[]
  resolved := Array.replicate 14 none
  statics := none }

def pool7 : Array CpInfo := pool [(1, .class_ 2), (0, u "com/example/conflux/conflux/select/Aggregation"), (2, u "SUM"), (0, u "Lcom/example/conflux/conflux/select/Aggregation;"), (2, u "PRODUCT"), (2, u "MIN"), (2, u "ELAPSED"), (2, u "$VALUES"), (0, u "[Lcom/example/conflux/conflux/select/Aggregation;"), (6, .class_ 28), (1, u "java/lang/Enum"), (8, u "label"), (0, u "Ljava/lang/String;"), (19, .methodref 1 59), (0, .nameAndType 60 61), (0, u "combined"), (0, u "(DD)D"), (5, .class_ 69), (1, u "java/lang/Math"), (9, u "aggregate"), (0, u "([D)D"), (0, .methodref 1 82), (0, .nameAndType 83 84), (0, u "ordinal"), (0, u "()I"), (5, .methodref 67 91), (0, .nameAndType 92 61), (0, u "min"), (17, .class_ 111), (0, u "com/example/conflux/conflux/Labels$Labelled")] 34

def k7c0 : Code := { maxStack := 5, maxLocals := 5, code := prog_61_method_6_code, exceptionTable := #[], attributes := #[] }
def k7m0 : Method := { name := "aggregate", desc := "([D)D", sig := { parameters := [(.array .double)], returnType := some .double }, accessFlags := 129, code := some k7c0 }
def k7c1 : Code := { maxStack := 4, maxLocals := 5, code := prog_61_method_8_code, exceptionTable := #[], attributes := #[] }
def k7m1 : Method := { name := "combined", desc := "(DD)D", sig := { parameters := [.double, .double], returnType := some .double }, accessFlags := 2, code := some k7c1 }
/-- com/example/conflux/conflux/select/Aggregation -/
def k7 : Class := { plain "com/example/conflux/conflux/select/Aggregation" (some 5) with
  accessFlags := 16433
  interfaces := #[6]
  cf := some (fileOf pool7 1 #[] #[{ accessFlags := 129, nameIndex := 79, descriptorIndex := 80, attributes := #[] }, { accessFlags := 2, nameIndex := 60, descriptorIndex := 61, attributes := #[] }] 16433 26 #[110] #[{ accessFlags := 16409, nameIndex := 5, descriptorIndex := 6, attributes := #[] }, { accessFlags := 16409, nameIndex := 9, descriptorIndex := 6, attributes := #[] }, { accessFlags := 16409, nameIndex := 12, descriptorIndex := 6, attributes := #[] }, { accessFlags := 16409, nameIndex := 15, descriptorIndex := 6, attributes := #[] }, { accessFlags := 18, nameIndex := 37, descriptorIndex := 38, attributes := #[] }, { accessFlags := 4122, nameIndex := 18, descriptorIndex := 19, attributes := #[] }])
  fields := #[{ name := "SUM", type := (.object "com/example/conflux/conflux/select/Aggregation"), accessFlags := 16409, slot := 0, constantValue := 0 }, { name := "PRODUCT", type := (.object "com/example/conflux/conflux/select/Aggregation"), accessFlags := 16409, slot := 1, constantValue := 0 }, { name := "MIN", type := (.object "com/example/conflux/conflux/select/Aggregation"), accessFlags := 16409, slot := 2, constantValue := 0 }, { name := "ELAPSED", type := (.object "com/example/conflux/conflux/select/Aggregation"), accessFlags := 16409, slot := 3, constantValue := 0 }, { name := "label", type := (.object "java/lang/String"), accessFlags := 18, slot := 3, constantValue := 0 }, { name := "$VALUES", type := (.array (.object "com/example/conflux/conflux/select/Aggregation")), accessFlags := 4122, slot := 4, constantValue := 0 }]
  methods := #[k7m0, k7m1]
  instanceTypes := #[(.object "java/lang/String"), .int, .int, (.object "java/lang/String")]
  staticTypes := #[(.object "com/example/conflux/conflux/select/Aggregation"), (.object "com/example/conflux/conflux/select/Aggregation"), (.object "com/example/conflux/conflux/select/Aggregation"), (.object "com/example/conflux/conflux/select/Aggregation"), (.array (.object "com/example/conflux/conflux/select/Aggregation"))]
  resolved := Array.replicate 146 none
  statics := some 0 }

def pool8 : Array CpInfo := pool [(1, .class_ 2), (0, u "java/lang/Math"), (1, .class_ 6), (1, u "java/lang/Object"), (0, u "<init>"), (0, u "()V"), (43, u "(DD)D"), (45, .class_ 100), (1, u "java/lang/Math$RandomNumberGeneratorHolder"), (71, u "negativeZeroFloatBits"), (0, u "J"), (2, u "negativeZeroDoubleBits"), (24, u "min"), (43, u "$assertionsDisabled"), (0, u "Z"), (91, u "twoToTheDoubleScaleDown"), (0, u "D"), (4, u "twoToTheDoubleScaleUp"), (9, u "E"), (3, u "PI"), (2, u "TAU"), (2, u "DEGREES_TO_RADIANS"), (0, u "RADIANS_TO_DEGREES")] 94

def k8m0 : Method := { name := "<init>", desc := "()V", sig := { parameters := [], returnType := none }, accessFlags := 2, code := none }
def k8c1 : Code := { maxStack := 4, maxLocals := 4, code := jdk_29_method_72_code, exceptionTable := #[], attributes := #[] }
def k8m1 : Method := { name := "min", desc := "(DD)D", sig := { parameters := [.double, .double], returnType := some .double }, accessFlags := 9, code := some k8c1 }
/-- java/lang/Math -/
def k8 : Class := { plain "java/lang/Math" (some 0) with
  accessFlags := 49
  interfaces := #[]
  cf := some (fileOf pool8 1 #[.nestMembers #[98]] #[{ accessFlags := 2, nameIndex := 7, descriptorIndex := 8, attributes := #[] }, { accessFlags := 9, nameIndex := 201, descriptorIndex := 52, attributes := #[] }] 49 4 #[] #[{ accessFlags := 25, nameIndex := 354, descriptorIndex := 339, attributes := #[] }, { accessFlags := 25, nameIndex := 358, descriptorIndex := 339, attributes := #[] }, { accessFlags := 25, nameIndex := 361, descriptorIndex := 339, attributes := #[] }, { accessFlags := 26, nameIndex := 364, descriptorIndex := 339, attributes := #[] }, { accessFlags := 26, nameIndex := 365, descriptorIndex := 339, attributes := #[] }, { accessFlags := 26, nameIndex := 172, descriptorIndex := 173, attributes := #[] }, { accessFlags := 26, nameIndex := 176, descriptorIndex := 173, attributes := #[] }, { accessFlags := 8, nameIndex := 344, descriptorIndex := 339, attributes := #[] }, { accessFlags := 8, nameIndex := 338, descriptorIndex := 339, attributes := #[] }, { accessFlags := 4120, nameIndex := 245, descriptorIndex := 246, attributes := #[] }])
  fields := #[{ name := "E", type := .double, accessFlags := 25, slot := 0, constantValue := 0 }, { name := "PI", type := .double, accessFlags := 25, slot := 1, constantValue := 0 }, { name := "TAU", type := .double, accessFlags := 25, slot := 2, constantValue := 0 }, { name := "DEGREES_TO_RADIANS", type := .double, accessFlags := 26, slot := 3, constantValue := 0 }, { name := "RADIANS_TO_DEGREES", type := .double, accessFlags := 26, slot := 4, constantValue := 0 }, { name := "negativeZeroFloatBits", type := .long, accessFlags := 26, slot := 5, constantValue := 0 }, { name := "negativeZeroDoubleBits", type := .long, accessFlags := 26, slot := 6, constantValue := 0 }, { name := "twoToTheDoubleScaleUp", type := .double, accessFlags := 8, slot := 7, constantValue := 0 }, { name := "twoToTheDoubleScaleDown", type := .double, accessFlags := 8, slot := 8, constantValue := 0 }, { name := "$assertionsDisabled", type := .boolean, accessFlags := 4120, slot := 9, constantValue := 0 }]
  methods := #[k8m0, k8m1]
  instanceTypes := #[]
  staticTypes := #[.double, .double, .double, .double, .double, .long, .long, .double, .double, .boolean]
  resolved := Array.replicate 460 none
  statics := none }

def pool9 : Array CpInfo := pool [(1, u "java/lang/Cloneable"), (0, .class_ 1), (0, u "java/lang/Object"), (0, .class_ 3)] 3

/-- java/lang/Cloneable -/
def k9 : Class := { plain "java/lang/Cloneable" (some 0) with
  accessFlags := 1537
  interfaces := #[]
  cf := some (fileOf pool9 2 #[] #[] 1537 4 #[] #[])
  fields := #[]
  methods := #[]
  instanceTypes := #[]
  staticTypes := #[]
  resolved := Array.replicate 8 none
  statics := none }

/-- the primitive byte -/
def k10 : Class := { plain "byte" none with kind := .primitive 'B', accessFlags := 0x411 }
/-- [B -/
def k11 : Class := { plain "[B" (some 0) with kind := .array 10 .byte, interfaces := #[9, 4], accessFlags := 1041 }

/-- the primitive int -/
def k12 : Class := { plain "int" none with kind := .primitive 'I', accessFlags := 0x411 }
/-- [I -/
def k13 : Class := { plain "[I" (some 0) with kind := .array 12 .int, interfaces := #[9, 4], accessFlags := 1041 }

/-- the primitive double -/
def k14 : Class := { plain "double" none with kind := .primitive 'D', accessFlags := 0x411 }
/-- [D -/
def k15 : Class := { plain "[D" (some 0) with kind := .array 14 .double, interfaces := #[9, 4], accessFlags := 1041 }

def heap : Heap := #[{ cls := 7, slots := #[.ref 1, .ref 2, .ref 3, .ref 4, .null], vm := .statics 7 },
  { cls := 7, slots := #[.null, .int 0, .int 0, .null], vm := .none },
  { cls := 7, slots := #[.null, .int 1, .int 0, .null], vm := .none },
  { cls := 7, slots := #[.null, .int 2, .int 0, .null], vm := .none },
  { cls := 7, slots := #[.null, .int 3, .int 0, .null], vm := .none }]
def classes : Array Class := #[k0, k1, k2, k3, k4, k5, k6, k7, k8, k9, k10, k11, k12, k13, k14, k15]
def interned : List (Array UInt16 × Addr) := []
def slotsUsed : Nat := 21
def theMethod : MethodId := ⟨1, 3⟩
def args0 : Array Value := #[.int 2, .int 1, .int 5, .int 7, .int 3]
def aboutOver (below : List Frame) : State where
  vm := { classes := classes, interned := interned.toArray }
  heap := heap
  slotsUsed := slotsUsed
  threads := #[{ frames := .invoking theMethod args0 :: below }]
def below0 : List Frame := [.native { method := ⟨0, 0⟩, args := #[] }]
def about1 : State := aboutOver below0
def p0 : Program := .bare "" "" ""
def e0 : Env := launch0.env 0 0 0
theorem w_frames : about1.frames = Frame.invoking theMethod args0 :: below0 := rfl
set_option maxRecDepth 65536 in
theorem w_args : argsFit about1.vm theMethod args0 = true := by decide +kernel
set_option maxRecDepth 65536 in
theorem w_heap : heapFits about1 = true := by decide +kernel
set_option maxRecDepth 65536 in
theorem w_runnable : about1.curStatus? = some .runnable := by decide +kernel
set_option maxRecDepth 65536 in
theorem w_alone : about1.alone = true := by decide +kernel
set_option maxRecDepth 65536 in
theorem w_named : about1.methodNamed? x = some theMethod := by decide +kernel
set_option maxRecDepth 65536 in
theorem w_hears : about1.hears theMethod below0 = true := by decide +kernel
set_option maxRecDepth 65536 in
theorem w_ripe : about1.ripe theMethod args0 below0 = true := by decide +kernel
theorem w_running : about1.status = .running := rfl
set_option maxRecDepth 65536 in
theorem w_room : about1.hasRoom e0.platform room_1 = true :=
  launch0.hasRoom_least _ room_1 (by decide +kernel) (by decide +kernel) (by decide +kernel) (by decide +kernel) (by decide +kernel) (by decide +kernel)
theorem allAtoms_all (ts : List Jvm.Cond) (a : Array Jvm.Value) (st : Jvm.State) : (allAtoms ts).before a st = ts.all (fun c => c.before a st) := by
  induction ts with
  | nil => rfl
  | cons c t ih =>
    show (Jvm.Cond.and c (allAtoms t)).before a st = _
    rw [Jvm.Cond.before_and, ih, List.all_cons]
def words1 : List Jvm.Cond := Jvm.Cond.code x code maxLocals ret :: tables_1
/-- a 'code' word, met by the world's own term for the bytes: nothing is compared byte by byte -/
theorem code_word {y : MethodName} {bytes : ByteArray} {mx : Nat} {rt : Option FieldType} {a : Array Value} {s : State} {m : MethodId} {meth : Method} {c : Code} (h1 : s.methodNamed? y = some m) (h2 : s.vm.method? m = some meth) (h3 : meth.code = some c) (h4 : c.code = bytes)
    (h5 : (c.maxLocals == mx && c.exceptionTable.isEmpty && decide (c.maxStack ≤ mostOperands) && decide (meth.sig.returnType = rt) && !meth.locks && decide (parseMethodDescriptor y.desc = some meth.sig)) = true) : (Jvm.Cond.code y bytes mx rt).before a s = true := by
  simp only [Bool.and_eq_true, beq_iff_eq, Bool.not_eq_true', decide_eq_true_eq] at h5
  obtain ⟨⟨⟨⟨⟨g1, g2⟩, g3⟩, g4⟩, g5⟩, g6⟩ := h5
  simp [Cond.before, Cond.holds, Cond.value, h1, h2, h3, h4, g1, g2, g3, g4, g5, g6]
def isCode : Jvm.Cond → Bool
  | .code _ _ _ _ => true
  | _ => false
theorem all_split {L : List Jvm.Cond} {P : Jvm.Cond → Bool} (h1 : L.all (fun c => isCode c || P c) = true) (h2 : ∀ c ∈ L.filter isCode, P c = true) : L.all P = true := by
  refine List.all_eq_true.mpr fun c hc => ?_
  have h := List.all_eq_true.mp h1 c hc
  rcases Bool.eq_false_or_eq_true (isCode c) with hi | hi
  · exact h2 c (List.mem_filter.mpr ⟨hc, hi⟩)
  · simpa [hi] using h
set_option maxRecDepth 65536 in
theorem w_c0 : (Jvm.Cond.code x code maxLocals ret).before args0 about1 = true := code_word (m := ⟨1, 3⟩) (meth := k1m3) (c := k1c3) (by decide +kernel) rfl rfl rfl (by decide +kernel)
set_option maxRecDepth 65536 in
theorem w_c1 : (Jvm.Cond.code ({ cls := "com/example/conflux/conflux/select/AggregationAggregatePinLaw", name := "pick", desc := "(I)Lcom/example/conflux/conflux/select/Aggregation;" } : Jvm.MethodName) method_2_code (1 : Nat) (Option.some (Jvm.ClassFile.FieldType.object "com/example/conflux/conflux/select/Aggregation"))).before args0 about1 = true := code_word (m := ⟨1, 1⟩) (meth := k1m1) (c := k1c1) (by decide +kernel) rfl rfl rfl (by decide +kernel)
set_option maxRecDepth 65536 in
theorem w_c2 : (Jvm.Cond.code ({ cls := "com/example/conflux/conflux/select/Aggregation", name := "aggregate", desc := "([D)D" } : Jvm.MethodName) prog_61_method_6_code (5 : Nat) (Option.some Jvm.ClassFile.FieldType.double)).before args0 about1 = true := code_word (m := ⟨7, 0⟩) (meth := k7m0) (c := k7c0) (by decide +kernel) rfl rfl rfl (by decide +kernel)
set_option maxRecDepth 65536 in
theorem w_c3 : (Jvm.Cond.code ({ cls := "com/example/conflux/conflux/select/AggregationAggregatePinLaw", name := "expected", desc := "(IIJJJ)J" } : Jvm.MethodName) method_3_code (10 : Nat) (Option.some Jvm.ClassFile.FieldType.long)).before args0 about1 = true := code_word (m := ⟨1, 2⟩) (meth := k1m2) (c := k1c2) (by decide +kernel) rfl rfl rfl (by decide +kernel)
set_option maxRecDepth 65536 in
theorem w_c4 : (Jvm.Cond.code ({ cls := "com/example/conflux/conflux/select/Aggregation", name := "combined", desc := "(DD)D" } : Jvm.MethodName) prog_61_method_8_code (5 : Nat) (Option.some Jvm.ClassFile.FieldType.double)).before args0 about1 = true := code_word (m := ⟨7, 1⟩) (meth := k7m1) (c := k7c1) (by decide +kernel) rfl rfl rfl (by decide +kernel)
set_option maxRecDepth 65536 in
theorem w_c5 : (Jvm.Cond.code ({ cls := "java/lang/Enum", name := "ordinal", desc := "()I" } : Jvm.MethodName) jdk_37_method_2_code (1 : Nat) (Option.some Jvm.ClassFile.FieldType.int)).before args0 about1 = true := code_word (m := ⟨5, 0⟩) (meth := k5m0) (c := k5c0) (by decide +kernel) rfl rfl rfl (by decide +kernel)
set_option maxRecDepth 65536 in
theorem w_c6 : (Jvm.Cond.code ({ cls := "java/lang/Math", name := "min", desc := "(DD)D" } : Jvm.MethodName) jdk_29_method_72_code (4 : Nat) (Option.some Jvm.ClassFile.FieldType.double)).before args0 about1 = true := code_word (m := ⟨8, 1⟩) (meth := k8m1) (c := k8c1) (by decide +kernel) rfl rfl rfl (by decide +kernel)
def codes1 : List Jvm.Cond := [Jvm.Cond.code x code maxLocals ret, Jvm.Cond.code ({ cls := "com/example/conflux/conflux/select/AggregationAggregatePinLaw", name := "pick", desc := "(I)Lcom/example/conflux/conflux/select/Aggregation;" } : Jvm.MethodName) method_2_code (1 : Nat) (Option.some (Jvm.ClassFile.FieldType.object "com/example/conflux/conflux/select/Aggregation")), Jvm.Cond.code ({ cls := "com/example/conflux/conflux/select/Aggregation", name := "aggregate", desc := "([D)D" } : Jvm.MethodName) prog_61_method_6_code (5 : Nat) (Option.some Jvm.ClassFile.FieldType.double), Jvm.Cond.code ({ cls := "com/example/conflux/conflux/select/AggregationAggregatePinLaw", name := "expected", desc := "(IIJJJ)J" } : Jvm.MethodName) method_3_code (10 : Nat) (Option.some Jvm.ClassFile.FieldType.long), Jvm.Cond.code ({ cls := "com/example/conflux/conflux/select/Aggregation", name := "combined", desc := "(DD)D" } : Jvm.MethodName) prog_61_method_8_code (5 : Nat) (Option.some Jvm.ClassFile.FieldType.double), Jvm.Cond.code ({ cls := "java/lang/Enum", name := "ordinal", desc := "()I" } : Jvm.MethodName) jdk_37_method_2_code (1 : Nat) (Option.some Jvm.ClassFile.FieldType.int), Jvm.Cond.code ({ cls := "java/lang/Math", name := "min", desc := "(DD)D" } : Jvm.MethodName) jdk_29_method_72_code (4 : Nat) (Option.some Jvm.ClassFile.FieldType.double)]
set_option maxRecDepth 65536 in
theorem codes_eq : words1.filter isCode = codes1 := rfl
theorem w_codes : ∀ c ∈ words1.filter isCode, c.before args0 about1 = true := by
  rw [codes_eq]
  intro c hc
  simp only [codes1, List.mem_cons, List.not_mem_nil, or_false] at hc
  rcases hc with rfl | rfl | rfl | rfl | rfl | rfl | rfl
  · exact w_c0
  · exact w_c1
  · exact w_c2
  · exact w_c3
  · exact w_c4
  · exact w_c5
  · exact w_c6
set_option maxRecDepth 65536 in
theorem w_t1 : (words1.take 24).all (fun c => isCode c || c.before args0 about1) = true := by decide +kernel
set_option maxRecDepth 65536 in
theorem w_t2 : (words1.drop 24).all (fun c => isCode c || c.before args0 about1) = true := by decide +kernel
theorem w_tables : (allAtoms (Jvm.Cond.code x code maxLocals ret :: tables_1)).before args0 about1 = true := by
  rw [allAtoms_all]
  show words1.all (fun c => c.before args0 about1) = true
  refine all_split ?_ w_codes
  rw [← List.take_append_drop 24 words1, List.all_append, w_t1, w_t2]
  rfl
set_option maxRecDepth 65536 in
theorem w_case : (Jvm.Cond.and given_1 narrow_1).before args0 about1 = true := by decide +kernel
theorem w_applies : (headSpec (Jvm.Cond.code x code maxLocals ret :: tables_1) room_1).applies x e0.platform about1 = true :=
  (Spec.applies_iff w_frames).mpr ⟨w_running, w_runnable, w_alone, w_named, w_hears, w_ripe, w_room, w_tables⟩
theorem atStart : AtStart classFile x code maxLocals ret World_1 tables_1 room_1 Calls_1 rest_1 Pre_1 launch0 p0 e0 about1 theMethod args0 below0 :=
  ⟨lists_1, trivial, launch0.admits_env _ _ _, launch0.least_env, fairChoices_fair.cas, fairChoices_fair.clock, w_frames, w_args, w_heap, w_applies, trivial, trivial, w_case⟩
end start1
theorem witness_1 : WitnessClaimed_1 := ⟨start1.p0, start1.e0, start1.about1, start1.theMethod, start1.args0, start1.below0, start1.atStart⟩
end Jvm.Pilot.@@N@@
