import JvmDerived
import JvmDerived.Pilot.@@N@@Statement
import JvmDerived.Pilot.@@N@@Code
set_option linter.unusedVariables false
set_option linter.unusedSimpArgs false
@@BLOCK:NumsL.lean.txt@@
namespace Jvm.Pilot.@@N@@
open Jvm Jvm.ClassFile Sem Op Lib Jvm.Free Jvm.Stand Jvm.LawKit Jvm.RoadKit Bundle Jvm.Pilot.@@N@@.Jvm.D

section Own
variable {p : Program} {l : Launch} {e : Env} {R : Room} {s : State} {m : MethodId} {args : Array Value} {below : List Frame} {meth : Method} {c : Code} {T : State} {locs : List Loc} {cells slots : Nat} {Z : State} {a0 : Array Value} {h : Heap} {Q : Option Value → Heap → List Loc → Prop} {kc kn : Nat} {FF : Outcome → State → List Loc → Prop}
/-- from U the body comes to its end, with Q and the end FF -/
def own_FinX (p : Program) (e : Env) (below : List Frame) (FF : Outcome → State → List Loc → Prop) (Q : Option Value → Heap → List Loc → Prop) (U : State) : Prop :=
  ∃ t o, Steps p.tables e below U t ∧ t.status = .running ∧ Ended t below o ∧ ∃ v L, o = .returned v ∧ Q v t.heap L ∧ FF o t L
/-- .. with nothing interned -/
abbrev own_Fin (p : Program) (e : Env) (below : List Frame) (s : State) (Q : Option Value → Heap → List Loc → Prop) (kc kn : Nat) (U : State) : Prop :=
  own_FinX p e below (fun o t L => FrameEnd s o t L kc kn) Q U
theorem own_go {U U' : State} (g : ∀ t, Steps p.tables e below U' t → Steps p.tables e below U t) (H : own_FinX p e below FF Q U') : own_FinX p e below FF Q U := by
  obtain ⟨t, o, h1, h2⟩ := H
  exact ⟨t, o, g t h1, h2⟩
/-- what a body that writes nothing and returns w leaves -/
def own_P (w : Option Value) (h0 : Heap) (n0 : Nat) (v : Option Value) (h : Heap) (L : List Loc) : Prop := v = w ∧ Fr n0 L ∧ h = h0
/-- a body's contract: called with as' on the heap h, it ends with Q -/
def own_Met (l : Launch) (y : MethodName) (bytes : ByteArray) (maxL : Nat) (ret : Option FieldType) (rm : Room) (Z : State) (ws : List Jvm.Cond) (as' : Array Value) (h : Heap) (Q : Option Value → Heap → List Loc → Prop) : Prop :=
  MetFree l y (head1 (Jvm.Cond.code y bytes maxL ret :: ws) rm) (fun a U => a = as' ∧ Z.Warmed39 U.vm ∧ U.heap = h) (fun _ _ _ _ _ => True) (fun _ U o U' => ∃ v L, o = .returned v ∧ Q v U'.heap L ∧ FrameEnd U o U' L rm.cells rm.slots)
theorem own_enter {y : MethodName} {bytes : ByteArray} {maxL : Nat} {ret : Option FieldType} {rm : Room} {ws : List Jvm.Cond} {as' : Array Value} (hp : plainFor y = true)
    (H : ∀ (p : Program) (e : Env) (s : State) (m : MethodId) (below : List Frame) (meth : Method) (c : Code) (s₁ : State), p.tables.exec = Jvm.exec → c.code = bytes → c.maxLocals = maxL → s.vm.findClass y.cls = some m.cls → meth.name = y.name → meth.sig.returnType = ret → meth.locks = false → Z.Warmed39 s.vm → s₁.heap = h → Stand p l e rm s m as' below meth c s₁ [] 0 0 → own_Fin p e below s Q rm.cells rm.slots (s₁.setTop (entryFrame m as' maxL))) :
    own_Met l y bytes maxL ret rm Z ws as' h Q := by
  unfold own_Met
  refine MetFree.of_bodySF hp hisR ?_
  intro p e s m args below meth c s₁ Bd hml0 hP hK
  obtain ⟨rfl, hZ, hh⟩ := hP
  exact H p e s m below meth c s₁ Bd.exec Bd.bytes hml0 (findClass_of_methodNamed Bd.named) (name_of_methodNamed Bd.named Bd.method).1 Bd.returns (BodyLoose.notSynchronized Bd) hZ (by rw [← hh, Bd.state]; rfl) (Stand.of_body Bd)
theorem own_ret (X : Stand p l e R s m args below meth c T locs cells slots) (hx : p.tables.exec = Jvm.exec) (hlk : meth.locks = false) {pc : Nat} {Ls : Array Slot} {w : Value} {t : FieldType} {i : Instr} {rest : List Value} (hret : meth.sig.returnType = some t) (hn : narrow t w = w)
    (hi : (i = .ireturn ∧ (t = .int ∨ t = .boolean ∨ t = .byte ∨ t = .char ∨ t = .short) ∧ ∃ z, w = .int z) ∨ (i = .lreturn ∧ t = .long ∧ ∃ z, w = .long z) ∨ (i = .dreturn ∧ t = .double ∧ ∃ z, w = .double z) ∨ (i = .freturn ∧ t = .float ∧ ∃ z, w = .float z) ∨ (i = .areturn ∧ t.isReference = true ∧ w.isRef = true))
    (hd : decode c.code pc = .ok (i, 1)) (hk : cells ≤ kc) (hs : slots ≤ kn) (hq : Q (some w) T.heap locs) : own_Fin p e below s Q kc kn (T.setTop (mkF m pc Ls (w :: rest))) := by
  obtain ⟨fs, hr, hrun, hended, hW, hsame⟩ := X.leave (v := some w) (fun h => by rw [hret] at h; cases h) hlk
  exact ⟨_, _, retOut X hx hret hn hi hd hr, hrun, hended, _, _, rfl, hq, ⟨_, rfl⟩, hW, hsame.mono hk hs⟩
theorem own_retI (X : Stand p l e R s m args below meth c T locs cells slots) (hx : p.tables.exec = Jvm.exec) (hlk : meth.locks = false) {pc : Nat} {Ls : Array Slot} {z : Int32} {rest : List Value} (hret : meth.sig.returnType = some .int)
    (hd : decode c.code pc = .ok (.ireturn, 1)) (hk : cells ≤ kc) (hs : slots ≤ kn) (hq : Q (some (.int z)) T.heap locs) : own_Fin p e below s Q kc kn (T.setTop (mkF m pc Ls (.int z :: rest))) :=
  own_ret X hx hlk hret rfl (Or.inl ⟨rfl, Or.inl rfl, _, rfl⟩) hd hk hs hq
theorem own_retZ (X : Stand p l e R s m args below meth c T locs cells slots) (hx : p.tables.exec = Jvm.exec) (hlk : meth.locks = false) {pc : Nat} {Ls : Array Slot} {z : Int32} {rest : List Value} (hret : meth.sig.returnType = some .boolean) (hn : narrow .boolean (.int z) = .int z)
    (hd : decode c.code pc = .ok (.ireturn, 1)) (hk : cells ≤ kc) (hs : slots ≤ kn) (hq : Q (some (.int z)) T.heap locs) : own_Fin p e below s Q kc kn (T.setTop (mkF m pc Ls (.int z :: rest))) :=
  own_ret X hx hlk hret hn (Or.inl ⟨rfl, Or.inr (Or.inl rfl), _, rfl⟩) hd hk hs hq
theorem own_retJ (X : Stand p l e R s m args below meth c T locs cells slots) (hx : p.tables.exec = Jvm.exec) (hlk : meth.locks = false) {pc : Nat} {Ls : Array Slot} {z : Int64} {rest : List Value} (hret : meth.sig.returnType = some .long)
    (hd : decode c.code pc = .ok (.lreturn, 1)) (hk : cells ≤ kc) (hs : slots ≤ kn) (hq : Q (some (.long z)) T.heap locs) : own_Fin p e below s Q kc kn (T.setTop (mkF m pc Ls (.long z :: rest))) :=
  own_ret X hx hlk hret rfl (Or.inr (Or.inl ⟨rfl, rfl, _, rfl⟩)) hd hk hs hq
theorem own_retA (X : Stand p l e R s m args below meth c T locs cells slots) (hx : p.tables.exec = Jvm.exec) (hlk : meth.locks = false) {pc : Nat} {Ls : Array Slot} {z : Addr} {t : FieldType} {rest : List Value} (hret : meth.sig.returnType = some t) (ht : t.isReference = true) (hn : narrow t (.ref z) = .ref z)
    (hd : decode c.code pc = .ok (.areturn, 1)) (hk : cells ≤ kc) (hs : slots ≤ kn) (hq : Q (some (.ref z)) T.heap locs) : own_Fin p e below s Q kc kn (T.setTop (mkF m pc Ls (.ref z :: rest))) :=
  own_ret X hx hlk hret hn (Or.inr (Or.inr (Or.inr (Or.inr ⟨rfl, ht, rfl⟩)))) hd hk hs hq
theorem own_retV (X : Stand p l e R s m args below meth c T locs cells slots) (hx : p.tables.exec = Jvm.exec) (hlk : meth.locks = false) {pc : Nat} {Ls : Array Slot} (hret : meth.sig.returnType = none)
    (hd : decode c.code pc = .ok (.return_, 1)) (hk : cells ≤ kc) (hs : slots ≤ kn) (hq : Q none T.heap locs) : own_Fin p e below s Q kc kn (T.setTop (mkF m pc Ls [])) := by
  obtain ⟨fs, hr, hrun, hended, hW, hsame⟩ := X.leave (v := none) (fun _ => rfl) hlk
  exact ⟨_, _, X.returnOut hx hret hd hr, hrun, hended, _, _, rfl, hq, ⟨_, rfl⟩, hW, hsame.mono hk hs⟩
theorem own_callS (X : Stand p l e R s m args below meth c T locs cells slots) (hx : p.tables.exec = Jvm.exec) (hZ : Z.Warmed39 s.vm) {own : String} {index : Nat} {y : MethodName} {bytes : ByteArray} {maxL : Nat} {ret : Option FieldType} {rm : Room} {as' : Array Value} {Q' : Option Value → Heap → List Loc → Prop}
    (hown : s.vm.findClass own = some m.cls) (w1 : (Jvm.Cond.methodLink own index y).before a0 Z = true) (w2 : (Jvm.Cond.static y).before a0 Z = true) (w3 : (Jvm.Cond.initialized y.cls).before a0 Z = true) (w4 : (Jvm.Cond.code y bytes maxL ret).before a0 Z = true) (hy : y.cls ≠ "java/lang/invoke/MethodHandle" ∧ y.cls ≠ "java/lang/invoke/VarHandle")
    (hM : own_Met l y bytes maxL ret rm Z [] as' h Q') (eT : T.heap = h) {pc : Nat} {Ls : Array Slot} {st argsL rest : List Value} (hst : st = argsL.reverse ++ rest) (has : argsL.toArray = as') (hsize : Ls.size = c.maxLocals) (hlen : ∀ sig, parseMethodDescriptor y.desc = some sig → argsL.length = sig.parameters.length)
    (hd : decode c.code pc = .ok (.invokestatic index, 3)) {W : Nat} (hW : (rest.map fun v => v.category).sum ≤ W) (hf : rm.frames + 1 ≤ R.frames) (hl : W + (maxL + 11) + rm.locals ≤ R.locals) (hc : cells + rm.cells ≤ R.cells) (hs : slots + rm.slots ≤ R.slots)
    (H : ∀ (v : Option Value) (T' : State) (L : List Loc), Stand p l e R s m args below meth c T' (locs ++ L) (cells + rm.cells) (slots + rm.slots) → Q' v T'.heap L → own_FinX p e below FF Q (T'.setTop (mkF m (pc + 3) Ls (v.toList ++ rest)))) :
    own_FinX p e below FF Q (T.setTop (mkF m pc Ls st)) := by
  subst hst
  obtain ⟨v, _, ⟨T', L', k', n'⟩, -, X', ⟨Lc, hQ, l1, y1, z1⟩, st⟩ := Jvm.LawKit.callS X hx (y := y) hown (mvT hZ w1) (mvT hZ w2) (mvT hZ w3) (mvT hZ w4) hy (backOf (W := W) hM hZ w4 w3 hf hl) (g := mkF m pc Ls (argsL.reverse ++ rest)) rfl hsize hlen rfl (by show 2 * 0 + _ ≤ _; omega) hd (fun _ _ => ⟨has, eT, hc, hs⟩)
  dsimp only [Pt.U, Pt.locs, Pt.cells, Pt.slots] at X' l1 y1 z1 st hQ
  subst l1 y1 z1
  exact own_go st (H _ _ _ X' hQ)
theorem own_callV (X : Stand p l e R s m args below meth c T locs cells slots) (hx : p.tables.exec = Jvm.exec) (hZ : Z.Warmed39 s.vm) {own C : String} {index : Nat} {y z : MethodName} {bytes : ByteArray} {maxL : Nat} {ret : Option FieldType} {rm : Room} {as' : Array Value} {Q' : Option Value → Heap → List Loc → Prop}
    (hown : s.vm.findClass own = some m.cls) (w1 : (Jvm.Cond.methodLink own index y).before a0 Z = true) (w2 : (Jvm.Cond.declares y).before a0 Z = true) (nf : NotFace s y) (w3 : (Jvm.Cond.selects C y z).before a0 Z = true) (w4 : (Jvm.Cond.instanceMethod z).before a0 Z = true) (w5 : (Jvm.Cond.code z bytes maxL ret).before a0 Z = true) (w6 : (Jvm.Cond.initialized z.cls).before a0 Z = true) (hy : y.cls ≠ "java/lang/invoke/MethodHandle" ∧ y.cls ≠ "java/lang/invoke/VarHandle")
    (hM : own_Met l z bytes maxL ret rm Z [] as' h Q') (eT : T.heap = h) {a : Addr} (E : Exa Z h a C) {pc : Nat} {Ls : Array Slot} {st argsL rest : List Value} (hst : st = argsL.reverse ++ .ref a :: rest) (has : (.ref a :: argsL).toArray = as') (hsize : Ls.size = c.maxLocals) (hlen : ∀ sig, parseMethodDescriptor y.desc = some sig → argsL.length = sig.parameters.length)
    (hd : decode c.code pc = .ok (.invokevirtual index, 3)) {W : Nat} (hW : (rest.map fun v => v.category).sum ≤ W) (hf : rm.frames + 1 ≤ R.frames) (hl : W + (maxL + 11) + rm.locals ≤ R.locals) (hc : cells + rm.cells ≤ R.cells) (hs : slots + rm.slots ≤ R.slots)
    (H : ∀ (v : Option Value) (T' : State) (L : List Loc), Stand p l e R s m args below meth c T' (locs ++ L) (cells + rm.cells) (slots + rm.slots) → Q' v T'.heap L → own_FinX p e below FF Q (T'.setTop (mkF m (pc + 3) Ls (v.toList ++ rest)))) :
    own_FinX p e below FF Q (T.setTop (mkF m pc Ls st)) := by
  subst hst
  obtain ⟨cB, kB, q1, q2, q3⟩ := isOf (T := T) hZ eT E
  obtain ⟨v, _, ⟨T', L', k', n'⟩, -, X', ⟨Lc, hQ, l1, y1, z1⟩, st⟩ := X.virtualBack hx (y := y) (z := z) hown (mvT hZ w1) (mvT hZ w2) nf (mvT hZ w3) (mvT hZ w4) hy (backOf (W := W) hM hZ w5 w6 hf hl) q1 q3 (g := mkF m pc Ls (argsL.reverse ++ .ref a :: rest)) rfl hsize (Steps.refl _) hlen rfl (by show 2 * 0 + _ ≤ _; omega) hd (fun _ _ => ⟨has, eT, hc, hs⟩)
  dsimp only [Pt.U, Pt.locs, Pt.cells, Pt.slots] at X' l1 y1 z1 st hQ
  subst l1 y1 z1
  exact own_go (fun _ k => st.trans k) (H _ _ _ X' hQ)
theorem own_callN (X : Stand p l e R s m args below meth c T locs cells slots) (hx : p.tables.exec = Jvm.exec) (hZ : Z.Warmed39 s.vm) {own : String} {index : Nat} {y : MethodName} {bytes : ByteArray} {maxL : Nat} {rm : Room} {as' : Array Value} {Q' : Option Value → Heap → List Loc → Prop} (hy1 : y.name = "<init>")
    (hown : s.vm.findClass own = some m.cls) (w1 : (Jvm.Cond.methodLink own index y).before a0 Z = true) (w2 : (Jvm.Cond.instanceMethod y).before a0 Z = true) (w3 : (Jvm.Cond.initialized y.cls).before a0 Z = true) (w4 : (Jvm.Cond.code y bytes maxL none).before a0 Z = true) (hy : y.cls ≠ "java/lang/invoke/MethodHandle" ∧ y.cls ≠ "java/lang/invoke/VarHandle")
    (hM : own_Met l y bytes maxL none rm Z [] as' h Q') (eT : T.heap = h) {a : Addr} {pc : Nat} {Ls : Array Slot} {st argsL rest : List Value} (hst : st = argsL.reverse ++ .ref a :: rest) (has : (.ref a :: argsL).toArray = as') (hsize : Ls.size = c.maxLocals) (hlen : ∀ sig, parseMethodDescriptor y.desc = some sig → argsL.length = sig.parameters.length)
    (hd : decode c.code pc = .ok (.invokespecial index, 3)) {W : Nat} (hW : (rest.map fun v => v.category).sum ≤ W) (hf : rm.frames + 1 ≤ R.frames) (hl : W + (maxL + 11) + rm.locals ≤ R.locals) (hc : cells + rm.cells ≤ R.cells) (hs : slots + rm.slots ≤ R.slots)
    (H : ∀ (v : Option Value) (T' : State) (L : List Loc), Stand p l e R s m args below meth c T' (locs ++ L) (cells + rm.cells) (slots + rm.slots) → Q' v T'.heap L → own_FinX p e below FF Q (T'.setTop (mkF m (pc + 3) Ls (v.toList ++ rest)))) :
    own_FinX p e below FF Q (T.setTop (mkF m pc Ls st)) := by
  subst hst
  obtain ⟨v, _, ⟨T', L', k', n'⟩, -, X', ⟨Lc, hQ, l1, y1, z1⟩, st⟩ := X.specialBack hx (y := y) hy1 hown (mvT hZ w1) (mvT hZ w2) (mvT hZ w4) hy (backOf (W := W) hM hZ w4 w3 hf hl) (g := mkF m pc Ls (argsL.reverse ++ .ref a :: rest)) rfl hsize (Steps.refl _) (a := a) hlen rfl (by show 2 * 0 + _ ≤ _; omega) hd (fun _ _ => ⟨has, eT, hc, hs⟩)
  dsimp only [Pt.U, Pt.locs, Pt.cells, Pt.slots] at X' l1 y1 z1 st hQ
  subst l1 y1 z1
  exact own_go (fun _ k => st.trans k) (H _ _ _ X' hQ)
theorem own_initO (X : Stand p l e R s m args below meth c T locs cells slots) (hx : p.tables.exec = Jvm.exec) (hZ : Z.Warmed39 s.vm) {own : String} {idx : Nat} (hown : s.vm.findClass own = some m.cls) (w1 : (Jvm.Cond.methodLink own idx Lib.objectInit).before a0 Z = true) (w2 : (Jvm.Cond.instanceMethod Lib.objectInit).before a0 Z = true)
    (w3 : (Jvm.Cond.code Lib.objectInit ⟨#[0xb1]⟩ 1 none).before a0 Z = true) (eT : T.heap = h) {pc : Nat} {Ls : Array Slot} (hsize : Ls.size = c.maxLocals) {a : Addr} {rest : List Value} (hd : decode c.code pc = .ok (.invokespecial idx, 3))
    (hf : 1 ≤ R.frames) {W : Nat} (hW : (rest.map fun v => v.category).sum ≤ W) (hl : W + 12 ≤ R.locals)
    (H : ∀ (T' : State), Stand p l e R s m args below meth c T' locs cells slots → T'.heap = h → own_FinX p e below FF Q (T'.setTop (mkF m (pc + 3) Ls rest))) :
    own_FinX p e below FF Q (T.setTop (mkF m pc Ls (.ref a :: rest))) := by
  obtain ⟨T', X', e', st⟩ := initO X hx hZ hown w1 w2 w3 eT (g := mkF m pc Ls (.ref a :: rest)) rfl hsize rfl hd hf (W := W) (by show 2 * 0 + _ ≤ _; omega) hl
  exact own_go st (H _ X' e')
theorem own_getF (X : Stand p l e R s m args below meth c T locs cells slots) (hx : p.tables.exec = Jvm.exec) (hZ : Z.Warmed39 s.vm) {own R0 O n d host : String} {index : Nat} (hown : s.vm.findClass own = some m.cls) (w : (Jvm.Cond.fieldLink own index R0 n d).before a0 Z = true ∨ (Jvm.Cond.fieldLinkNest own index R0 n d host).before a0 Z = true) (via : Via Z R0 O n d)
    (eT : T.heap = h) {a : Addr} {v : Value} (F : Fld Z h a O n d v) {pc : Nat} {Ls : Array Slot} {rest : List Value} (hd : decode c.code pc = .ok (.getfield index, 3))
    (H : ∀ (T' : State), Stand p l e R s m args below meth c T' locs cells slots → T'.heap = h → own_FinX p e below FF Q (T'.setTop (mkF m (pc + 3) Ls (v :: rest)))) :
    own_FinX p e below FF Q (T.setTop (mkF m pc Ls (.ref a :: rest))) := by
  obtain ⟨T', X', e', st⟩ := getF X hx hZ hown w via eT F (g := mkF m pc Ls (.ref a :: rest)) rfl rfl hd
  exact own_go st (H _ X' e')
theorem own_getS (X : Stand p l e R s m args below meth c T locs cells slots) (hx : p.tables.exec = Jvm.exec) (hZ : Z.Warmed39 s.vm) {own R0 O n d host : String} {index : Nat} (hown : s.vm.findClass own = some m.cls) (w : (Jvm.Cond.fieldLink own index R0 n d).before a0 Z = true ∨ (Jvm.Cond.fieldLinkNest own index R0 n d host).before a0 Z = true) (via : Via Z R0 O n d)
    (eT : T.heap = h) {v : Value} (F : Sta Z h O n d v) {pc : Nat} {Ls : Array Slot} {rest : List Value} (hd : decode c.code pc = .ok (.getstatic index, 3))
    (H : ∀ (T' : State), Stand p l e R s m args below meth c T' locs cells slots → T'.heap = h → own_FinX p e below FF Q (T'.setTop (mkF m (pc + 3) Ls (v :: rest)))) :
    own_FinX p e below FF Q (T.setTop (mkF m pc Ls rest)) := by
  obtain ⟨T', X', e', st⟩ := getS2 X hx hZ hown w via eT F (g := mkF m pc Ls rest) rfl hd
  exact own_go st (H _ X' e')
theorem own_putF (X : Stand p l e R s m args below meth c T locs cells slots) (hx : p.tables.exec = Jvm.exec) (hZ : Z.Warmed39 s.vm) {own R0 O n d host C : String} {index kk : Nat} {ty : FieldType} (hown : s.vm.findClass own = some m.cls) (w : (Jvm.Cond.fieldLink own index R0 n d).before a0 Z = true ∨ (Jvm.Cond.fieldLinkNest own index R0 n d host).before a0 Z = true) (via : Via Z R0 O n d)
    (eT : T.heap = h) {a : Addr} {v old : Value} (F : Fld Z h a O n d old) (E : Exa Z h a C) (L : (Jvm.Cond.lays C O n d).before a0 Z = true ∨ ((Jvm.Cond.laysFinal C O n d).before a0 Z = true ∧ own = O ∧ meth.name = "<init>")) (wi : (Jvm.Cond.instantiable C kk).before a0 Z = true)
    (hty : parseFieldDescriptor d = some ty) (hn : narrow ty v = v) (hf : fits ty v = true) {pc : Nat} {Ls : Array Slot} {rest : List Value} (hd : decode c.code pc = .ok (.putfield index, 3))
    (H : ∀ (T' : State) (h' : Heap), Stand p l e R s m args below meth c T' (locs ++ [⟨a, Jvm.RoadKit.slotOf Z O n d⟩]) cells slots → T'.heap = h' → Wr h h' a (Jvm.RoadKit.slotOf Z O n d) v → own_FinX p e below FF Q (T'.setTop (mkF m (pc + 3) Ls rest))) :
    own_FinX p e below FF Q (T.setTop (mkF m pc Ls (v :: .ref a :: rest))) := by
  obtain ⟨T', h', X', e', W', st⟩ := putF X hx hZ hown w via eT F E L wi hty hn hf (g := mkF m pc Ls (v :: .ref a :: rest)) rfl rfl hd
  exact own_go st (H _ _ X' e' W')
theorem own_new (X : Stand p l e R s m args below meth c T locs cells slots) (hx : p.tables.exec = Jvm.exec) (hZ : Z.Warmed39 s.vm) {own C : String} {index n : Nat} (hown : s.vm.findClass own = some m.cls) (w : (Jvm.Cond.classLink own index C).before a0 Z = true) (wi : (Jvm.Cond.instantiable C n).before a0 Z = true) (wz : (Jvm.Cond.initialized C).before a0 Z = true) (eT : T.heap = h)
    {pc : Nat} {Ls : Array Slot} {rest : List Value} (hd : decode c.code pc = .ok (.new index, 3)) (hc : cells + 1 ≤ R.cells) (hl : slots + n ≤ R.slots)
    (H : ∀ (T' : State) (h' : Heap) (a : Addr), a = h.size → Stand p l e R s m args below meth c T' locs (cells + 1) (slots + n) → T'.heap = h' → Ext h h' → Exa Z h' a C → (∀ {O nm d : String} {ty : FieldType}, Laid Z a0 C O nm d → parseFieldDescriptor d = some ty → Fld Z h' a O nm d (defaultValue ty)) → own_FinX p e below FF Q (T'.setTop (mkF m (pc + 3) Ls (.ref a :: rest)))) :
    own_FinX p e below FF Q (T.setTop (mkF m pc Ls rest)) := by
  obtain ⟨T', h', X', e', E', A', D', -, st⟩ := newO X hx hZ hown w wi wz eT (g := mkF m pc Ls rest) rfl hd hc hl
  exact own_go st (H _ _ _ rfl X' e' E' A' D')
theorem own_callU (X : Stand p l e R s m args below meth c T locs cells slots) (hx : p.tables.exec = Jvm.exec) (hZ : Z.Warmed39 s.vm) {own C owner : String} {index : Nat} {y z : MethodName} {bytes : ByteArray} {maxL : Nat} {ret : Option FieldType} {rm : Room} {as' : Array Value} {Q' : Option Value → Heap → List Loc → Prop}
    (hown : s.vm.findClass own = some m.cls) (w1 : (Jvm.Cond.methodLink own index y).before a0 Z = true) (w2 : (Jvm.Cond.sameMethod y.cls owner y.name y.desc).before a0 Z = true) (w2' : (Jvm.Cond.declares ⟨owner, y.name, y.desc⟩).before a0 Z = true) (hy : owner ≠ "java/lang/invoke/MethodHandle" ∧ owner ≠ "java/lang/invoke/VarHandle") (w3 : (Jvm.Cond.selects C y z).before a0 Z = true) (w4 : (Jvm.Cond.instanceMethod z).before a0 Z = true) (w5 : (Jvm.Cond.code z bytes maxL ret).before a0 Z = true) (w6 : (Jvm.Cond.initialized z.cls).before a0 Z = true)
    (hM : own_Met l z bytes maxL ret rm Z [] as' h Q') (eT : T.heap = h) {a : Addr} (E : Exa Z h a C) {pc : Nat} {Ls : Array Slot} {st argsL rest : List Value} (hst : st = argsL.reverse ++ .ref a :: rest) (has : (.ref a :: argsL).toArray = as') (hsize : Ls.size = c.maxLocals) (hlen : ∀ sig, parseMethodDescriptor y.desc = some sig → argsL.length = sig.parameters.length)
    (hd : decode c.code pc = .ok (.invokevirtual index, 3)) {W : Nat} (hW : (rest.map fun v => v.category).sum ≤ W) (hf : rm.frames + 1 ≤ R.frames) (hl : W + (maxL + 11) + rm.locals ≤ R.locals) (hc : cells + rm.cells ≤ R.cells) (hs : slots + rm.slots ≤ R.slots)
    (H : ∀ (v : Option Value) (T' : State) (L : List Loc), Stand p l e R s m args below meth c T' (locs ++ L) (cells + rm.cells) (slots + rm.slots) → Q' v T'.heap L → own_FinX p e below FF Q (T'.setTop (mkF m (pc + 3) Ls (v.toList ++ rest)))) :
    own_FinX p e below FF Q (T.setTop (mkF m pc Ls st)) := by
  subst hst
  obtain ⟨cB, kB, q1, q2, q3⟩ := isOf (T := T) hZ eT E
  obtain ⟨v, _, ⟨T', L', k', n'⟩, -, X', ⟨Lc, hQ, l1, y1, z1⟩, st⟩ := X.virtualBackUp hx (x := y) (y := z) hown (mvT hZ w1) (mvT hZ w2) (mvT hZ w2') hy (mvT hZ w3) (mvT hZ w4) (backOf (W := W) hM hZ w5 w6 hf hl) q1 q3 (g := mkF m pc Ls (argsL.reverse ++ .ref a :: rest)) rfl hsize (Steps.refl _) hlen rfl (by show 2 * 0 + _ ≤ _; omega) hd (fun _ _ => ⟨has, eT, hc, hs⟩)
  dsimp only [Pt.U, Pt.locs, Pt.cells, Pt.slots] at X' l1 y1 z1 st hQ
  subst l1 y1 z1
  exact own_go (fun _ k => st.trans k) (H _ _ _ X' hQ)
theorem own_lswHit (X : Stand p l e R s m args below meth c T locs cells slots) (hx : p.tables.exec = Jvm.exec) {pc pc' : Nat} {Ls : Array Slot} {k : Int32} {rest : List Value} {default : Int} {pairs : Array (Int × Int)} {len : Nat} (hd : decode c.code pc = .ok (.lookupswitch default pairs, len))
    (hsorted : (pairs.toList.zip (pairs.toList.drop 1)).all (fun (a, next) => a.1 < next.1) = true) {a off : Int} (hfind : pairs.find? (·.1 == k.toInt) = some (a, off)) (hoff : 0 ≤ (pc : Int) + off) (hp : ((pc : Int) + off).toNat = pc')
    (H : own_FinX p e below FF Q (T.setTop (mkF m pc' Ls rest))) : own_FinX p e below FF Q (T.setTop (mkF m pc Ls (.int k :: rest))) := by
  subst hp
  exact own_go (fun t q => X.lookupswitchHit hx (g := mkF m pc Ls (.int k :: rest)) rfl rfl hd hsorted hfind hoff t q) H
theorem own_lswMiss (X : Stand p l e R s m args below meth c T locs cells slots) (hx : p.tables.exec = Jvm.exec) {pc pc' : Nat} {Ls : Array Slot} {k : Int32} {rest : List Value} {default : Int} {pairs : Array (Int × Int)} {len : Nat} (hd : decode c.code pc = .ok (.lookupswitch default pairs, len))
    (hsorted : (pairs.toList.zip (pairs.toList.drop 1)).all (fun (a, next) => a.1 < next.1) = true) (hfind : ∀ q ∈ pairs.toList, q.1 ≠ k.toInt) (hoff : 0 ≤ (pc : Int) + default) (hp : ((pc : Int) + default).toNat = pc')
    (H : own_FinX p e below FF Q (T.setTop (mkF m pc' Ls rest))) : own_FinX p e below FF Q (T.setTop (mkF m pc Ls (.int k :: rest))) := by
  subst hp
  exact own_go (fun t q => X.lookupswitchMiss hx (g := mkF m pc Ls (.int k :: rest)) rfl rfl hd hsorted (find_miss hfind) hoff t q) H
theorem own_castY (X : Stand p l e R s m args below meth c T locs cells slots) (hx : p.tables.exec = Jvm.exec) (hZ : Z.Warmed39 s.vm) {own K : String} {index : Nat} (hown : s.vm.findClass own = some m.cls) (w : (Jvm.Cond.classLink own index K).before a0 Z = true) (eT : T.heap = h) {a : Addr} (F : Ins Z h a K true)
    {pc : Nat} {Ls : Array Slot} {rest : List Value} (hd : decode c.code pc = .ok (.checkcast index, 3))
    (H : ∀ (T' : State), Stand p l e R s m args below meth c T' locs cells slots → T'.heap = h → own_FinX p e below FF Q (T'.setTop (mkF m (pc + 3) Ls (.ref a :: rest)))) :
    own_FinX p e below FF Q (T.setTop (mkF m pc Ls (.ref a :: rest))) := by
  obtain ⟨T', X', e', st⟩ := castY X hx hZ hown w eT F (g := mkF m pc Ls (.ref a :: rest)) rfl rfl hd
  exact own_go st (H _ X' e')
theorem own_Sta_keep0 {C n d : String} {v : Value} {h h' : Heap} (F : Sta Z h C n d v) (K : Keep h h' []) : Sta Z h' C n d v := by
  obtain ⟨cf, i, k, f, st, cell, h1, h2, h3, h4, h5, r⟩ := F
  exact ⟨cf, i, k, f, st, cell, h1, h2, h3, h4, K.2.1 _ _ h5 nin0, r⟩
theorem own_Arr_keep0 {a : Addr} {cl : Cell} {ty : FieldType} {h h' : Heap} (F : Arr Z h a cl ty) (K : Keep h h' []) : Arr Z h' a cl ty := ⟨K.2.1 _ _ F.1 nin0, F.2⟩
theorem own_neI {k z : Int32} {n : Int} (hz : z.toInt = n) (q : ¬ k = z) : n ≠ k.toInt := fun e => q (Int32.toInt_inj.mp (by rw [hz]; exact e.symm))
theorem own_fldI {args : Array Value} {t : Term} {O nm dd : String} {v : Int32} {a : Addr} (q : (Jvm.Cond.eq (.field t O nm dd) (.int v)).value args Z none Z [] = some true) (ev : t.eval args Z none [] Z = some (.ref a)) : Fld Z Z.heap a O nm dd (.int v) := by
  refine Fld.start ?_
  have e1 := fld_at (C := O) (n := nm) (dd := dd) ev
  simp only [Cond.value, e1] at q
  cases hf : Z.fieldOf? a O nm dd with
  | none => simp [hf] at q
  | some x => cases x <;> simp [hf, Term.eval] at q ⊢; exact q
theorem own_fldR {args : Array Value} {t u : Term} {O nm dd : String} {a b : Addr} (q : (Jvm.Cond.eq (.field t O nm dd) u).value args Z none Z [] = some true) (ev : t.eval args Z none [] Z = some (.ref a)) (eu : u.eval args Z none [] Z = some (.ref b)) : Fld Z Z.heap a O nm dd (.ref b) := by
  refine Fld.start ?_
  have e1 := fld_at (C := O) (n := nm) (dd := dd) ev
  simp only [Cond.value, e1, eu] at q
  cases hf : Z.fieldOf? a O nm dd with
  | none => simp [hf] at q
  | some x => cases x <;> simp [hf] at q ⊢; exact q
end Own
section OwnArr
variable {p : Program} {l : Launch} {e : Env} {R : Room} {s : State} {m : MethodId} {args : Array Value} {below : List Frame} {meth : Method} {c : Code} {T : State} {locs : List Loc} {cells slots : Nat} {Z : State} {a0 : Array Value} {h h' : Heap} {Q : Option Value → Heap → List Loc → Prop} {kc kn : Nat} {a b : Addr} {ty : FieldType} {vs : List Value} {v w : Value} {ws : List Addr} {sl : Nat} {FF : Outcome → State → List Loc → Prop}
/-- the array at a holds just vs -/
def own_Ar (Z : State) (h : Heap) (a : Addr) (ty : FieldType) (vs : List Value) : Prop := ∃ c : Cell, Arr Z h a c ty ∧ c.slots = vs.toArray ∧ vs.length < 2 ^ 31
theorem own_Ar.lt (F : own_Ar Z h a ty vs) : a < h.size := by obtain ⟨c, A, -⟩ := F; exact A.lt
theorem own_Ar.ext (F : own_Ar Z h a ty vs) (E : Ext h h') : own_Ar Z h' a ty vs := by obtain ⟨c, A, r⟩ := F; exact ⟨c, A.ext E, r⟩
theorem own_Ar.other (F : own_Ar Z h b ty vs) (W : Wr h h' a sl v) (q : b ≠ a) : own_Ar Z h' b ty vs := by obtain ⟨c, A, r⟩ := F; exact ⟨c, A.other W q, r⟩
theorem own_Ar.keep (F : own_Ar Z h a ty vs) (K : Keep h h' ws) (q : a ∉ ws) : own_Ar Z h' a ty vs := by obtain ⟨c, A, r⟩ := F; exact ⟨c, ⟨K.2.1 a c A.1 q, A.2⟩, r⟩
theorem own_Ar.set (F : own_Ar Z h a ty vs) (W : Wr h h' a sl v) : own_Ar Z h' a ty (vs.set sl v) := by
  obtain ⟨c, A, q1, q2⟩ := F
  refine ⟨_, A.same W, ?_, by rw [List.length_set]; exact q2⟩
  show c.slots.setIfInBounds sl v = _
  rw [q1]; simp
theorem own_Ar.len (F : own_Ar Z h a ty vs) : vs.length < 2 ^ 31 := by obtain ⟨_, _, _, q⟩ := F; exact q
theorem own_in {c : Cell} (q : c.slots = vs.toArray) {j : Int32} (hj : ¬ j < 0) (hi : j.toNatClampNeg < vs.length) : ¬ (j < 0 ∨ c.slots.size ≤ j.toNatClampNeg) := by
  rw [q]; simp only [List.size_toArray]; exact fun w => w.elim hj fun w => absurd hi (Nat.not_lt.mpr w)
theorem own_lt {vs : List Value} {i : Nat} (hv : vs[i]? = some v) : i < vs.length := (List.getElem?_eq_some_iff.mp hv).1
theorem own_iaload (X : Stand p l e R s m args below meth c T locs cells slots) (hx : p.tables.exec = Jvm.exec) (hZ : Z.Warmed39 s.vm) (eT : T.heap = h) (F : own_Ar Z h a .int vs) {j : Int32} (hj : ¬ j < 0) (hv : vs[j.toNatClampNeg]? = some v) {pc : Nat} {Ls : Array Slot} {rest : List Value} (hd : decode c.code pc = .ok (.iaload, 1))
    (H : own_FinX p e below FF Q (T.setTop (mkF m (pc + 1) Ls (v :: rest)))) : own_FinX p e below FF Q (T.setTop (mkF m pc Ls (.int j :: .ref a :: rest))) := by
  obtain ⟨c', A, q1, q2⟩ := F
  exact own_go (fun t k => X.iaload hx (j := j) (v := v) (by rw [eT]; exact A.1) (State.isArrayOf_alike hZ.alike A.2.1) A.2.2 (own_in q1 hj (own_lt hv)) (by rw [q1]; simpa using hv) (g := mkF m pc Ls (.int j :: .ref a :: rest)) rfl rfl hd t k) H
theorem own_laload (X : Stand p l e R s m args below meth c T locs cells slots) (hx : p.tables.exec = Jvm.exec) (hZ : Z.Warmed39 s.vm) (eT : T.heap = h) (F : own_Ar Z h a .long vs) {j : Int32} (hj : ¬ j < 0) (hv : vs[j.toNatClampNeg]? = some v) {pc : Nat} {Ls : Array Slot} {rest : List Value} (hd : decode c.code pc = .ok (.laload, 1))
    (H : own_FinX p e below FF Q (T.setTop (mkF m (pc + 1) Ls (v :: rest)))) : own_FinX p e below FF Q (T.setTop (mkF m pc Ls (.int j :: .ref a :: rest))) := by
  obtain ⟨c', A, q1, q2⟩ := F
  exact own_go (fun t k => X.laload hx (j := j) (v := v) (by rw [eT]; exact A.1) (State.isArrayOf_alike hZ.alike A.2.1) A.2.2 (own_in q1 hj (own_lt hv)) (by rw [q1]; simpa using hv) (g := mkF m pc Ls (.int j :: .ref a :: rest)) rfl rfl hd t k) H
theorem own_zaload (X : Stand p l e R s m args below meth c T locs cells slots) (hx : p.tables.exec = Jvm.exec) (hZ : Z.Warmed39 s.vm) (eT : T.heap = h) (F : own_Ar Z h a .boolean vs) {j : Int32} (hj : ¬ j < 0) (hv : vs[j.toNatClampNeg]? = some v) {pc : Nat} {Ls : Array Slot} {rest : List Value} (hd : decode c.code pc = .ok (.baload, 1))
    (H : own_FinX p e below FF Q (T.setTop (mkF m (pc + 1) Ls (v :: rest)))) : own_FinX p e below FF Q (T.setTop (mkF m pc Ls (.int j :: .ref a :: rest))) := by
  obtain ⟨c', A, q1, q2⟩ := F
  exact own_go (fun t k => X.baloadBooleans hx (j := j) (v := v) (by rw [eT]; exact A.1) (State.isArrayOf_alike hZ.alike A.2.1) A.2.2 (own_in q1 hj (own_lt hv)) (by rw [q1]; simpa using hv) (g := mkF m pc Ls (.int j :: .ref a :: rest)) rfl rfl hd t k) H
theorem own_aaload (X : Stand p l e R s m args below meth c T locs cells slots) (hx : p.tables.exec = Jvm.exec) (hZ : Z.Warmed39 s.vm) (eT : T.heap = h) (F : own_Ar Z h a ty vs) (hty : ty.isReference = true) {j : Int32} (hj : ¬ j < 0) (hv : vs[j.toNatClampNeg]? = some v) {pc : Nat} {Ls : Array Slot} {rest : List Value} (hd : decode c.code pc = .ok (.aaload, 1))
    (H : own_FinX p e below FF Q (T.setTop (mkF m (pc + 1) Ls (v :: rest)))) : own_FinX p e below FF Q (T.setTop (mkF m pc Ls (.int j :: .ref a :: rest))) := by
  obtain ⟨c', A, q1, q2⟩ := F
  exact own_go (fun t k => X.aaload hx (j := j) (v := v) (by rw [eT]; exact A.1) (State.isArrayOf_alike hZ.alike A.2.1) hty A.2.2 (own_in q1 hj (own_lt hv)) (by rw [q1]; simpa using hv) (g := mkF m pc Ls (.int j :: .ref a :: rest)) rfl rfl hd t k) H
theorem own_alen (X : Stand p l e R s m args below meth c T locs cells slots) (hx : p.tables.exec = Jvm.exec) (hZ : Z.Warmed39 s.vm) (eT : T.heap = h) (F : own_Ar Z h a ty vs) {pc : Nat} {Ls : Array Slot} {rest : List Value} (hd : decode c.code pc = .ok (.arraylength, 1))
    (H : own_FinX p e below FF Q (T.setTop (mkF m (pc + 1) Ls (.int (Int32.ofNat vs.length) :: rest)))) : own_FinX p e below FF Q (T.setTop (mkF m pc Ls (.ref a :: rest))) := by
  obtain ⟨c', A, q1, q2⟩ := F
  refine own_go (fun t k => X.arraylength hx (by rw [eT]; exact A.1) (State.isArrayOf_alike hZ.alike A.2.1) (g := mkF m pc Ls (.ref a :: rest)) rfl rfl hd t k) ?_
  rw [q1]; simp only [List.size_toArray]; exact H
theorem own_iastore (X : Stand p l e R s m args below meth c T locs cells slots) (hx : p.tables.exec = Jvm.exec) (hZ : Z.Warmed39 s.vm) (eT : T.heap = h) (F : own_Ar Z h a .int vs) {j x : Int32} (hj : ¬ j < 0) (hi : j.toNatClampNeg < vs.length) {pc : Nat} {Ls : Array Slot} {rest : List Value} (hd : decode c.code pc = .ok (.iastore, 1))
    (H : ∀ (T' : State) (h' : Heap), Stand p l e R s m args below meth c T' (locs ++ [⟨a, j.toNatClampNeg⟩]) cells slots → T'.heap = h' → Wr h h' a j.toNatClampNeg (.int x) → own_Ar Z h' a .int (vs.set j.toNatClampNeg (.int x)) → own_FinX p e below FF Q (T'.setTop (mkF m (pc + 1) Ls rest))) :
    own_FinX p e below FF Q (T.setTop (mkF m pc Ls (.int x :: .int j :: .ref a :: rest))) := by
  have F' := F
  obtain ⟨c', A, q1, q2⟩ := F
  obtain ⟨T', h', X', e', W', st⟩ := stI X hx hZ eT A (j := j) (x := x) (own_in q1 hj hi) (g := mkF m pc Ls (.int x :: .int j :: .ref a :: rest)) rfl rfl hd
  exact own_go st (H _ _ X' e' W' (F'.set W'))
theorem own_lastore (X : Stand p l e R s m args below meth c T locs cells slots) (hx : p.tables.exec = Jvm.exec) (hZ : Z.Warmed39 s.vm) (eT : T.heap = h) (F : own_Ar Z h a .long vs) {j : Int32} {x : Int64} (hj : ¬ j < 0) (hi : j.toNatClampNeg < vs.length) {pc : Nat} {Ls : Array Slot} {rest : List Value} (hd : decode c.code pc = .ok (.lastore, 1))
    (H : ∀ (T' : State) (h' : Heap), Stand p l e R s m args below meth c T' (locs ++ [⟨a, j.toNatClampNeg⟩]) cells slots → T'.heap = h' → Wr h h' a j.toNatClampNeg (.long x) → own_Ar Z h' a .long (vs.set j.toNatClampNeg (.long x)) → own_FinX p e below FF Q (T'.setTop (mkF m (pc + 1) Ls rest))) :
    own_FinX p e below FF Q (T.setTop (mkF m pc Ls (.long x :: .int j :: .ref a :: rest))) := by
  have F' := F
  obtain ⟨c', A, q1, q2⟩ := F
  obtain ⟨T', h', X', e', W', st⟩ := stJ X hx hZ eT A (j := j) (x := x) (own_in q1 hj hi) (g := mkF m pc Ls (.long x :: .int j :: .ref a :: rest)) rfl rfl hd
  exact own_go st (H _ _ X' e' W' (F'.set W'))
theorem own_zastore (X : Stand p l e R s m args below meth c T locs cells slots) (hx : p.tables.exec = Jvm.exec) (hZ : Z.Warmed39 s.vm) (eT : T.heap = h) (F : own_Ar Z h a .boolean vs) {j x : Int32} (hj : ¬ j < 0) (hi : j.toNatClampNeg < vs.length) {pc : Nat} {Ls : Array Slot} {rest : List Value} (hd : decode c.code pc = .ok (.bastore, 1)) (hn : nar .boolean x = x)
    (H : ∀ (T' : State) (h' : Heap), Stand p l e R s m args below meth c T' (locs ++ [⟨a, j.toNatClampNeg⟩]) cells slots → T'.heap = h' → Wr h h' a j.toNatClampNeg (.int x) → own_Ar Z h' a .boolean (vs.set j.toNatClampNeg (.int x)) → own_FinX p e below FF Q (T'.setTop (mkF m (pc + 1) Ls rest))) :
    own_FinX p e below FF Q (T.setTop (mkF m pc Ls (.int x :: .int j :: .ref a :: rest))) := by
  have F' := F
  obtain ⟨c', A, q1, q2⟩ := F
  obtain ⟨T', h', X', e', W', st⟩ := stZ X hx hZ eT A (j := j) (x := x) (own_in q1 hj hi) (g := mkF m pc Ls (.int x :: .int j :: .ref a :: rest)) rfl rfl hd
  rw [hn] at W'
  exact own_go st (H _ _ X' e' W' (F'.set W'))
theorem own_newarr (X : Stand p l e R s m args below meth c T locs cells slots) (hx : p.tables.exec = Jvm.exec) (hZ : Z.Warmed39 s.vm) {aty : ArrayType} (w : (Jvm.Cond.arrayClass (newarray.typeOf aty)).before a0 Z = true) (eT : T.heap = h) {pc : Nat} {Ls : Array Slot} {rest : List Value} (hd : decode c.code pc = .ok (.newarray aty, 2)) {n : Int32}
    (hn : ¬ n < 0) {cap : Nat} (hcap : n.toNatClampNeg ≤ cap) (hb : cap * 8 ≤ 536870912) (hc : cells + 1 ≤ R.cells) (hl : slots + cap ≤ R.slots) {ad : String} (had : "[" ++ (newarray.typeOf aty).toString = ad)
    (H : ∀ (T' : State) (h' : Heap) (a : Addr), a = h.size → Stand p l e R s m args below meth c T' locs (cells + 1) (slots + cap) → T'.heap = h' → Ext h h' → own_Ar Z h' a (newarray.typeOf aty) (List.replicate n.toNatClampNeg (defaultValue (newarray.typeOf aty))) → Exa Z h' a ad → own_FinX p e below FF Q (T'.setTop (mkF m (pc + 2) Ls (.ref a :: rest)))) :
    own_FinX p e below FF Q (T.setTop (mkF m pc Ls (.int n :: rest))) := by
  obtain ⟨T', h', cA, X', e', E', A', D', st⟩ := newPE X hx hZ w eT (g := mkF m pc Ls (.int n :: rest)) rfl hd rfl hn hcap hb hc hl had
  exact own_go st (H _ _ _ rfl X' e' E' ⟨_, A', by simp [newA], by simp only [List.length_replicate]; omega⟩ D')
theorem own_ldI (X : Stand p l e R s m args below meth c T locs cells slots) (hx : p.tables.exec = Jvm.exec) (hZ : Z.Warmed39 s.vm) (eT : T.heap = h) {xs : List Int32} (F : own_Ar Z h a .int (xs.map Value.int)) {j : Int32} (hj : ¬ j < 0) (hi : j.toNatClampNeg < xs.length) {pc : Nat} {Ls : Array Slot} {rest : List Value} (hd : decode c.code pc = .ok (.iaload, 1))
    (H : own_FinX p e below FF Q (T.setTop (mkF m (pc + 1) Ls (Value.int (xs.getD j.toNatClampNeg 0) :: rest)))) : own_FinX p e below FF Q (T.setTop (mkF m pc Ls (.int j :: .ref a :: rest))) :=
  own_iaload X hx hZ eT F hj (by simp [List.getD_eq_getElem?_getD, hi]) hd H
theorem own_ldZ (X : Stand p l e R s m args below meth c T locs cells slots) (hx : p.tables.exec = Jvm.exec) (hZ : Z.Warmed39 s.vm) (eT : T.heap = h) {xs : List Int32} (F : own_Ar Z h a .boolean (xs.map Value.int)) {j : Int32} (hj : ¬ j < 0) (hi : j.toNatClampNeg < xs.length) {pc : Nat} {Ls : Array Slot} {rest : List Value} (hd : decode c.code pc = .ok (.baload, 1))
    (H : own_FinX p e below FF Q (T.setTop (mkF m (pc + 1) Ls (Value.int (xs.getD j.toNatClampNeg 0) :: rest)))) : own_FinX p e below FF Q (T.setTop (mkF m pc Ls (.int j :: .ref a :: rest))) :=
  own_zaload X hx hZ eT F hj (by simp [List.getD_eq_getElem?_getD, hi]) hd H
theorem own_ldJ (X : Stand p l e R s m args below meth c T locs cells slots) (hx : p.tables.exec = Jvm.exec) (hZ : Z.Warmed39 s.vm) (eT : T.heap = h) {xs : List Int64} (F : own_Ar Z h a .long (xs.map Value.long)) {j : Int32} (hj : ¬ j < 0) (hi : j.toNatClampNeg < xs.length) {pc : Nat} {Ls : Array Slot} {rest : List Value} (hd : decode c.code pc = .ok (.laload, 1))
    (H : own_FinX p e below FF Q (T.setTop (mkF m (pc + 1) Ls (Value.long (xs.getD j.toNatClampNeg 0) :: rest)))) : own_FinX p e below FF Q (T.setTop (mkF m pc Ls (.int j :: .ref a :: rest))) :=
  own_laload X hx hZ eT F hj (by simp [List.getD_eq_getElem?_getD, hi]) hd H
theorem own_stI (X : Stand p l e R s m args below meth c T locs cells slots) (hx : p.tables.exec = Jvm.exec) (hZ : Z.Warmed39 s.vm) (eT : T.heap = h) {xs : List Int32} (F : own_Ar Z h a .int (xs.map Value.int)) {j : Int32} {x : Int32} (hj : ¬ j < 0) (hi : j.toNatClampNeg < xs.length) {pc : Nat} {Ls : Array Slot} {rest : List Value} (hd : decode c.code pc = .ok (.iastore, 1))
    (H : ∀ (T' : State) (h' : Heap), Stand p l e R s m args below meth c T' (locs ++ [⟨a, j.toNatClampNeg⟩]) cells slots → T'.heap = h' → Wr h h' a j.toNatClampNeg (Value.int x) → own_Ar Z h' a .int ((xs.set j.toNatClampNeg x).map Value.int) → own_FinX p e below FF Q (T'.setTop (mkF m (pc + 1) Ls rest))) :
    own_FinX p e below FF Q (T.setTop (mkF m pc Ls (Value.int x :: .int j :: .ref a :: rest))) :=
  own_iastore X hx hZ eT F hj (by simpa using hi) hd fun T' h' X' e' W' F' => H T' h' X' e' W' (by rw [List.map_set]; exact F')
theorem own_stZ (X : Stand p l e R s m args below meth c T locs cells slots) (hx : p.tables.exec = Jvm.exec) (hZ : Z.Warmed39 s.vm) (eT : T.heap = h) {xs : List Int32} (F : own_Ar Z h a .boolean (xs.map Value.int)) {j : Int32} {x : Int32} (hj : ¬ j < 0) (hi : j.toNatClampNeg < xs.length) {pc : Nat} {Ls : Array Slot} {rest : List Value} (hd : decode c.code pc = .ok (.bastore, 1)) (hn : nar .boolean x = x)
    (H : ∀ (T' : State) (h' : Heap), Stand p l e R s m args below meth c T' (locs ++ [⟨a, j.toNatClampNeg⟩]) cells slots → T'.heap = h' → Wr h h' a j.toNatClampNeg (Value.int x) → own_Ar Z h' a .boolean ((xs.set j.toNatClampNeg x).map Value.int) → own_FinX p e below FF Q (T'.setTop (mkF m (pc + 1) Ls rest))) :
    own_FinX p e below FF Q (T.setTop (mkF m pc Ls (Value.int x :: .int j :: .ref a :: rest))) :=
  own_zastore X hx hZ eT F hj (by simpa using hi) hd hn fun T' h' X' e' W' F' => H T' h' X' e' W' (by rw [List.map_set]; exact F')
theorem own_stJ (X : Stand p l e R s m args below meth c T locs cells slots) (hx : p.tables.exec = Jvm.exec) (hZ : Z.Warmed39 s.vm) (eT : T.heap = h) {xs : List Int64} (F : own_Ar Z h a .long (xs.map Value.long)) {j : Int32} {x : Int64} (hj : ¬ j < 0) (hi : j.toNatClampNeg < xs.length) {pc : Nat} {Ls : Array Slot} {rest : List Value} (hd : decode c.code pc = .ok (.lastore, 1))
    (H : ∀ (T' : State) (h' : Heap), Stand p l e R s m args below meth c T' (locs ++ [⟨a, j.toNatClampNeg⟩]) cells slots → T'.heap = h' → Wr h h' a j.toNatClampNeg (Value.long x) → own_Ar Z h' a .long ((xs.set j.toNatClampNeg x).map Value.long) → own_FinX p e below FF Q (T'.setTop (mkF m (pc + 1) Ls rest))) :
    own_FinX p e below FF Q (T.setTop (mkF m pc Ls (Value.long x :: .int j :: .ref a :: rest))) :=
  own_lastore X hx hZ eT F hj (by simpa using hi) hd fun T' h' X' e' W' F' => H T' h' X' e' W' (by rw [List.map_set]; exact F')
theorem own_newI (X : Stand p l e R s m args below meth c T locs cells slots) (hx : p.tables.exec = Jvm.exec) (hZ : Z.Warmed39 s.vm) (w : (Jvm.Cond.arrayClass .int).before a0 Z = true) (eT : T.heap = h) {pc : Nat} {Ls : Array Slot} {rest : List Value} (hd : decode c.code pc = .ok (.newarray .int, 2)) {n : Int32}
    (hn : ¬ n < 0) {cap : Nat} (hcap : n.toNatClampNeg ≤ cap) (hb : cap * 8 ≤ 536870912) (hc : cells + 1 ≤ R.cells) (hl : slots + cap ≤ R.slots)
    (H : ∀ (T' : State) (h' : Heap) (a : Addr), a = h.size → Stand p l e R s m args below meth c T' locs (cells + 1) (slots + cap) → T'.heap = h' → Ext h h' → own_Ar Z h' a .int ((List.replicate n.toNatClampNeg (0 : Int32)).map Value.int) → Exa Z h' a "[I" → own_FinX p e below FF Q (T'.setTop (mkF m (pc + 2) Ls (.ref a :: rest)))) :
    own_FinX p e below FF Q (T.setTop (mkF m pc Ls (.int n :: rest))) :=
  own_newarr X hx hZ (aty := .int) w eT hd hn hcap hb hc hl rfl fun T' h' a g' X' e' E' F' D' => H T' h' a g' X' e' E' (by rw [List.map_replicate]; exact F') D'
theorem own_newZ (X : Stand p l e R s m args below meth c T locs cells slots) (hx : p.tables.exec = Jvm.exec) (hZ : Z.Warmed39 s.vm) (w : (Jvm.Cond.arrayClass .boolean).before a0 Z = true) (eT : T.heap = h) {pc : Nat} {Ls : Array Slot} {rest : List Value} (hd : decode c.code pc = .ok (.newarray .boolean, 2)) {n : Int32}
    (hn : ¬ n < 0) {cap : Nat} (hcap : n.toNatClampNeg ≤ cap) (hb : cap * 8 ≤ 536870912) (hc : cells + 1 ≤ R.cells) (hl : slots + cap ≤ R.slots)
    (H : ∀ (T' : State) (h' : Heap) (a : Addr), a = h.size → Stand p l e R s m args below meth c T' locs (cells + 1) (slots + cap) → T'.heap = h' → Ext h h' → own_Ar Z h' a .boolean ((List.replicate n.toNatClampNeg (0 : Int32)).map Value.int) → Exa Z h' a "[Z" → own_FinX p e below FF Q (T'.setTop (mkF m (pc + 2) Ls (.ref a :: rest)))) :
    own_FinX p e below FF Q (T.setTop (mkF m pc Ls (.int n :: rest))) :=
  own_newarr X hx hZ (aty := .boolean) w eT hd hn hcap hb hc hl rfl fun T' h' a g' X' e' E' F' D' => H T' h' a g' X' e' E' (by rw [List.map_replicate]; exact F') D'
theorem own_newJ (X : Stand p l e R s m args below meth c T locs cells slots) (hx : p.tables.exec = Jvm.exec) (hZ : Z.Warmed39 s.vm) (w : (Jvm.Cond.arrayClass .long).before a0 Z = true) (eT : T.heap = h) {pc : Nat} {Ls : Array Slot} {rest : List Value} (hd : decode c.code pc = .ok (.newarray .long, 2)) {n : Int32}
    (hn : ¬ n < 0) {cap : Nat} (hcap : n.toNatClampNeg ≤ cap) (hb : cap * 8 ≤ 536870912) (hc : cells + 1 ≤ R.cells) (hl : slots + cap ≤ R.slots)
    (H : ∀ (T' : State) (h' : Heap) (a : Addr), a = h.size → Stand p l e R s m args below meth c T' locs (cells + 1) (slots + cap) → T'.heap = h' → Ext h h' → own_Ar Z h' a .long ((List.replicate n.toNatClampNeg (0 : Int64)).map Value.long) → Exa Z h' a "[J" → own_FinX p e below FF Q (T'.setTop (mkF m (pc + 2) Ls (.ref a :: rest)))) :
    own_FinX p e below FF Q (T.setTop (mkF m pc Ls (.int n :: rest))) :=
  own_newarr X hx hZ (aty := .long) w eT hd hn hcap hb hc hl rfl fun T' h' a g' X' e' E' F' D' => H T' h' a g' X' e' E' (by rw [List.map_replicate]; exact F') D'
end OwnArr
section OwnArr2
variable {p : Program} {l : Launch} {e : Env} {R : Room} {s : State} {m : MethodId} {args : Array Value} {below : List Frame} {meth : Method} {c : Code} {T : State} {locs : List Loc} {cells slots : Nat} {Z : State} {a0 : Array Value} {h h' : Heap} {Q : Option Value → Heap → List Loc → Prop} {kc kn : Nat} {a b : Addr} {ty : FieldType} {vs : List Value} {v w : Value} {ws : List Addr} {sl : Nat} {FF : Outcome → State → List Loc → Prop}
theorem own_cloneI (X : Stand p l e R s m args below meth c T locs cells slots) (hx : p.tables.exec = Jvm.exec) (hZ : Z.Warmed39 s.vm) {own : String} {index : Nat} (hown : s.vm.findClass own = some m.cls)
    (w1 : (Jvm.Cond.methodLink own index ⟨"[I", "clone", "()Ljava/lang/Object;"⟩).before a0 Z = true) (w2 : (Jvm.Cond.sameMethod "[I" "java/lang/Object" "clone" "()Ljava/lang/Object;").before a0 Z = true) (w3 : (Jvm.Cond.native ⟨"java/lang/Object", "clone", "()Ljava/lang/Object;"⟩).before a0 Z = true)
    (w4 : (Jvm.Cond.instanceMethod ⟨"java/lang/Object", "clone", "()Ljava/lang/Object;"⟩).before a0 Z = true) (w5 : (Jvm.Cond.selects "[I" ⟨"[I", "clone", "()Ljava/lang/Object;"⟩ ⟨"java/lang/Object", "clone", "()Ljava/lang/Object;"⟩).before a0 Z = true) (w6 : (Jvm.Cond.castable "[I" "java/lang/Cloneable").before a0 Z = true)
    (eT : T.heap = h) {xs : List Int32} (F : own_Ar Z h a .int (xs.map Value.int)) (E : Exa Z h a "[I") {pc : Nat} {Ls : Array Slot} (hsize : Ls.size = c.maxLocals) {rest : List Value} (hd : decode c.code pc = .ok (.invokevirtual index, 3))
    (hf : 1 ≤ R.frames) {W cap : Nat} (hW : (rest.map fun v => v.category).sum ≤ W) (hl : W + 14 ≤ R.locals) (hcap : xs.length ≤ cap) (hc : cells + 1 ≤ R.cells) (hsl : slots + cap ≤ R.slots)
    (H : ∀ (T' : State) (h' : Heap) (b : Addr), b = h.size → Stand p l e R s m args below meth c T' locs (cells + 1) (slots + cap) → T'.heap = h' → Ext h h' → own_Ar Z h' b .int (xs.map Value.int) → Exa Z h' b "[I" → own_FinX p e below FF Q (T'.setTop (mkF m (pc + 3) Ls (.ref b :: rest)))) :
    own_FinX p e below FF Q (T.setTop (mkF m pc Ls (.ref a :: rest))) := by
  obtain ⟨cl, A, q1, q2⟩ := F
  have FC : FitC Z cl := fitC_of A fun i hi v hv => by
    rw [q1] at hv
    simp only [List.getElem?_toArray, List.getElem?_map, Option.map_eq_some_iff] at hv
    obtain ⟨x, -, rfl⟩ := hv; rfl
  obtain ⟨T', h', X', e', ex, A', E', st⟩ := cloneA X hx hZ hown w1 w2 w3 w4 w5 w6 eT A E FC (g := mkF m pc Ls (.ref a :: rest)) rfl hsize rfl hd hf (W := W) (by show 2 * 0 + _ ≤ _; omega) hl (cap := cap) (by rw [q1]; simpa using hcap) hc hsl
  exact own_go st (H _ _ _ rfl X' e' ex ⟨_, A', q1, q2⟩ E')
theorem own_Ar.arvI {xs : List Int32} (F : own_Ar Z h a .int (xs.map Value.int)) : ∃ k, Arv Z h a k .int (Int32.ofNat xs.length) (xs.map Value.int) (.int 0) := by
  obtain ⟨cl, A, q1, q2⟩ := F
  have q2' : xs.length < 2 ^ 31 := by simpa using q2
  have e1 : (Int32.ofNat xs.length).toNatClampNeg = xs.length := Int32.toNatClampNeg_ofNat_of_lt q2'
  refine ⟨cl.cls, cl, A, rfl, by rw [q1, e1]; simp, ?_, fun i hi => ?_, fun i hi => ?_⟩
  · rw [Int32.lt_iff_toInt_lt, Int32.toInt_ofNat_of_lt q2']; show ¬ (xs.length : Int) < 0; omega
  · rw [q1] at hi ⊢
    have hi' : i < xs.length := by simpa using hi
    simp [List.getD_eq_getElem?_getD, hi']
  · rw [q1] at hi
    have hi' : i < xs.length := by simpa using hi
    simp [List.getD_eq_getElem?_getD, hi', fits]
theorem own_of_arvI {xs : List Int32} {k : ClassId} {n : Int32} {d : Value} (F : Arv Z h a k .int n (xs.map Value.int) d) (hn : n.toNatClampNeg = xs.length) : own_Ar Z h a .int (xs.map Value.int) := by
  obtain ⟨cl, A, -, S, q3, H, -⟩ := F
  have hl : n.toNatClampNeg < 2 ^ 31 := (back32 q3).2
  refine ⟨cl, A, ?_, by simpa [← hn] using hl⟩
  apply Array.ext_getElem?
  intro i
  by_cases hi : i < cl.slots.size
  · rw [H i hi]
    have hi' : i < xs.length := by rw [← hn, ← S]; exact hi
    simp [List.getD_eq_getElem?_getD, hi']
  · rw [Array.getElem?_eq_none (by omega)]
    symm
    rw [List.getElem?_toArray, List.getElem?_eq_none]
    rw [List.length_map, ← hn, ← S]; omega
theorem own_copyI (X : Stand p l e R s m args below meth c T locs cells slots) (hx : p.tables.exec = Jvm.exec) (hZ : Z.Warmed39 s.vm) {own : String} {index : Nat} (hown : s.vm.findClass own = some m.cls)
    (w1 : (Jvm.Cond.methodLink own index Jvm.Stand.acN).before a0 Z = true) (w2 : (Jvm.Cond.native Jvm.Stand.acN).before a0 Z = true) (w3 : (Jvm.Cond.static Jvm.Stand.acN).before a0 Z = true) (w4 : (Jvm.Cond.initialized "java/lang/System").before a0 Z = true) (eT : T.heap = h)
    {xs ys : List Int32} (F : own_Ar Z h a .int (xs.map Value.int)) (G : own_Ar Z h b .int (ys.map Value.int)) {nn : Int32} {n0 : Nat} (h3 : ¬ nn < 0) (h4 : nn.toNatClampNeg ≤ xs.length) (h5 : nn.toNatClampNeg ≤ ys.length) (N : Fr n0 locs) (ge : n0 ≤ b)
    {pc : Nat} {Ls : Array Slot} (hsize : Ls.size = c.maxLocals) {rest : List Value} (hd : decode c.code pc = .ok (.invokestatic index, 3))
    (hf : 1 ≤ R.frames) {W : Nat} (hW : (rest.map fun v => v.category).sum ≤ W) (hlo : W + (nativeFrameWords "java/lang/System" "arraycopy" 5 + 11) ≤ R.locals)
    (H : ∀ (T' : State) (h' : Heap) (L : List Loc), Stand p l e R s m args below meth c T' L cells slots → T'.heap = h' → Fr n0 L → Keep h h' [b] → own_Ar Z h' b .int ((xs.take nn.toNatClampNeg ++ ys.drop nn.toNatClampNeg).map Value.int) → own_FinX p e below FF Q (T'.setTop (mkF m (pc + 3) Ls rest))) :
    own_FinX p e below FF Q (T.setTop (mkF m pc Ls (.int nn :: .int (0 : Int32) :: .ref b :: .int (0 : Int32) :: .ref a :: rest))) := by
  have lx : xs.length < 2 ^ 31 := by simpa using F.len
  have ly : ys.length < 2 ^ 31 := by simpa using G.len
  have ex : (Int32.ofNat xs.length).toNatClampNeg = xs.length := Int32.toNatClampNeg_ofNat_of_lt lx
  have ey : (Int32.ofNat ys.length).toNatClampNeg = ys.length := Int32.toNatClampNeg_ofNat_of_lt ly
  have e0 : (0 : Int32).toNatClampNeg = 0 := by decide
  obtain ⟨k1, A⟩ := F.arvI
  obtain ⟨k2, B⟩ := G.arvI
  obtain ⟨T', h', L, X', e', N', K', V', st⟩ := cpA X hx hZ hown w1 w2 w3 w4 eT A B (sp := 0) (dp := 0) (nn := nn) (us := (xs.take nn.toNatClampNeg).map Value.int) (Or.inl ⟨rfl, rfl⟩) (by decide) (by decide) h3 (by rw [e0, ex]; omega) (by rw [e0, ey]; omega) (by
      rw [e0]
      apply List.ext_getElem?
      intro i
      by_cases hi : i < nn.toNatClampNeg
      · have hi' : i < xs.length := by omega
        simp [List.getElem?_take, hi, List.getD_eq_getElem?_getD, hi']
      · simp [List.getElem?_take, hi]) (by rw [e0]; simpa using h5) N ge (g := mkF m pc Ls (.int nn :: .int (0 : Int32) :: .ref b :: .int (0 : Int32) :: .ref a :: rest)) rfl hsize rfl hd hf (W := W) (by show 2 * 0 + _ ≤ _; omega) hlo
  refine own_go st (H _ _ _ X' e' N' K' ?_)
  refine own_of_arvI (n := Int32.ofNat ys.length) (k := k2) (d := .int 0) ?_ ?_
  · rw [e0] at V'
    simpa [List.map_append, List.map_take, List.map_drop] using V'
  · rw [ey]; simp; omega
end OwnArr2
section OwnBC
variable {p : Program} {l : Launch} {e : Env} {R : Room} {s : State} {m : MethodId} {args : Array Value} {below : List Frame} {meth : Method} {c : Code} {T : State} {locs : List Loc} {cells slots : Nat} {Z : State} {a0 : Array Value} {h h' : Heap} {Q : Option Value → Heap → List Loc → Prop} {FF : Outcome → State → List Loc → Prop} {a b : Addr} {v w : Value}
theorem own_ldC (X : Stand p l e R s m args below meth c T locs cells slots) (hx : p.tables.exec = Jvm.exec) (hZ : Z.Warmed39 s.vm) (eT : T.heap = h) {xs : List Int32} (F : own_Ar Z h a .char (xs.map Value.int)) {j : Int32} (hj : ¬ j < 0) (hi : j.toNatClampNeg < xs.length) {pc : Nat} {Ls : Array Slot} {rest : List Value} (hd : decode c.code pc = .ok (.caload, 1))
    (H : own_FinX p e below FF Q (T.setTop (mkF m (pc + 1) Ls (Value.int (xs.getD j.toNatClampNeg 0) :: rest)))) : own_FinX p e below FF Q (T.setTop (mkF m pc Ls (.int j :: .ref a :: rest))) := by
  obtain ⟨c', A, q1, q2⟩ := F
  have hv : (xs.map Value.int)[j.toNatClampNeg]? = some (Value.int (xs.getD j.toNatClampNeg 0)) := by simp [List.getD_eq_getElem?_getD, hi]
  exact own_go (fun t k => X.caload hx (j := j) (by rw [eT]; exact A.1) (State.isArrayOf_alike hZ.alike A.2.1) A.2.2 (own_in q1 hj (own_lt hv)) (by rw [q1]; simpa using hv) (g := mkF m pc Ls (.int j :: .ref a :: rest)) rfl rfl hd t k) H
theorem own_ldB (X : Stand p l e R s m args below meth c T locs cells slots) (hx : p.tables.exec = Jvm.exec) (hZ : Z.Warmed39 s.vm) (eT : T.heap = h) {xs : List Int32} (F : own_Ar Z h a .byte (xs.map Value.int)) {j : Int32} (hj : ¬ j < 0) (hi : j.toNatClampNeg < xs.length) {pc : Nat} {Ls : Array Slot} {rest : List Value} (hd : decode c.code pc = .ok (.baload, 1))
    (H : own_FinX p e below FF Q (T.setTop (mkF m (pc + 1) Ls (Value.int (xs.getD j.toNatClampNeg 0) :: rest)))) : own_FinX p e below FF Q (T.setTop (mkF m pc Ls (.int j :: .ref a :: rest))) := by
  obtain ⟨c', A, q1, q2⟩ := F
  have hv : (xs.map Value.int)[j.toNatClampNeg]? = some (Value.int (xs.getD j.toNatClampNeg 0)) := by simp [List.getD_eq_getElem?_getD, hi]
  exact own_go (fun t k => X.baloadBytes hx (j := j) (by rw [eT]; exact A.1) (State.isArrayOf_alike hZ.alike A.2.1) A.2.2 (own_in q1 hj (own_lt hv)) (by rw [q1]; simpa using hv) (g := mkF m pc Ls (.int j :: .ref a :: rest)) rfl rfl hd t k) H
theorem own_stC (X : Stand p l e R s m args below meth c T locs cells slots) (hx : p.tables.exec = Jvm.exec) (hZ : Z.Warmed39 s.vm) (eT : T.heap = h) {xs : List Int32} (F : own_Ar Z h a .char (xs.map Value.int)) {j x : Int32} (hj : ¬ j < 0) (hi : j.toNatClampNeg < xs.length) {pc : Nat} {Ls : Array Slot} {rest : List Value} (hd : decode c.code pc = .ok (.castore, 1)) (hn : nar .char x = x)
    (H : ∀ (T' : State) (h' : Heap), Stand p l e R s m args below meth c T' (locs ++ [⟨a, j.toNatClampNeg⟩]) cells slots → T'.heap = h' → Wr h h' a j.toNatClampNeg (Value.int x) → own_Ar Z h' a .char ((xs.set j.toNatClampNeg x).map Value.int) → own_FinX p e below FF Q (T'.setTop (mkF m (pc + 1) Ls rest))) :
    own_FinX p e below FF Q (T.setTop (mkF m pc Ls (Value.int x :: .int j :: .ref a :: rest))) := by
  have F' := F
  obtain ⟨c', A, q1, q2⟩ := F
  obtain ⟨T', h', X', e', W', st⟩ := stC X hx hZ eT A (j := j) (x := x) (own_in q1 hj (by simpa using hi)) (g := mkF m pc Ls (.int x :: .int j :: .ref a :: rest)) rfl rfl hd
  rw [hn] at W'
  exact own_go st (H _ _ X' e' W' (by rw [List.map_set]; exact F'.set W'))
theorem own_stB (X : Stand p l e R s m args below meth c T locs cells slots) (hx : p.tables.exec = Jvm.exec) (hZ : Z.Warmed39 s.vm) (eT : T.heap = h) {xs : List Int32} (F : own_Ar Z h a .byte (xs.map Value.int)) {j x : Int32} (hj : ¬ j < 0) (hi : j.toNatClampNeg < xs.length) {pc : Nat} {Ls : Array Slot} {rest : List Value} (hd : decode c.code pc = .ok (.bastore, 1)) (hn : nar .byte x = x)
    (H : ∀ (T' : State) (h' : Heap), Stand p l e R s m args below meth c T' (locs ++ [⟨a, j.toNatClampNeg⟩]) cells slots → T'.heap = h' → Wr h h' a j.toNatClampNeg (Value.int x) → own_Ar Z h' a .byte ((xs.set j.toNatClampNeg x).map Value.int) → own_FinX p e below FF Q (T'.setTop (mkF m (pc + 1) Ls rest))) :
    own_FinX p e below FF Q (T.setTop (mkF m pc Ls (Value.int x :: .int j :: .ref a :: rest))) := by
  have F' := F
  obtain ⟨c', A, q1, q2⟩ := F
  obtain ⟨T', h', X', e', W', st⟩ := stB X hx hZ eT A (j := j) (x := x) (own_in q1 hj (by simpa using hi)) (g := mkF m pc Ls (.int x :: .int j :: .ref a :: rest)) rfl rfl hd
  rw [hn] at W'
  exact own_go st (H _ _ X' e' W' (by rw [List.map_set]; exact F'.set W'))
theorem own_newC (X : Stand p l e R s m args below meth c T locs cells slots) (hx : p.tables.exec = Jvm.exec) (hZ : Z.Warmed39 s.vm) (w : (Jvm.Cond.arrayClass .char).before a0 Z = true) (eT : T.heap = h) {pc : Nat} {Ls : Array Slot} {rest : List Value} (hd : decode c.code pc = .ok (.newarray .char, 2)) {n : Int32}
    (hn : ¬ n < 0) {cap : Nat} (hcap : n.toNatClampNeg ≤ cap) (hb : cap * 8 ≤ 536870912) (hc : cells + 1 ≤ R.cells) (hl : slots + cap ≤ R.slots)
    (H : ∀ (T' : State) (h' : Heap) (a : Addr), a = h.size → Stand p l e R s m args below meth c T' locs (cells + 1) (slots + cap) → T'.heap = h' → Ext h h' → own_Ar Z h' a .char ((List.replicate n.toNatClampNeg (0 : Int32)).map Value.int) → Exa Z h' a "[C" → own_FinX p e below FF Q (T'.setTop (mkF m (pc + 2) Ls (.ref a :: rest)))) :
    own_FinX p e below FF Q (T.setTop (mkF m pc Ls (.int n :: rest))) :=
  own_newarr X hx hZ (aty := .char) w eT hd hn hcap hb hc hl rfl fun T' h' a g' X' e' E' F' D' => H T' h' a g' X' e' E' (by rw [List.map_replicate]; exact F') D'
theorem own_newB (X : Stand p l e R s m args below meth c T locs cells slots) (hx : p.tables.exec = Jvm.exec) (hZ : Z.Warmed39 s.vm) (w : (Jvm.Cond.arrayClass .byte).before a0 Z = true) (eT : T.heap = h) {pc : Nat} {Ls : Array Slot} {rest : List Value} (hd : decode c.code pc = .ok (.newarray .byte, 2)) {n : Int32}
    (hn : ¬ n < 0) {cap : Nat} (hcap : n.toNatClampNeg ≤ cap) (hb : cap * 8 ≤ 536870912) (hc : cells + 1 ≤ R.cells) (hl : slots + cap ≤ R.slots)
    (H : ∀ (T' : State) (h' : Heap) (a : Addr), a = h.size → Stand p l e R s m args below meth c T' locs (cells + 1) (slots + cap) → T'.heap = h' → Ext h h' → own_Ar Z h' a .byte ((List.replicate n.toNatClampNeg (0 : Int32)).map Value.int) → Exa Z h' a "[B" → own_FinX p e below FF Q (T'.setTop (mkF m (pc + 2) Ls (.ref a :: rest)))) :
    own_FinX p e below FF Q (T.setTop (mkF m pc Ls (.int n :: rest))) :=
  own_newarr X hx hZ (aty := .byte) w eT hd hn hcap hb hc hl rfl fun T' h' a g' X' e' E' F' D' => H T' h' a g' X' e' E' (by rw [List.map_replicate]; exact F') D'
theorem own_instY (X : Stand p l e R s m args below meth c T locs cells slots) (hx : p.tables.exec = Jvm.exec) (hZ : Z.Warmed39 s.vm) {own K : String} {index : Nat} (hown : s.vm.findClass own = some m.cls) (w : (Jvm.Cond.classLink own index K).before a0 Z = true) (eT : T.heap = h) {a : Addr} (F : Ins Z h a K true)
    {pc : Nat} {Ls : Array Slot} {rest : List Value} (hd : decode c.code pc = .ok (.instanceof index, 3))
    (H : ∀ (T' : State), Stand p l e R s m args below meth c T' locs cells slots → T'.heap = h → own_FinX p e below FF Q (T'.setTop (mkF m (pc + 3) Ls (.int 1 :: rest)))) :
    own_FinX p e below FF Q (T.setTop (mkF m pc Ls (.ref a :: rest))) := by
  obtain ⟨T', X', e', st⟩ := instY X hx hZ hown w eT F (g := mkF m pc Ls (.ref a :: rest)) rfl rfl hd
  exact own_go st (H _ X' e')
theorem own_retB (X : Stand p l e R s m args below meth c T locs cells slots) (hx : p.tables.exec = Jvm.exec) (hlk : meth.locks = false) {kc kn pc : Nat} {Ls : Array Slot} {z : Int32} {rest : List Value} (hret : meth.sig.returnType = some .byte) (hn : narrow .byte (.int z) = .int z)
    (hd : decode c.code pc = .ok (.ireturn, 1)) (hk : cells ≤ kc) (hs : slots ≤ kn) (hq : Q (some (.int z)) T.heap locs) : own_Fin p e below s Q kc kn (T.setTop (mkF m pc Ls (.int z :: rest))) :=
  own_ret X hx hlk hret hn (Or.inl ⟨rfl, Or.inr (Or.inr (Or.inl rfl)), _, rfl⟩) hd hk hs hq
end OwnBC
section OwnW
variable {p : Program} {l : Launch} {e : Env} {R : Room} {s : State} {m : MethodId} {args : Array Value} {below : List Frame} {meth : Method} {c : Code} {T : State} {locs : List Loc} {cells slots : Nat} {Z : State} {a0 : Array Value} {h h' : Heap} {Q : Option Value → Heap → List Loc → Prop} {FF : Outcome → State → List Loc → Prop} {a b : Addr} {v w : Value} {EL : List (String × Nat)} {xs : List Addr} {vm0 : Vm}
/-- the end of a body that may have interned -/
def own_EW (s : State) (Z : State) (EL : List (String × Nat)) (kc kn : Nat) (o : Outcome) (t : State) (L : List Loc) : Prop := CHr Z EL s.vm s.heap t.vm t.heap ∧ ReturnedEndW s o t L kc kn
/-- the contract of a body that may intern: the literals of EL are as they should be, and xs are none of their cells -/
def own_MetW (l : Launch) (y : MethodName) (bytes : ByteArray) (maxL : Nat) (ret : Option FieldType) (rm : Room) (Z : State) (EL : List (String × Nat)) (xs : List Addr) (as' : Array Value) (h : Heap) (Q : Option Value → Heap → List Loc → Prop) : Prop :=
  MetFree l y (head1 [Jvm.Cond.code y bytes maxL ret] rm) (fun a U => a = as' ∧ Z.Warmed39 U.vm ∧ U.heap = h ∧ CHv Z EL U.vm h ∧ ∀ x ∈ xs, Safe Z EL U.vm h x) (fun _ _ _ _ _ => True) (fun _ U o U' => ∃ v L, o = .returned v ∧ Q v U'.heap L ∧ own_EW U Z EL rm.cells rm.slots o U' L)
theorem own_enterW {y : MethodName} {bytes : ByteArray} {maxL : Nat} {ret : Option FieldType} {rm : Room} {as' : Array Value} (hp : plainFor y = true)
    (H : ∀ (p : Program) (e : Env) (s : State) (m : MethodId) (below : List Frame) (meth : Method) (c : Code) (s₁ : State), p.tables.exec = Jvm.exec → c.code = bytes → c.maxLocals = maxL → s.vm.findClass y.cls = some m.cls → meth.name = y.name → meth.sig.returnType = ret → meth.locks = false → Z.Warmed39 s.vm → s₁.heap = h → s.heap = h → CHv Z EL s.vm h → (∀ x ∈ xs, Safe Z EL s.vm h x) → Stand p l e rm s m as' below meth c s₁ [] 0 0 → own_FinX p e below (own_EW s Z EL rm.cells rm.slots) Q (s₁.setTop (entryFrame m as' maxL))) :
    own_MetW l y bytes maxL ret rm Z EL xs as' h Q := by
  unfold own_MetW
  refine MetFree.of_bodySF hp hisR ?_
  intro p e s m args below meth c s₁ Bd hml0 hP hK
  obtain ⟨rfl, hZ, hh, hC, hS⟩ := hP
  exact H p e s m below meth c s₁ Bd.exec Bd.bytes hml0 (findClass_of_methodNamed Bd.named) (name_of_methodNamed Bd.named Bd.method).1 Bd.returns (BodyLoose.notSynchronized Bd) hZ (by rw [← hh, Bd.state]; rfl) hh hC hS (Stand.of_body Bd)
theorem own_since (s : State) (n : Nat) : s.Since s.vm n := (State.WarmedH.refl s).since n
theorem own_monoW {t : State} {o : Outcome} {L : List Loc} {k n k' n' : Nat} (H : ReturnedEndW s o t L k n) (h1 : k ≤ k') (h2 : n ≤ n') : ReturnedEndW s o t L k' n' := ⟨H.1, H.2.1, H.2.2.1, H.2.2.2.mono h1 h2⟩
theorem own_retX (X : Stand p l e R (s.setVm vm0) m args below meth c T locs cells slots) (hx : p.tables.exec = Jvm.exec) (hlk : meth.locks = false) {n : Nat} (hS : s.Since vm0 n) (hn0 : n ≤ T.heap.size) {pc : Nat} {Ls : Array Slot} {w : Value} {t : FieldType} {i : Instr} {rest : List Value} (hret : meth.sig.returnType = some t) (hn : narrow t w = w)
    (hi : (i = .ireturn ∧ (t = .int ∨ t = .boolean ∨ t = .byte ∨ t = .char ∨ t = .short) ∧ ∃ z, w = .int z) ∨ (i = .lreturn ∧ t = .long ∧ ∃ z, w = .long z) ∨ (i = .dreturn ∧ t = .double ∧ ∃ z, w = .double z) ∨ (i = .freturn ∧ t = .float ∧ ∃ z, w = .float z) ∨ (i = .areturn ∧ t.isReference = true ∧ w.isRef = true))
    (hd : decode c.code pc = .ok (i, 1)) (hq : Q (some w) T.heap locs) (hF : ∀ fs, ReturnedEndW s (.returned (some w)) (T.setFrames fs) locs cells slots → FF (.returned (some w)) (T.setFrames fs) locs) : own_FinX p e below FF Q (T.setTop (mkF m pc Ls (w :: rest))) := by
  obtain ⟨fs, hr, hrun, hended, hW⟩ := X.leaveW hS hn0 (v := some w) (fun h => by rw [hret] at h; cases h) hlk
  exact ⟨_, _, retOut X hx hret hn hi hd hr, hrun, hended, _, _, rfl, hq, hF _ hW⟩
theorem own_retXZ (X : Stand p l e R (s.setVm vm0) m args below meth c T locs cells slots) (hx : p.tables.exec = Jvm.exec) (hlk : meth.locks = false) {n : Nat} (hS : s.Since vm0 n) (hn0 : n ≤ T.heap.size) {pc : Nat} {Ls : Array Slot} {z : Int32} {rest : List Value} (hret : meth.sig.returnType = some .boolean) (hn : narrow .boolean (.int z) = .int z)
    (hd : decode c.code pc = .ok (.ireturn, 1)) (hq : Q (some (.int z)) T.heap locs) (hF : ∀ fs, ReturnedEndW s (.returned (some (.int z))) (T.setFrames fs) locs cells slots → FF (.returned (some (.int z))) (T.setFrames fs) locs) : own_FinX p e below FF Q (T.setTop (mkF m pc Ls (.int z :: rest))) :=
  own_retX X hx hlk hS hn0 hret hn (Or.inl ⟨rfl, Or.inr (Or.inl rfl), _, rfl⟩) hd hq hF
theorem own_retXA (X : Stand p l e R (s.setVm vm0) m args below meth c T locs cells slots) (hx : p.tables.exec = Jvm.exec) (hlk : meth.locks = false) {n : Nat} (hS : s.Since vm0 n) (hn0 : n ≤ T.heap.size) {pc : Nat} {Ls : Array Slot} {z : Addr} {t : FieldType} {rest : List Value} (hret : meth.sig.returnType = some t) (ht : t.isReference = true) (hn : narrow t (.ref z) = .ref z)
    (hd : decode c.code pc = .ok (.areturn, 1)) (hq : Q (some (.ref z)) T.heap locs) (hF : ∀ fs, ReturnedEndW s (.returned (some (.ref z))) (T.setFrames fs) locs cells slots → FF (.returned (some (.ref z))) (T.setFrames fs) locs) : own_FinX p e below FF Q (T.setTop (mkF m pc Ls (.ref z :: rest))) :=
  own_retX X hx hlk hS hn0 hret hn (Or.inr (Or.inr (Or.inr (Or.inr ⟨rfl, ht, rfl⟩)))) hd hq hF
theorem own_retXV (X : Stand p l e R (s.setVm vm0) m args below meth c T locs cells slots) (hx : p.tables.exec = Jvm.exec) (hlk : meth.locks = false) {n : Nat} (hS : s.Since vm0 n) (hn0 : n ≤ T.heap.size) {pc : Nat} {Ls : Array Slot} (hret : meth.sig.returnType = none)
    (hd : decode c.code pc = .ok (.return_, 1)) (hq : Q none T.heap locs) (hF : ∀ fs, ReturnedEndW s (.returned none) (T.setFrames fs) locs cells slots → FF (.returned none) (T.setFrames fs) locs) : own_FinX p e below FF Q (T.setTop (mkF m pc Ls [])) := by
  obtain ⟨fs, hr, hrun, hended, hW⟩ := X.leaveW hS hn0 (v := none) (fun _ => rfl) hlk
  exact ⟨_, _, X.returnOut hx hret hd hr, hrun, hended, _, _, rfl, hq, hF _ hW⟩
/-- a call's back road, for a callee that may intern -/
theorem own_backW {y : MethodName} {bytes : ByteArray} {maxL : Nat} {ret : Option FieldType} {rm : Room} {len W : Nat} {as' : Array Value} (hM : own_MetW l y bytes maxL ret rm Z EL xs as' h Q)
    (hZ : Z.Warmed39 vm0) (wc : (Jvm.Cond.code y bytes maxL ret).before a0 Z = true) (wz : (Jvm.Cond.initialized y.cls).before a0 Z = true) (hf : rm.frames + 1 ≤ R.frames) (hl : W + (maxL + 11) + rm.locals ≤ R.locals) (hEL : EW Z a0 EL) (H : CHv Z EL vm0 h) (HS : ∀ x ∈ xs, x < h.size ∧ Safe Z EL vm0 h x) :
    BackS l R p e below (s.setVm vm0) args y len W (fun A a => a = as' ∧ A.U.heap = h ∧ A.cells + rm.cells ≤ R.cells ∧ A.slots + rm.slots ≤ R.slots)
      (fun A _ v B => ∃ L, Q v B.U.heap L ∧ B.locs = A.locs ++ L ∧ B.cells = A.cells + rm.cells ∧ B.slots = A.slots + rm.slots ∧ CHr Z EL vm0 h B.U.vm B.U.heap) := by
  refine BackS.of_freeW (bytes := bytes) (maxL := maxL) (ret := ret) (E := fun _ first o t L k n => k = rm.cells ∧ n = rm.slots ∧ (∃ v, o = .returned v ∧ Q v t.heap L) ∧ CHr Z EL first.vm first.heap t.vm t.heap) hM hf hl ?_ ?_ ?_ ?_ ?_
  · intro m meth c A a Y hp
    have hU : Z.Warmed39 A.U.vm := wtrans (s := s.setVm vm0) hZ Y.warmed
    refine ⟨?_, mv hU wc, mv hU wz, hp.2.2.1, hp.2.2.2⟩
    show (Cond.and _ .tt).before a A.U = true
    rw [Cond.before_and, mv hU wc]; rfl
  · intro m meth c A a g mk Y hp
    have C := CHv.at Y hZ hEL H
    exact ⟨hp.1, wtrans (s := s.setVm vm0) hZ Y.warmed, hp.2.1, C.1, fun x hx => C.safe (HS x hx).1 (HS x hx).2⟩
  · exact fun _ _ _ _ _ _ _ _ _ => trivial
  · rintro _ _ _ _ ⟨v, L, h1, h2, h3, h4⟩
    exact ⟨L, _, _, h4, rfl, rfl, ⟨v, h1, h2⟩, h3⟩
  · rintro m meth c A a g mk v t L k n Y hp _ _ ⟨e1, e2, ⟨v', e3, e4⟩, e5⟩
    cases e3; subst e1 e2
    refine ⟨L, e4, rfl, rfl, rfl, (CHv.at Y hZ hEL H).trans ?_⟩
    rw [← hp.2.1]; exact e5
theorem own_callSW (X : Stand p l e R (s.setVm vm0) m args below meth c T locs cells slots) (hx : p.tables.exec = Jvm.exec) (hZ : Z.Warmed39 vm0) {own : String} {index : Nat} {y : MethodName} {bytes : ByteArray} {maxL : Nat} {ret : Option FieldType} {rm : Room} {as' : Array Value} {Q' : Option Value → Heap → List Loc → Prop}
    (hown : vm0.findClass own = some m.cls) (w1 : (Jvm.Cond.methodLink own index y).before a0 Z = true) (w2 : (Jvm.Cond.static y).before a0 Z = true) (w3 : (Jvm.Cond.initialized y.cls).before a0 Z = true) (w4 : (Jvm.Cond.code y bytes maxL ret).before a0 Z = true) (hy : y.cls ≠ "java/lang/invoke/MethodHandle" ∧ y.cls ≠ "java/lang/invoke/VarHandle")
    (hM : own_MetW l y bytes maxL ret rm Z EL xs as' h Q') (hEL : EW Z a0 EL) (HC : CHv Z EL vm0 h) (HS : ∀ x ∈ xs, x < h.size ∧ Safe Z EL vm0 h x) {k0 : Nat} (hS : s.Since vm0 k0) (hk : k0 ≤ h.size) (eT : T.heap = h) {pc : Nat} {Ls : Array Slot} {st argsL rest : List Value} (hst : st = argsL.reverse ++ rest) (has : argsL.toArray = as') (hsize : Ls.size = c.maxLocals) (hlen : ∀ sig, parseMethodDescriptor y.desc = some sig → argsL.length = sig.parameters.length)
    (hd : decode c.code pc = .ok (.invokestatic index, 3)) {W : Nat} (hW : (rest.map fun v => v.category).sum ≤ W) (hf : rm.frames + 1 ≤ R.frames) (hl : W + (maxL + 11) + rm.locals ≤ R.locals) (hc : cells + rm.cells ≤ R.cells) (hs : slots + rm.slots ≤ R.slots)
    (H : ∀ (v : Option Value) (T' : State) (L : List Loc), Stand p l e R (s.setVm T'.vm) m args below meth c T' (locs ++ L) (cells + rm.cells) (slots + rm.slots) → Q' v T'.heap L → CHr Z EL vm0 h T'.vm T'.heap → s.Since T'.vm T'.heap.size → Z.Warmed39 (s.setVm T'.vm).vm → (s.setVm T'.vm).vm.findClass own = some m.cls → own_FinX p e below FF Q (T'.setTop (mkF m (pc + 3) Ls (v.toList ++ rest)))) :
    own_FinX p e below FF Q (T.setTop (mkF m pc Ls st)) := by
  subst hst
  obtain ⟨v, _, ⟨T', L', k', n'⟩, -, X', hS', hg', ⟨Lc, hQ, l1, y1, z1, hC'⟩, st⟩ := callSS X hx (y := y) hown (mvT (s := s.setVm vm0) hZ w1) (mvT (s := s.setVm vm0) hZ w2) (mvT (s := s.setVm vm0) hZ w3) (mvT (s := s.setVm vm0) hZ w4) hy (own_backW (W := W) hM hZ w4 w3 hf hl hEL HC HS) (g := mkF m pc Ls (argsL.reverse ++ rest)) rfl hsize hlen rfl (by show 2 * 0 + _ ≤ _; omega) hd (fun _ _ => ⟨has, eT, hc, hs⟩)
  dsimp only [Pt.U, Pt.locs, Pt.cells, Pt.slots] at X' l1 y1 z1 st hQ hS' hg' hC'
  subst l1 y1 z1
  exact own_go (fun _ k => st.trans k) (H _ _ _ X' hQ hC' (hS.trans hS' (Nat.le_trans (eT ▸ hk) hg')) (State.Warmed39.trans (t := s.setVm vm0) hZ hS'.1) (by rw [show (s.setVm T'.vm).vm = T'.vm from rfl, hS'.1.alike.findClass]; exact hown))
theorem own_callNW (X : Stand p l e R (s.setVm vm0) m args below meth c T locs cells slots) (hx : p.tables.exec = Jvm.exec) (hZ : Z.Warmed39 vm0) {own : String} {index : Nat} {y : MethodName} {bytes : ByteArray} {maxL : Nat} {rm : Room} {as' : Array Value} {Q' : Option Value → Heap → List Loc → Prop} (hy1 : y.name = "<init>")
    (hown : vm0.findClass own = some m.cls) (w1 : (Jvm.Cond.methodLink own index y).before a0 Z = true) (w2 : (Jvm.Cond.instanceMethod y).before a0 Z = true) (w3 : (Jvm.Cond.initialized y.cls).before a0 Z = true) (w4 : (Jvm.Cond.code y bytes maxL none).before a0 Z = true) (hy : y.cls ≠ "java/lang/invoke/MethodHandle" ∧ y.cls ≠ "java/lang/invoke/VarHandle")
    (hM : own_MetW l y bytes maxL none rm Z EL xs as' h Q') (hEL : EW Z a0 EL) (HC : CHv Z EL vm0 h) (HS : ∀ x ∈ xs, x < h.size ∧ Safe Z EL vm0 h x) {k0 : Nat} (hS : s.Since vm0 k0) (hk : k0 ≤ h.size) (eT : T.heap = h) {a : Addr} {pc : Nat} {Ls : Array Slot} {st argsL rest : List Value} (hst : st = argsL.reverse ++ .ref a :: rest) (has : (.ref a :: argsL).toArray = as') (hsize : Ls.size = c.maxLocals) (hlen : ∀ sig, parseMethodDescriptor y.desc = some sig → argsL.length = sig.parameters.length)
    (hd : decode c.code pc = .ok (.invokespecial index, 3)) {W : Nat} (hW : (rest.map fun v => v.category).sum ≤ W) (hf : rm.frames + 1 ≤ R.frames) (hl : W + (maxL + 11) + rm.locals ≤ R.locals) (hc : cells + rm.cells ≤ R.cells) (hs : slots + rm.slots ≤ R.slots)
    (H : ∀ (v : Option Value) (T' : State) (L : List Loc), Stand p l e R (s.setVm T'.vm) m args below meth c T' (locs ++ L) (cells + rm.cells) (slots + rm.slots) → Q' v T'.heap L → CHr Z EL vm0 h T'.vm T'.heap → s.Since T'.vm T'.heap.size → Z.Warmed39 (s.setVm T'.vm).vm → (s.setVm T'.vm).vm.findClass own = some m.cls → own_FinX p e below FF Q (T'.setTop (mkF m (pc + 3) Ls (v.toList ++ rest)))) :
    own_FinX p e below FF Q (T.setTop (mkF m pc Ls st)) := by
  subst hst
  obtain ⟨v, _, ⟨T', L', k', n'⟩, -, X', hS', hg', ⟨Lc, hQ, l1, y1, z1, hC'⟩, st⟩ := X.specialBackS hx (y := y) hy1 hown (mvT (s := s.setVm vm0) hZ w1) (mvT (s := s.setVm vm0) hZ w2) (mvT (s := s.setVm vm0) hZ w4) hy (own_backW (W := W) hM hZ w4 w3 hf hl hEL HC HS) (g := mkF m pc Ls (argsL.reverse ++ .ref a :: rest)) rfl hsize (Steps.refl _) (a := a) hlen rfl (by show 2 * 0 + _ ≤ _; omega) hd (fun _ _ => ⟨has, eT, hc, hs⟩)
  dsimp only [Pt.U, Pt.locs, Pt.cells, Pt.slots] at X' l1 y1 z1 st hQ hS' hg' hC'
  subst l1 y1 z1
  exact own_go (fun _ k => st.trans k) (H _ _ _ X' hQ hC' (hS.trans hS' (Nat.le_trans (eT ▸ hk) hg')) (State.Warmed39.trans (t := s.setVm vm0) hZ hS'.1) (by rw [show (s.setVm T'.vm).vm = T'.vm from rfl, hS'.1.alike.findClass]; exact hown))
/-- ldc of the empty text, read -/
theorem own_ldc0 (X : Stand p l e R (s.setVm vm0) m args below meth c T locs cells slots) (hx : p.tables.exec = Jvm.exec) (hZ : Z.Warmed39 vm0) {own : String} {index : Nat} (hown : vm0.findClass own = some m.cls) (w : (Jvm.Cond.stringLink own index "").before a0 Z = true) (wS : ∀ a ∈ Bundle.stringAtoms, a.before a0 Z = true)
    (eT : T.heap = h) {k0 : Nat} (hS : s.Since vm0 k0) (hk : k0 ≤ h.size) (hEL : EW Z a0 EL) (hmem : (own, index) ∈ EL) (HC : CHv Z EL vm0 h) {pc : Nat} {Ls : Array Slot} {rest : List Value} (hd : decode c.code pc = .ok (.ldc index, 2)) (hc : cells + 2 ≤ R.cells) (hl : slots + 4 ≤ R.slots)
    (H : ∀ (T' : State) (h' : Heap) (k1 : Nat) (a b : Addr), Stand p l e R (s.setVm T'.vm) m args below meth c T' locs (cells + 2) (slots + 4) → T'.heap = h' → Ext h h' → s.Since T'.vm k1 → k1 ≤ h'.size → Z.Warmed39 (s.setVm T'.vm).vm → (s.setVm T'.vm).vm.findClass own = some m.cls →
      Fld Z h' a "java/lang/String" "coder" "B" (.int (0 : Int32)) → Fld Z h' a "java/lang/String" "value" "[B" (.ref b) → own_Ar Z h' b .byte (List.map Value.int []) → CHr Z EL vm0 h T'.vm h' → (∀ x, Safe Z EL T'.vm h' x → x ≠ a ∧ x ≠ b) → own_FinX p e below FF Q (T'.setTop (mkF m (pc + 2) Ls (.ref a :: rest)))) :
    own_FinX p e below FF Q (T.setTop (mkF m pc Ls rest)) := by
  obtain ⟨a, T', h', k1, b, kb, X', e', E, hS', hk', hZ', hown', -, Fc, Fv, A, -, -, hC, -, hne, st⟩ := ldcCH X hx hZ hown w wS eT hS hk hEL hmem HC (vs := []) (z := 0) ⟨by simp, rfl⟩ (by decide) (by decide) (g := mkF m pc Ls rest) rfl hd (n := 0) (by decide) (by decide) hc (by simpa using hl)
  refine own_go st (H T' h' k1 a b (by simpa using X') e' E hS' hk' hZ' hown' Fc Fv ?_ hC hne)
  obtain ⟨cl, A1, -, S, -, -, -⟩ := A
  refine ⟨cl, A1, ?_, by simp⟩
  have : cl.slots.size = 0 := by rw [S]; decide
  exact Array.eq_empty_of_size_eq_zero this
/-- ldc of a text, not read -/
theorem own_ldcO (X : Stand p l e R (s.setVm vm0) m args below meth c T locs cells slots) (hx : p.tables.exec = Jvm.exec) (hZ : Z.Warmed39 vm0) {own : String} {index : Nat} (hown : vm0.findClass own = some m.cls) (w : (Jvm.Cond.stringLink own index "").before a0 Z = true) (wS : ∀ a ∈ Bundle.stringAtoms, a.before a0 Z = true)
    (eT : T.heap = h) {k0 : Nat} (hS : s.Since vm0 k0) (hk : k0 ≤ h.size) {pc : Nat} {Ls : Array Slot} {rest : List Value} (hd : decode c.code pc = .ok (.ldc index, 2)) (hc : cells + 2 ≤ R.cells) (hl : slots + 4 ≤ R.slots)
    (H : ∀ (T' : State) (h' : Heap) (k1 : Nat) (a : Addr), Stand p l e R (s.setVm T'.vm) m args below meth c T' locs (cells + 2) (slots + 4) → T'.heap = h' → Ext h h' → s.Since T'.vm k1 → k1 ≤ h'.size → Z.Warmed39 (s.setVm T'.vm).vm → (s.setVm T'.vm).vm.findClass own = some m.cls → own_FinX p e below FF Q (T'.setTop (mkF m (pc + 2) Ls (.ref a :: rest)))) :
    own_FinX p e below FF Q (T.setTop (mkF m pc Ls rest)) := by
  obtain ⟨a, T', h', k1, X', e', E, hS', hk', hZ', hown', st⟩ := ldcS X hx hZ hown w wS eT hS hk (g := mkF m pc Ls rest) rfl hd (n := 0) (by decide) (by decide) hc (by simpa using hl)
  exact own_go st (H T' h' k1 a (by simpa using X') e' E hS' hk' hZ' hown')
end OwnW
section OwnL
variable {p : Program} {l : Launch} {e : Env} {R : Room} {s : State} {m : MethodId} {args : Array Value} {below : List Frame} {meth : Method} {c : Code} {Z : State} {a0 : Array Value} {h : Heap} {Q : Option Value → Heap → List Loc → Prop} {EL : List (String × Nat)} {xs : List Addr}
def own_ELw (s : State) (kc kn : Nat) (o : Outcome) (t : State) (L : List Loc) : Prop := ReturnedEndW s o t L kc kn
/-- the law's own contract -/
def own_MetL (l : Launch) (y : MethodName) (bytes : ByteArray) (maxL : Nat) (ret : Option FieldType) (rm : Room) (Z : State) (EL : List (String × Nat)) (xs : List Addr) (ws : List Jvm.Cond) (as' : Array Value) (h : Heap) (Q : Option Value → Heap → List Loc → Prop) : Prop :=
  MetFree l y (head1 (Jvm.Cond.code y bytes maxL ret :: ws) rm) (fun a U => a = as' ∧ Z.Warmed39 U.vm ∧ U.heap = h ∧ CHv Z EL U.vm h ∧ ∀ x ∈ xs, Safe Z EL U.vm h x) (fun _ _ _ _ _ => True) (fun _ U o U' => ∃ v L, o = .returned v ∧ Q v U'.heap L ∧ own_ELw U rm.cells rm.slots o U' L)
theorem own_enterL {y : MethodName} {bytes : ByteArray} {maxL : Nat} {ret : Option FieldType} {rm : Room} {ws : List Jvm.Cond} {as' : Array Value} (hp : plainFor y = true)
    (H : ∀ (p : Program) (e : Env) (s : State) (m : MethodId) (below : List Frame) (meth : Method) (c : Code) (s₁ : State), p.tables.exec = Jvm.exec → c.code = bytes → c.maxLocals = maxL → s.vm.findClass y.cls = some m.cls → meth.name = y.name → meth.sig.returnType = ret → meth.locks = false → Z.Warmed39 s.vm → s₁.heap = h → s.heap = h → CHv Z EL s.vm h → (∀ x ∈ xs, Safe Z EL s.vm h x) → Stand p l e rm s m as' below meth c s₁ [] 0 0 → own_FinX p e below (own_ELw s rm.cells rm.slots) Q (s₁.setTop (entryFrame m as' maxL))) :
    own_MetL l y bytes maxL ret rm Z EL xs ws as' h Q := by
  unfold own_MetL
  refine MetFree.of_bodySF hp hisR ?_
  intro p e s m args below meth c s₁ Bd hml0 hP hK
  obtain ⟨rfl, hZ, hh, hC, hS⟩ := hP
  exact H p e s m below meth c s₁ Bd.exec Bd.bytes hml0 (findClass_of_methodNamed Bd.named) (name_of_methodNamed Bd.named Bd.method).1 Bd.returns (BodyLoose.notSynchronized Bd) hZ (by rw [← hh, Bd.state]; rfl) hh hC hS (Stand.of_body Bd)
theorem own_one {P : Addr → Prop} {a : Addr} (h : P a) : ∀ x ∈ [a], P x := fun x hx => by rw [List.mem_singleton.mp hx]; exact h
theorem own_none {P : Addr → Prop} : ∀ x ∈ ([] : List Addr), P x := fun _ q => absurd q List.not_mem_nil
end OwnL

def own_EL0 : List (String × Nat) := [("java/lang/String", 7)]
def own_ch (x : Int32) : Prop := ¬ x < 0 ∧ ¬ (255 : Int32) < x
theorem own_ch256 {x : Int32} (h : own_ch x) : x = Int32.ofNat x.toNatClampNeg ∧ x.toNatClampNeg < 256 := by
  refine ⟨(back32 h.1).1.symm, ?_⟩
  have h1 := h.1
  have h2 := h.2
  have e : (255 : Int32).toInt = 255 := by decide
  have e0 : (0 : Int32).toInt = 0 := by decide
  rw [Int32.lt_iff_toInt_lt, e] at h2
  rw [Int32.lt_iff_toInt_lt, e0] at h1
  simp only [Int32.toNatClampNeg]; omega
theorem own_narC0 : ∀ k, k < 256 → nar .char (Int32.ofNat k) = Int32.ofNat k := by decide +kernel
theorem own_narC {x : Int32} (h : own_ch x) : nar .char x = x := by rw [(own_ch256 h).1]; exact own_narC0 _ (own_ch256 h).2
theorem own_narB0 : ∀ k, k < 256 → nar .byte (Int8.toInt32 (Int32.toInt8 (Int32.ofNat k))) = (Int8.toInt32 (Int32.toInt8 (Int32.ofNat k))) := by decide +kernel
theorem own_narB {x : Int32} (h : own_ch x) : nar .byte (Int8.toInt32 (Int32.toInt8 x)) = (Int8.toInt32 (Int32.toInt8 x)) := by rw [(own_ch256 h).1]; exact own_narB0 _ (own_ch256 h).2

def own_Q10 (Z : State) (ba : Addr) (bs : List Int32) (n : Int32) (h0 : Heap) (n0 : Nat) (v : Option Value) (h : Heap) (L : List Loc) : Prop := v = some (.int n) ∧ Fr n0 L ∧ Keep h0 h [ba] ∧ own_Ar Z h ba .byte (List.map Value.int bs)
def own_Q9 (Z : State) (bs : List Int32) (h0 : Heap) (n0 : Nat) (v : Option Value) (h : Heap) (L : List Loc) : Prop := ∃ b : Addr, v = some (.ref b) ∧ Fr n0 L ∧ Keep h0 h [] ∧ h0.size ≤ b ∧ own_Ar Z h b .byte (List.map Value.int bs)
def own_Q3 (Z : State) (t0 : Addr) (bs : List Int32) (h0 : Heap) (n0 : Nat) (v : Option Value) (h : Heap) (L : List Loc) : Prop := v = none ∧ Fr n0 L ∧ Keep h0 h [t0] ∧ Fld Z h t0 "java/lang/String" "coder" "B" (.int (0 : Int32)) ∧ ∃ b : Addr, Fld Z h t0 "java/lang/String" "value" "[B" (.ref b) ∧ own_Ar Z h b .byte (List.map Value.int bs)

theorem d10n1_0 : decode jdk_52_method_21_code 0 = .ok (.iconst 0, 1) := by decide +kernel
theorem d10n1_1 : decode jdk_52_method_21_code 1 = .ok (.istore 5, 2) := by decide +kernel
theorem d10n1_3 : decode jdk_52_method_21_code 3 = .ok (.iload 5, 2) := by decide +kernel
theorem d10n1_5 : decode jdk_52_method_21_code 5 = .ok (.iload 4, 2) := by decide +kernel
theorem d10n1_7 : decode jdk_52_method_21_code 7 = .ok (.if_icmp .ge 37, 3) := by decide +kernel
theorem d10n1_10 : decode jdk_52_method_21_code 10 = .ok (.aload_n 0, 1) := by decide +kernel
theorem d10n1_11 : decode jdk_52_method_21_code 11 = .ok (.iload_n 1, 1) := by decide +kernel
theorem d10n1_12 : decode jdk_52_method_21_code 12 = .ok (.caload, 1) := by decide +kernel
theorem d10n1_13 : decode jdk_52_method_21_code 13 = .ok (.istore 6, 2) := by decide +kernel
theorem d10n1_15 : decode jdk_52_method_21_code 15 = .ok (.iload 6, 2) := by decide +kernel
theorem d10n1_17 : decode jdk_52_method_21_code 17 = .ok (.sipush 255, 3) := by decide +kernel
theorem d10n1_20 : decode jdk_52_method_21_code 20 = .ok (.if_icmp .le 6, 3) := by decide +kernel
theorem d10n1_26 : decode jdk_52_method_21_code 26 = .ok (.aload_n 2, 1) := by decide +kernel
theorem d10n1_27 : decode jdk_52_method_21_code 27 = .ok (.iload_n 3, 1) := by decide +kernel
theorem d10n1_28 : decode jdk_52_method_21_code 28 = .ok (.iload 6, 2) := by decide +kernel
theorem d10n1_30 : decode jdk_52_method_21_code 30 = .ok (.i2b, 1) := by decide +kernel
theorem d10n1_31 : decode jdk_52_method_21_code 31 = .ok (.bastore, 1) := by decide +kernel
theorem d10n1_32 : decode jdk_52_method_21_code 32 = .ok (.iinc 1 1, 3) := by decide +kernel
theorem d10n1_35 : decode jdk_52_method_21_code 35 = .ok (.iinc 3 1, 3) := by decide +kernel
theorem d10n1_38 : decode jdk_52_method_21_code 38 = .ok (.iinc 5 1, 3) := by decide +kernel
theorem d10n1_41 : decode jdk_52_method_21_code 41 = .ok (.goto (-38), 3) := by decide +kernel
theorem d10n1_44 : decode jdk_52_method_21_code 44 = .ok (.iload 4, 2) := by decide +kernel
theorem d10n1_46 : decode jdk_52_method_21_code 46 = .ok (.ireturn, 1) := by decide +kernel
theorem pn_10n1 : plainFor (⟨"java/lang/StringUTF16", "compress", "([CI[BII)I"⟩ : MethodName) = true := plainFor_of_name (by show plainName "java/lang/StringUTF16" = true; first | (simp [plainName, overriddenIn]; done) | decide +kernel)
theorem ef_10n1 (m : MethodId) (x0 : Addr) (x1 : Int32) (x2 : Addr) (x3 : Int32) (x4 : Int32) : entryFrame m #[(.ref x0), (.int x1), (.ref x2), (.int x3), (.int x4)] 7 = mkF m 0 #[.val (.ref x0), .val (.int x1), .val (.ref x2), .val (.int x3), .val (.int x4), .unset, .unset] [] := by first | (simp [entryFrame, mkF, argsToLocals, Value.category]; done) | rfl
set_option maxRecDepth 65536 in
set_option maxHeartbeats 40000000 in
theorem rm10n1 (l : Launch) (Z : State) (a0 : Array Value) (hw : ∀ d ∈ tables_1, d.before a0 Z = true) (ca : Addr) (ba : Addr) (h0 : Heap) (n0 : Nat) (Z0 : n0 ≤ h0.size) (c0 : Int32) (h_c0 : own_ch c0) (VC : own_Ar Z h0 ca .char (List.map Value.int [c0])) (VB : own_Ar Z h0 ba .byte (List.map Value.int [(0 : Int32)])) (ncb : ca ≠ ba) (g_ba : n0 ≤ ba) :
    own_Met l (⟨"java/lang/StringUTF16", "compress", "([CI[BII)I"⟩ : MethodName) jdk_52_method_21_code 7 (some .int) ({ frames := 0, cells := 0, slots := 0, locals := 0 } : Room) Z [] #[(.ref ca), (.int (0 : Int32)), (.ref ba), (.int (0 : Int32)), (.int (1 : Int32))] h0 (own_Q10 Z ba [(Int8.toInt32 (Int32.toInt8 c0))] (1 : Int32) h0 n0) := by
  refine own_enter pn_10n1 ?_
  intro p e s m below meth c s₁ hx hby hml hown hnm hret hlk hZ e0 X0
  rw [ef_10n1]
  have N0 := Fr.nil n0
  show own_Fin _ _ _ _ _ _ _ (s₁.setTop (mkF m 0 #[.val (.ref ca), .val (.int (0 : Int32)), .val (.ref ba), .val (.int (0 : Int32)), .val (.int (1 : Int32)), .unset, .unset] []))
  refine own_go (fun _ kk => XS.iconst X0.here hx rfl (hb hby d10n1_0) (XS.istore X0.here hx rfl (hb hby d10n1_1) rfl (l' := #[.val (.ref ca), .val (.int (0 : Int32)), .val (.ref ba), .val (.int (0 : Int32)), .val (.int (1 : Int32)), .val (.int (0 : Int32)), .unset]) rfl (XS.iload X0.here hx rfl (hb hby d10n1_3) rfl (XS.iload X0.here hx rfl (hb hby d10n1_5) rfl (XS.icmpNo X0.here hx rfl (hb hby d10n1_7) rfl (XT.ii_ge_f (by decide)) (XS.aloadN X0.here hx rfl (hb hby d10n1_10) rfl rfl (XS.iloadN X0.here hx rfl (hb hby d10n1_11) rfl kk))))))) ?_
  show own_Fin _ _ _ _ _ _ _ (s₁.setTop (mkF m 12 #[.val (.ref ca), .val (.int (0 : Int32)), .val (.ref ba), .val (.int (0 : Int32)), .val (.int (1 : Int32)), .val (.int (0 : Int32)), .unset] [(.int (0 : Int32)), (.ref ca)]))
  refine own_ldC X0 hx hZ e0 VC (by decide) (by show (0 : Int32).toNatClampNeg < 1; decide) (hb hby d10n1_12) ?_
  show own_Fin _ _ _ _ _ _ _ (s₁.setTop (mkF m 13 #[.val (.ref ca), .val (.int (0 : Int32)), .val (.ref ba), .val (.int (0 : Int32)), .val (.int (1 : Int32)), .val (.int (0 : Int32)), .unset] [(.int c0)]))
  refine own_go (fun _ kk => XS.istore X0.here hx rfl (hb hby d10n1_13) rfl (l' := #[.val (.ref ca), .val (.int (0 : Int32)), .val (.ref ba), .val (.int (0 : Int32)), .val (.int (1 : Int32)), .val (.int (0 : Int32)), .val (.int c0)]) rfl (XS.iload X0.here hx rfl (hb hby d10n1_15) rfl (XS.sipush X0.here hx rfl (hb hby d10n1_17) (XS.icmpYes X0.here hx rfl (pc0 := 20) (pc' := 26) rfl (hb hby d10n1_20) rfl (XT.ii_le_t h_c0.2) (by decide) (by decide) (XS.aloadN X0.here hx rfl (hb hby d10n1_26) rfl rfl (XS.iloadN X0.here hx rfl (hb hby d10n1_27) rfl (XS.iload X0.here hx rfl (hb hby d10n1_28) rfl (XS.i2b X0.here hx rfl (hb hby d10n1_30) rfl kk)))))))) ?_
  show own_Fin _ _ _ _ _ _ _ (s₁.setTop (mkF m 31 #[.val (.ref ca), .val (.int (0 : Int32)), .val (.ref ba), .val (.int (0 : Int32)), .val (.int (1 : Int32)), .val (.int (0 : Int32)), .val (.int c0)] [(.int (Int8.toInt32 (Int32.toInt8 c0))), (.int (0 : Int32)), (.ref ba)]))
  refine own_stB X0 hx hZ e0 VB (by decide) (by show (0 : Int32).toNatClampNeg < 1; decide) (hb hby d10n1_31) (own_narB h_c0) ?_
  intro T1 h1 X1 e1 W1 A1
  have f2 := VC.other W1 ncb
  have Z1 := Nat.le_trans Z0 (Keep.of_wr W1).1
  have K1 := (Keep.refl h0 [ba]).wr W1 (Or.inl (List.mem_of_getElem? (i := 0) rfl))
  have A1 : own_Ar Z h1 ba .byte (List.map Value.int [(Int8.toInt32 (Int32.toInt8 c0))]) := A1
  have N1 := Fr.snoc X1 N0 g_ba
  show own_Fin _ _ _ _ _ _ _ (T1.setTop (mkF m 32 #[.val (.ref ca), .val (.int (0 : Int32)), .val (.ref ba), .val (.int (0 : Int32)), .val (.int (1 : Int32)), .val (.int (0 : Int32)), .val (.int c0)] []))
  refine own_go (fun _ kk => XS.iinc X1.here hx rfl (hb hby d10n1_32) rfl (l' := #[.val (.ref ca), .val (.int (1 : Int32)), .val (.ref ba), .val (.int (0 : Int32)), .val (.int (1 : Int32)), .val (.int (0 : Int32)), .val (.int c0)]) rfl (XS.iinc X1.here hx rfl (hb hby d10n1_35) rfl (l' := #[.val (.ref ca), .val (.int (1 : Int32)), .val (.ref ba), .val (.int (1 : Int32)), .val (.int (1 : Int32)), .val (.int (0 : Int32)), .val (.int c0)]) rfl (XS.iinc X1.here hx rfl (hb hby d10n1_38) rfl (l' := #[.val (.ref ca), .val (.int (1 : Int32)), .val (.ref ba), .val (.int (1 : Int32)), .val (.int (1 : Int32)), .val (.int (1 : Int32)), .val (.int c0)]) rfl (XS.goto X1.here hx rfl (pc0 := 41) (pc' := 3) rfl (hb hby d10n1_41) (by decide) (by decide) (XS.iload X1.here hx rfl (hb hby d10n1_3) rfl (XS.iload X1.here hx rfl (hb hby d10n1_5) rfl (XS.icmpYes X1.here hx rfl (pc0 := 7) (pc' := 44) rfl (hb hby d10n1_7) rfl (XT.ii_ge_t (by decide)) (by decide) (by decide) (XS.iload X1.here hx rfl (hb hby d10n1_44) rfl kk)))))))) ?_
  show own_Fin _ _ _ _ _ _ _ (T1.setTop (mkF m 46 #[.val (.ref ca), .val (.int (1 : Int32)), .val (.ref ba), .val (.int (1 : Int32)), .val (.int (1 : Int32)), .val (.int (1 : Int32)), .val (.int c0)] [(.int (1 : Int32))]))
  exact own_retI X1 hx hlk hret (hb hby d10n1_46) (by decide) (by decide) (by rw [e1]; exact ⟨rfl, N1, K1, A1⟩)

theorem d9n1_0 : decode jdk_52_method_16_code 0 = .ok (.iload_n 2, 1) := by decide +kernel
theorem d9n1_1 : decode jdk_52_method_16_code 1 = .ok (.newarray .byte, 2) := by decide +kernel
theorem d9n1_3 : decode jdk_52_method_16_code 3 = .ok (.astore_n 3, 1) := by decide +kernel
theorem d9n1_4 : decode jdk_52_method_16_code 4 = .ok (.aload_n 0, 1) := by decide +kernel
theorem d9n1_5 : decode jdk_52_method_16_code 5 = .ok (.iload_n 1, 1) := by decide +kernel
theorem d9n1_6 : decode jdk_52_method_16_code 6 = .ok (.aload_n 3, 1) := by decide +kernel
theorem d9n1_7 : decode jdk_52_method_16_code 7 = .ok (.iconst 0, 1) := by decide +kernel
theorem d9n1_8 : decode jdk_52_method_16_code 8 = .ok (.iload_n 2, 1) := by decide +kernel
theorem d9n1_9 : decode jdk_52_method_16_code 9 = .ok (.invokestatic 115, 3) := by decide +kernel
theorem d9n1_12 : decode jdk_52_method_16_code 12 = .ok (.istore 4, 2) := by decide +kernel
theorem d9n1_14 : decode jdk_52_method_16_code 14 = .ok (.iload 4, 2) := by decide +kernel
theorem d9n1_16 : decode jdk_52_method_16_code 16 = .ok (.iload_n 2, 1) := by decide +kernel
theorem d9n1_17 : decode jdk_52_method_16_code 17 = .ok (.if_icmp .eq 40, 3) := by decide +kernel
theorem d9n1_57 : decode jdk_52_method_16_code 57 = .ok (.aload_n 3, 1) := by decide +kernel
theorem d9n1_58 : decode jdk_52_method_16_code 58 = .ok (.areturn, 1) := by decide +kernel
theorem pd_9n1_0 : parseMethodDescriptor "([CI[BII)I" = some ⟨[(.array .char), .int, (.array .byte), .int, .int], some .int⟩ := by decide +kernel
theorem pn_9n1 : plainFor (⟨"java/lang/StringUTF16", "compress", "([CII)[B"⟩ : MethodName) = true := plainFor_of_name (by show plainName "java/lang/StringUTF16" = true; first | (simp [plainName, overriddenIn]; done) | decide +kernel)
theorem ef_9n1 (m : MethodId) (x0 : Addr) (x1 : Int32) (x2 : Int32) : entryFrame m #[(.ref x0), (.int x1), (.int x2)] 6 = mkF m 0 #[.val (.ref x0), .val (.int x1), .val (.int x2), .unset, .unset, .unset] [] := by first | (simp [entryFrame, mkF, argsToLocals, Value.category]; done) | rfl
set_option maxRecDepth 65536 in
set_option maxHeartbeats 40000000 in
theorem rm9n1 (l : Launch) (Z : State) (a0 : Array Value) (hw : ∀ d ∈ tables_1, d.before a0 Z = true) (ca : Addr) (h0 : Heap) (n0 : Nat) (Z0 : n0 ≤ h0.size) (c0 : Int32) (h_c0 : own_ch c0) (VC : own_Ar Z h0 ca .char (List.map Value.int [c0])) :
    own_Met l (⟨"java/lang/StringUTF16", "compress", "([CII)[B"⟩ : MethodName) jdk_52_method_16_code 6 (some (.array .byte)) ({ frames := 1, cells := 1, slots := 1, locals := 18 } : Room) Z [] #[(.ref ca), (.int (0 : Int32)), (.int (1 : Int32))] h0 (own_Q9 Z [(Int8.toInt32 (Int32.toInt8 c0))] h0 n0) := by
  refine own_enter pn_9n1 ?_
  intro p e s m below meth c s₁ hx hby hml hown hnm hret hlk hZ e0 X0
  rw [ef_9n1]
  have N0 := Fr.nil n0
  show own_Fin _ _ _ _ _ _ _ (s₁.setTop (mkF m 0 #[.val (.ref ca), .val (.int (0 : Int32)), .val (.int (1 : Int32)), .unset, .unset, .unset] []))
  refine own_go (fun _ kk => XS.iloadN X0.here hx rfl (hb hby d9n1_0) rfl kk) ?_
  show own_Fin _ _ _ _ _ _ _ (s₁.setTop (mkF m 1 #[.val (.ref ca), .val (.int (0 : Int32)), .val (.int (1 : Int32)), .unset, .unset, .unset] [(.int (1 : Int32))]))
  refine own_newB X0 hx hZ (hw _ (List.mem_of_getElem? (i := 19) rfl)) e0 (hb hby d9n1_1) (by decide) (cap := 1) (by decide) (by decide) (by decide) (by decide) ?_
  intro T1 h1 b1 g1 X1 e1 E1 A1 D1
  have g_b1 : n0 ≤ b1 := Nat.le_trans Z0 (Nat.le_of_eq g1.symm)
  have ne_ca_b1 : ca ≠ b1 := Nat.ne_of_lt (Nat.lt_of_lt_of_le VC.lt (Nat.le_of_eq g1.symm))
  have f2 := VC.ext E1
  have Z1 := Nat.le_trans Z0 E1.1
  have sz_b1 : h0.size ≤ b1 := Nat.le_trans (Keep.refl h0 []).1 (Nat.le_of_eq g1.symm)
  have K1 := (Keep.refl h0 []).ext E1
  have A1 : own_Ar Z h1 b1 .byte (List.map Value.int [(0 : Int32)]) := A1
  show own_Fin _ _ _ _ _ _ _ (T1.setTop (mkF m 3 #[.val (.ref ca), .val (.int (0 : Int32)), .val (.int (1 : Int32)), .unset, .unset, .unset] [(.ref b1)]))
  refine own_go (fun _ kk => XS.astoreN X1.here hx rfl (hb hby d9n1_3) rfl rfl (l' := #[.val (.ref ca), .val (.int (0 : Int32)), .val (.int (1 : Int32)), .val (.ref b1), .unset, .unset]) rfl (XS.aloadN X1.here hx rfl (hb hby d9n1_4) rfl rfl (XS.iloadN X1.here hx rfl (hb hby d9n1_5) rfl (XS.aloadN X1.here hx rfl (hb hby d9n1_6) rfl rfl (XS.iconst X1.here hx rfl (hb hby d9n1_7) (XS.iloadN X1.here hx rfl (hb hby d9n1_8) rfl kk)))))) ?_
  show own_Fin _ _ _ _ _ _ _ (T1.setTop (mkF m 9 #[.val (.ref ca), .val (.int (0 : Int32)), .val (.int (1 : Int32)), .val (.ref b1), .unset, .unset] [(.int (1 : Int32)), (.int (0 : Int32)), (.ref b1), (.int (0 : Int32)), (.ref ca)]))
  refine own_callS X1 hx hZ hown (hw _ (List.mem_of_getElem? (i := 74) rfl)) (hw _ (List.mem_of_getElem? (i := 75) rfl)) (hw _ (List.mem_of_getElem? (i := 72) rfl)) (hw _ (List.mem_of_getElem? (i := 76) rfl)) (by decide) (rm10n1 l Z a0 hw ca b1 h1 n0 Z1 c0 h_c0 f2 A1 ne_ca_b1 g_b1) e1 (argsL := [(.ref ca), (.int (0 : Int32)), (.ref b1), (.int (0 : Int32)), (.int (1 : Int32))]) (rest := []) rfl rfl (by rw [hml]; rfl) (lenOf pd_9n1_0 rfl) (hb hby d9n1_9) (W := 0) (Nat.le_of_eq rfl) (by decide) (by decide) (by decide) (by decide) ?_
  rintro v3 T3 L3 X3 ⟨rfl, M3, Kc3, Vb3⟩
  have N3 := Fr.app N0 M3
  have f4 := f2.keep Kc3 (ninS ne_ca_b1 nin0)
  have f5 := D1.keep Kc3
  have Z3 := Nat.le_trans Z1 Kc3.1
  have K3 := K1.trans Kc3 (allS (Or.inr sz_b1) all0)
  show own_Fin _ _ _ _ _ _ _ (T3.setTop (mkF m 12 #[.val (.ref ca), .val (.int (0 : Int32)), .val (.int (1 : Int32)), .val (.ref b1), .unset, .unset] [(.int (1 : Int32))]))
  refine own_go (fun _ kk => XS.istore X3.here hx rfl (hb hby d9n1_12) rfl (l' := #[.val (.ref ca), .val (.int (0 : Int32)), .val (.int (1 : Int32)), .val (.ref b1), .val (.int (1 : Int32)), .unset]) rfl (XS.iload X3.here hx rfl (hb hby d9n1_14) rfl (XS.iloadN X3.here hx rfl (hb hby d9n1_16) rfl (XS.icmpYes X3.here hx rfl (pc0 := 17) (pc' := 57) rfl (hb hby d9n1_17) rfl (XT.ii_eq_t (by decide)) (by decide) (by decide) (XS.aloadN X3.here hx rfl (hb hby d9n1_57) rfl rfl kk))))) ?_
  show own_Fin _ _ _ _ _ _ _ (T3.setTop (mkF m 58 #[.val (.ref ca), .val (.int (0 : Int32)), .val (.int (1 : Int32)), .val (.ref b1), .val (.int (1 : Int32)), .unset] [(.ref b1)]))
  exact own_retA X3 hx hlk hret rfl rfl (hb hby d9n1_58) (by decide) (by decide) ⟨b1, rfl, N3, K3, sz_b1, Vb3⟩

theorem d11n1_0 : decode jdk_52_method_15_code 0 = .ok (.iload_n 1, 1) := by decide +kernel
theorem d11n1_1 : decode jdk_52_method_15_code 1 = .ok (.aload_n 0, 1) := by decide +kernel
theorem d11n1_2 : decode jdk_52_method_15_code 2 = .ok (.arraylength, 1) := by decide +kernel
theorem d11n1_3 : decode jdk_52_method_15_code 3 = .ok (.isub, 1) := by decide +kernel
theorem d11n1_4 : decode jdk_52_method_15_code 4 = .ok (.bipush 31, 2) := by decide +kernel
theorem d11n1_6 : decode jdk_52_method_15_code 6 = .ok (.iushr, 1) := by decide +kernel
theorem d11n1_7 : decode jdk_52_method_15_code 7 = .ok (.i2b, 1) := by decide +kernel
theorem d11n1_8 : decode jdk_52_method_15_code 8 = .ok (.ireturn, 1) := by decide +kernel
theorem pn_11n1 : plainFor (⟨"java/lang/StringUTF16", "coderFromArrayLen", "([BI)B"⟩ : MethodName) = true := plainFor_of_name (by show plainName "java/lang/StringUTF16" = true; first | (simp [plainName, overriddenIn]; done) | decide +kernel)
theorem ef_11n1 (m : MethodId) (x0 : Addr) (x1 : Int32) : entryFrame m #[(.ref x0), (.int x1)] 2 = mkF m 0 #[.val (.ref x0), .val (.int x1)] [] := by first | (simp [entryFrame, mkF, argsToLocals, Value.category]; done) | rfl
set_option maxRecDepth 65536 in
set_option maxHeartbeats 40000000 in
theorem rm11n1 (l : Launch) (Z : State) (a0 : Array Value) (hw : ∀ d ∈ tables_1, d.before a0 Z = true) (ba : Addr) (h0 : Heap) (n0 : Nat) (Z0 : n0 ≤ h0.size) (x0 : Int32) (VB : own_Ar Z h0 ba .byte (List.map Value.int [x0])) :
    own_Met l (⟨"java/lang/StringUTF16", "coderFromArrayLen", "([BI)B"⟩ : MethodName) jdk_52_method_15_code 2 (some .byte) ({ frames := 0, cells := 0, slots := 0, locals := 0 } : Room) Z [] #[(.ref ba), (.int (1 : Int32))] h0 (own_P (some (.int (0 : Int32))) h0 n0) := by
  refine own_enter pn_11n1 ?_
  intro p e s m below meth c s₁ hx hby hml hown hnm hret hlk hZ e0 X0
  rw [ef_11n1]
  have N0 := Fr.nil n0
  show own_Fin _ _ _ _ _ _ _ (s₁.setTop (mkF m 0 #[.val (.ref ba), .val (.int (1 : Int32))] []))
  refine own_go (fun _ kk => XS.iloadN X0.here hx rfl (hb hby d11n1_0) rfl (XS.aloadN X0.here hx rfl (hb hby d11n1_1) rfl rfl kk)) ?_
  show own_Fin _ _ _ _ _ _ _ (s₁.setTop (mkF m 2 #[.val (.ref ba), .val (.int (1 : Int32))] [(.ref ba), (.int (1 : Int32))]))
  refine own_alen X0 hx hZ e0 VB (hb hby d11n1_2) ?_
  show own_Fin _ _ _ _ _ _ _ (s₁.setTop (mkF m 3 #[.val (.ref ba), .val (.int (1 : Int32))] [(.int (1 : Int32)), (.int (1 : Int32))]))
  refine own_go (fun _ kk => XS.isub X0.here hx rfl (hb hby d11n1_3) rfl (XS.bipush X0.here hx rfl (hb hby d11n1_4) (XS.iushr X0.here hx rfl (hb hby d11n1_6) rfl (XS.i2b X0.here hx rfl (hb hby d11n1_7) rfl kk)))) ?_
  show own_Fin _ _ _ _ _ _ _ (s₁.setTop (mkF m 8 #[.val (.ref ba), .val (.int (1 : Int32))] [(.int (Int8.toInt32 (Int32.toInt8 (((0 : Int32).toUInt32 >>> ((31 : Int32) &&& 31).toUInt32).toInt32))))]))
  exact own_retB X0 hx hlk hret (by decide) (hb hby d11n1_8) (by decide) (by decide) ⟨congrArg (fun z => some (Value.int z)) (by decide), N0, e0⟩

theorem d3n1_0 : decode jdk_42_method_149_code 0 = .ok (.aload_n 0, 1) := by decide +kernel
theorem d3n1_1 : decode jdk_42_method_149_code 1 = .ok (.invokespecial 1, 3) := by decide +kernel
theorem d3n1_4 : decode jdk_42_method_149_code 4 = .ok (.iload_n 3, 1) := by decide +kernel
theorem d3n1_5 : decode jdk_42_method_149_code 5 = .ok (.ifCond .ne 22, 3) := by decide +kernel
theorem d3n1_27 : decode jdk_42_method_149_code 27 = .ok (.getstatic 38, 3) := by decide +kernel
theorem d3n1_30 : decode jdk_42_method_149_code 30 = .ok (.ifCond .eq 28, 3) := by decide +kernel
theorem d3n1_33 : decode jdk_42_method_149_code 33 = .ok (.aload_n 1, 1) := by decide +kernel
theorem d3n1_34 : decode jdk_42_method_149_code 34 = .ok (.iload_n 2, 1) := by decide +kernel
theorem d3n1_35 : decode jdk_42_method_149_code 35 = .ok (.iload_n 3, 1) := by decide +kernel
theorem d3n1_36 : decode jdk_42_method_149_code 36 = .ok (.invokestatic 177, 3) := by decide +kernel
theorem d3n1_39 : decode jdk_42_method_149_code 39 = .ok (.astore 5, 2) := by decide +kernel
theorem d3n1_41 : decode jdk_42_method_149_code 41 = .ok (.aload_n 0, 1) := by decide +kernel
theorem d3n1_42 : decode jdk_42_method_149_code 42 = .ok (.aload 5, 2) := by decide +kernel
theorem d3n1_44 : decode jdk_42_method_149_code 44 = .ok (.iload_n 3, 1) := by decide +kernel
theorem d3n1_45 : decode jdk_42_method_149_code 45 = .ok (.invokestatic 47, 3) := by decide +kernel
theorem d3n1_48 : decode jdk_42_method_149_code 48 = .ok (.putfield 15, 3) := by decide +kernel
theorem d3n1_51 : decode jdk_42_method_149_code 51 = .ok (.aload_n 0, 1) := by decide +kernel
theorem d3n1_52 : decode jdk_42_method_149_code 52 = .ok (.aload 5, 2) := by decide +kernel
theorem d3n1_54 : decode jdk_42_method_149_code 54 = .ok (.putfield 9, 3) := by decide +kernel
theorem d3n1_57 : decode jdk_42_method_149_code 57 = .ok (.return_, 1) := by decide +kernel
theorem pd_3n1_0 : parseMethodDescriptor "([CII)[B" = some ⟨[(.array .char), .int, .int], some (.array .byte)⟩ := by decide +kernel
theorem pd_3n1_1 : parseMethodDescriptor "([BI)B" = some ⟨[(.array .byte), .int], some .byte⟩ := by decide +kernel
theorem pn_3n1 : plainFor (⟨"java/lang/String", "<init>", "([CIILjava/lang/Void;)V"⟩ : MethodName) = true := plainFor_of_name (by show plainName "java/lang/String" = true; first | (simp [plainName, overriddenIn]; done) | decide +kernel)
theorem ef_3n1 (m : MethodId) (x0 : Addr) (x1 : Addr) (x2 : Int32) (x3 : Int32) : entryFrame m #[(.ref x0), (.ref x1), (.int x2), (.int x3), .null] 6 = mkF m 0 #[.val (.ref x0), .val (.ref x1), .val (.int x2), .val (.int x3), .val .null, .unset] [] := by first | (simp [entryFrame, mkF, argsToLocals, Value.category]; done) | rfl
set_option maxRecDepth 65536 in
set_option maxHeartbeats 40000000 in
theorem rm3n1 (l : Launch) (Z : State) (a0 : Array Value) (hw : ∀ d ∈ tables_1, d.before a0 Z = true) (t0 : Addr) (ca : Addr) (h0 : Heap) (n0 : Nat) (Z0 : n0 ≤ h0.size) (c0 : Int32) (h_c0 : own_ch c0) (cs : Int32) (S_cs : Sta Z Z.heap "java/lang/String" "COMPACT_STRINGS" "Z" (.int cs)) (hcs : ¬ cs = 0) (O0 : Old Z n0 h0) (E_t0 : Exa Z h0 t0 "java/lang/String") (F_value : Fld Z h0 t0 "java/lang/String" "value" "[B" .null) (F_coder : Fld Z h0 t0 "java/lang/String" "coder" "B" (.int (0 : Int32))) (g_t0 : n0 ≤ t0) (n0c : ca ≠ t0) (VC : own_Ar Z h0 ca .char (List.map Value.int [c0])) :
    own_Met l (⟨"java/lang/String", "<init>", "([CIILjava/lang/Void;)V"⟩ : MethodName) jdk_42_method_149_code 6 none ({ frames := 2, cells := 1, slots := 1, locals := 35 } : Room) Z [] #[(.ref t0), (.ref ca), (.int (0 : Int32)), (.int (1 : Int32)), .null] h0 (own_Q3 Z t0 [(Int8.toInt32 (Int32.toInt8 c0))] h0 n0) := by
  refine own_enter pn_3n1 ?_
  intro p e s m below meth c s₁ hx hby hml hown hnm hret hlk hZ e0 X0
  rw [ef_3n1]
  have N0 := Fr.nil n0
  show own_Fin _ _ _ _ _ _ _ (s₁.setTop (mkF m 0 #[.val (.ref t0), .val (.ref ca), .val (.int (0 : Int32)), .val (.int (1 : Int32)), .val .null, .unset] []))
  refine own_go (fun _ kk => XS.aloadN X0.here hx rfl (hb hby d3n1_0) rfl rfl kk) ?_
  show own_Fin _ _ _ _ _ _ _ (s₁.setTop (mkF m 1 #[.val (.ref t0), .val (.ref ca), .val (.int (0 : Int32)), .val (.int (1 : Int32)), .val .null, .unset] [(.ref t0)]))
  refine own_initO X0 hx hZ hown (hw _ (List.mem_of_getElem? (i := 15) rfl)) (hw _ (List.mem_of_getElem? (i := 16) rfl)) (hw _ (List.mem_of_getElem? (i := 17) rfl)) e0 (by rw [hml]; rfl) (hb hby d3n1_1) (by decide) (W := 0) (Nat.le_of_eq rfl) (by decide) ?_
  intro T1 X1 e1
  show own_Fin _ _ _ _ _ _ _ (T1.setTop (mkF m 4 #[.val (.ref t0), .val (.ref ca), .val (.int (0 : Int32)), .val (.int (1 : Int32)), .val .null, .unset] []))
  refine own_go (fun _ kk => XS.iloadN X1.here hx rfl (hb hby d3n1_4) rfl (XS.ifYes X1.here hx rfl (pc0 := 5) (pc' := 27) rfl (hb hby d3n1_5) rfl (XT.i0_ne_t (by decide)) (by decide) (by decide) kk)) ?_
  show own_Fin _ _ _ _ _ _ _ (T1.setTop (mkF m 27 #[.val (.ref t0), .val (.ref ca), .val (.int (0 : Int32)), .val (.int (1 : Int32)), .val .null, .unset] []))
  refine own_getS X1 hx hZ hown (host := "") (Or.inl (hw _ (List.mem_of_getElem? (i := 69) rfl))) Via.refl e1 (S_cs.ext O0.2) (hb hby d3n1_27) ?_
  intro T2 X2 e2
  show own_Fin _ _ _ _ _ _ _ (T2.setTop (mkF m 30 #[.val (.ref t0), .val (.ref ca), .val (.int (0 : Int32)), .val (.int (1 : Int32)), .val .null, .unset] [(.int cs)]))
  refine own_go (fun _ kk => XS.ifNo X2.here hx rfl (hb hby d3n1_30) rfl (XT.i0_eq_f hcs) (XS.aloadN X2.here hx rfl (hb hby d3n1_33) rfl rfl (XS.iloadN X2.here hx rfl (hb hby d3n1_34) rfl (XS.iloadN X2.here hx rfl (hb hby d3n1_35) rfl kk)))) ?_
  show own_Fin _ _ _ _ _ _ _ (T2.setTop (mkF m 36 #[.val (.ref t0), .val (.ref ca), .val (.int (0 : Int32)), .val (.int (1 : Int32)), .val .null, .unset] [(.int (1 : Int32)), (.int (0 : Int32)), (.ref ca)]))
  refine own_callS X2 hx hZ hown (hw _ (List.mem_of_getElem? (i := 70) rfl)) (hw _ (List.mem_of_getElem? (i := 71) rfl)) (hw _ (List.mem_of_getElem? (i := 72) rfl)) (hw _ (List.mem_of_getElem? (i := 73) rfl)) (by decide) (rm9n1 l Z a0 hw ca h0 n0 Z0 c0 h_c0 VC) e2 (argsL := [(.ref ca), (.int (0 : Int32)), (.int (1 : Int32))]) (rest := []) rfl rfl (by rw [hml]; rfl) (lenOf pd_3n1_0 rfl) (hb hby d3n1_36) (W := 0) (Nat.le_of_eq rfl) (by decide) (by decide) (by decide) (by decide) ?_
  rintro v3 T3 L3 X3 ⟨bb3, rfl, M3, Kc3, szb3, Vb3⟩
  have N3 := Fr.app N0 M3
  have g_bb3 : n0 ≤ bb3 := Nat.le_trans Z0 szb3
  have ne_t0_bb3 : t0 ≠ bb3 := Nat.ne_of_lt (Nat.lt_of_lt_of_le E_t0.lt szb3)
  have ne_ca_bb3 : ca ≠ bb3 := Nat.ne_of_lt (Nat.lt_of_lt_of_le VC.lt szb3)
  have szh_bb3 : h0.size ≤ bb3 := Nat.le_trans (Keep.refl h0 [t0]).1 szb3
  have f4 := O0.keep Kc3 all0
  have f5 := E_t0.keep Kc3
  have f6 := F_value.keep Kc3 nin0
  have f7 := F_coder.keep Kc3 nin0
  have f8 := VC.keep Kc3 nin0
  have Z3 := Nat.le_trans Z0 Kc3.1
  have K3 := (Keep.refl h0 [t0]).trans Kc3 all0
  show own_Fin _ _ _ _ _ _ _ (T3.setTop (mkF m 39 #[.val (.ref t0), .val (.ref ca), .val (.int (0 : Int32)), .val (.int (1 : Int32)), .val .null, .unset] [(.ref bb3)]))
  refine own_go (fun _ kk => XS.astore X3.here hx rfl (hb hby d3n1_39) rfl rfl (l' := #[.val (.ref t0), .val (.ref ca), .val (.int (0 : Int32)), .val (.int (1 : Int32)), .val .null, .val (.ref bb3)]) rfl (XS.aloadN X3.here hx rfl (hb hby d3n1_41) rfl rfl (XS.aload X3.here hx rfl (hb hby d3n1_42) rfl rfl (XS.iloadN X3.here hx rfl (hb hby d3n1_44) rfl kk)))) ?_
  show own_Fin _ _ _ _ _ _ _ (T3.setTop (mkF m 45 #[.val (.ref t0), .val (.ref ca), .val (.int (0 : Int32)), .val (.int (1 : Int32)), .val .null, .val (.ref bb3)] [(.int (1 : Int32)), (.ref bb3), (.ref t0)]))
  refine own_callS X3 hx hZ hown (hw _ (List.mem_of_getElem? (i := 77) rfl)) (hw _ (List.mem_of_getElem? (i := 78) rfl)) (hw _ (List.mem_of_getElem? (i := 72) rfl)) (hw _ (List.mem_of_getElem? (i := 79) rfl)) (by decide) (rm11n1 l Z a0 hw bb3 T3.heap n0 Z3 (Int8.toInt32 (Int32.toInt8 c0)) Vb3) rfl (argsL := [(.ref bb3), (.int (1 : Int32))]) (rest := [(.ref t0)]) rfl rfl (by rw [hml]; rfl) (lenOf pd_3n1_1 rfl) (hb hby d3n1_45) (W := 1) (Nat.le_of_eq rfl) (by decide) (by decide) (by decide) (by decide) ?_
  rintro v9 T9 L9 X9 ⟨rfl, M9, e9⟩
  have N9 := Fr.app N3 M9
  show own_Fin _ _ _ _ _ _ _ (T9.setTop (mkF m 48 #[.val (.ref t0), .val (.ref ca), .val (.int (0 : Int32)), .val (.int (1 : Int32)), .val .null, .val (.ref bb3)] [(.int (0 : Int32)), (.ref t0)]))
  refine own_putF X9 hx hZ hown (host := "") (Or.inl (hw _ (List.mem_of_getElem? (i := 25) rfl))) Via.refl e9 f7 f5 (Or.inr ⟨(hw _ (List.mem_of_getElem? (i := 21) rfl)), rfl, hnm⟩) (hw _ (List.mem_of_getElem? (i := 5) rfl)) (ty := .byte) (by decide) rfl rfl (hb hby d3n1_48) ?_
  intro T10 h10 X10 e10 W10
  have f11 := f4.wr W10 g_t0
  have f12 := f5.wr W10
  have f13 := f6.other W10 (Or.inr (slot_ne (Or.inr (hw _ (List.mem_of_getElem? (i := 20) rfl))) (Or.inr (hw _ (List.mem_of_getElem? (i := 21) rfl))) (by decide) (t := (.array .byte)) (t' := .byte) (by decide) (by decide)))
  have f15 := f8.other W10 n0c
  have f16 := Vb3.other W10 (Ne.symm ne_t0_bb3)
  have Z10 := Nat.le_trans Z3 (Keep.of_wr W10).1
  have K10 := K3.wr W10 (Or.inl (List.mem_of_getElem? (i := 0) rfl))
  have f17 := f7.same W10
  have N10 := Fr.snoc X10 N9 g_t0
  show own_Fin _ _ _ _ _ _ _ (T10.setTop (mkF m 51 #[.val (.ref t0), .val (.ref ca), .val (.int (0 : Int32)), .val (.int (1 : Int32)), .val .null, .val (.ref bb3)] []))
  refine own_go (fun _ kk => XS.aloadN X10.here hx rfl (hb hby d3n1_51) rfl rfl (XS.aload X10.here hx rfl (hb hby d3n1_52) rfl rfl kk)) ?_
  show own_Fin _ _ _ _ _ _ _ (T10.setTop (mkF m 54 #[.val (.ref t0), .val (.ref ca), .val (.int (0 : Int32)), .val (.int (1 : Int32)), .val .null, .val (.ref bb3)] [(.ref bb3), (.ref t0)]))
  refine own_putF X10 hx hZ hown (host := "") (Or.inl (hw _ (List.mem_of_getElem? (i := 24) rfl))) Via.refl e10 f13 f12 (Or.inr ⟨(hw _ (List.mem_of_getElem? (i := 20) rfl)), rfl, hnm⟩) (hw _ (List.mem_of_getElem? (i := 5) rfl)) (ty := (.array .byte)) (by decide) rfl rfl (hb hby d3n1_54) ?_
  intro T18 h18 X18 e18 W18
  have f19 := f11.wr W18 g_t0
  have f20 := f12.wr W18
  have f22 := f17.other W18 (Or.inr (slot_ne (Or.inr (hw _ (List.mem_of_getElem? (i := 21) rfl))) (Or.inr (hw _ (List.mem_of_getElem? (i := 20) rfl))) (by decide) (t := .byte) (t' := (.array .byte)) (by decide) (by decide)))
  have f23 := f15.other W18 n0c
  have f24 := f16.other W18 (Ne.symm ne_t0_bb3)
  have Z18 := Nat.le_trans Z10 (Keep.of_wr W18).1
  have K18 := K10.wr W18 (Or.inl (List.mem_of_getElem? (i := 0) rfl))
  have f25 := f13.same W18
  have N18 := Fr.snoc X18 N10 g_t0
  show own_Fin _ _ _ _ _ _ _ (T18.setTop (mkF m 57 #[.val (.ref t0), .val (.ref ca), .val (.int (0 : Int32)), .val (.int (1 : Int32)), .val .null, .val (.ref bb3)] []))
  exact own_retV X18 hx hlk hret (hb hby d3n1_57) (by decide) (by decide) (by rw [e18]; exact ⟨rfl, N18, K18, f22, bb3, f25, f24⟩)

theorem d2n1_0 : decode jdk_42_method_3_code 0 = .ok (.aload_n 0, 1) := by decide +kernel
theorem d2n1_1 : decode jdk_42_method_3_code 1 = .ok (.aload_n 1, 1) := by decide +kernel
theorem d2n1_2 : decode jdk_42_method_3_code 2 = .ok (.iconst 0, 1) := by decide +kernel
theorem d2n1_3 : decode jdk_42_method_3_code 3 = .ok (.aload_n 1, 1) := by decide +kernel
theorem d2n1_4 : decode jdk_42_method_3_code 4 = .ok (.arraylength, 1) := by decide +kernel
theorem d2n1_5 : decode jdk_42_method_3_code 5 = .ok (.aconst_null, 1) := by decide +kernel
theorem d2n1_6 : decode jdk_42_method_3_code 6 = .ok (.invokespecial 27, 3) := by decide +kernel
theorem d2n1_9 : decode jdk_42_method_3_code 9 = .ok (.return_, 1) := by decide +kernel
theorem pd_2n1_0 : parseMethodDescriptor "([CIILjava/lang/Void;)V" = some ⟨[(.array .char), .int, .int, (.object "java/lang/Void")], none⟩ := by decide +kernel
theorem pn_2n1 : plainFor (⟨"java/lang/String", "<init>", "([C)V"⟩ : MethodName) = true := plainFor_of_name (by show plainName "java/lang/String" = true; first | (simp [plainName, overriddenIn]; done) | decide +kernel)
theorem ef_2n1 (m : MethodId) (x0 : Addr) (x1 : Addr) : entryFrame m #[(.ref x0), (.ref x1)] 2 = mkF m 0 #[.val (.ref x0), .val (.ref x1)] [] := by first | (simp [entryFrame, mkF, argsToLocals, Value.category]; done) | rfl
set_option maxRecDepth 65536 in
set_option maxHeartbeats 40000000 in
theorem rm2n1 (l : Launch) (Z : State) (a0 : Array Value) (hw : ∀ d ∈ tables_1, d.before a0 Z = true) (t0 : Addr) (ca : Addr) (h0 : Heap) (n0 : Nat) (Z0 : n0 ≤ h0.size) (c0 : Int32) (h_c0 : own_ch c0) (cs : Int32) (S_cs : Sta Z Z.heap "java/lang/String" "COMPACT_STRINGS" "Z" (.int cs)) (hcs : ¬ cs = 0) (O0 : Old Z n0 h0) (E_t0 : Exa Z h0 t0 "java/lang/String") (F_value : Fld Z h0 t0 "java/lang/String" "value" "[B" .null) (F_coder : Fld Z h0 t0 "java/lang/String" "coder" "B" (.int (0 : Int32))) (g_t0 : n0 ≤ t0) (n0c : ca ≠ t0) (VC : own_Ar Z h0 ca .char (List.map Value.int [c0])) :
    own_Met l (⟨"java/lang/String", "<init>", "([C)V"⟩ : MethodName) jdk_42_method_3_code 2 none ({ frames := 3, cells := 1, slots := 1, locals := 52 } : Room) Z [] #[(.ref t0), (.ref ca)] h0 (own_Q3 Z t0 [(Int8.toInt32 (Int32.toInt8 c0))] h0 n0) := by
  refine own_enter pn_2n1 ?_
  intro p e s m below meth c s₁ hx hby hml hown hnm hret hlk hZ e0 X0
  rw [ef_2n1]
  have N0 := Fr.nil n0
  show own_Fin _ _ _ _ _ _ _ (s₁.setTop (mkF m 0 #[.val (.ref t0), .val (.ref ca)] []))
  refine own_go (fun _ kk => XS.aloadN X0.here hx rfl (hb hby d2n1_0) rfl rfl (XS.aloadN X0.here hx rfl (hb hby d2n1_1) rfl rfl (XS.iconst X0.here hx rfl (hb hby d2n1_2) (XS.aloadN X0.here hx rfl (hb hby d2n1_3) rfl rfl kk)))) ?_
  show own_Fin _ _ _ _ _ _ _ (s₁.setTop (mkF m 4 #[.val (.ref t0), .val (.ref ca)] [(.ref ca), (.int (0 : Int32)), (.ref ca), (.ref t0)]))
  refine own_alen X0 hx hZ e0 VC (hb hby d2n1_4) ?_
  show own_Fin _ _ _ _ _ _ _ (s₁.setTop (mkF m 5 #[.val (.ref t0), .val (.ref ca)] [(.int (1 : Int32)), (.int (0 : Int32)), (.ref ca), (.ref t0)]))
  refine own_go (fun _ kk => XS.aconstNull X0.here hx rfl (hb hby d2n1_5) kk) ?_
  show own_Fin _ _ _ _ _ _ _ (s₁.setTop (mkF m 6 #[.val (.ref t0), .val (.ref ca)] [.null, (.int (1 : Int32)), (.int (0 : Int32)), (.ref ca), (.ref t0)]))
  refine own_callN X0 hx hZ rfl hown (hw _ (List.mem_of_getElem? (i := 11) rfl)) (hw _ (List.mem_of_getElem? (i := 12) rfl)) (hw _ (List.mem_of_getElem? (i := 6) rfl)) (hw _ (List.mem_of_getElem? (i := 14) rfl)) (by decide) (rm3n1 l Z a0 hw t0 ca h0 n0 Z0 c0 h_c0 cs S_cs hcs O0 E_t0 F_value F_coder g_t0 n0c VC) e0 (a := t0) (argsL := [(.ref ca), (.int (0 : Int32)), (.int (1 : Int32)), .null]) (rest := []) rfl rfl (by rw [hml]; rfl) (lenOf pd_2n1_0 rfl) (hb hby d2n1_6) (W := 0) (Nat.le_of_eq rfl) (by decide) (by decide) (by decide) (by decide) ?_
  rintro v1 T1 L1 X1 ⟨rfl, M1, Kc1, Fc1, bb1, Fv1, Vb1⟩
  have N1 := Fr.app N0 M1
  have f2 := O0.keep Kc1 (allS g_t0 all0)
  have f3 := E_t0.keep Kc1
  have f4 := VC.keep Kc1 (ninS n0c nin0)
  have Z1 := Nat.le_trans Z0 Kc1.1
  have K1 := (Keep.refl h0 [t0]).trans Kc1 (allS (Or.inl (List.mem_of_getElem? (i := 0) rfl)) all0)
  show own_Fin _ _ _ _ _ _ _ (T1.setTop (mkF m 9 #[.val (.ref t0), .val (.ref ca)] []))
  exact own_retV X1 hx hlk hret (hb hby d2n1_9) (by decide) (by decide) ⟨rfl, N1, K1, Fc1, bb1, Fv1, Vb1⟩

theorem d10n2_0 : decode jdk_52_method_21_code 0 = .ok (.iconst 0, 1) := by decide +kernel
theorem d10n2_1 : decode jdk_52_method_21_code 1 = .ok (.istore 5, 2) := by decide +kernel
theorem d10n2_3 : decode jdk_52_method_21_code 3 = .ok (.iload 5, 2) := by decide +kernel
theorem d10n2_5 : decode jdk_52_method_21_code 5 = .ok (.iload 4, 2) := by decide +kernel
theorem d10n2_7 : decode jdk_52_method_21_code 7 = .ok (.if_icmp .ge 37, 3) := by decide +kernel
theorem d10n2_10 : decode jdk_52_method_21_code 10 = .ok (.aload_n 0, 1) := by decide +kernel
theorem d10n2_11 : decode jdk_52_method_21_code 11 = .ok (.iload_n 1, 1) := by decide +kernel
theorem d10n2_12 : decode jdk_52_method_21_code 12 = .ok (.caload, 1) := by decide +kernel
theorem d10n2_13 : decode jdk_52_method_21_code 13 = .ok (.istore 6, 2) := by decide +kernel
theorem d10n2_15 : decode jdk_52_method_21_code 15 = .ok (.iload 6, 2) := by decide +kernel
theorem d10n2_17 : decode jdk_52_method_21_code 17 = .ok (.sipush 255, 3) := by decide +kernel
theorem d10n2_20 : decode jdk_52_method_21_code 20 = .ok (.if_icmp .le 6, 3) := by decide +kernel
theorem d10n2_26 : decode jdk_52_method_21_code 26 = .ok (.aload_n 2, 1) := by decide +kernel
theorem d10n2_27 : decode jdk_52_method_21_code 27 = .ok (.iload_n 3, 1) := by decide +kernel
theorem d10n2_28 : decode jdk_52_method_21_code 28 = .ok (.iload 6, 2) := by decide +kernel
theorem d10n2_30 : decode jdk_52_method_21_code 30 = .ok (.i2b, 1) := by decide +kernel
theorem d10n2_31 : decode jdk_52_method_21_code 31 = .ok (.bastore, 1) := by decide +kernel
theorem d10n2_32 : decode jdk_52_method_21_code 32 = .ok (.iinc 1 1, 3) := by decide +kernel
theorem d10n2_35 : decode jdk_52_method_21_code 35 = .ok (.iinc 3 1, 3) := by decide +kernel
theorem d10n2_38 : decode jdk_52_method_21_code 38 = .ok (.iinc 5 1, 3) := by decide +kernel
theorem d10n2_41 : decode jdk_52_method_21_code 41 = .ok (.goto (-38), 3) := by decide +kernel
theorem d10n2_44 : decode jdk_52_method_21_code 44 = .ok (.iload 4, 2) := by decide +kernel
theorem d10n2_46 : decode jdk_52_method_21_code 46 = .ok (.ireturn, 1) := by decide +kernel
theorem pn_10n2 : plainFor (⟨"java/lang/StringUTF16", "compress", "([CI[BII)I"⟩ : MethodName) = true := plainFor_of_name (by show plainName "java/lang/StringUTF16" = true; first | (simp [plainName, overriddenIn]; done) | decide +kernel)
theorem ef_10n2 (m : MethodId) (x0 : Addr) (x1 : Int32) (x2 : Addr) (x3 : Int32) (x4 : Int32) : entryFrame m #[(.ref x0), (.int x1), (.ref x2), (.int x3), (.int x4)] 7 = mkF m 0 #[.val (.ref x0), .val (.int x1), .val (.ref x2), .val (.int x3), .val (.int x4), .unset, .unset] [] := by first | (simp [entryFrame, mkF, argsToLocals, Value.category]; done) | rfl
set_option maxRecDepth 65536 in
set_option maxHeartbeats 40000000 in
theorem rm10n2 (l : Launch) (Z : State) (a0 : Array Value) (hw : ∀ d ∈ tables_1, d.before a0 Z = true) (ca : Addr) (ba : Addr) (h0 : Heap) (n0 : Nat) (Z0 : n0 ≤ h0.size) (c0 : Int32) (c1 : Int32) (h_c0 : own_ch c0) (h_c1 : own_ch c1) (VC : own_Ar Z h0 ca .char (List.map Value.int [c0, c1])) (VB : own_Ar Z h0 ba .byte (List.map Value.int [(0 : Int32), (0 : Int32)])) (ncb : ca ≠ ba) (g_ba : n0 ≤ ba) :
    own_Met l (⟨"java/lang/StringUTF16", "compress", "([CI[BII)I"⟩ : MethodName) jdk_52_method_21_code 7 (some .int) ({ frames := 0, cells := 0, slots := 0, locals := 0 } : Room) Z [] #[(.ref ca), (.int (0 : Int32)), (.ref ba), (.int (0 : Int32)), (.int (2 : Int32))] h0 (own_Q10 Z ba [(Int8.toInt32 (Int32.toInt8 c0)), (Int8.toInt32 (Int32.toInt8 c1))] (2 : Int32) h0 n0) := by
  refine own_enter pn_10n2 ?_
  intro p e s m below meth c s₁ hx hby hml hown hnm hret hlk hZ e0 X0
  rw [ef_10n2]
  have N0 := Fr.nil n0
  show own_Fin _ _ _ _ _ _ _ (s₁.setTop (mkF m 0 #[.val (.ref ca), .val (.int (0 : Int32)), .val (.ref ba), .val (.int (0 : Int32)), .val (.int (2 : Int32)), .unset, .unset] []))
  refine own_go (fun _ kk => XS.iconst X0.here hx rfl (hb hby d10n2_0) (XS.istore X0.here hx rfl (hb hby d10n2_1) rfl (l' := #[.val (.ref ca), .val (.int (0 : Int32)), .val (.ref ba), .val (.int (0 : Int32)), .val (.int (2 : Int32)), .val (.int (0 : Int32)), .unset]) rfl (XS.iload X0.here hx rfl (hb hby d10n2_3) rfl (XS.iload X0.here hx rfl (hb hby d10n2_5) rfl (XS.icmpNo X0.here hx rfl (hb hby d10n2_7) rfl (XT.ii_ge_f (by decide)) (XS.aloadN X0.here hx rfl (hb hby d10n2_10) rfl rfl (XS.iloadN X0.here hx rfl (hb hby d10n2_11) rfl kk))))))) ?_
  show own_Fin _ _ _ _ _ _ _ (s₁.setTop (mkF m 12 #[.val (.ref ca), .val (.int (0 : Int32)), .val (.ref ba), .val (.int (0 : Int32)), .val (.int (2 : Int32)), .val (.int (0 : Int32)), .unset] [(.int (0 : Int32)), (.ref ca)]))
  refine own_ldC X0 hx hZ e0 VC (by decide) (by show (0 : Int32).toNatClampNeg < 2; decide) (hb hby d10n2_12) ?_
  show own_Fin _ _ _ _ _ _ _ (s₁.setTop (mkF m 13 #[.val (.ref ca), .val (.int (0 : Int32)), .val (.ref ba), .val (.int (0 : Int32)), .val (.int (2 : Int32)), .val (.int (0 : Int32)), .unset] [(.int c0)]))
  refine own_go (fun _ kk => XS.istore X0.here hx rfl (hb hby d10n2_13) rfl (l' := #[.val (.ref ca), .val (.int (0 : Int32)), .val (.ref ba), .val (.int (0 : Int32)), .val (.int (2 : Int32)), .val (.int (0 : Int32)), .val (.int c0)]) rfl (XS.iload X0.here hx rfl (hb hby d10n2_15) rfl (XS.sipush X0.here hx rfl (hb hby d10n2_17) (XS.icmpYes X0.here hx rfl (pc0 := 20) (pc' := 26) rfl (hb hby d10n2_20) rfl (XT.ii_le_t h_c0.2) (by decide) (by decide) (XS.aloadN X0.here hx rfl (hb hby d10n2_26) rfl rfl (XS.iloadN X0.here hx rfl (hb hby d10n2_27) rfl (XS.iload X0.here hx rfl (hb hby d10n2_28) rfl (XS.i2b X0.here hx rfl (hb hby d10n2_30) rfl kk)))))))) ?_
  show own_Fin _ _ _ _ _ _ _ (s₁.setTop (mkF m 31 #[.val (.ref ca), .val (.int (0 : Int32)), .val (.ref ba), .val (.int (0 : Int32)), .val (.int (2 : Int32)), .val (.int (0 : Int32)), .val (.int c0)] [(.int (Int8.toInt32 (Int32.toInt8 c0))), (.int (0 : Int32)), (.ref ba)]))
  refine own_stB X0 hx hZ e0 VB (by decide) (by show (0 : Int32).toNatClampNeg < 2; decide) (hb hby d10n2_31) (own_narB h_c0) ?_
  intro T1 h1 X1 e1 W1 A1
  have f2 := VC.other W1 ncb
  have Z1 := Nat.le_trans Z0 (Keep.of_wr W1).1
  have K1 := (Keep.refl h0 [ba]).wr W1 (Or.inl (List.mem_of_getElem? (i := 0) rfl))
  have A1 : own_Ar Z h1 ba .byte (List.map Value.int [(Int8.toInt32 (Int32.toInt8 c0)), (0 : Int32)]) := A1
  have N1 := Fr.snoc X1 N0 g_ba
  show own_Fin _ _ _ _ _ _ _ (T1.setTop (mkF m 32 #[.val (.ref ca), .val (.int (0 : Int32)), .val (.ref ba), .val (.int (0 : Int32)), .val (.int (2 : Int32)), .val (.int (0 : Int32)), .val (.int c0)] []))
  refine own_go (fun _ kk => XS.iinc X1.here hx rfl (hb hby d10n2_32) rfl (l' := #[.val (.ref ca), .val (.int (1 : Int32)), .val (.ref ba), .val (.int (0 : Int32)), .val (.int (2 : Int32)), .val (.int (0 : Int32)), .val (.int c0)]) rfl (XS.iinc X1.here hx rfl (hb hby d10n2_35) rfl (l' := #[.val (.ref ca), .val (.int (1 : Int32)), .val (.ref ba), .val (.int (1 : Int32)), .val (.int (2 : Int32)), .val (.int (0 : Int32)), .val (.int c0)]) rfl (XS.iinc X1.here hx rfl (hb hby d10n2_38) rfl (l' := #[.val (.ref ca), .val (.int (1 : Int32)), .val (.ref ba), .val (.int (1 : Int32)), .val (.int (2 : Int32)), .val (.int (1 : Int32)), .val (.int c0)]) rfl (XS.goto X1.here hx rfl (pc0 := 41) (pc' := 3) rfl (hb hby d10n2_41) (by decide) (by decide) (XS.iload X1.here hx rfl (hb hby d10n2_3) rfl (XS.iload X1.here hx rfl (hb hby d10n2_5) rfl (XS.icmpNo X1.here hx rfl (hb hby d10n2_7) rfl (XT.ii_ge_f (by decide)) (XS.aloadN X1.here hx rfl (hb hby d10n2_10) rfl rfl (XS.iloadN X1.here hx rfl (hb hby d10n2_11) rfl kk))))))))) ?_
  show own_Fin _ _ _ _ _ _ _ (T1.setTop (mkF m 12 #[.val (.ref ca), .val (.int (1 : Int32)), .val (.ref ba), .val (.int (1 : Int32)), .val (.int (2 : Int32)), .val (.int (1 : Int32)), .val (.int c0)] [(.int (1 : Int32)), (.ref ca)]))
  refine own_ldC X1 hx hZ e1 f2 (by decide) (by show (1 : Int32).toNatClampNeg < 2; decide) (hb hby d10n2_12) ?_
  show own_Fin _ _ _ _ _ _ _ (T1.setTop (mkF m 13 #[.val (.ref ca), .val (.int (1 : Int32)), .val (.ref ba), .val (.int (1 : Int32)), .val (.int (2 : Int32)), .val (.int (1 : Int32)), .val (.int c0)] [(.int c1)]))
  refine own_go (fun _ kk => XS.istore X1.here hx rfl (hb hby d10n2_13) rfl (l' := #[.val (.ref ca), .val (.int (1 : Int32)), .val (.ref ba), .val (.int (1 : Int32)), .val (.int (2 : Int32)), .val (.int (1 : Int32)), .val (.int c1)]) rfl (XS.iload X1.here hx rfl (hb hby d10n2_15) rfl (XS.sipush X1.here hx rfl (hb hby d10n2_17) (XS.icmpYes X1.here hx rfl (pc0 := 20) (pc' := 26) rfl (hb hby d10n2_20) rfl (XT.ii_le_t h_c1.2) (by decide) (by decide) (XS.aloadN X1.here hx rfl (hb hby d10n2_26) rfl rfl (XS.iloadN X1.here hx rfl (hb hby d10n2_27) rfl (XS.iload X1.here hx rfl (hb hby d10n2_28) rfl (XS.i2b X1.here hx rfl (hb hby d10n2_30) rfl kk)))))))) ?_
  show own_Fin _ _ _ _ _ _ _ (T1.setTop (mkF m 31 #[.val (.ref ca), .val (.int (1 : Int32)), .val (.ref ba), .val (.int (1 : Int32)), .val (.int (2 : Int32)), .val (.int (1 : Int32)), .val (.int c1)] [(.int (Int8.toInt32 (Int32.toInt8 c1))), (.int (1 : Int32)), (.ref ba)]))
  refine own_stB X1 hx hZ e1 A1 (by decide) (by show (1 : Int32).toNatClampNeg < 2; decide) (hb hby d10n2_31) (own_narB h_c1) ?_
  intro T4 h4 X4 e4 W4 A4
  have f5 := f2.other W4 ncb
  have Z4 := Nat.le_trans Z1 (Keep.of_wr W4).1
  have K4 := K1.wr W4 (Or.inl (List.mem_of_getElem? (i := 0) rfl))
  have A4 : own_Ar Z h4 ba .byte (List.map Value.int [(Int8.toInt32 (Int32.toInt8 c0)), (Int8.toInt32 (Int32.toInt8 c1))]) := A4
  have N4 := Fr.snoc X4 N1 g_ba
  show own_Fin _ _ _ _ _ _ _ (T4.setTop (mkF m 32 #[.val (.ref ca), .val (.int (1 : Int32)), .val (.ref ba), .val (.int (1 : Int32)), .val (.int (2 : Int32)), .val (.int (1 : Int32)), .val (.int c1)] []))
  refine own_go (fun _ kk => XS.iinc X4.here hx rfl (hb hby d10n2_32) rfl (l' := #[.val (.ref ca), .val (.int (2 : Int32)), .val (.ref ba), .val (.int (1 : Int32)), .val (.int (2 : Int32)), .val (.int (1 : Int32)), .val (.int c1)]) rfl (XS.iinc X4.here hx rfl (hb hby d10n2_35) rfl (l' := #[.val (.ref ca), .val (.int (2 : Int32)), .val (.ref ba), .val (.int (2 : Int32)), .val (.int (2 : Int32)), .val (.int (1 : Int32)), .val (.int c1)]) rfl (XS.iinc X4.here hx rfl (hb hby d10n2_38) rfl (l' := #[.val (.ref ca), .val (.int (2 : Int32)), .val (.ref ba), .val (.int (2 : Int32)), .val (.int (2 : Int32)), .val (.int (2 : Int32)), .val (.int c1)]) rfl (XS.goto X4.here hx rfl (pc0 := 41) (pc' := 3) rfl (hb hby d10n2_41) (by decide) (by decide) (XS.iload X4.here hx rfl (hb hby d10n2_3) rfl (XS.iload X4.here hx rfl (hb hby d10n2_5) rfl (XS.icmpYes X4.here hx rfl (pc0 := 7) (pc' := 44) rfl (hb hby d10n2_7) rfl (XT.ii_ge_t (by decide)) (by decide) (by decide) (XS.iload X4.here hx rfl (hb hby d10n2_44) rfl kk)))))))) ?_
  show own_Fin _ _ _ _ _ _ _ (T4.setTop (mkF m 46 #[.val (.ref ca), .val (.int (2 : Int32)), .val (.ref ba), .val (.int (2 : Int32)), .val (.int (2 : Int32)), .val (.int (2 : Int32)), .val (.int c1)] [(.int (2 : Int32))]))
  exact own_retI X4 hx hlk hret (hb hby d10n2_46) (by decide) (by decide) (by rw [e4]; exact ⟨rfl, N4, K4, A4⟩)

theorem d9n2_0 : decode jdk_52_method_16_code 0 = .ok (.iload_n 2, 1) := by decide +kernel
theorem d9n2_1 : decode jdk_52_method_16_code 1 = .ok (.newarray .byte, 2) := by decide +kernel
theorem d9n2_3 : decode jdk_52_method_16_code 3 = .ok (.astore_n 3, 1) := by decide +kernel
theorem d9n2_4 : decode jdk_52_method_16_code 4 = .ok (.aload_n 0, 1) := by decide +kernel
theorem d9n2_5 : decode jdk_52_method_16_code 5 = .ok (.iload_n 1, 1) := by decide +kernel
theorem d9n2_6 : decode jdk_52_method_16_code 6 = .ok (.aload_n 3, 1) := by decide +kernel
theorem d9n2_7 : decode jdk_52_method_16_code 7 = .ok (.iconst 0, 1) := by decide +kernel
theorem d9n2_8 : decode jdk_52_method_16_code 8 = .ok (.iload_n 2, 1) := by decide +kernel
theorem d9n2_9 : decode jdk_52_method_16_code 9 = .ok (.invokestatic 115, 3) := by decide +kernel
theorem d9n2_12 : decode jdk_52_method_16_code 12 = .ok (.istore 4, 2) := by decide +kernel
theorem d9n2_14 : decode jdk_52_method_16_code 14 = .ok (.iload 4, 2) := by decide +kernel
theorem d9n2_16 : decode jdk_52_method_16_code 16 = .ok (.iload_n 2, 1) := by decide +kernel
theorem d9n2_17 : decode jdk_52_method_16_code 17 = .ok (.if_icmp .eq 40, 3) := by decide +kernel
theorem d9n2_57 : decode jdk_52_method_16_code 57 = .ok (.aload_n 3, 1) := by decide +kernel
theorem d9n2_58 : decode jdk_52_method_16_code 58 = .ok (.areturn, 1) := by decide +kernel
theorem pd_9n2_0 : parseMethodDescriptor "([CI[BII)I" = some ⟨[(.array .char), .int, (.array .byte), .int, .int], some .int⟩ := by decide +kernel
theorem pn_9n2 : plainFor (⟨"java/lang/StringUTF16", "compress", "([CII)[B"⟩ : MethodName) = true := plainFor_of_name (by show plainName "java/lang/StringUTF16" = true; first | (simp [plainName, overriddenIn]; done) | decide +kernel)
theorem ef_9n2 (m : MethodId) (x0 : Addr) (x1 : Int32) (x2 : Int32) : entryFrame m #[(.ref x0), (.int x1), (.int x2)] 6 = mkF m 0 #[.val (.ref x0), .val (.int x1), .val (.int x2), .unset, .unset, .unset] [] := by first | (simp [entryFrame, mkF, argsToLocals, Value.category]; done) | rfl
set_option maxRecDepth 65536 in
set_option maxHeartbeats 40000000 in
theorem rm9n2 (l : Launch) (Z : State) (a0 : Array Value) (hw : ∀ d ∈ tables_1, d.before a0 Z = true) (ca : Addr) (h0 : Heap) (n0 : Nat) (Z0 : n0 ≤ h0.size) (c0 : Int32) (c1 : Int32) (h_c0 : own_ch c0) (h_c1 : own_ch c1) (VC : own_Ar Z h0 ca .char (List.map Value.int [c0, c1])) :
    own_Met l (⟨"java/lang/StringUTF16", "compress", "([CII)[B"⟩ : MethodName) jdk_52_method_16_code 6 (some (.array .byte)) ({ frames := 1, cells := 1, slots := 2, locals := 18 } : Room) Z [] #[(.ref ca), (.int (0 : Int32)), (.int (2 : Int32))] h0 (own_Q9 Z [(Int8.toInt32 (Int32.toInt8 c0)), (Int8.toInt32 (Int32.toInt8 c1))] h0 n0) := by
  refine own_enter pn_9n2 ?_
  intro p e s m below meth c s₁ hx hby hml hown hnm hret hlk hZ e0 X0
  rw [ef_9n2]
  have N0 := Fr.nil n0
  show own_Fin _ _ _ _ _ _ _ (s₁.setTop (mkF m 0 #[.val (.ref ca), .val (.int (0 : Int32)), .val (.int (2 : Int32)), .unset, .unset, .unset] []))
  refine own_go (fun _ kk => XS.iloadN X0.here hx rfl (hb hby d9n2_0) rfl kk) ?_
  show own_Fin _ _ _ _ _ _ _ (s₁.setTop (mkF m 1 #[.val (.ref ca), .val (.int (0 : Int32)), .val (.int (2 : Int32)), .unset, .unset, .unset] [(.int (2 : Int32))]))
  refine own_newB X0 hx hZ (hw _ (List.mem_of_getElem? (i := 19) rfl)) e0 (hb hby d9n2_1) (by decide) (cap := 2) (by decide) (by decide) (by decide) (by decide) ?_
  intro T1 h1 b1 g1 X1 e1 E1 A1 D1
  have g_b1 : n0 ≤ b1 := Nat.le_trans Z0 (Nat.le_of_eq g1.symm)
  have ne_ca_b1 : ca ≠ b1 := Nat.ne_of_lt (Nat.lt_of_lt_of_le VC.lt (Nat.le_of_eq g1.symm))
  have f2 := VC.ext E1
  have Z1 := Nat.le_trans Z0 E1.1
  have sz_b1 : h0.size ≤ b1 := Nat.le_trans (Keep.refl h0 []).1 (Nat.le_of_eq g1.symm)
  have K1 := (Keep.refl h0 []).ext E1
  have A1 : own_Ar Z h1 b1 .byte (List.map Value.int [(0 : Int32), (0 : Int32)]) := A1
  show own_Fin _ _ _ _ _ _ _ (T1.setTop (mkF m 3 #[.val (.ref ca), .val (.int (0 : Int32)), .val (.int (2 : Int32)), .unset, .unset, .unset] [(.ref b1)]))
  refine own_go (fun _ kk => XS.astoreN X1.here hx rfl (hb hby d9n2_3) rfl rfl (l' := #[.val (.ref ca), .val (.int (0 : Int32)), .val (.int (2 : Int32)), .val (.ref b1), .unset, .unset]) rfl (XS.aloadN X1.here hx rfl (hb hby d9n2_4) rfl rfl (XS.iloadN X1.here hx rfl (hb hby d9n2_5) rfl (XS.aloadN X1.here hx rfl (hb hby d9n2_6) rfl rfl (XS.iconst X1.here hx rfl (hb hby d9n2_7) (XS.iloadN X1.here hx rfl (hb hby d9n2_8) rfl kk)))))) ?_
  show own_Fin _ _ _ _ _ _ _ (T1.setTop (mkF m 9 #[.val (.ref ca), .val (.int (0 : Int32)), .val (.int (2 : Int32)), .val (.ref b1), .unset, .unset] [(.int (2 : Int32)), (.int (0 : Int32)), (.ref b1), (.int (0 : Int32)), (.ref ca)]))
  refine own_callS X1 hx hZ hown (hw _ (List.mem_of_getElem? (i := 74) rfl)) (hw _ (List.mem_of_getElem? (i := 75) rfl)) (hw _ (List.mem_of_getElem? (i := 72) rfl)) (hw _ (List.mem_of_getElem? (i := 76) rfl)) (by decide) (rm10n2 l Z a0 hw ca b1 h1 n0 Z1 c0 c1 h_c0 h_c1 f2 A1 ne_ca_b1 g_b1) e1 (argsL := [(.ref ca), (.int (0 : Int32)), (.ref b1), (.int (0 : Int32)), (.int (2 : Int32))]) (rest := []) rfl rfl (by rw [hml]; rfl) (lenOf pd_9n2_0 rfl) (hb hby d9n2_9) (W := 0) (Nat.le_of_eq rfl) (by decide) (by decide) (by decide) (by decide) ?_
  rintro v3 T3 L3 X3 ⟨rfl, M3, Kc3, Vb3⟩
  have N3 := Fr.app N0 M3
  have f4 := f2.keep Kc3 (ninS ne_ca_b1 nin0)
  have f5 := D1.keep Kc3
  have Z3 := Nat.le_trans Z1 Kc3.1
  have K3 := K1.trans Kc3 (allS (Or.inr sz_b1) all0)
  show own_Fin _ _ _ _ _ _ _ (T3.setTop (mkF m 12 #[.val (.ref ca), .val (.int (0 : Int32)), .val (.int (2 : Int32)), .val (.ref b1), .unset, .unset] [(.int (2 : Int32))]))
  refine own_go (fun _ kk => XS.istore X3.here hx rfl (hb hby d9n2_12) rfl (l' := #[.val (.ref ca), .val (.int (0 : Int32)), .val (.int (2 : Int32)), .val (.ref b1), .val (.int (2 : Int32)), .unset]) rfl (XS.iload X3.here hx rfl (hb hby d9n2_14) rfl (XS.iloadN X3.here hx rfl (hb hby d9n2_16) rfl (XS.icmpYes X3.here hx rfl (pc0 := 17) (pc' := 57) rfl (hb hby d9n2_17) rfl (XT.ii_eq_t (by decide)) (by decide) (by decide) (XS.aloadN X3.here hx rfl (hb hby d9n2_57) rfl rfl kk))))) ?_
  show own_Fin _ _ _ _ _ _ _ (T3.setTop (mkF m 58 #[.val (.ref ca), .val (.int (0 : Int32)), .val (.int (2 : Int32)), .val (.ref b1), .val (.int (2 : Int32)), .unset] [(.ref b1)]))
  exact own_retA X3 hx hlk hret rfl rfl (hb hby d9n2_58) (by decide) (by decide) ⟨b1, rfl, N3, K3, sz_b1, Vb3⟩

theorem d11n2_0 : decode jdk_52_method_15_code 0 = .ok (.iload_n 1, 1) := by decide +kernel
theorem d11n2_1 : decode jdk_52_method_15_code 1 = .ok (.aload_n 0, 1) := by decide +kernel
theorem d11n2_2 : decode jdk_52_method_15_code 2 = .ok (.arraylength, 1) := by decide +kernel
theorem d11n2_3 : decode jdk_52_method_15_code 3 = .ok (.isub, 1) := by decide +kernel
theorem d11n2_4 : decode jdk_52_method_15_code 4 = .ok (.bipush 31, 2) := by decide +kernel
theorem d11n2_6 : decode jdk_52_method_15_code 6 = .ok (.iushr, 1) := by decide +kernel
theorem d11n2_7 : decode jdk_52_method_15_code 7 = .ok (.i2b, 1) := by decide +kernel
theorem d11n2_8 : decode jdk_52_method_15_code 8 = .ok (.ireturn, 1) := by decide +kernel
theorem pn_11n2 : plainFor (⟨"java/lang/StringUTF16", "coderFromArrayLen", "([BI)B"⟩ : MethodName) = true := plainFor_of_name (by show plainName "java/lang/StringUTF16" = true; first | (simp [plainName, overriddenIn]; done) | decide +kernel)
theorem ef_11n2 (m : MethodId) (x0 : Addr) (x1 : Int32) : entryFrame m #[(.ref x0), (.int x1)] 2 = mkF m 0 #[.val (.ref x0), .val (.int x1)] [] := by first | (simp [entryFrame, mkF, argsToLocals, Value.category]; done) | rfl
set_option maxRecDepth 65536 in
set_option maxHeartbeats 40000000 in
theorem rm11n2 (l : Launch) (Z : State) (a0 : Array Value) (hw : ∀ d ∈ tables_1, d.before a0 Z = true) (ba : Addr) (h0 : Heap) (n0 : Nat) (Z0 : n0 ≤ h0.size) (x0 : Int32) (x1 : Int32) (VB : own_Ar Z h0 ba .byte (List.map Value.int [x0, x1])) :
    own_Met l (⟨"java/lang/StringUTF16", "coderFromArrayLen", "([BI)B"⟩ : MethodName) jdk_52_method_15_code 2 (some .byte) ({ frames := 0, cells := 0, slots := 0, locals := 0 } : Room) Z [] #[(.ref ba), (.int (2 : Int32))] h0 (own_P (some (.int (0 : Int32))) h0 n0) := by
  refine own_enter pn_11n2 ?_
  intro p e s m below meth c s₁ hx hby hml hown hnm hret hlk hZ e0 X0
  rw [ef_11n2]
  have N0 := Fr.nil n0
  show own_Fin _ _ _ _ _ _ _ (s₁.setTop (mkF m 0 #[.val (.ref ba), .val (.int (2 : Int32))] []))
  refine own_go (fun _ kk => XS.iloadN X0.here hx rfl (hb hby d11n2_0) rfl (XS.aloadN X0.here hx rfl (hb hby d11n2_1) rfl rfl kk)) ?_
  show own_Fin _ _ _ _ _ _ _ (s₁.setTop (mkF m 2 #[.val (.ref ba), .val (.int (2 : Int32))] [(.ref ba), (.int (2 : Int32))]))
  refine own_alen X0 hx hZ e0 VB (hb hby d11n2_2) ?_
  show own_Fin _ _ _ _ _ _ _ (s₁.setTop (mkF m 3 #[.val (.ref ba), .val (.int (2 : Int32))] [(.int (2 : Int32)), (.int (2 : Int32))]))
  refine own_go (fun _ kk => XS.isub X0.here hx rfl (hb hby d11n2_3) rfl (XS.bipush X0.here hx rfl (hb hby d11n2_4) (XS.iushr X0.here hx rfl (hb hby d11n2_6) rfl (XS.i2b X0.here hx rfl (hb hby d11n2_7) rfl kk)))) ?_
  show own_Fin _ _ _ _ _ _ _ (s₁.setTop (mkF m 8 #[.val (.ref ba), .val (.int (2 : Int32))] [(.int (Int8.toInt32 (Int32.toInt8 (((0 : Int32).toUInt32 >>> ((31 : Int32) &&& 31).toUInt32).toInt32))))]))
  exact own_retB X0 hx hlk hret (by decide) (hb hby d11n2_8) (by decide) (by decide) ⟨congrArg (fun z => some (Value.int z)) (by decide), N0, e0⟩

theorem d3n2_0 : decode jdk_42_method_149_code 0 = .ok (.aload_n 0, 1) := by decide +kernel
theorem d3n2_1 : decode jdk_42_method_149_code 1 = .ok (.invokespecial 1, 3) := by decide +kernel
theorem d3n2_4 : decode jdk_42_method_149_code 4 = .ok (.iload_n 3, 1) := by decide +kernel
theorem d3n2_5 : decode jdk_42_method_149_code 5 = .ok (.ifCond .ne 22, 3) := by decide +kernel
theorem d3n2_27 : decode jdk_42_method_149_code 27 = .ok (.getstatic 38, 3) := by decide +kernel
theorem d3n2_30 : decode jdk_42_method_149_code 30 = .ok (.ifCond .eq 28, 3) := by decide +kernel
theorem d3n2_33 : decode jdk_42_method_149_code 33 = .ok (.aload_n 1, 1) := by decide +kernel
theorem d3n2_34 : decode jdk_42_method_149_code 34 = .ok (.iload_n 2, 1) := by decide +kernel
theorem d3n2_35 : decode jdk_42_method_149_code 35 = .ok (.iload_n 3, 1) := by decide +kernel
theorem d3n2_36 : decode jdk_42_method_149_code 36 = .ok (.invokestatic 177, 3) := by decide +kernel
theorem d3n2_39 : decode jdk_42_method_149_code 39 = .ok (.astore 5, 2) := by decide +kernel
theorem d3n2_41 : decode jdk_42_method_149_code 41 = .ok (.aload_n 0, 1) := by decide +kernel
theorem d3n2_42 : decode jdk_42_method_149_code 42 = .ok (.aload 5, 2) := by decide +kernel
theorem d3n2_44 : decode jdk_42_method_149_code 44 = .ok (.iload_n 3, 1) := by decide +kernel
theorem d3n2_45 : decode jdk_42_method_149_code 45 = .ok (.invokestatic 47, 3) := by decide +kernel
theorem d3n2_48 : decode jdk_42_method_149_code 48 = .ok (.putfield 15, 3) := by decide +kernel
theorem d3n2_51 : decode jdk_42_method_149_code 51 = .ok (.aload_n 0, 1) := by decide +kernel
theorem d3n2_52 : decode jdk_42_method_149_code 52 = .ok (.aload 5, 2) := by decide +kernel
theorem d3n2_54 : decode jdk_42_method_149_code 54 = .ok (.putfield 9, 3) := by decide +kernel
theorem d3n2_57 : decode jdk_42_method_149_code 57 = .ok (.return_, 1) := by decide +kernel
theorem pd_3n2_0 : parseMethodDescriptor "([CII)[B" = some ⟨[(.array .char), .int, .int], some (.array .byte)⟩ := by decide +kernel
theorem pd_3n2_1 : parseMethodDescriptor "([BI)B" = some ⟨[(.array .byte), .int], some .byte⟩ := by decide +kernel
theorem pn_3n2 : plainFor (⟨"java/lang/String", "<init>", "([CIILjava/lang/Void;)V"⟩ : MethodName) = true := plainFor_of_name (by show plainName "java/lang/String" = true; first | (simp [plainName, overriddenIn]; done) | decide +kernel)
theorem ef_3n2 (m : MethodId) (x0 : Addr) (x1 : Addr) (x2 : Int32) (x3 : Int32) : entryFrame m #[(.ref x0), (.ref x1), (.int x2), (.int x3), .null] 6 = mkF m 0 #[.val (.ref x0), .val (.ref x1), .val (.int x2), .val (.int x3), .val .null, .unset] [] := by first | (simp [entryFrame, mkF, argsToLocals, Value.category]; done) | rfl
set_option maxRecDepth 65536 in
set_option maxHeartbeats 40000000 in
theorem rm3n2 (l : Launch) (Z : State) (a0 : Array Value) (hw : ∀ d ∈ tables_1, d.before a0 Z = true) (t0 : Addr) (ca : Addr) (h0 : Heap) (n0 : Nat) (Z0 : n0 ≤ h0.size) (c0 : Int32) (c1 : Int32) (h_c0 : own_ch c0) (h_c1 : own_ch c1) (cs : Int32) (S_cs : Sta Z Z.heap "java/lang/String" "COMPACT_STRINGS" "Z" (.int cs)) (hcs : ¬ cs = 0) (O0 : Old Z n0 h0) (E_t0 : Exa Z h0 t0 "java/lang/String") (F_value : Fld Z h0 t0 "java/lang/String" "value" "[B" .null) (F_coder : Fld Z h0 t0 "java/lang/String" "coder" "B" (.int (0 : Int32))) (g_t0 : n0 ≤ t0) (n0c : ca ≠ t0) (VC : own_Ar Z h0 ca .char (List.map Value.int [c0, c1])) :
    own_Met l (⟨"java/lang/String", "<init>", "([CIILjava/lang/Void;)V"⟩ : MethodName) jdk_42_method_149_code 6 none ({ frames := 2, cells := 1, slots := 2, locals := 35 } : Room) Z [] #[(.ref t0), (.ref ca), (.int (0 : Int32)), (.int (2 : Int32)), .null] h0 (own_Q3 Z t0 [(Int8.toInt32 (Int32.toInt8 c0)), (Int8.toInt32 (Int32.toInt8 c1))] h0 n0) := by
  refine own_enter pn_3n2 ?_
  intro p e s m below meth c s₁ hx hby hml hown hnm hret hlk hZ e0 X0
  rw [ef_3n2]
  have N0 := Fr.nil n0
  show own_Fin _ _ _ _ _ _ _ (s₁.setTop (mkF m 0 #[.val (.ref t0), .val (.ref ca), .val (.int (0 : Int32)), .val (.int (2 : Int32)), .val .null, .unset] []))
  refine own_go (fun _ kk => XS.aloadN X0.here hx rfl (hb hby d3n2_0) rfl rfl kk) ?_
  show own_Fin _ _ _ _ _ _ _ (s₁.setTop (mkF m 1 #[.val (.ref t0), .val (.ref ca), .val (.int (0 : Int32)), .val (.int (2 : Int32)), .val .null, .unset] [(.ref t0)]))
  refine own_initO X0 hx hZ hown (hw _ (List.mem_of_getElem? (i := 15) rfl)) (hw _ (List.mem_of_getElem? (i := 16) rfl)) (hw _ (List.mem_of_getElem? (i := 17) rfl)) e0 (by rw [hml]; rfl) (hb hby d3n2_1) (by decide) (W := 0) (Nat.le_of_eq rfl) (by decide) ?_
  intro T1 X1 e1
  show own_Fin _ _ _ _ _ _ _ (T1.setTop (mkF m 4 #[.val (.ref t0), .val (.ref ca), .val (.int (0 : Int32)), .val (.int (2 : Int32)), .val .null, .unset] []))
  refine own_go (fun _ kk => XS.iloadN X1.here hx rfl (hb hby d3n2_4) rfl (XS.ifYes X1.here hx rfl (pc0 := 5) (pc' := 27) rfl (hb hby d3n2_5) rfl (XT.i0_ne_t (by decide)) (by decide) (by decide) kk)) ?_
  show own_Fin _ _ _ _ _ _ _ (T1.setTop (mkF m 27 #[.val (.ref t0), .val (.ref ca), .val (.int (0 : Int32)), .val (.int (2 : Int32)), .val .null, .unset] []))
  refine own_getS X1 hx hZ hown (host := "") (Or.inl (hw _ (List.mem_of_getElem? (i := 69) rfl))) Via.refl e1 (S_cs.ext O0.2) (hb hby d3n2_27) ?_
  intro T2 X2 e2
  show own_Fin _ _ _ _ _ _ _ (T2.setTop (mkF m 30 #[.val (.ref t0), .val (.ref ca), .val (.int (0 : Int32)), .val (.int (2 : Int32)), .val .null, .unset] [(.int cs)]))
  refine own_go (fun _ kk => XS.ifNo X2.here hx rfl (hb hby d3n2_30) rfl (XT.i0_eq_f hcs) (XS.aloadN X2.here hx rfl (hb hby d3n2_33) rfl rfl (XS.iloadN X2.here hx rfl (hb hby d3n2_34) rfl (XS.iloadN X2.here hx rfl (hb hby d3n2_35) rfl kk)))) ?_
  show own_Fin _ _ _ _ _ _ _ (T2.setTop (mkF m 36 #[.val (.ref t0), .val (.ref ca), .val (.int (0 : Int32)), .val (.int (2 : Int32)), .val .null, .unset] [(.int (2 : Int32)), (.int (0 : Int32)), (.ref ca)]))
  refine own_callS X2 hx hZ hown (hw _ (List.mem_of_getElem? (i := 70) rfl)) (hw _ (List.mem_of_getElem? (i := 71) rfl)) (hw _ (List.mem_of_getElem? (i := 72) rfl)) (hw _ (List.mem_of_getElem? (i := 73) rfl)) (by decide) (rm9n2 l Z a0 hw ca h0 n0 Z0 c0 c1 h_c0 h_c1 VC) e2 (argsL := [(.ref ca), (.int (0 : Int32)), (.int (2 : Int32))]) (rest := []) rfl rfl (by rw [hml]; rfl) (lenOf pd_3n2_0 rfl) (hb hby d3n2_36) (W := 0) (Nat.le_of_eq rfl) (by decide) (by decide) (by decide) (by decide) ?_
  rintro v3 T3 L3 X3 ⟨bb3, rfl, M3, Kc3, szb3, Vb3⟩
  have N3 := Fr.app N0 M3
  have g_bb3 : n0 ≤ bb3 := Nat.le_trans Z0 szb3
  have ne_t0_bb3 : t0 ≠ bb3 := Nat.ne_of_lt (Nat.lt_of_lt_of_le E_t0.lt szb3)
  have ne_ca_bb3 : ca ≠ bb3 := Nat.ne_of_lt (Nat.lt_of_lt_of_le VC.lt szb3)
  have szh_bb3 : h0.size ≤ bb3 := Nat.le_trans (Keep.refl h0 [t0]).1 szb3
  have f4 := O0.keep Kc3 all0
  have f5 := E_t0.keep Kc3
  have f6 := F_value.keep Kc3 nin0
  have f7 := F_coder.keep Kc3 nin0
  have f8 := VC.keep Kc3 nin0
  have Z3 := Nat.le_trans Z0 Kc3.1
  have K3 := (Keep.refl h0 [t0]).trans Kc3 all0
  show own_Fin _ _ _ _ _ _ _ (T3.setTop (mkF m 39 #[.val (.ref t0), .val (.ref ca), .val (.int (0 : Int32)), .val (.int (2 : Int32)), .val .null, .unset] [(.ref bb3)]))
  refine own_go (fun _ kk => XS.astore X3.here hx rfl (hb hby d3n2_39) rfl rfl (l' := #[.val (.ref t0), .val (.ref ca), .val (.int (0 : Int32)), .val (.int (2 : Int32)), .val .null, .val (.ref bb3)]) rfl (XS.aloadN X3.here hx rfl (hb hby d3n2_41) rfl rfl (XS.aload X3.here hx rfl (hb hby d3n2_42) rfl rfl (XS.iloadN X3.here hx rfl (hb hby d3n2_44) rfl kk)))) ?_
  show own_Fin _ _ _ _ _ _ _ (T3.setTop (mkF m 45 #[.val (.ref t0), .val (.ref ca), .val (.int (0 : Int32)), .val (.int (2 : Int32)), .val .null, .val (.ref bb3)] [(.int (2 : Int32)), (.ref bb3), (.ref t0)]))
  refine own_callS X3 hx hZ hown (hw _ (List.mem_of_getElem? (i := 77) rfl)) (hw _ (List.mem_of_getElem? (i := 78) rfl)) (hw _ (List.mem_of_getElem? (i := 72) rfl)) (hw _ (List.mem_of_getElem? (i := 79) rfl)) (by decide) (rm11n2 l Z a0 hw bb3 T3.heap n0 Z3 (Int8.toInt32 (Int32.toInt8 c0)) (Int8.toInt32 (Int32.toInt8 c1)) Vb3) rfl (argsL := [(.ref bb3), (.int (2 : Int32))]) (rest := [(.ref t0)]) rfl rfl (by rw [hml]; rfl) (lenOf pd_3n2_1 rfl) (hb hby d3n2_45) (W := 1) (Nat.le_of_eq rfl) (by decide) (by decide) (by decide) (by decide) ?_
  rintro v9 T9 L9 X9 ⟨rfl, M9, e9⟩
  have N9 := Fr.app N3 M9
  show own_Fin _ _ _ _ _ _ _ (T9.setTop (mkF m 48 #[.val (.ref t0), .val (.ref ca), .val (.int (0 : Int32)), .val (.int (2 : Int32)), .val .null, .val (.ref bb3)] [(.int (0 : Int32)), (.ref t0)]))
  refine own_putF X9 hx hZ hown (host := "") (Or.inl (hw _ (List.mem_of_getElem? (i := 25) rfl))) Via.refl e9 f7 f5 (Or.inr ⟨(hw _ (List.mem_of_getElem? (i := 21) rfl)), rfl, hnm⟩) (hw _ (List.mem_of_getElem? (i := 5) rfl)) (ty := .byte) (by decide) rfl rfl (hb hby d3n2_48) ?_
  intro T10 h10 X10 e10 W10
  have f11 := f4.wr W10 g_t0
  have f12 := f5.wr W10
  have f13 := f6.other W10 (Or.inr (slot_ne (Or.inr (hw _ (List.mem_of_getElem? (i := 20) rfl))) (Or.inr (hw _ (List.mem_of_getElem? (i := 21) rfl))) (by decide) (t := (.array .byte)) (t' := .byte) (by decide) (by decide)))
  have f15 := f8.other W10 n0c
  have f16 := Vb3.other W10 (Ne.symm ne_t0_bb3)
  have Z10 := Nat.le_trans Z3 (Keep.of_wr W10).1
  have K10 := K3.wr W10 (Or.inl (List.mem_of_getElem? (i := 0) rfl))
  have f17 := f7.same W10
  have N10 := Fr.snoc X10 N9 g_t0
  show own_Fin _ _ _ _ _ _ _ (T10.setTop (mkF m 51 #[.val (.ref t0), .val (.ref ca), .val (.int (0 : Int32)), .val (.int (2 : Int32)), .val .null, .val (.ref bb3)] []))
  refine own_go (fun _ kk => XS.aloadN X10.here hx rfl (hb hby d3n2_51) rfl rfl (XS.aload X10.here hx rfl (hb hby d3n2_52) rfl rfl kk)) ?_
  show own_Fin _ _ _ _ _ _ _ (T10.setTop (mkF m 54 #[.val (.ref t0), .val (.ref ca), .val (.int (0 : Int32)), .val (.int (2 : Int32)), .val .null, .val (.ref bb3)] [(.ref bb3), (.ref t0)]))
  refine own_putF X10 hx hZ hown (host := "") (Or.inl (hw _ (List.mem_of_getElem? (i := 24) rfl))) Via.refl e10 f13 f12 (Or.inr ⟨(hw _ (List.mem_of_getElem? (i := 20) rfl)), rfl, hnm⟩) (hw _ (List.mem_of_getElem? (i := 5) rfl)) (ty := (.array .byte)) (by decide) rfl rfl (hb hby d3n2_54) ?_
  intro T18 h18 X18 e18 W18
  have f19 := f11.wr W18 g_t0
  have f20 := f12.wr W18
  have f22 := f17.other W18 (Or.inr (slot_ne (Or.inr (hw _ (List.mem_of_getElem? (i := 21) rfl))) (Or.inr (hw _ (List.mem_of_getElem? (i := 20) rfl))) (by decide) (t := .byte) (t' := (.array .byte)) (by decide) (by decide)))
  have f23 := f15.other W18 n0c
  have f24 := f16.other W18 (Ne.symm ne_t0_bb3)
  have Z18 := Nat.le_trans Z10 (Keep.of_wr W18).1
  have K18 := K10.wr W18 (Or.inl (List.mem_of_getElem? (i := 0) rfl))
  have f25 := f13.same W18
  have N18 := Fr.snoc X18 N10 g_t0
  show own_Fin _ _ _ _ _ _ _ (T18.setTop (mkF m 57 #[.val (.ref t0), .val (.ref ca), .val (.int (0 : Int32)), .val (.int (2 : Int32)), .val .null, .val (.ref bb3)] []))
  exact own_retV X18 hx hlk hret (hb hby d3n2_57) (by decide) (by decide) (by rw [e18]; exact ⟨rfl, N18, K18, f22, bb3, f25, f24⟩)

theorem d2n2_0 : decode jdk_42_method_3_code 0 = .ok (.aload_n 0, 1) := by decide +kernel
theorem d2n2_1 : decode jdk_42_method_3_code 1 = .ok (.aload_n 1, 1) := by decide +kernel
theorem d2n2_2 : decode jdk_42_method_3_code 2 = .ok (.iconst 0, 1) := by decide +kernel
theorem d2n2_3 : decode jdk_42_method_3_code 3 = .ok (.aload_n 1, 1) := by decide +kernel
theorem d2n2_4 : decode jdk_42_method_3_code 4 = .ok (.arraylength, 1) := by decide +kernel
theorem d2n2_5 : decode jdk_42_method_3_code 5 = .ok (.aconst_null, 1) := by decide +kernel
theorem d2n2_6 : decode jdk_42_method_3_code 6 = .ok (.invokespecial 27, 3) := by decide +kernel
theorem d2n2_9 : decode jdk_42_method_3_code 9 = .ok (.return_, 1) := by decide +kernel
theorem pd_2n2_0 : parseMethodDescriptor "([CIILjava/lang/Void;)V" = some ⟨[(.array .char), .int, .int, (.object "java/lang/Void")], none⟩ := by decide +kernel
theorem pn_2n2 : plainFor (⟨"java/lang/String", "<init>", "([C)V"⟩ : MethodName) = true := plainFor_of_name (by show plainName "java/lang/String" = true; first | (simp [plainName, overriddenIn]; done) | decide +kernel)
theorem ef_2n2 (m : MethodId) (x0 : Addr) (x1 : Addr) : entryFrame m #[(.ref x0), (.ref x1)] 2 = mkF m 0 #[.val (.ref x0), .val (.ref x1)] [] := by first | (simp [entryFrame, mkF, argsToLocals, Value.category]; done) | rfl
set_option maxRecDepth 65536 in
set_option maxHeartbeats 40000000 in
theorem rm2n2 (l : Launch) (Z : State) (a0 : Array Value) (hw : ∀ d ∈ tables_1, d.before a0 Z = true) (t0 : Addr) (ca : Addr) (h0 : Heap) (n0 : Nat) (Z0 : n0 ≤ h0.size) (c0 : Int32) (c1 : Int32) (h_c0 : own_ch c0) (h_c1 : own_ch c1) (cs : Int32) (S_cs : Sta Z Z.heap "java/lang/String" "COMPACT_STRINGS" "Z" (.int cs)) (hcs : ¬ cs = 0) (O0 : Old Z n0 h0) (E_t0 : Exa Z h0 t0 "java/lang/String") (F_value : Fld Z h0 t0 "java/lang/String" "value" "[B" .null) (F_coder : Fld Z h0 t0 "java/lang/String" "coder" "B" (.int (0 : Int32))) (g_t0 : n0 ≤ t0) (n0c : ca ≠ t0) (VC : own_Ar Z h0 ca .char (List.map Value.int [c0, c1])) :
    own_Met l (⟨"java/lang/String", "<init>", "([C)V"⟩ : MethodName) jdk_42_method_3_code 2 none ({ frames := 3, cells := 1, slots := 2, locals := 52 } : Room) Z [] #[(.ref t0), (.ref ca)] h0 (own_Q3 Z t0 [(Int8.toInt32 (Int32.toInt8 c0)), (Int8.toInt32 (Int32.toInt8 c1))] h0 n0) := by
  refine own_enter pn_2n2 ?_
  intro p e s m below meth c s₁ hx hby hml hown hnm hret hlk hZ e0 X0
  rw [ef_2n2]
  have N0 := Fr.nil n0
  show own_Fin _ _ _ _ _ _ _ (s₁.setTop (mkF m 0 #[.val (.ref t0), .val (.ref ca)] []))
  refine own_go (fun _ kk => XS.aloadN X0.here hx rfl (hb hby d2n2_0) rfl rfl (XS.aloadN X0.here hx rfl (hb hby d2n2_1) rfl rfl (XS.iconst X0.here hx rfl (hb hby d2n2_2) (XS.aloadN X0.here hx rfl (hb hby d2n2_3) rfl rfl kk)))) ?_
  show own_Fin _ _ _ _ _ _ _ (s₁.setTop (mkF m 4 #[.val (.ref t0), .val (.ref ca)] [(.ref ca), (.int (0 : Int32)), (.ref ca), (.ref t0)]))
  refine own_alen X0 hx hZ e0 VC (hb hby d2n2_4) ?_
  show own_Fin _ _ _ _ _ _ _ (s₁.setTop (mkF m 5 #[.val (.ref t0), .val (.ref ca)] [(.int (2 : Int32)), (.int (0 : Int32)), (.ref ca), (.ref t0)]))
  refine own_go (fun _ kk => XS.aconstNull X0.here hx rfl (hb hby d2n2_5) kk) ?_
  show own_Fin _ _ _ _ _ _ _ (s₁.setTop (mkF m 6 #[.val (.ref t0), .val (.ref ca)] [.null, (.int (2 : Int32)), (.int (0 : Int32)), (.ref ca), (.ref t0)]))
  refine own_callN X0 hx hZ rfl hown (hw _ (List.mem_of_getElem? (i := 11) rfl)) (hw _ (List.mem_of_getElem? (i := 12) rfl)) (hw _ (List.mem_of_getElem? (i := 6) rfl)) (hw _ (List.mem_of_getElem? (i := 14) rfl)) (by decide) (rm3n2 l Z a0 hw t0 ca h0 n0 Z0 c0 c1 h_c0 h_c1 cs S_cs hcs O0 E_t0 F_value F_coder g_t0 n0c VC) e0 (a := t0) (argsL := [(.ref ca), (.int (0 : Int32)), (.int (2 : Int32)), .null]) (rest := []) rfl rfl (by rw [hml]; rfl) (lenOf pd_2n2_0 rfl) (hb hby d2n2_6) (W := 0) (Nat.le_of_eq rfl) (by decide) (by decide) (by decide) (by decide) ?_
  rintro v1 T1 L1 X1 ⟨rfl, M1, Kc1, Fc1, bb1, Fv1, Vb1⟩
  have N1 := Fr.app N0 M1
  have f2 := O0.keep Kc1 (allS g_t0 all0)
  have f3 := E_t0.keep Kc1
  have f4 := VC.keep Kc1 (ninS n0c nin0)
  have Z1 := Nat.le_trans Z0 Kc1.1
  have K1 := (Keep.refl h0 [t0]).trans Kc1 (allS (Or.inl (List.mem_of_getElem? (i := 0) rfl)) all0)
  show own_Fin _ _ _ _ _ _ _ (T1.setTop (mkF m 9 #[.val (.ref t0), .val (.ref ca)] []))
  exact own_retV X1 hx hlk hret (hb hby d2n2_9) (by decide) (by decide) ⟨rfl, N1, K1, Fc1, bb1, Fv1, Vb1⟩

theorem d3n0_0 : decode jdk_42_method_149_code 0 = .ok (.aload_n 0, 1) := by decide +kernel
theorem d3n0_1 : decode jdk_42_method_149_code 1 = .ok (.invokespecial 1, 3) := by decide +kernel
theorem d3n0_4 : decode jdk_42_method_149_code 4 = .ok (.iload_n 3, 1) := by decide +kernel
theorem d3n0_5 : decode jdk_42_method_149_code 5 = .ok (.ifCond .ne 22, 3) := by decide +kernel
theorem d3n0_8 : decode jdk_42_method_149_code 8 = .ok (.aload_n 0, 1) := by decide +kernel
theorem d3n0_9 : decode jdk_42_method_149_code 9 = .ok (.ldc 7, 2) := by decide +kernel
theorem d3n0_11 : decode jdk_42_method_149_code 11 = .ok (.getfield 9, 3) := by decide +kernel
theorem d3n0_14 : decode jdk_42_method_149_code 14 = .ok (.putfield 9, 3) := by decide +kernel
theorem d3n0_17 : decode jdk_42_method_149_code 17 = .ok (.aload_n 0, 1) := by decide +kernel
theorem d3n0_18 : decode jdk_42_method_149_code 18 = .ok (.ldc 7, 2) := by decide +kernel
theorem d3n0_20 : decode jdk_42_method_149_code 20 = .ok (.getfield 15, 3) := by decide +kernel
theorem d3n0_23 : decode jdk_42_method_149_code 23 = .ok (.putfield 15, 3) := by decide +kernel
theorem d3n0_26 : decode jdk_42_method_149_code 26 = .ok (.return_, 1) := by decide +kernel
theorem pn_3n0 : plainFor (⟨"java/lang/String", "<init>", "([CIILjava/lang/Void;)V"⟩ : MethodName) = true := plainFor_of_name (by show plainName "java/lang/String" = true; first | (simp [plainName, overriddenIn]; done) | decide +kernel)
theorem ef_3n0 (m : MethodId) (x0 : Addr) (x1 : Addr) (x2 : Int32) (x3 : Int32) : entryFrame m #[(.ref x0), (.ref x1), (.int x2), (.int x3), .null] 6 = mkF m 0 #[.val (.ref x0), .val (.ref x1), .val (.int x2), .val (.int x3), .val .null, .unset] [] := by first | (simp [entryFrame, mkF, argsToLocals, Value.category]; done) | rfl
set_option maxRecDepth 65536 in
set_option maxHeartbeats 40000000 in
theorem rm3n0 (l : Launch) (Z : State) (a0 : Array Value) (hw : ∀ d ∈ tables_1, d.before a0 Z = true) (t0 : Addr) (ca : Addr) (h0 : Heap) (n0 : Nat) (Z0 : n0 ≤ h0.size) (cs : Int32) (S_cs : Sta Z Z.heap "java/lang/String" "COMPACT_STRINGS" "Z" (.int cs)) (hcs : ¬ cs = 0) (O0 : Old Z n0 h0) (E_t0 : Exa Z h0 t0 "java/lang/String") (F_value : Fld Z h0 t0 "java/lang/String" "value" "[B" .null) (F_coder : Fld Z h0 t0 "java/lang/String" "coder" "B" (.int (0 : Int32))) (g_t0 : n0 ≤ t0) (n0c : ca ≠ t0) (VC : own_Ar Z h0 ca .char (List.map Value.int [])) :
    own_MetW l (⟨"java/lang/String", "<init>", "([CIILjava/lang/Void;)V"⟩ : MethodName) jdk_42_method_149_code 6 none ({ frames := 1, cells := 4, slots := 8, locals := 12 } : Room) Z own_EL0 [t0] #[(.ref t0), (.ref ca), (.int (0 : Int32)), (.int (0 : Int32)), .null] h0 (own_Q3 Z t0 [] h0 n0) := by
  refine own_enterW pn_3n0 ?_
  intro p e s m below meth c s₁ hx hby hml hown hnm hret hlk hZ e0 eS HC HSafe X0
  rw [ef_3n0]
  have N0 := Fr.nil n0
  have hS0 := own_since s h0.size
  have hEL : EW Z a0 own_EL0 := EW.cons (hw _ (List.mem_of_getElem? (i := 18) rfl)) (by simp) EW.nil
  have wS : ∀ a ∈ Bundle.stringAtoms, a.before a0 Z = true := by
    intro d hd
    simp only [Bundle.stringAtoms, List.mem_cons, List.not_mem_nil, or_false] at hd
    rcases hd with rfl | rfl | rfl | rfl | rfl | rfl | rfl
    · exact (hw _ (List.mem_of_getElem? (i := 6) rfl))
    · exact (hw _ (List.mem_of_getElem? (i := 5) rfl))
    · exact (hw _ (List.mem_of_getElem? (i := 19) rfl))
    · exact (hw _ (List.mem_of_getElem? (i := 20) rfl))
    · exact (hw _ (List.mem_of_getElem? (i := 21) rfl))
    · exact (hw _ (List.mem_of_getElem? (i := 22) rfl))
    · exact (hw _ (List.mem_of_getElem? (i := 23) rfl))
  show own_FinX _ _ _ _ _ (s₁.setTop (mkF m 0 #[.val (.ref t0), .val (.ref ca), .val (.int (0 : Int32)), .val (.int (0 : Int32)), .val .null, .unset] []))
  refine own_go (fun _ kk => XS.aloadN X0.here hx rfl (hb hby d3n0_0) rfl rfl kk) ?_
  show own_FinX _ _ _ _ _ (s₁.setTop (mkF m 1 #[.val (.ref t0), .val (.ref ca), .val (.int (0 : Int32)), .val (.int (0 : Int32)), .val .null, .unset] [(.ref t0)]))
  refine own_initO X0 hx hZ hown (hw _ (List.mem_of_getElem? (i := 15) rfl)) (hw _ (List.mem_of_getElem? (i := 16) rfl)) (hw _ (List.mem_of_getElem? (i := 17) rfl)) e0 (by rw [hml]; rfl) (hb hby d3n0_1) (by decide) (W := 0) (Nat.le_of_eq rfl) (by decide) ?_
  intro T1 X1 e1
  show own_FinX _ _ _ _ _ (T1.setTop (mkF m 4 #[.val (.ref t0), .val (.ref ca), .val (.int (0 : Int32)), .val (.int (0 : Int32)), .val .null, .unset] []))
  refine own_go (fun _ kk => XS.iloadN X1.here hx rfl (hb hby d3n0_4) rfl (XS.ifNo X1.here hx rfl (hb hby d3n0_5) rfl (XT.i0_ne_f (by decide)) (XS.aloadN X1.here hx rfl (hb hby d3n0_8) rfl rfl kk))) ?_
  show own_FinX _ _ _ _ _ (T1.setTop (mkF m 9 #[.val (.ref t0), .val (.ref ca), .val (.int (0 : Int32)), .val (.int (0 : Int32)), .val .null, .unset] [(.ref t0)]))
  refine own_ldc0 (s := s) (vm0 := s.vm) X1 hx hZ hown (hw _ (List.mem_of_getElem? (i := 18) rfl)) wS e1 hS0 (Nat.le_refl _) hEL (List.mem_of_getElem? (i := 0) rfl) (CHr.keep (Keep.refl h0 [t0]) HSafe HC).1 (hb hby d3n0_9) (by decide) (by decide) ?_
  intro T2 h2 k2 la2 lb2 X2 e2 E2 S2 sk2 hZ hown Fc2 Fv2 Ab2 Cl2 hne2
  have CC2 := (CHr.keep (Keep.refl h0 [t0]) HSafe HC).trans Cl2
  have f3 := O0.ext E2
  have f4 := E_t0.ext E2
  have f5 := F_value.ext E2
  have f6 := F_coder.ext E2
  have f7 := VC.ext E2
  have Z2 := Nat.le_trans Z0 E2.1
  have K2 := (Keep.refl h0 [t0]).ext E2
  have nn2_t0 := hne2 t0 (CC2.safe E_t0.lt (HSafe _ (List.mem_of_getElem? (i := 0) rfl)))
  show own_FinX _ _ _ _ _ (T2.setTop (mkF m 11 #[.val (.ref t0), .val (.ref ca), .val (.int (0 : Int32)), .val (.int (0 : Int32)), .val .null, .unset] [(.ref la2), (.ref t0)]))
  refine own_getF X2 hx hZ hown (host := "") (Or.inl (hw _ (List.mem_of_getElem? (i := 24) rfl))) Via.refl e2 Fv2 (hb hby d3n0_11) ?_
  intro T8 X8 e8
  show own_FinX _ _ _ _ _ (T8.setTop (mkF m 14 #[.val (.ref t0), .val (.ref ca), .val (.int (0 : Int32)), .val (.int (0 : Int32)), .val .null, .unset] [(.ref lb2), (.ref t0)]))
  refine own_putF X8 hx hZ hown (host := "") (Or.inl (hw _ (List.mem_of_getElem? (i := 24) rfl))) Via.refl e8 f5 f4 (Or.inr ⟨(hw _ (List.mem_of_getElem? (i := 20) rfl)), rfl, hnm⟩) (hw _ (List.mem_of_getElem? (i := 5) rfl)) (ty := (.array .byte)) (by decide) rfl rfl (hb hby d3n0_14) ?_
  intro T9 h9 X9 e9 W9
  have f10 := f3.wr W9 g_t0
  have f11 := f4.wr W9
  have f13 := f6.other W9 (Or.inr (slot_ne (Or.inr (hw _ (List.mem_of_getElem? (i := 21) rfl))) (Or.inr (hw _ (List.mem_of_getElem? (i := 20) rfl))) (by decide) (t := .byte) (t' := (.array .byte)) (by decide) (by decide)))
  have f14 := f7.other W9 n0c
  have f15 := Fc2.other W9 (Or.inl (Ne.symm nn2_t0.1))
  have f16 := Fv2.other W9 (Or.inl (Ne.symm nn2_t0.1))
  have f17 := Ab2.other W9 (Ne.symm nn2_t0.2)
  have Z9 := Nat.le_trans Z2 (Keep.of_wr W9).1
  have K9 := K2.wr W9 (Or.inl (List.mem_of_getElem? (i := 0) rfl))
  have sk9 := Nat.le_trans sk2 (Keep.of_wr W9).1
  have CC9 := CC2.trans (CHr.wr W9 (CC2.safe E_t0.lt (HSafe _ (List.mem_of_getElem? (i := 0) rfl))) CC2.1)
  have f18 := f5.same W9
  have N9 := Fr.snoc X9 N0 g_t0
  show own_FinX _ _ _ _ _ (T9.setTop (mkF m 17 #[.val (.ref t0), .val (.ref ca), .val (.int (0 : Int32)), .val (.int (0 : Int32)), .val .null, .unset] []))
  refine own_go (fun _ kk => XS.aloadN X9.here hx rfl (hb hby d3n0_17) rfl rfl kk) ?_
  show own_FinX _ _ _ _ _ (T9.setTop (mkF m 18 #[.val (.ref t0), .val (.ref ca), .val (.int (0 : Int32)), .val (.int (0 : Int32)), .val .null, .unset] [(.ref t0)]))
  refine own_ldc0 (s := s) (vm0 := T2.vm) X9 hx hZ hown (hw _ (List.mem_of_getElem? (i := 18) rfl)) wS e9 S2 sk9 hEL (List.mem_of_getElem? (i := 0) rfl) CC9.1 (hb hby d3n0_18) (by decide) (by decide) ?_
  intro T19 h19 k19 la19 lb19 X19 e19 E19 S19 sk19 hZ hown Fc19 Fv19 Ab19 Cl19 hne19
  have CC19 := CC9.trans Cl19
  have f20 := f10.ext E19
  have f21 := f11.ext E19
  have f22 := f18.ext E19
  have f23 := f13.ext E19
  have f24 := f14.ext E19
  have f25 := f15.ext E19
  have f26 := f16.ext E19
  have f27 := f17.ext E19
  have Z19 := Nat.le_trans Z9 E19.1
  have K19 := K9.ext E19
  have nn19_t0 := hne19 t0 (CC19.safe E_t0.lt (HSafe _ (List.mem_of_getElem? (i := 0) rfl)))
  show own_FinX _ _ _ _ _ (T19.setTop (mkF m 20 #[.val (.ref t0), .val (.ref ca), .val (.int (0 : Int32)), .val (.int (0 : Int32)), .val .null, .unset] [(.ref la19), (.ref t0)]))
  refine own_getF X19 hx hZ hown (host := "") (Or.inl (hw _ (List.mem_of_getElem? (i := 25) rfl))) Via.refl e19 Fc19 (hb hby d3n0_20) ?_
  intro T28 X28 e28
  show own_FinX _ _ _ _ _ (T28.setTop (mkF m 23 #[.val (.ref t0), .val (.ref ca), .val (.int (0 : Int32)), .val (.int (0 : Int32)), .val .null, .unset] [(.int (0 : Int32)), (.ref t0)]))
  refine own_putF X28 hx hZ hown (host := "") (Or.inl (hw _ (List.mem_of_getElem? (i := 25) rfl))) Via.refl e28 f23 f21 (Or.inr ⟨(hw _ (List.mem_of_getElem? (i := 21) rfl)), rfl, hnm⟩) (hw _ (List.mem_of_getElem? (i := 5) rfl)) (ty := .byte) (by decide) rfl rfl (hb hby d3n0_23) ?_
  intro T29 h29 X29 e29 W29
  have f30 := f20.wr W29 g_t0
  have f31 := f21.wr W29
  have f32 := f22.other W29 (Or.inr (slot_ne (Or.inr (hw _ (List.mem_of_getElem? (i := 20) rfl))) (Or.inr (hw _ (List.mem_of_getElem? (i := 21) rfl))) (by decide) (t := (.array .byte)) (t' := .byte) (by decide) (by decide)))
  have f34 := f24.other W29 n0c
  have f35 := f25.other W29 (Or.inl (Ne.symm nn2_t0.1))
  have f36 := f26.other W29 (Or.inl (Ne.symm nn2_t0.1))
  have f37 := f27.other W29 (Ne.symm nn2_t0.2)
  have f38 := Fc19.other W29 (Or.inl (Ne.symm nn19_t0.1))
  have f39 := Fv19.other W29 (Or.inl (Ne.symm nn19_t0.1))
  have f40 := Ab19.other W29 (Ne.symm nn19_t0.2)
  have Z29 := Nat.le_trans Z19 (Keep.of_wr W29).1
  have K29 := K19.wr W29 (Or.inl (List.mem_of_getElem? (i := 0) rfl))
  have sk29 := Nat.le_trans sk19 (Keep.of_wr W29).1
  have CC29 := CC19.trans (CHr.wr W29 (CC19.safe E_t0.lt (HSafe _ (List.mem_of_getElem? (i := 0) rfl))) CC19.1)
  have f41 := f23.same W29
  have N29 := Fr.snoc X29 N9 g_t0
  show own_FinX _ _ _ _ _ (T29.setTop (mkF m 26 #[.val (.ref t0), .val (.ref ca), .val (.int (0 : Int32)), .val (.int (0 : Int32)), .val .null, .unset] []))
  exact own_retXV (s := s) (vm0 := T19.vm) X29 hx hlk S19 (by rw [e29]; exact sk29) hret (hb hby d3n0_26) (by rw [e29]; exact ⟨rfl, N29, K29, f41, lb2, f32, f37⟩) (fun fs hR => ⟨by show CHr Z own_EL0 s.vm s.heap T29.vm T29.heap; rw [eS, e29]; exact CC29.trans (CHv.at (s := s) (vm0 := T19.vm) X29 hZ hEL CC29.1), own_monoW hR (by decide) (by decide)⟩)

theorem d2n0_0 : decode jdk_42_method_3_code 0 = .ok (.aload_n 0, 1) := by decide +kernel
theorem d2n0_1 : decode jdk_42_method_3_code 1 = .ok (.aload_n 1, 1) := by decide +kernel
theorem d2n0_2 : decode jdk_42_method_3_code 2 = .ok (.iconst 0, 1) := by decide +kernel
theorem d2n0_3 : decode jdk_42_method_3_code 3 = .ok (.aload_n 1, 1) := by decide +kernel
theorem d2n0_4 : decode jdk_42_method_3_code 4 = .ok (.arraylength, 1) := by decide +kernel
theorem d2n0_5 : decode jdk_42_method_3_code 5 = .ok (.aconst_null, 1) := by decide +kernel
theorem d2n0_6 : decode jdk_42_method_3_code 6 = .ok (.invokespecial 27, 3) := by decide +kernel
theorem d2n0_9 : decode jdk_42_method_3_code 9 = .ok (.return_, 1) := by decide +kernel
theorem pd_2n0_0 : parseMethodDescriptor "([CIILjava/lang/Void;)V" = some ⟨[(.array .char), .int, .int, (.object "java/lang/Void")], none⟩ := by decide +kernel
theorem pn_2n0 : plainFor (⟨"java/lang/String", "<init>", "([C)V"⟩ : MethodName) = true := plainFor_of_name (by show plainName "java/lang/String" = true; first | (simp [plainName, overriddenIn]; done) | decide +kernel)
theorem ef_2n0 (m : MethodId) (x0 : Addr) (x1 : Addr) : entryFrame m #[(.ref x0), (.ref x1)] 2 = mkF m 0 #[.val (.ref x0), .val (.ref x1)] [] := by first | (simp [entryFrame, mkF, argsToLocals, Value.category]; done) | rfl
set_option maxRecDepth 65536 in
set_option maxHeartbeats 40000000 in
theorem rm2n0 (l : Launch) (Z : State) (a0 : Array Value) (hw : ∀ d ∈ tables_1, d.before a0 Z = true) (t0 : Addr) (ca : Addr) (h0 : Heap) (n0 : Nat) (Z0 : n0 ≤ h0.size) (cs : Int32) (S_cs : Sta Z Z.heap "java/lang/String" "COMPACT_STRINGS" "Z" (.int cs)) (hcs : ¬ cs = 0) (O0 : Old Z n0 h0) (E_t0 : Exa Z h0 t0 "java/lang/String") (F_value : Fld Z h0 t0 "java/lang/String" "value" "[B" .null) (F_coder : Fld Z h0 t0 "java/lang/String" "coder" "B" (.int (0 : Int32))) (g_t0 : n0 ≤ t0) (n0c : ca ≠ t0) (VC : own_Ar Z h0 ca .char (List.map Value.int [])) :
    own_MetW l (⟨"java/lang/String", "<init>", "([C)V"⟩ : MethodName) jdk_42_method_3_code 2 none ({ frames := 2, cells := 4, slots := 8, locals := 29 } : Room) Z own_EL0 [t0] #[(.ref t0), (.ref ca)] h0 (own_Q3 Z t0 [] h0 n0) := by
  refine own_enterW pn_2n0 ?_
  intro p e s m below meth c s₁ hx hby hml hown hnm hret hlk hZ e0 eS HC HSafe X0
  rw [ef_2n0]
  have N0 := Fr.nil n0
  have hS0 := own_since s h0.size
  have hEL : EW Z a0 own_EL0 := EW.cons (hw _ (List.mem_of_getElem? (i := 18) rfl)) (by simp) EW.nil
  have wS : ∀ a ∈ Bundle.stringAtoms, a.before a0 Z = true := by
    intro d hd
    simp only [Bundle.stringAtoms, List.mem_cons, List.not_mem_nil, or_false] at hd
    rcases hd with rfl | rfl | rfl | rfl | rfl | rfl | rfl
    · exact (hw _ (List.mem_of_getElem? (i := 6) rfl))
    · exact (hw _ (List.mem_of_getElem? (i := 5) rfl))
    · exact (hw _ (List.mem_of_getElem? (i := 19) rfl))
    · exact (hw _ (List.mem_of_getElem? (i := 20) rfl))
    · exact (hw _ (List.mem_of_getElem? (i := 21) rfl))
    · exact (hw _ (List.mem_of_getElem? (i := 22) rfl))
    · exact (hw _ (List.mem_of_getElem? (i := 23) rfl))
  show own_FinX _ _ _ _ _ (s₁.setTop (mkF m 0 #[.val (.ref t0), .val (.ref ca)] []))
  refine own_go (fun _ kk => XS.aloadN X0.here hx rfl (hb hby d2n0_0) rfl rfl (XS.aloadN X0.here hx rfl (hb hby d2n0_1) rfl rfl (XS.iconst X0.here hx rfl (hb hby d2n0_2) (XS.aloadN X0.here hx rfl (hb hby d2n0_3) rfl rfl kk)))) ?_
  show own_FinX _ _ _ _ _ (s₁.setTop (mkF m 4 #[.val (.ref t0), .val (.ref ca)] [(.ref ca), (.int (0 : Int32)), (.ref ca), (.ref t0)]))
  refine own_alen X0 hx hZ e0 VC (hb hby d2n0_4) ?_
  show own_FinX _ _ _ _ _ (s₁.setTop (mkF m 5 #[.val (.ref t0), .val (.ref ca)] [(.int (0 : Int32)), (.int (0 : Int32)), (.ref ca), (.ref t0)]))
  refine own_go (fun _ kk => XS.aconstNull X0.here hx rfl (hb hby d2n0_5) kk) ?_
  show own_FinX _ _ _ _ _ (s₁.setTop (mkF m 6 #[.val (.ref t0), .val (.ref ca)] [.null, (.int (0 : Int32)), (.int (0 : Int32)), (.ref ca), (.ref t0)]))
  refine own_callNW (s := s) (vm0 := s.vm) X0 hx hZ rfl hown (hw _ (List.mem_of_getElem? (i := 11) rfl)) (hw _ (List.mem_of_getElem? (i := 12) rfl)) (hw _ (List.mem_of_getElem? (i := 6) rfl)) (hw _ (List.mem_of_getElem? (i := 14) rfl)) (by decide) (rm3n0 l Z a0 hw t0 ca h0 n0 Z0 cs S_cs hcs O0 E_t0 F_value F_coder g_t0 n0c VC) hEL (CHr.keep (Keep.refl h0 [t0]) HSafe HC).1 (own_one ⟨E_t0.lt, (HSafe _ (List.mem_of_getElem? (i := 0) rfl))⟩) hS0 (Nat.le_refl _) e0 (a := t0) (argsL := [(.ref ca), (.int (0 : Int32)), (.int (0 : Int32)), .null]) (rest := []) rfl rfl (by rw [hml]; rfl) (lenOf pd_2n0_0 rfl) (hb hby d2n0_6) (W := 0) (Nat.le_of_eq rfl) (by decide) (by decide) (by decide) (by decide) ?_
  rintro v1 T1 L1 X1 ⟨rfl, M1, Kc1, Fc1, bb1, Fv1, Vb1⟩ Cl1 S1 hZ hown
  have N1 := Fr.app N0 M1
  have f2 := O0.keep Kc1 (allS g_t0 all0)
  have f3 := E_t0.keep Kc1
  have f4 := VC.keep Kc1 (ninS n0c nin0)
  have Z1 := Nat.le_trans Z0 Kc1.1
  have K1 := (Keep.refl h0 [t0]).trans Kc1 (allS (Or.inl (List.mem_of_getElem? (i := 0) rfl)) all0)
  have sk1 := Nat.le_trans (Nat.le_refl _) Kc1.1
  have CC1 := (CHr.keep (Keep.refl h0 [t0]) HSafe HC).trans Cl1
  show own_FinX _ _ _ _ _ (T1.setTop (mkF m 9 #[.val (.ref t0), .val (.ref ca)] []))
  exact own_retXV (s := s) (vm0 := T1.vm) X1 hx hlk S1 (Nat.le_refl _) hret (hb hby d2n0_9) ⟨rfl, N1, K1, Fc1, bb1, Fv1, Vb1⟩ (fun fs hR => ⟨by show CHr Z own_EL0 s.vm s.heap T1.vm T1.heap; rw [eS]; exact CC1.trans (CHv.at (s := s) (vm0 := T1.vm) X1 hZ hEL CC1.1), own_monoW hR (by decide) (by decide)⟩)

def own_bs (p0 c0 c1 : Int32) : List Int32 := if p0 = 0 then [] else if p0 = (1 : Int32) then [(Int8.toInt32 (Int32.toInt8 c0))] else [(Int8.toInt32 (Int32.toInt8 c0)), (Int8.toInt32 (Int32.toInt8 c1))]
def own_QS (Z : State) (bs : List Int32) (h0 : Heap) (n0 : Nat) (v : Option Value) (h : Heap) (L : List Loc) : Prop := ∃ t b : Addr, v = some (.ref t) ∧ Fr n0 L ∧ Keep h0 h [] ∧ h0.size ≤ t ∧ Exa Z h t "java/lang/String" ∧ Fld Z h t "java/lang/String" "coder" "B" (.int (0 : Int32)) ∧ Fld Z h t "java/lang/String" "value" "[B" (.ref b) ∧ own_Ar Z h b .byte (List.map Value.int bs)

theorem d1_0 : decode method_3_code 0 = .ok (.iload_n 0, 1) := by decide +kernel
theorem d1_1 : decode method_3_code 1 = .ok (.ifCond .ne 14, 3) := by decide +kernel
theorem d1_4 : decode method_3_code 4 = .ok (.new 46, 3) := by decide +kernel
theorem d1_7 : decode method_3_code 7 = .ok (.dup, 1) := by decide +kernel
theorem d1_8 : decode method_3_code 8 = .ok (.iconst 0, 1) := by decide +kernel
theorem d1_9 : decode method_3_code 9 = .ok (.newarray .char, 2) := by decide +kernel
theorem d1_11 : decode method_3_code 11 = .ok (.invokespecial 48, 3) := by decide +kernel
theorem d1_14 : decode method_3_code 14 = .ok (.areturn, 1) := by decide +kernel
theorem d1_15 : decode method_3_code 15 = .ok (.iload_n 0, 1) := by decide +kernel
theorem d1_16 : decode method_3_code 16 = .ok (.iconst 1, 1) := by decide +kernel
theorem d1_17 : decode method_3_code 17 = .ok (.if_icmp .ne 18, 3) := by decide +kernel
theorem d1_20 : decode method_3_code 20 = .ok (.new 46, 3) := by decide +kernel
theorem d1_23 : decode method_3_code 23 = .ok (.dup, 1) := by decide +kernel
theorem d1_24 : decode method_3_code 24 = .ok (.iconst 1, 1) := by decide +kernel
theorem d1_25 : decode method_3_code 25 = .ok (.newarray .char, 2) := by decide +kernel
theorem d1_27 : decode method_3_code 27 = .ok (.dup, 1) := by decide +kernel
theorem d1_28 : decode method_3_code 28 = .ok (.iconst 0, 1) := by decide +kernel
theorem d1_29 : decode method_3_code 29 = .ok (.iload_n 1, 1) := by decide +kernel
theorem d1_30 : decode method_3_code 30 = .ok (.castore, 1) := by decide +kernel
theorem d1_31 : decode method_3_code 31 = .ok (.invokespecial 48, 3) := by decide +kernel
theorem d1_34 : decode method_3_code 34 = .ok (.areturn, 1) := by decide +kernel
theorem d1_35 : decode method_3_code 35 = .ok (.new 46, 3) := by decide +kernel
theorem d1_38 : decode method_3_code 38 = .ok (.dup, 1) := by decide +kernel
theorem d1_39 : decode method_3_code 39 = .ok (.iconst 2, 1) := by decide +kernel
theorem d1_40 : decode method_3_code 40 = .ok (.newarray .char, 2) := by decide +kernel
theorem d1_42 : decode method_3_code 42 = .ok (.dup, 1) := by decide +kernel
theorem d1_43 : decode method_3_code 43 = .ok (.iconst 0, 1) := by decide +kernel
theorem d1_44 : decode method_3_code 44 = .ok (.iload_n 1, 1) := by decide +kernel
theorem d1_45 : decode method_3_code 45 = .ok (.castore, 1) := by decide +kernel
theorem d1_46 : decode method_3_code 46 = .ok (.dup, 1) := by decide +kernel
theorem d1_47 : decode method_3_code 47 = .ok (.iconst 1, 1) := by decide +kernel
theorem d1_48 : decode method_3_code 48 = .ok (.iload_n 2, 1) := by decide +kernel
theorem d1_49 : decode method_3_code 49 = .ok (.castore, 1) := by decide +kernel
theorem d1_50 : decode method_3_code 50 = .ok (.invokespecial 48, 3) := by decide +kernel
theorem d1_53 : decode method_3_code 53 = .ok (.areturn, 1) := by decide +kernel
theorem pd_1_0 : parseMethodDescriptor "([C)V" = some ⟨[(.array .char)], none⟩ := by decide +kernel
theorem pn_1 : plainFor (⟨"com/example/tuplelift/tuplelift/service/TokenIsPinLaw", "str", "(ICC)Ljava/lang/String;"⟩ : MethodName) = true := plainFor_of_name (by show plainName "com/example/tuplelift/tuplelift/service/TokenIsPinLaw" = true; first | (simp [plainName, overriddenIn]; done) | decide +kernel)
theorem ef_1 (m : MethodId) (x0 : Int32) (x1 : Int32) (x2 : Int32) : entryFrame m #[(.int x0), (.int x1), (.int x2)] 3 = mkF m 0 #[.val (.int x0), .val (.int x1), .val (.int x2)] [] := by first | (simp [entryFrame, mkF, argsToLocals, Value.category]; done) | rfl
set_option maxRecDepth 65536 in
set_option maxHeartbeats 40000000 in
theorem rm1 (l : Launch) (Z : State) (a0 : Array Value) (hw : ∀ d ∈ tables_1, d.before a0 Z = true) (p0 : Int32) (c0 : Int32) (c1 : Int32) (h0 : Heap) (n0 : Nat) (Z0 : n0 ≤ h0.size) (h_c0 : own_ch c0) (h_c1 : own_ch c1) (cs : Int32) (S_cs : Sta Z Z.heap "java/lang/String" "COMPACT_STRINGS" "Z" (.int cs)) (hcs : ¬ cs = 0) (O0 : Old Z n0 h0) :
    own_MetW l (⟨"com/example/tuplelift/tuplelift/service/TokenIsPinLaw", "str", "(ICC)Ljava/lang/String;"⟩ : MethodName) method_3_code 3 (some (.object "java/lang/String")) ({ frames := 4, cells := 6, slots := 12, locals := 66 } : Room) Z own_EL0 [] #[(.int p0), (.int c0), (.int c1)] h0 (own_QS Z (own_bs p0 c0 c1) h0 n0) := by
  refine own_enterW pn_1 ?_
  intro p e s m below meth c s₁ hx hby hml hown hnm hret hlk hZ e0 eS HC HSafe X0
  rw [ef_1]
  have N0 := Fr.nil n0
  have hS0 := own_since s h0.size
  have hEL : EW Z a0 own_EL0 := EW.cons (hw _ (List.mem_of_getElem? (i := 18) rfl)) (by simp) EW.nil
  have wS : ∀ a ∈ Bundle.stringAtoms, a.before a0 Z = true := by
    intro d hd
    simp only [Bundle.stringAtoms, List.mem_cons, List.not_mem_nil, or_false] at hd
    rcases hd with rfl | rfl | rfl | rfl | rfl | rfl | rfl
    · exact (hw _ (List.mem_of_getElem? (i := 6) rfl))
    · exact (hw _ (List.mem_of_getElem? (i := 5) rfl))
    · exact (hw _ (List.mem_of_getElem? (i := 19) rfl))
    · exact (hw _ (List.mem_of_getElem? (i := 20) rfl))
    · exact (hw _ (List.mem_of_getElem? (i := 21) rfl))
    · exact (hw _ (List.mem_of_getElem? (i := 22) rfl))
    · exact (hw _ (List.mem_of_getElem? (i := 23) rfl))
  show own_FinX _ _ _ _ _ (s₁.setTop (mkF m 0 #[.val (.int p0), .val (.int c0), .val (.int c1)] []))
  refine own_go (fun _ kk => XS.iloadN X0.here hx rfl (hb hby d1_0) rfl kk) ?_
  show own_FinX _ _ _ _ _ (s₁.setTop (mkF m 1 #[.val (.int p0), .val (.int c0), .val (.int c1)] [(.int p0)]))
  by_cases hc1 : p0 = 0
  · refine own_go (fun _ kk => XS.ifNo X0.here hx rfl (hb hby d1_1) rfl (XT.i0_ne_f hc1) kk) ?_
    show own_FinX _ _ _ _ _ (s₁.setTop (mkF m 4 #[.val (.int p0), .val (.int c0), .val (.int c1)] []))
    refine own_new X0 hx hZ hown (hw _ (List.mem_of_getElem? (i := 4) rfl)) (hw _ (List.mem_of_getElem? (i := 5) rfl)) (hw _ (List.mem_of_getElem? (i := 6) rfl)) e0 (hb hby d1_4) (by decide) (by decide) ?_
    intro T1 h1 b1 g1 X1 e1 E1 A1 D1
    have g_b1 : n0 ≤ b1 := Nat.le_trans Z0 (Nat.le_of_eq g1.symm)
    have f2 := O0.ext E1
    have Z1 := Nat.le_trans Z0 E1.1
    have sz_b1 : h0.size ≤ b1 := Nat.le_trans (Keep.refl h0 []).1 (Nat.le_of_eq g1.symm)
    have K1 := (Keep.refl h0 []).ext E1
    have sk1 := Nat.le_trans (Nat.le_refl _) E1.1
    have F1_value : Fld Z h1 b1 "java/lang/String" "value" "[B" .null := D1 (Or.inr (hw _ (List.mem_of_getElem? (i := 20) rfl))) (ty := (.array .byte)) (by decide)
    have F1_coder : Fld Z h1 b1 "java/lang/String" "coder" "B" (.int (0 : Int32)) := D1 (Or.inr (hw _ (List.mem_of_getElem? (i := 21) rfl))) (ty := .byte) (by decide)
    show own_FinX _ _ _ _ _ (T1.setTop (mkF m 7 #[.val (.int p0), .val (.int c0), .val (.int c1)] [(.ref b1)]))
    refine own_go (fun _ kk => XS.dup X1.here hx rfl (hb hby d1_7) rfl rfl (XS.iconst X1.here hx rfl (hb hby d1_8) kk)) ?_
    show own_FinX _ _ _ _ _ (T1.setTop (mkF m 9 #[.val (.int p0), .val (.int c0), .val (.int c1)] [(.int (0 : Int32)), (.ref b1), (.ref b1)]))
    refine own_newC X1 hx hZ (hw _ (List.mem_of_getElem? (i := 7) rfl)) e1 (hb hby d1_9) (by decide) (cap := 0) (by decide) (by decide) (by decide) (by decide) ?_
    intro T3 h3 b3 g3 X3 e3 E3 A3 D3
    have g_b3 : n0 ≤ b3 := Nat.le_trans Z1 (Nat.le_of_eq g3.symm)
    have ne_b1_b3 : b1 ≠ b3 := Nat.ne_of_lt (Nat.lt_of_lt_of_le A1.lt (Nat.le_of_eq g3.symm))
    have f4 := f2.ext E3
    have f5 := A1.ext E3
    have f6 := F1_value.ext E3
    have f7 := F1_coder.ext E3
    have Z3 := Nat.le_trans Z1 E3.1
    have sz_b3 : h0.size ≤ b3 := Nat.le_trans K1.1 (Nat.le_of_eq g3.symm)
    have K3 := K1.ext E3
    have sk3 := Nat.le_trans sk1 E3.1
    have A3 : own_Ar Z h3 b3 .char (List.map Value.int []) := A3
    show own_FinX _ _ _ _ _ (T3.setTop (mkF m 11 #[.val (.int p0), .val (.int c0), .val (.int c1)] [(.ref b3), (.ref b1), (.ref b1)]))
    refine own_callNW (s := s) (vm0 := s.vm) X3 hx hZ rfl hown (hw _ (List.mem_of_getElem? (i := 8) rfl)) (hw _ (List.mem_of_getElem? (i := 9) rfl)) (hw _ (List.mem_of_getElem? (i := 6) rfl)) (hw _ (List.mem_of_getElem? (i := 10) rfl)) (by decide) (rm2n0 l Z a0 hw b1 b3 h3 n0 Z3 cs S_cs hcs f4 f5 f6 f7 g_b1 (Ne.symm ne_b1_b3) A3) hEL (CHr.keep K3 own_none HC).1 (own_one ⟨f5.lt, Safe.keep K3 own_none HC (Safe.new sz_b1)⟩) hS0 sk3 e3 (a := b1) (argsL := [(.ref b3)]) (rest := [(.ref b1)]) rfl rfl (by rw [hml]; rfl) (lenOf pd_1_0 rfl) (hb hby d1_11) (W := 1) (Nat.le_of_eq rfl) (by decide) (by decide) (by decide) (by decide) ?_
    rintro v8 T8 L8 X8 ⟨rfl, M8, Kc8, Fc8, bb8, Fv8, Vb8⟩ Cl8 S8 hZ hown
    have N8 := Fr.app N0 M8
    have f9 := f4.keep Kc8 (allS g_b1 all0)
    have f10 := f5.keep Kc8
    have f11 := A3.keep Kc8 (ninS (Ne.symm ne_b1_b3) nin0)
    have f12 := D3.keep Kc8
    have Z8 := Nat.le_trans Z3 Kc8.1
    have K8 := K3.trans Kc8 (allS (Or.inr sz_b1) all0)
    have sk8 := Nat.le_trans sk3 Kc8.1
    have CC8 := (CHr.keep K3 own_none HC).trans Cl8
    show own_FinX _ _ _ _ _ (T8.setTop (mkF m 14 #[.val (.int p0), .val (.int c0), .val (.int c1)] [(.ref b1)]))
    exact own_retXA (s := s) (vm0 := T8.vm) X8 hx hlk S8 (Nat.le_refl _) hret rfl rfl (hb hby d1_14) ⟨b1, bb8, rfl, N8, K8, sz_b1, f10, Fc8, Fv8, (by rw [own_bs, if_pos hc1]; exact Vb8)⟩ (fun fs hR => ⟨by show CHr Z own_EL0 s.vm s.heap T8.vm T8.heap; rw [eS]; exact CC8.trans (CHv.at (s := s) (vm0 := T8.vm) X8 hZ hEL CC8.1), own_monoW hR (by decide) (by decide)⟩)
  · refine own_go (fun _ kk => XS.ifYes X0.here hx rfl (pc0 := 1) (pc' := 15) rfl (hb hby d1_1) rfl (XT.i0_ne_t hc1) (by decide) (by decide) (XS.iloadN X0.here hx rfl (hb hby d1_15) rfl (XS.iconst X0.here hx rfl (hb hby d1_16) kk))) ?_
    show own_FinX _ _ _ _ _ (s₁.setTop (mkF m 17 #[.val (.int p0), .val (.int c0), .val (.int c1)] [(.int (1 : Int32)), (.int p0)]))
    by_cases hc17 : p0 = (1 : Int32)
    · refine own_go (fun _ kk => XS.icmpNo X0.here hx rfl (hb hby d1_17) rfl (XT.ii_ne_f hc17) kk) ?_
      show own_FinX _ _ _ _ _ (s₁.setTop (mkF m 20 #[.val (.int p0), .val (.int c0), .val (.int c1)] []))
      refine own_new X0 hx hZ hown (hw _ (List.mem_of_getElem? (i := 4) rfl)) (hw _ (List.mem_of_getElem? (i := 5) rfl)) (hw _ (List.mem_of_getElem? (i := 6) rfl)) e0 (hb hby d1_20) (by decide) (by decide) ?_
      intro T13 h13 b13 g13 X13 e13 E13 A13 D13
      have g_b13 : n0 ≤ b13 := Nat.le_trans Z0 (Nat.le_of_eq g13.symm)
      have f14 := O0.ext E13
      have Z13 := Nat.le_trans Z0 E13.1
      have sz_b13 : h0.size ≤ b13 := Nat.le_trans (Keep.refl h0 []).1 (Nat.le_of_eq g13.symm)
      have K13 := (Keep.refl h0 []).ext E13
      have sk13 := Nat.le_trans (Nat.le_refl _) E13.1
      have F13_value : Fld Z h13 b13 "java/lang/String" "value" "[B" .null := D13 (Or.inr (hw _ (List.mem_of_getElem? (i := 20) rfl))) (ty := (.array .byte)) (by decide)
      have F13_coder : Fld Z h13 b13 "java/lang/String" "coder" "B" (.int (0 : Int32)) := D13 (Or.inr (hw _ (List.mem_of_getElem? (i := 21) rfl))) (ty := .byte) (by decide)
      show own_FinX _ _ _ _ _ (T13.setTop (mkF m 23 #[.val (.int p0), .val (.int c0), .val (.int c1)] [(.ref b13)]))
      refine own_go (fun _ kk => XS.dup X13.here hx rfl (hb hby d1_23) rfl rfl (XS.iconst X13.here hx rfl (hb hby d1_24) kk)) ?_
      show own_FinX _ _ _ _ _ (T13.setTop (mkF m 25 #[.val (.int p0), .val (.int c0), .val (.int c1)] [(.int (1 : Int32)), (.ref b13), (.ref b13)]))
      refine own_newC X13 hx hZ (hw _ (List.mem_of_getElem? (i := 7) rfl)) e13 (hb hby d1_25) (by decide) (cap := 1) (by decide) (by decide) (by decide) (by decide) ?_
      intro T15 h15 b15 g15 X15 e15 E15 A15 D15
      have g_b15 : n0 ≤ b15 := Nat.le_trans Z13 (Nat.le_of_eq g15.symm)
      have ne_b13_b15 : b13 ≠ b15 := Nat.ne_of_lt (Nat.lt_of_lt_of_le A13.lt (Nat.le_of_eq g15.symm))
      have f16 := f14.ext E15
      have f17 := A13.ext E15
      have f18 := F13_value.ext E15
      have f19 := F13_coder.ext E15
      have Z15 := Nat.le_trans Z13 E15.1
      have sz_b15 : h0.size ≤ b15 := Nat.le_trans K13.1 (Nat.le_of_eq g15.symm)
      have K15 := K13.ext E15
      have sk15 := Nat.le_trans sk13 E15.1
      have A15 : own_Ar Z h15 b15 .char (List.map Value.int [(0 : Int32)]) := A15
      show own_FinX _ _ _ _ _ (T15.setTop (mkF m 27 #[.val (.int p0), .val (.int c0), .val (.int c1)] [(.ref b15), (.ref b13), (.ref b13)]))
      refine own_go (fun _ kk => XS.dup X15.here hx rfl (hb hby d1_27) rfl rfl (XS.iconst X15.here hx rfl (hb hby d1_28) (XS.iloadN X15.here hx rfl (hb hby d1_29) rfl kk))) ?_
      show own_FinX _ _ _ _ _ (T15.setTop (mkF m 30 #[.val (.int p0), .val (.int c0), .val (.int c1)] [(.int c0), (.int (0 : Int32)), (.ref b15), (.ref b15), (.ref b13), (.ref b13)]))
      refine own_stC X15 hx hZ e15 A15 (by decide) (by show (0 : Int32).toNatClampNeg < 1; decide) (hb hby d1_30) (own_narC h_c0) ?_
      intro T20 h20 X20 e20 W20 A20
      have f21 := f16.wr W20 g_b15
      have f22 := f17.wr W20
      have f23 := f18.other W20 (Or.inl ne_b13_b15)
      have f24 := f19.other W20 (Or.inl ne_b13_b15)
      have f26 := D15.wr W20
      have Z20 := Nat.le_trans Z15 (Keep.of_wr W20).1
      have K20 := K15.wr W20 (Or.inr sz_b15)
      have sk20 := Nat.le_trans sk15 (Keep.of_wr W20).1
      have A20 : own_Ar Z h20 b15 .char (List.map Value.int [c0]) := A20
      have N20 := Fr.snoc X20 N0 g_b15
      show own_FinX _ _ _ _ _ (T20.setTop (mkF m 31 #[.val (.int p0), .val (.int c0), .val (.int c1)] [(.ref b15), (.ref b13), (.ref b13)]))
      refine own_callN X20 hx hZ rfl hown (hw _ (List.mem_of_getElem? (i := 8) rfl)) (hw _ (List.mem_of_getElem? (i := 9) rfl)) (hw _ (List.mem_of_getElem? (i := 6) rfl)) (hw _ (List.mem_of_getElem? (i := 10) rfl)) (by decide) (rm2n1 l Z a0 hw b13 b15 h20 n0 Z20 c0 h_c0 cs S_cs hcs f21 f22 f23 f24 g_b13 (Ne.symm ne_b13_b15) A20) e20 (a := b13) (argsL := [(.ref b15)]) (rest := [(.ref b13)]) rfl rfl (by rw [hml]; rfl) (lenOf pd_1_0 rfl) (hb hby d1_31) (W := 1) (Nat.le_of_eq rfl) (by decide) (by decide) (by decide) (by decide) ?_
      rintro v27 T27 L27 X27 ⟨rfl, M27, Kc27, Fc27, bb27, Fv27, Vb27⟩
      have N27 := Fr.app N20 M27
      have f28 := f21.keep Kc27 (allS g_b13 all0)
      have f29 := f22.keep Kc27
      have f30 := A20.keep Kc27 (ninS (Ne.symm ne_b13_b15) nin0)
      have f31 := f26.keep Kc27
      have Z27 := Nat.le_trans Z20 Kc27.1
      have K27 := K20.trans Kc27 (allS (Or.inr sz_b13) all0)
      have sk27 := Nat.le_trans sk20 Kc27.1
      show own_FinX _ _ _ _ _ (T27.setTop (mkF m 34 #[.val (.int p0), .val (.int c0), .val (.int c1)] [(.ref b13)]))
      exact own_retXA (s := s) (vm0 := s.vm) X27 hx hlk hS0 sk27 hret rfl rfl (hb hby d1_34) ⟨b13, bb27, rfl, N27, K27, sz_b13, f29, Fc27, Fv27, (by rw [own_bs, if_neg hc1, if_pos hc17]; exact Vb27)⟩ (fun fs hR => ⟨by show CHr Z own_EL0 s.vm s.heap T27.vm T27.heap; rw [eS]; exact (CHr.keep K27 own_none HC).trans (CHv.at (s := s) (vm0 := s.vm) X27 hZ hEL (CHr.keep K27 own_none HC).1), own_monoW hR (by decide) (by decide)⟩)
    · refine own_go (fun _ kk => XS.icmpYes X0.here hx rfl (pc0 := 17) (pc' := 35) rfl (hb hby d1_17) rfl (XT.ii_ne_t hc17) (by decide) (by decide) kk) ?_
      show own_FinX _ _ _ _ _ (s₁.setTop (mkF m 35 #[.val (.int p0), .val (.int c0), .val (.int c1)] []))
      refine own_new X0 hx hZ hown (hw _ (List.mem_of_getElem? (i := 4) rfl)) (hw _ (List.mem_of_getElem? (i := 5) rfl)) (hw _ (List.mem_of_getElem? (i := 6) rfl)) e0 (hb hby d1_35) (by decide) (by decide) ?_
      intro T32 h32 b32 g32 X32 e32 E32 A32 D32
      have g_b32 : n0 ≤ b32 := Nat.le_trans Z0 (Nat.le_of_eq g32.symm)
      have f33 := O0.ext E32
      have Z32 := Nat.le_trans Z0 E32.1
      have sz_b32 : h0.size ≤ b32 := Nat.le_trans (Keep.refl h0 []).1 (Nat.le_of_eq g32.symm)
      have K32 := (Keep.refl h0 []).ext E32
      have sk32 := Nat.le_trans (Nat.le_refl _) E32.1
      have F32_value : Fld Z h32 b32 "java/lang/String" "value" "[B" .null := D32 (Or.inr (hw _ (List.mem_of_getElem? (i := 20) rfl))) (ty := (.array .byte)) (by decide)
      have F32_coder : Fld Z h32 b32 "java/lang/String" "coder" "B" (.int (0 : Int32)) := D32 (Or.inr (hw _ (List.mem_of_getElem? (i := 21) rfl))) (ty := .byte) (by decide)
      show own_FinX _ _ _ _ _ (T32.setTop (mkF m 38 #[.val (.int p0), .val (.int c0), .val (.int c1)] [(.ref b32)]))
      refine own_go (fun _ kk => XS.dup X32.here hx rfl (hb hby d1_38) rfl rfl (XS.iconst X32.here hx rfl (hb hby d1_39) kk)) ?_
      show own_FinX _ _ _ _ _ (T32.setTop (mkF m 40 #[.val (.int p0), .val (.int c0), .val (.int c1)] [(.int (2 : Int32)), (.ref b32), (.ref b32)]))
      refine own_newC X32 hx hZ (hw _ (List.mem_of_getElem? (i := 7) rfl)) e32 (hb hby d1_40) (by decide) (cap := 2) (by decide) (by decide) (by decide) (by decide) ?_
      intro T34 h34 b34 g34 X34 e34 E34 A34 D34
      have g_b34 : n0 ≤ b34 := Nat.le_trans Z32 (Nat.le_of_eq g34.symm)
      have ne_b32_b34 : b32 ≠ b34 := Nat.ne_of_lt (Nat.lt_of_lt_of_le A32.lt (Nat.le_of_eq g34.symm))
      have f35 := f33.ext E34
      have f36 := A32.ext E34
      have f37 := F32_value.ext E34
      have f38 := F32_coder.ext E34
      have Z34 := Nat.le_trans Z32 E34.1
      have sz_b34 : h0.size ≤ b34 := Nat.le_trans K32.1 (Nat.le_of_eq g34.symm)
      have K34 := K32.ext E34
      have sk34 := Nat.le_trans sk32 E34.1
      have A34 : own_Ar Z h34 b34 .char (List.map Value.int [(0 : Int32), (0 : Int32)]) := A34
      show own_FinX _ _ _ _ _ (T34.setTop (mkF m 42 #[.val (.int p0), .val (.int c0), .val (.int c1)] [(.ref b34), (.ref b32), (.ref b32)]))
      refine own_go (fun _ kk => XS.dup X34.here hx rfl (hb hby d1_42) rfl rfl (XS.iconst X34.here hx rfl (hb hby d1_43) (XS.iloadN X34.here hx rfl (hb hby d1_44) rfl kk))) ?_
      show own_FinX _ _ _ _ _ (T34.setTop (mkF m 45 #[.val (.int p0), .val (.int c0), .val (.int c1)] [(.int c0), (.int (0 : Int32)), (.ref b34), (.ref b34), (.ref b32), (.ref b32)]))
      refine own_stC X34 hx hZ e34 A34 (by decide) (by show (0 : Int32).toNatClampNeg < 2; decide) (hb hby d1_45) (own_narC h_c0) ?_
      intro T39 h39 X39 e39 W39 A39
      have f40 := f35.wr W39 g_b34
      have f41 := f36.wr W39
      have f42 := f37.other W39 (Or.inl ne_b32_b34)
      have f43 := f38.other W39 (Or.inl ne_b32_b34)
      have f45 := D34.wr W39
      have Z39 := Nat.le_trans Z34 (Keep.of_wr W39).1
      have K39 := K34.wr W39 (Or.inr sz_b34)
      have sk39 := Nat.le_trans sk34 (Keep.of_wr W39).1
      have A39 : own_Ar Z h39 b34 .char (List.map Value.int [c0, (0 : Int32)]) := A39
      have N39 := Fr.snoc X39 N0 g_b34
      show own_FinX _ _ _ _ _ (T39.setTop (mkF m 46 #[.val (.int p0), .val (.int c0), .val (.int c1)] [(.ref b34), (.ref b32), (.ref b32)]))
      refine own_go (fun _ kk => XS.dup X39.here hx rfl (hb hby d1_46) rfl rfl (XS.iconst X39.here hx rfl (hb hby d1_47) (XS.iloadN X39.here hx rfl (hb hby d1_48) rfl kk))) ?_
      show own_FinX _ _ _ _ _ (T39.setTop (mkF m 49 #[.val (.int p0), .val (.int c0), .val (.int c1)] [(.int c1), (.int (1 : Int32)), (.ref b34), (.ref b34), (.ref b32), (.ref b32)]))
      refine own_stC X39 hx hZ e39 A39 (by decide) (by show (1 : Int32).toNatClampNeg < 2; decide) (hb hby d1_49) (own_narC h_c1) ?_
      intro T46 h46 X46 e46 W46 A46
      have f47 := f40.wr W46 g_b34
      have f48 := f41.wr W46
      have f49 := f42.other W46 (Or.inl ne_b32_b34)
      have f50 := f43.other W46 (Or.inl ne_b32_b34)
      have f52 := f45.wr W46
      have Z46 := Nat.le_trans Z39 (Keep.of_wr W46).1
      have K46 := K39.wr W46 (Or.inr sz_b34)
      have sk46 := Nat.le_trans sk39 (Keep.of_wr W46).1
      have A46 : own_Ar Z h46 b34 .char (List.map Value.int [c0, c1]) := A46
      have N46 := Fr.snoc X46 N39 g_b34
      show own_FinX _ _ _ _ _ (T46.setTop (mkF m 50 #[.val (.int p0), .val (.int c0), .val (.int c1)] [(.ref b34), (.ref b32), (.ref b32)]))
      refine own_callN X46 hx hZ rfl hown (hw _ (List.mem_of_getElem? (i := 8) rfl)) (hw _ (List.mem_of_getElem? (i := 9) rfl)) (hw _ (List.mem_of_getElem? (i := 6) rfl)) (hw _ (List.mem_of_getElem? (i := 10) rfl)) (by decide) (rm2n2 l Z a0 hw b32 b34 h46 n0 Z46 c0 c1 h_c0 h_c1 cs S_cs hcs f47 f48 f49 f50 g_b32 (Ne.symm ne_b32_b34) A46) e46 (a := b32) (argsL := [(.ref b34)]) (rest := [(.ref b32)]) rfl rfl (by rw [hml]; rfl) (lenOf pd_1_0 rfl) (hb hby d1_50) (W := 1) (Nat.le_of_eq rfl) (by decide) (by decide) (by decide) (by decide) ?_
      rintro v53 T53 L53 X53 ⟨rfl, M53, Kc53, Fc53, bb53, Fv53, Vb53⟩
      have N53 := Fr.app N46 M53
      have f54 := f47.keep Kc53 (allS g_b32 all0)
      have f55 := f48.keep Kc53
      have f56 := A46.keep Kc53 (ninS (Ne.symm ne_b32_b34) nin0)
      have f57 := f52.keep Kc53
      have Z53 := Nat.le_trans Z46 Kc53.1
      have K53 := K46.trans Kc53 (allS (Or.inr sz_b32) all0)
      have sk53 := Nat.le_trans sk46 Kc53.1
      show own_FinX _ _ _ _ _ (T53.setTop (mkF m 53 #[.val (.int p0), .val (.int c0), .val (.int c1)] [(.ref b32)]))
      exact own_retXA (s := s) (vm0 := s.vm) X53 hx hlk hS0 sk53 hret rfl rfl (hb hby d1_53) ⟨b32, bb53, rfl, N53, K53, sz_b32, f55, Fc53, Fv53, (by rw [own_bs, if_neg hc1, if_neg hc17]; exact Vb53)⟩ (fun fs hR => ⟨by show CHr Z own_EL0 s.vm s.heap T53.vm T53.heap; rw [eS]; exact (CHr.keep K53 own_none HC).trans (CHv.at (s := s) (vm0 := s.vm) X53 hZ hEL (CHr.keep K53 own_none HC).1), own_monoW hR (by decide) (by decide)⟩)

def own_eqL (xs ys : List Int32) : Int32 := if xs = ys then 1 else 0
theorem d13e00_0 : decode jdk_43_method_13_code 0 = .ok (.aload_n 0, 1) := by decide +kernel
theorem d13e00_1 : decode jdk_43_method_13_code 1 = .ok (.arraylength, 1) := by decide +kernel
theorem d13e00_2 : decode jdk_43_method_13_code 2 = .ok (.aload_n 1, 1) := by decide +kernel
theorem d13e00_3 : decode jdk_43_method_13_code 3 = .ok (.arraylength, 1) := by decide +kernel
theorem d13e00_4 : decode jdk_43_method_13_code 4 = .ok (.if_icmp .ne 30, 3) := by decide +kernel
theorem d13e00_7 : decode jdk_43_method_13_code 7 = .ok (.iconst 0, 1) := by decide +kernel
theorem d13e00_8 : decode jdk_43_method_13_code 8 = .ok (.istore_n 2, 1) := by decide +kernel
theorem d13e00_9 : decode jdk_43_method_13_code 9 = .ok (.iload_n 2, 1) := by decide +kernel
theorem d13e00_10 : decode jdk_43_method_13_code 10 = .ok (.aload_n 0, 1) := by decide +kernel
theorem d13e00_11 : decode jdk_43_method_13_code 11 = .ok (.arraylength, 1) := by decide +kernel
theorem d13e00_12 : decode jdk_43_method_13_code 12 = .ok (.if_icmp .ge 20, 3) := by decide +kernel
theorem d13e00_32 : decode jdk_43_method_13_code 32 = .ok (.iconst 1, 1) := by decide +kernel
theorem d13e00_33 : decode jdk_43_method_13_code 33 = .ok (.ireturn, 1) := by decide +kernel
theorem pn_13e00 : plainFor (⟨"java/lang/StringLatin1", "equals", "([B[B)Z"⟩ : MethodName) = true := plainFor_of_name (by show plainName "java/lang/StringLatin1" = true; first | (simp [plainName, overriddenIn]; done) | decide +kernel)
theorem ef_13e00 (m : MethodId) (x0 : Addr) (x1 : Addr) : entryFrame m #[(.ref x0), (.ref x1)] 3 = mkF m 0 #[.val (.ref x0), .val (.ref x1), .unset] [] := by first | (simp [entryFrame, mkF, argsToLocals, Value.category]; done) | rfl
def own_f13e00  : Int32 :=
  (1 : Int32)
set_option maxRecDepth 65536 in
set_option maxHeartbeats 40000000 in
theorem rm13e00 (l : Launch) (Z : State) (a0 : Array Value) (hw : ∀ d ∈ tables_1, d.before a0 Z = true) (ba : Addr) (bb : Addr) (h0 : Heap) (n0 : Nat) (Z0 : n0 ≤ h0.size)  (VA : own_Ar Z h0 ba .byte (List.map Value.int [])) (VB : own_Ar Z h0 bb .byte (List.map Value.int [])) :
    own_Met l (⟨"java/lang/StringLatin1", "equals", "([B[B)Z"⟩ : MethodName) jdk_43_method_13_code 3 (some .boolean) ({ frames := 0, cells := 0, slots := 0, locals := 0 } : Room) Z [] #[(.ref ba), (.ref bb)] h0 (own_P (some (.int own_f13e00)) h0 n0) := by
  refine own_enter pn_13e00 ?_
  intro p e s m below meth c s₁ hx hby hml hown hnm hret hlk hZ e0 X0
  rw [ef_13e00]
  have N0 := Fr.nil n0
  show own_Fin _ _ _ _ _ _ _ (s₁.setTop (mkF m 0 #[.val (.ref ba), .val (.ref bb), .unset] []))
  refine own_go (fun _ kk => XS.aloadN X0.here hx rfl (hb hby d13e00_0) rfl rfl kk) ?_
  show own_Fin _ _ _ _ _ _ _ (s₁.setTop (mkF m 1 #[.val (.ref ba), .val (.ref bb), .unset] [(.ref ba)]))
  refine own_alen X0 hx hZ e0 VA (hb hby d13e00_1) ?_
  show own_Fin _ _ _ _ _ _ _ (s₁.setTop (mkF m 2 #[.val (.ref ba), .val (.ref bb), .unset] [(.int (0 : Int32))]))
  refine own_go (fun _ kk => XS.aloadN X0.here hx rfl (hb hby d13e00_2) rfl rfl kk) ?_
  show own_Fin _ _ _ _ _ _ _ (s₁.setTop (mkF m 3 #[.val (.ref ba), .val (.ref bb), .unset] [(.ref bb), (.int (0 : Int32))]))
  refine own_alen X0 hx hZ e0 VB (hb hby d13e00_3) ?_
  show own_Fin _ _ _ _ _ _ _ (s₁.setTop (mkF m 4 #[.val (.ref ba), .val (.ref bb), .unset] [(.int (0 : Int32)), (.int (0 : Int32))]))
  refine own_go (fun _ kk => XS.icmpNo X0.here hx rfl (hb hby d13e00_4) rfl (XT.ii_ne_f (by decide)) (XS.iconst X0.here hx rfl (hb hby d13e00_7) (XS.istoreN X0.here hx rfl (hb hby d13e00_8) rfl (l' := #[.val (.ref ba), .val (.ref bb), .val (.int (0 : Int32))]) rfl (XS.iloadN X0.here hx rfl (hb hby d13e00_9) rfl (XS.aloadN X0.here hx rfl (hb hby d13e00_10) rfl rfl kk))))) ?_
  show own_Fin _ _ _ _ _ _ _ (s₁.setTop (mkF m 11 #[.val (.ref ba), .val (.ref bb), .val (.int (0 : Int32))] [(.ref ba), (.int (0 : Int32))]))
  refine own_alen X0 hx hZ e0 VA (hb hby d13e00_11) ?_
  show own_Fin _ _ _ _ _ _ _ (s₁.setTop (mkF m 12 #[.val (.ref ba), .val (.ref bb), .val (.int (0 : Int32))] [(.int (0 : Int32)), (.int (0 : Int32))]))
  refine own_go (fun _ kk => XS.icmpYes X0.here hx rfl (pc0 := 12) (pc' := 32) rfl (hb hby d13e00_12) rfl (XT.ii_ge_t (by decide)) (by decide) (by decide) (XS.iconst X0.here hx rfl (hb hby d13e00_32) kk)) ?_
  show own_Fin _ _ _ _ _ _ _ (s₁.setTop (mkF m 33 #[.val (.ref ba), .val (.ref bb), .val (.int (0 : Int32))] [(.int (1 : Int32))]))
  exact own_retZ X0 hx hlk hret rfl (hb hby d13e00_33) (by decide) (by decide) ⟨(by rw [own_f13e00]), N0, e0⟩

theorem own_eqe00  : own_f13e00  = own_eqL [] [] := by
  unfold own_f13e00 own_eqL
  first | rfl | (simp; done) | (repeat' split) <;> simp_all
theorem d13e01_0 : decode jdk_43_method_13_code 0 = .ok (.aload_n 0, 1) := by decide +kernel
theorem d13e01_1 : decode jdk_43_method_13_code 1 = .ok (.arraylength, 1) := by decide +kernel
theorem d13e01_2 : decode jdk_43_method_13_code 2 = .ok (.aload_n 1, 1) := by decide +kernel
theorem d13e01_3 : decode jdk_43_method_13_code 3 = .ok (.arraylength, 1) := by decide +kernel
theorem d13e01_4 : decode jdk_43_method_13_code 4 = .ok (.if_icmp .ne 30, 3) := by decide +kernel
theorem d13e01_34 : decode jdk_43_method_13_code 34 = .ok (.iconst 0, 1) := by decide +kernel
theorem d13e01_35 : decode jdk_43_method_13_code 35 = .ok (.ireturn, 1) := by decide +kernel
theorem pn_13e01 : plainFor (⟨"java/lang/StringLatin1", "equals", "([B[B)Z"⟩ : MethodName) = true := plainFor_of_name (by show plainName "java/lang/StringLatin1" = true; first | (simp [plainName, overriddenIn]; done) | decide +kernel)
theorem ef_13e01 (m : MethodId) (x0 : Addr) (x1 : Addr) : entryFrame m #[(.ref x0), (.ref x1)] 3 = mkF m 0 #[.val (.ref x0), .val (.ref x1), .unset] [] := by first | (simp [entryFrame, mkF, argsToLocals, Value.category]; done) | rfl
def own_f13e01 (y0 : Int32) : Int32 :=
  (0 : Int32)
set_option maxRecDepth 65536 in
set_option maxHeartbeats 40000000 in
theorem rm13e01 (l : Launch) (Z : State) (a0 : Array Value) (hw : ∀ d ∈ tables_1, d.before a0 Z = true) (ba : Addr) (bb : Addr) (h0 : Heap) (n0 : Nat) (Z0 : n0 ≤ h0.size) (y0 : Int32) (VA : own_Ar Z h0 ba .byte (List.map Value.int [])) (VB : own_Ar Z h0 bb .byte (List.map Value.int [y0])) :
    own_Met l (⟨"java/lang/StringLatin1", "equals", "([B[B)Z"⟩ : MethodName) jdk_43_method_13_code 3 (some .boolean) ({ frames := 0, cells := 0, slots := 0, locals := 0 } : Room) Z [] #[(.ref ba), (.ref bb)] h0 (own_P (some (.int (own_f13e01 y0))) h0 n0) := by
  refine own_enter pn_13e01 ?_
  intro p e s m below meth c s₁ hx hby hml hown hnm hret hlk hZ e0 X0
  rw [ef_13e01]
  have N0 := Fr.nil n0
  show own_Fin _ _ _ _ _ _ _ (s₁.setTop (mkF m 0 #[.val (.ref ba), .val (.ref bb), .unset] []))
  refine own_go (fun _ kk => XS.aloadN X0.here hx rfl (hb hby d13e01_0) rfl rfl kk) ?_
  show own_Fin _ _ _ _ _ _ _ (s₁.setTop (mkF m 1 #[.val (.ref ba), .val (.ref bb), .unset] [(.ref ba)]))
  refine own_alen X0 hx hZ e0 VA (hb hby d13e01_1) ?_
  show own_Fin _ _ _ _ _ _ _ (s₁.setTop (mkF m 2 #[.val (.ref ba), .val (.ref bb), .unset] [(.int (0 : Int32))]))
  refine own_go (fun _ kk => XS.aloadN X0.here hx rfl (hb hby d13e01_2) rfl rfl kk) ?_
  show own_Fin _ _ _ _ _ _ _ (s₁.setTop (mkF m 3 #[.val (.ref ba), .val (.ref bb), .unset] [(.ref bb), (.int (0 : Int32))]))
  refine own_alen X0 hx hZ e0 VB (hb hby d13e01_3) ?_
  show own_Fin _ _ _ _ _ _ _ (s₁.setTop (mkF m 4 #[.val (.ref ba), .val (.ref bb), .unset] [(.int (1 : Int32)), (.int (0 : Int32))]))
  refine own_go (fun _ kk => XS.icmpYes X0.here hx rfl (pc0 := 4) (pc' := 34) rfl (hb hby d13e01_4) rfl (XT.ii_ne_t (by decide)) (by decide) (by decide) (XS.iconst X0.here hx rfl (hb hby d13e01_34) kk)) ?_
  show own_Fin _ _ _ _ _ _ _ (s₁.setTop (mkF m 35 #[.val (.ref ba), .val (.ref bb), .unset] [(.int (0 : Int32))]))
  exact own_retZ X0 hx hlk hret rfl (hb hby d13e01_35) (by decide) (by decide) ⟨(by rw [own_f13e01]), N0, e0⟩

theorem own_eqe01 (y0 : Int32) : own_f13e01 y0 = own_eqL [] [y0] := by
  unfold own_f13e01 own_eqL
  first | rfl | (simp; done) | (repeat' split) <;> simp_all
theorem d13e02_0 : decode jdk_43_method_13_code 0 = .ok (.aload_n 0, 1) := by decide +kernel
theorem d13e02_1 : decode jdk_43_method_13_code 1 = .ok (.arraylength, 1) := by decide +kernel
theorem d13e02_2 : decode jdk_43_method_13_code 2 = .ok (.aload_n 1, 1) := by decide +kernel
theorem d13e02_3 : decode jdk_43_method_13_code 3 = .ok (.arraylength, 1) := by decide +kernel
theorem d13e02_4 : decode jdk_43_method_13_code 4 = .ok (.if_icmp .ne 30, 3) := by decide +kernel
theorem d13e02_34 : decode jdk_43_method_13_code 34 = .ok (.iconst 0, 1) := by decide +kernel
theorem d13e02_35 : decode jdk_43_method_13_code 35 = .ok (.ireturn, 1) := by decide +kernel
theorem pn_13e02 : plainFor (⟨"java/lang/StringLatin1", "equals", "([B[B)Z"⟩ : MethodName) = true := plainFor_of_name (by show plainName "java/lang/StringLatin1" = true; first | (simp [plainName, overriddenIn]; done) | decide +kernel)
theorem ef_13e02 (m : MethodId) (x0 : Addr) (x1 : Addr) : entryFrame m #[(.ref x0), (.ref x1)] 3 = mkF m 0 #[.val (.ref x0), .val (.ref x1), .unset] [] := by first | (simp [entryFrame, mkF, argsToLocals, Value.category]; done) | rfl
def own_f13e02 (y0 : Int32) (y1 : Int32) : Int32 :=
  (0 : Int32)
set_option maxRecDepth 65536 in
set_option maxHeartbeats 40000000 in
theorem rm13e02 (l : Launch) (Z : State) (a0 : Array Value) (hw : ∀ d ∈ tables_1, d.before a0 Z = true) (ba : Addr) (bb : Addr) (h0 : Heap) (n0 : Nat) (Z0 : n0 ≤ h0.size) (y0 : Int32) (y1 : Int32) (VA : own_Ar Z h0 ba .byte (List.map Value.int [])) (VB : own_Ar Z h0 bb .byte (List.map Value.int [y0, y1])) :
    own_Met l (⟨"java/lang/StringLatin1", "equals", "([B[B)Z"⟩ : MethodName) jdk_43_method_13_code 3 (some .boolean) ({ frames := 0, cells := 0, slots := 0, locals := 0 } : Room) Z [] #[(.ref ba), (.ref bb)] h0 (own_P (some (.int (own_f13e02 y0 y1))) h0 n0) := by
  refine own_enter pn_13e02 ?_
  intro p e s m below meth c s₁ hx hby hml hown hnm hret hlk hZ e0 X0
  rw [ef_13e02]
  have N0 := Fr.nil n0
  show own_Fin _ _ _ _ _ _ _ (s₁.setTop (mkF m 0 #[.val (.ref ba), .val (.ref bb), .unset] []))
  refine own_go (fun _ kk => XS.aloadN X0.here hx rfl (hb hby d13e02_0) rfl rfl kk) ?_
  show own_Fin _ _ _ _ _ _ _ (s₁.setTop (mkF m 1 #[.val (.ref ba), .val (.ref bb), .unset] [(.ref ba)]))
  refine own_alen X0 hx hZ e0 VA (hb hby d13e02_1) ?_
  show own_Fin _ _ _ _ _ _ _ (s₁.setTop (mkF m 2 #[.val (.ref ba), .val (.ref bb), .unset] [(.int (0 : Int32))]))
  refine own_go (fun _ kk => XS.aloadN X0.here hx rfl (hb hby d13e02_2) rfl rfl kk) ?_
  show own_Fin _ _ _ _ _ _ _ (s₁.setTop (mkF m 3 #[.val (.ref ba), .val (.ref bb), .unset] [(.ref bb), (.int (0 : Int32))]))
  refine own_alen X0 hx hZ e0 VB (hb hby d13e02_3) ?_
  show own_Fin _ _ _ _ _ _ _ (s₁.setTop (mkF m 4 #[.val (.ref ba), .val (.ref bb), .unset] [(.int (2 : Int32)), (.int (0 : Int32))]))
  refine own_go (fun _ kk => XS.icmpYes X0.here hx rfl (pc0 := 4) (pc' := 34) rfl (hb hby d13e02_4) rfl (XT.ii_ne_t (by decide)) (by decide) (by decide) (XS.iconst X0.here hx rfl (hb hby d13e02_34) kk)) ?_
  show own_Fin _ _ _ _ _ _ _ (s₁.setTop (mkF m 35 #[.val (.ref ba), .val (.ref bb), .unset] [(.int (0 : Int32))]))
  exact own_retZ X0 hx hlk hret rfl (hb hby d13e02_35) (by decide) (by decide) ⟨(by rw [own_f13e02]), N0, e0⟩

theorem own_eqe02 (y0 : Int32) (y1 : Int32) : own_f13e02 y0 y1 = own_eqL [] [y0, y1] := by
  unfold own_f13e02 own_eqL
  first | rfl | (simp; done) | (repeat' split) <;> simp_all
theorem d13e10_0 : decode jdk_43_method_13_code 0 = .ok (.aload_n 0, 1) := by decide +kernel
theorem d13e10_1 : decode jdk_43_method_13_code 1 = .ok (.arraylength, 1) := by decide +kernel
theorem d13e10_2 : decode jdk_43_method_13_code 2 = .ok (.aload_n 1, 1) := by decide +kernel
theorem d13e10_3 : decode jdk_43_method_13_code 3 = .ok (.arraylength, 1) := by decide +kernel
theorem d13e10_4 : decode jdk_43_method_13_code 4 = .ok (.if_icmp .ne 30, 3) := by decide +kernel
theorem d13e10_34 : decode jdk_43_method_13_code 34 = .ok (.iconst 0, 1) := by decide +kernel
theorem d13e10_35 : decode jdk_43_method_13_code 35 = .ok (.ireturn, 1) := by decide +kernel
theorem pn_13e10 : plainFor (⟨"java/lang/StringLatin1", "equals", "([B[B)Z"⟩ : MethodName) = true := plainFor_of_name (by show plainName "java/lang/StringLatin1" = true; first | (simp [plainName, overriddenIn]; done) | decide +kernel)
theorem ef_13e10 (m : MethodId) (x0 : Addr) (x1 : Addr) : entryFrame m #[(.ref x0), (.ref x1)] 3 = mkF m 0 #[.val (.ref x0), .val (.ref x1), .unset] [] := by first | (simp [entryFrame, mkF, argsToLocals, Value.category]; done) | rfl
def own_f13e10 (x0 : Int32) : Int32 :=
  (0 : Int32)
set_option maxRecDepth 65536 in
set_option maxHeartbeats 40000000 in
theorem rm13e10 (l : Launch) (Z : State) (a0 : Array Value) (hw : ∀ d ∈ tables_1, d.before a0 Z = true) (ba : Addr) (bb : Addr) (h0 : Heap) (n0 : Nat) (Z0 : n0 ≤ h0.size) (x0 : Int32) (VA : own_Ar Z h0 ba .byte (List.map Value.int [x0])) (VB : own_Ar Z h0 bb .byte (List.map Value.int [])) :
    own_Met l (⟨"java/lang/StringLatin1", "equals", "([B[B)Z"⟩ : MethodName) jdk_43_method_13_code 3 (some .boolean) ({ frames := 0, cells := 0, slots := 0, locals := 0 } : Room) Z [] #[(.ref ba), (.ref bb)] h0 (own_P (some (.int (own_f13e10 x0))) h0 n0) := by
  refine own_enter pn_13e10 ?_
  intro p e s m below meth c s₁ hx hby hml hown hnm hret hlk hZ e0 X0
  rw [ef_13e10]
  have N0 := Fr.nil n0
  show own_Fin _ _ _ _ _ _ _ (s₁.setTop (mkF m 0 #[.val (.ref ba), .val (.ref bb), .unset] []))
  refine own_go (fun _ kk => XS.aloadN X0.here hx rfl (hb hby d13e10_0) rfl rfl kk) ?_
  show own_Fin _ _ _ _ _ _ _ (s₁.setTop (mkF m 1 #[.val (.ref ba), .val (.ref bb), .unset] [(.ref ba)]))
  refine own_alen X0 hx hZ e0 VA (hb hby d13e10_1) ?_
  show own_Fin _ _ _ _ _ _ _ (s₁.setTop (mkF m 2 #[.val (.ref ba), .val (.ref bb), .unset] [(.int (1 : Int32))]))
  refine own_go (fun _ kk => XS.aloadN X0.here hx rfl (hb hby d13e10_2) rfl rfl kk) ?_
  show own_Fin _ _ _ _ _ _ _ (s₁.setTop (mkF m 3 #[.val (.ref ba), .val (.ref bb), .unset] [(.ref bb), (.int (1 : Int32))]))
  refine own_alen X0 hx hZ e0 VB (hb hby d13e10_3) ?_
  show own_Fin _ _ _ _ _ _ _ (s₁.setTop (mkF m 4 #[.val (.ref ba), .val (.ref bb), .unset] [(.int (0 : Int32)), (.int (1 : Int32))]))
  refine own_go (fun _ kk => XS.icmpYes X0.here hx rfl (pc0 := 4) (pc' := 34) rfl (hb hby d13e10_4) rfl (XT.ii_ne_t (by decide)) (by decide) (by decide) (XS.iconst X0.here hx rfl (hb hby d13e10_34) kk)) ?_
  show own_Fin _ _ _ _ _ _ _ (s₁.setTop (mkF m 35 #[.val (.ref ba), .val (.ref bb), .unset] [(.int (0 : Int32))]))
  exact own_retZ X0 hx hlk hret rfl (hb hby d13e10_35) (by decide) (by decide) ⟨(by rw [own_f13e10]), N0, e0⟩

theorem own_eqe10 (x0 : Int32) : own_f13e10 x0 = own_eqL [x0] [] := by
  unfold own_f13e10 own_eqL
  first | rfl | (simp; done) | (repeat' split) <;> simp_all
theorem d13e11_0 : decode jdk_43_method_13_code 0 = .ok (.aload_n 0, 1) := by decide +kernel
theorem d13e11_1 : decode jdk_43_method_13_code 1 = .ok (.arraylength, 1) := by decide +kernel
theorem d13e11_2 : decode jdk_43_method_13_code 2 = .ok (.aload_n 1, 1) := by decide +kernel
theorem d13e11_3 : decode jdk_43_method_13_code 3 = .ok (.arraylength, 1) := by decide +kernel
theorem d13e11_4 : decode jdk_43_method_13_code 4 = .ok (.if_icmp .ne 30, 3) := by decide +kernel
theorem d13e11_7 : decode jdk_43_method_13_code 7 = .ok (.iconst 0, 1) := by decide +kernel
theorem d13e11_8 : decode jdk_43_method_13_code 8 = .ok (.istore_n 2, 1) := by decide +kernel
theorem d13e11_9 : decode jdk_43_method_13_code 9 = .ok (.iload_n 2, 1) := by decide +kernel
theorem d13e11_10 : decode jdk_43_method_13_code 10 = .ok (.aload_n 0, 1) := by decide +kernel
theorem d13e11_11 : decode jdk_43_method_13_code 11 = .ok (.arraylength, 1) := by decide +kernel
theorem d13e11_12 : decode jdk_43_method_13_code 12 = .ok (.if_icmp .ge 20, 3) := by decide +kernel
theorem d13e11_15 : decode jdk_43_method_13_code 15 = .ok (.aload_n 0, 1) := by decide +kernel
theorem d13e11_16 : decode jdk_43_method_13_code 16 = .ok (.iload_n 2, 1) := by decide +kernel
theorem d13e11_17 : decode jdk_43_method_13_code 17 = .ok (.baload, 1) := by decide +kernel
theorem d13e11_18 : decode jdk_43_method_13_code 18 = .ok (.aload_n 1, 1) := by decide +kernel
theorem d13e11_19 : decode jdk_43_method_13_code 19 = .ok (.iload_n 2, 1) := by decide +kernel
theorem d13e11_20 : decode jdk_43_method_13_code 20 = .ok (.baload, 1) := by decide +kernel
theorem d13e11_21 : decode jdk_43_method_13_code 21 = .ok (.if_icmp .eq 5, 3) := by decide +kernel
theorem d13e11_24 : decode jdk_43_method_13_code 24 = .ok (.iconst 0, 1) := by decide +kernel
theorem d13e11_25 : decode jdk_43_method_13_code 25 = .ok (.ireturn, 1) := by decide +kernel
theorem d13e11_26 : decode jdk_43_method_13_code 26 = .ok (.iinc 2 1, 3) := by decide +kernel
theorem d13e11_29 : decode jdk_43_method_13_code 29 = .ok (.goto (-20), 3) := by decide +kernel
theorem d13e11_32 : decode jdk_43_method_13_code 32 = .ok (.iconst 1, 1) := by decide +kernel
theorem d13e11_33 : decode jdk_43_method_13_code 33 = .ok (.ireturn, 1) := by decide +kernel
theorem pn_13e11 : plainFor (⟨"java/lang/StringLatin1", "equals", "([B[B)Z"⟩ : MethodName) = true := plainFor_of_name (by show plainName "java/lang/StringLatin1" = true; first | (simp [plainName, overriddenIn]; done) | decide +kernel)
theorem ef_13e11 (m : MethodId) (x0 : Addr) (x1 : Addr) : entryFrame m #[(.ref x0), (.ref x1)] 3 = mkF m 0 #[.val (.ref x0), .val (.ref x1), .unset] [] := by first | (simp [entryFrame, mkF, argsToLocals, Value.category]; done) | rfl
def own_f13e11 (x0 : Int32) (y0 : Int32) : Int32 :=
  if x0 = y0 then
    (1 : Int32)
  else
    (0 : Int32)
set_option maxRecDepth 65536 in
set_option maxHeartbeats 40000000 in
theorem rm13e11 (l : Launch) (Z : State) (a0 : Array Value) (hw : ∀ d ∈ tables_1, d.before a0 Z = true) (ba : Addr) (bb : Addr) (h0 : Heap) (n0 : Nat) (Z0 : n0 ≤ h0.size) (x0 : Int32) (y0 : Int32) (VA : own_Ar Z h0 ba .byte (List.map Value.int [x0])) (VB : own_Ar Z h0 bb .byte (List.map Value.int [y0])) :
    own_Met l (⟨"java/lang/StringLatin1", "equals", "([B[B)Z"⟩ : MethodName) jdk_43_method_13_code 3 (some .boolean) ({ frames := 0, cells := 0, slots := 0, locals := 0 } : Room) Z [] #[(.ref ba), (.ref bb)] h0 (own_P (some (.int (own_f13e11 x0 y0))) h0 n0) := by
  refine own_enter pn_13e11 ?_
  intro p e s m below meth c s₁ hx hby hml hown hnm hret hlk hZ e0 X0
  rw [ef_13e11]
  have N0 := Fr.nil n0
  show own_Fin _ _ _ _ _ _ _ (s₁.setTop (mkF m 0 #[.val (.ref ba), .val (.ref bb), .unset] []))
  refine own_go (fun _ kk => XS.aloadN X0.here hx rfl (hb hby d13e11_0) rfl rfl kk) ?_
  show own_Fin _ _ _ _ _ _ _ (s₁.setTop (mkF m 1 #[.val (.ref ba), .val (.ref bb), .unset] [(.ref ba)]))
  refine own_alen X0 hx hZ e0 VA (hb hby d13e11_1) ?_
  show own_Fin _ _ _ _ _ _ _ (s₁.setTop (mkF m 2 #[.val (.ref ba), .val (.ref bb), .unset] [(.int (1 : Int32))]))
  refine own_go (fun _ kk => XS.aloadN X0.here hx rfl (hb hby d13e11_2) rfl rfl kk) ?_
  show own_Fin _ _ _ _ _ _ _ (s₁.setTop (mkF m 3 #[.val (.ref ba), .val (.ref bb), .unset] [(.ref bb), (.int (1 : Int32))]))
  refine own_alen X0 hx hZ e0 VB (hb hby d13e11_3) ?_
  show own_Fin _ _ _ _ _ _ _ (s₁.setTop (mkF m 4 #[.val (.ref ba), .val (.ref bb), .unset] [(.int (1 : Int32)), (.int (1 : Int32))]))
  refine own_go (fun _ kk => XS.icmpNo X0.here hx rfl (hb hby d13e11_4) rfl (XT.ii_ne_f (by decide)) (XS.iconst X0.here hx rfl (hb hby d13e11_7) (XS.istoreN X0.here hx rfl (hb hby d13e11_8) rfl (l' := #[.val (.ref ba), .val (.ref bb), .val (.int (0 : Int32))]) rfl (XS.iloadN X0.here hx rfl (hb hby d13e11_9) rfl (XS.aloadN X0.here hx rfl (hb hby d13e11_10) rfl rfl kk))))) ?_
  show own_Fin _ _ _ _ _ _ _ (s₁.setTop (mkF m 11 #[.val (.ref ba), .val (.ref bb), .val (.int (0 : Int32))] [(.ref ba), (.int (0 : Int32))]))
  refine own_alen X0 hx hZ e0 VA (hb hby d13e11_11) ?_
  show own_Fin _ _ _ _ _ _ _ (s₁.setTop (mkF m 12 #[.val (.ref ba), .val (.ref bb), .val (.int (0 : Int32))] [(.int (1 : Int32)), (.int (0 : Int32))]))
  refine own_go (fun _ kk => XS.icmpNo X0.here hx rfl (hb hby d13e11_12) rfl (XT.ii_ge_f (by decide)) (XS.aloadN X0.here hx rfl (hb hby d13e11_15) rfl rfl (XS.iloadN X0.here hx rfl (hb hby d13e11_16) rfl kk))) ?_
  show own_Fin _ _ _ _ _ _ _ (s₁.setTop (mkF m 17 #[.val (.ref ba), .val (.ref bb), .val (.int (0 : Int32))] [(.int (0 : Int32)), (.ref ba)]))
  refine own_ldB X0 hx hZ e0 VA (by decide) (by show (0 : Int32).toNatClampNeg < 1; decide) (hb hby d13e11_17) ?_
  show own_Fin _ _ _ _ _ _ _ (s₁.setTop (mkF m 18 #[.val (.ref ba), .val (.ref bb), .val (.int (0 : Int32))] [(.int x0)]))
  refine own_go (fun _ kk => XS.aloadN X0.here hx rfl (hb hby d13e11_18) rfl rfl (XS.iloadN X0.here hx rfl (hb hby d13e11_19) rfl kk)) ?_
  show own_Fin _ _ _ _ _ _ _ (s₁.setTop (mkF m 20 #[.val (.ref ba), .val (.ref bb), .val (.int (0 : Int32))] [(.int (0 : Int32)), (.ref bb), (.int x0)]))
  refine own_ldB X0 hx hZ e0 VB (by decide) (by show (0 : Int32).toNatClampNeg < 1; decide) (hb hby d13e11_20) ?_
  show own_Fin _ _ _ _ _ _ _ (s₁.setTop (mkF m 21 #[.val (.ref ba), .val (.ref bb), .val (.int (0 : Int32))] [(.int y0), (.int x0)]))
  by_cases hc21 : x0 = y0
  · refine own_go (fun _ kk => XS.icmpYes X0.here hx rfl (pc0 := 21) (pc' := 26) rfl (hb hby d13e11_21) rfl (XT.ii_eq_t hc21) (by decide) (by decide) (XS.iinc X0.here hx rfl (hb hby d13e11_26) rfl (l' := #[.val (.ref ba), .val (.ref bb), .val (.int (1 : Int32))]) rfl (XS.goto X0.here hx rfl (pc0 := 29) (pc' := 9) rfl (hb hby d13e11_29) (by decide) (by decide) (XS.iloadN X0.here hx rfl (hb hby d13e11_9) rfl (XS.aloadN X0.here hx rfl (hb hby d13e11_10) rfl rfl kk))))) ?_
    show own_Fin _ _ _ _ _ _ _ (s₁.setTop (mkF m 11 #[.val (.ref ba), .val (.ref bb), .val (.int (1 : Int32))] [(.ref ba), (.int (1 : Int32))]))
    refine own_alen X0 hx hZ e0 VA (hb hby d13e11_11) ?_
    show own_Fin _ _ _ _ _ _ _ (s₁.setTop (mkF m 12 #[.val (.ref ba), .val (.ref bb), .val (.int (1 : Int32))] [(.int (1 : Int32)), (.int (1 : Int32))]))
    refine own_go (fun _ kk => XS.icmpYes X0.here hx rfl (pc0 := 12) (pc' := 32) rfl (hb hby d13e11_12) rfl (XT.ii_ge_t (by decide)) (by decide) (by decide) (XS.iconst X0.here hx rfl (hb hby d13e11_32) kk)) ?_
    show own_Fin _ _ _ _ _ _ _ (s₁.setTop (mkF m 33 #[.val (.ref ba), .val (.ref bb), .val (.int (1 : Int32))] [(.int (1 : Int32))]))
    exact own_retZ X0 hx hlk hret rfl (hb hby d13e11_33) (by decide) (by decide) ⟨(by rw [own_f13e11, if_pos hc21]), N0, e0⟩
  · refine own_go (fun _ kk => XS.icmpNo X0.here hx rfl (hb hby d13e11_21) rfl (XT.ii_eq_f hc21) (XS.iconst X0.here hx rfl (hb hby d13e11_24) kk)) ?_
    show own_Fin _ _ _ _ _ _ _ (s₁.setTop (mkF m 25 #[.val (.ref ba), .val (.ref bb), .val (.int (0 : Int32))] [(.int (0 : Int32))]))
    exact own_retZ X0 hx hlk hret rfl (hb hby d13e11_25) (by decide) (by decide) ⟨(by rw [own_f13e11, if_neg hc21]), N0, e0⟩

theorem own_eqe11 (x0 : Int32) (y0 : Int32) : own_f13e11 x0 y0 = own_eqL [x0] [y0] := by
  unfold own_f13e11 own_eqL
  first | rfl | (simp; done) | (repeat' split) <;> simp_all
theorem d13e12_0 : decode jdk_43_method_13_code 0 = .ok (.aload_n 0, 1) := by decide +kernel
theorem d13e12_1 : decode jdk_43_method_13_code 1 = .ok (.arraylength, 1) := by decide +kernel
theorem d13e12_2 : decode jdk_43_method_13_code 2 = .ok (.aload_n 1, 1) := by decide +kernel
theorem d13e12_3 : decode jdk_43_method_13_code 3 = .ok (.arraylength, 1) := by decide +kernel
theorem d13e12_4 : decode jdk_43_method_13_code 4 = .ok (.if_icmp .ne 30, 3) := by decide +kernel
theorem d13e12_34 : decode jdk_43_method_13_code 34 = .ok (.iconst 0, 1) := by decide +kernel
theorem d13e12_35 : decode jdk_43_method_13_code 35 = .ok (.ireturn, 1) := by decide +kernel
theorem pn_13e12 : plainFor (⟨"java/lang/StringLatin1", "equals", "([B[B)Z"⟩ : MethodName) = true := plainFor_of_name (by show plainName "java/lang/StringLatin1" = true; first | (simp [plainName, overriddenIn]; done) | decide +kernel)
theorem ef_13e12 (m : MethodId) (x0 : Addr) (x1 : Addr) : entryFrame m #[(.ref x0), (.ref x1)] 3 = mkF m 0 #[.val (.ref x0), .val (.ref x1), .unset] [] := by first | (simp [entryFrame, mkF, argsToLocals, Value.category]; done) | rfl
def own_f13e12 (x0 : Int32) (y0 : Int32) (y1 : Int32) : Int32 :=
  (0 : Int32)
set_option maxRecDepth 65536 in
set_option maxHeartbeats 40000000 in
theorem rm13e12 (l : Launch) (Z : State) (a0 : Array Value) (hw : ∀ d ∈ tables_1, d.before a0 Z = true) (ba : Addr) (bb : Addr) (h0 : Heap) (n0 : Nat) (Z0 : n0 ≤ h0.size) (x0 : Int32) (y0 : Int32) (y1 : Int32) (VA : own_Ar Z h0 ba .byte (List.map Value.int [x0])) (VB : own_Ar Z h0 bb .byte (List.map Value.int [y0, y1])) :
    own_Met l (⟨"java/lang/StringLatin1", "equals", "([B[B)Z"⟩ : MethodName) jdk_43_method_13_code 3 (some .boolean) ({ frames := 0, cells := 0, slots := 0, locals := 0 } : Room) Z [] #[(.ref ba), (.ref bb)] h0 (own_P (some (.int (own_f13e12 x0 y0 y1))) h0 n0) := by
  refine own_enter pn_13e12 ?_
  intro p e s m below meth c s₁ hx hby hml hown hnm hret hlk hZ e0 X0
  rw [ef_13e12]
  have N0 := Fr.nil n0
  show own_Fin _ _ _ _ _ _ _ (s₁.setTop (mkF m 0 #[.val (.ref ba), .val (.ref bb), .unset] []))
  refine own_go (fun _ kk => XS.aloadN X0.here hx rfl (hb hby d13e12_0) rfl rfl kk) ?_
  show own_Fin _ _ _ _ _ _ _ (s₁.setTop (mkF m 1 #[.val (.ref ba), .val (.ref bb), .unset] [(.ref ba)]))
  refine own_alen X0 hx hZ e0 VA (hb hby d13e12_1) ?_
  show own_Fin _ _ _ _ _ _ _ (s₁.setTop (mkF m 2 #[.val (.ref ba), .val (.ref bb), .unset] [(.int (1 : Int32))]))
  refine own_go (fun _ kk => XS.aloadN X0.here hx rfl (hb hby d13e12_2) rfl rfl kk) ?_
  show own_Fin _ _ _ _ _ _ _ (s₁.setTop (mkF m 3 #[.val (.ref ba), .val (.ref bb), .unset] [(.ref bb), (.int (1 : Int32))]))
  refine own_alen X0 hx hZ e0 VB (hb hby d13e12_3) ?_
  show own_Fin _ _ _ _ _ _ _ (s₁.setTop (mkF m 4 #[.val (.ref ba), .val (.ref bb), .unset] [(.int (2 : Int32)), (.int (1 : Int32))]))
  refine own_go (fun _ kk => XS.icmpYes X0.here hx rfl (pc0 := 4) (pc' := 34) rfl (hb hby d13e12_4) rfl (XT.ii_ne_t (by decide)) (by decide) (by decide) (XS.iconst X0.here hx rfl (hb hby d13e12_34) kk)) ?_
  show own_Fin _ _ _ _ _ _ _ (s₁.setTop (mkF m 35 #[.val (.ref ba), .val (.ref bb), .unset] [(.int (0 : Int32))]))
  exact own_retZ X0 hx hlk hret rfl (hb hby d13e12_35) (by decide) (by decide) ⟨(by rw [own_f13e12]), N0, e0⟩

theorem own_eqe12 (x0 : Int32) (y0 : Int32) (y1 : Int32) : own_f13e12 x0 y0 y1 = own_eqL [x0] [y0, y1] := by
  unfold own_f13e12 own_eqL
  first | rfl | (simp; done) | (repeat' split) <;> simp_all
theorem d13e20_0 : decode jdk_43_method_13_code 0 = .ok (.aload_n 0, 1) := by decide +kernel
theorem d13e20_1 : decode jdk_43_method_13_code 1 = .ok (.arraylength, 1) := by decide +kernel
theorem d13e20_2 : decode jdk_43_method_13_code 2 = .ok (.aload_n 1, 1) := by decide +kernel
theorem d13e20_3 : decode jdk_43_method_13_code 3 = .ok (.arraylength, 1) := by decide +kernel
theorem d13e20_4 : decode jdk_43_method_13_code 4 = .ok (.if_icmp .ne 30, 3) := by decide +kernel
theorem d13e20_34 : decode jdk_43_method_13_code 34 = .ok (.iconst 0, 1) := by decide +kernel
theorem d13e20_35 : decode jdk_43_method_13_code 35 = .ok (.ireturn, 1) := by decide +kernel
theorem pn_13e20 : plainFor (⟨"java/lang/StringLatin1", "equals", "([B[B)Z"⟩ : MethodName) = true := plainFor_of_name (by show plainName "java/lang/StringLatin1" = true; first | (simp [plainName, overriddenIn]; done) | decide +kernel)
theorem ef_13e20 (m : MethodId) (x0 : Addr) (x1 : Addr) : entryFrame m #[(.ref x0), (.ref x1)] 3 = mkF m 0 #[.val (.ref x0), .val (.ref x1), .unset] [] := by first | (simp [entryFrame, mkF, argsToLocals, Value.category]; done) | rfl
def own_f13e20 (x0 : Int32) (x1 : Int32) : Int32 :=
  (0 : Int32)
set_option maxRecDepth 65536 in
set_option maxHeartbeats 40000000 in
theorem rm13e20 (l : Launch) (Z : State) (a0 : Array Value) (hw : ∀ d ∈ tables_1, d.before a0 Z = true) (ba : Addr) (bb : Addr) (h0 : Heap) (n0 : Nat) (Z0 : n0 ≤ h0.size) (x0 : Int32) (x1 : Int32) (VA : own_Ar Z h0 ba .byte (List.map Value.int [x0, x1])) (VB : own_Ar Z h0 bb .byte (List.map Value.int [])) :
    own_Met l (⟨"java/lang/StringLatin1", "equals", "([B[B)Z"⟩ : MethodName) jdk_43_method_13_code 3 (some .boolean) ({ frames := 0, cells := 0, slots := 0, locals := 0 } : Room) Z [] #[(.ref ba), (.ref bb)] h0 (own_P (some (.int (own_f13e20 x0 x1))) h0 n0) := by
  refine own_enter pn_13e20 ?_
  intro p e s m below meth c s₁ hx hby hml hown hnm hret hlk hZ e0 X0
  rw [ef_13e20]
  have N0 := Fr.nil n0
  show own_Fin _ _ _ _ _ _ _ (s₁.setTop (mkF m 0 #[.val (.ref ba), .val (.ref bb), .unset] []))
  refine own_go (fun _ kk => XS.aloadN X0.here hx rfl (hb hby d13e20_0) rfl rfl kk) ?_
  show own_Fin _ _ _ _ _ _ _ (s₁.setTop (mkF m 1 #[.val (.ref ba), .val (.ref bb), .unset] [(.ref ba)]))
  refine own_alen X0 hx hZ e0 VA (hb hby d13e20_1) ?_
  show own_Fin _ _ _ _ _ _ _ (s₁.setTop (mkF m 2 #[.val (.ref ba), .val (.ref bb), .unset] [(.int (2 : Int32))]))
  refine own_go (fun _ kk => XS.aloadN X0.here hx rfl (hb hby d13e20_2) rfl rfl kk) ?_
  show own_Fin _ _ _ _ _ _ _ (s₁.setTop (mkF m 3 #[.val (.ref ba), .val (.ref bb), .unset] [(.ref bb), (.int (2 : Int32))]))
  refine own_alen X0 hx hZ e0 VB (hb hby d13e20_3) ?_
  show own_Fin _ _ _ _ _ _ _ (s₁.setTop (mkF m 4 #[.val (.ref ba), .val (.ref bb), .unset] [(.int (0 : Int32)), (.int (2 : Int32))]))
  refine own_go (fun _ kk => XS.icmpYes X0.here hx rfl (pc0 := 4) (pc' := 34) rfl (hb hby d13e20_4) rfl (XT.ii_ne_t (by decide)) (by decide) (by decide) (XS.iconst X0.here hx rfl (hb hby d13e20_34) kk)) ?_
  show own_Fin _ _ _ _ _ _ _ (s₁.setTop (mkF m 35 #[.val (.ref ba), .val (.ref bb), .unset] [(.int (0 : Int32))]))
  exact own_retZ X0 hx hlk hret rfl (hb hby d13e20_35) (by decide) (by decide) ⟨(by rw [own_f13e20]), N0, e0⟩

theorem own_eqe20 (x0 : Int32) (x1 : Int32) : own_f13e20 x0 x1 = own_eqL [x0, x1] [] := by
  unfold own_f13e20 own_eqL
  first | rfl | (simp; done) | (repeat' split) <;> simp_all
theorem d13e21_0 : decode jdk_43_method_13_code 0 = .ok (.aload_n 0, 1) := by decide +kernel
theorem d13e21_1 : decode jdk_43_method_13_code 1 = .ok (.arraylength, 1) := by decide +kernel
theorem d13e21_2 : decode jdk_43_method_13_code 2 = .ok (.aload_n 1, 1) := by decide +kernel
theorem d13e21_3 : decode jdk_43_method_13_code 3 = .ok (.arraylength, 1) := by decide +kernel
theorem d13e21_4 : decode jdk_43_method_13_code 4 = .ok (.if_icmp .ne 30, 3) := by decide +kernel
theorem d13e21_34 : decode jdk_43_method_13_code 34 = .ok (.iconst 0, 1) := by decide +kernel
theorem d13e21_35 : decode jdk_43_method_13_code 35 = .ok (.ireturn, 1) := by decide +kernel
theorem pn_13e21 : plainFor (⟨"java/lang/StringLatin1", "equals", "([B[B)Z"⟩ : MethodName) = true := plainFor_of_name (by show plainName "java/lang/StringLatin1" = true; first | (simp [plainName, overriddenIn]; done) | decide +kernel)
theorem ef_13e21 (m : MethodId) (x0 : Addr) (x1 : Addr) : entryFrame m #[(.ref x0), (.ref x1)] 3 = mkF m 0 #[.val (.ref x0), .val (.ref x1), .unset] [] := by first | (simp [entryFrame, mkF, argsToLocals, Value.category]; done) | rfl
def own_f13e21 (x0 : Int32) (x1 : Int32) (y0 : Int32) : Int32 :=
  (0 : Int32)
set_option maxRecDepth 65536 in
set_option maxHeartbeats 40000000 in
theorem rm13e21 (l : Launch) (Z : State) (a0 : Array Value) (hw : ∀ d ∈ tables_1, d.before a0 Z = true) (ba : Addr) (bb : Addr) (h0 : Heap) (n0 : Nat) (Z0 : n0 ≤ h0.size) (x0 : Int32) (x1 : Int32) (y0 : Int32) (VA : own_Ar Z h0 ba .byte (List.map Value.int [x0, x1])) (VB : own_Ar Z h0 bb .byte (List.map Value.int [y0])) :
    own_Met l (⟨"java/lang/StringLatin1", "equals", "([B[B)Z"⟩ : MethodName) jdk_43_method_13_code 3 (some .boolean) ({ frames := 0, cells := 0, slots := 0, locals := 0 } : Room) Z [] #[(.ref ba), (.ref bb)] h0 (own_P (some (.int (own_f13e21 x0 x1 y0))) h0 n0) := by
  refine own_enter pn_13e21 ?_
  intro p e s m below meth c s₁ hx hby hml hown hnm hret hlk hZ e0 X0
  rw [ef_13e21]
  have N0 := Fr.nil n0
  show own_Fin _ _ _ _ _ _ _ (s₁.setTop (mkF m 0 #[.val (.ref ba), .val (.ref bb), .unset] []))
  refine own_go (fun _ kk => XS.aloadN X0.here hx rfl (hb hby d13e21_0) rfl rfl kk) ?_
  show own_Fin _ _ _ _ _ _ _ (s₁.setTop (mkF m 1 #[.val (.ref ba), .val (.ref bb), .unset] [(.ref ba)]))
  refine own_alen X0 hx hZ e0 VA (hb hby d13e21_1) ?_
  show own_Fin _ _ _ _ _ _ _ (s₁.setTop (mkF m 2 #[.val (.ref ba), .val (.ref bb), .unset] [(.int (2 : Int32))]))
  refine own_go (fun _ kk => XS.aloadN X0.here hx rfl (hb hby d13e21_2) rfl rfl kk) ?_
  show own_Fin _ _ _ _ _ _ _ (s₁.setTop (mkF m 3 #[.val (.ref ba), .val (.ref bb), .unset] [(.ref bb), (.int (2 : Int32))]))
  refine own_alen X0 hx hZ e0 VB (hb hby d13e21_3) ?_
  show own_Fin _ _ _ _ _ _ _ (s₁.setTop (mkF m 4 #[.val (.ref ba), .val (.ref bb), .unset] [(.int (1 : Int32)), (.int (2 : Int32))]))
  refine own_go (fun _ kk => XS.icmpYes X0.here hx rfl (pc0 := 4) (pc' := 34) rfl (hb hby d13e21_4) rfl (XT.ii_ne_t (by decide)) (by decide) (by decide) (XS.iconst X0.here hx rfl (hb hby d13e21_34) kk)) ?_
  show own_Fin _ _ _ _ _ _ _ (s₁.setTop (mkF m 35 #[.val (.ref ba), .val (.ref bb), .unset] [(.int (0 : Int32))]))
  exact own_retZ X0 hx hlk hret rfl (hb hby d13e21_35) (by decide) (by decide) ⟨(by rw [own_f13e21]), N0, e0⟩

theorem own_eqe21 (x0 : Int32) (x1 : Int32) (y0 : Int32) : own_f13e21 x0 x1 y0 = own_eqL [x0, x1] [y0] := by
  unfold own_f13e21 own_eqL
  first | rfl | (simp; done) | (repeat' split) <;> simp_all
theorem d13e22_0 : decode jdk_43_method_13_code 0 = .ok (.aload_n 0, 1) := by decide +kernel
theorem d13e22_1 : decode jdk_43_method_13_code 1 = .ok (.arraylength, 1) := by decide +kernel
theorem d13e22_2 : decode jdk_43_method_13_code 2 = .ok (.aload_n 1, 1) := by decide +kernel
theorem d13e22_3 : decode jdk_43_method_13_code 3 = .ok (.arraylength, 1) := by decide +kernel
theorem d13e22_4 : decode jdk_43_method_13_code 4 = .ok (.if_icmp .ne 30, 3) := by decide +kernel
theorem d13e22_7 : decode jdk_43_method_13_code 7 = .ok (.iconst 0, 1) := by decide +kernel
theorem d13e22_8 : decode jdk_43_method_13_code 8 = .ok (.istore_n 2, 1) := by decide +kernel
theorem d13e22_9 : decode jdk_43_method_13_code 9 = .ok (.iload_n 2, 1) := by decide +kernel
theorem d13e22_10 : decode jdk_43_method_13_code 10 = .ok (.aload_n 0, 1) := by decide +kernel
theorem d13e22_11 : decode jdk_43_method_13_code 11 = .ok (.arraylength, 1) := by decide +kernel
theorem d13e22_12 : decode jdk_43_method_13_code 12 = .ok (.if_icmp .ge 20, 3) := by decide +kernel
theorem d13e22_15 : decode jdk_43_method_13_code 15 = .ok (.aload_n 0, 1) := by decide +kernel
theorem d13e22_16 : decode jdk_43_method_13_code 16 = .ok (.iload_n 2, 1) := by decide +kernel
theorem d13e22_17 : decode jdk_43_method_13_code 17 = .ok (.baload, 1) := by decide +kernel
theorem d13e22_18 : decode jdk_43_method_13_code 18 = .ok (.aload_n 1, 1) := by decide +kernel
theorem d13e22_19 : decode jdk_43_method_13_code 19 = .ok (.iload_n 2, 1) := by decide +kernel
theorem d13e22_20 : decode jdk_43_method_13_code 20 = .ok (.baload, 1) := by decide +kernel
theorem d13e22_21 : decode jdk_43_method_13_code 21 = .ok (.if_icmp .eq 5, 3) := by decide +kernel
theorem d13e22_24 : decode jdk_43_method_13_code 24 = .ok (.iconst 0, 1) := by decide +kernel
theorem d13e22_25 : decode jdk_43_method_13_code 25 = .ok (.ireturn, 1) := by decide +kernel
theorem d13e22_26 : decode jdk_43_method_13_code 26 = .ok (.iinc 2 1, 3) := by decide +kernel
theorem d13e22_29 : decode jdk_43_method_13_code 29 = .ok (.goto (-20), 3) := by decide +kernel
theorem d13e22_32 : decode jdk_43_method_13_code 32 = .ok (.iconst 1, 1) := by decide +kernel
theorem d13e22_33 : decode jdk_43_method_13_code 33 = .ok (.ireturn, 1) := by decide +kernel
theorem pn_13e22 : plainFor (⟨"java/lang/StringLatin1", "equals", "([B[B)Z"⟩ : MethodName) = true := plainFor_of_name (by show plainName "java/lang/StringLatin1" = true; first | (simp [plainName, overriddenIn]; done) | decide +kernel)
theorem ef_13e22 (m : MethodId) (x0 : Addr) (x1 : Addr) : entryFrame m #[(.ref x0), (.ref x1)] 3 = mkF m 0 #[.val (.ref x0), .val (.ref x1), .unset] [] := by first | (simp [entryFrame, mkF, argsToLocals, Value.category]; done) | rfl
def own_f13e22 (x0 : Int32) (x1 : Int32) (y0 : Int32) (y1 : Int32) : Int32 :=
  if x0 = y0 then
    if x1 = y1 then
      (1 : Int32)
    else
      (0 : Int32)
  else
    (0 : Int32)
set_option maxRecDepth 65536 in
set_option maxHeartbeats 40000000 in
theorem rm13e22 (l : Launch) (Z : State) (a0 : Array Value) (hw : ∀ d ∈ tables_1, d.before a0 Z = true) (ba : Addr) (bb : Addr) (h0 : Heap) (n0 : Nat) (Z0 : n0 ≤ h0.size) (x0 : Int32) (x1 : Int32) (y0 : Int32) (y1 : Int32) (VA : own_Ar Z h0 ba .byte (List.map Value.int [x0, x1])) (VB : own_Ar Z h0 bb .byte (List.map Value.int [y0, y1])) :
    own_Met l (⟨"java/lang/StringLatin1", "equals", "([B[B)Z"⟩ : MethodName) jdk_43_method_13_code 3 (some .boolean) ({ frames := 0, cells := 0, slots := 0, locals := 0 } : Room) Z [] #[(.ref ba), (.ref bb)] h0 (own_P (some (.int (own_f13e22 x0 x1 y0 y1))) h0 n0) := by
  refine own_enter pn_13e22 ?_
  intro p e s m below meth c s₁ hx hby hml hown hnm hret hlk hZ e0 X0
  rw [ef_13e22]
  have N0 := Fr.nil n0
  show own_Fin _ _ _ _ _ _ _ (s₁.setTop (mkF m 0 #[.val (.ref ba), .val (.ref bb), .unset] []))
  refine own_go (fun _ kk => XS.aloadN X0.here hx rfl (hb hby d13e22_0) rfl rfl kk) ?_
  show own_Fin _ _ _ _ _ _ _ (s₁.setTop (mkF m 1 #[.val (.ref ba), .val (.ref bb), .unset] [(.ref ba)]))
  refine own_alen X0 hx hZ e0 VA (hb hby d13e22_1) ?_
  show own_Fin _ _ _ _ _ _ _ (s₁.setTop (mkF m 2 #[.val (.ref ba), .val (.ref bb), .unset] [(.int (2 : Int32))]))
  refine own_go (fun _ kk => XS.aloadN X0.here hx rfl (hb hby d13e22_2) rfl rfl kk) ?_
  show own_Fin _ _ _ _ _ _ _ (s₁.setTop (mkF m 3 #[.val (.ref ba), .val (.ref bb), .unset] [(.ref bb), (.int (2 : Int32))]))
  refine own_alen X0 hx hZ e0 VB (hb hby d13e22_3) ?_
  show own_Fin _ _ _ _ _ _ _ (s₁.setTop (mkF m 4 #[.val (.ref ba), .val (.ref bb), .unset] [(.int (2 : Int32)), (.int (2 : Int32))]))
  refine own_go (fun _ kk => XS.icmpNo X0.here hx rfl (hb hby d13e22_4) rfl (XT.ii_ne_f (by decide)) (XS.iconst X0.here hx rfl (hb hby d13e22_7) (XS.istoreN X0.here hx rfl (hb hby d13e22_8) rfl (l' := #[.val (.ref ba), .val (.ref bb), .val (.int (0 : Int32))]) rfl (XS.iloadN X0.here hx rfl (hb hby d13e22_9) rfl (XS.aloadN X0.here hx rfl (hb hby d13e22_10) rfl rfl kk))))) ?_
  show own_Fin _ _ _ _ _ _ _ (s₁.setTop (mkF m 11 #[.val (.ref ba), .val (.ref bb), .val (.int (0 : Int32))] [(.ref ba), (.int (0 : Int32))]))
  refine own_alen X0 hx hZ e0 VA (hb hby d13e22_11) ?_
  show own_Fin _ _ _ _ _ _ _ (s₁.setTop (mkF m 12 #[.val (.ref ba), .val (.ref bb), .val (.int (0 : Int32))] [(.int (2 : Int32)), (.int (0 : Int32))]))
  refine own_go (fun _ kk => XS.icmpNo X0.here hx rfl (hb hby d13e22_12) rfl (XT.ii_ge_f (by decide)) (XS.aloadN X0.here hx rfl (hb hby d13e22_15) rfl rfl (XS.iloadN X0.here hx rfl (hb hby d13e22_16) rfl kk))) ?_
  show own_Fin _ _ _ _ _ _ _ (s₁.setTop (mkF m 17 #[.val (.ref ba), .val (.ref bb), .val (.int (0 : Int32))] [(.int (0 : Int32)), (.ref ba)]))
  refine own_ldB X0 hx hZ e0 VA (by decide) (by show (0 : Int32).toNatClampNeg < 2; decide) (hb hby d13e22_17) ?_
  show own_Fin _ _ _ _ _ _ _ (s₁.setTop (mkF m 18 #[.val (.ref ba), .val (.ref bb), .val (.int (0 : Int32))] [(.int x0)]))
  refine own_go (fun _ kk => XS.aloadN X0.here hx rfl (hb hby d13e22_18) rfl rfl (XS.iloadN X0.here hx rfl (hb hby d13e22_19) rfl kk)) ?_
  show own_Fin _ _ _ _ _ _ _ (s₁.setTop (mkF m 20 #[.val (.ref ba), .val (.ref bb), .val (.int (0 : Int32))] [(.int (0 : Int32)), (.ref bb), (.int x0)]))
  refine own_ldB X0 hx hZ e0 VB (by decide) (by show (0 : Int32).toNatClampNeg < 2; decide) (hb hby d13e22_20) ?_
  show own_Fin _ _ _ _ _ _ _ (s₁.setTop (mkF m 21 #[.val (.ref ba), .val (.ref bb), .val (.int (0 : Int32))] [(.int y0), (.int x0)]))
  by_cases hc21 : x0 = y0
  · refine own_go (fun _ kk => XS.icmpYes X0.here hx rfl (pc0 := 21) (pc' := 26) rfl (hb hby d13e22_21) rfl (XT.ii_eq_t hc21) (by decide) (by decide) (XS.iinc X0.here hx rfl (hb hby d13e22_26) rfl (l' := #[.val (.ref ba), .val (.ref bb), .val (.int (1 : Int32))]) rfl (XS.goto X0.here hx rfl (pc0 := 29) (pc' := 9) rfl (hb hby d13e22_29) (by decide) (by decide) (XS.iloadN X0.here hx rfl (hb hby d13e22_9) rfl (XS.aloadN X0.here hx rfl (hb hby d13e22_10) rfl rfl kk))))) ?_
    show own_Fin _ _ _ _ _ _ _ (s₁.setTop (mkF m 11 #[.val (.ref ba), .val (.ref bb), .val (.int (1 : Int32))] [(.ref ba), (.int (1 : Int32))]))
    refine own_alen X0 hx hZ e0 VA (hb hby d13e22_11) ?_
    show own_Fin _ _ _ _ _ _ _ (s₁.setTop (mkF m 12 #[.val (.ref ba), .val (.ref bb), .val (.int (1 : Int32))] [(.int (2 : Int32)), (.int (1 : Int32))]))
    refine own_go (fun _ kk => XS.icmpNo X0.here hx rfl (hb hby d13e22_12) rfl (XT.ii_ge_f (by decide)) (XS.aloadN X0.here hx rfl (hb hby d13e22_15) rfl rfl (XS.iloadN X0.here hx rfl (hb hby d13e22_16) rfl kk))) ?_
    show own_Fin _ _ _ _ _ _ _ (s₁.setTop (mkF m 17 #[.val (.ref ba), .val (.ref bb), .val (.int (1 : Int32))] [(.int (1 : Int32)), (.ref ba)]))
    refine own_ldB X0 hx hZ e0 VA (by decide) (by show (1 : Int32).toNatClampNeg < 2; decide) (hb hby d13e22_17) ?_
    show own_Fin _ _ _ _ _ _ _ (s₁.setTop (mkF m 18 #[.val (.ref ba), .val (.ref bb), .val (.int (1 : Int32))] [(.int x1)]))
    refine own_go (fun _ kk => XS.aloadN X0.here hx rfl (hb hby d13e22_18) rfl rfl (XS.iloadN X0.here hx rfl (hb hby d13e22_19) rfl kk)) ?_
    show own_Fin _ _ _ _ _ _ _ (s₁.setTop (mkF m 20 #[.val (.ref ba), .val (.ref bb), .val (.int (1 : Int32))] [(.int (1 : Int32)), (.ref bb), (.int x1)]))
    refine own_ldB X0 hx hZ e0 VB (by decide) (by show (1 : Int32).toNatClampNeg < 2; decide) (hb hby d13e22_20) ?_
    show own_Fin _ _ _ _ _ _ _ (s₁.setTop (mkF m 21 #[.val (.ref ba), .val (.ref bb), .val (.int (1 : Int32))] [(.int y1), (.int x1)]))
    by_cases hc21_1 : x1 = y1
    · refine own_go (fun _ kk => XS.icmpYes X0.here hx rfl (pc0 := 21) (pc' := 26) rfl (hb hby d13e22_21) rfl (XT.ii_eq_t hc21_1) (by decide) (by decide) (XS.iinc X0.here hx rfl (hb hby d13e22_26) rfl (l' := #[.val (.ref ba), .val (.ref bb), .val (.int (2 : Int32))]) rfl (XS.goto X0.here hx rfl (pc0 := 29) (pc' := 9) rfl (hb hby d13e22_29) (by decide) (by decide) (XS.iloadN X0.here hx rfl (hb hby d13e22_9) rfl (XS.aloadN X0.here hx rfl (hb hby d13e22_10) rfl rfl kk))))) ?_
      show own_Fin _ _ _ _ _ _ _ (s₁.setTop (mkF m 11 #[.val (.ref ba), .val (.ref bb), .val (.int (2 : Int32))] [(.ref ba), (.int (2 : Int32))]))
      refine own_alen X0 hx hZ e0 VA (hb hby d13e22_11) ?_
      show own_Fin _ _ _ _ _ _ _ (s₁.setTop (mkF m 12 #[.val (.ref ba), .val (.ref bb), .val (.int (2 : Int32))] [(.int (2 : Int32)), (.int (2 : Int32))]))
      refine own_go (fun _ kk => XS.icmpYes X0.here hx rfl (pc0 := 12) (pc' := 32) rfl (hb hby d13e22_12) rfl (XT.ii_ge_t (by decide)) (by decide) (by decide) (XS.iconst X0.here hx rfl (hb hby d13e22_32) kk)) ?_
      show own_Fin _ _ _ _ _ _ _ (s₁.setTop (mkF m 33 #[.val (.ref ba), .val (.ref bb), .val (.int (2 : Int32))] [(.int (1 : Int32))]))
      exact own_retZ X0 hx hlk hret rfl (hb hby d13e22_33) (by decide) (by decide) ⟨(by rw [own_f13e22, if_pos hc21, if_pos hc21_1]), N0, e0⟩
    · refine own_go (fun _ kk => XS.icmpNo X0.here hx rfl (hb hby d13e22_21) rfl (XT.ii_eq_f hc21_1) (XS.iconst X0.here hx rfl (hb hby d13e22_24) kk)) ?_
      show own_Fin _ _ _ _ _ _ _ (s₁.setTop (mkF m 25 #[.val (.ref ba), .val (.ref bb), .val (.int (1 : Int32))] [(.int (0 : Int32))]))
      exact own_retZ X0 hx hlk hret rfl (hb hby d13e22_25) (by decide) (by decide) ⟨(by rw [own_f13e22, if_pos hc21, if_neg hc21_1]), N0, e0⟩
  · refine own_go (fun _ kk => XS.icmpNo X0.here hx rfl (hb hby d13e22_21) rfl (XT.ii_eq_f hc21) (XS.iconst X0.here hx rfl (hb hby d13e22_24) kk)) ?_
    show own_Fin _ _ _ _ _ _ _ (s₁.setTop (mkF m 25 #[.val (.ref ba), .val (.ref bb), .val (.int (0 : Int32))] [(.int (0 : Int32))]))
    exact own_retZ X0 hx hlk hret rfl (hb hby d13e22_25) (by decide) (by decide) ⟨(by rw [own_f13e22, if_neg hc21]), N0, e0⟩

theorem own_eqe22 (x0 : Int32) (x1 : Int32) (y0 : Int32) (y1 : Int32) : own_f13e22 x0 x1 y0 y1 = own_eqL [x0, x1] [y0, y1] := by
  unfold own_f13e22 own_eqL
  first | rfl | (simp; done) | (repeat' split) <;> simp_all
theorem rm13 (l : Launch) (Z : State) (a0 : Array Value) (hw : ∀ d ∈ tables_1, d.before a0 Z = true) (ba bb : Addr) (h0 : Heap) (n0 : Nat) (Z0 : n0 ≤ h0.size) (xs ys : List Int32) (hx : xs.length ≤ 2) (hy : ys.length ≤ 2) (VA : own_Ar Z h0 ba .byte (List.map Value.int xs)) (VB : own_Ar Z h0 bb .byte (List.map Value.int ys)) :
    own_Met l (⟨"java/lang/StringLatin1", "equals", "([B[B)Z"⟩ : MethodName) jdk_43_method_13_code 3 (some .boolean) ({ frames := 0, cells := 0, slots := 0, locals := 0 } : Room) Z [] #[(.ref ba), (.ref bb)] h0 (own_P (some (.int (own_eqL xs ys))) h0 n0) := by
  rcases xs with _ | ⟨x0, _ | ⟨x1, _ | ⟨x2, xs⟩⟩⟩
  · rcases ys with _ | ⟨y0, _ | ⟨y1, _ | ⟨y2, ys⟩⟩⟩
    · rw [← own_eqe00]; exact rm13e00 l Z a0 hw ba bb h0 n0 Z0  VA VB
    · rw [← own_eqe01]; exact rm13e01 l Z a0 hw ba bb h0 n0 Z0 y0 VA VB
    · rw [← own_eqe02]; exact rm13e02 l Z a0 hw ba bb h0 n0 Z0 y0 y1 VA VB
    · exact absurd hy (by simp)
  · rcases ys with _ | ⟨y0, _ | ⟨y1, _ | ⟨y2, ys⟩⟩⟩
    · rw [← own_eqe10]; exact rm13e10 l Z a0 hw ba bb h0 n0 Z0 x0 VA VB
    · rw [← own_eqe11]; exact rm13e11 l Z a0 hw ba bb h0 n0 Z0 x0 y0 VA VB
    · rw [← own_eqe12]; exact rm13e12 l Z a0 hw ba bb h0 n0 Z0 x0 y0 y1 VA VB
    · exact absurd hy (by simp)
  · rcases ys with _ | ⟨y0, _ | ⟨y1, _ | ⟨y2, ys⟩⟩⟩
    · rw [← own_eqe20]; exact rm13e20 l Z a0 hw ba bb h0 n0 Z0 x0 x1 VA VB
    · rw [← own_eqe21]; exact rm13e21 l Z a0 hw ba bb h0 n0 Z0 x0 x1 y0 VA VB
    · rw [← own_eqe22]; exact rm13e22 l Z a0 hw ba bb h0 n0 Z0 x0 x1 y0 y1 VA VB
    · exact absurd hy (by simp)
  · exact absurd hx (by simp)

theorem d12_0 : decode jdk_42_method_66_code 0 = .ok (.aload_n 0, 1) := by decide +kernel
theorem d12_1 : decode jdk_42_method_66_code 1 = .ok (.aload_n 1, 1) := by decide +kernel
theorem d12_2 : decode jdk_42_method_66_code 2 = .ok (.if_acmp .ne 5, 3) := by decide +kernel
theorem d12_7 : decode jdk_42_method_66_code 7 = .ok (.aload_n 1, 1) := by decide +kernel
theorem d12_8 : decode jdk_42_method_66_code 8 = .ok (.instanceof 10, 3) := by decide +kernel
theorem d12_11 : decode jdk_42_method_66_code 11 = .ok (.ifCond .eq 43, 3) := by decide +kernel
theorem d12_14 : decode jdk_42_method_66_code 14 = .ok (.aload_n 1, 1) := by decide +kernel
theorem d12_15 : decode jdk_42_method_66_code 15 = .ok (.checkcast 10, 3) := by decide +kernel
theorem d12_18 : decode jdk_42_method_66_code 18 = .ok (.astore_n 2, 1) := by decide +kernel
theorem d12_19 : decode jdk_42_method_66_code 19 = .ok (.getstatic 38, 3) := by decide +kernel
theorem d12_22 : decode jdk_42_method_66_code 22 = .ok (.ifCond .eq 14, 3) := by decide +kernel
theorem d12_25 : decode jdk_42_method_66_code 25 = .ok (.aload_n 0, 1) := by decide +kernel
theorem d12_26 : decode jdk_42_method_66_code 26 = .ok (.getfield 15, 3) := by decide +kernel
theorem d12_29 : decode jdk_42_method_66_code 29 = .ok (.aload_n 2, 1) := by decide +kernel
theorem d12_30 : decode jdk_42_method_66_code 30 = .ok (.getfield 15, 3) := by decide +kernel
theorem d12_33 : decode jdk_42_method_66_code 33 = .ok (.if_icmp .ne 21, 3) := by decide +kernel
theorem d12_36 : decode jdk_42_method_66_code 36 = .ok (.aload_n 0, 1) := by decide +kernel
theorem d12_37 : decode jdk_42_method_66_code 37 = .ok (.getfield 9, 3) := by decide +kernel
theorem d12_40 : decode jdk_42_method_66_code 40 = .ok (.aload_n 2, 1) := by decide +kernel
theorem d12_41 : decode jdk_42_method_66_code 41 = .ok (.getfield 9, 3) := by decide +kernel
theorem d12_44 : decode jdk_42_method_66_code 44 = .ok (.invokestatic 541, 3) := by decide +kernel
theorem d12_47 : decode jdk_42_method_66_code 47 = .ok (.ifCond .eq 7, 3) := by decide +kernel
theorem d12_50 : decode jdk_42_method_66_code 50 = .ok (.iconst 1, 1) := by decide +kernel
theorem d12_51 : decode jdk_42_method_66_code 51 = .ok (.goto 4, 3) := by decide +kernel
theorem d12_54 : decode jdk_42_method_66_code 54 = .ok (.iconst 0, 1) := by decide +kernel
theorem d12_55 : decode jdk_42_method_66_code 55 = .ok (.ireturn, 1) := by decide +kernel
theorem pd_12_0 : parseMethodDescriptor "([B[B)Z" = some ⟨[(.array .byte), (.array .byte)], some .boolean⟩ := by decide +kernel
theorem pn_12 : plainFor (⟨"java/lang/String", "equals", "(Ljava/lang/Object;)Z"⟩ : MethodName) = true := plainFor_of_name (by show plainName "java/lang/String" = true; first | (simp [plainName, overriddenIn]; done) | decide +kernel)
theorem ef_12 (m : MethodId) (x0 : Addr) (x1 : Addr) : entryFrame m #[(.ref x0), (.ref x1)] 3 = mkF m 0 #[.val (.ref x0), .val (.ref x1), .unset] [] := by first | (simp [entryFrame, mkF, argsToLocals, Value.category]; done) | rfl
def own_f12 (xs : List Int32) (ys : List Int32) : Int32 :=
  if (own_eqL xs ys) = 0 then
    (0 : Int32)
  else
    (1 : Int32)
set_option maxRecDepth 65536 in
set_option maxHeartbeats 40000000 in
theorem rm12 (l : Launch) (Z : State) (a0 : Array Value) (hw : ∀ d ∈ tables_1, d.before a0 Z = true) (t0 : Addr) (t1 : Addr) (h0 : Heap) (n0 : Nat) (Z0 : n0 ≤ h0.size) (xs ys : List Int32) (hx2 : xs.length ≤ 2) (hy2 : ys.length ≤ 2) (b0 b1 : Addr) (E0 : Exa Z h0 t0 "java/lang/String") (Fc0 : Fld Z h0 t0 "java/lang/String" "coder" "B" (.int (0 : Int32))) (Fv0 : Fld Z h0 t0 "java/lang/String" "value" "[B" (.ref b0)) (V0 : own_Ar Z h0 b0 .byte (List.map Value.int xs)) (E1 : Exa Z h0 t1 "java/lang/String") (Fc1 : Fld Z h0 t1 "java/lang/String" "coder" "B" (.int (0 : Int32))) (Fv1 : Fld Z h0 t1 "java/lang/String" "value" "[B" (.ref b1)) (V1 : own_Ar Z h0 b1 .byte (List.map Value.int ys)) (n01 : ¬ t0 = t1) (cs : Int32) (S_cs : Sta Z Z.heap "java/lang/String" "COMPACT_STRINGS" "Z" (.int cs)) (hcs : ¬ cs = 0) (O0 : Old Z n0 h0) :
    own_Met l (⟨"java/lang/String", "equals", "(Ljava/lang/Object;)Z"⟩ : MethodName) jdk_42_method_66_code 3 (some .boolean) ({ frames := 1, cells := 0, slots := 0, locals := 14 } : Room) Z [] #[(.ref t0), (.ref t1)] h0 (own_P (some (.int (own_f12 xs ys))) h0 n0) := by
  refine own_enter pn_12 ?_
  intro p e s m below meth c s₁ hx hby hml hown hnm hret hlk hZ e0 X0
  rw [ef_12]
  have N0 := Fr.nil n0
  show own_Fin _ _ _ _ _ _ _ (s₁.setTop (mkF m 0 #[.val (.ref t0), .val (.ref t1), .unset] []))
  refine own_go (fun _ kk => XS.aloadN X0.here hx rfl (hb hby d12_0) rfl rfl (XS.aloadN X0.here hx rfl (hb hby d12_1) rfl rfl (XT.acmpYes X0.here hx rfl (pc0 := 2) (pc' := 7) rfl (hb hby d12_2) rfl rfl rfl (XT.aa_ne_t (fun q => n01 (Value.ref.inj q))) (by decide) (by decide) (XS.aloadN X0.here hx rfl (hb hby d12_7) rfl rfl kk)))) ?_
  show own_Fin _ _ _ _ _ _ _ (s₁.setTop (mkF m 8 #[.val (.ref t0), .val (.ref t1), .unset] [(.ref t1)]))
  refine own_instY X0 hx hZ hown (hw _ (List.mem_of_getElem? (i := 86) rfl)) e0 (Ins.self E1) (hb hby d12_8) ?_
  intro T1 X1 e1
  show own_Fin _ _ _ _ _ _ _ (T1.setTop (mkF m 11 #[.val (.ref t0), .val (.ref t1), .unset] [(.int (1 : Int32))]))
  refine own_go (fun _ kk => XS.ifNo X1.here hx rfl (hb hby d12_11) rfl (XT.i0_eq_f (by decide)) (XS.aloadN X1.here hx rfl (hb hby d12_14) rfl rfl kk)) ?_
  show own_Fin _ _ _ _ _ _ _ (T1.setTop (mkF m 15 #[.val (.ref t0), .val (.ref t1), .unset] [(.ref t1)]))
  refine own_castY X1 hx hZ hown (hw _ (List.mem_of_getElem? (i := 86) rfl)) e1 (Ins.self E1) (hb hby d12_15) ?_
  intro T2 X2 e2
  show own_Fin _ _ _ _ _ _ _ (T2.setTop (mkF m 18 #[.val (.ref t0), .val (.ref t1), .unset] [(.ref t1)]))
  refine own_go (fun _ kk => XS.astoreN X2.here hx rfl (hb hby d12_18) rfl rfl (l' := #[.val (.ref t0), .val (.ref t1), .val (.ref t1)]) rfl kk) ?_
  show own_Fin _ _ _ _ _ _ _ (T2.setTop (mkF m 19 #[.val (.ref t0), .val (.ref t1), .val (.ref t1)] []))
  refine own_getS X2 hx hZ hown (host := "") (Or.inl (hw _ (List.mem_of_getElem? (i := 69) rfl))) Via.refl e2 (S_cs.ext O0.2) (hb hby d12_19) ?_
  intro T3 X3 e3
  show own_Fin _ _ _ _ _ _ _ (T3.setTop (mkF m 22 #[.val (.ref t0), .val (.ref t1), .val (.ref t1)] [(.int cs)]))
  refine own_go (fun _ kk => XS.ifNo X3.here hx rfl (hb hby d12_22) rfl (XT.i0_eq_f hcs) (XS.aloadN X3.here hx rfl (hb hby d12_25) rfl rfl kk)) ?_
  show own_Fin _ _ _ _ _ _ _ (T3.setTop (mkF m 26 #[.val (.ref t0), .val (.ref t1), .val (.ref t1)] [(.ref t0)]))
  refine own_getF X3 hx hZ hown (host := "") (Or.inl (hw _ (List.mem_of_getElem? (i := 25) rfl))) Via.refl e3 Fc0 (hb hby d12_26) ?_
  intro T4 X4 e4
  show own_Fin _ _ _ _ _ _ _ (T4.setTop (mkF m 29 #[.val (.ref t0), .val (.ref t1), .val (.ref t1)] [(.int (0 : Int32))]))
  refine own_go (fun _ kk => XS.aloadN X4.here hx rfl (hb hby d12_29) rfl rfl kk) ?_
  show own_Fin _ _ _ _ _ _ _ (T4.setTop (mkF m 30 #[.val (.ref t0), .val (.ref t1), .val (.ref t1)] [(.ref t1), (.int (0 : Int32))]))
  refine own_getF X4 hx hZ hown (host := "") (Or.inl (hw _ (List.mem_of_getElem? (i := 25) rfl))) Via.refl e4 Fc1 (hb hby d12_30) ?_
  intro T5 X5 e5
  show own_Fin _ _ _ _ _ _ _ (T5.setTop (mkF m 33 #[.val (.ref t0), .val (.ref t1), .val (.ref t1)] [(.int (0 : Int32)), (.int (0 : Int32))]))
  refine own_go (fun _ kk => XS.icmpNo X5.here hx rfl (hb hby d12_33) rfl (XT.ii_ne_f (by decide)) (XS.aloadN X5.here hx rfl (hb hby d12_36) rfl rfl kk)) ?_
  show own_Fin _ _ _ _ _ _ _ (T5.setTop (mkF m 37 #[.val (.ref t0), .val (.ref t1), .val (.ref t1)] [(.ref t0)]))
  refine own_getF X5 hx hZ hown (host := "") (Or.inl (hw _ (List.mem_of_getElem? (i := 24) rfl))) Via.refl e5 Fv0 (hb hby d12_37) ?_
  intro T6 X6 e6
  show own_Fin _ _ _ _ _ _ _ (T6.setTop (mkF m 40 #[.val (.ref t0), .val (.ref t1), .val (.ref t1)] [(.ref b0)]))
  refine own_go (fun _ kk => XS.aloadN X6.here hx rfl (hb hby d12_40) rfl rfl kk) ?_
  show own_Fin _ _ _ _ _ _ _ (T6.setTop (mkF m 41 #[.val (.ref t0), .val (.ref t1), .val (.ref t1)] [(.ref t1), (.ref b0)]))
  refine own_getF X6 hx hZ hown (host := "") (Or.inl (hw _ (List.mem_of_getElem? (i := 24) rfl))) Via.refl e6 Fv1 (hb hby d12_41) ?_
  intro T7 X7 e7
  show own_Fin _ _ _ _ _ _ _ (T7.setTop (mkF m 44 #[.val (.ref t0), .val (.ref t1), .val (.ref t1)] [(.ref b1), (.ref b0)]))
  refine own_callS X7 hx hZ hown (hw _ (List.mem_of_getElem? (i := 87) rfl)) (hw _ (List.mem_of_getElem? (i := 88) rfl)) (hw _ (List.mem_of_getElem? (i := 89) rfl)) (hw _ (List.mem_of_getElem? (i := 90) rfl)) (by decide) (rm13 l Z a0 hw b0 b1 h0 n0 Z0 xs ys hx2 hy2 V0 V1) e7 (argsL := [(.ref b0), (.ref b1)]) (rest := []) rfl rfl (by rw [hml]; rfl) (lenOf pd_12_0 rfl) (hb hby d12_44) (W := 0) (Nat.le_of_eq rfl) (by decide) (by decide) (by decide) (by decide) ?_
  rintro v8 T8 L8 X8 ⟨rfl, M8, e8⟩
  have N8 := Fr.app N0 M8
  show own_Fin _ _ _ _ _ _ _ (T8.setTop (mkF m 47 #[.val (.ref t0), .val (.ref t1), .val (.ref t1)] [(.int (own_eqL xs ys))]))
  by_cases hc47 : (own_eqL xs ys) = 0
  · refine own_go (fun _ kk => XS.ifYes X8.here hx rfl (pc0 := 47) (pc' := 54) rfl (hb hby d12_47) rfl (XT.i0_eq_t hc47) (by decide) (by decide) (XS.iconst X8.here hx rfl (hb hby d12_54) kk)) ?_
    show own_Fin _ _ _ _ _ _ _ (T8.setTop (mkF m 55 #[.val (.ref t0), .val (.ref t1), .val (.ref t1)] [(.int (0 : Int32))]))
    exact own_retZ X8 hx hlk hret rfl (hb hby d12_55) (by decide) (by decide) ⟨(by rw [own_f12, if_pos hc47]), N8, e8⟩
  · refine own_go (fun _ kk => XS.ifNo X8.here hx rfl (hb hby d12_47) rfl (XT.i0_eq_f hc47) (XS.iconst X8.here hx rfl (hb hby d12_50) (XS.goto X8.here hx rfl (pc0 := 51) (pc' := 55) rfl (hb hby d12_51) (by decide) (by decide) kk))) ?_
    show own_Fin _ _ _ _ _ _ _ (T8.setTop (mkF m 55 #[.val (.ref t0), .val (.ref t1), .val (.ref t1)] [(.int (1 : Int32))]))
    exact own_retZ X8 hx hlk hret rfl (hb hby d12_55) (by decide) (by decide) ⟨(by rw [own_f12, if_neg hc47]), N8, e8⟩

theorem own_bslen (a b c : Int32) : (own_bs a b c).length ≤ 2 := by
  unfold own_bs
  split
  · simp
  · split <;> simp
theorem own_is (xs ys : List Int32) : own_f12 xs ys = own_eqL xs ys := by
  unfold own_f12 own_eqL
  by_cases h : xs = ys <;> simp [h]

theorem d8y_0 : decode prog_161_method_2_code 0 = .ok (.aload_n 0, 1) := by decide +kernel
theorem d8y_1 : decode prog_161_method_2_code 1 = .ok (.getfield 7, 3) := by decide +kernel
theorem d8y_4 : decode prog_161_method_2_code 4 = .ok (.getstatic 33, 3) := by decide +kernel
theorem d8y_7 : decode prog_161_method_2_code 7 = .ok (.if_acmp .ne 18, 3) := by decide +kernel
theorem d8y_10 : decode prog_161_method_2_code 10 = .ok (.aload_n 0, 1) := by decide +kernel
theorem d8y_11 : decode prog_161_method_2_code 11 = .ok (.getfield 13, 3) := by decide +kernel
theorem d8y_14 : decode prog_161_method_2_code 14 = .ok (.aload_n 1, 1) := by decide +kernel
theorem d8y_15 : decode prog_161_method_2_code 15 = .ok (.invokevirtual 38, 3) := by decide +kernel
theorem d8y_18 : decode prog_161_method_2_code 18 = .ok (.ifCond .eq 7, 3) := by decide +kernel
theorem d8y_21 : decode prog_161_method_2_code 21 = .ok (.iconst 1, 1) := by decide +kernel
theorem d8y_22 : decode prog_161_method_2_code 22 = .ok (.goto 4, 3) := by decide +kernel
theorem d8y_25 : decode prog_161_method_2_code 25 = .ok (.iconst 0, 1) := by decide +kernel
theorem d8y_26 : decode prog_161_method_2_code 26 = .ok (.ireturn, 1) := by decide +kernel
theorem pd_8y_0 : parseMethodDescriptor "(Ljava/lang/Object;)Z" = some ⟨[(.object "java/lang/Object")], some .boolean⟩ := by decide +kernel
theorem pn_8y : plainFor (⟨"com/example/tuplelift/tuplelift/service/SparqlTokenizer$Token", "is", "(Ljava/lang/String;)Z"⟩ : MethodName) = true := plainFor_of_name (by show plainName "com/example/tuplelift/tuplelift/service/SparqlTokenizer$Token" = true; first | (simp [plainName, overriddenIn]; done) | decide +kernel)
theorem ef_8y (m : MethodId) (x0 : Addr) (x1 : Addr) : entryFrame m #[(.ref x0), (.ref x1)] 2 = mkF m 0 #[.val (.ref x0), .val (.ref x1)] [] := by first | (simp [entryFrame, mkF, argsToLocals, Value.category]; done) | rfl
def own_f8y (xs : List Int32) (ys : List Int32) : Int32 :=
  if (own_f12 xs ys) = 0 then
    (0 : Int32)
  else
    (1 : Int32)
set_option maxRecDepth 65536 in
set_option maxHeartbeats 40000000 in
theorem rm8y (l : Launch) (Z : State) (a0 : Array Value) (hw : ∀ d ∈ tables_1, d.before a0 Z = true) (t0 : Addr) (t1 : Addr) (h0 : Heap) (n0 : Nat) (Z0 : n0 ≤ h0.size) (kd kP s0 : Addr) (hk : kd = kP) (S_P : Sta Z Z.heap "com/example/tuplelift/tuplelift/service/SparqlTokenizer$Kind" "PUNCTUATION" "Lcom/example/tuplelift/tuplelift/service/SparqlTokenizer$Kind;" (.ref kP)) (F_kind : Fld Z h0 t0 "com/example/tuplelift/tuplelift/service/SparqlTokenizer$Token" "kind" "Lcom/example/tuplelift/tuplelift/service/SparqlTokenizer$Kind;" (.ref kd)) (F_text : Fld Z h0 t0 "com/example/tuplelift/tuplelift/service/SparqlTokenizer$Token" "text" "Ljava/lang/String;" (.ref s0)) (xs ys : List Int32) (hx2 : xs.length ≤ 2) (hy2 : ys.length ≤ 2) (b0 b1 : Addr) (E0 : Exa Z h0 s0 "java/lang/String") (Fc0 : Fld Z h0 s0 "java/lang/String" "coder" "B" (.int (0 : Int32))) (Fv0 : Fld Z h0 s0 "java/lang/String" "value" "[B" (.ref b0)) (V0 : own_Ar Z h0 b0 .byte (List.map Value.int xs)) (E1 : Exa Z h0 t1 "java/lang/String") (Fc1 : Fld Z h0 t1 "java/lang/String" "coder" "B" (.int (0 : Int32))) (Fv1 : Fld Z h0 t1 "java/lang/String" "value" "[B" (.ref b1)) (V1 : own_Ar Z h0 b1 .byte (List.map Value.int ys)) (n01 : ¬ s0 = t1) (cs : Int32) (S_cs : Sta Z Z.heap "java/lang/String" "COMPACT_STRINGS" "Z" (.int cs)) (hcs : ¬ cs = 0) (O0 : Old Z n0 h0) :
    own_Met l (⟨"com/example/tuplelift/tuplelift/service/SparqlTokenizer$Token", "is", "(Ljava/lang/String;)Z"⟩ : MethodName) prog_161_method_2_code 2 (some .boolean) ({ frames := 2, cells := 0, slots := 0, locals := 28 } : Room) Z [] #[(.ref t0), (.ref t1)] h0 (own_P (some (.int (own_f8y xs ys))) h0 n0) := by
  refine own_enter pn_8y ?_
  intro p e s m below meth c s₁ hx hby hml hown hnm hret hlk hZ e0 X0
  rw [ef_8y]
  have N0 := Fr.nil n0
  show own_Fin _ _ _ _ _ _ _ (s₁.setTop (mkF m 0 #[.val (.ref t0), .val (.ref t1)] []))
  refine own_go (fun _ kk => XS.aloadN X0.here hx rfl (hb hby d8y_0) rfl rfl kk) ?_
  show own_Fin _ _ _ _ _ _ _ (s₁.setTop (mkF m 1 #[.val (.ref t0), .val (.ref t1)] [(.ref t0)]))
  refine own_getF X0 hx hZ hown (host := "") (Or.inl (hw _ (List.mem_of_getElem? (i := 46) rfl))) Via.refl e0 F_kind (hb hby d8y_1) ?_
  intro T1 X1 e1
  show own_Fin _ _ _ _ _ _ _ (T1.setTop (mkF m 4 #[.val (.ref t0), .val (.ref t1)] [(.ref kd)]))
  refine own_getS X1 hx hZ hown (host := "") (Or.inl (hw _ (List.mem_of_getElem? (i := 65) rfl))) Via.refl e1 (S_P.ext O0.2) (hb hby d8y_4) ?_
  intro T2 X2 e2
  show own_Fin _ _ _ _ _ _ _ (T2.setTop (mkF m 7 #[.val (.ref t0), .val (.ref t1)] [(.ref kP), (.ref kd)]))
  refine own_go (fun _ kk => XT.acmpNo X2.here hx rfl (hb hby d8y_7) rfl rfl rfl (XT.aa_ne_f (congrArg Value.ref hk)) (XS.aloadN X2.here hx rfl (hb hby d8y_10) rfl rfl kk)) ?_
  show own_Fin _ _ _ _ _ _ _ (T2.setTop (mkF m 11 #[.val (.ref t0), .val (.ref t1)] [(.ref t0)]))
  refine own_getF X2 hx hZ hown (host := "") (Or.inl (hw _ (List.mem_of_getElem? (i := 48) rfl))) Via.refl e2 F_text (hb hby d8y_11) ?_
  intro T3 X3 e3
  show own_Fin _ _ _ _ _ _ _ (T3.setTop (mkF m 14 #[.val (.ref t0), .val (.ref t1)] [(.ref s0)]))
  refine own_go (fun _ kk => XS.aloadN X3.here hx rfl (hb hby d8y_14) rfl rfl kk) ?_
  show own_Fin _ _ _ _ _ _ _ (T3.setTop (mkF m 15 #[.val (.ref t0), .val (.ref t1)] [(.ref t1), (.ref s0)]))
  refine own_callV X3 hx hZ hown (hw _ (List.mem_of_getElem? (i := 81) rfl)) (hw _ (List.mem_of_getElem? (i := 82) rfl)) (notFace_of_selects (args := #[]) (mvT hZ (hw _ (List.mem_of_getElem? (i := 84) rfl)))) (hw _ (List.mem_of_getElem? (i := 84) rfl)) (hw _ (List.mem_of_getElem? (i := 83) rfl)) (hw _ (List.mem_of_getElem? (i := 85) rfl)) (hw _ (List.mem_of_getElem? (i := 6) rfl)) (by decide) (rm12 l Z a0 hw s0 t1 h0 n0 Z0 xs ys hx2 hy2 b0 b1 E0 Fc0 Fv0 V0 E1 Fc1 Fv1 V1 n01 cs S_cs hcs O0) e3 E0 (argsL := [(.ref t1)]) (rest := []) rfl rfl (by rw [hml]; rfl) (lenOf pd_8y_0 rfl) (hb hby d8y_15) (W := 0) (Nat.le_of_eq rfl) (by decide) (by decide) (by decide) (by decide) ?_
  rintro v4 T4 L4 X4 ⟨rfl, M4, e4⟩
  have N4 := Fr.app N0 M4
  show own_Fin _ _ _ _ _ _ _ (T4.setTop (mkF m 18 #[.val (.ref t0), .val (.ref t1)] [(.int (own_f12 xs ys))]))
  by_cases hc18 : (own_f12 xs ys) = 0
  · refine own_go (fun _ kk => XS.ifYes X4.here hx rfl (pc0 := 18) (pc' := 25) rfl (hb hby d8y_18) rfl (XT.i0_eq_t hc18) (by decide) (by decide) (XS.iconst X4.here hx rfl (hb hby d8y_25) kk)) ?_
    show own_Fin _ _ _ _ _ _ _ (T4.setTop (mkF m 26 #[.val (.ref t0), .val (.ref t1)] [(.int (0 : Int32))]))
    exact own_retZ X4 hx hlk hret rfl (hb hby d8y_26) (by decide) (by decide) ⟨(by rw [own_f8y, if_pos hc18]), N4, e4⟩
  · refine own_go (fun _ kk => XS.ifNo X4.here hx rfl (hb hby d8y_18) rfl (XT.i0_eq_f hc18) (XS.iconst X4.here hx rfl (hb hby d8y_21) (XS.goto X4.here hx rfl (pc0 := 22) (pc' := 26) rfl (hb hby d8y_22) (by decide) (by decide) kk))) ?_
    show own_Fin _ _ _ _ _ _ _ (T4.setTop (mkF m 26 #[.val (.ref t0), .val (.ref t1)] [(.int (1 : Int32))]))
    exact own_retZ X4 hx hlk hret rfl (hb hby d8y_26) (by decide) (by decide) ⟨(by rw [own_f8y, if_neg hc18]), N4, e4⟩

theorem d8n_0 : decode prog_161_method_2_code 0 = .ok (.aload_n 0, 1) := by decide +kernel
theorem d8n_1 : decode prog_161_method_2_code 1 = .ok (.getfield 7, 3) := by decide +kernel
theorem d8n_4 : decode prog_161_method_2_code 4 = .ok (.getstatic 33, 3) := by decide +kernel
theorem d8n_7 : decode prog_161_method_2_code 7 = .ok (.if_acmp .ne 18, 3) := by decide +kernel
theorem d8n_25 : decode prog_161_method_2_code 25 = .ok (.iconst 0, 1) := by decide +kernel
theorem d8n_26 : decode prog_161_method_2_code 26 = .ok (.ireturn, 1) := by decide +kernel
theorem pn_8n : plainFor (⟨"com/example/tuplelift/tuplelift/service/SparqlTokenizer$Token", "is", "(Ljava/lang/String;)Z"⟩ : MethodName) = true := plainFor_of_name (by show plainName "com/example/tuplelift/tuplelift/service/SparqlTokenizer$Token" = true; first | (simp [plainName, overriddenIn]; done) | decide +kernel)
theorem ef_8n (m : MethodId) (x0 : Addr) (x1 : Addr) : entryFrame m #[(.ref x0), (.ref x1)] 2 = mkF m 0 #[.val (.ref x0), .val (.ref x1)] [] := by first | (simp [entryFrame, mkF, argsToLocals, Value.category]; done) | rfl
def own_f8n (xs : List Int32) (ys : List Int32) : Int32 :=
  (0 : Int32)
set_option maxRecDepth 65536 in
set_option maxHeartbeats 40000000 in
theorem rm8n (l : Launch) (Z : State) (a0 : Array Value) (hw : ∀ d ∈ tables_1, d.before a0 Z = true) (t0 : Addr) (t1 : Addr) (h0 : Heap) (n0 : Nat) (Z0 : n0 ≤ h0.size) (kd kP s0 : Addr) (hk : ¬ kd = kP) (S_P : Sta Z Z.heap "com/example/tuplelift/tuplelift/service/SparqlTokenizer$Kind" "PUNCTUATION" "Lcom/example/tuplelift/tuplelift/service/SparqlTokenizer$Kind;" (.ref kP)) (F_kind : Fld Z h0 t0 "com/example/tuplelift/tuplelift/service/SparqlTokenizer$Token" "kind" "Lcom/example/tuplelift/tuplelift/service/SparqlTokenizer$Kind;" (.ref kd)) (F_text : Fld Z h0 t0 "com/example/tuplelift/tuplelift/service/SparqlTokenizer$Token" "text" "Ljava/lang/String;" (.ref s0)) (xs ys : List Int32) (hx2 : xs.length ≤ 2) (hy2 : ys.length ≤ 2) (b0 b1 : Addr) (E0 : Exa Z h0 s0 "java/lang/String") (Fc0 : Fld Z h0 s0 "java/lang/String" "coder" "B" (.int (0 : Int32))) (Fv0 : Fld Z h0 s0 "java/lang/String" "value" "[B" (.ref b0)) (V0 : own_Ar Z h0 b0 .byte (List.map Value.int xs)) (E1 : Exa Z h0 t1 "java/lang/String") (Fc1 : Fld Z h0 t1 "java/lang/String" "coder" "B" (.int (0 : Int32))) (Fv1 : Fld Z h0 t1 "java/lang/String" "value" "[B" (.ref b1)) (V1 : own_Ar Z h0 b1 .byte (List.map Value.int ys)) (n01 : ¬ s0 = t1) (cs : Int32) (S_cs : Sta Z Z.heap "java/lang/String" "COMPACT_STRINGS" "Z" (.int cs)) (hcs : ¬ cs = 0) (O0 : Old Z n0 h0) :
    own_Met l (⟨"com/example/tuplelift/tuplelift/service/SparqlTokenizer$Token", "is", "(Ljava/lang/String;)Z"⟩ : MethodName) prog_161_method_2_code 2 (some .boolean) ({ frames := 0, cells := 0, slots := 0, locals := 0 } : Room) Z [] #[(.ref t0), (.ref t1)] h0 (own_P (some (.int (own_f8n xs ys))) h0 n0) := by
  refine own_enter pn_8n ?_
  intro p e s m below meth c s₁ hx hby hml hown hnm hret hlk hZ e0 X0
  rw [ef_8n]
  have N0 := Fr.nil n0
  show own_Fin _ _ _ _ _ _ _ (s₁.setTop (mkF m 0 #[.val (.ref t0), .val (.ref t1)] []))
  refine own_go (fun _ kk => XS.aloadN X0.here hx rfl (hb hby d8n_0) rfl rfl kk) ?_
  show own_Fin _ _ _ _ _ _ _ (s₁.setTop (mkF m 1 #[.val (.ref t0), .val (.ref t1)] [(.ref t0)]))
  refine own_getF X0 hx hZ hown (host := "") (Or.inl (hw _ (List.mem_of_getElem? (i := 46) rfl))) Via.refl e0 F_kind (hb hby d8n_1) ?_
  intro T1 X1 e1
  show own_Fin _ _ _ _ _ _ _ (T1.setTop (mkF m 4 #[.val (.ref t0), .val (.ref t1)] [(.ref kd)]))
  refine own_getS X1 hx hZ hown (host := "") (Or.inl (hw _ (List.mem_of_getElem? (i := 65) rfl))) Via.refl e1 (S_P.ext O0.2) (hb hby d8n_4) ?_
  intro T2 X2 e2
  show own_Fin _ _ _ _ _ _ _ (T2.setTop (mkF m 7 #[.val (.ref t0), .val (.ref t1)] [(.ref kP), (.ref kd)]))
  refine own_go (fun _ kk => XT.acmpYes X2.here hx rfl (pc0 := 7) (pc' := 25) rfl (hb hby d8n_7) rfl rfl rfl (XT.aa_ne_t (fun q => hk (Value.ref.inj q))) (by decide) (by decide) (XS.iconst X2.here hx rfl (hb hby d8n_25) kk)) ?_
  show own_Fin _ _ _ _ _ _ _ (T2.setTop (mkF m 26 #[.val (.ref t0), .val (.ref t1)] [(.int (0 : Int32))]))
  exact own_retZ X2 hx hlk hret rfl (hb hby d8n_26) (by decide) (by decide) ⟨(by rw [own_f8n]), N0, e2⟩

theorem d7_0 : decode jdk_30_method_1_code 0 = .ok (.aload_n 0, 1) := by decide +kernel
theorem d7_1 : decode jdk_30_method_1_code 1 = .ok (.invokespecial 1, 3) := by decide +kernel
theorem d7_4 : decode jdk_30_method_1_code 4 = .ok (.return_, 1) := by decide +kernel
theorem pn_7 : plainFor (⟨"java/lang/Record", "<init>", "()V"⟩ : MethodName) = true := plainFor_of_name (by show plainName "java/lang/Record" = true; first | (simp [plainName, overriddenIn]; done) | decide +kernel)
theorem ef_7 (m : MethodId) (x0 : Addr) : entryFrame m #[(.ref x0)] 1 = mkF m 0 #[.val (.ref x0)] [] := by first | (simp [entryFrame, mkF, argsToLocals, Value.category]; done) | rfl
set_option maxRecDepth 65536 in
set_option maxHeartbeats 40000000 in
theorem rm7 (l : Launch) (Z : State) (a0 : Array Value) (hw : ∀ d ∈ tables_1, d.before a0 Z = true) (t0 : Addr) (h0 : Heap) (n0 : Nat) (Z0 : n0 ≤ h0.size) :
    own_Met l (⟨"java/lang/Record", "<init>", "()V"⟩ : MethodName) jdk_30_method_1_code 1 none ({ frames := 1, cells := 0, slots := 0, locals := 12 } : Room) Z [] #[(.ref t0)] h0 (own_P none h0 n0) := by
  refine own_enter pn_7 ?_
  intro p e s m below meth c s₁ hx hby hml hown hnm hret hlk hZ e0 X0
  rw [ef_7]
  have N0 := Fr.nil n0
  show own_Fin _ _ _ _ _ _ _ (s₁.setTop (mkF m 0 #[.val (.ref t0)] []))
  refine own_go (fun _ kk => XS.aloadN X0.here hx rfl (hb hby d7_0) rfl rfl kk) ?_
  show own_Fin _ _ _ _ _ _ _ (s₁.setTop (mkF m 1 #[.val (.ref t0)] [(.ref t0)]))
  refine own_initO X0 hx hZ hown (hw _ (List.mem_of_getElem? (i := 45) rfl)) (hw _ (List.mem_of_getElem? (i := 16) rfl)) (hw _ (List.mem_of_getElem? (i := 17) rfl)) e0 (by rw [hml]; rfl) (hb hby d7_1) (by decide) (W := 0) (Nat.le_of_eq rfl) (by decide) ?_
  intro T1 X1 e1
  show own_Fin _ _ _ _ _ _ _ (T1.setTop (mkF m 4 #[.val (.ref t0)] []))
  exact own_retV X1 hx hlk hret (hb hby d7_4) (by decide) (by decide) ⟨rfl, N0, e1⟩

def own_Q6 (Z : State) (t0 t1 t2 : Addr) (h0 : Heap) (n0 : Nat) (v : Option Value) (h : Heap) (L : List Loc) : Prop := v = none ∧ Fr n0 L ∧ Keep h0 h [t0] ∧ Fld Z h t0 "com/example/tuplelift/tuplelift/service/SparqlTokenizer$Token" "kind" "Lcom/example/tuplelift/tuplelift/service/SparqlTokenizer$Kind;" (.ref t1) ∧ Fld Z h t0 "com/example/tuplelift/tuplelift/service/SparqlTokenizer$Token" "text" "Ljava/lang/String;" (.ref t2)
theorem d6_0 : decode prog_161_method_1_code 0 = .ok (.aload_n 0, 1) := by decide +kernel
theorem d6_1 : decode prog_161_method_1_code 1 = .ok (.invokespecial 1, 3) := by decide +kernel
theorem d6_4 : decode prog_161_method_1_code 4 = .ok (.aload_n 0, 1) := by decide +kernel
theorem d6_5 : decode prog_161_method_1_code 5 = .ok (.aload_n 1, 1) := by decide +kernel
theorem d6_6 : decode prog_161_method_1_code 6 = .ok (.putfield 7, 3) := by decide +kernel
theorem d6_9 : decode prog_161_method_1_code 9 = .ok (.aload_n 0, 1) := by decide +kernel
theorem d6_10 : decode prog_161_method_1_code 10 = .ok (.aload_n 2, 1) := by decide +kernel
theorem d6_11 : decode prog_161_method_1_code 11 = .ok (.putfield 13, 3) := by decide +kernel
theorem d6_14 : decode prog_161_method_1_code 14 = .ok (.aload_n 0, 1) := by decide +kernel
theorem d6_15 : decode prog_161_method_1_code 15 = .ok (.aload_n 3, 1) := by decide +kernel
theorem d6_16 : decode prog_161_method_1_code 16 = .ok (.putfield 17, 3) := by decide +kernel
theorem d6_19 : decode prog_161_method_1_code 19 = .ok (.aload_n 0, 1) := by decide +kernel
theorem d6_20 : decode prog_161_method_1_code 20 = .ok (.iload 4, 2) := by decide +kernel
theorem d6_22 : decode prog_161_method_1_code 22 = .ok (.putfield 20, 3) := by decide +kernel
theorem d6_25 : decode prog_161_method_1_code 25 = .ok (.aload_n 0, 1) := by decide +kernel
theorem d6_26 : decode prog_161_method_1_code 26 = .ok (.iload 5, 2) := by decide +kernel
theorem d6_28 : decode prog_161_method_1_code 28 = .ok (.putfield 24, 3) := by decide +kernel
theorem d6_31 : decode prog_161_method_1_code 31 = .ok (.aload_n 0, 1) := by decide +kernel
theorem d6_32 : decode prog_161_method_1_code 32 = .ok (.iload 6, 2) := by decide +kernel
theorem d6_34 : decode prog_161_method_1_code 34 = .ok (.putfield 27, 3) := by decide +kernel
theorem d6_37 : decode prog_161_method_1_code 37 = .ok (.aload_n 0, 1) := by decide +kernel
theorem d6_38 : decode prog_161_method_1_code 38 = .ok (.iload 7, 2) := by decide +kernel
theorem d6_40 : decode prog_161_method_1_code 40 = .ok (.putfield 30, 3) := by decide +kernel
theorem d6_43 : decode prog_161_method_1_code 43 = .ok (.return_, 1) := by decide +kernel
theorem pd_6_0 : parseMethodDescriptor "()V" = some ⟨[], none⟩ := by decide +kernel
theorem pn_6 : plainFor (⟨"com/example/tuplelift/tuplelift/service/SparqlTokenizer$Token", "<init>", "(Lcom/example/tuplelift/tuplelift/service/SparqlTokenizer$Kind;Ljava/lang/String;Ljava/lang/String;IIII)V"⟩ : MethodName) = true := plainFor_of_name (by show plainName "com/example/tuplelift/tuplelift/service/SparqlTokenizer$Token" = true; first | (simp [plainName, overriddenIn]; done) | decide +kernel)
theorem ef_6 (m : MethodId) (x0 : Addr) (x1 : Addr) (x2 : Addr) (x3 : Addr) (x4 : Int32) (x5 : Int32) (x6 : Int32) (x7 : Int32) : entryFrame m #[(.ref x0), (.ref x1), (.ref x2), (.ref x3), (.int x4), (.int x5), (.int x6), (.int x7)] 8 = mkF m 0 #[.val (.ref x0), .val (.ref x1), .val (.ref x2), .val (.ref x3), .val (.int x4), .val (.int x5), .val (.int x6), .val (.int x7)] [] := by first | (simp [entryFrame, mkF, argsToLocals, Value.category]; done) | rfl
set_option maxRecDepth 65536 in
set_option maxHeartbeats 40000000 in
theorem rm6 (l : Launch) (Z : State) (a0 : Array Value) (hw : ∀ d ∈ tables_1, d.before a0 Z = true) (t0 : Addr) (t1 : Addr) (t2 : Addr) (t3 : Addr) (p4 : Int32) (p5 : Int32) (p6 : Int32) (p7 : Int32) (h0 : Heap) (n0 : Nat) (Z0 : n0 ≤ h0.size) (E_t0 : Exa Z h0 t0 "com/example/tuplelift/tuplelift/service/SparqlTokenizer$Token") (F_kind : Fld Z h0 t0 "com/example/tuplelift/tuplelift/service/SparqlTokenizer$Token" "kind" "Lcom/example/tuplelift/tuplelift/service/SparqlTokenizer$Kind;" .null) (F_text : Fld Z h0 t0 "com/example/tuplelift/tuplelift/service/SparqlTokenizer$Token" "text" "Ljava/lang/String;" .null) (F_local : Fld Z h0 t0 "com/example/tuplelift/tuplelift/service/SparqlTokenizer$Token" "local" "Ljava/lang/String;" .null) (F_line : Fld Z h0 t0 "com/example/tuplelift/tuplelift/service/SparqlTokenizer$Token" "line" "I" (.int (0 : Int32))) (F_column : Fld Z h0 t0 "com/example/tuplelift/tuplelift/service/SparqlTokenizer$Token" "column" "I" (.int (0 : Int32))) (F_start : Fld Z h0 t0 "com/example/tuplelift/tuplelift/service/SparqlTokenizer$Token" "start" "I" (.int (0 : Int32))) (F_end : Fld Z h0 t0 "com/example/tuplelift/tuplelift/service/SparqlTokenizer$Token" "end" "I" (.int (0 : Int32))) (g_t0 : n0 ≤ t0) :
    own_Met l (⟨"com/example/tuplelift/tuplelift/service/SparqlTokenizer$Token", "<init>", "(Lcom/example/tuplelift/tuplelift/service/SparqlTokenizer$Kind;Ljava/lang/String;Ljava/lang/String;IIII)V"⟩ : MethodName) prog_161_method_1_code 8 none ({ frames := 2, cells := 0, slots := 0, locals := 24 } : Room) Z [] #[(.ref t0), (.ref t1), (.ref t2), (.ref t3), (.int p4), (.int p5), (.int p6), (.int p7)] h0 (own_Q6 Z t0 t1 t2 h0 n0) := by
  refine own_enter pn_6 ?_
  intro p e s m below meth c s₁ hx hby hml hown hnm hret hlk hZ e0 X0
  rw [ef_6]
  have N0 := Fr.nil n0
  show own_Fin _ _ _ _ _ _ _ (s₁.setTop (mkF m 0 #[.val (.ref t0), .val (.ref t1), .val (.ref t2), .val (.ref t3), .val (.int p4), .val (.int p5), .val (.int p6), .val (.int p7)] []))
  refine own_go (fun _ kk => XS.aloadN X0.here hx rfl (hb hby d6_0) rfl rfl kk) ?_
  show own_Fin _ _ _ _ _ _ _ (s₁.setTop (mkF m 1 #[.val (.ref t0), .val (.ref t1), .val (.ref t2), .val (.ref t3), .val (.int p4), .val (.int p5), .val (.int p6), .val (.int p7)] [(.ref t0)]))
  refine own_callN X0 hx hZ rfl hown (hw _ (List.mem_of_getElem? (i := 40) rfl)) (hw _ (List.mem_of_getElem? (i := 41) rfl)) (hw _ (List.mem_of_getElem? (i := 43) rfl)) (hw _ (List.mem_of_getElem? (i := 44) rfl)) (by decide) (rm7 l Z a0 hw t0 h0 n0 Z0) e0 (a := t0) (argsL := []) (rest := []) rfl rfl (by rw [hml]; rfl) (lenOf pd_6_0 rfl) (hb hby d6_1) (W := 0) (Nat.le_of_eq rfl) (by decide) (by decide) (by decide) (by decide) ?_
  rintro v1 T1 L1 X1 ⟨rfl, M1, e1⟩
  have N1 := Fr.app N0 M1
  show own_Fin _ _ _ _ _ _ _ (T1.setTop (mkF m 4 #[.val (.ref t0), .val (.ref t1), .val (.ref t2), .val (.ref t3), .val (.int p4), .val (.int p5), .val (.int p6), .val (.int p7)] []))
  refine own_go (fun _ kk => XS.aloadN X1.here hx rfl (hb hby d6_4) rfl rfl (XS.aloadN X1.here hx rfl (hb hby d6_5) rfl rfl kk)) ?_
  show own_Fin _ _ _ _ _ _ _ (T1.setTop (mkF m 6 #[.val (.ref t0), .val (.ref t1), .val (.ref t2), .val (.ref t3), .val (.int p4), .val (.int p5), .val (.int p6), .val (.int p7)] [(.ref t1), (.ref t0)]))
  refine own_putF X1 hx hZ hown (host := "") (Or.inl (hw _ (List.mem_of_getElem? (i := 46) rfl))) Via.refl e1 F_kind E_t0 (Or.inr ⟨(hw _ (List.mem_of_getElem? (i := 47) rfl)), rfl, hnm⟩) (hw _ (List.mem_of_getElem? (i := 27) rfl)) (ty := (.object "com/example/tuplelift/tuplelift/service/SparqlTokenizer$Kind")) (by decide) rfl rfl (hb hby d6_6) ?_
  intro T2 h2 X2 e2 W2
  have f3 := E_t0.wr W2
  have f5 := F_text.other W2 (Or.inr (slot_ne (Or.inr (hw _ (List.mem_of_getElem? (i := 49) rfl))) (Or.inr (hw _ (List.mem_of_getElem? (i := 47) rfl))) (by decide) (t := (.object "java/lang/String")) (t' := (.object "com/example/tuplelift/tuplelift/service/SparqlTokenizer$Kind")) (by decide) (by decide)))
  have f6 := F_local.other W2 (Or.inr (slot_ne (Or.inr (hw _ (List.mem_of_getElem? (i := 51) rfl))) (Or.inr (hw _ (List.mem_of_getElem? (i := 47) rfl))) (by decide) (t := (.object "java/lang/String")) (t' := (.object "com/example/tuplelift/tuplelift/service/SparqlTokenizer$Kind")) (by decide) (by decide)))
  have f7 := F_line.other W2 (Or.inr (slot_ne (Or.inr (hw _ (List.mem_of_getElem? (i := 53) rfl))) (Or.inr (hw _ (List.mem_of_getElem? (i := 47) rfl))) (by decide) (t := .int) (t' := (.object "com/example/tuplelift/tuplelift/service/SparqlTokenizer$Kind")) (by decide) (by decide)))
  have f8 := F_column.other W2 (Or.inr (slot_ne (Or.inr (hw _ (List.mem_of_getElem? (i := 55) rfl))) (Or.inr (hw _ (List.mem_of_getElem? (i := 47) rfl))) (by decide) (t := .int) (t' := (.object "com/example/tuplelift/tuplelift/service/SparqlTokenizer$Kind")) (by decide) (by decide)))
  have f9 := F_start.other W2 (Or.inr (slot_ne (Or.inr (hw _ (List.mem_of_getElem? (i := 57) rfl))) (Or.inr (hw _ (List.mem_of_getElem? (i := 47) rfl))) (by decide) (t := .int) (t' := (.object "com/example/tuplelift/tuplelift/service/SparqlTokenizer$Kind")) (by decide) (by decide)))
  have f10 := F_end.other W2 (Or.inr (slot_ne (Or.inr (hw _ (List.mem_of_getElem? (i := 59) rfl))) (Or.inr (hw _ (List.mem_of_getElem? (i := 47) rfl))) (by decide) (t := .int) (t' := (.object "com/example/tuplelift/tuplelift/service/SparqlTokenizer$Kind")) (by decide) (by decide)))
  have Z2 := Nat.le_trans Z0 (Keep.of_wr W2).1
  have K2 := (Keep.refl h0 [t0]).wr W2 (Or.inl (List.mem_of_getElem? (i := 0) rfl))
  have f11 := F_kind.same W2
  have N2 := Fr.snoc X2 N1 g_t0
  show own_Fin _ _ _ _ _ _ _ (T2.setTop (mkF m 9 #[.val (.ref t0), .val (.ref t1), .val (.ref t2), .val (.ref t3), .val (.int p4), .val (.int p5), .val (.int p6), .val (.int p7)] []))
  refine own_go (fun _ kk => XS.aloadN X2.here hx rfl (hb hby d6_9) rfl rfl (XS.aloadN X2.here hx rfl (hb hby d6_10) rfl rfl kk)) ?_
  show own_Fin _ _ _ _ _ _ _ (T2.setTop (mkF m 11 #[.val (.ref t0), .val (.ref t1), .val (.ref t2), .val (.ref t3), .val (.int p4), .val (.int p5), .val (.int p6), .val (.int p7)] [(.ref t2), (.ref t0)]))
  refine own_putF X2 hx hZ hown (host := "") (Or.inl (hw _ (List.mem_of_getElem? (i := 48) rfl))) Via.refl e2 f5 f3 (Or.inr ⟨(hw _ (List.mem_of_getElem? (i := 49) rfl)), rfl, hnm⟩) (hw _ (List.mem_of_getElem? (i := 27) rfl)) (ty := (.object "java/lang/String")) (by decide) rfl rfl (hb hby d6_11) ?_
  intro T12 h12 X12 e12 W12
  have f13 := f3.wr W12
  have f14 := f11.other W12 (Or.inr (slot_ne (Or.inr (hw _ (List.mem_of_getElem? (i := 47) rfl))) (Or.inr (hw _ (List.mem_of_getElem? (i := 49) rfl))) (by decide) (t := (.object "com/example/tuplelift/tuplelift/service/SparqlTokenizer$Kind")) (t' := (.object "java/lang/String")) (by decide) (by decide)))
  have f16 := f6.other W12 (Or.inr (slot_ne (Or.inr (hw _ (List.mem_of_getElem? (i := 51) rfl))) (Or.inr (hw _ (List.mem_of_getElem? (i := 49) rfl))) (by decide) (t := (.object "java/lang/String")) (t' := (.object "java/lang/String")) (by decide) (by decide)))
  have f17 := f7.other W12 (Or.inr (slot_ne (Or.inr (hw _ (List.mem_of_getElem? (i := 53) rfl))) (Or.inr (hw _ (List.mem_of_getElem? (i := 49) rfl))) (by decide) (t := .int) (t' := (.object "java/lang/String")) (by decide) (by decide)))
  have f18 := f8.other W12 (Or.inr (slot_ne (Or.inr (hw _ (List.mem_of_getElem? (i := 55) rfl))) (Or.inr (hw _ (List.mem_of_getElem? (i := 49) rfl))) (by decide) (t := .int) (t' := (.object "java/lang/String")) (by decide) (by decide)))
  have f19 := f9.other W12 (Or.inr (slot_ne (Or.inr (hw _ (List.mem_of_getElem? (i := 57) rfl))) (Or.inr (hw _ (List.mem_of_getElem? (i := 49) rfl))) (by decide) (t := .int) (t' := (.object "java/lang/String")) (by decide) (by decide)))
  have f20 := f10.other W12 (Or.inr (slot_ne (Or.inr (hw _ (List.mem_of_getElem? (i := 59) rfl))) (Or.inr (hw _ (List.mem_of_getElem? (i := 49) rfl))) (by decide) (t := .int) (t' := (.object "java/lang/String")) (by decide) (by decide)))
  have Z12 := Nat.le_trans Z2 (Keep.of_wr W12).1
  have K12 := K2.wr W12 (Or.inl (List.mem_of_getElem? (i := 0) rfl))
  have f21 := f5.same W12
  have N12 := Fr.snoc X12 N2 g_t0
  show own_Fin _ _ _ _ _ _ _ (T12.setTop (mkF m 14 #[.val (.ref t0), .val (.ref t1), .val (.ref t2), .val (.ref t3), .val (.int p4), .val (.int p5), .val (.int p6), .val (.int p7)] []))
  refine own_go (fun _ kk => XS.aloadN X12.here hx rfl (hb hby d6_14) rfl rfl (XS.aloadN X12.here hx rfl (hb hby d6_15) rfl rfl kk)) ?_
  show own_Fin _ _ _ _ _ _ _ (T12.setTop (mkF m 16 #[.val (.ref t0), .val (.ref t1), .val (.ref t2), .val (.ref t3), .val (.int p4), .val (.int p5), .val (.int p6), .val (.int p7)] [(.ref t3), (.ref t0)]))
  refine own_putF X12 hx hZ hown (host := "") (Or.inl (hw _ (List.mem_of_getElem? (i := 50) rfl))) Via.refl e12 f16 f13 (Or.inr ⟨(hw _ (List.mem_of_getElem? (i := 51) rfl)), rfl, hnm⟩) (hw _ (List.mem_of_getElem? (i := 27) rfl)) (ty := (.object "java/lang/String")) (by decide) rfl rfl (hb hby d6_16) ?_
  intro T22 h22 X22 e22 W22
  have f23 := f13.wr W22
  have f24 := f14.other W22 (Or.inr (slot_ne (Or.inr (hw _ (List.mem_of_getElem? (i := 47) rfl))) (Or.inr (hw _ (List.mem_of_getElem? (i := 51) rfl))) (by decide) (t := (.object "com/example/tuplelift/tuplelift/service/SparqlTokenizer$Kind")) (t' := (.object "java/lang/String")) (by decide) (by decide)))
  have f25 := f21.other W22 (Or.inr (slot_ne (Or.inr (hw _ (List.mem_of_getElem? (i := 49) rfl))) (Or.inr (hw _ (List.mem_of_getElem? (i := 51) rfl))) (by decide) (t := (.object "java/lang/String")) (t' := (.object "java/lang/String")) (by decide) (by decide)))
  have f27 := f17.other W22 (Or.inr (slot_ne (Or.inr (hw _ (List.mem_of_getElem? (i := 53) rfl))) (Or.inr (hw _ (List.mem_of_getElem? (i := 51) rfl))) (by decide) (t := .int) (t' := (.object "java/lang/String")) (by decide) (by decide)))
  have f28 := f18.other W22 (Or.inr (slot_ne (Or.inr (hw _ (List.mem_of_getElem? (i := 55) rfl))) (Or.inr (hw _ (List.mem_of_getElem? (i := 51) rfl))) (by decide) (t := .int) (t' := (.object "java/lang/String")) (by decide) (by decide)))
  have f29 := f19.other W22 (Or.inr (slot_ne (Or.inr (hw _ (List.mem_of_getElem? (i := 57) rfl))) (Or.inr (hw _ (List.mem_of_getElem? (i := 51) rfl))) (by decide) (t := .int) (t' := (.object "java/lang/String")) (by decide) (by decide)))
  have f30 := f20.other W22 (Or.inr (slot_ne (Or.inr (hw _ (List.mem_of_getElem? (i := 59) rfl))) (Or.inr (hw _ (List.mem_of_getElem? (i := 51) rfl))) (by decide) (t := .int) (t' := (.object "java/lang/String")) (by decide) (by decide)))
  have Z22 := Nat.le_trans Z12 (Keep.of_wr W22).1
  have K22 := K12.wr W22 (Or.inl (List.mem_of_getElem? (i := 0) rfl))
  have f31 := f16.same W22
  have N22 := Fr.snoc X22 N12 g_t0
  show own_Fin _ _ _ _ _ _ _ (T22.setTop (mkF m 19 #[.val (.ref t0), .val (.ref t1), .val (.ref t2), .val (.ref t3), .val (.int p4), .val (.int p5), .val (.int p6), .val (.int p7)] []))
  refine own_go (fun _ kk => XS.aloadN X22.here hx rfl (hb hby d6_19) rfl rfl (XS.iload X22.here hx rfl (hb hby d6_20) rfl kk)) ?_
  show own_Fin _ _ _ _ _ _ _ (T22.setTop (mkF m 22 #[.val (.ref t0), .val (.ref t1), .val (.ref t2), .val (.ref t3), .val (.int p4), .val (.int p5), .val (.int p6), .val (.int p7)] [(.int p4), (.ref t0)]))
  refine own_putF X22 hx hZ hown (host := "") (Or.inl (hw _ (List.mem_of_getElem? (i := 52) rfl))) Via.refl e22 f27 f23 (Or.inr ⟨(hw _ (List.mem_of_getElem? (i := 53) rfl)), rfl, hnm⟩) (hw _ (List.mem_of_getElem? (i := 27) rfl)) (ty := .int) (by decide) rfl rfl (hb hby d6_22) ?_
  intro T32 h32 X32 e32 W32
  have f33 := f23.wr W32
  have f34 := f24.other W32 (Or.inr (slot_ne (Or.inr (hw _ (List.mem_of_getElem? (i := 47) rfl))) (Or.inr (hw _ (List.mem_of_getElem? (i := 53) rfl))) (by decide) (t := (.object "com/example/tuplelift/tuplelift/service/SparqlTokenizer$Kind")) (t' := .int) (by decide) (by decide)))
  have f35 := f25.other W32 (Or.inr (slot_ne (Or.inr (hw _ (List.mem_of_getElem? (i := 49) rfl))) (Or.inr (hw _ (List.mem_of_getElem? (i := 53) rfl))) (by decide) (t := (.object "java/lang/String")) (t' := .int) (by decide) (by decide)))
  have f36 := f31.other W32 (Or.inr (slot_ne (Or.inr (hw _ (List.mem_of_getElem? (i := 51) rfl))) (Or.inr (hw _ (List.mem_of_getElem? (i := 53) rfl))) (by decide) (t := (.object "java/lang/String")) (t' := .int) (by decide) (by decide)))
  have f38 := f28.other W32 (Or.inr (slot_ne (Or.inr (hw _ (List.mem_of_getElem? (i := 55) rfl))) (Or.inr (hw _ (List.mem_of_getElem? (i := 53) rfl))) (by decide) (t := .int) (t' := .int) (by decide) (by decide)))
  have f39 := f29.other W32 (Or.inr (slot_ne (Or.inr (hw _ (List.mem_of_getElem? (i := 57) rfl))) (Or.inr (hw _ (List.mem_of_getElem? (i := 53) rfl))) (by decide) (t := .int) (t' := .int) (by decide) (by decide)))
  have f40 := f30.other W32 (Or.inr (slot_ne (Or.inr (hw _ (List.mem_of_getElem? (i := 59) rfl))) (Or.inr (hw _ (List.mem_of_getElem? (i := 53) rfl))) (by decide) (t := .int) (t' := .int) (by decide) (by decide)))
  have Z32 := Nat.le_trans Z22 (Keep.of_wr W32).1
  have K32 := K22.wr W32 (Or.inl (List.mem_of_getElem? (i := 0) rfl))
  have f41 := f27.same W32
  have N32 := Fr.snoc X32 N22 g_t0
  show own_Fin _ _ _ _ _ _ _ (T32.setTop (mkF m 25 #[.val (.ref t0), .val (.ref t1), .val (.ref t2), .val (.ref t3), .val (.int p4), .val (.int p5), .val (.int p6), .val (.int p7)] []))
  refine own_go (fun _ kk => XS.aloadN X32.here hx rfl (hb hby d6_25) rfl rfl (XS.iload X32.here hx rfl (hb hby d6_26) rfl kk)) ?_
  show own_Fin _ _ _ _ _ _ _ (T32.setTop (mkF m 28 #[.val (.ref t0), .val (.ref t1), .val (.ref t2), .val (.ref t3), .val (.int p4), .val (.int p5), .val (.int p6), .val (.int p7)] [(.int p5), (.ref t0)]))
  refine own_putF X32 hx hZ hown (host := "") (Or.inl (hw _ (List.mem_of_getElem? (i := 54) rfl))) Via.refl e32 f38 f33 (Or.inr ⟨(hw _ (List.mem_of_getElem? (i := 55) rfl)), rfl, hnm⟩) (hw _ (List.mem_of_getElem? (i := 27) rfl)) (ty := .int) (by decide) rfl rfl (hb hby d6_28) ?_
  intro T42 h42 X42 e42 W42
  have f43 := f33.wr W42
  have f44 := f34.other W42 (Or.inr (slot_ne (Or.inr (hw _ (List.mem_of_getElem? (i := 47) rfl))) (Or.inr (hw _ (List.mem_of_getElem? (i := 55) rfl))) (by decide) (t := (.object "com/example/tuplelift/tuplelift/service/SparqlTokenizer$Kind")) (t' := .int) (by decide) (by decide)))
  have f45 := f35.other W42 (Or.inr (slot_ne (Or.inr (hw _ (List.mem_of_getElem? (i := 49) rfl))) (Or.inr (hw _ (List.mem_of_getElem? (i := 55) rfl))) (by decide) (t := (.object "java/lang/String")) (t' := .int) (by decide) (by decide)))
  have f46 := f36.other W42 (Or.inr (slot_ne (Or.inr (hw _ (List.mem_of_getElem? (i := 51) rfl))) (Or.inr (hw _ (List.mem_of_getElem? (i := 55) rfl))) (by decide) (t := (.object "java/lang/String")) (t' := .int) (by decide) (by decide)))
  have f47 := f41.other W42 (Or.inr (slot_ne (Or.inr (hw _ (List.mem_of_getElem? (i := 53) rfl))) (Or.inr (hw _ (List.mem_of_getElem? (i := 55) rfl))) (by decide) (t := .int) (t' := .int) (by decide) (by decide)))
  have f49 := f39.other W42 (Or.inr (slot_ne (Or.inr (hw _ (List.mem_of_getElem? (i := 57) rfl))) (Or.inr (hw _ (List.mem_of_getElem? (i := 55) rfl))) (by decide) (t := .int) (t' := .int) (by decide) (by decide)))
  have f50 := f40.other W42 (Or.inr (slot_ne (Or.inr (hw _ (List.mem_of_getElem? (i := 59) rfl))) (Or.inr (hw _ (List.mem_of_getElem? (i := 55) rfl))) (by decide) (t := .int) (t' := .int) (by decide) (by decide)))
  have Z42 := Nat.le_trans Z32 (Keep.of_wr W42).1
  have K42 := K32.wr W42 (Or.inl (List.mem_of_getElem? (i := 0) rfl))
  have f51 := f38.same W42
  have N42 := Fr.snoc X42 N32 g_t0
  show own_Fin _ _ _ _ _ _ _ (T42.setTop (mkF m 31 #[.val (.ref t0), .val (.ref t1), .val (.ref t2), .val (.ref t3), .val (.int p4), .val (.int p5), .val (.int p6), .val (.int p7)] []))
  refine own_go (fun _ kk => XS.aloadN X42.here hx rfl (hb hby d6_31) rfl rfl (XS.iload X42.here hx rfl (hb hby d6_32) rfl kk)) ?_
  show own_Fin _ _ _ _ _ _ _ (T42.setTop (mkF m 34 #[.val (.ref t0), .val (.ref t1), .val (.ref t2), .val (.ref t3), .val (.int p4), .val (.int p5), .val (.int p6), .val (.int p7)] [(.int p6), (.ref t0)]))
  refine own_putF X42 hx hZ hown (host := "") (Or.inl (hw _ (List.mem_of_getElem? (i := 56) rfl))) Via.refl e42 f49 f43 (Or.inr ⟨(hw _ (List.mem_of_getElem? (i := 57) rfl)), rfl, hnm⟩) (hw _ (List.mem_of_getElem? (i := 27) rfl)) (ty := .int) (by decide) rfl rfl (hb hby d6_34) ?_
  intro T52 h52 X52 e52 W52
  have f53 := f43.wr W52
  have f54 := f44.other W52 (Or.inr (slot_ne (Or.inr (hw _ (List.mem_of_getElem? (i := 47) rfl))) (Or.inr (hw _ (List.mem_of_getElem? (i := 57) rfl))) (by decide) (t := (.object "com/example/tuplelift/tuplelift/service/SparqlTokenizer$Kind")) (t' := .int) (by decide) (by decide)))
  have f55 := f45.other W52 (Or.inr (slot_ne (Or.inr (hw _ (List.mem_of_getElem? (i := 49) rfl))) (Or.inr (hw _ (List.mem_of_getElem? (i := 57) rfl))) (by decide) (t := (.object "java/lang/String")) (t' := .int) (by decide) (by decide)))
  have f56 := f46.other W52 (Or.inr (slot_ne (Or.inr (hw _ (List.mem_of_getElem? (i := 51) rfl))) (Or.inr (hw _ (List.mem_of_getElem? (i := 57) rfl))) (by decide) (t := (.object "java/lang/String")) (t' := .int) (by decide) (by decide)))
  have f57 := f47.other W52 (Or.inr (slot_ne (Or.inr (hw _ (List.mem_of_getElem? (i := 53) rfl))) (Or.inr (hw _ (List.mem_of_getElem? (i := 57) rfl))) (by decide) (t := .int) (t' := .int) (by decide) (by decide)))
  have f58 := f51.other W52 (Or.inr (slot_ne (Or.inr (hw _ (List.mem_of_getElem? (i := 55) rfl))) (Or.inr (hw _ (List.mem_of_getElem? (i := 57) rfl))) (by decide) (t := .int) (t' := .int) (by decide) (by decide)))
  have f60 := f50.other W52 (Or.inr (slot_ne (Or.inr (hw _ (List.mem_of_getElem? (i := 59) rfl))) (Or.inr (hw _ (List.mem_of_getElem? (i := 57) rfl))) (by decide) (t := .int) (t' := .int) (by decide) (by decide)))
  have Z52 := Nat.le_trans Z42 (Keep.of_wr W52).1
  have K52 := K42.wr W52 (Or.inl (List.mem_of_getElem? (i := 0) rfl))
  have f61 := f49.same W52
  have N52 := Fr.snoc X52 N42 g_t0
  show own_Fin _ _ _ _ _ _ _ (T52.setTop (mkF m 37 #[.val (.ref t0), .val (.ref t1), .val (.ref t2), .val (.ref t3), .val (.int p4), .val (.int p5), .val (.int p6), .val (.int p7)] []))
  refine own_go (fun _ kk => XS.aloadN X52.here hx rfl (hb hby d6_37) rfl rfl (XS.iload X52.here hx rfl (hb hby d6_38) rfl kk)) ?_
  show own_Fin _ _ _ _ _ _ _ (T52.setTop (mkF m 40 #[.val (.ref t0), .val (.ref t1), .val (.ref t2), .val (.ref t3), .val (.int p4), .val (.int p5), .val (.int p6), .val (.int p7)] [(.int p7), (.ref t0)]))
  refine own_putF X52 hx hZ hown (host := "") (Or.inl (hw _ (List.mem_of_getElem? (i := 58) rfl))) Via.refl e52 f60 f53 (Or.inr ⟨(hw _ (List.mem_of_getElem? (i := 59) rfl)), rfl, hnm⟩) (hw _ (List.mem_of_getElem? (i := 27) rfl)) (ty := .int) (by decide) rfl rfl (hb hby d6_40) ?_
  intro T62 h62 X62 e62 W62
  have f63 := f53.wr W62
  have f64 := f54.other W62 (Or.inr (slot_ne (Or.inr (hw _ (List.mem_of_getElem? (i := 47) rfl))) (Or.inr (hw _ (List.mem_of_getElem? (i := 59) rfl))) (by decide) (t := (.object "com/example/tuplelift/tuplelift/service/SparqlTokenizer$Kind")) (t' := .int) (by decide) (by decide)))
  have f65 := f55.other W62 (Or.inr (slot_ne (Or.inr (hw _ (List.mem_of_getElem? (i := 49) rfl))) (Or.inr (hw _ (List.mem_of_getElem? (i := 59) rfl))) (by decide) (t := (.object "java/lang/String")) (t' := .int) (by decide) (by decide)))
  have f66 := f56.other W62 (Or.inr (slot_ne (Or.inr (hw _ (List.mem_of_getElem? (i := 51) rfl))) (Or.inr (hw _ (List.mem_of_getElem? (i := 59) rfl))) (by decide) (t := (.object "java/lang/String")) (t' := .int) (by decide) (by decide)))
  have f67 := f57.other W62 (Or.inr (slot_ne (Or.inr (hw _ (List.mem_of_getElem? (i := 53) rfl))) (Or.inr (hw _ (List.mem_of_getElem? (i := 59) rfl))) (by decide) (t := .int) (t' := .int) (by decide) (by decide)))
  have f68 := f58.other W62 (Or.inr (slot_ne (Or.inr (hw _ (List.mem_of_getElem? (i := 55) rfl))) (Or.inr (hw _ (List.mem_of_getElem? (i := 59) rfl))) (by decide) (t := .int) (t' := .int) (by decide) (by decide)))
  have f69 := f61.other W62 (Or.inr (slot_ne (Or.inr (hw _ (List.mem_of_getElem? (i := 57) rfl))) (Or.inr (hw _ (List.mem_of_getElem? (i := 59) rfl))) (by decide) (t := .int) (t' := .int) (by decide) (by decide)))
  have Z62 := Nat.le_trans Z52 (Keep.of_wr W62).1
  have K62 := K52.wr W62 (Or.inl (List.mem_of_getElem? (i := 0) rfl))
  have f71 := f60.same W62
  have N62 := Fr.snoc X62 N52 g_t0
  show own_Fin _ _ _ _ _ _ _ (T62.setTop (mkF m 43 #[.val (.ref t0), .val (.ref t1), .val (.ref t2), .val (.ref t3), .val (.int p4), .val (.int p5), .val (.int p6), .val (.int p7)] []))
  exact own_retV X62 hx hlk hret (hb hby d6_43) (by decide) (by decide) (by rw [e62]; exact ⟨rfl, N62, K62, f64, f65⟩)

theorem d5_0 : decode method_2_code 0 = .ok (.iload_n 0, 1) := by decide +kernel
theorem d5_1 : decode method_2_code 1 = .ok (.ifCond .ne 7, 3) := by decide +kernel
theorem d5_4 : decode method_2_code 4 = .ok (.getstatic 7, 3) := by decide +kernel
theorem d5_7 : decode method_2_code 7 = .ok (.areturn, 1) := by decide +kernel
theorem d5_8 : decode method_2_code 8 = .ok (.iload_n 0, 1) := by decide +kernel
theorem d5_9 : decode method_2_code 9 = .ok (.iconst 1, 1) := by decide +kernel
theorem d5_10 : decode method_2_code 10 = .ok (.if_icmp .ne 7, 3) := by decide +kernel
theorem d5_13 : decode method_2_code 13 = .ok (.getstatic 13, 3) := by decide +kernel
theorem d5_16 : decode method_2_code 16 = .ok (.areturn, 1) := by decide +kernel
theorem d5_17 : decode method_2_code 17 = .ok (.iload_n 0, 1) := by decide +kernel
theorem d5_18 : decode method_2_code 18 = .ok (.iconst 2, 1) := by decide +kernel
theorem d5_19 : decode method_2_code 19 = .ok (.if_icmp .ne 7, 3) := by decide +kernel
theorem d5_22 : decode method_2_code 22 = .ok (.getstatic 16, 3) := by decide +kernel
theorem d5_25 : decode method_2_code 25 = .ok (.areturn, 1) := by decide +kernel
theorem d5_26 : decode method_2_code 26 = .ok (.iload_n 0, 1) := by decide +kernel
theorem d5_27 : decode method_2_code 27 = .ok (.iconst 3, 1) := by decide +kernel
theorem d5_28 : decode method_2_code 28 = .ok (.if_icmp .ne 7, 3) := by decide +kernel
theorem d5_31 : decode method_2_code 31 = .ok (.getstatic 19, 3) := by decide +kernel
theorem d5_34 : decode method_2_code 34 = .ok (.areturn, 1) := by decide +kernel
theorem d5_35 : decode method_2_code 35 = .ok (.iload_n 0, 1) := by decide +kernel
theorem d5_36 : decode method_2_code 36 = .ok (.iconst 4, 1) := by decide +kernel
theorem d5_37 : decode method_2_code 37 = .ok (.if_icmp .ne 7, 3) := by decide +kernel
theorem d5_40 : decode method_2_code 40 = .ok (.getstatic 22, 3) := by decide +kernel
theorem d5_43 : decode method_2_code 43 = .ok (.areturn, 1) := by decide +kernel
theorem d5_44 : decode method_2_code 44 = .ok (.iload_n 0, 1) := by decide +kernel
theorem d5_45 : decode method_2_code 45 = .ok (.iconst 5, 1) := by decide +kernel
theorem d5_46 : decode method_2_code 46 = .ok (.if_icmp .ne 7, 3) := by decide +kernel
theorem d5_49 : decode method_2_code 49 = .ok (.getstatic 25, 3) := by decide +kernel
theorem d5_52 : decode method_2_code 52 = .ok (.areturn, 1) := by decide +kernel
theorem d5_53 : decode method_2_code 53 = .ok (.iload_n 0, 1) := by decide +kernel
theorem d5_54 : decode method_2_code 54 = .ok (.bipush 6, 2) := by decide +kernel
theorem d5_56 : decode method_2_code 56 = .ok (.if_icmp .ne 7, 3) := by decide +kernel
theorem d5_59 : decode method_2_code 59 = .ok (.getstatic 28, 3) := by decide +kernel
theorem d5_62 : decode method_2_code 62 = .ok (.areturn, 1) := by decide +kernel
theorem d5_63 : decode method_2_code 63 = .ok (.iload_n 0, 1) := by decide +kernel
theorem d5_64 : decode method_2_code 64 = .ok (.bipush 7, 2) := by decide +kernel
theorem d5_66 : decode method_2_code 66 = .ok (.if_icmp .ne 7, 3) := by decide +kernel
theorem d5_69 : decode method_2_code 69 = .ok (.getstatic 31, 3) := by decide +kernel
theorem d5_72 : decode method_2_code 72 = .ok (.areturn, 1) := by decide +kernel
theorem d5_73 : decode method_2_code 73 = .ok (.iload_n 0, 1) := by decide +kernel
theorem d5_74 : decode method_2_code 74 = .ok (.bipush 8, 2) := by decide +kernel
theorem d5_76 : decode method_2_code 76 = .ok (.if_icmp .ne 7, 3) := by decide +kernel
theorem d5_79 : decode method_2_code 79 = .ok (.getstatic 34, 3) := by decide +kernel
theorem d5_82 : decode method_2_code 82 = .ok (.areturn, 1) := by decide +kernel
theorem d5_83 : decode method_2_code 83 = .ok (.iload_n 0, 1) := by decide +kernel
theorem d5_84 : decode method_2_code 84 = .ok (.bipush 9, 2) := by decide +kernel
theorem d5_86 : decode method_2_code 86 = .ok (.if_icmp .ne 7, 3) := by decide +kernel
theorem d5_89 : decode method_2_code 89 = .ok (.getstatic 37, 3) := by decide +kernel
theorem d5_92 : decode method_2_code 92 = .ok (.areturn, 1) := by decide +kernel
theorem d5_93 : decode method_2_code 93 = .ok (.iload_n 0, 1) := by decide +kernel
theorem d5_94 : decode method_2_code 94 = .ok (.bipush 10, 2) := by decide +kernel
theorem d5_96 : decode method_2_code 96 = .ok (.if_icmp .ne 7, 3) := by decide +kernel
theorem d5_99 : decode method_2_code 99 = .ok (.getstatic 40, 3) := by decide +kernel
theorem d5_102 : decode method_2_code 102 = .ok (.areturn, 1) := by decide +kernel
theorem d5_103 : decode method_2_code 103 = .ok (.getstatic 43, 3) := by decide +kernel
theorem d5_106 : decode method_2_code 106 = .ok (.areturn, 1) := by decide +kernel
theorem pn_5 : plainFor (⟨"com/example/tuplelift/tuplelift/service/TokenIsPinLaw", "kindOf", "(I)Lcom/example/tuplelift/tuplelift/service/SparqlTokenizer$Kind;"⟩ : MethodName) = true := plainFor_of_name (by show plainName "com/example/tuplelift/tuplelift/service/TokenIsPinLaw" = true; first | (simp [plainName, overriddenIn]; done) | decide +kernel)
theorem ef_5 (m : MethodId) (x0 : Int32) : entryFrame m #[(.int x0)] 1 = mkF m 0 #[.val (.int x0)] [] := by first | (simp [entryFrame, mkF, argsToLocals, Value.category]; done) | rfl
def own_f5 (p0 : Int32) (kA : Nat → Addr) : Addr :=
  if p0 = 0 then
    (kA 0)
  else
    if p0 = (1 : Int32) then
      (kA 1)
    else
      if p0 = (2 : Int32) then
        (kA 2)
      else
        if p0 = (3 : Int32) then
          (kA 3)
        else
          if p0 = (4 : Int32) then
            (kA 4)
          else
            if p0 = (5 : Int32) then
              (kA 5)
            else
              if p0 = (6 : Int32) then
                (kA 6)
              else
                if p0 = (7 : Int32) then
                  (kA 7)
                else
                  if p0 = (8 : Int32) then
                    (kA 8)
                  else
                    if p0 = (9 : Int32) then
                      (kA 9)
                    else
                      if p0 = (10 : Int32) then
                        (kA 10)
                      else
                        (kA 11)
set_option maxRecDepth 65536 in
set_option maxHeartbeats 40000000 in
theorem rm5 (l : Launch) (Z : State) (a0 : Array Value) (hw : ∀ d ∈ tables_1, d.before a0 Z = true) (p0 : Int32) (h0 : Heap) (n0 : Nat) (Z0 : n0 ≤ h0.size) (kA : Nat → Addr) (S_IRI : Sta Z Z.heap "com/example/tuplelift/tuplelift/service/SparqlTokenizer$Kind" "IRI" "Lcom/example/tuplelift/tuplelift/service/SparqlTokenizer$Kind;" (.ref (kA 0))) (S_PREFIXED_NAME : Sta Z Z.heap "com/example/tuplelift/tuplelift/service/SparqlTokenizer$Kind" "PREFIXED_NAME" "Lcom/example/tuplelift/tuplelift/service/SparqlTokenizer$Kind;" (.ref (kA 1))) (S_BLANK_NODE : Sta Z Z.heap "com/example/tuplelift/tuplelift/service/SparqlTokenizer$Kind" "BLANK_NODE" "Lcom/example/tuplelift/tuplelift/service/SparqlTokenizer$Kind;" (.ref (kA 2))) (S_VARIABLE : Sta Z Z.heap "com/example/tuplelift/tuplelift/service/SparqlTokenizer$Kind" "VARIABLE" "Lcom/example/tuplelift/tuplelift/service/SparqlTokenizer$Kind;" (.ref (kA 3))) (S_STRING : Sta Z Z.heap "com/example/tuplelift/tuplelift/service/SparqlTokenizer$Kind" "STRING" "Lcom/example/tuplelift/tuplelift/service/SparqlTokenizer$Kind;" (.ref (kA 4))) (S_LANGUAGE : Sta Z Z.heap "com/example/tuplelift/tuplelift/service/SparqlTokenizer$Kind" "LANGUAGE" "Lcom/example/tuplelift/tuplelift/service/SparqlTokenizer$Kind;" (.ref (kA 5))) (S_INTEGER : Sta Z Z.heap "com/example/tuplelift/tuplelift/service/SparqlTokenizer$Kind" "INTEGER" "Lcom/example/tuplelift/tuplelift/service/SparqlTokenizer$Kind;" (.ref (kA 6))) (S_DECIMAL : Sta Z Z.heap "com/example/tuplelift/tuplelift/service/SparqlTokenizer$Kind" "DECIMAL" "Lcom/example/tuplelift/tuplelift/service/SparqlTokenizer$Kind;" (.ref (kA 7))) (S_DOUBLE : Sta Z Z.heap "com/example/tuplelift/tuplelift/service/SparqlTokenizer$Kind" "DOUBLE" "Lcom/example/tuplelift/tuplelift/service/SparqlTokenizer$Kind;" (.ref (kA 8))) (S_NAME : Sta Z Z.heap "com/example/tuplelift/tuplelift/service/SparqlTokenizer$Kind" "NAME" "Lcom/example/tuplelift/tuplelift/service/SparqlTokenizer$Kind;" (.ref (kA 9))) (S_PUNCTUATION : Sta Z Z.heap "com/example/tuplelift/tuplelift/service/SparqlTokenizer$Kind" "PUNCTUATION" "Lcom/example/tuplelift/tuplelift/service/SparqlTokenizer$Kind;" (.ref (kA 10))) (S_END : Sta Z Z.heap "com/example/tuplelift/tuplelift/service/SparqlTokenizer$Kind" "END" "Lcom/example/tuplelift/tuplelift/service/SparqlTokenizer$Kind;" (.ref (kA 11))) (O0 : Old Z n0 h0) :
    own_Met l (⟨"com/example/tuplelift/tuplelift/service/TokenIsPinLaw", "kindOf", "(I)Lcom/example/tuplelift/tuplelift/service/SparqlTokenizer$Kind;"⟩ : MethodName) method_2_code 1 (some (.object "com/example/tuplelift/tuplelift/service/SparqlTokenizer$Kind")) ({ frames := 0, cells := 0, slots := 0, locals := 0 } : Room) Z [] #[(.int p0)] h0 (own_P (some (.ref (own_f5 p0 kA))) h0 n0) := by
  refine own_enter pn_5 ?_
  intro p e s m below meth c s₁ hx hby hml hown hnm hret hlk hZ e0 X0
  rw [ef_5]
  have N0 := Fr.nil n0
  show own_Fin _ _ _ _ _ _ _ (s₁.setTop (mkF m 0 #[.val (.int p0)] []))
  refine own_go (fun _ kk => XS.iloadN X0.here hx rfl (hb hby d5_0) rfl kk) ?_
  show own_Fin _ _ _ _ _ _ _ (s₁.setTop (mkF m 1 #[.val (.int p0)] [(.int p0)]))
  by_cases hc1 : p0 = 0
  · refine own_go (fun _ kk => XS.ifNo X0.here hx rfl (hb hby d5_1) rfl (XT.i0_ne_f hc1) kk) ?_
    show own_Fin _ _ _ _ _ _ _ (s₁.setTop (mkF m 4 #[.val (.int p0)] []))
    refine own_getS X0 hx hZ hown (host := "") (Or.inl (hw _ (List.mem_of_getElem? (i := 32) rfl))) Via.refl e0 (S_IRI.ext O0.2) (hb hby d5_4) ?_
    intro T1 X1 e1
    show own_Fin _ _ _ _ _ _ _ (T1.setTop (mkF m 7 #[.val (.int p0)] [(.ref (kA 0))]))
    exact own_retA X1 hx hlk hret rfl rfl (hb hby d5_7) (by decide) (by decide) ⟨(by rw [own_f5, if_pos hc1]), N0, e1⟩
  · refine own_go (fun _ kk => XS.ifYes X0.here hx rfl (pc0 := 1) (pc' := 8) rfl (hb hby d5_1) rfl (XT.i0_ne_t hc1) (by decide) (by decide) (XS.iloadN X0.here hx rfl (hb hby d5_8) rfl (XS.iconst X0.here hx rfl (hb hby d5_9) kk))) ?_
    show own_Fin _ _ _ _ _ _ _ (s₁.setTop (mkF m 10 #[.val (.int p0)] [(.int (1 : Int32)), (.int p0)]))
    by_cases hc10 : p0 = (1 : Int32)
    · refine own_go (fun _ kk => XS.icmpNo X0.here hx rfl (hb hby d5_10) rfl (XT.ii_ne_f hc10) kk) ?_
      show own_Fin _ _ _ _ _ _ _ (s₁.setTop (mkF m 13 #[.val (.int p0)] []))
      refine own_getS X0 hx hZ hown (host := "") (Or.inl (hw _ (List.mem_of_getElem? (i := 91) rfl))) Via.refl e0 (S_PREFIXED_NAME.ext O0.2) (hb hby d5_13) ?_
      intro T2 X2 e2
      show own_Fin _ _ _ _ _ _ _ (T2.setTop (mkF m 16 #[.val (.int p0)] [(.ref (kA 1))]))
      exact own_retA X2 hx hlk hret rfl rfl (hb hby d5_16) (by decide) (by decide) ⟨(by rw [own_f5, if_neg hc1, if_pos hc10]), N0, e2⟩
    · refine own_go (fun _ kk => XS.icmpYes X0.here hx rfl (pc0 := 10) (pc' := 17) rfl (hb hby d5_10) rfl (XT.ii_ne_t hc10) (by decide) (by decide) (XS.iloadN X0.here hx rfl (hb hby d5_17) rfl (XS.iconst X0.here hx rfl (hb hby d5_18) kk))) ?_
      show own_Fin _ _ _ _ _ _ _ (s₁.setTop (mkF m 19 #[.val (.int p0)] [(.int (2 : Int32)), (.int p0)]))
      by_cases hc19 : p0 = (2 : Int32)
      · refine own_go (fun _ kk => XS.icmpNo X0.here hx rfl (hb hby d5_19) rfl (XT.ii_ne_f hc19) kk) ?_
        show own_Fin _ _ _ _ _ _ _ (s₁.setTop (mkF m 22 #[.val (.int p0)] []))
        refine own_getS X0 hx hZ hown (host := "") (Or.inl (hw _ (List.mem_of_getElem? (i := 97) rfl))) Via.refl e0 (S_BLANK_NODE.ext O0.2) (hb hby d5_22) ?_
        intro T3 X3 e3
        show own_Fin _ _ _ _ _ _ _ (T3.setTop (mkF m 25 #[.val (.int p0)] [(.ref (kA 2))]))
        exact own_retA X3 hx hlk hret rfl rfl (hb hby d5_25) (by decide) (by decide) ⟨(by rw [own_f5, if_neg hc1, if_neg hc10, if_pos hc19]), N0, e3⟩
      · refine own_go (fun _ kk => XS.icmpYes X0.here hx rfl (pc0 := 19) (pc' := 26) rfl (hb hby d5_19) rfl (XT.ii_ne_t hc19) (by decide) (by decide) (XS.iloadN X0.here hx rfl (hb hby d5_26) rfl (XS.iconst X0.here hx rfl (hb hby d5_27) kk))) ?_
        show own_Fin _ _ _ _ _ _ _ (s₁.setTop (mkF m 28 #[.val (.int p0)] [(.int (3 : Int32)), (.int p0)]))
        by_cases hc28 : p0 = (3 : Int32)
        · refine own_go (fun _ kk => XS.icmpNo X0.here hx rfl (hb hby d5_28) rfl (XT.ii_ne_f hc28) kk) ?_
          show own_Fin _ _ _ _ _ _ _ (s₁.setTop (mkF m 31 #[.val (.int p0)] []))
          refine own_getS X0 hx hZ hown (host := "") (Or.inl (hw _ (List.mem_of_getElem? (i := 101) rfl))) Via.refl e0 (S_VARIABLE.ext O0.2) (hb hby d5_31) ?_
          intro T4 X4 e4
          show own_Fin _ _ _ _ _ _ _ (T4.setTop (mkF m 34 #[.val (.int p0)] [(.ref (kA 3))]))
          exact own_retA X4 hx hlk hret rfl rfl (hb hby d5_34) (by decide) (by decide) ⟨(by rw [own_f5, if_neg hc1, if_neg hc10, if_neg hc19, if_pos hc28]), N0, e4⟩
        · refine own_go (fun _ kk => XS.icmpYes X0.here hx rfl (pc0 := 28) (pc' := 35) rfl (hb hby d5_28) rfl (XT.ii_ne_t hc28) (by decide) (by decide) (XS.iloadN X0.here hx rfl (hb hby d5_35) rfl (XS.iconst X0.here hx rfl (hb hby d5_36) kk))) ?_
          show own_Fin _ _ _ _ _ _ _ (s₁.setTop (mkF m 37 #[.val (.int p0)] [(.int (4 : Int32)), (.int p0)]))
          by_cases hc37 : p0 = (4 : Int32)
          · refine own_go (fun _ kk => XS.icmpNo X0.here hx rfl (hb hby d5_37) rfl (XT.ii_ne_f hc37) kk) ?_
            show own_Fin _ _ _ _ _ _ _ (s₁.setTop (mkF m 40 #[.val (.int p0)] []))
            refine own_getS X0 hx hZ hown (host := "") (Or.inl (hw _ (List.mem_of_getElem? (i := 95) rfl))) Via.refl e0 (S_STRING.ext O0.2) (hb hby d5_40) ?_
            intro T5 X5 e5
            show own_Fin _ _ _ _ _ _ _ (T5.setTop (mkF m 43 #[.val (.int p0)] [(.ref (kA 4))]))
            exact own_retA X5 hx hlk hret rfl rfl (hb hby d5_43) (by decide) (by decide) ⟨(by rw [own_f5, if_neg hc1, if_neg hc10, if_neg hc19, if_neg hc28, if_pos hc37]), N0, e5⟩
          · refine own_go (fun _ kk => XS.icmpYes X0.here hx rfl (pc0 := 37) (pc' := 44) rfl (hb hby d5_37) rfl (XT.ii_ne_t hc37) (by decide) (by decide) (XS.iloadN X0.here hx rfl (hb hby d5_44) rfl (XS.iconst X0.here hx rfl (hb hby d5_45) kk))) ?_
            show own_Fin _ _ _ _ _ _ _ (s₁.setTop (mkF m 46 #[.val (.int p0)] [(.int (5 : Int32)), (.int p0)]))
            by_cases hc46 : p0 = (5 : Int32)
            · refine own_go (fun _ kk => XS.icmpNo X0.here hx rfl (hb hby d5_46) rfl (XT.ii_ne_f hc46) kk) ?_
              show own_Fin _ _ _ _ _ _ _ (s₁.setTop (mkF m 49 #[.val (.int p0)] []))
              refine own_getS X0 hx hZ hown (host := "") (Or.inl (hw _ (List.mem_of_getElem? (i := 99) rfl))) Via.refl e0 (S_LANGUAGE.ext O0.2) (hb hby d5_49) ?_
              intro T6 X6 e6
              show own_Fin _ _ _ _ _ _ _ (T6.setTop (mkF m 52 #[.val (.int p0)] [(.ref (kA 5))]))
              exact own_retA X6 hx hlk hret rfl rfl (hb hby d5_52) (by decide) (by decide) ⟨(by rw [own_f5, if_neg hc1, if_neg hc10, if_neg hc19, if_neg hc28, if_neg hc37, if_pos hc46]), N0, e6⟩
            · refine own_go (fun _ kk => XS.icmpYes X0.here hx rfl (pc0 := 46) (pc' := 53) rfl (hb hby d5_46) rfl (XT.ii_ne_t hc46) (by decide) (by decide) (XS.iloadN X0.here hx rfl (hb hby d5_53) rfl (XS.bipush X0.here hx rfl (hb hby d5_54) kk))) ?_
              show own_Fin _ _ _ _ _ _ _ (s₁.setTop (mkF m 56 #[.val (.int p0)] [(.int (6 : Int32)), (.int p0)]))
              by_cases hc56 : p0 = (6 : Int32)
              · refine own_go (fun _ kk => XS.icmpNo X0.here hx rfl (hb hby d5_56) rfl (XT.ii_ne_f hc56) kk) ?_
                show own_Fin _ _ _ _ _ _ _ (s₁.setTop (mkF m 59 #[.val (.int p0)] []))
                refine own_getS X0 hx hZ hown (host := "") (Or.inl (hw _ (List.mem_of_getElem? (i := 67) rfl))) Via.refl e0 (S_INTEGER.ext O0.2) (hb hby d5_59) ?_
                intro T7 X7 e7
                show own_Fin _ _ _ _ _ _ _ (T7.setTop (mkF m 62 #[.val (.int p0)] [(.ref (kA 6))]))
                exact own_retA X7 hx hlk hret rfl rfl (hb hby d5_62) (by decide) (by decide) ⟨(by rw [own_f5, if_neg hc1, if_neg hc10, if_neg hc19, if_neg hc28, if_neg hc37, if_neg hc46, if_pos hc56]), N0, e7⟩
              · refine own_go (fun _ kk => XS.icmpYes X0.here hx rfl (pc0 := 56) (pc' := 63) rfl (hb hby d5_56) rfl (XT.ii_ne_t hc56) (by decide) (by decide) (XS.iloadN X0.here hx rfl (hb hby d5_63) rfl (XS.bipush X0.here hx rfl (hb hby d5_64) kk))) ?_
                show own_Fin _ _ _ _ _ _ _ (s₁.setTop (mkF m 66 #[.val (.int p0)] [(.int (7 : Int32)), (.int p0)]))
                by_cases hc66 : p0 = (7 : Int32)
                · refine own_go (fun _ kk => XS.icmpNo X0.here hx rfl (hb hby d5_66) rfl (XT.ii_ne_f hc66) kk) ?_
                  show own_Fin _ _ _ _ _ _ _ (s₁.setTop (mkF m 69 #[.val (.int p0)] []))
                  refine own_getS X0 hx hZ hown (host := "") (Or.inl (hw _ (List.mem_of_getElem? (i := 103) rfl))) Via.refl e0 (S_DECIMAL.ext O0.2) (hb hby d5_69) ?_
                  intro T8 X8 e8
                  show own_Fin _ _ _ _ _ _ _ (T8.setTop (mkF m 72 #[.val (.int p0)] [(.ref (kA 7))]))
                  exact own_retA X8 hx hlk hret rfl rfl (hb hby d5_72) (by decide) (by decide) ⟨(by rw [own_f5, if_neg hc1, if_neg hc10, if_neg hc19, if_neg hc28, if_neg hc37, if_neg hc46, if_neg hc56, if_pos hc66]), N0, e8⟩
                · refine own_go (fun _ kk => XS.icmpYes X0.here hx rfl (pc0 := 66) (pc' := 73) rfl (hb hby d5_66) rfl (XT.ii_ne_t hc66) (by decide) (by decide) (XS.iloadN X0.here hx rfl (hb hby d5_73) rfl (XS.bipush X0.here hx rfl (hb hby d5_74) kk))) ?_
                  show own_Fin _ _ _ _ _ _ _ (s₁.setTop (mkF m 76 #[.val (.int p0)] [(.int (8 : Int32)), (.int p0)]))
                  by_cases hc76 : p0 = (8 : Int32)
                  · refine own_go (fun _ kk => XS.icmpNo X0.here hx rfl (hb hby d5_76) rfl (XT.ii_ne_f hc76) kk) ?_
                    show own_Fin _ _ _ _ _ _ _ (s₁.setTop (mkF m 79 #[.val (.int p0)] []))
                    refine own_getS X0 hx hZ hown (host := "") (Or.inl (hw _ (List.mem_of_getElem? (i := 93) rfl))) Via.refl e0 (S_DOUBLE.ext O0.2) (hb hby d5_79) ?_
                    intro T9 X9 e9
                    show own_Fin _ _ _ _ _ _ _ (T9.setTop (mkF m 82 #[.val (.int p0)] [(.ref (kA 8))]))
                    exact own_retA X9 hx hlk hret rfl rfl (hb hby d5_82) (by decide) (by decide) ⟨(by rw [own_f5, if_neg hc1, if_neg hc10, if_neg hc19, if_neg hc28, if_neg hc37, if_neg hc46, if_neg hc56, if_neg hc66, if_pos hc76]), N0, e9⟩
                  · refine own_go (fun _ kk => XS.icmpYes X0.here hx rfl (pc0 := 76) (pc' := 83) rfl (hb hby d5_76) rfl (XT.ii_ne_t hc76) (by decide) (by decide) (XS.iloadN X0.here hx rfl (hb hby d5_83) rfl (XS.bipush X0.here hx rfl (hb hby d5_84) kk))) ?_
                    show own_Fin _ _ _ _ _ _ _ (s₁.setTop (mkF m 86 #[.val (.int p0)] [(.int (9 : Int32)), (.int p0)]))
                    by_cases hc86 : p0 = (9 : Int32)
                    · refine own_go (fun _ kk => XS.icmpNo X0.here hx rfl (hb hby d5_86) rfl (XT.ii_ne_f hc86) kk) ?_
                      show own_Fin _ _ _ _ _ _ _ (s₁.setTop (mkF m 89 #[.val (.int p0)] []))
                      refine own_getS X0 hx hZ hown (host := "") (Or.inl (hw _ (List.mem_of_getElem? (i := 105) rfl))) Via.refl e0 (S_NAME.ext O0.2) (hb hby d5_89) ?_
                      intro T10 X10 e10
                      show own_Fin _ _ _ _ _ _ _ (T10.setTop (mkF m 92 #[.val (.int p0)] [(.ref (kA 9))]))
                      exact own_retA X10 hx hlk hret rfl rfl (hb hby d5_92) (by decide) (by decide) ⟨(by rw [own_f5, if_neg hc1, if_neg hc10, if_neg hc19, if_neg hc28, if_neg hc37, if_neg hc46, if_neg hc56, if_neg hc66, if_neg hc76, if_pos hc86]), N0, e10⟩
                    · refine own_go (fun _ kk => XS.icmpYes X0.here hx rfl (pc0 := 86) (pc' := 93) rfl (hb hby d5_86) rfl (XT.ii_ne_t hc86) (by decide) (by decide) (XS.iloadN X0.here hx rfl (hb hby d5_93) rfl (XS.bipush X0.here hx rfl (hb hby d5_94) kk))) ?_
                      show own_Fin _ _ _ _ _ _ _ (s₁.setTop (mkF m 96 #[.val (.int p0)] [(.int (10 : Int32)), (.int p0)]))
                      by_cases hc96 : p0 = (10 : Int32)
                      · refine own_go (fun _ kk => XS.icmpNo X0.here hx rfl (hb hby d5_96) rfl (XT.ii_ne_f hc96) kk) ?_
                        show own_Fin _ _ _ _ _ _ _ (s₁.setTop (mkF m 99 #[.val (.int p0)] []))
                        refine own_getS X0 hx hZ hown (host := "") (Or.inl (hw _ (List.mem_of_getElem? (i := 80) rfl))) Via.refl e0 (S_PUNCTUATION.ext O0.2) (hb hby d5_99) ?_
                        intro T11 X11 e11
                        show own_Fin _ _ _ _ _ _ _ (T11.setTop (mkF m 102 #[.val (.int p0)] [(.ref (kA 10))]))
                        exact own_retA X11 hx hlk hret rfl rfl (hb hby d5_102) (by decide) (by decide) ⟨(by rw [own_f5, if_neg hc1, if_neg hc10, if_neg hc19, if_neg hc28, if_neg hc37, if_neg hc46, if_neg hc56, if_neg hc66, if_neg hc76, if_neg hc86, if_pos hc96]), N0, e11⟩
                      · refine own_go (fun _ kk => XS.icmpYes X0.here hx rfl (pc0 := 96) (pc' := 103) rfl (hb hby d5_96) rfl (XT.ii_ne_t hc96) (by decide) (by decide) kk) ?_
                        show own_Fin _ _ _ _ _ _ _ (s₁.setTop (mkF m 103 #[.val (.int p0)] []))
                        refine own_getS X0 hx hZ hown (host := "") (Or.inl (hw _ (List.mem_of_getElem? (i := 107) rfl))) Via.refl e0 (S_END.ext O0.2) (hb hby d5_103) ?_
                        intro T12 X12 e12
                        show own_Fin _ _ _ _ _ _ _ (T12.setTop (mkF m 106 #[.val (.int p0)] [(.ref (kA 11))]))
                        exact own_retA X12 hx hlk hret rfl rfl (hb hby d5_106) (by decide) (by decide) ⟨(by rw [own_f5, if_neg hc1, if_neg hc10, if_neg hc19, if_neg hc28, if_neg hc37, if_neg hc46, if_neg hc56, if_neg hc66, if_neg hc76, if_neg hc86, if_neg hc96]), N0, e12⟩

theorem own_k10 {se : Int32} {kA : Nat → Addr} (h : se = (10 : Int32)) : own_f5 se kA = kA 10 := by subst h; rfl
theorem own_kn {se : Int32} {kA : Nat → Addr} (hd : ∀ i, i < 12 → i ≠ 10 → ¬ kA i = kA 10) (h : ¬ se = (10 : Int32)) : ¬ own_f5 se kA = kA 10 := by
  unfold own_f5
  repeat' split
  all_goals first | exact absurd (by assumption) h | exact hd _ (by decide) (by decide)
theorem own_chk0 : ∀ k, k < 256 → own_ch ((Int32.ofNat k)).toUInt32.toUInt16.toUInt32.toInt32 := by
  have : ∀ k, k < 256 → ¬ ((Int32.ofNat k)).toUInt32.toUInt16.toUInt32.toInt32 < 0 ∧ ¬ (255 : Int32) < ((Int32.ofNat k)).toUInt32.toUInt16.toUInt32.toInt32 := by decide +kernel
  exact this
theorem own_k255 (x : Int32) : own_ch (x &&& (255 : Int32)) := by
  have e : (x &&& (255 : Int32)).toInt = x.toInt % 256 := Jvm.Kit.i32_mask x 255 (k := 8) (by decide) (by decide)
  have e0 : (0 : Int32).toInt = 0 := by decide
  have e5 : (255 : Int32).toInt = 255 := by decide
  constructor
  · rw [Int32.lt_iff_toInt_lt, e, e0]; omega
  · rw [Int32.lt_iff_toInt_lt, e, e5]; omega
theorem own_chk (x : Int32) : own_ch ((x &&& (255 : Int32))).toUInt32.toUInt16.toUInt32.toInt32 := by
  rw [(own_ch256 (own_k255 x)).1]; exact own_chk0 _ (own_ch256 (own_k255 x)).2
def own_Q0 (w : Option Value) (n0 : Nat) (v : Option Value) (h : Heap) (L : List Loc) : Prop := v = w ∧ Fr n0 L

theorem pd_0_0 : parseMethodDescriptor "(ICC)Ljava/lang/String;" = some ⟨[.int, .char, .char], some (.object "java/lang/String")⟩ := by decide +kernel
theorem pd_0_1 : parseMethodDescriptor "(I)Lcom/example/tuplelift/tuplelift/service/SparqlTokenizer$Kind;" = some ⟨[.int], some (.object "com/example/tuplelift/tuplelift/service/SparqlTokenizer$Kind")⟩ := by decide +kernel
theorem pd_0_2 : parseMethodDescriptor "(Lcom/example/tuplelift/tuplelift/service/SparqlTokenizer$Kind;Ljava/lang/String;Ljava/lang/String;IIII)V" = some ⟨[(.object "com/example/tuplelift/tuplelift/service/SparqlTokenizer$Kind"), (.object "java/lang/String"), (.object "java/lang/String"), .int, .int, .int, .int], none⟩ := by decide +kernel
theorem pd_0_3 : parseMethodDescriptor "(Ljava/lang/String;)Z" = some ⟨[(.object "java/lang/String")], some .boolean⟩ := by decide +kernel
theorem pn_0 : plainFor x = true := plainFor_of_name (by show plainName "com/example/tuplelift/tuplelift/service/TokenIsPinLaw" = true; first | (simp [plainName, overriddenIn]; done) | decide +kernel)
theorem ef_0 (m : MethodId) (x0 : Int32) (x1 : Int32) (x2 : Int32) (x3 : Int32) : entryFrame m #[(.int x0), (.int x1), (.int x2), (.int x3)] maxLocals = mkF m 0 #[.val (.int x0), .val (.int x1), .val (.int x2), .val (.int x3), .unset, .unset, .unset, .unset, .unset, .unset, .unset, .unset, .unset, .unset, .unset, .unset] [] := by first | (simp [entryFrame, mkF, argsToLocals, Value.category, maxLocals]; done) | rfl
def own_f0_219 (p0 : Int32) (p1 : Int32) (p2 : Int32) (p3 : Int32) (se : Int32) (lt : Int32) (mo : Int32) (lp : Int32) (u0 : Int32) (u1 : Int32) (q0 : Int32) (q1 : Int32) (ex : Int32) : Int32 :=
  if se = (10 : Int32) then
    if (own_f8y (own_bs lt u0 u1) (own_bs lp q0 q1)) = ex then
      (1 : Int32)
    else
      (0 : Int32)
  else
    if (own_f8n (own_bs lt u0 u1) (own_bs lp q0 q1)) = ex then
      (1 : Int32)
    else
      (0 : Int32)
def own_f0_122 (p0 : Int32) (p1 : Int32) (p2 : Int32) (p3 : Int32) (se : Int32) (lt : Int32) (mo : Int32) (lp : Int32) (u0 : Int32) (u1 : Int32) (q0 : Int32) (q1 : Int32) : Int32 :=
  if se = (10 : Int32) then
    if lt = lp then
      if lt < (1 : Int32) then
        if lt < (2 : Int32) then
          own_f0_219 p0 p1 p2 p3 se lt mo lp u0 u1 q0 q1 ((1 : Int32))
        else
          if u1 = q1 then
            own_f0_219 p0 p1 p2 p3 se lt mo lp u0 u1 q0 q1 ((1 : Int32))
          else
            own_f0_219 p0 p1 p2 p3 se lt mo lp u0 u1 q0 q1 ((0 : Int32))
      else
        if u0 = q0 then
          if lt < (2 : Int32) then
            own_f0_219 p0 p1 p2 p3 se lt mo lp u0 u1 q0 q1 ((1 : Int32))
          else
            if u1 = q1 then
              own_f0_219 p0 p1 p2 p3 se lt mo lp u0 u1 q0 q1 ((1 : Int32))
            else
              own_f0_219 p0 p1 p2 p3 se lt mo lp u0 u1 q0 q1 ((0 : Int32))
        else
          own_f0_219 p0 p1 p2 p3 se lt mo lp u0 u1 q0 q1 ((0 : Int32))
    else
      own_f0_219 p0 p1 p2 p3 se lt mo lp u0 u1 q0 q1 ((0 : Int32))
  else
    own_f0_219 p0 p1 p2 p3 se lt mo lp u0 u1 q0 q1 ((0 : Int32))
def own_f0 (p0 : Int32) (p1 : Int32) (p2 : Int32) (p3 : Int32) : Int32 :=
  if (((p0.toUInt32 >>> ((8 : Int32) &&& 31).toUInt32).toInt32) &&& (3 : Int32)) = (2 : Int32) then
    own_f0_122 p0 p1 p2 p3 ((if (p0 &&& (1 : Int32)) = 0 then ((((p0.toUInt32 >>> ((1 : Int32) &&& 31).toUInt32).toInt32) &&& (15 : Int32)) % (12 : Int32)) else (10 : Int32))) (((((p0.toUInt32 >>> ((5 : Int32) &&& 31).toUInt32).toInt32) &&& (3 : Int32)) % (3 : Int32))) ((((p0.toUInt32 >>> ((8 : Int32) &&& 31).toUInt32).toInt32) &&& (3 : Int32))) (((((p0.toUInt32 >>> ((5 : Int32) &&& 31).toUInt32).toInt32) &&& (3 : Int32)) % (3 : Int32))) (((p1 &&& (255 : Int32))).toUInt32.toUInt16.toUInt32.toInt32) (((((p1.toUInt32 >>> ((8 : Int32) &&& 31).toUInt32).toInt32) &&& (255 : Int32))).toUInt32.toUInt16.toUInt32.toInt32) (((p1 &&& (255 : Int32))).toUInt32.toUInt16.toUInt32.toInt32) (((((p1.toUInt32 >>> ((8 : Int32) &&& 31).toUInt32).toInt32) &&& (255 : Int32))).toUInt32.toUInt16.toUInt32.toInt32)
  else
    if (((p0.toUInt32 >>> ((8 : Int32) &&& 31).toUInt32).toInt32) &&& (3 : Int32)) = (3 : Int32) then
      own_f0_122 p0 p1 p2 p3 ((if (p0 &&& (1 : Int32)) = 0 then ((((p0.toUInt32 >>> ((1 : Int32) &&& 31).toUInt32).toInt32) &&& (15 : Int32)) % (12 : Int32)) else (10 : Int32))) (((((p0.toUInt32 >>> ((5 : Int32) &&& 31).toUInt32).toInt32) &&& (3 : Int32)) % (3 : Int32))) ((((p0.toUInt32 >>> ((8 : Int32) &&& 31).toUInt32).toInt32) &&& (3 : Int32))) (((((p0.toUInt32 >>> ((5 : Int32) &&& 31).toUInt32).toInt32) &&& (3 : Int32)) % (3 : Int32))) (((p1 &&& (255 : Int32))).toUInt32.toUInt16.toUInt32.toInt32) (((((p1.toUInt32 >>> ((8 : Int32) &&& 31).toUInt32).toInt32) &&& (255 : Int32))).toUInt32.toUInt16.toUInt32.toInt32) (((p1 &&& (255 : Int32))).toUInt32.toUInt16.toUInt32.toInt32) (((((p2.toUInt32 >>> ((8 : Int32) &&& 31).toUInt32).toInt32) &&& (255 : Int32))).toUInt32.toUInt16.toUInt32.toInt32)
    else
      own_f0_122 p0 p1 p2 p3 ((if (p0 &&& (1 : Int32)) = 0 then ((((p0.toUInt32 >>> ((1 : Int32) &&& 31).toUInt32).toInt32) &&& (15 : Int32)) % (12 : Int32)) else (10 : Int32))) (((((p0.toUInt32 >>> ((5 : Int32) &&& 31).toUInt32).toInt32) &&& (3 : Int32)) % (3 : Int32))) ((((p0.toUInt32 >>> ((8 : Int32) &&& 31).toUInt32).toInt32) &&& (3 : Int32))) (((((p0.toUInt32 >>> ((10 : Int32) &&& 31).toUInt32).toInt32) &&& (3 : Int32)) % (3 : Int32))) (((p1 &&& (255 : Int32))).toUInt32.toUInt16.toUInt32.toInt32) (((((p1.toUInt32 >>> ((8 : Int32) &&& 31).toUInt32).toInt32) &&& (255 : Int32))).toUInt32.toUInt16.toUInt32.toInt32) (((p2 &&& (255 : Int32))).toUInt32.toUInt16.toUInt32.toInt32) (((((p2.toUInt32 >>> ((8 : Int32) &&& 31).toUInt32).toInt32) &&& (255 : Int32))).toUInt32.toUInt16.toUInt32.toInt32)
set_option maxRecDepth 65536 in
set_option maxHeartbeats 40000000 in
theorem rm0 (l : Launch) (Z : State) (a0 : Array Value) (hw : ∀ d ∈ tables_1, d.before a0 Z = true) (p0 : Int32) (p1 : Int32) (p2 : Int32) (p3 : Int32) (h0 : Heap) (n0 : Nat) (Z0 : n0 ≤ h0.size) (kA : Nat → Addr) (S_IRI : Sta Z Z.heap "com/example/tuplelift/tuplelift/service/SparqlTokenizer$Kind" "IRI" "Lcom/example/tuplelift/tuplelift/service/SparqlTokenizer$Kind;" (.ref (kA 0))) (S_PREFIXED_NAME : Sta Z Z.heap "com/example/tuplelift/tuplelift/service/SparqlTokenizer$Kind" "PREFIXED_NAME" "Lcom/example/tuplelift/tuplelift/service/SparqlTokenizer$Kind;" (.ref (kA 1))) (S_BLANK_NODE : Sta Z Z.heap "com/example/tuplelift/tuplelift/service/SparqlTokenizer$Kind" "BLANK_NODE" "Lcom/example/tuplelift/tuplelift/service/SparqlTokenizer$Kind;" (.ref (kA 2))) (S_VARIABLE : Sta Z Z.heap "com/example/tuplelift/tuplelift/service/SparqlTokenizer$Kind" "VARIABLE" "Lcom/example/tuplelift/tuplelift/service/SparqlTokenizer$Kind;" (.ref (kA 3))) (S_STRING : Sta Z Z.heap "com/example/tuplelift/tuplelift/service/SparqlTokenizer$Kind" "STRING" "Lcom/example/tuplelift/tuplelift/service/SparqlTokenizer$Kind;" (.ref (kA 4))) (S_LANGUAGE : Sta Z Z.heap "com/example/tuplelift/tuplelift/service/SparqlTokenizer$Kind" "LANGUAGE" "Lcom/example/tuplelift/tuplelift/service/SparqlTokenizer$Kind;" (.ref (kA 5))) (S_INTEGER : Sta Z Z.heap "com/example/tuplelift/tuplelift/service/SparqlTokenizer$Kind" "INTEGER" "Lcom/example/tuplelift/tuplelift/service/SparqlTokenizer$Kind;" (.ref (kA 6))) (S_DECIMAL : Sta Z Z.heap "com/example/tuplelift/tuplelift/service/SparqlTokenizer$Kind" "DECIMAL" "Lcom/example/tuplelift/tuplelift/service/SparqlTokenizer$Kind;" (.ref (kA 7))) (S_DOUBLE : Sta Z Z.heap "com/example/tuplelift/tuplelift/service/SparqlTokenizer$Kind" "DOUBLE" "Lcom/example/tuplelift/tuplelift/service/SparqlTokenizer$Kind;" (.ref (kA 8))) (S_NAME : Sta Z Z.heap "com/example/tuplelift/tuplelift/service/SparqlTokenizer$Kind" "NAME" "Lcom/example/tuplelift/tuplelift/service/SparqlTokenizer$Kind;" (.ref (kA 9))) (S_PUNCTUATION : Sta Z Z.heap "com/example/tuplelift/tuplelift/service/SparqlTokenizer$Kind" "PUNCTUATION" "Lcom/example/tuplelift/tuplelift/service/SparqlTokenizer$Kind;" (.ref (kA 10))) (S_END : Sta Z Z.heap "com/example/tuplelift/tuplelift/service/SparqlTokenizer$Kind" "END" "Lcom/example/tuplelift/tuplelift/service/SparqlTokenizer$Kind;" (.ref (kA 11))) (hd10 : ∀ i, i < 12 → i ≠ 10 → ¬ kA i = kA 10) (cs : Int32) (S_cs : Sta Z Z.heap "java/lang/String" "COMPACT_STRINGS" "Z" (.int cs)) (hcs : ¬ cs = 0) (O0 : Old Z n0 h0) :
    own_MetL l x code maxLocals ret room_1 Z own_EL0 [] tables_1 #[(.int p0), (.int p1), (.int p2), (.int p3)] h0 (own_Q0 (some (.int (own_f0 p0 p1 p2 p3))) n0) := by
  refine own_enterL pn_0 ?_
  intro p e s m below meth c s₁ hx hby hml hown hnm hret hlk hZ e0 eS HC HSafe X0
  rw [ef_0]
  have N0 := Fr.nil n0
  have hS0 := own_since s h0.size
  have hml : c.maxLocals = 16 := hml
  have hEL : EW Z a0 own_EL0 := EW.cons (hw _ (List.mem_of_getElem? (i := 18) rfl)) (by simp) EW.nil
  have wS : ∀ a ∈ Bundle.stringAtoms, a.before a0 Z = true := by
    intro d hd
    simp only [Bundle.stringAtoms, List.mem_cons, List.not_mem_nil, or_false] at hd
    rcases hd with rfl | rfl | rfl | rfl | rfl | rfl | rfl
    · exact (hw _ (List.mem_of_getElem? (i := 6) rfl))
    · exact (hw _ (List.mem_of_getElem? (i := 5) rfl))
    · exact (hw _ (List.mem_of_getElem? (i := 19) rfl))
    · exact (hw _ (List.mem_of_getElem? (i := 20) rfl))
    · exact (hw _ (List.mem_of_getElem? (i := 21) rfl))
    · exact (hw _ (List.mem_of_getElem? (i := 22) rfl))
    · exact (hw _ (List.mem_of_getElem? (i := 23) rfl))
  show own_FinX _ _ _ _ _ (s₁.setTop (mkF m 0 #[.val (.int p0), .val (.int p1), .val (.int p2), .val (.int p3), .unset, .unset, .unset, .unset, .unset, .unset, .unset, .unset, .unset, .unset, .unset, .unset] []))
  refine own_go (fun _ kk => XS.iloadN X0.here hx rfl (hb hby at_0) rfl (XS.iconst X0.here hx rfl (hb hby at_1) (XS.iand X0.here hx rfl (hb hby at_2) rfl kk))) ?_
  show own_FinX _ _ _ _ _ (s₁.setTop (mkF m 3 #[.val (.int p0), .val (.int p1), .val (.int p2), .val (.int p3), .unset, .unset, .unset, .unset, .unset, .unset, .unset, .unset, .unset, .unset, .unset, .unset] [(.int (p0 &&& (1 : Int32)))]))
  refine own_go (U' := s₁.setTop (mkF m 20 #[.val (.int p0), .val (.int p1), .val (.int p2), .val (.int p3), .unset, .unset, .unset, .unset, .unset, .unset, .unset, .unset, .unset, .unset, .unset, .unset] [(.int (if (p0 &&& (1 : Int32)) = 0 then ((((p0.toUInt32 >>> ((1 : Int32) &&& 31).toUInt32).toInt32) &&& (15 : Int32)) % (12 : Int32)) else (10 : Int32)))])) (fun t k => ?_) ?_
  · by_cases hd3 : (p0 &&& (1 : Int32)) = 0
    · simp only [if_pos hd3] at k
      refine XS.ifYes X0.here hx rfl (pc0 := 3) (pc' := 11) rfl (hb hby at_3) rfl (XT.i0_eq_t hd3) (by decide) (by decide) (XS.iloadN X0.here hx rfl (hb hby at_11) rfl (XS.iconst X0.here hx rfl (hb hby at_12) (XS.iushr X0.here hx rfl (hb hby at_13) rfl (XS.bipush X0.here hx rfl (hb hby at_14) (XS.iand X0.here hx rfl (hb hby at_16) rfl (XS.bipush X0.here hx rfl (hb hby at_17) (iremM X0 hx rfl (hb hby at_19) rfl (by decide) ?_)))))))
      show Steps p.tables e below (s₁.setTop (mkF m 20 #[.val (.int p0), .val (.int p1), .val (.int p2), .val (.int p3), .unset, .unset, .unset, .unset, .unset, .unset, .unset, .unset, .unset, .unset, .unset, .unset] [(.int ((((p0.toUInt32 >>> ((1 : Int32) &&& 31).toUInt32).toInt32) &&& (15 : Int32)) % (12 : Int32)))])) _
      exact k
    · simp only [if_neg hd3] at k
      refine XS.ifNo X0.here hx rfl (hb hby at_3) rfl (XT.i0_eq_f hd3) (XS.bipush X0.here hx rfl (hb hby at_6) (XS.goto X0.here hx rfl (pc0 := 8) (pc' := 20) rfl (hb hby at_8) (by decide) (by decide) ?_))
      show Steps p.tables e below (s₁.setTop (mkF m 20 #[.val (.int p0), .val (.int p1), .val (.int p2), .val (.int p3), .unset, .unset, .unset, .unset, .unset, .unset, .unset, .unset, .unset, .unset, .unset, .unset] [(.int (10 : Int32))])) _
      exact k
  show own_FinX _ _ _ _ _ (s₁.setTop (mkF m 20 #[.val (.int p0), .val (.int p1), .val (.int p2), .val (.int p3), .unset, .unset, .unset, .unset, .unset, .unset, .unset, .unset, .unset, .unset, .unset, .unset] [(.int (if (p0 &&& (1 : Int32)) = 0 then ((((p0.toUInt32 >>> ((1 : Int32) &&& 31).toUInt32).toInt32) &&& (15 : Int32)) % (12 : Int32)) else (10 : Int32)))]))
  refine own_go (fun _ kk => XS.istore X0.here hx rfl (hb hby at_20) rfl (l' := #[.val (.int p0), .val (.int p1), .val (.int p2), .val (.int p3), .val (.int (if (p0 &&& (1 : Int32)) = 0 then ((((p0.toUInt32 >>> ((1 : Int32) &&& 31).toUInt32).toInt32) &&& (15 : Int32)) % (12 : Int32)) else (10 : Int32))), .unset, .unset, .unset, .unset, .unset, .unset, .unset, .unset, .unset, .unset, .unset]) rfl (XS.iloadN X0.here hx rfl (hb hby at_22) rfl (XS.iconst X0.here hx rfl (hb hby at_23) (XS.iushr X0.here hx rfl (hb hby at_24) rfl (XS.iconst X0.here hx rfl (hb hby at_25) (XS.iand X0.here hx rfl (hb hby at_26) rfl (XS.iconst X0.here hx rfl (hb hby at_27) (iremM X0 hx rfl (hb hby at_28) rfl (by decide) (XS.istore X0.here hx rfl (hb hby at_29) rfl (l' := #[.val (.int p0), .val (.int p1), .val (.int p2), .val (.int p3), .val (.int (if (p0 &&& (1 : Int32)) = 0 then ((((p0.toUInt32 >>> ((1 : Int32) &&& 31).toUInt32).toInt32) &&& (15 : Int32)) % (12 : Int32)) else (10 : Int32))), .val (.int ((((p0.toUInt32 >>> ((5 : Int32) &&& 31).toUInt32).toInt32) &&& (3 : Int32)) % (3 : Int32))), .unset, .unset, .unset, .unset, .unset, .unset, .unset, .unset, .unset, .unset]) rfl (XS.iloadN X0.here hx rfl (hb hby at_31) rfl kk)))))))))) ?_
  show own_FinX _ _ _ _ _ (s₁.setTop (mkF m 32 #[.val (.int p0), .val (.int p1), .val (.int p2), .val (.int p3), .val (.int (if (p0 &&& (1 : Int32)) = 0 then ((((p0.toUInt32 >>> ((1 : Int32) &&& 31).toUInt32).toInt32) &&& (15 : Int32)) % (12 : Int32)) else (10 : Int32))), .val (.int ((((p0.toUInt32 >>> ((5 : Int32) &&& 31).toUInt32).toInt32) &&& (3 : Int32)) % (3 : Int32))), .unset, .unset, .unset, .unset, .unset, .unset, .unset, .unset, .unset, .unset] [(.int p0)]))
  refine own_go (fun _ kk => XS.bipush X0.here hx rfl (hb hby at_32) (XS.iushr X0.here hx rfl (hb hby at_34) rfl (XS.iconst X0.here hx rfl (hb hby at_35) (XS.iand X0.here hx rfl (hb hby at_36) rfl (XS.istore X0.here hx rfl (hb hby at_37) rfl (l' := #[.val (.int p0), .val (.int p1), .val (.int p2), .val (.int p3), .val (.int (if (p0 &&& (1 : Int32)) = 0 then ((((p0.toUInt32 >>> ((1 : Int32) &&& 31).toUInt32).toInt32) &&& (15 : Int32)) % (12 : Int32)) else (10 : Int32))), .val (.int ((((p0.toUInt32 >>> ((5 : Int32) &&& 31).toUInt32).toInt32) &&& (3 : Int32)) % (3 : Int32))), .val (.int (((p0.toUInt32 >>> ((8 : Int32) &&& 31).toUInt32).toInt32) &&& (3 : Int32))), .unset, .unset, .unset, .unset, .unset, .unset, .unset, .unset, .unset]) rfl (XS.iloadN X0.here hx rfl (hb hby at_39) rfl (XS.bipush X0.here hx rfl (hb hby at_40) (XS.iushr X0.here hx rfl (hb hby at_42) rfl (XS.iconst X0.here hx rfl (hb hby at_43) (XS.iand X0.here hx rfl (hb hby at_44) rfl kk)))))))))) ?_
  show own_FinX _ _ _ _ _ (s₁.setTop (mkF m 45 #[.val (.int p0), .val (.int p1), .val (.int p2), .val (.int p3), .val (.int (if (p0 &&& (1 : Int32)) = 0 then ((((p0.toUInt32 >>> ((1 : Int32) &&& 31).toUInt32).toInt32) &&& (15 : Int32)) % (12 : Int32)) else (10 : Int32))), .val (.int ((((p0.toUInt32 >>> ((5 : Int32) &&& 31).toUInt32).toInt32) &&& (3 : Int32)) % (3 : Int32))), .val (.int (((p0.toUInt32 >>> ((8 : Int32) &&& 31).toUInt32).toInt32) &&& (3 : Int32))), .unset, .unset, .unset, .unset, .unset, .unset, .unset, .unset, .unset] [(.int (((p0.toUInt32 >>> ((10 : Int32) &&& 31).toUInt32).toInt32) &&& (3 : Int32)))]))
  refine own_go (fun _ kk => XS.iconst X0.here hx rfl (hb hby at_45) (iremM X0 hx rfl (hb hby at_46) rfl (by decide) (XS.istore X0.here hx rfl (hb hby at_47) rfl (l' := #[.val (.int p0), .val (.int p1), .val (.int p2), .val (.int p3), .val (.int (if (p0 &&& (1 : Int32)) = 0 then ((((p0.toUInt32 >>> ((1 : Int32) &&& 31).toUInt32).toInt32) &&& (15 : Int32)) % (12 : Int32)) else (10 : Int32))), .val (.int ((((p0.toUInt32 >>> ((5 : Int32) &&& 31).toUInt32).toInt32) &&& (3 : Int32)) % (3 : Int32))), .val (.int (((p0.toUInt32 >>> ((8 : Int32) &&& 31).toUInt32).toInt32) &&& (3 : Int32))), .val (.int ((((p0.toUInt32 >>> ((10 : Int32) &&& 31).toUInt32).toInt32) &&& (3 : Int32)) % (3 : Int32))), .unset, .unset, .unset, .unset, .unset, .unset, .unset, .unset]) rfl (XS.iloadN X0.here hx rfl (hb hby at_49) rfl (XS.sipush X0.here hx rfl (hb hby at_50) (XS.iand X0.here hx rfl (hb hby at_53) rfl (XS.i2c X0.here hx rfl (hb hby at_54) rfl (XS.istore X0.here hx rfl (hb hby at_55) rfl (l' := #[.val (.int p0), .val (.int p1), .val (.int p2), .val (.int p3), .val (.int (if (p0 &&& (1 : Int32)) = 0 then ((((p0.toUInt32 >>> ((1 : Int32) &&& 31).toUInt32).toInt32) &&& (15 : Int32)) % (12 : Int32)) else (10 : Int32))), .val (.int ((((p0.toUInt32 >>> ((5 : Int32) &&& 31).toUInt32).toInt32) &&& (3 : Int32)) % (3 : Int32))), .val (.int (((p0.toUInt32 >>> ((8 : Int32) &&& 31).toUInt32).toInt32) &&& (3 : Int32))), .val (.int ((((p0.toUInt32 >>> ((10 : Int32) &&& 31).toUInt32).toInt32) &&& (3 : Int32)) % (3 : Int32))), .val (.int ((p1 &&& (255 : Int32))).toUInt32.toUInt16.toUInt32.toInt32), .unset, .unset, .unset, .unset, .unset, .unset, .unset]) rfl (XS.iloadN X0.here hx rfl (hb hby at_57) rfl (XS.bipush X0.here hx rfl (hb hby at_58) kk)))))))))) ?_
  show own_FinX _ _ _ _ _ (s₁.setTop (mkF m 60 #[.val (.int p0), .val (.int p1), .val (.int p2), .val (.int p3), .val (.int (if (p0 &&& (1 : Int32)) = 0 then ((((p0.toUInt32 >>> ((1 : Int32) &&& 31).toUInt32).toInt32) &&& (15 : Int32)) % (12 : Int32)) else (10 : Int32))), .val (.int ((((p0.toUInt32 >>> ((5 : Int32) &&& 31).toUInt32).toInt32) &&& (3 : Int32)) % (3 : Int32))), .val (.int (((p0.toUInt32 >>> ((8 : Int32) &&& 31).toUInt32).toInt32) &&& (3 : Int32))), .val (.int ((((p0.toUInt32 >>> ((10 : Int32) &&& 31).toUInt32).toInt32) &&& (3 : Int32)) % (3 : Int32))), .val (.int ((p1 &&& (255 : Int32))).toUInt32.toUInt16.toUInt32.toInt32), .unset, .unset, .unset, .unset, .unset, .unset, .unset] [(.int (8 : Int32)), (.int p1)]))
  refine own_go (fun _ kk => XS.iushr X0.here hx rfl (hb hby at_60) rfl (XS.sipush X0.here hx rfl (hb hby at_61) (XS.iand X0.here hx rfl (hb hby at_64) rfl (XS.i2c X0.here hx rfl (hb hby at_65) rfl (XS.istore X0.here hx rfl (hb hby at_66) rfl (l' := #[.val (.int p0), .val (.int p1), .val (.int p2), .val (.int p3), .val (.int (if (p0 &&& (1 : Int32)) = 0 then ((((p0.toUInt32 >>> ((1 : Int32) &&& 31).toUInt32).toInt32) &&& (15 : Int32)) % (12 : Int32)) else (10 : Int32))), .val (.int ((((p0.toUInt32 >>> ((5 : Int32) &&& 31).toUInt32).toInt32) &&& (3 : Int32)) % (3 : Int32))), .val (.int (((p0.toUInt32 >>> ((8 : Int32) &&& 31).toUInt32).toInt32) &&& (3 : Int32))), .val (.int ((((p0.toUInt32 >>> ((10 : Int32) &&& 31).toUInt32).toInt32) &&& (3 : Int32)) % (3 : Int32))), .val (.int ((p1 &&& (255 : Int32))).toUInt32.toUInt16.toUInt32.toInt32), .val (.int ((((p1.toUInt32 >>> ((8 : Int32) &&& 31).toUInt32).toInt32) &&& (255 : Int32))).toUInt32.toUInt16.toUInt32.toInt32), .unset, .unset, .unset, .unset, .unset, .unset]) rfl (XS.iloadN X0.here hx rfl (hb hby at_68) rfl (XS.sipush X0.here hx rfl (hb hby at_69) (XS.iand X0.here hx rfl (hb hby at_72) rfl (XS.i2c X0.here hx rfl (hb hby at_73) rfl (XS.istore X0.here hx rfl (hb hby at_74) rfl (l' := #[.val (.int p0), .val (.int p1), .val (.int p2), .val (.int p3), .val (.int (if (p0 &&& (1 : Int32)) = 0 then ((((p0.toUInt32 >>> ((1 : Int32) &&& 31).toUInt32).toInt32) &&& (15 : Int32)) % (12 : Int32)) else (10 : Int32))), .val (.int ((((p0.toUInt32 >>> ((5 : Int32) &&& 31).toUInt32).toInt32) &&& (3 : Int32)) % (3 : Int32))), .val (.int (((p0.toUInt32 >>> ((8 : Int32) &&& 31).toUInt32).toInt32) &&& (3 : Int32))), .val (.int ((((p0.toUInt32 >>> ((10 : Int32) &&& 31).toUInt32).toInt32) &&& (3 : Int32)) % (3 : Int32))), .val (.int ((p1 &&& (255 : Int32))).toUInt32.toUInt16.toUInt32.toInt32), .val (.int ((((p1.toUInt32 >>> ((8 : Int32) &&& 31).toUInt32).toInt32) &&& (255 : Int32))).toUInt32.toUInt16.toUInt32.toInt32), .val (.int ((p2 &&& (255 : Int32))).toUInt32.toUInt16.toUInt32.toInt32), .unset, .unset, .unset, .unset, .unset]) rfl kk)))))))))) ?_
  show own_FinX _ _ _ _ _ (s₁.setTop (mkF m 76 #[.val (.int p0), .val (.int p1), .val (.int p2), .val (.int p3), .val (.int (if (p0 &&& (1 : Int32)) = 0 then ((((p0.toUInt32 >>> ((1 : Int32) &&& 31).toUInt32).toInt32) &&& (15 : Int32)) % (12 : Int32)) else (10 : Int32))), .val (.int ((((p0.toUInt32 >>> ((5 : Int32) &&& 31).toUInt32).toInt32) &&& (3 : Int32)) % (3 : Int32))), .val (.int (((p0.toUInt32 >>> ((8 : Int32) &&& 31).toUInt32).toInt32) &&& (3 : Int32))), .val (.int ((((p0.toUInt32 >>> ((10 : Int32) &&& 31).toUInt32).toInt32) &&& (3 : Int32)) % (3 : Int32))), .val (.int ((p1 &&& (255 : Int32))).toUInt32.toUInt16.toUInt32.toInt32), .val (.int ((((p1.toUInt32 >>> ((8 : Int32) &&& 31).toUInt32).toInt32) &&& (255 : Int32))).toUInt32.toUInt16.toUInt32.toInt32), .val (.int ((p2 &&& (255 : Int32))).toUInt32.toUInt16.toUInt32.toInt32), .unset, .unset, .unset, .unset, .unset] []))
  refine own_go (fun _ kk => XS.iloadN X0.here hx rfl (hb hby at_76) rfl (XS.bipush X0.here hx rfl (hb hby at_77) (XS.iushr X0.here hx rfl (hb hby at_79) rfl (XS.sipush X0.here hx rfl (hb hby at_80) (XS.iand X0.here hx rfl (hb hby at_83) rfl (XS.i2c X0.here hx rfl (hb hby at_84) rfl (XS.istore X0.here hx rfl (hb hby at_85) rfl (l' := #[.val (.int p0), .val (.int p1), .val (.int p2), .val (.int p3), .val (.int (if (p0 &&& (1 : Int32)) = 0 then ((((p0.toUInt32 >>> ((1 : Int32) &&& 31).toUInt32).toInt32) &&& (15 : Int32)) % (12 : Int32)) else (10 : Int32))), .val (.int ((((p0.toUInt32 >>> ((5 : Int32) &&& 31).toUInt32).toInt32) &&& (3 : Int32)) % (3 : Int32))), .val (.int (((p0.toUInt32 >>> ((8 : Int32) &&& 31).toUInt32).toInt32) &&& (3 : Int32))), .val (.int ((((p0.toUInt32 >>> ((10 : Int32) &&& 31).toUInt32).toInt32) &&& (3 : Int32)) % (3 : Int32))), .val (.int ((p1 &&& (255 : Int32))).toUInt32.toUInt16.toUInt32.toInt32), .val (.int ((((p1.toUInt32 >>> ((8 : Int32) &&& 31).toUInt32).toInt32) &&& (255 : Int32))).toUInt32.toUInt16.toUInt32.toInt32), .val (.int ((p2 &&& (255 : Int32))).toUInt32.toUInt16.toUInt32.toInt32), .val (.int ((((p2.toUInt32 >>> ((8 : Int32) &&& 31).toUInt32).toInt32) &&& (255 : Int32))).toUInt32.toUInt16.toUInt32.toInt32), .unset, .unset, .unset, .unset]) rfl kk))))))) ?_
  show own_FinX _ _ _ _ _ (s₁.setTop (mkF m 87 #[.val (.int p0), .val (.int p1), .val (.int p2), .val (.int p3), .val (.int (if (p0 &&& (1 : Int32)) = 0 then ((((p0.toUInt32 >>> ((1 : Int32) &&& 31).toUInt32).toInt32) &&& (15 : Int32)) % (12 : Int32)) else (10 : Int32))), .val (.int ((((p0.toUInt32 >>> ((5 : Int32) &&& 31).toUInt32).toInt32) &&& (3 : Int32)) % (3 : Int32))), .val (.int (((p0.toUInt32 >>> ((8 : Int32) &&& 31).toUInt32).toInt32) &&& (3 : Int32))), .val (.int ((((p0.toUInt32 >>> ((10 : Int32) &&& 31).toUInt32).toInt32) &&& (3 : Int32)) % (3 : Int32))), .val (.int ((p1 &&& (255 : Int32))).toUInt32.toUInt16.toUInt32.toInt32), .val (.int ((((p1.toUInt32 >>> ((8 : Int32) &&& 31).toUInt32).toInt32) &&& (255 : Int32))).toUInt32.toUInt16.toUInt32.toInt32), .val (.int ((p2 &&& (255 : Int32))).toUInt32.toUInt16.toUInt32.toInt32), .val (.int ((((p2.toUInt32 >>> ((8 : Int32) &&& 31).toUInt32).toInt32) &&& (255 : Int32))).toUInt32.toUInt16.toUInt32.toInt32), .unset, .unset, .unset, .unset] []))
  have J122 : ∀ (TJ122 : State) (locsJ122 : List Loc) (se : Int32) (lt : Int32) (mo : Int32) (lp : Int32) (u0 : Int32) (u1 : Int32) (q0 : Int32) (q1 : Int32), Stand p l e room_1 s m #[(.int p0), (.int p1), (.int p2), (.int p3)] below meth c TJ122 locsJ122 0 0 → Fr n0 locsJ122 → TJ122.heap = h0 → (own_f0 p0 p1 p2 p3) = own_f0_122 p0 p1 p2 p3 se lt mo lp u0 u1 q0 q1 → (own_ch u0) → (own_ch u1) → (own_ch q0) → (own_ch q1) → own_FinX p e below (own_ELw s room_1.cells room_1.slots) (own_Q0 (some (.int (own_f0 p0 p1 p2 p3))) n0) (TJ122.setTop (mkF m 122 #[.val (.int p0), .val (.int p1), .val (.int p2), .val (.int p3), .val (.int se), .val (.int lt), .val (.int mo), .val (.int lp), .val (.int u0), .val (.int u1), .val (.int q0), .val (.int q1), .unset, .unset, .unset, .unset] [])) := by
    intro TJ122 locsJ122 se lt mo lp u0 u1 q0 q1 XJ122 NJ122 eJ122 hjJ122 h_u0 h_u1 h_q0 h_q1
    refine own_go (fun _ kk => XS.iload XJ122.here hx rfl (hb hby at_122) rfl (XS.iload XJ122.here hx rfl (hb hby at_124) rfl (XS.iload XJ122.here hx rfl (hb hby at_126) rfl kk))) ?_
    show own_FinX _ _ _ _ _ (TJ122.setTop (mkF m 128 #[.val (.int p0), .val (.int p1), .val (.int p2), .val (.int p3), .val (.int se), .val (.int lt), .val (.int mo), .val (.int lp), .val (.int u0), .val (.int u1), .val (.int q0), .val (.int q1), .unset, .unset, .unset, .unset] [(.int u1), (.int u0), (.int lt)]))
    refine own_callSW (s := s) (vm0 := s.vm) XJ122 hx hZ hown (hw _ (List.mem_of_getElem? (i := 0) rfl)) (hw _ (List.mem_of_getElem? (i := 1) rfl)) (hw _ (List.mem_of_getElem? (i := 2) rfl)) (hw _ (List.mem_of_getElem? (i := 3) rfl)) (by decide) (rm1 l Z a0 hw lt u0 u1 h0 n0 Z0 h_u0 h_u1 cs S_cs hcs O0) hEL (CHr.refl HC).1 own_none hS0 (Nat.le_refl _) eJ122 (argsL := [(.int lt), (.int u0), (.int u1)]) (rest := []) rfl rfl (by rw [hml]; rfl) (lenOf pd_0_0 rfl) (hb hby at_128) (W := 0) (Nat.le_of_eq rfl) (by decide) (by decide) (by decide) (by decide) ?_
    rintro v1 T1 L1 X1 ⟨st1, sb1, rfl, M1, Kc1, szt1, Es1, Fc1, Fv1, Vb1⟩ Cl1 S1 hZ hown
    have N1 := Fr.app NJ122 M1
    have g_st1 : n0 ≤ st1 := Nat.le_trans Z0 szt1
    have f2 := O0.keep Kc1 all0
    have Z1 := Nat.le_trans Z0 Kc1.1
    have sk1 := Nat.le_trans (Nat.le_refl _) Kc1.1
    have CC1 := (CHr.refl HC).trans Cl1
    show own_FinX _ _ _ _ _ (T1.setTop (mkF m 131 #[.val (.int p0), .val (.int p1), .val (.int p2), .val (.int p3), .val (.int se), .val (.int lt), .val (.int mo), .val (.int lp), .val (.int u0), .val (.int u1), .val (.int q0), .val (.int q1), .unset, .unset, .unset, .unset] [(.ref st1)]))
    refine own_go (fun _ kk => XS.astore X1.here hx rfl (hb hby at_131) rfl rfl (l' := #[.val (.int p0), .val (.int p1), .val (.int p2), .val (.int p3), .val (.int se), .val (.int lt), .val (.int mo), .val (.int lp), .val (.int u0), .val (.int u1), .val (.int q0), .val (.int q1), .val (.ref st1), .unset, .unset, .unset]) rfl (XS.iload X1.here hx rfl (hb hby at_133) rfl (XS.iload X1.here hx rfl (hb hby at_135) rfl (XS.iload X1.here hx rfl (hb hby at_137) rfl kk)))) ?_
    show own_FinX _ _ _ _ _ (T1.setTop (mkF m 139 #[.val (.int p0), .val (.int p1), .val (.int p2), .val (.int p3), .val (.int se), .val (.int lt), .val (.int mo), .val (.int lp), .val (.int u0), .val (.int u1), .val (.int q0), .val (.int q1), .val (.ref st1), .unset, .unset, .unset] [(.int q1), (.int q0), (.int lp)]))
    refine own_callSW (s := s) (vm0 := T1.vm) X1 hx hZ hown (hw _ (List.mem_of_getElem? (i := 0) rfl)) (hw _ (List.mem_of_getElem? (i := 1) rfl)) (hw _ (List.mem_of_getElem? (i := 2) rfl)) (hw _ (List.mem_of_getElem? (i := 3) rfl)) (by decide) (rm1 l Z a0 hw lp q0 q1 T1.heap n0 Z1 h_q0 h_q1 cs S_cs hcs f2) hEL CC1.1 own_none S1 (Nat.le_refl _) rfl (argsL := [(.int lp), (.int q0), (.int q1)]) (rest := []) rfl rfl (by rw [hml]; rfl) (lenOf pd_0_0 rfl) (hb hby at_139) (W := 0) (Nat.le_of_eq rfl) (by decide) (by decide) (by decide) (by decide) ?_
    rintro v3 T3 L3 X3 ⟨st3, sb3, rfl, M3, Kc3, szt3, Es3, Fc3, Fv3, Vb3⟩ Cl3 S3 hZ hown
    have N3 := Fr.app N1 M3
    have g_st3 : n0 ≤ st3 := Nat.le_trans Z1 szt3
    have ne_st1_st3 : st1 ≠ st3 := Nat.ne_of_lt (Nat.lt_of_lt_of_le Es1.lt szt3)
    have ne_sb1_st3 : sb1 ≠ st3 := Nat.ne_of_lt (Nat.lt_of_lt_of_le Vb1.lt szt3)
    have f4 := f2.keep Kc3 all0
    have f5 := Es1.keep Kc3
    have f6 := Fc1.keep Kc3 nin0
    have f7 := Fv1.keep Kc3 nin0
    have f8 := Vb1.keep Kc3 nin0
    have Z3 := Nat.le_trans Z1 Kc3.1
    have sk3 := Nat.le_trans (Nat.le_refl _) Kc3.1
    have CC3 := CC1.trans Cl3
    show own_FinX _ _ _ _ _ (T3.setTop (mkF m 142 #[.val (.int p0), .val (.int p1), .val (.int p2), .val (.int p3), .val (.int se), .val (.int lt), .val (.int mo), .val (.int lp), .val (.int u0), .val (.int u1), .val (.int q0), .val (.int q1), .val (.ref st1), .unset, .unset, .unset] [(.ref st3)]))
    refine own_go (fun _ kk => XS.astore X3.here hx rfl (hb hby at_142) rfl rfl (l' := #[.val (.int p0), .val (.int p1), .val (.int p2), .val (.int p3), .val (.int se), .val (.int lt), .val (.int mo), .val (.int lp), .val (.int u0), .val (.int u1), .val (.int q0), .val (.int q1), .val (.ref st1), .val (.ref st3), .unset, .unset]) rfl kk) ?_
    show own_FinX _ _ _ _ _ (T3.setTop (mkF m 144 #[.val (.int p0), .val (.int p1), .val (.int p2), .val (.int p3), .val (.int se), .val (.int lt), .val (.int mo), .val (.int lp), .val (.int u0), .val (.int u1), .val (.int q0), .val (.int q1), .val (.ref st1), .val (.ref st3), .unset, .unset] []))
    refine own_new X3 hx hZ hown (hw _ (List.mem_of_getElem? (i := 26) rfl)) (hw _ (List.mem_of_getElem? (i := 27) rfl)) (hw _ (List.mem_of_getElem? (i := 28) rfl)) rfl (hb hby at_144) (by decide) (by decide) ?_
    intro T9 h9 b9 g9 X9 e9 E9 A9 D9
    have g_b9 : n0 ≤ b9 := Nat.le_trans Z3 (Nat.le_of_eq g9.symm)
    have ne_st1_b9 : st1 ≠ b9 := Nat.ne_of_lt (Nat.lt_of_lt_of_le f5.lt (Nat.le_of_eq g9.symm))
    have ne_sb1_b9 : sb1 ≠ b9 := Nat.ne_of_lt (Nat.lt_of_lt_of_le f8.lt (Nat.le_of_eq g9.symm))
    have ne_st3_b9 : st3 ≠ b9 := Nat.ne_of_lt (Nat.lt_of_lt_of_le Es3.lt (Nat.le_of_eq g9.symm))
    have ne_sb3_b9 : sb3 ≠ b9 := Nat.ne_of_lt (Nat.lt_of_lt_of_le Vb3.lt (Nat.le_of_eq g9.symm))
    have f10 := f4.ext E9
    have f11 := f5.ext E9
    have f12 := f6.ext E9
    have f13 := f7.ext E9
    have f14 := f8.ext E9
    have f15 := Es3.ext E9
    have f16 := Fc3.ext E9
    have f17 := Fv3.ext E9
    have f18 := Vb3.ext E9
    have Z9 := Nat.le_trans Z3 E9.1
    have sk9 := Nat.le_trans (Nat.le_refl _) E9.1
    have CC9 := CC3.trans (CHr.ext E9 CC3.1)
    have F9_kind : Fld Z h9 b9 "com/example/tuplelift/tuplelift/service/SparqlTokenizer$Token" "kind" "Lcom/example/tuplelift/tuplelift/service/SparqlTokenizer$Kind;" .null := D9 (Or.inr (hw _ (List.mem_of_getElem? (i := 47) rfl))) (ty := (.object "com/example/tuplelift/tuplelift/service/SparqlTokenizer$Kind")) (by decide)
    have F9_text : Fld Z h9 b9 "com/example/tuplelift/tuplelift/service/SparqlTokenizer$Token" "text" "Ljava/lang/String;" .null := D9 (Or.inr (hw _ (List.mem_of_getElem? (i := 49) rfl))) (ty := (.object "java/lang/String")) (by decide)
    have F9_local : Fld Z h9 b9 "com/example/tuplelift/tuplelift/service/SparqlTokenizer$Token" "local" "Ljava/lang/String;" .null := D9 (Or.inr (hw _ (List.mem_of_getElem? (i := 51) rfl))) (ty := (.object "java/lang/String")) (by decide)
    have F9_line : Fld Z h9 b9 "com/example/tuplelift/tuplelift/service/SparqlTokenizer$Token" "line" "I" (.int (0 : Int32)) := D9 (Or.inr (hw _ (List.mem_of_getElem? (i := 53) rfl))) (ty := .int) (by decide)
    have F9_column : Fld Z h9 b9 "com/example/tuplelift/tuplelift/service/SparqlTokenizer$Token" "column" "I" (.int (0 : Int32)) := D9 (Or.inr (hw _ (List.mem_of_getElem? (i := 55) rfl))) (ty := .int) (by decide)
    have F9_start : Fld Z h9 b9 "com/example/tuplelift/tuplelift/service/SparqlTokenizer$Token" "start" "I" (.int (0 : Int32)) := D9 (Or.inr (hw _ (List.mem_of_getElem? (i := 57) rfl))) (ty := .int) (by decide)
    have F9_end : Fld Z h9 b9 "com/example/tuplelift/tuplelift/service/SparqlTokenizer$Token" "end" "I" (.int (0 : Int32)) := D9 (Or.inr (hw _ (List.mem_of_getElem? (i := 59) rfl))) (ty := .int) (by decide)
    show own_FinX _ _ _ _ _ (T9.setTop (mkF m 147 #[.val (.int p0), .val (.int p1), .val (.int p2), .val (.int p3), .val (.int se), .val (.int lt), .val (.int mo), .val (.int lp), .val (.int u0), .val (.int u1), .val (.int q0), .val (.int q1), .val (.ref st1), .val (.ref st3), .unset, .unset] [(.ref b9)]))
    refine own_go (fun _ kk => XS.dup X9.here hx rfl (hb hby at_147) rfl rfl (XS.iload X9.here hx rfl (hb hby at_148) rfl kk)) ?_
    show own_FinX _ _ _ _ _ (T9.setTop (mkF m 150 #[.val (.int p0), .val (.int p1), .val (.int p2), .val (.int p3), .val (.int se), .val (.int lt), .val (.int mo), .val (.int lp), .val (.int u0), .val (.int u1), .val (.int q0), .val (.int q1), .val (.ref st1), .val (.ref st3), .unset, .unset] [(.int se), (.ref b9), (.ref b9)]))
    refine own_callS X9 hx hZ hown (hw _ (List.mem_of_getElem? (i := 29) rfl)) (hw _ (List.mem_of_getElem? (i := 30) rfl)) (hw _ (List.mem_of_getElem? (i := 2) rfl)) (hw _ (List.mem_of_getElem? (i := 31) rfl)) (by decide) (rm5 l Z a0 hw se h9 n0 Z9 kA S_IRI S_PREFIXED_NAME S_BLANK_NODE S_VARIABLE S_STRING S_LANGUAGE S_INTEGER S_DECIMAL S_DOUBLE S_NAME S_PUNCTUATION S_END f10) e9 (argsL := [(.int se)]) (rest := [(.ref b9), (.ref b9)]) rfl rfl (by rw [hml]; rfl) (lenOf pd_0_1 rfl) (hb hby at_150) (W := 2) (Nat.le_of_eq rfl) (by decide) (by decide) (by decide) (by decide) ?_
    rintro v19 T19 L19 X19 ⟨rfl, M19, e19⟩
    have N19 := Fr.app N3 M19
    show own_FinX _ _ _ _ _ (T19.setTop (mkF m 153 #[.val (.int p0), .val (.int p1), .val (.int p2), .val (.int p3), .val (.int se), .val (.int lt), .val (.int mo), .val (.int lp), .val (.int u0), .val (.int u1), .val (.int q0), .val (.int q1), .val (.ref st1), .val (.ref st3), .unset, .unset] [(.ref (own_f5 se kA)), (.ref b9), (.ref b9)]))
    refine own_go (fun _ kk => XS.aload X19.here hx rfl (hb hby at_153) rfl rfl kk) ?_
    show own_FinX _ _ _ _ _ (T19.setTop (mkF m 155 #[.val (.int p0), .val (.int p1), .val (.int p2), .val (.int p3), .val (.int se), .val (.int lt), .val (.int mo), .val (.int lp), .val (.int u0), .val (.int u1), .val (.int q0), .val (.int q1), .val (.ref st1), .val (.ref st3), .unset, .unset] [(.ref st1), (.ref (own_f5 se kA)), (.ref b9), (.ref b9)]))
    refine own_ldcO (s := s) (vm0 := T3.vm) X19 hx hZ hown (hw _ (List.mem_of_getElem? (i := 35) rfl)) wS e19 S3 sk9 (hb hby at_155) (by decide) (by decide) ?_
    intro T20 h20 k20 la20 X20 e20 E20 S20 sk20 hZ hown
    have f21 := f10.ext E20
    have f22 := f11.ext E20
    have f23 := f12.ext E20
    have f24 := f13.ext E20
    have f25 := f14.ext E20
    have f26 := f15.ext E20
    have f27 := f16.ext E20
    have f28 := f17.ext E20
    have f29 := f18.ext E20
    have f30 := A9.ext E20
    have f31 := F9_kind.ext E20
    have f32 := F9_text.ext E20
    have f33 := F9_local.ext E20
    have f34 := F9_line.ext E20
    have f35 := F9_column.ext E20
    have f36 := F9_start.ext E20
    have f37 := F9_end.ext E20
    have Z20 := Nat.le_trans Z9 E20.1
    show own_FinX _ _ _ _ _ (T20.setTop (mkF m 157 #[.val (.int p0), .val (.int p1), .val (.int p2), .val (.int p3), .val (.int se), .val (.int lt), .val (.int mo), .val (.int lp), .val (.int u0), .val (.int u1), .val (.int q0), .val (.int q1), .val (.ref st1), .val (.ref st3), .unset, .unset] [(.ref la20), (.ref st1), (.ref (own_f5 se kA)), (.ref b9), (.ref b9)]))
    refine own_go (fun _ kk => XS.iloadN X20.here hx rfl (hb hby at_157) rfl (XS.iloadN X20.here hx rfl (hb hby at_158) rfl (XS.iconst X20.here hx rfl (hb hby at_159) (XS.iushr X20.here hx rfl (hb hby at_160) rfl (XS.iloadN X20.here hx rfl (hb hby at_161) rfl (X20.ldcI hx hown (mvT hZ (hw _ (List.mem_of_getElem? (i := 36) rfl))) rfl (hb hby at_162) (XS.iand X20.here hx rfl (hb hby at_164) rfl (XS.iloadN X20.here hx rfl (hb hby at_165) rfl (XS.bipush X20.here hx rfl (hb hby at_166) (XS.iushr X20.here hx rfl (hb hby at_168) rfl kk)))))))))) ?_
    show own_FinX _ _ _ _ _ (T20.setTop (mkF m 169 #[.val (.int p0), .val (.int p1), .val (.int p2), .val (.int p3), .val (.int se), .val (.int lt), .val (.int mo), .val (.int lp), .val (.int u0), .val (.int u1), .val (.int q0), .val (.int q1), .val (.ref st1), .val (.ref st3), .unset, .unset] [(.int ((p3.toUInt32 >>> ((16 : Int32) &&& 31).toUInt32).toInt32)), (.int (p3 &&& (65535 : Int32))), (.int ((p3.toUInt32 >>> ((1 : Int32) &&& 31).toUInt32).toInt32)), (.int p3), (.ref la20), (.ref st1), (.ref (own_f5 se kA)), (.ref b9), (.ref b9)]))
    refine own_callN X20 hx hZ rfl hown (hw _ (List.mem_of_getElem? (i := 37) rfl)) (hw _ (List.mem_of_getElem? (i := 38) rfl)) (hw _ (List.mem_of_getElem? (i := 28) rfl)) (hw _ (List.mem_of_getElem? (i := 39) rfl)) (by decide) (rm6 l Z a0 hw b9 (own_f5 se kA) st1 la20 p3 ((p3.toUInt32 >>> ((1 : Int32) &&& 31).toUInt32).toInt32) (p3 &&& (65535 : Int32)) ((p3.toUInt32 >>> ((16 : Int32) &&& 31).toUInt32).toInt32) h20 n0 Z20 f30 f31 f32 f33 f34 f35 f36 f37 g_b9) e20 (a := b9) (argsL := [(.ref (own_f5 se kA)), (.ref st1), (.ref la20), (.int p3), (.int ((p3.toUInt32 >>> ((1 : Int32) &&& 31).toUInt32).toInt32)), (.int (p3 &&& (65535 : Int32))), (.int ((p3.toUInt32 >>> ((16 : Int32) &&& 31).toUInt32).toInt32))]) (rest := [(.ref b9)]) rfl rfl (by rw [hml]; rfl) (lenOf pd_0_2 rfl) (hb hby at_169) (W := 1) (Nat.le_of_eq rfl) (by decide) (by decide) (by decide) (by decide) ?_
    rintro v38 T38 L38 X38 ⟨rfl, M38, Kc38, Fk38, Ft38⟩
    have N38 := Fr.app N19 M38
    have f39 := f21.keep Kc38 (allS g_b9 all0)
    have f40 := f22.keep Kc38
    have f41 := f23.keep Kc38 (ninS ne_st1_b9 nin0)
    have f42 := f24.keep Kc38 (ninS ne_st1_b9 nin0)
    have f43 := f25.keep Kc38 (ninS ne_sb1_b9 nin0)
    have f44 := f26.keep Kc38
    have f45 := f27.keep Kc38 (ninS ne_st3_b9 nin0)
    have f46 := f28.keep Kc38 (ninS ne_st3_b9 nin0)
    have f47 := f29.keep Kc38 (ninS ne_sb3_b9 nin0)
    have f48 := f30.keep Kc38
    have Z38 := Nat.le_trans Z20 Kc38.1
    have sk38 := Nat.le_trans sk20 Kc38.1
    show own_FinX _ _ _ _ _ (T38.setTop (mkF m 172 #[.val (.int p0), .val (.int p1), .val (.int p2), .val (.int p3), .val (.int se), .val (.int lt), .val (.int mo), .val (.int lp), .val (.int u0), .val (.int u1), .val (.int q0), .val (.int q1), .val (.ref st1), .val (.ref st3), .unset, .unset] [(.ref b9)]))
    refine own_go (fun _ kk => XS.astore X38.here hx rfl (hb hby at_172) rfl rfl (l' := #[.val (.int p0), .val (.int p1), .val (.int p2), .val (.int p3), .val (.int se), .val (.int lt), .val (.int mo), .val (.int lp), .val (.int u0), .val (.int u1), .val (.int q0), .val (.int q1), .val (.ref st1), .val (.ref st3), .val (.ref b9), .unset]) rfl kk) ?_
    show own_FinX _ _ _ _ _ (T38.setTop (mkF m 174 #[.val (.int p0), .val (.int p1), .val (.int p2), .val (.int p3), .val (.int se), .val (.int lt), .val (.int mo), .val (.int lp), .val (.int u0), .val (.int u1), .val (.int q0), .val (.int q1), .val (.ref st1), .val (.ref st3), .val (.ref b9), .unset] []))
    have J219 : ∀ (TJ219 : State) (locsJ219 : List Loc) (ex : Int32), Stand p l e room_1 (s.setVm T20.vm) m #[(.int p0), (.int p1), (.int p2), (.int p3)] below meth c TJ219 locsJ219 15 35 → Fr n0 locsJ219 → TJ219.heap = T38.heap → (own_f0 p0 p1 p2 p3) = own_f0_219 p0 p1 p2 p3 se lt mo lp u0 u1 q0 q1 ex → own_FinX p e below (own_ELw s room_1.cells room_1.slots) (own_Q0 (some (.int (own_f0 p0 p1 p2 p3))) n0) (TJ219.setTop (mkF m 219 #[.val (.int p0), .val (.int p1), .val (.int p2), .val (.int p3), .val (.int se), .val (.int lt), .val (.int mo), .val (.int lp), .val (.int u0), .val (.int u1), .val (.int q0), .val (.int q1), .val (.ref st1), .val (.ref st3), .val (.ref b9), .unset] [(.int ex)])) := by
      intro TJ219 locsJ219 ex XJ219 NJ219 eJ219 hjJ219
      refine own_go (fun _ kk => XS.istore XJ219.here hx rfl (hb hby at_219) rfl (l' := #[.val (.int p0), .val (.int p1), .val (.int p2), .val (.int p3), .val (.int se), .val (.int lt), .val (.int mo), .val (.int lp), .val (.int u0), .val (.int u1), .val (.int q0), .val (.int q1), .val (.ref st1), .val (.ref st3), .val (.ref b9), .val (.int ex)]) rfl (XS.aload XJ219.here hx rfl (hb hby at_221) rfl rfl (XS.aload XJ219.here hx rfl (hb hby at_223) rfl rfl kk))) ?_
      show own_FinX _ _ _ _ _ (TJ219.setTop (mkF m 225 #[.val (.int p0), .val (.int p1), .val (.int p2), .val (.int p3), .val (.int se), .val (.int lt), .val (.int mo), .val (.int lp), .val (.int u0), .val (.int u1), .val (.int q0), .val (.int q1), .val (.ref st1), .val (.ref st3), .val (.ref b9), .val (.int ex)] [(.ref st3), (.ref b9)]))
      by_cases h10 : se = (10 : Int32)
      · show own_FinX _ _ _ _ _ (TJ219.setTop (mkF m 225 #[.val (.int p0), .val (.int p1), .val (.int p2), .val (.int p3), .val (.int se), .val (.int lt), .val (.int mo), .val (.int lp), .val (.int u0), .val (.int u1), .val (.int q0), .val (.int q1), .val (.ref st1), .val (.ref st3), .val (.ref b9), .val (.int ex)] [(.ref st3), (.ref b9)]))
        refine own_callV XJ219 hx hZ hown (hw _ (List.mem_of_getElem? (i := 60) rfl)) (hw _ (List.mem_of_getElem? (i := 61) rfl)) (notFace_of_selects (args := #[]) (mvT hZ (hw _ (List.mem_of_getElem? (i := 63) rfl)))) (hw _ (List.mem_of_getElem? (i := 63) rfl)) (hw _ (List.mem_of_getElem? (i := 62) rfl)) (hw _ (List.mem_of_getElem? (i := 64) rfl)) (hw _ (List.mem_of_getElem? (i := 28) rfl)) (by decide) (rm8y l Z a0 hw b9 st3 T38.heap n0 Z38 (own_f5 se kA) (kA 10) st1 (own_k10 h10) S_PUNCTUATION Fk38 Ft38 (own_bs lt u0 u1) (own_bs lp q0 q1) (own_bslen _ _ _) (own_bslen _ _ _) sb1 sb3 f40 f41 f42 f43 f44 f45 f46 f47 ne_st1_st3 cs S_cs hcs f39) eJ219 f48 (argsL := [(.ref st3)]) (rest := []) rfl rfl (by rw [hml]; rfl) (lenOf pd_0_3 rfl) (hb hby at_225) (W := 0) (Nat.le_of_eq rfl) (by decide) (by decide) (by decide) (by decide) ?_
        rintro v49 T49 L49 X49 ⟨rfl, M49, e49⟩
        have N49 := Fr.app NJ219 M49
        show own_FinX _ _ _ _ _ (T49.setTop (mkF m 228 #[.val (.int p0), .val (.int p1), .val (.int p2), .val (.int p3), .val (.int se), .val (.int lt), .val (.int mo), .val (.int lp), .val (.int u0), .val (.int u1), .val (.int q0), .val (.int q1), .val (.ref st1), .val (.ref st3), .val (.ref b9), .val (.int ex)] [(.int (own_f8y (own_bs lt u0 u1) (own_bs lp q0 q1)))]))
        refine own_go (fun _ kk => XS.iload X49.here hx rfl (hb hby at_228) rfl kk) ?_
        show own_FinX _ _ _ _ _ (T49.setTop (mkF m 230 #[.val (.int p0), .val (.int p1), .val (.int p2), .val (.int p3), .val (.int se), .val (.int lt), .val (.int mo), .val (.int lp), .val (.int u0), .val (.int u1), .val (.int q0), .val (.int q1), .val (.ref st1), .val (.ref st3), .val (.ref b9), .val (.int ex)] [(.int ex), (.int (own_f8y (own_bs lt u0 u1) (own_bs lp q0 q1)))]))
        by_cases hc230 : (own_f8y (own_bs lt u0 u1) (own_bs lp q0 q1)) = ex
        · refine own_go (fun _ kk => XS.icmpNo X49.here hx rfl (hb hby at_230) rfl (XT.ii_ne_f hc230) (XS.iconst X49.here hx rfl (hb hby at_233) (XS.goto X49.here hx rfl (pc0 := 234) (pc' := 238) rfl (hb hby at_234) (by decide) (by decide) kk))) ?_
          show own_FinX _ _ _ _ _ (T49.setTop (mkF m 238 #[.val (.int p0), .val (.int p1), .val (.int p2), .val (.int p3), .val (.int se), .val (.int lt), .val (.int mo), .val (.int lp), .val (.int u0), .val (.int u1), .val (.int q0), .val (.int q1), .val (.ref st1), .val (.ref st3), .val (.ref b9), .val (.int ex)] [(.int (1 : Int32))]))
          exact own_retXZ (s := s) (vm0 := T20.vm) X49 hx hlk S20 (by rw [e49]; exact sk38) hret rfl (hb hby at_238) ⟨(by rw [hjJ219, own_f0_219, if_pos h10, if_pos hc230]), N49⟩ (fun fs hR => own_monoW hR (by decide) (by decide))
        · refine own_go (fun _ kk => XS.icmpYes X49.here hx rfl (pc0 := 230) (pc' := 237) rfl (hb hby at_230) rfl (XT.ii_ne_t hc230) (by decide) (by decide) (XS.iconst X49.here hx rfl (hb hby at_237) kk)) ?_
          show own_FinX _ _ _ _ _ (T49.setTop (mkF m 238 #[.val (.int p0), .val (.int p1), .val (.int p2), .val (.int p3), .val (.int se), .val (.int lt), .val (.int mo), .val (.int lp), .val (.int u0), .val (.int u1), .val (.int q0), .val (.int q1), .val (.ref st1), .val (.ref st3), .val (.ref b9), .val (.int ex)] [(.int (0 : Int32))]))
          exact own_retXZ (s := s) (vm0 := T20.vm) X49 hx hlk S20 (by rw [e49]; exact sk38) hret rfl (hb hby at_238) ⟨(by rw [hjJ219, own_f0_219, if_pos h10, if_neg hc230]), N49⟩ (fun fs hR => own_monoW hR (by decide) (by decide))
      · show own_FinX _ _ _ _ _ (TJ219.setTop (mkF m 225 #[.val (.int p0), .val (.int p1), .val (.int p2), .val (.int p3), .val (.int se), .val (.int lt), .val (.int mo), .val (.int lp), .val (.int u0), .val (.int u1), .val (.int q0), .val (.int q1), .val (.ref st1), .val (.ref st3), .val (.ref b9), .val (.int ex)] [(.ref st3), (.ref b9)]))
        refine own_callV XJ219 hx hZ hown (hw _ (List.mem_of_getElem? (i := 60) rfl)) (hw _ (List.mem_of_getElem? (i := 61) rfl)) (notFace_of_selects (args := #[]) (mvT hZ (hw _ (List.mem_of_getElem? (i := 63) rfl)))) (hw _ (List.mem_of_getElem? (i := 63) rfl)) (hw _ (List.mem_of_getElem? (i := 62) rfl)) (hw _ (List.mem_of_getElem? (i := 64) rfl)) (hw _ (List.mem_of_getElem? (i := 28) rfl)) (by decide) (rm8n l Z a0 hw b9 st3 T38.heap n0 Z38 (own_f5 se kA) (kA 10) st1 (own_kn hd10 h10) S_PUNCTUATION Fk38 Ft38 (own_bs lt u0 u1) (own_bs lp q0 q1) (own_bslen _ _ _) (own_bslen _ _ _) sb1 sb3 f40 f41 f42 f43 f44 f45 f46 f47 ne_st1_st3 cs S_cs hcs f39) eJ219 f48 (argsL := [(.ref st3)]) (rest := []) rfl rfl (by rw [hml]; rfl) (lenOf pd_0_3 rfl) (hb hby at_225) (W := 0) (Nat.le_of_eq rfl) (by decide) (by decide) (by decide) (by decide) ?_
        rintro v50 T50 L50 X50 ⟨rfl, M50, e50⟩
        have N50 := Fr.app NJ219 M50
        show own_FinX _ _ _ _ _ (T50.setTop (mkF m 228 #[.val (.int p0), .val (.int p1), .val (.int p2), .val (.int p3), .val (.int se), .val (.int lt), .val (.int mo), .val (.int lp), .val (.int u0), .val (.int u1), .val (.int q0), .val (.int q1), .val (.ref st1), .val (.ref st3), .val (.ref b9), .val (.int ex)] [(.int (own_f8n (own_bs lt u0 u1) (own_bs lp q0 q1)))]))
        refine own_go (fun _ kk => XS.iload X50.here hx rfl (hb hby at_228) rfl kk) ?_
        show own_FinX _ _ _ _ _ (T50.setTop (mkF m 230 #[.val (.int p0), .val (.int p1), .val (.int p2), .val (.int p3), .val (.int se), .val (.int lt), .val (.int mo), .val (.int lp), .val (.int u0), .val (.int u1), .val (.int q0), .val (.int q1), .val (.ref st1), .val (.ref st3), .val (.ref b9), .val (.int ex)] [(.int ex), (.int (own_f8n (own_bs lt u0 u1) (own_bs lp q0 q1)))]))
        by_cases hc230 : (own_f8n (own_bs lt u0 u1) (own_bs lp q0 q1)) = ex
        · refine own_go (fun _ kk => XS.icmpNo X50.here hx rfl (hb hby at_230) rfl (XT.ii_ne_f hc230) (XS.iconst X50.here hx rfl (hb hby at_233) (XS.goto X50.here hx rfl (pc0 := 234) (pc' := 238) rfl (hb hby at_234) (by decide) (by decide) kk))) ?_
          show own_FinX _ _ _ _ _ (T50.setTop (mkF m 238 #[.val (.int p0), .val (.int p1), .val (.int p2), .val (.int p3), .val (.int se), .val (.int lt), .val (.int mo), .val (.int lp), .val (.int u0), .val (.int u1), .val (.int q0), .val (.int q1), .val (.ref st1), .val (.ref st3), .val (.ref b9), .val (.int ex)] [(.int (1 : Int32))]))
          exact own_retXZ (s := s) (vm0 := T20.vm) X50 hx hlk S20 (by rw [e50]; exact sk38) hret rfl (hb hby at_238) ⟨(by rw [hjJ219, own_f0_219, if_neg h10, if_pos hc230]), N50⟩ (fun fs hR => own_monoW hR (by decide) (by decide))
        · refine own_go (fun _ kk => XS.icmpYes X50.here hx rfl (pc0 := 230) (pc' := 237) rfl (hb hby at_230) rfl (XT.ii_ne_t hc230) (by decide) (by decide) (XS.iconst X50.here hx rfl (hb hby at_237) kk)) ?_
          show own_FinX _ _ _ _ _ (T50.setTop (mkF m 238 #[.val (.int p0), .val (.int p1), .val (.int p2), .val (.int p3), .val (.int se), .val (.int lt), .val (.int mo), .val (.int lp), .val (.int u0), .val (.int u1), .val (.int q0), .val (.int q1), .val (.ref st1), .val (.ref st3), .val (.ref b9), .val (.int ex)] [(.int (0 : Int32))]))
          exact own_retXZ (s := s) (vm0 := T20.vm) X50 hx hlk S20 (by rw [e50]; exact sk38) hret rfl (hb hby at_238) ⟨(by rw [hjJ219, own_f0_219, if_neg h10, if_neg hc230]), N50⟩ (fun fs hR => own_monoW hR (by decide) (by decide))
    refine own_go (fun _ kk => XS.iload X38.here hx rfl (hb hby at_174) rfl (XS.bipush X38.here hx rfl (hb hby at_176) kk)) ?_
    show own_FinX _ _ _ _ _ (T38.setTop (mkF m 178 #[.val (.int p0), .val (.int p1), .val (.int p2), .val (.int p3), .val (.int se), .val (.int lt), .val (.int mo), .val (.int lp), .val (.int u0), .val (.int u1), .val (.int q0), .val (.int q1), .val (.ref st1), .val (.ref st3), .val (.ref b9), .unset] [(.int (10 : Int32)), (.int se)]))
    by_cases hc178 : se = (10 : Int32)
    · refine own_go (fun _ kk => XS.icmpNo X38.here hx rfl (hb hby at_178) rfl (XT.ii_ne_f hc178) (XS.iload X38.here hx rfl (hb hby at_181) rfl (XS.iload X38.here hx rfl (hb hby at_183) rfl kk))) ?_
      show own_FinX _ _ _ _ _ (T38.setTop (mkF m 185 #[.val (.int p0), .val (.int p1), .val (.int p2), .val (.int p3), .val (.int se), .val (.int lt), .val (.int mo), .val (.int lp), .val (.int u0), .val (.int u1), .val (.int q0), .val (.int q1), .val (.ref st1), .val (.ref st3), .val (.ref b9), .unset] [(.int lp), (.int lt)]))
      by_cases hc185 : lt = lp
      · refine own_go (fun _ kk => XS.icmpNo X38.here hx rfl (hb hby at_185) rfl (XT.ii_ne_f hc185) (XS.iload X38.here hx rfl (hb hby at_188) rfl (XS.iconst X38.here hx rfl (hb hby at_190) kk))) ?_
        show own_FinX _ _ _ _ _ (T38.setTop (mkF m 191 #[.val (.int p0), .val (.int p1), .val (.int p2), .val (.int p3), .val (.int se), .val (.int lt), .val (.int mo), .val (.int lp), .val (.int u0), .val (.int u1), .val (.int q0), .val (.int q1), .val (.ref st1), .val (.ref st3), .val (.ref b9), .unset] [(.int (1 : Int32)), (.int lt)]))
        by_cases hc191 : lt < (1 : Int32)
        · refine own_go (fun _ kk => XS.icmpYes X38.here hx rfl (pc0 := 191) (pc' := 201) rfl (hb hby at_191) rfl (XT.ii_lt_t hc191) (by decide) (by decide) (XS.iload X38.here hx rfl (hb hby at_201) rfl (XS.iconst X38.here hx rfl (hb hby at_203) kk))) ?_
          show own_FinX _ _ _ _ _ (T38.setTop (mkF m 204 #[.val (.int p0), .val (.int p1), .val (.int p2), .val (.int p3), .val (.int se), .val (.int lt), .val (.int mo), .val (.int lp), .val (.int u0), .val (.int u1), .val (.int q0), .val (.int q1), .val (.ref st1), .val (.ref st3), .val (.ref b9), .unset] [(.int (2 : Int32)), (.int lt)]))
          by_cases hc204 : lt < (2 : Int32)
          · refine own_go (fun _ kk => XS.icmpYes X38.here hx rfl (pc0 := 204) (pc' := 214) rfl (hb hby at_204) rfl (XT.ii_lt_t hc204) (by decide) (by decide) (XS.iconst X38.here hx rfl (hb hby at_214) (XS.goto X38.here hx rfl (pc0 := 215) (pc' := 219) rfl (hb hby at_215) (by decide) (by decide) kk))) ?_
            show own_FinX _ _ _ _ _ (T38.setTop (mkF m 219 #[.val (.int p0), .val (.int p1), .val (.int p2), .val (.int p3), .val (.int se), .val (.int lt), .val (.int mo), .val (.int lp), .val (.int u0), .val (.int u1), .val (.int q0), .val (.int q1), .val (.ref st1), .val (.ref st3), .val (.ref b9), .unset] [(.int (1 : Int32))]))
            exact J219 _ _ ((1 : Int32)) X38 N38 rfl (by rw [hjJ122, own_f0_122, if_pos hc178, if_pos hc185, if_pos hc191, if_pos hc204])
          · refine own_go (fun _ kk => XS.icmpNo X38.here hx rfl (hb hby at_204) rfl (XT.ii_lt_f hc204) (XS.iload X38.here hx rfl (hb hby at_207) rfl (XS.iload X38.here hx rfl (hb hby at_209) rfl kk))) ?_
            show own_FinX _ _ _ _ _ (T38.setTop (mkF m 211 #[.val (.int p0), .val (.int p1), .val (.int p2), .val (.int p3), .val (.int se), .val (.int lt), .val (.int mo), .val (.int lp), .val (.int u0), .val (.int u1), .val (.int q0), .val (.int q1), .val (.ref st1), .val (.ref st3), .val (.ref b9), .unset] [(.int q1), (.int u1)]))
            by_cases hc211 : u1 = q1
            · refine own_go (fun _ kk => XS.icmpNo X38.here hx rfl (hb hby at_211) rfl (XT.ii_ne_f hc211) (XS.iconst X38.here hx rfl (hb hby at_214) (XS.goto X38.here hx rfl (pc0 := 215) (pc' := 219) rfl (hb hby at_215) (by decide) (by decide) kk))) ?_
              show own_FinX _ _ _ _ _ (T38.setTop (mkF m 219 #[.val (.int p0), .val (.int p1), .val (.int p2), .val (.int p3), .val (.int se), .val (.int lt), .val (.int mo), .val (.int lp), .val (.int u0), .val (.int u1), .val (.int q0), .val (.int q1), .val (.ref st1), .val (.ref st3), .val (.ref b9), .unset] [(.int (1 : Int32))]))
              exact J219 _ _ ((1 : Int32)) X38 N38 rfl (by rw [hjJ122, own_f0_122, if_pos hc178, if_pos hc185, if_pos hc191, if_neg hc204, if_pos hc211])
            · refine own_go (fun _ kk => XS.icmpYes X38.here hx rfl (pc0 := 211) (pc' := 218) rfl (hb hby at_211) rfl (XT.ii_ne_t hc211) (by decide) (by decide) (XS.iconst X38.here hx rfl (hb hby at_218) kk)) ?_
              show own_FinX _ _ _ _ _ (T38.setTop (mkF m 219 #[.val (.int p0), .val (.int p1), .val (.int p2), .val (.int p3), .val (.int se), .val (.int lt), .val (.int mo), .val (.int lp), .val (.int u0), .val (.int u1), .val (.int q0), .val (.int q1), .val (.ref st1), .val (.ref st3), .val (.ref b9), .unset] [(.int (0 : Int32))]))
              exact J219 _ _ ((0 : Int32)) X38 N38 rfl (by rw [hjJ122, own_f0_122, if_pos hc178, if_pos hc185, if_pos hc191, if_neg hc204, if_neg hc211])
        · refine own_go (fun _ kk => XS.icmpNo X38.here hx rfl (hb hby at_191) rfl (XT.ii_lt_f hc191) (XS.iload X38.here hx rfl (hb hby at_194) rfl (XS.iload X38.here hx rfl (hb hby at_196) rfl kk))) ?_
          show own_FinX _ _ _ _ _ (T38.setTop (mkF m 198 #[.val (.int p0), .val (.int p1), .val (.int p2), .val (.int p3), .val (.int se), .val (.int lt), .val (.int mo), .val (.int lp), .val (.int u0), .val (.int u1), .val (.int q0), .val (.int q1), .val (.ref st1), .val (.ref st3), .val (.ref b9), .unset] [(.int q0), (.int u0)]))
          by_cases hc198 : u0 = q0
          · refine own_go (fun _ kk => XS.icmpNo X38.here hx rfl (hb hby at_198) rfl (XT.ii_ne_f hc198) (XS.iload X38.here hx rfl (hb hby at_201) rfl (XS.iconst X38.here hx rfl (hb hby at_203) kk))) ?_
            show own_FinX _ _ _ _ _ (T38.setTop (mkF m 204 #[.val (.int p0), .val (.int p1), .val (.int p2), .val (.int p3), .val (.int se), .val (.int lt), .val (.int mo), .val (.int lp), .val (.int u0), .val (.int u1), .val (.int q0), .val (.int q1), .val (.ref st1), .val (.ref st3), .val (.ref b9), .unset] [(.int (2 : Int32)), (.int lt)]))
            by_cases hc204 : lt < (2 : Int32)
            · refine own_go (fun _ kk => XS.icmpYes X38.here hx rfl (pc0 := 204) (pc' := 214) rfl (hb hby at_204) rfl (XT.ii_lt_t hc204) (by decide) (by decide) (XS.iconst X38.here hx rfl (hb hby at_214) (XS.goto X38.here hx rfl (pc0 := 215) (pc' := 219) rfl (hb hby at_215) (by decide) (by decide) kk))) ?_
              show own_FinX _ _ _ _ _ (T38.setTop (mkF m 219 #[.val (.int p0), .val (.int p1), .val (.int p2), .val (.int p3), .val (.int se), .val (.int lt), .val (.int mo), .val (.int lp), .val (.int u0), .val (.int u1), .val (.int q0), .val (.int q1), .val (.ref st1), .val (.ref st3), .val (.ref b9), .unset] [(.int (1 : Int32))]))
              exact J219 _ _ ((1 : Int32)) X38 N38 rfl (by rw [hjJ122, own_f0_122, if_pos hc178, if_pos hc185, if_neg hc191, if_pos hc198, if_pos hc204])
            · refine own_go (fun _ kk => XS.icmpNo X38.here hx rfl (hb hby at_204) rfl (XT.ii_lt_f hc204) (XS.iload X38.here hx rfl (hb hby at_207) rfl (XS.iload X38.here hx rfl (hb hby at_209) rfl kk))) ?_
              show own_FinX _ _ _ _ _ (T38.setTop (mkF m 211 #[.val (.int p0), .val (.int p1), .val (.int p2), .val (.int p3), .val (.int se), .val (.int lt), .val (.int mo), .val (.int lp), .val (.int u0), .val (.int u1), .val (.int q0), .val (.int q1), .val (.ref st1), .val (.ref st3), .val (.ref b9), .unset] [(.int q1), (.int u1)]))
              by_cases hc211 : u1 = q1
              · refine own_go (fun _ kk => XS.icmpNo X38.here hx rfl (hb hby at_211) rfl (XT.ii_ne_f hc211) (XS.iconst X38.here hx rfl (hb hby at_214) (XS.goto X38.here hx rfl (pc0 := 215) (pc' := 219) rfl (hb hby at_215) (by decide) (by decide) kk))) ?_
                show own_FinX _ _ _ _ _ (T38.setTop (mkF m 219 #[.val (.int p0), .val (.int p1), .val (.int p2), .val (.int p3), .val (.int se), .val (.int lt), .val (.int mo), .val (.int lp), .val (.int u0), .val (.int u1), .val (.int q0), .val (.int q1), .val (.ref st1), .val (.ref st3), .val (.ref b9), .unset] [(.int (1 : Int32))]))
                exact J219 _ _ ((1 : Int32)) X38 N38 rfl (by rw [hjJ122, own_f0_122, if_pos hc178, if_pos hc185, if_neg hc191, if_pos hc198, if_neg hc204, if_pos hc211])
              · refine own_go (fun _ kk => XS.icmpYes X38.here hx rfl (pc0 := 211) (pc' := 218) rfl (hb hby at_211) rfl (XT.ii_ne_t hc211) (by decide) (by decide) (XS.iconst X38.here hx rfl (hb hby at_218) kk)) ?_
                show own_FinX _ _ _ _ _ (T38.setTop (mkF m 219 #[.val (.int p0), .val (.int p1), .val (.int p2), .val (.int p3), .val (.int se), .val (.int lt), .val (.int mo), .val (.int lp), .val (.int u0), .val (.int u1), .val (.int q0), .val (.int q1), .val (.ref st1), .val (.ref st3), .val (.ref b9), .unset] [(.int (0 : Int32))]))
                exact J219 _ _ ((0 : Int32)) X38 N38 rfl (by rw [hjJ122, own_f0_122, if_pos hc178, if_pos hc185, if_neg hc191, if_pos hc198, if_neg hc204, if_neg hc211])
          · refine own_go (fun _ kk => XS.icmpYes X38.here hx rfl (pc0 := 198) (pc' := 218) rfl (hb hby at_198) rfl (XT.ii_ne_t hc198) (by decide) (by decide) (XS.iconst X38.here hx rfl (hb hby at_218) kk)) ?_
            show own_FinX _ _ _ _ _ (T38.setTop (mkF m 219 #[.val (.int p0), .val (.int p1), .val (.int p2), .val (.int p3), .val (.int se), .val (.int lt), .val (.int mo), .val (.int lp), .val (.int u0), .val (.int u1), .val (.int q0), .val (.int q1), .val (.ref st1), .val (.ref st3), .val (.ref b9), .unset] [(.int (0 : Int32))]))
            exact J219 _ _ ((0 : Int32)) X38 N38 rfl (by rw [hjJ122, own_f0_122, if_pos hc178, if_pos hc185, if_neg hc191, if_neg hc198])
      · refine own_go (fun _ kk => XS.icmpYes X38.here hx rfl (pc0 := 185) (pc' := 218) rfl (hb hby at_185) rfl (XT.ii_ne_t hc185) (by decide) (by decide) (XS.iconst X38.here hx rfl (hb hby at_218) kk)) ?_
        show own_FinX _ _ _ _ _ (T38.setTop (mkF m 219 #[.val (.int p0), .val (.int p1), .val (.int p2), .val (.int p3), .val (.int se), .val (.int lt), .val (.int mo), .val (.int lp), .val (.int u0), .val (.int u1), .val (.int q0), .val (.int q1), .val (.ref st1), .val (.ref st3), .val (.ref b9), .unset] [(.int (0 : Int32))]))
        exact J219 _ _ ((0 : Int32)) X38 N38 rfl (by rw [hjJ122, own_f0_122, if_pos hc178, if_neg hc185])
    · refine own_go (fun _ kk => XS.icmpYes X38.here hx rfl (pc0 := 178) (pc' := 218) rfl (hb hby at_178) rfl (XT.ii_ne_t hc178) (by decide) (by decide) (XS.iconst X38.here hx rfl (hb hby at_218) kk)) ?_
      show own_FinX _ _ _ _ _ (T38.setTop (mkF m 219 #[.val (.int p0), .val (.int p1), .val (.int p2), .val (.int p3), .val (.int se), .val (.int lt), .val (.int mo), .val (.int lp), .val (.int u0), .val (.int u1), .val (.int q0), .val (.int q1), .val (.ref st1), .val (.ref st3), .val (.ref b9), .unset] [(.int (0 : Int32))]))
      exact J219 _ _ ((0 : Int32)) X38 N38 rfl (by rw [hjJ122, own_f0_122, if_neg hc178])
  refine own_go (fun _ kk => XS.iload X0.here hx rfl (hb hby at_87) rfl (XS.iconst X0.here hx rfl (hb hby at_89) kk)) ?_
  show own_FinX _ _ _ _ _ (s₁.setTop (mkF m 90 #[.val (.int p0), .val (.int p1), .val (.int p2), .val (.int p3), .val (.int (if (p0 &&& (1 : Int32)) = 0 then ((((p0.toUInt32 >>> ((1 : Int32) &&& 31).toUInt32).toInt32) &&& (15 : Int32)) % (12 : Int32)) else (10 : Int32))), .val (.int ((((p0.toUInt32 >>> ((5 : Int32) &&& 31).toUInt32).toInt32) &&& (3 : Int32)) % (3 : Int32))), .val (.int (((p0.toUInt32 >>> ((8 : Int32) &&& 31).toUInt32).toInt32) &&& (3 : Int32))), .val (.int ((((p0.toUInt32 >>> ((10 : Int32) &&& 31).toUInt32).toInt32) &&& (3 : Int32)) % (3 : Int32))), .val (.int ((p1 &&& (255 : Int32))).toUInt32.toUInt16.toUInt32.toInt32), .val (.int ((((p1.toUInt32 >>> ((8 : Int32) &&& 31).toUInt32).toInt32) &&& (255 : Int32))).toUInt32.toUInt16.toUInt32.toInt32), .val (.int ((p2 &&& (255 : Int32))).toUInt32.toUInt16.toUInt32.toInt32), .val (.int ((((p2.toUInt32 >>> ((8 : Int32) &&& 31).toUInt32).toInt32) &&& (255 : Int32))).toUInt32.toUInt16.toUInt32.toInt32), .unset, .unset, .unset, .unset] [(.int (2 : Int32)), (.int (((p0.toUInt32 >>> ((8 : Int32) &&& 31).toUInt32).toInt32) &&& (3 : Int32)))]))
  by_cases hc90 : (((p0.toUInt32 >>> ((8 : Int32) &&& 31).toUInt32).toInt32) &&& (3 : Int32)) = (2 : Int32)
  · refine own_go (fun _ kk => XS.icmpNo X0.here hx rfl (hb hby at_90) rfl (XT.ii_ne_f hc90) (XS.iload X0.here hx rfl (hb hby at_93) rfl (XS.istore X0.here hx rfl (hb hby at_95) rfl (l' := #[.val (.int p0), .val (.int p1), .val (.int p2), .val (.int p3), .val (.int (if (p0 &&& (1 : Int32)) = 0 then ((((p0.toUInt32 >>> ((1 : Int32) &&& 31).toUInt32).toInt32) &&& (15 : Int32)) % (12 : Int32)) else (10 : Int32))), .val (.int ((((p0.toUInt32 >>> ((5 : Int32) &&& 31).toUInt32).toInt32) &&& (3 : Int32)) % (3 : Int32))), .val (.int (((p0.toUInt32 >>> ((8 : Int32) &&& 31).toUInt32).toInt32) &&& (3 : Int32))), .val (.int ((((p0.toUInt32 >>> ((10 : Int32) &&& 31).toUInt32).toInt32) &&& (3 : Int32)) % (3 : Int32))), .val (.int ((p1 &&& (255 : Int32))).toUInt32.toUInt16.toUInt32.toInt32), .val (.int ((((p1.toUInt32 >>> ((8 : Int32) &&& 31).toUInt32).toInt32) &&& (255 : Int32))).toUInt32.toUInt16.toUInt32.toInt32), .val (.int ((p1 &&& (255 : Int32))).toUInt32.toUInt16.toUInt32.toInt32), .val (.int ((((p2.toUInt32 >>> ((8 : Int32) &&& 31).toUInt32).toInt32) &&& (255 : Int32))).toUInt32.toUInt16.toUInt32.toInt32), .unset, .unset, .unset, .unset]) rfl (XS.iload X0.here hx rfl (hb hby at_97) rfl (XS.istore X0.here hx rfl (hb hby at_99) rfl (l' := #[.val (.int p0), .val (.int p1), .val (.int p2), .val (.int p3), .val (.int (if (p0 &&& (1 : Int32)) = 0 then ((((p0.toUInt32 >>> ((1 : Int32) &&& 31).toUInt32).toInt32) &&& (15 : Int32)) % (12 : Int32)) else (10 : Int32))), .val (.int ((((p0.toUInt32 >>> ((5 : Int32) &&& 31).toUInt32).toInt32) &&& (3 : Int32)) % (3 : Int32))), .val (.int (((p0.toUInt32 >>> ((8 : Int32) &&& 31).toUInt32).toInt32) &&& (3 : Int32))), .val (.int ((((p0.toUInt32 >>> ((10 : Int32) &&& 31).toUInt32).toInt32) &&& (3 : Int32)) % (3 : Int32))), .val (.int ((p1 &&& (255 : Int32))).toUInt32.toUInt16.toUInt32.toInt32), .val (.int ((((p1.toUInt32 >>> ((8 : Int32) &&& 31).toUInt32).toInt32) &&& (255 : Int32))).toUInt32.toUInt16.toUInt32.toInt32), .val (.int ((p1 &&& (255 : Int32))).toUInt32.toUInt16.toUInt32.toInt32), .val (.int ((((p1.toUInt32 >>> ((8 : Int32) &&& 31).toUInt32).toInt32) &&& (255 : Int32))).toUInt32.toUInt16.toUInt32.toInt32), .unset, .unset, .unset, .unset]) rfl (XS.iload X0.here hx rfl (hb hby at_101) rfl (XS.istore X0.here hx rfl (hb hby at_103) rfl (l' := #[.val (.int p0), .val (.int p1), .val (.int p2), .val (.int p3), .val (.int (if (p0 &&& (1 : Int32)) = 0 then ((((p0.toUInt32 >>> ((1 : Int32) &&& 31).toUInt32).toInt32) &&& (15 : Int32)) % (12 : Int32)) else (10 : Int32))), .val (.int ((((p0.toUInt32 >>> ((5 : Int32) &&& 31).toUInt32).toInt32) &&& (3 : Int32)) % (3 : Int32))), .val (.int (((p0.toUInt32 >>> ((8 : Int32) &&& 31).toUInt32).toInt32) &&& (3 : Int32))), .val (.int ((((p0.toUInt32 >>> ((5 : Int32) &&& 31).toUInt32).toInt32) &&& (3 : Int32)) % (3 : Int32))), .val (.int ((p1 &&& (255 : Int32))).toUInt32.toUInt16.toUInt32.toInt32), .val (.int ((((p1.toUInt32 >>> ((8 : Int32) &&& 31).toUInt32).toInt32) &&& (255 : Int32))).toUInt32.toUInt16.toUInt32.toInt32), .val (.int ((p1 &&& (255 : Int32))).toUInt32.toUInt16.toUInt32.toInt32), .val (.int ((((p1.toUInt32 >>> ((8 : Int32) &&& 31).toUInt32).toInt32) &&& (255 : Int32))).toUInt32.toUInt16.toUInt32.toInt32), .unset, .unset, .unset, .unset]) rfl (XS.goto X0.here hx rfl (pc0 := 105) (pc' := 122) rfl (hb hby at_105) (by decide) (by decide) kk)))))))) ?_
    show own_FinX _ _ _ _ _ (s₁.setTop (mkF m 122 #[.val (.int p0), .val (.int p1), .val (.int p2), .val (.int p3), .val (.int (if (p0 &&& (1 : Int32)) = 0 then ((((p0.toUInt32 >>> ((1 : Int32) &&& 31).toUInt32).toInt32) &&& (15 : Int32)) % (12 : Int32)) else (10 : Int32))), .val (.int ((((p0.toUInt32 >>> ((5 : Int32) &&& 31).toUInt32).toInt32) &&& (3 : Int32)) % (3 : Int32))), .val (.int (((p0.toUInt32 >>> ((8 : Int32) &&& 31).toUInt32).toInt32) &&& (3 : Int32))), .val (.int ((((p0.toUInt32 >>> ((5 : Int32) &&& 31).toUInt32).toInt32) &&& (3 : Int32)) % (3 : Int32))), .val (.int ((p1 &&& (255 : Int32))).toUInt32.toUInt16.toUInt32.toInt32), .val (.int ((((p1.toUInt32 >>> ((8 : Int32) &&& 31).toUInt32).toInt32) &&& (255 : Int32))).toUInt32.toUInt16.toUInt32.toInt32), .val (.int ((p1 &&& (255 : Int32))).toUInt32.toUInt16.toUInt32.toInt32), .val (.int ((((p1.toUInt32 >>> ((8 : Int32) &&& 31).toUInt32).toInt32) &&& (255 : Int32))).toUInt32.toUInt16.toUInt32.toInt32), .unset, .unset, .unset, .unset] []))
    exact J122 _ _ ((if (p0 &&& (1 : Int32)) = 0 then ((((p0.toUInt32 >>> ((1 : Int32) &&& 31).toUInt32).toInt32) &&& (15 : Int32)) % (12 : Int32)) else (10 : Int32))) (((((p0.toUInt32 >>> ((5 : Int32) &&& 31).toUInt32).toInt32) &&& (3 : Int32)) % (3 : Int32))) ((((p0.toUInt32 >>> ((8 : Int32) &&& 31).toUInt32).toInt32) &&& (3 : Int32))) (((((p0.toUInt32 >>> ((5 : Int32) &&& 31).toUInt32).toInt32) &&& (3 : Int32)) % (3 : Int32))) (((p1 &&& (255 : Int32))).toUInt32.toUInt16.toUInt32.toInt32) (((((p1.toUInt32 >>> ((8 : Int32) &&& 31).toUInt32).toInt32) &&& (255 : Int32))).toUInt32.toUInt16.toUInt32.toInt32) (((p1 &&& (255 : Int32))).toUInt32.toUInt16.toUInt32.toInt32) (((((p1.toUInt32 >>> ((8 : Int32) &&& 31).toUInt32).toInt32) &&& (255 : Int32))).toUInt32.toUInt16.toUInt32.toInt32) X0 N0 e0 (by rw [own_f0, if_pos hc90]) (own_chk _) (own_chk _) (own_chk _) (own_chk _)
  · refine own_go (fun _ kk => XS.icmpYes X0.here hx rfl (pc0 := 90) (pc' := 108) rfl (hb hby at_90) rfl (XT.ii_ne_t hc90) (by decide) (by decide) (XS.iload X0.here hx rfl (hb hby at_108) rfl (XS.iconst X0.here hx rfl (hb hby at_110) kk))) ?_
    show own_FinX _ _ _ _ _ (s₁.setTop (mkF m 111 #[.val (.int p0), .val (.int p1), .val (.int p2), .val (.int p3), .val (.int (if (p0 &&& (1 : Int32)) = 0 then ((((p0.toUInt32 >>> ((1 : Int32) &&& 31).toUInt32).toInt32) &&& (15 : Int32)) % (12 : Int32)) else (10 : Int32))), .val (.int ((((p0.toUInt32 >>> ((5 : Int32) &&& 31).toUInt32).toInt32) &&& (3 : Int32)) % (3 : Int32))), .val (.int (((p0.toUInt32 >>> ((8 : Int32) &&& 31).toUInt32).toInt32) &&& (3 : Int32))), .val (.int ((((p0.toUInt32 >>> ((10 : Int32) &&& 31).toUInt32).toInt32) &&& (3 : Int32)) % (3 : Int32))), .val (.int ((p1 &&& (255 : Int32))).toUInt32.toUInt16.toUInt32.toInt32), .val (.int ((((p1.toUInt32 >>> ((8 : Int32) &&& 31).toUInt32).toInt32) &&& (255 : Int32))).toUInt32.toUInt16.toUInt32.toInt32), .val (.int ((p2 &&& (255 : Int32))).toUInt32.toUInt16.toUInt32.toInt32), .val (.int ((((p2.toUInt32 >>> ((8 : Int32) &&& 31).toUInt32).toInt32) &&& (255 : Int32))).toUInt32.toUInt16.toUInt32.toInt32), .unset, .unset, .unset, .unset] [(.int (3 : Int32)), (.int (((p0.toUInt32 >>> ((8 : Int32) &&& 31).toUInt32).toInt32) &&& (3 : Int32)))]))
    by_cases hc111 : (((p0.toUInt32 >>> ((8 : Int32) &&& 31).toUInt32).toInt32) &&& (3 : Int32)) = (3 : Int32)
    · refine own_go (fun _ kk => XS.icmpNo X0.here hx rfl (hb hby at_111) rfl (XT.ii_ne_f hc111) (XS.iload X0.here hx rfl (hb hby at_114) rfl (XS.istore X0.here hx rfl (hb hby at_116) rfl (l' := #[.val (.int p0), .val (.int p1), .val (.int p2), .val (.int p3), .val (.int (if (p0 &&& (1 : Int32)) = 0 then ((((p0.toUInt32 >>> ((1 : Int32) &&& 31).toUInt32).toInt32) &&& (15 : Int32)) % (12 : Int32)) else (10 : Int32))), .val (.int ((((p0.toUInt32 >>> ((5 : Int32) &&& 31).toUInt32).toInt32) &&& (3 : Int32)) % (3 : Int32))), .val (.int (((p0.toUInt32 >>> ((8 : Int32) &&& 31).toUInt32).toInt32) &&& (3 : Int32))), .val (.int ((((p0.toUInt32 >>> ((10 : Int32) &&& 31).toUInt32).toInt32) &&& (3 : Int32)) % (3 : Int32))), .val (.int ((p1 &&& (255 : Int32))).toUInt32.toUInt16.toUInt32.toInt32), .val (.int ((((p1.toUInt32 >>> ((8 : Int32) &&& 31).toUInt32).toInt32) &&& (255 : Int32))).toUInt32.toUInt16.toUInt32.toInt32), .val (.int ((p1 &&& (255 : Int32))).toUInt32.toUInt16.toUInt32.toInt32), .val (.int ((((p2.toUInt32 >>> ((8 : Int32) &&& 31).toUInt32).toInt32) &&& (255 : Int32))).toUInt32.toUInt16.toUInt32.toInt32), .unset, .unset, .unset, .unset]) rfl (XS.iload X0.here hx rfl (hb hby at_118) rfl (XS.istore X0.here hx rfl (hb hby at_120) rfl (l' := #[.val (.int p0), .val (.int p1), .val (.int p2), .val (.int p3), .val (.int (if (p0 &&& (1 : Int32)) = 0 then ((((p0.toUInt32 >>> ((1 : Int32) &&& 31).toUInt32).toInt32) &&& (15 : Int32)) % (12 : Int32)) else (10 : Int32))), .val (.int ((((p0.toUInt32 >>> ((5 : Int32) &&& 31).toUInt32).toInt32) &&& (3 : Int32)) % (3 : Int32))), .val (.int (((p0.toUInt32 >>> ((8 : Int32) &&& 31).toUInt32).toInt32) &&& (3 : Int32))), .val (.int ((((p0.toUInt32 >>> ((5 : Int32) &&& 31).toUInt32).toInt32) &&& (3 : Int32)) % (3 : Int32))), .val (.int ((p1 &&& (255 : Int32))).toUInt32.toUInt16.toUInt32.toInt32), .val (.int ((((p1.toUInt32 >>> ((8 : Int32) &&& 31).toUInt32).toInt32) &&& (255 : Int32))).toUInt32.toUInt16.toUInt32.toInt32), .val (.int ((p1 &&& (255 : Int32))).toUInt32.toUInt16.toUInt32.toInt32), .val (.int ((((p2.toUInt32 >>> ((8 : Int32) &&& 31).toUInt32).toInt32) &&& (255 : Int32))).toUInt32.toUInt16.toUInt32.toInt32), .unset, .unset, .unset, .unset]) rfl kk))))) ?_
      show own_FinX _ _ _ _ _ (s₁.setTop (mkF m 122 #[.val (.int p0), .val (.int p1), .val (.int p2), .val (.int p3), .val (.int (if (p0 &&& (1 : Int32)) = 0 then ((((p0.toUInt32 >>> ((1 : Int32) &&& 31).toUInt32).toInt32) &&& (15 : Int32)) % (12 : Int32)) else (10 : Int32))), .val (.int ((((p0.toUInt32 >>> ((5 : Int32) &&& 31).toUInt32).toInt32) &&& (3 : Int32)) % (3 : Int32))), .val (.int (((p0.toUInt32 >>> ((8 : Int32) &&& 31).toUInt32).toInt32) &&& (3 : Int32))), .val (.int ((((p0.toUInt32 >>> ((5 : Int32) &&& 31).toUInt32).toInt32) &&& (3 : Int32)) % (3 : Int32))), .val (.int ((p1 &&& (255 : Int32))).toUInt32.toUInt16.toUInt32.toInt32), .val (.int ((((p1.toUInt32 >>> ((8 : Int32) &&& 31).toUInt32).toInt32) &&& (255 : Int32))).toUInt32.toUInt16.toUInt32.toInt32), .val (.int ((p1 &&& (255 : Int32))).toUInt32.toUInt16.toUInt32.toInt32), .val (.int ((((p2.toUInt32 >>> ((8 : Int32) &&& 31).toUInt32).toInt32) &&& (255 : Int32))).toUInt32.toUInt16.toUInt32.toInt32), .unset, .unset, .unset, .unset] []))
      exact J122 _ _ ((if (p0 &&& (1 : Int32)) = 0 then ((((p0.toUInt32 >>> ((1 : Int32) &&& 31).toUInt32).toInt32) &&& (15 : Int32)) % (12 : Int32)) else (10 : Int32))) (((((p0.toUInt32 >>> ((5 : Int32) &&& 31).toUInt32).toInt32) &&& (3 : Int32)) % (3 : Int32))) ((((p0.toUInt32 >>> ((8 : Int32) &&& 31).toUInt32).toInt32) &&& (3 : Int32))) (((((p0.toUInt32 >>> ((5 : Int32) &&& 31).toUInt32).toInt32) &&& (3 : Int32)) % (3 : Int32))) (((p1 &&& (255 : Int32))).toUInt32.toUInt16.toUInt32.toInt32) (((((p1.toUInt32 >>> ((8 : Int32) &&& 31).toUInt32).toInt32) &&& (255 : Int32))).toUInt32.toUInt16.toUInt32.toInt32) (((p1 &&& (255 : Int32))).toUInt32.toUInt16.toUInt32.toInt32) (((((p2.toUInt32 >>> ((8 : Int32) &&& 31).toUInt32).toInt32) &&& (255 : Int32))).toUInt32.toUInt16.toUInt32.toInt32) X0 N0 e0 (by rw [own_f0, if_neg hc90, if_pos hc111]) (own_chk _) (own_chk _) (own_chk _) (own_chk _)
    · refine own_go (fun _ kk => XS.icmpYes X0.here hx rfl (pc0 := 111) (pc' := 122) rfl (hb hby at_111) rfl (XT.ii_ne_t hc111) (by decide) (by decide) kk) ?_
      show own_FinX _ _ _ _ _ (s₁.setTop (mkF m 122 #[.val (.int p0), .val (.int p1), .val (.int p2), .val (.int p3), .val (.int (if (p0 &&& (1 : Int32)) = 0 then ((((p0.toUInt32 >>> ((1 : Int32) &&& 31).toUInt32).toInt32) &&& (15 : Int32)) % (12 : Int32)) else (10 : Int32))), .val (.int ((((p0.toUInt32 >>> ((5 : Int32) &&& 31).toUInt32).toInt32) &&& (3 : Int32)) % (3 : Int32))), .val (.int (((p0.toUInt32 >>> ((8 : Int32) &&& 31).toUInt32).toInt32) &&& (3 : Int32))), .val (.int ((((p0.toUInt32 >>> ((10 : Int32) &&& 31).toUInt32).toInt32) &&& (3 : Int32)) % (3 : Int32))), .val (.int ((p1 &&& (255 : Int32))).toUInt32.toUInt16.toUInt32.toInt32), .val (.int ((((p1.toUInt32 >>> ((8 : Int32) &&& 31).toUInt32).toInt32) &&& (255 : Int32))).toUInt32.toUInt16.toUInt32.toInt32), .val (.int ((p2 &&& (255 : Int32))).toUInt32.toUInt16.toUInt32.toInt32), .val (.int ((((p2.toUInt32 >>> ((8 : Int32) &&& 31).toUInt32).toInt32) &&& (255 : Int32))).toUInt32.toUInt16.toUInt32.toInt32), .unset, .unset, .unset, .unset] []))
      exact J122 _ _ ((if (p0 &&& (1 : Int32)) = 0 then ((((p0.toUInt32 >>> ((1 : Int32) &&& 31).toUInt32).toInt32) &&& (15 : Int32)) % (12 : Int32)) else (10 : Int32))) (((((p0.toUInt32 >>> ((5 : Int32) &&& 31).toUInt32).toInt32) &&& (3 : Int32)) % (3 : Int32))) ((((p0.toUInt32 >>> ((8 : Int32) &&& 31).toUInt32).toInt32) &&& (3 : Int32))) (((((p0.toUInt32 >>> ((10 : Int32) &&& 31).toUInt32).toInt32) &&& (3 : Int32)) % (3 : Int32))) (((p1 &&& (255 : Int32))).toUInt32.toUInt16.toUInt32.toInt32) (((((p1.toUInt32 >>> ((8 : Int32) &&& 31).toUInt32).toInt32) &&& (255 : Int32))).toUInt32.toUInt16.toUInt32.toInt32) (((p2 &&& (255 : Int32))).toUInt32.toUInt16.toUInt32.toInt32) (((((p2.toUInt32 >>> ((8 : Int32) &&& 31).toUInt32).toInt32) &&& (255 : Int32))).toUInt32.toUInt16.toUInt32.toInt32) X0 N0 e0 (by rw [own_f0, if_neg hc90, if_neg hc111]) (own_chk _) (own_chk _) (own_chk _) (own_chk _)

theorem own_i8inv0 : ∀ k, k < 256 → (Int8.toInt32 (Int32.toInt8 (Int32.ofNat k))) &&& (255 : Int32) = Int32.ofNat k := by decide +kernel
theorem own_i8inv {x : Int32} (h : own_ch x) : (Int8.toInt32 (Int32.toInt8 x)) &&& (255 : Int32) = x := by rw [(own_ch256 h).1]; exact own_i8inv0 _ (own_ch256 h).2
theorem own_i8eq {x y : Int32} (hx : own_ch x) (hy : own_ch y) : (Int8.toInt32 (Int32.toInt8 x)) = (Int8.toInt32 (Int32.toInt8 y)) ↔ x = y := ⟨fun h => by rw [← own_i8inv hx, h, own_i8inv hy], fun h => by rw [h]⟩
theorem own_r1 {α : Type} (b : Prop) [Decidable b] (x : Int32) (hx : x = if b then 1 else 0) (ex : Int32) (he : ex = if b then 1 else 0) : (if x = ex then (1 : Int32) else 0) = 1 := by rw [hx, he, if_pos rfl]
theorem own_f8 (xs ys : List Int32) : own_f8y xs ys = if xs = ys then 1 else 0 := by
  unfold own_f8y
  rw [own_is]
  unfold own_eqL
  by_cases h : xs = ys <;> simp [h]
theorem own_mid (p0 p1 p2 p3 se lt mo lp u0 u1 q0 q1 : Int32) (hl : lt = 0 ∨ lt = 1 ∨ lt = 2) (hp : lp = 0 ∨ lp = 1 ∨ lp = 2) (h0 : own_ch u0) (h1 : own_ch u1) (k0 : own_ch q0) (k1 : own_ch q1) : own_f0_122 p0 p1 p2 p3 se lt mo lp u0 u1 q0 q1 = 1 := by
  unfold own_f0_122 own_f0_219
  simp only [own_f8, own_f8n]
  have e0 := own_i8eq h0 k0
  have e1 := own_i8eq h1 k1
  by_cases hs : se = (10 : Int32)
  · simp only [if_pos hs]
    rcases hl with rfl | rfl | rfl <;> rcases hp with rfl | rfl | rfl <;> by_cases a0 : u0 = q0 <;> by_cases a1 : u1 = q1 <;> simp [own_bs, e0, e1, a0, a1] <;> decide
  · simp only [if_neg hs]; decide
theorem own_m3 (a : Int32) : (a &&& (3 : Int32)) % (3 : Int32) = 0 ∨ (a &&& (3 : Int32)) % (3 : Int32) = 1 ∨ (a &&& (3 : Int32)) % (3 : Int32) = 2 := by
  have e : (a &&& (3 : Int32)).toInt = a.toInt % 4 := Jvm.Kit.i32_mask a 3 (k := 2) (by decide) (by decide)
  have e' : ((a &&& (3 : Int32)) % (3 : Int32)).toInt = (a.toInt % 4) % 3 := by rw [Jvm.Kit.i32_rem_nonneg (by rw [e]; omega), e]; rfl
  have h : (a.toInt % 4) % 3 = 0 ∨ (a.toInt % 4) % 3 = 1 ∨ (a.toInt % 4) % 3 = 2 := by omega
  rcases h with h | h | h
  · exact Or.inl (Int32.toInt_inj.mp (e'.trans h))
  · exact Or.inr (Or.inl (Int32.toInt_inj.mp (e'.trans h)))
  · exact Or.inr (Or.inr (Int32.toInt_inj.mp (e'.trans h)))
theorem own_law (p0 p1 p2 p3 : Int32) : own_f0 p0 p1 p2 p3 = 1 := by
  unfold own_f0
  split
  · exact own_mid _ _ _ _ _ _ _ _ _ _ _ _ (own_m3 _) (own_m3 _) (own_chk _) (own_chk _) (own_chk _) (own_chk _)
  · split
    · exact own_mid _ _ _ _ _ _ _ _ _ _ _ _ (own_m3 _) (own_m3 _) (own_chk _) (own_chk _) (own_chk _) (own_chk _)
    · exact own_mid _ _ _ _ _ _ _ _ _ _ _ _ (own_m3 _) (own_m3 _) (own_chk _) (own_chk _) (own_chk _) (own_chk _)

theorem own_all12 {P : Nat → Prop} (h0 : P 0) (h1 : P 1) (h2 : P 2) (h3 : P 3) (h4 : P 4) (h5 : P 5) (h6 : P 6) (h7 : P 7) (h8 : P 8) (h9 : P 9) (h11 : P 11) : ∀ i, i < 12 → i ≠ 10 → P i
  | 0, _, _ => h0
  | 1, _, _ => h1
  | 2, _, _ => h2
  | 3, _, _ => h3
  | 4, _, _ => h4
  | 5, _, _ => h5
  | 6, _, _ => h6
  | 7, _, _ => h7
  | 8, _, _ => h8
  | 9, _, _ => h9
  | 11, _, _ => h11
  | 10, _, h => absurd rfl h
  | n + 12, hi, _ => absurd hi (by omega)

set_option maxRecDepth 65536 in
set_option maxHeartbeats 40000000 in
theorem comes_1 {Post : Tables → Env → Array Value → State → Outcome → State → Prop} (hpost : ∀ tb e args s v u, (limb_1_1.after args s (.returned v) u = true ∧ limb_1_2.after args s (.returned v) u = true ∧ True) → Jvm.D.FramedW s (.returned v) u (Jvm.fieldLocs frame_1_writes args s ++ Jvm.arrayLocs frame_1_arrays args s ++ Jvm.staticLocs frame_1_statics s) 32 2176 → Post tb e args s (.returned v) u) :
    ArmFor flags0 classFile x code maxLocals ret World_1 tables_1 room_1 Calls_1 rest_1 Pre_1 Post := by
  intro l hfl _ _ p e ha hc hk s m args below hf hA hF happ hP
  obtain ⟨hcalls, hrest, hpre⟩ := hP
  obtain ⟨-, -, -, hnamed, -, -, -, hat⟩ := (Spec.applies_iff hf).mp happ
  obtain ⟨hg, hn⟩ := and_e (Cond.before_iff.mp (show (Jvm.Cond.and given_1 narrow_1).before args s = true from hpre))
  obtain ⟨gg1, gg2⟩ := and_e hg
  obtain ⟨gg3, gg4⟩ := and_e gg2
  obtain ⟨gg5, gg6⟩ := and_e gg4
  obtain ⟨gg7, gg8⟩ := and_e gg6
  obtain ⟨w0, w1, w2, w3, rfl⟩ : ∃ w0 w1 w2 w3 : Value, args = #[w0, w1, w2, w3] := by
    have hs : args.size = 4 := by simpa [Cond.value, given_1] using gg1
    obtain ⟨L⟩ := args
    match L, hs with
    | [w0, w1, w2, w3], _ => exact ⟨w0, w1, w2, w3, rfl⟩
  have hw := fun d (hd : d ∈ tables_1) => atoms_spec (ws := Jvm.Cond.code x code maxLocals ret :: tables_1) hat d (List.mem_cons_of_mem _ hd)
  have hfit : Fit s := fun {y c} hc i hi => by
    obtain ⟨ha, rfl⟩ := Array.getElem?_eq_some_iff.mp hc
    have q := List.all_eq_true.mp ((Array.all_eq_true_iff_forall_mem.mp hF) _ (Array.getElem_mem ha)) i (List.mem_range.mpr hi)
    simpa [Array.getElem?_eq_getElem hi] using q
  obtain ⟨hsets, hown0⟩ := atoms_of _ (rest_1_c_eq ▸ (show rest_1_c.before _ s = true from hrest))
  have hr0 := Cond.before_iff.mp hown0
  obtain ⟨i0, ei0⟩ := is_v gg3
  obtain rfl : w0 = (.int i0) := Option.some.inj ei0
  obtain ⟨i1, ei1⟩ := is_v gg5
  obtain rfl : w1 = (.int i1) := Option.some.inj ei1
  obtain ⟨i2, ei2⟩ := is_v gg7
  obtain rfl : w2 = (.int i2) := Option.some.inj ei2
  obtain ⟨i3, ei3⟩ := is_v gg8
  obtain rfl : w3 = (.int i3) := Option.some.inj ei3
  obtain ⟨nw1, nw2⟩ := and_e hn
  obtain ⟨nw3, nw4⟩ := and_e nw2
  obtain ⟨nw5, nw6⟩ := and_e nw4
  obtain ⟨nw7, nw8⟩ := and_e nw6
  obtain ⟨nw9, nw10⟩ := and_e nw8
  obtain ⟨nw11, nw12⟩ := and_e nw10
  obtain ⟨nw13, nw14⟩ := and_e nw12
  obtain ⟨nw15, nw16⟩ := and_e nw14
  obtain ⟨nw17, nw18⟩ := and_e nw16
  obtain ⟨nw19, nw20⟩ := and_e nw18
  obtain ⟨nw21, nw22⟩ := and_e nw20
  obtain ⟨nw23, nw24⟩ := and_e nw22
  obtain ⟨nw25, nw26⟩ := and_e nw24
  obtain ⟨nw27, nw28⟩ := and_e nw26
  obtain ⟨nw29, nw30⟩ := and_e nw28
  obtain ⟨nw31, nw32⟩ := and_e nw30
  obtain ⟨nw33, nw34⟩ := and_e nw32
  obtain ⟨nw35, nw36⟩ := and_e nw34
  obtain ⟨nw37, nw38⟩ := and_e nw36
  obtain ⟨nw39, nw40⟩ := and_e nw38
  obtain ⟨nw41, nw42⟩ := and_e nw40
  obtain ⟨nw43, nw44⟩ := and_e nw42
  obtain ⟨nw45, nw46⟩ := and_e nw44
  obtain ⟨k_IRI, ev_IRI⟩ := exa_v nw1
  have E_IRI := Exa.start ev_IRI nw1
  have S_IRI := Sta.start ev_IRI (Or.inr ⟨(hw _ (List.mem_of_getElem? (i := 33) rfl)), (hw _ (List.mem_of_getElem? (i := 34) rfl))⟩)
  obtain ⟨k_PUNCTUATION, ev_PUNCTUATION⟩ := exa_v nw3
  have E_PUNCTUATION := Exa.start ev_PUNCTUATION nw3
  have S_PUNCTUATION := Sta.start ev_PUNCTUATION (Or.inr ⟨(hw _ (List.mem_of_getElem? (i := 33) rfl)), (hw _ (List.mem_of_getElem? (i := 66) rfl))⟩)
  obtain ⟨k_INTEGER, ev_INTEGER⟩ := exa_v nw9
  have E_INTEGER := Exa.start ev_INTEGER nw9
  have S_INTEGER := Sta.start ev_INTEGER (Or.inr ⟨(hw _ (List.mem_of_getElem? (i := 33) rfl)), (hw _ (List.mem_of_getElem? (i := 68) rfl))⟩)
  obtain ⟨k_PREFIXED_NAME, ev_PREFIXED_NAME⟩ := exa_v nw13
  have E_PREFIXED_NAME := Exa.start ev_PREFIXED_NAME nw13
  have S_PREFIXED_NAME := Sta.start ev_PREFIXED_NAME (Or.inr ⟨(hw _ (List.mem_of_getElem? (i := 33) rfl)), (hw _ (List.mem_of_getElem? (i := 92) rfl))⟩)
  obtain ⟨k_DOUBLE, ev_DOUBLE⟩ := exa_v nw17
  have E_DOUBLE := Exa.start ev_DOUBLE nw17
  have S_DOUBLE := Sta.start ev_DOUBLE (Or.inr ⟨(hw _ (List.mem_of_getElem? (i := 33) rfl)), (hw _ (List.mem_of_getElem? (i := 94) rfl))⟩)
  obtain ⟨k_STRING, ev_STRING⟩ := exa_v nw21
  have E_STRING := Exa.start ev_STRING nw21
  have S_STRING := Sta.start ev_STRING (Or.inr ⟨(hw _ (List.mem_of_getElem? (i := 33) rfl)), (hw _ (List.mem_of_getElem? (i := 96) rfl))⟩)
  obtain ⟨k_BLANK_NODE, ev_BLANK_NODE⟩ := exa_v nw25
  have E_BLANK_NODE := Exa.start ev_BLANK_NODE nw25
  have S_BLANK_NODE := Sta.start ev_BLANK_NODE (Or.inr ⟨(hw _ (List.mem_of_getElem? (i := 33) rfl)), (hw _ (List.mem_of_getElem? (i := 98) rfl))⟩)
  obtain ⟨k_LANGUAGE, ev_LANGUAGE⟩ := exa_v nw29
  have E_LANGUAGE := Exa.start ev_LANGUAGE nw29
  have S_LANGUAGE := Sta.start ev_LANGUAGE (Or.inr ⟨(hw _ (List.mem_of_getElem? (i := 33) rfl)), (hw _ (List.mem_of_getElem? (i := 100) rfl))⟩)
  obtain ⟨k_VARIABLE, ev_VARIABLE⟩ := exa_v nw33
  have E_VARIABLE := Exa.start ev_VARIABLE nw33
  have S_VARIABLE := Sta.start ev_VARIABLE (Or.inr ⟨(hw _ (List.mem_of_getElem? (i := 33) rfl)), (hw _ (List.mem_of_getElem? (i := 102) rfl))⟩)
  obtain ⟨k_DECIMAL, ev_DECIMAL⟩ := exa_v nw37
  have E_DECIMAL := Exa.start ev_DECIMAL nw37
  have S_DECIMAL := Sta.start ev_DECIMAL (Or.inr ⟨(hw _ (List.mem_of_getElem? (i := 33) rfl)), (hw _ (List.mem_of_getElem? (i := 104) rfl))⟩)
  obtain ⟨k_NAME, ev_NAME⟩ := exa_v nw41
  have E_NAME := Exa.start ev_NAME nw41
  have S_NAME := Sta.start ev_NAME (Or.inr ⟨(hw _ (List.mem_of_getElem? (i := 33) rfl)), (hw _ (List.mem_of_getElem? (i := 106) rfl))⟩)
  obtain ⟨k_END, ev_END⟩ := exa_v nw45
  have E_END := Exa.start ev_END nw45
  have S_END := Sta.start ev_END (Or.inr ⟨(hw _ (List.mem_of_getElem? (i := 33) rfl)), (hw _ (List.mem_of_getElem? (i := 108) rfl))⟩)
  have F_IRI_ordinal := own_fldI nw5 ev_IRI
  have F_PUNCTUATION_ordinal := own_fldI nw7 ev_PUNCTUATION
  have F_INTEGER_ordinal := own_fldI nw11 ev_INTEGER
  have F_PREFIXED_NAME_ordinal := own_fldI nw15 ev_PREFIXED_NAME
  have F_DOUBLE_ordinal := own_fldI nw19 ev_DOUBLE
  have F_STRING_ordinal := own_fldI nw23 ev_STRING
  have F_BLANK_NODE_ordinal := own_fldI nw27 ev_BLANK_NODE
  have F_LANGUAGE_ordinal := own_fldI nw31 ev_LANGUAGE
  have F_VARIABLE_ordinal := own_fldI nw35 ev_VARIABLE
  have F_DECIMAL_ordinal := own_fldI nw39 ev_DECIMAL
  have F_NAME_ordinal := own_fldI nw43 ev_NAME
  have F_END_ordinal := own_fldI nw46 ev_END
  obtain ⟨cs, ecs⟩ := is_v (Cond.before_iff.mp (hsets _ (List.mem_of_getElem? (i := 1) rfl)))
  have S_cs := Sta.start ecs (Or.inl (hsets _ (List.mem_of_getElem? (i := 0) rfl)))
  have hcs : ¬ cs = 0 := gotF (Cond.eq_ints ecs (Term.int_eval (0))) (not_v (Cond.before_iff.mp (hsets _ (List.mem_of_getElem? (i := 2) rfl))))
  have hEL : EW s _ own_EL0 := EW.cons (hw _ (List.mem_of_getElem? (i := 18) rfl)) (by simp) EW.nil
  have hCH : CHv s own_EL0 s.vm s.heap := CHv.start hEL (fun p hp => by simp only [own_EL0, List.mem_singleton] at hp; subst hp; exact hcalls.1 _ (List.mem_of_getElem? (i := 1) rfl)) (hsets _ (List.mem_of_getElem? (i := 2) rfl)) (hw _ (List.mem_of_getElem? (i := 19) rfl)) (hw _ (List.mem_of_getElem? (i := 5) rfl))
  obtain ⟨n, o, h1, h2, h3, _, L, rfl, ⟨rfl, N⟩, hq⟩ := rm0 l s _ hw i0 i1 i2 i3 s.heap s.heap.size (Nat.le_refl _) (fun i => [k_IRI, k_PREFIXED_NAME, k_BLANK_NODE, k_VARIABLE, k_STRING, k_LANGUAGE, k_INTEGER, k_DECIMAL, k_DOUBLE, k_NAME, k_PUNCTUATION, k_END].getD i 0) S_IRI S_PREFIXED_NAME S_BLANK_NODE S_VARIABLE S_STRING S_LANGUAGE S_INTEGER S_DECIMAL S_DOUBLE S_NAME S_PUNCTUATION S_END (own_all12 (F_IRI_ordinal.ne F_PUNCTUATION_ordinal (by decide)) (F_PREFIXED_NAME_ordinal.ne F_PUNCTUATION_ordinal (by decide)) (F_BLANK_NODE_ordinal.ne F_PUNCTUATION_ordinal (by decide)) (F_VARIABLE_ordinal.ne F_PUNCTUATION_ordinal (by decide)) (F_STRING_ordinal.ne F_PUNCTUATION_ordinal (by decide)) (F_LANGUAGE_ordinal.ne F_PUNCTUATION_ordinal (by decide)) (F_INTEGER_ordinal.ne F_PUNCTUATION_ordinal (by decide)) (F_DECIMAL_ordinal.ne F_PUNCTUATION_ordinal (by decide)) (F_DOUBLE_ordinal.ne F_PUNCTUATION_ordinal (by decide)) (F_NAME_ordinal.ne F_PUNCTUATION_ordinal (by decide)) (F_END_ordinal.ne F_PUNCTUATION_ordinal (by decide))) cs S_cs hcs (Old.start s) p e ha hc hk s m _ below hf ((Spec.applies_iff_loose hf).mp happ).1 ⟨rfl, State.Warmed39.refl s, rfl, hCH, own_none⟩ trivial
  refine ⟨n, _, h1, h2, h3, hpost _ _ _ _ _ _ ⟨Cond.after_iff.mpr rfl, Cond.after_iff.mpr (eq_i res_at (Term.int_eval (1)) (congrArg Value.int (own_law _ _ _ _))), trivial⟩ ⟨hq.1, hq.2.1, hq.2.2.1, (hq.2.2.2.sift fun y hy => Or.inr (N y hy)).mono (by decide) (by decide)⟩⟩
theorem main_1_1 : Claimed_1_1 := comes_1 fun _ _ _ _ _ _ h hF => ⟨h.1, hF⟩
theorem main_1_2 : Claimed_1_2 := comes_1 fun _ _ _ _ _ _ h hF => ⟨h.2.1, hF⟩

end Jvm.Pilot.@@N@@
namespace Jvm.Pilot.@@N@@
open Jvm Jvm.ClassFile Sem Op Lib Jvm.Free Jvm.Stand Jvm.Pilot.@@N@@.Jvm.D
/-! MADE BY PROGRAM (witnessworld.py) out of the Statement's table words and the real class files: 23 classes; the members and pool entries that the words name. The judged class is class 1, her method 3. -/
namespace start1
open Jvm.ClassFile
def u (s : String) : CpInfo := .utf8 (stringToUtf16 s)
/-- a pool by its gaps: so many unusable entries, then the entry; so many at the end -/
def gap : Nat → List CpInfo → List CpInfo
  | 0, r => r
  | n + 1, r => .unusable :: gap n r
def poolList (es : List (Nat × CpInfo)) (last : Nat) : List CpInfo := es.foldr (fun e r => gap e.1 (e.2 :: r)) (gap last [])
def pool (es : List (Nat × CpInfo)) (last : Nat) : Array CpInfo := ⟨poolList es last⟩
def fileOf (pool : Array CpInfo) (this : Nat) (attrs : Array Attribute := #[]) (ms : Array MethodInfo := #[]) (fl : Nat := 33) (sup : Nat := 0) (ifs : Array Nat := #[]) (fds : Array FieldInfo := #[]) : ClassFile where
  minorVersion := 0
  majorVersion := 65
  constantPool := pool
  accessFlags := fl
  thisClass := this
  superClass := sup
  interfaces := ifs
  fields := fds
  methods := ms
  attributes := attrs
def plain (name : String) (sup : Option ClassId) : Class where
  name := name
  kind := .ordinary
  loader := none
  accessFlags := 33
  super := sup
  interfaces := #[]
  cf := none
  fields := #[]
  methods := #[]
  instanceTypes := #[]
  staticTypes := #[]
  resolved := #[]
  callSites := []
  init := .initialized
  statics := none
  mirror := none

def pool0 : Array CpInfo := pool [(5, u "<init>"), (0, u "()V"), (1, .class_ 10), (1, u "java/lang/Object")] 113

def k0c0 : Code := { maxStack := 0, maxLocals := 1, code := object_method_1_code, exceptionTable := #[], attributes := #[] }
def k0m0 : Method := { name := "<init>", desc := "()V", sig := { parameters := [], returnType := none }, accessFlags := 1, code := some k0c0 }
/-- java/lang/Object -/
def k0 : Class := { plain "java/lang/Object" none with
  accessFlags := 33
  interfaces := #[]
  cf := some (fileOf pool0 8 #[] #[{ accessFlags := 1, nameIndex := 5, descriptorIndex := 6, attributes := #[] }] 33 0 #[] #[])
  fields := #[]
  methods := #[k0m0]
  instanceTypes := #[]
  staticTypes := #[]
  resolved := Array.replicate 124 none
  statics := none }

def pool1 : Array CpInfo := pool [(2, .class_ 4), (1, u "java/lang/Object"), (0, u "<init>"), (0, u "()V"), (0, .fieldref 8 9), (0, .class_ 10), (0, .nameAndType 11 12), (0, u "com/example/tuplelift/tuplelift/service/SparqlTokenizer$Kind"), (0, u "IRI"), (0, u "Lcom/example/tuplelift/tuplelift/service/SparqlTokenizer$Kind;"), (0, .fieldref 8 14), (0, .nameAndType 15 12), (0, u "PREFIXED_NAME"), (0, .fieldref 8 17), (0, .nameAndType 18 12), (0, u "BLANK_NODE"), (0, .fieldref 8 20), (0, .nameAndType 21 12), (0, u "VARIABLE"), (0, .fieldref 8 23), (0, .nameAndType 24 12), (0, u "STRING"), (0, .fieldref 8 26), (0, .nameAndType 27 12), (0, u "LANGUAGE"), (0, .fieldref 8 29), (0, .nameAndType 30 12), (0, u "INTEGER"), (0, .fieldref 8 32), (0, .nameAndType 33 12), (0, u "DECIMAL"), (0, .fieldref 8 35), (0, .nameAndType 36 12), (0, u "DOUBLE"), (0, .fieldref 8 38), (0, .nameAndType 39 12), (0, u "NAME"), (0, .fieldref 8 41), (0, .nameAndType 42 12), (0, u "PUNCTUATION"), (0, .fieldref 8 44), (0, .nameAndType 45 12), (0, u "END"), (0, .class_ 47), (0, u "java/lang/String"), (0, .methodref 46 49), (0, .nameAndType 5 50), (0, u "([C)V"), (0, .methodref 52 53), (0, .class_ 54), (0, .nameAndType 55 56), (0, u "com/example/tuplelift/tuplelift/service/TokenIsPinLaw"), (0, u "str"), (0, u "(ICC)Ljava/lang/String;"), (0, .class_ 58), (0, u "com/example/tuplelift/tuplelift/service/SparqlTokenizer$Token"), (0, .methodref 52 60), (0, .nameAndType 61 62), (0, u "kindOf"), (0, u "(I)Lcom/example/tuplelift/tuplelift/service/SparqlTokenizer$Kind;"), (0, .string 64), (0, u ""), (0, .integer 65535), (0, .methodref 57 67), (0, .nameAndType 5 68), (0, u "(Lcom/example/tuplelift/tuplelift/service/SparqlTokenizer$Kind;Ljava/lang/String;Ljava/lang/String;IIII)V"), (0, .methodref 57 70), (0, .nameAndType 71 72), (0, u "is"), (0, u "(Ljava/lang/String;)Z"), (3, u "law"), (0, u "(IIII)Z")] 7

def k1m0 : Method := { name := "<init>", desc := "()V", sig := { parameters := [], returnType := none }, accessFlags := 1, code := none }
def k1c1 : Code := { maxStack := 2, maxLocals := 1, code := method_2_code, exceptionTable := #[], attributes := #[] }
def k1m1 : Method := { name := "kindOf", desc := "(I)Lcom/example/tuplelift/tuplelift/service/SparqlTokenizer$Kind;", sig := { parameters := [.int], returnType := some (.object "com/example/tuplelift/tuplelift/service/SparqlTokenizer$Kind") }, accessFlags := 10, code := some k1c1 }
def k1c2 : Code := { maxStack := 6, maxLocals := 3, code := method_3_code, exceptionTable := #[], attributes := #[] }
def k1m2 : Method := { name := "str", desc := "(ICC)Ljava/lang/String;", sig := { parameters := [.int, .char, .char], returnType := some (.object "java/lang/String") }, accessFlags := 10, code := some k1c2 }
def k1c3 : Code := { maxStack := 10, maxLocals := 16, code := code, exceptionTable := #[], attributes := #[] }
def k1m3 : Method := { name := "law", desc := "(IIII)Z", sig := { parameters := [.int, .int, .int, .int], returnType := some .boolean }, accessFlags := 9, code := some k1c3 }
/-- com/example/tuplelift/tuplelift/service/TokenIsPinLaw -/
def k1 : Class := { plain "com/example/tuplelift/tuplelift/service/TokenIsPinLaw" (some 0) with
  accessFlags := 49
  interfaces := #[]
  cf := some (fileOf pool1 52 #[] #[{ accessFlags := 1, nameIndex := 5, descriptorIndex := 6, attributes := #[] }, { accessFlags := 10, nameIndex := 61, descriptorIndex := 62, attributes := #[] }, { accessFlags := 10, nameIndex := 55, descriptorIndex := 56, attributes := #[] }, { accessFlags := 9, nameIndex := 76, descriptorIndex := 77, attributes := #[] }] 49 2 #[] #[])
  fields := #[]
  methods := #[k1m0, k1m1, k1m2, k1m3]
  instanceTypes := #[]
  staticTypes := #[]
  resolved := Array.replicate 85 none
  statics := none }

def pool2 : Array CpInfo := pool [(1, .class_ 2), (0, u "java/io/Serializable"), (0, .class_ 4), (0, u "java/lang/Object")] 2

/-- java/io/Serializable -/
def k2 : Class := { plain "java/io/Serializable" (some 0) with
  accessFlags := 1537
  interfaces := #[]
  cf := some (fileOf pool2 1 #[] #[] 1537 3 #[] #[])
  fields := #[]
  methods := #[]
  instanceTypes := #[]
  staticTypes := #[]
  resolved := Array.replicate 7 none
  statics := none }

def pool3 : Array CpInfo := pool [(1, .class_ 2), (0, u "java/lang/Comparable"), (0, .class_ 4), (0, u "java/lang/Object")] 7

/-- java/lang/Comparable -/
def k3 : Class := { plain "java/lang/Comparable" (some 0) with
  accessFlags := 1537
  interfaces := #[]
  cf := some (fileOf pool3 1 #[] #[] 1537 3 #[] #[])
  fields := #[]
  methods := #[]
  instanceTypes := #[]
  staticTypes := #[]
  resolved := Array.replicate 12 none
  statics := none }

def pool4 : Array CpInfo := pool [(2, .class_ 4), (1, u "java/lang/CharSequence"), (42, .class_ 48), (0, u "java/lang/CharSequence$1CodePointIterator"), (10, .class_ 60), (0, u "java/lang/CharSequence$1CharIterator"), (5, .class_ 67), (0, u "java/lang/Object")] 63

/-- java/lang/CharSequence -/
def k4 : Class := { plain "java/lang/CharSequence" (some 0) with
  accessFlags := 1537
  interfaces := #[]
  cf := some (fileOf pool4 2 #[.nestMembers #[47, 59]] #[] 1537 66 #[] #[])
  fields := #[]
  methods := #[]
  instanceTypes := #[]
  staticTypes := #[]
  resolved := Array.replicate 131 none
  statics := none }

def pool5 : Array CpInfo := pool [(1, .class_ 2), (0, u "java/lang/constant/Constable"), (0, .class_ 4), (0, u "java/lang/Object")] 6

/-- java/lang/constant/Constable -/
def k5 : Class := { plain "java/lang/constant/Constable" (some 0) with
  accessFlags := 1537
  interfaces := #[]
  cf := some (fileOf pool5 1 #[] #[] 1537 3 #[] #[])
  fields := #[]
  methods := #[]
  instanceTypes := #[]
  staticTypes := #[]
  resolved := Array.replicate 11 none
  statics := none }

def pool6 : Array CpInfo := pool [(1, .class_ 2), (0, u "java/lang/constant/ConstantDesc"), (0, .class_ 4), (0, u "java/lang/Object")] 32

/-- java/lang/constant/ConstantDesc -/
def k6 : Class := { plain "java/lang/constant/ConstantDesc" (some 0) with
  accessFlags := 1537
  interfaces := #[]
  cf := some (fileOf pool6 1 #[] #[] 1537 3 #[] #[])
  fields := #[]
  methods := #[]
  instanceTypes := #[]
  staticTypes := #[]
  resolved := Array.replicate 37 none
  statics := none }

def pool7 : Array CpInfo := pool [(1, .methodref 2 3), (0, .class_ 4), (0, .nameAndType 5 6), (0, u "java/lang/Object"), (0, u "<init>"), (0, u "()V"), (0, .string 8), (0, u ""), (0, .fieldref 10 11), (0, .class_ 12), (0, .nameAndType 13 14), (0, u "java/lang/String"), (0, u "value"), (0, u "[B"), (0, .fieldref 10 16), (0, .nameAndType 17 18), (0, u "coder"), (0, u "B"), (2, u "hash"), (0, u "I"), (2, u "hashIsZero"), (0, u "Z"), (0, .methodref 10 28), (0, .nameAndType 5 29), (0, u "([CIILjava/lang/Void;)V"), (8, .fieldref 10 39), (0, .nameAndType 40 26), (0, u "COMPACT_STRINGS"), (1, .class_ 44), (1, u "java/lang/StringUTF16"), (0, u "compress"), (1, .methodref 42 48), (0, .nameAndType 49 50), (0, u "coderFromArrayLen"), (0, u "([BI)B"), (56, .class_ 109), (1, u "java/lang/StringLatin1"), (67, .methodref 42 178), (0, .nameAndType 45 179), (0, u "([CII)[B"), (361, .methodref 107 542), (0, .nameAndType 543 544), (0, u "equals"), (0, u "([B[B)Z"), (28, u "(Ljava/lang/Object;)Z"), (1, .class_ 576), (0, u "java/lang/CharSequence"), (22, u "CASE_INSENSITIVE_ORDER"), (0, u "Ljava/util/Comparator;"), (409, u "([C)V"), (90, u "serialPersistentFields"), (0, u "[Ljava/io/ObjectStreamField;"), (0, .class_ 1104), (0, u "java/lang/String$CaseInsensitiveComparator"), (1, .class_ 1107), (0, u "java/io/Serializable"), (0, .class_ 1109), (0, u "java/lang/Comparable"), (0, .class_ 1111), (0, u "java/lang/constant/Constable"), (0, .class_ 1113), (0, u "java/lang/constant/ConstantDesc"), (2, u "serialVersionUID"), (0, u "J"), (3, u "REPL"), (0, u "C"), (2, u "LATIN1"), (1, u "UTF16")] 323

def k7m0 : Method := { name := "<init>", desc := "()V", sig := { parameters := [], returnType := none }, accessFlags := 1, code := none }
def k7c1 : Code := { maxStack := 5, maxLocals := 2, code := jdk_42_method_3_code, exceptionTable := #[], attributes := #[] }
def k7m1 : Method := { name := "<init>", desc := "([C)V", sig := { parameters := [(.array .char)], returnType := none }, accessFlags := 1, code := some k7c1 }
def k7c2 : Code := { maxStack := 2, maxLocals := 3, code := jdk_42_method_66_code, exceptionTable := #[], attributes := #[] }
def k7m2 : Method := { name := "equals", desc := "(Ljava/lang/Object;)Z", sig := { parameters := [(.object "java/lang/Object")], returnType := some .boolean }, accessFlags := 1, code := some k7c2 }
def k7c3 : Code := { maxStack := 4, maxLocals := 6, code := jdk_42_method_149_code, exceptionTable := #[], attributes := #[] }
def k7m3 : Method := { name := "<init>", desc := "([CIILjava/lang/Void;)V", sig := { parameters := [(.array .char), .int, .int, (.object "java/lang/Void")], returnType := none }, accessFlags := 2, code := some k7c3 }
/-- java/lang/String -/
def k7 : Class := { plain "java/lang/String" (some 0) with
  accessFlags := 49
  interfaces := #[2, 3, 4, 5, 6]
  cf := some (fileOf pool7 10 #[.nestMembers #[1103]] #[{ accessFlags := 1, nameIndex := 5, descriptorIndex := 6, attributes := #[] }, { accessFlags := 1, nameIndex := 5, descriptorIndex := 1010, attributes := #[] }, { accessFlags := 1, nameIndex := 543, descriptorIndex := 573, attributes := #[] }, { accessFlags := 2, nameIndex := 5, descriptorIndex := 29, attributes := #[] }] 49 2 #[1106, 1108, 575, 1110, 1112] #[{ accessFlags := 18, nameIndex := 13, descriptorIndex := 14, attributes := #[] }, { accessFlags := 18, nameIndex := 17, descriptorIndex := 18, attributes := #[] }, { accessFlags := 2, nameIndex := 21, descriptorIndex := 22, attributes := #[] }, { accessFlags := 2, nameIndex := 25, descriptorIndex := 26, attributes := #[] }, { accessFlags := 26, nameIndex := 1116, descriptorIndex := 1117, attributes := #[] }, { accessFlags := 24, nameIndex := 40, descriptorIndex := 26, attributes := #[] }, { accessFlags := 26, nameIndex := 1101, descriptorIndex := 1102, attributes := #[] }, { accessFlags := 26, nameIndex := 1121, descriptorIndex := 1122, attributes := #[] }, { accessFlags := 25, nameIndex := 599, descriptorIndex := 600, attributes := #[] }, { accessFlags := 24, nameIndex := 1125, descriptorIndex := 18, attributes := #[] }, { accessFlags := 24, nameIndex := 1127, descriptorIndex := 18, attributes := #[] }])
  fields := #[{ name := "value", type := (.array .byte), accessFlags := 18, slot := 0, constantValue := 0 }, { name := "coder", type := .byte, accessFlags := 18, slot := 1, constantValue := 0 }, { name := "hash", type := .int, accessFlags := 2, slot := 2, constantValue := 0 }, { name := "hashIsZero", type := .boolean, accessFlags := 2, slot := 3, constantValue := 0 }, { name := "serialVersionUID", type := .long, accessFlags := 26, slot := 0, constantValue := 0 }, { name := "COMPACT_STRINGS", type := .boolean, accessFlags := 24, slot := 1, constantValue := 0 }, { name := "serialPersistentFields", type := (.array (.object "java/io/ObjectStreamField")), accessFlags := 26, slot := 2, constantValue := 0 }, { name := "REPL", type := .char, accessFlags := 26, slot := 3, constantValue := 0 }, { name := "CASE_INSENSITIVE_ORDER", type := (.object "java/util/Comparator"), accessFlags := 25, slot := 4, constantValue := 0 }, { name := "LATIN1", type := .byte, accessFlags := 24, slot := 5, constantValue := 0 }, { name := "UTF16", type := .byte, accessFlags := 24, slot := 6, constantValue := 0 }]
  methods := #[k7m0, k7m1, k7m2, k7m3]
  instanceTypes := #[(.array .byte), .byte, .int, .boolean]
  staticTypes := #[.long, .boolean, (.array (.object "java/io/ObjectStreamField")), .char, (.object "java/util/Comparator"), .byte, .byte]
  resolved := Array.replicate 1451 none
  statics := some 0 }

def pool8 : Array CpInfo := pool [(1, .methodref 2 3), (0, .class_ 4), (0, .nameAndType 5 6), (0, u "java/lang/Object"), (0, u "<init>"), (0, u "()V"), (0, .class_ 8), (0, u "java/lang/Record")] 13

def k8c0 : Code := { maxStack := 1, maxLocals := 1, code := jdk_30_method_1_code, exceptionTable := #[], attributes := #[] }
def k8m0 : Method := { name := "<init>", desc := "()V", sig := { parameters := [], returnType := none }, accessFlags := 4, code := some k8c0 }
/-- java/lang/Record -/
def k8 : Class := { plain "java/lang/Record" (some 0) with
  accessFlags := 1057
  interfaces := #[]
  cf := some (fileOf pool8 7 #[] #[{ accessFlags := 4, nameIndex := 5, descriptorIndex := 6, attributes := #[] }] 1057 2 #[] #[])
  fields := #[]
  methods := #[k8m0]
  instanceTypes := #[]
  staticTypes := #[]
  resolved := Array.replicate 22 none
  statics := none }

def pool9 : Array CpInfo := pool [(1, .methodref 2 3), (0, .class_ 4), (0, .nameAndType 5 6), (0, u "java/lang/Record"), (0, u "<init>"), (0, u "()V"), (0, .fieldref 8 9), (0, .class_ 10), (0, .nameAndType 11 12), (0, u "com/example/tuplelift/tuplelift/service/SparqlTokenizer$Token"), (0, u "kind"), (0, u "Lcom/example/tuplelift/tuplelift/service/SparqlTokenizer$Kind;"), (0, .fieldref 8 14), (0, .nameAndType 15 16), (0, u "text"), (0, u "Ljava/lang/String;"), (0, .fieldref 8 18), (0, .nameAndType 19 16), (0, u "local"), (0, .fieldref 8 21), (0, .nameAndType 22 23), (0, u "line"), (0, u "I"), (0, .fieldref 8 25), (0, .nameAndType 26 23), (0, u "column"), (0, .fieldref 8 28), (0, .nameAndType 29 23), (0, u "start"), (0, .fieldref 8 31), (0, .nameAndType 32 23), (0, u "end"), (0, .fieldref 34 35), (0, .class_ 36), (0, .nameAndType 37 12), (0, u "com/example/tuplelift/tuplelift/service/SparqlTokenizer$Kind"), (0, u "PUNCTUATION"), (0, .methodref 39 40), (0, .class_ 41), (0, .nameAndType 42 43), (0, u "java/lang/String"), (0, u "equals"), (0, u "(Ljava/lang/Object;)Z"), (6, u "(Ljava/lang/String;)Z"), (36, u "(Lcom/example/tuplelift/tuplelift/service/SparqlTokenizer$Kind;Ljava/lang/String;Ljava/lang/String;IIII)V"), (3, u "is"), (8, .class_ 101), (0, u "com/example/tuplelift/tuplelift/service/SparqlTokenizer")] 46

def k9c0 : Code := { maxStack := 2, maxLocals := 8, code := prog_161_method_1_code, exceptionTable := #[], attributes := #[] }
def k9m0 : Method := { name := "<init>", desc := "(Lcom/example/tuplelift/tuplelift/service/SparqlTokenizer$Kind;Ljava/lang/String;Ljava/lang/String;IIII)V", sig := { parameters := [(.object "com/example/tuplelift/tuplelift/service/SparqlTokenizer$Kind"), (.object "java/lang/String"), (.object "java/lang/String"), .int, .int, .int, .int], returnType := none }, accessFlags := 0, code := some k9c0 }
def k9c1 : Code := { maxStack := 2, maxLocals := 2, code := prog_161_method_2_code, exceptionTable := #[], attributes := #[] }
def k9m1 : Method := { name := "is", desc := "(Ljava/lang/String;)Z", sig := { parameters := [(.object "java/lang/String")], returnType := some .boolean }, accessFlags := 0, code := some k9c1 }
/-- com/example/tuplelift/tuplelift/service/SparqlTokenizer$Token -/
def k9 : Class := { plain "com/example/tuplelift/tuplelift/service/SparqlTokenizer$Token" (some 8) with
  accessFlags := 48
  interfaces := #[]
  cf := some (fileOf pool9 8 #[.nestHost 100] #[{ accessFlags := 0, nameIndex := 5, descriptorIndex := 87, attributes := #[] }, { accessFlags := 0, nameIndex := 91, descriptorIndex := 50, attributes := #[] }] 48 2 #[] #[{ accessFlags := 18, nameIndex := 11, descriptorIndex := 12, attributes := #[] }, { accessFlags := 18, nameIndex := 15, descriptorIndex := 16, attributes := #[] }, { accessFlags := 18, nameIndex := 19, descriptorIndex := 16, attributes := #[] }, { accessFlags := 18, nameIndex := 22, descriptorIndex := 23, attributes := #[] }, { accessFlags := 18, nameIndex := 26, descriptorIndex := 23, attributes := #[] }, { accessFlags := 18, nameIndex := 29, descriptorIndex := 23, attributes := #[] }, { accessFlags := 18, nameIndex := 32, descriptorIndex := 23, attributes := #[] }])
  fields := #[{ name := "kind", type := (.object "com/example/tuplelift/tuplelift/service/SparqlTokenizer$Kind"), accessFlags := 18, slot := 0, constantValue := 0 }, { name := "text", type := (.object "java/lang/String"), accessFlags := 18, slot := 1, constantValue := 0 }, { name := "local", type := (.object "java/lang/String"), accessFlags := 18, slot := 2, constantValue := 0 }, { name := "line", type := .int, accessFlags := 18, slot := 3, constantValue := 0 }, { name := "column", type := .int, accessFlags := 18, slot := 4, constantValue := 0 }, { name := "start", type := .int, accessFlags := 18, slot := 5, constantValue := 0 }, { name := "end", type := .int, accessFlags := 18, slot := 6, constantValue := 0 }]
  methods := #[k9m0, k9m1]
  instanceTypes := #[(.object "com/example/tuplelift/tuplelift/service/SparqlTokenizer$Kind"), (.object "java/lang/String"), (.object "java/lang/String"), .int, .int, .int, .int]
  staticTypes := #[]
  resolved := Array.replicate 148 none
  statics := none }

def pool10 : Array CpInfo := pool [(2, .class_ 4), (1, u "java/lang/Enum"), (0, u "name"), (0, u "Ljava/lang/String;"), (2, u "ordinal"), (0, u "I"), (1, .class_ 14), (1, u "java/lang/Object"), (4, u "hash"), (86, .class_ 108), (1, u "java/lang/Enum$EnumDesc"), (2, .class_ 112), (0, u "java/lang/constant/Constable"), (0, .class_ 114), (0, u "java/lang/Comparable"), (0, .class_ 116), (0, u "java/io/Serializable")] 87

/-- java/lang/Enum -/
def k10 : Class := { plain "java/lang/Enum" (some 0) with
  accessFlags := 1057
  interfaces := #[5, 3, 2]
  cf := some (fileOf pool10 2 #[.nestMembers #[106]] #[] 1057 12 #[111, 113, 115] #[{ accessFlags := 18, nameIndex := 5, descriptorIndex := 6, attributes := #[] }, { accessFlags := 18, nameIndex := 9, descriptorIndex := 10, attributes := #[] }, { accessFlags := 2, nameIndex := 19, descriptorIndex := 10, attributes := #[] }])
  fields := #[{ name := "name", type := (.object "java/lang/String"), accessFlags := 18, slot := 0, constantValue := 0 }, { name := "ordinal", type := .int, accessFlags := 18, slot := 1, constantValue := 0 }, { name := "hash", type := .int, accessFlags := 2, slot := 2, constantValue := 0 }]
  methods := #[]
  instanceTypes := #[(.object "java/lang/String"), .int, .int]
  staticTypes := #[]
  resolved := Array.replicate 204 none
  statics := none }

def pool11 : Array CpInfo := pool [(1, .class_ 2), (0, u "com/example/tuplelift/tuplelift/service/SparqlTokenizer$Kind"), (2, u "IRI"), (0, u "Lcom/example/tuplelift/tuplelift/service/SparqlTokenizer$Kind;"), (2, u "PREFIXED_NAME"), (2, u "BLANK_NODE"), (2, u "VARIABLE"), (2, u "STRING"), (2, u "LANGUAGE"), (2, u "INTEGER"), (2, u "DECIMAL"), (2, u "DOUBLE"), (2, u "NAME"), (2, u "PUNCTUATION"), (2, u "END"), (2, u "$VALUES"), (0, u "[Lcom/example/tuplelift/tuplelift/service/SparqlTokenizer$Kind;"), (6, .class_ 52), (1, u "java/lang/Enum"), (35, .class_ 89), (0, u "com/example/tuplelift/tuplelift/service/SparqlTokenizer")] 2

/-- com/example/tuplelift/tuplelift/service/SparqlTokenizer$Kind -/
def k11 : Class := { plain "com/example/tuplelift/tuplelift/service/SparqlTokenizer$Kind" (some 10) with
  accessFlags := 16432
  interfaces := #[]
  cf := some (fileOf pool11 1 #[.nestHost 88] #[] 16432 50 #[] #[{ accessFlags := 16409, nameIndex := 5, descriptorIndex := 6, attributes := #[] }, { accessFlags := 16409, nameIndex := 9, descriptorIndex := 6, attributes := #[] }, { accessFlags := 16409, nameIndex := 12, descriptorIndex := 6, attributes := #[] }, { accessFlags := 16409, nameIndex := 15, descriptorIndex := 6, attributes := #[] }, { accessFlags := 16409, nameIndex := 18, descriptorIndex := 6, attributes := #[] }, { accessFlags := 16409, nameIndex := 21, descriptorIndex := 6, attributes := #[] }, { accessFlags := 16409, nameIndex := 24, descriptorIndex := 6, attributes := #[] }, { accessFlags := 16409, nameIndex := 27, descriptorIndex := 6, attributes := #[] }, { accessFlags := 16409, nameIndex := 30, descriptorIndex := 6, attributes := #[] }, { accessFlags := 16409, nameIndex := 33, descriptorIndex := 6, attributes := #[] }, { accessFlags := 16409, nameIndex := 36, descriptorIndex := 6, attributes := #[] }, { accessFlags := 16409, nameIndex := 39, descriptorIndex := 6, attributes := #[] }, { accessFlags := 4122, nameIndex := 42, descriptorIndex := 43, attributes := #[] }])
  fields := #[{ name := "IRI", type := (.object "com/example/tuplelift/tuplelift/service/SparqlTokenizer$Kind"), accessFlags := 16409, slot := 0, constantValue := 0 }, { name := "PREFIXED_NAME", type := (.object "com/example/tuplelift/tuplelift/service/SparqlTokenizer$Kind"), accessFlags := 16409, slot := 1, constantValue := 0 }, { name := "BLANK_NODE", type := (.object "com/example/tuplelift/tuplelift/service/SparqlTokenizer$Kind"), accessFlags := 16409, slot := 2, constantValue := 0 }, { name := "VARIABLE", type := (.object "com/example/tuplelift/tuplelift/service/SparqlTokenizer$Kind"), accessFlags := 16409, slot := 3, constantValue := 0 }, { name := "STRING", type := (.object "com/example/tuplelift/tuplelift/service/SparqlTokenizer$Kind"), accessFlags := 16409, slot := 4, constantValue := 0 }, { name := "LANGUAGE", type := (.object "com/example/tuplelift/tuplelift/service/SparqlTokenizer$Kind"), accessFlags := 16409, slot := 5, constantValue := 0 }, { name := "INTEGER", type := (.object "com/example/tuplelift/tuplelift/service/SparqlTokenizer$Kind"), accessFlags := 16409, slot := 6, constantValue := 0 }, { name := "DECIMAL", type := (.object "com/example/tuplelift/tuplelift/service/SparqlTokenizer$Kind"), accessFlags := 16409, slot := 7, constantValue := 0 }, { name := "DOUBLE", type := (.object "com/example/tuplelift/tuplelift/service/SparqlTokenizer$Kind"), accessFlags := 16409, slot := 8, constantValue := 0 }, { name := "NAME", type := (.object "com/example/tuplelift/tuplelift/service/SparqlTokenizer$Kind"), accessFlags := 16409, slot := 9, constantValue := 0 }, { name := "PUNCTUATION", type := (.object "com/example/tuplelift/tuplelift/service/SparqlTokenizer$Kind"), accessFlags := 16409, slot := 10, constantValue := 0 }, { name := "END", type := (.object "com/example/tuplelift/tuplelift/service/SparqlTokenizer$Kind"), accessFlags := 16409, slot := 11, constantValue := 0 }, { name := "$VALUES", type := (.array (.object "com/example/tuplelift/tuplelift/service/SparqlTokenizer$Kind")), accessFlags := 4122, slot := 12, constantValue := 0 }]
  methods := #[]
  instanceTypes := #[(.object "java/lang/String"), .int, .int]
  staticTypes := #[(.object "com/example/tuplelift/tuplelift/service/SparqlTokenizer$Kind"), (.object "com/example/tuplelift/tuplelift/service/SparqlTokenizer$Kind"), (.object "com/example/tuplelift/tuplelift/service/SparqlTokenizer$Kind"), (.object "com/example/tuplelift/tuplelift/service/SparqlTokenizer$Kind"), (.object "com/example/tuplelift/tuplelift/service/SparqlTokenizer$Kind"), (.object "com/example/tuplelift/tuplelift/service/SparqlTokenizer$Kind"), (.object "com/example/tuplelift/tuplelift/service/SparqlTokenizer$Kind"), (.object "com/example/tuplelift/tuplelift/service/SparqlTokenizer$Kind"), (.object "com/example/tuplelift/tuplelift/service/SparqlTokenizer$Kind"), (.object "com/example/tuplelift/tuplelift/service/SparqlTokenizer$Kind"), (.object "com/example/tuplelift/tuplelift/service/SparqlTokenizer$Kind"), (.object "com/example/tuplelift/tuplelift/service/SparqlTokenizer$Kind"), (.array (.object "com/example/tuplelift/tuplelift/service/SparqlTokenizer$Kind"))]
  resolved := Array.replicate 92 none
  statics := some 1 }

def pool12 : Array CpInfo := pool [(6, .class_ 8), (1, u "java/lang/Object"), (0, u "<init>"), (0, u "()V"), (1, .class_ 14), (1, u "java/lang/StringUTF16"), (31, u "$assertionsDisabled"), (0, u "Z"), (13, u "HI_BYTE_SHIFT"), (0, u "I"), (2, u "LO_BYTE_SHIFT"), (49, .methodref 12 116), (0, .nameAndType 117 118), (0, u "compress"), (0, u "([CI[BII)I"), (3, u "([CII)[B"), (138, u "coderFromArrayLen"), (0, u "([BI)B"), (106, .class_ 371), (1, u "java/lang/StringUTF16$LinesSpliterator"), (58, u "MAX_LENGTH"), (196, .class_ 628), (0, u "java/lang/StringUTF16$CodePointsSpliterator"), (0, .class_ 630), (0, u "java/lang/StringUTF16$CharsSpliterator")] 4

def k12m0 : Method := { name := "<init>", desc := "()V", sig := { parameters := [], returnType := none }, accessFlags := 0, code := none }
def k12c1 : Code := { maxStack := 2, maxLocals := 2, code := jdk_52_method_15_code, exceptionTable := #[], attributes := #[] }
def k12m1 : Method := { name := "coderFromArrayLen", desc := "([BI)B", sig := { parameters := [(.array .byte), .int], returnType := some .byte }, accessFlags := 8, code := some k12c1 }
def k12c2 : Code := { maxStack := 5, maxLocals := 6, code := jdk_52_method_16_code, exceptionTable := #[], attributes := #[] }
def k12m2 : Method := { name := "compress", desc := "([CII)[B", sig := { parameters := [(.array .char), .int, .int], returnType := some (.array .byte) }, accessFlags := 9, code := some k12c2 }
def k12c3 : Code := { maxStack := 3, maxLocals := 7, code := jdk_52_method_21_code, exceptionTable := #[], attributes := #[] }
def k12m3 : Method := { name := "compress", desc := "([CI[BII)I", sig := { parameters := [(.array .char), .int, (.array .byte), .int, .int], returnType := some .int }, accessFlags := 9, code := some k12c3 }
/-- java/lang/StringUTF16 -/
def k12 : Class := { plain "java/lang/StringUTF16" (some 0) with
  accessFlags := 48
  interfaces := #[]
  cf := some (fileOf pool12 12 #[.nestMembers #[627, 629, 369]] #[{ accessFlags := 0, nameIndex := 9, descriptorIndex := 10, attributes := #[] }, { accessFlags := 8, nameIndex := 261, descriptorIndex := 262, attributes := #[] }, { accessFlags := 9, nameIndex := 117, descriptorIndex := 122, attributes := #[] }, { accessFlags := 9, nameIndex := 117, descriptorIndex := 118, attributes := #[] }] 48 6 #[] #[{ accessFlags := 26, nameIndex := 61, descriptorIndex := 62, attributes := #[] }, { accessFlags := 26, nameIndex := 65, descriptorIndex := 62, attributes := #[] }, { accessFlags := 24, nameIndex := 430, descriptorIndex := 62, attributes := #[] }, { accessFlags := 4120, nameIndex := 46, descriptorIndex := 47, attributes := #[] }])
  fields := #[{ name := "HI_BYTE_SHIFT", type := .int, accessFlags := 26, slot := 0, constantValue := 0 }, { name := "LO_BYTE_SHIFT", type := .int, accessFlags := 26, slot := 1, constantValue := 0 }, { name := "MAX_LENGTH", type := .int, accessFlags := 24, slot := 2, constantValue := 0 }, { name := "$assertionsDisabled", type := .boolean, accessFlags := 4120, slot := 3, constantValue := 0 }]
  methods := #[k12m0, k12m1, k12m2, k12m3]
  instanceTypes := #[]
  staticTypes := #[.int, .int, .int, .boolean]
  resolved := Array.replicate 635 none
  statics := none }

def pool13 : Array CpInfo := pool [(4, .class_ 6), (1, u "java/lang/Object"), (0, u "<init>"), (0, u "()V"), (5, .class_ 16), (1, u "java/lang/StringLatin1"), (104, u "$assertionsDisabled"), (0, u "Z"), (98, .class_ 223), (1, u "java/lang/StringLatin1$LinesSpliterator"), (57, u "equals"), (0, u "([B[B)Z"), (107, .class_ 391), (0, u "java/lang/StringLatin1$CharsSpliterator")] 3

def k13m0 : Method := { name := "<init>", desc := "()V", sig := { parameters := [], returnType := none }, accessFlags := 0, code := none }
def k13c1 : Code := { maxStack := 3, maxLocals := 3, code := jdk_43_method_13_code, exceptionTable := #[], attributes := #[] }
def k13m1 : Method := { name := "equals", desc := "([B[B)Z", sig := { parameters := [(.array .byte), (.array .byte)], returnType := some .boolean }, accessFlags := 9, code := some k13c1 }
/-- java/lang/StringLatin1 -/
def k13 : Class := { plain "java/lang/StringLatin1" (some 0) with
  accessFlags := 48
  interfaces := #[]
  cf := some (fileOf pool13 14 #[.nestMembers #[390, 221]] #[{ accessFlags := 0, nameIndex := 7, descriptorIndex := 8, attributes := #[] }, { accessFlags := 9, nameIndex := 281, descriptorIndex := 282, attributes := #[] }] 48 4 #[] #[{ accessFlags := 4120, nameIndex := 121, descriptorIndex := 122, attributes := #[] }])
  fields := #[{ name := "$assertionsDisabled", type := .boolean, accessFlags := 4120, slot := 0, constantValue := 0 }]
  methods := #[k13m0, k13m1]
  instanceTypes := #[]
  staticTypes := #[.boolean]
  resolved := Array.replicate 395 none
  statics := none }

def pool14 : Array CpInfo := pool [(2, .class_ 4), (1, u "java/lang/Object"), (0, u "<init>"), (0, u "()V"), (17, .class_ 26), (1, u "jdk/internal/util/Preconditions"), (28, .class_ 56), (0, u "jdk/internal/util/Preconditions$4"), (57, .class_ 115), (0, u "jdk/internal/util/Preconditions$1"), (7, u "SIOOBE_FORMATTER"), (0, u "Ljava/util/function/BiFunction;"), (0, .class_ 126), (0, u "jdk/internal/util/Preconditions$2"), (3, u "AIOOBE_FORMATTER"), (0, .class_ 132), (0, u "jdk/internal/util/Preconditions$3"), (3, u "IOOBE_FORMATTER")] 57

def k14m0 : Method := { name := "<init>", desc := "()V", sig := { parameters := [], returnType := none }, accessFlags := 1, code := none }
/-- jdk/internal/util/Preconditions -/
def k14 : Class := { plain "jdk/internal/util/Preconditions" (some 0) with
  accessFlags := 33
  interfaces := #[]
  cf := some (fileOf pool14 24 #[.nestMembers #[55, 131, 125, 114]] #[{ accessFlags := 1, nameIndex := 5, descriptorIndex := 6, attributes := #[] }] 33 2 #[] #[{ accessFlags := 25, nameIndex := 123, descriptorIndex := 124, attributes := #[] }, { accessFlags := 25, nameIndex := 130, descriptorIndex := 124, attributes := #[] }, { accessFlags := 25, nameIndex := 136, descriptorIndex := 124, attributes := #[] }])
  fields := #[{ name := "SIOOBE_FORMATTER", type := (.object "java/util/function/BiFunction"), accessFlags := 25, slot := 0, constantValue := 0 }, { name := "AIOOBE_FORMATTER", type := (.object "java/util/function/BiFunction"), accessFlags := 25, slot := 1, constantValue := 0 }, { name := "IOOBE_FORMATTER", type := (.object "java/util/function/BiFunction"), accessFlags := 25, slot := 2, constantValue := 0 }]
  methods := #[k14m0]
  instanceTypes := #[]
  staticTypes := #[(.object "java/util/function/BiFunction"), (.object "java/util/function/BiFunction"), (.object "java/util/function/BiFunction")]
  resolved := Array.replicate 194 none
  statics := some 2 }

def pool15 : Array CpInfo := pool [(9, u "<init>"), (6, .class_ 18), (1, u "java/lang/Object"), (0, u "()V"), (1, .class_ 23), (1, u "jdk/internal/util/ArraysSupport"), (0, u "LOG2_ARRAY_LONG_INDEX_SCALE"), (0, u "I"), (2, u "U"), (0, u "Ljdk/internal/misc/Unsafe;"), (8, u "BIG_ENDIAN"), (0, u "Z"), (8, u "LOG2_BYTE_BIT_SIZE"), (4, u "LOG2_ARRAY_INT_INDEX_SCALE"), (54, u "JLA"), (0, u "Ljdk/internal/access/JavaLangAccess;"), (11, u "LOG2_ARRAY_BOOLEAN_INDEX_SCALE"), (9, u "LOG2_ARRAY_BYTE_INDEX_SCALE"), (5, u "LOG2_ARRAY_CHAR_INDEX_SCALE"), (5, u "LOG2_ARRAY_SHORT_INDEX_SCALE"), (18, u "LOG2_ARRAY_FLOAT_INDEX_SCALE"), (24, u "LOG2_ARRAY_DOUBLE_INDEX_SCALE"), (89, u "T_BOOLEAN"), (2, u "T_CHAR"), (1, u "T_FLOAT"), (1, u "T_DOUBLE"), (1, u "T_BYTE"), (1, u "T_SHORT"), (1, u "T_INT"), (1, u "T_LONG"), (1, u "SOFT_MAX_ARRAY_LENGTH")] 83

def k15m0 : Method := { name := "<init>", desc := "()V", sig := { parameters := [], returnType := none }, accessFlags := 2, code := none }
/-- jdk/internal/util/ArraysSupport -/
def k15 : Class := { plain "jdk/internal/util/ArraysSupport" (some 0) with
  accessFlags := 33
  interfaces := #[]
  cf := some (fileOf pool15 21 #[] #[{ accessFlags := 2, nameIndex := 9, descriptorIndex := 19, attributes := #[] }] 33 16 #[] #[{ accessFlags := 24, nameIndex := 28, descriptorIndex := 29, attributes := #[] }, { accessFlags := 26, nameIndex := 38, descriptorIndex := 39, attributes := #[] }, { accessFlags := 25, nameIndex := 121, descriptorIndex := 25, attributes := #[] }, { accessFlags := 25, nameIndex := 131, descriptorIndex := 25, attributes := #[] }, { accessFlags := 25, nameIndex := 137, descriptorIndex := 25, attributes := #[] }, { accessFlags := 25, nameIndex := 143, descriptorIndex := 25, attributes := #[] }, { accessFlags := 25, nameIndex := 53, descriptorIndex := 25, attributes := #[] }, { accessFlags := 25, nameIndex := 24, descriptorIndex := 25, attributes := #[] }, { accessFlags := 25, nameIndex := 162, descriptorIndex := 25, attributes := #[] }, { accessFlags := 25, nameIndex := 187, descriptorIndex := 25, attributes := #[] }, { accessFlags := 26, nameIndex := 48, descriptorIndex := 25, attributes := #[] }, { accessFlags := 25, nameIndex := 277, descriptorIndex := 25, attributes := #[] }, { accessFlags := 25, nameIndex := 280, descriptorIndex := 25, attributes := #[] }, { accessFlags := 25, nameIndex := 282, descriptorIndex := 25, attributes := #[] }, { accessFlags := 25, nameIndex := 284, descriptorIndex := 25, attributes := #[] }, { accessFlags := 25, nameIndex := 286, descriptorIndex := 25, attributes := #[] }, { accessFlags := 25, nameIndex := 288, descriptorIndex := 25, attributes := #[] }, { accessFlags := 25, nameIndex := 290, descriptorIndex := 25, attributes := #[] }, { accessFlags := 25, nameIndex := 292, descriptorIndex := 25, attributes := #[] }, { accessFlags := 26, nameIndex := 108, descriptorIndex := 109, attributes := #[] }, { accessFlags := 25, nameIndex := 294, descriptorIndex := 25, attributes := #[] }])
  fields := #[{ name := "U", type := (.object "jdk/internal/misc/Unsafe"), accessFlags := 24, slot := 0, constantValue := 0 }, { name := "BIG_ENDIAN", type := .boolean, accessFlags := 26, slot := 1, constantValue := 0 }, { name := "LOG2_ARRAY_BOOLEAN_INDEX_SCALE", type := .int, accessFlags := 25, slot := 2, constantValue := 0 }, { name := "LOG2_ARRAY_BYTE_INDEX_SCALE", type := .int, accessFlags := 25, slot := 3, constantValue := 0 }, { name := "LOG2_ARRAY_CHAR_INDEX_SCALE", type := .int, accessFlags := 25, slot := 4, constantValue := 0 }, { name := "LOG2_ARRAY_SHORT_INDEX_SCALE", type := .int, accessFlags := 25, slot := 5, constantValue := 0 }, { name := "LOG2_ARRAY_INT_INDEX_SCALE", type := .int, accessFlags := 25, slot := 6, constantValue := 0 }, { name := "LOG2_ARRAY_LONG_INDEX_SCALE", type := .int, accessFlags := 25, slot := 7, constantValue := 0 }, { name := "LOG2_ARRAY_FLOAT_INDEX_SCALE", type := .int, accessFlags := 25, slot := 8, constantValue := 0 }, { name := "LOG2_ARRAY_DOUBLE_INDEX_SCALE", type := .int, accessFlags := 25, slot := 9, constantValue := 0 }, { name := "LOG2_BYTE_BIT_SIZE", type := .int, accessFlags := 26, slot := 10, constantValue := 0 }, { name := "T_BOOLEAN", type := .int, accessFlags := 25, slot := 11, constantValue := 0 }, { name := "T_CHAR", type := .int, accessFlags := 25, slot := 12, constantValue := 0 }, { name := "T_FLOAT", type := .int, accessFlags := 25, slot := 13, constantValue := 0 }, { name := "T_DOUBLE", type := .int, accessFlags := 25, slot := 14, constantValue := 0 }, { name := "T_BYTE", type := .int, accessFlags := 25, slot := 15, constantValue := 0 }, { name := "T_SHORT", type := .int, accessFlags := 25, slot := 16, constantValue := 0 }, { name := "T_INT", type := .int, accessFlags := 25, slot := 17, constantValue := 0 }, { name := "T_LONG", type := .int, accessFlags := 25, slot := 18, constantValue := 0 }, { name := "JLA", type := (.object "jdk/internal/access/JavaLangAccess"), accessFlags := 26, slot := 19, constantValue := 0 }, { name := "SOFT_MAX_ARRAY_LENGTH", type := .int, accessFlags := 25, slot := 20, constantValue := 0 }]
  methods := #[k15m0]
  instanceTypes := #[]
  staticTypes := #[(.object "jdk/internal/misc/Unsafe"), .boolean, .int, .int, .int, .int, .int, .int, .int, .int, .int, .int, .int, .int, .int, .int, .int, .int, .int, (.object "jdk/internal/access/JavaLangAccess"), .int]
  resolved := Array.replicate 378 none
  statics := none }

def pool16 : Array CpInfo := pool [(1, u "java/lang/Cloneable"), (0, .class_ 1), (0, u "java/lang/Object"), (0, .class_ 3)] 3

/-- java/lang/Cloneable -/
def k16 : Class := { plain "java/lang/Cloneable" (some 0) with
  accessFlags := 1537
  interfaces := #[]
  cf := some (fileOf pool16 2 #[] #[] 1537 4 #[] #[])
  fields := #[]
  methods := #[]
  instanceTypes := #[]
  staticTypes := #[]
  resolved := Array.replicate 8 none
  statics := none }

/-- the primitive byte -/
def k17 : Class := { plain "byte" none with kind := .primitive 'B', accessFlags := 0x411 }
/-- [B -/
def k18 : Class := { plain "[B" (some 0) with kind := .array 17 .byte, interfaces := #[16, 2], accessFlags := 1041 }

/-- the primitive char -/
def k19 : Class := { plain "char" none with kind := .primitive 'C', accessFlags := 0x411 }
/-- [C -/
def k20 : Class := { plain "[C" (some 0) with kind := .array 19 .char, interfaces := #[16, 2], accessFlags := 1041 }

/-- the primitive int -/
def k21 : Class := { plain "int" none with kind := .primitive 'I', accessFlags := 0x411 }
/-- [I -/
def k22 : Class := { plain "[I" (some 0) with kind := .array 21 .int, interfaces := #[16, 2], accessFlags := 1041 }

def heap : Heap := #[{ cls := 7, slots := #[.long 0, .int 1, .null, .int 0, .null, .int 0, .int 0], vm := .statics 7 },
  { cls := 11, slots := #[.ref 3, .ref 4, .ref 5, .ref 6, .ref 7, .ref 8, .ref 9, .ref 10, .ref 11, .ref 12, .ref 13, .ref 14, .null], vm := .statics 11 },
  { cls := 14, slots := #[.null, .null, .null], vm := .statics 14 },
  { cls := 11, slots := #[.null, .int 0, .int 0], vm := .none },
  { cls := 11, slots := #[.null, .int 1, .int 0], vm := .none },
  { cls := 11, slots := #[.null, .int 2, .int 0], vm := .none },
  { cls := 11, slots := #[.null, .int 3, .int 0], vm := .none },
  { cls := 11, slots := #[.null, .int 4, .int 0], vm := .none },
  { cls := 11, slots := #[.null, .int 5, .int 0], vm := .none },
  { cls := 11, slots := #[.null, .int 6, .int 0], vm := .none },
  { cls := 11, slots := #[.null, .int 7, .int 0], vm := .none },
  { cls := 11, slots := #[.null, .int 8, .int 0], vm := .none },
  { cls := 11, slots := #[.null, .int 9, .int 0], vm := .none },
  { cls := 11, slots := #[.null, .int 10, .int 0], vm := .none },
  { cls := 11, slots := #[.null, .int 11, .int 0], vm := .none }]
def classes : Array Class := #[k0, k1, k2, k3, k4, k5, k6, k7, k8, k9, k10, k11, k12, k13, k14, k15, k16, k17, k18, k19, k20, k21, k22]
def interned : List (Array UInt16 × Addr) := []
def slotsUsed : Nat := 59
def theMethod : MethodId := ⟨1, 3⟩
def args0 : Array Value := #[.int 5, .int 3, .int 7, .int 9]
def aboutOver (below : List Frame) : State where
  vm := { classes := classes, interned := interned.toArray }
  heap := heap
  slotsUsed := slotsUsed
  threads := #[{ frames := .invoking theMethod args0 :: below }]
def below0 : List Frame := [.native { method := ⟨0, 0⟩, args := #[] }]
def about1 : State := aboutOver below0
def p0 : Program := .bare "" "" ""
def e0 : Env := launch0.env 0 0 0
theorem w_frames : about1.frames = Frame.invoking theMethod args0 :: below0 := rfl
set_option maxRecDepth 65536 in
theorem w_args : argsFit about1.vm theMethod args0 = true := by decide +kernel
set_option maxRecDepth 65536 in
theorem w_heap : heapFits about1 = true := by decide +kernel
set_option maxRecDepth 65536 in
theorem w_runnable : about1.curStatus? = some .runnable := by decide +kernel
set_option maxRecDepth 65536 in
theorem w_alone : about1.alone = true := by decide +kernel
set_option maxRecDepth 65536 in
theorem w_named : about1.methodNamed? x = some theMethod := by decide +kernel
set_option maxRecDepth 65536 in
theorem w_hears : about1.hears theMethod below0 = true := by decide +kernel
set_option maxRecDepth 65536 in
theorem w_ripe : about1.ripe theMethod args0 below0 = true := by decide +kernel
theorem w_running : about1.status = .running := rfl
set_option maxRecDepth 65536 in
theorem w_room : about1.hasRoom e0.platform room_1 = true :=
  launch0.hasRoom_least _ room_1 (by decide +kernel) (by decide +kernel) (by decide +kernel) (by decide +kernel) (by decide +kernel) (by decide +kernel)
theorem allAtoms_all (ts : List Jvm.Cond) (a : Array Jvm.Value) (st : Jvm.State) : (allAtoms ts).before a st = ts.all (fun c => c.before a st) := by
  induction ts with
  | nil => rfl
  | cons c t ih =>
    show (Jvm.Cond.and c (allAtoms t)).before a st = _
    rw [Jvm.Cond.before_and, ih, List.all_cons]
def words1 : List Jvm.Cond := Jvm.Cond.code x code maxLocals ret :: tables_1
/-- a 'code' word, met by the world's own term for the bytes: nothing is compared byte by byte -/
theorem code_word {y : MethodName} {bytes : ByteArray} {mx : Nat} {rt : Option FieldType} {a : Array Value} {s : State} {m : MethodId} {meth : Method} {c : Code} (h1 : s.methodNamed? y = some m) (h2 : s.vm.method? m = some meth) (h3 : meth.code = some c) (h4 : c.code = bytes)
    (h5 : (c.maxLocals == mx && c.exceptionTable.isEmpty && decide (c.maxStack ≤ mostOperands) && decide (meth.sig.returnType = rt) && !meth.locks && decide (parseMethodDescriptor y.desc = some meth.sig)) = true) : (Jvm.Cond.code y bytes mx rt).before a s = true := by
  simp only [Bool.and_eq_true, beq_iff_eq, Bool.not_eq_true', decide_eq_true_eq] at h5
  obtain ⟨⟨⟨⟨⟨g1, g2⟩, g3⟩, g4⟩, g5⟩, g6⟩ := h5
  simp [Cond.before, Cond.holds, Cond.value, h1, h2, h3, h4, g1, g2, g3, g4, g5, g6]
def isCode : Jvm.Cond → Bool
  | .code _ _ _ _ => true
  | _ => false
theorem all_split {L : List Jvm.Cond} {P : Jvm.Cond → Bool} (h1 : L.all (fun c => isCode c || P c) = true) (h2 : ∀ c ∈ L.filter isCode, P c = true) : L.all P = true := by
  refine List.all_eq_true.mpr fun c hc => ?_
  have h := List.all_eq_true.mp h1 c hc
  rcases Bool.eq_false_or_eq_true (isCode c) with hi | hi
  · exact h2 c (List.mem_filter.mpr ⟨hc, hi⟩)
  · simpa [hi] using h
set_option maxRecDepth 65536 in
theorem w_c0 : (Jvm.Cond.code x code maxLocals ret).before args0 about1 = true := code_word (m := ⟨1, 3⟩) (meth := k1m3) (c := k1c3) (by decide +kernel) rfl rfl rfl (by decide +kernel)
set_option maxRecDepth 65536 in
theorem w_c1 : (Jvm.Cond.code ({ cls := "com/example/tuplelift/tuplelift/service/TokenIsPinLaw", name := "str", desc := "(ICC)Ljava/lang/String;" } : Jvm.MethodName) method_3_code (3 : Nat) (Option.some (Jvm.ClassFile.FieldType.object "java/lang/String"))).before args0 about1 = true := code_word (m := ⟨1, 2⟩) (meth := k1m2) (c := k1c2) (by decide +kernel) rfl rfl rfl (by decide +kernel)
set_option maxRecDepth 65536 in
theorem w_c2 : (Jvm.Cond.code ({ cls := "java/lang/String", name := "<init>", desc := "([C)V" } : Jvm.MethodName) jdk_42_method_3_code (2 : Nat) (Option.none : Option Jvm.ClassFile.FieldType)).before args0 about1 = true := code_word (m := ⟨7, 1⟩) (meth := k7m1) (c := k7c1) (by decide +kernel) rfl rfl rfl (by decide +kernel)
set_option maxRecDepth 65536 in
theorem w_c3 : (Jvm.Cond.code ({ cls := "java/lang/String", name := "<init>", desc := "([CIILjava/lang/Void;)V" } : Jvm.MethodName) jdk_42_method_149_code (6 : Nat) (Option.none : Option Jvm.ClassFile.FieldType)).before args0 about1 = true := code_word (m := ⟨7, 3⟩) (meth := k7m3) (c := k7c3) (by decide +kernel) rfl rfl rfl (by decide +kernel)
set_option maxRecDepth 65536 in
theorem w_c4 : (Jvm.Cond.code ({ cls := "java/lang/Object", name := "<init>", desc := "()V" } : Jvm.MethodName) object_method_1_code (1 : Nat) (Option.none : Option Jvm.ClassFile.FieldType)).before args0 about1 = true := code_word (m := ⟨0, 0⟩) (meth := k0m0) (c := k0c0) (by decide +kernel) rfl rfl rfl (by decide +kernel)
set_option maxRecDepth 65536 in
theorem w_c5 : (Jvm.Cond.code ({ cls := "com/example/tuplelift/tuplelift/service/TokenIsPinLaw", name := "kindOf", desc := "(I)Lcom/example/tuplelift/tuplelift/service/SparqlTokenizer$Kind;" } : Jvm.MethodName) method_2_code (1 : Nat) (Option.some (Jvm.ClassFile.FieldType.object "com/example/tuplelift/tuplelift/service/SparqlTokenizer$Kind"))).before args0 about1 = true := code_word (m := ⟨1, 1⟩) (meth := k1m1) (c := k1c1) (by decide +kernel) rfl rfl rfl (by decide +kernel)
set_option maxRecDepth 65536 in
theorem w_c6 : (Jvm.Cond.code ({ cls := "com/example/tuplelift/tuplelift/service/SparqlTokenizer$Token", name := "<init>", desc := "(Lcom/example/tuplelift/tuplelift/service/SparqlTokenizer$Kind;Ljava/lang/String;Ljava/lang/String;IIII)V" } : Jvm.MethodName) prog_161_method_1_code (8 : Nat) (Option.none : Option Jvm.ClassFile.FieldType)).before args0 about1 = true := code_word (m := ⟨9, 0⟩) (meth := k9m0) (c := k9c0) (by decide +kernel) rfl rfl rfl (by decide +kernel)
set_option maxRecDepth 65536 in
theorem w_c7 : (Jvm.Cond.code ({ cls := "java/lang/Record", name := "<init>", desc := "()V" } : Jvm.MethodName) jdk_30_method_1_code (1 : Nat) (Option.none : Option Jvm.ClassFile.FieldType)).before args0 about1 = true := code_word (m := ⟨8, 0⟩) (meth := k8m0) (c := k8c0) (by decide +kernel) rfl rfl rfl (by decide +kernel)
set_option maxRecDepth 65536 in
theorem w_c8 : (Jvm.Cond.code ({ cls := "com/example/tuplelift/tuplelift/service/SparqlTokenizer$Token", name := "is", desc := "(Ljava/lang/String;)Z" } : Jvm.MethodName) prog_161_method_2_code (2 : Nat) (Option.some Jvm.ClassFile.FieldType.boolean)).before args0 about1 = true := code_word (m := ⟨9, 1⟩) (meth := k9m1) (c := k9c1) (by decide +kernel) rfl rfl rfl (by decide +kernel)
set_option maxRecDepth 65536 in
theorem w_c9 : (Jvm.Cond.code ({ cls := "java/lang/StringUTF16", name := "compress", desc := "([CII)[B" } : Jvm.MethodName) jdk_52_method_16_code (6 : Nat) (Option.some (Jvm.ClassFile.FieldType.array Jvm.ClassFile.FieldType.byte))).before args0 about1 = true := code_word (m := ⟨12, 2⟩) (meth := k12m2) (c := k12c2) (by decide +kernel) rfl rfl rfl (by decide +kernel)
set_option maxRecDepth 65536 in
theorem w_c10 : (Jvm.Cond.code ({ cls := "java/lang/StringUTF16", name := "compress", desc := "([CI[BII)I" } : Jvm.MethodName) jdk_52_method_21_code (7 : Nat) (Option.some Jvm.ClassFile.FieldType.int)).before args0 about1 = true := code_word (m := ⟨12, 3⟩) (meth := k12m3) (c := k12c3) (by decide +kernel) rfl rfl rfl (by decide +kernel)
set_option maxRecDepth 65536 in
theorem w_c11 : (Jvm.Cond.code ({ cls := "java/lang/StringUTF16", name := "coderFromArrayLen", desc := "([BI)B" } : Jvm.MethodName) jdk_52_method_15_code (2 : Nat) (Option.some Jvm.ClassFile.FieldType.byte)).before args0 about1 = true := code_word (m := ⟨12, 1⟩) (meth := k12m1) (c := k12c1) (by decide +kernel) rfl rfl rfl (by decide +kernel)
set_option maxRecDepth 65536 in
theorem w_c12 : (Jvm.Cond.code ({ cls := "java/lang/String", name := "equals", desc := "(Ljava/lang/Object;)Z" } : Jvm.MethodName) jdk_42_method_66_code (3 : Nat) (Option.some Jvm.ClassFile.FieldType.boolean)).before args0 about1 = true := code_word (m := ⟨7, 2⟩) (meth := k7m2) (c := k7c2) (by decide +kernel) rfl rfl rfl (by decide +kernel)
set_option maxRecDepth 65536 in
theorem w_c13 : (Jvm.Cond.code ({ cls := "java/lang/StringLatin1", name := "equals", desc := "([B[B)Z" } : Jvm.MethodName) jdk_43_method_13_code (3 : Nat) (Option.some Jvm.ClassFile.FieldType.boolean)).before args0 about1 = true := code_word (m := ⟨13, 1⟩) (meth := k13m1) (c := k13c1) (by decide +kernel) rfl rfl rfl (by decide +kernel)
def codes1 : List Jvm.Cond := [Jvm.Cond.code x code maxLocals ret, Jvm.Cond.code ({ cls := "com/example/tuplelift/tuplelift/service/TokenIsPinLaw", name := "str", desc := "(ICC)Ljava/lang/String;" } : Jvm.MethodName) method_3_code (3 : Nat) (Option.some (Jvm.ClassFile.FieldType.object "java/lang/String")), Jvm.Cond.code ({ cls := "java/lang/String", name := "<init>", desc := "([C)V" } : Jvm.MethodName) jdk_42_method_3_code (2 : Nat) (Option.none : Option Jvm.ClassFile.FieldType), Jvm.Cond.code ({ cls := "java/lang/String", name := "<init>", desc := "([CIILjava/lang/Void;)V" } : Jvm.MethodName) jdk_42_method_149_code (6 : Nat) (Option.none : Option Jvm.ClassFile.FieldType), Jvm.Cond.code ({ cls := "java/lang/Object", name := "<init>", desc := "()V" } : Jvm.MethodName) object_method_1_code (1 : Nat) (Option.none : Option Jvm.ClassFile.FieldType), Jvm.Cond.code ({ cls := "com/example/tuplelift/tuplelift/service/TokenIsPinLaw", name := "kindOf", desc := "(I)Lcom/example/tuplelift/tuplelift/service/SparqlTokenizer$Kind;" } : Jvm.MethodName) method_2_code (1 : Nat) (Option.some (Jvm.ClassFile.FieldType.object "com/example/tuplelift/tuplelift/service/SparqlTokenizer$Kind")), Jvm.Cond.code ({ cls := "com/example/tuplelift/tuplelift/service/SparqlTokenizer$Token", name := "<init>", desc := "(Lcom/example/tuplelift/tuplelift/service/SparqlTokenizer$Kind;Ljava/lang/String;Ljava/lang/String;IIII)V" } : Jvm.MethodName) prog_161_method_1_code (8 : Nat) (Option.none : Option Jvm.ClassFile.FieldType), Jvm.Cond.code ({ cls := "java/lang/Record", name := "<init>", desc := "()V" } : Jvm.MethodName) jdk_30_method_1_code (1 : Nat) (Option.none : Option Jvm.ClassFile.FieldType), Jvm.Cond.code ({ cls := "com/example/tuplelift/tuplelift/service/SparqlTokenizer$Token", name := "is", desc := "(Ljava/lang/String;)Z" } : Jvm.MethodName) prog_161_method_2_code (2 : Nat) (Option.some Jvm.ClassFile.FieldType.boolean), Jvm.Cond.code ({ cls := "java/lang/StringUTF16", name := "compress", desc := "([CII)[B" } : Jvm.MethodName) jdk_52_method_16_code (6 : Nat) (Option.some (Jvm.ClassFile.FieldType.array Jvm.ClassFile.FieldType.byte)), Jvm.Cond.code ({ cls := "java/lang/StringUTF16", name := "compress", desc := "([CI[BII)I" } : Jvm.MethodName) jdk_52_method_21_code (7 : Nat) (Option.some Jvm.ClassFile.FieldType.int), Jvm.Cond.code ({ cls := "java/lang/StringUTF16", name := "coderFromArrayLen", desc := "([BI)B" } : Jvm.MethodName) jdk_52_method_15_code (2 : Nat) (Option.some Jvm.ClassFile.FieldType.byte), Jvm.Cond.code ({ cls := "java/lang/String", name := "equals", desc := "(Ljava/lang/Object;)Z" } : Jvm.MethodName) jdk_42_method_66_code (3 : Nat) (Option.some Jvm.ClassFile.FieldType.boolean), Jvm.Cond.code ({ cls := "java/lang/StringLatin1", name := "equals", desc := "([B[B)Z" } : Jvm.MethodName) jdk_43_method_13_code (3 : Nat) (Option.some Jvm.ClassFile.FieldType.boolean)]
set_option maxRecDepth 65536 in
theorem codes_eq : words1.filter isCode = codes1 := rfl
theorem w_codes : ∀ c ∈ words1.filter isCode, c.before args0 about1 = true := by
  rw [codes_eq]
  intro c hc
  simp only [codes1, List.mem_cons, List.not_mem_nil, or_false] at hc
  rcases hc with rfl | rfl | rfl | rfl | rfl | rfl | rfl | rfl | rfl | rfl | rfl | rfl | rfl | rfl
  · exact w_c0
  · exact w_c1
  · exact w_c2
  · exact w_c3
  · exact w_c4
  · exact w_c5
  · exact w_c6
  · exact w_c7
  · exact w_c8
  · exact w_c9
  · exact w_c10
  · exact w_c11
  · exact w_c12
  · exact w_c13
set_option maxRecDepth 65536 in
theorem w_t1 : (words1.take 24).all (fun c => isCode c || c.before args0 about1) = true := by decide +kernel
set_option maxRecDepth 65536 in
theorem w_t2 : ((words1.drop 24).take 24).all (fun c => isCode c || c.before args0 about1) = true := by decide +kernel
set_option maxRecDepth 65536 in
theorem w_t3 : (((words1.drop 24).drop 24).take 24).all (fun c => isCode c || c.before args0 about1) = true := by decide +kernel
set_option maxRecDepth 65536 in
theorem w_t4 : ((((words1.drop 24).drop 24).drop 24).take 24).all (fun c => isCode c || c.before args0 about1) = true := by decide +kernel
set_option maxRecDepth 65536 in
theorem w_t5 : ((((words1.drop 24).drop 24).drop 24).drop 24).all (fun c => isCode c || c.before args0 about1) = true := by decide +kernel
theorem w_tables : (allAtoms (Jvm.Cond.code x code maxLocals ret :: tables_1)).before args0 about1 = true := by
  rw [allAtoms_all]
  show words1.all (fun c => c.before args0 about1) = true
  refine all_split ?_ w_codes
  rw [← List.take_append_drop 24 words1, List.all_append, w_t1, ← List.take_append_drop 24 (words1.drop 24), List.all_append, w_t2, ← List.take_append_drop 24 ((words1.drop 24).drop 24), List.all_append, w_t3, ← List.take_append_drop 24 (((words1.drop 24).drop 24).drop 24), List.all_append, w_t4, w_t5]
  rfl
set_option maxRecDepth 65536 in
theorem w_rest : rest_1_c.before args0 about1 = true := by decide +kernel
set_option maxRecDepth 65536 in
theorem w_case : (Jvm.Cond.and given_1 narrow_1).before args0 about1 = true := by decide +kernel
set_option maxRecDepth 65536 in
theorem w_consts : constsHeld consts_1 about1 := Jvm.Lit.constsHeldB_iff.mp (by decide +kernel)
theorem w_applies : (headSpec (Jvm.Cond.code x code maxLocals ret :: tables_1) room_1).applies x e0.platform about1 = true :=
  (Spec.applies_iff w_frames).mpr ⟨w_running, w_runnable, w_alone, w_named, w_hears, w_ripe, w_room, w_tables⟩
theorem atStart : AtStart classFile x code maxLocals ret World_1 tables_1 room_1 Calls_1 rest_1 Pre_1 launch0 p0 e0 about1 theMethod args0 below0 :=
  ⟨lists_1, trivial, launch0.admits_env _ _ _, launch0.least_env, fairChoices_fair.cas, fairChoices_fair.clock, w_frames, w_args, w_heap, w_applies, ⟨w_consts, trivial⟩, w_rest, w_case⟩
end start1
theorem witness_1 : WitnessClaimed_1 := ⟨start1.p0, start1.e0, start1.about1, start1.theMethod, start1.args0, start1.below0, start1.atStart⟩
end Jvm.Pilot.@@N@@
