import JvmDerived
import JvmDerived.Pilot.@@N@@Statement
import JvmDerived.Pilot.@@N@@Code
set_option linter.unusedVariables false
set_option linter.unusedSimpArgs false
@@BLOCK:NumsL.lean.txt@@
namespace Jvm.Pilot.@@N@@
open Jvm Jvm.ClassFile Sem Op Lib Jvm.Free Jvm.Stand Jvm.LawKit Jvm.RoadKit Bundle Jvm.Pilot.@@N@@.Jvm.D

section OwnBase
variable {p : Program} {l : Launch} {e : Env} {R : Room} {s : State} {m : MethodId} {args : Array Value} {below : List Frame} {meth : Method} {c : Code} {T T' : State} {locs : List Loc} {cells slots : Nat} {Z : State} {a0 : Array Value} {h h' : Heap} {Q Q' : Option Value → Heap → List Loc → Prop} {P : State → Outcome → Prop} {g g' : JFrame} {pc : Nat} {Ls : Array Slot} {rest : List Value} {a : Addr} {n0 : Nat}
/-- from T, the frame g on top, the body comes to its end, and the end is as P says -/
def own_Go (p : Program) (e : Env) (below : List Frame) (P : State → Outcome → Prop) (T : State) (g : JFrame) : Prop :=
  ∃ s₂ o, Steps p.tables e below (T.setTop g) s₂ ∧ s₂.status = .running ∧ Ended s₂ below o ∧ P s₂ o
/-- it returned; what it returned, the heap and the written places meet Q; no more is made than R allows -/
def own_P (s : State) (R : Room) (Q : Option Value → Heap → List Loc → Prop) (s₂ : State) (o : Outcome) : Prop := ∃ v L, o = .returned v ∧ Q v s₂.heap L ∧ FrameEnd s o s₂ L R.cells R.slots
theorem own_st (h : ∀ t, Steps p.tables e below (T'.setTop g') t → Steps p.tables e below (T.setTop g) t) (G : own_Go p e below P T' g') : own_Go p e below P T g := by
  obtain ⟨s₂, o, h1, r⟩ := G
  exact ⟨s₂, o, h _ h1, r⟩
theorem own_end (X : Stand p l e R s m args below meth c T locs cells slots) (hlk : meth.locks = false) {v : Option Value} (hv : meth.sig.returnType = none → v = none) (hc : cells ≤ R.cells) (hs : slots ≤ R.slots) (hQ : Q v T.heap locs)
    (hr : ∀ fs, (∀ (f : JFrame) (acts : List Action), f.method = m → f.locked = none → f.entered = [] → (doReturn e (T.setTop f) acts v).1 = T.setFrames fs) → Steps p.tables e below (T.setTop g) (T.setFrames fs)) : own_Go p e below (own_P s R Q) T g := by
  obtain ⟨fs, h1, hrun, hended, hW, hsame⟩ := X.leave (v := v) hv hlk
  exact ⟨_, _, hr fs h1, hrun, hended, _, _, rfl, hQ, ⟨_, rfl⟩, hW, hsame.mono hc hs⟩
/-- a method's contract: called with these arguments at the heap h0 it returns, and Q holds -/
def own_Met (l : Launch) (Z : State) (h0 : Heap) (y : MethodName) (bytes : ByteArray) (maxL : Nat) (ret : Option FieldType) (R : Room) (as : Array Value) (Q : Option Value → Heap → List Loc → Prop) : Prop :=
  ∀ ws : List Jvm.Cond, MetFree l y (head1 (Jvm.Cond.code y bytes maxL ret :: ws) R) (fun a U => a = as ∧ Z.Warmed39 U.vm ∧ U.heap = h0) (fun _ _ _ _ _ => True) (fun _ U o U' => ∃ v L, o = .returned v ∧ Q v U'.heap L ∧ FrameEnd U o U' L R.cells R.slots)
theorem own_body {h0 : Heap} {y : MethodName} {bytes : ByteArray} {maxL : Nat} {ret : Option FieldType} {as : Array Value} (hn : plainName y.cls = true) (he : ∀ m : MethodId, entryFrame m as maxL = mkF m 0 Ls [])
    (body : ∀ (p : Program) (e : Env) (s : State) (m : MethodId) (below : List Frame) (meth : Method) (c : Code) (T : State), Stand p l e R s m as below meth c T [] 0 0 → p.tables.exec = Jvm.exec → c.code = bytes → c.maxLocals = maxL → meth.sig.returnType = ret → meth.locks = false → s.vm.findClass y.cls = some m.cls → meth.name = y.name → Z.Warmed39 s.vm → T.heap = h0 → own_Go p e below (own_P s R Q) T (mkF m 0 Ls [])) :
    own_Met l Z h0 y bytes maxL ret R as Q := by
  intro ws
  refine MetFree.of_bodySF (plainFor_of_name hn) hisR ?_
  intro p e s m args below meth c s₁ Bd hml0 hP hK
  obtain ⟨rfl, hZ, hh⟩ := hP
  have e0 : s₁.heap = h0 := by rw [← hh, Bd.state]; rfl
  obtain ⟨s₂, o, h1, r⟩ := body p e s m below meth c s₁ (Stand.of_body Bd) Bd.exec Bd.bytes hml0 Bd.returns (BodyLoose.notSynchronized Bd) (findClass_of_methodNamed Bd.named) (name_of_methodNamed Bd.named Bd.method).1 hZ e0
  exact ⟨s₂, o, castTop (he m) h1, r⟩
theorem own_Met.imp {h0 : Heap} {y : MethodName} {bytes : ByteArray} {maxL : Nat} {ret : Option FieldType} {as : Array Value} (M : own_Met l Z h0 y bytes maxL ret R as Q) (hq : ∀ v h L, Q v h L → Q' v h L) : own_Met l Z h0 y bytes maxL ret R as Q' := by
  intro ws p e ha hc hk s m args below hf happ hP hK
  obtain ⟨n, o, h1, h2, h3, v, L, h4, h5, h6⟩ := M ws p e ha hc hk s m args below hf happ hP hK
  exact ⟨n, o, h1, h2, h3, v, L, h4, hq _ _ _ h5, h6⟩
/-- a static call by its contract -/
theorem own_callS (X : Stand p l e R s m args below meth c T locs cells slots) (hx : p.tables.exec = Jvm.exec) (hZ : Z.Warmed39 s.vm) (e0 : T.heap = h) {own : String} {index : Nat} {y : MethodName} {bytes : ByteArray} {maxL : Nat} {ret : Option FieldType} {rm : Room}
    (hown : s.vm.findClass own = some m.cls) (w1 : (Jvm.Cond.methodLink own index y).before a0 Z = true) (w2 : (Jvm.Cond.static y).before a0 Z = true) (w3 : (Jvm.Cond.initialized y.cls).before a0 Z = true) (w4 : (Jvm.Cond.code y bytes maxL ret).before a0 Z = true)
    (hy : y.cls ≠ "java/lang/invoke/MethodHandle" ∧ y.cls ≠ "java/lang/invoke/VarHandle") {ps : List FieldType} {r : Option FieldType} (hd : parseMethodDescriptor y.desc = some ⟨ps, r⟩)
    {argsL : List Value} (hn : argsL.length = ps.length) (M : own_Met l Z h y bytes maxL ret rm argsL.toArray Q') (W : Nat) (hf : rm.frames + 1 ≤ R.frames) (hl : W + (maxL + 11) + rm.locals ≤ R.locals) (hc : cells + rm.cells ≤ R.cells) (hs : slots + rm.slots ≤ R.slots)
    {st : List Value} (hst : st = argsL.reverse ++ rest) (hsz : Ls.size = c.maxLocals) (hW : (rest.map fun v => v.category).sum ≤ W) (hdg : decode c.code pc = .ok (.invokestatic index, 3))
    (k : ∀ (v : Option Value) (T' : State) (L : List Loc), Q' v T'.heap L → Stand p l e R s m args below meth c T' (locs ++ L) (cells + rm.cells) (slots + rm.slots) → own_Go p e below P T' (mkF m (pc + 3) Ls (v.toList ++ rest))) :
    own_Go p e below P T (mkF m pc Ls st) := by
  subst hst
  obtain ⟨v, _, ⟨T', L', k', n'⟩, -, X', ⟨L, hQ, l1, l2, l3⟩, st⟩ := Jvm.LawKit.callS X hx (y := y) hown (mvT hZ w1) (mvT hZ w2) (mvT hZ w3) (mvT hZ w4) hy (backOf (W := W) (M []) hZ w4 w3 hf hl) (g := mkF m pc Ls (argsL.reverse ++ rest)) rfl hsz (argsL := argsL) (rest := rest) (lenOf hd hn) rfl (by show 2 * 0 + _ ≤ _; omega) hdg (fun _ _ => ⟨rfl, e0, hc, hs⟩)
  dsimp only [Pt.U, Pt.locs, Pt.cells, Pt.slots] at X' l1 l2 l3 st hQ
  subst l1 l2 l3
  exact own_st st (k v T' L hQ X')
/-- a constructor by its contract -/
theorem own_callN (X : Stand p l e R s m args below meth c T locs cells slots) (hx : p.tables.exec = Jvm.exec) (hZ : Z.Warmed39 s.vm) (e0 : T.heap = h) {own : String} {index : Nat} {y : MethodName} {bytes : ByteArray} {maxL : Nat} {rm : Room} (hy1 : y.name = "<init>")
    (hown : s.vm.findClass own = some m.cls) (w1 : (Jvm.Cond.methodLink own index y).before a0 Z = true) (w2 : (Jvm.Cond.instanceMethod y).before a0 Z = true) (w3 : (Jvm.Cond.initialized y.cls).before a0 Z = true) (w4 : (Jvm.Cond.code y bytes maxL none).before a0 Z = true)
    (hy : y.cls ≠ "java/lang/invoke/MethodHandle" ∧ y.cls ≠ "java/lang/invoke/VarHandle") {ps : List FieldType} {r : Option FieldType} (hd : parseMethodDescriptor y.desc = some ⟨ps, r⟩)
    {argsL : List Value} (hn : argsL.length = ps.length) (M : own_Met l Z h y bytes maxL none rm (.ref a :: argsL).toArray Q') (W : Nat) (hf : rm.frames + 1 ≤ R.frames) (hl : W + (maxL + 11) + rm.locals ≤ R.locals) (hc : cells + rm.cells ≤ R.cells) (hs : slots + rm.slots ≤ R.slots)
    {st : List Value} (hst : st = argsL.reverse ++ .ref a :: rest) (hsz : Ls.size = c.maxLocals) (hW : (rest.map fun v => v.category).sum ≤ W) (hdg : decode c.code pc = .ok (.invokespecial index, 3))
    (k : ∀ (v : Option Value) (T' : State) (L : List Loc), Q' v T'.heap L → Stand p l e R s m args below meth c T' (locs ++ L) (cells + rm.cells) (slots + rm.slots) → own_Go p e below P T' (mkF m (pc + 3) Ls (v.toList ++ rest))) :
    own_Go p e below P T (mkF m pc Ls st) := by
  subst hst
  obtain ⟨v, _, ⟨T', L', k', n'⟩, -, X', ⟨L, hQ, l1, l2, l3⟩, st⟩ := X.specialBack hx (y := y) hy1 hown (mvT hZ w1) (mvT hZ w2) (mvT hZ w4) hy (backOf (W := W) (M []) hZ w4 w3 hf hl) (g := mkF m pc Ls (argsL.reverse ++ .ref a :: rest)) rfl hsz (Steps.refl _) (a := a) (argsL := argsL) (rest := rest) (lenOf hd hn) rfl (by show 2 * 0 + _ ≤ _; omega) hdg (fun _ _ => ⟨rfl, e0, hc, hs⟩)
  dsimp only [Pt.U, Pt.locs, Pt.cells, Pt.slots] at X' l1 l2 l3 st hQ
  subst l1 l2 l3
  exact own_st (fun t q => st.trans q) (k v T' L hQ X')
/-- an instance method by its contract -/
theorem own_callV (X : Stand p l e R s m args below meth c T locs cells slots) (hx : p.tables.exec = Jvm.exec) (hZ : Z.Warmed39 s.vm) (e0 : T.heap = h) {own C : String} {index : Nat} {y z : MethodName} {bytes : ByteArray} {maxL : Nat} {ret : Option FieldType} {rm : Room}
    (hown : s.vm.findClass own = some m.cls) (w1 : (Jvm.Cond.methodLink own index y).before a0 Z = true) (w2 : (Jvm.Cond.declares y).before a0 Z = true) (w5 : (Jvm.Cond.selects y.cls y y).before a0 Z = true) (w6 : (Jvm.Cond.selects C y z).before a0 Z = true) (w7 : (Jvm.Cond.instanceMethod z).before a0 Z = true) (w3 : (Jvm.Cond.initialized z.cls).before a0 Z = true) (w4 : (Jvm.Cond.code z bytes maxL ret).before a0 Z = true)
    (hy : y.cls ≠ "java/lang/invoke/MethodHandle" ∧ y.cls ≠ "java/lang/invoke/VarHandle") {ps : List FieldType} {r : Option FieldType} (hd : parseMethodDescriptor y.desc = some ⟨ps, r⟩) (E : Exa Z h a C)
    {argsL : List Value} (hn : argsL.length = ps.length) (M : own_Met l Z h z bytes maxL ret rm (.ref a :: argsL).toArray Q') (W : Nat) (hf : rm.frames + 1 ≤ R.frames) (hl : W + (maxL + 11) + rm.locals ≤ R.locals) (hc : cells + rm.cells ≤ R.cells) (hs : slots + rm.slots ≤ R.slots)
    {st : List Value} (hst : st = argsL.reverse ++ .ref a :: rest) (hsz : Ls.size = c.maxLocals) (hW : (rest.map fun v => v.category).sum ≤ W) (hdg : decode c.code pc = .ok (.invokevirtual index, 3))
    (k : ∀ (v : Option Value) (T' : State) (L : List Loc), Q' v T'.heap L → Stand p l e R s m args below meth c T' (locs ++ L) (cells + rm.cells) (slots + rm.slots) → own_Go p e below P T' (mkF m (pc + 3) Ls (v.toList ++ rest))) :
    own_Go p e below P T (mkF m pc Ls st) := by
  subst hst
  obtain ⟨cq, kq, qa, qb, qc⟩ := isOf hZ e0 E
  obtain ⟨v, _, ⟨T', L', k', n'⟩, -, X', ⟨L, hQ, l1, l2, l3⟩, st⟩ := X.virtualBack hx (y := y) (z := z) hown (mvT hZ w1) (mvT hZ w2) (notFace_of_selects (args := #[]) (mvT hZ w5)) (mvT hZ w6) (mvT hZ w7) hy (backOf (W := W) (M []) hZ w4 w3 hf hl) qa qc (g := mkF m pc Ls (argsL.reverse ++ .ref a :: rest)) rfl hsz (Steps.refl _) (argsL := argsL) (rest := rest) (lenOf hd hn) rfl (by show 2 * 0 + _ ≤ _; omega) hdg (fun _ _ => ⟨rfl, e0, hc, hs⟩)
  dsimp only [Pt.U, Pt.locs, Pt.cells, Pt.slots] at X' l1 l2 l3 st hQ
  subst l1 l2 l3
  exact own_st (fun t q => st.trans q) (k v T' L hQ X')
/-- a private instance method by its contract (no 'selects' word is laid for it) -/
theorem own_callP (X : Stand p l e R s m args below meth c T locs cells slots) (hx : p.tables.exec = Jvm.exec) (hZ : Z.Warmed39 s.vm) (e0 : T.heap = h) {own C : String} {index kk : Nat} {y : MethodName} {bytes : ByteArray} {maxL : Nat} {ret : Option FieldType} {rm : Room}
    (hown : s.vm.findClass own = some m.cls) (w1 : (Jvm.Cond.methodLink own index y).before a0 Z = true) (w2 : (Jvm.Cond.instanceMethod y).before a0 Z = true) (wp : (Jvm.Cond.privateMethod y).before a0 Z = true) (wi : (Jvm.Cond.instantiable y.cls kk).before a0 Z = true) (w3 : (Jvm.Cond.initialized y.cls).before a0 Z = true) (w4 : (Jvm.Cond.code y bytes maxL ret).before a0 Z = true)
    (hy : y.cls ≠ "java/lang/invoke/MethodHandle" ∧ y.cls ≠ "java/lang/invoke/VarHandle") {ps : List FieldType} {r : Option FieldType} (hd : parseMethodDescriptor y.desc = some ⟨ps, r⟩) (E : Exa Z h a C)
    {argsL : List Value} (hn : argsL.length = ps.length) (M : own_Met l Z h y bytes maxL ret rm (.ref a :: argsL).toArray Q') (W : Nat) (hf : rm.frames + 1 ≤ R.frames) (hl : W + (maxL + 11) + rm.locals ≤ R.locals) (hc : cells + rm.cells ≤ R.cells) (hs : slots + rm.slots ≤ R.slots)
    {st : List Value} (hst : st = argsL.reverse ++ .ref a :: rest) (hsz : Ls.size = c.maxLocals) (hW : (rest.map fun v => v.category).sum ≤ W) (hdg : decode c.code pc = .ok (.invokevirtual index, 3))
    (k : ∀ (v : Option Value) (T' : State) (L : List Loc), Q' v T'.heap L → Stand p l e R s m args below meth c T' (locs ++ L) (cells + rm.cells) (slots + rm.slots) → own_Go p e below P T' (mkF m (pc + 3) Ls (v.toList ++ rest))) :
    own_Go p e below P T (mkF m pc Ls st) := by
  subst hst
  obtain ⟨cq, q1, q2⟩ := E.cell
  have hP : s.PrivateAt y := Cond.privateMethod_at (mvP hZ wp (args := #[]))
  obtain ⟨c2, k2, i1, i2, -, i4, -⟩ := Cond.instantiable_spec (mvT (args := #[]) hZ wi)
  have hni : k2.isInterface = false := by
    cases hb : k2.isInterface with
    | false => rfl
    | true => rw [hb] at i4; cases i4
  have hsel : (Jvm.Cond.selects y.cls y y).before args s = true := selects_self_of_private i1 i2 hni hP (mvT hZ w2) hy
  obtain ⟨v, _, ⟨T', L', k', n'⟩, -, X', ⟨L, hQ, l1, l2, l3⟩, st⟩ := X.privateBack hx (y := y) hown (mvT hZ w1) (mvT hZ w2) hsel hP (mvT hZ w4) hy (backOf (W := W) (M []) hZ w4 w3 hf hl) (g := mkF m pc Ls (argsL.reverse ++ .ref a :: rest)) rfl hsz (Steps.refl _) (a := a) (by rw [e0]; exact q1) q2 (argsL := argsL) (rest := rest) (lenOf hd hn) rfl (by show 2 * 0 + _ ≤ _; omega) hdg (fun _ _ => ⟨rfl, e0, hc, hs⟩)
  dsimp only [Pt.U, Pt.locs, Pt.cells, Pt.slots] at X' l1 l2 l3 st hQ
  subst l1 l2 l3
  exact own_st (fun t q => st.trans q) (k v T' L hQ X')
/-- Object's constructor -/
theorem own_initO (X : Stand p l e R s m args below meth c T locs cells slots) (hx : p.tables.exec = Jvm.exec) (hZ : Z.Warmed39 s.vm) (e0 : T.heap = h) {own : String} {idx : Nat} (hown : s.vm.findClass own = some m.cls) (w1 : (Jvm.Cond.methodLink own idx Lib.objectInit).before a0 Z = true) (w2 : (Jvm.Cond.instanceMethod Lib.objectInit).before a0 Z = true)
    (w3 : (Jvm.Cond.code Lib.objectInit ⟨#[0xb1]⟩ 1 none).before a0 Z = true) (hsz : Ls.size = c.maxLocals) (hd : decode c.code pc = .ok (.invokespecial idx, 3)) (hf : 1 ≤ R.frames) (W : Nat) (hW : (rest.map fun v => v.category).sum ≤ W) (hl : W + 12 ≤ R.locals)
    (k : ∀ T' : State, Stand p l e R s m args below meth c T' locs cells slots → T'.heap = h → own_Go p e below P T' (mkF m (pc + 3) Ls rest)) : own_Go p e below P T (mkF m pc Ls (.ref a :: rest)) := by
  obtain ⟨T', X', e', st⟩ := initO X hx hZ hown w1 w2 w3 e0 (g := mkF m pc Ls (.ref a :: rest)) rfl hsz rfl hd hf (W := W) (by show 2 * 0 + _ ≤ _; omega) hl
  exact own_st st (k T' X' e')
theorem own_getF (X : Stand p l e R s m args below meth c T locs cells slots) (hx : p.tables.exec = Jvm.exec) (hZ : Z.Warmed39 s.vm) (e0 : T.heap = h) {own C n d : String} {index : Nat} (hown : s.vm.findClass own = some m.cls) (w : (Jvm.Cond.fieldLink own index C n d).before a0 Z = true)
    {v : Value} (F : Fld Z h a C n d v) (hd : decode c.code pc = .ok (.getfield index, 3))
    (k : ∀ T' : State, Stand p l e R s m args below meth c T' locs cells slots → T'.heap = h → own_Go p e below P T' (mkF m (pc + 3) Ls (v :: rest))) : own_Go p e below P T (mkF m pc Ls (.ref a :: rest)) := by
  obtain ⟨T', X', e', st⟩ := getF X hx hZ hown (host := "") (Or.inl w) Via.refl e0 F (g := mkF m pc Ls (.ref a :: rest)) rfl rfl hd
  exact own_st st (k T' X' e')
theorem own_putF (X : Stand p l e R s m args below meth c T locs cells slots) (hx : p.tables.exec = Jvm.exec) (hZ : Z.Warmed39 s.vm) (e0 : T.heap = h) {own C O n d : String} {index kk : Nat} {ty : FieldType} (hown : s.vm.findClass own = some m.cls) (w : (Jvm.Cond.fieldLink own index O n d).before a0 Z = true)
    {v old : Value} (F : Fld Z h a O n d old) (E : Exa Z h a C) (L : (Jvm.Cond.lays C O n d).before a0 Z = true ∨ ((Jvm.Cond.laysFinal C O n d).before a0 Z = true ∧ own = O ∧ meth.name = "<init>")) (wi : (Jvm.Cond.instantiable C kk).before a0 Z = true)
    (hty : parseFieldDescriptor d = some ty) (hn : narrow ty v = v) (hf : fits ty v = true) (N : Fr n0 locs) (ga : n0 ≤ a) (hd : decode c.code pc = .ok (.putfield index, 3))
    (k : ∀ (T' : State) (h' : Heap), Stand p l e R s m args below meth c T' (locs ++ [⟨a, Jvm.RoadKit.slotOf Z O n d⟩]) cells slots → T'.heap = h' → Wr h h' a (Jvm.RoadKit.slotOf Z O n d) v → Fr n0 (locs ++ [⟨a, Jvm.RoadKit.slotOf Z O n d⟩]) → own_Go p e below P T' (mkF m (pc + 3) Ls rest)) :
    own_Go p e below P T (mkF m pc Ls (v :: .ref a :: rest)) := by
  obtain ⟨T', h', X', e', W', st⟩ := putF X hx hZ hown (host := "") (Or.inl w) Via.refl e0 F E L wi hty hn hf (g := mkF m pc Ls (v :: .ref a :: rest)) rfl rfl hd
  exact own_st st (k T' h' X' e' W' (Fr.snoc X' N ga))
theorem own_new (X : Stand p l e R s m args below meth c T locs cells slots) (hx : p.tables.exec = Jvm.exec) (hZ : Z.Warmed39 s.vm) (e0 : T.heap = h) {own C : String} {index n : Nat} (hown : s.vm.findClass own = some m.cls) (w : (Jvm.Cond.classLink own index C).before a0 Z = true) (wi : (Jvm.Cond.instantiable C n).before a0 Z = true) (wz : (Jvm.Cond.initialized C).before a0 Z = true)
    (hd : decode c.code pc = .ok (.new index, 3)) (hc : cells + 1 ≤ R.cells) (hl : slots + n ≤ R.slots)
    (k : ∀ (T' : State) (h' : Heap) (a : Addr), Stand p l e R s m args below meth c T' locs (cells + 1) (slots + n) → T'.heap = h' → Ext h h' → h.size = a → Exa Z h' a C → (∀ {O nm d : String} {ty : FieldType}, Laid Z a0 C O nm d → parseFieldDescriptor d = some ty → Fld Z h' a O nm d (defaultValue ty)) → own_Go p e below P T' (mkF m (pc + 3) Ls (.ref a :: rest))) :
    own_Go p e below P T (mkF m pc Ls rest) := by
  obtain ⟨T', h', X', e', E', A', D', -, st⟩ := newO X hx hZ hown w wi wz e0 (g := mkF m pc Ls rest) rfl hd hc hl
  exact own_st st (k T' h' h.size X' e' E' rfl A' D')
theorem own_inst (X : Stand p l e R s m args below meth c T locs cells slots) (hx : p.tables.exec = Jvm.exec) (hZ : Z.Warmed39 s.vm) (e0 : T.heap = h) {own K : String} {index : Nat} (hown : s.vm.findClass own = some m.cls) (w : (Jvm.Cond.classLink own index K).before a0 Z = true) (F : Ins Z h a K true) (hd : decode c.code pc = .ok (.instanceof index, 3))
    (k : ∀ T' : State, Stand p l e R s m args below meth c T' locs cells slots → T'.heap = h → own_Go p e below P T' (mkF m (pc + 3) Ls (.int 1 :: rest))) : own_Go p e below P T (mkF m pc Ls (.ref a :: rest)) := by
  obtain ⟨T', X', e', st⟩ := instY X hx hZ hown w e0 F (g := mkF m pc Ls (.ref a :: rest)) rfl rfl hd
  exact own_st st (k T' X' e')
theorem own_cast (X : Stand p l e R s m args below meth c T locs cells slots) (hx : p.tables.exec = Jvm.exec) (hZ : Z.Warmed39 s.vm) (e0 : T.heap = h) {own K : String} {index : Nat} (hown : s.vm.findClass own = some m.cls) (w : (Jvm.Cond.classLink own index K).before a0 Z = true) (F : Ins Z h a K true) (hd : decode c.code pc = .ok (.checkcast index, 3))
    (k : ∀ T' : State, Stand p l e R s m args below meth c T' locs cells slots → T'.heap = h → own_Go p e below P T' (mkF m (pc + 3) Ls (.ref a :: rest))) : own_Go p e below P T (mkF m pc Ls (.ref a :: rest)) := by
  obtain ⟨T', X', e', st⟩ := castY X hx hZ hown w e0 F (g := mkF m pc Ls (.ref a :: rest)) rfl rfl hd
  exact own_st st (k T' X' e')
/-- an array of n places; place j holds f j -/
def own_A (Z : State) (h : Heap) (a : Addr) (ty : FieldType) (n : Nat) (f : Nat → Value) : Prop := ∃ c : Cell, Arr Z h a c ty ∧ c.slots.size = n ∧ ∀ j, j < n → c.slots[j]? = some (f j)
def own_upd {α : Type} (f : Nat → α) (i : Nat) (x : α) : Nat → α := fun j => if j = i then x else f j
/-- the int j names the place i of n -/
abbrev own_ix (j : Int32) (i n : Nat) : Prop := ¬ j < 0 ∧ j.toNatClampNeg = i ∧ i < n
variable {ty : FieldType} {n : Nat} {f : Nat → Value} {ws : List Addr}
theorem own_A.lt (A : own_A Z h a ty n f) : a < h.size := by obtain ⟨c, A, -⟩ := A; exact A.lt
theorem own_A.ext (A : own_A Z h a ty n f) (E : Ext h h') : own_A Z h' a ty n f := by obtain ⟨c, A, r⟩ := A; exact ⟨c, A.ext E, r⟩
theorem own_A.keep (A : own_A Z h a ty n f) (K : Keep h h' ws) (q : a ∉ ws) : own_A Z h' a ty n f := by obtain ⟨c, A, r⟩ := A; exact ⟨c, ⟨K.2.1 a c A.1 q, A.2⟩, r⟩
theorem own_A.congr {f' : Nat → Value} (A : own_A Z h a ty n f) (q : ∀ j, j < n → f j = f' j) : own_A Z h a ty n f' := by obtain ⟨c, A, r, k⟩ := A; exact ⟨c, A, r, fun j hj => by rw [← q j hj]; exact k j hj⟩
theorem own_A.set {i : Nat} {v : Value} (A : own_A Z h a ty n f) (W : Wr h h' a i v) : own_A Z h' a ty n (own_upd f i v) := by
  obtain ⟨c, A, S, H⟩ := A
  refine ⟨_, A.same W, by rw [sz_set]; exact S, fun j hj => ?_⟩
  by_cases q : j = i
  · subst q
    have : j < c.slots.size := by rw [S]; exact hj
    simp [Cell.setSlot, own_upd, this]
  · have q' : i ≠ j := fun z => q z.symm
    simp only [Cell.setSlot, own_upd, if_neg q]
    rw [Array.getElem?_setIfInBounds_ne q']
    exact H j hj
theorem own_ix.inb {j : Int32} {i : Nat} {cl : Cell} (x : own_ix j i n) (S : cl.slots.size = n) : ¬ (j < 0 ∨ cl.slots.size ≤ j.toNatClampNeg) := by
  obtain ⟨x1, x2, x3⟩ := x
  rw [S, x2]
  exact fun q => q.elim x1 (fun q => absurd q (Nat.not_le.mpr x3))
theorem own_alen (X : Stand p l e R s m args below meth c T locs cells slots) (hx : p.tables.exec = Jvm.exec) (hZ : Z.Warmed39 s.vm) (e0 : T.heap = h) (A : own_A Z h a ty n f) {z : Int32} (hz : n.toInt32 = z) (hd : decode c.code pc = .ok (.arraylength, 1))
    (k : own_Go p e below P T (mkF m (pc + 1) Ls (.int z :: rest))) : own_Go p e below P T (mkF m pc Ls (.ref a :: rest)) := by
  obtain ⟨cl, A, S, H⟩ := A
  subst S hz
  exact own_st (fun t q => X.arraylength hx (cell := cl) (by rw [e0]; exact A.1) (State.isArrayOf_alike hZ.alike A.2.1) (g := mkF m pc Ls (.ref a :: rest)) rfl rfl hd t q) k
abbrev own_IA (Z : State) (h : Heap) (a : Addr) (n : Nat) (g : Nat → Int32) : Prop := own_A Z h a .int n (fun j => .int (g j))
abbrev own_BA (Z : State) (h : Heap) (a : Addr) (n : Nat) (g : Nat → Int32) : Prop := own_A Z h a .byte n (fun j => .int (g j))
abbrev own_JA (Z : State) (h : Heap) (a : Addr) (n : Nat) (g : Nat → Int64) : Prop := own_A Z h a .long n (fun j => .long (g j))
theorem own_updI (g : Nat → Int32) (i : Nat) (x : Int32) : own_upd (fun j => Value.int (g j)) i (.int x) = fun j => Value.int (own_upd g i x j) := funext fun j => by unfold own_upd; split <;> rfl
theorem own_updJ (g : Nat → Int64) (i : Nat) (x : Int64) : own_upd (fun j => Value.long (g j)) i (.long x) = fun j => Value.long (own_upd g i x j) := funext fun j => by unfold own_upd; split <;> rfl
theorem own_ldI (X : Stand p l e R s m args below meth c T locs cells slots) (hx : p.tables.exec = Jvm.exec) (hZ : Z.Warmed39 s.vm) (e0 : T.heap = h) {g : Nat → Int32} (A : own_IA Z h a n g) {j : Int32} {i : Nat} (ix : own_ix j i n) {x : Int32} (hv : g i = x) (hd : decode c.code pc = .ok (.iaload, 1))
    (k : own_Go p e below P T (mkF m (pc + 1) Ls (.int x :: rest))) : own_Go p e below P T (mkF m pc Ls (.int j :: .ref a :: rest)) := by
  obtain ⟨cl, A, S, H⟩ := A
  subst hv
  exact own_st (fun t q => X.iaload hx (j := j) (v := .int (g i)) (by rw [e0]; exact A.1) (State.isArrayOf_alike hZ.alike A.2.1) A.2.2 (ix.inb S) (by rw [ix.2.1]; exact H i ix.2.2) (g := mkF m pc Ls (.int j :: .ref a :: rest)) rfl rfl hd t q) k
theorem own_ldB (X : Stand p l e R s m args below meth c T locs cells slots) (hx : p.tables.exec = Jvm.exec) (hZ : Z.Warmed39 s.vm) (e0 : T.heap = h) {g : Nat → Int32} (A : own_BA Z h a n g) {j : Int32} {i : Nat} (ix : own_ix j i n) {x : Int32} (hv : g i = x) (hd : decode c.code pc = .ok (.baload, 1))
    (k : own_Go p e below P T (mkF m (pc + 1) Ls (.int x :: rest))) : own_Go p e below P T (mkF m pc Ls (.int j :: .ref a :: rest)) := by
  obtain ⟨cl, A, S, H⟩ := A
  subst hv
  exact own_st (fun t q => X.baloadBytes hx (j := j) (v := .int (g i)) (by rw [e0]; exact A.1) (State.isArrayOf_alike hZ.alike A.2.1) A.2.2 (ix.inb S) (by rw [ix.2.1]; exact H i ix.2.2) (g := mkF m pc Ls (.int j :: .ref a :: rest)) rfl rfl hd t q) k
theorem own_ldJ (X : Stand p l e R s m args below meth c T locs cells slots) (hx : p.tables.exec = Jvm.exec) (hZ : Z.Warmed39 s.vm) (e0 : T.heap = h) {g : Nat → Int64} (A : own_JA Z h a n g) {j : Int32} {i : Nat} (ix : own_ix j i n) {x : Int64} (hv : g i = x) (hd : decode c.code pc = .ok (.laload, 1))
    (k : own_Go p e below P T (mkF m (pc + 1) Ls (.long x :: rest))) : own_Go p e below P T (mkF m pc Ls (.int j :: .ref a :: rest)) := by
  obtain ⟨cl, A, S, H⟩ := A
  subst hv
  exact own_st (fun t q => X.laload hx (j := j) (v := .long (g i)) (by rw [e0]; exact A.1) (State.isArrayOf_alike hZ.alike A.2.1) A.2.2 (ix.inb S) (by rw [ix.2.1]; exact H i ix.2.2) (g := mkF m pc Ls (.int j :: .ref a :: rest)) rfl rfl hd t q) k
theorem own_stI (X : Stand p l e R s m args below meth c T locs cells slots) (hx : p.tables.exec = Jvm.exec) (hZ : Z.Warmed39 s.vm) (e0 : T.heap = h) {g : Nat → Int32} (A : own_IA Z h a n g) {j : Int32} {x : Int32} {i : Nat} (ix : own_ix j i n) (N : Fr n0 locs) (ga : n0 ≤ a) (hd : decode c.code pc = .ok (.iastore, 1))
    (k : ∀ (T' : State) (h' : Heap), Stand p l e R s m args below meth c T' (locs ++ [⟨a, j.toNatClampNeg⟩]) cells slots → T'.heap = h' → own_IA Z h' a n (own_upd g i x) → Keep h h' [a] → Fr n0 (locs ++ [⟨a, j.toNatClampNeg⟩]) → own_Go p e below P T' (mkF m (pc + 1) Ls rest)) :
    own_Go p e below P T (mkF m pc Ls (.int x :: .int j :: .ref a :: rest)) := by
  obtain ⟨cl, A1, S, H⟩ := A
  obtain ⟨T', h', X', e', W', st⟩ := stI X hx hZ e0 A1 (j := j) (x := x) (ix.inb S) (g := mkF m pc Ls (.int x :: .int j :: .ref a :: rest)) rfl rfl hd
  have V := own_A.set ⟨cl, A1, S, H⟩ W'
  rw [ix.2.1] at V
  have V' : own_IA Z h' a n (own_upd g i x) := by rw [own_IA, ← own_updI]; exact V
  exact own_st st (k T' h' X' e' V' (Keep.of_wr W') (Fr.snoc X' N ga))
theorem own_stB (X : Stand p l e R s m args below meth c T locs cells slots) (hx : p.tables.exec = Jvm.exec) (hZ : Z.Warmed39 s.vm) (e0 : T.heap = h) {g : Nat → Int32} (A : own_BA Z h a n g) {j : Int32} {x : Int32} {i : Nat} (ix : own_ix j i n) (N : Fr n0 locs) (ga : n0 ≤ a) (hd : decode c.code pc = .ok (.bastore, 1))
    (k : ∀ (T' : State) (h' : Heap), Stand p l e R s m args below meth c T' (locs ++ [⟨a, j.toNatClampNeg⟩]) cells slots → T'.heap = h' → own_BA Z h' a n (own_upd g i x.toInt8.toInt32) → Keep h h' [a] → Fr n0 (locs ++ [⟨a, j.toNatClampNeg⟩]) → own_Go p e below P T' (mkF m (pc + 1) Ls rest)) :
    own_Go p e below P T (mkF m pc Ls (.int x :: .int j :: .ref a :: rest)) := by
  obtain ⟨cl, A1, S, H⟩ := A
  obtain ⟨T', h', X', e', W', st⟩ := stB X hx hZ e0 A1 (j := j) (x := x) (ix.inb S) (g := mkF m pc Ls (.int x :: .int j :: .ref a :: rest)) rfl rfl hd
  have V := own_A.set ⟨cl, A1, S, H⟩ W'
  rw [ix.2.1] at V
  have V' : own_BA Z h' a n (own_upd g i x.toInt8.toInt32) := by rw [own_BA, ← own_updI]; exact V
  exact own_st st (k T' h' X' e' V' (Keep.of_wr W') (Fr.snoc X' N ga))
theorem own_stJ (X : Stand p l e R s m args below meth c T locs cells slots) (hx : p.tables.exec = Jvm.exec) (hZ : Z.Warmed39 s.vm) (e0 : T.heap = h) {g : Nat → Int64} (A : own_JA Z h a n g) {j : Int32} {x : Int64} {i : Nat} (ix : own_ix j i n) (N : Fr n0 locs) (ga : n0 ≤ a) (hd : decode c.code pc = .ok (.lastore, 1))
    (k : ∀ (T' : State) (h' : Heap), Stand p l e R s m args below meth c T' (locs ++ [⟨a, j.toNatClampNeg⟩]) cells slots → T'.heap = h' → own_JA Z h' a n (own_upd g i x) → Keep h h' [a] → Fr n0 (locs ++ [⟨a, j.toNatClampNeg⟩]) → own_Go p e below P T' (mkF m (pc + 1) Ls rest)) :
    own_Go p e below P T (mkF m pc Ls (.long x :: .int j :: .ref a :: rest)) := by
  obtain ⟨cl, A1, S, H⟩ := A
  obtain ⟨T', h', X', e', W', st⟩ := stJ X hx hZ e0 A1 (j := j) (x := x) (ix.inb S) (g := mkF m pc Ls (.long x :: .int j :: .ref a :: rest)) rfl rfl hd
  have V := own_A.set ⟨cl, A1, S, H⟩ W'
  rw [ix.2.1] at V
  have V' : own_JA Z h' a n (own_upd g i x) := by rw [own_JA, ← own_updJ]; exact V
  exact own_st st (k T' h' X' e' V' (Keep.of_wr W') (Fr.snoc X' N ga))
theorem own_newP (X : Stand p l e R s m args below meth c T locs cells slots) (hx : p.tables.exec = Jvm.exec) (hZ : Z.Warmed39 s.vm) (e0 : T.heap = h) {aty : ArrayType} (w : (Jvm.Cond.arrayClass (newarray.typeOf aty)).before a0 Z = true) (hd : decode c.code pc = .ok (.newarray aty, 2)) {z : Int32} (hz0 : ¬ z < 0) (n : Nat) (hz : z.toNatClampNeg = n) (hb : n * 8 ≤ 536870912) (hc : cells + 1 ≤ R.cells) (hl : slots + n ≤ R.slots)
    (k : ∀ (T' : State) (h' : Heap) (a : Addr), Stand p l e R s m args below meth c T' locs (cells + 1) (slots + n) → T'.heap = h' → Ext h h' → h.size = a → own_A Z h' a (newarray.typeOf aty) n (fun _ => defaultValue (newarray.typeOf aty)) → own_Go p e below P T' (mkF m (pc + 2) Ls (.ref a :: rest))) :
    own_Go p e below P T (mkF m pc Ls (.int z :: rest)) := by
  obtain ⟨T', h', cA, X', e', E', A', st⟩ := newP X hx hZ w e0 (g := mkF m pc Ls (.int z :: rest)) rfl hd rfl hz0 (cap := n) (Nat.le_of_eq hz) hb hc hl
  refine own_st st (k T' h' h.size X' e' E' rfl ⟨_, A', by rw [sz_new]; exact hz, fun j hj => ?_⟩)
  simp [newA, hz, hj]
theorem own_retI (X : Stand p l e R s m args below meth c T locs cells slots) (hx : p.tables.exec = Jvm.exec) (hlk : meth.locks = false) (hret : meth.sig.returnType = some .int) (hc : cells ≤ R.cells) (hs : slots ≤ R.slots) {z : Int32} (hd : decode c.code pc = .ok (.ireturn, 1)) (hQ : Q (some (.int z)) T.heap locs) : own_Go p e below (own_P s R Q) T (mkF m pc Ls (.int z :: rest)) :=
  own_end X hlk (fun q => by rw [hret] at q; cases q) hc hs hQ (fun fs hr => retOut X hx hret rfl (Or.inl ⟨rfl, Or.inl rfl, z, rfl⟩) hd hr)
theorem own_retZ (X : Stand p l e R s m args below meth c T locs cells slots) (hx : p.tables.exec = Jvm.exec) (hlk : meth.locks = false) (hret : meth.sig.returnType = some .boolean) (hc : cells ≤ R.cells) (hs : slots ≤ R.slots) {z : Int32} (hz : z = 1 ∨ z = 0) (hd : decode c.code pc = .ok (.ireturn, 1)) (hQ : Q (some (.int z)) T.heap locs) : own_Go p e below (own_P s R Q) T (mkF m pc Ls (.int z :: rest)) :=
  own_end X hlk (fun q => by rw [hret] at q; cases q) hc hs hQ (fun fs hr => retOut X hx hret (by rcases hz with rfl | rfl <;> rfl) (Or.inl ⟨rfl, Or.inr (Or.inl rfl), z, rfl⟩) hd hr)
theorem own_retJ (X : Stand p l e R s m args below meth c T locs cells slots) (hx : p.tables.exec = Jvm.exec) (hlk : meth.locks = false) (hret : meth.sig.returnType = some .long) (hc : cells ≤ R.cells) (hs : slots ≤ R.slots) {z : Int64} (hd : decode c.code pc = .ok (.lreturn, 1)) (hQ : Q (some (.long z)) T.heap locs) : own_Go p e below (own_P s R Q) T (mkF m pc Ls (.long z :: rest)) :=
  own_end X hlk (fun q => by rw [hret] at q; cases q) hc hs hQ (fun fs hr => retOut X hx hret rfl (Or.inr (Or.inl ⟨rfl, rfl, z, rfl⟩)) hd hr)
theorem own_retV (X : Stand p l e R s m args below meth c T locs cells slots) (hx : p.tables.exec = Jvm.exec) (hlk : meth.locks = false) (hret : meth.sig.returnType = none) (hc : cells ≤ R.cells) (hs : slots ≤ R.slots) (hd : decode c.code pc = .ok (.return_, 1)) (hQ : Q none T.heap locs) : own_Go p e below (own_P s R Q) T (mkF m pc Ls []) :=
  own_end X hlk (fun _ => rfl) hc hs hQ (fun fs hr => X.returnOut hx hret hd hr)
end OwnBase

def own_ex (i s0 s1 v0 v1 o : Int32) : Int32 := if i = s1 then v1 else if i = s0 then v0 else o
def own_v (r a c : Int32) : Int32 := if r = (0 : Int32) then a else c
theorem own_and3 (x : Int32) : (x &&& (3 : Int32)) = 0 ∨ (x &&& (3 : Int32)) = 1 ∨ (x &&& (3 : Int32)) = 2 ∨ (x &&& (3 : Int32)) = 3 := by
  have h := Jvm.Kit.i32_mask x (3 : Int32) (k := 2) (by decide) (by decide)
  have h1 : (x &&& (3 : Int32)).toInt = 0 ∨ (x &&& (3 : Int32)).toInt = 1 ∨ (x &&& (3 : Int32)).toInt = 2 ∨ (x &&& (3 : Int32)).toInt = 3 := by omega
  rcases h1 with q | q | q | q
  · exact Or.inl (Int32.toInt_inj.mp (q.trans (by decide)))
  · exact Or.inr (Or.inl (Int32.toInt_inj.mp (q.trans (by decide))))
  · exact Or.inr (Or.inr (Or.inl (Int32.toInt_inj.mp (q.trans (by decide)))))
  · exact Or.inr (Or.inr (Or.inr (Int32.toInt_inj.mp (q.trans (by decide)))))
theorem own_and1 (x : Int32) : (x &&& (1 : Int32)) = 0 ∨ (x &&& (1 : Int32)) = 1 := by
  have h := Jvm.Kit.i32_mask x (1 : Int32) (k := 1) (by decide) (by decide)
  have h1 : (x &&& (1 : Int32)).toInt = 0 ∨ (x &&& (1 : Int32)).toInt = 1 := by omega
  rcases h1 with q | q
  · exact Or.inl (Int32.toInt_inj.mp (q.trans (by decide)))
  · exact Or.inr (Int32.toInt_inj.mp (q.trans (by decide)))
theorem own_ix4 {s : Int32} (h : s = 0 ∨ s = 1 ∨ s = 2 ∨ s = 3) : own_ix s s.toNatClampNeg 4 := by
  rcases h with rfl | rfl | rfl | rfl <;> decide
theorem own_ixr {r : Int32} (h : r = 0 ∨ r = 1) : own_ix ((r * (2 : Int32)) + (0 : Int32)) ((r * (2 : Int32)) + (0 : Int32)).toNatClampNeg 16 ∧ own_ix ((r * (2 : Int32)) + ((0 : Int32) + (1 : Int32))) ((r * (2 : Int32)) + ((0 : Int32) + (1 : Int32))).toNatClampNeg 16 := by
  rcases h with rfl | rfl <;> decide
/-- the table's cells behind the two rows -/
def own_cells (a b c d : Int32) : Nat → Int32 := own_upd (own_upd (own_upd (own_upd (fun _ => (0 : Int32)) 0 a) 1 b) 2 c) 3 d
/-- the plain law: what load leaves in the target -/
theorem own_plain (a b c d o0 o1 o2 o3 : Int32) {s0 s1 r : Int32} (h0 : s0 = 0 ∨ s0 = 1 ∨ s0 = 2 ∨ s0 = 3) (h1 : s1 = 0 ∨ s1 = 1 ∨ s1 = 2 ∨ s1 = 3) (hr : r = 0 ∨ r = 1) (g : Nat → Int32) (g0 : g 0 = o0) (g1 : g 1 = o1) (g2 : g 2 = o2) (g3 : g 3 = o3) :
    let G := own_upd (own_upd g s0.toNatClampNeg (own_cells a b c d ((r * (2 : Int32)) + (0 : Int32)).toNatClampNeg)) s1.toNatClampNeg (own_cells a b c d ((r * (2 : Int32)) + ((0 : Int32) + (1 : Int32))).toNatClampNeg)
    G 0 = own_ex 0 s0 s1 (own_v r a c) (own_v r b d) o0 ∧ G 1 = own_ex 1 s0 s1 (own_v r a c) (own_v r b d) o1 ∧ G 2 = own_ex 2 s0 s1 (own_v r a c) (own_v r b d) o2 ∧ G 3 = own_ex 3 s0 s1 (own_v r a c) (own_v r b d) o3 := by
  subst g0 g1 g2 g3
  rcases hr with rfl | rfl <;> rcases h0 with rfl | rfl | rfl | rfl <;> rcases h1 with rfl | rfl | rfl | rfl <;> exact ⟨rfl, rfl, rfl, rfl⟩

theorem d1_0 : decode prog_32_method_1_code 0 = .ok (.aload_n 0, 1) := by decide +kernel
theorem d1_1 : decode prog_32_method_1_code 1 = .ok (.invokespecial 3, 3) := by decide +kernel
theorem d1_4 : decode prog_32_method_1_code 4 = .ok (.aload_n 0, 1) := by decide +kernel
theorem d1_5 : decode prog_32_method_1_code 5 = .ok (.iload_n 1, 1) := by decide +kernel
theorem d1_6 : decode prog_32_method_1_code 6 = .ok (.putfield 9, 3) := by decide +kernel
theorem d1_9 : decode prog_32_method_1_code 9 = .ok (.aload_n 0, 1) := by decide +kernel
theorem d1_10 : decode prog_32_method_1_code 10 = .ok (.iload_n 1, 1) := by decide +kernel
theorem d1_11 : decode prog_32_method_1_code 11 = .ok (.bipush 8, 2) := by decide +kernel
theorem d1_13 : decode prog_32_method_1_code 13 = .ok (.imul, 1) := by decide +kernel
theorem d1_14 : decode prog_32_method_1_code 14 = .ok (.newarray .int, 2) := by decide +kernel
theorem d1_16 : decode prog_32_method_1_code 16 = .ok (.putfield 15, 3) := by decide +kernel
theorem d1_19 : decode prog_32_method_1_code 19 = .ok (.return_, 1) := by decide +kernel
theorem pn_1 : plainName "com/example/saturate/saturate/engine/Table" = true := by first | (simp [plainName, overriddenIn]; done) | decide +kernel
theorem pd_1 : parseMethodDescriptor "(I)V" = some ⟨[.int], none⟩ := by decide +kernel

theorem d3_0 : decode prog_32_method_5_code 0 = .ok (.aload_n 0, 1) := by decide +kernel
theorem d3_1 : decode prog_32_method_5_code 1 = .ok (.getfield 19, 3) := by decide +kernel
theorem d3_4 : decode prog_32_method_5_code 4 = .ok (.aload_n 0, 1) := by decide +kernel
theorem d3_5 : decode prog_32_method_5_code 5 = .ok (.getfield 9, 3) := by decide +kernel
theorem d3_8 : decode prog_32_method_5_code 8 = .ok (.imul, 1) := by decide +kernel
theorem d3_9 : decode prog_32_method_5_code 9 = .ok (.istore_n 3, 1) := by decide +kernel
theorem d3_10 : decode prog_32_method_5_code 10 = .ok (.iload_n 3, 1) := by decide +kernel
theorem d3_11 : decode prog_32_method_5_code 11 = .ok (.aload_n 0, 1) := by decide +kernel
theorem d3_12 : decode prog_32_method_5_code 12 = .ok (.getfield 15, 3) := by decide +kernel
theorem d3_15 : decode prog_32_method_5_code 15 = .ok (.arraylength, 1) := by decide +kernel
theorem d3_16 : decode prog_32_method_5_code 16 = .ok (.aload_n 0, 1) := by decide +kernel
theorem d3_17 : decode prog_32_method_5_code 17 = .ok (.getfield 9, 3) := by decide +kernel
theorem d3_20 : decode prog_32_method_5_code 20 = .ok (.isub, 1) := by decide +kernel
theorem d3_21 : decode prog_32_method_5_code 21 = .ok (.if_icmp .le 64, 3) := by decide +kernel
theorem d3_24 : decode prog_32_method_5_code 24 = .ok (.aload_n 0, 1) := by decide +kernel
theorem d3_25 : decode prog_32_method_5_code 25 = .ok (.getfield 15, 3) := by decide +kernel
theorem d3_28 : decode prog_32_method_5_code 28 = .ok (.arraylength, 1) := by decide +kernel
theorem d3_29 : decode prog_32_method_5_code 29 = .ok (.ldc 22, 2) := by decide +kernel
theorem d3_31 : decode prog_32_method_5_code 31 = .ok (.if_icmp .lt 20, 3) := by decide +kernel
theorem d3_34 : decode prog_32_method_5_code 34 = .ok (.new 23, 3) := by decide +kernel
theorem d3_37 : decode prog_32_method_5_code 37 = .ok (.dup, 1) := by decide +kernel
theorem d3_38 : decode prog_32_method_5_code 38 = .ok (.aload_n 0, 1) := by decide +kernel
theorem d3_39 : decode prog_32_method_5_code 39 = .ok (.getfield 19, 3) := by decide +kernel
theorem d3_42 : decode prog_32_method_5_code 42 = .ok (.invokedynamic 25, 5) := by decide +kernel
theorem d3_47 : decode prog_32_method_5_code 47 = .ok (.invokespecial 29, 3) := by decide +kernel
theorem d3_50 : decode prog_32_method_5_code 50 = .ok (.athrow, 1) := by decide +kernel
theorem d3_51 : decode prog_32_method_5_code 51 = .ok (.aload_n 0, 1) := by decide +kernel
theorem d3_52 : decode prog_32_method_5_code 52 = .ok (.aload_n 0, 1) := by decide +kernel
theorem d3_53 : decode prog_32_method_5_code 53 = .ok (.getfield 15, 3) := by decide +kernel
theorem d3_56 : decode prog_32_method_5_code 56 = .ok (.ldc2_w 32, 3) := by decide +kernel
theorem d3_59 : decode prog_32_method_5_code 59 = .ok (.aload_n 0, 1) := by decide +kernel
theorem d3_60 : decode prog_32_method_5_code 60 = .ok (.getfield 15, 3) := by decide +kernel
theorem d3_63 : decode prog_32_method_5_code 63 = .ok (.arraylength, 1) := by decide +kernel
theorem d3_64 : decode prog_32_method_5_code 64 = .ok (.i2l, 1) := by decide +kernel
theorem d3_65 : decode prog_32_method_5_code 65 = .ok (.lmul, 1) := by decide +kernel
theorem d3_66 : decode prog_32_method_5_code 66 = .ok (.aload_n 0, 1) := by decide +kernel
theorem d3_67 : decode prog_32_method_5_code 67 = .ok (.getfield 9, 3) := by decide +kernel
theorem d3_70 : decode prog_32_method_5_code 70 = .ok (.i2l, 1) := by decide +kernel
theorem d3_71 : decode prog_32_method_5_code 71 = .ok (.ladd, 1) := by decide +kernel
theorem d3_72 : decode prog_32_method_5_code 72 = .ok (.ldc2_w 34, 3) := by decide +kernel
theorem d3_75 : decode prog_32_method_5_code 75 = .ok (.invokestatic 36, 3) := by decide +kernel
theorem d3_78 : decode prog_32_method_5_code 78 = .ok (.l2i, 1) := by decide +kernel
theorem d3_79 : decode prog_32_method_5_code 79 = .ok (.invokestatic 42, 3) := by decide +kernel
theorem d3_82 : decode prog_32_method_5_code 82 = .ok (.putfield 15, 3) := by decide +kernel
theorem d3_85 : decode prog_32_method_5_code 85 = .ok (.iconst 0, 1) := by decide +kernel
theorem d3_86 : decode prog_32_method_5_code 86 = .ok (.istore 4, 2) := by decide +kernel
theorem d3_88 : decode prog_32_method_5_code 88 = .ok (.iload 4, 2) := by decide +kernel
theorem d3_90 : decode prog_32_method_5_code 90 = .ok (.aload_n 0, 1) := by decide +kernel
theorem d3_91 : decode prog_32_method_5_code 91 = .ok (.getfield 9, 3) := by decide +kernel
theorem d3_94 : decode prog_32_method_5_code 94 = .ok (.if_icmp .ge 24, 3) := by decide +kernel
theorem d3_97 : decode prog_32_method_5_code 97 = .ok (.aload_n 0, 1) := by decide +kernel
theorem d3_98 : decode prog_32_method_5_code 98 = .ok (.getfield 15, 3) := by decide +kernel
theorem d3_101 : decode prog_32_method_5_code 101 = .ok (.iload_n 3, 1) := by decide +kernel
theorem d3_102 : decode prog_32_method_5_code 102 = .ok (.iload 4, 2) := by decide +kernel
theorem d3_104 : decode prog_32_method_5_code 104 = .ok (.iadd, 1) := by decide +kernel
theorem d3_105 : decode prog_32_method_5_code 105 = .ok (.aload_n 1, 1) := by decide +kernel
theorem d3_106 : decode prog_32_method_5_code 106 = .ok (.aload_n 2, 1) := by decide +kernel
theorem d3_107 : decode prog_32_method_5_code 107 = .ok (.iload 4, 2) := by decide +kernel
theorem d3_109 : decode prog_32_method_5_code 109 = .ok (.iaload, 1) := by decide +kernel
theorem d3_110 : decode prog_32_method_5_code 110 = .ok (.iaload, 1) := by decide +kernel
theorem d3_111 : decode prog_32_method_5_code 111 = .ok (.iastore, 1) := by decide +kernel
theorem d3_112 : decode prog_32_method_5_code 112 = .ok (.iinc 4 1, 3) := by decide +kernel
theorem d3_115 : decode prog_32_method_5_code 115 = .ok (.goto (-27), 3) := by decide +kernel
theorem d3_118 : decode prog_32_method_5_code 118 = .ok (.aload_n 0, 1) := by decide +kernel
theorem d3_119 : decode prog_32_method_5_code 119 = .ok (.dup, 1) := by decide +kernel
theorem d3_120 : decode prog_32_method_5_code 120 = .ok (.getfield 19, 3) := by decide +kernel
theorem d3_123 : decode prog_32_method_5_code 123 = .ok (.dup_x1, 1) := by decide +kernel
theorem d3_124 : decode prog_32_method_5_code 124 = .ok (.iconst 1, 1) := by decide +kernel
theorem d3_125 : decode prog_32_method_5_code 125 = .ok (.iadd, 1) := by decide +kernel
theorem d3_126 : decode prog_32_method_5_code 126 = .ok (.putfield 19, 3) := by decide +kernel
theorem d3_129 : decode prog_32_method_5_code 129 = .ok (.ireturn, 1) := by decide +kernel
theorem pn_3 : plainName "com/example/saturate/saturate/engine/Table" = true := by first | (simp [plainName, overriddenIn]; done) | decide +kernel
theorem pd_3 : parseMethodDescriptor "([I[I)I" = some ⟨[(.array .int), (.array .int)], some .int⟩ := by decide +kernel

theorem d4_0 : decode prog_32_method_10_code 0 = .ok (.iload_n 1, 1) := by decide +kernel
theorem d4_1 : decode prog_32_method_10_code 1 = .ok (.aload_n 0, 1) := by decide +kernel
theorem d4_2 : decode prog_32_method_10_code 2 = .ok (.getfield 9, 3) := by decide +kernel
theorem d4_5 : decode prog_32_method_10_code 5 = .ok (.imul, 1) := by decide +kernel
theorem d4_6 : decode prog_32_method_10_code 6 = .ok (.istore 4, 2) := by decide +kernel
theorem d4_8 : decode prog_32_method_10_code 8 = .ok (.iconst 0, 1) := by decide +kernel
theorem d4_9 : decode prog_32_method_10_code 9 = .ok (.istore 5, 2) := by decide +kernel
theorem d4_11 : decode prog_32_method_10_code 11 = .ok (.iload 5, 2) := by decide +kernel
theorem d4_13 : decode prog_32_method_10_code 13 = .ok (.aload_n 0, 1) := by decide +kernel
theorem d4_14 : decode prog_32_method_10_code 14 = .ok (.getfield 9, 3) := by decide +kernel
theorem d4_17 : decode prog_32_method_10_code 17 = .ok (.if_icmp .ge 25, 3) := by decide +kernel
theorem d4_20 : decode prog_32_method_10_code 20 = .ok (.aload_n 3, 1) := by decide +kernel
theorem d4_21 : decode prog_32_method_10_code 21 = .ok (.aload_n 2, 1) := by decide +kernel
theorem d4_22 : decode prog_32_method_10_code 22 = .ok (.iload 5, 2) := by decide +kernel
theorem d4_24 : decode prog_32_method_10_code 24 = .ok (.iaload, 1) := by decide +kernel
theorem d4_25 : decode prog_32_method_10_code 25 = .ok (.aload_n 0, 1) := by decide +kernel
theorem d4_26 : decode prog_32_method_10_code 26 = .ok (.getfield 15, 3) := by decide +kernel
theorem d4_29 : decode prog_32_method_10_code 29 = .ok (.iload 4, 2) := by decide +kernel
theorem d4_31 : decode prog_32_method_10_code 31 = .ok (.iload 5, 2) := by decide +kernel
theorem d4_33 : decode prog_32_method_10_code 33 = .ok (.iadd, 1) := by decide +kernel
theorem d4_34 : decode prog_32_method_10_code 34 = .ok (.iaload, 1) := by decide +kernel
theorem d4_35 : decode prog_32_method_10_code 35 = .ok (.iastore, 1) := by decide +kernel
theorem d4_36 : decode prog_32_method_10_code 36 = .ok (.iinc 5 1, 3) := by decide +kernel
theorem d4_39 : decode prog_32_method_10_code 39 = .ok (.goto (-28), 3) := by decide +kernel
theorem d4_42 : decode prog_32_method_10_code 42 = .ok (.return_, 1) := by decide +kernel
theorem pn_4 : plainName "com/example/saturate/saturate/engine/Table" = true := by first | (simp [plainName, overriddenIn]; done) | decide +kernel
theorem pd_4 : parseMethodDescriptor "(I[I[I)V" = some ⟨[.int, (.array .int), (.array .int)], none⟩ := by decide +kernel

theorem d5_0 : decode method_3_code 0 = .ok (.iload_n 0, 1) := by decide +kernel
theorem d5_1 : decode method_3_code 1 = .ok (.iload_n 2, 1) := by decide +kernel
theorem d5_2 : decode method_3_code 2 = .ok (.if_icmp .ne 6, 3) := by decide +kernel
theorem d5_5 : decode method_3_code 5 = .ok (.iload 4, 2) := by decide +kernel
theorem d5_7 : decode method_3_code 7 = .ok (.ireturn, 1) := by decide +kernel
theorem d5_8 : decode method_3_code 8 = .ok (.iload_n 0, 1) := by decide +kernel
theorem d5_9 : decode method_3_code 9 = .ok (.iload_n 1, 1) := by decide +kernel
theorem d5_10 : decode method_3_code 10 = .ok (.if_icmp .ne 5, 3) := by decide +kernel
theorem d5_13 : decode method_3_code 13 = .ok (.iload_n 3, 1) := by decide +kernel
theorem d5_14 : decode method_3_code 14 = .ok (.ireturn, 1) := by decide +kernel
theorem d5_15 : decode method_3_code 15 = .ok (.iload 5, 2) := by decide +kernel
theorem d5_17 : decode method_3_code 17 = .ok (.ireturn, 1) := by decide +kernel
theorem pn_5 : plainName "com/example/saturate/saturate/engine/TableLoadPinLaw" = true := by first | (simp [plainName, overriddenIn]; done) | decide +kernel
theorem pd_5 : parseMethodDescriptor "(IIIIII)I" = some ⟨[.int, .int, .int, .int, .int, .int], some .int⟩ := by decide +kernel

theorem pn_0 : plainName "com/example/saturate/saturate/engine/TableLoadPinLaw" = true := by first | (simp [plainName, overriddenIn]; done) | decide +kernel
theorem pd_0 : parseMethodDescriptor "(IIIIII)Z" = some ⟨[.int, .int, .int, .int, .int, .int], some .boolean⟩ := by decide +kernel

theorem ef_1 (m : MethodId) (x0 : Addr) (x1 : Int32) : entryFrame m #[(.ref x0), (.int x1)] 2 = mkF m 0 #[.val (.ref x0), .val (.int x1)] [] := by first | (simp [entryFrame, mkF, argsToLocals, Value.category]; done) | rfl

theorem ef_3 (m : MethodId) (x0 : Addr) (x1 : Addr) (x2 : Addr) : entryFrame m #[(.ref x0), (.ref x1), (.ref x2)] 5 = mkF m 0 #[.val (.ref x0), .val (.ref x1), .val (.ref x2), .unset, .unset] [] := by first | (simp [entryFrame, mkF, argsToLocals, Value.category]; done) | rfl

theorem ef_4 (m : MethodId) (x0 : Addr) (x1 : Int32) (x2 : Addr) (x3 : Addr) : entryFrame m #[(.ref x0), (.int x1), (.ref x2), (.ref x3)] 6 = mkF m 0 #[.val (.ref x0), .val (.int x1), .val (.ref x2), .val (.ref x3), .unset, .unset] [] := by first | (simp [entryFrame, mkF, argsToLocals, Value.category]; done) | rfl

theorem ef_5 (m : MethodId) (x0 : Int32) (x1 : Int32) (x2 : Int32) (x3 : Int32) (x4 : Int32) (x5 : Int32) : entryFrame m #[(.int x0), (.int x1), (.int x2), (.int x3), (.int x4), (.int x5)] 6 = mkF m 0 #[.val (.int x0), .val (.int x1), .val (.int x2), .val (.int x3), .val (.int x4), .val (.int x5)] [] := by first | (simp [entryFrame, mkF, argsToLocals, Value.category]; done) | rfl

theorem ef_0 (m : MethodId) (x0 : Int32) (x1 : Int32) (x2 : Int32) (x3 : Int32) (x4 : Int32) (x5 : Int32) : entryFrame m #[(.int x0), (.int x1), (.int x2), (.int x3), (.int x4), (.int x5)] maxLocals = mkF m 0 #[.val (.int x0), .val (.int x1), .val (.int x2), .val (.int x3), .val (.int x4), .val (.int x5), .unset, .unset, .unset, .unset, .unset, .unset, .unset, .unset, .unset, .unset, .unset, .unset, .unset, .unset, .unset] [] := by first | (simp [entryFrame, mkF, argsToLocals, Value.category, maxLocals]; done) | rfl

set_option maxRecDepth 65536 in
set_option maxHeartbeats 40000000 in
theorem rm1 (l : Launch) (Z : State) (a0 : Array Value) (hw : ∀ d ∈ tables_1, d.before a0 Z = true) (a1 : Addr) (u1 u2 : Value) (h0 : Heap) (n0 : Nat) (Z0 : n0 ≤ h0.size) (ga_a1 : n0 ≤ a1) (E_a1 : Exa Z h0 a1 "com/example/saturate/saturate/engine/Table") (F_width_a1 : Fld Z h0 a1 "com/example/saturate/saturate/engine/Table" "width" "I" u1) (F_cells_a1 : Fld Z h0 a1 "com/example/saturate/saturate/engine/Table" "cells" "[I" u2) (F_size_a1 : Fld Z h0 a1 "com/example/saturate/saturate/engine/Table" "size" "I" (.int (0 : Int32))) :
    own_Met l Z h0 (⟨"com/example/saturate/saturate/engine/Table", "<init>", "(I)V"⟩ : MethodName) prog_32_method_1_code 2 none ({ frames := 1, cells := 1, slots := 16, locals := 14 } : Room) #[(.ref a1), (.int (2 : Int32))] (fun v h L => v = none ∧ Fr n0 L ∧ Keep h0 h [a1] ∧ Exa Z h a1 "com/example/saturate/saturate/engine/Table" ∧ ∃ b : Addr, h0.size ≤ b ∧ Fld Z h a1 "com/example/saturate/saturate/engine/Table" "width" "I" (.int (2 : Int32)) ∧ Fld Z h a1 "com/example/saturate/saturate/engine/Table" "cells" "[I" (.ref b) ∧ Fld Z h a1 "com/example/saturate/saturate/engine/Table" "size" "I" (.int (0 : Int32)) ∧ own_IA Z h b 16 (fun _ => (0 : Int32))) := by
  refine own_body pn_1 (fun m => ef_1 m a1 (2 : Int32)) ?_
  intro p e s m below meth c T X hx hby hml hret hlk hown hnm hZ e0
  have hown : s.vm.findClass "com/example/saturate/saturate/engine/Table" = some m.cls := hown
  have hml : c.maxLocals = 2 := hml
  have N0 : Fr n0 ([] : List Loc) := Fr.nil n0
  show own_Go p e below _ T (mkF m 0 #[.val (.ref a1), .val (.int (2 : Int32))] [])
  have K0 : Keep h0 h0 [a1] := Keep.refl _ _
  refine own_st (fun τ κ => XS.aloadN X.here hx rfl (hb hby d1_0) rfl rfl κ) ?_
  show own_Go p e below _ T (mkF m 1 #[.val (.ref a1), .val (.int (2 : Int32))] [(.ref a1)])
  refine own_initO X hx hZ e0 hown (hw _ (List.mem_of_getElem? (i := 6) rfl)) (hw _ (List.mem_of_getElem? (i := 7) rfl)) (hw _ (List.mem_of_getElem? (i := 8) rfl)) (by rw [hml]; rfl) (hb hby d1_1) (by decide) 0 (Nat.le_of_eq rfl) (by decide) ?_
  intro T1 X1 e1
  show own_Go p e below _ T1 (mkF m 4 #[.val (.ref a1), .val (.int (2 : Int32))] [])
  refine own_st (fun τ κ => XS.aloadN X1.here hx rfl (hb hby d1_4) rfl rfl κ) ?_
  show own_Go p e below _ T1 (mkF m 5 #[.val (.ref a1), .val (.int (2 : Int32))] [(.ref a1)])
  refine own_st (fun τ κ => XS.iloadN X1.here hx rfl (hb hby d1_5) rfl κ) ?_
  show own_Go p e below _ T1 (mkF m 6 #[.val (.ref a1), .val (.int (2 : Int32))] [(.int (2 : Int32)), (.ref a1)])
  refine own_putF X1 hx hZ e1 hown (hw _ (List.mem_of_getElem? (i := 9) rfl)) F_width_a1 E_a1 (Or.inr ⟨(hw _ (List.mem_of_getElem? (i := 10) rfl)), rfl, hnm⟩) (hw _ (List.mem_of_getElem? (i := 1) rfl)) (ty := .int) (by decide) rfl rfl N0 ga_a1 (hb hby d1_6) ?_
  intro T2 h2 X2 e2 W2 N2
  have E_a1 := E_a1.wr W2
  have F_width_a1 := F_width_a1.same W2
  have F_cells_a1 := F_cells_a1.other W2 (Or.inr (slot_ne (Or.inl (hw _ (List.mem_of_getElem? (i := 13) rfl))) (Or.inr (hw _ (List.mem_of_getElem? (i := 10) rfl))) (by decide) (t := (.array .int)) (t' := .int) (by decide) (by decide)))
  have F_size_a1 := F_size_a1.other W2 (Or.inr (slot_ne (Or.inl (hw _ (List.mem_of_getElem? (i := 20) rfl))) (Or.inr (hw _ (List.mem_of_getElem? (i := 10) rfl))) (by decide) (t := .int) (t' := .int) (by decide) (by decide)))
  have Z2 : n0 ≤ h2.size := Nat.le_trans Z0 (Keep.of_wr W2).1
  have K2 := K0.wr W2 (Or.inl (List.mem_of_getElem? (i := 0) rfl))
  show own_Go p e below _ T2 (mkF m 9 #[.val (.ref a1), .val (.int (2 : Int32))] [])
  refine own_st (fun τ κ => XS.aloadN X2.here hx rfl (hb hby d1_9) rfl rfl κ) ?_
  show own_Go p e below _ T2 (mkF m 10 #[.val (.ref a1), .val (.int (2 : Int32))] [(.ref a1)])
  refine own_st (fun τ κ => XS.iloadN X2.here hx rfl (hb hby d1_10) rfl κ) ?_
  show own_Go p e below _ T2 (mkF m 11 #[.val (.ref a1), .val (.int (2 : Int32))] [(.int (2 : Int32)), (.ref a1)])
  refine own_st (fun τ κ => XT.bipushV X2.here hx rfl (8) (hb hby d1_11) (by decide) κ) ?_
  show own_Go p e below _ T2 (mkF m 13 #[.val (.ref a1), .val (.int (2 : Int32))] [(.int (8 : Int32)), (.int (2 : Int32)), (.ref a1)])
  refine own_st (fun τ κ => XS.imul X2.here hx rfl (hb hby d1_13) rfl κ) ?_
  show own_Go p e below _ T2 (mkF m 14 #[.val (.ref a1), .val (.int (2 : Int32))] [(.int ((2 : Int32) * (8 : Int32))), (.ref a1)])
  have hs0 : h0.size ≤ h2.size := K2.1
  refine own_newP X2 hx hZ e2 (hw _ (List.mem_of_getElem? (i := 11) rfl)) (hb hby d1_14) (by decide) 16 (by decide) (by decide) (by decide) (by decide) ?_
  intro T3 h3 o3 X3 e3 E3 g3 A_o3
  have ne_a1_o3 : a1 ≠ o3 := Nat.ne_of_lt (Nat.lt_of_lt_of_eq E_a1.lt g3)
  have ga_o3 : n0 ≤ o3 := by omega
  have E_a1 := E_a1.ext E3
  have F_width_a1 := F_width_a1.ext E3
  have F_cells_a1 := F_cells_a1.ext E3
  have F_size_a1 := F_size_a1.ext E3
  have Z3 : n0 ≤ h3.size := Nat.le_trans Z2 E3.1
  have K3 := K2.ext E3
  have A_o3 : own_IA Z h3 o3 16 (fun _ => (0 : Int32)) := A_o3
  show own_Go p e below _ T3 (mkF m 16 #[.val (.ref a1), .val (.int (2 : Int32))] [(.ref o3), (.ref a1)])
  have gb : h0.size ≤ o3 := by omega
  refine own_putF X3 hx hZ e3 hown (hw _ (List.mem_of_getElem? (i := 12) rfl)) F_cells_a1 E_a1 (Or.inl (hw _ (List.mem_of_getElem? (i := 13) rfl))) (hw _ (List.mem_of_getElem? (i := 1) rfl)) (ty := (.array .int)) (by decide) rfl rfl N2 ga_a1 (hb hby d1_16) ?_
  intro T4 h4 X4 e4 W4 N4
  have E_a1 := E_a1.wr W4
  have F_width_a1 := F_width_a1.other W4 (Or.inr (slot_ne (Or.inr (hw _ (List.mem_of_getElem? (i := 10) rfl))) (Or.inl (hw _ (List.mem_of_getElem? (i := 13) rfl))) (by decide) (t := .int) (t' := (.array .int)) (by decide) (by decide)))
  have F_cells_a1 := F_cells_a1.same W4
  have F_size_a1 := F_size_a1.other W4 (Or.inr (slot_ne (Or.inl (hw _ (List.mem_of_getElem? (i := 20) rfl))) (Or.inl (hw _ (List.mem_of_getElem? (i := 13) rfl))) (by decide) (t := .int) (t' := (.array .int)) (by decide) (by decide)))
  have A_o3 := A_o3.keep (Keep.of_wr W4) (ninS (Ne.symm ne_a1_o3) nin0)
  have Z4 : n0 ≤ h4.size := Nat.le_trans Z3 (Keep.of_wr W4).1
  have K4 := K3.wr W4 (Or.inl (List.mem_of_getElem? (i := 0) rfl))
  show own_Go p e below _ T4 (mkF m 19 #[.val (.ref a1), .val (.int (2 : Int32))] [])
  refine own_retV X4 hx hlk hret (by decide) (by decide) (hb hby d1_19) ?_
  rw [e4]
  exact ⟨rfl, N4, K4, E_a1, o3, gb, F_width_a1, F_cells_a1, F_size_a1, A_o3⟩

set_option maxRecDepth 65536 in
set_option maxHeartbeats 40000000 in
theorem rma0 (l : Launch) (Z : State) (a0 : Array Value) (hw : ∀ d ∈ tables_1, d.before a0 Z = true) (a1 a2 a3 b1 : Addr) (gc gs gp : Nat → Int32) (i0 i1 : Nat) (hp0 : own_ix (gp 0) i0 4) (hp1 : own_ix (gp 1) i1 4) (h0 : Heap) (n0 : Nat) (Z0 : n0 ≤ h0.size) (ga_a1 : n0 ≤ a1) (ga_b1 : n0 ≤ b1) (ne_a1_b1 : a1 ≠ b1) (ne_a2_b1 : a2 ≠ b1) (ne_a3_b1 : a3 ≠ b1) (E_a1 : Exa Z h0 a1 "com/example/saturate/saturate/engine/Table") (F_width_a1 : Fld Z h0 a1 "com/example/saturate/saturate/engine/Table" "width" "I" (.int (2 : Int32))) (F_cells_a1 : Fld Z h0 a1 "com/example/saturate/saturate/engine/Table" "cells" "[I" (.ref b1)) (F_size_a1 : Fld Z h0 a1 "com/example/saturate/saturate/engine/Table" "size" "I" (.int (0 : Int32))) (A_b1 : own_IA Z h0 b1 16 gc) (A_a2 : own_IA Z h0 a2 4 gs) (A_a3 : own_IA Z h0 a3 2 gp) :
    own_Met l Z h0 (⟨"com/example/saturate/saturate/engine/Table", "add", "([I[I)I"⟩ : MethodName) prog_32_method_5_code 5 (some .int) ({ frames := 0, cells := 0, slots := 0, locals := 0 } : Room) #[(.ref a1), (.ref a2), (.ref a3)] (fun v h L => v = some (.int (0 : Int32)) ∧ Fr n0 L ∧ Keep h0 h [a1, b1] ∧ Exa Z h a1 "com/example/saturate/saturate/engine/Table" ∧ Fld Z h a1 "com/example/saturate/saturate/engine/Table" "width" "I" (.int (2 : Int32)) ∧ Fld Z h a1 "com/example/saturate/saturate/engine/Table" "cells" "[I" (.ref b1) ∧ Fld Z h a1 "com/example/saturate/saturate/engine/Table" "size" "I" (.int ((0 : Int32) + (1 : Int32))) ∧ own_IA Z h b1 16 (own_upd (own_upd gc 0 (gs i0)) 1 (gs i1))) := by
  refine own_body pn_3 (fun m => ef_3 m a1 a2 a3) ?_
  intro p e s m below meth c T X hx hby hml hret hlk hown hnm hZ e0
  have hown : s.vm.findClass "com/example/saturate/saturate/engine/Table" = some m.cls := hown
  have hml : c.maxLocals = 5 := hml
  have N0 : Fr n0 ([] : List Loc) := Fr.nil n0
  show own_Go p e below _ T (mkF m 0 #[.val (.ref a1), .val (.ref a2), .val (.ref a3), .unset, .unset] [])
  have K0 : Keep h0 h0 [a1, b1] := Keep.refl _ _
  refine own_st (fun τ κ => XS.aloadN X.here hx rfl (hb hby d3_0) rfl rfl κ) ?_
  show own_Go p e below _ T (mkF m 1 #[.val (.ref a1), .val (.ref a2), .val (.ref a3), .unset, .unset] [(.ref a1)])
  refine own_getF X hx hZ e0 hown (hw _ (List.mem_of_getElem? (i := 19) rfl)) F_size_a1 (hb hby d3_1) ?_
  intro T1 X1 e1
  show own_Go p e below _ T1 (mkF m 4 #[.val (.ref a1), .val (.ref a2), .val (.ref a3), .unset, .unset] [(.int (0 : Int32))])
  refine own_st (fun τ κ => XS.aloadN X1.here hx rfl (hb hby d3_4) rfl rfl κ) ?_
  show own_Go p e below _ T1 (mkF m 5 #[.val (.ref a1), .val (.ref a2), .val (.ref a3), .unset, .unset] [(.ref a1), (.int (0 : Int32))])
  refine own_getF X1 hx hZ e1 hown (hw _ (List.mem_of_getElem? (i := 9) rfl)) F_width_a1 (hb hby d3_5) ?_
  intro T2 X2 e2
  show own_Go p e below _ T2 (mkF m 8 #[.val (.ref a1), .val (.ref a2), .val (.ref a3), .unset, .unset] [(.int (2 : Int32)), (.int (0 : Int32))])
  refine own_st (fun τ κ => XS.imul X2.here hx rfl (hb hby d3_8) rfl κ) ?_
  show own_Go p e below _ T2 (mkF m 9 #[.val (.ref a1), .val (.ref a2), .val (.ref a3), .unset, .unset] [(.int ((0 : Int32) * (2 : Int32)))])
  refine own_st (fun τ κ => XS.istoreN X2.here hx rfl (hb hby d3_9) rfl (l' := #[.val (.ref a1), .val (.ref a2), .val (.ref a3), .val (.int ((0 : Int32) * (2 : Int32))), .unset]) rfl κ) ?_
  show own_Go p e below _ T2 (mkF m 10 #[.val (.ref a1), .val (.ref a2), .val (.ref a3), .val (.int ((0 : Int32) * (2 : Int32))), .unset] [])
  refine own_st (fun τ κ => XS.iloadN X2.here hx rfl (hb hby d3_10) rfl κ) ?_
  show own_Go p e below _ T2 (mkF m 11 #[.val (.ref a1), .val (.ref a2), .val (.ref a3), .val (.int ((0 : Int32) * (2 : Int32))), .unset] [(.int ((0 : Int32) * (2 : Int32)))])
  refine own_st (fun τ κ => XS.aloadN X2.here hx rfl (hb hby d3_11) rfl rfl κ) ?_
  show own_Go p e below _ T2 (mkF m 12 #[.val (.ref a1), .val (.ref a2), .val (.ref a3), .val (.int ((0 : Int32) * (2 : Int32))), .unset] [(.ref a1), (.int ((0 : Int32) * (2 : Int32)))])
  refine own_getF X2 hx hZ e2 hown (hw _ (List.mem_of_getElem? (i := 12) rfl)) F_cells_a1 (hb hby d3_12) ?_
  intro T3 X3 e3
  show own_Go p e below _ T3 (mkF m 15 #[.val (.ref a1), .val (.ref a2), .val (.ref a3), .val (.int ((0 : Int32) * (2 : Int32))), .unset] [(.ref b1), (.int ((0 : Int32) * (2 : Int32)))])
  refine own_alen X3 hx hZ e3 A_b1 (z := (16 : Int32)) rfl (hb hby d3_15) ?_
  show own_Go p e below _ T3 (mkF m 16 #[.val (.ref a1), .val (.ref a2), .val (.ref a3), .val (.int ((0 : Int32) * (2 : Int32))), .unset] [(.int (16 : Int32)), (.int ((0 : Int32) * (2 : Int32)))])
  refine own_st (fun τ κ => XS.aloadN X3.here hx rfl (hb hby d3_16) rfl rfl κ) ?_
  show own_Go p e below _ T3 (mkF m 17 #[.val (.ref a1), .val (.ref a2), .val (.ref a3), .val (.int ((0 : Int32) * (2 : Int32))), .unset] [(.ref a1), (.int (16 : Int32)), (.int ((0 : Int32) * (2 : Int32)))])
  refine own_getF X3 hx hZ e3 hown (hw _ (List.mem_of_getElem? (i := 9) rfl)) F_width_a1 (hb hby d3_17) ?_
  intro T4 X4 e4
  show own_Go p e below _ T4 (mkF m 20 #[.val (.ref a1), .val (.ref a2), .val (.ref a3), .val (.int ((0 : Int32) * (2 : Int32))), .unset] [(.int (2 : Int32)), (.int (16 : Int32)), (.int ((0 : Int32) * (2 : Int32)))])
  refine own_st (fun τ κ => XS.isub X4.here hx rfl (hb hby d3_20) rfl κ) ?_
  show own_Go p e below _ T4 (mkF m 21 #[.val (.ref a1), .val (.ref a2), .val (.ref a3), .val (.int ((0 : Int32) * (2 : Int32))), .unset] [(.int ((16 : Int32) - (2 : Int32))), (.int ((0 : Int32) * (2 : Int32)))])
  refine own_st (fun τ κ => XS.icmpYes X4.here hx rfl (pc0 := 21) (pc' := 85) rfl (hb hby d3_21) rfl (XT.ii_le_t (by decide)) (by decide) (by decide) κ) ?_
  show own_Go p e below _ T4 (mkF m 85 #[.val (.ref a1), .val (.ref a2), .val (.ref a3), .val (.int ((0 : Int32) * (2 : Int32))), .unset] [])
  refine own_st (fun τ κ => XT.iconstV X4.here hx rfl (0) (hb hby d3_85) (by decide) κ) ?_
  show own_Go p e below _ T4 (mkF m 86 #[.val (.ref a1), .val (.ref a2), .val (.ref a3), .val (.int ((0 : Int32) * (2 : Int32))), .unset] [(.int (0 : Int32))])
  refine own_st (fun τ κ => XS.istore X4.here hx rfl (hb hby d3_86) rfl (l' := #[.val (.ref a1), .val (.ref a2), .val (.ref a3), .val (.int ((0 : Int32) * (2 : Int32))), .val (.int (0 : Int32))]) rfl κ) ?_
  show own_Go p e below _ T4 (mkF m 88 #[.val (.ref a1), .val (.ref a2), .val (.ref a3), .val (.int ((0 : Int32) * (2 : Int32))), .val (.int (0 : Int32))] [])
  refine own_st (fun τ κ => XS.iload X4.here hx rfl (hb hby d3_88) rfl κ) ?_
  show own_Go p e below _ T4 (mkF m 90 #[.val (.ref a1), .val (.ref a2), .val (.ref a3), .val (.int ((0 : Int32) * (2 : Int32))), .val (.int (0 : Int32))] [(.int (0 : Int32))])
  refine own_st (fun τ κ => XS.aloadN X4.here hx rfl (hb hby d3_90) rfl rfl κ) ?_
  show own_Go p e below _ T4 (mkF m 91 #[.val (.ref a1), .val (.ref a2), .val (.ref a3), .val (.int ((0 : Int32) * (2 : Int32))), .val (.int (0 : Int32))] [(.ref a1), (.int (0 : Int32))])
  refine own_getF X4 hx hZ e4 hown (hw _ (List.mem_of_getElem? (i := 9) rfl)) F_width_a1 (hb hby d3_91) ?_
  intro T5 X5 e5
  show own_Go p e below _ T5 (mkF m 94 #[.val (.ref a1), .val (.ref a2), .val (.ref a3), .val (.int ((0 : Int32) * (2 : Int32))), .val (.int (0 : Int32))] [(.int (2 : Int32)), (.int (0 : Int32))])
  refine own_st (fun τ κ => XS.icmpNo X5.here hx rfl (hb hby d3_94) rfl (XT.ii_ge_f (by decide)) κ) ?_
  show own_Go p e below _ T5 (mkF m 97 #[.val (.ref a1), .val (.ref a2), .val (.ref a3), .val (.int ((0 : Int32) * (2 : Int32))), .val (.int (0 : Int32))] [])
  refine own_st (fun τ κ => XS.aloadN X5.here hx rfl (hb hby d3_97) rfl rfl κ) ?_
  show own_Go p e below _ T5 (mkF m 98 #[.val (.ref a1), .val (.ref a2), .val (.ref a3), .val (.int ((0 : Int32) * (2 : Int32))), .val (.int (0 : Int32))] [(.ref a1)])
  refine own_getF X5 hx hZ e5 hown (hw _ (List.mem_of_getElem? (i := 12) rfl)) F_cells_a1 (hb hby d3_98) ?_
  intro T6 X6 e6
  show own_Go p e below _ T6 (mkF m 101 #[.val (.ref a1), .val (.ref a2), .val (.ref a3), .val (.int ((0 : Int32) * (2 : Int32))), .val (.int (0 : Int32))] [(.ref b1)])
  refine own_st (fun τ κ => XS.iloadN X6.here hx rfl (hb hby d3_101) rfl κ) ?_
  show own_Go p e below _ T6 (mkF m 102 #[.val (.ref a1), .val (.ref a2), .val (.ref a3), .val (.int ((0 : Int32) * (2 : Int32))), .val (.int (0 : Int32))] [(.int ((0 : Int32) * (2 : Int32))), (.ref b1)])
  refine own_st (fun τ κ => XS.iload X6.here hx rfl (hb hby d3_102) rfl κ) ?_
  show own_Go p e below _ T6 (mkF m 104 #[.val (.ref a1), .val (.ref a2), .val (.ref a3), .val (.int ((0 : Int32) * (2 : Int32))), .val (.int (0 : Int32))] [(.int (0 : Int32)), (.int ((0 : Int32) * (2 : Int32))), (.ref b1)])
  refine own_st (fun τ κ => XS.iadd X6.here hx rfl (hb hby d3_104) rfl κ) ?_
  show own_Go p e below _ T6 (mkF m 105 #[.val (.ref a1), .val (.ref a2), .val (.ref a3), .val (.int ((0 : Int32) * (2 : Int32))), .val (.int (0 : Int32))] [(.int (((0 : Int32) * (2 : Int32)) + (0 : Int32))), (.ref b1)])
  refine own_st (fun τ κ => XS.aloadN X6.here hx rfl (hb hby d3_105) rfl rfl κ) ?_
  show own_Go p e below _ T6 (mkF m 106 #[.val (.ref a1), .val (.ref a2), .val (.ref a3), .val (.int ((0 : Int32) * (2 : Int32))), .val (.int (0 : Int32))] [(.ref a2), (.int (((0 : Int32) * (2 : Int32)) + (0 : Int32))), (.ref b1)])
  refine own_st (fun τ κ => XS.aloadN X6.here hx rfl (hb hby d3_106) rfl rfl κ) ?_
  show own_Go p e below _ T6 (mkF m 107 #[.val (.ref a1), .val (.ref a2), .val (.ref a3), .val (.int ((0 : Int32) * (2 : Int32))), .val (.int (0 : Int32))] [(.ref a3), (.ref a2), (.int (((0 : Int32) * (2 : Int32)) + (0 : Int32))), (.ref b1)])
  refine own_st (fun τ κ => XS.iload X6.here hx rfl (hb hby d3_107) rfl κ) ?_
  show own_Go p e below _ T6 (mkF m 109 #[.val (.ref a1), .val (.ref a2), .val (.ref a3), .val (.int ((0 : Int32) * (2 : Int32))), .val (.int (0 : Int32))] [(.int (0 : Int32)), (.ref a3), (.ref a2), (.int (((0 : Int32) * (2 : Int32)) + (0 : Int32))), (.ref b1)])
  refine own_ldI X6 hx hZ e6 A_a3 (i := 0) (by decide) (x := (gp 0)) rfl (hb hby d3_109) ?_
  show own_Go p e below _ T6 (mkF m 110 #[.val (.ref a1), .val (.ref a2), .val (.ref a3), .val (.int ((0 : Int32) * (2 : Int32))), .val (.int (0 : Int32))] [(.int (gp 0)), (.ref a2), (.int (((0 : Int32) * (2 : Int32)) + (0 : Int32))), (.ref b1)])
  refine own_ldI X6 hx hZ e6 A_a2 hp0 (x := (gs i0)) rfl (hb hby d3_110) ?_
  show own_Go p e below _ T6 (mkF m 111 #[.val (.ref a1), .val (.ref a2), .val (.ref a3), .val (.int ((0 : Int32) * (2 : Int32))), .val (.int (0 : Int32))] [(.int (gs i0)), (.int (((0 : Int32) * (2 : Int32)) + (0 : Int32))), (.ref b1)])
  refine own_stI X6 hx hZ e6 A_b1 (i := 0) (by decide) N0 ga_b1 (hb hby d3_111) ?_
  intro T7 h7 X7 e7 B7 K7 N7
  have E_a1 := E_a1.keep K7
  have F_width_a1 := F_width_a1.keep K7 (ninS ne_a1_b1 nin0)
  have F_cells_a1 := F_cells_a1.keep K7 (ninS ne_a1_b1 nin0)
  have F_size_a1 := F_size_a1.keep K7 (ninS ne_a1_b1 nin0)
  have A_a2 := A_a2.keep K7 (ninS ne_a2_b1 nin0)
  have A_a3 := A_a3.keep K7 (ninS ne_a3_b1 nin0)
  have A_b1 := B7
  have Z7 : n0 ≤ h7.size := Nat.le_trans Z0 K7.1
  have KK7 := K0.trans K7 (allS (Or.inl (List.mem_of_getElem? (i := 1) rfl)) all0)
  show own_Go p e below _ T7 (mkF m 112 #[.val (.ref a1), .val (.ref a2), .val (.ref a3), .val (.int ((0 : Int32) * (2 : Int32))), .val (.int (0 : Int32))] [])
  refine own_st (fun τ κ => XT.iincV X7.here hx rfl (1) (hb hby d3_112) (by decide) rfl (l' := #[.val (.ref a1), .val (.ref a2), .val (.ref a3), .val (.int ((0 : Int32) * (2 : Int32))), .val (.int ((0 : Int32) + (1 : Int32)))]) rfl κ) ?_
  show own_Go p e below _ T7 (mkF m 115 #[.val (.ref a1), .val (.ref a2), .val (.ref a3), .val (.int ((0 : Int32) * (2 : Int32))), .val (.int ((0 : Int32) + (1 : Int32)))] [])
  refine own_st (fun τ κ => XS.goto X7.here hx rfl (pc0 := 115) (pc' := 88) rfl (hb hby d3_115) (by decide) (by decide) κ) ?_
  show own_Go p e below _ T7 (mkF m 88 #[.val (.ref a1), .val (.ref a2), .val (.ref a3), .val (.int ((0 : Int32) * (2 : Int32))), .val (.int ((0 : Int32) + (1 : Int32)))] [])
  refine own_st (fun τ κ => XS.iload X7.here hx rfl (hb hby d3_88) rfl κ) ?_
  show own_Go p e below _ T7 (mkF m 90 #[.val (.ref a1), .val (.ref a2), .val (.ref a3), .val (.int ((0 : Int32) * (2 : Int32))), .val (.int ((0 : Int32) + (1 : Int32)))] [(.int ((0 : Int32) + (1 : Int32)))])
  refine own_st (fun τ κ => XS.aloadN X7.here hx rfl (hb hby d3_90) rfl rfl κ) ?_
  show own_Go p e below _ T7 (mkF m 91 #[.val (.ref a1), .val (.ref a2), .val (.ref a3), .val (.int ((0 : Int32) * (2 : Int32))), .val (.int ((0 : Int32) + (1 : Int32)))] [(.ref a1), (.int ((0 : Int32) + (1 : Int32)))])
  refine own_getF X7 hx hZ e7 hown (hw _ (List.mem_of_getElem? (i := 9) rfl)) F_width_a1 (hb hby d3_91) ?_
  intro T8 X8 e8
  show own_Go p e below _ T8 (mkF m 94 #[.val (.ref a1), .val (.ref a2), .val (.ref a3), .val (.int ((0 : Int32) * (2 : Int32))), .val (.int ((0 : Int32) + (1 : Int32)))] [(.int (2 : Int32)), (.int ((0 : Int32) + (1 : Int32)))])
  refine own_st (fun τ κ => XS.icmpNo X8.here hx rfl (hb hby d3_94) rfl (XT.ii_ge_f (by decide)) κ) ?_
  show own_Go p e below _ T8 (mkF m 97 #[.val (.ref a1), .val (.ref a2), .val (.ref a3), .val (.int ((0 : Int32) * (2 : Int32))), .val (.int ((0 : Int32) + (1 : Int32)))] [])
  refine own_st (fun τ κ => XS.aloadN X8.here hx rfl (hb hby d3_97) rfl rfl κ) ?_
  show own_Go p e below _ T8 (mkF m 98 #[.val (.ref a1), .val (.ref a2), .val (.ref a3), .val (.int ((0 : Int32) * (2 : Int32))), .val (.int ((0 : Int32) + (1 : Int32)))] [(.ref a1)])
  refine own_getF X8 hx hZ e8 hown (hw _ (List.mem_of_getElem? (i := 12) rfl)) F_cells_a1 (hb hby d3_98) ?_
  intro T9 X9 e9
  show own_Go p e below _ T9 (mkF m 101 #[.val (.ref a1), .val (.ref a2), .val (.ref a3), .val (.int ((0 : Int32) * (2 : Int32))), .val (.int ((0 : Int32) + (1 : Int32)))] [(.ref b1)])
  refine own_st (fun τ κ => XS.iloadN X9.here hx rfl (hb hby d3_101) rfl κ) ?_
  show own_Go p e below _ T9 (mkF m 102 #[.val (.ref a1), .val (.ref a2), .val (.ref a3), .val (.int ((0 : Int32) * (2 : Int32))), .val (.int ((0 : Int32) + (1 : Int32)))] [(.int ((0 : Int32) * (2 : Int32))), (.ref b1)])
  refine own_st (fun τ κ => XS.iload X9.here hx rfl (hb hby d3_102) rfl κ) ?_
  show own_Go p e below _ T9 (mkF m 104 #[.val (.ref a1), .val (.ref a2), .val (.ref a3), .val (.int ((0 : Int32) * (2 : Int32))), .val (.int ((0 : Int32) + (1 : Int32)))] [(.int ((0 : Int32) + (1 : Int32))), (.int ((0 : Int32) * (2 : Int32))), (.ref b1)])
  refine own_st (fun τ κ => XS.iadd X9.here hx rfl (hb hby d3_104) rfl κ) ?_
  show own_Go p e below _ T9 (mkF m 105 #[.val (.ref a1), .val (.ref a2), .val (.ref a3), .val (.int ((0 : Int32) * (2 : Int32))), .val (.int ((0 : Int32) + (1 : Int32)))] [(.int (((0 : Int32) * (2 : Int32)) + ((0 : Int32) + (1 : Int32)))), (.ref b1)])
  refine own_st (fun τ κ => XS.aloadN X9.here hx rfl (hb hby d3_105) rfl rfl κ) ?_
  show own_Go p e below _ T9 (mkF m 106 #[.val (.ref a1), .val (.ref a2), .val (.ref a3), .val (.int ((0 : Int32) * (2 : Int32))), .val (.int ((0 : Int32) + (1 : Int32)))] [(.ref a2), (.int (((0 : Int32) * (2 : Int32)) + ((0 : Int32) + (1 : Int32)))), (.ref b1)])
  refine own_st (fun τ κ => XS.aloadN X9.here hx rfl (hb hby d3_106) rfl rfl κ) ?_
  show own_Go p e below _ T9 (mkF m 107 #[.val (.ref a1), .val (.ref a2), .val (.ref a3), .val (.int ((0 : Int32) * (2 : Int32))), .val (.int ((0 : Int32) + (1 : Int32)))] [(.ref a3), (.ref a2), (.int (((0 : Int32) * (2 : Int32)) + ((0 : Int32) + (1 : Int32)))), (.ref b1)])
  refine own_st (fun τ κ => XS.iload X9.here hx rfl (hb hby d3_107) rfl κ) ?_
  show own_Go p e below _ T9 (mkF m 109 #[.val (.ref a1), .val (.ref a2), .val (.ref a3), .val (.int ((0 : Int32) * (2 : Int32))), .val (.int ((0 : Int32) + (1 : Int32)))] [(.int ((0 : Int32) + (1 : Int32))), (.ref a3), (.ref a2), (.int (((0 : Int32) * (2 : Int32)) + ((0 : Int32) + (1 : Int32)))), (.ref b1)])
  refine own_ldI X9 hx hZ e9 A_a3 (i := 1) (by decide) (x := (gp 1)) rfl (hb hby d3_109) ?_
  show own_Go p e below _ T9 (mkF m 110 #[.val (.ref a1), .val (.ref a2), .val (.ref a3), .val (.int ((0 : Int32) * (2 : Int32))), .val (.int ((0 : Int32) + (1 : Int32)))] [(.int (gp 1)), (.ref a2), (.int (((0 : Int32) * (2 : Int32)) + ((0 : Int32) + (1 : Int32)))), (.ref b1)])
  refine own_ldI X9 hx hZ e9 A_a2 hp1 (x := (gs i1)) rfl (hb hby d3_110) ?_
  show own_Go p e below _ T9 (mkF m 111 #[.val (.ref a1), .val (.ref a2), .val (.ref a3), .val (.int ((0 : Int32) * (2 : Int32))), .val (.int ((0 : Int32) + (1 : Int32)))] [(.int (gs i1)), (.int (((0 : Int32) * (2 : Int32)) + ((0 : Int32) + (1 : Int32)))), (.ref b1)])
  refine own_stI X9 hx hZ e9 A_b1 (i := 1) (by decide) N7 ga_b1 (hb hby d3_111) ?_
  intro T10 h10 X10 e10 B10 K10 N10
  have E_a1 := E_a1.keep K10
  have F_width_a1 := F_width_a1.keep K10 (ninS ne_a1_b1 nin0)
  have F_cells_a1 := F_cells_a1.keep K10 (ninS ne_a1_b1 nin0)
  have F_size_a1 := F_size_a1.keep K10 (ninS ne_a1_b1 nin0)
  have A_a2 := A_a2.keep K10 (ninS ne_a2_b1 nin0)
  have A_a3 := A_a3.keep K10 (ninS ne_a3_b1 nin0)
  have A_b1 := B10
  have Z10 : n0 ≤ h10.size := Nat.le_trans Z7 K10.1
  have KK10 := KK7.trans K10 (allS (Or.inl (List.mem_of_getElem? (i := 1) rfl)) all0)
  show own_Go p e below _ T10 (mkF m 112 #[.val (.ref a1), .val (.ref a2), .val (.ref a3), .val (.int ((0 : Int32) * (2 : Int32))), .val (.int ((0 : Int32) + (1 : Int32)))] [])
  refine own_st (fun τ κ => XT.iincV X10.here hx rfl (1) (hb hby d3_112) (by decide) rfl (l' := #[.val (.ref a1), .val (.ref a2), .val (.ref a3), .val (.int ((0 : Int32) * (2 : Int32))), .val (.int (((0 : Int32) + (1 : Int32)) + (1 : Int32)))]) rfl κ) ?_
  show own_Go p e below _ T10 (mkF m 115 #[.val (.ref a1), .val (.ref a2), .val (.ref a3), .val (.int ((0 : Int32) * (2 : Int32))), .val (.int (((0 : Int32) + (1 : Int32)) + (1 : Int32)))] [])
  refine own_st (fun τ κ => XS.goto X10.here hx rfl (pc0 := 115) (pc' := 88) rfl (hb hby d3_115) (by decide) (by decide) κ) ?_
  show own_Go p e below _ T10 (mkF m 88 #[.val (.ref a1), .val (.ref a2), .val (.ref a3), .val (.int ((0 : Int32) * (2 : Int32))), .val (.int (((0 : Int32) + (1 : Int32)) + (1 : Int32)))] [])
  refine own_st (fun τ κ => XS.iload X10.here hx rfl (hb hby d3_88) rfl κ) ?_
  show own_Go p e below _ T10 (mkF m 90 #[.val (.ref a1), .val (.ref a2), .val (.ref a3), .val (.int ((0 : Int32) * (2 : Int32))), .val (.int (((0 : Int32) + (1 : Int32)) + (1 : Int32)))] [(.int (((0 : Int32) + (1 : Int32)) + (1 : Int32)))])
  refine own_st (fun τ κ => XS.aloadN X10.here hx rfl (hb hby d3_90) rfl rfl κ) ?_
  show own_Go p e below _ T10 (mkF m 91 #[.val (.ref a1), .val (.ref a2), .val (.ref a3), .val (.int ((0 : Int32) * (2 : Int32))), .val (.int (((0 : Int32) + (1 : Int32)) + (1 : Int32)))] [(.ref a1), (.int (((0 : Int32) + (1 : Int32)) + (1 : Int32)))])
  refine own_getF X10 hx hZ e10 hown (hw _ (List.mem_of_getElem? (i := 9) rfl)) F_width_a1 (hb hby d3_91) ?_
  intro T11 X11 e11
  show own_Go p e below _ T11 (mkF m 94 #[.val (.ref a1), .val (.ref a2), .val (.ref a3), .val (.int ((0 : Int32) * (2 : Int32))), .val (.int (((0 : Int32) + (1 : Int32)) + (1 : Int32)))] [(.int (2 : Int32)), (.int (((0 : Int32) + (1 : Int32)) + (1 : Int32)))])
  refine own_st (fun τ κ => XS.icmpYes X11.here hx rfl (pc0 := 94) (pc' := 118) rfl (hb hby d3_94) rfl (XT.ii_ge_t (by decide)) (by decide) (by decide) κ) ?_
  show own_Go p e below _ T11 (mkF m 118 #[.val (.ref a1), .val (.ref a2), .val (.ref a3), .val (.int ((0 : Int32) * (2 : Int32))), .val (.int (((0 : Int32) + (1 : Int32)) + (1 : Int32)))] [])
  refine own_st (fun τ κ => XS.aloadN X11.here hx rfl (hb hby d3_118) rfl rfl κ) ?_
  show own_Go p e below _ T11 (mkF m 119 #[.val (.ref a1), .val (.ref a2), .val (.ref a3), .val (.int ((0 : Int32) * (2 : Int32))), .val (.int (((0 : Int32) + (1 : Int32)) + (1 : Int32)))] [(.ref a1)])
  refine own_st (fun τ κ => XS.dup X11.here hx rfl (hb hby d3_119) rfl rfl κ) ?_
  show own_Go p e below _ T11 (mkF m 120 #[.val (.ref a1), .val (.ref a2), .val (.ref a3), .val (.int ((0 : Int32) * (2 : Int32))), .val (.int (((0 : Int32) + (1 : Int32)) + (1 : Int32)))] [(.ref a1), (.ref a1)])
  refine own_getF X11 hx hZ e11 hown (hw _ (List.mem_of_getElem? (i := 19) rfl)) F_size_a1 (hb hby d3_120) ?_
  intro T12 X12 e12
  show own_Go p e below _ T12 (mkF m 123 #[.val (.ref a1), .val (.ref a2), .val (.ref a3), .val (.int ((0 : Int32) * (2 : Int32))), .val (.int (((0 : Int32) + (1 : Int32)) + (1 : Int32)))] [(.int (0 : Int32)), (.ref a1)])
  refine own_st (fun τ κ => XS.dupX1 X12.here hx rfl (hb hby d3_123) rfl rfl rfl κ) ?_
  show own_Go p e below _ T12 (mkF m 124 #[.val (.ref a1), .val (.ref a2), .val (.ref a3), .val (.int ((0 : Int32) * (2 : Int32))), .val (.int (((0 : Int32) + (1 : Int32)) + (1 : Int32)))] [(.int (0 : Int32)), (.ref a1), (.int (0 : Int32))])
  refine own_st (fun τ κ => XT.iconstV X12.here hx rfl (1) (hb hby d3_124) (by decide) κ) ?_
  show own_Go p e below _ T12 (mkF m 125 #[.val (.ref a1), .val (.ref a2), .val (.ref a3), .val (.int ((0 : Int32) * (2 : Int32))), .val (.int (((0 : Int32) + (1 : Int32)) + (1 : Int32)))] [(.int (1 : Int32)), (.int (0 : Int32)), (.ref a1), (.int (0 : Int32))])
  refine own_st (fun τ κ => XS.iadd X12.here hx rfl (hb hby d3_125) rfl κ) ?_
  show own_Go p e below _ T12 (mkF m 126 #[.val (.ref a1), .val (.ref a2), .val (.ref a3), .val (.int ((0 : Int32) * (2 : Int32))), .val (.int (((0 : Int32) + (1 : Int32)) + (1 : Int32)))] [(.int ((0 : Int32) + (1 : Int32))), (.ref a1), (.int (0 : Int32))])
  refine own_putF X12 hx hZ e12 hown (hw _ (List.mem_of_getElem? (i := 19) rfl)) F_size_a1 E_a1 (Or.inl (hw _ (List.mem_of_getElem? (i := 20) rfl))) (hw _ (List.mem_of_getElem? (i := 1) rfl)) (ty := .int) (by decide) rfl rfl N10 ga_a1 (hb hby d3_126) ?_
  intro T13 h13 X13 e13 W13 N13
  have E_a1 := E_a1.wr W13
  have F_width_a1 := F_width_a1.other W13 (Or.inr (slot_ne (Or.inr (hw _ (List.mem_of_getElem? (i := 10) rfl))) (Or.inl (hw _ (List.mem_of_getElem? (i := 20) rfl))) (by decide) (t := .int) (t' := .int) (by decide) (by decide)))
  have F_cells_a1 := F_cells_a1.other W13 (Or.inr (slot_ne (Or.inl (hw _ (List.mem_of_getElem? (i := 13) rfl))) (Or.inl (hw _ (List.mem_of_getElem? (i := 20) rfl))) (by decide) (t := (.array .int)) (t' := .int) (by decide) (by decide)))
  have F_size_a1 := F_size_a1.same W13
  have A_b1 := A_b1.keep (Keep.of_wr W13) (ninS (Ne.symm ne_a1_b1) nin0)
  have Z13 : n0 ≤ h13.size := Nat.le_trans Z10 (Keep.of_wr W13).1
  have K13 := KK10.wr W13 (Or.inl (List.mem_of_getElem? (i := 0) rfl))
  show own_Go p e below _ T13 (mkF m 129 #[.val (.ref a1), .val (.ref a2), .val (.ref a3), .val (.int ((0 : Int32) * (2 : Int32))), .val (.int (((0 : Int32) + (1 : Int32)) + (1 : Int32)))] [(.int (0 : Int32))])
  refine own_retI X13 hx hlk hret (by decide) (by decide) (hb hby d3_129) ?_
  rw [e13]
  exact ⟨rfl, N13, K13, E_a1, F_width_a1, F_cells_a1, F_size_a1, A_b1⟩

set_option maxRecDepth 65536 in
set_option maxHeartbeats 40000000 in
theorem rma1 (l : Launch) (Z : State) (a0 : Array Value) (hw : ∀ d ∈ tables_1, d.before a0 Z = true) (a1 a2 a3 b1 : Addr) (gc gs gp : Nat → Int32) (i0 i1 : Nat) (hp0 : own_ix (gp 0) i0 4) (hp1 : own_ix (gp 1) i1 4) (h0 : Heap) (n0 : Nat) (Z0 : n0 ≤ h0.size) (ga_a1 : n0 ≤ a1) (ga_b1 : n0 ≤ b1) (ne_a1_b1 : a1 ≠ b1) (ne_a2_b1 : a2 ≠ b1) (ne_a3_b1 : a3 ≠ b1) (E_a1 : Exa Z h0 a1 "com/example/saturate/saturate/engine/Table") (F_width_a1 : Fld Z h0 a1 "com/example/saturate/saturate/engine/Table" "width" "I" (.int (2 : Int32))) (F_cells_a1 : Fld Z h0 a1 "com/example/saturate/saturate/engine/Table" "cells" "[I" (.ref b1)) (F_size_a1 : Fld Z h0 a1 "com/example/saturate/saturate/engine/Table" "size" "I" (.int (1 : Int32))) (A_b1 : own_IA Z h0 b1 16 gc) (A_a2 : own_IA Z h0 a2 4 gs) (A_a3 : own_IA Z h0 a3 2 gp) :
    own_Met l Z h0 (⟨"com/example/saturate/saturate/engine/Table", "add", "([I[I)I"⟩ : MethodName) prog_32_method_5_code 5 (some .int) ({ frames := 0, cells := 0, slots := 0, locals := 0 } : Room) #[(.ref a1), (.ref a2), (.ref a3)] (fun v h L => v = some (.int (1 : Int32)) ∧ Fr n0 L ∧ Keep h0 h [a1, b1] ∧ Exa Z h a1 "com/example/saturate/saturate/engine/Table" ∧ Fld Z h a1 "com/example/saturate/saturate/engine/Table" "width" "I" (.int (2 : Int32)) ∧ Fld Z h a1 "com/example/saturate/saturate/engine/Table" "cells" "[I" (.ref b1) ∧ Fld Z h a1 "com/example/saturate/saturate/engine/Table" "size" "I" (.int ((1 : Int32) + (1 : Int32))) ∧ own_IA Z h b1 16 (own_upd (own_upd gc 2 (gs i0)) 3 (gs i1))) := by
  refine own_body pn_3 (fun m => ef_3 m a1 a2 a3) ?_
  intro p e s m below meth c T X hx hby hml hret hlk hown hnm hZ e0
  have hown : s.vm.findClass "com/example/saturate/saturate/engine/Table" = some m.cls := hown
  have hml : c.maxLocals = 5 := hml
  have N0 : Fr n0 ([] : List Loc) := Fr.nil n0
  show own_Go p e below _ T (mkF m 0 #[.val (.ref a1), .val (.ref a2), .val (.ref a3), .unset, .unset] [])
  have K0 : Keep h0 h0 [a1, b1] := Keep.refl _ _
  refine own_st (fun τ κ => XS.aloadN X.here hx rfl (hb hby d3_0) rfl rfl κ) ?_
  show own_Go p e below _ T (mkF m 1 #[.val (.ref a1), .val (.ref a2), .val (.ref a3), .unset, .unset] [(.ref a1)])
  refine own_getF X hx hZ e0 hown (hw _ (List.mem_of_getElem? (i := 19) rfl)) F_size_a1 (hb hby d3_1) ?_
  intro T1 X1 e1
  show own_Go p e below _ T1 (mkF m 4 #[.val (.ref a1), .val (.ref a2), .val (.ref a3), .unset, .unset] [(.int (1 : Int32))])
  refine own_st (fun τ κ => XS.aloadN X1.here hx rfl (hb hby d3_4) rfl rfl κ) ?_
  show own_Go p e below _ T1 (mkF m 5 #[.val (.ref a1), .val (.ref a2), .val (.ref a3), .unset, .unset] [(.ref a1), (.int (1 : Int32))])
  refine own_getF X1 hx hZ e1 hown (hw _ (List.mem_of_getElem? (i := 9) rfl)) F_width_a1 (hb hby d3_5) ?_
  intro T2 X2 e2
  show own_Go p e below _ T2 (mkF m 8 #[.val (.ref a1), .val (.ref a2), .val (.ref a3), .unset, .unset] [(.int (2 : Int32)), (.int (1 : Int32))])
  refine own_st (fun τ κ => XS.imul X2.here hx rfl (hb hby d3_8) rfl κ) ?_
  show own_Go p e below _ T2 (mkF m 9 #[.val (.ref a1), .val (.ref a2), .val (.ref a3), .unset, .unset] [(.int ((1 : Int32) * (2 : Int32)))])
  refine own_st (fun τ κ => XS.istoreN X2.here hx rfl (hb hby d3_9) rfl (l' := #[.val (.ref a1), .val (.ref a2), .val (.ref a3), .val (.int ((1 : Int32) * (2 : Int32))), .unset]) rfl κ) ?_
  show own_Go p e below _ T2 (mkF m 10 #[.val (.ref a1), .val (.ref a2), .val (.ref a3), .val (.int ((1 : Int32) * (2 : Int32))), .unset] [])
  refine own_st (fun τ κ => XS.iloadN X2.here hx rfl (hb hby d3_10) rfl κ) ?_
  show own_Go p e below _ T2 (mkF m 11 #[.val (.ref a1), .val (.ref a2), .val (.ref a3), .val (.int ((1 : Int32) * (2 : Int32))), .unset] [(.int ((1 : Int32) * (2 : Int32)))])
  refine own_st (fun τ κ => XS.aloadN X2.here hx rfl (hb hby d3_11) rfl rfl κ) ?_
  show own_Go p e below _ T2 (mkF m 12 #[.val (.ref a1), .val (.ref a2), .val (.ref a3), .val (.int ((1 : Int32) * (2 : Int32))), .unset] [(.ref a1), (.int ((1 : Int32) * (2 : Int32)))])
  refine own_getF X2 hx hZ e2 hown (hw _ (List.mem_of_getElem? (i := 12) rfl)) F_cells_a1 (hb hby d3_12) ?_
  intro T3 X3 e3
  show own_Go p e below _ T3 (mkF m 15 #[.val (.ref a1), .val (.ref a2), .val (.ref a3), .val (.int ((1 : Int32) * (2 : Int32))), .unset] [(.ref b1), (.int ((1 : Int32) * (2 : Int32)))])
  refine own_alen X3 hx hZ e3 A_b1 (z := (16 : Int32)) rfl (hb hby d3_15) ?_
  show own_Go p e below _ T3 (mkF m 16 #[.val (.ref a1), .val (.ref a2), .val (.ref a3), .val (.int ((1 : Int32) * (2 : Int32))), .unset] [(.int (16 : Int32)), (.int ((1 : Int32) * (2 : Int32)))])
  refine own_st (fun τ κ => XS.aloadN X3.here hx rfl (hb hby d3_16) rfl rfl κ) ?_
  show own_Go p e below _ T3 (mkF m 17 #[.val (.ref a1), .val (.ref a2), .val (.ref a3), .val (.int ((1 : Int32) * (2 : Int32))), .unset] [(.ref a1), (.int (16 : Int32)), (.int ((1 : Int32) * (2 : Int32)))])
  refine own_getF X3 hx hZ e3 hown (hw _ (List.mem_of_getElem? (i := 9) rfl)) F_width_a1 (hb hby d3_17) ?_
  intro T4 X4 e4
  show own_Go p e below _ T4 (mkF m 20 #[.val (.ref a1), .val (.ref a2), .val (.ref a3), .val (.int ((1 : Int32) * (2 : Int32))), .unset] [(.int (2 : Int32)), (.int (16 : Int32)), (.int ((1 : Int32) * (2 : Int32)))])
  refine own_st (fun τ κ => XS.isub X4.here hx rfl (hb hby d3_20) rfl κ) ?_
  show own_Go p e below _ T4 (mkF m 21 #[.val (.ref a1), .val (.ref a2), .val (.ref a3), .val (.int ((1 : Int32) * (2 : Int32))), .unset] [(.int ((16 : Int32) - (2 : Int32))), (.int ((1 : Int32) * (2 : Int32)))])
  refine own_st (fun τ κ => XS.icmpYes X4.here hx rfl (pc0 := 21) (pc' := 85) rfl (hb hby d3_21) rfl (XT.ii_le_t (by decide)) (by decide) (by decide) κ) ?_
  show own_Go p e below _ T4 (mkF m 85 #[.val (.ref a1), .val (.ref a2), .val (.ref a3), .val (.int ((1 : Int32) * (2 : Int32))), .unset] [])
  refine own_st (fun τ κ => XT.iconstV X4.here hx rfl (0) (hb hby d3_85) (by decide) κ) ?_
  show own_Go p e below _ T4 (mkF m 86 #[.val (.ref a1), .val (.ref a2), .val (.ref a3), .val (.int ((1 : Int32) * (2 : Int32))), .unset] [(.int (0 : Int32))])
  refine own_st (fun τ κ => XS.istore X4.here hx rfl (hb hby d3_86) rfl (l' := #[.val (.ref a1), .val (.ref a2), .val (.ref a3), .val (.int ((1 : Int32) * (2 : Int32))), .val (.int (0 : Int32))]) rfl κ) ?_
  show own_Go p e below _ T4 (mkF m 88 #[.val (.ref a1), .val (.ref a2), .val (.ref a3), .val (.int ((1 : Int32) * (2 : Int32))), .val (.int (0 : Int32))] [])
  refine own_st (fun τ κ => XS.iload X4.here hx rfl (hb hby d3_88) rfl κ) ?_
  show own_Go p e below _ T4 (mkF m 90 #[.val (.ref a1), .val (.ref a2), .val (.ref a3), .val (.int ((1 : Int32) * (2 : Int32))), .val (.int (0 : Int32))] [(.int (0 : Int32))])
  refine own_st (fun τ κ => XS.aloadN X4.here hx rfl (hb hby d3_90) rfl rfl κ) ?_
  show own_Go p e below _ T4 (mkF m 91 #[.val (.ref a1), .val (.ref a2), .val (.ref a3), .val (.int ((1 : Int32) * (2 : Int32))), .val (.int (0 : Int32))] [(.ref a1), (.int (0 : Int32))])
  refine own_getF X4 hx hZ e4 hown (hw _ (List.mem_of_getElem? (i := 9) rfl)) F_width_a1 (hb hby d3_91) ?_
  intro T5 X5 e5
  show own_Go p e below _ T5 (mkF m 94 #[.val (.ref a1), .val (.ref a2), .val (.ref a3), .val (.int ((1 : Int32) * (2 : Int32))), .val (.int (0 : Int32))] [(.int (2 : Int32)), (.int (0 : Int32))])
  refine own_st (fun τ κ => XS.icmpNo X5.here hx rfl (hb hby d3_94) rfl (XT.ii_ge_f (by decide)) κ) ?_
  show own_Go p e below _ T5 (mkF m 97 #[.val (.ref a1), .val (.ref a2), .val (.ref a3), .val (.int ((1 : Int32) * (2 : Int32))), .val (.int (0 : Int32))] [])
  refine own_st (fun τ κ => XS.aloadN X5.here hx rfl (hb hby d3_97) rfl rfl κ) ?_
  show own_Go p e below _ T5 (mkF m 98 #[.val (.ref a1), .val (.ref a2), .val (.ref a3), .val (.int ((1 : Int32) * (2 : Int32))), .val (.int (0 : Int32))] [(.ref a1)])
  refine own_getF X5 hx hZ e5 hown (hw _ (List.mem_of_getElem? (i := 12) rfl)) F_cells_a1 (hb hby d3_98) ?_
  intro T6 X6 e6
  show own_Go p e below _ T6 (mkF m 101 #[.val (.ref a1), .val (.ref a2), .val (.ref a3), .val (.int ((1 : Int32) * (2 : Int32))), .val (.int (0 : Int32))] [(.ref b1)])
  refine own_st (fun τ κ => XS.iloadN X6.here hx rfl (hb hby d3_101) rfl κ) ?_
  show own_Go p e below _ T6 (mkF m 102 #[.val (.ref a1), .val (.ref a2), .val (.ref a3), .val (.int ((1 : Int32) * (2 : Int32))), .val (.int (0 : Int32))] [(.int ((1 : Int32) * (2 : Int32))), (.ref b1)])
  refine own_st (fun τ κ => XS.iload X6.here hx rfl (hb hby d3_102) rfl κ) ?_
  show own_Go p e below _ T6 (mkF m 104 #[.val (.ref a1), .val (.ref a2), .val (.ref a3), .val (.int ((1 : Int32) * (2 : Int32))), .val (.int (0 : Int32))] [(.int (0 : Int32)), (.int ((1 : Int32) * (2 : Int32))), (.ref b1)])
  refine own_st (fun τ κ => XS.iadd X6.here hx rfl (hb hby d3_104) rfl κ) ?_
  show own_Go p e below _ T6 (mkF m 105 #[.val (.ref a1), .val (.ref a2), .val (.ref a3), .val (.int ((1 : Int32) * (2 : Int32))), .val (.int (0 : Int32))] [(.int (((1 : Int32) * (2 : Int32)) + (0 : Int32))), (.ref b1)])
  refine own_st (fun τ κ => XS.aloadN X6.here hx rfl (hb hby d3_105) rfl rfl κ) ?_
  show own_Go p e below _ T6 (mkF m 106 #[.val (.ref a1), .val (.ref a2), .val (.ref a3), .val (.int ((1 : Int32) * (2 : Int32))), .val (.int (0 : Int32))] [(.ref a2), (.int (((1 : Int32) * (2 : Int32)) + (0 : Int32))), (.ref b1)])
  refine own_st (fun τ κ => XS.aloadN X6.here hx rfl (hb hby d3_106) rfl rfl κ) ?_
  show own_Go p e below _ T6 (mkF m 107 #[.val (.ref a1), .val (.ref a2), .val (.ref a3), .val (.int ((1 : Int32) * (2 : Int32))), .val (.int (0 : Int32))] [(.ref a3), (.ref a2), (.int (((1 : Int32) * (2 : Int32)) + (0 : Int32))), (.ref b1)])
  refine own_st (fun τ κ => XS.iload X6.here hx rfl (hb hby d3_107) rfl κ) ?_
  show own_Go p e below _ T6 (mkF m 109 #[.val (.ref a1), .val (.ref a2), .val (.ref a3), .val (.int ((1 : Int32) * (2 : Int32))), .val (.int (0 : Int32))] [(.int (0 : Int32)), (.ref a3), (.ref a2), (.int (((1 : Int32) * (2 : Int32)) + (0 : Int32))), (.ref b1)])
  refine own_ldI X6 hx hZ e6 A_a3 (i := 0) (by decide) (x := (gp 0)) rfl (hb hby d3_109) ?_
  show own_Go p e below _ T6 (mkF m 110 #[.val (.ref a1), .val (.ref a2), .val (.ref a3), .val (.int ((1 : Int32) * (2 : Int32))), .val (.int (0 : Int32))] [(.int (gp 0)), (.ref a2), (.int (((1 : Int32) * (2 : Int32)) + (0 : Int32))), (.ref b1)])
  refine own_ldI X6 hx hZ e6 A_a2 hp0 (x := (gs i0)) rfl (hb hby d3_110) ?_
  show own_Go p e below _ T6 (mkF m 111 #[.val (.ref a1), .val (.ref a2), .val (.ref a3), .val (.int ((1 : Int32) * (2 : Int32))), .val (.int (0 : Int32))] [(.int (gs i0)), (.int (((1 : Int32) * (2 : Int32)) + (0 : Int32))), (.ref b1)])
  refine own_stI X6 hx hZ e6 A_b1 (i := 2) (by decide) N0 ga_b1 (hb hby d3_111) ?_
  intro T7 h7 X7 e7 B7 K7 N7
  have E_a1 := E_a1.keep K7
  have F_width_a1 := F_width_a1.keep K7 (ninS ne_a1_b1 nin0)
  have F_cells_a1 := F_cells_a1.keep K7 (ninS ne_a1_b1 nin0)
  have F_size_a1 := F_size_a1.keep K7 (ninS ne_a1_b1 nin0)
  have A_a2 := A_a2.keep K7 (ninS ne_a2_b1 nin0)
  have A_a3 := A_a3.keep K7 (ninS ne_a3_b1 nin0)
  have A_b1 := B7
  have Z7 : n0 ≤ h7.size := Nat.le_trans Z0 K7.1
  have KK7 := K0.trans K7 (allS (Or.inl (List.mem_of_getElem? (i := 1) rfl)) all0)
  show own_Go p e below _ T7 (mkF m 112 #[.val (.ref a1), .val (.ref a2), .val (.ref a3), .val (.int ((1 : Int32) * (2 : Int32))), .val (.int (0 : Int32))] [])
  refine own_st (fun τ κ => XT.iincV X7.here hx rfl (1) (hb hby d3_112) (by decide) rfl (l' := #[.val (.ref a1), .val (.ref a2), .val (.ref a3), .val (.int ((1 : Int32) * (2 : Int32))), .val (.int ((0 : Int32) + (1 : Int32)))]) rfl κ) ?_
  show own_Go p e below _ T7 (mkF m 115 #[.val (.ref a1), .val (.ref a2), .val (.ref a3), .val (.int ((1 : Int32) * (2 : Int32))), .val (.int ((0 : Int32) + (1 : Int32)))] [])
  refine own_st (fun τ κ => XS.goto X7.here hx rfl (pc0 := 115) (pc' := 88) rfl (hb hby d3_115) (by decide) (by decide) κ) ?_
  show own_Go p e below _ T7 (mkF m 88 #[.val (.ref a1), .val (.ref a2), .val (.ref a3), .val (.int ((1 : Int32) * (2 : Int32))), .val (.int ((0 : Int32) + (1 : Int32)))] [])
  refine own_st (fun τ κ => XS.iload X7.here hx rfl (hb hby d3_88) rfl κ) ?_
  show own_Go p e below _ T7 (mkF m 90 #[.val (.ref a1), .val (.ref a2), .val (.ref a3), .val (.int ((1 : Int32) * (2 : Int32))), .val (.int ((0 : Int32) + (1 : Int32)))] [(.int ((0 : Int32) + (1 : Int32)))])
  refine own_st (fun τ κ => XS.aloadN X7.here hx rfl (hb hby d3_90) rfl rfl κ) ?_
  show own_Go p e below _ T7 (mkF m 91 #[.val (.ref a1), .val (.ref a2), .val (.ref a3), .val (.int ((1 : Int32) * (2 : Int32))), .val (.int ((0 : Int32) + (1 : Int32)))] [(.ref a1), (.int ((0 : Int32) + (1 : Int32)))])
  refine own_getF X7 hx hZ e7 hown (hw _ (List.mem_of_getElem? (i := 9) rfl)) F_width_a1 (hb hby d3_91) ?_
  intro T8 X8 e8
  show own_Go p e below _ T8 (mkF m 94 #[.val (.ref a1), .val (.ref a2), .val (.ref a3), .val (.int ((1 : Int32) * (2 : Int32))), .val (.int ((0 : Int32) + (1 : Int32)))] [(.int (2 : Int32)), (.int ((0 : Int32) + (1 : Int32)))])
  refine own_st (fun τ κ => XS.icmpNo X8.here hx rfl (hb hby d3_94) rfl (XT.ii_ge_f (by decide)) κ) ?_
  show own_Go p e below _ T8 (mkF m 97 #[.val (.ref a1), .val (.ref a2), .val (.ref a3), .val (.int ((1 : Int32) * (2 : Int32))), .val (.int ((0 : Int32) + (1 : Int32)))] [])
  refine own_st (fun τ κ => XS.aloadN X8.here hx rfl (hb hby d3_97) rfl rfl κ) ?_
  show own_Go p e below _ T8 (mkF m 98 #[.val (.ref a1), .val (.ref a2), .val (.ref a3), .val (.int ((1 : Int32) * (2 : Int32))), .val (.int ((0 : Int32) + (1 : Int32)))] [(.ref a1)])
  refine own_getF X8 hx hZ e8 hown (hw _ (List.mem_of_getElem? (i := 12) rfl)) F_cells_a1 (hb hby d3_98) ?_
  intro T9 X9 e9
  show own_Go p e below _ T9 (mkF m 101 #[.val (.ref a1), .val (.ref a2), .val (.ref a3), .val (.int ((1 : Int32) * (2 : Int32))), .val (.int ((0 : Int32) + (1 : Int32)))] [(.ref b1)])
  refine own_st (fun τ κ => XS.iloadN X9.here hx rfl (hb hby d3_101) rfl κ) ?_
  show own_Go p e below _ T9 (mkF m 102 #[.val (.ref a1), .val (.ref a2), .val (.ref a3), .val (.int ((1 : Int32) * (2 : Int32))), .val (.int ((0 : Int32) + (1 : Int32)))] [(.int ((1 : Int32) * (2 : Int32))), (.ref b1)])
  refine own_st (fun τ κ => XS.iload X9.here hx rfl (hb hby d3_102) rfl κ) ?_
  show own_Go p e below _ T9 (mkF m 104 #[.val (.ref a1), .val (.ref a2), .val (.ref a3), .val (.int ((1 : Int32) * (2 : Int32))), .val (.int ((0 : Int32) + (1 : Int32)))] [(.int ((0 : Int32) + (1 : Int32))), (.int ((1 : Int32) * (2 : Int32))), (.ref b1)])
  refine own_st (fun τ κ => XS.iadd X9.here hx rfl (hb hby d3_104) rfl κ) ?_
  show own_Go p e below _ T9 (mkF m 105 #[.val (.ref a1), .val (.ref a2), .val (.ref a3), .val (.int ((1 : Int32) * (2 : Int32))), .val (.int ((0 : Int32) + (1 : Int32)))] [(.int (((1 : Int32) * (2 : Int32)) + ((0 : Int32) + (1 : Int32)))), (.ref b1)])
  refine own_st (fun τ κ => XS.aloadN X9.here hx rfl (hb hby d3_105) rfl rfl κ) ?_
  show own_Go p e below _ T9 (mkF m 106 #[.val (.ref a1), .val (.ref a2), .val (.ref a3), .val (.int ((1 : Int32) * (2 : Int32))), .val (.int ((0 : Int32) + (1 : Int32)))] [(.ref a2), (.int (((1 : Int32) * (2 : Int32)) + ((0 : Int32) + (1 : Int32)))), (.ref b1)])
  refine own_st (fun τ κ => XS.aloadN X9.here hx rfl (hb hby d3_106) rfl rfl κ) ?_
  show own_Go p e below _ T9 (mkF m 107 #[.val (.ref a1), .val (.ref a2), .val (.ref a3), .val (.int ((1 : Int32) * (2 : Int32))), .val (.int ((0 : Int32) + (1 : Int32)))] [(.ref a3), (.ref a2), (.int (((1 : Int32) * (2 : Int32)) + ((0 : Int32) + (1 : Int32)))), (.ref b1)])
  refine own_st (fun τ κ => XS.iload X9.here hx rfl (hb hby d3_107) rfl κ) ?_
  show own_Go p e below _ T9 (mkF m 109 #[.val (.ref a1), .val (.ref a2), .val (.ref a3), .val (.int ((1 : Int32) * (2 : Int32))), .val (.int ((0 : Int32) + (1 : Int32)))] [(.int ((0 : Int32) + (1 : Int32))), (.ref a3), (.ref a2), (.int (((1 : Int32) * (2 : Int32)) + ((0 : Int32) + (1 : Int32)))), (.ref b1)])
  refine own_ldI X9 hx hZ e9 A_a3 (i := 1) (by decide) (x := (gp 1)) rfl (hb hby d3_109) ?_
  show own_Go p e below _ T9 (mkF m 110 #[.val (.ref a1), .val (.ref a2), .val (.ref a3), .val (.int ((1 : Int32) * (2 : Int32))), .val (.int ((0 : Int32) + (1 : Int32)))] [(.int (gp 1)), (.ref a2), (.int (((1 : Int32) * (2 : Int32)) + ((0 : Int32) + (1 : Int32)))), (.ref b1)])
  refine own_ldI X9 hx hZ e9 A_a2 hp1 (x := (gs i1)) rfl (hb hby d3_110) ?_
  show own_Go p e below _ T9 (mkF m 111 #[.val (.ref a1), .val (.ref a2), .val (.ref a3), .val (.int ((1 : Int32) * (2 : Int32))), .val (.int ((0 : Int32) + (1 : Int32)))] [(.int (gs i1)), (.int (((1 : Int32) * (2 : Int32)) + ((0 : Int32) + (1 : Int32)))), (.ref b1)])
  refine own_stI X9 hx hZ e9 A_b1 (i := 3) (by decide) N7 ga_b1 (hb hby d3_111) ?_
  intro T10 h10 X10 e10 B10 K10 N10
  have E_a1 := E_a1.keep K10
  have F_width_a1 := F_width_a1.keep K10 (ninS ne_a1_b1 nin0)
  have F_cells_a1 := F_cells_a1.keep K10 (ninS ne_a1_b1 nin0)
  have F_size_a1 := F_size_a1.keep K10 (ninS ne_a1_b1 nin0)
  have A_a2 := A_a2.keep K10 (ninS ne_a2_b1 nin0)
  have A_a3 := A_a3.keep K10 (ninS ne_a3_b1 nin0)
  have A_b1 := B10
  have Z10 : n0 ≤ h10.size := Nat.le_trans Z7 K10.1
  have KK10 := KK7.trans K10 (allS (Or.inl (List.mem_of_getElem? (i := 1) rfl)) all0)
  show own_Go p e below _ T10 (mkF m 112 #[.val (.ref a1), .val (.ref a2), .val (.ref a3), .val (.int ((1 : Int32) * (2 : Int32))), .val (.int ((0 : Int32) + (1 : Int32)))] [])
  refine own_st (fun τ κ => XT.iincV X10.here hx rfl (1) (hb hby d3_112) (by decide) rfl (l' := #[.val (.ref a1), .val (.ref a2), .val (.ref a3), .val (.int ((1 : Int32) * (2 : Int32))), .val (.int (((0 : Int32) + (1 : Int32)) + (1 : Int32)))]) rfl κ) ?_
  show own_Go p e below _ T10 (mkF m 115 #[.val (.ref a1), .val (.ref a2), .val (.ref a3), .val (.int ((1 : Int32) * (2 : Int32))), .val (.int (((0 : Int32) + (1 : Int32)) + (1 : Int32)))] [])
  refine own_st (fun τ κ => XS.goto X10.here hx rfl (pc0 := 115) (pc' := 88) rfl (hb hby d3_115) (by decide) (by decide) κ) ?_
  show own_Go p e below _ T10 (mkF m 88 #[.val (.ref a1), .val (.ref a2), .val (.ref a3), .val (.int ((1 : Int32) * (2 : Int32))), .val (.int (((0 : Int32) + (1 : Int32)) + (1 : Int32)))] [])
  refine own_st (fun τ κ => XS.iload X10.here hx rfl (hb hby d3_88) rfl κ) ?_
  show own_Go p e below _ T10 (mkF m 90 #[.val (.ref a1), .val (.ref a2), .val (.ref a3), .val (.int ((1 : Int32) * (2 : Int32))), .val (.int (((0 : Int32) + (1 : Int32)) + (1 : Int32)))] [(.int (((0 : Int32) + (1 : Int32)) + (1 : Int32)))])
  refine own_st (fun τ κ => XS.aloadN X10.here hx rfl (hb hby d3_90) rfl rfl κ) ?_
  show own_Go p e below _ T10 (mkF m 91 #[.val (.ref a1), .val (.ref a2), .val (.ref a3), .val (.int ((1 : Int32) * (2 : Int32))), .val (.int (((0 : Int32) + (1 : Int32)) + (1 : Int32)))] [(.ref a1), (.int (((0 : Int32) + (1 : Int32)) + (1 : Int32)))])
  refine own_getF X10 hx hZ e10 hown (hw _ (List.mem_of_getElem? (i := 9) rfl)) F_width_a1 (hb hby d3_91) ?_
  intro T11 X11 e11
  show own_Go p e below _ T11 (mkF m 94 #[.val (.ref a1), .val (.ref a2), .val (.ref a3), .val (.int ((1 : Int32) * (2 : Int32))), .val (.int (((0 : Int32) + (1 : Int32)) + (1 : Int32)))] [(.int (2 : Int32)), (.int (((0 : Int32) + (1 : Int32)) + (1 : Int32)))])
  refine own_st (fun τ κ => XS.icmpYes X11.here hx rfl (pc0 := 94) (pc' := 118) rfl (hb hby d3_94) rfl (XT.ii_ge_t (by decide)) (by decide) (by decide) κ) ?_
  show own_Go p e below _ T11 (mkF m 118 #[.val (.ref a1), .val (.ref a2), .val (.ref a3), .val (.int ((1 : Int32) * (2 : Int32))), .val (.int (((0 : Int32) + (1 : Int32)) + (1 : Int32)))] [])
  refine own_st (fun τ κ => XS.aloadN X11.here hx rfl (hb hby d3_118) rfl rfl κ) ?_
  show own_Go p e below _ T11 (mkF m 119 #[.val (.ref a1), .val (.ref a2), .val (.ref a3), .val (.int ((1 : Int32) * (2 : Int32))), .val (.int (((0 : Int32) + (1 : Int32)) + (1 : Int32)))] [(.ref a1)])
  refine own_st (fun τ κ => XS.dup X11.here hx rfl (hb hby d3_119) rfl rfl κ) ?_
  show own_Go p e below _ T11 (mkF m 120 #[.val (.ref a1), .val (.ref a2), .val (.ref a3), .val (.int ((1 : Int32) * (2 : Int32))), .val (.int (((0 : Int32) + (1 : Int32)) + (1 : Int32)))] [(.ref a1), (.ref a1)])
  refine own_getF X11 hx hZ e11 hown (hw _ (List.mem_of_getElem? (i := 19) rfl)) F_size_a1 (hb hby d3_120) ?_
  intro T12 X12 e12
  show own_Go p e below _ T12 (mkF m 123 #[.val (.ref a1), .val (.ref a2), .val (.ref a3), .val (.int ((1 : Int32) * (2 : Int32))), .val (.int (((0 : Int32) + (1 : Int32)) + (1 : Int32)))] [(.int (1 : Int32)), (.ref a1)])
  refine own_st (fun τ κ => XS.dupX1 X12.here hx rfl (hb hby d3_123) rfl rfl rfl κ) ?_
  show own_Go p e below _ T12 (mkF m 124 #[.val (.ref a1), .val (.ref a2), .val (.ref a3), .val (.int ((1 : Int32) * (2 : Int32))), .val (.int (((0 : Int32) + (1 : Int32)) + (1 : Int32)))] [(.int (1 : Int32)), (.ref a1), (.int (1 : Int32))])
  refine own_st (fun τ κ => XT.iconstV X12.here hx rfl (1) (hb hby d3_124) (by decide) κ) ?_
  show own_Go p e below _ T12 (mkF m 125 #[.val (.ref a1), .val (.ref a2), .val (.ref a3), .val (.int ((1 : Int32) * (2 : Int32))), .val (.int (((0 : Int32) + (1 : Int32)) + (1 : Int32)))] [(.int (1 : Int32)), (.int (1 : Int32)), (.ref a1), (.int (1 : Int32))])
  refine own_st (fun τ κ => XS.iadd X12.here hx rfl (hb hby d3_125) rfl κ) ?_
  show own_Go p e below _ T12 (mkF m 126 #[.val (.ref a1), .val (.ref a2), .val (.ref a3), .val (.int ((1 : Int32) * (2 : Int32))), .val (.int (((0 : Int32) + (1 : Int32)) + (1 : Int32)))] [(.int ((1 : Int32) + (1 : Int32))), (.ref a1), (.int (1 : Int32))])
  refine own_putF X12 hx hZ e12 hown (hw _ (List.mem_of_getElem? (i := 19) rfl)) F_size_a1 E_a1 (Or.inl (hw _ (List.mem_of_getElem? (i := 20) rfl))) (hw _ (List.mem_of_getElem? (i := 1) rfl)) (ty := .int) (by decide) rfl rfl N10 ga_a1 (hb hby d3_126) ?_
  intro T13 h13 X13 e13 W13 N13
  have E_a1 := E_a1.wr W13
  have F_width_a1 := F_width_a1.other W13 (Or.inr (slot_ne (Or.inr (hw _ (List.mem_of_getElem? (i := 10) rfl))) (Or.inl (hw _ (List.mem_of_getElem? (i := 20) rfl))) (by decide) (t := .int) (t' := .int) (by decide) (by decide)))
  have F_cells_a1 := F_cells_a1.other W13 (Or.inr (slot_ne (Or.inl (hw _ (List.mem_of_getElem? (i := 13) rfl))) (Or.inl (hw _ (List.mem_of_getElem? (i := 20) rfl))) (by decide) (t := (.array .int)) (t' := .int) (by decide) (by decide)))
  have F_size_a1 := F_size_a1.same W13
  have A_b1 := A_b1.keep (Keep.of_wr W13) (ninS (Ne.symm ne_a1_b1) nin0)
  have Z13 : n0 ≤ h13.size := Nat.le_trans Z10 (Keep.of_wr W13).1
  have K13 := KK10.wr W13 (Or.inl (List.mem_of_getElem? (i := 0) rfl))
  show own_Go p e below _ T13 (mkF m 129 #[.val (.ref a1), .val (.ref a2), .val (.ref a3), .val (.int ((1 : Int32) * (2 : Int32))), .val (.int (((0 : Int32) + (1 : Int32)) + (1 : Int32)))] [(.int (1 : Int32))])
  refine own_retI X13 hx hlk hret (by decide) (by decide) (hb hby d3_129) ?_
  rw [e13]
  exact ⟨rfl, N13, K13, E_a1, F_width_a1, F_cells_a1, F_size_a1, A_b1⟩

set_option maxRecDepth 65536 in
set_option maxHeartbeats 40000000 in
theorem rm4 (l : Launch) (Z : State) (a0 : Array Value) (hw : ∀ d ∈ tables_1, d.before a0 Z = true) (a1 a2 a3 b1 : Addr) (p2 : Int32) (gc gs gt : Nat → Int32) (k0 k1 j0 j1 : Nat) (hk0 : own_ix ((p2 * (2 : Int32)) + (0 : Int32)) k0 16) (hk1 : own_ix ((p2 * (2 : Int32)) + ((0 : Int32) + (1 : Int32))) k1 16) (hs0 : own_ix (gs 0) j0 4) (hs1 : own_ix (gs 1) j1 4) (h0 : Heap) (n0 : Nat) (Z0 : n0 ≤ h0.size) (ga_a3 : n0 ≤ a3) (ne_a1_a3 : a1 ≠ a3) (ne_a2_a3 : a2 ≠ a3) (ne_b1_a3 : b1 ≠ a3) (F_width_a1 : Fld Z h0 a1 "com/example/saturate/saturate/engine/Table" "width" "I" (.int (2 : Int32))) (F_cells_a1 : Fld Z h0 a1 "com/example/saturate/saturate/engine/Table" "cells" "[I" (.ref b1)) (A_b1 : own_IA Z h0 b1 16 gc) (A_a2 : own_IA Z h0 a2 2 gs) (A_a3 : own_IA Z h0 a3 4 gt) :
    own_Met l Z h0 (⟨"com/example/saturate/saturate/engine/Table", "load", "(I[I[I)V"⟩ : MethodName) prog_32_method_10_code 6 none ({ frames := 0, cells := 0, slots := 0, locals := 0 } : Room) #[(.ref a1), (.int p2), (.ref a2), (.ref a3)] (fun v h L => v = none ∧ Fr n0 L ∧ Keep h0 h [a3] ∧ own_IA Z h a3 4 (own_upd (own_upd gt j0 (gc k0)) j1 (gc k1))) := by
  refine own_body pn_4 (fun m => ef_4 m a1 p2 a2 a3) ?_
  intro p e s m below meth c T X hx hby hml hret hlk hown hnm hZ e0
  have hown : s.vm.findClass "com/example/saturate/saturate/engine/Table" = some m.cls := hown
  have hml : c.maxLocals = 6 := hml
  have N0 : Fr n0 ([] : List Loc) := Fr.nil n0
  show own_Go p e below _ T (mkF m 0 #[.val (.ref a1), .val (.int p2), .val (.ref a2), .val (.ref a3), .unset, .unset] [])
  have K0 : Keep h0 h0 [a3] := Keep.refl _ _
  refine own_st (fun τ κ => XS.iloadN X.here hx rfl (hb hby d4_0) rfl κ) ?_
  show own_Go p e below _ T (mkF m 1 #[.val (.ref a1), .val (.int p2), .val (.ref a2), .val (.ref a3), .unset, .unset] [(.int p2)])
  refine own_st (fun τ κ => XS.aloadN X.here hx rfl (hb hby d4_1) rfl rfl κ) ?_
  show own_Go p e below _ T (mkF m 2 #[.val (.ref a1), .val (.int p2), .val (.ref a2), .val (.ref a3), .unset, .unset] [(.ref a1), (.int p2)])
  refine own_getF X hx hZ e0 hown (hw _ (List.mem_of_getElem? (i := 9) rfl)) F_width_a1 (hb hby d4_2) ?_
  intro T1 X1 e1
  show own_Go p e below _ T1 (mkF m 5 #[.val (.ref a1), .val (.int p2), .val (.ref a2), .val (.ref a3), .unset, .unset] [(.int (2 : Int32)), (.int p2)])
  refine own_st (fun τ κ => XS.imul X1.here hx rfl (hb hby d4_5) rfl κ) ?_
  show own_Go p e below _ T1 (mkF m 6 #[.val (.ref a1), .val (.int p2), .val (.ref a2), .val (.ref a3), .unset, .unset] [(.int (p2 * (2 : Int32)))])
  refine own_st (fun τ κ => XS.istore X1.here hx rfl (hb hby d4_6) rfl (l' := #[.val (.ref a1), .val (.int p2), .val (.ref a2), .val (.ref a3), .val (.int (p2 * (2 : Int32))), .unset]) rfl κ) ?_
  show own_Go p e below _ T1 (mkF m 8 #[.val (.ref a1), .val (.int p2), .val (.ref a2), .val (.ref a3), .val (.int (p2 * (2 : Int32))), .unset] [])
  refine own_st (fun τ κ => XT.iconstV X1.here hx rfl (0) (hb hby d4_8) (by decide) κ) ?_
  show own_Go p e below _ T1 (mkF m 9 #[.val (.ref a1), .val (.int p2), .val (.ref a2), .val (.ref a3), .val (.int (p2 * (2 : Int32))), .unset] [(.int (0 : Int32))])
  refine own_st (fun τ κ => XS.istore X1.here hx rfl (hb hby d4_9) rfl (l' := #[.val (.ref a1), .val (.int p2), .val (.ref a2), .val (.ref a3), .val (.int (p2 * (2 : Int32))), .val (.int (0 : Int32))]) rfl κ) ?_
  show own_Go p e below _ T1 (mkF m 11 #[.val (.ref a1), .val (.int p2), .val (.ref a2), .val (.ref a3), .val (.int (p2 * (2 : Int32))), .val (.int (0 : Int32))] [])
  refine own_st (fun τ κ => XS.iload X1.here hx rfl (hb hby d4_11) rfl κ) ?_
  show own_Go p e below _ T1 (mkF m 13 #[.val (.ref a1), .val (.int p2), .val (.ref a2), .val (.ref a3), .val (.int (p2 * (2 : Int32))), .val (.int (0 : Int32))] [(.int (0 : Int32))])
  refine own_st (fun τ κ => XS.aloadN X1.here hx rfl (hb hby d4_13) rfl rfl κ) ?_
  show own_Go p e below _ T1 (mkF m 14 #[.val (.ref a1), .val (.int p2), .val (.ref a2), .val (.ref a3), .val (.int (p2 * (2 : Int32))), .val (.int (0 : Int32))] [(.ref a1), (.int (0 : Int32))])
  refine own_getF X1 hx hZ e1 hown (hw _ (List.mem_of_getElem? (i := 9) rfl)) F_width_a1 (hb hby d4_14) ?_
  intro T2 X2 e2
  show own_Go p e below _ T2 (mkF m 17 #[.val (.ref a1), .val (.int p2), .val (.ref a2), .val (.ref a3), .val (.int (p2 * (2 : Int32))), .val (.int (0 : Int32))] [(.int (2 : Int32)), (.int (0 : Int32))])
  refine own_st (fun τ κ => XS.icmpNo X2.here hx rfl (hb hby d4_17) rfl (XT.ii_ge_f (by decide)) κ) ?_
  show own_Go p e below _ T2 (mkF m 20 #[.val (.ref a1), .val (.int p2), .val (.ref a2), .val (.ref a3), .val (.int (p2 * (2 : Int32))), .val (.int (0 : Int32))] [])
  refine own_st (fun τ κ => XS.aloadN X2.here hx rfl (hb hby d4_20) rfl rfl κ) ?_
  show own_Go p e below _ T2 (mkF m 21 #[.val (.ref a1), .val (.int p2), .val (.ref a2), .val (.ref a3), .val (.int (p2 * (2 : Int32))), .val (.int (0 : Int32))] [(.ref a3)])
  refine own_st (fun τ κ => XS.aloadN X2.here hx rfl (hb hby d4_21) rfl rfl κ) ?_
  show own_Go p e below _ T2 (mkF m 22 #[.val (.ref a1), .val (.int p2), .val (.ref a2), .val (.ref a3), .val (.int (p2 * (2 : Int32))), .val (.int (0 : Int32))] [(.ref a2), (.ref a3)])
  refine own_st (fun τ κ => XS.iload X2.here hx rfl (hb hby d4_22) rfl κ) ?_
  show own_Go p e below _ T2 (mkF m 24 #[.val (.ref a1), .val (.int p2), .val (.ref a2), .val (.ref a3), .val (.int (p2 * (2 : Int32))), .val (.int (0 : Int32))] [(.int (0 : Int32)), (.ref a2), (.ref a3)])
  refine own_ldI X2 hx hZ e2 A_a2 (i := 0) (by decide) (x := (gs 0)) rfl (hb hby d4_24) ?_
  show own_Go p e below _ T2 (mkF m 25 #[.val (.ref a1), .val (.int p2), .val (.ref a2), .val (.ref a3), .val (.int (p2 * (2 : Int32))), .val (.int (0 : Int32))] [(.int (gs 0)), (.ref a3)])
  refine own_st (fun τ κ => XS.aloadN X2.here hx rfl (hb hby d4_25) rfl rfl κ) ?_
  show own_Go p e below _ T2 (mkF m 26 #[.val (.ref a1), .val (.int p2), .val (.ref a2), .val (.ref a3), .val (.int (p2 * (2 : Int32))), .val (.int (0 : Int32))] [(.ref a1), (.int (gs 0)), (.ref a3)])
  refine own_getF X2 hx hZ e2 hown (hw _ (List.mem_of_getElem? (i := 12) rfl)) F_cells_a1 (hb hby d4_26) ?_
  intro T3 X3 e3
  show own_Go p e below _ T3 (mkF m 29 #[.val (.ref a1), .val (.int p2), .val (.ref a2), .val (.ref a3), .val (.int (p2 * (2 : Int32))), .val (.int (0 : Int32))] [(.ref b1), (.int (gs 0)), (.ref a3)])
  refine own_st (fun τ κ => XS.iload X3.here hx rfl (hb hby d4_29) rfl κ) ?_
  show own_Go p e below _ T3 (mkF m 31 #[.val (.ref a1), .val (.int p2), .val (.ref a2), .val (.ref a3), .val (.int (p2 * (2 : Int32))), .val (.int (0 : Int32))] [(.int (p2 * (2 : Int32))), (.ref b1), (.int (gs 0)), (.ref a3)])
  refine own_st (fun τ κ => XS.iload X3.here hx rfl (hb hby d4_31) rfl κ) ?_
  show own_Go p e below _ T3 (mkF m 33 #[.val (.ref a1), .val (.int p2), .val (.ref a2), .val (.ref a3), .val (.int (p2 * (2 : Int32))), .val (.int (0 : Int32))] [(.int (0 : Int32)), (.int (p2 * (2 : Int32))), (.ref b1), (.int (gs 0)), (.ref a3)])
  refine own_st (fun τ κ => XS.iadd X3.here hx rfl (hb hby d4_33) rfl κ) ?_
  show own_Go p e below _ T3 (mkF m 34 #[.val (.ref a1), .val (.int p2), .val (.ref a2), .val (.ref a3), .val (.int (p2 * (2 : Int32))), .val (.int (0 : Int32))] [(.int ((p2 * (2 : Int32)) + (0 : Int32))), (.ref b1), (.int (gs 0)), (.ref a3)])
  refine own_ldI X3 hx hZ e3 A_b1 hk0 (x := (gc k0)) rfl (hb hby d4_34) ?_
  show own_Go p e below _ T3 (mkF m 35 #[.val (.ref a1), .val (.int p2), .val (.ref a2), .val (.ref a3), .val (.int (p2 * (2 : Int32))), .val (.int (0 : Int32))] [(.int (gc k0)), (.int (gs 0)), (.ref a3)])
  refine own_stI X3 hx hZ e3 A_a3 hs0 N0 ga_a3 (hb hby d4_35) ?_
  intro T4 h4 X4 e4 B4 K4 N4
  have F_width_a1 := F_width_a1.keep K4 (ninS ne_a1_a3 nin0)
  have F_cells_a1 := F_cells_a1.keep K4 (ninS ne_a1_a3 nin0)
  have A_b1 := A_b1.keep K4 (ninS ne_b1_a3 nin0)
  have A_a2 := A_a2.keep K4 (ninS ne_a2_a3 nin0)
  have A_a3 := B4
  have Z4 : n0 ≤ h4.size := Nat.le_trans Z0 K4.1
  have KK4 := K0.trans K4 (allS (Or.inl (List.mem_of_getElem? (i := 0) rfl)) all0)
  show own_Go p e below _ T4 (mkF m 36 #[.val (.ref a1), .val (.int p2), .val (.ref a2), .val (.ref a3), .val (.int (p2 * (2 : Int32))), .val (.int (0 : Int32))] [])
  refine own_st (fun τ κ => XT.iincV X4.here hx rfl (1) (hb hby d4_36) (by decide) rfl (l' := #[.val (.ref a1), .val (.int p2), .val (.ref a2), .val (.ref a3), .val (.int (p2 * (2 : Int32))), .val (.int ((0 : Int32) + (1 : Int32)))]) rfl κ) ?_
  show own_Go p e below _ T4 (mkF m 39 #[.val (.ref a1), .val (.int p2), .val (.ref a2), .val (.ref a3), .val (.int (p2 * (2 : Int32))), .val (.int ((0 : Int32) + (1 : Int32)))] [])
  refine own_st (fun τ κ => XS.goto X4.here hx rfl (pc0 := 39) (pc' := 11) rfl (hb hby d4_39) (by decide) (by decide) κ) ?_
  show own_Go p e below _ T4 (mkF m 11 #[.val (.ref a1), .val (.int p2), .val (.ref a2), .val (.ref a3), .val (.int (p2 * (2 : Int32))), .val (.int ((0 : Int32) + (1 : Int32)))] [])
  refine own_st (fun τ κ => XS.iload X4.here hx rfl (hb hby d4_11) rfl κ) ?_
  show own_Go p e below _ T4 (mkF m 13 #[.val (.ref a1), .val (.int p2), .val (.ref a2), .val (.ref a3), .val (.int (p2 * (2 : Int32))), .val (.int ((0 : Int32) + (1 : Int32)))] [(.int ((0 : Int32) + (1 : Int32)))])
  refine own_st (fun τ κ => XS.aloadN X4.here hx rfl (hb hby d4_13) rfl rfl κ) ?_
  show own_Go p e below _ T4 (mkF m 14 #[.val (.ref a1), .val (.int p2), .val (.ref a2), .val (.ref a3), .val (.int (p2 * (2 : Int32))), .val (.int ((0 : Int32) + (1 : Int32)))] [(.ref a1), (.int ((0 : Int32) + (1 : Int32)))])
  refine own_getF X4 hx hZ e4 hown (hw _ (List.mem_of_getElem? (i := 9) rfl)) F_width_a1 (hb hby d4_14) ?_
  intro T5 X5 e5
  show own_Go p e below _ T5 (mkF m 17 #[.val (.ref a1), .val (.int p2), .val (.ref a2), .val (.ref a3), .val (.int (p2 * (2 : Int32))), .val (.int ((0 : Int32) + (1 : Int32)))] [(.int (2 : Int32)), (.int ((0 : Int32) + (1 : Int32)))])
  refine own_st (fun τ κ => XS.icmpNo X5.here hx rfl (hb hby d4_17) rfl (XT.ii_ge_f (by decide)) κ) ?_
  show own_Go p e below _ T5 (mkF m 20 #[.val (.ref a1), .val (.int p2), .val (.ref a2), .val (.ref a3), .val (.int (p2 * (2 : Int32))), .val (.int ((0 : Int32) + (1 : Int32)))] [])
  refine own_st (fun τ κ => XS.aloadN X5.here hx rfl (hb hby d4_20) rfl rfl κ) ?_
  show own_Go p e below _ T5 (mkF m 21 #[.val (.ref a1), .val (.int p2), .val (.ref a2), .val (.ref a3), .val (.int (p2 * (2 : Int32))), .val (.int ((0 : Int32) + (1 : Int32)))] [(.ref a3)])
  refine own_st (fun τ κ => XS.aloadN X5.here hx rfl (hb hby d4_21) rfl rfl κ) ?_
  show own_Go p e below _ T5 (mkF m 22 #[.val (.ref a1), .val (.int p2), .val (.ref a2), .val (.ref a3), .val (.int (p2 * (2 : Int32))), .val (.int ((0 : Int32) + (1 : Int32)))] [(.ref a2), (.ref a3)])
  refine own_st (fun τ κ => XS.iload X5.here hx rfl (hb hby d4_22) rfl κ) ?_
  show own_Go p e below _ T5 (mkF m 24 #[.val (.ref a1), .val (.int p2), .val (.ref a2), .val (.ref a3), .val (.int (p2 * (2 : Int32))), .val (.int ((0 : Int32) + (1 : Int32)))] [(.int ((0 : Int32) + (1 : Int32))), (.ref a2), (.ref a3)])
  refine own_ldI X5 hx hZ e5 A_a2 (i := 1) (by decide) (x := (gs 1)) rfl (hb hby d4_24) ?_
  show own_Go p e below _ T5 (mkF m 25 #[.val (.ref a1), .val (.int p2), .val (.ref a2), .val (.ref a3), .val (.int (p2 * (2 : Int32))), .val (.int ((0 : Int32) + (1 : Int32)))] [(.int (gs 1)), (.ref a3)])
  refine own_st (fun τ κ => XS.aloadN X5.here hx rfl (hb hby d4_25) rfl rfl κ) ?_
  show own_Go p e below _ T5 (mkF m 26 #[.val (.ref a1), .val (.int p2), .val (.ref a2), .val (.ref a3), .val (.int (p2 * (2 : Int32))), .val (.int ((0 : Int32) + (1 : Int32)))] [(.ref a1), (.int (gs 1)), (.ref a3)])
  refine own_getF X5 hx hZ e5 hown (hw _ (List.mem_of_getElem? (i := 12) rfl)) F_cells_a1 (hb hby d4_26) ?_
  intro T6 X6 e6
  show own_Go p e below _ T6 (mkF m 29 #[.val (.ref a1), .val (.int p2), .val (.ref a2), .val (.ref a3), .val (.int (p2 * (2 : Int32))), .val (.int ((0 : Int32) + (1 : Int32)))] [(.ref b1), (.int (gs 1)), (.ref a3)])
  refine own_st (fun τ κ => XS.iload X6.here hx rfl (hb hby d4_29) rfl κ) ?_
  show own_Go p e below _ T6 (mkF m 31 #[.val (.ref a1), .val (.int p2), .val (.ref a2), .val (.ref a3), .val (.int (p2 * (2 : Int32))), .val (.int ((0 : Int32) + (1 : Int32)))] [(.int (p2 * (2 : Int32))), (.ref b1), (.int (gs 1)), (.ref a3)])
  refine own_st (fun τ κ => XS.iload X6.here hx rfl (hb hby d4_31) rfl κ) ?_
  show own_Go p e below _ T6 (mkF m 33 #[.val (.ref a1), .val (.int p2), .val (.ref a2), .val (.ref a3), .val (.int (p2 * (2 : Int32))), .val (.int ((0 : Int32) + (1 : Int32)))] [(.int ((0 : Int32) + (1 : Int32))), (.int (p2 * (2 : Int32))), (.ref b1), (.int (gs 1)), (.ref a3)])
  refine own_st (fun τ κ => XS.iadd X6.here hx rfl (hb hby d4_33) rfl κ) ?_
  show own_Go p e below _ T6 (mkF m 34 #[.val (.ref a1), .val (.int p2), .val (.ref a2), .val (.ref a3), .val (.int (p2 * (2 : Int32))), .val (.int ((0 : Int32) + (1 : Int32)))] [(.int ((p2 * (2 : Int32)) + ((0 : Int32) + (1 : Int32)))), (.ref b1), (.int (gs 1)), (.ref a3)])
  refine own_ldI X6 hx hZ e6 A_b1 hk1 (x := (gc k1)) rfl (hb hby d4_34) ?_
  show own_Go p e below _ T6 (mkF m 35 #[.val (.ref a1), .val (.int p2), .val (.ref a2), .val (.ref a3), .val (.int (p2 * (2 : Int32))), .val (.int ((0 : Int32) + (1 : Int32)))] [(.int (gc k1)), (.int (gs 1)), (.ref a3)])
  refine own_stI X6 hx hZ e6 A_a3 hs1 N4 ga_a3 (hb hby d4_35) ?_
  intro T7 h7 X7 e7 B7 K7 N7
  have F_width_a1 := F_width_a1.keep K7 (ninS ne_a1_a3 nin0)
  have F_cells_a1 := F_cells_a1.keep K7 (ninS ne_a1_a3 nin0)
  have A_b1 := A_b1.keep K7 (ninS ne_b1_a3 nin0)
  have A_a2 := A_a2.keep K7 (ninS ne_a2_a3 nin0)
  have A_a3 := B7
  have Z7 : n0 ≤ h7.size := Nat.le_trans Z4 K7.1
  have KK7 := KK4.trans K7 (allS (Or.inl (List.mem_of_getElem? (i := 0) rfl)) all0)
  show own_Go p e below _ T7 (mkF m 36 #[.val (.ref a1), .val (.int p2), .val (.ref a2), .val (.ref a3), .val (.int (p2 * (2 : Int32))), .val (.int ((0 : Int32) + (1 : Int32)))] [])
  refine own_st (fun τ κ => XT.iincV X7.here hx rfl (1) (hb hby d4_36) (by decide) rfl (l' := #[.val (.ref a1), .val (.int p2), .val (.ref a2), .val (.ref a3), .val (.int (p2 * (2 : Int32))), .val (.int (((0 : Int32) + (1 : Int32)) + (1 : Int32)))]) rfl κ) ?_
  show own_Go p e below _ T7 (mkF m 39 #[.val (.ref a1), .val (.int p2), .val (.ref a2), .val (.ref a3), .val (.int (p2 * (2 : Int32))), .val (.int (((0 : Int32) + (1 : Int32)) + (1 : Int32)))] [])
  refine own_st (fun τ κ => XS.goto X7.here hx rfl (pc0 := 39) (pc' := 11) rfl (hb hby d4_39) (by decide) (by decide) κ) ?_
  show own_Go p e below _ T7 (mkF m 11 #[.val (.ref a1), .val (.int p2), .val (.ref a2), .val (.ref a3), .val (.int (p2 * (2 : Int32))), .val (.int (((0 : Int32) + (1 : Int32)) + (1 : Int32)))] [])
  refine own_st (fun τ κ => XS.iload X7.here hx rfl (hb hby d4_11) rfl κ) ?_
  show own_Go p e below _ T7 (mkF m 13 #[.val (.ref a1), .val (.int p2), .val (.ref a2), .val (.ref a3), .val (.int (p2 * (2 : Int32))), .val (.int (((0 : Int32) + (1 : Int32)) + (1 : Int32)))] [(.int (((0 : Int32) + (1 : Int32)) + (1 : Int32)))])
  refine own_st (fun τ κ => XS.aloadN X7.here hx rfl (hb hby d4_13) rfl rfl κ) ?_
  show own_Go p e below _ T7 (mkF m 14 #[.val (.ref a1), .val (.int p2), .val (.ref a2), .val (.ref a3), .val (.int (p2 * (2 : Int32))), .val (.int (((0 : Int32) + (1 : Int32)) + (1 : Int32)))] [(.ref a1), (.int (((0 : Int32) + (1 : Int32)) + (1 : Int32)))])
  refine own_getF X7 hx hZ e7 hown (hw _ (List.mem_of_getElem? (i := 9) rfl)) F_width_a1 (hb hby d4_14) ?_
  intro T8 X8 e8
  show own_Go p e below _ T8 (mkF m 17 #[.val (.ref a1), .val (.int p2), .val (.ref a2), .val (.ref a3), .val (.int (p2 * (2 : Int32))), .val (.int (((0 : Int32) + (1 : Int32)) + (1 : Int32)))] [(.int (2 : Int32)), (.int (((0 : Int32) + (1 : Int32)) + (1 : Int32)))])
  refine own_st (fun τ κ => XS.icmpYes X8.here hx rfl (pc0 := 17) (pc' := 42) rfl (hb hby d4_17) rfl (XT.ii_ge_t (by decide)) (by decide) (by decide) κ) ?_
  show own_Go p e below _ T8 (mkF m 42 #[.val (.ref a1), .val (.int p2), .val (.ref a2), .val (.ref a3), .val (.int (p2 * (2 : Int32))), .val (.int (((0 : Int32) + (1 : Int32)) + (1 : Int32)))] [])
  refine own_retV X8 hx hlk hret (by decide) (by decide) (hb hby d4_42) ?_
  rw [e8]
  exact ⟨rfl, N7, KK7, A_a3⟩

set_option maxRecDepth 65536 in
set_option maxHeartbeats 40000000 in
theorem rm5 (l : Launch) (Z : State) (a0 : Array Value) (hw : ∀ d ∈ tables_1, d.before a0 Z = true) (p1 p2 p3 p4 p5 p6 : Int32) (h0 : Heap) (n0 : Nat) :
    own_Met l Z h0 (⟨"com/example/saturate/saturate/engine/TableLoadPinLaw", "expect", "(IIIIII)I"⟩ : MethodName) method_3_code 6 (some .int) ({ frames := 0, cells := 0, slots := 0, locals := 0 } : Room) #[(.int p1), (.int p2), (.int p3), (.int p4), (.int p5), (.int p6)] (fun v h L => v = some (.int (own_ex p1 p2 p3 p4 p5 p6)) ∧ Fr n0 L ∧ h = h0) := by
  refine own_body pn_5 (fun m => ef_5 m p1 p2 p3 p4 p5 p6) ?_
  intro p e s m below meth c T X hx hby hml hret hlk hown hnm hZ e0
  have hown : s.vm.findClass "com/example/saturate/saturate/engine/TableLoadPinLaw" = some m.cls := hown
  have hml : c.maxLocals = 6 := hml
  have N0 : Fr n0 ([] : List Loc) := Fr.nil n0
  show own_Go p e below _ T (mkF m 0 #[.val (.int p1), .val (.int p2), .val (.int p3), .val (.int p4), .val (.int p5), .val (.int p6)] [])
  refine own_st (fun τ κ => XS.iloadN X.here hx rfl (hb hby d5_0) rfl κ) ?_
  show own_Go p e below _ T (mkF m 1 #[.val (.int p1), .val (.int p2), .val (.int p3), .val (.int p4), .val (.int p5), .val (.int p6)] [(.int p1)])
  refine own_st (fun τ κ => XS.iloadN X.here hx rfl (hb hby d5_1) rfl κ) ?_
  show own_Go p e below _ T (mkF m 2 #[.val (.int p1), .val (.int p2), .val (.int p3), .val (.int p4), .val (.int p5), .val (.int p6)] [(.int p3), (.int p1)])
  by_cases c2 : p1 = p3
  · refine own_st (fun τ κ => XS.icmpNo X.here hx rfl (hb hby d5_2) rfl (XT.ii_ne_f c2) κ) ?_
    show own_Go p e below _ T (mkF m 5 #[.val (.int p1), .val (.int p2), .val (.int p3), .val (.int p4), .val (.int p5), .val (.int p6)] [])
    refine own_st (fun τ κ => XS.iload X.here hx rfl (hb hby d5_5) rfl κ) ?_
    show own_Go p e below _ T (mkF m 7 #[.val (.int p1), .val (.int p2), .val (.int p3), .val (.int p4), .val (.int p5), .val (.int p6)] [(.int p5)])
    refine own_retI X hx hlk hret (by decide) (by decide) (hb hby d5_7) ?_
    exact ⟨by rw [own_ex, if_pos c2], N0, e0⟩
  · refine own_st (fun τ κ => XS.icmpYes X.here hx rfl (pc0 := 2) (pc' := 8) rfl (hb hby d5_2) rfl (XT.ii_ne_t c2) (by decide) (by decide) κ) ?_
    show own_Go p e below _ T (mkF m 8 #[.val (.int p1), .val (.int p2), .val (.int p3), .val (.int p4), .val (.int p5), .val (.int p6)] [])
    refine own_st (fun τ κ => XS.iloadN X.here hx rfl (hb hby d5_8) rfl κ) ?_
    show own_Go p e below _ T (mkF m 9 #[.val (.int p1), .val (.int p2), .val (.int p3), .val (.int p4), .val (.int p5), .val (.int p6)] [(.int p1)])
    refine own_st (fun τ κ => XS.iloadN X.here hx rfl (hb hby d5_9) rfl κ) ?_
    show own_Go p e below _ T (mkF m 10 #[.val (.int p1), .val (.int p2), .val (.int p3), .val (.int p4), .val (.int p5), .val (.int p6)] [(.int p2), (.int p1)])
    by_cases c10 : p1 = p2
    · refine own_st (fun τ κ => XS.icmpNo X.here hx rfl (hb hby d5_10) rfl (XT.ii_ne_f c10) κ) ?_
      show own_Go p e below _ T (mkF m 13 #[.val (.int p1), .val (.int p2), .val (.int p3), .val (.int p4), .val (.int p5), .val (.int p6)] [])
      refine own_st (fun τ κ => XS.iloadN X.here hx rfl (hb hby d5_13) rfl κ) ?_
      show own_Go p e below _ T (mkF m 14 #[.val (.int p1), .val (.int p2), .val (.int p3), .val (.int p4), .val (.int p5), .val (.int p6)] [(.int p4)])
      refine own_retI X hx hlk hret (by decide) (by decide) (hb hby d5_14) ?_
      exact ⟨by rw [own_ex, if_neg c2, if_pos c10], N0, e0⟩
    · refine own_st (fun τ κ => XS.icmpYes X.here hx rfl (pc0 := 10) (pc' := 15) rfl (hb hby d5_10) rfl (XT.ii_ne_t c10) (by decide) (by decide) κ) ?_
      show own_Go p e below _ T (mkF m 15 #[.val (.int p1), .val (.int p2), .val (.int p3), .val (.int p4), .val (.int p5), .val (.int p6)] [])
      refine own_st (fun τ κ => XS.iload X.here hx rfl (hb hby d5_15) rfl κ) ?_
      show own_Go p e below _ T (mkF m 17 #[.val (.int p1), .val (.int p2), .val (.int p3), .val (.int p4), .val (.int p5), .val (.int p6)] [(.int p6)])
      refine own_retI X hx hlk hret (by decide) (by decide) (hb hby d5_17) ?_
      exact ⟨by rw [own_ex, if_neg c2, if_neg c10], N0, e0⟩

set_option maxRecDepth 65536 in
set_option maxHeartbeats 40000000 in
theorem rm0 (l : Launch) (Z : State) (a0 : Array Value) (hw : ∀ d ∈ tables_1, d.before a0 Z = true) (p1 p2 p3 p4 p5 p6 : Int32) (h0 : Heap) (n0 : Nat) (Z0 : n0 ≤ h0.size) :
    own_Met l Z h0 x code maxLocals ret room_1 #[(.int p1), (.int p2), (.int p3), (.int p4), (.int p5), (.int p6)] (fun v h L => v = some (.int (1 : Int32)) ∧ Fr n0 L) := by
  refine own_body pn_0 (fun m => ef_0 m p1 p2 p3 p4 p5 p6) ?_
  intro p e s m below meth c T X hx hby hml hret hlk hown hnm hZ e0
  have hown : s.vm.findClass "com/example/saturate/saturate/engine/TableLoadPinLaw" = some m.cls := hown
  have hml : c.maxLocals = 21 := hml
  have N0 : Fr n0 ([] : List Loc) := Fr.nil n0
  show own_Go p e below _ T (mkF m 0 #[.val (.int p1), .val (.int p2), .val (.int p3), .val (.int p4), .val (.int p5), .val (.int p6), .unset, .unset, .unset, .unset, .unset, .unset, .unset, .unset, .unset, .unset, .unset, .unset, .unset, .unset, .unset] [])
  refine own_new X hx hZ e0 hown (hw _ (List.mem_of_getElem? (i := 0) rfl)) (hw _ (List.mem_of_getElem? (i := 1) rfl)) (hw _ (List.mem_of_getElem? (i := 2) rfl)) (hb hby at_0) (by decide) (by decide) ?_
  intro T1 h1 o1 X1 e1 E1 g1 A1 D1
  have ga_o1 : n0 ≤ o1 := by omega
  have Z1 : n0 ≤ h1.size := Nat.le_trans Z0 E1.1
  have E_o1 := A1
  have F_width_o1 : Fld Z h1 o1 "com/example/saturate/saturate/engine/Table" "width" "I" (.int (0 : Int32)) := D1 (Or.inr (hw _ (List.mem_of_getElem? (i := 10) rfl))) (ty := .int) (by decide)
  have F_cells_o1 : Fld Z h1 o1 "com/example/saturate/saturate/engine/Table" "cells" "[I" .null := D1 (Or.inl (hw _ (List.mem_of_getElem? (i := 13) rfl))) (ty := (.array .int)) (by decide)
  have F_size_o1 : Fld Z h1 o1 "com/example/saturate/saturate/engine/Table" "size" "I" (.int (0 : Int32)) := D1 (Or.inl (hw _ (List.mem_of_getElem? (i := 20) rfl))) (ty := .int) (by decide)
  show own_Go p e below _ T1 (mkF m 3 #[.val (.int p1), .val (.int p2), .val (.int p3), .val (.int p4), .val (.int p5), .val (.int p6), .unset, .unset, .unset, .unset, .unset, .unset, .unset, .unset, .unset, .unset, .unset, .unset, .unset, .unset, .unset] [(.ref o1)])
  refine own_st (fun τ κ => XS.dup X1.here hx rfl (hb hby at_3) rfl rfl κ) ?_
  show own_Go p e below _ T1 (mkF m 4 #[.val (.int p1), .val (.int p2), .val (.int p3), .val (.int p4), .val (.int p5), .val (.int p6), .unset, .unset, .unset, .unset, .unset, .unset, .unset, .unset, .unset, .unset, .unset, .unset, .unset, .unset, .unset] [(.ref o1), (.ref o1)])
  refine own_st (fun τ κ => XT.iconstV X1.here hx rfl (2) (hb hby at_4) (by decide) κ) ?_
  show own_Go p e below _ T1 (mkF m 5 #[.val (.int p1), .val (.int p2), .val (.int p3), .val (.int p4), .val (.int p5), .val (.int p6), .unset, .unset, .unset, .unset, .unset, .unset, .unset, .unset, .unset, .unset, .unset, .unset, .unset, .unset, .unset] [(.int (2 : Int32)), (.ref o1), (.ref o1)])
  have lt_o1 := E_o1.lt
  refine own_callN X1 hx hZ e1 rfl hown (hw _ (List.mem_of_getElem? (i := 3) rfl)) (hw _ (List.mem_of_getElem? (i := 4) rfl)) (hw _ (List.mem_of_getElem? (i := 2) rfl)) (hw _ (List.mem_of_getElem? (i := 5) rfl)) (by decide) pd_1 (a := o1) (argsL := [(.int (2 : Int32))]) rfl (rm1 l Z a0 hw o1 _ _ h1 n0 Z1 ga_o1 E_o1 F_width_o1 F_cells_o1 F_size_o1) 1 (by decide) (by decide) (by decide) (by decide) (rest := [(.ref o1)]) rfl (by rw [hml]; rfl) (Nat.le_of_eq rfl) (hb hby at_5) ?_
  intro v2 T2 L2 hQ2 X2
  obtain ⟨rfl, Nq2, K2, E_o1, b1, gb1, F_width_o1, F_cells_o1, F_size_o1, A_b1⟩ := hQ2
  have N2 := Fr.app N0 Nq2
  have e2 : T2.heap = T2.heap := rfl
  have ne_o1_b1 : o1 ≠ b1 := Nat.ne_of_lt (Nat.lt_of_lt_of_le lt_o1 gb1)
  have ga_b1 : n0 ≤ b1 := by omega
  have Z2 : n0 ≤ T2.heap.size := Nat.le_trans Z1 K2.1
  show own_Go p e below _ T2 (mkF m 8 #[.val (.int p1), .val (.int p2), .val (.int p3), .val (.int p4), .val (.int p5), .val (.int p6), .unset, .unset, .unset, .unset, .unset, .unset, .unset, .unset, .unset, .unset, .unset, .unset, .unset, .unset, .unset] [(.ref o1)])
  refine own_st (fun τ κ => XS.astore X2.here hx rfl (hb hby at_8) rfl rfl (l' := #[.val (.int p1), .val (.int p2), .val (.int p3), .val (.int p4), .val (.int p5), .val (.int p6), .val (.ref o1), .unset, .unset, .unset, .unset, .unset, .unset, .unset, .unset, .unset, .unset, .unset, .unset, .unset, .unset]) rfl κ) ?_
  show own_Go p e below _ T2 (mkF m 10 #[.val (.int p1), .val (.int p2), .val (.int p3), .val (.int p4), .val (.int p5), .val (.int p6), .val (.ref o1), .unset, .unset, .unset, .unset, .unset, .unset, .unset, .unset, .unset, .unset, .unset, .unset, .unset, .unset] [])
  refine own_st (fun τ κ => XT.iconstV X2.here hx rfl (4) (hb hby at_10) (by decide) κ) ?_
  show own_Go p e below _ T2 (mkF m 11 #[.val (.int p1), .val (.int p2), .val (.int p3), .val (.int p4), .val (.int p5), .val (.int p6), .val (.ref o1), .unset, .unset, .unset, .unset, .unset, .unset, .unset, .unset, .unset, .unset, .unset, .unset, .unset, .unset] [(.int (4 : Int32))])
  refine own_newP X2 hx hZ e2 (hw _ (List.mem_of_getElem? (i := 11) rfl)) (hb hby at_11) (by decide) 4 (by decide) (by decide) (by decide) (by decide) ?_
  intro T3 h3 o3 X3 e3 E3 g3 A_o3
  have ne_o1_o3 : o1 ≠ o3 := Nat.ne_of_lt (Nat.lt_of_lt_of_eq E_o1.lt g3)
  have ne_b1_o3 : b1 ≠ o3 := Nat.ne_of_lt (Nat.lt_of_lt_of_eq A_b1.lt g3)
  have ga_o3 : n0 ≤ o3 := by omega
  have E_o1 := E_o1.ext E3
  have F_width_o1 := F_width_o1.ext E3
  have F_cells_o1 := F_cells_o1.ext E3
  have F_size_o1 := F_size_o1.ext E3
  have A_b1 := A_b1.ext E3
  have Z3 : n0 ≤ h3.size := Nat.le_trans Z2 E3.1
  have A_o3 : own_IA Z h3 o3 4 (fun _ => (0 : Int32)) := A_o3
  show own_Go p e below _ T3 (mkF m 13 #[.val (.int p1), .val (.int p2), .val (.int p3), .val (.int p4), .val (.int p5), .val (.int p6), .val (.ref o1), .unset, .unset, .unset, .unset, .unset, .unset, .unset, .unset, .unset, .unset, .unset, .unset, .unset, .unset] [(.ref o3)])
  refine own_st (fun τ κ => XS.dup X3.here hx rfl (hb hby at_13) rfl rfl κ) ?_
  show own_Go p e below _ T3 (mkF m 14 #[.val (.int p1), .val (.int p2), .val (.int p3), .val (.int p4), .val (.int p5), .val (.int p6), .val (.ref o1), .unset, .unset, .unset, .unset, .unset, .unset, .unset, .unset, .unset, .unset, .unset, .unset, .unset, .unset] [(.ref o3), (.ref o3)])
  refine own_st (fun τ κ => XT.iconstV X3.here hx rfl (0) (hb hby at_14) (by decide) κ) ?_
  show own_Go p e below _ T3 (mkF m 15 #[.val (.int p1), .val (.int p2), .val (.int p3), .val (.int p4), .val (.int p5), .val (.int p6), .val (.ref o1), .unset, .unset, .unset, .unset, .unset, .unset, .unset, .unset, .unset, .unset, .unset, .unset, .unset, .unset] [(.int (0 : Int32)), (.ref o3), (.ref o3)])
  refine own_st (fun τ κ => XS.iloadN X3.here hx rfl (hb hby at_15) rfl κ) ?_
  show own_Go p e below _ T3 (mkF m 16 #[.val (.int p1), .val (.int p2), .val (.int p3), .val (.int p4), .val (.int p5), .val (.int p6), .val (.ref o1), .unset, .unset, .unset, .unset, .unset, .unset, .unset, .unset, .unset, .unset, .unset, .unset, .unset, .unset] [(.int p1), (.int (0 : Int32)), (.ref o3), (.ref o3)])
  refine own_stI X3 hx hZ e3 A_o3 (i := 0) (by decide) N2 ga_o3 (hb hby at_16) ?_
  intro T4 h4 X4 e4 B4 K4 N4
  have E_o1 := E_o1.keep K4
  have F_width_o1 := F_width_o1.keep K4 (ninS ne_o1_o3 nin0)
  have F_cells_o1 := F_cells_o1.keep K4 (ninS ne_o1_o3 nin0)
  have F_size_o1 := F_size_o1.keep K4 (ninS ne_o1_o3 nin0)
  have A_b1 := A_b1.keep K4 (ninS ne_b1_o3 nin0)
  have A_o3 := B4
  have Z4 : n0 ≤ h4.size := Nat.le_trans Z3 K4.1
  show own_Go p e below _ T4 (mkF m 17 #[.val (.int p1), .val (.int p2), .val (.int p3), .val (.int p4), .val (.int p5), .val (.int p6), .val (.ref o1), .unset, .unset, .unset, .unset, .unset, .unset, .unset, .unset, .unset, .unset, .unset, .unset, .unset, .unset] [(.ref o3)])
  refine own_st (fun τ κ => XS.dup X4.here hx rfl (hb hby at_17) rfl rfl κ) ?_
  show own_Go p e below _ T4 (mkF m 18 #[.val (.int p1), .val (.int p2), .val (.int p3), .val (.int p4), .val (.int p5), .val (.int p6), .val (.ref o1), .unset, .unset, .unset, .unset, .unset, .unset, .unset, .unset, .unset, .unset, .unset, .unset, .unset, .unset] [(.ref o3), (.ref o3)])
  refine own_st (fun τ κ => XT.iconstV X4.here hx rfl (1) (hb hby at_18) (by decide) κ) ?_
  show own_Go p e below _ T4 (mkF m 19 #[.val (.int p1), .val (.int p2), .val (.int p3), .val (.int p4), .val (.int p5), .val (.int p6), .val (.ref o1), .unset, .unset, .unset, .unset, .unset, .unset, .unset, .unset, .unset, .unset, .unset, .unset, .unset, .unset] [(.int (1 : Int32)), (.ref o3), (.ref o3)])
  refine own_st (fun τ κ => XS.iloadN X4.here hx rfl (hb hby at_19) rfl κ) ?_
  show own_Go p e below _ T4 (mkF m 20 #[.val (.int p1), .val (.int p2), .val (.int p3), .val (.int p4), .val (.int p5), .val (.int p6), .val (.ref o1), .unset, .unset, .unset, .unset, .unset, .unset, .unset, .unset, .unset, .unset, .unset, .unset, .unset, .unset] [(.int p2), (.int (1 : Int32)), (.ref o3), (.ref o3)])
  refine own_stI X4 hx hZ e4 A_o3 (i := 1) (by decide) N4 ga_o3 (hb hby at_20) ?_
  intro T5 h5 X5 e5 B5 K5 N5
  have E_o1 := E_o1.keep K5
  have F_width_o1 := F_width_o1.keep K5 (ninS ne_o1_o3 nin0)
  have F_cells_o1 := F_cells_o1.keep K5 (ninS ne_o1_o3 nin0)
  have F_size_o1 := F_size_o1.keep K5 (ninS ne_o1_o3 nin0)
  have A_b1 := A_b1.keep K5 (ninS ne_b1_o3 nin0)
  have A_o3 := B5
  have Z5 : n0 ≤ h5.size := Nat.le_trans Z4 K5.1
  show own_Go p e below _ T5 (mkF m 21 #[.val (.int p1), .val (.int p2), .val (.int p3), .val (.int p4), .val (.int p5), .val (.int p6), .val (.ref o1), .unset, .unset, .unset, .unset, .unset, .unset, .unset, .unset, .unset, .unset, .unset, .unset, .unset, .unset] [(.ref o3)])
  refine own_st (fun τ κ => XS.dup X5.here hx rfl (hb hby at_21) rfl rfl κ) ?_
  show own_Go p e below _ T5 (mkF m 22 #[.val (.int p1), .val (.int p2), .val (.int p3), .val (.int p4), .val (.int p5), .val (.int p6), .val (.ref o1), .unset, .unset, .unset, .unset, .unset, .unset, .unset, .unset, .unset, .unset, .unset, .unset, .unset, .unset] [(.ref o3), (.ref o3)])
  refine own_st (fun τ κ => XT.iconstV X5.here hx rfl (2) (hb hby at_22) (by decide) κ) ?_
  show own_Go p e below _ T5 (mkF m 23 #[.val (.int p1), .val (.int p2), .val (.int p3), .val (.int p4), .val (.int p5), .val (.int p6), .val (.ref o1), .unset, .unset, .unset, .unset, .unset, .unset, .unset, .unset, .unset, .unset, .unset, .unset, .unset, .unset] [(.int (2 : Int32)), (.ref o3), (.ref o3)])
  refine own_st (fun τ κ => XS.iloadN X5.here hx rfl (hb hby at_23) rfl κ) ?_
  show own_Go p e below _ T5 (mkF m 24 #[.val (.int p1), .val (.int p2), .val (.int p3), .val (.int p4), .val (.int p5), .val (.int p6), .val (.ref o1), .unset, .unset, .unset, .unset, .unset, .unset, .unset, .unset, .unset, .unset, .unset, .unset, .unset, .unset] [(.int p3), (.int (2 : Int32)), (.ref o3), (.ref o3)])
  refine own_stI X5 hx hZ e5 A_o3 (i := 2) (by decide) N5 ga_o3 (hb hby at_24) ?_
  intro T6 h6 X6 e6 B6 K6 N6
  have E_o1 := E_o1.keep K6
  have F_width_o1 := F_width_o1.keep K6 (ninS ne_o1_o3 nin0)
  have F_cells_o1 := F_cells_o1.keep K6 (ninS ne_o1_o3 nin0)
  have F_size_o1 := F_size_o1.keep K6 (ninS ne_o1_o3 nin0)
  have A_b1 := A_b1.keep K6 (ninS ne_b1_o3 nin0)
  have A_o3 := B6
  have Z6 : n0 ≤ h6.size := Nat.le_trans Z5 K6.1
  show own_Go p e below _ T6 (mkF m 25 #[.val (.int p1), .val (.int p2), .val (.int p3), .val (.int p4), .val (.int p5), .val (.int p6), .val (.ref o1), .unset, .unset, .unset, .unset, .unset, .unset, .unset, .unset, .unset, .unset, .unset, .unset, .unset, .unset] [(.ref o3)])
  refine own_st (fun τ κ => XS.dup X6.here hx rfl (hb hby at_25) rfl rfl κ) ?_
  show own_Go p e below _ T6 (mkF m 26 #[.val (.int p1), .val (.int p2), .val (.int p3), .val (.int p4), .val (.int p5), .val (.int p6), .val (.ref o1), .unset, .unset, .unset, .unset, .unset, .unset, .unset, .unset, .unset, .unset, .unset, .unset, .unset, .unset] [(.ref o3), (.ref o3)])
  refine own_st (fun τ κ => XT.iconstV X6.here hx rfl (3) (hb hby at_26) (by decide) κ) ?_
  show own_Go p e below _ T6 (mkF m 27 #[.val (.int p1), .val (.int p2), .val (.int p3), .val (.int p4), .val (.int p5), .val (.int p6), .val (.ref o1), .unset, .unset, .unset, .unset, .unset, .unset, .unset, .unset, .unset, .unset, .unset, .unset, .unset, .unset] [(.int (3 : Int32)), (.ref o3), (.ref o3)])
  refine own_st (fun τ κ => XS.iloadN X6.here hx rfl (hb hby at_27) rfl κ) ?_
  show own_Go p e below _ T6 (mkF m 28 #[.val (.int p1), .val (.int p2), .val (.int p3), .val (.int p4), .val (.int p5), .val (.int p6), .val (.ref o1), .unset, .unset, .unset, .unset, .unset, .unset, .unset, .unset, .unset, .unset, .unset, .unset, .unset, .unset] [(.int p4), (.int (3 : Int32)), (.ref o3), (.ref o3)])
  refine own_stI X6 hx hZ e6 A_o3 (i := 3) (by decide) N6 ga_o3 (hb hby at_28) ?_
  intro T7 h7 X7 e7 B7 K7 N7
  have E_o1 := E_o1.keep K7
  have F_width_o1 := F_width_o1.keep K7 (ninS ne_o1_o3 nin0)
  have F_cells_o1 := F_cells_o1.keep K7 (ninS ne_o1_o3 nin0)
  have F_size_o1 := F_size_o1.keep K7 (ninS ne_o1_o3 nin0)
  have A_b1 := A_b1.keep K7 (ninS ne_b1_o3 nin0)
  have A_o3 := B7
  have Z7 : n0 ≤ h7.size := Nat.le_trans Z6 K7.1
  show own_Go p e below _ T7 (mkF m 29 #[.val (.int p1), .val (.int p2), .val (.int p3), .val (.int p4), .val (.int p5), .val (.int p6), .val (.ref o1), .unset, .unset, .unset, .unset, .unset, .unset, .unset, .unset, .unset, .unset, .unset, .unset, .unset, .unset] [(.ref o3)])
  refine own_st (fun τ κ => XS.astore X7.here hx rfl (hb hby at_29) rfl rfl (l' := #[.val (.int p1), .val (.int p2), .val (.int p3), .val (.int p4), .val (.int p5), .val (.int p6), .val (.ref o1), .val (.ref o3), .unset, .unset, .unset, .unset, .unset, .unset, .unset, .unset, .unset, .unset, .unset, .unset, .unset]) rfl κ) ?_
  show own_Go p e below _ T7 (mkF m 31 #[.val (.int p1), .val (.int p2), .val (.int p3), .val (.int p4), .val (.int p5), .val (.int p6), .val (.ref o1), .val (.ref o3), .unset, .unset, .unset, .unset, .unset, .unset, .unset, .unset, .unset, .unset, .unset, .unset, .unset] [])
  refine own_st (fun τ κ => XT.iconstV X7.here hx rfl (2) (hb hby at_31) (by decide) κ) ?_
  show own_Go p e below _ T7 (mkF m 32 #[.val (.int p1), .val (.int p2), .val (.int p3), .val (.int p4), .val (.int p5), .val (.int p6), .val (.ref o1), .val (.ref o3), .unset, .unset, .unset, .unset, .unset, .unset, .unset, .unset, .unset, .unset, .unset, .unset, .unset] [(.int (2 : Int32))])
  refine own_newP X7 hx hZ e7 (hw _ (List.mem_of_getElem? (i := 11) rfl)) (hb hby at_32) (by decide) 2 (by decide) (by decide) (by decide) (by decide) ?_
  intro T8 h8 o8 X8 e8 E8 g8 A_o8
  have ne_o1_o8 : o1 ≠ o8 := Nat.ne_of_lt (Nat.lt_of_lt_of_eq E_o1.lt g8)
  have ne_b1_o8 : b1 ≠ o8 := Nat.ne_of_lt (Nat.lt_of_lt_of_eq A_b1.lt g8)
  have ne_o3_o8 : o3 ≠ o8 := Nat.ne_of_lt (Nat.lt_of_lt_of_eq A_o3.lt g8)
  have ga_o8 : n0 ≤ o8 := by omega
  have E_o1 := E_o1.ext E8
  have F_width_o1 := F_width_o1.ext E8
  have F_cells_o1 := F_cells_o1.ext E8
  have F_size_o1 := F_size_o1.ext E8
  have A_b1 := A_b1.ext E8
  have A_o3 := A_o3.ext E8
  have Z8 : n0 ≤ h8.size := Nat.le_trans Z7 E8.1
  have A_o8 : own_IA Z h8 o8 2 (fun _ => (0 : Int32)) := A_o8
  show own_Go p e below _ T8 (mkF m 34 #[.val (.int p1), .val (.int p2), .val (.int p3), .val (.int p4), .val (.int p5), .val (.int p6), .val (.ref o1), .val (.ref o3), .unset, .unset, .unset, .unset, .unset, .unset, .unset, .unset, .unset, .unset, .unset, .unset, .unset] [(.ref o8)])
  refine own_st (fun τ κ => XS.dup X8.here hx rfl (hb hby at_34) rfl rfl κ) ?_
  show own_Go p e below _ T8 (mkF m 35 #[.val (.int p1), .val (.int p2), .val (.int p3), .val (.int p4), .val (.int p5), .val (.int p6), .val (.ref o1), .val (.ref o3), .unset, .unset, .unset, .unset, .unset, .unset, .unset, .unset, .unset, .unset, .unset, .unset, .unset] [(.ref o8), (.ref o8)])
  refine own_st (fun τ κ => XT.iconstV X8.here hx rfl (0) (hb hby at_35) (by decide) κ) ?_
  show own_Go p e below _ T8 (mkF m 36 #[.val (.int p1), .val (.int p2), .val (.int p3), .val (.int p4), .val (.int p5), .val (.int p6), .val (.ref o1), .val (.ref o3), .unset, .unset, .unset, .unset, .unset, .unset, .unset, .unset, .unset, .unset, .unset, .unset, .unset] [(.int (0 : Int32)), (.ref o8), (.ref o8)])
  refine own_st (fun τ κ => XT.iconstV X8.here hx rfl (0) (hb hby at_36) (by decide) κ) ?_
  show own_Go p e below _ T8 (mkF m 37 #[.val (.int p1), .val (.int p2), .val (.int p3), .val (.int p4), .val (.int p5), .val (.int p6), .val (.ref o1), .val (.ref o3), .unset, .unset, .unset, .unset, .unset, .unset, .unset, .unset, .unset, .unset, .unset, .unset, .unset] [(.int (0 : Int32)), (.int (0 : Int32)), (.ref o8), (.ref o8)])
  refine own_stI X8 hx hZ e8 A_o8 (i := 0) (by decide) N7 ga_o8 (hb hby at_37) ?_
  intro T9 h9 X9 e9 B9 K9 N9
  have E_o1 := E_o1.keep K9
  have F_width_o1 := F_width_o1.keep K9 (ninS ne_o1_o8 nin0)
  have F_cells_o1 := F_cells_o1.keep K9 (ninS ne_o1_o8 nin0)
  have F_size_o1 := F_size_o1.keep K9 (ninS ne_o1_o8 nin0)
  have A_b1 := A_b1.keep K9 (ninS ne_b1_o8 nin0)
  have A_o3 := A_o3.keep K9 (ninS ne_o3_o8 nin0)
  have A_o8 := B9
  have Z9 : n0 ≤ h9.size := Nat.le_trans Z8 K9.1
  show own_Go p e below _ T9 (mkF m 38 #[.val (.int p1), .val (.int p2), .val (.int p3), .val (.int p4), .val (.int p5), .val (.int p6), .val (.ref o1), .val (.ref o3), .unset, .unset, .unset, .unset, .unset, .unset, .unset, .unset, .unset, .unset, .unset, .unset, .unset] [(.ref o8)])
  refine own_st (fun τ κ => XS.dup X9.here hx rfl (hb hby at_38) rfl rfl κ) ?_
  show own_Go p e below _ T9 (mkF m 39 #[.val (.int p1), .val (.int p2), .val (.int p3), .val (.int p4), .val (.int p5), .val (.int p6), .val (.ref o1), .val (.ref o3), .unset, .unset, .unset, .unset, .unset, .unset, .unset, .unset, .unset, .unset, .unset, .unset, .unset] [(.ref o8), (.ref o8)])
  refine own_st (fun τ κ => XT.iconstV X9.here hx rfl (1) (hb hby at_39) (by decide) κ) ?_
  show own_Go p e below _ T9 (mkF m 40 #[.val (.int p1), .val (.int p2), .val (.int p3), .val (.int p4), .val (.int p5), .val (.int p6), .val (.ref o1), .val (.ref o3), .unset, .unset, .unset, .unset, .unset, .unset, .unset, .unset, .unset, .unset, .unset, .unset, .unset] [(.int (1 : Int32)), (.ref o8), (.ref o8)])
  refine own_st (fun τ κ => XT.iconstV X9.here hx rfl (1) (hb hby at_40) (by decide) κ) ?_
  show own_Go p e below _ T9 (mkF m 41 #[.val (.int p1), .val (.int p2), .val (.int p3), .val (.int p4), .val (.int p5), .val (.int p6), .val (.ref o1), .val (.ref o3), .unset, .unset, .unset, .unset, .unset, .unset, .unset, .unset, .unset, .unset, .unset, .unset, .unset] [(.int (1 : Int32)), (.int (1 : Int32)), (.ref o8), (.ref o8)])
  refine own_stI X9 hx hZ e9 A_o8 (i := 1) (by decide) N9 ga_o8 (hb hby at_41) ?_
  intro T10 h10 X10 e10 B10 K10 N10
  have E_o1 := E_o1.keep K10
  have F_width_o1 := F_width_o1.keep K10 (ninS ne_o1_o8 nin0)
  have F_cells_o1 := F_cells_o1.keep K10 (ninS ne_o1_o8 nin0)
  have F_size_o1 := F_size_o1.keep K10 (ninS ne_o1_o8 nin0)
  have A_b1 := A_b1.keep K10 (ninS ne_b1_o8 nin0)
  have A_o3 := A_o3.keep K10 (ninS ne_o3_o8 nin0)
  have A_o8 := B10
  have Z10 : n0 ≤ h10.size := Nat.le_trans Z9 K10.1
  show own_Go p e below _ T10 (mkF m 42 #[.val (.int p1), .val (.int p2), .val (.int p3), .val (.int p4), .val (.int p5), .val (.int p6), .val (.ref o1), .val (.ref o3), .unset, .unset, .unset, .unset, .unset, .unset, .unset, .unset, .unset, .unset, .unset, .unset, .unset] [(.ref o8)])
  refine own_st (fun τ κ => XS.astore X10.here hx rfl (hb hby at_42) rfl rfl (l' := #[.val (.int p1), .val (.int p2), .val (.int p3), .val (.int p4), .val (.int p5), .val (.int p6), .val (.ref o1), .val (.ref o3), .val (.ref o8), .unset, .unset, .unset, .unset, .unset, .unset, .unset, .unset, .unset, .unset, .unset, .unset]) rfl κ) ?_
  show own_Go p e below _ T10 (mkF m 44 #[.val (.int p1), .val (.int p2), .val (.int p3), .val (.int p4), .val (.int p5), .val (.int p6), .val (.ref o1), .val (.ref o3), .val (.ref o8), .unset, .unset, .unset, .unset, .unset, .unset, .unset, .unset, .unset, .unset, .unset, .unset] [])
  refine own_st (fun τ κ => XT.iconstV X10.here hx rfl (2) (hb hby at_44) (by decide) κ) ?_
  show own_Go p e below _ T10 (mkF m 45 #[.val (.int p1), .val (.int p2), .val (.int p3), .val (.int p4), .val (.int p5), .val (.int p6), .val (.ref o1), .val (.ref o3), .val (.ref o8), .unset, .unset, .unset, .unset, .unset, .unset, .unset, .unset, .unset, .unset, .unset, .unset] [(.int (2 : Int32))])
  refine own_newP X10 hx hZ e10 (hw _ (List.mem_of_getElem? (i := 11) rfl)) (hb hby at_45) (by decide) 2 (by decide) (by decide) (by decide) (by decide) ?_
  intro T11 h11 o11 X11 e11 E11 g11 A_o11
  have ne_o1_o11 : o1 ≠ o11 := Nat.ne_of_lt (Nat.lt_of_lt_of_eq E_o1.lt g11)
  have ne_b1_o11 : b1 ≠ o11 := Nat.ne_of_lt (Nat.lt_of_lt_of_eq A_b1.lt g11)
  have ne_o3_o11 : o3 ≠ o11 := Nat.ne_of_lt (Nat.lt_of_lt_of_eq A_o3.lt g11)
  have ne_o8_o11 : o8 ≠ o11 := Nat.ne_of_lt (Nat.lt_of_lt_of_eq A_o8.lt g11)
  have ga_o11 : n0 ≤ o11 := by omega
  have E_o1 := E_o1.ext E11
  have F_width_o1 := F_width_o1.ext E11
  have F_cells_o1 := F_cells_o1.ext E11
  have F_size_o1 := F_size_o1.ext E11
  have A_b1 := A_b1.ext E11
  have A_o3 := A_o3.ext E11
  have A_o8 := A_o8.ext E11
  have Z11 : n0 ≤ h11.size := Nat.le_trans Z10 E11.1
  have A_o11 : own_IA Z h11 o11 2 (fun _ => (0 : Int32)) := A_o11
  show own_Go p e below _ T11 (mkF m 47 #[.val (.int p1), .val (.int p2), .val (.int p3), .val (.int p4), .val (.int p5), .val (.int p6), .val (.ref o1), .val (.ref o3), .val (.ref o8), .unset, .unset, .unset, .unset, .unset, .unset, .unset, .unset, .unset, .unset, .unset, .unset] [(.ref o11)])
  refine own_st (fun τ κ => XS.dup X11.here hx rfl (hb hby at_47) rfl rfl κ) ?_
  show own_Go p e below _ T11 (mkF m 48 #[.val (.int p1), .val (.int p2), .val (.int p3), .val (.int p4), .val (.int p5), .val (.int p6), .val (.ref o1), .val (.ref o3), .val (.ref o8), .unset, .unset, .unset, .unset, .unset, .unset, .unset, .unset, .unset, .unset, .unset, .unset] [(.ref o11), (.ref o11)])
  refine own_st (fun τ κ => XT.iconstV X11.here hx rfl (0) (hb hby at_48) (by decide) κ) ?_
  show own_Go p e below _ T11 (mkF m 49 #[.val (.int p1), .val (.int p2), .val (.int p3), .val (.int p4), .val (.int p5), .val (.int p6), .val (.ref o1), .val (.ref o3), .val (.ref o8), .unset, .unset, .unset, .unset, .unset, .unset, .unset, .unset, .unset, .unset, .unset, .unset] [(.int (0 : Int32)), (.ref o11), (.ref o11)])
  refine own_st (fun τ κ => XT.iconstV X11.here hx rfl (2) (hb hby at_49) (by decide) κ) ?_
  show own_Go p e below _ T11 (mkF m 50 #[.val (.int p1), .val (.int p2), .val (.int p3), .val (.int p4), .val (.int p5), .val (.int p6), .val (.ref o1), .val (.ref o3), .val (.ref o8), .unset, .unset, .unset, .unset, .unset, .unset, .unset, .unset, .unset, .unset, .unset, .unset] [(.int (2 : Int32)), (.int (0 : Int32)), (.ref o11), (.ref o11)])
  refine own_stI X11 hx hZ e11 A_o11 (i := 0) (by decide) N10 ga_o11 (hb hby at_50) ?_
  intro T12 h12 X12 e12 B12 K12 N12
  have E_o1 := E_o1.keep K12
  have F_width_o1 := F_width_o1.keep K12 (ninS ne_o1_o11 nin0)
  have F_cells_o1 := F_cells_o1.keep K12 (ninS ne_o1_o11 nin0)
  have F_size_o1 := F_size_o1.keep K12 (ninS ne_o1_o11 nin0)
  have A_b1 := A_b1.keep K12 (ninS ne_b1_o11 nin0)
  have A_o3 := A_o3.keep K12 (ninS ne_o3_o11 nin0)
  have A_o8 := A_o8.keep K12 (ninS ne_o8_o11 nin0)
  have A_o11 := B12
  have Z12 : n0 ≤ h12.size := Nat.le_trans Z11 K12.1
  show own_Go p e below _ T12 (mkF m 51 #[.val (.int p1), .val (.int p2), .val (.int p3), .val (.int p4), .val (.int p5), .val (.int p6), .val (.ref o1), .val (.ref o3), .val (.ref o8), .unset, .unset, .unset, .unset, .unset, .unset, .unset, .unset, .unset, .unset, .unset, .unset] [(.ref o11)])
  refine own_st (fun τ κ => XS.dup X12.here hx rfl (hb hby at_51) rfl rfl κ) ?_
  show own_Go p e below _ T12 (mkF m 52 #[.val (.int p1), .val (.int p2), .val (.int p3), .val (.int p4), .val (.int p5), .val (.int p6), .val (.ref o1), .val (.ref o3), .val (.ref o8), .unset, .unset, .unset, .unset, .unset, .unset, .unset, .unset, .unset, .unset, .unset, .unset] [(.ref o11), (.ref o11)])
  refine own_st (fun τ κ => XT.iconstV X12.here hx rfl (1) (hb hby at_52) (by decide) κ) ?_
  show own_Go p e below _ T12 (mkF m 53 #[.val (.int p1), .val (.int p2), .val (.int p3), .val (.int p4), .val (.int p5), .val (.int p6), .val (.ref o1), .val (.ref o3), .val (.ref o8), .unset, .unset, .unset, .unset, .unset, .unset, .unset, .unset, .unset, .unset, .unset, .unset] [(.int (1 : Int32)), (.ref o11), (.ref o11)])
  refine own_st (fun τ κ => XT.iconstV X12.here hx rfl (3) (hb hby at_53) (by decide) κ) ?_
  show own_Go p e below _ T12 (mkF m 54 #[.val (.int p1), .val (.int p2), .val (.int p3), .val (.int p4), .val (.int p5), .val (.int p6), .val (.ref o1), .val (.ref o3), .val (.ref o8), .unset, .unset, .unset, .unset, .unset, .unset, .unset, .unset, .unset, .unset, .unset, .unset] [(.int (3 : Int32)), (.int (1 : Int32)), (.ref o11), (.ref o11)])
  refine own_stI X12 hx hZ e12 A_o11 (i := 1) (by decide) N12 ga_o11 (hb hby at_54) ?_
  intro T13 h13 X13 e13 B13 K13 N13
  have E_o1 := E_o1.keep K13
  have F_width_o1 := F_width_o1.keep K13 (ninS ne_o1_o11 nin0)
  have F_cells_o1 := F_cells_o1.keep K13 (ninS ne_o1_o11 nin0)
  have F_size_o1 := F_size_o1.keep K13 (ninS ne_o1_o11 nin0)
  have A_b1 := A_b1.keep K13 (ninS ne_b1_o11 nin0)
  have A_o3 := A_o3.keep K13 (ninS ne_o3_o11 nin0)
  have A_o8 := A_o8.keep K13 (ninS ne_o8_o11 nin0)
  have A_o11 := B13
  have Z13 : n0 ≤ h13.size := Nat.le_trans Z12 K13.1
  show own_Go p e below _ T13 (mkF m 55 #[.val (.int p1), .val (.int p2), .val (.int p3), .val (.int p4), .val (.int p5), .val (.int p6), .val (.ref o1), .val (.ref o3), .val (.ref o8), .unset, .unset, .unset, .unset, .unset, .unset, .unset, .unset, .unset, .unset, .unset, .unset] [(.ref o11)])
  refine own_st (fun τ κ => XS.astore X13.here hx rfl (hb hby at_55) rfl rfl (l' := #[.val (.int p1), .val (.int p2), .val (.int p3), .val (.int p4), .val (.int p5), .val (.int p6), .val (.ref o1), .val (.ref o3), .val (.ref o8), .val (.ref o11), .unset, .unset, .unset, .unset, .unset, .unset, .unset, .unset, .unset, .unset, .unset]) rfl κ) ?_
  show own_Go p e below _ T13 (mkF m 57 #[.val (.int p1), .val (.int p2), .val (.int p3), .val (.int p4), .val (.int p5), .val (.int p6), .val (.ref o1), .val (.ref o3), .val (.ref o8), .val (.ref o11), .unset, .unset, .unset, .unset, .unset, .unset, .unset, .unset, .unset, .unset, .unset] [])
  refine own_st (fun τ κ => XS.aload X13.here hx rfl (hb hby at_57) rfl rfl κ) ?_
  show own_Go p e below _ T13 (mkF m 59 #[.val (.int p1), .val (.int p2), .val (.int p3), .val (.int p4), .val (.int p5), .val (.int p6), .val (.ref o1), .val (.ref o3), .val (.ref o8), .val (.ref o11), .unset, .unset, .unset, .unset, .unset, .unset, .unset, .unset, .unset, .unset, .unset] [(.ref o1)])
  refine own_st (fun τ κ => XS.aload X13.here hx rfl (hb hby at_59) rfl rfl κ) ?_
  show own_Go p e below _ T13 (mkF m 61 #[.val (.int p1), .val (.int p2), .val (.int p3), .val (.int p4), .val (.int p5), .val (.int p6), .val (.ref o1), .val (.ref o3), .val (.ref o8), .val (.ref o11), .unset, .unset, .unset, .unset, .unset, .unset, .unset, .unset, .unset, .unset, .unset] [(.ref o3), (.ref o1)])
  refine own_st (fun τ κ => XS.aload X13.here hx rfl (hb hby at_61) rfl rfl κ) ?_
  show own_Go p e below _ T13 (mkF m 63 #[.val (.int p1), .val (.int p2), .val (.int p3), .val (.int p4), .val (.int p5), .val (.int p6), .val (.ref o1), .val (.ref o3), .val (.ref o8), .val (.ref o11), .unset, .unset, .unset, .unset, .unset, .unset, .unset, .unset, .unset, .unset, .unset] [(.ref o8), (.ref o3), (.ref o1)])
  refine own_callV X13 hx hZ e13 hown (hw _ (List.mem_of_getElem? (i := 14) rfl)) (hw _ (List.mem_of_getElem? (i := 15) rfl)) (hw _ (List.mem_of_getElem? (i := 17) rfl)) (hw _ (List.mem_of_getElem? (i := 17) rfl)) (hw _ (List.mem_of_getElem? (i := 16) rfl)) (hw _ (List.mem_of_getElem? (i := 2) rfl)) (hw _ (List.mem_of_getElem? (i := 18) rfl)) (by decide) pd_3 E_o1 (argsL := [(.ref o3), (.ref o8)]) rfl (rma0 l Z a0 hw o1 o3 o8 b1 (fun _ => (0 : Int32)) (own_upd (own_upd (own_upd (own_upd (fun _ => (0 : Int32)) 0 p1) 1 p2) 2 p3) 3 p4) (own_upd (own_upd (fun _ => (0 : Int32)) 0 (0 : Int32)) 1 (1 : Int32)) 0 1 (by decide) (by decide) h13 n0 Z13 ga_o1 ga_b1 ne_o1_b1 (Ne.symm ne_b1_o3) (Ne.symm ne_b1_o8) E_o1 F_width_o1 F_cells_o1 F_size_o1 A_b1 A_o3 A_o8) 0 (by decide) (by decide) (by decide) (by decide) (rest := []) rfl (by rw [hml]; rfl) (Nat.le_of_eq rfl) (hb hby at_63) ?_
  intro v14 T14 L14 hQ14 X14
  obtain ⟨rfl, Nq14, K14, E14, F14, G14, H14, B14⟩ := hQ14
  have N14 := Fr.app N13 Nq14
  have e14 : T14.heap = T14.heap := rfl
  have A_o3 := A_o3.keep K14 (ninS (Ne.symm ne_o1_o3) (ninS (Ne.symm ne_b1_o3) nin0))
  have A_o8 := A_o8.keep K14 (ninS (Ne.symm ne_o1_o8) (ninS (Ne.symm ne_b1_o8) nin0))
  have A_o11 := A_o11.keep K14 (ninS (Ne.symm ne_o1_o11) (ninS (Ne.symm ne_b1_o11) nin0))
  have E_o1 := E14
  have F_width_o1 := F14
  have F_cells_o1 := G14
  have F_size_o1 := H14
  have A_b1 := B14
  have Z14 : n0 ≤ T14.heap.size := Nat.le_trans Z13 K14.1
  show own_Go p e below _ T14 (mkF m 66 #[.val (.int p1), .val (.int p2), .val (.int p3), .val (.int p4), .val (.int p5), .val (.int p6), .val (.ref o1), .val (.ref o3), .val (.ref o8), .val (.ref o11), .unset, .unset, .unset, .unset, .unset, .unset, .unset, .unset, .unset, .unset, .unset] [(.int (0 : Int32))])
  refine own_st (fun τ κ => XS.pop X14.here hx rfl (hb hby at_66) rfl rfl κ) ?_
  show own_Go p e below _ T14 (mkF m 67 #[.val (.int p1), .val (.int p2), .val (.int p3), .val (.int p4), .val (.int p5), .val (.int p6), .val (.ref o1), .val (.ref o3), .val (.ref o8), .val (.ref o11), .unset, .unset, .unset, .unset, .unset, .unset, .unset, .unset, .unset, .unset, .unset] [])
  refine own_st (fun τ κ => XS.aload X14.here hx rfl (hb hby at_67) rfl rfl κ) ?_
  show own_Go p e below _ T14 (mkF m 69 #[.val (.int p1), .val (.int p2), .val (.int p3), .val (.int p4), .val (.int p5), .val (.int p6), .val (.ref o1), .val (.ref o3), .val (.ref o8), .val (.ref o11), .unset, .unset, .unset, .unset, .unset, .unset, .unset, .unset, .unset, .unset, .unset] [(.ref o1)])
  refine own_st (fun τ κ => XS.aload X14.here hx rfl (hb hby at_69) rfl rfl κ) ?_
  show own_Go p e below _ T14 (mkF m 71 #[.val (.int p1), .val (.int p2), .val (.int p3), .val (.int p4), .val (.int p5), .val (.int p6), .val (.ref o1), .val (.ref o3), .val (.ref o8), .val (.ref o11), .unset, .unset, .unset, .unset, .unset, .unset, .unset, .unset, .unset, .unset, .unset] [(.ref o3), (.ref o1)])
  refine own_st (fun τ κ => XS.aload X14.here hx rfl (hb hby at_71) rfl rfl κ) ?_
  show own_Go p e below _ T14 (mkF m 73 #[.val (.int p1), .val (.int p2), .val (.int p3), .val (.int p4), .val (.int p5), .val (.int p6), .val (.ref o1), .val (.ref o3), .val (.ref o8), .val (.ref o11), .unset, .unset, .unset, .unset, .unset, .unset, .unset, .unset, .unset, .unset, .unset] [(.ref o11), (.ref o3), (.ref o1)])
  refine own_callV X14 hx hZ e14 hown (hw _ (List.mem_of_getElem? (i := 14) rfl)) (hw _ (List.mem_of_getElem? (i := 15) rfl)) (hw _ (List.mem_of_getElem? (i := 17) rfl)) (hw _ (List.mem_of_getElem? (i := 17) rfl)) (hw _ (List.mem_of_getElem? (i := 16) rfl)) (hw _ (List.mem_of_getElem? (i := 2) rfl)) (hw _ (List.mem_of_getElem? (i := 18) rfl)) (by decide) pd_3 E_o1 (argsL := [(.ref o3), (.ref o11)]) rfl (rma1 l Z a0 hw o1 o3 o11 b1 (own_upd (own_upd (fun _ => (0 : Int32)) 0 p1) 1 p2) (own_upd (own_upd (own_upd (own_upd (fun _ => (0 : Int32)) 0 p1) 1 p2) 2 p3) 3 p4) (own_upd (own_upd (fun _ => (0 : Int32)) 0 (2 : Int32)) 1 (3 : Int32)) 2 3 (by decide) (by decide) T14.heap n0 Z14 ga_o1 ga_b1 ne_o1_b1 (Ne.symm ne_b1_o3) (Ne.symm ne_b1_o11) E_o1 F_width_o1 F_cells_o1 F_size_o1 A_b1 A_o3 A_o11) 0 (by decide) (by decide) (by decide) (by decide) (rest := []) rfl (by rw [hml]; rfl) (Nat.le_of_eq rfl) (hb hby at_73) ?_
  intro v15 T15 L15 hQ15 X15
  obtain ⟨rfl, Nq15, K15, E15, F15, G15, H15, B15⟩ := hQ15
  have N15 := Fr.app N14 Nq15
  have e15 : T15.heap = T15.heap := rfl
  have A_o3 := A_o3.keep K15 (ninS (Ne.symm ne_o1_o3) (ninS (Ne.symm ne_b1_o3) nin0))
  have A_o8 := A_o8.keep K15 (ninS (Ne.symm ne_o1_o8) (ninS (Ne.symm ne_b1_o8) nin0))
  have A_o11 := A_o11.keep K15 (ninS (Ne.symm ne_o1_o11) (ninS (Ne.symm ne_b1_o11) nin0))
  have E_o1 := E15
  have F_width_o1 := F15
  have F_cells_o1 := G15
  have F_size_o1 := H15
  have A_b1 := B15
  have Z15 : n0 ≤ T15.heap.size := Nat.le_trans Z14 K15.1
  show own_Go p e below _ T15 (mkF m 76 #[.val (.int p1), .val (.int p2), .val (.int p3), .val (.int p4), .val (.int p5), .val (.int p6), .val (.ref o1), .val (.ref o3), .val (.ref o8), .val (.ref o11), .unset, .unset, .unset, .unset, .unset, .unset, .unset, .unset, .unset, .unset, .unset] [(.int (1 : Int32))])
  refine own_st (fun τ κ => XS.pop X15.here hx rfl (hb hby at_76) rfl rfl κ) ?_
  show own_Go p e below _ T15 (mkF m 77 #[.val (.int p1), .val (.int p2), .val (.int p3), .val (.int p4), .val (.int p5), .val (.int p6), .val (.ref o1), .val (.ref o3), .val (.ref o8), .val (.ref o11), .unset, .unset, .unset, .unset, .unset, .unset, .unset, .unset, .unset, .unset, .unset] [])
  refine own_st (fun τ κ => XS.iload X15.here hx rfl (hb hby at_77) rfl κ) ?_
  show own_Go p e below _ T15 (mkF m 79 #[.val (.int p1), .val (.int p2), .val (.int p3), .val (.int p4), .val (.int p5), .val (.int p6), .val (.ref o1), .val (.ref o3), .val (.ref o8), .val (.ref o11), .unset, .unset, .unset, .unset, .unset, .unset, .unset, .unset, .unset, .unset, .unset] [(.int p5)])
  refine own_st (fun τ κ => XT.iconstV X15.here hx rfl (3) (hb hby at_79) (by decide) κ) ?_
  show own_Go p e below _ T15 (mkF m 80 #[.val (.int p1), .val (.int p2), .val (.int p3), .val (.int p4), .val (.int p5), .val (.int p6), .val (.ref o1), .val (.ref o3), .val (.ref o8), .val (.ref o11), .unset, .unset, .unset, .unset, .unset, .unset, .unset, .unset, .unset, .unset, .unset] [(.int (3 : Int32)), (.int p5)])
  refine own_st (fun τ κ => XS.iand X15.here hx rfl (hb hby at_80) rfl κ) ?_
  show own_Go p e below _ T15 (mkF m 81 #[.val (.int p1), .val (.int p2), .val (.int p3), .val (.int p4), .val (.int p5), .val (.int p6), .val (.ref o1), .val (.ref o3), .val (.ref o8), .val (.ref o11), .unset, .unset, .unset, .unset, .unset, .unset, .unset, .unset, .unset, .unset, .unset] [(.int (p5 &&& (3 : Int32)))])
  refine own_st (fun τ κ => XS.istore X15.here hx rfl (hb hby at_81) rfl (l' := #[.val (.int p1), .val (.int p2), .val (.int p3), .val (.int p4), .val (.int p5), .val (.int p6), .val (.ref o1), .val (.ref o3), .val (.ref o8), .val (.ref o11), .val (.int (p5 &&& (3 : Int32))), .unset, .unset, .unset, .unset, .unset, .unset, .unset, .unset, .unset, .unset]) rfl κ) ?_
  show own_Go p e below _ T15 (mkF m 83 #[.val (.int p1), .val (.int p2), .val (.int p3), .val (.int p4), .val (.int p5), .val (.int p6), .val (.ref o1), .val (.ref o3), .val (.ref o8), .val (.ref o11), .val (.int (p5 &&& (3 : Int32))), .unset, .unset, .unset, .unset, .unset, .unset, .unset, .unset, .unset, .unset] [])
  refine own_st (fun τ κ => XS.iload X15.here hx rfl (hb hby at_83) rfl κ) ?_
  show own_Go p e below _ T15 (mkF m 85 #[.val (.int p1), .val (.int p2), .val (.int p3), .val (.int p4), .val (.int p5), .val (.int p6), .val (.ref o1), .val (.ref o3), .val (.ref o8), .val (.ref o11), .val (.int (p5 &&& (3 : Int32))), .unset, .unset, .unset, .unset, .unset, .unset, .unset, .unset, .unset, .unset] [(.int p5)])
  refine own_st (fun τ κ => XT.iconstV X15.here hx rfl (2) (hb hby at_85) (by decide) κ) ?_
  show own_Go p e below _ T15 (mkF m 86 #[.val (.int p1), .val (.int p2), .val (.int p3), .val (.int p4), .val (.int p5), .val (.int p6), .val (.ref o1), .val (.ref o3), .val (.ref o8), .val (.ref o11), .val (.int (p5 &&& (3 : Int32))), .unset, .unset, .unset, .unset, .unset, .unset, .unset, .unset, .unset, .unset] [(.int (2 : Int32)), (.int p5)])
  refine own_st (fun τ κ => XT.iushr X15.here hx rfl (hb hby at_86) rfl κ) ?_
  show own_Go p e below _ T15 (mkF m 87 #[.val (.int p1), .val (.int p2), .val (.int p3), .val (.int p4), .val (.int p5), .val (.int p6), .val (.ref o1), .val (.ref o3), .val (.ref o8), .val (.ref o11), .val (.int (p5 &&& (3 : Int32))), .unset, .unset, .unset, .unset, .unset, .unset, .unset, .unset, .unset, .unset] [(.int (XT.ushr p5 (2 : Int32)))])
  refine own_st (fun τ κ => XT.iconstV X15.here hx rfl (3) (hb hby at_87) (by decide) κ) ?_
  show own_Go p e below _ T15 (mkF m 88 #[.val (.int p1), .val (.int p2), .val (.int p3), .val (.int p4), .val (.int p5), .val (.int p6), .val (.ref o1), .val (.ref o3), .val (.ref o8), .val (.ref o11), .val (.int (p5 &&& (3 : Int32))), .unset, .unset, .unset, .unset, .unset, .unset, .unset, .unset, .unset, .unset] [(.int (3 : Int32)), (.int (XT.ushr p5 (2 : Int32)))])
  refine own_st (fun τ κ => XS.iand X15.here hx rfl (hb hby at_88) rfl κ) ?_
  show own_Go p e below _ T15 (mkF m 89 #[.val (.int p1), .val (.int p2), .val (.int p3), .val (.int p4), .val (.int p5), .val (.int p6), .val (.ref o1), .val (.ref o3), .val (.ref o8), .val (.ref o11), .val (.int (p5 &&& (3 : Int32))), .unset, .unset, .unset, .unset, .unset, .unset, .unset, .unset, .unset, .unset] [(.int ((XT.ushr p5 (2 : Int32)) &&& (3 : Int32)))])
  refine own_st (fun τ κ => XS.istore X15.here hx rfl (hb hby at_89) rfl (l' := #[.val (.int p1), .val (.int p2), .val (.int p3), .val (.int p4), .val (.int p5), .val (.int p6), .val (.ref o1), .val (.ref o3), .val (.ref o8), .val (.ref o11), .val (.int (p5 &&& (3 : Int32))), .val (.int ((XT.ushr p5 (2 : Int32)) &&& (3 : Int32))), .unset, .unset, .unset, .unset, .unset, .unset, .unset, .unset, .unset]) rfl κ) ?_
  show own_Go p e below _ T15 (mkF m 91 #[.val (.int p1), .val (.int p2), .val (.int p3), .val (.int p4), .val (.int p5), .val (.int p6), .val (.ref o1), .val (.ref o3), .val (.ref o8), .val (.ref o11), .val (.int (p5 &&& (3 : Int32))), .val (.int ((XT.ushr p5 (2 : Int32)) &&& (3 : Int32))), .unset, .unset, .unset, .unset, .unset, .unset, .unset, .unset, .unset] [])
  refine own_st (fun τ κ => XS.iload X15.here hx rfl (hb hby at_91) rfl κ) ?_
  show own_Go p e below _ T15 (mkF m 93 #[.val (.int p1), .val (.int p2), .val (.int p3), .val (.int p4), .val (.int p5), .val (.int p6), .val (.ref o1), .val (.ref o3), .val (.ref o8), .val (.ref o11), .val (.int (p5 &&& (3 : Int32))), .val (.int ((XT.ushr p5 (2 : Int32)) &&& (3 : Int32))), .unset, .unset, .unset, .unset, .unset, .unset, .unset, .unset, .unset] [(.int p5)])
  refine own_st (fun τ κ => XT.iconstV X15.here hx rfl (4) (hb hby at_93) (by decide) κ) ?_
  show own_Go p e below _ T15 (mkF m 94 #[.val (.int p1), .val (.int p2), .val (.int p3), .val (.int p4), .val (.int p5), .val (.int p6), .val (.ref o1), .val (.ref o3), .val (.ref o8), .val (.ref o11), .val (.int (p5 &&& (3 : Int32))), .val (.int ((XT.ushr p5 (2 : Int32)) &&& (3 : Int32))), .unset, .unset, .unset, .unset, .unset, .unset, .unset, .unset, .unset] [(.int (4 : Int32)), (.int p5)])
  refine own_st (fun τ κ => XT.iushr X15.here hx rfl (hb hby at_94) rfl κ) ?_
  show own_Go p e below _ T15 (mkF m 95 #[.val (.int p1), .val (.int p2), .val (.int p3), .val (.int p4), .val (.int p5), .val (.int p6), .val (.ref o1), .val (.ref o3), .val (.ref o8), .val (.ref o11), .val (.int (p5 &&& (3 : Int32))), .val (.int ((XT.ushr p5 (2 : Int32)) &&& (3 : Int32))), .unset, .unset, .unset, .unset, .unset, .unset, .unset, .unset, .unset] [(.int (XT.ushr p5 (4 : Int32)))])
  refine own_st (fun τ κ => XT.iconstV X15.here hx rfl (1) (hb hby at_95) (by decide) κ) ?_
  show own_Go p e below _ T15 (mkF m 96 #[.val (.int p1), .val (.int p2), .val (.int p3), .val (.int p4), .val (.int p5), .val (.int p6), .val (.ref o1), .val (.ref o3), .val (.ref o8), .val (.ref o11), .val (.int (p5 &&& (3 : Int32))), .val (.int ((XT.ushr p5 (2 : Int32)) &&& (3 : Int32))), .unset, .unset, .unset, .unset, .unset, .unset, .unset, .unset, .unset] [(.int (1 : Int32)), (.int (XT.ushr p5 (4 : Int32)))])
  refine own_st (fun τ κ => XS.iand X15.here hx rfl (hb hby at_96) rfl κ) ?_
  show own_Go p e below _ T15 (mkF m 97 #[.val (.int p1), .val (.int p2), .val (.int p3), .val (.int p4), .val (.int p5), .val (.int p6), .val (.ref o1), .val (.ref o3), .val (.ref o8), .val (.ref o11), .val (.int (p5 &&& (3 : Int32))), .val (.int ((XT.ushr p5 (2 : Int32)) &&& (3 : Int32))), .unset, .unset, .unset, .unset, .unset, .unset, .unset, .unset, .unset] [(.int ((XT.ushr p5 (4 : Int32)) &&& (1 : Int32)))])
  refine own_st (fun τ κ => XS.istore X15.here hx rfl (hb hby at_97) rfl (l' := #[.val (.int p1), .val (.int p2), .val (.int p3), .val (.int p4), .val (.int p5), .val (.int p6), .val (.ref o1), .val (.ref o3), .val (.ref o8), .val (.ref o11), .val (.int (p5 &&& (3 : Int32))), .val (.int ((XT.ushr p5 (2 : Int32)) &&& (3 : Int32))), .val (.int ((XT.ushr p5 (4 : Int32)) &&& (1 : Int32))), .unset, .unset, .unset, .unset, .unset, .unset, .unset, .unset]) rfl κ) ?_
  show own_Go p e below _ T15 (mkF m 99 #[.val (.int p1), .val (.int p2), .val (.int p3), .val (.int p4), .val (.int p5), .val (.int p6), .val (.ref o1), .val (.ref o3), .val (.ref o8), .val (.ref o11), .val (.int (p5 &&& (3 : Int32))), .val (.int ((XT.ushr p5 (2 : Int32)) &&& (3 : Int32))), .val (.int ((XT.ushr p5 (4 : Int32)) &&& (1 : Int32))), .unset, .unset, .unset, .unset, .unset, .unset, .unset, .unset] [])
  refine own_st (fun τ κ => XT.iconstV X15.here hx rfl (2) (hb hby at_99) (by decide) κ) ?_
  show own_Go p e below _ T15 (mkF m 100 #[.val (.int p1), .val (.int p2), .val (.int p3), .val (.int p4), .val (.int p5), .val (.int p6), .val (.ref o1), .val (.ref o3), .val (.ref o8), .val (.ref o11), .val (.int (p5 &&& (3 : Int32))), .val (.int ((XT.ushr p5 (2 : Int32)) &&& (3 : Int32))), .val (.int ((XT.ushr p5 (4 : Int32)) &&& (1 : Int32))), .unset, .unset, .unset, .unset, .unset, .unset, .unset, .unset] [(.int (2 : Int32))])
  have A_b1 : own_IA Z T15.heap b1 16 (own_cells p1 p2 p3 p4) := A_b1
  have hs0 := own_and3 p5
  have hs1 := own_and3 (XT.ushr p5 (2 : Int32))
  have hr := own_and1 (XT.ushr p5 (4 : Int32))
  generalize (p5 &&& (3 : Int32)) = s0 at hs0 ⊢
  generalize ((XT.ushr p5 (2 : Int32)) &&& (3 : Int32)) = s1 at hs1 ⊢
  generalize ((XT.ushr p5 (4 : Int32)) &&& (1 : Int32)) = r at hr ⊢
  show own_Go p e below _ T15 (mkF m 100 #[.val (.int p1), .val (.int p2), .val (.int p3), .val (.int p4), .val (.int p5), .val (.int p6), .val (.ref o1), .val (.ref o3), .val (.ref o8), .val (.ref o11), .val (.int s0), .val (.int s1), .val (.int r), .unset, .unset, .unset, .unset, .unset, .unset, .unset, .unset] [(.int (2 : Int32))])
  refine own_newP X15 hx hZ e15 (hw _ (List.mem_of_getElem? (i := 11) rfl)) (hb hby at_100) (by decide) 2 (by decide) (by decide) (by decide) (by decide) ?_
  intro T16 h16 o16 X16 e16 E16 g16 A_o16
  have ne_o1_o16 : o1 ≠ o16 := Nat.ne_of_lt (Nat.lt_of_lt_of_eq E_o1.lt g16)
  have ne_b1_o16 : b1 ≠ o16 := Nat.ne_of_lt (Nat.lt_of_lt_of_eq A_b1.lt g16)
  have ga_o16 : n0 ≤ o16 := by omega
  have E_o1 := E_o1.ext E16
  have F_width_o1 := F_width_o1.ext E16
  have F_cells_o1 := F_cells_o1.ext E16
  have A_b1 := A_b1.ext E16
  have Z16 : n0 ≤ h16.size := Nat.le_trans Z15 E16.1
  have A_o16 : own_IA Z h16 o16 2 (fun _ => (0 : Int32)) := A_o16
  show own_Go p e below _ T16 (mkF m 102 #[.val (.int p1), .val (.int p2), .val (.int p3), .val (.int p4), .val (.int p5), .val (.int p6), .val (.ref o1), .val (.ref o3), .val (.ref o8), .val (.ref o11), .val (.int s0), .val (.int s1), .val (.int r), .unset, .unset, .unset, .unset, .unset, .unset, .unset, .unset] [(.ref o16)])
  refine own_st (fun τ κ => XS.dup X16.here hx rfl (hb hby at_102) rfl rfl κ) ?_
  show own_Go p e below _ T16 (mkF m 103 #[.val (.int p1), .val (.int p2), .val (.int p3), .val (.int p4), .val (.int p5), .val (.int p6), .val (.ref o1), .val (.ref o3), .val (.ref o8), .val (.ref o11), .val (.int s0), .val (.int s1), .val (.int r), .unset, .unset, .unset, .unset, .unset, .unset, .unset, .unset] [(.ref o16), (.ref o16)])
  refine own_st (fun τ κ => XT.iconstV X16.here hx rfl (0) (hb hby at_103) (by decide) κ) ?_
  show own_Go p e below _ T16 (mkF m 104 #[.val (.int p1), .val (.int p2), .val (.int p3), .val (.int p4), .val (.int p5), .val (.int p6), .val (.ref o1), .val (.ref o3), .val (.ref o8), .val (.ref o11), .val (.int s0), .val (.int s1), .val (.int r), .unset, .unset, .unset, .unset, .unset, .unset, .unset, .unset] [(.int (0 : Int32)), (.ref o16), (.ref o16)])
  refine own_st (fun τ κ => XS.iload X16.here hx rfl (hb hby at_104) rfl κ) ?_
  show own_Go p e below _ T16 (mkF m 106 #[.val (.int p1), .val (.int p2), .val (.int p3), .val (.int p4), .val (.int p5), .val (.int p6), .val (.ref o1), .val (.ref o3), .val (.ref o8), .val (.ref o11), .val (.int s0), .val (.int s1), .val (.int r), .unset, .unset, .unset, .unset, .unset, .unset, .unset, .unset] [(.int s0), (.int (0 : Int32)), (.ref o16), (.ref o16)])
  refine own_stI X16 hx hZ e16 A_o16 (i := 0) (by decide) N15 ga_o16 (hb hby at_106) ?_
  intro T17 h17 X17 e17 B17 K17 N17
  have E_o1 := E_o1.keep K17
  have F_width_o1 := F_width_o1.keep K17 (ninS ne_o1_o16 nin0)
  have F_cells_o1 := F_cells_o1.keep K17 (ninS ne_o1_o16 nin0)
  have A_b1 := A_b1.keep K17 (ninS ne_b1_o16 nin0)
  have A_o16 := B17
  have Z17 : n0 ≤ h17.size := Nat.le_trans Z16 K17.1
  show own_Go p e below _ T17 (mkF m 107 #[.val (.int p1), .val (.int p2), .val (.int p3), .val (.int p4), .val (.int p5), .val (.int p6), .val (.ref o1), .val (.ref o3), .val (.ref o8), .val (.ref o11), .val (.int s0), .val (.int s1), .val (.int r), .unset, .unset, .unset, .unset, .unset, .unset, .unset, .unset] [(.ref o16)])
  refine own_st (fun τ κ => XS.dup X17.here hx rfl (hb hby at_107) rfl rfl κ) ?_
  show own_Go p e below _ T17 (mkF m 108 #[.val (.int p1), .val (.int p2), .val (.int p3), .val (.int p4), .val (.int p5), .val (.int p6), .val (.ref o1), .val (.ref o3), .val (.ref o8), .val (.ref o11), .val (.int s0), .val (.int s1), .val (.int r), .unset, .unset, .unset, .unset, .unset, .unset, .unset, .unset] [(.ref o16), (.ref o16)])
  refine own_st (fun τ κ => XT.iconstV X17.here hx rfl (1) (hb hby at_108) (by decide) κ) ?_
  show own_Go p e below _ T17 (mkF m 109 #[.val (.int p1), .val (.int p2), .val (.int p3), .val (.int p4), .val (.int p5), .val (.int p6), .val (.ref o1), .val (.ref o3), .val (.ref o8), .val (.ref o11), .val (.int s0), .val (.int s1), .val (.int r), .unset, .unset, .unset, .unset, .unset, .unset, .unset, .unset] [(.int (1 : Int32)), (.ref o16), (.ref o16)])
  refine own_st (fun τ κ => XS.iload X17.here hx rfl (hb hby at_109) rfl κ) ?_
  show own_Go p e below _ T17 (mkF m 111 #[.val (.int p1), .val (.int p2), .val (.int p3), .val (.int p4), .val (.int p5), .val (.int p6), .val (.ref o1), .val (.ref o3), .val (.ref o8), .val (.ref o11), .val (.int s0), .val (.int s1), .val (.int r), .unset, .unset, .unset, .unset, .unset, .unset, .unset, .unset] [(.int s1), (.int (1 : Int32)), (.ref o16), (.ref o16)])
  refine own_stI X17 hx hZ e17 A_o16 (i := 1) (by decide) N17 ga_o16 (hb hby at_111) ?_
  intro T18 h18 X18 e18 B18 K18 N18
  have E_o1 := E_o1.keep K18
  have F_width_o1 := F_width_o1.keep K18 (ninS ne_o1_o16 nin0)
  have F_cells_o1 := F_cells_o1.keep K18 (ninS ne_o1_o16 nin0)
  have A_b1 := A_b1.keep K18 (ninS ne_b1_o16 nin0)
  have A_o16 := B18
  have Z18 : n0 ≤ h18.size := Nat.le_trans Z17 K18.1
  show own_Go p e below _ T18 (mkF m 112 #[.val (.int p1), .val (.int p2), .val (.int p3), .val (.int p4), .val (.int p5), .val (.int p6), .val (.ref o1), .val (.ref o3), .val (.ref o8), .val (.ref o11), .val (.int s0), .val (.int s1), .val (.int r), .unset, .unset, .unset, .unset, .unset, .unset, .unset, .unset] [(.ref o16)])
  refine own_st (fun τ κ => XS.astore X18.here hx rfl (hb hby at_112) rfl rfl (l' := #[.val (.int p1), .val (.int p2), .val (.int p3), .val (.int p4), .val (.int p5), .val (.int p6), .val (.ref o1), .val (.ref o3), .val (.ref o8), .val (.ref o11), .val (.int s0), .val (.int s1), .val (.int r), .val (.ref o16), .unset, .unset, .unset, .unset, .unset, .unset, .unset]) rfl κ) ?_
  show own_Go p e below _ T18 (mkF m 114 #[.val (.int p1), .val (.int p2), .val (.int p3), .val (.int p4), .val (.int p5), .val (.int p6), .val (.ref o1), .val (.ref o3), .val (.ref o8), .val (.ref o11), .val (.int s0), .val (.int s1), .val (.int r), .val (.ref o16), .unset, .unset, .unset, .unset, .unset, .unset, .unset] [])
  refine own_st (fun τ κ => XS.iload X18.here hx rfl (hb hby at_114) rfl κ) ?_
  show own_Go p e below _ T18 (mkF m 116 #[.val (.int p1), .val (.int p2), .val (.int p3), .val (.int p4), .val (.int p5), .val (.int p6), .val (.ref o1), .val (.ref o3), .val (.ref o8), .val (.ref o11), .val (.int s0), .val (.int s1), .val (.int r), .val (.ref o16), .unset, .unset, .unset, .unset, .unset, .unset, .unset] [(.int p6)])
  refine own_st (fun τ κ => XS.istore X18.here hx rfl (hb hby at_116) rfl (l' := #[.val (.int p1), .val (.int p2), .val (.int p3), .val (.int p4), .val (.int p5), .val (.int p6), .val (.ref o1), .val (.ref o3), .val (.ref o8), .val (.ref o11), .val (.int s0), .val (.int s1), .val (.int r), .val (.ref o16), .val (.int p6), .unset, .unset, .unset, .unset, .unset, .unset]) rfl κ) ?_
  show own_Go p e below _ T18 (mkF m 118 #[.val (.int p1), .val (.int p2), .val (.int p3), .val (.int p4), .val (.int p5), .val (.int p6), .val (.ref o1), .val (.ref o3), .val (.ref o8), .val (.ref o11), .val (.int s0), .val (.int s1), .val (.int r), .val (.ref o16), .val (.int p6), .unset, .unset, .unset, .unset, .unset, .unset] [])
  refine own_st (fun τ κ => XS.iload X18.here hx rfl (hb hby at_118) rfl κ) ?_
  show own_Go p e below _ T18 (mkF m 120 #[.val (.int p1), .val (.int p2), .val (.int p3), .val (.int p4), .val (.int p5), .val (.int p6), .val (.ref o1), .val (.ref o3), .val (.ref o8), .val (.ref o11), .val (.int s0), .val (.int s1), .val (.int r), .val (.ref o16), .val (.int p6), .unset, .unset, .unset, .unset, .unset, .unset] [(.int p6)])
  refine own_st (fun τ κ => XT.bipushV X18.here hx rfl (85) (hb hby at_120) (by decide) κ) ?_
  show own_Go p e below _ T18 (mkF m 122 #[.val (.int p1), .val (.int p2), .val (.int p3), .val (.int p4), .val (.int p5), .val (.int p6), .val (.ref o1), .val (.ref o3), .val (.ref o8), .val (.ref o11), .val (.int s0), .val (.int s1), .val (.int r), .val (.ref o16), .val (.int p6), .unset, .unset, .unset, .unset, .unset, .unset] [(.int (85 : Int32)), (.int p6)])
  refine own_st (fun τ κ => XS.ixor X18.here hx rfl (hb hby at_122) rfl κ) ?_
  show own_Go p e below _ T18 (mkF m 123 #[.val (.int p1), .val (.int p2), .val (.int p3), .val (.int p4), .val (.int p5), .val (.int p6), .val (.ref o1), .val (.ref o3), .val (.ref o8), .val (.ref o11), .val (.int s0), .val (.int s1), .val (.int r), .val (.ref o16), .val (.int p6), .unset, .unset, .unset, .unset, .unset, .unset] [(.int (p6 ^^^ (85 : Int32)))])
  refine own_st (fun τ κ => XS.istore X18.here hx rfl (hb hby at_123) rfl (l' := #[.val (.int p1), .val (.int p2), .val (.int p3), .val (.int p4), .val (.int p5), .val (.int p6), .val (.ref o1), .val (.ref o3), .val (.ref o8), .val (.ref o11), .val (.int s0), .val (.int s1), .val (.int r), .val (.ref o16), .val (.int p6), .val (.int (p6 ^^^ (85 : Int32))), .unset, .unset, .unset, .unset, .unset]) rfl κ) ?_
  show own_Go p e below _ T18 (mkF m 125 #[.val (.int p1), .val (.int p2), .val (.int p3), .val (.int p4), .val (.int p5), .val (.int p6), .val (.ref o1), .val (.ref o3), .val (.ref o8), .val (.ref o11), .val (.int s0), .val (.int s1), .val (.int r), .val (.ref o16), .val (.int p6), .val (.int (p6 ^^^ (85 : Int32))), .unset, .unset, .unset, .unset, .unset] [])
  refine own_st (fun τ κ => XS.iload X18.here hx rfl (hb hby at_125) rfl κ) ?_
  show own_Go p e below _ T18 (mkF m 127 #[.val (.int p1), .val (.int p2), .val (.int p3), .val (.int p4), .val (.int p5), .val (.int p6), .val (.ref o1), .val (.ref o3), .val (.ref o8), .val (.ref o11), .val (.int s0), .val (.int s1), .val (.int r), .val (.ref o16), .val (.int p6), .val (.int (p6 ^^^ (85 : Int32))), .unset, .unset, .unset, .unset, .unset] [(.int p6)])
  refine own_st (fun τ κ => XT.bipushV X18.here hx rfl (7) (hb hby at_127) (by decide) κ) ?_
  show own_Go p e below _ T18 (mkF m 129 #[.val (.int p1), .val (.int p2), .val (.int p3), .val (.int p4), .val (.int p5), .val (.int p6), .val (.ref o1), .val (.ref o3), .val (.ref o8), .val (.ref o11), .val (.int s0), .val (.int s1), .val (.int r), .val (.ref o16), .val (.int p6), .val (.int (p6 ^^^ (85 : Int32))), .unset, .unset, .unset, .unset, .unset] [(.int (7 : Int32)), (.int p6)])
  refine own_st (fun τ κ => XS.iadd X18.here hx rfl (hb hby at_129) rfl κ) ?_
  show own_Go p e below _ T18 (mkF m 130 #[.val (.int p1), .val (.int p2), .val (.int p3), .val (.int p4), .val (.int p5), .val (.int p6), .val (.ref o1), .val (.ref o3), .val (.ref o8), .val (.ref o11), .val (.int s0), .val (.int s1), .val (.int r), .val (.ref o16), .val (.int p6), .val (.int (p6 ^^^ (85 : Int32))), .unset, .unset, .unset, .unset, .unset] [(.int (p6 + (7 : Int32)))])
  refine own_st (fun τ κ => XS.istore X18.here hx rfl (hb hby at_130) rfl (l' := #[.val (.int p1), .val (.int p2), .val (.int p3), .val (.int p4), .val (.int p5), .val (.int p6), .val (.ref o1), .val (.ref o3), .val (.ref o8), .val (.ref o11), .val (.int s0), .val (.int s1), .val (.int r), .val (.ref o16), .val (.int p6), .val (.int (p6 ^^^ (85 : Int32))), .val (.int (p6 + (7 : Int32))), .unset, .unset, .unset, .unset]) rfl κ) ?_
  show own_Go p e below _ T18 (mkF m 132 #[.val (.int p1), .val (.int p2), .val (.int p3), .val (.int p4), .val (.int p5), .val (.int p6), .val (.ref o1), .val (.ref o3), .val (.ref o8), .val (.ref o11), .val (.int s0), .val (.int s1), .val (.int r), .val (.ref o16), .val (.int p6), .val (.int (p6 ^^^ (85 : Int32))), .val (.int (p6 + (7 : Int32))), .unset, .unset, .unset, .unset] [])
  refine own_st (fun τ κ => XS.iload X18.here hx rfl (hb hby at_132) rfl κ) ?_
  show own_Go p e below _ T18 (mkF m 134 #[.val (.int p1), .val (.int p2), .val (.int p3), .val (.int p4), .val (.int p5), .val (.int p6), .val (.ref o1), .val (.ref o3), .val (.ref o8), .val (.ref o11), .val (.int s0), .val (.int s1), .val (.int r), .val (.ref o16), .val (.int p6), .val (.int (p6 ^^^ (85 : Int32))), .val (.int (p6 + (7 : Int32))), .unset, .unset, .unset, .unset] [(.int p6)])
  refine own_st (fun τ κ => XT.iconstV X18.here hx rfl (-1) (hb hby at_134) (by decide) κ) ?_
  show own_Go p e below _ T18 (mkF m 135 #[.val (.int p1), .val (.int p2), .val (.int p3), .val (.int p4), .val (.int p5), .val (.int p6), .val (.ref o1), .val (.ref o3), .val (.ref o8), .val (.ref o11), .val (.int s0), .val (.int s1), .val (.int r), .val (.ref o16), .val (.int p6), .val (.int (p6 ^^^ (85 : Int32))), .val (.int (p6 + (7 : Int32))), .unset, .unset, .unset, .unset] [(.int (-1 : Int32)), (.int p6)])
  refine own_st (fun τ κ => XS.ixor X18.here hx rfl (hb hby at_135) rfl κ) ?_
  show own_Go p e below _ T18 (mkF m 136 #[.val (.int p1), .val (.int p2), .val (.int p3), .val (.int p4), .val (.int p5), .val (.int p6), .val (.ref o1), .val (.ref o3), .val (.ref o8), .val (.ref o11), .val (.int s0), .val (.int s1), .val (.int r), .val (.ref o16), .val (.int p6), .val (.int (p6 ^^^ (85 : Int32))), .val (.int (p6 + (7 : Int32))), .unset, .unset, .unset, .unset] [(.int (p6 ^^^ (-1 : Int32)))])
  refine own_st (fun τ κ => XS.istore X18.here hx rfl (hb hby at_136) rfl (l' := #[.val (.int p1), .val (.int p2), .val (.int p3), .val (.int p4), .val (.int p5), .val (.int p6), .val (.ref o1), .val (.ref o3), .val (.ref o8), .val (.ref o11), .val (.int s0), .val (.int s1), .val (.int r), .val (.ref o16), .val (.int p6), .val (.int (p6 ^^^ (85 : Int32))), .val (.int (p6 + (7 : Int32))), .val (.int (p6 ^^^ (-1 : Int32))), .unset, .unset, .unset]) rfl κ) ?_
  show own_Go p e below _ T18 (mkF m 138 #[.val (.int p1), .val (.int p2), .val (.int p3), .val (.int p4), .val (.int p5), .val (.int p6), .val (.ref o1), .val (.ref o3), .val (.ref o8), .val (.ref o11), .val (.int s0), .val (.int s1), .val (.int r), .val (.ref o16), .val (.int p6), .val (.int (p6 ^^^ (85 : Int32))), .val (.int (p6 + (7 : Int32))), .val (.int (p6 ^^^ (-1 : Int32))), .unset, .unset, .unset] [])
  refine own_st (fun τ κ => XT.iconstV X18.here hx rfl (4) (hb hby at_138) (by decide) κ) ?_
  show own_Go p e below _ T18 (mkF m 139 #[.val (.int p1), .val (.int p2), .val (.int p3), .val (.int p4), .val (.int p5), .val (.int p6), .val (.ref o1), .val (.ref o3), .val (.ref o8), .val (.ref o11), .val (.int s0), .val (.int s1), .val (.int r), .val (.ref o16), .val (.int p6), .val (.int (p6 ^^^ (85 : Int32))), .val (.int (p6 + (7 : Int32))), .val (.int (p6 ^^^ (-1 : Int32))), .unset, .unset, .unset] [(.int (4 : Int32))])
  generalize (p6 ^^^ (85 : Int32)) = f1
  generalize (p6 + (7 : Int32)) = f2
  generalize (p6 ^^^ (-1 : Int32)) = f3
  show own_Go p e below _ T18 (mkF m 139 #[.val (.int p1), .val (.int p2), .val (.int p3), .val (.int p4), .val (.int p5), .val (.int p6), .val (.ref o1), .val (.ref o3), .val (.ref o8), .val (.ref o11), .val (.int s0), .val (.int s1), .val (.int r), .val (.ref o16), .val (.int p6), .val (.int f1), .val (.int f2), .val (.int f3), .unset, .unset, .unset] [(.int (4 : Int32))])
  refine own_newP X18 hx hZ e18 (hw _ (List.mem_of_getElem? (i := 11) rfl)) (hb hby at_139) (by decide) 4 (by decide) (by decide) (by decide) (by decide) ?_
  intro T19 h19 o19 X19 e19 E19 g19 A_o19
  have ne_o1_o19 : o1 ≠ o19 := Nat.ne_of_lt (Nat.lt_of_lt_of_eq E_o1.lt g19)
  have ne_b1_o19 : b1 ≠ o19 := Nat.ne_of_lt (Nat.lt_of_lt_of_eq A_b1.lt g19)
  have ne_o16_o19 : o16 ≠ o19 := Nat.ne_of_lt (Nat.lt_of_lt_of_eq A_o16.lt g19)
  have ga_o19 : n0 ≤ o19 := by omega
  have E_o1 := E_o1.ext E19
  have F_width_o1 := F_width_o1.ext E19
  have F_cells_o1 := F_cells_o1.ext E19
  have A_b1 := A_b1.ext E19
  have A_o16 := A_o16.ext E19
  have Z19 : n0 ≤ h19.size := Nat.le_trans Z18 E19.1
  have A_o19 : own_IA Z h19 o19 4 (fun _ => (0 : Int32)) := A_o19
  show own_Go p e below _ T19 (mkF m 141 #[.val (.int p1), .val (.int p2), .val (.int p3), .val (.int p4), .val (.int p5), .val (.int p6), .val (.ref o1), .val (.ref o3), .val (.ref o8), .val (.ref o11), .val (.int s0), .val (.int s1), .val (.int r), .val (.ref o16), .val (.int p6), .val (.int f1), .val (.int f2), .val (.int f3), .unset, .unset, .unset] [(.ref o19)])
  refine own_st (fun τ κ => XS.dup X19.here hx rfl (hb hby at_141) rfl rfl κ) ?_
  show own_Go p e below _ T19 (mkF m 142 #[.val (.int p1), .val (.int p2), .val (.int p3), .val (.int p4), .val (.int p5), .val (.int p6), .val (.ref o1), .val (.ref o3), .val (.ref o8), .val (.ref o11), .val (.int s0), .val (.int s1), .val (.int r), .val (.ref o16), .val (.int p6), .val (.int f1), .val (.int f2), .val (.int f3), .unset, .unset, .unset] [(.ref o19), (.ref o19)])
  refine own_st (fun τ κ => XT.iconstV X19.here hx rfl (0) (hb hby at_142) (by decide) κ) ?_
  show own_Go p e below _ T19 (mkF m 143 #[.val (.int p1), .val (.int p2), .val (.int p3), .val (.int p4), .val (.int p5), .val (.int p6), .val (.ref o1), .val (.ref o3), .val (.ref o8), .val (.ref o11), .val (.int s0), .val (.int s1), .val (.int r), .val (.ref o16), .val (.int p6), .val (.int f1), .val (.int f2), .val (.int f3), .unset, .unset, .unset] [(.int (0 : Int32)), (.ref o19), (.ref o19)])
  refine own_st (fun τ κ => XS.iload X19.here hx rfl (hb hby at_143) rfl κ) ?_
  show own_Go p e below _ T19 (mkF m 145 #[.val (.int p1), .val (.int p2), .val (.int p3), .val (.int p4), .val (.int p5), .val (.int p6), .val (.ref o1), .val (.ref o3), .val (.ref o8), .val (.ref o11), .val (.int s0), .val (.int s1), .val (.int r), .val (.ref o16), .val (.int p6), .val (.int f1), .val (.int f2), .val (.int f3), .unset, .unset, .unset] [(.int p6), (.int (0 : Int32)), (.ref o19), (.ref o19)])
  refine own_stI X19 hx hZ e19 A_o19 (i := 0) (by decide) N18 ga_o19 (hb hby at_145) ?_
  intro T20 h20 X20 e20 B20 K20 N20
  have E_o1 := E_o1.keep K20
  have F_width_o1 := F_width_o1.keep K20 (ninS ne_o1_o19 nin0)
  have F_cells_o1 := F_cells_o1.keep K20 (ninS ne_o1_o19 nin0)
  have A_b1 := A_b1.keep K20 (ninS ne_b1_o19 nin0)
  have A_o16 := A_o16.keep K20 (ninS ne_o16_o19 nin0)
  have A_o19 := B20
  have Z20 : n0 ≤ h20.size := Nat.le_trans Z19 K20.1
  show own_Go p e below _ T20 (mkF m 146 #[.val (.int p1), .val (.int p2), .val (.int p3), .val (.int p4), .val (.int p5), .val (.int p6), .val (.ref o1), .val (.ref o3), .val (.ref o8), .val (.ref o11), .val (.int s0), .val (.int s1), .val (.int r), .val (.ref o16), .val (.int p6), .val (.int f1), .val (.int f2), .val (.int f3), .unset, .unset, .unset] [(.ref o19)])
  refine own_st (fun τ κ => XS.dup X20.here hx rfl (hb hby at_146) rfl rfl κ) ?_
  show own_Go p e below _ T20 (mkF m 147 #[.val (.int p1), .val (.int p2), .val (.int p3), .val (.int p4), .val (.int p5), .val (.int p6), .val (.ref o1), .val (.ref o3), .val (.ref o8), .val (.ref o11), .val (.int s0), .val (.int s1), .val (.int r), .val (.ref o16), .val (.int p6), .val (.int f1), .val (.int f2), .val (.int f3), .unset, .unset, .unset] [(.ref o19), (.ref o19)])
  refine own_st (fun τ κ => XT.iconstV X20.here hx rfl (1) (hb hby at_147) (by decide) κ) ?_
  show own_Go p e below _ T20 (mkF m 148 #[.val (.int p1), .val (.int p2), .val (.int p3), .val (.int p4), .val (.int p5), .val (.int p6), .val (.ref o1), .val (.ref o3), .val (.ref o8), .val (.ref o11), .val (.int s0), .val (.int s1), .val (.int r), .val (.ref o16), .val (.int p6), .val (.int f1), .val (.int f2), .val (.int f3), .unset, .unset, .unset] [(.int (1 : Int32)), (.ref o19), (.ref o19)])
  refine own_st (fun τ κ => XS.iload X20.here hx rfl (hb hby at_148) rfl κ) ?_
  show own_Go p e below _ T20 (mkF m 150 #[.val (.int p1), .val (.int p2), .val (.int p3), .val (.int p4), .val (.int p5), .val (.int p6), .val (.ref o1), .val (.ref o3), .val (.ref o8), .val (.ref o11), .val (.int s0), .val (.int s1), .val (.int r), .val (.ref o16), .val (.int p6), .val (.int f1), .val (.int f2), .val (.int f3), .unset, .unset, .unset] [(.int f1), (.int (1 : Int32)), (.ref o19), (.ref o19)])
  refine own_stI X20 hx hZ e20 A_o19 (i := 1) (by decide) N20 ga_o19 (hb hby at_150) ?_
  intro T21 h21 X21 e21 B21 K21 N21
  have E_o1 := E_o1.keep K21
  have F_width_o1 := F_width_o1.keep K21 (ninS ne_o1_o19 nin0)
  have F_cells_o1 := F_cells_o1.keep K21 (ninS ne_o1_o19 nin0)
  have A_b1 := A_b1.keep K21 (ninS ne_b1_o19 nin0)
  have A_o16 := A_o16.keep K21 (ninS ne_o16_o19 nin0)
  have A_o19 := B21
  have Z21 : n0 ≤ h21.size := Nat.le_trans Z20 K21.1
  show own_Go p e below _ T21 (mkF m 151 #[.val (.int p1), .val (.int p2), .val (.int p3), .val (.int p4), .val (.int p5), .val (.int p6), .val (.ref o1), .val (.ref o3), .val (.ref o8), .val (.ref o11), .val (.int s0), .val (.int s1), .val (.int r), .val (.ref o16), .val (.int p6), .val (.int f1), .val (.int f2), .val (.int f3), .unset, .unset, .unset] [(.ref o19)])
  refine own_st (fun τ κ => XS.dup X21.here hx rfl (hb hby at_151) rfl rfl κ) ?_
  show own_Go p e below _ T21 (mkF m 152 #[.val (.int p1), .val (.int p2), .val (.int p3), .val (.int p4), .val (.int p5), .val (.int p6), .val (.ref o1), .val (.ref o3), .val (.ref o8), .val (.ref o11), .val (.int s0), .val (.int s1), .val (.int r), .val (.ref o16), .val (.int p6), .val (.int f1), .val (.int f2), .val (.int f3), .unset, .unset, .unset] [(.ref o19), (.ref o19)])
  refine own_st (fun τ κ => XT.iconstV X21.here hx rfl (2) (hb hby at_152) (by decide) κ) ?_
  show own_Go p e below _ T21 (mkF m 153 #[.val (.int p1), .val (.int p2), .val (.int p3), .val (.int p4), .val (.int p5), .val (.int p6), .val (.ref o1), .val (.ref o3), .val (.ref o8), .val (.ref o11), .val (.int s0), .val (.int s1), .val (.int r), .val (.ref o16), .val (.int p6), .val (.int f1), .val (.int f2), .val (.int f3), .unset, .unset, .unset] [(.int (2 : Int32)), (.ref o19), (.ref o19)])
  refine own_st (fun τ κ => XS.iload X21.here hx rfl (hb hby at_153) rfl κ) ?_
  show own_Go p e below _ T21 (mkF m 155 #[.val (.int p1), .val (.int p2), .val (.int p3), .val (.int p4), .val (.int p5), .val (.int p6), .val (.ref o1), .val (.ref o3), .val (.ref o8), .val (.ref o11), .val (.int s0), .val (.int s1), .val (.int r), .val (.ref o16), .val (.int p6), .val (.int f1), .val (.int f2), .val (.int f3), .unset, .unset, .unset] [(.int f2), (.int (2 : Int32)), (.ref o19), (.ref o19)])
  refine own_stI X21 hx hZ e21 A_o19 (i := 2) (by decide) N21 ga_o19 (hb hby at_155) ?_
  intro T22 h22 X22 e22 B22 K22 N22
  have E_o1 := E_o1.keep K22
  have F_width_o1 := F_width_o1.keep K22 (ninS ne_o1_o19 nin0)
  have F_cells_o1 := F_cells_o1.keep K22 (ninS ne_o1_o19 nin0)
  have A_b1 := A_b1.keep K22 (ninS ne_b1_o19 nin0)
  have A_o16 := A_o16.keep K22 (ninS ne_o16_o19 nin0)
  have A_o19 := B22
  have Z22 : n0 ≤ h22.size := Nat.le_trans Z21 K22.1
  show own_Go p e below _ T22 (mkF m 156 #[.val (.int p1), .val (.int p2), .val (.int p3), .val (.int p4), .val (.int p5), .val (.int p6), .val (.ref o1), .val (.ref o3), .val (.ref o8), .val (.ref o11), .val (.int s0), .val (.int s1), .val (.int r), .val (.ref o16), .val (.int p6), .val (.int f1), .val (.int f2), .val (.int f3), .unset, .unset, .unset] [(.ref o19)])
  refine own_st (fun τ κ => XS.dup X22.here hx rfl (hb hby at_156) rfl rfl κ) ?_
  show own_Go p e below _ T22 (mkF m 157 #[.val (.int p1), .val (.int p2), .val (.int p3), .val (.int p4), .val (.int p5), .val (.int p6), .val (.ref o1), .val (.ref o3), .val (.ref o8), .val (.ref o11), .val (.int s0), .val (.int s1), .val (.int r), .val (.ref o16), .val (.int p6), .val (.int f1), .val (.int f2), .val (.int f3), .unset, .unset, .unset] [(.ref o19), (.ref o19)])
  refine own_st (fun τ κ => XT.iconstV X22.here hx rfl (3) (hb hby at_157) (by decide) κ) ?_
  show own_Go p e below _ T22 (mkF m 158 #[.val (.int p1), .val (.int p2), .val (.int p3), .val (.int p4), .val (.int p5), .val (.int p6), .val (.ref o1), .val (.ref o3), .val (.ref o8), .val (.ref o11), .val (.int s0), .val (.int s1), .val (.int r), .val (.ref o16), .val (.int p6), .val (.int f1), .val (.int f2), .val (.int f3), .unset, .unset, .unset] [(.int (3 : Int32)), (.ref o19), (.ref o19)])
  refine own_st (fun τ κ => XS.iload X22.here hx rfl (hb hby at_158) rfl κ) ?_
  show own_Go p e below _ T22 (mkF m 160 #[.val (.int p1), .val (.int p2), .val (.int p3), .val (.int p4), .val (.int p5), .val (.int p6), .val (.ref o1), .val (.ref o3), .val (.ref o8), .val (.ref o11), .val (.int s0), .val (.int s1), .val (.int r), .val (.ref o16), .val (.int p6), .val (.int f1), .val (.int f2), .val (.int f3), .unset, .unset, .unset] [(.int f3), (.int (3 : Int32)), (.ref o19), (.ref o19)])
  refine own_stI X22 hx hZ e22 A_o19 (i := 3) (by decide) N22 ga_o19 (hb hby at_160) ?_
  intro T23 h23 X23 e23 B23 K23 N23
  have E_o1 := E_o1.keep K23
  have F_width_o1 := F_width_o1.keep K23 (ninS ne_o1_o19 nin0)
  have F_cells_o1 := F_cells_o1.keep K23 (ninS ne_o1_o19 nin0)
  have A_b1 := A_b1.keep K23 (ninS ne_b1_o19 nin0)
  have A_o16 := A_o16.keep K23 (ninS ne_o16_o19 nin0)
  have A_o19 := B23
  have Z23 : n0 ≤ h23.size := Nat.le_trans Z22 K23.1
  show own_Go p e below _ T23 (mkF m 161 #[.val (.int p1), .val (.int p2), .val (.int p3), .val (.int p4), .val (.int p5), .val (.int p6), .val (.ref o1), .val (.ref o3), .val (.ref o8), .val (.ref o11), .val (.int s0), .val (.int s1), .val (.int r), .val (.ref o16), .val (.int p6), .val (.int f1), .val (.int f2), .val (.int f3), .unset, .unset, .unset] [(.ref o19)])
  refine own_st (fun τ κ => XS.astore X23.here hx rfl (hb hby at_161) rfl rfl (l' := #[.val (.int p1), .val (.int p2), .val (.int p3), .val (.int p4), .val (.int p5), .val (.int p6), .val (.ref o1), .val (.ref o3), .val (.ref o8), .val (.ref o11), .val (.int s0), .val (.int s1), .val (.int r), .val (.ref o16), .val (.int p6), .val (.int f1), .val (.int f2), .val (.int f3), .val (.ref o19), .unset, .unset]) rfl κ) ?_
  show own_Go p e below _ T23 (mkF m 163 #[.val (.int p1), .val (.int p2), .val (.int p3), .val (.int p4), .val (.int p5), .val (.int p6), .val (.ref o1), .val (.ref o3), .val (.ref o8), .val (.ref o11), .val (.int s0), .val (.int s1), .val (.int r), .val (.ref o16), .val (.int p6), .val (.int f1), .val (.int f2), .val (.int f3), .val (.ref o19), .unset, .unset] [])
  refine own_st (fun τ κ => XS.aload X23.here hx rfl (hb hby at_163) rfl rfl κ) ?_
  show own_Go p e below _ T23 (mkF m 165 #[.val (.int p1), .val (.int p2), .val (.int p3), .val (.int p4), .val (.int p5), .val (.int p6), .val (.ref o1), .val (.ref o3), .val (.ref o8), .val (.ref o11), .val (.int s0), .val (.int s1), .val (.int r), .val (.ref o16), .val (.int p6), .val (.int f1), .val (.int f2), .val (.int f3), .val (.ref o19), .unset, .unset] [(.ref o1)])
  refine own_st (fun τ κ => XS.iload X23.here hx rfl (hb hby at_165) rfl κ) ?_
  show own_Go p e below _ T23 (mkF m 167 #[.val (.int p1), .val (.int p2), .val (.int p3), .val (.int p4), .val (.int p5), .val (.int p6), .val (.ref o1), .val (.ref o3), .val (.ref o8), .val (.ref o11), .val (.int s0), .val (.int s1), .val (.int r), .val (.ref o16), .val (.int p6), .val (.int f1), .val (.int f2), .val (.int f3), .val (.ref o19), .unset, .unset] [(.int r), (.ref o1)])
  refine own_st (fun τ κ => XS.aload X23.here hx rfl (hb hby at_167) rfl rfl κ) ?_
  show own_Go p e below _ T23 (mkF m 169 #[.val (.int p1), .val (.int p2), .val (.int p3), .val (.int p4), .val (.int p5), .val (.int p6), .val (.ref o1), .val (.ref o3), .val (.ref o8), .val (.ref o11), .val (.int s0), .val (.int s1), .val (.int r), .val (.ref o16), .val (.int p6), .val (.int f1), .val (.int f2), .val (.int f3), .val (.ref o19), .unset, .unset] [(.ref o16), (.int r), (.ref o1)])
  refine own_st (fun τ κ => XS.aload X23.here hx rfl (hb hby at_169) rfl rfl κ) ?_
  show own_Go p e below _ T23 (mkF m 171 #[.val (.int p1), .val (.int p2), .val (.int p3), .val (.int p4), .val (.int p5), .val (.int p6), .val (.ref o1), .val (.ref o3), .val (.ref o8), .val (.ref o11), .val (.int s0), .val (.int s1), .val (.int r), .val (.ref o16), .val (.int p6), .val (.int f1), .val (.int f2), .val (.int f3), .val (.ref o19), .unset, .unset] [(.ref o19), (.ref o16), (.int r), (.ref o1)])
  refine own_callV X23 hx hZ e23 hown (hw _ (List.mem_of_getElem? (i := 21) rfl)) (hw _ (List.mem_of_getElem? (i := 22) rfl)) (hw _ (List.mem_of_getElem? (i := 24) rfl)) (hw _ (List.mem_of_getElem? (i := 24) rfl)) (hw _ (List.mem_of_getElem? (i := 23) rfl)) (hw _ (List.mem_of_getElem? (i := 2) rfl)) (hw _ (List.mem_of_getElem? (i := 25) rfl)) (by decide) pd_4 E_o1 (argsL := [(.int r), (.ref o16), (.ref o19)]) rfl (rm4 l Z a0 hw o1 o16 o19 b1 r (own_cells p1 p2 p3 p4) (own_upd (own_upd (fun _ => (0 : Int32)) 0 s0) 1 s1) (own_upd (own_upd (own_upd (own_upd (fun _ => (0 : Int32)) 0 p6) 1 f1) 2 f2) 3 f3) _ _ _ _ (own_ixr hr).1 (own_ixr hr).2 (own_ix4 hs0) (own_ix4 hs1) h23 n0 Z23 ga_o19 ne_o1_o19 ne_o16_o19 ne_b1_o19 F_width_o1 F_cells_o1 A_b1 A_o16 A_o19) 0 (by decide) (by decide) (by decide) (by decide) (rest := []) rfl (by rw [hml]; rfl) (Nat.le_of_eq rfl) (hb hby at_171) ?_
  intro v24 T24 L24 hQ24 X24
  obtain ⟨rfl, Nq24, K24, B24⟩ := hQ24
  have N24 := Fr.app N23 Nq24
  have e24 : T24.heap = T24.heap := rfl
  have E_o1 := E_o1.keep K24
  have F_width_o1 := F_width_o1.keep K24 (ninS ne_o1_o19 nin0)
  have F_cells_o1 := F_cells_o1.keep K24 (ninS ne_o1_o19 nin0)
  have A_b1 := A_b1.keep K24 (ninS ne_b1_o19 nin0)
  have A_o16 := A_o16.keep K24 (ninS ne_o16_o19 nin0)
  obtain ⟨r0, r1, r2, r3⟩ := own_plain p1 p2 p3 p4 p6 f1 f2 f3 hs0 hs1 hr (own_upd (own_upd (own_upd (own_upd (fun _ => (0 : Int32)) 0 p6) 1 f1) 2 f2) 3 f3) rfl rfl rfl rfl
  have A_o19 := B24
  show own_Go p e below _ T24 (mkF m 174 #[.val (.int p1), .val (.int p2), .val (.int p3), .val (.int p4), .val (.int p5), .val (.int p6), .val (.ref o1), .val (.ref o3), .val (.ref o8), .val (.ref o11), .val (.int s0), .val (.int s1), .val (.int r), .val (.ref o16), .val (.int p6), .val (.int f1), .val (.int f2), .val (.int f3), .val (.ref o19), .unset, .unset] [])
  refine own_st (fun τ κ => XS.iload X24.here hx rfl (hb hby at_174) rfl κ) ?_
  show own_Go p e below _ T24 (mkF m 176 #[.val (.int p1), .val (.int p2), .val (.int p3), .val (.int p4), .val (.int p5), .val (.int p6), .val (.ref o1), .val (.ref o3), .val (.ref o8), .val (.ref o11), .val (.int s0), .val (.int s1), .val (.int r), .val (.ref o16), .val (.int p6), .val (.int f1), .val (.int f2), .val (.int f3), .val (.ref o19), .unset, .unset] [(.int r)])
  suffices J184 : own_Go p e below _ T24 (mkF m 184 #[.val (.int p1), .val (.int p2), .val (.int p3), .val (.int p4), .val (.int p5), .val (.int p6), .val (.ref o1), .val (.ref o3), .val (.ref o8), .val (.ref o11), .val (.int s0), .val (.int s1), .val (.int r), .val (.ref o16), .val (.int p6), .val (.int f1), .val (.int f2), .val (.int f3), .val (.ref o19), .unset, .unset] [(.int (own_v r p1 p3))]) by
    by_cases c176 : r = (0 : Int32)
    · refine own_st (fun τ κ => XS.ifNo X24.here hx rfl (hb hby at_176) rfl (XT.i0_ne_f c176) κ) ?_
      show own_Go p e below _ T24 (mkF m 179 #[.val (.int p1), .val (.int p2), .val (.int p3), .val (.int p4), .val (.int p5), .val (.int p6), .val (.ref o1), .val (.ref o3), .val (.ref o8), .val (.ref o11), .val (.int s0), .val (.int s1), .val (.int r), .val (.ref o16), .val (.int p6), .val (.int f1), .val (.int f2), .val (.int f3), .val (.ref o19), .unset, .unset] [])
      refine own_st (fun τ κ => XS.iloadN X24.here hx rfl (hb hby at_179) rfl κ) ?_
      show own_Go p e below _ T24 (mkF m 180 #[.val (.int p1), .val (.int p2), .val (.int p3), .val (.int p4), .val (.int p5), .val (.int p6), .val (.ref o1), .val (.ref o3), .val (.ref o8), .val (.ref o11), .val (.int s0), .val (.int s1), .val (.int r), .val (.ref o16), .val (.int p6), .val (.int f1), .val (.int f2), .val (.int f3), .val (.ref o19), .unset, .unset] [(.int p1)])
      refine own_st (fun τ κ => XS.goto X24.here hx rfl (pc0 := 180) (pc' := 184) rfl (hb hby at_180) (by decide) (by decide) κ) ?_
      show own_Go p e below _ T24 (mkF m 184 #[.val (.int p1), .val (.int p2), .val (.int p3), .val (.int p4), .val (.int p5), .val (.int p6), .val (.ref o1), .val (.ref o3), .val (.ref o8), .val (.ref o11), .val (.int s0), .val (.int s1), .val (.int r), .val (.ref o16), .val (.int p6), .val (.int f1), .val (.int f2), .val (.int f3), .val (.ref o19), .unset, .unset] [(.int p1)])
      have hov : own_v r p1 p3 = p1 := if_pos c176
      rw [hov] at J184
      exact J184
    · refine own_st (fun τ κ => XS.ifYes X24.here hx rfl (pc0 := 176) (pc' := 183) rfl (hb hby at_176) rfl (XT.i0_ne_t c176) (by decide) (by decide) κ) ?_
      show own_Go p e below _ T24 (mkF m 183 #[.val (.int p1), .val (.int p2), .val (.int p3), .val (.int p4), .val (.int p5), .val (.int p6), .val (.ref o1), .val (.ref o3), .val (.ref o8), .val (.ref o11), .val (.int s0), .val (.int s1), .val (.int r), .val (.ref o16), .val (.int p6), .val (.int f1), .val (.int f2), .val (.int f3), .val (.ref o19), .unset, .unset] [])
      refine own_st (fun τ κ => XS.iloadN X24.here hx rfl (hb hby at_183) rfl κ) ?_
      show own_Go p e below _ T24 (mkF m 184 #[.val (.int p1), .val (.int p2), .val (.int p3), .val (.int p4), .val (.int p5), .val (.int p6), .val (.ref o1), .val (.ref o3), .val (.ref o8), .val (.ref o11), .val (.int s0), .val (.int s1), .val (.int r), .val (.ref o16), .val (.int p6), .val (.int f1), .val (.int f2), .val (.int f3), .val (.ref o19), .unset, .unset] [(.int p3)])
      have hov : own_v r p1 p3 = p3 := if_neg c176
      rw [hov] at J184
      exact J184
  show own_Go p e below _ T24 (mkF m 184 #[.val (.int p1), .val (.int p2), .val (.int p3), .val (.int p4), .val (.int p5), .val (.int p6), .val (.ref o1), .val (.ref o3), .val (.ref o8), .val (.ref o11), .val (.int s0), .val (.int s1), .val (.int r), .val (.ref o16), .val (.int p6), .val (.int f1), .val (.int f2), .val (.int f3), .val (.ref o19), .unset, .unset] [(.int (own_v r p1 p3))])
  refine own_st (fun τ κ => XS.istore X24.here hx rfl (hb hby at_184) rfl (l' := #[.val (.int p1), .val (.int p2), .val (.int p3), .val (.int p4), .val (.int p5), .val (.int p6), .val (.ref o1), .val (.ref o3), .val (.ref o8), .val (.ref o11), .val (.int s0), .val (.int s1), .val (.int r), .val (.ref o16), .val (.int p6), .val (.int f1), .val (.int f2), .val (.int f3), .val (.ref o19), .val (.int (own_v r p1 p3)), .unset]) rfl κ) ?_
  show own_Go p e below _ T24 (mkF m 186 #[.val (.int p1), .val (.int p2), .val (.int p3), .val (.int p4), .val (.int p5), .val (.int p6), .val (.ref o1), .val (.ref o3), .val (.ref o8), .val (.ref o11), .val (.int s0), .val (.int s1), .val (.int r), .val (.ref o16), .val (.int p6), .val (.int f1), .val (.int f2), .val (.int f3), .val (.ref o19), .val (.int (own_v r p1 p3)), .unset] [])
  refine own_st (fun τ κ => XS.iload X24.here hx rfl (hb hby at_186) rfl κ) ?_
  show own_Go p e below _ T24 (mkF m 188 #[.val (.int p1), .val (.int p2), .val (.int p3), .val (.int p4), .val (.int p5), .val (.int p6), .val (.ref o1), .val (.ref o3), .val (.ref o8), .val (.ref o11), .val (.int s0), .val (.int s1), .val (.int r), .val (.ref o16), .val (.int p6), .val (.int f1), .val (.int f2), .val (.int f3), .val (.ref o19), .val (.int (own_v r p1 p3)), .unset] [(.int r)])
  suffices J196 : own_Go p e below _ T24 (mkF m 196 #[.val (.int p1), .val (.int p2), .val (.int p3), .val (.int p4), .val (.int p5), .val (.int p6), .val (.ref o1), .val (.ref o3), .val (.ref o8), .val (.ref o11), .val (.int s0), .val (.int s1), .val (.int r), .val (.ref o16), .val (.int p6), .val (.int f1), .val (.int f2), .val (.int f3), .val (.ref o19), .val (.int (own_v r p1 p3)), .unset] [(.int (own_v r p2 p4))]) by
    by_cases c188 : r = (0 : Int32)
    · refine own_st (fun τ κ => XS.ifNo X24.here hx rfl (hb hby at_188) rfl (XT.i0_ne_f c188) κ) ?_
      show own_Go p e below _ T24 (mkF m 191 #[.val (.int p1), .val (.int p2), .val (.int p3), .val (.int p4), .val (.int p5), .val (.int p6), .val (.ref o1), .val (.ref o3), .val (.ref o8), .val (.ref o11), .val (.int s0), .val (.int s1), .val (.int r), .val (.ref o16), .val (.int p6), .val (.int f1), .val (.int f2), .val (.int f3), .val (.ref o19), .val (.int (own_v r p1 p3)), .unset] [])
      refine own_st (fun τ κ => XS.iloadN X24.here hx rfl (hb hby at_191) rfl κ) ?_
      show own_Go p e below _ T24 (mkF m 192 #[.val (.int p1), .val (.int p2), .val (.int p3), .val (.int p4), .val (.int p5), .val (.int p6), .val (.ref o1), .val (.ref o3), .val (.ref o8), .val (.ref o11), .val (.int s0), .val (.int s1), .val (.int r), .val (.ref o16), .val (.int p6), .val (.int f1), .val (.int f2), .val (.int f3), .val (.ref o19), .val (.int (own_v r p1 p3)), .unset] [(.int p2)])
      refine own_st (fun τ κ => XS.goto X24.here hx rfl (pc0 := 192) (pc' := 196) rfl (hb hby at_192) (by decide) (by decide) κ) ?_
      show own_Go p e below _ T24 (mkF m 196 #[.val (.int p1), .val (.int p2), .val (.int p3), .val (.int p4), .val (.int p5), .val (.int p6), .val (.ref o1), .val (.ref o3), .val (.ref o8), .val (.ref o11), .val (.int s0), .val (.int s1), .val (.int r), .val (.ref o16), .val (.int p6), .val (.int f1), .val (.int f2), .val (.int f3), .val (.ref o19), .val (.int (own_v r p1 p3)), .unset] [(.int p2)])
      have hov : own_v r p2 p4 = p2 := if_pos c188
      rw [hov] at J196
      exact J196
    · refine own_st (fun τ κ => XS.ifYes X24.here hx rfl (pc0 := 188) (pc' := 195) rfl (hb hby at_188) rfl (XT.i0_ne_t c188) (by decide) (by decide) κ) ?_
      show own_Go p e below _ T24 (mkF m 195 #[.val (.int p1), .val (.int p2), .val (.int p3), .val (.int p4), .val (.int p5), .val (.int p6), .val (.ref o1), .val (.ref o3), .val (.ref o8), .val (.ref o11), .val (.int s0), .val (.int s1), .val (.int r), .val (.ref o16), .val (.int p6), .val (.int f1), .val (.int f2), .val (.int f3), .val (.ref o19), .val (.int (own_v r p1 p3)), .unset] [])
      refine own_st (fun τ κ => XS.iloadN X24.here hx rfl (hb hby at_195) rfl κ) ?_
      show own_Go p e below _ T24 (mkF m 196 #[.val (.int p1), .val (.int p2), .val (.int p3), .val (.int p4), .val (.int p5), .val (.int p6), .val (.ref o1), .val (.ref o3), .val (.ref o8), .val (.ref o11), .val (.int s0), .val (.int s1), .val (.int r), .val (.ref o16), .val (.int p6), .val (.int f1), .val (.int f2), .val (.int f3), .val (.ref o19), .val (.int (own_v r p1 p3)), .unset] [(.int p4)])
      have hov : own_v r p2 p4 = p4 := if_neg c188
      rw [hov] at J196
      exact J196
  show own_Go p e below _ T24 (mkF m 196 #[.val (.int p1), .val (.int p2), .val (.int p3), .val (.int p4), .val (.int p5), .val (.int p6), .val (.ref o1), .val (.ref o3), .val (.ref o8), .val (.ref o11), .val (.int s0), .val (.int s1), .val (.int r), .val (.ref o16), .val (.int p6), .val (.int f1), .val (.int f2), .val (.int f3), .val (.ref o19), .val (.int (own_v r p1 p3)), .unset] [(.int (own_v r p2 p4))])
  refine own_st (fun τ κ => XS.istore X24.here hx rfl (hb hby at_196) rfl (l' := #[.val (.int p1), .val (.int p2), .val (.int p3), .val (.int p4), .val (.int p5), .val (.int p6), .val (.ref o1), .val (.ref o3), .val (.ref o8), .val (.ref o11), .val (.int s0), .val (.int s1), .val (.int r), .val (.ref o16), .val (.int p6), .val (.int f1), .val (.int f2), .val (.int f3), .val (.ref o19), .val (.int (own_v r p1 p3)), .val (.int (own_v r p2 p4))]) rfl κ) ?_
  show own_Go p e below _ T24 (mkF m 198 #[.val (.int p1), .val (.int p2), .val (.int p3), .val (.int p4), .val (.int p5), .val (.int p6), .val (.ref o1), .val (.ref o3), .val (.ref o8), .val (.ref o11), .val (.int s0), .val (.int s1), .val (.int r), .val (.ref o16), .val (.int p6), .val (.int f1), .val (.int f2), .val (.int f3), .val (.ref o19), .val (.int (own_v r p1 p3)), .val (.int (own_v r p2 p4))] [])
  refine own_st (fun τ κ => XS.aload X24.here hx rfl (hb hby at_198) rfl rfl κ) ?_
  show own_Go p e below _ T24 (mkF m 200 #[.val (.int p1), .val (.int p2), .val (.int p3), .val (.int p4), .val (.int p5), .val (.int p6), .val (.ref o1), .val (.ref o3), .val (.ref o8), .val (.ref o11), .val (.int s0), .val (.int s1), .val (.int r), .val (.ref o16), .val (.int p6), .val (.int f1), .val (.int f2), .val (.int f3), .val (.ref o19), .val (.int (own_v r p1 p3)), .val (.int (own_v r p2 p4))] [(.ref o19)])
  refine own_st (fun τ κ => XT.iconstV X24.here hx rfl (0) (hb hby at_200) (by decide) κ) ?_
  show own_Go p e below _ T24 (mkF m 201 #[.val (.int p1), .val (.int p2), .val (.int p3), .val (.int p4), .val (.int p5), .val (.int p6), .val (.ref o1), .val (.ref o3), .val (.ref o8), .val (.ref o11), .val (.int s0), .val (.int s1), .val (.int r), .val (.ref o16), .val (.int p6), .val (.int f1), .val (.int f2), .val (.int f3), .val (.ref o19), .val (.int (own_v r p1 p3)), .val (.int (own_v r p2 p4))] [(.int (0 : Int32)), (.ref o19)])
  refine own_ldI X24 hx hZ e24 A_o19 (i := 0) (by decide) (x := (own_ex (0 : Int32) s0 s1 (own_v r p1 p3) (own_v r p2 p4) p6)) r0 (hb hby at_201) ?_
  show own_Go p e below _ T24 (mkF m 202 #[.val (.int p1), .val (.int p2), .val (.int p3), .val (.int p4), .val (.int p5), .val (.int p6), .val (.ref o1), .val (.ref o3), .val (.ref o8), .val (.ref o11), .val (.int s0), .val (.int s1), .val (.int r), .val (.ref o16), .val (.int p6), .val (.int f1), .val (.int f2), .val (.int f3), .val (.ref o19), .val (.int (own_v r p1 p3)), .val (.int (own_v r p2 p4))] [(.int (own_ex (0 : Int32) s0 s1 (own_v r p1 p3) (own_v r p2 p4) p6))])
  refine own_st (fun τ κ => XT.iconstV X24.here hx rfl (0) (hb hby at_202) (by decide) κ) ?_
  show own_Go p e below _ T24 (mkF m 203 #[.val (.int p1), .val (.int p2), .val (.int p3), .val (.int p4), .val (.int p5), .val (.int p6), .val (.ref o1), .val (.ref o3), .val (.ref o8), .val (.ref o11), .val (.int s0), .val (.int s1), .val (.int r), .val (.ref o16), .val (.int p6), .val (.int f1), .val (.int f2), .val (.int f3), .val (.ref o19), .val (.int (own_v r p1 p3)), .val (.int (own_v r p2 p4))] [(.int (0 : Int32)), (.int (own_ex (0 : Int32) s0 s1 (own_v r p1 p3) (own_v r p2 p4) p6))])
  refine own_st (fun τ κ => XS.iload X24.here hx rfl (hb hby at_203) rfl κ) ?_
  show own_Go p e below _ T24 (mkF m 205 #[.val (.int p1), .val (.int p2), .val (.int p3), .val (.int p4), .val (.int p5), .val (.int p6), .val (.ref o1), .val (.ref o3), .val (.ref o8), .val (.ref o11), .val (.int s0), .val (.int s1), .val (.int r), .val (.ref o16), .val (.int p6), .val (.int f1), .val (.int f2), .val (.int f3), .val (.ref o19), .val (.int (own_v r p1 p3)), .val (.int (own_v r p2 p4))] [(.int s0), (.int (0 : Int32)), (.int (own_ex (0 : Int32) s0 s1 (own_v r p1 p3) (own_v r p2 p4) p6))])
  refine own_st (fun τ κ => XS.iload X24.here hx rfl (hb hby at_205) rfl κ) ?_
  show own_Go p e below _ T24 (mkF m 207 #[.val (.int p1), .val (.int p2), .val (.int p3), .val (.int p4), .val (.int p5), .val (.int p6), .val (.ref o1), .val (.ref o3), .val (.ref o8), .val (.ref o11), .val (.int s0), .val (.int s1), .val (.int r), .val (.ref o16), .val (.int p6), .val (.int f1), .val (.int f2), .val (.int f3), .val (.ref o19), .val (.int (own_v r p1 p3)), .val (.int (own_v r p2 p4))] [(.int s1), (.int s0), (.int (0 : Int32)), (.int (own_ex (0 : Int32) s0 s1 (own_v r p1 p3) (own_v r p2 p4) p6))])
  refine own_st (fun τ κ => XS.iload X24.here hx rfl (hb hby at_207) rfl κ) ?_
  show own_Go p e below _ T24 (mkF m 209 #[.val (.int p1), .val (.int p2), .val (.int p3), .val (.int p4), .val (.int p5), .val (.int p6), .val (.ref o1), .val (.ref o3), .val (.ref o8), .val (.ref o11), .val (.int s0), .val (.int s1), .val (.int r), .val (.ref o16), .val (.int p6), .val (.int f1), .val (.int f2), .val (.int f3), .val (.ref o19), .val (.int (own_v r p1 p3)), .val (.int (own_v r p2 p4))] [(.int (own_v r p1 p3)), (.int s1), (.int s0), (.int (0 : Int32)), (.int (own_ex (0 : Int32) s0 s1 (own_v r p1 p3) (own_v r p2 p4) p6))])
  refine own_st (fun τ κ => XS.iload X24.here hx rfl (hb hby at_209) rfl κ) ?_
  show own_Go p e below _ T24 (mkF m 211 #[.val (.int p1), .val (.int p2), .val (.int p3), .val (.int p4), .val (.int p5), .val (.int p6), .val (.ref o1), .val (.ref o3), .val (.ref o8), .val (.ref o11), .val (.int s0), .val (.int s1), .val (.int r), .val (.ref o16), .val (.int p6), .val (.int f1), .val (.int f2), .val (.int f3), .val (.ref o19), .val (.int (own_v r p1 p3)), .val (.int (own_v r p2 p4))] [(.int (own_v r p2 p4)), (.int (own_v r p1 p3)), (.int s1), (.int s0), (.int (0 : Int32)), (.int (own_ex (0 : Int32) s0 s1 (own_v r p1 p3) (own_v r p2 p4) p6))])
  refine own_st (fun τ κ => XS.iload X24.here hx rfl (hb hby at_211) rfl κ) ?_
  show own_Go p e below _ T24 (mkF m 213 #[.val (.int p1), .val (.int p2), .val (.int p3), .val (.int p4), .val (.int p5), .val (.int p6), .val (.ref o1), .val (.ref o3), .val (.ref o8), .val (.ref o11), .val (.int s0), .val (.int s1), .val (.int r), .val (.ref o16), .val (.int p6), .val (.int f1), .val (.int f2), .val (.int f3), .val (.ref o19), .val (.int (own_v r p1 p3)), .val (.int (own_v r p2 p4))] [(.int p6), (.int (own_v r p2 p4)), (.int (own_v r p1 p3)), (.int s1), (.int s0), (.int (0 : Int32)), (.int (own_ex (0 : Int32) s0 s1 (own_v r p1 p3) (own_v r p2 p4) p6))])
  refine own_callS X24 hx hZ e24 hown (hw _ (List.mem_of_getElem? (i := 26) rfl)) (hw _ (List.mem_of_getElem? (i := 27) rfl)) (hw _ (List.mem_of_getElem? (i := 28) rfl)) (hw _ (List.mem_of_getElem? (i := 29) rfl)) (by decide) pd_5 (argsL := [(.int (0 : Int32)), (.int s0), (.int s1), (.int (own_v r p1 p3)), (.int (own_v r p2 p4)), (.int p6)]) rfl (rm5 l Z a0 hw (0 : Int32) s0 s1 (own_v r p1 p3) (own_v r p2 p4) p6 T24.heap n0) 1 (by decide) (by decide) (by decide) (by decide) (rest := [(.int (own_ex (0 : Int32) s0 s1 (own_v r p1 p3) (own_v r p2 p4) p6))]) rfl (by rw [hml]; rfl) (Nat.le_of_eq rfl) (hb hby at_213) ?_
  intro v25 T25 L25 hQ25 X25
  obtain ⟨rfl, Nq25, e25⟩ := hQ25
  have N25 := Fr.app N24 Nq25
  show own_Go p e below _ T25 (mkF m 216 #[.val (.int p1), .val (.int p2), .val (.int p3), .val (.int p4), .val (.int p5), .val (.int p6), .val (.ref o1), .val (.ref o3), .val (.ref o8), .val (.ref o11), .val (.int s0), .val (.int s1), .val (.int r), .val (.ref o16), .val (.int p6), .val (.int f1), .val (.int f2), .val (.int f3), .val (.ref o19), .val (.int (own_v r p1 p3)), .val (.int (own_v r p2 p4))] [(.int (own_ex (0 : Int32) s0 s1 (own_v r p1 p3) (own_v r p2 p4) p6)), (.int (own_ex (0 : Int32) s0 s1 (own_v r p1 p3) (own_v r p2 p4) p6))])
  refine own_st (fun τ κ => XS.icmpNo X25.here hx rfl (hb hby at_216) rfl (XT.ii_ne_f rfl) κ) ?_
  show own_Go p e below _ T25 (mkF m 219 #[.val (.int p1), .val (.int p2), .val (.int p3), .val (.int p4), .val (.int p5), .val (.int p6), .val (.ref o1), .val (.ref o3), .val (.ref o8), .val (.ref o11), .val (.int s0), .val (.int s1), .val (.int r), .val (.ref o16), .val (.int p6), .val (.int f1), .val (.int f2), .val (.int f3), .val (.ref o19), .val (.int (own_v r p1 p3)), .val (.int (own_v r p2 p4))] [])
  refine own_st (fun τ κ => XS.aload X25.here hx rfl (hb hby at_219) rfl rfl κ) ?_
  show own_Go p e below _ T25 (mkF m 221 #[.val (.int p1), .val (.int p2), .val (.int p3), .val (.int p4), .val (.int p5), .val (.int p6), .val (.ref o1), .val (.ref o3), .val (.ref o8), .val (.ref o11), .val (.int s0), .val (.int s1), .val (.int r), .val (.ref o16), .val (.int p6), .val (.int f1), .val (.int f2), .val (.int f3), .val (.ref o19), .val (.int (own_v r p1 p3)), .val (.int (own_v r p2 p4))] [(.ref o19)])
  refine own_st (fun τ κ => XT.iconstV X25.here hx rfl (1) (hb hby at_221) (by decide) κ) ?_
  show own_Go p e below _ T25 (mkF m 222 #[.val (.int p1), .val (.int p2), .val (.int p3), .val (.int p4), .val (.int p5), .val (.int p6), .val (.ref o1), .val (.ref o3), .val (.ref o8), .val (.ref o11), .val (.int s0), .val (.int s1), .val (.int r), .val (.ref o16), .val (.int p6), .val (.int f1), .val (.int f2), .val (.int f3), .val (.ref o19), .val (.int (own_v r p1 p3)), .val (.int (own_v r p2 p4))] [(.int (1 : Int32)), (.ref o19)])
  refine own_ldI X25 hx hZ e25 A_o19 (i := 1) (by decide) (x := (own_ex (1 : Int32) s0 s1 (own_v r p1 p3) (own_v r p2 p4) f1)) r1 (hb hby at_222) ?_
  show own_Go p e below _ T25 (mkF m 223 #[.val (.int p1), .val (.int p2), .val (.int p3), .val (.int p4), .val (.int p5), .val (.int p6), .val (.ref o1), .val (.ref o3), .val (.ref o8), .val (.ref o11), .val (.int s0), .val (.int s1), .val (.int r), .val (.ref o16), .val (.int p6), .val (.int f1), .val (.int f2), .val (.int f3), .val (.ref o19), .val (.int (own_v r p1 p3)), .val (.int (own_v r p2 p4))] [(.int (own_ex (1 : Int32) s0 s1 (own_v r p1 p3) (own_v r p2 p4) f1))])
  refine own_st (fun τ κ => XT.iconstV X25.here hx rfl (1) (hb hby at_223) (by decide) κ) ?_
  show own_Go p e below _ T25 (mkF m 224 #[.val (.int p1), .val (.int p2), .val (.int p3), .val (.int p4), .val (.int p5), .val (.int p6), .val (.ref o1), .val (.ref o3), .val (.ref o8), .val (.ref o11), .val (.int s0), .val (.int s1), .val (.int r), .val (.ref o16), .val (.int p6), .val (.int f1), .val (.int f2), .val (.int f3), .val (.ref o19), .val (.int (own_v r p1 p3)), .val (.int (own_v r p2 p4))] [(.int (1 : Int32)), (.int (own_ex (1 : Int32) s0 s1 (own_v r p1 p3) (own_v r p2 p4) f1))])
  refine own_st (fun τ κ => XS.iload X25.here hx rfl (hb hby at_224) rfl κ) ?_
  show own_Go p e below _ T25 (mkF m 226 #[.val (.int p1), .val (.int p2), .val (.int p3), .val (.int p4), .val (.int p5), .val (.int p6), .val (.ref o1), .val (.ref o3), .val (.ref o8), .val (.ref o11), .val (.int s0), .val (.int s1), .val (.int r), .val (.ref o16), .val (.int p6), .val (.int f1), .val (.int f2), .val (.int f3), .val (.ref o19), .val (.int (own_v r p1 p3)), .val (.int (own_v r p2 p4))] [(.int s0), (.int (1 : Int32)), (.int (own_ex (1 : Int32) s0 s1 (own_v r p1 p3) (own_v r p2 p4) f1))])
  refine own_st (fun τ κ => XS.iload X25.here hx rfl (hb hby at_226) rfl κ) ?_
  show own_Go p e below _ T25 (mkF m 228 #[.val (.int p1), .val (.int p2), .val (.int p3), .val (.int p4), .val (.int p5), .val (.int p6), .val (.ref o1), .val (.ref o3), .val (.ref o8), .val (.ref o11), .val (.int s0), .val (.int s1), .val (.int r), .val (.ref o16), .val (.int p6), .val (.int f1), .val (.int f2), .val (.int f3), .val (.ref o19), .val (.int (own_v r p1 p3)), .val (.int (own_v r p2 p4))] [(.int s1), (.int s0), (.int (1 : Int32)), (.int (own_ex (1 : Int32) s0 s1 (own_v r p1 p3) (own_v r p2 p4) f1))])
  refine own_st (fun τ κ => XS.iload X25.here hx rfl (hb hby at_228) rfl κ) ?_
  show own_Go p e below _ T25 (mkF m 230 #[.val (.int p1), .val (.int p2), .val (.int p3), .val (.int p4), .val (.int p5), .val (.int p6), .val (.ref o1), .val (.ref o3), .val (.ref o8), .val (.ref o11), .val (.int s0), .val (.int s1), .val (.int r), .val (.ref o16), .val (.int p6), .val (.int f1), .val (.int f2), .val (.int f3), .val (.ref o19), .val (.int (own_v r p1 p3)), .val (.int (own_v r p2 p4))] [(.int (own_v r p1 p3)), (.int s1), (.int s0), (.int (1 : Int32)), (.int (own_ex (1 : Int32) s0 s1 (own_v r p1 p3) (own_v r p2 p4) f1))])
  refine own_st (fun τ κ => XS.iload X25.here hx rfl (hb hby at_230) rfl κ) ?_
  show own_Go p e below _ T25 (mkF m 232 #[.val (.int p1), .val (.int p2), .val (.int p3), .val (.int p4), .val (.int p5), .val (.int p6), .val (.ref o1), .val (.ref o3), .val (.ref o8), .val (.ref o11), .val (.int s0), .val (.int s1), .val (.int r), .val (.ref o16), .val (.int p6), .val (.int f1), .val (.int f2), .val (.int f3), .val (.ref o19), .val (.int (own_v r p1 p3)), .val (.int (own_v r p2 p4))] [(.int (own_v r p2 p4)), (.int (own_v r p1 p3)), (.int s1), (.int s0), (.int (1 : Int32)), (.int (own_ex (1 : Int32) s0 s1 (own_v r p1 p3) (own_v r p2 p4) f1))])
  refine own_st (fun τ κ => XS.iload X25.here hx rfl (hb hby at_232) rfl κ) ?_
  show own_Go p e below _ T25 (mkF m 234 #[.val (.int p1), .val (.int p2), .val (.int p3), .val (.int p4), .val (.int p5), .val (.int p6), .val (.ref o1), .val (.ref o3), .val (.ref o8), .val (.ref o11), .val (.int s0), .val (.int s1), .val (.int r), .val (.ref o16), .val (.int p6), .val (.int f1), .val (.int f2), .val (.int f3), .val (.ref o19), .val (.int (own_v r p1 p3)), .val (.int (own_v r p2 p4))] [(.int f1), (.int (own_v r p2 p4)), (.int (own_v r p1 p3)), (.int s1), (.int s0), (.int (1 : Int32)), (.int (own_ex (1 : Int32) s0 s1 (own_v r p1 p3) (own_v r p2 p4) f1))])
  refine own_callS X25 hx hZ e25 hown (hw _ (List.mem_of_getElem? (i := 26) rfl)) (hw _ (List.mem_of_getElem? (i := 27) rfl)) (hw _ (List.mem_of_getElem? (i := 28) rfl)) (hw _ (List.mem_of_getElem? (i := 29) rfl)) (by decide) pd_5 (argsL := [(.int (1 : Int32)), (.int s0), (.int s1), (.int (own_v r p1 p3)), (.int (own_v r p2 p4)), (.int f1)]) rfl (rm5 l Z a0 hw (1 : Int32) s0 s1 (own_v r p1 p3) (own_v r p2 p4) f1 T24.heap n0) 1 (by decide) (by decide) (by decide) (by decide) (rest := [(.int (own_ex (1 : Int32) s0 s1 (own_v r p1 p3) (own_v r p2 p4) f1))]) rfl (by rw [hml]; rfl) (Nat.le_of_eq rfl) (hb hby at_234) ?_
  intro v26 T26 L26 hQ26 X26
  obtain ⟨rfl, Nq26, e26⟩ := hQ26
  have N26 := Fr.app N25 Nq26
  show own_Go p e below _ T26 (mkF m 237 #[.val (.int p1), .val (.int p2), .val (.int p3), .val (.int p4), .val (.int p5), .val (.int p6), .val (.ref o1), .val (.ref o3), .val (.ref o8), .val (.ref o11), .val (.int s0), .val (.int s1), .val (.int r), .val (.ref o16), .val (.int p6), .val (.int f1), .val (.int f2), .val (.int f3), .val (.ref o19), .val (.int (own_v r p1 p3)), .val (.int (own_v r p2 p4))] [(.int (own_ex (1 : Int32) s0 s1 (own_v r p1 p3) (own_v r p2 p4) f1)), (.int (own_ex (1 : Int32) s0 s1 (own_v r p1 p3) (own_v r p2 p4) f1))])
  refine own_st (fun τ κ => XS.icmpNo X26.here hx rfl (hb hby at_237) rfl (XT.ii_ne_f rfl) κ) ?_
  show own_Go p e below _ T26 (mkF m 240 #[.val (.int p1), .val (.int p2), .val (.int p3), .val (.int p4), .val (.int p5), .val (.int p6), .val (.ref o1), .val (.ref o3), .val (.ref o8), .val (.ref o11), .val (.int s0), .val (.int s1), .val (.int r), .val (.ref o16), .val (.int p6), .val (.int f1), .val (.int f2), .val (.int f3), .val (.ref o19), .val (.int (own_v r p1 p3)), .val (.int (own_v r p2 p4))] [])
  refine own_st (fun τ κ => XS.aload X26.here hx rfl (hb hby at_240) rfl rfl κ) ?_
  show own_Go p e below _ T26 (mkF m 242 #[.val (.int p1), .val (.int p2), .val (.int p3), .val (.int p4), .val (.int p5), .val (.int p6), .val (.ref o1), .val (.ref o3), .val (.ref o8), .val (.ref o11), .val (.int s0), .val (.int s1), .val (.int r), .val (.ref o16), .val (.int p6), .val (.int f1), .val (.int f2), .val (.int f3), .val (.ref o19), .val (.int (own_v r p1 p3)), .val (.int (own_v r p2 p4))] [(.ref o19)])
  refine own_st (fun τ κ => XT.iconstV X26.here hx rfl (2) (hb hby at_242) (by decide) κ) ?_
  show own_Go p e below _ T26 (mkF m 243 #[.val (.int p1), .val (.int p2), .val (.int p3), .val (.int p4), .val (.int p5), .val (.int p6), .val (.ref o1), .val (.ref o3), .val (.ref o8), .val (.ref o11), .val (.int s0), .val (.int s1), .val (.int r), .val (.ref o16), .val (.int p6), .val (.int f1), .val (.int f2), .val (.int f3), .val (.ref o19), .val (.int (own_v r p1 p3)), .val (.int (own_v r p2 p4))] [(.int (2 : Int32)), (.ref o19)])
  refine own_ldI X26 hx hZ e26 A_o19 (i := 2) (by decide) (x := (own_ex (2 : Int32) s0 s1 (own_v r p1 p3) (own_v r p2 p4) f2)) r2 (hb hby at_243) ?_
  show own_Go p e below _ T26 (mkF m 244 #[.val (.int p1), .val (.int p2), .val (.int p3), .val (.int p4), .val (.int p5), .val (.int p6), .val (.ref o1), .val (.ref o3), .val (.ref o8), .val (.ref o11), .val (.int s0), .val (.int s1), .val (.int r), .val (.ref o16), .val (.int p6), .val (.int f1), .val (.int f2), .val (.int f3), .val (.ref o19), .val (.int (own_v r p1 p3)), .val (.int (own_v r p2 p4))] [(.int (own_ex (2 : Int32) s0 s1 (own_v r p1 p3) (own_v r p2 p4) f2))])
  refine own_st (fun τ κ => XT.iconstV X26.here hx rfl (2) (hb hby at_244) (by decide) κ) ?_
  show own_Go p e below _ T26 (mkF m 245 #[.val (.int p1), .val (.int p2), .val (.int p3), .val (.int p4), .val (.int p5), .val (.int p6), .val (.ref o1), .val (.ref o3), .val (.ref o8), .val (.ref o11), .val (.int s0), .val (.int s1), .val (.int r), .val (.ref o16), .val (.int p6), .val (.int f1), .val (.int f2), .val (.int f3), .val (.ref o19), .val (.int (own_v r p1 p3)), .val (.int (own_v r p2 p4))] [(.int (2 : Int32)), (.int (own_ex (2 : Int32) s0 s1 (own_v r p1 p3) (own_v r p2 p4) f2))])
  refine own_st (fun τ κ => XS.iload X26.here hx rfl (hb hby at_245) rfl κ) ?_
  show own_Go p e below _ T26 (mkF m 247 #[.val (.int p1), .val (.int p2), .val (.int p3), .val (.int p4), .val (.int p5), .val (.int p6), .val (.ref o1), .val (.ref o3), .val (.ref o8), .val (.ref o11), .val (.int s0), .val (.int s1), .val (.int r), .val (.ref o16), .val (.int p6), .val (.int f1), .val (.int f2), .val (.int f3), .val (.ref o19), .val (.int (own_v r p1 p3)), .val (.int (own_v r p2 p4))] [(.int s0), (.int (2 : Int32)), (.int (own_ex (2 : Int32) s0 s1 (own_v r p1 p3) (own_v r p2 p4) f2))])
  refine own_st (fun τ κ => XS.iload X26.here hx rfl (hb hby at_247) rfl κ) ?_
  show own_Go p e below _ T26 (mkF m 249 #[.val (.int p1), .val (.int p2), .val (.int p3), .val (.int p4), .val (.int p5), .val (.int p6), .val (.ref o1), .val (.ref o3), .val (.ref o8), .val (.ref o11), .val (.int s0), .val (.int s1), .val (.int r), .val (.ref o16), .val (.int p6), .val (.int f1), .val (.int f2), .val (.int f3), .val (.ref o19), .val (.int (own_v r p1 p3)), .val (.int (own_v r p2 p4))] [(.int s1), (.int s0), (.int (2 : Int32)), (.int (own_ex (2 : Int32) s0 s1 (own_v r p1 p3) (own_v r p2 p4) f2))])
  refine own_st (fun τ κ => XS.iload X26.here hx rfl (hb hby at_249) rfl κ) ?_
  show own_Go p e below _ T26 (mkF m 251 #[.val (.int p1), .val (.int p2), .val (.int p3), .val (.int p4), .val (.int p5), .val (.int p6), .val (.ref o1), .val (.ref o3), .val (.ref o8), .val (.ref o11), .val (.int s0), .val (.int s1), .val (.int r), .val (.ref o16), .val (.int p6), .val (.int f1), .val (.int f2), .val (.int f3), .val (.ref o19), .val (.int (own_v r p1 p3)), .val (.int (own_v r p2 p4))] [(.int (own_v r p1 p3)), (.int s1), (.int s0), (.int (2 : Int32)), (.int (own_ex (2 : Int32) s0 s1 (own_v r p1 p3) (own_v r p2 p4) f2))])
  refine own_st (fun τ κ => XS.iload X26.here hx rfl (hb hby at_251) rfl κ) ?_
  show own_Go p e below _ T26 (mkF m 253 #[.val (.int p1), .val (.int p2), .val (.int p3), .val (.int p4), .val (.int p5), .val (.int p6), .val (.ref o1), .val (.ref o3), .val (.ref o8), .val (.ref o11), .val (.int s0), .val (.int s1), .val (.int r), .val (.ref o16), .val (.int p6), .val (.int f1), .val (.int f2), .val (.int f3), .val (.ref o19), .val (.int (own_v r p1 p3)), .val (.int (own_v r p2 p4))] [(.int (own_v r p2 p4)), (.int (own_v r p1 p3)), (.int s1), (.int s0), (.int (2 : Int32)), (.int (own_ex (2 : Int32) s0 s1 (own_v r p1 p3) (own_v r p2 p4) f2))])
  refine own_st (fun τ κ => XS.iload X26.here hx rfl (hb hby at_253) rfl κ) ?_
  show own_Go p e below _ T26 (mkF m 255 #[.val (.int p1), .val (.int p2), .val (.int p3), .val (.int p4), .val (.int p5), .val (.int p6), .val (.ref o1), .val (.ref o3), .val (.ref o8), .val (.ref o11), .val (.int s0), .val (.int s1), .val (.int r), .val (.ref o16), .val (.int p6), .val (.int f1), .val (.int f2), .val (.int f3), .val (.ref o19), .val (.int (own_v r p1 p3)), .val (.int (own_v r p2 p4))] [(.int f2), (.int (own_v r p2 p4)), (.int (own_v r p1 p3)), (.int s1), (.int s0), (.int (2 : Int32)), (.int (own_ex (2 : Int32) s0 s1 (own_v r p1 p3) (own_v r p2 p4) f2))])
  refine own_callS X26 hx hZ e26 hown (hw _ (List.mem_of_getElem? (i := 26) rfl)) (hw _ (List.mem_of_getElem? (i := 27) rfl)) (hw _ (List.mem_of_getElem? (i := 28) rfl)) (hw _ (List.mem_of_getElem? (i := 29) rfl)) (by decide) pd_5 (argsL := [(.int (2 : Int32)), (.int s0), (.int s1), (.int (own_v r p1 p3)), (.int (own_v r p2 p4)), (.int f2)]) rfl (rm5 l Z a0 hw (2 : Int32) s0 s1 (own_v r p1 p3) (own_v r p2 p4) f2 T24.heap n0) 1 (by decide) (by decide) (by decide) (by decide) (rest := [(.int (own_ex (2 : Int32) s0 s1 (own_v r p1 p3) (own_v r p2 p4) f2))]) rfl (by rw [hml]; rfl) (Nat.le_of_eq rfl) (hb hby at_255) ?_
  intro v27 T27 L27 hQ27 X27
  obtain ⟨rfl, Nq27, e27⟩ := hQ27
  have N27 := Fr.app N26 Nq27
  show own_Go p e below _ T27 (mkF m 258 #[.val (.int p1), .val (.int p2), .val (.int p3), .val (.int p4), .val (.int p5), .val (.int p6), .val (.ref o1), .val (.ref o3), .val (.ref o8), .val (.ref o11), .val (.int s0), .val (.int s1), .val (.int r), .val (.ref o16), .val (.int p6), .val (.int f1), .val (.int f2), .val (.int f3), .val (.ref o19), .val (.int (own_v r p1 p3)), .val (.int (own_v r p2 p4))] [(.int (own_ex (2 : Int32) s0 s1 (own_v r p1 p3) (own_v r p2 p4) f2)), (.int (own_ex (2 : Int32) s0 s1 (own_v r p1 p3) (own_v r p2 p4) f2))])
  refine own_st (fun τ κ => XS.icmpNo X27.here hx rfl (hb hby at_258) rfl (XT.ii_ne_f rfl) κ) ?_
  show own_Go p e below _ T27 (mkF m 261 #[.val (.int p1), .val (.int p2), .val (.int p3), .val (.int p4), .val (.int p5), .val (.int p6), .val (.ref o1), .val (.ref o3), .val (.ref o8), .val (.ref o11), .val (.int s0), .val (.int s1), .val (.int r), .val (.ref o16), .val (.int p6), .val (.int f1), .val (.int f2), .val (.int f3), .val (.ref o19), .val (.int (own_v r p1 p3)), .val (.int (own_v r p2 p4))] [])
  refine own_st (fun τ κ => XS.aload X27.here hx rfl (hb hby at_261) rfl rfl κ) ?_
  show own_Go p e below _ T27 (mkF m 263 #[.val (.int p1), .val (.int p2), .val (.int p3), .val (.int p4), .val (.int p5), .val (.int p6), .val (.ref o1), .val (.ref o3), .val (.ref o8), .val (.ref o11), .val (.int s0), .val (.int s1), .val (.int r), .val (.ref o16), .val (.int p6), .val (.int f1), .val (.int f2), .val (.int f3), .val (.ref o19), .val (.int (own_v r p1 p3)), .val (.int (own_v r p2 p4))] [(.ref o19)])
  refine own_st (fun τ κ => XT.iconstV X27.here hx rfl (3) (hb hby at_263) (by decide) κ) ?_
  show own_Go p e below _ T27 (mkF m 264 #[.val (.int p1), .val (.int p2), .val (.int p3), .val (.int p4), .val (.int p5), .val (.int p6), .val (.ref o1), .val (.ref o3), .val (.ref o8), .val (.ref o11), .val (.int s0), .val (.int s1), .val (.int r), .val (.ref o16), .val (.int p6), .val (.int f1), .val (.int f2), .val (.int f3), .val (.ref o19), .val (.int (own_v r p1 p3)), .val (.int (own_v r p2 p4))] [(.int (3 : Int32)), (.ref o19)])
  refine own_ldI X27 hx hZ e27 A_o19 (i := 3) (by decide) (x := (own_ex (3 : Int32) s0 s1 (own_v r p1 p3) (own_v r p2 p4) f3)) r3 (hb hby at_264) ?_
  show own_Go p e below _ T27 (mkF m 265 #[.val (.int p1), .val (.int p2), .val (.int p3), .val (.int p4), .val (.int p5), .val (.int p6), .val (.ref o1), .val (.ref o3), .val (.ref o8), .val (.ref o11), .val (.int s0), .val (.int s1), .val (.int r), .val (.ref o16), .val (.int p6), .val (.int f1), .val (.int f2), .val (.int f3), .val (.ref o19), .val (.int (own_v r p1 p3)), .val (.int (own_v r p2 p4))] [(.int (own_ex (3 : Int32) s0 s1 (own_v r p1 p3) (own_v r p2 p4) f3))])
  refine own_st (fun τ κ => XT.iconstV X27.here hx rfl (3) (hb hby at_265) (by decide) κ) ?_
  show own_Go p e below _ T27 (mkF m 266 #[.val (.int p1), .val (.int p2), .val (.int p3), .val (.int p4), .val (.int p5), .val (.int p6), .val (.ref o1), .val (.ref o3), .val (.ref o8), .val (.ref o11), .val (.int s0), .val (.int s1), .val (.int r), .val (.ref o16), .val (.int p6), .val (.int f1), .val (.int f2), .val (.int f3), .val (.ref o19), .val (.int (own_v r p1 p3)), .val (.int (own_v r p2 p4))] [(.int (3 : Int32)), (.int (own_ex (3 : Int32) s0 s1 (own_v r p1 p3) (own_v r p2 p4) f3))])
  refine own_st (fun τ κ => XS.iload X27.here hx rfl (hb hby at_266) rfl κ) ?_
  show own_Go p e below _ T27 (mkF m 268 #[.val (.int p1), .val (.int p2), .val (.int p3), .val (.int p4), .val (.int p5), .val (.int p6), .val (.ref o1), .val (.ref o3), .val (.ref o8), .val (.ref o11), .val (.int s0), .val (.int s1), .val (.int r), .val (.ref o16), .val (.int p6), .val (.int f1), .val (.int f2), .val (.int f3), .val (.ref o19), .val (.int (own_v r p1 p3)), .val (.int (own_v r p2 p4))] [(.int s0), (.int (3 : Int32)), (.int (own_ex (3 : Int32) s0 s1 (own_v r p1 p3) (own_v r p2 p4) f3))])
  refine own_st (fun τ κ => XS.iload X27.here hx rfl (hb hby at_268) rfl κ) ?_
  show own_Go p e below _ T27 (mkF m 270 #[.val (.int p1), .val (.int p2), .val (.int p3), .val (.int p4), .val (.int p5), .val (.int p6), .val (.ref o1), .val (.ref o3), .val (.ref o8), .val (.ref o11), .val (.int s0), .val (.int s1), .val (.int r), .val (.ref o16), .val (.int p6), .val (.int f1), .val (.int f2), .val (.int f3), .val (.ref o19), .val (.int (own_v r p1 p3)), .val (.int (own_v r p2 p4))] [(.int s1), (.int s0), (.int (3 : Int32)), (.int (own_ex (3 : Int32) s0 s1 (own_v r p1 p3) (own_v r p2 p4) f3))])
  refine own_st (fun τ κ => XS.iload X27.here hx rfl (hb hby at_270) rfl κ) ?_
  show own_Go p e below _ T27 (mkF m 272 #[.val (.int p1), .val (.int p2), .val (.int p3), .val (.int p4), .val (.int p5), .val (.int p6), .val (.ref o1), .val (.ref o3), .val (.ref o8), .val (.ref o11), .val (.int s0), .val (.int s1), .val (.int r), .val (.ref o16), .val (.int p6), .val (.int f1), .val (.int f2), .val (.int f3), .val (.ref o19), .val (.int (own_v r p1 p3)), .val (.int (own_v r p2 p4))] [(.int (own_v r p1 p3)), (.int s1), (.int s0), (.int (3 : Int32)), (.int (own_ex (3 : Int32) s0 s1 (own_v r p1 p3) (own_v r p2 p4) f3))])
  refine own_st (fun τ κ => XS.iload X27.here hx rfl (hb hby at_272) rfl κ) ?_
  show own_Go p e below _ T27 (mkF m 274 #[.val (.int p1), .val (.int p2), .val (.int p3), .val (.int p4), .val (.int p5), .val (.int p6), .val (.ref o1), .val (.ref o3), .val (.ref o8), .val (.ref o11), .val (.int s0), .val (.int s1), .val (.int r), .val (.ref o16), .val (.int p6), .val (.int f1), .val (.int f2), .val (.int f3), .val (.ref o19), .val (.int (own_v r p1 p3)), .val (.int (own_v r p2 p4))] [(.int (own_v r p2 p4)), (.int (own_v r p1 p3)), (.int s1), (.int s0), (.int (3 : Int32)), (.int (own_ex (3 : Int32) s0 s1 (own_v r p1 p3) (own_v r p2 p4) f3))])
  refine own_st (fun τ κ => XS.iload X27.here hx rfl (hb hby at_274) rfl κ) ?_
  show own_Go p e below _ T27 (mkF m 276 #[.val (.int p1), .val (.int p2), .val (.int p3), .val (.int p4), .val (.int p5), .val (.int p6), .val (.ref o1), .val (.ref o3), .val (.ref o8), .val (.ref o11), .val (.int s0), .val (.int s1), .val (.int r), .val (.ref o16), .val (.int p6), .val (.int f1), .val (.int f2), .val (.int f3), .val (.ref o19), .val (.int (own_v r p1 p3)), .val (.int (own_v r p2 p4))] [(.int f3), (.int (own_v r p2 p4)), (.int (own_v r p1 p3)), (.int s1), (.int s0), (.int (3 : Int32)), (.int (own_ex (3 : Int32) s0 s1 (own_v r p1 p3) (own_v r p2 p4) f3))])
  refine own_callS X27 hx hZ e27 hown (hw _ (List.mem_of_getElem? (i := 26) rfl)) (hw _ (List.mem_of_getElem? (i := 27) rfl)) (hw _ (List.mem_of_getElem? (i := 28) rfl)) (hw _ (List.mem_of_getElem? (i := 29) rfl)) (by decide) pd_5 (argsL := [(.int (3 : Int32)), (.int s0), (.int s1), (.int (own_v r p1 p3)), (.int (own_v r p2 p4)), (.int f3)]) rfl (rm5 l Z a0 hw (3 : Int32) s0 s1 (own_v r p1 p3) (own_v r p2 p4) f3 T24.heap n0) 1 (by decide) (by decide) (by decide) (by decide) (rest := [(.int (own_ex (3 : Int32) s0 s1 (own_v r p1 p3) (own_v r p2 p4) f3))]) rfl (by rw [hml]; rfl) (Nat.le_of_eq rfl) (hb hby at_276) ?_
  intro v28 T28 L28 hQ28 X28
  obtain ⟨rfl, Nq28, e28⟩ := hQ28
  have N28 := Fr.app N27 Nq28
  show own_Go p e below _ T28 (mkF m 279 #[.val (.int p1), .val (.int p2), .val (.int p3), .val (.int p4), .val (.int p5), .val (.int p6), .val (.ref o1), .val (.ref o3), .val (.ref o8), .val (.ref o11), .val (.int s0), .val (.int s1), .val (.int r), .val (.ref o16), .val (.int p6), .val (.int f1), .val (.int f2), .val (.int f3), .val (.ref o19), .val (.int (own_v r p1 p3)), .val (.int (own_v r p2 p4))] [(.int (own_ex (3 : Int32) s0 s1 (own_v r p1 p3) (own_v r p2 p4) f3)), (.int (own_ex (3 : Int32) s0 s1 (own_v r p1 p3) (own_v r p2 p4) f3))])
  refine own_st (fun τ κ => XS.icmpNo X28.here hx rfl (hb hby at_279) rfl (XT.ii_ne_f rfl) κ) ?_
  show own_Go p e below _ T28 (mkF m 282 #[.val (.int p1), .val (.int p2), .val (.int p3), .val (.int p4), .val (.int p5), .val (.int p6), .val (.ref o1), .val (.ref o3), .val (.ref o8), .val (.ref o11), .val (.int s0), .val (.int s1), .val (.int r), .val (.ref o16), .val (.int p6), .val (.int f1), .val (.int f2), .val (.int f3), .val (.ref o19), .val (.int (own_v r p1 p3)), .val (.int (own_v r p2 p4))] [])
  refine own_st (fun τ κ => XS.aload X28.here hx rfl (hb hby at_282) rfl rfl κ) ?_
  show own_Go p e below _ T28 (mkF m 284 #[.val (.int p1), .val (.int p2), .val (.int p3), .val (.int p4), .val (.int p5), .val (.int p6), .val (.ref o1), .val (.ref o3), .val (.ref o8), .val (.ref o11), .val (.int s0), .val (.int s1), .val (.int r), .val (.ref o16), .val (.int p6), .val (.int f1), .val (.int f2), .val (.int f3), .val (.ref o19), .val (.int (own_v r p1 p3)), .val (.int (own_v r p2 p4))] [(.ref o16)])
  refine own_st (fun τ κ => XT.iconstV X28.here hx rfl (0) (hb hby at_284) (by decide) κ) ?_
  show own_Go p e below _ T28 (mkF m 285 #[.val (.int p1), .val (.int p2), .val (.int p3), .val (.int p4), .val (.int p5), .val (.int p6), .val (.ref o1), .val (.ref o3), .val (.ref o8), .val (.ref o11), .val (.int s0), .val (.int s1), .val (.int r), .val (.ref o16), .val (.int p6), .val (.int f1), .val (.int f2), .val (.int f3), .val (.ref o19), .val (.int (own_v r p1 p3)), .val (.int (own_v r p2 p4))] [(.int (0 : Int32)), (.ref o16)])
  refine own_ldI X28 hx hZ e28 A_o16 (i := 0) (by decide) (x := s0) rfl (hb hby at_285) ?_
  show own_Go p e below _ T28 (mkF m 286 #[.val (.int p1), .val (.int p2), .val (.int p3), .val (.int p4), .val (.int p5), .val (.int p6), .val (.ref o1), .val (.ref o3), .val (.ref o8), .val (.ref o11), .val (.int s0), .val (.int s1), .val (.int r), .val (.ref o16), .val (.int p6), .val (.int f1), .val (.int f2), .val (.int f3), .val (.ref o19), .val (.int (own_v r p1 p3)), .val (.int (own_v r p2 p4))] [(.int s0)])
  refine own_st (fun τ κ => XS.iload X28.here hx rfl (hb hby at_286) rfl κ) ?_
  show own_Go p e below _ T28 (mkF m 288 #[.val (.int p1), .val (.int p2), .val (.int p3), .val (.int p4), .val (.int p5), .val (.int p6), .val (.ref o1), .val (.ref o3), .val (.ref o8), .val (.ref o11), .val (.int s0), .val (.int s1), .val (.int r), .val (.ref o16), .val (.int p6), .val (.int f1), .val (.int f2), .val (.int f3), .val (.ref o19), .val (.int (own_v r p1 p3)), .val (.int (own_v r p2 p4))] [(.int s0), (.int s0)])
  refine own_st (fun τ κ => XS.icmpNo X28.here hx rfl (hb hby at_288) rfl (XT.ii_ne_f rfl) κ) ?_
  show own_Go p e below _ T28 (mkF m 291 #[.val (.int p1), .val (.int p2), .val (.int p3), .val (.int p4), .val (.int p5), .val (.int p6), .val (.ref o1), .val (.ref o3), .val (.ref o8), .val (.ref o11), .val (.int s0), .val (.int s1), .val (.int r), .val (.ref o16), .val (.int p6), .val (.int f1), .val (.int f2), .val (.int f3), .val (.ref o19), .val (.int (own_v r p1 p3)), .val (.int (own_v r p2 p4))] [])
  refine own_st (fun τ κ => XS.aload X28.here hx rfl (hb hby at_291) rfl rfl κ) ?_
  show own_Go p e below _ T28 (mkF m 293 #[.val (.int p1), .val (.int p2), .val (.int p3), .val (.int p4), .val (.int p5), .val (.int p6), .val (.ref o1), .val (.ref o3), .val (.ref o8), .val (.ref o11), .val (.int s0), .val (.int s1), .val (.int r), .val (.ref o16), .val (.int p6), .val (.int f1), .val (.int f2), .val (.int f3), .val (.ref o19), .val (.int (own_v r p1 p3)), .val (.int (own_v r p2 p4))] [(.ref o16)])
  refine own_st (fun τ κ => XT.iconstV X28.here hx rfl (1) (hb hby at_293) (by decide) κ) ?_
  show own_Go p e below _ T28 (mkF m 294 #[.val (.int p1), .val (.int p2), .val (.int p3), .val (.int p4), .val (.int p5), .val (.int p6), .val (.ref o1), .val (.ref o3), .val (.ref o8), .val (.ref o11), .val (.int s0), .val (.int s1), .val (.int r), .val (.ref o16), .val (.int p6), .val (.int f1), .val (.int f2), .val (.int f3), .val (.ref o19), .val (.int (own_v r p1 p3)), .val (.int (own_v r p2 p4))] [(.int (1 : Int32)), (.ref o16)])
  refine own_ldI X28 hx hZ e28 A_o16 (i := 1) (by decide) (x := s1) rfl (hb hby at_294) ?_
  show own_Go p e below _ T28 (mkF m 295 #[.val (.int p1), .val (.int p2), .val (.int p3), .val (.int p4), .val (.int p5), .val (.int p6), .val (.ref o1), .val (.ref o3), .val (.ref o8), .val (.ref o11), .val (.int s0), .val (.int s1), .val (.int r), .val (.ref o16), .val (.int p6), .val (.int f1), .val (.int f2), .val (.int f3), .val (.ref o19), .val (.int (own_v r p1 p3)), .val (.int (own_v r p2 p4))] [(.int s1)])
  refine own_st (fun τ κ => XS.iload X28.here hx rfl (hb hby at_295) rfl κ) ?_
  show own_Go p e below _ T28 (mkF m 297 #[.val (.int p1), .val (.int p2), .val (.int p3), .val (.int p4), .val (.int p5), .val (.int p6), .val (.ref o1), .val (.ref o3), .val (.ref o8), .val (.ref o11), .val (.int s0), .val (.int s1), .val (.int r), .val (.ref o16), .val (.int p6), .val (.int f1), .val (.int f2), .val (.int f3), .val (.ref o19), .val (.int (own_v r p1 p3)), .val (.int (own_v r p2 p4))] [(.int s1), (.int s1)])
  refine own_st (fun τ κ => XS.icmpNo X28.here hx rfl (hb hby at_297) rfl (XT.ii_ne_f rfl) κ) ?_
  show own_Go p e below _ T28 (mkF m 300 #[.val (.int p1), .val (.int p2), .val (.int p3), .val (.int p4), .val (.int p5), .val (.int p6), .val (.ref o1), .val (.ref o3), .val (.ref o8), .val (.ref o11), .val (.int s0), .val (.int s1), .val (.int r), .val (.ref o16), .val (.int p6), .val (.int f1), .val (.int f2), .val (.int f3), .val (.ref o19), .val (.int (own_v r p1 p3)), .val (.int (own_v r p2 p4))] [])
  refine own_st (fun τ κ => XT.iconstV X28.here hx rfl (1) (hb hby at_300) (by decide) κ) ?_
  show own_Go p e below _ T28 (mkF m 301 #[.val (.int p1), .val (.int p2), .val (.int p3), .val (.int p4), .val (.int p5), .val (.int p6), .val (.ref o1), .val (.ref o3), .val (.ref o8), .val (.ref o11), .val (.int s0), .val (.int s1), .val (.int r), .val (.ref o16), .val (.int p6), .val (.int f1), .val (.int f2), .val (.int f3), .val (.ref o19), .val (.int (own_v r p1 p3)), .val (.int (own_v r p2 p4))] [(.int (1 : Int32))])
  refine own_st (fun τ κ => XS.goto X28.here hx rfl (pc0 := 301) (pc' := 305) rfl (hb hby at_301) (by decide) (by decide) κ) ?_
  show own_Go p e below _ T28 (mkF m 305 #[.val (.int p1), .val (.int p2), .val (.int p3), .val (.int p4), .val (.int p5), .val (.int p6), .val (.ref o1), .val (.ref o3), .val (.ref o8), .val (.ref o11), .val (.int s0), .val (.int s1), .val (.int r), .val (.ref o16), .val (.int p6), .val (.int f1), .val (.int f2), .val (.int f3), .val (.ref o19), .val (.int (own_v r p1 p3)), .val (.int (own_v r p2 p4))] [(.int (1 : Int32))])
  refine own_retZ X28 hx hlk hret (by decide) (by decide) (by decide) (hb hby at_305) ?_
  exact ⟨rfl, N28⟩

set_option maxRecDepth 65536 in
set_option maxHeartbeats 40000000 in
theorem comes_1 {Post : Tables → Env → Array Value → State → Outcome → State → Prop} (hpost : ∀ tb e args s v u, (limb_1_1.after args s (.returned v) u = true ∧ limb_1_2.after args s (.returned v) u = true ∧ True) → FrameEnd s (.returned v) u (Jvm.fieldLocs frame_1_writes args s ++ Jvm.arrayLocs frame_1_arrays args s ++ Jvm.staticLocs frame_1_statics s) 24 192 → Post tb e args s (.returned v) u) :
    ArmFor flags0 classFile x code maxLocals ret World_1 tables_1 room_1 Calls_1 rest_1 Pre_1 Post := by
  intro l hfl _ _ p e ha hc hk s m args below hf hA hF happ hP
  obtain ⟨hcalls, hrest, hpre⟩ := hP
  obtain ⟨-, -, -, hnamed, -, -, -, hat⟩ := (Spec.applies_iff hf).mp happ
  obtain ⟨hg, hn⟩ := and_e (Cond.before_iff.mp (show (Jvm.Cond.and given_1 narrow_1).before args s = true from hpre))
  obtain ⟨gc, g0⟩ := and_e hg
  obtain ⟨a0, g1⟩ := and_e g0
  obtain ⟨a1, g2⟩ := and_e g1
  obtain ⟨a2, g3⟩ := and_e g2
  obtain ⟨a3, g4⟩ := and_e g3
  obtain ⟨a4, g5⟩ := and_e g4
  obtain ⟨w0, w1, w2, w3, w4, w5, rfl⟩ : ∃ w0 w1 w2 w3 w4 w5 : Value, args = #[w0, w1, w2, w3, w4, w5] := by
    have hs : args.size = 6 := by simpa [Cond.value, given_1] using gc
    obtain ⟨L⟩ := args
    match L, hs with
    | [w0, w1, w2, w3, w4, w5], _ => exact ⟨w0, w1, w2, w3, w4, w5, rfl⟩
  have hw := fun d (hd : d ∈ tables_1) => atoms_spec (ws := Jvm.Cond.code x code maxLocals ret :: tables_1) hat d (List.mem_cons_of_mem _ hd)
  obtain ⟨i0, ei0⟩ := is_v a0
  obtain rfl : w0 = (.int i0) := Option.some.inj ei0
  obtain ⟨i1, ei1⟩ := is_v a1
  obtain rfl : w1 = (.int i1) := Option.some.inj ei1
  obtain ⟨i2, ei2⟩ := is_v a2
  obtain rfl : w2 = (.int i2) := Option.some.inj ei2
  obtain ⟨i3, ei3⟩ := is_v a3
  obtain rfl : w3 = (.int i3) := Option.some.inj ei3
  obtain ⟨i4, ei4⟩ := is_v a4
  obtain rfl : w4 = (.int i4) := Option.some.inj ei4
  obtain ⟨i5, ei5⟩ := is_v g5
  obtain rfl : w5 = (.int i5) := Option.some.inj ei5
  obtain ⟨n, o, h1, h2, h3, _, L, rfl, ⟨rfl, N⟩, hq⟩ := rm0 l s _ hw i0 i1 i2 i3 i4 i5 s.heap s.heap.size (Nat.le_refl _) tables_1 p e ha hc hk s m _ below hf ((Spec.applies_iff_loose hf).mp happ).1 ⟨rfl, State.Warmed39.refl s, rfl⟩ trivial
  refine ⟨n, _, h1, h2, h3, hpost _ _ _ _ _ _ ⟨Cond.after_iff.mpr rfl, Cond.after_iff.mpr (eq_i res_at (Term.int_eval (1)) rfl), trivial⟩ ⟨hq.1, hq.2.1, (hq.2.2.sift fun y hy => Or.inr (N y hy)).mono (by decide) (by decide)⟩⟩
theorem main_1_1 : Claimed_1_1 := comes_1 fun _ _ _ _ _ _ h hF => ⟨h.1, hF⟩
theorem main_1_2 : Claimed_1_2 := comes_1 fun _ _ _ _ _ _ h hF => ⟨h.2.1, hF⟩

end Jvm.Pilot.@@N@@
namespace Jvm.Pilot.@@N@@
open Jvm Jvm.ClassFile Sem Op Lib Jvm.Free Jvm.Stand Jvm.Pilot.@@N@@.Jvm.D
/-! MADE BY PROGRAM (witnessworld.py) out of the Statement's table words and the real class files: 9 classes; the members and pool entries that the words name. The judged class is class 1, her method 1. -/
namespace start1
open Jvm.ClassFile
def u (s : String) : CpInfo := .utf8 (stringToUtf16 s)
/-- a pool by its gaps: so many unusable entries, then the entry; so many at the end -/
def gap : Nat → List CpInfo → List CpInfo
  | 0, r => r
  | n + 1, r => .unusable :: gap n r
def poolList (es : List (Nat × CpInfo)) (last : Nat) : List CpInfo := es.foldr (fun e r => gap e.1 (e.2 :: r)) (gap last [])
def pool (es : List (Nat × CpInfo)) (last : Nat) : Array CpInfo := ⟨poolList es last⟩
def fileOf (pool : Array CpInfo) (this : Nat) (attrs : Array Attribute := #[]) (ms : Array MethodInfo := #[]) (fl : Nat := 33) (sup : Nat := 0) (ifs : Array Nat := #[]) (fds : Array FieldInfo := #[]) : ClassFile where
  minorVersion := 0
  majorVersion := 65
  constantPool := pool
  accessFlags := fl
  thisClass := this
  superClass := sup
  interfaces := ifs
  fields := fds
  methods := ms
  attributes := attrs
def plain (name : String) (sup : Option ClassId) : Class where
  name := name
  kind := .ordinary
  loader := none
  accessFlags := 33
  super := sup
  interfaces := #[]
  cf := none
  fields := #[]
  methods := #[]
  instanceTypes := #[]
  staticTypes := #[]
  resolved := #[]
  callSites := []
  init := .initialized
  statics := none
  mirror := none

def pool0 : Array CpInfo := pool [(5, u "<init>"), (0, u "()V"), (1, .class_ 10), (1, u "java/lang/Object")] 113

def k0c0 : Code := { maxStack := 0, maxLocals := 1, code := object_method_1_code, exceptionTable := #[], attributes := #[] }
def k0m0 : Method := { name := "<init>", desc := "()V", sig := { parameters := [], returnType := none }, accessFlags := 1, code := some k0c0 }
/-- java/lang/Object -/
def k0 : Class := { plain "java/lang/Object" none with
  accessFlags := 33
  interfaces := #[]
  cf := some (fileOf pool0 8 #[] #[{ accessFlags := 1, nameIndex := 5, descriptorIndex := 6, attributes := #[] }] 33 0 #[] #[])
  fields := #[]
  methods := #[k0m0]
  instanceTypes := #[]
  staticTypes := #[]
  resolved := Array.replicate 124 none
  statics := none }

def pool1 : Array CpInfo := pool [(2, .class_ 4), (1, u "java/lang/Object"), (0, u "<init>"), (0, u "()V"), (0, .class_ 8), (0, u "com/example/saturate/saturate/engine/Table"), (0, .methodref 7 10), (0, .nameAndType 5 11), (0, u "(I)V"), (0, .methodref 7 13), (0, .nameAndType 14 15), (0, u "add"), (0, u "([I[I)I"), (0, .methodref 7 17), (0, .nameAndType 18 19), (0, u "load"), (0, u "(I[I[I)V"), (0, .methodref 21 22), (0, .class_ 23), (0, .nameAndType 24 25), (0, u "com/example/saturate/saturate/engine/TableLoadPinLaw"), (0, u "expect"), (0, u "(IIIIII)I"), (2, u "law"), (0, u "(IIIIII)Z")] 5

def k1m0 : Method := { name := "<init>", desc := "()V", sig := { parameters := [], returnType := none }, accessFlags := 1, code := none }
def k1c1 : Code := { maxStack := 7, maxLocals := 21, code := code, exceptionTable := #[], attributes := #[] }
def k1m1 : Method := { name := "law", desc := "(IIIIII)Z", sig := { parameters := [.int, .int, .int, .int, .int, .int], returnType := some .boolean }, accessFlags := 9, code := some k1c1 }
def k1c2 : Code := { maxStack := 2, maxLocals := 6, code := method_3_code, exceptionTable := #[], attributes := #[] }
def k1m2 : Method := { name := "expect", desc := "(IIIIII)I", sig := { parameters := [.int, .int, .int, .int, .int, .int], returnType := some .int }, accessFlags := 10, code := some k1c2 }
/-- com/example/saturate/saturate/engine/TableLoadPinLaw -/
def k1 : Class := { plain "com/example/saturate/saturate/engine/TableLoadPinLaw" (some 0) with
  accessFlags := 49
  interfaces := #[]
  cf := some (fileOf pool1 21 #[] #[{ accessFlags := 1, nameIndex := 5, descriptorIndex := 6, attributes := #[] }, { accessFlags := 9, nameIndex := 28, descriptorIndex := 29, attributes := #[] }, { accessFlags := 10, nameIndex := 24, descriptorIndex := 25, attributes := #[] }] 49 2 #[] #[])
  fields := #[]
  methods := #[k1m0, k1m1, k1m2]
  instanceTypes := #[]
  staticTypes := #[]
  resolved := Array.replicate 35 none
  statics := none }

def pool2 : Array CpInfo := pool [(3, .methodref 4 5), (0, .class_ 6), (0, .nameAndType 7 8), (0, u "java/lang/Object"), (0, u "<init>"), (0, u "()V"), (0, .fieldref 10 11), (0, .class_ 12), (0, .nameAndType 13 14), (0, u "com/example/saturate/saturate/engine/Table"), (0, u "width"), (0, u "I"), (0, .fieldref 10 16), (0, .nameAndType 17 18), (0, u "cells"), (0, u "[I"), (0, .fieldref 10 20), (0, .nameAndType 21 14), (0, u "size"), (0, .integer 2147483639), (9, .long 2), (1, .long 2147483639), (26, u "MAX_CELLS"), (1, u "(I)V"), (3, u "add"), (0, u "([I[I)I"), (8, u "load"), (0, u "(I[I[I)V")] 17

def k2c0 : Code := { maxStack := 3, maxLocals := 2, code := prog_32_method_1_code, exceptionTable := #[], attributes := #[] }
def k2m0 : Method := { name := "<init>", desc := "(I)V", sig := { parameters := [.int], returnType := none }, accessFlags := 0, code := some k2c0 }
def k2c1 : Code := { maxStack := 6, maxLocals := 5, code := prog_32_method_5_code, exceptionTable := #[], attributes := #[] }
def k2m1 : Method := { name := "add", desc := "([I[I)I", sig := { parameters := [(.array .int), (.array .int)], returnType := some .int }, accessFlags := 0, code := some k2c1 }
def k2c2 : Code := { maxStack := 5, maxLocals := 6, code := prog_32_method_10_code, exceptionTable := #[], attributes := #[] }
def k2m2 : Method := { name := "load", desc := "(I[I[I)V", sig := { parameters := [.int, (.array .int), (.array .int)], returnType := none }, accessFlags := 0, code := some k2c2 }
/-- com/example/saturate/saturate/engine/Table -/
def k2 : Class := { plain "com/example/saturate/saturate/engine/Table" (some 0) with
  accessFlags := 48
  interfaces := #[]
  cf := some (fileOf pool2 10 #[] #[{ accessFlags := 0, nameIndex := 7, descriptorIndex := 63, attributes := #[] }, { accessFlags := 0, nameIndex := 67, descriptorIndex := 68, attributes := #[] }, { accessFlags := 0, nameIndex := 77, descriptorIndex := 78, attributes := #[] }] 48 4 #[] #[{ accessFlags := 26, nameIndex := 61, descriptorIndex := 14, attributes := #[] }, { accessFlags := 18, nameIndex := 13, descriptorIndex := 14, attributes := #[] }, { accessFlags := 2, nameIndex := 17, descriptorIndex := 18, attributes := #[] }, { accessFlags := 2, nameIndex := 21, descriptorIndex := 14, attributes := #[] }])
  fields := #[{ name := "MAX_CELLS", type := .int, accessFlags := 26, slot := 0, constantValue := 0 }, { name := "width", type := .int, accessFlags := 18, slot := 0, constantValue := 0 }, { name := "cells", type := (.array .int), accessFlags := 2, slot := 1, constantValue := 0 }, { name := "size", type := .int, accessFlags := 2, slot := 2, constantValue := 0 }]
  methods := #[k2m0, k2m1, k2m2]
  instanceTypes := #[.int, (.array .int), .int]
  staticTypes := #[.int]
  resolved := Array.replicate 96 none
  statics := none }

def pool3 : Array CpInfo := pool [(1, u "java/lang/Cloneable"), (0, .class_ 1), (0, u "java/lang/Object"), (0, .class_ 3)] 3

/-- java/lang/Cloneable -/
def k3 : Class := { plain "java/lang/Cloneable" (some 0) with
  accessFlags := 1537
  interfaces := #[]
  cf := some (fileOf pool3 2 #[] #[] 1537 4 #[] #[])
  fields := #[]
  methods := #[]
  instanceTypes := #[]
  staticTypes := #[]
  resolved := Array.replicate 8 none
  statics := none }

def pool4 : Array CpInfo := pool [(1, u "java/io/Serializable"), (0, .class_ 1), (0, u "java/lang/Object"), (0, .class_ 3)] 3

/-- java/io/Serializable -/
def k4 : Class := { plain "java/io/Serializable" (some 0) with
  accessFlags := 1537
  interfaces := #[]
  cf := some (fileOf pool4 2 #[] #[] 1537 4 #[] #[])
  fields := #[]
  methods := #[]
  instanceTypes := #[]
  staticTypes := #[]
  resolved := Array.replicate 8 none
  statics := none }

/-- the primitive byte -/
def k5 : Class := { plain "byte" none with kind := .primitive 'B', accessFlags := 0x411 }
/-- [B -/
def k6 : Class := { plain "[B" (some 0) with kind := .array 5 .byte, interfaces := #[3, 4], accessFlags := 1041 }

/-- the primitive int -/
def k7 : Class := { plain "int" none with kind := .primitive 'I', accessFlags := 0x411 }
/-- [I -/
def k8 : Class := { plain "[I" (some 0) with kind := .array 7 .int, interfaces := #[3, 4], accessFlags := 1041 }

def heap : Heap := #[]
def classes : Array Class := #[k0, k1, k2, k3, k4, k5, k6, k7, k8]
def interned : List (Array UInt16 × Addr) := []
def slotsUsed : Nat := 0
def theMethod : MethodId := ⟨1, 1⟩
def args0 : Array Value := #[.int 1, .int 2, .int 3, .int 4, .int 5, .int 6]
def aboutOver (below : List Frame) : State where
  vm := { classes := classes, interned := interned.toArray }
  heap := heap
  slotsUsed := slotsUsed
  threads := #[{ frames := .invoking theMethod args0 :: below }]
def below0 : List Frame := [.native { method := ⟨0, 0⟩, args := #[] }]
def about1 : State := aboutOver below0
def p0 : Program := .bare "" "" ""
def e0 : Env := launch0.env 0 0 0
theorem w_frames : about1.frames = Frame.invoking theMethod args0 :: below0 := rfl
set_option maxRecDepth 65536 in
theorem w_args : argsFit about1.vm theMethod args0 = true := by decide +kernel
set_option maxRecDepth 65536 in
theorem w_heap : heapFits about1 = true := by decide +kernel
set_option maxRecDepth 65536 in
theorem w_runnable : about1.curStatus? = some .runnable := by decide +kernel
set_option maxRecDepth 65536 in
theorem w_alone : about1.alone = true := by decide +kernel
set_option maxRecDepth 65536 in
theorem w_named : about1.methodNamed? x = some theMethod := by decide +kernel
set_option maxRecDepth 65536 in
theorem w_hears : about1.hears theMethod below0 = true := by decide +kernel
set_option maxRecDepth 65536 in
theorem w_ripe : about1.ripe theMethod args0 below0 = true := by decide +kernel
theorem w_running : about1.status = .running := rfl
set_option maxRecDepth 65536 in
theorem w_room : about1.hasRoom e0.platform room_1 = true :=
  launch0.hasRoom_least _ room_1 (by decide +kernel) (by decide +kernel) (by decide +kernel) (by decide +kernel) (by decide +kernel) (by decide +kernel)
theorem allAtoms_all (ts : List Jvm.Cond) (a : Array Jvm.Value) (st : Jvm.State) : (allAtoms ts).before a st = ts.all (fun c => c.before a st) := by
  induction ts with
  | nil => rfl
  | cons c t ih =>
    show (Jvm.Cond.and c (allAtoms t)).before a st = _
    rw [Jvm.Cond.before_and, ih, List.all_cons]
def words1 : List Jvm.Cond := Jvm.Cond.code x code maxLocals ret :: tables_1
/-- a 'code' word, met by the world's own term for the bytes: nothing is compared byte by byte -/
theorem code_word {y : MethodName} {bytes : ByteArray} {mx : Nat} {rt : Option FieldType} {a : Array Value} {s : State} {m : MethodId} {meth : Method} {c : Code} (h1 : s.methodNamed? y = some m) (h2 : s.vm.method? m = some meth) (h3 : meth.code = some c) (h4 : c.code = bytes)
    (h5 : (c.maxLocals == mx && c.exceptionTable.isEmpty && decide (c.maxStack ≤ mostOperands) && decide (meth.sig.returnType = rt) && !meth.locks && decide (parseMethodDescriptor y.desc = some meth.sig)) = true) : (Jvm.Cond.code y bytes mx rt).before a s = true := by
  simp only [Bool.and_eq_true, beq_iff_eq, Bool.not_eq_true', decide_eq_true_eq] at h5
  obtain ⟨⟨⟨⟨⟨g1, g2⟩, g3⟩, g4⟩, g5⟩, g6⟩ := h5
  simp [Cond.before, Cond.holds, Cond.value, h1, h2, h3, h4, g1, g2, g3, g4, g5, g6]
def isCode : Jvm.Cond → Bool
  | .code _ _ _ _ => true
  | _ => false
theorem all_split {L : List Jvm.Cond} {P : Jvm.Cond → Bool} (h1 : L.all (fun c => isCode c || P c) = true) (h2 : ∀ c ∈ L.filter isCode, P c = true) : L.all P = true := by
  refine List.all_eq_true.mpr fun c hc => ?_
  have h := List.all_eq_true.mp h1 c hc
  rcases Bool.eq_false_or_eq_true (isCode c) with hi | hi
  · exact h2 c (List.mem_filter.mpr ⟨hc, hi⟩)
  · simpa [hi] using h
set_option maxRecDepth 65536 in
theorem w_c0 : (Jvm.Cond.code x code maxLocals ret).before args0 about1 = true := code_word (m := ⟨1, 1⟩) (meth := k1m1) (c := k1c1) (by decide +kernel) rfl rfl rfl (by decide +kernel)
set_option maxRecDepth 65536 in
theorem w_c1 : (Jvm.Cond.code ({ cls := "com/example/saturate/saturate/engine/Table", name := "<init>", desc := "(I)V" } : Jvm.MethodName) prog_32_method_1_code (2 : Nat) (Option.none : Option Jvm.ClassFile.FieldType)).before args0 about1 = true := code_word (m := ⟨2, 0⟩) (meth := k2m0) (c := k2c0) (by decide +kernel) rfl rfl rfl (by decide +kernel)
set_option maxRecDepth 65536 in
theorem w_c2 : (Jvm.Cond.code ({ cls := "java/lang/Object", name := "<init>", desc := "()V" } : Jvm.MethodName) object_method_1_code (1 : Nat) (Option.none : Option Jvm.ClassFile.FieldType)).before args0 about1 = true := code_word (m := ⟨0, 0⟩) (meth := k0m0) (c := k0c0) (by decide +kernel) rfl rfl rfl (by decide +kernel)
set_option maxRecDepth 65536 in
theorem w_c3 : (Jvm.Cond.code ({ cls := "com/example/saturate/saturate/engine/Table", name := "add", desc := "([I[I)I" } : Jvm.MethodName) prog_32_method_5_code (5 : Nat) (Option.some Jvm.ClassFile.FieldType.int)).before args0 about1 = true := code_word (m := ⟨2, 1⟩) (meth := k2m1) (c := k2c1) (by decide +kernel) rfl rfl rfl (by decide +kernel)
set_option maxRecDepth 65536 in
theorem w_c4 : (Jvm.Cond.code ({ cls := "com/example/saturate/saturate/engine/Table", name := "load", desc := "(I[I[I)V" } : Jvm.MethodName) prog_32_method_10_code (6 : Nat) (Option.none : Option Jvm.ClassFile.FieldType)).before args0 about1 = true := code_word (m := ⟨2, 2⟩) (meth := k2m2) (c := k2c2) (by decide +kernel) rfl rfl rfl (by decide +kernel)
set_option maxRecDepth 65536 in
theorem w_c5 : (Jvm.Cond.code ({ cls := "com/example/saturate/saturate/engine/TableLoadPinLaw", name := "expect", desc := "(IIIIII)I" } : Jvm.MethodName) method_3_code (6 : Nat) (Option.some Jvm.ClassFile.FieldType.int)).before args0 about1 = true := code_word (m := ⟨1, 2⟩) (meth := k1m2) (c := k1c2) (by decide +kernel) rfl rfl rfl (by decide +kernel)
def codes1 : List Jvm.Cond := [Jvm.Cond.code x code maxLocals ret, Jvm.Cond.code ({ cls := "com/example/saturate/saturate/engine/Table", name := "<init>", desc := "(I)V" } : Jvm.MethodName) prog_32_method_1_code (2 : Nat) (Option.none : Option Jvm.ClassFile.FieldType), Jvm.Cond.code ({ cls := "java/lang/Object", name := "<init>", desc := "()V" } : Jvm.MethodName) object_method_1_code (1 : Nat) (Option.none : Option Jvm.ClassFile.FieldType), Jvm.Cond.code ({ cls := "com/example/saturate/saturate/engine/Table", name := "add", desc := "([I[I)I" } : Jvm.MethodName) prog_32_method_5_code (5 : Nat) (Option.some Jvm.ClassFile.FieldType.int), Jvm.Cond.code ({ cls := "com/example/saturate/saturate/engine/Table", name := "load", desc := "(I[I[I)V" } : Jvm.MethodName) prog_32_method_10_code (6 : Nat) (Option.none : Option Jvm.ClassFile.FieldType), Jvm.Cond.code ({ cls := "com/example/saturate/saturate/engine/TableLoadPinLaw", name := "expect", desc := "(IIIIII)I" } : Jvm.MethodName) method_3_code (6 : Nat) (Option.some Jvm.ClassFile.FieldType.int)]
set_option maxRecDepth 65536 in
theorem codes_eq : words1.filter isCode = codes1 := rfl
theorem w_codes : ∀ c ∈ words1.filter isCode, c.before args0 about1 = true := by
  rw [codes_eq]
  intro c hc
  simp only [codes1, List.mem_cons, List.not_mem_nil, or_false] at hc
  rcases hc with rfl | rfl | rfl | rfl | rfl | rfl
  · exact w_c0
  · exact w_c1
  · exact w_c2
  · exact w_c3
  · exact w_c4
  · exact w_c5
set_option maxRecDepth 65536 in
theorem w_t1 : (words1.take 24).all (fun c => isCode c || c.before args0 about1) = true := by decide +kernel
set_option maxRecDepth 65536 in
theorem w_t2 : (words1.drop 24).all (fun c => isCode c || c.before args0 about1) = true := by decide +kernel
theorem w_tables : (allAtoms (Jvm.Cond.code x code maxLocals ret :: tables_1)).before args0 about1 = true := by
  rw [allAtoms_all]
  show words1.all (fun c => c.before args0 about1) = true
  refine all_split ?_ w_codes
  rw [← List.take_append_drop 24 words1, List.all_append, w_t1, w_t2]
  rfl
set_option maxRecDepth 65536 in
theorem w_case : (Jvm.Cond.and given_1 narrow_1).before args0 about1 = true := by decide +kernel
theorem w_applies : (headSpec (Jvm.Cond.code x code maxLocals ret :: tables_1) room_1).applies x e0.platform about1 = true :=
  (Spec.applies_iff w_frames).mpr ⟨w_running, w_runnable, w_alone, w_named, w_hears, w_ripe, w_room, w_tables⟩
theorem atStart : AtStart classFile x code maxLocals ret World_1 tables_1 room_1 Calls_1 rest_1 Pre_1 launch0 p0 e0 about1 theMethod args0 below0 :=
  ⟨lists_1, trivial, launch0.admits_env _ _ _, launch0.least_env, fairChoices_fair.cas, fairChoices_fair.clock, w_frames, w_args, w_heap, w_applies, trivial, trivial, w_case⟩
end start1
theorem witness_1 : WitnessClaimed_1 := ⟨start1.p0, start1.e0, start1.about1, start1.theMethod, start1.args0, start1.below0, start1.atStart⟩
end Jvm.Pilot.@@N@@
