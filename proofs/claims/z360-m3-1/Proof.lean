import JvmDerived
import JvmDerived.Pilot.@@N@@Statement
import JvmDerived.Pilot.@@N@@Code
set_option linter.unusedVariables false
set_option linter.unusedSimpArgs false
@@BLOCK:NumsL.lean.txt@@
namespace Jvm.Pilot.@@N@@
open Jvm Jvm.ClassFile Sem Op Lib Jvm.Free Jvm.Stand Jvm.LawKit Jvm.RoadKit Bundle Jvm.Pilot.@@N@@.Jvm.D

section OwnBase
variable {p : Program} {l : Launch} {e : Env} {R : Room} {s : State} {m : MethodId} {args : Array Value} {below : List Frame} {meth : Method} {c : Code} {T T' : State} {locs : List Loc} {cells slots : Nat} {Z : State} {a0 : Array Value} {h h' : Heap} {Q Q' : Option Value → Heap → List Loc → Prop} {P : State → Outcome → Prop} {g g' : JFrame} {pc : Nat} {Ls : Array Slot} {rest : List Value} {a : Addr} {n0 : Nat}
/-- from T, the frame g on top, the body comes to its end, and the end is as P says -/
def own_Go (p : Program) (e : Env) (below : List Frame) (P : State → Outcome → Prop) (T : State) (g : JFrame) : Prop :=
  ∃ s₂ o, Steps p.tables e below (T.setTop g) s₂ ∧ s₂.status = .running ∧ Ended s₂ below o ∧ P s₂ o
/-- it returned; what it returned, the heap and the written places meet Q; no more is made than R allows -/
def own_P (s : State) (R : Room) (Q : Option Value → Heap → List Loc → Prop) (s₂ : State) (o : Outcome) : Prop := ∃ v L, o = .returned v ∧ Q v s₂.heap L ∧ FrameEnd s o s₂ L R.cells R.slots
theorem own_st (h : ∀ t, Steps p.tables e below (T'.setTop g') t → Steps p.tables e below (T.setTop g) t) (G : own_Go p e below P T' g') : own_Go p e below P T g := by
  obtain ⟨s₂, o, h1, r⟩ := G
  exact ⟨s₂, o, h _ h1, r⟩
theorem own_end (X : Stand p l e R s m args below meth c T locs cells slots) (hlk : meth.locks = false) {v : Option Value} (hv : meth.sig.returnType = none → v = none) (hc : cells ≤ R.cells) (hs : slots ≤ R.slots) (hQ : Q v T.heap locs)
    (hr : ∀ fs, (∀ (f : JFrame) (acts : List Action), f.method = m → f.locked = none → f.entered = [] → (doReturn e (T.setTop f) acts v).1 = T.setFrames fs) → Steps p.tables e below (T.setTop g) (T.setFrames fs)) : own_Go p e below (own_P s R Q) T g := by
  obtain ⟨fs, h1, hrun, hended, hW, hsame⟩ := X.leave (v := v) hv hlk
  exact ⟨_, _, hr fs h1, hrun, hended, _, _, rfl, hQ, ⟨_, rfl⟩, hW, hsame.mono hc hs⟩
/-- a method's contract: called with these arguments at the heap h0 it returns, and Q holds -/
def own_Met (l : Launch) (Z : State) (h0 : Heap) (y : MethodName) (bytes : ByteArray) (maxL : Nat) (ret : Option FieldType) (R : Room) (as : Array Value) (Q : Option Value → Heap → List Loc → Prop) : Prop :=
  ∀ ws : List Jvm.Cond, MetFree l y (head1 (Jvm.Cond.code y bytes maxL ret :: ws) R) (fun a U => a = as ∧ Z.Warmed39 U.vm ∧ U.heap = h0) (fun _ _ _ _ _ => True) (fun _ U o U' => ∃ v L, o = .returned v ∧ Q v U'.heap L ∧ FrameEnd U o U' L R.cells R.slots)
theorem own_body {h0 : Heap} {y : MethodName} {bytes : ByteArray} {maxL : Nat} {ret : Option FieldType} {as : Array Value} (hn : plainName y.cls = true) (he : ∀ m : MethodId, entryFrame m as maxL = mkF m 0 Ls [])
    (body : ∀ (p : Program) (e : Env) (s : State) (m : MethodId) (below : List Frame) (meth : Method) (c : Code) (T : State), Stand p l e R s m as below meth c T [] 0 0 → p.tables.exec = Jvm.exec → c.code = bytes → c.maxLocals = maxL → meth.sig.returnType = ret → meth.locks = false → s.vm.findClass y.cls = some m.cls → meth.name = y.name → Z.Warmed39 s.vm → T.heap = h0 → own_Go p e below (own_P s R Q) T (mkF m 0 Ls [])) :
    own_Met l Z h0 y bytes maxL ret R as Q := by
  intro ws
  refine MetFree.of_bodySF (plainFor_of_name hn) hisR ?_
  intro p e s m args below meth c s₁ Bd hml0 hP hK
  obtain ⟨rfl, hZ, hh⟩ := hP
  have e0 : s₁.heap = h0 := by rw [← hh, Bd.state]; rfl
  obtain ⟨s₂, o, h1, r⟩ := body p e s m below meth c s₁ (Stand.of_body Bd) Bd.exec Bd.bytes hml0 Bd.returns (BodyLoose.notSynchronized Bd) (findClass_of_methodNamed Bd.named) (name_of_methodNamed Bd.named Bd.method).1 hZ e0
  exact ⟨s₂, o, castTop (he m) h1, r⟩
theorem own_Met.imp {h0 : Heap} {y : MethodName} {bytes : ByteArray} {maxL : Nat} {ret : Option FieldType} {as : Array Value} (M : own_Met l Z h0 y bytes maxL ret R as Q) (hq : ∀ v h L, Q v h L → Q' v h L) : own_Met l Z h0 y bytes maxL ret R as Q' := by
  intro ws p e ha hc hk s m args below hf happ hP hK
  obtain ⟨n, o, h1, h2, h3, v, L, h4, h5, h6⟩ := M ws p e ha hc hk s m args below hf happ hP hK
  exact ⟨n, o, h1, h2, h3, v, L, h4, hq _ _ _ h5, h6⟩
/-- a static call by its contract -/
theorem own_callS (X : Stand p l e R s m args below meth c T locs cells slots) (hx : p.tables.exec = Jvm.exec) (hZ : Z.Warmed39 s.vm) (e0 : T.heap = h) {own : String} {index : Nat} {y : MethodName} {bytes : ByteArray} {maxL : Nat} {ret : Option FieldType} {rm : Room}
    (hown : s.vm.findClass own = some m.cls) (w1 : (Jvm.Cond.methodLink own index y).before a0 Z = true) (w2 : (Jvm.Cond.static y).before a0 Z = true) (w3 : (Jvm.Cond.initialized y.cls).before a0 Z = true) (w4 : (Jvm.Cond.code y bytes maxL ret).before a0 Z = true)
    (hy : y.cls ≠ "java/lang/invoke/MethodHandle" ∧ y.cls ≠ "java/lang/invoke/VarHandle") {ps : List FieldType} {r : Option FieldType} (hd : parseMethodDescriptor y.desc = some ⟨ps, r⟩)
    {argsL : List Value} (hn : argsL.length = ps.length) (M : own_Met l Z h y bytes maxL ret rm argsL.toArray Q') (W : Nat) (hf : rm.frames + 1 ≤ R.frames) (hl : W + (maxL + 11) + rm.locals ≤ R.locals) (hc : cells + rm.cells ≤ R.cells) (hs : slots + rm.slots ≤ R.slots)
    {st : List Value} (hst : st = argsL.reverse ++ rest) (hsz : Ls.size = c.maxLocals) (hW : (rest.map fun v => v.category).sum ≤ W) (hdg : decode c.code pc = .ok (.invokestatic index, 3))
    (k : ∀ (v : Option Value) (T' : State) (L : List Loc), Q' v T'.heap L → Stand p l e R s m args below meth c T' (locs ++ L) (cells + rm.cells) (slots + rm.slots) → own_Go p e below P T' (mkF m (pc + 3) Ls (v.toList ++ rest))) :
    own_Go p e below P T (mkF m pc Ls st) := by
  subst hst
  obtain ⟨v, _, ⟨T', L', k', n'⟩, -, X', ⟨L, hQ, l1, l2, l3⟩, st⟩ := Jvm.LawKit.callS X hx (y := y) hown (mvT hZ w1) (mvT hZ w2) (mvT hZ w3) (mvT hZ w4) hy (backOf (W := W) (M []) hZ w4 w3 hf hl) (g := mkF m pc Ls (argsL.reverse ++ rest)) rfl hsz (argsL := argsL) (rest := rest) (lenOf hd hn) rfl (by show 2 * 0 + _ ≤ _; omega) hdg (fun _ _ => ⟨rfl, e0, hc, hs⟩)
  dsimp only [Pt.U, Pt.locs, Pt.cells, Pt.slots] at X' l1 l2 l3 st hQ
  subst l1 l2 l3
  exact own_st st (k v T' L hQ X')
/-- a constructor by its contract -/
theorem own_callN (X : Stand p l e R s m args below meth c T locs cells slots) (hx : p.tables.exec = Jvm.exec) (hZ : Z.Warmed39 s.vm) (e0 : T.heap = h) {own : String} {index : Nat} {y : MethodName} {bytes : ByteArray} {maxL : Nat} {rm : Room} (hy1 : y.name = "<init>")
    (hown : s.vm.findClass own = some m.cls) (w1 : (Jvm.Cond.methodLink own index y).before a0 Z = true) (w2 : (Jvm.Cond.instanceMethod y).before a0 Z = true) (w3 : (Jvm.Cond.initialized y.cls).before a0 Z = true) (w4 : (Jvm.Cond.code y bytes maxL none).before a0 Z = true)
    (hy : y.cls ≠ "java/lang/invoke/MethodHandle" ∧ y.cls ≠ "java/lang/invoke/VarHandle") {ps : List FieldType} {r : Option FieldType} (hd : parseMethodDescriptor y.desc = some ⟨ps, r⟩)
    {argsL : List Value} (hn : argsL.length = ps.length) (M : own_Met l Z h y bytes maxL none rm (.ref a :: argsL).toArray Q') (W : Nat) (hf : rm.frames + 1 ≤ R.frames) (hl : W + (maxL + 11) + rm.locals ≤ R.locals) (hc : cells + rm.cells ≤ R.cells) (hs : slots + rm.slots ≤ R.slots)
    {st : List Value} (hst : st = argsL.reverse ++ .ref a :: rest) (hsz : Ls.size = c.maxLocals) (hW : (rest.map fun v => v.category).sum ≤ W) (hdg : decode c.code pc = .ok (.invokespecial index, 3))
    (k : ∀ (v : Option Value) (T' : State) (L : List Loc), Q' v T'.heap L → Stand p l e R s m args below meth c T' (locs ++ L) (cells + rm.cells) (slots + rm.slots) → own_Go p e below P T' (mkF m (pc + 3) Ls (v.toList ++ rest))) :
    own_Go p e below P T (mkF m pc Ls st) := by
  subst hst
  obtain ⟨v, _, ⟨T', L', k', n'⟩, -, X', ⟨L, hQ, l1, l2, l3⟩, st⟩ := X.specialBack hx (y := y) hy1 hown (mvT hZ w1) (mvT hZ w2) (mvT hZ w4) hy (backOf (W := W) (M []) hZ w4 w3 hf hl) (g := mkF m pc Ls (argsL.reverse ++ .ref a :: rest)) rfl hsz (Steps.refl _) (a := a) (argsL := argsL) (rest := rest) (lenOf hd hn) rfl (by show 2 * 0 + _ ≤ _; omega) hdg (fun _ _ => ⟨rfl, e0, hc, hs⟩)
  dsimp only [Pt.U, Pt.locs, Pt.cells, Pt.slots] at X' l1 l2 l3 st hQ
  subst l1 l2 l3
  exact own_st (fun t q => st.trans q) (k v T' L hQ X')
/-- an instance method by its contract -/
theorem own_callV (X : Stand p l e R s m args below meth c T locs cells slots) (hx : p.tables.exec = Jvm.exec) (hZ : Z.Warmed39 s.vm) (e0 : T.heap = h) {own C : String} {index : Nat} {y z : MethodName} {bytes : ByteArray} {maxL : Nat} {ret : Option FieldType} {rm : Room}
    (hown : s.vm.findClass own = some m.cls) (w1 : (Jvm.Cond.methodLink own index y).before a0 Z = true) (w2 : (Jvm.Cond.declares y).before a0 Z = true) (w5 : (Jvm.Cond.selects y.cls y y).before a0 Z = true) (w6 : (Jvm.Cond.selects C y z).before a0 Z = true) (w7 : (Jvm.Cond.instanceMethod z).before a0 Z = true) (w3 : (Jvm.Cond.initialized z.cls).before a0 Z = true) (w4 : (Jvm.Cond.code z bytes maxL ret).before a0 Z = true)
    (hy : y.cls ≠ "java/lang/invoke/MethodHandle" ∧ y.cls ≠ "java/lang/invoke/VarHandle") {ps : List FieldType} {r : Option FieldType} (hd : parseMethodDescriptor y.desc = some ⟨ps, r⟩) (E : Exa Z h a C)
    {argsL : List Value} (hn : argsL.length = ps.length) (M : own_Met l Z h z bytes maxL ret rm (.ref a :: argsL).toArray Q') (W : Nat) (hf : rm.frames + 1 ≤ R.frames) (hl : W + (maxL + 11) + rm.locals ≤ R.locals) (hc : cells + rm.cells ≤ R.cells) (hs : slots + rm.slots ≤ R.slots)
    {st : List Value} (hst : st = argsL.reverse ++ .ref a :: rest) (hsz : Ls.size = c.maxLocals) (hW : (rest.map fun v => v.category).sum ≤ W) (hdg : decode c.code pc = .ok (.invokevirtual index, 3))
    (k : ∀ (v : Option Value) (T' : State) (L : List Loc), Q' v T'.heap L → Stand p l e R s m args below meth c T' (locs ++ L) (cells + rm.cells) (slots + rm.slots) → own_Go p e below P T' (mkF m (pc + 3) Ls (v.toList ++ rest))) :
    own_Go p e below P T (mkF m pc Ls st) := by
  subst hst
  obtain ⟨cq, kq, qa, qb, qc⟩ := isOf hZ e0 E
  obtain ⟨v, _, ⟨T', L', k', n'⟩, -, X', ⟨L, hQ, l1, l2, l3⟩, st⟩ := X.virtualBack hx (y := y) (z := z) hown (mvT hZ w1) (mvT hZ w2) (notFace_of_selects (args := #[]) (mvT hZ w5)) (mvT hZ w6) (mvT hZ w7) hy (backOf (W := W) (M []) hZ w4 w3 hf hl) qa qc (g := mkF m pc Ls (argsL.reverse ++ .ref a :: rest)) rfl hsz (Steps.refl _) (argsL := argsL) (rest := rest) (lenOf hd hn) rfl (by show 2 * 0 + _ ≤ _; omega) hdg (fun _ _ => ⟨rfl, e0, hc, hs⟩)
  dsimp only [Pt.U, Pt.locs, Pt.cells, Pt.slots] at X' l1 l2 l3 st hQ
  subst l1 l2 l3
  exact own_st (fun t q => st.trans q) (k v T' L hQ X')
/-- a private instance method by its contract (no 'selects' word is laid for it) -/
theorem own_callP (X : Stand p l e R s m args below meth c T locs cells slots) (hx : p.tables.exec = Jvm.exec) (hZ : Z.Warmed39 s.vm) (e0 : T.heap = h) {own C : String} {index kk : Nat} {y : MethodName} {bytes : ByteArray} {maxL : Nat} {ret : Option FieldType} {rm : Room}
    (hown : s.vm.findClass own = some m.cls) (w1 : (Jvm.Cond.methodLink own index y).before a0 Z = true) (w2 : (Jvm.Cond.instanceMethod y).before a0 Z = true) (wp : (Jvm.Cond.privateMethod y).before a0 Z = true) (wi : (Jvm.Cond.instantiable y.cls kk).before a0 Z = true) (w3 : (Jvm.Cond.initialized y.cls).before a0 Z = true) (w4 : (Jvm.Cond.code y bytes maxL ret).before a0 Z = true)
    (hy : y.cls ≠ "java/lang/invoke/MethodHandle" ∧ y.cls ≠ "java/lang/invoke/VarHandle") {ps : List FieldType} {r : Option FieldType} (hd : parseMethodDescriptor y.desc = some ⟨ps, r⟩) (E : Exa Z h a C)
    {argsL : List Value} (hn : argsL.length = ps.length) (M : own_Met l Z h y bytes maxL ret rm (.ref a :: argsL).toArray Q') (W : Nat) (hf : rm.frames + 1 ≤ R.frames) (hl : W + (maxL + 11) + rm.locals ≤ R.locals) (hc : cells + rm.cells ≤ R.cells) (hs : slots + rm.slots ≤ R.slots)
    {st : List Value} (hst : st = argsL.reverse ++ .ref a :: rest) (hsz : Ls.size = c.maxLocals) (hW : (rest.map fun v => v.category).sum ≤ W) (hdg : decode c.code pc = .ok (.invokevirtual index, 3))
    (k : ∀ (v : Option Value) (T' : State) (L : List Loc), Q' v T'.heap L → Stand p l e R s m args below meth c T' (locs ++ L) (cells + rm.cells) (slots + rm.slots) → own_Go p e below P T' (mkF m (pc + 3) Ls (v.toList ++ rest))) :
    own_Go p e below P T (mkF m pc Ls st) := by
  subst hst
  obtain ⟨cq, q1, q2⟩ := E.cell
  have hP : s.PrivateAt y := Cond.privateMethod_at (mvP hZ wp (args := #[]))
  obtain ⟨c2, k2, i1, i2, -, i4, -⟩ := Cond.instantiable_spec (mvT (args := #[]) hZ wi)
  have hni : k2.isInterface = false := by
    cases hb : k2.isInterface with
    | false => rfl
    | true => rw [hb] at i4; cases i4
  have hsel : (Jvm.Cond.selects y.cls y y).before args s = true := selects_self_of_private i1 i2 hni hP (mvT hZ w2) hy
  obtain ⟨v, _, ⟨T', L', k', n'⟩, -, X', ⟨L, hQ, l1, l2, l3⟩, st⟩ := X.privateBack hx (y := y) hown (mvT hZ w1) (mvT hZ w2) hsel hP (mvT hZ w4) hy (backOf (W := W) (M []) hZ w4 w3 hf hl) (g := mkF m pc Ls (argsL.reverse ++ .ref a :: rest)) rfl hsz (Steps.refl _) (a := a) (by rw [e0]; exact q1) q2 (argsL := argsL) (rest := rest) (lenOf hd hn) rfl (by show 2 * 0 + _ ≤ _; omega) hdg (fun _ _ => ⟨rfl, e0, hc, hs⟩)
  dsimp only [Pt.U, Pt.locs, Pt.cells, Pt.slots] at X' l1 l2 l3 st hQ
  subst l1 l2 l3
  exact own_st (fun t q => st.trans q) (k v T' L hQ X')
/-- Object's constructor -/
theorem own_initO (X : Stand p l e R s m args below meth c T locs cells slots) (hx : p.tables.exec = Jvm.exec) (hZ : Z.Warmed39 s.vm) (e0 : T.heap = h) {own : String} {idx : Nat} (hown : s.vm.findClass own = some m.cls) (w1 : (Jvm.Cond.methodLink own idx Lib.objectInit).before a0 Z = true) (w2 : (Jvm.Cond.instanceMethod Lib.objectInit).before a0 Z = true)
    (w3 : (Jvm.Cond.code Lib.objectInit ⟨#[0xb1]⟩ 1 none).before a0 Z = true) (hsz : Ls.size = c.maxLocals) (hd : decode c.code pc = .ok (.invokespecial idx, 3)) (hf : 1 ≤ R.frames) (W : Nat) (hW : (rest.map fun v => v.category).sum ≤ W) (hl : W + 12 ≤ R.locals)
    (k : ∀ T' : State, Stand p l e R s m args below meth c T' locs cells slots → T'.heap = h → own_Go p e below P T' (mkF m (pc + 3) Ls rest)) : own_Go p e below P T (mkF m pc Ls (.ref a :: rest)) := by
  obtain ⟨T', X', e', st⟩ := initO X hx hZ hown w1 w2 w3 e0 (g := mkF m pc Ls (.ref a :: rest)) rfl hsz rfl hd hf (W := W) (by show 2 * 0 + _ ≤ _; omega) hl
  exact own_st st (k T' X' e')
theorem own_getF (X : Stand p l e R s m args below meth c T locs cells slots) (hx : p.tables.exec = Jvm.exec) (hZ : Z.Warmed39 s.vm) (e0 : T.heap = h) {own C n d : String} {index : Nat} (hown : s.vm.findClass own = some m.cls) (w : (Jvm.Cond.fieldLink own index C n d).before a0 Z = true)
    {v : Value} (F : Fld Z h a C n d v) (hd : decode c.code pc = .ok (.getfield index, 3))
    (k : ∀ T' : State, Stand p l e R s m args below meth c T' locs cells slots → T'.heap = h → own_Go p e below P T' (mkF m (pc + 3) Ls (v :: rest))) : own_Go p e below P T (mkF m pc Ls (.ref a :: rest)) := by
  obtain ⟨T', X', e', st⟩ := getF X hx hZ hown (host := "") (Or.inl w) Via.refl e0 F (g := mkF m pc Ls (.ref a :: rest)) rfl rfl hd
  exact own_st st (k T' X' e')
theorem own_putF (X : Stand p l e R s m args below meth c T locs cells slots) (hx : p.tables.exec = Jvm.exec) (hZ : Z.Warmed39 s.vm) (e0 : T.heap = h) {own C O n d : String} {index kk : Nat} {ty : FieldType} (hown : s.vm.findClass own = some m.cls) (w : (Jvm.Cond.fieldLink own index O n d).before a0 Z = true)
    {v old : Value} (F : Fld Z h a O n d old) (E : Exa Z h a C) (L : (Jvm.Cond.lays C O n d).before a0 Z = true ∨ ((Jvm.Cond.laysFinal C O n d).before a0 Z = true ∧ own = O ∧ meth.name = "<init>")) (wi : (Jvm.Cond.instantiable C kk).before a0 Z = true)
    (hty : parseFieldDescriptor d = some ty) (hn : narrow ty v = v) (hf : fits ty v = true) (N : Fr n0 locs) (ga : n0 ≤ a) (hd : decode c.code pc = .ok (.putfield index, 3))
    (k : ∀ (T' : State) (h' : Heap), Stand p l e R s m args below meth c T' (locs ++ [⟨a, Jvm.RoadKit.slotOf Z O n d⟩]) cells slots → T'.heap = h' → Wr h h' a (Jvm.RoadKit.slotOf Z O n d) v → Fr n0 (locs ++ [⟨a, Jvm.RoadKit.slotOf Z O n d⟩]) → own_Go p e below P T' (mkF m (pc + 3) Ls rest)) :
    own_Go p e below P T (mkF m pc Ls (v :: .ref a :: rest)) := by
  obtain ⟨T', h', X', e', W', st⟩ := putF X hx hZ hown (host := "") (Or.inl w) Via.refl e0 F E L wi hty hn hf (g := mkF m pc Ls (v :: .ref a :: rest)) rfl rfl hd
  exact own_st st (k T' h' X' e' W' (Fr.snoc X' N ga))
theorem own_new (X : Stand p l e R s m args below meth c T locs cells slots) (hx : p.tables.exec = Jvm.exec) (hZ : Z.Warmed39 s.vm) (e0 : T.heap = h) {own C : String} {index n : Nat} (hown : s.vm.findClass own = some m.cls) (w : (Jvm.Cond.classLink own index C).before a0 Z = true) (wi : (Jvm.Cond.instantiable C n).before a0 Z = true) (wz : (Jvm.Cond.initialized C).before a0 Z = true)
    (hd : decode c.code pc = .ok (.new index, 3)) (hc : cells + 1 ≤ R.cells) (hl : slots + n ≤ R.slots)
    (k : ∀ (T' : State) (h' : Heap) (a : Addr), Stand p l e R s m args below meth c T' locs (cells + 1) (slots + n) → T'.heap = h' → Ext h h' → h.size = a → Exa Z h' a C → (∀ {O nm d : String} {ty : FieldType}, Laid Z a0 C O nm d → parseFieldDescriptor d = some ty → Fld Z h' a O nm d (defaultValue ty)) → own_Go p e below P T' (mkF m (pc + 3) Ls (.ref a :: rest))) :
    own_Go p e below P T (mkF m pc Ls rest) := by
  obtain ⟨T', h', X', e', E', A', D', -, st⟩ := newO X hx hZ hown w wi wz e0 (g := mkF m pc Ls rest) rfl hd hc hl
  exact own_st st (k T' h' h.size X' e' E' rfl A' D')
theorem own_inst (X : Stand p l e R s m args below meth c T locs cells slots) (hx : p.tables.exec = Jvm.exec) (hZ : Z.Warmed39 s.vm) (e0 : T.heap = h) {own K : String} {index : Nat} (hown : s.vm.findClass own = some m.cls) (w : (Jvm.Cond.classLink own index K).before a0 Z = true) (F : Ins Z h a K true) (hd : decode c.code pc = .ok (.instanceof index, 3))
    (k : ∀ T' : State, Stand p l e R s m args below meth c T' locs cells slots → T'.heap = h → own_Go p e below P T' (mkF m (pc + 3) Ls (.int 1 :: rest))) : own_Go p e below P T (mkF m pc Ls (.ref a :: rest)) := by
  obtain ⟨T', X', e', st⟩ := instY X hx hZ hown w e0 F (g := mkF m pc Ls (.ref a :: rest)) rfl rfl hd
  exact own_st st (k T' X' e')
theorem own_cast (X : Stand p l e R s m args below meth c T locs cells slots) (hx : p.tables.exec = Jvm.exec) (hZ : Z.Warmed39 s.vm) (e0 : T.heap = h) {own K : String} {index : Nat} (hown : s.vm.findClass own = some m.cls) (w : (Jvm.Cond.classLink own index K).before a0 Z = true) (F : Ins Z h a K true) (hd : decode c.code pc = .ok (.checkcast index, 3))
    (k : ∀ T' : State, Stand p l e R s m args below meth c T' locs cells slots → T'.heap = h → own_Go p e below P T' (mkF m (pc + 3) Ls (.ref a :: rest))) : own_Go p e below P T (mkF m pc Ls (.ref a :: rest)) := by
  obtain ⟨T', X', e', st⟩ := castY X hx hZ hown w e0 F (g := mkF m pc Ls (.ref a :: rest)) rfl rfl hd
  exact own_st st (k T' X' e')
/-- an array of n places; place j holds f j -/
def own_A (Z : State) (h : Heap) (a : Addr) (ty : FieldType) (n : Nat) (f : Nat → Value) : Prop := ∃ c : Cell, Arr Z h a c ty ∧ c.slots.size = n ∧ ∀ j, j < n → c.slots[j]? = some (f j)
def own_upd {α : Type} (f : Nat → α) (i : Nat) (x : α) : Nat → α := fun j => if j = i then x else f j
/-- the int j names the place i of n -/
abbrev own_ix (j : Int32) (i n : Nat) : Prop := ¬ j < 0 ∧ j.toNatClampNeg = i ∧ i < n
variable {ty : FieldType} {n : Nat} {f : Nat → Value} {ws : List Addr}
theorem own_A.lt (A : own_A Z h a ty n f) : a < h.size := by obtain ⟨c, A, -⟩ := A; exact A.lt
theorem own_A.ext (A : own_A Z h a ty n f) (E : Ext h h') : own_A Z h' a ty n f := by obtain ⟨c, A, r⟩ := A; exact ⟨c, A.ext E, r⟩
theorem own_A.keep (A : own_A Z h a ty n f) (K : Keep h h' ws) (q : a ∉ ws) : own_A Z h' a ty n f := by obtain ⟨c, A, r⟩ := A; exact ⟨c, ⟨K.2.1 a c A.1 q, A.2⟩, r⟩
theorem own_A.congr {f' : Nat → Value} (A : own_A Z h a ty n f) (q : ∀ j, j < n → f j = f' j) : own_A Z h a ty n f' := by obtain ⟨c, A, r, k⟩ := A; exact ⟨c, A, r, fun j hj => by rw [← q j hj]; exact k j hj⟩
theorem own_A.set {i : Nat} {v : Value} (A : own_A Z h a ty n f) (W : Wr h h' a i v) : own_A Z h' a ty n (own_upd f i v) := by
  obtain ⟨c, A, S, H⟩ := A
  refine ⟨_, A.same W, by rw [sz_set]; exact S, fun j hj => ?_⟩
  by_cases q : j = i
  · subst q
    have : j < c.slots.size := by rw [S]; exact hj
    simp [Cell.setSlot, own_upd, this]
  · have q' : i ≠ j := fun z => q z.symm
    simp only [Cell.setSlot, own_upd, if_neg q]
    rw [Array.getElem?_setIfInBounds_ne q']
    exact H j hj
theorem own_ix.inb {j : Int32} {i : Nat} {cl : Cell} (x : own_ix j i n) (S : cl.slots.size = n) : ¬ (j < 0 ∨ cl.slots.size ≤ j.toNatClampNeg) := by
  obtain ⟨x1, x2, x3⟩ := x
  rw [S, x2]
  exact fun q => q.elim x1 (fun q => absurd q (Nat.not_le.mpr x3))
theorem own_alen (X : Stand p l e R s m args below meth c T locs cells slots) (hx : p.tables.exec = Jvm.exec) (hZ : Z.Warmed39 s.vm) (e0 : T.heap = h) (A : own_A Z h a ty n f) {z : Int32} (hz : n.toInt32 = z) (hd : decode c.code pc = .ok (.arraylength, 1))
    (k : own_Go p e below P T (mkF m (pc + 1) Ls (.int z :: rest))) : own_Go p e below P T (mkF m pc Ls (.ref a :: rest)) := by
  obtain ⟨cl, A, S, H⟩ := A
  subst S hz
  exact own_st (fun t q => X.arraylength hx (cell := cl) (by rw [e0]; exact A.1) (State.isArrayOf_alike hZ.alike A.2.1) (g := mkF m pc Ls (.ref a :: rest)) rfl rfl hd t q) k
abbrev own_IA (Z : State) (h : Heap) (a : Addr) (n : Nat) (g : Nat → Int32) : Prop := own_A Z h a .int n (fun j => .int (g j))
abbrev own_BA (Z : State) (h : Heap) (a : Addr) (n : Nat) (g : Nat → Int32) : Prop := own_A Z h a .byte n (fun j => .int (g j))
abbrev own_JA (Z : State) (h : Heap) (a : Addr) (n : Nat) (g : Nat → Int64) : Prop := own_A Z h a .long n (fun j => .long (g j))
theorem own_updI (g : Nat → Int32) (i : Nat) (x : Int32) : own_upd (fun j => Value.int (g j)) i (.int x) = fun j => Value.int (own_upd g i x j) := funext fun j => by unfold own_upd; split <;> rfl
theorem own_updJ (g : Nat → Int64) (i : Nat) (x : Int64) : own_upd (fun j => Value.long (g j)) i (.long x) = fun j => Value.long (own_upd g i x j) := funext fun j => by unfold own_upd; split <;> rfl
theorem own_ldI (X : Stand p l e R s m args below meth c T locs cells slots) (hx : p.tables.exec = Jvm.exec) (hZ : Z.Warmed39 s.vm) (e0 : T.heap = h) {g : Nat → Int32} (A : own_IA Z h a n g) {j : Int32} {i : Nat} (ix : own_ix j i n) {x : Int32} (hv : g i = x) (hd : decode c.code pc = .ok (.iaload, 1))
    (k : own_Go p e below P T (mkF m (pc + 1) Ls (.int x :: rest))) : own_Go p e below P T (mkF m pc Ls (.int j :: .ref a :: rest)) := by
  obtain ⟨cl, A, S, H⟩ := A
  subst hv
  exact own_st (fun t q => X.iaload hx (j := j) (v := .int (g i)) (by rw [e0]; exact A.1) (State.isArrayOf_alike hZ.alike A.2.1) A.2.2 (ix.inb S) (by rw [ix.2.1]; exact H i ix.2.2) (g := mkF m pc Ls (.int j :: .ref a :: rest)) rfl rfl hd t q) k
theorem own_ldB (X : Stand p l e R s m args below meth c T locs cells slots) (hx : p.tables.exec = Jvm.exec) (hZ : Z.Warmed39 s.vm) (e0 : T.heap = h) {g : Nat → Int32} (A : own_BA Z h a n g) {j : Int32} {i : Nat} (ix : own_ix j i n) {x : Int32} (hv : g i = x) (hd : decode c.code pc = .ok (.baload, 1))
    (k : own_Go p e below P T (mkF m (pc + 1) Ls (.int x :: rest))) : own_Go p e below P T (mkF m pc Ls (.int j :: .ref a :: rest)) := by
  obtain ⟨cl, A, S, H⟩ := A
  subst hv
  exact own_st (fun t q => X.baloadBytes hx (j := j) (v := .int (g i)) (by rw [e0]; exact A.1) (State.isArrayOf_alike hZ.alike A.2.1) A.2.2 (ix.inb S) (by rw [ix.2.1]; exact H i ix.2.2) (g := mkF m pc Ls (.int j :: .ref a :: rest)) rfl rfl hd t q) k
theorem own_ldJ (X : Stand p l e R s m args below meth c T locs cells slots) (hx : p.tables.exec = Jvm.exec) (hZ : Z.Warmed39 s.vm) (e0 : T.heap = h) {g : Nat → Int64} (A : own_JA Z h a n g) {j : Int32} {i : Nat} (ix : own_ix j i n) {x : Int64} (hv : g i = x) (hd : decode c.code pc = .ok (.laload, 1))
    (k : own_Go p e below P T (mkF m (pc + 1) Ls (.long x :: rest))) : own_Go p e below P T (mkF m pc Ls (.int j :: .ref a :: rest)) := by
  obtain ⟨cl, A, S, H⟩ := A
  subst hv
  exact own_st (fun t q => X.laload hx (j := j) (v := .long (g i)) (by rw [e0]; exact A.1) (State.isArrayOf_alike hZ.alike A.2.1) A.2.2 (ix.inb S) (by rw [ix.2.1]; exact H i ix.2.2) (g := mkF m pc Ls (.int j :: .ref a :: rest)) rfl rfl hd t q) k
theorem own_stI (X : Stand p l e R s m args below meth c T locs cells slots) (hx : p.tables.exec = Jvm.exec) (hZ : Z.Warmed39 s.vm) (e0 : T.heap = h) {g : Nat → Int32} (A : own_IA Z h a n g) {j : Int32} {x : Int32} {i : Nat} (ix : own_ix j i n) (N : Fr n0 locs) (ga : n0 ≤ a) (hd : decode c.code pc = .ok (.iastore, 1))
    (k : ∀ (T' : State) (h' : Heap), Stand p l e R s m args below meth c T' (locs ++ [⟨a, j.toNatClampNeg⟩]) cells slots → T'.heap = h' → own_IA Z h' a n (own_upd g i x) → Keep h h' [a] → Fr n0 (locs ++ [⟨a, j.toNatClampNeg⟩]) → own_Go p e below P T' (mkF m (pc + 1) Ls rest)) :
    own_Go p e below P T (mkF m pc Ls (.int x :: .int j :: .ref a :: rest)) := by
  obtain ⟨cl, A1, S, H⟩ := A
  obtain ⟨T', h', X', e', W', st⟩ := stI X hx hZ e0 A1 (j := j) (x := x) (ix.inb S) (g := mkF m pc Ls (.int x :: .int j :: .ref a :: rest)) rfl rfl hd
  have V := own_A.set ⟨cl, A1, S, H⟩ W'
  rw [ix.2.1] at V
  have V' : own_IA Z h' a n (own_upd g i x) := by rw [own_IA, ← own_updI]; exact V
  exact own_st st (k T' h' X' e' V' (Keep.of_wr W') (Fr.snoc X' N ga))
theorem own_stB (X : Stand p l e R s m args below meth c T locs cells slots) (hx : p.tables.exec = Jvm.exec) (hZ : Z.Warmed39 s.vm) (e0 : T.heap = h) {g : Nat → Int32} (A : own_BA Z h a n g) {j : Int32} {x : Int32} {i : Nat} (ix : own_ix j i n) (N : Fr n0 locs) (ga : n0 ≤ a) (hd : decode c.code pc = .ok (.bastore, 1))
    (k : ∀ (T' : State) (h' : Heap), Stand p l e R s m args below meth c T' (locs ++ [⟨a, j.toNatClampNeg⟩]) cells slots → T'.heap = h' → own_BA Z h' a n (own_upd g i x.toInt8.toInt32) → Keep h h' [a] → Fr n0 (locs ++ [⟨a, j.toNatClampNeg⟩]) → own_Go p e below P T' (mkF m (pc + 1) Ls rest)) :
    own_Go p e below P T (mkF m pc Ls (.int x :: .int j :: .ref a :: rest)) := by
  obtain ⟨cl, A1, S, H⟩ := A
  obtain ⟨T', h', X', e', W', st⟩ := stB X hx hZ e0 A1 (j := j) (x := x) (ix.inb S) (g := mkF m pc Ls (.int x :: .int j :: .ref a :: rest)) rfl rfl hd
  have V := own_A.set ⟨cl, A1, S, H⟩ W'
  rw [ix.2.1] at V
  have V' : own_BA Z h' a n (own_upd g i x.toInt8.toInt32) := by rw [own_BA, ← own_updI]; exact V
  exact own_st st (k T' h' X' e' V' (Keep.of_wr W') (Fr.snoc X' N ga))
theorem own_stJ (X : Stand p l e R s m args below meth c T locs cells slots) (hx : p.tables.exec = Jvm.exec) (hZ : Z.Warmed39 s.vm) (e0 : T.heap = h) {g : Nat → Int64} (A : own_JA Z h a n g) {j : Int32} {x : Int64} {i : Nat} (ix : own_ix j i n) (N : Fr n0 locs) (ga : n0 ≤ a) (hd : decode c.code pc = .ok (.lastore, 1))
    (k : ∀ (T' : State) (h' : Heap), Stand p l e R s m args below meth c T' (locs ++ [⟨a, j.toNatClampNeg⟩]) cells slots → T'.heap = h' → own_JA Z h' a n (own_upd g i x) → Keep h h' [a] → Fr n0 (locs ++ [⟨a, j.toNatClampNeg⟩]) → own_Go p e below P T' (mkF m (pc + 1) Ls rest)) :
    own_Go p e below P T (mkF m pc Ls (.long x :: .int j :: .ref a :: rest)) := by
  obtain ⟨cl, A1, S, H⟩ := A
  obtain ⟨T', h', X', e', W', st⟩ := stJ X hx hZ e0 A1 (j := j) (x := x) (ix.inb S) (g := mkF m pc Ls (.long x :: .int j :: .ref a :: rest)) rfl rfl hd
  have V := own_A.set ⟨cl, A1, S, H⟩ W'
  rw [ix.2.1] at V
  have V' : own_JA Z h' a n (own_upd g i x) := by rw [own_JA, ← own_updJ]; exact V
  exact own_st st (k T' h' X' e' V' (Keep.of_wr W') (Fr.snoc X' N ga))
theorem own_newP (X : Stand p l e R s m args below meth c T locs cells slots) (hx : p.tables.exec = Jvm.exec) (hZ : Z.Warmed39 s.vm) (e0 : T.heap = h) {aty : ArrayType} (w : (Jvm.Cond.arrayClass (newarray.typeOf aty)).before a0 Z = true) (hd : decode c.code pc = .ok (.newarray aty, 2)) {z : Int32} (hz0 : ¬ z < 0) (n : Nat) (hz : z.toNatClampNeg = n) (hb : n * 8 ≤ 536870912) (hc : cells + 1 ≤ R.cells) (hl : slots + n ≤ R.slots)
    (k : ∀ (T' : State) (h' : Heap) (a : Addr), Stand p l e R s m args below meth c T' locs (cells + 1) (slots + n) → T'.heap = h' → Ext h h' → h.size = a → own_A Z h' a (newarray.typeOf aty) n (fun _ => defaultValue (newarray.typeOf aty)) → own_Go p e below P T' (mkF m (pc + 2) Ls (.ref a :: rest))) :
    own_Go p e below P T (mkF m pc Ls (.int z :: rest)) := by
  obtain ⟨T', h', cA, X', e', E', A', st⟩ := newP X hx hZ w e0 (g := mkF m pc Ls (.int z :: rest)) rfl hd rfl hz0 (cap := n) (Nat.le_of_eq hz) hb hc hl
  refine own_st st (k T' h' h.size X' e' E' rfl ⟨_, A', by rw [sz_new]; exact hz, fun j hj => ?_⟩)
  simp [newA, hz, hj]
theorem own_retI (X : Stand p l e R s m args below meth c T locs cells slots) (hx : p.tables.exec = Jvm.exec) (hlk : meth.locks = false) (hret : meth.sig.returnType = some .int) (hc : cells ≤ R.cells) (hs : slots ≤ R.slots) {z : Int32} (hd : decode c.code pc = .ok (.ireturn, 1)) (hQ : Q (some (.int z)) T.heap locs) : own_Go p e below (own_P s R Q) T (mkF m pc Ls (.int z :: rest)) :=
  own_end X hlk (fun q => by rw [hret] at q; cases q) hc hs hQ (fun fs hr => retOut X hx hret rfl (Or.inl ⟨rfl, Or.inl rfl, z, rfl⟩) hd hr)
theorem own_retZ (X : Stand p l e R s m args below meth c T locs cells slots) (hx : p.tables.exec = Jvm.exec) (hlk : meth.locks = false) (hret : meth.sig.returnType = some .boolean) (hc : cells ≤ R.cells) (hs : slots ≤ R.slots) {z : Int32} (hz : z = 1 ∨ z = 0) (hd : decode c.code pc = .ok (.ireturn, 1)) (hQ : Q (some (.int z)) T.heap locs) : own_Go p e below (own_P s R Q) T (mkF m pc Ls (.int z :: rest)) :=
  own_end X hlk (fun q => by rw [hret] at q; cases q) hc hs hQ (fun fs hr => retOut X hx hret (by rcases hz with rfl | rfl <;> rfl) (Or.inl ⟨rfl, Or.inr (Or.inl rfl), z, rfl⟩) hd hr)
theorem own_retJ (X : Stand p l e R s m args below meth c T locs cells slots) (hx : p.tables.exec = Jvm.exec) (hlk : meth.locks = false) (hret : meth.sig.returnType = some .long) (hc : cells ≤ R.cells) (hs : slots ≤ R.slots) {z : Int64} (hd : decode c.code pc = .ok (.lreturn, 1)) (hQ : Q (some (.long z)) T.heap locs) : own_Go p e below (own_P s R Q) T (mkF m pc Ls (.long z :: rest)) :=
  own_end X hlk (fun q => by rw [hret] at q; cases q) hc hs hQ (fun fs hr => retOut X hx hret rfl (Or.inr (Or.inl ⟨rfl, rfl, z, rfl⟩)) hd hr)
theorem own_retV (X : Stand p l e R s m args below meth c T locs cells slots) (hx : p.tables.exec = Jvm.exec) (hlk : meth.locks = false) (hret : meth.sig.returnType = none) (hc : cells ≤ R.cells) (hs : slots ≤ R.slots) (hd : decode c.code pc = .ok (.return_, 1)) (hQ : Q none T.heap locs) : own_Go p e below (own_P s R Q) T (mkF m pc Ls []) :=
  own_end X hlk (fun _ => rfl) hc hs hQ (fun fs hr => X.returnOut hx hret hd hr)
end OwnBase

def own_lo (q1 : Int64) : Int64 := if (q1 &&& (9223372036854775807 : Int64)) = (0 : Int64) then 1 else (q1 &&& (9223372036854775807 : Int64))
def own_lh (x : Int64) : Int32 := (x ^^^ (XT.ushrL x (32 : Int32))).toInt32
theorem own_mx : (9223372036854775807 : Int64).toInt = 9223372036854775807 := by decide
theorem own_one : (1 : Int64).toInt = 1 := by decide
theorem own_zero : (0 : Int64).toInt = 0 := by decide
theorem own_mask (x : Int64) : 0 ≤ (x &&& (9223372036854775807 : Int64)).toInt := by
  have h : ¬ (x &&& (9223372036854775807 : Int64)) < 0 := fun q => absurd ((XT.and_neg64 _ _).mp q).2 (by decide)
  rw [Int64.lt_iff_toInt_lt, own_zero] at h
  omega
theorem own_lo_pos (q : Int64) : 1 ≤ (own_lo q).toInt := by
  unfold own_lo
  split
  · rw [own_one]
    omega
  · rename_i h
    have h1 := own_mask q
    have h2 : (q &&& (9223372036854775807 : Int64)).toInt ≠ 0 := fun z => h (Int64.toInt_inj.mp (by rw [z, own_zero]))
    omega
theorem own_span (q : Int64) : ((9223372036854775807 : Int64) - own_lo q + (1 : Int64)).toInt = 9223372036854775808 - (own_lo q).toInt := by
  have h1 := own_lo_pos q
  have h2 := (own_lo q).toInt_lt
  have e1 : ((9223372036854775807 : Int64) - own_lo q).toInt = 9223372036854775807 - (own_lo q).toInt := by
    rw [XT.sub64 ⟨by rw [own_mx]; omega, by rw [own_mx]; omega⟩, own_mx]
  rw [XT.add64 ⟨by rw [e1, own_one]; omega, by rw [e1, own_one]; omega⟩, e1, own_one]
  omega
theorem own_span_ne (q : Int64) : (9223372036854775807 : Int64) - own_lo q + (1 : Int64) ≠ 0 := fun z => by
  have h := own_span q
  rw [z, own_zero] at h
  have h2 := (own_lo q).toInt_lt
  omega
theorem own_up_ge (q r : Int64) : ¬ (own_lo q + ((r &&& (9223372036854775807 : Int64)) - ((r &&& (9223372036854775807 : Int64)) / ((9223372036854775807 : Int64) - own_lo q + (1 : Int64))) * ((9223372036854775807 : Int64) - own_lo q + (1 : Int64)))) < own_lo q := by
  have h1 := own_lo_pos q
  have h2 := (own_lo q).toInt_lt
  have h3 := own_span q
  have h4 := own_mask r
  have h5 : ((r &&& (9223372036854775807 : Int64)) - ((r &&& (9223372036854775807 : Int64)) / ((9223372036854775807 : Int64) - own_lo q + (1 : Int64))) * ((9223372036854775807 : Int64) - own_lo q + (1 : Int64))).toInt = (r &&& (9223372036854775807 : Int64)).toInt.tmod (9223372036854775808 - (own_lo q).toInt) := by
    rw [Jvm.Kit.i64_rem, h3]
  have h6 : 0 ≤ (r &&& (9223372036854775807 : Int64)).toInt.tmod (9223372036854775808 - (own_lo q).toInt) := Int.tmod_nonneg _ h4
  have h7 : (r &&& (9223372036854775807 : Int64)).toInt.tmod (9223372036854775808 - (own_lo q).toInt) < 9223372036854775808 - (own_lo q).toInt := Int.tmod_lt_of_pos _ (by omega)
  rw [Int64.lt_iff_toInt_lt, XT.add64 ⟨by rw [h5]; omega, by rw [h5]; omega⟩, h5]
  omega
theorem own_lo_ge (q : Int64) : ¬ own_lo q < (1 : Int64) := by
  have h1 := own_lo_pos q
  rw [Int64.lt_iff_toInt_lt, own_one]
  omega

theorem d3_0 : decode prog_14_method_2_code 0 = .ok (.lload_n 0, 1) := by decide +kernel
theorem d3_1 : decode prog_14_method_2_code 1 = .ok (.lconst 1, 1) := by decide +kernel
theorem d3_2 : decode prog_14_method_2_code 2 = .ok (.lcmp, 1) := by decide +kernel
theorem d3_3 : decode prog_14_method_2_code 3 = .ok (.ifCond .ge 17, 3) := by decide +kernel
theorem d3_6 : decode prog_14_method_2_code 6 = .ok (.new 13, 3) := by decide +kernel
theorem d3_9 : decode prog_14_method_2_code 9 = .ok (.dup, 1) := by decide +kernel
theorem d3_10 : decode prog_14_method_2_code 10 = .ok (.lload_n 0, 1) := by decide +kernel
theorem d3_11 : decode prog_14_method_2_code 11 = .ok (.invokedynamic 29, 5) := by decide +kernel
theorem d3_16 : decode prog_14_method_2_code 16 = .ok (.invokespecial 19, 3) := by decide +kernel
theorem d3_19 : decode prog_14_method_2_code 19 = .ok (.athrow, 1) := by decide +kernel
theorem d3_20 : decode prog_14_method_2_code 20 = .ok (.return_, 1) := by decide +kernel
theorem pn_3 : plainName "com/example/godwit/godwit/model/MessageNumberRange" = true := by first | (simp [plainName, overriddenIn]; done) | decide +kernel
theorem pd_3 : parseMethodDescriptor "(J)V" = some ⟨[.long], none⟩ := by decide +kernel

theorem d5_0 : decode jdk_35_method_36_code 0 = .ok (.lload_n 0, 1) := by decide +kernel
theorem d5_1 : decode jdk_35_method_36_code 1 = .ok (.lload_n 0, 1) := by decide +kernel
theorem d5_2 : decode jdk_35_method_36_code 2 = .ok (.bipush 32, 2) := by decide +kernel
theorem d5_4 : decode jdk_35_method_36_code 4 = .ok (.lushr, 1) := by decide +kernel
theorem d5_5 : decode jdk_35_method_36_code 5 = .ok (.lxor, 1) := by decide +kernel
theorem d5_6 : decode jdk_35_method_36_code 6 = .ok (.l2i, 1) := by decide +kernel
theorem d5_7 : decode jdk_35_method_36_code 7 = .ok (.ireturn, 1) := by decide +kernel
theorem pn_5 : plainName "java/lang/Long" = true := by first | (simp [plainName, overriddenIn]; done) | decide +kernel
theorem pd_5 : parseMethodDescriptor "(J)I" = some ⟨[.long], some .int⟩ := by decide +kernel

theorem d1_0 : decode prog_14_method_1_code 0 = .ok (.aload_n 0, 1) := by decide +kernel
theorem d1_1 : decode prog_14_method_1_code 1 = .ok (.invokespecial 1, 3) := by decide +kernel
theorem d1_4 : decode prog_14_method_1_code 4 = .ok (.lload_n 1, 1) := by decide +kernel
theorem d1_5 : decode prog_14_method_1_code 5 = .ok (.invokestatic 7, 3) := by decide +kernel
theorem d1_8 : decode prog_14_method_1_code 8 = .ok (.lload_n 3, 1) := by decide +kernel
theorem d1_9 : decode prog_14_method_1_code 9 = .ok (.lload_n 1, 1) := by decide +kernel
theorem d1_10 : decode prog_14_method_1_code 10 = .ok (.lcmp, 1) := by decide +kernel
theorem d1_11 : decode prog_14_method_1_code 11 = .ok (.ifCond .ge 18, 3) := by decide +kernel
theorem d1_14 : decode prog_14_method_1_code 14 = .ok (.new 13, 3) := by decide +kernel
theorem d1_17 : decode prog_14_method_1_code 17 = .ok (.dup, 1) := by decide +kernel
theorem d1_18 : decode prog_14_method_1_code 18 = .ok (.lload_n 3, 1) := by decide +kernel
theorem d1_19 : decode prog_14_method_1_code 19 = .ok (.lload_n 1, 1) := by decide +kernel
theorem d1_20 : decode prog_14_method_1_code 20 = .ok (.invokedynamic 15, 5) := by decide +kernel
theorem d1_25 : decode prog_14_method_1_code 25 = .ok (.invokespecial 19, 3) := by decide +kernel
theorem d1_28 : decode prog_14_method_1_code 28 = .ok (.athrow, 1) := by decide +kernel
theorem d1_29 : decode prog_14_method_1_code 29 = .ok (.aload_n 0, 1) := by decide +kernel
theorem d1_30 : decode prog_14_method_1_code 30 = .ok (.lload_n 1, 1) := by decide +kernel
theorem d1_31 : decode prog_14_method_1_code 31 = .ok (.putfield 22, 3) := by decide +kernel
theorem d1_34 : decode prog_14_method_1_code 34 = .ok (.aload_n 0, 1) := by decide +kernel
theorem d1_35 : decode prog_14_method_1_code 35 = .ok (.lload_n 3, 1) := by decide +kernel
theorem d1_36 : decode prog_14_method_1_code 36 = .ok (.putfield 26, 3) := by decide +kernel
theorem d1_39 : decode prog_14_method_1_code 39 = .ok (.return_, 1) := by decide +kernel
theorem pn_1 : plainName "com/example/godwit/godwit/model/MessageNumberRange" = true := by first | (simp [plainName, overriddenIn]; done) | decide +kernel
theorem pd_1 : parseMethodDescriptor "(JJ)V" = some ⟨[.long, .long], none⟩ := by decide +kernel

theorem d4_0 : decode prog_14_method_6_code 0 = .ok (.bipush 31, 2) := by decide +kernel
theorem d4_2 : decode prog_14_method_6_code 2 = .ok (.aload_n 0, 1) := by decide +kernel
theorem d4_3 : decode prog_14_method_6_code 3 = .ok (.getfield 22, 3) := by decide +kernel
theorem d4_6 : decode prog_14_method_6_code 6 = .ok (.invokestatic 32, 3) := by decide +kernel
theorem d4_9 : decode prog_14_method_6_code 9 = .ok (.imul, 1) := by decide +kernel
theorem d4_10 : decode prog_14_method_6_code 10 = .ok (.aload_n 0, 1) := by decide +kernel
theorem d4_11 : decode prog_14_method_6_code 11 = .ok (.getfield 26, 3) := by decide +kernel
theorem d4_14 : decode prog_14_method_6_code 14 = .ok (.invokestatic 32, 3) := by decide +kernel
theorem d4_17 : decode prog_14_method_6_code 17 = .ok (.iadd, 1) := by decide +kernel
theorem d4_18 : decode prog_14_method_6_code 18 = .ok (.ireturn, 1) := by decide +kernel
theorem pn_4 : plainName "com/example/godwit/godwit/model/MessageNumberRange" = true := by first | (simp [plainName, overriddenIn]; done) | decide +kernel
theorem pd_4 : parseMethodDescriptor "()I" = some ⟨[], some .int⟩ := by decide +kernel

theorem d6_0 : decode prog_14_method_5_code 0 = .ok (.aload_n 1, 1) := by decide +kernel
theorem d6_1 : decode prog_14_method_5_code 1 = .ok (.instanceof 8, 3) := by decide +kernel
theorem d6_4 : decode prog_14_method_5_code 4 = .ok (.ifCond .eq 36, 3) := by decide +kernel
theorem d6_7 : decode prog_14_method_5_code 7 = .ok (.aload_n 1, 1) := by decide +kernel
theorem d6_8 : decode prog_14_method_5_code 8 = .ok (.checkcast 8, 3) := by decide +kernel
theorem d6_11 : decode prog_14_method_5_code 11 = .ok (.astore_n 2, 1) := by decide +kernel
theorem d6_12 : decode prog_14_method_5_code 12 = .ok (.aload_n 0, 1) := by decide +kernel
theorem d6_13 : decode prog_14_method_5_code 13 = .ok (.getfield 22, 3) := by decide +kernel
theorem d6_16 : decode prog_14_method_5_code 16 = .ok (.aload_n 2, 1) := by decide +kernel
theorem d6_17 : decode prog_14_method_5_code 17 = .ok (.getfield 22, 3) := by decide +kernel
theorem d6_20 : decode prog_14_method_5_code 20 = .ok (.lcmp, 1) := by decide +kernel
theorem d6_21 : decode prog_14_method_5_code 21 = .ok (.ifCond .ne 19, 3) := by decide +kernel
theorem d6_24 : decode prog_14_method_5_code 24 = .ok (.aload_n 0, 1) := by decide +kernel
theorem d6_25 : decode prog_14_method_5_code 25 = .ok (.getfield 26, 3) := by decide +kernel
theorem d6_28 : decode prog_14_method_5_code 28 = .ok (.aload_n 2, 1) := by decide +kernel
theorem d6_29 : decode prog_14_method_5_code 29 = .ok (.getfield 26, 3) := by decide +kernel
theorem d6_32 : decode prog_14_method_5_code 32 = .ok (.lcmp, 1) := by decide +kernel
theorem d6_33 : decode prog_14_method_5_code 33 = .ok (.ifCond .ne 7, 3) := by decide +kernel
theorem d6_36 : decode prog_14_method_5_code 36 = .ok (.iconst 1, 1) := by decide +kernel
theorem d6_37 : decode prog_14_method_5_code 37 = .ok (.goto 4, 3) := by decide +kernel
theorem d6_40 : decode prog_14_method_5_code 40 = .ok (.iconst 0, 1) := by decide +kernel
theorem d6_41 : decode prog_14_method_5_code 41 = .ok (.ireturn, 1) := by decide +kernel
theorem pn_6 : plainName "com/example/godwit/godwit/model/MessageNumberRange" = true := by first | (simp [plainName, overriddenIn]; done) | decide +kernel
theorem pd_6 : parseMethodDescriptor "(Ljava/lang/Object;)Z" = some ⟨[(.object "java/lang/Object")], some .boolean⟩ := by decide +kernel

theorem pn_0 : plainName "com/example/godwit/godwit/model/MessageNumberRangeHashCodePinLaw" = true := by first | (simp [plainName, overriddenIn]; done) | decide +kernel
theorem pd_0 : parseMethodDescriptor "(JJ)Z" = some ⟨[.long, .long], some .boolean⟩ := by decide +kernel

theorem ef_3 (m : MethodId) (x0 : Int64) : entryFrame m #[(.long x0)] 2 = mkF m 0 #[.val (.long x0), .second] [] := by first | (simp [entryFrame, mkF, argsToLocals, Value.category]; done) | rfl

theorem ef_5 (m : MethodId) (x0 : Int64) : entryFrame m #[(.long x0)] 2 = mkF m 0 #[.val (.long x0), .second] [] := by first | (simp [entryFrame, mkF, argsToLocals, Value.category]; done) | rfl

theorem ef_1 (m : MethodId) (x0 : Addr) (x1 : Int64) (x2 : Int64) : entryFrame m #[(.ref x0), (.long x1), (.long x2)] 5 = mkF m 0 #[.val (.ref x0), .val (.long x1), .second, .val (.long x2), .second] [] := by first | (simp [entryFrame, mkF, argsToLocals, Value.category]; done) | rfl

theorem ef_4 (m : MethodId) (x0 : Addr) : entryFrame m #[(.ref x0)] 1 = mkF m 0 #[.val (.ref x0)] [] := by first | (simp [entryFrame, mkF, argsToLocals, Value.category]; done) | rfl

theorem ef_6 (m : MethodId) (x0 : Addr) (x1 : Addr) : entryFrame m #[(.ref x0), (.ref x1)] 3 = mkF m 0 #[.val (.ref x0), .val (.ref x1), .unset] [] := by first | (simp [entryFrame, mkF, argsToLocals, Value.category]; done) | rfl

theorem ef_0 (m : MethodId) (x0 : Int64) (x1 : Int64) : entryFrame m #[(.long x0), (.long x1)] maxLocals = mkF m 0 #[.val (.long x0), .second, .val (.long x1), .second, .unset, .unset, .unset, .unset, .unset, .unset, .unset, .unset, .unset, .unset, .unset] [] := by first | (simp [entryFrame, mkF, argsToLocals, Value.category, maxLocals]; done) | rfl

set_option maxRecDepth 65536 in
set_option maxHeartbeats 40000000 in
theorem rm3 (l : Launch) (Z : State) (a0 : Array Value) (hw : ∀ d ∈ tables_1, d.before a0 Z = true) (q1 : Int64) (hq : ¬ q1 < (1 : Int64)) (h0 : Heap) (n0 : Nat) :
    own_Met l Z h0 (⟨"com/example/godwit/godwit/model/MessageNumberRange", "requireMessageNumber", "(J)V"⟩ : MethodName) prog_14_method_2_code 2 none ({ frames := 0, cells := 0, slots := 0, locals := 0 } : Room) #[(.long q1)] (fun v h L => v = none ∧ Fr n0 L ∧ h = h0) := by
  refine own_body pn_3 (fun m => ef_3 m q1) ?_
  intro p e s m below meth c T X hx hby hml hret hlk hown hnm hZ e0
  have hown : s.vm.findClass "com/example/godwit/godwit/model/MessageNumberRange" = some m.cls := hown
  have hml : c.maxLocals = 2 := hml
  have N0 : Fr n0 ([] : List Loc) := Fr.nil n0
  show own_Go p e below _ T (mkF m 0 #[.val (.long q1), .second] [])
  refine own_st (fun τ κ => XS.lloadN X.here hx rfl (hb hby d3_0) rfl κ) ?_
  show own_Go p e below _ T (mkF m 1 #[.val (.long q1), .second] [(.long q1)])
  refine own_st (fun τ κ => XT.lconstV X.here hx rfl (1) (hb hby d3_1) (by decide) κ) ?_
  show own_Go p e below _ T (mkF m 2 #[.val (.long q1), .second] [(.long (1 : Int64)), (.long q1)])
  refine own_st (fun τ κ => XT.lcmp X.here hx rfl (hb hby d3_2) rfl κ) ?_
  show own_Go p e below _ T (mkF m 3 #[.val (.long q1), .second] [(.int (XT.cmpL q1 (1 : Int64)))])
  refine own_st (fun τ κ => XS.ifYes X.here hx rfl (pc0 := 3) (pc' := 20) rfl (hb hby d3_3) rfl (XT.ll_ge_t hq) (by decide) (by decide) κ) ?_
  show own_Go p e below _ T (mkF m 20 #[.val (.long q1), .second] [])
  refine own_retV X hx hlk hret (by decide) (by decide) (hb hby d3_20) ?_
  exact ⟨rfl, N0, e0⟩

set_option maxRecDepth 65536 in
set_option maxHeartbeats 40000000 in
theorem rm5 (l : Launch) (Z : State) (a0 : Array Value) (hw : ∀ d ∈ tables_1, d.before a0 Z = true) (q1 : Int64) (h0 : Heap) (n0 : Nat) :
    own_Met l Z h0 (⟨"java/lang/Long", "hashCode", "(J)I"⟩ : MethodName) jdk_35_method_36_code 2 (some .int) ({ frames := 0, cells := 0, slots := 0, locals := 0 } : Room) #[(.long q1)] (fun v h L => v = some (.int (own_lh q1)) ∧ Fr n0 L ∧ h = h0) := by
  refine own_body pn_5 (fun m => ef_5 m q1) ?_
  intro p e s m below meth c T X hx hby hml hret hlk hown hnm hZ e0
  have hown : s.vm.findClass "java/lang/Long" = some m.cls := hown
  have hml : c.maxLocals = 2 := hml
  have N0 : Fr n0 ([] : List Loc) := Fr.nil n0
  show own_Go p e below _ T (mkF m 0 #[.val (.long q1), .second] [])
  refine own_st (fun τ κ => XS.lloadN X.here hx rfl (hb hby d5_0) rfl κ) ?_
  show own_Go p e below _ T (mkF m 1 #[.val (.long q1), .second] [(.long q1)])
  refine own_st (fun τ κ => XS.lloadN X.here hx rfl (hb hby d5_1) rfl κ) ?_
  show own_Go p e below _ T (mkF m 2 #[.val (.long q1), .second] [(.long q1), (.long q1)])
  refine own_st (fun τ κ => XT.bipushV X.here hx rfl (32) (hb hby d5_2) (by decide) κ) ?_
  show own_Go p e below _ T (mkF m 4 #[.val (.long q1), .second] [(.int (32 : Int32)), (.long q1), (.long q1)])
  refine own_st (fun τ κ => XT.lushr X.here hx rfl (hb hby d5_4) rfl κ) ?_
  show own_Go p e below _ T (mkF m 5 #[.val (.long q1), .second] [(.long (XT.ushrL q1 (32 : Int32))), (.long q1)])
  refine own_st (fun τ κ => XS.lxor X.here hx rfl (hb hby d5_5) rfl κ) ?_
  show own_Go p e below _ T (mkF m 6 #[.val (.long q1), .second] [(.long (q1 ^^^ (XT.ushrL q1 (32 : Int32))))])
  refine own_st (fun τ κ => XT.l2i X.here hx rfl (hb hby d5_6) rfl κ) ?_
  show own_Go p e below _ T (mkF m 7 #[.val (.long q1), .second] [(.int ((q1 ^^^ (XT.ushrL q1 (32 : Int32))).toInt32))])
  refine own_retI X hx hlk hret (by decide) (by decide) (hb hby d5_7) ?_
  exact ⟨rfl, N0, e0⟩

set_option maxRecDepth 65536 in
set_option maxHeartbeats 40000000 in
theorem rm1 (l : Launch) (Z : State) (a0 : Array Value) (hw : ∀ d ∈ tables_1, d.before a0 Z = true) (a1 : Addr) (q2 q3 : Int64) (hq : ¬ q2 < (1 : Int64)) (hle : ¬ q3 < q2) (u1 u2 : Value) (h0 : Heap) (n0 : Nat) (Z0 : n0 ≤ h0.size) (ga_a1 : n0 ≤ a1) (E_a1 : Exa Z h0 a1 "com/example/godwit/godwit/model/MessageNumberRange") (F_m_nLower_a1 : Fld Z h0 a1 "com/example/godwit/godwit/model/MessageNumberRange" "m_nLower" "J" u1) (F_m_nUpper_a1 : Fld Z h0 a1 "com/example/godwit/godwit/model/MessageNumberRange" "m_nUpper" "J" u2) :
    own_Met l Z h0 (⟨"com/example/godwit/godwit/model/MessageNumberRange", "<init>", "(JJ)V"⟩ : MethodName) prog_14_method_1_code 5 none ({ frames := 1, cells := 0, slots := 0, locals := 13 } : Room) #[(.ref a1), (.long q2), (.long q3)] (fun v h L => v = none ∧ Fr n0 L ∧ Keep h0 h [a1] ∧ Exa Z h a1 "com/example/godwit/godwit/model/MessageNumberRange" ∧ Fld Z h a1 "com/example/godwit/godwit/model/MessageNumberRange" "m_nLower" "J" (.long q2) ∧ Fld Z h a1 "com/example/godwit/godwit/model/MessageNumberRange" "m_nUpper" "J" (.long q3)) := by
  refine own_body pn_1 (fun m => ef_1 m a1 q2 q3) ?_
  intro p e s m below meth c T X hx hby hml hret hlk hown hnm hZ e0
  have hown : s.vm.findClass "com/example/godwit/godwit/model/MessageNumberRange" = some m.cls := hown
  have hml : c.maxLocals = 5 := hml
  have N0 : Fr n0 ([] : List Loc) := Fr.nil n0
  show own_Go p e below _ T (mkF m 0 #[.val (.ref a1), .val (.long q2), .second, .val (.long q3), .second] [])
  have K0 : Keep h0 h0 [a1] := Keep.refl _ _
  refine own_st (fun τ κ => XS.aloadN X.here hx rfl (hb hby d1_0) rfl rfl κ) ?_
  show own_Go p e below _ T (mkF m 1 #[.val (.ref a1), .val (.long q2), .second, .val (.long q3), .second] [(.ref a1)])
  refine own_initO X hx hZ e0 hown (hw _ (List.mem_of_getElem? (i := 7) rfl)) (hw _ (List.mem_of_getElem? (i := 8) rfl)) (hw _ (List.mem_of_getElem? (i := 9) rfl)) (by rw [hml]; rfl) (hb hby d1_1) (by decide) 0 (Nat.le_of_eq rfl) (by decide) ?_
  intro T1 X1 e1
  show own_Go p e below _ T1 (mkF m 4 #[.val (.ref a1), .val (.long q2), .second, .val (.long q3), .second] [])
  refine own_st (fun τ κ => XS.lloadN X1.here hx rfl (hb hby d1_4) rfl κ) ?_
  show own_Go p e below _ T1 (mkF m 5 #[.val (.ref a1), .val (.long q2), .second, .val (.long q3), .second] [(.long q2)])
  refine own_callS X1 hx hZ e1 hown (hw _ (List.mem_of_getElem? (i := 10) rfl)) (hw _ (List.mem_of_getElem? (i := 11) rfl)) (hw _ (List.mem_of_getElem? (i := 3) rfl)) (hw _ (List.mem_of_getElem? (i := 12) rfl)) (by decide) pd_3 (argsL := [(.long q2)]) rfl (rm3 l Z a0 hw q2 hq h0 n0) 0 (by decide) (by decide) (by decide) (by decide) (rest := []) rfl (by rw [hml]; rfl) (Nat.le_of_eq rfl) (hb hby d1_5) ?_
  intro v2 T2 L2 hQ2 X2
  obtain ⟨rfl, Nq2, e2⟩ := hQ2
  have N2 := Fr.app N0 Nq2
  show own_Go p e below _ T2 (mkF m 8 #[.val (.ref a1), .val (.long q2), .second, .val (.long q3), .second] [])
  refine own_st (fun τ κ => XS.lloadN X2.here hx rfl (hb hby d1_8) rfl κ) ?_
  show own_Go p e below _ T2 (mkF m 9 #[.val (.ref a1), .val (.long q2), .second, .val (.long q3), .second] [(.long q3)])
  refine own_st (fun τ κ => XS.lloadN X2.here hx rfl (hb hby d1_9) rfl κ) ?_
  show own_Go p e below _ T2 (mkF m 10 #[.val (.ref a1), .val (.long q2), .second, .val (.long q3), .second] [(.long q2), (.long q3)])
  refine own_st (fun τ κ => XT.lcmp X2.here hx rfl (hb hby d1_10) rfl κ) ?_
  show own_Go p e below _ T2 (mkF m 11 #[.val (.ref a1), .val (.long q2), .second, .val (.long q3), .second] [(.int (XT.cmpL q3 q2))])
  refine own_st (fun τ κ => XS.ifYes X2.here hx rfl (pc0 := 11) (pc' := 29) rfl (hb hby d1_11) rfl (XT.ll_ge_t hle) (by decide) (by decide) κ) ?_
  show own_Go p e below _ T2 (mkF m 29 #[.val (.ref a1), .val (.long q2), .second, .val (.long q3), .second] [])
  refine own_st (fun τ κ => XS.aloadN X2.here hx rfl (hb hby d1_29) rfl rfl κ) ?_
  show own_Go p e below _ T2 (mkF m 30 #[.val (.ref a1), .val (.long q2), .second, .val (.long q3), .second] [(.ref a1)])
  refine own_st (fun τ κ => XS.lloadN X2.here hx rfl (hb hby d1_30) rfl κ) ?_
  show own_Go p e below _ T2 (mkF m 31 #[.val (.ref a1), .val (.long q2), .second, .val (.long q3), .second] [(.long q2), (.ref a1)])
  refine own_putF X2 hx hZ e2 hown (hw _ (List.mem_of_getElem? (i := 13) rfl)) F_m_nLower_a1 E_a1 (Or.inr ⟨(hw _ (List.mem_of_getElem? (i := 14) rfl)), rfl, hnm⟩) (hw _ (List.mem_of_getElem? (i := 2) rfl)) (ty := .long) (by decide) rfl rfl N2 ga_a1 (hb hby d1_31) ?_
  intro T3 h3 X3 e3 W3 N3
  have E_a1 := E_a1.wr W3
  have F_m_nLower_a1 := F_m_nLower_a1.same W3
  have F_m_nUpper_a1 := F_m_nUpper_a1.other W3 (Or.inr (slot_ne (Or.inr (hw _ (List.mem_of_getElem? (i := 16) rfl))) (Or.inr (hw _ (List.mem_of_getElem? (i := 14) rfl))) (by decide) (t := .long) (t' := .long) (by decide) (by decide)))
  have Z3 : n0 ≤ h3.size := Nat.le_trans Z0 (Keep.of_wr W3).1
  have K3 := K0.wr W3 (Or.inl (List.mem_of_getElem? (i := 0) rfl))
  show own_Go p e below _ T3 (mkF m 34 #[.val (.ref a1), .val (.long q2), .second, .val (.long q3), .second] [])
  refine own_st (fun τ κ => XS.aloadN X3.here hx rfl (hb hby d1_34) rfl rfl κ) ?_
  show own_Go p e below _ T3 (mkF m 35 #[.val (.ref a1), .val (.long q2), .second, .val (.long q3), .second] [(.ref a1)])
  refine own_st (fun τ κ => XS.lloadN X3.here hx rfl (hb hby d1_35) rfl κ) ?_
  show own_Go p e below _ T3 (mkF m 36 #[.val (.ref a1), .val (.long q2), .second, .val (.long q3), .second] [(.long q3), (.ref a1)])
  refine own_putF X3 hx hZ e3 hown (hw _ (List.mem_of_getElem? (i := 15) rfl)) F_m_nUpper_a1 E_a1 (Or.inr ⟨(hw _ (List.mem_of_getElem? (i := 16) rfl)), rfl, hnm⟩) (hw _ (List.mem_of_getElem? (i := 2) rfl)) (ty := .long) (by decide) rfl rfl N3 ga_a1 (hb hby d1_36) ?_
  intro T4 h4 X4 e4 W4 N4
  have E_a1 := E_a1.wr W4
  have F_m_nLower_a1 := F_m_nLower_a1.other W4 (Or.inr (slot_ne (Or.inr (hw _ (List.mem_of_getElem? (i := 14) rfl))) (Or.inr (hw _ (List.mem_of_getElem? (i := 16) rfl))) (by decide) (t := .long) (t' := .long) (by decide) (by decide)))
  have F_m_nUpper_a1 := F_m_nUpper_a1.same W4
  have Z4 : n0 ≤ h4.size := Nat.le_trans Z3 (Keep.of_wr W4).1
  have K4 := K3.wr W4 (Or.inl (List.mem_of_getElem? (i := 0) rfl))
  show own_Go p e below _ T4 (mkF m 39 #[.val (.ref a1), .val (.long q2), .second, .val (.long q3), .second] [])
  refine own_retV X4 hx hlk hret (by decide) (by decide) (hb hby d1_39) ?_
  rw [e4]
  exact ⟨rfl, N4, K4, E_a1, F_m_nLower_a1, F_m_nUpper_a1⟩

set_option maxRecDepth 65536 in
set_option maxHeartbeats 40000000 in
theorem rm4 (l : Launch) (Z : State) (a0 : Array Value) (hw : ∀ d ∈ tables_1, d.before a0 Z = true) (a1 : Addr) (q2 q3 : Int64) (h0 : Heap) (n0 : Nat) (F1 : Fld Z h0 a1 "com/example/godwit/godwit/model/MessageNumberRange" "m_nLower" "J" (.long q2)) (F2 : Fld Z h0 a1 "com/example/godwit/godwit/model/MessageNumberRange" "m_nUpper" "J" (.long q3)) :
    own_Met l Z h0 (⟨"com/example/godwit/godwit/model/MessageNumberRange", "hashCode", "()I"⟩ : MethodName) prog_14_method_6_code 1 (some .int) ({ frames := 1, cells := 0, slots := 0, locals := 14 } : Room) #[(.ref a1)] (fun v h L => v = some (.int (((31 : Int32) * (own_lh q2)) + (own_lh q3))) ∧ Fr n0 L ∧ h = h0) := by
  refine own_body pn_4 (fun m => ef_4 m a1) ?_
  intro p e s m below meth c T X hx hby hml hret hlk hown hnm hZ e0
  have hown : s.vm.findClass "com/example/godwit/godwit/model/MessageNumberRange" = some m.cls := hown
  have hml : c.maxLocals = 1 := hml
  have N0 : Fr n0 ([] : List Loc) := Fr.nil n0
  show own_Go p e below _ T (mkF m 0 #[.val (.ref a1)] [])
  refine own_st (fun τ κ => XT.bipushV X.here hx rfl (31) (hb hby d4_0) (by decide) κ) ?_
  show own_Go p e below _ T (mkF m 2 #[.val (.ref a1)] [(.int (31 : Int32))])
  refine own_st (fun τ κ => XS.aloadN X.here hx rfl (hb hby d4_2) rfl rfl κ) ?_
  show own_Go p e below _ T (mkF m 3 #[.val (.ref a1)] [(.ref a1), (.int (31 : Int32))])
  refine own_getF X hx hZ e0 hown (hw _ (List.mem_of_getElem? (i := 13) rfl)) F1 (hb hby d4_3) ?_
  intro T1 X1 e1
  show own_Go p e below _ T1 (mkF m 6 #[.val (.ref a1)] [(.long q2), (.int (31 : Int32))])
  refine own_callS X1 hx hZ e1 hown (hw _ (List.mem_of_getElem? (i := 22) rfl)) (hw _ (List.mem_of_getElem? (i := 23) rfl)) (hw _ (List.mem_of_getElem? (i := 24) rfl)) (hw _ (List.mem_of_getElem? (i := 25) rfl)) (by decide) pd_5 (argsL := [(.long q2)]) rfl (rm5 l Z a0 hw q2 h0 n0) 1 (by decide) (by decide) (by decide) (by decide) (rest := [(.int (31 : Int32))]) rfl (by rw [hml]; rfl) (Nat.le_of_eq rfl) (hb hby d4_6) ?_
  intro v2 T2 L2 hQ2 X2
  obtain ⟨rfl, Nq2, e2⟩ := hQ2
  have N2 := Fr.app N0 Nq2
  show own_Go p e below _ T2 (mkF m 9 #[.val (.ref a1)] [(.int (own_lh q2)), (.int (31 : Int32))])
  refine own_st (fun τ κ => XS.imul X2.here hx rfl (hb hby d4_9) rfl κ) ?_
  show own_Go p e below _ T2 (mkF m 10 #[.val (.ref a1)] [(.int ((31 : Int32) * (own_lh q2)))])
  refine own_st (fun τ κ => XS.aloadN X2.here hx rfl (hb hby d4_10) rfl rfl κ) ?_
  show own_Go p e below _ T2 (mkF m 11 #[.val (.ref a1)] [(.ref a1), (.int ((31 : Int32) * (own_lh q2)))])
  refine own_getF X2 hx hZ e2 hown (hw _ (List.mem_of_getElem? (i := 15) rfl)) F2 (hb hby d4_11) ?_
  intro T3 X3 e3
  show own_Go p e below _ T3 (mkF m 14 #[.val (.ref a1)] [(.long q3), (.int ((31 : Int32) * (own_lh q2)))])
  refine own_callS X3 hx hZ e3 hown (hw _ (List.mem_of_getElem? (i := 22) rfl)) (hw _ (List.mem_of_getElem? (i := 23) rfl)) (hw _ (List.mem_of_getElem? (i := 24) rfl)) (hw _ (List.mem_of_getElem? (i := 25) rfl)) (by decide) pd_5 (argsL := [(.long q3)]) rfl (rm5 l Z a0 hw q3 h0 n0) 1 (by decide) (by decide) (by decide) (by decide) (rest := [(.int ((31 : Int32) * (own_lh q2)))]) rfl (by rw [hml]; rfl) (Nat.le_of_eq rfl) (hb hby d4_14) ?_
  intro v4 T4 L4 hQ4 X4
  obtain ⟨rfl, Nq4, e4⟩ := hQ4
  have N4 := Fr.app N2 Nq4
  show own_Go p e below _ T4 (mkF m 17 #[.val (.ref a1)] [(.int (own_lh q3)), (.int ((31 : Int32) * (own_lh q2)))])
  refine own_st (fun τ κ => XS.iadd X4.here hx rfl (hb hby d4_17) rfl κ) ?_
  show own_Go p e below _ T4 (mkF m 18 #[.val (.ref a1)] [(.int (((31 : Int32) * (own_lh q2)) + (own_lh q3)))])
  refine own_retI X4 hx hlk hret (by decide) (by decide) (hb hby d4_18) ?_
  exact ⟨rfl, N4, e4⟩

set_option maxRecDepth 65536 in
set_option maxHeartbeats 40000000 in
theorem rm6 (l : Launch) (Z : State) (a0 : Array Value) (hw : ∀ d ∈ tables_1, d.before a0 Z = true) (a1 a2 : Addr) (q2 q3 : Int64) (h0 : Heap) (n0 : Nat) (E2 : Exa Z h0 a2 "com/example/godwit/godwit/model/MessageNumberRange") (F1 : Fld Z h0 a1 "com/example/godwit/godwit/model/MessageNumberRange" "m_nLower" "J" (.long q2)) (F2 : Fld Z h0 a1 "com/example/godwit/godwit/model/MessageNumberRange" "m_nUpper" "J" (.long q3)) (G1 : Fld Z h0 a2 "com/example/godwit/godwit/model/MessageNumberRange" "m_nLower" "J" (.long q2)) (G2 : Fld Z h0 a2 "com/example/godwit/godwit/model/MessageNumberRange" "m_nUpper" "J" (.long q3)) :
    own_Met l Z h0 (⟨"com/example/godwit/godwit/model/MessageNumberRange", "equals", "(Ljava/lang/Object;)Z"⟩ : MethodName) prog_14_method_5_code 3 (some .boolean) ({ frames := 0, cells := 0, slots := 0, locals := 0 } : Room) #[(.ref a1), (.ref a2)] (fun v h L => v = some (.int (1 : Int32)) ∧ Fr n0 L ∧ h = h0) := by
  refine own_body pn_6 (fun m => ef_6 m a1 a2) ?_
  intro p e s m below meth c T X hx hby hml hret hlk hown hnm hZ e0
  have hown : s.vm.findClass "com/example/godwit/godwit/model/MessageNumberRange" = some m.cls := hown
  have hml : c.maxLocals = 3 := hml
  have N0 : Fr n0 ([] : List Loc) := Fr.nil n0
  show own_Go p e below _ T (mkF m 0 #[.val (.ref a1), .val (.ref a2), .unset] [])
  refine own_st (fun τ κ => XS.aloadN X.here hx rfl (hb hby d6_0) rfl rfl κ) ?_
  show own_Go p e below _ T (mkF m 1 #[.val (.ref a1), .val (.ref a2), .unset] [(.ref a2)])
  refine own_inst X hx hZ e0 hown (hw _ (List.mem_of_getElem? (i := 31) rfl)) (Ins.self E2) (hb hby d6_1) ?_
  intro T1 X1 e1
  show own_Go p e below _ T1 (mkF m 4 #[.val (.ref a1), .val (.ref a2), .unset] [(.int (1 : Int32))])
  refine own_st (fun τ κ => XS.ifNo X1.here hx rfl (hb hby d6_4) rfl (XT.i0_eq_f (by decide)) κ) ?_
  show own_Go p e below _ T1 (mkF m 7 #[.val (.ref a1), .val (.ref a2), .unset] [])
  refine own_st (fun τ κ => XS.aloadN X1.here hx rfl (hb hby d6_7) rfl rfl κ) ?_
  show own_Go p e below _ T1 (mkF m 8 #[.val (.ref a1), .val (.ref a2), .unset] [(.ref a2)])
  refine own_cast X1 hx hZ e1 hown (hw _ (List.mem_of_getElem? (i := 31) rfl)) (Ins.self E2) (hb hby d6_8) ?_
  intro T2 X2 e2
  show own_Go p e below _ T2 (mkF m 11 #[.val (.ref a1), .val (.ref a2), .unset] [(.ref a2)])
  refine own_st (fun τ κ => XS.astoreN X2.here hx rfl (hb hby d6_11) rfl rfl (l' := #[.val (.ref a1), .val (.ref a2), .val (.ref a2)]) rfl κ) ?_
  show own_Go p e below _ T2 (mkF m 12 #[.val (.ref a1), .val (.ref a2), .val (.ref a2)] [])
  refine own_st (fun τ κ => XS.aloadN X2.here hx rfl (hb hby d6_12) rfl rfl κ) ?_
  show own_Go p e below _ T2 (mkF m 13 #[.val (.ref a1), .val (.ref a2), .val (.ref a2)] [(.ref a1)])
  refine own_getF X2 hx hZ e2 hown (hw _ (List.mem_of_getElem? (i := 13) rfl)) F1 (hb hby d6_13) ?_
  intro T3 X3 e3
  show own_Go p e below _ T3 (mkF m 16 #[.val (.ref a1), .val (.ref a2), .val (.ref a2)] [(.long q2)])
  refine own_st (fun τ κ => XS.aloadN X3.here hx rfl (hb hby d6_16) rfl rfl κ) ?_
  show own_Go p e below _ T3 (mkF m 17 #[.val (.ref a1), .val (.ref a2), .val (.ref a2)] [(.ref a2), (.long q2)])
  refine own_getF X3 hx hZ e3 hown (hw _ (List.mem_of_getElem? (i := 13) rfl)) G1 (hb hby d6_17) ?_
  intro T4 X4 e4
  show own_Go p e below _ T4 (mkF m 20 #[.val (.ref a1), .val (.ref a2), .val (.ref a2)] [(.long q2), (.long q2)])
  refine own_st (fun τ κ => XT.lcmp X4.here hx rfl (hb hby d6_20) rfl κ) ?_
  show own_Go p e below _ T4 (mkF m 21 #[.val (.ref a1), .val (.ref a2), .val (.ref a2)] [(.int (XT.cmpL q2 q2))])
  refine own_st (fun τ κ => XS.ifNo X4.here hx rfl (hb hby d6_21) rfl (XT.ll_ne_f rfl) κ) ?_
  show own_Go p e below _ T4 (mkF m 24 #[.val (.ref a1), .val (.ref a2), .val (.ref a2)] [])
  refine own_st (fun τ κ => XS.aloadN X4.here hx rfl (hb hby d6_24) rfl rfl κ) ?_
  show own_Go p e below _ T4 (mkF m 25 #[.val (.ref a1), .val (.ref a2), .val (.ref a2)] [(.ref a1)])
  refine own_getF X4 hx hZ e4 hown (hw _ (List.mem_of_getElem? (i := 15) rfl)) F2 (hb hby d6_25) ?_
  intro T5 X5 e5
  show own_Go p e below _ T5 (mkF m 28 #[.val (.ref a1), .val (.ref a2), .val (.ref a2)] [(.long q3)])
  refine own_st (fun τ κ => XS.aloadN X5.here hx rfl (hb hby d6_28) rfl rfl κ) ?_
  show own_Go p e below _ T5 (mkF m 29 #[.val (.ref a1), .val (.ref a2), .val (.ref a2)] [(.ref a2), (.long q3)])
  refine own_getF X5 hx hZ e5 hown (hw _ (List.mem_of_getElem? (i := 15) rfl)) G2 (hb hby d6_29) ?_
  intro T6 X6 e6
  show own_Go p e below _ T6 (mkF m 32 #[.val (.ref a1), .val (.ref a2), .val (.ref a2)] [(.long q3), (.long q3)])
  refine own_st (fun τ κ => XT.lcmp X6.here hx rfl (hb hby d6_32) rfl κ) ?_
  show own_Go p e below _ T6 (mkF m 33 #[.val (.ref a1), .val (.ref a2), .val (.ref a2)] [(.int (XT.cmpL q3 q3))])
  refine own_st (fun τ κ => XS.ifNo X6.here hx rfl (hb hby d6_33) rfl (XT.ll_ne_f rfl) κ) ?_
  show own_Go p e below _ T6 (mkF m 36 #[.val (.ref a1), .val (.ref a2), .val (.ref a2)] [])
  refine own_st (fun τ κ => XT.iconstV X6.here hx rfl (1) (hb hby d6_36) (by decide) κ) ?_
  show own_Go p e below _ T6 (mkF m 37 #[.val (.ref a1), .val (.ref a2), .val (.ref a2)] [(.int (1 : Int32))])
  refine own_st (fun τ κ => XS.goto X6.here hx rfl (pc0 := 37) (pc' := 41) rfl (hb hby d6_37) (by decide) (by decide) κ) ?_
  show own_Go p e below _ T6 (mkF m 41 #[.val (.ref a1), .val (.ref a2), .val (.ref a2)] [(.int (1 : Int32))])
  refine own_retZ X6 hx hlk hret (by decide) (by decide) (by decide) (hb hby d6_41) ?_
  exact ⟨rfl, N0, e6⟩

set_option maxRecDepth 65536 in
set_option maxHeartbeats 40000000 in
theorem rm0 (l : Launch) (Z : State) (a0 : Array Value) (hw : ∀ d ∈ tables_1, d.before a0 Z = true) (q1 q2 : Int64) (h0 : Heap) (n0 : Nat) (Z0 : n0 ≤ h0.size) :
    own_Met l Z h0 x code maxLocals ret room_1 #[(.long q1), (.long q2)] (fun v h L => v = some (.int (1 : Int32)) ∧ Fr n0 L) := by
  refine own_body pn_0 (fun m => ef_0 m q1 q2) ?_
  intro p e s m below meth c T X hx hby hml hret hlk hown hnm hZ e0
  have hown : s.vm.findClass "com/example/godwit/godwit/model/MessageNumberRangeHashCodePinLaw" = some m.cls := hown
  have hml : c.maxLocals = 15 := hml
  have N0 : Fr n0 ([] : List Loc) := Fr.nil n0
  show own_Go p e below _ T (mkF m 0 #[.val (.long q1), .second, .val (.long q2), .second, .unset, .unset, .unset, .unset, .unset, .unset, .unset, .unset, .unset, .unset, .unset] [])
  refine own_st (fun τ κ => XS.lloadN X.here hx rfl (hb hby at_0) rfl κ) ?_
  show own_Go p e below _ T (mkF m 1 #[.val (.long q1), .second, .val (.long q2), .second, .unset, .unset, .unset, .unset, .unset, .unset, .unset, .unset, .unset, .unset, .unset] [(.long q1)])
  refine own_st (fun τ κ => Stand.ldc2J X hx hown (mvT hZ (hw _ (List.mem_of_getElem? (i := 0) rfl))) rfl (hb hby at_1) κ) ?_
  show own_Go p e below _ T (mkF m 4 #[.val (.long q1), .second, .val (.long q2), .second, .unset, .unset, .unset, .unset, .unset, .unset, .unset, .unset, .unset, .unset, .unset] [(.long (9223372036854775807 : Int64)), (.long q1)])
  refine own_st (fun τ κ => XS.land X.here hx rfl (hb hby at_4) rfl κ) ?_
  show own_Go p e below _ T (mkF m 5 #[.val (.long q1), .second, .val (.long q2), .second, .unset, .unset, .unset, .unset, .unset, .unset, .unset, .unset, .unset, .unset, .unset] [(.long (q1 &&& (9223372036854775807 : Int64)))])
  refine own_st (fun τ κ => XS.lstore X.here hx rfl (hb hby at_5) rfl (l' := #[.val (.long q1), .second, .val (.long q2), .second, .val (.long (q1 &&& (9223372036854775807 : Int64))), .second, .unset, .unset, .unset, .unset, .unset, .unset, .unset, .unset, .unset]) rfl κ) ?_
  show own_Go p e below _ T (mkF m 7 #[.val (.long q1), .second, .val (.long q2), .second, .val (.long (q1 &&& (9223372036854775807 : Int64))), .second, .unset, .unset, .unset, .unset, .unset, .unset, .unset, .unset, .unset] [])
  refine own_st (fun τ κ => XS.lload X.here hx rfl (hb hby at_7) rfl κ) ?_
  show own_Go p e below _ T (mkF m 9 #[.val (.long q1), .second, .val (.long q2), .second, .val (.long (q1 &&& (9223372036854775807 : Int64))), .second, .unset, .unset, .unset, .unset, .unset, .unset, .unset, .unset, .unset] [(.long (q1 &&& (9223372036854775807 : Int64)))])
  refine own_st (fun τ κ => XT.lconstV X.here hx rfl (0) (hb hby at_9) (by decide) κ) ?_
  show own_Go p e below _ T (mkF m 10 #[.val (.long q1), .second, .val (.long q2), .second, .val (.long (q1 &&& (9223372036854775807 : Int64))), .second, .unset, .unset, .unset, .unset, .unset, .unset, .unset, .unset, .unset] [(.long (0 : Int64)), (.long (q1 &&& (9223372036854775807 : Int64)))])
  refine own_st (fun τ κ => XT.lcmp X.here hx rfl (hb hby at_10) rfl κ) ?_
  show own_Go p e below _ T (mkF m 11 #[.val (.long q1), .second, .val (.long q2), .second, .val (.long (q1 &&& (9223372036854775807 : Int64))), .second, .unset, .unset, .unset, .unset, .unset, .unset, .unset, .unset, .unset] [(.int (XT.cmpL (q1 &&& (9223372036854775807 : Int64)) (0 : Int64)))])
  suffices J17 : own_Go p e below _ T (mkF m 17 #[.val (.long q1), .second, .val (.long q2), .second, .val (.long (own_lo q1)), .second, .unset, .unset, .unset, .unset, .unset, .unset, .unset, .unset, .unset] []) by
    by_cases c11 : (q1 &&& (9223372036854775807 : Int64)) = (0 : Int64)
    · refine own_st (fun τ κ => XS.ifNo X.here hx rfl (hb hby at_11) rfl (XT.ll_ne_f c11) κ) ?_
      show own_Go p e below _ T (mkF m 14 #[.val (.long q1), .second, .val (.long q2), .second, .val (.long (q1 &&& (9223372036854775807 : Int64))), .second, .unset, .unset, .unset, .unset, .unset, .unset, .unset, .unset, .unset] [])
      refine own_st (fun τ κ => XT.lconstV X.here hx rfl (1) (hb hby at_14) (by decide) κ) ?_
      show own_Go p e below _ T (mkF m 15 #[.val (.long q1), .second, .val (.long q2), .second, .val (.long (q1 &&& (9223372036854775807 : Int64))), .second, .unset, .unset, .unset, .unset, .unset, .unset, .unset, .unset, .unset] [(.long (1 : Int64))])
      refine own_st (fun τ κ => XS.lstore X.here hx rfl (hb hby at_15) rfl (l' := #[.val (.long q1), .second, .val (.long q2), .second, .val (.long (1 : Int64)), .second, .unset, .unset, .unset, .unset, .unset, .unset, .unset, .unset, .unset]) rfl κ) ?_
      show own_Go p e below _ T (mkF m 17 #[.val (.long q1), .second, .val (.long q2), .second, .val (.long (1 : Int64)), .second, .unset, .unset, .unset, .unset, .unset, .unset, .unset, .unset, .unset] [])
      have hlo : own_lo q1 = 1 := if_pos c11
      rw [hlo] at J17
      exact J17
    · refine own_st (fun τ κ => XS.ifYes X.here hx rfl (pc0 := 11) (pc' := 17) rfl (hb hby at_11) rfl (XT.ll_ne_t c11) (by decide) (by decide) κ) ?_
      show own_Go p e below _ T (mkF m 17 #[.val (.long q1), .second, .val (.long q2), .second, .val (.long (q1 &&& (9223372036854775807 : Int64))), .second, .unset, .unset, .unset, .unset, .unset, .unset, .unset, .unset, .unset] [])
      have hlo : own_lo q1 = (q1 &&& (9223372036854775807 : Int64)) := if_neg c11
      rw [hlo] at J17
      exact J17
  show own_Go p e below _ T (mkF m 17 #[.val (.long q1), .second, .val (.long q2), .second, .val (.long (own_lo q1)), .second, .unset, .unset, .unset, .unset, .unset, .unset, .unset, .unset, .unset] [])
  refine own_st (fun τ κ => Stand.ldc2J X hx hown (mvT hZ (hw _ (List.mem_of_getElem? (i := 0) rfl))) rfl (hb hby at_17) κ) ?_
  show own_Go p e below _ T (mkF m 20 #[.val (.long q1), .second, .val (.long q2), .second, .val (.long (own_lo q1)), .second, .unset, .unset, .unset, .unset, .unset, .unset, .unset, .unset, .unset] [(.long (9223372036854775807 : Int64))])
  refine own_st (fun τ κ => XS.lload X.here hx rfl (hb hby at_20) rfl κ) ?_
  show own_Go p e below _ T (mkF m 22 #[.val (.long q1), .second, .val (.long q2), .second, .val (.long (own_lo q1)), .second, .unset, .unset, .unset, .unset, .unset, .unset, .unset, .unset, .unset] [(.long (own_lo q1)), (.long (9223372036854775807 : Int64))])
  refine own_st (fun τ κ => XS.lsub X.here hx rfl (hb hby at_22) rfl κ) ?_
  show own_Go p e below _ T (mkF m 23 #[.val (.long q1), .second, .val (.long q2), .second, .val (.long (own_lo q1)), .second, .unset, .unset, .unset, .unset, .unset, .unset, .unset, .unset, .unset] [(.long ((9223372036854775807 : Int64) - (own_lo q1)))])
  refine own_st (fun τ κ => XT.lconstV X.here hx rfl (1) (hb hby at_23) (by decide) κ) ?_
  show own_Go p e below _ T (mkF m 24 #[.val (.long q1), .second, .val (.long q2), .second, .val (.long (own_lo q1)), .second, .unset, .unset, .unset, .unset, .unset, .unset, .unset, .unset, .unset] [(.long (1 : Int64)), (.long ((9223372036854775807 : Int64) - (own_lo q1)))])
  refine own_st (fun τ κ => XS.ladd X.here hx rfl (hb hby at_24) rfl κ) ?_
  show own_Go p e below _ T (mkF m 25 #[.val (.long q1), .second, .val (.long q2), .second, .val (.long (own_lo q1)), .second, .unset, .unset, .unset, .unset, .unset, .unset, .unset, .unset, .unset] [(.long (((9223372036854775807 : Int64) - (own_lo q1)) + (1 : Int64)))])
  refine own_st (fun τ κ => XS.lstore X.here hx rfl (hb hby at_25) rfl (l' := #[.val (.long q1), .second, .val (.long q2), .second, .val (.long (own_lo q1)), .second, .val (.long (((9223372036854775807 : Int64) - (own_lo q1)) + (1 : Int64))), .second, .unset, .unset, .unset, .unset, .unset, .unset, .unset]) rfl κ) ?_
  show own_Go p e below _ T (mkF m 27 #[.val (.long q1), .second, .val (.long q2), .second, .val (.long (own_lo q1)), .second, .val (.long (((9223372036854775807 : Int64) - (own_lo q1)) + (1 : Int64))), .second, .unset, .unset, .unset, .unset, .unset, .unset, .unset] [])
  refine own_st (fun τ κ => XS.lload X.here hx rfl (hb hby at_27) rfl κ) ?_
  show own_Go p e below _ T (mkF m 29 #[.val (.long q1), .second, .val (.long q2), .second, .val (.long (own_lo q1)), .second, .val (.long (((9223372036854775807 : Int64) - (own_lo q1)) + (1 : Int64))), .second, .unset, .unset, .unset, .unset, .unset, .unset, .unset] [(.long (own_lo q1))])
  refine own_st (fun τ κ => XS.lloadN X.here hx rfl (hb hby at_29) rfl κ) ?_
  show own_Go p e below _ T (mkF m 30 #[.val (.long q1), .second, .val (.long q2), .second, .val (.long (own_lo q1)), .second, .val (.long (((9223372036854775807 : Int64) - (own_lo q1)) + (1 : Int64))), .second, .unset, .unset, .unset, .unset, .unset, .unset, .unset] [(.long q2), (.long (own_lo q1))])
  refine own_st (fun τ κ => Stand.ldc2J X hx hown (mvT hZ (hw _ (List.mem_of_getElem? (i := 0) rfl))) rfl (hb hby at_30) κ) ?_
  show own_Go p e below _ T (mkF m 33 #[.val (.long q1), .second, .val (.long q2), .second, .val (.long (own_lo q1)), .second, .val (.long (((9223372036854775807 : Int64) - (own_lo q1)) + (1 : Int64))), .second, .unset, .unset, .unset, .unset, .unset, .unset, .unset] [(.long (9223372036854775807 : Int64)), (.long q2), (.long (own_lo q1))])
  refine own_st (fun τ κ => XS.land X.here hx rfl (hb hby at_33) rfl κ) ?_
  show own_Go p e below _ T (mkF m 34 #[.val (.long q1), .second, .val (.long q2), .second, .val (.long (own_lo q1)), .second, .val (.long (((9223372036854775807 : Int64) - (own_lo q1)) + (1 : Int64))), .second, .unset, .unset, .unset, .unset, .unset, .unset, .unset] [(.long (q2 &&& (9223372036854775807 : Int64))), (.long (own_lo q1))])
  refine own_st (fun τ κ => XS.lload X.here hx rfl (hb hby at_34) rfl κ) ?_
  show own_Go p e below _ T (mkF m 36 #[.val (.long q1), .second, .val (.long q2), .second, .val (.long (own_lo q1)), .second, .val (.long (((9223372036854775807 : Int64) - (own_lo q1)) + (1 : Int64))), .second, .unset, .unset, .unset, .unset, .unset, .unset, .unset] [(.long (((9223372036854775807 : Int64) - (own_lo q1)) + (1 : Int64))), (.long (q2 &&& (9223372036854775807 : Int64))), (.long (own_lo q1))])
  refine own_st (fun τ κ => XS.lrem X.here hx rfl (hb hby at_36) rfl (own_span_ne q1) κ) ?_
  show own_Go p e below _ T (mkF m 37 #[.val (.long q1), .second, .val (.long q2), .second, .val (.long (own_lo q1)), .second, .val (.long (((9223372036854775807 : Int64) - (own_lo q1)) + (1 : Int64))), .second, .unset, .unset, .unset, .unset, .unset, .unset, .unset] [(.long ((q2 &&& (9223372036854775807 : Int64)) - ((q2 &&& (9223372036854775807 : Int64)) / (((9223372036854775807 : Int64) - (own_lo q1)) + (1 : Int64))) * (((9223372036854775807 : Int64) - (own_lo q1)) + (1 : Int64)))), (.long (own_lo q1))])
  refine own_st (fun τ κ => XS.ladd X.here hx rfl (hb hby at_37) rfl κ) ?_
  show own_Go p e below _ T (mkF m 38 #[.val (.long q1), .second, .val (.long q2), .second, .val (.long (own_lo q1)), .second, .val (.long (((9223372036854775807 : Int64) - (own_lo q1)) + (1 : Int64))), .second, .unset, .unset, .unset, .unset, .unset, .unset, .unset] [(.long ((own_lo q1) + ((q2 &&& (9223372036854775807 : Int64)) - ((q2 &&& (9223372036854775807 : Int64)) / (((9223372036854775807 : Int64) - (own_lo q1)) + (1 : Int64))) * (((9223372036854775807 : Int64) - (own_lo q1)) + (1 : Int64)))))])
  refine own_st (fun τ κ => XS.lstore X.here hx rfl (hb hby at_38) rfl (l' := #[.val (.long q1), .second, .val (.long q2), .second, .val (.long (own_lo q1)), .second, .val (.long (((9223372036854775807 : Int64) - (own_lo q1)) + (1 : Int64))), .second, .val (.long ((own_lo q1) + ((q2 &&& (9223372036854775807 : Int64)) - ((q2 &&& (9223372036854775807 : Int64)) / (((9223372036854775807 : Int64) - (own_lo q1)) + (1 : Int64))) * (((9223372036854775807 : Int64) - (own_lo q1)) + (1 : Int64))))), .second, .unset, .unset, .unset, .unset, .unset]) rfl κ) ?_
  show own_Go p e below _ T (mkF m 40 #[.val (.long q1), .second, .val (.long q2), .second, .val (.long (own_lo q1)), .second, .val (.long (((9223372036854775807 : Int64) - (own_lo q1)) + (1 : Int64))), .second, .val (.long ((own_lo q1) + ((q2 &&& (9223372036854775807 : Int64)) - ((q2 &&& (9223372036854775807 : Int64)) / (((9223372036854775807 : Int64) - (own_lo q1)) + (1 : Int64))) * (((9223372036854775807 : Int64) - (own_lo q1)) + (1 : Int64))))), .second, .unset, .unset, .unset, .unset, .unset] [])
  have hup : ¬ ((own_lo q1) + ((q2 &&& (9223372036854775807 : Int64)) - ((q2 &&& (9223372036854775807 : Int64)) / (((9223372036854775807 : Int64) - (own_lo q1)) + (1 : Int64))) * (((9223372036854775807 : Int64) - (own_lo q1)) + (1 : Int64)))) < own_lo q1 := own_up_ge q1 q2
  generalize ((own_lo q1) + ((q2 &&& (9223372036854775807 : Int64)) - ((q2 &&& (9223372036854775807 : Int64)) / (((9223372036854775807 : Int64) - (own_lo q1)) + (1 : Int64))) * (((9223372036854775807 : Int64) - (own_lo q1)) + (1 : Int64)))) = up at hup ⊢
  show own_Go p e below _ T (mkF m 40 #[.val (.long q1), .second, .val (.long q2), .second, .val (.long (own_lo q1)), .second, .val (.long (((9223372036854775807 : Int64) - (own_lo q1)) + (1 : Int64))), .second, .val (.long up), .second, .unset, .unset, .unset, .unset, .unset] [])
  refine own_new X hx hZ e0 hown (hw _ (List.mem_of_getElem? (i := 1) rfl)) (hw _ (List.mem_of_getElem? (i := 2) rfl)) (hw _ (List.mem_of_getElem? (i := 3) rfl)) (hb hby at_40) (by decide) (by decide) ?_
  intro T1 h1 o1 X1 e1 E1 g1 A1 D1
  have ga_o1 : n0 ≤ o1 := by omega
  have Z1 : n0 ≤ h1.size := Nat.le_trans Z0 E1.1
  have E_o1 := A1
  have F_m_nLower_o1 : Fld Z h1 o1 "com/example/godwit/godwit/model/MessageNumberRange" "m_nLower" "J" (.long (0 : Int64)) := D1 (Or.inr (hw _ (List.mem_of_getElem? (i := 14) rfl))) (ty := .long) (by decide)
  have F_m_nUpper_o1 : Fld Z h1 o1 "com/example/godwit/godwit/model/MessageNumberRange" "m_nUpper" "J" (.long (0 : Int64)) := D1 (Or.inr (hw _ (List.mem_of_getElem? (i := 16) rfl))) (ty := .long) (by decide)
  show own_Go p e below _ T1 (mkF m 43 #[.val (.long q1), .second, .val (.long q2), .second, .val (.long (own_lo q1)), .second, .val (.long (((9223372036854775807 : Int64) - (own_lo q1)) + (1 : Int64))), .second, .val (.long up), .second, .unset, .unset, .unset, .unset, .unset] [(.ref o1)])
  refine own_st (fun τ κ => XS.dup X1.here hx rfl (hb hby at_43) rfl rfl κ) ?_
  show own_Go p e below _ T1 (mkF m 44 #[.val (.long q1), .second, .val (.long q2), .second, .val (.long (own_lo q1)), .second, .val (.long (((9223372036854775807 : Int64) - (own_lo q1)) + (1 : Int64))), .second, .val (.long up), .second, .unset, .unset, .unset, .unset, .unset] [(.ref o1), (.ref o1)])
  refine own_st (fun τ κ => XS.lload X1.here hx rfl (hb hby at_44) rfl κ) ?_
  show own_Go p e below _ T1 (mkF m 46 #[.val (.long q1), .second, .val (.long q2), .second, .val (.long (own_lo q1)), .second, .val (.long (((9223372036854775807 : Int64) - (own_lo q1)) + (1 : Int64))), .second, .val (.long up), .second, .unset, .unset, .unset, .unset, .unset] [(.long (own_lo q1)), (.ref o1), (.ref o1)])
  refine own_st (fun τ κ => XS.lload X1.here hx rfl (hb hby at_46) rfl κ) ?_
  show own_Go p e below _ T1 (mkF m 48 #[.val (.long q1), .second, .val (.long q2), .second, .val (.long (own_lo q1)), .second, .val (.long (((9223372036854775807 : Int64) - (own_lo q1)) + (1 : Int64))), .second, .val (.long up), .second, .unset, .unset, .unset, .unset, .unset] [(.long up), (.long (own_lo q1)), (.ref o1), (.ref o1)])
  refine own_callN X1 hx hZ e1 rfl hown (hw _ (List.mem_of_getElem? (i := 4) rfl)) (hw _ (List.mem_of_getElem? (i := 5) rfl)) (hw _ (List.mem_of_getElem? (i := 3) rfl)) (hw _ (List.mem_of_getElem? (i := 6) rfl)) (by decide) pd_1 (a := o1) (argsL := [(.long (own_lo q1)), (.long up)]) rfl (rm1 l Z a0 hw o1 (own_lo q1) up (own_lo_ge q1) hup _ _ h1 n0 Z1 ga_o1 E_o1 F_m_nLower_o1 F_m_nUpper_o1) 1 (by decide) (by decide) (by decide) (by decide) (rest := [(.ref o1)]) rfl (by rw [hml]; rfl) (Nat.le_of_eq rfl) (hb hby at_48) ?_
  intro v2 T2 L2 hQ2 X2
  obtain ⟨rfl, Nq2, K2, E2, F2, G2⟩ := hQ2
  have N2 := Fr.app N0 Nq2
  have e2 : T2.heap = T2.heap := rfl
  have Z2 : n0 ≤ T2.heap.size := Nat.le_trans Z1 K2.1
  have E_o1 := E2
  have F_m_nLower_o1 := F2
  have F_m_nUpper_o1 := G2
  show own_Go p e below _ T2 (mkF m 51 #[.val (.long q1), .second, .val (.long q2), .second, .val (.long (own_lo q1)), .second, .val (.long (((9223372036854775807 : Int64) - (own_lo q1)) + (1 : Int64))), .second, .val (.long up), .second, .unset, .unset, .unset, .unset, .unset] [(.ref o1)])
  refine own_st (fun τ κ => XS.astore X2.here hx rfl (hb hby at_51) rfl rfl (l' := #[.val (.long q1), .second, .val (.long q2), .second, .val (.long (own_lo q1)), .second, .val (.long (((9223372036854775807 : Int64) - (own_lo q1)) + (1 : Int64))), .second, .val (.long up), .second, .val (.ref o1), .unset, .unset, .unset, .unset]) rfl κ) ?_
  show own_Go p e below _ T2 (mkF m 53 #[.val (.long q1), .second, .val (.long q2), .second, .val (.long (own_lo q1)), .second, .val (.long (((9223372036854775807 : Int64) - (own_lo q1)) + (1 : Int64))), .second, .val (.long up), .second, .val (.ref o1), .unset, .unset, .unset, .unset] [])
  refine own_new X2 hx hZ e2 hown (hw _ (List.mem_of_getElem? (i := 1) rfl)) (hw _ (List.mem_of_getElem? (i := 2) rfl)) (hw _ (List.mem_of_getElem? (i := 3) rfl)) (hb hby at_53) (by decide) (by decide) ?_
  intro T3 h3 o3 X3 e3 E3 g3 A3 D3
  have ne_o1_o3 : o1 ≠ o3 := Nat.ne_of_lt (Nat.lt_of_lt_of_eq E_o1.lt g3)
  have ga_o3 : n0 ≤ o3 := by omega
  have E_o1 := E_o1.ext E3
  have F_m_nLower_o1 := F_m_nLower_o1.ext E3
  have F_m_nUpper_o1 := F_m_nUpper_o1.ext E3
  have Z3 : n0 ≤ h3.size := Nat.le_trans Z2 E3.1
  have E_o3 := A3
  have F_m_nLower_o3 : Fld Z h3 o3 "com/example/godwit/godwit/model/MessageNumberRange" "m_nLower" "J" (.long (0 : Int64)) := D3 (Or.inr (hw _ (List.mem_of_getElem? (i := 14) rfl))) (ty := .long) (by decide)
  have F_m_nUpper_o3 : Fld Z h3 o3 "com/example/godwit/godwit/model/MessageNumberRange" "m_nUpper" "J" (.long (0 : Int64)) := D3 (Or.inr (hw _ (List.mem_of_getElem? (i := 16) rfl))) (ty := .long) (by decide)
  show own_Go p e below _ T3 (mkF m 56 #[.val (.long q1), .second, .val (.long q2), .second, .val (.long (own_lo q1)), .second, .val (.long (((9223372036854775807 : Int64) - (own_lo q1)) + (1 : Int64))), .second, .val (.long up), .second, .val (.ref o1), .unset, .unset, .unset, .unset] [(.ref o3)])
  refine own_st (fun τ κ => XS.dup X3.here hx rfl (hb hby at_56) rfl rfl κ) ?_
  show own_Go p e below _ T3 (mkF m 57 #[.val (.long q1), .second, .val (.long q2), .second, .val (.long (own_lo q1)), .second, .val (.long (((9223372036854775807 : Int64) - (own_lo q1)) + (1 : Int64))), .second, .val (.long up), .second, .val (.ref o1), .unset, .unset, .unset, .unset] [(.ref o3), (.ref o3)])
  refine own_st (fun τ κ => XS.lload X3.here hx rfl (hb hby at_57) rfl κ) ?_
  show own_Go p e below _ T3 (mkF m 59 #[.val (.long q1), .second, .val (.long q2), .second, .val (.long (own_lo q1)), .second, .val (.long (((9223372036854775807 : Int64) - (own_lo q1)) + (1 : Int64))), .second, .val (.long up), .second, .val (.ref o1), .unset, .unset, .unset, .unset] [(.long (own_lo q1)), (.ref o3), (.ref o3)])
  refine own_st (fun τ κ => XS.lload X3.here hx rfl (hb hby at_59) rfl κ) ?_
  show own_Go p e below _ T3 (mkF m 61 #[.val (.long q1), .second, .val (.long q2), .second, .val (.long (own_lo q1)), .second, .val (.long (((9223372036854775807 : Int64) - (own_lo q1)) + (1 : Int64))), .second, .val (.long up), .second, .val (.ref o1), .unset, .unset, .unset, .unset] [(.long up), (.long (own_lo q1)), (.ref o3), (.ref o3)])
  refine own_callN X3 hx hZ e3 rfl hown (hw _ (List.mem_of_getElem? (i := 4) rfl)) (hw _ (List.mem_of_getElem? (i := 5) rfl)) (hw _ (List.mem_of_getElem? (i := 3) rfl)) (hw _ (List.mem_of_getElem? (i := 6) rfl)) (by decide) pd_1 (a := o3) (argsL := [(.long (own_lo q1)), (.long up)]) rfl (rm1 l Z a0 hw o3 (own_lo q1) up (own_lo_ge q1) hup _ _ h3 n0 Z3 ga_o3 E_o3 F_m_nLower_o3 F_m_nUpper_o3) 1 (by decide) (by decide) (by decide) (by decide) (rest := [(.ref o3)]) rfl (by rw [hml]; rfl) (Nat.le_of_eq rfl) (hb hby at_61) ?_
  intro v4 T4 L4 hQ4 X4
  obtain ⟨rfl, Nq4, K4, E4, F4, G4⟩ := hQ4
  have N4 := Fr.app N2 Nq4
  have e4 : T4.heap = T4.heap := rfl
  have E_o1 := E_o1.keep K4
  have F_m_nLower_o1 := F_m_nLower_o1.keep K4 (ninS ne_o1_o3 nin0)
  have F_m_nUpper_o1 := F_m_nUpper_o1.keep K4 (ninS ne_o1_o3 nin0)
  have Z4 : n0 ≤ T4.heap.size := Nat.le_trans Z3 K4.1
  have E_o3 := E4
  have F_m_nLower_o3 := F4
  have F_m_nUpper_o3 := G4
  show own_Go p e below _ T4 (mkF m 64 #[.val (.long q1), .second, .val (.long q2), .second, .val (.long (own_lo q1)), .second, .val (.long (((9223372036854775807 : Int64) - (own_lo q1)) + (1 : Int64))), .second, .val (.long up), .second, .val (.ref o1), .unset, .unset, .unset, .unset] [(.ref o3)])
  refine own_st (fun τ κ => XS.astore X4.here hx rfl (hb hby at_64) rfl rfl (l' := #[.val (.long q1), .second, .val (.long q2), .second, .val (.long (own_lo q1)), .second, .val (.long (((9223372036854775807 : Int64) - (own_lo q1)) + (1 : Int64))), .second, .val (.long up), .second, .val (.ref o1), .val (.ref o3), .unset, .unset, .unset]) rfl κ) ?_
  show own_Go p e below _ T4 (mkF m 66 #[.val (.long q1), .second, .val (.long q2), .second, .val (.long (own_lo q1)), .second, .val (.long (((9223372036854775807 : Int64) - (own_lo q1)) + (1 : Int64))), .second, .val (.long up), .second, .val (.ref o1), .val (.ref o3), .unset, .unset, .unset] [])
  refine own_st (fun τ κ => XS.aload X4.here hx rfl (hb hby at_66) rfl rfl κ) ?_
  show own_Go p e below _ T4 (mkF m 68 #[.val (.long q1), .second, .val (.long q2), .second, .val (.long (own_lo q1)), .second, .val (.long (((9223372036854775807 : Int64) - (own_lo q1)) + (1 : Int64))), .second, .val (.long up), .second, .val (.ref o1), .val (.ref o3), .unset, .unset, .unset] [(.ref o1)])
  refine own_callV X4 hx hZ e4 hown (hw _ (List.mem_of_getElem? (i := 17) rfl)) (hw _ (List.mem_of_getElem? (i := 18) rfl)) (hw _ (List.mem_of_getElem? (i := 20) rfl)) (hw _ (List.mem_of_getElem? (i := 20) rfl)) (hw _ (List.mem_of_getElem? (i := 19) rfl)) (hw _ (List.mem_of_getElem? (i := 3) rfl)) (hw _ (List.mem_of_getElem? (i := 21) rfl)) (by decide) pd_4 E_o1 (argsL := []) rfl (rm4 l Z a0 hw o1 (own_lo q1) up T4.heap n0 F_m_nLower_o1 F_m_nUpper_o1) 0 (by decide) (by decide) (by decide) (by decide) (rest := []) rfl (by rw [hml]; rfl) (Nat.le_of_eq rfl) (hb hby at_68) ?_
  intro v5 T5 L5 hQ5 X5
  obtain ⟨rfl, Nq5, e5⟩ := hQ5
  have N5 := Fr.app N4 Nq5
  show own_Go p e below _ T5 (mkF m 71 #[.val (.long q1), .second, .val (.long q2), .second, .val (.long (own_lo q1)), .second, .val (.long (((9223372036854775807 : Int64) - (own_lo q1)) + (1 : Int64))), .second, .val (.long up), .second, .val (.ref o1), .val (.ref o3), .unset, .unset, .unset] [(.int (((31 : Int32) * (own_lh (own_lo q1))) + (own_lh up)))])
  refine own_st (fun τ κ => XS.istore X5.here hx rfl (hb hby at_71) rfl (l' := #[.val (.long q1), .second, .val (.long q2), .second, .val (.long (own_lo q1)), .second, .val (.long (((9223372036854775807 : Int64) - (own_lo q1)) + (1 : Int64))), .second, .val (.long up), .second, .val (.ref o1), .val (.ref o3), .val (.int (((31 : Int32) * (own_lh (own_lo q1))) + (own_lh up))), .unset, .unset]) rfl κ) ?_
  show own_Go p e below _ T5 (mkF m 73 #[.val (.long q1), .second, .val (.long q2), .second, .val (.long (own_lo q1)), .second, .val (.long (((9223372036854775807 : Int64) - (own_lo q1)) + (1 : Int64))), .second, .val (.long up), .second, .val (.ref o1), .val (.ref o3), .val (.int (((31 : Int32) * (own_lh (own_lo q1))) + (own_lh up))), .unset, .unset] [])
  refine own_st (fun τ κ => XS.aload X5.here hx rfl (hb hby at_73) rfl rfl κ) ?_
  show own_Go p e below _ T5 (mkF m 75 #[.val (.long q1), .second, .val (.long q2), .second, .val (.long (own_lo q1)), .second, .val (.long (((9223372036854775807 : Int64) - (own_lo q1)) + (1 : Int64))), .second, .val (.long up), .second, .val (.ref o1), .val (.ref o3), .val (.int (((31 : Int32) * (own_lh (own_lo q1))) + (own_lh up))), .unset, .unset] [(.ref o1)])
  refine own_callV X5 hx hZ e5 hown (hw _ (List.mem_of_getElem? (i := 17) rfl)) (hw _ (List.mem_of_getElem? (i := 18) rfl)) (hw _ (List.mem_of_getElem? (i := 20) rfl)) (hw _ (List.mem_of_getElem? (i := 20) rfl)) (hw _ (List.mem_of_getElem? (i := 19) rfl)) (hw _ (List.mem_of_getElem? (i := 3) rfl)) (hw _ (List.mem_of_getElem? (i := 21) rfl)) (by decide) pd_4 E_o1 (argsL := []) rfl (rm4 l Z a0 hw o1 (own_lo q1) up T4.heap n0 F_m_nLower_o1 F_m_nUpper_o1) 0 (by decide) (by decide) (by decide) (by decide) (rest := []) rfl (by rw [hml]; rfl) (Nat.le_of_eq rfl) (hb hby at_75) ?_
  intro v6 T6 L6 hQ6 X6
  obtain ⟨rfl, Nq6, e6⟩ := hQ6
  have N6 := Fr.app N5 Nq6
  show own_Go p e below _ T6 (mkF m 78 #[.val (.long q1), .second, .val (.long q2), .second, .val (.long (own_lo q1)), .second, .val (.long (((9223372036854775807 : Int64) - (own_lo q1)) + (1 : Int64))), .second, .val (.long up), .second, .val (.ref o1), .val (.ref o3), .val (.int (((31 : Int32) * (own_lh (own_lo q1))) + (own_lh up))), .unset, .unset] [(.int (((31 : Int32) * (own_lh (own_lo q1))) + (own_lh up)))])
  refine own_st (fun τ κ => XS.istore X6.here hx rfl (hb hby at_78) rfl (l' := #[.val (.long q1), .second, .val (.long q2), .second, .val (.long (own_lo q1)), .second, .val (.long (((9223372036854775807 : Int64) - (own_lo q1)) + (1 : Int64))), .second, .val (.long up), .second, .val (.ref o1), .val (.ref o3), .val (.int (((31 : Int32) * (own_lh (own_lo q1))) + (own_lh up))), .val (.int (((31 : Int32) * (own_lh (own_lo q1))) + (own_lh up))), .unset]) rfl κ) ?_
  show own_Go p e below _ T6 (mkF m 80 #[.val (.long q1), .second, .val (.long q2), .second, .val (.long (own_lo q1)), .second, .val (.long (((9223372036854775807 : Int64) - (own_lo q1)) + (1 : Int64))), .second, .val (.long up), .second, .val (.ref o1), .val (.ref o3), .val (.int (((31 : Int32) * (own_lh (own_lo q1))) + (own_lh up))), .val (.int (((31 : Int32) * (own_lh (own_lo q1))) + (own_lh up))), .unset] [])
  refine own_st (fun τ κ => XS.aload X6.here hx rfl (hb hby at_80) rfl rfl κ) ?_
  show own_Go p e below _ T6 (mkF m 82 #[.val (.long q1), .second, .val (.long q2), .second, .val (.long (own_lo q1)), .second, .val (.long (((9223372036854775807 : Int64) - (own_lo q1)) + (1 : Int64))), .second, .val (.long up), .second, .val (.ref o1), .val (.ref o3), .val (.int (((31 : Int32) * (own_lh (own_lo q1))) + (own_lh up))), .val (.int (((31 : Int32) * (own_lh (own_lo q1))) + (own_lh up))), .unset] [(.ref o3)])
  refine own_callV X6 hx hZ e6 hown (hw _ (List.mem_of_getElem? (i := 17) rfl)) (hw _ (List.mem_of_getElem? (i := 18) rfl)) (hw _ (List.mem_of_getElem? (i := 20) rfl)) (hw _ (List.mem_of_getElem? (i := 20) rfl)) (hw _ (List.mem_of_getElem? (i := 19) rfl)) (hw _ (List.mem_of_getElem? (i := 3) rfl)) (hw _ (List.mem_of_getElem? (i := 21) rfl)) (by decide) pd_4 E_o3 (argsL := []) rfl (rm4 l Z a0 hw o3 (own_lo q1) up T4.heap n0 F_m_nLower_o3 F_m_nUpper_o3) 0 (by decide) (by decide) (by decide) (by decide) (rest := []) rfl (by rw [hml]; rfl) (Nat.le_of_eq rfl) (hb hby at_82) ?_
  intro v7 T7 L7 hQ7 X7
  obtain ⟨rfl, Nq7, e7⟩ := hQ7
  have N7 := Fr.app N6 Nq7
  show own_Go p e below _ T7 (mkF m 85 #[.val (.long q1), .second, .val (.long q2), .second, .val (.long (own_lo q1)), .second, .val (.long (((9223372036854775807 : Int64) - (own_lo q1)) + (1 : Int64))), .second, .val (.long up), .second, .val (.ref o1), .val (.ref o3), .val (.int (((31 : Int32) * (own_lh (own_lo q1))) + (own_lh up))), .val (.int (((31 : Int32) * (own_lh (own_lo q1))) + (own_lh up))), .unset] [(.int (((31 : Int32) * (own_lh (own_lo q1))) + (own_lh up)))])
  refine own_st (fun τ κ => XS.istore X7.here hx rfl (hb hby at_85) rfl (l' := #[.val (.long q1), .second, .val (.long q2), .second, .val (.long (own_lo q1)), .second, .val (.long (((9223372036854775807 : Int64) - (own_lo q1)) + (1 : Int64))), .second, .val (.long up), .second, .val (.ref o1), .val (.ref o3), .val (.int (((31 : Int32) * (own_lh (own_lo q1))) + (own_lh up))), .val (.int (((31 : Int32) * (own_lh (own_lo q1))) + (own_lh up))), .val (.int (((31 : Int32) * (own_lh (own_lo q1))) + (own_lh up)))]) rfl κ) ?_
  show own_Go p e below _ T7 (mkF m 87 #[.val (.long q1), .second, .val (.long q2), .second, .val (.long (own_lo q1)), .second, .val (.long (((9223372036854775807 : Int64) - (own_lo q1)) + (1 : Int64))), .second, .val (.long up), .second, .val (.ref o1), .val (.ref o3), .val (.int (((31 : Int32) * (own_lh (own_lo q1))) + (own_lh up))), .val (.int (((31 : Int32) * (own_lh (own_lo q1))) + (own_lh up))), .val (.int (((31 : Int32) * (own_lh (own_lo q1))) + (own_lh up)))] [])
  refine own_st (fun τ κ => XS.aload X7.here hx rfl (hb hby at_87) rfl rfl κ) ?_
  show own_Go p e below _ T7 (mkF m 89 #[.val (.long q1), .second, .val (.long q2), .second, .val (.long (own_lo q1)), .second, .val (.long (((9223372036854775807 : Int64) - (own_lo q1)) + (1 : Int64))), .second, .val (.long up), .second, .val (.ref o1), .val (.ref o3), .val (.int (((31 : Int32) * (own_lh (own_lo q1))) + (own_lh up))), .val (.int (((31 : Int32) * (own_lh (own_lo q1))) + (own_lh up))), .val (.int (((31 : Int32) * (own_lh (own_lo q1))) + (own_lh up)))] [(.ref o1)])
  refine own_st (fun τ κ => XS.aload X7.here hx rfl (hb hby at_89) rfl rfl κ) ?_
  show own_Go p e below _ T7 (mkF m 91 #[.val (.long q1), .second, .val (.long q2), .second, .val (.long (own_lo q1)), .second, .val (.long (((9223372036854775807 : Int64) - (own_lo q1)) + (1 : Int64))), .second, .val (.long up), .second, .val (.ref o1), .val (.ref o3), .val (.int (((31 : Int32) * (own_lh (own_lo q1))) + (own_lh up))), .val (.int (((31 : Int32) * (own_lh (own_lo q1))) + (own_lh up))), .val (.int (((31 : Int32) * (own_lh (own_lo q1))) + (own_lh up)))] [(.ref o3), (.ref o1)])
  refine own_callV X7 hx hZ e7 hown (hw _ (List.mem_of_getElem? (i := 26) rfl)) (hw _ (List.mem_of_getElem? (i := 27) rfl)) (hw _ (List.mem_of_getElem? (i := 29) rfl)) (hw _ (List.mem_of_getElem? (i := 29) rfl)) (hw _ (List.mem_of_getElem? (i := 28) rfl)) (hw _ (List.mem_of_getElem? (i := 3) rfl)) (hw _ (List.mem_of_getElem? (i := 30) rfl)) (by decide) pd_6 E_o1 (argsL := [(.ref o3)]) rfl (rm6 l Z a0 hw o1 o3 (own_lo q1) up T4.heap n0 E_o3 F_m_nLower_o1 F_m_nUpper_o1 F_m_nLower_o3 F_m_nUpper_o3) 0 (by decide) (by decide) (by decide) (by decide) (rest := []) rfl (by rw [hml]; rfl) (Nat.le_of_eq rfl) (hb hby at_91) ?_
  intro v8 T8 L8 hQ8 X8
  obtain ⟨rfl, Nq8, e8⟩ := hQ8
  have N8 := Fr.app N7 Nq8
  show own_Go p e below _ T8 (mkF m 94 #[.val (.long q1), .second, .val (.long q2), .second, .val (.long (own_lo q1)), .second, .val (.long (((9223372036854775807 : Int64) - (own_lo q1)) + (1 : Int64))), .second, .val (.long up), .second, .val (.ref o1), .val (.ref o3), .val (.int (((31 : Int32) * (own_lh (own_lo q1))) + (own_lh up))), .val (.int (((31 : Int32) * (own_lh (own_lo q1))) + (own_lh up))), .val (.int (((31 : Int32) * (own_lh (own_lo q1))) + (own_lh up)))] [(.int (1 : Int32))])
  refine own_st (fun τ κ => XS.ifNo X8.here hx rfl (hb hby at_94) rfl (XT.i0_eq_f (by decide)) κ) ?_
  show own_Go p e below _ T8 (mkF m 97 #[.val (.long q1), .second, .val (.long q2), .second, .val (.long (own_lo q1)), .second, .val (.long (((9223372036854775807 : Int64) - (own_lo q1)) + (1 : Int64))), .second, .val (.long up), .second, .val (.ref o1), .val (.ref o3), .val (.int (((31 : Int32) * (own_lh (own_lo q1))) + (own_lh up))), .val (.int (((31 : Int32) * (own_lh (own_lo q1))) + (own_lh up))), .val (.int (((31 : Int32) * (own_lh (own_lo q1))) + (own_lh up)))] [])
  refine own_st (fun τ κ => XS.iload X8.here hx rfl (hb hby at_97) rfl κ) ?_
  show own_Go p e below _ T8 (mkF m 99 #[.val (.long q1), .second, .val (.long q2), .second, .val (.long (own_lo q1)), .second, .val (.long (((9223372036854775807 : Int64) - (own_lo q1)) + (1 : Int64))), .second, .val (.long up), .second, .val (.ref o1), .val (.ref o3), .val (.int (((31 : Int32) * (own_lh (own_lo q1))) + (own_lh up))), .val (.int (((31 : Int32) * (own_lh (own_lo q1))) + (own_lh up))), .val (.int (((31 : Int32) * (own_lh (own_lo q1))) + (own_lh up)))] [(.int (((31 : Int32) * (own_lh (own_lo q1))) + (own_lh up)))])
  refine own_st (fun τ κ => XS.iload X8.here hx rfl (hb hby at_99) rfl κ) ?_
  show own_Go p e below _ T8 (mkF m 101 #[.val (.long q1), .second, .val (.long q2), .second, .val (.long (own_lo q1)), .second, .val (.long (((9223372036854775807 : Int64) - (own_lo q1)) + (1 : Int64))), .second, .val (.long up), .second, .val (.ref o1), .val (.ref o3), .val (.int (((31 : Int32) * (own_lh (own_lo q1))) + (own_lh up))), .val (.int (((31 : Int32) * (own_lh (own_lo q1))) + (own_lh up))), .val (.int (((31 : Int32) * (own_lh (own_lo q1))) + (own_lh up)))] [(.int (((31 : Int32) * (own_lh (own_lo q1))) + (own_lh up))), (.int (((31 : Int32) * (own_lh (own_lo q1))) + (own_lh up)))])
  refine own_st (fun τ κ => XS.icmpNo X8.here hx rfl (hb hby at_101) rfl (XT.ii_ne_f rfl) κ) ?_
  show own_Go p e below _ T8 (mkF m 104 #[.val (.long q1), .second, .val (.long q2), .second, .val (.long (own_lo q1)), .second, .val (.long (((9223372036854775807 : Int64) - (own_lo q1)) + (1 : Int64))), .second, .val (.long up), .second, .val (.ref o1), .val (.ref o3), .val (.int (((31 : Int32) * (own_lh (own_lo q1))) + (own_lh up))), .val (.int (((31 : Int32) * (own_lh (own_lo q1))) + (own_lh up))), .val (.int (((31 : Int32) * (own_lh (own_lo q1))) + (own_lh up)))] [])
  refine own_st (fun τ κ => XS.iload X8.here hx rfl (hb hby at_104) rfl κ) ?_
  show own_Go p e below _ T8 (mkF m 106 #[.val (.long q1), .second, .val (.long q2), .second, .val (.long (own_lo q1)), .second, .val (.long (((9223372036854775807 : Int64) - (own_lo q1)) + (1 : Int64))), .second, .val (.long up), .second, .val (.ref o1), .val (.ref o3), .val (.int (((31 : Int32) * (own_lh (own_lo q1))) + (own_lh up))), .val (.int (((31 : Int32) * (own_lh (own_lo q1))) + (own_lh up))), .val (.int (((31 : Int32) * (own_lh (own_lo q1))) + (own_lh up)))] [(.int (((31 : Int32) * (own_lh (own_lo q1))) + (own_lh up)))])
  refine own_st (fun τ κ => XS.iload X8.here hx rfl (hb hby at_106) rfl κ) ?_
  show own_Go p e below _ T8 (mkF m 108 #[.val (.long q1), .second, .val (.long q2), .second, .val (.long (own_lo q1)), .second, .val (.long (((9223372036854775807 : Int64) - (own_lo q1)) + (1 : Int64))), .second, .val (.long up), .second, .val (.ref o1), .val (.ref o3), .val (.int (((31 : Int32) * (own_lh (own_lo q1))) + (own_lh up))), .val (.int (((31 : Int32) * (own_lh (own_lo q1))) + (own_lh up))), .val (.int (((31 : Int32) * (own_lh (own_lo q1))) + (own_lh up)))] [(.int (((31 : Int32) * (own_lh (own_lo q1))) + (own_lh up))), (.int (((31 : Int32) * (own_lh (own_lo q1))) + (own_lh up)))])
  refine own_st (fun τ κ => XS.icmpNo X8.here hx rfl (hb hby at_108) rfl (XT.ii_ne_f rfl) κ) ?_
  show own_Go p e below _ T8 (mkF m 111 #[.val (.long q1), .second, .val (.long q2), .second, .val (.long (own_lo q1)), .second, .val (.long (((9223372036854775807 : Int64) - (own_lo q1)) + (1 : Int64))), .second, .val (.long up), .second, .val (.ref o1), .val (.ref o3), .val (.int (((31 : Int32) * (own_lh (own_lo q1))) + (own_lh up))), .val (.int (((31 : Int32) * (own_lh (own_lo q1))) + (own_lh up))), .val (.int (((31 : Int32) * (own_lh (own_lo q1))) + (own_lh up)))] [])
  refine own_st (fun τ κ => XT.iconstV X8.here hx rfl (1) (hb hby at_111) (by decide) κ) ?_
  show own_Go p e below _ T8 (mkF m 112 #[.val (.long q1), .second, .val (.long q2), .second, .val (.long (own_lo q1)), .second, .val (.long (((9223372036854775807 : Int64) - (own_lo q1)) + (1 : Int64))), .second, .val (.long up), .second, .val (.ref o1), .val (.ref o3), .val (.int (((31 : Int32) * (own_lh (own_lo q1))) + (own_lh up))), .val (.int (((31 : Int32) * (own_lh (own_lo q1))) + (own_lh up))), .val (.int (((31 : Int32) * (own_lh (own_lo q1))) + (own_lh up)))] [(.int (1 : Int32))])
  refine own_st (fun τ κ => XS.goto X8.here hx rfl (pc0 := 112) (pc' := 116) rfl (hb hby at_112) (by decide) (by decide) κ) ?_
  show own_Go p e below _ T8 (mkF m 116 #[.val (.long q1), .second, .val (.long q2), .second, .val (.long (own_lo q1)), .second, .val (.long (((9223372036854775807 : Int64) - (own_lo q1)) + (1 : Int64))), .second, .val (.long up), .second, .val (.ref o1), .val (.ref o3), .val (.int (((31 : Int32) * (own_lh (own_lo q1))) + (own_lh up))), .val (.int (((31 : Int32) * (own_lh (own_lo q1))) + (own_lh up))), .val (.int (((31 : Int32) * (own_lh (own_lo q1))) + (own_lh up)))] [(.int (1 : Int32))])
  refine own_retZ X8 hx hlk hret (by decide) (by decide) (by decide) (hb hby at_116) ?_
  exact ⟨rfl, N8⟩

set_option maxRecDepth 65536 in
set_option maxHeartbeats 40000000 in
theorem comes_1 {Post : Tables → Env → Array Value → State → Outcome → State → Prop} (hpost : ∀ tb e args s v u, (limb_1_1.after args s (.returned v) u = true ∧ limb_1_2.after args s (.returned v) u = true ∧ True) → FrameEnd s (.returned v) u (Jvm.fieldLocs frame_1_writes args s ++ Jvm.arrayLocs frame_1_arrays args s ++ Jvm.staticLocs frame_1_statics s) 16 128 → Post tb e args s (.returned v) u) :
    ArmFor flags0 classFile x code maxLocals ret World_1 tables_1 room_1 Calls_1 rest_1 Pre_1 Post := by
  intro l hfl _ _ p e ha hc hk s m args below hf hA hF happ hP
  obtain ⟨hcalls, hrest, hpre⟩ := hP
  obtain ⟨-, -, -, hnamed, -, -, -, hat⟩ := (Spec.applies_iff hf).mp happ
  obtain ⟨hg, hn⟩ := and_e (Cond.before_iff.mp (show (Jvm.Cond.and given_1 narrow_1).before args s = true from hpre))
  obtain ⟨gc, g0⟩ := and_e hg
  obtain ⟨a0, g1⟩ := and_e g0
  obtain ⟨w0, w1, rfl⟩ : ∃ w0 w1 : Value, args = #[w0, w1] := by
    have hs : args.size = 2 := by simpa [Cond.value, given_1] using gc
    obtain ⟨L⟩ := args
    match L, hs with
    | [w0, w1], _ => exact ⟨w0, w1, rfl⟩
  have hw := fun d (hd : d ∈ tables_1) => atoms_spec (ws := Jvm.Cond.code x code maxLocals ret :: tables_1) hat d (List.mem_cons_of_mem _ hd)
  obtain ⟨i0, ei0⟩ := isL_v a0
  obtain rfl : w0 = (.long i0) := Option.some.inj ei0
  obtain ⟨i1, ei1⟩ := isL_v g1
  obtain rfl : w1 = (.long i1) := Option.some.inj ei1
  obtain ⟨n, o, h1, h2, h3, _, L, rfl, ⟨rfl, N⟩, hq⟩ := rm0 l s _ hw i0 i1 s.heap s.heap.size (Nat.le_refl _) tables_1 p e ha hc hk s m _ below hf ((Spec.applies_iff_loose hf).mp happ).1 ⟨rfl, State.Warmed39.refl s, rfl⟩ trivial
  refine ⟨n, _, h1, h2, h3, hpost _ _ _ _ _ _ ⟨Cond.after_iff.mpr rfl, Cond.after_iff.mpr (eq_i res_at (Term.int_eval (1)) rfl), trivial⟩ ⟨hq.1, hq.2.1, (hq.2.2.sift fun y hy => Or.inr (N y hy)).mono (by decide) (by decide)⟩⟩
theorem main_1_1 : Claimed_1_1 := comes_1 fun _ _ _ _ _ _ h hF => ⟨h.1, hF⟩
theorem main_1_2 : Claimed_1_2 := comes_1 fun _ _ _ _ _ _ h hF => ⟨h.2.1, hF⟩

end Jvm.Pilot.@@N@@
namespace Jvm.Pilot.@@N@@
open Jvm Jvm.ClassFile Sem Op Lib Jvm.Free Jvm.Stand Jvm.Pilot.@@N@@.Jvm.D
/-! MADE BY PROGRAM (witnessworld.py) out of the Statement's table words and the real class files: 14 classes; the members and pool entries that the words name. The judged class is class 1, her method 1. -/
namespace start1
open Jvm.ClassFile
def u (s : String) : CpInfo := .utf8 (stringToUtf16 s)
/-- a pool by its gaps: so many unusable entries, then the entry; so many at the end -/
def gap : Nat → List CpInfo → List CpInfo
  | 0, r => r
  | n + 1, r => .unusable :: gap n r
def poolList (es : List (Nat × CpInfo)) (last : Nat) : List CpInfo := es.foldr (fun e r => gap e.1 (e.2 :: r)) (gap last [])
def pool (es : List (Nat × CpInfo)) (last : Nat) : Array CpInfo := ⟨poolList es last⟩
def fileOf (pool : Array CpInfo) (this : Nat) (attrs : Array Attribute := #[]) (ms : Array MethodInfo := #[]) (fl : Nat := 33) (sup : Nat := 0) (ifs : Array Nat := #[]) (fds : Array FieldInfo := #[]) : ClassFile where
  minorVersion := 0
  majorVersion := 65
  constantPool := pool
  accessFlags := fl
  thisClass := this
  superClass := sup
  interfaces := ifs
  fields := fds
  methods := ms
  attributes := attrs
def plain (name : String) (sup : Option ClassId) : Class where
  name := name
  kind := .ordinary
  loader := none
  accessFlags := 33
  super := sup
  interfaces := #[]
  cf := none
  fields := #[]
  methods := #[]
  instanceTypes := #[]
  staticTypes := #[]
  resolved := #[]
  callSites := []
  init := .initialized
  statics := none
  mirror := none

def pool0 : Array CpInfo := pool [(5, u "<init>"), (0, u "()V"), (1, .class_ 10), (1, u "java/lang/Object")] 113

def k0c0 : Code := { maxStack := 0, maxLocals := 1, code := object_method_1_code, exceptionTable := #[], attributes := #[] }
def k0m0 : Method := { name := "<init>", desc := "()V", sig := { parameters := [], returnType := none }, accessFlags := 1, code := some k0c0 }
/-- java/lang/Object -/
def k0 : Class := { plain "java/lang/Object" none with
  accessFlags := 33
  interfaces := #[]
  cf := some (fileOf pool0 8 #[] #[{ accessFlags := 1, nameIndex := 5, descriptorIndex := 6, attributes := #[] }] 33 0 #[] #[])
  fields := #[]
  methods := #[k0m0]
  instanceTypes := #[]
  staticTypes := #[]
  resolved := Array.replicate 124 none
  statics := none }

def pool1 : Array CpInfo := pool [(2, .class_ 4), (1, u "java/lang/Object"), (0, u "<init>"), (0, u "()V"), (2, .long 9223372036854775807), (1, .class_ 12), (0, u "com/example/godwit/godwit/model/MessageNumberRange"), (0, .methodref 11 14), (0, .nameAndType 5 15), (0, u "(JJ)V"), (0, .methodref 11 17), (0, .nameAndType 18 19), (0, u "hashCode"), (0, u "()I"), (0, .methodref 11 21), (0, .nameAndType 22 23), (0, u "equals"), (0, u "(Ljava/lang/Object;)Z"), (0, .class_ 25), (0, u "com/example/godwit/godwit/model/MessageNumberRangeHashCodePinLaw"), (2, u "law"), (0, u "(JJ)Z")] 3

def k1m0 : Method := { name := "<init>", desc := "()V", sig := { parameters := [], returnType := none }, accessFlags := 1, code := none }
def k1c1 : Code := { maxStack := 6, maxLocals := 15, code := code, exceptionTable := #[], attributes := #[] }
def k1m1 : Method := { name := "law", desc := "(JJ)Z", sig := { parameters := [.long, .long], returnType := some .boolean }, accessFlags := 9, code := some k1c1 }
/-- com/example/godwit/godwit/model/MessageNumberRangeHashCodePinLaw -/
def k1 : Class := { plain "com/example/godwit/godwit/model/MessageNumberRangeHashCodePinLaw" (some 0) with
  accessFlags := 49
  interfaces := #[]
  cf := some (fileOf pool1 24 #[] #[{ accessFlags := 1, nameIndex := 5, descriptorIndex := 6, attributes := #[] }, { accessFlags := 9, nameIndex := 28, descriptorIndex := 29, attributes := #[] }] 49 2 #[] #[])
  fields := #[]
  methods := #[k1m0, k1m1]
  instanceTypes := #[]
  staticTypes := #[]
  resolved := Array.replicate 33 none
  statics := none }

def pool2 : Array CpInfo := pool [(1, .methodref 2 3), (0, .class_ 4), (0, .nameAndType 5 6), (0, u "java/lang/Object"), (0, u "<init>"), (0, u "()V"), (0, .methodref 8 9), (0, .class_ 10), (0, .nameAndType 11 12), (0, u "com/example/godwit/godwit/model/MessageNumberRange"), (0, u "requireMessageNumber"), (0, u "(J)V"), (9, .fieldref 8 23), (0, .nameAndType 24 25), (0, u "m_nLower"), (0, u "J"), (0, .fieldref 8 27), (0, .nameAndType 28 25), (0, u "m_nUpper"), (3, .methodref 33 34), (0, .class_ 35), (0, .nameAndType 36 37), (0, u "java/lang/Long"), (0, u "hashCode"), (0, u "(J)I"), (1, u "(JJ)V"), (6, u "equals"), (0, u "(Ljava/lang/Object;)Z"), (0, u "()I")] 23

def k2c0 : Code := { maxStack := 6, maxLocals := 5, code := prog_14_method_1_code, exceptionTable := #[], attributes := #[] }
def k2m0 : Method := { name := "<init>", desc := "(JJ)V", sig := { parameters := [.long, .long], returnType := none }, accessFlags := 1, code := some k2c0 }
def k2c1 : Code := { maxStack := 4, maxLocals := 2, code := prog_14_method_2_code, exceptionTable := #[], attributes := #[] }
def k2m1 : Method := { name := "requireMessageNumber", desc := "(J)V", sig := { parameters := [.long], returnType := none }, accessFlags := 8, code := some k2c1 }
def k2c2 : Code := { maxStack := 4, maxLocals := 3, code := prog_14_method_5_code, exceptionTable := #[], attributes := #[] }
def k2m2 : Method := { name := "equals", desc := "(Ljava/lang/Object;)Z", sig := { parameters := [(.object "java/lang/Object")], returnType := some .boolean }, accessFlags := 1, code := some k2c2 }
def k2c3 : Code := { maxStack := 3, maxLocals := 1, code := prog_14_method_6_code, exceptionTable := #[], attributes := #[] }
def k2m3 : Method := { name := "hashCode", desc := "()I", sig := { parameters := [], returnType := some .int }, accessFlags := 1, code := some k2c3 }
/-- com/example/godwit/godwit/model/MessageNumberRange -/
def k2 : Class := { plain "com/example/godwit/godwit/model/MessageNumberRange" (some 0) with
  accessFlags := 33
  interfaces := #[]
  cf := some (fileOf pool2 8 #[] #[{ accessFlags := 1, nameIndex := 5, descriptorIndex := 39, attributes := #[] }, { accessFlags := 8, nameIndex := 11, descriptorIndex := 12, attributes := #[] }, { accessFlags := 1, nameIndex := 46, descriptorIndex := 47, attributes := #[] }, { accessFlags := 1, nameIndex := 36, descriptorIndex := 48, attributes := #[] }] 33 2 #[] #[{ accessFlags := 18, nameIndex := 24, descriptorIndex := 25, attributes := #[] }, { accessFlags := 18, nameIndex := 28, descriptorIndex := 25, attributes := #[] }])
  fields := #[{ name := "m_nLower", type := .long, accessFlags := 18, slot := 0, constantValue := 0 }, { name := "m_nUpper", type := .long, accessFlags := 18, slot := 1, constantValue := 0 }]
  methods := #[k2m0, k2m1, k2m2, k2m3]
  instanceTypes := #[.long, .long]
  staticTypes := #[]
  resolved := Array.replicate 72 none
  statics := none }

def pool3 : Array CpInfo := pool [(1, .class_ 2), (0, u "java/io/Serializable"), (0, .class_ 4), (0, u "java/lang/Object")] 2

/-- java/io/Serializable -/
def k3 : Class := { plain "java/io/Serializable" (some 0) with
  accessFlags := 1537
  interfaces := #[]
  cf := some (fileOf pool3 1 #[] #[] 1537 3 #[] #[])
  fields := #[]
  methods := #[]
  instanceTypes := #[]
  staticTypes := #[]
  resolved := Array.replicate 7 none
  statics := none }

def pool4 : Array CpInfo := pool [(2, .class_ 4), (1, u "java/lang/Object"), (0, u "<init>"), (0, u "()V"), (1, .class_ 10), (1, u "java/lang/Number"), (2, .class_ 14), (0, u "java/io/Serializable"), (0, u "serialVersionUID"), (0, u "J")] 20

def k4m0 : Method := { name := "<init>", desc := "()V", sig := { parameters := [], returnType := none }, accessFlags := 1, code := none }
/-- java/lang/Number -/
def k4 : Class := { plain "java/lang/Number" (some 0) with
  accessFlags := 1057
  interfaces := #[3]
  cf := some (fileOf pool4 8 #[] #[{ accessFlags := 1, nameIndex := 5, descriptorIndex := 6, attributes := #[] }] 1057 2 #[13] #[{ accessFlags := 26, nameIndex := 15, descriptorIndex := 16, attributes := #[] }])
  fields := #[{ name := "serialVersionUID", type := .long, accessFlags := 26, slot := 0, constantValue := 0 }]
  methods := #[k4m0]
  instanceTypes := #[]
  staticTypes := #[.long]
  resolved := Array.replicate 37 none
  statics := none }

def pool5 : Array CpInfo := pool [(1, .class_ 2), (0, u "java/lang/Comparable"), (0, .class_ 4), (0, u "java/lang/Object")] 7

/-- java/lang/Comparable -/
def k5 : Class := { plain "java/lang/Comparable" (some 0) with
  accessFlags := 1537
  interfaces := #[]
  cf := some (fileOf pool5 1 #[] #[] 1537 3 #[] #[])
  fields := #[]
  methods := #[]
  instanceTypes := #[]
  staticTypes := #[]
  resolved := Array.replicate 12 none
  statics := none }

def pool6 : Array CpInfo := pool [(1, .class_ 2), (0, u "java/lang/constant/Constable"), (0, .class_ 4), (0, u "java/lang/Object")] 6

/-- java/lang/constant/Constable -/
def k6 : Class := { plain "java/lang/constant/Constable" (some 0) with
  accessFlags := 1537
  interfaces := #[]
  cf := some (fileOf pool6 1 #[] #[] 1537 3 #[] #[])
  fields := #[]
  methods := #[]
  instanceTypes := #[]
  staticTypes := #[]
  resolved := Array.replicate 11 none
  statics := none }

def pool7 : Array CpInfo := pool [(1, .class_ 2), (0, u "java/lang/constant/ConstantDesc"), (0, .class_ 4), (0, u "java/lang/Object")] 32

/-- java/lang/constant/ConstantDesc -/
def k7 : Class := { plain "java/lang/constant/ConstantDesc" (some 0) with
  accessFlags := 1537
  interfaces := #[]
  cf := some (fileOf pool7 1 #[] #[] 1537 3 #[] #[])
  fields := #[]
  methods := #[]
  instanceTypes := #[]
  staticTypes := #[]
  resolved := Array.replicate 37 none
  statics := none }

def pool8 : Array CpInfo := pool [(1, .class_ 2), (0, u "java/lang/Long"), (98, u "(J)I"), (133, .class_ 237), (1, u "java/lang/Long$LongCache"), (33, .class_ 272), (0, u "java/lang/Number"), (2, u "value"), (0, u "J"), (2, u "hashCode"), (81, u "TYPE"), (0, u "Ljava/lang/Class;"), (0, .class_ 364), (0, u "java/lang/Comparable"), (0, .class_ 366), (0, u "java/lang/constant/Constable"), (0, .class_ 368), (0, u "java/lang/constant/ConstantDesc"), (0, u "MIN_VALUE"), (1, u "MAX_VALUE"), (4, u "SIZE"), (0, u "I"), (1, u "BYTES"), (1, u "serialVersionUID")] 142

def k8c0 : Code := { maxStack := 5, maxLocals := 2, code := jdk_35_method_36_code, exceptionTable := #[], attributes := #[] }
def k8m0 : Method := { name := "hashCode", desc := "(J)I", sig := { parameters := [.long], returnType := some .int }, accessFlags := 9, code := some k8c0 }
/-- java/lang/Long -/
def k8 : Class := { plain "java/lang/Long" (some 4) with
  accessFlags := 49
  interfaces := #[5, 6, 7]
  cf := some (fileOf pool8 1 #[.nestMembers #[235]] #[{ accessFlags := 9, nameIndex := 279, descriptorIndex := 101, attributes := #[] }] 49 271 #[363, 365, 367] #[{ accessFlags := 25, nameIndex := 369, descriptorIndex := 276, attributes := #[] }, { accessFlags := 25, nameIndex := 371, descriptorIndex := 276, attributes := #[] }, { accessFlags := 25, nameIndex := 361, descriptorIndex := 362, attributes := #[] }, { accessFlags := 18, nameIndex := 275, descriptorIndex := 276, attributes := #[] }, { accessFlags := 25, nameIndex := 376, descriptorIndex := 377, attributes := #[] }, { accessFlags := 25, nameIndex := 379, descriptorIndex := 377, attributes := #[] }, { accessFlags := 26, nameIndex := 381, descriptorIndex := 276, attributes := #[] }])
  fields := #[{ name := "MIN_VALUE", type := .long, accessFlags := 25, slot := 0, constantValue := 0 }, { name := "MAX_VALUE", type := .long, accessFlags := 25, slot := 1, constantValue := 0 }, { name := "TYPE", type := (.object "java/lang/Class"), accessFlags := 25, slot := 2, constantValue := 0 }, { name := "value", type := .long, accessFlags := 18, slot := 0, constantValue := 0 }, { name := "SIZE", type := .int, accessFlags := 25, slot := 3, constantValue := 0 }, { name := "BYTES", type := .int, accessFlags := 25, slot := 4, constantValue := 0 }, { name := "serialVersionUID", type := .long, accessFlags := 26, slot := 5, constantValue := 0 }]
  methods := #[k8m0]
  instanceTypes := #[.long]
  staticTypes := #[.long, .long, (.object "java/lang/Class"), .int, .int, .long]
  resolved := Array.replicate 524 none
  statics := none }

def pool9 : Array CpInfo := pool [(1, u "java/lang/Cloneable"), (0, .class_ 1), (0, u "java/lang/Object"), (0, .class_ 3)] 3

/-- java/lang/Cloneable -/
def k9 : Class := { plain "java/lang/Cloneable" (some 0) with
  accessFlags := 1537
  interfaces := #[]
  cf := some (fileOf pool9 2 #[] #[] 1537 4 #[] #[])
  fields := #[]
  methods := #[]
  instanceTypes := #[]
  staticTypes := #[]
  resolved := Array.replicate 8 none
  statics := none }

/-- the primitive byte -/
def k10 : Class := { plain "byte" none with kind := .primitive 'B', accessFlags := 0x411 }
/-- [B -/
def k11 : Class := { plain "[B" (some 0) with kind := .array 10 .byte, interfaces := #[9, 3], accessFlags := 1041 }

/-- the primitive int -/
def k12 : Class := { plain "int" none with kind := .primitive 'I', accessFlags := 0x411 }
/-- [I -/
def k13 : Class := { plain "[I" (some 0) with kind := .array 12 .int, interfaces := #[9, 3], accessFlags := 1041 }

def heap : Heap := #[]
def classes : Array Class := #[k0, k1, k2, k3, k4, k5, k6, k7, k8, k9, k10, k11, k12, k13]
def interned : List (Array UInt16 × Addr) := []
def slotsUsed : Nat := 0
def theMethod : MethodId := ⟨1, 1⟩
def args0 : Array Value := #[.long 7, .long 9]
def aboutOver (below : List Frame) : State where
  vm := { classes := classes, interned := interned.toArray }
  heap := heap
  slotsUsed := slotsUsed
  threads := #[{ frames := .invoking theMethod args0 :: below }]
def below0 : List Frame := [.native { method := ⟨0, 0⟩, args := #[] }]
def about1 : State := aboutOver below0
def p0 : Program := .bare "" "" ""
def e0 : Env := launch0.env 0 0 0
theorem w_frames : about1.frames = Frame.invoking theMethod args0 :: below0 := rfl
set_option maxRecDepth 65536 in
theorem w_args : argsFit about1.vm theMethod args0 = true := by decide +kernel
set_option maxRecDepth 65536 in
theorem w_heap : heapFits about1 = true := by decide +kernel
set_option maxRecDepth 65536 in
theorem w_runnable : about1.curStatus? = some .runnable := by decide +kernel
set_option maxRecDepth 65536 in
theorem w_alone : about1.alone = true := by decide +kernel
set_option maxRecDepth 65536 in
theorem w_named : about1.methodNamed? x = some theMethod := by decide +kernel
set_option maxRecDepth 65536 in
theorem w_hears : about1.hears theMethod below0 = true := by decide +kernel
set_option maxRecDepth 65536 in
theorem w_ripe : about1.ripe theMethod args0 below0 = true := by decide +kernel
theorem w_running : about1.status = .running := rfl
set_option maxRecDepth 65536 in
theorem w_room : about1.hasRoom e0.platform room_1 = true :=
  launch0.hasRoom_least _ room_1 (by decide +kernel) (by decide +kernel) (by decide +kernel) (by decide +kernel) (by decide +kernel) (by decide +kernel)
theorem allAtoms_all (ts : List Jvm.Cond) (a : Array Jvm.Value) (st : Jvm.State) : (allAtoms ts).before a st = ts.all (fun c => c.before a st) := by
  induction ts with
  | nil => rfl
  | cons c t ih =>
    show (Jvm.Cond.and c (allAtoms t)).before a st = _
    rw [Jvm.Cond.before_and, ih, List.all_cons]
def words1 : List Jvm.Cond := Jvm.Cond.code x code maxLocals ret :: tables_1
/-- a 'code' word, met by the world's own term for the bytes: nothing is compared byte by byte -/
theorem code_word {y : MethodName} {bytes : ByteArray} {mx : Nat} {rt : Option FieldType} {a : Array Value} {s : State} {m : MethodId} {meth : Method} {c : Code} (h1 : s.methodNamed? y = some m) (h2 : s.vm.method? m = some meth) (h3 : meth.code = some c) (h4 : c.code = bytes)
    (h5 : (c.maxLocals == mx && c.exceptionTable.isEmpty && decide (c.maxStack ≤ mostOperands) && decide (meth.sig.returnType = rt) && !meth.locks && decide (parseMethodDescriptor y.desc = some meth.sig)) = true) : (Jvm.Cond.code y bytes mx rt).before a s = true := by
  simp only [Bool.and_eq_true, beq_iff_eq, Bool.not_eq_true', decide_eq_true_eq] at h5
  obtain ⟨⟨⟨⟨⟨g1, g2⟩, g3⟩, g4⟩, g5⟩, g6⟩ := h5
  simp [Cond.before, Cond.holds, Cond.value, h1, h2, h3, h4, g1, g2, g3, g4, g5, g6]
def isCode : Jvm.Cond → Bool
  | .code _ _ _ _ => true
  | _ => false
theorem all_split {L : List Jvm.Cond} {P : Jvm.Cond → Bool} (h1 : L.all (fun c => isCode c || P c) = true) (h2 : ∀ c ∈ L.filter isCode, P c = true) : L.all P = true := by
  refine List.all_eq_true.mpr fun c hc => ?_
  have h := List.all_eq_true.mp h1 c hc
  rcases Bool.eq_false_or_eq_true (isCode c) with hi | hi
  · exact h2 c (List.mem_filter.mpr ⟨hc, hi⟩)
  · simpa [hi] using h
set_option maxRecDepth 65536 in
theorem w_c0 : (Jvm.Cond.code x code maxLocals ret).before args0 about1 = true := code_word (m := ⟨1, 1⟩) (meth := k1m1) (c := k1c1) (by decide +kernel) rfl rfl rfl (by decide +kernel)
set_option maxRecDepth 65536 in
theorem w_c1 : (Jvm.Cond.code ({ cls := "com/example/godwit/godwit/model/MessageNumberRange", name := "<init>", desc := "(JJ)V" } : Jvm.MethodName) prog_14_method_1_code (5 : Nat) (Option.none : Option Jvm.ClassFile.FieldType)).before args0 about1 = true := code_word (m := ⟨2, 0⟩) (meth := k2m0) (c := k2c0) (by decide +kernel) rfl rfl rfl (by decide +kernel)
set_option maxRecDepth 65536 in
theorem w_c2 : (Jvm.Cond.code ({ cls := "java/lang/Object", name := "<init>", desc := "()V" } : Jvm.MethodName) object_method_1_code (1 : Nat) (Option.none : Option Jvm.ClassFile.FieldType)).before args0 about1 = true := code_word (m := ⟨0, 0⟩) (meth := k0m0) (c := k0c0) (by decide +kernel) rfl rfl rfl (by decide +kernel)
set_option maxRecDepth 65536 in
theorem w_c3 : (Jvm.Cond.code ({ cls := "com/example/godwit/godwit/model/MessageNumberRange", name := "requireMessageNumber", desc := "(J)V" } : Jvm.MethodName) prog_14_method_2_code (2 : Nat) (Option.none : Option Jvm.ClassFile.FieldType)).before args0 about1 = true := code_word (m := ⟨2, 1⟩) (meth := k2m1) (c := k2c1) (by decide +kernel) rfl rfl rfl (by decide +kernel)
set_option maxRecDepth 65536 in
theorem w_c4 : (Jvm.Cond.code ({ cls := "com/example/godwit/godwit/model/MessageNumberRange", name := "hashCode", desc := "()I" } : Jvm.MethodName) prog_14_method_6_code (1 : Nat) (Option.some Jvm.ClassFile.FieldType.int)).before args0 about1 = true := code_word (m := ⟨2, 3⟩) (meth := k2m3) (c := k2c3) (by decide +kernel) rfl rfl rfl (by decide +kernel)
set_option maxRecDepth 65536 in
theorem w_c5 : (Jvm.Cond.code ({ cls := "java/lang/Long", name := "hashCode", desc := "(J)I" } : Jvm.MethodName) jdk_35_method_36_code (2 : Nat) (Option.some Jvm.ClassFile.FieldType.int)).before args0 about1 = true := code_word (m := ⟨8, 0⟩) (meth := k8m0) (c := k8c0) (by decide +kernel) rfl rfl rfl (by decide +kernel)
set_option maxRecDepth 65536 in
theorem w_c6 : (Jvm.Cond.code ({ cls := "com/example/godwit/godwit/model/MessageNumberRange", name := "equals", desc := "(Ljava/lang/Object;)Z" } : Jvm.MethodName) prog_14_method_5_code (3 : Nat) (Option.some Jvm.ClassFile.FieldType.boolean)).before args0 about1 = true := code_word (m := ⟨2, 2⟩) (meth := k2m2) (c := k2c2) (by decide +kernel) rfl rfl rfl (by decide +kernel)
def codes1 : List Jvm.Cond := [Jvm.Cond.code x code maxLocals ret, Jvm.Cond.code ({ cls := "com/example/godwit/godwit/model/MessageNumberRange", name := "<init>", desc := "(JJ)V" } : Jvm.MethodName) prog_14_method_1_code (5 : Nat) (Option.none : Option Jvm.ClassFile.FieldType), Jvm.Cond.code ({ cls := "java/lang/Object", name := "<init>", desc := "()V" } : Jvm.MethodName) object_method_1_code (1 : Nat) (Option.none : Option Jvm.ClassFile.FieldType), Jvm.Cond.code ({ cls := "com/example/godwit/godwit/model/MessageNumberRange", name := "requireMessageNumber", desc := "(J)V" } : Jvm.MethodName) prog_14_method_2_code (2 : Nat) (Option.none : Option Jvm.ClassFile.FieldType), Jvm.Cond.code ({ cls := "com/example/godwit/godwit/model/MessageNumberRange", name := "hashCode", desc := "()I" } : Jvm.MethodName) prog_14_method_6_code (1 : Nat) (Option.some Jvm.ClassFile.FieldType.int), Jvm.Cond.code ({ cls := "java/lang/Long", name := "hashCode", desc := "(J)I" } : Jvm.MethodName) jdk_35_method_36_code (2 : Nat) (Option.some Jvm.ClassFile.FieldType.int), Jvm.Cond.code ({ cls := "com/example/godwit/godwit/model/MessageNumberRange", name := "equals", desc := "(Ljava/lang/Object;)Z" } : Jvm.MethodName) prog_14_method_5_code (3 : Nat) (Option.some Jvm.ClassFile.FieldType.boolean)]
set_option maxRecDepth 65536 in
theorem codes_eq : words1.filter isCode = codes1 := rfl
theorem w_codes : ∀ c ∈ words1.filter isCode, c.before args0 about1 = true := by
  rw [codes_eq]
  intro c hc
  simp only [codes1, List.mem_cons, List.not_mem_nil, or_false] at hc
  rcases hc with rfl | rfl | rfl | rfl | rfl | rfl | rfl
  · exact w_c0
  · exact w_c1
  · exact w_c2
  · exact w_c3
  · exact w_c4
  · exact w_c5
  · exact w_c6
set_option maxRecDepth 65536 in
theorem w_t1 : (words1.take 24).all (fun c => isCode c || c.before args0 about1) = true := by decide +kernel
set_option maxRecDepth 65536 in
theorem w_t2 : (words1.drop 24).all (fun c => isCode c || c.before args0 about1) = true := by decide +kernel
theorem w_tables : (allAtoms (Jvm.Cond.code x code maxLocals ret :: tables_1)).before args0 about1 = true := by
  rw [allAtoms_all]
  show words1.all (fun c => c.before args0 about1) = true
  refine all_split ?_ w_codes
  rw [← List.take_append_drop 24 words1, List.all_append, w_t1, w_t2]
  rfl
set_option maxRecDepth 65536 in
theorem w_case : (Jvm.Cond.and given_1 narrow_1).before args0 about1 = true := by decide +kernel
theorem w_applies : (headSpec (Jvm.Cond.code x code maxLocals ret :: tables_1) room_1).applies x e0.platform about1 = true :=
  (Spec.applies_iff w_frames).mpr ⟨w_running, w_runnable, w_alone, w_named, w_hears, w_ripe, w_room, w_tables⟩
theorem atStart : AtStart classFile x code maxLocals ret World_1 tables_1 room_1 Calls_1 rest_1 Pre_1 launch0 p0 e0 about1 theMethod args0 below0 :=
  ⟨lists_1, trivial, launch0.admits_env _ _ _, launch0.least_env, fairChoices_fair.cas, fairChoices_fair.clock, w_frames, w_args, w_heap, w_applies, trivial, trivial, w_case⟩
end start1
theorem witness_1 : WitnessClaimed_1 := ⟨start1.p0, start1.e0, start1.about1, start1.theMethod, start1.args0, start1.below0, start1.atStart⟩
end Jvm.Pilot.@@N@@
