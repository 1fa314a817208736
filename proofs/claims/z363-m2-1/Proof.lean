import JvmDerived
import JvmDerived.Pilot.@@N@@Statement
import JvmDerived.Pilot.@@N@@Code
set_option linter.unusedVariables false
set_option linter.unusedSimpArgs false
@@BLOCK:NumsL.lean.txt@@
namespace Jvm.Pilot.@@N@@
open Jvm Jvm.ClassFile Sem Op Lib Jvm.Free Jvm.Stand Jvm.LawKit Jvm.RoadKit Bundle Jvm.Pilot.@@N@@.Jvm.D

section OwnBase
variable {p : Program} {l : Launch} {e : Env} {R : Room} {s : State} {m : MethodId} {args : Array Value} {below : List Frame} {meth : Method} {c : Code} {T T' : State} {locs : List Loc} {cells slots : Nat} {Z : State} {a0 : Array Value} {h h' : Heap} {Q Q' : Option Value → Heap → List Loc → Prop} {P : State → Outcome → Prop} {g g' : JFrame} {pc : Nat} {Ls : Array Slot} {rest : List Value} {a : Addr} {n0 : Nat}
/-- from T, the frame g on top, the body comes to its end, and the end is as P says -/
def own_Go (p : Program) (e : Env) (below : List Frame) (P : State → Outcome → Prop) (T : State) (g : JFrame) : Prop :=
  ∃ s₂ o, Steps p.tables e below (T.setTop g) s₂ ∧ s₂.status = .running ∧ Ended s₂ below o ∧ P s₂ o
/-- it returned; what it returned, the heap and the written places meet Q; no more is made than R allows -/
def own_P (s : State) (R : Room) (Q : Option Value → Heap → List Loc → Prop) (s₂ : State) (o : Outcome) : Prop := ∃ v L, o = .returned v ∧ Q v s₂.heap L ∧ FrameEnd s o s₂ L R.cells R.slots
theorem own_st (h : ∀ t, Steps p.tables e below (T'.setTop g') t → Steps p.tables e below (T.setTop g) t) (G : own_Go p e below P T' g') : own_Go p e below P T g := by
  obtain ⟨s₂, o, h1, r⟩ := G
  exact ⟨s₂, o, h _ h1, r⟩
theorem own_end (X : Stand p l e R s m args below meth c T locs cells slots) (hlk : meth.locks = false) {v : Option Value} (hv : meth.sig.returnType = none → v = none) (hc : cells ≤ R.cells) (hs : slots ≤ R.slots) (hQ : Q v T.heap locs)
    (hr : ∀ fs, (∀ (f : JFrame) (acts : List Action), f.method = m → f.locked = none → f.entered = [] → (doReturn e (T.setTop f) acts v).1 = T.setFrames fs) → Steps p.tables e below (T.setTop g) (T.setFrames fs)) : own_Go p e below (own_P s R Q) T g := by
  obtain ⟨fs, h1, hrun, hended, hW, hsame⟩ := X.leave (v := v) hv hlk
  exact ⟨_, _, hr fs h1, hrun, hended, _, _, rfl, hQ, ⟨_, rfl⟩, hW, hsame.mono hc hs⟩
/-- a method's contract: called with these arguments at the heap h0 it returns, and Q holds -/
def own_Met (l : Launch) (Z : State) (h0 : Heap) (y : MethodName) (bytes : ByteArray) (maxL : Nat) (ret : Option FieldType) (R : Room) (as : Array Value) (Q : Option Value → Heap → List Loc → Prop) : Prop :=
  ∀ ws : List Jvm.Cond, MetFree l y (head1 (Jvm.Cond.code y bytes maxL ret :: ws) R) (fun a U => a = as ∧ Z.Warmed39 U.vm ∧ U.heap = h0) (fun _ _ _ _ _ => True) (fun _ U o U' => ∃ v L, o = .returned v ∧ Q v U'.heap L ∧ FrameEnd U o U' L R.cells R.slots)
theorem own_body {h0 : Heap} {y : MethodName} {bytes : ByteArray} {maxL : Nat} {ret : Option FieldType} {as : Array Value} (hn : plainName y.cls = true) (he : ∀ m : MethodId, entryFrame m as maxL = mkF m 0 Ls [])
    (body : ∀ (p : Program) (e : Env) (s : State) (m : MethodId) (below : List Frame) (meth : Method) (c : Code) (T : State), Stand p l e R s m as below meth c T [] 0 0 → p.tables.exec = Jvm.exec → c.code = bytes → c.maxLocals = maxL → meth.sig.returnType = ret → meth.locks = false → s.vm.findClass y.cls = some m.cls → meth.name = y.name → Z.Warmed39 s.vm → T.heap = h0 → own_Go p e below (own_P s R Q) T (mkF m 0 Ls [])) :
    own_Met l Z h0 y bytes maxL ret R as Q := by
  intro ws
  refine MetFree.of_bodySF (plainFor_of_name hn) hisR ?_
  intro p e s m args below meth c s₁ Bd hml0 hP hK
  obtain ⟨rfl, hZ, hh⟩ := hP
  have e0 : s₁.heap = h0 := by rw [← hh, Bd.state]; rfl
  obtain ⟨s₂, o, h1, r⟩ := body p e s m below meth c s₁ (Stand.of_body Bd) Bd.exec Bd.bytes hml0 Bd.returns (BodyLoose.notSynchronized Bd) (findClass_of_methodNamed Bd.named) (name_of_methodNamed Bd.named Bd.method).1 hZ e0
  exact ⟨s₂, o, castTop (he m) h1, r⟩
theorem own_Met.imp {h0 : Heap} {y : MethodName} {bytes : ByteArray} {maxL : Nat} {ret : Option FieldType} {as : Array Value} (M : own_Met l Z h0 y bytes maxL ret R as Q) (hq : ∀ v h L, Q v h L → Q' v h L) : own_Met l Z h0 y bytes maxL ret R as Q' := by
  intro ws p e ha hc hk s m args below hf happ hP hK
  obtain ⟨n, o, h1, h2, h3, v, L, h4, h5, h6⟩ := M ws p e ha hc hk s m args below hf happ hP hK
  exact ⟨n, o, h1, h2, h3, v, L, h4, hq _ _ _ h5, h6⟩
/-- a static call by its contract -/
theorem own_callS (X : Stand p l e R s m args below meth c T locs cells slots) (hx : p.tables.exec = Jvm.exec) (hZ : Z.Warmed39 s.vm) (e0 : T.heap = h) {own : String} {index : Nat} {y : MethodName} {bytes : ByteArray} {maxL : Nat} {ret : Option FieldType} {rm : Room}
    (hown : s.vm.findClass own = some m.cls) (w1 : (Jvm.Cond.methodLink own index y).before a0 Z = true) (w2 : (Jvm.Cond.static y).before a0 Z = true) (w3 : (Jvm.Cond.initialized y.cls).before a0 Z = true) (w4 : (Jvm.Cond.code y bytes maxL ret).before a0 Z = true)
    (hy : y.cls ≠ "java/lang/invoke/MethodHandle" ∧ y.cls ≠ "java/lang/invoke/VarHandle") {ps : List FieldType} {r : Option FieldType} (hd : parseMethodDescriptor y.desc = some ⟨ps, r⟩)
    {argsL : List Value} (hn : argsL.length = ps.length) (M : own_Met l Z h y bytes maxL ret rm argsL.toArray Q') (W : Nat) (hf : rm.frames + 1 ≤ R.frames) (hl : W + (maxL + 11) + rm.locals ≤ R.locals) (hc : cells + rm.cells ≤ R.cells) (hs : slots + rm.slots ≤ R.slots)
    {st : List Value} (hst : st = argsL.reverse ++ rest) (hsz : Ls.size = c.maxLocals) (hW : (rest.map fun v => v.category).sum ≤ W) (hdg : decode c.code pc = .ok (.invokestatic index, 3))
    (k : ∀ (v : Option Value) (T' : State) (L : List Loc), Q' v T'.heap L → Stand p l e R s m args below meth c T' (locs ++ L) (cells + rm.cells) (slots + rm.slots) → own_Go p e below P T' (mkF m (pc + 3) Ls (v.toList ++ rest))) :
    own_Go p e below P T (mkF m pc Ls st) := by
  subst hst
  obtain ⟨v, _, ⟨T', L', k', n'⟩, -, X', ⟨L, hQ, l1, l2, l3⟩, st⟩ := Jvm.LawKit.callS X hx (y := y) hown (mvT hZ w1) (mvT hZ w2) (mvT hZ w3) (mvT hZ w4) hy (backOf (W := W) (M []) hZ w4 w3 hf hl) (g := mkF m pc Ls (argsL.reverse ++ rest)) rfl hsz (argsL := argsL) (rest := rest) (lenOf hd hn) rfl (by show 2 * 0 + _ ≤ _; omega) hdg (fun _ _ => ⟨rfl, e0, hc, hs⟩)
  dsimp only [Pt.U, Pt.locs, Pt.cells, Pt.slots] at X' l1 l2 l3 st hQ
  subst l1 l2 l3
  exact own_st st (k v T' L hQ X')
/-- a constructor by its contract -/
theorem own_callN (X : Stand p l e R s m args below meth c T locs cells slots) (hx : p.tables.exec = Jvm.exec) (hZ : Z.Warmed39 s.vm) (e0 : T.heap = h) {own : String} {index : Nat} {y : MethodName} {bytes : ByteArray} {maxL : Nat} {rm : Room} (hy1 : y.name = "<init>")
    (hown : s.vm.findClass own = some m.cls) (w1 : (Jvm.Cond.methodLink own index y).before a0 Z = true) (w2 : (Jvm.Cond.instanceMethod y).before a0 Z = true) (w3 : (Jvm.Cond.initialized y.cls).before a0 Z = true) (w4 : (Jvm.Cond.code y bytes maxL none).before a0 Z = true)
    (hy : y.cls ≠ "java/lang/invoke/MethodHandle" ∧ y.cls ≠ "java/lang/invoke/VarHandle") {ps : List FieldType} {r : Option FieldType} (hd : parseMethodDescriptor y.desc = some ⟨ps, r⟩)
    {argsL : List Value} (hn : argsL.length = ps.length) (M : own_Met l Z h y bytes maxL none rm (.ref a :: argsL).toArray Q') (W : Nat) (hf : rm.frames + 1 ≤ R.frames) (hl : W + (maxL + 11) + rm.locals ≤ R.locals) (hc : cells + rm.cells ≤ R.cells) (hs : slots + rm.slots ≤ R.slots)
    {st : List Value} (hst : st = argsL.reverse ++ .ref a :: rest) (hsz : Ls.size = c.maxLocals) (hW : (rest.map fun v => v.category).sum ≤ W) (hdg : decode c.code pc = .ok (.invokespecial index, 3))
    (k : ∀ (v : Option Value) (T' : State) (L : List Loc), Q' v T'.heap L → Stand p l e R s m args below meth c T' (locs ++ L) (cells + rm.cells) (slots + rm.slots) → own_Go p e below P T' (mkF m (pc + 3) Ls (v.toList ++ rest))) :
    own_Go p e below P T (mkF m pc Ls st) := by
  subst hst
  obtain ⟨v, _, ⟨T', L', k', n'⟩, -, X', ⟨L, hQ, l1, l2, l3⟩, st⟩ := X.specialBack hx (y := y) hy1 hown (mvT hZ w1) (mvT hZ w2) (mvT hZ w4) hy (backOf (W := W) (M []) hZ w4 w3 hf hl) (g := mkF m pc Ls (argsL.reverse ++ .ref a :: rest)) rfl hsz (Steps.refl _) (a := a) (argsL := argsL) (rest := rest) (lenOf hd hn) rfl (by show 2 * 0 + _ ≤ _; omega) hdg (fun _ _ => ⟨rfl, e0, hc, hs⟩)
  dsimp only [Pt.U, Pt.locs, Pt.cells, Pt.slots] at X' l1 l2 l3 st hQ
  subst l1 l2 l3
  exact own_st (fun t q => st.trans q) (k v T' L hQ X')
/-- an instance method by its contract -/
theorem own_callV (X : Stand p l e R s m args below meth c T locs cells slots) (hx : p.tables.exec = Jvm.exec) (hZ : Z.Warmed39 s.vm) (e0 : T.heap = h) {own C : String} {index : Nat} {y z : MethodName} {bytes : ByteArray} {maxL : Nat} {ret : Option FieldType} {rm : Room}
    (hown : s.vm.findClass own = some m.cls) (w1 : (Jvm.Cond.methodLink own index y).before a0 Z = true) (w2 : (Jvm.Cond.declares y).before a0 Z = true) (w5 : (Jvm.Cond.selects y.cls y y).before a0 Z = true) (w6 : (Jvm.Cond.selects C y z).before a0 Z = true) (w7 : (Jvm.Cond.instanceMethod z).before a0 Z = true) (w3 : (Jvm.Cond.initialized z.cls).before a0 Z = true) (w4 : (Jvm.Cond.code z bytes maxL ret).before a0 Z = true)
    (hy : y.cls ≠ "java/lang/invoke/MethodHandle" ∧ y.cls ≠ "java/lang/invoke/VarHandle") {ps : List FieldType} {r : Option FieldType} (hd : parseMethodDescriptor y.desc = some ⟨ps, r⟩) (E : Exa Z h a C)
    {argsL : List Value} (hn : argsL.length = ps.length) (M : own_Met l Z h z bytes maxL ret rm (.ref a :: argsL).toArray Q') (W : Nat) (hf : rm.frames + 1 ≤ R.frames) (hl : W + (maxL + 11) + rm.locals ≤ R.locals) (hc : cells + rm.cells ≤ R.cells) (hs : slots + rm.slots ≤ R.slots)
    {st : List Value} (hst : st = argsL.reverse ++ .ref a :: rest) (hsz : Ls.size = c.maxLocals) (hW : (rest.map fun v => v.category).sum ≤ W) (hdg : decode c.code pc = .ok (.invokevirtual index, 3))
    (k : ∀ (v : Option Value) (T' : State) (L : List Loc), Q' v T'.heap L → Stand p l e R s m args below meth c T' (locs ++ L) (cells + rm.cells) (slots + rm.slots) → own_Go p e below P T' (mkF m (pc + 3) Ls (v.toList ++ rest))) :
    own_Go p e below P T (mkF m pc Ls st) := by
  subst hst
  obtain ⟨cq, kq, qa, qb, qc⟩ := isOf hZ e0 E
  obtain ⟨v, _, ⟨T', L', k', n'⟩, -, X', ⟨L, hQ, l1, l2, l3⟩, st⟩ := X.virtualBack hx (y := y) (z := z) hown (mvT hZ w1) (mvT hZ w2) (notFace_of_selects (args := #[]) (mvT hZ w5)) (mvT hZ w6) (mvT hZ w7) hy (backOf (W := W) (M []) hZ w4 w3 hf hl) qa qc (g := mkF m pc Ls (argsL.reverse ++ .ref a :: rest)) rfl hsz (Steps.refl _) (argsL := argsL) (rest := rest) (lenOf hd hn) rfl (by show 2 * 0 + _ ≤ _; omega) hdg (fun _ _ => ⟨rfl, e0, hc, hs⟩)
  dsimp only [Pt.U, Pt.locs, Pt.cells, Pt.slots] at X' l1 l2 l3 st hQ
  subst l1 l2 l3
  exact own_st (fun t q => st.trans q) (k v T' L hQ X')
/-- a private instance method by its contract (no 'selects' word is laid for it) -/
theorem own_callP (X : Stand p l e R s m args below meth c T locs cells slots) (hx : p.tables.exec = Jvm.exec) (hZ : Z.Warmed39 s.vm) (e0 : T.heap = h) {own C : String} {index kk : Nat} {y : MethodName} {bytes : ByteArray} {maxL : Nat} {ret : Option FieldType} {rm : Room}
    (hown : s.vm.findClass own = some m.cls) (w1 : (Jvm.Cond.methodLink own index y).before a0 Z = true) (w2 : (Jvm.Cond.instanceMethod y).before a0 Z = true) (wp : (Jvm.Cond.privateMethod y).before a0 Z = true) (wi : (Jvm.Cond.instantiable y.cls kk).before a0 Z = true) (w3 : (Jvm.Cond.initialized y.cls).before a0 Z = true) (w4 : (Jvm.Cond.code y bytes maxL ret).before a0 Z = true)
    (hy : y.cls ≠ "java/lang/invoke/MethodHandle" ∧ y.cls ≠ "java/lang/invoke/VarHandle") {ps : List FieldType} {r : Option FieldType} (hd : parseMethodDescriptor y.desc = some ⟨ps, r⟩) (E : Exa Z h a C)
    {argsL : List Value} (hn : argsL.length = ps.length) (M : own_Met l Z h y bytes maxL ret rm (.ref a :: argsL).toArray Q') (W : Nat) (hf : rm.frames + 1 ≤ R.frames) (hl : W + (maxL + 11) + rm.locals ≤ R.locals) (hc : cells + rm.cells ≤ R.cells) (hs : slots + rm.slots ≤ R.slots)
    {st : List Value} (hst : st = argsL.reverse ++ .ref a :: rest) (hsz : Ls.size = c.maxLocals) (hW : (rest.map fun v => v.category).sum ≤ W) (hdg : decode c.code pc = .ok (.invokevirtual index, 3))
    (k : ∀ (v : Option Value) (T' : State) (L : List Loc), Q' v T'.heap L → Stand p l e R s m args below meth c T' (locs ++ L) (cells + rm.cells) (slots + rm.slots) → own_Go p e below P T' (mkF m (pc + 3) Ls (v.toList ++ rest))) :
    own_Go p e below P T (mkF m pc Ls st) := by
  subst hst
  obtain ⟨cq, q1, q2⟩ := E.cell
  have hP : s.PrivateAt y := Cond.privateMethod_at (mvP hZ wp (args := #[]))
  obtain ⟨c2, k2, i1, i2, -, i4, -⟩ := Cond.instantiable_spec (mvT (args := #[]) hZ wi)
  have hni : k2.isInterface = false := by
    cases hb : k2.isInterface with
    | false => rfl
    | true => rw [hb] at i4; cases i4
  have hsel : (Jvm.Cond.selects y.cls y y).before args s = true := selects_self_of_private i1 i2 hni hP (mvT hZ w2) hy
  obtain ⟨v, _, ⟨T', L', k', n'⟩, -, X', ⟨L, hQ, l1, l2, l3⟩, st⟩ := X.privateBack hx (y := y) hown (mvT hZ w1) (mvT hZ w2) hsel hP (mvT hZ w4) hy (backOf (W := W) (M []) hZ w4 w3 hf hl) (g := mkF m pc Ls (argsL.reverse ++ .ref a :: rest)) rfl hsz (Steps.refl _) (a := a) (by rw [e0]; exact q1) q2 (argsL := argsL) (rest := rest) (lenOf hd hn) rfl (by show 2 * 0 + _ ≤ _; omega) hdg (fun _ _ => ⟨rfl, e0, hc, hs⟩)
  dsimp only [Pt.U, Pt.locs, Pt.cells, Pt.slots] at X' l1 l2 l3 st hQ
  subst l1 l2 l3
  exact own_st (fun t q => st.trans q) (k v T' L hQ X')
/-- Object's constructor -/
theorem own_initO (X : Stand p l e R s m args below meth c T locs cells slots) (hx : p.tables.exec = Jvm.exec) (hZ : Z.Warmed39 s.vm) (e0 : T.heap = h) {own : String} {idx : Nat} (hown : s.vm.findClass own = some m.cls) (w1 : (Jvm.Cond.methodLink own idx Lib.objectInit).before a0 Z = true) (w2 : (Jvm.Cond.instanceMethod Lib.objectInit).before a0 Z = true)
    (w3 : (Jvm.Cond.code Lib.objectInit ⟨#[0xb1]⟩ 1 none).before a0 Z = true) (hsz : Ls.size = c.maxLocals) (hd : decode c.code pc = .ok (.invokespecial idx, 3)) (hf : 1 ≤ R.frames) (W : Nat) (hW : (rest.map fun v => v.category).sum ≤ W) (hl : W + 12 ≤ R.locals)
    (k : ∀ T' : State, Stand p l e R s m args below meth c T' locs cells slots → T'.heap = h → own_Go p e below P T' (mkF m (pc + 3) Ls rest)) : own_Go p e below P T (mkF m pc Ls (.ref a :: rest)) := by
  obtain ⟨T', X', e', st⟩ := initO X hx hZ hown w1 w2 w3 e0 (g := mkF m pc Ls (.ref a :: rest)) rfl hsz rfl hd hf (W := W) (by show 2 * 0 + _ ≤ _; omega) hl
  exact own_st st (k T' X' e')
theorem own_getF (X : Stand p l e R s m args below meth c T locs cells slots) (hx : p.tables.exec = Jvm.exec) (hZ : Z.Warmed39 s.vm) (e0 : T.heap = h) {own C n d : String} {index : Nat} (hown : s.vm.findClass own = some m.cls) (w : (Jvm.Cond.fieldLink own index C n d).before a0 Z = true)
    {v : Value} (F : Fld Z h a C n d v) (hd : decode c.code pc = .ok (.getfield index, 3))
    (k : ∀ T' : State, Stand p l e R s m args below meth c T' locs cells slots → T'.heap = h → own_Go p e below P T' (mkF m (pc + 3) Ls (v :: rest))) : own_Go p e below P T (mkF m pc Ls (.ref a :: rest)) := by
  obtain ⟨T', X', e', st⟩ := getF X hx hZ hown (host := "") (Or.inl w) Via.refl e0 F (g := mkF m pc Ls (.ref a :: rest)) rfl rfl hd
  exact own_st st (k T' X' e')
theorem own_putF (X : Stand p l e R s m args below meth c T locs cells slots) (hx : p.tables.exec = Jvm.exec) (hZ : Z.Warmed39 s.vm) (e0 : T.heap = h) {own C O n d : String} {index kk : Nat} {ty : FieldType} (hown : s.vm.findClass own = some m.cls) (w : (Jvm.Cond.fieldLink own index O n d).before a0 Z = true)
    {v old : Value} (F : Fld Z h a O n d old) (E : Exa Z h a C) (L : (Jvm.Cond.lays C O n d).before a0 Z = true ∨ ((Jvm.Cond.laysFinal C O n d).before a0 Z = true ∧ own = O ∧ meth.name = "<init>")) (wi : (Jvm.Cond.instantiable C kk).before a0 Z = true)
    (hty : parseFieldDescriptor d = some ty) (hn : narrow ty v = v) (hf : fits ty v = true) (N : Fr n0 locs) (ga : n0 ≤ a) (hd : decode c.code pc = .ok (.putfield index, 3))
    (k : ∀ (T' : State) (h' : Heap), Stand p l e R s m args below meth c T' (locs ++ [⟨a, Jvm.RoadKit.slotOf Z O n d⟩]) cells slots → T'.heap = h' → Wr h h' a (Jvm.RoadKit.slotOf Z O n d) v → Fr n0 (locs ++ [⟨a, Jvm.RoadKit.slotOf Z O n d⟩]) → own_Go p e below P T' (mkF m (pc + 3) Ls rest)) :
    own_Go p e below P T (mkF m pc Ls (v :: .ref a :: rest)) := by
  obtain ⟨T', h', X', e', W', st⟩ := putF X hx hZ hown (host := "") (Or.inl w) Via.refl e0 F E L wi hty hn hf (g := mkF m pc Ls (v :: .ref a :: rest)) rfl rfl hd
  exact own_st st (k T' h' X' e' W' (Fr.snoc X' N ga))
theorem own_new (X : Stand p l e R s m args below meth c T locs cells slots) (hx : p.tables.exec = Jvm.exec) (hZ : Z.Warmed39 s.vm) (e0 : T.heap = h) {own C : String} {index n : Nat} (hown : s.vm.findClass own = some m.cls) (w : (Jvm.Cond.classLink own index C).before a0 Z = true) (wi : (Jvm.Cond.instantiable C n).before a0 Z = true) (wz : (Jvm.Cond.initialized C).before a0 Z = true)
    (hd : decode c.code pc = .ok (.new index, 3)) (hc : cells + 1 ≤ R.cells) (hl : slots + n ≤ R.slots)
    (k : ∀ (T' : State) (h' : Heap) (a : Addr), Stand p l e R s m args below meth c T' locs (cells + 1) (slots + n) → T'.heap = h' → Ext h h' → h.size = a → Exa Z h' a C → (∀ {O nm d : String} {ty : FieldType}, Laid Z a0 C O nm d → parseFieldDescriptor d = some ty → Fld Z h' a O nm d (defaultValue ty)) → own_Go p e below P T' (mkF m (pc + 3) Ls (.ref a :: rest))) :
    own_Go p e below P T (mkF m pc Ls rest) := by
  obtain ⟨T', h', X', e', E', A', D', -, st⟩ := newO X hx hZ hown w wi wz e0 (g := mkF m pc Ls rest) rfl hd hc hl
  exact own_st st (k T' h' h.size X' e' E' rfl A' D')
theorem own_inst (X : Stand p l e R s m args below meth c T locs cells slots) (hx : p.tables.exec = Jvm.exec) (hZ : Z.Warmed39 s.vm) (e0 : T.heap = h) {own K : String} {index : Nat} (hown : s.vm.findClass own = some m.cls) (w : (Jvm.Cond.classLink own index K).before a0 Z = true) (F : Ins Z h a K true) (hd : decode c.code pc = .ok (.instanceof index, 3))
    (k : ∀ T' : State, Stand p l e R s m args below meth c T' locs cells slots → T'.heap = h → own_Go p e below P T' (mkF m (pc + 3) Ls (.int 1 :: rest))) : own_Go p e below P T (mkF m pc Ls (.ref a :: rest)) := by
  obtain ⟨T', X', e', st⟩ := instY X hx hZ hown w e0 F (g := mkF m pc Ls (.ref a :: rest)) rfl rfl hd
  exact own_st st (k T' X' e')
theorem own_cast (X : Stand p l e R s m args below meth c T locs cells slots) (hx : p.tables.exec = Jvm.exec) (hZ : Z.Warmed39 s.vm) (e0 : T.heap = h) {own K : String} {index : Nat} (hown : s.vm.findClass own = some m.cls) (w : (Jvm.Cond.classLink own index K).before a0 Z = true) (F : Ins Z h a K true) (hd : decode c.code pc = .ok (.checkcast index, 3))
    (k : ∀ T' : State, Stand p l e R s m args below meth c T' locs cells slots → T'.heap = h → own_Go p e below P T' (mkF m (pc + 3) Ls (.ref a :: rest))) : own_Go p e below P T (mkF m pc Ls (.ref a :: rest)) := by
  obtain ⟨T', X', e', st⟩ := castY X hx hZ hown w e0 F (g := mkF m pc Ls (.ref a :: rest)) rfl rfl hd
  exact own_st st (k T' X' e')
/-- an array of n places; place j holds f j -/
def own_A (Z : State) (h : Heap) (a : Addr) (ty : FieldType) (n : Nat) (f : Nat → Value) : Prop := ∃ c : Cell, Arr Z h a c ty ∧ c.slots.size = n ∧ ∀ j, j < n → c.slots[j]? = some (f j)
def own_upd {α : Type} (f : Nat → α) (i : Nat) (x : α) : Nat → α := fun j => if j = i then x else f j
/-- the int j names the place i of n -/
abbrev own_ix (j : Int32) (i n : Nat) : Prop := ¬ j < 0 ∧ j.toNatClampNeg = i ∧ i < n
variable {ty : FieldType} {n : Nat} {f : Nat → Value} {ws : List Addr}
theorem own_A.lt (A : own_A Z h a ty n f) : a < h.size := by obtain ⟨c, A, -⟩ := A; exact A.lt
theorem own_A.ext (A : own_A Z h a ty n f) (E : Ext h h') : own_A Z h' a ty n f := by obtain ⟨c, A, r⟩ := A; exact ⟨c, A.ext E, r⟩
theorem own_A.keep (A : own_A Z h a ty n f) (K : Keep h h' ws) (q : a ∉ ws) : own_A Z h' a ty n f := by obtain ⟨c, A, r⟩ := A; exact ⟨c, ⟨K.2.1 a c A.1 q, A.2⟩, r⟩
theorem own_A.congr {f' : Nat → Value} (A : own_A Z h a ty n f) (q : ∀ j, j < n → f j = f' j) : own_A Z h a ty n f' := by obtain ⟨c, A, r, k⟩ := A; exact ⟨c, A, r, fun j hj => by rw [← q j hj]; exact k j hj⟩
theorem own_A.set {i : Nat} {v : Value} (A : own_A Z h a ty n f) (W : Wr h h' a i v) : own_A Z h' a ty n (own_upd f i v) := by
  obtain ⟨c, A, S, H⟩ := A
  refine ⟨_, A.same W, by rw [sz_set]; exact S, fun j hj => ?_⟩
  by_cases q : j = i
  · subst q
    have : j < c.slots.size := by rw [S]; exact hj
    simp [Cell.setSlot, own_upd, this]
  · have q' : i ≠ j := fun z => q z.symm
    simp only [Cell.setSlot, own_upd, if_neg q]
    rw [Array.getElem?_setIfInBounds_ne q']
    exact H j hj
theorem own_ix.inb {j : Int32} {i : Nat} {cl : Cell} (x : own_ix j i n) (S : cl.slots.size = n) : ¬ (j < 0 ∨ cl.slots.size ≤ j.toNatClampNeg) := by
  obtain ⟨x1, x2, x3⟩ := x
  rw [S, x2]
  exact fun q => q.elim x1 (fun q => absurd q (Nat.not_le.mpr x3))
theorem own_alen (X : Stand p l e R s m args below meth c T locs cells slots) (hx : p.tables.exec = Jvm.exec) (hZ : Z.Warmed39 s.vm) (e0 : T.heap = h) (A : own_A Z h a ty n f) {z : Int32} (hz : n.toInt32 = z) (hd : decode c.code pc = .ok (.arraylength, 1))
    (k : own_Go p e below P T (mkF m (pc + 1) Ls (.int z :: rest))) : own_Go p e below P T (mkF m pc Ls (.ref a :: rest)) := by
  obtain ⟨cl, A, S, H⟩ := A
  subst S hz
  exact own_st (fun t q => X.arraylength hx (cell := cl) (by rw [e0]; exact A.1) (State.isArrayOf_alike hZ.alike A.2.1) (g := mkF m pc Ls (.ref a :: rest)) rfl rfl hd t q) k
abbrev own_IA (Z : State) (h : Heap) (a : Addr) (n : Nat) (g : Nat → Int32) : Prop := own_A Z h a .int n (fun j => .int (g j))
abbrev own_BA (Z : State) (h : Heap) (a : Addr) (n : Nat) (g : Nat → Int32) : Prop := own_A Z h a .byte n (fun j => .int (g j))
abbrev own_JA (Z : State) (h : Heap) (a : Addr) (n : Nat) (g : Nat → Int64) : Prop := own_A Z h a .long n (fun j => .long (g j))
theorem own_updI (g : Nat → Int32) (i : Nat) (x : Int32) : own_upd (fun j => Value.int (g j)) i (.int x) = fun j => Value.int (own_upd g i x j) := funext fun j => by unfold own_upd; split <;> rfl
theorem own_updJ (g : Nat → Int64) (i : Nat) (x : Int64) : own_upd (fun j => Value.long (g j)) i (.long x) = fun j => Value.long (own_upd g i x j) := funext fun j => by unfold own_upd; split <;> rfl
theorem own_ldI (X : Stand p l e R s m args below meth c T locs cells slots) (hx : p.tables.exec = Jvm.exec) (hZ : Z.Warmed39 s.vm) (e0 : T.heap = h) {g : Nat → Int32} (A : own_IA Z h a n g) {j : Int32} {i : Nat} (ix : own_ix j i n) {x : Int32} (hv : g i = x) (hd : decode c.code pc = .ok (.iaload, 1))
    (k : own_Go p e below P T (mkF m (pc + 1) Ls (.int x :: rest))) : own_Go p e below P T (mkF m pc Ls (.int j :: .ref a :: rest)) := by
  obtain ⟨cl, A, S, H⟩ := A
  subst hv
  exact own_st (fun t q => X.iaload hx (j := j) (v := .int (g i)) (by rw [e0]; exact A.1) (State.isArrayOf_alike hZ.alike A.2.1) A.2.2 (ix.inb S) (by rw [ix.2.1]; exact H i ix.2.2) (g := mkF m pc Ls (.int j :: .ref a :: rest)) rfl rfl hd t q) k
theorem own_ldB (X : Stand p l e R s m args below meth c T locs cells slots) (hx : p.tables.exec = Jvm.exec) (hZ : Z.Warmed39 s.vm) (e0 : T.heap = h) {g : Nat → Int32} (A : own_BA Z h a n g) {j : Int32} {i : Nat} (ix : own_ix j i n) {x : Int32} (hv : g i = x) (hd : decode c.code pc = .ok (.baload, 1))
    (k : own_Go p e below P T (mkF m (pc + 1) Ls (.int x :: rest))) : own_Go p e below P T (mkF m pc Ls (.int j :: .ref a :: rest)) := by
  obtain ⟨cl, A, S, H⟩ := A
  subst hv
  exact own_st (fun t q => X.baloadBytes hx (j := j) (v := .int (g i)) (by rw [e0]; exact A.1) (State.isArrayOf_alike hZ.alike A.2.1) A.2.2 (ix.inb S) (by rw [ix.2.1]; exact H i ix.2.2) (g := mkF m pc Ls (.int j :: .ref a :: rest)) rfl rfl hd t q) k
theorem own_ldJ (X : Stand p l e R s m args below meth c T locs cells slots) (hx : p.tables.exec = Jvm.exec) (hZ : Z.Warmed39 s.vm) (e0 : T.heap = h) {g : Nat → Int64} (A : own_JA Z h a n g) {j : Int32} {i : Nat} (ix : own_ix j i n) {x : Int64} (hv : g i = x) (hd : decode c.code pc = .ok (.laload, 1))
    (k : own_Go p e below P T (mkF m (pc + 1) Ls (.long x :: rest))) : own_Go p e below P T (mkF m pc Ls (.int j :: .ref a :: rest)) := by
  obtain ⟨cl, A, S, H⟩ := A
  subst hv
  exact own_st (fun t q => X.laload hx (j := j) (v := .long (g i)) (by rw [e0]; exact A.1) (State.isArrayOf_alike hZ.alike A.2.1) A.2.2 (ix.inb S) (by rw [ix.2.1]; exact H i ix.2.2) (g := mkF m pc Ls (.int j :: .ref a :: rest)) rfl rfl hd t q) k
theorem own_stI (X : Stand p l e R s m args below meth c T locs cells slots) (hx : p.tables.exec = Jvm.exec) (hZ : Z.Warmed39 s.vm) (e0 : T.heap = h) {g : Nat → Int32} (A : own_IA Z h a n g) {j : Int32} {x : Int32} {i : Nat} (ix : own_ix j i n) (N : Fr n0 locs) (ga : n0 ≤ a) (hd : decode c.code pc = .ok (.iastore, 1))
    (k : ∀ (T' : State) (h' : Heap), Stand p l e R s m args below meth c T' (locs ++ [⟨a, j.toNatClampNeg⟩]) cells slots → T'.heap = h' → own_IA Z h' a n (own_upd g i x) → Keep h h' [a] → Fr n0 (locs ++ [⟨a, j.toNatClampNeg⟩]) → own_Go p e below P T' (mkF m (pc + 1) Ls rest)) :
    own_Go p e below P T (mkF m pc Ls (.int x :: .int j :: .ref a :: rest)) := by
  obtain ⟨cl, A1, S, H⟩ := A
  obtain ⟨T', h', X', e', W', st⟩ := stI X hx hZ e0 A1 (j := j) (x := x) (ix.inb S) (g := mkF m pc Ls (.int x :: .int j :: .ref a :: rest)) rfl rfl hd
  have V := own_A.set ⟨cl, A1, S, H⟩ W'
  rw [ix.2.1] at V
  have V' : own_IA Z h' a n (own_upd g i x) := by rw [own_IA, ← own_updI]; exact V
  exact own_st st (k T' h' X' e' V' (Keep.of_wr W') (Fr.snoc X' N ga))
theorem own_stB (X : Stand p l e R s m args below meth c T locs cells slots) (hx : p.tables.exec = Jvm.exec) (hZ : Z.Warmed39 s.vm) (e0 : T.heap = h) {g : Nat → Int32} (A : own_BA Z h a n g) {j : Int32} {x : Int32} {i : Nat} (ix : own_ix j i n) (N : Fr n0 locs) (ga : n0 ≤ a) (hd : decode c.code pc = .ok (.bastore, 1))
    (k : ∀ (T' : State) (h' : Heap), Stand p l e R s m args below meth c T' (locs ++ [⟨a, j.toNatClampNeg⟩]) cells slots → T'.heap = h' → own_BA Z h' a n (own_upd g i x.toInt8.toInt32) → Keep h h' [a] → Fr n0 (locs ++ [⟨a, j.toNatClampNeg⟩]) → own_Go p e below P T' (mkF m (pc + 1) Ls rest)) :
    own_Go p e below P T (mkF m pc Ls (.int x :: .int j :: .ref a :: rest)) := by
  obtain ⟨cl, A1, S, H⟩ := A
  obtain ⟨T', h', X', e', W', st⟩ := stB X hx hZ e0 A1 (j := j) (x := x) (ix.inb S) (g := mkF m pc Ls (.int x :: .int j :: .ref a :: rest)) rfl rfl hd
  have V := own_A.set ⟨cl, A1, S, H⟩ W'
  rw [ix.2.1] at V
  have V' : own_BA Z h' a n (own_upd g i x.toInt8.toInt32) := by rw [own_BA, ← own_updI]; exact V
  exact own_st st (k T' h' X' e' V' (Keep.of_wr W') (Fr.snoc X' N ga))
theorem own_stJ (X : Stand p l e R s m args below meth c T locs cells slots) (hx : p.tables.exec = Jvm.exec) (hZ : Z.Warmed39 s.vm) (e0 : T.heap = h) {g : Nat → Int64} (A : own_JA Z h a n g) {j : Int32} {x : Int64} {i : Nat} (ix : own_ix j i n) (N : Fr n0 locs) (ga : n0 ≤ a) (hd : decode c.code pc = .ok (.lastore, 1))
    (k : ∀ (T' : State) (h' : Heap), Stand p l e R s m args below meth c T' (locs ++ [⟨a, j.toNatClampNeg⟩]) cells slots → T'.heap = h' → own_JA Z h' a n (own_upd g i x) → Keep h h' [a] → Fr n0 (locs ++ [⟨a, j.toNatClampNeg⟩]) → own_Go p e below P T' (mkF m (pc + 1) Ls rest)) :
    own_Go p e below P T (mkF m pc Ls (.long x :: .int j :: .ref a :: rest)) := by
  obtain ⟨cl, A1, S, H⟩ := A
  obtain ⟨T', h', X', e', W', st⟩ := stJ X hx hZ e0 A1 (j := j) (x := x) (ix.inb S) (g := mkF m pc Ls (.long x :: .int j :: .ref a :: rest)) rfl rfl hd
  have V := own_A.set ⟨cl, A1, S, H⟩ W'
  rw [ix.2.1] at V
  have V' : own_JA Z h' a n (own_upd g i x) := by rw [own_JA, ← own_updJ]; exact V
  exact own_st st (k T' h' X' e' V' (Keep.of_wr W') (Fr.snoc X' N ga))
theorem own_newP (X : Stand p l e R s m args below meth c T locs cells slots) (hx : p.tables.exec = Jvm.exec) (hZ : Z.Warmed39 s.vm) (e0 : T.heap = h) {aty : ArrayType} (w : (Jvm.Cond.arrayClass (newarray.typeOf aty)).before a0 Z = true) (hd : decode c.code pc = .ok (.newarray aty, 2)) {z : Int32} (hz0 : ¬ z < 0) (n : Nat) (hz : z.toNatClampNeg = n) (hb : n * 8 ≤ 536870912) (hc : cells + 1 ≤ R.cells) (hl : slots + n ≤ R.slots)
    (k : ∀ (T' : State) (h' : Heap) (a : Addr), Stand p l e R s m args below meth c T' locs (cells + 1) (slots + n) → T'.heap = h' → Ext h h' → h.size = a → own_A Z h' a (newarray.typeOf aty) n (fun _ => defaultValue (newarray.typeOf aty)) → own_Go p e below P T' (mkF m (pc + 2) Ls (.ref a :: rest))) :
    own_Go p e below P T (mkF m pc Ls (.int z :: rest)) := by
  obtain ⟨T', h', cA, X', e', E', A', st⟩ := newP X hx hZ w e0 (g := mkF m pc Ls (.int z :: rest)) rfl hd rfl hz0 (cap := n) (Nat.le_of_eq hz) hb hc hl
  refine own_st st (k T' h' h.size X' e' E' rfl ⟨_, A', by rw [sz_new]; exact hz, fun j hj => ?_⟩)
  simp [newA, hz, hj]
theorem own_retI (X : Stand p l e R s m args below meth c T locs cells slots) (hx : p.tables.exec = Jvm.exec) (hlk : meth.locks = false) (hret : meth.sig.returnType = some .int) (hc : cells ≤ R.cells) (hs : slots ≤ R.slots) {z : Int32} (hd : decode c.code pc = .ok (.ireturn, 1)) (hQ : Q (some (.int z)) T.heap locs) : own_Go p e below (own_P s R Q) T (mkF m pc Ls (.int z :: rest)) :=
  own_end X hlk (fun q => by rw [hret] at q; cases q) hc hs hQ (fun fs hr => retOut X hx hret rfl (Or.inl ⟨rfl, Or.inl rfl, z, rfl⟩) hd hr)
theorem own_retZ (X : Stand p l e R s m args below meth c T locs cells slots) (hx : p.tables.exec = Jvm.exec) (hlk : meth.locks = false) (hret : meth.sig.returnType = some .boolean) (hc : cells ≤ R.cells) (hs : slots ≤ R.slots) {z : Int32} (hz : z = 1 ∨ z = 0) (hd : decode c.code pc = .ok (.ireturn, 1)) (hQ : Q (some (.int z)) T.heap locs) : own_Go p e below (own_P s R Q) T (mkF m pc Ls (.int z :: rest)) :=
  own_end X hlk (fun q => by rw [hret] at q; cases q) hc hs hQ (fun fs hr => retOut X hx hret (by rcases hz with rfl | rfl <;> rfl) (Or.inl ⟨rfl, Or.inr (Or.inl rfl), z, rfl⟩) hd hr)
theorem own_retJ (X : Stand p l e R s m args below meth c T locs cells slots) (hx : p.tables.exec = Jvm.exec) (hlk : meth.locks = false) (hret : meth.sig.returnType = some .long) (hc : cells ≤ R.cells) (hs : slots ≤ R.slots) {z : Int64} (hd : decode c.code pc = .ok (.lreturn, 1)) (hQ : Q (some (.long z)) T.heap locs) : own_Go p e below (own_P s R Q) T (mkF m pc Ls (.long z :: rest)) :=
  own_end X hlk (fun q => by rw [hret] at q; cases q) hc hs hQ (fun fs hr => retOut X hx hret rfl (Or.inr (Or.inl ⟨rfl, rfl, z, rfl⟩)) hd hr)
theorem own_retV (X : Stand p l e R s m args below meth c T locs cells slots) (hx : p.tables.exec = Jvm.exec) (hlk : meth.locks = false) (hret : meth.sig.returnType = none) (hc : cells ≤ R.cells) (hs : slots ≤ R.slots) (hd : decode c.code pc = .ok (.return_, 1)) (hQ : Q none T.heap locs) : own_Go p e below (own_P s R Q) T (mkF m pc Ls []) :=
  own_end X hlk (fun _ => rfl) hc hs hQ (fun fs hr => X.returnOut hx hret hd hr)
end OwnBase

section OwnLists
variable {Z : State} {h : Heap} {a : Addr} {n : Nat}
/-- the int that the list holds at the place that i names -/
def own_g (la : List Int32) (i : Int32) : Int32 := la.getD i.toNatClampNeg 0
def own_gJ (ll : List Int64) (i : Int32) : Int64 := ll.getD i.toNatClampNeg 0
def own_u (la : List Int32) (i x : Int32) : List Int32 := la.set i.toNatClampNeg x
def own_uJ (ll : List Int64) (i : Int32) (x : Int64) : List Int64 := ll.set i.toNatClampNeg x
abbrev own_LI (Z : State) (h : Heap) (a : Addr) (n : Nat) (la : List Int32) : Prop := own_IA Z h a n (fun j => la.getD j 0)
abbrev own_LJ (Z : State) (h : Heap) (a : Addr) (n : Nat) (ll : List Int64) : Prop := own_JA Z h a n (fun j => ll.getD j 0)
abbrev own_in (x : Int32) : Prop := own_ix x x.toNatClampNeg 5
theorem own_in.big {x : Int32} (q : own_in x) : own_ix x x.toNatClampNeg 64 := ⟨q.1, rfl, Nat.lt_of_lt_of_le q.2.2 (by decide)⟩
theorem own_set_get {α : Type} (la : List α) (i : Nat) (x d : α) (hi : i < la.length) (j : Nat) : own_upd (fun j => la.getD j d) i x j = (la.set i x).getD j d := by
  unfold own_upd
  by_cases q : j = i
  · subst q
    simp [List.getD_eq_getElem?_getD, hi]
  · have q' : i ≠ j := fun z => q z.symm
    simp [List.getD_eq_getElem?_getD, List.getElem?_set_ne q', q]
theorem own_LI_set {la : List Int32} {i x : Int32} (A : own_IA Z h a n (own_upd (fun j => la.getD j 0) i.toNatClampNeg x)) (hi : i.toNatClampNeg < la.length) : own_LI Z h a n (own_u la i x) :=
  own_A.congr A fun j _ => by rw [own_set_get la _ x 0 hi j]; rfl
theorem own_LJ_set {ll : List Int64} {i : Int32} {x : Int64} (A : own_JA Z h a n (own_upd (fun j => ll.getD j 0) i.toNatClampNeg x)) (hi : i.toNatClampNeg < ll.length) : own_LJ Z h a n (own_uJ ll i x) :=
  own_A.congr A fun j _ => by rw [own_set_get ll _ x 0 hi j]; rfl
theorem own_u_len (la : List Int32) (i x : Int32) : (own_u la i x).length = la.length := by simp [own_u]
theorem own_uJ_len (ll : List Int64) (i : Int32) (x : Int64) : (own_uJ ll i x).length = ll.length := by simp [own_uJ]
/-- VariableOrder, in plain words: the lists 'above', 'below', 'level' -/
def own_insA (la : List Int32) (v lo : Int32) : List Int32 := own_u (own_u la lo v) v (own_g la lo)
def own_insB (la lb : List Int32) (v lo : Int32) : List Int32 := if own_g la lo = (-1 : Int32) then own_u lb v lo else own_u (own_u lb v lo) (own_g la lo) v
def own_ceil (la : List Int32) (ll : List Int64) (lo : Int32) : Int64 := if own_g la lo = (-1 : Int32) then (4611686018427387904 : Int64) else own_gJ ll (own_g la lo)
def own_insL (la : List Int32) (ll : List Int64) (v lo : Int32) : List Int64 := own_uJ ll v (own_gJ ll lo + ((own_ceil la ll lo - own_gJ ll lo) / (2 : Int64)))
def own_remA (la lb : List Int32) (v : Int32) : List Int32 := own_u la (own_g lb v) (own_g la v)
def own_remB (la lb : List Int32) (v : Int32) : List Int32 := if own_g la v = (-1 : Int32) then lb else own_u lb (own_g la v) (own_g lb v)
abbrev own_preI (la : List Int32) (ll : List Int64) (v lo : Int32) : Prop := own_in v ∧ own_in lo ∧ (own_g la lo = (-1 : Int32) ∨ own_in (own_g la lo)) ∧ ¬ (own_ceil la ll lo - own_gJ ll lo) < (2 : Int64)
abbrev own_preM (la lb : List Int32) (v : Int32) : Prop := own_in v ∧ own_in (own_g lb v) ∧ (own_g la v = (-1 : Int32) ∨ own_in (own_g la v))
theorem own_insA_len (la : List Int32) (v lo : Int32) : (own_insA la v lo).length = la.length := by rw [own_insA, own_u_len, own_u_len]
theorem own_insB_len (la lb : List Int32) (v lo : Int32) : (own_insB la lb v lo).length = lb.length := by
  unfold own_insB
  split
  · rw [own_u_len]
  · rw [own_u_len, own_u_len]
theorem own_insL_len (la : List Int32) (ll : List Int64) (v lo : Int32) : (own_insL la ll v lo).length = ll.length := own_uJ_len _ _ _
theorem own_remA_len (la lb : List Int32) (v : Int32) : (own_remA la lb v).length = la.length := own_u_len _ _ _
theorem own_remB_len (la lb : List Int32) (v : Int32) : (own_remB la lb v).length = lb.length := by
  unfold own_remB
  split
  · rfl
  · rw [own_u_len]
/-- the law's own list of places -/
def own_bump (lp : List Int32) (w p d : Int32) : List Int32 := if p < own_g lp w then own_u lp w (own_g lp w + d) else lp
theorem own_bump_len (lp : List Int32) (w p d : Int32) : (own_bump lp w p d).length = lp.length := by
  unfold own_bump
  split
  · rw [own_u_len]
  · rfl
def own_bumps (lp : List Int32) (p d : Int32) : List Int32 := own_bump (own_bump (own_bump (own_bump (own_bump lp 0 p d) 1 p d) 2 p d) 3 p d) 4 p d
theorem own_bumps_len (lp : List Int32) (p d : Int32) : (own_bumps lp p d).length = lp.length := by simp only [own_bumps, own_bump_len]
def own_insP (lp : List Int32) (v lo : Int32) : List Int32 := own_u (own_bumps lp (own_g lp lo) 1) v (own_g lp lo + 1)
def own_remP (lp : List Int32) (v : Int32) : List Int32 := own_u (own_bumps lp (own_g lp v) (-1)) v (-1)
theorem own_insP_len (lp : List Int32) (v lo : Int32) : (own_insP lp v lo).length = lp.length := by rw [own_insP, own_u_len, own_bumps_len]
theorem own_remP_len (lp : List Int32) (v : Int32) : (own_remP lp v).length = lp.length := by rw [own_remP, own_u_len, own_bumps_len]
/-- the object with its three arrays -/
def own_VO (Z : State) (h : Heap) (a l b c : Addr) (nv : Int32) (la lb : List Int32) (ll : List Int64) : Prop :=
  Exa Z h a "com/example/worldsum/worldsum/VariableOrder" ∧ Fld Z h a "com/example/worldsum/worldsum/VariableOrder" "level" "[J" (.ref l) ∧ Fld Z h a "com/example/worldsum/worldsum/VariableOrder" "above" "[I" (.ref b) ∧ Fld Z h a "com/example/worldsum/worldsum/VariableOrder" "below" "[I" (.ref c) ∧ Fld Z h a "com/example/worldsum/worldsum/VariableOrder" "variables" "I" (.int nv) ∧ (∃ tp : Int32, Fld Z h a "com/example/worldsum/worldsum/VariableOrder" "top" "I" (.int tp)) ∧ own_LJ Z h l 64 ll ∧ own_LI Z h b 64 la ∧ own_LI Z h c 64 lb
def own_ne4 (a l b c : Addr) : Prop := a ≠ l ∧ a ≠ b ∧ a ≠ c ∧ l ≠ b ∧ l ≠ c ∧ b ≠ c
end OwnLists

theorem d1_0 : decode prog_14_method_1_code 0 = .ok (.aload_n 0, 1) := by decide +kernel
theorem d1_1 : decode prog_14_method_1_code 1 = .ok (.invokespecial 1, 3) := by decide +kernel
theorem d1_4 : decode prog_14_method_1_code 4 = .ok (.aload_n 0, 1) := by decide +kernel
theorem d1_5 : decode prog_14_method_1_code 5 = .ok (.bipush 64, 2) := by decide +kernel
theorem d1_7 : decode prog_14_method_1_code 7 = .ok (.newarray .long, 2) := by decide +kernel
theorem d1_9 : decode prog_14_method_1_code 9 = .ok (.putfield 7, 3) := by decide +kernel
theorem d1_12 : decode prog_14_method_1_code 12 = .ok (.aload_n 0, 1) := by decide +kernel
theorem d1_13 : decode prog_14_method_1_code 13 = .ok (.aload_n 0, 1) := by decide +kernel
theorem d1_14 : decode prog_14_method_1_code 14 = .ok (.getfield 7, 3) := by decide +kernel
theorem d1_17 : decode prog_14_method_1_code 17 = .ok (.arraylength, 1) := by decide +kernel
theorem d1_18 : decode prog_14_method_1_code 18 = .ok (.newarray .int, 2) := by decide +kernel
theorem d1_20 : decode prog_14_method_1_code 20 = .ok (.putfield 13, 3) := by decide +kernel
theorem d1_23 : decode prog_14_method_1_code 23 = .ok (.aload_n 0, 1) := by decide +kernel
theorem d1_24 : decode prog_14_method_1_code 24 = .ok (.aload_n 0, 1) := by decide +kernel
theorem d1_25 : decode prog_14_method_1_code 25 = .ok (.getfield 7, 3) := by decide +kernel
theorem d1_28 : decode prog_14_method_1_code 28 = .ok (.arraylength, 1) := by decide +kernel
theorem d1_29 : decode prog_14_method_1_code 29 = .ok (.newarray .int, 2) := by decide +kernel
theorem d1_31 : decode prog_14_method_1_code 31 = .ok (.putfield 17, 3) := by decide +kernel
theorem d1_34 : decode prog_14_method_1_code 34 = .ok (.aload_n 0, 1) := by decide +kernel
theorem d1_35 : decode prog_14_method_1_code 35 = .ok (.iconst 1, 1) := by decide +kernel
theorem d1_36 : decode prog_14_method_1_code 36 = .ok (.putfield 20, 3) := by decide +kernel
theorem d1_39 : decode prog_14_method_1_code 39 = .ok (.aload_n 0, 1) := by decide +kernel
theorem d1_40 : decode prog_14_method_1_code 40 = .ok (.iconst 0, 1) := by decide +kernel
theorem d1_41 : decode prog_14_method_1_code 41 = .ok (.putfield 24, 3) := by decide +kernel
theorem d1_44 : decode prog_14_method_1_code 44 = .ok (.aload_n 0, 1) := by decide +kernel
theorem d1_45 : decode prog_14_method_1_code 45 = .ok (.getfield 13, 3) := by decide +kernel
theorem d1_48 : decode prog_14_method_1_code 48 = .ok (.iconst 0, 1) := by decide +kernel
theorem d1_49 : decode prog_14_method_1_code 49 = .ok (.iconst (-1), 1) := by decide +kernel
theorem d1_50 : decode prog_14_method_1_code 50 = .ok (.iastore, 1) := by decide +kernel
theorem d1_51 : decode prog_14_method_1_code 51 = .ok (.aload_n 0, 1) := by decide +kernel
theorem d1_52 : decode prog_14_method_1_code 52 = .ok (.getfield 17, 3) := by decide +kernel
theorem d1_55 : decode prog_14_method_1_code 55 = .ok (.iconst 0, 1) := by decide +kernel
theorem d1_56 : decode prog_14_method_1_code 56 = .ok (.iconst (-1), 1) := by decide +kernel
theorem d1_57 : decode prog_14_method_1_code 57 = .ok (.iastore, 1) := by decide +kernel
theorem d1_58 : decode prog_14_method_1_code 58 = .ok (.return_, 1) := by decide +kernel
theorem pn_1 : plainName "com/example/worldsum/worldsum/VariableOrder" = true := by first | (simp [plainName, overriddenIn]; done) | decide +kernel
theorem pd_1 : parseMethodDescriptor "()V" = some ⟨[], none⟩ := by decide +kernel

theorem d4_0 : decode prog_14_method_10_code 0 = .ok (.aload_n 0, 1) := by decide +kernel
theorem d4_1 : decode prog_14_method_10_code 1 = .ok (.getfield 13, 3) := by decide +kernel
theorem d4_4 : decode prog_14_method_10_code 4 = .ok (.iload_n 2, 1) := by decide +kernel
theorem d4_5 : decode prog_14_method_10_code 5 = .ok (.iaload, 1) := by decide +kernel
theorem d4_6 : decode prog_14_method_10_code 6 = .ok (.istore_n 3, 1) := by decide +kernel
theorem d4_7 : decode prog_14_method_10_code 7 = .ok (.aload_n 0, 1) := by decide +kernel
theorem d4_8 : decode prog_14_method_10_code 8 = .ok (.getfield 13, 3) := by decide +kernel
theorem d4_11 : decode prog_14_method_10_code 11 = .ok (.iload_n 2, 1) := by decide +kernel
theorem d4_12 : decode prog_14_method_10_code 12 = .ok (.iload_n 1, 1) := by decide +kernel
theorem d4_13 : decode prog_14_method_10_code 13 = .ok (.iastore, 1) := by decide +kernel
theorem d4_14 : decode prog_14_method_10_code 14 = .ok (.aload_n 0, 1) := by decide +kernel
theorem d4_15 : decode prog_14_method_10_code 15 = .ok (.getfield 17, 3) := by decide +kernel
theorem d4_18 : decode prog_14_method_10_code 18 = .ok (.iload_n 1, 1) := by decide +kernel
theorem d4_19 : decode prog_14_method_10_code 19 = .ok (.iload_n 2, 1) := by decide +kernel
theorem d4_20 : decode prog_14_method_10_code 20 = .ok (.iastore, 1) := by decide +kernel
theorem d4_21 : decode prog_14_method_10_code 21 = .ok (.aload_n 0, 1) := by decide +kernel
theorem d4_22 : decode prog_14_method_10_code 22 = .ok (.getfield 13, 3) := by decide +kernel
theorem d4_25 : decode prog_14_method_10_code 25 = .ok (.iload_n 1, 1) := by decide +kernel
theorem d4_26 : decode prog_14_method_10_code 26 = .ok (.iload_n 3, 1) := by decide +kernel
theorem d4_27 : decode prog_14_method_10_code 27 = .ok (.iastore, 1) := by decide +kernel
theorem d4_28 : decode prog_14_method_10_code 28 = .ok (.iload_n 3, 1) := by decide +kernel
theorem d4_29 : decode prog_14_method_10_code 29 = .ok (.iconst (-1), 1) := by decide +kernel
theorem d4_30 : decode prog_14_method_10_code 30 = .ok (.if_icmp .ne 11, 3) := by decide +kernel
theorem d4_33 : decode prog_14_method_10_code 33 = .ok (.aload_n 0, 1) := by decide +kernel
theorem d4_34 : decode prog_14_method_10_code 34 = .ok (.iload_n 1, 1) := by decide +kernel
theorem d4_35 : decode prog_14_method_10_code 35 = .ok (.putfield 24, 3) := by decide +kernel
theorem d4_38 : decode prog_14_method_10_code 38 = .ok (.goto 10, 3) := by decide +kernel
theorem d4_41 : decode prog_14_method_10_code 41 = .ok (.aload_n 0, 1) := by decide +kernel
theorem d4_42 : decode prog_14_method_10_code 42 = .ok (.getfield 17, 3) := by decide +kernel
theorem d4_45 : decode prog_14_method_10_code 45 = .ok (.iload_n 3, 1) := by decide +kernel
theorem d4_46 : decode prog_14_method_10_code 46 = .ok (.iload_n 1, 1) := by decide +kernel
theorem d4_47 : decode prog_14_method_10_code 47 = .ok (.iastore, 1) := by decide +kernel
theorem d4_48 : decode prog_14_method_10_code 48 = .ok (.iload_n 3, 1) := by decide +kernel
theorem d4_49 : decode prog_14_method_10_code 49 = .ok (.iconst (-1), 1) := by decide +kernel
theorem d4_50 : decode prog_14_method_10_code 50 = .ok (.if_icmp .ne 9, 3) := by decide +kernel
theorem d4_53 : decode prog_14_method_10_code 53 = .ok (.ldc2_w 40, 3) := by decide +kernel
theorem d4_56 : decode prog_14_method_10_code 56 = .ok (.goto 9, 3) := by decide +kernel
theorem d4_59 : decode prog_14_method_10_code 59 = .ok (.aload_n 0, 1) := by decide +kernel
theorem d4_60 : decode prog_14_method_10_code 60 = .ok (.getfield 7, 3) := by decide +kernel
theorem d4_63 : decode prog_14_method_10_code 63 = .ok (.iload_n 3, 1) := by decide +kernel
theorem d4_64 : decode prog_14_method_10_code 64 = .ok (.laload, 1) := by decide +kernel
theorem d4_65 : decode prog_14_method_10_code 65 = .ok (.lstore 4, 2) := by decide +kernel
theorem d4_67 : decode prog_14_method_10_code 67 = .ok (.lload 4, 2) := by decide +kernel
theorem d4_69 : decode prog_14_method_10_code 69 = .ok (.aload_n 0, 1) := by decide +kernel
theorem d4_70 : decode prog_14_method_10_code 70 = .ok (.getfield 7, 3) := by decide +kernel
theorem d4_73 : decode prog_14_method_10_code 73 = .ok (.iload_n 2, 1) := by decide +kernel
theorem d4_74 : decode prog_14_method_10_code 74 = .ok (.laload, 1) := by decide +kernel
theorem d4_75 : decode prog_14_method_10_code 75 = .ok (.lsub, 1) := by decide +kernel
theorem d4_76 : decode prog_14_method_10_code 76 = .ok (.ldc2_w 42, 3) := by decide +kernel
theorem d4_79 : decode prog_14_method_10_code 79 = .ok (.lcmp, 1) := by decide +kernel
theorem d4_80 : decode prog_14_method_10_code 80 = .ok (.ifCond .lt 32, 3) := by decide +kernel
theorem d4_83 : decode prog_14_method_10_code 83 = .ok (.aload_n 0, 1) := by decide +kernel
theorem d4_84 : decode prog_14_method_10_code 84 = .ok (.getfield 7, 3) := by decide +kernel
theorem d4_87 : decode prog_14_method_10_code 87 = .ok (.iload_n 1, 1) := by decide +kernel
theorem d4_88 : decode prog_14_method_10_code 88 = .ok (.aload_n 0, 1) := by decide +kernel
theorem d4_89 : decode prog_14_method_10_code 89 = .ok (.getfield 7, 3) := by decide +kernel
theorem d4_92 : decode prog_14_method_10_code 92 = .ok (.iload_n 2, 1) := by decide +kernel
theorem d4_93 : decode prog_14_method_10_code 93 = .ok (.laload, 1) := by decide +kernel
theorem d4_94 : decode prog_14_method_10_code 94 = .ok (.lload 4, 2) := by decide +kernel
theorem d4_96 : decode prog_14_method_10_code 96 = .ok (.aload_n 0, 1) := by decide +kernel
theorem d4_97 : decode prog_14_method_10_code 97 = .ok (.getfield 7, 3) := by decide +kernel
theorem d4_100 : decode prog_14_method_10_code 100 = .ok (.iload_n 2, 1) := by decide +kernel
theorem d4_101 : decode prog_14_method_10_code 101 = .ok (.laload, 1) := by decide +kernel
theorem d4_102 : decode prog_14_method_10_code 102 = .ok (.lsub, 1) := by decide +kernel
theorem d4_103 : decode prog_14_method_10_code 103 = .ok (.ldc2_w 42, 3) := by decide +kernel
theorem d4_106 : decode prog_14_method_10_code 106 = .ok (.ldiv, 1) := by decide +kernel
theorem d4_107 : decode prog_14_method_10_code 107 = .ok (.ladd, 1) := by decide +kernel
theorem d4_108 : decode prog_14_method_10_code 108 = .ok (.lastore, 1) := by decide +kernel
theorem d4_109 : decode prog_14_method_10_code 109 = .ok (.goto 9, 3) := by decide +kernel
theorem d4_112 : decode prog_14_method_10_code 112 = .ok (.aload_n 0, 1) := by decide +kernel
theorem d4_113 : decode prog_14_method_10_code 113 = .ok (.iload_n 2, 1) := by decide +kernel
theorem d4_114 : decode prog_14_method_10_code 114 = .ok (.iload_n 1, 1) := by decide +kernel
theorem d4_115 : decode prog_14_method_10_code 115 = .ok (.invokevirtual 44, 3) := by decide +kernel
theorem d4_118 : decode prog_14_method_10_code 118 = .ok (.return_, 1) := by decide +kernel
theorem pn_4 : plainName "com/example/worldsum/worldsum/VariableOrder" = true := by first | (simp [plainName, overriddenIn]; done) | decide +kernel
theorem pd_4 : parseMethodDescriptor "(II)V" = some ⟨[.int, .int], none⟩ := by decide +kernel

theorem d3_0 : decode prog_14_method_4_code 0 = .ok (.aload_n 0, 1) := by decide +kernel
theorem d3_1 : decode prog_14_method_4_code 1 = .ok (.getfield 20, 3) := by decide +kernel
theorem d3_4 : decode prog_14_method_4_code 4 = .ok (.aload_n 0, 1) := by decide +kernel
theorem d3_5 : decode prog_14_method_4_code 5 = .ok (.getfield 7, 3) := by decide +kernel
theorem d3_8 : decode prog_14_method_4_code 8 = .ok (.arraylength, 1) := by decide +kernel
theorem d3_9 : decode prog_14_method_4_code 9 = .ok (.if_icmp .ne 54, 3) := by decide +kernel
theorem d3_12 : decode prog_14_method_4_code 12 = .ok (.aload_n 0, 1) := by decide +kernel
theorem d3_13 : decode prog_14_method_4_code 13 = .ok (.aload_n 0, 1) := by decide +kernel
theorem d3_14 : decode prog_14_method_4_code 14 = .ok (.getfield 7, 3) := by decide +kernel
theorem d3_17 : decode prog_14_method_4_code 17 = .ok (.aload_n 0, 1) := by decide +kernel
theorem d3_18 : decode prog_14_method_4_code 18 = .ok (.getfield 20, 3) := by decide +kernel
theorem d3_21 : decode prog_14_method_4_code 21 = .ok (.iconst 2, 1) := by decide +kernel
theorem d3_22 : decode prog_14_method_4_code 22 = .ok (.imul, 1) := by decide +kernel
theorem d3_23 : decode prog_14_method_4_code 23 = .ok (.invokestatic 27, 3) := by decide +kernel
theorem d3_26 : decode prog_14_method_4_code 26 = .ok (.putfield 7, 3) := by decide +kernel
theorem d3_29 : decode prog_14_method_4_code 29 = .ok (.aload_n 0, 1) := by decide +kernel
theorem d3_30 : decode prog_14_method_4_code 30 = .ok (.aload_n 0, 1) := by decide +kernel
theorem d3_31 : decode prog_14_method_4_code 31 = .ok (.getfield 13, 3) := by decide +kernel
theorem d3_34 : decode prog_14_method_4_code 34 = .ok (.aload_n 0, 1) := by decide +kernel
theorem d3_35 : decode prog_14_method_4_code 35 = .ok (.getfield 20, 3) := by decide +kernel
theorem d3_38 : decode prog_14_method_4_code 38 = .ok (.iconst 2, 1) := by decide +kernel
theorem d3_39 : decode prog_14_method_4_code 39 = .ok (.imul, 1) := by decide +kernel
theorem d3_40 : decode prog_14_method_4_code 40 = .ok (.invokestatic 33, 3) := by decide +kernel
theorem d3_43 : decode prog_14_method_4_code 43 = .ok (.putfield 13, 3) := by decide +kernel
theorem d3_46 : decode prog_14_method_4_code 46 = .ok (.aload_n 0, 1) := by decide +kernel
theorem d3_47 : decode prog_14_method_4_code 47 = .ok (.aload_n 0, 1) := by decide +kernel
theorem d3_48 : decode prog_14_method_4_code 48 = .ok (.getfield 17, 3) := by decide +kernel
theorem d3_51 : decode prog_14_method_4_code 51 = .ok (.aload_n 0, 1) := by decide +kernel
theorem d3_52 : decode prog_14_method_4_code 52 = .ok (.getfield 20, 3) := by decide +kernel
theorem d3_55 : decode prog_14_method_4_code 55 = .ok (.iconst 2, 1) := by decide +kernel
theorem d3_56 : decode prog_14_method_4_code 56 = .ok (.imul, 1) := by decide +kernel
theorem d3_57 : decode prog_14_method_4_code 57 = .ok (.invokestatic 33, 3) := by decide +kernel
theorem d3_60 : decode prog_14_method_4_code 60 = .ok (.putfield 17, 3) := by decide +kernel
theorem d3_63 : decode prog_14_method_4_code 63 = .ok (.aload_n 0, 1) := by decide +kernel
theorem d3_64 : decode prog_14_method_4_code 64 = .ok (.dup, 1) := by decide +kernel
theorem d3_65 : decode prog_14_method_4_code 65 = .ok (.getfield 20, 3) := by decide +kernel
theorem d3_68 : decode prog_14_method_4_code 68 = .ok (.dup_x1, 1) := by decide +kernel
theorem d3_69 : decode prog_14_method_4_code 69 = .ok (.iconst 1, 1) := by decide +kernel
theorem d3_70 : decode prog_14_method_4_code 70 = .ok (.iadd, 1) := by decide +kernel
theorem d3_71 : decode prog_14_method_4_code 71 = .ok (.putfield 20, 3) := by decide +kernel
theorem d3_74 : decode prog_14_method_4_code 74 = .ok (.istore_n 2, 1) := by decide +kernel
theorem d3_75 : decode prog_14_method_4_code 75 = .ok (.aload_n 0, 1) := by decide +kernel
theorem d3_76 : decode prog_14_method_4_code 76 = .ok (.iload_n 2, 1) := by decide +kernel
theorem d3_77 : decode prog_14_method_4_code 77 = .ok (.iload_n 1, 1) := by decide +kernel
theorem d3_78 : decode prog_14_method_4_code 78 = .ok (.invokevirtual 36, 3) := by decide +kernel
theorem d3_81 : decode prog_14_method_4_code 81 = .ok (.iload_n 2, 1) := by decide +kernel
theorem d3_82 : decode prog_14_method_4_code 82 = .ok (.ireturn, 1) := by decide +kernel
theorem pn_3 : plainName "com/example/worldsum/worldsum/VariableOrder" = true := by first | (simp [plainName, overriddenIn]; done) | decide +kernel
theorem pd_3 : parseMethodDescriptor "(I)I" = some ⟨[.int], some .int⟩ := by decide +kernel

theorem d6_0 : decode method_2_code 0 = .ok (.aload_n 0, 1) := by decide +kernel
theorem d6_1 : decode method_2_code 1 = .ok (.iload_n 1, 1) := by decide +kernel
theorem d6_2 : decode method_2_code 2 = .ok (.iaload, 1) := by decide +kernel
theorem d6_3 : decode method_2_code 3 = .ok (.iload_n 2, 1) := by decide +kernel
theorem d6_4 : decode method_2_code 4 = .ok (.if_icmp .le 10, 3) := by decide +kernel
theorem d6_7 : decode method_2_code 7 = .ok (.aload_n 0, 1) := by decide +kernel
theorem d6_8 : decode method_2_code 8 = .ok (.iload_n 1, 1) := by decide +kernel
theorem d6_9 : decode method_2_code 9 = .ok (.dup2, 1) := by decide +kernel
theorem d6_10 : decode method_2_code 10 = .ok (.iaload, 1) := by decide +kernel
theorem d6_11 : decode method_2_code 11 = .ok (.iload_n 3, 1) := by decide +kernel
theorem d6_12 : decode method_2_code 12 = .ok (.iadd, 1) := by decide +kernel
theorem d6_13 : decode method_2_code 13 = .ok (.iastore, 1) := by decide +kernel
theorem d6_14 : decode method_2_code 14 = .ok (.return_, 1) := by decide +kernel
theorem pn_6 : plainName "com/example/worldsum/worldsum/VariableOrderIsDirectlyAbovePinLaw" = true := by first | (simp [plainName, overriddenIn]; done) | decide +kernel
theorem pd_6 : parseMethodDescriptor "([IIII)V" = some ⟨[(.array .int), .int, .int, .int], none⟩ := by decide +kernel

theorem d5_0 : decode method_3_code 0 = .ok (.aload_n 0, 1) := by decide +kernel
theorem d5_1 : decode method_3_code 1 = .ok (.iload_n 2, 1) := by decide +kernel
theorem d5_2 : decode method_3_code 2 = .ok (.iaload, 1) := by decide +kernel
theorem d5_3 : decode method_3_code 3 = .ok (.istore_n 3, 1) := by decide +kernel
theorem d5_4 : decode method_3_code 4 = .ok (.aload_n 0, 1) := by decide +kernel
theorem d5_5 : decode method_3_code 5 = .ok (.iconst 0, 1) := by decide +kernel
theorem d5_6 : decode method_3_code 6 = .ok (.iload_n 3, 1) := by decide +kernel
theorem d5_7 : decode method_3_code 7 = .ok (.iconst 1, 1) := by decide +kernel
theorem d5_8 : decode method_3_code 8 = .ok (.invokestatic 7, 3) := by decide +kernel
theorem d5_11 : decode method_3_code 11 = .ok (.aload_n 0, 1) := by decide +kernel
theorem d5_12 : decode method_3_code 12 = .ok (.iconst 1, 1) := by decide +kernel
theorem d5_13 : decode method_3_code 13 = .ok (.iload_n 3, 1) := by decide +kernel
theorem d5_14 : decode method_3_code 14 = .ok (.iconst 1, 1) := by decide +kernel
theorem d5_15 : decode method_3_code 15 = .ok (.invokestatic 7, 3) := by decide +kernel
theorem d5_18 : decode method_3_code 18 = .ok (.aload_n 0, 1) := by decide +kernel
theorem d5_19 : decode method_3_code 19 = .ok (.iconst 2, 1) := by decide +kernel
theorem d5_20 : decode method_3_code 20 = .ok (.iload_n 3, 1) := by decide +kernel
theorem d5_21 : decode method_3_code 21 = .ok (.iconst 1, 1) := by decide +kernel
theorem d5_22 : decode method_3_code 22 = .ok (.invokestatic 7, 3) := by decide +kernel
theorem d5_25 : decode method_3_code 25 = .ok (.aload_n 0, 1) := by decide +kernel
theorem d5_26 : decode method_3_code 26 = .ok (.iconst 3, 1) := by decide +kernel
theorem d5_27 : decode method_3_code 27 = .ok (.iload_n 3, 1) := by decide +kernel
theorem d5_28 : decode method_3_code 28 = .ok (.iconst 1, 1) := by decide +kernel
theorem d5_29 : decode method_3_code 29 = .ok (.invokestatic 7, 3) := by decide +kernel
theorem d5_32 : decode method_3_code 32 = .ok (.aload_n 0, 1) := by decide +kernel
theorem d5_33 : decode method_3_code 33 = .ok (.iconst 4, 1) := by decide +kernel
theorem d5_34 : decode method_3_code 34 = .ok (.iload_n 3, 1) := by decide +kernel
theorem d5_35 : decode method_3_code 35 = .ok (.iconst 1, 1) := by decide +kernel
theorem d5_36 : decode method_3_code 36 = .ok (.invokestatic 7, 3) := by decide +kernel
theorem d5_39 : decode method_3_code 39 = .ok (.aload_n 0, 1) := by decide +kernel
theorem d5_40 : decode method_3_code 40 = .ok (.iload_n 1, 1) := by decide +kernel
theorem d5_41 : decode method_3_code 41 = .ok (.iload_n 3, 1) := by decide +kernel
theorem d5_42 : decode method_3_code 42 = .ok (.iconst 1, 1) := by decide +kernel
theorem d5_43 : decode method_3_code 43 = .ok (.iadd, 1) := by decide +kernel
theorem d5_44 : decode method_3_code 44 = .ok (.iastore, 1) := by decide +kernel
theorem d5_45 : decode method_3_code 45 = .ok (.return_, 1) := by decide +kernel
theorem pn_5 : plainName "com/example/worldsum/worldsum/VariableOrderIsDirectlyAbovePinLaw" = true := by first | (simp [plainName, overriddenIn]; done) | decide +kernel
theorem pd_5 : parseMethodDescriptor "([III)V" = some ⟨[(.array .int), .int, .int], none⟩ := by decide +kernel

theorem d8_0 : decode method_4_code 0 = .ok (.aload_n 0, 1) := by decide +kernel
theorem d8_1 : decode method_4_code 1 = .ok (.iload_n 1, 1) := by decide +kernel
theorem d8_2 : decode method_4_code 2 = .ok (.iaload, 1) := by decide +kernel
theorem d8_3 : decode method_4_code 3 = .ok (.istore_n 2, 1) := by decide +kernel
theorem d8_4 : decode method_4_code 4 = .ok (.aload_n 0, 1) := by decide +kernel
theorem d8_5 : decode method_4_code 5 = .ok (.iconst 0, 1) := by decide +kernel
theorem d8_6 : decode method_4_code 6 = .ok (.iload_n 2, 1) := by decide +kernel
theorem d8_7 : decode method_4_code 7 = .ok (.iconst (-1), 1) := by decide +kernel
theorem d8_8 : decode method_4_code 8 = .ok (.invokestatic 7, 3) := by decide +kernel
theorem d8_11 : decode method_4_code 11 = .ok (.aload_n 0, 1) := by decide +kernel
theorem d8_12 : decode method_4_code 12 = .ok (.iconst 1, 1) := by decide +kernel
theorem d8_13 : decode method_4_code 13 = .ok (.iload_n 2, 1) := by decide +kernel
theorem d8_14 : decode method_4_code 14 = .ok (.iconst (-1), 1) := by decide +kernel
theorem d8_15 : decode method_4_code 15 = .ok (.invokestatic 7, 3) := by decide +kernel
theorem d8_18 : decode method_4_code 18 = .ok (.aload_n 0, 1) := by decide +kernel
theorem d8_19 : decode method_4_code 19 = .ok (.iconst 2, 1) := by decide +kernel
theorem d8_20 : decode method_4_code 20 = .ok (.iload_n 2, 1) := by decide +kernel
theorem d8_21 : decode method_4_code 21 = .ok (.iconst (-1), 1) := by decide +kernel
theorem d8_22 : decode method_4_code 22 = .ok (.invokestatic 7, 3) := by decide +kernel
theorem d8_25 : decode method_4_code 25 = .ok (.aload_n 0, 1) := by decide +kernel
theorem d8_26 : decode method_4_code 26 = .ok (.iconst 3, 1) := by decide +kernel
theorem d8_27 : decode method_4_code 27 = .ok (.iload_n 2, 1) := by decide +kernel
theorem d8_28 : decode method_4_code 28 = .ok (.iconst (-1), 1) := by decide +kernel
theorem d8_29 : decode method_4_code 29 = .ok (.invokestatic 7, 3) := by decide +kernel
theorem d8_32 : decode method_4_code 32 = .ok (.aload_n 0, 1) := by decide +kernel
theorem d8_33 : decode method_4_code 33 = .ok (.iconst 4, 1) := by decide +kernel
theorem d8_34 : decode method_4_code 34 = .ok (.iload_n 2, 1) := by decide +kernel
theorem d8_35 : decode method_4_code 35 = .ok (.iconst (-1), 1) := by decide +kernel
theorem d8_36 : decode method_4_code 36 = .ok (.invokestatic 7, 3) := by decide +kernel
theorem d8_39 : decode method_4_code 39 = .ok (.aload_n 0, 1) := by decide +kernel
theorem d8_40 : decode method_4_code 40 = .ok (.iload_n 1, 1) := by decide +kernel
theorem d8_41 : decode method_4_code 41 = .ok (.iconst (-1), 1) := by decide +kernel
theorem d8_42 : decode method_4_code 42 = .ok (.iastore, 1) := by decide +kernel
theorem d8_43 : decode method_4_code 43 = .ok (.return_, 1) := by decide +kernel
theorem pn_8 : plainName "com/example/worldsum/worldsum/VariableOrderIsDirectlyAbovePinLaw" = true := by first | (simp [plainName, overriddenIn]; done) | decide +kernel
theorem pd_8 : parseMethodDescriptor "([II)V" = some ⟨[(.array .int), .int], none⟩ := by decide +kernel

theorem d7_0 : decode prog_14_method_9_code 0 = .ok (.aload_n 0, 1) := by decide +kernel
theorem d7_1 : decode prog_14_method_9_code 1 = .ok (.getfield 13, 3) := by decide +kernel
theorem d7_4 : decode prog_14_method_9_code 4 = .ok (.iload_n 1, 1) := by decide +kernel
theorem d7_5 : decode prog_14_method_9_code 5 = .ok (.iaload, 1) := by decide +kernel
theorem d7_6 : decode prog_14_method_9_code 6 = .ok (.istore_n 3, 1) := by decide +kernel
theorem d7_7 : decode prog_14_method_9_code 7 = .ok (.aload_n 0, 1) := by decide +kernel
theorem d7_8 : decode prog_14_method_9_code 8 = .ok (.getfield 13, 3) := by decide +kernel
theorem d7_11 : decode prog_14_method_9_code 11 = .ok (.aload_n 0, 1) := by decide +kernel
theorem d7_12 : decode prog_14_method_9_code 12 = .ok (.getfield 17, 3) := by decide +kernel
theorem d7_15 : decode prog_14_method_9_code 15 = .ok (.iload_n 1, 1) := by decide +kernel
theorem d7_16 : decode prog_14_method_9_code 16 = .ok (.iaload, 1) := by decide +kernel
theorem d7_17 : decode prog_14_method_9_code 17 = .ok (.iload_n 3, 1) := by decide +kernel
theorem d7_18 : decode prog_14_method_9_code 18 = .ok (.iastore, 1) := by decide +kernel
theorem d7_19 : decode prog_14_method_9_code 19 = .ok (.iload_n 3, 1) := by decide +kernel
theorem d7_20 : decode prog_14_method_9_code 20 = .ok (.iconst (-1), 1) := by decide +kernel
theorem d7_21 : decode prog_14_method_9_code 21 = .ok (.if_icmp .ne 16, 3) := by decide +kernel
theorem d7_24 : decode prog_14_method_9_code 24 = .ok (.aload_n 0, 1) := by decide +kernel
theorem d7_25 : decode prog_14_method_9_code 25 = .ok (.aload_n 0, 1) := by decide +kernel
theorem d7_26 : decode prog_14_method_9_code 26 = .ok (.getfield 17, 3) := by decide +kernel
theorem d7_29 : decode prog_14_method_9_code 29 = .ok (.iload_n 1, 1) := by decide +kernel
theorem d7_30 : decode prog_14_method_9_code 30 = .ok (.iaload, 1) := by decide +kernel
theorem d7_31 : decode prog_14_method_9_code 31 = .ok (.putfield 24, 3) := by decide +kernel
theorem d7_34 : decode prog_14_method_9_code 34 = .ok (.goto 15, 3) := by decide +kernel
theorem d7_37 : decode prog_14_method_9_code 37 = .ok (.aload_n 0, 1) := by decide +kernel
theorem d7_38 : decode prog_14_method_9_code 38 = .ok (.getfield 17, 3) := by decide +kernel
theorem d7_41 : decode prog_14_method_9_code 41 = .ok (.iload_n 3, 1) := by decide +kernel
theorem d7_42 : decode prog_14_method_9_code 42 = .ok (.aload_n 0, 1) := by decide +kernel
theorem d7_43 : decode prog_14_method_9_code 43 = .ok (.getfield 17, 3) := by decide +kernel
theorem d7_46 : decode prog_14_method_9_code 46 = .ok (.iload_n 1, 1) := by decide +kernel
theorem d7_47 : decode prog_14_method_9_code 47 = .ok (.iaload, 1) := by decide +kernel
theorem d7_48 : decode prog_14_method_9_code 48 = .ok (.iastore, 1) := by decide +kernel
theorem d7_49 : decode prog_14_method_9_code 49 = .ok (.aload_n 0, 1) := by decide +kernel
theorem d7_50 : decode prog_14_method_9_code 50 = .ok (.iload_n 1, 1) := by decide +kernel
theorem d7_51 : decode prog_14_method_9_code 51 = .ok (.iload_n 2, 1) := by decide +kernel
theorem d7_52 : decode prog_14_method_9_code 52 = .ok (.invokevirtual 36, 3) := by decide +kernel
theorem d7_55 : decode prog_14_method_9_code 55 = .ok (.return_, 1) := by decide +kernel
theorem pn_7 : plainName "com/example/worldsum/worldsum/VariableOrder" = true := by first | (simp [plainName, overriddenIn]; done) | decide +kernel
theorem pd_7 : parseMethodDescriptor "(II)V" = some ⟨[.int, .int], none⟩ := by decide +kernel

theorem d9_0 : decode prog_14_method_5_code 0 = .ok (.aload_n 0, 1) := by decide +kernel
theorem d9_1 : decode prog_14_method_5_code 1 = .ok (.getfield 17, 3) := by decide +kernel
theorem d9_4 : decode prog_14_method_5_code 4 = .ok (.iload_n 1, 1) := by decide +kernel
theorem d9_5 : decode prog_14_method_5_code 5 = .ok (.iaload, 1) := by decide +kernel
theorem d9_6 : decode prog_14_method_5_code 6 = .ok (.iload_n 2, 1) := by decide +kernel
theorem d9_7 : decode prog_14_method_5_code 7 = .ok (.if_icmp .ne 7, 3) := by decide +kernel
theorem d9_10 : decode prog_14_method_5_code 10 = .ok (.iconst 1, 1) := by decide +kernel
theorem d9_11 : decode prog_14_method_5_code 11 = .ok (.goto 4, 3) := by decide +kernel
theorem d9_14 : decode prog_14_method_5_code 14 = .ok (.iconst 0, 1) := by decide +kernel
theorem d9_15 : decode prog_14_method_5_code 15 = .ok (.ireturn, 1) := by decide +kernel
theorem pn_9 : plainName "com/example/worldsum/worldsum/VariableOrder" = true := by first | (simp [plainName, overriddenIn]; done) | decide +kernel
theorem pd_9 : parseMethodDescriptor "(II)Z" = some ⟨[.int, .int], some .boolean⟩ := by decide +kernel

theorem pn_0 : plainName "com/example/worldsum/worldsum/VariableOrderIsDirectlyAbovePinLaw" = true := by first | (simp [plainName, overriddenIn]; done) | decide +kernel
theorem pd_0 : parseMethodDescriptor "(IIIIII)Z" = some ⟨[.int, .int, .int, .int, .int, .int], some .boolean⟩ := by decide +kernel

theorem ef_1 (m : MethodId) (x0 : Addr) : entryFrame m #[(.ref x0)] 1 = mkF m 0 #[.val (.ref x0)] [] := by first | (simp [entryFrame, mkF, argsToLocals, Value.category]; done) | rfl

theorem ef_4 (m : MethodId) (x0 : Addr) (x1 : Int32) (x2 : Int32) : entryFrame m #[(.ref x0), (.int x1), (.int x2)] 6 = mkF m 0 #[.val (.ref x0), .val (.int x1), .val (.int x2), .unset, .unset, .unset] [] := by first | (simp [entryFrame, mkF, argsToLocals, Value.category]; done) | rfl

theorem ef_3 (m : MethodId) (x0 : Addr) (x1 : Int32) : entryFrame m #[(.ref x0), (.int x1)] 3 = mkF m 0 #[.val (.ref x0), .val (.int x1), .unset] [] := by first | (simp [entryFrame, mkF, argsToLocals, Value.category]; done) | rfl

theorem ef_6 (m : MethodId) (x0 : Addr) (x1 : Int32) (x2 : Int32) (x3 : Int32) : entryFrame m #[(.ref x0), (.int x1), (.int x2), (.int x3)] 4 = mkF m 0 #[.val (.ref x0), .val (.int x1), .val (.int x2), .val (.int x3)] [] := by first | (simp [entryFrame, mkF, argsToLocals, Value.category]; done) | rfl

theorem ef_5 (m : MethodId) (x0 : Addr) (x1 : Int32) (x2 : Int32) : entryFrame m #[(.ref x0), (.int x1), (.int x2)] 4 = mkF m 0 #[.val (.ref x0), .val (.int x1), .val (.int x2), .unset] [] := by first | (simp [entryFrame, mkF, argsToLocals, Value.category]; done) | rfl

theorem ef_8 (m : MethodId) (x0 : Addr) (x1 : Int32) : entryFrame m #[(.ref x0), (.int x1)] 3 = mkF m 0 #[.val (.ref x0), .val (.int x1), .unset] [] := by first | (simp [entryFrame, mkF, argsToLocals, Value.category]; done) | rfl

theorem ef_7 (m : MethodId) (x0 : Addr) (x1 : Int32) (x2 : Int32) : entryFrame m #[(.ref x0), (.int x1), (.int x2)] 4 = mkF m 0 #[.val (.ref x0), .val (.int x1), .val (.int x2), .unset] [] := by first | (simp [entryFrame, mkF, argsToLocals, Value.category]; done) | rfl

theorem ef_9 (m : MethodId) (x0 : Addr) (x1 : Int32) (x2 : Int32) : entryFrame m #[(.ref x0), (.int x1), (.int x2)] 3 = mkF m 0 #[.val (.ref x0), .val (.int x1), .val (.int x2)] [] := by first | (simp [entryFrame, mkF, argsToLocals, Value.category]; done) | rfl

theorem ef_0 (m : MethodId) (x0 : Int32) (x1 : Int32) (x2 : Int32) (x3 : Int32) (x4 : Int32) (x5 : Int32) : entryFrame m #[(.int x0), (.int x1), (.int x2), (.int x3), (.int x4), (.int x5)] maxLocals = mkF m 0 #[.val (.int x0), .val (.int x1), .val (.int x2), .val (.int x3), .val (.int x4), .val (.int x5), .unset, .unset, .unset, .unset, .unset, .unset, .unset, .unset, .unset, .unset, .unset, .unset] [] := by first | (simp [entryFrame, mkF, argsToLocals, Value.category, maxLocals]; done) | rfl

set_option maxRecDepth 65536 in
set_option maxHeartbeats 40000000 in
theorem rm1 (l : Launch) (Z : State) (a0 : Array Value) (hw : ∀ d ∈ tables_1, d.before a0 Z = true) (a1 : Addr) (u1 u2 u3 u4 u5 : Value) (h0 : Heap) (n0 : Nat) (Z0 : n0 ≤ h0.size) (ga_a1 : n0 ≤ a1) (E_a1 : Exa Z h0 a1 "com/example/worldsum/worldsum/VariableOrder") (F_level_a1 : Fld Z h0 a1 "com/example/worldsum/worldsum/VariableOrder" "level" "[J" u1) (F_above_a1 : Fld Z h0 a1 "com/example/worldsum/worldsum/VariableOrder" "above" "[I" u2) (F_below_a1 : Fld Z h0 a1 "com/example/worldsum/worldsum/VariableOrder" "below" "[I" u3) (F_variables_a1 : Fld Z h0 a1 "com/example/worldsum/worldsum/VariableOrder" "variables" "I" u4) (F_top_a1 : Fld Z h0 a1 "com/example/worldsum/worldsum/VariableOrder" "top" "I" u5) :
    own_Met l Z h0 (⟨"com/example/worldsum/worldsum/VariableOrder", "<init>", "()V"⟩ : MethodName) prog_14_method_1_code 1 none ({ frames := 1, cells := 3, slots := 192, locals := 14 } : Room) #[(.ref a1)] (fun v h L => v = none ∧ Fr n0 L ∧ Keep h0 h [a1] ∧ ∃ l1 b1 c1 : Addr, h0.size ≤ l1 ∧ h0.size ≤ b1 ∧ h0.size ≤ c1 ∧ own_ne4 a1 l1 b1 c1 ∧ own_VO Z h a1 l1 b1 c1 (1 : Int32) [-1, 0, 0, 0, 0] [-1, 0, 0, 0, 0] [0, 0, 0, 0, 0]) := by
  refine own_body pn_1 (fun m => ef_1 m a1) ?_
  intro p e s m below meth c T X hx hby hml hret hlk hown hnm hZ e0
  have hown : s.vm.findClass "com/example/worldsum/worldsum/VariableOrder" = some m.cls := hown
  have hml : c.maxLocals = 1 := hml
  have N0 : Fr n0 ([] : List Loc) := Fr.nil n0
  show own_Go p e below _ T (mkF m 0 #[.val (.ref a1)] [])
  have K0 : Keep h0 h0 [a1] := Keep.refl _ _
  refine own_st (fun τ κ => XS.aloadN X.here hx rfl (hb hby d1_0) rfl rfl κ) ?_
  show own_Go p e below _ T (mkF m 1 #[.val (.ref a1)] [(.ref a1)])
  refine own_initO X hx hZ e0 hown (hw _ (List.mem_of_getElem? (i := 8) rfl)) (hw _ (List.mem_of_getElem? (i := 9) rfl)) (hw _ (List.mem_of_getElem? (i := 10) rfl)) (by rw [hml]; rfl) (hb hby d1_1) (by decide) 0 (Nat.le_of_eq rfl) (by decide) ?_
  intro T1 X1 e1
  show own_Go p e below _ T1 (mkF m 4 #[.val (.ref a1)] [])
  refine own_st (fun τ κ => XS.aloadN X1.here hx rfl (hb hby d1_4) rfl rfl κ) ?_
  show own_Go p e below _ T1 (mkF m 5 #[.val (.ref a1)] [(.ref a1)])
  refine own_st (fun τ κ => XT.bipushV X1.here hx rfl (64) (hb hby d1_5) (by decide) κ) ?_
  show own_Go p e below _ T1 (mkF m 7 #[.val (.ref a1)] [(.int (64 : Int32)), (.ref a1)])
  have hz_l1 : h0.size ≤ h0.size := K0.1
  refine own_newP X1 hx hZ e1 (hw _ (List.mem_of_getElem? (i := 11) rfl)) (hb hby d1_7) (by decide) 64 (by decide) (by decide) (by decide) (by decide) ?_
  intro T2 h2 l1 X2 e2 E2 g2 A_l1
  have ne_a1_l1 : a1 ≠ l1 := Nat.ne_of_lt (Nat.lt_of_lt_of_eq E_a1.lt g2)
  have ga_l1 : n0 ≤ l1 := by omega
  have E_a1 := E_a1.ext E2
  have F_level_a1 := F_level_a1.ext E2
  have F_above_a1 := F_above_a1.ext E2
  have F_below_a1 := F_below_a1.ext E2
  have F_variables_a1 := F_variables_a1.ext E2
  have F_top_a1 := F_top_a1.ext E2
  have Z2 : n0 ≤ h2.size := Nat.le_trans Z0 E2.1
  have K2 := K0.ext E2
  have A_l1 : own_JA Z h2 l1 64 (fun _ => (0 : Int64)) := A_l1
  show own_Go p e below _ T2 (mkF m 9 #[.val (.ref a1)] [(.ref l1), (.ref a1)])
  have gz_l1 : h0.size ≤ l1 := by omega
  refine own_putF X2 hx hZ e2 hown (hw _ (List.mem_of_getElem? (i := 12) rfl)) F_level_a1 E_a1 (Or.inl (hw _ (List.mem_of_getElem? (i := 13) rfl))) (hw _ (List.mem_of_getElem? (i := 3) rfl)) (ty := (.array .long)) (by decide) rfl rfl N0 ga_a1 (hb hby d1_9) ?_
  intro T3 h3 X3 e3 W3 N3
  have E_a1 := E_a1.wr W3
  have F_level_a1 := F_level_a1.same W3
  have F_above_a1 := F_above_a1.other W3 (Or.inr (slot_ne (Or.inl (hw _ (List.mem_of_getElem? (i := 15) rfl))) (Or.inl (hw _ (List.mem_of_getElem? (i := 13) rfl))) (by decide) (t := (.array .int)) (t' := (.array .long)) (by decide) (by decide)))
  have F_below_a1 := F_below_a1.other W3 (Or.inr (slot_ne (Or.inl (hw _ (List.mem_of_getElem? (i := 17) rfl))) (Or.inl (hw _ (List.mem_of_getElem? (i := 13) rfl))) (by decide) (t := (.array .int)) (t' := (.array .long)) (by decide) (by decide)))
  have F_variables_a1 := F_variables_a1.other W3 (Or.inr (slot_ne (Or.inl (hw _ (List.mem_of_getElem? (i := 19) rfl))) (Or.inl (hw _ (List.mem_of_getElem? (i := 13) rfl))) (by decide) (t := .int) (t' := (.array .long)) (by decide) (by decide)))
  have F_top_a1 := F_top_a1.other W3 (Or.inr (slot_ne (Or.inl (hw _ (List.mem_of_getElem? (i := 21) rfl))) (Or.inl (hw _ (List.mem_of_getElem? (i := 13) rfl))) (by decide) (t := .int) (t' := (.array .long)) (by decide) (by decide)))
  have A_l1 := A_l1.keep (Keep.of_wr W3) (ninS (Ne.symm ne_a1_l1) nin0)
  have Z3 : n0 ≤ h3.size := Nat.le_trans Z2 (Keep.of_wr W3).1
  have K3 := K2.wr W3 (Or.inl (List.mem_of_getElem? (i := 0) rfl))
  show own_Go p e below _ T3 (mkF m 12 #[.val (.ref a1)] [])
  refine own_st (fun τ κ => XS.aloadN X3.here hx rfl (hb hby d1_12) rfl rfl κ) ?_
  show own_Go p e below _ T3 (mkF m 13 #[.val (.ref a1)] [(.ref a1)])
  refine own_st (fun τ κ => XS.aloadN X3.here hx rfl (hb hby d1_13) rfl rfl κ) ?_
  show own_Go p e below _ T3 (mkF m 14 #[.val (.ref a1)] [(.ref a1), (.ref a1)])
  refine own_getF X3 hx hZ e3 hown (hw _ (List.mem_of_getElem? (i := 12) rfl)) F_level_a1 (hb hby d1_14) ?_
  intro T4 X4 e4
  show own_Go p e below _ T4 (mkF m 17 #[.val (.ref a1)] [(.ref l1), (.ref a1)])
  refine own_alen X4 hx hZ e4 A_l1 (z := (64 : Int32)) rfl (hb hby d1_17) ?_
  show own_Go p e below _ T4 (mkF m 18 #[.val (.ref a1)] [(.int (64 : Int32)), (.ref a1)])
  have hz_b1 : h0.size ≤ h3.size := K3.1
  refine own_newP X4 hx hZ e4 (hw _ (List.mem_of_getElem? (i := 1) rfl)) (hb hby d1_18) (by decide) 64 (by decide) (by decide) (by decide) (by decide) ?_
  intro T5 h5 b1 X5 e5 E5 g5 A_b1
  have ne_a1_b1 : a1 ≠ b1 := Nat.ne_of_lt (Nat.lt_of_lt_of_eq E_a1.lt g5)
  have ne_l1_b1 : l1 ≠ b1 := Nat.ne_of_lt (Nat.lt_of_lt_of_eq A_l1.lt g5)
  have ga_b1 : n0 ≤ b1 := by omega
  have E_a1 := E_a1.ext E5
  have F_level_a1 := F_level_a1.ext E5
  have F_above_a1 := F_above_a1.ext E5
  have F_below_a1 := F_below_a1.ext E5
  have F_variables_a1 := F_variables_a1.ext E5
  have F_top_a1 := F_top_a1.ext E5
  have A_l1 := A_l1.ext E5
  have Z5 : n0 ≤ h5.size := Nat.le_trans Z3 E5.1
  have K5 := K3.ext E5
  have A_b1 : own_IA Z h5 b1 64 (fun _ => (0 : Int32)) := A_b1
  show own_Go p e below _ T5 (mkF m 20 #[.val (.ref a1)] [(.ref b1), (.ref a1)])
  have gz_b1 : h0.size ≤ b1 := by omega
  refine own_putF X5 hx hZ e5 hown (hw _ (List.mem_of_getElem? (i := 14) rfl)) F_above_a1 E_a1 (Or.inl (hw _ (List.mem_of_getElem? (i := 15) rfl))) (hw _ (List.mem_of_getElem? (i := 3) rfl)) (ty := (.array .int)) (by decide) rfl rfl N3 ga_a1 (hb hby d1_20) ?_
  intro T6 h6 X6 e6 W6 N6
  have E_a1 := E_a1.wr W6
  have F_level_a1 := F_level_a1.other W6 (Or.inr (slot_ne (Or.inl (hw _ (List.mem_of_getElem? (i := 13) rfl))) (Or.inl (hw _ (List.mem_of_getElem? (i := 15) rfl))) (by decide) (t := (.array .long)) (t' := (.array .int)) (by decide) (by decide)))
  have F_above_a1 := F_above_a1.same W6
  have F_below_a1 := F_below_a1.other W6 (Or.inr (slot_ne (Or.inl (hw _ (List.mem_of_getElem? (i := 17) rfl))) (Or.inl (hw _ (List.mem_of_getElem? (i := 15) rfl))) (by decide) (t := (.array .int)) (t' := (.array .int)) (by decide) (by decide)))
  have F_variables_a1 := F_variables_a1.other W6 (Or.inr (slot_ne (Or.inl (hw _ (List.mem_of_getElem? (i := 19) rfl))) (Or.inl (hw _ (List.mem_of_getElem? (i := 15) rfl))) (by decide) (t := .int) (t' := (.array .int)) (by decide) (by decide)))
  have F_top_a1 := F_top_a1.other W6 (Or.inr (slot_ne (Or.inl (hw _ (List.mem_of_getElem? (i := 21) rfl))) (Or.inl (hw _ (List.mem_of_getElem? (i := 15) rfl))) (by decide) (t := .int) (t' := (.array .int)) (by decide) (by decide)))
  have A_l1 := A_l1.keep (Keep.of_wr W6) (ninS (Ne.symm ne_a1_l1) nin0)
  have A_b1 := A_b1.keep (Keep.of_wr W6) (ninS (Ne.symm ne_a1_b1) nin0)
  have Z6 : n0 ≤ h6.size := Nat.le_trans Z5 (Keep.of_wr W6).1
  have K6 := K5.wr W6 (Or.inl (List.mem_of_getElem? (i := 0) rfl))
  show own_Go p e below _ T6 (mkF m 23 #[.val (.ref a1)] [])
  refine own_st (fun τ κ => XS.aloadN X6.here hx rfl (hb hby d1_23) rfl rfl κ) ?_
  show own_Go p e below _ T6 (mkF m 24 #[.val (.ref a1)] [(.ref a1)])
  refine own_st (fun τ κ => XS.aloadN X6.here hx rfl (hb hby d1_24) rfl rfl κ) ?_
  show own_Go p e below _ T6 (mkF m 25 #[.val (.ref a1)] [(.ref a1), (.ref a1)])
  refine own_getF X6 hx hZ e6 hown (hw _ (List.mem_of_getElem? (i := 12) rfl)) F_level_a1 (hb hby d1_25) ?_
  intro T7 X7 e7
  show own_Go p e below _ T7 (mkF m 28 #[.val (.ref a1)] [(.ref l1), (.ref a1)])
  refine own_alen X7 hx hZ e7 A_l1 (z := (64 : Int32)) rfl (hb hby d1_28) ?_
  show own_Go p e below _ T7 (mkF m 29 #[.val (.ref a1)] [(.int (64 : Int32)), (.ref a1)])
  have hz_c1 : h0.size ≤ h6.size := K6.1
  refine own_newP X7 hx hZ e7 (hw _ (List.mem_of_getElem? (i := 1) rfl)) (hb hby d1_29) (by decide) 64 (by decide) (by decide) (by decide) (by decide) ?_
  intro T8 h8 c1 X8 e8 E8 g8 A_c1
  have ne_a1_c1 : a1 ≠ c1 := Nat.ne_of_lt (Nat.lt_of_lt_of_eq E_a1.lt g8)
  have ne_l1_c1 : l1 ≠ c1 := Nat.ne_of_lt (Nat.lt_of_lt_of_eq A_l1.lt g8)
  have ne_b1_c1 : b1 ≠ c1 := Nat.ne_of_lt (Nat.lt_of_lt_of_eq A_b1.lt g8)
  have ga_c1 : n0 ≤ c1 := by omega
  have E_a1 := E_a1.ext E8
  have F_level_a1 := F_level_a1.ext E8
  have F_above_a1 := F_above_a1.ext E8
  have F_below_a1 := F_below_a1.ext E8
  have F_variables_a1 := F_variables_a1.ext E8
  have F_top_a1 := F_top_a1.ext E8
  have A_l1 := A_l1.ext E8
  have A_b1 := A_b1.ext E8
  have Z8 : n0 ≤ h8.size := Nat.le_trans Z6 E8.1
  have K8 := K6.ext E8
  have A_c1 : own_IA Z h8 c1 64 (fun _ => (0 : Int32)) := A_c1
  show own_Go p e below _ T8 (mkF m 31 #[.val (.ref a1)] [(.ref c1), (.ref a1)])
  have gz_c1 : h0.size ≤ c1 := by omega
  refine own_putF X8 hx hZ e8 hown (hw _ (List.mem_of_getElem? (i := 16) rfl)) F_below_a1 E_a1 (Or.inl (hw _ (List.mem_of_getElem? (i := 17) rfl))) (hw _ (List.mem_of_getElem? (i := 3) rfl)) (ty := (.array .int)) (by decide) rfl rfl N6 ga_a1 (hb hby d1_31) ?_
  intro T9 h9 X9 e9 W9 N9
  have E_a1 := E_a1.wr W9
  have F_level_a1 := F_level_a1.other W9 (Or.inr (slot_ne (Or.inl (hw _ (List.mem_of_getElem? (i := 13) rfl))) (Or.inl (hw _ (List.mem_of_getElem? (i := 17) rfl))) (by decide) (t := (.array .long)) (t' := (.array .int)) (by decide) (by decide)))
  have F_above_a1 := F_above_a1.other W9 (Or.inr (slot_ne (Or.inl (hw _ (List.mem_of_getElem? (i := 15) rfl))) (Or.inl (hw _ (List.mem_of_getElem? (i := 17) rfl))) (by decide) (t := (.array .int)) (t' := (.array .int)) (by decide) (by decide)))
  have F_below_a1 := F_below_a1.same W9
  have F_variables_a1 := F_variables_a1.other W9 (Or.inr (slot_ne (Or.inl (hw _ (List.mem_of_getElem? (i := 19) rfl))) (Or.inl (hw _ (List.mem_of_getElem? (i := 17) rfl))) (by decide) (t := .int) (t' := (.array .int)) (by decide) (by decide)))
  have F_top_a1 := F_top_a1.other W9 (Or.inr (slot_ne (Or.inl (hw _ (List.mem_of_getElem? (i := 21) rfl))) (Or.inl (hw _ (List.mem_of_getElem? (i := 17) rfl))) (by decide) (t := .int) (t' := (.array .int)) (by decide) (by decide)))
  have A_l1 := A_l1.keep (Keep.of_wr W9) (ninS (Ne.symm ne_a1_l1) nin0)
  have A_b1 := A_b1.keep (Keep.of_wr W9) (ninS (Ne.symm ne_a1_b1) nin0)
  have A_c1 := A_c1.keep (Keep.of_wr W9) (ninS (Ne.symm ne_a1_c1) nin0)
  have Z9 : n0 ≤ h9.size := Nat.le_trans Z8 (Keep.of_wr W9).1
  have K9 := K8.wr W9 (Or.inl (List.mem_of_getElem? (i := 0) rfl))
  show own_Go p e below _ T9 (mkF m 34 #[.val (.ref a1)] [])
  refine own_st (fun τ κ => XS.aloadN X9.here hx rfl (hb hby d1_34) rfl rfl κ) ?_
  show own_Go p e below _ T9 (mkF m 35 #[.val (.ref a1)] [(.ref a1)])
  refine own_st (fun τ κ => XT.iconstV X9.here hx rfl (1) (hb hby d1_35) (by decide) κ) ?_
  show own_Go p e below _ T9 (mkF m 36 #[.val (.ref a1)] [(.int (1 : Int32)), (.ref a1)])
  refine own_putF X9 hx hZ e9 hown (hw _ (List.mem_of_getElem? (i := 18) rfl)) F_variables_a1 E_a1 (Or.inl (hw _ (List.mem_of_getElem? (i := 19) rfl))) (hw _ (List.mem_of_getElem? (i := 3) rfl)) (ty := .int) (by decide) rfl rfl N9 ga_a1 (hb hby d1_36) ?_
  intro T10 h10 X10 e10 W10 N10
  have E_a1 := E_a1.wr W10
  have F_level_a1 := F_level_a1.other W10 (Or.inr (slot_ne (Or.inl (hw _ (List.mem_of_getElem? (i := 13) rfl))) (Or.inl (hw _ (List.mem_of_getElem? (i := 19) rfl))) (by decide) (t := (.array .long)) (t' := .int) (by decide) (by decide)))
  have F_above_a1 := F_above_a1.other W10 (Or.inr (slot_ne (Or.inl (hw _ (List.mem_of_getElem? (i := 15) rfl))) (Or.inl (hw _ (List.mem_of_getElem? (i := 19) rfl))) (by decide) (t := (.array .int)) (t' := .int) (by decide) (by decide)))
  have F_below_a1 := F_below_a1.other W10 (Or.inr (slot_ne (Or.inl (hw _ (List.mem_of_getElem? (i := 17) rfl))) (Or.inl (hw _ (List.mem_of_getElem? (i := 19) rfl))) (by decide) (t := (.array .int)) (t' := .int) (by decide) (by decide)))
  have F_variables_a1 := F_variables_a1.same W10
  have F_top_a1 := F_top_a1.other W10 (Or.inr (slot_ne (Or.inl (hw _ (List.mem_of_getElem? (i := 21) rfl))) (Or.inl (hw _ (List.mem_of_getElem? (i := 19) rfl))) (by decide) (t := .int) (t' := .int) (by decide) (by decide)))
  have A_l1 := A_l1.keep (Keep.of_wr W10) (ninS (Ne.symm ne_a1_l1) nin0)
  have A_b1 := A_b1.keep (Keep.of_wr W10) (ninS (Ne.symm ne_a1_b1) nin0)
  have A_c1 := A_c1.keep (Keep.of_wr W10) (ninS (Ne.symm ne_a1_c1) nin0)
  have Z10 : n0 ≤ h10.size := Nat.le_trans Z9 (Keep.of_wr W10).1
  have K10 := K9.wr W10 (Or.inl (List.mem_of_getElem? (i := 0) rfl))
  show own_Go p e below _ T10 (mkF m 39 #[.val (.ref a1)] [])
  refine own_st (fun τ κ => XS.aloadN X10.here hx rfl (hb hby d1_39) rfl rfl κ) ?_
  show own_Go p e below _ T10 (mkF m 40 #[.val (.ref a1)] [(.ref a1)])
  refine own_st (fun τ κ => XT.iconstV X10.here hx rfl (0) (hb hby d1_40) (by decide) κ) ?_
  show own_Go p e below _ T10 (mkF m 41 #[.val (.ref a1)] [(.int (0 : Int32)), (.ref a1)])
  refine own_putF X10 hx hZ e10 hown (hw _ (List.mem_of_getElem? (i := 20) rfl)) F_top_a1 E_a1 (Or.inl (hw _ (List.mem_of_getElem? (i := 21) rfl))) (hw _ (List.mem_of_getElem? (i := 3) rfl)) (ty := .int) (by decide) rfl rfl N10 ga_a1 (hb hby d1_41) ?_
  intro T11 h11 X11 e11 W11 N11
  have E_a1 := E_a1.wr W11
  have F_level_a1 := F_level_a1.other W11 (Or.inr (slot_ne (Or.inl (hw _ (List.mem_of_getElem? (i := 13) rfl))) (Or.inl (hw _ (List.mem_of_getElem? (i := 21) rfl))) (by decide) (t := (.array .long)) (t' := .int) (by decide) (by decide)))
  have F_above_a1 := F_above_a1.other W11 (Or.inr (slot_ne (Or.inl (hw _ (List.mem_of_getElem? (i := 15) rfl))) (Or.inl (hw _ (List.mem_of_getElem? (i := 21) rfl))) (by decide) (t := (.array .int)) (t' := .int) (by decide) (by decide)))
  have F_below_a1 := F_below_a1.other W11 (Or.inr (slot_ne (Or.inl (hw _ (List.mem_of_getElem? (i := 17) rfl))) (Or.inl (hw _ (List.mem_of_getElem? (i := 21) rfl))) (by decide) (t := (.array .int)) (t' := .int) (by decide) (by decide)))
  have F_variables_a1 := F_variables_a1.other W11 (Or.inr (slot_ne (Or.inl (hw _ (List.mem_of_getElem? (i := 19) rfl))) (Or.inl (hw _ (List.mem_of_getElem? (i := 21) rfl))) (by decide) (t := .int) (t' := .int) (by decide) (by decide)))
  have F_top_a1 := F_top_a1.same W11
  have A_l1 := A_l1.keep (Keep.of_wr W11) (ninS (Ne.symm ne_a1_l1) nin0)
  have A_b1 := A_b1.keep (Keep.of_wr W11) (ninS (Ne.symm ne_a1_b1) nin0)
  have A_c1 := A_c1.keep (Keep.of_wr W11) (ninS (Ne.symm ne_a1_c1) nin0)
  have Z11 : n0 ≤ h11.size := Nat.le_trans Z10 (Keep.of_wr W11).1
  have K11 := K10.wr W11 (Or.inl (List.mem_of_getElem? (i := 0) rfl))
  show own_Go p e below _ T11 (mkF m 44 #[.val (.ref a1)] [])
  refine own_st (fun τ κ => XS.aloadN X11.here hx rfl (hb hby d1_44) rfl rfl κ) ?_
  show own_Go p e below _ T11 (mkF m 45 #[.val (.ref a1)] [(.ref a1)])
  refine own_getF X11 hx hZ e11 hown (hw _ (List.mem_of_getElem? (i := 14) rfl)) F_above_a1 (hb hby d1_45) ?_
  intro T12 X12 e12
  show own_Go p e below _ T12 (mkF m 48 #[.val (.ref a1)] [(.ref b1)])
  refine own_st (fun τ κ => XT.iconstV X12.here hx rfl (0) (hb hby d1_48) (by decide) κ) ?_
  show own_Go p e below _ T12 (mkF m 49 #[.val (.ref a1)] [(.int (0 : Int32)), (.ref b1)])
  refine own_st (fun τ κ => XT.iconstV X12.here hx rfl (-1) (hb hby d1_49) (by decide) κ) ?_
  show own_Go p e below _ T12 (mkF m 50 #[.val (.ref a1)] [(.int (-1 : Int32)), (.int (0 : Int32)), (.ref b1)])
  refine own_stI X12 hx hZ e12 A_b1 (i := 0) (by decide) N11 ga_b1 (hb hby d1_50) ?_
  intro T13 h13 X13 e13 B13 K13 N13
  have E_a1 := E_a1.keep K13
  have F_level_a1 := F_level_a1.keep K13 (ninS ne_a1_b1 nin0)
  have F_above_a1 := F_above_a1.keep K13 (ninS ne_a1_b1 nin0)
  have F_below_a1 := F_below_a1.keep K13 (ninS ne_a1_b1 nin0)
  have F_variables_a1 := F_variables_a1.keep K13 (ninS ne_a1_b1 nin0)
  have F_top_a1 := F_top_a1.keep K13 (ninS ne_a1_b1 nin0)
  have A_l1 := A_l1.keep K13 (ninS ne_l1_b1 nin0)
  have A_c1 := A_c1.keep K13 (ninS (Ne.symm ne_b1_c1) nin0)
  have A_b1 := B13
  have Z13 : n0 ≤ h13.size := Nat.le_trans Z11 K13.1
  have KK13 := K11.trans K13 (allS (Or.inr gz_b1) all0)
  show own_Go p e below _ T13 (mkF m 51 #[.val (.ref a1)] [])
  refine own_st (fun τ κ => XS.aloadN X13.here hx rfl (hb hby d1_51) rfl rfl κ) ?_
  show own_Go p e below _ T13 (mkF m 52 #[.val (.ref a1)] [(.ref a1)])
  refine own_getF X13 hx hZ e13 hown (hw _ (List.mem_of_getElem? (i := 16) rfl)) F_below_a1 (hb hby d1_52) ?_
  intro T14 X14 e14
  show own_Go p e below _ T14 (mkF m 55 #[.val (.ref a1)] [(.ref c1)])
  refine own_st (fun τ κ => XT.iconstV X14.here hx rfl (0) (hb hby d1_55) (by decide) κ) ?_
  show own_Go p e below _ T14 (mkF m 56 #[.val (.ref a1)] [(.int (0 : Int32)), (.ref c1)])
  refine own_st (fun τ κ => XT.iconstV X14.here hx rfl (-1) (hb hby d1_56) (by decide) κ) ?_
  show own_Go p e below _ T14 (mkF m 57 #[.val (.ref a1)] [(.int (-1 : Int32)), (.int (0 : Int32)), (.ref c1)])
  refine own_stI X14 hx hZ e14 A_c1 (i := 0) (by decide) N13 ga_c1 (hb hby d1_57) ?_
  intro T15 h15 X15 e15 B15 K15 N15
  have E_a1 := E_a1.keep K15
  have F_level_a1 := F_level_a1.keep K15 (ninS ne_a1_c1 nin0)
  have F_above_a1 := F_above_a1.keep K15 (ninS ne_a1_c1 nin0)
  have F_below_a1 := F_below_a1.keep K15 (ninS ne_a1_c1 nin0)
  have F_variables_a1 := F_variables_a1.keep K15 (ninS ne_a1_c1 nin0)
  have F_top_a1 := F_top_a1.keep K15 (ninS ne_a1_c1 nin0)
  have A_l1 := A_l1.keep K15 (ninS ne_l1_c1 nin0)
  have A_b1 := A_b1.keep K15 (ninS ne_b1_c1 nin0)
  have A_c1 := B15
  have Z15 : n0 ≤ h15.size := Nat.le_trans Z13 K15.1
  have KK15 := KK13.trans K15 (allS (Or.inr gz_c1) all0)
  show own_Go p e below _ T15 (mkF m 58 #[.val (.ref a1)] [])
  have own_first : ∀ j : Nat, own_upd (fun _ => (0 : Int32)) 0 (-1 : Int32) j = ([-1, 0, 0, 0, 0] : List Int32).getD j 0 := fun j => by
    match j with
    | 0 => rfl
    | 1 => rfl
    | 2 => rfl
    | 3 => rfl
    | 4 => rfl
    | _ + 5 => rfl
  have own_zero : ∀ j : Nat, (0 : Int64) = ([0, 0, 0, 0, 0] : List Int64).getD j 0 := fun j => by
    match j with
    | 0 => rfl
    | 1 => rfl
    | 2 => rfl
    | 3 => rfl
    | 4 => rfl
    | _ + 5 => rfl
  have A_b1 : own_LI Z h15 b1 64 [-1, 0, 0, 0, 0] := own_A.congr A_b1 (fun j _ => by rw [own_first])
  have A_c1 : own_LI Z h15 c1 64 [-1, 0, 0, 0, 0] := own_A.congr A_c1 (fun j _ => by rw [own_first])
  have A_l1 : own_LJ Z h15 l1 64 [0, 0, 0, 0, 0] := own_A.congr A_l1 (fun j _ => congrArg Value.long (own_zero j))
  refine own_retV X15 hx hlk hret (by decide) (by decide) (hb hby d1_58) ?_
  rw [e15]
  exact ⟨rfl, N15, KK15, l1, b1, c1, gz_l1, gz_b1, gz_c1, ⟨ne_a1_l1, ne_a1_b1, ne_a1_c1, ne_l1_b1, ne_l1_c1, ne_b1_c1⟩, ⟨E_a1, F_level_a1, F_above_a1, F_below_a1, F_variables_a1, ⟨_, F_top_a1⟩, A_l1, A_b1, A_c1⟩⟩

set_option maxRecDepth 65536 in
set_option maxHeartbeats 40000000 in
theorem rm4 (l : Launch) (Z : State) (a0 : Array Value) (hw : ∀ d ∈ tables_1, d.before a0 Z = true) (v lo : Int32) (a1 l1 b1 c1 : Addr) (nv : Int32) (la lb : List Int32) (ll : List Int64) (hla : la.length = 5) (hlb : lb.length = 5) (hll : ll.length = 5) (hne : own_ne4 a1 l1 b1 c1) (h0 : Heap) (n0 : Nat) (Z0 : n0 ≤ h0.size) (ga_a1 : n0 ≤ a1) (ga_l1 : n0 ≤ l1) (ga_b1 : n0 ≤ b1) (ga_c1 : n0 ≤ c1) (V : own_VO Z h0 a1 l1 b1 c1 nv la lb ll) (hp : own_preI la ll v lo) :
    own_Met l Z h0 (⟨"com/example/worldsum/worldsum/VariableOrder", "insertAbove", "(II)V"⟩ : MethodName) prog_14_method_10_code 6 none ({ frames := 0, cells := 0, slots := 0, locals := 0 } : Room) #[(.ref a1), (.int v), (.int lo)] (fun r h L => r = none ∧ Fr n0 L ∧ Keep h0 h [a1, l1, b1, c1] ∧ own_VO Z h a1 l1 b1 c1 nv (own_insA la v lo) (own_insB la lb v lo) (own_insL la ll v lo)) := by
  refine own_body pn_4 (fun m => ef_4 m a1 v lo) ?_
  intro p e s m below meth c T X hx hby hml hret hlk hown hnm hZ e0
  have hown : s.vm.findClass "com/example/worldsum/worldsum/VariableOrder" = some m.cls := hown
  have hml : c.maxLocals = 6 := hml
  have N0 : Fr n0 ([] : List Loc) := Fr.nil n0
  show own_Go p e below _ T (mkF m 0 #[.val (.ref a1), .val (.int v), .val (.int lo), .unset, .unset, .unset] [])
  obtain ⟨E_a1, F_level_a1, F_above_a1, F_below_a1, F_variables_a1, ⟨tp, F_top_a1⟩, A_l1, A_b1, A_c1⟩ := V
  obtain ⟨ne_a1_l1, ne_a1_b1, ne_a1_c1, ne_l1_b1, ne_l1_c1, ne_b1_c1⟩ := hne
  have K0 : Keep h0 h0 [a1, l1, b1, c1] := Keep.refl _ _
  obtain ⟨hv, hlo, hup, hgap⟩ := hp
  refine own_st (fun τ κ => XS.aloadN X.here hx rfl (hb hby d4_0) rfl rfl κ) ?_
  show own_Go p e below _ T (mkF m 1 #[.val (.ref a1), .val (.int v), .val (.int lo), .unset, .unset, .unset] [(.ref a1)])
  refine own_getF X hx hZ e0 hown (hw _ (List.mem_of_getElem? (i := 14) rfl)) F_above_a1 (hb hby d4_1) ?_
  intro T1 X1 e1
  show own_Go p e below _ T1 (mkF m 4 #[.val (.ref a1), .val (.int v), .val (.int lo), .unset, .unset, .unset] [(.ref b1)])
  refine own_st (fun τ κ => XS.iloadN X1.here hx rfl (hb hby d4_4) rfl κ) ?_
  show own_Go p e below _ T1 (mkF m 5 #[.val (.ref a1), .val (.int v), .val (.int lo), .unset, .unset, .unset] [(.int lo), (.ref b1)])
  refine own_ldI X1 hx hZ e1 A_b1 hlo.big (x := (own_g la lo)) rfl (hb hby d4_5) ?_
  show own_Go p e below _ T1 (mkF m 6 #[.val (.ref a1), .val (.int v), .val (.int lo), .unset, .unset, .unset] [(.int (own_g la lo))])
  refine own_st (fun τ κ => XS.istoreN X1.here hx rfl (hb hby d4_6) rfl (l' := #[.val (.ref a1), .val (.int v), .val (.int lo), .val (.int (own_g la lo)), .unset, .unset]) rfl κ) ?_
  show own_Go p e below _ T1 (mkF m 7 #[.val (.ref a1), .val (.int v), .val (.int lo), .val (.int (own_g la lo)), .unset, .unset] [])
  refine own_st (fun τ κ => XS.aloadN X1.here hx rfl (hb hby d4_7) rfl rfl κ) ?_
  show own_Go p e below _ T1 (mkF m 8 #[.val (.ref a1), .val (.int v), .val (.int lo), .val (.int (own_g la lo)), .unset, .unset] [(.ref a1)])
  refine own_getF X1 hx hZ e1 hown (hw _ (List.mem_of_getElem? (i := 14) rfl)) F_above_a1 (hb hby d4_8) ?_
  intro T2 X2 e2
  show own_Go p e below _ T2 (mkF m 11 #[.val (.ref a1), .val (.int v), .val (.int lo), .val (.int (own_g la lo)), .unset, .unset] [(.ref b1)])
  refine own_st (fun τ κ => XS.iloadN X2.here hx rfl (hb hby d4_11) rfl κ) ?_
  show own_Go p e below _ T2 (mkF m 12 #[.val (.ref a1), .val (.int v), .val (.int lo), .val (.int (own_g la lo)), .unset, .unset] [(.int lo), (.ref b1)])
  refine own_st (fun τ κ => XS.iloadN X2.here hx rfl (hb hby d4_12) rfl κ) ?_
  show own_Go p e below _ T2 (mkF m 13 #[.val (.ref a1), .val (.int v), .val (.int lo), .val (.int (own_g la lo)), .unset, .unset] [(.int v), (.int lo), (.ref b1)])
  refine own_stI X2 hx hZ e2 A_b1 hlo.big N0 ga_b1 (hb hby d4_13) ?_
  intro T3 h3 X3 e3 B3 K3 N3
  have E_a1 := E_a1.keep K3
  have F_level_a1 := F_level_a1.keep K3 (ninS ne_a1_b1 nin0)
  have F_above_a1 := F_above_a1.keep K3 (ninS ne_a1_b1 nin0)
  have F_below_a1 := F_below_a1.keep K3 (ninS ne_a1_b1 nin0)
  have F_variables_a1 := F_variables_a1.keep K3 (ninS ne_a1_b1 nin0)
  have F_top_a1 := F_top_a1.keep K3 (ninS ne_a1_b1 nin0)
  have A_l1 := A_l1.keep K3 (ninS ne_l1_b1 nin0)
  have A_c1 := A_c1.keep K3 (ninS (Ne.symm ne_b1_c1) nin0)
  have A_b1 := B3
  have Z3 : n0 ≤ h3.size := Nat.le_trans Z0 K3.1
  have KK3 := K0.trans K3 (allS (Or.inl (List.mem_of_getElem? (i := 2) rfl)) all0)
  show own_Go p e below _ T3 (mkF m 14 #[.val (.ref a1), .val (.int v), .val (.int lo), .val (.int (own_g la lo)), .unset, .unset] [])
  have A_b1 := own_LI_set A_b1 (by rw [hla]; exact hlo.2.2)
  refine own_st (fun τ κ => XS.aloadN X3.here hx rfl (hb hby d4_14) rfl rfl κ) ?_
  show own_Go p e below _ T3 (mkF m 15 #[.val (.ref a1), .val (.int v), .val (.int lo), .val (.int (own_g la lo)), .unset, .unset] [(.ref a1)])
  refine own_getF X3 hx hZ e3 hown (hw _ (List.mem_of_getElem? (i := 16) rfl)) F_below_a1 (hb hby d4_15) ?_
  intro T4 X4 e4
  show own_Go p e below _ T4 (mkF m 18 #[.val (.ref a1), .val (.int v), .val (.int lo), .val (.int (own_g la lo)), .unset, .unset] [(.ref c1)])
  refine own_st (fun τ κ => XS.iloadN X4.here hx rfl (hb hby d4_18) rfl κ) ?_
  show own_Go p e below _ T4 (mkF m 19 #[.val (.ref a1), .val (.int v), .val (.int lo), .val (.int (own_g la lo)), .unset, .unset] [(.int v), (.ref c1)])
  refine own_st (fun τ κ => XS.iloadN X4.here hx rfl (hb hby d4_19) rfl κ) ?_
  show own_Go p e below _ T4 (mkF m 20 #[.val (.ref a1), .val (.int v), .val (.int lo), .val (.int (own_g la lo)), .unset, .unset] [(.int lo), (.int v), (.ref c1)])
  refine own_stI X4 hx hZ e4 A_c1 hv.big N3 ga_c1 (hb hby d4_20) ?_
  intro T5 h5 X5 e5 B5 K5 N5
  have E_a1 := E_a1.keep K5
  have F_level_a1 := F_level_a1.keep K5 (ninS ne_a1_c1 nin0)
  have F_above_a1 := F_above_a1.keep K5 (ninS ne_a1_c1 nin0)
  have F_below_a1 := F_below_a1.keep K5 (ninS ne_a1_c1 nin0)
  have F_variables_a1 := F_variables_a1.keep K5 (ninS ne_a1_c1 nin0)
  have F_top_a1 := F_top_a1.keep K5 (ninS ne_a1_c1 nin0)
  have A_l1 := A_l1.keep K5 (ninS ne_l1_c1 nin0)
  have A_b1 := A_b1.keep K5 (ninS ne_b1_c1 nin0)
  have A_c1 := B5
  have Z5 : n0 ≤ h5.size := Nat.le_trans Z3 K5.1
  have KK5 := KK3.trans K5 (allS (Or.inl (List.mem_of_getElem? (i := 3) rfl)) all0)
  show own_Go p e below _ T5 (mkF m 21 #[.val (.ref a1), .val (.int v), .val (.int lo), .val (.int (own_g la lo)), .unset, .unset] [])
  have A_c1 := own_LI_set A_c1 (by rw [hlb]; exact hv.2.2)
  refine own_st (fun τ κ => XS.aloadN X5.here hx rfl (hb hby d4_21) rfl rfl κ) ?_
  show own_Go p e below _ T5 (mkF m 22 #[.val (.ref a1), .val (.int v), .val (.int lo), .val (.int (own_g la lo)), .unset, .unset] [(.ref a1)])
  refine own_getF X5 hx hZ e5 hown (hw _ (List.mem_of_getElem? (i := 14) rfl)) F_above_a1 (hb hby d4_22) ?_
  intro T6 X6 e6
  show own_Go p e below _ T6 (mkF m 25 #[.val (.ref a1), .val (.int v), .val (.int lo), .val (.int (own_g la lo)), .unset, .unset] [(.ref b1)])
  refine own_st (fun τ κ => XS.iloadN X6.here hx rfl (hb hby d4_25) rfl κ) ?_
  show own_Go p e below _ T6 (mkF m 26 #[.val (.ref a1), .val (.int v), .val (.int lo), .val (.int (own_g la lo)), .unset, .unset] [(.int v), (.ref b1)])
  refine own_st (fun τ κ => XS.iloadN X6.here hx rfl (hb hby d4_26) rfl κ) ?_
  show own_Go p e below _ T6 (mkF m 27 #[.val (.ref a1), .val (.int v), .val (.int lo), .val (.int (own_g la lo)), .unset, .unset] [(.int (own_g la lo)), (.int v), (.ref b1)])
  refine own_stI X6 hx hZ e6 A_b1 hv.big N5 ga_b1 (hb hby d4_27) ?_
  intro T7 h7 X7 e7 B7 K7 N7
  have E_a1 := E_a1.keep K7
  have F_level_a1 := F_level_a1.keep K7 (ninS ne_a1_b1 nin0)
  have F_above_a1 := F_above_a1.keep K7 (ninS ne_a1_b1 nin0)
  have F_below_a1 := F_below_a1.keep K7 (ninS ne_a1_b1 nin0)
  have F_variables_a1 := F_variables_a1.keep K7 (ninS ne_a1_b1 nin0)
  have F_top_a1 := F_top_a1.keep K7 (ninS ne_a1_b1 nin0)
  have A_l1 := A_l1.keep K7 (ninS ne_l1_b1 nin0)
  have A_c1 := A_c1.keep K7 (ninS (Ne.symm ne_b1_c1) nin0)
  have A_b1 := B7
  have Z7 : n0 ≤ h7.size := Nat.le_trans Z5 K7.1
  have KK7 := KK5.trans K7 (allS (Or.inl (List.mem_of_getElem? (i := 2) rfl)) all0)
  show own_Go p e below _ T7 (mkF m 28 #[.val (.ref a1), .val (.int v), .val (.int lo), .val (.int (own_g la lo)), .unset, .unset] [])
  have A_b1 := own_LI_set A_b1 (by rw [own_u_len, hla]; exact hv.2.2)
  refine own_st (fun τ κ => XS.iloadN X7.here hx rfl (hb hby d4_28) rfl κ) ?_
  show own_Go p e below _ T7 (mkF m 29 #[.val (.ref a1), .val (.int v), .val (.int lo), .val (.int (own_g la lo)), .unset, .unset] [(.int (own_g la lo))])
  refine own_st (fun τ κ => XT.iconstV X7.here hx rfl (-1) (hb hby d4_29) (by decide) κ) ?_
  show own_Go p e below _ T7 (mkF m 30 #[.val (.ref a1), .val (.int v), .val (.int lo), .val (.int (own_g la lo)), .unset, .unset] [(.int (-1 : Int32)), (.int (own_g la lo))])
  by_cases hu : (own_g la lo) = (-1 : Int32)
  · refine own_st (fun τ κ => XS.icmpNo X7.here hx rfl (hb hby d4_30) rfl (XT.ii_ne_f hu) κ) ?_
    show own_Go p e below _ T7 (mkF m 33 #[.val (.ref a1), .val (.int v), .val (.int lo), .val (.int (own_g la lo)), .unset, .unset] [])
    refine own_st (fun τ κ => XS.aloadN X7.here hx rfl (hb hby d4_33) rfl rfl κ) ?_
    show own_Go p e below _ T7 (mkF m 34 #[.val (.ref a1), .val (.int v), .val (.int lo), .val (.int (own_g la lo)), .unset, .unset] [(.ref a1)])
    refine own_st (fun τ κ => XS.iloadN X7.here hx rfl (hb hby d4_34) rfl κ) ?_
    show own_Go p e below _ T7 (mkF m 35 #[.val (.ref a1), .val (.int v), .val (.int lo), .val (.int (own_g la lo)), .unset, .unset] [(.int v), (.ref a1)])
    refine own_putF X7 hx hZ e7 hown (hw _ (List.mem_of_getElem? (i := 20) rfl)) F_top_a1 E_a1 (Or.inl (hw _ (List.mem_of_getElem? (i := 21) rfl))) (hw _ (List.mem_of_getElem? (i := 3) rfl)) (ty := .int) (by decide) rfl rfl N7 ga_a1 (hb hby d4_35) ?_
    intro T8 h8 X8 e8 W8 N8
    have E_a1 := E_a1.wr W8
    have F_level_a1 := F_level_a1.other W8 (Or.inr (slot_ne (Or.inl (hw _ (List.mem_of_getElem? (i := 13) rfl))) (Or.inl (hw _ (List.mem_of_getElem? (i := 21) rfl))) (by decide) (t := (.array .long)) (t' := .int) (by decide) (by decide)))
    have F_above_a1 := F_above_a1.other W8 (Or.inr (slot_ne (Or.inl (hw _ (List.mem_of_getElem? (i := 15) rfl))) (Or.inl (hw _ (List.mem_of_getElem? (i := 21) rfl))) (by decide) (t := (.array .int)) (t' := .int) (by decide) (by decide)))
    have F_below_a1 := F_below_a1.other W8 (Or.inr (slot_ne (Or.inl (hw _ (List.mem_of_getElem? (i := 17) rfl))) (Or.inl (hw _ (List.mem_of_getElem? (i := 21) rfl))) (by decide) (t := (.array .int)) (t' := .int) (by decide) (by decide)))
    have F_variables_a1 := F_variables_a1.other W8 (Or.inr (slot_ne (Or.inl (hw _ (List.mem_of_getElem? (i := 19) rfl))) (Or.inl (hw _ (List.mem_of_getElem? (i := 21) rfl))) (by decide) (t := .int) (t' := .int) (by decide) (by decide)))
    have F_top_a1 := F_top_a1.same W8
    have A_l1 := A_l1.keep (Keep.of_wr W8) (ninS (Ne.symm ne_a1_l1) nin0)
    have A_b1 := A_b1.keep (Keep.of_wr W8) (ninS (Ne.symm ne_a1_b1) nin0)
    have A_c1 := A_c1.keep (Keep.of_wr W8) (ninS (Ne.symm ne_a1_c1) nin0)
    have Z8 : n0 ≤ h8.size := Nat.le_trans Z7 (Keep.of_wr W8).1
    have K8 := KK7.wr W8 (Or.inl (List.mem_of_getElem? (i := 0) rfl))
    show own_Go p e below _ T8 (mkF m 38 #[.val (.ref a1), .val (.int v), .val (.int lo), .val (.int (own_g la lo)), .unset, .unset] [])
    refine own_st (fun τ κ => XS.goto X8.here hx rfl (pc0 := 38) (pc' := 48) rfl (hb hby d4_38) (by decide) (by decide) κ) ?_
    show own_Go p e below _ T8 (mkF m 48 #[.val (.ref a1), .val (.int v), .val (.int lo), .val (.int (own_g la lo)), .unset, .unset] [])
    refine own_st (fun τ κ => XS.iloadN X8.here hx rfl (hb hby d4_48) rfl κ) ?_
    show own_Go p e below _ T8 (mkF m 49 #[.val (.ref a1), .val (.int v), .val (.int lo), .val (.int (own_g la lo)), .unset, .unset] [(.int (own_g la lo))])
    refine own_st (fun τ κ => XT.iconstV X8.here hx rfl (-1) (hb hby d4_49) (by decide) κ) ?_
    show own_Go p e below _ T8 (mkF m 50 #[.val (.ref a1), .val (.int v), .val (.int lo), .val (.int (own_g la lo)), .unset, .unset] [(.int (-1 : Int32)), (.int (own_g la lo))])
    refine own_st (fun τ κ => XS.icmpNo X8.here hx rfl (hb hby d4_50) rfl (XT.ii_ne_f hu) κ) ?_
    show own_Go p e below _ T8 (mkF m 53 #[.val (.ref a1), .val (.int v), .val (.int lo), .val (.int (own_g la lo)), .unset, .unset] [])
    refine own_st (fun τ κ => Stand.ldc2J X8 hx hown (mvT hZ (hw _ (List.mem_of_getElem? (i := 31) rfl))) rfl (hb hby d4_53) κ) ?_
    show own_Go p e below _ T8 (mkF m 56 #[.val (.ref a1), .val (.int v), .val (.int lo), .val (.int (own_g la lo)), .unset, .unset] [(.long (4611686018427387904 : Int64))])
    refine own_st (fun τ κ => XS.goto X8.here hx rfl (pc0 := 56) (pc' := 65) rfl (hb hby d4_56) (by decide) (by decide) κ) ?_
    show own_Go p e below _ T8 (mkF m 65 #[.val (.ref a1), .val (.int v), .val (.int lo), .val (.int (own_g la lo)), .unset, .unset] [(.long (4611686018427387904 : Int64))])
    refine own_st (fun τ κ => XS.lstore X8.here hx rfl (hb hby d4_65) rfl (l' := #[.val (.ref a1), .val (.int v), .val (.int lo), .val (.int (own_g la lo)), .val (.long (4611686018427387904 : Int64)), .second]) rfl κ) ?_
    show own_Go p e below _ T8 (mkF m 67 #[.val (.ref a1), .val (.int v), .val (.int lo), .val (.int (own_g la lo)), .val (.long (4611686018427387904 : Int64)), .second] [])
    refine own_st (fun τ κ => XS.lload X8.here hx rfl (hb hby d4_67) rfl κ) ?_
    show own_Go p e below _ T8 (mkF m 69 #[.val (.ref a1), .val (.int v), .val (.int lo), .val (.int (own_g la lo)), .val (.long (4611686018427387904 : Int64)), .second] [(.long (4611686018427387904 : Int64))])
    refine own_st (fun τ κ => XS.aloadN X8.here hx rfl (hb hby d4_69) rfl rfl κ) ?_
    show own_Go p e below _ T8 (mkF m 70 #[.val (.ref a1), .val (.int v), .val (.int lo), .val (.int (own_g la lo)), .val (.long (4611686018427387904 : Int64)), .second] [(.ref a1), (.long (4611686018427387904 : Int64))])
    have hceil : own_ceil la ll lo = (4611686018427387904 : Int64) := if_pos hu
    refine own_getF X8 hx hZ e8 hown (hw _ (List.mem_of_getElem? (i := 12) rfl)) F_level_a1 (hb hby d4_70) ?_
    intro T12 X12 e12
    show own_Go p e below _ T12 (mkF m 73 #[.val (.ref a1), .val (.int v), .val (.int lo), .val (.int (own_g la lo)), .val (.long (4611686018427387904 : Int64)), .second] [(.ref l1), (.long (4611686018427387904 : Int64))])
    refine own_st (fun τ κ => XS.iloadN X12.here hx rfl (hb hby d4_73) rfl κ) ?_
    show own_Go p e below _ T12 (mkF m 74 #[.val (.ref a1), .val (.int v), .val (.int lo), .val (.int (own_g la lo)), .val (.long (4611686018427387904 : Int64)), .second] [(.int lo), (.ref l1), (.long (4611686018427387904 : Int64))])
    refine own_ldJ X12 hx hZ e12 A_l1 hlo.big (x := (own_gJ ll lo)) rfl (hb hby d4_74) ?_
    show own_Go p e below _ T12 (mkF m 75 #[.val (.ref a1), .val (.int v), .val (.int lo), .val (.int (own_g la lo)), .val (.long (4611686018427387904 : Int64)), .second] [(.long (own_gJ ll lo)), (.long (4611686018427387904 : Int64))])
    refine own_st (fun τ κ => XS.lsub X12.here hx rfl (hb hby d4_75) rfl κ) ?_
    show own_Go p e below _ T12 (mkF m 76 #[.val (.ref a1), .val (.int v), .val (.int lo), .val (.int (own_g la lo)), .val (.long (4611686018427387904 : Int64)), .second] [(.long ((4611686018427387904 : Int64) - (own_gJ ll lo)))])
    refine own_st (fun τ κ => Stand.ldc2J X12 hx hown (mvT hZ (hw _ (List.mem_of_getElem? (i := 32) rfl))) rfl (hb hby d4_76) κ) ?_
    show own_Go p e below _ T12 (mkF m 79 #[.val (.ref a1), .val (.int v), .val (.int lo), .val (.int (own_g la lo)), .val (.long (4611686018427387904 : Int64)), .second] [(.long (2 : Int64)), (.long ((4611686018427387904 : Int64) - (own_gJ ll lo)))])
    refine own_st (fun τ κ => XT.lcmp X12.here hx rfl (hb hby d4_79) rfl κ) ?_
    show own_Go p e below _ T12 (mkF m 80 #[.val (.ref a1), .val (.int v), .val (.int lo), .val (.int (own_g la lo)), .val (.long (4611686018427387904 : Int64)), .second] [(.int (XT.cmpL ((4611686018427387904 : Int64) - (own_gJ ll lo)) (2 : Int64)))])
    rw [hceil] at hgap
    refine own_st (fun τ κ => XS.ifNo X12.here hx rfl (hb hby d4_80) rfl (XT.ll_lt_f hgap) κ) ?_
    show own_Go p e below _ T12 (mkF m 83 #[.val (.ref a1), .val (.int v), .val (.int lo), .val (.int (own_g la lo)), .val (.long (4611686018427387904 : Int64)), .second] [])
    refine own_st (fun τ κ => XS.aloadN X12.here hx rfl (hb hby d4_83) rfl rfl κ) ?_
    show own_Go p e below _ T12 (mkF m 84 #[.val (.ref a1), .val (.int v), .val (.int lo), .val (.int (own_g la lo)), .val (.long (4611686018427387904 : Int64)), .second] [(.ref a1)])
    refine own_getF X12 hx hZ e12 hown (hw _ (List.mem_of_getElem? (i := 12) rfl)) F_level_a1 (hb hby d4_84) ?_
    intro T13 X13 e13
    show own_Go p e below _ T13 (mkF m 87 #[.val (.ref a1), .val (.int v), .val (.int lo), .val (.int (own_g la lo)), .val (.long (4611686018427387904 : Int64)), .second] [(.ref l1)])
    refine own_st (fun τ κ => XS.iloadN X13.here hx rfl (hb hby d4_87) rfl κ) ?_
    show own_Go p e below _ T13 (mkF m 88 #[.val (.ref a1), .val (.int v), .val (.int lo), .val (.int (own_g la lo)), .val (.long (4611686018427387904 : Int64)), .second] [(.int v), (.ref l1)])
    refine own_st (fun τ κ => XS.aloadN X13.here hx rfl (hb hby d4_88) rfl rfl κ) ?_
    show own_Go p e below _ T13 (mkF m 89 #[.val (.ref a1), .val (.int v), .val (.int lo), .val (.int (own_g la lo)), .val (.long (4611686018427387904 : Int64)), .second] [(.ref a1), (.int v), (.ref l1)])
    refine own_getF X13 hx hZ e13 hown (hw _ (List.mem_of_getElem? (i := 12) rfl)) F_level_a1 (hb hby d4_89) ?_
    intro T14 X14 e14
    show own_Go p e below _ T14 (mkF m 92 #[.val (.ref a1), .val (.int v), .val (.int lo), .val (.int (own_g la lo)), .val (.long (4611686018427387904 : Int64)), .second] [(.ref l1), (.int v), (.ref l1)])
    refine own_st (fun τ κ => XS.iloadN X14.here hx rfl (hb hby d4_92) rfl κ) ?_
    show own_Go p e below _ T14 (mkF m 93 #[.val (.ref a1), .val (.int v), .val (.int lo), .val (.int (own_g la lo)), .val (.long (4611686018427387904 : Int64)), .second] [(.int lo), (.ref l1), (.int v), (.ref l1)])
    refine own_ldJ X14 hx hZ e14 A_l1 hlo.big (x := (own_gJ ll lo)) rfl (hb hby d4_93) ?_
    show own_Go p e below _ T14 (mkF m 94 #[.val (.ref a1), .val (.int v), .val (.int lo), .val (.int (own_g la lo)), .val (.long (4611686018427387904 : Int64)), .second] [(.long (own_gJ ll lo)), (.int v), (.ref l1)])
    refine own_st (fun τ κ => XS.lload X14.here hx rfl (hb hby d4_94) rfl κ) ?_
    show own_Go p e below _ T14 (mkF m 96 #[.val (.ref a1), .val (.int v), .val (.int lo), .val (.int (own_g la lo)), .val (.long (4611686018427387904 : Int64)), .second] [(.long (4611686018427387904 : Int64)), (.long (own_gJ ll lo)), (.int v), (.ref l1)])
    refine own_st (fun τ κ => XS.aloadN X14.here hx rfl (hb hby d4_96) rfl rfl κ) ?_
    show own_Go p e below _ T14 (mkF m 97 #[.val (.ref a1), .val (.int v), .val (.int lo), .val (.int (own_g la lo)), .val (.long (4611686018427387904 : Int64)), .second] [(.ref a1), (.long (4611686018427387904 : Int64)), (.long (own_gJ ll lo)), (.int v), (.ref l1)])
    refine own_getF X14 hx hZ e14 hown (hw _ (List.mem_of_getElem? (i := 12) rfl)) F_level_a1 (hb hby d4_97) ?_
    intro T15 X15 e15
    show own_Go p e below _ T15 (mkF m 100 #[.val (.ref a1), .val (.int v), .val (.int lo), .val (.int (own_g la lo)), .val (.long (4611686018427387904 : Int64)), .second] [(.ref l1), (.long (4611686018427387904 : Int64)), (.long (own_gJ ll lo)), (.int v), (.ref l1)])
    refine own_st (fun τ κ => XS.iloadN X15.here hx rfl (hb hby d4_100) rfl κ) ?_
    show own_Go p e below _ T15 (mkF m 101 #[.val (.ref a1), .val (.int v), .val (.int lo), .val (.int (own_g la lo)), .val (.long (4611686018427387904 : Int64)), .second] [(.int lo), (.ref l1), (.long (4611686018427387904 : Int64)), (.long (own_gJ ll lo)), (.int v), (.ref l1)])
    refine own_ldJ X15 hx hZ e15 A_l1 hlo.big (x := (own_gJ ll lo)) rfl (hb hby d4_101) ?_
    show own_Go p e below _ T15 (mkF m 102 #[.val (.ref a1), .val (.int v), .val (.int lo), .val (.int (own_g la lo)), .val (.long (4611686018427387904 : Int64)), .second] [(.long (own_gJ ll lo)), (.long (4611686018427387904 : Int64)), (.long (own_gJ ll lo)), (.int v), (.ref l1)])
    refine own_st (fun τ κ => XS.lsub X15.here hx rfl (hb hby d4_102) rfl κ) ?_
    show own_Go p e below _ T15 (mkF m 103 #[.val (.ref a1), .val (.int v), .val (.int lo), .val (.int (own_g la lo)), .val (.long (4611686018427387904 : Int64)), .second] [(.long ((4611686018427387904 : Int64) - (own_gJ ll lo))), (.long (own_gJ ll lo)), (.int v), (.ref l1)])
    refine own_st (fun τ κ => Stand.ldc2J X15 hx hown (mvT hZ (hw _ (List.mem_of_getElem? (i := 32) rfl))) rfl (hb hby d4_103) κ) ?_
    show own_Go p e below _ T15 (mkF m 106 #[.val (.ref a1), .val (.int v), .val (.int lo), .val (.int (own_g la lo)), .val (.long (4611686018427387904 : Int64)), .second] [(.long (2 : Int64)), (.long ((4611686018427387904 : Int64) - (own_gJ ll lo))), (.long (own_gJ ll lo)), (.int v), (.ref l1)])
    refine own_st (fun τ κ => XS.ldiv X15.here hx rfl (hb hby d4_106) rfl (by decide) κ) ?_
    show own_Go p e below _ T15 (mkF m 107 #[.val (.ref a1), .val (.int v), .val (.int lo), .val (.int (own_g la lo)), .val (.long (4611686018427387904 : Int64)), .second] [(.long (((4611686018427387904 : Int64) - (own_gJ ll lo)) / (2 : Int64))), (.long (own_gJ ll lo)), (.int v), (.ref l1)])
    refine own_st (fun τ κ => XS.ladd X15.here hx rfl (hb hby d4_107) rfl κ) ?_
    show own_Go p e below _ T15 (mkF m 108 #[.val (.ref a1), .val (.int v), .val (.int lo), .val (.int (own_g la lo)), .val (.long (4611686018427387904 : Int64)), .second] [(.long ((own_gJ ll lo) + (((4611686018427387904 : Int64) - (own_gJ ll lo)) / (2 : Int64)))), (.int v), (.ref l1)])
    refine own_stJ X15 hx hZ e15 A_l1 hv.big N8 ga_l1 (hb hby d4_108) ?_
    intro T16 h16 X16 e16 B16 K16 N16
    have E_a1 := E_a1.keep K16
    have F_level_a1 := F_level_a1.keep K16 (ninS ne_a1_l1 nin0)
    have F_above_a1 := F_above_a1.keep K16 (ninS ne_a1_l1 nin0)
    have F_below_a1 := F_below_a1.keep K16 (ninS ne_a1_l1 nin0)
    have F_variables_a1 := F_variables_a1.keep K16 (ninS ne_a1_l1 nin0)
    have F_top_a1 := F_top_a1.keep K16 (ninS ne_a1_l1 nin0)
    have A_b1 := A_b1.keep K16 (ninS (Ne.symm ne_l1_b1) nin0)
    have A_c1 := A_c1.keep K16 (ninS (Ne.symm ne_l1_c1) nin0)
    have A_l1 := B16
    have Z16 : n0 ≤ h16.size := Nat.le_trans Z8 K16.1
    have KK16 := K8.trans K16 (allS (Or.inl (List.mem_of_getElem? (i := 1) rfl)) all0)
    show own_Go p e below _ T16 (mkF m 109 #[.val (.ref a1), .val (.int v), .val (.int lo), .val (.int (own_g la lo)), .val (.long (4611686018427387904 : Int64)), .second] [])
    have A_l1 := own_LJ_set A_l1 (by rw [hll]; exact hv.2.2)
    refine own_st (fun τ κ => XS.goto X16.here hx rfl (pc0 := 109) (pc' := 118) rfl (hb hby d4_109) (by decide) (by decide) κ) ?_
    show own_Go p e below _ T16 (mkF m 118 #[.val (.ref a1), .val (.int v), .val (.int lo), .val (.int (own_g la lo)), .val (.long (4611686018427387904 : Int64)), .second] [])
    have hB : own_insB la lb v lo = _ := if_pos hu
    have hL : own_insL la ll v lo = own_uJ ll v (own_gJ ll lo + (((4611686018427387904 : Int64) - own_gJ ll lo) / (2 : Int64))) := by rw [own_insL, hceil]
    refine own_retV X16 hx hlk hret (by decide) (by decide) (hb hby d4_118) ?_
    rw [e16, hB, hL]
    exact ⟨rfl, N16, KK16, ⟨E_a1, F_level_a1, F_above_a1, F_below_a1, F_variables_a1, ⟨_, F_top_a1⟩, A_l1, A_b1, A_c1⟩⟩
  · refine own_st (fun τ κ => XS.icmpYes X7.here hx rfl (pc0 := 30) (pc' := 41) rfl (hb hby d4_30) rfl (XT.ii_ne_t hu) (by decide) (by decide) κ) ?_
    show own_Go p e below _ T7 (mkF m 41 #[.val (.ref a1), .val (.int v), .val (.int lo), .val (.int (own_g la lo)), .unset, .unset] [])
    refine own_st (fun τ κ => XS.aloadN X7.here hx rfl (hb hby d4_41) rfl rfl κ) ?_
    show own_Go p e below _ T7 (mkF m 42 #[.val (.ref a1), .val (.int v), .val (.int lo), .val (.int (own_g la lo)), .unset, .unset] [(.ref a1)])
    refine own_getF X7 hx hZ e7 hown (hw _ (List.mem_of_getElem? (i := 16) rfl)) F_below_a1 (hb hby d4_42) ?_
    intro T9 X9 e9
    show own_Go p e below _ T9 (mkF m 45 #[.val (.ref a1), .val (.int v), .val (.int lo), .val (.int (own_g la lo)), .unset, .unset] [(.ref c1)])
    refine own_st (fun τ κ => XS.iloadN X9.here hx rfl (hb hby d4_45) rfl κ) ?_
    show own_Go p e below _ T9 (mkF m 46 #[.val (.ref a1), .val (.int v), .val (.int lo), .val (.int (own_g la lo)), .unset, .unset] [(.int (own_g la lo)), (.ref c1)])
    refine own_st (fun τ κ => XS.iloadN X9.here hx rfl (hb hby d4_46) rfl κ) ?_
    show own_Go p e below _ T9 (mkF m 47 #[.val (.ref a1), .val (.int v), .val (.int lo), .val (.int (own_g la lo)), .unset, .unset] [(.int v), (.int (own_g la lo)), (.ref c1)])
    have hup' : own_in (own_g la lo) := hup.resolve_left hu
    refine own_stI X9 hx hZ e9 A_c1 hup'.big N7 ga_c1 (hb hby d4_47) ?_
    intro T10 h10 X10 e10 B10 K10 N10
    have E_a1 := E_a1.keep K10
    have F_level_a1 := F_level_a1.keep K10 (ninS ne_a1_c1 nin0)
    have F_above_a1 := F_above_a1.keep K10 (ninS ne_a1_c1 nin0)
    have F_below_a1 := F_below_a1.keep K10 (ninS ne_a1_c1 nin0)
    have F_variables_a1 := F_variables_a1.keep K10 (ninS ne_a1_c1 nin0)
    have F_top_a1 := F_top_a1.keep K10 (ninS ne_a1_c1 nin0)
    have A_l1 := A_l1.keep K10 (ninS ne_l1_c1 nin0)
    have A_b1 := A_b1.keep K10 (ninS ne_b1_c1 nin0)
    have A_c1 := B10
    have Z10 : n0 ≤ h10.size := Nat.le_trans Z7 K10.1
    have KK10 := KK7.trans K10 (allS (Or.inl (List.mem_of_getElem? (i := 3) rfl)) all0)
    show own_Go p e below _ T10 (mkF m 48 #[.val (.ref a1), .val (.int v), .val (.int lo), .val (.int (own_g la lo)), .unset, .unset] [])
    have A_c1 := own_LI_set A_c1 (by rw [own_u_len, hlb]; exact hup'.2.2)
    refine own_st (fun τ κ => XS.iloadN X10.here hx rfl (hb hby d4_48) rfl κ) ?_
    show own_Go p e below _ T10 (mkF m 49 #[.val (.ref a1), .val (.int v), .val (.int lo), .val (.int (own_g la lo)), .unset, .unset] [(.int (own_g la lo))])
    refine own_st (fun τ κ => XT.iconstV X10.here hx rfl (-1) (hb hby d4_49) (by decide) κ) ?_
    show own_Go p e below _ T10 (mkF m 50 #[.val (.ref a1), .val (.int v), .val (.int lo), .val (.int (own_g la lo)), .unset, .unset] [(.int (-1 : Int32)), (.int (own_g la lo))])
    refine own_st (fun τ κ => XS.icmpYes X10.here hx rfl (pc0 := 50) (pc' := 59) rfl (hb hby d4_50) rfl (XT.ii_ne_t hu) (by decide) (by decide) κ) ?_
    show own_Go p e below _ T10 (mkF m 59 #[.val (.ref a1), .val (.int v), .val (.int lo), .val (.int (own_g la lo)), .unset, .unset] [])
    refine own_st (fun τ κ => XS.aloadN X10.here hx rfl (hb hby d4_59) rfl rfl κ) ?_
    show own_Go p e below _ T10 (mkF m 60 #[.val (.ref a1), .val (.int v), .val (.int lo), .val (.int (own_g la lo)), .unset, .unset] [(.ref a1)])
    refine own_getF X10 hx hZ e10 hown (hw _ (List.mem_of_getElem? (i := 12) rfl)) F_level_a1 (hb hby d4_60) ?_
    intro T11 X11 e11
    show own_Go p e below _ T11 (mkF m 63 #[.val (.ref a1), .val (.int v), .val (.int lo), .val (.int (own_g la lo)), .unset, .unset] [(.ref l1)])
    refine own_st (fun τ κ => XS.iloadN X11.here hx rfl (hb hby d4_63) rfl κ) ?_
    show own_Go p e below _ T11 (mkF m 64 #[.val (.ref a1), .val (.int v), .val (.int lo), .val (.int (own_g la lo)), .unset, .unset] [(.int (own_g la lo)), (.ref l1)])
    refine own_ldJ X11 hx hZ e11 A_l1 hup'.big (x := (own_gJ ll (own_g la lo))) rfl (hb hby d4_64) ?_
    show own_Go p e below _ T11 (mkF m 65 #[.val (.ref a1), .val (.int v), .val (.int lo), .val (.int (own_g la lo)), .unset, .unset] [(.long (own_gJ ll (own_g la lo)))])
    refine own_st (fun τ κ => XS.lstore X11.here hx rfl (hb hby d4_65) rfl (l' := #[.val (.ref a1), .val (.int v), .val (.int lo), .val (.int (own_g la lo)), .val (.long (own_gJ ll (own_g la lo))), .second]) rfl κ) ?_
    show own_Go p e below _ T11 (mkF m 67 #[.val (.ref a1), .val (.int v), .val (.int lo), .val (.int (own_g la lo)), .val (.long (own_gJ ll (own_g la lo))), .second] [])
    refine own_st (fun τ κ => XS.lload X11.here hx rfl (hb hby d4_67) rfl κ) ?_
    show own_Go p e below _ T11 (mkF m 69 #[.val (.ref a1), .val (.int v), .val (.int lo), .val (.int (own_g la lo)), .val (.long (own_gJ ll (own_g la lo))), .second] [(.long (own_gJ ll (own_g la lo)))])
    refine own_st (fun τ κ => XS.aloadN X11.here hx rfl (hb hby d4_69) rfl rfl κ) ?_
    show own_Go p e below _ T11 (mkF m 70 #[.val (.ref a1), .val (.int v), .val (.int lo), .val (.int (own_g la lo)), .val (.long (own_gJ ll (own_g la lo))), .second] [(.ref a1), (.long (own_gJ ll (own_g la lo)))])
    have hceil : own_ceil la ll lo = (own_gJ ll (own_g la lo)) := if_neg hu
    refine own_getF X11 hx hZ e11 hown (hw _ (List.mem_of_getElem? (i := 12) rfl)) F_level_a1 (hb hby d4_70) ?_
    intro T17 X17 e17
    show own_Go p e below _ T17 (mkF m 73 #[.val (.ref a1), .val (.int v), .val (.int lo), .val (.int (own_g la lo)), .val (.long (own_gJ ll (own_g la lo))), .second] [(.ref l1), (.long (own_gJ ll (own_g la lo)))])
    refine own_st (fun τ κ => XS.iloadN X17.here hx rfl (hb hby d4_73) rfl κ) ?_
    show own_Go p e below _ T17 (mkF m 74 #[.val (.ref a1), .val (.int v), .val (.int lo), .val (.int (own_g la lo)), .val (.long (own_gJ ll (own_g la lo))), .second] [(.int lo), (.ref l1), (.long (own_gJ ll (own_g la lo)))])
    refine own_ldJ X17 hx hZ e17 A_l1 hlo.big (x := (own_gJ ll lo)) rfl (hb hby d4_74) ?_
    show own_Go p e below _ T17 (mkF m 75 #[.val (.ref a1), .val (.int v), .val (.int lo), .val (.int (own_g la lo)), .val (.long (own_gJ ll (own_g la lo))), .second] [(.long (own_gJ ll lo)), (.long (own_gJ ll (own_g la lo)))])
    refine own_st (fun τ κ => XS.lsub X17.here hx rfl (hb hby d4_75) rfl κ) ?_
    show own_Go p e below _ T17 (mkF m 76 #[.val (.ref a1), .val (.int v), .val (.int lo), .val (.int (own_g la lo)), .val (.long (own_gJ ll (own_g la lo))), .second] [(.long ((own_gJ ll (own_g la lo)) - (own_gJ ll lo)))])
    refine own_st (fun τ κ => Stand.ldc2J X17 hx hown (mvT hZ (hw _ (List.mem_of_getElem? (i := 32) rfl))) rfl (hb hby d4_76) κ) ?_
    show own_Go p e below _ T17 (mkF m 79 #[.val (.ref a1), .val (.int v), .val (.int lo), .val (.int (own_g la lo)), .val (.long (own_gJ ll (own_g la lo))), .second] [(.long (2 : Int64)), (.long ((own_gJ ll (own_g la lo)) - (own_gJ ll lo)))])
    refine own_st (fun τ κ => XT.lcmp X17.here hx rfl (hb hby d4_79) rfl κ) ?_
    show own_Go p e below _ T17 (mkF m 80 #[.val (.ref a1), .val (.int v), .val (.int lo), .val (.int (own_g la lo)), .val (.long (own_gJ ll (own_g la lo))), .second] [(.int (XT.cmpL ((own_gJ ll (own_g la lo)) - (own_gJ ll lo)) (2 : Int64)))])
    rw [hceil] at hgap
    refine own_st (fun τ κ => XS.ifNo X17.here hx rfl (hb hby d4_80) rfl (XT.ll_lt_f hgap) κ) ?_
    show own_Go p e below _ T17 (mkF m 83 #[.val (.ref a1), .val (.int v), .val (.int lo), .val (.int (own_g la lo)), .val (.long (own_gJ ll (own_g la lo))), .second] [])
    refine own_st (fun τ κ => XS.aloadN X17.here hx rfl (hb hby d4_83) rfl rfl κ) ?_
    show own_Go p e below _ T17 (mkF m 84 #[.val (.ref a1), .val (.int v), .val (.int lo), .val (.int (own_g la lo)), .val (.long (own_gJ ll (own_g la lo))), .second] [(.ref a1)])
    refine own_getF X17 hx hZ e17 hown (hw _ (List.mem_of_getElem? (i := 12) rfl)) F_level_a1 (hb hby d4_84) ?_
    intro T18 X18 e18
    show own_Go p e below _ T18 (mkF m 87 #[.val (.ref a1), .val (.int v), .val (.int lo), .val (.int (own_g la lo)), .val (.long (own_gJ ll (own_g la lo))), .second] [(.ref l1)])
    refine own_st (fun τ κ => XS.iloadN X18.here hx rfl (hb hby d4_87) rfl κ) ?_
    show own_Go p e below _ T18 (mkF m 88 #[.val (.ref a1), .val (.int v), .val (.int lo), .val (.int (own_g la lo)), .val (.long (own_gJ ll (own_g la lo))), .second] [(.int v), (.ref l1)])
    refine own_st (fun τ κ => XS.aloadN X18.here hx rfl (hb hby d4_88) rfl rfl κ) ?_
    show own_Go p e below _ T18 (mkF m 89 #[.val (.ref a1), .val (.int v), .val (.int lo), .val (.int (own_g la lo)), .val (.long (own_gJ ll (own_g la lo))), .second] [(.ref a1), (.int v), (.ref l1)])
    refine own_getF X18 hx hZ e18 hown (hw _ (List.mem_of_getElem? (i := 12) rfl)) F_level_a1 (hb hby d4_89) ?_
    intro T19 X19 e19
    show own_Go p e below _ T19 (mkF m 92 #[.val (.ref a1), .val (.int v), .val (.int lo), .val (.int (own_g la lo)), .val (.long (own_gJ ll (own_g la lo))), .second] [(.ref l1), (.int v), (.ref l1)])
    refine own_st (fun τ κ => XS.iloadN X19.here hx rfl (hb hby d4_92) rfl κ) ?_
    show own_Go p e below _ T19 (mkF m 93 #[.val (.ref a1), .val (.int v), .val (.int lo), .val (.int (own_g la lo)), .val (.long (own_gJ ll (own_g la lo))), .second] [(.int lo), (.ref l1), (.int v), (.ref l1)])
    refine own_ldJ X19 hx hZ e19 A_l1 hlo.big (x := (own_gJ ll lo)) rfl (hb hby d4_93) ?_
    show own_Go p e below _ T19 (mkF m 94 #[.val (.ref a1), .val (.int v), .val (.int lo), .val (.int (own_g la lo)), .val (.long (own_gJ ll (own_g la lo))), .second] [(.long (own_gJ ll lo)), (.int v), (.ref l1)])
    refine own_st (fun τ κ => XS.lload X19.here hx rfl (hb hby d4_94) rfl κ) ?_
    show own_Go p e below _ T19 (mkF m 96 #[.val (.ref a1), .val (.int v), .val (.int lo), .val (.int (own_g la lo)), .val (.long (own_gJ ll (own_g la lo))), .second] [(.long (own_gJ ll (own_g la lo))), (.long (own_gJ ll lo)), (.int v), (.ref l1)])
    refine own_st (fun τ κ => XS.aloadN X19.here hx rfl (hb hby d4_96) rfl rfl κ) ?_
    show own_Go p e below _ T19 (mkF m 97 #[.val (.ref a1), .val (.int v), .val (.int lo), .val (.int (own_g la lo)), .val (.long (own_gJ ll (own_g la lo))), .second] [(.ref a1), (.long (own_gJ ll (own_g la lo))), (.long (own_gJ ll lo)), (.int v), (.ref l1)])
    refine own_getF X19 hx hZ e19 hown (hw _ (List.mem_of_getElem? (i := 12) rfl)) F_level_a1 (hb hby d4_97) ?_
    intro T20 X20 e20
    show own_Go p e below _ T20 (mkF m 100 #[.val (.ref a1), .val (.int v), .val (.int lo), .val (.int (own_g la lo)), .val (.long (own_gJ ll (own_g la lo))), .second] [(.ref l1), (.long (own_gJ ll (own_g la lo))), (.long (own_gJ ll lo)), (.int v), (.ref l1)])
    refine own_st (fun τ κ => XS.iloadN X20.here hx rfl (hb hby d4_100) rfl κ) ?_
    show own_Go p e below _ T20 (mkF m 101 #[.val (.ref a1), .val (.int v), .val (.int lo), .val (.int (own_g la lo)), .val (.long (own_gJ ll (own_g la lo))), .second] [(.int lo), (.ref l1), (.long (own_gJ ll (own_g la lo))), (.long (own_gJ ll lo)), (.int v), (.ref l1)])
    refine own_ldJ X20 hx hZ e20 A_l1 hlo.big (x := (own_gJ ll lo)) rfl (hb hby d4_101) ?_
    show own_Go p e below _ T20 (mkF m 102 #[.val (.ref a1), .val (.int v), .val (.int lo), .val (.int (own_g la lo)), .val (.long (own_gJ ll (own_g la lo))), .second] [(.long (own_gJ ll lo)), (.long (own_gJ ll (own_g la lo))), (.long (own_gJ ll lo)), (.int v), (.ref l1)])
    refine own_st (fun τ κ => XS.lsub X20.here hx rfl (hb hby d4_102) rfl κ) ?_
    show own_Go p e below _ T20 (mkF m 103 #[.val (.ref a1), .val (.int v), .val (.int lo), .val (.int (own_g la lo)), .val (.long (own_gJ ll (own_g la lo))), .second] [(.long ((own_gJ ll (own_g la lo)) - (own_gJ ll lo))), (.long (own_gJ ll lo)), (.int v), (.ref l1)])
    refine own_st (fun τ κ => Stand.ldc2J X20 hx hown (mvT hZ (hw _ (List.mem_of_getElem? (i := 32) rfl))) rfl (hb hby d4_103) κ) ?_
    show own_Go p e below _ T20 (mkF m 106 #[.val (.ref a1), .val (.int v), .val (.int lo), .val (.int (own_g la lo)), .val (.long (own_gJ ll (own_g la lo))), .second] [(.long (2 : Int64)), (.long ((own_gJ ll (own_g la lo)) - (own_gJ ll lo))), (.long (own_gJ ll lo)), (.int v), (.ref l1)])
    refine own_st (fun τ κ => XS.ldiv X20.here hx rfl (hb hby d4_106) rfl (by decide) κ) ?_
    show own_Go p e below _ T20 (mkF m 107 #[.val (.ref a1), .val (.int v), .val (.int lo), .val (.int (own_g la lo)), .val (.long (own_gJ ll (own_g la lo))), .second] [(.long (((own_gJ ll (own_g la lo)) - (own_gJ ll lo)) / (2 : Int64))), (.long (own_gJ ll lo)), (.int v), (.ref l1)])
    refine own_st (fun τ κ => XS.ladd X20.here hx rfl (hb hby d4_107) rfl κ) ?_
    show own_Go p e below _ T20 (mkF m 108 #[.val (.ref a1), .val (.int v), .val (.int lo), .val (.int (own_g la lo)), .val (.long (own_gJ ll (own_g la lo))), .second] [(.long ((own_gJ ll lo) + (((own_gJ ll (own_g la lo)) - (own_gJ ll lo)) / (2 : Int64)))), (.int v), (.ref l1)])
    refine own_stJ X20 hx hZ e20 A_l1 hv.big N10 ga_l1 (hb hby d4_108) ?_
    intro T21 h21 X21 e21 B21 K21 N21
    have E_a1 := E_a1.keep K21
    have F_level_a1 := F_level_a1.keep K21 (ninS ne_a1_l1 nin0)
    have F_above_a1 := F_above_a1.keep K21 (ninS ne_a1_l1 nin0)
    have F_below_a1 := F_below_a1.keep K21 (ninS ne_a1_l1 nin0)
    have F_variables_a1 := F_variables_a1.keep K21 (ninS ne_a1_l1 nin0)
    have F_top_a1 := F_top_a1.keep K21 (ninS ne_a1_l1 nin0)
    have A_b1 := A_b1.keep K21 (ninS (Ne.symm ne_l1_b1) nin0)
    have A_c1 := A_c1.keep K21 (ninS (Ne.symm ne_l1_c1) nin0)
    have A_l1 := B21
    have Z21 : n0 ≤ h21.size := Nat.le_trans Z10 K21.1
    have KK21 := KK10.trans K21 (allS (Or.inl (List.mem_of_getElem? (i := 1) rfl)) all0)
    show own_Go p e below _ T21 (mkF m 109 #[.val (.ref a1), .val (.int v), .val (.int lo), .val (.int (own_g la lo)), .val (.long (own_gJ ll (own_g la lo))), .second] [])
    have A_l1 := own_LJ_set A_l1 (by rw [hll]; exact hv.2.2)
    refine own_st (fun τ κ => XS.goto X21.here hx rfl (pc0 := 109) (pc' := 118) rfl (hb hby d4_109) (by decide) (by decide) κ) ?_
    show own_Go p e below _ T21 (mkF m 118 #[.val (.ref a1), .val (.int v), .val (.int lo), .val (.int (own_g la lo)), .val (.long (own_gJ ll (own_g la lo))), .second] [])
    have hB : own_insB la lb v lo = _ := if_neg hu
    have hL : own_insL la ll v lo = own_uJ ll v (own_gJ ll lo + (((own_gJ ll (own_g la lo)) - own_gJ ll lo) / (2 : Int64))) := by rw [own_insL, hceil]
    refine own_retV X21 hx hlk hret (by decide) (by decide) (hb hby d4_118) ?_
    rw [e21, hB, hL]
    exact ⟨rfl, N21, KK21, ⟨E_a1, F_level_a1, F_above_a1, F_below_a1, F_variables_a1, ⟨_, F_top_a1⟩, A_l1, A_b1, A_c1⟩⟩

set_option maxRecDepth 65536 in
set_option maxHeartbeats 40000000 in
theorem rm3 (l : Launch) (Z : State) (a0 : Array Value) (hw : ∀ d ∈ tables_1, d.before a0 Z = true) (lo : Int32) (a1 l1 b1 c1 : Addr) (nv : Int32) (la lb : List Int32) (ll : List Int64) (hla : la.length = 5) (hlb : lb.length = 5) (hll : ll.length = 5) (hne : own_ne4 a1 l1 b1 c1) (h0 : Heap) (n0 : Nat) (Z0 : n0 ≤ h0.size) (ga_a1 : n0 ≤ a1) (ga_l1 : n0 ≤ l1) (ga_b1 : n0 ≤ b1) (ga_c1 : n0 ≤ c1) (V : own_VO Z h0 a1 l1 b1 c1 nv la lb ll) (hnv : ¬ nv = (64 : Int32)) (hp : own_preI la ll nv lo) :
    own_Met l Z h0 (⟨"com/example/worldsum/worldsum/VariableOrder", "addAbove", "(I)I"⟩ : MethodName) prog_14_method_4_code 3 (some .int) ({ frames := 1, cells := 0, slots := 0, locals := 18 } : Room) #[(.ref a1), (.int lo)] (fun r h L => r = some (.int nv) ∧ Fr n0 L ∧ Keep h0 h [a1, l1, b1, c1] ∧ own_VO Z h a1 l1 b1 c1 (nv + (1 : Int32)) (own_insA la nv lo) (own_insB la lb nv lo) (own_insL la ll nv lo)) := by
  refine own_body pn_3 (fun m => ef_3 m a1 lo) ?_
  intro p e s m below meth c T X hx hby hml hret hlk hown hnm hZ e0
  have hown : s.vm.findClass "com/example/worldsum/worldsum/VariableOrder" = some m.cls := hown
  have hml : c.maxLocals = 3 := hml
  have N0 : Fr n0 ([] : List Loc) := Fr.nil n0
  show own_Go p e below _ T (mkF m 0 #[.val (.ref a1), .val (.int lo), .unset] [])
  obtain ⟨E_a1, F_level_a1, F_above_a1, F_below_a1, F_variables_a1, ⟨tp, F_top_a1⟩, A_l1, A_b1, A_c1⟩ := V
  obtain ⟨ne_a1_l1, ne_a1_b1, ne_a1_c1, ne_l1_b1, ne_l1_c1, ne_b1_c1⟩ := hne
  have K0 : Keep h0 h0 [a1, l1, b1, c1] := Keep.refl _ _
  refine own_st (fun τ κ => XS.aloadN X.here hx rfl (hb hby d3_0) rfl rfl κ) ?_
  show own_Go p e below _ T (mkF m 1 #[.val (.ref a1), .val (.int lo), .unset] [(.ref a1)])
  refine own_getF X hx hZ e0 hown (hw _ (List.mem_of_getElem? (i := 18) rfl)) F_variables_a1 (hb hby d3_1) ?_
  intro T1 X1 e1
  show own_Go p e below _ T1 (mkF m 4 #[.val (.ref a1), .val (.int lo), .unset] [(.int nv)])
  refine own_st (fun τ κ => XS.aloadN X1.here hx rfl (hb hby d3_4) rfl rfl κ) ?_
  show own_Go p e below _ T1 (mkF m 5 #[.val (.ref a1), .val (.int lo), .unset] [(.ref a1), (.int nv)])
  refine own_getF X1 hx hZ e1 hown (hw _ (List.mem_of_getElem? (i := 12) rfl)) F_level_a1 (hb hby d3_5) ?_
  intro T2 X2 e2
  show own_Go p e below _ T2 (mkF m 8 #[.val (.ref a1), .val (.int lo), .unset] [(.ref l1), (.int nv)])
  refine own_alen X2 hx hZ e2 A_l1 (z := (64 : Int32)) rfl (hb hby d3_8) ?_
  show own_Go p e below _ T2 (mkF m 9 #[.val (.ref a1), .val (.int lo), .unset] [(.int (64 : Int32)), (.int nv)])
  refine own_st (fun τ κ => XS.icmpYes X2.here hx rfl (pc0 := 9) (pc' := 63) rfl (hb hby d3_9) rfl (XT.ii_ne_t hnv) (by decide) (by decide) κ) ?_
  show own_Go p e below _ T2 (mkF m 63 #[.val (.ref a1), .val (.int lo), .unset] [])
  refine own_st (fun τ κ => XS.aloadN X2.here hx rfl (hb hby d3_63) rfl rfl κ) ?_
  show own_Go p e below _ T2 (mkF m 64 #[.val (.ref a1), .val (.int lo), .unset] [(.ref a1)])
  refine own_st (fun τ κ => XS.dup X2.here hx rfl (hb hby d3_64) rfl rfl κ) ?_
  show own_Go p e below _ T2 (mkF m 65 #[.val (.ref a1), .val (.int lo), .unset] [(.ref a1), (.ref a1)])
  refine own_getF X2 hx hZ e2 hown (hw _ (List.mem_of_getElem? (i := 18) rfl)) F_variables_a1 (hb hby d3_65) ?_
  intro T3 X3 e3
  show own_Go p e below _ T3 (mkF m 68 #[.val (.ref a1), .val (.int lo), .unset] [(.int nv), (.ref a1)])
  refine own_st (fun τ κ => XS.dupX1 X3.here hx rfl (hb hby d3_68) rfl rfl rfl κ) ?_
  show own_Go p e below _ T3 (mkF m 69 #[.val (.ref a1), .val (.int lo), .unset] [(.int nv), (.ref a1), (.int nv)])
  refine own_st (fun τ κ => XT.iconstV X3.here hx rfl (1) (hb hby d3_69) (by decide) κ) ?_
  show own_Go p e below _ T3 (mkF m 70 #[.val (.ref a1), .val (.int lo), .unset] [(.int (1 : Int32)), (.int nv), (.ref a1), (.int nv)])
  refine own_st (fun τ κ => XS.iadd X3.here hx rfl (hb hby d3_70) rfl κ) ?_
  show own_Go p e below _ T3 (mkF m 71 #[.val (.ref a1), .val (.int lo), .unset] [(.int (nv + (1 : Int32))), (.ref a1), (.int nv)])
  refine own_putF X3 hx hZ e3 hown (hw _ (List.mem_of_getElem? (i := 18) rfl)) F_variables_a1 E_a1 (Or.inl (hw _ (List.mem_of_getElem? (i := 19) rfl))) (hw _ (List.mem_of_getElem? (i := 3) rfl)) (ty := .int) (by decide) rfl rfl N0 ga_a1 (hb hby d3_71) ?_
  intro T4 h4 X4 e4 W4 N4
  have E_a1 := E_a1.wr W4
  have F_level_a1 := F_level_a1.other W4 (Or.inr (slot_ne (Or.inl (hw _ (List.mem_of_getElem? (i := 13) rfl))) (Or.inl (hw _ (List.mem_of_getElem? (i := 19) rfl))) (by decide) (t := (.array .long)) (t' := .int) (by decide) (by decide)))
  have F_above_a1 := F_above_a1.other W4 (Or.inr (slot_ne (Or.inl (hw _ (List.mem_of_getElem? (i := 15) rfl))) (Or.inl (hw _ (List.mem_of_getElem? (i := 19) rfl))) (by decide) (t := (.array .int)) (t' := .int) (by decide) (by decide)))
  have F_below_a1 := F_below_a1.other W4 (Or.inr (slot_ne (Or.inl (hw _ (List.mem_of_getElem? (i := 17) rfl))) (Or.inl (hw _ (List.mem_of_getElem? (i := 19) rfl))) (by decide) (t := (.array .int)) (t' := .int) (by decide) (by decide)))
  have F_variables_a1 := F_variables_a1.same W4
  have F_top_a1 := F_top_a1.other W4 (Or.inr (slot_ne (Or.inl (hw _ (List.mem_of_getElem? (i := 21) rfl))) (Or.inl (hw _ (List.mem_of_getElem? (i := 19) rfl))) (by decide) (t := .int) (t' := .int) (by decide) (by decide)))
  have A_l1 := A_l1.keep (Keep.of_wr W4) (ninS (Ne.symm ne_a1_l1) nin0)
  have A_b1 := A_b1.keep (Keep.of_wr W4) (ninS (Ne.symm ne_a1_b1) nin0)
  have A_c1 := A_c1.keep (Keep.of_wr W4) (ninS (Ne.symm ne_a1_c1) nin0)
  have Z4 : n0 ≤ h4.size := Nat.le_trans Z0 (Keep.of_wr W4).1
  have K4 := K0.wr W4 (Or.inl (List.mem_of_getElem? (i := 0) rfl))
  show own_Go p e below _ T4 (mkF m 74 #[.val (.ref a1), .val (.int lo), .unset] [(.int nv)])
  refine own_st (fun τ κ => XS.istoreN X4.here hx rfl (hb hby d3_74) rfl (l' := #[.val (.ref a1), .val (.int lo), .val (.int nv)]) rfl κ) ?_
  show own_Go p e below _ T4 (mkF m 75 #[.val (.ref a1), .val (.int lo), .val (.int nv)] [])
  refine own_st (fun τ κ => XS.aloadN X4.here hx rfl (hb hby d3_75) rfl rfl κ) ?_
  show own_Go p e below _ T4 (mkF m 76 #[.val (.ref a1), .val (.int lo), .val (.int nv)] [(.ref a1)])
  refine own_st (fun τ κ => XS.iloadN X4.here hx rfl (hb hby d3_76) rfl κ) ?_
  show own_Go p e below _ T4 (mkF m 77 #[.val (.ref a1), .val (.int lo), .val (.int nv)] [(.int nv), (.ref a1)])
  refine own_st (fun τ κ => XS.iloadN X4.here hx rfl (hb hby d3_77) rfl κ) ?_
  show own_Go p e below _ T4 (mkF m 78 #[.val (.ref a1), .val (.int lo), .val (.int nv)] [(.int lo), (.int nv), (.ref a1)])
  have V1 : own_VO Z h4 a1 l1 b1 c1 (nv + (1 : Int32)) la lb ll := ⟨E_a1, F_level_a1, F_above_a1, F_below_a1, F_variables_a1, ⟨_, F_top_a1⟩, A_l1, A_b1, A_c1⟩
  refine own_callP X4 hx hZ e4 hown (hw _ (List.mem_of_getElem? (i := 27) rfl)) (hw _ (List.mem_of_getElem? (i := 28) rfl)) (hw _ (List.mem_of_getElem? (i := 29) rfl)) (hw _ (List.mem_of_getElem? (i := 3) rfl)) (hw _ (List.mem_of_getElem? (i := 4) rfl)) (hw _ (List.mem_of_getElem? (i := 30) rfl)) (by decide) pd_4 E_a1 (argsL := [(.int nv), (.int lo)]) rfl (rm4 l Z a0 hw nv lo a1 l1 b1 c1 (nv + (1 : Int32)) la lb ll hla hlb hll ⟨ne_a1_l1, ne_a1_b1, ne_a1_c1, ne_l1_b1, ne_l1_c1, ne_b1_c1⟩ h4 n0 Z4 ga_a1 ga_l1 ga_b1 ga_c1 V1 hp) 0 (by decide) (by decide) (by decide) (by decide) (rest := []) rfl (by rw [hml]; rfl) (Nat.le_of_eq rfl) (hb hby d3_78) ?_
  intro v5 T5 L5 hQ5 X5
  obtain ⟨rfl, Nq5, Kq5, V2⟩ := hQ5
  have N5 := Fr.app N4 Nq5
  have e5 : T5.heap = T5.heap := rfl
  have KK5 := K4.trans Kq5 (fun x hx => Or.inl hx)
  show own_Go p e below _ T5 (mkF m 81 #[.val (.ref a1), .val (.int lo), .val (.int nv)] [])
  refine own_st (fun τ κ => XS.iloadN X5.here hx rfl (hb hby d3_81) rfl κ) ?_
  show own_Go p e below _ T5 (mkF m 82 #[.val (.ref a1), .val (.int lo), .val (.int nv)] [(.int nv)])
  refine own_retI X5 hx hlk hret (by decide) (by decide) (hb hby d3_82) ?_
  exact ⟨rfl, N5, KK5, V2⟩

set_option maxRecDepth 65536 in
set_option maxHeartbeats 40000000 in
theorem rm6 (l : Launch) (Z : State) (a0 : Array Value) (hw : ∀ d ∈ tables_1, d.before a0 Z = true) (o1 : Addr) (w1 p1 d1 : Int32) (hw1 : own_in w1) (lp : List Int32) (hlp : lp.length = 5) (h0 : Heap) (n0 : Nat) (Z0 : n0 ≤ h0.size) (ga_o1 : n0 ≤ o1) (A_o1 : own_LI Z h0 o1 5 lp) :
    own_Met l Z h0 (⟨"com/example/worldsum/worldsum/VariableOrderIsDirectlyAbovePinLaw", "bump", "([IIII)V"⟩ : MethodName) method_2_code 4 none ({ frames := 0, cells := 0, slots := 0, locals := 0 } : Room) #[(.ref o1), (.int w1), (.int p1), (.int d1)] (fun r h L => r = none ∧ Fr n0 L ∧ Keep h0 h [o1] ∧ own_LI Z h o1 5 (own_bump lp w1 p1 d1)) := by
  refine own_body pn_6 (fun m => ef_6 m o1 w1 p1 d1) ?_
  intro p e s m below meth c T X hx hby hml hret hlk hown hnm hZ e0
  have hown : s.vm.findClass "com/example/worldsum/worldsum/VariableOrderIsDirectlyAbovePinLaw" = some m.cls := hown
  have hml : c.maxLocals = 4 := hml
  have N0 : Fr n0 ([] : List Loc) := Fr.nil n0
  show own_Go p e below _ T (mkF m 0 #[.val (.ref o1), .val (.int w1), .val (.int p1), .val (.int d1)] [])
  refine own_st (fun τ κ => XS.aloadN X.here hx rfl (hb hby d6_0) rfl rfl κ) ?_
  show own_Go p e below _ T (mkF m 1 #[.val (.ref o1), .val (.int w1), .val (.int p1), .val (.int d1)] [(.ref o1)])
  refine own_st (fun τ κ => XS.iloadN X.here hx rfl (hb hby d6_1) rfl κ) ?_
  show own_Go p e below _ T (mkF m 2 #[.val (.ref o1), .val (.int w1), .val (.int p1), .val (.int d1)] [(.int w1), (.ref o1)])
  refine own_ldI X hx hZ e0 A_o1 hw1 (x := (own_g lp w1)) rfl (hb hby d6_2) ?_
  show own_Go p e below _ T (mkF m 3 #[.val (.ref o1), .val (.int w1), .val (.int p1), .val (.int d1)] [(.int (own_g lp w1))])
  refine own_st (fun τ κ => XS.iloadN X.here hx rfl (hb hby d6_3) rfl κ) ?_
  show own_Go p e below _ T (mkF m 4 #[.val (.ref o1), .val (.int w1), .val (.int p1), .val (.int d1)] [(.int p1), (.int (own_g lp w1))])
  by_cases c4 : p1 < (own_g lp w1)
  · refine own_st (fun τ κ => XS.icmpNo X.here hx rfl (hb hby d6_4) rfl (XT.ii_le_f c4) κ) ?_
    show own_Go p e below _ T (mkF m 7 #[.val (.ref o1), .val (.int w1), .val (.int p1), .val (.int d1)] [])
    refine own_st (fun τ κ => XS.aloadN X.here hx rfl (hb hby d6_7) rfl rfl κ) ?_
    show own_Go p e below _ T (mkF m 8 #[.val (.ref o1), .val (.int w1), .val (.int p1), .val (.int d1)] [(.ref o1)])
    refine own_st (fun τ κ => XS.iloadN X.here hx rfl (hb hby d6_8) rfl κ) ?_
    show own_Go p e below _ T (mkF m 9 #[.val (.ref o1), .val (.int w1), .val (.int p1), .val (.int d1)] [(.int w1), (.ref o1)])
    refine own_st (fun τ κ => XT.dup2 X.here hx rfl (hb hby d6_9) rfl rfl rfl κ) ?_
    show own_Go p e below _ T (mkF m 10 #[.val (.ref o1), .val (.int w1), .val (.int p1), .val (.int d1)] [(.int w1), (.ref o1), (.int w1), (.ref o1)])
    refine own_ldI X hx hZ e0 A_o1 hw1 (x := (own_g lp w1)) rfl (hb hby d6_10) ?_
    show own_Go p e below _ T (mkF m 11 #[.val (.ref o1), .val (.int w1), .val (.int p1), .val (.int d1)] [(.int (own_g lp w1)), (.int w1), (.ref o1)])
    refine own_st (fun τ κ => XS.iloadN X.here hx rfl (hb hby d6_11) rfl κ) ?_
    show own_Go p e below _ T (mkF m 12 #[.val (.ref o1), .val (.int w1), .val (.int p1), .val (.int d1)] [(.int d1), (.int (own_g lp w1)), (.int w1), (.ref o1)])
    refine own_st (fun τ κ => XS.iadd X.here hx rfl (hb hby d6_12) rfl κ) ?_
    show own_Go p e below _ T (mkF m 13 #[.val (.ref o1), .val (.int w1), .val (.int p1), .val (.int d1)] [(.int ((own_g lp w1) + d1)), (.int w1), (.ref o1)])
    refine own_stI X hx hZ e0 A_o1 hw1 N0 ga_o1 (hb hby d6_13) ?_
    intro T1 h1 X1 e1 B1 K1 N1
    have A_o1 := B1
    have Z1 : n0 ≤ h1.size := Nat.le_trans Z0 K1.1
    show own_Go p e below _ T1 (mkF m 14 #[.val (.ref o1), .val (.int w1), .val (.int p1), .val (.int d1)] [])
    have A_o1 := own_LI_set A_o1 (by rw [hlp]; exact hw1.2.2)
    refine own_retV X1 hx hlk hret (by decide) (by decide) (hb hby d6_14) ?_
    rw [e1, own_bump, if_pos c4]
    exact ⟨rfl, N1, K1, A_o1⟩
  · refine own_st (fun τ κ => XS.icmpYes X.here hx rfl (pc0 := 4) (pc' := 14) rfl (hb hby d6_4) rfl (XT.ii_le_t c4) (by decide) (by decide) κ) ?_
    show own_Go p e below _ T (mkF m 14 #[.val (.ref o1), .val (.int w1), .val (.int p1), .val (.int d1)] [])
    refine own_retV X hx hlk hret (by decide) (by decide) (hb hby d6_14) ?_
    rw [e0, own_bump, if_neg c4]
    exact ⟨rfl, N0, Keep.refl _ _, A_o1⟩

set_option maxRecDepth 65536 in
set_option maxHeartbeats 40000000 in
theorem rm5 (l : Launch) (Z : State) (a0 : Array Value) (hw : ∀ d ∈ tables_1, d.before a0 Z = true) (o1 : Addr) (v lo : Int32) (hv : own_in v) (hlo : own_in lo) (lp : List Int32) (hlp : lp.length = 5) (h0 : Heap) (n0 : Nat) (Z0 : n0 ≤ h0.size) (ga_o1 : n0 ≤ o1) (A_o1 : own_LI Z h0 o1 5 lp) :
    own_Met l Z h0 (⟨"com/example/worldsum/worldsum/VariableOrderIsDirectlyAbovePinLaw", "insert", "([III)V"⟩ : MethodName) method_3_code 4 none ({ frames := 1, cells := 0, slots := 0, locals := 15 } : Room) #[(.ref o1), (.int v), (.int lo)] (fun r h L => r = none ∧ Fr n0 L ∧ Keep h0 h [o1] ∧ own_LI Z h o1 5 (own_insP lp v lo)) := by
  refine own_body pn_5 (fun m => ef_5 m o1 v lo) ?_
  intro p e s m below meth c T X hx hby hml hret hlk hown hnm hZ e0
  have hown : s.vm.findClass "com/example/worldsum/worldsum/VariableOrderIsDirectlyAbovePinLaw" = some m.cls := hown
  have hml : c.maxLocals = 4 := hml
  have N0 : Fr n0 ([] : List Loc) := Fr.nil n0
  show own_Go p e below _ T (mkF m 0 #[.val (.ref o1), .val (.int v), .val (.int lo), .unset] [])
  have K0 : Keep h0 h0 [o1] := Keep.refl _ _
  refine own_st (fun τ κ => XS.aloadN X.here hx rfl (hb hby d5_0) rfl rfl κ) ?_
  show own_Go p e below _ T (mkF m 1 #[.val (.ref o1), .val (.int v), .val (.int lo), .unset] [(.ref o1)])
  refine own_st (fun τ κ => XS.iloadN X.here hx rfl (hb hby d5_1) rfl κ) ?_
  show own_Go p e below _ T (mkF m 2 #[.val (.ref o1), .val (.int v), .val (.int lo), .unset] [(.int lo), (.ref o1)])
  refine own_ldI X hx hZ e0 A_o1 hlo (x := (own_g lp lo)) rfl (hb hby d5_2) ?_
  show own_Go p e below _ T (mkF m 3 #[.val (.ref o1), .val (.int v), .val (.int lo), .unset] [(.int (own_g lp lo))])
  refine own_st (fun τ κ => XS.istoreN X.here hx rfl (hb hby d5_3) rfl (l' := #[.val (.ref o1), .val (.int v), .val (.int lo), .val (.int (own_g lp lo))]) rfl κ) ?_
  show own_Go p e below _ T (mkF m 4 #[.val (.ref o1), .val (.int v), .val (.int lo), .val (.int (own_g lp lo))] [])
  refine own_st (fun τ κ => XS.aloadN X.here hx rfl (hb hby d5_4) rfl rfl κ) ?_
  show own_Go p e below _ T (mkF m 5 #[.val (.ref o1), .val (.int v), .val (.int lo), .val (.int (own_g lp lo))] [(.ref o1)])
  refine own_st (fun τ κ => XT.iconstV X.here hx rfl (0) (hb hby d5_5) (by decide) κ) ?_
  show own_Go p e below _ T (mkF m 6 #[.val (.ref o1), .val (.int v), .val (.int lo), .val (.int (own_g lp lo))] [(.int (0 : Int32)), (.ref o1)])
  refine own_st (fun τ κ => XS.iloadN X.here hx rfl (hb hby d5_6) rfl κ) ?_
  show own_Go p e below _ T (mkF m 7 #[.val (.ref o1), .val (.int v), .val (.int lo), .val (.int (own_g lp lo))] [(.int (own_g lp lo)), (.int (0 : Int32)), (.ref o1)])
  refine own_st (fun τ κ => XT.iconstV X.here hx rfl (1) (hb hby d5_7) (by decide) κ) ?_
  show own_Go p e below _ T (mkF m 8 #[.val (.ref o1), .val (.int v), .val (.int lo), .val (.int (own_g lp lo))] [(.int (1 : Int32)), (.int (own_g lp lo)), (.int (0 : Int32)), (.ref o1)])
  refine own_callS X hx hZ e0 hown (hw _ (List.mem_of_getElem? (i := 37) rfl)) (hw _ (List.mem_of_getElem? (i := 38) rfl)) (hw _ (List.mem_of_getElem? (i := 35) rfl)) (hw _ (List.mem_of_getElem? (i := 39) rfl)) (by decide) pd_6 (argsL := [(.ref o1), (.int (0 : Int32)), (.int (own_g lp lo)), (.int (1 : Int32))]) rfl (rm6 l Z a0 hw o1 (0 : Int32) (own_g lp lo) (1 : Int32) (by decide) lp hlp h0 n0 Z0 ga_o1 A_o1) 0 (by decide) (by decide) (by decide) (by decide) (rest := []) rfl (by rw [hml]; rfl) (Nat.le_of_eq rfl) (hb hby d5_8) ?_
  intro v1 T1 L1 hQ1 X1
  obtain ⟨rfl, Nq1, Kq1, B1⟩ := hQ1
  have N1 := Fr.app N0 Nq1
  have e1 : T1.heap = T1.heap := rfl
  have A_o1 := B1
  have Z1 : n0 ≤ T1.heap.size := Nat.le_trans Z0 Kq1.1
  have KK1 := K0.trans Kq1 (fun x hx => Or.inl hx)
  show own_Go p e below _ T1 (mkF m 11 #[.val (.ref o1), .val (.int v), .val (.int lo), .val (.int (own_g lp lo))] [])
  refine own_st (fun τ κ => XS.aloadN X1.here hx rfl (hb hby d5_11) rfl rfl κ) ?_
  show own_Go p e below _ T1 (mkF m 12 #[.val (.ref o1), .val (.int v), .val (.int lo), .val (.int (own_g lp lo))] [(.ref o1)])
  refine own_st (fun τ κ => XT.iconstV X1.here hx rfl (1) (hb hby d5_12) (by decide) κ) ?_
  show own_Go p e below _ T1 (mkF m 13 #[.val (.ref o1), .val (.int v), .val (.int lo), .val (.int (own_g lp lo))] [(.int (1 : Int32)), (.ref o1)])
  refine own_st (fun τ κ => XS.iloadN X1.here hx rfl (hb hby d5_13) rfl κ) ?_
  show own_Go p e below _ T1 (mkF m 14 #[.val (.ref o1), .val (.int v), .val (.int lo), .val (.int (own_g lp lo))] [(.int (own_g lp lo)), (.int (1 : Int32)), (.ref o1)])
  refine own_st (fun τ κ => XT.iconstV X1.here hx rfl (1) (hb hby d5_14) (by decide) κ) ?_
  show own_Go p e below _ T1 (mkF m 15 #[.val (.ref o1), .val (.int v), .val (.int lo), .val (.int (own_g lp lo))] [(.int (1 : Int32)), (.int (own_g lp lo)), (.int (1 : Int32)), (.ref o1)])
  refine own_callS X1 hx hZ e1 hown (hw _ (List.mem_of_getElem? (i := 37) rfl)) (hw _ (List.mem_of_getElem? (i := 38) rfl)) (hw _ (List.mem_of_getElem? (i := 35) rfl)) (hw _ (List.mem_of_getElem? (i := 39) rfl)) (by decide) pd_6 (argsL := [(.ref o1), (.int (1 : Int32)), (.int (own_g lp lo)), (.int (1 : Int32))]) rfl (rm6 l Z a0 hw o1 (1 : Int32) (own_g lp lo) (1 : Int32) (by decide) (own_bump lp (0 : Int32) (own_g lp lo) (1 : Int32)) ((own_bump_len _ _ _ _).trans hlp) T1.heap n0 Z1 ga_o1 A_o1) 0 (by decide) (by decide) (by decide) (by decide) (rest := []) rfl (by rw [hml]; rfl) (Nat.le_of_eq rfl) (hb hby d5_15) ?_
  intro v2 T2 L2 hQ2 X2
  obtain ⟨rfl, Nq2, Kq2, B2⟩ := hQ2
  have N2 := Fr.app N1 Nq2
  have e2 : T2.heap = T2.heap := rfl
  have A_o1 := B2
  have Z2 : n0 ≤ T2.heap.size := Nat.le_trans Z1 Kq2.1
  have KK2 := KK1.trans Kq2 (fun x hx => Or.inl hx)
  show own_Go p e below _ T2 (mkF m 18 #[.val (.ref o1), .val (.int v), .val (.int lo), .val (.int (own_g lp lo))] [])
  refine own_st (fun τ κ => XS.aloadN X2.here hx rfl (hb hby d5_18) rfl rfl κ) ?_
  show own_Go p e below _ T2 (mkF m 19 #[.val (.ref o1), .val (.int v), .val (.int lo), .val (.int (own_g lp lo))] [(.ref o1)])
  refine own_st (fun τ κ => XT.iconstV X2.here hx rfl (2) (hb hby d5_19) (by decide) κ) ?_
  show own_Go p e below _ T2 (mkF m 20 #[.val (.ref o1), .val (.int v), .val (.int lo), .val (.int (own_g lp lo))] [(.int (2 : Int32)), (.ref o1)])
  refine own_st (fun τ κ => XS.iloadN X2.here hx rfl (hb hby d5_20) rfl κ) ?_
  show own_Go p e below _ T2 (mkF m 21 #[.val (.ref o1), .val (.int v), .val (.int lo), .val (.int (own_g lp lo))] [(.int (own_g lp lo)), (.int (2 : Int32)), (.ref o1)])
  refine own_st (fun τ κ => XT.iconstV X2.here hx rfl (1) (hb hby d5_21) (by decide) κ) ?_
  show own_Go p e below _ T2 (mkF m 22 #[.val (.ref o1), .val (.int v), .val (.int lo), .val (.int (own_g lp lo))] [(.int (1 : Int32)), (.int (own_g lp lo)), (.int (2 : Int32)), (.ref o1)])
  refine own_callS X2 hx hZ e2 hown (hw _ (List.mem_of_getElem? (i := 37) rfl)) (hw _ (List.mem_of_getElem? (i := 38) rfl)) (hw _ (List.mem_of_getElem? (i := 35) rfl)) (hw _ (List.mem_of_getElem? (i := 39) rfl)) (by decide) pd_6 (argsL := [(.ref o1), (.int (2 : Int32)), (.int (own_g lp lo)), (.int (1 : Int32))]) rfl (rm6 l Z a0 hw o1 (2 : Int32) (own_g lp lo) (1 : Int32) (by decide) (own_bump (own_bump lp (0 : Int32) (own_g lp lo) (1 : Int32)) (1 : Int32) (own_g lp lo) (1 : Int32)) ((own_bump_len _ _ _ _).trans ((own_bump_len _ _ _ _).trans hlp)) T2.heap n0 Z2 ga_o1 A_o1) 0 (by decide) (by decide) (by decide) (by decide) (rest := []) rfl (by rw [hml]; rfl) (Nat.le_of_eq rfl) (hb hby d5_22) ?_
  intro v3 T3 L3 hQ3 X3
  obtain ⟨rfl, Nq3, Kq3, B3⟩ := hQ3
  have N3 := Fr.app N2 Nq3
  have e3 : T3.heap = T3.heap := rfl
  have A_o1 := B3
  have Z3 : n0 ≤ T3.heap.size := Nat.le_trans Z2 Kq3.1
  have KK3 := KK2.trans Kq3 (fun x hx => Or.inl hx)
  show own_Go p e below _ T3 (mkF m 25 #[.val (.ref o1), .val (.int v), .val (.int lo), .val (.int (own_g lp lo))] [])
  refine own_st (fun τ κ => XS.aloadN X3.here hx rfl (hb hby d5_25) rfl rfl κ) ?_
  show own_Go p e below _ T3 (mkF m 26 #[.val (.ref o1), .val (.int v), .val (.int lo), .val (.int (own_g lp lo))] [(.ref o1)])
  refine own_st (fun τ κ => XT.iconstV X3.here hx rfl (3) (hb hby d5_26) (by decide) κ) ?_
  show own_Go p e below _ T3 (mkF m 27 #[.val (.ref o1), .val (.int v), .val (.int lo), .val (.int (own_g lp lo))] [(.int (3 : Int32)), (.ref o1)])
  refine own_st (fun τ κ => XS.iloadN X3.here hx rfl (hb hby d5_27) rfl κ) ?_
  show own_Go p e below _ T3 (mkF m 28 #[.val (.ref o1), .val (.int v), .val (.int lo), .val (.int (own_g lp lo))] [(.int (own_g lp lo)), (.int (3 : Int32)), (.ref o1)])
  refine own_st (fun τ κ => XT.iconstV X3.here hx rfl (1) (hb hby d5_28) (by decide) κ) ?_
  show own_Go p e below _ T3 (mkF m 29 #[.val (.ref o1), .val (.int v), .val (.int lo), .val (.int (own_g lp lo))] [(.int (1 : Int32)), (.int (own_g lp lo)), (.int (3 : Int32)), (.ref o1)])
  refine own_callS X3 hx hZ e3 hown (hw _ (List.mem_of_getElem? (i := 37) rfl)) (hw _ (List.mem_of_getElem? (i := 38) rfl)) (hw _ (List.mem_of_getElem? (i := 35) rfl)) (hw _ (List.mem_of_getElem? (i := 39) rfl)) (by decide) pd_6 (argsL := [(.ref o1), (.int (3 : Int32)), (.int (own_g lp lo)), (.int (1 : Int32))]) rfl (rm6 l Z a0 hw o1 (3 : Int32) (own_g lp lo) (1 : Int32) (by decide) (own_bump (own_bump (own_bump lp (0 : Int32) (own_g lp lo) (1 : Int32)) (1 : Int32) (own_g lp lo) (1 : Int32)) (2 : Int32) (own_g lp lo) (1 : Int32)) ((own_bump_len _ _ _ _).trans ((own_bump_len _ _ _ _).trans ((own_bump_len _ _ _ _).trans hlp))) T3.heap n0 Z3 ga_o1 A_o1) 0 (by decide) (by decide) (by decide) (by decide) (rest := []) rfl (by rw [hml]; rfl) (Nat.le_of_eq rfl) (hb hby d5_29) ?_
  intro v4 T4 L4 hQ4 X4
  obtain ⟨rfl, Nq4, Kq4, B4⟩ := hQ4
  have N4 := Fr.app N3 Nq4
  have e4 : T4.heap = T4.heap := rfl
  have A_o1 := B4
  have Z4 : n0 ≤ T4.heap.size := Nat.le_trans Z3 Kq4.1
  have KK4 := KK3.trans Kq4 (fun x hx => Or.inl hx)
  show own_Go p e below _ T4 (mkF m 32 #[.val (.ref o1), .val (.int v), .val (.int lo), .val (.int (own_g lp lo))] [])
  refine own_st (fun τ κ => XS.aloadN X4.here hx rfl (hb hby d5_32) rfl rfl κ) ?_
  show own_Go p e below _ T4 (mkF m 33 #[.val (.ref o1), .val (.int v), .val (.int lo), .val (.int (own_g lp lo))] [(.ref o1)])
  refine own_st (fun τ κ => XT.iconstV X4.here hx rfl (4) (hb hby d5_33) (by decide) κ) ?_
  show own_Go p e below _ T4 (mkF m 34 #[.val (.ref o1), .val (.int v), .val (.int lo), .val (.int (own_g lp lo))] [(.int (4 : Int32)), (.ref o1)])
  refine own_st (fun τ κ => XS.iloadN X4.here hx rfl (hb hby d5_34) rfl κ) ?_
  show own_Go p e below _ T4 (mkF m 35 #[.val (.ref o1), .val (.int v), .val (.int lo), .val (.int (own_g lp lo))] [(.int (own_g lp lo)), (.int (4 : Int32)), (.ref o1)])
  refine own_st (fun τ κ => XT.iconstV X4.here hx rfl (1) (hb hby d5_35) (by decide) κ) ?_
  show own_Go p e below _ T4 (mkF m 36 #[.val (.ref o1), .val (.int v), .val (.int lo), .val (.int (own_g lp lo))] [(.int (1 : Int32)), (.int (own_g lp lo)), (.int (4 : Int32)), (.ref o1)])
  refine own_callS X4 hx hZ e4 hown (hw _ (List.mem_of_getElem? (i := 37) rfl)) (hw _ (List.mem_of_getElem? (i := 38) rfl)) (hw _ (List.mem_of_getElem? (i := 35) rfl)) (hw _ (List.mem_of_getElem? (i := 39) rfl)) (by decide) pd_6 (argsL := [(.ref o1), (.int (4 : Int32)), (.int (own_g lp lo)), (.int (1 : Int32))]) rfl (rm6 l Z a0 hw o1 (4 : Int32) (own_g lp lo) (1 : Int32) (by decide) (own_bump (own_bump (own_bump (own_bump lp (0 : Int32) (own_g lp lo) (1 : Int32)) (1 : Int32) (own_g lp lo) (1 : Int32)) (2 : Int32) (own_g lp lo) (1 : Int32)) (3 : Int32) (own_g lp lo) (1 : Int32)) ((own_bump_len _ _ _ _).trans ((own_bump_len _ _ _ _).trans ((own_bump_len _ _ _ _).trans ((own_bump_len _ _ _ _).trans hlp)))) T4.heap n0 Z4 ga_o1 A_o1) 0 (by decide) (by decide) (by decide) (by decide) (rest := []) rfl (by rw [hml]; rfl) (Nat.le_of_eq rfl) (hb hby d5_36) ?_
  intro v5 T5 L5 hQ5 X5
  obtain ⟨rfl, Nq5, Kq5, B5⟩ := hQ5
  have N5 := Fr.app N4 Nq5
  have e5 : T5.heap = T5.heap := rfl
  have A_o1 := B5
  have Z5 : n0 ≤ T5.heap.size := Nat.le_trans Z4 Kq5.1
  have KK5 := KK4.trans Kq5 (fun x hx => Or.inl hx)
  show own_Go p e below _ T5 (mkF m 39 #[.val (.ref o1), .val (.int v), .val (.int lo), .val (.int (own_g lp lo))] [])
  refine own_st (fun τ κ => XS.aloadN X5.here hx rfl (hb hby d5_39) rfl rfl κ) ?_
  show own_Go p e below _ T5 (mkF m 40 #[.val (.ref o1), .val (.int v), .val (.int lo), .val (.int (own_g lp lo))] [(.ref o1)])
  refine own_st (fun τ κ => XS.iloadN X5.here hx rfl (hb hby d5_40) rfl κ) ?_
  show own_Go p e below _ T5 (mkF m 41 #[.val (.ref o1), .val (.int v), .val (.int lo), .val (.int (own_g lp lo))] [(.int v), (.ref o1)])
  refine own_st (fun τ κ => XS.iloadN X5.here hx rfl (hb hby d5_41) rfl κ) ?_
  show own_Go p e below _ T5 (mkF m 42 #[.val (.ref o1), .val (.int v), .val (.int lo), .val (.int (own_g lp lo))] [(.int (own_g lp lo)), (.int v), (.ref o1)])
  refine own_st (fun τ κ => XT.iconstV X5.here hx rfl (1) (hb hby d5_42) (by decide) κ) ?_
  show own_Go p e below _ T5 (mkF m 43 #[.val (.ref o1), .val (.int v), .val (.int lo), .val (.int (own_g lp lo))] [(.int (1 : Int32)), (.int (own_g lp lo)), (.int v), (.ref o1)])
  refine own_st (fun τ κ => XS.iadd X5.here hx rfl (hb hby d5_43) rfl κ) ?_
  show own_Go p e below _ T5 (mkF m 44 #[.val (.ref o1), .val (.int v), .val (.int lo), .val (.int (own_g lp lo))] [(.int ((own_g lp lo) + (1 : Int32))), (.int v), (.ref o1)])
  refine own_stI X5 hx hZ e5 A_o1 hv N5 ga_o1 (hb hby d5_44) ?_
  intro T6 h6 X6 e6 B6 K6 N6
  have A_o1 := B6
  have Z6 : n0 ≤ h6.size := Nat.le_trans Z5 K6.1
  have KK6 := KK5.trans K6 (allS (Or.inl (List.mem_of_getElem? (i := 0) rfl)) all0)
  show own_Go p e below _ T6 (mkF m 45 #[.val (.ref o1), .val (.int v), .val (.int lo), .val (.int (own_g lp lo))] [])
  have A_o1 := own_LI_set A_o1 (by simp only [own_bump_len, hlp]; exact hv.2.2)
  refine own_retV X6 hx hlk hret (by decide) (by decide) (hb hby d5_45) ?_
  rw [e6]
  exact ⟨rfl, N6, KK6, A_o1⟩

set_option maxRecDepth 65536 in
set_option maxHeartbeats 40000000 in
theorem rm8 (l : Launch) (Z : State) (a0 : Array Value) (hw : ∀ d ∈ tables_1, d.before a0 Z = true) (o1 : Addr) (v : Int32) (hv : own_in v) (lp : List Int32) (hlp : lp.length = 5) (h0 : Heap) (n0 : Nat) (Z0 : n0 ≤ h0.size) (ga_o1 : n0 ≤ o1) (A_o1 : own_LI Z h0 o1 5 lp) :
    own_Met l Z h0 (⟨"com/example/worldsum/worldsum/VariableOrderIsDirectlyAbovePinLaw", "remove", "([II)V"⟩ : MethodName) method_4_code 3 none ({ frames := 1, cells := 0, slots := 0, locals := 15 } : Room) #[(.ref o1), (.int v)] (fun r h L => r = none ∧ Fr n0 L ∧ Keep h0 h [o1] ∧ own_LI Z h o1 5 (own_remP lp v)) := by
  refine own_body pn_8 (fun m => ef_8 m o1 v) ?_
  intro p e s m below meth c T X hx hby hml hret hlk hown hnm hZ e0
  have hown : s.vm.findClass "com/example/worldsum/worldsum/VariableOrderIsDirectlyAbovePinLaw" = some m.cls := hown
  have hml : c.maxLocals = 3 := hml
  have N0 : Fr n0 ([] : List Loc) := Fr.nil n0
  show own_Go p e below _ T (mkF m 0 #[.val (.ref o1), .val (.int v), .unset] [])
  have K0 : Keep h0 h0 [o1] := Keep.refl _ _
  refine own_st (fun τ κ => XS.aloadN X.here hx rfl (hb hby d8_0) rfl rfl κ) ?_
  show own_Go p e below _ T (mkF m 1 #[.val (.ref o1), .val (.int v), .unset] [(.ref o1)])
  refine own_st (fun τ κ => XS.iloadN X.here hx rfl (hb hby d8_1) rfl κ) ?_
  show own_Go p e below _ T (mkF m 2 #[.val (.ref o1), .val (.int v), .unset] [(.int v), (.ref o1)])
  refine own_ldI X hx hZ e0 A_o1 hv (x := (own_g lp v)) rfl (hb hby d8_2) ?_
  show own_Go p e below _ T (mkF m 3 #[.val (.ref o1), .val (.int v), .unset] [(.int (own_g lp v))])
  refine own_st (fun τ κ => XS.istoreN X.here hx rfl (hb hby d8_3) rfl (l' := #[.val (.ref o1), .val (.int v), .val (.int (own_g lp v))]) rfl κ) ?_
  show own_Go p e below _ T (mkF m 4 #[.val (.ref o1), .val (.int v), .val (.int (own_g lp v))] [])
  refine own_st (fun τ κ => XS.aloadN X.here hx rfl (hb hby d8_4) rfl rfl κ) ?_
  show own_Go p e below _ T (mkF m 5 #[.val (.ref o1), .val (.int v), .val (.int (own_g lp v))] [(.ref o1)])
  refine own_st (fun τ κ => XT.iconstV X.here hx rfl (0) (hb hby d8_5) (by decide) κ) ?_
  show own_Go p e below _ T (mkF m 6 #[.val (.ref o1), .val (.int v), .val (.int (own_g lp v))] [(.int (0 : Int32)), (.ref o1)])
  refine own_st (fun τ κ => XS.iloadN X.here hx rfl (hb hby d8_6) rfl κ) ?_
  show own_Go p e below _ T (mkF m 7 #[.val (.ref o1), .val (.int v), .val (.int (own_g lp v))] [(.int (own_g lp v)), (.int (0 : Int32)), (.ref o1)])
  refine own_st (fun τ κ => XT.iconstV X.here hx rfl (-1) (hb hby d8_7) (by decide) κ) ?_
  show own_Go p e below _ T (mkF m 8 #[.val (.ref o1), .val (.int v), .val (.int (own_g lp v))] [(.int (-1 : Int32)), (.int (own_g lp v)), (.int (0 : Int32)), (.ref o1)])
  refine own_callS X hx hZ e0 hown (hw _ (List.mem_of_getElem? (i := 37) rfl)) (hw _ (List.mem_of_getElem? (i := 38) rfl)) (hw _ (List.mem_of_getElem? (i := 35) rfl)) (hw _ (List.mem_of_getElem? (i := 39) rfl)) (by decide) pd_6 (argsL := [(.ref o1), (.int (0 : Int32)), (.int (own_g lp v)), (.int (-1 : Int32))]) rfl (rm6 l Z a0 hw o1 (0 : Int32) (own_g lp v) (-1 : Int32) (by decide) lp hlp h0 n0 Z0 ga_o1 A_o1) 0 (by decide) (by decide) (by decide) (by decide) (rest := []) rfl (by rw [hml]; rfl) (Nat.le_of_eq rfl) (hb hby d8_8) ?_
  intro v1 T1 L1 hQ1 X1
  obtain ⟨rfl, Nq1, Kq1, B1⟩ := hQ1
  have N1 := Fr.app N0 Nq1
  have e1 : T1.heap = T1.heap := rfl
  have A_o1 := B1
  have Z1 : n0 ≤ T1.heap.size := Nat.le_trans Z0 Kq1.1
  have KK1 := K0.trans Kq1 (fun x hx => Or.inl hx)
  show own_Go p e below _ T1 (mkF m 11 #[.val (.ref o1), .val (.int v), .val (.int (own_g lp v))] [])
  refine own_st (fun τ κ => XS.aloadN X1.here hx rfl (hb hby d8_11) rfl rfl κ) ?_
  show own_Go p e below _ T1 (mkF m 12 #[.val (.ref o1), .val (.int v), .val (.int (own_g lp v))] [(.ref o1)])
  refine own_st (fun τ κ => XT.iconstV X1.here hx rfl (1) (hb hby d8_12) (by decide) κ) ?_
  show own_Go p e below _ T1 (mkF m 13 #[.val (.ref o1), .val (.int v), .val (.int (own_g lp v))] [(.int (1 : Int32)), (.ref o1)])
  refine own_st (fun τ κ => XS.iloadN X1.here hx rfl (hb hby d8_13) rfl κ) ?_
  show own_Go p e below _ T1 (mkF m 14 #[.val (.ref o1), .val (.int v), .val (.int (own_g lp v))] [(.int (own_g lp v)), (.int (1 : Int32)), (.ref o1)])
  refine own_st (fun τ κ => XT.iconstV X1.here hx rfl (-1) (hb hby d8_14) (by decide) κ) ?_
  show own_Go p e below _ T1 (mkF m 15 #[.val (.ref o1), .val (.int v), .val (.int (own_g lp v))] [(.int (-1 : Int32)), (.int (own_g lp v)), (.int (1 : Int32)), (.ref o1)])
  refine own_callS X1 hx hZ e1 hown (hw _ (List.mem_of_getElem? (i := 37) rfl)) (hw _ (List.mem_of_getElem? (i := 38) rfl)) (hw _ (List.mem_of_getElem? (i := 35) rfl)) (hw _ (List.mem_of_getElem? (i := 39) rfl)) (by decide) pd_6 (argsL := [(.ref o1), (.int (1 : Int32)), (.int (own_g lp v)), (.int (-1 : Int32))]) rfl (rm6 l Z a0 hw o1 (1 : Int32) (own_g lp v) (-1 : Int32) (by decide) (own_bump lp (0 : Int32) (own_g lp v) (-1 : Int32)) ((own_bump_len _ _ _ _).trans hlp) T1.heap n0 Z1 ga_o1 A_o1) 0 (by decide) (by decide) (by decide) (by decide) (rest := []) rfl (by rw [hml]; rfl) (Nat.le_of_eq rfl) (hb hby d8_15) ?_
  intro v2 T2 L2 hQ2 X2
  obtain ⟨rfl, Nq2, Kq2, B2⟩ := hQ2
  have N2 := Fr.app N1 Nq2
  have e2 : T2.heap = T2.heap := rfl
  have A_o1 := B2
  have Z2 : n0 ≤ T2.heap.size := Nat.le_trans Z1 Kq2.1
  have KK2 := KK1.trans Kq2 (fun x hx => Or.inl hx)
  show own_Go p e below _ T2 (mkF m 18 #[.val (.ref o1), .val (.int v), .val (.int (own_g lp v))] [])
  refine own_st (fun τ κ => XS.aloadN X2.here hx rfl (hb hby d8_18) rfl rfl κ) ?_
  show own_Go p e below _ T2 (mkF m 19 #[.val (.ref o1), .val (.int v), .val (.int (own_g lp v))] [(.ref o1)])
  refine own_st (fun τ κ => XT.iconstV X2.here hx rfl (2) (hb hby d8_19) (by decide) κ) ?_
  show own_Go p e below _ T2 (mkF m 20 #[.val (.ref o1), .val (.int v), .val (.int (own_g lp v))] [(.int (2 : Int32)), (.ref o1)])
  refine own_st (fun τ κ => XS.iloadN X2.here hx rfl (hb hby d8_20) rfl κ) ?_
  show own_Go p e below _ T2 (mkF m 21 #[.val (.ref o1), .val (.int v), .val (.int (own_g lp v))] [(.int (own_g lp v)), (.int (2 : Int32)), (.ref o1)])
  refine own_st (fun τ κ => XT.iconstV X2.here hx rfl (-1) (hb hby d8_21) (by decide) κ) ?_
  show own_Go p e below _ T2 (mkF m 22 #[.val (.ref o1), .val (.int v), .val (.int (own_g lp v))] [(.int (-1 : Int32)), (.int (own_g lp v)), (.int (2 : Int32)), (.ref o1)])
  refine own_callS X2 hx hZ e2 hown (hw _ (List.mem_of_getElem? (i := 37) rfl)) (hw _ (List.mem_of_getElem? (i := 38) rfl)) (hw _ (List.mem_of_getElem? (i := 35) rfl)) (hw _ (List.mem_of_getElem? (i := 39) rfl)) (by decide) pd_6 (argsL := [(.ref o1), (.int (2 : Int32)), (.int (own_g lp v)), (.int (-1 : Int32))]) rfl (rm6 l Z a0 hw o1 (2 : Int32) (own_g lp v) (-1 : Int32) (by decide) (own_bump (own_bump lp (0 : Int32) (own_g lp v) (-1 : Int32)) (1 : Int32) (own_g lp v) (-1 : Int32)) ((own_bump_len _ _ _ _).trans ((own_bump_len _ _ _ _).trans hlp)) T2.heap n0 Z2 ga_o1 A_o1) 0 (by decide) (by decide) (by decide) (by decide) (rest := []) rfl (by rw [hml]; rfl) (Nat.le_of_eq rfl) (hb hby d8_22) ?_
  intro v3 T3 L3 hQ3 X3
  obtain ⟨rfl, Nq3, Kq3, B3⟩ := hQ3
  have N3 := Fr.app N2 Nq3
  have e3 : T3.heap = T3.heap := rfl
  have A_o1 := B3
  have Z3 : n0 ≤ T3.heap.size := Nat.le_trans Z2 Kq3.1
  have KK3 := KK2.trans Kq3 (fun x hx => Or.inl hx)
  show own_Go p e below _ T3 (mkF m 25 #[.val (.ref o1), .val (.int v), .val (.int (own_g lp v))] [])
  refine own_st (fun τ κ => XS.aloadN X3.here hx rfl (hb hby d8_25) rfl rfl κ) ?_
  show own_Go p e below _ T3 (mkF m 26 #[.val (.ref o1), .val (.int v), .val (.int (own_g lp v))] [(.ref o1)])
  refine own_st (fun τ κ => XT.iconstV X3.here hx rfl (3) (hb hby d8_26) (by decide) κ) ?_
  show own_Go p e below _ T3 (mkF m 27 #[.val (.ref o1), .val (.int v), .val (.int (own_g lp v))] [(.int (3 : Int32)), (.ref o1)])
  refine own_st (fun τ κ => XS.iloadN X3.here hx rfl (hb hby d8_27) rfl κ) ?_
  show own_Go p e below _ T3 (mkF m 28 #[.val (.ref o1), .val (.int v), .val (.int (own_g lp v))] [(.int (own_g lp v)), (.int (3 : Int32)), (.ref o1)])
  refine own_st (fun τ κ => XT.iconstV X3.here hx rfl (-1) (hb hby d8_28) (by decide) κ) ?_
  show own_Go p e below _ T3 (mkF m 29 #[.val (.ref o1), .val (.int v), .val (.int (own_g lp v))] [(.int (-1 : Int32)), (.int (own_g lp v)), (.int (3 : Int32)), (.ref o1)])
  refine own_callS X3 hx hZ e3 hown (hw _ (List.mem_of_getElem? (i := 37) rfl)) (hw _ (List.mem_of_getElem? (i := 38) rfl)) (hw _ (List.mem_of_getElem? (i := 35) rfl)) (hw _ (List.mem_of_getElem? (i := 39) rfl)) (by decide) pd_6 (argsL := [(.ref o1), (.int (3 : Int32)), (.int (own_g lp v)), (.int (-1 : Int32))]) rfl (rm6 l Z a0 hw o1 (3 : Int32) (own_g lp v) (-1 : Int32) (by decide) (own_bump (own_bump (own_bump lp (0 : Int32) (own_g lp v) (-1 : Int32)) (1 : Int32) (own_g lp v) (-1 : Int32)) (2 : Int32) (own_g lp v) (-1 : Int32)) ((own_bump_len _ _ _ _).trans ((own_bump_len _ _ _ _).trans ((own_bump_len _ _ _ _).trans hlp))) T3.heap n0 Z3 ga_o1 A_o1) 0 (by decide) (by decide) (by decide) (by decide) (rest := []) rfl (by rw [hml]; rfl) (Nat.le_of_eq rfl) (hb hby d8_29) ?_
  intro v4 T4 L4 hQ4 X4
  obtain ⟨rfl, Nq4, Kq4, B4⟩ := hQ4
  have N4 := Fr.app N3 Nq4
  have e4 : T4.heap = T4.heap := rfl
  have A_o1 := B4
  have Z4 : n0 ≤ T4.heap.size := Nat.le_trans Z3 Kq4.1
  have KK4 := KK3.trans Kq4 (fun x hx => Or.inl hx)
  show own_Go p e below _ T4 (mkF m 32 #[.val (.ref o1), .val (.int v), .val (.int (own_g lp v))] [])
  refine own_st (fun τ κ => XS.aloadN X4.here hx rfl (hb hby d8_32) rfl rfl κ) ?_
  show own_Go p e below _ T4 (mkF m 33 #[.val (.ref o1), .val (.int v), .val (.int (own_g lp v))] [(.ref o1)])
  refine own_st (fun τ κ => XT.iconstV X4.here hx rfl (4) (hb hby d8_33) (by decide) κ) ?_
  show own_Go p e below _ T4 (mkF m 34 #[.val (.ref o1), .val (.int v), .val (.int (own_g lp v))] [(.int (4 : Int32)), (.ref o1)])
  refine own_st (fun τ κ => XS.iloadN X4.here hx rfl (hb hby d8_34) rfl κ) ?_
  show own_Go p e below _ T4 (mkF m 35 #[.val (.ref o1), .val (.int v), .val (.int (own_g lp v))] [(.int (own_g lp v)), (.int (4 : Int32)), (.ref o1)])
  refine own_st (fun τ κ => XT.iconstV X4.here hx rfl (-1) (hb hby d8_35) (by decide) κ) ?_
  show own_Go p e below _ T4 (mkF m 36 #[.val (.ref o1), .val (.int v), .val (.int (own_g lp v))] [(.int (-1 : Int32)), (.int (own_g lp v)), (.int (4 : Int32)), (.ref o1)])
  refine own_callS X4 hx hZ e4 hown (hw _ (List.mem_of_getElem? (i := 37) rfl)) (hw _ (List.mem_of_getElem? (i := 38) rfl)) (hw _ (List.mem_of_getElem? (i := 35) rfl)) (hw _ (List.mem_of_getElem? (i := 39) rfl)) (by decide) pd_6 (argsL := [(.ref o1), (.int (4 : Int32)), (.int (own_g lp v)), (.int (-1 : Int32))]) rfl (rm6 l Z a0 hw o1 (4 : Int32) (own_g lp v) (-1 : Int32) (by decide) (own_bump (own_bump (own_bump (own_bump lp (0 : Int32) (own_g lp v) (-1 : Int32)) (1 : Int32) (own_g lp v) (-1 : Int32)) (2 : Int32) (own_g lp v) (-1 : Int32)) (3 : Int32) (own_g lp v) (-1 : Int32)) ((own_bump_len _ _ _ _).trans ((own_bump_len _ _ _ _).trans ((own_bump_len _ _ _ _).trans ((own_bump_len _ _ _ _).trans hlp)))) T4.heap n0 Z4 ga_o1 A_o1) 0 (by decide) (by decide) (by decide) (by decide) (rest := []) rfl (by rw [hml]; rfl) (Nat.le_of_eq rfl) (hb hby d8_36) ?_
  intro v5 T5 L5 hQ5 X5
  obtain ⟨rfl, Nq5, Kq5, B5⟩ := hQ5
  have N5 := Fr.app N4 Nq5
  have e5 : T5.heap = T5.heap := rfl
  have A_o1 := B5
  have Z5 : n0 ≤ T5.heap.size := Nat.le_trans Z4 Kq5.1
  have KK5 := KK4.trans Kq5 (fun x hx => Or.inl hx)
  show own_Go p e below _ T5 (mkF m 39 #[.val (.ref o1), .val (.int v), .val (.int (own_g lp v))] [])
  refine own_st (fun τ κ => XS.aloadN X5.here hx rfl (hb hby d8_39) rfl rfl κ) ?_
  show own_Go p e below _ T5 (mkF m 40 #[.val (.ref o1), .val (.int v), .val (.int (own_g lp v))] [(.ref o1)])
  refine own_st (fun τ κ => XS.iloadN X5.here hx rfl (hb hby d8_40) rfl κ) ?_
  show own_Go p e below _ T5 (mkF m 41 #[.val (.ref o1), .val (.int v), .val (.int (own_g lp v))] [(.int v), (.ref o1)])
  refine own_st (fun τ κ => XT.iconstV X5.here hx rfl (-1) (hb hby d8_41) (by decide) κ) ?_
  show own_Go p e below _ T5 (mkF m 42 #[.val (.ref o1), .val (.int v), .val (.int (own_g lp v))] [(.int (-1 : Int32)), (.int v), (.ref o1)])
  refine own_stI X5 hx hZ e5 A_o1 hv N5 ga_o1 (hb hby d8_42) ?_
  intro T6 h6 X6 e6 B6 K6 N6
  have A_o1 := B6
  have Z6 : n0 ≤ h6.size := Nat.le_trans Z5 K6.1
  have KK6 := KK5.trans K6 (allS (Or.inl (List.mem_of_getElem? (i := 0) rfl)) all0)
  show own_Go p e below _ T6 (mkF m 43 #[.val (.ref o1), .val (.int v), .val (.int (own_g lp v))] [])
  have A_o1 := own_LI_set A_o1 (by simp only [own_bump_len, hlp]; exact hv.2.2)
  refine own_retV X6 hx hlk hret (by decide) (by decide) (hb hby d8_43) ?_
  rw [e6]
  exact ⟨rfl, N6, KK6, A_o1⟩

set_option maxRecDepth 65536 in
set_option maxHeartbeats 40000000 in
theorem rm7 (l : Launch) (Z : State) (a0 : Array Value) (hw : ∀ d ∈ tables_1, d.before a0 Z = true) (v lo : Int32) (a1 l1 b1 c1 : Addr) (nv : Int32) (la lb : List Int32) (ll : List Int64) (hla : la.length = 5) (hlb : lb.length = 5) (hll : ll.length = 5) (hne : own_ne4 a1 l1 b1 c1) (h0 : Heap) (n0 : Nat) (Z0 : n0 ≤ h0.size) (ga_a1 : n0 ≤ a1) (ga_l1 : n0 ≤ l1) (ga_b1 : n0 ≤ b1) (ga_c1 : n0 ≤ c1) (V : own_VO Z h0 a1 l1 b1 c1 nv la lb ll) (hm : own_preM la lb v) (hp : own_preI (own_remA la lb v) ll v lo) :
    own_Met l Z h0 (⟨"com/example/worldsum/worldsum/VariableOrder", "moveAbove", "(II)V"⟩ : MethodName) prog_14_method_9_code 4 none ({ frames := 1, cells := 0, slots := 0, locals := 18 } : Room) #[(.ref a1), (.int v), (.int lo)] (fun r h L => r = none ∧ Fr n0 L ∧ Keep h0 h [a1, l1, b1, c1] ∧ own_VO Z h a1 l1 b1 c1 nv (own_insA (own_remA la lb v) v lo) (own_insB (own_remA la lb v) (own_remB la lb v) v lo) (own_insL (own_remA la lb v) ll v lo)) := by
  refine own_body pn_7 (fun m => ef_7 m a1 v lo) ?_
  intro p e s m below meth c T X hx hby hml hret hlk hown hnm hZ e0
  have hown : s.vm.findClass "com/example/worldsum/worldsum/VariableOrder" = some m.cls := hown
  have hml : c.maxLocals = 4 := hml
  have N0 : Fr n0 ([] : List Loc) := Fr.nil n0
  show own_Go p e below _ T (mkF m 0 #[.val (.ref a1), .val (.int v), .val (.int lo), .unset] [])
  obtain ⟨E_a1, F_level_a1, F_above_a1, F_below_a1, F_variables_a1, ⟨tp, F_top_a1⟩, A_l1, A_b1, A_c1⟩ := V
  obtain ⟨ne_a1_l1, ne_a1_b1, ne_a1_c1, ne_l1_b1, ne_l1_c1, ne_b1_c1⟩ := hne
  have K0 : Keep h0 h0 [a1, l1, b1, c1] := Keep.refl _ _
  obtain ⟨hv, hbv, hup⟩ := hm
  refine own_st (fun τ κ => XS.aloadN X.here hx rfl (hb hby d7_0) rfl rfl κ) ?_
  show own_Go p e below _ T (mkF m 1 #[.val (.ref a1), .val (.int v), .val (.int lo), .unset] [(.ref a1)])
  refine own_getF X hx hZ e0 hown (hw _ (List.mem_of_getElem? (i := 14) rfl)) F_above_a1 (hb hby d7_1) ?_
  intro T1 X1 e1
  show own_Go p e below _ T1 (mkF m 4 #[.val (.ref a1), .val (.int v), .val (.int lo), .unset] [(.ref b1)])
  refine own_st (fun τ κ => XS.iloadN X1.here hx rfl (hb hby d7_4) rfl κ) ?_
  show own_Go p e below _ T1 (mkF m 5 #[.val (.ref a1), .val (.int v), .val (.int lo), .unset] [(.int v), (.ref b1)])
  refine own_ldI X1 hx hZ e1 A_b1 hv.big (x := (own_g la v)) rfl (hb hby d7_5) ?_
  show own_Go p e below _ T1 (mkF m 6 #[.val (.ref a1), .val (.int v), .val (.int lo), .unset] [(.int (own_g la v))])
  refine own_st (fun τ κ => XS.istoreN X1.here hx rfl (hb hby d7_6) rfl (l' := #[.val (.ref a1), .val (.int v), .val (.int lo), .val (.int (own_g la v))]) rfl κ) ?_
  show own_Go p e below _ T1 (mkF m 7 #[.val (.ref a1), .val (.int v), .val (.int lo), .val (.int (own_g la v))] [])
  refine own_st (fun τ κ => XS.aloadN X1.here hx rfl (hb hby d7_7) rfl rfl κ) ?_
  show own_Go p e below _ T1 (mkF m 8 #[.val (.ref a1), .val (.int v), .val (.int lo), .val (.int (own_g la v))] [(.ref a1)])
  refine own_getF X1 hx hZ e1 hown (hw _ (List.mem_of_getElem? (i := 14) rfl)) F_above_a1 (hb hby d7_8) ?_
  intro T2 X2 e2
  show own_Go p e below _ T2 (mkF m 11 #[.val (.ref a1), .val (.int v), .val (.int lo), .val (.int (own_g la v))] [(.ref b1)])
  refine own_st (fun τ κ => XS.aloadN X2.here hx rfl (hb hby d7_11) rfl rfl κ) ?_
  show own_Go p e below _ T2 (mkF m 12 #[.val (.ref a1), .val (.int v), .val (.int lo), .val (.int (own_g la v))] [(.ref a1), (.ref b1)])
  refine own_getF X2 hx hZ e2 hown (hw _ (List.mem_of_getElem? (i := 16) rfl)) F_below_a1 (hb hby d7_12) ?_
  intro T3 X3 e3
  show own_Go p e below _ T3 (mkF m 15 #[.val (.ref a1), .val (.int v), .val (.int lo), .val (.int (own_g la v))] [(.ref c1), (.ref b1)])
  refine own_st (fun τ κ => XS.iloadN X3.here hx rfl (hb hby d7_15) rfl κ) ?_
  show own_Go p e below _ T3 (mkF m 16 #[.val (.ref a1), .val (.int v), .val (.int lo), .val (.int (own_g la v))] [(.int v), (.ref c1), (.ref b1)])
  refine own_ldI X3 hx hZ e3 A_c1 hv.big (x := (own_g lb v)) rfl (hb hby d7_16) ?_
  show own_Go p e below _ T3 (mkF m 17 #[.val (.ref a1), .val (.int v), .val (.int lo), .val (.int (own_g la v))] [(.int (own_g lb v)), (.ref b1)])
  refine own_st (fun τ κ => XS.iloadN X3.here hx rfl (hb hby d7_17) rfl κ) ?_
  show own_Go p e below _ T3 (mkF m 18 #[.val (.ref a1), .val (.int v), .val (.int lo), .val (.int (own_g la v))] [(.int (own_g la v)), (.int (own_g lb v)), (.ref b1)])
  refine own_stI X3 hx hZ e3 A_b1 hbv.big N0 ga_b1 (hb hby d7_18) ?_
  intro T4 h4 X4 e4 B4 K4 N4
  have E_a1 := E_a1.keep K4
  have F_level_a1 := F_level_a1.keep K4 (ninS ne_a1_b1 nin0)
  have F_above_a1 := F_above_a1.keep K4 (ninS ne_a1_b1 nin0)
  have F_below_a1 := F_below_a1.keep K4 (ninS ne_a1_b1 nin0)
  have F_variables_a1 := F_variables_a1.keep K4 (ninS ne_a1_b1 nin0)
  have F_top_a1 := F_top_a1.keep K4 (ninS ne_a1_b1 nin0)
  have A_l1 := A_l1.keep K4 (ninS ne_l1_b1 nin0)
  have A_c1 := A_c1.keep K4 (ninS (Ne.symm ne_b1_c1) nin0)
  have A_b1 := B4
  have Z4 : n0 ≤ h4.size := Nat.le_trans Z0 K4.1
  have KK4 := K0.trans K4 (allS (Or.inl (List.mem_of_getElem? (i := 2) rfl)) all0)
  show own_Go p e below _ T4 (mkF m 19 #[.val (.ref a1), .val (.int v), .val (.int lo), .val (.int (own_g la v))] [])
  have A_b1 := own_LI_set A_b1 (by rw [hla]; exact hbv.2.2)
  refine own_st (fun τ κ => XS.iloadN X4.here hx rfl (hb hby d7_19) rfl κ) ?_
  show own_Go p e below _ T4 (mkF m 20 #[.val (.ref a1), .val (.int v), .val (.int lo), .val (.int (own_g la v))] [(.int (own_g la v))])
  refine own_st (fun τ κ => XT.iconstV X4.here hx rfl (-1) (hb hby d7_20) (by decide) κ) ?_
  show own_Go p e below _ T4 (mkF m 21 #[.val (.ref a1), .val (.int v), .val (.int lo), .val (.int (own_g la v))] [(.int (-1 : Int32)), (.int (own_g la v))])
  by_cases hu : (own_g la v) = (-1 : Int32)
  · refine own_st (fun τ κ => XS.icmpNo X4.here hx rfl (hb hby d7_21) rfl (XT.ii_ne_f hu) κ) ?_
    show own_Go p e below _ T4 (mkF m 24 #[.val (.ref a1), .val (.int v), .val (.int lo), .val (.int (own_g la v))] [])
    refine own_st (fun τ κ => XS.aloadN X4.here hx rfl (hb hby d7_24) rfl rfl κ) ?_
    show own_Go p e below _ T4 (mkF m 25 #[.val (.ref a1), .val (.int v), .val (.int lo), .val (.int (own_g la v))] [(.ref a1)])
    refine own_st (fun τ κ => XS.aloadN X4.here hx rfl (hb hby d7_25) rfl rfl κ) ?_
    show own_Go p e below _ T4 (mkF m 26 #[.val (.ref a1), .val (.int v), .val (.int lo), .val (.int (own_g la v))] [(.ref a1), (.ref a1)])
    refine own_getF X4 hx hZ e4 hown (hw _ (List.mem_of_getElem? (i := 16) rfl)) F_below_a1 (hb hby d7_26) ?_
    intro T5 X5 e5
    show own_Go p e below _ T5 (mkF m 29 #[.val (.ref a1), .val (.int v), .val (.int lo), .val (.int (own_g la v))] [(.ref c1), (.ref a1)])
    refine own_st (fun τ κ => XS.iloadN X5.here hx rfl (hb hby d7_29) rfl κ) ?_
    show own_Go p e below _ T5 (mkF m 30 #[.val (.ref a1), .val (.int v), .val (.int lo), .val (.int (own_g la v))] [(.int v), (.ref c1), (.ref a1)])
    refine own_ldI X5 hx hZ e5 A_c1 hv.big (x := (own_g lb v)) rfl (hb hby d7_30) ?_
    show own_Go p e below _ T5 (mkF m 31 #[.val (.ref a1), .val (.int v), .val (.int lo), .val (.int (own_g la v))] [(.int (own_g lb v)), (.ref a1)])
    refine own_putF X5 hx hZ e5 hown (hw _ (List.mem_of_getElem? (i := 20) rfl)) F_top_a1 E_a1 (Or.inl (hw _ (List.mem_of_getElem? (i := 21) rfl))) (hw _ (List.mem_of_getElem? (i := 3) rfl)) (ty := .int) (by decide) rfl rfl N4 ga_a1 (hb hby d7_31) ?_
    intro T6 h6 X6 e6 W6 N6
    have E_a1 := E_a1.wr W6
    have F_level_a1 := F_level_a1.other W6 (Or.inr (slot_ne (Or.inl (hw _ (List.mem_of_getElem? (i := 13) rfl))) (Or.inl (hw _ (List.mem_of_getElem? (i := 21) rfl))) (by decide) (t := (.array .long)) (t' := .int) (by decide) (by decide)))
    have F_above_a1 := F_above_a1.other W6 (Or.inr (slot_ne (Or.inl (hw _ (List.mem_of_getElem? (i := 15) rfl))) (Or.inl (hw _ (List.mem_of_getElem? (i := 21) rfl))) (by decide) (t := (.array .int)) (t' := .int) (by decide) (by decide)))
    have F_below_a1 := F_below_a1.other W6 (Or.inr (slot_ne (Or.inl (hw _ (List.mem_of_getElem? (i := 17) rfl))) (Or.inl (hw _ (List.mem_of_getElem? (i := 21) rfl))) (by decide) (t := (.array .int)) (t' := .int) (by decide) (by decide)))
    have F_variables_a1 := F_variables_a1.other W6 (Or.inr (slot_ne (Or.inl (hw _ (List.mem_of_getElem? (i := 19) rfl))) (Or.inl (hw _ (List.mem_of_getElem? (i := 21) rfl))) (by decide) (t := .int) (t' := .int) (by decide) (by decide)))
    have F_top_a1 := F_top_a1.same W6
    have A_l1 := A_l1.keep (Keep.of_wr W6) (ninS (Ne.symm ne_a1_l1) nin0)
    have A_b1 := A_b1.keep (Keep.of_wr W6) (ninS (Ne.symm ne_a1_b1) nin0)
    have A_c1 := A_c1.keep (Keep.of_wr W6) (ninS (Ne.symm ne_a1_c1) nin0)
    have Z6 : n0 ≤ h6.size := Nat.le_trans Z4 (Keep.of_wr W6).1
    have K6 := KK4.wr W6 (Or.inl (List.mem_of_getElem? (i := 0) rfl))
    show own_Go p e below _ T6 (mkF m 34 #[.val (.ref a1), .val (.int v), .val (.int lo), .val (.int (own_g la v))] [])
    refine own_st (fun τ κ => XS.goto X6.here hx rfl (pc0 := 34) (pc' := 49) rfl (hb hby d7_34) (by decide) (by decide) κ) ?_
    show own_Go p e below _ T6 (mkF m 49 #[.val (.ref a1), .val (.int v), .val (.int lo), .val (.int (own_g la v))] [])
    refine own_st (fun τ κ => XS.aloadN X6.here hx rfl (hb hby d7_49) rfl rfl κ) ?_
    show own_Go p e below _ T6 (mkF m 50 #[.val (.ref a1), .val (.int v), .val (.int lo), .val (.int (own_g la v))] [(.ref a1)])
    refine own_st (fun τ κ => XS.iloadN X6.here hx rfl (hb hby d7_50) rfl κ) ?_
    show own_Go p e below _ T6 (mkF m 51 #[.val (.ref a1), .val (.int v), .val (.int lo), .val (.int (own_g la v))] [(.int v), (.ref a1)])
    refine own_st (fun τ κ => XS.iloadN X6.here hx rfl (hb hby d7_51) rfl κ) ?_
    show own_Go p e below _ T6 (mkF m 52 #[.val (.ref a1), .val (.int v), .val (.int lo), .val (.int (own_g la v))] [(.int lo), (.int v), (.ref a1)])
    have hB : own_remB la lb v = _ := if_pos hu
    have V1 : own_VO Z h6 a1 l1 b1 c1 nv (own_remA la lb v) (own_remB la lb v) ll := by rw [hB]; exact ⟨E_a1, F_level_a1, F_above_a1, F_below_a1, F_variables_a1, ⟨_, F_top_a1⟩, A_l1, A_b1, A_c1⟩
    refine own_callP X6 hx hZ e6 hown (hw _ (List.mem_of_getElem? (i := 27) rfl)) (hw _ (List.mem_of_getElem? (i := 28) rfl)) (hw _ (List.mem_of_getElem? (i := 29) rfl)) (hw _ (List.mem_of_getElem? (i := 3) rfl)) (hw _ (List.mem_of_getElem? (i := 4) rfl)) (hw _ (List.mem_of_getElem? (i := 30) rfl)) (by decide) pd_4 E_a1 (argsL := [(.int v), (.int lo)]) rfl (rm4 l Z a0 hw v lo a1 l1 b1 c1 nv (own_remA la lb v) (own_remB la lb v) ll ((own_remA_len _ _ _).trans hla) ((own_remB_len _ _ _).trans hlb) hll ⟨ne_a1_l1, ne_a1_b1, ne_a1_c1, ne_l1_b1, ne_l1_c1, ne_b1_c1⟩ h6 n0 Z6 ga_a1 ga_l1 ga_b1 ga_c1 V1 hp) 0 (by decide) (by decide) (by decide) (by decide) (rest := []) rfl (by rw [hml]; rfl) (Nat.le_of_eq rfl) (hb hby d7_52) ?_
    intro v10 T10 L10 hQ10 X10
    obtain ⟨rfl, Nq10, Kq10, V2⟩ := hQ10
    have N10 := Fr.app N6 Nq10
    have e10 : T10.heap = T10.heap := rfl
    have KK10 := K6.trans Kq10 (fun x hx => Or.inl hx)
    show own_Go p e below _ T10 (mkF m 55 #[.val (.ref a1), .val (.int v), .val (.int lo), .val (.int (own_g la v))] [])
    refine own_retV X10 hx hlk hret (by decide) (by decide) (hb hby d7_55) ?_
    exact ⟨rfl, N10, KK10, V2⟩
  · refine own_st (fun τ κ => XS.icmpYes X4.here hx rfl (pc0 := 21) (pc' := 37) rfl (hb hby d7_21) rfl (XT.ii_ne_t hu) (by decide) (by decide) κ) ?_
    show own_Go p e below _ T4 (mkF m 37 #[.val (.ref a1), .val (.int v), .val (.int lo), .val (.int (own_g la v))] [])
    refine own_st (fun τ κ => XS.aloadN X4.here hx rfl (hb hby d7_37) rfl rfl κ) ?_
    show own_Go p e below _ T4 (mkF m 38 #[.val (.ref a1), .val (.int v), .val (.int lo), .val (.int (own_g la v))] [(.ref a1)])
    have hup' : own_in (own_g la v) := hup.resolve_left hu
    refine own_getF X4 hx hZ e4 hown (hw _ (List.mem_of_getElem? (i := 16) rfl)) F_below_a1 (hb hby d7_38) ?_
    intro T7 X7 e7
    show own_Go p e below _ T7 (mkF m 41 #[.val (.ref a1), .val (.int v), .val (.int lo), .val (.int (own_g la v))] [(.ref c1)])
    refine own_st (fun τ κ => XS.iloadN X7.here hx rfl (hb hby d7_41) rfl κ) ?_
    show own_Go p e below _ T7 (mkF m 42 #[.val (.ref a1), .val (.int v), .val (.int lo), .val (.int (own_g la v))] [(.int (own_g la v)), (.ref c1)])
    refine own_st (fun τ κ => XS.aloadN X7.here hx rfl (hb hby d7_42) rfl rfl κ) ?_
    show own_Go p e below _ T7 (mkF m 43 #[.val (.ref a1), .val (.int v), .val (.int lo), .val (.int (own_g la v))] [(.ref a1), (.int (own_g la v)), (.ref c1)])
    refine own_getF X7 hx hZ e7 hown (hw _ (List.mem_of_getElem? (i := 16) rfl)) F_below_a1 (hb hby d7_43) ?_
    intro T8 X8 e8
    show own_Go p e below _ T8 (mkF m 46 #[.val (.ref a1), .val (.int v), .val (.int lo), .val (.int (own_g la v))] [(.ref c1), (.int (own_g la v)), (.ref c1)])
    refine own_st (fun τ κ => XS.iloadN X8.here hx rfl (hb hby d7_46) rfl κ) ?_
    show own_Go p e below _ T8 (mkF m 47 #[.val (.ref a1), .val (.int v), .val (.int lo), .val (.int (own_g la v))] [(.int v), (.ref c1), (.int (own_g la v)), (.ref c1)])
    refine own_ldI X8 hx hZ e8 A_c1 hv.big (x := (own_g lb v)) rfl (hb hby d7_47) ?_
    show own_Go p e below _ T8 (mkF m 48 #[.val (.ref a1), .val (.int v), .val (.int lo), .val (.int (own_g la v))] [(.int (own_g lb v)), (.int (own_g la v)), (.ref c1)])
    refine own_stI X8 hx hZ e8 A_c1 hup'.big N4 ga_c1 (hb hby d7_48) ?_
    intro T9 h9 X9 e9 B9 K9 N9
    have E_a1 := E_a1.keep K9
    have F_level_a1 := F_level_a1.keep K9 (ninS ne_a1_c1 nin0)
    have F_above_a1 := F_above_a1.keep K9 (ninS ne_a1_c1 nin0)
    have F_below_a1 := F_below_a1.keep K9 (ninS ne_a1_c1 nin0)
    have F_variables_a1 := F_variables_a1.keep K9 (ninS ne_a1_c1 nin0)
    have F_top_a1 := F_top_a1.keep K9 (ninS ne_a1_c1 nin0)
    have A_l1 := A_l1.keep K9 (ninS ne_l1_c1 nin0)
    have A_b1 := A_b1.keep K9 (ninS ne_b1_c1 nin0)
    have A_c1 := B9
    have Z9 : n0 ≤ h9.size := Nat.le_trans Z4 K9.1
    have KK9 := KK4.trans K9 (allS (Or.inl (List.mem_of_getElem? (i := 3) rfl)) all0)
    show own_Go p e below _ T9 (mkF m 49 #[.val (.ref a1), .val (.int v), .val (.int lo), .val (.int (own_g la v))] [])
    have A_c1 := own_LI_set A_c1 (by rw [hlb]; exact hup'.2.2)
    refine own_st (fun τ κ => XS.aloadN X9.here hx rfl (hb hby d7_49) rfl rfl κ) ?_
    show own_Go p e below _ T9 (mkF m 50 #[.val (.ref a1), .val (.int v), .val (.int lo), .val (.int (own_g la v))] [(.ref a1)])
    refine own_st (fun τ κ => XS.iloadN X9.here hx rfl (hb hby d7_50) rfl κ) ?_
    show own_Go p e below _ T9 (mkF m 51 #[.val (.ref a1), .val (.int v), .val (.int lo), .val (.int (own_g la v))] [(.int v), (.ref a1)])
    refine own_st (fun τ κ => XS.iloadN X9.here hx rfl (hb hby d7_51) rfl κ) ?_
    show own_Go p e below _ T9 (mkF m 52 #[.val (.ref a1), .val (.int v), .val (.int lo), .val (.int (own_g la v))] [(.int lo), (.int v), (.ref a1)])
    have hB : own_remB la lb v = _ := if_neg hu
    have V1 : own_VO Z h9 a1 l1 b1 c1 nv (own_remA la lb v) (own_remB la lb v) ll := by rw [hB]; exact ⟨E_a1, F_level_a1, F_above_a1, F_below_a1, F_variables_a1, ⟨_, F_top_a1⟩, A_l1, A_b1, A_c1⟩
    refine own_callP X9 hx hZ e9 hown (hw _ (List.mem_of_getElem? (i := 27) rfl)) (hw _ (List.mem_of_getElem? (i := 28) rfl)) (hw _ (List.mem_of_getElem? (i := 29) rfl)) (hw _ (List.mem_of_getElem? (i := 3) rfl)) (hw _ (List.mem_of_getElem? (i := 4) rfl)) (hw _ (List.mem_of_getElem? (i := 30) rfl)) (by decide) pd_4 E_a1 (argsL := [(.int v), (.int lo)]) rfl (rm4 l Z a0 hw v lo a1 l1 b1 c1 nv (own_remA la lb v) (own_remB la lb v) ll ((own_remA_len _ _ _).trans hla) ((own_remB_len _ _ _).trans hlb) hll ⟨ne_a1_l1, ne_a1_b1, ne_a1_c1, ne_l1_b1, ne_l1_c1, ne_b1_c1⟩ h9 n0 Z9 ga_a1 ga_l1 ga_b1 ga_c1 V1 hp) 0 (by decide) (by decide) (by decide) (by decide) (rest := []) rfl (by rw [hml]; rfl) (Nat.le_of_eq rfl) (hb hby d7_52) ?_
    intro v11 T11 L11 hQ11 X11
    obtain ⟨rfl, Nq11, Kq11, V2⟩ := hQ11
    have N11 := Fr.app N9 Nq11
    have e11 : T11.heap = T11.heap := rfl
    have KK11 := KK9.trans Kq11 (fun x hx => Or.inl hx)
    show own_Go p e below _ T11 (mkF m 55 #[.val (.ref a1), .val (.int v), .val (.int lo), .val (.int (own_g la v))] [])
    refine own_retV X11 hx hlk hret (by decide) (by decide) (hb hby d7_55) ?_
    exact ⟨rfl, N11, KK11, V2⟩

def own_dir (lb : List Int32) (u1 u2 : Int32) : Int32 := if own_g lb u1 = u2 then 1 else 0

set_option maxRecDepth 65536 in
set_option maxHeartbeats 40000000 in
theorem rm9 (l : Launch) (Z : State) (a0 : Array Value) (hw : ∀ d ∈ tables_1, d.before a0 Z = true) (a1 l1 b1 c1 : Addr) (nv : Int32) (la lb : List Int32) (ll : List Int64) (u1 u2 : Int32) (hu1 : own_in u1) (h0 : Heap) (n0 : Nat) (V : own_VO Z h0 a1 l1 b1 c1 nv la lb ll) :
    own_Met l Z h0 (⟨"com/example/worldsum/worldsum/VariableOrder", "isDirectlyAbove", "(II)Z"⟩ : MethodName) prog_14_method_5_code 3 (some .boolean) ({ frames := 0, cells := 0, slots := 0, locals := 0 } : Room) #[(.ref a1), (.int u1), (.int u2)] (fun r h L => r = some (.int (own_dir lb u1 u2)) ∧ Fr n0 L ∧ h = h0) := by
  refine own_body pn_9 (fun m => ef_9 m a1 u1 u2) ?_
  intro p e s m below meth c T X hx hby hml hret hlk hown hnm hZ e0
  have hown : s.vm.findClass "com/example/worldsum/worldsum/VariableOrder" = some m.cls := hown
  have hml : c.maxLocals = 3 := hml
  have N0 : Fr n0 ([] : List Loc) := Fr.nil n0
  show own_Go p e below _ T (mkF m 0 #[.val (.ref a1), .val (.int u1), .val (.int u2)] [])
  obtain ⟨E_a1, F_level_a1, F_above_a1, F_below_a1, F_variables_a1, ⟨tp, F_top_a1⟩, A_l1, A_b1, A_c1⟩ := V
  refine own_st (fun τ κ => XS.aloadN X.here hx rfl (hb hby d9_0) rfl rfl κ) ?_
  show own_Go p e below _ T (mkF m 1 #[.val (.ref a1), .val (.int u1), .val (.int u2)] [(.ref a1)])
  refine own_getF X hx hZ e0 hown (hw _ (List.mem_of_getElem? (i := 16) rfl)) F_below_a1 (hb hby d9_1) ?_
  intro T1 X1 e1
  show own_Go p e below _ T1 (mkF m 4 #[.val (.ref a1), .val (.int u1), .val (.int u2)] [(.ref c1)])
  refine own_st (fun τ κ => XS.iloadN X1.here hx rfl (hb hby d9_4) rfl κ) ?_
  show own_Go p e below _ T1 (mkF m 5 #[.val (.ref a1), .val (.int u1), .val (.int u2)] [(.int u1), (.ref c1)])
  refine own_ldI X1 hx hZ e1 A_c1 hu1.big (x := (own_g lb u1)) rfl (hb hby d9_5) ?_
  show own_Go p e below _ T1 (mkF m 6 #[.val (.ref a1), .val (.int u1), .val (.int u2)] [(.int (own_g lb u1))])
  refine own_st (fun τ κ => XS.iloadN X1.here hx rfl (hb hby d9_6) rfl κ) ?_
  show own_Go p e below _ T1 (mkF m 7 #[.val (.ref a1), .val (.int u1), .val (.int u2)] [(.int u2), (.int (own_g lb u1))])
  by_cases c7 : (own_g lb u1) = u2
  · refine own_st (fun τ κ => XS.icmpNo X1.here hx rfl (hb hby d9_7) rfl (XT.ii_ne_f c7) κ) ?_
    show own_Go p e below _ T1 (mkF m 10 #[.val (.ref a1), .val (.int u1), .val (.int u2)] [])
    refine own_st (fun τ κ => XT.iconstV X1.here hx rfl (1) (hb hby d9_10) (by decide) κ) ?_
    show own_Go p e below _ T1 (mkF m 11 #[.val (.ref a1), .val (.int u1), .val (.int u2)] [(.int (1 : Int32))])
    refine own_st (fun τ κ => XS.goto X1.here hx rfl (pc0 := 11) (pc' := 15) rfl (hb hby d9_11) (by decide) (by decide) κ) ?_
    show own_Go p e below _ T1 (mkF m 15 #[.val (.ref a1), .val (.int u1), .val (.int u2)] [(.int (1 : Int32))])
    refine own_retZ X1 hx hlk hret (by decide) (by decide) (by decide) (hb hby d9_15) ?_
    exact ⟨by rw [own_dir, if_pos c7], N0, e1⟩
  · refine own_st (fun τ κ => XS.icmpYes X1.here hx rfl (pc0 := 7) (pc' := 14) rfl (hb hby d9_7) rfl (XT.ii_ne_t c7) (by decide) (by decide) κ) ?_
    show own_Go p e below _ T1 (mkF m 14 #[.val (.ref a1), .val (.int u1), .val (.int u2)] [])
    refine own_st (fun τ κ => XT.iconstV X1.here hx rfl (0) (hb hby d9_14) (by decide) κ) ?_
    show own_Go p e below _ T1 (mkF m 15 #[.val (.ref a1), .val (.int u1), .val (.int u2)] [(.int (0 : Int32))])
    refine own_retZ X1 hx hlk hret (by decide) (by decide) (by decide) (hb hby d9_15) ?_
    exact ⟨by rw [own_dir, if_neg c7], N0, e1⟩

abbrev own_A0 : List Int32 := [-1, 0, 0, 0, 0]
abbrev own_L0 : List Int64 := [0, 0, 0, 0, 0]
abbrev own_P0 : List Int32 := [0, -1, -1, -1, -1]
/-- the object's lists behind the first, second, third, fourth variable -/
def own_a1 : List Int32 := own_insA own_A0 1 0
def own_b1 : List Int32 := own_insB own_A0 own_A0 1 0
def own_l1 : List Int64 := own_insL own_A0 own_L0 1 0
def own_p1 : List Int32 := own_insP own_P0 1 0
def own_a2 (x : Int32) : List Int32 := own_insA own_a1 2 x
def own_b2 (x : Int32) : List Int32 := own_insB own_a1 own_b1 2 x
def own_l2 (x : Int32) : List Int64 := own_insL own_a1 own_l1 2 x
def own_p2 (x : Int32) : List Int32 := own_insP own_p1 2 x
def own_a3 (x y : Int32) : List Int32 := own_insA (own_a2 x) 3 y
def own_b3 (x y : Int32) : List Int32 := own_insB (own_a2 x) (own_b2 x) 3 y
def own_l3 (x y : Int32) : List Int64 := own_insL (own_a2 x) (own_l2 x) 3 y
def own_p3 (x y : Int32) : List Int32 := own_insP (own_p2 x) 3 y
def own_a4 (x y z : Int32) : List Int32 := own_insA (own_a3 x y) 4 z
def own_b4 (x y z : Int32) : List Int32 := own_insB (own_a3 x y) (own_b3 x y) 4 z
def own_l4 (x y z : Int32) : List Int64 := own_insL (own_a3 x y) (own_l3 x y) 4 z
def own_p4 (x y z : Int32) : List Int32 := own_insP (own_p3 x y) 4 z
abbrev own_two : List Int32 := [0, 1]
abbrev own_three : List Int32 := [0, 1, 2]
abbrev own_four : List Int32 := [0, 1, 2, 3]
abbrev own_five : List Int32 := [0, 1, 2, 3, 4]
abbrev own_vars : List Int32 := [1, 2, 3, 4]
abbrev own_same (lb lp : List Int32) : Prop := ∀ u ∈ own_five, ∀ w ∈ own_five, (own_g lp u = own_g lp w + 1 ↔ own_g lb u = w)
set_option maxRecDepth 65536 in
theorem own_ok1 : own_preI own_A0 own_L0 1 0 := by decide +kernel
set_option maxRecDepth 65536 in
theorem own_ok2 : ∀ x ∈ own_two, own_preI own_a1 own_l1 2 x := by decide +kernel
set_option maxRecDepth 65536 in
theorem own_ok3 : ∀ x ∈ own_two, ∀ y ∈ own_three, own_preI (own_a2 x) (own_l2 x) 3 y := by decide +kernel
set_option maxRecDepth 65536 in
theorem own_ok4 : ∀ x ∈ own_two, ∀ y ∈ own_three, ∀ z ∈ own_four, own_preI (own_a3 x y) (own_l3 x y) 4 z := by decide +kernel
set_option maxRecDepth 65536 in
theorem own_same4 : ∀ x ∈ own_two, ∀ y ∈ own_three, ∀ z ∈ own_four, own_same (own_b4 x y z) (own_p4 x y z) := by decide +kernel
set_option maxRecDepth 65536 in
theorem own_okM : ∀ x ∈ own_two, ∀ y ∈ own_three, ∀ z ∈ own_four, ∀ v ∈ own_vars, own_preM (own_a4 x y z) (own_b4 x y z) v := by decide +kernel
set_option maxRecDepth 65536 in
theorem own_okI : ∀ x ∈ own_two, ∀ y ∈ own_three, ∀ z ∈ own_four, ∀ v ∈ own_vars, ∀ w ∈ own_five, w ≠ v → own_preI (own_remA (own_a4 x y z) (own_b4 x y z) v) (own_l4 x y z) v w := by decide +kernel
set_option maxRecDepth 65536 in
theorem own_sameM : ∀ x ∈ own_two, ∀ y ∈ own_three, ∀ z ∈ own_four, ∀ v ∈ own_vars, ∀ w ∈ own_five, w ≠ v → own_same (own_insB (own_remA (own_a4 x y z) (own_b4 x y z) v) (own_remB (own_a4 x y z) (own_b4 x y z) v) v w) (own_insP (own_remP (own_p4 x y z) v) v w) := by decide +kernel
theorem own_five_in : ∀ u ∈ own_five, own_in u := by decide
/-- a remainder by a small number -/
theorem own_mask (x : Int32) : 0 ≤ (x &&& (2147483647 : Int32)).toInt := by
  have h := Jvm.Kit.i32_mask x (2147483647 : Int32) (k := 31) (by decide) (by decide)
  omega
theorem own_rem_int {x y : Int32} (hx : 0 ≤ x.toInt) (n : Nat) (hy : y.toInt = n) (hn : 0 < n) : 0 ≤ (x - (x / y) * y).toInt ∧ (x - (x / y) * y).toInt < n := by
  have hq : x - (x / y) * y = x % y := irem_eq_mod x y
  rw [hq, Int32.toInt_mod, hy]
  exact ⟨Int.tmod_nonneg _ hx, Int.tmod_lt_of_pos _ (by omega)⟩
theorem own_mem3 {r : Int32} (h : 0 ≤ r.toInt ∧ r.toInt < (3 : Nat)) : r ∈ own_three := by
  have : r.toInt = 0 ∨ r.toInt = 1 ∨ r.toInt = 2 := by omega
  rcases this with q | q | q
  · rw [Int32.toInt_inj.mp (q.trans (by decide : (0 : Int) = (0 : Int32).toInt))]; decide
  · rw [Int32.toInt_inj.mp (q.trans (by decide : (1 : Int) = (1 : Int32).toInt))]; decide
  · rw [Int32.toInt_inj.mp (q.trans (by decide : (2 : Int) = (2 : Int32).toInt))]; decide
theorem own_mem4 {r : Int32} (h : 0 ≤ r.toInt ∧ r.toInt < (4 : Nat)) : r ∈ own_four := by
  have : r.toInt = 0 ∨ r.toInt = 1 ∨ r.toInt = 2 ∨ r.toInt = 3 := by omega
  rcases this with q | q | q | q
  · rw [Int32.toInt_inj.mp (q.trans (by decide : (0 : Int) = (0 : Int32).toInt))]; decide
  · rw [Int32.toInt_inj.mp (q.trans (by decide : (1 : Int) = (1 : Int32).toInt))]; decide
  · rw [Int32.toInt_inj.mp (q.trans (by decide : (2 : Int) = (2 : Int32).toInt))]; decide
  · rw [Int32.toInt_inj.mp (q.trans (by decide : (3 : Int) = (3 : Int32).toInt))]; decide
theorem own_mem5 {r : Int32} (h : 0 ≤ r.toInt ∧ r.toInt < (5 : Nat)) : r ∈ own_five := by
  have : r.toInt = 0 ∨ r.toInt = 1 ∨ r.toInt = 2 ∨ r.toInt = 3 ∨ r.toInt = 4 := by omega
  rcases this with q | q | q | q | q
  · rw [Int32.toInt_inj.mp (q.trans (by decide : (0 : Int) = (0 : Int32).toInt))]; decide
  · rw [Int32.toInt_inj.mp (q.trans (by decide : (1 : Int) = (1 : Int32).toInt))]; decide
  · rw [Int32.toInt_inj.mp (q.trans (by decide : (2 : Int) = (2 : Int32).toInt))]; decide
  · rw [Int32.toInt_inj.mp (q.trans (by decide : (3 : Int) = (3 : Int32).toInt))]; decide
  · rw [Int32.toInt_inj.mp (q.trans (by decide : (4 : Int) = (4 : Int32).toInt))]; decide
theorem own_mem2 (x : Int32) : (x &&& (1 : Int32)) ∈ own_two := by
  have h := Jvm.Kit.i32_mask x (1 : Int32) (k := 1) (by decide) (by decide)
  have : (x &&& (1 : Int32)).toInt = 0 ∨ (x &&& (1 : Int32)).toInt = 1 := by omega
  rcases this with q | q
  · rw [Int32.toInt_inj.mp (q.trans (by decide : (0 : Int) = (0 : Int32).toInt))]; decide
  · rw [Int32.toInt_inj.mp (q.trans (by decide : (1 : Int) = (1 : Int32).toInt))]; decide
theorem own_mv (x : Int32) : ((1 : Int32) + (x &&& (3 : Int32))) ∈ own_vars := by
  have h := Jvm.Kit.i32_mask x (3 : Int32) (k := 2) (by decide) (by decide)
  have hm : (x &&& (3 : Int32)) ∈ own_four := own_mem4 (by omega)
  have all : ∀ q ∈ own_four, ((1 : Int32) + q) ∈ own_vars := by decide
  exact all _ hm
/-- where a variable goes: never above itself -/
def own_ml (r v : Int32) : Int32 := if r < v then r else r + 1
theorem own_ml_ok : ∀ r ∈ own_four, ∀ v ∈ own_vars, own_ml r v ∈ own_five ∧ own_ml r v ≠ v := by decide
theorem own_ushr3 (x : Int32) : 0 ≤ (XT.ushr x (3 : Int32)).toInt := by
  have h : (XT.ushr x (3 : Int32)).toBitVec = x.toBitVec >>> 3 := by
    unfold XT.ushr
    simp only [UInt32.toBitVec_toInt32, UInt32.toBitVec_shiftRight, Int32.toBitVec_toUInt32]
    rfl
  have h2 : (XT.ushr x (3 : Int32)).toInt = (XT.ushr x (3 : Int32)).toBitVec.toInt := rfl
  rw [h2, h, BitVec.toInt_eq_toNat_cond, BitVec.toNat_ushiftRight, Nat.shiftRight_eq_div_pow]
  have := x.toBitVec.isLt
  split <;> omega

theorem own_VO.keep {Z : State} {h h' : Heap} {a l b c : Addr} {nv : Int32} {la lb : List Int32} {ll : List Int64} {ws : List Addr} (V : own_VO Z h a l b c nv la lb ll) (Kp : Keep h h' ws) (na : a ∉ ws) (nl : l ∉ ws) (nb : b ∉ ws) (nc : c ∉ ws) : own_VO Z h' a l b c nv la lb ll := by
  obtain ⟨E, F1, F2, F3, F4, ⟨tp, F5⟩, A1, A2, A3⟩ := V
  exact ⟨E.keep Kp, F1.keep Kp na, F2.keep Kp na, F3.keep Kp na, F4.keep Kp na, ⟨tp, F5.keep Kp na⟩, A1.keep Kp nl, A2.keep Kp nb, A3.keep Kp nc⟩
theorem own_VO.exa {Z : State} {h : Heap} {a l b c : Addr} {nv : Int32} {la lb : List Int32} {ll : List Int64} (V : own_VO Z h a l b c nv la lb ll) : Exa Z h a "com/example/worldsum/worldsum/VariableOrder" := V.1

theorem own_up (x : Int32) (h : x ∈ own_two ∨ x ∈ own_three ∨ x ∈ own_four) : x ∈ own_five := by
  have h2 : ∀ q ∈ own_two, q ∈ own_five := by decide
  have h3 : ∀ q ∈ own_three, q ∈ own_five := by decide
  have h4 : ∀ q ∈ own_four, q ∈ own_five := by decide
  exact h.elim (h2 x) (fun h => h.elim (h3 x) (h4 x))
theorem own_varsin : ∀ q ∈ own_vars, own_in q := by decide
theorem own_len1 : own_a1.length = 5 ∧ own_b1.length = 5 ∧ own_l1.length = 5 ∧ own_p1.length = 5 := by
  refine ⟨?_, ?_, ?_, ?_⟩
  · rw [own_a1, own_insA_len]; rfl
  · rw [own_b1, own_insB_len]; rfl
  · rw [own_l1, own_insL_len]; rfl
  · rw [own_p1, own_insP_len]; rfl
theorem own_len2 (x : Int32) : (own_a2 x).length = 5 ∧ (own_b2 x).length = 5 ∧ (own_l2 x).length = 5 ∧ (own_p2 x).length = 5 :=
  ⟨(own_insA_len _ _ _).trans own_len1.1, (own_insB_len _ _ _ _).trans own_len1.2.1, (own_insL_len _ _ _ _).trans own_len1.2.2.1, (own_insP_len _ _ _).trans own_len1.2.2.2⟩
theorem own_len3 (x y : Int32) : (own_a3 x y).length = 5 ∧ (own_b3 x y).length = 5 ∧ (own_l3 x y).length = 5 ∧ (own_p3 x y).length = 5 :=
  ⟨(own_insA_len _ _ _).trans (own_len2 x).1, (own_insB_len _ _ _ _).trans (own_len2 x).2.1, (own_insL_len _ _ _ _).trans (own_len2 x).2.2.1, (own_insP_len _ _ _).trans (own_len2 x).2.2.2⟩
theorem own_len4 (x y z : Int32) : (own_a4 x y z).length = 5 ∧ (own_b4 x y z).length = 5 ∧ (own_l4 x y z).length = 5 ∧ (own_p4 x y z).length = 5 :=
  ⟨(own_insA_len _ _ _).trans (own_len3 x y).1, (own_insB_len _ _ _ _).trans (own_len3 x y).2.1, (own_insL_len _ _ _ _).trans (own_len3 x y).2.2.1, (own_insP_len _ _ _).trans (own_len3 x y).2.2.2⟩

set_option maxRecDepth 65536 in
set_option maxHeartbeats 40000000 in
theorem rm0 (l : Launch) (Z : State) (a0 : Array Value) (hw : ∀ d ∈ tables_1, d.before a0 Z = true) (p1 p2 p3 p4 p5 p6 : Int32) (h0 : Heap) (n0 : Nat) (Z0 : n0 ≤ h0.size) :
    own_Met l Z h0 x code maxLocals ret room_1 #[(.int p1), (.int p2), (.int p3), (.int p4), (.int p5), (.int p6)] (fun v h L => v = some (.int (1 : Int32)) ∧ Fr n0 L) := by
  refine own_body pn_0 (fun m => ef_0 m p1 p2 p3 p4 p5 p6) ?_
  intro p e s m below meth c T X hx hby hml hret hlk hown hnm hZ e0
  have hown : s.vm.findClass "com/example/worldsum/worldsum/VariableOrderIsDirectlyAbovePinLaw" = some m.cls := hown
  have hml : c.maxLocals = 18 := hml
  have N0 : Fr n0 ([] : List Loc) := Fr.nil n0
  show own_Go p e below _ T (mkF m 0 #[.val (.int p1), .val (.int p2), .val (.int p3), .val (.int p4), .val (.int p5), .val (.int p6), .unset, .unset, .unset, .unset, .unset, .unset, .unset, .unset, .unset, .unset, .unset, .unset] [])
  refine own_st (fun τ κ => XS.iloadN X.here hx rfl (hb hby at_0) rfl κ) ?_
  show own_Go p e below _ T (mkF m 1 #[.val (.int p1), .val (.int p2), .val (.int p3), .val (.int p4), .val (.int p5), .val (.int p6), .unset, .unset, .unset, .unset, .unset, .unset, .unset, .unset, .unset, .unset, .unset, .unset] [(.int p1)])
  refine own_st (fun τ κ => XT.iconstV X.here hx rfl (1) (hb hby at_1) (by decide) κ) ?_
  show own_Go p e below _ T (mkF m 2 #[.val (.int p1), .val (.int p2), .val (.int p3), .val (.int p4), .val (.int p5), .val (.int p6), .unset, .unset, .unset, .unset, .unset, .unset, .unset, .unset, .unset, .unset, .unset, .unset] [(.int (1 : Int32)), (.int p1)])
  refine own_st (fun τ κ => XS.iand X.here hx rfl (hb hby at_2) rfl κ) ?_
  show own_Go p e below _ T (mkF m 3 #[.val (.int p1), .val (.int p2), .val (.int p3), .val (.int p4), .val (.int p5), .val (.int p6), .unset, .unset, .unset, .unset, .unset, .unset, .unset, .unset, .unset, .unset, .unset, .unset] [(.int (p1 &&& (1 : Int32)))])
  refine own_st (fun τ κ => XS.istore X.here hx rfl (hb hby at_3) rfl (l' := #[.val (.int p1), .val (.int p2), .val (.int p3), .val (.int p4), .val (.int p5), .val (.int p6), .val (.int (p1 &&& (1 : Int32))), .unset, .unset, .unset, .unset, .unset, .unset, .unset, .unset, .unset, .unset, .unset]) rfl κ) ?_
  show own_Go p e below _ T (mkF m 5 #[.val (.int p1), .val (.int p2), .val (.int p3), .val (.int p4), .val (.int p5), .val (.int p6), .val (.int (p1 &&& (1 : Int32))), .unset, .unset, .unset, .unset, .unset, .unset, .unset, .unset, .unset, .unset, .unset] [])
  refine own_st (fun τ κ => XS.iloadN X.here hx rfl (hb hby at_5) rfl κ) ?_
  show own_Go p e below _ T (mkF m 6 #[.val (.int p1), .val (.int p2), .val (.int p3), .val (.int p4), .val (.int p5), .val (.int p6), .val (.int (p1 &&& (1 : Int32))), .unset, .unset, .unset, .unset, .unset, .unset, .unset, .unset, .unset, .unset, .unset] [(.int p2)])
  refine own_st (fun τ κ => Stand.ldcI X hx hown (mvT hZ (hw _ (List.mem_of_getElem? (i := 0) rfl))) rfl (hb hby at_6) κ) ?_
  show own_Go p e below _ T (mkF m 8 #[.val (.int p1), .val (.int p2), .val (.int p3), .val (.int p4), .val (.int p5), .val (.int p6), .val (.int (p1 &&& (1 : Int32))), .unset, .unset, .unset, .unset, .unset, .unset, .unset, .unset, .unset, .unset, .unset] [(.int (2147483647 : Int32)), (.int p2)])
  refine own_st (fun τ κ => XS.iand X.here hx rfl (hb hby at_8) rfl κ) ?_
  show own_Go p e below _ T (mkF m 9 #[.val (.int p1), .val (.int p2), .val (.int p3), .val (.int p4), .val (.int p5), .val (.int p6), .val (.int (p1 &&& (1 : Int32))), .unset, .unset, .unset, .unset, .unset, .unset, .unset, .unset, .unset, .unset, .unset] [(.int (p2 &&& (2147483647 : Int32)))])
  refine own_st (fun τ κ => XT.iconstV X.here hx rfl (3) (hb hby at_9) (by decide) κ) ?_
  show own_Go p e below _ T (mkF m 10 #[.val (.int p1), .val (.int p2), .val (.int p3), .val (.int p4), .val (.int p5), .val (.int p6), .val (.int (p1 &&& (1 : Int32))), .unset, .unset, .unset, .unset, .unset, .unset, .unset, .unset, .unset, .unset, .unset] [(.int (3 : Int32)), (.int (p2 &&& (2147483647 : Int32)))])
  refine own_st (fun τ κ => XS.irem X.here hx rfl (hb hby at_10) rfl (by decide) κ) ?_
  show own_Go p e below _ T (mkF m 11 #[.val (.int p1), .val (.int p2), .val (.int p3), .val (.int p4), .val (.int p5), .val (.int p6), .val (.int (p1 &&& (1 : Int32))), .unset, .unset, .unset, .unset, .unset, .unset, .unset, .unset, .unset, .unset, .unset] [(.int ((p2 &&& (2147483647 : Int32)) - ((p2 &&& (2147483647 : Int32)) / (3 : Int32)) * (3 : Int32)))])
  refine own_st (fun τ κ => XS.istore X.here hx rfl (hb hby at_11) rfl (l' := #[.val (.int p1), .val (.int p2), .val (.int p3), .val (.int p4), .val (.int p5), .val (.int p6), .val (.int (p1 &&& (1 : Int32))), .val (.int ((p2 &&& (2147483647 : Int32)) - ((p2 &&& (2147483647 : Int32)) / (3 : Int32)) * (3 : Int32))), .unset, .unset, .unset, .unset, .unset, .unset, .unset, .unset, .unset, .unset]) rfl κ) ?_
  show own_Go p e below _ T (mkF m 13 #[.val (.int p1), .val (.int p2), .val (.int p3), .val (.int p4), .val (.int p5), .val (.int p6), .val (.int (p1 &&& (1 : Int32))), .val (.int ((p2 &&& (2147483647 : Int32)) - ((p2 &&& (2147483647 : Int32)) / (3 : Int32)) * (3 : Int32))), .unset, .unset, .unset, .unset, .unset, .unset, .unset, .unset, .unset, .unset] [])
  refine own_st (fun τ κ => XS.iloadN X.here hx rfl (hb hby at_13) rfl κ) ?_
  show own_Go p e below _ T (mkF m 14 #[.val (.int p1), .val (.int p2), .val (.int p3), .val (.int p4), .val (.int p5), .val (.int p6), .val (.int (p1 &&& (1 : Int32))), .val (.int ((p2 &&& (2147483647 : Int32)) - ((p2 &&& (2147483647 : Int32)) / (3 : Int32)) * (3 : Int32))), .unset, .unset, .unset, .unset, .unset, .unset, .unset, .unset, .unset, .unset] [(.int p3)])
  refine own_st (fun τ κ => Stand.ldcI X hx hown (mvT hZ (hw _ (List.mem_of_getElem? (i := 0) rfl))) rfl (hb hby at_14) κ) ?_
  show own_Go p e below _ T (mkF m 16 #[.val (.int p1), .val (.int p2), .val (.int p3), .val (.int p4), .val (.int p5), .val (.int p6), .val (.int (p1 &&& (1 : Int32))), .val (.int ((p2 &&& (2147483647 : Int32)) - ((p2 &&& (2147483647 : Int32)) / (3 : Int32)) * (3 : Int32))), .unset, .unset, .unset, .unset, .unset, .unset, .unset, .unset, .unset, .unset] [(.int (2147483647 : Int32)), (.int p3)])
  refine own_st (fun τ κ => XS.iand X.here hx rfl (hb hby at_16) rfl κ) ?_
  show own_Go p e below _ T (mkF m 17 #[.val (.int p1), .val (.int p2), .val (.int p3), .val (.int p4), .val (.int p5), .val (.int p6), .val (.int (p1 &&& (1 : Int32))), .val (.int ((p2 &&& (2147483647 : Int32)) - ((p2 &&& (2147483647 : Int32)) / (3 : Int32)) * (3 : Int32))), .unset, .unset, .unset, .unset, .unset, .unset, .unset, .unset, .unset, .unset] [(.int (p3 &&& (2147483647 : Int32)))])
  refine own_st (fun τ κ => XT.iconstV X.here hx rfl (4) (hb hby at_17) (by decide) κ) ?_
  show own_Go p e below _ T (mkF m 18 #[.val (.int p1), .val (.int p2), .val (.int p3), .val (.int p4), .val (.int p5), .val (.int p6), .val (.int (p1 &&& (1 : Int32))), .val (.int ((p2 &&& (2147483647 : Int32)) - ((p2 &&& (2147483647 : Int32)) / (3 : Int32)) * (3 : Int32))), .unset, .unset, .unset, .unset, .unset, .unset, .unset, .unset, .unset, .unset] [(.int (4 : Int32)), (.int (p3 &&& (2147483647 : Int32)))])
  refine own_st (fun τ κ => XS.irem X.here hx rfl (hb hby at_18) rfl (by decide) κ) ?_
  show own_Go p e below _ T (mkF m 19 #[.val (.int p1), .val (.int p2), .val (.int p3), .val (.int p4), .val (.int p5), .val (.int p6), .val (.int (p1 &&& (1 : Int32))), .val (.int ((p2 &&& (2147483647 : Int32)) - ((p2 &&& (2147483647 : Int32)) / (3 : Int32)) * (3 : Int32))), .unset, .unset, .unset, .unset, .unset, .unset, .unset, .unset, .unset, .unset] [(.int ((p3 &&& (2147483647 : Int32)) - ((p3 &&& (2147483647 : Int32)) / (4 : Int32)) * (4 : Int32)))])
  refine own_st (fun τ κ => XS.istore X.here hx rfl (hb hby at_19) rfl (l' := #[.val (.int p1), .val (.int p2), .val (.int p3), .val (.int p4), .val (.int p5), .val (.int p6), .val (.int (p1 &&& (1 : Int32))), .val (.int ((p2 &&& (2147483647 : Int32)) - ((p2 &&& (2147483647 : Int32)) / (3 : Int32)) * (3 : Int32))), .val (.int ((p3 &&& (2147483647 : Int32)) - ((p3 &&& (2147483647 : Int32)) / (4 : Int32)) * (4 : Int32))), .unset, .unset, .unset, .unset, .unset, .unset, .unset, .unset, .unset]) rfl κ) ?_
  show own_Go p e below _ T (mkF m 21 #[.val (.int p1), .val (.int p2), .val (.int p3), .val (.int p4), .val (.int p5), .val (.int p6), .val (.int (p1 &&& (1 : Int32))), .val (.int ((p2 &&& (2147483647 : Int32)) - ((p2 &&& (2147483647 : Int32)) / (3 : Int32)) * (3 : Int32))), .val (.int ((p3 &&& (2147483647 : Int32)) - ((p3 &&& (2147483647 : Int32)) / (4 : Int32)) * (4 : Int32))), .unset, .unset, .unset, .unset, .unset, .unset, .unset, .unset, .unset] [])
  refine own_st (fun τ κ => XS.iloadN X.here hx rfl (hb hby at_21) rfl κ) ?_
  show own_Go p e below _ T (mkF m 22 #[.val (.int p1), .val (.int p2), .val (.int p3), .val (.int p4), .val (.int p5), .val (.int p6), .val (.int (p1 &&& (1 : Int32))), .val (.int ((p2 &&& (2147483647 : Int32)) - ((p2 &&& (2147483647 : Int32)) / (3 : Int32)) * (3 : Int32))), .val (.int ((p3 &&& (2147483647 : Int32)) - ((p3 &&& (2147483647 : Int32)) / (4 : Int32)) * (4 : Int32))), .unset, .unset, .unset, .unset, .unset, .unset, .unset, .unset, .unset] [(.int p4)])
  refine own_st (fun τ κ => XT.iconstV X.here hx rfl (1) (hb hby at_22) (by decide) κ) ?_
  show own_Go p e below _ T (mkF m 23 #[.val (.int p1), .val (.int p2), .val (.int p3), .val (.int p4), .val (.int p5), .val (.int p6), .val (.int (p1 &&& (1 : Int32))), .val (.int ((p2 &&& (2147483647 : Int32)) - ((p2 &&& (2147483647 : Int32)) / (3 : Int32)) * (3 : Int32))), .val (.int ((p3 &&& (2147483647 : Int32)) - ((p3 &&& (2147483647 : Int32)) / (4 : Int32)) * (4 : Int32))), .unset, .unset, .unset, .unset, .unset, .unset, .unset, .unset, .unset] [(.int (1 : Int32)), (.int p4)])
  refine own_st (fun τ κ => XS.iand X.here hx rfl (hb hby at_23) rfl κ) ?_
  show own_Go p e below _ T (mkF m 24 #[.val (.int p1), .val (.int p2), .val (.int p3), .val (.int p4), .val (.int p5), .val (.int p6), .val (.int (p1 &&& (1 : Int32))), .val (.int ((p2 &&& (2147483647 : Int32)) - ((p2 &&& (2147483647 : Int32)) / (3 : Int32)) * (3 : Int32))), .val (.int ((p3 &&& (2147483647 : Int32)) - ((p3 &&& (2147483647 : Int32)) / (4 : Int32)) * (4 : Int32))), .unset, .unset, .unset, .unset, .unset, .unset, .unset, .unset, .unset] [(.int (p4 &&& (1 : Int32)))])
  obtain ⟨dm, hdm⟩ : ∃ dm : Int32, dm = if (p4 &&& (1 : Int32)) = (0 : Int32) then (0 : Int32) else 1 := ⟨_, rfl⟩
  suffices J32 : own_Go p e below _ T (mkF m 32 #[.val (.int p1), .val (.int p2), .val (.int p3), .val (.int p4), .val (.int p5), .val (.int p6), .val (.int (p1 &&& (1 : Int32))), .val (.int ((p2 &&& (2147483647 : Int32)) - ((p2 &&& (2147483647 : Int32)) / (3 : Int32)) * (3 : Int32))), .val (.int ((p3 &&& (2147483647 : Int32)) - ((p3 &&& (2147483647 : Int32)) / (4 : Int32)) * (4 : Int32))), .unset, .unset, .unset, .unset, .unset, .unset, .unset, .unset, .unset] [(.int dm)]) by
    by_cases c24 : (p4 &&& (1 : Int32)) = (0 : Int32)
    · refine own_st (fun τ κ => XS.ifYes X.here hx rfl (pc0 := 24) (pc' := 31) rfl (hb hby at_24) rfl (XT.i0_eq_t c24) (by decide) (by decide) κ) ?_
      show own_Go p e below _ T (mkF m 31 #[.val (.int p1), .val (.int p2), .val (.int p3), .val (.int p4), .val (.int p5), .val (.int p6), .val (.int (p1 &&& (1 : Int32))), .val (.int ((p2 &&& (2147483647 : Int32)) - ((p2 &&& (2147483647 : Int32)) / (3 : Int32)) * (3 : Int32))), .val (.int ((p3 &&& (2147483647 : Int32)) - ((p3 &&& (2147483647 : Int32)) / (4 : Int32)) * (4 : Int32))), .unset, .unset, .unset, .unset, .unset, .unset, .unset, .unset, .unset] [])
      refine own_st (fun τ κ => XT.iconstV X.here hx rfl (0) (hb hby at_31) (by decide) κ) ?_
      show own_Go p e below _ T (mkF m 32 #[.val (.int p1), .val (.int p2), .val (.int p3), .val (.int p4), .val (.int p5), .val (.int p6), .val (.int (p1 &&& (1 : Int32))), .val (.int ((p2 &&& (2147483647 : Int32)) - ((p2 &&& (2147483647 : Int32)) / (3 : Int32)) * (3 : Int32))), .val (.int ((p3 &&& (2147483647 : Int32)) - ((p3 &&& (2147483647 : Int32)) / (4 : Int32)) * (4 : Int32))), .unset, .unset, .unset, .unset, .unset, .unset, .unset, .unset, .unset] [(.int (0 : Int32))])
      rw [if_pos c24] at hdm
      subst hdm
      exact J32
    · refine own_st (fun τ κ => XS.ifNo X.here hx rfl (hb hby at_24) rfl (XT.i0_eq_f c24) κ) ?_
      show own_Go p e below _ T (mkF m 27 #[.val (.int p1), .val (.int p2), .val (.int p3), .val (.int p4), .val (.int p5), .val (.int p6), .val (.int (p1 &&& (1 : Int32))), .val (.int ((p2 &&& (2147483647 : Int32)) - ((p2 &&& (2147483647 : Int32)) / (3 : Int32)) * (3 : Int32))), .val (.int ((p3 &&& (2147483647 : Int32)) - ((p3 &&& (2147483647 : Int32)) / (4 : Int32)) * (4 : Int32))), .unset, .unset, .unset, .unset, .unset, .unset, .unset, .unset, .unset] [])
      refine own_st (fun τ κ => XT.iconstV X.here hx rfl (1) (hb hby at_27) (by decide) κ) ?_
      show own_Go p e below _ T (mkF m 28 #[.val (.int p1), .val (.int p2), .val (.int p3), .val (.int p4), .val (.int p5), .val (.int p6), .val (.int (p1 &&& (1 : Int32))), .val (.int ((p2 &&& (2147483647 : Int32)) - ((p2 &&& (2147483647 : Int32)) / (3 : Int32)) * (3 : Int32))), .val (.int ((p3 &&& (2147483647 : Int32)) - ((p3 &&& (2147483647 : Int32)) / (4 : Int32)) * (4 : Int32))), .unset, .unset, .unset, .unset, .unset, .unset, .unset, .unset, .unset] [(.int (1 : Int32))])
      refine own_st (fun τ κ => XS.goto X.here hx rfl (pc0 := 28) (pc' := 32) rfl (hb hby at_28) (by decide) (by decide) κ) ?_
      show own_Go p e below _ T (mkF m 32 #[.val (.int p1), .val (.int p2), .val (.int p3), .val (.int p4), .val (.int p5), .val (.int p6), .val (.int (p1 &&& (1 : Int32))), .val (.int ((p2 &&& (2147483647 : Int32)) - ((p2 &&& (2147483647 : Int32)) / (3 : Int32)) * (3 : Int32))), .val (.int ((p3 &&& (2147483647 : Int32)) - ((p3 &&& (2147483647 : Int32)) / (4 : Int32)) * (4 : Int32))), .unset, .unset, .unset, .unset, .unset, .unset, .unset, .unset, .unset] [(.int (1 : Int32))])
      rw [if_neg c24] at hdm
      subst hdm
      exact J32
  show own_Go p e below _ T (mkF m 32 #[.val (.int p1), .val (.int p2), .val (.int p3), .val (.int p4), .val (.int p5), .val (.int p6), .val (.int (p1 &&& (1 : Int32))), .val (.int ((p2 &&& (2147483647 : Int32)) - ((p2 &&& (2147483647 : Int32)) / (3 : Int32)) * (3 : Int32))), .val (.int ((p3 &&& (2147483647 : Int32)) - ((p3 &&& (2147483647 : Int32)) / (4 : Int32)) * (4 : Int32))), .unset, .unset, .unset, .unset, .unset, .unset, .unset, .unset, .unset] [(.int dm)])
  refine own_st (fun τ κ => XS.istore X.here hx rfl (hb hby at_32) rfl (l' := #[.val (.int p1), .val (.int p2), .val (.int p3), .val (.int p4), .val (.int p5), .val (.int p6), .val (.int (p1 &&& (1 : Int32))), .val (.int ((p2 &&& (2147483647 : Int32)) - ((p2 &&& (2147483647 : Int32)) / (3 : Int32)) * (3 : Int32))), .val (.int ((p3 &&& (2147483647 : Int32)) - ((p3 &&& (2147483647 : Int32)) / (4 : Int32)) * (4 : Int32))), .val (.int dm), .unset, .unset, .unset, .unset, .unset, .unset, .unset, .unset]) rfl κ) ?_
  show own_Go p e below _ T (mkF m 34 #[.val (.int p1), .val (.int p2), .val (.int p3), .val (.int p4), .val (.int p5), .val (.int p6), .val (.int (p1 &&& (1 : Int32))), .val (.int ((p2 &&& (2147483647 : Int32)) - ((p2 &&& (2147483647 : Int32)) / (3 : Int32)) * (3 : Int32))), .val (.int ((p3 &&& (2147483647 : Int32)) - ((p3 &&& (2147483647 : Int32)) / (4 : Int32)) * (4 : Int32))), .val (.int dm), .unset, .unset, .unset, .unset, .unset, .unset, .unset, .unset] [])
  refine own_st (fun τ κ => XT.iconstV X.here hx rfl (1) (hb hby at_34) (by decide) κ) ?_
  show own_Go p e below _ T (mkF m 35 #[.val (.int p1), .val (.int p2), .val (.int p3), .val (.int p4), .val (.int p5), .val (.int p6), .val (.int (p1 &&& (1 : Int32))), .val (.int ((p2 &&& (2147483647 : Int32)) - ((p2 &&& (2147483647 : Int32)) / (3 : Int32)) * (3 : Int32))), .val (.int ((p3 &&& (2147483647 : Int32)) - ((p3 &&& (2147483647 : Int32)) / (4 : Int32)) * (4 : Int32))), .val (.int dm), .unset, .unset, .unset, .unset, .unset, .unset, .unset, .unset] [(.int (1 : Int32))])
  refine own_st (fun τ κ => XS.iloadN X.here hx rfl (hb hby at_35) rfl κ) ?_
  show own_Go p e below _ T (mkF m 36 #[.val (.int p1), .val (.int p2), .val (.int p3), .val (.int p4), .val (.int p5), .val (.int p6), .val (.int (p1 &&& (1 : Int32))), .val (.int ((p2 &&& (2147483647 : Int32)) - ((p2 &&& (2147483647 : Int32)) / (3 : Int32)) * (3 : Int32))), .val (.int ((p3 &&& (2147483647 : Int32)) - ((p3 &&& (2147483647 : Int32)) / (4 : Int32)) * (4 : Int32))), .val (.int dm), .unset, .unset, .unset, .unset, .unset, .unset, .unset, .unset] [(.int p4), (.int (1 : Int32))])
  refine own_st (fun τ κ => XT.iconstV X.here hx rfl (1) (hb hby at_36) (by decide) κ) ?_
  show own_Go p e below _ T (mkF m 37 #[.val (.int p1), .val (.int p2), .val (.int p3), .val (.int p4), .val (.int p5), .val (.int p6), .val (.int (p1 &&& (1 : Int32))), .val (.int ((p2 &&& (2147483647 : Int32)) - ((p2 &&& (2147483647 : Int32)) / (3 : Int32)) * (3 : Int32))), .val (.int ((p3 &&& (2147483647 : Int32)) - ((p3 &&& (2147483647 : Int32)) / (4 : Int32)) * (4 : Int32))), .val (.int dm), .unset, .unset, .unset, .unset, .unset, .unset, .unset, .unset] [(.int (1 : Int32)), (.int p4), (.int (1 : Int32))])
  refine own_st (fun τ κ => XT.iushr X.here hx rfl (hb hby at_37) rfl κ) ?_
  show own_Go p e below _ T (mkF m 38 #[.val (.int p1), .val (.int p2), .val (.int p3), .val (.int p4), .val (.int p5), .val (.int p6), .val (.int (p1 &&& (1 : Int32))), .val (.int ((p2 &&& (2147483647 : Int32)) - ((p2 &&& (2147483647 : Int32)) / (3 : Int32)) * (3 : Int32))), .val (.int ((p3 &&& (2147483647 : Int32)) - ((p3 &&& (2147483647 : Int32)) / (4 : Int32)) * (4 : Int32))), .val (.int dm), .unset, .unset, .unset, .unset, .unset, .unset, .unset, .unset] [(.int (XT.ushr p4 (1 : Int32))), (.int (1 : Int32))])
  refine own_st (fun τ κ => XT.iconstV X.here hx rfl (3) (hb hby at_38) (by decide) κ) ?_
  show own_Go p e below _ T (mkF m 39 #[.val (.int p1), .val (.int p2), .val (.int p3), .val (.int p4), .val (.int p5), .val (.int p6), .val (.int (p1 &&& (1 : Int32))), .val (.int ((p2 &&& (2147483647 : Int32)) - ((p2 &&& (2147483647 : Int32)) / (3 : Int32)) * (3 : Int32))), .val (.int ((p3 &&& (2147483647 : Int32)) - ((p3 &&& (2147483647 : Int32)) / (4 : Int32)) * (4 : Int32))), .val (.int dm), .unset, .unset, .unset, .unset, .unset, .unset, .unset, .unset] [(.int (3 : Int32)), (.int (XT.ushr p4 (1 : Int32))), (.int (1 : Int32))])
  refine own_st (fun τ κ => XS.iand X.here hx rfl (hb hby at_39) rfl κ) ?_
  show own_Go p e below _ T (mkF m 40 #[.val (.int p1), .val (.int p2), .val (.int p3), .val (.int p4), .val (.int p5), .val (.int p6), .val (.int (p1 &&& (1 : Int32))), .val (.int ((p2 &&& (2147483647 : Int32)) - ((p2 &&& (2147483647 : Int32)) / (3 : Int32)) * (3 : Int32))), .val (.int ((p3 &&& (2147483647 : Int32)) - ((p3 &&& (2147483647 : Int32)) / (4 : Int32)) * (4 : Int32))), .val (.int dm), .unset, .unset, .unset, .unset, .unset, .unset, .unset, .unset] [(.int ((XT.ushr p4 (1 : Int32)) &&& (3 : Int32))), (.int (1 : Int32))])
  refine own_st (fun τ κ => XS.iadd X.here hx rfl (hb hby at_40) rfl κ) ?_
  show own_Go p e below _ T (mkF m 41 #[.val (.int p1), .val (.int p2), .val (.int p3), .val (.int p4), .val (.int p5), .val (.int p6), .val (.int (p1 &&& (1 : Int32))), .val (.int ((p2 &&& (2147483647 : Int32)) - ((p2 &&& (2147483647 : Int32)) / (3 : Int32)) * (3 : Int32))), .val (.int ((p3 &&& (2147483647 : Int32)) - ((p3 &&& (2147483647 : Int32)) / (4 : Int32)) * (4 : Int32))), .val (.int dm), .unset, .unset, .unset, .unset, .unset, .unset, .unset, .unset] [(.int ((1 : Int32) + ((XT.ushr p4 (1 : Int32)) &&& (3 : Int32))))])
  refine own_st (fun τ κ => XS.istore X.here hx rfl (hb hby at_41) rfl (l' := #[.val (.int p1), .val (.int p2), .val (.int p3), .val (.int p4), .val (.int p5), .val (.int p6), .val (.int (p1 &&& (1 : Int32))), .val (.int ((p2 &&& (2147483647 : Int32)) - ((p2 &&& (2147483647 : Int32)) / (3 : Int32)) * (3 : Int32))), .val (.int ((p3 &&& (2147483647 : Int32)) - ((p3 &&& (2147483647 : Int32)) / (4 : Int32)) * (4 : Int32))), .val (.int dm), .val (.int ((1 : Int32) + ((XT.ushr p4 (1 : Int32)) &&& (3 : Int32)))), .unset, .unset, .unset, .unset, .unset, .unset, .unset]) rfl κ) ?_
  show own_Go p e below _ T (mkF m 43 #[.val (.int p1), .val (.int p2), .val (.int p3), .val (.int p4), .val (.int p5), .val (.int p6), .val (.int (p1 &&& (1 : Int32))), .val (.int ((p2 &&& (2147483647 : Int32)) - ((p2 &&& (2147483647 : Int32)) / (3 : Int32)) * (3 : Int32))), .val (.int ((p3 &&& (2147483647 : Int32)) - ((p3 &&& (2147483647 : Int32)) / (4 : Int32)) * (4 : Int32))), .val (.int dm), .val (.int ((1 : Int32) + ((XT.ushr p4 (1 : Int32)) &&& (3 : Int32)))), .unset, .unset, .unset, .unset, .unset, .unset, .unset] [])
  refine own_st (fun τ κ => XS.iloadN X.here hx rfl (hb hby at_43) rfl κ) ?_
  show own_Go p e below _ T (mkF m 44 #[.val (.int p1), .val (.int p2), .val (.int p3), .val (.int p4), .val (.int p5), .val (.int p6), .val (.int (p1 &&& (1 : Int32))), .val (.int ((p2 &&& (2147483647 : Int32)) - ((p2 &&& (2147483647 : Int32)) / (3 : Int32)) * (3 : Int32))), .val (.int ((p3 &&& (2147483647 : Int32)) - ((p3 &&& (2147483647 : Int32)) / (4 : Int32)) * (4 : Int32))), .val (.int dm), .val (.int ((1 : Int32) + ((XT.ushr p4 (1 : Int32)) &&& (3 : Int32)))), .unset, .unset, .unset, .unset, .unset, .unset, .unset] [(.int p4)])
  refine own_st (fun τ κ => XT.iconstV X.here hx rfl (3) (hb hby at_44) (by decide) κ) ?_
  show own_Go p e below _ T (mkF m 45 #[.val (.int p1), .val (.int p2), .val (.int p3), .val (.int p4), .val (.int p5), .val (.int p6), .val (.int (p1 &&& (1 : Int32))), .val (.int ((p2 &&& (2147483647 : Int32)) - ((p2 &&& (2147483647 : Int32)) / (3 : Int32)) * (3 : Int32))), .val (.int ((p3 &&& (2147483647 : Int32)) - ((p3 &&& (2147483647 : Int32)) / (4 : Int32)) * (4 : Int32))), .val (.int dm), .val (.int ((1 : Int32) + ((XT.ushr p4 (1 : Int32)) &&& (3 : Int32)))), .unset, .unset, .unset, .unset, .unset, .unset, .unset] [(.int (3 : Int32)), (.int p4)])
  refine own_st (fun τ κ => XT.iushr X.here hx rfl (hb hby at_45) rfl κ) ?_
  show own_Go p e below _ T (mkF m 46 #[.val (.int p1), .val (.int p2), .val (.int p3), .val (.int p4), .val (.int p5), .val (.int p6), .val (.int (p1 &&& (1 : Int32))), .val (.int ((p2 &&& (2147483647 : Int32)) - ((p2 &&& (2147483647 : Int32)) / (3 : Int32)) * (3 : Int32))), .val (.int ((p3 &&& (2147483647 : Int32)) - ((p3 &&& (2147483647 : Int32)) / (4 : Int32)) * (4 : Int32))), .val (.int dm), .val (.int ((1 : Int32) + ((XT.ushr p4 (1 : Int32)) &&& (3 : Int32)))), .unset, .unset, .unset, .unset, .unset, .unset, .unset] [(.int (XT.ushr p4 (3 : Int32)))])
  refine own_st (fun τ κ => XT.iconstV X.here hx rfl (4) (hb hby at_46) (by decide) κ) ?_
  show own_Go p e below _ T (mkF m 47 #[.val (.int p1), .val (.int p2), .val (.int p3), .val (.int p4), .val (.int p5), .val (.int p6), .val (.int (p1 &&& (1 : Int32))), .val (.int ((p2 &&& (2147483647 : Int32)) - ((p2 &&& (2147483647 : Int32)) / (3 : Int32)) * (3 : Int32))), .val (.int ((p3 &&& (2147483647 : Int32)) - ((p3 &&& (2147483647 : Int32)) / (4 : Int32)) * (4 : Int32))), .val (.int dm), .val (.int ((1 : Int32) + ((XT.ushr p4 (1 : Int32)) &&& (3 : Int32)))), .unset, .unset, .unset, .unset, .unset, .unset, .unset] [(.int (4 : Int32)), (.int (XT.ushr p4 (3 : Int32)))])
  refine own_st (fun τ κ => XS.irem X.here hx rfl (hb hby at_47) rfl (by decide) κ) ?_
  show own_Go p e below _ T (mkF m 48 #[.val (.int p1), .val (.int p2), .val (.int p3), .val (.int p4), .val (.int p5), .val (.int p6), .val (.int (p1 &&& (1 : Int32))), .val (.int ((p2 &&& (2147483647 : Int32)) - ((p2 &&& (2147483647 : Int32)) / (3 : Int32)) * (3 : Int32))), .val (.int ((p3 &&& (2147483647 : Int32)) - ((p3 &&& (2147483647 : Int32)) / (4 : Int32)) * (4 : Int32))), .val (.int dm), .val (.int ((1 : Int32) + ((XT.ushr p4 (1 : Int32)) &&& (3 : Int32)))), .unset, .unset, .unset, .unset, .unset, .unset, .unset] [(.int ((XT.ushr p4 (3 : Int32)) - ((XT.ushr p4 (3 : Int32)) / (4 : Int32)) * (4 : Int32)))])
  refine own_st (fun τ κ => XS.istore X.here hx rfl (hb hby at_48) rfl (l' := #[.val (.int p1), .val (.int p2), .val (.int p3), .val (.int p4), .val (.int p5), .val (.int p6), .val (.int (p1 &&& (1 : Int32))), .val (.int ((p2 &&& (2147483647 : Int32)) - ((p2 &&& (2147483647 : Int32)) / (3 : Int32)) * (3 : Int32))), .val (.int ((p3 &&& (2147483647 : Int32)) - ((p3 &&& (2147483647 : Int32)) / (4 : Int32)) * (4 : Int32))), .val (.int dm), .val (.int ((1 : Int32) + ((XT.ushr p4 (1 : Int32)) &&& (3 : Int32)))), .val (.int ((XT.ushr p4 (3 : Int32)) - ((XT.ushr p4 (3 : Int32)) / (4 : Int32)) * (4 : Int32))), .unset, .unset, .unset, .unset, .unset, .unset]) rfl κ) ?_
  show own_Go p e below _ T (mkF m 50 #[.val (.int p1), .val (.int p2), .val (.int p3), .val (.int p4), .val (.int p5), .val (.int p6), .val (.int (p1 &&& (1 : Int32))), .val (.int ((p2 &&& (2147483647 : Int32)) - ((p2 &&& (2147483647 : Int32)) / (3 : Int32)) * (3 : Int32))), .val (.int ((p3 &&& (2147483647 : Int32)) - ((p3 &&& (2147483647 : Int32)) / (4 : Int32)) * (4 : Int32))), .val (.int dm), .val (.int ((1 : Int32) + ((XT.ushr p4 (1 : Int32)) &&& (3 : Int32)))), .val (.int ((XT.ushr p4 (3 : Int32)) - ((XT.ushr p4 (3 : Int32)) / (4 : Int32)) * (4 : Int32))), .unset, .unset, .unset, .unset, .unset, .unset] [])
  refine own_st (fun τ κ => XS.iload X.here hx rfl (hb hby at_50) rfl κ) ?_
  show own_Go p e below _ T (mkF m 52 #[.val (.int p1), .val (.int p2), .val (.int p3), .val (.int p4), .val (.int p5), .val (.int p6), .val (.int (p1 &&& (1 : Int32))), .val (.int ((p2 &&& (2147483647 : Int32)) - ((p2 &&& (2147483647 : Int32)) / (3 : Int32)) * (3 : Int32))), .val (.int ((p3 &&& (2147483647 : Int32)) - ((p3 &&& (2147483647 : Int32)) / (4 : Int32)) * (4 : Int32))), .val (.int dm), .val (.int ((1 : Int32) + ((XT.ushr p4 (1 : Int32)) &&& (3 : Int32)))), .val (.int ((XT.ushr p4 (3 : Int32)) - ((XT.ushr p4 (3 : Int32)) / (4 : Int32)) * (4 : Int32))), .unset, .unset, .unset, .unset, .unset, .unset] [(.int ((XT.ushr p4 (3 : Int32)) - ((XT.ushr p4 (3 : Int32)) / (4 : Int32)) * (4 : Int32)))])
  refine own_st (fun τ κ => XS.iload X.here hx rfl (hb hby at_52) rfl κ) ?_
  show own_Go p e below _ T (mkF m 54 #[.val (.int p1), .val (.int p2), .val (.int p3), .val (.int p4), .val (.int p5), .val (.int p6), .val (.int (p1 &&& (1 : Int32))), .val (.int ((p2 &&& (2147483647 : Int32)) - ((p2 &&& (2147483647 : Int32)) / (3 : Int32)) * (3 : Int32))), .val (.int ((p3 &&& (2147483647 : Int32)) - ((p3 &&& (2147483647 : Int32)) / (4 : Int32)) * (4 : Int32))), .val (.int dm), .val (.int ((1 : Int32) + ((XT.ushr p4 (1 : Int32)) &&& (3 : Int32)))), .val (.int ((XT.ushr p4 (3 : Int32)) - ((XT.ushr p4 (3 : Int32)) / (4 : Int32)) * (4 : Int32))), .unset, .unset, .unset, .unset, .unset, .unset] [(.int ((1 : Int32) + ((XT.ushr p4 (1 : Int32)) &&& (3 : Int32)))), (.int ((XT.ushr p4 (3 : Int32)) - ((XT.ushr p4 (3 : Int32)) / (4 : Int32)) * (4 : Int32)))])
  suffices J66 : own_Go p e below _ T (mkF m 66 #[.val (.int p1), .val (.int p2), .val (.int p3), .val (.int p4), .val (.int p5), .val (.int p6), .val (.int (p1 &&& (1 : Int32))), .val (.int ((p2 &&& (2147483647 : Int32)) - ((p2 &&& (2147483647 : Int32)) / (3 : Int32)) * (3 : Int32))), .val (.int ((p3 &&& (2147483647 : Int32)) - ((p3 &&& (2147483647 : Int32)) / (4 : Int32)) * (4 : Int32))), .val (.int dm), .val (.int ((1 : Int32) + ((XT.ushr p4 (1 : Int32)) &&& (3 : Int32)))), .val (.int ((XT.ushr p4 (3 : Int32)) - ((XT.ushr p4 (3 : Int32)) / (4 : Int32)) * (4 : Int32))), .unset, .unset, .unset, .unset, .unset, .unset] [(.int (own_ml ((XT.ushr p4 (3 : Int32)) - ((XT.ushr p4 (3 : Int32)) / (4 : Int32)) * (4 : Int32)) ((1 : Int32) + ((XT.ushr p4 (1 : Int32)) &&& (3 : Int32)))))]) by
    by_cases c54 : ((XT.ushr p4 (3 : Int32)) - ((XT.ushr p4 (3 : Int32)) / (4 : Int32)) * (4 : Int32)) < ((1 : Int32) + ((XT.ushr p4 (1 : Int32)) &&& (3 : Int32)))
    · refine own_st (fun τ κ => XS.icmpYes X.here hx rfl (pc0 := 54) (pc' := 64) rfl (hb hby at_54) rfl (XT.ii_lt_t c54) (by decide) (by decide) κ) ?_
      show own_Go p e below _ T (mkF m 64 #[.val (.int p1), .val (.int p2), .val (.int p3), .val (.int p4), .val (.int p5), .val (.int p6), .val (.int (p1 &&& (1 : Int32))), .val (.int ((p2 &&& (2147483647 : Int32)) - ((p2 &&& (2147483647 : Int32)) / (3 : Int32)) * (3 : Int32))), .val (.int ((p3 &&& (2147483647 : Int32)) - ((p3 &&& (2147483647 : Int32)) / (4 : Int32)) * (4 : Int32))), .val (.int dm), .val (.int ((1 : Int32) + ((XT.ushr p4 (1 : Int32)) &&& (3 : Int32)))), .val (.int ((XT.ushr p4 (3 : Int32)) - ((XT.ushr p4 (3 : Int32)) / (4 : Int32)) * (4 : Int32))), .unset, .unset, .unset, .unset, .unset, .unset] [])
      refine own_st (fun τ κ => XS.iload X.here hx rfl (hb hby at_64) rfl κ) ?_
      show own_Go p e below _ T (mkF m 66 #[.val (.int p1), .val (.int p2), .val (.int p3), .val (.int p4), .val (.int p5), .val (.int p6), .val (.int (p1 &&& (1 : Int32))), .val (.int ((p2 &&& (2147483647 : Int32)) - ((p2 &&& (2147483647 : Int32)) / (3 : Int32)) * (3 : Int32))), .val (.int ((p3 &&& (2147483647 : Int32)) - ((p3 &&& (2147483647 : Int32)) / (4 : Int32)) * (4 : Int32))), .val (.int dm), .val (.int ((1 : Int32) + ((XT.ushr p4 (1 : Int32)) &&& (3 : Int32)))), .val (.int ((XT.ushr p4 (3 : Int32)) - ((XT.ushr p4 (3 : Int32)) / (4 : Int32)) * (4 : Int32))), .unset, .unset, .unset, .unset, .unset, .unset] [(.int ((XT.ushr p4 (3 : Int32)) - ((XT.ushr p4 (3 : Int32)) / (4 : Int32)) * (4 : Int32)))])
      rw [own_ml, if_pos c54] at J66
      exact J66
    · refine own_st (fun τ κ => XS.icmpNo X.here hx rfl (hb hby at_54) rfl (XT.ii_lt_f c54) κ) ?_
      show own_Go p e below _ T (mkF m 57 #[.val (.int p1), .val (.int p2), .val (.int p3), .val (.int p4), .val (.int p5), .val (.int p6), .val (.int (p1 &&& (1 : Int32))), .val (.int ((p2 &&& (2147483647 : Int32)) - ((p2 &&& (2147483647 : Int32)) / (3 : Int32)) * (3 : Int32))), .val (.int ((p3 &&& (2147483647 : Int32)) - ((p3 &&& (2147483647 : Int32)) / (4 : Int32)) * (4 : Int32))), .val (.int dm), .val (.int ((1 : Int32) + ((XT.ushr p4 (1 : Int32)) &&& (3 : Int32)))), .val (.int ((XT.ushr p4 (3 : Int32)) - ((XT.ushr p4 (3 : Int32)) / (4 : Int32)) * (4 : Int32))), .unset, .unset, .unset, .unset, .unset, .unset] [])
      refine own_st (fun τ κ => XS.iload X.here hx rfl (hb hby at_57) rfl κ) ?_
      show own_Go p e below _ T (mkF m 59 #[.val (.int p1), .val (.int p2), .val (.int p3), .val (.int p4), .val (.int p5), .val (.int p6), .val (.int (p1 &&& (1 : Int32))), .val (.int ((p2 &&& (2147483647 : Int32)) - ((p2 &&& (2147483647 : Int32)) / (3 : Int32)) * (3 : Int32))), .val (.int ((p3 &&& (2147483647 : Int32)) - ((p3 &&& (2147483647 : Int32)) / (4 : Int32)) * (4 : Int32))), .val (.int dm), .val (.int ((1 : Int32) + ((XT.ushr p4 (1 : Int32)) &&& (3 : Int32)))), .val (.int ((XT.ushr p4 (3 : Int32)) - ((XT.ushr p4 (3 : Int32)) / (4 : Int32)) * (4 : Int32))), .unset, .unset, .unset, .unset, .unset, .unset] [(.int ((XT.ushr p4 (3 : Int32)) - ((XT.ushr p4 (3 : Int32)) / (4 : Int32)) * (4 : Int32)))])
      refine own_st (fun τ κ => XT.iconstV X.here hx rfl (1) (hb hby at_59) (by decide) κ) ?_
      show own_Go p e below _ T (mkF m 60 #[.val (.int p1), .val (.int p2), .val (.int p3), .val (.int p4), .val (.int p5), .val (.int p6), .val (.int (p1 &&& (1 : Int32))), .val (.int ((p2 &&& (2147483647 : Int32)) - ((p2 &&& (2147483647 : Int32)) / (3 : Int32)) * (3 : Int32))), .val (.int ((p3 &&& (2147483647 : Int32)) - ((p3 &&& (2147483647 : Int32)) / (4 : Int32)) * (4 : Int32))), .val (.int dm), .val (.int ((1 : Int32) + ((XT.ushr p4 (1 : Int32)) &&& (3 : Int32)))), .val (.int ((XT.ushr p4 (3 : Int32)) - ((XT.ushr p4 (3 : Int32)) / (4 : Int32)) * (4 : Int32))), .unset, .unset, .unset, .unset, .unset, .unset] [(.int (1 : Int32)), (.int ((XT.ushr p4 (3 : Int32)) - ((XT.ushr p4 (3 : Int32)) / (4 : Int32)) * (4 : Int32)))])
      refine own_st (fun τ κ => XS.iadd X.here hx rfl (hb hby at_60) rfl κ) ?_
      show own_Go p e below _ T (mkF m 61 #[.val (.int p1), .val (.int p2), .val (.int p3), .val (.int p4), .val (.int p5), .val (.int p6), .val (.int (p1 &&& (1 : Int32))), .val (.int ((p2 &&& (2147483647 : Int32)) - ((p2 &&& (2147483647 : Int32)) / (3 : Int32)) * (3 : Int32))), .val (.int ((p3 &&& (2147483647 : Int32)) - ((p3 &&& (2147483647 : Int32)) / (4 : Int32)) * (4 : Int32))), .val (.int dm), .val (.int ((1 : Int32) + ((XT.ushr p4 (1 : Int32)) &&& (3 : Int32)))), .val (.int ((XT.ushr p4 (3 : Int32)) - ((XT.ushr p4 (3 : Int32)) / (4 : Int32)) * (4 : Int32))), .unset, .unset, .unset, .unset, .unset, .unset] [(.int (((XT.ushr p4 (3 : Int32)) - ((XT.ushr p4 (3 : Int32)) / (4 : Int32)) * (4 : Int32)) + (1 : Int32)))])
      refine own_st (fun τ κ => XS.goto X.here hx rfl (pc0 := 61) (pc' := 66) rfl (hb hby at_61) (by decide) (by decide) κ) ?_
      show own_Go p e below _ T (mkF m 66 #[.val (.int p1), .val (.int p2), .val (.int p3), .val (.int p4), .val (.int p5), .val (.int p6), .val (.int (p1 &&& (1 : Int32))), .val (.int ((p2 &&& (2147483647 : Int32)) - ((p2 &&& (2147483647 : Int32)) / (3 : Int32)) * (3 : Int32))), .val (.int ((p3 &&& (2147483647 : Int32)) - ((p3 &&& (2147483647 : Int32)) / (4 : Int32)) * (4 : Int32))), .val (.int dm), .val (.int ((1 : Int32) + ((XT.ushr p4 (1 : Int32)) &&& (3 : Int32)))), .val (.int ((XT.ushr p4 (3 : Int32)) - ((XT.ushr p4 (3 : Int32)) / (4 : Int32)) * (4 : Int32))), .unset, .unset, .unset, .unset, .unset, .unset] [(.int (((XT.ushr p4 (3 : Int32)) - ((XT.ushr p4 (3 : Int32)) / (4 : Int32)) * (4 : Int32)) + (1 : Int32)))])
      rw [own_ml, if_neg c54] at J66
      exact J66
  show own_Go p e below _ T (mkF m 66 #[.val (.int p1), .val (.int p2), .val (.int p3), .val (.int p4), .val (.int p5), .val (.int p6), .val (.int (p1 &&& (1 : Int32))), .val (.int ((p2 &&& (2147483647 : Int32)) - ((p2 &&& (2147483647 : Int32)) / (3 : Int32)) * (3 : Int32))), .val (.int ((p3 &&& (2147483647 : Int32)) - ((p3 &&& (2147483647 : Int32)) / (4 : Int32)) * (4 : Int32))), .val (.int dm), .val (.int ((1 : Int32) + ((XT.ushr p4 (1 : Int32)) &&& (3 : Int32)))), .val (.int ((XT.ushr p4 (3 : Int32)) - ((XT.ushr p4 (3 : Int32)) / (4 : Int32)) * (4 : Int32))), .unset, .unset, .unset, .unset, .unset, .unset] [(.int (own_ml ((XT.ushr p4 (3 : Int32)) - ((XT.ushr p4 (3 : Int32)) / (4 : Int32)) * (4 : Int32)) ((1 : Int32) + ((XT.ushr p4 (1 : Int32)) &&& (3 : Int32)))))])
  refine own_st (fun τ κ => XS.istore X.here hx rfl (hb hby at_66) rfl (l' := #[.val (.int p1), .val (.int p2), .val (.int p3), .val (.int p4), .val (.int p5), .val (.int p6), .val (.int (p1 &&& (1 : Int32))), .val (.int ((p2 &&& (2147483647 : Int32)) - ((p2 &&& (2147483647 : Int32)) / (3 : Int32)) * (3 : Int32))), .val (.int ((p3 &&& (2147483647 : Int32)) - ((p3 &&& (2147483647 : Int32)) / (4 : Int32)) * (4 : Int32))), .val (.int dm), .val (.int ((1 : Int32) + ((XT.ushr p4 (1 : Int32)) &&& (3 : Int32)))), .val (.int ((XT.ushr p4 (3 : Int32)) - ((XT.ushr p4 (3 : Int32)) / (4 : Int32)) * (4 : Int32))), .val (.int (own_ml ((XT.ushr p4 (3 : Int32)) - ((XT.ushr p4 (3 : Int32)) / (4 : Int32)) * (4 : Int32)) ((1 : Int32) + ((XT.ushr p4 (1 : Int32)) &&& (3 : Int32))))), .unset, .unset, .unset, .unset, .unset]) rfl κ) ?_
  show own_Go p e below _ T (mkF m 68 #[.val (.int p1), .val (.int p2), .val (.int p3), .val (.int p4), .val (.int p5), .val (.int p6), .val (.int (p1 &&& (1 : Int32))), .val (.int ((p2 &&& (2147483647 : Int32)) - ((p2 &&& (2147483647 : Int32)) / (3 : Int32)) * (3 : Int32))), .val (.int ((p3 &&& (2147483647 : Int32)) - ((p3 &&& (2147483647 : Int32)) / (4 : Int32)) * (4 : Int32))), .val (.int dm), .val (.int ((1 : Int32) + ((XT.ushr p4 (1 : Int32)) &&& (3 : Int32)))), .val (.int ((XT.ushr p4 (3 : Int32)) - ((XT.ushr p4 (3 : Int32)) / (4 : Int32)) * (4 : Int32))), .val (.int (own_ml ((XT.ushr p4 (3 : Int32)) - ((XT.ushr p4 (3 : Int32)) / (4 : Int32)) * (4 : Int32)) ((1 : Int32) + ((XT.ushr p4 (1 : Int32)) &&& (3 : Int32))))), .unset, .unset, .unset, .unset, .unset] [])
  refine own_st (fun τ κ => XS.iload X.here hx rfl (hb hby at_68) rfl κ) ?_
  show own_Go p e below _ T (mkF m 70 #[.val (.int p1), .val (.int p2), .val (.int p3), .val (.int p4), .val (.int p5), .val (.int p6), .val (.int (p1 &&& (1 : Int32))), .val (.int ((p2 &&& (2147483647 : Int32)) - ((p2 &&& (2147483647 : Int32)) / (3 : Int32)) * (3 : Int32))), .val (.int ((p3 &&& (2147483647 : Int32)) - ((p3 &&& (2147483647 : Int32)) / (4 : Int32)) * (4 : Int32))), .val (.int dm), .val (.int ((1 : Int32) + ((XT.ushr p4 (1 : Int32)) &&& (3 : Int32)))), .val (.int ((XT.ushr p4 (3 : Int32)) - ((XT.ushr p4 (3 : Int32)) / (4 : Int32)) * (4 : Int32))), .val (.int (own_ml ((XT.ushr p4 (3 : Int32)) - ((XT.ushr p4 (3 : Int32)) / (4 : Int32)) * (4 : Int32)) ((1 : Int32) + ((XT.ushr p4 (1 : Int32)) &&& (3 : Int32))))), .unset, .unset, .unset, .unset, .unset] [(.int p5)])
  refine own_st (fun τ κ => Stand.ldcI X hx hown (mvT hZ (hw _ (List.mem_of_getElem? (i := 0) rfl))) rfl (hb hby at_70) κ) ?_
  show own_Go p e below _ T (mkF m 72 #[.val (.int p1), .val (.int p2), .val (.int p3), .val (.int p4), .val (.int p5), .val (.int p6), .val (.int (p1 &&& (1 : Int32))), .val (.int ((p2 &&& (2147483647 : Int32)) - ((p2 &&& (2147483647 : Int32)) / (3 : Int32)) * (3 : Int32))), .val (.int ((p3 &&& (2147483647 : Int32)) - ((p3 &&& (2147483647 : Int32)) / (4 : Int32)) * (4 : Int32))), .val (.int dm), .val (.int ((1 : Int32) + ((XT.ushr p4 (1 : Int32)) &&& (3 : Int32)))), .val (.int ((XT.ushr p4 (3 : Int32)) - ((XT.ushr p4 (3 : Int32)) / (4 : Int32)) * (4 : Int32))), .val (.int (own_ml ((XT.ushr p4 (3 : Int32)) - ((XT.ushr p4 (3 : Int32)) / (4 : Int32)) * (4 : Int32)) ((1 : Int32) + ((XT.ushr p4 (1 : Int32)) &&& (3 : Int32))))), .unset, .unset, .unset, .unset, .unset] [(.int (2147483647 : Int32)), (.int p5)])
  refine own_st (fun τ κ => XS.iand X.here hx rfl (hb hby at_72) rfl κ) ?_
  show own_Go p e below _ T (mkF m 73 #[.val (.int p1), .val (.int p2), .val (.int p3), .val (.int p4), .val (.int p5), .val (.int p6), .val (.int (p1 &&& (1 : Int32))), .val (.int ((p2 &&& (2147483647 : Int32)) - ((p2 &&& (2147483647 : Int32)) / (3 : Int32)) * (3 : Int32))), .val (.int ((p3 &&& (2147483647 : Int32)) - ((p3 &&& (2147483647 : Int32)) / (4 : Int32)) * (4 : Int32))), .val (.int dm), .val (.int ((1 : Int32) + ((XT.ushr p4 (1 : Int32)) &&& (3 : Int32)))), .val (.int ((XT.ushr p4 (3 : Int32)) - ((XT.ushr p4 (3 : Int32)) / (4 : Int32)) * (4 : Int32))), .val (.int (own_ml ((XT.ushr p4 (3 : Int32)) - ((XT.ushr p4 (3 : Int32)) / (4 : Int32)) * (4 : Int32)) ((1 : Int32) + ((XT.ushr p4 (1 : Int32)) &&& (3 : Int32))))), .unset, .unset, .unset, .unset, .unset] [(.int (p5 &&& (2147483647 : Int32)))])
  refine own_st (fun τ κ => XT.iconstV X.here hx rfl (5) (hb hby at_73) (by decide) κ) ?_
  show own_Go p e below _ T (mkF m 74 #[.val (.int p1), .val (.int p2), .val (.int p3), .val (.int p4), .val (.int p5), .val (.int p6), .val (.int (p1 &&& (1 : Int32))), .val (.int ((p2 &&& (2147483647 : Int32)) - ((p2 &&& (2147483647 : Int32)) / (3 : Int32)) * (3 : Int32))), .val (.int ((p3 &&& (2147483647 : Int32)) - ((p3 &&& (2147483647 : Int32)) / (4 : Int32)) * (4 : Int32))), .val (.int dm), .val (.int ((1 : Int32) + ((XT.ushr p4 (1 : Int32)) &&& (3 : Int32)))), .val (.int ((XT.ushr p4 (3 : Int32)) - ((XT.ushr p4 (3 : Int32)) / (4 : Int32)) * (4 : Int32))), .val (.int (own_ml ((XT.ushr p4 (3 : Int32)) - ((XT.ushr p4 (3 : Int32)) / (4 : Int32)) * (4 : Int32)) ((1 : Int32) + ((XT.ushr p4 (1 : Int32)) &&& (3 : Int32))))), .unset, .unset, .unset, .unset, .unset] [(.int (5 : Int32)), (.int (p5 &&& (2147483647 : Int32)))])
  refine own_st (fun τ κ => XS.irem X.here hx rfl (hb hby at_74) rfl (by decide) κ) ?_
  show own_Go p e below _ T (mkF m 75 #[.val (.int p1), .val (.int p2), .val (.int p3), .val (.int p4), .val (.int p5), .val (.int p6), .val (.int (p1 &&& (1 : Int32))), .val (.int ((p2 &&& (2147483647 : Int32)) - ((p2 &&& (2147483647 : Int32)) / (3 : Int32)) * (3 : Int32))), .val (.int ((p3 &&& (2147483647 : Int32)) - ((p3 &&& (2147483647 : Int32)) / (4 : Int32)) * (4 : Int32))), .val (.int dm), .val (.int ((1 : Int32) + ((XT.ushr p4 (1 : Int32)) &&& (3 : Int32)))), .val (.int ((XT.ushr p4 (3 : Int32)) - ((XT.ushr p4 (3 : Int32)) / (4 : Int32)) * (4 : Int32))), .val (.int (own_ml ((XT.ushr p4 (3 : Int32)) - ((XT.ushr p4 (3 : Int32)) / (4 : Int32)) * (4 : Int32)) ((1 : Int32) + ((XT.ushr p4 (1 : Int32)) &&& (3 : Int32))))), .unset, .unset, .unset, .unset, .unset] [(.int ((p5 &&& (2147483647 : Int32)) - ((p5 &&& (2147483647 : Int32)) / (5 : Int32)) * (5 : Int32)))])
  refine own_st (fun τ κ => XS.istore X.here hx rfl (hb hby at_75) rfl (l' := #[.val (.int p1), .val (.int p2), .val (.int p3), .val (.int p4), .val (.int p5), .val (.int p6), .val (.int (p1 &&& (1 : Int32))), .val (.int ((p2 &&& (2147483647 : Int32)) - ((p2 &&& (2147483647 : Int32)) / (3 : Int32)) * (3 : Int32))), .val (.int ((p3 &&& (2147483647 : Int32)) - ((p3 &&& (2147483647 : Int32)) / (4 : Int32)) * (4 : Int32))), .val (.int dm), .val (.int ((1 : Int32) + ((XT.ushr p4 (1 : Int32)) &&& (3 : Int32)))), .val (.int ((XT.ushr p4 (3 : Int32)) - ((XT.ushr p4 (3 : Int32)) / (4 : Int32)) * (4 : Int32))), .val (.int (own_ml ((XT.ushr p4 (3 : Int32)) - ((XT.ushr p4 (3 : Int32)) / (4 : Int32)) * (4 : Int32)) ((1 : Int32) + ((XT.ushr p4 (1 : Int32)) &&& (3 : Int32))))), .val (.int ((p5 &&& (2147483647 : Int32)) - ((p5 &&& (2147483647 : Int32)) / (5 : Int32)) * (5 : Int32))), .unset, .unset, .unset, .unset]) rfl κ) ?_
  show own_Go p e below _ T (mkF m 77 #[.val (.int p1), .val (.int p2), .val (.int p3), .val (.int p4), .val (.int p5), .val (.int p6), .val (.int (p1 &&& (1 : Int32))), .val (.int ((p2 &&& (2147483647 : Int32)) - ((p2 &&& (2147483647 : Int32)) / (3 : Int32)) * (3 : Int32))), .val (.int ((p3 &&& (2147483647 : Int32)) - ((p3 &&& (2147483647 : Int32)) / (4 : Int32)) * (4 : Int32))), .val (.int dm), .val (.int ((1 : Int32) + ((XT.ushr p4 (1 : Int32)) &&& (3 : Int32)))), .val (.int ((XT.ushr p4 (3 : Int32)) - ((XT.ushr p4 (3 : Int32)) / (4 : Int32)) * (4 : Int32))), .val (.int (own_ml ((XT.ushr p4 (3 : Int32)) - ((XT.ushr p4 (3 : Int32)) / (4 : Int32)) * (4 : Int32)) ((1 : Int32) + ((XT.ushr p4 (1 : Int32)) &&& (3 : Int32))))), .val (.int ((p5 &&& (2147483647 : Int32)) - ((p5 &&& (2147483647 : Int32)) / (5 : Int32)) * (5 : Int32))), .unset, .unset, .unset, .unset] [])
  refine own_st (fun τ κ => XS.iload X.here hx rfl (hb hby at_77) rfl κ) ?_
  show own_Go p e below _ T (mkF m 79 #[.val (.int p1), .val (.int p2), .val (.int p3), .val (.int p4), .val (.int p5), .val (.int p6), .val (.int (p1 &&& (1 : Int32))), .val (.int ((p2 &&& (2147483647 : Int32)) - ((p2 &&& (2147483647 : Int32)) / (3 : Int32)) * (3 : Int32))), .val (.int ((p3 &&& (2147483647 : Int32)) - ((p3 &&& (2147483647 : Int32)) / (4 : Int32)) * (4 : Int32))), .val (.int dm), .val (.int ((1 : Int32) + ((XT.ushr p4 (1 : Int32)) &&& (3 : Int32)))), .val (.int ((XT.ushr p4 (3 : Int32)) - ((XT.ushr p4 (3 : Int32)) / (4 : Int32)) * (4 : Int32))), .val (.int (own_ml ((XT.ushr p4 (3 : Int32)) - ((XT.ushr p4 (3 : Int32)) / (4 : Int32)) * (4 : Int32)) ((1 : Int32) + ((XT.ushr p4 (1 : Int32)) &&& (3 : Int32))))), .val (.int ((p5 &&& (2147483647 : Int32)) - ((p5 &&& (2147483647 : Int32)) / (5 : Int32)) * (5 : Int32))), .unset, .unset, .unset, .unset] [(.int p6)])
  refine own_st (fun τ κ => Stand.ldcI X hx hown (mvT hZ (hw _ (List.mem_of_getElem? (i := 0) rfl))) rfl (hb hby at_79) κ) ?_
  show own_Go p e below _ T (mkF m 81 #[.val (.int p1), .val (.int p2), .val (.int p3), .val (.int p4), .val (.int p5), .val (.int p6), .val (.int (p1 &&& (1 : Int32))), .val (.int ((p2 &&& (2147483647 : Int32)) - ((p2 &&& (2147483647 : Int32)) / (3 : Int32)) * (3 : Int32))), .val (.int ((p3 &&& (2147483647 : Int32)) - ((p3 &&& (2147483647 : Int32)) / (4 : Int32)) * (4 : Int32))), .val (.int dm), .val (.int ((1 : Int32) + ((XT.ushr p4 (1 : Int32)) &&& (3 : Int32)))), .val (.int ((XT.ushr p4 (3 : Int32)) - ((XT.ushr p4 (3 : Int32)) / (4 : Int32)) * (4 : Int32))), .val (.int (own_ml ((XT.ushr p4 (3 : Int32)) - ((XT.ushr p4 (3 : Int32)) / (4 : Int32)) * (4 : Int32)) ((1 : Int32) + ((XT.ushr p4 (1 : Int32)) &&& (3 : Int32))))), .val (.int ((p5 &&& (2147483647 : Int32)) - ((p5 &&& (2147483647 : Int32)) / (5 : Int32)) * (5 : Int32))), .unset, .unset, .unset, .unset] [(.int (2147483647 : Int32)), (.int p6)])
  refine own_st (fun τ κ => XS.iand X.here hx rfl (hb hby at_81) rfl κ) ?_
  show own_Go p e below _ T (mkF m 82 #[.val (.int p1), .val (.int p2), .val (.int p3), .val (.int p4), .val (.int p5), .val (.int p6), .val (.int (p1 &&& (1 : Int32))), .val (.int ((p2 &&& (2147483647 : Int32)) - ((p2 &&& (2147483647 : Int32)) / (3 : Int32)) * (3 : Int32))), .val (.int ((p3 &&& (2147483647 : Int32)) - ((p3 &&& (2147483647 : Int32)) / (4 : Int32)) * (4 : Int32))), .val (.int dm), .val (.int ((1 : Int32) + ((XT.ushr p4 (1 : Int32)) &&& (3 : Int32)))), .val (.int ((XT.ushr p4 (3 : Int32)) - ((XT.ushr p4 (3 : Int32)) / (4 : Int32)) * (4 : Int32))), .val (.int (own_ml ((XT.ushr p4 (3 : Int32)) - ((XT.ushr p4 (3 : Int32)) / (4 : Int32)) * (4 : Int32)) ((1 : Int32) + ((XT.ushr p4 (1 : Int32)) &&& (3 : Int32))))), .val (.int ((p5 &&& (2147483647 : Int32)) - ((p5 &&& (2147483647 : Int32)) / (5 : Int32)) * (5 : Int32))), .unset, .unset, .unset, .unset] [(.int (p6 &&& (2147483647 : Int32)))])
  refine own_st (fun τ κ => XT.iconstV X.here hx rfl (5) (hb hby at_82) (by decide) κ) ?_
  show own_Go p e below _ T (mkF m 83 #[.val (.int p1), .val (.int p2), .val (.int p3), .val (.int p4), .val (.int p5), .val (.int p6), .val (.int (p1 &&& (1 : Int32))), .val (.int ((p2 &&& (2147483647 : Int32)) - ((p2 &&& (2147483647 : Int32)) / (3 : Int32)) * (3 : Int32))), .val (.int ((p3 &&& (2147483647 : Int32)) - ((p3 &&& (2147483647 : Int32)) / (4 : Int32)) * (4 : Int32))), .val (.int dm), .val (.int ((1 : Int32) + ((XT.ushr p4 (1 : Int32)) &&& (3 : Int32)))), .val (.int ((XT.ushr p4 (3 : Int32)) - ((XT.ushr p4 (3 : Int32)) / (4 : Int32)) * (4 : Int32))), .val (.int (own_ml ((XT.ushr p4 (3 : Int32)) - ((XT.ushr p4 (3 : Int32)) / (4 : Int32)) * (4 : Int32)) ((1 : Int32) + ((XT.ushr p4 (1 : Int32)) &&& (3 : Int32))))), .val (.int ((p5 &&& (2147483647 : Int32)) - ((p5 &&& (2147483647 : Int32)) / (5 : Int32)) * (5 : Int32))), .unset, .unset, .unset, .unset] [(.int (5 : Int32)), (.int (p6 &&& (2147483647 : Int32)))])
  refine own_st (fun τ κ => XS.irem X.here hx rfl (hb hby at_83) rfl (by decide) κ) ?_
  show own_Go p e below _ T (mkF m 84 #[.val (.int p1), .val (.int p2), .val (.int p3), .val (.int p4), .val (.int p5), .val (.int p6), .val (.int (p1 &&& (1 : Int32))), .val (.int ((p2 &&& (2147483647 : Int32)) - ((p2 &&& (2147483647 : Int32)) / (3 : Int32)) * (3 : Int32))), .val (.int ((p3 &&& (2147483647 : Int32)) - ((p3 &&& (2147483647 : Int32)) / (4 : Int32)) * (4 : Int32))), .val (.int dm), .val (.int ((1 : Int32) + ((XT.ushr p4 (1 : Int32)) &&& (3 : Int32)))), .val (.int ((XT.ushr p4 (3 : Int32)) - ((XT.ushr p4 (3 : Int32)) / (4 : Int32)) * (4 : Int32))), .val (.int (own_ml ((XT.ushr p4 (3 : Int32)) - ((XT.ushr p4 (3 : Int32)) / (4 : Int32)) * (4 : Int32)) ((1 : Int32) + ((XT.ushr p4 (1 : Int32)) &&& (3 : Int32))))), .val (.int ((p5 &&& (2147483647 : Int32)) - ((p5 &&& (2147483647 : Int32)) / (5 : Int32)) * (5 : Int32))), .unset, .unset, .unset, .unset] [(.int ((p6 &&& (2147483647 : Int32)) - ((p6 &&& (2147483647 : Int32)) / (5 : Int32)) * (5 : Int32)))])
  refine own_st (fun τ κ => XS.istore X.here hx rfl (hb hby at_84) rfl (l' := #[.val (.int p1), .val (.int p2), .val (.int p3), .val (.int p4), .val (.int p5), .val (.int p6), .val (.int (p1 &&& (1 : Int32))), .val (.int ((p2 &&& (2147483647 : Int32)) - ((p2 &&& (2147483647 : Int32)) / (3 : Int32)) * (3 : Int32))), .val (.int ((p3 &&& (2147483647 : Int32)) - ((p3 &&& (2147483647 : Int32)) / (4 : Int32)) * (4 : Int32))), .val (.int dm), .val (.int ((1 : Int32) + ((XT.ushr p4 (1 : Int32)) &&& (3 : Int32)))), .val (.int ((XT.ushr p4 (3 : Int32)) - ((XT.ushr p4 (3 : Int32)) / (4 : Int32)) * (4 : Int32))), .val (.int (own_ml ((XT.ushr p4 (3 : Int32)) - ((XT.ushr p4 (3 : Int32)) / (4 : Int32)) * (4 : Int32)) ((1 : Int32) + ((XT.ushr p4 (1 : Int32)) &&& (3 : Int32))))), .val (.int ((p5 &&& (2147483647 : Int32)) - ((p5 &&& (2147483647 : Int32)) / (5 : Int32)) * (5 : Int32))), .val (.int ((p6 &&& (2147483647 : Int32)) - ((p6 &&& (2147483647 : Int32)) / (5 : Int32)) * (5 : Int32))), .unset, .unset, .unset]) rfl κ) ?_
  show own_Go p e below _ T (mkF m 86 #[.val (.int p1), .val (.int p2), .val (.int p3), .val (.int p4), .val (.int p5), .val (.int p6), .val (.int (p1 &&& (1 : Int32))), .val (.int ((p2 &&& (2147483647 : Int32)) - ((p2 &&& (2147483647 : Int32)) / (3 : Int32)) * (3 : Int32))), .val (.int ((p3 &&& (2147483647 : Int32)) - ((p3 &&& (2147483647 : Int32)) / (4 : Int32)) * (4 : Int32))), .val (.int dm), .val (.int ((1 : Int32) + ((XT.ushr p4 (1 : Int32)) &&& (3 : Int32)))), .val (.int ((XT.ushr p4 (3 : Int32)) - ((XT.ushr p4 (3 : Int32)) / (4 : Int32)) * (4 : Int32))), .val (.int (own_ml ((XT.ushr p4 (3 : Int32)) - ((XT.ushr p4 (3 : Int32)) / (4 : Int32)) * (4 : Int32)) ((1 : Int32) + ((XT.ushr p4 (1 : Int32)) &&& (3 : Int32))))), .val (.int ((p5 &&& (2147483647 : Int32)) - ((p5 &&& (2147483647 : Int32)) / (5 : Int32)) * (5 : Int32))), .val (.int ((p6 &&& (2147483647 : Int32)) - ((p6 &&& (2147483647 : Int32)) / (5 : Int32)) * (5 : Int32))), .unset, .unset, .unset] [])
  refine own_st (fun τ κ => XT.iconstV X.here hx rfl (5) (hb hby at_86) (by decide) κ) ?_
  show own_Go p e below _ T (mkF m 87 #[.val (.int p1), .val (.int p2), .val (.int p3), .val (.int p4), .val (.int p5), .val (.int p6), .val (.int (p1 &&& (1 : Int32))), .val (.int ((p2 &&& (2147483647 : Int32)) - ((p2 &&& (2147483647 : Int32)) / (3 : Int32)) * (3 : Int32))), .val (.int ((p3 &&& (2147483647 : Int32)) - ((p3 &&& (2147483647 : Int32)) / (4 : Int32)) * (4 : Int32))), .val (.int dm), .val (.int ((1 : Int32) + ((XT.ushr p4 (1 : Int32)) &&& (3 : Int32)))), .val (.int ((XT.ushr p4 (3 : Int32)) - ((XT.ushr p4 (3 : Int32)) / (4 : Int32)) * (4 : Int32))), .val (.int (own_ml ((XT.ushr p4 (3 : Int32)) - ((XT.ushr p4 (3 : Int32)) / (4 : Int32)) * (4 : Int32)) ((1 : Int32) + ((XT.ushr p4 (1 : Int32)) &&& (3 : Int32))))), .val (.int ((p5 &&& (2147483647 : Int32)) - ((p5 &&& (2147483647 : Int32)) / (5 : Int32)) * (5 : Int32))), .val (.int ((p6 &&& (2147483647 : Int32)) - ((p6 &&& (2147483647 : Int32)) / (5 : Int32)) * (5 : Int32))), .unset, .unset, .unset] [(.int (5 : Int32))])
  have hx2 : (p1 &&& (1 : Int32)) ∈ own_two := own_mem2 _
  have hx3 : ((p2 &&& (2147483647 : Int32)) - ((p2 &&& (2147483647 : Int32)) / (3 : Int32)) * (3 : Int32)) ∈ own_three := own_mem3 (own_rem_int (own_mask _) 3 (by decide) (by decide))
  have hx4 : ((p3 &&& (2147483647 : Int32)) - ((p3 &&& (2147483647 : Int32)) / (4 : Int32)) * (4 : Int32)) ∈ own_four := own_mem4 (own_rem_int (own_mask _) 4 (by decide) (by decide))
  have hmv : ((1 : Int32) + ((XT.ushr p4 (1 : Int32)) &&& (3 : Int32))) ∈ own_vars := own_mv _
  have hmr : ((XT.ushr p4 (3 : Int32)) - ((XT.ushr p4 (3 : Int32)) / (4 : Int32)) * (4 : Int32)) ∈ own_four := own_mem4 (own_rem_int (own_ushr3 _) 4 (by decide) (by decide))
  obtain ⟨hmlm, hmn⟩ := own_ml_ok _ hmr _ hmv
  have hqu : ((p5 &&& (2147483647 : Int32)) - ((p5 &&& (2147483647 : Int32)) / (5 : Int32)) * (5 : Int32)) ∈ own_five := own_mem5 (own_rem_int (own_mask _) 5 (by decide) (by decide))
  have hql : ((p6 &&& (2147483647 : Int32)) - ((p6 &&& (2147483647 : Int32)) / (5 : Int32)) * (5 : Int32)) ∈ own_five := own_mem5 (own_rem_int (own_mask _) 5 (by decide) (by decide))
  generalize (own_ml ((XT.ushr p4 (3 : Int32)) - ((XT.ushr p4 (3 : Int32)) / (4 : Int32)) * (4 : Int32)) ((1 : Int32) + ((XT.ushr p4 (1 : Int32)) &&& (3 : Int32)))) = ml at hmlm hmn ⊢
  generalize ((XT.ushr p4 (3 : Int32)) - ((XT.ushr p4 (3 : Int32)) / (4 : Int32)) * (4 : Int32)) = mr at hmr ⊢
  generalize ((1 : Int32) + ((XT.ushr p4 (1 : Int32)) &&& (3 : Int32))) = mv at hmv hmn ⊢
  generalize (p1 &&& (1 : Int32)) = x2 at hx2 ⊢
  generalize ((p2 &&& (2147483647 : Int32)) - ((p2 &&& (2147483647 : Int32)) / (3 : Int32)) * (3 : Int32)) = x3 at hx3 ⊢
  generalize ((p3 &&& (2147483647 : Int32)) - ((p3 &&& (2147483647 : Int32)) / (4 : Int32)) * (4 : Int32)) = x4 at hx4 ⊢
  generalize ((p5 &&& (2147483647 : Int32)) - ((p5 &&& (2147483647 : Int32)) / (5 : Int32)) * (5 : Int32)) = qu at hqu ⊢
  generalize ((p6 &&& (2147483647 : Int32)) - ((p6 &&& (2147483647 : Int32)) / (5 : Int32)) * (5 : Int32)) = ql at hql ⊢
  show own_Go p e below _ T (mkF m 87 #[.val (.int p1), .val (.int p2), .val (.int p3), .val (.int p4), .val (.int p5), .val (.int p6), .val (.int x2), .val (.int x3), .val (.int x4), .val (.int dm), .val (.int mv), .val (.int mr), .val (.int ml), .val (.int qu), .val (.int ql), .unset, .unset, .unset] [(.int (5 : Int32))])
  refine own_newP X hx hZ e0 (hw _ (List.mem_of_getElem? (i := 1) rfl)) (hb hby at_87) (by decide) 5 (by decide) (by decide) (by decide) (by decide) ?_
  intro T1 h1 o1 X1 e1 E1 g1 A_o1
  have ga_o1 : n0 ≤ o1 := by omega
  have Z1 : n0 ≤ h1.size := Nat.le_trans Z0 E1.1
  have A_o1 : own_IA Z h1 o1 5 (fun _ => (0 : Int32)) := A_o1
  show own_Go p e below _ T1 (mkF m 89 #[.val (.int p1), .val (.int p2), .val (.int p3), .val (.int p4), .val (.int p5), .val (.int p6), .val (.int x2), .val (.int x3), .val (.int x4), .val (.int dm), .val (.int mv), .val (.int mr), .val (.int ml), .val (.int qu), .val (.int ql), .unset, .unset, .unset] [(.ref o1)])
  refine own_st (fun τ κ => XS.dup X1.here hx rfl (hb hby at_89) rfl rfl κ) ?_
  show own_Go p e below _ T1 (mkF m 90 #[.val (.int p1), .val (.int p2), .val (.int p3), .val (.int p4), .val (.int p5), .val (.int p6), .val (.int x2), .val (.int x3), .val (.int x4), .val (.int dm), .val (.int mv), .val (.int mr), .val (.int ml), .val (.int qu), .val (.int ql), .unset, .unset, .unset] [(.ref o1), (.ref o1)])
  refine own_st (fun τ κ => XT.iconstV X1.here hx rfl (0) (hb hby at_90) (by decide) κ) ?_
  show own_Go p e below _ T1 (mkF m 91 #[.val (.int p1), .val (.int p2), .val (.int p3), .val (.int p4), .val (.int p5), .val (.int p6), .val (.int x2), .val (.int x3), .val (.int x4), .val (.int dm), .val (.int mv), .val (.int mr), .val (.int ml), .val (.int qu), .val (.int ql), .unset, .unset, .unset] [(.int (0 : Int32)), (.ref o1), (.ref o1)])
  refine own_st (fun τ κ => XT.iconstV X1.here hx rfl (0) (hb hby at_91) (by decide) κ) ?_
  show own_Go p e below _ T1 (mkF m 92 #[.val (.int p1), .val (.int p2), .val (.int p3), .val (.int p4), .val (.int p5), .val (.int p6), .val (.int x2), .val (.int x3), .val (.int x4), .val (.int dm), .val (.int mv), .val (.int mr), .val (.int ml), .val (.int qu), .val (.int ql), .unset, .unset, .unset] [(.int (0 : Int32)), (.int (0 : Int32)), (.ref o1), (.ref o1)])
  refine own_stI X1 hx hZ e1 A_o1 (i := 0) (by decide) N0 ga_o1 (hb hby at_92) ?_
  intro T2 h2 X2 e2 B2 K2 N2
  have A_o1 := B2
  have Z2 : n0 ≤ h2.size := Nat.le_trans Z1 K2.1
  show own_Go p e below _ T2 (mkF m 93 #[.val (.int p1), .val (.int p2), .val (.int p3), .val (.int p4), .val (.int p5), .val (.int p6), .val (.int x2), .val (.int x3), .val (.int x4), .val (.int dm), .val (.int mv), .val (.int mr), .val (.int ml), .val (.int qu), .val (.int ql), .unset, .unset, .unset] [(.ref o1)])
  refine own_st (fun τ κ => XS.dup X2.here hx rfl (hb hby at_93) rfl rfl κ) ?_
  show own_Go p e below _ T2 (mkF m 94 #[.val (.int p1), .val (.int p2), .val (.int p3), .val (.int p4), .val (.int p5), .val (.int p6), .val (.int x2), .val (.int x3), .val (.int x4), .val (.int dm), .val (.int mv), .val (.int mr), .val (.int ml), .val (.int qu), .val (.int ql), .unset, .unset, .unset] [(.ref o1), (.ref o1)])
  refine own_st (fun τ κ => XT.iconstV X2.here hx rfl (1) (hb hby at_94) (by decide) κ) ?_
  show own_Go p e below _ T2 (mkF m 95 #[.val (.int p1), .val (.int p2), .val (.int p3), .val (.int p4), .val (.int p5), .val (.int p6), .val (.int x2), .val (.int x3), .val (.int x4), .val (.int dm), .val (.int mv), .val (.int mr), .val (.int ml), .val (.int qu), .val (.int ql), .unset, .unset, .unset] [(.int (1 : Int32)), (.ref o1), (.ref o1)])
  refine own_st (fun τ κ => XT.iconstV X2.here hx rfl (-1) (hb hby at_95) (by decide) κ) ?_
  show own_Go p e below _ T2 (mkF m 96 #[.val (.int p1), .val (.int p2), .val (.int p3), .val (.int p4), .val (.int p5), .val (.int p6), .val (.int x2), .val (.int x3), .val (.int x4), .val (.int dm), .val (.int mv), .val (.int mr), .val (.int ml), .val (.int qu), .val (.int ql), .unset, .unset, .unset] [(.int (-1 : Int32)), (.int (1 : Int32)), (.ref o1), (.ref o1)])
  refine own_stI X2 hx hZ e2 A_o1 (i := 1) (by decide) N2 ga_o1 (hb hby at_96) ?_
  intro T3 h3 X3 e3 B3 K3 N3
  have A_o1 := B3
  have Z3 : n0 ≤ h3.size := Nat.le_trans Z2 K3.1
  show own_Go p e below _ T3 (mkF m 97 #[.val (.int p1), .val (.int p2), .val (.int p3), .val (.int p4), .val (.int p5), .val (.int p6), .val (.int x2), .val (.int x3), .val (.int x4), .val (.int dm), .val (.int mv), .val (.int mr), .val (.int ml), .val (.int qu), .val (.int ql), .unset, .unset, .unset] [(.ref o1)])
  refine own_st (fun τ κ => XS.dup X3.here hx rfl (hb hby at_97) rfl rfl κ) ?_
  show own_Go p e below _ T3 (mkF m 98 #[.val (.int p1), .val (.int p2), .val (.int p3), .val (.int p4), .val (.int p5), .val (.int p6), .val (.int x2), .val (.int x3), .val (.int x4), .val (.int dm), .val (.int mv), .val (.int mr), .val (.int ml), .val (.int qu), .val (.int ql), .unset, .unset, .unset] [(.ref o1), (.ref o1)])
  refine own_st (fun τ κ => XT.iconstV X3.here hx rfl (2) (hb hby at_98) (by decide) κ) ?_
  show own_Go p e below _ T3 (mkF m 99 #[.val (.int p1), .val (.int p2), .val (.int p3), .val (.int p4), .val (.int p5), .val (.int p6), .val (.int x2), .val (.int x3), .val (.int x4), .val (.int dm), .val (.int mv), .val (.int mr), .val (.int ml), .val (.int qu), .val (.int ql), .unset, .unset, .unset] [(.int (2 : Int32)), (.ref o1), (.ref o1)])
  refine own_st (fun τ κ => XT.iconstV X3.here hx rfl (-1) (hb hby at_99) (by decide) κ) ?_
  show own_Go p e below _ T3 (mkF m 100 #[.val (.int p1), .val (.int p2), .val (.int p3), .val (.int p4), .val (.int p5), .val (.int p6), .val (.int x2), .val (.int x3), .val (.int x4), .val (.int dm), .val (.int mv), .val (.int mr), .val (.int ml), .val (.int qu), .val (.int ql), .unset, .unset, .unset] [(.int (-1 : Int32)), (.int (2 : Int32)), (.ref o1), (.ref o1)])
  refine own_stI X3 hx hZ e3 A_o1 (i := 2) (by decide) N3 ga_o1 (hb hby at_100) ?_
  intro T4 h4 X4 e4 B4 K4 N4
  have A_o1 := B4
  have Z4 : n0 ≤ h4.size := Nat.le_trans Z3 K4.1
  show own_Go p e below _ T4 (mkF m 101 #[.val (.int p1), .val (.int p2), .val (.int p3), .val (.int p4), .val (.int p5), .val (.int p6), .val (.int x2), .val (.int x3), .val (.int x4), .val (.int dm), .val (.int mv), .val (.int mr), .val (.int ml), .val (.int qu), .val (.int ql), .unset, .unset, .unset] [(.ref o1)])
  refine own_st (fun τ κ => XS.dup X4.here hx rfl (hb hby at_101) rfl rfl κ) ?_
  show own_Go p e below _ T4 (mkF m 102 #[.val (.int p1), .val (.int p2), .val (.int p3), .val (.int p4), .val (.int p5), .val (.int p6), .val (.int x2), .val (.int x3), .val (.int x4), .val (.int dm), .val (.int mv), .val (.int mr), .val (.int ml), .val (.int qu), .val (.int ql), .unset, .unset, .unset] [(.ref o1), (.ref o1)])
  refine own_st (fun τ κ => XT.iconstV X4.here hx rfl (3) (hb hby at_102) (by decide) κ) ?_
  show own_Go p e below _ T4 (mkF m 103 #[.val (.int p1), .val (.int p2), .val (.int p3), .val (.int p4), .val (.int p5), .val (.int p6), .val (.int x2), .val (.int x3), .val (.int x4), .val (.int dm), .val (.int mv), .val (.int mr), .val (.int ml), .val (.int qu), .val (.int ql), .unset, .unset, .unset] [(.int (3 : Int32)), (.ref o1), (.ref o1)])
  refine own_st (fun τ κ => XT.iconstV X4.here hx rfl (-1) (hb hby at_103) (by decide) κ) ?_
  show own_Go p e below _ T4 (mkF m 104 #[.val (.int p1), .val (.int p2), .val (.int p3), .val (.int p4), .val (.int p5), .val (.int p6), .val (.int x2), .val (.int x3), .val (.int x4), .val (.int dm), .val (.int mv), .val (.int mr), .val (.int ml), .val (.int qu), .val (.int ql), .unset, .unset, .unset] [(.int (-1 : Int32)), (.int (3 : Int32)), (.ref o1), (.ref o1)])
  refine own_stI X4 hx hZ e4 A_o1 (i := 3) (by decide) N4 ga_o1 (hb hby at_104) ?_
  intro T5 h5 X5 e5 B5 K5 N5
  have A_o1 := B5
  have Z5 : n0 ≤ h5.size := Nat.le_trans Z4 K5.1
  show own_Go p e below _ T5 (mkF m 105 #[.val (.int p1), .val (.int p2), .val (.int p3), .val (.int p4), .val (.int p5), .val (.int p6), .val (.int x2), .val (.int x3), .val (.int x4), .val (.int dm), .val (.int mv), .val (.int mr), .val (.int ml), .val (.int qu), .val (.int ql), .unset, .unset, .unset] [(.ref o1)])
  refine own_st (fun τ κ => XS.dup X5.here hx rfl (hb hby at_105) rfl rfl κ) ?_
  show own_Go p e below _ T5 (mkF m 106 #[.val (.int p1), .val (.int p2), .val (.int p3), .val (.int p4), .val (.int p5), .val (.int p6), .val (.int x2), .val (.int x3), .val (.int x4), .val (.int dm), .val (.int mv), .val (.int mr), .val (.int ml), .val (.int qu), .val (.int ql), .unset, .unset, .unset] [(.ref o1), (.ref o1)])
  refine own_st (fun τ κ => XT.iconstV X5.here hx rfl (4) (hb hby at_106) (by decide) κ) ?_
  show own_Go p e below _ T5 (mkF m 107 #[.val (.int p1), .val (.int p2), .val (.int p3), .val (.int p4), .val (.int p5), .val (.int p6), .val (.int x2), .val (.int x3), .val (.int x4), .val (.int dm), .val (.int mv), .val (.int mr), .val (.int ml), .val (.int qu), .val (.int ql), .unset, .unset, .unset] [(.int (4 : Int32)), (.ref o1), (.ref o1)])
  refine own_st (fun τ κ => XT.iconstV X5.here hx rfl (-1) (hb hby at_107) (by decide) κ) ?_
  show own_Go p e below _ T5 (mkF m 108 #[.val (.int p1), .val (.int p2), .val (.int p3), .val (.int p4), .val (.int p5), .val (.int p6), .val (.int x2), .val (.int x3), .val (.int x4), .val (.int dm), .val (.int mv), .val (.int mr), .val (.int ml), .val (.int qu), .val (.int ql), .unset, .unset, .unset] [(.int (-1 : Int32)), (.int (4 : Int32)), (.ref o1), (.ref o1)])
  refine own_stI X5 hx hZ e5 A_o1 (i := 4) (by decide) N5 ga_o1 (hb hby at_108) ?_
  intro T6 h6 X6 e6 B6 K6 N6
  have A_o1 := B6
  have Z6 : n0 ≤ h6.size := Nat.le_trans Z5 K6.1
  show own_Go p e below _ T6 (mkF m 109 #[.val (.int p1), .val (.int p2), .val (.int p3), .val (.int p4), .val (.int p5), .val (.int p6), .val (.int x2), .val (.int x3), .val (.int x4), .val (.int dm), .val (.int mv), .val (.int mr), .val (.int ml), .val (.int qu), .val (.int ql), .unset, .unset, .unset] [(.ref o1)])
  refine own_st (fun τ κ => XS.astore X6.here hx rfl (hb hby at_109) rfl rfl (l' := #[.val (.int p1), .val (.int p2), .val (.int p3), .val (.int p4), .val (.int p5), .val (.int p6), .val (.int x2), .val (.int x3), .val (.int x4), .val (.int dm), .val (.int mv), .val (.int mr), .val (.int ml), .val (.int qu), .val (.int ql), .val (.ref o1), .unset, .unset]) rfl κ) ?_
  show own_Go p e below _ T6 (mkF m 111 #[.val (.int p1), .val (.int p2), .val (.int p3), .val (.int p4), .val (.int p5), .val (.int p6), .val (.int x2), .val (.int x3), .val (.int x4), .val (.int dm), .val (.int mv), .val (.int mr), .val (.int ml), .val (.int qu), .val (.int ql), .val (.ref o1), .unset, .unset] [])
  have A_o1 : own_LI Z h6 o1 5 own_P0 := own_A.congr A_o1 (fun j hj => by
    match j, hj with
    | 0, _ => rfl
    | 1, _ => rfl
    | 2, _ => rfl
    | 3, _ => rfl
    | 4, _ => rfl)
  refine own_new X6 hx hZ e6 hown (hw _ (List.mem_of_getElem? (i := 2) rfl)) (hw _ (List.mem_of_getElem? (i := 3) rfl)) (hw _ (List.mem_of_getElem? (i := 4) rfl)) (hb hby at_111) (by decide) (by decide) ?_
  intro T7 h7 o7 X7 e7 E7 g7 A7 D7
  have ne_o1_o7 : o1 ≠ o7 := Nat.ne_of_lt (Nat.lt_of_lt_of_eq A_o1.lt g7)
  have ga_o7 : n0 ≤ o7 := by omega
  have A_o1 := A_o1.ext E7
  have Z7 : n0 ≤ h7.size := Nat.le_trans Z6 E7.1
  have E_o7 := A7
  have F_level_o7 : Fld Z h7 o7 "com/example/worldsum/worldsum/VariableOrder" "level" "[J" .null := D7 (Or.inl (hw _ (List.mem_of_getElem? (i := 13) rfl))) (ty := (.array .long)) (by decide)
  have F_above_o7 : Fld Z h7 o7 "com/example/worldsum/worldsum/VariableOrder" "above" "[I" .null := D7 (Or.inl (hw _ (List.mem_of_getElem? (i := 15) rfl))) (ty := (.array .int)) (by decide)
  have F_below_o7 : Fld Z h7 o7 "com/example/worldsum/worldsum/VariableOrder" "below" "[I" .null := D7 (Or.inl (hw _ (List.mem_of_getElem? (i := 17) rfl))) (ty := (.array .int)) (by decide)
  have F_variables_o7 : Fld Z h7 o7 "com/example/worldsum/worldsum/VariableOrder" "variables" "I" (.int (0 : Int32)) := D7 (Or.inl (hw _ (List.mem_of_getElem? (i := 19) rfl))) (ty := .int) (by decide)
  have F_top_o7 : Fld Z h7 o7 "com/example/worldsum/worldsum/VariableOrder" "top" "I" (.int (0 : Int32)) := D7 (Or.inl (hw _ (List.mem_of_getElem? (i := 21) rfl))) (ty := .int) (by decide)
  show own_Go p e below _ T7 (mkF m 114 #[.val (.int p1), .val (.int p2), .val (.int p3), .val (.int p4), .val (.int p5), .val (.int p6), .val (.int x2), .val (.int x3), .val (.int x4), .val (.int dm), .val (.int mv), .val (.int mr), .val (.int ml), .val (.int qu), .val (.int ql), .val (.ref o1), .unset, .unset] [(.ref o7)])
  refine own_st (fun τ κ => XS.dup X7.here hx rfl (hb hby at_114) rfl rfl κ) ?_
  show own_Go p e below _ T7 (mkF m 115 #[.val (.int p1), .val (.int p2), .val (.int p3), .val (.int p4), .val (.int p5), .val (.int p6), .val (.int x2), .val (.int x3), .val (.int x4), .val (.int dm), .val (.int mv), .val (.int mr), .val (.int ml), .val (.int qu), .val (.int ql), .val (.ref o1), .unset, .unset] [(.ref o7), (.ref o7)])
  have lt_o7 := E_o7.lt
  have lt_o1 := A_o1.lt
  refine own_callN X7 hx hZ e7 rfl hown (hw _ (List.mem_of_getElem? (i := 5) rfl)) (hw _ (List.mem_of_getElem? (i := 6) rfl)) (hw _ (List.mem_of_getElem? (i := 4) rfl)) (hw _ (List.mem_of_getElem? (i := 7) rfl)) (by decide) pd_1 (a := o7) (argsL := []) rfl (rm1 l Z a0 hw o7 _ _ _ _ _ h7 n0 Z7 ga_o7 E_o7 F_level_o7 F_above_o7 F_below_o7 F_variables_o7 F_top_o7) 1 (by decide) (by decide) (by decide) (by decide) (rest := [(.ref o7)]) rfl (by rw [hml]; rfl) (Nat.le_of_eq rfl) (hb hby at_115) ?_
  intro v8 T8 L8 hQ8 X8
  obtain ⟨rfl, Nq8, K8, l1, b1, c1, gl1, gb1, gc1, hne, V⟩ := hQ8
  have N8 := Fr.app N6 Nq8
  have e8 : T8.heap = T8.heap := rfl
  have A_o1 := A_o1.keep K8 (ninS ne_o1_o7 nin0)
  have Z8 : n0 ≤ T8.heap.size := Nat.le_trans Z7 K8.1
  have ga_l1 : n0 ≤ l1 := by omega
  have ne_o1_l1 : o1 ≠ l1 := Nat.ne_of_lt (Nat.lt_of_lt_of_le lt_o1 gl1)
  have ga_b1 : n0 ≤ b1 := by omega
  have ne_o1_b1 : o1 ≠ b1 := Nat.ne_of_lt (Nat.lt_of_lt_of_le lt_o1 gb1)
  have ga_c1 : n0 ≤ c1 := by omega
  have ne_o1_c1 : o1 ≠ c1 := Nat.ne_of_lt (Nat.lt_of_lt_of_le lt_o1 gc1)
  have nep : o1 ∉ [o7, l1, b1, c1] := (ninS ne_o1_o7 (ninS ne_o1_l1 (ninS ne_o1_b1 (ninS ne_o1_c1 nin0))))
  show own_Go p e below _ T8 (mkF m 118 #[.val (.int p1), .val (.int p2), .val (.int p3), .val (.int p4), .val (.int p5), .val (.int p6), .val (.int x2), .val (.int x3), .val (.int x4), .val (.int dm), .val (.int mv), .val (.int mr), .val (.int ml), .val (.int qu), .val (.int ql), .val (.ref o1), .unset, .unset] [(.ref o7)])
  refine own_st (fun τ κ => XS.astore X8.here hx rfl (hb hby at_118) rfl rfl (l' := #[.val (.int p1), .val (.int p2), .val (.int p3), .val (.int p4), .val (.int p5), .val (.int p6), .val (.int x2), .val (.int x3), .val (.int x4), .val (.int dm), .val (.int mv), .val (.int mr), .val (.int ml), .val (.int qu), .val (.int ql), .val (.ref o1), .val (.ref o7), .unset]) rfl κ) ?_
  show own_Go p e below _ T8 (mkF m 120 #[.val (.int p1), .val (.int p2), .val (.int p3), .val (.int p4), .val (.int p5), .val (.int p6), .val (.int x2), .val (.int x3), .val (.int x4), .val (.int dm), .val (.int mv), .val (.int mr), .val (.int ml), .val (.int qu), .val (.int ql), .val (.ref o1), .val (.ref o7), .unset] [])
  refine own_st (fun τ κ => XS.aload X8.here hx rfl (hb hby at_120) rfl rfl κ) ?_
  show own_Go p e below _ T8 (mkF m 122 #[.val (.int p1), .val (.int p2), .val (.int p3), .val (.int p4), .val (.int p5), .val (.int p6), .val (.int x2), .val (.int x3), .val (.int x4), .val (.int dm), .val (.int mv), .val (.int mr), .val (.int ml), .val (.int qu), .val (.int ql), .val (.ref o1), .val (.ref o7), .unset] [(.ref o7)])
  refine own_st (fun τ κ => XT.iconstV X8.here hx rfl (0) (hb hby at_122) (by decide) κ) ?_
  show own_Go p e below _ T8 (mkF m 123 #[.val (.int p1), .val (.int p2), .val (.int p3), .val (.int p4), .val (.int p5), .val (.int p6), .val (.int x2), .val (.int x3), .val (.int x4), .val (.int dm), .val (.int mv), .val (.int mr), .val (.int ml), .val (.int qu), .val (.int ql), .val (.ref o1), .val (.ref o7), .unset] [(.int (0 : Int32)), (.ref o7)])
  have nt : o7 ∉ [o1] := ninS (Ne.symm ne_o1_o7) nin0
  have nl1 : l1 ∉ [o1] := ninS (Ne.symm ne_o1_l1) nin0
  have nb1 : b1 ∉ [o1] := ninS (Ne.symm ne_o1_b1) nin0
  have nc1 : c1 ∉ [o1] := ninS (Ne.symm ne_o1_c1) nin0
  have V : own_VO Z T8.heap o7 l1 b1 c1 (1 : Int32) own_A0 own_A0 own_L0 := V
  refine own_callV X8 hx hZ e8 hown (hw _ (List.mem_of_getElem? (i := 22) rfl)) (hw _ (List.mem_of_getElem? (i := 23) rfl)) (hw _ (List.mem_of_getElem? (i := 25) rfl)) (hw _ (List.mem_of_getElem? (i := 25) rfl)) (hw _ (List.mem_of_getElem? (i := 24) rfl)) (hw _ (List.mem_of_getElem? (i := 4) rfl)) (hw _ (List.mem_of_getElem? (i := 26) rfl)) (by decide) pd_3 V.exa (argsL := [(.int (0 : Int32))]) rfl (rm3 l Z a0 hw (0 : Int32) o7 l1 b1 c1 (1 : Int32) own_A0 own_A0 own_L0 rfl rfl rfl hne T8.heap n0 Z8 ga_o7 ga_l1 ga_b1 ga_c1 V (by decide) (own_ok1)) 0 (by decide) (by decide) (by decide) (by decide) (rest := []) rfl (by rw [hml]; rfl) (Nat.le_of_eq rfl) (hb hby at_123) ?_
  intro v9 T9 L9 hQ9 X9
  obtain ⟨rfl, Nq9, K9, V9⟩ := hQ9
  have N9 := Fr.app N8 Nq9
  have e9 : T9.heap = T9.heap := rfl
  have A_o1 := A_o1.keep K9 nep
  have Z9 : n0 ≤ T9.heap.size := Nat.le_trans Z8 K9.1
  have V := V9
  have V : own_VO Z T9.heap o7 l1 b1 c1 (2 : Int32) own_a1 own_b1 own_l1 := V
  show own_Go p e below _ T9 (mkF m 126 #[.val (.int p1), .val (.int p2), .val (.int p3), .val (.int p4), .val (.int p5), .val (.int p6), .val (.int x2), .val (.int x3), .val (.int x4), .val (.int dm), .val (.int mv), .val (.int mr), .val (.int ml), .val (.int qu), .val (.int ql), .val (.ref o1), .val (.ref o7), .unset] [(.int (1 : Int32))])
  refine own_st (fun τ κ => XS.pop X9.here hx rfl (hb hby at_126) rfl rfl κ) ?_
  show own_Go p e below _ T9 (mkF m 127 #[.val (.int p1), .val (.int p2), .val (.int p3), .val (.int p4), .val (.int p5), .val (.int p6), .val (.int x2), .val (.int x3), .val (.int x4), .val (.int dm), .val (.int mv), .val (.int mr), .val (.int ml), .val (.int qu), .val (.int ql), .val (.ref o1), .val (.ref o7), .unset] [])
  refine own_st (fun τ κ => XS.aload X9.here hx rfl (hb hby at_127) rfl rfl κ) ?_
  show own_Go p e below _ T9 (mkF m 129 #[.val (.int p1), .val (.int p2), .val (.int p3), .val (.int p4), .val (.int p5), .val (.int p6), .val (.int x2), .val (.int x3), .val (.int x4), .val (.int dm), .val (.int mv), .val (.int mr), .val (.int ml), .val (.int qu), .val (.int ql), .val (.ref o1), .val (.ref o7), .unset] [(.ref o1)])
  refine own_st (fun τ κ => XT.iconstV X9.here hx rfl (1) (hb hby at_129) (by decide) κ) ?_
  show own_Go p e below _ T9 (mkF m 130 #[.val (.int p1), .val (.int p2), .val (.int p3), .val (.int p4), .val (.int p5), .val (.int p6), .val (.int x2), .val (.int x3), .val (.int x4), .val (.int dm), .val (.int mv), .val (.int mr), .val (.int ml), .val (.int qu), .val (.int ql), .val (.ref o1), .val (.ref o7), .unset] [(.int (1 : Int32)), (.ref o1)])
  refine own_st (fun τ κ => XT.iconstV X9.here hx rfl (0) (hb hby at_130) (by decide) κ) ?_
  show own_Go p e below _ T9 (mkF m 131 #[.val (.int p1), .val (.int p2), .val (.int p3), .val (.int p4), .val (.int p5), .val (.int p6), .val (.int x2), .val (.int x3), .val (.int x4), .val (.int dm), .val (.int mv), .val (.int mr), .val (.int ml), .val (.int qu), .val (.int ql), .val (.ref o1), .val (.ref o7), .unset] [(.int (0 : Int32)), (.int (1 : Int32)), (.ref o1)])
  refine own_callS X9 hx hZ e9 hown (hw _ (List.mem_of_getElem? (i := 33) rfl)) (hw _ (List.mem_of_getElem? (i := 34) rfl)) (hw _ (List.mem_of_getElem? (i := 35) rfl)) (hw _ (List.mem_of_getElem? (i := 36) rfl)) (by decide) pd_5 (argsL := [(.ref o1), (.int (1 : Int32)), (.int (0 : Int32))]) rfl (rm5 l Z a0 hw o1 (1 : Int32) (0 : Int32) (by decide) (by decide) own_P0 rfl T9.heap n0 Z9 ga_o1 A_o1) 0 (by decide) (by decide) (by decide) (by decide) (rest := []) rfl (by rw [hml]; rfl) (Nat.le_of_eq rfl) (hb hby at_131) ?_
  intro v10 T10 L10 hQ10 X10
  obtain ⟨rfl, Nq10, K10, B10⟩ := hQ10
  have N10 := Fr.app N9 Nq10
  have e10 : T10.heap = T10.heap := rfl
  have V := V.keep K10 nt nl1 nb1 nc1
  have Z10 : n0 ≤ T10.heap.size := Nat.le_trans Z9 K10.1
  have A_o1 := B10
  have A_o1 : own_LI Z T10.heap o1 5 own_p1 := A_o1
  show own_Go p e below _ T10 (mkF m 134 #[.val (.int p1), .val (.int p2), .val (.int p3), .val (.int p4), .val (.int p5), .val (.int p6), .val (.int x2), .val (.int x3), .val (.int x4), .val (.int dm), .val (.int mv), .val (.int mr), .val (.int ml), .val (.int qu), .val (.int ql), .val (.ref o1), .val (.ref o7), .unset] [])
  refine own_st (fun τ κ => XS.aload X10.here hx rfl (hb hby at_134) rfl rfl κ) ?_
  show own_Go p e below _ T10 (mkF m 136 #[.val (.int p1), .val (.int p2), .val (.int p3), .val (.int p4), .val (.int p5), .val (.int p6), .val (.int x2), .val (.int x3), .val (.int x4), .val (.int dm), .val (.int mv), .val (.int mr), .val (.int ml), .val (.int qu), .val (.int ql), .val (.ref o1), .val (.ref o7), .unset] [(.ref o7)])
  refine own_st (fun τ κ => XS.iload X10.here hx rfl (hb hby at_136) rfl κ) ?_
  show own_Go p e below _ T10 (mkF m 138 #[.val (.int p1), .val (.int p2), .val (.int p3), .val (.int p4), .val (.int p5), .val (.int p6), .val (.int x2), .val (.int x3), .val (.int x4), .val (.int dm), .val (.int mv), .val (.int mr), .val (.int ml), .val (.int qu), .val (.int ql), .val (.ref o1), .val (.ref o7), .unset] [(.int x2), (.ref o7)])
  refine own_callV X10 hx hZ e10 hown (hw _ (List.mem_of_getElem? (i := 22) rfl)) (hw _ (List.mem_of_getElem? (i := 23) rfl)) (hw _ (List.mem_of_getElem? (i := 25) rfl)) (hw _ (List.mem_of_getElem? (i := 25) rfl)) (hw _ (List.mem_of_getElem? (i := 24) rfl)) (hw _ (List.mem_of_getElem? (i := 4) rfl)) (hw _ (List.mem_of_getElem? (i := 26) rfl)) (by decide) pd_3 V.exa (argsL := [(.int x2)]) rfl (rm3 l Z a0 hw x2 o7 l1 b1 c1 (2 : Int32) own_a1 own_b1 own_l1 own_len1.1 own_len1.2.1 own_len1.2.2.1 hne T10.heap n0 Z10 ga_o7 ga_l1 ga_b1 ga_c1 V (by decide) (own_ok2 _ hx2)) 0 (by decide) (by decide) (by decide) (by decide) (rest := []) rfl (by rw [hml]; rfl) (Nat.le_of_eq rfl) (hb hby at_138) ?_
  intro v11 T11 L11 hQ11 X11
  obtain ⟨rfl, Nq11, K11, V11⟩ := hQ11
  have N11 := Fr.app N10 Nq11
  have e11 : T11.heap = T11.heap := rfl
  have A_o1 := A_o1.keep K11 nep
  have Z11 : n0 ≤ T11.heap.size := Nat.le_trans Z10 K11.1
  have V := V11
  have V : own_VO Z T11.heap o7 l1 b1 c1 (3 : Int32) (own_a2 x2) (own_b2 x2) (own_l2 x2) := V
  show own_Go p e below _ T11 (mkF m 141 #[.val (.int p1), .val (.int p2), .val (.int p3), .val (.int p4), .val (.int p5), .val (.int p6), .val (.int x2), .val (.int x3), .val (.int x4), .val (.int dm), .val (.int mv), .val (.int mr), .val (.int ml), .val (.int qu), .val (.int ql), .val (.ref o1), .val (.ref o7), .unset] [(.int (2 : Int32))])
  refine own_st (fun τ κ => XS.pop X11.here hx rfl (hb hby at_141) rfl rfl κ) ?_
  show own_Go p e below _ T11 (mkF m 142 #[.val (.int p1), .val (.int p2), .val (.int p3), .val (.int p4), .val (.int p5), .val (.int p6), .val (.int x2), .val (.int x3), .val (.int x4), .val (.int dm), .val (.int mv), .val (.int mr), .val (.int ml), .val (.int qu), .val (.int ql), .val (.ref o1), .val (.ref o7), .unset] [])
  refine own_st (fun τ κ => XS.aload X11.here hx rfl (hb hby at_142) rfl rfl κ) ?_
  show own_Go p e below _ T11 (mkF m 144 #[.val (.int p1), .val (.int p2), .val (.int p3), .val (.int p4), .val (.int p5), .val (.int p6), .val (.int x2), .val (.int x3), .val (.int x4), .val (.int dm), .val (.int mv), .val (.int mr), .val (.int ml), .val (.int qu), .val (.int ql), .val (.ref o1), .val (.ref o7), .unset] [(.ref o1)])
  refine own_st (fun τ κ => XT.iconstV X11.here hx rfl (2) (hb hby at_144) (by decide) κ) ?_
  show own_Go p e below _ T11 (mkF m 145 #[.val (.int p1), .val (.int p2), .val (.int p3), .val (.int p4), .val (.int p5), .val (.int p6), .val (.int x2), .val (.int x3), .val (.int x4), .val (.int dm), .val (.int mv), .val (.int mr), .val (.int ml), .val (.int qu), .val (.int ql), .val (.ref o1), .val (.ref o7), .unset] [(.int (2 : Int32)), (.ref o1)])
  refine own_st (fun τ κ => XS.iload X11.here hx rfl (hb hby at_145) rfl κ) ?_
  show own_Go p e below _ T11 (mkF m 147 #[.val (.int p1), .val (.int p2), .val (.int p3), .val (.int p4), .val (.int p5), .val (.int p6), .val (.int x2), .val (.int x3), .val (.int x4), .val (.int dm), .val (.int mv), .val (.int mr), .val (.int ml), .val (.int qu), .val (.int ql), .val (.ref o1), .val (.ref o7), .unset] [(.int x2), (.int (2 : Int32)), (.ref o1)])
  refine own_callS X11 hx hZ e11 hown (hw _ (List.mem_of_getElem? (i := 33) rfl)) (hw _ (List.mem_of_getElem? (i := 34) rfl)) (hw _ (List.mem_of_getElem? (i := 35) rfl)) (hw _ (List.mem_of_getElem? (i := 36) rfl)) (by decide) pd_5 (argsL := [(.ref o1), (.int (2 : Int32)), (.int x2)]) rfl (rm5 l Z a0 hw o1 (2 : Int32) x2 (by decide) (own_five_in _ (own_up _ (Or.inl hx2))) own_p1 own_len1.2.2.2 T11.heap n0 Z11 ga_o1 A_o1) 0 (by decide) (by decide) (by decide) (by decide) (rest := []) rfl (by rw [hml]; rfl) (Nat.le_of_eq rfl) (hb hby at_147) ?_
  intro v12 T12 L12 hQ12 X12
  obtain ⟨rfl, Nq12, K12, B12⟩ := hQ12
  have N12 := Fr.app N11 Nq12
  have e12 : T12.heap = T12.heap := rfl
  have V := V.keep K12 nt nl1 nb1 nc1
  have Z12 : n0 ≤ T12.heap.size := Nat.le_trans Z11 K12.1
  have A_o1 := B12
  have A_o1 : own_LI Z T12.heap o1 5 (own_p2 x2) := A_o1
  show own_Go p e below _ T12 (mkF m 150 #[.val (.int p1), .val (.int p2), .val (.int p3), .val (.int p4), .val (.int p5), .val (.int p6), .val (.int x2), .val (.int x3), .val (.int x4), .val (.int dm), .val (.int mv), .val (.int mr), .val (.int ml), .val (.int qu), .val (.int ql), .val (.ref o1), .val (.ref o7), .unset] [])
  refine own_st (fun τ κ => XS.aload X12.here hx rfl (hb hby at_150) rfl rfl κ) ?_
  show own_Go p e below _ T12 (mkF m 152 #[.val (.int p1), .val (.int p2), .val (.int p3), .val (.int p4), .val (.int p5), .val (.int p6), .val (.int x2), .val (.int x3), .val (.int x4), .val (.int dm), .val (.int mv), .val (.int mr), .val (.int ml), .val (.int qu), .val (.int ql), .val (.ref o1), .val (.ref o7), .unset] [(.ref o7)])
  refine own_st (fun τ κ => XS.iload X12.here hx rfl (hb hby at_152) rfl κ) ?_
  show own_Go p e below _ T12 (mkF m 154 #[.val (.int p1), .val (.int p2), .val (.int p3), .val (.int p4), .val (.int p5), .val (.int p6), .val (.int x2), .val (.int x3), .val (.int x4), .val (.int dm), .val (.int mv), .val (.int mr), .val (.int ml), .val (.int qu), .val (.int ql), .val (.ref o1), .val (.ref o7), .unset] [(.int x3), (.ref o7)])
  refine own_callV X12 hx hZ e12 hown (hw _ (List.mem_of_getElem? (i := 22) rfl)) (hw _ (List.mem_of_getElem? (i := 23) rfl)) (hw _ (List.mem_of_getElem? (i := 25) rfl)) (hw _ (List.mem_of_getElem? (i := 25) rfl)) (hw _ (List.mem_of_getElem? (i := 24) rfl)) (hw _ (List.mem_of_getElem? (i := 4) rfl)) (hw _ (List.mem_of_getElem? (i := 26) rfl)) (by decide) pd_3 V.exa (argsL := [(.int x3)]) rfl (rm3 l Z a0 hw x3 o7 l1 b1 c1 (3 : Int32) (own_a2 x2) (own_b2 x2) (own_l2 x2) (own_len2 x2).1 (own_len2 x2).2.1 (own_len2 x2).2.2.1 hne T12.heap n0 Z12 ga_o7 ga_l1 ga_b1 ga_c1 V (by decide) (own_ok3 _ hx2 _ hx3)) 0 (by decide) (by decide) (by decide) (by decide) (rest := []) rfl (by rw [hml]; rfl) (Nat.le_of_eq rfl) (hb hby at_154) ?_
  intro v13 T13 L13 hQ13 X13
  obtain ⟨rfl, Nq13, K13, V13⟩ := hQ13
  have N13 := Fr.app N12 Nq13
  have e13 : T13.heap = T13.heap := rfl
  have A_o1 := A_o1.keep K13 nep
  have Z13 : n0 ≤ T13.heap.size := Nat.le_trans Z12 K13.1
  have V := V13
  have V : own_VO Z T13.heap o7 l1 b1 c1 (4 : Int32) (own_a3 x2 x3) (own_b3 x2 x3) (own_l3 x2 x3) := V
  show own_Go p e below _ T13 (mkF m 157 #[.val (.int p1), .val (.int p2), .val (.int p3), .val (.int p4), .val (.int p5), .val (.int p6), .val (.int x2), .val (.int x3), .val (.int x4), .val (.int dm), .val (.int mv), .val (.int mr), .val (.int ml), .val (.int qu), .val (.int ql), .val (.ref o1), .val (.ref o7), .unset] [(.int (3 : Int32))])
  refine own_st (fun τ κ => XS.pop X13.here hx rfl (hb hby at_157) rfl rfl κ) ?_
  show own_Go p e below _ T13 (mkF m 158 #[.val (.int p1), .val (.int p2), .val (.int p3), .val (.int p4), .val (.int p5), .val (.int p6), .val (.int x2), .val (.int x3), .val (.int x4), .val (.int dm), .val (.int mv), .val (.int mr), .val (.int ml), .val (.int qu), .val (.int ql), .val (.ref o1), .val (.ref o7), .unset] [])
  refine own_st (fun τ κ => XS.aload X13.here hx rfl (hb hby at_158) rfl rfl κ) ?_
  show own_Go p e below _ T13 (mkF m 160 #[.val (.int p1), .val (.int p2), .val (.int p3), .val (.int p4), .val (.int p5), .val (.int p6), .val (.int x2), .val (.int x3), .val (.int x4), .val (.int dm), .val (.int mv), .val (.int mr), .val (.int ml), .val (.int qu), .val (.int ql), .val (.ref o1), .val (.ref o7), .unset] [(.ref o1)])
  refine own_st (fun τ κ => XT.iconstV X13.here hx rfl (3) (hb hby at_160) (by decide) κ) ?_
  show own_Go p e below _ T13 (mkF m 161 #[.val (.int p1), .val (.int p2), .val (.int p3), .val (.int p4), .val (.int p5), .val (.int p6), .val (.int x2), .val (.int x3), .val (.int x4), .val (.int dm), .val (.int mv), .val (.int mr), .val (.int ml), .val (.int qu), .val (.int ql), .val (.ref o1), .val (.ref o7), .unset] [(.int (3 : Int32)), (.ref o1)])
  refine own_st (fun τ κ => XS.iload X13.here hx rfl (hb hby at_161) rfl κ) ?_
  show own_Go p e below _ T13 (mkF m 163 #[.val (.int p1), .val (.int p2), .val (.int p3), .val (.int p4), .val (.int p5), .val (.int p6), .val (.int x2), .val (.int x3), .val (.int x4), .val (.int dm), .val (.int mv), .val (.int mr), .val (.int ml), .val (.int qu), .val (.int ql), .val (.ref o1), .val (.ref o7), .unset] [(.int x3), (.int (3 : Int32)), (.ref o1)])
  refine own_callS X13 hx hZ e13 hown (hw _ (List.mem_of_getElem? (i := 33) rfl)) (hw _ (List.mem_of_getElem? (i := 34) rfl)) (hw _ (List.mem_of_getElem? (i := 35) rfl)) (hw _ (List.mem_of_getElem? (i := 36) rfl)) (by decide) pd_5 (argsL := [(.ref o1), (.int (3 : Int32)), (.int x3)]) rfl (rm5 l Z a0 hw o1 (3 : Int32) x3 (by decide) (own_five_in _ (own_up _ (Or.inr (Or.inl hx3)))) (own_p2 x2) (own_len2 x2).2.2.2 T13.heap n0 Z13 ga_o1 A_o1) 0 (by decide) (by decide) (by decide) (by decide) (rest := []) rfl (by rw [hml]; rfl) (Nat.le_of_eq rfl) (hb hby at_163) ?_
  intro v14 T14 L14 hQ14 X14
  obtain ⟨rfl, Nq14, K14, B14⟩ := hQ14
  have N14 := Fr.app N13 Nq14
  have e14 : T14.heap = T14.heap := rfl
  have V := V.keep K14 nt nl1 nb1 nc1
  have Z14 : n0 ≤ T14.heap.size := Nat.le_trans Z13 K14.1
  have A_o1 := B14
  have A_o1 : own_LI Z T14.heap o1 5 (own_p3 x2 x3) := A_o1
  show own_Go p e below _ T14 (mkF m 166 #[.val (.int p1), .val (.int p2), .val (.int p3), .val (.int p4), .val (.int p5), .val (.int p6), .val (.int x2), .val (.int x3), .val (.int x4), .val (.int dm), .val (.int mv), .val (.int mr), .val (.int ml), .val (.int qu), .val (.int ql), .val (.ref o1), .val (.ref o7), .unset] [])
  refine own_st (fun τ κ => XS.aload X14.here hx rfl (hb hby at_166) rfl rfl κ) ?_
  show own_Go p e below _ T14 (mkF m 168 #[.val (.int p1), .val (.int p2), .val (.int p3), .val (.int p4), .val (.int p5), .val (.int p6), .val (.int x2), .val (.int x3), .val (.int x4), .val (.int dm), .val (.int mv), .val (.int mr), .val (.int ml), .val (.int qu), .val (.int ql), .val (.ref o1), .val (.ref o7), .unset] [(.ref o7)])
  refine own_st (fun τ κ => XS.iload X14.here hx rfl (hb hby at_168) rfl κ) ?_
  show own_Go p e below _ T14 (mkF m 170 #[.val (.int p1), .val (.int p2), .val (.int p3), .val (.int p4), .val (.int p5), .val (.int p6), .val (.int x2), .val (.int x3), .val (.int x4), .val (.int dm), .val (.int mv), .val (.int mr), .val (.int ml), .val (.int qu), .val (.int ql), .val (.ref o1), .val (.ref o7), .unset] [(.int x4), (.ref o7)])
  refine own_callV X14 hx hZ e14 hown (hw _ (List.mem_of_getElem? (i := 22) rfl)) (hw _ (List.mem_of_getElem? (i := 23) rfl)) (hw _ (List.mem_of_getElem? (i := 25) rfl)) (hw _ (List.mem_of_getElem? (i := 25) rfl)) (hw _ (List.mem_of_getElem? (i := 24) rfl)) (hw _ (List.mem_of_getElem? (i := 4) rfl)) (hw _ (List.mem_of_getElem? (i := 26) rfl)) (by decide) pd_3 V.exa (argsL := [(.int x4)]) rfl (rm3 l Z a0 hw x4 o7 l1 b1 c1 (4 : Int32) (own_a3 x2 x3) (own_b3 x2 x3) (own_l3 x2 x3) (own_len3 x2 x3).1 (own_len3 x2 x3).2.1 (own_len3 x2 x3).2.2.1 hne T14.heap n0 Z14 ga_o7 ga_l1 ga_b1 ga_c1 V (by decide) (own_ok4 _ hx2 _ hx3 _ hx4)) 0 (by decide) (by decide) (by decide) (by decide) (rest := []) rfl (by rw [hml]; rfl) (Nat.le_of_eq rfl) (hb hby at_170) ?_
  intro v15 T15 L15 hQ15 X15
  obtain ⟨rfl, Nq15, K15, V15⟩ := hQ15
  have N15 := Fr.app N14 Nq15
  have e15 : T15.heap = T15.heap := rfl
  have A_o1 := A_o1.keep K15 nep
  have Z15 : n0 ≤ T15.heap.size := Nat.le_trans Z14 K15.1
  have V := V15
  have V : own_VO Z T15.heap o7 l1 b1 c1 (5 : Int32) (own_a4 x2 x3 x4) (own_b4 x2 x3 x4) (own_l4 x2 x3 x4) := V
  show own_Go p e below _ T15 (mkF m 173 #[.val (.int p1), .val (.int p2), .val (.int p3), .val (.int p4), .val (.int p5), .val (.int p6), .val (.int x2), .val (.int x3), .val (.int x4), .val (.int dm), .val (.int mv), .val (.int mr), .val (.int ml), .val (.int qu), .val (.int ql), .val (.ref o1), .val (.ref o7), .unset] [(.int (4 : Int32))])
  refine own_st (fun τ κ => XS.pop X15.here hx rfl (hb hby at_173) rfl rfl κ) ?_
  show own_Go p e below _ T15 (mkF m 174 #[.val (.int p1), .val (.int p2), .val (.int p3), .val (.int p4), .val (.int p5), .val (.int p6), .val (.int x2), .val (.int x3), .val (.int x4), .val (.int dm), .val (.int mv), .val (.int mr), .val (.int ml), .val (.int qu), .val (.int ql), .val (.ref o1), .val (.ref o7), .unset] [])
  refine own_st (fun τ κ => XS.aload X15.here hx rfl (hb hby at_174) rfl rfl κ) ?_
  show own_Go p e below _ T15 (mkF m 176 #[.val (.int p1), .val (.int p2), .val (.int p3), .val (.int p4), .val (.int p5), .val (.int p6), .val (.int x2), .val (.int x3), .val (.int x4), .val (.int dm), .val (.int mv), .val (.int mr), .val (.int ml), .val (.int qu), .val (.int ql), .val (.ref o1), .val (.ref o7), .unset] [(.ref o1)])
  refine own_st (fun τ κ => XT.iconstV X15.here hx rfl (4) (hb hby at_176) (by decide) κ) ?_
  show own_Go p e below _ T15 (mkF m 177 #[.val (.int p1), .val (.int p2), .val (.int p3), .val (.int p4), .val (.int p5), .val (.int p6), .val (.int x2), .val (.int x3), .val (.int x4), .val (.int dm), .val (.int mv), .val (.int mr), .val (.int ml), .val (.int qu), .val (.int ql), .val (.ref o1), .val (.ref o7), .unset] [(.int (4 : Int32)), (.ref o1)])
  refine own_st (fun τ κ => XS.iload X15.here hx rfl (hb hby at_177) rfl κ) ?_
  show own_Go p e below _ T15 (mkF m 179 #[.val (.int p1), .val (.int p2), .val (.int p3), .val (.int p4), .val (.int p5), .val (.int p6), .val (.int x2), .val (.int x3), .val (.int x4), .val (.int dm), .val (.int mv), .val (.int mr), .val (.int ml), .val (.int qu), .val (.int ql), .val (.ref o1), .val (.ref o7), .unset] [(.int x4), (.int (4 : Int32)), (.ref o1)])
  refine own_callS X15 hx hZ e15 hown (hw _ (List.mem_of_getElem? (i := 33) rfl)) (hw _ (List.mem_of_getElem? (i := 34) rfl)) (hw _ (List.mem_of_getElem? (i := 35) rfl)) (hw _ (List.mem_of_getElem? (i := 36) rfl)) (by decide) pd_5 (argsL := [(.ref o1), (.int (4 : Int32)), (.int x4)]) rfl (rm5 l Z a0 hw o1 (4 : Int32) x4 (by decide) (own_five_in _ (own_up _ (Or.inr (Or.inr hx4)))) (own_p3 x2 x3) (own_len3 x2 x3).2.2.2 T15.heap n0 Z15 ga_o1 A_o1) 0 (by decide) (by decide) (by decide) (by decide) (rest := []) rfl (by rw [hml]; rfl) (Nat.le_of_eq rfl) (hb hby at_179) ?_
  intro v16 T16 L16 hQ16 X16
  obtain ⟨rfl, Nq16, K16, B16⟩ := hQ16
  have N16 := Fr.app N15 Nq16
  have e16 : T16.heap = T16.heap := rfl
  have V := V.keep K16 nt nl1 nb1 nc1
  have Z16 : n0 ≤ T16.heap.size := Nat.le_trans Z15 K16.1
  have A_o1 := B16
  have A_o1 : own_LI Z T16.heap o1 5 (own_p4 x2 x3 x4) := A_o1
  show own_Go p e below _ T16 (mkF m 182 #[.val (.int p1), .val (.int p2), .val (.int p3), .val (.int p4), .val (.int p5), .val (.int p6), .val (.int x2), .val (.int x3), .val (.int x4), .val (.int dm), .val (.int mv), .val (.int mr), .val (.int ml), .val (.int qu), .val (.int ql), .val (.ref o1), .val (.ref o7), .unset] [])
  refine own_st (fun τ κ => XS.iload X16.here hx rfl (hb hby at_182) rfl κ) ?_
  show own_Go p e below _ T16 (mkF m 184 #[.val (.int p1), .val (.int p2), .val (.int p3), .val (.int p4), .val (.int p5), .val (.int p6), .val (.int x2), .val (.int x3), .val (.int x4), .val (.int dm), .val (.int mv), .val (.int mr), .val (.int ml), .val (.int qu), .val (.int ql), .val (.ref o1), .val (.ref o7), .unset] [(.int dm)])
  by_cases c184 : dm = (0 : Int32)
  · refine own_st (fun τ κ => XS.ifYes X16.here hx rfl (pc0 := 184) (pc' := 212) rfl (hb hby at_184) rfl (XT.i0_eq_t c184) (by decide) (by decide) κ) ?_
    show own_Go p e below _ T16 (mkF m 212 #[.val (.int p1), .val (.int p2), .val (.int p3), .val (.int p4), .val (.int p5), .val (.int p6), .val (.int x2), .val (.int x3), .val (.int x4), .val (.int dm), .val (.int mv), .val (.int mr), .val (.int ml), .val (.int qu), .val (.int ql), .val (.ref o1), .val (.ref o7), .unset] [])
    refine own_st (fun τ κ => XS.aload X16.here hx rfl (hb hby at_212) rfl rfl κ) ?_
    show own_Go p e below _ T16 (mkF m 214 #[.val (.int p1), .val (.int p2), .val (.int p3), .val (.int p4), .val (.int p5), .val (.int p6), .val (.int x2), .val (.int x3), .val (.int x4), .val (.int dm), .val (.int mv), .val (.int mr), .val (.int ml), .val (.int qu), .val (.int ql), .val (.ref o1), .val (.ref o7), .unset] [(.ref o1)])
    refine own_st (fun τ κ => XS.iload X16.here hx rfl (hb hby at_214) rfl κ) ?_
    show own_Go p e below _ T16 (mkF m 216 #[.val (.int p1), .val (.int p2), .val (.int p3), .val (.int p4), .val (.int p5), .val (.int p6), .val (.int x2), .val (.int x3), .val (.int x4), .val (.int dm), .val (.int mv), .val (.int mr), .val (.int ml), .val (.int qu), .val (.int ql), .val (.ref o1), .val (.ref o7), .unset] [(.int qu), (.ref o1)])
    refine own_ldI X16 hx hZ e16 A_o1 (own_five_in _ hqu) (x := (own_g (own_p4 x2 x3 x4) qu)) rfl (hb hby at_216) ?_
    show own_Go p e below _ T16 (mkF m 217 #[.val (.int p1), .val (.int p2), .val (.int p3), .val (.int p4), .val (.int p5), .val (.int p6), .val (.int x2), .val (.int x3), .val (.int x4), .val (.int dm), .val (.int mv), .val (.int mr), .val (.int ml), .val (.int qu), .val (.int ql), .val (.ref o1), .val (.ref o7), .unset] [(.int (own_g (own_p4 x2 x3 x4) qu))])
    refine own_st (fun τ κ => XS.aload X16.here hx rfl (hb hby at_217) rfl rfl κ) ?_
    show own_Go p e below _ T16 (mkF m 219 #[.val (.int p1), .val (.int p2), .val (.int p3), .val (.int p4), .val (.int p5), .val (.int p6), .val (.int x2), .val (.int x3), .val (.int x4), .val (.int dm), .val (.int mv), .val (.int mr), .val (.int ml), .val (.int qu), .val (.int ql), .val (.ref o1), .val (.ref o7), .unset] [(.ref o1), (.int (own_g (own_p4 x2 x3 x4) qu))])
    refine own_st (fun τ κ => XS.iload X16.here hx rfl (hb hby at_219) rfl κ) ?_
    show own_Go p e below _ T16 (mkF m 221 #[.val (.int p1), .val (.int p2), .val (.int p3), .val (.int p4), .val (.int p5), .val (.int p6), .val (.int x2), .val (.int x3), .val (.int x4), .val (.int dm), .val (.int mv), .val (.int mr), .val (.int ml), .val (.int qu), .val (.int ql), .val (.ref o1), .val (.ref o7), .unset] [(.int ql), (.ref o1), (.int (own_g (own_p4 x2 x3 x4) qu))])
    refine own_ldI X16 hx hZ e16 A_o1 (own_five_in _ hql) (x := (own_g (own_p4 x2 x3 x4) ql)) rfl (hb hby at_221) ?_
    show own_Go p e below _ T16 (mkF m 222 #[.val (.int p1), .val (.int p2), .val (.int p3), .val (.int p4), .val (.int p5), .val (.int p6), .val (.int x2), .val (.int x3), .val (.int x4), .val (.int dm), .val (.int mv), .val (.int mr), .val (.int ml), .val (.int qu), .val (.int ql), .val (.ref o1), .val (.ref o7), .unset] [(.int (own_g (own_p4 x2 x3 x4) ql)), (.int (own_g (own_p4 x2 x3 x4) qu))])
    refine own_st (fun τ κ => XT.iconstV X16.here hx rfl (1) (hb hby at_222) (by decide) κ) ?_
    show own_Go p e below _ T16 (mkF m 223 #[.val (.int p1), .val (.int p2), .val (.int p3), .val (.int p4), .val (.int p5), .val (.int p6), .val (.int x2), .val (.int x3), .val (.int x4), .val (.int dm), .val (.int mv), .val (.int mr), .val (.int ml), .val (.int qu), .val (.int ql), .val (.ref o1), .val (.ref o7), .unset] [(.int (1 : Int32)), (.int (own_g (own_p4 x2 x3 x4) ql)), (.int (own_g (own_p4 x2 x3 x4) qu))])
    refine own_st (fun τ κ => XS.iadd X16.here hx rfl (hb hby at_223) rfl κ) ?_
    show own_Go p e below _ T16 (mkF m 224 #[.val (.int p1), .val (.int p2), .val (.int p3), .val (.int p4), .val (.int p5), .val (.int p6), .val (.int x2), .val (.int x3), .val (.int x4), .val (.int dm), .val (.int mv), .val (.int mr), .val (.int ml), .val (.int qu), .val (.int ql), .val (.ref o1), .val (.ref o7), .unset] [(.int ((own_g (own_p4 x2 x3 x4) ql) + (1 : Int32))), (.int (own_g (own_p4 x2 x3 x4) qu))])
    have hsm := own_same4 _ hx2 _ hx3 _ hx4 qu hqu ql hql
    suffices J232 : own_Go p e below _ T16 (mkF m 232 #[.val (.int p1), .val (.int p2), .val (.int p3), .val (.int p4), .val (.int p5), .val (.int p6), .val (.int x2), .val (.int x3), .val (.int x4), .val (.int dm), .val (.int mv), .val (.int mr), .val (.int ml), .val (.int qu), .val (.int ql), .val (.ref o1), .val (.ref o7), .unset] [(.int (own_dir (own_b4 x2 x3 x4) qu ql))]) by
      by_cases c224 : (own_g (own_p4 x2 x3 x4) qu) = ((own_g (own_p4 x2 x3 x4) ql) + (1 : Int32))
      · refine own_st (fun τ κ => XS.icmpNo X16.here hx rfl (hb hby at_224) rfl (XT.ii_ne_f c224) κ) ?_
        show own_Go p e below _ T16 (mkF m 227 #[.val (.int p1), .val (.int p2), .val (.int p3), .val (.int p4), .val (.int p5), .val (.int p6), .val (.int x2), .val (.int x3), .val (.int x4), .val (.int dm), .val (.int mv), .val (.int mr), .val (.int ml), .val (.int qu), .val (.int ql), .val (.ref o1), .val (.ref o7), .unset] [])
        refine own_st (fun τ κ => XT.iconstV X16.here hx rfl (1) (hb hby at_227) (by decide) κ) ?_
        show own_Go p e below _ T16 (mkF m 228 #[.val (.int p1), .val (.int p2), .val (.int p3), .val (.int p4), .val (.int p5), .val (.int p6), .val (.int x2), .val (.int x3), .val (.int x4), .val (.int dm), .val (.int mv), .val (.int mr), .val (.int ml), .val (.int qu), .val (.int ql), .val (.ref o1), .val (.ref o7), .unset] [(.int (1 : Int32))])
        refine own_st (fun τ κ => XS.goto X16.here hx rfl (pc0 := 228) (pc' := 232) rfl (hb hby at_228) (by decide) (by decide) κ) ?_
        show own_Go p e below _ T16 (mkF m 232 #[.val (.int p1), .val (.int p2), .val (.int p3), .val (.int p4), .val (.int p5), .val (.int p6), .val (.int x2), .val (.int x3), .val (.int x4), .val (.int dm), .val (.int mv), .val (.int mr), .val (.int ml), .val (.int qu), .val (.int ql), .val (.ref o1), .val (.ref o7), .unset] [(.int (1 : Int32))])
        rw [own_dir, if_pos (hsm.mp c224)] at J232
        exact J232
      · refine own_st (fun τ κ => XS.icmpYes X16.here hx rfl (pc0 := 224) (pc' := 231) rfl (hb hby at_224) rfl (XT.ii_ne_t c224) (by decide) (by decide) κ) ?_
        show own_Go p e below _ T16 (mkF m 231 #[.val (.int p1), .val (.int p2), .val (.int p3), .val (.int p4), .val (.int p5), .val (.int p6), .val (.int x2), .val (.int x3), .val (.int x4), .val (.int dm), .val (.int mv), .val (.int mr), .val (.int ml), .val (.int qu), .val (.int ql), .val (.ref o1), .val (.ref o7), .unset] [])
        refine own_st (fun τ κ => XT.iconstV X16.here hx rfl (0) (hb hby at_231) (by decide) κ) ?_
        show own_Go p e below _ T16 (mkF m 232 #[.val (.int p1), .val (.int p2), .val (.int p3), .val (.int p4), .val (.int p5), .val (.int p6), .val (.int x2), .val (.int x3), .val (.int x4), .val (.int dm), .val (.int mv), .val (.int mr), .val (.int ml), .val (.int qu), .val (.int ql), .val (.ref o1), .val (.ref o7), .unset] [(.int (0 : Int32))])
        rw [own_dir, if_neg (fun q => c224 (hsm.mpr q))] at J232
        exact J232
    show own_Go p e below _ T16 (mkF m 232 #[.val (.int p1), .val (.int p2), .val (.int p3), .val (.int p4), .val (.int p5), .val (.int p6), .val (.int x2), .val (.int x3), .val (.int x4), .val (.int dm), .val (.int mv), .val (.int mr), .val (.int ml), .val (.int qu), .val (.int ql), .val (.ref o1), .val (.ref o7), .unset] [(.int (own_dir (own_b4 x2 x3 x4) qu ql))])
    refine own_st (fun τ κ => XS.istore X16.here hx rfl (hb hby at_232) rfl (l' := #[.val (.int p1), .val (.int p2), .val (.int p3), .val (.int p4), .val (.int p5), .val (.int p6), .val (.int x2), .val (.int x3), .val (.int x4), .val (.int dm), .val (.int mv), .val (.int mr), .val (.int ml), .val (.int qu), .val (.int ql), .val (.ref o1), .val (.ref o7), .val (.int (own_dir (own_b4 x2 x3 x4) qu ql))]) rfl κ) ?_
    show own_Go p e below _ T16 (mkF m 234 #[.val (.int p1), .val (.int p2), .val (.int p3), .val (.int p4), .val (.int p5), .val (.int p6), .val (.int x2), .val (.int x3), .val (.int x4), .val (.int dm), .val (.int mv), .val (.int mr), .val (.int ml), .val (.int qu), .val (.int ql), .val (.ref o1), .val (.ref o7), .val (.int (own_dir (own_b4 x2 x3 x4) qu ql))] [])
    refine own_st (fun τ κ => XS.aload X16.here hx rfl (hb hby at_234) rfl rfl κ) ?_
    show own_Go p e below _ T16 (mkF m 236 #[.val (.int p1), .val (.int p2), .val (.int p3), .val (.int p4), .val (.int p5), .val (.int p6), .val (.int x2), .val (.int x3), .val (.int x4), .val (.int dm), .val (.int mv), .val (.int mr), .val (.int ml), .val (.int qu), .val (.int ql), .val (.ref o1), .val (.ref o7), .val (.int (own_dir (own_b4 x2 x3 x4) qu ql))] [(.ref o7)])
    refine own_st (fun τ κ => XS.iload X16.here hx rfl (hb hby at_236) rfl κ) ?_
    show own_Go p e below _ T16 (mkF m 238 #[.val (.int p1), .val (.int p2), .val (.int p3), .val (.int p4), .val (.int p5), .val (.int p6), .val (.int x2), .val (.int x3), .val (.int x4), .val (.int dm), .val (.int mv), .val (.int mr), .val (.int ml), .val (.int qu), .val (.int ql), .val (.ref o1), .val (.ref o7), .val (.int (own_dir (own_b4 x2 x3 x4) qu ql))] [(.int qu), (.ref o7)])
    refine own_st (fun τ κ => XS.iload X16.here hx rfl (hb hby at_238) rfl κ) ?_
    show own_Go p e below _ T16 (mkF m 240 #[.val (.int p1), .val (.int p2), .val (.int p3), .val (.int p4), .val (.int p5), .val (.int p6), .val (.int x2), .val (.int x3), .val (.int x4), .val (.int dm), .val (.int mv), .val (.int mr), .val (.int ml), .val (.int qu), .val (.int ql), .val (.ref o1), .val (.ref o7), .val (.int (own_dir (own_b4 x2 x3 x4) qu ql))] [(.int ql), (.int qu), (.ref o7)])
    refine own_callV X16 hx hZ e16 hown (hw _ (List.mem_of_getElem? (i := 48) rfl)) (hw _ (List.mem_of_getElem? (i := 49) rfl)) (hw _ (List.mem_of_getElem? (i := 51) rfl)) (hw _ (List.mem_of_getElem? (i := 51) rfl)) (hw _ (List.mem_of_getElem? (i := 50) rfl)) (hw _ (List.mem_of_getElem? (i := 4) rfl)) (hw _ (List.mem_of_getElem? (i := 52) rfl)) (by decide) pd_9 V.exa (argsL := [(.int qu), (.int ql)]) rfl (rm9 l Z a0 hw o7 l1 b1 c1 _ _ (own_b4 x2 x3 x4) _ qu ql (own_five_in _ hqu) T16.heap n0 V) 0 (by decide) (by decide) (by decide) (by decide) (rest := []) rfl (by rw [hml]; rfl) (Nat.le_of_eq rfl) (hb hby at_240) ?_
    intro v17 T17 L17 hQ17 X17
    obtain ⟨rfl, Nq17, e17⟩ := hQ17
    have N17 := Fr.app N16 Nq17
    show own_Go p e below _ T17 (mkF m 243 #[.val (.int p1), .val (.int p2), .val (.int p3), .val (.int p4), .val (.int p5), .val (.int p6), .val (.int x2), .val (.int x3), .val (.int x4), .val (.int dm), .val (.int mv), .val (.int mr), .val (.int ml), .val (.int qu), .val (.int ql), .val (.ref o1), .val (.ref o7), .val (.int (own_dir (own_b4 x2 x3 x4) qu ql))] [(.int (own_dir (own_b4 x2 x3 x4) qu ql))])
    refine own_st (fun τ κ => XS.iload X17.here hx rfl (hb hby at_243) rfl κ) ?_
    show own_Go p e below _ T17 (mkF m 245 #[.val (.int p1), .val (.int p2), .val (.int p3), .val (.int p4), .val (.int p5), .val (.int p6), .val (.int x2), .val (.int x3), .val (.int x4), .val (.int dm), .val (.int mv), .val (.int mr), .val (.int ml), .val (.int qu), .val (.int ql), .val (.ref o1), .val (.ref o7), .val (.int (own_dir (own_b4 x2 x3 x4) qu ql))] [(.int (own_dir (own_b4 x2 x3 x4) qu ql)), (.int (own_dir (own_b4 x2 x3 x4) qu ql))])
    refine own_st (fun τ κ => XS.icmpNo X17.here hx rfl (hb hby at_245) rfl (XT.ii_ne_f rfl) κ) ?_
    show own_Go p e below _ T17 (mkF m 248 #[.val (.int p1), .val (.int p2), .val (.int p3), .val (.int p4), .val (.int p5), .val (.int p6), .val (.int x2), .val (.int x3), .val (.int x4), .val (.int dm), .val (.int mv), .val (.int mr), .val (.int ml), .val (.int qu), .val (.int ql), .val (.ref o1), .val (.ref o7), .val (.int (own_dir (own_b4 x2 x3 x4) qu ql))] [])
    refine own_st (fun τ κ => XT.iconstV X17.here hx rfl (1) (hb hby at_248) (by decide) κ) ?_
    show own_Go p e below _ T17 (mkF m 249 #[.val (.int p1), .val (.int p2), .val (.int p3), .val (.int p4), .val (.int p5), .val (.int p6), .val (.int x2), .val (.int x3), .val (.int x4), .val (.int dm), .val (.int mv), .val (.int mr), .val (.int ml), .val (.int qu), .val (.int ql), .val (.ref o1), .val (.ref o7), .val (.int (own_dir (own_b4 x2 x3 x4) qu ql))] [(.int (1 : Int32))])
    refine own_st (fun τ κ => XS.goto X17.here hx rfl (pc0 := 249) (pc' := 253) rfl (hb hby at_249) (by decide) (by decide) κ) ?_
    show own_Go p e below _ T17 (mkF m 253 #[.val (.int p1), .val (.int p2), .val (.int p3), .val (.int p4), .val (.int p5), .val (.int p6), .val (.int x2), .val (.int x3), .val (.int x4), .val (.int dm), .val (.int mv), .val (.int mr), .val (.int ml), .val (.int qu), .val (.int ql), .val (.ref o1), .val (.ref o7), .val (.int (own_dir (own_b4 x2 x3 x4) qu ql))] [(.int (1 : Int32))])
    refine own_retZ X17 hx hlk hret (by decide) (by decide) (by decide) (hb hby at_253) ?_
    exact ⟨rfl, N17⟩
  · refine own_st (fun τ κ => XS.ifNo X16.here hx rfl (hb hby at_184) rfl (XT.i0_eq_f c184) κ) ?_
    show own_Go p e below _ T16 (mkF m 187 #[.val (.int p1), .val (.int p2), .val (.int p3), .val (.int p4), .val (.int p5), .val (.int p6), .val (.int x2), .val (.int x3), .val (.int x4), .val (.int dm), .val (.int mv), .val (.int mr), .val (.int ml), .val (.int qu), .val (.int ql), .val (.ref o1), .val (.ref o7), .unset] [])
    refine own_st (fun τ κ => XS.aload X16.here hx rfl (hb hby at_187) rfl rfl κ) ?_
    show own_Go p e below _ T16 (mkF m 189 #[.val (.int p1), .val (.int p2), .val (.int p3), .val (.int p4), .val (.int p5), .val (.int p6), .val (.int x2), .val (.int x3), .val (.int x4), .val (.int dm), .val (.int mv), .val (.int mr), .val (.int ml), .val (.int qu), .val (.int ql), .val (.ref o1), .val (.ref o7), .unset] [(.ref o7)])
    refine own_st (fun τ κ => XS.iload X16.here hx rfl (hb hby at_189) rfl κ) ?_
    show own_Go p e below _ T16 (mkF m 191 #[.val (.int p1), .val (.int p2), .val (.int p3), .val (.int p4), .val (.int p5), .val (.int p6), .val (.int x2), .val (.int x3), .val (.int x4), .val (.int dm), .val (.int mv), .val (.int mr), .val (.int ml), .val (.int qu), .val (.int ql), .val (.ref o1), .val (.ref o7), .unset] [(.int mv), (.ref o7)])
    refine own_st (fun τ κ => XS.iload X16.here hx rfl (hb hby at_191) rfl κ) ?_
    show own_Go p e below _ T16 (mkF m 193 #[.val (.int p1), .val (.int p2), .val (.int p3), .val (.int p4), .val (.int p5), .val (.int p6), .val (.int x2), .val (.int x3), .val (.int x4), .val (.int dm), .val (.int mv), .val (.int mr), .val (.int ml), .val (.int qu), .val (.int ql), .val (.ref o1), .val (.ref o7), .unset] [(.int ml), (.int mv), (.ref o7)])
    refine own_callV X16 hx hZ e16 hown (hw _ (List.mem_of_getElem? (i := 40) rfl)) (hw _ (List.mem_of_getElem? (i := 41) rfl)) (hw _ (List.mem_of_getElem? (i := 43) rfl)) (hw _ (List.mem_of_getElem? (i := 43) rfl)) (hw _ (List.mem_of_getElem? (i := 42) rfl)) (hw _ (List.mem_of_getElem? (i := 4) rfl)) (hw _ (List.mem_of_getElem? (i := 44) rfl)) (by decide) pd_7 V.exa (argsL := [(.int mv), (.int ml)]) rfl (rm7 l Z a0 hw mv ml o7 l1 b1 c1 (5 : Int32) (own_a4 x2 x3 x4) (own_b4 x2 x3 x4) (own_l4 x2 x3 x4) (own_len4 x2 x3 x4).1 (own_len4 x2 x3 x4).2.1 (own_len4 x2 x3 x4).2.2.1 hne T16.heap n0 Z16 ga_o7 ga_l1 ga_b1 ga_c1 V (own_okM _ hx2 _ hx3 _ hx4 _ hmv) (own_okI _ hx2 _ hx3 _ hx4 _ hmv _ hmlm hmn)) 0 (by decide) (by decide) (by decide) (by decide) (rest := []) rfl (by rw [hml]; rfl) (Nat.le_of_eq rfl) (hb hby at_193) ?_
    intro v18 T18 L18 hQ18 X18
    obtain ⟨rfl, Nq18, K18, V18⟩ := hQ18
    have N18 := Fr.app N16 Nq18
    have e18 : T18.heap = T18.heap := rfl
    have A_o1 := A_o1.keep K18 nep
    have Z18 : n0 ≤ T18.heap.size := Nat.le_trans Z16 K18.1
    have V := V18
    show own_Go p e below _ T18 (mkF m 196 #[.val (.int p1), .val (.int p2), .val (.int p3), .val (.int p4), .val (.int p5), .val (.int p6), .val (.int x2), .val (.int x3), .val (.int x4), .val (.int dm), .val (.int mv), .val (.int mr), .val (.int ml), .val (.int qu), .val (.int ql), .val (.ref o1), .val (.ref o7), .unset] [])
    refine own_st (fun τ κ => XS.aload X18.here hx rfl (hb hby at_196) rfl rfl κ) ?_
    show own_Go p e below _ T18 (mkF m 198 #[.val (.int p1), .val (.int p2), .val (.int p3), .val (.int p4), .val (.int p5), .val (.int p6), .val (.int x2), .val (.int x3), .val (.int x4), .val (.int dm), .val (.int mv), .val (.int mr), .val (.int ml), .val (.int qu), .val (.int ql), .val (.ref o1), .val (.ref o7), .unset] [(.ref o1)])
    refine own_st (fun τ κ => XS.iload X18.here hx rfl (hb hby at_198) rfl κ) ?_
    show own_Go p e below _ T18 (mkF m 200 #[.val (.int p1), .val (.int p2), .val (.int p3), .val (.int p4), .val (.int p5), .val (.int p6), .val (.int x2), .val (.int x3), .val (.int x4), .val (.int dm), .val (.int mv), .val (.int mr), .val (.int ml), .val (.int qu), .val (.int ql), .val (.ref o1), .val (.ref o7), .unset] [(.int mv), (.ref o1)])
    refine own_callS X18 hx hZ e18 hown (hw _ (List.mem_of_getElem? (i := 45) rfl)) (hw _ (List.mem_of_getElem? (i := 46) rfl)) (hw _ (List.mem_of_getElem? (i := 35) rfl)) (hw _ (List.mem_of_getElem? (i := 47) rfl)) (by decide) pd_8 (argsL := [(.ref o1), (.int mv)]) rfl (rm8 l Z a0 hw o1 mv (own_varsin _ hmv) (own_p4 x2 x3 x4) (own_len4 x2 x3 x4).2.2.2 T18.heap n0 Z18 ga_o1 A_o1) 0 (by decide) (by decide) (by decide) (by decide) (rest := []) rfl (by rw [hml]; rfl) (Nat.le_of_eq rfl) (hb hby at_200) ?_
    intro v19 T19 L19 hQ19 X19
    obtain ⟨rfl, Nq19, K19, B19⟩ := hQ19
    have N19 := Fr.app N18 Nq19
    have e19 : T19.heap = T19.heap := rfl
    have V := V.keep K19 nt nl1 nb1 nc1
    have Z19 : n0 ≤ T19.heap.size := Nat.le_trans Z18 K19.1
    have A_o1 := B19
    show own_Go p e below _ T19 (mkF m 203 #[.val (.int p1), .val (.int p2), .val (.int p3), .val (.int p4), .val (.int p5), .val (.int p6), .val (.int x2), .val (.int x3), .val (.int x4), .val (.int dm), .val (.int mv), .val (.int mr), .val (.int ml), .val (.int qu), .val (.int ql), .val (.ref o1), .val (.ref o7), .unset] [])
    refine own_st (fun τ κ => XS.aload X19.here hx rfl (hb hby at_203) rfl rfl κ) ?_
    show own_Go p e below _ T19 (mkF m 205 #[.val (.int p1), .val (.int p2), .val (.int p3), .val (.int p4), .val (.int p5), .val (.int p6), .val (.int x2), .val (.int x3), .val (.int x4), .val (.int dm), .val (.int mv), .val (.int mr), .val (.int ml), .val (.int qu), .val (.int ql), .val (.ref o1), .val (.ref o7), .unset] [(.ref o1)])
    refine own_st (fun τ κ => XS.iload X19.here hx rfl (hb hby at_205) rfl κ) ?_
    show own_Go p e below _ T19 (mkF m 207 #[.val (.int p1), .val (.int p2), .val (.int p3), .val (.int p4), .val (.int p5), .val (.int p6), .val (.int x2), .val (.int x3), .val (.int x4), .val (.int dm), .val (.int mv), .val (.int mr), .val (.int ml), .val (.int qu), .val (.int ql), .val (.ref o1), .val (.ref o7), .unset] [(.int mv), (.ref o1)])
    refine own_st (fun τ κ => XS.iload X19.here hx rfl (hb hby at_207) rfl κ) ?_
    show own_Go p e below _ T19 (mkF m 209 #[.val (.int p1), .val (.int p2), .val (.int p3), .val (.int p4), .val (.int p5), .val (.int p6), .val (.int x2), .val (.int x3), .val (.int x4), .val (.int dm), .val (.int mv), .val (.int mr), .val (.int ml), .val (.int qu), .val (.int ql), .val (.ref o1), .val (.ref o7), .unset] [(.int ml), (.int mv), (.ref o1)])
    refine own_callS X19 hx hZ e19 hown (hw _ (List.mem_of_getElem? (i := 33) rfl)) (hw _ (List.mem_of_getElem? (i := 34) rfl)) (hw _ (List.mem_of_getElem? (i := 35) rfl)) (hw _ (List.mem_of_getElem? (i := 36) rfl)) (by decide) pd_5 (argsL := [(.ref o1), (.int mv), (.int ml)]) rfl (rm5 l Z a0 hw o1 mv ml (own_varsin _ hmv) (own_five_in _ hmlm) (own_remP (own_p4 x2 x3 x4) mv) ((own_remP_len _ _).trans (own_len4 x2 x3 x4).2.2.2) T19.heap n0 Z19 ga_o1 A_o1) 0 (by decide) (by decide) (by decide) (by decide) (rest := []) rfl (by rw [hml]; rfl) (Nat.le_of_eq rfl) (hb hby at_209) ?_
    intro v20 T20 L20 hQ20 X20
    obtain ⟨rfl, Nq20, K20, B20⟩ := hQ20
    have N20 := Fr.app N19 Nq20
    have e20 : T20.heap = T20.heap := rfl
    have V := V.keep K20 nt nl1 nb1 nc1
    have Z20 : n0 ≤ T20.heap.size := Nat.le_trans Z19 K20.1
    have A_o1 := B20
    show own_Go p e below _ T20 (mkF m 212 #[.val (.int p1), .val (.int p2), .val (.int p3), .val (.int p4), .val (.int p5), .val (.int p6), .val (.int x2), .val (.int x3), .val (.int x4), .val (.int dm), .val (.int mv), .val (.int mr), .val (.int ml), .val (.int qu), .val (.int ql), .val (.ref o1), .val (.ref o7), .unset] [])
    refine own_st (fun τ κ => XS.aload X20.here hx rfl (hb hby at_212) rfl rfl κ) ?_
    show own_Go p e below _ T20 (mkF m 214 #[.val (.int p1), .val (.int p2), .val (.int p3), .val (.int p4), .val (.int p5), .val (.int p6), .val (.int x2), .val (.int x3), .val (.int x4), .val (.int dm), .val (.int mv), .val (.int mr), .val (.int ml), .val (.int qu), .val (.int ql), .val (.ref o1), .val (.ref o7), .unset] [(.ref o1)])
    refine own_st (fun τ κ => XS.iload X20.here hx rfl (hb hby at_214) rfl κ) ?_
    show own_Go p e below _ T20 (mkF m 216 #[.val (.int p1), .val (.int p2), .val (.int p3), .val (.int p4), .val (.int p5), .val (.int p6), .val (.int x2), .val (.int x3), .val (.int x4), .val (.int dm), .val (.int mv), .val (.int mr), .val (.int ml), .val (.int qu), .val (.int ql), .val (.ref o1), .val (.ref o7), .unset] [(.int qu), (.ref o1)])
    refine own_ldI X20 hx hZ e20 A_o1 (own_five_in _ hqu) (x := (own_g (own_insP (own_remP (own_p4 x2 x3 x4) mv) mv ml) qu)) rfl (hb hby at_216) ?_
    show own_Go p e below _ T20 (mkF m 217 #[.val (.int p1), .val (.int p2), .val (.int p3), .val (.int p4), .val (.int p5), .val (.int p6), .val (.int x2), .val (.int x3), .val (.int x4), .val (.int dm), .val (.int mv), .val (.int mr), .val (.int ml), .val (.int qu), .val (.int ql), .val (.ref o1), .val (.ref o7), .unset] [(.int (own_g (own_insP (own_remP (own_p4 x2 x3 x4) mv) mv ml) qu))])
    refine own_st (fun τ κ => XS.aload X20.here hx rfl (hb hby at_217) rfl rfl κ) ?_
    show own_Go p e below _ T20 (mkF m 219 #[.val (.int p1), .val (.int p2), .val (.int p3), .val (.int p4), .val (.int p5), .val (.int p6), .val (.int x2), .val (.int x3), .val (.int x4), .val (.int dm), .val (.int mv), .val (.int mr), .val (.int ml), .val (.int qu), .val (.int ql), .val (.ref o1), .val (.ref o7), .unset] [(.ref o1), (.int (own_g (own_insP (own_remP (own_p4 x2 x3 x4) mv) mv ml) qu))])
    refine own_st (fun τ κ => XS.iload X20.here hx rfl (hb hby at_219) rfl κ) ?_
    show own_Go p e below _ T20 (mkF m 221 #[.val (.int p1), .val (.int p2), .val (.int p3), .val (.int p4), .val (.int p5), .val (.int p6), .val (.int x2), .val (.int x3), .val (.int x4), .val (.int dm), .val (.int mv), .val (.int mr), .val (.int ml), .val (.int qu), .val (.int ql), .val (.ref o1), .val (.ref o7), .unset] [(.int ql), (.ref o1), (.int (own_g (own_insP (own_remP (own_p4 x2 x3 x4) mv) mv ml) qu))])
    refine own_ldI X20 hx hZ e20 A_o1 (own_five_in _ hql) (x := (own_g (own_insP (own_remP (own_p4 x2 x3 x4) mv) mv ml) ql)) rfl (hb hby at_221) ?_
    show own_Go p e below _ T20 (mkF m 222 #[.val (.int p1), .val (.int p2), .val (.int p3), .val (.int p4), .val (.int p5), .val (.int p6), .val (.int x2), .val (.int x3), .val (.int x4), .val (.int dm), .val (.int mv), .val (.int mr), .val (.int ml), .val (.int qu), .val (.int ql), .val (.ref o1), .val (.ref o7), .unset] [(.int (own_g (own_insP (own_remP (own_p4 x2 x3 x4) mv) mv ml) ql)), (.int (own_g (own_insP (own_remP (own_p4 x2 x3 x4) mv) mv ml) qu))])
    refine own_st (fun τ κ => XT.iconstV X20.here hx rfl (1) (hb hby at_222) (by decide) κ) ?_
    show own_Go p e below _ T20 (mkF m 223 #[.val (.int p1), .val (.int p2), .val (.int p3), .val (.int p4), .val (.int p5), .val (.int p6), .val (.int x2), .val (.int x3), .val (.int x4), .val (.int dm), .val (.int mv), .val (.int mr), .val (.int ml), .val (.int qu), .val (.int ql), .val (.ref o1), .val (.ref o7), .unset] [(.int (1 : Int32)), (.int (own_g (own_insP (own_remP (own_p4 x2 x3 x4) mv) mv ml) ql)), (.int (own_g (own_insP (own_remP (own_p4 x2 x3 x4) mv) mv ml) qu))])
    refine own_st (fun τ κ => XS.iadd X20.here hx rfl (hb hby at_223) rfl κ) ?_
    show own_Go p e below _ T20 (mkF m 224 #[.val (.int p1), .val (.int p2), .val (.int p3), .val (.int p4), .val (.int p5), .val (.int p6), .val (.int x2), .val (.int x3), .val (.int x4), .val (.int dm), .val (.int mv), .val (.int mr), .val (.int ml), .val (.int qu), .val (.int ql), .val (.ref o1), .val (.ref o7), .unset] [(.int ((own_g (own_insP (own_remP (own_p4 x2 x3 x4) mv) mv ml) ql) + (1 : Int32))), (.int (own_g (own_insP (own_remP (own_p4 x2 x3 x4) mv) mv ml) qu))])
    have hsm := own_sameM _ hx2 _ hx3 _ hx4 _ hmv _ hmlm hmn qu hqu ql hql
    suffices J232 : own_Go p e below _ T20 (mkF m 232 #[.val (.int p1), .val (.int p2), .val (.int p3), .val (.int p4), .val (.int p5), .val (.int p6), .val (.int x2), .val (.int x3), .val (.int x4), .val (.int dm), .val (.int mv), .val (.int mr), .val (.int ml), .val (.int qu), .val (.int ql), .val (.ref o1), .val (.ref o7), .unset] [(.int (own_dir (own_insB (own_remA (own_a4 x2 x3 x4) (own_b4 x2 x3 x4) mv) (own_remB (own_a4 x2 x3 x4) (own_b4 x2 x3 x4) mv) mv ml) qu ql))]) by
      by_cases c224 : (own_g (own_insP (own_remP (own_p4 x2 x3 x4) mv) mv ml) qu) = ((own_g (own_insP (own_remP (own_p4 x2 x3 x4) mv) mv ml) ql) + (1 : Int32))
      · refine own_st (fun τ κ => XS.icmpNo X20.here hx rfl (hb hby at_224) rfl (XT.ii_ne_f c224) κ) ?_
        show own_Go p e below _ T20 (mkF m 227 #[.val (.int p1), .val (.int p2), .val (.int p3), .val (.int p4), .val (.int p5), .val (.int p6), .val (.int x2), .val (.int x3), .val (.int x4), .val (.int dm), .val (.int mv), .val (.int mr), .val (.int ml), .val (.int qu), .val (.int ql), .val (.ref o1), .val (.ref o7), .unset] [])
        refine own_st (fun τ κ => XT.iconstV X20.here hx rfl (1) (hb hby at_227) (by decide) κ) ?_
        show own_Go p e below _ T20 (mkF m 228 #[.val (.int p1), .val (.int p2), .val (.int p3), .val (.int p4), .val (.int p5), .val (.int p6), .val (.int x2), .val (.int x3), .val (.int x4), .val (.int dm), .val (.int mv), .val (.int mr), .val (.int ml), .val (.int qu), .val (.int ql), .val (.ref o1), .val (.ref o7), .unset] [(.int (1 : Int32))])
        refine own_st (fun τ κ => XS.goto X20.here hx rfl (pc0 := 228) (pc' := 232) rfl (hb hby at_228) (by decide) (by decide) κ) ?_
        show own_Go p e below _ T20 (mkF m 232 #[.val (.int p1), .val (.int p2), .val (.int p3), .val (.int p4), .val (.int p5), .val (.int p6), .val (.int x2), .val (.int x3), .val (.int x4), .val (.int dm), .val (.int mv), .val (.int mr), .val (.int ml), .val (.int qu), .val (.int ql), .val (.ref o1), .val (.ref o7), .unset] [(.int (1 : Int32))])
        rw [own_dir, if_pos (hsm.mp c224)] at J232
        exact J232
      · refine own_st (fun τ κ => XS.icmpYes X20.here hx rfl (pc0 := 224) (pc' := 231) rfl (hb hby at_224) rfl (XT.ii_ne_t c224) (by decide) (by decide) κ) ?_
        show own_Go p e below _ T20 (mkF m 231 #[.val (.int p1), .val (.int p2), .val (.int p3), .val (.int p4), .val (.int p5), .val (.int p6), .val (.int x2), .val (.int x3), .val (.int x4), .val (.int dm), .val (.int mv), .val (.int mr), .val (.int ml), .val (.int qu), .val (.int ql), .val (.ref o1), .val (.ref o7), .unset] [])
        refine own_st (fun τ κ => XT.iconstV X20.here hx rfl (0) (hb hby at_231) (by decide) κ) ?_
        show own_Go p e below _ T20 (mkF m 232 #[.val (.int p1), .val (.int p2), .val (.int p3), .val (.int p4), .val (.int p5), .val (.int p6), .val (.int x2), .val (.int x3), .val (.int x4), .val (.int dm), .val (.int mv), .val (.int mr), .val (.int ml), .val (.int qu), .val (.int ql), .val (.ref o1), .val (.ref o7), .unset] [(.int (0 : Int32))])
        rw [own_dir, if_neg (fun q => c224 (hsm.mpr q))] at J232
        exact J232
    show own_Go p e below _ T20 (mkF m 232 #[.val (.int p1), .val (.int p2), .val (.int p3), .val (.int p4), .val (.int p5), .val (.int p6), .val (.int x2), .val (.int x3), .val (.int x4), .val (.int dm), .val (.int mv), .val (.int mr), .val (.int ml), .val (.int qu), .val (.int ql), .val (.ref o1), .val (.ref o7), .unset] [(.int (own_dir (own_insB (own_remA (own_a4 x2 x3 x4) (own_b4 x2 x3 x4) mv) (own_remB (own_a4 x2 x3 x4) (own_b4 x2 x3 x4) mv) mv ml) qu ql))])
    refine own_st (fun τ κ => XS.istore X20.here hx rfl (hb hby at_232) rfl (l' := #[.val (.int p1), .val (.int p2), .val (.int p3), .val (.int p4), .val (.int p5), .val (.int p6), .val (.int x2), .val (.int x3), .val (.int x4), .val (.int dm), .val (.int mv), .val (.int mr), .val (.int ml), .val (.int qu), .val (.int ql), .val (.ref o1), .val (.ref o7), .val (.int (own_dir (own_insB (own_remA (own_a4 x2 x3 x4) (own_b4 x2 x3 x4) mv) (own_remB (own_a4 x2 x3 x4) (own_b4 x2 x3 x4) mv) mv ml) qu ql))]) rfl κ) ?_
    show own_Go p e below _ T20 (mkF m 234 #[.val (.int p1), .val (.int p2), .val (.int p3), .val (.int p4), .val (.int p5), .val (.int p6), .val (.int x2), .val (.int x3), .val (.int x4), .val (.int dm), .val (.int mv), .val (.int mr), .val (.int ml), .val (.int qu), .val (.int ql), .val (.ref o1), .val (.ref o7), .val (.int (own_dir (own_insB (own_remA (own_a4 x2 x3 x4) (own_b4 x2 x3 x4) mv) (own_remB (own_a4 x2 x3 x4) (own_b4 x2 x3 x4) mv) mv ml) qu ql))] [])
    refine own_st (fun τ κ => XS.aload X20.here hx rfl (hb hby at_234) rfl rfl κ) ?_
    show own_Go p e below _ T20 (mkF m 236 #[.val (.int p1), .val (.int p2), .val (.int p3), .val (.int p4), .val (.int p5), .val (.int p6), .val (.int x2), .val (.int x3), .val (.int x4), .val (.int dm), .val (.int mv), .val (.int mr), .val (.int ml), .val (.int qu), .val (.int ql), .val (.ref o1), .val (.ref o7), .val (.int (own_dir (own_insB (own_remA (own_a4 x2 x3 x4) (own_b4 x2 x3 x4) mv) (own_remB (own_a4 x2 x3 x4) (own_b4 x2 x3 x4) mv) mv ml) qu ql))] [(.ref o7)])
    refine own_st (fun τ κ => XS.iload X20.here hx rfl (hb hby at_236) rfl κ) ?_
    show own_Go p e below _ T20 (mkF m 238 #[.val (.int p1), .val (.int p2), .val (.int p3), .val (.int p4), .val (.int p5), .val (.int p6), .val (.int x2), .val (.int x3), .val (.int x4), .val (.int dm), .val (.int mv), .val (.int mr), .val (.int ml), .val (.int qu), .val (.int ql), .val (.ref o1), .val (.ref o7), .val (.int (own_dir (own_insB (own_remA (own_a4 x2 x3 x4) (own_b4 x2 x3 x4) mv) (own_remB (own_a4 x2 x3 x4) (own_b4 x2 x3 x4) mv) mv ml) qu ql))] [(.int qu), (.ref o7)])
    refine own_st (fun τ κ => XS.iload X20.here hx rfl (hb hby at_238) rfl κ) ?_
    show own_Go p e below _ T20 (mkF m 240 #[.val (.int p1), .val (.int p2), .val (.int p3), .val (.int p4), .val (.int p5), .val (.int p6), .val (.int x2), .val (.int x3), .val (.int x4), .val (.int dm), .val (.int mv), .val (.int mr), .val (.int ml), .val (.int qu), .val (.int ql), .val (.ref o1), .val (.ref o7), .val (.int (own_dir (own_insB (own_remA (own_a4 x2 x3 x4) (own_b4 x2 x3 x4) mv) (own_remB (own_a4 x2 x3 x4) (own_b4 x2 x3 x4) mv) mv ml) qu ql))] [(.int ql), (.int qu), (.ref o7)])
    refine own_callV X20 hx hZ e20 hown (hw _ (List.mem_of_getElem? (i := 48) rfl)) (hw _ (List.mem_of_getElem? (i := 49) rfl)) (hw _ (List.mem_of_getElem? (i := 51) rfl)) (hw _ (List.mem_of_getElem? (i := 51) rfl)) (hw _ (List.mem_of_getElem? (i := 50) rfl)) (hw _ (List.mem_of_getElem? (i := 4) rfl)) (hw _ (List.mem_of_getElem? (i := 52) rfl)) (by decide) pd_9 V.exa (argsL := [(.int qu), (.int ql)]) rfl (rm9 l Z a0 hw o7 l1 b1 c1 _ _ (own_insB (own_remA (own_a4 x2 x3 x4) (own_b4 x2 x3 x4) mv) (own_remB (own_a4 x2 x3 x4) (own_b4 x2 x3 x4) mv) mv ml) _ qu ql (own_five_in _ hqu) T20.heap n0 V) 0 (by decide) (by decide) (by decide) (by decide) (rest := []) rfl (by rw [hml]; rfl) (Nat.le_of_eq rfl) (hb hby at_240) ?_
    intro v21 T21 L21 hQ21 X21
    obtain ⟨rfl, Nq21, e21⟩ := hQ21
    have N21 := Fr.app N20 Nq21
    show own_Go p e below _ T21 (mkF m 243 #[.val (.int p1), .val (.int p2), .val (.int p3), .val (.int p4), .val (.int p5), .val (.int p6), .val (.int x2), .val (.int x3), .val (.int x4), .val (.int dm), .val (.int mv), .val (.int mr), .val (.int ml), .val (.int qu), .val (.int ql), .val (.ref o1), .val (.ref o7), .val (.int (own_dir (own_insB (own_remA (own_a4 x2 x3 x4) (own_b4 x2 x3 x4) mv) (own_remB (own_a4 x2 x3 x4) (own_b4 x2 x3 x4) mv) mv ml) qu ql))] [(.int (own_dir (own_insB (own_remA (own_a4 x2 x3 x4) (own_b4 x2 x3 x4) mv) (own_remB (own_a4 x2 x3 x4) (own_b4 x2 x3 x4) mv) mv ml) qu ql))])
    refine own_st (fun τ κ => XS.iload X21.here hx rfl (hb hby at_243) rfl κ) ?_
    show own_Go p e below _ T21 (mkF m 245 #[.val (.int p1), .val (.int p2), .val (.int p3), .val (.int p4), .val (.int p5), .val (.int p6), .val (.int x2), .val (.int x3), .val (.int x4), .val (.int dm), .val (.int mv), .val (.int mr), .val (.int ml), .val (.int qu), .val (.int ql), .val (.ref o1), .val (.ref o7), .val (.int (own_dir (own_insB (own_remA (own_a4 x2 x3 x4) (own_b4 x2 x3 x4) mv) (own_remB (own_a4 x2 x3 x4) (own_b4 x2 x3 x4) mv) mv ml) qu ql))] [(.int (own_dir (own_insB (own_remA (own_a4 x2 x3 x4) (own_b4 x2 x3 x4) mv) (own_remB (own_a4 x2 x3 x4) (own_b4 x2 x3 x4) mv) mv ml) qu ql)), (.int (own_dir (own_insB (own_remA (own_a4 x2 x3 x4) (own_b4 x2 x3 x4) mv) (own_remB (own_a4 x2 x3 x4) (own_b4 x2 x3 x4) mv) mv ml) qu ql))])
    refine own_st (fun τ κ => XS.icmpNo X21.here hx rfl (hb hby at_245) rfl (XT.ii_ne_f rfl) κ) ?_
    show own_Go p e below _ T21 (mkF m 248 #[.val (.int p1), .val (.int p2), .val (.int p3), .val (.int p4), .val (.int p5), .val (.int p6), .val (.int x2), .val (.int x3), .val (.int x4), .val (.int dm), .val (.int mv), .val (.int mr), .val (.int ml), .val (.int qu), .val (.int ql), .val (.ref o1), .val (.ref o7), .val (.int (own_dir (own_insB (own_remA (own_a4 x2 x3 x4) (own_b4 x2 x3 x4) mv) (own_remB (own_a4 x2 x3 x4) (own_b4 x2 x3 x4) mv) mv ml) qu ql))] [])
    refine own_st (fun τ κ => XT.iconstV X21.here hx rfl (1) (hb hby at_248) (by decide) κ) ?_
    show own_Go p e below _ T21 (mkF m 249 #[.val (.int p1), .val (.int p2), .val (.int p3), .val (.int p4), .val (.int p5), .val (.int p6), .val (.int x2), .val (.int x3), .val (.int x4), .val (.int dm), .val (.int mv), .val (.int mr), .val (.int ml), .val (.int qu), .val (.int ql), .val (.ref o1), .val (.ref o7), .val (.int (own_dir (own_insB (own_remA (own_a4 x2 x3 x4) (own_b4 x2 x3 x4) mv) (own_remB (own_a4 x2 x3 x4) (own_b4 x2 x3 x4) mv) mv ml) qu ql))] [(.int (1 : Int32))])
    refine own_st (fun τ κ => XS.goto X21.here hx rfl (pc0 := 249) (pc' := 253) rfl (hb hby at_249) (by decide) (by decide) κ) ?_
    show own_Go p e below _ T21 (mkF m 253 #[.val (.int p1), .val (.int p2), .val (.int p3), .val (.int p4), .val (.int p5), .val (.int p6), .val (.int x2), .val (.int x3), .val (.int x4), .val (.int dm), .val (.int mv), .val (.int mr), .val (.int ml), .val (.int qu), .val (.int ql), .val (.ref o1), .val (.ref o7), .val (.int (own_dir (own_insB (own_remA (own_a4 x2 x3 x4) (own_b4 x2 x3 x4) mv) (own_remB (own_a4 x2 x3 x4) (own_b4 x2 x3 x4) mv) mv ml) qu ql))] [(.int (1 : Int32))])
    refine own_retZ X21 hx hlk hret (by decide) (by decide) (by decide) (hb hby at_253) ?_
    exact ⟨rfl, N21⟩

set_option maxRecDepth 65536 in
set_option maxHeartbeats 40000000 in
theorem comes_1 {Post : Tables → Env → Array Value → State → Outcome → State → Prop} (hpost : ∀ tb e args s v u, (limb_1_1.after args s (.returned v) u = true ∧ limb_1_2.after args s (.returned v) u = true ∧ True) → FrameEnd s (.returned v) u (Jvm.fieldLocs frame_1_writes args s ++ Jvm.arrayLocs frame_1_arrays args s ++ Jvm.staticLocs frame_1_statics s) 24 512 → Post tb e args s (.returned v) u) :
    ArmFor flags0 classFile x code maxLocals ret World_1 tables_1 room_1 Calls_1 rest_1 Pre_1 Post := by
  intro l hfl _ _ p e ha hc hk s m args below hf hA hF happ hP
  obtain ⟨hcalls, hrest, hpre⟩ := hP
  obtain ⟨-, -, -, hnamed, -, -, -, hat⟩ := (Spec.applies_iff hf).mp happ
  obtain ⟨hg, hn⟩ := and_e (Cond.before_iff.mp (show (Jvm.Cond.and given_1 narrow_1).before args s = true from hpre))
  obtain ⟨gc, g0⟩ := and_e hg
  obtain ⟨a0, g1⟩ := and_e g0
  obtain ⟨a1, g2⟩ := and_e g1
  obtain ⟨a2, g3⟩ := and_e g2
  obtain ⟨a3, g4⟩ := and_e g3
  obtain ⟨a4, g5⟩ := and_e g4
  obtain ⟨w0, w1, w2, w3, w4, w5, rfl⟩ : ∃ w0 w1 w2 w3 w4 w5 : Value, args = #[w0, w1, w2, w3, w4, w5] := by
    have hs : args.size = 6 := by simpa [Cond.value, given_1] using gc
    obtain ⟨L⟩ := args
    match L, hs with
    | [w0, w1, w2, w3, w4, w5], _ => exact ⟨w0, w1, w2, w3, w4, w5, rfl⟩
  have hw := fun d (hd : d ∈ tables_1) => atoms_spec (ws := Jvm.Cond.code x code maxLocals ret :: tables_1) hat d (List.mem_cons_of_mem _ hd)
  obtain ⟨i0, ei0⟩ := is_v a0
  obtain rfl : w0 = (.int i0) := Option.some.inj ei0
  obtain ⟨i1, ei1⟩ := is_v a1
  obtain rfl : w1 = (.int i1) := Option.some.inj ei1
  obtain ⟨i2, ei2⟩ := is_v a2
  obtain rfl : w2 = (.int i2) := Option.some.inj ei2
  obtain ⟨i3, ei3⟩ := is_v a3
  obtain rfl : w3 = (.int i3) := Option.some.inj ei3
  obtain ⟨i4, ei4⟩ := is_v a4
  obtain rfl : w4 = (.int i4) := Option.some.inj ei4
  obtain ⟨i5, ei5⟩ := is_v g5
  obtain rfl : w5 = (.int i5) := Option.some.inj ei5
  obtain ⟨n, o, h1, h2, h3, _, L, rfl, ⟨rfl, N⟩, hq⟩ := rm0 l s _ hw i0 i1 i2 i3 i4 i5 s.heap s.heap.size (Nat.le_refl _) tables_1 p e ha hc hk s m _ below hf ((Spec.applies_iff_loose hf).mp happ).1 ⟨rfl, State.Warmed39.refl s, rfl⟩ trivial
  refine ⟨n, _, h1, h2, h3, hpost _ _ _ _ _ _ ⟨Cond.after_iff.mpr rfl, Cond.after_iff.mpr (eq_i res_at (Term.int_eval (1)) rfl), trivial⟩ ⟨hq.1, hq.2.1, (hq.2.2.sift fun y hy => Or.inr (N y hy)).mono (by decide) (by decide)⟩⟩
theorem main_1_1 : Claimed_1_1 := comes_1 fun _ _ _ _ _ _ h hF => ⟨h.1, hF⟩
theorem main_1_2 : Claimed_1_2 := comes_1 fun _ _ _ _ _ _ h hF => ⟨h.2.1, hF⟩

end Jvm.Pilot.@@N@@
namespace Jvm.Pilot.@@N@@
open Jvm Jvm.ClassFile Sem Op Lib Jvm.Free Jvm.Stand Jvm.Pilot.@@N@@.Jvm.D
/-! MADE BY PROGRAM (witnessworld.py) out of the Statement's table words and the real class files: 11 classes; the members and pool entries that the words name. The judged class is class 1, her method 4. -/
namespace start1
open Jvm.ClassFile
def u (s : String) : CpInfo := .utf8 (stringToUtf16 s)
/-- a pool by its gaps: so many unusable entries, then the entry; so many at the end -/
def gap : Nat → List CpInfo → List CpInfo
  | 0, r => r
  | n + 1, r => .unusable :: gap n r
def poolList (es : List (Nat × CpInfo)) (last : Nat) : List CpInfo := es.foldr (fun e r => gap e.1 (e.2 :: r)) (gap last [])
def pool (es : List (Nat × CpInfo)) (last : Nat) : Array CpInfo := ⟨poolList es last⟩
def fileOf (pool : Array CpInfo) (this : Nat) (attrs : Array Attribute := #[]) (ms : Array MethodInfo := #[]) (fl : Nat := 33) (sup : Nat := 0) (ifs : Array Nat := #[]) (fds : Array FieldInfo := #[]) : ClassFile where
  minorVersion := 0
  majorVersion := 65
  constantPool := pool
  accessFlags := fl
  thisClass := this
  superClass := sup
  interfaces := ifs
  fields := fds
  methods := ms
  attributes := attrs
def plain (name : String) (sup : Option ClassId) : Class where
  name := name
  kind := .ordinary
  loader := none
  accessFlags := 33
  super := sup
  interfaces := #[]
  cf := none
  fields := #[]
  methods := #[]
  instanceTypes := #[]
  staticTypes := #[]
  resolved := #[]
  callSites := []
  init := .initialized
  statics := none
  mirror := none

def pool0 : Array CpInfo := pool [(5, u "<init>"), (0, u "()V"), (1, .class_ 10), (1, u "java/lang/Object")] 113

def k0c0 : Code := { maxStack := 0, maxLocals := 1, code := object_method_1_code, exceptionTable := #[], attributes := #[] }
def k0m0 : Method := { name := "<init>", desc := "()V", sig := { parameters := [], returnType := none }, accessFlags := 1, code := some k0c0 }
/-- java/lang/Object -/
def k0 : Class := { plain "java/lang/Object" none with
  accessFlags := 33
  interfaces := #[]
  cf := some (fileOf pool0 8 #[] #[{ accessFlags := 1, nameIndex := 5, descriptorIndex := 6, attributes := #[] }] 33 0 #[] #[])
  fields := #[]
  methods := #[k0m0]
  instanceTypes := #[]
  staticTypes := #[]
  resolved := Array.replicate 124 none
  statics := none }

def pool1 : Array CpInfo := pool [(2, .class_ 4), (0, .nameAndType 5 6), (0, u "java/lang/Object"), (0, u "<init>"), (0, u "()V"), (0, .methodref 8 9), (0, .class_ 10), (0, .nameAndType 11 12), (0, u "com/example/worldsum/worldsum/VariableOrderIsDirectlyAbovePinLaw"), (0, u "bump"), (0, u "([IIII)V"), (0, .integer 2147483647), (0, .class_ 15), (0, u "com/example/worldsum/worldsum/VariableOrder"), (0, .methodref 14 3), (0, .methodref 14 18), (0, .nameAndType 19 20), (0, u "addAbove"), (0, u "(I)I"), (0, .methodref 8 22), (0, .nameAndType 23 24), (0, u "insert"), (0, u "([III)V"), (0, .methodref 14 26), (0, .nameAndType 27 28), (0, u "moveAbove"), (0, u "(II)V"), (0, .methodref 8 30), (0, .nameAndType 31 32), (0, u "remove"), (0, u "([II)V"), (0, .methodref 14 34), (0, .nameAndType 35 36), (0, u "isDirectlyAbove"), (0, u "(II)Z"), (3, u "law"), (0, u "(IIIIII)Z")] 4

def k1m0 : Method := { name := "<init>", desc := "()V", sig := { parameters := [], returnType := none }, accessFlags := 2, code := none }
def k1c1 : Code := { maxStack := 4, maxLocals := 4, code := method_2_code, exceptionTable := #[], attributes := #[] }
def k1m1 : Method := { name := "bump", desc := "([IIII)V", sig := { parameters := [(.array .int), .int, .int, .int], returnType := none }, accessFlags := 10, code := some k1c1 }
def k1c2 : Code := { maxStack := 4, maxLocals := 4, code := method_3_code, exceptionTable := #[], attributes := #[] }
def k1m2 : Method := { name := "insert", desc := "([III)V", sig := { parameters := [(.array .int), .int, .int], returnType := none }, accessFlags := 10, code := some k1c2 }
def k1c3 : Code := { maxStack := 4, maxLocals := 3, code := method_4_code, exceptionTable := #[], attributes := #[] }
def k1m3 : Method := { name := "remove", desc := "([II)V", sig := { parameters := [(.array .int), .int], returnType := none }, accessFlags := 10, code := some k1c3 }
def k1c4 : Code := { maxStack := 4, maxLocals := 18, code := code, exceptionTable := #[], attributes := #[] }
def k1m4 : Method := { name := "law", desc := "(IIIIII)Z", sig := { parameters := [.int, .int, .int, .int, .int, .int], returnType := some .boolean }, accessFlags := 9, code := some k1c4 }
/-- com/example/worldsum/worldsum/VariableOrderIsDirectlyAbovePinLaw -/
def k1 : Class := { plain "com/example/worldsum/worldsum/VariableOrderIsDirectlyAbovePinLaw" (some 0) with
  accessFlags := 49
  interfaces := #[]
  cf := some (fileOf pool1 8 #[] #[{ accessFlags := 2, nameIndex := 5, descriptorIndex := 6, attributes := #[] }, { accessFlags := 10, nameIndex := 11, descriptorIndex := 12, attributes := #[] }, { accessFlags := 10, nameIndex := 23, descriptorIndex := 24, attributes := #[] }, { accessFlags := 10, nameIndex := 31, descriptorIndex := 32, attributes := #[] }, { accessFlags := 9, nameIndex := 40, descriptorIndex := 41, attributes := #[] }] 49 2 #[] #[])
  fields := #[]
  methods := #[k1m0, k1m1, k1m2, k1m3, k1m4]
  instanceTypes := #[]
  staticTypes := #[]
  resolved := Array.replicate 46 none
  statics := none }

def pool2 : Array CpInfo := pool [(1, .methodref 2 3), (0, .class_ 4), (0, .nameAndType 5 6), (0, u "java/lang/Object"), (0, u "<init>"), (0, u "()V"), (0, .fieldref 8 9), (0, .class_ 10), (0, .nameAndType 11 12), (0, u "com/example/worldsum/worldsum/VariableOrder"), (0, u "level"), (0, u "[J"), (0, .fieldref 8 14), (0, .nameAndType 15 16), (0, u "above"), (0, u "[I"), (0, .fieldref 8 18), (0, .nameAndType 19 16), (0, u "below"), (0, .fieldref 8 21), (0, .nameAndType 22 23), (0, u "variables"), (0, u "I"), (0, .fieldref 8 25), (0, .nameAndType 26 23), (0, u "top"), (9, .methodref 8 37), (0, .nameAndType 38 39), (0, u "insertAbove"), (0, u "(II)V"), (0, .long 4611686018427387904), (1, .long 2), (12, u "BOTTOM"), (2, u "NONE"), (1, u "LEVEL_BITS"), (1, u "SPARSENESS"), (0, u "D"), (6, u "addAbove"), (0, u "(I)I"), (1, u "isDirectlyAbove"), (0, u "(II)Z"), (4, u "moveAbove")] 2

def k2c0 : Code := { maxStack := 3, maxLocals := 1, code := prog_14_method_1_code, exceptionTable := #[], attributes := #[] }
def k2m0 : Method := { name := "<init>", desc := "()V", sig := { parameters := [], returnType := none }, accessFlags := 0, code := some k2c0 }
def k2c1 : Code := { maxStack := 4, maxLocals := 3, code := prog_14_method_4_code, exceptionTable := #[], attributes := #[] }
def k2m1 : Method := { name := "addAbove", desc := "(I)I", sig := { parameters := [.int], returnType := some .int }, accessFlags := 0, code := some k2c1 }
def k2c2 : Code := { maxStack := 2, maxLocals := 3, code := prog_14_method_5_code, exceptionTable := #[], attributes := #[] }
def k2m2 : Method := { name := "isDirectlyAbove", desc := "(II)Z", sig := { parameters := [.int, .int], returnType := some .boolean }, accessFlags := 0, code := some k2c2 }
def k2c3 : Code := { maxStack := 4, maxLocals := 4, code := prog_14_method_9_code, exceptionTable := #[], attributes := #[] }
def k2m3 : Method := { name := "moveAbove", desc := "(II)V", sig := { parameters := [.int, .int], returnType := none }, accessFlags := 0, code := some k2c3 }
def k2c4 : Code := { maxStack := 8, maxLocals := 6, code := prog_14_method_10_code, exceptionTable := #[], attributes := #[] }
def k2m4 : Method := { name := "insertAbove", desc := "(II)V", sig := { parameters := [.int, .int], returnType := none }, accessFlags := 2, code := some k2c4 }
/-- com/example/worldsum/worldsum/VariableOrder -/
def k2 : Class := { plain "com/example/worldsum/worldsum/VariableOrder" (some 0) with
  accessFlags := 48
  interfaces := #[]
  cf := some (fileOf pool2 8 #[] #[{ accessFlags := 0, nameIndex := 5, descriptorIndex := 6, attributes := #[] }, { accessFlags := 0, nameIndex := 70, descriptorIndex := 71, attributes := #[] }, { accessFlags := 0, nameIndex := 73, descriptorIndex := 74, attributes := #[] }, { accessFlags := 0, nameIndex := 79, descriptorIndex := 39, attributes := #[] }, { accessFlags := 2, nameIndex := 38, descriptorIndex := 39, attributes := #[] }] 48 2 #[] #[{ accessFlags := 24, nameIndex := 55, descriptorIndex := 23, attributes := #[] }, { accessFlags := 26, nameIndex := 58, descriptorIndex := 23, attributes := #[] }, { accessFlags := 26, nameIndex := 60, descriptorIndex := 23, attributes := #[] }, { accessFlags := 26, nameIndex := 62, descriptorIndex := 63, attributes := #[] }, { accessFlags := 2, nameIndex := 11, descriptorIndex := 12, attributes := #[] }, { accessFlags := 2, nameIndex := 15, descriptorIndex := 16, attributes := #[] }, { accessFlags := 2, nameIndex := 19, descriptorIndex := 16, attributes := #[] }, { accessFlags := 2, nameIndex := 22, descriptorIndex := 23, attributes := #[] }, { accessFlags := 2, nameIndex := 26, descriptorIndex := 23, attributes := #[] }])
  fields := #[{ name := "BOTTOM", type := .int, accessFlags := 24, slot := 0, constantValue := 0 }, { name := "NONE", type := .int, accessFlags := 26, slot := 1, constantValue := 0 }, { name := "LEVEL_BITS", type := .int, accessFlags := 26, slot := 2, constantValue := 0 }, { name := "SPARSENESS", type := .double, accessFlags := 26, slot := 3, constantValue := 0 }, { name := "level", type := (.array .long), accessFlags := 2, slot := 0, constantValue := 0 }, { name := "above", type := (.array .int), accessFlags := 2, slot := 1, constantValue := 0 }, { name := "below", type := (.array .int), accessFlags := 2, slot := 2, constantValue := 0 }, { name := "variables", type := .int, accessFlags := 2, slot := 3, constantValue := 0 }, { name := "top", type := .int, accessFlags := 2, slot := 4, constantValue := 0 }]
  methods := #[k2m0, k2m1, k2m2, k2m3, k2m4]
  instanceTypes := #[(.array .long), (.array .int), (.array .int), .int, .int]
  staticTypes := #[.int, .int, .int, .double]
  resolved := Array.replicate 82 none
  statics := none }

def pool3 : Array CpInfo := pool [(1, u "java/lang/Cloneable"), (0, .class_ 1), (0, u "java/lang/Object"), (0, .class_ 3)] 3

/-- java/lang/Cloneable -/
def k3 : Class := { plain "java/lang/Cloneable" (some 0) with
  accessFlags := 1537
  interfaces := #[]
  cf := some (fileOf pool3 2 #[] #[] 1537 4 #[] #[])
  fields := #[]
  methods := #[]
  instanceTypes := #[]
  staticTypes := #[]
  resolved := Array.replicate 8 none
  statics := none }

def pool4 : Array CpInfo := pool [(1, u "java/io/Serializable"), (0, .class_ 1), (0, u "java/lang/Object"), (0, .class_ 3)] 3

/-- java/io/Serializable -/
def k4 : Class := { plain "java/io/Serializable" (some 0) with
  accessFlags := 1537
  interfaces := #[]
  cf := some (fileOf pool4 2 #[] #[] 1537 4 #[] #[])
  fields := #[]
  methods := #[]
  instanceTypes := #[]
  staticTypes := #[]
  resolved := Array.replicate 8 none
  statics := none }

/-- the primitive byte -/
def k5 : Class := { plain "byte" none with kind := .primitive 'B', accessFlags := 0x411 }
/-- [B -/
def k6 : Class := { plain "[B" (some 0) with kind := .array 5 .byte, interfaces := #[3, 4], accessFlags := 1041 }

/-- the primitive int -/
def k7 : Class := { plain "int" none with kind := .primitive 'I', accessFlags := 0x411 }
/-- [I -/
def k8 : Class := { plain "[I" (some 0) with kind := .array 7 .int, interfaces := #[3, 4], accessFlags := 1041 }

/-- the primitive long -/
def k9 : Class := { plain "long" none with kind := .primitive 'J', accessFlags := 0x411 }
/-- [J -/
def k10 : Class := { plain "[J" (some 0) with kind := .array 9 .long, interfaces := #[3, 4], accessFlags := 1041 }

def heap : Heap := #[]
def classes : Array Class := #[k0, k1, k2, k3, k4, k5, k6, k7, k8, k9, k10]
def interned : List (Array UInt16 × Addr) := []
def slotsUsed : Nat := 0
def theMethod : MethodId := ⟨1, 4⟩
def args0 : Array Value := #[.int 1, .int 2, .int 3, .int 4, .int 5, .int 6]
def aboutOver (below : List Frame) : State where
  vm := { classes := classes, interned := interned.toArray }
  heap := heap
  slotsUsed := slotsUsed
  threads := #[{ frames := .invoking theMethod args0 :: below }]
def below0 : List Frame := [.native { method := ⟨0, 0⟩, args := #[] }]
def about1 : State := aboutOver below0
def p0 : Program := .bare "" "" ""
def e0 : Env := launch0.env 0 0 0
theorem w_frames : about1.frames = Frame.invoking theMethod args0 :: below0 := rfl
set_option maxRecDepth 65536 in
theorem w_args : argsFit about1.vm theMethod args0 = true := by decide +kernel
set_option maxRecDepth 65536 in
theorem w_heap : heapFits about1 = true := by decide +kernel
set_option maxRecDepth 65536 in
theorem w_runnable : about1.curStatus? = some .runnable := by decide +kernel
set_option maxRecDepth 65536 in
theorem w_alone : about1.alone = true := by decide +kernel
set_option maxRecDepth 65536 in
theorem w_named : about1.methodNamed? x = some theMethod := by decide +kernel
set_option maxRecDepth 65536 in
theorem w_hears : about1.hears theMethod below0 = true := by decide +kernel
set_option maxRecDepth 65536 in
theorem w_ripe : about1.ripe theMethod args0 below0 = true := by decide +kernel
theorem w_running : about1.status = .running := rfl
set_option maxRecDepth 65536 in
theorem w_room : about1.hasRoom e0.platform room_1 = true :=
  launch0.hasRoom_least _ room_1 (by decide +kernel) (by decide +kernel) (by decide +kernel) (by decide +kernel) (by decide +kernel) (by decide +kernel)
theorem allAtoms_all (ts : List Jvm.Cond) (a : Array Jvm.Value) (st : Jvm.State) : (allAtoms ts).before a st = ts.all (fun c => c.before a st) := by
  induction ts with
  | nil => rfl
  | cons c t ih =>
    show (Jvm.Cond.and c (allAtoms t)).before a st = _
    rw [Jvm.Cond.before_and, ih, List.all_cons]
def words1 : List Jvm.Cond := Jvm.Cond.code x code maxLocals ret :: tables_1
/-- a 'code' word, met by the world's own term for the bytes: nothing is compared byte by byte -/
theorem code_word {y : MethodName} {bytes : ByteArray} {mx : Nat} {rt : Option FieldType} {a : Array Value} {s : State} {m : MethodId} {meth : Method} {c : Code} (h1 : s.methodNamed? y = some m) (h2 : s.vm.method? m = some meth) (h3 : meth.code = some c) (h4 : c.code = bytes)
    (h5 : (c.maxLocals == mx && c.exceptionTable.isEmpty && decide (c.maxStack ≤ mostOperands) && decide (meth.sig.returnType = rt) && !meth.locks && decide (parseMethodDescriptor y.desc = some meth.sig)) = true) : (Jvm.Cond.code y bytes mx rt).before a s = true := by
  simp only [Bool.and_eq_true, beq_iff_eq, Bool.not_eq_true', decide_eq_true_eq] at h5
  obtain ⟨⟨⟨⟨⟨g1, g2⟩, g3⟩, g4⟩, g5⟩, g6⟩ := h5
  simp [Cond.before, Cond.holds, Cond.value, h1, h2, h3, h4, g1, g2, g3, g4, g5, g6]
def isCode : Jvm.Cond → Bool
  | .code _ _ _ _ => true
  | _ => false
theorem all_split {L : List Jvm.Cond} {P : Jvm.Cond → Bool} (h1 : L.all (fun c => isCode c || P c) = true) (h2 : ∀ c ∈ L.filter isCode, P c = true) : L.all P = true := by
  refine List.all_eq_true.mpr fun c hc => ?_
  have h := List.all_eq_true.mp h1 c hc
  rcases Bool.eq_false_or_eq_true (isCode c) with hi | hi
  · exact h2 c (List.mem_filter.mpr ⟨hc, hi⟩)
  · simpa [hi] using h
set_option maxRecDepth 65536 in
theorem w_c0 : (Jvm.Cond.code x code maxLocals ret).before args0 about1 = true := code_word (m := ⟨1, 4⟩) (meth := k1m4) (c := k1c4) (by decide +kernel) rfl rfl rfl (by decide +kernel)
set_option maxRecDepth 65536 in
theorem w_c1 : (Jvm.Cond.code ({ cls := "com/example/worldsum/worldsum/VariableOrder", name := "<init>", desc := "()V" } : Jvm.MethodName) prog_14_method_1_code (1 : Nat) (Option.none : Option Jvm.ClassFile.FieldType)).before args0 about1 = true := code_word (m := ⟨2, 0⟩) (meth := k2m0) (c := k2c0) (by decide +kernel) rfl rfl rfl (by decide +kernel)
set_option maxRecDepth 65536 in
theorem w_c2 : (Jvm.Cond.code ({ cls := "java/lang/Object", name := "<init>", desc := "()V" } : Jvm.MethodName) object_method_1_code (1 : Nat) (Option.none : Option Jvm.ClassFile.FieldType)).before args0 about1 = true := code_word (m := ⟨0, 0⟩) (meth := k0m0) (c := k0c0) (by decide +kernel) rfl rfl rfl (by decide +kernel)
set_option maxRecDepth 65536 in
theorem w_c3 : (Jvm.Cond.code ({ cls := "com/example/worldsum/worldsum/VariableOrder", name := "addAbove", desc := "(I)I" } : Jvm.MethodName) prog_14_method_4_code (3 : Nat) (Option.some Jvm.ClassFile.FieldType.int)).before args0 about1 = true := code_word (m := ⟨2, 1⟩) (meth := k2m1) (c := k2c1) (by decide +kernel) rfl rfl rfl (by decide +kernel)
set_option maxRecDepth 65536 in
theorem w_c4 : (Jvm.Cond.code ({ cls := "com/example/worldsum/worldsum/VariableOrder", name := "insertAbove", desc := "(II)V" } : Jvm.MethodName) prog_14_method_10_code (6 : Nat) (Option.none : Option Jvm.ClassFile.FieldType)).before args0 about1 = true := code_word (m := ⟨2, 4⟩) (meth := k2m4) (c := k2c4) (by decide +kernel) rfl rfl rfl (by decide +kernel)
set_option maxRecDepth 65536 in
theorem w_c5 : (Jvm.Cond.code ({ cls := "com/example/worldsum/worldsum/VariableOrderIsDirectlyAbovePinLaw", name := "insert", desc := "([III)V" } : Jvm.MethodName) method_3_code (4 : Nat) (Option.none : Option Jvm.ClassFile.FieldType)).before args0 about1 = true := code_word (m := ⟨1, 2⟩) (meth := k1m2) (c := k1c2) (by decide +kernel) rfl rfl rfl (by decide +kernel)
set_option maxRecDepth 65536 in
theorem w_c6 : (Jvm.Cond.code ({ cls := "com/example/worldsum/worldsum/VariableOrderIsDirectlyAbovePinLaw", name := "bump", desc := "([IIII)V" } : Jvm.MethodName) method_2_code (4 : Nat) (Option.none : Option Jvm.ClassFile.FieldType)).before args0 about1 = true := code_word (m := ⟨1, 1⟩) (meth := k1m1) (c := k1c1) (by decide +kernel) rfl rfl rfl (by decide +kernel)
set_option maxRecDepth 65536 in
theorem w_c7 : (Jvm.Cond.code ({ cls := "com/example/worldsum/worldsum/VariableOrder", name := "moveAbove", desc := "(II)V" } : Jvm.MethodName) prog_14_method_9_code (4 : Nat) (Option.none : Option Jvm.ClassFile.FieldType)).before args0 about1 = true := code_word (m := ⟨2, 3⟩) (meth := k2m3) (c := k2c3) (by decide +kernel) rfl rfl rfl (by decide +kernel)
set_option maxRecDepth 65536 in
theorem w_c8 : (Jvm.Cond.code ({ cls := "com/example/worldsum/worldsum/VariableOrderIsDirectlyAbovePinLaw", name := "remove", desc := "([II)V" } : Jvm.MethodName) method_4_code (3 : Nat) (Option.none : Option Jvm.ClassFile.FieldType)).before args0 about1 = true := code_word (m := ⟨1, 3⟩) (meth := k1m3) (c := k1c3) (by decide +kernel) rfl rfl rfl (by decide +kernel)
set_option maxRecDepth 65536 in
theorem w_c9 : (Jvm.Cond.code ({ cls := "com/example/worldsum/worldsum/VariableOrder", name := "isDirectlyAbove", desc := "(II)Z" } : Jvm.MethodName) prog_14_method_5_code (3 : Nat) (Option.some Jvm.ClassFile.FieldType.boolean)).before args0 about1 = true := code_word (m := ⟨2, 2⟩) (meth := k2m2) (c := k2c2) (by decide +kernel) rfl rfl rfl (by decide +kernel)
def codes1 : List Jvm.Cond := [Jvm.Cond.code x code maxLocals ret, Jvm.Cond.code ({ cls := "com/example/worldsum/worldsum/VariableOrder", name := "<init>", desc := "()V" } : Jvm.MethodName) prog_14_method_1_code (1 : Nat) (Option.none : Option Jvm.ClassFile.FieldType), Jvm.Cond.code ({ cls := "java/lang/Object", name := "<init>", desc := "()V" } : Jvm.MethodName) object_method_1_code (1 : Nat) (Option.none : Option Jvm.ClassFile.FieldType), Jvm.Cond.code ({ cls := "com/example/worldsum/worldsum/VariableOrder", name := "addAbove", desc := "(I)I" } : Jvm.MethodName) prog_14_method_4_code (3 : Nat) (Option.some Jvm.ClassFile.FieldType.int), Jvm.Cond.code ({ cls := "com/example/worldsum/worldsum/VariableOrder", name := "insertAbove", desc := "(II)V" } : Jvm.MethodName) prog_14_method_10_code (6 : Nat) (Option.none : Option Jvm.ClassFile.FieldType), Jvm.Cond.code ({ cls := "com/example/worldsum/worldsum/VariableOrderIsDirectlyAbovePinLaw", name := "insert", desc := "([III)V" } : Jvm.MethodName) method_3_code (4 : Nat) (Option.none : Option Jvm.ClassFile.FieldType), Jvm.Cond.code ({ cls := "com/example/worldsum/worldsum/VariableOrderIsDirectlyAbovePinLaw", name := "bump", desc := "([IIII)V" } : Jvm.MethodName) method_2_code (4 : Nat) (Option.none : Option Jvm.ClassFile.FieldType), Jvm.Cond.code ({ cls := "com/example/worldsum/worldsum/VariableOrder", name := "moveAbove", desc := "(II)V" } : Jvm.MethodName) prog_14_method_9_code (4 : Nat) (Option.none : Option Jvm.ClassFile.FieldType), Jvm.Cond.code ({ cls := "com/example/worldsum/worldsum/VariableOrderIsDirectlyAbovePinLaw", name := "remove", desc := "([II)V" } : Jvm.MethodName) method_4_code (3 : Nat) (Option.none : Option Jvm.ClassFile.FieldType), Jvm.Cond.code ({ cls := "com/example/worldsum/worldsum/VariableOrder", name := "isDirectlyAbove", desc := "(II)Z" } : Jvm.MethodName) prog_14_method_5_code (3 : Nat) (Option.some Jvm.ClassFile.FieldType.boolean)]
set_option maxRecDepth 65536 in
theorem codes_eq : words1.filter isCode = codes1 := rfl
theorem w_codes : ∀ c ∈ words1.filter isCode, c.before args0 about1 = true := by
  rw [codes_eq]
  intro c hc
  simp only [codes1, List.mem_cons, List.not_mem_nil, or_false] at hc
  rcases hc with rfl | rfl | rfl | rfl | rfl | rfl | rfl | rfl | rfl | rfl
  · exact w_c0
  · exact w_c1
  · exact w_c2
  · exact w_c3
  · exact w_c4
  · exact w_c5
  · exact w_c6
  · exact w_c7
  · exact w_c8
  · exact w_c9
set_option maxRecDepth 65536 in
theorem w_t1 : (words1.take 24).all (fun c => isCode c || c.before args0 about1) = true := by decide +kernel
set_option maxRecDepth 65536 in
theorem w_t2 : ((words1.drop 24).take 24).all (fun c => isCode c || c.before args0 about1) = true := by decide +kernel
set_option maxRecDepth 65536 in
theorem w_t3 : ((words1.drop 24).drop 24).all (fun c => isCode c || c.before args0 about1) = true := by decide +kernel
theorem w_tables : (allAtoms (Jvm.Cond.code x code maxLocals ret :: tables_1)).before args0 about1 = true := by
  rw [allAtoms_all]
  show words1.all (fun c => c.before args0 about1) = true
  refine all_split ?_ w_codes
  rw [← List.take_append_drop 24 words1, List.all_append, w_t1, ← List.take_append_drop 24 (words1.drop 24), List.all_append, w_t2, w_t3]
  rfl
set_option maxRecDepth 65536 in
theorem w_case : (Jvm.Cond.and given_1 narrow_1).before args0 about1 = true := by decide +kernel
theorem w_applies : (headSpec (Jvm.Cond.code x code maxLocals ret :: tables_1) room_1).applies x e0.platform about1 = true :=
  (Spec.applies_iff w_frames).mpr ⟨w_running, w_runnable, w_alone, w_named, w_hears, w_ripe, w_room, w_tables⟩
theorem atStart : AtStart classFile x code maxLocals ret World_1 tables_1 room_1 Calls_1 rest_1 Pre_1 launch0 p0 e0 about1 theMethod args0 below0 :=
  ⟨lists_1, trivial, launch0.admits_env _ _ _, launch0.least_env, fairChoices_fair.cas, fairChoices_fair.clock, w_frames, w_args, w_heap, w_applies, trivial, trivial, w_case⟩
end start1
theorem witness_1 : WitnessClaimed_1 := ⟨start1.p0, start1.e0, start1.about1, start1.theMethod, start1.args0, start1.below0, start1.atStart⟩
end Jvm.Pilot.@@N@@
