import JvmDerived
import JvmDerived.Pilot.@@N@@Statement
import JvmDerived.Pilot.@@N@@Code
set_option linter.unusedVariables false
set_option linter.unusedSimpArgs false
@@BLOCK:NumsL.lean.txt@@
namespace Jvm.Pilot.@@N@@
open Jvm Jvm.ClassFile Sem Op Lib Jvm.Free Jvm.Stand Jvm.LawKit Jvm.RoadKit Bundle Jvm.Pilot.@@N@@.Jvm.D

section OwnBase
variable {p : Program} {l : Launch} {e : Env} {R : Room} {s : State} {m : MethodId} {args : Array Value} {below : List Frame} {meth : Method} {c : Code} {T T' : State} {locs : List Loc} {cells slots : Nat} {Z : State} {a0 : Array Value} {h h' : Heap} {Q Q' : Option Value → Heap → List Loc → Prop} {P : State → Outcome → Prop} {g g' : JFrame} {pc : Nat} {Ls : Array Slot} {rest : List Value} {a : Addr} {n0 : Nat}
/-- from T, the frame g on top, the body comes to its end, and the end is as P says -/
def own_Go (p : Program) (e : Env) (below : List Frame) (P : State → Outcome → Prop) (T : State) (g : JFrame) : Prop :=
  ∃ s₂ o, Steps p.tables e below (T.setTop g) s₂ ∧ s₂.status = .running ∧ Ended s₂ below o ∧ P s₂ o
/-- it returned; what it returned, the heap and the written places meet Q; no more is made than R allows -/
def own_P (s : State) (R : Room) (Q : Option Value → Heap → List Loc → Prop) (s₂ : State) (o : Outcome) : Prop := ∃ v L, o = .returned v ∧ Q v s₂.heap L ∧ FrameEnd s o s₂ L R.cells R.slots
theorem own_st (h : ∀ t, Steps p.tables e below (T'.setTop g') t → Steps p.tables e below (T.setTop g) t) (G : own_Go p e below P T' g') : own_Go p e below P T g := by
  obtain ⟨s₂, o, h1, r⟩ := G
  exact ⟨s₂, o, h _ h1, r⟩
theorem own_end (X : Stand p l e R s m args below meth c T locs cells slots) (hlk : meth.locks = false) {v : Option Value} (hv : meth.sig.returnType = none → v = none) (hc : cells ≤ R.cells) (hs : slots ≤ R.slots) (hQ : Q v T.heap locs)
    (hr : ∀ fs, (∀ (f : JFrame) (acts : List Action), f.method = m → f.locked = none → f.entered = [] → (doReturn e (T.setTop f) acts v).1 = T.setFrames fs) → Steps p.tables e below (T.setTop g) (T.setFrames fs)) : own_Go p e below (own_P s R Q) T g := by
  obtain ⟨fs, h1, hrun, hended, hW, hsame⟩ := X.leave (v := v) hv hlk
  exact ⟨_, _, hr fs h1, hrun, hended, _, _, rfl, hQ, ⟨_, rfl⟩, hW, hsame.mono hc hs⟩
/-- a method's contract: called with these arguments at the heap h0 it returns, and Q holds -/
def own_Met (l : Launch) (Z : State) (h0 : Heap) (y : MethodName) (bytes : ByteArray) (maxL : Nat) (ret : Option FieldType) (R : Room) (as : Array Value) (Q : Option Value → Heap → List Loc → Prop) : Prop :=
  ∀ ws : List Jvm.Cond, MetFree l y (head1 (Jvm.Cond.code y bytes maxL ret :: ws) R) (fun a U => a = as ∧ Z.Warmed39 U.vm ∧ U.heap = h0) (fun _ _ _ _ _ => True) (fun _ U o U' => ∃ v L, o = .returned v ∧ Q v U'.heap L ∧ FrameEnd U o U' L R.cells R.slots)
theorem own_body {h0 : Heap} {y : MethodName} {bytes : ByteArray} {maxL : Nat} {ret : Option FieldType} {as : Array Value} (hn : plainName y.cls = true) (he : ∀ m : MethodId, entryFrame m as maxL = mkF m 0 Ls [])
    (body : ∀ (p : Program) (e : Env) (s : State) (m : MethodId) (below : List Frame) (meth : Method) (c : Code) (T : State), Stand p l e R s m as below meth c T [] 0 0 → p.tables.exec = Jvm.exec → c.code = bytes → c.maxLocals = maxL → meth.sig.returnType = ret → meth.locks = false → s.vm.findClass y.cls = some m.cls → meth.name = y.name → Z.Warmed39 s.vm → T.heap = h0 → own_Go p e below (own_P s R Q) T (mkF m 0 Ls [])) :
    own_Met l Z h0 y bytes maxL ret R as Q := by
  intro ws
  refine MetFree.of_bodySF (plainFor_of_name hn) hisR ?_
  intro p e s m args below meth c s₁ Bd hml0 hP hK
  obtain ⟨rfl, hZ, hh⟩ := hP
  have e0 : s₁.heap = h0 := by rw [← hh, Bd.state]; rfl
  obtain ⟨s₂, o, h1, r⟩ := body p e s m below meth c s₁ (Stand.of_body Bd) Bd.exec Bd.bytes hml0 Bd.returns (BodyLoose.notSynchronized Bd) (findClass_of_methodNamed Bd.named) (name_of_methodNamed Bd.named Bd.method).1 hZ e0
  exact ⟨s₂, o, castTop (he m) h1, r⟩
theorem own_Met.imp {h0 : Heap} {y : MethodName} {bytes : ByteArray} {maxL : Nat} {ret : Option FieldType} {as : Array Value} (M : own_Met l Z h0 y bytes maxL ret R as Q) (hq : ∀ v h L, Q v h L → Q' v h L) : own_Met l Z h0 y bytes maxL ret R as Q' := by
  intro ws p e ha hc hk s m args below hf happ hP hK
  obtain ⟨n, o, h1, h2, h3, v, L, h4, h5, h6⟩ := M ws p e ha hc hk s m args below hf happ hP hK
  exact ⟨n, o, h1, h2, h3, v, L, h4, hq _ _ _ h5, h6⟩
/-- a static call by its contract -/
theorem own_callS (X : Stand p l e R s m args below meth c T locs cells slots) (hx : p.tables.exec = Jvm.exec) (hZ : Z.Warmed39 s.vm) (e0 : T.heap = h) {own : String} {index : Nat} {y : MethodName} {bytes : ByteArray} {maxL : Nat} {ret : Option FieldType} {rm : Room}
    (hown : s.vm.findClass own = some m.cls) (w1 : (Jvm.Cond.methodLink own index y).before a0 Z = true) (w2 : (Jvm.Cond.static y).before a0 Z = true) (w3 : (Jvm.Cond.initialized y.cls).before a0 Z = true) (w4 : (Jvm.Cond.code y bytes maxL ret).before a0 Z = true)
    (hy : y.cls ≠ "java/lang/invoke/MethodHandle" ∧ y.cls ≠ "java/lang/invoke/VarHandle") {ps : List FieldType} {r : Option FieldType} (hd : parseMethodDescriptor y.desc = some ⟨ps, r⟩)
    {argsL : List Value} (hn : argsL.length = ps.length) (M : own_Met l Z h y bytes maxL ret rm argsL.toArray Q') (W : Nat) (hf : rm.frames + 1 ≤ R.frames) (hl : W + (maxL + 11) + rm.locals ≤ R.locals) (hc : cells + rm.cells ≤ R.cells) (hs : slots + rm.slots ≤ R.slots)
    {st : List Value} (hst : st = argsL.reverse ++ rest) (hsz : Ls.size = c.maxLocals) (hW : (rest.map fun v => v.category).sum ≤ W) (hdg : decode c.code pc = .ok (.invokestatic index, 3))
    (k : ∀ (v : Option Value) (T' : State) (L : List Loc), Q' v T'.heap L → Stand p l e R s m args below meth c T' (locs ++ L) (cells + rm.cells) (slots + rm.slots) → own_Go p e below P T' (mkF m (pc + 3) Ls (v.toList ++ rest))) :
    own_Go p e below P T (mkF m pc Ls st) := by
  subst hst
  obtain ⟨v, _, ⟨T', L', k', n'⟩, -, X', ⟨L, hQ, l1, l2, l3⟩, st⟩ := Jvm.LawKit.callS X hx (y := y) hown (mvT hZ w1) (mvT hZ w2) (mvT hZ w3) (mvT hZ w4) hy (backOf (W := W) (M []) hZ w4 w3 hf hl) (g := mkF m pc Ls (argsL.reverse ++ rest)) rfl hsz (argsL := argsL) (rest := rest) (lenOf hd hn) rfl (by show 2 * 0 + _ ≤ _; omega) hdg (fun _ _ => ⟨rfl, e0, hc, hs⟩)
  dsimp only [Pt.U, Pt.locs, Pt.cells, Pt.slots] at X' l1 l2 l3 st hQ
  subst l1 l2 l3
  exact own_st st (k v T' L hQ X')
/-- a constructor by its contract -/
theorem own_callN (X : Stand p l e R s m args below meth c T locs cells slots) (hx : p.tables.exec = Jvm.exec) (hZ : Z.Warmed39 s.vm) (e0 : T.heap = h) {own : String} {index : Nat} {y : MethodName} {bytes : ByteArray} {maxL : Nat} {rm : Room} (hy1 : y.name = "<init>")
    (hown : s.vm.findClass own = some m.cls) (w1 : (Jvm.Cond.methodLink own index y).before a0 Z = true) (w2 : (Jvm.Cond.instanceMethod y).before a0 Z = true) (w3 : (Jvm.Cond.initialized y.cls).before a0 Z = true) (w4 : (Jvm.Cond.code y bytes maxL none).before a0 Z = true)
    (hy : y.cls ≠ "java/lang/invoke/MethodHandle" ∧ y.cls ≠ "java/lang/invoke/VarHandle") {ps : List FieldType} {r : Option FieldType} (hd : parseMethodDescriptor y.desc = some ⟨ps, r⟩)
    {argsL : List Value} (hn : argsL.length = ps.length) (M : own_Met l Z h y bytes maxL none rm (.ref a :: argsL).toArray Q') (W : Nat) (hf : rm.frames + 1 ≤ R.frames) (hl : W + (maxL + 11) + rm.locals ≤ R.locals) (hc : cells + rm.cells ≤ R.cells) (hs : slots + rm.slots ≤ R.slots)
    {st : List Value} (hst : st = argsL.reverse ++ .ref a :: rest) (hsz : Ls.size = c.maxLocals) (hW : (rest.map fun v => v.category).sum ≤ W) (hdg : decode c.code pc = .ok (.invokespecial index, 3))
    (k : ∀ (v : Option Value) (T' : State) (L : List Loc), Q' v T'.heap L → Stand p l e R s m args below meth c T' (locs ++ L) (cells + rm.cells) (slots + rm.slots) → own_Go p e below P T' (mkF m (pc + 3) Ls (v.toList ++ rest))) :
    own_Go p e below P T (mkF m pc Ls st) := by
  subst hst
  obtain ⟨v, _, ⟨T', L', k', n'⟩, -, X', ⟨L, hQ, l1, l2, l3⟩, st⟩ := X.specialBack hx (y := y) hy1 hown (mvT hZ w1) (mvT hZ w2) (mvT hZ w4) hy (backOf (W := W) (M []) hZ w4 w3 hf hl) (g := mkF m pc Ls (argsL.reverse ++ .ref a :: rest)) rfl hsz (Steps.refl _) (a := a) (argsL := argsL) (rest := rest) (lenOf hd hn) rfl (by show 2 * 0 + _ ≤ _; omega) hdg (fun _ _ => ⟨rfl, e0, hc, hs⟩)
  dsimp only [Pt.U, Pt.locs, Pt.cells, Pt.slots] at X' l1 l2 l3 st hQ
  subst l1 l2 l3
  exact own_st (fun t q => st.trans q) (k v T' L hQ X')
/-- an instance method by its contract -/
theorem own_callV (X : Stand p l e R s m args below meth c T locs cells slots) (hx : p.tables.exec = Jvm.exec) (hZ : Z.Warmed39 s.vm) (e0 : T.heap = h) {own C : String} {index : Nat} {y z : MethodName} {bytes : ByteArray} {maxL : Nat} {ret : Option FieldType} {rm : Room}
    (hown : s.vm.findClass own = some m.cls) (w1 : (Jvm.Cond.methodLink own index y).before a0 Z = true) (w2 : (Jvm.Cond.declares y).before a0 Z = true) (w5 : (Jvm.Cond.selects y.cls y y).before a0 Z = true) (w6 : (Jvm.Cond.selects C y z).before a0 Z = true) (w7 : (Jvm.Cond.instanceMethod z).before a0 Z = true) (w3 : (Jvm.Cond.initialized z.cls).before a0 Z = true) (w4 : (Jvm.Cond.code z bytes maxL ret).before a0 Z = true)
    (hy : y.cls ≠ "java/lang/invoke/MethodHandle" ∧ y.cls ≠ "java/lang/invoke/VarHandle") {ps : List FieldType} {r : Option FieldType} (hd : parseMethodDescriptor y.desc = some ⟨ps, r⟩) (E : Exa Z h a C)
    {argsL : List Value} (hn : argsL.length = ps.length) (M : own_Met l Z h z bytes maxL ret rm (.ref a :: argsL).toArray Q') (W : Nat) (hf : rm.frames + 1 ≤ R.frames) (hl : W + (maxL + 11) + rm.locals ≤ R.locals) (hc : cells + rm.cells ≤ R.cells) (hs : slots + rm.slots ≤ R.slots)
    {st : List Value} (hst : st = argsL.reverse ++ .ref a :: rest) (hsz : Ls.size = c.maxLocals) (hW : (rest.map fun v => v.category).sum ≤ W) (hdg : decode c.code pc = .ok (.invokevirtual index, 3))
    (k : ∀ (v : Option Value) (T' : State) (L : List Loc), Q' v T'.heap L → Stand p l e R s m args below meth c T' (locs ++ L) (cells + rm.cells) (slots + rm.slots) → own_Go p e below P T' (mkF m (pc + 3) Ls (v.toList ++ rest))) :
    own_Go p e below P T (mkF m pc Ls st) := by
  subst hst
  obtain ⟨cq, kq, qa, qb, qc⟩ := isOf hZ e0 E
  obtain ⟨v, _, ⟨T', L', k', n'⟩, -, X', ⟨L, hQ, l1, l2, l3⟩, st⟩ := X.virtualBack hx (y := y) (z := z) hown (mvT hZ w1) (mvT hZ w2) (notFace_of_selects (args := #[]) (mvT hZ w5)) (mvT hZ w6) (mvT hZ w7) hy (backOf (W := W) (M []) hZ w4 w3 hf hl) qa qc (g := mkF m pc Ls (argsL.reverse ++ .ref a :: rest)) rfl hsz (Steps.refl _) (argsL := argsL) (rest := rest) (lenOf hd hn) rfl (by show 2 * 0 + _ ≤ _; omega) hdg (fun _ _ => ⟨rfl, e0, hc, hs⟩)
  dsimp only [Pt.U, Pt.locs, Pt.cells, Pt.slots] at X' l1 l2 l3 st hQ
  subst l1 l2 l3
  exact own_st (fun t q => st.trans q) (k v T' L hQ X')
/-- a private instance method by its contract (no 'selects' word is laid for it) -/
theorem own_callP (X : Stand p l e R s m args below meth c T locs cells slots) (hx : p.tables.exec = Jvm.exec) (hZ : Z.Warmed39 s.vm) (e0 : T.heap = h) {own C : String} {index kk : Nat} {y : MethodName} {bytes : ByteArray} {maxL : Nat} {ret : Option FieldType} {rm : Room}
    (hown : s.vm.findClass own = some m.cls) (w1 : (Jvm.Cond.methodLink own index y).before a0 Z = true) (w2 : (Jvm.Cond.instanceMethod y).before a0 Z = true) (wp : (Jvm.Cond.privateMethod y).before a0 Z = true) (wi : (Jvm.Cond.instantiable y.cls kk).before a0 Z = true) (w3 : (Jvm.Cond.initialized y.cls).before a0 Z = true) (w4 : (Jvm.Cond.code y bytes maxL ret).before a0 Z = true)
    (hy : y.cls ≠ "java/lang/invoke/MethodHandle" ∧ y.cls ≠ "java/lang/invoke/VarHandle") {ps : List FieldType} {r : Option FieldType} (hd : parseMethodDescriptor y.desc = some ⟨ps, r⟩) (E : Exa Z h a C)
    {argsL : List Value} (hn : argsL.length = ps.length) (M : own_Met l Z h y bytes maxL ret rm (.ref a :: argsL).toArray Q') (W : Nat) (hf : rm.frames + 1 ≤ R.frames) (hl : W + (maxL + 11) + rm.locals ≤ R.locals) (hc : cells + rm.cells ≤ R.cells) (hs : slots + rm.slots ≤ R.slots)
    {st : List Value} (hst : st = argsL.reverse ++ .ref a :: rest) (hsz : Ls.size = c.maxLocals) (hW : (rest.map fun v => v.category).sum ≤ W) (hdg : decode c.code pc = .ok (.invokevirtual index, 3))
    (k : ∀ (v : Option Value) (T' : State) (L : List Loc), Q' v T'.heap L → Stand p l e R s m args below meth c T' (locs ++ L) (cells + rm.cells) (slots + rm.slots) → own_Go p e below P T' (mkF m (pc + 3) Ls (v.toList ++ rest))) :
    own_Go p e below P T (mkF m pc Ls st) := by
  subst hst
  obtain ⟨cq, q1, q2⟩ := E.cell
  have hP : s.PrivateAt y := Cond.privateMethod_at (mvP hZ wp (args := #[]))
  obtain ⟨c2, k2, i1, i2, -, i4, -⟩ := Cond.instantiable_spec (mvT (args := #[]) hZ wi)
  have hni : k2.isInterface = false := by
    cases hb : k2.isInterface with
    | false => rfl
    | true => rw [hb] at i4; cases i4
  have hsel : (Jvm.Cond.selects y.cls y y).before args s = true := selects_self_of_private i1 i2 hni hP (mvT hZ w2) hy
  obtain ⟨v, _, ⟨T', L', k', n'⟩, -, X', ⟨L, hQ, l1, l2, l3⟩, st⟩ := X.privateBack hx (y := y) hown (mvT hZ w1) (mvT hZ w2) hsel hP (mvT hZ w4) hy (backOf (W := W) (M []) hZ w4 w3 hf hl) (g := mkF m pc Ls (argsL.reverse ++ .ref a :: rest)) rfl hsz (Steps.refl _) (a := a) (by rw [e0]; exact q1) q2 (argsL := argsL) (rest := rest) (lenOf hd hn) rfl (by show 2 * 0 + _ ≤ _; omega) hdg (fun _ _ => ⟨rfl, e0, hc, hs⟩)
  dsimp only [Pt.U, Pt.locs, Pt.cells, Pt.slots] at X' l1 l2 l3 st hQ
  subst l1 l2 l3
  exact own_st (fun t q => st.trans q) (k v T' L hQ X')
/-- Object's constructor -/
theorem own_initO (X : Stand p l e R s m args below meth c T locs cells slots) (hx : p.tables.exec = Jvm.exec) (hZ : Z.Warmed39 s.vm) (e0 : T.heap = h) {own : String} {idx : Nat} (hown : s.vm.findClass own = some m.cls) (w1 : (Jvm.Cond.methodLink own idx Lib.objectInit).before a0 Z = true) (w2 : (Jvm.Cond.instanceMethod Lib.objectInit).before a0 Z = true)
    (w3 : (Jvm.Cond.code Lib.objectInit ⟨#[0xb1]⟩ 1 none).before a0 Z = true) (hsz : Ls.size = c.maxLocals) (hd : decode c.code pc = .ok (.invokespecial idx, 3)) (hf : 1 ≤ R.frames) (W : Nat) (hW : (rest.map fun v => v.category).sum ≤ W) (hl : W + 12 ≤ R.locals)
    (k : ∀ T' : State, Stand p l e R s m args below meth c T' locs cells slots → T'.heap = h → own_Go p e below P T' (mkF m (pc + 3) Ls rest)) : own_Go p e below P T (mkF m pc Ls (.ref a :: rest)) := by
  obtain ⟨T', X', e', st⟩ := initO X hx hZ hown w1 w2 w3 e0 (g := mkF m pc Ls (.ref a :: rest)) rfl hsz rfl hd hf (W := W) (by show 2 * 0 + _ ≤ _; omega) hl
  exact own_st st (k T' X' e')
theorem own_getF (X : Stand p l e R s m args below meth c T locs cells slots) (hx : p.tables.exec = Jvm.exec) (hZ : Z.Warmed39 s.vm) (e0 : T.heap = h) {own C n d : String} {index : Nat} (hown : s.vm.findClass own = some m.cls) (w : (Jvm.Cond.fieldLink own index C n d).before a0 Z = true)
    {v : Value} (F : Fld Z h a C n d v) (hd : decode c.code pc = .ok (.getfield index, 3))
    (k : ∀ T' : State, Stand p l e R s m args below meth c T' locs cells slots → T'.heap = h → own_Go p e below P T' (mkF m (pc + 3) Ls (v :: rest))) : own_Go p e below P T (mkF m pc Ls (.ref a :: rest)) := by
  obtain ⟨T', X', e', st⟩ := getF X hx hZ hown (host := "") (Or.inl w) Via.refl e0 F (g := mkF m pc Ls (.ref a :: rest)) rfl rfl hd
  exact own_st st (k T' X' e')
theorem own_putF (X : Stand p l e R s m args below meth c T locs cells slots) (hx : p.tables.exec = Jvm.exec) (hZ : Z.Warmed39 s.vm) (e0 : T.heap = h) {own C O n d : String} {index kk : Nat} {ty : FieldType} (hown : s.vm.findClass own = some m.cls) (w : (Jvm.Cond.fieldLink own index O n d).before a0 Z = true)
    {v old : Value} (F : Fld Z h a O n d old) (E : Exa Z h a C) (L : (Jvm.Cond.lays C O n d).before a0 Z = true ∨ ((Jvm.Cond.laysFinal C O n d).before a0 Z = true ∧ own = O ∧ meth.name = "<init>")) (wi : (Jvm.Cond.instantiable C kk).before a0 Z = true)
    (hty : parseFieldDescriptor d = some ty) (hn : narrow ty v = v) (hf : fits ty v = true) (N : Fr n0 locs) (ga : n0 ≤ a) (hd : decode c.code pc = .ok (.putfield index, 3))
    (k : ∀ (T' : State) (h' : Heap), Stand p l e R s m args below meth c T' (locs ++ [⟨a, Jvm.RoadKit.slotOf Z O n d⟩]) cells slots → T'.heap = h' → Wr h h' a (Jvm.RoadKit.slotOf Z O n d) v → Fr n0 (locs ++ [⟨a, Jvm.RoadKit.slotOf Z O n d⟩]) → own_Go p e below P T' (mkF m (pc + 3) Ls rest)) :
    own_Go p e below P T (mkF m pc Ls (v :: .ref a :: rest)) := by
  obtain ⟨T', h', X', e', W', st⟩ := putF X hx hZ hown (host := "") (Or.inl w) Via.refl e0 F E L wi hty hn hf (g := mkF m pc Ls (v :: .ref a :: rest)) rfl rfl hd
  exact own_st st (k T' h' X' e' W' (Fr.snoc X' N ga))
theorem own_new (X : Stand p l e R s m args below meth c T locs cells slots) (hx : p.tables.exec = Jvm.exec) (hZ : Z.Warmed39 s.vm) (e0 : T.heap = h) {own C : String} {index n : Nat} (hown : s.vm.findClass own = some m.cls) (w : (Jvm.Cond.classLink own index C).before a0 Z = true) (wi : (Jvm.Cond.instantiable C n).before a0 Z = true) (wz : (Jvm.Cond.initialized C).before a0 Z = true)
    (hd : decode c.code pc = .ok (.new index, 3)) (hc : cells + 1 ≤ R.cells) (hl : slots + n ≤ R.slots)
    (k : ∀ (T' : State) (h' : Heap) (a : Addr), Stand p l e R s m args below meth c T' locs (cells + 1) (slots + n) → T'.heap = h' → Ext h h' → h.size = a → Exa Z h' a C → (∀ {O nm d : String} {ty : FieldType}, Laid Z a0 C O nm d → parseFieldDescriptor d = some ty → Fld Z h' a O nm d (defaultValue ty)) → own_Go p e below P T' (mkF m (pc + 3) Ls (.ref a :: rest))) :
    own_Go p e below P T (mkF m pc Ls rest) := by
  obtain ⟨T', h', X', e', E', A', D', -, st⟩ := newO X hx hZ hown w wi wz e0 (g := mkF m pc Ls rest) rfl hd hc hl
  exact own_st st (k T' h' h.size X' e' E' rfl A' D')
theorem own_inst (X : Stand p l e R s m args below meth c T locs cells slots) (hx : p.tables.exec = Jvm.exec) (hZ : Z.Warmed39 s.vm) (e0 : T.heap = h) {own K : String} {index : Nat} (hown : s.vm.findClass own = some m.cls) (w : (Jvm.Cond.classLink own index K).before a0 Z = true) (F : Ins Z h a K true) (hd : decode c.code pc = .ok (.instanceof index, 3))
    (k : ∀ T' : State, Stand p l e R s m args below meth c T' locs cells slots → T'.heap = h → own_Go p e below P T' (mkF m (pc + 3) Ls (.int 1 :: rest))) : own_Go p e below P T (mkF m pc Ls (.ref a :: rest)) := by
  obtain ⟨T', X', e', st⟩ := instY X hx hZ hown w e0 F (g := mkF m pc Ls (.ref a :: rest)) rfl rfl hd
  exact own_st st (k T' X' e')
theorem own_cast (X : Stand p l e R s m args below meth c T locs cells slots) (hx : p.tables.exec = Jvm.exec) (hZ : Z.Warmed39 s.vm) (e0 : T.heap = h) {own K : String} {index : Nat} (hown : s.vm.findClass own = some m.cls) (w : (Jvm.Cond.classLink own index K).before a0 Z = true) (F : Ins Z h a K true) (hd : decode c.code pc = .ok (.checkcast index, 3))
    (k : ∀ T' : State, Stand p l e R s m args below meth c T' locs cells slots → T'.heap = h → own_Go p e below P T' (mkF m (pc + 3) Ls (.ref a :: rest))) : own_Go p e below P T (mkF m pc Ls (.ref a :: rest)) := by
  obtain ⟨T', X', e', st⟩ := castY X hx hZ hown w e0 F (g := mkF m pc Ls (.ref a :: rest)) rfl rfl hd
  exact own_st st (k T' X' e')
/-- an array of n places; place j holds f j -/
def own_A (Z : State) (h : Heap) (a : Addr) (ty : FieldType) (n : Nat) (f : Nat → Value) : Prop := ∃ c : Cell, Arr Z h a c ty ∧ c.slots.size = n ∧ ∀ j, j < n → c.slots[j]? = some (f j)
def own_upd {α : Type} (f : Nat → α) (i : Nat) (x : α) : Nat → α := fun j => if j = i then x else f j
/-- the int j names the place i of n -/
abbrev own_ix (j : Int32) (i n : Nat) : Prop := ¬ j < 0 ∧ j.toNatClampNeg = i ∧ i < n
variable {ty : FieldType} {n : Nat} {f : Nat → Value} {ws : List Addr}
theorem own_A.lt (A : own_A Z h a ty n f) : a < h.size := by obtain ⟨c, A, -⟩ := A; exact A.lt
theorem own_A.ext (A : own_A Z h a ty n f) (E : Ext h h') : own_A Z h' a ty n f := by obtain ⟨c, A, r⟩ := A; exact ⟨c, A.ext E, r⟩
theorem own_A.keep (A : own_A Z h a ty n f) (K : Keep h h' ws) (q : a ∉ ws) : own_A Z h' a ty n f := by obtain ⟨c, A, r⟩ := A; exact ⟨c, ⟨K.2.1 a c A.1 q, A.2⟩, r⟩
theorem own_A.congr {f' : Nat → Value} (A : own_A Z h a ty n f) (q : ∀ j, j < n → f j = f' j) : own_A Z h a ty n f' := by obtain ⟨c, A, r, k⟩ := A; exact ⟨c, A, r, fun j hj => by rw [← q j hj]; exact k j hj⟩
theorem own_A.set {i : Nat} {v : Value} (A : own_A Z h a ty n f) (W : Wr h h' a i v) : own_A Z h' a ty n (own_upd f i v) := by
  obtain ⟨c, A, S, H⟩ := A
  refine ⟨_, A.same W, by rw [sz_set]; exact S, fun j hj => ?_⟩
  by_cases q : j = i
  · subst q
    have : j < c.slots.size := by rw [S]; exact hj
    simp [Cell.setSlot, own_upd, this]
  · have q' : i ≠ j := fun z => q z.symm
    simp only [Cell.setSlot, own_upd, if_neg q]
    rw [Array.getElem?_setIfInBounds_ne q']
    exact H j hj
theorem own_ix.inb {j : Int32} {i : Nat} {cl : Cell} (x : own_ix j i n) (S : cl.slots.size = n) : ¬ (j < 0 ∨ cl.slots.size ≤ j.toNatClampNeg) := by
  obtain ⟨x1, x2, x3⟩ := x
  rw [S, x2]
  exact fun q => q.elim x1 (fun q => absurd q (Nat.not_le.mpr x3))
theorem own_alen (X : Stand p l e R s m args below meth c T locs cells slots) (hx : p.tables.exec = Jvm.exec) (hZ : Z.Warmed39 s.vm) (e0 : T.heap = h) (A : own_A Z h a ty n f) {z : Int32} (hz : n.toInt32 = z) (hd : decode c.code pc = .ok (.arraylength, 1))
    (k : own_Go p e below P T (mkF m (pc + 1) Ls (.int z :: rest))) : own_Go p e below P T (mkF m pc Ls (.ref a :: rest)) := by
  obtain ⟨cl, A, S, H⟩ := A
  subst S hz
  exact own_st (fun t q => X.arraylength hx (cell := cl) (by rw [e0]; exact A.1) (State.isArrayOf_alike hZ.alike A.2.1) (g := mkF m pc Ls (.ref a :: rest)) rfl rfl hd t q) k
abbrev own_IA (Z : State) (h : Heap) (a : Addr) (n : Nat) (g : Nat → Int32) : Prop := own_A Z h a .int n (fun j => .int (g j))
abbrev own_BA (Z : State) (h : Heap) (a : Addr) (n : Nat) (g : Nat → Int32) : Prop := own_A Z h a .byte n (fun j => .int (g j))
abbrev own_JA (Z : State) (h : Heap) (a : Addr) (n : Nat) (g : Nat → Int64) : Prop := own_A Z h a .long n (fun j => .long (g j))
theorem own_updI (g : Nat → Int32) (i : Nat) (x : Int32) : own_upd (fun j => Value.int (g j)) i (.int x) = fun j => Value.int (own_upd g i x j) := funext fun j => by unfold own_upd; split <;> rfl
theorem own_updJ (g : Nat → Int64) (i : Nat) (x : Int64) : own_upd (fun j => Value.long (g j)) i (.long x) = fun j => Value.long (own_upd g i x j) := funext fun j => by unfold own_upd; split <;> rfl
theorem own_ldI (X : Stand p l e R s m args below meth c T locs cells slots) (hx : p.tables.exec = Jvm.exec) (hZ : Z.Warmed39 s.vm) (e0 : T.heap = h) {g : Nat → Int32} (A : own_IA Z h a n g) {j : Int32} {i : Nat} (ix : own_ix j i n) {x : Int32} (hv : g i = x) (hd : decode c.code pc = .ok (.iaload, 1))
    (k : own_Go p e below P T (mkF m (pc + 1) Ls (.int x :: rest))) : own_Go p e below P T (mkF m pc Ls (.int j :: .ref a :: rest)) := by
  obtain ⟨cl, A, S, H⟩ := A
  subst hv
  exact own_st (fun t q => X.iaload hx (j := j) (v := .int (g i)) (by rw [e0]; exact A.1) (State.isArrayOf_alike hZ.alike A.2.1) A.2.2 (ix.inb S) (by rw [ix.2.1]; exact H i ix.2.2) (g := mkF m pc Ls (.int j :: .ref a :: rest)) rfl rfl hd t q) k
theorem own_ldB (X : Stand p l e R s m args below meth c T locs cells slots) (hx : p.tables.exec = Jvm.exec) (hZ : Z.Warmed39 s.vm) (e0 : T.heap = h) {g : Nat → Int32} (A : own_BA Z h a n g) {j : Int32} {i : Nat} (ix : own_ix j i n) {x : Int32} (hv : g i = x) (hd : decode c.code pc = .ok (.baload, 1))
    (k : own_Go p e below P T (mkF m (pc + 1) Ls (.int x :: rest))) : own_Go p e below P T (mkF m pc Ls (.int j :: .ref a :: rest)) := by
  obtain ⟨cl, A, S, H⟩ := A
  subst hv
  exact own_st (fun t q => X.baloadBytes hx (j := j) (v := .int (g i)) (by rw [e0]; exact A.1) (State.isArrayOf_alike hZ.alike A.2.1) A.2.2 (ix.inb S) (by rw [ix.2.1]; exact H i ix.2.2) (g := mkF m pc Ls (.int j :: .ref a :: rest)) rfl rfl hd t q) k
theorem own_ldJ (X : Stand p l e R s m args below meth c T locs cells slots) (hx : p.tables.exec = Jvm.exec) (hZ : Z.Warmed39 s.vm) (e0 : T.heap = h) {g : Nat → Int64} (A : own_JA Z h a n g) {j : Int32} {i : Nat} (ix : own_ix j i n) {x : Int64} (hv : g i = x) (hd : decode c.code pc = .ok (.laload, 1))
    (k : own_Go p e below P T (mkF m (pc + 1) Ls (.long x :: rest))) : own_Go p e below P T (mkF m pc Ls (.int j :: .ref a :: rest)) := by
  obtain ⟨cl, A, S, H⟩ := A
  subst hv
  exact own_st (fun t q => X.laload hx (j := j) (v := .long (g i)) (by rw [e0]; exact A.1) (State.isArrayOf_alike hZ.alike A.2.1) A.2.2 (ix.inb S) (by rw [ix.2.1]; exact H i ix.2.2) (g := mkF m pc Ls (.int j :: .ref a :: rest)) rfl rfl hd t q) k
theorem own_stI (X : Stand p l e R s m args below meth c T locs cells slots) (hx : p.tables.exec = Jvm.exec) (hZ : Z.Warmed39 s.vm) (e0 : T.heap = h) {g : Nat → Int32} (A : own_IA Z h a n g) {j : Int32} {x : Int32} {i : Nat} (ix : own_ix j i n) (N : Fr n0 locs) (ga : n0 ≤ a) (hd : decode c.code pc = .ok (.iastore, 1))
    (k : ∀ (T' : State) (h' : Heap), Stand p l e R s m args below meth c T' (locs ++ [⟨a, j.toNatClampNeg⟩]) cells slots → T'.heap = h' → own_IA Z h' a n (own_upd g i x) → Keep h h' [a] → Fr n0 (locs ++ [⟨a, j.toNatClampNeg⟩]) → own_Go p e below P T' (mkF m (pc + 1) Ls rest)) :
    own_Go p e below P T (mkF m pc Ls (.int x :: .int j :: .ref a :: rest)) := by
  obtain ⟨cl, A1, S, H⟩ := A
  obtain ⟨T', h', X', e', W', st⟩ := stI X hx hZ e0 A1 (j := j) (x := x) (ix.inb S) (g := mkF m pc Ls (.int x :: .int j :: .ref a :: rest)) rfl rfl hd
  have V := own_A.set ⟨cl, A1, S, H⟩ W'
  rw [ix.2.1] at V
  have V' : own_IA Z h' a n (own_upd g i x) := by rw [own_IA, ← own_updI]; exact V
  exact own_st st (k T' h' X' e' V' (Keep.of_wr W') (Fr.snoc X' N ga))
theorem own_stB (X : Stand p l e R s m args below meth c T locs cells slots) (hx : p.tables.exec = Jvm.exec) (hZ : Z.Warmed39 s.vm) (e0 : T.heap = h) {g : Nat → Int32} (A : own_BA Z h a n g) {j : Int32} {x : Int32} {i : Nat} (ix : own_ix j i n) (N : Fr n0 locs) (ga : n0 ≤ a) (hd : decode c.code pc = .ok (.bastore, 1))
    (k : ∀ (T' : State) (h' : Heap), Stand p l e R s m args below meth c T' (locs ++ [⟨a, j.toNatClampNeg⟩]) cells slots → T'.heap = h' → own_BA Z h' a n (own_upd g i x.toInt8.toInt32) → Keep h h' [a] → Fr n0 (locs ++ [⟨a, j.toNatClampNeg⟩]) → own_Go p e below P T' (mkF m (pc + 1) Ls rest)) :
    own_Go p e below P T (mkF m pc Ls (.int x :: .int j :: .ref a :: rest)) := by
  obtain ⟨cl, A1, S, H⟩ := A
  obtain ⟨T', h', X', e', W', st⟩ := stB X hx hZ e0 A1 (j := j) (x := x) (ix.inb S) (g := mkF m pc Ls (.int x :: .int j :: .ref a :: rest)) rfl rfl hd
  have V := own_A.set ⟨cl, A1, S, H⟩ W'
  rw [ix.2.1] at V
  have V' : own_BA Z h' a n (own_upd g i x.toInt8.toInt32) := by rw [own_BA, ← own_updI]; exact V
  exact own_st st (k T' h' X' e' V' (Keep.of_wr W') (Fr.snoc X' N ga))
theorem own_stJ (X : Stand p l e R s m args below meth c T locs cells slots) (hx : p.tables.exec = Jvm.exec) (hZ : Z.Warmed39 s.vm) (e0 : T.heap = h) {g : Nat → Int64} (A : own_JA Z h a n g) {j : Int32} {x : Int64} {i : Nat} (ix : own_ix j i n) (N : Fr n0 locs) (ga : n0 ≤ a) (hd : decode c.code pc = .ok (.lastore, 1))
    (k : ∀ (T' : State) (h' : Heap), Stand p l e R s m args below meth c T' (locs ++ [⟨a, j.toNatClampNeg⟩]) cells slots → T'.heap = h' → own_JA Z h' a n (own_upd g i x) → Keep h h' [a] → Fr n0 (locs ++ [⟨a, j.toNatClampNeg⟩]) → own_Go p e below P T' (mkF m (pc + 1) Ls rest)) :
    own_Go p e below P T (mkF m pc Ls (.long x :: .int j :: .ref a :: rest)) := by
  obtain ⟨cl, A1, S, H⟩ := A
  obtain ⟨T', h', X', e', W', st⟩ := stJ X hx hZ e0 A1 (j := j) (x := x) (ix.inb S) (g := mkF m pc Ls (.long x :: .int j :: .ref a :: rest)) rfl rfl hd
  have V := own_A.set ⟨cl, A1, S, H⟩ W'
  rw [ix.2.1] at V
  have V' : own_JA Z h' a n (own_upd g i x) := by rw [own_JA, ← own_updJ]; exact V
  exact own_st st (k T' h' X' e' V' (Keep.of_wr W') (Fr.snoc X' N ga))
theorem own_newP (X : Stand p l e R s m args below meth c T locs cells slots) (hx : p.tables.exec = Jvm.exec) (hZ : Z.Warmed39 s.vm) (e0 : T.heap = h) {aty : ArrayType} (w : (Jvm.Cond.arrayClass (newarray.typeOf aty)).before a0 Z = true) (hd : decode c.code pc = .ok (.newarray aty, 2)) {z : Int32} (hz0 : ¬ z < 0) (n : Nat) (hz : z.toNatClampNeg = n) (hb : n * 8 ≤ 536870912) (hc : cells + 1 ≤ R.cells) (hl : slots + n ≤ R.slots)
    (k : ∀ (T' : State) (h' : Heap) (a : Addr), Stand p l e R s m args below meth c T' locs (cells + 1) (slots + n) → T'.heap = h' → Ext h h' → h.size = a → own_A Z h' a (newarray.typeOf aty) n (fun _ => defaultValue (newarray.typeOf aty)) → own_Go p e below P T' (mkF m (pc + 2) Ls (.ref a :: rest))) :
    own_Go p e below P T (mkF m pc Ls (.int z :: rest)) := by
  obtain ⟨T', h', cA, X', e', E', A', st⟩ := newP X hx hZ w e0 (g := mkF m pc Ls (.int z :: rest)) rfl hd rfl hz0 (cap := n) (Nat.le_of_eq hz) hb hc hl
  refine own_st st (k T' h' h.size X' e' E' rfl ⟨_, A', by rw [sz_new]; exact hz, fun j hj => ?_⟩)
  simp [newA, hz, hj]
theorem own_retI (X : Stand p l e R s m args below meth c T locs cells slots) (hx : p.tables.exec = Jvm.exec) (hlk : meth.locks = false) (hret : meth.sig.returnType = some .int) (hc : cells ≤ R.cells) (hs : slots ≤ R.slots) {z : Int32} (hd : decode c.code pc = .ok (.ireturn, 1)) (hQ : Q (some (.int z)) T.heap locs) : own_Go p e below (own_P s R Q) T (mkF m pc Ls (.int z :: rest)) :=
  own_end X hlk (fun q => by rw [hret] at q; cases q) hc hs hQ (fun fs hr => retOut X hx hret rfl (Or.inl ⟨rfl, Or.inl rfl, z, rfl⟩) hd hr)
theorem own_retZ (X : Stand p l e R s m args below meth c T locs cells slots) (hx : p.tables.exec = Jvm.exec) (hlk : meth.locks = false) (hret : meth.sig.returnType = some .boolean) (hc : cells ≤ R.cells) (hs : slots ≤ R.slots) {z : Int32} (hz : z = 1 ∨ z = 0) (hd : decode c.code pc = .ok (.ireturn, 1)) (hQ : Q (some (.int z)) T.heap locs) : own_Go p e below (own_P s R Q) T (mkF m pc Ls (.int z :: rest)) :=
  own_end X hlk (fun q => by rw [hret] at q; cases q) hc hs hQ (fun fs hr => retOut X hx hret (by rcases hz with rfl | rfl <;> rfl) (Or.inl ⟨rfl, Or.inr (Or.inl rfl), z, rfl⟩) hd hr)
theorem own_retJ (X : Stand p l e R s m args below meth c T locs cells slots) (hx : p.tables.exec = Jvm.exec) (hlk : meth.locks = false) (hret : meth.sig.returnType = some .long) (hc : cells ≤ R.cells) (hs : slots ≤ R.slots) {z : Int64} (hd : decode c.code pc = .ok (.lreturn, 1)) (hQ : Q (some (.long z)) T.heap locs) : own_Go p e below (own_P s R Q) T (mkF m pc Ls (.long z :: rest)) :=
  own_end X hlk (fun q => by rw [hret] at q; cases q) hc hs hQ (fun fs hr => retOut X hx hret rfl (Or.inr (Or.inl ⟨rfl, rfl, z, rfl⟩)) hd hr)
theorem own_retV (X : Stand p l e R s m args below meth c T locs cells slots) (hx : p.tables.exec = Jvm.exec) (hlk : meth.locks = false) (hret : meth.sig.returnType = none) (hc : cells ≤ R.cells) (hs : slots ≤ R.slots) (hd : decode c.code pc = .ok (.return_, 1)) (hQ : Q none T.heap locs) : own_Go p e below (own_P s R Q) T (mkF m pc Ls []) :=
  own_end X hlk (fun _ => rfl) hc hs hQ (fun fs hr => X.returnOut hx hret hd hr)
end OwnBase

section OwnNums
theorem own_i32 {i : Nat} (h : i < 2147483648) : (Int32.ofNat i).toInt = i := len_toInt h
theorem own_ixN {i n : Nat} (h : i < n) (hn : n ≤ 100) : own_ix (Int32.ofNat i) i n := by
  have q := own_i32 (i := i) (by omega)
  refine ⟨?_, ?_, h⟩
  · rw [Int32.lt_iff_toInt_lt, q]
    show ¬ (i : Int) < 0
    omega
  · show (Int32.ofNat i).toInt.toNat = i
    rw [q]
    rfl
theorem own_ltN {i n : Nat} (h : i < n) (hn : n ≤ 100) : Int32.ofNat i < Int32.ofNat n := by
  rw [Int32.lt_iff_toInt_lt, own_i32 (by omega), own_i32 (by omega)]
  omega
theorem own_neN {i n : Nat} (h : i ≠ n) (hi : i ≤ 100) (hn : n ≤ 100) : ¬ Int32.ofNat i = Int32.ofNat n := fun q => by
  have := congrArg Int32.toInt q
  rw [own_i32 (by omega), own_i32 (by omega)] at this
  omega
theorem own_incN (i : Nat) : Int32.ofNat i + (1 : Int32) = Int32.ofNat (i + 1) := (Int32.ofNat_add i 1).symm
theorem own_decN {i : Nat} (h : i + 1 ≤ 100) : Int32.ofNat (i + 1) + (-1 : Int32) = Int32.ofNat i := by
  apply Int32.toInt_inj.mp
  have e1 := own_i32 (i := i + 1) (by omega)
  have e2 : (-1 : Int32).toInt = -1 := by decide
  rw [Jvm.Kit.i32_add (by rw [e1, e2]; omega) (by rw [e1, e2]; omega), e1, e2, own_i32 (by omega)]
  omega
theorem own_subN {i k : Nat} (h : i + k ≤ 100) : Int32.ofNat (i + k) - Int32.ofNat i = Int32.ofNat k := by
  apply Int32.toInt_inj.mp
  have e1 := own_i32 (i := i + k) (by omega)
  have e2 := own_i32 (i := i) (by omega)
  rw [Jvm.Kit.i32_sub (by rw [e1, e2]; omega) (by rw [e1, e2]; omega), e1, e2, own_i32 (by omega)]
  omega
theorem own_ten : (10 : Int64).toInt = 10 := by decide
theorem own_zero : (0 : Int64).toInt = 0 := by decide
theorem own_48 : (48 : Int64).toInt = 48 := by decide
theorem own_min : (-9223372036854775808 : Int64).toInt = -9223372036854775808 := by decide
theorem own_nmax : (-9223372036854775807 : Int64).toInt = -9223372036854775807 := by decide
/-- minus n without its last t digits -/
def own_r (n t : Nat) : Int64 := Int64.ofInt (-((n / 10 ^ t : Nat) : Int))
theorem own_r_int {n : Nat} (hn : n ≤ 9223372036854775808) (t : Nat) : (own_r n t).toInt = -((n / 10 ^ t : Nat) : Int) := by
  have h : n / 10 ^ t ≤ n := Nat.div_le_self _ _
  rw [own_r, Int64.toInt_ofInt]
  generalize n / 10 ^ t = q at h ⊢
  exact XT.bmod64 ⟨by omega, by omega⟩
theorem own_q_succ (n t : Nat) : n / 10 ^ (t + 1) = n / 10 ^ t / 10 := by rw [Nat.pow_succ, Nat.div_div_eq_div_mul]
theorem own_tdiv (q : Nat) : (-(q : Int)).tdiv 10 = -((q / 10 : Nat) : Int) := by
  rw [Int.neg_tdiv]
  rfl
theorem own_tmod (q : Nat) : (-(q : Int)).tmod 10 = -((q % 10 : Nat) : Int) := by
  rw [Int.neg_tmod]
  rfl
theorem own_r_div {n : Nat} (hn : n ≤ 9223372036854775808) (t : Nat) : own_r n t / (10 : Int64) = own_r n (t + 1) := by
  apply Int64.toInt_inj.mp
  rw [Jvm.Kit.i64_div (fun q => by rw [own_ten] at q; omega), own_ten, own_r_int hn, own_r_int hn, own_tdiv, own_q_succ]
theorem own_r_zero {n : Nat} (hn : n ≤ 9223372036854775808) (t : Nat) : own_r n t = (0 : Int64) ↔ n / 10 ^ t = 0 := by
  rw [← Int64.toInt_inj, own_r_int hn, own_zero]
  omega
/-- the digit that stands at the place j of 22 -/
def own_dig (n j : Nat) : Int32 := Int32.ofNat (48 + n / 10 ^ (21 - j) % 10)
theorem own_digit {n : Nat} (hn : n ≤ 9223372036854775808) (t : Nat) : (((48 : Int64) - (own_r n t - (own_r n t / (10 : Int64)) * (10 : Int64))).toInt32.toInt8.toInt32) = Int32.ofNat (48 + n / 10 ^ t % 10) := by
  have hd : n / 10 ^ t % 10 < 10 := Nat.mod_lt _ (by decide)
  generalize hk : n / 10 ^ t % 10 = k at hd
  have e1 : (own_r n t - (own_r n t / (10 : Int64)) * (10 : Int64)).toInt = -(k : Int) := by
    rw [Jvm.Kit.i64_rem, own_ten, own_r_int hn, own_tmod, hk]
  have e2 : ((48 : Int64) - (own_r n t - (own_r n t / (10 : Int64)) * (10 : Int64))).toInt = 48 + (k : Int) := by
    rw [Jvm.Kit.i64_sub (by rw [e1, own_48]; omega) (by rw [e1, own_48]; omega), e1, own_48]
    omega
  apply Int32.toInt_inj.mp
  rw [own_i32 (by omega), Int8.toInt_toInt32, Int32.toInt_toInt8, Jvm.Kit.i32_of_i64 (by rw [e2]; omega) (by rw [e2]; omega), e2, Int.bmod_eq_of_le (by omega) (by omega)]
  omega
theorem own_byte {k : Nat} (h : k < 128) : (Int32.ofNat k).toInt8.toInt32 = Int32.ofNat k := by
  apply Int32.toInt_inj.mp
  rw [Int8.toInt_toInt32, Int32.toInt_toInt8, own_i32 (by omega), Int.bmod_eq_of_le (by omega) (by omega)]
/-- how many digits -/
theorem own_len (n : Nat) : ∀ K, n < 10 ^ (K + 1) → ∃ D, 1 ≤ D ∧ D ≤ K + 1 ∧ n < 10 ^ D ∧ (D = 1 ∨ 10 ^ (D - 1) ≤ n) := by
  intro K
  induction K with
  | zero => exact fun h => ⟨1, by omega, by omega, h, Or.inl rfl⟩
  | succ K ih =>
    intro h
    by_cases q : n < 10 ^ (K + 1)
    · obtain ⟨D, h1, h2, h3, h4⟩ := ih q
      exact ⟨D, h1, by omega, h3, h4⟩
    · exact ⟨K + 2, by omega, by omega, h, Or.inr (by show 10 ^ (K + 1) ≤ n; omega)⟩
/-- D is the number of n's digits -/
def own_isD (n D : Nat) : Prop := 1 ≤ D ∧ D ≤ 19 ∧ n < 10 ^ D ∧ (D = 1 ∨ 10 ^ (D - 1) ≤ n)
theorem own_D (n : Nat) (hn : n ≤ 9223372036854775808) : ∃ D, own_isD n D := by
  obtain ⟨D, h1, h2, h3, h4⟩ := own_len n 18 (by omega)
  exact ⟨D, h1, h2, h3, h4⟩
theorem own_isD.last {n D : Nat} (h : own_isD n D) : n / 10 ^ D = 0 := Nat.div_eq_of_lt h.2.2.1
theorem own_isD.more {n D t : Nat} (h : own_isD n D) (h1 : 1 ≤ t) (h2 : t < D) : n / 10 ^ t ≠ 0 := by
  obtain ⟨-, -, -, h4⟩ := h
  have h5 : 10 ^ (D - 1) ≤ n := h4.resolve_left (by omega)
  have h6 : 10 ^ t ≤ 10 ^ (D - 1) := Nat.pow_le_pow_right (by decide) (by omega)
  have h7 : 0 < n / 10 ^ t := Nat.div_pos (by omega) (Nat.pow_pos (by decide))
  omega
/-- the first digit is 0 of the number 0 alone -/
theorem own_isD.first {n D : Nat} (h : own_isD n D) (hz : n / 10 ^ (D - 1) % 10 = 0) : n = 0 ∧ D = 1 := by
  obtain ⟨h1, h2, h3, h4⟩ := h
  have e : 10 ^ D = 10 ^ (D - 1) * 10 := by
    have : D = (D - 1) + 1 := by omega
    rw [this, Nat.pow_succ]
    rfl
  have h5 : n / 10 ^ (D - 1) < 10 := Nat.div_lt_of_lt_mul (by rw [← e]; exact h3)
  have h6 : n / 10 ^ (D - 1) = 0 := by rw [Nat.mod_eq_of_lt h5] at hz; exact hz
  rcases h4 with q | q
  · subst q
    simp at h6
    exact ⟨h6, rfl⟩
  · have h7 : 0 < n / 10 ^ (D - 1) := Nat.div_pos q (Nat.pow_pos (by decide))
    omega
/-- v and its digits -/
theorem own_r_neg {v : Int64} {n : Nat} (hn : n ≤ 9223372036854775808) (h : v.toInt = -(n : Int)) : own_r n 0 = v := by
  apply Int64.toInt_inj.mp
  rw [own_r_int hn, h]
  simp
theorem own_r_pos {v : Int64} {n : Nat} (hn : n ≤ 9223372036854775808) (h : v.toInt = (n : Int)) : own_r n 0 = -v := by
  apply Int64.toInt_inj.mp
  rw [own_r_int hn, Jvm.Kit.i64_neg (by rw [h]; omega), h]
  simp
/-- what parse reckons: one digit more -/
theorem own_e_split (n i : Nat) (hi : i ≤ 21) : n / 10 ^ (22 - i) = n / 10 ^ (21 - i) / 10 := by
  have : 22 - i = (21 - i) + 1 := by omega
  rw [this, own_q_succ]
theorem own_dig_sub (n j : Nat) : own_dig n j - (48 : Int32) = Int32.ofNat (n / 10 ^ (21 - j) % 10) := by
  have h := own_subN (i := 48) (k := n / 10 ^ (21 - j) % 10) (by have := Nat.mod_lt (n / 10 ^ (21 - j)) (y := 10) (by decide); omega)
  exact h
theorem own_dig_45 (n j : Nat) : ¬ own_dig n j = (45 : Int32) := own_neN (n := 45) (by omega) (by have := Nat.mod_lt (n / 10 ^ (21 - j)) (y := 10) (by decide); omega) (by decide)
theorem own_dig_48 {n j : Nat} (h : own_dig n j = (48 : Int32)) : n / 10 ^ (21 - j) % 10 = 0 := by
  have hd := Nat.mod_lt (n / 10 ^ (21 - j)) (y := 10) (by decide)
  have := congrArg Int32.toInt h
  rw [own_dig, own_i32 (by omega)] at this
  have e : (48 : Int32).toInt = 48 := by decide
  rw [e] at this
  omega
theorem own_c0 (d : Nat) (h : d < 10) : ¬ Int32.ofNat d < (0 : Int32) ∧ ¬ (9 : Int32) < Int32.ofNat d := by
  have e0 : (0 : Int32).toInt = 0 := by decide
  have e9 : (9 : Int32).toInt = 9 := by decide
  rw [Int32.lt_iff_toInt_lt, Int32.lt_iff_toInt_lt, own_i32 (by omega), e0, e9]
  omega
theorem own_d64 {d : Nat} (h : d < 10) : ((Int32.ofNat d).toInt64).toInt = d := by rw [Int32.toInt_toInt64, own_i32 (by omega)]
def own_lim (lim : Int64) (n : Nat) : Prop := (lim = (-9223372036854775808 : Int64) ∧ n ≤ 9223372036854775808) ∨ (lim = (-9223372036854775807 : Int64) ∧ n ≤ 9223372036854775807)
theorem own_lim.int {lim : Int64} {n : Nat} (h : own_lim lim n) : n ≤ 9223372036854775808 ∧ ((lim.toInt = -9223372036854775808) ∨ (lim.toInt = -9223372036854775807 ∧ n ≤ 9223372036854775807)) := by
  rcases h with ⟨rfl, h⟩ | ⟨rfl, h⟩
  · exact ⟨h, Or.inl own_min⟩
  · exact ⟨by omega, Or.inr ⟨own_nmax, h⟩⟩
theorem own_c1 {lim : Int64} {n i : Nat} (h : own_lim lim n) (hi : i ≤ 21) : ¬ own_r n (22 - i) < (lim / (10 : Int64)) := by
  obtain ⟨hn, hl⟩ := h.int
  have hm : n / 10 ^ (21 - i) ≤ n := Nat.div_le_self _ _
  have e : (lim / (10 : Int64)).toInt = lim.toInt.tdiv 10 := by rw [Jvm.Kit.i64_div (fun q => by rw [own_ten] at q; omega), own_ten]
  rw [Int64.lt_iff_toInt_lt, own_r_int hn, e, own_e_split n i hi]
  generalize n / 10 ^ (21 - i) = q at hm ⊢
  rcases hl with hl | ⟨hl, hn'⟩
  · rw [hl, show (-9223372036854775808 : Int).tdiv 10 = -922337203685477580 from by decide]
    omega
  · rw [hl, show (-9223372036854775807 : Int).tdiv 10 = -922337203685477580 from by decide]
    omega
theorem own_r10 {n i : Nat} (hn : n ≤ 9223372036854775808) (hi : i ≤ 21) : (own_r n (22 - i) * (10 : Int64)).toInt = -((n / 10 ^ (21 - i) / 10 : Nat) : Int) * 10 := by
  have hm : n / 10 ^ (21 - i) ≤ n := Nat.div_le_self _ _
  have e : (own_r n (22 - i)).toInt = -((n / 10 ^ (21 - i) / 10 : Nat) : Int) := by rw [own_r_int hn, own_e_split n i hi]
  generalize n / 10 ^ (21 - i) = q at hm e ⊢
  rw [Jvm.Kit.i64_mul (by rw [e, own_ten]; omega) (by rw [e, own_ten]; omega), e, own_ten]
theorem own_c2 {lim : Int64} {n i : Nat} (h : own_lim lim n) (hi : i ≤ 21) : ¬ (own_r n (22 - i) * (10 : Int64)) < (lim + ((Int32.ofNat (n / 10 ^ (21 - i) % 10)).toInt64)) := by
  obtain ⟨hn, hl⟩ := h.int
  have hm : n / 10 ^ (21 - i) ≤ n := Nat.div_le_self _ _
  have hd : n / 10 ^ (21 - i) % 10 < 10 := Nat.mod_lt _ (by decide)
  have e1 := own_d64 hd
  have e2 := own_r10 hn hi
  generalize n / 10 ^ (21 - i) = q at hm hd e1 e2 ⊢
  have e3 : (lim + ((Int32.ofNat (q % 10)).toInt64)).toInt = lim.toInt + ((q % 10 : Nat) : Int) := by
    rw [Jvm.Kit.i64_add (by rw [e1]; omega) (by rw [e1]; omega), e1]
  rw [Int64.lt_iff_toInt_lt, e2, e3]
  omega
theorem own_c3 {n i : Nat} (hn : n ≤ 9223372036854775808) (hi : i ≤ 21) : (own_r n (22 - i) * (10 : Int64)) - ((Int32.ofNat (n / 10 ^ (21 - i) % 10)).toInt64) = own_r n (21 - i) := by
  have hm : n / 10 ^ (21 - i) ≤ n := Nat.div_le_self _ _
  have hd : n / 10 ^ (21 - i) % 10 < 10 := Nat.mod_lt _ (by decide)
  have e1 := own_d64 hd
  have e2 := own_r10 hn hi
  have e3 := own_r_int hn (21 - i)
  apply Int64.toInt_inj.mp
  rw [e3]
  generalize n / 10 ^ (21 - i) = q at hm hd e1 e2 ⊢
  rw [Jvm.Kit.i64_sub (by rw [e1, e2]; omega) (by rw [e1, e2]; omega), e1, e2]
  omega
end OwnNums

theorem d1_0 : decode prog_13_method_4_code 0 = .ok (.aload_n 2, 1) := by decide +kernel
theorem d1_1 : decode prog_13_method_4_code 1 = .ok (.arraylength, 1) := by decide +kernel
theorem d1_2 : decode prog_13_method_4_code 2 = .ok (.istore_n 3, 1) := by decide +kernel
theorem d1_3 : decode prog_13_method_4_code 3 = .ok (.lload_n 0, 1) := by decide +kernel
theorem d1_4 : decode prog_13_method_4_code 4 = .ok (.lconst 0, 1) := by decide +kernel
theorem d1_5 : decode prog_13_method_4_code 5 = .ok (.lcmp, 1) := by decide +kernel
theorem d1_6 : decode prog_13_method_4_code 6 = .ok (.ifCond .ge 7, 3) := by decide +kernel
theorem d1_9 : decode prog_13_method_4_code 9 = .ok (.lload_n 0, 1) := by decide +kernel
theorem d1_10 : decode prog_13_method_4_code 10 = .ok (.goto 5, 3) := by decide +kernel
theorem d1_13 : decode prog_13_method_4_code 13 = .ok (.lload_n 0, 1) := by decide +kernel
theorem d1_14 : decode prog_13_method_4_code 14 = .ok (.lneg, 1) := by decide +kernel
theorem d1_15 : decode prog_13_method_4_code 15 = .ok (.lstore 4, 2) := by decide +kernel
theorem d1_17 : decode prog_13_method_4_code 17 = .ok (.aload_n 2, 1) := by decide +kernel
theorem d1_18 : decode prog_13_method_4_code 18 = .ok (.iinc 3 (-1), 3) := by decide +kernel
theorem d1_21 : decode prog_13_method_4_code 21 = .ok (.iload_n 3, 1) := by decide +kernel
theorem d1_22 : decode prog_13_method_4_code 22 = .ok (.ldc2_w 30, 3) := by decide +kernel
theorem d1_25 : decode prog_13_method_4_code 25 = .ok (.lload 4, 2) := by decide +kernel
theorem d1_27 : decode prog_13_method_4_code 27 = .ok (.ldc2_w 26, 3) := by decide +kernel
theorem d1_30 : decode prog_13_method_4_code 30 = .ok (.lrem, 1) := by decide +kernel
theorem d1_31 : decode prog_13_method_4_code 31 = .ok (.lsub, 1) := by decide +kernel
theorem d1_32 : decode prog_13_method_4_code 32 = .ok (.l2i, 1) := by decide +kernel
theorem d1_33 : decode prog_13_method_4_code 33 = .ok (.i2b, 1) := by decide +kernel
theorem d1_34 : decode prog_13_method_4_code 34 = .ok (.bastore, 1) := by decide +kernel
theorem d1_35 : decode prog_13_method_4_code 35 = .ok (.lload 4, 2) := by decide +kernel
theorem d1_37 : decode prog_13_method_4_code 37 = .ok (.ldc2_w 26, 3) := by decide +kernel
theorem d1_40 : decode prog_13_method_4_code 40 = .ok (.ldiv, 1) := by decide +kernel
theorem d1_41 : decode prog_13_method_4_code 41 = .ok (.lstore 4, 2) := by decide +kernel
theorem d1_43 : decode prog_13_method_4_code 43 = .ok (.lload 4, 2) := by decide +kernel
theorem d1_45 : decode prog_13_method_4_code 45 = .ok (.lconst 0, 1) := by decide +kernel
theorem d1_46 : decode prog_13_method_4_code 46 = .ok (.lcmp, 1) := by decide +kernel
theorem d1_47 : decode prog_13_method_4_code 47 = .ok (.ifCond .ne (-30), 3) := by decide +kernel
theorem d1_50 : decode prog_13_method_4_code 50 = .ok (.lload_n 0, 1) := by decide +kernel
theorem d1_51 : decode prog_13_method_4_code 51 = .ok (.lconst 0, 1) := by decide +kernel
theorem d1_52 : decode prog_13_method_4_code 52 = .ok (.lcmp, 1) := by decide +kernel
theorem d1_53 : decode prog_13_method_4_code 53 = .ok (.ifCond .ge 11, 3) := by decide +kernel
theorem d1_56 : decode prog_13_method_4_code 56 = .ok (.aload_n 2, 1) := by decide +kernel
theorem d1_57 : decode prog_13_method_4_code 57 = .ok (.iinc 3 (-1), 3) := by decide +kernel
theorem d1_60 : decode prog_13_method_4_code 60 = .ok (.iload_n 3, 1) := by decide +kernel
theorem d1_61 : decode prog_13_method_4_code 61 = .ok (.bipush 45, 2) := by decide +kernel
theorem d1_63 : decode prog_13_method_4_code 63 = .ok (.bastore, 1) := by decide +kernel
theorem d1_64 : decode prog_13_method_4_code 64 = .ok (.iload_n 3, 1) := by decide +kernel
theorem d1_65 : decode prog_13_method_4_code 65 = .ok (.ireturn, 1) := by decide +kernel
theorem pn_1 : plainName "com/example/inchworm/inchworm/server/Decimal" = true := by first | (simp [plainName, overriddenIn]; done) | decide +kernel
theorem pd_1 : parseMethodDescriptor "(J[B)I" = some ⟨[.long, (.array .byte)], some .int⟩ := by decide +kernel

theorem d2_0 : decode prog_13_method_3_code 0 = .ok (.iload_n 1, 1) := by decide +kernel
theorem d2_1 : decode prog_13_method_3_code 1 = .ok (.iload_n 2, 1) := by decide +kernel
theorem d2_2 : decode prog_13_method_3_code 2 = .ok (.if_icmp .ge 15, 3) := by decide +kernel
theorem d2_5 : decode prog_13_method_3_code 5 = .ok (.aload_n 0, 1) := by decide +kernel
theorem d2_6 : decode prog_13_method_3_code 6 = .ok (.iload_n 1, 1) := by decide +kernel
theorem d2_7 : decode prog_13_method_3_code 7 = .ok (.baload, 1) := by decide +kernel
theorem d2_8 : decode prog_13_method_3_code 8 = .ok (.bipush 45, 2) := by decide +kernel
theorem d2_10 : decode prog_13_method_3_code 10 = .ok (.if_icmp .ne 7, 3) := by decide +kernel
theorem d2_13 : decode prog_13_method_3_code 13 = .ok (.iconst 1, 1) := by decide +kernel
theorem d2_14 : decode prog_13_method_3_code 14 = .ok (.goto 4, 3) := by decide +kernel
theorem d2_17 : decode prog_13_method_3_code 17 = .ok (.iconst 0, 1) := by decide +kernel
theorem d2_18 : decode prog_13_method_3_code 18 = .ok (.istore_n 3, 1) := by decide +kernel
theorem d2_19 : decode prog_13_method_3_code 19 = .ok (.iload_n 3, 1) := by decide +kernel
theorem d2_20 : decode prog_13_method_3_code 20 = .ok (.ifCond .eq 9, 3) := by decide +kernel
theorem d2_23 : decode prog_13_method_3_code 23 = .ok (.iload_n 1, 1) := by decide +kernel
theorem d2_24 : decode prog_13_method_3_code 24 = .ok (.iconst 1, 1) := by decide +kernel
theorem d2_25 : decode prog_13_method_3_code 25 = .ok (.iadd, 1) := by decide +kernel
theorem d2_26 : decode prog_13_method_3_code 26 = .ok (.goto 4, 3) := by decide +kernel
theorem d2_29 : decode prog_13_method_3_code 29 = .ok (.iload_n 1, 1) := by decide +kernel
theorem d2_30 : decode prog_13_method_3_code 30 = .ok (.istore 4, 2) := by decide +kernel
theorem d2_32 : decode prog_13_method_3_code 32 = .ok (.iload 4, 2) := by decide +kernel
theorem d2_34 : decode prog_13_method_3_code 34 = .ok (.iload_n 2, 1) := by decide +kernel
theorem d2_35 : decode prog_13_method_3_code 35 = .ok (.if_icmp .eq 24, 3) := by decide +kernel
theorem d2_38 : decode prog_13_method_3_code 38 = .ok (.aload_n 0, 1) := by decide +kernel
theorem d2_39 : decode prog_13_method_3_code 39 = .ok (.iload 4, 2) := by decide +kernel
theorem d2_41 : decode prog_13_method_3_code 41 = .ok (.baload, 1) := by decide +kernel
theorem d2_42 : decode prog_13_method_3_code 42 = .ok (.bipush 48, 2) := by decide +kernel
theorem d2_44 : decode prog_13_method_3_code 44 = .ok (.if_icmp .ne 25, 3) := by decide +kernel
theorem d2_47 : decode prog_13_method_3_code 47 = .ok (.iload_n 2, 1) := by decide +kernel
theorem d2_48 : decode prog_13_method_3_code 48 = .ok (.iload 4, 2) := by decide +kernel
theorem d2_50 : decode prog_13_method_3_code 50 = .ok (.isub, 1) := by decide +kernel
theorem d2_51 : decode prog_13_method_3_code 51 = .ok (.iconst 1, 1) := by decide +kernel
theorem d2_52 : decode prog_13_method_3_code 52 = .ok (.if_icmp .gt 7, 3) := by decide +kernel
theorem d2_55 : decode prog_13_method_3_code 55 = .ok (.iload_n 3, 1) := by decide +kernel
theorem d2_56 : decode prog_13_method_3_code 56 = .ok (.ifCond .eq 13, 3) := by decide +kernel
theorem d2_59 : decode prog_13_method_3_code 59 = .ok (.new 13, 3) := by decide +kernel
theorem d2_62 : decode prog_13_method_3_code 62 = .ok (.dup, 1) := by decide +kernel
theorem d2_63 : decode prog_13_method_3_code 63 = .ok (.ldc 15, 2) := by decide +kernel
theorem d2_65 : decode prog_13_method_3_code 65 = .ok (.invokespecial 17, 3) := by decide +kernel
theorem d2_68 : decode prog_13_method_3_code 68 = .ok (.athrow, 1) := by decide +kernel
theorem d2_69 : decode prog_13_method_3_code 69 = .ok (.iload_n 3, 1) := by decide +kernel
theorem d2_70 : decode prog_13_method_3_code 70 = .ok (.ifCond .eq 9, 3) := by decide +kernel
theorem d2_73 : decode prog_13_method_3_code 73 = .ok (.ldc2_w 22, 3) := by decide +kernel
theorem d2_76 : decode prog_13_method_3_code 76 = .ok (.goto 6, 3) := by decide +kernel
theorem d2_79 : decode prog_13_method_3_code 79 = .ok (.ldc2_w 24, 3) := by decide +kernel
theorem d2_82 : decode prog_13_method_3_code 82 = .ok (.lstore 5, 2) := by decide +kernel
theorem d2_84 : decode prog_13_method_3_code 84 = .ok (.lconst 0, 1) := by decide +kernel
theorem d2_85 : decode prog_13_method_3_code 85 = .ok (.lstore 7, 2) := by decide +kernel
theorem d2_87 : decode prog_13_method_3_code 87 = .ok (.iload 4, 2) := by decide +kernel
theorem d2_89 : decode prog_13_method_3_code 89 = .ok (.istore 9, 2) := by decide +kernel
theorem d2_91 : decode prog_13_method_3_code 91 = .ok (.iload 9, 2) := by decide +kernel
theorem d2_93 : decode prog_13_method_3_code 93 = .ok (.iload_n 2, 1) := by decide +kernel
theorem d2_94 : decode prog_13_method_3_code 94 = .ok (.if_icmp .ge 90, 3) := by decide +kernel
theorem d2_97 : decode prog_13_method_3_code 97 = .ok (.aload_n 0, 1) := by decide +kernel
theorem d2_98 : decode prog_13_method_3_code 98 = .ok (.iload 9, 2) := by decide +kernel
theorem d2_100 : decode prog_13_method_3_code 100 = .ok (.baload, 1) := by decide +kernel
theorem d2_101 : decode prog_13_method_3_code 101 = .ok (.bipush 48, 2) := by decide +kernel
theorem d2_103 : decode prog_13_method_3_code 103 = .ok (.isub, 1) := by decide +kernel
theorem d2_104 : decode prog_13_method_3_code 104 = .ok (.istore 10, 2) := by decide +kernel
theorem d2_106 : decode prog_13_method_3_code 106 = .ok (.iload 10, 2) := by decide +kernel
theorem d2_108 : decode prog_13_method_3_code 108 = .ok (.ifCond .lt 10, 3) := by decide +kernel
theorem d2_111 : decode prog_13_method_3_code 111 = .ok (.iload 10, 2) := by decide +kernel
theorem d2_113 : decode prog_13_method_3_code 113 = .ok (.bipush 9, 2) := by decide +kernel
theorem d2_115 : decode prog_13_method_3_code 115 = .ok (.if_icmp .le 13, 3) := by decide +kernel
theorem d2_118 : decode prog_13_method_3_code 118 = .ok (.new 13, 3) := by decide +kernel
theorem d2_121 : decode prog_13_method_3_code 121 = .ok (.dup, 1) := by decide +kernel
theorem d2_122 : decode prog_13_method_3_code 122 = .ok (.ldc 15, 2) := by decide +kernel
theorem d2_124 : decode prog_13_method_3_code 124 = .ok (.invokespecial 17, 3) := by decide +kernel
theorem d2_127 : decode prog_13_method_3_code 127 = .ok (.athrow, 1) := by decide +kernel
theorem d2_128 : decode prog_13_method_3_code 128 = .ok (.lload 7, 2) := by decide +kernel
theorem d2_130 : decode prog_13_method_3_code 130 = .ok (.lload 5, 2) := by decide +kernel
theorem d2_132 : decode prog_13_method_3_code 132 = .ok (.ldc2_w 26, 3) := by decide +kernel
theorem d2_135 : decode prog_13_method_3_code 135 = .ok (.ldiv, 1) := by decide +kernel
theorem d2_136 : decode prog_13_method_3_code 136 = .ok (.lcmp, 1) := by decide +kernel
theorem d2_137 : decode prog_13_method_3_code 137 = .ok (.ifCond .lt 19, 3) := by decide +kernel
theorem d2_140 : decode prog_13_method_3_code 140 = .ok (.lload 7, 2) := by decide +kernel
theorem d2_142 : decode prog_13_method_3_code 142 = .ok (.ldc2_w 26, 3) := by decide +kernel
theorem d2_145 : decode prog_13_method_3_code 145 = .ok (.lmul, 1) := by decide +kernel
theorem d2_146 : decode prog_13_method_3_code 146 = .ok (.lload 5, 2) := by decide +kernel
theorem d2_148 : decode prog_13_method_3_code 148 = .ok (.iload 10, 2) := by decide +kernel
theorem d2_150 : decode prog_13_method_3_code 150 = .ok (.i2l, 1) := by decide +kernel
theorem d2_151 : decode prog_13_method_3_code 151 = .ok (.ladd, 1) := by decide +kernel
theorem d2_152 : decode prog_13_method_3_code 152 = .ok (.lcmp, 1) := by decide +kernel
theorem d2_153 : decode prog_13_method_3_code 153 = .ok (.ifCond .ge 13, 3) := by decide +kernel
theorem d2_156 : decode prog_13_method_3_code 156 = .ok (.new 13, 3) := by decide +kernel
theorem d2_159 : decode prog_13_method_3_code 159 = .ok (.dup, 1) := by decide +kernel
theorem d2_160 : decode prog_13_method_3_code 160 = .ok (.ldc 28, 2) := by decide +kernel
theorem d2_162 : decode prog_13_method_3_code 162 = .ok (.invokespecial 17, 3) := by decide +kernel
theorem d2_165 : decode prog_13_method_3_code 165 = .ok (.athrow, 1) := by decide +kernel
theorem d2_166 : decode prog_13_method_3_code 166 = .ok (.lload 7, 2) := by decide +kernel
theorem d2_168 : decode prog_13_method_3_code 168 = .ok (.ldc2_w 26, 3) := by decide +kernel
theorem d2_171 : decode prog_13_method_3_code 171 = .ok (.lmul, 1) := by decide +kernel
theorem d2_172 : decode prog_13_method_3_code 172 = .ok (.iload 10, 2) := by decide +kernel
theorem d2_174 : decode prog_13_method_3_code 174 = .ok (.i2l, 1) := by decide +kernel
theorem d2_175 : decode prog_13_method_3_code 175 = .ok (.lsub, 1) := by decide +kernel
theorem d2_176 : decode prog_13_method_3_code 176 = .ok (.lstore 7, 2) := by decide +kernel
theorem d2_178 : decode prog_13_method_3_code 178 = .ok (.iinc 9 1, 3) := by decide +kernel
theorem d2_181 : decode prog_13_method_3_code 181 = .ok (.goto (-90), 3) := by decide +kernel
theorem d2_184 : decode prog_13_method_3_code 184 = .ok (.iload_n 3, 1) := by decide +kernel
theorem d2_185 : decode prog_13_method_3_code 185 = .ok (.ifCond .eq 8, 3) := by decide +kernel
theorem d2_188 : decode prog_13_method_3_code 188 = .ok (.lload 7, 2) := by decide +kernel
theorem d2_190 : decode prog_13_method_3_code 190 = .ok (.goto 6, 3) := by decide +kernel
theorem d2_193 : decode prog_13_method_3_code 193 = .ok (.lload 7, 2) := by decide +kernel
theorem d2_195 : decode prog_13_method_3_code 195 = .ok (.lneg, 1) := by decide +kernel
theorem d2_196 : decode prog_13_method_3_code 196 = .ok (.lreturn, 1) := by decide +kernel
theorem pn_2 : plainName "com/example/inchworm/inchworm/server/Decimal" = true := by first | (simp [plainName, overriddenIn]; done) | decide +kernel
theorem pd_2 : parseMethodDescriptor "([BII)J" = some ⟨[(.array .byte), .int, .int], some .long⟩ := by decide +kernel

theorem pn_0 : plainName "com/example/inchworm/inchworm/server/DecimalParsePinLaw" = true := by first | (simp [plainName, overriddenIn]; done) | decide +kernel
theorem pd_0 : parseMethodDescriptor "(JI)Z" = some ⟨[.long, .int], some .boolean⟩ := by decide +kernel

theorem ef_1 (m : MethodId) (x0 : Int64) (x1 : Addr) : entryFrame m #[(.long x0), (.ref x1)] 6 = mkF m 0 #[.val (.long x0), .second, .val (.ref x1), .unset, .unset, .unset] [] := by first | (simp [entryFrame, mkF, argsToLocals, Value.category]; done) | rfl

theorem ef_2 (m : MethodId) (x0 : Addr) (x1 : Int32) (x2 : Int32) : entryFrame m #[(.ref x0), (.int x1), (.int x2)] 11 = mkF m 0 #[.val (.ref x0), .val (.int x1), .val (.int x2), .unset, .unset, .unset, .unset, .unset, .unset, .unset, .unset] [] := by first | (simp [entryFrame, mkF, argsToLocals, Value.category]; done) | rfl

theorem ef_0 (m : MethodId) (x0 : Int64) (x1 : Int32) : entryFrame m #[(.long x0), (.int x1)] maxLocals = mkF m 0 #[.val (.long x0), .second, .val (.int x1), .unset, .unset] [] := by first | (simp [entryFrame, mkF, argsToLocals, Value.category, maxLocals]; done) | rfl

set_option maxRecDepth 65536 in
set_option maxHeartbeats 40000000 in
theorem rm1 (l : Launch) (Z : State) (a0 : Array Value) (hw : ∀ d ∈ tables_1, d.before a0 Z = true) (q1 : Int64) (a2 : Addr) (g0 : Nat → Int32) (n : Nat) (hn : n ≤ 9223372036854775808) (D : Nat) (hD : own_isD n D) (hv : (q1 < (0 : Int64) ∧ q1.toInt = -(n : Int)) ∨ (¬ q1 < (0 : Int64) ∧ q1.toInt = (n : Int))) (h0 : Heap) (n0 : Nat) (Z0 : n0 ≤ h0.size) (ga_a2 : n0 ≤ a2) (A_a2 : own_BA Z h0 a2 22 g0) :
    own_Met l Z h0 (⟨"com/example/inchworm/inchworm/server/Decimal", "format", "(J[B)I"⟩ : MethodName) prog_13_method_4_code 6 (some .int) ({ frames := 0, cells := 0, slots := 0, locals := 0 } : Room) #[(.long q1), (.ref a2)] (fun r h L => ∃ st : Nat, r = some (.int (Int32.ofNat st)) ∧ Fr n0 L ∧ Keep h0 h [a2] ∧ ∃ g : Nat → Int32, own_BA Z h a2 22 g ∧ (∀ j, 22 - D ≤ j → j < 22 → g j = own_dig n j) ∧ ((q1 < (0 : Int64) ∧ st + D + 1 = 22 ∧ g st = (45 : Int32)) ∨ (¬ q1 < (0 : Int64) ∧ st + D = 22))) := by
  refine own_body pn_1 (fun m => ef_1 m q1 a2) ?_
  intro p e s m below meth c T X hx hby hml hret hlk hown hnm hZ e0
  have hown : s.vm.findClass "com/example/inchworm/inchworm/server/Decimal" = some m.cls := hown
  have hml : c.maxLocals = 6 := hml
  have N0 : Fr n0 ([] : List Loc) := Fr.nil n0
  show own_Go p e below _ T (mkF m 0 #[.val (.long q1), .second, .val (.ref a2), .unset, .unset, .unset] [])
  have loop : ∀ (k t : Nat) (Th : State) (hh : Heap) (locs : List Loc) (g : Nat → Int32), t + k + 1 = D → Stand p l e ({ frames := 0, cells := 0, slots := 0, locals := 0 } : Room) s m #[(.long q1), (.ref a2)] below meth c Th locs 0 0 → Th.heap = hh → Fr n0 locs → n0 ≤ hh.size → Keep h0 hh [a2] → own_BA Z hh a2 22 g → (∀ j, 22 - t ≤ j → j < 22 → g j = own_dig n j) → own_Go p e below (own_P s ({ frames := 0, cells := 0, slots := 0, locals := 0 } : Room) (fun r h L => ∃ st : Nat, r = some (.int (Int32.ofNat st)) ∧ Fr n0 L ∧ Keep h0 h [a2] ∧ ∃ g : Nat → Int32, own_BA Z h a2 22 g ∧ (∀ j, 22 - D ≤ j → j < 22 → g j = own_dig n j) ∧ ((q1 < (0 : Int64) ∧ st + D + 1 = 22 ∧ g st = (45 : Int32)) ∨ (¬ q1 < (0 : Int64) ∧ st + D = 22)))) Th (mkF m 17 #[.val (.long q1), .second, .val (.ref a2), .val (.int (Int32.ofNat (21 - t + 1))), .val (.long (own_r n t)), .second] []) := by
    intro k
    induction k with
    | zero =>
      intro t Th hh locs g ht Xh eh N Zh Kh A_a2 hg
      have hD19 : D ≤ 19 := hD.2.1
      show own_Go p e below _ Th (mkF m 17 #[.val (.long q1), .second, .val (.ref a2), .val (.int (Int32.ofNat (21 - t + 1))), .val (.long (own_r n t)), .second] [])
      refine own_st (fun τ κ => XS.aloadN Xh.here hx rfl (hb hby d1_17) rfl rfl κ) ?_
      show own_Go p e below _ Th (mkF m 18 #[.val (.long q1), .second, .val (.ref a2), .val (.int (Int32.ofNat (21 - t + 1))), .val (.long (own_r n t)), .second] [(.ref a2)])
      refine own_st (fun τ κ => XT.iincV Xh.here hx rfl (-1) (hb hby d1_18) (by decide) rfl (l' := #[.val (.long q1), .second, .val (.ref a2), .val (.int ((Int32.ofNat (21 - t + 1)) + (-1 : Int32))), .val (.long (own_r n t)), .second]) rfl κ) ?_
      show own_Go p e below _ Th (mkF m 21 #[.val (.long q1), .second, .val (.ref a2), .val (.int ((Int32.ofNat (21 - t + 1)) + (-1 : Int32))), .val (.long (own_r n t)), .second] [(.ref a2)])
      rw [own_decN (by omega)]
      show own_Go p e below _ Th (mkF m 21 #[.val (.long q1), .second, .val (.ref a2), .val (.int (Int32.ofNat (21 - t))), .val (.long (own_r n t)), .second] [(.ref a2)])
      refine own_st (fun τ κ => XS.iloadN Xh.here hx rfl (hb hby d1_21) rfl κ) ?_
      show own_Go p e below _ Th (mkF m 22 #[.val (.long q1), .second, .val (.ref a2), .val (.int (Int32.ofNat (21 - t))), .val (.long (own_r n t)), .second] [(.int (Int32.ofNat (21 - t))), (.ref a2)])
      refine own_st (fun τ κ => Stand.ldc2J Xh hx hown (mvT hZ (hw _ (List.mem_of_getElem? (i := 5) rfl))) rfl (hb hby d1_22) κ) ?_
      show own_Go p e below _ Th (mkF m 25 #[.val (.long q1), .second, .val (.ref a2), .val (.int (Int32.ofNat (21 - t))), .val (.long (own_r n t)), .second] [(.long (48 : Int64)), (.int (Int32.ofNat (21 - t))), (.ref a2)])
      refine own_st (fun τ κ => XS.lload Xh.here hx rfl (hb hby d1_25) rfl κ) ?_
      show own_Go p e below _ Th (mkF m 27 #[.val (.long q1), .second, .val (.ref a2), .val (.int (Int32.ofNat (21 - t))), .val (.long (own_r n t)), .second] [(.long (own_r n t)), (.long (48 : Int64)), (.int (Int32.ofNat (21 - t))), (.ref a2)])
      refine own_st (fun τ κ => Stand.ldc2J Xh hx hown (mvT hZ (hw _ (List.mem_of_getElem? (i := 6) rfl))) rfl (hb hby d1_27) κ) ?_
      show own_Go p e below _ Th (mkF m 30 #[.val (.long q1), .second, .val (.ref a2), .val (.int (Int32.ofNat (21 - t))), .val (.long (own_r n t)), .second] [(.long (10 : Int64)), (.long (own_r n t)), (.long (48 : Int64)), (.int (Int32.ofNat (21 - t))), (.ref a2)])
      refine own_st (fun τ κ => XS.lrem Xh.here hx rfl (hb hby d1_30) rfl (by decide) κ) ?_
      show own_Go p e below _ Th (mkF m 31 #[.val (.long q1), .second, .val (.ref a2), .val (.int (Int32.ofNat (21 - t))), .val (.long (own_r n t)), .second] [(.long ((own_r n t) - ((own_r n t) / (10 : Int64)) * (10 : Int64))), (.long (48 : Int64)), (.int (Int32.ofNat (21 - t))), (.ref a2)])
      refine own_st (fun τ κ => XS.lsub Xh.here hx rfl (hb hby d1_31) rfl κ) ?_
      show own_Go p e below _ Th (mkF m 32 #[.val (.long q1), .second, .val (.ref a2), .val (.int (Int32.ofNat (21 - t))), .val (.long (own_r n t)), .second] [(.long ((48 : Int64) - ((own_r n t) - ((own_r n t) / (10 : Int64)) * (10 : Int64)))), (.int (Int32.ofNat (21 - t))), (.ref a2)])
      refine own_st (fun τ κ => XT.l2i Xh.here hx rfl (hb hby d1_32) rfl κ) ?_
      show own_Go p e below _ Th (mkF m 33 #[.val (.long q1), .second, .val (.ref a2), .val (.int (Int32.ofNat (21 - t))), .val (.long (own_r n t)), .second] [(.int (((48 : Int64) - ((own_r n t) - ((own_r n t) / (10 : Int64)) * (10 : Int64))).toInt32)), (.int (Int32.ofNat (21 - t))), (.ref a2)])
      refine own_st (fun τ κ => XT.i2b Xh.here hx rfl (hb hby d1_33) rfl κ) ?_
      show own_Go p e below _ Th (mkF m 34 #[.val (.long q1), .second, .val (.ref a2), .val (.int (Int32.ofNat (21 - t))), .val (.long (own_r n t)), .second] [(.int ((((48 : Int64) - ((own_r n t) - ((own_r n t) / (10 : Int64)) * (10 : Int64))).toInt32).toInt8.toInt32)), (.int (Int32.ofNat (21 - t))), (.ref a2)])
      rw [own_digit hn t]
      show own_Go p e below _ Th (mkF m 34 #[.val (.long q1), .second, .val (.ref a2), .val (.int (Int32.ofNat (21 - t))), .val (.long (own_r n t)), .second] [(.int (Int32.ofNat (48 + n / 10 ^ t % 10))), (.int (Int32.ofNat (21 - t))), (.ref a2)])
      refine own_stB Xh hx hZ eh A_a2 (own_ixN (by omega) (by decide)) N ga_a2 (hb hby d1_34) ?_
      intro T501 h501 X501 e501 B501 K501 N501
      have A_a2 := B501
      have Z501 : n0 ≤ h501.size := Nat.le_trans Zh K501.1
      have KK501 := Kh.trans K501 (allS (Or.inl (List.mem_of_getElem? (i := 0) rfl)) all0)
      show own_Go p e below _ T501 (mkF m 35 #[.val (.long q1), .second, .val (.ref a2), .val (.int (Int32.ofNat (21 - t))), .val (.long (own_r n t)), .second] [])
      have hg' : ∀ j, 22 - (t + 1) ≤ j → j < 22 → own_upd g (21 - t) (Int32.ofNat (48 + n / 10 ^ t % 10)).toInt8.toInt32 j = own_dig n j := fun j h1 h2 => by
        unfold own_upd
        by_cases q : j = 21 - t
        · rw [if_pos q, own_byte (by have := Nat.mod_lt (n / 10 ^ t) (y := 10) (by decide); omega), own_dig, q]
          have e : 21 - (21 - t) = t := by omega
          rw [e]
        · rw [if_neg q]
          exact hg j (by omega) h2
      refine own_st (fun τ κ => XS.lload X501.here hx rfl (hb hby d1_35) rfl κ) ?_
      show own_Go p e below _ T501 (mkF m 37 #[.val (.long q1), .second, .val (.ref a2), .val (.int (Int32.ofNat (21 - t))), .val (.long (own_r n t)), .second] [(.long (own_r n t))])
      refine own_st (fun τ κ => Stand.ldc2J X501 hx hown (mvT hZ (hw _ (List.mem_of_getElem? (i := 6) rfl))) rfl (hb hby d1_37) κ) ?_
      show own_Go p e below _ T501 (mkF m 40 #[.val (.long q1), .second, .val (.ref a2), .val (.int (Int32.ofNat (21 - t))), .val (.long (own_r n t)), .second] [(.long (10 : Int64)), (.long (own_r n t))])
      refine own_st (fun τ κ => XS.ldiv X501.here hx rfl (hb hby d1_40) rfl (by decide) κ) ?_
      show own_Go p e below _ T501 (mkF m 41 #[.val (.long q1), .second, .val (.ref a2), .val (.int (Int32.ofNat (21 - t))), .val (.long (own_r n t)), .second] [(.long ((own_r n t) / (10 : Int64)))])
      rw [own_r_div hn t]
      show own_Go p e below _ T501 (mkF m 41 #[.val (.long q1), .second, .val (.ref a2), .val (.int (Int32.ofNat (21 - t))), .val (.long (own_r n t)), .second] [(.long (own_r n (t + 1)))])
      refine own_st (fun τ κ => XS.lstore X501.here hx rfl (hb hby d1_41) rfl (l' := #[.val (.long q1), .second, .val (.ref a2), .val (.int (Int32.ofNat (21 - t))), .val (.long (own_r n (t + 1))), .second]) rfl κ) ?_
      show own_Go p e below _ T501 (mkF m 43 #[.val (.long q1), .second, .val (.ref a2), .val (.int (Int32.ofNat (21 - t))), .val (.long (own_r n (t + 1))), .second] [])
      refine own_st (fun τ κ => XS.lload X501.here hx rfl (hb hby d1_43) rfl κ) ?_
      show own_Go p e below _ T501 (mkF m 45 #[.val (.long q1), .second, .val (.ref a2), .val (.int (Int32.ofNat (21 - t))), .val (.long (own_r n (t + 1))), .second] [(.long (own_r n (t + 1)))])
      refine own_st (fun τ κ => XT.lconstV X501.here hx rfl (0) (hb hby d1_45) (by decide) κ) ?_
      show own_Go p e below _ T501 (mkF m 46 #[.val (.long q1), .second, .val (.ref a2), .val (.int (Int32.ofNat (21 - t))), .val (.long (own_r n (t + 1))), .second] [(.long (0 : Int64)), (.long (own_r n (t + 1)))])
      refine own_st (fun τ κ => XT.lcmp X501.here hx rfl (hb hby d1_46) rfl κ) ?_
      show own_Go p e below _ T501 (mkF m 47 #[.val (.long q1), .second, .val (.ref a2), .val (.int (Int32.ofNat (21 - t))), .val (.long (own_r n (t + 1))), .second] [(.int (XT.cmpL (own_r n (t + 1)) (0 : Int64)))])
      have htD : t + 1 = D := by omega
      refine own_st (fun τ κ => XS.ifNo X501.here hx rfl (hb hby d1_47) rfl (XT.ll_ne_f ((own_r_zero hn (t + 1)).mpr (by rw [htD]; exact hD.last))) κ) ?_
      show own_Go p e below _ T501 (mkF m 50 #[.val (.long q1), .second, .val (.ref a2), .val (.int (Int32.ofNat (21 - t))), .val (.long (own_r n (t + 1))), .second] [])
      refine own_st (fun τ κ => XS.lloadN X501.here hx rfl (hb hby d1_50) rfl κ) ?_
      show own_Go p e below _ T501 (mkF m 51 #[.val (.long q1), .second, .val (.ref a2), .val (.int (Int32.ofNat (21 - t))), .val (.long (own_r n (t + 1))), .second] [(.long q1)])
      refine own_st (fun τ κ => XT.lconstV X501.here hx rfl (0) (hb hby d1_51) (by decide) κ) ?_
      show own_Go p e below _ T501 (mkF m 52 #[.val (.long q1), .second, .val (.ref a2), .val (.int (Int32.ofNat (21 - t))), .val (.long (own_r n (t + 1))), .second] [(.long (0 : Int64)), (.long q1)])
      refine own_st (fun τ κ => XT.lcmp X501.here hx rfl (hb hby d1_52) rfl κ) ?_
      show own_Go p e below _ T501 (mkF m 53 #[.val (.long q1), .second, .val (.ref a2), .val (.int (Int32.ofNat (21 - t))), .val (.long (own_r n (t + 1))), .second] [(.int (XT.cmpL q1 (0 : Int64)))])
      by_cases c53 : q1 < (0 : Int64)
      · refine own_st (fun τ κ => XS.ifNo X501.here hx rfl (hb hby d1_53) rfl (XT.ll_ge_f c53) κ) ?_
        show own_Go p e below _ T501 (mkF m 56 #[.val (.long q1), .second, .val (.ref a2), .val (.int (Int32.ofNat (21 - t))), .val (.long (own_r n (t + 1))), .second] [])
        refine own_st (fun τ κ => XS.aloadN X501.here hx rfl (hb hby d1_56) rfl rfl κ) ?_
        show own_Go p e below _ T501 (mkF m 57 #[.val (.long q1), .second, .val (.ref a2), .val (.int (Int32.ofNat (21 - t))), .val (.long (own_r n (t + 1))), .second] [(.ref a2)])
        have e21 : 21 - t = (21 - (t + 1)) + 1 := by omega
        refine own_st (fun τ κ => XT.iincV X501.here hx rfl (-1) (hb hby d1_57) (by decide) rfl (l' := #[.val (.long q1), .second, .val (.ref a2), .val (.int ((Int32.ofNat (21 - t)) + (-1 : Int32))), .val (.long (own_r n (t + 1))), .second]) rfl κ) ?_
        show own_Go p e below _ T501 (mkF m 60 #[.val (.long q1), .second, .val (.ref a2), .val (.int ((Int32.ofNat (21 - t)) + (-1 : Int32))), .val (.long (own_r n (t + 1))), .second] [(.ref a2)])
        rw [e21, own_decN (by omega)]
        show own_Go p e below _ T501 (mkF m 60 #[.val (.long q1), .second, .val (.ref a2), .val (.int (Int32.ofNat (21 - (t + 1)))), .val (.long (own_r n (t + 1))), .second] [(.ref a2)])
        refine own_st (fun τ κ => XS.iloadN X501.here hx rfl (hb hby d1_60) rfl κ) ?_
        show own_Go p e below _ T501 (mkF m 61 #[.val (.long q1), .second, .val (.ref a2), .val (.int (Int32.ofNat (21 - (t + 1)))), .val (.long (own_r n (t + 1))), .second] [(.int (Int32.ofNat (21 - (t + 1)))), (.ref a2)])
        refine own_st (fun τ κ => XT.bipushV X501.here hx rfl (45) (hb hby d1_61) (by decide) κ) ?_
        show own_Go p e below _ T501 (mkF m 63 #[.val (.long q1), .second, .val (.ref a2), .val (.int (Int32.ofNat (21 - (t + 1)))), .val (.long (own_r n (t + 1))), .second] [(.int (45 : Int32)), (.int (Int32.ofNat (21 - (t + 1)))), (.ref a2)])
        refine own_stB X501 hx hZ e501 A_a2 (own_ixN (by omega) (by decide)) N501 ga_a2 (hb hby d1_63) ?_
        intro T502 h502 X502 e502 B502 K502 N502
        have A_a2 := B502
        have Z502 : n0 ≤ h502.size := Nat.le_trans Z501 K502.1
        have KK502 := KK501.trans K502 (allS (Or.inl (List.mem_of_getElem? (i := 0) rfl)) all0)
        show own_Go p e below _ T502 (mkF m 64 #[.val (.long q1), .second, .val (.ref a2), .val (.int (Int32.ofNat (21 - (t + 1)))), .val (.long (own_r n (t + 1))), .second] [])
        refine own_st (fun τ κ => XS.iloadN X502.here hx rfl (hb hby d1_64) rfl κ) ?_
        show own_Go p e below _ T502 (mkF m 65 #[.val (.long q1), .second, .val (.ref a2), .val (.int (Int32.ofNat (21 - (t + 1)))), .val (.long (own_r n (t + 1))), .second] [(.int (Int32.ofNat (21 - (t + 1))))])
        refine own_retI X502 hx hlk hret (by decide) (by decide) (hb hby d1_65) ?_
        rw [e502]
        refine ⟨21 - (t + 1), rfl, N502, KK502, _, A_a2, fun j h1 h2 => ?_, Or.inl ⟨c53, by omega, ?_⟩⟩
        · unfold own_upd at hg' ⊢
          rw [if_neg (by omega)]
          exact hg' j (by omega) h2
        · unfold own_upd
          rw [if_pos rfl]
          decide
      · refine own_st (fun τ κ => XS.ifYes X501.here hx rfl (pc0 := 53) (pc' := 64) rfl (hb hby d1_53) rfl (XT.ll_ge_t c53) (by decide) (by decide) κ) ?_
        show own_Go p e below _ T501 (mkF m 64 #[.val (.long q1), .second, .val (.ref a2), .val (.int (Int32.ofNat (21 - t))), .val (.long (own_r n (t + 1))), .second] [])
        refine own_st (fun τ κ => XS.iloadN X501.here hx rfl (hb hby d1_64) rfl κ) ?_
        show own_Go p e below _ T501 (mkF m 65 #[.val (.long q1), .second, .val (.ref a2), .val (.int (Int32.ofNat (21 - t))), .val (.long (own_r n (t + 1))), .second] [(.int (Int32.ofNat (21 - t)))])
        refine own_retI X501 hx hlk hret (by decide) (by decide) (hb hby d1_65) ?_
        rw [e501]
        exact ⟨21 - t, rfl, N501, KK501, _, A_a2, fun j h1 h2 => hg' j (by omega) h2, Or.inr ⟨c53, by omega⟩⟩
    | succ k ih =>
      intro t Th hh locs g ht Xh eh N Zh Kh A_a2 hg
      have hD19 : D ≤ 19 := hD.2.1
      show own_Go p e below _ Th (mkF m 17 #[.val (.long q1), .second, .val (.ref a2), .val (.int (Int32.ofNat (21 - t + 1))), .val (.long (own_r n t)), .second] [])
      refine own_st (fun τ κ => XS.aloadN Xh.here hx rfl (hb hby d1_17) rfl rfl κ) ?_
      show own_Go p e below _ Th (mkF m 18 #[.val (.long q1), .second, .val (.ref a2), .val (.int (Int32.ofNat (21 - t + 1))), .val (.long (own_r n t)), .second] [(.ref a2)])
      refine own_st (fun τ κ => XT.iincV Xh.here hx rfl (-1) (hb hby d1_18) (by decide) rfl (l' := #[.val (.long q1), .second, .val (.ref a2), .val (.int ((Int32.ofNat (21 - t + 1)) + (-1 : Int32))), .val (.long (own_r n t)), .second]) rfl κ) ?_
      show own_Go p e below _ Th (mkF m 21 #[.val (.long q1), .second, .val (.ref a2), .val (.int ((Int32.ofNat (21 - t + 1)) + (-1 : Int32))), .val (.long (own_r n t)), .second] [(.ref a2)])
      rw [own_decN (by omega)]
      show own_Go p e below _ Th (mkF m 21 #[.val (.long q1), .second, .val (.ref a2), .val (.int (Int32.ofNat (21 - t))), .val (.long (own_r n t)), .second] [(.ref a2)])
      refine own_st (fun τ κ => XS.iloadN Xh.here hx rfl (hb hby d1_21) rfl κ) ?_
      show own_Go p e below _ Th (mkF m 22 #[.val (.long q1), .second, .val (.ref a2), .val (.int (Int32.ofNat (21 - t))), .val (.long (own_r n t)), .second] [(.int (Int32.ofNat (21 - t))), (.ref a2)])
      refine own_st (fun τ κ => Stand.ldc2J Xh hx hown (mvT hZ (hw _ (List.mem_of_getElem? (i := 5) rfl))) rfl (hb hby d1_22) κ) ?_
      show own_Go p e below _ Th (mkF m 25 #[.val (.long q1), .second, .val (.ref a2), .val (.int (Int32.ofNat (21 - t))), .val (.long (own_r n t)), .second] [(.long (48 : Int64)), (.int (Int32.ofNat (21 - t))), (.ref a2)])
      refine own_st (fun τ κ => XS.lload Xh.here hx rfl (hb hby d1_25) rfl κ) ?_
      show own_Go p e below _ Th (mkF m 27 #[.val (.long q1), .second, .val (.ref a2), .val (.int (Int32.ofNat (21 - t))), .val (.long (own_r n t)), .second] [(.long (own_r n t)), (.long (48 : Int64)), (.int (Int32.ofNat (21 - t))), (.ref a2)])
      refine own_st (fun τ κ => Stand.ldc2J Xh hx hown (mvT hZ (hw _ (List.mem_of_getElem? (i := 6) rfl))) rfl (hb hby d1_27) κ) ?_
      show own_Go p e below _ Th (mkF m 30 #[.val (.long q1), .second, .val (.ref a2), .val (.int (Int32.ofNat (21 - t))), .val (.long (own_r n t)), .second] [(.long (10 : Int64)), (.long (own_r n t)), (.long (48 : Int64)), (.int (Int32.ofNat (21 - t))), (.ref a2)])
      refine own_st (fun τ κ => XS.lrem Xh.here hx rfl (hb hby d1_30) rfl (by decide) κ) ?_
      show own_Go p e below _ Th (mkF m 31 #[.val (.long q1), .second, .val (.ref a2), .val (.int (Int32.ofNat (21 - t))), .val (.long (own_r n t)), .second] [(.long ((own_r n t) - ((own_r n t) / (10 : Int64)) * (10 : Int64))), (.long (48 : Int64)), (.int (Int32.ofNat (21 - t))), (.ref a2)])
      refine own_st (fun τ κ => XS.lsub Xh.here hx rfl (hb hby d1_31) rfl κ) ?_
      show own_Go p e below _ Th (mkF m 32 #[.val (.long q1), .second, .val (.ref a2), .val (.int (Int32.ofNat (21 - t))), .val (.long (own_r n t)), .second] [(.long ((48 : Int64) - ((own_r n t) - ((own_r n t) / (10 : Int64)) * (10 : Int64)))), (.int (Int32.ofNat (21 - t))), (.ref a2)])
      refine own_st (fun τ κ => XT.l2i Xh.here hx rfl (hb hby d1_32) rfl κ) ?_
      show own_Go p e below _ Th (mkF m 33 #[.val (.long q1), .second, .val (.ref a2), .val (.int (Int32.ofNat (21 - t))), .val (.long (own_r n t)), .second] [(.int (((48 : Int64) - ((own_r n t) - ((own_r n t) / (10 : Int64)) * (10 : Int64))).toInt32)), (.int (Int32.ofNat (21 - t))), (.ref a2)])
      refine own_st (fun τ κ => XT.i2b Xh.here hx rfl (hb hby d1_33) rfl κ) ?_
      show own_Go p e below _ Th (mkF m 34 #[.val (.long q1), .second, .val (.ref a2), .val (.int (Int32.ofNat (21 - t))), .val (.long (own_r n t)), .second] [(.int ((((48 : Int64) - ((own_r n t) - ((own_r n t) / (10 : Int64)) * (10 : Int64))).toInt32).toInt8.toInt32)), (.int (Int32.ofNat (21 - t))), (.ref a2)])
      rw [own_digit hn t]
      show own_Go p e below _ Th (mkF m 34 #[.val (.long q1), .second, .val (.ref a2), .val (.int (Int32.ofNat (21 - t))), .val (.long (own_r n t)), .second] [(.int (Int32.ofNat (48 + n / 10 ^ t % 10))), (.int (Int32.ofNat (21 - t))), (.ref a2)])
      refine own_stB Xh hx hZ eh A_a2 (own_ixN (by omega) (by decide)) N ga_a2 (hb hby d1_34) ?_
      intro T503 h503 X503 e503 B503 K503 N503
      have A_a2 := B503
      have Z503 : n0 ≤ h503.size := Nat.le_trans Zh K503.1
      have KK503 := Kh.trans K503 (allS (Or.inl (List.mem_of_getElem? (i := 0) rfl)) all0)
      show own_Go p e below _ T503 (mkF m 35 #[.val (.long q1), .second, .val (.ref a2), .val (.int (Int32.ofNat (21 - t))), .val (.long (own_r n t)), .second] [])
      have hg' : ∀ j, 22 - (t + 1) ≤ j → j < 22 → own_upd g (21 - t) (Int32.ofNat (48 + n / 10 ^ t % 10)).toInt8.toInt32 j = own_dig n j := fun j h1 h2 => by
        unfold own_upd
        by_cases q : j = 21 - t
        · rw [if_pos q, own_byte (by have := Nat.mod_lt (n / 10 ^ t) (y := 10) (by decide); omega), own_dig, q]
          have e : 21 - (21 - t) = t := by omega
          rw [e]
        · rw [if_neg q]
          exact hg j (by omega) h2
      refine own_st (fun τ κ => XS.lload X503.here hx rfl (hb hby d1_35) rfl κ) ?_
      show own_Go p e below _ T503 (mkF m 37 #[.val (.long q1), .second, .val (.ref a2), .val (.int (Int32.ofNat (21 - t))), .val (.long (own_r n t)), .second] [(.long (own_r n t))])
      refine own_st (fun τ κ => Stand.ldc2J X503 hx hown (mvT hZ (hw _ (List.mem_of_getElem? (i := 6) rfl))) rfl (hb hby d1_37) κ) ?_
      show own_Go p e below _ T503 (mkF m 40 #[.val (.long q1), .second, .val (.ref a2), .val (.int (Int32.ofNat (21 - t))), .val (.long (own_r n t)), .second] [(.long (10 : Int64)), (.long (own_r n t))])
      refine own_st (fun τ κ => XS.ldiv X503.here hx rfl (hb hby d1_40) rfl (by decide) κ) ?_
      show own_Go p e below _ T503 (mkF m 41 #[.val (.long q1), .second, .val (.ref a2), .val (.int (Int32.ofNat (21 - t))), .val (.long (own_r n t)), .second] [(.long ((own_r n t) / (10 : Int64)))])
      rw [own_r_div hn t]
      show own_Go p e below _ T503 (mkF m 41 #[.val (.long q1), .second, .val (.ref a2), .val (.int (Int32.ofNat (21 - t))), .val (.long (own_r n t)), .second] [(.long (own_r n (t + 1)))])
      refine own_st (fun τ κ => XS.lstore X503.here hx rfl (hb hby d1_41) rfl (l' := #[.val (.long q1), .second, .val (.ref a2), .val (.int (Int32.ofNat (21 - t))), .val (.long (own_r n (t + 1))), .second]) rfl κ) ?_
      show own_Go p e below _ T503 (mkF m 43 #[.val (.long q1), .second, .val (.ref a2), .val (.int (Int32.ofNat (21 - t))), .val (.long (own_r n (t + 1))), .second] [])
      refine own_st (fun τ κ => XS.lload X503.here hx rfl (hb hby d1_43) rfl κ) ?_
      show own_Go p e below _ T503 (mkF m 45 #[.val (.long q1), .second, .val (.ref a2), .val (.int (Int32.ofNat (21 - t))), .val (.long (own_r n (t + 1))), .second] [(.long (own_r n (t + 1)))])
      refine own_st (fun τ κ => XT.lconstV X503.here hx rfl (0) (hb hby d1_45) (by decide) κ) ?_
      show own_Go p e below _ T503 (mkF m 46 #[.val (.long q1), .second, .val (.ref a2), .val (.int (Int32.ofNat (21 - t))), .val (.long (own_r n (t + 1))), .second] [(.long (0 : Int64)), (.long (own_r n (t + 1)))])
      refine own_st (fun τ κ => XT.lcmp X503.here hx rfl (hb hby d1_46) rfl κ) ?_
      show own_Go p e below _ T503 (mkF m 47 #[.val (.long q1), .second, .val (.ref a2), .val (.int (Int32.ofNat (21 - t))), .val (.long (own_r n (t + 1))), .second] [(.int (XT.cmpL (own_r n (t + 1)) (0 : Int64)))])
      refine own_st (fun τ κ => XS.ifYes X503.here hx rfl (pc0 := 47) (pc' := 17) rfl (hb hby d1_47) rfl (XT.ll_ne_t (fun q => hD.more (t := t + 1) (by omega) (by omega) ((own_r_zero hn (t + 1)).mp q))) (by decide) (by decide) κ) ?_
      show own_Go p e below _ T503 (mkF m 17 #[.val (.long q1), .second, .val (.ref a2), .val (.int (Int32.ofNat (21 - t))), .val (.long (own_r n (t + 1))), .second] [])
      have e21 : 21 - t = (21 - (t + 1)) + 1 := by omega
      rw [e21]
      exact ih (t + 1) T503 h503 _ _ (by omega) X503 e503 N503 Z503 KK503 A_a2 hg'
  show own_Go p e below _ T (mkF m 0 #[.val (.long q1), .second, .val (.ref a2), .unset, .unset, .unset] [])
  refine own_st (fun τ κ => XS.aloadN X.here hx rfl (hb hby d1_0) rfl rfl κ) ?_
  show own_Go p e below _ T (mkF m 1 #[.val (.long q1), .second, .val (.ref a2), .unset, .unset, .unset] [(.ref a2)])
  refine own_alen X hx hZ e0 A_a2 (z := (22 : Int32)) rfl (hb hby d1_1) ?_
  show own_Go p e below _ T (mkF m 2 #[.val (.long q1), .second, .val (.ref a2), .unset, .unset, .unset] [(.int (22 : Int32))])
  refine own_st (fun τ κ => XS.istoreN X.here hx rfl (hb hby d1_2) rfl (l' := #[.val (.long q1), .second, .val (.ref a2), .val (.int (22 : Int32)), .unset, .unset]) rfl κ) ?_
  show own_Go p e below _ T (mkF m 3 #[.val (.long q1), .second, .val (.ref a2), .val (.int (22 : Int32)), .unset, .unset] [])
  refine own_st (fun τ κ => XS.lloadN X.here hx rfl (hb hby d1_3) rfl κ) ?_
  show own_Go p e below _ T (mkF m 4 #[.val (.long q1), .second, .val (.ref a2), .val (.int (22 : Int32)), .unset, .unset] [(.long q1)])
  refine own_st (fun τ κ => XT.lconstV X.here hx rfl (0) (hb hby d1_4) (by decide) κ) ?_
  show own_Go p e below _ T (mkF m 5 #[.val (.long q1), .second, .val (.ref a2), .val (.int (22 : Int32)), .unset, .unset] [(.long (0 : Int64)), (.long q1)])
  refine own_st (fun τ κ => XT.lcmp X.here hx rfl (hb hby d1_5) rfl κ) ?_
  show own_Go p e below _ T (mkF m 6 #[.val (.long q1), .second, .val (.ref a2), .val (.int (22 : Int32)), .unset, .unset] [(.int (XT.cmpL q1 (0 : Int64)))])
  suffices J15 : own_Go p e below _ T (mkF m 15 #[.val (.long q1), .second, .val (.ref a2), .val (.int (22 : Int32)), .unset, .unset] [(.long (own_r n 0))]) by
    by_cases c6 : q1 < (0 : Int64)
    · refine own_st (fun τ κ => XS.ifNo X.here hx rfl (hb hby d1_6) rfl (XT.ll_ge_f c6) κ) ?_
      show own_Go p e below _ T (mkF m 9 #[.val (.long q1), .second, .val (.ref a2), .val (.int (22 : Int32)), .unset, .unset] [])
      refine own_st (fun τ κ => XS.lloadN X.here hx rfl (hb hby d1_9) rfl κ) ?_
      show own_Go p e below _ T (mkF m 10 #[.val (.long q1), .second, .val (.ref a2), .val (.int (22 : Int32)), .unset, .unset] [(.long q1)])
      refine own_st (fun τ κ => XS.goto X.here hx rfl (pc0 := 10) (pc' := 15) rfl (hb hby d1_10) (by decide) (by decide) κ) ?_
      show own_Go p e below _ T (mkF m 15 #[.val (.long q1), .second, .val (.ref a2), .val (.int (22 : Int32)), .unset, .unset] [(.long q1)])
      rw [own_r_neg hn (hv.resolve_right (fun q => q.1 c6)).2] at J15
      exact J15
    · refine own_st (fun τ κ => XS.ifYes X.here hx rfl (pc0 := 6) (pc' := 13) rfl (hb hby d1_6) rfl (XT.ll_ge_t c6) (by decide) (by decide) κ) ?_
      show own_Go p e below _ T (mkF m 13 #[.val (.long q1), .second, .val (.ref a2), .val (.int (22 : Int32)), .unset, .unset] [])
      refine own_st (fun τ κ => XS.lloadN X.here hx rfl (hb hby d1_13) rfl κ) ?_
      show own_Go p e below _ T (mkF m 14 #[.val (.long q1), .second, .val (.ref a2), .val (.int (22 : Int32)), .unset, .unset] [(.long q1)])
      refine own_st (fun τ κ => XS.lneg X.here hx rfl (hb hby d1_14) rfl κ) ?_
      show own_Go p e below _ T (mkF m 15 #[.val (.long q1), .second, .val (.ref a2), .val (.int (22 : Int32)), .unset, .unset] [(.long (-q1))])
      rw [own_r_pos hn (hv.resolve_left (fun q => c6 q.1)).2] at J15
      exact J15
  show own_Go p e below _ T (mkF m 15 #[.val (.long q1), .second, .val (.ref a2), .val (.int (22 : Int32)), .unset, .unset] [(.long (own_r n 0))])
  refine own_st (fun τ κ => XS.lstore X.here hx rfl (hb hby d1_15) rfl (l' := #[.val (.long q1), .second, .val (.ref a2), .val (.int (22 : Int32)), .val (.long (own_r n 0)), .second]) rfl κ) ?_
  show own_Go p e below _ T (mkF m 17 #[.val (.long q1), .second, .val (.ref a2), .val (.int (22 : Int32)), .val (.long (own_r n 0)), .second] [])
  exact loop (D - 1) 0 T h0 [] g0 (by have := hD.1; omega) X e0 N0 Z0 (Keep.refl _ _) A_a2 (fun j h1 h2 => absurd h1 (by omega))

set_option maxRecDepth 65536 in
set_option maxHeartbeats 40000000 in
theorem rm2 (l : Launch) (Z : State) (a0 : Array Value) (hw : ∀ d ∈ tables_1, d.before a0 Z = true) (a1 : Addr) (f fs E : Nat) (hE : E ≤ 22) (hfE : f < E) (hfsE : fs < E) (n : Nat) (ng ng' : Int32) (hnn : ng' = ng) (lim : Int64) (hlim : own_lim lim n) (hng : ng = (1 : Int32) ∨ ng = (0 : Int32)) (hlm : (¬ ng = (0 : Int32) → lim = (-9223372036854775808 : Int64)) ∧ (ng = (0 : Int32) → lim = (-9223372036854775807 : Int64))) (hfs : (ng = (1 : Int32) ∧ fs = f + 1) ∨ (ng = (0 : Int32) ∧ fs = f)) (g : Nat → Int32) (hsg : g f = (45 : Int32) ↔ ng = (1 : Int32)) (hdig : ∀ j, fs ≤ j → j < 22 → g j = own_dig n j) (hlast : n / 10 ^ (22 - fs) = 0) (hz : own_dig n fs = (48 : Int32) → E = fs + 1 ∧ ng = (0 : Int32)) (h0 : Heap) (n0 : Nat) (A_a1 : own_BA Z h0 a1 22 g) :
    own_Met l Z h0 (⟨"com/example/inchworm/inchworm/server/Decimal", "parse", "([BII)J"⟩ : MethodName) prog_13_method_3_code 11 (some .long) ({ frames := 0, cells := 0, slots := 0, locals := 0 } : Room) #[(.ref a1), (.int (Int32.ofNat f)), (.int (Int32.ofNat E))] (fun r h L => r = some (.long (if ng' = (0 : Int32) then (-(own_r n (22 - E))) else own_r n (22 - E))) ∧ Fr n0 L ∧ h = h0) := by
  refine own_body pn_2 (fun m => ef_2 m a1 (Int32.ofNat f) (Int32.ofNat E)) ?_
  intro p e s m below meth c T X hx hby hml hret hlk hown hnm hZ e0
  have hown : s.vm.findClass "com/example/inchworm/inchworm/server/Decimal" = some m.cls := hown
  have hml : c.maxLocals = 11 := hml
  have N0 : Fr n0 ([] : List Loc) := Fr.nil n0
  show own_Go p e below _ T (mkF m 0 #[.val (.ref a1), .val (.int (Int32.ofNat f)), .val (.int (Int32.ofNat E)), .unset, .unset, .unset, .unset, .unset, .unset, .unset, .unset] [])
  have loop : ∀ (k i : Nat) (Th : State) (s10 : Slot), i + k = E → fs ≤ i → (s10 = .unset ∨ ∃ z, s10 = .val z ∧ z.category = 1) → Stand p l e ({ frames := 0, cells := 0, slots := 0, locals := 0 } : Room) s m #[(.ref a1), (.int (Int32.ofNat f)), (.int (Int32.ofNat E))] below meth c Th [] 0 0 → Th.heap = h0 → own_Go p e below (own_P s ({ frames := 0, cells := 0, slots := 0, locals := 0 } : Room) (fun r h L => r = some (.long (if ng' = (0 : Int32) then (-(own_r n (22 - E))) else own_r n (22 - E))) ∧ Fr n0 L ∧ h = h0)) Th (mkF m 91 #[.val (.ref a1), .val (.int (Int32.ofNat f)), .val (.int (Int32.ofNat E)), .val (.int ng), .val (.int (Int32.ofNat fs)), .val (.long lim), .second, .val (.long (own_r n (22 - i))), .second, .val (.int (Int32.ofNat i)), s10] []) := by
    intro k
    induction k with
    | zero =>
      intro i Th s10 hi hfi hs10 Xh eh
      have hiE : i = E := by omega
      subst hiE
      have hlm := hlim.int
      show own_Go p e below _ Th (mkF m 91 #[.val (.ref a1), .val (.int (Int32.ofNat f)), .val (.int (Int32.ofNat i)), .val (.int ng), .val (.int (Int32.ofNat fs)), .val (.long lim), .second, .val (.long (own_r n (22 - i))), .second, .val (.int (Int32.ofNat i)), s10] [])
      refine own_st (fun τ κ => XS.iload Xh.here hx rfl (hb hby d2_91) rfl κ) ?_
      show own_Go p e below _ Th (mkF m 93 #[.val (.ref a1), .val (.int (Int32.ofNat f)), .val (.int (Int32.ofNat i)), .val (.int ng), .val (.int (Int32.ofNat fs)), .val (.long lim), .second, .val (.long (own_r n (22 - i))), .second, .val (.int (Int32.ofNat i)), s10] [(.int (Int32.ofNat i))])
      refine own_st (fun τ κ => XS.iloadN Xh.here hx rfl (hb hby d2_93) rfl κ) ?_
      show own_Go p e below _ Th (mkF m 94 #[.val (.ref a1), .val (.int (Int32.ofNat f)), .val (.int (Int32.ofNat i)), .val (.int ng), .val (.int (Int32.ofNat fs)), .val (.long lim), .second, .val (.long (own_r n (22 - i))), .second, .val (.int (Int32.ofNat i)), s10] [(.int (Int32.ofNat i)), (.int (Int32.ofNat i))])
      refine own_st (fun τ κ => XS.icmpYes Xh.here hx rfl (pc0 := 94) (pc' := 184) rfl (hb hby d2_94) rfl (XT.ii_ge_t (Int32.lt_irrefl)) (by decide) (by decide) κ) ?_
      show own_Go p e below _ Th (mkF m 184 #[.val (.ref a1), .val (.int (Int32.ofNat f)), .val (.int (Int32.ofNat i)), .val (.int ng), .val (.int (Int32.ofNat fs)), .val (.long lim), .second, .val (.long (own_r n (22 - i))), .second, .val (.int (Int32.ofNat i)), s10] [])
      refine own_st (fun τ κ => XS.iloadN Xh.here hx rfl (hb hby d2_184) rfl κ) ?_
      show own_Go p e below _ Th (mkF m 185 #[.val (.ref a1), .val (.int (Int32.ofNat f)), .val (.int (Int32.ofNat i)), .val (.int ng), .val (.int (Int32.ofNat fs)), .val (.long lim), .second, .val (.long (own_r n (22 - i))), .second, .val (.int (Int32.ofNat i)), s10] [(.int ng)])
      by_cases c185 : ng = (0 : Int32)
      · refine own_st (fun τ κ => XS.ifYes Xh.here hx rfl (pc0 := 185) (pc' := 193) rfl (hb hby d2_185) rfl (XT.i0_eq_t c185) (by decide) (by decide) κ) ?_
        show own_Go p e below _ Th (mkF m 193 #[.val (.ref a1), .val (.int (Int32.ofNat f)), .val (.int (Int32.ofNat i)), .val (.int ng), .val (.int (Int32.ofNat fs)), .val (.long lim), .second, .val (.long (own_r n (22 - i))), .second, .val (.int (Int32.ofNat i)), s10] [])
        refine own_st (fun τ κ => XS.lload Xh.here hx rfl (hb hby d2_193) rfl κ) ?_
        show own_Go p e below _ Th (mkF m 195 #[.val (.ref a1), .val (.int (Int32.ofNat f)), .val (.int (Int32.ofNat i)), .val (.int ng), .val (.int (Int32.ofNat fs)), .val (.long lim), .second, .val (.long (own_r n (22 - i))), .second, .val (.int (Int32.ofNat i)), s10] [(.long (own_r n (22 - i)))])
        refine own_st (fun τ κ => XS.lneg Xh.here hx rfl (hb hby d2_195) rfl κ) ?_
        show own_Go p e below _ Th (mkF m 196 #[.val (.ref a1), .val (.int (Int32.ofNat f)), .val (.int (Int32.ofNat i)), .val (.int ng), .val (.int (Int32.ofNat fs)), .val (.long lim), .second, .val (.long (own_r n (22 - i))), .second, .val (.int (Int32.ofNat i)), s10] [(.long (-(own_r n (22 - i))))])
        refine own_retJ Xh hx hlk hret (by decide) (by decide) (hb hby d2_196) ?_
        exact ⟨by rw [hnn, if_pos c185], N0, eh⟩
      · refine own_st (fun τ κ => XS.ifNo Xh.here hx rfl (hb hby d2_185) rfl (XT.i0_eq_f c185) κ) ?_
        show own_Go p e below _ Th (mkF m 188 #[.val (.ref a1), .val (.int (Int32.ofNat f)), .val (.int (Int32.ofNat i)), .val (.int ng), .val (.int (Int32.ofNat fs)), .val (.long lim), .second, .val (.long (own_r n (22 - i))), .second, .val (.int (Int32.ofNat i)), s10] [])
        refine own_st (fun τ κ => XS.lload Xh.here hx rfl (hb hby d2_188) rfl κ) ?_
        show own_Go p e below _ Th (mkF m 190 #[.val (.ref a1), .val (.int (Int32.ofNat f)), .val (.int (Int32.ofNat i)), .val (.int ng), .val (.int (Int32.ofNat fs)), .val (.long lim), .second, .val (.long (own_r n (22 - i))), .second, .val (.int (Int32.ofNat i)), s10] [(.long (own_r n (22 - i)))])
        refine own_st (fun τ κ => XS.goto Xh.here hx rfl (pc0 := 190) (pc' := 196) rfl (hb hby d2_190) (by decide) (by decide) κ) ?_
        show own_Go p e below _ Th (mkF m 196 #[.val (.ref a1), .val (.int (Int32.ofNat f)), .val (.int (Int32.ofNat i)), .val (.int ng), .val (.int (Int32.ofNat fs)), .val (.long lim), .second, .val (.long (own_r n (22 - i))), .second, .val (.int (Int32.ofNat i)), s10] [(.long (own_r n (22 - i)))])
        refine own_retJ Xh hx hlk hret (by decide) (by decide) (hb hby d2_196) ?_
        exact ⟨by rw [hnn, if_neg c185], N0, eh⟩
    | succ k ih =>
      intro i Th s10 hi hfi hs10 Xh eh
      have hi21 : i ≤ 21 := by omega
      have hn := hlim.int.1
      have hd10 : n / 10 ^ (21 - i) % 10 < 10 := Nat.mod_lt _ (by decide)
      show own_Go p e below _ Th (mkF m 91 #[.val (.ref a1), .val (.int (Int32.ofNat f)), .val (.int (Int32.ofNat E)), .val (.int ng), .val (.int (Int32.ofNat fs)), .val (.long lim), .second, .val (.long (own_r n (22 - i))), .second, .val (.int (Int32.ofNat i)), s10] [])
      refine own_st (fun τ κ => XS.iload Xh.here hx rfl (hb hby d2_91) rfl κ) ?_
      show own_Go p e below _ Th (mkF m 93 #[.val (.ref a1), .val (.int (Int32.ofNat f)), .val (.int (Int32.ofNat E)), .val (.int ng), .val (.int (Int32.ofNat fs)), .val (.long lim), .second, .val (.long (own_r n (22 - i))), .second, .val (.int (Int32.ofNat i)), s10] [(.int (Int32.ofNat i))])
      refine own_st (fun τ κ => XS.iloadN Xh.here hx rfl (hb hby d2_93) rfl κ) ?_
      show own_Go p e below _ Th (mkF m 94 #[.val (.ref a1), .val (.int (Int32.ofNat f)), .val (.int (Int32.ofNat E)), .val (.int ng), .val (.int (Int32.ofNat fs)), .val (.long lim), .second, .val (.long (own_r n (22 - i))), .second, .val (.int (Int32.ofNat i)), s10] [(.int (Int32.ofNat E)), (.int (Int32.ofNat i))])
      refine own_st (fun τ κ => XS.icmpNo Xh.here hx rfl (hb hby d2_94) rfl (XT.ii_ge_f (own_ltN (by omega) (by omega))) κ) ?_
      show own_Go p e below _ Th (mkF m 97 #[.val (.ref a1), .val (.int (Int32.ofNat f)), .val (.int (Int32.ofNat E)), .val (.int ng), .val (.int (Int32.ofNat fs)), .val (.long lim), .second, .val (.long (own_r n (22 - i))), .second, .val (.int (Int32.ofNat i)), s10] [])
      refine own_st (fun τ κ => XS.aloadN Xh.here hx rfl (hb hby d2_97) rfl rfl κ) ?_
      show own_Go p e below _ Th (mkF m 98 #[.val (.ref a1), .val (.int (Int32.ofNat f)), .val (.int (Int32.ofNat E)), .val (.int ng), .val (.int (Int32.ofNat fs)), .val (.long lim), .second, .val (.long (own_r n (22 - i))), .second, .val (.int (Int32.ofNat i)), s10] [(.ref a1)])
      refine own_st (fun τ κ => XS.iload Xh.here hx rfl (hb hby d2_98) rfl κ) ?_
      show own_Go p e below _ Th (mkF m 100 #[.val (.ref a1), .val (.int (Int32.ofNat f)), .val (.int (Int32.ofNat E)), .val (.int ng), .val (.int (Int32.ofNat fs)), .val (.long lim), .second, .val (.long (own_r n (22 - i))), .second, .val (.int (Int32.ofNat i)), s10] [(.int (Int32.ofNat i)), (.ref a1)])
      refine own_ldB Xh hx hZ eh A_a1 (own_ixN (i := i) (by omega) (by decide)) (x := (own_dig n i)) (hdig i hfi (by omega)) (hb hby d2_100) ?_
      show own_Go p e below _ Th (mkF m 101 #[.val (.ref a1), .val (.int (Int32.ofNat f)), .val (.int (Int32.ofNat E)), .val (.int ng), .val (.int (Int32.ofNat fs)), .val (.long lim), .second, .val (.long (own_r n (22 - i))), .second, .val (.int (Int32.ofNat i)), s10] [(.int (own_dig n i))])
      refine own_st (fun τ κ => XT.bipushV Xh.here hx rfl (48) (hb hby d2_101) (by decide) κ) ?_
      show own_Go p e below _ Th (mkF m 103 #[.val (.ref a1), .val (.int (Int32.ofNat f)), .val (.int (Int32.ofNat E)), .val (.int ng), .val (.int (Int32.ofNat fs)), .val (.long lim), .second, .val (.long (own_r n (22 - i))), .second, .val (.int (Int32.ofNat i)), s10] [(.int (48 : Int32)), (.int (own_dig n i))])
      refine own_st (fun τ κ => XS.isub Xh.here hx rfl (hb hby d2_103) rfl κ) ?_
      show own_Go p e below _ Th (mkF m 104 #[.val (.ref a1), .val (.int (Int32.ofNat f)), .val (.int (Int32.ofNat E)), .val (.int ng), .val (.int (Int32.ofNat fs)), .val (.long lim), .second, .val (.long (own_r n (22 - i))), .second, .val (.int (Int32.ofNat i)), s10] [(.int ((own_dig n i) - (48 : Int32)))])
      rw [own_dig_sub]
      show own_Go p e below _ Th (mkF m 104 #[.val (.ref a1), .val (.int (Int32.ofNat f)), .val (.int (Int32.ofNat E)), .val (.int ng), .val (.int (Int32.ofNat fs)), .val (.long lim), .second, .val (.long (own_r n (22 - i))), .second, .val (.int (Int32.ofNat i)), s10] [(.int (Int32.ofNat (n / 10 ^ (21 - i) % 10)))])
      refine own_st (fun τ κ => XS.istoreS Xh.here hx rfl (hb hby d2_104) rfl rfl hs10 κ) ?_
      show own_Go p e below _ Th (mkF m 106 #[.val (.ref a1), .val (.int (Int32.ofNat f)), .val (.int (Int32.ofNat E)), .val (.int ng), .val (.int (Int32.ofNat fs)), .val (.long lim), .second, .val (.long (own_r n (22 - i))), .second, .val (.int (Int32.ofNat i)), .val (.int (Int32.ofNat (n / 10 ^ (21 - i) % 10)))] [])
      refine own_st (fun τ κ => XS.iload Xh.here hx rfl (hb hby d2_106) rfl κ) ?_
      show own_Go p e below _ Th (mkF m 108 #[.val (.ref a1), .val (.int (Int32.ofNat f)), .val (.int (Int32.ofNat E)), .val (.int ng), .val (.int (Int32.ofNat fs)), .val (.long lim), .second, .val (.long (own_r n (22 - i))), .second, .val (.int (Int32.ofNat i)), .val (.int (Int32.ofNat (n / 10 ^ (21 - i) % 10)))] [(.int (Int32.ofNat (n / 10 ^ (21 - i) % 10)))])
      refine own_st (fun τ κ => XS.ifNo Xh.here hx rfl (hb hby d2_108) rfl (XT.i0_lt_f (own_c0 _ hd10).1) κ) ?_
      show own_Go p e below _ Th (mkF m 111 #[.val (.ref a1), .val (.int (Int32.ofNat f)), .val (.int (Int32.ofNat E)), .val (.int ng), .val (.int (Int32.ofNat fs)), .val (.long lim), .second, .val (.long (own_r n (22 - i))), .second, .val (.int (Int32.ofNat i)), .val (.int (Int32.ofNat (n / 10 ^ (21 - i) % 10)))] [])
      refine own_st (fun τ κ => XS.iload Xh.here hx rfl (hb hby d2_111) rfl κ) ?_
      show own_Go p e below _ Th (mkF m 113 #[.val (.ref a1), .val (.int (Int32.ofNat f)), .val (.int (Int32.ofNat E)), .val (.int ng), .val (.int (Int32.ofNat fs)), .val (.long lim), .second, .val (.long (own_r n (22 - i))), .second, .val (.int (Int32.ofNat i)), .val (.int (Int32.ofNat (n / 10 ^ (21 - i) % 10)))] [(.int (Int32.ofNat (n / 10 ^ (21 - i) % 10)))])
      refine own_st (fun τ κ => XT.bipushV Xh.here hx rfl (9) (hb hby d2_113) (by decide) κ) ?_
      show own_Go p e below _ Th (mkF m 115 #[.val (.ref a1), .val (.int (Int32.ofNat f)), .val (.int (Int32.ofNat E)), .val (.int ng), .val (.int (Int32.ofNat fs)), .val (.long lim), .second, .val (.long (own_r n (22 - i))), .second, .val (.int (Int32.ofNat i)), .val (.int (Int32.ofNat (n / 10 ^ (21 - i) % 10)))] [(.int (9 : Int32)), (.int (Int32.ofNat (n / 10 ^ (21 - i) % 10)))])
      refine own_st (fun τ κ => XS.icmpYes Xh.here hx rfl (pc0 := 115) (pc' := 128) rfl (hb hby d2_115) rfl (XT.ii_le_t (own_c0 _ hd10).2) (by decide) (by decide) κ) ?_
      show own_Go p e below _ Th (mkF m 128 #[.val (.ref a1), .val (.int (Int32.ofNat f)), .val (.int (Int32.ofNat E)), .val (.int ng), .val (.int (Int32.ofNat fs)), .val (.long lim), .second, .val (.long (own_r n (22 - i))), .second, .val (.int (Int32.ofNat i)), .val (.int (Int32.ofNat (n / 10 ^ (21 - i) % 10)))] [])
      refine own_st (fun τ κ => XS.lload Xh.here hx rfl (hb hby d2_128) rfl κ) ?_
      show own_Go p e below _ Th (mkF m 130 #[.val (.ref a1), .val (.int (Int32.ofNat f)), .val (.int (Int32.ofNat E)), .val (.int ng), .val (.int (Int32.ofNat fs)), .val (.long lim), .second, .val (.long (own_r n (22 - i))), .second, .val (.int (Int32.ofNat i)), .val (.int (Int32.ofNat (n / 10 ^ (21 - i) % 10)))] [(.long (own_r n (22 - i)))])
      refine own_st (fun τ κ => XS.lload Xh.here hx rfl (hb hby d2_130) rfl κ) ?_
      show own_Go p e below _ Th (mkF m 132 #[.val (.ref a1), .val (.int (Int32.ofNat f)), .val (.int (Int32.ofNat E)), .val (.int ng), .val (.int (Int32.ofNat fs)), .val (.long lim), .second, .val (.long (own_r n (22 - i))), .second, .val (.int (Int32.ofNat i)), .val (.int (Int32.ofNat (n / 10 ^ (21 - i) % 10)))] [(.long lim), (.long (own_r n (22 - i)))])
      refine own_st (fun τ κ => Stand.ldc2J Xh hx hown (mvT hZ (hw _ (List.mem_of_getElem? (i := 6) rfl))) rfl (hb hby d2_132) κ) ?_
      show own_Go p e below _ Th (mkF m 135 #[.val (.ref a1), .val (.int (Int32.ofNat f)), .val (.int (Int32.ofNat E)), .val (.int ng), .val (.int (Int32.ofNat fs)), .val (.long lim), .second, .val (.long (own_r n (22 - i))), .second, .val (.int (Int32.ofNat i)), .val (.int (Int32.ofNat (n / 10 ^ (21 - i) % 10)))] [(.long (10 : Int64)), (.long lim), (.long (own_r n (22 - i)))])
      refine own_st (fun τ κ => XS.ldiv Xh.here hx rfl (hb hby d2_135) rfl (by decide) κ) ?_
      show own_Go p e below _ Th (mkF m 136 #[.val (.ref a1), .val (.int (Int32.ofNat f)), .val (.int (Int32.ofNat E)), .val (.int ng), .val (.int (Int32.ofNat fs)), .val (.long lim), .second, .val (.long (own_r n (22 - i))), .second, .val (.int (Int32.ofNat i)), .val (.int (Int32.ofNat (n / 10 ^ (21 - i) % 10)))] [(.long (lim / (10 : Int64))), (.long (own_r n (22 - i)))])
      refine own_st (fun τ κ => XT.lcmp Xh.here hx rfl (hb hby d2_136) rfl κ) ?_
      show own_Go p e below _ Th (mkF m 137 #[.val (.ref a1), .val (.int (Int32.ofNat f)), .val (.int (Int32.ofNat E)), .val (.int ng), .val (.int (Int32.ofNat fs)), .val (.long lim), .second, .val (.long (own_r n (22 - i))), .second, .val (.int (Int32.ofNat i)), .val (.int (Int32.ofNat (n / 10 ^ (21 - i) % 10)))] [(.int (XT.cmpL (own_r n (22 - i)) (lim / (10 : Int64))))])
      refine own_st (fun τ κ => XS.ifNo Xh.here hx rfl (hb hby d2_137) rfl (XT.ll_lt_f (own_c1 hlim hi21)) κ) ?_
      show own_Go p e below _ Th (mkF m 140 #[.val (.ref a1), .val (.int (Int32.ofNat f)), .val (.int (Int32.ofNat E)), .val (.int ng), .val (.int (Int32.ofNat fs)), .val (.long lim), .second, .val (.long (own_r n (22 - i))), .second, .val (.int (Int32.ofNat i)), .val (.int (Int32.ofNat (n / 10 ^ (21 - i) % 10)))] [])
      refine own_st (fun τ κ => XS.lload Xh.here hx rfl (hb hby d2_140) rfl κ) ?_
      show own_Go p e below _ Th (mkF m 142 #[.val (.ref a1), .val (.int (Int32.ofNat f)), .val (.int (Int32.ofNat E)), .val (.int ng), .val (.int (Int32.ofNat fs)), .val (.long lim), .second, .val (.long (own_r n (22 - i))), .second, .val (.int (Int32.ofNat i)), .val (.int (Int32.ofNat (n / 10 ^ (21 - i) % 10)))] [(.long (own_r n (22 - i)))])
      refine own_st (fun τ κ => Stand.ldc2J Xh hx hown (mvT hZ (hw _ (List.mem_of_getElem? (i := 6) rfl))) rfl (hb hby d2_142) κ) ?_
      show own_Go p e below _ Th (mkF m 145 #[.val (.ref a1), .val (.int (Int32.ofNat f)), .val (.int (Int32.ofNat E)), .val (.int ng), .val (.int (Int32.ofNat fs)), .val (.long lim), .second, .val (.long (own_r n (22 - i))), .second, .val (.int (Int32.ofNat i)), .val (.int (Int32.ofNat (n / 10 ^ (21 - i) % 10)))] [(.long (10 : Int64)), (.long (own_r n (22 - i)))])
      refine own_st (fun τ κ => XS.lmul Xh.here hx rfl (hb hby d2_145) rfl κ) ?_
      show own_Go p e below _ Th (mkF m 146 #[.val (.ref a1), .val (.int (Int32.ofNat f)), .val (.int (Int32.ofNat E)), .val (.int ng), .val (.int (Int32.ofNat fs)), .val (.long lim), .second, .val (.long (own_r n (22 - i))), .second, .val (.int (Int32.ofNat i)), .val (.int (Int32.ofNat (n / 10 ^ (21 - i) % 10)))] [(.long ((own_r n (22 - i)) * (10 : Int64)))])
      refine own_st (fun τ κ => XS.lload Xh.here hx rfl (hb hby d2_146) rfl κ) ?_
      show own_Go p e below _ Th (mkF m 148 #[.val (.ref a1), .val (.int (Int32.ofNat f)), .val (.int (Int32.ofNat E)), .val (.int ng), .val (.int (Int32.ofNat fs)), .val (.long lim), .second, .val (.long (own_r n (22 - i))), .second, .val (.int (Int32.ofNat i)), .val (.int (Int32.ofNat (n / 10 ^ (21 - i) % 10)))] [(.long lim), (.long ((own_r n (22 - i)) * (10 : Int64)))])
      refine own_st (fun τ κ => XS.iload Xh.here hx rfl (hb hby d2_148) rfl κ) ?_
      show own_Go p e below _ Th (mkF m 150 #[.val (.ref a1), .val (.int (Int32.ofNat f)), .val (.int (Int32.ofNat E)), .val (.int ng), .val (.int (Int32.ofNat fs)), .val (.long lim), .second, .val (.long (own_r n (22 - i))), .second, .val (.int (Int32.ofNat i)), .val (.int (Int32.ofNat (n / 10 ^ (21 - i) % 10)))] [(.int (Int32.ofNat (n / 10 ^ (21 - i) % 10))), (.long lim), (.long ((own_r n (22 - i)) * (10 : Int64)))])
      refine own_st (fun τ κ => XT.i2l Xh.here hx rfl (hb hby d2_150) rfl κ) ?_
      show own_Go p e below _ Th (mkF m 151 #[.val (.ref a1), .val (.int (Int32.ofNat f)), .val (.int (Int32.ofNat E)), .val (.int ng), .val (.int (Int32.ofNat fs)), .val (.long lim), .second, .val (.long (own_r n (22 - i))), .second, .val (.int (Int32.ofNat i)), .val (.int (Int32.ofNat (n / 10 ^ (21 - i) % 10)))] [(.long ((Int32.ofNat (n / 10 ^ (21 - i) % 10)).toInt64)), (.long lim), (.long ((own_r n (22 - i)) * (10 : Int64)))])
      refine own_st (fun τ κ => XS.ladd Xh.here hx rfl (hb hby d2_151) rfl κ) ?_
      show own_Go p e below _ Th (mkF m 152 #[.val (.ref a1), .val (.int (Int32.ofNat f)), .val (.int (Int32.ofNat E)), .val (.int ng), .val (.int (Int32.ofNat fs)), .val (.long lim), .second, .val (.long (own_r n (22 - i))), .second, .val (.int (Int32.ofNat i)), .val (.int (Int32.ofNat (n / 10 ^ (21 - i) % 10)))] [(.long (lim + ((Int32.ofNat (n / 10 ^ (21 - i) % 10)).toInt64))), (.long ((own_r n (22 - i)) * (10 : Int64)))])
      refine own_st (fun τ κ => XT.lcmp Xh.here hx rfl (hb hby d2_152) rfl κ) ?_
      show own_Go p e below _ Th (mkF m 153 #[.val (.ref a1), .val (.int (Int32.ofNat f)), .val (.int (Int32.ofNat E)), .val (.int ng), .val (.int (Int32.ofNat fs)), .val (.long lim), .second, .val (.long (own_r n (22 - i))), .second, .val (.int (Int32.ofNat i)), .val (.int (Int32.ofNat (n / 10 ^ (21 - i) % 10)))] [(.int (XT.cmpL ((own_r n (22 - i)) * (10 : Int64)) (lim + ((Int32.ofNat (n / 10 ^ (21 - i) % 10)).toInt64))))])
      refine own_st (fun τ κ => XS.ifYes Xh.here hx rfl (pc0 := 153) (pc' := 166) rfl (hb hby d2_153) rfl (XT.ll_ge_t (own_c2 hlim hi21)) (by decide) (by decide) κ) ?_
      show own_Go p e below _ Th (mkF m 166 #[.val (.ref a1), .val (.int (Int32.ofNat f)), .val (.int (Int32.ofNat E)), .val (.int ng), .val (.int (Int32.ofNat fs)), .val (.long lim), .second, .val (.long (own_r n (22 - i))), .second, .val (.int (Int32.ofNat i)), .val (.int (Int32.ofNat (n / 10 ^ (21 - i) % 10)))] [])
      refine own_st (fun τ κ => XS.lload Xh.here hx rfl (hb hby d2_166) rfl κ) ?_
      show own_Go p e below _ Th (mkF m 168 #[.val (.ref a1), .val (.int (Int32.ofNat f)), .val (.int (Int32.ofNat E)), .val (.int ng), .val (.int (Int32.ofNat fs)), .val (.long lim), .second, .val (.long (own_r n (22 - i))), .second, .val (.int (Int32.ofNat i)), .val (.int (Int32.ofNat (n / 10 ^ (21 - i) % 10)))] [(.long (own_r n (22 - i)))])
      refine own_st (fun τ κ => Stand.ldc2J Xh hx hown (mvT hZ (hw _ (List.mem_of_getElem? (i := 6) rfl))) rfl (hb hby d2_168) κ) ?_
      show own_Go p e below _ Th (mkF m 171 #[.val (.ref a1), .val (.int (Int32.ofNat f)), .val (.int (Int32.ofNat E)), .val (.int ng), .val (.int (Int32.ofNat fs)), .val (.long lim), .second, .val (.long (own_r n (22 - i))), .second, .val (.int (Int32.ofNat i)), .val (.int (Int32.ofNat (n / 10 ^ (21 - i) % 10)))] [(.long (10 : Int64)), (.long (own_r n (22 - i)))])
      refine own_st (fun τ κ => XS.lmul Xh.here hx rfl (hb hby d2_171) rfl κ) ?_
      show own_Go p e below _ Th (mkF m 172 #[.val (.ref a1), .val (.int (Int32.ofNat f)), .val (.int (Int32.ofNat E)), .val (.int ng), .val (.int (Int32.ofNat fs)), .val (.long lim), .second, .val (.long (own_r n (22 - i))), .second, .val (.int (Int32.ofNat i)), .val (.int (Int32.ofNat (n / 10 ^ (21 - i) % 10)))] [(.long ((own_r n (22 - i)) * (10 : Int64)))])
      refine own_st (fun τ κ => XS.iload Xh.here hx rfl (hb hby d2_172) rfl κ) ?_
      show own_Go p e below _ Th (mkF m 174 #[.val (.ref a1), .val (.int (Int32.ofNat f)), .val (.int (Int32.ofNat E)), .val (.int ng), .val (.int (Int32.ofNat fs)), .val (.long lim), .second, .val (.long (own_r n (22 - i))), .second, .val (.int (Int32.ofNat i)), .val (.int (Int32.ofNat (n / 10 ^ (21 - i) % 10)))] [(.int (Int32.ofNat (n / 10 ^ (21 - i) % 10))), (.long ((own_r n (22 - i)) * (10 : Int64)))])
      refine own_st (fun τ κ => XT.i2l Xh.here hx rfl (hb hby d2_174) rfl κ) ?_
      show own_Go p e below _ Th (mkF m 175 #[.val (.ref a1), .val (.int (Int32.ofNat f)), .val (.int (Int32.ofNat E)), .val (.int ng), .val (.int (Int32.ofNat fs)), .val (.long lim), .second, .val (.long (own_r n (22 - i))), .second, .val (.int (Int32.ofNat i)), .val (.int (Int32.ofNat (n / 10 ^ (21 - i) % 10)))] [(.long ((Int32.ofNat (n / 10 ^ (21 - i) % 10)).toInt64)), (.long ((own_r n (22 - i)) * (10 : Int64)))])
      refine own_st (fun τ κ => XS.lsub Xh.here hx rfl (hb hby d2_175) rfl κ) ?_
      show own_Go p e below _ Th (mkF m 176 #[.val (.ref a1), .val (.int (Int32.ofNat f)), .val (.int (Int32.ofNat E)), .val (.int ng), .val (.int (Int32.ofNat fs)), .val (.long lim), .second, .val (.long (own_r n (22 - i))), .second, .val (.int (Int32.ofNat i)), .val (.int (Int32.ofNat (n / 10 ^ (21 - i) % 10)))] [(.long (((own_r n (22 - i)) * (10 : Int64)) - ((Int32.ofNat (n / 10 ^ (21 - i) % 10)).toInt64)))])
      rw [own_c3 hn hi21]
      show own_Go p e below _ Th (mkF m 176 #[.val (.ref a1), .val (.int (Int32.ofNat f)), .val (.int (Int32.ofNat E)), .val (.int ng), .val (.int (Int32.ofNat fs)), .val (.long lim), .second, .val (.long (own_r n (22 - i))), .second, .val (.int (Int32.ofNat i)), .val (.int (Int32.ofNat (n / 10 ^ (21 - i) % 10)))] [(.long (own_r n (21 - i)))])
      refine own_st (fun τ κ => XS.lstore Xh.here hx rfl (hb hby d2_176) rfl (l' := #[.val (.ref a1), .val (.int (Int32.ofNat f)), .val (.int (Int32.ofNat E)), .val (.int ng), .val (.int (Int32.ofNat fs)), .val (.long lim), .second, .val (.long (own_r n (21 - i))), .second, .val (.int (Int32.ofNat i)), .val (.int (Int32.ofNat (n / 10 ^ (21 - i) % 10)))]) rfl κ) ?_
      show own_Go p e below _ Th (mkF m 178 #[.val (.ref a1), .val (.int (Int32.ofNat f)), .val (.int (Int32.ofNat E)), .val (.int ng), .val (.int (Int32.ofNat fs)), .val (.long lim), .second, .val (.long (own_r n (21 - i))), .second, .val (.int (Int32.ofNat i)), .val (.int (Int32.ofNat (n / 10 ^ (21 - i) % 10)))] [])
      refine own_st (fun τ κ => XT.iincV Xh.here hx rfl (1) (hb hby d2_178) (by decide) rfl (l' := #[.val (.ref a1), .val (.int (Int32.ofNat f)), .val (.int (Int32.ofNat E)), .val (.int ng), .val (.int (Int32.ofNat fs)), .val (.long lim), .second, .val (.long (own_r n (21 - i))), .second, .val (.int ((Int32.ofNat i) + (1 : Int32))), .val (.int (Int32.ofNat (n / 10 ^ (21 - i) % 10)))]) rfl κ) ?_
      show own_Go p e below _ Th (mkF m 181 #[.val (.ref a1), .val (.int (Int32.ofNat f)), .val (.int (Int32.ofNat E)), .val (.int ng), .val (.int (Int32.ofNat fs)), .val (.long lim), .second, .val (.long (own_r n (21 - i))), .second, .val (.int ((Int32.ofNat i) + (1 : Int32))), .val (.int (Int32.ofNat (n / 10 ^ (21 - i) % 10)))] [])
      rw [own_incN]
      show own_Go p e below _ Th (mkF m 181 #[.val (.ref a1), .val (.int (Int32.ofNat f)), .val (.int (Int32.ofNat E)), .val (.int ng), .val (.int (Int32.ofNat fs)), .val (.long lim), .second, .val (.long (own_r n (21 - i))), .second, .val (.int (Int32.ofNat (i + 1))), .val (.int (Int32.ofNat (n / 10 ^ (21 - i) % 10)))] [])
      refine own_st (fun τ κ => XS.goto Xh.here hx rfl (pc0 := 181) (pc' := 91) rfl (hb hby d2_181) (by decide) (by decide) κ) ?_
      show own_Go p e below _ Th (mkF m 91 #[.val (.ref a1), .val (.int (Int32.ofNat f)), .val (.int (Int32.ofNat E)), .val (.int ng), .val (.int (Int32.ofNat fs)), .val (.long lim), .second, .val (.long (own_r n (21 - i))), .second, .val (.int (Int32.ofNat (i + 1))), .val (.int (Int32.ofNat (n / 10 ^ (21 - i) % 10)))] [])
      have e22 : 21 - i = 22 - (i + 1) := by omega
      rw [e22]
      exact ih (i + 1) Th _ (by omega) (by omega) (Or.inr ⟨_, rfl, rfl⟩) Xh eh
  show own_Go p e below _ T (mkF m 0 #[.val (.ref a1), .val (.int (Int32.ofNat f)), .val (.int (Int32.ofNat E)), .unset, .unset, .unset, .unset, .unset, .unset, .unset, .unset] [])
  refine own_st (fun τ κ => XS.iloadN X.here hx rfl (hb hby d2_0) rfl κ) ?_
  show own_Go p e below _ T (mkF m 1 #[.val (.ref a1), .val (.int (Int32.ofNat f)), .val (.int (Int32.ofNat E)), .unset, .unset, .unset, .unset, .unset, .unset, .unset, .unset] [(.int (Int32.ofNat f))])
  refine own_st (fun τ κ => XS.iloadN X.here hx rfl (hb hby d2_1) rfl κ) ?_
  show own_Go p e below _ T (mkF m 2 #[.val (.ref a1), .val (.int (Int32.ofNat f)), .val (.int (Int32.ofNat E)), .unset, .unset, .unset, .unset, .unset, .unset, .unset, .unset] [(.int (Int32.ofNat E)), (.int (Int32.ofNat f))])
  refine own_st (fun τ κ => XS.icmpNo X.here hx rfl (hb hby d2_2) rfl (XT.ii_ge_f (own_ltN hfE (by omega))) κ) ?_
  show own_Go p e below _ T (mkF m 5 #[.val (.ref a1), .val (.int (Int32.ofNat f)), .val (.int (Int32.ofNat E)), .unset, .unset, .unset, .unset, .unset, .unset, .unset, .unset] [])
  refine own_st (fun τ κ => XS.aloadN X.here hx rfl (hb hby d2_5) rfl rfl κ) ?_
  show own_Go p e below _ T (mkF m 6 #[.val (.ref a1), .val (.int (Int32.ofNat f)), .val (.int (Int32.ofNat E)), .unset, .unset, .unset, .unset, .unset, .unset, .unset, .unset] [(.ref a1)])
  refine own_st (fun τ κ => XS.iloadN X.here hx rfl (hb hby d2_6) rfl κ) ?_
  show own_Go p e below _ T (mkF m 7 #[.val (.ref a1), .val (.int (Int32.ofNat f)), .val (.int (Int32.ofNat E)), .unset, .unset, .unset, .unset, .unset, .unset, .unset, .unset] [(.int (Int32.ofNat f)), (.ref a1)])
  refine own_ldB X hx hZ e0 A_a1 (own_ixN (i := f) (by omega) (by decide)) (x := (g f)) rfl (hb hby d2_7) ?_
  show own_Go p e below _ T (mkF m 8 #[.val (.ref a1), .val (.int (Int32.ofNat f)), .val (.int (Int32.ofNat E)), .unset, .unset, .unset, .unset, .unset, .unset, .unset, .unset] [(.int (g f))])
  refine own_st (fun τ κ => XT.bipushV X.here hx rfl (45) (hb hby d2_8) (by decide) κ) ?_
  show own_Go p e below _ T (mkF m 10 #[.val (.ref a1), .val (.int (Int32.ofNat f)), .val (.int (Int32.ofNat E)), .unset, .unset, .unset, .unset, .unset, .unset, .unset, .unset] [(.int (45 : Int32)), (.int (g f))])
  suffices J18 : own_Go p e below _ T (mkF m 18 #[.val (.ref a1), .val (.int (Int32.ofNat f)), .val (.int (Int32.ofNat E)), .unset, .unset, .unset, .unset, .unset, .unset, .unset, .unset] [(.int ng)]) by
    by_cases c10 : (g f) = (45 : Int32)
    · refine own_st (fun τ κ => XS.icmpNo X.here hx rfl (hb hby d2_10) rfl (XT.ii_ne_f c10) κ) ?_
      show own_Go p e below _ T (mkF m 13 #[.val (.ref a1), .val (.int (Int32.ofNat f)), .val (.int (Int32.ofNat E)), .unset, .unset, .unset, .unset, .unset, .unset, .unset, .unset] [])
      refine own_st (fun τ κ => XT.iconstV X.here hx rfl (1) (hb hby d2_13) (by decide) κ) ?_
      show own_Go p e below _ T (mkF m 14 #[.val (.ref a1), .val (.int (Int32.ofNat f)), .val (.int (Int32.ofNat E)), .unset, .unset, .unset, .unset, .unset, .unset, .unset, .unset] [(.int (1 : Int32))])
      refine own_st (fun τ κ => XS.goto X.here hx rfl (pc0 := 14) (pc' := 18) rfl (hb hby d2_14) (by decide) (by decide) κ) ?_
      show own_Go p e below _ T (mkF m 18 #[.val (.ref a1), .val (.int (Int32.ofNat f)), .val (.int (Int32.ofNat E)), .unset, .unset, .unset, .unset, .unset, .unset, .unset, .unset] [(.int (1 : Int32))])
      rw [hsg.mp c10] at J18
      exact J18
    · refine own_st (fun τ κ => XS.icmpYes X.here hx rfl (pc0 := 10) (pc' := 17) rfl (hb hby d2_10) rfl (XT.ii_ne_t c10) (by decide) (by decide) κ) ?_
      show own_Go p e below _ T (mkF m 17 #[.val (.ref a1), .val (.int (Int32.ofNat f)), .val (.int (Int32.ofNat E)), .unset, .unset, .unset, .unset, .unset, .unset, .unset, .unset] [])
      refine own_st (fun τ κ => XT.iconstV X.here hx rfl (0) (hb hby d2_17) (by decide) κ) ?_
      show own_Go p e below _ T (mkF m 18 #[.val (.ref a1), .val (.int (Int32.ofNat f)), .val (.int (Int32.ofNat E)), .unset, .unset, .unset, .unset, .unset, .unset, .unset, .unset] [(.int (0 : Int32))])
      rw [hng.resolve_left (fun q => c10 (hsg.mpr q))] at J18
      exact J18
  show own_Go p e below _ T (mkF m 18 #[.val (.ref a1), .val (.int (Int32.ofNat f)), .val (.int (Int32.ofNat E)), .unset, .unset, .unset, .unset, .unset, .unset, .unset, .unset] [(.int ng)])
  refine own_st (fun τ κ => XS.istoreN X.here hx rfl (hb hby d2_18) rfl (l' := #[.val (.ref a1), .val (.int (Int32.ofNat f)), .val (.int (Int32.ofNat E)), .val (.int ng), .unset, .unset, .unset, .unset, .unset, .unset, .unset]) rfl κ) ?_
  show own_Go p e below _ T (mkF m 19 #[.val (.ref a1), .val (.int (Int32.ofNat f)), .val (.int (Int32.ofNat E)), .val (.int ng), .unset, .unset, .unset, .unset, .unset, .unset, .unset] [])
  refine own_st (fun τ κ => XS.iloadN X.here hx rfl (hb hby d2_19) rfl κ) ?_
  show own_Go p e below _ T (mkF m 20 #[.val (.ref a1), .val (.int (Int32.ofNat f)), .val (.int (Int32.ofNat E)), .val (.int ng), .unset, .unset, .unset, .unset, .unset, .unset, .unset] [(.int ng)])
  suffices J30 : own_Go p e below _ T (mkF m 30 #[.val (.ref a1), .val (.int (Int32.ofNat f)), .val (.int (Int32.ofNat E)), .val (.int ng), .unset, .unset, .unset, .unset, .unset, .unset, .unset] [(.int (Int32.ofNat fs))]) by
    by_cases c20 : ng = (0 : Int32)
    · refine own_st (fun τ κ => XS.ifYes X.here hx rfl (pc0 := 20) (pc' := 29) rfl (hb hby d2_20) rfl (XT.i0_eq_t c20) (by decide) (by decide) κ) ?_
      show own_Go p e below _ T (mkF m 29 #[.val (.ref a1), .val (.int (Int32.ofNat f)), .val (.int (Int32.ofNat E)), .val (.int ng), .unset, .unset, .unset, .unset, .unset, .unset, .unset] [])
      refine own_st (fun τ κ => XS.iloadN X.here hx rfl (hb hby d2_29) rfl κ) ?_
      show own_Go p e below _ T (mkF m 30 #[.val (.ref a1), .val (.int (Int32.ofNat f)), .val (.int (Int32.ofNat E)), .val (.int ng), .unset, .unset, .unset, .unset, .unset, .unset, .unset] [(.int (Int32.ofNat f))])
      rw [show fs = f from (hfs.resolve_left (fun q => absurd (q.1.symm.trans c20) (by decide))).2] at J30
      exact J30
    · refine own_st (fun τ κ => XS.ifNo X.here hx rfl (hb hby d2_20) rfl (XT.i0_eq_f c20) κ) ?_
      show own_Go p e below _ T (mkF m 23 #[.val (.ref a1), .val (.int (Int32.ofNat f)), .val (.int (Int32.ofNat E)), .val (.int ng), .unset, .unset, .unset, .unset, .unset, .unset, .unset] [])
      refine own_st (fun τ κ => XS.iloadN X.here hx rfl (hb hby d2_23) rfl κ) ?_
      show own_Go p e below _ T (mkF m 24 #[.val (.ref a1), .val (.int (Int32.ofNat f)), .val (.int (Int32.ofNat E)), .val (.int ng), .unset, .unset, .unset, .unset, .unset, .unset, .unset] [(.int (Int32.ofNat f))])
      refine own_st (fun τ κ => XT.iconstV X.here hx rfl (1) (hb hby d2_24) (by decide) κ) ?_
      show own_Go p e below _ T (mkF m 25 #[.val (.ref a1), .val (.int (Int32.ofNat f)), .val (.int (Int32.ofNat E)), .val (.int ng), .unset, .unset, .unset, .unset, .unset, .unset, .unset] [(.int (1 : Int32)), (.int (Int32.ofNat f))])
      refine own_st (fun τ κ => XS.iadd X.here hx rfl (hb hby d2_25) rfl κ) ?_
      show own_Go p e below _ T (mkF m 26 #[.val (.ref a1), .val (.int (Int32.ofNat f)), .val (.int (Int32.ofNat E)), .val (.int ng), .unset, .unset, .unset, .unset, .unset, .unset, .unset] [(.int ((Int32.ofNat f) + (1 : Int32)))])
      refine own_st (fun τ κ => XS.goto X.here hx rfl (pc0 := 26) (pc' := 30) rfl (hb hby d2_26) (by decide) (by decide) κ) ?_
      show own_Go p e below _ T (mkF m 30 #[.val (.ref a1), .val (.int (Int32.ofNat f)), .val (.int (Int32.ofNat E)), .val (.int ng), .unset, .unset, .unset, .unset, .unset, .unset, .unset] [(.int ((Int32.ofNat f) + (1 : Int32)))])
      rw [(hfs.resolve_right (fun q => c20 q.1)).2] at J30
      rw [own_incN]
      exact J30
  show own_Go p e below _ T (mkF m 30 #[.val (.ref a1), .val (.int (Int32.ofNat f)), .val (.int (Int32.ofNat E)), .val (.int ng), .unset, .unset, .unset, .unset, .unset, .unset, .unset] [(.int (Int32.ofNat fs))])
  refine own_st (fun τ κ => XS.istore X.here hx rfl (hb hby d2_30) rfl (l' := #[.val (.ref a1), .val (.int (Int32.ofNat f)), .val (.int (Int32.ofNat E)), .val (.int ng), .val (.int (Int32.ofNat fs)), .unset, .unset, .unset, .unset, .unset, .unset]) rfl κ) ?_
  show own_Go p e below _ T (mkF m 32 #[.val (.ref a1), .val (.int (Int32.ofNat f)), .val (.int (Int32.ofNat E)), .val (.int ng), .val (.int (Int32.ofNat fs)), .unset, .unset, .unset, .unset, .unset, .unset] [])
  refine own_st (fun τ κ => XS.iload X.here hx rfl (hb hby d2_32) rfl κ) ?_
  show own_Go p e below _ T (mkF m 34 #[.val (.ref a1), .val (.int (Int32.ofNat f)), .val (.int (Int32.ofNat E)), .val (.int ng), .val (.int (Int32.ofNat fs)), .unset, .unset, .unset, .unset, .unset, .unset] [(.int (Int32.ofNat fs))])
  refine own_st (fun τ κ => XS.iloadN X.here hx rfl (hb hby d2_34) rfl κ) ?_
  show own_Go p e below _ T (mkF m 35 #[.val (.ref a1), .val (.int (Int32.ofNat f)), .val (.int (Int32.ofNat E)), .val (.int ng), .val (.int (Int32.ofNat fs)), .unset, .unset, .unset, .unset, .unset, .unset] [(.int (Int32.ofNat E)), (.int (Int32.ofNat fs))])
  refine own_st (fun τ κ => XS.icmpNo X.here hx rfl (hb hby d2_35) rfl (XT.ii_eq_f (own_neN (by omega) (by omega) (by omega))) κ) ?_
  show own_Go p e below _ T (mkF m 38 #[.val (.ref a1), .val (.int (Int32.ofNat f)), .val (.int (Int32.ofNat E)), .val (.int ng), .val (.int (Int32.ofNat fs)), .unset, .unset, .unset, .unset, .unset, .unset] [])
  refine own_st (fun τ κ => XS.aloadN X.here hx rfl (hb hby d2_38) rfl rfl κ) ?_
  show own_Go p e below _ T (mkF m 39 #[.val (.ref a1), .val (.int (Int32.ofNat f)), .val (.int (Int32.ofNat E)), .val (.int ng), .val (.int (Int32.ofNat fs)), .unset, .unset, .unset, .unset, .unset, .unset] [(.ref a1)])
  refine own_st (fun τ κ => XS.iload X.here hx rfl (hb hby d2_39) rfl κ) ?_
  show own_Go p e below _ T (mkF m 41 #[.val (.ref a1), .val (.int (Int32.ofNat f)), .val (.int (Int32.ofNat E)), .val (.int ng), .val (.int (Int32.ofNat fs)), .unset, .unset, .unset, .unset, .unset, .unset] [(.int (Int32.ofNat fs)), (.ref a1)])
  refine own_ldB X hx hZ e0 A_a1 (own_ixN (i := fs) (by omega) (by decide)) (x := (own_dig n fs)) (hdig fs (Nat.le_refl _) (by omega)) (hb hby d2_41) ?_
  show own_Go p e below _ T (mkF m 42 #[.val (.ref a1), .val (.int (Int32.ofNat f)), .val (.int (Int32.ofNat E)), .val (.int ng), .val (.int (Int32.ofNat fs)), .unset, .unset, .unset, .unset, .unset, .unset] [(.int (own_dig n fs))])
  refine own_st (fun τ κ => XT.bipushV X.here hx rfl (48) (hb hby d2_42) (by decide) κ) ?_
  show own_Go p e below _ T (mkF m 44 #[.val (.ref a1), .val (.int (Int32.ofNat f)), .val (.int (Int32.ofNat E)), .val (.int ng), .val (.int (Int32.ofNat fs)), .unset, .unset, .unset, .unset, .unset, .unset] [(.int (48 : Int32)), (.int (own_dig n fs))])
  suffices J69 : own_Go p e below _ T (mkF m 69 #[.val (.ref a1), .val (.int (Int32.ofNat f)), .val (.int (Int32.ofNat E)), .val (.int ng), .val (.int (Int32.ofNat fs)), .unset, .unset, .unset, .unset, .unset, .unset] []) by
    by_cases c44 : (own_dig n fs) = (48 : Int32)
    · refine own_st (fun τ κ => XS.icmpNo X.here hx rfl (hb hby d2_44) rfl (XT.ii_ne_f c44) κ) ?_
      show own_Go p e below _ T (mkF m 47 #[.val (.ref a1), .val (.int (Int32.ofNat f)), .val (.int (Int32.ofNat E)), .val (.int ng), .val (.int (Int32.ofNat fs)), .unset, .unset, .unset, .unset, .unset, .unset] [])
      obtain ⟨hz1, hz2⟩ := hz c44
      refine own_st (fun τ κ => XS.iloadN X.here hx rfl (hb hby d2_47) rfl κ) ?_
      show own_Go p e below _ T (mkF m 48 #[.val (.ref a1), .val (.int (Int32.ofNat f)), .val (.int (Int32.ofNat E)), .val (.int ng), .val (.int (Int32.ofNat fs)), .unset, .unset, .unset, .unset, .unset, .unset] [(.int (Int32.ofNat E))])
      refine own_st (fun τ κ => XS.iload X.here hx rfl (hb hby d2_48) rfl κ) ?_
      show own_Go p e below _ T (mkF m 50 #[.val (.ref a1), .val (.int (Int32.ofNat f)), .val (.int (Int32.ofNat E)), .val (.int ng), .val (.int (Int32.ofNat fs)), .unset, .unset, .unset, .unset, .unset, .unset] [(.int (Int32.ofNat fs)), (.int (Int32.ofNat E))])
      refine own_st (fun τ κ => XS.isub X.here hx rfl (hb hby d2_50) rfl κ) ?_
      show own_Go p e below _ T (mkF m 51 #[.val (.ref a1), .val (.int (Int32.ofNat f)), .val (.int (Int32.ofNat E)), .val (.int ng), .val (.int (Int32.ofNat fs)), .unset, .unset, .unset, .unset, .unset, .unset] [(.int ((Int32.ofNat E) - (Int32.ofNat fs)))])
      refine own_st (fun τ κ => XT.iconstV X.here hx rfl (1) (hb hby d2_51) (by decide) κ) ?_
      show own_Go p e below _ T (mkF m 52 #[.val (.ref a1), .val (.int (Int32.ofNat f)), .val (.int (Int32.ofNat E)), .val (.int ng), .val (.int (Int32.ofNat fs)), .unset, .unset, .unset, .unset, .unset, .unset] [(.int (1 : Int32)), (.int ((Int32.ofNat E) - (Int32.ofNat fs)))])
      have hone : ¬ (1 : Int32) < (Int32.ofNat E - Int32.ofNat fs) := by
        rw [hz1, own_subN (by omega)]
        decide
      refine own_st (fun τ κ => XS.icmpNo X.here hx rfl (hb hby d2_52) rfl (XT.ii_gt_f hone) κ) ?_
      show own_Go p e below _ T (mkF m 55 #[.val (.ref a1), .val (.int (Int32.ofNat f)), .val (.int (Int32.ofNat E)), .val (.int ng), .val (.int (Int32.ofNat fs)), .unset, .unset, .unset, .unset, .unset, .unset] [])
      refine own_st (fun τ κ => XS.iloadN X.here hx rfl (hb hby d2_55) rfl κ) ?_
      show own_Go p e below _ T (mkF m 56 #[.val (.ref a1), .val (.int (Int32.ofNat f)), .val (.int (Int32.ofNat E)), .val (.int ng), .val (.int (Int32.ofNat fs)), .unset, .unset, .unset, .unset, .unset, .unset] [(.int ng)])
      refine own_st (fun τ κ => XS.ifYes X.here hx rfl (pc0 := 56) (pc' := 69) rfl (hb hby d2_56) rfl (XT.i0_eq_t hz2) (by decide) (by decide) κ) ?_
      show own_Go p e below _ T (mkF m 69 #[.val (.ref a1), .val (.int (Int32.ofNat f)), .val (.int (Int32.ofNat E)), .val (.int ng), .val (.int (Int32.ofNat fs)), .unset, .unset, .unset, .unset, .unset, .unset] [])
      exact J69
    · refine own_st (fun τ κ => XS.icmpYes X.here hx rfl (pc0 := 44) (pc' := 69) rfl (hb hby d2_44) rfl (XT.ii_ne_t c44) (by decide) (by decide) κ) ?_
      show own_Go p e below _ T (mkF m 69 #[.val (.ref a1), .val (.int (Int32.ofNat f)), .val (.int (Int32.ofNat E)), .val (.int ng), .val (.int (Int32.ofNat fs)), .unset, .unset, .unset, .unset, .unset, .unset] [])
      exact J69
  show own_Go p e below _ T (mkF m 69 #[.val (.ref a1), .val (.int (Int32.ofNat f)), .val (.int (Int32.ofNat E)), .val (.int ng), .val (.int (Int32.ofNat fs)), .unset, .unset, .unset, .unset, .unset, .unset] [])
  refine own_st (fun τ κ => XS.iloadN X.here hx rfl (hb hby d2_69) rfl κ) ?_
  show own_Go p e below _ T (mkF m 70 #[.val (.ref a1), .val (.int (Int32.ofNat f)), .val (.int (Int32.ofNat E)), .val (.int ng), .val (.int (Int32.ofNat fs)), .unset, .unset, .unset, .unset, .unset, .unset] [(.int ng)])
  suffices J82 : own_Go p e below _ T (mkF m 82 #[.val (.ref a1), .val (.int (Int32.ofNat f)), .val (.int (Int32.ofNat E)), .val (.int ng), .val (.int (Int32.ofNat fs)), .unset, .unset, .unset, .unset, .unset, .unset] [(.long lim)]) by
    by_cases c70 : ng = (0 : Int32)
    · refine own_st (fun τ κ => XS.ifYes X.here hx rfl (pc0 := 70) (pc' := 79) rfl (hb hby d2_70) rfl (XT.i0_eq_t c70) (by decide) (by decide) κ) ?_
      show own_Go p e below _ T (mkF m 79 #[.val (.ref a1), .val (.int (Int32.ofNat f)), .val (.int (Int32.ofNat E)), .val (.int ng), .val (.int (Int32.ofNat fs)), .unset, .unset, .unset, .unset, .unset, .unset] [])
      refine own_st (fun τ κ => Stand.ldc2J X hx hown (mvT hZ (hw _ (List.mem_of_getElem? (i := 10) rfl))) rfl (hb hby d2_79) κ) ?_
      show own_Go p e below _ T (mkF m 82 #[.val (.ref a1), .val (.int (Int32.ofNat f)), .val (.int (Int32.ofNat E)), .val (.int ng), .val (.int (Int32.ofNat fs)), .unset, .unset, .unset, .unset, .unset, .unset] [(.long (-9223372036854775807 : Int64))])
      rw [hlm.2 c70] at J82
      exact J82
    · refine own_st (fun τ κ => XS.ifNo X.here hx rfl (hb hby d2_70) rfl (XT.i0_eq_f c70) κ) ?_
      show own_Go p e below _ T (mkF m 73 #[.val (.ref a1), .val (.int (Int32.ofNat f)), .val (.int (Int32.ofNat E)), .val (.int ng), .val (.int (Int32.ofNat fs)), .unset, .unset, .unset, .unset, .unset, .unset] [])
      refine own_st (fun τ κ => Stand.ldc2J X hx hown (mvT hZ (hw _ (List.mem_of_getElem? (i := 13) rfl))) rfl (hb hby d2_73) κ) ?_
      show own_Go p e below _ T (mkF m 76 #[.val (.ref a1), .val (.int (Int32.ofNat f)), .val (.int (Int32.ofNat E)), .val (.int ng), .val (.int (Int32.ofNat fs)), .unset, .unset, .unset, .unset, .unset, .unset] [(.long (-9223372036854775808 : Int64))])
      refine own_st (fun τ κ => XS.goto X.here hx rfl (pc0 := 76) (pc' := 82) rfl (hb hby d2_76) (by decide) (by decide) κ) ?_
      show own_Go p e below _ T (mkF m 82 #[.val (.ref a1), .val (.int (Int32.ofNat f)), .val (.int (Int32.ofNat E)), .val (.int ng), .val (.int (Int32.ofNat fs)), .unset, .unset, .unset, .unset, .unset, .unset] [(.long (-9223372036854775808 : Int64))])
      rw [hlm.1 c70] at J82
      exact J82
  show own_Go p e below _ T (mkF m 82 #[.val (.ref a1), .val (.int (Int32.ofNat f)), .val (.int (Int32.ofNat E)), .val (.int ng), .val (.int (Int32.ofNat fs)), .unset, .unset, .unset, .unset, .unset, .unset] [(.long lim)])
  refine own_st (fun τ κ => XS.lstore X.here hx rfl (hb hby d2_82) rfl (l' := #[.val (.ref a1), .val (.int (Int32.ofNat f)), .val (.int (Int32.ofNat E)), .val (.int ng), .val (.int (Int32.ofNat fs)), .val (.long lim), .second, .unset, .unset, .unset, .unset]) rfl κ) ?_
  show own_Go p e below _ T (mkF m 84 #[.val (.ref a1), .val (.int (Int32.ofNat f)), .val (.int (Int32.ofNat E)), .val (.int ng), .val (.int (Int32.ofNat fs)), .val (.long lim), .second, .unset, .unset, .unset, .unset] [])
  refine own_st (fun τ κ => XT.lconstV X.here hx rfl (0) (hb hby d2_84) (by decide) κ) ?_
  show own_Go p e below _ T (mkF m 85 #[.val (.ref a1), .val (.int (Int32.ofNat f)), .val (.int (Int32.ofNat E)), .val (.int ng), .val (.int (Int32.ofNat fs)), .val (.long lim), .second, .unset, .unset, .unset, .unset] [(.long (0 : Int64))])
  refine own_st (fun τ κ => XS.lstore X.here hx rfl (hb hby d2_85) rfl (l' := #[.val (.ref a1), .val (.int (Int32.ofNat f)), .val (.int (Int32.ofNat E)), .val (.int ng), .val (.int (Int32.ofNat fs)), .val (.long lim), .second, .val (.long (0 : Int64)), .second, .unset, .unset]) rfl κ) ?_
  show own_Go p e below _ T (mkF m 87 #[.val (.ref a1), .val (.int (Int32.ofNat f)), .val (.int (Int32.ofNat E)), .val (.int ng), .val (.int (Int32.ofNat fs)), .val (.long lim), .second, .val (.long (0 : Int64)), .second, .unset, .unset] [])
  refine own_st (fun τ κ => XS.iload X.here hx rfl (hb hby d2_87) rfl κ) ?_
  show own_Go p e below _ T (mkF m 89 #[.val (.ref a1), .val (.int (Int32.ofNat f)), .val (.int (Int32.ofNat E)), .val (.int ng), .val (.int (Int32.ofNat fs)), .val (.long lim), .second, .val (.long (0 : Int64)), .second, .unset, .unset] [(.int (Int32.ofNat fs))])
  refine own_st (fun τ κ => XS.istore X.here hx rfl (hb hby d2_89) rfl (l' := #[.val (.ref a1), .val (.int (Int32.ofNat f)), .val (.int (Int32.ofNat E)), .val (.int ng), .val (.int (Int32.ofNat fs)), .val (.long lim), .second, .val (.long (0 : Int64)), .second, .val (.int (Int32.ofNat fs)), .unset]) rfl κ) ?_
  show own_Go p e below _ T (mkF m 91 #[.val (.ref a1), .val (.int (Int32.ofNat f)), .val (.int (Int32.ofNat E)), .val (.int ng), .val (.int (Int32.ofNat fs)), .val (.long lim), .second, .val (.long (0 : Int64)), .second, .val (.int (Int32.ofNat fs)), .unset] [])
  have e0r : (0 : Int64) = own_r n (22 - fs) := ((own_r_zero hlim.int.1 _).mpr hlast).symm
  rw [e0r]
  exact loop (E - fs) fs T .unset (by omega) (Nat.le_refl _) (Or.inl rfl) X e0

set_option maxRecDepth 65536 in
set_option maxHeartbeats 40000000 in
theorem rm0 (l : Launch) (Z : State) (a0 : Array Value) (hw : ∀ d ∈ tables_1, d.before a0 Z = true) (q1 : Int64) (p2 : Int32) (h0 : Heap) (n0 : Nat) (Z0 : n0 ≤ h0.size) :
    own_Met l Z h0 x code maxLocals ret room_1 #[(.long q1), (.int p2)] (fun v h L => v = some (.int (1 : Int32)) ∧ Fr n0 L) := by
  refine own_body pn_0 (fun m => ef_0 m q1 p2) ?_
  intro p e s m below meth c T X hx hby hml hret hlk hown hnm hZ e0
  have hown : s.vm.findClass "com/example/inchworm/inchworm/server/DecimalParsePinLaw" = some m.cls := hown
  have hml : c.maxLocals = 5 := hml
  have N0 : Fr n0 ([] : List Loc) := Fr.nil n0
  show own_Go p e below _ T (mkF m 0 #[.val (.long q1), .second, .val (.int p2), .unset, .unset] [])
  obtain ⟨n, hnn⟩ : ∃ n : Nat, n = q1.toInt.natAbs := ⟨_, rfl⟩
  have hb1 := q1.toInt_lt
  have hb2 := q1.le_toInt
  have hn : n ≤ 9223372036854775808 := by omega
  obtain ⟨D, hD⟩ := own_D n hn
  have hD1 := hD.1
  have hD2 := hD.2.1
  have hv : (q1 < (0 : Int64) ∧ q1.toInt = -(n : Int)) ∨ (¬ q1 < (0 : Int64) ∧ q1.toInt = (n : Int)) := by
    rw [Int64.lt_iff_toInt_lt, own_zero]
    omega
  refine own_st (fun τ κ => XT.bipushV X.here hx rfl (22) (hb hby at_0) (by decide) κ) ?_
  show own_Go p e below _ T (mkF m 2 #[.val (.long q1), .second, .val (.int p2), .unset, .unset] [(.int (22 : Int32))])
  refine own_newP X hx hZ e0 (hw _ (List.mem_of_getElem? (i := 0) rfl)) (hb hby at_2) (by decide) 22 (by decide) (by decide) (by decide) (by decide) ?_
  intro T1 h1 o1 X1 e1 E1 g1 A_o1
  have ga_o1 : n0 ≤ o1 := by omega
  have Z1 : n0 ≤ h1.size := Nat.le_trans Z0 E1.1
  have A_o1 : own_BA Z h1 o1 22 (fun _ => (0 : Int32)) := A_o1
  show own_Go p e below _ T1 (mkF m 4 #[.val (.long q1), .second, .val (.int p2), .unset, .unset] [(.ref o1)])
  refine own_st (fun τ κ => XS.astoreN X1.here hx rfl (hb hby at_4) rfl rfl (l' := #[.val (.long q1), .second, .val (.int p2), .val (.ref o1), .unset]) rfl κ) ?_
  show own_Go p e below _ T1 (mkF m 5 #[.val (.long q1), .second, .val (.int p2), .val (.ref o1), .unset] [])
  refine own_st (fun τ κ => XS.lloadN X1.here hx rfl (hb hby at_5) rfl κ) ?_
  show own_Go p e below _ T1 (mkF m 6 #[.val (.long q1), .second, .val (.int p2), .val (.ref o1), .unset] [(.long q1)])
  refine own_st (fun τ κ => XS.aloadN X1.here hx rfl (hb hby at_6) rfl rfl κ) ?_
  show own_Go p e below _ T1 (mkF m 7 #[.val (.long q1), .second, .val (.int p2), .val (.ref o1), .unset] [(.ref o1), (.long q1)])
  refine own_callS X1 hx hZ e1 hown (hw _ (List.mem_of_getElem? (i := 1) rfl)) (hw _ (List.mem_of_getElem? (i := 2) rfl)) (hw _ (List.mem_of_getElem? (i := 3) rfl)) (hw _ (List.mem_of_getElem? (i := 4) rfl)) (by decide) pd_1 (argsL := [(.long q1), (.ref o1)]) rfl (rm1 l Z a0 hw q1 o1 _ n hn D hD hv h1 n0 Z1 ga_o1 A_o1) 0 (by decide) (by decide) (by decide) (by decide) (rest := []) rfl (by rw [hml]; rfl) (Nat.le_of_eq rfl) (hb hby at_7) ?_
  intro v2 T2 L2 hQ2 X2
  obtain ⟨st, rfl, Nq2, K2, g, B2, hg, hst⟩ := hQ2
  have N2 := Fr.app N0 Nq2
  have e2 : T2.heap = T2.heap := rfl
  have A_o1 := B2
  have Z2 : n0 ≤ T2.heap.size := Nat.le_trans Z1 K2.1
  have hs2 : 2 ≤ st ∧ st ≤ 21 := by omega
  obtain ⟨s1, hs1⟩ : ∃ s1, st = s1 + 1 := ⟨st - 1, by omega⟩
  have hlt2 : ¬ Int32.ofNat st < (2 : Int32) := fun q => by
    rw [Int32.lt_iff_toInt_lt, own_i32 (by omega), show (2 : Int32).toInt = 2 from by decide] at q
    omega
  have hgt21 : ¬ (21 : Int32) < Int32.ofNat st := fun q => by
    rw [Int32.lt_iff_toInt_lt, own_i32 (by omega), show (21 : Int32).toInt = 21 from by decide] at q
    omega
  show own_Go p e below _ T2 (mkF m 10 #[.val (.long q1), .second, .val (.int p2), .val (.ref o1), .unset] [(.int (Int32.ofNat st))])
  refine own_st (fun τ κ => XS.istore X2.here hx rfl (hb hby at_10) rfl (l' := #[.val (.long q1), .second, .val (.int p2), .val (.ref o1), .val (.int (Int32.ofNat st))]) rfl κ) ?_
  show own_Go p e below _ T2 (mkF m 12 #[.val (.long q1), .second, .val (.int p2), .val (.ref o1), .val (.int (Int32.ofNat st))] [])
  refine own_st (fun τ κ => XS.iload X2.here hx rfl (hb hby at_12) rfl κ) ?_
  show own_Go p e below _ T2 (mkF m 14 #[.val (.long q1), .second, .val (.int p2), .val (.ref o1), .val (.int (Int32.ofNat st))] [(.int (Int32.ofNat st))])
  refine own_st (fun τ κ => XT.iconstV X2.here hx rfl (2) (hb hby at_14) (by decide) κ) ?_
  show own_Go p e below _ T2 (mkF m 15 #[.val (.long q1), .second, .val (.int p2), .val (.ref o1), .val (.int (Int32.ofNat st))] [(.int (2 : Int32)), (.int (Int32.ofNat st))])
  refine own_st (fun τ κ => XS.icmpNo X2.here hx rfl (hb hby at_15) rfl (XT.ii_lt_f hlt2) κ) ?_
  show own_Go p e below _ T2 (mkF m 18 #[.val (.long q1), .second, .val (.int p2), .val (.ref o1), .val (.int (Int32.ofNat st))] [])
  refine own_st (fun τ κ => XS.iload X2.here hx rfl (hb hby at_18) rfl κ) ?_
  show own_Go p e below _ T2 (mkF m 20 #[.val (.long q1), .second, .val (.int p2), .val (.ref o1), .val (.int (Int32.ofNat st))] [(.int (Int32.ofNat st))])
  refine own_st (fun τ κ => XT.bipushV X2.here hx rfl (21) (hb hby at_20) (by decide) κ) ?_
  show own_Go p e below _ T2 (mkF m 22 #[.val (.long q1), .second, .val (.int p2), .val (.ref o1), .val (.int (Int32.ofNat st))] [(.int (21 : Int32)), (.int (Int32.ofNat st))])
  refine own_st (fun τ κ => XS.icmpYes X2.here hx rfl (pc0 := 22) (pc' := 27) rfl (hb hby at_22) rfl (XT.ii_le_t hgt21) (by decide) (by decide) κ) ?_
  show own_Go p e below _ T2 (mkF m 27 #[.val (.long q1), .second, .val (.int p2), .val (.ref o1), .val (.int (Int32.ofNat st))] [])
  refine own_st (fun τ κ => XS.aloadN X2.here hx rfl (hb hby at_27) rfl rfl κ) ?_
  show own_Go p e below _ T2 (mkF m 28 #[.val (.long q1), .second, .val (.int p2), .val (.ref o1), .val (.int (Int32.ofNat st))] [(.ref o1)])
  refine own_st (fun τ κ => XS.iload X2.here hx rfl (hb hby at_28) rfl κ) ?_
  show own_Go p e below _ T2 (mkF m 30 #[.val (.long q1), .second, .val (.int p2), .val (.ref o1), .val (.int (Int32.ofNat st))] [(.int (Int32.ofNat st)), (.ref o1)])
  refine own_st (fun τ κ => XT.iconstV X2.here hx rfl (1) (hb hby at_30) (by decide) κ) ?_
  show own_Go p e below _ T2 (mkF m 31 #[.val (.long q1), .second, .val (.int p2), .val (.ref o1), .val (.int (Int32.ofNat st))] [(.int (1 : Int32)), (.int (Int32.ofNat st)), (.ref o1)])
  refine own_st (fun τ κ => XS.isub X2.here hx rfl (hb hby at_31) rfl κ) ?_
  show own_Go p e below _ T2 (mkF m 32 #[.val (.long q1), .second, .val (.int p2), .val (.ref o1), .val (.int (Int32.ofNat st))] [(.int ((Int32.ofNat st) - (1 : Int32))), (.ref o1)])
  have hdec : Int32.ofNat st - (1 : Int32) = Int32.ofNat s1 := by
    rw [hs1, Nat.add_comm]
    exact own_subN (i := 1) (by omega)
  rw [hdec]
  show own_Go p e below _ T2 (mkF m 32 #[.val (.long q1), .second, .val (.int p2), .val (.ref o1), .val (.int (Int32.ofNat st))] [(.int (Int32.ofNat s1)), (.ref o1)])
  refine own_st (fun τ κ => XS.iloadN X2.here hx rfl (hb hby at_32) rfl κ) ?_
  show own_Go p e below _ T2 (mkF m 33 #[.val (.long q1), .second, .val (.int p2), .val (.ref o1), .val (.int (Int32.ofNat st))] [(.int p2), (.int (Int32.ofNat s1)), (.ref o1)])
  refine own_st (fun τ κ => XT.i2b X2.here hx rfl (hb hby at_33) rfl κ) ?_
  show own_Go p e below _ T2 (mkF m 34 #[.val (.long q1), .second, .val (.int p2), .val (.ref o1), .val (.int (Int32.ofNat st))] [(.int (p2.toInt8.toInt32)), (.int (Int32.ofNat s1)), (.ref o1)])
  refine own_stB X2 hx hZ e2 A_o1 (own_ixN (i := s1) (by omega) (by decide)) N2 ga_o1 (hb hby at_34) ?_
  intro T3 h3 X3 e3 B3 K3 N3
  have A_o1 := B3
  have Z3 : n0 ≤ h3.size := Nat.le_trans Z2 K3.1
  show own_Go p e below _ T3 (mkF m 35 #[.val (.long q1), .second, .val (.int p2), .val (.ref o1), .val (.int (Int32.ofNat st))] [])
  refine own_st (fun τ κ => XS.aloadN X3.here hx rfl (hb hby at_35) rfl rfl κ) ?_
  show own_Go p e below _ T3 (mkF m 36 #[.val (.long q1), .second, .val (.int p2), .val (.ref o1), .val (.int (Int32.ofNat st))] [(.ref o1)])
  refine own_st (fun τ κ => XS.iload X3.here hx rfl (hb hby at_36) rfl κ) ?_
  show own_Go p e below _ T3 (mkF m 38 #[.val (.long q1), .second, .val (.int p2), .val (.ref o1), .val (.int (Int32.ofNat st))] [(.int (Int32.ofNat st)), (.ref o1)])
  refine own_st (fun τ κ => XT.bipushV X3.here hx rfl (22) (hb hby at_38) (by decide) κ) ?_
  show own_Go p e below _ T3 (mkF m 40 #[.val (.long q1), .second, .val (.int p2), .val (.ref o1), .val (.int (Int32.ofNat st))] [(.int (22 : Int32)), (.int (Int32.ofNat st)), (.ref o1)])
  have hg2 : ∀ j, st ≤ j → own_upd g s1 (p2.toInt8.toInt32).toInt8.toInt32 j = g j := fun j hj => by
    unfold own_upd
    rw [if_neg (by omega)]
  generalize own_upd g s1 (p2.toInt8.toInt32).toInt8.toInt32 = g2 at hg2 A_o1
  obtain ⟨ng, hng⟩ : ∃ ng : Int32, ng = if q1 < (0 : Int64) then (1 : Int32) else 0 := ⟨_, rfl⟩
  obtain ⟨lim, hlim⟩ : ∃ lim : Int64, lim = if q1 < (0 : Int64) then (-9223372036854775808 : Int64) else (-9223372036854775807 : Int64) := ⟨_, rfl⟩
  have hL : own_lim lim n := by
    by_cases q : q1 < (0 : Int64)
    · rw [if_pos q] at hlim
      exact Or.inl ⟨hlim, hn⟩
    · rw [if_neg q] at hlim
      exact Or.inr ⟨hlim, by have := (hv.resolve_left (fun z => q z.1)).2; omega⟩
  have hng01 : ng = (1 : Int32) ∨ ng = (0 : Int32) := by
    by_cases q : q1 < (0 : Int64)
    · rw [if_pos q] at hng
      exact Or.inl hng
    · rw [if_neg q] at hng
      exact Or.inr hng
  have hneg : ng = (1 : Int32) ↔ q1 < (0 : Int64) := by
    by_cases q : q1 < (0 : Int64)
    · rw [if_pos q] at hng
      exact ⟨fun _ => q, fun _ => hng⟩
    · rw [if_neg q] at hng
      exact ⟨fun z => absurd (z.symm.trans hng) (by decide), fun z => absurd z q⟩
  have hpos : ng = (0 : Int32) ↔ ¬ q1 < (0 : Int64) := by
    by_cases q : q1 < (0 : Int64)
    · rw [if_pos q] at hng
      exact ⟨fun z => absurd (z.symm.trans hng) (by decide), fun z => absurd q z⟩
    · rw [if_neg q] at hng
      exact ⟨fun _ => q, fun _ => hng⟩
  have hlm : (¬ ng = (0 : Int32) → lim = (-9223372036854775808 : Int64)) ∧ (ng = (0 : Int32) → lim = (-9223372036854775807 : Int64)) := by
    by_cases q : q1 < (0 : Int64)
    · rw [if_pos q] at hlim
      exact ⟨fun _ => hlim, fun z => absurd q (hpos.mp z)⟩
    · rw [if_neg q] at hlim
      exact ⟨fun z => absurd (hpos.mpr q) z, fun _ => hlim⟩
  have hfs : (ng = (1 : Int32) ∧ 22 - D = st + 1) ∨ (ng = (0 : Int32) ∧ 22 - D = st) := by
    rcases hst with ⟨q, h1, -⟩ | ⟨q, h1⟩
    · exact Or.inl ⟨hneg.mpr q, by omega⟩
    · exact Or.inr ⟨hpos.mpr q, by omega⟩
  have hdig : ∀ j, 22 - D ≤ j → j < 22 → g2 j = own_dig n j := fun j h1 h2 => by
    rw [hg2 j (by omega)]
    exact hg j h1 h2
  have hsg : g2 st = (45 : Int32) ↔ ng = (1 : Int32) := by
    rcases hst with ⟨q, h1, h2⟩ | ⟨q, h1⟩
    · rw [hg2 st (Nat.le_refl _)]
      exact ⟨fun _ => hneg.mpr q, fun _ => h2⟩
    · rw [hdig st (by omega) (by omega)]
      exact ⟨fun z => absurd z (own_dig_45 n st), fun z => absurd (hneg.mp z) q⟩
  have hlast : n / 10 ^ (22 - (22 - D)) = 0 := by
    rw [show 22 - (22 - D) = D from by omega]
    exact hD.last
  have hzz : own_dig n (22 - D) = (48 : Int32) → n = 0 ∧ D = 1 := fun z => by
    have := own_dig_48 z
    rw [show 21 - (22 - D) = D - 1 from by omega] at this
    exact hD.first this
  have hz22 : own_dig n (22 - D) = (48 : Int32) → 22 = 22 - D + 1 ∧ ng = (0 : Int32) := fun z => by
    obtain ⟨z1, z2⟩ := hzz z
    refine ⟨by omega, hpos.mpr (fun q => ?_)⟩
    rw [Int64.lt_iff_toInt_lt, own_zero] at q
    omega
  have hval : (if ng = (0 : Int32) then (-(own_r n (22 - 22))) else own_r n (22 - 22)) = q1 := by
    show (if ng = (0 : Int32) then (-(own_r n 0)) else own_r n 0) = q1
    by_cases q : q1 < (0 : Int64)
    · rw [if_neg (fun z => hpos.mp z q)]
      exact own_r_neg hn (hv.resolve_right (fun z => z.1 q)).2
    · rw [if_pos (hpos.mpr q), own_r_pos hn (hv.resolve_left (fun z => q z.1)).2, Int64.neg_neg]
  show own_Go p e below _ T3 (mkF m 40 #[.val (.long q1), .second, .val (.int p2), .val (.ref o1), .val (.int (Int32.ofNat st))] [(.int (22 : Int32)), (.int (Int32.ofNat st)), (.ref o1)])
  refine own_callS X3 hx hZ e3 hown (hw _ (List.mem_of_getElem? (i := 7) rfl)) (hw _ (List.mem_of_getElem? (i := 8) rfl)) (hw _ (List.mem_of_getElem? (i := 3) rfl)) (hw _ (List.mem_of_getElem? (i := 9) rfl)) (by decide) pd_2 (argsL := [(.ref o1), (.int (Int32.ofNat st)), (.int (22 : Int32))]) rfl (rm2 l Z a0 hw o1 st (22 - D) 22 (by decide) (by omega) (by omega) n ng ng rfl lim hL hng01 hlm hfs g2 hsg hdig hlast (hz22) h3 n0 A_o1) 0 (by decide) (by decide) (by decide) (by decide) (rest := []) rfl (by rw [hml]; rfl) (Nat.le_of_eq rfl) (hb hby at_40) ?_
  intro v4 T4 L4 hQ4 X4
  obtain ⟨rfl, Nq4, e4⟩ := hQ4
  have N4 := Fr.app N3 Nq4
  show own_Go p e below _ T4 (mkF m 43 #[.val (.long q1), .second, .val (.int p2), .val (.ref o1), .val (.int (Int32.ofNat st))] [(.long (if ng = (0 : Int32) then (-(own_r n (22 - 22))) else own_r n (22 - 22)))])
  refine own_st (fun τ κ => XS.lloadN X4.here hx rfl (hb hby at_43) rfl κ) ?_
  show own_Go p e below _ T4 (mkF m 44 #[.val (.long q1), .second, .val (.int p2), .val (.ref o1), .val (.int (Int32.ofNat st))] [(.long q1), (.long (if ng = (0 : Int32) then (-(own_r n (22 - 22))) else own_r n (22 - 22)))])
  refine own_st (fun τ κ => XT.lcmp X4.here hx rfl (hb hby at_44) rfl κ) ?_
  show own_Go p e below _ T4 (mkF m 45 #[.val (.long q1), .second, .val (.int p2), .val (.ref o1), .val (.int (Int32.ofNat st))] [(.int (XT.cmpL (if ng = (0 : Int32) then (-(own_r n (22 - 22))) else own_r n (22 - 22)) q1))])
  refine own_st (fun τ κ => XS.ifYes X4.here hx rfl (pc0 := 45) (pc' := 50) rfl (hb hby at_45) rfl (XT.ll_eq_t hval) (by decide) (by decide) κ) ?_
  show own_Go p e below _ T4 (mkF m 50 #[.val (.long q1), .second, .val (.int p2), .val (.ref o1), .val (.int (Int32.ofNat st))] [])
  refine own_st (fun τ κ => XS.lloadN X4.here hx rfl (hb hby at_50) rfl κ) ?_
  show own_Go p e below _ T4 (mkF m 51 #[.val (.long q1), .second, .val (.int p2), .val (.ref o1), .val (.int (Int32.ofNat st))] [(.long q1)])
  refine own_st (fun τ κ => Stand.ldc2J X4 hx hown (mvT hZ (hw _ (List.mem_of_getElem? (i := 11) rfl))) rfl (hb hby at_51) κ) ?_
  show own_Go p e below _ T4 (mkF m 54 #[.val (.long q1), .second, .val (.int p2), .val (.ref o1), .val (.int (Int32.ofNat st))] [(.long (10 : Int64)), (.long q1)])
  refine own_st (fun τ κ => XT.lcmp X4.here hx rfl (hb hby at_54) rfl κ) ?_
  show own_Go p e below _ T4 (mkF m 55 #[.val (.long q1), .second, .val (.int p2), .val (.ref o1), .val (.int (Int32.ofNat st))] [(.int (XT.cmpL q1 (10 : Int64)))])
  have J66 : 10 ≤ n → own_Go p e below (own_P s room_1 (fun v h L => v = some (.int (1 : Int32)) ∧ Fr n0 L)) T4 (mkF m 66 #[.val (.long q1), .second, .val (.int p2), .val (.ref o1), .val (.int (Int32.ofNat st))] []) := by
    intro h10
    have hD2' : 2 ≤ D := by
      have h3 := hD.2.2.1
      rcases Nat.lt_or_ge 1 D with q | q
      · exact q
      · have : D = 1 := by omega
        rw [this] at h3
        omega
    have hz21 : own_dig n (22 - D) = (48 : Int32) → 21 = 22 - D + 1 ∧ ng = (0 : Int32) := fun z => by
      have := hzz z
      omega
    have hval1 : (if ng = (0 : Int32) then (-(own_r n (22 - 21))) else own_r n (22 - 21)) = q1 / (10 : Int64) := by
      show (if ng = (0 : Int32) then (-(own_r n 1)) else own_r n 1) = q1 / (10 : Int64)
      by_cases q : q1 < (0 : Int64)
      · rw [if_neg (fun z => hpos.mp z q), ← own_r_div hn 0, own_r_neg hn (hv.resolve_right (fun z => z.1 q)).2]
      · rw [if_pos (hpos.mpr q)]
        have hq := (hv.resolve_left (fun z => q z.1)).2
        apply Int64.toInt_inj.mp
        have e1 := own_r_int hn 1
        rw [Jvm.Kit.i64_neg (by rw [e1]; omega), e1, Jvm.Kit.i64_div (fun q => by rw [own_ten] at q; omega), own_ten, hq]
        show - -((n / 10 ^ 1 : Nat) : Int) = ((n : Int).tdiv 10)
        rw [Int.neg_neg, Nat.pow_one]
        rfl
    show own_Go p e below _ T4 (mkF m 66 #[.val (.long q1), .second, .val (.int p2), .val (.ref o1), .val (.int (Int32.ofNat st))] [])
    refine own_st (fun τ κ => XS.aloadN X4.here hx rfl (hb hby at_66) rfl rfl κ) ?_
    show own_Go p e below _ T4 (mkF m 67 #[.val (.long q1), .second, .val (.int p2), .val (.ref o1), .val (.int (Int32.ofNat st))] [(.ref o1)])
    refine own_st (fun τ κ => XS.iload X4.here hx rfl (hb hby at_67) rfl κ) ?_
    show own_Go p e below _ T4 (mkF m 69 #[.val (.long q1), .second, .val (.int p2), .val (.ref o1), .val (.int (Int32.ofNat st))] [(.int (Int32.ofNat st)), (.ref o1)])
    refine own_st (fun τ κ => XT.bipushV X4.here hx rfl (21) (hb hby at_69) (by decide) κ) ?_
    show own_Go p e below _ T4 (mkF m 71 #[.val (.long q1), .second, .val (.int p2), .val (.ref o1), .val (.int (Int32.ofNat st))] [(.int (21 : Int32)), (.int (Int32.ofNat st)), (.ref o1)])
    refine own_callS X4 hx hZ e4 hown (hw _ (List.mem_of_getElem? (i := 7) rfl)) (hw _ (List.mem_of_getElem? (i := 8) rfl)) (hw _ (List.mem_of_getElem? (i := 3) rfl)) (hw _ (List.mem_of_getElem? (i := 9) rfl)) (by decide) pd_2 (argsL := [(.ref o1), (.int (Int32.ofNat st)), (.int (21 : Int32))]) rfl (rm2 l Z a0 hw o1 st (22 - D) 21 (by decide) (by omega) (by omega) n ng ng rfl lim hL hng01 hlm hfs g2 hsg hdig hlast (hz21) h3 n0 A_o1) 0 (by decide) (by decide) (by decide) (by decide) (rest := []) rfl (by rw [hml]; rfl) (Nat.le_of_eq rfl) (hb hby at_71) ?_
    intro v5 T5 L5 hQ5 X5
    obtain ⟨rfl, Nq5, e5⟩ := hQ5
    have N5 := Fr.app N4 Nq5
    show own_Go p e below _ T5 (mkF m 74 #[.val (.long q1), .second, .val (.int p2), .val (.ref o1), .val (.int (Int32.ofNat st))] [(.long (if ng = (0 : Int32) then (-(own_r n (22 - 21))) else own_r n (22 - 21)))])
    refine own_st (fun τ κ => XS.lloadN X5.here hx rfl (hb hby at_74) rfl κ) ?_
    show own_Go p e below _ T5 (mkF m 75 #[.val (.long q1), .second, .val (.int p2), .val (.ref o1), .val (.int (Int32.ofNat st))] [(.long q1), (.long (if ng = (0 : Int32) then (-(own_r n (22 - 21))) else own_r n (22 - 21)))])
    refine own_st (fun τ κ => Stand.ldc2J X5 hx hown (mvT hZ (hw _ (List.mem_of_getElem? (i := 11) rfl))) rfl (hb hby at_75) κ) ?_
    show own_Go p e below _ T5 (mkF m 78 #[.val (.long q1), .second, .val (.int p2), .val (.ref o1), .val (.int (Int32.ofNat st))] [(.long (10 : Int64)), (.long q1), (.long (if ng = (0 : Int32) then (-(own_r n (22 - 21))) else own_r n (22 - 21)))])
    refine own_st (fun τ κ => XS.ldiv X5.here hx rfl (hb hby at_78) rfl (by decide) κ) ?_
    show own_Go p e below _ T5 (mkF m 79 #[.val (.long q1), .second, .val (.int p2), .val (.ref o1), .val (.int (Int32.ofNat st))] [(.long (q1 / (10 : Int64))), (.long (if ng = (0 : Int32) then (-(own_r n (22 - 21))) else own_r n (22 - 21)))])
    refine own_st (fun τ κ => XT.lcmp X5.here hx rfl (hb hby at_79) rfl κ) ?_
    show own_Go p e below _ T5 (mkF m 80 #[.val (.long q1), .second, .val (.int p2), .val (.ref o1), .val (.int (Int32.ofNat st))] [(.int (XT.cmpL (if ng = (0 : Int32) then (-(own_r n (22 - 21))) else own_r n (22 - 21)) (q1 / (10 : Int64))))])
    refine own_st (fun τ κ => XS.ifNo X5.here hx rfl (hb hby at_80) rfl (XT.ll_ne_f hval1) κ) ?_
    show own_Go p e below _ T5 (mkF m 83 #[.val (.long q1), .second, .val (.int p2), .val (.ref o1), .val (.int (Int32.ofNat st))] [])
    refine own_st (fun τ κ => XT.iconstV X5.here hx rfl (1) (hb hby at_83) (by decide) κ) ?_
    show own_Go p e below _ T5 (mkF m 84 #[.val (.long q1), .second, .val (.int p2), .val (.ref o1), .val (.int (Int32.ofNat st))] [(.int (1 : Int32))])
    refine own_st (fun τ κ => XS.goto X5.here hx rfl (pc0 := 84) (pc' := 88) rfl (hb hby at_84) (by decide) (by decide) κ) ?_
    show own_Go p e below _ T5 (mkF m 88 #[.val (.long q1), .second, .val (.int p2), .val (.ref o1), .val (.int (Int32.ofNat st))] [(.int (1 : Int32))])
    refine own_retZ X5 hx hlk hret (by decide) (by decide) (by decide) (hb hby at_88) ?_
    exact ⟨rfl, N5⟩
  show own_Go p e below _ T4 (mkF m 55 #[.val (.long q1), .second, .val (.int p2), .val (.ref o1), .val (.int (Int32.ofNat st))] [(.int (XT.cmpL q1 (10 : Int64)))])
  by_cases c55 : q1 < (10 : Int64)
  · refine own_st (fun τ κ => XS.ifNo X4.here hx rfl (hb hby at_55) rfl (XT.ll_ge_f c55) κ) ?_
    show own_Go p e below _ T4 (mkF m 58 #[.val (.long q1), .second, .val (.int p2), .val (.ref o1), .val (.int (Int32.ofNat st))] [])
    refine own_st (fun τ κ => XS.lloadN X4.here hx rfl (hb hby at_58) rfl κ) ?_
    show own_Go p e below _ T4 (mkF m 59 #[.val (.long q1), .second, .val (.int p2), .val (.ref o1), .val (.int (Int32.ofNat st))] [(.long q1)])
    refine own_st (fun τ κ => Stand.ldc2J X4 hx hown (mvT hZ (hw _ (List.mem_of_getElem? (i := 12) rfl))) rfl (hb hby at_59) κ) ?_
    show own_Go p e below _ T4 (mkF m 62 #[.val (.long q1), .second, .val (.int p2), .val (.ref o1), .val (.int (Int32.ofNat st))] [(.long (-10 : Int64)), (.long q1)])
    refine own_st (fun τ κ => XT.lcmp X4.here hx rfl (hb hby at_62) rfl κ) ?_
    show own_Go p e below _ T4 (mkF m 63 #[.val (.long q1), .second, .val (.int p2), .val (.ref o1), .val (.int (Int32.ofNat st))] [(.int (XT.cmpL q1 (-10 : Int64)))])
    by_cases c63 : (-10 : Int64) < q1
    · refine own_st (fun τ κ => XS.ifYes X4.here hx rfl (pc0 := 63) (pc' := 89) rfl (hb hby at_63) rfl (XT.ll_gt_t c63) (by decide) (by decide) κ) ?_
      show own_Go p e below _ T4 (mkF m 89 #[.val (.long q1), .second, .val (.int p2), .val (.ref o1), .val (.int (Int32.ofNat st))] [])
      refine own_st (fun τ κ => XT.iconstV X4.here hx rfl (1) (hb hby at_89) (by decide) κ) ?_
      show own_Go p e below _ T4 (mkF m 90 #[.val (.long q1), .second, .val (.int p2), .val (.ref o1), .val (.int (Int32.ofNat st))] [(.int (1 : Int32))])
      refine own_retZ X4 hx hlk hret (by decide) (by decide) (by decide) (hb hby at_90) ?_
      exact ⟨rfl, N4⟩
    · refine own_st (fun τ κ => XS.ifNo X4.here hx rfl (hb hby at_63) rfl (XT.ll_gt_f c63) κ) ?_
      show own_Go p e below _ T4 (mkF m 66 #[.val (.long q1), .second, .val (.int p2), .val (.ref o1), .val (.int (Int32.ofNat st))] [])
      refine J66 ?_
      rw [Int64.lt_iff_toInt_lt, show (-10 : Int64).toInt = -10 from by decide] at c63
      omega
  · refine own_st (fun τ κ => XS.ifYes X4.here hx rfl (pc0 := 55) (pc' := 66) rfl (hb hby at_55) rfl (XT.ll_ge_t c55) (by decide) (by decide) κ) ?_
    show own_Go p e below _ T4 (mkF m 66 #[.val (.long q1), .second, .val (.int p2), .val (.ref o1), .val (.int (Int32.ofNat st))] [])
    refine J66 ?_
    rw [Int64.lt_iff_toInt_lt, own_ten] at c55
    omega

set_option maxRecDepth 65536 in
set_option maxHeartbeats 40000000 in
theorem comes_1 {Post : Tables → Env → Array Value → State → Outcome → State → Prop} (hpost : ∀ tb e args s v u, (limb_1_1.after args s (.returned v) u = true ∧ limb_1_2.after args s (.returned v) u = true ∧ True) → FrameEnd s (.returned v) u (Jvm.fieldLocs frame_1_writes args s ++ Jvm.arrayLocs frame_1_arrays args s ++ Jvm.staticLocs frame_1_statics s) 16 128 → Post tb e args s (.returned v) u) :
    ArmFor flags0 classFile x code maxLocals ret World_1 tables_1 room_1 Calls_1 rest_1 Pre_1 Post := by
  intro l hfl _ _ p e ha hc hk s m args below hf hA hF happ hP
  obtain ⟨hcalls, hrest, hpre⟩ := hP
  obtain ⟨-, -, -, hnamed, -, -, -, hat⟩ := (Spec.applies_iff hf).mp happ
  obtain ⟨hg, hn⟩ := and_e (Cond.before_iff.mp (show (Jvm.Cond.and given_1 narrow_1).before args s = true from hpre))
  obtain ⟨gc, g0⟩ := and_e hg
  obtain ⟨a0, g1⟩ := and_e g0
  obtain ⟨w0, w1, rfl⟩ : ∃ w0 w1 : Value, args = #[w0, w1] := by
    have hs : args.size = 2 := by simpa [Cond.value, given_1] using gc
    obtain ⟨L⟩ := args
    match L, hs with
    | [w0, w1], _ => exact ⟨w0, w1, rfl⟩
  have hw := fun d (hd : d ∈ tables_1) => atoms_spec (ws := Jvm.Cond.code x code maxLocals ret :: tables_1) hat d (List.mem_cons_of_mem _ hd)
  obtain ⟨i0, ei0⟩ := isL_v a0
  obtain rfl : w0 = (.long i0) := Option.some.inj ei0
  obtain ⟨i1, ei1⟩ := is_v g1
  obtain rfl : w1 = (.int i1) := Option.some.inj ei1
  obtain ⟨n, o, h1, h2, h3, _, L, rfl, ⟨rfl, N⟩, hq⟩ := rm0 l s _ hw i0 i1 s.heap s.heap.size (Nat.le_refl _) tables_1 p e ha hc hk s m _ below hf ((Spec.applies_iff_loose hf).mp happ).1 ⟨rfl, State.Warmed39.refl s, rfl⟩ trivial
  refine ⟨n, _, h1, h2, h3, hpost _ _ _ _ _ _ ⟨Cond.after_iff.mpr rfl, Cond.after_iff.mpr (eq_i res_at (Term.int_eval (1)) rfl), trivial⟩ ⟨hq.1, hq.2.1, (hq.2.2.sift fun y hy => Or.inr (N y hy)).mono (by decide) (by decide)⟩⟩
theorem main_1_1 : Claimed_1_1 := comes_1 fun _ _ _ _ _ _ h hF => ⟨h.1, hF⟩
theorem main_1_2 : Claimed_1_2 := comes_1 fun _ _ _ _ _ _ h hF => ⟨h.2.1, hF⟩

end Jvm.Pilot.@@N@@
namespace Jvm.Pilot.@@N@@
open Jvm Jvm.ClassFile Sem Op Lib Jvm.Free Jvm.Stand Jvm.Pilot.@@N@@.Jvm.D
/-! MADE BY PROGRAM (witnessworld.py) out of the Statement's table words and the real class files: 9 classes; the members and pool entries that the words name. The judged class is class 1, her method 1. -/
namespace start1
open Jvm.ClassFile
def u (s : String) : CpInfo := .utf8 (stringToUtf16 s)
/-- a pool by its gaps: so many unusable entries, then the entry; so many at the end -/
def gap : Nat → List CpInfo → List CpInfo
  | 0, r => r
  | n + 1, r => .unusable :: gap n r
def poolList (es : List (Nat × CpInfo)) (last : Nat) : List CpInfo := es.foldr (fun e r => gap e.1 (e.2 :: r)) (gap last [])
def pool (es : List (Nat × CpInfo)) (last : Nat) : Array CpInfo := ⟨poolList es last⟩
def fileOf (pool : Array CpInfo) (this : Nat) (attrs : Array Attribute := #[]) (ms : Array MethodInfo := #[]) (fl : Nat := 33) (sup : Nat := 0) (ifs : Array Nat := #[]) (fds : Array FieldInfo := #[]) : ClassFile where
  minorVersion := 0
  majorVersion := 65
  constantPool := pool
  accessFlags := fl
  thisClass := this
  superClass := sup
  interfaces := ifs
  fields := fds
  methods := ms
  attributes := attrs
def plain (name : String) (sup : Option ClassId) : Class where
  name := name
  kind := .ordinary
  loader := none
  accessFlags := 33
  super := sup
  interfaces := #[]
  cf := none
  fields := #[]
  methods := #[]
  instanceTypes := #[]
  staticTypes := #[]
  resolved := #[]
  callSites := []
  init := .initialized
  statics := none
  mirror := none

def pool0 : Array CpInfo := pool [(5, u "<init>"), (0, u "()V"), (1, .class_ 10), (1, u "java/lang/Object")] 113

def k0m0 : Method := { name := "<init>", desc := "()V", sig := { parameters := [], returnType := none }, accessFlags := 1, code := none }
/-- java/lang/Object -/
def k0 : Class := { plain "java/lang/Object" none with
  accessFlags := 33
  interfaces := #[]
  cf := some (fileOf pool0 8 #[] #[{ accessFlags := 1, nameIndex := 5, descriptorIndex := 6, attributes := #[] }] 33 0 #[] #[])
  fields := #[]
  methods := #[k0m0]
  instanceTypes := #[]
  staticTypes := #[]
  resolved := Array.replicate 124 none
  statics := none }

def pool1 : Array CpInfo := pool [(2, .class_ 4), (1, u "java/lang/Object"), (0, u "<init>"), (0, u "()V"), (0, .methodref 8 9), (0, .class_ 10), (0, .nameAndType 11 12), (0, u "com/example/inchworm/inchworm/server/Decimal"), (0, u "format"), (0, u "(J[B)I"), (0, .methodref 8 14), (0, .nameAndType 15 16), (0, u "parse"), (0, u "([BII)J"), (0, .long 10), (1, .long 18446744073709551606), (1, .class_ 22), (0, u "com/example/inchworm/inchworm/server/DecimalParsePinLaw"), (2, u "law"), (0, u "(JI)Z")] 5

def k1m0 : Method := { name := "<init>", desc := "()V", sig := { parameters := [], returnType := none }, accessFlags := 2, code := none }
def k1c1 : Code := { maxStack := 6, maxLocals := 5, code := code, exceptionTable := #[], attributes := #[] }
def k1m1 : Method := { name := "law", desc := "(JI)Z", sig := { parameters := [.long, .int], returnType := some .boolean }, accessFlags := 9, code := some k1c1 }
/-- com/example/inchworm/inchworm/server/DecimalParsePinLaw -/
def k1 : Class := { plain "com/example/inchworm/inchworm/server/DecimalParsePinLaw" (some 0) with
  accessFlags := 49
  interfaces := #[]
  cf := some (fileOf pool1 21 #[] #[{ accessFlags := 2, nameIndex := 5, descriptorIndex := 6, attributes := #[] }, { accessFlags := 9, nameIndex := 25, descriptorIndex := 26, attributes := #[] }] 49 2 #[] #[])
  fields := #[]
  methods := #[k1m0, k1m1]
  instanceTypes := #[]
  staticTypes := #[]
  resolved := Array.replicate 32 none
  statics := none }

def pool2 : Array CpInfo := pool [(2, .class_ 4), (1, u "java/lang/Object"), (0, u "<init>"), (0, u "()V"), (1, .class_ 10), (1, u "com/example/inchworm/inchworm/server/Decimal"), (0, u "parse"), (0, u "([BII)J"), (9, .long 9223372036854775808), (1, .long 9223372036854775809), (1, .long 10), (3, .long 48), (1, u "MAX_LENGTH"), (0, u "I"), (2, u "NOT_AN_INTEGER"), (0, u "Ljava/lang/String;"), (4, u "format"), (0, u "(J[B)I")] 2

def k2m0 : Method := { name := "<init>", desc := "()V", sig := { parameters := [], returnType := none }, accessFlags := 2, code := none }
def k2c1 : Code := { maxStack := 6, maxLocals := 11, code := prog_13_method_3_code, exceptionTable := #[], attributes := #[] }
def k2m1 : Method := { name := "parse", desc := "([BII)J", sig := { parameters := [(.array .byte), .int, .int], returnType := some .long }, accessFlags := 8, code := some k2c1 }
def k2c2 : Code := { maxStack := 8, maxLocals := 6, code := prog_13_method_4_code, exceptionTable := #[], attributes := #[] }
def k2m2 : Method := { name := "format", desc := "(J[B)I", sig := { parameters := [.long, (.array .byte)], returnType := some .int }, accessFlags := 8, code := some k2c2 }
/-- com/example/inchworm/inchworm/server/Decimal -/
def k2 : Class := { plain "com/example/inchworm/inchworm/server/Decimal" (some 0) with
  accessFlags := 48
  interfaces := #[]
  cf := some (fileOf pool2 8 #[] #[{ accessFlags := 2, nameIndex := 5, descriptorIndex := 6, attributes := #[] }, { accessFlags := 8, nameIndex := 11, descriptorIndex := 12, attributes := #[] }, { accessFlags := 8, nameIndex := 42, descriptorIndex := 43, attributes := #[] }] 48 2 #[] #[{ accessFlags := 24, nameIndex := 32, descriptorIndex := 33, attributes := #[] }, { accessFlags := 26, nameIndex := 36, descriptorIndex := 37, attributes := #[] }])
  fields := #[{ name := "MAX_LENGTH", type := .int, accessFlags := 24, slot := 0, constantValue := 0 }, { name := "NOT_AN_INTEGER", type := (.object "java/lang/String"), accessFlags := 26, slot := 1, constantValue := 0 }]
  methods := #[k2m0, k2m1, k2m2]
  instanceTypes := #[]
  staticTypes := #[.int, (.object "java/lang/String")]
  resolved := Array.replicate 46 none
  statics := none }

def pool3 : Array CpInfo := pool [(1, u "java/lang/Cloneable"), (0, .class_ 1), (0, u "java/lang/Object"), (0, .class_ 3)] 3

/-- java/lang/Cloneable -/
def k3 : Class := { plain "java/lang/Cloneable" (some 0) with
  accessFlags := 1537
  interfaces := #[]
  cf := some (fileOf pool3 2 #[] #[] 1537 4 #[] #[])
  fields := #[]
  methods := #[]
  instanceTypes := #[]
  staticTypes := #[]
  resolved := Array.replicate 8 none
  statics := none }

def pool4 : Array CpInfo := pool [(1, u "java/io/Serializable"), (0, .class_ 1), (0, u "java/lang/Object"), (0, .class_ 3)] 3

/-- java/io/Serializable -/
def k4 : Class := { plain "java/io/Serializable" (some 0) with
  accessFlags := 1537
  interfaces := #[]
  cf := some (fileOf pool4 2 #[] #[] 1537 4 #[] #[])
  fields := #[]
  methods := #[]
  instanceTypes := #[]
  staticTypes := #[]
  resolved := Array.replicate 8 none
  statics := none }

/-- the primitive byte -/
def k5 : Class := { plain "byte" none with kind := .primitive 'B', accessFlags := 0x411 }
/-- [B -/
def k6 : Class := { plain "[B" (some 0) with kind := .array 5 .byte, interfaces := #[3, 4], accessFlags := 1041 }

/-- the primitive int -/
def k7 : Class := { plain "int" none with kind := .primitive 'I', accessFlags := 0x411 }
/-- [I -/
def k8 : Class := { plain "[I" (some 0) with kind := .array 7 .int, interfaces := #[3, 4], accessFlags := 1041 }

def heap : Heap := #[]
def classes : Array Class := #[k0, k1, k2, k3, k4, k5, k6, k7, k8]
def interned : List (Array UInt16 × Addr) := []
def slotsUsed : Nat := 0
def theMethod : MethodId := ⟨1, 1⟩
def args0 : Array Value := #[.long 7, .int 3]
def aboutOver (below : List Frame) : State where
  vm := { classes := classes, interned := interned.toArray }
  heap := heap
  slotsUsed := slotsUsed
  threads := #[{ frames := .invoking theMethod args0 :: below }]
def below0 : List Frame := [.native { method := ⟨0, 0⟩, args := #[] }]
def about1 : State := aboutOver below0
def p0 : Program := .bare "" "" ""
def e0 : Env := launch0.env 0 0 0
theorem w_frames : about1.frames = Frame.invoking theMethod args0 :: below0 := rfl
set_option maxRecDepth 65536 in
theorem w_args : argsFit about1.vm theMethod args0 = true := by decide +kernel
set_option maxRecDepth 65536 in
theorem w_heap : heapFits about1 = true := by decide +kernel
set_option maxRecDepth 65536 in
theorem w_runnable : about1.curStatus? = some .runnable := by decide +kernel
set_option maxRecDepth 65536 in
theorem w_alone : about1.alone = true := by decide +kernel
set_option maxRecDepth 65536 in
theorem w_named : about1.methodNamed? x = some theMethod := by decide +kernel
set_option maxRecDepth 65536 in
theorem w_hears : about1.hears theMethod below0 = true := by decide +kernel
set_option maxRecDepth 65536 in
theorem w_ripe : about1.ripe theMethod args0 below0 = true := by decide +kernel
theorem w_running : about1.status = .running := rfl
set_option maxRecDepth 65536 in
theorem w_room : about1.hasRoom e0.platform room_1 = true :=
  launch0.hasRoom_least _ room_1 (by decide +kernel) (by decide +kernel) (by decide +kernel) (by decide +kernel) (by decide +kernel) (by decide +kernel)
theorem allAtoms_all (ts : List Jvm.Cond) (a : Array Jvm.Value) (st : Jvm.State) : (allAtoms ts).before a st = ts.all (fun c => c.before a st) := by
  induction ts with
  | nil => rfl
  | cons c t ih =>
    show (Jvm.Cond.and c (allAtoms t)).before a st = _
    rw [Jvm.Cond.before_and, ih, List.all_cons]
def words1 : List Jvm.Cond := Jvm.Cond.code x code maxLocals ret :: tables_1
/-- a 'code' word, met by the world's own term for the bytes: nothing is compared byte by byte -/
theorem code_word {y : MethodName} {bytes : ByteArray} {mx : Nat} {rt : Option FieldType} {a : Array Value} {s : State} {m : MethodId} {meth : Method} {c : Code} (h1 : s.methodNamed? y = some m) (h2 : s.vm.method? m = some meth) (h3 : meth.code = some c) (h4 : c.code = bytes)
    (h5 : (c.maxLocals == mx && c.exceptionTable.isEmpty && decide (c.maxStack ≤ mostOperands) && decide (meth.sig.returnType = rt) && !meth.locks && decide (parseMethodDescriptor y.desc = some meth.sig)) = true) : (Jvm.Cond.code y bytes mx rt).before a s = true := by
  simp only [Bool.and_eq_true, beq_iff_eq, Bool.not_eq_true', decide_eq_true_eq] at h5
  obtain ⟨⟨⟨⟨⟨g1, g2⟩, g3⟩, g4⟩, g5⟩, g6⟩ := h5
  simp [Cond.before, Cond.holds, Cond.value, h1, h2, h3, h4, g1, g2, g3, g4, g5, g6]
def isCode : Jvm.Cond → Bool
  | .code _ _ _ _ => true
  | _ => false
theorem all_split {L : List Jvm.Cond} {P : Jvm.Cond → Bool} (h1 : L.all (fun c => isCode c || P c) = true) (h2 : ∀ c ∈ L.filter isCode, P c = true) : L.all P = true := by
  refine List.all_eq_true.mpr fun c hc => ?_
  have h := List.all_eq_true.mp h1 c hc
  rcases Bool.eq_false_or_eq_true (isCode c) with hi | hi
  · exact h2 c (List.mem_filter.mpr ⟨hc, hi⟩)
  · simpa [hi] using h
set_option maxRecDepth 65536 in
theorem w_c0 : (Jvm.Cond.code x code maxLocals ret).before args0 about1 = true := code_word (m := ⟨1, 1⟩) (meth := k1m1) (c := k1c1) (by decide +kernel) rfl rfl rfl (by decide +kernel)
set_option maxRecDepth 65536 in
theorem w_c1 : (Jvm.Cond.code ({ cls := "com/example/inchworm/inchworm/server/Decimal", name := "format", desc := "(J[B)I" } : Jvm.MethodName) prog_13_method_4_code (6 : Nat) (Option.some Jvm.ClassFile.FieldType.int)).before args0 about1 = true := code_word (m := ⟨2, 2⟩) (meth := k2m2) (c := k2c2) (by decide +kernel) rfl rfl rfl (by decide +kernel)
set_option maxRecDepth 65536 in
theorem w_c2 : (Jvm.Cond.code ({ cls := "com/example/inchworm/inchworm/server/Decimal", name := "parse", desc := "([BII)J" } : Jvm.MethodName) prog_13_method_3_code (11 : Nat) (Option.some Jvm.ClassFile.FieldType.long)).before args0 about1 = true := code_word (m := ⟨2, 1⟩) (meth := k2m1) (c := k2c1) (by decide +kernel) rfl rfl rfl (by decide +kernel)
def codes1 : List Jvm.Cond := [Jvm.Cond.code x code maxLocals ret, Jvm.Cond.code ({ cls := "com/example/inchworm/inchworm/server/Decimal", name := "format", desc := "(J[B)I" } : Jvm.MethodName) prog_13_method_4_code (6 : Nat) (Option.some Jvm.ClassFile.FieldType.int), Jvm.Cond.code ({ cls := "com/example/inchworm/inchworm/server/Decimal", name := "parse", desc := "([BII)J" } : Jvm.MethodName) prog_13_method_3_code (11 : Nat) (Option.some Jvm.ClassFile.FieldType.long)]
set_option maxRecDepth 65536 in
theorem codes_eq : words1.filter isCode = codes1 := rfl
theorem w_codes : ∀ c ∈ words1.filter isCode, c.before args0 about1 = true := by
  rw [codes_eq]
  intro c hc
  simp only [codes1, List.mem_cons, List.not_mem_nil, or_false] at hc
  rcases hc with rfl | rfl | rfl
  · exact w_c0
  · exact w_c1
  · exact w_c2
set_option maxRecDepth 65536 in
theorem w_t1 : words1.all (fun c => isCode c || c.before args0 about1) = true := by decide +kernel
theorem w_tables : (allAtoms (Jvm.Cond.code x code maxLocals ret :: tables_1)).before args0 about1 = true := by
  rw [allAtoms_all]
  show words1.all (fun c => c.before args0 about1) = true
  refine all_split ?_ w_codes
  rw [w_t1]
set_option maxRecDepth 65536 in
theorem w_case : (Jvm.Cond.and given_1 narrow_1).before args0 about1 = true := by decide +kernel
theorem w_applies : (headSpec (Jvm.Cond.code x code maxLocals ret :: tables_1) room_1).applies x e0.platform about1 = true :=
  (Spec.applies_iff w_frames).mpr ⟨w_running, w_runnable, w_alone, w_named, w_hears, w_ripe, w_room, w_tables⟩
theorem atStart : AtStart classFile x code maxLocals ret World_1 tables_1 room_1 Calls_1 rest_1 Pre_1 launch0 p0 e0 about1 theMethod args0 below0 :=
  ⟨lists_1, trivial, launch0.admits_env _ _ _, launch0.least_env, fairChoices_fair.cas, fairChoices_fair.clock, w_frames, w_args, w_heap, w_applies, trivial, trivial, w_case⟩
end start1
theorem witness_1 : WitnessClaimed_1 := ⟨start1.p0, start1.e0, start1.about1, start1.theMethod, start1.args0, start1.below0, start1.atStart⟩
end Jvm.Pilot.@@N@@
