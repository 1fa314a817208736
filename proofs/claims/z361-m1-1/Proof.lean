import JvmDerived
import JvmDerived.Pilot.@@N@@Statement
import JvmDerived.Pilot.@@N@@Code
set_option linter.unusedVariables false
set_option linter.unusedSimpArgs false
namespace Jvm.Pilot.@@N@@
open Jvm Jvm.ClassFile Sem Op Lib Jvm.Free Jvm.Stand Jvm.LawKit Jvm.RoadKit Bundle Jvm.Pilot.@@N@@.Jvm.D

section OwnBase
variable {p : Program} {l : Launch} {e : Env} {R : Room} {s : State} {m : MethodId} {args : Array Value} {below : List Frame} {meth : Method} {c : Code} {T T' : State} {locs : List Loc} {cells slots : Nat} {Z : State} {a0 : Array Value} {h h' : Heap} {Q Q' : Option Value → Heap → List Loc → Prop} {P : State → Outcome → Prop} {g g' : JFrame} {pc : Nat} {Ls : Array Slot} {rest : List Value} {a : Addr} {n0 : Nat}
/-- from T, the frame g on top, the body comes to its end, and the end is as P says -/
def own_Go (p : Program) (e : Env) (below : List Frame) (P : State → Outcome → Prop) (T : State) (g : JFrame) : Prop :=
  ∃ s₂ o, Steps p.tables e below (T.setTop g) s₂ ∧ s₂.status = .running ∧ Ended s₂ below o ∧ P s₂ o
/-- it returned; what it returned, the heap and the written places meet Q; no more is made than R allows -/
def own_P (s : State) (R : Room) (Q : Option Value → Heap → List Loc → Prop) (s₂ : State) (o : Outcome) : Prop := ∃ v L, o = .returned v ∧ Q v s₂.heap L ∧ FrameEnd s o s₂ L R.cells R.slots
theorem own_st (h : ∀ t, Steps p.tables e below (T'.setTop g') t → Steps p.tables e below (T.setTop g) t) (G : own_Go p e below P T' g') : own_Go p e below P T g := by
  obtain ⟨s₂, o, h1, r⟩ := G
  exact ⟨s₂, o, h _ h1, r⟩
theorem own_end (X : Stand p l e R s m args below meth c T locs cells slots) (hlk : meth.locks = false) {v : Option Value} (hv : meth.sig.returnType = none → v = none) (hc : cells ≤ R.cells) (hs : slots ≤ R.slots) (hQ : Q v T.heap locs)
    (hr : ∀ fs, (∀ (f : JFrame) (acts : List Action), f.method = m → f.locked = none → f.entered = [] → (doReturn e (T.setTop f) acts v).1 = T.setFrames fs) → Steps p.tables e below (T.setTop g) (T.setFrames fs)) : own_Go p e below (own_P s R Q) T g := by
  obtain ⟨fs, h1, hrun, hended, hW, hsame⟩ := X.leave (v := v) hv hlk
  exact ⟨_, _, hr fs h1, hrun, hended, _, _, rfl, hQ, ⟨_, rfl⟩, hW, hsame.mono hc hs⟩
/-- a method's contract: called with these arguments at the heap h0 it returns, and Q holds -/
def own_Met (l : Launch) (Z : State) (h0 : Heap) (y : MethodName) (bytes : ByteArray) (maxL : Nat) (ret : Option FieldType) (R : Room) (as : Array Value) (Q : Option Value → Heap → List Loc → Prop) : Prop :=
  ∀ ws : List Jvm.Cond, MetFree l y (head1 (Jvm.Cond.code y bytes maxL ret :: ws) R) (fun a U => a = as ∧ Z.Warmed39 U.vm ∧ U.heap = h0) (fun _ _ _ _ _ => True) (fun _ U o U' => ∃ v L, o = .returned v ∧ Q v U'.heap L ∧ FrameEnd U o U' L R.cells R.slots)
theorem own_body {h0 : Heap} {y : MethodName} {bytes : ByteArray} {maxL : Nat} {ret : Option FieldType} {as : Array Value} (hn : plainName y.cls = true) (he : ∀ m : MethodId, entryFrame m as maxL = mkF m 0 Ls [])
    (body : ∀ (p : Program) (e : Env) (s : State) (m : MethodId) (below : List Frame) (meth : Method) (c : Code) (T : State), Stand p l e R s m as below meth c T [] 0 0 → p.tables.exec = Jvm.exec → c.code = bytes → c.maxLocals = maxL → meth.sig.returnType = ret → meth.locks = false → s.vm.findClass y.cls = some m.cls → meth.name = y.name → Z.Warmed39 s.vm → T.heap = h0 → own_Go p e below (own_P s R Q) T (mkF m 0 Ls [])) :
    own_Met l Z h0 y bytes maxL ret R as Q := by
  intro ws
  refine MetFree.of_bodySF (plainFor_of_name hn) hisR ?_
  intro p e s m args below meth c s₁ Bd hml0 hP hK
  obtain ⟨rfl, hZ, hh⟩ := hP
  have e0 : s₁.heap = h0 := by rw [← hh, Bd.state]; rfl
  obtain ⟨s₂, o, h1, r⟩ := body p e s m below meth c s₁ (Stand.of_body Bd) Bd.exec Bd.bytes hml0 Bd.returns (BodyLoose.notSynchronized Bd) (findClass_of_methodNamed Bd.named) (name_of_methodNamed Bd.named Bd.method).1 hZ e0
  exact ⟨s₂, o, castTop (he m) h1, r⟩
theorem own_Met.imp {h0 : Heap} {y : MethodName} {bytes : ByteArray} {maxL : Nat} {ret : Option FieldType} {as : Array Value} (M : own_Met l Z h0 y bytes maxL ret R as Q) (hq : ∀ v h L, Q v h L → Q' v h L) : own_Met l Z h0 y bytes maxL ret R as Q' := by
  intro ws p e ha hc hk s m args below hf happ hP hK
  obtain ⟨n, o, h1, h2, h3, v, L, h4, h5, h6⟩ := M ws p e ha hc hk s m args below hf happ hP hK
  exact ⟨n, o, h1, h2, h3, v, L, h4, hq _ _ _ h5, h6⟩
/-- a static call by its contract -/
theorem own_callS (X : Stand p l e R s m args below meth c T locs cells slots) (hx : p.tables.exec = Jvm.exec) (hZ : Z.Warmed39 s.vm) (e0 : T.heap = h) {own : String} {index : Nat} {y : MethodName} {bytes : ByteArray} {maxL : Nat} {ret : Option FieldType} {rm : Room}
    (hown : s.vm.findClass own = some m.cls) (w1 : (Jvm.Cond.methodLink own index y).before a0 Z = true) (w2 : (Jvm.Cond.static y).before a0 Z = true) (w3 : (Jvm.Cond.initialized y.cls).before a0 Z = true) (w4 : (Jvm.Cond.code y bytes maxL ret).before a0 Z = true)
    (hy : y.cls ≠ "java/lang/invoke/MethodHandle" ∧ y.cls ≠ "java/lang/invoke/VarHandle") {ps : List FieldType} {r : Option FieldType} (hd : parseMethodDescriptor y.desc = some ⟨ps, r⟩)
    {argsL : List Value} (hn : argsL.length = ps.length) (M : own_Met l Z h y bytes maxL ret rm argsL.toArray Q') (W : Nat) (hf : rm.frames + 1 ≤ R.frames) (hl : W + (maxL + 11) + rm.locals ≤ R.locals) (hc : cells + rm.cells ≤ R.cells) (hs : slots + rm.slots ≤ R.slots)
    {st : List Value} (hst : st = argsL.reverse ++ rest) (hsz : Ls.size = c.maxLocals) (hW : (rest.map fun v => v.category).sum ≤ W) (hdg : decode c.code pc = .ok (.invokestatic index, 3))
    (k : ∀ (v : Option Value) (T' : State) (L : List Loc), Q' v T'.heap L → Stand p l e R s m args below meth c T' (locs ++ L) (cells + rm.cells) (slots + rm.slots) → own_Go p e below P T' (mkF m (pc + 3) Ls (v.toList ++ rest))) :
    own_Go p e below P T (mkF m pc Ls st) := by
  subst hst
  obtain ⟨v, _, ⟨T', L', k', n'⟩, -, X', ⟨L, hQ, l1, l2, l3⟩, st⟩ := Jvm.LawKit.callS X hx (y := y) hown (mvT hZ w1) (mvT hZ w2) (mvT hZ w3) (mvT hZ w4) hy (backOf (W := W) (M []) hZ w4 w3 hf hl) (g := mkF m pc Ls (argsL.reverse ++ rest)) rfl hsz (argsL := argsL) (rest := rest) (lenOf hd hn) rfl (by show 2 * 0 + _ ≤ _; omega) hdg (fun _ _ => ⟨rfl, e0, hc, hs⟩)
  dsimp only [Pt.U, Pt.locs, Pt.cells, Pt.slots] at X' l1 l2 l3 st hQ
  subst l1 l2 l3
  exact own_st st (k v T' L hQ X')
/-- a constructor by its contract -/
theorem own_callN (X : Stand p l e R s m args below meth c T locs cells slots) (hx : p.tables.exec = Jvm.exec) (hZ : Z.Warmed39 s.vm) (e0 : T.heap = h) {own : String} {index : Nat} {y : MethodName} {bytes : ByteArray} {maxL : Nat} {rm : Room} (hy1 : y.name = "<init>")
    (hown : s.vm.findClass own = some m.cls) (w1 : (Jvm.Cond.methodLink own index y).before a0 Z = true) (w2 : (Jvm.Cond.instanceMethod y).before a0 Z = true) (w3 : (Jvm.Cond.initialized y.cls).before a0 Z = true) (w4 : (Jvm.Cond.code y bytes maxL none).before a0 Z = true)
    (hy : y.cls ≠ "java/lang/invoke/MethodHandle" ∧ y.cls ≠ "java/lang/invoke/VarHandle") {ps : List FieldType} {r : Option FieldType} (hd : parseMethodDescriptor y.desc = some ⟨ps, r⟩)
    {argsL : List Value} (hn : argsL.length = ps.length) (M : own_Met l Z h y bytes maxL none rm (.ref a :: argsL).toArray Q') (W : Nat) (hf : rm.frames + 1 ≤ R.frames) (hl : W + (maxL + 11) + rm.locals ≤ R.locals) (hc : cells + rm.cells ≤ R.cells) (hs : slots + rm.slots ≤ R.slots)
    {st : List Value} (hst : st = argsL.reverse ++ .ref a :: rest) (hsz : Ls.size = c.maxLocals) (hW : (rest.map fun v => v.category).sum ≤ W) (hdg : decode c.code pc = .ok (.invokespecial index, 3))
    (k : ∀ (v : Option Value) (T' : State) (L : List Loc), Q' v T'.heap L → Stand p l e R s m args below meth c T' (locs ++ L) (cells + rm.cells) (slots + rm.slots) → own_Go p e below P T' (mkF m (pc + 3) Ls (v.toList ++ rest))) :
    own_Go p e below P T (mkF m pc Ls st) := by
  subst hst
  obtain ⟨v, _, ⟨T', L', k', n'⟩, -, X', ⟨L, hQ, l1, l2, l3⟩, st⟩ := X.specialBack hx (y := y) hy1 hown (mvT hZ w1) (mvT hZ w2) (mvT hZ w4) hy (backOf (W := W) (M []) hZ w4 w3 hf hl) (g := mkF m pc Ls (argsL.reverse ++ .ref a :: rest)) rfl hsz (Steps.refl _) (a := a) (argsL := argsL) (rest := rest) (lenOf hd hn) rfl (by show 2 * 0 + _ ≤ _; omega) hdg (fun _ _ => ⟨rfl, e0, hc, hs⟩)
  dsimp only [Pt.U, Pt.locs, Pt.cells, Pt.slots] at X' l1 l2 l3 st hQ
  subst l1 l2 l3
  exact own_st (fun t q => st.trans q) (k v T' L hQ X')
/-- an instance method by its contract -/
theorem own_callV (X : Stand p l e R s m args below meth c T locs cells slots) (hx : p.tables.exec = Jvm.exec) (hZ : Z.Warmed39 s.vm) (e0 : T.heap = h) {own C : String} {index : Nat} {y z : MethodName} {bytes : ByteArray} {maxL : Nat} {ret : Option FieldType} {rm : Room}
    (hown : s.vm.findClass own = some m.cls) (w1 : (Jvm.Cond.methodLink own index y).before a0 Z = true) (w2 : (Jvm.Cond.declares y).before a0 Z = true) (w5 : (Jvm.Cond.selects y.cls y y).before a0 Z = true) (w6 : (Jvm.Cond.selects C y z).before a0 Z = true) (w7 : (Jvm.Cond.instanceMethod z).before a0 Z = true) (w3 : (Jvm.Cond.initialized z.cls).before a0 Z = true) (w4 : (Jvm.Cond.code z bytes maxL ret).before a0 Z = true)
    (hy : y.cls ≠ "java/lang/invoke/MethodHandle" ∧ y.cls ≠ "java/lang/invoke/VarHandle") {ps : List FieldType} {r : Option FieldType} (hd : parseMethodDescriptor y.desc = some ⟨ps, r⟩) (E : Exa Z h a C)
    {argsL : List Value} (hn : argsL.length = ps.length) (M : own_Met l Z h z bytes maxL ret rm (.ref a :: argsL).toArray Q') (W : Nat) (hf : rm.frames + 1 ≤ R.frames) (hl : W + (maxL + 11) + rm.locals ≤ R.locals) (hc : cells + rm.cells ≤ R.cells) (hs : slots + rm.slots ≤ R.slots)
    {st : List Value} (hst : st = argsL.reverse ++ .ref a :: rest) (hsz : Ls.size = c.maxLocals) (hW : (rest.map fun v => v.category).sum ≤ W) (hdg : decode c.code pc = .ok (.invokevirtual index, 3))
    (k : ∀ (v : Option Value) (T' : State) (L : List Loc), Q' v T'.heap L → Stand p l e R s m args below meth c T' (locs ++ L) (cells + rm.cells) (slots + rm.slots) → own_Go p e below P T' (mkF m (pc + 3) Ls (v.toList ++ rest))) :
    own_Go p e below P T (mkF m pc Ls st) := by
  subst hst
  obtain ⟨cq, kq, qa, qb, qc⟩ := isOf hZ e0 E
  obtain ⟨v, _, ⟨T', L', k', n'⟩, -, X', ⟨L, hQ, l1, l2, l3⟩, st⟩ := X.virtualBack hx (y := y) (z := z) hown (mvT hZ w1) (mvT hZ w2) (notFace_of_selects (args := #[]) (mvT hZ w5)) (mvT hZ w6) (mvT hZ w7) hy (backOf (W := W) (M []) hZ w4 w3 hf hl) qa qc (g := mkF m pc Ls (argsL.reverse ++ .ref a :: rest)) rfl hsz (Steps.refl _) (argsL := argsL) (rest := rest) (lenOf hd hn) rfl (by show 2 * 0 + _ ≤ _; omega) hdg (fun _ _ => ⟨rfl, e0, hc, hs⟩)
  dsimp only [Pt.U, Pt.locs, Pt.cells, Pt.slots] at X' l1 l2 l3 st hQ
  subst l1 l2 l3
  exact own_st (fun t q => st.trans q) (k v T' L hQ X')
/-- a private instance method by its contract (no 'selects' word is laid for it) -/
theorem own_callP (X : Stand p l e R s m args below meth c T locs cells slots) (hx : p.tables.exec = Jvm.exec) (hZ : Z.Warmed39 s.vm) (e0 : T.heap = h) {own C : String} {index kk : Nat} {y : MethodName} {bytes : ByteArray} {maxL : Nat} {ret : Option FieldType} {rm : Room}
    (hown : s.vm.findClass own = some m.cls) (w1 : (Jvm.Cond.methodLink own index y).before a0 Z = true) (w2 : (Jvm.Cond.instanceMethod y).before a0 Z = true) (wp : (Jvm.Cond.privateMethod y).before a0 Z = true) (wi : (Jvm.Cond.instantiable y.cls kk).before a0 Z = true) (w3 : (Jvm.Cond.initialized y.cls).before a0 Z = true) (w4 : (Jvm.Cond.code y bytes maxL ret).before a0 Z = true)
    (hy : y.cls ≠ "java/lang/invoke/MethodHandle" ∧ y.cls ≠ "java/lang/invoke/VarHandle") {ps : List FieldType} {r : Option FieldType} (hd : parseMethodDescriptor y.desc = some ⟨ps, r⟩) (E : Exa Z h a C)
    {argsL : List Value} (hn : argsL.length = ps.length) (M : own_Met l Z h y bytes maxL ret rm (.ref a :: argsL).toArray Q') (W : Nat) (hf : rm.frames + 1 ≤ R.frames) (hl : W + (maxL + 11) + rm.locals ≤ R.locals) (hc : cells + rm.cells ≤ R.cells) (hs : slots + rm.slots ≤ R.slots)
    {st : List Value} (hst : st = argsL.reverse ++ .ref a :: rest) (hsz : Ls.size = c.maxLocals) (hW : (rest.map fun v => v.category).sum ≤ W) (hdg : decode c.code pc = .ok (.invokevirtual index, 3))
    (k : ∀ (v : Option Value) (T' : State) (L : List Loc), Q' v T'.heap L → Stand p l e R s m args below meth c T' (locs ++ L) (cells + rm.cells) (slots + rm.slots) → own_Go p e below P T' (mkF m (pc + 3) Ls (v.toList ++ rest))) :
    own_Go p e below P T (mkF m pc Ls st) := by
  subst hst
  obtain ⟨cq, q1, q2⟩ := E.cell
  have hP : s.PrivateAt y := Cond.privateMethod_at (mvP hZ wp (args := #[]))
  obtain ⟨c2, k2, i1, i2, -, i4, -⟩ := Cond.instantiable_spec (mvT (args := #[]) hZ wi)
  have hni : k2.isInterface = false := by
    cases hb : k2.isInterface with
    | false => rfl
    | true => rw [hb] at i4; cases i4
  have hsel : (Jvm.Cond.selects y.cls y y).before args s = true := selects_self_of_private i1 i2 hni hP (mvT hZ w2) hy
  obtain ⟨v, _, ⟨T', L', k', n'⟩, -, X', ⟨L, hQ, l1, l2, l3⟩, st⟩ := X.privateBack hx (y := y) hown (mvT hZ w1) (mvT hZ w2) hsel hP (mvT hZ w4) hy (backOf (W := W) (M []) hZ w4 w3 hf hl) (g := mkF m pc Ls (argsL.reverse ++ .ref a :: rest)) rfl hsz (Steps.refl _) (a := a) (by rw [e0]; exact q1) q2 (argsL := argsL) (rest := rest) (lenOf hd hn) rfl (by show 2 * 0 + _ ≤ _; omega) hdg (fun _ _ => ⟨rfl, e0, hc, hs⟩)
  dsimp only [Pt.U, Pt.locs, Pt.cells, Pt.slots] at X' l1 l2 l3 st hQ
  subst l1 l2 l3
  exact own_st (fun t q => st.trans q) (k v T' L hQ X')
/-- Object's constructor -/
theorem own_initO (X : Stand p l e R s m args below meth c T locs cells slots) (hx : p.tables.exec = Jvm.exec) (hZ : Z.Warmed39 s.vm) (e0 : T.heap = h) {own : String} {idx : Nat} (hown : s.vm.findClass own = some m.cls) (w1 : (Jvm.Cond.methodLink own idx Lib.objectInit).before a0 Z = true) (w2 : (Jvm.Cond.instanceMethod Lib.objectInit).before a0 Z = true)
    (w3 : (Jvm.Cond.code Lib.objectInit ⟨#[0xb1]⟩ 1 none).before a0 Z = true) (hsz : Ls.size = c.maxLocals) (hd : decode c.code pc = .ok (.invokespecial idx, 3)) (hf : 1 ≤ R.frames) (W : Nat) (hW : (rest.map fun v => v.category).sum ≤ W) (hl : W + 12 ≤ R.locals)
    (k : ∀ T' : State, Stand p l e R s m args below meth c T' locs cells slots → T'.heap = h → own_Go p e below P T' (mkF m (pc + 3) Ls rest)) : own_Go p e below P T (mkF m pc Ls (.ref a :: rest)) := by
  obtain ⟨T', X', e', st⟩ := initO X hx hZ hown w1 w2 w3 e0 (g := mkF m pc Ls (.ref a :: rest)) rfl hsz rfl hd hf (W := W) (by show 2 * 0 + _ ≤ _; omega) hl
  exact own_st st (k T' X' e')
theorem own_getF (X : Stand p l e R s m args below meth c T locs cells slots) (hx : p.tables.exec = Jvm.exec) (hZ : Z.Warmed39 s.vm) (e0 : T.heap = h) {own C n d : String} {index : Nat} (hown : s.vm.findClass own = some m.cls) (w : (Jvm.Cond.fieldLink own index C n d).before a0 Z = true)
    {v : Value} (F : Fld Z h a C n d v) (hd : decode c.code pc = .ok (.getfield index, 3))
    (k : ∀ T' : State, Stand p l e R s m args below meth c T' locs cells slots → T'.heap = h → own_Go p e below P T' (mkF m (pc + 3) Ls (v :: rest))) : own_Go p e below P T (mkF m pc Ls (.ref a :: rest)) := by
  obtain ⟨T', X', e', st⟩ := getF X hx hZ hown (host := "") (Or.inl w) Via.refl e0 F (g := mkF m pc Ls (.ref a :: rest)) rfl rfl hd
  exact own_st st (k T' X' e')
theorem own_putF (X : Stand p l e R s m args below meth c T locs cells slots) (hx : p.tables.exec = Jvm.exec) (hZ : Z.Warmed39 s.vm) (e0 : T.heap = h) {own C O n d : String} {index kk : Nat} {ty : FieldType} (hown : s.vm.findClass own = some m.cls) (w : (Jvm.Cond.fieldLink own index O n d).before a0 Z = true)
    {v old : Value} (F : Fld Z h a O n d old) (E : Exa Z h a C) (L : (Jvm.Cond.lays C O n d).before a0 Z = true ∨ ((Jvm.Cond.laysFinal C O n d).before a0 Z = true ∧ own = O ∧ meth.name = "<init>")) (wi : (Jvm.Cond.instantiable C kk).before a0 Z = true)
    (hty : parseFieldDescriptor d = some ty) (hn : narrow ty v = v) (hf : fits ty v = true) (N : Fr n0 locs) (ga : n0 ≤ a) (hd : decode c.code pc = .ok (.putfield index, 3))
    (k : ∀ (T' : State) (h' : Heap), Stand p l e R s m args below meth c T' (locs ++ [⟨a, Jvm.RoadKit.slotOf Z O n d⟩]) cells slots → T'.heap = h' → Wr h h' a (Jvm.RoadKit.slotOf Z O n d) v → Fr n0 (locs ++ [⟨a, Jvm.RoadKit.slotOf Z O n d⟩]) → own_Go p e below P T' (mkF m (pc + 3) Ls rest)) :
    own_Go p e below P T (mkF m pc Ls (v :: .ref a :: rest)) := by
  obtain ⟨T', h', X', e', W', st⟩ := putF X hx hZ hown (host := "") (Or.inl w) Via.refl e0 F E L wi hty hn hf (g := mkF m pc Ls (v :: .ref a :: rest)) rfl rfl hd
  exact own_st st (k T' h' X' e' W' (Fr.snoc X' N ga))
theorem own_new (X : Stand p l e R s m args below meth c T locs cells slots) (hx : p.tables.exec = Jvm.exec) (hZ : Z.Warmed39 s.vm) (e0 : T.heap = h) {own C : String} {index n : Nat} (hown : s.vm.findClass own = some m.cls) (w : (Jvm.Cond.classLink own index C).before a0 Z = true) (wi : (Jvm.Cond.instantiable C n).before a0 Z = true) (wz : (Jvm.Cond.initialized C).before a0 Z = true)
    (hd : decode c.code pc = .ok (.new index, 3)) (hc : cells + 1 ≤ R.cells) (hl : slots + n ≤ R.slots)
    (k : ∀ (T' : State) (h' : Heap) (a : Addr), Stand p l e R s m args below meth c T' locs (cells + 1) (slots + n) → T'.heap = h' → Ext h h' → h.size = a → Exa Z h' a C → (∀ {O nm d : String} {ty : FieldType}, Laid Z a0 C O nm d → parseFieldDescriptor d = some ty → Fld Z h' a O nm d (defaultValue ty)) → own_Go p e below P T' (mkF m (pc + 3) Ls (.ref a :: rest))) :
    own_Go p e below P T (mkF m pc Ls rest) := by
  obtain ⟨T', h', X', e', E', A', D', -, st⟩ := newO X hx hZ hown w wi wz e0 (g := mkF m pc Ls rest) rfl hd hc hl
  exact own_st st (k T' h' h.size X' e' E' rfl A' D')
theorem own_inst (X : Stand p l e R s m args below meth c T locs cells slots) (hx : p.tables.exec = Jvm.exec) (hZ : Z.Warmed39 s.vm) (e0 : T.heap = h) {own K : String} {index : Nat} (hown : s.vm.findClass own = some m.cls) (w : (Jvm.Cond.classLink own index K).before a0 Z = true) (F : Ins Z h a K true) (hd : decode c.code pc = .ok (.instanceof index, 3))
    (k : ∀ T' : State, Stand p l e R s m args below meth c T' locs cells slots → T'.heap = h → own_Go p e below P T' (mkF m (pc + 3) Ls (.int 1 :: rest))) : own_Go p e below P T (mkF m pc Ls (.ref a :: rest)) := by
  obtain ⟨T', X', e', st⟩ := instY X hx hZ hown w e0 F (g := mkF m pc Ls (.ref a :: rest)) rfl rfl hd
  exact own_st st (k T' X' e')
theorem own_cast (X : Stand p l e R s m args below meth c T locs cells slots) (hx : p.tables.exec = Jvm.exec) (hZ : Z.Warmed39 s.vm) (e0 : T.heap = h) {own K : String} {index : Nat} (hown : s.vm.findClass own = some m.cls) (w : (Jvm.Cond.classLink own index K).before a0 Z = true) (F : Ins Z h a K true) (hd : decode c.code pc = .ok (.checkcast index, 3))
    (k : ∀ T' : State, Stand p l e R s m args below meth c T' locs cells slots → T'.heap = h → own_Go p e below P T' (mkF m (pc + 3) Ls (.ref a :: rest))) : own_Go p e below P T (mkF m pc Ls (.ref a :: rest)) := by
  obtain ⟨T', X', e', st⟩ := castY X hx hZ hown w e0 F (g := mkF m pc Ls (.ref a :: rest)) rfl rfl hd
  exact own_st st (k T' X' e')
/-- an array of n places; place j holds f j -/
def own_A (Z : State) (h : Heap) (a : Addr) (ty : FieldType) (n : Nat) (f : Nat → Value) : Prop := ∃ c : Cell, Arr Z h a c ty ∧ c.slots.size = n ∧ ∀ j, j < n → c.slots[j]? = some (f j)
def own_upd {α : Type} (f : Nat → α) (i : Nat) (x : α) : Nat → α := fun j => if j = i then x else f j
/-- the int j names the place i of n -/
abbrev own_ix (j : Int32) (i n : Nat) : Prop := ¬ j < 0 ∧ j.toNatClampNeg = i ∧ i < n
variable {ty : FieldType} {n : Nat} {f : Nat → Value} {ws : List Addr}
theorem own_A.lt (A : own_A Z h a ty n f) : a < h.size := by obtain ⟨c, A, -⟩ := A; exact A.lt
theorem own_A.ext (A : own_A Z h a ty n f) (E : Ext h h') : own_A Z h' a ty n f := by obtain ⟨c, A, r⟩ := A; exact ⟨c, A.ext E, r⟩
theorem own_A.keep (A : own_A Z h a ty n f) (K : Keep h h' ws) (q : a ∉ ws) : own_A Z h' a ty n f := by obtain ⟨c, A, r⟩ := A; exact ⟨c, ⟨K.2.1 a c A.1 q, A.2⟩, r⟩
theorem own_A.congr {f' : Nat → Value} (A : own_A Z h a ty n f) (q : ∀ j, j < n → f j = f' j) : own_A Z h a ty n f' := by obtain ⟨c, A, r, k⟩ := A; exact ⟨c, A, r, fun j hj => by rw [← q j hj]; exact k j hj⟩
theorem own_A.set {i : Nat} {v : Value} (A : own_A Z h a ty n f) (W : Wr h h' a i v) : own_A Z h' a ty n (own_upd f i v) := by
  obtain ⟨c, A, S, H⟩ := A
  refine ⟨_, A.same W, by rw [sz_set]; exact S, fun j hj => ?_⟩
  by_cases q : j = i
  · subst q
    have : j < c.slots.size := by rw [S]; exact hj
    simp [Cell.setSlot, own_upd, this]
  · have q' : i ≠ j := fun z => q z.symm
    simp only [Cell.setSlot, own_upd, if_neg q]
    rw [Array.getElem?_setIfInBounds_ne q']
    exact H j hj
theorem own_ix.inb {j : Int32} {i : Nat} {cl : Cell} (x : own_ix j i n) (S : cl.slots.size = n) : ¬ (j < 0 ∨ cl.slots.size ≤ j.toNatClampNeg) := by
  obtain ⟨x1, x2, x3⟩ := x
  rw [S, x2]
  exact fun q => q.elim x1 (fun q => absurd q (Nat.not_le.mpr x3))
theorem own_alen (X : Stand p l e R s m args below meth c T locs cells slots) (hx : p.tables.exec = Jvm.exec) (hZ : Z.Warmed39 s.vm) (e0 : T.heap = h) (A : own_A Z h a ty n f) {z : Int32} (hz : n.toInt32 = z) (hd : decode c.code pc = .ok (.arraylength, 1))
    (k : own_Go p e below P T (mkF m (pc + 1) Ls (.int z :: rest))) : own_Go p e below P T (mkF m pc Ls (.ref a :: rest)) := by
  obtain ⟨cl, A, S, H⟩ := A
  subst S hz
  exact own_st (fun t q => X.arraylength hx (cell := cl) (by rw [e0]; exact A.1) (State.isArrayOf_alike hZ.alike A.2.1) (g := mkF m pc Ls (.ref a :: rest)) rfl rfl hd t q) k
abbrev own_IA (Z : State) (h : Heap) (a : Addr) (n : Nat) (g : Nat → Int32) : Prop := own_A Z h a .int n (fun j => .int (g j))
abbrev own_BA (Z : State) (h : Heap) (a : Addr) (n : Nat) (g : Nat → Int32) : Prop := own_A Z h a .byte n (fun j => .int (g j))
abbrev own_JA (Z : State) (h : Heap) (a : Addr) (n : Nat) (g : Nat → Int64) : Prop := own_A Z h a .long n (fun j => .long (g j))
theorem own_updI (g : Nat → Int32) (i : Nat) (x : Int32) : own_upd (fun j => Value.int (g j)) i (.int x) = fun j => Value.int (own_upd g i x j) := funext fun j => by unfold own_upd; split <;> rfl
theorem own_updJ (g : Nat → Int64) (i : Nat) (x : Int64) : own_upd (fun j => Value.long (g j)) i (.long x) = fun j => Value.long (own_upd g i x j) := funext fun j => by unfold own_upd; split <;> rfl
theorem own_ldI (X : Stand p l e R s m args below meth c T locs cells slots) (hx : p.tables.exec = Jvm.exec) (hZ : Z.Warmed39 s.vm) (e0 : T.heap = h) {g : Nat → Int32} (A : own_IA Z h a n g) {j : Int32} {i : Nat} (ix : own_ix j i n) {x : Int32} (hv : g i = x) (hd : decode c.code pc = .ok (.iaload, 1))
    (k : own_Go p e below P T (mkF m (pc + 1) Ls (.int x :: rest))) : own_Go p e below P T (mkF m pc Ls (.int j :: .ref a :: rest)) := by
  obtain ⟨cl, A, S, H⟩ := A
  subst hv
  exact own_st (fun t q => X.iaload hx (j := j) (v := .int (g i)) (by rw [e0]; exact A.1) (State.isArrayOf_alike hZ.alike A.2.1) A.2.2 (ix.inb S) (by rw [ix.2.1]; exact H i ix.2.2) (g := mkF m pc Ls (.int j :: .ref a :: rest)) rfl rfl hd t q) k
theorem own_ldB (X : Stand p l e R s m args below meth c T locs cells slots) (hx : p.tables.exec = Jvm.exec) (hZ : Z.Warmed39 s.vm) (e0 : T.heap = h) {g : Nat → Int32} (A : own_BA Z h a n g) {j : Int32} {i : Nat} (ix : own_ix j i n) {x : Int32} (hv : g i = x) (hd : decode c.code pc = .ok (.baload, 1))
    (k : own_Go p e below P T (mkF m (pc + 1) Ls (.int x :: rest))) : own_Go p e below P T (mkF m pc Ls (.int j :: .ref a :: rest)) := by
  obtain ⟨cl, A, S, H⟩ := A
  subst hv
  exact own_st (fun t q => X.baloadBytes hx (j := j) (v := .int (g i)) (by rw [e0]; exact A.1) (State.isArrayOf_alike hZ.alike A.2.1) A.2.2 (ix.inb S) (by rw [ix.2.1]; exact H i ix.2.2) (g := mkF m pc Ls (.int j :: .ref a :: rest)) rfl rfl hd t q) k
theorem own_ldJ (X : Stand p l e R s m args below meth c T locs cells slots) (hx : p.tables.exec = Jvm.exec) (hZ : Z.Warmed39 s.vm) (e0 : T.heap = h) {g : Nat → Int64} (A : own_JA Z h a n g) {j : Int32} {i : Nat} (ix : own_ix j i n) {x : Int64} (hv : g i = x) (hd : decode c.code pc = .ok (.laload, 1))
    (k : own_Go p e below P T (mkF m (pc + 1) Ls (.long x :: rest))) : own_Go p e below P T (mkF m pc Ls (.int j :: .ref a :: rest)) := by
  obtain ⟨cl, A, S, H⟩ := A
  subst hv
  exact own_st (fun t q => X.laload hx (j := j) (v := .long (g i)) (by rw [e0]; exact A.1) (State.isArrayOf_alike hZ.alike A.2.1) A.2.2 (ix.inb S) (by rw [ix.2.1]; exact H i ix.2.2) (g := mkF m pc Ls (.int j :: .ref a :: rest)) rfl rfl hd t q) k
theorem own_stI (X : Stand p l e R s m args below meth c T locs cells slots) (hx : p.tables.exec = Jvm.exec) (hZ : Z.Warmed39 s.vm) (e0 : T.heap = h) {g : Nat → Int32} (A : own_IA Z h a n g) {j : Int32} {x : Int32} {i : Nat} (ix : own_ix j i n) (N : Fr n0 locs) (ga : n0 ≤ a) (hd : decode c.code pc = .ok (.iastore, 1))
    (k : ∀ (T' : State) (h' : Heap), Stand p l e R s m args below meth c T' (locs ++ [⟨a, j.toNatClampNeg⟩]) cells slots → T'.heap = h' → own_IA Z h' a n (own_upd g i x) → Keep h h' [a] → Fr n0 (locs ++ [⟨a, j.toNatClampNeg⟩]) → own_Go p e below P T' (mkF m (pc + 1) Ls rest)) :
    own_Go p e below P T (mkF m pc Ls (.int x :: .int j :: .ref a :: rest)) := by
  obtain ⟨cl, A1, S, H⟩ := A
  obtain ⟨T', h', X', e', W', st⟩ := stI X hx hZ e0 A1 (j := j) (x := x) (ix.inb S) (g := mkF m pc Ls (.int x :: .int j :: .ref a :: rest)) rfl rfl hd
  have V := own_A.set ⟨cl, A1, S, H⟩ W'
  rw [ix.2.1] at V
  have V' : own_IA Z h' a n (own_upd g i x) := by rw [own_IA, ← own_updI]; exact V
  exact own_st st (k T' h' X' e' V' (Keep.of_wr W') (Fr.snoc X' N ga))
theorem own_stB (X : Stand p l e R s m args below meth c T locs cells slots) (hx : p.tables.exec = Jvm.exec) (hZ : Z.Warmed39 s.vm) (e0 : T.heap = h) {g : Nat → Int32} (A : own_BA Z h a n g) {j : Int32} {x : Int32} {i : Nat} (ix : own_ix j i n) (N : Fr n0 locs) (ga : n0 ≤ a) (hd : decode c.code pc = .ok (.bastore, 1))
    (k : ∀ (T' : State) (h' : Heap), Stand p l e R s m args below meth c T' (locs ++ [⟨a, j.toNatClampNeg⟩]) cells slots → T'.heap = h' → own_BA Z h' a n (own_upd g i x.toInt8.toInt32) → Keep h h' [a] → Fr n0 (locs ++ [⟨a, j.toNatClampNeg⟩]) → own_Go p e below P T' (mkF m (pc + 1) Ls rest)) :
    own_Go p e below P T (mkF m pc Ls (.int x :: .int j :: .ref a :: rest)) := by
  obtain ⟨cl, A1, S, H⟩ := A
  obtain ⟨T', h', X', e', W', st⟩ := stB X hx hZ e0 A1 (j := j) (x := x) (ix.inb S) (g := mkF m pc Ls (.int x :: .int j :: .ref a :: rest)) rfl rfl hd
  have V := own_A.set ⟨cl, A1, S, H⟩ W'
  rw [ix.2.1] at V
  have V' : own_BA Z h' a n (own_upd g i x.toInt8.toInt32) := by rw [own_BA, ← own_updI]; exact V
  exact own_st st (k T' h' X' e' V' (Keep.of_wr W') (Fr.snoc X' N ga))
theorem own_stJ (X : Stand p l e R s m args below meth c T locs cells slots) (hx : p.tables.exec = Jvm.exec) (hZ : Z.Warmed39 s.vm) (e0 : T.heap = h) {g : Nat → Int64} (A : own_JA Z h a n g) {j : Int32} {x : Int64} {i : Nat} (ix : own_ix j i n) (N : Fr n0 locs) (ga : n0 ≤ a) (hd : decode c.code pc = .ok (.lastore, 1))
    (k : ∀ (T' : State) (h' : Heap), Stand p l e R s m args below meth c T' (locs ++ [⟨a, j.toNatClampNeg⟩]) cells slots → T'.heap = h' → own_JA Z h' a n (own_upd g i x) → Keep h h' [a] → Fr n0 (locs ++ [⟨a, j.toNatClampNeg⟩]) → own_Go p e below P T' (mkF m (pc + 1) Ls rest)) :
    own_Go p e below P T (mkF m pc Ls (.long x :: .int j :: .ref a :: rest)) := by
  obtain ⟨cl, A1, S, H⟩ := A
  obtain ⟨T', h', X', e', W', st⟩ := stJ X hx hZ e0 A1 (j := j) (x := x) (ix.inb S) (g := mkF m pc Ls (.long x :: .int j :: .ref a :: rest)) rfl rfl hd
  have V := own_A.set ⟨cl, A1, S, H⟩ W'
  rw [ix.2.1] at V
  have V' : own_JA Z h' a n (own_upd g i x) := by rw [own_JA, ← own_updJ]; exact V
  exact own_st st (k T' h' X' e' V' (Keep.of_wr W') (Fr.snoc X' N ga))
theorem own_newP (X : Stand p l e R s m args below meth c T locs cells slots) (hx : p.tables.exec = Jvm.exec) (hZ : Z.Warmed39 s.vm) (e0 : T.heap = h) {aty : ArrayType} (w : (Jvm.Cond.arrayClass (newarray.typeOf aty)).before a0 Z = true) (hd : decode c.code pc = .ok (.newarray aty, 2)) {z : Int32} (hz0 : ¬ z < 0) (n : Nat) (hz : z.toNatClampNeg = n) (hb : n * 8 ≤ 536870912) (hc : cells + 1 ≤ R.cells) (hl : slots + n ≤ R.slots)
    (k : ∀ (T' : State) (h' : Heap) (a : Addr), Stand p l e R s m args below meth c T' locs (cells + 1) (slots + n) → T'.heap = h' → Ext h h' → h.size = a → own_A Z h' a (newarray.typeOf aty) n (fun _ => defaultValue (newarray.typeOf aty)) → own_Go p e below P T' (mkF m (pc + 2) Ls (.ref a :: rest))) :
    own_Go p e below P T (mkF m pc Ls (.int z :: rest)) := by
  obtain ⟨T', h', cA, X', e', E', A', st⟩ := newP X hx hZ w e0 (g := mkF m pc Ls (.int z :: rest)) rfl hd rfl hz0 (cap := n) (Nat.le_of_eq hz) hb hc hl
  refine own_st st (k T' h' h.size X' e' E' rfl ⟨_, A', by rw [sz_new]; exact hz, fun j hj => ?_⟩)
  simp [newA, hz, hj]
theorem own_retI (X : Stand p l e R s m args below meth c T locs cells slots) (hx : p.tables.exec = Jvm.exec) (hlk : meth.locks = false) (hret : meth.sig.returnType = some .int) (hc : cells ≤ R.cells) (hs : slots ≤ R.slots) {z : Int32} (hd : decode c.code pc = .ok (.ireturn, 1)) (hQ : Q (some (.int z)) T.heap locs) : own_Go p e below (own_P s R Q) T (mkF m pc Ls (.int z :: rest)) :=
  own_end X hlk (fun q => by rw [hret] at q; cases q) hc hs hQ (fun fs hr => retOut X hx hret rfl (Or.inl ⟨rfl, Or.inl rfl, z, rfl⟩) hd hr)
theorem own_retZ (X : Stand p l e R s m args below meth c T locs cells slots) (hx : p.tables.exec = Jvm.exec) (hlk : meth.locks = false) (hret : meth.sig.returnType = some .boolean) (hc : cells ≤ R.cells) (hs : slots ≤ R.slots) {z : Int32} (hz : z = 1 ∨ z = 0) (hd : decode c.code pc = .ok (.ireturn, 1)) (hQ : Q (some (.int z)) T.heap locs) : own_Go p e below (own_P s R Q) T (mkF m pc Ls (.int z :: rest)) :=
  own_end X hlk (fun q => by rw [hret] at q; cases q) hc hs hQ (fun fs hr => retOut X hx hret (by rcases hz with rfl | rfl <;> rfl) (Or.inl ⟨rfl, Or.inr (Or.inl rfl), z, rfl⟩) hd hr)
theorem own_retJ (X : Stand p l e R s m args below meth c T locs cells slots) (hx : p.tables.exec = Jvm.exec) (hlk : meth.locks = false) (hret : meth.sig.returnType = some .long) (hc : cells ≤ R.cells) (hs : slots ≤ R.slots) {z : Int64} (hd : decode c.code pc = .ok (.lreturn, 1)) (hQ : Q (some (.long z)) T.heap locs) : own_Go p e below (own_P s R Q) T (mkF m pc Ls (.long z :: rest)) :=
  own_end X hlk (fun q => by rw [hret] at q; cases q) hc hs hQ (fun fs hr => retOut X hx hret rfl (Or.inr (Or.inl ⟨rfl, rfl, z, rfl⟩)) hd hr)
theorem own_retV (X : Stand p l e R s m args below meth c T locs cells slots) (hx : p.tables.exec = Jvm.exec) (hlk : meth.locks = false) (hret : meth.sig.returnType = none) (hc : cells ≤ R.cells) (hs : slots ≤ R.slots) (hd : decode c.code pc = .ok (.return_, 1)) (hQ : Q none T.heap locs) : own_Go p e below (own_P s R Q) T (mkF m pc Ls []) :=
  own_end X hlk (fun _ => rfl) hc hs hQ (fun fs hr => X.returnOut hx hret hd hr)
end OwnBase

def own_allowed (x : Int64) : Int32 := if x = (-1 : Int64) then 1 else if x < (1 : Int64) then 0 else if (2147483647 : Int64) < x then 0 else 1
theorem own_al_bool (x : Int64) : own_allowed x = 1 ∨ own_allowed x = 0 := by
  unfold own_allowed
  split
  · exact Or.inl rfl
  · split
    · exact Or.inr rfl
    · split
      · exact Or.inr rfl
      · exact Or.inl rfl
theorem own_al_m1 {x : Int64} (h : x = (-1 : Int64)) : own_allowed x = 1 := if_pos h
theorem own_al_low {x : Int64} (h : ¬ x = (-1 : Int64)) (h1 : x < (1 : Int64)) : own_allowed x = 0 := (if_neg h).trans (if_pos h1)
theorem own_al_big {x : Int64} (h : ¬ x = (-1 : Int64)) (h1 : ¬ x < (1 : Int64)) (h2 : (2147483647 : Int64) < x) : own_allowed x = 0 := (if_neg h).trans ((if_neg h1).trans (if_pos h2))
theorem own_al_in {x : Int64} (h : ¬ x = (-1 : Int64)) (h1 : ¬ x < (1 : Int64)) (h2 : ¬ (2147483647 : Int64) < x) : own_allowed x = 1 := (if_neg h).trans ((if_neg h1).trans (if_neg h2))
theorem own_m1_64 : (-1 : Int64).toInt = -1 := by decide
theorem own_1_64 : (1 : Int64).toInt = 1 := by decide
theorem own_mx_64 : (2147483647 : Int64).toInt = 2147483647 := by decide
theorem own_m1_32 : (-1 : Int32).toInt = -1 := by decide
theorem own_0_32 : (0 : Int32).toInt = 0 := by decide
theorem own_1_32 : (1 : Int32).toInt = 1 := by decide
/-- of an int made long -/
theorem own_al_of {n : Int32} (x : Int64) (hx : x = n.toInt64) : (n = (-1 : Int32) → own_allowed x = 1) ∧ ((0 : Int32) < n → own_allowed x = 1) ∧ (¬ n = (-1 : Int32) → ¬ (0 : Int32) < n → own_allowed x = 0) := by
  have hi : x.toInt = n.toInt := by rw [hx, Int32.toInt_toInt64]
  have hn := n.toInt_lt
  have hn' := n.le_toInt
  refine ⟨fun q => own_al_m1 ?_, fun q => ?_, fun q1 q2 => ?_⟩
  · apply Int64.toInt_inj.mp
    rw [hi, q, own_m1_64, own_m1_32]
  · rw [Int32.lt_iff_toInt_lt, own_0_32] at q
    refine own_al_in (fun z => ?_) ?_ ?_
    · have := congrArg Int64.toInt z
      rw [hi, own_m1_64] at this
      omega
    · rw [Int64.lt_iff_toInt_lt, hi, own_1_64]
      omega
    · rw [Int64.lt_iff_toInt_lt, hi, own_mx_64]
      omega
  · rw [Int32.lt_iff_toInt_lt, own_0_32] at q2
    refine own_al_low (fun z => ?_) ?_
    · have := congrArg Int64.toInt z
      rw [hi, own_m1_64] at this
      exact q1 (Int32.toInt_inj.mp (by rw [this, own_m1_32]))
    · rw [Int64.lt_iff_toInt_lt, hi, own_1_64]
      omega
/-- of a long that is no int -/
theorem own_al_no {x : Int64} (h : ¬ x = x.toInt32.toInt64) : own_allowed x = 0 := by
  have key : ¬ (-2 ^ 31 ≤ x.toInt ∧ x.toInt < 2 ^ 31) := fun q => h (XT.narrowOk q).symm
  have h1 : ¬ x = (-1 : Int64) := fun z => key (by rw [z, own_m1_64]; omega)
  by_cases h2 : x < (1 : Int64)
  · exact own_al_low h1 h2
  · refine own_al_big h1 h2 ?_
    rw [Int64.lt_iff_toInt_lt, own_1_64] at h2
    rw [Int64.lt_iff_toInt_lt, own_mx_64]
    omega
theorem own_ge1 (n : Int32) : (n < (1 : Int32)) ↔ ¬ (0 : Int32) < n := by
  rw [Int32.lt_iff_toInt_lt, Int32.lt_iff_toInt_lt, own_0_32, own_1_32]
  omega

theorem d1_0 : decode prog_21_method_2_code 0 = .ok (.lload_n 0, 1) := by decide +kernel
theorem d1_1 : decode prog_21_method_2_code 1 = .ok (.ldc2_w 9, 3) := by decide +kernel
theorem d1_4 : decode prog_21_method_2_code 4 = .ok (.lcmp, 1) := by decide +kernel
theorem d1_5 : decode prog_21_method_2_code 5 = .ok (.ifCond .eq 17, 3) := by decide +kernel
theorem d1_8 : decode prog_21_method_2_code 8 = .ok (.lload_n 0, 1) := by decide +kernel
theorem d1_9 : decode prog_21_method_2_code 9 = .ok (.lconst 1, 1) := by decide +kernel
theorem d1_10 : decode prog_21_method_2_code 10 = .ok (.lcmp, 1) := by decide +kernel
theorem d1_11 : decode prog_21_method_2_code 11 = .ok (.ifCond .lt 15, 3) := by decide +kernel
theorem d1_14 : decode prog_21_method_2_code 14 = .ok (.lload_n 0, 1) := by decide +kernel
theorem d1_15 : decode prog_21_method_2_code 15 = .ok (.ldc2_w 13, 3) := by decide +kernel
theorem d1_18 : decode prog_21_method_2_code 18 = .ok (.lcmp, 1) := by decide +kernel
theorem d1_19 : decode prog_21_method_2_code 19 = .ok (.ifCond .gt 7, 3) := by decide +kernel
theorem d1_22 : decode prog_21_method_2_code 22 = .ok (.iconst 1, 1) := by decide +kernel
theorem d1_23 : decode prog_21_method_2_code 23 = .ok (.goto 4, 3) := by decide +kernel
theorem d1_26 : decode prog_21_method_2_code 26 = .ok (.iconst 0, 1) := by decide +kernel
theorem d1_27 : decode prog_21_method_2_code 27 = .ok (.ireturn, 1) := by decide +kernel
theorem pn_1 : plainName "com/example/hourglass_sweep/hourglasssweep/expiry/ExpiryRule" = true := by first | (simp [plainName, overriddenIn]; done) | decide +kernel
theorem pd_1 : parseMethodDescriptor "(J)Z" = some ⟨[.long], some .boolean⟩ := by decide +kernel

theorem d2_0 : decode method_2_code 0 = .ok (.lload_n 0, 1) := by decide +kernel
theorem d2_1 : decode method_2_code 1 = .ok (.l2i, 1) := by decide +kernel
theorem d2_2 : decode method_2_code 2 = .ok (.istore_n 2, 1) := by decide +kernel
theorem d2_3 : decode method_2_code 3 = .ok (.lload_n 0, 1) := by decide +kernel
theorem d2_4 : decode method_2_code 4 = .ok (.iload_n 2, 1) := by decide +kernel
theorem d2_5 : decode method_2_code 5 = .ok (.i2l, 1) := by decide +kernel
theorem d2_6 : decode method_2_code 6 = .ok (.lcmp, 1) := by decide +kernel
theorem d2_7 : decode method_2_code 7 = .ok (.ifCond .ne 7, 3) := by decide +kernel
theorem d2_10 : decode method_2_code 10 = .ok (.iconst 1, 1) := by decide +kernel
theorem d2_11 : decode method_2_code 11 = .ok (.goto 4, 3) := by decide +kernel
theorem d2_14 : decode method_2_code 14 = .ok (.iconst 0, 1) := by decide +kernel
theorem d2_15 : decode method_2_code 15 = .ok (.istore_n 3, 1) := by decide +kernel
theorem d2_16 : decode method_2_code 16 = .ok (.iload_n 3, 1) := by decide +kernel
theorem d2_17 : decode method_2_code 17 = .ok (.ifCond .eq 16, 3) := by decide +kernel
theorem d2_20 : decode method_2_code 20 = .ok (.iload_n 2, 1) := by decide +kernel
theorem d2_21 : decode method_2_code 21 = .ok (.iconst (-1), 1) := by decide +kernel
theorem d2_22 : decode method_2_code 22 = .ok (.if_icmp .eq 7, 3) := by decide +kernel
theorem d2_25 : decode method_2_code 25 = .ok (.iload_n 2, 1) := by decide +kernel
theorem d2_26 : decode method_2_code 26 = .ok (.ifCond .le 7, 3) := by decide +kernel
theorem d2_29 : decode method_2_code 29 = .ok (.iconst 1, 1) := by decide +kernel
theorem d2_30 : decode method_2_code 30 = .ok (.goto 4, 3) := by decide +kernel
theorem d2_33 : decode method_2_code 33 = .ok (.iconst 0, 1) := by decide +kernel
theorem d2_34 : decode method_2_code 34 = .ok (.ireturn, 1) := by decide +kernel
theorem pn_2 : plainName "com/example/hourglass_sweep/hourglasssweep/expiry/ExpiryRuleIsAllowedPinLaw" = true := by first | (simp [plainName, overriddenIn]; done) | decide +kernel
theorem pd_2 : parseMethodDescriptor "(J)Z" = some ⟨[.long], some .boolean⟩ := by decide +kernel

theorem pn_0 : plainName "com/example/hourglass_sweep/hourglasssweep/expiry/ExpiryRuleIsAllowedPinLaw" = true := by first | (simp [plainName, overriddenIn]; done) | decide +kernel
theorem pd_0 : parseMethodDescriptor "(JI)Z" = some ⟨[.long, .int], some .boolean⟩ := by decide +kernel

theorem ef_1 (m : MethodId) (x0 : Int64) : entryFrame m #[(.long x0)] 2 = mkF m 0 #[.val (.long x0), .second] [] := by first | (simp [entryFrame, mkF, argsToLocals, Value.category]; done) | rfl

theorem ef_2 (m : MethodId) (x0 : Int64) : entryFrame m #[(.long x0)] 4 = mkF m 0 #[.val (.long x0), .second, .unset, .unset] [] := by first | (simp [entryFrame, mkF, argsToLocals, Value.category]; done) | rfl

theorem ef_0 (m : MethodId) (x0 : Int64) (x1 : Int32) : entryFrame m #[(.long x0), (.int x1)] maxLocals = mkF m 0 #[.val (.long x0), .second, .val (.int x1), .unset] [] := by first | (simp [entryFrame, mkF, argsToLocals, Value.category, maxLocals]; done) | rfl

set_option maxRecDepth 65536 in
set_option maxHeartbeats 40000000 in
theorem rm1 (l : Launch) (Z : State) (a0 : Array Value) (hw : ∀ d ∈ tables_1, d.before a0 Z = true) (q1 : Int64) (h0 : Heap) (n0 : Nat) :
    own_Met l Z h0 (⟨"com/example/hourglass_sweep/hourglasssweep/expiry/ExpiryRule", "isAllowed", "(J)Z"⟩ : MethodName) prog_21_method_2_code 2 (some .boolean) ({ frames := 0, cells := 0, slots := 0, locals := 0 } : Room) #[(.long q1)] (fun v h L => v = some (.int (own_allowed q1)) ∧ Fr n0 L ∧ h = h0) := by
  refine own_body pn_1 (fun m => ef_1 m q1) ?_
  intro p e s m below meth c T X hx hby hml hret hlk hown hnm hZ e0
  have hown : s.vm.findClass "com/example/hourglass_sweep/hourglasssweep/expiry/ExpiryRule" = some m.cls := hown
  have hml : c.maxLocals = 2 := hml
  have N0 : Fr n0 ([] : List Loc) := Fr.nil n0
  show own_Go p e below _ T (mkF m 0 #[.val (.long q1), .second] [])
  refine own_st (fun τ κ => XS.lloadN X.here hx rfl (hb hby d1_0) rfl κ) ?_
  show own_Go p e below _ T (mkF m 1 #[.val (.long q1), .second] [(.long q1)])
  refine own_st (fun τ κ => Stand.ldc2J X hx hown (mvT hZ (hw _ (List.mem_of_getElem? (i := 4) rfl))) rfl (hb hby d1_1) κ) ?_
  show own_Go p e below _ T (mkF m 4 #[.val (.long q1), .second] [(.long (-1 : Int64)), (.long q1)])
  refine own_st (fun τ κ => XT.lcmp X.here hx rfl (hb hby d1_4) rfl κ) ?_
  show own_Go p e below _ T (mkF m 5 #[.val (.long q1), .second] [(.int (XT.cmpL q1 (-1 : Int64)))])
  by_cases c5 : q1 = (-1 : Int64)
  · refine own_st (fun τ κ => XS.ifYes X.here hx rfl (pc0 := 5) (pc' := 22) rfl (hb hby d1_5) rfl (XT.ll_eq_t c5) (by decide) (by decide) κ) ?_
    show own_Go p e below _ T (mkF m 22 #[.val (.long q1), .second] [])
    refine own_st (fun τ κ => XT.iconstV X.here hx rfl (1) (hb hby d1_22) (by decide) κ) ?_
    show own_Go p e below _ T (mkF m 23 #[.val (.long q1), .second] [(.int (1 : Int32))])
    refine own_st (fun τ κ => XS.goto X.here hx rfl (pc0 := 23) (pc' := 27) rfl (hb hby d1_23) (by decide) (by decide) κ) ?_
    show own_Go p e below _ T (mkF m 27 #[.val (.long q1), .second] [(.int (1 : Int32))])
    refine own_retZ X hx hlk hret (by decide) (by decide) (by decide) (hb hby d1_27) ?_
    exact ⟨by rw [own_al_m1 c5], N0, e0⟩
  · refine own_st (fun τ κ => XS.ifNo X.here hx rfl (hb hby d1_5) rfl (XT.ll_eq_f c5) κ) ?_
    show own_Go p e below _ T (mkF m 8 #[.val (.long q1), .second] [])
    refine own_st (fun τ κ => XS.lloadN X.here hx rfl (hb hby d1_8) rfl κ) ?_
    show own_Go p e below _ T (mkF m 9 #[.val (.long q1), .second] [(.long q1)])
    refine own_st (fun τ κ => XT.lconstV X.here hx rfl (1) (hb hby d1_9) (by decide) κ) ?_
    show own_Go p e below _ T (mkF m 10 #[.val (.long q1), .second] [(.long (1 : Int64)), (.long q1)])
    refine own_st (fun τ κ => XT.lcmp X.here hx rfl (hb hby d1_10) rfl κ) ?_
    show own_Go p e below _ T (mkF m 11 #[.val (.long q1), .second] [(.int (XT.cmpL q1 (1 : Int64)))])
    by_cases c11 : q1 < (1 : Int64)
    · refine own_st (fun τ κ => XS.ifYes X.here hx rfl (pc0 := 11) (pc' := 26) rfl (hb hby d1_11) rfl (XT.ll_lt_t c11) (by decide) (by decide) κ) ?_
      show own_Go p e below _ T (mkF m 26 #[.val (.long q1), .second] [])
      refine own_st (fun τ κ => XT.iconstV X.here hx rfl (0) (hb hby d1_26) (by decide) κ) ?_
      show own_Go p e below _ T (mkF m 27 #[.val (.long q1), .second] [(.int (0 : Int32))])
      refine own_retZ X hx hlk hret (by decide) (by decide) (by decide) (hb hby d1_27) ?_
      exact ⟨by rw [own_al_low c5 c11], N0, e0⟩
    · refine own_st (fun τ κ => XS.ifNo X.here hx rfl (hb hby d1_11) rfl (XT.ll_lt_f c11) κ) ?_
      show own_Go p e below _ T (mkF m 14 #[.val (.long q1), .second] [])
      refine own_st (fun τ κ => XS.lloadN X.here hx rfl (hb hby d1_14) rfl κ) ?_
      show own_Go p e below _ T (mkF m 15 #[.val (.long q1), .second] [(.long q1)])
      refine own_st (fun τ κ => Stand.ldc2J X hx hown (mvT hZ (hw _ (List.mem_of_getElem? (i := 5) rfl))) rfl (hb hby d1_15) κ) ?_
      show own_Go p e below _ T (mkF m 18 #[.val (.long q1), .second] [(.long (2147483647 : Int64)), (.long q1)])
      refine own_st (fun τ κ => XT.lcmp X.here hx rfl (hb hby d1_18) rfl κ) ?_
      show own_Go p e below _ T (mkF m 19 #[.val (.long q1), .second] [(.int (XT.cmpL q1 (2147483647 : Int64)))])
      by_cases c19 : (2147483647 : Int64) < q1
      · refine own_st (fun τ κ => XS.ifYes X.here hx rfl (pc0 := 19) (pc' := 26) rfl (hb hby d1_19) rfl (XT.ll_gt_t c19) (by decide) (by decide) κ) ?_
        show own_Go p e below _ T (mkF m 26 #[.val (.long q1), .second] [])
        refine own_st (fun τ κ => XT.iconstV X.here hx rfl (0) (hb hby d1_26) (by decide) κ) ?_
        show own_Go p e below _ T (mkF m 27 #[.val (.long q1), .second] [(.int (0 : Int32))])
        refine own_retZ X hx hlk hret (by decide) (by decide) (by decide) (hb hby d1_27) ?_
        exact ⟨by rw [own_al_big c5 c11 c19], N0, e0⟩
      · refine own_st (fun τ κ => XS.ifNo X.here hx rfl (hb hby d1_19) rfl (XT.ll_gt_f c19) κ) ?_
        show own_Go p e below _ T (mkF m 22 #[.val (.long q1), .second] [])
        refine own_st (fun τ κ => XT.iconstV X.here hx rfl (1) (hb hby d1_22) (by decide) κ) ?_
        show own_Go p e below _ T (mkF m 23 #[.val (.long q1), .second] [(.int (1 : Int32))])
        refine own_st (fun τ κ => XS.goto X.here hx rfl (pc0 := 23) (pc' := 27) rfl (hb hby d1_23) (by decide) (by decide) κ) ?_
        show own_Go p e below _ T (mkF m 27 #[.val (.long q1), .second] [(.int (1 : Int32))])
        refine own_retZ X hx hlk hret (by decide) (by decide) (by decide) (hb hby d1_27) ?_
        exact ⟨by rw [own_al_in c5 c11 c19], N0, e0⟩

set_option maxRecDepth 65536 in
set_option maxHeartbeats 40000000 in
theorem rm2 (l : Launch) (Z : State) (a0 : Array Value) (hw : ∀ d ∈ tables_1, d.before a0 Z = true) (q1 : Int64) (h0 : Heap) (n0 : Nat) :
    own_Met l Z h0 (⟨"com/example/hourglass_sweep/hourglasssweep/expiry/ExpiryRuleIsAllowedPinLaw", "expected", "(J)Z"⟩ : MethodName) method_2_code 4 (some .boolean) ({ frames := 0, cells := 0, slots := 0, locals := 0 } : Room) #[(.long q1)] (fun v h L => v = some (.int (own_allowed q1)) ∧ Fr n0 L ∧ h = h0) := by
  refine own_body pn_2 (fun m => ef_2 m q1) ?_
  intro p e s m below meth c T X hx hby hml hret hlk hown hnm hZ e0
  have hown : s.vm.findClass "com/example/hourglass_sweep/hourglasssweep/expiry/ExpiryRuleIsAllowedPinLaw" = some m.cls := hown
  have hml : c.maxLocals = 4 := hml
  have N0 : Fr n0 ([] : List Loc) := Fr.nil n0
  show own_Go p e below _ T (mkF m 0 #[.val (.long q1), .second, .unset, .unset] [])
  refine own_st (fun τ κ => XS.lloadN X.here hx rfl (hb hby d2_0) rfl κ) ?_
  show own_Go p e below _ T (mkF m 1 #[.val (.long q1), .second, .unset, .unset] [(.long q1)])
  refine own_st (fun τ κ => XT.l2i X.here hx rfl (hb hby d2_1) rfl κ) ?_
  show own_Go p e below _ T (mkF m 2 #[.val (.long q1), .second, .unset, .unset] [(.int (q1.toInt32))])
  refine own_st (fun τ κ => XS.istoreN X.here hx rfl (hb hby d2_2) rfl (l' := #[.val (.long q1), .second, .val (.int (q1.toInt32)), .unset]) rfl κ) ?_
  show own_Go p e below _ T (mkF m 3 #[.val (.long q1), .second, .val (.int (q1.toInt32)), .unset] [])
  refine own_st (fun τ κ => XS.lloadN X.here hx rfl (hb hby d2_3) rfl κ) ?_
  show own_Go p e below _ T (mkF m 4 #[.val (.long q1), .second, .val (.int (q1.toInt32)), .unset] [(.long q1)])
  refine own_st (fun τ κ => XS.iloadN X.here hx rfl (hb hby d2_4) rfl κ) ?_
  show own_Go p e below _ T (mkF m 5 #[.val (.long q1), .second, .val (.int (q1.toInt32)), .unset] [(.int (q1.toInt32)), (.long q1)])
  refine own_st (fun τ κ => XT.i2l X.here hx rfl (hb hby d2_5) rfl κ) ?_
  show own_Go p e below _ T (mkF m 6 #[.val (.long q1), .second, .val (.int (q1.toInt32)), .unset] [(.long ((q1.toInt32).toInt64)), (.long q1)])
  refine own_st (fun τ κ => XT.lcmp X.here hx rfl (hb hby d2_6) rfl κ) ?_
  show own_Go p e below _ T (mkF m 7 #[.val (.long q1), .second, .val (.int (q1.toInt32)), .unset] [(.int (XT.cmpL q1 ((q1.toInt32).toInt64)))])
  by_cases c7 : q1 = ((q1.toInt32).toInt64)
  · refine own_st (fun τ κ => XS.ifNo X.here hx rfl (hb hby d2_7) rfl (XT.ll_ne_f c7) κ) ?_
    show own_Go p e below _ T (mkF m 10 #[.val (.long q1), .second, .val (.int (q1.toInt32)), .unset] [])
    refine own_st (fun τ κ => XT.iconstV X.here hx rfl (1) (hb hby d2_10) (by decide) κ) ?_
    show own_Go p e below _ T (mkF m 11 #[.val (.long q1), .second, .val (.int (q1.toInt32)), .unset] [(.int (1 : Int32))])
    refine own_st (fun τ κ => XS.goto X.here hx rfl (pc0 := 11) (pc' := 15) rfl (hb hby d2_11) (by decide) (by decide) κ) ?_
    show own_Go p e below _ T (mkF m 15 #[.val (.long q1), .second, .val (.int (q1.toInt32)), .unset] [(.int (1 : Int32))])
    refine own_st (fun τ κ => XS.istoreN X.here hx rfl (hb hby d2_15) rfl (l' := #[.val (.long q1), .second, .val (.int (q1.toInt32)), .val (.int (1 : Int32))]) rfl κ) ?_
    show own_Go p e below _ T (mkF m 16 #[.val (.long q1), .second, .val (.int (q1.toInt32)), .val (.int (1 : Int32))] [])
    refine own_st (fun τ κ => XS.iloadN X.here hx rfl (hb hby d2_16) rfl κ) ?_
    show own_Go p e below _ T (mkF m 17 #[.val (.long q1), .second, .val (.int (q1.toInt32)), .val (.int (1 : Int32))] [(.int (1 : Int32))])
    refine own_st (fun τ κ => XS.ifNo X.here hx rfl (hb hby d2_17) rfl (XT.i0_eq_f (by decide)) κ) ?_
    show own_Go p e below _ T (mkF m 20 #[.val (.long q1), .second, .val (.int (q1.toInt32)), .val (.int (1 : Int32))] [])
    refine own_st (fun τ κ => XS.iloadN X.here hx rfl (hb hby d2_20) rfl κ) ?_
    show own_Go p e below _ T (mkF m 21 #[.val (.long q1), .second, .val (.int (q1.toInt32)), .val (.int (1 : Int32))] [(.int (q1.toInt32))])
    refine own_st (fun τ κ => XT.iconstV X.here hx rfl (-1) (hb hby d2_21) (by decide) κ) ?_
    show own_Go p e below _ T (mkF m 22 #[.val (.long q1), .second, .val (.int (q1.toInt32)), .val (.int (1 : Int32))] [(.int (-1 : Int32)), (.int (q1.toInt32))])
    by_cases c22 : (q1.toInt32) = (-1 : Int32)
    · refine own_st (fun τ κ => XS.icmpYes X.here hx rfl (pc0 := 22) (pc' := 29) rfl (hb hby d2_22) rfl (XT.ii_eq_t c22) (by decide) (by decide) κ) ?_
      show own_Go p e below _ T (mkF m 29 #[.val (.long q1), .second, .val (.int (q1.toInt32)), .val (.int (1 : Int32))] [])
      refine own_st (fun τ κ => XT.iconstV X.here hx rfl (1) (hb hby d2_29) (by decide) κ) ?_
      show own_Go p e below _ T (mkF m 30 #[.val (.long q1), .second, .val (.int (q1.toInt32)), .val (.int (1 : Int32))] [(.int (1 : Int32))])
      refine own_st (fun τ κ => XS.goto X.here hx rfl (pc0 := 30) (pc' := 34) rfl (hb hby d2_30) (by decide) (by decide) κ) ?_
      show own_Go p e below _ T (mkF m 34 #[.val (.long q1), .second, .val (.int (q1.toInt32)), .val (.int (1 : Int32))] [(.int (1 : Int32))])
      refine own_retZ X hx hlk hret (by decide) (by decide) (by decide) (hb hby d2_34) ?_
      exact ⟨by rw [(own_al_of q1 c7).1 c22], N0, e0⟩
    · refine own_st (fun τ κ => XS.icmpNo X.here hx rfl (hb hby d2_22) rfl (XT.ii_eq_f c22) κ) ?_
      show own_Go p e below _ T (mkF m 25 #[.val (.long q1), .second, .val (.int (q1.toInt32)), .val (.int (1 : Int32))] [])
      refine own_st (fun τ κ => XS.iloadN X.here hx rfl (hb hby d2_25) rfl κ) ?_
      show own_Go p e below _ T (mkF m 26 #[.val (.long q1), .second, .val (.int (q1.toInt32)), .val (.int (1 : Int32))] [(.int (q1.toInt32))])
      by_cases c26 : (0 : Int32) < (q1.toInt32)
      · refine own_st (fun τ κ => XS.ifNo X.here hx rfl (hb hby d2_26) rfl (XT.i0_le_f c26) κ) ?_
        show own_Go p e below _ T (mkF m 29 #[.val (.long q1), .second, .val (.int (q1.toInt32)), .val (.int (1 : Int32))] [])
        refine own_st (fun τ κ => XT.iconstV X.here hx rfl (1) (hb hby d2_29) (by decide) κ) ?_
        show own_Go p e below _ T (mkF m 30 #[.val (.long q1), .second, .val (.int (q1.toInt32)), .val (.int (1 : Int32))] [(.int (1 : Int32))])
        refine own_st (fun τ κ => XS.goto X.here hx rfl (pc0 := 30) (pc' := 34) rfl (hb hby d2_30) (by decide) (by decide) κ) ?_
        show own_Go p e below _ T (mkF m 34 #[.val (.long q1), .second, .val (.int (q1.toInt32)), .val (.int (1 : Int32))] [(.int (1 : Int32))])
        refine own_retZ X hx hlk hret (by decide) (by decide) (by decide) (hb hby d2_34) ?_
        exact ⟨by rw [(own_al_of q1 c7).2.1 c26], N0, e0⟩
      · refine own_st (fun τ κ => XS.ifYes X.here hx rfl (pc0 := 26) (pc' := 33) rfl (hb hby d2_26) rfl (XT.i0_le_t c26) (by decide) (by decide) κ) ?_
        show own_Go p e below _ T (mkF m 33 #[.val (.long q1), .second, .val (.int (q1.toInt32)), .val (.int (1 : Int32))] [])
        refine own_st (fun τ κ => XT.iconstV X.here hx rfl (0) (hb hby d2_33) (by decide) κ) ?_
        show own_Go p e below _ T (mkF m 34 #[.val (.long q1), .second, .val (.int (q1.toInt32)), .val (.int (1 : Int32))] [(.int (0 : Int32))])
        refine own_retZ X hx hlk hret (by decide) (by decide) (by decide) (hb hby d2_34) ?_
        exact ⟨by rw [(own_al_of q1 c7).2.2 c22 c26], N0, e0⟩
  · refine own_st (fun τ κ => XS.ifYes X.here hx rfl (pc0 := 7) (pc' := 14) rfl (hb hby d2_7) rfl (XT.ll_ne_t c7) (by decide) (by decide) κ) ?_
    show own_Go p e below _ T (mkF m 14 #[.val (.long q1), .second, .val (.int (q1.toInt32)), .unset] [])
    refine own_st (fun τ κ => XT.iconstV X.here hx rfl (0) (hb hby d2_14) (by decide) κ) ?_
    show own_Go p e below _ T (mkF m 15 #[.val (.long q1), .second, .val (.int (q1.toInt32)), .unset] [(.int (0 : Int32))])
    refine own_st (fun τ κ => XS.istoreN X.here hx rfl (hb hby d2_15) rfl (l' := #[.val (.long q1), .second, .val (.int (q1.toInt32)), .val (.int (0 : Int32))]) rfl κ) ?_
    show own_Go p e below _ T (mkF m 16 #[.val (.long q1), .second, .val (.int (q1.toInt32)), .val (.int (0 : Int32))] [])
    refine own_st (fun τ κ => XS.iloadN X.here hx rfl (hb hby d2_16) rfl κ) ?_
    show own_Go p e below _ T (mkF m 17 #[.val (.long q1), .second, .val (.int (q1.toInt32)), .val (.int (0 : Int32))] [(.int (0 : Int32))])
    refine own_st (fun τ κ => XS.ifYes X.here hx rfl (pc0 := 17) (pc' := 33) rfl (hb hby d2_17) rfl (XT.i0_eq_t rfl) (by decide) (by decide) κ) ?_
    show own_Go p e below _ T (mkF m 33 #[.val (.long q1), .second, .val (.int (q1.toInt32)), .val (.int (0 : Int32))] [])
    refine own_st (fun τ κ => XT.iconstV X.here hx rfl (0) (hb hby d2_33) (by decide) κ) ?_
    show own_Go p e below _ T (mkF m 34 #[.val (.long q1), .second, .val (.int (q1.toInt32)), .val (.int (0 : Int32))] [(.int (0 : Int32))])
    refine own_retZ X hx hlk hret (by decide) (by decide) (by decide) (hb hby d2_34) ?_
    exact ⟨by rw [own_al_no c7], N0, e0⟩

set_option maxRecDepth 65536 in
set_option maxHeartbeats 40000000 in
theorem rm0 (l : Launch) (Z : State) (a0 : Array Value) (hw : ∀ d ∈ tables_1, d.before a0 Z = true) (q1 : Int64) (p2 : Int32) (h0 : Heap) (n0 : Nat) (Z0 : n0 ≤ h0.size) :
    own_Met l Z h0 x code maxLocals ret room_1 #[(.long q1), (.int p2)] (fun v h L => v = some (.int (1 : Int32)) ∧ Fr n0 L) := by
  refine own_body pn_0 (fun m => ef_0 m q1 p2) ?_
  intro p e s m below meth c T X hx hby hml hret hlk hown hnm hZ e0
  have hown : s.vm.findClass "com/example/hourglass_sweep/hourglasssweep/expiry/ExpiryRuleIsAllowedPinLaw" = some m.cls := hown
  have hml : c.maxLocals = 4 := hml
  have N0 : Fr n0 ([] : List Loc) := Fr.nil n0
  show own_Go p e below _ T (mkF m 0 #[.val (.long q1), .second, .val (.int p2), .unset] [])
  refine own_st (fun τ κ => XS.lloadN X.here hx rfl (hb hby at_0) rfl κ) ?_
  show own_Go p e below _ T (mkF m 1 #[.val (.long q1), .second, .val (.int p2), .unset] [(.long q1)])
  refine own_callS X hx hZ e0 hown (hw _ (List.mem_of_getElem? (i := 0) rfl)) (hw _ (List.mem_of_getElem? (i := 1) rfl)) (hw _ (List.mem_of_getElem? (i := 2) rfl)) (hw _ (List.mem_of_getElem? (i := 3) rfl)) (by decide) pd_1 (argsL := [(.long q1)]) rfl (rm1 l Z a0 hw q1 h0 n0) 0 (by decide) (by decide) (by decide) (by decide) (rest := []) rfl (by rw [hml]; rfl) (Nat.le_of_eq rfl) (hb hby at_1) ?_
  intro v1 T1 L1 hQ1 X1
  obtain ⟨rfl, Nq1, e1⟩ := hQ1
  have N1 := Fr.app N0 Nq1
  show own_Go p e below _ T1 (mkF m 4 #[.val (.long q1), .second, .val (.int p2), .unset] [(.int (own_allowed q1))])
  refine own_st (fun τ κ => XS.lloadN X1.here hx rfl (hb hby at_4) rfl κ) ?_
  show own_Go p e below _ T1 (mkF m 5 #[.val (.long q1), .second, .val (.int p2), .unset] [(.long q1), (.int (own_allowed q1))])
  refine own_callS X1 hx hZ e1 hown (hw _ (List.mem_of_getElem? (i := 6) rfl)) (hw _ (List.mem_of_getElem? (i := 7) rfl)) (hw _ (List.mem_of_getElem? (i := 8) rfl)) (hw _ (List.mem_of_getElem? (i := 9) rfl)) (by decide) pd_2 (argsL := [(.long q1)]) rfl (rm2 l Z a0 hw q1 h0 n0) 1 (by decide) (by decide) (by decide) (by decide) (rest := [(.int (own_allowed q1))]) rfl (by rw [hml]; rfl) (Nat.le_of_eq rfl) (hb hby at_5) ?_
  intro v2 T2 L2 hQ2 X2
  obtain ⟨rfl, Nq2, e2⟩ := hQ2
  have N2 := Fr.app N1 Nq2
  show own_Go p e below _ T2 (mkF m 8 #[.val (.long q1), .second, .val (.int p2), .unset] [(.int (own_allowed q1)), (.int (own_allowed q1))])
  refine own_st (fun τ κ => XS.icmpNo X2.here hx rfl (hb hby at_8) rfl (XT.ii_ne_f rfl) κ) ?_
  show own_Go p e below _ T2 (mkF m 11 #[.val (.long q1), .second, .val (.int p2), .unset] [])
  refine own_st (fun τ κ => XT.iconstV X2.here hx rfl (1) (hb hby at_11) (by decide) κ) ?_
  show own_Go p e below _ T2 (mkF m 12 #[.val (.long q1), .second, .val (.int p2), .unset] [(.int (1 : Int32))])
  refine own_st (fun τ κ => XS.goto X2.here hx rfl (pc0 := 12) (pc' := 16) rfl (hb hby at_12) (by decide) (by decide) κ) ?_
  show own_Go p e below _ T2 (mkF m 16 #[.val (.long q1), .second, .val (.int p2), .unset] [(.int (1 : Int32))])
  refine own_st (fun τ κ => XS.istoreN X2.here hx rfl (hb hby at_16) rfl (l' := #[.val (.long q1), .second, .val (.int p2), .val (.int (1 : Int32))]) rfl κ) ?_
  show own_Go p e below _ T2 (mkF m 17 #[.val (.long q1), .second, .val (.int p2), .val (.int (1 : Int32))] [])
  refine own_st (fun τ κ => XS.iloadN X2.here hx rfl (hb hby at_17) rfl κ) ?_
  show own_Go p e below _ T2 (mkF m 18 #[.val (.long q1), .second, .val (.int p2), .val (.int (1 : Int32))] [(.int (1 : Int32))])
  refine own_st (fun τ κ => XS.ifNo X2.here hx rfl (hb hby at_18) rfl (XT.i0_eq_f (by decide)) κ) ?_
  show own_Go p e below _ T2 (mkF m 21 #[.val (.long q1), .second, .val (.int p2), .val (.int (1 : Int32))] [])
  refine own_st (fun τ κ => XS.iloadN X2.here hx rfl (hb hby at_21) rfl κ) ?_
  show own_Go p e below _ T2 (mkF m 22 #[.val (.long q1), .second, .val (.int p2), .val (.int (1 : Int32))] [(.int p2)])
  refine own_st (fun τ κ => XT.i2l X2.here hx rfl (hb hby at_22) rfl κ) ?_
  show own_Go p e below _ T2 (mkF m 23 #[.val (.long q1), .second, .val (.int p2), .val (.int (1 : Int32))] [(.long (p2.toInt64))])
  refine own_callS X2 hx hZ e2 hown (hw _ (List.mem_of_getElem? (i := 0) rfl)) (hw _ (List.mem_of_getElem? (i := 1) rfl)) (hw _ (List.mem_of_getElem? (i := 2) rfl)) (hw _ (List.mem_of_getElem? (i := 3) rfl)) (by decide) pd_1 (argsL := [(.long (p2.toInt64))]) rfl (rm1 l Z a0 hw (p2.toInt64) h0 n0) 0 (by decide) (by decide) (by decide) (by decide) (rest := []) rfl (by rw [hml]; rfl) (Nat.le_of_eq rfl) (hb hby at_23) ?_
  intro v3 T3 L3 hQ3 X3
  obtain ⟨rfl, Nq3, e3⟩ := hQ3
  have N3 := Fr.app N2 Nq3
  show own_Go p e below _ T3 (mkF m 26 #[.val (.long q1), .second, .val (.int p2), .val (.int (1 : Int32))] [(.int (own_allowed (p2.toInt64)))])
  refine own_st (fun τ κ => XS.iloadN X3.here hx rfl (hb hby at_26) rfl κ) ?_
  show own_Go p e below _ T3 (mkF m 27 #[.val (.long q1), .second, .val (.int p2), .val (.int (1 : Int32))] [(.int p2), (.int (own_allowed (p2.toInt64)))])
  refine own_st (fun τ κ => XT.iconstV X3.here hx rfl (-1) (hb hby at_27) (by decide) κ) ?_
  show own_Go p e below _ T3 (mkF m 28 #[.val (.long q1), .second, .val (.int p2), .val (.int (1 : Int32))] [(.int (-1 : Int32)), (.int p2), (.int (own_allowed (p2.toInt64)))])
  suffices J41 : own_Go p e below _ T3 (mkF m 41 #[.val (.long q1), .second, .val (.int p2), .val (.int (1 : Int32))] [(.int (own_allowed (p2.toInt64))), (.int (own_allowed (p2.toInt64)))]) by
    by_cases c28 : p2 = (-1 : Int32)
    · refine own_st (fun τ κ => XS.icmpYes X3.here hx rfl (pc0 := 28) (pc' := 36) rfl (hb hby at_28) rfl (XT.ii_eq_t c28) (by decide) (by decide) κ) ?_
      show own_Go p e below _ T3 (mkF m 36 #[.val (.long q1), .second, .val (.int p2), .val (.int (1 : Int32))] [(.int (own_allowed (p2.toInt64)))])
      refine own_st (fun τ κ => XT.iconstV X3.here hx rfl (1) (hb hby at_36) (by decide) κ) ?_
      show own_Go p e below _ T3 (mkF m 37 #[.val (.long q1), .second, .val (.int p2), .val (.int (1 : Int32))] [(.int (1 : Int32)), (.int (own_allowed (p2.toInt64)))])
      refine own_st (fun τ κ => XS.goto X3.here hx rfl (pc0 := 37) (pc' := 41) rfl (hb hby at_37) (by decide) (by decide) κ) ?_
      show own_Go p e below _ T3 (mkF m 41 #[.val (.long q1), .second, .val (.int p2), .val (.int (1 : Int32))] [(.int (1 : Int32)), (.int (own_allowed (p2.toInt64)))])
      rw [(own_al_of (p2.toInt64) rfl).1 c28] at J41 ⊢
      exact J41
    · refine own_st (fun τ κ => XS.icmpNo X3.here hx rfl (hb hby at_28) rfl (XT.ii_eq_f c28) κ) ?_
      show own_Go p e below _ T3 (mkF m 31 #[.val (.long q1), .second, .val (.int p2), .val (.int (1 : Int32))] [(.int (own_allowed (p2.toInt64)))])
      refine own_st (fun τ κ => XS.iloadN X3.here hx rfl (hb hby at_31) rfl κ) ?_
      show own_Go p e below _ T3 (mkF m 32 #[.val (.long q1), .second, .val (.int p2), .val (.int (1 : Int32))] [(.int p2), (.int (own_allowed (p2.toInt64)))])
      refine own_st (fun τ κ => XT.iconstV X3.here hx rfl (1) (hb hby at_32) (by decide) κ) ?_
      show own_Go p e below _ T3 (mkF m 33 #[.val (.long q1), .second, .val (.int p2), .val (.int (1 : Int32))] [(.int (1 : Int32)), (.int p2), (.int (own_allowed (p2.toInt64)))])
      by_cases c33 : p2 < (1 : Int32)
      · refine own_st (fun τ κ => XS.icmpYes X3.here hx rfl (pc0 := 33) (pc' := 40) rfl (hb hby at_33) rfl (XT.ii_lt_t c33) (by decide) (by decide) κ) ?_
        show own_Go p e below _ T3 (mkF m 40 #[.val (.long q1), .second, .val (.int p2), .val (.int (1 : Int32))] [(.int (own_allowed (p2.toInt64)))])
        refine own_st (fun τ κ => XT.iconstV X3.here hx rfl (0) (hb hby at_40) (by decide) κ) ?_
        show own_Go p e below _ T3 (mkF m 41 #[.val (.long q1), .second, .val (.int p2), .val (.int (1 : Int32))] [(.int (0 : Int32)), (.int (own_allowed (p2.toInt64)))])
        rw [(own_al_of (p2.toInt64) rfl).2.2 c28 ((own_ge1 p2).mp c33)] at J41 ⊢
        exact J41
      · refine own_st (fun τ κ => XS.icmpNo X3.here hx rfl (hb hby at_33) rfl (XT.ii_lt_f c33) κ) ?_
        show own_Go p e below _ T3 (mkF m 36 #[.val (.long q1), .second, .val (.int p2), .val (.int (1 : Int32))] [(.int (own_allowed (p2.toInt64)))])
        refine own_st (fun τ κ => XT.iconstV X3.here hx rfl (1) (hb hby at_36) (by decide) κ) ?_
        show own_Go p e below _ T3 (mkF m 37 #[.val (.long q1), .second, .val (.int p2), .val (.int (1 : Int32))] [(.int (1 : Int32)), (.int (own_allowed (p2.toInt64)))])
        refine own_st (fun τ κ => XS.goto X3.here hx rfl (pc0 := 37) (pc' := 41) rfl (hb hby at_37) (by decide) (by decide) κ) ?_
        show own_Go p e below _ T3 (mkF m 41 #[.val (.long q1), .second, .val (.int p2), .val (.int (1 : Int32))] [(.int (1 : Int32)), (.int (own_allowed (p2.toInt64)))])
        rw [(own_al_of (p2.toInt64) rfl).2.1 (Decidable.not_not.mp (fun q => c33 ((own_ge1 p2).mpr q)))] at J41 ⊢
        exact J41
  show own_Go p e below _ T3 (mkF m 41 #[.val (.long q1), .second, .val (.int p2), .val (.int (1 : Int32))] [(.int (own_allowed (p2.toInt64))), (.int (own_allowed (p2.toInt64)))])
  refine own_st (fun τ κ => XS.icmpNo X3.here hx rfl (hb hby at_41) rfl (XT.ii_ne_f rfl) κ) ?_
  show own_Go p e below _ T3 (mkF m 44 #[.val (.long q1), .second, .val (.int p2), .val (.int (1 : Int32))] [])
  refine own_st (fun τ κ => XT.iconstV X3.here hx rfl (1) (hb hby at_44) (by decide) κ) ?_
  show own_Go p e below _ T3 (mkF m 45 #[.val (.long q1), .second, .val (.int p2), .val (.int (1 : Int32))] [(.int (1 : Int32))])
  refine own_st (fun τ κ => XS.goto X3.here hx rfl (pc0 := 45) (pc' := 49) rfl (hb hby at_45) (by decide) (by decide) κ) ?_
  show own_Go p e below _ T3 (mkF m 49 #[.val (.long q1), .second, .val (.int p2), .val (.int (1 : Int32))] [(.int (1 : Int32))])
  refine own_st (fun τ κ => XS.istoreN X3.here hx rfl (hb hby at_49) rfl (l' := #[.val (.long q1), .second, .val (.int p2), .val (.int (1 : Int32))]) rfl κ) ?_
  show own_Go p e below _ T3 (mkF m 50 #[.val (.long q1), .second, .val (.int p2), .val (.int (1 : Int32))] [])
  refine own_st (fun τ κ => XS.iloadN X3.here hx rfl (hb hby at_50) rfl κ) ?_
  show own_Go p e below _ T3 (mkF m 51 #[.val (.long q1), .second, .val (.int p2), .val (.int (1 : Int32))] [(.int (1 : Int32))])
  refine own_st (fun τ κ => XS.ifNo X3.here hx rfl (hb hby at_51) rfl (XT.i0_eq_f (by decide)) κ) ?_
  show own_Go p e below _ T3 (mkF m 54 #[.val (.long q1), .second, .val (.int p2), .val (.int (1 : Int32))] [])
  refine own_st (fun τ κ => Stand.ldc2J X3 hx hown (mvT hZ (hw _ (List.mem_of_getElem? (i := 10) rfl))) rfl (hb hby at_54) κ) ?_
  show own_Go p e below _ T3 (mkF m 57 #[.val (.long q1), .second, .val (.int p2), .val (.int (1 : Int32))] [(.long (-1 : Int64))])
  refine own_callS X3 hx hZ e3 hown (hw _ (List.mem_of_getElem? (i := 0) rfl)) (hw _ (List.mem_of_getElem? (i := 1) rfl)) (hw _ (List.mem_of_getElem? (i := 2) rfl)) (hw _ (List.mem_of_getElem? (i := 3) rfl)) (by decide) pd_1 (argsL := [(.long (-1 : Int64))]) rfl (rm1 l Z a0 hw (-1 : Int64) h0 n0) 0 (by decide) (by decide) (by decide) (by decide) (rest := []) rfl (by rw [hml]; rfl) (Nat.le_of_eq rfl) (hb hby at_57) ?_
  intro v4 T4 L4 hQ4 X4
  obtain ⟨rfl, Nq4, e4⟩ := hQ4
  have N4 := Fr.app N3 Nq4
  show own_Go p e below _ T4 (mkF m 60 #[.val (.long q1), .second, .val (.int p2), .val (.int (1 : Int32))] [(.int (own_allowed (-1 : Int64)))])
  refine own_st (fun τ κ => XS.ifNo X4.here hx rfl (hb hby at_60) rfl (XT.i0_eq_f (by decide)) κ) ?_
  show own_Go p e below _ T4 (mkF m 63 #[.val (.long q1), .second, .val (.int p2), .val (.int (1 : Int32))] [])
  refine own_st (fun τ κ => XT.iconstV X4.here hx rfl (1) (hb hby at_63) (by decide) κ) ?_
  show own_Go p e below _ T4 (mkF m 64 #[.val (.long q1), .second, .val (.int p2), .val (.int (1 : Int32))] [(.int (1 : Int32))])
  refine own_st (fun τ κ => XS.goto X4.here hx rfl (pc0 := 64) (pc' := 68) rfl (hb hby at_64) (by decide) (by decide) κ) ?_
  show own_Go p e below _ T4 (mkF m 68 #[.val (.long q1), .second, .val (.int p2), .val (.int (1 : Int32))] [(.int (1 : Int32))])
  refine own_st (fun τ κ => XS.istoreN X4.here hx rfl (hb hby at_68) rfl (l' := #[.val (.long q1), .second, .val (.int p2), .val (.int (1 : Int32))]) rfl κ) ?_
  show own_Go p e below _ T4 (mkF m 69 #[.val (.long q1), .second, .val (.int p2), .val (.int (1 : Int32))] [])
  refine own_st (fun τ κ => XS.iloadN X4.here hx rfl (hb hby at_69) rfl κ) ?_
  show own_Go p e below _ T4 (mkF m 70 #[.val (.long q1), .second, .val (.int p2), .val (.int (1 : Int32))] [(.int (1 : Int32))])
  refine own_st (fun τ κ => XS.ifNo X4.here hx rfl (hb hby at_70) rfl (XT.i0_eq_f (by decide)) κ) ?_
  show own_Go p e below _ T4 (mkF m 73 #[.val (.long q1), .second, .val (.int p2), .val (.int (1 : Int32))] [])
  refine own_st (fun τ κ => Stand.ldc2J X4 hx hown (mvT hZ (hw _ (List.mem_of_getElem? (i := 11) rfl))) rfl (hb hby at_73) κ) ?_
  show own_Go p e below _ T4 (mkF m 76 #[.val (.long q1), .second, .val (.int p2), .val (.int (1 : Int32))] [(.long (-2 : Int64))])
  refine own_callS X4 hx hZ e4 hown (hw _ (List.mem_of_getElem? (i := 0) rfl)) (hw _ (List.mem_of_getElem? (i := 1) rfl)) (hw _ (List.mem_of_getElem? (i := 2) rfl)) (hw _ (List.mem_of_getElem? (i := 3) rfl)) (by decide) pd_1 (argsL := [(.long (-2 : Int64))]) rfl (rm1 l Z a0 hw (-2 : Int64) h0 n0) 0 (by decide) (by decide) (by decide) (by decide) (rest := []) rfl (by rw [hml]; rfl) (Nat.le_of_eq rfl) (hb hby at_76) ?_
  intro v5 T5 L5 hQ5 X5
  obtain ⟨rfl, Nq5, e5⟩ := hQ5
  have N5 := Fr.app N4 Nq5
  show own_Go p e below _ T5 (mkF m 79 #[.val (.long q1), .second, .val (.int p2), .val (.int (1 : Int32))] [(.int (own_allowed (-2 : Int64)))])
  refine own_st (fun τ κ => XS.ifNo X5.here hx rfl (hb hby at_79) rfl (XT.i0_ne_f (by decide)) κ) ?_
  show own_Go p e below _ T5 (mkF m 82 #[.val (.long q1), .second, .val (.int p2), .val (.int (1 : Int32))] [])
  refine own_st (fun τ κ => XT.iconstV X5.here hx rfl (1) (hb hby at_82) (by decide) κ) ?_
  show own_Go p e below _ T5 (mkF m 83 #[.val (.long q1), .second, .val (.int p2), .val (.int (1 : Int32))] [(.int (1 : Int32))])
  refine own_st (fun τ κ => XS.goto X5.here hx rfl (pc0 := 83) (pc' := 87) rfl (hb hby at_83) (by decide) (by decide) κ) ?_
  show own_Go p e below _ T5 (mkF m 87 #[.val (.long q1), .second, .val (.int p2), .val (.int (1 : Int32))] [(.int (1 : Int32))])
  refine own_st (fun τ κ => XS.istoreN X5.here hx rfl (hb hby at_87) rfl (l' := #[.val (.long q1), .second, .val (.int p2), .val (.int (1 : Int32))]) rfl κ) ?_
  show own_Go p e below _ T5 (mkF m 88 #[.val (.long q1), .second, .val (.int p2), .val (.int (1 : Int32))] [])
  refine own_st (fun τ κ => XS.iloadN X5.here hx rfl (hb hby at_88) rfl κ) ?_
  show own_Go p e below _ T5 (mkF m 89 #[.val (.long q1), .second, .val (.int p2), .val (.int (1 : Int32))] [(.int (1 : Int32))])
  refine own_st (fun τ κ => XS.ifNo X5.here hx rfl (hb hby at_89) rfl (XT.i0_eq_f (by decide)) κ) ?_
  show own_Go p e below _ T5 (mkF m 92 #[.val (.long q1), .second, .val (.int p2), .val (.int (1 : Int32))] [])
  refine own_st (fun τ κ => XT.lconstV X5.here hx rfl (0) (hb hby at_92) (by decide) κ) ?_
  show own_Go p e below _ T5 (mkF m 93 #[.val (.long q1), .second, .val (.int p2), .val (.int (1 : Int32))] [(.long (0 : Int64))])
  refine own_callS X5 hx hZ e5 hown (hw _ (List.mem_of_getElem? (i := 0) rfl)) (hw _ (List.mem_of_getElem? (i := 1) rfl)) (hw _ (List.mem_of_getElem? (i := 2) rfl)) (hw _ (List.mem_of_getElem? (i := 3) rfl)) (by decide) pd_1 (argsL := [(.long (0 : Int64))]) rfl (rm1 l Z a0 hw (0 : Int64) h0 n0) 0 (by decide) (by decide) (by decide) (by decide) (rest := []) rfl (by rw [hml]; rfl) (Nat.le_of_eq rfl) (hb hby at_93) ?_
  intro v6 T6 L6 hQ6 X6
  obtain ⟨rfl, Nq6, e6⟩ := hQ6
  have N6 := Fr.app N5 Nq6
  show own_Go p e below _ T6 (mkF m 96 #[.val (.long q1), .second, .val (.int p2), .val (.int (1 : Int32))] [(.int (own_allowed (0 : Int64)))])
  refine own_st (fun τ κ => XS.ifNo X6.here hx rfl (hb hby at_96) rfl (XT.i0_ne_f (by decide)) κ) ?_
  show own_Go p e below _ T6 (mkF m 99 #[.val (.long q1), .second, .val (.int p2), .val (.int (1 : Int32))] [])
  refine own_st (fun τ κ => XT.iconstV X6.here hx rfl (1) (hb hby at_99) (by decide) κ) ?_
  show own_Go p e below _ T6 (mkF m 100 #[.val (.long q1), .second, .val (.int p2), .val (.int (1 : Int32))] [(.int (1 : Int32))])
  refine own_st (fun τ κ => XS.goto X6.here hx rfl (pc0 := 100) (pc' := 104) rfl (hb hby at_100) (by decide) (by decide) κ) ?_
  show own_Go p e below _ T6 (mkF m 104 #[.val (.long q1), .second, .val (.int p2), .val (.int (1 : Int32))] [(.int (1 : Int32))])
  refine own_st (fun τ κ => XS.istoreN X6.here hx rfl (hb hby at_104) rfl (l' := #[.val (.long q1), .second, .val (.int p2), .val (.int (1 : Int32))]) rfl κ) ?_
  show own_Go p e below _ T6 (mkF m 105 #[.val (.long q1), .second, .val (.int p2), .val (.int (1 : Int32))] [])
  refine own_st (fun τ κ => XS.iloadN X6.here hx rfl (hb hby at_105) rfl κ) ?_
  show own_Go p e below _ T6 (mkF m 106 #[.val (.long q1), .second, .val (.int p2), .val (.int (1 : Int32))] [(.int (1 : Int32))])
  refine own_st (fun τ κ => XS.ifNo X6.here hx rfl (hb hby at_106) rfl (XT.i0_eq_f (by decide)) κ) ?_
  show own_Go p e below _ T6 (mkF m 109 #[.val (.long q1), .second, .val (.int p2), .val (.int (1 : Int32))] [])
  refine own_st (fun τ κ => XT.lconstV X6.here hx rfl (1) (hb hby at_109) (by decide) κ) ?_
  show own_Go p e below _ T6 (mkF m 110 #[.val (.long q1), .second, .val (.int p2), .val (.int (1 : Int32))] [(.long (1 : Int64))])
  refine own_callS X6 hx hZ e6 hown (hw _ (List.mem_of_getElem? (i := 0) rfl)) (hw _ (List.mem_of_getElem? (i := 1) rfl)) (hw _ (List.mem_of_getElem? (i := 2) rfl)) (hw _ (List.mem_of_getElem? (i := 3) rfl)) (by decide) pd_1 (argsL := [(.long (1 : Int64))]) rfl (rm1 l Z a0 hw (1 : Int64) h0 n0) 0 (by decide) (by decide) (by decide) (by decide) (rest := []) rfl (by rw [hml]; rfl) (Nat.le_of_eq rfl) (hb hby at_110) ?_
  intro v7 T7 L7 hQ7 X7
  obtain ⟨rfl, Nq7, e7⟩ := hQ7
  have N7 := Fr.app N6 Nq7
  show own_Go p e below _ T7 (mkF m 113 #[.val (.long q1), .second, .val (.int p2), .val (.int (1 : Int32))] [(.int (own_allowed (1 : Int64)))])
  refine own_st (fun τ κ => XS.ifNo X7.here hx rfl (hb hby at_113) rfl (XT.i0_eq_f (by decide)) κ) ?_
  show own_Go p e below _ T7 (mkF m 116 #[.val (.long q1), .second, .val (.int p2), .val (.int (1 : Int32))] [])
  refine own_st (fun τ κ => XT.iconstV X7.here hx rfl (1) (hb hby at_116) (by decide) κ) ?_
  show own_Go p e below _ T7 (mkF m 117 #[.val (.long q1), .second, .val (.int p2), .val (.int (1 : Int32))] [(.int (1 : Int32))])
  refine own_st (fun τ κ => XS.goto X7.here hx rfl (pc0 := 117) (pc' := 121) rfl (hb hby at_117) (by decide) (by decide) κ) ?_
  show own_Go p e below _ T7 (mkF m 121 #[.val (.long q1), .second, .val (.int p2), .val (.int (1 : Int32))] [(.int (1 : Int32))])
  refine own_st (fun τ κ => XS.istoreN X7.here hx rfl (hb hby at_121) rfl (l' := #[.val (.long q1), .second, .val (.int p2), .val (.int (1 : Int32))]) rfl κ) ?_
  show own_Go p e below _ T7 (mkF m 122 #[.val (.long q1), .second, .val (.int p2), .val (.int (1 : Int32))] [])
  refine own_st (fun τ κ => XS.iloadN X7.here hx rfl (hb hby at_122) rfl κ) ?_
  show own_Go p e below _ T7 (mkF m 123 #[.val (.long q1), .second, .val (.int p2), .val (.int (1 : Int32))] [(.int (1 : Int32))])
  refine own_st (fun τ κ => XS.ifNo X7.here hx rfl (hb hby at_123) rfl (XT.i0_eq_f (by decide)) κ) ?_
  show own_Go p e below _ T7 (mkF m 126 #[.val (.long q1), .second, .val (.int p2), .val (.int (1 : Int32))] [])
  refine own_st (fun τ κ => Stand.ldc2J X7 hx hown (mvT hZ (hw _ (List.mem_of_getElem? (i := 12) rfl))) rfl (hb hby at_126) κ) ?_
  show own_Go p e below _ T7 (mkF m 129 #[.val (.long q1), .second, .val (.int p2), .val (.int (1 : Int32))] [(.long (2147483647 : Int64))])
  refine own_callS X7 hx hZ e7 hown (hw _ (List.mem_of_getElem? (i := 0) rfl)) (hw _ (List.mem_of_getElem? (i := 1) rfl)) (hw _ (List.mem_of_getElem? (i := 2) rfl)) (hw _ (List.mem_of_getElem? (i := 3) rfl)) (by decide) pd_1 (argsL := [(.long (2147483647 : Int64))]) rfl (rm1 l Z a0 hw (2147483647 : Int64) h0 n0) 0 (by decide) (by decide) (by decide) (by decide) (rest := []) rfl (by rw [hml]; rfl) (Nat.le_of_eq rfl) (hb hby at_129) ?_
  intro v8 T8 L8 hQ8 X8
  obtain ⟨rfl, Nq8, e8⟩ := hQ8
  have N8 := Fr.app N7 Nq8
  show own_Go p e below _ T8 (mkF m 132 #[.val (.long q1), .second, .val (.int p2), .val (.int (1 : Int32))] [(.int (own_allowed (2147483647 : Int64)))])
  refine own_st (fun τ κ => XS.ifNo X8.here hx rfl (hb hby at_132) rfl (XT.i0_eq_f (by decide)) κ) ?_
  show own_Go p e below _ T8 (mkF m 135 #[.val (.long q1), .second, .val (.int p2), .val (.int (1 : Int32))] [])
  refine own_st (fun τ κ => XT.iconstV X8.here hx rfl (1) (hb hby at_135) (by decide) κ) ?_
  show own_Go p e below _ T8 (mkF m 136 #[.val (.long q1), .second, .val (.int p2), .val (.int (1 : Int32))] [(.int (1 : Int32))])
  refine own_st (fun τ κ => XS.goto X8.here hx rfl (pc0 := 136) (pc' := 140) rfl (hb hby at_136) (by decide) (by decide) κ) ?_
  show own_Go p e below _ T8 (mkF m 140 #[.val (.long q1), .second, .val (.int p2), .val (.int (1 : Int32))] [(.int (1 : Int32))])
  refine own_st (fun τ κ => XS.istoreN X8.here hx rfl (hb hby at_140) rfl (l' := #[.val (.long q1), .second, .val (.int p2), .val (.int (1 : Int32))]) rfl κ) ?_
  show own_Go p e below _ T8 (mkF m 141 #[.val (.long q1), .second, .val (.int p2), .val (.int (1 : Int32))] [])
  refine own_st (fun τ κ => XS.iloadN X8.here hx rfl (hb hby at_141) rfl κ) ?_
  show own_Go p e below _ T8 (mkF m 142 #[.val (.long q1), .second, .val (.int p2), .val (.int (1 : Int32))] [(.int (1 : Int32))])
  refine own_st (fun τ κ => XS.ifNo X8.here hx rfl (hb hby at_142) rfl (XT.i0_eq_f (by decide)) κ) ?_
  show own_Go p e below _ T8 (mkF m 145 #[.val (.long q1), .second, .val (.int p2), .val (.int (1 : Int32))] [])
  refine own_st (fun τ κ => Stand.ldc2J X8 hx hown (mvT hZ (hw _ (List.mem_of_getElem? (i := 13) rfl))) rfl (hb hby at_145) κ) ?_
  show own_Go p e below _ T8 (mkF m 148 #[.val (.long q1), .second, .val (.int p2), .val (.int (1 : Int32))] [(.long (2147483648 : Int64))])
  refine own_callS X8 hx hZ e8 hown (hw _ (List.mem_of_getElem? (i := 0) rfl)) (hw _ (List.mem_of_getElem? (i := 1) rfl)) (hw _ (List.mem_of_getElem? (i := 2) rfl)) (hw _ (List.mem_of_getElem? (i := 3) rfl)) (by decide) pd_1 (argsL := [(.long (2147483648 : Int64))]) rfl (rm1 l Z a0 hw (2147483648 : Int64) h0 n0) 0 (by decide) (by decide) (by decide) (by decide) (rest := []) rfl (by rw [hml]; rfl) (Nat.le_of_eq rfl) (hb hby at_148) ?_
  intro v9 T9 L9 hQ9 X9
  obtain ⟨rfl, Nq9, e9⟩ := hQ9
  have N9 := Fr.app N8 Nq9
  show own_Go p e below _ T9 (mkF m 151 #[.val (.long q1), .second, .val (.int p2), .val (.int (1 : Int32))] [(.int (own_allowed (2147483648 : Int64)))])
  refine own_st (fun τ κ => XS.ifNo X9.here hx rfl (hb hby at_151) rfl (XT.i0_ne_f (by decide)) κ) ?_
  show own_Go p e below _ T9 (mkF m 154 #[.val (.long q1), .second, .val (.int p2), .val (.int (1 : Int32))] [])
  refine own_st (fun τ κ => XT.iconstV X9.here hx rfl (1) (hb hby at_154) (by decide) κ) ?_
  show own_Go p e below _ T9 (mkF m 155 #[.val (.long q1), .second, .val (.int p2), .val (.int (1 : Int32))] [(.int (1 : Int32))])
  refine own_st (fun τ κ => XS.goto X9.here hx rfl (pc0 := 155) (pc' := 159) rfl (hb hby at_155) (by decide) (by decide) κ) ?_
  show own_Go p e below _ T9 (mkF m 159 #[.val (.long q1), .second, .val (.int p2), .val (.int (1 : Int32))] [(.int (1 : Int32))])
  refine own_st (fun τ κ => XS.istoreN X9.here hx rfl (hb hby at_159) rfl (l' := #[.val (.long q1), .second, .val (.int p2), .val (.int (1 : Int32))]) rfl κ) ?_
  show own_Go p e below _ T9 (mkF m 160 #[.val (.long q1), .second, .val (.int p2), .val (.int (1 : Int32))] [])
  refine own_st (fun τ κ => XS.iloadN X9.here hx rfl (hb hby at_160) rfl κ) ?_
  show own_Go p e below _ T9 (mkF m 161 #[.val (.long q1), .second, .val (.int p2), .val (.int (1 : Int32))] [(.int (1 : Int32))])
  refine own_st (fun τ κ => XS.ifNo X9.here hx rfl (hb hby at_161) rfl (XT.i0_eq_f (by decide)) κ) ?_
  show own_Go p e below _ T9 (mkF m 164 #[.val (.long q1), .second, .val (.int p2), .val (.int (1 : Int32))] [])
  refine own_st (fun τ κ => Stand.ldc2J X9 hx hown (mvT hZ (hw _ (List.mem_of_getElem? (i := 14) rfl))) rfl (hb hby at_164) κ) ?_
  show own_Go p e below _ T9 (mkF m 167 #[.val (.long q1), .second, .val (.int p2), .val (.int (1 : Int32))] [(.long (9223372036854775807 : Int64))])
  refine own_callS X9 hx hZ e9 hown (hw _ (List.mem_of_getElem? (i := 0) rfl)) (hw _ (List.mem_of_getElem? (i := 1) rfl)) (hw _ (List.mem_of_getElem? (i := 2) rfl)) (hw _ (List.mem_of_getElem? (i := 3) rfl)) (by decide) pd_1 (argsL := [(.long (9223372036854775807 : Int64))]) rfl (rm1 l Z a0 hw (9223372036854775807 : Int64) h0 n0) 0 (by decide) (by decide) (by decide) (by decide) (rest := []) rfl (by rw [hml]; rfl) (Nat.le_of_eq rfl) (hb hby at_167) ?_
  intro v10 T10 L10 hQ10 X10
  obtain ⟨rfl, Nq10, e10⟩ := hQ10
  have N10 := Fr.app N9 Nq10
  show own_Go p e below _ T10 (mkF m 170 #[.val (.long q1), .second, .val (.int p2), .val (.int (1 : Int32))] [(.int (own_allowed (9223372036854775807 : Int64)))])
  refine own_st (fun τ κ => XS.ifNo X10.here hx rfl (hb hby at_170) rfl (XT.i0_ne_f (by decide)) κ) ?_
  show own_Go p e below _ T10 (mkF m 173 #[.val (.long q1), .second, .val (.int p2), .val (.int (1 : Int32))] [])
  refine own_st (fun τ κ => XT.iconstV X10.here hx rfl (1) (hb hby at_173) (by decide) κ) ?_
  show own_Go p e below _ T10 (mkF m 174 #[.val (.long q1), .second, .val (.int p2), .val (.int (1 : Int32))] [(.int (1 : Int32))])
  refine own_st (fun τ κ => XS.goto X10.here hx rfl (pc0 := 174) (pc' := 178) rfl (hb hby at_174) (by decide) (by decide) κ) ?_
  show own_Go p e below _ T10 (mkF m 178 #[.val (.long q1), .second, .val (.int p2), .val (.int (1 : Int32))] [(.int (1 : Int32))])
  refine own_st (fun τ κ => XS.istoreN X10.here hx rfl (hb hby at_178) rfl (l' := #[.val (.long q1), .second, .val (.int p2), .val (.int (1 : Int32))]) rfl κ) ?_
  show own_Go p e below _ T10 (mkF m 179 #[.val (.long q1), .second, .val (.int p2), .val (.int (1 : Int32))] [])
  refine own_st (fun τ κ => XS.iloadN X10.here hx rfl (hb hby at_179) rfl κ) ?_
  show own_Go p e below _ T10 (mkF m 180 #[.val (.long q1), .second, .val (.int p2), .val (.int (1 : Int32))] [(.int (1 : Int32))])
  refine own_st (fun τ κ => XS.ifNo X10.here hx rfl (hb hby at_180) rfl (XT.i0_eq_f (by decide)) κ) ?_
  show own_Go p e below _ T10 (mkF m 183 #[.val (.long q1), .second, .val (.int p2), .val (.int (1 : Int32))] [])
  refine own_st (fun τ κ => Stand.ldc2J X10 hx hown (mvT hZ (hw _ (List.mem_of_getElem? (i := 15) rfl))) rfl (hb hby at_183) κ) ?_
  show own_Go p e below _ T10 (mkF m 186 #[.val (.long q1), .second, .val (.int p2), .val (.int (1 : Int32))] [(.long (-9223372036854775808 : Int64))])
  refine own_callS X10 hx hZ e10 hown (hw _ (List.mem_of_getElem? (i := 0) rfl)) (hw _ (List.mem_of_getElem? (i := 1) rfl)) (hw _ (List.mem_of_getElem? (i := 2) rfl)) (hw _ (List.mem_of_getElem? (i := 3) rfl)) (by decide) pd_1 (argsL := [(.long (-9223372036854775808 : Int64))]) rfl (rm1 l Z a0 hw (-9223372036854775808 : Int64) h0 n0) 0 (by decide) (by decide) (by decide) (by decide) (rest := []) rfl (by rw [hml]; rfl) (Nat.le_of_eq rfl) (hb hby at_186) ?_
  intro v11 T11 L11 hQ11 X11
  obtain ⟨rfl, Nq11, e11⟩ := hQ11
  have N11 := Fr.app N10 Nq11
  show own_Go p e below _ T11 (mkF m 189 #[.val (.long q1), .second, .val (.int p2), .val (.int (1 : Int32))] [(.int (own_allowed (-9223372036854775808 : Int64)))])
  refine own_st (fun τ κ => XS.ifNo X11.here hx rfl (hb hby at_189) rfl (XT.i0_ne_f (by decide)) κ) ?_
  show own_Go p e below _ T11 (mkF m 192 #[.val (.long q1), .second, .val (.int p2), .val (.int (1 : Int32))] [])
  refine own_st (fun τ κ => XT.iconstV X11.here hx rfl (1) (hb hby at_192) (by decide) κ) ?_
  show own_Go p e below _ T11 (mkF m 193 #[.val (.long q1), .second, .val (.int p2), .val (.int (1 : Int32))] [(.int (1 : Int32))])
  refine own_st (fun τ κ => XS.goto X11.here hx rfl (pc0 := 193) (pc' := 197) rfl (hb hby at_193) (by decide) (by decide) κ) ?_
  show own_Go p e below _ T11 (mkF m 197 #[.val (.long q1), .second, .val (.int p2), .val (.int (1 : Int32))] [(.int (1 : Int32))])
  refine own_st (fun τ κ => XS.istoreN X11.here hx rfl (hb hby at_197) rfl (l' := #[.val (.long q1), .second, .val (.int p2), .val (.int (1 : Int32))]) rfl κ) ?_
  show own_Go p e below _ T11 (mkF m 198 #[.val (.long q1), .second, .val (.int p2), .val (.int (1 : Int32))] [])
  refine own_st (fun τ κ => XS.iloadN X11.here hx rfl (hb hby at_198) rfl κ) ?_
  show own_Go p e below _ T11 (mkF m 199 #[.val (.long q1), .second, .val (.int p2), .val (.int (1 : Int32))] [(.int (1 : Int32))])
  refine own_retZ X11 hx hlk hret (by decide) (by decide) (by decide) (hb hby at_199) ?_
  exact ⟨rfl, N11⟩

set_option maxRecDepth 65536 in
set_option maxHeartbeats 40000000 in
theorem comes_1 {Post : Tables → Env → Array Value → State → Outcome → State → Prop} (hpost : ∀ tb e args s v u, (limb_1_1.after args s (.returned v) u = true ∧ limb_1_2.after args s (.returned v) u = true ∧ True) → FrameEnd s (.returned v) u (Jvm.fieldLocs frame_1_writes args s ++ Jvm.arrayLocs frame_1_arrays args s ++ Jvm.staticLocs frame_1_statics s) 0 0 → Post tb e args s (.returned v) u) :
    ArmFor flags0 classFile x code maxLocals ret World_1 tables_1 room_1 Calls_1 rest_1 Pre_1 Post := by
  intro l hfl _ _ p e ha hc hk s m args below hf hA hF happ hP
  obtain ⟨hcalls, hrest, hpre⟩ := hP
  obtain ⟨-, -, -, hnamed, -, -, -, hat⟩ := (Spec.applies_iff hf).mp happ
  obtain ⟨hg, hn⟩ := and_e (Cond.before_iff.mp (show (Jvm.Cond.and given_1 narrow_1).before args s = true from hpre))
  obtain ⟨gc, g0⟩ := and_e hg
  obtain ⟨a0, g1⟩ := and_e g0
  obtain ⟨w0, w1, rfl⟩ : ∃ w0 w1 : Value, args = #[w0, w1] := by
    have hs : args.size = 2 := by simpa [Cond.value, given_1] using gc
    obtain ⟨L⟩ := args
    match L, hs with
    | [w0, w1], _ => exact ⟨w0, w1, rfl⟩
  have hw := fun d (hd : d ∈ tables_1) => atoms_spec (ws := Jvm.Cond.code x code maxLocals ret :: tables_1) hat d (List.mem_cons_of_mem _ hd)
  obtain ⟨i0, ei0⟩ := isL_v a0
  obtain rfl : w0 = (.long i0) := Option.some.inj ei0
  obtain ⟨i1, ei1⟩ := is_v g1
  obtain rfl : w1 = (.int i1) := Option.some.inj ei1
  obtain ⟨n, o, h1, h2, h3, _, L, rfl, ⟨rfl, N⟩, hq⟩ := rm0 l s _ hw i0 i1 s.heap s.heap.size (Nat.le_refl _) tables_1 p e ha hc hk s m _ below hf ((Spec.applies_iff_loose hf).mp happ).1 ⟨rfl, State.Warmed39.refl s, rfl⟩ trivial
  refine ⟨n, _, h1, h2, h3, hpost _ _ _ _ _ _ ⟨Cond.after_iff.mpr rfl, Cond.after_iff.mpr (eq_i res_at (Term.int_eval (1)) rfl), trivial⟩ ⟨hq.1, hq.2.1, (hq.2.2.sift fun y hy => Or.inr (N y hy)).mono (by decide) (by decide)⟩⟩
theorem main_1_1 : Claimed_1_1 := comes_1 fun _ _ _ _ _ _ h hF => ⟨h.1, hF⟩
theorem main_1_2 : Claimed_1_2 := comes_1 fun _ _ _ _ _ _ h hF => ⟨h.2.1, hF⟩

end Jvm.Pilot.@@N@@
namespace Jvm.Pilot.@@N@@
open Jvm Jvm.ClassFile Sem Op Lib Jvm.Free Jvm.Stand Jvm.Pilot.@@N@@.Jvm.D
/-! MADE BY PROGRAM (witnessworld.py) out of the Statement's table words and the real class files: 9 classes; the members and pool entries that the words name. The judged class is class 1, her method 2. -/
namespace start1
open Jvm.ClassFile
def u (s : String) : CpInfo := .utf8 (stringToUtf16 s)
/-- a pool by its gaps: so many unusable entries, then the entry; so many at the end -/
def gap : Nat → List CpInfo → List CpInfo
  | 0, r => r
  | n + 1, r => .unusable :: gap n r
def poolList (es : List (Nat × CpInfo)) (last : Nat) : List CpInfo := es.foldr (fun e r => gap e.1 (e.2 :: r)) (gap last [])
def pool (es : List (Nat × CpInfo)) (last : Nat) : Array CpInfo := ⟨poolList es last⟩
def fileOf (pool : Array CpInfo) (this : Nat) (attrs : Array Attribute := #[]) (ms : Array MethodInfo := #[]) (fl : Nat := 33) (sup : Nat := 0) (ifs : Array Nat := #[]) (fds : Array FieldInfo := #[]) : ClassFile where
  minorVersion := 0
  majorVersion := 65
  constantPool := pool
  accessFlags := fl
  thisClass := this
  superClass := sup
  interfaces := ifs
  fields := fds
  methods := ms
  attributes := attrs
def plain (name : String) (sup : Option ClassId) : Class where
  name := name
  kind := .ordinary
  loader := none
  accessFlags := 33
  super := sup
  interfaces := #[]
  cf := none
  fields := #[]
  methods := #[]
  instanceTypes := #[]
  staticTypes := #[]
  resolved := #[]
  callSites := []
  init := .initialized
  statics := none
  mirror := none

def pool0 : Array CpInfo := pool [(5, u "<init>"), (0, u "()V"), (1, .class_ 10), (1, u "java/lang/Object")] 113

def k0m0 : Method := { name := "<init>", desc := "()V", sig := { parameters := [], returnType := none }, accessFlags := 1, code := none }
/-- java/lang/Object -/
def k0 : Class := { plain "java/lang/Object" none with
  accessFlags := 33
  interfaces := #[]
  cf := some (fileOf pool0 8 #[] #[{ accessFlags := 1, nameIndex := 5, descriptorIndex := 6, attributes := #[] }] 33 0 #[] #[])
  fields := #[]
  methods := #[k0m0]
  instanceTypes := #[]
  staticTypes := #[]
  resolved := Array.replicate 124 none
  statics := none }

def pool1 : Array CpInfo := pool [(2, .class_ 4), (1, u "java/lang/Object"), (0, u "<init>"), (0, u "()V"), (0, .methodref 8 9), (0, .class_ 10), (0, .nameAndType 11 12), (0, u "com/example/hourglass_sweep/hourglasssweep/expiry/ExpiryRule"), (0, u "isAllowed"), (0, u "(J)Z"), (0, .methodref 14 15), (0, .class_ 16), (0, .nameAndType 17 12), (0, u "com/example/hourglass_sweep/hourglasssweep/expiry/ExpiryRuleIsAllowedPinLaw"), (0, u "expected"), (0, .long 18446744073709551615), (1, .long 18446744073709551614), (1, .long 2147483647), (1, .long 2147483648), (3, .long 9223372036854775807), (1, .long 9223372036854775808), (4, u "law"), (0, u "(JI)Z")] 2

def k1m0 : Method := { name := "<init>", desc := "()V", sig := { parameters := [], returnType := none }, accessFlags := 2, code := none }
def k1c1 : Code := { maxStack := 4, maxLocals := 4, code := method_2_code, exceptionTable := #[], attributes := #[] }
def k1m1 : Method := { name := "expected", desc := "(J)Z", sig := { parameters := [.long], returnType := some .boolean }, accessFlags := 10, code := some k1c1 }
def k1c2 : Code := { maxStack := 3, maxLocals := 4, code := code, exceptionTable := #[], attributes := #[] }
def k1m2 : Method := { name := "law", desc := "(JI)Z", sig := { parameters := [.long, .int], returnType := some .boolean }, accessFlags := 9, code := some k1c2 }
/-- com/example/hourglass_sweep/hourglasssweep/expiry/ExpiryRuleIsAllowedPinLaw -/
def k1 : Class := { plain "com/example/hourglass_sweep/hourglasssweep/expiry/ExpiryRuleIsAllowedPinLaw" (some 0) with
  accessFlags := 49
  interfaces := #[]
  cf := some (fileOf pool1 14 #[] #[{ accessFlags := 2, nameIndex := 5, descriptorIndex := 6, attributes := #[] }, { accessFlags := 10, nameIndex := 17, descriptorIndex := 12, attributes := #[] }, { accessFlags := 9, nameIndex := 35, descriptorIndex := 36, attributes := #[] }] 49 2 #[] #[])
  fields := #[]
  methods := #[k1m0, k1m1, k1m2]
  instanceTypes := #[]
  staticTypes := #[]
  resolved := Array.replicate 39 none
  statics := none }

def pool2 : Array CpInfo := pool [(2, .class_ 4), (1, u "java/lang/Object"), (0, u "<init>"), (0, u "()V"), (0, .class_ 8), (0, u "com/example/hourglass_sweep/hourglasssweep/expiry/ExpiryRule"), (0, .long 18446744073709551615), (3, .long 2147483647), (70, u "isAllowed"), (0, u "(J)Z"), (8, u "NEVER"), (0, u "I"), (2, u "ALLOWED"), (0, u "Ljava/lang/String;"), (2, u "DEFAULT_TTL"), (2, u "SEALED_TS"), (2, u "SEALED_EXPIRY"), (13, .class_ 123), (0, u "com/example/hourglass_sweep/hourglasssweep/expiry/ExpiryRule$Expiring"), (0, .class_ 125), (0, u "com/example/hourglass_sweep/hourglasssweep/expiry/ExpiryRule$Expiring$2"), (0, .class_ 127), (0, u "com/example/hourglass_sweep/hourglasssweep/expiry/ExpiryRule$Expiring$1")] 40

def k2m0 : Method := { name := "<init>", desc := "()V", sig := { parameters := [], returnType := none }, accessFlags := 2, code := none }
def k2c1 : Code := { maxStack := 4, maxLocals := 2, code := prog_21_method_2_code, exceptionTable := #[], attributes := #[] }
def k2m1 : Method := { name := "isAllowed", desc := "(J)Z", sig := { parameters := [.long], returnType := some .boolean }, accessFlags := 9, code := some k2c1 }
/-- com/example/hourglass_sweep/hourglasssweep/expiry/ExpiryRule -/
def k2 : Class := { plain "com/example/hourglass_sweep/hourglasssweep/expiry/ExpiryRule" (some 0) with
  accessFlags := 49
  interfaces := #[]
  cf := some (fileOf pool2 7 #[.nestMembers #[122, 124, 126]] #[{ accessFlags := 2, nameIndex := 5, descriptorIndex := 6, attributes := #[] }, { accessFlags := 9, nameIndex := 84, descriptorIndex := 85, attributes := #[] }] 49 2 #[] #[{ accessFlags := 25, nameIndex := 94, descriptorIndex := 95, attributes := #[] }, { accessFlags := 25, nameIndex := 98, descriptorIndex := 99, attributes := #[] }, { accessFlags := 26, nameIndex := 102, descriptorIndex := 99, attributes := #[] }, { accessFlags := 26, nameIndex := 105, descriptorIndex := 99, attributes := #[] }, { accessFlags := 26, nameIndex := 108, descriptorIndex := 99, attributes := #[] }])
  fields := #[{ name := "NEVER", type := .int, accessFlags := 25, slot := 0, constantValue := 0 }, { name := "ALLOWED", type := (.object "java/lang/String"), accessFlags := 25, slot := 1, constantValue := 0 }, { name := "DEFAULT_TTL", type := (.object "java/lang/String"), accessFlags := 26, slot := 2, constantValue := 0 }, { name := "SEALED_TS", type := (.object "java/lang/String"), accessFlags := 26, slot := 3, constantValue := 0 }, { name := "SEALED_EXPIRY", type := (.object "java/lang/String"), accessFlags := 26, slot := 4, constantValue := 0 }]
  methods := #[k2m0, k2m1]
  instanceTypes := #[]
  staticTypes := #[.int, (.object "java/lang/String"), (.object "java/lang/String"), (.object "java/lang/String"), (.object "java/lang/String")]
  resolved := Array.replicate 168 none
  statics := none }

def pool3 : Array CpInfo := pool [(1, u "java/lang/Cloneable"), (0, .class_ 1), (0, u "java/lang/Object"), (0, .class_ 3)] 3

/-- java/lang/Cloneable -/
def k3 : Class := { plain "java/lang/Cloneable" (some 0) with
  accessFlags := 1537
  interfaces := #[]
  cf := some (fileOf pool3 2 #[] #[] 1537 4 #[] #[])
  fields := #[]
  methods := #[]
  instanceTypes := #[]
  staticTypes := #[]
  resolved := Array.replicate 8 none
  statics := none }

def pool4 : Array CpInfo := pool [(1, u "java/io/Serializable"), (0, .class_ 1), (0, u "java/lang/Object"), (0, .class_ 3)] 3

/-- java/io/Serializable -/
def k4 : Class := { plain "java/io/Serializable" (some 0) with
  accessFlags := 1537
  interfaces := #[]
  cf := some (fileOf pool4 2 #[] #[] 1537 4 #[] #[])
  fields := #[]
  methods := #[]
  instanceTypes := #[]
  staticTypes := #[]
  resolved := Array.replicate 8 none
  statics := none }

/-- the primitive byte -/
def k5 : Class := { plain "byte" none with kind := .primitive 'B', accessFlags := 0x411 }
/-- [B -/
def k6 : Class := { plain "[B" (some 0) with kind := .array 5 .byte, interfaces := #[3, 4], accessFlags := 1041 }

/-- the primitive int -/
def k7 : Class := { plain "int" none with kind := .primitive 'I', accessFlags := 0x411 }
/-- [I -/
def k8 : Class := { plain "[I" (some 0) with kind := .array 7 .int, interfaces := #[3, 4], accessFlags := 1041 }

def heap : Heap := #[]
def classes : Array Class := #[k0, k1, k2, k3, k4, k5, k6, k7, k8]
def interned : List (Array UInt16 × Addr) := []
def slotsUsed : Nat := 0
def theMethod : MethodId := ⟨1, 2⟩
def args0 : Array Value := #[.long 7, .int 3]
def aboutOver (below : List Frame) : State where
  vm := { classes := classes, interned := interned.toArray }
  heap := heap
  slotsUsed := slotsUsed
  threads := #[{ frames := .invoking theMethod args0 :: below }]
def below0 : List Frame := [.native { method := ⟨0, 0⟩, args := #[] }]
def about1 : State := aboutOver below0
def p0 : Program := .bare "" "" ""
def e0 : Env := launch0.env 0 0 0
theorem w_frames : about1.frames = Frame.invoking theMethod args0 :: below0 := rfl
set_option maxRecDepth 65536 in
theorem w_args : argsFit about1.vm theMethod args0 = true := by decide +kernel
set_option maxRecDepth 65536 in
theorem w_heap : heapFits about1 = true := by decide +kernel
set_option maxRecDepth 65536 in
theorem w_runnable : about1.curStatus? = some .runnable := by decide +kernel
set_option maxRecDepth 65536 in
theorem w_alone : about1.alone = true := by decide +kernel
set_option maxRecDepth 65536 in
theorem w_named : about1.methodNamed? x = some theMethod := by decide +kernel
set_option maxRecDepth 65536 in
theorem w_hears : about1.hears theMethod below0 = true := by decide +kernel
set_option maxRecDepth 65536 in
theorem w_ripe : about1.ripe theMethod args0 below0 = true := by decide +kernel
theorem w_running : about1.status = .running := rfl
set_option maxRecDepth 65536 in
theorem w_room : about1.hasRoom e0.platform room_1 = true :=
  launch0.hasRoom_least _ room_1 (by decide +kernel) (by decide +kernel) (by decide +kernel) (by decide +kernel) (by decide +kernel) (by decide +kernel)
theorem allAtoms_all (ts : List Jvm.Cond) (a : Array Jvm.Value) (st : Jvm.State) : (allAtoms ts).before a st = ts.all (fun c => c.before a st) := by
  induction ts with
  | nil => rfl
  | cons c t ih =>
    show (Jvm.Cond.and c (allAtoms t)).before a st = _
    rw [Jvm.Cond.before_and, ih, List.all_cons]
def words1 : List Jvm.Cond := Jvm.Cond.code x code maxLocals ret :: tables_1
/-- a 'code' word, met by the world's own term for the bytes: nothing is compared byte by byte -/
theorem code_word {y : MethodName} {bytes : ByteArray} {mx : Nat} {rt : Option FieldType} {a : Array Value} {s : State} {m : MethodId} {meth : Method} {c : Code} (h1 : s.methodNamed? y = some m) (h2 : s.vm.method? m = some meth) (h3 : meth.code = some c) (h4 : c.code = bytes)
    (h5 : (c.maxLocals == mx && c.exceptionTable.isEmpty && decide (c.maxStack ≤ mostOperands) && decide (meth.sig.returnType = rt) && !meth.locks && decide (parseMethodDescriptor y.desc = some meth.sig)) = true) : (Jvm.Cond.code y bytes mx rt).before a s = true := by
  simp only [Bool.and_eq_true, beq_iff_eq, Bool.not_eq_true', decide_eq_true_eq] at h5
  obtain ⟨⟨⟨⟨⟨g1, g2⟩, g3⟩, g4⟩, g5⟩, g6⟩ := h5
  simp [Cond.before, Cond.holds, Cond.value, h1, h2, h3, h4, g1, g2, g3, g4, g5, g6]
def isCode : Jvm.Cond → Bool
  | .code _ _ _ _ => true
  | _ => false
theorem all_split {L : List Jvm.Cond} {P : Jvm.Cond → Bool} (h1 : L.all (fun c => isCode c || P c) = true) (h2 : ∀ c ∈ L.filter isCode, P c = true) : L.all P = true := by
  refine List.all_eq_true.mpr fun c hc => ?_
  have h := List.all_eq_true.mp h1 c hc
  rcases Bool.eq_false_or_eq_true (isCode c) with hi | hi
  · exact h2 c (List.mem_filter.mpr ⟨hc, hi⟩)
  · simpa [hi] using h
set_option maxRecDepth 65536 in
theorem w_c0 : (Jvm.Cond.code x code maxLocals ret).before args0 about1 = true := code_word (m := ⟨1, 2⟩) (meth := k1m2) (c := k1c2) (by decide +kernel) rfl rfl rfl (by decide +kernel)
set_option maxRecDepth 65536 in
theorem w_c1 : (Jvm.Cond.code ({ cls := "com/example/hourglass_sweep/hourglasssweep/expiry/ExpiryRule", name := "isAllowed", desc := "(J)Z" } : Jvm.MethodName) prog_21_method_2_code (2 : Nat) (Option.some Jvm.ClassFile.FieldType.boolean)).before args0 about1 = true := code_word (m := ⟨2, 1⟩) (meth := k2m1) (c := k2c1) (by decide +kernel) rfl rfl rfl (by decide +kernel)
set_option maxRecDepth 65536 in
theorem w_c2 : (Jvm.Cond.code ({ cls := "com/example/hourglass_sweep/hourglasssweep/expiry/ExpiryRuleIsAllowedPinLaw", name := "expected", desc := "(J)Z" } : Jvm.MethodName) method_2_code (4 : Nat) (Option.some Jvm.ClassFile.FieldType.boolean)).before args0 about1 = true := code_word (m := ⟨1, 1⟩) (meth := k1m1) (c := k1c1) (by decide +kernel) rfl rfl rfl (by decide +kernel)
def codes1 : List Jvm.Cond := [Jvm.Cond.code x code maxLocals ret, Jvm.Cond.code ({ cls := "com/example/hourglass_sweep/hourglasssweep/expiry/ExpiryRule", name := "isAllowed", desc := "(J)Z" } : Jvm.MethodName) prog_21_method_2_code (2 : Nat) (Option.some Jvm.ClassFile.FieldType.boolean), Jvm.Cond.code ({ cls := "com/example/hourglass_sweep/hourglasssweep/expiry/ExpiryRuleIsAllowedPinLaw", name := "expected", desc := "(J)Z" } : Jvm.MethodName) method_2_code (4 : Nat) (Option.some Jvm.ClassFile.FieldType.boolean)]
set_option maxRecDepth 65536 in
theorem codes_eq : words1.filter isCode = codes1 := rfl
theorem w_codes : ∀ c ∈ words1.filter isCode, c.before args0 about1 = true := by
  rw [codes_eq]
  intro c hc
  simp only [codes1, List.mem_cons, List.not_mem_nil, or_false] at hc
  rcases hc with rfl | rfl | rfl
  · exact w_c0
  · exact w_c1
  · exact w_c2
set_option maxRecDepth 65536 in
theorem w_t1 : words1.all (fun c => isCode c || c.before args0 about1) = true := by decide +kernel
theorem w_tables : (allAtoms (Jvm.Cond.code x code maxLocals ret :: tables_1)).before args0 about1 = true := by
  rw [allAtoms_all]
  show words1.all (fun c => c.before args0 about1) = true
  refine all_split ?_ w_codes
  rw [w_t1]
set_option maxRecDepth 65536 in
theorem w_case : (Jvm.Cond.and given_1 narrow_1).before args0 about1 = true := by decide +kernel
theorem w_applies : (headSpec (Jvm.Cond.code x code maxLocals ret :: tables_1) room_1).applies x e0.platform about1 = true :=
  (Spec.applies_iff w_frames).mpr ⟨w_running, w_runnable, w_alone, w_named, w_hears, w_ripe, w_room, w_tables⟩
theorem atStart : AtStart classFile x code maxLocals ret World_1 tables_1 room_1 Calls_1 rest_1 Pre_1 launch0 p0 e0 about1 theMethod args0 below0 :=
  ⟨lists_1, trivial, launch0.admits_env _ _ _, launch0.least_env, fairChoices_fair.cas, fairChoices_fair.clock, w_frames, w_args, w_heap, w_applies, trivial, trivial, w_case⟩
end start1
theorem witness_1 : WitnessClaimed_1 := ⟨start1.p0, start1.e0, start1.about1, start1.theMethod, start1.args0, start1.below0, start1.atStart⟩
end Jvm.Pilot.@@N@@
