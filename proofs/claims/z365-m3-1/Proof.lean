import JvmDerived
import JvmDerived.Pilot.@@N@@Statement
import JvmDerived.Pilot.@@N@@Code
set_option linter.unusedVariables false
set_option linter.unusedSimpArgs false
namespace Jvm.Pilot.@@N@@
open Jvm Jvm.ClassFile Sem Op Lib Jvm.Free Jvm.Stand Jvm.LawKit Jvm.RoadKit Bundle Jvm.Pilot.@@N@@.Jvm.D

section OwnBase
variable {p : Program} {l : Launch} {e : Env} {R : Room} {s : State} {m : MethodId} {args : Array Value} {below : List Frame} {meth : Method} {c : Code} {T T' : State} {locs : List Loc} {cells slots : Nat} {Z : State} {a0 : Array Value} {h h' : Heap} {Q Q' : Option Value → Heap → List Loc → Prop} {P : State → Outcome → Prop} {g g' : JFrame} {pc : Nat} {Ls : Array Slot} {rest : List Value} {a : Addr} {n0 : Nat}
/-- from T, the frame g on top, the body comes to its end, and the end is as P says -/
def own_Go (p : Program) (e : Env) (below : List Frame) (P : State → Outcome → Prop) (T : State) (g : JFrame) : Prop :=
  ∃ s₂ o, Steps p.tables e below (T.setTop g) s₂ ∧ s₂.status = .running ∧ Ended s₂ below o ∧ P s₂ o
/-- it returned; what it returned, the heap and the written places meet Q; no more is made than R allows -/
def own_P (s : State) (R : Room) (Q : Option Value → Heap → List Loc → Prop) (s₂ : State) (o : Outcome) : Prop := ∃ v L, o = .returned v ∧ Q v s₂.heap L ∧ FrameEnd s o s₂ L R.cells R.slots
theorem own_st (h : ∀ t, Steps p.tables e below (T'.setTop g') t → Steps p.tables e below (T.setTop g) t) (G : own_Go p e below P T' g') : own_Go p e below P T g := by
  obtain ⟨s₂, o, h1, r⟩ := G
  exact ⟨s₂, o, h _ h1, r⟩
theorem own_end (X : Stand p l e R s m args below meth c T locs cells slots) (hlk : meth.locks = false) {v : Option Value} (hv : meth.sig.returnType = none → v = none) (hc : cells ≤ R.cells) (hs : slots ≤ R.slots) (hQ : Q v T.heap locs)
    (hr : ∀ fs, (∀ (f : JFrame) (acts : List Action), f.method = m → f.locked = none → f.entered = [] → (doReturn e (T.setTop f) acts v).1 = T.setFrames fs) → Steps p.tables e below (T.setTop g) (T.setFrames fs)) : own_Go p e below (own_P s R Q) T g := by
  obtain ⟨fs, h1, hrun, hended, hW, hsame⟩ := X.leave (v := v) hv hlk
  exact ⟨_, _, hr fs h1, hrun, hended, _, _, rfl, hQ, ⟨_, rfl⟩, hW, hsame.mono hc hs⟩
/-- a method's contract: called with these arguments at the heap h0 it returns, and Q holds -/
def own_Met (l : Launch) (Z : State) (h0 : Heap) (y : MethodName) (bytes : ByteArray) (maxL : Nat) (ret : Option FieldType) (R : Room) (as : Array Value) (Q : Option Value → Heap → List Loc → Prop) : Prop :=
  ∀ ws : List Jvm.Cond, MetFree l y (head1 (Jvm.Cond.code y bytes maxL ret :: ws) R) (fun a U => a = as ∧ Z.Warmed39 U.vm ∧ U.heap = h0) (fun _ _ _ _ _ => True) (fun _ U o U' => ∃ v L, o = .returned v ∧ Q v U'.heap L ∧ FrameEnd U o U' L R.cells R.slots)
theorem own_body {h0 : Heap} {y : MethodName} {bytes : ByteArray} {maxL : Nat} {ret : Option FieldType} {as : Array Value} (hn : plainName y.cls = true) (he : ∀ m : MethodId, entryFrame m as maxL = mkF m 0 Ls [])
    (body : ∀ (p : Program) (e : Env) (s : State) (m : MethodId) (below : List Frame) (meth : Method) (c : Code) (T : State), Stand p l e R s m as below meth c T [] 0 0 → p.tables.exec = Jvm.exec → c.code = bytes → c.maxLocals = maxL → meth.sig.returnType = ret → meth.locks = false → s.vm.findClass y.cls = some m.cls → meth.name = y.name → Z.Warmed39 s.vm → T.heap = h0 → own_Go p e below (own_P s R Q) T (mkF m 0 Ls [])) :
    own_Met l Z h0 y bytes maxL ret R as Q := by
  intro ws
  refine MetFree.of_bodySF (plainFor_of_name hn) hisR ?_
  intro p e s m args below meth c s₁ Bd hml0 hP hK
  obtain ⟨rfl, hZ, hh⟩ := hP
  have e0 : s₁.heap = h0 := by rw [← hh, Bd.state]; rfl
  obtain ⟨s₂, o, h1, r⟩ := body p e s m below meth c s₁ (Stand.of_body Bd) Bd.exec Bd.bytes hml0 Bd.returns (BodyLoose.notSynchronized Bd) (findClass_of_methodNamed Bd.named) (name_of_methodNamed Bd.named Bd.method).1 hZ e0
  exact ⟨s₂, o, castTop (he m) h1, r⟩
theorem own_Met.imp {h0 : Heap} {y : MethodName} {bytes : ByteArray} {maxL : Nat} {ret : Option FieldType} {as : Array Value} (M : own_Met l Z h0 y bytes maxL ret R as Q) (hq : ∀ v h L, Q v h L → Q' v h L) : own_Met l Z h0 y bytes maxL ret R as Q' := by
  intro ws p e ha hc hk s m args below hf happ hP hK
  obtain ⟨n, o, h1, h2, h3, v, L, h4, h5, h6⟩ := M ws p e ha hc hk s m args below hf happ hP hK
  exact ⟨n, o, h1, h2, h3, v, L, h4, hq _ _ _ h5, h6⟩
/-- a static call by its contract -/
theorem own_callS (X : Stand p l e R s m args below meth c T locs cells slots) (hx : p.tables.exec = Jvm.exec) (hZ : Z.Warmed39 s.vm) (e0 : T.heap = h) {own : String} {index : Nat} {y : MethodName} {bytes : ByteArray} {maxL : Nat} {ret : Option FieldType} {rm : Room}
    (hown : s.vm.findClass own = some m.cls) (w1 : (Jvm.Cond.methodLink own index y).before a0 Z = true) (w2 : (Jvm.Cond.static y).before a0 Z = true) (w3 : (Jvm.Cond.initialized y.cls).before a0 Z = true) (w4 : (Jvm.Cond.code y bytes maxL ret).before a0 Z = true)
    (hy : y.cls ≠ "java/lang/invoke/MethodHandle" ∧ y.cls ≠ "java/lang/invoke/VarHandle") {ps : List FieldType} {r : Option FieldType} (hd : parseMethodDescriptor y.desc = some ⟨ps, r⟩)
    {argsL : List Value} (hn : argsL.length = ps.length) (M : own_Met l Z h y bytes maxL ret rm argsL.toArray Q') (W : Nat) (hf : rm.frames + 1 ≤ R.frames) (hl : W + (maxL + 11) + rm.locals ≤ R.locals) (hc : cells + rm.cells ≤ R.cells) (hs : slots + rm.slots ≤ R.slots)
    {st : List Value} (hst : st = argsL.reverse ++ rest) (hsz : Ls.size = c.maxLocals) (hW : (rest.map fun v => v.category).sum ≤ W) (hdg : decode c.code pc = .ok (.invokestatic index, 3))
    (k : ∀ (v : Option Value) (T' : State) (L : List Loc), Q' v T'.heap L → Stand p l e R s m args below meth c T' (locs ++ L) (cells + rm.cells) (slots + rm.slots) → own_Go p e below P T' (mkF m (pc + 3) Ls (v.toList ++ rest))) :
    own_Go p e below P T (mkF m pc Ls st) := by
  subst hst
  obtain ⟨v, _, ⟨T', L', k', n'⟩, -, X', ⟨L, hQ, l1, l2, l3⟩, st⟩ := Jvm.LawKit.callS X hx (y := y) hown (mvT hZ w1) (mvT hZ w2) (mvT hZ w3) (mvT hZ w4) hy (backOf (W := W) (M []) hZ w4 w3 hf hl) (g := mkF m pc Ls (argsL.reverse ++ rest)) rfl hsz (argsL := argsL) (rest := rest) (lenOf hd hn) rfl (by show 2 * 0 + _ ≤ _; omega) hdg (fun _ _ => ⟨rfl, e0, hc, hs⟩)
  dsimp only [Pt.U, Pt.locs, Pt.cells, Pt.slots] at X' l1 l2 l3 st hQ
  subst l1 l2 l3
  exact own_st st (k v T' L hQ X')
/-- a constructor by its contract -/
theorem own_callN (X : Stand p l e R s m args below meth c T locs cells slots) (hx : p.tables.exec = Jvm.exec) (hZ : Z.Warmed39 s.vm) (e0 : T.heap = h) {own : String} {index : Nat} {y : MethodName} {bytes : ByteArray} {maxL : Nat} {rm : Room} (hy1 : y.name = "<init>")
    (hown : s.vm.findClass own = some m.cls) (w1 : (Jvm.Cond.methodLink own index y).before a0 Z = true) (w2 : (Jvm.Cond.instanceMethod y).before a0 Z = true) (w3 : (Jvm.Cond.initialized y.cls).before a0 Z = true) (w4 : (Jvm.Cond.code y bytes maxL none).before a0 Z = true)
    (hy : y.cls ≠ "java/lang/invoke/MethodHandle" ∧ y.cls ≠ "java/lang/invoke/VarHandle") {ps : List FieldType} {r : Option FieldType} (hd : parseMethodDescriptor y.desc = some ⟨ps, r⟩)
    {argsL : List Value} (hn : argsL.length = ps.length) (M : own_Met l Z h y bytes maxL none rm (.ref a :: argsL).toArray Q') (W : Nat) (hf : rm.frames + 1 ≤ R.frames) (hl : W + (maxL + 11) + rm.locals ≤ R.locals) (hc : cells + rm.cells ≤ R.cells) (hs : slots + rm.slots ≤ R.slots)
    {st : List Value} (hst : st = argsL.reverse ++ .ref a :: rest) (hsz : Ls.size = c.maxLocals) (hW : (rest.map fun v => v.category).sum ≤ W) (hdg : decode c.code pc = .ok (.invokespecial index, 3))
    (k : ∀ (v : Option Value) (T' : State) (L : List Loc), Q' v T'.heap L → Stand p l e R s m args below meth c T' (locs ++ L) (cells + rm.cells) (slots + rm.slots) → own_Go p e below P T' (mkF m (pc + 3) Ls (v.toList ++ rest))) :
    own_Go p e below P T (mkF m pc Ls st) := by
  subst hst
  obtain ⟨v, _, ⟨T', L', k', n'⟩, -, X', ⟨L, hQ, l1, l2, l3⟩, st⟩ := X.specialBack hx (y := y) hy1 hown (mvT hZ w1) (mvT hZ w2) (mvT hZ w4) hy (backOf (W := W) (M []) hZ w4 w3 hf hl) (g := mkF m pc Ls (argsL.reverse ++ .ref a :: rest)) rfl hsz (Steps.refl _) (a := a) (argsL := argsL) (rest := rest) (lenOf hd hn) rfl (by show 2 * 0 + _ ≤ _; omega) hdg (fun _ _ => ⟨rfl, e0, hc, hs⟩)
  dsimp only [Pt.U, Pt.locs, Pt.cells, Pt.slots] at X' l1 l2 l3 st hQ
  subst l1 l2 l3
  exact own_st (fun t q => st.trans q) (k v T' L hQ X')
/-- an instance method by its contract -/
theorem own_callV (X : Stand p l e R s m args below meth c T locs cells slots) (hx : p.tables.exec = Jvm.exec) (hZ : Z.Warmed39 s.vm) (e0 : T.heap = h) {own C : String} {index : Nat} {y z : MethodName} {bytes : ByteArray} {maxL : Nat} {ret : Option FieldType} {rm : Room}
    (hown : s.vm.findClass own = some m.cls) (w1 : (Jvm.Cond.methodLink own index y).before a0 Z = true) (w2 : (Jvm.Cond.declares y).before a0 Z = true) (w5 : (Jvm.Cond.selects y.cls y y).before a0 Z = true) (w6 : (Jvm.Cond.selects C y z).before a0 Z = true) (w7 : (Jvm.Cond.instanceMethod z).before a0 Z = true) (w3 : (Jvm.Cond.initialized z.cls).before a0 Z = true) (w4 : (Jvm.Cond.code z bytes maxL ret).before a0 Z = true)
    (hy : y.cls ≠ "java/lang/invoke/MethodHandle" ∧ y.cls ≠ "java/lang/invoke/VarHandle") {ps : List FieldType} {r : Option FieldType} (hd : parseMethodDescriptor y.desc = some ⟨ps, r⟩) (E : Exa Z h a C)
    {argsL : List Value} (hn : argsL.length = ps.length) (M : own_Met l Z h z bytes maxL ret rm (.ref a :: argsL).toArray Q') (W : Nat) (hf : rm.frames + 1 ≤ R.frames) (hl : W + (maxL + 11) + rm.locals ≤ R.locals) (hc : cells + rm.cells ≤ R.cells) (hs : slots + rm.slots ≤ R.slots)
    {st : List Value} (hst : st = argsL.reverse ++ .ref a :: rest) (hsz : Ls.size = c.maxLocals) (hW : (rest.map fun v => v.category).sum ≤ W) (hdg : decode c.code pc = .ok (.invokevirtual index, 3))
    (k : ∀ (v : Option Value) (T' : State) (L : List Loc), Q' v T'.heap L → Stand p l e R s m args below meth c T' (locs ++ L) (cells + rm.cells) (slots + rm.slots) → own_Go p e below P T' (mkF m (pc + 3) Ls (v.toList ++ rest))) :
    own_Go p e below P T (mkF m pc Ls st) := by
  subst hst
  obtain ⟨cq, kq, qa, qb, qc⟩ := isOf hZ e0 E
  obtain ⟨v, _, ⟨T', L', k', n'⟩, -, X', ⟨L, hQ, l1, l2, l3⟩, st⟩ := X.virtualBack hx (y := y) (z := z) hown (mvT hZ w1) (mvT hZ w2) (notFace_of_selects (args := #[]) (mvT hZ w5)) (mvT hZ w6) (mvT hZ w7) hy (backOf (W := W) (M []) hZ w4 w3 hf hl) qa qc (g := mkF m pc Ls (argsL.reverse ++ .ref a :: rest)) rfl hsz (Steps.refl _) (argsL := argsL) (rest := rest) (lenOf hd hn) rfl (by show 2 * 0 + _ ≤ _; omega) hdg (fun _ _ => ⟨rfl, e0, hc, hs⟩)
  dsimp only [Pt.U, Pt.locs, Pt.cells, Pt.slots] at X' l1 l2 l3 st hQ
  subst l1 l2 l3
  exact own_st (fun t q => st.trans q) (k v T' L hQ X')
/-- a private instance method by its contract (no 'selects' word is laid for it) -/
theorem own_callP (X : Stand p l e R s m args below meth c T locs cells slots) (hx : p.tables.exec = Jvm.exec) (hZ : Z.Warmed39 s.vm) (e0 : T.heap = h) {own C : String} {index kk : Nat} {y : MethodName} {bytes : ByteArray} {maxL : Nat} {ret : Option FieldType} {rm : Room}
    (hown : s.vm.findClass own = some m.cls) (w1 : (Jvm.Cond.methodLink own index y).before a0 Z = true) (w2 : (Jvm.Cond.instanceMethod y).before a0 Z = true) (wp : (Jvm.Cond.privateMethod y).before a0 Z = true) (wi : (Jvm.Cond.instantiable y.cls kk).before a0 Z = true) (w3 : (Jvm.Cond.initialized y.cls).before a0 Z = true) (w4 : (Jvm.Cond.code y bytes maxL ret).before a0 Z = true)
    (hy : y.cls ≠ "java/lang/invoke/MethodHandle" ∧ y.cls ≠ "java/lang/invoke/VarHandle") {ps : List FieldType} {r : Option FieldType} (hd : parseMethodDescriptor y.desc = some ⟨ps, r⟩) (E : Exa Z h a C)
    {argsL : List Value} (hn : argsL.length = ps.length) (M : own_Met l Z h y bytes maxL ret rm (.ref a :: argsL).toArray Q') (W : Nat) (hf : rm.frames + 1 ≤ R.frames) (hl : W + (maxL + 11) + rm.locals ≤ R.locals) (hc : cells + rm.cells ≤ R.cells) (hs : slots + rm.slots ≤ R.slots)
    {st : List Value} (hst : st = argsL.reverse ++ .ref a :: rest) (hsz : Ls.size = c.maxLocals) (hW : (rest.map fun v => v.category).sum ≤ W) (hdg : decode c.code pc = .ok (.invokevirtual index, 3))
    (k : ∀ (v : Option Value) (T' : State) (L : List Loc), Q' v T'.heap L → Stand p l e R s m args below meth c T' (locs ++ L) (cells + rm.cells) (slots + rm.slots) → own_Go p e below P T' (mkF m (pc + 3) Ls (v.toList ++ rest))) :
    own_Go p e below P T (mkF m pc Ls st) := by
  subst hst
  obtain ⟨cq, q1, q2⟩ := E.cell
  have hP : s.PrivateAt y := Cond.privateMethod_at (mvP hZ wp (args := #[]))
  obtain ⟨c2, k2, i1, i2, -, i4, -⟩ := Cond.instantiable_spec (mvT (args := #[]) hZ wi)
  have hni : k2.isInterface = false := by
    cases hb : k2.isInterface with
    | false => rfl
    | true => rw [hb] at i4; cases i4
  have hsel : (Jvm.Cond.selects y.cls y y).before args s = true := selects_self_of_private i1 i2 hni hP (mvT hZ w2) hy
  obtain ⟨v, _, ⟨T', L', k', n'⟩, -, X', ⟨L, hQ, l1, l2, l3⟩, st⟩ := X.privateBack hx (y := y) hown (mvT hZ w1) (mvT hZ w2) hsel hP (mvT hZ w4) hy (backOf (W := W) (M []) hZ w4 w3 hf hl) (g := mkF m pc Ls (argsL.reverse ++ .ref a :: rest)) rfl hsz (Steps.refl _) (a := a) (by rw [e0]; exact q1) q2 (argsL := argsL) (rest := rest) (lenOf hd hn) rfl (by show 2 * 0 + _ ≤ _; omega) hdg (fun _ _ => ⟨rfl, e0, hc, hs⟩)
  dsimp only [Pt.U, Pt.locs, Pt.cells, Pt.slots] at X' l1 l2 l3 st hQ
  subst l1 l2 l3
  exact own_st (fun t q => st.trans q) (k v T' L hQ X')
/-- Object's constructor -/
theorem own_initO (X : Stand p l e R s m args below meth c T locs cells slots) (hx : p.tables.exec = Jvm.exec) (hZ : Z.Warmed39 s.vm) (e0 : T.heap = h) {own : String} {idx : Nat} (hown : s.vm.findClass own = some m.cls) (w1 : (Jvm.Cond.methodLink own idx Lib.objectInit).before a0 Z = true) (w2 : (Jvm.Cond.instanceMethod Lib.objectInit).before a0 Z = true)
    (w3 : (Jvm.Cond.code Lib.objectInit ⟨#[0xb1]⟩ 1 none).before a0 Z = true) (hsz : Ls.size = c.maxLocals) (hd : decode c.code pc = .ok (.invokespecial idx, 3)) (hf : 1 ≤ R.frames) (W : Nat) (hW : (rest.map fun v => v.category).sum ≤ W) (hl : W + 12 ≤ R.locals)
    (k : ∀ T' : State, Stand p l e R s m args below meth c T' locs cells slots → T'.heap = h → own_Go p e below P T' (mkF m (pc + 3) Ls rest)) : own_Go p e below P T (mkF m pc Ls (.ref a :: rest)) := by
  obtain ⟨T', X', e', st⟩ := initO X hx hZ hown w1 w2 w3 e0 (g := mkF m pc Ls (.ref a :: rest)) rfl hsz rfl hd hf (W := W) (by show 2 * 0 + _ ≤ _; omega) hl
  exact own_st st (k T' X' e')
theorem own_getF (X : Stand p l e R s m args below meth c T locs cells slots) (hx : p.tables.exec = Jvm.exec) (hZ : Z.Warmed39 s.vm) (e0 : T.heap = h) {own C n d : String} {index : Nat} (hown : s.vm.findClass own = some m.cls) (w : (Jvm.Cond.fieldLink own index C n d).before a0 Z = true)
    {v : Value} (F : Fld Z h a C n d v) (hd : decode c.code pc = .ok (.getfield index, 3))
    (k : ∀ T' : State, Stand p l e R s m args below meth c T' locs cells slots → T'.heap = h → own_Go p e below P T' (mkF m (pc + 3) Ls (v :: rest))) : own_Go p e below P T (mkF m pc Ls (.ref a :: rest)) := by
  obtain ⟨T', X', e', st⟩ := getF X hx hZ hown (host := "") (Or.inl w) Via.refl e0 F (g := mkF m pc Ls (.ref a :: rest)) rfl rfl hd
  exact own_st st (k T' X' e')
theorem own_putF (X : Stand p l e R s m args below meth c T locs cells slots) (hx : p.tables.exec = Jvm.exec) (hZ : Z.Warmed39 s.vm) (e0 : T.heap = h) {own C O n d : String} {index kk : Nat} {ty : FieldType} (hown : s.vm.findClass own = some m.cls) (w : (Jvm.Cond.fieldLink own index O n d).before a0 Z = true)
    {v old : Value} (F : Fld Z h a O n d old) (E : Exa Z h a C) (L : (Jvm.Cond.lays C O n d).before a0 Z = true ∨ ((Jvm.Cond.laysFinal C O n d).before a0 Z = true ∧ own = O ∧ meth.name = "<init>")) (wi : (Jvm.Cond.instantiable C kk).before a0 Z = true)
    (hty : parseFieldDescriptor d = some ty) (hn : narrow ty v = v) (hf : fits ty v = true) (N : Fr n0 locs) (ga : n0 ≤ a) (hd : decode c.code pc = .ok (.putfield index, 3))
    (k : ∀ (T' : State) (h' : Heap), Stand p l e R s m args below meth c T' (locs ++ [⟨a, Jvm.RoadKit.slotOf Z O n d⟩]) cells slots → T'.heap = h' → Wr h h' a (Jvm.RoadKit.slotOf Z O n d) v → Fr n0 (locs ++ [⟨a, Jvm.RoadKit.slotOf Z O n d⟩]) → own_Go p e below P T' (mkF m (pc + 3) Ls rest)) :
    own_Go p e below P T (mkF m pc Ls (v :: .ref a :: rest)) := by
  obtain ⟨T', h', X', e', W', st⟩ := putF X hx hZ hown (host := "") (Or.inl w) Via.refl e0 F E L wi hty hn hf (g := mkF m pc Ls (v :: .ref a :: rest)) rfl rfl hd
  exact own_st st (k T' h' X' e' W' (Fr.snoc X' N ga))
theorem own_new (X : Stand p l e R s m args below meth c T locs cells slots) (hx : p.tables.exec = Jvm.exec) (hZ : Z.Warmed39 s.vm) (e0 : T.heap = h) {own C : String} {index n : Nat} (hown : s.vm.findClass own = some m.cls) (w : (Jvm.Cond.classLink own index C).before a0 Z = true) (wi : (Jvm.Cond.instantiable C n).before a0 Z = true) (wz : (Jvm.Cond.initialized C).before a0 Z = true)
    (hd : decode c.code pc = .ok (.new index, 3)) (hc : cells + 1 ≤ R.cells) (hl : slots + n ≤ R.slots)
    (k : ∀ (T' : State) (h' : Heap) (a : Addr), Stand p l e R s m args below meth c T' locs (cells + 1) (slots + n) → T'.heap = h' → Ext h h' → h.size = a → Exa Z h' a C → (∀ {O nm d : String} {ty : FieldType}, Laid Z a0 C O nm d → parseFieldDescriptor d = some ty → Fld Z h' a O nm d (defaultValue ty)) → own_Go p e below P T' (mkF m (pc + 3) Ls (.ref a :: rest))) :
    own_Go p e below P T (mkF m pc Ls rest) := by
  obtain ⟨T', h', X', e', E', A', D', -, st⟩ := newO X hx hZ hown w wi wz e0 (g := mkF m pc Ls rest) rfl hd hc hl
  exact own_st st (k T' h' h.size X' e' E' rfl A' D')
theorem own_inst (X : Stand p l e R s m args below meth c T locs cells slots) (hx : p.tables.exec = Jvm.exec) (hZ : Z.Warmed39 s.vm) (e0 : T.heap = h) {own K : String} {index : Nat} (hown : s.vm.findClass own = some m.cls) (w : (Jvm.Cond.classLink own index K).before a0 Z = true) (F : Ins Z h a K true) (hd : decode c.code pc = .ok (.instanceof index, 3))
    (k : ∀ T' : State, Stand p l e R s m args below meth c T' locs cells slots → T'.heap = h → own_Go p e below P T' (mkF m (pc + 3) Ls (.int 1 :: rest))) : own_Go p e below P T (mkF m pc Ls (.ref a :: rest)) := by
  obtain ⟨T', X', e', st⟩ := instY X hx hZ hown w e0 F (g := mkF m pc Ls (.ref a :: rest)) rfl rfl hd
  exact own_st st (k T' X' e')
theorem own_cast (X : Stand p l e R s m args below meth c T locs cells slots) (hx : p.tables.exec = Jvm.exec) (hZ : Z.Warmed39 s.vm) (e0 : T.heap = h) {own K : String} {index : Nat} (hown : s.vm.findClass own = some m.cls) (w : (Jvm.Cond.classLink own index K).before a0 Z = true) (F : Ins Z h a K true) (hd : decode c.code pc = .ok (.checkcast index, 3))
    (k : ∀ T' : State, Stand p l e R s m args below meth c T' locs cells slots → T'.heap = h → own_Go p e below P T' (mkF m (pc + 3) Ls (.ref a :: rest))) : own_Go p e below P T (mkF m pc Ls (.ref a :: rest)) := by
  obtain ⟨T', X', e', st⟩ := castY X hx hZ hown w e0 F (g := mkF m pc Ls (.ref a :: rest)) rfl rfl hd
  exact own_st st (k T' X' e')
/-- an array of n places; place j holds f j -/
def own_A (Z : State) (h : Heap) (a : Addr) (ty : FieldType) (n : Nat) (f : Nat → Value) : Prop := ∃ c : Cell, Arr Z h a c ty ∧ c.slots.size = n ∧ ∀ j, j < n → c.slots[j]? = some (f j)
def own_upd {α : Type} (f : Nat → α) (i : Nat) (x : α) : Nat → α := fun j => if j = i then x else f j
/-- the int j names the place i of n -/
abbrev own_ix (j : Int32) (i n : Nat) : Prop := ¬ j < 0 ∧ j.toNatClampNeg = i ∧ i < n
variable {ty : FieldType} {n : Nat} {f : Nat → Value} {ws : List Addr}
theorem own_A.lt (A : own_A Z h a ty n f) : a < h.size := by obtain ⟨c, A, -⟩ := A; exact A.lt
theorem own_A.ext (A : own_A Z h a ty n f) (E : Ext h h') : own_A Z h' a ty n f := by obtain ⟨c, A, r⟩ := A; exact ⟨c, A.ext E, r⟩
theorem own_A.keep (A : own_A Z h a ty n f) (K : Keep h h' ws) (q : a ∉ ws) : own_A Z h' a ty n f := by obtain ⟨c, A, r⟩ := A; exact ⟨c, ⟨K.2.1 a c A.1 q, A.2⟩, r⟩
theorem own_A.congr {f' : Nat → Value} (A : own_A Z h a ty n f) (q : ∀ j, j < n → f j = f' j) : own_A Z h a ty n f' := by obtain ⟨c, A, r, k⟩ := A; exact ⟨c, A, r, fun j hj => by rw [← q j hj]; exact k j hj⟩
theorem own_A.set {i : Nat} {v : Value} (A : own_A Z h a ty n f) (W : Wr h h' a i v) : own_A Z h' a ty n (own_upd f i v) := by
  obtain ⟨c, A, S, H⟩ := A
  refine ⟨_, A.same W, by rw [sz_set]; exact S, fun j hj => ?_⟩
  by_cases q : j = i
  · subst q
    have : j < c.slots.size := by rw [S]; exact hj
    simp [Cell.setSlot, own_upd, this]
  · have q' : i ≠ j := fun z => q z.symm
    simp only [Cell.setSlot, own_upd, if_neg q]
    rw [Array.getElem?_setIfInBounds_ne q']
    exact H j hj
theorem own_ix.inb {j : Int32} {i : Nat} {cl : Cell} (x : own_ix j i n) (S : cl.slots.size = n) : ¬ (j < 0 ∨ cl.slots.size ≤ j.toNatClampNeg) := by
  obtain ⟨x1, x2, x3⟩ := x
  rw [S, x2]
  exact fun q => q.elim x1 (fun q => absurd q (Nat.not_le.mpr x3))
theorem own_alen (X : Stand p l e R s m args below meth c T locs cells slots) (hx : p.tables.exec = Jvm.exec) (hZ : Z.Warmed39 s.vm) (e0 : T.heap = h) (A : own_A Z h a ty n f) {z : Int32} (hz : n.toInt32 = z) (hd : decode c.code pc = .ok (.arraylength, 1))
    (k : own_Go p e below P T (mkF m (pc + 1) Ls (.int z :: rest))) : own_Go p e below P T (mkF m pc Ls (.ref a :: rest)) := by
  obtain ⟨cl, A, S, H⟩ := A
  subst S hz
  exact own_st (fun t q => X.arraylength hx (cell := cl) (by rw [e0]; exact A.1) (State.isArrayOf_alike hZ.alike A.2.1) (g := mkF m pc Ls (.ref a :: rest)) rfl rfl hd t q) k
abbrev own_IA (Z : State) (h : Heap) (a : Addr) (n : Nat) (g : Nat → Int32) : Prop := own_A Z h a .int n (fun j => .int (g j))
abbrev own_BA (Z : State) (h : Heap) (a : Addr) (n : Nat) (g : Nat → Int32) : Prop := own_A Z h a .byte n (fun j => .int (g j))
abbrev own_JA (Z : State) (h : Heap) (a : Addr) (n : Nat) (g : Nat → Int64) : Prop := own_A Z h a .long n (fun j => .long (g j))
theorem own_updI (g : Nat → Int32) (i : Nat) (x : Int32) : own_upd (fun j => Value.int (g j)) i (.int x) = fun j => Value.int (own_upd g i x j) := funext fun j => by unfold own_upd; split <;> rfl
theorem own_updJ (g : Nat → Int64) (i : Nat) (x : Int64) : own_upd (fun j => Value.long (g j)) i (.long x) = fun j => Value.long (own_upd g i x j) := funext fun j => by unfold own_upd; split <;> rfl
theorem own_ldI (X : Stand p l e R s m args below meth c T locs cells slots) (hx : p.tables.exec = Jvm.exec) (hZ : Z.Warmed39 s.vm) (e0 : T.heap = h) {g : Nat → Int32} (A : own_IA Z h a n g) {j : Int32} {i : Nat} (ix : own_ix j i n) {x : Int32} (hv : g i = x) (hd : decode c.code pc = .ok (.iaload, 1))
    (k : own_Go p e below P T (mkF m (pc + 1) Ls (.int x :: rest))) : own_Go p e below P T (mkF m pc Ls (.int j :: .ref a :: rest)) := by
  obtain ⟨cl, A, S, H⟩ := A
  subst hv
  exact own_st (fun t q => X.iaload hx (j := j) (v := .int (g i)) (by rw [e0]; exact A.1) (State.isArrayOf_alike hZ.alike A.2.1) A.2.2 (ix.inb S) (by rw [ix.2.1]; exact H i ix.2.2) (g := mkF m pc Ls (.int j :: .ref a :: rest)) rfl rfl hd t q) k
theorem own_ldB (X : Stand p l e R s m args below meth c T locs cells slots) (hx : p.tables.exec = Jvm.exec) (hZ : Z.Warmed39 s.vm) (e0 : T.heap = h) {g : Nat → Int32} (A : own_BA Z h a n g) {j : Int32} {i : Nat} (ix : own_ix j i n) {x : Int32} (hv : g i = x) (hd : decode c.code pc = .ok (.baload, 1))
    (k : own_Go p e below P T (mkF m (pc + 1) Ls (.int x :: rest))) : own_Go p e below P T (mkF m pc Ls (.int j :: .ref a :: rest)) := by
  obtain ⟨cl, A, S, H⟩ := A
  subst hv
  exact own_st (fun t q => X.baloadBytes hx (j := j) (v := .int (g i)) (by rw [e0]; exact A.1) (State.isArrayOf_alike hZ.alike A.2.1) A.2.2 (ix.inb S) (by rw [ix.2.1]; exact H i ix.2.2) (g := mkF m pc Ls (.int j :: .ref a :: rest)) rfl rfl hd t q) k
theorem own_ldJ (X : Stand p l e R s m args below meth c T locs cells slots) (hx : p.tables.exec = Jvm.exec) (hZ : Z.Warmed39 s.vm) (e0 : T.heap = h) {g : Nat → Int64} (A : own_JA Z h a n g) {j : Int32} {i : Nat} (ix : own_ix j i n) {x : Int64} (hv : g i = x) (hd : decode c.code pc = .ok (.laload, 1))
    (k : own_Go p e below P T (mkF m (pc + 1) Ls (.long x :: rest))) : own_Go p e below P T (mkF m pc Ls (.int j :: .ref a :: rest)) := by
  obtain ⟨cl, A, S, H⟩ := A
  subst hv
  exact own_st (fun t q => X.laload hx (j := j) (v := .long (g i)) (by rw [e0]; exact A.1) (State.isArrayOf_alike hZ.alike A.2.1) A.2.2 (ix.inb S) (by rw [ix.2.1]; exact H i ix.2.2) (g := mkF m pc Ls (.int j :: .ref a :: rest)) rfl rfl hd t q) k
theorem own_stI (X : Stand p l e R s m args below meth c T locs cells slots) (hx : p.tables.exec = Jvm.exec) (hZ : Z.Warmed39 s.vm) (e0 : T.heap = h) {g : Nat → Int32} (A : own_IA Z h a n g) {j : Int32} {x : Int32} {i : Nat} (ix : own_ix j i n) (N : Fr n0 locs) (ga : n0 ≤ a) (hd : decode c.code pc = .ok (.iastore, 1))
    (k : ∀ (T' : State) (h' : Heap), Stand p l e R s m args below meth c T' (locs ++ [⟨a, j.toNatClampNeg⟩]) cells slots → T'.heap = h' → own_IA Z h' a n (own_upd g i x) → Keep h h' [a] → Fr n0 (locs ++ [⟨a, j.toNatClampNeg⟩]) → own_Go p e below P T' (mkF m (pc + 1) Ls rest)) :
    own_Go p e below P T (mkF m pc Ls (.int x :: .int j :: .ref a :: rest)) := by
  obtain ⟨cl, A1, S, H⟩ := A
  obtain ⟨T', h', X', e', W', st⟩ := stI X hx hZ e0 A1 (j := j) (x := x) (ix.inb S) (g := mkF m pc Ls (.int x :: .int j :: .ref a :: rest)) rfl rfl hd
  have V := own_A.set ⟨cl, A1, S, H⟩ W'
  rw [ix.2.1] at V
  have V' : own_IA Z h' a n (own_upd g i x) := by rw [own_IA, ← own_updI]; exact V
  exact own_st st (k T' h' X' e' V' (Keep.of_wr W') (Fr.snoc X' N ga))
theorem own_stB (X : Stand p l e R s m args below meth c T locs cells slots) (hx : p.tables.exec = Jvm.exec) (hZ : Z.Warmed39 s.vm) (e0 : T.heap = h) {g : Nat → Int32} (A : own_BA Z h a n g) {j : Int32} {x : Int32} {i : Nat} (ix : own_ix j i n) (N : Fr n0 locs) (ga : n0 ≤ a) (hd : decode c.code pc = .ok (.bastore, 1))
    (k : ∀ (T' : State) (h' : Heap), Stand p l e R s m args below meth c T' (locs ++ [⟨a, j.toNatClampNeg⟩]) cells slots → T'.heap = h' → own_BA Z h' a n (own_upd g i x.toInt8.toInt32) → Keep h h' [a] → Fr n0 (locs ++ [⟨a, j.toNatClampNeg⟩]) → own_Go p e below P T' (mkF m (pc + 1) Ls rest)) :
    own_Go p e below P T (mkF m pc Ls (.int x :: .int j :: .ref a :: rest)) := by
  obtain ⟨cl, A1, S, H⟩ := A
  obtain ⟨T', h', X', e', W', st⟩ := stB X hx hZ e0 A1 (j := j) (x := x) (ix.inb S) (g := mkF m pc Ls (.int x :: .int j :: .ref a :: rest)) rfl rfl hd
  have V := own_A.set ⟨cl, A1, S, H⟩ W'
  rw [ix.2.1] at V
  have V' : own_BA Z h' a n (own_upd g i x.toInt8.toInt32) := by rw [own_BA, ← own_updI]; exact V
  exact own_st st (k T' h' X' e' V' (Keep.of_wr W') (Fr.snoc X' N ga))
theorem own_stJ (X : Stand p l e R s m args below meth c T locs cells slots) (hx : p.tables.exec = Jvm.exec) (hZ : Z.Warmed39 s.vm) (e0 : T.heap = h) {g : Nat → Int64} (A : own_JA Z h a n g) {j : Int32} {x : Int64} {i : Nat} (ix : own_ix j i n) (N : Fr n0 locs) (ga : n0 ≤ a) (hd : decode c.code pc = .ok (.lastore, 1))
    (k : ∀ (T' : State) (h' : Heap), Stand p l e R s m args below meth c T' (locs ++ [⟨a, j.toNatClampNeg⟩]) cells slots → T'.heap = h' → own_JA Z h' a n (own_upd g i x) → Keep h h' [a] → Fr n0 (locs ++ [⟨a, j.toNatClampNeg⟩]) → own_Go p e below P T' (mkF m (pc + 1) Ls rest)) :
    own_Go p e below P T (mkF m pc Ls (.long x :: .int j :: .ref a :: rest)) := by
  obtain ⟨cl, A1, S, H⟩ := A
  obtain ⟨T', h', X', e', W', st⟩ := stJ X hx hZ e0 A1 (j := j) (x := x) (ix.inb S) (g := mkF m pc Ls (.long x :: .int j :: .ref a :: rest)) rfl rfl hd
  have V := own_A.set ⟨cl, A1, S, H⟩ W'
  rw [ix.2.1] at V
  have V' : own_JA Z h' a n (own_upd g i x) := by rw [own_JA, ← own_updJ]; exact V
  exact own_st st (k T' h' X' e' V' (Keep.of_wr W') (Fr.snoc X' N ga))
theorem own_newP (X : Stand p l e R s m args below meth c T locs cells slots) (hx : p.tables.exec = Jvm.exec) (hZ : Z.Warmed39 s.vm) (e0 : T.heap = h) {aty : ArrayType} (w : (Jvm.Cond.arrayClass (newarray.typeOf aty)).before a0 Z = true) (hd : decode c.code pc = .ok (.newarray aty, 2)) {z : Int32} (hz0 : ¬ z < 0) (n : Nat) (hz : z.toNatClampNeg = n) (hb : n * 8 ≤ 536870912) (hc : cells + 1 ≤ R.cells) (hl : slots + n ≤ R.slots)
    (k : ∀ (T' : State) (h' : Heap) (a : Addr), Stand p l e R s m args below meth c T' locs (cells + 1) (slots + n) → T'.heap = h' → Ext h h' → h.size = a → own_A Z h' a (newarray.typeOf aty) n (fun _ => defaultValue (newarray.typeOf aty)) → own_Go p e below P T' (mkF m (pc + 2) Ls (.ref a :: rest))) :
    own_Go p e below P T (mkF m pc Ls (.int z :: rest)) := by
  obtain ⟨T', h', cA, X', e', E', A', st⟩ := newP X hx hZ w e0 (g := mkF m pc Ls (.int z :: rest)) rfl hd rfl hz0 (cap := n) (Nat.le_of_eq hz) hb hc hl
  refine own_st st (k T' h' h.size X' e' E' rfl ⟨_, A', by rw [sz_new]; exact hz, fun j hj => ?_⟩)
  simp [newA, hz, hj]
theorem own_retI (X : Stand p l e R s m args below meth c T locs cells slots) (hx : p.tables.exec = Jvm.exec) (hlk : meth.locks = false) (hret : meth.sig.returnType = some .int) (hc : cells ≤ R.cells) (hs : slots ≤ R.slots) {z : Int32} (hd : decode c.code pc = .ok (.ireturn, 1)) (hQ : Q (some (.int z)) T.heap locs) : own_Go p e below (own_P s R Q) T (mkF m pc Ls (.int z :: rest)) :=
  own_end X hlk (fun q => by rw [hret] at q; cases q) hc hs hQ (fun fs hr => retOut X hx hret rfl (Or.inl ⟨rfl, Or.inl rfl, z, rfl⟩) hd hr)
theorem own_retZ (X : Stand p l e R s m args below meth c T locs cells slots) (hx : p.tables.exec = Jvm.exec) (hlk : meth.locks = false) (hret : meth.sig.returnType = some .boolean) (hc : cells ≤ R.cells) (hs : slots ≤ R.slots) {z : Int32} (hz : z = 1 ∨ z = 0) (hd : decode c.code pc = .ok (.ireturn, 1)) (hQ : Q (some (.int z)) T.heap locs) : own_Go p e below (own_P s R Q) T (mkF m pc Ls (.int z :: rest)) :=
  own_end X hlk (fun q => by rw [hret] at q; cases q) hc hs hQ (fun fs hr => retOut X hx hret (by rcases hz with rfl | rfl <;> rfl) (Or.inl ⟨rfl, Or.inr (Or.inl rfl), z, rfl⟩) hd hr)
theorem own_retJ (X : Stand p l e R s m args below meth c T locs cells slots) (hx : p.tables.exec = Jvm.exec) (hlk : meth.locks = false) (hret : meth.sig.returnType = some .long) (hc : cells ≤ R.cells) (hs : slots ≤ R.slots) {z : Int64} (hd : decode c.code pc = .ok (.lreturn, 1)) (hQ : Q (some (.long z)) T.heap locs) : own_Go p e below (own_P s R Q) T (mkF m pc Ls (.long z :: rest)) :=
  own_end X hlk (fun q => by rw [hret] at q; cases q) hc hs hQ (fun fs hr => retOut X hx hret rfl (Or.inr (Or.inl ⟨rfl, rfl, z, rfl⟩)) hd hr)
theorem own_retV (X : Stand p l e R s m args below meth c T locs cells slots) (hx : p.tables.exec = Jvm.exec) (hlk : meth.locks = false) (hret : meth.sig.returnType = none) (hc : cells ≤ R.cells) (hs : slots ≤ R.slots) (hd : decode c.code pc = .ok (.return_, 1)) (hQ : Q none T.heap locs) : own_Go p e below (own_P s R Q) T (mkF m pc Ls []) :=
  own_end X hlk (fun _ => rfl) hc hs hQ (fun fs hr => X.returnOut hx hret hd hr)
end OwnBase

section OwnMore
variable {p : Program} {l : Launch} {e : Env} {R : Room} {s : State} {m : MethodId} {args : Array Value} {below : List Frame} {meth : Method} {c : Code} {T : State} {locs : List Loc} {cells slots : Nat} {Z : State} {a0 : Array Value} {h : Heap} {Q : Option Value → Heap → List Loc → Prop} {P : State → Outcome → Prop} {pc : Nat} {Ls : Array Slot} {rest : List Value}
theorem own_getS (X : Stand p l e R s m args below meth c T locs cells slots) (hx : p.tables.exec = Jvm.exec) (hZ : Z.Warmed39 s.vm) (e0 : T.heap = h) {own C n d : String} {index : Nat} (hown : s.vm.findClass own = some m.cls) (w : (Jvm.Cond.fieldLink own index C n d).before a0 Z = true)
    {v : Value} (F : Sta Z h C n d v) (hd : decode c.code pc = .ok (.getstatic index, 3))
    (k : ∀ T' : State, Stand p l e R s m args below meth c T' locs cells slots → T'.heap = h → own_Go p e below P T' (mkF m (pc + 3) Ls (v :: rest))) : own_Go p e below P T (mkF m pc Ls rest) := by
  obtain ⟨T', X', e', st⟩ := getS (host := "") X hx hZ hown w Via.refl e0 F (g := mkF m pc Ls rest) rfl hd
  exact own_st st (k T' X' e')
theorem own_retA (X : Stand p l e R s m args below meth c T locs cells slots) (hx : p.tables.exec = Jvm.exec) (hlk : meth.locks = false) {t : FieldType} (hret : meth.sig.returnType = some t) (ht : t.isReference = true) (hc : cells ≤ R.cells) (hs : slots ≤ R.slots) {z : Addr} (hd : decode c.code pc = .ok (.areturn, 1)) (hQ : Q (some (.ref z)) T.heap locs) : own_Go p e below (own_P s R Q) T (mkF m pc Ls (.ref z :: rest)) :=
  own_end X hlk (fun q => by rw [hret] at q; cases q) hc hs hQ (fun fs hr => retOut X hx hret (by cases t <;> first | rfl | cases ht) (Or.inr (Or.inr (Or.inr (Or.inr ⟨rfl, ht, rfl⟩)))) hd hr)
/-- the law's own end: String constants may have come to be interned -/
def own_PW (s : State) (k n : Nat) (s₂ : State) (o : Outcome) : Prop := o = .returned (some (.int (1 : Int32))) ∧ ∃ L : List Loc, Fr s.heap.size L ∧ ReturnedEndW s o s₂ L k n
theorem own_retW {vm₁ : Vm} {n k1 k2 : Nat} (X : Stand p l e R (s.setVm vm₁) m args below meth c T locs cells slots) (hS : s.Since vm₁ n) (hn : n ≤ T.heap.size) (hx : p.tables.exec = Jvm.exec) (hlk : meth.locks = false) (hret : meth.sig.returnType = some .boolean) (hc : cells ≤ k1) (hs : slots ≤ k2) (N : Fr s.heap.size locs) (hd : decode c.code pc = .ok (.ireturn, 1)) : own_Go p e below (own_PW s k1 k2) T (mkF m pc Ls (.int (1 : Int32) :: rest)) := by
  obtain ⟨fs, h1, hrun, hended, q1, q2, q3, q4⟩ := X.leaveW hS hn (v := some (.int (1 : Int32))) (fun q => by rw [hret] at q; cases q) hlk
  exact ⟨_, _, retOut X hx hret rfl (Or.inl ⟨rfl, Or.inr (Or.inl rfl), 1, rfl⟩) hd h1, hrun, hended, rfl, locs, N, q1, q2, q3, q4.mono hc hs⟩
theorem own_eqI {t : Term} {k : Int32} (q : (Jvm.Cond.eq t (.int k)).value args Z none Z [] = some true) : t.eval args Z none [] Z = some (.int k) := by
  obtain ⟨x, y, h1, h2, h3, h4⟩ := cmp_v (Or.inl q)
  have h5 : y = .int k := Option.some.inj (h2.symm.trans (Term.int_eval k))
  subst h5
  obtain ⟨z, rfl⟩ := h4
  have := gotT (Cond.eq_ints h1 (Term.int_eval k)) q
  rw [h1, this]
theorem own_bytes {t : Term} {b : Addr} {n : Nat} {z : Int32} {g : Nat → Int32} (hn : n < 2147483648) (hz : z.toInt = n) (ev : t.eval args Z none [] Z = some (.ref b)) (ha : (Jvm.Cond.arrayOf t .byte).value args Z none Z [] = some true) (hl : (Jvm.Cond.eq (.length t) (.int z)).value args Z none Z [] = some true)
    (he : ∀ j, j < n → ∃ i : Int32, i.toNatClampNeg = j ∧ (Term.elem t (.int i)).eval args Z none [] Z = some (.int (g j))) : own_BA Z Z.heap b n g := by
  obtain ⟨c, A⟩ := Arr.start ev ha
  have hat : Z.arrayAt? b = some c := A.fin (Vm.Alike.refl _)
  have hl' := own_eqI hl
  by_cases q : c.slots.size < 2147483648
  · have h1 := len_f (idx := []) (o := none) (first := Z) ev hat q
    have h2 : Value.int c.slots.size.toInt32 = .int z := Option.some.inj (h1.symm.trans hl')
    have h3 : c.slots.size.toInt32 = z := Value.int.inj h2
    have h4 := len_toInt q
    rw [h3, hz] at h4
    refine ⟨c, A, by omega, fun j hj => ?_⟩
    obtain ⟨i, hi, hej⟩ := he j hj
    have h5 := (elem_in hej ev (Term.int_eval i) A.1).2
    rw [hi] at h5
    exact h5
  · simp [Term.eval, ev, hat, q] at hl'
theorem own_of_arv {h : Heap} {b : Addr} {k : ClassId} {z : Int32} {vs : List Value} {dv : Value} (n : Nat) (hz : z.toNatClampNeg = n) {g : Nat → Int32} (hg : ∀ j, j < n → vs.getD j dv = .int (g j)) (V : Arv Z h b k .byte z vs dv) : own_BA Z h b n g := by
  obtain ⟨c, A, -, S, -, H, -⟩ := V
  refine ⟨c, A, by rw [S, hz], fun j hj => ?_⟩
  show c.slots[j]? = some (.int (g j))
  rw [← hg j hj]
  exact H j (by rw [S, hz]; exact hj)
end OwnMore
abbrev own_t1 : Nat → Int32 := fun j => ([49, 46, 48] : List Int32).getD j 0
abbrev own_t2 : Nat → Int32 := fun j => ([50, 48, 48, 52, 47, 48, 56] : List Int32).getD j 0

theorem d1_0 : decode prog_8_method_20_code 0 = .ok (.aload_n 0, 1) := by decide +kernel
theorem d1_1 : decode prog_8_method_20_code 1 = .ok (.getstatic 3, 3) := by decide +kernel
theorem d1_4 : decode prog_8_method_20_code 4 = .ok (.if_acmp .ne 7, 3) := by decide +kernel
theorem d1_7 : decode prog_8_method_20_code 7 = .ok (.iconst 1, 1) := by decide +kernel
theorem d1_8 : decode prog_8_method_20_code 8 = .ok (.goto 4, 3) := by decide +kernel
theorem d1_11 : decode prog_8_method_20_code 11 = .ok (.iconst 0, 1) := by decide +kernel
theorem d1_12 : decode prog_8_method_20_code 12 = .ok (.ireturn, 1) := by decide +kernel
theorem pn_1 : plainName "com/example/addressee/addressee/AddressingVersion" = true := by first | (simp [plainName, overriddenIn]; done) | decide +kernel
theorem pd_1 : parseMethodDescriptor "()Z" = some ⟨[], some .boolean⟩ := by decide +kernel

theorem d2_0 : decode prog_8_method_4_code 0 = .ok (.aload_n 0, 1) := by decide +kernel
theorem d2_1 : decode prog_8_method_4_code 1 = .ok (.getfield 29, 3) := by decide +kernel
theorem d2_4 : decode prog_8_method_4_code 4 = .ok (.areturn, 1) := by decide +kernel
theorem pn_2 : plainName "com/example/addressee/addressee/AddressingVersion" = true := by first | (simp [plainName, overriddenIn]; done) | decide +kernel
theorem pd_2 : parseMethodDescriptor "()Ljava/lang/String;" = some ⟨[], some (.object "java/lang/String")⟩ := by decide +kernel

theorem d4_0 : decode jdk_43_method_13_code 0 = .ok (.aload_n 0, 1) := by decide +kernel
theorem d4_1 : decode jdk_43_method_13_code 1 = .ok (.arraylength, 1) := by decide +kernel
theorem d4_2 : decode jdk_43_method_13_code 2 = .ok (.aload_n 1, 1) := by decide +kernel
theorem d4_3 : decode jdk_43_method_13_code 3 = .ok (.arraylength, 1) := by decide +kernel
theorem d4_4 : decode jdk_43_method_13_code 4 = .ok (.if_icmp .ne 30, 3) := by decide +kernel
theorem d4_7 : decode jdk_43_method_13_code 7 = .ok (.iconst 0, 1) := by decide +kernel
theorem d4_8 : decode jdk_43_method_13_code 8 = .ok (.istore_n 2, 1) := by decide +kernel
theorem d4_9 : decode jdk_43_method_13_code 9 = .ok (.iload_n 2, 1) := by decide +kernel
theorem d4_10 : decode jdk_43_method_13_code 10 = .ok (.aload_n 0, 1) := by decide +kernel
theorem d4_11 : decode jdk_43_method_13_code 11 = .ok (.arraylength, 1) := by decide +kernel
theorem d4_12 : decode jdk_43_method_13_code 12 = .ok (.if_icmp .ge 20, 3) := by decide +kernel
theorem d4_15 : decode jdk_43_method_13_code 15 = .ok (.aload_n 0, 1) := by decide +kernel
theorem d4_16 : decode jdk_43_method_13_code 16 = .ok (.iload_n 2, 1) := by decide +kernel
theorem d4_17 : decode jdk_43_method_13_code 17 = .ok (.baload, 1) := by decide +kernel
theorem d4_18 : decode jdk_43_method_13_code 18 = .ok (.aload_n 1, 1) := by decide +kernel
theorem d4_19 : decode jdk_43_method_13_code 19 = .ok (.iload_n 2, 1) := by decide +kernel
theorem d4_20 : decode jdk_43_method_13_code 20 = .ok (.baload, 1) := by decide +kernel
theorem d4_21 : decode jdk_43_method_13_code 21 = .ok (.if_icmp .eq 5, 3) := by decide +kernel
theorem d4_24 : decode jdk_43_method_13_code 24 = .ok (.iconst 0, 1) := by decide +kernel
theorem d4_25 : decode jdk_43_method_13_code 25 = .ok (.ireturn, 1) := by decide +kernel
theorem d4_26 : decode jdk_43_method_13_code 26 = .ok (.iinc 2 1, 3) := by decide +kernel
theorem d4_29 : decode jdk_43_method_13_code 29 = .ok (.goto (-20), 3) := by decide +kernel
theorem d4_32 : decode jdk_43_method_13_code 32 = .ok (.iconst 1, 1) := by decide +kernel
theorem d4_33 : decode jdk_43_method_13_code 33 = .ok (.ireturn, 1) := by decide +kernel
theorem d4_34 : decode jdk_43_method_13_code 34 = .ok (.iconst 0, 1) := by decide +kernel
theorem d4_35 : decode jdk_43_method_13_code 35 = .ok (.ireturn, 1) := by decide +kernel
theorem pn_4 : plainName "java/lang/StringLatin1" = true := by first | (simp [plainName, overriddenIn]; done) | decide +kernel
theorem pd_4 : parseMethodDescriptor "([B[B)Z" = some ⟨[(.array .byte), (.array .byte)], some .boolean⟩ := by decide +kernel

theorem d3_0 : decode jdk_42_method_66_code 0 = .ok (.aload_n 0, 1) := by decide +kernel
theorem d3_1 : decode jdk_42_method_66_code 1 = .ok (.aload_n 1, 1) := by decide +kernel
theorem d3_2 : decode jdk_42_method_66_code 2 = .ok (.if_acmp .ne 5, 3) := by decide +kernel
theorem d3_5 : decode jdk_42_method_66_code 5 = .ok (.iconst 1, 1) := by decide +kernel
theorem d3_6 : decode jdk_42_method_66_code 6 = .ok (.ireturn, 1) := by decide +kernel
theorem d3_7 : decode jdk_42_method_66_code 7 = .ok (.aload_n 1, 1) := by decide +kernel
theorem d3_8 : decode jdk_42_method_66_code 8 = .ok (.instanceof 10, 3) := by decide +kernel
theorem d3_11 : decode jdk_42_method_66_code 11 = .ok (.ifCond .eq 43, 3) := by decide +kernel
theorem d3_14 : decode jdk_42_method_66_code 14 = .ok (.aload_n 1, 1) := by decide +kernel
theorem d3_15 : decode jdk_42_method_66_code 15 = .ok (.checkcast 10, 3) := by decide +kernel
theorem d3_18 : decode jdk_42_method_66_code 18 = .ok (.astore_n 2, 1) := by decide +kernel
theorem d3_19 : decode jdk_42_method_66_code 19 = .ok (.getstatic 38, 3) := by decide +kernel
theorem d3_22 : decode jdk_42_method_66_code 22 = .ok (.ifCond .eq 14, 3) := by decide +kernel
theorem d3_25 : decode jdk_42_method_66_code 25 = .ok (.aload_n 0, 1) := by decide +kernel
theorem d3_26 : decode jdk_42_method_66_code 26 = .ok (.getfield 15, 3) := by decide +kernel
theorem d3_29 : decode jdk_42_method_66_code 29 = .ok (.aload_n 2, 1) := by decide +kernel
theorem d3_30 : decode jdk_42_method_66_code 30 = .ok (.getfield 15, 3) := by decide +kernel
theorem d3_33 : decode jdk_42_method_66_code 33 = .ok (.if_icmp .ne 21, 3) := by decide +kernel
theorem d3_36 : decode jdk_42_method_66_code 36 = .ok (.aload_n 0, 1) := by decide +kernel
theorem d3_37 : decode jdk_42_method_66_code 37 = .ok (.getfield 9, 3) := by decide +kernel
theorem d3_40 : decode jdk_42_method_66_code 40 = .ok (.aload_n 2, 1) := by decide +kernel
theorem d3_41 : decode jdk_42_method_66_code 41 = .ok (.getfield 9, 3) := by decide +kernel
theorem d3_44 : decode jdk_42_method_66_code 44 = .ok (.invokestatic 541, 3) := by decide +kernel
theorem d3_47 : decode jdk_42_method_66_code 47 = .ok (.ifCond .eq 7, 3) := by decide +kernel
theorem d3_50 : decode jdk_42_method_66_code 50 = .ok (.iconst 1, 1) := by decide +kernel
theorem d3_51 : decode jdk_42_method_66_code 51 = .ok (.goto 4, 3) := by decide +kernel
theorem d3_54 : decode jdk_42_method_66_code 54 = .ok (.iconst 0, 1) := by decide +kernel
theorem d3_55 : decode jdk_42_method_66_code 55 = .ok (.ireturn, 1) := by decide +kernel
theorem pn_3 : plainName "java/lang/String" = true := by first | (simp [plainName, overriddenIn]; done) | decide +kernel
theorem pd_3 : parseMethodDescriptor "(Ljava/lang/Object;)Z" = some ⟨[(.object "java/lang/Object")], some .boolean⟩ := by decide +kernel

theorem pn_0 : plainName "com/example/addressee/addressee/AddressingVersionHasBindingFaultDetailsPinLaw" = true := by first | (simp [plainName, overriddenIn]; done) | decide +kernel
theorem pd_0 : parseMethodDescriptor "(I)Z" = some ⟨[.int], some .boolean⟩ := by decide +kernel

theorem ef_1 (m : MethodId) (x0 : Addr) : entryFrame m #[(.ref x0)] 1 = mkF m 0 #[.val (.ref x0)] [] := by first | (simp [entryFrame, mkF, argsToLocals, Value.category]; done) | rfl

theorem ef_2 (m : MethodId) (x0 : Addr) : entryFrame m #[(.ref x0)] 1 = mkF m 0 #[.val (.ref x0)] [] := by first | (simp [entryFrame, mkF, argsToLocals, Value.category]; done) | rfl

theorem ef_4 (m : MethodId) (x0 : Addr) (x1 : Addr) : entryFrame m #[(.ref x0), (.ref x1)] 3 = mkF m 0 #[.val (.ref x0), .val (.ref x1), .unset] [] := by first | (simp [entryFrame, mkF, argsToLocals, Value.category]; done) | rfl

theorem ef_3 (m : MethodId) (x0 : Addr) (x1 : Addr) : entryFrame m #[(.ref x0), (.ref x1)] 3 = mkF m 0 #[.val (.ref x0), .val (.ref x1), .unset] [] := by first | (simp [entryFrame, mkF, argsToLocals, Value.category]; done) | rfl

theorem ef_0 (m : MethodId) (x0 : Int32) : entryFrame m #[(.int x0)] maxLocals = mkF m 0 #[.val (.int x0), .unset, .unset, .unset, .unset, .unset] [] := by first | (simp [entryFrame, mkF, argsToLocals, Value.category, maxLocals]; done) | rfl

set_option maxRecDepth 65536 in
set_option maxHeartbeats 40000000 in
theorem rm1 (l : Launch) (Z : State) (a0 : Array Value) (hw : ∀ d ∈ tables_1, d.before a0 Z = true) (a1 b1 : Addr) (h0 : Heap) (n0 : Nat) (S1 : Sta Z h0 "com/example/addressee/addressee/AddressingVersion" "V1_0" "Lcom/example/addressee/addressee/AddressingVersion;" (.ref b1)) :
    own_Met l Z h0 (⟨"com/example/addressee/addressee/AddressingVersion", "hasBindingFaultDetails", "()Z"⟩ : MethodName) prog_8_method_20_code 1 (some .boolean) ({ frames := 0, cells := 0, slots := 0, locals := 0 } : Room) #[(.ref a1)] (fun v h L => v = some (.int (if a1 = b1 then (1 : Int32) else 0)) ∧ Fr n0 L ∧ h = h0) := by
  refine own_body pn_1 (fun m => ef_1 m a1) ?_
  intro p e s m below meth c T X hx hby hml hret hlk hown hnm hZ e0
  have hown : s.vm.findClass "com/example/addressee/addressee/AddressingVersion" = some m.cls := hown
  have hml : c.maxLocals = 1 := hml
  have N0 : Fr n0 ([] : List Loc) := Fr.nil n0
  show own_Go p e below _ T (mkF m 0 #[.val (.ref a1)] [])
  refine own_st (fun τ κ => XS.aloadN X.here hx rfl (hb hby d1_0) rfl rfl κ) ?_
  show own_Go p e below _ T (mkF m 1 #[.val (.ref a1)] [(.ref a1)])
  refine own_getS X hx hZ e0 hown (hw _ (List.mem_of_getElem? (i := 8) rfl)) S1 (hb hby d1_1) ?_
  intro T1 X1 e1
  show own_Go p e below _ T1 (mkF m 4 #[.val (.ref a1)] [(.ref b1), (.ref a1)])
  by_cases c4 : a1 = b1
  · refine own_st (fun τ κ => XT.acmpNo X1.here hx rfl (hb hby d1_4) rfl rfl rfl (XT.aa_ne_f (congrArg Value.ref c4)) κ) ?_
    show own_Go p e below _ T1 (mkF m 7 #[.val (.ref a1)] [])
    refine own_st (fun τ κ => XT.iconstV X1.here hx rfl (1) (hb hby d1_7) (by decide) κ) ?_
    show own_Go p e below _ T1 (mkF m 8 #[.val (.ref a1)] [(.int (1 : Int32))])
    refine own_st (fun τ κ => XS.goto X1.here hx rfl (pc0 := 8) (pc' := 12) rfl (hb hby d1_8) (by decide) (by decide) κ) ?_
    show own_Go p e below _ T1 (mkF m 12 #[.val (.ref a1)] [(.int (1 : Int32))])
    refine own_retZ X1 hx hlk hret (by decide) (by decide) (by decide) (hb hby d1_12) ?_
    exact ⟨by rw [if_pos c4], N0, e1⟩
  · refine own_st (fun τ κ => XT.acmpYes X1.here hx rfl (pc0 := 4) (pc' := 11) rfl (hb hby d1_4) rfl rfl rfl (XT.aa_ne_t (fun q => c4 (Value.ref.inj q))) (by decide) (by decide) κ) ?_
    show own_Go p e below _ T1 (mkF m 11 #[.val (.ref a1)] [])
    refine own_st (fun τ κ => XT.iconstV X1.here hx rfl (0) (hb hby d1_11) (by decide) κ) ?_
    show own_Go p e below _ T1 (mkF m 12 #[.val (.ref a1)] [(.int (0 : Int32))])
    refine own_retZ X1 hx hlk hret (by decide) (by decide) (by decide) (hb hby d1_12) ?_
    exact ⟨by rw [if_neg c4], N0, e1⟩

set_option maxRecDepth 65536 in
set_option maxHeartbeats 40000000 in
theorem rm2 (l : Launch) (Z : State) (a0 : Array Value) (hw : ∀ d ∈ tables_1, d.before a0 Z = true) (a1 y1 : Addr) (h0 : Heap) (n0 : Nat) (F1 : Fld Z h0 a1 "com/example/addressee/addressee/AddressingVersion" "label" "Ljava/lang/String;" (.ref y1)) :
    own_Met l Z h0 (⟨"com/example/addressee/addressee/AddressingVersion", "label", "()Ljava/lang/String;"⟩ : MethodName) prog_8_method_4_code 1 (some (.object "java/lang/String")) ({ frames := 0, cells := 0, slots := 0, locals := 0 } : Room) #[(.ref a1)] (fun v h L => v = some (.ref y1) ∧ Fr n0 L ∧ h = h0) := by
  refine own_body pn_2 (fun m => ef_2 m a1) ?_
  intro p e s m below meth c T X hx hby hml hret hlk hown hnm hZ e0
  have hown : s.vm.findClass "com/example/addressee/addressee/AddressingVersion" = some m.cls := hown
  have hml : c.maxLocals = 1 := hml
  have N0 : Fr n0 ([] : List Loc) := Fr.nil n0
  show own_Go p e below _ T (mkF m 0 #[.val (.ref a1)] [])
  refine own_st (fun τ κ => XS.aloadN X.here hx rfl (hb hby d2_0) rfl rfl κ) ?_
  show own_Go p e below _ T (mkF m 1 #[.val (.ref a1)] [(.ref a1)])
  refine own_getF X hx hZ e0 hown (hw _ (List.mem_of_getElem? (i := 14) rfl)) F1 (hb hby d2_1) ?_
  intro T1 X1 e1
  show own_Go p e below _ T1 (mkF m 4 #[.val (.ref a1)] [(.ref y1)])
  refine own_retA X1 hx hlk hret rfl (by decide) (by decide) (hb hby d2_4) ?_
  exact ⟨rfl, N0, e1⟩

set_option maxRecDepth 65536 in
set_option maxHeartbeats 40000000 in
theorem rme1 (l : Launch) (Z : State) (a0 : Array Value) (hw : ∀ d ∈ tables_1, d.before a0 Z = true) (a1 a2 : Addr) (h0 : Heap) (n0 : Nat) (A_a1 : own_BA Z h0 a1 3 own_t1) (A_a2 : own_BA Z h0 a2 3 own_t1) :
    own_Met l Z h0 (⟨"java/lang/StringLatin1", "equals", "([B[B)Z"⟩ : MethodName) jdk_43_method_13_code 3 (some .boolean) ({ frames := 0, cells := 0, slots := 0, locals := 0 } : Room) #[(.ref a1), (.ref a2)] (fun v h L => v = some (.int (1 : Int32)) ∧ Fr n0 L ∧ h = h0) := by
  refine own_body pn_4 (fun m => ef_4 m a1 a2) ?_
  intro p e s m below meth c T X hx hby hml hret hlk hown hnm hZ e0
  have hown : s.vm.findClass "java/lang/StringLatin1" = some m.cls := hown
  have hml : c.maxLocals = 3 := hml
  have N0 : Fr n0 ([] : List Loc) := Fr.nil n0
  show own_Go p e below _ T (mkF m 0 #[.val (.ref a1), .val (.ref a2), .unset] [])
  refine own_st (fun τ κ => XS.aloadN X.here hx rfl (hb hby d4_0) rfl rfl κ) ?_
  show own_Go p e below _ T (mkF m 1 #[.val (.ref a1), .val (.ref a2), .unset] [(.ref a1)])
  refine own_alen X hx hZ e0 A_a1 (z := (3 : Int32)) rfl (hb hby d4_1) ?_
  show own_Go p e below _ T (mkF m 2 #[.val (.ref a1), .val (.ref a2), .unset] [(.int (3 : Int32))])
  refine own_st (fun τ κ => XS.aloadN X.here hx rfl (hb hby d4_2) rfl rfl κ) ?_
  show own_Go p e below _ T (mkF m 3 #[.val (.ref a1), .val (.ref a2), .unset] [(.ref a2), (.int (3 : Int32))])
  refine own_alen X hx hZ e0 A_a2 (z := (3 : Int32)) rfl (hb hby d4_3) ?_
  show own_Go p e below _ T (mkF m 4 #[.val (.ref a1), .val (.ref a2), .unset] [(.int (3 : Int32)), (.int (3 : Int32))])
  refine own_st (fun τ κ => XS.icmpNo X.here hx rfl (hb hby d4_4) rfl (XT.ii_ne_f rfl) κ) ?_
  show own_Go p e below _ T (mkF m 7 #[.val (.ref a1), .val (.ref a2), .unset] [])
  refine own_st (fun τ κ => XT.iconstV X.here hx rfl (0) (hb hby d4_7) (by decide) κ) ?_
  show own_Go p e below _ T (mkF m 8 #[.val (.ref a1), .val (.ref a2), .unset] [(.int (0 : Int32))])
  refine own_st (fun τ κ => XS.istoreN X.here hx rfl (hb hby d4_8) rfl (l' := #[.val (.ref a1), .val (.ref a2), .val (.int (0 : Int32))]) rfl κ) ?_
  show own_Go p e below _ T (mkF m 9 #[.val (.ref a1), .val (.ref a2), .val (.int (0 : Int32))] [])
  refine own_st (fun τ κ => XS.iloadN X.here hx rfl (hb hby d4_9) rfl κ) ?_
  show own_Go p e below _ T (mkF m 10 #[.val (.ref a1), .val (.ref a2), .val (.int (0 : Int32))] [(.int (0 : Int32))])
  refine own_st (fun τ κ => XS.aloadN X.here hx rfl (hb hby d4_10) rfl rfl κ) ?_
  show own_Go p e below _ T (mkF m 11 #[.val (.ref a1), .val (.ref a2), .val (.int (0 : Int32))] [(.ref a1), (.int (0 : Int32))])
  refine own_alen X hx hZ e0 A_a1 (z := (3 : Int32)) rfl (hb hby d4_11) ?_
  show own_Go p e below _ T (mkF m 12 #[.val (.ref a1), .val (.ref a2), .val (.int (0 : Int32))] [(.int (3 : Int32)), (.int (0 : Int32))])
  refine own_st (fun τ κ => XS.icmpNo X.here hx rfl (hb hby d4_12) rfl (XT.ii_ge_f (by decide)) κ) ?_
  show own_Go p e below _ T (mkF m 15 #[.val (.ref a1), .val (.ref a2), .val (.int (0 : Int32))] [])
  refine own_st (fun τ κ => XS.aloadN X.here hx rfl (hb hby d4_15) rfl rfl κ) ?_
  show own_Go p e below _ T (mkF m 16 #[.val (.ref a1), .val (.ref a2), .val (.int (0 : Int32))] [(.ref a1)])
  refine own_st (fun τ κ => XS.iloadN X.here hx rfl (hb hby d4_16) rfl κ) ?_
  show own_Go p e below _ T (mkF m 17 #[.val (.ref a1), .val (.ref a2), .val (.int (0 : Int32))] [(.int (0 : Int32)), (.ref a1)])
  refine own_ldB X hx hZ e0 A_a1 (i := 0) (by decide) (x := (49 : Int32)) rfl (hb hby d4_17) ?_
  show own_Go p e below _ T (mkF m 18 #[.val (.ref a1), .val (.ref a2), .val (.int (0 : Int32))] [(.int (49 : Int32))])
  refine own_st (fun τ κ => XS.aloadN X.here hx rfl (hb hby d4_18) rfl rfl κ) ?_
  show own_Go p e below _ T (mkF m 19 #[.val (.ref a1), .val (.ref a2), .val (.int (0 : Int32))] [(.ref a2), (.int (49 : Int32))])
  refine own_st (fun τ κ => XS.iloadN X.here hx rfl (hb hby d4_19) rfl κ) ?_
  show own_Go p e below _ T (mkF m 20 #[.val (.ref a1), .val (.ref a2), .val (.int (0 : Int32))] [(.int (0 : Int32)), (.ref a2), (.int (49 : Int32))])
  refine own_ldB X hx hZ e0 A_a2 (i := 0) (by decide) (x := (49 : Int32)) rfl (hb hby d4_20) ?_
  show own_Go p e below _ T (mkF m 21 #[.val (.ref a1), .val (.ref a2), .val (.int (0 : Int32))] [(.int (49 : Int32)), (.int (49 : Int32))])
  refine own_st (fun τ κ => XS.icmpYes X.here hx rfl (pc0 := 21) (pc' := 26) rfl (hb hby d4_21) rfl (XT.ii_eq_t rfl) (by decide) (by decide) κ) ?_
  show own_Go p e below _ T (mkF m 26 #[.val (.ref a1), .val (.ref a2), .val (.int (0 : Int32))] [])
  refine own_st (fun τ κ => XT.iincV X.here hx rfl (1) (hb hby d4_26) (by decide) rfl (l' := #[.val (.ref a1), .val (.ref a2), .val (.int ((0 : Int32) + (1 : Int32)))]) rfl κ) ?_
  show own_Go p e below _ T (mkF m 29 #[.val (.ref a1), .val (.ref a2), .val (.int ((0 : Int32) + (1 : Int32)))] [])
  refine own_st (fun τ κ => XS.goto X.here hx rfl (pc0 := 29) (pc' := 9) rfl (hb hby d4_29) (by decide) (by decide) κ) ?_
  show own_Go p e below _ T (mkF m 9 #[.val (.ref a1), .val (.ref a2), .val (.int ((0 : Int32) + (1 : Int32)))] [])
  refine own_st (fun τ κ => XS.iloadN X.here hx rfl (hb hby d4_9) rfl κ) ?_
  show own_Go p e below _ T (mkF m 10 #[.val (.ref a1), .val (.ref a2), .val (.int ((0 : Int32) + (1 : Int32)))] [(.int ((0 : Int32) + (1 : Int32)))])
  refine own_st (fun τ κ => XS.aloadN X.here hx rfl (hb hby d4_10) rfl rfl κ) ?_
  show own_Go p e below _ T (mkF m 11 #[.val (.ref a1), .val (.ref a2), .val (.int ((0 : Int32) + (1 : Int32)))] [(.ref a1), (.int ((0 : Int32) + (1 : Int32)))])
  refine own_alen X hx hZ e0 A_a1 (z := (3 : Int32)) rfl (hb hby d4_11) ?_
  show own_Go p e below _ T (mkF m 12 #[.val (.ref a1), .val (.ref a2), .val (.int ((0 : Int32) + (1 : Int32)))] [(.int (3 : Int32)), (.int ((0 : Int32) + (1 : Int32)))])
  refine own_st (fun τ κ => XS.icmpNo X.here hx rfl (hb hby d4_12) rfl (XT.ii_ge_f (by decide)) κ) ?_
  show own_Go p e below _ T (mkF m 15 #[.val (.ref a1), .val (.ref a2), .val (.int ((0 : Int32) + (1 : Int32)))] [])
  refine own_st (fun τ κ => XS.aloadN X.here hx rfl (hb hby d4_15) rfl rfl κ) ?_
  show own_Go p e below _ T (mkF m 16 #[.val (.ref a1), .val (.ref a2), .val (.int ((0 : Int32) + (1 : Int32)))] [(.ref a1)])
  refine own_st (fun τ κ => XS.iloadN X.here hx rfl (hb hby d4_16) rfl κ) ?_
  show own_Go p e below _ T (mkF m 17 #[.val (.ref a1), .val (.ref a2), .val (.int ((0 : Int32) + (1 : Int32)))] [(.int ((0 : Int32) + (1 : Int32))), (.ref a1)])
  refine own_ldB X hx hZ e0 A_a1 (i := 1) (by decide) (x := (46 : Int32)) rfl (hb hby d4_17) ?_
  show own_Go p e below _ T (mkF m 18 #[.val (.ref a1), .val (.ref a2), .val (.int ((0 : Int32) + (1 : Int32)))] [(.int (46 : Int32))])
  refine own_st (fun τ κ => XS.aloadN X.here hx rfl (hb hby d4_18) rfl rfl κ) ?_
  show own_Go p e below _ T (mkF m 19 #[.val (.ref a1), .val (.ref a2), .val (.int ((0 : Int32) + (1 : Int32)))] [(.ref a2), (.int (46 : Int32))])
  refine own_st (fun τ κ => XS.iloadN X.here hx rfl (hb hby d4_19) rfl κ) ?_
  show own_Go p e below _ T (mkF m 20 #[.val (.ref a1), .val (.ref a2), .val (.int ((0 : Int32) + (1 : Int32)))] [(.int ((0 : Int32) + (1 : Int32))), (.ref a2), (.int (46 : Int32))])
  refine own_ldB X hx hZ e0 A_a2 (i := 1) (by decide) (x := (46 : Int32)) rfl (hb hby d4_20) ?_
  show own_Go p e below _ T (mkF m 21 #[.val (.ref a1), .val (.ref a2), .val (.int ((0 : Int32) + (1 : Int32)))] [(.int (46 : Int32)), (.int (46 : Int32))])
  refine own_st (fun τ κ => XS.icmpYes X.here hx rfl (pc0 := 21) (pc' := 26) rfl (hb hby d4_21) rfl (XT.ii_eq_t rfl) (by decide) (by decide) κ) ?_
  show own_Go p e below _ T (mkF m 26 #[.val (.ref a1), .val (.ref a2), .val (.int ((0 : Int32) + (1 : Int32)))] [])
  refine own_st (fun τ κ => XT.iincV X.here hx rfl (1) (hb hby d4_26) (by decide) rfl (l' := #[.val (.ref a1), .val (.ref a2), .val (.int (((0 : Int32) + (1 : Int32)) + (1 : Int32)))]) rfl κ) ?_
  show own_Go p e below _ T (mkF m 29 #[.val (.ref a1), .val (.ref a2), .val (.int (((0 : Int32) + (1 : Int32)) + (1 : Int32)))] [])
  refine own_st (fun τ κ => XS.goto X.here hx rfl (pc0 := 29) (pc' := 9) rfl (hb hby d4_29) (by decide) (by decide) κ) ?_
  show own_Go p e below _ T (mkF m 9 #[.val (.ref a1), .val (.ref a2), .val (.int (((0 : Int32) + (1 : Int32)) + (1 : Int32)))] [])
  refine own_st (fun τ κ => XS.iloadN X.here hx rfl (hb hby d4_9) rfl κ) ?_
  show own_Go p e below _ T (mkF m 10 #[.val (.ref a1), .val (.ref a2), .val (.int (((0 : Int32) + (1 : Int32)) + (1 : Int32)))] [(.int (((0 : Int32) + (1 : Int32)) + (1 : Int32)))])
  refine own_st (fun τ κ => XS.aloadN X.here hx rfl (hb hby d4_10) rfl rfl κ) ?_
  show own_Go p e below _ T (mkF m 11 #[.val (.ref a1), .val (.ref a2), .val (.int (((0 : Int32) + (1 : Int32)) + (1 : Int32)))] [(.ref a1), (.int (((0 : Int32) + (1 : Int32)) + (1 : Int32)))])
  refine own_alen X hx hZ e0 A_a1 (z := (3 : Int32)) rfl (hb hby d4_11) ?_
  show own_Go p e below _ T (mkF m 12 #[.val (.ref a1), .val (.ref a2), .val (.int (((0 : Int32) + (1 : Int32)) + (1 : Int32)))] [(.int (3 : Int32)), (.int (((0 : Int32) + (1 : Int32)) + (1 : Int32)))])
  refine own_st (fun τ κ => XS.icmpNo X.here hx rfl (hb hby d4_12) rfl (XT.ii_ge_f (by decide)) κ) ?_
  show own_Go p e below _ T (mkF m 15 #[.val (.ref a1), .val (.ref a2), .val (.int (((0 : Int32) + (1 : Int32)) + (1 : Int32)))] [])
  refine own_st (fun τ κ => XS.aloadN X.here hx rfl (hb hby d4_15) rfl rfl κ) ?_
  show own_Go p e below _ T (mkF m 16 #[.val (.ref a1), .val (.ref a2), .val (.int (((0 : Int32) + (1 : Int32)) + (1 : Int32)))] [(.ref a1)])
  refine own_st (fun τ κ => XS.iloadN X.here hx rfl (hb hby d4_16) rfl κ) ?_
  show own_Go p e below _ T (mkF m 17 #[.val (.ref a1), .val (.ref a2), .val (.int (((0 : Int32) + (1 : Int32)) + (1 : Int32)))] [(.int (((0 : Int32) + (1 : Int32)) + (1 : Int32))), (.ref a1)])
  refine own_ldB X hx hZ e0 A_a1 (i := 2) (by decide) (x := (48 : Int32)) rfl (hb hby d4_17) ?_
  show own_Go p e below _ T (mkF m 18 #[.val (.ref a1), .val (.ref a2), .val (.int (((0 : Int32) + (1 : Int32)) + (1 : Int32)))] [(.int (48 : Int32))])
  refine own_st (fun τ κ => XS.aloadN X.here hx rfl (hb hby d4_18) rfl rfl κ) ?_
  show own_Go p e below _ T (mkF m 19 #[.val (.ref a1), .val (.ref a2), .val (.int (((0 : Int32) + (1 : Int32)) + (1 : Int32)))] [(.ref a2), (.int (48 : Int32))])
  refine own_st (fun τ κ => XS.iloadN X.here hx rfl (hb hby d4_19) rfl κ) ?_
  show own_Go p e below _ T (mkF m 20 #[.val (.ref a1), .val (.ref a2), .val (.int (((0 : Int32) + (1 : Int32)) + (1 : Int32)))] [(.int (((0 : Int32) + (1 : Int32)) + (1 : Int32))), (.ref a2), (.int (48 : Int32))])
  refine own_ldB X hx hZ e0 A_a2 (i := 2) (by decide) (x := (48 : Int32)) rfl (hb hby d4_20) ?_
  show own_Go p e below _ T (mkF m 21 #[.val (.ref a1), .val (.ref a2), .val (.int (((0 : Int32) + (1 : Int32)) + (1 : Int32)))] [(.int (48 : Int32)), (.int (48 : Int32))])
  refine own_st (fun τ κ => XS.icmpYes X.here hx rfl (pc0 := 21) (pc' := 26) rfl (hb hby d4_21) rfl (XT.ii_eq_t rfl) (by decide) (by decide) κ) ?_
  show own_Go p e below _ T (mkF m 26 #[.val (.ref a1), .val (.ref a2), .val (.int (((0 : Int32) + (1 : Int32)) + (1 : Int32)))] [])
  refine own_st (fun τ κ => XT.iincV X.here hx rfl (1) (hb hby d4_26) (by decide) rfl (l' := #[.val (.ref a1), .val (.ref a2), .val (.int ((((0 : Int32) + (1 : Int32)) + (1 : Int32)) + (1 : Int32)))]) rfl κ) ?_
  show own_Go p e below _ T (mkF m 29 #[.val (.ref a1), .val (.ref a2), .val (.int ((((0 : Int32) + (1 : Int32)) + (1 : Int32)) + (1 : Int32)))] [])
  refine own_st (fun τ κ => XS.goto X.here hx rfl (pc0 := 29) (pc' := 9) rfl (hb hby d4_29) (by decide) (by decide) κ) ?_
  show own_Go p e below _ T (mkF m 9 #[.val (.ref a1), .val (.ref a2), .val (.int ((((0 : Int32) + (1 : Int32)) + (1 : Int32)) + (1 : Int32)))] [])
  refine own_st (fun τ κ => XS.iloadN X.here hx rfl (hb hby d4_9) rfl κ) ?_
  show own_Go p e below _ T (mkF m 10 #[.val (.ref a1), .val (.ref a2), .val (.int ((((0 : Int32) + (1 : Int32)) + (1 : Int32)) + (1 : Int32)))] [(.int ((((0 : Int32) + (1 : Int32)) + (1 : Int32)) + (1 : Int32)))])
  refine own_st (fun τ κ => XS.aloadN X.here hx rfl (hb hby d4_10) rfl rfl κ) ?_
  show own_Go p e below _ T (mkF m 11 #[.val (.ref a1), .val (.ref a2), .val (.int ((((0 : Int32) + (1 : Int32)) + (1 : Int32)) + (1 : Int32)))] [(.ref a1), (.int ((((0 : Int32) + (1 : Int32)) + (1 : Int32)) + (1 : Int32)))])
  refine own_alen X hx hZ e0 A_a1 (z := (3 : Int32)) rfl (hb hby d4_11) ?_
  show own_Go p e below _ T (mkF m 12 #[.val (.ref a1), .val (.ref a2), .val (.int ((((0 : Int32) + (1 : Int32)) + (1 : Int32)) + (1 : Int32)))] [(.int (3 : Int32)), (.int ((((0 : Int32) + (1 : Int32)) + (1 : Int32)) + (1 : Int32)))])
  refine own_st (fun τ κ => XS.icmpYes X.here hx rfl (pc0 := 12) (pc' := 32) rfl (hb hby d4_12) rfl (XT.ii_ge_t (by decide)) (by decide) (by decide) κ) ?_
  show own_Go p e below _ T (mkF m 32 #[.val (.ref a1), .val (.ref a2), .val (.int ((((0 : Int32) + (1 : Int32)) + (1 : Int32)) + (1 : Int32)))] [])
  refine own_st (fun τ κ => XT.iconstV X.here hx rfl (1) (hb hby d4_32) (by decide) κ) ?_
  show own_Go p e below _ T (mkF m 33 #[.val (.ref a1), .val (.ref a2), .val (.int ((((0 : Int32) + (1 : Int32)) + (1 : Int32)) + (1 : Int32)))] [(.int (1 : Int32))])
  refine own_retZ X hx hlk hret (by decide) (by decide) (by decide) (hb hby d4_33) ?_
  exact ⟨rfl, N0, e0⟩

set_option maxRecDepth 65536 in
set_option maxHeartbeats 40000000 in
theorem rme0 (l : Launch) (Z : State) (a0 : Array Value) (hw : ∀ d ∈ tables_1, d.before a0 Z = true) (a1 a2 : Addr) (h0 : Heap) (n0 : Nat) (A_a1 : own_BA Z h0 a1 7 own_t2) (A_a2 : own_BA Z h0 a2 3 own_t1) :
    own_Met l Z h0 (⟨"java/lang/StringLatin1", "equals", "([B[B)Z"⟩ : MethodName) jdk_43_method_13_code 3 (some .boolean) ({ frames := 0, cells := 0, slots := 0, locals := 0 } : Room) #[(.ref a1), (.ref a2)] (fun v h L => v = some (.int (0 : Int32)) ∧ Fr n0 L ∧ h = h0) := by
  refine own_body pn_4 (fun m => ef_4 m a1 a2) ?_
  intro p e s m below meth c T X hx hby hml hret hlk hown hnm hZ e0
  have hown : s.vm.findClass "java/lang/StringLatin1" = some m.cls := hown
  have hml : c.maxLocals = 3 := hml
  have N0 : Fr n0 ([] : List Loc) := Fr.nil n0
  show own_Go p e below _ T (mkF m 0 #[.val (.ref a1), .val (.ref a2), .unset] [])
  refine own_st (fun τ κ => XS.aloadN X.here hx rfl (hb hby d4_0) rfl rfl κ) ?_
  show own_Go p e below _ T (mkF m 1 #[.val (.ref a1), .val (.ref a2), .unset] [(.ref a1)])
  refine own_alen X hx hZ e0 A_a1 (z := (7 : Int32)) rfl (hb hby d4_1) ?_
  show own_Go p e below _ T (mkF m 2 #[.val (.ref a1), .val (.ref a2), .unset] [(.int (7 : Int32))])
  refine own_st (fun τ κ => XS.aloadN X.here hx rfl (hb hby d4_2) rfl rfl κ) ?_
  show own_Go p e below _ T (mkF m 3 #[.val (.ref a1), .val (.ref a2), .unset] [(.ref a2), (.int (7 : Int32))])
  refine own_alen X hx hZ e0 A_a2 (z := (3 : Int32)) rfl (hb hby d4_3) ?_
  show own_Go p e below _ T (mkF m 4 #[.val (.ref a1), .val (.ref a2), .unset] [(.int (3 : Int32)), (.int (7 : Int32))])
  refine own_st (fun τ κ => XS.icmpYes X.here hx rfl (pc0 := 4) (pc' := 34) rfl (hb hby d4_4) rfl (XT.ii_ne_t (by decide)) (by decide) (by decide) κ) ?_
  show own_Go p e below _ T (mkF m 34 #[.val (.ref a1), .val (.ref a2), .unset] [])
  refine own_st (fun τ κ => XT.iconstV X.here hx rfl (0) (hb hby d4_34) (by decide) κ) ?_
  show own_Go p e below _ T (mkF m 35 #[.val (.ref a1), .val (.ref a2), .unset] [(.int (0 : Int32))])
  refine own_retZ X hx hlk hret (by decide) (by decide) (by decide) (hb hby d4_35) ?_
  exact ⟨rfl, N0, e0⟩

set_option maxRecDepth 65536 in
set_option maxHeartbeats 40000000 in
theorem rmq1 (l : Launch) (Z : State) (a0 : Array Value) (hw : ∀ d ∈ tables_1, d.before a0 Z = true) (a1 a2 b1 b2 : Addr) (cs : Int32) (hcs : ¬ cs = (0 : Int32)) (h0 : Heap) (n0 : Nat) (E2 : Exa Z h0 a2 "java/lang/String") (S1 : Sta Z h0 "java/lang/String" "COMPACT_STRINGS" "Z" (.int cs)) (C1 : Fld Z h0 a1 "java/lang/String" "coder" "B" (.int (0 : Int32))) (C2 : Fld Z h0 a2 "java/lang/String" "coder" "B" (.int (0 : Int32))) (V1 : Fld Z h0 a1 "java/lang/String" "value" "[B" (.ref b1)) (V2 : Fld Z h0 a2 "java/lang/String" "value" "[B" (.ref b2)) (B1 : own_BA Z h0 b1 3 own_t1) (B2 : own_BA Z h0 b2 3 own_t1) :
    own_Met l Z h0 (⟨"java/lang/String", "equals", "(Ljava/lang/Object;)Z"⟩ : MethodName) jdk_42_method_66_code 3 (some .boolean) ({ frames := 1, cells := 0, slots := 0, locals := 14 } : Room) #[(.ref a1), (.ref a2)] (fun v h L => v = some (.int (1 : Int32)) ∧ Fr n0 L ∧ h = h0) := by
  refine own_body pn_3 (fun m => ef_3 m a1 a2) ?_
  intro p e s m below meth c T X hx hby hml hret hlk hown hnm hZ e0
  have hown : s.vm.findClass "java/lang/String" = some m.cls := hown
  have hml : c.maxLocals = 3 := hml
  have N0 : Fr n0 ([] : List Loc) := Fr.nil n0
  show own_Go p e below _ T (mkF m 0 #[.val (.ref a1), .val (.ref a2), .unset] [])
  refine own_st (fun τ κ => XS.aloadN X.here hx rfl (hb hby d3_0) rfl rfl κ) ?_
  show own_Go p e below _ T (mkF m 1 #[.val (.ref a1), .val (.ref a2), .unset] [(.ref a1)])
  refine own_st (fun τ κ => XS.aloadN X.here hx rfl (hb hby d3_1) rfl rfl κ) ?_
  show own_Go p e below _ T (mkF m 2 #[.val (.ref a1), .val (.ref a2), .unset] [(.ref a2), (.ref a1)])
  by_cases c2 : a1 = a2
  · refine own_st (fun τ κ => XT.acmpNo X.here hx rfl (hb hby d3_2) rfl rfl rfl (XT.aa_ne_f (congrArg Value.ref c2)) κ) ?_
    show own_Go p e below _ T (mkF m 5 #[.val (.ref a1), .val (.ref a2), .unset] [])
    refine own_st (fun τ κ => XT.iconstV X.here hx rfl (1) (hb hby d3_5) (by decide) κ) ?_
    show own_Go p e below _ T (mkF m 6 #[.val (.ref a1), .val (.ref a2), .unset] [(.int (1 : Int32))])
    refine own_retZ X hx hlk hret (by decide) (by decide) (by decide) (hb hby d3_6) ?_
    exact ⟨rfl, N0, e0⟩
  · refine own_st (fun τ κ => XT.acmpYes X.here hx rfl (pc0 := 2) (pc' := 7) rfl (hb hby d3_2) rfl rfl rfl (XT.aa_ne_t (fun q => c2 (Value.ref.inj q))) (by decide) (by decide) κ) ?_
    show own_Go p e below _ T (mkF m 7 #[.val (.ref a1), .val (.ref a2), .unset] [])
    refine own_st (fun τ κ => XS.aloadN X.here hx rfl (hb hby d3_7) rfl rfl κ) ?_
    show own_Go p e below _ T (mkF m 8 #[.val (.ref a1), .val (.ref a2), .unset] [(.ref a2)])
    refine own_inst X hx hZ e0 hown (hw _ (List.mem_of_getElem? (i := 29) rfl)) (Ins.self E2) (hb hby d3_8) ?_
    intro T1 X1 e1
    show own_Go p e below _ T1 (mkF m 11 #[.val (.ref a1), .val (.ref a2), .unset] [(.int (1 : Int32))])
    refine own_st (fun τ κ => XS.ifNo X1.here hx rfl (hb hby d3_11) rfl (XT.i0_eq_f (by decide)) κ) ?_
    show own_Go p e below _ T1 (mkF m 14 #[.val (.ref a1), .val (.ref a2), .unset] [])
    refine own_st (fun τ κ => XS.aloadN X1.here hx rfl (hb hby d3_14) rfl rfl κ) ?_
    show own_Go p e below _ T1 (mkF m 15 #[.val (.ref a1), .val (.ref a2), .unset] [(.ref a2)])
    refine own_cast X1 hx hZ e1 hown (hw _ (List.mem_of_getElem? (i := 29) rfl)) (Ins.self E2) (hb hby d3_15) ?_
    intro T2 X2 e2
    show own_Go p e below _ T2 (mkF m 18 #[.val (.ref a1), .val (.ref a2), .unset] [(.ref a2)])
    refine own_st (fun τ κ => XS.astoreN X2.here hx rfl (hb hby d3_18) rfl rfl (l' := #[.val (.ref a1), .val (.ref a2), .val (.ref a2)]) rfl κ) ?_
    show own_Go p e below _ T2 (mkF m 19 #[.val (.ref a1), .val (.ref a2), .val (.ref a2)] [])
    refine own_getS X2 hx hZ e2 hown (hw _ (List.mem_of_getElem? (i := 31) rfl)) S1 (hb hby d3_19) ?_
    intro T3 X3 e3
    show own_Go p e below _ T3 (mkF m 22 #[.val (.ref a1), .val (.ref a2), .val (.ref a2)] [(.int cs)])
    refine own_st (fun τ κ => XS.ifNo X3.here hx rfl (hb hby d3_22) rfl (XT.i0_eq_f hcs) κ) ?_
    show own_Go p e below _ T3 (mkF m 25 #[.val (.ref a1), .val (.ref a2), .val (.ref a2)] [])
    refine own_st (fun τ κ => XS.aloadN X3.here hx rfl (hb hby d3_25) rfl rfl κ) ?_
    show own_Go p e below _ T3 (mkF m 26 #[.val (.ref a1), .val (.ref a2), .val (.ref a2)] [(.ref a1)])
    refine own_getF X3 hx hZ e3 hown (hw _ (List.mem_of_getElem? (i := 32) rfl)) C1 (hb hby d3_26) ?_
    intro T4 X4 e4
    show own_Go p e below _ T4 (mkF m 29 #[.val (.ref a1), .val (.ref a2), .val (.ref a2)] [(.int (0 : Int32))])
    refine own_st (fun τ κ => XS.aloadN X4.here hx rfl (hb hby d3_29) rfl rfl κ) ?_
    show own_Go p e below _ T4 (mkF m 30 #[.val (.ref a1), .val (.ref a2), .val (.ref a2)] [(.ref a2), (.int (0 : Int32))])
    refine own_getF X4 hx hZ e4 hown (hw _ (List.mem_of_getElem? (i := 32) rfl)) C2 (hb hby d3_30) ?_
    intro T5 X5 e5
    show own_Go p e below _ T5 (mkF m 33 #[.val (.ref a1), .val (.ref a2), .val (.ref a2)] [(.int (0 : Int32)), (.int (0 : Int32))])
    refine own_st (fun τ κ => XS.icmpNo X5.here hx rfl (hb hby d3_33) rfl (XT.ii_ne_f rfl) κ) ?_
    show own_Go p e below _ T5 (mkF m 36 #[.val (.ref a1), .val (.ref a2), .val (.ref a2)] [])
    refine own_st (fun τ κ => XS.aloadN X5.here hx rfl (hb hby d3_36) rfl rfl κ) ?_
    show own_Go p e below _ T5 (mkF m 37 #[.val (.ref a1), .val (.ref a2), .val (.ref a2)] [(.ref a1)])
    refine own_getF X5 hx hZ e5 hown (hw _ (List.mem_of_getElem? (i := 33) rfl)) V1 (hb hby d3_37) ?_
    intro T6 X6 e6
    show own_Go p e below _ T6 (mkF m 40 #[.val (.ref a1), .val (.ref a2), .val (.ref a2)] [(.ref b1)])
    refine own_st (fun τ κ => XS.aloadN X6.here hx rfl (hb hby d3_40) rfl rfl κ) ?_
    show own_Go p e below _ T6 (mkF m 41 #[.val (.ref a1), .val (.ref a2), .val (.ref a2)] [(.ref a2), (.ref b1)])
    refine own_getF X6 hx hZ e6 hown (hw _ (List.mem_of_getElem? (i := 33) rfl)) V2 (hb hby d3_41) ?_
    intro T7 X7 e7
    show own_Go p e below _ T7 (mkF m 44 #[.val (.ref a1), .val (.ref a2), .val (.ref a2)] [(.ref b2), (.ref b1)])
    refine own_callS X7 hx hZ e7 hown (hw _ (List.mem_of_getElem? (i := 34) rfl)) (hw _ (List.mem_of_getElem? (i := 35) rfl)) (hw _ (List.mem_of_getElem? (i := 36) rfl)) (hw _ (List.mem_of_getElem? (i := 37) rfl)) (by decide) pd_4 (argsL := [(.ref b1), (.ref b2)]) rfl (rme1 l Z a0 hw b1 b2 h0 n0 B1 B2) 0 (by decide) (by decide) (by decide) (by decide) (rest := []) rfl (by rw [hml]; rfl) (Nat.le_of_eq rfl) (hb hby d3_44) ?_
    intro v8 T8 L8 hQ8 X8
    obtain ⟨rfl, Nq8, e8⟩ := hQ8
    have N8 := Fr.app N0 Nq8
    show own_Go p e below _ T8 (mkF m 47 #[.val (.ref a1), .val (.ref a2), .val (.ref a2)] [(.int (1 : Int32))])
    refine own_st (fun τ κ => XS.ifNo X8.here hx rfl (hb hby d3_47) rfl (XT.i0_eq_f (by decide)) κ) ?_
    show own_Go p e below _ T8 (mkF m 50 #[.val (.ref a1), .val (.ref a2), .val (.ref a2)] [])
    refine own_st (fun τ κ => XT.iconstV X8.here hx rfl (1) (hb hby d3_50) (by decide) κ) ?_
    show own_Go p e below _ T8 (mkF m 51 #[.val (.ref a1), .val (.ref a2), .val (.ref a2)] [(.int (1 : Int32))])
    refine own_st (fun τ κ => XS.goto X8.here hx rfl (pc0 := 51) (pc' := 55) rfl (hb hby d3_51) (by decide) (by decide) κ) ?_
    show own_Go p e below _ T8 (mkF m 55 #[.val (.ref a1), .val (.ref a2), .val (.ref a2)] [(.int (1 : Int32))])
    refine own_retZ X8 hx hlk hret (by decide) (by decide) (by decide) (hb hby d3_55) ?_
    exact ⟨rfl, N8, e8⟩

set_option maxRecDepth 65536 in
set_option maxHeartbeats 40000000 in
theorem rmq0 (l : Launch) (Z : State) (a0 : Array Value) (hw : ∀ d ∈ tables_1, d.before a0 Z = true) (a1 a2 b1 b2 : Addr) (cs : Int32) (hcs : ¬ cs = (0 : Int32)) (h0 : Heap) (n0 : Nat) (c2 : ¬ a1 = a2) (E2 : Exa Z h0 a2 "java/lang/String") (S1 : Sta Z h0 "java/lang/String" "COMPACT_STRINGS" "Z" (.int cs)) (C1 : Fld Z h0 a1 "java/lang/String" "coder" "B" (.int (0 : Int32))) (C2 : Fld Z h0 a2 "java/lang/String" "coder" "B" (.int (0 : Int32))) (V1 : Fld Z h0 a1 "java/lang/String" "value" "[B" (.ref b1)) (V2 : Fld Z h0 a2 "java/lang/String" "value" "[B" (.ref b2)) (B1 : own_BA Z h0 b1 7 own_t2) (B2 : own_BA Z h0 b2 3 own_t1) :
    own_Met l Z h0 (⟨"java/lang/String", "equals", "(Ljava/lang/Object;)Z"⟩ : MethodName) jdk_42_method_66_code 3 (some .boolean) ({ frames := 1, cells := 0, slots := 0, locals := 14 } : Room) #[(.ref a1), (.ref a2)] (fun v h L => v = some (.int (0 : Int32)) ∧ Fr n0 L ∧ h = h0) := by
  refine own_body pn_3 (fun m => ef_3 m a1 a2) ?_
  intro p e s m below meth c T X hx hby hml hret hlk hown hnm hZ e0
  have hown : s.vm.findClass "java/lang/String" = some m.cls := hown
  have hml : c.maxLocals = 3 := hml
  have N0 : Fr n0 ([] : List Loc) := Fr.nil n0
  show own_Go p e below _ T (mkF m 0 #[.val (.ref a1), .val (.ref a2), .unset] [])
  refine own_st (fun τ κ => XS.aloadN X.here hx rfl (hb hby d3_0) rfl rfl κ) ?_
  show own_Go p e below _ T (mkF m 1 #[.val (.ref a1), .val (.ref a2), .unset] [(.ref a1)])
  refine own_st (fun τ κ => XS.aloadN X.here hx rfl (hb hby d3_1) rfl rfl κ) ?_
  show own_Go p e below _ T (mkF m 2 #[.val (.ref a1), .val (.ref a2), .unset] [(.ref a2), (.ref a1)])
  refine own_st (fun τ κ => XT.acmpYes X.here hx rfl (pc0 := 2) (pc' := 7) rfl (hb hby d3_2) rfl rfl rfl (XT.aa_ne_t (fun q => c2 (Value.ref.inj q))) (by decide) (by decide) κ) ?_
  show own_Go p e below _ T (mkF m 7 #[.val (.ref a1), .val (.ref a2), .unset] [])
  refine own_st (fun τ κ => XS.aloadN X.here hx rfl (hb hby d3_7) rfl rfl κ) ?_
  show own_Go p e below _ T (mkF m 8 #[.val (.ref a1), .val (.ref a2), .unset] [(.ref a2)])
  refine own_inst X hx hZ e0 hown (hw _ (List.mem_of_getElem? (i := 29) rfl)) (Ins.self E2) (hb hby d3_8) ?_
  intro T1 X1 e1
  show own_Go p e below _ T1 (mkF m 11 #[.val (.ref a1), .val (.ref a2), .unset] [(.int (1 : Int32))])
  refine own_st (fun τ κ => XS.ifNo X1.here hx rfl (hb hby d3_11) rfl (XT.i0_eq_f (by decide)) κ) ?_
  show own_Go p e below _ T1 (mkF m 14 #[.val (.ref a1), .val (.ref a2), .unset] [])
  refine own_st (fun τ κ => XS.aloadN X1.here hx rfl (hb hby d3_14) rfl rfl κ) ?_
  show own_Go p e below _ T1 (mkF m 15 #[.val (.ref a1), .val (.ref a2), .unset] [(.ref a2)])
  refine own_cast X1 hx hZ e1 hown (hw _ (List.mem_of_getElem? (i := 29) rfl)) (Ins.self E2) (hb hby d3_15) ?_
  intro T2 X2 e2
  show own_Go p e below _ T2 (mkF m 18 #[.val (.ref a1), .val (.ref a2), .unset] [(.ref a2)])
  refine own_st (fun τ κ => XS.astoreN X2.here hx rfl (hb hby d3_18) rfl rfl (l' := #[.val (.ref a1), .val (.ref a2), .val (.ref a2)]) rfl κ) ?_
  show own_Go p e below _ T2 (mkF m 19 #[.val (.ref a1), .val (.ref a2), .val (.ref a2)] [])
  refine own_getS X2 hx hZ e2 hown (hw _ (List.mem_of_getElem? (i := 31) rfl)) S1 (hb hby d3_19) ?_
  intro T3 X3 e3
  show own_Go p e below _ T3 (mkF m 22 #[.val (.ref a1), .val (.ref a2), .val (.ref a2)] [(.int cs)])
  refine own_st (fun τ κ => XS.ifNo X3.here hx rfl (hb hby d3_22) rfl (XT.i0_eq_f hcs) κ) ?_
  show own_Go p e below _ T3 (mkF m 25 #[.val (.ref a1), .val (.ref a2), .val (.ref a2)] [])
  refine own_st (fun τ κ => XS.aloadN X3.here hx rfl (hb hby d3_25) rfl rfl κ) ?_
  show own_Go p e below _ T3 (mkF m 26 #[.val (.ref a1), .val (.ref a2), .val (.ref a2)] [(.ref a1)])
  refine own_getF X3 hx hZ e3 hown (hw _ (List.mem_of_getElem? (i := 32) rfl)) C1 (hb hby d3_26) ?_
  intro T4 X4 e4
  show own_Go p e below _ T4 (mkF m 29 #[.val (.ref a1), .val (.ref a2), .val (.ref a2)] [(.int (0 : Int32))])
  refine own_st (fun τ κ => XS.aloadN X4.here hx rfl (hb hby d3_29) rfl rfl κ) ?_
  show own_Go p e below _ T4 (mkF m 30 #[.val (.ref a1), .val (.ref a2), .val (.ref a2)] [(.ref a2), (.int (0 : Int32))])
  refine own_getF X4 hx hZ e4 hown (hw _ (List.mem_of_getElem? (i := 32) rfl)) C2 (hb hby d3_30) ?_
  intro T5 X5 e5
  show own_Go p e below _ T5 (mkF m 33 #[.val (.ref a1), .val (.ref a2), .val (.ref a2)] [(.int (0 : Int32)), (.int (0 : Int32))])
  refine own_st (fun τ κ => XS.icmpNo X5.here hx rfl (hb hby d3_33) rfl (XT.ii_ne_f rfl) κ) ?_
  show own_Go p e below _ T5 (mkF m 36 #[.val (.ref a1), .val (.ref a2), .val (.ref a2)] [])
  refine own_st (fun τ κ => XS.aloadN X5.here hx rfl (hb hby d3_36) rfl rfl κ) ?_
  show own_Go p e below _ T5 (mkF m 37 #[.val (.ref a1), .val (.ref a2), .val (.ref a2)] [(.ref a1)])
  refine own_getF X5 hx hZ e5 hown (hw _ (List.mem_of_getElem? (i := 33) rfl)) V1 (hb hby d3_37) ?_
  intro T6 X6 e6
  show own_Go p e below _ T6 (mkF m 40 #[.val (.ref a1), .val (.ref a2), .val (.ref a2)] [(.ref b1)])
  refine own_st (fun τ κ => XS.aloadN X6.here hx rfl (hb hby d3_40) rfl rfl κ) ?_
  show own_Go p e below _ T6 (mkF m 41 #[.val (.ref a1), .val (.ref a2), .val (.ref a2)] [(.ref a2), (.ref b1)])
  refine own_getF X6 hx hZ e6 hown (hw _ (List.mem_of_getElem? (i := 33) rfl)) V2 (hb hby d3_41) ?_
  intro T7 X7 e7
  show own_Go p e below _ T7 (mkF m 44 #[.val (.ref a1), .val (.ref a2), .val (.ref a2)] [(.ref b2), (.ref b1)])
  refine own_callS X7 hx hZ e7 hown (hw _ (List.mem_of_getElem? (i := 34) rfl)) (hw _ (List.mem_of_getElem? (i := 35) rfl)) (hw _ (List.mem_of_getElem? (i := 36) rfl)) (hw _ (List.mem_of_getElem? (i := 37) rfl)) (by decide) pd_4 (argsL := [(.ref b1), (.ref b2)]) rfl (rme0 l Z a0 hw b1 b2 h0 n0 B1 B2) 0 (by decide) (by decide) (by decide) (by decide) (rest := []) rfl (by rw [hml]; rfl) (Nat.le_of_eq rfl) (hb hby d3_44) ?_
  intro v8 T8 L8 hQ8 X8
  obtain ⟨rfl, Nq8, e8⟩ := hQ8
  have N8 := Fr.app N0 Nq8
  show own_Go p e below _ T8 (mkF m 47 #[.val (.ref a1), .val (.ref a2), .val (.ref a2)] [(.int (0 : Int32))])
  refine own_st (fun τ κ => XS.ifYes X8.here hx rfl (pc0 := 47) (pc' := 54) rfl (hb hby d3_47) rfl (XT.i0_eq_t (by decide)) (by decide) (by decide) κ) ?_
  show own_Go p e below _ T8 (mkF m 54 #[.val (.ref a1), .val (.ref a2), .val (.ref a2)] [])
  refine own_st (fun τ κ => XT.iconstV X8.here hx rfl (0) (hb hby d3_54) (by decide) κ) ?_
  show own_Go p e below _ T8 (mkF m 55 #[.val (.ref a1), .val (.ref a2), .val (.ref a2)] [(.int (0 : Int32))])
  refine own_retZ X8 hx hlk hret (by decide) (by decide) (by decide) (hb hby d3_55) ?_
  exact ⟨rfl, N8, e8⟩

/-- what the case says of the start, in plain words -/
def own_Case (s : State) (a0 : Array Value) : Prop := (∀ d ∈ tables_1, d.before a0 s = true) ∧ (∀ d ∈ Bundle.stringAtoms, d.before a0 s = true) ∧ Jvm.Lit.constHeld s "com/example/addressee/addressee/AddressingVersionHasBindingFaultDetailsPinLaw" 24 ∧ Jvm.Lit.compactW.before a0 s = true ∧ ∃ (cs : Int32) (a1 a2 y1 y2 b1 b2 : Addr), ¬ cs = (0 : Int32) ∧ ¬ a2 = a1 ∧ Sta s s.heap "com/example/addressee/addressee/AddressingVersion" "V1_0" "Lcom/example/addressee/addressee/AddressingVersion;" (.ref a1) ∧ Sta s s.heap "com/example/addressee/addressee/AddressingVersion" "V2004_08" "Lcom/example/addressee/addressee/AddressingVersion;" (.ref a2) ∧ Sta s s.heap "java/lang/String" "COMPACT_STRINGS" "Z" (.int cs) ∧ Exa s s.heap a1 "com/example/addressee/addressee/AddressingVersion" ∧ Exa s s.heap a2 "com/example/addressee/addressee/AddressingVersion" ∧ Fld s s.heap a1 "com/example/addressee/addressee/AddressingVersion" "label" "Ljava/lang/String;" (.ref y1) ∧ Fld s s.heap a2 "com/example/addressee/addressee/AddressingVersion" "label" "Ljava/lang/String;" (.ref y2) ∧ Exa s s.heap y1 "java/lang/String" ∧ Exa s s.heap y2 "java/lang/String" ∧ Fld s s.heap y1 "java/lang/String" "coder" "B" (.int (0 : Int32)) ∧ Fld s s.heap y2 "java/lang/String" "coder" "B" (.int (0 : Int32)) ∧ Fld s s.heap y1 "java/lang/String" "value" "[B" (.ref b1) ∧ Fld s s.heap y2 "java/lang/String" "value" "[B" (.ref b2) ∧ own_BA s s.heap b1 3 own_t1 ∧ own_BA s s.heap b2 7 own_t2

set_option maxRecDepth 65536 in
set_option maxHeartbeats 40000000 in
theorem rm0 (l : Launch) (p1 : Int32) : MetFree l x (head1 (Jvm.Cond.code x code maxLocals ret :: tables_1) room_1) (fun a U => a = #[(.int p1)] ∧ own_Case U #[(.int p1)]) (fun _ _ _ _ _ => True) (fun _ U o U' => own_PW U 8 1088 U' o) := by
  refine MetFree.of_bodySF (plainFor_of_name pn_0) hisR ?_
  intro p e s m args below meth c T Bd hml0 hP hK
  obtain ⟨rfl, hw, hstr, hheld, hcw, cs, a1, a2, y1, y2, b1, b2, hcs, hne, S1, S2, SC, E1, E2, F1, F2, EY1, EY2, C1, C2, V1, V2, B1, B2⟩ := hP
  have hx := Bd.exec
  have hby := Bd.bytes
  have hml : c.maxLocals = 6 := hml0
  have hret : meth.sig.returnType = some .boolean := Bd.returns
  have hlk := BodyLoose.notSynchronized Bd
  have hown : s.vm.findClass "com/example/addressee/addressee/AddressingVersionHasBindingFaultDetailsPinLaw" = some m.cls := findClass_of_methodNamed Bd.named
  have X : Stand p l e room_1 s m #[(.int p1)] below meth c T [] 0 0 := Stand.of_body Bd
  have e0 : T.heap = s.heap := by rw [Bd.state]; rfl
  have hZ : s.Warmed39 s.vm := State.Warmed39.refl s
  have N0 : Fr s.heap.size ([] : List Loc) := Fr.nil _
  suffices G : own_Go p e below (own_PW s 8 1088) T (mkF m 0 #[.val (.int p1), .unset, .unset, .unset, .unset, .unset] []) by
    obtain ⟨s₂, o, h1, r⟩ := G
    exact ⟨s₂, o, castTop (ef_0 m p1) h1, r⟩
  show own_Go p e below _ T (mkF m 0 #[.val (.int p1), .unset, .unset, .unset, .unset, .unset] [])
  refine own_st (fun τ κ => XS.iloadN X.here hx rfl (hb hby at_0) rfl κ) ?_
  show own_Go p e below _ T (mkF m 1 #[.val (.int p1), .unset, .unset, .unset, .unset, .unset] [(.int p1)])
  refine own_st (fun τ κ => XT.iconstV X.here hx rfl (1) (hb hby at_1) (by decide) κ) ?_
  show own_Go p e below _ T (mkF m 2 #[.val (.int p1), .unset, .unset, .unset, .unset, .unset] [(.int (1 : Int32)), (.int p1)])
  refine own_st (fun τ κ => XS.iand X.here hx rfl (hb hby at_2) rfl κ) ?_
  show own_Go p e below _ T (mkF m 3 #[.val (.int p1), .unset, .unset, .unset, .unset, .unset] [(.int (p1 &&& (1 : Int32)))])
  by_cases c3 : (p1 &&& (1 : Int32)) = (0 : Int32)
  · refine own_st (fun τ κ => XS.ifNo X.here hx rfl (hb hby at_3) rfl (XT.i0_ne_f c3) κ) ?_
    show own_Go p e below _ T (mkF m 6 #[.val (.int p1), .unset, .unset, .unset, .unset, .unset] [])
    refine own_st (fun τ κ => XT.iconstV X.here hx rfl (1) (hb hby at_6) (by decide) κ) ?_
    show own_Go p e below _ T (mkF m 7 #[.val (.int p1), .unset, .unset, .unset, .unset, .unset] [(.int (1 : Int32))])
    refine own_st (fun τ κ => XS.goto X.here hx rfl (pc0 := 7) (pc' := 11) rfl (hb hby at_7) (by decide) (by decide) κ) ?_
    show own_Go p e below _ T (mkF m 11 #[.val (.int p1), .unset, .unset, .unset, .unset, .unset] [(.int (1 : Int32))])
    refine own_st (fun τ κ => XS.istoreN X.here hx rfl (hb hby at_11) rfl (l' := #[.val (.int p1), .val (.int (1 : Int32)), .unset, .unset, .unset, .unset]) rfl κ) ?_
    show own_Go p e below _ T (mkF m 12 #[.val (.int p1), .val (.int (1 : Int32)), .unset, .unset, .unset, .unset] [])
    refine own_st (fun τ κ => XS.iloadN X.here hx rfl (hb hby at_12) rfl κ) ?_
    show own_Go p e below _ T (mkF m 13 #[.val (.int p1), .val (.int (1 : Int32)), .unset, .unset, .unset, .unset] [(.int (1 : Int32))])
    refine own_st (fun τ κ => XS.ifNo X.here hx rfl (hb hby at_13) rfl (XT.i0_eq_f (by decide)) κ) ?_
    show own_Go p e below _ T (mkF m 16 #[.val (.int p1), .val (.int (1 : Int32)), .unset, .unset, .unset, .unset] [])
    refine own_getS X hx hZ e0 hown (hw _ (List.mem_of_getElem? (i := 0) rfl)) S1 (hb hby at_16) ?_
    intro T1 X1 e1
    show own_Go p e below _ T1 (mkF m 19 #[.val (.int p1), .val (.int (1 : Int32)), .unset, .unset, .unset, .unset] [(.ref a1)])
    refine own_st (fun τ κ => XS.goto X1.here hx rfl (pc0 := 19) (pc' := 25) rfl (hb hby at_19) (by decide) (by decide) κ) ?_
    show own_Go p e below _ T1 (mkF m 25 #[.val (.int p1), .val (.int (1 : Int32)), .unset, .unset, .unset, .unset] [(.ref a1)])
    refine own_st (fun τ κ => XS.astoreN X1.here hx rfl (hb hby at_25) rfl rfl (l' := #[.val (.int p1), .val (.int (1 : Int32)), .val (.ref a1), .unset, .unset, .unset]) rfl κ) ?_
    show own_Go p e below _ T1 (mkF m 26 #[.val (.int p1), .val (.int (1 : Int32)), .val (.ref a1), .unset, .unset, .unset] [])
    refine own_st (fun τ κ => XS.iloadN X1.here hx rfl (hb hby at_26) rfl κ) ?_
    show own_Go p e below _ T1 (mkF m 27 #[.val (.int p1), .val (.int (1 : Int32)), .val (.ref a1), .unset, .unset, .unset] [(.int (1 : Int32))])
    refine own_st (fun τ κ => XS.ifNo X1.here hx rfl (hb hby at_27) rfl (XT.i0_eq_f (by decide)) κ) ?_
    show own_Go p e below _ T1 (mkF m 30 #[.val (.int p1), .val (.int (1 : Int32)), .val (.ref a1), .unset, .unset, .unset] [])
    refine own_st (fun τ κ => XT.iconstV X1.here hx rfl (1) (hb hby at_30) (by decide) κ) ?_
    show own_Go p e below _ T1 (mkF m 31 #[.val (.int p1), .val (.int (1 : Int32)), .val (.ref a1), .unset, .unset, .unset] [(.int (1 : Int32))])
    refine own_st (fun τ κ => XS.istoreN X1.here hx rfl (hb hby at_31) rfl (l' := #[.val (.int p1), .val (.int (1 : Int32)), .val (.ref a1), .val (.int (1 : Int32)), .unset, .unset]) rfl κ) ?_
    show own_Go p e below _ T1 (mkF m 32 #[.val (.int p1), .val (.int (1 : Int32)), .val (.ref a1), .val (.int (1 : Int32)), .unset, .unset] [])
    refine own_st (fun τ κ => XS.goto X1.here hx rfl (pc0 := 32) (pc' := 37) rfl (hb hby at_32) (by decide) (by decide) κ) ?_
    show own_Go p e below _ T1 (mkF m 37 #[.val (.int p1), .val (.int (1 : Int32)), .val (.ref a1), .val (.int (1 : Int32)), .unset, .unset] [])
    refine own_st (fun τ κ => XS.aloadN X1.here hx rfl (hb hby at_37) rfl rfl κ) ?_
    show own_Go p e below _ T1 (mkF m 38 #[.val (.int p1), .val (.int (1 : Int32)), .val (.ref a1), .val (.int (1 : Int32)), .unset, .unset] [(.ref a1)])
    refine own_callV X1 hx hZ e1 hown (hw _ (List.mem_of_getElem? (i := 3) rfl)) (hw _ (List.mem_of_getElem? (i := 4) rfl)) (hw _ (List.mem_of_getElem? (i := 6) rfl)) (hw _ (List.mem_of_getElem? (i := 6) rfl)) (hw _ (List.mem_of_getElem? (i := 5) rfl)) (hw _ (List.mem_of_getElem? (i := 1) rfl)) (hw _ (List.mem_of_getElem? (i := 7) rfl)) (by decide) pd_1 E1 (argsL := []) rfl (rm1 l s _ hw a1 a1 s.heap s.heap.size S1) 0 (by decide) (by decide) (by decide) (by decide) (rest := []) rfl (by rw [hml]; rfl) (Nat.le_of_eq rfl) (hb hby at_38) ?_
    intro v2 T2 L2 hQ2 X2
    obtain ⟨hv2, Nq2, e2⟩ := hQ2
    have N2 := Fr.app N0 Nq2
    rw [if_pos rfl] at hv2
    subst hv2
    show own_Go p e below _ T2 (mkF m 41 #[.val (.int p1), .val (.int (1 : Int32)), .val (.ref a1), .val (.int (1 : Int32)), .unset, .unset] [(.int (1 : Int32))])
    refine own_st (fun τ κ => XS.istore X2.here hx rfl (hb hby at_41) rfl (l' := #[.val (.int p1), .val (.int (1 : Int32)), .val (.ref a1), .val (.int (1 : Int32)), .val (.int (1 : Int32)), .unset]) rfl κ) ?_
    show own_Go p e below _ T2 (mkF m 43 #[.val (.int p1), .val (.int (1 : Int32)), .val (.ref a1), .val (.int (1 : Int32)), .val (.int (1 : Int32)), .unset] [])
    refine own_st (fun τ κ => XS.aloadN X2.here hx rfl (hb hby at_43) rfl rfl κ) ?_
    show own_Go p e below _ T2 (mkF m 44 #[.val (.int p1), .val (.int (1 : Int32)), .val (.ref a1), .val (.int (1 : Int32)), .val (.int (1 : Int32)), .unset] [(.ref a1)])
    refine own_callV X2 hx hZ e2 hown (hw _ (List.mem_of_getElem? (i := 9) rfl)) (hw _ (List.mem_of_getElem? (i := 10) rfl)) (hw _ (List.mem_of_getElem? (i := 12) rfl)) (hw _ (List.mem_of_getElem? (i := 12) rfl)) (hw _ (List.mem_of_getElem? (i := 11) rfl)) (hw _ (List.mem_of_getElem? (i := 1) rfl)) (hw _ (List.mem_of_getElem? (i := 13) rfl)) (by decide) pd_2 E1 (argsL := []) rfl (rm2 l s _ hw a1 y1 s.heap s.heap.size F1) 0 (by decide) (by decide) (by decide) (by decide) (rest := []) rfl (by rw [hml]; rfl) (Nat.le_of_eq rfl) (hb hby at_44) ?_
    intro v3 T3 L3 hQ3 X3
    obtain ⟨rfl, Nq3, e3⟩ := hQ3
    have N3 := Fr.app N2 Nq3
    show own_Go p e below _ T3 (mkF m 47 #[.val (.int p1), .val (.int (1 : Int32)), .val (.ref a1), .val (.int (1 : Int32)), .val (.int (1 : Int32)), .unset] [(.ref y1)])
    have XX : Stand p l e room_1 (s.setVm s.vm) m #[(.int p1)] below meth c T3 _ 0 0 := X3
    obtain ⟨la, TL, hL, k1, lb, kb, XL, eL, EL, hSL, hkL, hZL, hownL, ELs, CL, VL, BL, -, -, -, stL⟩ := ldcSV XX hx hZ hown (hw _ (List.mem_of_getElem? (i := 16) rfl)) (fun d hd => hstr d hd) e3 (State.WarmedH.since (State.WarmedH.refl s) s.heap.size) (Nat.le_refl _) N3 (fun b cl q => q) IB.start (by simp) hheld hcw (vs := [.int 49, .int 46, .int 48]) (z := 3) (by decide) (by decide) (by decide) (g := (mkF m 47 #[.val (.int p1), .val (.int (1 : Int32)), .val (.ref a1), .val (.int (1 : Int32)), .val (.int (1 : Int32)), .unset] [(.ref y1)])) rfl (hb hby at_47) (n := 16) (by decide) (by decide) (by decide) (by decide)
    refine own_st stL ?_
    have hZ := hZL
    have hown := hownL
    show own_Go p e below _ TL (mkF m 49 #[.val (.int p1), .val (.int (1 : Int32)), .val (.ref a1), .val (.int (1 : Int32)), .val (.int (1 : Int32)), .unset] [(.ref la), (.ref y1)])
    have BL' : own_BA s hL lb 3 own_t1 := own_of_arv 3 (by decide) (fun j hj => by
      match j, hj with
      | 0, _ => rfl
      | 1, _ => rfl
      | 2, _ => rfl) BL
    refine own_callV XL hx hZ eL hown (hw _ (List.mem_of_getElem? (i := 24) rfl)) (hw _ (List.mem_of_getElem? (i := 25) rfl)) (hw _ (List.mem_of_getElem? (i := 27) rfl)) (hw _ (List.mem_of_getElem? (i := 27) rfl)) (hw _ (List.mem_of_getElem? (i := 26) rfl)) (hw _ (List.mem_of_getElem? (i := 17) rfl)) (hw _ (List.mem_of_getElem? (i := 28) rfl)) (by decide) pd_3 (EY1.ext EL) (argsL := [(.ref la)]) rfl (rmq1 l s _ hw y1 la b1 lb cs hcs hL s.heap.size ELs (SC.ext EL) (C1.ext EL) CL (V1.ext EL) VL (B1.ext EL) BL') 0 (by decide) (by decide) (by decide) (by decide) (rest := []) rfl (by rw [hml]; rfl) (Nat.le_of_eq rfl) (hb hby at_49) ?_
    intro v4 T4 L4 hQ4 X4
    obtain ⟨rfl, Nq4, e4⟩ := hQ4
    have N4 := Fr.app N3 Nq4
    show own_Go p e below _ T4 (mkF m 52 #[.val (.int p1), .val (.int (1 : Int32)), .val (.ref a1), .val (.int (1 : Int32)), .val (.int (1 : Int32)), .unset] [(.int (1 : Int32))])
    refine own_st (fun τ κ => XS.istore X4.here hx rfl (hb hby at_52) rfl (l' := #[.val (.int p1), .val (.int (1 : Int32)), .val (.ref a1), .val (.int (1 : Int32)), .val (.int (1 : Int32)), .val (.int (1 : Int32))]) rfl κ) ?_
    show own_Go p e below _ T4 (mkF m 54 #[.val (.int p1), .val (.int (1 : Int32)), .val (.ref a1), .val (.int (1 : Int32)), .val (.int (1 : Int32)), .val (.int (1 : Int32))] [])
    refine own_st (fun τ κ => XS.iload X4.here hx rfl (hb hby at_54) rfl κ) ?_
    show own_Go p e below _ T4 (mkF m 56 #[.val (.int p1), .val (.int (1 : Int32)), .val (.ref a1), .val (.int (1 : Int32)), .val (.int (1 : Int32)), .val (.int (1 : Int32))] [(.int (1 : Int32))])
    refine own_st (fun τ κ => XS.iloadN X4.here hx rfl (hb hby at_56) rfl κ) ?_
    show own_Go p e below _ T4 (mkF m 57 #[.val (.int p1), .val (.int (1 : Int32)), .val (.ref a1), .val (.int (1 : Int32)), .val (.int (1 : Int32)), .val (.int (1 : Int32))] [(.int (1 : Int32)), (.int (1 : Int32))])
    refine own_st (fun τ κ => XS.icmpNo X4.here hx rfl (hb hby at_57) rfl (XT.ii_ne_f rfl) κ) ?_
    show own_Go p e below _ T4 (mkF m 60 #[.val (.int p1), .val (.int (1 : Int32)), .val (.ref a1), .val (.int (1 : Int32)), .val (.int (1 : Int32)), .val (.int (1 : Int32))] [])
    refine own_st (fun τ κ => XS.iload X4.here hx rfl (hb hby at_60) rfl κ) ?_
    show own_Go p e below _ T4 (mkF m 62 #[.val (.int p1), .val (.int (1 : Int32)), .val (.ref a1), .val (.int (1 : Int32)), .val (.int (1 : Int32)), .val (.int (1 : Int32))] [(.int (1 : Int32))])
    refine own_st (fun τ κ => XS.iload X4.here hx rfl (hb hby at_62) rfl κ) ?_
    show own_Go p e below _ T4 (mkF m 64 #[.val (.int p1), .val (.int (1 : Int32)), .val (.ref a1), .val (.int (1 : Int32)), .val (.int (1 : Int32)), .val (.int (1 : Int32))] [(.int (1 : Int32)), (.int (1 : Int32))])
    refine own_st (fun τ κ => XS.icmpNo X4.here hx rfl (hb hby at_64) rfl (XT.ii_ne_f rfl) κ) ?_
    show own_Go p e below _ T4 (mkF m 67 #[.val (.int p1), .val (.int (1 : Int32)), .val (.ref a1), .val (.int (1 : Int32)), .val (.int (1 : Int32)), .val (.int (1 : Int32))] [])
    refine own_st (fun τ κ => XT.iconstV X4.here hx rfl (1) (hb hby at_67) (by decide) κ) ?_
    show own_Go p e below _ T4 (mkF m 68 #[.val (.int p1), .val (.int (1 : Int32)), .val (.ref a1), .val (.int (1 : Int32)), .val (.int (1 : Int32)), .val (.int (1 : Int32))] [(.int (1 : Int32))])
    refine own_st (fun τ κ => XS.goto X4.here hx rfl (pc0 := 68) (pc' := 72) rfl (hb hby at_68) (by decide) (by decide) κ) ?_
    show own_Go p e below _ T4 (mkF m 72 #[.val (.int p1), .val (.int (1 : Int32)), .val (.ref a1), .val (.int (1 : Int32)), .val (.int (1 : Int32)), .val (.int (1 : Int32))] [(.int (1 : Int32))])
    exact own_retW X4 hSL (by rw [e4]; exact hkL) hx hlk hret (by decide) (by decide) N4 (hb hby at_72)
  · refine own_st (fun τ κ => XS.ifYes X.here hx rfl (pc0 := 3) (pc' := 10) rfl (hb hby at_3) rfl (XT.i0_ne_t c3) (by decide) (by decide) κ) ?_
    show own_Go p e below _ T (mkF m 10 #[.val (.int p1), .unset, .unset, .unset, .unset, .unset] [])
    refine own_st (fun τ κ => XT.iconstV X.here hx rfl (0) (hb hby at_10) (by decide) κ) ?_
    show own_Go p e below _ T (mkF m 11 #[.val (.int p1), .unset, .unset, .unset, .unset, .unset] [(.int (0 : Int32))])
    refine own_st (fun τ κ => XS.istoreN X.here hx rfl (hb hby at_11) rfl (l' := #[.val (.int p1), .val (.int (0 : Int32)), .unset, .unset, .unset, .unset]) rfl κ) ?_
    show own_Go p e below _ T (mkF m 12 #[.val (.int p1), .val (.int (0 : Int32)), .unset, .unset, .unset, .unset] [])
    refine own_st (fun τ κ => XS.iloadN X.here hx rfl (hb hby at_12) rfl κ) ?_
    show own_Go p e below _ T (mkF m 13 #[.val (.int p1), .val (.int (0 : Int32)), .unset, .unset, .unset, .unset] [(.int (0 : Int32))])
    refine own_st (fun τ κ => XS.ifYes X.here hx rfl (pc0 := 13) (pc' := 22) rfl (hb hby at_13) rfl (XT.i0_eq_t rfl) (by decide) (by decide) κ) ?_
    show own_Go p e below _ T (mkF m 22 #[.val (.int p1), .val (.int (0 : Int32)), .unset, .unset, .unset, .unset] [])
    refine own_getS X hx hZ e0 hown (hw _ (List.mem_of_getElem? (i := 38) rfl)) S2 (hb hby at_22) ?_
    intro T5 X5 e5
    show own_Go p e below _ T5 (mkF m 25 #[.val (.int p1), .val (.int (0 : Int32)), .unset, .unset, .unset, .unset] [(.ref a2)])
    refine own_st (fun τ κ => XS.astoreN X5.here hx rfl (hb hby at_25) rfl rfl (l' := #[.val (.int p1), .val (.int (0 : Int32)), .val (.ref a2), .unset, .unset, .unset]) rfl κ) ?_
    show own_Go p e below _ T5 (mkF m 26 #[.val (.int p1), .val (.int (0 : Int32)), .val (.ref a2), .unset, .unset, .unset] [])
    refine own_st (fun τ κ => XS.iloadN X5.here hx rfl (hb hby at_26) rfl κ) ?_
    show own_Go p e below _ T5 (mkF m 27 #[.val (.int p1), .val (.int (0 : Int32)), .val (.ref a2), .unset, .unset, .unset] [(.int (0 : Int32))])
    refine own_st (fun τ κ => XS.ifYes X5.here hx rfl (pc0 := 27) (pc' := 35) rfl (hb hby at_27) rfl (XT.i0_eq_t rfl) (by decide) (by decide) κ) ?_
    show own_Go p e below _ T5 (mkF m 35 #[.val (.int p1), .val (.int (0 : Int32)), .val (.ref a2), .unset, .unset, .unset] [])
    refine own_st (fun τ κ => XT.iconstV X5.here hx rfl (0) (hb hby at_35) (by decide) κ) ?_
    show own_Go p e below _ T5 (mkF m 36 #[.val (.int p1), .val (.int (0 : Int32)), .val (.ref a2), .unset, .unset, .unset] [(.int (0 : Int32))])
    refine own_st (fun τ κ => XS.istoreN X5.here hx rfl (hb hby at_36) rfl (l' := #[.val (.int p1), .val (.int (0 : Int32)), .val (.ref a2), .val (.int (0 : Int32)), .unset, .unset]) rfl κ) ?_
    show own_Go p e below _ T5 (mkF m 37 #[.val (.int p1), .val (.int (0 : Int32)), .val (.ref a2), .val (.int (0 : Int32)), .unset, .unset] [])
    refine own_st (fun τ κ => XS.aloadN X5.here hx rfl (hb hby at_37) rfl rfl κ) ?_
    show own_Go p e below _ T5 (mkF m 38 #[.val (.int p1), .val (.int (0 : Int32)), .val (.ref a2), .val (.int (0 : Int32)), .unset, .unset] [(.ref a2)])
    refine own_callV X5 hx hZ e5 hown (hw _ (List.mem_of_getElem? (i := 3) rfl)) (hw _ (List.mem_of_getElem? (i := 4) rfl)) (hw _ (List.mem_of_getElem? (i := 6) rfl)) (hw _ (List.mem_of_getElem? (i := 6) rfl)) (hw _ (List.mem_of_getElem? (i := 5) rfl)) (hw _ (List.mem_of_getElem? (i := 1) rfl)) (hw _ (List.mem_of_getElem? (i := 7) rfl)) (by decide) pd_1 E2 (argsL := []) rfl (rm1 l s _ hw a2 a1 s.heap s.heap.size S1) 0 (by decide) (by decide) (by decide) (by decide) (rest := []) rfl (by rw [hml]; rfl) (Nat.le_of_eq rfl) (hb hby at_38) ?_
    intro v6 T6 L6 hQ6 X6
    obtain ⟨hv6, Nq6, e6⟩ := hQ6
    have N6 := Fr.app N0 Nq6
    rw [if_neg hne] at hv6
    subst hv6
    show own_Go p e below _ T6 (mkF m 41 #[.val (.int p1), .val (.int (0 : Int32)), .val (.ref a2), .val (.int (0 : Int32)), .unset, .unset] [(.int (0 : Int32))])
    refine own_st (fun τ κ => XS.istore X6.here hx rfl (hb hby at_41) rfl (l' := #[.val (.int p1), .val (.int (0 : Int32)), .val (.ref a2), .val (.int (0 : Int32)), .val (.int (0 : Int32)), .unset]) rfl κ) ?_
    show own_Go p e below _ T6 (mkF m 43 #[.val (.int p1), .val (.int (0 : Int32)), .val (.ref a2), .val (.int (0 : Int32)), .val (.int (0 : Int32)), .unset] [])
    refine own_st (fun τ κ => XS.aloadN X6.here hx rfl (hb hby at_43) rfl rfl κ) ?_
    show own_Go p e below _ T6 (mkF m 44 #[.val (.int p1), .val (.int (0 : Int32)), .val (.ref a2), .val (.int (0 : Int32)), .val (.int (0 : Int32)), .unset] [(.ref a2)])
    refine own_callV X6 hx hZ e6 hown (hw _ (List.mem_of_getElem? (i := 9) rfl)) (hw _ (List.mem_of_getElem? (i := 10) rfl)) (hw _ (List.mem_of_getElem? (i := 12) rfl)) (hw _ (List.mem_of_getElem? (i := 12) rfl)) (hw _ (List.mem_of_getElem? (i := 11) rfl)) (hw _ (List.mem_of_getElem? (i := 1) rfl)) (hw _ (List.mem_of_getElem? (i := 13) rfl)) (by decide) pd_2 E2 (argsL := []) rfl (rm2 l s _ hw a2 y2 s.heap s.heap.size F2) 0 (by decide) (by decide) (by decide) (by decide) (rest := []) rfl (by rw [hml]; rfl) (Nat.le_of_eq rfl) (hb hby at_44) ?_
    intro v7 T7 L7 hQ7 X7
    obtain ⟨rfl, Nq7, e7⟩ := hQ7
    have N7 := Fr.app N6 Nq7
    show own_Go p e below _ T7 (mkF m 47 #[.val (.int p1), .val (.int (0 : Int32)), .val (.ref a2), .val (.int (0 : Int32)), .val (.int (0 : Int32)), .unset] [(.ref y2)])
    have XX : Stand p l e room_1 (s.setVm s.vm) m #[(.int p1)] below meth c T7 _ 0 0 := X7
    obtain ⟨la, TL, hL, k1, lb, kb, XL, eL, EL, hSL, hkL, hZL, hownL, ELs, CL, VL, BL, -, -, -, stL⟩ := ldcSV XX hx hZ hown (hw _ (List.mem_of_getElem? (i := 16) rfl)) (fun d hd => hstr d hd) e7 (State.WarmedH.since (State.WarmedH.refl s) s.heap.size) (Nat.le_refl _) N7 (fun b cl q => q) IB.start (by simp) hheld hcw (vs := [.int 49, .int 46, .int 48]) (z := 3) (by decide) (by decide) (by decide) (g := (mkF m 47 #[.val (.int p1), .val (.int (0 : Int32)), .val (.ref a2), .val (.int (0 : Int32)), .val (.int (0 : Int32)), .unset] [(.ref y2)])) rfl (hb hby at_47) (n := 16) (by decide) (by decide) (by decide) (by decide)
    refine own_st stL ?_
    have hZ := hZL
    have hown := hownL
    show own_Go p e below _ TL (mkF m 49 #[.val (.int p1), .val (.int (0 : Int32)), .val (.ref a2), .val (.int (0 : Int32)), .val (.int (0 : Int32)), .unset] [(.ref la), (.ref y2)])
    have BL' : own_BA s hL lb 3 own_t1 := own_of_arv 3 (by decide) (fun j hj => by
      match j, hj with
      | 0, _ => rfl
      | 1, _ => rfl
      | 2, _ => rfl) BL
    have c2 : ¬ y2 = la := fun q => by
      have v1 := V2.ext EL
      rw [q] at v1
      obtain ⟨c1, _, _, _, _, g1, g2, -, -, -, -, g7⟩ := v1
      obtain ⟨c2, _, _, _, _, k1, k2, -, -, -, -, k7⟩ := VL
      cases g1.symm.trans k1
      cases g2.symm.trans k2
      have hbb : b2 = lb := Value.ref.inj (Option.some.inj (g7.symm.trans k7))
      obtain ⟨d1, ⟨r1, -⟩, s1, -⟩ := B2.ext EL
      obtain ⟨d2, ⟨r2, -⟩, s2, -⟩ := BL'
      rw [hbb] at r1
      cases r1.symm.trans r2
      omega
    refine own_callV XL hx hZ eL hown (hw _ (List.mem_of_getElem? (i := 24) rfl)) (hw _ (List.mem_of_getElem? (i := 25) rfl)) (hw _ (List.mem_of_getElem? (i := 27) rfl)) (hw _ (List.mem_of_getElem? (i := 27) rfl)) (hw _ (List.mem_of_getElem? (i := 26) rfl)) (hw _ (List.mem_of_getElem? (i := 17) rfl)) (hw _ (List.mem_of_getElem? (i := 28) rfl)) (by decide) pd_3 (EY2.ext EL) (argsL := [(.ref la)]) rfl (rmq0 l s _ hw y2 la b2 lb cs hcs hL s.heap.size c2 ELs (SC.ext EL) (C2.ext EL) CL (V2.ext EL) VL (B2.ext EL) BL') 0 (by decide) (by decide) (by decide) (by decide) (rest := []) rfl (by rw [hml]; rfl) (Nat.le_of_eq rfl) (hb hby at_49) ?_
    intro v8 T8 L8 hQ8 X8
    obtain ⟨rfl, Nq8, e8⟩ := hQ8
    have N8 := Fr.app N7 Nq8
    show own_Go p e below _ T8 (mkF m 52 #[.val (.int p1), .val (.int (0 : Int32)), .val (.ref a2), .val (.int (0 : Int32)), .val (.int (0 : Int32)), .unset] [(.int (0 : Int32))])
    refine own_st (fun τ κ => XS.istore X8.here hx rfl (hb hby at_52) rfl (l' := #[.val (.int p1), .val (.int (0 : Int32)), .val (.ref a2), .val (.int (0 : Int32)), .val (.int (0 : Int32)), .val (.int (0 : Int32))]) rfl κ) ?_
    show own_Go p e below _ T8 (mkF m 54 #[.val (.int p1), .val (.int (0 : Int32)), .val (.ref a2), .val (.int (0 : Int32)), .val (.int (0 : Int32)), .val (.int (0 : Int32))] [])
    refine own_st (fun τ κ => XS.iload X8.here hx rfl (hb hby at_54) rfl κ) ?_
    show own_Go p e below _ T8 (mkF m 56 #[.val (.int p1), .val (.int (0 : Int32)), .val (.ref a2), .val (.int (0 : Int32)), .val (.int (0 : Int32)), .val (.int (0 : Int32))] [(.int (0 : Int32))])
    refine own_st (fun τ κ => XS.iloadN X8.here hx rfl (hb hby at_56) rfl κ) ?_
    show own_Go p e below _ T8 (mkF m 57 #[.val (.int p1), .val (.int (0 : Int32)), .val (.ref a2), .val (.int (0 : Int32)), .val (.int (0 : Int32)), .val (.int (0 : Int32))] [(.int (0 : Int32)), (.int (0 : Int32))])
    refine own_st (fun τ κ => XS.icmpNo X8.here hx rfl (hb hby at_57) rfl (XT.ii_ne_f rfl) κ) ?_
    show own_Go p e below _ T8 (mkF m 60 #[.val (.int p1), .val (.int (0 : Int32)), .val (.ref a2), .val (.int (0 : Int32)), .val (.int (0 : Int32)), .val (.int (0 : Int32))] [])
    refine own_st (fun τ κ => XS.iload X8.here hx rfl (hb hby at_60) rfl κ) ?_
    show own_Go p e below _ T8 (mkF m 62 #[.val (.int p1), .val (.int (0 : Int32)), .val (.ref a2), .val (.int (0 : Int32)), .val (.int (0 : Int32)), .val (.int (0 : Int32))] [(.int (0 : Int32))])
    refine own_st (fun τ κ => XS.iload X8.here hx rfl (hb hby at_62) rfl κ) ?_
    show own_Go p e below _ T8 (mkF m 64 #[.val (.int p1), .val (.int (0 : Int32)), .val (.ref a2), .val (.int (0 : Int32)), .val (.int (0 : Int32)), .val (.int (0 : Int32))] [(.int (0 : Int32)), (.int (0 : Int32))])
    refine own_st (fun τ κ => XS.icmpNo X8.here hx rfl (hb hby at_64) rfl (XT.ii_ne_f rfl) κ) ?_
    show own_Go p e below _ T8 (mkF m 67 #[.val (.int p1), .val (.int (0 : Int32)), .val (.ref a2), .val (.int (0 : Int32)), .val (.int (0 : Int32)), .val (.int (0 : Int32))] [])
    refine own_st (fun τ κ => XT.iconstV X8.here hx rfl (1) (hb hby at_67) (by decide) κ) ?_
    show own_Go p e below _ T8 (mkF m 68 #[.val (.int p1), .val (.int (0 : Int32)), .val (.ref a2), .val (.int (0 : Int32)), .val (.int (0 : Int32)), .val (.int (0 : Int32))] [(.int (1 : Int32))])
    refine own_st (fun τ κ => XS.goto X8.here hx rfl (pc0 := 68) (pc' := 72) rfl (hb hby at_68) (by decide) (by decide) κ) ?_
    show own_Go p e below _ T8 (mkF m 72 #[.val (.int p1), .val (.int (0 : Int32)), .val (.ref a2), .val (.int (0 : Int32)), .val (.int (0 : Int32)), .val (.int (0 : Int32))] [(.int (1 : Int32))])
    exact own_retW X8 hSL (by rw [e8]; exact hkL) hx hlk hret (by decide) (by decide) N8 (hb hby at_72)

set_option maxRecDepth 65536 in
set_option maxHeartbeats 40000000 in
theorem comes_1 {Post : Tables → Env → Array Value → State → Outcome → State → Prop} (hpost : ∀ tb e args s v u, (limb_1_1.after args s (.returned v) u = true ∧ limb_1_2.after args s (.returned v) u = true ∧ True) → ReturnedEndW s (.returned v) u (Jvm.fieldLocs frame_1_writes args s ++ Jvm.arrayLocs frame_1_arrays args s ++ Jvm.staticLocs frame_1_statics s) 8 1088 → Post tb e args s (.returned v) u) :
    ArmFor flags0 classFile x code maxLocals ret World_1 tables_1 room_1 Calls_1 rest_1 Pre_1 Post := by
  intro l hfl _ _ p e ha hc hk s m args below hf hA hF happ hP
  obtain ⟨hcalls, hrest, hpre⟩ := hP
  obtain ⟨-, -, -, hnamed, -, -, -, hat⟩ := (Spec.applies_iff hf).mp happ
  obtain ⟨hg, hn⟩ := and_e (Cond.before_iff.mp (show (Jvm.Cond.and given_1 narrow_1).before args s = true from hpre))
  obtain ⟨gc, g0⟩ := and_e hg
  obtain ⟨w0, rfl⟩ : ∃ w0 : Value, args = #[w0] := by
    have hs : args.size = 1 := by simpa [Cond.value, given_1] using gc
    obtain ⟨L⟩ := args
    match L, hs with
    | [w0], _ => exact ⟨w0, rfl⟩
  have hw := fun d (hd : d ∈ tables_1) => atoms_spec (ws := Jvm.Cond.code x code maxLocals ret :: tables_1) hat d (List.mem_cons_of_mem _ hd)
  obtain ⟨hsets, hown0⟩ := atoms_of _ (rest_1_c_eq ▸ (show rest_1_c.before _ s = true from hrest))
  obtain ⟨i0, ei0⟩ := is_v g0
  obtain rfl : w0 = (.int i0) := Option.some.inj ei0
  have hstr : ∀ d ∈ Bundle.stringAtoms, d.before #[(.int i0)] s = true := fun d hd => hw d (by
    simp only [Bundle.stringAtoms, List.mem_cons, List.not_mem_nil, or_false] at hd
    rcases hd with rfl | rfl | rfl | rfl | rfl | rfl | rfl
    all_goals first | exact List.mem_of_getElem? (i := 17) rfl | exact List.mem_of_getElem? (i := 18) rfl | exact List.mem_of_getElem? (i := 19) rfl | exact List.mem_of_getElem? (i := 20) rfl | exact List.mem_of_getElem? (i := 21) rfl | exact List.mem_of_getElem? (i := 22) rfl | exact List.mem_of_getElem? (i := 23) rfl)
  have n3 := not_v (Cond.before_iff.mp (hsets _ (List.mem_of_getElem? (i := 2) rfl)))
  obtain ⟨cs, ecs⟩ := is_v (Cond.before_iff.mp (hsets _ (List.mem_of_getElem? (i := 1) rfl)))
  have SC : Sta s s.heap "java/lang/String" "COMPACT_STRINGS" "Z" (.int cs) := Sta.start ecs (Or.inl (hsets _ (List.mem_of_getElem? (i := 0) rfl)))
  have hcs : ¬ (cs = (0 : Int32)) := gotF (Cond.eq_ints ecs (Term.int_eval (0))) n3
  have hcw : Jvm.Lit.compactW.before #[(.int i0)] s = true := hsets _ (List.mem_of_getElem? (i := 2) rfl)
  have hheld : Jvm.Lit.constHeld s "com/example/addressee/addressee/AddressingVersionHasBindingFaultDetailsPinLaw" 24 := hcalls.1 ("com/example/addressee/addressee/AddressingVersionHasBindingFaultDetailsPinLaw", 24) (List.mem_singleton.mpr rfl)
  obtain ⟨x1, t0⟩ := and_e hn
  obtain ⟨l1, t1⟩ := and_e t0
  obtain ⟨k1, t2⟩ := and_e t1
  obtain ⟨v1, t3⟩ := and_e t2
  obtain ⟨n1, t4⟩ := and_e t3
  obtain ⟨e10, t5⟩ := and_e t4
  obtain ⟨e11, t6⟩ := and_e t5
  obtain ⟨e12, t7⟩ := and_e t6
  obtain ⟨x2, t8⟩ := and_e t7
  obtain ⟨o2, t9⟩ := and_e t8
  obtain ⟨o1, t10⟩ := and_e t9
  obtain ⟨l2, t11⟩ := and_e t10
  obtain ⟨k2, t12⟩ := and_e t11
  obtain ⟨v2, t13⟩ := and_e t12
  obtain ⟨n2, t14⟩ := and_e t13
  obtain ⟨e20, t15⟩ := and_e t14
  obtain ⟨e21, t16⟩ := and_e t15
  obtain ⟨e22, t17⟩ := and_e t16
  obtain ⟨e23, t18⟩ := and_e t17
  obtain ⟨e24, t19⟩ := and_e t18
  obtain ⟨e25, t20⟩ := and_e t19
  have e26 := t20
  obtain ⟨a1, ea1⟩ := exa_v x1
  have S1 : Sta s s.heap "com/example/addressee/addressee/AddressingVersion" "V1_0" "Lcom/example/addressee/addressee/AddressingVersion;" (.ref a1) := Sta.start ea1 (Or.inr ⟨(hw _ (List.mem_of_getElem? (i := 1) rfl)), (hw _ (List.mem_of_getElem? (i := 2) rfl))⟩)
  have E1 := Exa.start ea1 x1
  obtain ⟨y1, ey1⟩ := exa_v l1
  have F1 : Fld s s.heap a1 "com/example/addressee/addressee/AddressingVersion" "label" "Ljava/lang/String;" (.ref y1) := Fld.start ((fld_at ea1).symm.trans ey1)
  have EY1 := Exa.start ey1 l1
  have C1 : Fld s s.heap y1 "java/lang/String" "coder" "B" (.int (0 : Int32)) := Fld.start ((fld_at ey1).symm.trans (own_eqI k1))
  obtain ⟨b1, eb1⟩ := arr_v v1
  have V1 : Fld s s.heap y1 "java/lang/String" "value" "[B" (.ref b1) := Fld.start ((fld_at ey1).symm.trans eb1)
  have B1 : own_BA s s.heap b1 3 own_t1 := own_bytes (by decide) (by decide) eb1 v1 n1 (fun j hj => by
    match j, hj with
    | 0, _ => exact ⟨0, by decide, own_eqI e10⟩
    | 1, _ => exact ⟨1, by decide, own_eqI e11⟩
    | 2, _ => exact ⟨2, by decide, own_eqI e12⟩)
  obtain ⟨a2, ea2⟩ := exa_v x2
  have S2 : Sta s s.heap "com/example/addressee/addressee/AddressingVersion" "V2004_08" "Lcom/example/addressee/addressee/AddressingVersion;" (.ref a2) := Sta.start ea2 (Or.inr ⟨(hw _ (List.mem_of_getElem? (i := 1) rfl)), (hw _ (List.mem_of_getElem? (i := 39) rfl))⟩)
  have E2 := Exa.start ea2 x2
  obtain ⟨y2, ey2⟩ := exa_v l2
  have F2 : Fld s s.heap a2 "com/example/addressee/addressee/AddressingVersion" "label" "Ljava/lang/String;" (.ref y2) := Fld.start ((fld_at ea2).symm.trans ey2)
  have EY2 := Exa.start ey2 l2
  have C2 : Fld s s.heap y2 "java/lang/String" "coder" "B" (.int (0 : Int32)) := Fld.start ((fld_at ey2).symm.trans (own_eqI k2))
  obtain ⟨b2, eb2⟩ := arr_v v2
  have V2 : Fld s s.heap y2 "java/lang/String" "value" "[B" (.ref b2) := Fld.start ((fld_at ey2).symm.trans eb2)
  have B2 : own_BA s s.heap b2 7 own_t2 := own_bytes (by decide) (by decide) eb2 v2 n2 (fun j hj => by
    match j, hj with
    | 0, _ => exact ⟨0, by decide, own_eqI e20⟩
    | 1, _ => exact ⟨1, by decide, own_eqI e21⟩
    | 2, _ => exact ⟨2, by decide, own_eqI e22⟩
    | 3, _ => exact ⟨3, by decide, own_eqI e23⟩
    | 4, _ => exact ⟨4, by decide, own_eqI e24⟩
    | 5, _ => exact ⟨5, by decide, own_eqI e25⟩
    | 6, _ => exact ⟨6, by decide, own_eqI e26⟩)
  have O2 : Fld s s.heap a2 "java/lang/Enum" "ordinal" "I" (.int 1) := Fld.start ((fld_at ea2).symm.trans (own_eqI o2))
  have O1 : Fld s s.heap a1 "java/lang/Enum" "ordinal" "I" (.int 0) := Fld.start ((fld_at ea1).symm.trans (own_eqI o1))
  have hne : ¬ a2 = a1 := O2.ne O1 (by decide)
  obtain ⟨n, o, h1, h2, h3, rfl, L, N, q1, q2, q3, q4⟩ := rm0 l i0 p e ha hc hk s m _ below hf ((Spec.applies_iff_loose hf).mp happ).1 ⟨rfl, hw, hstr, hheld, hcw, cs, a1, a2, y1, y2, b1, b2, hcs, hne, S1, S2, SC, E1, E2, F1, F2, EY1, EY2, C1, C2, V1, V2, B1, B2⟩ trivial
  refine ⟨n, _, h1, h2, h3, hpost _ _ _ _ _ _ ⟨Cond.after_iff.mpr rfl, Cond.after_iff.mpr (eq_i res_at (Term.int_eval (1)) rfl), trivial⟩ ⟨q1, q2, q3, (q4.sift fun y hy => Or.inr (N y hy)).mono (by decide) (by decide)⟩⟩
theorem main_1_1 : Claimed_1_1 := comes_1 fun _ _ _ _ _ _ h hF => ⟨h.1, hF⟩
theorem main_1_2 : Claimed_1_2 := comes_1 fun _ _ _ _ _ _ h hF => ⟨h.2.1, hF⟩

end Jvm.Pilot.@@N@@
namespace Jvm.Pilot.@@N@@
open Jvm Jvm.ClassFile Sem Op Lib Jvm.Free Jvm.Stand Jvm.Pilot.@@N@@.Jvm.D
/-! MADE BY PROGRAM (witnessworld.py) out of the Statement's table words and the real class files: 18 classes; the members and pool entries that the words name. The judged class is class 1, her method 1. -/
namespace start1
open Jvm.ClassFile
def u (s : String) : CpInfo := .utf8 (stringToUtf16 s)
/-- a pool by its gaps: so many unusable entries, then the entry; so many at the end -/
def gap : Nat → List CpInfo → List CpInfo
  | 0, r => r
  | n + 1, r => .unusable :: gap n r
def poolList (es : List (Nat × CpInfo)) (last : Nat) : List CpInfo := es.foldr (fun e r => gap e.1 (e.2 :: r)) (gap last [])
def pool (es : List (Nat × CpInfo)) (last : Nat) : Array CpInfo := ⟨poolList es last⟩
def fileOf (pool : Array CpInfo) (this : Nat) (attrs : Array Attribute := #[]) (ms : Array MethodInfo := #[]) (fl : Nat := 33) (sup : Nat := 0) (ifs : Array Nat := #[]) (fds : Array FieldInfo := #[]) : ClassFile where
  minorVersion := 0
  majorVersion := 65
  constantPool := pool
  accessFlags := fl
  thisClass := this
  superClass := sup
  interfaces := ifs
  fields := fds
  methods := ms
  attributes := attrs
def plain (name : String) (sup : Option ClassId) : Class where
  name := name
  kind := .ordinary
  loader := none
  accessFlags := 33
  super := sup
  interfaces := #[]
  cf := none
  fields := #[]
  methods := #[]
  instanceTypes := #[]
  staticTypes := #[]
  resolved := #[]
  callSites := []
  init := .initialized
  statics := none
  mirror := none

def pool0 : Array CpInfo := pool [(5, u "<init>"), (0, u "()V"), (1, .class_ 10), (1, u "java/lang/Object")] 113

def k0m0 : Method := { name := "<init>", desc := "()V", sig := { parameters := [], returnType := none }, accessFlags := 1, code := none }
/-- java/lang/Object -/
def k0 : Class := { plain "java/lang/Object" none with
  accessFlags := 33
  interfaces := #[]
  cf := some (fileOf pool0 8 #[] #[{ accessFlags := 1, nameIndex := 5, descriptorIndex := 6, attributes := #[] }] 33 0 #[] #[])
  fields := #[]
  methods := #[k0m0]
  instanceTypes := #[]
  staticTypes := #[]
  resolved := Array.replicate 124 none
  statics := none }

def pool1 : Array CpInfo := pool [(2, .class_ 4), (1, u "java/lang/Object"), (0, u "<init>"), (0, u "()V"), (0, .fieldref 8 9), (0, .class_ 10), (0, .nameAndType 11 12), (0, u "com/example/addressee/addressee/AddressingVersion"), (0, u "V1_0"), (0, u "Lcom/example/addressee/addressee/AddressingVersion;"), (0, .fieldref 8 14), (0, .nameAndType 15 12), (0, u "V2004_08"), (0, .methodref 8 17), (0, .nameAndType 18 19), (0, u "hasBindingFaultDetails"), (0, u "()Z"), (0, .methodref 8 21), (0, .nameAndType 22 23), (0, u "label"), (0, u "()Ljava/lang/String;"), (0, .string 25), (0, u "1.0"), (0, .methodref 27 28), (0, .class_ 29), (0, .nameAndType 30 31), (0, u "java/lang/String"), (0, u "equals"), (0, u "(Ljava/lang/Object;)Z"), (0, .class_ 33), (0, u "com/example/addressee/addressee/AddressingVersionHasBindingFaultDetailsPinLaw"), (2, u "law"), (0, u "(I)Z")] 3

def k1m0 : Method := { name := "<init>", desc := "()V", sig := { parameters := [], returnType := none }, accessFlags := 2, code := none }
def k1c1 : Code := { maxStack := 2, maxLocals := 6, code := code, exceptionTable := #[], attributes := #[] }
def k1m1 : Method := { name := "law", desc := "(I)Z", sig := { parameters := [.int], returnType := some .boolean }, accessFlags := 9, code := some k1c1 }
/-- com/example/addressee/addressee/AddressingVersionHasBindingFaultDetailsPinLaw -/
def k1 : Class := { plain "com/example/addressee/addressee/AddressingVersionHasBindingFaultDetailsPinLaw" (some 0) with
  accessFlags := 49
  interfaces := #[]
  cf := some (fileOf pool1 32 #[] #[{ accessFlags := 2, nameIndex := 5, descriptorIndex := 6, attributes := #[] }, { accessFlags := 9, nameIndex := 36, descriptorIndex := 37, attributes := #[] }] 49 2 #[] #[])
  fields := #[]
  methods := #[k1m0, k1m1]
  instanceTypes := #[]
  staticTypes := #[]
  resolved := Array.replicate 41 none
  statics := none }

def pool2 : Array CpInfo := pool [(1, .class_ 2), (0, u "java/lang/constant/Constable"), (0, .class_ 4), (0, u "java/lang/Object")] 6

/-- java/lang/constant/Constable -/
def k2 : Class := { plain "java/lang/constant/Constable" (some 0) with
  accessFlags := 1537
  interfaces := #[]
  cf := some (fileOf pool2 1 #[] #[] 1537 3 #[] #[])
  fields := #[]
  methods := #[]
  instanceTypes := #[]
  staticTypes := #[]
  resolved := Array.replicate 11 none
  statics := none }

def pool3 : Array CpInfo := pool [(1, .class_ 2), (0, u "java/lang/Comparable"), (0, .class_ 4), (0, u "java/lang/Object")] 7

/-- java/lang/Comparable -/
def k3 : Class := { plain "java/lang/Comparable" (some 0) with
  accessFlags := 1537
  interfaces := #[]
  cf := some (fileOf pool3 1 #[] #[] 1537 3 #[] #[])
  fields := #[]
  methods := #[]
  instanceTypes := #[]
  staticTypes := #[]
  resolved := Array.replicate 12 none
  statics := none }

def pool4 : Array CpInfo := pool [(1, .class_ 2), (0, u "java/io/Serializable"), (0, .class_ 4), (0, u "java/lang/Object")] 2

/-- java/io/Serializable -/
def k4 : Class := { plain "java/io/Serializable" (some 0) with
  accessFlags := 1537
  interfaces := #[]
  cf := some (fileOf pool4 1 #[] #[] 1537 3 #[] #[])
  fields := #[]
  methods := #[]
  instanceTypes := #[]
  staticTypes := #[]
  resolved := Array.replicate 7 none
  statics := none }

def pool5 : Array CpInfo := pool [(2, .class_ 4), (1, u "java/lang/Enum"), (0, u "name"), (0, u "Ljava/lang/String;"), (2, u "ordinal"), (0, u "I"), (1, .class_ 14), (1, u "java/lang/Object"), (4, u "hash"), (86, .class_ 108), (1, u "java/lang/Enum$EnumDesc"), (2, .class_ 112), (0, u "java/lang/constant/Constable"), (0, .class_ 114), (0, u "java/lang/Comparable"), (0, .class_ 116), (0, u "java/io/Serializable")] 87

/-- java/lang/Enum -/
def k5 : Class := { plain "java/lang/Enum" (some 0) with
  accessFlags := 1057
  interfaces := #[2, 3, 4]
  cf := some (fileOf pool5 2 #[.nestMembers #[106]] #[] 1057 12 #[111, 113, 115] #[{ accessFlags := 18, nameIndex := 5, descriptorIndex := 6, attributes := #[] }, { accessFlags := 18, nameIndex := 9, descriptorIndex := 10, attributes := #[] }, { accessFlags := 2, nameIndex := 19, descriptorIndex := 10, attributes := #[] }])
  fields := #[{ name := "name", type := (.object "java/lang/String"), accessFlags := 18, slot := 0, constantValue := 0 }, { name := "ordinal", type := .int, accessFlags := 18, slot := 1, constantValue := 0 }, { name := "hash", type := .int, accessFlags := 2, slot := 2, constantValue := 0 }]
  methods := #[]
  instanceTypes := #[(.object "java/lang/String"), .int, .int]
  staticTypes := #[]
  resolved := Array.replicate 204 none
  statics := none }

def pool6 : Array CpInfo := pool [(1, .class_ 2), (0, u "com/example/addressee/addressee/AddressingVersion"), (0, .fieldref 1 4), (0, .nameAndType 5 6), (0, u "V1_0"), (0, u "Lcom/example/addressee/addressee/AddressingVersion;"), (2, u "V2004_08"), (2, u "$VALUES"), (0, u "[Lcom/example/addressee/addressee/AddressingVersion;"), (6, .class_ 22), (1, u "java/lang/Enum"), (6, .fieldref 1 30), (0, .nameAndType 31 32), (0, u "label"), (0, u "Ljava/lang/String;"), (2, u "namespace"), (128, u "()Ljava/lang/String;"), (7, u "()Z"), (13, u "hasBindingFaultDetails")] 16

def k6c0 : Code := { maxStack := 1, maxLocals := 1, code := prog_8_method_4_code, exceptionTable := #[], attributes := #[] }
def k6m0 : Method := { name := "label", desc := "()Ljava/lang/String;", sig := { parameters := [], returnType := some (.object "java/lang/String") }, accessFlags := 1, code := some k6c0 }
def k6c1 : Code := { maxStack := 2, maxLocals := 1, code := prog_8_method_20_code, exceptionTable := #[], attributes := #[] }
def k6m1 : Method := { name := "hasBindingFaultDetails", desc := "()Z", sig := { parameters := [], returnType := some .boolean }, accessFlags := 0, code := some k6c1 }
/-- com/example/addressee/addressee/AddressingVersion -/
def k6 : Class := { plain "com/example/addressee/addressee/AddressingVersion" (some 5) with
  accessFlags := 16433
  interfaces := #[]
  cf := some (fileOf pool6 1 #[] #[{ accessFlags := 1, nameIndex := 31, descriptorIndex := 164, attributes := #[] }, { accessFlags := 0, nameIndex := 186, descriptorIndex := 172, attributes := #[] }] 16433 20 #[] #[{ accessFlags := 16409, nameIndex := 5, descriptorIndex := 6, attributes := #[] }, { accessFlags := 16409, nameIndex := 9, descriptorIndex := 6, attributes := #[] }, { accessFlags := 18, nameIndex := 31, descriptorIndex := 32, attributes := #[] }, { accessFlags := 18, nameIndex := 35, descriptorIndex := 32, attributes := #[] }, { accessFlags := 4122, nameIndex := 12, descriptorIndex := 13, attributes := #[] }])
  fields := #[{ name := "V1_0", type := (.object "com/example/addressee/addressee/AddressingVersion"), accessFlags := 16409, slot := 0, constantValue := 0 }, { name := "V2004_08", type := (.object "com/example/addressee/addressee/AddressingVersion"), accessFlags := 16409, slot := 1, constantValue := 0 }, { name := "label", type := (.object "java/lang/String"), accessFlags := 18, slot := 3, constantValue := 0 }, { name := "namespace", type := (.object "java/lang/String"), accessFlags := 18, slot := 4, constantValue := 0 }, { name := "$VALUES", type := (.array (.object "com/example/addressee/addressee/AddressingVersion")), accessFlags := 4122, slot := 2, constantValue := 0 }]
  methods := #[k6m0, k6m1]
  instanceTypes := #[(.object "java/lang/String"), .int, .int, (.object "java/lang/String"), (.object "java/lang/String")]
  staticTypes := #[(.object "com/example/addressee/addressee/AddressingVersion"), (.object "com/example/addressee/addressee/AddressingVersion"), (.array (.object "com/example/addressee/addressee/AddressingVersion"))]
  resolved := Array.replicate 203 none
  statics := some 0 }

def pool7 : Array CpInfo := pool [(2, .class_ 4), (1, u "java/lang/CharSequence"), (42, .class_ 48), (0, u "java/lang/CharSequence$1CodePointIterator"), (10, .class_ 60), (0, u "java/lang/CharSequence$1CharIterator"), (5, .class_ 67), (0, u "java/lang/Object")] 63

/-- java/lang/CharSequence -/
def k7 : Class := { plain "java/lang/CharSequence" (some 0) with
  accessFlags := 1537
  interfaces := #[]
  cf := some (fileOf pool7 2 #[.nestMembers #[47, 59]] #[] 1537 66 #[] #[])
  fields := #[]
  methods := #[]
  instanceTypes := #[]
  staticTypes := #[]
  resolved := Array.replicate 131 none
  statics := none }

def pool8 : Array CpInfo := pool [(1, .class_ 2), (0, u "java/lang/constant/ConstantDesc"), (0, .class_ 4), (0, u "java/lang/Object")] 32

/-- java/lang/constant/ConstantDesc -/
def k8 : Class := { plain "java/lang/constant/ConstantDesc" (some 0) with
  accessFlags := 1537
  interfaces := #[]
  cf := some (fileOf pool8 1 #[] #[] 1537 3 #[] #[])
  fields := #[]
  methods := #[]
  instanceTypes := #[]
  staticTypes := #[]
  resolved := Array.replicate 37 none
  statics := none }

def pool9 : Array CpInfo := pool [(2, .class_ 4), (1, u "java/lang/Object"), (0, u "<init>"), (0, u "()V"), (2, .fieldref 10 11), (0, .class_ 12), (0, .nameAndType 13 14), (0, u "java/lang/String"), (0, u "value"), (0, u "[B"), (0, .fieldref 10 16), (0, .nameAndType 17 18), (0, u "coder"), (0, u "B"), (2, u "hash"), (0, u "I"), (2, u "hashIsZero"), (0, u "Z"), (11, .fieldref 10 39), (0, .nameAndType 40 26), (0, u "COMPACT_STRINGS"), (66, .class_ 109), (1, u "java/lang/StringLatin1"), (431, .methodref 107 542), (0, .nameAndType 543 544), (0, u "equals"), (0, u "([B[B)Z"), (28, u "(Ljava/lang/Object;)Z"), (1, .class_ 576), (0, u "java/lang/CharSequence"), (22, u "CASE_INSENSITIVE_ORDER"), (0, u "Ljava/util/Comparator;"), (500, u "serialPersistentFields"), (0, u "[Ljava/io/ObjectStreamField;"), (0, .class_ 1104), (0, u "java/lang/String$CaseInsensitiveComparator"), (1, .class_ 1107), (0, u "java/io/Serializable"), (0, .class_ 1109), (0, u "java/lang/Comparable"), (0, .class_ 1111), (0, u "java/lang/constant/Constable"), (0, .class_ 1113), (0, u "java/lang/constant/ConstantDesc"), (2, u "serialVersionUID"), (0, u "J"), (3, u "REPL"), (0, u "C"), (2, u "LATIN1"), (1, u "UTF16")] 323

def k9m0 : Method := { name := "<init>", desc := "()V", sig := { parameters := [], returnType := none }, accessFlags := 1, code := none }
def k9c1 : Code := { maxStack := 2, maxLocals := 3, code := jdk_42_method_66_code, exceptionTable := #[], attributes := #[] }
def k9m1 : Method := { name := "equals", desc := "(Ljava/lang/Object;)Z", sig := { parameters := [(.object "java/lang/Object")], returnType := some .boolean }, accessFlags := 1, code := some k9c1 }
/-- java/lang/String -/
def k9 : Class := { plain "java/lang/String" (some 0) with
  accessFlags := 49
  interfaces := #[4, 3, 7, 2, 8]
  cf := some (fileOf pool9 10 #[.nestMembers #[1103]] #[{ accessFlags := 1, nameIndex := 5, descriptorIndex := 6, attributes := #[] }, { accessFlags := 1, nameIndex := 543, descriptorIndex := 573, attributes := #[] }] 49 2 #[1106, 1108, 575, 1110, 1112] #[{ accessFlags := 18, nameIndex := 13, descriptorIndex := 14, attributes := #[] }, { accessFlags := 18, nameIndex := 17, descriptorIndex := 18, attributes := #[] }, { accessFlags := 2, nameIndex := 21, descriptorIndex := 22, attributes := #[] }, { accessFlags := 2, nameIndex := 25, descriptorIndex := 26, attributes := #[] }, { accessFlags := 26, nameIndex := 1116, descriptorIndex := 1117, attributes := #[] }, { accessFlags := 24, nameIndex := 40, descriptorIndex := 26, attributes := #[] }, { accessFlags := 26, nameIndex := 1101, descriptorIndex := 1102, attributes := #[] }, { accessFlags := 26, nameIndex := 1121, descriptorIndex := 1122, attributes := #[] }, { accessFlags := 25, nameIndex := 599, descriptorIndex := 600, attributes := #[] }, { accessFlags := 24, nameIndex := 1125, descriptorIndex := 18, attributes := #[] }, { accessFlags := 24, nameIndex := 1127, descriptorIndex := 18, attributes := #[] }])
  fields := #[{ name := "value", type := (.array .byte), accessFlags := 18, slot := 0, constantValue := 0 }, { name := "coder", type := .byte, accessFlags := 18, slot := 1, constantValue := 0 }, { name := "hash", type := .int, accessFlags := 2, slot := 2, constantValue := 0 }, { name := "hashIsZero", type := .boolean, accessFlags := 2, slot := 3, constantValue := 0 }, { name := "serialVersionUID", type := .long, accessFlags := 26, slot := 0, constantValue := 0 }, { name := "COMPACT_STRINGS", type := .boolean, accessFlags := 24, slot := 1, constantValue := 0 }, { name := "serialPersistentFields", type := (.array (.object "java/io/ObjectStreamField")), accessFlags := 26, slot := 2, constantValue := 0 }, { name := "REPL", type := .char, accessFlags := 26, slot := 3, constantValue := 0 }, { name := "CASE_INSENSITIVE_ORDER", type := (.object "java/util/Comparator"), accessFlags := 25, slot := 4, constantValue := 0 }, { name := "LATIN1", type := .byte, accessFlags := 24, slot := 5, constantValue := 0 }, { name := "UTF16", type := .byte, accessFlags := 24, slot := 6, constantValue := 0 }]
  methods := #[k9m0, k9m1]
  instanceTypes := #[(.array .byte), .byte, .int, .boolean]
  staticTypes := #[.long, .boolean, (.array (.object "java/io/ObjectStreamField")), .char, (.object "java/util/Comparator"), .byte, .byte]
  resolved := Array.replicate 1451 none
  statics := some 1 }

def pool10 : Array CpInfo := pool [(4, .class_ 6), (1, u "java/lang/Object"), (0, u "<init>"), (0, u "()V"), (5, .class_ 16), (1, u "java/lang/StringLatin1"), (104, u "$assertionsDisabled"), (0, u "Z"), (98, .class_ 223), (1, u "java/lang/StringLatin1$LinesSpliterator"), (57, u "equals"), (0, u "([B[B)Z"), (107, .class_ 391), (0, u "java/lang/StringLatin1$CharsSpliterator")] 3

def k10m0 : Method := { name := "<init>", desc := "()V", sig := { parameters := [], returnType := none }, accessFlags := 0, code := none }
def k10c1 : Code := { maxStack := 3, maxLocals := 3, code := jdk_43_method_13_code, exceptionTable := #[], attributes := #[] }
def k10m1 : Method := { name := "equals", desc := "([B[B)Z", sig := { parameters := [(.array .byte), (.array .byte)], returnType := some .boolean }, accessFlags := 9, code := some k10c1 }
/-- java/lang/StringLatin1 -/
def k10 : Class := { plain "java/lang/StringLatin1" (some 0) with
  accessFlags := 48
  interfaces := #[]
  cf := some (fileOf pool10 14 #[.nestMembers #[390, 221]] #[{ accessFlags := 0, nameIndex := 7, descriptorIndex := 8, attributes := #[] }, { accessFlags := 9, nameIndex := 281, descriptorIndex := 282, attributes := #[] }] 48 4 #[] #[{ accessFlags := 4120, nameIndex := 121, descriptorIndex := 122, attributes := #[] }])
  fields := #[{ name := "$assertionsDisabled", type := .boolean, accessFlags := 4120, slot := 0, constantValue := 0 }]
  methods := #[k10m0, k10m1]
  instanceTypes := #[]
  staticTypes := #[.boolean]
  resolved := Array.replicate 395 none
  statics := none }

def pool11 : Array CpInfo := pool [(2, .class_ 4), (1, u "java/lang/Object"), (0, u "<init>"), (0, u "()V"), (17, .class_ 26), (1, u "jdk/internal/util/Preconditions"), (28, .class_ 56), (0, u "jdk/internal/util/Preconditions$4"), (57, .class_ 115), (0, u "jdk/internal/util/Preconditions$1"), (7, u "SIOOBE_FORMATTER"), (0, u "Ljava/util/function/BiFunction;"), (0, .class_ 126), (0, u "jdk/internal/util/Preconditions$2"), (3, u "AIOOBE_FORMATTER"), (0, .class_ 132), (0, u "jdk/internal/util/Preconditions$3"), (3, u "IOOBE_FORMATTER")] 57

def k11m0 : Method := { name := "<init>", desc := "()V", sig := { parameters := [], returnType := none }, accessFlags := 1, code := none }
/-- jdk/internal/util/Preconditions -/
def k11 : Class := { plain "jdk/internal/util/Preconditions" (some 0) with
  accessFlags := 33
  interfaces := #[]
  cf := some (fileOf pool11 24 #[.nestMembers #[55, 131, 125, 114]] #[{ accessFlags := 1, nameIndex := 5, descriptorIndex := 6, attributes := #[] }] 33 2 #[] #[{ accessFlags := 25, nameIndex := 123, descriptorIndex := 124, attributes := #[] }, { accessFlags := 25, nameIndex := 130, descriptorIndex := 124, attributes := #[] }, { accessFlags := 25, nameIndex := 136, descriptorIndex := 124, attributes := #[] }])
  fields := #[{ name := "SIOOBE_FORMATTER", type := (.object "java/util/function/BiFunction"), accessFlags := 25, slot := 0, constantValue := 0 }, { name := "AIOOBE_FORMATTER", type := (.object "java/util/function/BiFunction"), accessFlags := 25, slot := 1, constantValue := 0 }, { name := "IOOBE_FORMATTER", type := (.object "java/util/function/BiFunction"), accessFlags := 25, slot := 2, constantValue := 0 }]
  methods := #[k11m0]
  instanceTypes := #[]
  staticTypes := #[(.object "java/util/function/BiFunction"), (.object "java/util/function/BiFunction"), (.object "java/util/function/BiFunction")]
  resolved := Array.replicate 194 none
  statics := some 2 }

def pool12 : Array CpInfo := pool [(9, u "<init>"), (6, .class_ 18), (1, u "java/lang/Object"), (0, u "()V"), (1, .class_ 23), (1, u "jdk/internal/util/ArraysSupport"), (0, u "LOG2_ARRAY_LONG_INDEX_SCALE"), (0, u "I"), (2, u "U"), (0, u "Ljdk/internal/misc/Unsafe;"), (8, u "BIG_ENDIAN"), (0, u "Z"), (8, u "LOG2_BYTE_BIT_SIZE"), (4, u "LOG2_ARRAY_INT_INDEX_SCALE"), (54, u "JLA"), (0, u "Ljdk/internal/access/JavaLangAccess;"), (11, u "LOG2_ARRAY_BOOLEAN_INDEX_SCALE"), (9, u "LOG2_ARRAY_BYTE_INDEX_SCALE"), (5, u "LOG2_ARRAY_CHAR_INDEX_SCALE"), (5, u "LOG2_ARRAY_SHORT_INDEX_SCALE"), (18, u "LOG2_ARRAY_FLOAT_INDEX_SCALE"), (24, u "LOG2_ARRAY_DOUBLE_INDEX_SCALE"), (89, u "T_BOOLEAN"), (2, u "T_CHAR"), (1, u "T_FLOAT"), (1, u "T_DOUBLE"), (1, u "T_BYTE"), (1, u "T_SHORT"), (1, u "T_INT"), (1, u "T_LONG"), (1, u "SOFT_MAX_ARRAY_LENGTH")] 83

def k12m0 : Method := { name := "<init>", desc := "()V", sig := { parameters := [], returnType := none }, accessFlags := 2, code := none }
/-- jdk/internal/util/ArraysSupport -/
def k12 : Class := { plain "jdk/internal/util/ArraysSupport" (some 0) with
  accessFlags := 33
  interfaces := #[]
  cf := some (fileOf pool12 21 #[] #[{ accessFlags := 2, nameIndex := 9, descriptorIndex := 19, attributes := #[] }] 33 16 #[] #[{ accessFlags := 24, nameIndex := 28, descriptorIndex := 29, attributes := #[] }, { accessFlags := 26, nameIndex := 38, descriptorIndex := 39, attributes := #[] }, { accessFlags := 25, nameIndex := 121, descriptorIndex := 25, attributes := #[] }, { accessFlags := 25, nameIndex := 131, descriptorIndex := 25, attributes := #[] }, { accessFlags := 25, nameIndex := 137, descriptorIndex := 25, attributes := #[] }, { accessFlags := 25, nameIndex := 143, descriptorIndex := 25, attributes := #[] }, { accessFlags := 25, nameIndex := 53, descriptorIndex := 25, attributes := #[] }, { accessFlags := 25, nameIndex := 24, descriptorIndex := 25, attributes := #[] }, { accessFlags := 25, nameIndex := 162, descriptorIndex := 25, attributes := #[] }, { accessFlags := 25, nameIndex := 187, descriptorIndex := 25, attributes := #[] }, { accessFlags := 26, nameIndex := 48, descriptorIndex := 25, attributes := #[] }, { accessFlags := 25, nameIndex := 277, descriptorIndex := 25, attributes := #[] }, { accessFlags := 25, nameIndex := 280, descriptorIndex := 25, attributes := #[] }, { accessFlags := 25, nameIndex := 282, descriptorIndex := 25, attributes := #[] }, { accessFlags := 25, nameIndex := 284, descriptorIndex := 25, attributes := #[] }, { accessFlags := 25, nameIndex := 286, descriptorIndex := 25, attributes := #[] }, { accessFlags := 25, nameIndex := 288, descriptorIndex := 25, attributes := #[] }, { accessFlags := 25, nameIndex := 290, descriptorIndex := 25, attributes := #[] }, { accessFlags := 25, nameIndex := 292, descriptorIndex := 25, attributes := #[] }, { accessFlags := 26, nameIndex := 108, descriptorIndex := 109, attributes := #[] }, { accessFlags := 25, nameIndex := 294, descriptorIndex := 25, attributes := #[] }])
  fields := #[{ name := "U", type := (.object "jdk/internal/misc/Unsafe"), accessFlags := 24, slot := 0, constantValue := 0 }, { name := "BIG_ENDIAN", type := .boolean, accessFlags := 26, slot := 1, constantValue := 0 }, { name := "LOG2_ARRAY_BOOLEAN_INDEX_SCALE", type := .int, accessFlags := 25, slot := 2, constantValue := 0 }, { name := "LOG2_ARRAY_BYTE_INDEX_SCALE", type := .int, accessFlags := 25, slot := 3, constantValue := 0 }, { name := "LOG2_ARRAY_CHAR_INDEX_SCALE", type := .int, accessFlags := 25, slot := 4, constantValue := 0 }, { name := "LOG2_ARRAY_SHORT_INDEX_SCALE", type := .int, accessFlags := 25, slot := 5, constantValue := 0 }, { name := "LOG2_ARRAY_INT_INDEX_SCALE", type := .int, accessFlags := 25, slot := 6, constantValue := 0 }, { name := "LOG2_ARRAY_LONG_INDEX_SCALE", type := .int, accessFlags := 25, slot := 7, constantValue := 0 }, { name := "LOG2_ARRAY_FLOAT_INDEX_SCALE", type := .int, accessFlags := 25, slot := 8, constantValue := 0 }, { name := "LOG2_ARRAY_DOUBLE_INDEX_SCALE", type := .int, accessFlags := 25, slot := 9, constantValue := 0 }, { name := "LOG2_BYTE_BIT_SIZE", type := .int, accessFlags := 26, slot := 10, constantValue := 0 }, { name := "T_BOOLEAN", type := .int, accessFlags := 25, slot := 11, constantValue := 0 }, { name := "T_CHAR", type := .int, accessFlags := 25, slot := 12, constantValue := 0 }, { name := "T_FLOAT", type := .int, accessFlags := 25, slot := 13, constantValue := 0 }, { name := "T_DOUBLE", type := .int, accessFlags := 25, slot := 14, constantValue := 0 }, { name := "T_BYTE", type := .int, accessFlags := 25, slot := 15, constantValue := 0 }, { name := "T_SHORT", type := .int, accessFlags := 25, slot := 16, constantValue := 0 }, { name := "T_INT", type := .int, accessFlags := 25, slot := 17, constantValue := 0 }, { name := "T_LONG", type := .int, accessFlags := 25, slot := 18, constantValue := 0 }, { name := "JLA", type := (.object "jdk/internal/access/JavaLangAccess"), accessFlags := 26, slot := 19, constantValue := 0 }, { name := "SOFT_MAX_ARRAY_LENGTH", type := .int, accessFlags := 25, slot := 20, constantValue := 0 }]
  methods := #[k12m0]
  instanceTypes := #[]
  staticTypes := #[(.object "jdk/internal/misc/Unsafe"), .boolean, .int, .int, .int, .int, .int, .int, .int, .int, .int, .int, .int, .int, .int, .int, .int, .int, .int, (.object "jdk/internal/access/JavaLangAccess"), .int]
  resolved := Array.replicate 378 none
  statics := none }

def pool13 : Array CpInfo := pool [(1, u "java/lang/Cloneable"), (0, .class_ 1), (0, u "java/lang/Object"), (0, .class_ 3)] 3

/-- java/lang/Cloneable -/
def k13 : Class := { plain "java/lang/Cloneable" (some 0) with
  accessFlags := 1537
  interfaces := #[]
  cf := some (fileOf pool13 2 #[] #[] 1537 4 #[] #[])
  fields := #[]
  methods := #[]
  instanceTypes := #[]
  staticTypes := #[]
  resolved := Array.replicate 8 none
  statics := none }

/-- the primitive byte -/
def k14 : Class := { plain "byte" none with kind := .primitive 'B', accessFlags := 0x411 }
/-- [B -/
def k15 : Class := { plain "[B" (some 0) with kind := .array 14 .byte, interfaces := #[13, 4], accessFlags := 1041 }

/-- the primitive int -/
def k16 : Class := { plain "int" none with kind := .primitive 'I', accessFlags := 0x411 }
/-- [I -/
def k17 : Class := { plain "[I" (some 0) with kind := .array 16 .int, interfaces := #[13, 4], accessFlags := 1041 }

def heap : Heap := #[{ cls := 6, slots := #[.ref 7, .ref 8, .null], vm := .statics 6 },
  { cls := 9, slots := #[.long 0, .int 1, .null, .int 0, .null, .int 0, .int 0], vm := .statics 9 },
  { cls := 11, slots := #[.null, .null, .null], vm := .statics 11 },
  { cls := 15, slots := #[.int 49, .int 46, .int 48], vm := .none },
  { cls := 15, slots := #[.int 50, .int 48, .int 48, .int 52, .int 47, .int 48, .int 56], vm := .none },
  { cls := 9, slots := #[.ref 3, .int 0, .int 0, .int 0], vm := .none },
  { cls := 9, slots := #[.ref 4, .int 0, .int 0, .int 0], vm := .none },
  { cls := 6, slots := #[.null, .int 0, .int 0, .ref 5, .null], vm := .none },
  { cls := 6, slots := #[.null, .int 1, .int 0, .ref 6, .null], vm := .none }]
def classes : Array Class := #[k0, k1, k2, k3, k4, k5, k6, k7, k8, k9, k10, k11, k12, k13, k14, k15, k16, k17]
def interned : List (Array UInt16 × Addr) := []
def slotsUsed : Nat := 41
def theMethod : MethodId := ⟨1, 1⟩
def args0 : Array Value := #[.int 3]
def aboutOver (below : List Frame) : State where
  vm := { classes := classes, interned := interned.toArray }
  heap := heap
  slotsUsed := slotsUsed
  threads := #[{ frames := .invoking theMethod args0 :: below }]
def below0 : List Frame := [.native { method := ⟨0, 0⟩, args := #[] }]
def about1 : State := aboutOver below0
def p0 : Program := .bare "" "" ""
def e0 : Env := launch0.env 0 0 0
theorem w_frames : about1.frames = Frame.invoking theMethod args0 :: below0 := rfl
set_option maxRecDepth 65536 in
theorem w_args : argsFit about1.vm theMethod args0 = true := by decide +kernel
set_option maxRecDepth 65536 in
theorem w_heap : heapFits about1 = true := by decide +kernel
set_option maxRecDepth 65536 in
theorem w_runnable : about1.curStatus? = some .runnable := by decide +kernel
set_option maxRecDepth 65536 in
theorem w_alone : about1.alone = true := by decide +kernel
set_option maxRecDepth 65536 in
theorem w_named : about1.methodNamed? x = some theMethod := by decide +kernel
set_option maxRecDepth 65536 in
theorem w_hears : about1.hears theMethod below0 = true := by decide +kernel
set_option maxRecDepth 65536 in
theorem w_ripe : about1.ripe theMethod args0 below0 = true := by decide +kernel
theorem w_running : about1.status = .running := rfl
set_option maxRecDepth 65536 in
theorem w_room : about1.hasRoom e0.platform room_1 = true :=
  launch0.hasRoom_least _ room_1 (by decide +kernel) (by decide +kernel) (by decide +kernel) (by decide +kernel) (by decide +kernel) (by decide +kernel)
theorem allAtoms_all (ts : List Jvm.Cond) (a : Array Jvm.Value) (st : Jvm.State) : (allAtoms ts).before a st = ts.all (fun c => c.before a st) := by
  induction ts with
  | nil => rfl
  | cons c t ih =>
    show (Jvm.Cond.and c (allAtoms t)).before a st = _
    rw [Jvm.Cond.before_and, ih, List.all_cons]
def words1 : List Jvm.Cond := Jvm.Cond.code x code maxLocals ret :: tables_1
/-- a 'code' word, met by the world's own term for the bytes: nothing is compared byte by byte -/
theorem code_word {y : MethodName} {bytes : ByteArray} {mx : Nat} {rt : Option FieldType} {a : Array Value} {s : State} {m : MethodId} {meth : Method} {c : Code} (h1 : s.methodNamed? y = some m) (h2 : s.vm.method? m = some meth) (h3 : meth.code = some c) (h4 : c.code = bytes)
    (h5 : (c.maxLocals == mx && c.exceptionTable.isEmpty && decide (c.maxStack ≤ mostOperands) && decide (meth.sig.returnType = rt) && !meth.locks && decide (parseMethodDescriptor y.desc = some meth.sig)) = true) : (Jvm.Cond.code y bytes mx rt).before a s = true := by
  simp only [Bool.and_eq_true, beq_iff_eq, Bool.not_eq_true', decide_eq_true_eq] at h5
  obtain ⟨⟨⟨⟨⟨g1, g2⟩, g3⟩, g4⟩, g5⟩, g6⟩ := h5
  simp [Cond.before, Cond.holds, Cond.value, h1, h2, h3, h4, g1, g2, g3, g4, g5, g6]
def isCode : Jvm.Cond → Bool
  | .code _ _ _ _ => true
  | _ => false
theorem all_split {L : List Jvm.Cond} {P : Jvm.Cond → Bool} (h1 : L.all (fun c => isCode c || P c) = true) (h2 : ∀ c ∈ L.filter isCode, P c = true) : L.all P = true := by
  refine List.all_eq_true.mpr fun c hc => ?_
  have h := List.all_eq_true.mp h1 c hc
  rcases Bool.eq_false_or_eq_true (isCode c) with hi | hi
  · exact h2 c (List.mem_filter.mpr ⟨hc, hi⟩)
  · simpa [hi] using h
set_option maxRecDepth 65536 in
theorem w_c0 : (Jvm.Cond.code x code maxLocals ret).before args0 about1 = true := code_word (m := ⟨1, 1⟩) (meth := k1m1) (c := k1c1) (by decide +kernel) rfl rfl rfl (by decide +kernel)
set_option maxRecDepth 65536 in
theorem w_c1 : (Jvm.Cond.code ({ cls := "com/example/addressee/addressee/AddressingVersion", name := "hasBindingFaultDetails", desc := "()Z" } : Jvm.MethodName) prog_8_method_20_code (1 : Nat) (Option.some Jvm.ClassFile.FieldType.boolean)).before args0 about1 = true := code_word (m := ⟨6, 1⟩) (meth := k6m1) (c := k6c1) (by decide +kernel) rfl rfl rfl (by decide +kernel)
set_option maxRecDepth 65536 in
theorem w_c2 : (Jvm.Cond.code ({ cls := "com/example/addressee/addressee/AddressingVersion", name := "label", desc := "()Ljava/lang/String;" } : Jvm.MethodName) prog_8_method_4_code (1 : Nat) (Option.some (Jvm.ClassFile.FieldType.object "java/lang/String"))).before args0 about1 = true := code_word (m := ⟨6, 0⟩) (meth := k6m0) (c := k6c0) (by decide +kernel) rfl rfl rfl (by decide +kernel)
set_option maxRecDepth 65536 in
theorem w_c3 : (Jvm.Cond.code ({ cls := "java/lang/String", name := "equals", desc := "(Ljava/lang/Object;)Z" } : Jvm.MethodName) jdk_42_method_66_code (3 : Nat) (Option.some Jvm.ClassFile.FieldType.boolean)).before args0 about1 = true := code_word (m := ⟨9, 1⟩) (meth := k9m1) (c := k9c1) (by decide +kernel) rfl rfl rfl (by decide +kernel)
set_option maxRecDepth 65536 in
theorem w_c4 : (Jvm.Cond.code ({ cls := "java/lang/StringLatin1", name := "equals", desc := "([B[B)Z" } : Jvm.MethodName) jdk_43_method_13_code (3 : Nat) (Option.some Jvm.ClassFile.FieldType.boolean)).before args0 about1 = true := code_word (m := ⟨10, 1⟩) (meth := k10m1) (c := k10c1) (by decide +kernel) rfl rfl rfl (by decide +kernel)
def codes1 : List Jvm.Cond := [Jvm.Cond.code x code maxLocals ret, Jvm.Cond.code ({ cls := "com/example/addressee/addressee/AddressingVersion", name := "hasBindingFaultDetails", desc := "()Z" } : Jvm.MethodName) prog_8_method_20_code (1 : Nat) (Option.some Jvm.ClassFile.FieldType.boolean), Jvm.Cond.code ({ cls := "com/example/addressee/addressee/AddressingVersion", name := "label", desc := "()Ljava/lang/String;" } : Jvm.MethodName) prog_8_method_4_code (1 : Nat) (Option.some (Jvm.ClassFile.FieldType.object "java/lang/String")), Jvm.Cond.code ({ cls := "java/lang/String", name := "equals", desc := "(Ljava/lang/Object;)Z" } : Jvm.MethodName) jdk_42_method_66_code (3 : Nat) (Option.some Jvm.ClassFile.FieldType.boolean), Jvm.Cond.code ({ cls := "java/lang/StringLatin1", name := "equals", desc := "([B[B)Z" } : Jvm.MethodName) jdk_43_method_13_code (3 : Nat) (Option.some Jvm.ClassFile.FieldType.boolean)]
set_option maxRecDepth 65536 in
theorem codes_eq : words1.filter isCode = codes1 := rfl
theorem w_codes : ∀ c ∈ words1.filter isCode, c.before args0 about1 = true := by
  rw [codes_eq]
  intro c hc
  simp only [codes1, List.mem_cons, List.not_mem_nil, or_false] at hc
  rcases hc with rfl | rfl | rfl | rfl | rfl
  · exact w_c0
  · exact w_c1
  · exact w_c2
  · exact w_c3
  · exact w_c4
set_option maxRecDepth 65536 in
theorem w_t1 : (words1.take 24).all (fun c => isCode c || c.before args0 about1) = true := by decide +kernel
set_option maxRecDepth 65536 in
theorem w_t2 : (words1.drop 24).all (fun c => isCode c || c.before args0 about1) = true := by decide +kernel
theorem w_tables : (allAtoms (Jvm.Cond.code x code maxLocals ret :: tables_1)).before args0 about1 = true := by
  rw [allAtoms_all]
  show words1.all (fun c => c.before args0 about1) = true
  refine all_split ?_ w_codes
  rw [← List.take_append_drop 24 words1, List.all_append, w_t1, w_t2]
  rfl
set_option maxRecDepth 65536 in
theorem w_rest : rest_1_c.before args0 about1 = true := by decide +kernel
set_option maxRecDepth 65536 in
theorem w_case : (Jvm.Cond.and given_1 narrow_1).before args0 about1 = true := by decide +kernel
set_option maxRecDepth 65536 in
theorem w_consts : constsHeld consts_1 about1 := Jvm.Lit.constsHeldB_iff.mp (by decide +kernel)
theorem w_applies : (headSpec (Jvm.Cond.code x code maxLocals ret :: tables_1) room_1).applies x e0.platform about1 = true :=
  (Spec.applies_iff w_frames).mpr ⟨w_running, w_runnable, w_alone, w_named, w_hears, w_ripe, w_room, w_tables⟩
theorem atStart : AtStart classFile x code maxLocals ret World_1 tables_1 room_1 Calls_1 rest_1 Pre_1 launch0 p0 e0 about1 theMethod args0 below0 :=
  ⟨lists_1, trivial, launch0.admits_env _ _ _, launch0.least_env, fairChoices_fair.cas, fairChoices_fair.clock, w_frames, w_args, w_heap, w_applies, ⟨w_consts, trivial⟩, w_rest, w_case⟩
end start1
theorem witness_1 : WitnessClaimed_1 := ⟨start1.p0, start1.e0, start1.about1, start1.theMethod, start1.args0, start1.below0, start1.atStart⟩
end Jvm.Pilot.@@N@@
