import JvmDerived
import JvmDerived.Pilot.@@N@@Statement
import JvmDerived.Pilot.@@N@@Code
set_option linter.unusedVariables false
set_option linter.unusedSimpArgs false
namespace Jvm.Pilot.@@N@@
open Jvm Jvm.ClassFile Sem Op Lib Jvm.Free Jvm.Stand Jvm.LawKit Jvm.RoadKit Bundle Jvm.Pilot.@@N@@.Jvm.D

section OwnBase
variable {p : Program} {l : Launch} {e : Env} {R : Room} {s : State} {m : MethodId} {args : Array Value} {below : List Frame} {meth : Method} {c : Code} {T T' : State} {locs : List Loc} {cells slots : Nat} {Z : State} {a0 : Array Value} {h h' : Heap} {Q Q' : Option Value → Heap → List Loc → Prop} {P : State → Outcome → Prop} {g g' : JFrame} {pc : Nat} {Ls : Array Slot} {rest : List Value} {a : Addr} {n0 : Nat}
/-- from T, the frame g on top, the body comes to its end, and the end is as P says -/
def own_Go (p : Program) (e : Env) (below : List Frame) (P : State → Outcome → Prop) (T : State) (g : JFrame) : Prop :=
  ∃ s₂ o, Steps p.tables e below (T.setTop g) s₂ ∧ s₂.status = .running ∧ Ended s₂ below o ∧ P s₂ o
/-- it returned; what it returned, the heap and the written places meet Q; no more is made than R allows -/
def own_P (s : State) (R : Room) (Q : Option Value → Heap → List Loc → Prop) (s₂ : State) (o : Outcome) : Prop := ∃ v L, o = .returned v ∧ Q v s₂.heap L ∧ FrameEnd s o s₂ L R.cells R.slots
theorem own_st (h : ∀ t, Steps p.tables e below (T'.setTop g') t → Steps p.tables e below (T.setTop g) t) (G : own_Go p e below P T' g') : own_Go p e below P T g := by
  obtain ⟨s₂, o, h1, r⟩ := G
  exact ⟨s₂, o, h _ h1, r⟩
theorem own_end (X : Stand p l e R s m args below meth c T locs cells slots) (hlk : meth.locks = false) {v : Option Value} (hv : meth.sig.returnType = none → v = none) (hc : cells ≤ R.cells) (hs : slots ≤ R.slots) (hQ : Q v T.heap locs)
    (hr : ∀ fs, (∀ (f : JFrame) (acts : List Action), f.method = m → f.locked = none → f.entered = [] → (doReturn e (T.setTop f) acts v).1 = T.setFrames fs) → Steps p.tables e below (T.setTop g) (T.setFrames fs)) : own_Go p e below (own_P s R Q) T g := by
  obtain ⟨fs, h1, hrun, hended, hW, hsame⟩ := X.leave (v := v) hv hlk
  exact ⟨_, _, hr fs h1, hrun, hended, _, _, rfl, hQ, ⟨_, rfl⟩, hW, hsame.mono hc hs⟩
/-- a method's contract: called with these arguments at the heap h0 it returns, and Q holds -/
def own_Met (l : Launch) (Z : State) (h0 : Heap) (y : MethodName) (bytes : ByteArray) (maxL : Nat) (ret : Option FieldType) (R : Room) (as : Array Value) (Q : Option Value → Heap → List Loc → Prop) : Prop :=
  ∀ ws : List Jvm.Cond, MetFree l y (head1 (Jvm.Cond.code y bytes maxL ret :: ws) R) (fun a U => a = as ∧ Z.Warmed39 U.vm ∧ U.heap = h0) (fun _ _ _ _ _ => True) (fun _ U o U' => ∃ v L, o = .returned v ∧ Q v U'.heap L ∧ FrameEnd U o U' L R.cells R.slots)
theorem own_body {h0 : Heap} {y : MethodName} {bytes : ByteArray} {maxL : Nat} {ret : Option FieldType} {as : Array Value} (hn : plainName y.cls = true) (he : ∀ m : MethodId, entryFrame m as maxL = mkF m 0 Ls [])
    (body : ∀ (p : Program) (e : Env) (s : State) (m : MethodId) (below : List Frame) (meth : Method) (c : Code) (T : State), Stand p l e R s m as below meth c T [] 0 0 → p.tables.exec = Jvm.exec → c.code = bytes → c.maxLocals = maxL → meth.sig.returnType = ret → meth.locks = false → s.vm.findClass y.cls = some m.cls → meth.name = y.name → Z.Warmed39 s.vm → T.heap = h0 → own_Go p e below (own_P s R Q) T (mkF m 0 Ls [])) :
    own_Met l Z h0 y bytes maxL ret R as Q := by
  intro ws
  refine MetFree.of_bodySF (plainFor_of_name hn) hisR ?_
  intro p e s m args below meth c s₁ Bd hml0 hP hK
  obtain ⟨rfl, hZ, hh⟩ := hP
  have e0 : s₁.heap = h0 := by rw [← hh, Bd.state]; rfl
  obtain ⟨s₂, o, h1, r⟩ := body p e s m below meth c s₁ (Stand.of_body Bd) Bd.exec Bd.bytes hml0 Bd.returns (BodyLoose.notSynchronized Bd) (findClass_of_methodNamed Bd.named) (name_of_methodNamed Bd.named Bd.method).1 hZ e0
  exact ⟨s₂, o, castTop (he m) h1, r⟩
theorem own_Met.imp {h0 : Heap} {y : MethodName} {bytes : ByteArray} {maxL : Nat} {ret : Option FieldType} {as : Array Value} (M : own_Met l Z h0 y bytes maxL ret R as Q) (hq : ∀ v h L, Q v h L → Q' v h L) : own_Met l Z h0 y bytes maxL ret R as Q' := by
  intro ws p e ha hc hk s m args below hf happ hP hK
  obtain ⟨n, o, h1, h2, h3, v, L, h4, h5, h6⟩ := M ws p e ha hc hk s m args below hf happ hP hK
  exact ⟨n, o, h1, h2, h3, v, L, h4, hq _ _ _ h5, h6⟩
/-- a static call by its contract -/
theorem own_callS (X : Stand p l e R s m args below meth c T locs cells slots) (hx : p.tables.exec = Jvm.exec) (hZ : Z.Warmed39 s.vm) (e0 : T.heap = h) {own : String} {index : Nat} {y : MethodName} {bytes : ByteArray} {maxL : Nat} {ret : Option FieldType} {rm : Room}
    (hown : s.vm.findClass own = some m.cls) (w1 : (Jvm.Cond.methodLink own index y).before a0 Z = true) (w2 : (Jvm.Cond.static y).before a0 Z = true) (w3 : (Jvm.Cond.initialized y.cls).before a0 Z = true) (w4 : (Jvm.Cond.code y bytes maxL ret).before a0 Z = true)
    (hy : y.cls ≠ "java/lang/invoke/MethodHandle" ∧ y.cls ≠ "java/lang/invoke/VarHandle") {ps : List FieldType} {r : Option FieldType} (hd : parseMethodDescriptor y.desc = some ⟨ps, r⟩)
    {argsL : List Value} (hn : argsL.length = ps.length) (M : own_Met l Z h y bytes maxL ret rm argsL.toArray Q') (W : Nat) (hf : rm.frames + 1 ≤ R.frames) (hl : W + (maxL + 11) + rm.locals ≤ R.locals) (hc : cells + rm.cells ≤ R.cells) (hs : slots + rm.slots ≤ R.slots)
    {st : List Value} (hst : st = argsL.reverse ++ rest) (hsz : Ls.size = c.maxLocals) (hW : (rest.map fun v => v.category).sum ≤ W) (hdg : decode c.code pc = .ok (.invokestatic index, 3))
    (k : ∀ (v : Option Value) (T' : State) (L : List Loc), Q' v T'.heap L → Stand p l e R s m args below meth c T' (locs ++ L) (cells + rm.cells) (slots + rm.slots) → own_Go p e below P T' (mkF m (pc + 3) Ls (v.toList ++ rest))) :
    own_Go p e below P T (mkF m pc Ls st) := by
  subst hst
  obtain ⟨v, _, ⟨T', L', k', n'⟩, -, X', ⟨L, hQ, l1, l2, l3⟩, st⟩ := Jvm.LawKit.callS X hx (y := y) hown (mvT hZ w1) (mvT hZ w2) (mvT hZ w3) (mvT hZ w4) hy (backOf (W := W) (M []) hZ w4 w3 hf hl) (g := mkF m pc Ls (argsL.reverse ++ rest)) rfl hsz (argsL := argsL) (rest := rest) (lenOf hd hn) rfl (by show 2 * 0 + _ ≤ _; omega) hdg (fun _ _ => ⟨rfl, e0, hc, hs⟩)
  dsimp only [Pt.U, Pt.locs, Pt.cells, Pt.slots] at X' l1 l2 l3 st hQ
  subst l1 l2 l3
  exact own_st st (k v T' L hQ X')
/-- a constructor by its contract -/
theorem own_callN (X : Stand p l e R s m args below meth c T locs cells slots) (hx : p.tables.exec = Jvm.exec) (hZ : Z.Warmed39 s.vm) (e0 : T.heap = h) {own : String} {index : Nat} {y : MethodName} {bytes : ByteArray} {maxL : Nat} {rm : Room} (hy1 : y.name = "<init>")
    (hown : s.vm.findClass own = some m.cls) (w1 : (Jvm.Cond.methodLink own index y).before a0 Z = true) (w2 : (Jvm.Cond.instanceMethod y).before a0 Z = true) (w3 : (Jvm.Cond.initialized y.cls).before a0 Z = true) (w4 : (Jvm.Cond.code y bytes maxL none).before a0 Z = true)
    (hy : y.cls ≠ "java/lang/invoke/MethodHandle" ∧ y.cls ≠ "java/lang/invoke/VarHandle") {ps : List FieldType} {r : Option FieldType} (hd : parseMethodDescriptor y.desc = some ⟨ps, r⟩)
    {argsL : List Value} (hn : argsL.length = ps.length) (M : own_Met l Z h y bytes maxL none rm (.ref a :: argsL).toArray Q') (W : Nat) (hf : rm.frames + 1 ≤ R.frames) (hl : W + (maxL + 11) + rm.locals ≤ R.locals) (hc : cells + rm.cells ≤ R.cells) (hs : slots + rm.slots ≤ R.slots)
    {st : List Value} (hst : st = argsL.reverse ++ .ref a :: rest) (hsz : Ls.size = c.maxLocals) (hW : (rest.map fun v => v.category).sum ≤ W) (hdg : decode c.code pc = .ok (.invokespecial index, 3))
    (k : ∀ (v : Option Value) (T' : State) (L : List Loc), Q' v T'.heap L → Stand p l e R s m args below meth c T' (locs ++ L) (cells + rm.cells) (slots + rm.slots) → own_Go p e below P T' (mkF m (pc + 3) Ls (v.toList ++ rest))) :
    own_Go p e below P T (mkF m pc Ls st) := by
  subst hst
  obtain ⟨v, _, ⟨T', L', k', n'⟩, -, X', ⟨L, hQ, l1, l2, l3⟩, st⟩ := X.specialBack hx (y := y) hy1 hown (mvT hZ w1) (mvT hZ w2) (mvT hZ w4) hy (backOf (W := W) (M []) hZ w4 w3 hf hl) (g := mkF m pc Ls (argsL.reverse ++ .ref a :: rest)) rfl hsz (Steps.refl _) (a := a) (argsL := argsL) (rest := rest) (lenOf hd hn) rfl (by show 2 * 0 + _ ≤ _; omega) hdg (fun _ _ => ⟨rfl, e0, hc, hs⟩)
  dsimp only [Pt.U, Pt.locs, Pt.cells, Pt.slots] at X' l1 l2 l3 st hQ
  subst l1 l2 l3
  exact own_st (fun t q => st.trans q) (k v T' L hQ X')
/-- an instance method by its contract -/
theorem own_callV (X : Stand p l e R s m args below meth c T locs cells slots) (hx : p.tables.exec = Jvm.exec) (hZ : Z.Warmed39 s.vm) (e0 : T.heap = h) {own C : String} {index : Nat} {y z : MethodName} {bytes : ByteArray} {maxL : Nat} {ret : Option FieldType} {rm : Room}
    (hown : s.vm.findClass own = some m.cls) (w1 : (Jvm.Cond.methodLink own index y).before a0 Z = true) (w2 : (Jvm.Cond.declares y).before a0 Z = true) (w5 : (Jvm.Cond.selects y.cls y y).before a0 Z = true) (w6 : (Jvm.Cond.selects C y z).before a0 Z = true) (w7 : (Jvm.Cond.instanceMethod z).before a0 Z = true) (w3 : (Jvm.Cond.initialized z.cls).before a0 Z = true) (w4 : (Jvm.Cond.code z bytes maxL ret).before a0 Z = true)
    (hy : y.cls ≠ "java/lang/invoke/MethodHandle" ∧ y.cls ≠ "java/lang/invoke/VarHandle") {ps : List FieldType} {r : Option FieldType} (hd : parseMethodDescriptor y.desc = some ⟨ps, r⟩) (E : Exa Z h a C)
    {argsL : List Value} (hn : argsL.length = ps.length) (M : own_Met l Z h z bytes maxL ret rm (.ref a :: argsL).toArray Q') (W : Nat) (hf : rm.frames + 1 ≤ R.frames) (hl : W + (maxL + 11) + rm.locals ≤ R.locals) (hc : cells + rm.cells ≤ R.cells) (hs : slots + rm.slots ≤ R.slots)
    {st : List Value} (hst : st = argsL.reverse ++ .ref a :: rest) (hsz : Ls.size = c.maxLocals) (hW : (rest.map fun v => v.category).sum ≤ W) (hdg : decode c.code pc = .ok (.invokevirtual index, 3))
    (k : ∀ (v : Option Value) (T' : State) (L : List Loc), Q' v T'.heap L → Stand p l e R s m args below meth c T' (locs ++ L) (cells + rm.cells) (slots + rm.slots) → own_Go p e below P T' (mkF m (pc + 3) Ls (v.toList ++ rest))) :
    own_Go p e below P T (mkF m pc Ls st) := by
  subst hst
  obtain ⟨cq, kq, qa, qb, qc⟩ := isOf hZ e0 E
  obtain ⟨v, _, ⟨T', L', k', n'⟩, -, X', ⟨L, hQ, l1, l2, l3⟩, st⟩ := X.virtualBack hx (y := y) (z := z) hown (mvT hZ w1) (mvT hZ w2) (notFace_of_selects (args := #[]) (mvT hZ w5)) (mvT hZ w6) (mvT hZ w7) hy (backOf (W := W) (M []) hZ w4 w3 hf hl) qa qc (g := mkF m pc Ls (argsL.reverse ++ .ref a :: rest)) rfl hsz (Steps.refl _) (argsL := argsL) (rest := rest) (lenOf hd hn) rfl (by show 2 * 0 + _ ≤ _; omega) hdg (fun _ _ => ⟨rfl, e0, hc, hs⟩)
  dsimp only [Pt.U, Pt.locs, Pt.cells, Pt.slots] at X' l1 l2 l3 st hQ
  subst l1 l2 l3
  exact own_st (fun t q => st.trans q) (k v T' L hQ X')
/-- a private instance method by its contract (no 'selects' word is laid for it) -/
theorem own_callP (X : Stand p l e R s m args below meth c T locs cells slots) (hx : p.tables.exec = Jvm.exec) (hZ : Z.Warmed39 s.vm) (e0 : T.heap = h) {own C : String} {index kk : Nat} {y : MethodName} {bytes : ByteArray} {maxL : Nat} {ret : Option FieldType} {rm : Room}
    (hown : s.vm.findClass own = some m.cls) (w1 : (Jvm.Cond.methodLink own index y).before a0 Z = true) (w2 : (Jvm.Cond.instanceMethod y).before a0 Z = true) (wp : (Jvm.Cond.privateMethod y).before a0 Z = true) (wi : (Jvm.Cond.instantiable y.cls kk).before a0 Z = true) (w3 : (Jvm.Cond.initialized y.cls).before a0 Z = true) (w4 : (Jvm.Cond.code y bytes maxL ret).before a0 Z = true)
    (hy : y.cls ≠ "java/lang/invoke/MethodHandle" ∧ y.cls ≠ "java/lang/invoke/VarHandle") {ps : List FieldType} {r : Option FieldType} (hd : parseMethodDescriptor y.desc = some ⟨ps, r⟩) (E : Exa Z h a C)
    {argsL : List Value} (hn : argsL.length = ps.length) (M : own_Met l Z h y bytes maxL ret rm (.ref a :: argsL).toArray Q') (W : Nat) (hf : rm.frames + 1 ≤ R.frames) (hl : W + (maxL + 11) + rm.locals ≤ R.locals) (hc : cells + rm.cells ≤ R.cells) (hs : slots + rm.slots ≤ R.slots)
    {st : List Value} (hst : st = argsL.reverse ++ .ref a :: rest) (hsz : Ls.size = c.maxLocals) (hW : (rest.map fun v => v.category).sum ≤ W) (hdg : decode c.code pc = .ok (.invokevirtual index, 3))
    (k : ∀ (v : Option Value) (T' : State) (L : List Loc), Q' v T'.heap L → Stand p l e R s m args below meth c T' (locs ++ L) (cells + rm.cells) (slots + rm.slots) → own_Go p e below P T' (mkF m (pc + 3) Ls (v.toList ++ rest))) :
    own_Go p e below P T (mkF m pc Ls st) := by
  subst hst
  obtain ⟨cq, q1, q2⟩ := E.cell
  have hP : s.PrivateAt y := Cond.privateMethod_at (mvP hZ wp (args := #[]))
  obtain ⟨c2, k2, i1, i2, -, i4, -⟩ := Cond.instantiable_spec (mvT (args := #[]) hZ wi)
  have hni : k2.isInterface = false := by
    cases hb : k2.isInterface with
    | false => rfl
    | true => rw [hb] at i4; cases i4
  have hsel : (Jvm.Cond.selects y.cls y y).before args s = true := selects_self_of_private i1 i2 hni hP (mvT hZ w2) hy
  obtain ⟨v, _, ⟨T', L', k', n'⟩, -, X', ⟨L, hQ, l1, l2, l3⟩, st⟩ := X.privateBack hx (y := y) hown (mvT hZ w1) (mvT hZ w2) hsel hP (mvT hZ w4) hy (backOf (W := W) (M []) hZ w4 w3 hf hl) (g := mkF m pc Ls (argsL.reverse ++ .ref a :: rest)) rfl hsz (Steps.refl _) (a := a) (by rw [e0]; exact q1) q2 (argsL := argsL) (rest := rest) (lenOf hd hn) rfl (by show 2 * 0 + _ ≤ _; omega) hdg (fun _ _ => ⟨rfl, e0, hc, hs⟩)
  dsimp only [Pt.U, Pt.locs, Pt.cells, Pt.slots] at X' l1 l2 l3 st hQ
  subst l1 l2 l3
  exact own_st (fun t q => st.trans q) (k v T' L hQ X')
/-- Object's constructor -/
theorem own_initO (X : Stand p l e R s m args below meth c T locs cells slots) (hx : p.tables.exec = Jvm.exec) (hZ : Z.Warmed39 s.vm) (e0 : T.heap = h) {own : String} {idx : Nat} (hown : s.vm.findClass own = some m.cls) (w1 : (Jvm.Cond.methodLink own idx Lib.objectInit).before a0 Z = true) (w2 : (Jvm.Cond.instanceMethod Lib.objectInit).before a0 Z = true)
    (w3 : (Jvm.Cond.code Lib.objectInit ⟨#[0xb1]⟩ 1 none).before a0 Z = true) (hsz : Ls.size = c.maxLocals) (hd : decode c.code pc = .ok (.invokespecial idx, 3)) (hf : 1 ≤ R.frames) (W : Nat) (hW : (rest.map fun v => v.category).sum ≤ W) (hl : W + 12 ≤ R.locals)
    (k : ∀ T' : State, Stand p l e R s m args below meth c T' locs cells slots → T'.heap = h → own_Go p e below P T' (mkF m (pc + 3) Ls rest)) : own_Go p e below P T (mkF m pc Ls (.ref a :: rest)) := by
  obtain ⟨T', X', e', st⟩ := initO X hx hZ hown w1 w2 w3 e0 (g := mkF m pc Ls (.ref a :: rest)) rfl hsz rfl hd hf (W := W) (by show 2 * 0 + _ ≤ _; omega) hl
  exact own_st st (k T' X' e')
theorem own_getF (X : Stand p l e R s m args below meth c T locs cells slots) (hx : p.tables.exec = Jvm.exec) (hZ : Z.Warmed39 s.vm) (e0 : T.heap = h) {own C n d : String} {index : Nat} (hown : s.vm.findClass own = some m.cls) (w : (Jvm.Cond.fieldLink own index C n d).before a0 Z = true)
    {v : Value} (F : Fld Z h a C n d v) (hd : decode c.code pc = .ok (.getfield index, 3))
    (k : ∀ T' : State, Stand p l e R s m args below meth c T' locs cells slots → T'.heap = h → own_Go p e below P T' (mkF m (pc + 3) Ls (v :: rest))) : own_Go p e below P T (mkF m pc Ls (.ref a :: rest)) := by
  obtain ⟨T', X', e', st⟩ := getF X hx hZ hown (host := "") (Or.inl w) Via.refl e0 F (g := mkF m pc Ls (.ref a :: rest)) rfl rfl hd
  exact own_st st (k T' X' e')
theorem own_putF (X : Stand p l e R s m args below meth c T locs cells slots) (hx : p.tables.exec = Jvm.exec) (hZ : Z.Warmed39 s.vm) (e0 : T.heap = h) {own C O n d : String} {index kk : Nat} {ty : FieldType} (hown : s.vm.findClass own = some m.cls) (w : (Jvm.Cond.fieldLink own index O n d).before a0 Z = true)
    {v old : Value} (F : Fld Z h a O n d old) (E : Exa Z h a C) (L : (Jvm.Cond.lays C O n d).before a0 Z = true ∨ ((Jvm.Cond.laysFinal C O n d).before a0 Z = true ∧ own = O ∧ meth.name = "<init>")) (wi : (Jvm.Cond.instantiable C kk).before a0 Z = true)
    (hty : parseFieldDescriptor d = some ty) (hn : narrow ty v = v) (hf : fits ty v = true) (N : Fr n0 locs) (ga : n0 ≤ a) (hd : decode c.code pc = .ok (.putfield index, 3))
    (k : ∀ (T' : State) (h' : Heap), Stand p l e R s m args below meth c T' (locs ++ [⟨a, Jvm.RoadKit.slotOf Z O n d⟩]) cells slots → T'.heap = h' → Wr h h' a (Jvm.RoadKit.slotOf Z O n d) v → Fr n0 (locs ++ [⟨a, Jvm.RoadKit.slotOf Z O n d⟩]) → own_Go p e below P T' (mkF m (pc + 3) Ls rest)) :
    own_Go p e below P T (mkF m pc Ls (v :: .ref a :: rest)) := by
  obtain ⟨T', h', X', e', W', st⟩ := putF X hx hZ hown (host := "") (Or.inl w) Via.refl e0 F E L wi hty hn hf (g := mkF m pc Ls (v :: .ref a :: rest)) rfl rfl hd
  exact own_st st (k T' h' X' e' W' (Fr.snoc X' N ga))
theorem own_new (X : Stand p l e R s m args below meth c T locs cells slots) (hx : p.tables.exec = Jvm.exec) (hZ : Z.Warmed39 s.vm) (e0 : T.heap = h) {own C : String} {index n : Nat} (hown : s.vm.findClass own = some m.cls) (w : (Jvm.Cond.classLink own index C).before a0 Z = true) (wi : (Jvm.Cond.instantiable C n).before a0 Z = true) (wz : (Jvm.Cond.initialized C).before a0 Z = true)
    (hd : decode c.code pc = .ok (.new index, 3)) (hc : cells + 1 ≤ R.cells) (hl : slots + n ≤ R.slots)
    (k : ∀ (T' : State) (h' : Heap) (a : Addr), Stand p l e R s m args below meth c T' locs (cells + 1) (slots + n) → T'.heap = h' → Ext h h' → h.size = a → Exa Z h' a C → (∀ {O nm d : String} {ty : FieldType}, Laid Z a0 C O nm d → parseFieldDescriptor d = some ty → Fld Z h' a O nm d (defaultValue ty)) → own_Go p e below P T' (mkF m (pc + 3) Ls (.ref a :: rest))) :
    own_Go p e below P T (mkF m pc Ls rest) := by
  obtain ⟨T', h', X', e', E', A', D', -, st⟩ := newO X hx hZ hown w wi wz e0 (g := mkF m pc Ls rest) rfl hd hc hl
  exact own_st st (k T' h' h.size X' e' E' rfl A' D')
theorem own_inst (X : Stand p l e R s m args below meth c T locs cells slots) (hx : p.tables.exec = Jvm.exec) (hZ : Z.Warmed39 s.vm) (e0 : T.heap = h) {own K : String} {index : Nat} (hown : s.vm.findClass own = some m.cls) (w : (Jvm.Cond.classLink own index K).before a0 Z = true) (F : Ins Z h a K true) (hd : decode c.code pc = .ok (.instanceof index, 3))
    (k : ∀ T' : State, Stand p l e R s m args below meth c T' locs cells slots → T'.heap = h → own_Go p e below P T' (mkF m (pc + 3) Ls (.int 1 :: rest))) : own_Go p e below P T (mkF m pc Ls (.ref a :: rest)) := by
  obtain ⟨T', X', e', st⟩ := instY X hx hZ hown w e0 F (g := mkF m pc Ls (.ref a :: rest)) rfl rfl hd
  exact own_st st (k T' X' e')
theorem own_cast (X : Stand p l e R s m args below meth c T locs cells slots) (hx : p.tables.exec = Jvm.exec) (hZ : Z.Warmed39 s.vm) (e0 : T.heap = h) {own K : String} {index : Nat} (hown : s.vm.findClass own = some m.cls) (w : (Jvm.Cond.classLink own index K).before a0 Z = true) (F : Ins Z h a K true) (hd : decode c.code pc = .ok (.checkcast index, 3))
    (k : ∀ T' : State, Stand p l e R s m args below meth c T' locs cells slots → T'.heap = h → own_Go p e below P T' (mkF m (pc + 3) Ls (.ref a :: rest))) : own_Go p e below P T (mkF m pc Ls (.ref a :: rest)) := by
  obtain ⟨T', X', e', st⟩ := castY X hx hZ hown w e0 F (g := mkF m pc Ls (.ref a :: rest)) rfl rfl hd
  exact own_st st (k T' X' e')
/-- an array of n places; place j holds f j -/
def own_A (Z : State) (h : Heap) (a : Addr) (ty : FieldType) (n : Nat) (f : Nat → Value) : Prop := ∃ c : Cell, Arr Z h a c ty ∧ c.slots.size = n ∧ ∀ j, j < n → c.slots[j]? = some (f j)
def own_upd {α : Type} (f : Nat → α) (i : Nat) (x : α) : Nat → α := fun j => if j = i then x else f j
/-- the int j names the place i of n -/
abbrev own_ix (j : Int32) (i n : Nat) : Prop := ¬ j < 0 ∧ j.toNatClampNeg = i ∧ i < n
variable {ty : FieldType} {n : Nat} {f : Nat → Value} {ws : List Addr}
theorem own_A.lt (A : own_A Z h a ty n f) : a < h.size := by obtain ⟨c, A, -⟩ := A; exact A.lt
theorem own_A.ext (A : own_A Z h a ty n f) (E : Ext h h') : own_A Z h' a ty n f := by obtain ⟨c, A, r⟩ := A; exact ⟨c, A.ext E, r⟩
theorem own_A.keep (A : own_A Z h a ty n f) (K : Keep h h' ws) (q : a ∉ ws) : own_A Z h' a ty n f := by obtain ⟨c, A, r⟩ := A; exact ⟨c, ⟨K.2.1 a c A.1 q, A.2⟩, r⟩
theorem own_A.congr {f' : Nat → Value} (A : own_A Z h a ty n f) (q : ∀ j, j < n → f j = f' j) : own_A Z h a ty n f' := by obtain ⟨c, A, r, k⟩ := A; exact ⟨c, A, r, fun j hj => by rw [← q j hj]; exact k j hj⟩
theorem own_A.set {i : Nat} {v : Value} (A : own_A Z h a ty n f) (W : Wr h h' a i v) : own_A Z h' a ty n (own_upd f i v) := by
  obtain ⟨c, A, S, H⟩ := A
  refine ⟨_, A.same W, by rw [sz_set]; exact S, fun j hj => ?_⟩
  by_cases q : j = i
  · subst q
    have : j < c.slots.size := by rw [S]; exact hj
    simp [Cell.setSlot, own_upd, this]
  · have q' : i ≠ j := fun z => q z.symm
    simp only [Cell.setSlot, own_upd, if_neg q]
    rw [Array.getElem?_setIfInBounds_ne q']
    exact H j hj
theorem own_ix.inb {j : Int32} {i : Nat} {cl : Cell} (x : own_ix j i n) (S : cl.slots.size = n) : ¬ (j < 0 ∨ cl.slots.size ≤ j.toNatClampNeg) := by
  obtain ⟨x1, x2, x3⟩ := x
  rw [S, x2]
  exact fun q => q.elim x1 (fun q => absurd q (Nat.not_le.mpr x3))
theorem own_alen (X : Stand p l e R s m args below meth c T locs cells slots) (hx : p.tables.exec = Jvm.exec) (hZ : Z.Warmed39 s.vm) (e0 : T.heap = h) (A : own_A Z h a ty n f) {z : Int32} (hz : n.toInt32 = z) (hd : decode c.code pc = .ok (.arraylength, 1))
    (k : own_Go p e below P T (mkF m (pc + 1) Ls (.int z :: rest))) : own_Go p e below P T (mkF m pc Ls (.ref a :: rest)) := by
  obtain ⟨cl, A, S, H⟩ := A
  subst S hz
  exact own_st (fun t q => X.arraylength hx (cell := cl) (by rw [e0]; exact A.1) (State.isArrayOf_alike hZ.alike A.2.1) (g := mkF m pc Ls (.ref a :: rest)) rfl rfl hd t q) k
abbrev own_IA (Z : State) (h : Heap) (a : Addr) (n : Nat) (g : Nat → Int32) : Prop := own_A Z h a .int n (fun j => .int (g j))
abbrev own_BA (Z : State) (h : Heap) (a : Addr) (n : Nat) (g : Nat → Int32) : Prop := own_A Z h a .byte n (fun j => .int (g j))
abbrev own_JA (Z : State) (h : Heap) (a : Addr) (n : Nat) (g : Nat → Int64) : Prop := own_A Z h a .long n (fun j => .long (g j))
theorem own_updI (g : Nat → Int32) (i : Nat) (x : Int32) : own_upd (fun j => Value.int (g j)) i (.int x) = fun j => Value.int (own_upd g i x j) := funext fun j => by unfold own_upd; split <;> rfl
theorem own_updJ (g : Nat → Int64) (i : Nat) (x : Int64) : own_upd (fun j => Value.long (g j)) i (.long x) = fun j => Value.long (own_upd g i x j) := funext fun j => by unfold own_upd; split <;> rfl
theorem own_ldI (X : Stand p l e R s m args below meth c T locs cells slots) (hx : p.tables.exec = Jvm.exec) (hZ : Z.Warmed39 s.vm) (e0 : T.heap = h) {g : Nat → Int32} (A : own_IA Z h a n g) {j : Int32} {i : Nat} (ix : own_ix j i n) {x : Int32} (hv : g i = x) (hd : decode c.code pc = .ok (.iaload, 1))
    (k : own_Go p e below P T (mkF m (pc + 1) Ls (.int x :: rest))) : own_Go p e below P T (mkF m pc Ls (.int j :: .ref a :: rest)) := by
  obtain ⟨cl, A, S, H⟩ := A
  subst hv
  exact own_st (fun t q => X.iaload hx (j := j) (v := .int (g i)) (by rw [e0]; exact A.1) (State.isArrayOf_alike hZ.alike A.2.1) A.2.2 (ix.inb S) (by rw [ix.2.1]; exact H i ix.2.2) (g := mkF m pc Ls (.int j :: .ref a :: rest)) rfl rfl hd t q) k
theorem own_ldB (X : Stand p l e R s m args below meth c T locs cells slots) (hx : p.tables.exec = Jvm.exec) (hZ : Z.Warmed39 s.vm) (e0 : T.heap = h) {g : Nat → Int32} (A : own_BA Z h a n g) {j : Int32} {i : Nat} (ix : own_ix j i n) {x : Int32} (hv : g i = x) (hd : decode c.code pc = .ok (.baload, 1))
    (k : own_Go p e below P T (mkF m (pc + 1) Ls (.int x :: rest))) : own_Go p e below P T (mkF m pc Ls (.int j :: .ref a :: rest)) := by
  obtain ⟨cl, A, S, H⟩ := A
  subst hv
  exact own_st (fun t q => X.baloadBytes hx (j := j) (v := .int (g i)) (by rw [e0]; exact A.1) (State.isArrayOf_alike hZ.alike A.2.1) A.2.2 (ix.inb S) (by rw [ix.2.1]; exact H i ix.2.2) (g := mkF m pc Ls (.int j :: .ref a :: rest)) rfl rfl hd t q) k
theorem own_ldJ (X : Stand p l e R s m args below meth c T locs cells slots) (hx : p.tables.exec = Jvm.exec) (hZ : Z.Warmed39 s.vm) (e0 : T.heap = h) {g : Nat → Int64} (A : own_JA Z h a n g) {j : Int32} {i : Nat} (ix : own_ix j i n) {x : Int64} (hv : g i = x) (hd : decode c.code pc = .ok (.laload, 1))
    (k : own_Go p e below P T (mkF m (pc + 1) Ls (.long x :: rest))) : own_Go p e below P T (mkF m pc Ls (.int j :: .ref a :: rest)) := by
  obtain ⟨cl, A, S, H⟩ := A
  subst hv
  exact own_st (fun t q => X.laload hx (j := j) (v := .long (g i)) (by rw [e0]; exact A.1) (State.isArrayOf_alike hZ.alike A.2.1) A.2.2 (ix.inb S) (by rw [ix.2.1]; exact H i ix.2.2) (g := mkF m pc Ls (.int j :: .ref a :: rest)) rfl rfl hd t q) k
theorem own_stI (X : Stand p l e R s m args below meth c T locs cells slots) (hx : p.tables.exec = Jvm.exec) (hZ : Z.Warmed39 s.vm) (e0 : T.heap = h) {g : Nat → Int32} (A : own_IA Z h a n g) {j : Int32} {x : Int32} {i : Nat} (ix : own_ix j i n) (N : Fr n0 locs) (ga : n0 ≤ a) (hd : decode c.code pc = .ok (.iastore, 1))
    (k : ∀ (T' : State) (h' : Heap), Stand p l e R s m args below meth c T' (locs ++ [⟨a, j.toNatClampNeg⟩]) cells slots → T'.heap = h' → own_IA Z h' a n (own_upd g i x) → Keep h h' [a] → Fr n0 (locs ++ [⟨a, j.toNatClampNeg⟩]) → own_Go p e below P T' (mkF m (pc + 1) Ls rest)) :
    own_Go p e below P T (mkF m pc Ls (.int x :: .int j :: .ref a :: rest)) := by
  obtain ⟨cl, A1, S, H⟩ := A
  obtain ⟨T', h', X', e', W', st⟩ := stI X hx hZ e0 A1 (j := j) (x := x) (ix.inb S) (g := mkF m pc Ls (.int x :: .int j :: .ref a :: rest)) rfl rfl hd
  have V := own_A.set ⟨cl, A1, S, H⟩ W'
  rw [ix.2.1] at V
  have V' : own_IA Z h' a n (own_upd g i x) := by rw [own_IA, ← own_updI]; exact V
  exact own_st st (k T' h' X' e' V' (Keep.of_wr W') (Fr.snoc X' N ga))
theorem own_stB (X : Stand p l e R s m args below meth c T locs cells slots) (hx : p.tables.exec = Jvm.exec) (hZ : Z.Warmed39 s.vm) (e0 : T.heap = h) {g : Nat → Int32} (A : own_BA Z h a n g) {j : Int32} {x : Int32} {i : Nat} (ix : own_ix j i n) (N : Fr n0 locs) (ga : n0 ≤ a) (hd : decode c.code pc = .ok (.bastore, 1))
    (k : ∀ (T' : State) (h' : Heap), Stand p l e R s m args below meth c T' (locs ++ [⟨a, j.toNatClampNeg⟩]) cells slots → T'.heap = h' → own_BA Z h' a n (own_upd g i x.toInt8.toInt32) → Keep h h' [a] → Fr n0 (locs ++ [⟨a, j.toNatClampNeg⟩]) → own_Go p e below P T' (mkF m (pc + 1) Ls rest)) :
    own_Go p e below P T (mkF m pc Ls (.int x :: .int j :: .ref a :: rest)) := by
  obtain ⟨cl, A1, S, H⟩ := A
  obtain ⟨T', h', X', e', W', st⟩ := stB X hx hZ e0 A1 (j := j) (x := x) (ix.inb S) (g := mkF m pc Ls (.int x :: .int j :: .ref a :: rest)) rfl rfl hd
  have V := own_A.set ⟨cl, A1, S, H⟩ W'
  rw [ix.2.1] at V
  have V' : own_BA Z h' a n (own_upd g i x.toInt8.toInt32) := by rw [own_BA, ← own_updI]; exact V
  exact own_st st (k T' h' X' e' V' (Keep.of_wr W') (Fr.snoc X' N ga))
theorem own_stJ (X : Stand p l e R s m args below meth c T locs cells slots) (hx : p.tables.exec = Jvm.exec) (hZ : Z.Warmed39 s.vm) (e0 : T.heap = h) {g : Nat → Int64} (A : own_JA Z h a n g) {j : Int32} {x : Int64} {i : Nat} (ix : own_ix j i n) (N : Fr n0 locs) (ga : n0 ≤ a) (hd : decode c.code pc = .ok (.lastore, 1))
    (k : ∀ (T' : State) (h' : Heap), Stand p l e R s m args below meth c T' (locs ++ [⟨a, j.toNatClampNeg⟩]) cells slots → T'.heap = h' → own_JA Z h' a n (own_upd g i x) → Keep h h' [a] → Fr n0 (locs ++ [⟨a, j.toNatClampNeg⟩]) → own_Go p e below P T' (mkF m (pc + 1) Ls rest)) :
    own_Go p e below P T (mkF m pc Ls (.long x :: .int j :: .ref a :: rest)) := by
  obtain ⟨cl, A1, S, H⟩ := A
  obtain ⟨T', h', X', e', W', st⟩ := stJ X hx hZ e0 A1 (j := j) (x := x) (ix.inb S) (g := mkF m pc Ls (.long x :: .int j :: .ref a :: rest)) rfl rfl hd
  have V := own_A.set ⟨cl, A1, S, H⟩ W'
  rw [ix.2.1] at V
  have V' : own_JA Z h' a n (own_upd g i x) := by rw [own_JA, ← own_updJ]; exact V
  exact own_st st (k T' h' X' e' V' (Keep.of_wr W') (Fr.snoc X' N ga))
theorem own_newP (X : Stand p l e R s m args below meth c T locs cells slots) (hx : p.tables.exec = Jvm.exec) (hZ : Z.Warmed39 s.vm) (e0 : T.heap = h) {aty : ArrayType} (w : (Jvm.Cond.arrayClass (newarray.typeOf aty)).before a0 Z = true) (hd : decode c.code pc = .ok (.newarray aty, 2)) {z : Int32} (hz0 : ¬ z < 0) (n : Nat) (hz : z.toNatClampNeg = n) (hb : n * 8 ≤ 536870912) (hc : cells + 1 ≤ R.cells) (hl : slots + n ≤ R.slots)
    (k : ∀ (T' : State) (h' : Heap) (a : Addr), Stand p l e R s m args below meth c T' locs (cells + 1) (slots + n) → T'.heap = h' → Ext h h' → h.size = a → own_A Z h' a (newarray.typeOf aty) n (fun _ => defaultValue (newarray.typeOf aty)) → own_Go p e below P T' (mkF m (pc + 2) Ls (.ref a :: rest))) :
    own_Go p e below P T (mkF m pc Ls (.int z :: rest)) := by
  obtain ⟨T', h', cA, X', e', E', A', st⟩ := newP X hx hZ w e0 (g := mkF m pc Ls (.int z :: rest)) rfl hd rfl hz0 (cap := n) (Nat.le_of_eq hz) hb hc hl
  refine own_st st (k T' h' h.size X' e' E' rfl ⟨_, A', by rw [sz_new]; exact hz, fun j hj => ?_⟩)
  simp [newA, hz, hj]
theorem own_retI (X : Stand p l e R s m args below meth c T locs cells slots) (hx : p.tables.exec = Jvm.exec) (hlk : meth.locks = false) (hret : meth.sig.returnType = some .int) (hc : cells ≤ R.cells) (hs : slots ≤ R.slots) {z : Int32} (hd : decode c.code pc = .ok (.ireturn, 1)) (hQ : Q (some (.int z)) T.heap locs) : own_Go p e below (own_P s R Q) T (mkF m pc Ls (.int z :: rest)) :=
  own_end X hlk (fun q => by rw [hret] at q; cases q) hc hs hQ (fun fs hr => retOut X hx hret rfl (Or.inl ⟨rfl, Or.inl rfl, z, rfl⟩) hd hr)
theorem own_retZ (X : Stand p l e R s m args below meth c T locs cells slots) (hx : p.tables.exec = Jvm.exec) (hlk : meth.locks = false) (hret : meth.sig.returnType = some .boolean) (hc : cells ≤ R.cells) (hs : slots ≤ R.slots) {z : Int32} (hz : z = 1 ∨ z = 0) (hd : decode c.code pc = .ok (.ireturn, 1)) (hQ : Q (some (.int z)) T.heap locs) : own_Go p e below (own_P s R Q) T (mkF m pc Ls (.int z :: rest)) :=
  own_end X hlk (fun q => by rw [hret] at q; cases q) hc hs hQ (fun fs hr => retOut X hx hret (by rcases hz with rfl | rfl <;> rfl) (Or.inl ⟨rfl, Or.inr (Or.inl rfl), z, rfl⟩) hd hr)
theorem own_retJ (X : Stand p l e R s m args below meth c T locs cells slots) (hx : p.tables.exec = Jvm.exec) (hlk : meth.locks = false) (hret : meth.sig.returnType = some .long) (hc : cells ≤ R.cells) (hs : slots ≤ R.slots) {z : Int64} (hd : decode c.code pc = .ok (.lreturn, 1)) (hQ : Q (some (.long z)) T.heap locs) : own_Go p e below (own_P s R Q) T (mkF m pc Ls (.long z :: rest)) :=
  own_end X hlk (fun q => by rw [hret] at q; cases q) hc hs hQ (fun fs hr => retOut X hx hret rfl (Or.inr (Or.inl ⟨rfl, rfl, z, rfl⟩)) hd hr)
theorem own_retV (X : Stand p l e R s m args below meth c T locs cells slots) (hx : p.tables.exec = Jvm.exec) (hlk : meth.locks = false) (hret : meth.sig.returnType = none) (hc : cells ≤ R.cells) (hs : slots ≤ R.slots) (hd : decode c.code pc = .ok (.return_, 1)) (hQ : Q none T.heap locs) : own_Go p e below (own_P s R Q) T (mkF m pc Ls []) :=
  own_end X hlk (fun _ => rfl) hc hs hQ (fun fs hr => X.returnOut hx hret hd hr)
end OwnBase

def own_white (i : Int) : Prop := ((9 ≤ i ∧ i ≤ 13) ∨ i = 32 ∨ i = 133 ∨ i = 160 ∨ i = 5760 ∨ (8192 ≤ i ∧ i ≤ 8202) ∨ i = 8232 ∨ i = 8233 ∨ i = 8239 ∨ i = 8287 ∨ i = 12288)
theorem own_white_iff (i : Int) : own_white i ↔ i ∈ ([9, 10, 11, 12, 13, 32, 133, 160, 5760, 8192, 8193, 8194, 8195, 8196, 8197, 8198, 8199, 8200, 8201, 8202, 8232, 8233, 8239, 8287, 12288] : List Int) := by
  simp only [own_white, List.mem_cons, List.not_mem_nil, or_false]
  omega
def own_ws (c : Int32) : Int32 := if c.toInt ∈ ([9, 10, 11, 12, 13, 32, 133, 160, 5760, 8192, 8193, 8194, 8195, 8196, 8197, 8198, 8199, 8200, 8201, 8202, 8232, 8233, 8239, 8287, 12288] : List Int) then 1 else 0
theorem own_ws_yes {c : Int32} (h : own_white c.toInt) : own_ws c = 1 := if_pos ((own_white_iff _).mp h)
theorem own_ws_no {c : Int32} (h : ¬ own_white c.toInt) : own_ws c = 0 := if_neg (fun q => h ((own_white_iff _).mpr q))
theorem own_ws_bool (c : Int32) : own_ws c = 1 ∨ own_ws c = 0 := by
  unfold own_ws
  split
  · exact Or.inl rfl
  · exact Or.inr rfl
theorem own_mask (x : Int32) : ¬ (x &&& (2147483647 : Int32)) < 0 := fun q => absurd ((XT.and_neg32 _ _).mp q).2 (by decide)
theorem own_rem {x y : Int32} (n : Nat) (hx : ¬ x < 0) (hy : y.toInt = n) (hn : 0 < n) : own_ix (x - (x / y) * y) (x - (x / y) * y).toNatClampNeg n := by
  have hq : x - (x / y) * y = x % y := irem_eq_mod x y
  rw [hq]
  have hm : (x % y).toInt = x.toInt.tmod y.toInt := Int32.toInt_mod x y
  rw [Int32.lt_iff_toInt_lt] at hx
  have hx' : 0 ≤ x.toInt := by simpa using hx
  have h1 : 0 ≤ (x % y).toInt := by rw [hm]; exact Int.tmod_nonneg _ hx'
  have h2 : (x % y).toInt < n := by rw [hm, ← hy]; exact Int.tmod_lt_of_pos _ (by omega)
  refine ⟨?_, rfl, ?_⟩
  · rw [Int32.lt_iff_toInt_lt]
    show ¬ (x % y).toInt < 0
    omega
  · show (x % y).toInt.toNat < n
    omega

theorem d1_0 : decode prog_35_method_2_code 0 = .ok (.iload_n 0, 1) := by decide +kernel
theorem d1_1 : decode prog_35_method_2_code 1 = .ok (.bipush 9, 2) := by decide +kernel
theorem d1_3 : decode prog_35_method_2_code 3 = .ok (.if_icmp .lt 9, 3) := by decide +kernel
theorem d1_6 : decode prog_35_method_2_code 6 = .ok (.iload_n 0, 1) := by decide +kernel
theorem d1_7 : decode prog_35_method_2_code 7 = .ok (.bipush 13, 2) := by decide +kernel
theorem d1_9 : decode prog_35_method_2_code 9 = .ok (.if_icmp .le 79, 3) := by decide +kernel
theorem d1_12 : decode prog_35_method_2_code 12 = .ok (.iload_n 0, 1) := by decide +kernel
theorem d1_13 : decode prog_35_method_2_code 13 = .ok (.bipush 32, 2) := by decide +kernel
theorem d1_15 : decode prog_35_method_2_code 15 = .ok (.if_icmp .eq 73, 3) := by decide +kernel
theorem d1_18 : decode prog_35_method_2_code 18 = .ok (.iload_n 0, 1) := by decide +kernel
theorem d1_19 : decode prog_35_method_2_code 19 = .ok (.sipush 133, 3) := by decide +kernel
theorem d1_22 : decode prog_35_method_2_code 22 = .ok (.if_icmp .eq 66, 3) := by decide +kernel
theorem d1_25 : decode prog_35_method_2_code 25 = .ok (.iload_n 0, 1) := by decide +kernel
theorem d1_26 : decode prog_35_method_2_code 26 = .ok (.sipush 160, 3) := by decide +kernel
theorem d1_29 : decode prog_35_method_2_code 29 = .ok (.if_icmp .eq 59, 3) := by decide +kernel
theorem d1_32 : decode prog_35_method_2_code 32 = .ok (.iload_n 0, 1) := by decide +kernel
theorem d1_33 : decode prog_35_method_2_code 33 = .ok (.sipush 5760, 3) := by decide +kernel
theorem d1_36 : decode prog_35_method_2_code 36 = .ok (.if_icmp .eq 52, 3) := by decide +kernel
theorem d1_39 : decode prog_35_method_2_code 39 = .ok (.iload_n 0, 1) := by decide +kernel
theorem d1_40 : decode prog_35_method_2_code 40 = .ok (.sipush 8192, 3) := by decide +kernel
theorem d1_43 : decode prog_35_method_2_code 43 = .ok (.if_icmp .lt 10, 3) := by decide +kernel
theorem d1_46 : decode prog_35_method_2_code 46 = .ok (.iload_n 0, 1) := by decide +kernel
theorem d1_47 : decode prog_35_method_2_code 47 = .ok (.sipush 8202, 3) := by decide +kernel
theorem d1_50 : decode prog_35_method_2_code 50 = .ok (.if_icmp .le 38, 3) := by decide +kernel
theorem d1_53 : decode prog_35_method_2_code 53 = .ok (.iload_n 0, 1) := by decide +kernel
theorem d1_54 : decode prog_35_method_2_code 54 = .ok (.sipush 8232, 3) := by decide +kernel
theorem d1_57 : decode prog_35_method_2_code 57 = .ok (.if_icmp .eq 31, 3) := by decide +kernel
theorem d1_60 : decode prog_35_method_2_code 60 = .ok (.iload_n 0, 1) := by decide +kernel
theorem d1_61 : decode prog_35_method_2_code 61 = .ok (.sipush 8233, 3) := by decide +kernel
theorem d1_64 : decode prog_35_method_2_code 64 = .ok (.if_icmp .eq 24, 3) := by decide +kernel
theorem d1_67 : decode prog_35_method_2_code 67 = .ok (.iload_n 0, 1) := by decide +kernel
theorem d1_68 : decode prog_35_method_2_code 68 = .ok (.sipush 8239, 3) := by decide +kernel
theorem d1_71 : decode prog_35_method_2_code 71 = .ok (.if_icmp .eq 17, 3) := by decide +kernel
theorem d1_74 : decode prog_35_method_2_code 74 = .ok (.iload_n 0, 1) := by decide +kernel
theorem d1_75 : decode prog_35_method_2_code 75 = .ok (.sipush 8287, 3) := by decide +kernel
theorem d1_78 : decode prog_35_method_2_code 78 = .ok (.if_icmp .eq 10, 3) := by decide +kernel
theorem d1_81 : decode prog_35_method_2_code 81 = .ok (.iload_n 0, 1) := by decide +kernel
theorem d1_82 : decode prog_35_method_2_code 82 = .ok (.sipush 12288, 3) := by decide +kernel
theorem d1_85 : decode prog_35_method_2_code 85 = .ok (.if_icmp .ne 7, 3) := by decide +kernel
theorem d1_88 : decode prog_35_method_2_code 88 = .ok (.iconst 1, 1) := by decide +kernel
theorem d1_89 : decode prog_35_method_2_code 89 = .ok (.goto 4, 3) := by decide +kernel
theorem d1_92 : decode prog_35_method_2_code 92 = .ok (.iconst 0, 1) := by decide +kernel
theorem d1_93 : decode prog_35_method_2_code 93 = .ok (.ireturn, 1) := by decide +kernel
theorem pn_1 : plainName site_186.cls = true := by first | (simp [plainName, overriddenIn]; done) | decide +kernel
theorem pd_1 : parseMethodDescriptor "(I)Z" = some ⟨[.int], some .boolean⟩ := by decide +kernel

theorem d2_0 : decode method_3_code 0 = .ok (.iload_n 0, 1) := by decide +kernel
theorem d2_1 : decode method_3_code 1 = .ok (.lookupswitch 213 #[(9, 211), (10, 211), (11, 211), (12, 211), (13, 211), (32, 211), (133, 211), (160, 211), (5760, 211), (8192, 211), (8193, 211), (8194, 211), (8195, 211), (8196, 211), (8197, 211), (8198, 211), (8199, 211), (8200, 211), (8201, 211), (8202, 211), (8232, 211), (8233, 211), (8239, 211), (8287, 211), (12288, 211)], 211) := by decide +kernel
theorem d2_212 : decode method_3_code 212 = .ok (.iconst 1, 1) := by decide +kernel
theorem d2_213 : decode method_3_code 213 = .ok (.ireturn, 1) := by decide +kernel
theorem d2_214 : decode method_3_code 214 = .ok (.iconst 0, 1) := by decide +kernel
theorem d2_215 : decode method_3_code 215 = .ok (.ireturn, 1) := by decide +kernel
theorem pn_2 : plainName x.cls = true := by first | (simp [plainName, overriddenIn]; done) | decide +kernel
theorem pd_2 : parseMethodDescriptor "(I)Z" = some ⟨[.int], some .boolean⟩ := by decide +kernel

theorem pn_0 : plainName x.cls = true := by first | (simp [plainName, overriddenIn]; done) | decide +kernel
theorem pd_0 : parseMethodDescriptor "(III)Z" = some ⟨[.int, .int, .int], some .boolean⟩ := by decide +kernel

theorem ef_1 (m : MethodId) (x0 : Int32) : entryFrame m #[(.int x0)] 1 = mkF m 0 #[.val (.int x0)] [] := by first | (simp [entryFrame, mkF, argsToLocals, Value.category]; done) | rfl

theorem ef_2 (m : MethodId) (x0 : Int32) : entryFrame m #[(.int x0)] 1 = mkF m 0 #[.val (.int x0)] [] := by first | (simp [entryFrame, mkF, argsToLocals, Value.category]; done) | rfl

theorem ef_0 (m : MethodId) (x0 : Int32) (x1 : Int32) (x2 : Int32) : entryFrame m #[(.int x0), (.int x1), (.int x2)] maxLocals = mkF m 0 #[.val (.int x0), .val (.int x1), .val (.int x2), .unset, .unset, .unset, .unset] [] := by first | (simp [entryFrame, mkF, argsToLocals, Value.category, maxLocals]; done) | rfl

set_option maxRecDepth 65536 in
set_option maxHeartbeats 40000000 in
theorem rm1 (l : Launch) (Z : State) (a0 : Array Value) (hw : ∀ d ∈ tables_1, d.before a0 Z = true) (p1 : Int32) (h0 : Heap) (n0 : Nat) :
    own_Met l Z h0 (⟨site_186.cls, "isWhiteSpace", "(I)Z"⟩ : MethodName) prog_35_method_2_code 1 (some .boolean) ({ frames := 0, cells := 0, slots := 0, locals := 0 } : Room) #[(.int p1)] (fun v h L => v = some (.int (own_ws p1)) ∧ Fr n0 L ∧ h = h0) := by
  refine own_body pn_1 (fun m => ef_1 m p1) ?_
  intro p e s m below meth c T X hx hby hml hret hlk hown hnm hZ e0
  have hown : s.vm.findClass site_186.cls = some m.cls := hown
  have hml : c.maxLocals = 1 := hml
  have N0 : Fr n0 ([] : List Loc) := Fr.nil n0
  show own_Go p e below _ T (mkF m 0 #[.val (.int p1)] [])
  refine own_st (fun τ κ => XS.iloadN X.here hx rfl (hb hby d1_0) rfl κ) ?_
  show own_Go p e below _ T (mkF m 1 #[.val (.int p1)] [(.int p1)])
  refine own_st (fun τ κ => XT.bipushV X.here hx rfl (9) (hb hby d1_1) (by decide) κ) ?_
  show own_Go p e below _ T (mkF m 3 #[.val (.int p1)] [(.int (9 : Int32)), (.int p1)])
  by_cases r12 : ¬ p1 < (9 : Int32) ∧ ¬ (13 : Int32) < p1
  · obtain ⟨r12a, r12b⟩ := r12
    refine own_st (fun τ κ => XS.icmpNo X.here hx rfl (hb hby d1_3) rfl (XT.ii_lt_f r12a) κ) ?_
    show own_Go p e below _ T (mkF m 6 #[.val (.int p1)] [])
    refine own_st (fun τ κ => XS.iloadN X.here hx rfl (hb hby d1_6) rfl κ) ?_
    show own_Go p e below _ T (mkF m 7 #[.val (.int p1)] [(.int p1)])
    refine own_st (fun τ κ => XT.bipushV X.here hx rfl (13) (hb hby d1_7) (by decide) κ) ?_
    show own_Go p e below _ T (mkF m 9 #[.val (.int p1)] [(.int (13 : Int32)), (.int p1)])
    refine own_st (fun τ κ => XS.icmpYes X.here hx rfl (pc0 := 9) (pc' := 88) rfl (hb hby d1_9) rfl (XT.ii_le_t r12b) (by decide) (by decide) κ) ?_
    show own_Go p e below _ T (mkF m 88 #[.val (.int p1)] [])
    refine own_st (fun τ κ => XT.iconstV X.here hx rfl (1) (hb hby d1_88) (by decide) κ) ?_
    show own_Go p e below _ T (mkF m 89 #[.val (.int p1)] [(.int (1 : Int32))])
    refine own_st (fun τ κ => XS.goto X.here hx rfl (pc0 := 89) (pc' := 93) rfl (hb hby d1_89) (by decide) (by decide) κ) ?_
    show own_Go p e below _ T (mkF m 93 #[.val (.int p1)] [(.int (1 : Int32))])
    have hw0 : own_ws p1 = 1 := by
      refine own_ws_yes ?_
      simp only [← Int32.toInt_inj, Int32.lt_iff_toInt_lt, Int32.reduceToInt] at r12a r12b
      simp only [own_white]
      omega
    refine own_retZ X hx hlk hret (by decide) (by decide) (by decide) (hb hby d1_93) ?_
    exact ⟨by rw [hw0], N0, e0⟩
  · suffices J12 : own_Go p e below _ T (mkF m 12 #[.val (.int p1)] []) by
      by_cases c3 : p1 < (9 : Int32)
      · refine own_st (fun τ κ => XS.icmpYes X.here hx rfl (pc0 := 3) (pc' := 12) rfl (hb hby d1_3) rfl (XT.ii_lt_t c3) (by decide) (by decide) κ) ?_
        show own_Go p e below _ T (mkF m 12 #[.val (.int p1)] [])
        exact J12
      · refine own_st (fun τ κ => XS.icmpNo X.here hx rfl (hb hby d1_3) rfl (XT.ii_lt_f c3) κ) ?_
        show own_Go p e below _ T (mkF m 6 #[.val (.int p1)] [])
        refine own_st (fun τ κ => XS.iloadN X.here hx rfl (hb hby d1_6) rfl κ) ?_
        show own_Go p e below _ T (mkF m 7 #[.val (.int p1)] [(.int p1)])
        refine own_st (fun τ κ => XT.bipushV X.here hx rfl (13) (hb hby d1_7) (by decide) κ) ?_
        show own_Go p e below _ T (mkF m 9 #[.val (.int p1)] [(.int (13 : Int32)), (.int p1)])
        refine own_st (fun τ κ => XS.icmpNo X.here hx rfl (hb hby d1_9) rfl (XT.ii_le_f (Decidable.not_not.mp (fun q => r12 ⟨c3, q⟩))) κ) ?_
        show own_Go p e below _ T (mkF m 12 #[.val (.int p1)] [])
        exact J12
    show own_Go p e below _ T (mkF m 12 #[.val (.int p1)] [])
    refine own_st (fun τ κ => XS.iloadN X.here hx rfl (hb hby d1_12) rfl κ) ?_
    show own_Go p e below _ T (mkF m 13 #[.val (.int p1)] [(.int p1)])
    refine own_st (fun τ κ => XT.bipushV X.here hx rfl (32) (hb hby d1_13) (by decide) κ) ?_
    show own_Go p e below _ T (mkF m 15 #[.val (.int p1)] [(.int (32 : Int32)), (.int p1)])
    by_cases c15 : p1 = (32 : Int32)
    · refine own_st (fun τ κ => XS.icmpYes X.here hx rfl (pc0 := 15) (pc' := 88) rfl (hb hby d1_15) rfl (XT.ii_eq_t c15) (by decide) (by decide) κ) ?_
      show own_Go p e below _ T (mkF m 88 #[.val (.int p1)] [])
      refine own_st (fun τ κ => XT.iconstV X.here hx rfl (1) (hb hby d1_88) (by decide) κ) ?_
      show own_Go p e below _ T (mkF m 89 #[.val (.int p1)] [(.int (1 : Int32))])
      refine own_st (fun τ κ => XS.goto X.here hx rfl (pc0 := 89) (pc' := 93) rfl (hb hby d1_89) (by decide) (by decide) κ) ?_
      show own_Go p e below _ T (mkF m 93 #[.val (.int p1)] [(.int (1 : Int32))])
      have hw0 : own_ws p1 = 1 := by
        refine own_ws_yes ?_
        simp only [← Int32.toInt_inj, Int32.lt_iff_toInt_lt, Int32.reduceToInt] at r12 c15
        simp only [own_white]
        omega
      refine own_retZ X hx hlk hret (by decide) (by decide) (by decide) (hb hby d1_93) ?_
      exact ⟨by rw [hw0], N0, e0⟩
    · refine own_st (fun τ κ => XS.icmpNo X.here hx rfl (hb hby d1_15) rfl (XT.ii_eq_f c15) κ) ?_
      show own_Go p e below _ T (mkF m 18 #[.val (.int p1)] [])
      refine own_st (fun τ κ => XS.iloadN X.here hx rfl (hb hby d1_18) rfl κ) ?_
      show own_Go p e below _ T (mkF m 19 #[.val (.int p1)] [(.int p1)])
      refine own_st (fun τ κ => XT.sipushV X.here hx rfl (133) (hb hby d1_19) (by decide) κ) ?_
      show own_Go p e below _ T (mkF m 22 #[.val (.int p1)] [(.int (133 : Int32)), (.int p1)])
      by_cases c22 : p1 = (133 : Int32)
      · refine own_st (fun τ κ => XS.icmpYes X.here hx rfl (pc0 := 22) (pc' := 88) rfl (hb hby d1_22) rfl (XT.ii_eq_t c22) (by decide) (by decide) κ) ?_
        show own_Go p e below _ T (mkF m 88 #[.val (.int p1)] [])
        refine own_st (fun τ κ => XT.iconstV X.here hx rfl (1) (hb hby d1_88) (by decide) κ) ?_
        show own_Go p e below _ T (mkF m 89 #[.val (.int p1)] [(.int (1 : Int32))])
        refine own_st (fun τ κ => XS.goto X.here hx rfl (pc0 := 89) (pc' := 93) rfl (hb hby d1_89) (by decide) (by decide) κ) ?_
        show own_Go p e below _ T (mkF m 93 #[.val (.int p1)] [(.int (1 : Int32))])
        have hw0 : own_ws p1 = 1 := by
          refine own_ws_yes ?_
          simp only [← Int32.toInt_inj, Int32.lt_iff_toInt_lt, Int32.reduceToInt] at r12 c15 c22
          simp only [own_white]
          omega
        refine own_retZ X hx hlk hret (by decide) (by decide) (by decide) (hb hby d1_93) ?_
        exact ⟨by rw [hw0], N0, e0⟩
      · refine own_st (fun τ κ => XS.icmpNo X.here hx rfl (hb hby d1_22) rfl (XT.ii_eq_f c22) κ) ?_
        show own_Go p e below _ T (mkF m 25 #[.val (.int p1)] [])
        refine own_st (fun τ κ => XS.iloadN X.here hx rfl (hb hby d1_25) rfl κ) ?_
        show own_Go p e below _ T (mkF m 26 #[.val (.int p1)] [(.int p1)])
        refine own_st (fun τ κ => XT.sipushV X.here hx rfl (160) (hb hby d1_26) (by decide) κ) ?_
        show own_Go p e below _ T (mkF m 29 #[.val (.int p1)] [(.int (160 : Int32)), (.int p1)])
        by_cases c29 : p1 = (160 : Int32)
        · refine own_st (fun τ κ => XS.icmpYes X.here hx rfl (pc0 := 29) (pc' := 88) rfl (hb hby d1_29) rfl (XT.ii_eq_t c29) (by decide) (by decide) κ) ?_
          show own_Go p e below _ T (mkF m 88 #[.val (.int p1)] [])
          refine own_st (fun τ κ => XT.iconstV X.here hx rfl (1) (hb hby d1_88) (by decide) κ) ?_
          show own_Go p e below _ T (mkF m 89 #[.val (.int p1)] [(.int (1 : Int32))])
          refine own_st (fun τ κ => XS.goto X.here hx rfl (pc0 := 89) (pc' := 93) rfl (hb hby d1_89) (by decide) (by decide) κ) ?_
          show own_Go p e below _ T (mkF m 93 #[.val (.int p1)] [(.int (1 : Int32))])
          have hw0 : own_ws p1 = 1 := by
            refine own_ws_yes ?_
            simp only [← Int32.toInt_inj, Int32.lt_iff_toInt_lt, Int32.reduceToInt] at r12 c15 c22 c29
            simp only [own_white]
            omega
          refine own_retZ X hx hlk hret (by decide) (by decide) (by decide) (hb hby d1_93) ?_
          exact ⟨by rw [hw0], N0, e0⟩
        · refine own_st (fun τ κ => XS.icmpNo X.here hx rfl (hb hby d1_29) rfl (XT.ii_eq_f c29) κ) ?_
          show own_Go p e below _ T (mkF m 32 #[.val (.int p1)] [])
          refine own_st (fun τ κ => XS.iloadN X.here hx rfl (hb hby d1_32) rfl κ) ?_
          show own_Go p e below _ T (mkF m 33 #[.val (.int p1)] [(.int p1)])
          refine own_st (fun τ κ => XT.sipushV X.here hx rfl (5760) (hb hby d1_33) (by decide) κ) ?_
          show own_Go p e below _ T (mkF m 36 #[.val (.int p1)] [(.int (5760 : Int32)), (.int p1)])
          by_cases c36 : p1 = (5760 : Int32)
          · refine own_st (fun τ κ => XS.icmpYes X.here hx rfl (pc0 := 36) (pc' := 88) rfl (hb hby d1_36) rfl (XT.ii_eq_t c36) (by decide) (by decide) κ) ?_
            show own_Go p e below _ T (mkF m 88 #[.val (.int p1)] [])
            refine own_st (fun τ κ => XT.iconstV X.here hx rfl (1) (hb hby d1_88) (by decide) κ) ?_
            show own_Go p e below _ T (mkF m 89 #[.val (.int p1)] [(.int (1 : Int32))])
            refine own_st (fun τ κ => XS.goto X.here hx rfl (pc0 := 89) (pc' := 93) rfl (hb hby d1_89) (by decide) (by decide) κ) ?_
            show own_Go p e below _ T (mkF m 93 #[.val (.int p1)] [(.int (1 : Int32))])
            have hw0 : own_ws p1 = 1 := by
              refine own_ws_yes ?_
              simp only [← Int32.toInt_inj, Int32.lt_iff_toInt_lt, Int32.reduceToInt] at r12 c15 c22 c29 c36
              simp only [own_white]
              omega
            refine own_retZ X hx hlk hret (by decide) (by decide) (by decide) (hb hby d1_93) ?_
            exact ⟨by rw [hw0], N0, e0⟩
          · refine own_st (fun τ κ => XS.icmpNo X.here hx rfl (hb hby d1_36) rfl (XT.ii_eq_f c36) κ) ?_
            show own_Go p e below _ T (mkF m 39 #[.val (.int p1)] [])
            refine own_st (fun τ κ => XS.iloadN X.here hx rfl (hb hby d1_39) rfl κ) ?_
            show own_Go p e below _ T (mkF m 40 #[.val (.int p1)] [(.int p1)])
            refine own_st (fun τ κ => XT.sipushV X.here hx rfl (8192) (hb hby d1_40) (by decide) κ) ?_
            show own_Go p e below _ T (mkF m 43 #[.val (.int p1)] [(.int (8192 : Int32)), (.int p1)])
            by_cases r53 : ¬ p1 < (8192 : Int32) ∧ ¬ (8202 : Int32) < p1
            · obtain ⟨r53a, r53b⟩ := r53
              refine own_st (fun τ κ => XS.icmpNo X.here hx rfl (hb hby d1_43) rfl (XT.ii_lt_f r53a) κ) ?_
              show own_Go p e below _ T (mkF m 46 #[.val (.int p1)] [])
              refine own_st (fun τ κ => XS.iloadN X.here hx rfl (hb hby d1_46) rfl κ) ?_
              show own_Go p e below _ T (mkF m 47 #[.val (.int p1)] [(.int p1)])
              refine own_st (fun τ κ => XT.sipushV X.here hx rfl (8202) (hb hby d1_47) (by decide) κ) ?_
              show own_Go p e below _ T (mkF m 50 #[.val (.int p1)] [(.int (8202 : Int32)), (.int p1)])
              refine own_st (fun τ κ => XS.icmpYes X.here hx rfl (pc0 := 50) (pc' := 88) rfl (hb hby d1_50) rfl (XT.ii_le_t r53b) (by decide) (by decide) κ) ?_
              show own_Go p e below _ T (mkF m 88 #[.val (.int p1)] [])
              refine own_st (fun τ κ => XT.iconstV X.here hx rfl (1) (hb hby d1_88) (by decide) κ) ?_
              show own_Go p e below _ T (mkF m 89 #[.val (.int p1)] [(.int (1 : Int32))])
              refine own_st (fun τ κ => XS.goto X.here hx rfl (pc0 := 89) (pc' := 93) rfl (hb hby d1_89) (by decide) (by decide) κ) ?_
              show own_Go p e below _ T (mkF m 93 #[.val (.int p1)] [(.int (1 : Int32))])
              have hw0 : own_ws p1 = 1 := by
                refine own_ws_yes ?_
                simp only [← Int32.toInt_inj, Int32.lt_iff_toInt_lt, Int32.reduceToInt] at r12 c15 c22 c29 c36 r53a r53b
                simp only [own_white]
                omega
              refine own_retZ X hx hlk hret (by decide) (by decide) (by decide) (hb hby d1_93) ?_
              exact ⟨by rw [hw0], N0, e0⟩
            · suffices J53 : own_Go p e below _ T (mkF m 53 #[.val (.int p1)] []) by
                by_cases c43 : p1 < (8192 : Int32)
                · refine own_st (fun τ κ => XS.icmpYes X.here hx rfl (pc0 := 43) (pc' := 53) rfl (hb hby d1_43) rfl (XT.ii_lt_t c43) (by decide) (by decide) κ) ?_
                  show own_Go p e below _ T (mkF m 53 #[.val (.int p1)] [])
                  exact J53
                · refine own_st (fun τ κ => XS.icmpNo X.here hx rfl (hb hby d1_43) rfl (XT.ii_lt_f c43) κ) ?_
                  show own_Go p e below _ T (mkF m 46 #[.val (.int p1)] [])
                  refine own_st (fun τ κ => XS.iloadN X.here hx rfl (hb hby d1_46) rfl κ) ?_
                  show own_Go p e below _ T (mkF m 47 #[.val (.int p1)] [(.int p1)])
                  refine own_st (fun τ κ => XT.sipushV X.here hx rfl (8202) (hb hby d1_47) (by decide) κ) ?_
                  show own_Go p e below _ T (mkF m 50 #[.val (.int p1)] [(.int (8202 : Int32)), (.int p1)])
                  refine own_st (fun τ κ => XS.icmpNo X.here hx rfl (hb hby d1_50) rfl (XT.ii_le_f (Decidable.not_not.mp (fun q => r53 ⟨c43, q⟩))) κ) ?_
                  show own_Go p e below _ T (mkF m 53 #[.val (.int p1)] [])
                  exact J53
              show own_Go p e below _ T (mkF m 53 #[.val (.int p1)] [])
              refine own_st (fun τ κ => XS.iloadN X.here hx rfl (hb hby d1_53) rfl κ) ?_
              show own_Go p e below _ T (mkF m 54 #[.val (.int p1)] [(.int p1)])
              refine own_st (fun τ κ => XT.sipushV X.here hx rfl (8232) (hb hby d1_54) (by decide) κ) ?_
              show own_Go p e below _ T (mkF m 57 #[.val (.int p1)] [(.int (8232 : Int32)), (.int p1)])
              by_cases c57 : p1 = (8232 : Int32)
              · refine own_st (fun τ κ => XS.icmpYes X.here hx rfl (pc0 := 57) (pc' := 88) rfl (hb hby d1_57) rfl (XT.ii_eq_t c57) (by decide) (by decide) κ) ?_
                show own_Go p e below _ T (mkF m 88 #[.val (.int p1)] [])
                refine own_st (fun τ κ => XT.iconstV X.here hx rfl (1) (hb hby d1_88) (by decide) κ) ?_
                show own_Go p e below _ T (mkF m 89 #[.val (.int p1)] [(.int (1 : Int32))])
                refine own_st (fun τ κ => XS.goto X.here hx rfl (pc0 := 89) (pc' := 93) rfl (hb hby d1_89) (by decide) (by decide) κ) ?_
                show own_Go p e below _ T (mkF m 93 #[.val (.int p1)] [(.int (1 : Int32))])
                have hw0 : own_ws p1 = 1 := by
                  refine own_ws_yes ?_
                  simp only [← Int32.toInt_inj, Int32.lt_iff_toInt_lt, Int32.reduceToInt] at r12 c15 c22 c29 c36 r53 c57
                  simp only [own_white]
                  omega
                refine own_retZ X hx hlk hret (by decide) (by decide) (by decide) (hb hby d1_93) ?_
                exact ⟨by rw [hw0], N0, e0⟩
              · refine own_st (fun τ κ => XS.icmpNo X.here hx rfl (hb hby d1_57) rfl (XT.ii_eq_f c57) κ) ?_
                show own_Go p e below _ T (mkF m 60 #[.val (.int p1)] [])
                refine own_st (fun τ κ => XS.iloadN X.here hx rfl (hb hby d1_60) rfl κ) ?_
                show own_Go p e below _ T (mkF m 61 #[.val (.int p1)] [(.int p1)])
                refine own_st (fun τ κ => XT.sipushV X.here hx rfl (8233) (hb hby d1_61) (by decide) κ) ?_
                show own_Go p e below _ T (mkF m 64 #[.val (.int p1)] [(.int (8233 : Int32)), (.int p1)])
                by_cases c64 : p1 = (8233 : Int32)
                · refine own_st (fun τ κ => XS.icmpYes X.here hx rfl (pc0 := 64) (pc' := 88) rfl (hb hby d1_64) rfl (XT.ii_eq_t c64) (by decide) (by decide) κ) ?_
                  show own_Go p e below _ T (mkF m 88 #[.val (.int p1)] [])
                  refine own_st (fun τ κ => XT.iconstV X.here hx rfl (1) (hb hby d1_88) (by decide) κ) ?_
                  show own_Go p e below _ T (mkF m 89 #[.val (.int p1)] [(.int (1 : Int32))])
                  refine own_st (fun τ κ => XS.goto X.here hx rfl (pc0 := 89) (pc' := 93) rfl (hb hby d1_89) (by decide) (by decide) κ) ?_
                  show own_Go p e below _ T (mkF m 93 #[.val (.int p1)] [(.int (1 : Int32))])
                  have hw0 : own_ws p1 = 1 := by
                    refine own_ws_yes ?_
                    simp only [← Int32.toInt_inj, Int32.lt_iff_toInt_lt, Int32.reduceToInt] at r12 c15 c22 c29 c36 r53 c57 c64
                    simp only [own_white]
                    omega
                  refine own_retZ X hx hlk hret (by decide) (by decide) (by decide) (hb hby d1_93) ?_
                  exact ⟨by rw [hw0], N0, e0⟩
                · refine own_st (fun τ κ => XS.icmpNo X.here hx rfl (hb hby d1_64) rfl (XT.ii_eq_f c64) κ) ?_
                  show own_Go p e below _ T (mkF m 67 #[.val (.int p1)] [])
                  refine own_st (fun τ κ => XS.iloadN X.here hx rfl (hb hby d1_67) rfl κ) ?_
                  show own_Go p e below _ T (mkF m 68 #[.val (.int p1)] [(.int p1)])
                  refine own_st (fun τ κ => XT.sipushV X.here hx rfl (8239) (hb hby d1_68) (by decide) κ) ?_
                  show own_Go p e below _ T (mkF m 71 #[.val (.int p1)] [(.int (8239 : Int32)), (.int p1)])
                  by_cases c71 : p1 = (8239 : Int32)
                  · refine own_st (fun τ κ => XS.icmpYes X.here hx rfl (pc0 := 71) (pc' := 88) rfl (hb hby d1_71) rfl (XT.ii_eq_t c71) (by decide) (by decide) κ) ?_
                    show own_Go p e below _ T (mkF m 88 #[.val (.int p1)] [])
                    refine own_st (fun τ κ => XT.iconstV X.here hx rfl (1) (hb hby d1_88) (by decide) κ) ?_
                    show own_Go p e below _ T (mkF m 89 #[.val (.int p1)] [(.int (1 : Int32))])
                    refine own_st (fun τ κ => XS.goto X.here hx rfl (pc0 := 89) (pc' := 93) rfl (hb hby d1_89) (by decide) (by decide) κ) ?_
                    show own_Go p e below _ T (mkF m 93 #[.val (.int p1)] [(.int (1 : Int32))])
                    have hw0 : own_ws p1 = 1 := by
                      refine own_ws_yes ?_
                      simp only [← Int32.toInt_inj, Int32.lt_iff_toInt_lt, Int32.reduceToInt] at r12 c15 c22 c29 c36 r53 c57 c64 c71
                      simp only [own_white]
                      omega
                    refine own_retZ X hx hlk hret (by decide) (by decide) (by decide) (hb hby d1_93) ?_
                    exact ⟨by rw [hw0], N0, e0⟩
                  · refine own_st (fun τ κ => XS.icmpNo X.here hx rfl (hb hby d1_71) rfl (XT.ii_eq_f c71) κ) ?_
                    show own_Go p e below _ T (mkF m 74 #[.val (.int p1)] [])
                    refine own_st (fun τ κ => XS.iloadN X.here hx rfl (hb hby d1_74) rfl κ) ?_
                    show own_Go p e below _ T (mkF m 75 #[.val (.int p1)] [(.int p1)])
                    refine own_st (fun τ κ => XT.sipushV X.here hx rfl (8287) (hb hby d1_75) (by decide) κ) ?_
                    show own_Go p e below _ T (mkF m 78 #[.val (.int p1)] [(.int (8287 : Int32)), (.int p1)])
                    by_cases c78 : p1 = (8287 : Int32)
                    · refine own_st (fun τ κ => XS.icmpYes X.here hx rfl (pc0 := 78) (pc' := 88) rfl (hb hby d1_78) rfl (XT.ii_eq_t c78) (by decide) (by decide) κ) ?_
                      show own_Go p e below _ T (mkF m 88 #[.val (.int p1)] [])
                      refine own_st (fun τ κ => XT.iconstV X.here hx rfl (1) (hb hby d1_88) (by decide) κ) ?_
                      show own_Go p e below _ T (mkF m 89 #[.val (.int p1)] [(.int (1 : Int32))])
                      refine own_st (fun τ κ => XS.goto X.here hx rfl (pc0 := 89) (pc' := 93) rfl (hb hby d1_89) (by decide) (by decide) κ) ?_
                      show own_Go p e below _ T (mkF m 93 #[.val (.int p1)] [(.int (1 : Int32))])
                      have hw0 : own_ws p1 = 1 := by
                        refine own_ws_yes ?_
                        simp only [← Int32.toInt_inj, Int32.lt_iff_toInt_lt, Int32.reduceToInt] at r12 c15 c22 c29 c36 r53 c57 c64 c71 c78
                        simp only [own_white]
                        omega
                      refine own_retZ X hx hlk hret (by decide) (by decide) (by decide) (hb hby d1_93) ?_
                      exact ⟨by rw [hw0], N0, e0⟩
                    · refine own_st (fun τ κ => XS.icmpNo X.here hx rfl (hb hby d1_78) rfl (XT.ii_eq_f c78) κ) ?_
                      show own_Go p e below _ T (mkF m 81 #[.val (.int p1)] [])
                      refine own_st (fun τ κ => XS.iloadN X.here hx rfl (hb hby d1_81) rfl κ) ?_
                      show own_Go p e below _ T (mkF m 82 #[.val (.int p1)] [(.int p1)])
                      refine own_st (fun τ κ => XT.sipushV X.here hx rfl (12288) (hb hby d1_82) (by decide) κ) ?_
                      show own_Go p e below _ T (mkF m 85 #[.val (.int p1)] [(.int (12288 : Int32)), (.int p1)])
                      by_cases c85 : p1 = (12288 : Int32)
                      · refine own_st (fun τ κ => XS.icmpNo X.here hx rfl (hb hby d1_85) rfl (XT.ii_ne_f c85) κ) ?_
                        show own_Go p e below _ T (mkF m 88 #[.val (.int p1)] [])
                        refine own_st (fun τ κ => XT.iconstV X.here hx rfl (1) (hb hby d1_88) (by decide) κ) ?_
                        show own_Go p e below _ T (mkF m 89 #[.val (.int p1)] [(.int (1 : Int32))])
                        refine own_st (fun τ κ => XS.goto X.here hx rfl (pc0 := 89) (pc' := 93) rfl (hb hby d1_89) (by decide) (by decide) κ) ?_
                        show own_Go p e below _ T (mkF m 93 #[.val (.int p1)] [(.int (1 : Int32))])
                        have hw0 : own_ws p1 = 1 := by
                          refine own_ws_yes ?_
                          simp only [← Int32.toInt_inj, Int32.lt_iff_toInt_lt, Int32.reduceToInt] at r12 c15 c22 c29 c36 r53 c57 c64 c71 c78 c85
                          simp only [own_white]
                          omega
                        refine own_retZ X hx hlk hret (by decide) (by decide) (by decide) (hb hby d1_93) ?_
                        exact ⟨by rw [hw0], N0, e0⟩
                      · refine own_st (fun τ κ => XS.icmpYes X.here hx rfl (pc0 := 85) (pc' := 92) rfl (hb hby d1_85) rfl (XT.ii_ne_t c85) (by decide) (by decide) κ) ?_
                        show own_Go p e below _ T (mkF m 92 #[.val (.int p1)] [])
                        refine own_st (fun τ κ => XT.iconstV X.here hx rfl (0) (hb hby d1_92) (by decide) κ) ?_
                        show own_Go p e below _ T (mkF m 93 #[.val (.int p1)] [(.int (0 : Int32))])
                        have hw0 : own_ws p1 = 0 := by
                          refine own_ws_no ?_
                          simp only [← Int32.toInt_inj, Int32.lt_iff_toInt_lt, Int32.reduceToInt] at r12 c15 c22 c29 c36 r53 c57 c64 c71 c78 c85
                          simp only [own_white]
                          omega
                        refine own_retZ X hx hlk hret (by decide) (by decide) (by decide) (hb hby d1_93) ?_
                        exact ⟨by rw [hw0], N0, e0⟩

set_option maxRecDepth 65536 in
set_option maxHeartbeats 40000000 in
theorem rm2 (l : Launch) (Z : State) (a0 : Array Value) (hw : ∀ d ∈ tables_1, d.before a0 Z = true) (p1 : Int32) (h0 : Heap) (n0 : Nat) :
    own_Met l Z h0 (⟨x.cls, "ref", "(I)Z"⟩ : MethodName) method_3_code 1 (some .boolean) ({ frames := 0, cells := 0, slots := 0, locals := 0 } : Room) #[(.int p1)] (fun v h L => v = some (.int (own_ws p1)) ∧ Fr n0 L ∧ h = h0) := by
  refine own_body pn_2 (fun m => ef_2 m p1) ?_
  intro p e s m below meth c T X hx hby hml hret hlk hown hnm hZ e0
  have hown : s.vm.findClass x.cls = some m.cls := hown
  have hml : c.maxLocals = 1 := hml
  have N0 : Fr n0 ([] : List Loc) := Fr.nil n0
  show own_Go p e below _ T (mkF m 0 #[.val (.int p1)] [])
  refine own_st (fun τ κ => XS.iloadN X.here hx rfl (hb hby d2_0) rfl κ) ?_
  show own_Go p e below _ T (mkF m 1 #[.val (.int p1)] [(.int p1)])
  by_cases c1 : p1.toInt ∈ ([9, 10, 11, 12, 13, 32, 133, 160, 5760, 8192, 8193, 8194, 8195, 8196, 8197, 8198, 8199, 8200, 8201, 8202, 8232, 8233, 8239, 8287, 12288] : List Int)
  · have hit : ∀ i ∈ ([9, 10, 11, 12, 13, 32, 133, 160, 5760, 8192, 8193, 8194, 8195, 8196, 8197, 8198, 8199, 8200, 8201, 8202, 8232, 8233, 8239, 8287, 12288] : List Int), (#[(9, 211), (10, 211), (11, 211), (12, 211), (13, 211), (32, 211), (133, 211), (160, 211), (5760, 211), (8192, 211), (8193, 211), (8194, 211), (8195, 211), (8196, 211), (8197, 211), (8198, 211), (8199, 211), (8200, 211), (8201, 211), (8202, 211), (8232, 211), (8233, 211), (8239, 211), (8287, 211), (12288, 211)] : Array (Int × Int)).find? (·.1 == i) = some (i, 211) := by decide
    refine own_st (fun τ κ => X.lookupswitchHit hx (g := (mkF m 1 #[.val (.int p1)] [(.int p1)])) rfl (k := p1) (rest := []) rfl (hb hby d2_1) (by decide) (a := p1.toInt) (off := 211) (hit _ c1) (by show (0 : Int) ≤ ((1 : Nat) : Int) + 211; decide) τ κ) ?_
    show own_Go p e below _ T (mkF m 212 #[.val (.int p1)] [])
    refine own_st (fun τ κ => XT.iconstV X.here hx rfl (1) (hb hby d2_212) (by decide) κ) ?_
    show own_Go p e below _ T (mkF m 213 #[.val (.int p1)] [(.int (1 : Int32))])
    refine own_retZ X hx hlk hret (by decide) (by decide) (by decide) (hb hby d2_213) ?_
    exact ⟨by rw [own_ws, if_pos c1], N0, e0⟩
  · have miss : (#[(9, 211), (10, 211), (11, 211), (12, 211), (13, 211), (32, 211), (133, 211), (160, 211), (5760, 211), (8192, 211), (8193, 211), (8194, 211), (8195, 211), (8196, 211), (8197, 211), (8198, 211), (8199, 211), (8200, 211), (8201, 211), (8202, 211), (8232, 211), (8233, 211), (8239, 211), (8287, 211), (12288, 211)] : Array (Int × Int)).find? (·.1 == p1.toInt) = none := find_miss (fun q hq hz => c1 (by
      rw [← hz]
      have all : ∀ q ∈ (#[(9, 211), (10, 211), (11, 211), (12, 211), (13, 211), (32, 211), (133, 211), (160, 211), (5760, 211), (8192, 211), (8193, 211), (8194, 211), (8195, 211), (8196, 211), (8197, 211), (8198, 211), (8199, 211), (8200, 211), (8201, 211), (8202, 211), (8232, 211), (8233, 211), (8239, 211), (8287, 211), (12288, 211)] : Array (Int × Int)).toList, q.1 ∈ ([9, 10, 11, 12, 13, 32, 133, 160, 5760, 8192, 8193, 8194, 8195, 8196, 8197, 8198, 8199, 8200, 8201, 8202, 8232, 8233, 8239, 8287, 12288] : List Int) := by decide
      exact all q hq))
    refine own_st (fun τ κ => X.lookupswitchMiss hx (g := (mkF m 1 #[.val (.int p1)] [(.int p1)])) rfl (k := p1) (rest := []) rfl (hb hby d2_1) (by decide) miss (by show (0 : Int) ≤ ((1 : Nat) : Int) + 213; decide) τ κ) ?_
    show own_Go p e below _ T (mkF m 214 #[.val (.int p1)] [])
    refine own_st (fun τ κ => XT.iconstV X.here hx rfl (0) (hb hby d2_214) (by decide) κ) ?_
    show own_Go p e below _ T (mkF m 215 #[.val (.int p1)] [(.int (0 : Int32))])
    refine own_retZ X hx hlk hret (by decide) (by decide) (by decide) (hb hby d2_215) ?_
    exact ⟨by rw [own_ws, if_neg c1], N0, e0⟩

set_option maxRecDepth 65536 in
set_option maxHeartbeats 40000000 in
theorem rm0 (l : Launch) (Z : State) (a0 : Array Value) (hw : ∀ d ∈ tables_1, d.before a0 Z = true) (p1 p2 p3 : Int32) (h0 : Heap) (n0 : Nat) (Z0 : n0 ≤ h0.size) :
    own_Met l Z h0 x code maxLocals ret room_1 #[(.int p1), (.int p2), (.int p3)] (fun v h L => v = some (.int (1 : Int32)) ∧ Fr n0 L) := by
  refine own_body pn_0 (fun m => ef_0 m p1 p2 p3) ?_
  intro p e s m below meth c T X hx hby hml hret hlk hown hnm hZ e0
  have hown : s.vm.findClass x.cls = some m.cls := hown
  have hml : c.maxLocals = 7 := hml
  have N0 : Fr n0 ([] : List Loc) := Fr.nil n0
  show own_Go p e below _ T (mkF m 0 #[.val (.int p1), .val (.int p2), .val (.int p3), .unset, .unset, .unset, .unset] [])
  refine own_st (fun τ κ => XT.bipushV X.here hx rfl (25) (hb hby at_0) (by decide) κ) ?_
  show own_Go p e below _ T (mkF m 2 #[.val (.int p1), .val (.int p2), .val (.int p3), .unset, .unset, .unset, .unset] [(.int (25 : Int32))])
  refine own_newP X hx hZ e0 (hw _ (List.mem_of_getElem? (i := 0) rfl)) (hb hby at_2) (by decide) 25 (by decide) (by decide) (by decide) (by decide) ?_
  intro T1 h1 o1 X1 e1 E1 g1 A_o1
  have ga_o1 : n0 ≤ o1 := by omega
  have Z1 : n0 ≤ h1.size := Nat.le_trans Z0 E1.1
  have A_o1 : own_IA Z h1 o1 25 (fun _ => (0 : Int32)) := A_o1
  show own_Go p e below _ T1 (mkF m 4 #[.val (.int p1), .val (.int p2), .val (.int p3), .unset, .unset, .unset, .unset] [(.ref o1)])
  refine own_st (fun τ κ => XS.dup X1.here hx rfl (hb hby at_4) rfl rfl κ) ?_
  show own_Go p e below _ T1 (mkF m 5 #[.val (.int p1), .val (.int p2), .val (.int p3), .unset, .unset, .unset, .unset] [(.ref o1), (.ref o1)])
  refine own_st (fun τ κ => XT.iconstV X1.here hx rfl (0) (hb hby at_5) (by decide) κ) ?_
  show own_Go p e below _ T1 (mkF m 6 #[.val (.int p1), .val (.int p2), .val (.int p3), .unset, .unset, .unset, .unset] [(.int (0 : Int32)), (.ref o1), (.ref o1)])
  refine own_st (fun τ κ => XT.bipushV X1.here hx rfl (9) (hb hby at_6) (by decide) κ) ?_
  show own_Go p e below _ T1 (mkF m 8 #[.val (.int p1), .val (.int p2), .val (.int p3), .unset, .unset, .unset, .unset] [(.int (9 : Int32)), (.int (0 : Int32)), (.ref o1), (.ref o1)])
  refine own_stI X1 hx hZ e1 A_o1 (i := 0) (by decide) N0 ga_o1 (hb hby at_8) ?_
  intro T2 h2 X2 e2 B2 K2 N2
  have A_o1 := B2
  have Z2 : n0 ≤ h2.size := Nat.le_trans Z1 K2.1
  show own_Go p e below _ T2 (mkF m 9 #[.val (.int p1), .val (.int p2), .val (.int p3), .unset, .unset, .unset, .unset] [(.ref o1)])
  refine own_st (fun τ κ => XS.dup X2.here hx rfl (hb hby at_9) rfl rfl κ) ?_
  show own_Go p e below _ T2 (mkF m 10 #[.val (.int p1), .val (.int p2), .val (.int p3), .unset, .unset, .unset, .unset] [(.ref o1), (.ref o1)])
  refine own_st (fun τ κ => XT.iconstV X2.here hx rfl (1) (hb hby at_10) (by decide) κ) ?_
  show own_Go p e below _ T2 (mkF m 11 #[.val (.int p1), .val (.int p2), .val (.int p3), .unset, .unset, .unset, .unset] [(.int (1 : Int32)), (.ref o1), (.ref o1)])
  refine own_st (fun τ κ => XT.bipushV X2.here hx rfl (10) (hb hby at_11) (by decide) κ) ?_
  show own_Go p e below _ T2 (mkF m 13 #[.val (.int p1), .val (.int p2), .val (.int p3), .unset, .unset, .unset, .unset] [(.int (10 : Int32)), (.int (1 : Int32)), (.ref o1), (.ref o1)])
  refine own_stI X2 hx hZ e2 A_o1 (i := 1) (by decide) N2 ga_o1 (hb hby at_13) ?_
  intro T3 h3 X3 e3 B3 K3 N3
  have A_o1 := B3
  have Z3 : n0 ≤ h3.size := Nat.le_trans Z2 K3.1
  show own_Go p e below _ T3 (mkF m 14 #[.val (.int p1), .val (.int p2), .val (.int p3), .unset, .unset, .unset, .unset] [(.ref o1)])
  refine own_st (fun τ κ => XS.dup X3.here hx rfl (hb hby at_14) rfl rfl κ) ?_
  show own_Go p e below _ T3 (mkF m 15 #[.val (.int p1), .val (.int p2), .val (.int p3), .unset, .unset, .unset, .unset] [(.ref o1), (.ref o1)])
  refine own_st (fun τ κ => XT.iconstV X3.here hx rfl (2) (hb hby at_15) (by decide) κ) ?_
  show own_Go p e below _ T3 (mkF m 16 #[.val (.int p1), .val (.int p2), .val (.int p3), .unset, .unset, .unset, .unset] [(.int (2 : Int32)), (.ref o1), (.ref o1)])
  refine own_st (fun τ κ => XT.bipushV X3.here hx rfl (11) (hb hby at_16) (by decide) κ) ?_
  show own_Go p e below _ T3 (mkF m 18 #[.val (.int p1), .val (.int p2), .val (.int p3), .unset, .unset, .unset, .unset] [(.int (11 : Int32)), (.int (2 : Int32)), (.ref o1), (.ref o1)])
  refine own_stI X3 hx hZ e3 A_o1 (i := 2) (by decide) N3 ga_o1 (hb hby at_18) ?_
  intro T4 h4 X4 e4 B4 K4 N4
  have A_o1 := B4
  have Z4 : n0 ≤ h4.size := Nat.le_trans Z3 K4.1
  show own_Go p e below _ T4 (mkF m 19 #[.val (.int p1), .val (.int p2), .val (.int p3), .unset, .unset, .unset, .unset] [(.ref o1)])
  refine own_st (fun τ κ => XS.dup X4.here hx rfl (hb hby at_19) rfl rfl κ) ?_
  show own_Go p e below _ T4 (mkF m 20 #[.val (.int p1), .val (.int p2), .val (.int p3), .unset, .unset, .unset, .unset] [(.ref o1), (.ref o1)])
  refine own_st (fun τ κ => XT.iconstV X4.here hx rfl (3) (hb hby at_20) (by decide) κ) ?_
  show own_Go p e below _ T4 (mkF m 21 #[.val (.int p1), .val (.int p2), .val (.int p3), .unset, .unset, .unset, .unset] [(.int (3 : Int32)), (.ref o1), (.ref o1)])
  refine own_st (fun τ κ => XT.bipushV X4.here hx rfl (12) (hb hby at_21) (by decide) κ) ?_
  show own_Go p e below _ T4 (mkF m 23 #[.val (.int p1), .val (.int p2), .val (.int p3), .unset, .unset, .unset, .unset] [(.int (12 : Int32)), (.int (3 : Int32)), (.ref o1), (.ref o1)])
  refine own_stI X4 hx hZ e4 A_o1 (i := 3) (by decide) N4 ga_o1 (hb hby at_23) ?_
  intro T5 h5 X5 e5 B5 K5 N5
  have A_o1 := B5
  have Z5 : n0 ≤ h5.size := Nat.le_trans Z4 K5.1
  show own_Go p e below _ T5 (mkF m 24 #[.val (.int p1), .val (.int p2), .val (.int p3), .unset, .unset, .unset, .unset] [(.ref o1)])
  refine own_st (fun τ κ => XS.dup X5.here hx rfl (hb hby at_24) rfl rfl κ) ?_
  show own_Go p e below _ T5 (mkF m 25 #[.val (.int p1), .val (.int p2), .val (.int p3), .unset, .unset, .unset, .unset] [(.ref o1), (.ref o1)])
  refine own_st (fun τ κ => XT.iconstV X5.here hx rfl (4) (hb hby at_25) (by decide) κ) ?_
  show own_Go p e below _ T5 (mkF m 26 #[.val (.int p1), .val (.int p2), .val (.int p3), .unset, .unset, .unset, .unset] [(.int (4 : Int32)), (.ref o1), (.ref o1)])
  refine own_st (fun τ κ => XT.bipushV X5.here hx rfl (13) (hb hby at_26) (by decide) κ) ?_
  show own_Go p e below _ T5 (mkF m 28 #[.val (.int p1), .val (.int p2), .val (.int p3), .unset, .unset, .unset, .unset] [(.int (13 : Int32)), (.int (4 : Int32)), (.ref o1), (.ref o1)])
  refine own_stI X5 hx hZ e5 A_o1 (i := 4) (by decide) N5 ga_o1 (hb hby at_28) ?_
  intro T6 h6 X6 e6 B6 K6 N6
  have A_o1 := B6
  have Z6 : n0 ≤ h6.size := Nat.le_trans Z5 K6.1
  show own_Go p e below _ T6 (mkF m 29 #[.val (.int p1), .val (.int p2), .val (.int p3), .unset, .unset, .unset, .unset] [(.ref o1)])
  refine own_st (fun τ κ => XS.dup X6.here hx rfl (hb hby at_29) rfl rfl κ) ?_
  show own_Go p e below _ T6 (mkF m 30 #[.val (.int p1), .val (.int p2), .val (.int p3), .unset, .unset, .unset, .unset] [(.ref o1), (.ref o1)])
  refine own_st (fun τ κ => XT.iconstV X6.here hx rfl (5) (hb hby at_30) (by decide) κ) ?_
  show own_Go p e below _ T6 (mkF m 31 #[.val (.int p1), .val (.int p2), .val (.int p3), .unset, .unset, .unset, .unset] [(.int (5 : Int32)), (.ref o1), (.ref o1)])
  refine own_st (fun τ κ => XT.bipushV X6.here hx rfl (32) (hb hby at_31) (by decide) κ) ?_
  show own_Go p e below _ T6 (mkF m 33 #[.val (.int p1), .val (.int p2), .val (.int p3), .unset, .unset, .unset, .unset] [(.int (32 : Int32)), (.int (5 : Int32)), (.ref o1), (.ref o1)])
  refine own_stI X6 hx hZ e6 A_o1 (i := 5) (by decide) N6 ga_o1 (hb hby at_33) ?_
  intro T7 h7 X7 e7 B7 K7 N7
  have A_o1 := B7
  have Z7 : n0 ≤ h7.size := Nat.le_trans Z6 K7.1
  show own_Go p e below _ T7 (mkF m 34 #[.val (.int p1), .val (.int p2), .val (.int p3), .unset, .unset, .unset, .unset] [(.ref o1)])
  refine own_st (fun τ κ => XS.dup X7.here hx rfl (hb hby at_34) rfl rfl κ) ?_
  show own_Go p e below _ T7 (mkF m 35 #[.val (.int p1), .val (.int p2), .val (.int p3), .unset, .unset, .unset, .unset] [(.ref o1), (.ref o1)])
  refine own_st (fun τ κ => XT.bipushV X7.here hx rfl (6) (hb hby at_35) (by decide) κ) ?_
  show own_Go p e below _ T7 (mkF m 37 #[.val (.int p1), .val (.int p2), .val (.int p3), .unset, .unset, .unset, .unset] [(.int (6 : Int32)), (.ref o1), (.ref o1)])
  refine own_st (fun τ κ => XT.sipushV X7.here hx rfl (133) (hb hby at_37) (by decide) κ) ?_
  show own_Go p e below _ T7 (mkF m 40 #[.val (.int p1), .val (.int p2), .val (.int p3), .unset, .unset, .unset, .unset] [(.int (133 : Int32)), (.int (6 : Int32)), (.ref o1), (.ref o1)])
  refine own_stI X7 hx hZ e7 A_o1 (i := 6) (by decide) N7 ga_o1 (hb hby at_40) ?_
  intro T8 h8 X8 e8 B8 K8 N8
  have A_o1 := B8
  have Z8 : n0 ≤ h8.size := Nat.le_trans Z7 K8.1
  show own_Go p e below _ T8 (mkF m 41 #[.val (.int p1), .val (.int p2), .val (.int p3), .unset, .unset, .unset, .unset] [(.ref o1)])
  refine own_st (fun τ κ => XS.dup X8.here hx rfl (hb hby at_41) rfl rfl κ) ?_
  show own_Go p e below _ T8 (mkF m 42 #[.val (.int p1), .val (.int p2), .val (.int p3), .unset, .unset, .unset, .unset] [(.ref o1), (.ref o1)])
  refine own_st (fun τ κ => XT.bipushV X8.here hx rfl (7) (hb hby at_42) (by decide) κ) ?_
  show own_Go p e below _ T8 (mkF m 44 #[.val (.int p1), .val (.int p2), .val (.int p3), .unset, .unset, .unset, .unset] [(.int (7 : Int32)), (.ref o1), (.ref o1)])
  refine own_st (fun τ κ => XT.sipushV X8.here hx rfl (160) (hb hby at_44) (by decide) κ) ?_
  show own_Go p e below _ T8 (mkF m 47 #[.val (.int p1), .val (.int p2), .val (.int p3), .unset, .unset, .unset, .unset] [(.int (160 : Int32)), (.int (7 : Int32)), (.ref o1), (.ref o1)])
  refine own_stI X8 hx hZ e8 A_o1 (i := 7) (by decide) N8 ga_o1 (hb hby at_47) ?_
  intro T9 h9 X9 e9 B9 K9 N9
  have A_o1 := B9
  have Z9 : n0 ≤ h9.size := Nat.le_trans Z8 K9.1
  show own_Go p e below _ T9 (mkF m 48 #[.val (.int p1), .val (.int p2), .val (.int p3), .unset, .unset, .unset, .unset] [(.ref o1)])
  refine own_st (fun τ κ => XS.dup X9.here hx rfl (hb hby at_48) rfl rfl κ) ?_
  show own_Go p e below _ T9 (mkF m 49 #[.val (.int p1), .val (.int p2), .val (.int p3), .unset, .unset, .unset, .unset] [(.ref o1), (.ref o1)])
  refine own_st (fun τ κ => XT.bipushV X9.here hx rfl (8) (hb hby at_49) (by decide) κ) ?_
  show own_Go p e below _ T9 (mkF m 51 #[.val (.int p1), .val (.int p2), .val (.int p3), .unset, .unset, .unset, .unset] [(.int (8 : Int32)), (.ref o1), (.ref o1)])
  refine own_st (fun τ κ => XT.sipushV X9.here hx rfl (5760) (hb hby at_51) (by decide) κ) ?_
  show own_Go p e below _ T9 (mkF m 54 #[.val (.int p1), .val (.int p2), .val (.int p3), .unset, .unset, .unset, .unset] [(.int (5760 : Int32)), (.int (8 : Int32)), (.ref o1), (.ref o1)])
  refine own_stI X9 hx hZ e9 A_o1 (i := 8) (by decide) N9 ga_o1 (hb hby at_54) ?_
  intro T10 h10 X10 e10 B10 K10 N10
  have A_o1 := B10
  have Z10 : n0 ≤ h10.size := Nat.le_trans Z9 K10.1
  show own_Go p e below _ T10 (mkF m 55 #[.val (.int p1), .val (.int p2), .val (.int p3), .unset, .unset, .unset, .unset] [(.ref o1)])
  refine own_st (fun τ κ => XS.dup X10.here hx rfl (hb hby at_55) rfl rfl κ) ?_
  show own_Go p e below _ T10 (mkF m 56 #[.val (.int p1), .val (.int p2), .val (.int p3), .unset, .unset, .unset, .unset] [(.ref o1), (.ref o1)])
  refine own_st (fun τ κ => XT.bipushV X10.here hx rfl (9) (hb hby at_56) (by decide) κ) ?_
  show own_Go p e below _ T10 (mkF m 58 #[.val (.int p1), .val (.int p2), .val (.int p3), .unset, .unset, .unset, .unset] [(.int (9 : Int32)), (.ref o1), (.ref o1)])
  refine own_st (fun τ κ => XT.sipushV X10.here hx rfl (8192) (hb hby at_58) (by decide) κ) ?_
  show own_Go p e below _ T10 (mkF m 61 #[.val (.int p1), .val (.int p2), .val (.int p3), .unset, .unset, .unset, .unset] [(.int (8192 : Int32)), (.int (9 : Int32)), (.ref o1), (.ref o1)])
  refine own_stI X10 hx hZ e10 A_o1 (i := 9) (by decide) N10 ga_o1 (hb hby at_61) ?_
  intro T11 h11 X11 e11 B11 K11 N11
  have A_o1 := B11
  have Z11 : n0 ≤ h11.size := Nat.le_trans Z10 K11.1
  show own_Go p e below _ T11 (mkF m 62 #[.val (.int p1), .val (.int p2), .val (.int p3), .unset, .unset, .unset, .unset] [(.ref o1)])
  refine own_st (fun τ κ => XS.dup X11.here hx rfl (hb hby at_62) rfl rfl κ) ?_
  show own_Go p e below _ T11 (mkF m 63 #[.val (.int p1), .val (.int p2), .val (.int p3), .unset, .unset, .unset, .unset] [(.ref o1), (.ref o1)])
  refine own_st (fun τ κ => XT.bipushV X11.here hx rfl (10) (hb hby at_63) (by decide) κ) ?_
  show own_Go p e below _ T11 (mkF m 65 #[.val (.int p1), .val (.int p2), .val (.int p3), .unset, .unset, .unset, .unset] [(.int (10 : Int32)), (.ref o1), (.ref o1)])
  refine own_st (fun τ κ => XT.sipushV X11.here hx rfl (8193) (hb hby at_65) (by decide) κ) ?_
  show own_Go p e below _ T11 (mkF m 68 #[.val (.int p1), .val (.int p2), .val (.int p3), .unset, .unset, .unset, .unset] [(.int (8193 : Int32)), (.int (10 : Int32)), (.ref o1), (.ref o1)])
  refine own_stI X11 hx hZ e11 A_o1 (i := 10) (by decide) N11 ga_o1 (hb hby at_68) ?_
  intro T12 h12 X12 e12 B12 K12 N12
  have A_o1 := B12
  have Z12 : n0 ≤ h12.size := Nat.le_trans Z11 K12.1
  show own_Go p e below _ T12 (mkF m 69 #[.val (.int p1), .val (.int p2), .val (.int p3), .unset, .unset, .unset, .unset] [(.ref o1)])
  refine own_st (fun τ κ => XS.dup X12.here hx rfl (hb hby at_69) rfl rfl κ) ?_
  show own_Go p e below _ T12 (mkF m 70 #[.val (.int p1), .val (.int p2), .val (.int p3), .unset, .unset, .unset, .unset] [(.ref o1), (.ref o1)])
  refine own_st (fun τ κ => XT.bipushV X12.here hx rfl (11) (hb hby at_70) (by decide) κ) ?_
  show own_Go p e below _ T12 (mkF m 72 #[.val (.int p1), .val (.int p2), .val (.int p3), .unset, .unset, .unset, .unset] [(.int (11 : Int32)), (.ref o1), (.ref o1)])
  refine own_st (fun τ κ => XT.sipushV X12.here hx rfl (8194) (hb hby at_72) (by decide) κ) ?_
  show own_Go p e below _ T12 (mkF m 75 #[.val (.int p1), .val (.int p2), .val (.int p3), .unset, .unset, .unset, .unset] [(.int (8194 : Int32)), (.int (11 : Int32)), (.ref o1), (.ref o1)])
  refine own_stI X12 hx hZ e12 A_o1 (i := 11) (by decide) N12 ga_o1 (hb hby at_75) ?_
  intro T13 h13 X13 e13 B13 K13 N13
  have A_o1 := B13
  have Z13 : n0 ≤ h13.size := Nat.le_trans Z12 K13.1
  show own_Go p e below _ T13 (mkF m 76 #[.val (.int p1), .val (.int p2), .val (.int p3), .unset, .unset, .unset, .unset] [(.ref o1)])
  refine own_st (fun τ κ => XS.dup X13.here hx rfl (hb hby at_76) rfl rfl κ) ?_
  show own_Go p e below _ T13 (mkF m 77 #[.val (.int p1), .val (.int p2), .val (.int p3), .unset, .unset, .unset, .unset] [(.ref o1), (.ref o1)])
  refine own_st (fun τ κ => XT.bipushV X13.here hx rfl (12) (hb hby at_77) (by decide) κ) ?_
  show own_Go p e below _ T13 (mkF m 79 #[.val (.int p1), .val (.int p2), .val (.int p3), .unset, .unset, .unset, .unset] [(.int (12 : Int32)), (.ref o1), (.ref o1)])
  refine own_st (fun τ κ => XT.sipushV X13.here hx rfl (8195) (hb hby at_79) (by decide) κ) ?_
  show own_Go p e below _ T13 (mkF m 82 #[.val (.int p1), .val (.int p2), .val (.int p3), .unset, .unset, .unset, .unset] [(.int (8195 : Int32)), (.int (12 : Int32)), (.ref o1), (.ref o1)])
  refine own_stI X13 hx hZ e13 A_o1 (i := 12) (by decide) N13 ga_o1 (hb hby at_82) ?_
  intro T14 h14 X14 e14 B14 K14 N14
  have A_o1 := B14
  have Z14 : n0 ≤ h14.size := Nat.le_trans Z13 K14.1
  show own_Go p e below _ T14 (mkF m 83 #[.val (.int p1), .val (.int p2), .val (.int p3), .unset, .unset, .unset, .unset] [(.ref o1)])
  refine own_st (fun τ κ => XS.dup X14.here hx rfl (hb hby at_83) rfl rfl κ) ?_
  show own_Go p e below _ T14 (mkF m 84 #[.val (.int p1), .val (.int p2), .val (.int p3), .unset, .unset, .unset, .unset] [(.ref o1), (.ref o1)])
  refine own_st (fun τ κ => XT.bipushV X14.here hx rfl (13) (hb hby at_84) (by decide) κ) ?_
  show own_Go p e below _ T14 (mkF m 86 #[.val (.int p1), .val (.int p2), .val (.int p3), .unset, .unset, .unset, .unset] [(.int (13 : Int32)), (.ref o1), (.ref o1)])
  refine own_st (fun τ κ => XT.sipushV X14.here hx rfl (8196) (hb hby at_86) (by decide) κ) ?_
  show own_Go p e below _ T14 (mkF m 89 #[.val (.int p1), .val (.int p2), .val (.int p3), .unset, .unset, .unset, .unset] [(.int (8196 : Int32)), (.int (13 : Int32)), (.ref o1), (.ref o1)])
  refine own_stI X14 hx hZ e14 A_o1 (i := 13) (by decide) N14 ga_o1 (hb hby at_89) ?_
  intro T15 h15 X15 e15 B15 K15 N15
  have A_o1 := B15
  have Z15 : n0 ≤ h15.size := Nat.le_trans Z14 K15.1
  show own_Go p e below _ T15 (mkF m 90 #[.val (.int p1), .val (.int p2), .val (.int p3), .unset, .unset, .unset, .unset] [(.ref o1)])
  refine own_st (fun τ κ => XS.dup X15.here hx rfl (hb hby at_90) rfl rfl κ) ?_
  show own_Go p e below _ T15 (mkF m 91 #[.val (.int p1), .val (.int p2), .val (.int p3), .unset, .unset, .unset, .unset] [(.ref o1), (.ref o1)])
  refine own_st (fun τ κ => XT.bipushV X15.here hx rfl (14) (hb hby at_91) (by decide) κ) ?_
  show own_Go p e below _ T15 (mkF m 93 #[.val (.int p1), .val (.int p2), .val (.int p3), .unset, .unset, .unset, .unset] [(.int (14 : Int32)), (.ref o1), (.ref o1)])
  refine own_st (fun τ κ => XT.sipushV X15.here hx rfl (8197) (hb hby at_93) (by decide) κ) ?_
  show own_Go p e below _ T15 (mkF m 96 #[.val (.int p1), .val (.int p2), .val (.int p3), .unset, .unset, .unset, .unset] [(.int (8197 : Int32)), (.int (14 : Int32)), (.ref o1), (.ref o1)])
  refine own_stI X15 hx hZ e15 A_o1 (i := 14) (by decide) N15 ga_o1 (hb hby at_96) ?_
  intro T16 h16 X16 e16 B16 K16 N16
  have A_o1 := B16
  have Z16 : n0 ≤ h16.size := Nat.le_trans Z15 K16.1
  show own_Go p e below _ T16 (mkF m 97 #[.val (.int p1), .val (.int p2), .val (.int p3), .unset, .unset, .unset, .unset] [(.ref o1)])
  refine own_st (fun τ κ => XS.dup X16.here hx rfl (hb hby at_97) rfl rfl κ) ?_
  show own_Go p e below _ T16 (mkF m 98 #[.val (.int p1), .val (.int p2), .val (.int p3), .unset, .unset, .unset, .unset] [(.ref o1), (.ref o1)])
  refine own_st (fun τ κ => XT.bipushV X16.here hx rfl (15) (hb hby at_98) (by decide) κ) ?_
  show own_Go p e below _ T16 (mkF m 100 #[.val (.int p1), .val (.int p2), .val (.int p3), .unset, .unset, .unset, .unset] [(.int (15 : Int32)), (.ref o1), (.ref o1)])
  refine own_st (fun τ κ => XT.sipushV X16.here hx rfl (8198) (hb hby at_100) (by decide) κ) ?_
  show own_Go p e below _ T16 (mkF m 103 #[.val (.int p1), .val (.int p2), .val (.int p3), .unset, .unset, .unset, .unset] [(.int (8198 : Int32)), (.int (15 : Int32)), (.ref o1), (.ref o1)])
  refine own_stI X16 hx hZ e16 A_o1 (i := 15) (by decide) N16 ga_o1 (hb hby at_103) ?_
  intro T17 h17 X17 e17 B17 K17 N17
  have A_o1 := B17
  have Z17 : n0 ≤ h17.size := Nat.le_trans Z16 K17.1
  show own_Go p e below _ T17 (mkF m 104 #[.val (.int p1), .val (.int p2), .val (.int p3), .unset, .unset, .unset, .unset] [(.ref o1)])
  refine own_st (fun τ κ => XS.dup X17.here hx rfl (hb hby at_104) rfl rfl κ) ?_
  show own_Go p e below _ T17 (mkF m 105 #[.val (.int p1), .val (.int p2), .val (.int p3), .unset, .unset, .unset, .unset] [(.ref o1), (.ref o1)])
  refine own_st (fun τ κ => XT.bipushV X17.here hx rfl (16) (hb hby at_105) (by decide) κ) ?_
  show own_Go p e below _ T17 (mkF m 107 #[.val (.int p1), .val (.int p2), .val (.int p3), .unset, .unset, .unset, .unset] [(.int (16 : Int32)), (.ref o1), (.ref o1)])
  refine own_st (fun τ κ => XT.sipushV X17.here hx rfl (8199) (hb hby at_107) (by decide) κ) ?_
  show own_Go p e below _ T17 (mkF m 110 #[.val (.int p1), .val (.int p2), .val (.int p3), .unset, .unset, .unset, .unset] [(.int (8199 : Int32)), (.int (16 : Int32)), (.ref o1), (.ref o1)])
  refine own_stI X17 hx hZ e17 A_o1 (i := 16) (by decide) N17 ga_o1 (hb hby at_110) ?_
  intro T18 h18 X18 e18 B18 K18 N18
  have A_o1 := B18
  have Z18 : n0 ≤ h18.size := Nat.le_trans Z17 K18.1
  show own_Go p e below _ T18 (mkF m 111 #[.val (.int p1), .val (.int p2), .val (.int p3), .unset, .unset, .unset, .unset] [(.ref o1)])
  refine own_st (fun τ κ => XS.dup X18.here hx rfl (hb hby at_111) rfl rfl κ) ?_
  show own_Go p e below _ T18 (mkF m 112 #[.val (.int p1), .val (.int p2), .val (.int p3), .unset, .unset, .unset, .unset] [(.ref o1), (.ref o1)])
  refine own_st (fun τ κ => XT.bipushV X18.here hx rfl (17) (hb hby at_112) (by decide) κ) ?_
  show own_Go p e below _ T18 (mkF m 114 #[.val (.int p1), .val (.int p2), .val (.int p3), .unset, .unset, .unset, .unset] [(.int (17 : Int32)), (.ref o1), (.ref o1)])
  refine own_st (fun τ κ => XT.sipushV X18.here hx rfl (8200) (hb hby at_114) (by decide) κ) ?_
  show own_Go p e below _ T18 (mkF m 117 #[.val (.int p1), .val (.int p2), .val (.int p3), .unset, .unset, .unset, .unset] [(.int (8200 : Int32)), (.int (17 : Int32)), (.ref o1), (.ref o1)])
  refine own_stI X18 hx hZ e18 A_o1 (i := 17) (by decide) N18 ga_o1 (hb hby at_117) ?_
  intro T19 h19 X19 e19 B19 K19 N19
  have A_o1 := B19
  have Z19 : n0 ≤ h19.size := Nat.le_trans Z18 K19.1
  show own_Go p e below _ T19 (mkF m 118 #[.val (.int p1), .val (.int p2), .val (.int p3), .unset, .unset, .unset, .unset] [(.ref o1)])
  refine own_st (fun τ κ => XS.dup X19.here hx rfl (hb hby at_118) rfl rfl κ) ?_
  show own_Go p e below _ T19 (mkF m 119 #[.val (.int p1), .val (.int p2), .val (.int p3), .unset, .unset, .unset, .unset] [(.ref o1), (.ref o1)])
  refine own_st (fun τ κ => XT.bipushV X19.here hx rfl (18) (hb hby at_119) (by decide) κ) ?_
  show own_Go p e below _ T19 (mkF m 121 #[.val (.int p1), .val (.int p2), .val (.int p3), .unset, .unset, .unset, .unset] [(.int (18 : Int32)), (.ref o1), (.ref o1)])
  refine own_st (fun τ κ => XT.sipushV X19.here hx rfl (8201) (hb hby at_121) (by decide) κ) ?_
  show own_Go p e below _ T19 (mkF m 124 #[.val (.int p1), .val (.int p2), .val (.int p3), .unset, .unset, .unset, .unset] [(.int (8201 : Int32)), (.int (18 : Int32)), (.ref o1), (.ref o1)])
  refine own_stI X19 hx hZ e19 A_o1 (i := 18) (by decide) N19 ga_o1 (hb hby at_124) ?_
  intro T20 h20 X20 e20 B20 K20 N20
  have A_o1 := B20
  have Z20 : n0 ≤ h20.size := Nat.le_trans Z19 K20.1
  show own_Go p e below _ T20 (mkF m 125 #[.val (.int p1), .val (.int p2), .val (.int p3), .unset, .unset, .unset, .unset] [(.ref o1)])
  refine own_st (fun τ κ => XS.dup X20.here hx rfl (hb hby at_125) rfl rfl κ) ?_
  show own_Go p e below _ T20 (mkF m 126 #[.val (.int p1), .val (.int p2), .val (.int p3), .unset, .unset, .unset, .unset] [(.ref o1), (.ref o1)])
  refine own_st (fun τ κ => XT.bipushV X20.here hx rfl (19) (hb hby at_126) (by decide) κ) ?_
  show own_Go p e below _ T20 (mkF m 128 #[.val (.int p1), .val (.int p2), .val (.int p3), .unset, .unset, .unset, .unset] [(.int (19 : Int32)), (.ref o1), (.ref o1)])
  refine own_st (fun τ κ => XT.sipushV X20.here hx rfl (8202) (hb hby at_128) (by decide) κ) ?_
  show own_Go p e below _ T20 (mkF m 131 #[.val (.int p1), .val (.int p2), .val (.int p3), .unset, .unset, .unset, .unset] [(.int (8202 : Int32)), (.int (19 : Int32)), (.ref o1), (.ref o1)])
  refine own_stI X20 hx hZ e20 A_o1 (i := 19) (by decide) N20 ga_o1 (hb hby at_131) ?_
  intro T21 h21 X21 e21 B21 K21 N21
  have A_o1 := B21
  have Z21 : n0 ≤ h21.size := Nat.le_trans Z20 K21.1
  show own_Go p e below _ T21 (mkF m 132 #[.val (.int p1), .val (.int p2), .val (.int p3), .unset, .unset, .unset, .unset] [(.ref o1)])
  refine own_st (fun τ κ => XS.dup X21.here hx rfl (hb hby at_132) rfl rfl κ) ?_
  show own_Go p e below _ T21 (mkF m 133 #[.val (.int p1), .val (.int p2), .val (.int p3), .unset, .unset, .unset, .unset] [(.ref o1), (.ref o1)])
  refine own_st (fun τ κ => XT.bipushV X21.here hx rfl (20) (hb hby at_133) (by decide) κ) ?_
  show own_Go p e below _ T21 (mkF m 135 #[.val (.int p1), .val (.int p2), .val (.int p3), .unset, .unset, .unset, .unset] [(.int (20 : Int32)), (.ref o1), (.ref o1)])
  refine own_st (fun τ κ => XT.sipushV X21.here hx rfl (8232) (hb hby at_135) (by decide) κ) ?_
  show own_Go p e below _ T21 (mkF m 138 #[.val (.int p1), .val (.int p2), .val (.int p3), .unset, .unset, .unset, .unset] [(.int (8232 : Int32)), (.int (20 : Int32)), (.ref o1), (.ref o1)])
  refine own_stI X21 hx hZ e21 A_o1 (i := 20) (by decide) N21 ga_o1 (hb hby at_138) ?_
  intro T22 h22 X22 e22 B22 K22 N22
  have A_o1 := B22
  have Z22 : n0 ≤ h22.size := Nat.le_trans Z21 K22.1
  show own_Go p e below _ T22 (mkF m 139 #[.val (.int p1), .val (.int p2), .val (.int p3), .unset, .unset, .unset, .unset] [(.ref o1)])
  refine own_st (fun τ κ => XS.dup X22.here hx rfl (hb hby at_139) rfl rfl κ) ?_
  show own_Go p e below _ T22 (mkF m 140 #[.val (.int p1), .val (.int p2), .val (.int p3), .unset, .unset, .unset, .unset] [(.ref o1), (.ref o1)])
  refine own_st (fun τ κ => XT.bipushV X22.here hx rfl (21) (hb hby at_140) (by decide) κ) ?_
  show own_Go p e below _ T22 (mkF m 142 #[.val (.int p1), .val (.int p2), .val (.int p3), .unset, .unset, .unset, .unset] [(.int (21 : Int32)), (.ref o1), (.ref o1)])
  refine own_st (fun τ κ => XT.sipushV X22.here hx rfl (8233) (hb hby at_142) (by decide) κ) ?_
  show own_Go p e below _ T22 (mkF m 145 #[.val (.int p1), .val (.int p2), .val (.int p3), .unset, .unset, .unset, .unset] [(.int (8233 : Int32)), (.int (21 : Int32)), (.ref o1), (.ref o1)])
  refine own_stI X22 hx hZ e22 A_o1 (i := 21) (by decide) N22 ga_o1 (hb hby at_145) ?_
  intro T23 h23 X23 e23 B23 K23 N23
  have A_o1 := B23
  have Z23 : n0 ≤ h23.size := Nat.le_trans Z22 K23.1
  show own_Go p e below _ T23 (mkF m 146 #[.val (.int p1), .val (.int p2), .val (.int p3), .unset, .unset, .unset, .unset] [(.ref o1)])
  refine own_st (fun τ κ => XS.dup X23.here hx rfl (hb hby at_146) rfl rfl κ) ?_
  show own_Go p e below _ T23 (mkF m 147 #[.val (.int p1), .val (.int p2), .val (.int p3), .unset, .unset, .unset, .unset] [(.ref o1), (.ref o1)])
  refine own_st (fun τ κ => XT.bipushV X23.here hx rfl (22) (hb hby at_147) (by decide) κ) ?_
  show own_Go p e below _ T23 (mkF m 149 #[.val (.int p1), .val (.int p2), .val (.int p3), .unset, .unset, .unset, .unset] [(.int (22 : Int32)), (.ref o1), (.ref o1)])
  refine own_st (fun τ κ => XT.sipushV X23.here hx rfl (8239) (hb hby at_149) (by decide) κ) ?_
  show own_Go p e below _ T23 (mkF m 152 #[.val (.int p1), .val (.int p2), .val (.int p3), .unset, .unset, .unset, .unset] [(.int (8239 : Int32)), (.int (22 : Int32)), (.ref o1), (.ref o1)])
  refine own_stI X23 hx hZ e23 A_o1 (i := 22) (by decide) N23 ga_o1 (hb hby at_152) ?_
  intro T24 h24 X24 e24 B24 K24 N24
  have A_o1 := B24
  have Z24 : n0 ≤ h24.size := Nat.le_trans Z23 K24.1
  show own_Go p e below _ T24 (mkF m 153 #[.val (.int p1), .val (.int p2), .val (.int p3), .unset, .unset, .unset, .unset] [(.ref o1)])
  refine own_st (fun τ κ => XS.dup X24.here hx rfl (hb hby at_153) rfl rfl κ) ?_
  show own_Go p e below _ T24 (mkF m 154 #[.val (.int p1), .val (.int p2), .val (.int p3), .unset, .unset, .unset, .unset] [(.ref o1), (.ref o1)])
  refine own_st (fun τ κ => XT.bipushV X24.here hx rfl (23) (hb hby at_154) (by decide) κ) ?_
  show own_Go p e below _ T24 (mkF m 156 #[.val (.int p1), .val (.int p2), .val (.int p3), .unset, .unset, .unset, .unset] [(.int (23 : Int32)), (.ref o1), (.ref o1)])
  refine own_st (fun τ κ => XT.sipushV X24.here hx rfl (8287) (hb hby at_156) (by decide) κ) ?_
  show own_Go p e below _ T24 (mkF m 159 #[.val (.int p1), .val (.int p2), .val (.int p3), .unset, .unset, .unset, .unset] [(.int (8287 : Int32)), (.int (23 : Int32)), (.ref o1), (.ref o1)])
  refine own_stI X24 hx hZ e24 A_o1 (i := 23) (by decide) N24 ga_o1 (hb hby at_159) ?_
  intro T25 h25 X25 e25 B25 K25 N25
  have A_o1 := B25
  have Z25 : n0 ≤ h25.size := Nat.le_trans Z24 K25.1
  show own_Go p e below _ T25 (mkF m 160 #[.val (.int p1), .val (.int p2), .val (.int p3), .unset, .unset, .unset, .unset] [(.ref o1)])
  refine own_st (fun τ κ => XS.dup X25.here hx rfl (hb hby at_160) rfl rfl κ) ?_
  show own_Go p e below _ T25 (mkF m 161 #[.val (.int p1), .val (.int p2), .val (.int p3), .unset, .unset, .unset, .unset] [(.ref o1), (.ref o1)])
  refine own_st (fun τ κ => XT.bipushV X25.here hx rfl (24) (hb hby at_161) (by decide) κ) ?_
  show own_Go p e below _ T25 (mkF m 163 #[.val (.int p1), .val (.int p2), .val (.int p3), .unset, .unset, .unset, .unset] [(.int (24 : Int32)), (.ref o1), (.ref o1)])
  refine own_st (fun τ κ => XT.sipushV X25.here hx rfl (12288) (hb hby at_163) (by decide) κ) ?_
  show own_Go p e below _ T25 (mkF m 166 #[.val (.int p1), .val (.int p2), .val (.int p3), .unset, .unset, .unset, .unset] [(.int (12288 : Int32)), (.int (24 : Int32)), (.ref o1), (.ref o1)])
  refine own_stI X25 hx hZ e25 A_o1 (i := 24) (by decide) N25 ga_o1 (hb hby at_166) ?_
  intro T26 h26 X26 e26 B26 K26 N26
  have A_o1 := B26
  have Z26 : n0 ≤ h26.size := Nat.le_trans Z25 K26.1
  show own_Go p e below _ T26 (mkF m 167 #[.val (.int p1), .val (.int p2), .val (.int p3), .unset, .unset, .unset, .unset] [(.ref o1)])
  refine own_st (fun τ κ => XS.astoreN X26.here hx rfl (hb hby at_167) rfl rfl (l' := #[.val (.int p1), .val (.int p2), .val (.int p3), .val (.ref o1), .unset, .unset, .unset]) rfl κ) ?_
  show own_Go p e below _ T26 (mkF m 168 #[.val (.int p1), .val (.int p2), .val (.int p3), .val (.ref o1), .unset, .unset, .unset] [])
  refine own_st (fun τ κ => XS.aloadN X26.here hx rfl (hb hby at_168) rfl rfl κ) ?_
  show own_Go p e below _ T26 (mkF m 169 #[.val (.int p1), .val (.int p2), .val (.int p3), .val (.ref o1), .unset, .unset, .unset] [(.ref o1)])
  refine own_st (fun τ κ => XS.iloadN X26.here hx rfl (hb hby at_169) rfl κ) ?_
  show own_Go p e below _ T26 (mkF m 170 #[.val (.int p1), .val (.int p2), .val (.int p3), .val (.ref o1), .unset, .unset, .unset] [(.int p2), (.ref o1)])
  refine own_st (fun τ κ => Stand.ldcI X26 hx hown (mvT hZ (hw _ (List.mem_of_getElem? (i := 1) rfl))) rfl (hb hby at_170) κ) ?_
  show own_Go p e below _ T26 (mkF m 172 #[.val (.int p1), .val (.int p2), .val (.int p3), .val (.ref o1), .unset, .unset, .unset] [(.int (2147483647 : Int32)), (.int p2), (.ref o1)])
  refine own_st (fun τ κ => XS.iand X26.here hx rfl (hb hby at_172) rfl κ) ?_
  show own_Go p e below _ T26 (mkF m 173 #[.val (.int p1), .val (.int p2), .val (.int p3), .val (.ref o1), .unset, .unset, .unset] [(.int (p2 &&& (2147483647 : Int32))), (.ref o1)])
  refine own_st (fun τ κ => XT.bipushV X26.here hx rfl (25) (hb hby at_173) (by decide) κ) ?_
  show own_Go p e below _ T26 (mkF m 175 #[.val (.int p1), .val (.int p2), .val (.int p3), .val (.ref o1), .unset, .unset, .unset] [(.int (25 : Int32)), (.int (p2 &&& (2147483647 : Int32))), (.ref o1)])
  refine own_st (fun τ κ => XS.irem X26.here hx rfl (hb hby at_175) rfl (by decide) κ) ?_
  show own_Go p e below _ T26 (mkF m 176 #[.val (.int p1), .val (.int p2), .val (.int p3), .val (.ref o1), .unset, .unset, .unset] [(.int ((p2 &&& (2147483647 : Int32)) - ((p2 &&& (2147483647 : Int32)) / (25 : Int32)) * (25 : Int32))), (.ref o1)])
  obtain ⟨gg, A_gg⟩ : ∃ gg : Nat → Int32, own_IA Z h26 o1 25 gg := ⟨_, A_o1⟩
  refine own_ldI X26 hx hZ e26 A_gg (own_rem 25 (own_mask p2) (by decide) (by decide)) (x := gg ((p2 &&& (2147483647 : Int32)) - ((p2 &&& (2147483647 : Int32)) / (25 : Int32)) * (25 : Int32)).toNatClampNeg) rfl (hb hby at_176) ?_
  generalize gg ((p2 &&& (2147483647 : Int32)) - ((p2 &&& (2147483647 : Int32)) / (25 : Int32)) * (25 : Int32)).toNatClampNeg = pr
  show own_Go p e below _ T26 (mkF m 177 #[.val (.int p1), .val (.int p2), .val (.int p3), .val (.ref o1), .unset, .unset, .unset] [(.int pr)])
  refine own_st (fun τ κ => XS.iloadN X26.here hx rfl (hb hby at_177) rfl κ) ?_
  show own_Go p e below _ T26 (mkF m 178 #[.val (.int p1), .val (.int p2), .val (.int p3), .val (.ref o1), .unset, .unset, .unset] [(.int p3), (.int pr)])
  refine own_st (fun τ κ => XT.iconstV X26.here hx rfl (3) (hb hby at_178) (by decide) κ) ?_
  show own_Go p e below _ T26 (mkF m 179 #[.val (.int p1), .val (.int p2), .val (.int p3), .val (.ref o1), .unset, .unset, .unset] [(.int (3 : Int32)), (.int p3), (.int pr)])
  refine own_st (fun τ κ => XS.iand X26.here hx rfl (hb hby at_179) rfl κ) ?_
  show own_Go p e below _ T26 (mkF m 180 #[.val (.int p1), .val (.int p2), .val (.int p3), .val (.ref o1), .unset, .unset, .unset] [(.int (p3 &&& (3 : Int32))), (.int pr)])
  refine own_st (fun τ κ => XT.iconstV X26.here hx rfl (1) (hb hby at_180) (by decide) κ) ?_
  show own_Go p e below _ T26 (mkF m 181 #[.val (.int p1), .val (.int p2), .val (.int p3), .val (.ref o1), .unset, .unset, .unset] [(.int (1 : Int32)), (.int (p3 &&& (3 : Int32))), (.int pr)])
  refine own_st (fun τ κ => XS.isub X26.here hx rfl (hb hby at_181) rfl κ) ?_
  show own_Go p e below _ T26 (mkF m 182 #[.val (.int p1), .val (.int p2), .val (.int p3), .val (.ref o1), .unset, .unset, .unset] [(.int ((p3 &&& (3 : Int32)) - (1 : Int32))), (.int pr)])
  refine own_st (fun τ κ => XS.iadd X26.here hx rfl (hb hby at_182) rfl κ) ?_
  show own_Go p e below _ T26 (mkF m 183 #[.val (.int p1), .val (.int p2), .val (.int p3), .val (.ref o1), .unset, .unset, .unset] [(.int (pr + ((p3 &&& (3 : Int32)) - (1 : Int32))))])
  refine own_st (fun τ κ => XS.istore X26.here hx rfl (hb hby at_183) rfl (l' := #[.val (.int p1), .val (.int p2), .val (.int p3), .val (.ref o1), .val (.int (pr + ((p3 &&& (3 : Int32)) - (1 : Int32)))), .unset, .unset]) rfl κ) ?_
  show own_Go p e below _ T26 (mkF m 185 #[.val (.int p1), .val (.int p2), .val (.int p3), .val (.ref o1), .val (.int (pr + ((p3 &&& (3 : Int32)) - (1 : Int32)))), .unset, .unset] [])
  refine own_st (fun τ κ => XS.iloadN X26.here hx rfl (hb hby at_185) rfl κ) ?_
  show own_Go p e below _ T26 (mkF m 186 #[.val (.int p1), .val (.int p2), .val (.int p3), .val (.ref o1), .val (.int (pr + ((p3 &&& (3 : Int32)) - (1 : Int32)))), .unset, .unset] [(.int p1)])
  refine own_callS X26 hx hZ e26 hown (hw _ (List.mem_of_getElem? (i := 2) rfl)) (hw _ (List.mem_of_getElem? (i := 3) rfl)) (hw _ (List.mem_of_getElem? (i := 4) rfl)) (hw _ (List.mem_of_getElem? (i := 5) rfl)) (by decide) pd_1 (argsL := [(.int p1)]) rfl (rm1 l Z a0 hw p1 h26 n0) 0 (by decide) (by decide) (by decide) (by decide) (rest := []) rfl (by rw [hml]; rfl) (Nat.le_of_eq rfl) (hb hby at_186) ?_
  intro v27 T27 L27 hQ27 X27
  obtain ⟨rfl, Nq27, e27⟩ := hQ27
  have N27 := Fr.app N26 Nq27
  show own_Go p e below _ T27 (mkF m 189 #[.val (.int p1), .val (.int p2), .val (.int p3), .val (.ref o1), .val (.int (pr + ((p3 &&& (3 : Int32)) - (1 : Int32)))), .unset, .unset] [(.int (own_ws p1))])
  refine own_st (fun τ κ => XS.iloadN X27.here hx rfl (hb hby at_189) rfl κ) ?_
  show own_Go p e below _ T27 (mkF m 190 #[.val (.int p1), .val (.int p2), .val (.int p3), .val (.ref o1), .val (.int (pr + ((p3 &&& (3 : Int32)) - (1 : Int32)))), .unset, .unset] [(.int p1), (.int (own_ws p1))])
  refine own_callS X27 hx hZ e27 hown (hw _ (List.mem_of_getElem? (i := 6) rfl)) (hw _ (List.mem_of_getElem? (i := 7) rfl)) (hw _ (List.mem_of_getElem? (i := 8) rfl)) (hw _ (List.mem_of_getElem? (i := 9) rfl)) (by decide) pd_2 (argsL := [(.int p1)]) rfl (rm2 l Z a0 hw p1 h26 n0) 1 (by decide) (by decide) (by decide) (by decide) (rest := [(.int (own_ws p1))]) rfl (by rw [hml]; rfl) (Nat.le_of_eq rfl) (hb hby at_190) ?_
  intro v28 T28 L28 hQ28 X28
  obtain ⟨rfl, Nq28, e28⟩ := hQ28
  have N28 := Fr.app N27 Nq28
  show own_Go p e below _ T28 (mkF m 193 #[.val (.int p1), .val (.int p2), .val (.int p3), .val (.ref o1), .val (.int (pr + ((p3 &&& (3 : Int32)) - (1 : Int32)))), .unset, .unset] [(.int (own_ws p1)), (.int (own_ws p1))])
  refine own_st (fun τ κ => XS.icmpNo X28.here hx rfl (hb hby at_193) rfl (XT.ii_ne_f rfl) κ) ?_
  show own_Go p e below _ T28 (mkF m 196 #[.val (.int p1), .val (.int p2), .val (.int p3), .val (.ref o1), .val (.int (pr + ((p3 &&& (3 : Int32)) - (1 : Int32)))), .unset, .unset] [])
  refine own_st (fun τ κ => XT.iconstV X28.here hx rfl (1) (hb hby at_196) (by decide) κ) ?_
  show own_Go p e below _ T28 (mkF m 197 #[.val (.int p1), .val (.int p2), .val (.int p3), .val (.ref o1), .val (.int (pr + ((p3 &&& (3 : Int32)) - (1 : Int32)))), .unset, .unset] [(.int (1 : Int32))])
  refine own_st (fun τ κ => XS.goto X28.here hx rfl (pc0 := 197) (pc' := 201) rfl (hb hby at_197) (by decide) (by decide) κ) ?_
  show own_Go p e below _ T28 (mkF m 201 #[.val (.int p1), .val (.int p2), .val (.int p3), .val (.ref o1), .val (.int (pr + ((p3 &&& (3 : Int32)) - (1 : Int32)))), .unset, .unset] [(.int (1 : Int32))])
  refine own_st (fun τ κ => XS.istore X28.here hx rfl (hb hby at_201) rfl (l' := #[.val (.int p1), .val (.int p2), .val (.int p3), .val (.ref o1), .val (.int (pr + ((p3 &&& (3 : Int32)) - (1 : Int32)))), .val (.int (1 : Int32)), .unset]) rfl κ) ?_
  show own_Go p e below _ T28 (mkF m 203 #[.val (.int p1), .val (.int p2), .val (.int p3), .val (.ref o1), .val (.int (pr + ((p3 &&& (3 : Int32)) - (1 : Int32)))), .val (.int (1 : Int32)), .unset] [])
  refine own_st (fun τ κ => XS.iload X28.here hx rfl (hb hby at_203) rfl κ) ?_
  show own_Go p e below _ T28 (mkF m 205 #[.val (.int p1), .val (.int p2), .val (.int p3), .val (.ref o1), .val (.int (pr + ((p3 &&& (3 : Int32)) - (1 : Int32)))), .val (.int (1 : Int32)), .unset] [(.int (pr + ((p3 &&& (3 : Int32)) - (1 : Int32))))])
  refine own_callS X28 hx hZ e28 hown (hw _ (List.mem_of_getElem? (i := 2) rfl)) (hw _ (List.mem_of_getElem? (i := 3) rfl)) (hw _ (List.mem_of_getElem? (i := 4) rfl)) (hw _ (List.mem_of_getElem? (i := 5) rfl)) (by decide) pd_1 (argsL := [(.int (pr + ((p3 &&& (3 : Int32)) - (1 : Int32))))]) rfl (rm1 l Z a0 hw (pr + ((p3 &&& (3 : Int32)) - (1 : Int32))) h26 n0) 0 (by decide) (by decide) (by decide) (by decide) (rest := []) rfl (by rw [hml]; rfl) (Nat.le_of_eq rfl) (hb hby at_205) ?_
  intro v29 T29 L29 hQ29 X29
  obtain ⟨rfl, Nq29, e29⟩ := hQ29
  have N29 := Fr.app N28 Nq29
  show own_Go p e below _ T29 (mkF m 208 #[.val (.int p1), .val (.int p2), .val (.int p3), .val (.ref o1), .val (.int (pr + ((p3 &&& (3 : Int32)) - (1 : Int32)))), .val (.int (1 : Int32)), .unset] [(.int (own_ws (pr + ((p3 &&& (3 : Int32)) - (1 : Int32)))))])
  refine own_st (fun τ κ => XS.iload X29.here hx rfl (hb hby at_208) rfl κ) ?_
  show own_Go p e below _ T29 (mkF m 210 #[.val (.int p1), .val (.int p2), .val (.int p3), .val (.ref o1), .val (.int (pr + ((p3 &&& (3 : Int32)) - (1 : Int32)))), .val (.int (1 : Int32)), .unset] [(.int (pr + ((p3 &&& (3 : Int32)) - (1 : Int32)))), (.int (own_ws (pr + ((p3 &&& (3 : Int32)) - (1 : Int32)))))])
  refine own_callS X29 hx hZ e29 hown (hw _ (List.mem_of_getElem? (i := 6) rfl)) (hw _ (List.mem_of_getElem? (i := 7) rfl)) (hw _ (List.mem_of_getElem? (i := 8) rfl)) (hw _ (List.mem_of_getElem? (i := 9) rfl)) (by decide) pd_2 (argsL := [(.int (pr + ((p3 &&& (3 : Int32)) - (1 : Int32))))]) rfl (rm2 l Z a0 hw (pr + ((p3 &&& (3 : Int32)) - (1 : Int32))) h26 n0) 1 (by decide) (by decide) (by decide) (by decide) (rest := [(.int (own_ws (pr + ((p3 &&& (3 : Int32)) - (1 : Int32)))))]) rfl (by rw [hml]; rfl) (Nat.le_of_eq rfl) (hb hby at_210) ?_
  intro v30 T30 L30 hQ30 X30
  obtain ⟨rfl, Nq30, e30⟩ := hQ30
  have N30 := Fr.app N29 Nq30
  show own_Go p e below _ T30 (mkF m 213 #[.val (.int p1), .val (.int p2), .val (.int p3), .val (.ref o1), .val (.int (pr + ((p3 &&& (3 : Int32)) - (1 : Int32)))), .val (.int (1 : Int32)), .unset] [(.int (own_ws (pr + ((p3 &&& (3 : Int32)) - (1 : Int32))))), (.int (own_ws (pr + ((p3 &&& (3 : Int32)) - (1 : Int32)))))])
  refine own_st (fun τ κ => XS.icmpNo X30.here hx rfl (hb hby at_213) rfl (XT.ii_ne_f rfl) κ) ?_
  show own_Go p e below _ T30 (mkF m 216 #[.val (.int p1), .val (.int p2), .val (.int p3), .val (.ref o1), .val (.int (pr + ((p3 &&& (3 : Int32)) - (1 : Int32)))), .val (.int (1 : Int32)), .unset] [])
  refine own_st (fun τ κ => XT.iconstV X30.here hx rfl (1) (hb hby at_216) (by decide) κ) ?_
  show own_Go p e below _ T30 (mkF m 217 #[.val (.int p1), .val (.int p2), .val (.int p3), .val (.ref o1), .val (.int (pr + ((p3 &&& (3 : Int32)) - (1 : Int32)))), .val (.int (1 : Int32)), .unset] [(.int (1 : Int32))])
  refine own_st (fun τ κ => XS.goto X30.here hx rfl (pc0 := 217) (pc' := 221) rfl (hb hby at_217) (by decide) (by decide) κ) ?_
  show own_Go p e below _ T30 (mkF m 221 #[.val (.int p1), .val (.int p2), .val (.int p3), .val (.ref o1), .val (.int (pr + ((p3 &&& (3 : Int32)) - (1 : Int32)))), .val (.int (1 : Int32)), .unset] [(.int (1 : Int32))])
  refine own_st (fun τ κ => XS.istore X30.here hx rfl (hb hby at_221) rfl (l' := #[.val (.int p1), .val (.int p2), .val (.int p3), .val (.ref o1), .val (.int (pr + ((p3 &&& (3 : Int32)) - (1 : Int32)))), .val (.int (1 : Int32)), .val (.int (1 : Int32))]) rfl κ) ?_
  show own_Go p e below _ T30 (mkF m 223 #[.val (.int p1), .val (.int p2), .val (.int p3), .val (.ref o1), .val (.int (pr + ((p3 &&& (3 : Int32)) - (1 : Int32)))), .val (.int (1 : Int32)), .val (.int (1 : Int32))] [])
  refine own_st (fun τ κ => XS.iload X30.here hx rfl (hb hby at_223) rfl κ) ?_
  show own_Go p e below _ T30 (mkF m 225 #[.val (.int p1), .val (.int p2), .val (.int p3), .val (.ref o1), .val (.int (pr + ((p3 &&& (3 : Int32)) - (1 : Int32)))), .val (.int (1 : Int32)), .val (.int (1 : Int32))] [(.int (1 : Int32))])
  refine own_st (fun τ κ => XS.ifNo X30.here hx rfl (hb hby at_225) rfl (XT.i0_eq_f (by decide)) κ) ?_
  show own_Go p e below _ T30 (mkF m 228 #[.val (.int p1), .val (.int p2), .val (.int p3), .val (.ref o1), .val (.int (pr + ((p3 &&& (3 : Int32)) - (1 : Int32)))), .val (.int (1 : Int32)), .val (.int (1 : Int32))] [])
  refine own_st (fun τ κ => XS.iload X30.here hx rfl (hb hby at_228) rfl κ) ?_
  show own_Go p e below _ T30 (mkF m 230 #[.val (.int p1), .val (.int p2), .val (.int p3), .val (.ref o1), .val (.int (pr + ((p3 &&& (3 : Int32)) - (1 : Int32)))), .val (.int (1 : Int32)), .val (.int (1 : Int32))] [(.int (1 : Int32))])
  refine own_st (fun τ κ => XS.ifNo X30.here hx rfl (hb hby at_230) rfl (XT.i0_eq_f (by decide)) κ) ?_
  show own_Go p e below _ T30 (mkF m 233 #[.val (.int p1), .val (.int p2), .val (.int p3), .val (.ref o1), .val (.int (pr + ((p3 &&& (3 : Int32)) - (1 : Int32)))), .val (.int (1 : Int32)), .val (.int (1 : Int32))] [])
  refine own_st (fun τ κ => XT.iconstV X30.here hx rfl (1) (hb hby at_233) (by decide) κ) ?_
  show own_Go p e below _ T30 (mkF m 234 #[.val (.int p1), .val (.int p2), .val (.int p3), .val (.ref o1), .val (.int (pr + ((p3 &&& (3 : Int32)) - (1 : Int32)))), .val (.int (1 : Int32)), .val (.int (1 : Int32))] [(.int (1 : Int32))])
  refine own_st (fun τ κ => XS.goto X30.here hx rfl (pc0 := 234) (pc' := 238) rfl (hb hby at_234) (by decide) (by decide) κ) ?_
  show own_Go p e below _ T30 (mkF m 238 #[.val (.int p1), .val (.int p2), .val (.int p3), .val (.ref o1), .val (.int (pr + ((p3 &&& (3 : Int32)) - (1 : Int32)))), .val (.int (1 : Int32)), .val (.int (1 : Int32))] [(.int (1 : Int32))])
  refine own_retZ X30 hx hlk hret (by decide) (by decide) (by decide) (hb hby at_238) ?_
  exact ⟨rfl, N30⟩

set_option maxRecDepth 65536 in
set_option maxHeartbeats 40000000 in
theorem comes_1 {Post : Tables → Env → Array Value → State → Outcome → State → Prop} (hpost : ∀ tb e args s v u, (limb_1_1.after args s (.returned v) u = true ∧ limb_1_2.after args s (.returned v) u = true ∧ True) → FrameEnd s (.returned v) u (Jvm.fieldLocs frame_1_writes args s ++ Jvm.arrayLocs frame_1_arrays args s ++ Jvm.staticLocs frame_1_statics s) 16 128 → Post tb e args s (.returned v) u) :
    ArmFor flags0 classFile x code maxLocals ret World_1 tables_1 room_1 Calls_1 rest_1 Pre_1 Post := by
  intro l hfl _ _ p e ha hc hk s m args below hf hA hF happ hP
  obtain ⟨hcalls, hrest, hpre⟩ := hP
  obtain ⟨-, -, -, hnamed, -, -, -, hat⟩ := (Spec.applies_iff hf).mp happ
  obtain ⟨hg, hn⟩ := and_e (Cond.before_iff.mp (show (Jvm.Cond.and given_1 narrow_1).before args s = true from hpre))
  obtain ⟨gc, g0⟩ := and_e hg
  obtain ⟨a0, g1⟩ := and_e g0
  obtain ⟨a1, g2⟩ := and_e g1
  obtain ⟨w0, w1, w2, rfl⟩ : ∃ w0 w1 w2 : Value, args = #[w0, w1, w2] := by
    have hs : args.size = 3 := by simpa [Cond.value, given_1] using gc
    obtain ⟨L⟩ := args
    match L, hs with
    | [w0, w1, w2], _ => exact ⟨w0, w1, w2, rfl⟩
  have hw := fun d (hd : d ∈ tables_1) => atoms_spec (ws := Jvm.Cond.code x code maxLocals ret :: tables_1) hat d (List.mem_cons_of_mem _ hd)
  obtain ⟨i0, ei0⟩ := is_v a0
  obtain rfl : w0 = (.int i0) := Option.some.inj ei0
  obtain ⟨i1, ei1⟩ := is_v a1
  obtain rfl : w1 = (.int i1) := Option.some.inj ei1
  obtain ⟨i2, ei2⟩ := is_v g2
  obtain rfl : w2 = (.int i2) := Option.some.inj ei2
  obtain ⟨n, o, h1, h2, h3, _, L, rfl, ⟨rfl, N⟩, hq⟩ := rm0 l s _ hw i0 i1 i2 s.heap s.heap.size (Nat.le_refl _) tables_1 p e ha hc hk s m _ below hf ((Spec.applies_iff_loose hf).mp happ).1 ⟨rfl, State.Warmed39.refl s, rfl⟩ trivial
  refine ⟨n, _, h1, h2, h3, hpost _ _ _ _ _ _ ⟨Cond.after_iff.mpr rfl, Cond.after_iff.mpr (eq_i res_at (Term.int_eval (1)) rfl), trivial⟩ ⟨hq.1, hq.2.1, (hq.2.2.sift fun y hy => Or.inr (N y hy)).mono (by decide) (by decide)⟩⟩
theorem main_1_1 : Claimed_1_1 := comes_1 fun _ _ _ _ _ _ h hF => ⟨h.1, hF⟩
theorem main_1_2 : Claimed_1_2 := comes_1 fun _ _ _ _ _ _ h hF => ⟨h.2.1, hF⟩

end Jvm.Pilot.@@N@@
namespace Jvm.Pilot.@@N@@
open Jvm Jvm.ClassFile Sem Op Lib Jvm.Free Jvm.Stand Jvm.Pilot.@@N@@.Jvm.D
/-! MADE BY PROGRAM (witnessworld.py) out of the Statement's table words and the real class files: 9 classes; the members and pool entries that the words name. The judged class is class 1, her method 1. -/
namespace start1
open Jvm.ClassFile
def u (s : String) : CpInfo := .utf8 (stringToUtf16 s)
/-- a pool by its gaps: so many unusable entries, then the entry; so many at the end -/
def gap : Nat → List CpInfo → List CpInfo
  | 0, r => r
  | n + 1, r => .unusable :: gap n r
def poolList (es : List (Nat × CpInfo)) (last : Nat) : List CpInfo := es.foldr (fun e r => gap e.1 (e.2 :: r)) (gap last [])
def pool (es : List (Nat × CpInfo)) (last : Nat) : Array CpInfo := ⟨poolList es last⟩
def fileOf (pool : Array CpInfo) (this : Nat) (attrs : Array Attribute := #[]) (ms : Array MethodInfo := #[]) (fl : Nat := 33) (sup : Nat := 0) (ifs : Array Nat := #[]) (fds : Array FieldInfo := #[]) : ClassFile where
  minorVersion := 0
  majorVersion := 65
  constantPool := pool
  accessFlags := fl
  thisClass := this
  superClass := sup
  interfaces := ifs
  fields := fds
  methods := ms
  attributes := attrs
def plain (name : String) (sup : Option ClassId) : Class where
  name := name
  kind := .ordinary
  loader := none
  accessFlags := 33
  super := sup
  interfaces := #[]
  cf := none
  fields := #[]
  methods := #[]
  instanceTypes := #[]
  staticTypes := #[]
  resolved := #[]
  callSites := []
  init := .initialized
  statics := none
  mirror := none

def pool0 : Array CpInfo := pool [(5, u "<init>"), (0, u "()V"), (1, .class_ 10), (1, u "java/lang/Object")] 113

def k0m0 : Method := { name := "<init>", desc := "()V", sig := { parameters := [], returnType := none }, accessFlags := 1, code := none }
/-- java/lang/Object -/
def k0 : Class := { plain "java/lang/Object" none with
  accessFlags := 33
  interfaces := #[]
  cf := some (fileOf pool0 8 #[] #[{ accessFlags := 1, nameIndex := 5, descriptorIndex := 6, attributes := #[] }] 33 0 #[] #[])
  fields := #[]
  methods := #[k0m0]
  instanceTypes := #[]
  staticTypes := #[]
  resolved := Array.replicate 124 none
  statics := none }

def pool1 : Array CpInfo := pool [(2, .class_ 4), (1, u "java/lang/Object"), (0, u "<init>"), (0, u "()V"), (0, .integer 2147483647), (0, .methodref 9 10), (0, .class_ 11), (0, .nameAndType 12 13), (0, u site_186.cls), (0, u "isWhiteSpace"), (0, u "(I)Z"), (0, .methodref 15 16), (0, .class_ 17), (0, .nameAndType 18 13), (0, u x.cls), (0, u "ref"), (2, u "law"), (0, u "(III)Z")] 5

def k1m0 : Method := { name := "<init>", desc := "()V", sig := { parameters := [], returnType := none }, accessFlags := 2, code := none }
def k1c1 : Code := { maxStack := 4, maxLocals := 7, code := code, exceptionTable := #[], attributes := #[] }
def k1m1 : Method := { name := "law", desc := "(III)Z", sig := { parameters := [.int, .int, .int], returnType := some .boolean }, accessFlags := 9, code := some k1c1 }
def k1c2 : Code := { maxStack := 1, maxLocals := 1, code := method_3_code, exceptionTable := #[], attributes := #[] }
def k1m2 : Method := { name := "ref", desc := "(I)Z", sig := { parameters := [.int], returnType := some .boolean }, accessFlags := 10, code := some k1c2 }
def k1 : Class := { plain x.cls (some 0) with
  accessFlags := 49
  interfaces := #[]
  cf := some (fileOf pool1 15 #[] #[{ accessFlags := 2, nameIndex := 5, descriptorIndex := 6, attributes := #[] }, { accessFlags := 9, nameIndex := 21, descriptorIndex := 22, attributes := #[] }, { accessFlags := 10, nameIndex := 18, descriptorIndex := 13, attributes := #[] }] 49 2 #[] #[])
  fields := #[]
  methods := #[k1m0, k1m1, k1m2]
  instanceTypes := #[]
  staticTypes := #[]
  resolved := Array.replicate 28 none
  statics := none }

def pool2 : Array CpInfo := pool [(2, .class_ 4), (1, u "java/lang/Object"), (0, u "<init>"), (0, u "()V"), (20, .class_ 29), (1, u site_186.cls), (0, u "isWhiteSpace"), (0, u "(I)Z"), (5, .class_ 39), (1, u (site_186.cls ++ "$Parts")), (27, u "PIECE"), (0, u "I")] 15

def k2m0 : Method := { name := "<init>", desc := "()V", sig := { parameters := [], returnType := none }, accessFlags := 2, code := none }
def k2c1 : Code := { maxStack := 2, maxLocals := 1, code := prog_35_method_2_code, exceptionTable := #[], attributes := #[] }
def k2m1 : Method := { name := "isWhiteSpace", desc := "(I)Z", sig := { parameters := [.int], returnType := some .boolean }, accessFlags := 8, code := some k2c1 }
def k2 : Class := { plain site_186.cls (some 0) with
  accessFlags := 48
  interfaces := #[]
  cf := some (fileOf pool2 27 #[.nestMembers #[37]] #[{ accessFlags := 2, nameIndex := 5, descriptorIndex := 6, attributes := #[] }, { accessFlags := 8, nameIndex := 30, descriptorIndex := 31, attributes := #[] }] 48 2 #[] #[{ accessFlags := 26, nameIndex := 67, descriptorIndex := 68, attributes := #[] }])
  fields := #[{ name := "PIECE", type := .int, accessFlags := 26, slot := 0, constantValue := 0 }]
  methods := #[k2m0, k2m1]
  instanceTypes := #[]
  staticTypes := #[.int]
  resolved := Array.replicate 84 none
  statics := none }

def pool3 : Array CpInfo := pool [(1, u "java/lang/Cloneable"), (0, .class_ 1), (0, u "java/lang/Object"), (0, .class_ 3)] 3

/-- java/lang/Cloneable -/
def k3 : Class := { plain "java/lang/Cloneable" (some 0) with
  accessFlags := 1537
  interfaces := #[]
  cf := some (fileOf pool3 2 #[] #[] 1537 4 #[] #[])
  fields := #[]
  methods := #[]
  instanceTypes := #[]
  staticTypes := #[]
  resolved := Array.replicate 8 none
  statics := none }

def pool4 : Array CpInfo := pool [(1, u "java/io/Serializable"), (0, .class_ 1), (0, u "java/lang/Object"), (0, .class_ 3)] 3

/-- java/io/Serializable -/
def k4 : Class := { plain "java/io/Serializable" (some 0) with
  accessFlags := 1537
  interfaces := #[]
  cf := some (fileOf pool4 2 #[] #[] 1537 4 #[] #[])
  fields := #[]
  methods := #[]
  instanceTypes := #[]
  staticTypes := #[]
  resolved := Array.replicate 8 none
  statics := none }

/-- the primitive byte -/
def k5 : Class := { plain "byte" none with kind := .primitive 'B', accessFlags := 0x411 }
/-- [B -/
def k6 : Class := { plain "[B" (some 0) with kind := .array 5 .byte, interfaces := #[3, 4], accessFlags := 1041 }

/-- the primitive int -/
def k7 : Class := { plain "int" none with kind := .primitive 'I', accessFlags := 0x411 }
/-- [I -/
def k8 : Class := { plain "[I" (some 0) with kind := .array 7 .int, interfaces := #[3, 4], accessFlags := 1041 }

def heap : Heap := #[]
def classes : Array Class := #[k0, k1, k2, k3, k4, k5, k6, k7, k8]
def interned : List (Array UInt16 × Addr) := []
def slotsUsed : Nat := 0
def theMethod : MethodId := ⟨1, 1⟩
def args0 : Array Value := #[.int 5, .int 5, .int 5]
def aboutOver (below : List Frame) : State where
  vm := { classes := classes, interned := interned.toArray }
  heap := heap
  slotsUsed := slotsUsed
  threads := #[{ frames := .invoking theMethod args0 :: below }]
def below0 : List Frame := [.native { method := ⟨0, 0⟩, args := #[] }]
def about1 : State := aboutOver below0
def p0 : Program := .bare "" "" ""
def e0 : Env := launch0.env 0 0 0
theorem w_frames : about1.frames = Frame.invoking theMethod args0 :: below0 := rfl
set_option maxRecDepth 65536 in
theorem w_args : argsFit about1.vm theMethod args0 = true := by decide +kernel
set_option maxRecDepth 65536 in
theorem w_heap : heapFits about1 = true := by decide +kernel
set_option maxRecDepth 65536 in
theorem w_runnable : about1.curStatus? = some .runnable := by decide +kernel
set_option maxRecDepth 65536 in
theorem w_alone : about1.alone = true := by decide +kernel
set_option maxRecDepth 65536 in
theorem w_named : about1.methodNamed? x = some theMethod := by decide +kernel
set_option maxRecDepth 65536 in
theorem w_hears : about1.hears theMethod below0 = true := by decide +kernel
set_option maxRecDepth 65536 in
theorem w_ripe : about1.ripe theMethod args0 below0 = true := by decide +kernel
theorem w_running : about1.status = .running := rfl
set_option maxRecDepth 65536 in
theorem w_room : about1.hasRoom e0.platform room_1 = true :=
  launch0.hasRoom_least _ room_1 (by decide +kernel) (by decide +kernel) (by decide +kernel) (by decide +kernel) (by decide +kernel) (by decide +kernel)
theorem allAtoms_all (ts : List Jvm.Cond) (a : Array Jvm.Value) (st : Jvm.State) : (allAtoms ts).before a st = ts.all (fun c => c.before a st) := by
  induction ts with
  | nil => rfl
  | cons c t ih =>
    show (Jvm.Cond.and c (allAtoms t)).before a st = _
    rw [Jvm.Cond.before_and, ih, List.all_cons]
def words1 : List Jvm.Cond := Jvm.Cond.code x code maxLocals ret :: tables_1
/-- a 'code' word, met by the world's own term for the bytes: nothing is compared byte by byte -/
theorem code_word {y : MethodName} {bytes : ByteArray} {mx : Nat} {rt : Option FieldType} {a : Array Value} {s : State} {m : MethodId} {meth : Method} {c : Code} (h1 : s.methodNamed? y = some m) (h2 : s.vm.method? m = some meth) (h3 : meth.code = some c) (h4 : c.code = bytes)
    (h5 : (c.maxLocals == mx && c.exceptionTable.isEmpty && decide (c.maxStack ≤ mostOperands) && decide (meth.sig.returnType = rt) && !meth.locks && decide (parseMethodDescriptor y.desc = some meth.sig)) = true) : (Jvm.Cond.code y bytes mx rt).before a s = true := by
  simp only [Bool.and_eq_true, beq_iff_eq, Bool.not_eq_true', decide_eq_true_eq] at h5
  obtain ⟨⟨⟨⟨⟨g1, g2⟩, g3⟩, g4⟩, g5⟩, g6⟩ := h5
  simp [Cond.before, Cond.holds, Cond.value, h1, h2, h3, h4, g1, g2, g3, g4, g5, g6]
def isCode : Jvm.Cond → Bool
  | .code _ _ _ _ => true
  | _ => false
theorem all_split {L : List Jvm.Cond} {P : Jvm.Cond → Bool} (h1 : L.all (fun c => isCode c || P c) = true) (h2 : ∀ c ∈ L.filter isCode, P c = true) : L.all P = true := by
  refine List.all_eq_true.mpr fun c hc => ?_
  have h := List.all_eq_true.mp h1 c hc
  rcases Bool.eq_false_or_eq_true (isCode c) with hi | hi
  · exact h2 c (List.mem_filter.mpr ⟨hc, hi⟩)
  · simpa [hi] using h
set_option maxRecDepth 65536 in
theorem w_c0 : (Jvm.Cond.code x code maxLocals ret).before args0 about1 = true := code_word (m := ⟨1, 1⟩) (meth := k1m1) (c := k1c1) (by decide +kernel) rfl rfl rfl (by decide +kernel)
set_option maxRecDepth 65536 in
theorem w_c1 : (Jvm.Cond.code ({ cls := site_186.cls, name := "isWhiteSpace", desc := "(I)Z" } : Jvm.MethodName) prog_35_method_2_code (1 : Nat) (Option.some Jvm.ClassFile.FieldType.boolean)).before args0 about1 = true := code_word (m := ⟨2, 1⟩) (meth := k2m1) (c := k2c1) (by decide +kernel) rfl rfl rfl (by decide +kernel)
set_option maxRecDepth 65536 in
theorem w_c2 : (Jvm.Cond.code ({ cls := x.cls, name := "ref", desc := "(I)Z" } : Jvm.MethodName) method_3_code (1 : Nat) (Option.some Jvm.ClassFile.FieldType.boolean)).before args0 about1 = true := code_word (m := ⟨1, 2⟩) (meth := k1m2) (c := k1c2) (by decide +kernel) rfl rfl rfl (by decide +kernel)
def codes1 : List Jvm.Cond := [Jvm.Cond.code x code maxLocals ret, Jvm.Cond.code ({ cls := site_186.cls, name := "isWhiteSpace", desc := "(I)Z" } : Jvm.MethodName) prog_35_method_2_code (1 : Nat) (Option.some Jvm.ClassFile.FieldType.boolean), Jvm.Cond.code ({ cls := x.cls, name := "ref", desc := "(I)Z" } : Jvm.MethodName) method_3_code (1 : Nat) (Option.some Jvm.ClassFile.FieldType.boolean)]
set_option maxRecDepth 65536 in
theorem codes_eq : words1.filter isCode = codes1 := rfl
theorem w_codes : ∀ c ∈ words1.filter isCode, c.before args0 about1 = true := by
  rw [codes_eq]
  intro c hc
  simp only [codes1, List.mem_cons, List.not_mem_nil, or_false] at hc
  rcases hc with rfl | rfl | rfl
  · exact w_c0
  · exact w_c1
  · exact w_c2
set_option maxRecDepth 65536 in
theorem w_t1 : words1.all (fun c => isCode c || c.before args0 about1) = true := by decide +kernel
theorem w_tables : (allAtoms (Jvm.Cond.code x code maxLocals ret :: tables_1)).before args0 about1 = true := by
  rw [allAtoms_all]
  show words1.all (fun c => c.before args0 about1) = true
  refine all_split ?_ w_codes
  rw [w_t1]
set_option maxRecDepth 65536 in
theorem w_case : (Jvm.Cond.and given_1 narrow_1).before args0 about1 = true := by decide +kernel
theorem w_applies : (headSpec (Jvm.Cond.code x code maxLocals ret :: tables_1) room_1).applies x e0.platform about1 = true :=
  (Spec.applies_iff w_frames).mpr ⟨w_running, w_runnable, w_alone, w_named, w_hears, w_ripe, w_room, w_tables⟩
theorem atStart : AtStart classFile x code maxLocals ret World_1 tables_1 room_1 Calls_1 rest_1 Pre_1 launch0 p0 e0 about1 theMethod args0 below0 :=
  ⟨lists_1, trivial, launch0.admits_env _ _ _, launch0.least_env, fairChoices_fair.cas, fairChoices_fair.clock, w_frames, w_args, w_heap, w_applies, trivial, trivial, w_case⟩
end start1
theorem witness_1 : WitnessClaimed_1 := ⟨start1.p0, start1.e0, start1.about1, start1.theMethod, start1.args0, start1.below0, start1.atStart⟩
end Jvm.Pilot.@@N@@
