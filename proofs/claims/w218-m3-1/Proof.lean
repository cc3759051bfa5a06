import JvmDerived
import JvmDerived.Pilot.@@N@@Statement
import JvmDerived.Pilot.@@N@@Code
set_option linter.unusedVariables false
set_option linter.unusedSimpArgs false
@@BLOCK:TracedD.lean.txt@@
namespace Jvm.Pilot.@@N@@
open Jvm Jvm.ClassFile Sem Op Lib Jvm.Free Jvm.Stand Jvm.LawKit Jvm.RoadKit Bundle Jvm.Pilot.@@N@@.Jvm.D
section Own
variable {p : Program} {l : Launch} {e : Env} {R : Room} {s : State} {m : MethodId} {args : Array Value} {below : List Frame} {meth : Method} {c : Code} {T T' : State} {cells slots n0 kk nn : Nat} {Z : State} {a0 : Array Value} {h h' : Heap} {Q : Option Value → Heap → Prop} {FE : Outcome → State → List Loc → Prop} {g g' : JFrame} {y : MethodName} {bytes : ByteArray} {maxL : Nat} {ret : Option FieldType}
/-- where a walk stands: its fixed facts, and the library's Stand with its written places hidden (all of them new) -/
def OAt (n0 : Nat) (Z : State) (y : MethodName) (bytes : ByteArray) (maxL : Nat) (ret : Option FieldType) (p : Program) (l : Launch) (e : Env) (R : Room) (s : State) (m : MethodId) (args : Array Value) (below : List Frame) (meth : Method) (c : Code) (T : State) (h : Heap) (cells slots : Nat) : Prop :=
  (p.tables.exec = Jvm.exec ∧ Z.Warmed39 s.vm ∧ s.vm.findClass y.cls = some m.cls ∧ meth.name = y.name ∧ c.code = bytes ∧ c.maxLocals = maxL ∧ meth.sig.returnType = ret ∧ meth.locks = false) ∧
    ∃ locs, Stand p l e R s m args below meth c T locs cells slots ∧ Fr n0 locs ∧ T.heap = h
/-- the run from here ends, returns, Q holds of what it returns and of the heap, and E of the end -/
def OFin (n0 : Nat) (p : Program) (e : Env) (FE : Outcome → State → List Loc → Prop) (below : List Frame) (Q : Option Value → Heap → Prop) (T : State) (g : JFrame) : Prop :=
  ∃ s₂ o, Steps p.tables e below (T.setTop g) s₂ ∧ s₂.status = .running ∧ Ended s₂ below o ∧ ∃ v L, o = .returned v ∧ (Q v s₂.heap ∧ Fr n0 L) ∧ FE o s₂ L
abbrev OMeets (l : Launch) (Z : State) (y : MethodName) (ws : List Jvm.Cond) (bytes : ByteArray) (maxL : Nat) (ret : Option FieldType) (rm : Room) (as' : Array Value) (h0 : Heap) (n0 : Nat) (Q : Option Value → Heap → Prop) : Prop :=
  MetFree l y (head1 (Jvm.Cond.code y bytes maxL ret :: ws) rm) (fun a U => a = as' ∧ Z.Warmed39 U.vm ∧ U.heap = h0) (fun _ _ _ _ _ => True) (fun _ U o U' => ∃ v L, o = .returned v ∧ (Q v U'.heap ∧ Fr n0 L) ∧ FrameEnd U o U' L rm.cells rm.slots)
theorem o_enter {ws : List Jvm.Cond} {rm : Room} {as' : Array Value} {h0 : Heap} (pn : plainFor y = true)
    (body : ∀ (p : Program) (e : Env) (s : State) (m : MethodId) (below : List Frame) (meth : Method) (c : Code) (s₁ : State), OAt n0 Z y bytes maxL ret p l e rm s m as' below meth c s₁ h0 0 0 → OFin n0 p e (fun o t L => FrameEnd s o t L rm.cells rm.slots) below Q s₁ (entryFrame m as' maxL)) :
    OMeets l Z y ws bytes maxL ret rm as' h0 n0 Q := by
  refine MetFree.of_bodySF pn hisR ?_
  intro p e s m args below meth c s₁ Bd hml0 hP hK
  obtain ⟨rfl, hZ, hh⟩ := hP
  have e0 : s₁.heap = h0 := by rw [← hh, Bd.state]; rfl
  exact body p e s m below meth c s₁ ⟨⟨Bd.exec, hZ, findClass_of_methodNamed Bd.named, (name_of_methodNamed Bd.named Bd.method).1, Bd.bytes, hml0, Bd.returns, Bd.notSynchronized⟩, [], Stand.of_body Bd, Fr.nil n0, e0⟩
theorem OFin.cast (q : g = g') (k : OFin n0 p e FE below Q T g') : OFin n0 p e FE below Q T g := q ▸ k
theorem OFin.run (f : ∀ t, Steps p.tables e below (T'.setTop g') t → Steps p.tables e below (T.setTop g) t) (k : OFin n0 p e FE below Q T' g') : OFin n0 p e FE below Q T g := by
  obtain ⟨s₂, o, h1, h2⟩ := k; exact ⟨s₂, o, f _ h1, h2⟩
theorem OFin.imp {Q' : Option Value → Heap → Prop} (k : OFin n0 p e FE below Q' T g) (f : ∀ v h, Q' v h → Q v h) : OFin n0 p e FE below Q T g := by
  obtain ⟨s₂, o, h1, h2, h3, v, L, h4, h5, h6⟩ := k; exact ⟨s₂, o, h1, h2, h3, v, L, h4, ⟨f _ _ h5.1, h5.2⟩, h6⟩
/-- a step of the single-step laws -/
theorem OAt.step (X : OAt n0 Z y bytes maxL ret p l e R s m args below meth c T h cells slots) (f : At T m c below → p.tables.exec = Jvm.exec → c.code = bytes → ∀ t, Steps p.tables e below (T.setTop g') t → Steps p.tables e below (T.setTop g) t) (k : OFin n0 p e FE below Q T g') : OFin n0 p e FE below Q T g := by
  obtain ⟨⟨hx, -, -, -, hby, -⟩, locs, X, -⟩ := X
  exact OFin.run (f X.here hx hby) k
theorem OAt.retN (X : OAt n0 Z y bytes maxL (some t) p l e R s m args below meth c T h cells slots) (ht : t = .boolean ∨ t = .byte ∨ t = .char ∨ t = .short) {pc : Nat} {Ls : Array Slot} {z : Int32} {rest : List Value} (hd : decode bytes pc = .ok (.ireturn, 1)) (hE : ∀ (t : State) (v : Option Value) (L : List Loc), t.heap = h → t.vm = T.vm → FrameEnd s (.returned v) t L cells slots → FE (.returned v) t L) (hQ : Q (some (.int (nar t z))) h) : OFin n0 p e FE below Q T (mkF m pc Ls (.int z :: rest)) := by
  obtain ⟨⟨hx, -, -, -, hby, -, hret, hlk⟩, locs, X, N, eh⟩ := X
  obtain ⟨fs, hr, hrun, hended, hW, hsame⟩ := X.leave (v := some (.int (nar t z))) (fun h => by rw [hret] at h; cases h) hlk
  exact ⟨_, _, Jvm.RoadKit.retN X hx hret ht (hb hby hd) hr, hrun, hended, _, _, rfl, ⟨by show Q _ T.heap; rw [eh]; exact hQ, N⟩, hE _ _ _ eh rfl ⟨⟨_, rfl⟩, hW, hsame⟩⟩
theorem OAt.retI (X : OAt n0 Z y bytes maxL (some .int) p l e R s m args below meth c T h cells slots) {pc : Nat} {Ls : Array Slot} {z : Int32} {rest : List Value} (hd : decode bytes pc = .ok (.ireturn, 1)) (hE : ∀ (t : State) (v : Option Value) (L : List Loc), t.heap = h → t.vm = T.vm → FrameEnd s (.returned v) t L cells slots → FE (.returned v) t L) (hQ : Q (some (.int z)) h) : OFin n0 p e FE below Q T (mkF m pc Ls (.int z :: rest)) := by
  obtain ⟨⟨hx, -, -, -, hby, -, hret, hlk⟩, locs, X, N, eh⟩ := X
  obtain ⟨fs, hr, hrun, hended, hW, hsame⟩ := X.leave (v := some (.int z)) (fun h => by rw [hret] at h; cases h) hlk
  exact ⟨_, _, retOut X hx hret rfl (Or.inl ⟨rfl, Or.inl rfl, _, rfl⟩) (hb hby hd) hr, hrun, hended, _, _, rfl, ⟨by show Q _ T.heap; rw [eh]; exact hQ, N⟩, hE _ _ _ eh rfl ⟨⟨_, rfl⟩, hW, hsame⟩⟩
theorem OAt.retL (X : OAt n0 Z y bytes maxL (some .long) p l e R s m args below meth c T h cells slots) {pc : Nat} {Ls : Array Slot} {z : Int64} {rest : List Value} (hd : decode bytes pc = .ok (.lreturn, 1)) (hE : ∀ (t : State) (v : Option Value) (L : List Loc), t.heap = h → t.vm = T.vm → FrameEnd s (.returned v) t L cells slots → FE (.returned v) t L) (hQ : Q (some (.long z)) h) : OFin n0 p e FE below Q T (mkF m pc Ls (.long z :: rest)) := by
  obtain ⟨⟨hx, -, -, -, hby, -, hret, hlk⟩, locs, X, N, eh⟩ := X
  obtain ⟨fs, hr, hrun, hended, hW, hsame⟩ := X.leave (v := some (.long z)) (fun h => by rw [hret] at h; cases h) hlk
  exact ⟨_, _, retOut X hx hret rfl (Or.inr (Or.inl ⟨rfl, rfl, _, rfl⟩)) (hb hby hd) hr, hrun, hended, _, _, rfl, ⟨by show Q _ T.heap; rw [eh]; exact hQ, N⟩, hE _ _ _ eh rfl ⟨⟨_, rfl⟩, hW, hsame⟩⟩
theorem OAt.retR (X : OAt n0 Z y bytes maxL (some t) p l e R s m args below meth c T h cells slots) (ht : t.isReference = true) {pc : Nat} {Ls : Array Slot} {w : Value} {rest : List Value} (hw : w.isRef = true) (hd : decode bytes pc = .ok (.areturn, 1)) (hE : ∀ (t : State) (v : Option Value) (L : List Loc), t.heap = h → t.vm = T.vm → FrameEnd s (.returned v) t L cells slots → FE (.returned v) t L) (hQ : Q (some w) h) : OFin n0 p e FE below Q T (mkF m pc Ls (w :: rest)) := by
  obtain ⟨⟨hx, -, -, -, hby, -, hret, hlk⟩, locs, X, N, eh⟩ := X
  have hna : narrow t w = w := by rcases ref_cases hw with rfl | ⟨a, rfl⟩ <;> cases t <;> first | rfl | cases ht
  obtain ⟨fs, hr, hrun, hended, hW, hsame⟩ := X.leave (v := some w) (fun h => by rw [hret] at h; cases h) hlk
  exact ⟨_, _, retOut X hx hret hna (Or.inr (Or.inr (Or.inr (Or.inr ⟨rfl, ht, hw⟩)))) (hb hby hd) hr, hrun, hended, _, _, rfl, ⟨by show Q _ T.heap; rw [eh]; exact hQ, N⟩, hE _ _ _ eh rfl ⟨⟨_, rfl⟩, hW, hsame⟩⟩
theorem OAt.retV (X : OAt n0 Z y bytes maxL none p l e R s m args below meth c T h cells slots) {pc : Nat} {Ls : Array Slot} (hd : decode bytes pc = .ok (.return_, 1)) (hE : ∀ (t : State) (v : Option Value) (L : List Loc), t.heap = h → t.vm = T.vm → FrameEnd s (.returned v) t L cells slots → FE (.returned v) t L) (hQ : Q none h) : OFin n0 p e FE below Q T (mkF m pc Ls []) := by
  obtain ⟨⟨hx, -, -, -, hby, -, hret, hlk⟩, locs, X, N, eh⟩ := X
  obtain ⟨fs, hr, hrun, hended, hW, hsame⟩ := X.leave (v := none) (fun _ => rfl) hlk
  exact ⟨_, _, X.returnOut hx hret (hb hby hd) hr, hrun, hended, _, _, rfl, ⟨by show Q _ T.heap; rw [eh]; exact hQ, N⟩, hE _ _ _ eh rfl ⟨⟨_, rfl⟩, hW, hsame⟩⟩
theorem OAt.ldcI (X : OAt n0 Z y bytes maxL ret p l e R s m args below meth c T h cells slots) {index : Nat} {v : Int32} (w : (Jvm.Cond.constant y.cls index v).before a0 Z = true) (hg : g.method = m) (hd : decode bytes g.pc = .ok (.ldc index, 2))
    (k : OFin n0 p e FE below Q T { g with pc := g.pc + 2, stack := .int v :: g.stack }) : OFin n0 p e FE below Q T g := by
  obtain ⟨⟨hx, hZ, hown, -, hby, -⟩, locs, X, -⟩ := X
  exact OFin.run (X.ldcInt hx hown (mvT hZ w) hg (hb hby hd)) k
theorem OAt.ldcwI (X : OAt n0 Z y bytes maxL ret p l e R s m args below meth c T h cells slots) {index : Nat} {v : Int32} (w : (Jvm.Cond.constant y.cls index v).before a0 Z = true) (hg : g.method = m) (hd : decode bytes g.pc = .ok (.ldc_w index, 3))
    (k : OFin n0 p e FE below Q T { g with pc := g.pc + 3, stack := .int v :: g.stack }) : OFin n0 p e FE below Q T g := by
  obtain ⟨⟨hx, hZ, hown, -, hby, -⟩, locs, X, -⟩ := X
  exact OFin.run (X.ldcwInt hx hown (mvT hZ w) hg (hb hby hd)) k
theorem OAt.ldcL (X : OAt n0 Z y bytes maxL ret p l e R s m args below meth c T h cells slots) {index : Nat} {v : Int64} (w : (Jvm.Cond.constantLong y.cls index v).before a0 Z = true) (hg : g.method = m) (hd : decode bytes g.pc = .ok (.ldc2_w index, 3))
    (k : OFin n0 p e FE below Q T { g with pc := g.pc + 3, stack := .long v :: g.stack }) : OFin n0 p e FE below Q T g := by
  obtain ⟨⟨hx, hZ, hown, -, hby, -⟩, locs, X, -⟩ := X
  exact OFin.run (X.ldc2Long hx hown (mvT hZ w) hg (hb hby hd)) k
theorem OAt.getF (X : OAt n0 Z y bytes maxL ret p l e R s m args below meth c T h cells slots) {O n d : String} {index : Nat} (w : (Jvm.Cond.fieldLink y.cls index O n d).before a0 Z = true) {a : Addr} {v : Value} (F : Fld Z h a O n d v) (hg : g.method = m) {rest : List Value} (hs : g.stack = .ref a :: rest) (hd : decode bytes g.pc = .ok (.getfield index, 3))
    (k : ∀ T', OAt n0 Z y bytes maxL ret p l e R s m args below meth c T' h cells slots → OFin n0 p e FE below Q T' { g with pc := g.pc + 3, stack := v :: rest }) : OFin n0 p e FE below Q T g := by
  obtain ⟨C, locs, X, N, eh⟩ := X
  obtain ⟨hx, hZ, hown, -, hby, -⟩ := id C
  obtain ⟨T', X', e', st⟩ := Jvm.RoadKit.getF X hx hZ hown (host := "") (Or.inl w) Via.refl eh F hg hs (hb hby hd)
  exact OFin.run st (k T' ⟨C, locs, X', N, e'⟩)
theorem OAt.getS (X : OAt n0 Z y bytes maxL ret p l e R s m args below meth c T h cells slots) {O n d : String} {index : Nat} (w : (Jvm.Cond.fieldLink y.cls index O n d).before a0 Z = true) {v : Value} (F : Sta Z h O n d v) (hg : g.method = m) (hd : decode bytes g.pc = .ok (.getstatic index, 3))
    (k : ∀ T', OAt n0 Z y bytes maxL ret p l e R s m args below meth c T' h cells slots → OFin n0 p e FE below Q T' { g with pc := g.pc + 3, stack := v :: g.stack }) : OFin n0 p e FE below Q T g := by
  obtain ⟨C, locs, X, N, eh⟩ := X
  obtain ⟨hx, hZ, hown, -, hby, -⟩ := id C
  obtain ⟨T', X', e', st⟩ := Jvm.RoadKit.getS X hx hZ hown w Via.refl eh F hg (hb hby hd) (host := "")
  exact OFin.run st (k T' ⟨C, locs, X', N, e'⟩)
theorem OAt.putF (X : OAt n0 Z y bytes maxL ret p l e R s m args below meth c T h cells slots) {O n d C : String} {index ki : Nat} {ty : FieldType} (w : (Jvm.Cond.fieldLink y.cls index O n d).before a0 Z = true) {a : Addr} {v old : Value} (F : Fld Z h a O n d old) (E : Exa Z h a C) (L : (Jvm.Cond.lays C O n d).before a0 Z = true ∨ ((Jvm.Cond.laysFinal C O n d).before a0 Z = true ∧ y.cls = O ∧ y.name = "<init>"))
    (wi : (Jvm.Cond.instantiable C ki).before a0 Z = true) (hty : parseFieldDescriptor d = some ty) (hn : narrow ty v = v) (hf : fits ty v = true) (hnew : n0 ≤ a) (hg : g.method = m) {rest : List Value} (hs : g.stack = v :: .ref a :: rest) (hd : decode bytes g.pc = .ok (.putfield index, 3))
    (k : ∀ T' h', OAt n0 Z y bytes maxL ret p l e R s m args below meth c T' h' cells slots → Wr h h' a (Jvm.RoadKit.slotOf Z O n d) v → OFin n0 p e FE below Q T' { g with pc := g.pc + 3, stack := rest }) : OFin n0 p e FE below Q T g := by
  obtain ⟨C, locs, X, N, eh⟩ := X
  obtain ⟨hx, hZ, hown, hnm, hby, -⟩ := id C
  obtain ⟨T', h', X', e', W, st⟩ := Jvm.RoadKit.putF X hx hZ hown (host := "") (Or.inl w) Via.refl eh F E (L.imp id fun q => ⟨q.1, q.2.1, hnm.trans q.2.2⟩) wi hty hn hf hg hs (hb hby hd)
  exact OFin.run st (k T' h' ⟨C, _, X', Fr.snoc X' N hnew, e'⟩ W)
theorem OAt.initO (X : OAt n0 Z y bytes maxL ret p l e R s m args below meth c T h cells slots) {idx : Nat} (w1 : (Jvm.Cond.methodLink y.cls idx Lib.objectInit).before a0 Z = true) (w2 : (Jvm.Cond.instanceMethod Lib.objectInit).before a0 Z = true) (w3 : (Jvm.Cond.code Lib.objectInit ⟨#[0xb1]⟩ 1 none).before a0 Z = true) (hg : g.method = m) (hsize : g.locals.size = maxL) {a : Addr} {rest : List Value} (hs : g.stack = .ref a :: rest) (hd : decode bytes g.pc = .ok (.invokespecial idx, 3))
    (hf : 1 ≤ R.frames) {W : Nat} (hW : 2 * g.monitorRoom + (rest.map fun v => v.category).sum ≤ W) (hl : W + 12 ≤ R.locals)
    (k : ∀ T', OAt n0 Z y bytes maxL ret p l e R s m args below meth c T' h cells slots → OFin n0 p e FE below Q T' { g with pc := g.pc + 3, stack := rest }) : OFin n0 p e FE below Q T g := by
  obtain ⟨C, locs, X, N, eh⟩ := X
  obtain ⟨hx, hZ, hown, -, hby, hml, -⟩ := id C
  obtain ⟨T', X', e', st⟩ := Jvm.RoadKit.initO X hx hZ hown w1 w2 w3 eh hg (hsize.trans hml.symm) hs (hb hby hd) hf hW hl
  exact OFin.run st (k T' ⟨C, locs, X', N, e'⟩)
theorem OAt.newO (X : OAt n0 Z y bytes maxL ret p l e R s m args below meth c T h cells slots) {C : String} {index n : Nat} (w : (Jvm.Cond.classLink y.cls index C).before a0 Z = true) (wi : (Jvm.Cond.instantiable C n).before a0 Z = true) (wz : (Jvm.Cond.initialized C).before a0 Z = true) (hg : g.method = m) (hd : decode bytes g.pc = .ok (.new index, 3)) (hc : cells + 1 ≤ R.cells) (hl : slots + n ≤ R.slots)
    (k : ∀ T' h' a, a = h.size → OAt n0 Z y bytes maxL ret p l e R s m args below meth c T' h' (cells + 1) (slots + n) → Ext h h' → Exa Z h' a C → (∀ {O nm d : String} {ty : FieldType}, Laid Z a0 C O nm d → parseFieldDescriptor d = some ty → Fld Z h' a O nm d (defaultValue ty)) → OFin n0 p e FE below Q T' { g with pc := g.pc + 3, stack := .ref a :: g.stack }) : OFin n0 p e FE below Q T g := by
  obtain ⟨C', locs, X, N, eh⟩ := X
  obtain ⟨hx, hZ, hown, -, hby, -⟩ := id C'
  obtain ⟨T', h', X', e', E, A, D, -, st⟩ := Jvm.RoadKit.newO X hx hZ hown w wi wz eh hg (hb hby hd) hc hl
  exact OFin.run st (k T' h' _ rfl ⟨C', locs, X', N, e'⟩ E A D)
theorem OAt.newP (X : OAt n0 Z y bytes maxL ret p l e R s m args below meth c T h cells slots) {aty : ArrayType} (w : (Jvm.Cond.arrayClass (newarray.typeOf aty)).before a0 Z = true) (hg : g.method = m) (hd : decode bytes g.pc = .ok (.newarray aty, 2)) {n : Int32} {rest : List Value} (hs : g.stack = .int n :: rest) (hn : ¬ n < 0) {cap : Nat} (hcap : n.toNatClampNeg ≤ cap) (hb8 : cap * 8 ≤ 536870912) (hc : cells + 1 ≤ R.cells) (hl : slots + cap ≤ R.slots) {ad : String} (had : "[" ++ (newarray.typeOf aty).toString = ad)
    (k : ∀ T' h' cA a, a = h.size → OAt n0 Z y bytes maxL ret p l e R s m args below meth c T' h' (cells + 1) (slots + cap) → Ext h h' → Arr Z h' a (newA cA (newarray.typeOf aty) n) (newarray.typeOf aty) → Exa Z h' a ad → OFin n0 p e FE below Q T' { g with pc := g.pc + 2, stack := .ref a :: rest }) : OFin n0 p e FE below Q T g := by
  obtain ⟨C', locs, X, N, eh⟩ := X
  obtain ⟨hx, hZ, hown, -, hby, -⟩ := id C'
  obtain ⟨T', h', cA, X', e', E, A, A', st⟩ := newPE X hx hZ w eh hg (hb hby hd) hs hn hcap hb8 hc hl had
  exact OFin.run st (k T' h' cA _ rfl ⟨C', locs, X', N, e'⟩ E A A')
theorem OAt.newRA (X : OAt n0 Z y bytes maxL ret p l e R s m args below meth c T h cells slots) {C : String} {ty : FieldType} {index : Nat} (hC : (FieldType.array ty).toString = C) (w1 : (Jvm.Cond.classLink y.cls index C).before a0 Z = true) (w2 : (Jvm.Cond.arrayOver (.array ty)).before a0 Z = true) (hg : g.method = m) (hd : decode bytes g.pc = .ok (.anewarray index, 3)) {n : Int32} {rest : List Value} (hs : g.stack = .int n :: rest) (hn : ¬ n < 0) {cap : Nat} (hcap : n.toNatClampNeg ≤ cap) (hb8 : cap * 8 ≤ 536870912) (hc : cells + 1 ≤ R.cells) (hl : slots + cap ≤ R.slots) {ad : String} (had : "[" ++ C = ad)
    (k : ∀ T' h' cA a, a = h.size → OAt n0 Z y bytes maxL ret p l e R s m args below meth c T' h' (cells + 1) (slots + cap) → Ext h h' → Arr Z h' a (newA cA (.array ty) n) (.array ty) → Exa Z h' a ad → OvrA Z cA ty C → OFin n0 p e FE below Q T' { g with pc := g.pc + 3, stack := .ref a :: rest }) : OFin n0 p e FE below Q T g := by
  obtain ⟨C', locs, X, N, eh⟩ := X
  obtain ⟨hx, hZ, hown, -, hby, -⟩ := id C'
  obtain ⟨T', h', cA, X', e', E, A, A', O, st⟩ := Jvm.RoadKit.newRA X hx hZ hown hC w1 w2 eh hg (hb hby hd) hs hn hcap hb8 hc hl had
  exact OFin.run st (k T' h' cA _ rfl ⟨C', locs, X', N, e'⟩ E A A' O)
theorem OAt.clone (X : OAt n0 Z y bytes maxL ret p l e R s m args below meth c T h cells slots) {ad : String} {index : Nat} (w1 : (Jvm.Cond.methodLink y.cls index ⟨ad, "clone", "()Ljava/lang/Object;"⟩).before a0 Z = true) (w2 : (Jvm.Cond.sameMethod ad "java/lang/Object" "clone" "()Ljava/lang/Object;").before a0 Z = true) (w3 : (Jvm.Cond.native ⟨"java/lang/Object", "clone", "()Ljava/lang/Object;"⟩).before a0 Z = true)
    (w4 : (Jvm.Cond.instanceMethod ⟨"java/lang/Object", "clone", "()Ljava/lang/Object;"⟩).before a0 Z = true) (w5 : (Jvm.Cond.selects ad ⟨ad, "clone", "()Ljava/lang/Object;"⟩ ⟨"java/lang/Object", "clone", "()Ljava/lang/Object;"⟩).before a0 Z = true) (w6 : (Jvm.Cond.castable ad "java/lang/Cloneable").before a0 Z = true)
    {a : Addr} {cl : Cell} {ty : FieldType} (A : Arr Z h a cl ty) (E : Exa Z h a ad) (F : FitC Z cl) (hg : g.method = m) (hsize : g.locals.size = maxL) {rest : List Value} (hs : g.stack = .ref a :: rest) (hd : decode bytes g.pc = .ok (.invokevirtual index, 3))
    (hf : 1 ≤ R.frames) {W cap : Nat} (hW : 2 * g.monitorRoom + (rest.map fun v => v.category).sum ≤ W) (hl : W + 14 ≤ R.locals) (hcap : cl.slots.size ≤ cap) (hc : cells + 1 ≤ R.cells) (hsl : slots + cap ≤ R.slots)
    (k : ∀ T' h' b, b = h.size → OAt n0 Z y bytes maxL ret p l e R s m args below meth c T' h' (cells + 1) (slots + cap) → Ext h h' → Arr Z h' b (Jvm.RoadKit.cloneOf cl) ty → Exa Z h' b ad → OFin n0 p e FE below Q T' { g with pc := g.pc + 3, stack := .ref b :: rest }) : OFin n0 p e FE below Q T g := by
  obtain ⟨C', locs, X, N, eh⟩ := X
  obtain ⟨hx, hZ, hown, -, hby, hml, -⟩ := id C'
  obtain ⟨T', h', X', e', E', A', A'', st⟩ := Jvm.RoadKit.cloneA X hx hZ hown w1 w2 w3 w4 w5 w6 eh A E F hg (hsize.trans hml.symm) hs (hb hby hd) hf hW hl hcap hc hsl
  exact OFin.run st (k T' h' _ rfl ⟨C', locs, X', N, e'⟩ E' A' A'')
theorem OAt.stR (X : OAt n0 Z y bytes maxL ret p l e R s m args below meth c T h cells slots) {a : Addr} {cl : Cell} {ty : FieldType} (A : Arr Z h a cl ty) {j : Int32} {v : Value} (hin : ¬ (j < 0 ∨ cl.slots.size ≤ j.toNatClampNeg)) (hty : ty.isReference = true) (F : Sto Z h a v) (hnew : n0 ≤ a) (hg : g.method = m) {rest : List Value} (hs : g.stack = v :: .int j :: .ref a :: rest) (hd : decode bytes g.pc = .ok (.aastore, 1))
    (k : ∀ T' h', OAt n0 Z y bytes maxL ret p l e R s m args below meth c T' h' cells slots → Wr h h' a j.toNatClampNeg v → OFin n0 p e FE below Q T' { g with pc := g.pc + 1, stack := rest }) : OFin n0 p e FE below Q T g := by
  obtain ⟨C, locs, X, N, eh⟩ := X
  obtain ⟨hx, hZ, hown, -, hby, -⟩ := id C
  obtain ⟨T', h', X', e', W, st⟩ := Jvm.RoadKit.stR X hx hZ eh A hin hty F hg hs (hb hby hd)
  exact OFin.run st (k T' h' ⟨C, _, X', Fr.snoc X' N hnew, e'⟩ W)
theorem OAt.acmp (X : OAt n0 Z y bytes maxL ret p l e R s m args below meth c T h cells slots) (hg : g.method = m) {cd : ACond} {u v : Value} (h1 : u.isRef = true) (h2 : v.isRef = true) {rest : List Value} {o : Int} {pc0 pc' : Nat} {same : Bool} (hpc : g.pc = pc0) (hd : decode bytes g.pc = .ok (.if_acmp cd o, 3)) (hs : g.stack = v :: u :: rest) (hq : decide (u = v) = same) (ho : 0 ≤ (pc0 : Int) + o) (hp : pc' = if acV cd same = true then ((pc0 : Int) + o).toNat else pc0 + 3)
    (k : OFin n0 p e FE below Q T { g with pc := pc', stack := rest }) : OFin n0 p e FE below Q T g := by
  obtain ⟨⟨hx, hZ, hown, -, hby, -⟩, locs, X, -⟩ := X
  exact OFin.run (fun t kk => Jvm.RoadKit.acmp X hx hg h1 h2 hpc (hb hby hd) hs hq ho hp kk) k
theorem OAt.irem (X : OAt n0 Z y bytes maxL ret p l e R s m args below meth c T h cells slots) (hg : g.method = m) {u v : Int32} {rest : List Value} (hd : decode bytes g.pc = .ok (.irem, 1)) (hs : g.stack = .int v :: .int u :: rest) (hv : v ≠ 0)
    (k : OFin n0 p e FE below Q T { g with pc := g.pc + 1, stack := .int (u % v) :: rest }) : OFin n0 p e FE below Q T g := by
  obtain ⟨⟨hx, hZ, hown, -, hby, -⟩, locs, X, -⟩ := X
  exact OFin.run (fun t kk => iremM X hx hg (hb hby hd) hs hv kk) k
theorem OAt.callS (X : OAt n0 Z y bytes maxL ret p l e R s m args below meth c T h cells slots) {index : Nat} {y' : MethodName} {bytes' : ByteArray} {maxL' : Nat} {ret' : Option FieldType} (w1 : (Jvm.Cond.methodLink y.cls index y').before a0 Z = true) (w2 : (Jvm.Cond.static y').before a0 Z = true) (w3 : (Jvm.Cond.initialized y'.cls).before a0 Z = true) (w4 : (Jvm.Cond.code y' bytes' maxL' ret').before a0 Z = true)
    (hy : y'.cls ≠ "java/lang/invoke/MethodHandle" ∧ y'.cls ≠ "java/lang/invoke/VarHandle") {rm : Room} {Qc : Option Value → Heap → Prop} {argsL rest : List Value} (hM : OMeets l Z y' [] bytes' maxL' ret' rm argsL.toArray h n0 Qc)
    (hg : g.method = m) (hsize : g.locals.size = maxL) {ps : List FieldType} {r : Option FieldType} (hpd : parseMethodDescriptor y'.desc = some ⟨ps, r⟩) (hlen : argsL.length = ps.length) (hs : g.stack = argsL.reverse ++ rest) {W : Nat} (hW : 2 * g.monitorRoom + (rest.map fun v => v.category).sum ≤ W) (hd : decode bytes g.pc = .ok (.invokestatic index, 3))
    (hf : rm.frames + 1 ≤ R.frames) (hl : W + (maxL' + 11) + rm.locals ≤ R.locals) (hc : cells + rm.cells ≤ R.cells) (hn : slots + rm.slots ≤ R.slots)
    (k : ∀ v T' h', OAt n0 Z y bytes maxL ret p l e R s m args below meth c T' h' (cells + rm.cells) (slots + rm.slots) → Qc v h' → OFin n0 p e FE below Q T' { g with pc := g.pc + 3, stack := v.toList ++ rest }) : OFin n0 p e FE below Q T g := by
  obtain ⟨C, locs, X, N, eh⟩ := X
  obtain ⟨hx, hZ, hown, -, hby, hml, -⟩ := id C
  obtain ⟨v, _, ⟨T1, L1, k1, n1⟩, -, X1, ⟨Lc, hQ, l1, y1, z1⟩, st⟩ := Jvm.LawKit.callS X hx hown (mvT hZ w1) (mvT hZ w2) (mvT hZ w3) (mvT hZ w4) hy
    (backOf (W := W) (Q := fun v h L => Qc v h ∧ Fr n0 L) hM hZ w4 w3 hf hl) hg (hsize.trans hml.symm) (lenOf hpd hlen) hs hW (hb hby hd) (fun _ _ => ⟨rfl, eh, hc, hn⟩)
  dsimp only [Pt.U, Pt.locs, Pt.cells, Pt.slots] at X1 l1 y1 z1 st hQ
  subst l1 y1 z1
  exact OFin.run st (k v T1 _ ⟨C, _, X1, N.app hQ.2, rfl⟩ hQ.1)
theorem OAt.callI (X : OAt n0 Z y bytes maxL ret p l e R s m args below meth c T h cells slots) {index : Nat} {y' : MethodName} {bytes' : ByteArray} {maxL' : Nat} (hy1 : y'.name = "<init>") (w1 : (Jvm.Cond.methodLink y.cls index y').before a0 Z = true) (w2 : (Jvm.Cond.instanceMethod y').before a0 Z = true) (w3 : (Jvm.Cond.initialized y'.cls).before a0 Z = true) (w4 : (Jvm.Cond.code y' bytes' maxL' none).before a0 Z = true)
    (hy : y'.cls ≠ "java/lang/invoke/MethodHandle" ∧ y'.cls ≠ "java/lang/invoke/VarHandle") {rm : Room} {Qc : Option Value → Heap → Prop} {a : Addr} {argsL rest : List Value} (hM : OMeets l Z y' [] bytes' maxL' none rm (Value.ref a :: argsL).toArray h n0 Qc)
    (hg : g.method = m) (hsize : g.locals.size = maxL) {ps : List FieldType} {r : Option FieldType} (hpd : parseMethodDescriptor y'.desc = some ⟨ps, r⟩) (hlen : argsL.length = ps.length) (hs : g.stack = argsL.reverse ++ .ref a :: rest) {W : Nat} (hW : 2 * g.monitorRoom + (rest.map fun v => v.category).sum ≤ W) (hd : decode bytes g.pc = .ok (.invokespecial index, 3))
    (hf : rm.frames + 1 ≤ R.frames) (hl : W + (maxL' + 11) + rm.locals ≤ R.locals) (hc : cells + rm.cells ≤ R.cells) (hn : slots + rm.slots ≤ R.slots)
    (k : ∀ v T' h', OAt n0 Z y bytes maxL ret p l e R s m args below meth c T' h' (cells + rm.cells) (slots + rm.slots) → Qc v h' → OFin n0 p e FE below Q T' { g with pc := g.pc + 3, stack := v.toList ++ rest }) : OFin n0 p e FE below Q T g := by
  obtain ⟨C, locs, X, N, eh⟩ := X
  obtain ⟨hx, hZ, hown, -, hby, hml, -⟩ := id C
  obtain ⟨v, _, ⟨T1, L1, k1, n1⟩, -, X1, ⟨Lc, hQ, l1, y1, z1⟩, st⟩ := X.specialBack hx hy1 hown (mvT hZ w1) (mvT hZ w2) (mvT hZ w4) hy
    (backOf (W := W) (Q := fun v h L => Qc v h ∧ Fr n0 L) hM hZ w4 w3 hf hl) hg (hsize.trans hml.symm) (Steps.refl _) (lenOf hpd hlen) hs hW (hb hby hd) (fun _ _ => ⟨rfl, eh, hc, hn⟩)
  dsimp only [Pt.U, Pt.locs, Pt.cells, Pt.slots] at X1 l1 y1 z1 st hQ
  subst l1 y1 z1
  exact OFin.run (fun t k => st.trans k) (k v T1 _ ⟨C, _, X1, N.app hQ.2, rfl⟩ hQ.1)
theorem OAt.callV (X : OAt n0 Z y bytes maxL ret p l e R s m args below meth c T h cells slots) {index : Nat} {y' z' : MethodName} {C0 : String} {bytes' : ByteArray} {maxL' : Nat} {ret' : Option FieldType} (w1 : (Jvm.Cond.methodLink y.cls index y').before a0 Z = true) (w2 : (Jvm.Cond.declares y').before a0 Z = true) (nf : NotFace s y') (w5 : (Jvm.Cond.selects C0 y' z').before a0 Z = true) (w6 : (Jvm.Cond.instanceMethod z').before a0 Z = true) (w3 : (Jvm.Cond.initialized z'.cls).before a0 Z = true) (w4 : (Jvm.Cond.code z' bytes' maxL' ret').before a0 Z = true)
    (hy : y'.cls ≠ "java/lang/invoke/MethodHandle" ∧ y'.cls ≠ "java/lang/invoke/VarHandle") {rm : Room} {Qc : Option Value → Heap → Prop} {a : Addr} (E : Exa Z h a C0) {argsL rest : List Value} (hM : OMeets l Z z' [] bytes' maxL' ret' rm (Value.ref a :: argsL).toArray h n0 Qc)
    (hg : g.method = m) (hsize : g.locals.size = maxL) {ps : List FieldType} {r : Option FieldType} (hpd : parseMethodDescriptor y'.desc = some ⟨ps, r⟩) (hlen : argsL.length = ps.length) (hs : g.stack = argsL.reverse ++ .ref a :: rest) {W : Nat} (hW : 2 * g.monitorRoom + (rest.map fun v => v.category).sum ≤ W) (hd : decode bytes g.pc = .ok (.invokevirtual index, 3))
    (hf : rm.frames + 1 ≤ R.frames) (hl : W + (maxL' + 11) + rm.locals ≤ R.locals) (hc : cells + rm.cells ≤ R.cells) (hn : slots + rm.slots ≤ R.slots)
    (k : ∀ v T' h', OAt n0 Z y bytes maxL ret p l e R s m args below meth c T' h' (cells + rm.cells) (slots + rm.slots) → Qc v h' → OFin n0 p e FE below Q T' { g with pc := g.pc + 3, stack := v.toList ++ rest }) : OFin n0 p e FE below Q T g := by
  obtain ⟨C, locs, X, N, eh⟩ := X
  obtain ⟨hx, hZ, hown, -, hby, hml, -⟩ := id C
  obtain ⟨cq, kq, qa, qb, qc⟩ := isOf hZ eh E
  obtain ⟨v, _, ⟨T1, L1, k1, n1⟩, -, X1, ⟨Lc, hQ, l1, y1, z1⟩, st⟩ := X.virtualBack hx hown (mvT hZ w1) (mvT hZ w2) nf (mvT hZ w5) (mvT hZ w6) hy
    (backOf (W := W) (Q := fun v h L => Qc v h ∧ Fr n0 L) hM hZ w4 w3 hf hl) qa qc hg (hsize.trans hml.symm) (Steps.refl _) (lenOf hpd hlen) hs hW (hb hby hd) (fun _ _ => ⟨rfl, eh, hc, hn⟩)
  dsimp only [Pt.U, Pt.locs, Pt.cells, Pt.slots] at X1 l1 y1 z1 st hQ
  subst l1 y1 z1
  exact OFin.run (fun t k => st.trans k) (k v T1 _ ⟨C, _, X1, N.app hQ.2, rfl⟩ hQ.1)
theorem OAt.notFace (X : OAt n0 Z y bytes maxL ret p l e R s m args below meth c T h cells slots) {C0 : String} {y' z' : MethodName} (w : (Jvm.Cond.selects C0 y' z').before a0 Z = true) (hq : y' = z') : NotFace s y' := by
  obtain ⟨⟨hx, hZ, -⟩, -⟩ := X
  subst hq
  exact notFace_of_selects (args := #[]) (mvT hZ w)
theorem OAt.aload0 (X : OAt n0 Z y bytes maxL ret p l e R s m args below meth c T h cells slots) {a : Addr} {cl : Cell} {ty : FieldType} (A : Arr Z h a cl ty) {j : Int32} {v : Value} (hin : ¬ (j < 0 ∨ cl.slots.size ≤ j.toNatClampNeg)) (hv : cl.slots[j.toNatClampNeg]? = some v) (hg : g.method = m) {rest : List Value} (hs : g.stack = .int j :: .ref a :: rest)
    {i : Instr} (hi : (i = .iaload ∧ ty = .int) ∨ (i = .laload ∧ ty = .long) ∨ (i = .caload ∧ ty = .char) ∨ (i = .baload ∧ ty = .byte) ∨ (i = .aaload ∧ ty.isReference = true)) (hd : decode bytes g.pc = .ok (i, 1))
    (k : OFin n0 p e FE below Q T { g with pc := g.pc + 1, stack := v :: rest }) : OFin n0 p e FE below Q T g := by
  obtain ⟨⟨hx, hZ, hown, -, hby, -⟩, locs, X, N, eh⟩ := X
  have hA := State.isArrayOf_alike hZ.alike A.2.1
  have hc : T.heap[a]? = some cl := by rw [eh]; exact A.1
  rcases hi with ⟨rfl, rfl⟩ | ⟨rfl, rfl⟩ | ⟨rfl, rfl⟩ | ⟨rfl, rfl⟩ | ⟨rfl, ht⟩
  · exact OFin.run (X.iaload hx hc hA A.2.2 hin hv hg hs (hb hby hd)) k
  · exact OFin.run (X.laload hx hc hA A.2.2 hin hv hg hs (hb hby hd)) k
  · exact OFin.run (X.caload hx hc hA A.2.2 hin hv hg hs (hb hby hd)) k
  · exact OFin.run (X.baloadBytes hx hc hA A.2.2 hin hv hg hs (hb hby hd)) k
  · exact OFin.run (X.aaload hx hc hA ht A.2.2 hin hv hg hs (hb hby hd)) k
theorem OAt.alen (X : OAt n0 Z y bytes maxL ret p l e R s m args below meth c T h cells slots) {a : Addr} {cl : Cell} {ty : FieldType} (A : Arr Z h a cl ty) {n : Int32} (hn : cl.slots.size.toInt32 = n) (hg : g.method = m) {rest : List Value} (hs : g.stack = .ref a :: rest) (hd : decode bytes g.pc = .ok (.arraylength, 1))
    (k : OFin n0 p e FE below Q T { g with pc := g.pc + 1, stack := .int n :: rest }) : OFin n0 p e FE below Q T g := by
  obtain ⟨⟨hx, hZ, hown, -, hby, -⟩, locs, X, N, eh⟩ := X
  subst hn
  exact OFin.run (X.arraylength hx (by rw [eh]; exact A.1) (State.isArrayOf_alike hZ.alike A.2.1) hg hs (hb hby hd)) k
theorem OAt.stJ (X : OAt n0 Z y bytes maxL ret p l e R s m args below meth c T h cells slots) {a : Addr} {cl : Cell} (A : Arr Z h a cl .long) {j : Int32} {v : Int64} (hin : ¬ (j < 0 ∨ cl.slots.size ≤ j.toNatClampNeg)) (hnew : n0 ≤ a) (hg : g.method = m) {rest : List Value} (hs : g.stack = .long v :: .int j :: .ref a :: rest) (hd : decode bytes g.pc = .ok (.lastore, 1))
    (k : ∀ T' h', OAt n0 Z y bytes maxL ret p l e R s m args below meth c T' h' cells slots → Wr h h' a j.toNatClampNeg (.long v) → OFin n0 p e FE below Q T' { g with pc := g.pc + 1, stack := rest }) : OFin n0 p e FE below Q T g := by
  obtain ⟨C, locs, X, N, eh⟩ := X
  obtain ⟨hx, hZ, hown, -, hby, -⟩ := id C
  obtain ⟨T', h', X', e', W, st⟩ := Jvm.RoadKit.stJ X hx hZ eh A hin hg hs (hb hby hd)
  exact OFin.run st (k T' h' ⟨C, _, X', Fr.snoc X' N hnew, e'⟩ W)
theorem OAt.stB (X : OAt n0 Z y bytes maxL ret p l e R s m args below meth c T h cells slots) {a : Addr} {cl : Cell} (A : Arr Z h a cl .byte) {j v : Int32} (hin : ¬ (j < 0 ∨ cl.slots.size ≤ j.toNatClampNeg)) (hnew : n0 ≤ a) (hg : g.method = m) {rest : List Value} (hs : g.stack = .int v :: .int j :: .ref a :: rest) (hd : decode bytes g.pc = .ok (.bastore, 1))
    (k : ∀ T' h', OAt n0 Z y bytes maxL ret p l e R s m args below meth c T' h' cells slots → Wr h h' a j.toNatClampNeg (.int (nar .byte v)) → OFin n0 p e FE below Q T' { g with pc := g.pc + 1, stack := rest }) : OFin n0 p e FE below Q T g := by
  obtain ⟨C, locs, X, N, eh⟩ := X
  obtain ⟨hx, hZ, hown, -, hby, -⟩ := id C
  obtain ⟨T', h', X', e', W, st⟩ := Jvm.RoadKit.stB X hx hZ eh A hin hg hs (hb hby hd)
  exact OFin.run st (k T' h' ⟨C, _, X', Fr.snoc X' N hnew, e'⟩ W)
theorem OAt.stC (X : OAt n0 Z y bytes maxL ret p l e R s m args below meth c T h cells slots) {a : Addr} {cl : Cell} (A : Arr Z h a cl .char) {j v : Int32} (hin : ¬ (j < 0 ∨ cl.slots.size ≤ j.toNatClampNeg)) (hnew : n0 ≤ a) (hg : g.method = m) {rest : List Value} (hs : g.stack = .int v :: .int j :: .ref a :: rest) (hd : decode bytes g.pc = .ok (.castore, 1))
    (k : ∀ T' h', OAt n0 Z y bytes maxL ret p l e R s m args below meth c T' h' cells slots → Wr h h' a j.toNatClampNeg (.int (nar .char v)) → OFin n0 p e FE below Q T' { g with pc := g.pc + 1, stack := rest }) : OFin n0 p e FE below Q T g := by
  obtain ⟨C, locs, X, N, eh⟩ := X
  obtain ⟨hx, hZ, hown, -, hby, -⟩ := id C
  obtain ⟨T', h', X', e', W, st⟩ := Jvm.RoadKit.stC X hx hZ eh A hin hg hs (hb hby hd)
  exact OFin.run st (k T' h' ⟨C, _, X', Fr.snoc X' N hnew, e'⟩ W)
theorem OAt.instY (X : OAt n0 Z y bytes maxL ret p l e R s m args below meth c T h cells slots) {K : String} {index : Nat} (w : (Jvm.Cond.classLink y.cls index K).before a0 Z = true) {a : Addr} (F : Ins Z h a K true) (hg : g.method = m) {rest : List Value} (hs : g.stack = .ref a :: rest) (hd : decode bytes g.pc = .ok (.instanceof index, 3))
    (k : ∀ T', OAt n0 Z y bytes maxL ret p l e R s m args below meth c T' h cells slots → OFin n0 p e FE below Q T' { g with pc := g.pc + 3, stack := .int 1 :: rest }) : OFin n0 p e FE below Q T g := by
  obtain ⟨C, locs, X, N, eh⟩ := X
  obtain ⟨hx, hZ, hown, -, hby, -⟩ := id C
  obtain ⟨T', X', e', st⟩ := Jvm.RoadKit.instY X hx hZ hown w eh F hg hs (hb hby hd)
  exact OFin.run st (k T' ⟨C, locs, X', N, e'⟩)
theorem OAt.castY (X : OAt n0 Z y bytes maxL ret p l e R s m args below meth c T h cells slots) {K : String} {index : Nat} (w : (Jvm.Cond.classLink y.cls index K).before a0 Z = true) {a : Addr} (F : Ins Z h a K true) (hg : g.method = m) {rest : List Value} (hs : g.stack = .ref a :: rest) (hd : decode bytes g.pc = .ok (.checkcast index, 3))
    (k : ∀ T', OAt n0 Z y bytes maxL ret p l e R s m args below meth c T' h cells slots → OFin n0 p e FE below Q T' { g with pc := g.pc + 3 }) : OFin n0 p e FE below Q T g := by
  obtain ⟨C, locs, X, N, eh⟩ := X
  obtain ⟨hx, hZ, hown, -, hby, -⟩ := id C
  obtain ⟨T', X', e', st⟩ := Jvm.RoadKit.castY X hx hZ hown w eh F hg hs (hb hby hd)
  exact OFin.run st (k T' ⟨C, locs, X', N, e'⟩)
theorem OAt.instNo (X : OAt n0 Z y bytes maxL ret p l e R s m args below meth c T h cells slots) {K C : String} {index : Nat} (w : (Jvm.Cond.classLink y.cls index K).before a0 Z = true) {a : Addr} (E : Exa Z h a C) (F : ∃ c t, Z.vm.findClass C = some c ∧ Z.vm.findClass K = some t ∧ Z.vm.assignable c t = false) (hg : g.method = m) {rest : List Value} (hs : g.stack = .ref a :: rest) (hd : decode bytes g.pc = .ok (.instanceof index, 3))
    (k : ∀ T', OAt n0 Z y bytes maxL ret p l e R s m args below meth c T' h cells slots → OFin n0 p e FE below Q T' { g with pc := g.pc + 3, stack := .int 0 :: rest }) : OFin n0 p e FE below Q T g := by
  obtain ⟨C, locs, X, N, eh⟩ := X
  obtain ⟨hx, hZ, hown, -, hby, -⟩ := id C
  obtain ⟨T', X', e', st⟩ := Jvm.RoadKit.instNo X hx hZ hown w eh E F hg hs (hb hby hd)
  exact OFin.run st (k T' ⟨C, locs, X', N, e'⟩)
theorem OAt.instNull (X : OAt n0 Z y bytes maxL ret p l e R s m args below meth c T h cells slots) {index : Nat} (hg : g.method = m) {rest : List Value} (hs : g.stack = .null :: rest) (hd : decode bytes g.pc = .ok (.instanceof index, 3))
    (k : OFin n0 p e FE below Q T { g with pc := g.pc + 3, stack := .int 0 :: rest }) : OFin n0 p e FE below Q T g := by
  obtain ⟨⟨hx, hZ, hown, -, hby, -⟩, locs, X, N, eh⟩ := X
  exact OFin.run (X.instanceofNull hx hg hs (hb hby hd)) k
theorem o_nsRoot {O K : String} {n : Nat} (w : (Jvm.Cond.noSuperclass O).before a0 Z = true) (wk : (Jvm.Cond.instantiable K n).before a0 Z = true) (hn : O ≠ K) : NS Z O K := by
  obtain ⟨c, k, h1, h2, h3, -, -⟩ := Cond.noSuperclass_spec w
  obtain ⟨t, kt, g1, -⟩ := Cond.instantiable_spec wk
  have ne := ids_ne h1 g1 hn
  refine ⟨c, t, h1, g1, fun fuel => ?_⟩
  cases fuel with
  | zero => rfl
  | succ f => simp [Vm.isSubclassAux, ne, h2, h3]
theorem o_nsNo {C S K : String} {n : Nat} (w : (Jvm.Cond.superclass C S).before a0 Z = true) (wk : (Jvm.Cond.instantiable K n).before a0 Z = true) (q : NS Z C K) (hn : C ≠ K) : ∃ c t, Z.vm.findClass C = some c ∧ Z.vm.findClass K = some t ∧ Z.vm.assignable c t = false := by
  obtain ⟨c, t, h0, g0, n3⟩ := q
  obtain ⟨p, k, kp, h1, h2, h3, h4, h5, -, h7⟩ := Cond.superclass_spec h0 w
  obtain ⟨t2, k', g1, g2, g3, g4, -⟩ := Cond.instantiable_spec wk
  cases g0.symm.trans g1
  have ne := ids_ne h0 g0 hn
  have g5 : k'.isInterface = false := by simp only [Bool.or_eq_false_iff] at g4; exact g4.1
  refine ⟨c, t, h0, g0, ?_⟩
  show Z.vm.assignableAux (255 + 1) c t = false
  simp [Vm.assignableAux, ne, h2, g2, h5, g3, g5, Vm.isSubclass, n3]
/-- an array of N places; place j holds f j -/
def OArr (Z : State) (h : Heap) (a : Addr) (ty : FieldType) (N : Nat) (f : Nat → Value) : Prop := ∃ c : Cell, Arr Z h a c ty ∧ c.slots.size = N ∧ ∀ j, j < N → c.slots[j]? = some (f j)
theorem OArr.lt {a : Addr} {ty : FieldType} {N : Nat} {f : Nat → Value} (F : OArr Z h a ty N f) : a < h.size := by obtain ⟨c, A, -⟩ := F; exact A.lt
theorem OArr.ext {a : Addr} {ty : FieldType} {N : Nat} {f : Nat → Value} (F : OArr Z h a ty N f) (E : Ext h h') : OArr Z h' a ty N f := by obtain ⟨c, A, r⟩ := F; exact ⟨c, A.ext E, r⟩
theorem OArr.other {a b : Addr} {ty : FieldType} {N sl : Nat} {f : Nat → Value} {v : Value} (F : OArr Z h b ty N f) (W : Wr h h' a sl v) (q : b ≠ a) : OArr Z h' b ty N f := by obtain ⟨c, A, r⟩ := F; exact ⟨c, A.other W q, r⟩
theorem OArr.keep {a : Addr} {ws : List Addr} {ty : FieldType} {N : Nat} {f : Nat → Value} (F : OArr Z h a ty N f) (K : Keep h h' ws) (q : a ∉ ws) : OArr Z h' a ty N f := by obtain ⟨c, A, r⟩ := F; exact ⟨c, ⟨K.2.1 a c A.1 q, A.2⟩, r⟩
theorem OArr.new {a : Addr} {k : ClassId} {ty : FieldType} {z : Int32} (A : Arr Z h a (newA k ty z) ty) : OArr Z h a ty z.toNatClampNeg (fun _ => defaultValue ty) := ⟨_, A, sz_new _ _ _, fun j hj => by simp [newA, hj]⟩
theorem OArr.congr {a : Addr} {ty : FieldType} {N : Nat} {f f' : Nat → Value} (F : OArr Z h a ty N f) (q : ∀ j, j < N → f j = f' j) : OArr Z h a ty N f' := by obtain ⟨c, A, r1, r2⟩ := F; exact ⟨c, A, r1, fun j hj => by rw [r2 j hj, q j hj]⟩
theorem OArr.set {a : Addr} {ty : FieldType} {N i : Nat} {f : Nat → Value} {v : Value} (F : OArr Z h a ty N f) (W : Wr h h' a i v) : OArr Z h' a ty N (fun j => if j = i then v else f j) := by
  obtain ⟨c, A, r1, r2⟩ := F
  refine ⟨c.setSlot i v, A.same W, by rw [sz_set]; exact r1, fun j hj => ?_⟩
  by_cases q : j = i
  · subst q; simp [Cell.setSlot, r1, hj]
  · simp only [q, if_false]
    rw [← r2 j hj]
    exact Array.getElem?_setIfInBounds_ne (Ne.symm q)
theorem o_fitC {a : Addr} {cl : Cell} {ty : FieldType} (A : Arr Z h a cl ty) (q : ∀ (i : Nat) (v : Value), cl.slots[i]? = some v → fits ty v = true) : FitC Z cl := fun i v hv => by
  obtain ⟨hs, k, hk, comp, hkind⟩ := A.2.1
  simp [State.fitsSlot, State.slotType?, hk, hkind, q i v hv]
theorem o_in {N : Nat} {j : Int32} {cl : Cell} (S : cl.slots.size = N) (h0 : 0 ≤ j.toInt) (h1 : j.toInt < N) : ¬ (j < 0 ∨ cl.slots.size ≤ j.toNatClampNeg) := by
  have e : (0 : Int32).toInt = 0 := by decide
  have q : (j.toNatClampNeg : Int) = j.toInt := by show (j.toInt.toNat : Int) = _; omega
  rw [Int32.lt_iff_toInt_lt, S, e]; omega
theorem o_nat {j : Int32} (h0 : 0 ≤ j.toInt) : (j.toNatClampNeg : Int) = j.toInt := by show (j.toInt.toNat : Int) = _; omega
theorem oN {kk nn : Nat} (h1 : cells ≤ kk) (h2 : slots ≤ nn) : ∀ (t : State) (v : Option Value) (L : List Loc), t.heap = h → t.vm = T.vm → FrameEnd s (.returned v) t L cells slots → (fun o t L => FrameEnd s o t L kk nn) (.returned v) t L := fun t v L _ _ q => ⟨q.1, q.2.1, q.2.2.mono h1 h2⟩
/-! the wide contracts: a body that may intern the program's string constants -/
abbrev OMeetsW (l : Launch) (Z : State) (EL : List (String × Nat)) (y : MethodName) (ws : List Jvm.Cond) (bytes : ByteArray) (maxL : Nat) (ret : Option FieldType) (rm : Room) (as' : Array Value) (h0 : Heap) (n0 : Nat) (Q : Option Value → Heap → Prop) : Prop :=
  MetFree l y (head1 (Jvm.Cond.code y bytes maxL ret :: ws) rm) (fun a U => a = as' ∧ Z.Warmed39 U.vm ∧ U.heap = h0 ∧ CHv Z EL U.vm h0) (fun _ _ _ _ _ => True) (fun _ U o U' => ∃ v L, o = .returned v ∧ (Q v U'.heap ∧ Fr n0 L) ∧ CHr Z EL U.vm U.heap U'.vm U'.heap ∧ ReturnedEndW U o U' L rm.cells rm.slots)
/-- what a wide walk bears beside its Stand over the re-based start -/
def OB (Z : State) (a0 : Array Value) (EL : List (String × Nat)) (s : State) (h0 : Heap) (vm0 : Vm) (h : Heap) : Prop := s.heap = h0 ∧ EW Z a0 EL ∧ (∃ k0, s.Since vm0 k0 ∧ k0 ≤ h.size) ∧ CHr Z EL s.vm h0 vm0 h
theorem OB.ext {EL : List (String × Nat)} {vm0 : Vm} {h0 : Heap} (B : OB Z a0 EL s h0 vm0 h) (E : Ext h h') : OB Z a0 EL s h0 vm0 h' := by
  obtain ⟨b1, b2, ⟨k0, b3, b4⟩, b5⟩ := B
  exact ⟨b1, b2, ⟨k0, b3, Nat.le_trans b4 E.1⟩, b5.trans (CHr.ext E b5.1)⟩
theorem OB.keep {EL : List (String × Nat)} {vm0 : Vm} {h0 : Heap} {ws : List Addr} (B : OB Z a0 EL s h0 vm0 h) (K : Keep h h' ws) (S : ∀ x ∈ ws, Safe Z EL vm0 h x) : OB Z a0 EL s h0 vm0 h' := by
  obtain ⟨b1, b2, ⟨k0, b3, b4⟩, b5⟩ := B
  exact ⟨b1, b2, ⟨k0, b3, Nat.le_trans b4 K.1⟩, b5.trans (CHr.keep K S b5.1)⟩
theorem OB.wr {EL : List (String × Nat)} {vm0 : Vm} {h0 : Heap} {a : Addr} {sl : Nat} {v : Value} (B : OB Z a0 EL s h0 vm0 h) (W : Wr h h' a sl v) (S : Safe Z EL vm0 h a) : OB Z a0 EL s h0 vm0 h' := B.keep (Keep.of_wr W) (fun x hx => by cases List.mem_singleton.mp hx; exact S)
theorem OB.hv {EL : List (String × Nat)} {vm0 : Vm} {h0 : Heap} (B : OB Z a0 EL s h0 vm0 h) : CHv Z EL vm0 h := B.2.2.2.1
theorem OB.size {EL : List (String × Nat)} {vm0 : Vm} {h0 : Heap} (B : OB Z a0 EL s h0 vm0 h) : h0.size ≤ h.size := B.2.2.2.2.1
theorem safe_nil {vm0 : Vm} {x : Addr} : Safe Z [] vm0 h x := fun B => by obtain ⟨p, hp, -⟩ := B; cases hp
theorem o_enterW {EL : List (String × Nat)} {ws : List Jvm.Cond} {rm : Room} {as' : Array Value} {h0 : Heap} (hEL : EW Z a0 EL) (pn : plainFor y = true)
    (body : ∀ (p : Program) (e : Env) (s : State) (m : MethodId) (below : List Frame) (meth : Method) (c : Code) (s₁ : State), OAt n0 Z y bytes maxL ret p l e rm (s.setVm s.vm) m as' below meth c s₁ h0 0 0 → OB Z a0 EL s h0 s.vm h0 → OFin n0 p e (fun o t L => CHr Z EL s.vm s.heap t.vm t.heap ∧ ReturnedEndW s o t L rm.cells rm.slots) below Q s₁ (entryFrame m as' maxL)) :
    OMeetsW l Z EL y ws bytes maxL ret rm as' h0 n0 Q := by
  refine MetFree.of_bodySF pn hisR ?_
  intro p e s m args below meth c s₁ Bd hml0 hP hK
  obtain ⟨rfl, hZ, hh, hC⟩ := hP
  have e0 : s₁.heap = h0 := by rw [← hh, Bd.state]; rfl
  exact body p e s m below meth c s₁ ⟨⟨Bd.exec, hZ, findClass_of_methodNamed Bd.named, (name_of_methodNamed Bd.named Bd.method).1, Bd.bytes, hml0, Bd.returns, Bd.notSynchronized⟩, [], Stand.of_body Bd, Fr.nil n0, e0⟩ ⟨hh, hEL, ⟨0, (State.WarmedH.refl s).since 0, Nat.zero_le _⟩, CHr.refl hC⟩
theorem oW {EL : List (String × Nat)} {vm0 : Vm} {h0 : Heap} {kk nn : Nat} (X : OAt n0 Z y bytes maxL ret p l e R (s.setVm vm0) m args below meth c T h cells slots) (B : OB Z a0 EL s h0 vm0 h) (h1 : cells ≤ kk) (h2 : slots ≤ nn) :
    ∀ (t : State) (v : Option Value) (L : List Loc), t.heap = h → t.vm = T.vm → FrameEnd (s.setVm vm0) (.returned v) t L cells slots → (fun o t L => CHr Z EL s.vm s.heap t.vm t.heap ∧ ReturnedEndW s o t L kk nn) (.returned v) t L := by
  obtain ⟨⟨-, hZ, -⟩, locs, X, -⟩ := X
  obtain ⟨b1, b2, ⟨k0, b3, b4⟩, b5⟩ := B
  intro t v L e1 e2 q
  obtain ⟨q1, q2, q3⟩ := b3.ended q.2.1 (by rw [e1]; exact b4) q.2.2
  refine ⟨?_, q.1, q1, q2, q3.mono h1 h2⟩
  rw [e1, e2, b1]
  exact b5.trans (CHv.at X hZ b2 b5.1)
theorem OAt.ldcO {EL : List (String × Nat)} {vm0 : Vm} {h0 : Heap} (X : OAt n0 Z y bytes maxL ret p l e R (s.setVm vm0) m args below meth c T h cells slots) (B : OB Z a0 EL s h0 vm0 h) {index : Nat} {text : String} (w : (Jvm.Cond.stringLink y.cls index text).before a0 Z = true) (wS : ∀ a ∈ Bundle.stringAtoms, a.before a0 Z = true) (hg : g.method = m) (hd : decode bytes g.pc = .ok (.ldc index, 2)) {n : Nat} (hn : 4 * text.toList.length ≤ n) (hbig : n ≤ 536870912) (hc : cells + 2 ≤ R.cells) (hl : slots + (n + 4) ≤ R.slots)
    (k : ∀ a T' h' vm1, OAt n0 Z y bytes maxL ret p l e R (s.setVm vm1) m args below meth c T' h' (cells + 2) (slots + (n + 4)) → OB Z a0 EL s h0 vm1 h' → Ext h h' → (∀ x, x < h.size → Safe Z EL vm0 h x → Safe Z EL vm1 h' x) → OFin n0 p e FE below Q T' { g with pc := g.pc + 2, stack := .ref a :: g.stack }) : OFin n0 p e FE below Q T g := by
  obtain ⟨C, locs, X, N, eh⟩ := X
  obtain ⟨hx, hZ, hown, r⟩ := id C
  obtain ⟨b1, b2, ⟨k0, b3, b4⟩, b5⟩ := B
  obtain ⟨a, T', h', k1, X', e', E', hS', hk', hZ', hown', hC', hL', st⟩ := ldcOH X hx hZ hown w wS eh b3 b4 b2 b5.1 hg (hb r.2.1 hd) hn hbig hc hl
  exact OFin.run st (k a T' h' T'.vm ⟨⟨hx, hZ', hown', r⟩, locs, X', N, e'⟩ ⟨b1, b2, ⟨k1, hS', hk'⟩, b5.trans hC'⟩ E' (fun x q q' => hC'.safe q q'))
theorem OAt.ldcC {EL : List (String × Nat)} {vm0 : Vm} {h0 : Heap} (X : OAt n0 Z y bytes maxL ret p l e R (s.setVm vm0) m args below meth c T h cells slots) (B : OB Z a0 EL s h0 vm0 h) {index : Nat} {text : String} (w : (Jvm.Cond.stringLink y.cls index text).before a0 Z = true) (wS : ∀ a ∈ Bundle.stringAtoms, a.before a0 Z = true) (hmem : (y.cls, index) ∈ EL) {vs : List Value} {z : Int32} (ht : (∀ c ∈ text.toList, c.toNat < 256) ∧ text.toList.map (fun c => Value.int (Jvm.Lit.byteI c.toNat.toUInt16)) = vs) (hz : ¬ z < 0) (hzl : z.toNatClampNeg = vs.length)
    (hg : g.method = m) (hd : decode bytes g.pc = .ok (.ldc index, 2)) {n : Nat} (hn : 4 * text.toList.length ≤ n) (hbig : n ≤ 536870912) (hc : cells + 2 ≤ R.cells) (hl : slots + (n + 4) ≤ R.slots)
    (k : ∀ a b cA T' h' vm1, OAt n0 Z y bytes maxL ret p l e R (s.setVm vm1) m args below meth c T' h' (cells + 2) (slots + (n + 4)) → OB Z a0 EL s h0 vm1 h' → Ext h h' → (∀ x, x < h.size → Safe Z EL vm0 h x → Safe Z EL vm1 h' x) → Exa Z h' a "java/lang/String" → Fld Z h' a "java/lang/String" "coder" "B" (.int 0) → Fld Z h' a "java/lang/String" "value" "[B" (.ref b) → Arv Z h' b cA .byte z vs (.int 0) → (∀ x, Safe Z EL vm1 h' x → x ≠ a ∧ x ≠ b) → OFin n0 p e FE below Q T' { g with pc := g.pc + 2, stack := .ref a :: g.stack }) : OFin n0 p e FE below Q T g := by
  obtain ⟨C, locs, X, N, eh⟩ := X
  obtain ⟨hx, hZ, hown, r⟩ := id C
  obtain ⟨b1, b2, ⟨k0, b3, b4⟩, b5⟩ := B
  obtain ⟨a, T', h', k1, b, cA, X', e', E', hS', hk', hZ', hown', f1, f2, f3, f4, f5, f6, hC', hL', hN', st⟩ := ldcCH X hx hZ hown w wS eh b3 b4 b2 hmem b5.1 ht hz hzl hg (hb r.2.1 hd) hn hbig hc hl
  exact OFin.run st (k a b cA T' h' T'.vm ⟨⟨hx, hZ', hown', r⟩, locs, X', N, e'⟩ ⟨b1, b2, ⟨k1, hS', hk'⟩, b5.trans hC'⟩ E' (fun x q q' => hC'.safe q q') f1 f2 f3 f4 hN')
theorem OAt.callSW {EL : List (String × Nat)} {vm0 : Vm} {h0 : Heap} (X : OAt n0 Z y bytes maxL ret p l e R (s.setVm vm0) m args below meth c T h cells slots) (B : OB Z a0 EL s h0 vm0 h) {index : Nat} {y' : MethodName} {bytes' : ByteArray} {maxL' : Nat} {ret' : Option FieldType} (w1 : (Jvm.Cond.methodLink y.cls index y').before a0 Z = true) (w2 : (Jvm.Cond.static y').before a0 Z = true) (w3 : (Jvm.Cond.initialized y'.cls).before a0 Z = true) (w4 : (Jvm.Cond.code y' bytes' maxL' ret').before a0 Z = true)
    (hy : y'.cls ≠ "java/lang/invoke/MethodHandle" ∧ y'.cls ≠ "java/lang/invoke/VarHandle") {rm : Room} {Qc : Option Value → Heap → Prop} {argsL rest : List Value} (hM : OMeetsW l Z EL y' [] bytes' maxL' ret' rm argsL.toArray h n0 Qc)
    (hg : g.method = m) (hsize : g.locals.size = maxL) {ps : List FieldType} {r : Option FieldType} (hpd : parseMethodDescriptor y'.desc = some ⟨ps, r⟩) (hlen : argsL.length = ps.length) (hs : g.stack = argsL.reverse ++ rest) {W : Nat} (hW : 2 * g.monitorRoom + (rest.map fun v => v.category).sum ≤ W) (hd : decode bytes g.pc = .ok (.invokestatic index, 3))
    (hf : rm.frames + 1 ≤ R.frames) (hl : W + (maxL' + 11) + rm.locals ≤ R.locals) (hc : cells + rm.cells ≤ R.cells) (hn : slots + rm.slots ≤ R.slots)
    (k : ∀ v T' h' vm1, OAt n0 Z y bytes maxL ret p l e R (s.setVm vm1) m args below meth c T' h' (cells + rm.cells) (slots + rm.slots) → OB Z a0 EL s h0 vm1 h' → h.size ≤ h'.size → (∀ x, x < h.size → Safe Z EL vm0 h x → Safe Z EL vm1 h' x) → Qc v h' → OFin n0 p e FE below Q T' { g with pc := g.pc + 3, stack := v.toList ++ rest }) : OFin n0 p e FE below Q T g := by
  obtain ⟨C, locs, X, N, eh⟩ := X
  obtain ⟨hx, hZ, hown, hnm, hby, hml, r'⟩ := id C
  obtain ⟨b1, b2, ⟨k0, b3, b4⟩, b5⟩ := B
  obtain ⟨v, _, ⟨T1, L1, c1, n1⟩, -, X1, hS1, hg1, ⟨Lc, hQ, l1, y1, z1, hC⟩, st⟩ := callSS X hx hown (mvT hZ w1) (mvT hZ w2) (mvT hZ w3) (mvT hZ w4) hy
    (backOfSH (W := W) (Q := fun v h L => Qc v h ∧ Fr n0 L) hM hZ w4 w3 hf hl b2 b5.1) hg (hsize.trans hml.symm) (lenOf hpd hlen) hs hW (hb hby hd) (fun _ _ => ⟨rfl, eh, hc, hn⟩)
  dsimp only [Pt.U, Pt.locs, Pt.cells, Pt.slots] at X1 l1 y1 z1 st hQ hS1 hg1 hC
  subst l1 y1 z1
  rw [eh] at hg1
  have hS2 := b3.trans hS1 (Nat.le_trans b4 hg1)
  exact OFin.run (fun t k => st.trans k) (k v T1 _ T1.vm ⟨⟨hx, State.Warmed39.trans (t := s.setVm vm0) hZ hS1.1, (hS1.1.alike.findClass _ _).trans hown, hnm, hby, hml, r'⟩, _, X1, N.app hQ.2, rfl⟩ ⟨b1, b2, ⟨_, hS2, Nat.le_refl _⟩, b5.trans hC⟩ hg1 (fun x q q' => hC.safe q q') hQ.1)
theorem OAt.callIW {EL : List (String × Nat)} {vm0 : Vm} {h0 : Heap} (X : OAt n0 Z y bytes maxL ret p l e R (s.setVm vm0) m args below meth c T h cells slots) (B : OB Z a0 EL s h0 vm0 h) {index : Nat} {y' : MethodName} {bytes' : ByteArray} {maxL' : Nat} (hy1 : y'.name = "<init>") (w1 : (Jvm.Cond.methodLink y.cls index y').before a0 Z = true) (w2 : (Jvm.Cond.instanceMethod y').before a0 Z = true) (w3 : (Jvm.Cond.initialized y'.cls).before a0 Z = true) (w4 : (Jvm.Cond.code y' bytes' maxL' none).before a0 Z = true)
    (hy : y'.cls ≠ "java/lang/invoke/MethodHandle" ∧ y'.cls ≠ "java/lang/invoke/VarHandle") {rm : Room} {Qc : Option Value → Heap → Prop} {a : Addr} {argsL rest : List Value} (hM : OMeetsW l Z EL y' [] bytes' maxL' none rm (Value.ref a :: argsL).toArray h n0 Qc)
    (hg : g.method = m) (hsize : g.locals.size = maxL) {ps : List FieldType} {r : Option FieldType} (hpd : parseMethodDescriptor y'.desc = some ⟨ps, r⟩) (hlen : argsL.length = ps.length) (hs : g.stack = argsL.reverse ++ .ref a :: rest) {W : Nat} (hW : 2 * g.monitorRoom + (rest.map fun v => v.category).sum ≤ W) (hd : decode bytes g.pc = .ok (.invokespecial index, 3))
    (hf : rm.frames + 1 ≤ R.frames) (hl : W + (maxL' + 11) + rm.locals ≤ R.locals) (hc : cells + rm.cells ≤ R.cells) (hn : slots + rm.slots ≤ R.slots)
    (k : ∀ v T' h' vm1, OAt n0 Z y bytes maxL ret p l e R (s.setVm vm1) m args below meth c T' h' (cells + rm.cells) (slots + rm.slots) → OB Z a0 EL s h0 vm1 h' → h.size ≤ h'.size → (∀ x, x < h.size → Safe Z EL vm0 h x → Safe Z EL vm1 h' x) → Qc v h' → OFin n0 p e FE below Q T' { g with pc := g.pc + 3, stack := v.toList ++ rest }) : OFin n0 p e FE below Q T g := by
  obtain ⟨C, locs, X, N, eh⟩ := X
  obtain ⟨hx, hZ, hown, hnm, hby, hml, r'⟩ := id C
  obtain ⟨b1, b2, ⟨k0, b3, b4⟩, b5⟩ := B
  obtain ⟨v, _, ⟨T1, L1, c1, n1⟩, -, X1, hS1, hg1, ⟨Lc, hQ, l1, y1, z1, hC⟩, st⟩ := X.specialBackS hx hy1 hown (mvT hZ w1) (mvT hZ w2) (mvT hZ w4) hy
    (backOfSH (W := W) (Q := fun v h L => Qc v h ∧ Fr n0 L) hM hZ w4 w3 hf hl b2 b5.1) hg (hsize.trans hml.symm) (Steps.refl _) (lenOf hpd hlen) hs hW (hb hby hd) (fun _ _ => ⟨rfl, eh, hc, hn⟩)
  dsimp only [Pt.U, Pt.locs, Pt.cells, Pt.slots] at X1 l1 y1 z1 st hQ hS1 hg1 hC
  subst l1 y1 z1
  rw [eh] at hg1
  have hS2 := b3.trans hS1 (Nat.le_trans b4 hg1)
  exact OFin.run (fun t k => st.trans k) (k v T1 _ T1.vm ⟨⟨hx, State.Warmed39.trans (t := s.setVm vm0) hZ hS1.1, (hS1.1.alike.findClass _ _).trans hown, hnm, hby, hml, r'⟩, _, X1, N.app hQ.2, rfl⟩ ⟨b1, b2, ⟨_, hS2, Nat.le_refl _⟩, b5.trans hC⟩ hg1 (fun x q q' => hC.safe q q') hQ.1)
theorem OAt.callVW {EL : List (String × Nat)} {vm0 : Vm} {h0 : Heap} (X : OAt n0 Z y bytes maxL ret p l e R (s.setVm vm0) m args below meth c T h cells slots) (B : OB Z a0 EL s h0 vm0 h) {index : Nat} {y' z' : MethodName} {C0 : String} {bytes' : ByteArray} {maxL' : Nat} {ret' : Option FieldType} (w1 : (Jvm.Cond.methodLink y.cls index y').before a0 Z = true) (w2 : (Jvm.Cond.declares y').before a0 Z = true) (nf : NotFace (s.setVm vm0) y') (w5 : (Jvm.Cond.selects C0 y' z').before a0 Z = true) (w6 : (Jvm.Cond.instanceMethod z').before a0 Z = true) (w3 : (Jvm.Cond.initialized z'.cls).before a0 Z = true) (w4 : (Jvm.Cond.code z' bytes' maxL' ret').before a0 Z = true)
    (hy : y'.cls ≠ "java/lang/invoke/MethodHandle" ∧ y'.cls ≠ "java/lang/invoke/VarHandle") {rm : Room} {Qc : Option Value → Heap → Prop} {a : Addr} (E' : Exa Z h a C0) {argsL rest : List Value} (hM : OMeetsW l Z EL z' [] bytes' maxL' ret' rm (Value.ref a :: argsL).toArray h n0 Qc)
    (hg : g.method = m) (hsize : g.locals.size = maxL) {ps : List FieldType} {r : Option FieldType} (hpd : parseMethodDescriptor y'.desc = some ⟨ps, r⟩) (hlen : argsL.length = ps.length) (hs : g.stack = argsL.reverse ++ .ref a :: rest) {W : Nat} (hW : 2 * g.monitorRoom + (rest.map fun v => v.category).sum ≤ W) (hd : decode bytes g.pc = .ok (.invokevirtual index, 3))
    (hf : rm.frames + 1 ≤ R.frames) (hl : W + (maxL' + 11) + rm.locals ≤ R.locals) (hc : cells + rm.cells ≤ R.cells) (hn : slots + rm.slots ≤ R.slots)
    (k : ∀ v T' h' vm1, OAt n0 Z y bytes maxL ret p l e R (s.setVm vm1) m args below meth c T' h' (cells + rm.cells) (slots + rm.slots) → OB Z a0 EL s h0 vm1 h' → h.size ≤ h'.size → (∀ x, x < h.size → Safe Z EL vm0 h x → Safe Z EL vm1 h' x) → Qc v h' → OFin n0 p e FE below Q T' { g with pc := g.pc + 3, stack := v.toList ++ rest }) : OFin n0 p e FE below Q T g := by
  obtain ⟨C, locs, X, N, eh⟩ := X
  obtain ⟨hx, hZ, hown, hnm, hby, hml, r'⟩ := id C
  obtain ⟨b1, b2, ⟨k0, b3, b4⟩, b5⟩ := B
  obtain ⟨cq, kq, qa, qb, qc⟩ := isOf hZ eh E'
  obtain ⟨v, _, ⟨T1, L1, c1, n1⟩, -, X1, hS1, hg1, ⟨Lc, hQ, l1, y1, z1, hC⟩, st⟩ := X.virtualBackS hx hown (mvT hZ w1) (mvT hZ w2) nf (mvT hZ w5) (mvT hZ w6) hy
    (backOfSH (W := W) (Q := fun v h L => Qc v h ∧ Fr n0 L) hM hZ w4 w3 hf hl b2 b5.1) qa qc hg (hsize.trans hml.symm) (Steps.refl _) (lenOf hpd hlen) hs hW (hb hby hd) (fun _ _ => ⟨rfl, eh, hc, hn⟩)
  dsimp only [Pt.U, Pt.locs, Pt.cells, Pt.slots] at X1 l1 y1 z1 st hQ hS1 hg1 hC
  subst l1 y1 z1
  rw [eh] at hg1
  have hS2 := b3.trans hS1 (Nat.le_trans b4 hg1)
  exact OFin.run (fun t k => st.trans k) (k v T1 _ T1.vm ⟨⟨hx, State.Warmed39.trans (t := s.setVm vm0) hZ hS1.1, (hS1.1.alike.findClass _ _).trans hown, hnm, hby, hml, r'⟩, _, X1, N.app hQ.2, rfl⟩ ⟨b1, b2, ⟨_, hS2, Nat.le_refl _⟩, b5.trans hC⟩ hg1 (fun x q q' => hC.safe q q') hQ.1)
theorem OAt.more {k2 n2 : Nat} (X : OAt n0 Z y bytes maxL ret p l e R s m args below meth c T h cells slots) (h1 : cells ≤ k2) (h2 : slots ≤ n2) : OAt n0 Z y bytes maxL ret p l e R s m args below meth c T h k2 n2 := by
  obtain ⟨C, locs, X, r⟩ := X
  exact ⟨C, locs, X.more h1 h2, r⟩
theorem o_static {C n d K : String} (hx : (Jvm.Cond.exactly (.static C n d) K).value args Z none Z [] = some true) (wi : (Jvm.Cond.initialized C).before args Z = true) (wl : (Jvm.Cond.laysStatic C n d).before args Z = true) :
    ∃ a, (Term.static C n d).eval args Z none [] Z = some (.ref a) ∧ Exa Z Z.heap a K ∧ Sta Z Z.heap C n d (.ref a) := by
  obtain ⟨a, ev⟩ := exa_v hx
  exact ⟨a, ev, Exa.start ev hx, Sta.start ev (Or.inr ⟨wi, wl⟩)⟩
theorem o_fieldI {t : Term} {O f dd : String} {k : Int32} {a : Addr} (ev : t.eval args Z none [] Z = some (.ref a)) (hq : (Jvm.Cond.eq (.field t O f dd) (.int k)).value args Z none Z [] = some true) : Fld Z Z.heap a O f dd (.int k) := by
  refine Fld.start ?_
  rw [← fld_at (C := O) (n := f) (dd := dd) ev]
  obtain ⟨u, v, h1, h2, h3, h4⟩ := cmp_v (Or.inl hq)
  have h5 : v = .int k := (Option.some.inj h2).symm
  subst h5
  obtain ⟨z, rfl⟩ := h4
  have := gotT (Cond.eq_ints h1 h2) hq
  rw [h1, this]
end Own
def own_EL : List (String × Nat) := []
theorem own_wS {Z : State} {a0 : Array Value} (hw : ∀ d ∈ tables_1, d.before a0 Z = true) : ∀ a ∈ Bundle.stringAtoms, a.before a0 Z = true := fun a ha => hw a ((show ∀ a ∈ Bundle.stringAtoms, a ∈ tables_1 by decide +kernel) a ha)
theorem own_EW {Z : State} {a0 : Array Value} (hw : ∀ d ∈ tables_1, d.before a0 Z = true) : EW Z a0 own_EL := EW.nil
theorem own_i (k : Nat) (hk : k < 2 ^ 31) : (Int32.ofNat k).toInt = k := Int32.toInt_ofNat_of_lt (by omega)
theorem own_iN (k : Nat) (hk : k < 2 ^ 31) : (Int32.ofNat k).toNatClampNeg = k := by show (Int32.ofNat k).toInt.toNat = k; rw [own_i k hk]; rfl
theorem own_add32 (k t : Nat) (h : k + t < 2 ^ 31) : Int32.ofNat k + Int32.ofNat t = Int32.ofNat (k + t) := by
  apply Int32.toInt_inj.mp
  have h1 := c_iadd (Int32.ofNat k) (Int32.ofNat t)
  have r := rng32 (Int32.ofNat k + Int32.ofNat t)
  rw [own_i k (by omega), own_i t (by omega)] at h1
  rw [own_i _ h]
  omega
theorem own_lt32 (a b : Nat) (ha : a < 2 ^ 31) (hb : b < 2 ^ 31) : Int32.ofNat a < Int32.ofNat b ↔ a < b := by
  rw [Int32.lt_iff_toInt_lt, own_i a ha, own_i b hb]; omega
theorem own_eq32 (a b : Nat) (ha : a < 2 ^ 31) (hb : b < 2 ^ 31) : Int32.ofNat a = Int32.ofNat b ↔ a = b := by
  constructor
  · intro h; have := congrArg Int32.toInt h; rw [own_i a ha, own_i b hb] at this; omega
  · rintro rfl; rfl
theorem own_succ (i : Nat) (h : i + 1 < 2 ^ 31) : Int32.ofNat i + (1 : Int32) = Int32.ofNat (i + 1) := own_add32 i 1 h
theorem own_inN {N k : Nat} {cl : Cell} (S : cl.slots.size = N) (hk : k < N) (hN : N ≤ 8192) : ¬ (Int32.ofNat k < 0 ∨ cl.slots.size ≤ (Int32.ofNat k).toNatClampNeg) := o_in S (by rw [own_i k (by omega)]; omega) (by rw [own_i k (by omega)]; omega)
theorem own_bb (x : Int32) : nar .byte x.toInt8.toInt32 = x.toInt8.toInt32 := by
  show x.toInt8.toInt32.toInt8.toInt32 = x.toInt8.toInt32
  rw [Int8.toInt8_toInt32]
theorem own_cc (x : Int32) (h0 : 0 ≤ x.toInt) (h1 : x.toInt ≤ 65535) : x.toUInt32.toUInt16.toUInt32.toInt32 = x := by
  have q := c_i2c x
  apply Int32.toInt_inj.mp
  omega
theorem own_narC (x : Int32) (h0 : 0 ≤ x.toInt) (h1 : x.toInt ≤ 65535) : nar .char x = x := own_cc x h0 h1
theorem own_chr (x : Int32) (h0 : 0 ≤ x.toInt) (h1 : x.toInt ≤ 255) : nar .char ((x.toInt8.toInt32 &&& (255 : Int32)).toUInt32.toUInt16.toUInt32.toInt32) = x := by
  have e : x.toInt8.toInt32 &&& (255 : Int32) = x := by
    apply Int32.toInt_inj.mp
    rw [c_mask _ _ 8 (by decide) (by decide)]
    have q := (c_i2b x).1
    have : ((2 ^ 8 : Nat) : Int) = 256 := by decide
    omega
  rw [e, own_cc x h0 (by omega)]
  exact own_narC x h0 (by omega)
theorem own_sh0 (x : Int32) : x >>> ((0 : Int32) &&& 31) = x := by
  apply Int32.toInt_inj.mp
  rw [c_ishr x 0 0 (by decide)]
  simp
theorem own_sub0 (x : Int32) : (((x - x).toUInt32 >>> ((31 : Int32) &&& 31).toUInt32).toInt32).toInt8.toInt32 = 0 := by
  rw [Int32.sub_self]
  decide
theorem own_s6i {v0 v1 v2 v3 v4 v5 : Value} {s6 : Slot} {x : Int32} (h : One s6) : storeLocals #[.val v0, .val v1, .val v2, .val v3, .val v4, .val v5, s6] 6 (.int x) = some #[.val v0, .val v1, .val v2, .val v3, .val v4, .val v5, .val (.int x)] := by
  rcases h with rfl | ⟨w, rfl, hw⟩
  · rfl
  · cases w <;> first | rfl | (simp [Value.category] at hw)
theorem own_s2i {v0 v1 : Value} {s2 : Slot} {x : Int32} (h : One s2) : storeLocals #[.val v0, .val v1, s2] 2 (.int x) = some #[.val v0, .val v1, .val (.int x)] := by
  rcases h with rfl | ⟨w, rfl, hw⟩
  · rfl
  · cases w <;> first | rfl | (simp [Value.category] at hw)
/-- a String of N chars f 0, f 1, .., each at most 255 -/
def OStr (Z : State) (h : Heap) (a t : Addr) (N : Nat) (f : Nat → Int32) : Prop := Exa Z h a "java/lang/String" ∧ Fld Z h a "java/lang/String" "coder" "B" (.int 0) ∧ Fld Z h a "java/lang/String" "value" "[B" (.ref t) ∧ OArr Z h t .byte N (fun j => .int (f j).toInt8.toInt32)
theorem OStr.ext {Z : State} {h h' : Heap} {a t : Addr} {N : Nat} {f : Nat → Int32} (S : OStr Z h a t N f) (E : Ext h h') : OStr Z h' a t N f := ⟨S.1.ext E, S.2.1.ext E, S.2.2.1.ext E, S.2.2.2.ext E⟩
theorem OStr.keep {Z : State} {h h' : Heap} {a t : Addr} {N : Nat} {f : Nat → Int32} {ws : List Addr} (S : OStr Z h a t N f) (K : Keep h h' ws) (q1 : a ∉ ws) (q2 : t ∉ ws) : OStr Z h' a t N f := ⟨S.1.keep K, S.2.1.keep K q1, S.2.2.1.keep K q1, S.2.2.2.keep K q2⟩
theorem OStr.wr {Z : State} {h h' : Heap} {a t b : Addr} {N sl : Nat} {v : Value} {f : Nat → Int32} (S : OStr Z h a t N f) (W : Wr h h' b sl v) (q1 : a ≠ b) (q2 : t ≠ b) : OStr Z h' a t N f := ⟨S.1.wr W, S.2.1.other W (Or.inl q1), S.2.2.1.other W (Or.inl q1), S.2.2.2.other W q2⟩
theorem pn_java_lang_StringUTF16 : plainName "java/lang/StringUTF16" = true := by first | (simp [plainName, overriddenIn]; done) | decide +kernel
theorem d5_3 : decode jdk_52_method_21_code 3 = .ok (.iload 5, 2) := by decide +kernel
theorem d5_5 : decode jdk_52_method_21_code 5 = .ok (.iload 4, 2) := by decide +kernel
theorem d5_7 : decode jdk_52_method_21_code 7 = .ok (.if_icmp .ge 37, 3) := by decide +kernel
theorem d5_44 : decode jdk_52_method_21_code 44 = .ok (.iload 4, 2) := by decide +kernel
theorem d5_46 : decode jdk_52_method_21_code 46 = .ok (.ireturn, 1) := by decide +kernel
theorem d5_10 : decode jdk_52_method_21_code 10 = .ok (.aload_n 0, 1) := by decide +kernel
theorem d5_11 : decode jdk_52_method_21_code 11 = .ok (.iload_n 1, 1) := by decide +kernel
theorem d5_12 : decode jdk_52_method_21_code 12 = .ok (.caload, 1) := by decide +kernel
theorem d5_13 : decode jdk_52_method_21_code 13 = .ok (.istore 6, 2) := by decide +kernel
theorem d5_15 : decode jdk_52_method_21_code 15 = .ok (.iload 6, 2) := by decide +kernel
theorem d5_17 : decode jdk_52_method_21_code 17 = .ok (.sipush 255, 3) := by decide +kernel
theorem d5_20 : decode jdk_52_method_21_code 20 = .ok (.if_icmp .le 6, 3) := by decide +kernel
theorem d5_26 : decode jdk_52_method_21_code 26 = .ok (.aload_n 2, 1) := by decide +kernel
theorem d5_27 : decode jdk_52_method_21_code 27 = .ok (.iload_n 3, 1) := by decide +kernel
theorem d5_28 : decode jdk_52_method_21_code 28 = .ok (.iload 6, 2) := by decide +kernel
theorem d5_30 : decode jdk_52_method_21_code 30 = .ok (.i2b, 1) := by decide +kernel
theorem d5_31 : decode jdk_52_method_21_code 31 = .ok (.bastore, 1) := by decide +kernel
theorem d5_32 : decode jdk_52_method_21_code 32 = .ok (.iinc 1 1, 3) := by decide +kernel
theorem d5_35 : decode jdk_52_method_21_code 35 = .ok (.iinc 3 1, 3) := by decide +kernel
theorem d5_38 : decode jdk_52_method_21_code 38 = .ok (.iinc 5 1, 3) := by decide +kernel
theorem d5_41 : decode jdk_52_method_21_code 41 = .ok (.goto (-38), 3) := by decide +kernel
theorem d5_0 : decode jdk_52_method_21_code 0 = .ok (.iconst 0, 1) := by decide +kernel
theorem d5_1 : decode jdk_52_method_21_code 1 = .ok (.istore 5, 2) := by decide +kernel
set_option maxRecDepth 65536 in
set_option maxHeartbeats 40000000 in
theorem sm1 (l : Launch) (Z : State) (a0 : Array Value) (hw : ∀ d ∈ tables_1, d.before a0 Z = true) (ca ba : Addr) (N : Nat) (f : Nat → Int32) (h0 : Heap) (n0 : Nat) (FC : OArr Z h0 ca .char N (fun j => .int (f j))) (FB : OArr Z h0 ba .byte N (fun _ => .int 0)) (hN : N ≤ 4000) (hch : ∀ j, j < N → 0 ≤ (f j).toInt ∧ (f j).toInt ≤ 255) (hnew : n0 ≤ ba) (ne : ca ≠ ba) :
    OMeets l Z (⟨"java/lang/StringUTF16", "compress", "([CI[BII)I"⟩ : MethodName) [] jdk_52_method_21_code 7 (some .int) ({ frames := 0, cells := 0, slots := 0, locals := 0 } : Room) #[(.ref ca), (.int (0 : Int32)), (.ref ba), (.int (0 : Int32)), (.int (Int32.ofNat N))] h0 n0 (fun v h => v = some (.int (Int32.ofNat N)) ∧ Keep h0 h [ba] ∧ OArr Z h ba .byte N (fun j => .int (f j).toInt8.toInt32)) := by
  refine o_enter (Z := Z) (plainFor_of_name pn_java_lang_StringUTF16) ?_
  intro p e s m below meth c T0 X0
  refine OFin.cast (g' := (mkF m 0 #[.val (.ref ca), .val (.int (0 : Int32)), .val (.ref ba), .val (.int (0 : Int32)), .val (.int (Int32.ofNat N)), .unset, .unset] [])) (by first | (simp [entryFrame, mkF, argsToLocals, Value.category]; done) | rfl) ?_
  have loop : ∀ (k i : Nat) (T : State) (h : Heap) (s6 : Slot), i + k = N → One s6 → OAt n0 Z (⟨"java/lang/StringUTF16", "compress", "([CI[BII)I"⟩ : MethodName) jdk_52_method_21_code 7 (some .int) p l e ({ frames := 0, cells := 0, slots := 0, locals := 0 } : Room) s m #[(.ref ca), (.int (0 : Int32)), (.ref ba), (.int (0 : Int32)), (.int (Int32.ofNat N))] below meth c T h 0 0 → OArr Z h ca .char N (fun j => .int (f j)) → OArr Z h ba .byte N (fun j => if j < i then .int (f j).toInt8.toInt32 else .int 0) → Keep h0 h [ba] → OFin n0 p e (fun o t L => FrameEnd s o t L ({ frames := 0, cells := 0, slots := 0, locals := 0 } : Room).cells ({ frames := 0, cells := 0, slots := 0, locals := 0 } : Room).slots) below (fun v h => v = some (.int (Int32.ofNat N)) ∧ Keep h0 h [ba] ∧ OArr Z h ba .byte N (fun j => .int (f j).toInt8.toInt32)) T (mkF m 3 #[.val (.ref ca), .val (.int (Int32.ofNat i)), .val (.ref ba), .val (.int (Int32.ofNat i)), .val (.int (Int32.ofNat N)), .val (.int (Int32.ofNat i)), s6] []) := by
    intro k
    induction k with
    | zero =>
      intro i T h s6 hik h6 X FC FB K
      have hiN : i = N := by omega
      refine X.step (fun hA hx hq t_ k_ => XS.iload hA hx rfl (hb hq d5_3) rfl k_) ?_
      show OFin _ _ _ _ _ _ T (mkF m 5 #[.val (.ref ca), .val (.int (Int32.ofNat i)), .val (.ref ba), .val (.int (Int32.ofNat i)), .val (.int (Int32.ofNat N)), .val (.int (Int32.ofNat i)), s6] [(.int (Int32.ofNat i))])
      refine X.step (fun hA hx hq t_ k_ => XS.iload hA hx rfl (hb hq d5_5) rfl k_) ?_
      show OFin _ _ _ _ _ _ T (mkF m 7 #[.val (.ref ca), .val (.int (Int32.ofNat i)), .val (.ref ba), .val (.int (Int32.ofNat i)), .val (.int (Int32.ofNat N)), .val (.int (Int32.ofNat i)), s6] [(.int (Int32.ofNat N)), (.int (Int32.ofNat i))])
      refine X.step (fun hA hx hq t_ k_ => XS.icmpYes hA hx rfl (pc0 := 7) (pc' := 44) rfl (hb hq d5_7) rfl (flt (fun c => by rw [own_lt32 i N (by omega) (by omega)] at c; omega)).2.1 (by decide) (by decide) k_) ?_
      show OFin _ _ _ _ _ _ T (mkF m 44 #[.val (.ref ca), .val (.int (Int32.ofNat i)), .val (.ref ba), .val (.int (Int32.ofNat i)), .val (.int (Int32.ofNat N)), .val (.int (Int32.ofNat i)), s6] [])
      refine X.step (fun hA hx hq t_ k_ => XS.iload hA hx rfl (hb hq d5_44) rfl k_) ?_
      show OFin _ _ _ _ _ _ T (mkF m 46 #[.val (.ref ca), .val (.int (Int32.ofNat i)), .val (.ref ba), .val (.int (Int32.ofNat i)), .val (.int (Int32.ofNat N)), .val (.int (Int32.ofNat i)), s6] [(.int (Int32.ofNat N))])
      exact X.retI d5_46 (oN (by decide) (by decide)) (⟨rfl, K, FB.congr fun j hj => if_pos (by omega)⟩)
    | succ k ih =>
      intro i T h s6 hik h6 X FC FB K
      have hlt : i < N := by omega
      obtain ⟨cc, Ac, Sc, Hc⟩ := id FC
      obtain ⟨cb, Ab, Sb, Hb⟩ := id FB
      have hi := hch i hlt
      refine X.step (fun hA hx hq t_ k_ => XS.iload hA hx rfl (hb hq d5_3) rfl k_) ?_
      show OFin _ _ _ _ _ _ T (mkF m 5 #[.val (.ref ca), .val (.int (Int32.ofNat i)), .val (.ref ba), .val (.int (Int32.ofNat i)), .val (.int (Int32.ofNat N)), .val (.int (Int32.ofNat i)), s6] [(.int (Int32.ofNat i))])
      refine X.step (fun hA hx hq t_ k_ => XS.iload hA hx rfl (hb hq d5_5) rfl k_) ?_
      show OFin _ _ _ _ _ _ T (mkF m 7 #[.val (.ref ca), .val (.int (Int32.ofNat i)), .val (.ref ba), .val (.int (Int32.ofNat i)), .val (.int (Int32.ofNat N)), .val (.int (Int32.ofNat i)), s6] [(.int (Int32.ofNat N)), (.int (Int32.ofNat i))])
      refine X.step (fun hA hx hq t_ k_ => XS.icmpNo hA hx rfl (hb hq d5_7) rfl (tlt ((own_lt32 i N (by omega) (by omega)).mpr hlt)).2.1 k_) ?_
      show OFin _ _ _ _ _ _ T (mkF m 10 #[.val (.ref ca), .val (.int (Int32.ofNat i)), .val (.ref ba), .val (.int (Int32.ofNat i)), .val (.int (Int32.ofNat N)), .val (.int (Int32.ofNat i)), s6] [])
      refine X.step (fun hA hx hq t_ k_ => XS.aloadN hA hx rfl (hb hq d5_10) rfl rfl k_) ?_
      show OFin _ _ _ _ _ _ T (mkF m 11 #[.val (.ref ca), .val (.int (Int32.ofNat i)), .val (.ref ba), .val (.int (Int32.ofNat i)), .val (.int (Int32.ofNat N)), .val (.int (Int32.ofNat i)), s6] [(.ref ca)])
      refine X.step (fun hA hx hq t_ k_ => XS.iloadN hA hx rfl (hb hq d5_11) rfl k_) ?_
      show OFin _ _ _ _ _ _ T (mkF m 12 #[.val (.ref ca), .val (.int (Int32.ofNat i)), .val (.ref ba), .val (.int (Int32.ofNat i)), .val (.int (Int32.ofNat N)), .val (.int (Int32.ofNat i)), s6] [(.int (Int32.ofNat i)), (.ref ca)])
      refine X.aload0 Ac (v := (.int (f i))) (own_inN Sc hlt (by omega)) (by rw [own_iN i (by omega)]; exact Hc i hlt) (g := (mkF m 12 #[.val (.ref ca), .val (.int (Int32.ofNat i)), .val (.ref ba), .val (.int (Int32.ofNat i)), .val (.int (Int32.ofNat N)), .val (.int (Int32.ofNat i)), s6] [(.int (Int32.ofNat i)), (.ref ca)])) rfl rfl (Or.inr (Or.inr (Or.inl ⟨rfl, rfl⟩))) d5_12 ?_
      show OFin _ _ _ _ _ _ T (mkF m 13 #[.val (.ref ca), .val (.int (Int32.ofNat i)), .val (.ref ba), .val (.int (Int32.ofNat i)), .val (.int (Int32.ofNat N)), .val (.int (Int32.ofNat i)), s6] [(.int (f i))])
      refine X.step (fun hA hx hq t_ k_ => XS.istore hA hx rfl (hb hq d5_13) rfl (l' := #[.val (.ref ca), .val (.int (Int32.ofNat i)), .val (.ref ba), .val (.int (Int32.ofNat i)), .val (.int (Int32.ofNat N)), .val (.int (Int32.ofNat i)), .val (.int (f i))]) (own_s6i h6) k_) ?_
      show OFin _ _ _ _ _ _ T (mkF m 15 #[.val (.ref ca), .val (.int (Int32.ofNat i)), .val (.ref ba), .val (.int (Int32.ofNat i)), .val (.int (Int32.ofNat N)), .val (.int (Int32.ofNat i)), .val (.int (f i))] [])
      refine X.step (fun hA hx hq t_ k_ => XS.iload hA hx rfl (hb hq d5_15) rfl k_) ?_
      show OFin _ _ _ _ _ _ T (mkF m 17 #[.val (.ref ca), .val (.int (Int32.ofNat i)), .val (.ref ba), .val (.int (Int32.ofNat i)), .val (.int (Int32.ofNat N)), .val (.int (Int32.ofNat i)), .val (.int (f i))] [(.int (f i))])
      refine X.step (fun hA hx hq t_ k_ => XS.sipush hA hx rfl (hb hq d5_17) k_) ?_
      show OFin _ _ _ _ _ _ T (mkF m 20 #[.val (.ref ca), .val (.int (Int32.ofNat i)), .val (.ref ba), .val (.int (Int32.ofNat i)), .val (.int (Int32.ofNat N)), .val (.int (Int32.ofNat i)), .val (.int (f i))] [(.int (255 : Int32)), (.int (f i))])
      refine X.step (fun hA hx hq t_ k_ => XS.icmpYes hA hx rfl (pc0 := 20) (pc' := 26) rfl (hb hq d5_20) rfl (flt ((by rw [Int32.lt_iff_toInt_lt]; have : (255 : Int32).toInt = 255 := (by decide); omega))).2.2.2 (by decide) (by decide) k_) ?_
      show OFin _ _ _ _ _ _ T (mkF m 26 #[.val (.ref ca), .val (.int (Int32.ofNat i)), .val (.ref ba), .val (.int (Int32.ofNat i)), .val (.int (Int32.ofNat N)), .val (.int (Int32.ofNat i)), .val (.int (f i))] [])
      refine X.step (fun hA hx hq t_ k_ => XS.aloadN hA hx rfl (hb hq d5_26) rfl rfl k_) ?_
      show OFin _ _ _ _ _ _ T (mkF m 27 #[.val (.ref ca), .val (.int (Int32.ofNat i)), .val (.ref ba), .val (.int (Int32.ofNat i)), .val (.int (Int32.ofNat N)), .val (.int (Int32.ofNat i)), .val (.int (f i))] [(.ref ba)])
      refine X.step (fun hA hx hq t_ k_ => XS.iloadN hA hx rfl (hb hq d5_27) rfl k_) ?_
      show OFin _ _ _ _ _ _ T (mkF m 28 #[.val (.ref ca), .val (.int (Int32.ofNat i)), .val (.ref ba), .val (.int (Int32.ofNat i)), .val (.int (Int32.ofNat N)), .val (.int (Int32.ofNat i)), .val (.int (f i))] [(.int (Int32.ofNat i)), (.ref ba)])
      refine X.step (fun hA hx hq t_ k_ => XS.iload hA hx rfl (hb hq d5_28) rfl k_) ?_
      show OFin _ _ _ _ _ _ T (mkF m 30 #[.val (.ref ca), .val (.int (Int32.ofNat i)), .val (.ref ba), .val (.int (Int32.ofNat i)), .val (.int (Int32.ofNat N)), .val (.int (Int32.ofNat i)), .val (.int (f i))] [(.int (f i)), (.int (Int32.ofNat i)), (.ref ba)])
      refine X.step (fun hA hx hq t_ k_ => XS.i2b hA hx rfl (hb hq d5_30) rfl k_) ?_
      show OFin _ _ _ _ _ _ T (mkF m 31 #[.val (.ref ca), .val (.int (Int32.ofNat i)), .val (.ref ba), .val (.int (Int32.ofNat i)), .val (.int (Int32.ofNat N)), .val (.int (Int32.ofNat i)), .val (.int (f i))] [(.int ((f i).toInt8.toInt32)), (.int (Int32.ofNat i)), (.ref ba)])
      refine X.stB Ab (own_inN Sb hlt (by omega)) (hnew) (g := (mkF m 31 #[.val (.ref ca), .val (.int (Int32.ofNat i)), .val (.ref ba), .val (.int (Int32.ofNat i)), .val (.int (Int32.ofNat N)), .val (.int (Int32.ofNat i)), .val (.int (f i))] [(.int ((f i).toInt8.toInt32)), (.int (Int32.ofNat i)), (.ref ba)])) rfl rfl d5_31 ?_
      intro T1 h1 X1 W1
      show OFin _ _ _ _ _ _ T1 (mkF m 32 #[.val (.ref ca), .val (.int (Int32.ofNat i)), .val (.ref ba), .val (.int (Int32.ofNat i)), .val (.int (Int32.ofNat N)), .val (.int (Int32.ofNat i)), .val (.int (f i))] [])
      rw [own_iN i (by omega), own_bb] at W1
      refine X1.step (fun hA hx hq t_ k_ => XS.iinc hA hx rfl (hb hq d5_32) rfl (l' := #[.val (.ref ca), .val (.int ((Int32.ofNat i) + (1 : Int32))), .val (.ref ba), .val (.int (Int32.ofNat i)), .val (.int (Int32.ofNat N)), .val (.int (Int32.ofNat i)), .val (.int (f i))]) rfl k_) ?_
      show OFin _ _ _ _ _ _ T1 (mkF m 35 #[.val (.ref ca), .val (.int ((Int32.ofNat i) + (1 : Int32))), .val (.ref ba), .val (.int (Int32.ofNat i)), .val (.int (Int32.ofNat N)), .val (.int (Int32.ofNat i)), .val (.int (f i))] [])
      refine X1.step (fun hA hx hq t_ k_ => XS.iinc hA hx rfl (hb hq d5_35) rfl (l' := #[.val (.ref ca), .val (.int ((Int32.ofNat i) + (1 : Int32))), .val (.ref ba), .val (.int ((Int32.ofNat i) + (1 : Int32))), .val (.int (Int32.ofNat N)), .val (.int (Int32.ofNat i)), .val (.int (f i))]) rfl k_) ?_
      show OFin _ _ _ _ _ _ T1 (mkF m 38 #[.val (.ref ca), .val (.int ((Int32.ofNat i) + (1 : Int32))), .val (.ref ba), .val (.int ((Int32.ofNat i) + (1 : Int32))), .val (.int (Int32.ofNat N)), .val (.int (Int32.ofNat i)), .val (.int (f i))] [])
      refine X1.step (fun hA hx hq t_ k_ => XS.iinc hA hx rfl (hb hq d5_38) rfl (l' := #[.val (.ref ca), .val (.int ((Int32.ofNat i) + (1 : Int32))), .val (.ref ba), .val (.int ((Int32.ofNat i) + (1 : Int32))), .val (.int (Int32.ofNat N)), .val (.int ((Int32.ofNat i) + (1 : Int32))), .val (.int (f i))]) rfl k_) ?_
      show OFin _ _ _ _ _ _ T1 (mkF m 41 #[.val (.ref ca), .val (.int ((Int32.ofNat i) + (1 : Int32))), .val (.ref ba), .val (.int ((Int32.ofNat i) + (1 : Int32))), .val (.int (Int32.ofNat N)), .val (.int ((Int32.ofNat i) + (1 : Int32))), .val (.int (f i))] [])
      rw [own_succ i (by omega)]
      show OFin _ _ _ _ _ _ T1 (mkF m 41 #[.val (.ref ca), .val (.int (Int32.ofNat (i + 1))), .val (.ref ba), .val (.int (Int32.ofNat (i + 1))), .val (.int (Int32.ofNat N)), .val (.int (Int32.ofNat (i + 1))), .val (.int (f i))] [])
      refine X1.step (fun hA hx hq t_ k_ => XS.goto hA hx rfl (pc0 := 41) (pc' := 3) rfl (hb hq d5_41) (by decide) (by decide) k_) ?_
      show OFin _ _ _ _ _ _ T1 (mkF m 3 #[.val (.ref ca), .val (.int (Int32.ofNat (i + 1))), .val (.ref ba), .val (.int (Int32.ofNat (i + 1))), .val (.int (Int32.ofNat N)), .val (.int (Int32.ofNat (i + 1))), .val (.int (f i))] [])
      refine ih (i + 1) T1 h1 _ (by omega) (One.val rfl) X1 (FC.other W1 ne) ((FB.set W1).congr fun j hj => ?_) (K.wr W1 (Or.inl (List.mem_of_getElem? (i := 0) rfl)))
      by_cases c : j = i
      · have c2 : j < i + 1 := by omega
        simp only [c, if_true]
        rw [if_pos (by omega)]
      · by_cases d : j < i
        · have d2 : j < i + 1 := by omega
          simp only [c, d, d2, if_true, if_false]
        · have d2 : ¬ j < i + 1 := by omega
          simp only [c, d, d2, if_false]
  refine X0.step (fun hA hx hq t_ k_ => XS.iconst hA hx rfl (hb hq d5_0) k_) ?_
  show OFin _ _ _ _ _ _ T0 (mkF m 1 #[.val (.ref ca), .val (.int (0 : Int32)), .val (.ref ba), .val (.int (0 : Int32)), .val (.int (Int32.ofNat N)), .unset, .unset] [(.int (0 : Int32))])
  refine X0.step (fun hA hx hq t_ k_ => XS.istore hA hx rfl (hb hq d5_1) rfl (l' := #[.val (.ref ca), .val (.int (0 : Int32)), .val (.ref ba), .val (.int (0 : Int32)), .val (.int (Int32.ofNat N)), .val (.int (0 : Int32)), .unset]) rfl k_) ?_
  show OFin _ _ _ _ _ _ T0 (mkF m 3 #[.val (.ref ca), .val (.int (0 : Int32)), .val (.ref ba), .val (.int (0 : Int32)), .val (.int (Int32.ofNat N)), .val (.int (0 : Int32)), .unset] [])
  exact loop N 0 T0 h0 .unset (by omega) One.u X0 FC (FB.congr fun j hj => by simp) (Keep.refl _ _)
theorem d4_0 : decode jdk_52_method_16_code 0 = .ok (.iload_n 2, 1) := by decide +kernel
theorem d4_1 : decode jdk_52_method_16_code 1 = .ok (.newarray .byte, 2) := by decide +kernel
theorem d4_3 : decode jdk_52_method_16_code 3 = .ok (.astore_n 3, 1) := by decide +kernel
theorem d4_4 : decode jdk_52_method_16_code 4 = .ok (.aload_n 0, 1) := by decide +kernel
theorem d4_5 : decode jdk_52_method_16_code 5 = .ok (.iload_n 1, 1) := by decide +kernel
theorem d4_6 : decode jdk_52_method_16_code 6 = .ok (.aload_n 3, 1) := by decide +kernel
theorem d4_7 : decode jdk_52_method_16_code 7 = .ok (.iconst 0, 1) := by decide +kernel
theorem d4_8 : decode jdk_52_method_16_code 8 = .ok (.iload_n 2, 1) := by decide +kernel
theorem d4_9 : decode jdk_52_method_16_code 9 = .ok (.invokestatic 115, 3) := by decide +kernel
theorem pd_pA_CIA_BIIr_I : parseMethodDescriptor "([CI[BII)I" = some ⟨[(.array .char), .int, (.array .byte), .int, .int], some .int⟩ := by decide +kernel
theorem d4_12 : decode jdk_52_method_16_code 12 = .ok (.istore 4, 2) := by decide +kernel
theorem d4_14 : decode jdk_52_method_16_code 14 = .ok (.iload 4, 2) := by decide +kernel
theorem d4_16 : decode jdk_52_method_16_code 16 = .ok (.iload_n 2, 1) := by decide +kernel
theorem d4_17 : decode jdk_52_method_16_code 17 = .ok (.if_icmp .eq 40, 3) := by decide +kernel
theorem d4_57 : decode jdk_52_method_16_code 57 = .ok (.aload_n 3, 1) := by decide +kernel
theorem d4_58 : decode jdk_52_method_16_code 58 = .ok (.areturn, 1) := by decide +kernel
set_option maxRecDepth 65536 in
set_option maxHeartbeats 40000000 in
theorem sm2 (l : Launch) (Z : State) (a0 : Array Value) (hw : ∀ d ∈ tables_1, d.before a0 Z = true) (ca : Addr) (N : Nat) (f : Nat → Int32) (h0 : Heap) (n0 : Nat) (FC : OArr Z h0 ca .char N (fun j => .int (f j))) (hN : N ≤ 2) (hch : ∀ j, j < N → 0 ≤ (f j).toInt ∧ (f j).toInt ≤ 255) (Z0 : n0 ≤ h0.size) :
    OMeets l Z (⟨"java/lang/StringUTF16", "compress", "([CII)[B"⟩ : MethodName) [] jdk_52_method_16_code 6 (some (.array .byte)) ({ frames := 1, cells := 1, slots := 2, locals := 18 } : Room) #[(.ref ca), (.int (0 : Int32)), (.int (Int32.ofNat N))] h0 n0 (fun v h => ∃ t, v = some (.ref t) ∧ Keep h0 h [] ∧ OArr Z h t .byte N (fun j => .int (f j).toInt8.toInt32) ∧ h0.size ≤ t) := by
  refine o_enter (Z := Z) (plainFor_of_name pn_java_lang_StringUTF16) ?_
  intro p e s m below meth c T0 X0
  refine OFin.cast (g' := (mkF m 0 #[.val (.ref ca), .val (.int (0 : Int32)), .val (.int (Int32.ofNat N)), .unset, .unset, .unset] [])) (by first | (simp [entryFrame, mkF, argsToLocals, Value.category]; done) | rfl) ?_
  refine X0.step (fun hA hx hq t_ k_ => XS.iloadN hA hx rfl (hb hq d4_0) rfl k_) ?_
  show OFin _ _ _ _ _ _ T0 (mkF m 1 #[.val (.ref ca), .val (.int (0 : Int32)), .val (.int (Int32.ofNat N)), .unset, .unset, .unset] [(.int (Int32.ofNat N))])
  refine X0.newP (hw _ (List.mem_of_getElem? (i := 19) rfl)) (g := (mkF m 1 #[.val (.ref ca), .val (.int (0 : Int32)), .val (.int (Int32.ofNat N)), .unset, .unset, .unset] [(.int (Int32.ofNat N))])) rfl d4_1 rfl (by rw [Int32.lt_iff_toInt_lt, own_i N (by omega)]; have : (0 : Int32).toInt = 0 := (by decide); omega) (cap := 2) (by rw [own_iN N (by omega)]; exact hN) (by decide) (by decide) (by decide) (ad := "[B") (by first | rfl | decide) ?_
  intro T1 h1 k1 b1 gb1 X1 E1 A1 G1
  show OFin _ _ _ _ _ _ T1 (mkF m 3 #[.val (.ref ca), .val (.int (0 : Int32)), .val (.int (Int32.ofNat N)), .unset, .unset, .unset] [(.ref b1)])
  refine X1.step (fun hA hx hq t_ k_ => XS.astoreN hA hx rfl (hb hq d4_3) rfl rfl (l' := #[.val (.ref ca), .val (.int (0 : Int32)), .val (.int (Int32.ofNat N)), .val (.ref b1), .unset, .unset]) rfl k_) ?_
  show OFin _ _ _ _ _ _ T1 (mkF m 4 #[.val (.ref ca), .val (.int (0 : Int32)), .val (.int (Int32.ofNat N)), .val (.ref b1), .unset, .unset] [])
  refine X1.step (fun hA hx hq t_ k_ => XS.aloadN hA hx rfl (hb hq d4_4) rfl rfl k_) ?_
  show OFin _ _ _ _ _ _ T1 (mkF m 5 #[.val (.ref ca), .val (.int (0 : Int32)), .val (.int (Int32.ofNat N)), .val (.ref b1), .unset, .unset] [(.ref ca)])
  refine X1.step (fun hA hx hq t_ k_ => XS.iloadN hA hx rfl (hb hq d4_5) rfl k_) ?_
  show OFin _ _ _ _ _ _ T1 (mkF m 6 #[.val (.ref ca), .val (.int (0 : Int32)), .val (.int (Int32.ofNat N)), .val (.ref b1), .unset, .unset] [(.int (0 : Int32)), (.ref ca)])
  refine X1.step (fun hA hx hq t_ k_ => XS.aloadN hA hx rfl (hb hq d4_6) rfl rfl k_) ?_
  show OFin _ _ _ _ _ _ T1 (mkF m 7 #[.val (.ref ca), .val (.int (0 : Int32)), .val (.int (Int32.ofNat N)), .val (.ref b1), .unset, .unset] [(.ref b1), (.int (0 : Int32)), (.ref ca)])
  refine X1.step (fun hA hx hq t_ k_ => XS.iconst hA hx rfl (hb hq d4_7) k_) ?_
  show OFin _ _ _ _ _ _ T1 (mkF m 8 #[.val (.ref ca), .val (.int (0 : Int32)), .val (.int (Int32.ofNat N)), .val (.ref b1), .unset, .unset] [(.int (0 : Int32)), (.ref b1), (.int (0 : Int32)), (.ref ca)])
  refine X1.step (fun hA hx hq t_ k_ => XS.iloadN hA hx rfl (hb hq d4_8) rfl k_) ?_
  show OFin _ _ _ _ _ _ T1 (mkF m 9 #[.val (.ref ca), .val (.int (0 : Int32)), .val (.int (Int32.ofNat N)), .val (.ref b1), .unset, .unset] [(.int (Int32.ofNat N)), (.int (0 : Int32)), (.ref b1), (.int (0 : Int32)), (.ref ca)])
  have FB : OArr Z h1 b1 .byte N (fun _ => .int 0) := by
    have q := OArr.new A1
    rw [own_iN N (by omega)] at q
    exact q
  refine X1.callS (y' := (⟨"java/lang/StringUTF16", "compress", "([CI[BII)I"⟩ : MethodName)) (hw _ (List.mem_of_getElem? (i := 20) rfl)) (hw _ (List.mem_of_getElem? (i := 21) rfl)) (hw _ (List.mem_of_getElem? (i := 17) rfl)) (hw _ (List.mem_of_getElem? (i := 22) rfl)) (by decide) (argsL := [(.ref ca), (.int (0 : Int32)), (.ref b1), (.int (0 : Int32)), (.int (Int32.ofNat N))]) (rest := []) (sm1 l Z a0 hw ca b1 N f h1 n0 (FC.ext E1) FB (by omega) hch (by rw [gb1]; exact Z0) (by rw [gb1]; exact Nat.ne_of_lt FC.lt)) (g := (mkF m 9 #[.val (.ref ca), .val (.int (0 : Int32)), .val (.int (Int32.ofNat N)), .val (.ref b1), .unset, .unset] [(.int (Int32.ofNat N)), (.int (0 : Int32)), (.ref b1), (.int (0 : Int32)), (.ref ca)])) rfl rfl pd_pA_CIA_BIIr_I rfl rfl (W := 0) (by show 2 * 0 + _ ≤ _; exact Nat.le_of_eq rfl) d4_9 (by decide) (by decide) (by decide) (by decide) ?_
  intro v2 T2 h2 X2 q2
  obtain ⟨rfl, K2, F2⟩ := q2
  show OFin _ _ _ _ _ _ T2 (mkF m 12 #[.val (.ref ca), .val (.int (0 : Int32)), .val (.int (Int32.ofNat N)), .val (.ref b1), .unset, .unset] [(.int (Int32.ofNat N))])
  refine X2.step (fun hA hx hq t_ k_ => XS.istore hA hx rfl (hb hq d4_12) rfl (l' := #[.val (.ref ca), .val (.int (0 : Int32)), .val (.int (Int32.ofNat N)), .val (.ref b1), .val (.int (Int32.ofNat N)), .unset]) rfl k_) ?_
  show OFin _ _ _ _ _ _ T2 (mkF m 14 #[.val (.ref ca), .val (.int (0 : Int32)), .val (.int (Int32.ofNat N)), .val (.ref b1), .val (.int (Int32.ofNat N)), .unset] [])
  refine X2.step (fun hA hx hq t_ k_ => XS.iload hA hx rfl (hb hq d4_14) rfl k_) ?_
  show OFin _ _ _ _ _ _ T2 (mkF m 16 #[.val (.ref ca), .val (.int (0 : Int32)), .val (.int (Int32.ofNat N)), .val (.ref b1), .val (.int (Int32.ofNat N)), .unset] [(.int (Int32.ofNat N))])
  refine X2.step (fun hA hx hq t_ k_ => XS.iloadN hA hx rfl (hb hq d4_16) rfl k_) ?_
  show OFin _ _ _ _ _ _ T2 (mkF m 17 #[.val (.ref ca), .val (.int (0 : Int32)), .val (.int (Int32.ofNat N)), .val (.ref b1), .val (.int (Int32.ofNat N)), .unset] [(.int (Int32.ofNat N)), (.int (Int32.ofNat N))])
  refine X2.step (fun hA hx hq t_ k_ => XS.icmpYes hA hx rfl (pc0 := 17) (pc' := 57) rfl (hb hq d4_17) rfl (teq ((rfl : (Int32.ofNat N) = (Int32.ofNat N)))).1 (by decide) (by decide) k_) ?_
  show OFin _ _ _ _ _ _ T2 (mkF m 57 #[.val (.ref ca), .val (.int (0 : Int32)), .val (.int (Int32.ofNat N)), .val (.ref b1), .val (.int (Int32.ofNat N)), .unset] [])
  refine X2.step (fun hA hx hq t_ k_ => XS.aloadN hA hx rfl (hb hq d4_57) rfl rfl k_) ?_
  show OFin _ _ _ _ _ _ T2 (mkF m 58 #[.val (.ref ca), .val (.int (0 : Int32)), .val (.int (Int32.ofNat N)), .val (.ref b1), .val (.int (Int32.ofNat N)), .unset] [(.ref b1)])
  exact X2.retR rfl rfl d4_58 (oN (by decide) (by decide)) (⟨b1, rfl, ((Keep.refl h0 []).ext E1).trans K2 (allS (Or.inr (Nat.le_of_eq gb1.symm)) all0), F2, Nat.le_of_eq gb1.symm⟩)
theorem d6_0 : decode jdk_52_method_15_code 0 = .ok (.iload_n 1, 1) := by decide +kernel
theorem d6_1 : decode jdk_52_method_15_code 1 = .ok (.aload_n 0, 1) := by decide +kernel
theorem d6_2 : decode jdk_52_method_15_code 2 = .ok (.arraylength, 1) := by decide +kernel
theorem d6_3 : decode jdk_52_method_15_code 3 = .ok (.isub, 1) := by decide +kernel
theorem d6_4 : decode jdk_52_method_15_code 4 = .ok (.bipush 31, 2) := by decide +kernel
theorem d6_6 : decode jdk_52_method_15_code 6 = .ok (.iushr, 1) := by decide +kernel
theorem d6_7 : decode jdk_52_method_15_code 7 = .ok (.i2b, 1) := by decide +kernel
theorem d6_8 : decode jdk_52_method_15_code 8 = .ok (.ireturn, 1) := by decide +kernel
set_option maxRecDepth 65536 in
set_option maxHeartbeats 40000000 in
theorem sm3 (l : Launch) (Z : State) (a0 : Array Value) (hw : ∀ d ∈ tables_1, d.before a0 Z = true) (t : Addr) (N : Nat) (g_ : Nat → Value) (h0 : Heap) (n0 : Nat) (F : OArr Z h0 t .byte N g_) :
    OMeets l Z (⟨"java/lang/StringUTF16", "coderFromArrayLen", "([BI)B"⟩ : MethodName) [] jdk_52_method_15_code 2 (some .byte) ({ frames := 0, cells := 0, slots := 0, locals := 0 } : Room) #[(.ref t), (.int (Int32.ofNat N))] h0 n0 (fun v h => v = some (.int 0) ∧ h0 = h) := by
  refine o_enter (Z := Z) (plainFor_of_name pn_java_lang_StringUTF16) ?_
  intro p e s m below meth c T0 X0
  refine OFin.cast (g' := (mkF m 0 #[.val (.ref t), .val (.int (Int32.ofNat N))] [])) (by first | (simp [entryFrame, mkF, argsToLocals, Value.category]; done) | rfl) ?_
  obtain ⟨c1, A1, S1, H1⟩ := id F
  refine X0.step (fun hA hx hq t_ k_ => XS.iloadN hA hx rfl (hb hq d6_0) rfl k_) ?_
  show OFin _ _ _ _ _ _ T0 (mkF m 1 #[.val (.ref t), .val (.int (Int32.ofNat N))] [(.int (Int32.ofNat N))])
  refine X0.step (fun hA hx hq t_ k_ => XS.aloadN hA hx rfl (hb hq d6_1) rfl rfl k_) ?_
  show OFin _ _ _ _ _ _ T0 (mkF m 2 #[.val (.ref t), .val (.int (Int32.ofNat N))] [(.ref t), (.int (Int32.ofNat N))])
  refine X0.alen A1 (n := (Int32.ofNat N)) (by rw [S1]) (g := (mkF m 2 #[.val (.ref t), .val (.int (Int32.ofNat N))] [(.ref t), (.int (Int32.ofNat N))])) rfl rfl d6_2 ?_
  show OFin _ _ _ _ _ _ T0 (mkF m 3 #[.val (.ref t), .val (.int (Int32.ofNat N))] [(.int (Int32.ofNat N)), (.int (Int32.ofNat N))])
  refine X0.step (fun hA hx hq t_ k_ => XS.isub hA hx rfl (hb hq d6_3) rfl k_) ?_
  show OFin _ _ _ _ _ _ T0 (mkF m 4 #[.val (.ref t), .val (.int (Int32.ofNat N))] [(.int ((Int32.ofNat N) - (Int32.ofNat N)))])
  refine X0.step (fun hA hx hq t_ k_ => XS.bipush hA hx rfl (hb hq d6_4) k_) ?_
  show OFin _ _ _ _ _ _ T0 (mkF m 6 #[.val (.ref t), .val (.int (Int32.ofNat N))] [(.int (31 : Int32)), (.int ((Int32.ofNat N) - (Int32.ofNat N)))])
  refine X0.step (fun hA hx hq t_ k_ => XS.iushr hA hx rfl (hb hq d6_6) rfl k_) ?_
  show OFin _ _ _ _ _ _ T0 (mkF m 7 #[.val (.ref t), .val (.int (Int32.ofNat N))] [(.int ((((Int32.ofNat N) - (Int32.ofNat N)).toUInt32 >>> ((31 : Int32) &&& 31).toUInt32).toInt32))])
  refine X0.step (fun hA hx hq t_ k_ => XS.i2b hA hx rfl (hb hq d6_7) rfl k_) ?_
  show OFin _ _ _ _ _ _ T0 (mkF m 8 #[.val (.ref t), .val (.int (Int32.ofNat N))] [(.int (((((Int32.ofNat N) - (Int32.ofNat N)).toUInt32 >>> ((31 : Int32) &&& 31).toUInt32).toInt32).toInt8.toInt32))])
  exact X0.retN (by simp) d6_8 (oN (by decide) (by decide)) (⟨by rw [own_sub0]; rfl, rfl⟩)
theorem pn_java_lang_String : plainName "java/lang/String" = true := by first | (simp [plainName, overriddenIn]; done) | decide +kernel
theorem d2_0 : decode jdk_42_method_149_code 0 = .ok (.aload_n 0, 1) := by decide +kernel
theorem d2_1 : decode jdk_42_method_149_code 1 = .ok (.invokespecial 1, 3) := by decide +kernel
theorem d2_4 : decode jdk_42_method_149_code 4 = .ok (.iload_n 3, 1) := by decide +kernel
theorem d2_5 : decode jdk_42_method_149_code 5 = .ok (.ifCond .ne 22, 3) := by decide +kernel
theorem d2_27 : decode jdk_42_method_149_code 27 = .ok (.getstatic 38, 3) := by decide +kernel
theorem d2_30 : decode jdk_42_method_149_code 30 = .ok (.ifCond .eq 28, 3) := by decide +kernel
theorem d2_33 : decode jdk_42_method_149_code 33 = .ok (.aload_n 1, 1) := by decide +kernel
theorem d2_34 : decode jdk_42_method_149_code 34 = .ok (.iload_n 2, 1) := by decide +kernel
theorem d2_35 : decode jdk_42_method_149_code 35 = .ok (.iload_n 3, 1) := by decide +kernel
theorem d2_36 : decode jdk_42_method_149_code 36 = .ok (.invokestatic 177, 3) := by decide +kernel
theorem pd_pA_CIIr_A_B : parseMethodDescriptor "([CII)[B" = some ⟨[(.array .char), .int, .int], some (.array .byte)⟩ := by decide +kernel
theorem d2_39 : decode jdk_42_method_149_code 39 = .ok (.astore 5, 2) := by decide +kernel
theorem d2_41 : decode jdk_42_method_149_code 41 = .ok (.aload_n 0, 1) := by decide +kernel
theorem d2_42 : decode jdk_42_method_149_code 42 = .ok (.aload 5, 2) := by decide +kernel
theorem d2_44 : decode jdk_42_method_149_code 44 = .ok (.iload_n 3, 1) := by decide +kernel
theorem d2_45 : decode jdk_42_method_149_code 45 = .ok (.invokestatic 47, 3) := by decide +kernel
theorem pd_pA_BIr_B : parseMethodDescriptor "([BI)B" = some ⟨[(.array .byte), .int], some .byte⟩ := by decide +kernel
theorem d2_48 : decode jdk_42_method_149_code 48 = .ok (.putfield 15, 3) := by decide +kernel
theorem d2_51 : decode jdk_42_method_149_code 51 = .ok (.aload_n 0, 1) := by decide +kernel
theorem d2_52 : decode jdk_42_method_149_code 52 = .ok (.aload 5, 2) := by decide +kernel
theorem d2_54 : decode jdk_42_method_149_code 54 = .ok (.putfield 9, 3) := by decide +kernel
theorem d2_57 : decode jdk_42_method_149_code 57 = .ok (.return_, 1) := by decide +kernel
set_option maxRecDepth 65536 in
set_option maxHeartbeats 40000000 in
theorem sm4 (l : Launch) (Z : State) (a0 : Array Value) (hw : ∀ d ∈ tables_1, d.before a0 Z = true) (a1 ca : Addr) (N : Nat) (f : Nat → Int32) (cs : Int32) (h0 : Heap) (n0 : Nat) (F1 : Fld Z h0 a1 "java/lang/String" "value" "[B" .null) (F2 : Fld Z h0 a1 "java/lang/String" "coder" "B" (.int 0)) (E : Exa Z h0 a1 "java/lang/String") (hn : n0 ≤ a1) (FC : OArr Z h0 ca .char N (fun j => .int (f j))) (hN0 : 0 < N) (hN : N ≤ 2) (hch : ∀ j, j < N → 0 ≤ (f j).toInt ∧ (f j).toInt ≤ 255) (Z0 : n0 ≤ h0.size) (SS : Sta Z h0 "java/lang/String" "COMPACT_STRINGS" "Z" (.int cs)) (hcs : ¬ cs = 0) :
    OMeets l Z (⟨"java/lang/String", "<init>", "([CIILjava/lang/Void;)V"⟩ : MethodName) [] jdk_42_method_149_code 6 none ({ frames := 2, cells := 1, slots := 2, locals := 35 } : Room) #[(.ref a1), (.ref ca), (.int (0 : Int32)), (.int (Int32.ofNat N)), .null] h0 n0 (fun v h => v = none ∧ Keep h0 h [a1] ∧ ∃ t, OStr Z h a1 t N f ∧ h0.size ≤ t) := by
  refine o_enter (Z := Z) (plainFor_of_name pn_java_lang_String) ?_
  intro p e s m below meth c T0 X0
  refine OFin.cast (g' := (mkF m 0 #[.val (.ref a1), .val (.ref ca), .val (.int (0 : Int32)), .val (.int (Int32.ofNat N)), .val .null, .unset] [])) (by first | (simp [entryFrame, mkF, argsToLocals, Value.category]; done) | rfl) ?_
  have sne := (slot_ne (Or.inr (hw _ (List.mem_of_getElem? (i := 29) rfl))) (Or.inr (hw _ (List.mem_of_getElem? (i := 27) rfl))) (by decide) (t := (.array .byte)) (t' := .byte) (by decide) (by decide))
  refine X0.step (fun hA hx hq t_ k_ => XS.aloadN hA hx rfl (hb hq d2_0) rfl rfl k_) ?_
  show OFin _ _ _ _ _ _ T0 (mkF m 1 #[.val (.ref a1), .val (.ref ca), .val (.int (0 : Int32)), .val (.int (Int32.ofNat N)), .val .null, .unset] [(.ref a1)])
  refine X0.initO (hw _ (List.mem_of_getElem? (i := 11) rfl)) (hw _ (List.mem_of_getElem? (i := 12) rfl)) (hw _ (List.mem_of_getElem? (i := 13) rfl)) (g := (mkF m 1 #[.val (.ref a1), .val (.ref ca), .val (.int (0 : Int32)), .val (.int (Int32.ofNat N)), .val .null, .unset] [(.ref a1)])) rfl rfl rfl d2_1 (by decide) (W := 0) (by show 2 * 0 + _ ≤ _; exact Nat.le_of_eq rfl) (by decide) ?_
  intro T1 X1
  show OFin _ _ _ _ _ _ T1 (mkF m 4 #[.val (.ref a1), .val (.ref ca), .val (.int (0 : Int32)), .val (.int (Int32.ofNat N)), .val .null, .unset] [])
  refine X1.step (fun hA hx hq t_ k_ => XS.iloadN hA hx rfl (hb hq d2_4) rfl k_) ?_
  show OFin _ _ _ _ _ _ T1 (mkF m 5 #[.val (.ref a1), .val (.ref ca), .val (.int (0 : Int32)), .val (.int (Int32.ofNat N)), .val .null, .unset] [(.int (Int32.ofNat N))])
  refine X1.step (fun hA hx hq t_ k_ => XS.ifYes hA hx rfl (pc0 := 5) (pc' := 27) rfl (hb hq d2_5) rfl ((if0 _ _).trans (feq (fun q => by have := (own_eq32 N 0 (by omega) (by decide)).mp q; omega)).2) (by decide) (by decide) k_) ?_
  show OFin _ _ _ _ _ _ T1 (mkF m 27 #[.val (.ref a1), .val (.ref ca), .val (.int (0 : Int32)), .val (.int (Int32.ofNat N)), .val .null, .unset] [])
  refine X1.getS (hw _ (List.mem_of_getElem? (i := 14) rfl)) SS (g := (mkF m 27 #[.val (.ref a1), .val (.ref ca), .val (.int (0 : Int32)), .val (.int (Int32.ofNat N)), .val .null, .unset] [])) rfl d2_27 ?_
  intro T2 X2
  show OFin _ _ _ _ _ _ T2 (mkF m 30 #[.val (.ref a1), .val (.ref ca), .val (.int (0 : Int32)), .val (.int (Int32.ofNat N)), .val .null, .unset] [(.int cs)])
  refine X2.step (fun hA hx hq t_ k_ => XS.ifNo hA hx rfl (hb hq d2_30) rfl ((if0 _ _).trans (feq (hcs)).1) k_) ?_
  show OFin _ _ _ _ _ _ T2 (mkF m 33 #[.val (.ref a1), .val (.ref ca), .val (.int (0 : Int32)), .val (.int (Int32.ofNat N)), .val .null, .unset] [])
  refine X2.step (fun hA hx hq t_ k_ => XS.aloadN hA hx rfl (hb hq d2_33) rfl rfl k_) ?_
  show OFin _ _ _ _ _ _ T2 (mkF m 34 #[.val (.ref a1), .val (.ref ca), .val (.int (0 : Int32)), .val (.int (Int32.ofNat N)), .val .null, .unset] [(.ref ca)])
  refine X2.step (fun hA hx hq t_ k_ => XS.iloadN hA hx rfl (hb hq d2_34) rfl k_) ?_
  show OFin _ _ _ _ _ _ T2 (mkF m 35 #[.val (.ref a1), .val (.ref ca), .val (.int (0 : Int32)), .val (.int (Int32.ofNat N)), .val .null, .unset] [(.int (0 : Int32)), (.ref ca)])
  refine X2.step (fun hA hx hq t_ k_ => XS.iloadN hA hx rfl (hb hq d2_35) rfl k_) ?_
  show OFin _ _ _ _ _ _ T2 (mkF m 36 #[.val (.ref a1), .val (.ref ca), .val (.int (0 : Int32)), .val (.int (Int32.ofNat N)), .val .null, .unset] [(.int (Int32.ofNat N)), (.int (0 : Int32)), (.ref ca)])
  refine X2.callS (y' := (⟨"java/lang/StringUTF16", "compress", "([CII)[B"⟩ : MethodName)) (hw _ (List.mem_of_getElem? (i := 15) rfl)) (hw _ (List.mem_of_getElem? (i := 16) rfl)) (hw _ (List.mem_of_getElem? (i := 17) rfl)) (hw _ (List.mem_of_getElem? (i := 18) rfl)) (by decide) (argsL := [(.ref ca), (.int (0 : Int32)), (.int (Int32.ofNat N))]) (rest := []) (sm2 l Z a0 hw ca N f h0 n0 FC hN hch Z0) (g := (mkF m 36 #[.val (.ref a1), .val (.ref ca), .val (.int (0 : Int32)), .val (.int (Int32.ofNat N)), .val .null, .unset] [(.int (Int32.ofNat N)), (.int (0 : Int32)), (.ref ca)])) rfl rfl pd_pA_CIIr_A_B rfl rfl (W := 0) (by show 2 * 0 + _ ≤ _; exact Nat.le_of_eq rfl) d2_36 (by decide) (by decide) (by decide) (by decide) ?_
  intro v3 T3 h3 X3 q3
  obtain ⟨t, rfl, K3, B3, lt3⟩ := q3
  show OFin _ _ _ _ _ _ T3 (mkF m 39 #[.val (.ref a1), .val (.ref ca), .val (.int (0 : Int32)), .val (.int (Int32.ofNat N)), .val .null, .unset] [(.ref t)])
  refine X3.step (fun hA hx hq t_ k_ => XS.astore hA hx rfl (hb hq d2_39) rfl rfl (l' := #[.val (.ref a1), .val (.ref ca), .val (.int (0 : Int32)), .val (.int (Int32.ofNat N)), .val .null, .val (.ref t)]) rfl k_) ?_
  show OFin _ _ _ _ _ _ T3 (mkF m 41 #[.val (.ref a1), .val (.ref ca), .val (.int (0 : Int32)), .val (.int (Int32.ofNat N)), .val .null, .val (.ref t)] [])
  refine X3.step (fun hA hx hq t_ k_ => XS.aloadN hA hx rfl (hb hq d2_41) rfl rfl k_) ?_
  show OFin _ _ _ _ _ _ T3 (mkF m 42 #[.val (.ref a1), .val (.ref ca), .val (.int (0 : Int32)), .val (.int (Int32.ofNat N)), .val .null, .val (.ref t)] [(.ref a1)])
  refine X3.step (fun hA hx hq t_ k_ => XS.aload hA hx rfl (hb hq d2_42) rfl rfl k_) ?_
  show OFin _ _ _ _ _ _ T3 (mkF m 44 #[.val (.ref a1), .val (.ref ca), .val (.int (0 : Int32)), .val (.int (Int32.ofNat N)), .val .null, .val (.ref t)] [(.ref t), (.ref a1)])
  refine X3.step (fun hA hx hq t_ k_ => XS.iloadN hA hx rfl (hb hq d2_44) rfl k_) ?_
  show OFin _ _ _ _ _ _ T3 (mkF m 45 #[.val (.ref a1), .val (.ref ca), .val (.int (0 : Int32)), .val (.int (Int32.ofNat N)), .val .null, .val (.ref t)] [(.int (Int32.ofNat N)), (.ref t), (.ref a1)])
  refine X3.callS (y' := (⟨"java/lang/StringUTF16", "coderFromArrayLen", "([BI)B"⟩ : MethodName)) (hw _ (List.mem_of_getElem? (i := 23) rfl)) (hw _ (List.mem_of_getElem? (i := 24) rfl)) (hw _ (List.mem_of_getElem? (i := 17) rfl)) (hw _ (List.mem_of_getElem? (i := 25) rfl)) (by decide) (argsL := [(.ref t), (.int (Int32.ofNat N))]) (rest := [(.ref a1)]) (sm3 l Z a0 hw t N _ h3 n0 B3) (g := (mkF m 45 #[.val (.ref a1), .val (.ref ca), .val (.int (0 : Int32)), .val (.int (Int32.ofNat N)), .val .null, .val (.ref t)] [(.int (Int32.ofNat N)), (.ref t), (.ref a1)])) rfl rfl pd_pA_BIr_B rfl rfl (W := 1) (by show 2 * 0 + _ ≤ _; exact Nat.le_of_eq rfl) d2_45 (by decide) (by decide) (by decide) (by decide) ?_
  intro v4 T4 h4 X4 q4
  obtain ⟨rfl, rfl⟩ := q4
  show OFin _ _ _ _ _ _ T4 (mkF m 48 #[.val (.ref a1), .val (.ref ca), .val (.int (0 : Int32)), .val (.int (Int32.ofNat N)), .val .null, .val (.ref t)] [(.int (0 : Int32)), (.ref a1)])
  have ta : t ≠ a1 := Nat.ne_of_gt (Nat.lt_of_lt_of_le E.lt lt3)
  refine X4.putF (hw _ (List.mem_of_getElem? (i := 26) rfl)) (F2.keep K3 nin0) (E.keep K3) (Or.inr ⟨(hw _ (List.mem_of_getElem? (i := 27) rfl)), rfl, rfl⟩) (hw _ (List.mem_of_getElem? (i := 2) rfl)) (ty := .byte) (by decide) rfl rfl hn (g := (mkF m 48 #[.val (.ref a1), .val (.ref ca), .val (.int (0 : Int32)), .val (.int (Int32.ofNat N)), .val .null, .val (.ref t)] [(.int (0 : Int32)), (.ref a1)])) rfl rfl d2_48 ?_
  intro T5 h5 X5 W5
  show OFin _ _ _ _ _ _ T5 (mkF m 51 #[.val (.ref a1), .val (.ref ca), .val (.int (0 : Int32)), .val (.int (Int32.ofNat N)), .val .null, .val (.ref t)] [])
  refine X5.step (fun hA hx hq t_ k_ => XS.aloadN hA hx rfl (hb hq d2_51) rfl rfl k_) ?_
  show OFin _ _ _ _ _ _ T5 (mkF m 52 #[.val (.ref a1), .val (.ref ca), .val (.int (0 : Int32)), .val (.int (Int32.ofNat N)), .val .null, .val (.ref t)] [(.ref a1)])
  refine X5.step (fun hA hx hq t_ k_ => XS.aload hA hx rfl (hb hq d2_52) rfl rfl k_) ?_
  show OFin _ _ _ _ _ _ T5 (mkF m 54 #[.val (.ref a1), .val (.ref ca), .val (.int (0 : Int32)), .val (.int (Int32.ofNat N)), .val .null, .val (.ref t)] [(.ref t), (.ref a1)])
  refine X5.putF (hw _ (List.mem_of_getElem? (i := 28) rfl)) ((F1.keep K3 nin0).other W5 (Or.inr sne)) ((E.keep K3).wr W5) (Or.inr ⟨(hw _ (List.mem_of_getElem? (i := 29) rfl)), rfl, rfl⟩) (hw _ (List.mem_of_getElem? (i := 2) rfl)) (ty := (.array .byte)) (by decide) rfl rfl hn (g := (mkF m 54 #[.val (.ref a1), .val (.ref ca), .val (.int (0 : Int32)), .val (.int (Int32.ofNat N)), .val .null, .val (.ref t)] [(.ref t), (.ref a1)])) rfl rfl d2_54 ?_
  intro T6 h6 X6 W6
  show OFin _ _ _ _ _ _ T6 (mkF m 57 #[.val (.ref a1), .val (.ref ca), .val (.int (0 : Int32)), .val (.int (Int32.ofNat N)), .val .null, .val (.ref t)] [])
  exact X6.retV d2_57 (oN (by decide) (by decide)) (⟨rfl, (((Keep.refl h0 [a1]).trans K3 all0).wr W5 (Or.inl (List.mem_of_getElem? (i := 0) rfl))).wr W6 (Or.inl (List.mem_of_getElem? (i := 0) rfl)), t, ⟨((E.keep K3).wr W5).wr W6, ((F2.keep K3 nin0).same W5).other W6 (Or.inr (Ne.symm sne)), ((F1.keep K3 nin0).other W5 (Or.inr sne)).same W6, (B3.other W5 ta).other W6 ta⟩, lt3⟩)
theorem d1_0 : decode jdk_42_method_3_code 0 = .ok (.aload_n 0, 1) := by decide +kernel
theorem d1_1 : decode jdk_42_method_3_code 1 = .ok (.aload_n 1, 1) := by decide +kernel
theorem d1_2 : decode jdk_42_method_3_code 2 = .ok (.iconst 0, 1) := by decide +kernel
theorem d1_3 : decode jdk_42_method_3_code 3 = .ok (.aload_n 1, 1) := by decide +kernel
theorem d1_4 : decode jdk_42_method_3_code 4 = .ok (.arraylength, 1) := by decide +kernel
theorem d1_5 : decode jdk_42_method_3_code 5 = .ok (.aconst_null, 1) := by decide +kernel
theorem d1_6 : decode jdk_42_method_3_code 6 = .ok (.invokespecial 27, 3) := by decide +kernel
theorem pd_pA_CIILjava_lang_Void_r_V : parseMethodDescriptor "([CIILjava/lang/Void;)V" = some ⟨[(.array .char), .int, .int, (.object "java/lang/Void")], none⟩ := by decide +kernel
theorem d1_9 : decode jdk_42_method_3_code 9 = .ok (.return_, 1) := by decide +kernel
set_option maxRecDepth 65536 in
set_option maxHeartbeats 40000000 in
theorem sm5 (l : Launch) (Z : State) (a0 : Array Value) (hw : ∀ d ∈ tables_1, d.before a0 Z = true) (a1 ca : Addr) (N : Nat) (f : Nat → Int32) (cs : Int32) (h0 : Heap) (n0 : Nat) (F1 : Fld Z h0 a1 "java/lang/String" "value" "[B" .null) (F2 : Fld Z h0 a1 "java/lang/String" "coder" "B" (.int 0)) (E : Exa Z h0 a1 "java/lang/String") (hn : n0 ≤ a1) (FC : OArr Z h0 ca .char N (fun j => .int (f j))) (hN0 : 0 < N) (hN : N ≤ 2) (hch : ∀ j, j < N → 0 ≤ (f j).toInt ∧ (f j).toInt ≤ 255) (Z0 : n0 ≤ h0.size) (SS : Sta Z h0 "java/lang/String" "COMPACT_STRINGS" "Z" (.int cs)) (hcs : ¬ cs = 0) :
    OMeets l Z (⟨"java/lang/String", "<init>", "([C)V"⟩ : MethodName) [] jdk_42_method_3_code 2 none ({ frames := 3, cells := 1, slots := 2, locals := 52 } : Room) #[(.ref a1), (.ref ca)] h0 n0 (fun v h => v = none ∧ Keep h0 h [a1] ∧ ∃ t, OStr Z h a1 t N f ∧ h0.size ≤ t) := by
  refine o_enter (Z := Z) (plainFor_of_name pn_java_lang_String) ?_
  intro p e s m below meth c T0 X0
  refine OFin.cast (g' := (mkF m 0 #[.val (.ref a1), .val (.ref ca)] [])) (by first | (simp [entryFrame, mkF, argsToLocals, Value.category]; done) | rfl) ?_
  obtain ⟨c1, A1, S1, H1⟩ := id FC
  refine X0.step (fun hA hx hq t_ k_ => XS.aloadN hA hx rfl (hb hq d1_0) rfl rfl k_) ?_
  show OFin _ _ _ _ _ _ T0 (mkF m 1 #[.val (.ref a1), .val (.ref ca)] [(.ref a1)])
  refine X0.step (fun hA hx hq t_ k_ => XS.aloadN hA hx rfl (hb hq d1_1) rfl rfl k_) ?_
  show OFin _ _ _ _ _ _ T0 (mkF m 2 #[.val (.ref a1), .val (.ref ca)] [(.ref ca), (.ref a1)])
  refine X0.step (fun hA hx hq t_ k_ => XS.iconst hA hx rfl (hb hq d1_2) k_) ?_
  show OFin _ _ _ _ _ _ T0 (mkF m 3 #[.val (.ref a1), .val (.ref ca)] [(.int (0 : Int32)), (.ref ca), (.ref a1)])
  refine X0.step (fun hA hx hq t_ k_ => XS.aloadN hA hx rfl (hb hq d1_3) rfl rfl k_) ?_
  show OFin _ _ _ _ _ _ T0 (mkF m 4 #[.val (.ref a1), .val (.ref ca)] [(.ref ca), (.int (0 : Int32)), (.ref ca), (.ref a1)])
  refine X0.alen A1 (n := (Int32.ofNat N)) (by rw [S1]) (g := (mkF m 4 #[.val (.ref a1), .val (.ref ca)] [(.ref ca), (.int (0 : Int32)), (.ref ca), (.ref a1)])) rfl rfl d1_4 ?_
  show OFin _ _ _ _ _ _ T0 (mkF m 5 #[.val (.ref a1), .val (.ref ca)] [(.int (Int32.ofNat N)), (.int (0 : Int32)), (.ref ca), (.ref a1)])
  refine X0.step (fun hA hx hq t_ k_ => XS.aconstNull hA hx rfl (hb hq d1_5) k_) ?_
  show OFin _ _ _ _ _ _ T0 (mkF m 6 #[.val (.ref a1), .val (.ref ca)] [.null, (.int (Int32.ofNat N)), (.int (0 : Int32)), (.ref ca), (.ref a1)])
  refine X0.callI (y' := (⟨"java/lang/String", "<init>", "([CIILjava/lang/Void;)V"⟩ : MethodName)) rfl (hw _ (List.mem_of_getElem? (i := 7) rfl)) (hw _ (List.mem_of_getElem? (i := 8) rfl)) (hw _ (List.mem_of_getElem? (i := 3) rfl)) (hw _ (List.mem_of_getElem? (i := 10) rfl)) (by decide) (a := a1) (argsL := [(.ref ca), (.int (0 : Int32)), (.int (Int32.ofNat N)), .null]) (rest := []) (sm4 l Z a0 hw a1 ca N f cs h0 n0 F1 F2 E hn FC hN0 hN hch Z0 SS hcs) (g := (mkF m 6 #[.val (.ref a1), .val (.ref ca)] [.null, (.int (Int32.ofNat N)), (.int (0 : Int32)), (.ref ca), (.ref a1)])) rfl rfl pd_pA_CIILjava_lang_Void_r_V rfl rfl (W := 0) (by show 2 * 0 + _ ≤ _; exact Nat.le_of_eq rfl) d1_6 (by decide) (by decide) (by decide) (by decide) ?_
  intro v1 T1 h1 X1 q1
  obtain ⟨rfl, K1, t, S1, lt1⟩ := q1
  show OFin _ _ _ _ _ _ T1 (mkF m 9 #[.val (.ref a1), .val (.ref ca)] [])
  exact X1.retV d1_9 (oN (by decide) (by decide)) (⟨rfl, K1, t, S1, lt1⟩)
section Own3
variable {p : Program} {l : Launch} {e : Env} {R : Room} {s : State} {m : MethodId} {args : Array Value} {below : List Frame} {meth : Method} {c : Code} {T T' : State} {cells slots n0 : Nat} {Z : State} {a0 : Array Value} {h h' : Heap} {Q : Option Value → Heap → Prop} {FE : Outcome → State → List Loc → Prop} {g : JFrame} {y : MethodName} {bytes : ByteArray} {maxL : Nat} {ret : Option FieldType}
/-- the law's contract, where the frames below and the tables' methods are known -/
abbrev OMeetsWK (l : Launch) (Z : State) (EL : List (String × Nat)) (y : MethodName) (ws : List Jvm.Cond) (bytes : ByteArray) (maxL : Nat) (ret : Option FieldType) (rm : Room) (as' : Array Value) (h0 : Heap) (n0 : Nat) (Q : Option Value → Heap → Prop) : Prop :=
  MetFree l y (head1 (Jvm.Cond.code y bytes maxL ret :: ws) rm) (fun a U => a = as' ∧ Z.Warmed39 U.vm ∧ U.heap = h0 ∧ CHv Z EL U.vm h0) (fun _ _ bl st _ => st.vm.MethodsKnown ∧ st.vm.FramesKnown bl) (fun _ U o U' => ∃ v L, o = .returned v ∧ (Q v U'.heap ∧ Fr n0 L) ∧ CHr Z EL U.vm U.heap U'.vm U'.heap ∧ ReturnedEndW U o U' L rm.cells rm.slots)
theorem o_enterWK {EL : List (String × Nat)} {ws : List Jvm.Cond} {rm : Room} {as' : Array Value} {h0 : Heap} (hEL : EW Z a0 EL) (pn : plainFor y = true)
    (body : ∀ (p : Program) (e : Env) (s : State) (m : MethodId) (below : List Frame) (meth : Method) (c : Code) (s₁ : State), OAt n0 Z y bytes maxL ret p l e rm (s.setVm s.vm) m as' below meth c s₁ h0 0 0 → OB Z a0 EL s h0 s.vm h0 → s.vm.MethodsKnown → s.vm.FramesKnown below → OFin n0 p e (fun o t L => CHr Z EL s.vm s.heap t.vm t.heap ∧ ReturnedEndW s o t L rm.cells rm.slots) below Q s₁ (entryFrame m as' maxL)) :
    OMeetsWK l Z EL y ws bytes maxL ret rm as' h0 n0 Q := by
  refine MetFree.of_bodySF pn hisR ?_
  intro p e s m args below meth c s₁ Bd hml0 hP hK
  obtain ⟨rfl, hZ, hh, hC⟩ := hP
  have e0 : s₁.heap = h0 := by rw [← hh, Bd.state]; rfl
  exact body p e s m below meth c s₁ ⟨⟨Bd.exec, hZ, findClass_of_methodNamed Bd.named, (name_of_methodNamed Bd.named Bd.method).1, Bd.bytes, hml0, Bd.returns, Bd.notSynchronized⟩, [], Stand.of_body Bd, Fr.nil n0, e0⟩ ⟨hh, hEL, ⟨0, (State.WarmedH.refl s).since 0, Nat.zero_le _⟩, CHr.refl hC⟩ hK.1 hK.2
theorem OAt.newOU (X : OAt n0 Z y bytes maxL ret p l e R s m args below meth c T h cells slots) {C : String} {index n : Nat} (w : (Jvm.Cond.classLink y.cls index C).before a0 Z = true) (wi : (Jvm.Cond.instantiable C n).before a0 Z = true) (wz : (Jvm.Cond.initialized C).before a0 Z = true) (hg : g.method = m) (hd : decode bytes g.pc = .ok (.new index, 3)) (hc : cells + 1 ≤ R.cells) (hl : slots + n ≤ R.slots)
    (k : ∀ T' h' a, a = h.size → OAt n0 Z y bytes maxL ret p l e R s m args below meth c T' h' (cells + 1) (slots + n) → Ext h h' → Exa Z h' a C → (∀ {O nm d : String} {ty : FieldType}, Laid Z a0 C O nm d → parseFieldDescriptor d = some ty → Fld Z h' a O nm d (defaultValue ty)) → Unt h' a → OFin n0 p e FE below Q T' { g with pc := g.pc + 3, stack := .ref a :: g.stack }) : OFin n0 p e FE below Q T g := by
  obtain ⟨C', locs, X, N, eh⟩ := X
  obtain ⟨hx, hZ, hown, -, hby, -⟩ := id C'
  obtain ⟨T', h', X', e', E, A, D, U, st⟩ := Jvm.RoadKit.newO X hx hZ hown w wi wz eh hg (hb hby hd) hc hl
  exact OFin.run st (k T' h' _ rfl ⟨C', locs, X', N, e'⟩ E A D U)
theorem OAt.exc1 (X : OAt n0 Z y bytes maxL ret p l e R s m args below meth c T h cells slots) (hl : l.stackTraces = true) {rc : String} {links : List Jvm.Free.Exc.Link} {ic n : Nat} (hok : Jvm.Free.Exc.linksOk 1 links = true)
    (w1 : (Jvm.Cond.methodLink y.cls ic (Jvm.Free.Exc.ctor 1 (Jvm.Free.Exc.headName links))).before a0 Z = true) (w2 : (Jvm.Cond.instanceMethod (Jvm.Free.Exc.ctor 1 (Jvm.Free.Exc.headName links))).before a0 Z = true) (wT : (Jvm.Free.Exc.chainTab 1 rc links).before a0 Z = true) (wi : (Jvm.Cond.instantiable rc n).before a0 Z = true) (r : ∀ d ∈ twoRefs, d.before a0 Z = true)
    (hT0 : ThS Z s.heap) (hT : ThS Z h) (hTK : s.vm.MethodsKnown) (hBelow : s.vm.FramesKnown below) {a : Addr} (E : Exa Z h a rc) (N : Unt h a) (B : Fld Z h a tN "backtrace" Jvm.Free.Exc.obD .null) (B2 : Fld Z h a tN "detailMessage" Jvm.Free.Exc.msgD .null) {msg : Value} (hmsg : msg.isRef = true) (hnew : n0 ≤ a)
    (hg : g.method = m) (hsize : g.locals.size = maxL) {rest : List Value} (hs : g.stack = msg :: .ref a :: rest) (hd : decode bytes g.pc = .ok (.invokespecial ic, 3)) (hf : 4 + links.length ≤ R.frames) (hlo : 2 * g.monitorRoom + (rest.map fun v => v.category).sum + (56 + 14 * links.length) ≤ R.locals) (hc : cells + 1 ≤ R.cells) (hsl : slots + 2752 ≤ R.slots)
    (k : ∀ T' h', OAt n0 Z y bytes maxL ret p l e R s m args below meth c T' h' (cells + 1) (slots + 2752) → Keep h h' [a] → Exa Z h' a rc → OFin n0 p e FE below Q T' { g with pc := g.pc + 3, stack := rest }) : OFin n0 p e FE below Q T g := by
  obtain ⟨C, locs, X, NN, eh⟩ := X
  obtain ⟨hx, hZ, hown, -, hby, hml, -⟩ := id C
  obtain ⟨T', h', X', e', K, E', -, -, -, -, st⟩ := Jvm.RoadKit.excL1 X hx hl hZ hown hok w1 w2 wT wi r hT0 hT hTK hBelow eh E N B B2 hmsg hg (hsize.trans hml.symm) hs (hb hby hd) hf hlo hc hsl
  exact OFin.run st (k T' h' ⟨C, _, X', Fr.six NN hnew, e'⟩ (keep_of_kp K) E')
theorem OAt.exc2 (X : OAt n0 Z y bytes maxL ret p l e R s m args below meth c T h cells slots) (hl : l.stackTraces = true) {rc : String} {links : List Jvm.Free.Exc.Link} {ic n : Nat} (hok : Jvm.Free.Exc.linksOk 2 links = true)
    (w1 : (Jvm.Cond.methodLink y.cls ic (Jvm.Free.Exc.ctor 2 (Jvm.Free.Exc.headName links))).before a0 Z = true) (w2 : (Jvm.Cond.instanceMethod (Jvm.Free.Exc.ctor 2 (Jvm.Free.Exc.headName links))).before a0 Z = true) (wT : (Jvm.Free.Exc.chainTab 2 rc links).before a0 Z = true) (wi : (Jvm.Cond.instantiable rc n).before a0 Z = true) (r : ∀ d ∈ twoRefs, d.before a0 Z = true)
    (hT0 : ThS Z s.heap) (hT : ThS Z h) (hTK : s.vm.MethodsKnown) (hBelow : s.vm.FramesKnown below) {a : Addr} (E : Exa Z h a rc) (N : Unt h a) (B : Fld Z h a tN "backtrace" Jvm.Free.Exc.obD .null) (B2 : Fld Z h a tN "detailMessage" Jvm.Free.Exc.msgD .null) {msg cz : Value} (hmsg : msg.isRef = true) (hcz : cz.isRef = true) (hnew : n0 ≤ a)
    (hg : g.method = m) (hsize : g.locals.size = maxL) {rest : List Value} (hs : g.stack = cz :: msg :: .ref a :: rest) (hd : decode bytes g.pc = .ok (.invokespecial ic, 3)) (hf : 4 + links.length ≤ R.frames) (hlo : 2 * g.monitorRoom + (rest.map fun v => v.category).sum + (56 + 14 * links.length) ≤ R.locals) (hc : cells + 1 ≤ R.cells) (hsl : slots + 2752 ≤ R.slots)
    (k : ∀ T' h', OAt n0 Z y bytes maxL ret p l e R s m args below meth c T' h' (cells + 1) (slots + 2752) → Keep h h' [a] → Exa Z h' a rc → OFin n0 p e FE below Q T' { g with pc := g.pc + 3, stack := rest }) : OFin n0 p e FE below Q T g := by
  obtain ⟨C, locs, X, NN, eh⟩ := X
  obtain ⟨hx, hZ, hown, -, hby, hml, -⟩ := id C
  obtain ⟨T', h', X', e', K, E', -, -, -, -, st⟩ := Jvm.RoadKit.excL2 X hx hl hZ hown hok w1 w2 wT wi r hT0 hT hTK hBelow eh E N B B2 hmsg hcz hg (hsize.trans hml.symm) hs (hb hby hd) hf hlo hc hsl
  exact OFin.run st (k T' h' ⟨C, _, X', Fr.six NN hnew, e'⟩ (keep_of_kp K) E')
end Own3
def own_ok (x : Int32) : Prop := 0 ≤ x.toInt ∧ x.toInt ≤ 255
theorem own_c8 (x : Int32) : own_ok ((x &&& (255 : Int32)).toUInt32.toUInt16.toUInt32.toInt32) := by
  have e1 := c_and x (255 : Int32) (by decide)
  have e3 : (255 : Int32).toInt = 255 := by decide
  rw [i2c_mask]
  exact ⟨e1.1, by omega⟩
def own_g (ca cb : Int32) (j : Nat) : Int32 := if j = 0 then ca else cb
theorem own_gok {ca cb : Int32} (h1 : own_ok ca) (h2 : own_ok cb) (j : Nat) : own_ok (own_g ca cb j) := by
  unfold own_g
  split
  · exact h1
  · exact h2
/-! the exception's chain of constructors -/
/-! Throwable's tables from a sheet that says `lays` of suppressedExceptions at the subclass rc alone -/
def own_tw (rc : String) : List Jvm.Cond := (Jvm.Free.Exc.excAtoms rc).eraseIdx 18
theorem own_thr {args : Array Value} {s : State} {pl : Platform} {rc : String} {n : Nat} (hpl : pl.magicAccessors = ({} : Platform).magicAccessors) (ho : pl.frameOwnsMonitors = true) (hfi : pl.finalization = false) (wi : (Jvm.Cond.instantiable rc n).before args s = true) (W : ∀ x ∈ own_tw rc, x.before args s = true) :
    ∃ T : ThrowableC, T.Links pl s ∧ s.vm.findClass tN = some T.cT ∧ s.methodNamed? tFill = some T.fill ∧ s.methodNamed? tFill0 = some T.fill0 ∧ s.fieldFound? tN "stackTrace" steD = some (T.cT, T.kT, T.i17, T.fStack) ∧ s.fieldFound? tN "UNASSIGNED_STACK" steD = some (T.cT, T.kT, T.i13, T.fUnassigned) ∧ T.fStack.type = .array (.object "java/lang/StackTraceElement") ∧ T.fStack.name = "stackTrace" ∧ ∃ cell, s.heap[T.aS]? = some cell ∧ cell.vm.isStatics = true := by
  obtain ⟨cX, kX, hX, hkX, -⟩ := Cond.instantiable_spec wi
  -- the class and its two methods
  obtain ⟨⟨cc, j0⟩, me0, n0a, n0b, n0c, n0d, n0e, n0f⟩ := Cond.native_spec (W (.native tFill0) (by simp [own_tw, Jvm.Free.Exc.excAtoms, throwableAtoms]))
  have hc : s.vm.findClass tN = some cc := findClass_of_methodNamed n0a
  obtain ⟨k, hk, hnm⟩ := Vm.findClass_spec hc
  obtain ⟨-, k1, -, -, u2, -, -, -, -, u7⟩ := Cond.superclass_spec hc (W (.superclass tN "java/lang/Object") (by simp [own_tw, Jvm.Free.Exc.excAtoms, throwableAtoms]))
  cases hk.symm.trans u2
  obtain ⟨i0, me0', z1, z2, z3, z4, z5, z6, z7⟩ := Cond.ownMethod (x := tFill0) hc hk (W (.instanceMethod tFill0) (by simp [own_tw, Jvm.Free.Exc.excAtoms, throwableAtoms]))
  cases n0a.symm.trans z1
  cases n0b.symm.trans z2
  obtain ⟨iF, meF, y1, y2, y3, y4, y5, -, -⟩ := Cond.ownMethod (x := tFill) hc hk (W (.instanceMethod tFill) (by simp [own_tw, Jvm.Free.Exc.excAtoms, throwableAtoms]))
  obtain ⟨meF', cF, x1, x2, x3, x4, x5, x6, -, x8⟩ := Cond.codeSync_spec y1 (W (.codeSync tFill LibCode.Throwable.Fill.code 1 (some (.object tN))) (by simp [own_tw, Jvm.Free.Exc.excAtoms, throwableAtoms]))
  cases y2.symm.trans x1
  -- Object's constructor
  obtain ⟨mO, meO, o1, o2, o3, o4⟩ := Cond.instanceMethod_spec (W (.instanceMethod oInit) (by simp [own_tw, Jvm.Free.Exc.excAtoms, throwableAtoms]))
  obtain ⟨meO', cO, p1, p2, p3, -, -, p6, -, p8⟩ := Cond.code_spec o1 (W (.code oInit ⟨#[0xb1]⟩ 1 none) (by simp [own_tw, Jvm.Free.Exc.excAtoms, throwableAtoms]))
  cases o2.symm.trans p1
  obtain ⟨kO, hkO, hnO⟩ := Vm.findClass_spec (findClass_of_methodNamed o1)
  obtain ⟨q1, q2⟩ := name_of_methodNamed o1 o2
  -- the pool's entries
  obtain ⟨a1, b1, cf, l1, r1, hcf, e1⟩ := Cond.linkedMethod hc hk o1 (W (.methodLink tN 1 oInit) (by simp [own_tw, Jvm.Free.Exc.excAtoms, throwableAtoms])) pl hpl
  obtain ⟨a2, b2, cf2, l2, r2, hcf2, e2⟩ := Cond.linkedMethod hc hk y1 (W (.methodLink tN 27 tFill) (by simp [own_tw, Jvm.Free.Exc.excAtoms, throwableAtoms])) pl hpl
  cases hcf.symm.trans hcf2
  obtain ⟨a3, b3, cf3, l3, r3, hcf3, e3⟩ := Cond.linkedMethod hc hk n0a (W (.methodLink tN 202 tFill0) (by simp [own_tw, Jvm.Free.Exc.excAtoms, throwableAtoms])) pl hpl
  cases hcf.symm.trans hcf3
  -- its fields: suppressedExceptions by the subclass's word
  obtain ⟨c7, i7, f7, g71, g72, g73, g74, g75, g76, g77, g78⟩ := Cond.ownField (t := .object tN) hc hk (by decide +kernel) (W (.fieldLink tN 7 tN "cause" "Ljava/lang/Throwable;") (by simp [own_tw, Jvm.Free.Exc.excAtoms, throwableAtoms])) (W (.lays tN tN "cause" "Ljava/lang/Throwable;") (by simp [own_tw, Jvm.Free.Exc.excAtoms, throwableAtoms])) pl hpl
  obtain ⟨c17, i17, f17, g171, g172, g173, g174, g175, g176, g177, g178⟩ := Cond.ownField (t := .array (.object "java/lang/StackTraceElement")) hc hk (by decide +kernel) (W (.fieldLink tN 17 tN "stackTrace" steD) (by simp [own_tw, Jvm.Free.Exc.excAtoms, throwableAtoms])) (W (.lays tN tN "stackTrace" steD) (by simp [own_tw, Jvm.Free.Exc.excAtoms, throwableAtoms])) pl hpl
  have wS : (Jvm.Cond.lays rc tN "suppressedExceptions" listD).before args s = true := W _ (by simp [own_tw, Jvm.Free.Exc.excAtoms, throwableAtoms])
  obtain ⟨c24, i24, f24, g241, g242, g243, g244, g245, g246, g247, g248⟩ := Cond.ownField (C' := rc) (t := .object "java/util/List") hc hk (by decide +kernel) (W (.fieldLink tN 24 tN "suppressedExceptions" listD) (by simp [own_tw, Jvm.Free.Exc.excAtoms, throwableAtoms])) wS pl hpl
  obtain ⟨c13, i13, f13, aS, cellS, g131, g132, g133, g134, -, -, g137, g138, g139, -, -, g1312⟩ := Cond.ownStatic (t := .array (.object "java/lang/StackTraceElement")) hc hk (by decide +kernel) (W (.fieldLink tN 13 tN "UNASSIGNED_STACK" steD) (by simp [own_tw, Jvm.Free.Exc.excAtoms, throwableAtoms])) (W (.laysStatic tN "UNASSIGNED_STACK" steD) (by simp [own_tw, Jvm.Free.Exc.excAtoms, throwableAtoms])) pl hpl
  obtain ⟨c20, i20, f20, -, -, g201, g202, g203, g204, -⟩ := Cond.ownStatic (t := .object "java/util/List") hc hk (by decide +kernel) (W (.fieldLink tN 20 tN "SUPPRESSED_SENTINEL" listD) (by simp [own_tw, Jvm.Free.Exc.excAtoms, throwableAtoms])) (W (.laysStatic tN "SUPPRESSED_SENTINEL" listD) (by simp [own_tw, Jvm.Free.Exc.excAtoms, throwableAtoms])) pl hpl
  obtain ⟨-, -, cM, kM, iM, fM, -, -, hM, hM2, hM3, -⟩ := Cond.lays_spec (W (.lays tN tN "detailMessage" "Ljava/lang/String;") (by simp [own_tw, Jvm.Free.Exc.excAtoms, throwableAtoms]))
  -- apart, by the subclass's table
  obtain ⟨-, d17, D1, D2⟩ := Cond.laysAt hX hkX g178 (W (.lays rc tN "stackTrace" steD) (by simp [own_tw, Jvm.Free.Exc.excAtoms, throwableAtoms]))
  obtain ⟨-, d24, D3, D4⟩ := Cond.laysAt hX hkX g248 wS
  have ap := Cond.laysApart D1 D3 D2 D4 (by rw [g176, g246]; decide)
  have pars : ∀ {d : String} {ps : List FieldType} {mm : Method}, (parseMethodDescriptor d).map (·.parameters) = some ps → parseMethodDescriptor d = some mm.sig → mm.sig.parameters = ps := fun h1 h2 => by rw [h2] at h1; simpa using h1
  refine ⟨{ cT := cc, kT := k, cO := 0, aS := aS, fillIdx := iF, fill0Idx := j0, initSIdx := 0, obj := mO, kObj := kO, methFill := meF, methFill0 := me0, methInitS := meO, methObj := meO, codeFill := cF, codeInitS := cO, codeObj := cO, fBack := f7, fDepth := f7, fStack := f17, fCause := f7, fSupp := f24, fMsg := fM, fUnassigned := f13, fSentinel := f20, cfT := cf, ci1 := a1, n1 := b1, ci27 := a2, n27 := b2, ci202 := a3, n202 := b3, ci7 := c7, i7 := i7, ci13 := c13, i13 := i13, ci17 := c17, i17 := i17, ci20 := c20, i20 := i20, ci24 := c24, i24 := i24 }, ?_, hc, y1, n0a, g178, g1312, g177, g176, cellS, g138, g139⟩
  constructor
  case owns => exact ho
  case noFinalization => exact hfi
  case cls => exact hk
  case name => exact hnm
  case boot => exact Vm.findClass_boot hc hk
  case notInterface => exact u7
  case initialized => exact Cond.initialized_spec hc hk (W (.initialized tN) (by simp [own_tw, Jvm.Free.Exc.excAtoms, throwableAtoms]))
  case fillParams => exact pars (d := tFill.desc) (ps := []) (by decide +kernel) x8
  case fill0Params => exact pars (d := tFill0.desc) (ps := [.int]) (by decide +kernel) n0f
  case objParams => show meO.sig.parameters.length = 0; rw [pars (d := oInit.desc) (ps := []) (by decide +kernel) p8]; rfl
  case objFound => show lookupSpecial s.vm mO.cls "<init>" meO.desc = .method mO; rw [q2]; exact lookupSpecial_of_named o1 o2 o3
  case stackApartSupp => exact ap
  all_goals assumption
section Own4
variable {p : Program} {l : Launch} {e : Env} {R : Room} {s : State} {m : MethodId} {args : Array Value} {below : List Frame} {meth : Method} {c : Code} {T T' : State} {cells slots n0 : Nat} {Z : State} {a0 : Array Value} {h h' : Heap} {Q : Option Value → Heap → Prop} {FE : Outcome → State → List Loc → Prop} {g : JFrame} {y : MethodName} {bytes : ByteArray} {maxL : Nat} {ret : Option FieldType}
theorem own_twOk {rc : String} : (own_tw rc).all xOk = true := rfl
/-- the step `this.fillInStackTrace()` in a constructor of Throwable, on an object of class rc that the walk has made -/
theorem OAt.fill (X : OAt n0 Z y bytes maxL ret p l e R s m args below meth c T h cells slots) (hl : l.stackTraces = true) (hTK : s.vm.MethodsKnown) (hBelow : s.vm.FramesKnown below) {rc : String} {n : Nat} (wi : (Jvm.Cond.instantiable rc n).before a0 Z = true) (W : ∀ x ∈ own_tw rc, x.before a0 Z = true)
    (hT0 : ThS Z s.heap) {a : Addr} (E : Exa Z h a rc) (N : Unt h a) {u : Value} (hu : u.isRef = true) (SU : Sta Z h tN "UNASSIGNED_STACK" steD u) (FS : Fld Z h a tN "stackTrace" steD u) (FB : Fld Z h a tN "backtrace" Jvm.Free.Exc.obD .null) (hnew : n0 ≤ a)
    (hy : y.cls = tN) (hg : g.method = m) (hsize : g.locals.size = maxL) {rest : List Value} (hs : g.stack = .ref a :: rest) (hd : decode bytes g.pc = .ok (.invokevirtual 27, 3)) (hf : 3 ≤ R.frames) {Wd : Nat} (hW : 2 * g.monitorRoom + (rest.map fun v => v.category).sum ≤ Wd) (hlo : Wd + 42 ≤ R.locals) (hc : cells + 1 ≤ R.cells) (hsl : slots + 2752 ≤ R.slots)
    (k : ∀ T' h', OAt n0 Z y bytes maxL ret p l e R s m args below meth c T' h' (cells + 1) (slots + 2752) → Exa Z h' a rc → (∃ cl : Cell, h'[a]? = some cl ∧ cl.vm ≠ .unknown) → OFin n0 p e FE below Q T' { g with pc := g.pc + 3, stack := .ref a :: rest }) : OFin n0 p e FE below Q T g := by
  obtain ⟨C, locs, X, NN, eh⟩ := X
  obtain ⟨hx, hZ, hown, -, hby, hml, -⟩ := id C
  rw [hy] at hown
  have htr : e.platform.stackTraces = true := by rw [X.admits.platform]; exact hl
  have howns : e.platform.frameOwnsMonitors = true := by rw [X.admits.platform]
  have hfin : e.platform.finalization = false := by rw [X.admits.platform]
  have hpl : e.platform.magicAccessors = ({} : Platform).magicAccessors := by rw [X.admits.platform]
  have Ws : ∀ x ∈ own_tw rc, x.before args s = true := fun x hx => mvX hT0 hZ (List.all_eq_true.mp own_twOk x hx) (W x hx)
  have wis : (Jvm.Cond.instantiable rc n).before args s = true := mvT hZ wi
  obtain ⟨Th, L, t1, t2, t3, t4, t5, t6, t7, cS0, t8, t9⟩ := own_thr (pl := e.platform) hpl howns hfin wis Ws
  obtain ⟨cX, kX, hX, hkX, hord, -⟩ := Cond.instantiable_spec wis
  obtain ⟨cell, N1, N2, N3⟩ := N
  obtain ⟨cl1, cf1, kf1, i1, f1, A1, A2, A3, A4, A5, A6, A7⟩ := FS
  cases N1.symm.trans A1
  obtain ⟨k1', B1, -⟩ := State.fieldFound?_setVm (s := Z) hZ.alike A2
  have e4 := Option.some.inj (t4.symm.trans (show s.fieldFound? _ _ _ = _ from B1))
  simp only [Prod.mk.injEq] at e4
  obtain ⟨-, -, -, e4⟩ := e4
  obtain ⟨cf2, i2, k2, f2, st, cS, S1, S2, S3, S4, S5, S6, S7⟩ := SU
  obtain ⟨k2', B2, ek2⟩ := State.fieldFound?_setVm (s := Z) hZ.alike S1
  have e5 := Option.some.inj (t5.symm.trans (show s.fieldFound? _ _ _ = _ from B2))
  simp only [Prod.mk.injEq] at e5
  obtain ⟨-, e5k, -, e5⟩ := e5
  have eS : Th.aS = st := Option.some.inj (L.statics.symm.trans (by rw [e5k, ek2]; exact S4))
  obtain ⟨cl3, kE, E1, E2, E3, E4, E5⟩ := E
  cases N1.symm.trans E1
  obtain ⟨kE', G1, ekE⟩ := hZ.alike.2.2 _ _ E3
  have eX : cX = cell.cls := Option.some.inj (hX.symm.trans (by rw [hZ.alike.findClass]; exact E2))
  subst eX
  cases hkX.symm.trans G1
  have hsz : cell.slots.size = kX.instanceTypes.size := by
    have q := E5 (by have := hord; rw [ekE] at this; exact this)
    rw [ekE]; exact q
  have tk : ∀ {f : Field} {v : Value}, kX.instanceTypes[f.slot]? = some f.type → fits f.type v = true → Jvm.Takes s cell f v := fun {f v} h1 h2 => by
    obtain ⟨q1, q2⟩ := Takes.of_laid (v := v) hkX hord h1 h2
    exact ⟨by rw [hsz]; simpa using q1, by rw [N2]; exact q2⟩
  obtain ⟨tyS, -⟩ := Cond.laysAt hX hkX t4 (Ws (.lays rc tN "stackTrace" steD) (by simp [own_tw, Jvm.Free.Exc.excAtoms, throwableAtoms]))
  obtain ⟨c198, i198, fB, v1, v2, v3, v4, -, v6, v7, v8⟩ := Cond.ownField (t := .object "java/lang/Object") t1 L.cls (by decide +kernel) (Ws (.fieldLink tN 198 tN "backtrace" Jvm.Free.Exc.obD) (by simp [own_tw, Jvm.Free.Exc.excAtoms, throwableAtoms])) (Ws (.lays tN tN "backtrace" Jvm.Free.Exc.obD) (by simp [own_tw, Jvm.Free.Exc.excAtoms, throwableAtoms])) e.platform hpl
  obtain ⟨tyB, -⟩ := Cond.laysAt hX hkX v8 (Ws (.lays rc tN "backtrace" Jvm.Free.Exc.obD) (by simp [own_tw, Jvm.Free.Exc.excAtoms, throwableAtoms]))
  have wD : (Jvm.Cond.lays rc tN "depth" "I").before args s = true := Ws _ (by simp [own_tw, Jvm.Free.Exc.excAtoms, throwableAtoms])
  obtain ⟨-, -, cD, kD, iD, fD, -, -, d1, d2, -⟩ := Cond.lays_spec wD
  cases (Cond.lays_declared wD d1).symm.trans t1
  obtain ⟨d3, d4⟩ := State.fieldFound?_spec d1
  cases d3.symm.trans L.cls
  obtain ⟨d5, d6⟩ := State.fieldFound?_type d1 (t := .int) (by decide +kernel)
  obtain ⟨tyD, -⟩ := Cond.laysAt hX hkX d1 wD
  have hfb := Cond.soleField_find t1 L.cls (Ws (.soleField tN "backtrace") (by simp [own_tw, Jvm.Free.Exc.excAtoms, throwableAtoms])) v3 v6 v4
  have hfd := Cond.soleField_find t1 L.cls (Ws (.soleField tN "depth") (by simp [own_tw, Jvm.Free.Exc.excAtoms, throwableAtoms])) d4 d5 d2
  obtain ⟨comp, cO, kO, -, -, o1, o2, o3⟩ := Cond.arrayOver_spec (Ws (.arrayOver (.object "java/lang/Object")) (by simp [own_tw, Jvm.Free.Exc.excAtoms, throwableAtoms]))
  have hsel0 : selectMethod e.platform s.vm cell.cls Th.fill0 = .method Th.fill0 := by
    obtain ⟨c2, r2, m2, q1, q2, q3, q4, -⟩ := Cond.selects_spec (Ws (.selects rc tFill0 tFill0) (by simp [own_tw, Jvm.Free.Exc.excAtoms, throwableAtoms]))
    cases q1.symm.trans hX
    cases q2.symm.trans (State.methodFound?_of_named t3 (by decide))
    cases q3.symm.trans t3
    rw [Launch.admits_selectMethod X.admits]; exact q4
  have hBk : cell.slots[fB.slot]? = some .null := by
    obtain ⟨cl9, cf9, kf9, i9, f9, H1, H2, -, -, -, -, H7⟩ := FB
    cases N1.symm.trans H1
    obtain ⟨k9, B9, -⟩ := State.fieldFound?_setVm (s := Z) hZ.alike H2
    have e9 := Option.some.inj (v8.symm.trans (show s.fieldFound? _ _ _ = _ from B9))
    simp only [Prod.mk.injEq] at e9
    rw [e9.2.2.2]; exact H7
  have hSE := Ws (.selects rc tFill tFill) (by simp [own_tw, Jvm.Free.Exc.excAtoms, throwableAtoms])
  have neS : Th.aS ≠ a := fun z => by
    rw [eS] at z; subst z
    cases S5.symm.trans N1
    rw [N2] at S6; cases S6
  have := X.virtualBack hx (own := tN) (C := rc) (index := 27) (y := tFill) (z := tFill) hown (Ws (.methodLink tN 27 tFill) (by simp [own_tw, Jvm.Free.Exc.excAtoms, throwableAtoms])) (Ws (.declares tFill) (by simp [own_tw, Jvm.Free.Exc.excAtoms, throwableAtoms])) (notFace_of_selects hSE) hSE (Ws (.instanceMethod tFill) (by simp [own_tw, Jvm.Free.Exc.excAtoms, throwableAtoms])) (by decide)
    (Jvm.Free.Exc.fillPaysAny (l := l) (R := R) (W := Wd) hx htr Th L t2 (u0 := ⟨u, hu⟩) (self := a) (cell := cell) (cellS := cS) (fun _ => by rw [N2]; simp) (by rw [N2]; simp) (by rw [N3]) (by rw [N3]) (by rw [e4]; exact A7) hsel0 neS (fun z => by rw [z] at S6; cases S6) (by rw [e5]; exact S7) (tk tyS (by rw [t6]; exact fits_refV_array _ ⟨u, hu⟩))
      ⟨{ ci198 := c198, i198 := i198, fBack := fB }, ⟨v1, v2, v3, v4⟩, hBk⟩ hTK hBelow t1 o3 o1 o2 hfb hfd (fun x => tk tyB (by rw [v7]; rfl)) (fun x => tk tyD (by rw [d6]; rfl)) (by omega) hlo)
    (b := a) (cB := cell.cls) hX ⟨cell, by rw [eh]; exact N1, rfl, by rw [N2]; rfl⟩ hg (hsize.trans hml.symm) (Steps.refl _) (argsL := []) (rest := rest) (lenOf (show parseMethodDescriptor tFill.desc = some ⟨[], some (.object tN)⟩ by decide +kernel) rfl) hs hW (hb hby hd)
    (fun _ _ => ⟨rfl, hc, hsl, by show T.heap[a]? = _; rw [eh]; exact N1, by show T.heap[Th.aS]? = _; rw [eh, eS]; exact S5⟩)
  obtain ⟨v6', _, ⟨T6, L6, c6, n6⟩, -, X6, ⟨hv6, C6, nq, hnq, hD6, q1, q2, q3, q4, hL6, hc6, hn6⟩, come⟩ := this
  dsimp only [Pt.U, Pt.locs, Pt.cells, Pt.slots] at X6 hD6 hL6 hc6 hn6 come
  subst hv6 hL6 hc6 hn6
  refine OFin.run (fun t kk => come.trans kk) (k T6 T6.heap ⟨C, _, X6.more (Nat.le_refl _) (Nat.add_le_add_left hnq _), NN.app (fun y hy => ?_), rfl⟩ ⟨C6, kE, hD6, by rw [q1]; exact E2, by rw [q1]; exact E3, by rw [q2]; exact E4, fun z => by rw [q3]; exact E5 z⟩ ⟨C6, hD6, by rw [q2, N2]; simp⟩)
  simp only [List.mem_cons, List.not_mem_nil, or_false] at hy
  rcases hy with rfl | rfl | rfl <;> exact hnew
/-- the addresses from a on -/
def own_ws (a : Addr) (h : Heap) : List Addr := (List.range h.size).filter (fun x => decide (a ≤ x))
theorem own_ws.le {a x : Addr} {h : Heap} (q : x ∈ own_ws a h) : a ≤ x := of_decide_eq_true (List.mem_filter.mp q).2
theorem own_knWr {a b : Addr} {sl : Nat} {v : Value} (W : Wr h h' b sl v) (N : ∃ cl : Cell, h[a]? = some cl ∧ cl.vm ≠ .unknown) : ∃ cl : Cell, h'[a]? = some cl ∧ cl.vm ≠ .unknown := by
  obtain ⟨cl, q1, q2⟩ := N
  obtain ⟨c', e1, -, e3, -⟩ := wr_at W q1
  exact ⟨c', e1, by rw [e3]; exact q2⟩
/-- what lies below a is as at the start -/
theorem OAt.keep0 {a : Addr} {h0 : Heap} (X : OAt a Z y bytes maxL ret p l e R s m args below meth c T h cells slots) (e0 : s.heap = h0) : Keep h0 h (own_ws a h0) := by
  obtain ⟨-, locs, X, N, eh⟩ := X
  have S := X.same
  subst e0
  have S2 : s.heap.size ≤ h.size := by rw [← eh]; exact S.2.1
  have S6 : ∀ b cl, s.heap[b]? = some cl → ∃ c' : Cell, h[b]? = some c' ∧ c' = { cl with slots := c'.slots } ∧ c'.slots.size = cl.slots.size ∧ ∀ i, (⟨b, i⟩ : Loc) ∉ locs → c'.slots[i]? = cl.slots[i]? := by rw [← eh]; exact S.2.2.2.2.2
  refine ⟨S2, fun x cl q ne => ?_, fun x cl q => ?_⟩
  · obtain ⟨c', q1, q2, q3, q4⟩ := S6 x cl q
    have hx : ¬ a ≤ x := fun z => ne (List.mem_filter.mpr ⟨List.mem_range.mpr (Array.getElem?_eq_some_iff.mp q).1, decide_eq_true z⟩)
    have es : c'.slots = cl.slots := Array.ext_getElem? fun i => q4 i fun hm => hx (N _ hm)
    rw [q1, q2, es]
  · obtain ⟨c', q1, q2, q3, -⟩ := S6 x cl q
    exact ⟨c', q1, by rw [q2], by rw [q2], q3⟩
end Own4
section Own5
variable {p : Program} {l : Launch} {e : Env} {R : Room} {s : State} {m : MethodId} {args : Array Value} {below : List Frame} {meth : Method} {c : Code} {T T' : State} {cells slots n0 : Nat} {Z : State} {a0 : Array Value} {h h' : Heap} {Q : Option Value → Heap → Prop} {FE : Outcome → State → List Loc → Prop} {g : JFrame} {y : MethodName} {bytes : ByteArray} {maxL : Nat} {ret : Option FieldType}
/-- a narrow contract beneath which a stack trace is filled in -/
abbrev OMeetsK (l : Launch) (Z : State) (y : MethodName) (ws : List Jvm.Cond) (bytes : ByteArray) (maxL : Nat) (ret : Option FieldType) (rm : Room) (as' : Array Value) (h0 : Heap) (n0 : Nat) (Q : Option Value → Heap → Prop) : Prop :=
  MetFree l y (head1 (Jvm.Cond.code y bytes maxL ret :: ws) rm) (fun a U => a = as' ∧ Z.Warmed39 U.vm ∧ U.heap = h0) (fun _ _ bl st _ => st.vm.MethodsKnown ∧ st.vm.FramesKnown bl) (fun _ U o U' => ∃ v L, o = .returned v ∧ (Q v U'.heap ∧ Fr n0 L) ∧ FrameEnd U o U' L rm.cells rm.slots)
theorem o_enterK {ws : List Jvm.Cond} {rm : Room} {as' : Array Value} {h0 : Heap} (pn : plainFor y = true)
    (body : ∀ (p : Program) (e : Env) (s : State) (m : MethodId) (below : List Frame) (meth : Method) (c : Code) (s₁ : State), OAt n0 Z y bytes maxL ret p l e rm s m as' below meth c s₁ h0 0 0 → s.vm.MethodsKnown → s.vm.FramesKnown below → s.heap = h0 → OFin n0 p e (fun o t L => FrameEnd s o t L rm.cells rm.slots) below Q s₁ (entryFrame m as' maxL)) :
    OMeetsK l Z y ws bytes maxL ret rm as' h0 n0 Q := by
  refine MetFree.of_bodySF pn hisR ?_
  intro p e s m args below meth c s₁ Bd hml0 hP hK
  obtain ⟨rfl, hZ, hh⟩ := hP
  have e0 : s₁.heap = h0 := by rw [← hh, Bd.state]; rfl
  exact body p e s m below meth c s₁ ⟨⟨Bd.exec, hZ, findClass_of_methodNamed Bd.named, (name_of_methodNamed Bd.named Bd.method).1, Bd.bytes, hml0, Bd.returns, Bd.notSynchronized⟩, [], Stand.of_body Bd, Fr.nil n0, e0⟩ hK.1 hK.2 hh
theorem OMeetsK.le {ws : List Jvm.Cond} {rm : Room} {as' : Array Value} {h0 : Heap} {n1 : Nat} (hM : OMeetsK l Z y ws bytes maxL ret rm as' h0 n1 Q) (q : n0 ≤ n1) : OMeetsK l Z y ws bytes maxL ret rm as' h0 n0 Q := fun p e ha hc hk s m args below hf happ hP hK => by
  obtain ⟨nn, o, h1, h2, h3, v, L, e1, ⟨hQ, N⟩, hF⟩ := hM p e ha hc hk s m args below hf happ hP hK
  exact ⟨nn, o, h1, h2, h3, v, L, e1, ⟨hQ, fun y hy => Nat.le_trans q (N y hy)⟩, hF⟩
theorem OAt.callIK (X : OAt n0 Z y bytes maxL ret p l e R s m args below meth c T h cells slots) (hTK : s.vm.MethodsKnown) (hBl : s.vm.FramesKnown below) {index : Nat} {y' : MethodName} {bytes' : ByteArray} {maxL' : Nat} (hy1 : y'.name = "<init>") (w1 : (Jvm.Cond.methodLink y.cls index y').before a0 Z = true) (w2 : (Jvm.Cond.instanceMethod y').before a0 Z = true) (w3 : (Jvm.Cond.initialized y'.cls).before a0 Z = true) (w4 : (Jvm.Cond.code y' bytes' maxL' none).before a0 Z = true)
    (hy : y'.cls ≠ "java/lang/invoke/MethodHandle" ∧ y'.cls ≠ "java/lang/invoke/VarHandle") {rm : Room} {Qc : Option Value → Heap → Prop} {a : Addr} {argsL rest : List Value} (hM : OMeetsK l Z y' [] bytes' maxL' none rm (Value.ref a :: argsL).toArray h n0 Qc)
    (hg : g.method = m) (hsize : g.locals.size = maxL) {ps : List FieldType} {r : Option FieldType} (hpd : parseMethodDescriptor y'.desc = some ⟨ps, r⟩) (hlen : argsL.length = ps.length) (hs : g.stack = argsL.reverse ++ .ref a :: rest) {W : Nat} (hW : 2 * g.monitorRoom + (rest.map fun v => v.category).sum ≤ W) (hd : decode bytes g.pc = .ok (.invokespecial index, 3))
    (hf : rm.frames + 1 ≤ R.frames) (hl : W + (maxL' + 11) + rm.locals ≤ R.locals) (hc : cells + rm.cells ≤ R.cells) (hn : slots + rm.slots ≤ R.slots)
    (k : ∀ v T' h', OAt n0 Z y bytes maxL ret p l e R s m args below meth c T' h' (cells + rm.cells) (slots + rm.slots) → Qc v h' → OFin n0 p e FE below Q T' { g with pc := g.pc + 3, stack := v.toList ++ rest }) : OFin n0 p e FE below Q T g := by
  obtain ⟨C, locs, X, N, eh⟩ := X
  obtain ⟨hx, hZ, hown, -, hby, hml, -⟩ := id C
  obtain ⟨v, _, ⟨T1, L1, k1, n1⟩, -, X1, ⟨Lc, hQ, l1, y1, z1⟩, st⟩ := X.specialBack hx hy1 hown (mvT hZ w1) (mvT hZ w2) (mvT hZ w4) hy
    (backOfKL (W := W) (Q := fun v h L => Qc v h ∧ Fr n0 L) hM hZ w4 w3 hf hl hTK hBl) hg (hsize.trans hml.symm) (Steps.refl _) (lenOf hpd hlen) hs hW (hb hby hd) (fun _ _ => ⟨rfl, eh, hc, hn⟩)
  dsimp only [Pt.U, Pt.locs, Pt.cells, Pt.slots] at X1 l1 y1 z1 st hQ
  subst l1 y1 z1
  exact OFin.run (fun t k => st.trans k) (k v T1 _ ⟨C, _, X1, N.app hQ.2, rfl⟩ hQ.1)
end Own5
theorem own_tws {Z : State} {a0 : Array Value} (hw : ∀ d ∈ tables_1, d.before a0 Z = true) : ∀ x ∈ own_tw "com/example/lean_lock/leanlock/LockUnavailableException", x.before a0 Z = true := fun x hx => hw x ((show ∀ x ∈ own_tw "com/example/lean_lock/leanlock/LockUnavailableException", x ∈ tables_1 by decide +kernel) x hx)
theorem pn_java_lang_Throwable : plainName "java/lang/Throwable" = true := by first | (simp [plainName, overriddenIn]; done) | decide +kernel
theorem d26_0 : decode jdk_78_method_2_code 0 = .ok (.aload_n 0, 1) := by decide +kernel
theorem d26_1 : decode jdk_78_method_2_code 1 = .ok (.invokespecial 1, 3) := by decide +kernel
theorem d26_4 : decode jdk_78_method_2_code 4 = .ok (.aload_n 0, 1) := by decide +kernel
theorem d26_5 : decode jdk_78_method_2_code 5 = .ok (.aload_n 0, 1) := by decide +kernel
theorem d26_6 : decode jdk_78_method_2_code 6 = .ok (.putfield 7, 3) := by decide +kernel
theorem d26_9 : decode jdk_78_method_2_code 9 = .ok (.aload_n 0, 1) := by decide +kernel
theorem d26_10 : decode jdk_78_method_2_code 10 = .ok (.getstatic 13, 3) := by decide +kernel
theorem d26_13 : decode jdk_78_method_2_code 13 = .ok (.putfield 17, 3) := by decide +kernel
theorem d26_16 : decode jdk_78_method_2_code 16 = .ok (.aload_n 0, 1) := by decide +kernel
theorem d26_17 : decode jdk_78_method_2_code 17 = .ok (.getstatic 20, 3) := by decide +kernel
theorem d26_20 : decode jdk_78_method_2_code 20 = .ok (.putfield 24, 3) := by decide +kernel
theorem d26_23 : decode jdk_78_method_2_code 23 = .ok (.aload_n 0, 1) := by decide +kernel
theorem d26_24 : decode jdk_78_method_2_code 24 = .ok (.invokevirtual 27, 3) := by decide +kernel
theorem d26_27 : decode jdk_78_method_2_code 27 = .ok (.pop, 1) := by decide +kernel
theorem d26_28 : decode jdk_78_method_2_code 28 = .ok (.aload_n 0, 1) := by decide +kernel
theorem d26_29 : decode jdk_78_method_2_code 29 = .ok (.aload_n 1, 1) := by decide +kernel
theorem d26_30 : decode jdk_78_method_2_code 30 = .ok (.putfield 31, 3) := by decide +kernel
theorem d26_33 : decode jdk_78_method_2_code 33 = .ok (.return_, 1) := by decide +kernel
set_option maxRecDepth 65536 in
set_option maxHeartbeats 40000000 in
theorem tx1 (l : Launch) (Z : State) (a0 : Array Value) (hw : ∀ d ∈ tables_1, d.before a0 Z = true) (a1 sa : Addr) (u sn : Value) (h0 : Heap) (n0 : Nat) (E : Exa Z h0 a1 "com/example/lean_lock/leanlock/LockUnavailableException") (N : Unt h0 a1) (FB : Fld Z h0 a1 "java/lang/Throwable" "backtrace" "Ljava/lang/Object;" .null) (hn0 : a1 = n0) (SU : Sta Z h0 "java/lang/Throwable" "UNASSIGNED_STACK" "[Ljava/lang/StackTraceElement;" u) (hu : u.isRef = true) (SN : Sta Z h0 "java/lang/Throwable" "SUPPRESSED_SENTINEL" "Ljava/util/List;" sn) (hsn : sn.isRef = true) (hl : l.stackTraces = true) (T0_ : ThS Z h0) :
    OMeetsK l Z (⟨"java/lang/Throwable", "<init>", "(Ljava/lang/String;)V"⟩ : MethodName) [] jdk_78_method_2_code 2 none ({ frames := 3, cells := 1, slots := 2752, locals := 42 } : Room) #[(.ref a1), (.ref sa)] h0 n0 (fun v h => v = none ∧ Keep h0 h (own_ws a1 h0) ∧ Exa Z h a1 "com/example/lean_lock/leanlock/LockUnavailableException") := by
  subst hn0
  refine o_enterK (Z := Z) (plainFor_of_name pn_java_lang_Throwable) ?_
  intro p e s m below meth c T0 X0 hTK hBl hh
  refine OFin.cast (g' := (mkF m 0 #[.val (.ref a1), .val (.ref sa)] [])) (by first | (simp [entryFrame, mkF, argsToLocals, Value.category]; done) | rfl) ?_
  obtain ⟨o1, F1⟩ := fld_laid (O := "java/lang/Throwable") (n := "cause") (d := "Ljava/lang/Throwable;") E N.known (hw _ (List.mem_of_getElem? (i := 31) rfl)) (Or.inl (hw _ (List.mem_of_getElem? (i := 55) rfl)))
  obtain ⟨o2, F2⟩ := fld_laid (O := "java/lang/Throwable") (n := "stackTrace") (d := "[Ljava/lang/StackTraceElement;") E N.known (hw _ (List.mem_of_getElem? (i := 31) rfl)) (Or.inl (hw _ (List.mem_of_getElem? (i := 58) rfl)))
  obtain ⟨o3, F3⟩ := fld_laid (O := "java/lang/Throwable") (n := "suppressedExceptions") (d := "Ljava/util/List;") E N.known (hw _ (List.mem_of_getElem? (i := 31) rfl)) (Or.inl (hw _ (List.mem_of_getElem? (i := 61) rfl)))
  have n_backtrace_cause := (slot_ne (Or.inl (hw _ (List.mem_of_getElem? (i := 86) rfl))) (Or.inl (hw _ (List.mem_of_getElem? (i := 55) rfl))) (by decide) (t := (.object "java/lang/Object")) (t' := (.object "java/lang/Throwable")) (by decide) (by decide))
  have n_backtrace_stackTrace := (slot_ne (Or.inl (hw _ (List.mem_of_getElem? (i := 86) rfl))) (Or.inl (hw _ (List.mem_of_getElem? (i := 58) rfl))) (by decide) (t := (.object "java/lang/Object")) (t' := (.array (.object "java/lang/StackTraceElement"))) (by decide) (by decide))
  have n_backtrace_suppressedExceptions := (slot_ne (Or.inl (hw _ (List.mem_of_getElem? (i := 86) rfl))) (Or.inl (hw _ (List.mem_of_getElem? (i := 61) rfl))) (by decide) (t := (.object "java/lang/Object")) (t' := (.object "java/util/List")) (by decide) (by decide))
  have n_stackTrace_cause := (slot_ne (Or.inl (hw _ (List.mem_of_getElem? (i := 58) rfl))) (Or.inl (hw _ (List.mem_of_getElem? (i := 55) rfl))) (by decide) (t := (.array (.object "java/lang/StackTraceElement"))) (t' := (.object "java/lang/Throwable")) (by decide) (by decide))
  have n_stackTrace_suppressedExceptions := (slot_ne (Or.inl (hw _ (List.mem_of_getElem? (i := 58) rfl))) (Or.inl (hw _ (List.mem_of_getElem? (i := 61) rfl))) (by decide) (t := (.array (.object "java/lang/StackTraceElement"))) (t' := (.object "java/util/List")) (by decide) (by decide))
  have n_suppressedExceptions_cause := (slot_ne (Or.inl (hw _ (List.mem_of_getElem? (i := 61) rfl))) (Or.inl (hw _ (List.mem_of_getElem? (i := 55) rfl))) (by decide) (t := (.object "java/util/List")) (t' := (.object "java/lang/Throwable")) (by decide) (by decide))
  have n_suppressedExceptions_stackTrace := (slot_ne (Or.inl (hw _ (List.mem_of_getElem? (i := 61) rfl))) (Or.inl (hw _ (List.mem_of_getElem? (i := 58) rfl))) (by decide) (t := (.object "java/util/List")) (t' := (.array (.object "java/lang/StackTraceElement"))) (by decide) (by decide))
  refine X0.step (fun hA hx hq t_ k_ => XS.aloadN hA hx rfl (hb hq d26_0) rfl rfl k_) ?_
  show OFin _ _ _ _ _ _ T0 (mkF m 1 #[.val (.ref a1), .val (.ref sa)] [(.ref a1)])
  refine X0.initO (hw _ (List.mem_of_getElem? (i := 53) rfl)) (hw _ (List.mem_of_getElem? (i := 12) rfl)) (hw _ (List.mem_of_getElem? (i := 13) rfl)) (g := (mkF m 1 #[.val (.ref a1), .val (.ref sa)] [(.ref a1)])) rfl rfl rfl d26_1 (by decide) (W := 0) (by show 2 * 0 + _ ≤ _; exact Nat.le_of_eq rfl) (by decide) ?_
  intro T1 X1
  show OFin _ _ _ _ _ _ T1 (mkF m 4 #[.val (.ref a1), .val (.ref sa)] [])
  refine X1.step (fun hA hx hq t_ k_ => XS.aloadN hA hx rfl (hb hq d26_4) rfl rfl k_) ?_
  show OFin _ _ _ _ _ _ T1 (mkF m 5 #[.val (.ref a1), .val (.ref sa)] [(.ref a1)])
  refine X1.step (fun hA hx hq t_ k_ => XS.aloadN hA hx rfl (hb hq d26_5) rfl rfl k_) ?_
  show OFin _ _ _ _ _ _ T1 (mkF m 6 #[.val (.ref a1), .val (.ref sa)] [(.ref a1), (.ref a1)])
  refine X1.putF (hw _ (List.mem_of_getElem? (i := 54) rfl)) F1 E (Or.inl (hw _ (List.mem_of_getElem? (i := 55) rfl))) (hw _ (List.mem_of_getElem? (i := 31) rfl)) (ty := (.object "java/lang/Throwable")) (by decide) rfl rfl (Nat.le_refl _) (g := (mkF m 6 #[.val (.ref a1), .val (.ref sa)] [(.ref a1), (.ref a1)])) rfl rfl d26_6 ?_
  intro T2 h2 X2 W2
  show OFin _ _ _ _ _ _ T2 (mkF m 9 #[.val (.ref a1), .val (.ref sa)] [])
  refine X2.step (fun hA hx hq t_ k_ => XS.aloadN hA hx rfl (hb hq d26_9) rfl rfl k_) ?_
  show OFin _ _ _ _ _ _ T2 (mkF m 10 #[.val (.ref a1), .val (.ref sa)] [(.ref a1)])
  refine X2.getS (hw _ (List.mem_of_getElem? (i := 56) rfl)) (SU.wr W2) (g := (mkF m 10 #[.val (.ref a1), .val (.ref sa)] [(.ref a1)])) rfl d26_10 ?_
  intro T3 X3
  show OFin _ _ _ _ _ _ T3 (mkF m 13 #[.val (.ref a1), .val (.ref sa)] [u, (.ref a1)])
  refine X3.putF (hw _ (List.mem_of_getElem? (i := 57) rfl)) (F2.other W2 (Or.inr n_stackTrace_cause)) (E.wr W2) (Or.inl (hw _ (List.mem_of_getElem? (i := 58) rfl))) (hw _ (List.mem_of_getElem? (i := 31) rfl)) (ty := (.array (.object "java/lang/StackTraceElement"))) (by decide) (by rcases ref_cases hu with z | ⟨_, z⟩ <;> rw [z] <;> rfl) (by rcases ref_cases hu with z | ⟨_, z⟩ <;> rw [z] <;> rfl) (Nat.le_refl _) (g := (mkF m 13 #[.val (.ref a1), .val (.ref sa)] [u, (.ref a1)])) rfl rfl d26_13 ?_
  intro T4 h4 X4 W4
  show OFin _ _ _ _ _ _ T4 (mkF m 16 #[.val (.ref a1), .val (.ref sa)] [])
  refine X4.step (fun hA hx hq t_ k_ => XS.aloadN hA hx rfl (hb hq d26_16) rfl rfl k_) ?_
  show OFin _ _ _ _ _ _ T4 (mkF m 17 #[.val (.ref a1), .val (.ref sa)] [(.ref a1)])
  refine X4.getS (hw _ (List.mem_of_getElem? (i := 59) rfl)) ((SN.wr W2).wr W4) (g := (mkF m 17 #[.val (.ref a1), .val (.ref sa)] [(.ref a1)])) rfl d26_17 ?_
  intro T5 X5
  show OFin _ _ _ _ _ _ T5 (mkF m 20 #[.val (.ref a1), .val (.ref sa)] [sn, (.ref a1)])
  refine X5.putF (hw _ (List.mem_of_getElem? (i := 60) rfl)) ((F3.other W2 (Or.inr n_suppressedExceptions_cause)).other W4 (Or.inr n_suppressedExceptions_stackTrace)) ((E.wr W2).wr W4) (Or.inl (hw _ (List.mem_of_getElem? (i := 61) rfl))) (hw _ (List.mem_of_getElem? (i := 31) rfl)) (ty := (.object "java/util/List")) (by decide) (by rcases ref_cases hsn with z | ⟨_, z⟩ <;> rw [z] <;> rfl) (by rcases ref_cases hsn with z | ⟨_, z⟩ <;> rw [z] <;> rfl) (Nat.le_refl _) (g := (mkF m 20 #[.val (.ref a1), .val (.ref sa)] [sn, (.ref a1)])) rfl rfl d26_20 ?_
  intro T6 h6 X6 W6
  show OFin _ _ _ _ _ _ T6 (mkF m 23 #[.val (.ref a1), .val (.ref sa)] [])
  refine X6.step (fun hA hx hq t_ k_ => XS.aloadN hA hx rfl (hb hq d26_23) rfl rfl k_) ?_
  show OFin _ _ _ _ _ _ T6 (mkF m 24 #[.val (.ref a1), .val (.ref sa)] [(.ref a1)])
  refine X6.fill hl hTK hBl (hw _ (List.mem_of_getElem? (i := 31) rfl)) (own_tws hw) (by rw [hh]; exact T0_) (((E.wr W2).wr W4).wr W6) (((N.wr W2).wr W4).wr W6) hu (((SU.wr W2).wr W4).wr W6) (((F2.other W2 (Or.inr n_stackTrace_cause)).same W4).other W6 (Or.inr n_stackTrace_suppressedExceptions)) (((FB.other W2 (Or.inr n_backtrace_cause)).other W4 (Or.inr n_backtrace_stackTrace)).other W6 (Or.inr n_backtrace_suppressedExceptions)) (Nat.le_refl _) rfl (g := (mkF m 24 #[.val (.ref a1), .val (.ref sa)] [(.ref a1)])) rfl rfl rfl d26_24 (by decide) (Wd := 0) (by show 2 * 0 + _ ≤ _; exact Nat.le_of_eq rfl) (by decide) (by decide) (by decide) ?_
  intro T7 h7 X7 E7 N7
  show OFin _ _ _ _ _ _ T7 (mkF m 27 #[.val (.ref a1), .val (.ref sa)] [(.ref a1)])
  refine X7.step (fun hA hx hq t_ k_ => XS.pop hA hx rfl (hb hq d26_27) rfl rfl k_) ?_
  show OFin _ _ _ _ _ _ T7 (mkF m 28 #[.val (.ref a1), .val (.ref sa)] [])
  refine X7.step (fun hA hx hq t_ k_ => XS.aloadN hA hx rfl (hb hq d26_28) rfl rfl k_) ?_
  show OFin _ _ _ _ _ _ T7 (mkF m 29 #[.val (.ref a1), .val (.ref sa)] [(.ref a1)])
  refine X7.step (fun hA hx hq t_ k_ => XS.aloadN hA hx rfl (hb hq d26_29) rfl rfl k_) ?_
  show OFin _ _ _ _ _ _ T7 (mkF m 30 #[.val (.ref a1), .val (.ref sa)] [(.ref sa), (.ref a1)])
  obtain ⟨o4, F4⟩ := fld_laid (O := "java/lang/Throwable") (n := "detailMessage") (d := "Ljava/lang/String;") E7 N7 (hw _ (List.mem_of_getElem? (i := 31) rfl)) (Or.inl (hw _ (List.mem_of_getElem? (i := 85) rfl)))
  refine X7.putF (hw _ (List.mem_of_getElem? (i := 89) rfl)) F4 E7 (Or.inl (hw _ (List.mem_of_getElem? (i := 85) rfl))) (hw _ (List.mem_of_getElem? (i := 31) rfl)) (ty := (.object "java/lang/String")) (by decide) rfl rfl (Nat.le_refl _) (g := (mkF m 30 #[.val (.ref a1), .val (.ref sa)] [(.ref sa), (.ref a1)])) rfl rfl d26_30 ?_
  intro T8 h8 X8 W8
  show OFin _ _ _ _ _ _ T8 (mkF m 33 #[.val (.ref a1), .val (.ref sa)] [])
  exact X8.retV d26_33 (oN (by decide) (by decide)) (⟨rfl, X8.keep0 hh, E7.wr W8⟩)
theorem pn_java_lang_Exception : plainName "java/lang/Exception" = true := by first | (simp [plainName, overriddenIn]; done) | decide +kernel
theorem d25_0 : decode jdk_59_method_2_code 0 = .ok (.aload_n 0, 1) := by decide +kernel
theorem d25_1 : decode jdk_59_method_2_code 1 = .ok (.aload_n 1, 1) := by decide +kernel
theorem d25_2 : decode jdk_59_method_2_code 2 = .ok (.invokespecial 7, 3) := by decide +kernel
theorem pd_pLjava_lang_String_r_V : parseMethodDescriptor "(Ljava/lang/String;)V" = some ⟨[(.object "java/lang/String")], none⟩ := by decide +kernel
theorem d25_5 : decode jdk_59_method_2_code 5 = .ok (.return_, 1) := by decide +kernel
set_option maxRecDepth 65536 in
set_option maxHeartbeats 40000000 in
theorem ty1 (l : Launch) (Z : State) (a0 : Array Value) (hw : ∀ d ∈ tables_1, d.before a0 Z = true) (a1 sa : Addr) (u sn : Value) (h0 : Heap) (n0 : Nat) (E : Exa Z h0 a1 "com/example/lean_lock/leanlock/LockUnavailableException") (N : Unt h0 a1) (FB : Fld Z h0 a1 "java/lang/Throwable" "backtrace" "Ljava/lang/Object;" .null) (hn0 : a1 = n0) (SU : Sta Z h0 "java/lang/Throwable" "UNASSIGNED_STACK" "[Ljava/lang/StackTraceElement;" u) (hu : u.isRef = true) (SN : Sta Z h0 "java/lang/Throwable" "SUPPRESSED_SENTINEL" "Ljava/util/List;" sn) (hsn : sn.isRef = true) (hl : l.stackTraces = true) (T0_ : ThS Z h0) :
    OMeetsK l Z (⟨"java/lang/Exception", "<init>", "(Ljava/lang/String;)V"⟩ : MethodName) [] jdk_59_method_2_code 2 none ({ frames := 4, cells := 1, slots := 2752, locals := 55 } : Room) #[(.ref a1), (.ref sa)] h0 n0 (fun v h => v = none ∧ Keep h0 h (own_ws a1 h0) ∧ Exa Z h a1 "com/example/lean_lock/leanlock/LockUnavailableException") := by
  subst hn0
  refine o_enterK (Z := Z) (plainFor_of_name pn_java_lang_Exception) ?_
  intro p e s m below meth c T0 X0 hTK hBl hh
  refine OFin.cast (g' := (mkF m 0 #[.val (.ref a1), .val (.ref sa)] [])) (by first | (simp [entryFrame, mkF, argsToLocals, Value.category]; done) | rfl) ?_
  refine X0.step (fun hA hx hq t_ k_ => XS.aloadN hA hx rfl (hb hq d25_0) rfl rfl k_) ?_
  show OFin _ _ _ _ _ _ T0 (mkF m 1 #[.val (.ref a1), .val (.ref sa)] [(.ref a1)])
  refine X0.step (fun hA hx hq t_ k_ => XS.aloadN hA hx rfl (hb hq d25_1) rfl rfl k_) ?_
  show OFin _ _ _ _ _ _ T0 (mkF m 2 #[.val (.ref a1), .val (.ref sa)] [(.ref sa), (.ref a1)])
  refine X0.callIK hTK hBl (y' := (⟨"java/lang/Throwable", "<init>", "(Ljava/lang/String;)V"⟩ : MethodName)) rfl (hw _ (List.mem_of_getElem? (i := 171) rfl)) (hw _ (List.mem_of_getElem? (i := 172) rfl)) (hw _ (List.mem_of_getElem? (i := 51) rfl)) (hw _ (List.mem_of_getElem? (i := 174) rfl)) (by decide) (a := a1) (argsL := [(.ref sa)]) (rest := []) (tx1 l Z a0 hw a1 sa u sn h0 a1 E N FB rfl SU hu SN hsn hl T0_) (g := (mkF m 2 #[.val (.ref a1), .val (.ref sa)] [(.ref sa), (.ref a1)])) rfl rfl pd_pLjava_lang_String_r_V rfl rfl (W := 0) (by show 2 * 0 + _ ≤ _; exact Nat.le_of_eq rfl) d25_2 (by decide) (by decide) (by decide) (by decide) ?_
  intro v1 T1 h1 X1 q1
  obtain ⟨rfl, K1, Q1⟩ := q1
  show OFin _ _ _ _ _ _ T1 (mkF m 5 #[.val (.ref a1), .val (.ref sa)] [])
  exact X1.retV d25_5 (oN (by decide) (by decide)) (⟨rfl, K1, Q1⟩)
theorem pn_java_lang_RuntimeException : plainName "java/lang/RuntimeException" = true := by first | (simp [plainName, overriddenIn]; done) | decide +kernel
theorem d24_0 : decode jdk_58_method_2_code 0 = .ok (.aload_n 0, 1) := by decide +kernel
theorem d24_1 : decode jdk_58_method_2_code 1 = .ok (.aload_n 1, 1) := by decide +kernel
theorem d24_2 : decode jdk_58_method_2_code 2 = .ok (.invokespecial 7, 3) := by decide +kernel
theorem d24_5 : decode jdk_58_method_2_code 5 = .ok (.return_, 1) := by decide +kernel
set_option maxRecDepth 65536 in
set_option maxHeartbeats 40000000 in
theorem tr1 (l : Launch) (Z : State) (a0 : Array Value) (hw : ∀ d ∈ tables_1, d.before a0 Z = true) (a1 sa : Addr) (u sn : Value) (h0 : Heap) (n0 : Nat) (E : Exa Z h0 a1 "com/example/lean_lock/leanlock/LockUnavailableException") (N : Unt h0 a1) (FB : Fld Z h0 a1 "java/lang/Throwable" "backtrace" "Ljava/lang/Object;" .null) (hn0 : a1 = n0) (SU : Sta Z h0 "java/lang/Throwable" "UNASSIGNED_STACK" "[Ljava/lang/StackTraceElement;" u) (hu : u.isRef = true) (SN : Sta Z h0 "java/lang/Throwable" "SUPPRESSED_SENTINEL" "Ljava/util/List;" sn) (hsn : sn.isRef = true) (hl : l.stackTraces = true) (T0_ : ThS Z h0) :
    OMeetsK l Z (⟨"java/lang/RuntimeException", "<init>", "(Ljava/lang/String;)V"⟩ : MethodName) [] jdk_58_method_2_code 2 none ({ frames := 5, cells := 1, slots := 2752, locals := 68 } : Room) #[(.ref a1), (.ref sa)] h0 n0 (fun v h => v = none ∧ Keep h0 h (own_ws a1 h0) ∧ Exa Z h a1 "com/example/lean_lock/leanlock/LockUnavailableException") := by
  subst hn0
  refine o_enterK (Z := Z) (plainFor_of_name pn_java_lang_RuntimeException) ?_
  intro p e s m below meth c T0 X0 hTK hBl hh
  refine OFin.cast (g' := (mkF m 0 #[.val (.ref a1), .val (.ref sa)] [])) (by first | (simp [entryFrame, mkF, argsToLocals, Value.category]; done) | rfl) ?_
  refine X0.step (fun hA hx hq t_ k_ => XS.aloadN hA hx rfl (hb hq d24_0) rfl rfl k_) ?_
  show OFin _ _ _ _ _ _ T0 (mkF m 1 #[.val (.ref a1), .val (.ref sa)] [(.ref a1)])
  refine X0.step (fun hA hx hq t_ k_ => XS.aloadN hA hx rfl (hb hq d24_1) rfl rfl k_) ?_
  show OFin _ _ _ _ _ _ T0 (mkF m 2 #[.val (.ref a1), .val (.ref sa)] [(.ref sa), (.ref a1)])
  refine X0.callIK hTK hBl (y' := (⟨"java/lang/Exception", "<init>", "(Ljava/lang/String;)V"⟩ : MethodName)) rfl (hw _ (List.mem_of_getElem? (i := 167) rfl)) (hw _ (List.mem_of_getElem? (i := 168) rfl)) (hw _ (List.mem_of_getElem? (i := 45) rfl)) (hw _ (List.mem_of_getElem? (i := 170) rfl)) (by decide) (a := a1) (argsL := [(.ref sa)]) (rest := []) (ty1 l Z a0 hw a1 sa u sn h0 a1 E N FB rfl SU hu SN hsn hl T0_) (g := (mkF m 2 #[.val (.ref a1), .val (.ref sa)] [(.ref sa), (.ref a1)])) rfl rfl pd_pLjava_lang_String_r_V rfl rfl (W := 0) (by show 2 * 0 + _ ≤ _; exact Nat.le_of_eq rfl) d24_2 (by decide) (by decide) (by decide) (by decide) ?_
  intro v1 T1 h1 X1 q1
  obtain ⟨rfl, K1, Q1⟩ := q1
  show OFin _ _ _ _ _ _ T1 (mkF m 5 #[.val (.ref a1), .val (.ref sa)] [])
  exact X1.retV d24_5 (oN (by decide) (by decide)) (⟨rfl, K1, Q1⟩)
theorem pn_com_example_lean_lock_leanlock_LockUnavailableException : plainName "com/example/lean_lock/leanlock/LockUnavailableException" = true := by first | (simp [plainName, overriddenIn]; done) | decide +kernel
theorem d23_0 : decode prog_18_method_1_code 0 = .ok (.aload_n 0, 1) := by decide +kernel
theorem d23_1 : decode prog_18_method_1_code 1 = .ok (.aload_n 1, 1) := by decide +kernel
theorem d23_2 : decode prog_18_method_1_code 2 = .ok (.invokespecial 1, 3) := by decide +kernel
theorem d23_5 : decode prog_18_method_1_code 5 = .ok (.return_, 1) := by decide +kernel
set_option maxRecDepth 65536 in
set_option maxHeartbeats 40000000 in
theorem tu1 (l : Launch) (Z : State) (a0 : Array Value) (hw : ∀ d ∈ tables_1, d.before a0 Z = true) (a1 sa : Addr) (u sn : Value) (h0 : Heap) (n0 : Nat) (E : Exa Z h0 a1 "com/example/lean_lock/leanlock/LockUnavailableException") (N : Unt h0 a1) (FB : Fld Z h0 a1 "java/lang/Throwable" "backtrace" "Ljava/lang/Object;" .null) (hn0 : a1 = n0) (SU : Sta Z h0 "java/lang/Throwable" "UNASSIGNED_STACK" "[Ljava/lang/StackTraceElement;" u) (hu : u.isRef = true) (SN : Sta Z h0 "java/lang/Throwable" "SUPPRESSED_SENTINEL" "Ljava/util/List;" sn) (hsn : sn.isRef = true) (hl : l.stackTraces = true) (T0_ : ThS Z h0) :
    OMeetsK l Z (⟨"com/example/lean_lock/leanlock/LockUnavailableException", "<init>", "(Ljava/lang/String;)V"⟩ : MethodName) [] prog_18_method_1_code 2 none ({ frames := 6, cells := 1, slots := 2752, locals := 81 } : Room) #[(.ref a1), (.ref sa)] h0 n0 (fun v h => v = none ∧ Keep h0 h (own_ws a1 h0) ∧ Exa Z h a1 "com/example/lean_lock/leanlock/LockUnavailableException") := by
  subst hn0
  refine o_enterK (Z := Z) (plainFor_of_name pn_com_example_lean_lock_leanlock_LockUnavailableException) ?_
  intro p e s m below meth c T0 X0 hTK hBl hh
  refine OFin.cast (g' := (mkF m 0 #[.val (.ref a1), .val (.ref sa)] [])) (by first | (simp [entryFrame, mkF, argsToLocals, Value.category]; done) | rfl) ?_
  refine X0.step (fun hA hx hq t_ k_ => XS.aloadN hA hx rfl (hb hq d23_0) rfl rfl k_) ?_
  show OFin _ _ _ _ _ _ T0 (mkF m 1 #[.val (.ref a1), .val (.ref sa)] [(.ref a1)])
  refine X0.step (fun hA hx hq t_ k_ => XS.aloadN hA hx rfl (hb hq d23_1) rfl rfl k_) ?_
  show OFin _ _ _ _ _ _ T0 (mkF m 2 #[.val (.ref a1), .val (.ref sa)] [(.ref sa), (.ref a1)])
  refine X0.callIK hTK hBl (y' := (⟨"java/lang/RuntimeException", "<init>", "(Ljava/lang/String;)V"⟩ : MethodName)) rfl (hw _ (List.mem_of_getElem? (i := 163) rfl)) (hw _ (List.mem_of_getElem? (i := 164) rfl)) (hw _ (List.mem_of_getElem? (i := 39) rfl)) (hw _ (List.mem_of_getElem? (i := 166) rfl)) (by decide) (a := a1) (argsL := [(.ref sa)]) (rest := []) (tr1 l Z a0 hw a1 sa u sn h0 a1 E N FB rfl SU hu SN hsn hl T0_) (g := (mkF m 2 #[.val (.ref a1), .val (.ref sa)] [(.ref sa), (.ref a1)])) rfl rfl pd_pLjava_lang_String_r_V rfl rfl (W := 0) (by show 2 * 0 + _ ≤ _; exact Nat.le_of_eq rfl) d23_2 (by decide) (by decide) (by decide) (by decide) ?_
  intro v1 T1 h1 X1 q1
  obtain ⟨rfl, K1, Q1⟩ := q1
  show OFin _ _ _ _ _ _ T1 (mkF m 5 #[.val (.ref a1), .val (.ref sa)] [])
  exact X1.retV d23_5 (oN (by decide) (by decide)) (⟨rfl, K1, Q1⟩)
theorem d10_0 : decode jdk_78_method_3_code 0 = .ok (.aload_n 0, 1) := by decide +kernel
theorem d10_1 : decode jdk_78_method_3_code 1 = .ok (.invokespecial 1, 3) := by decide +kernel
theorem d10_4 : decode jdk_78_method_3_code 4 = .ok (.aload_n 0, 1) := by decide +kernel
theorem d10_5 : decode jdk_78_method_3_code 5 = .ok (.aload_n 0, 1) := by decide +kernel
theorem d10_6 : decode jdk_78_method_3_code 6 = .ok (.putfield 7, 3) := by decide +kernel
theorem d10_9 : decode jdk_78_method_3_code 9 = .ok (.aload_n 0, 1) := by decide +kernel
theorem d10_10 : decode jdk_78_method_3_code 10 = .ok (.getstatic 13, 3) := by decide +kernel
theorem d10_13 : decode jdk_78_method_3_code 13 = .ok (.putfield 17, 3) := by decide +kernel
theorem d10_16 : decode jdk_78_method_3_code 16 = .ok (.aload_n 0, 1) := by decide +kernel
theorem d10_17 : decode jdk_78_method_3_code 17 = .ok (.getstatic 20, 3) := by decide +kernel
theorem d10_20 : decode jdk_78_method_3_code 20 = .ok (.putfield 24, 3) := by decide +kernel
theorem d10_23 : decode jdk_78_method_3_code 23 = .ok (.aload_n 0, 1) := by decide +kernel
theorem d10_24 : decode jdk_78_method_3_code 24 = .ok (.invokevirtual 27, 3) := by decide +kernel
theorem d10_27 : decode jdk_78_method_3_code 27 = .ok (.pop, 1) := by decide +kernel
theorem d10_28 : decode jdk_78_method_3_code 28 = .ok (.aload_n 0, 1) := by decide +kernel
theorem d10_29 : decode jdk_78_method_3_code 29 = .ok (.aload_n 1, 1) := by decide +kernel
theorem d10_30 : decode jdk_78_method_3_code 30 = .ok (.putfield 31, 3) := by decide +kernel
theorem d10_33 : decode jdk_78_method_3_code 33 = .ok (.aload_n 0, 1) := by decide +kernel
theorem d10_34 : decode jdk_78_method_3_code 34 = .ok (.aload_n 2, 1) := by decide +kernel
theorem d10_35 : decode jdk_78_method_3_code 35 = .ok (.putfield 7, 3) := by decide +kernel
theorem d10_38 : decode jdk_78_method_3_code 38 = .ok (.return_, 1) := by decide +kernel
set_option maxRecDepth 65536 in
set_option maxHeartbeats 40000000 in
theorem tx2 (l : Launch) (Z : State) (a0 : Array Value) (hw : ∀ d ∈ tables_1, d.before a0 Z = true) (a1 sa : Addr) (u sn : Value) (h0 : Heap) (n0 : Nat) (E : Exa Z h0 a1 "com/example/lean_lock/leanlock/LockUnavailableException") (N : Unt h0 a1) (FB : Fld Z h0 a1 "java/lang/Throwable" "backtrace" "Ljava/lang/Object;" .null) (hn0 : a1 = n0) (SU : Sta Z h0 "java/lang/Throwable" "UNASSIGNED_STACK" "[Ljava/lang/StackTraceElement;" u) (hu : u.isRef = true) (SN : Sta Z h0 "java/lang/Throwable" "SUPPRESSED_SENTINEL" "Ljava/util/List;" sn) (hsn : sn.isRef = true) (hl : l.stackTraces = true) (T0_ : ThS Z h0) :
    OMeetsK l Z (⟨"java/lang/Throwable", "<init>", "(Ljava/lang/String;Ljava/lang/Throwable;)V"⟩ : MethodName) [] jdk_78_method_3_code 3 none ({ frames := 3, cells := 1, slots := 2752, locals := 42 } : Room) #[(.ref a1), (.ref sa), .null] h0 n0 (fun v h => v = none ∧ Keep h0 h (own_ws a1 h0) ∧ Exa Z h a1 "com/example/lean_lock/leanlock/LockUnavailableException") := by
  subst hn0
  refine o_enterK (Z := Z) (plainFor_of_name pn_java_lang_Throwable) ?_
  intro p e s m below meth c T0 X0 hTK hBl hh
  refine OFin.cast (g' := (mkF m 0 #[.val (.ref a1), .val (.ref sa), .val .null] [])) (by first | (simp [entryFrame, mkF, argsToLocals, Value.category]; done) | rfl) ?_
  obtain ⟨o1, F1⟩ := fld_laid (O := "java/lang/Throwable") (n := "cause") (d := "Ljava/lang/Throwable;") E N.known (hw _ (List.mem_of_getElem? (i := 31) rfl)) (Or.inl (hw _ (List.mem_of_getElem? (i := 55) rfl)))
  obtain ⟨o2, F2⟩ := fld_laid (O := "java/lang/Throwable") (n := "stackTrace") (d := "[Ljava/lang/StackTraceElement;") E N.known (hw _ (List.mem_of_getElem? (i := 31) rfl)) (Or.inl (hw _ (List.mem_of_getElem? (i := 58) rfl)))
  obtain ⟨o3, F3⟩ := fld_laid (O := "java/lang/Throwable") (n := "suppressedExceptions") (d := "Ljava/util/List;") E N.known (hw _ (List.mem_of_getElem? (i := 31) rfl)) (Or.inl (hw _ (List.mem_of_getElem? (i := 61) rfl)))
  have n_backtrace_cause := (slot_ne (Or.inl (hw _ (List.mem_of_getElem? (i := 86) rfl))) (Or.inl (hw _ (List.mem_of_getElem? (i := 55) rfl))) (by decide) (t := (.object "java/lang/Object")) (t' := (.object "java/lang/Throwable")) (by decide) (by decide))
  have n_backtrace_stackTrace := (slot_ne (Or.inl (hw _ (List.mem_of_getElem? (i := 86) rfl))) (Or.inl (hw _ (List.mem_of_getElem? (i := 58) rfl))) (by decide) (t := (.object "java/lang/Object")) (t' := (.array (.object "java/lang/StackTraceElement"))) (by decide) (by decide))
  have n_backtrace_suppressedExceptions := (slot_ne (Or.inl (hw _ (List.mem_of_getElem? (i := 86) rfl))) (Or.inl (hw _ (List.mem_of_getElem? (i := 61) rfl))) (by decide) (t := (.object "java/lang/Object")) (t' := (.object "java/util/List")) (by decide) (by decide))
  have n_stackTrace_cause := (slot_ne (Or.inl (hw _ (List.mem_of_getElem? (i := 58) rfl))) (Or.inl (hw _ (List.mem_of_getElem? (i := 55) rfl))) (by decide) (t := (.array (.object "java/lang/StackTraceElement"))) (t' := (.object "java/lang/Throwable")) (by decide) (by decide))
  have n_stackTrace_suppressedExceptions := (slot_ne (Or.inl (hw _ (List.mem_of_getElem? (i := 58) rfl))) (Or.inl (hw _ (List.mem_of_getElem? (i := 61) rfl))) (by decide) (t := (.array (.object "java/lang/StackTraceElement"))) (t' := (.object "java/util/List")) (by decide) (by decide))
  have n_suppressedExceptions_cause := (slot_ne (Or.inl (hw _ (List.mem_of_getElem? (i := 61) rfl))) (Or.inl (hw _ (List.mem_of_getElem? (i := 55) rfl))) (by decide) (t := (.object "java/util/List")) (t' := (.object "java/lang/Throwable")) (by decide) (by decide))
  have n_suppressedExceptions_stackTrace := (slot_ne (Or.inl (hw _ (List.mem_of_getElem? (i := 61) rfl))) (Or.inl (hw _ (List.mem_of_getElem? (i := 58) rfl))) (by decide) (t := (.object "java/util/List")) (t' := (.array (.object "java/lang/StackTraceElement"))) (by decide) (by decide))
  refine X0.step (fun hA hx hq t_ k_ => XS.aloadN hA hx rfl (hb hq d10_0) rfl rfl k_) ?_
  show OFin _ _ _ _ _ _ T0 (mkF m 1 #[.val (.ref a1), .val (.ref sa), .val .null] [(.ref a1)])
  refine X0.initO (hw _ (List.mem_of_getElem? (i := 53) rfl)) (hw _ (List.mem_of_getElem? (i := 12) rfl)) (hw _ (List.mem_of_getElem? (i := 13) rfl)) (g := (mkF m 1 #[.val (.ref a1), .val (.ref sa), .val .null] [(.ref a1)])) rfl rfl rfl d10_1 (by decide) (W := 0) (by show 2 * 0 + _ ≤ _; exact Nat.le_of_eq rfl) (by decide) ?_
  intro T1 X1
  show OFin _ _ _ _ _ _ T1 (mkF m 4 #[.val (.ref a1), .val (.ref sa), .val .null] [])
  refine X1.step (fun hA hx hq t_ k_ => XS.aloadN hA hx rfl (hb hq d10_4) rfl rfl k_) ?_
  show OFin _ _ _ _ _ _ T1 (mkF m 5 #[.val (.ref a1), .val (.ref sa), .val .null] [(.ref a1)])
  refine X1.step (fun hA hx hq t_ k_ => XS.aloadN hA hx rfl (hb hq d10_5) rfl rfl k_) ?_
  show OFin _ _ _ _ _ _ T1 (mkF m 6 #[.val (.ref a1), .val (.ref sa), .val .null] [(.ref a1), (.ref a1)])
  refine X1.putF (hw _ (List.mem_of_getElem? (i := 54) rfl)) F1 E (Or.inl (hw _ (List.mem_of_getElem? (i := 55) rfl))) (hw _ (List.mem_of_getElem? (i := 31) rfl)) (ty := (.object "java/lang/Throwable")) (by decide) rfl rfl (Nat.le_refl _) (g := (mkF m 6 #[.val (.ref a1), .val (.ref sa), .val .null] [(.ref a1), (.ref a1)])) rfl rfl d10_6 ?_
  intro T2 h2 X2 W2
  show OFin _ _ _ _ _ _ T2 (mkF m 9 #[.val (.ref a1), .val (.ref sa), .val .null] [])
  refine X2.step (fun hA hx hq t_ k_ => XS.aloadN hA hx rfl (hb hq d10_9) rfl rfl k_) ?_
  show OFin _ _ _ _ _ _ T2 (mkF m 10 #[.val (.ref a1), .val (.ref sa), .val .null] [(.ref a1)])
  refine X2.getS (hw _ (List.mem_of_getElem? (i := 56) rfl)) (SU.wr W2) (g := (mkF m 10 #[.val (.ref a1), .val (.ref sa), .val .null] [(.ref a1)])) rfl d10_10 ?_
  intro T3 X3
  show OFin _ _ _ _ _ _ T3 (mkF m 13 #[.val (.ref a1), .val (.ref sa), .val .null] [u, (.ref a1)])
  refine X3.putF (hw _ (List.mem_of_getElem? (i := 57) rfl)) (F2.other W2 (Or.inr n_stackTrace_cause)) (E.wr W2) (Or.inl (hw _ (List.mem_of_getElem? (i := 58) rfl))) (hw _ (List.mem_of_getElem? (i := 31) rfl)) (ty := (.array (.object "java/lang/StackTraceElement"))) (by decide) (by rcases ref_cases hu with z | ⟨_, z⟩ <;> rw [z] <;> rfl) (by rcases ref_cases hu with z | ⟨_, z⟩ <;> rw [z] <;> rfl) (Nat.le_refl _) (g := (mkF m 13 #[.val (.ref a1), .val (.ref sa), .val .null] [u, (.ref a1)])) rfl rfl d10_13 ?_
  intro T4 h4 X4 W4
  show OFin _ _ _ _ _ _ T4 (mkF m 16 #[.val (.ref a1), .val (.ref sa), .val .null] [])
  refine X4.step (fun hA hx hq t_ k_ => XS.aloadN hA hx rfl (hb hq d10_16) rfl rfl k_) ?_
  show OFin _ _ _ _ _ _ T4 (mkF m 17 #[.val (.ref a1), .val (.ref sa), .val .null] [(.ref a1)])
  refine X4.getS (hw _ (List.mem_of_getElem? (i := 59) rfl)) ((SN.wr W2).wr W4) (g := (mkF m 17 #[.val (.ref a1), .val (.ref sa), .val .null] [(.ref a1)])) rfl d10_17 ?_
  intro T5 X5
  show OFin _ _ _ _ _ _ T5 (mkF m 20 #[.val (.ref a1), .val (.ref sa), .val .null] [sn, (.ref a1)])
  refine X5.putF (hw _ (List.mem_of_getElem? (i := 60) rfl)) ((F3.other W2 (Or.inr n_suppressedExceptions_cause)).other W4 (Or.inr n_suppressedExceptions_stackTrace)) ((E.wr W2).wr W4) (Or.inl (hw _ (List.mem_of_getElem? (i := 61) rfl))) (hw _ (List.mem_of_getElem? (i := 31) rfl)) (ty := (.object "java/util/List")) (by decide) (by rcases ref_cases hsn with z | ⟨_, z⟩ <;> rw [z] <;> rfl) (by rcases ref_cases hsn with z | ⟨_, z⟩ <;> rw [z] <;> rfl) (Nat.le_refl _) (g := (mkF m 20 #[.val (.ref a1), .val (.ref sa), .val .null] [sn, (.ref a1)])) rfl rfl d10_20 ?_
  intro T6 h6 X6 W6
  show OFin _ _ _ _ _ _ T6 (mkF m 23 #[.val (.ref a1), .val (.ref sa), .val .null] [])
  refine X6.step (fun hA hx hq t_ k_ => XS.aloadN hA hx rfl (hb hq d10_23) rfl rfl k_) ?_
  show OFin _ _ _ _ _ _ T6 (mkF m 24 #[.val (.ref a1), .val (.ref sa), .val .null] [(.ref a1)])
  refine X6.fill hl hTK hBl (hw _ (List.mem_of_getElem? (i := 31) rfl)) (own_tws hw) (by rw [hh]; exact T0_) (((E.wr W2).wr W4).wr W6) (((N.wr W2).wr W4).wr W6) hu (((SU.wr W2).wr W4).wr W6) (((F2.other W2 (Or.inr n_stackTrace_cause)).same W4).other W6 (Or.inr n_stackTrace_suppressedExceptions)) (((FB.other W2 (Or.inr n_backtrace_cause)).other W4 (Or.inr n_backtrace_stackTrace)).other W6 (Or.inr n_backtrace_suppressedExceptions)) (Nat.le_refl _) rfl (g := (mkF m 24 #[.val (.ref a1), .val (.ref sa), .val .null] [(.ref a1)])) rfl rfl rfl d10_24 (by decide) (Wd := 0) (by show 2 * 0 + _ ≤ _; exact Nat.le_of_eq rfl) (by decide) (by decide) (by decide) ?_
  intro T7 h7 X7 E7 N7
  show OFin _ _ _ _ _ _ T7 (mkF m 27 #[.val (.ref a1), .val (.ref sa), .val .null] [(.ref a1)])
  refine X7.step (fun hA hx hq t_ k_ => XS.pop hA hx rfl (hb hq d10_27) rfl rfl k_) ?_
  show OFin _ _ _ _ _ _ T7 (mkF m 28 #[.val (.ref a1), .val (.ref sa), .val .null] [])
  refine X7.step (fun hA hx hq t_ k_ => XS.aloadN hA hx rfl (hb hq d10_28) rfl rfl k_) ?_
  show OFin _ _ _ _ _ _ T7 (mkF m 29 #[.val (.ref a1), .val (.ref sa), .val .null] [(.ref a1)])
  refine X7.step (fun hA hx hq t_ k_ => XS.aloadN hA hx rfl (hb hq d10_29) rfl rfl k_) ?_
  show OFin _ _ _ _ _ _ T7 (mkF m 30 #[.val (.ref a1), .val (.ref sa), .val .null] [(.ref sa), (.ref a1)])
  obtain ⟨o4, F4⟩ := fld_laid (O := "java/lang/Throwable") (n := "detailMessage") (d := "Ljava/lang/String;") E7 N7 (hw _ (List.mem_of_getElem? (i := 31) rfl)) (Or.inl (hw _ (List.mem_of_getElem? (i := 85) rfl)))
  refine X7.putF (hw _ (List.mem_of_getElem? (i := 89) rfl)) F4 E7 (Or.inl (hw _ (List.mem_of_getElem? (i := 85) rfl))) (hw _ (List.mem_of_getElem? (i := 31) rfl)) (ty := (.object "java/lang/String")) (by decide) rfl rfl (Nat.le_refl _) (g := (mkF m 30 #[.val (.ref a1), .val (.ref sa), .val .null] [(.ref sa), (.ref a1)])) rfl rfl d10_30 ?_
  intro T8 h8 X8 W8
  show OFin _ _ _ _ _ _ T8 (mkF m 33 #[.val (.ref a1), .val (.ref sa), .val .null] [])
  refine X8.step (fun hA hx hq t_ k_ => XS.aloadN hA hx rfl (hb hq d10_33) rfl rfl k_) ?_
  show OFin _ _ _ _ _ _ T8 (mkF m 34 #[.val (.ref a1), .val (.ref sa), .val .null] [(.ref a1)])
  refine X8.step (fun hA hx hq t_ k_ => XS.aloadN hA hx rfl (hb hq d10_34) rfl rfl k_) ?_
  show OFin _ _ _ _ _ _ T8 (mkF m 35 #[.val (.ref a1), .val (.ref sa), .val .null] [.null, (.ref a1)])
  obtain ⟨cl5, kn5, hk5⟩ := own_knWr W8 N7
  obtain ⟨o5, F5⟩ := fld_laid (O := "java/lang/Throwable") (n := "cause") (d := "Ljava/lang/Throwable;") (E7.wr W8) ⟨cl5, kn5, hk5⟩ (hw _ (List.mem_of_getElem? (i := 31) rfl)) (Or.inl (hw _ (List.mem_of_getElem? (i := 55) rfl)))
  refine X8.putF (hw _ (List.mem_of_getElem? (i := 54) rfl)) F5 (E7.wr W8) (Or.inl (hw _ (List.mem_of_getElem? (i := 55) rfl))) (hw _ (List.mem_of_getElem? (i := 31) rfl)) (ty := (.object "java/lang/Throwable")) (by decide) rfl rfl (Nat.le_refl _) (g := (mkF m 35 #[.val (.ref a1), .val (.ref sa), .val .null] [.null, (.ref a1)])) rfl rfl d10_35 ?_
  intro T9 h9 X9 W9
  show OFin _ _ _ _ _ _ T9 (mkF m 38 #[.val (.ref a1), .val (.ref sa), .val .null] [])
  exact X9.retV d10_38 (oN (by decide) (by decide)) (⟨rfl, X9.keep0 hh, (E7.wr W8).wr W9⟩)
theorem d9_0 : decode jdk_59_method_3_code 0 = .ok (.aload_n 0, 1) := by decide +kernel
theorem d9_1 : decode jdk_59_method_3_code 1 = .ok (.aload_n 1, 1) := by decide +kernel
theorem d9_2 : decode jdk_59_method_3_code 2 = .ok (.aload_n 2, 1) := by decide +kernel
theorem d9_3 : decode jdk_59_method_3_code 3 = .ok (.invokespecial 10, 3) := by decide +kernel
theorem pd_pLjava_lang_String_Ljava_lang_Throwable_r_V : parseMethodDescriptor "(Ljava/lang/String;Ljava/lang/Throwable;)V" = some ⟨[(.object "java/lang/String"), (.object "java/lang/Throwable")], none⟩ := by decide +kernel
theorem d9_6 : decode jdk_59_method_3_code 6 = .ok (.return_, 1) := by decide +kernel
set_option maxRecDepth 65536 in
set_option maxHeartbeats 40000000 in
theorem ty2 (l : Launch) (Z : State) (a0 : Array Value) (hw : ∀ d ∈ tables_1, d.before a0 Z = true) (a1 sa : Addr) (u sn : Value) (h0 : Heap) (n0 : Nat) (E : Exa Z h0 a1 "com/example/lean_lock/leanlock/LockUnavailableException") (N : Unt h0 a1) (FB : Fld Z h0 a1 "java/lang/Throwable" "backtrace" "Ljava/lang/Object;" .null) (hn0 : a1 = n0) (SU : Sta Z h0 "java/lang/Throwable" "UNASSIGNED_STACK" "[Ljava/lang/StackTraceElement;" u) (hu : u.isRef = true) (SN : Sta Z h0 "java/lang/Throwable" "SUPPRESSED_SENTINEL" "Ljava/util/List;" sn) (hsn : sn.isRef = true) (hl : l.stackTraces = true) (T0_ : ThS Z h0) :
    OMeetsK l Z (⟨"java/lang/Exception", "<init>", "(Ljava/lang/String;Ljava/lang/Throwable;)V"⟩ : MethodName) [] jdk_59_method_3_code 3 none ({ frames := 4, cells := 1, slots := 2752, locals := 56 } : Room) #[(.ref a1), (.ref sa), .null] h0 n0 (fun v h => v = none ∧ Keep h0 h (own_ws a1 h0) ∧ Exa Z h a1 "com/example/lean_lock/leanlock/LockUnavailableException") := by
  subst hn0
  refine o_enterK (Z := Z) (plainFor_of_name pn_java_lang_Exception) ?_
  intro p e s m below meth c T0 X0 hTK hBl hh
  refine OFin.cast (g' := (mkF m 0 #[.val (.ref a1), .val (.ref sa), .val .null] [])) (by first | (simp [entryFrame, mkF, argsToLocals, Value.category]; done) | rfl) ?_
  refine X0.step (fun hA hx hq t_ k_ => XS.aloadN hA hx rfl (hb hq d9_0) rfl rfl k_) ?_
  show OFin _ _ _ _ _ _ T0 (mkF m 1 #[.val (.ref a1), .val (.ref sa), .val .null] [(.ref a1)])
  refine X0.step (fun hA hx hq t_ k_ => XS.aloadN hA hx rfl (hb hq d9_1) rfl rfl k_) ?_
  show OFin _ _ _ _ _ _ T0 (mkF m 2 #[.val (.ref a1), .val (.ref sa), .val .null] [(.ref sa), (.ref a1)])
  refine X0.step (fun hA hx hq t_ k_ => XS.aloadN hA hx rfl (hb hq d9_2) rfl rfl k_) ?_
  show OFin _ _ _ _ _ _ T0 (mkF m 3 #[.val (.ref a1), .val (.ref sa), .val .null] [.null, (.ref sa), (.ref a1)])
  refine X0.callIK hTK hBl (y' := (⟨"java/lang/Throwable", "<init>", "(Ljava/lang/String;Ljava/lang/Throwable;)V"⟩ : MethodName)) rfl (hw _ (List.mem_of_getElem? (i := 47) rfl)) (hw _ (List.mem_of_getElem? (i := 48) rfl)) (hw _ (List.mem_of_getElem? (i := 51) rfl)) (hw _ (List.mem_of_getElem? (i := 52) rfl)) (by decide) (a := a1) (argsL := [(.ref sa), .null]) (rest := []) (tx2 l Z a0 hw a1 sa u sn h0 a1 E N FB rfl SU hu SN hsn hl T0_) (g := (mkF m 3 #[.val (.ref a1), .val (.ref sa), .val .null] [.null, (.ref sa), (.ref a1)])) rfl rfl pd_pLjava_lang_String_Ljava_lang_Throwable_r_V rfl rfl (W := 0) (by show 2 * 0 + _ ≤ _; exact Nat.le_of_eq rfl) d9_3 (by decide) (by decide) (by decide) (by decide) ?_
  intro v1 T1 h1 X1 q1
  obtain ⟨rfl, K1, Q1⟩ := q1
  show OFin _ _ _ _ _ _ T1 (mkF m 6 #[.val (.ref a1), .val (.ref sa), .val .null] [])
  exact X1.retV d9_6 (oN (by decide) (by decide)) (⟨rfl, K1, Q1⟩)
theorem d8_0 : decode jdk_58_method_3_code 0 = .ok (.aload_n 0, 1) := by decide +kernel
theorem d8_1 : decode jdk_58_method_3_code 1 = .ok (.aload_n 1, 1) := by decide +kernel
theorem d8_2 : decode jdk_58_method_3_code 2 = .ok (.aload_n 2, 1) := by decide +kernel
theorem d8_3 : decode jdk_58_method_3_code 3 = .ok (.invokespecial 10, 3) := by decide +kernel
theorem d8_6 : decode jdk_58_method_3_code 6 = .ok (.return_, 1) := by decide +kernel
set_option maxRecDepth 65536 in
set_option maxHeartbeats 40000000 in
theorem tr2 (l : Launch) (Z : State) (a0 : Array Value) (hw : ∀ d ∈ tables_1, d.before a0 Z = true) (a1 sa : Addr) (u sn : Value) (h0 : Heap) (n0 : Nat) (E : Exa Z h0 a1 "com/example/lean_lock/leanlock/LockUnavailableException") (N : Unt h0 a1) (FB : Fld Z h0 a1 "java/lang/Throwable" "backtrace" "Ljava/lang/Object;" .null) (hn0 : a1 = n0) (SU : Sta Z h0 "java/lang/Throwable" "UNASSIGNED_STACK" "[Ljava/lang/StackTraceElement;" u) (hu : u.isRef = true) (SN : Sta Z h0 "java/lang/Throwable" "SUPPRESSED_SENTINEL" "Ljava/util/List;" sn) (hsn : sn.isRef = true) (hl : l.stackTraces = true) (T0_ : ThS Z h0) :
    OMeetsK l Z (⟨"java/lang/RuntimeException", "<init>", "(Ljava/lang/String;Ljava/lang/Throwable;)V"⟩ : MethodName) [] jdk_58_method_3_code 3 none ({ frames := 5, cells := 1, slots := 2752, locals := 70 } : Room) #[(.ref a1), (.ref sa), .null] h0 n0 (fun v h => v = none ∧ Keep h0 h (own_ws a1 h0) ∧ Exa Z h a1 "com/example/lean_lock/leanlock/LockUnavailableException") := by
  subst hn0
  refine o_enterK (Z := Z) (plainFor_of_name pn_java_lang_RuntimeException) ?_
  intro p e s m below meth c T0 X0 hTK hBl hh
  refine OFin.cast (g' := (mkF m 0 #[.val (.ref a1), .val (.ref sa), .val .null] [])) (by first | (simp [entryFrame, mkF, argsToLocals, Value.category]; done) | rfl) ?_
  refine X0.step (fun hA hx hq t_ k_ => XS.aloadN hA hx rfl (hb hq d8_0) rfl rfl k_) ?_
  show OFin _ _ _ _ _ _ T0 (mkF m 1 #[.val (.ref a1), .val (.ref sa), .val .null] [(.ref a1)])
  refine X0.step (fun hA hx hq t_ k_ => XS.aloadN hA hx rfl (hb hq d8_1) rfl rfl k_) ?_
  show OFin _ _ _ _ _ _ T0 (mkF m 2 #[.val (.ref a1), .val (.ref sa), .val .null] [(.ref sa), (.ref a1)])
  refine X0.step (fun hA hx hq t_ k_ => XS.aloadN hA hx rfl (hb hq d8_2) rfl rfl k_) ?_
  show OFin _ _ _ _ _ _ T0 (mkF m 3 #[.val (.ref a1), .val (.ref sa), .val .null] [.null, (.ref sa), (.ref a1)])
  refine X0.callIK hTK hBl (y' := (⟨"java/lang/Exception", "<init>", "(Ljava/lang/String;Ljava/lang/Throwable;)V"⟩ : MethodName)) rfl (hw _ (List.mem_of_getElem? (i := 41) rfl)) (hw _ (List.mem_of_getElem? (i := 42) rfl)) (hw _ (List.mem_of_getElem? (i := 45) rfl)) (hw _ (List.mem_of_getElem? (i := 46) rfl)) (by decide) (a := a1) (argsL := [(.ref sa), .null]) (rest := []) (ty2 l Z a0 hw a1 sa u sn h0 a1 E N FB rfl SU hu SN hsn hl T0_) (g := (mkF m 3 #[.val (.ref a1), .val (.ref sa), .val .null] [.null, (.ref sa), (.ref a1)])) rfl rfl pd_pLjava_lang_String_Ljava_lang_Throwable_r_V rfl rfl (W := 0) (by show 2 * 0 + _ ≤ _; exact Nat.le_of_eq rfl) d8_3 (by decide) (by decide) (by decide) (by decide) ?_
  intro v1 T1 h1 X1 q1
  obtain ⟨rfl, K1, Q1⟩ := q1
  show OFin _ _ _ _ _ _ T1 (mkF m 6 #[.val (.ref a1), .val (.ref sa), .val .null] [])
  exact X1.retV d8_6 (oN (by decide) (by decide)) (⟨rfl, K1, Q1⟩)
theorem d7_0 : decode prog_18_method_2_code 0 = .ok (.aload_n 0, 1) := by decide +kernel
theorem d7_1 : decode prog_18_method_2_code 1 = .ok (.aload_n 1, 1) := by decide +kernel
theorem d7_2 : decode prog_18_method_2_code 2 = .ok (.aload_n 2, 1) := by decide +kernel
theorem d7_3 : decode prog_18_method_2_code 3 = .ok (.invokespecial 7, 3) := by decide +kernel
theorem d7_6 : decode prog_18_method_2_code 6 = .ok (.return_, 1) := by decide +kernel
set_option maxRecDepth 65536 in
set_option maxHeartbeats 40000000 in
theorem tu2 (l : Launch) (Z : State) (a0 : Array Value) (hw : ∀ d ∈ tables_1, d.before a0 Z = true) (a1 sa : Addr) (u sn : Value) (h0 : Heap) (n0 : Nat) (E : Exa Z h0 a1 "com/example/lean_lock/leanlock/LockUnavailableException") (N : Unt h0 a1) (FB : Fld Z h0 a1 "java/lang/Throwable" "backtrace" "Ljava/lang/Object;" .null) (hn0 : a1 = n0) (SU : Sta Z h0 "java/lang/Throwable" "UNASSIGNED_STACK" "[Ljava/lang/StackTraceElement;" u) (hu : u.isRef = true) (SN : Sta Z h0 "java/lang/Throwable" "SUPPRESSED_SENTINEL" "Ljava/util/List;" sn) (hsn : sn.isRef = true) (hl : l.stackTraces = true) (T0_ : ThS Z h0) :
    OMeetsK l Z (⟨"com/example/lean_lock/leanlock/LockUnavailableException", "<init>", "(Ljava/lang/String;Ljava/lang/Throwable;)V"⟩ : MethodName) [] prog_18_method_2_code 3 none ({ frames := 6, cells := 1, slots := 2752, locals := 84 } : Room) #[(.ref a1), (.ref sa), .null] h0 n0 (fun v h => v = none ∧ Keep h0 h (own_ws a1 h0) ∧ Exa Z h a1 "com/example/lean_lock/leanlock/LockUnavailableException") := by
  subst hn0
  refine o_enterK (Z := Z) (plainFor_of_name pn_com_example_lean_lock_leanlock_LockUnavailableException) ?_
  intro p e s m below meth c T0 X0 hTK hBl hh
  refine OFin.cast (g' := (mkF m 0 #[.val (.ref a1), .val (.ref sa), .val .null] [])) (by first | (simp [entryFrame, mkF, argsToLocals, Value.category]; done) | rfl) ?_
  refine X0.step (fun hA hx hq t_ k_ => XS.aloadN hA hx rfl (hb hq d7_0) rfl rfl k_) ?_
  show OFin _ _ _ _ _ _ T0 (mkF m 1 #[.val (.ref a1), .val (.ref sa), .val .null] [(.ref a1)])
  refine X0.step (fun hA hx hq t_ k_ => XS.aloadN hA hx rfl (hb hq d7_1) rfl rfl k_) ?_
  show OFin _ _ _ _ _ _ T0 (mkF m 2 #[.val (.ref a1), .val (.ref sa), .val .null] [(.ref sa), (.ref a1)])
  refine X0.step (fun hA hx hq t_ k_ => XS.aloadN hA hx rfl (hb hq d7_2) rfl rfl k_) ?_
  show OFin _ _ _ _ _ _ T0 (mkF m 3 #[.val (.ref a1), .val (.ref sa), .val .null] [.null, (.ref sa), (.ref a1)])
  refine X0.callIK hTK hBl (y' := (⟨"java/lang/RuntimeException", "<init>", "(Ljava/lang/String;Ljava/lang/Throwable;)V"⟩ : MethodName)) rfl (hw _ (List.mem_of_getElem? (i := 36) rfl)) (hw _ (List.mem_of_getElem? (i := 37) rfl)) (hw _ (List.mem_of_getElem? (i := 39) rfl)) (hw _ (List.mem_of_getElem? (i := 40) rfl)) (by decide) (a := a1) (argsL := [(.ref sa), .null]) (rest := []) (tr2 l Z a0 hw a1 sa u sn h0 a1 E N FB rfl SU hu SN hsn hl T0_) (g := (mkF m 3 #[.val (.ref a1), .val (.ref sa), .val .null] [.null, (.ref sa), (.ref a1)])) rfl rfl pd_pLjava_lang_String_Ljava_lang_Throwable_r_V rfl rfl (W := 0) (by show 2 * 0 + _ ≤ _; exact Nat.le_of_eq rfl) d7_3 (by decide) (by decide) (by decide) (by decide) ?_
  intro v1 T1 h1 X1 q1
  obtain ⟨rfl, K1, Q1⟩ := q1
  show OFin _ _ _ _ _ _ T1 (mkF m 6 #[.val (.ref a1), .val (.ref sa), .val .null] [])
  exact X1.retV d7_6 (oN (by decide) (by decide)) (⟨rfl, K1, Q1⟩)
theorem pn_java_util_Objects : plainName "java/util/Objects" = true := by first | (simp [plainName, overriddenIn]; done) | decide +kernel
theorem d13_0 : decode jdk_31_method_11_code 0 = .ok (.aload_n 0, 1) := by decide +kernel
theorem d13_1 : decode jdk_31_method_11_code 1 = .ok (.ifnonnull 12, 3) := by decide +kernel
theorem d13_13 : decode jdk_31_method_11_code 13 = .ok (.aload_n 0, 1) := by decide +kernel
theorem d13_14 : decode jdk_31_method_11_code 14 = .ok (.areturn, 1) := by decide +kernel
set_option maxRecDepth 65536 in
set_option maxHeartbeats 40000000 in
theorem rm1 (l : Launch) (Z : State) (a0 : Array Value) (hw : ∀ d ∈ tables_1, d.before a0 Z = true) (a1 a2 : Addr) (h0 : Heap) (n0 : Nat)  :
    OMeets l Z (⟨"java/util/Objects", "requireNonNull", "(Ljava/lang/Object;Ljava/lang/String;)Ljava/lang/Object;"⟩ : MethodName) [] jdk_31_method_11_code 2 (some (.object "java/lang/Object")) ({ frames := 0, cells := 0, slots := 0, locals := 0 } : Room) #[(.ref a1), (.ref a2)] h0 n0 (fun v h => v = some (.ref a1) ∧ h0 = h) := by
  refine o_enter (Z := Z) (plainFor_of_name pn_java_util_Objects) ?_
  intro p e s m below meth c T0 X0
  refine OFin.cast (g' := (mkF m 0 #[.val (.ref a1), .val (.ref a2)] [])) (by first | (simp [entryFrame, mkF, argsToLocals, Value.category]; done) | rfl) ?_
  refine X0.step (fun hA hx hq t_ k_ => XS.aloadN hA hx rfl (hb hq d13_0) rfl rfl k_) ?_
  show OFin _ _ _ _ _ _ T0 (mkF m 1 #[.val (.ref a1), .val (.ref a2)] [(.ref a1)])
  refine X0.step (fun hA hx hq t_ k_ => XS.ifnonnullYes hA hx rfl (pc0 := 1) (pc' := 13) rfl (hb hq d13_1) rfl (by decide) (by decide) k_) ?_
  show OFin _ _ _ _ _ _ T0 (mkF m 13 #[.val (.ref a1), .val (.ref a2)] [])
  refine X0.step (fun hA hx hq t_ k_ => XS.aloadN hA hx rfl (hb hq d13_13) rfl rfl k_) ?_
  show OFin _ _ _ _ _ _ T0 (mkF m 14 #[.val (.ref a1), .val (.ref a2)] [(.ref a1)])
  exact X0.retR rfl rfl d13_14 (oN (by decide) (by decide)) (⟨rfl, rfl⟩)
theorem pn_com_example_lean_lock_leanlock_Attempt : plainName "com/example/lean_lock/leanlock/Attempt" = true := by first | (simp [plainName, overriddenIn]; done) | decide +kernel
theorem d14_0 : decode prog_1_method_1_code 0 = .ok (.aload_n 0, 1) := by decide +kernel
theorem d14_1 : decode prog_1_method_1_code 1 = .ok (.invokespecial 1, 3) := by decide +kernel
theorem d14_4 : decode prog_1_method_1_code 4 = .ok (.aload_n 0, 1) := by decide +kernel
theorem d14_5 : decode prog_1_method_1_code 5 = .ok (.aload_n 1, 1) := by decide +kernel
theorem d14_6 : decode prog_1_method_1_code 6 = .ok (.putfield 7, 3) := by decide +kernel
theorem d14_9 : decode prog_1_method_1_code 9 = .ok (.aload_n 0, 1) := by decide +kernel
theorem d14_10 : decode prog_1_method_1_code 10 = .ok (.aload_n 2, 1) := by decide +kernel
theorem d14_11 : decode prog_1_method_1_code 11 = .ok (.putfield 13, 3) := by decide +kernel
theorem d14_14 : decode prog_1_method_1_code 14 = .ok (.aload_n 0, 1) := by decide +kernel
theorem d14_15 : decode prog_1_method_1_code 15 = .ok (.iload_n 3, 1) := by decide +kernel
theorem d14_16 : decode prog_1_method_1_code 16 = .ok (.putfield 17, 3) := by decide +kernel
theorem d14_19 : decode prog_1_method_1_code 19 = .ok (.aload_n 0, 1) := by decide +kernel
theorem d14_20 : decode prog_1_method_1_code 20 = .ok (.aload 4, 2) := by decide +kernel
theorem d14_22 : decode prog_1_method_1_code 22 = .ok (.putfield 21, 3) := by decide +kernel
theorem d14_25 : decode prog_1_method_1_code 25 = .ok (.return_, 1) := by decide +kernel
set_option maxRecDepth 65536 in
set_option maxHeartbeats 40000000 in
theorem rm2 (l : Launch) (Z : State) (a0 : Array Value) (hw : ∀ d ∈ tables_1, d.before a0 Z = true) (a1 ex : Addr) (h0 : Heap) (n0 : Nat) (F0 : Fld Z h0 a1 "com/example/lean_lock/leanlock/Attempt" "handle" "Lcom/example/lean_lock/leanlock/LockHandle;" .null) (F1 : Fld Z h0 a1 "com/example/lean_lock/leanlock/Attempt" "expiresIn" "Ljava/time/Duration;" .null) (F2 : Fld Z h0 a1 "com/example/lean_lock/leanlock/Attempt" "split" "Z" (.int 0)) (F3 : Fld Z h0 a1 "com/example/lean_lock/leanlock/Attempt" "unanswered" "Lcom/example/lean_lock/leanlock/LockUnavailableException;" .null) (E : Exa Z h0 a1 "com/example/lean_lock/leanlock/Attempt") (hn : n0 ≤ a1) :
    OMeets l Z (⟨"com/example/lean_lock/leanlock/Attempt", "<init>", "(Lcom/example/lean_lock/leanlock/LockHandle;Ljava/time/Duration;ZLcom/example/lean_lock/leanlock/LockUnavailableException;)V"⟩ : MethodName) [] prog_1_method_1_code 5 none ({ frames := 1, cells := 0, slots := 0, locals := 12 } : Room) #[(.ref a1), .null, .null, (.int (0 : Int32)), (.ref ex)] h0 n0 (fun v h => v = none ∧ Keep h0 h [a1] ∧ Exa Z h a1 "com/example/lean_lock/leanlock/Attempt" ∧ Fld Z h a1 "com/example/lean_lock/leanlock/Attempt" "handle" "Lcom/example/lean_lock/leanlock/LockHandle;" .null ∧ Fld Z h a1 "com/example/lean_lock/leanlock/Attempt" "expiresIn" "Ljava/time/Duration;" .null ∧ Fld Z h a1 "com/example/lean_lock/leanlock/Attempt" "split" "Z" (.int 0) ∧ Fld Z h a1 "com/example/lean_lock/leanlock/Attempt" "unanswered" "Lcom/example/lean_lock/leanlock/LockUnavailableException;" (.ref ex)) := by
  refine o_enter (Z := Z) (plainFor_of_name pn_com_example_lean_lock_leanlock_Attempt) ?_
  intro p e s m below meth c T0 X0
  refine OFin.cast (g' := (mkF m 0 #[.val (.ref a1), .val .null, .val .null, .val (.int (0 : Int32)), .val (.ref ex)] [])) (by first | (simp [entryFrame, mkF, argsToLocals, Value.category]; done) | rfl) ?_
  have n01 := (slot_ne (Or.inr (hw _ (List.mem_of_getElem? (i := 109) rfl))) (Or.inr (hw _ (List.mem_of_getElem? (i := 111) rfl))) (by decide) (t := (.object "com/example/lean_lock/leanlock/LockHandle")) (t' := (.object "java/time/Duration")) (by decide) (by decide))
  have n02 := (slot_ne (Or.inr (hw _ (List.mem_of_getElem? (i := 109) rfl))) (Or.inr (hw _ (List.mem_of_getElem? (i := 113) rfl))) (by decide) (t := (.object "com/example/lean_lock/leanlock/LockHandle")) (t' := .boolean) (by decide) (by decide))
  have n03 := (slot_ne (Or.inr (hw _ (List.mem_of_getElem? (i := 109) rfl))) (Or.inr (hw _ (List.mem_of_getElem? (i := 115) rfl))) (by decide) (t := (.object "com/example/lean_lock/leanlock/LockHandle")) (t' := (.object "com/example/lean_lock/leanlock/LockUnavailableException")) (by decide) (by decide))
  have n10 := (slot_ne (Or.inr (hw _ (List.mem_of_getElem? (i := 111) rfl))) (Or.inr (hw _ (List.mem_of_getElem? (i := 109) rfl))) (by decide) (t := (.object "java/time/Duration")) (t' := (.object "com/example/lean_lock/leanlock/LockHandle")) (by decide) (by decide))
  have n12 := (slot_ne (Or.inr (hw _ (List.mem_of_getElem? (i := 111) rfl))) (Or.inr (hw _ (List.mem_of_getElem? (i := 113) rfl))) (by decide) (t := (.object "java/time/Duration")) (t' := .boolean) (by decide) (by decide))
  have n13 := (slot_ne (Or.inr (hw _ (List.mem_of_getElem? (i := 111) rfl))) (Or.inr (hw _ (List.mem_of_getElem? (i := 115) rfl))) (by decide) (t := (.object "java/time/Duration")) (t' := (.object "com/example/lean_lock/leanlock/LockUnavailableException")) (by decide) (by decide))
  have n20 := (slot_ne (Or.inr (hw _ (List.mem_of_getElem? (i := 113) rfl))) (Or.inr (hw _ (List.mem_of_getElem? (i := 109) rfl))) (by decide) (t := .boolean) (t' := (.object "com/example/lean_lock/leanlock/LockHandle")) (by decide) (by decide))
  have n21 := (slot_ne (Or.inr (hw _ (List.mem_of_getElem? (i := 113) rfl))) (Or.inr (hw _ (List.mem_of_getElem? (i := 111) rfl))) (by decide) (t := .boolean) (t' := (.object "java/time/Duration")) (by decide) (by decide))
  have n23 := (slot_ne (Or.inr (hw _ (List.mem_of_getElem? (i := 113) rfl))) (Or.inr (hw _ (List.mem_of_getElem? (i := 115) rfl))) (by decide) (t := .boolean) (t' := (.object "com/example/lean_lock/leanlock/LockUnavailableException")) (by decide) (by decide))
  have n30 := (slot_ne (Or.inr (hw _ (List.mem_of_getElem? (i := 115) rfl))) (Or.inr (hw _ (List.mem_of_getElem? (i := 109) rfl))) (by decide) (t := (.object "com/example/lean_lock/leanlock/LockUnavailableException")) (t' := (.object "com/example/lean_lock/leanlock/LockHandle")) (by decide) (by decide))
  have n31 := (slot_ne (Or.inr (hw _ (List.mem_of_getElem? (i := 115) rfl))) (Or.inr (hw _ (List.mem_of_getElem? (i := 111) rfl))) (by decide) (t := (.object "com/example/lean_lock/leanlock/LockUnavailableException")) (t' := (.object "java/time/Duration")) (by decide) (by decide))
  have n32 := (slot_ne (Or.inr (hw _ (List.mem_of_getElem? (i := 115) rfl))) (Or.inr (hw _ (List.mem_of_getElem? (i := 113) rfl))) (by decide) (t := (.object "com/example/lean_lock/leanlock/LockUnavailableException")) (t' := .boolean) (by decide) (by decide))
  refine X0.step (fun hA hx hq t_ k_ => XS.aloadN hA hx rfl (hb hq d14_0) rfl rfl k_) ?_
  show OFin _ _ _ _ _ _ T0 (mkF m 1 #[.val (.ref a1), .val .null, .val .null, .val (.int (0 : Int32)), .val (.ref ex)] [(.ref a1)])
  refine X0.initO (hw _ (List.mem_of_getElem? (i := 107) rfl)) (hw _ (List.mem_of_getElem? (i := 12) rfl)) (hw _ (List.mem_of_getElem? (i := 13) rfl)) (g := (mkF m 1 #[.val (.ref a1), .val .null, .val .null, .val (.int (0 : Int32)), .val (.ref ex)] [(.ref a1)])) rfl rfl rfl d14_1 (by decide) (W := 0) (by show 2 * 0 + _ ≤ _; exact Nat.le_of_eq rfl) (by decide) ?_
  intro T1 X1
  show OFin _ _ _ _ _ _ T1 (mkF m 4 #[.val (.ref a1), .val .null, .val .null, .val (.int (0 : Int32)), .val (.ref ex)] [])
  refine X1.step (fun hA hx hq t_ k_ => XS.aloadN hA hx rfl (hb hq d14_4) rfl rfl k_) ?_
  show OFin _ _ _ _ _ _ T1 (mkF m 5 #[.val (.ref a1), .val .null, .val .null, .val (.int (0 : Int32)), .val (.ref ex)] [(.ref a1)])
  refine X1.step (fun hA hx hq t_ k_ => XS.aloadN hA hx rfl (hb hq d14_5) rfl rfl k_) ?_
  show OFin _ _ _ _ _ _ T1 (mkF m 6 #[.val (.ref a1), .val .null, .val .null, .val (.int (0 : Int32)), .val (.ref ex)] [.null, (.ref a1)])
  refine X1.putF (hw _ (List.mem_of_getElem? (i := 108) rfl)) F0 E (Or.inr ⟨(hw _ (List.mem_of_getElem? (i := 109) rfl)), rfl, rfl⟩) (hw _ (List.mem_of_getElem? (i := 95) rfl)) (ty := (.object "com/example/lean_lock/leanlock/LockHandle")) (by decide) rfl rfl hn (g := (mkF m 6 #[.val (.ref a1), .val .null, .val .null, .val (.int (0 : Int32)), .val (.ref ex)] [.null, (.ref a1)])) rfl rfl d14_6 ?_
  intro T2 h2 X2 W2
  show OFin _ _ _ _ _ _ T2 (mkF m 9 #[.val (.ref a1), .val .null, .val .null, .val (.int (0 : Int32)), .val (.ref ex)] [])
  refine X2.step (fun hA hx hq t_ k_ => XS.aloadN hA hx rfl (hb hq d14_9) rfl rfl k_) ?_
  show OFin _ _ _ _ _ _ T2 (mkF m 10 #[.val (.ref a1), .val .null, .val .null, .val (.int (0 : Int32)), .val (.ref ex)] [(.ref a1)])
  refine X2.step (fun hA hx hq t_ k_ => XS.aloadN hA hx rfl (hb hq d14_10) rfl rfl k_) ?_
  show OFin _ _ _ _ _ _ T2 (mkF m 11 #[.val (.ref a1), .val .null, .val .null, .val (.int (0 : Int32)), .val (.ref ex)] [.null, (.ref a1)])
  refine X2.putF (hw _ (List.mem_of_getElem? (i := 110) rfl)) (F1.other W2 (Or.inr n10)) (E.wr W2) (Or.inr ⟨(hw _ (List.mem_of_getElem? (i := 111) rfl)), rfl, rfl⟩) (hw _ (List.mem_of_getElem? (i := 95) rfl)) (ty := (.object "java/time/Duration")) (by decide) rfl rfl hn (g := (mkF m 11 #[.val (.ref a1), .val .null, .val .null, .val (.int (0 : Int32)), .val (.ref ex)] [.null, (.ref a1)])) rfl rfl d14_11 ?_
  intro T3 h3 X3 W3
  show OFin _ _ _ _ _ _ T3 (mkF m 14 #[.val (.ref a1), .val .null, .val .null, .val (.int (0 : Int32)), .val (.ref ex)] [])
  refine X3.step (fun hA hx hq t_ k_ => XS.aloadN hA hx rfl (hb hq d14_14) rfl rfl k_) ?_
  show OFin _ _ _ _ _ _ T3 (mkF m 15 #[.val (.ref a1), .val .null, .val .null, .val (.int (0 : Int32)), .val (.ref ex)] [(.ref a1)])
  refine X3.step (fun hA hx hq t_ k_ => XS.iloadN hA hx rfl (hb hq d14_15) rfl k_) ?_
  show OFin _ _ _ _ _ _ T3 (mkF m 16 #[.val (.ref a1), .val .null, .val .null, .val (.int (0 : Int32)), .val (.ref ex)] [(.int (0 : Int32)), (.ref a1)])
  refine X3.putF (hw _ (List.mem_of_getElem? (i := 112) rfl)) ((F2.other W2 (Or.inr n20)).other W3 (Or.inr n21)) ((E.wr W2).wr W3) (Or.inr ⟨(hw _ (List.mem_of_getElem? (i := 113) rfl)), rfl, rfl⟩) (hw _ (List.mem_of_getElem? (i := 95) rfl)) (ty := .boolean) (by decide) rfl rfl hn (g := (mkF m 16 #[.val (.ref a1), .val .null, .val .null, .val (.int (0 : Int32)), .val (.ref ex)] [(.int (0 : Int32)), (.ref a1)])) rfl rfl d14_16 ?_
  intro T4 h4 X4 W4
  show OFin _ _ _ _ _ _ T4 (mkF m 19 #[.val (.ref a1), .val .null, .val .null, .val (.int (0 : Int32)), .val (.ref ex)] [])
  refine X4.step (fun hA hx hq t_ k_ => XS.aloadN hA hx rfl (hb hq d14_19) rfl rfl k_) ?_
  show OFin _ _ _ _ _ _ T4 (mkF m 20 #[.val (.ref a1), .val .null, .val .null, .val (.int (0 : Int32)), .val (.ref ex)] [(.ref a1)])
  refine X4.step (fun hA hx hq t_ k_ => XS.aload hA hx rfl (hb hq d14_20) rfl rfl k_) ?_
  show OFin _ _ _ _ _ _ T4 (mkF m 22 #[.val (.ref a1), .val .null, .val .null, .val (.int (0 : Int32)), .val (.ref ex)] [(.ref ex), (.ref a1)])
  refine X4.putF (hw _ (List.mem_of_getElem? (i := 114) rfl)) (((F3.other W2 (Or.inr n30)).other W3 (Or.inr n31)).other W4 (Or.inr n32)) (((E.wr W2).wr W3).wr W4) (Or.inr ⟨(hw _ (List.mem_of_getElem? (i := 115) rfl)), rfl, rfl⟩) (hw _ (List.mem_of_getElem? (i := 95) rfl)) (ty := (.object "com/example/lean_lock/leanlock/LockUnavailableException")) (by decide) rfl rfl hn (g := (mkF m 22 #[.val (.ref a1), .val .null, .val .null, .val (.int (0 : Int32)), .val (.ref ex)] [(.ref ex), (.ref a1)])) rfl rfl d14_22 ?_
  intro T5 h5 X5 W5
  show OFin _ _ _ _ _ _ T5 (mkF m 25 #[.val (.ref a1), .val .null, .val .null, .val (.int (0 : Int32)), .val (.ref ex)] [])
  exact X5.retV d14_25 (oN (by decide) (by decide)) (⟨rfl, (((((Keep.refl h0 [a1]).wr W2 (Or.inl (List.mem_of_getElem? (i := 0) rfl))).wr W3 (Or.inl (List.mem_of_getElem? (i := 0) rfl))).wr W4 (Or.inl (List.mem_of_getElem? (i := 0) rfl))).wr W5 (Or.inl (List.mem_of_getElem? (i := 0) rfl))), ((((E.wr W2).wr W3).wr W4).wr W5), ((((F0.same W2).other W3 (Or.inr n01)).other W4 (Or.inr n02)).other W5 (Or.inr n03)), ((((F1.other W2 (Or.inr n10)).same W3).other W4 (Or.inr n12)).other W5 (Or.inr n13)), ((((F2.other W2 (Or.inr n20)).other W3 (Or.inr n21)).same W4).other W5 (Or.inr n23)), ((((F3.other W2 (Or.inr n30)).other W3 (Or.inr n31)).other W4 (Or.inr n32)).same W5)⟩)
theorem d12_0 : decode prog_1_method_6_code 0 = .ok (.new 8, 3) := by decide +kernel
theorem d12_3 : decode prog_1_method_6_code 3 = .ok (.dup, 1) := by decide +kernel
theorem d12_4 : decode prog_1_method_6_code 4 = .ok (.aconst_null, 1) := by decide +kernel
theorem d12_5 : decode prog_1_method_6_code 5 = .ok (.aconst_null, 1) := by decide +kernel
theorem d12_6 : decode prog_1_method_6_code 6 = .ok (.iconst 0, 1) := by decide +kernel
theorem d12_7 : decode prog_1_method_6_code 7 = .ok (.aload_n 0, 1) := by decide +kernel
theorem d12_8 : decode prog_1_method_6_code 8 = .ok (.ldc 66, 2) := by decide +kernel
theorem pd_pLjava_lang_Object_Ljava_lang_String_r_Ljava_lang_Object_ : parseMethodDescriptor "(Ljava/lang/Object;Ljava/lang/String;)Ljava/lang/Object;" = some ⟨[(.object "java/lang/Object"), (.object "java/lang/String")], some (.object "java/lang/Object")⟩ := by decide +kernel
theorem d12_10 : decode prog_1_method_6_code 10 = .ok (.invokestatic 26, 3) := by decide +kernel
theorem d12_13 : decode prog_1_method_6_code 13 = .ok (.checkcast 67, 3) := by decide +kernel
theorem d12_16 : decode prog_1_method_6_code 16 = .ok (.invokespecial 34, 3) := by decide +kernel
theorem pd_pLcom_example_lean_lock_leanlock_LockHandle_Ljava_time_Duration_ZLcom_example_lean_lock_leanlock_LockUnavailableException_r_V : parseMethodDescriptor "(Lcom/example/lean_lock/leanlock/LockHandle;Ljava/time/Duration;ZLcom/example/lean_lock/leanlock/LockUnavailableException;)V" = some ⟨[(.object "com/example/lean_lock/leanlock/LockHandle"), (.object "java/time/Duration"), .boolean, (.object "com/example/lean_lock/leanlock/LockUnavailableException")], none⟩ := by decide +kernel
theorem d12_19 : decode prog_1_method_6_code 19 = .ok (.areturn, 1) := by decide +kernel
set_option maxRecDepth 65536 in
set_option maxHeartbeats 40000000 in
theorem rm3 (l : Launch) (Z : State) (a0 : Array Value) (hw : ∀ d ∈ tables_1, d.before a0 Z = true) (ex : Addr) (h0 : Heap) (n0 : Nat) (EX : Exa Z h0 ex "com/example/lean_lock/leanlock/LockUnavailableException") (Z0 : n0 ≤ h0.size) :
    OMeetsW l Z own_EL (⟨"com/example/lean_lock/leanlock/Attempt", "unanswered", "(Lcom/example/lean_lock/leanlock/LockUnavailableException;)Lcom/example/lean_lock/leanlock/Attempt;"⟩ : MethodName) [] prog_1_method_6_code 1 (some (.object "com/example/lean_lock/leanlock/Attempt")) ({ frames := 2, cells := 3, slots := 48, locals := 29 } : Room) #[(.ref ex)] h0 n0 (fun v h => ∃ a, v = some (.ref a) ∧ Keep h0 h [] ∧ Exa Z h a "com/example/lean_lock/leanlock/Attempt" ∧ Fld Z h a "com/example/lean_lock/leanlock/Attempt" "handle" "Lcom/example/lean_lock/leanlock/LockHandle;" .null ∧ Fld Z h a "com/example/lean_lock/leanlock/Attempt" "expiresIn" "Ljava/time/Duration;" .null ∧ Fld Z h a "com/example/lean_lock/leanlock/Attempt" "split" "Z" (.int 0) ∧ Fld Z h a "com/example/lean_lock/leanlock/Attempt" "unanswered" "Lcom/example/lean_lock/leanlock/LockUnavailableException;" (.ref ex)) := by
  refine o_enterW (Z := Z) (own_EW hw) (plainFor_of_name pn_com_example_lean_lock_leanlock_Attempt) ?_
  intro p e s m below meth c T0 X0 B0
  refine OFin.cast (g' := (mkF m 0 #[.val (.ref ex)] [])) (by first | (simp [entryFrame, mkF, argsToLocals, Value.category]; done) | rfl) ?_
  refine X0.newO (hw _ (List.mem_of_getElem? (i := 94) rfl)) (hw _ (List.mem_of_getElem? (i := 95) rfl)) (hw _ (List.mem_of_getElem? (i := 92) rfl)) (g := (mkF m 0 #[.val (.ref ex)] [])) rfl d12_0 (by decide) (by decide) ?_
  intro T1 h1 b1 gb1 X1 E1 A1 D1
  have B2 := B0.ext E1
  show OFin _ _ _ _ _ _ T1 (mkF m 3 #[.val (.ref ex)] [(.ref b1)])
  have G0 : Fld Z h1 b1 "com/example/lean_lock/leanlock/Attempt" "handle" "Lcom/example/lean_lock/leanlock/LockHandle;" .null := D1 (Or.inr (hw _ (List.mem_of_getElem? (i := 109) rfl))) (ty := (.object "com/example/lean_lock/leanlock/LockHandle")) (by decide)
  have G1 : Fld Z h1 b1 "com/example/lean_lock/leanlock/Attempt" "expiresIn" "Ljava/time/Duration;" .null := D1 (Or.inr (hw _ (List.mem_of_getElem? (i := 111) rfl))) (ty := (.object "java/time/Duration")) (by decide)
  have G2 : Fld Z h1 b1 "com/example/lean_lock/leanlock/Attempt" "split" "Z" (.int 0) := D1 (Or.inr (hw _ (List.mem_of_getElem? (i := 113) rfl))) (ty := .boolean) (by decide)
  have G3 : Fld Z h1 b1 "com/example/lean_lock/leanlock/Attempt" "unanswered" "Lcom/example/lean_lock/leanlock/LockUnavailableException;" .null := D1 (Or.inr (hw _ (List.mem_of_getElem? (i := 115) rfl))) (ty := (.object "com/example/lean_lock/leanlock/LockUnavailableException")) (by decide)
  refine X1.step (fun hA hx hq t_ k_ => XS.dup hA hx rfl (hb hq d12_3) rfl rfl k_) ?_
  show OFin _ _ _ _ _ _ T1 (mkF m 4 #[.val (.ref ex)] [(.ref b1), (.ref b1)])
  refine X1.step (fun hA hx hq t_ k_ => XS.aconstNull hA hx rfl (hb hq d12_4) k_) ?_
  show OFin _ _ _ _ _ _ T1 (mkF m 5 #[.val (.ref ex)] [.null, (.ref b1), (.ref b1)])
  refine X1.step (fun hA hx hq t_ k_ => XS.aconstNull hA hx rfl (hb hq d12_5) k_) ?_
  show OFin _ _ _ _ _ _ T1 (mkF m 6 #[.val (.ref ex)] [.null, .null, (.ref b1), (.ref b1)])
  refine X1.step (fun hA hx hq t_ k_ => XS.iconst hA hx rfl (hb hq d12_6) k_) ?_
  show OFin _ _ _ _ _ _ T1 (mkF m 7 #[.val (.ref ex)] [(.int (0 : Int32)), .null, .null, (.ref b1), (.ref b1)])
  refine X1.step (fun hA hx hq t_ k_ => XS.aloadN hA hx rfl (hb hq d12_7) rfl rfl k_) ?_
  show OFin _ _ _ _ _ _ T1 (mkF m 8 #[.val (.ref ex)] [(.ref ex), (.int (0 : Int32)), .null, .null, (.ref b1), (.ref b1)])
  refine X1.ldcO B2 (hw _ (List.mem_of_getElem? (i := 96) rfl)) (own_wS hw) (g := (mkF m 8 #[.val (.ref ex)] [(.ref ex), (.int (0 : Int32)), .null, .null, (.ref b1), (.ref b1)])) rfl d12_8 (n := 40) (by decide) (by decide) (by decide) (by decide) ?_
  intro b3 T3 h3 vm3 X3 B3 E3 Sf3
  show OFin _ _ _ _ _ _ T3 (mkF m 10 #[.val (.ref ex)] [(.ref b3), (.ref ex), (.int (0 : Int32)), .null, .null, (.ref b1), (.ref b1)])
  refine X3.callS (y' := (⟨"java/util/Objects", "requireNonNull", "(Ljava/lang/Object;Ljava/lang/String;)Ljava/lang/Object;"⟩ : MethodName)) (hw _ (List.mem_of_getElem? (i := 99) rfl)) (hw _ (List.mem_of_getElem? (i := 100) rfl)) (hw _ (List.mem_of_getElem? (i := 101) rfl)) (hw _ (List.mem_of_getElem? (i := 102) rfl)) (by decide) (argsL := [(.ref ex), (.ref b3)]) (rest := [(.int (0 : Int32)), .null, .null, (.ref b1), (.ref b1)]) (rm1 l Z a0 hw ex b3 h3 n0) (g := (mkF m 10 #[.val (.ref ex)] [(.ref b3), (.ref ex), (.int (0 : Int32)), .null, .null, (.ref b1), (.ref b1)])) rfl rfl pd_pLjava_lang_Object_Ljava_lang_String_r_Ljava_lang_Object_ rfl rfl (W := 5) (by show 2 * 0 + _ ≤ _; exact Nat.le_of_eq rfl) d12_10 (by decide) (by decide) (by decide) (by decide) ?_
  intro v4 T4 h4 X4 q4
  obtain ⟨rfl, rfl⟩ := q4
  show OFin _ _ _ _ _ _ T4 (mkF m 13 #[.val (.ref ex)] [(.ref ex), (.int (0 : Int32)), .null, .null, (.ref b1), (.ref b1)])
  refine X4.castY (hw _ (List.mem_of_getElem? (i := 103) rfl)) (Ins.self ((EX.ext E1).ext E3)) (g := (mkF m 13 #[.val (.ref ex)] [(.ref ex), (.int (0 : Int32)), .null, .null, (.ref b1), (.ref b1)])) rfl rfl d12_13 ?_
  intro T5 X5
  show OFin _ _ _ _ _ _ T5 (mkF m 16 #[.val (.ref ex)] [(.ref ex), (.int (0 : Int32)), .null, .null, (.ref b1), (.ref b1)])
  refine X5.callI (y' := (⟨"com/example/lean_lock/leanlock/Attempt", "<init>", "(Lcom/example/lean_lock/leanlock/LockHandle;Ljava/time/Duration;ZLcom/example/lean_lock/leanlock/LockUnavailableException;)V"⟩ : MethodName)) rfl (hw _ (List.mem_of_getElem? (i := 104) rfl)) (hw _ (List.mem_of_getElem? (i := 105) rfl)) (hw _ (List.mem_of_getElem? (i := 92) rfl)) (hw _ (List.mem_of_getElem? (i := 106) rfl)) (by decide) (a := b1) (argsL := [.null, .null, (.int (0 : Int32)), (.ref ex)]) (rest := [(.ref b1)]) (rm2 l Z a0 hw b1 ex h3 n0 (G0.ext E3) (G1.ext E3) (G2.ext E3) (G3.ext E3) (A1.ext E3) (by rw [gb1]; exact Z0)) (g := (mkF m 16 #[.val (.ref ex)] [(.ref ex), (.int (0 : Int32)), .null, .null, (.ref b1), (.ref b1)])) rfl rfl pd_pLcom_example_lean_lock_leanlock_LockHandle_Ljava_time_Duration_ZLcom_example_lean_lock_leanlock_LockUnavailableException_r_V rfl rfl (W := 1) (by show 2 * 0 + _ ≤ _; exact Nat.le_of_eq rfl) d12_16 (by decide) (by decide) (by decide) (by decide) ?_
  intro v6 T6 h6 X6 q6
  obtain ⟨rfl, K6, Q6⟩ := q6
  have B7 := B3.keep K6 (sfS safe_nil sf0)
  show OFin _ _ _ _ _ _ T6 (mkF m 19 #[.val (.ref ex)] [(.ref b1)])
  exact X6.retR rfl rfl d12_19 (oW X6 B7 (by decide) (by decide)) (⟨b1, rfl, (((Keep.refl h0 []).ext E1).ext E3).trans K6 (allS (Or.inr (Nat.le_of_eq gb1.symm)) all0), Q6⟩)
theorem pn_java_util_Optional : plainName "java/util/Optional" = true := by first | (simp [plainName, overriddenIn]; done) | decide +kernel
theorem d17_0 : decode jdk_32_method_2_code 0 = .ok (.aload_n 0, 1) := by decide +kernel
theorem d17_1 : decode jdk_32_method_2_code 1 = .ok (.invokespecial 7, 3) := by decide +kernel
theorem d17_4 : decode jdk_32_method_2_code 4 = .ok (.aload_n 0, 1) := by decide +kernel
theorem d17_5 : decode jdk_32_method_2_code 5 = .ok (.aload_n 1, 1) := by decide +kernel
theorem d17_6 : decode jdk_32_method_2_code 6 = .ok (.putfield 13, 3) := by decide +kernel
theorem d17_9 : decode jdk_32_method_2_code 9 = .ok (.return_, 1) := by decide +kernel
set_option maxRecDepth 65536 in
set_option maxHeartbeats 40000000 in
theorem rm4 (l : Launch) (Z : State) (a0 : Array Value) (hw : ∀ d ∈ tables_1, d.before a0 Z = true) (a1 x : Addr) (h0 : Heap) (n0 : Nat) (F : Fld Z h0 a1 "java/util/Optional" "value" "Ljava/lang/Object;" .null) (E : Exa Z h0 a1 "java/util/Optional") (hn : n0 ≤ a1) :
    OMeets l Z (⟨"java/util/Optional", "<init>", "(Ljava/lang/Object;)V"⟩ : MethodName) [] jdk_32_method_2_code 2 none ({ frames := 1, cells := 0, slots := 0, locals := 12 } : Room) #[(.ref a1), (.ref x)] h0 n0 (fun v h => v = none ∧ Keep h0 h [a1] ∧ Exa Z h a1 "java/util/Optional" ∧ Fld Z h a1 "java/util/Optional" "value" "Ljava/lang/Object;" (.ref x)) := by
  refine o_enter (Z := Z) (plainFor_of_name pn_java_util_Optional) ?_
  intro p e s m below meth c T0 X0
  refine OFin.cast (g' := (mkF m 0 #[.val (.ref a1), .val (.ref x)] [])) (by first | (simp [entryFrame, mkF, argsToLocals, Value.category]; done) | rfl) ?_
  refine X0.step (fun hA hx hq t_ k_ => XS.aloadN hA hx rfl (hb hq d17_0) rfl rfl k_) ?_
  show OFin _ _ _ _ _ _ T0 (mkF m 1 #[.val (.ref a1), .val (.ref x)] [(.ref a1)])
  refine X0.initO (hw _ (List.mem_of_getElem? (i := 131) rfl)) (hw _ (List.mem_of_getElem? (i := 12) rfl)) (hw _ (List.mem_of_getElem? (i := 13) rfl)) (g := (mkF m 1 #[.val (.ref a1), .val (.ref x)] [(.ref a1)])) rfl rfl rfl d17_1 (by decide) (W := 0) (by show 2 * 0 + _ ≤ _; exact Nat.le_of_eq rfl) (by decide) ?_
  intro T1 X1
  show OFin _ _ _ _ _ _ T1 (mkF m 4 #[.val (.ref a1), .val (.ref x)] [])
  refine X1.step (fun hA hx hq t_ k_ => XS.aloadN hA hx rfl (hb hq d17_4) rfl rfl k_) ?_
  show OFin _ _ _ _ _ _ T1 (mkF m 5 #[.val (.ref a1), .val (.ref x)] [(.ref a1)])
  refine X1.step (fun hA hx hq t_ k_ => XS.aloadN hA hx rfl (hb hq d17_5) rfl rfl k_) ?_
  show OFin _ _ _ _ _ _ T1 (mkF m 6 #[.val (.ref a1), .val (.ref x)] [(.ref x), (.ref a1)])
  refine X1.putF (hw _ (List.mem_of_getElem? (i := 132) rfl)) F E (Or.inr ⟨(hw _ (List.mem_of_getElem? (i := 133) rfl)), rfl, rfl⟩) (hw _ (List.mem_of_getElem? (i := 126) rfl)) (ty := (.object "java/lang/Object")) (by decide) rfl rfl hn (g := (mkF m 6 #[.val (.ref a1), .val (.ref x)] [(.ref x), (.ref a1)])) rfl rfl d17_6 ?_
  intro T2 h2 X2 W2
  show OFin _ _ _ _ _ _ T2 (mkF m 9 #[.val (.ref a1), .val (.ref x)] [])
  exact X2.retV d17_9 (oN (by decide) (by decide)) (⟨rfl, Keep.of_wr W2, E.wr W2, F.same W2⟩)
theorem d16_0 : decode jdk_32_method_4_code 0 = .ok (.aload_n 0, 1) := by decide +kernel
theorem d16_1 : decode jdk_32_method_4_code 1 = .ok (.ifnonnull 9, 3) := by decide +kernel
theorem d16_10 : decode jdk_32_method_4_code 10 = .ok (.new 2, 3) := by decide +kernel
theorem d16_13 : decode jdk_32_method_4_code 13 = .ok (.dup, 1) := by decide +kernel
theorem d16_14 : decode jdk_32_method_4_code 14 = .ok (.aload_n 0, 1) := by decide +kernel
theorem d16_15 : decode jdk_32_method_4_code 15 = .ok (.invokespecial 23, 3) := by decide +kernel
theorem pd_pLjava_lang_Object_r_V : parseMethodDescriptor "(Ljava/lang/Object;)V" = some ⟨[(.object "java/lang/Object")], none⟩ := by decide +kernel
theorem d16_18 : decode jdk_32_method_4_code 18 = .ok (.areturn, 1) := by decide +kernel
set_option maxRecDepth 65536 in
set_option maxHeartbeats 40000000 in
theorem rm5 (l : Launch) (Z : State) (a0 : Array Value) (hw : ∀ d ∈ tables_1, d.before a0 Z = true) (x : Addr) (h0 : Heap) (n0 : Nat) (Z0 : n0 ≤ h0.size) :
    OMeets l Z (⟨"java/util/Optional", "ofNullable", "(Ljava/lang/Object;)Ljava/util/Optional;"⟩ : MethodName) [] jdk_32_method_4_code 1 (some (.object "java/util/Optional")) ({ frames := 2, cells := 1, slots := 1, locals := 26 } : Room) #[(.ref x)] h0 n0 (fun v h => ∃ o, v = some (.ref o) ∧ Keep h0 h [] ∧ Exa Z h o "java/util/Optional" ∧ Fld Z h o "java/util/Optional" "value" "Ljava/lang/Object;" (.ref x)) := by
  refine o_enter (Z := Z) (plainFor_of_name pn_java_util_Optional) ?_
  intro p e s m below meth c T0 X0
  refine OFin.cast (g' := (mkF m 0 #[.val (.ref x)] [])) (by first | (simp [entryFrame, mkF, argsToLocals, Value.category]; done) | rfl) ?_
  refine X0.step (fun hA hx hq t_ k_ => XS.aloadN hA hx rfl (hb hq d16_0) rfl rfl k_) ?_
  show OFin _ _ _ _ _ _ T0 (mkF m 1 #[.val (.ref x)] [(.ref x)])
  refine X0.step (fun hA hx hq t_ k_ => XS.ifnonnullYes hA hx rfl (pc0 := 1) (pc' := 10) rfl (hb hq d16_1) rfl (by decide) (by decide) k_) ?_
  show OFin _ _ _ _ _ _ T0 (mkF m 10 #[.val (.ref x)] [])
  refine X0.newO (hw _ (List.mem_of_getElem? (i := 125) rfl)) (hw _ (List.mem_of_getElem? (i := 126) rfl)) (hw _ (List.mem_of_getElem? (i := 123) rfl)) (g := (mkF m 10 #[.val (.ref x)] [])) rfl d16_10 (by decide) (by decide) ?_
  intro T1 h1 b1 gb1 X1 E1 A1 D1
  show OFin _ _ _ _ _ _ T1 (mkF m 13 #[.val (.ref x)] [(.ref b1)])
  have F : Fld Z h1 b1 "java/util/Optional" "value" "Ljava/lang/Object;" .null := D1 (Or.inr (hw _ (List.mem_of_getElem? (i := 133) rfl))) (ty := (.object "java/lang/Object")) (by decide)
  refine X1.step (fun hA hx hq t_ k_ => XS.dup hA hx rfl (hb hq d16_13) rfl rfl k_) ?_
  show OFin _ _ _ _ _ _ T1 (mkF m 14 #[.val (.ref x)] [(.ref b1), (.ref b1)])
  refine X1.step (fun hA hx hq t_ k_ => XS.aloadN hA hx rfl (hb hq d16_14) rfl rfl k_) ?_
  show OFin _ _ _ _ _ _ T1 (mkF m 15 #[.val (.ref x)] [(.ref x), (.ref b1), (.ref b1)])
  refine X1.callI (y' := (⟨"java/util/Optional", "<init>", "(Ljava/lang/Object;)V"⟩ : MethodName)) rfl (hw _ (List.mem_of_getElem? (i := 127) rfl)) (hw _ (List.mem_of_getElem? (i := 128) rfl)) (hw _ (List.mem_of_getElem? (i := 123) rfl)) (hw _ (List.mem_of_getElem? (i := 130) rfl)) (by decide) (a := b1) (argsL := [(.ref x)]) (rest := [(.ref b1)]) (rm4 l Z a0 hw b1 x h1 n0 F A1 (by rw [gb1]; exact Z0)) (g := (mkF m 15 #[.val (.ref x)] [(.ref x), (.ref b1), (.ref b1)])) rfl rfl pd_pLjava_lang_Object_r_V rfl rfl (W := 1) (by show 2 * 0 + _ ≤ _; exact Nat.le_of_eq rfl) d16_15 (by decide) (by decide) (by decide) (by decide) ?_
  intro v2 T2 h2 X2 q2
  obtain ⟨rfl, K2, Q2⟩ := q2
  show OFin _ _ _ _ _ _ T2 (mkF m 18 #[.val (.ref x)] [(.ref b1)])
  exact X2.retR rfl rfl d16_18 (oN (by decide) (by decide)) (⟨b1, rfl, ((Keep.refl h0 []).ext E1).trans K2 (allS (Or.inr (Nat.le_of_eq gb1.symm)) all0), Q2⟩)
theorem d16_4 : decode jdk_32_method_4_code 4 = .ok (.getstatic 1, 3) := by decide +kernel
theorem d16_7 : decode jdk_32_method_4_code 7 = .ok (.goto 11, 3) := by decide +kernel
set_option maxRecDepth 65536 in
set_option maxHeartbeats 40000000 in
theorem rm6 (l : Launch) (Z : State) (a0 : Array Value) (hw : ∀ d ∈ tables_1, d.before a0 Z = true) (oE : Addr) (h0 : Heap) (n0 : Nat) (SE : Sta Z h0 "java/util/Optional" "EMPTY" "Ljava/util/Optional;" (.ref oE)) :
    OMeets l Z (⟨"java/util/Optional", "ofNullable", "(Ljava/lang/Object;)Ljava/util/Optional;"⟩ : MethodName) [] jdk_32_method_4_code 1 (some (.object "java/util/Optional")) ({ frames := 0, cells := 0, slots := 0, locals := 0 } : Room) #[.null] h0 n0 (fun v h => v = some (.ref oE) ∧ h0 = h) := by
  refine o_enter (Z := Z) (plainFor_of_name pn_java_util_Optional) ?_
  intro p e s m below meth c T0 X0
  refine OFin.cast (g' := (mkF m 0 #[.val .null] [])) (by first | (simp [entryFrame, mkF, argsToLocals, Value.category]; done) | rfl) ?_
  refine X0.step (fun hA hx hq t_ k_ => XS.aloadN hA hx rfl (hb hq d16_0) rfl rfl k_) ?_
  show OFin _ _ _ _ _ _ T0 (mkF m 1 #[.val .null] [.null])
  refine X0.step (fun hA hx hq t_ k_ => XS.ifnonnullNo hA hx rfl (hb hq d16_1) rfl k_) ?_
  show OFin _ _ _ _ _ _ T0 (mkF m 4 #[.val .null] [])
  refine X0.getS (hw _ (List.mem_of_getElem? (i := 139) rfl)) SE (g := (mkF m 4 #[.val .null] [])) rfl d16_4 ?_
  intro T1 X1
  show OFin _ _ _ _ _ _ T1 (mkF m 7 #[.val .null] [(.ref oE)])
  refine X1.step (fun hA hx hq t_ k_ => XS.goto hA hx rfl (pc0 := 7) (pc' := 18) rfl (hb hq d16_7) (by decide) (by decide) k_) ?_
  show OFin _ _ _ _ _ _ T1 (mkF m 18 #[.val .null] [(.ref oE)])
  exact X1.retR rfl rfl d16_18 (oN (by decide) (by decide)) (⟨rfl, rfl⟩)
theorem d15_0 : decode prog_1_method_10_code 0 = .ok (.aload_n 0, 1) := by decide +kernel
theorem d15_1 : decode prog_1_method_10_code 1 = .ok (.getfield 21, 3) := by decide +kernel
theorem pd_pLjava_lang_Object_r_Ljava_util_Optional_ : parseMethodDescriptor "(Ljava/lang/Object;)Ljava/util/Optional;" = some ⟨[(.object "java/lang/Object")], some (.object "java/util/Optional")⟩ := by decide +kernel
theorem d15_4 : decode prog_1_method_10_code 4 = .ok (.invokestatic 69, 3) := by decide +kernel
theorem d15_7 : decode prog_1_method_10_code 7 = .ok (.areturn, 1) := by decide +kernel
set_option maxRecDepth 65536 in
set_option maxHeartbeats 40000000 in
theorem rm7 (l : Launch) (Z : State) (a0 : Array Value) (hw : ∀ d ∈ tables_1, d.before a0 Z = true) (a1 x : Addr) (h0 : Heap) (n0 : Nat) (F : Fld Z h0 a1 "com/example/lean_lock/leanlock/Attempt" "unanswered" "Lcom/example/lean_lock/leanlock/LockUnavailableException;" (.ref x)) (Z0 : n0 ≤ h0.size) :
    OMeets l Z (⟨"com/example/lean_lock/leanlock/Attempt", "unanswered", "()Ljava/util/Optional;"⟩ : MethodName) [] prog_1_method_10_code 1 (some (.object "java/util/Optional")) ({ frames := 3, cells := 1, slots := 1, locals := 38 } : Room) #[(.ref a1)] h0 n0 (fun v h => ∃ o, v = some (.ref o) ∧ Keep h0 h [] ∧ Exa Z h o "java/util/Optional" ∧ Fld Z h o "java/util/Optional" "value" "Ljava/lang/Object;" (.ref x)) := by
  refine o_enter (Z := Z) (plainFor_of_name pn_com_example_lean_lock_leanlock_Attempt) ?_
  intro p e s m below meth c T0 X0
  refine OFin.cast (g' := (mkF m 0 #[.val (.ref a1)] [])) (by first | (simp [entryFrame, mkF, argsToLocals, Value.category]; done) | rfl) ?_
  refine X0.step (fun hA hx hq t_ k_ => XS.aloadN hA hx rfl (hb hq d15_0) rfl rfl k_) ?_
  show OFin _ _ _ _ _ _ T0 (mkF m 1 #[.val (.ref a1)] [(.ref a1)])
  refine X0.getF (hw _ (List.mem_of_getElem? (i := 114) rfl)) F (g := (mkF m 1 #[.val (.ref a1)] [(.ref a1)])) rfl rfl d15_1 ?_
  intro T1 X1
  show OFin _ _ _ _ _ _ T1 (mkF m 4 #[.val (.ref a1)] [(.ref x)])
  refine X1.callS (y' := (⟨"java/util/Optional", "ofNullable", "(Ljava/lang/Object;)Ljava/util/Optional;"⟩ : MethodName)) (hw _ (List.mem_of_getElem? (i := 121) rfl)) (hw _ (List.mem_of_getElem? (i := 122) rfl)) (hw _ (List.mem_of_getElem? (i := 123) rfl)) (hw _ (List.mem_of_getElem? (i := 124) rfl)) (by decide) (argsL := [(.ref x)]) (rest := []) (rm5 l Z a0 hw x h0 n0 Z0) (g := (mkF m 4 #[.val (.ref a1)] [(.ref x)])) rfl rfl pd_pLjava_lang_Object_r_Ljava_util_Optional_ rfl rfl (W := 0) (by show 2 * 0 + _ ≤ _; exact Nat.le_of_eq rfl) d15_4 (by decide) (by decide) (by decide) (by decide) ?_
  intro v2 T2 h2 X2 q2
  obtain ⟨o, rfl, K2, Q2⟩ := q2
  show OFin _ _ _ _ _ _ T2 (mkF m 7 #[.val (.ref a1)] [(.ref o)])
  exact X2.retR rfl rfl d15_7 (oN (by decide) (by decide)) (⟨o, rfl, K2, Q2⟩)
theorem d18_0 : decode prog_1_method_7_code 0 = .ok (.aload_n 0, 1) := by decide +kernel
theorem d18_1 : decode prog_1_method_7_code 1 = .ok (.getfield 7, 3) := by decide +kernel
theorem d18_4 : decode prog_1_method_7_code 4 = .ok (.invokestatic 69, 3) := by decide +kernel
theorem d18_7 : decode prog_1_method_7_code 7 = .ok (.areturn, 1) := by decide +kernel
set_option maxRecDepth 65536 in
set_option maxHeartbeats 40000000 in
theorem rm8 (l : Launch) (Z : State) (a0 : Array Value) (hw : ∀ d ∈ tables_1, d.before a0 Z = true) (a1 oE : Addr) (h0 : Heap) (n0 : Nat) (F : Fld Z h0 a1 "com/example/lean_lock/leanlock/Attempt" "handle" "Lcom/example/lean_lock/leanlock/LockHandle;" .null) (SE : Sta Z h0 "java/util/Optional" "EMPTY" "Ljava/util/Optional;" (.ref oE)) :
    OMeets l Z (⟨"com/example/lean_lock/leanlock/Attempt", "handle", "()Ljava/util/Optional;"⟩ : MethodName) [] prog_1_method_7_code 1 (some (.object "java/util/Optional")) ({ frames := 1, cells := 0, slots := 0, locals := 12 } : Room) #[(.ref a1)] h0 n0 (fun v h => v = some (.ref oE) ∧ h0 = h) := by
  refine o_enter (Z := Z) (plainFor_of_name pn_com_example_lean_lock_leanlock_Attempt) ?_
  intro p e s m below meth c T0 X0
  refine OFin.cast (g' := (mkF m 0 #[.val (.ref a1)] [])) (by first | (simp [entryFrame, mkF, argsToLocals, Value.category]; done) | rfl) ?_
  refine X0.step (fun hA hx hq t_ k_ => XS.aloadN hA hx rfl (hb hq d18_0) rfl rfl k_) ?_
  show OFin _ _ _ _ _ _ T0 (mkF m 1 #[.val (.ref a1)] [(.ref a1)])
  refine X0.getF (hw _ (List.mem_of_getElem? (i := 108) rfl)) F (g := (mkF m 1 #[.val (.ref a1)] [(.ref a1)])) rfl rfl d18_1 ?_
  intro T1 X1
  show OFin _ _ _ _ _ _ T1 (mkF m 4 #[.val (.ref a1)] [.null])
  refine X1.callS (y' := (⟨"java/util/Optional", "ofNullable", "(Ljava/lang/Object;)Ljava/util/Optional;"⟩ : MethodName)) (hw _ (List.mem_of_getElem? (i := 121) rfl)) (hw _ (List.mem_of_getElem? (i := 122) rfl)) (hw _ (List.mem_of_getElem? (i := 123) rfl)) (hw _ (List.mem_of_getElem? (i := 124) rfl)) (by decide) (argsL := [.null]) (rest := []) (rm6 l Z a0 hw oE h0 n0 SE) (g := (mkF m 4 #[.val (.ref a1)] [.null])) rfl rfl pd_pLjava_lang_Object_r_Ljava_util_Optional_ rfl rfl (W := 0) (by show 2 * 0 + _ ≤ _; exact Nat.le_of_eq rfl) d18_4 (by decide) (by decide) (by decide) (by decide) ?_
  intro v2 T2 h2 X2 q2
  obtain ⟨rfl, rfl⟩ := q2
  show OFin _ _ _ _ _ _ T2 (mkF m 7 #[.val (.ref a1)] [(.ref oE)])
  exact X2.retR rfl rfl d18_7 (oN (by decide) (by decide)) (⟨rfl, rfl⟩)
theorem d19_0 : decode prog_1_method_8_code 0 = .ok (.aload_n 0, 1) := by decide +kernel
theorem d19_1 : decode prog_1_method_8_code 1 = .ok (.getfield 13, 3) := by decide +kernel
theorem d19_4 : decode prog_1_method_8_code 4 = .ok (.invokestatic 69, 3) := by decide +kernel
theorem d19_7 : decode prog_1_method_8_code 7 = .ok (.areturn, 1) := by decide +kernel
set_option maxRecDepth 65536 in
set_option maxHeartbeats 40000000 in
theorem rm9 (l : Launch) (Z : State) (a0 : Array Value) (hw : ∀ d ∈ tables_1, d.before a0 Z = true) (a1 oE : Addr) (h0 : Heap) (n0 : Nat) (F : Fld Z h0 a1 "com/example/lean_lock/leanlock/Attempt" "expiresIn" "Ljava/time/Duration;" .null) (SE : Sta Z h0 "java/util/Optional" "EMPTY" "Ljava/util/Optional;" (.ref oE)) :
    OMeets l Z (⟨"com/example/lean_lock/leanlock/Attempt", "expiresIn", "()Ljava/util/Optional;"⟩ : MethodName) [] prog_1_method_8_code 1 (some (.object "java/util/Optional")) ({ frames := 1, cells := 0, slots := 0, locals := 12 } : Room) #[(.ref a1)] h0 n0 (fun v h => v = some (.ref oE) ∧ h0 = h) := by
  refine o_enter (Z := Z) (plainFor_of_name pn_com_example_lean_lock_leanlock_Attempt) ?_
  intro p e s m below meth c T0 X0
  refine OFin.cast (g' := (mkF m 0 #[.val (.ref a1)] [])) (by first | (simp [entryFrame, mkF, argsToLocals, Value.category]; done) | rfl) ?_
  refine X0.step (fun hA hx hq t_ k_ => XS.aloadN hA hx rfl (hb hq d19_0) rfl rfl k_) ?_
  show OFin _ _ _ _ _ _ T0 (mkF m 1 #[.val (.ref a1)] [(.ref a1)])
  refine X0.getF (hw _ (List.mem_of_getElem? (i := 110) rfl)) F (g := (mkF m 1 #[.val (.ref a1)] [(.ref a1)])) rfl rfl d19_1 ?_
  intro T1 X1
  show OFin _ _ _ _ _ _ T1 (mkF m 4 #[.val (.ref a1)] [.null])
  refine X1.callS (y' := (⟨"java/util/Optional", "ofNullable", "(Ljava/lang/Object;)Ljava/util/Optional;"⟩ : MethodName)) (hw _ (List.mem_of_getElem? (i := 121) rfl)) (hw _ (List.mem_of_getElem? (i := 122) rfl)) (hw _ (List.mem_of_getElem? (i := 123) rfl)) (hw _ (List.mem_of_getElem? (i := 124) rfl)) (by decide) (argsL := [.null]) (rest := []) (rm6 l Z a0 hw oE h0 n0 SE) (g := (mkF m 4 #[.val (.ref a1)] [.null])) rfl rfl pd_pLjava_lang_Object_r_Ljava_util_Optional_ rfl rfl (W := 0) (by show 2 * 0 + _ ≤ _; exact Nat.le_of_eq rfl) d19_4 (by decide) (by decide) (by decide) (by decide) ?_
  intro v2 T2 h2 X2 q2
  obtain ⟨rfl, rfl⟩ := q2
  show OFin _ _ _ _ _ _ T2 (mkF m 7 #[.val (.ref a1)] [(.ref oE)])
  exact X2.retR rfl rfl d19_7 (oN (by decide) (by decide)) (⟨rfl, rfl⟩)
theorem d20_0 : decode jdk_32_method_6_code 0 = .ok (.aload_n 0, 1) := by decide +kernel
theorem d20_1 : decode jdk_32_method_6_code 1 = .ok (.getfield 13, 3) := by decide +kernel
theorem d20_4 : decode jdk_32_method_6_code 4 = .ok (.ifnull 7, 3) := by decide +kernel
theorem d20_7 : decode jdk_32_method_6_code 7 = .ok (.iconst 1, 1) := by decide +kernel
theorem d20_8 : decode jdk_32_method_6_code 8 = .ok (.goto 4, 3) := by decide +kernel
theorem d20_12 : decode jdk_32_method_6_code 12 = .ok (.ireturn, 1) := by decide +kernel
set_option maxRecDepth 65536 in
set_option maxHeartbeats 40000000 in
theorem rm10 (l : Launch) (Z : State) (a0 : Array Value) (hw : ∀ d ∈ tables_1, d.before a0 Z = true) (a1 x : Addr) (h0 : Heap) (n0 : Nat) (F : Fld Z h0 a1 "java/util/Optional" "value" "Ljava/lang/Object;" (.ref x)) :
    OMeets l Z (⟨"java/util/Optional", "isPresent", "()Z"⟩ : MethodName) [] jdk_32_method_6_code 1 (some .boolean) ({ frames := 0, cells := 0, slots := 0, locals := 0 } : Room) #[(.ref a1)] h0 n0 (fun v h => v = some (.int 1) ∧ h0 = h) := by
  refine o_enter (Z := Z) (plainFor_of_name pn_java_util_Optional) ?_
  intro p e s m below meth c T0 X0
  refine OFin.cast (g' := (mkF m 0 #[.val (.ref a1)] [])) (by first | (simp [entryFrame, mkF, argsToLocals, Value.category]; done) | rfl) ?_
  refine X0.step (fun hA hx hq t_ k_ => XS.aloadN hA hx rfl (hb hq d20_0) rfl rfl k_) ?_
  show OFin _ _ _ _ _ _ T0 (mkF m 1 #[.val (.ref a1)] [(.ref a1)])
  refine X0.getF (hw _ (List.mem_of_getElem? (i := 132) rfl)) F (g := (mkF m 1 #[.val (.ref a1)] [(.ref a1)])) rfl rfl d20_1 ?_
  intro T1 X1
  show OFin _ _ _ _ _ _ T1 (mkF m 4 #[.val (.ref a1)] [(.ref x)])
  refine X1.step (fun hA hx hq t_ k_ => XS.ifnullNo hA hx rfl (hb hq d20_4) rfl k_) ?_
  show OFin _ _ _ _ _ _ T1 (mkF m 7 #[.val (.ref a1)] [])
  refine X1.step (fun hA hx hq t_ k_ => XS.iconst hA hx rfl (hb hq d20_7) k_) ?_
  show OFin _ _ _ _ _ _ T1 (mkF m 8 #[.val (.ref a1)] [(.int (1 : Int32))])
  refine X1.step (fun hA hx hq t_ k_ => XS.goto hA hx rfl (pc0 := 8) (pc' := 12) rfl (hb hq d20_8) (by decide) (by decide) k_) ?_
  show OFin _ _ _ _ _ _ T1 (mkF m 12 #[.val (.ref a1)] [(.int (1 : Int32))])
  exact X1.retN (by simp) d20_12 (oN (by decide) (by decide)) (⟨rfl, rfl⟩)
theorem d20_11 : decode jdk_32_method_6_code 11 = .ok (.iconst 0, 1) := by decide +kernel
set_option maxRecDepth 65536 in
set_option maxHeartbeats 40000000 in
theorem rm11 (l : Launch) (Z : State) (a0 : Array Value) (hw : ∀ d ∈ tables_1, d.before a0 Z = true) (a1 : Addr) (h0 : Heap) (n0 : Nat) (F : Fld Z h0 a1 "java/util/Optional" "value" "Ljava/lang/Object;" .null) :
    OMeets l Z (⟨"java/util/Optional", "isPresent", "()Z"⟩ : MethodName) [] jdk_32_method_6_code 1 (some .boolean) ({ frames := 0, cells := 0, slots := 0, locals := 0 } : Room) #[(.ref a1)] h0 n0 (fun v h => v = some (.int 0) ∧ h0 = h) := by
  refine o_enter (Z := Z) (plainFor_of_name pn_java_util_Optional) ?_
  intro p e s m below meth c T0 X0
  refine OFin.cast (g' := (mkF m 0 #[.val (.ref a1)] [])) (by first | (simp [entryFrame, mkF, argsToLocals, Value.category]; done) | rfl) ?_
  refine X0.step (fun hA hx hq t_ k_ => XS.aloadN hA hx rfl (hb hq d20_0) rfl rfl k_) ?_
  show OFin _ _ _ _ _ _ T0 (mkF m 1 #[.val (.ref a1)] [(.ref a1)])
  refine X0.getF (hw _ (List.mem_of_getElem? (i := 132) rfl)) F (g := (mkF m 1 #[.val (.ref a1)] [(.ref a1)])) rfl rfl d20_1 ?_
  intro T1 X1
  show OFin _ _ _ _ _ _ T1 (mkF m 4 #[.val (.ref a1)] [.null])
  refine X1.step (fun hA hx hq t_ k_ => XS.ifnullYes hA hx rfl (pc0 := 4) (pc' := 11) rfl (hb hq d20_4) rfl (by decide) (by decide) k_) ?_
  show OFin _ _ _ _ _ _ T1 (mkF m 11 #[.val (.ref a1)] [])
  refine X1.step (fun hA hx hq t_ k_ => XS.iconst hA hx rfl (hb hq d20_11) k_) ?_
  show OFin _ _ _ _ _ _ T1 (mkF m 12 #[.val (.ref a1)] [(.int (0 : Int32))])
  exact X1.retN (by simp) d20_12 (oN (by decide) (by decide)) (⟨rfl, rfl⟩)
theorem d21_0 : decode jdk_32_method_5_code 0 = .ok (.aload_n 0, 1) := by decide +kernel
theorem d21_1 : decode jdk_32_method_5_code 1 = .ok (.getfield 13, 3) := by decide +kernel
theorem d21_4 : decode jdk_32_method_5_code 4 = .ok (.ifnonnull 13, 3) := by decide +kernel
theorem d21_17 : decode jdk_32_method_5_code 17 = .ok (.aload_n 0, 1) := by decide +kernel
theorem d21_18 : decode jdk_32_method_5_code 18 = .ok (.getfield 13, 3) := by decide +kernel
theorem d21_21 : decode jdk_32_method_5_code 21 = .ok (.areturn, 1) := by decide +kernel
set_option maxRecDepth 65536 in
set_option maxHeartbeats 40000000 in
theorem rm12 (l : Launch) (Z : State) (a0 : Array Value) (hw : ∀ d ∈ tables_1, d.before a0 Z = true) (a1 x : Addr) (h0 : Heap) (n0 : Nat) (F : Fld Z h0 a1 "java/util/Optional" "value" "Ljava/lang/Object;" (.ref x)) :
    OMeets l Z (⟨"java/util/Optional", "get", "()Ljava/lang/Object;"⟩ : MethodName) [] jdk_32_method_5_code 1 (some (.object "java/lang/Object")) ({ frames := 0, cells := 0, slots := 0, locals := 0 } : Room) #[(.ref a1)] h0 n0 (fun v h => v = some (.ref x) ∧ h0 = h) := by
  refine o_enter (Z := Z) (plainFor_of_name pn_java_util_Optional) ?_
  intro p e s m below meth c T0 X0
  refine OFin.cast (g' := (mkF m 0 #[.val (.ref a1)] [])) (by first | (simp [entryFrame, mkF, argsToLocals, Value.category]; done) | rfl) ?_
  refine X0.step (fun hA hx hq t_ k_ => XS.aloadN hA hx rfl (hb hq d21_0) rfl rfl k_) ?_
  show OFin _ _ _ _ _ _ T0 (mkF m 1 #[.val (.ref a1)] [(.ref a1)])
  refine X0.getF (hw _ (List.mem_of_getElem? (i := 132) rfl)) F (g := (mkF m 1 #[.val (.ref a1)] [(.ref a1)])) rfl rfl d21_1 ?_
  intro T1 X1
  show OFin _ _ _ _ _ _ T1 (mkF m 4 #[.val (.ref a1)] [(.ref x)])
  refine X1.step (fun hA hx hq t_ k_ => XS.ifnonnullYes hA hx rfl (pc0 := 4) (pc' := 17) rfl (hb hq d21_4) rfl (by decide) (by decide) k_) ?_
  show OFin _ _ _ _ _ _ T1 (mkF m 17 #[.val (.ref a1)] [])
  refine X1.step (fun hA hx hq t_ k_ => XS.aloadN hA hx rfl (hb hq d21_17) rfl rfl k_) ?_
  show OFin _ _ _ _ _ _ T1 (mkF m 18 #[.val (.ref a1)] [(.ref a1)])
  refine X1.getF (hw _ (List.mem_of_getElem? (i := 132) rfl)) F (g := (mkF m 18 #[.val (.ref a1)] [(.ref a1)])) rfl rfl d21_18 ?_
  intro T2 X2
  show OFin _ _ _ _ _ _ T2 (mkF m 21 #[.val (.ref a1)] [(.ref x)])
  exact X2.retR rfl rfl d21_21 (oN (by decide) (by decide)) (⟨rfl, rfl⟩)
theorem d22_0 : decode prog_1_method_9_code 0 = .ok (.aload_n 0, 1) := by decide +kernel
theorem d22_1 : decode prog_1_method_9_code 1 = .ok (.getfield 17, 3) := by decide +kernel
theorem d22_4 : decode prog_1_method_9_code 4 = .ok (.ireturn, 1) := by decide +kernel
set_option maxRecDepth 65536 in
set_option maxHeartbeats 40000000 in
theorem rm13 (l : Launch) (Z : State) (a0 : Array Value) (hw : ∀ d ∈ tables_1, d.before a0 Z = true) (a1 : Addr) (h0 : Heap) (n0 : Nat) (F : Fld Z h0 a1 "com/example/lean_lock/leanlock/Attempt" "split" "Z" (.int 0)) :
    OMeets l Z (⟨"com/example/lean_lock/leanlock/Attempt", "isSplit", "()Z"⟩ : MethodName) [] prog_1_method_9_code 1 (some .boolean) ({ frames := 0, cells := 0, slots := 0, locals := 0 } : Room) #[(.ref a1)] h0 n0 (fun v h => v = some (.int 0) ∧ h0 = h) := by
  refine o_enter (Z := Z) (plainFor_of_name pn_com_example_lean_lock_leanlock_Attempt) ?_
  intro p e s m below meth c T0 X0
  refine OFin.cast (g' := (mkF m 0 #[.val (.ref a1)] [])) (by first | (simp [entryFrame, mkF, argsToLocals, Value.category]; done) | rfl) ?_
  refine X0.step (fun hA hx hq t_ k_ => XS.aloadN hA hx rfl (hb hq d22_0) rfl rfl k_) ?_
  show OFin _ _ _ _ _ _ T0 (mkF m 1 #[.val (.ref a1)] [(.ref a1)])
  refine X0.getF (hw _ (List.mem_of_getElem? (i := 112) rfl)) F (g := (mkF m 1 #[.val (.ref a1)] [(.ref a1)])) rfl rfl d22_1 ?_
  intro T1 X1
  show OFin _ _ _ _ _ _ T1 (mkF m 4 #[.val (.ref a1)] [(.int (0 : Int32))])
  exact X1.retN (by simp) d22_4 (oN (by decide) (by decide)) (⟨rfl, rfl⟩)
theorem pn_com_example_lean_lock_leanlock_AttemptUnansweredPinLaw : plainName "com/example/lean_lock/leanlock/AttemptUnansweredPinLaw" = true := by first | (simp [plainName, overriddenIn]; done) | decide +kernel
theorem pd_pA_Cr_V : parseMethodDescriptor "([C)V" = some ⟨[(.array .char)], none⟩ := by decide +kernel
theorem pd_pLcom_example_lean_lock_leanlock_LockUnavailableException_r_Lcom_example_lean_lock_leanlock_Attempt_ : parseMethodDescriptor "(Lcom/example/lean_lock/leanlock/LockUnavailableException;)Lcom/example/lean_lock/leanlock/Attempt;" = some ⟨[(.object "com/example/lean_lock/leanlock/LockUnavailableException")], some (.object "com/example/lean_lock/leanlock/Attempt")⟩ := by decide +kernel
theorem pd_pr_Ljava_util_Optional_ : parseMethodDescriptor "()Ljava/util/Optional;" = some ⟨[], some (.object "java/util/Optional")⟩ := by decide +kernel
theorem pd_pr_Z : parseMethodDescriptor "()Z" = some ⟨[], some .boolean⟩ := by decide +kernel
theorem pd_pr_Ljava_lang_Object_ : parseMethodDescriptor "()Ljava/lang/Object;" = some ⟨[], some (.object "java/lang/Object")⟩ := by decide +kernel
set_option maxRecDepth 65536 in
set_option maxHeartbeats 40000000 in
theorem rm0 (l : Launch) (Z : State) (a0 : Array Value) (hw : ∀ d ∈ tables_1, d.before a0 Z = true) (ws : List Jvm.Cond) (p0 p1 p2 cs : Int32) (oE : Addr) (u sn : Value) (h0 : Heap) (n0 : Nat) (hl : l.stackTraces = true) (SU : Sta Z Z.heap "java/lang/Throwable" "UNASSIGNED_STACK" "[Ljava/lang/StackTraceElement;" u) (hu : u.isRef = true) (SN : Sta Z Z.heap "java/lang/Throwable" "SUPPRESSED_SENTINEL" "Ljava/util/List;" sn) (hsn : sn.isRef = true) (O0 : Old Z n0 h0) (SS : Sta Z Z.heap "java/lang/String" "COMPACT_STRINGS" "Z" (.int cs)) (hcs : ¬ cs = 0) (SE : Sta Z Z.heap "java/util/Optional" "EMPTY" "Ljava/util/Optional;" (.ref oE)) (EE : Exa Z Z.heap oE "java/util/Optional") (FE_ : Fld Z Z.heap oE "java/util/Optional" "value" "Ljava/lang/Object;" .null) :
    OMeetsWK l Z own_EL x ws code maxLocals ret room_1 #[(.int p0), (.int p1), (.int p2)] h0 n0 (fun v h => v = some (.int 1)) := by
  refine o_enterWK (Z := Z) (own_EW hw) (plainFor_of_name pn_com_example_lean_lock_leanlock_AttemptUnansweredPinLaw) ?_
  intro p e s m below meth c T0 X0 B0 hTK hBl
  refine OFin.cast (g' := (mkF m 0 #[.val (.int p0), .val (.int p1), .val (.int p2), .unset, .unset, .unset, .unset, .unset, .unset, .unset, .unset, .unset, .unset, .unset] [])) (by first | (simp [entryFrame, mkF, argsToLocals, Value.category, maxLocals]; done) | rfl) ?_
  have Z0 : n0 ≤ h0.size := by rw [← O0.1]; exact O0.2.1
  have T00 : ThS Z h0 := ThS.start.ext O0.2
  have ka := own_c8 p0
  have kb := own_c8 p1
  refine X0.step (fun hA hx hq t_ k_ => XS.iconst hA hx rfl (hb hq at_0) k_) ?_
  show OFin _ _ _ _ _ _ T0 (mkF m 1 #[.val (.int p0), .val (.int p1), .val (.int p2), .unset, .unset, .unset, .unset, .unset, .unset, .unset, .unset, .unset, .unset, .unset] [(.int (2 : Int32))])
  refine X0.newP (hw _ (List.mem_of_getElem? (i := 0) rfl)) (g := (mkF m 1 #[.val (.int p0), .val (.int p1), .val (.int p2), .unset, .unset, .unset, .unset, .unset, .unset, .unset, .unset, .unset, .unset, .unset] [(.int (2 : Int32))])) rfl at_1 rfl (by decide) (cap := 2) (by decide) (by decide) (by decide) (by decide) (ad := "[C") (by first | rfl | decide) ?_
  intro T1 h1 k1 b1 gb1 X1 E1 A1 G1
  have B2 := B0.ext E1
  show OFin _ _ _ _ _ _ T1 (mkF m 3 #[.val (.int p0), .val (.int p1), .val (.int p2), .unset, .unset, .unset, .unset, .unset, .unset, .unset, .unset, .unset, .unset, .unset] [(.ref b1)])
  have V0 := OArr.new A1
  have hB : n0 ≤ b1 := by rw [gb1]; exact Z0
  refine X1.step (fun hA hx hq t_ k_ => XS.astoreN hA hx rfl (hb hq at_3) rfl rfl (l' := #[.val (.int p0), .val (.int p1), .val (.int p2), .val (.ref b1), .unset, .unset, .unset, .unset, .unset, .unset, .unset, .unset, .unset, .unset]) rfl k_) ?_
  show OFin _ _ _ _ _ _ T1 (mkF m 4 #[.val (.int p0), .val (.int p1), .val (.int p2), .val (.ref b1), .unset, .unset, .unset, .unset, .unset, .unset, .unset, .unset, .unset, .unset] [])
  refine X1.step (fun hA hx hq t_ k_ => XS.aloadN hA hx rfl (hb hq at_4) rfl rfl k_) ?_
  show OFin _ _ _ _ _ _ T1 (mkF m 5 #[.val (.int p0), .val (.int p1), .val (.int p2), .val (.ref b1), .unset, .unset, .unset, .unset, .unset, .unset, .unset, .unset, .unset, .unset] [(.ref b1)])
  refine X1.step (fun hA hx hq t_ k_ => XS.iconst hA hx rfl (hb hq at_5) k_) ?_
  show OFin _ _ _ _ _ _ T1 (mkF m 6 #[.val (.int p0), .val (.int p1), .val (.int p2), .val (.ref b1), .unset, .unset, .unset, .unset, .unset, .unset, .unset, .unset, .unset, .unset] [(.int (0 : Int32)), (.ref b1)])
  refine X1.step (fun hA hx hq t_ k_ => XS.iloadN hA hx rfl (hb hq at_6) rfl k_) ?_
  show OFin _ _ _ _ _ _ T1 (mkF m 7 #[.val (.int p0), .val (.int p1), .val (.int p2), .val (.ref b1), .unset, .unset, .unset, .unset, .unset, .unset, .unset, .unset, .unset, .unset] [(.int p0), (.int (0 : Int32)), (.ref b1)])
  refine X1.step (fun hA hx hq t_ k_ => XS.sipush hA hx rfl (hb hq at_7) k_) ?_
  show OFin _ _ _ _ _ _ T1 (mkF m 10 #[.val (.int p0), .val (.int p1), .val (.int p2), .val (.ref b1), .unset, .unset, .unset, .unset, .unset, .unset, .unset, .unset, .unset, .unset] [(.int (255 : Int32)), (.int p0), (.int (0 : Int32)), (.ref b1)])
  refine X1.step (fun hA hx hq t_ k_ => XS.iand hA hx rfl (hb hq at_10) rfl k_) ?_
  show OFin _ _ _ _ _ _ T1 (mkF m 11 #[.val (.int p0), .val (.int p1), .val (.int p2), .val (.ref b1), .unset, .unset, .unset, .unset, .unset, .unset, .unset, .unset, .unset, .unset] [(.int (p0 &&& (255 : Int32))), (.int (0 : Int32)), (.ref b1)])
  refine X1.step (fun hA hx hq t_ k_ => XS.i2c hA hx rfl (hb hq at_11) rfl k_) ?_
  show OFin _ _ _ _ _ _ T1 (mkF m 12 #[.val (.int p0), .val (.int p1), .val (.int p2), .val (.ref b1), .unset, .unset, .unset, .unset, .unset, .unset, .unset, .unset, .unset, .unset] [(.int ((p0 &&& (255 : Int32)).toUInt32.toUInt16.toUInt32.toInt32)), (.int (0 : Int32)), (.ref b1)])
  obtain ⟨c0, Ar0, Sr0, Hr0⟩ := id V0
  refine X1.stC Ar0 (by rw [Sr0]; decide) (hB) (g := (mkF m 12 #[.val (.int p0), .val (.int p1), .val (.int p2), .val (.ref b1), .unset, .unset, .unset, .unset, .unset, .unset, .unset, .unset, .unset, .unset] [(.int ((p0 &&& (255 : Int32)).toUInt32.toUInt16.toUInt32.toInt32)), (.int (0 : Int32)), (.ref b1)])) rfl rfl at_12 ?_
  intro T3 h3 X3 W3
  have B4 := B2.wr W3 safe_nil
  show OFin _ _ _ _ _ _ T3 (mkF m 13 #[.val (.int p0), .val (.int p1), .val (.int p2), .val (.ref b1), .unset, .unset, .unset, .unset, .unset, .unset, .unset, .unset, .unset, .unset] [])
  rw [own_narC _ (by have := ka.1; omega) (by have := ka.2; omega)] at W3
  have V1 := V0.set W3
  refine X3.step (fun hA hx hq t_ k_ => XS.aloadN hA hx rfl (hb hq at_13) rfl rfl k_) ?_
  show OFin _ _ _ _ _ _ T3 (mkF m 14 #[.val (.int p0), .val (.int p1), .val (.int p2), .val (.ref b1), .unset, .unset, .unset, .unset, .unset, .unset, .unset, .unset, .unset, .unset] [(.ref b1)])
  refine X3.step (fun hA hx hq t_ k_ => XS.iconst hA hx rfl (hb hq at_14) k_) ?_
  show OFin _ _ _ _ _ _ T3 (mkF m 15 #[.val (.int p0), .val (.int p1), .val (.int p2), .val (.ref b1), .unset, .unset, .unset, .unset, .unset, .unset, .unset, .unset, .unset, .unset] [(.int (1 : Int32)), (.ref b1)])
  refine X3.step (fun hA hx hq t_ k_ => XS.iloadN hA hx rfl (hb hq at_15) rfl k_) ?_
  show OFin _ _ _ _ _ _ T3 (mkF m 16 #[.val (.int p0), .val (.int p1), .val (.int p2), .val (.ref b1), .unset, .unset, .unset, .unset, .unset, .unset, .unset, .unset, .unset, .unset] [(.int p1), (.int (1 : Int32)), (.ref b1)])
  refine X3.step (fun hA hx hq t_ k_ => XS.sipush hA hx rfl (hb hq at_16) k_) ?_
  show OFin _ _ _ _ _ _ T3 (mkF m 19 #[.val (.int p0), .val (.int p1), .val (.int p2), .val (.ref b1), .unset, .unset, .unset, .unset, .unset, .unset, .unset, .unset, .unset, .unset] [(.int (255 : Int32)), (.int p1), (.int (1 : Int32)), (.ref b1)])
  refine X3.step (fun hA hx hq t_ k_ => XS.iand hA hx rfl (hb hq at_19) rfl k_) ?_
  show OFin _ _ _ _ _ _ T3 (mkF m 20 #[.val (.int p0), .val (.int p1), .val (.int p2), .val (.ref b1), .unset, .unset, .unset, .unset, .unset, .unset, .unset, .unset, .unset, .unset] [(.int (p1 &&& (255 : Int32))), (.int (1 : Int32)), (.ref b1)])
  refine X3.step (fun hA hx hq t_ k_ => XS.i2c hA hx rfl (hb hq at_20) rfl k_) ?_
  show OFin _ _ _ _ _ _ T3 (mkF m 21 #[.val (.int p0), .val (.int p1), .val (.int p2), .val (.ref b1), .unset, .unset, .unset, .unset, .unset, .unset, .unset, .unset, .unset, .unset] [(.int ((p1 &&& (255 : Int32)).toUInt32.toUInt16.toUInt32.toInt32)), (.int (1 : Int32)), (.ref b1)])
  obtain ⟨c1, Ar1, Sr1, Hr1⟩ := id V1
  refine X3.stC Ar1 (by rw [Sr1]; decide) (hB) (g := (mkF m 21 #[.val (.int p0), .val (.int p1), .val (.int p2), .val (.ref b1), .unset, .unset, .unset, .unset, .unset, .unset, .unset, .unset, .unset, .unset] [(.int ((p1 &&& (255 : Int32)).toUInt32.toUInt16.toUInt32.toInt32)), (.int (1 : Int32)), (.ref b1)])) rfl rfl at_21 ?_
  intro T5 h5 X5 W5
  have B6 := B4.wr W5 safe_nil
  show OFin _ _ _ _ _ _ T5 (mkF m 22 #[.val (.int p0), .val (.int p1), .val (.int p2), .val (.ref b1), .unset, .unset, .unset, .unset, .unset, .unset, .unset, .unset, .unset, .unset] [])
  rw [own_narC _ (by have := kb.1; omega) (by have := kb.2; omega)] at W5
  have V2 := V1.set W5
  have VC : OArr Z h5 b1 .char 2 (fun j => .int ((own_g ((p0 &&& (255 : Int32)).toUInt32.toUInt16.toUInt32.toInt32) ((p1 &&& (255 : Int32)).toUInt32.toUInt16.toUInt32.toInt32)) j)) := V2.congr fun j hj => by
    have hj' : j < 2 := hj
    match j, hj' with
    | 0, _ => rfl
    | 1, _ => rfl
  have Kc : Keep h0 h5 [] := ((((Keep.refl h0 []).ext E1).wr W3 (Or.inr (Nat.le_of_eq gb1.symm))).wr W5 (Or.inr (Nat.le_of_eq gb1.symm)))
  refine X5.newO (hw _ (List.mem_of_getElem? (i := 1) rfl)) (hw _ (List.mem_of_getElem? (i := 2) rfl)) (hw _ (List.mem_of_getElem? (i := 3) rfl)) (g := (mkF m 22 #[.val (.int p0), .val (.int p1), .val (.int p2), .val (.ref b1), .unset, .unset, .unset, .unset, .unset, .unset, .unset, .unset, .unset, .unset] [])) rfl at_22 (by decide) (by decide) ?_
  intro T7 h7 b7 gb7 X7 E7 A7 D7
  have B8 := B6.ext E7
  show OFin _ _ _ _ _ _ T7 (mkF m 25 #[.val (.int p0), .val (.int p1), .val (.int p2), .val (.ref b1), .unset, .unset, .unset, .unset, .unset, .unset, .unset, .unset, .unset, .unset] [(.ref b7)])
  have O1 := (O0.keep Kc all0).ext E7
  have Fv : Fld Z h7 b7 "java/lang/String" "value" "[B" .null := D7 (Or.inr (hw _ (List.mem_of_getElem? (i := 29) rfl))) (ty := (.array .byte)) (by decide)
  have Fc : Fld Z h7 b7 "java/lang/String" "coder" "B" (.int (0 : Int32)) := D7 (Or.inr (hw _ (List.mem_of_getElem? (i := 27) rfl))) (ty := .byte) (by decide)
  have hm : n0 ≤ b7 := by rw [gb7]; exact Nat.le_trans Z0 Kc.1
  refine X7.step (fun hA hx hq t_ k_ => XS.dup hA hx rfl (hb hq at_25) rfl rfl k_) ?_
  show OFin _ _ _ _ _ _ T7 (mkF m 26 #[.val (.int p0), .val (.int p1), .val (.int p2), .val (.ref b1), .unset, .unset, .unset, .unset, .unset, .unset, .unset, .unset, .unset, .unset] [(.ref b7), (.ref b7)])
  refine X7.step (fun hA hx hq t_ k_ => XS.aloadN hA hx rfl (hb hq at_26) rfl rfl k_) ?_
  show OFin _ _ _ _ _ _ T7 (mkF m 27 #[.val (.int p0), .val (.int p1), .val (.int p2), .val (.ref b1), .unset, .unset, .unset, .unset, .unset, .unset, .unset, .unset, .unset, .unset] [(.ref b1), (.ref b7), (.ref b7)])
  refine X7.callI (y' := (⟨"java/lang/String", "<init>", "([C)V"⟩ : MethodName)) rfl (hw _ (List.mem_of_getElem? (i := 4) rfl)) (hw _ (List.mem_of_getElem? (i := 5) rfl)) (hw _ (List.mem_of_getElem? (i := 3) rfl)) (hw _ (List.mem_of_getElem? (i := 6) rfl)) (by decide) (a := b7) (argsL := [(.ref b1)]) (rest := [(.ref b7)]) (sm5 l Z a0 hw b7 b1 2 (own_g ((p0 &&& (255 : Int32)).toUInt32.toUInt16.toUInt32.toInt32) ((p1 &&& (255 : Int32)).toUInt32.toUInt16.toUInt32.toInt32)) cs h7 n0 Fv Fc A7 hm (VC.ext E7) (by decide) (by decide) (fun j _ => own_gok ka kb j) (Nat.le_trans Z0 (Nat.le_trans Kc.1 E7.1)) (SS.ext O1.2) hcs) (g := (mkF m 27 #[.val (.int p0), .val (.int p1), .val (.int p2), .val (.ref b1), .unset, .unset, .unset, .unset, .unset, .unset, .unset, .unset, .unset, .unset] [(.ref b1), (.ref b7), (.ref b7)])) rfl rfl pd_pA_Cr_V rfl rfl (W := 1) (by show 2 * 0 + _ ≤ _; exact Nat.le_of_eq rfl) at_27 (by decide) (by decide) (by decide) (by decide) ?_
  intro v9 T9 h9 X9 q9
  obtain ⟨rfl, K9, t, S9, lt9⟩ := q9
  have B10 := B8.keep K9 (sfS safe_nil sf0)
  show OFin _ _ _ _ _ _ T9 (mkF m 30 #[.val (.int p0), .val (.int p1), .val (.int p2), .val (.ref b1), .unset, .unset, .unset, .unset, .unset, .unset, .unset, .unset, .unset, .unset] [(.ref b7)])
  have O2 := O1.keep K9 (allS hm all0)
  have T2 : ThS Z h9 := ThS.start.ext O2.2
  refine X9.step (fun hA hx hq t_ k_ => XS.astore hA hx rfl (hb hq at_30) rfl rfl (l' := #[.val (.int p0), .val (.int p1), .val (.int p2), .val (.ref b1), .val (.ref b7), .unset, .unset, .unset, .unset, .unset, .unset, .unset, .unset, .unset]) rfl k_) ?_
  show OFin _ _ _ _ _ _ T9 (mkF m 32 #[.val (.int p0), .val (.int p1), .val (.int p2), .val (.ref b1), .val (.ref b7), .unset, .unset, .unset, .unset, .unset, .unset, .unset, .unset, .unset] [])
  refine X9.step (fun hA hx hq t_ k_ => XS.iloadN hA hx rfl (hb hq at_32) rfl k_) ?_
  show OFin _ _ _ _ _ _ T9 (mkF m 33 #[.val (.int p0), .val (.int p1), .val (.int p2), .val (.ref b1), .val (.ref b7), .unset, .unset, .unset, .unset, .unset, .unset, .unset, .unset, .unset] [(.int p2)])
  refine X9.step (fun hA hx hq t_ k_ => XS.iconst hA hx rfl (hb hq at_33) k_) ?_
  show OFin _ _ _ _ _ _ T9 (mkF m 34 #[.val (.int p0), .val (.int p1), .val (.int p2), .val (.ref b1), .val (.ref b7), .unset, .unset, .unset, .unset, .unset, .unset, .unset, .unset, .unset] [(.int (1 : Int32)), (.int p2)])
  refine X9.step (fun hA hx hq t_ k_ => XS.iand hA hx rfl (hb hq at_34) rfl k_) ?_
  show OFin _ _ _ _ _ _ T9 (mkF m 35 #[.val (.int p0), .val (.int p1), .val (.int p2), .val (.ref b1), .val (.ref b7), .unset, .unset, .unset, .unset, .unset, .unset, .unset, .unset, .unset] [(.int (p2 &&& (1 : Int32)))])
  by_cases c : (p2 &&& (1 : Int32)) = (0 : Int32)
  · refine X9.step (fun hA hx hq t_ k_ => XS.ifYes hA hx rfl (pc0 := 35) (pc' := 52) rfl (hb hq at_35) rfl ((if0 _ _).trans (teq (c)).1) (by decide) (by decide) k_) ?_
    show OFin _ _ _ _ _ _ T9 (mkF m 52 #[.val (.int p0), .val (.int p1), .val (.int p2), .val (.ref b1), .val (.ref b7), .unset, .unset, .unset, .unset, .unset, .unset, .unset, .unset, .unset] [])
    refine X9.newOU (hw _ (List.mem_of_getElem? (i := 30) rfl)) (hw _ (List.mem_of_getElem? (i := 31) rfl)) (hw _ (List.mem_of_getElem? (i := 32) rfl)) (g := (mkF m 52 #[.val (.int p0), .val (.int p1), .val (.int p2), .val (.ref b1), .val (.ref b7), .unset, .unset, .unset, .unset, .unset, .unset, .unset, .unset, .unset] [])) rfl at_52 (by decide) (by decide) ?_
    intro T11 h11 b11 gb11 X11 E11 A11 D11 N11
    have B12 := B10.ext E11
    show OFin _ _ _ _ _ _ T11 (mkF m 55 #[.val (.int p0), .val (.int p1), .val (.int p2), .val (.ref b1), .val (.ref b7), .unset, .unset, .unset, .unset, .unset, .unset, .unset, .unset, .unset] [(.ref b11)])
    have O3 := O2.ext E11
    have T3 := T2.ext E11
    have hn : n0 ≤ b11 := by rw [gb11]; exact Nat.le_trans (Nat.le_of_eq O2.1.symm) O2.2.1
    have Gb : Fld Z h11 b11 tN "backtrace" Jvm.Free.Exc.obD .null := D11 (Or.inl (hw _ (List.mem_of_getElem? (i := 86) rfl))) (ty := (.object "java/lang/Object")) (by decide)
    have Gm : Fld Z h11 b11 tN "detailMessage" Jvm.Free.Exc.msgD .null := D11 (Or.inl (hw _ (List.mem_of_getElem? (i := 85) rfl))) (ty := (.object "java/lang/String")) (by decide)
    refine X11.step (fun hA hx hq t_ k_ => XS.dup hA hx rfl (hb hq at_55) rfl rfl k_) ?_
    show OFin _ _ _ _ _ _ T11 (mkF m 56 #[.val (.int p0), .val (.int p1), .val (.int p2), .val (.ref b1), .val (.ref b7), .unset, .unset, .unset, .unset, .unset, .unset, .unset, .unset, .unset] [(.ref b11), (.ref b11)])
    refine X11.step (fun hA hx hq t_ k_ => XS.aload hA hx rfl (hb hq at_56) rfl rfl k_) ?_
    show OFin _ _ _ _ _ _ T11 (mkF m 58 #[.val (.int p0), .val (.int p1), .val (.int p2), .val (.ref b1), .val (.ref b7), .unset, .unset, .unset, .unset, .unset, .unset, .unset, .unset, .unset] [(.ref b7), (.ref b11), (.ref b11)])
    refine X11.step (fun hA hx hq t_ k_ => XS.aconstNull hA hx rfl (hb hq at_58) k_) ?_
    show OFin _ _ _ _ _ _ T11 (mkF m 59 #[.val (.int p0), .val (.int p1), .val (.int p2), .val (.ref b1), .val (.ref b7), .unset, .unset, .unset, .unset, .unset, .unset, .unset, .unset, .unset] [.null, (.ref b7), (.ref b11), (.ref b11)])
    refine X11.callIK hTK hBl (y' := (⟨"com/example/lean_lock/leanlock/LockUnavailableException", "<init>", "(Ljava/lang/String;Ljava/lang/Throwable;)V"⟩ : MethodName)) rfl (hw _ (List.mem_of_getElem? (i := 33) rfl)) (hw _ (List.mem_of_getElem? (i := 34) rfl)) (hw _ (List.mem_of_getElem? (i := 32) rfl)) (hw _ (List.mem_of_getElem? (i := 35) rfl)) (by decide) (a := b11) (argsL := [(.ref b7), .null]) (rest := [(.ref b11)]) ((tu2 l Z a0 hw b11 b7 u sn h11 b11 A11 N11 Gb rfl (SU.ext O3.2) hu (SN.ext O3.2) hsn hl T3).le hn) (g := (mkF m 59 #[.val (.int p0), .val (.int p1), .val (.int p2), .val (.ref b1), .val (.ref b7), .unset, .unset, .unset, .unset, .unset, .unset, .unset, .unset, .unset] [.null, (.ref b7), (.ref b11), (.ref b11)])) rfl rfl pd_pLjava_lang_String_Ljava_lang_Throwable_r_V rfl rfl (W := 1) (by show 2 * 0 + _ ≤ _; exact Nat.le_of_eq rfl) at_59 (by decide) (by decide) (by decide) (by decide) ?_
    intro v13 T13 h13 X13 q13
    obtain ⟨rfl, K13, E13⟩ := q13
    have B14 := B12.keep K13 (fun _ _ => safe_nil)
    show OFin _ _ _ _ _ _ T13 (mkF m 62 #[.val (.int p0), .val (.int p1), .val (.int p2), .val (.ref b1), .val (.ref b7), .unset, .unset, .unset, .unset, .unset, .unset, .unset, .unset, .unset] [(.ref b11)])
    have O4 := O3.keep K13 (fun x hx => Nat.le_trans hn (own_ws.le hx))
    refine X13.step (fun hA hx hq t_ k_ => XS.astore hA hx rfl (hb hq at_62) rfl rfl (l' := #[.val (.int p0), .val (.int p1), .val (.int p2), .val (.ref b1), .val (.ref b7), .val (.ref b11), .unset, .unset, .unset, .unset, .unset, .unset, .unset, .unset]) rfl k_) ?_
    show OFin _ _ _ _ _ _ T13 (mkF m 64 #[.val (.int p0), .val (.int p1), .val (.int p2), .val (.ref b1), .val (.ref b7), .val (.ref b11), .unset, .unset, .unset, .unset, .unset, .unset, .unset, .unset] [])
    refine X13.step (fun hA hx hq t_ k_ => XS.aload hA hx rfl (hb hq at_64) rfl rfl k_) ?_
    show OFin _ _ _ _ _ _ T13 (mkF m 66 #[.val (.int p0), .val (.int p1), .val (.int p2), .val (.ref b1), .val (.ref b7), .val (.ref b11), .unset, .unset, .unset, .unset, .unset, .unset, .unset, .unset] [(.ref b11)])
    refine X13.callSW B14 (y' := (⟨"com/example/lean_lock/leanlock/Attempt", "unanswered", "(Lcom/example/lean_lock/leanlock/LockUnavailableException;)Lcom/example/lean_lock/leanlock/Attempt;"⟩ : MethodName)) (hw _ (List.mem_of_getElem? (i := 90) rfl)) (hw _ (List.mem_of_getElem? (i := 91) rfl)) (hw _ (List.mem_of_getElem? (i := 92) rfl)) (hw _ (List.mem_of_getElem? (i := 93) rfl)) (by decide) (argsL := [(.ref b11)]) (rest := []) (rm3 l Z a0 hw b11 h13 n0 E13 (Nat.le_trans (Nat.le_of_eq O4.1.symm) O4.2.1)) (g := (mkF m 66 #[.val (.int p0), .val (.int p1), .val (.int p2), .val (.ref b1), .val (.ref b7), .val (.ref b11), .unset, .unset, .unset, .unset, .unset, .unset, .unset, .unset] [(.ref b11)])) rfl rfl pd_pLcom_example_lean_lock_leanlock_LockUnavailableException_r_Lcom_example_lean_lock_leanlock_Attempt_ rfl rfl (W := 0) (by show 2 * 0 + _ ≤ _; exact Nat.le_of_eq rfl) at_66 (by decide) (by decide) (by decide) (by decide) ?_
    intro v15 T15 h15 vm15 X15 B15 G15 Sf15 q15
    obtain ⟨aa, rfl, K15, EA, F0, F1, F2, F3⟩ := q15
    show OFin _ _ _ _ _ _ T15 (mkF m 69 #[.val (.int p0), .val (.int p1), .val (.int p2), .val (.ref b1), .val (.ref b7), .val (.ref b11), .unset, .unset, .unset, .unset, .unset, .unset, .unset, .unset] [(.ref aa)])
    have O5 := O4.keep K15 all0
    refine X15.step (fun hA hx hq t_ k_ => XS.astore hA hx rfl (hb hq at_69) rfl rfl (l' := #[.val (.int p0), .val (.int p1), .val (.int p2), .val (.ref b1), .val (.ref b7), .val (.ref b11), .val (.ref aa), .unset, .unset, .unset, .unset, .unset, .unset, .unset]) rfl k_) ?_
    show OFin _ _ _ _ _ _ T15 (mkF m 71 #[.val (.int p0), .val (.int p1), .val (.int p2), .val (.ref b1), .val (.ref b7), .val (.ref b11), .val (.ref aa), .unset, .unset, .unset, .unset, .unset, .unset, .unset] [])
    refine X15.step (fun hA hx hq t_ k_ => XS.aload hA hx rfl (hb hq at_71) rfl rfl k_) ?_
    show OFin _ _ _ _ _ _ T15 (mkF m 73 #[.val (.int p0), .val (.int p1), .val (.int p2), .val (.ref b1), .val (.ref b7), .val (.ref b11), .val (.ref aa), .unset, .unset, .unset, .unset, .unset, .unset, .unset] [(.ref aa)])
    refine X15.callV (y' := (⟨"com/example/lean_lock/leanlock/Attempt", "unanswered", "()Ljava/util/Optional;"⟩ : MethodName)) (z' := (⟨"com/example/lean_lock/leanlock/Attempt", "unanswered", "()Ljava/util/Optional;"⟩ : MethodName)) (hw _ (List.mem_of_getElem? (i := 116) rfl)) (hw _ (List.mem_of_getElem? (i := 117) rfl)) (X15.notFace (hw _ (List.mem_of_getElem? (i := 119) rfl)) rfl) (hw _ (List.mem_of_getElem? (i := 119) rfl)) (hw _ (List.mem_of_getElem? (i := 118) rfl)) (hw _ (List.mem_of_getElem? (i := 92) rfl)) (hw _ (List.mem_of_getElem? (i := 120) rfl)) (by decide) EA (argsL := []) (rest := []) (rm7 l Z a0 hw aa b11 h15 n0 F3 (Nat.le_trans (Nat.le_of_eq O5.1.symm) O5.2.1)) (g := (mkF m 73 #[.val (.int p0), .val (.int p1), .val (.int p2), .val (.ref b1), .val (.ref b7), .val (.ref b11), .val (.ref aa), .unset, .unset, .unset, .unset, .unset, .unset, .unset] [(.ref aa)])) rfl rfl pd_pr_Ljava_util_Optional_ rfl rfl (W := 0) (by show 2 * 0 + _ ≤ _; exact Nat.le_of_eq rfl) at_73 (by decide) (by decide) (by decide) (by decide) ?_
    intro v16 T16 h16 X16 q16
    obtain ⟨oo, rfl, K16, EO, FO⟩ := q16
    have B17 := B15.keep K16 sf0
    show OFin _ _ _ _ _ _ T16 (mkF m 76 #[.val (.int p0), .val (.int p1), .val (.int p2), .val (.ref b1), .val (.ref b7), .val (.ref b11), .val (.ref aa), .unset, .unset, .unset, .unset, .unset, .unset, .unset] [(.ref oo)])
    have O6 := O5.keep K16 all0
    have EA := EA.keep K16
    have F0 := F0.keep K16 nin0
    have F1 := F1.keep K16 nin0
    have F2 := F2.keep K16 nin0
    have SE6 := SE.ext O6.2
    have EE6 := EE.ext O6.2
    have FE6 := FE_.ext O6.2
    refine X16.step (fun hA hx hq t_ k_ => XS.astore hA hx rfl (hb hq at_76) rfl rfl (l' := #[.val (.int p0), .val (.int p1), .val (.int p2), .val (.ref b1), .val (.ref b7), .val (.ref b11), .val (.ref aa), .val (.ref oo), .unset, .unset, .unset, .unset, .unset, .unset]) rfl k_) ?_
    show OFin _ _ _ _ _ _ T16 (mkF m 78 #[.val (.int p0), .val (.int p1), .val (.int p2), .val (.ref b1), .val (.ref b7), .val (.ref b11), .val (.ref aa), .val (.ref oo), .unset, .unset, .unset, .unset, .unset, .unset] [])
    refine X16.step (fun hA hx hq t_ k_ => XS.aload hA hx rfl (hb hq at_78) rfl rfl k_) ?_
    show OFin _ _ _ _ _ _ T16 (mkF m 80 #[.val (.int p0), .val (.int p1), .val (.int p2), .val (.ref b1), .val (.ref b7), .val (.ref b11), .val (.ref aa), .val (.ref oo), .unset, .unset, .unset, .unset, .unset, .unset] [(.ref aa)])
    refine X16.callV (y' := (⟨"com/example/lean_lock/leanlock/Attempt", "handle", "()Ljava/util/Optional;"⟩ : MethodName)) (z' := (⟨"com/example/lean_lock/leanlock/Attempt", "handle", "()Ljava/util/Optional;"⟩ : MethodName)) (hw _ (List.mem_of_getElem? (i := 134) rfl)) (hw _ (List.mem_of_getElem? (i := 135) rfl)) (X16.notFace (hw _ (List.mem_of_getElem? (i := 137) rfl)) rfl) (hw _ (List.mem_of_getElem? (i := 137) rfl)) (hw _ (List.mem_of_getElem? (i := 136) rfl)) (hw _ (List.mem_of_getElem? (i := 92) rfl)) (hw _ (List.mem_of_getElem? (i := 138) rfl)) (by decide) EA (argsL := []) (rest := []) (rm8 l Z a0 hw aa oE h16 n0 F0 SE6) (g := (mkF m 80 #[.val (.int p0), .val (.int p1), .val (.int p2), .val (.ref b1), .val (.ref b7), .val (.ref b11), .val (.ref aa), .val (.ref oo), .unset, .unset, .unset, .unset, .unset, .unset] [(.ref aa)])) rfl rfl pd_pr_Ljava_util_Optional_ rfl rfl (W := 0) (by show 2 * 0 + _ ≤ _; exact Nat.le_of_eq rfl) at_80 (by decide) (by decide) (by decide) (by decide) ?_
    intro v18 T18 h18 X18 q18
    obtain ⟨rfl, rfl⟩ := q18
    show OFin _ _ _ _ _ _ T18 (mkF m 83 #[.val (.int p0), .val (.int p1), .val (.int p2), .val (.ref b1), .val (.ref b7), .val (.ref b11), .val (.ref aa), .val (.ref oo), .unset, .unset, .unset, .unset, .unset, .unset] [(.ref oE)])
    refine X18.step (fun hA hx hq t_ k_ => XS.astore hA hx rfl (hb hq at_83) rfl rfl (l' := #[.val (.int p0), .val (.int p1), .val (.int p2), .val (.ref b1), .val (.ref b7), .val (.ref b11), .val (.ref aa), .val (.ref oo), .val (.ref oE), .unset, .unset, .unset, .unset, .unset]) rfl k_) ?_
    show OFin _ _ _ _ _ _ T18 (mkF m 85 #[.val (.int p0), .val (.int p1), .val (.int p2), .val (.ref b1), .val (.ref b7), .val (.ref b11), .val (.ref aa), .val (.ref oo), .val (.ref oE), .unset, .unset, .unset, .unset, .unset] [])
    refine X18.step (fun hA hx hq t_ k_ => XS.aload hA hx rfl (hb hq at_85) rfl rfl k_) ?_
    show OFin _ _ _ _ _ _ T18 (mkF m 87 #[.val (.int p0), .val (.int p1), .val (.int p2), .val (.ref b1), .val (.ref b7), .val (.ref b11), .val (.ref aa), .val (.ref oo), .val (.ref oE), .unset, .unset, .unset, .unset, .unset] [(.ref aa)])
    refine X18.callV (y' := (⟨"com/example/lean_lock/leanlock/Attempt", "expiresIn", "()Ljava/util/Optional;"⟩ : MethodName)) (z' := (⟨"com/example/lean_lock/leanlock/Attempt", "expiresIn", "()Ljava/util/Optional;"⟩ : MethodName)) (hw _ (List.mem_of_getElem? (i := 140) rfl)) (hw _ (List.mem_of_getElem? (i := 141) rfl)) (X18.notFace (hw _ (List.mem_of_getElem? (i := 143) rfl)) rfl) (hw _ (List.mem_of_getElem? (i := 143) rfl)) (hw _ (List.mem_of_getElem? (i := 142) rfl)) (hw _ (List.mem_of_getElem? (i := 92) rfl)) (hw _ (List.mem_of_getElem? (i := 144) rfl)) (by decide) EA (argsL := []) (rest := []) (rm9 l Z a0 hw aa oE h16 n0 F1 SE6) (g := (mkF m 87 #[.val (.int p0), .val (.int p1), .val (.int p2), .val (.ref b1), .val (.ref b7), .val (.ref b11), .val (.ref aa), .val (.ref oo), .val (.ref oE), .unset, .unset, .unset, .unset, .unset] [(.ref aa)])) rfl rfl pd_pr_Ljava_util_Optional_ rfl rfl (W := 0) (by show 2 * 0 + _ ≤ _; exact Nat.le_of_eq rfl) at_87 (by decide) (by decide) (by decide) (by decide) ?_
    intro v19 T19 h19 X19 q19
    obtain ⟨rfl, rfl⟩ := q19
    show OFin _ _ _ _ _ _ T19 (mkF m 90 #[.val (.int p0), .val (.int p1), .val (.int p2), .val (.ref b1), .val (.ref b7), .val (.ref b11), .val (.ref aa), .val (.ref oo), .val (.ref oE), .unset, .unset, .unset, .unset, .unset] [(.ref oE)])
    refine X19.step (fun hA hx hq t_ k_ => XS.astore hA hx rfl (hb hq at_90) rfl rfl (l' := #[.val (.int p0), .val (.int p1), .val (.int p2), .val (.ref b1), .val (.ref b7), .val (.ref b11), .val (.ref aa), .val (.ref oo), .val (.ref oE), .val (.ref oE), .unset, .unset, .unset, .unset]) rfl k_) ?_
    show OFin _ _ _ _ _ _ T19 (mkF m 92 #[.val (.int p0), .val (.int p1), .val (.int p2), .val (.ref b1), .val (.ref b7), .val (.ref b11), .val (.ref aa), .val (.ref oo), .val (.ref oE), .val (.ref oE), .unset, .unset, .unset, .unset] [])
    refine X19.step (fun hA hx hq t_ k_ => XS.aload hA hx rfl (hb hq at_92) rfl rfl k_) ?_
    show OFin _ _ _ _ _ _ T19 (mkF m 94 #[.val (.int p0), .val (.int p1), .val (.int p2), .val (.ref b1), .val (.ref b7), .val (.ref b11), .val (.ref aa), .val (.ref oo), .val (.ref oE), .val (.ref oE), .unset, .unset, .unset, .unset] [(.ref oo)])
    refine X19.callV (y' := (⟨"java/util/Optional", "isPresent", "()Z"⟩ : MethodName)) (z' := (⟨"java/util/Optional", "isPresent", "()Z"⟩ : MethodName)) (hw _ (List.mem_of_getElem? (i := 145) rfl)) (hw _ (List.mem_of_getElem? (i := 146) rfl)) (X19.notFace (hw _ (List.mem_of_getElem? (i := 148) rfl)) rfl) (hw _ (List.mem_of_getElem? (i := 148) rfl)) (hw _ (List.mem_of_getElem? (i := 147) rfl)) (hw _ (List.mem_of_getElem? (i := 123) rfl)) (hw _ (List.mem_of_getElem? (i := 149) rfl)) (by decide) EO (argsL := []) (rest := []) (rm10 l Z a0 hw oo b11 h16 n0 FO) (g := (mkF m 94 #[.val (.int p0), .val (.int p1), .val (.int p2), .val (.ref b1), .val (.ref b7), .val (.ref b11), .val (.ref aa), .val (.ref oo), .val (.ref oE), .val (.ref oE), .unset, .unset, .unset, .unset] [(.ref oo)])) rfl rfl pd_pr_Z rfl rfl (W := 0) (by show 2 * 0 + _ ≤ _; exact Nat.le_of_eq rfl) at_94 (by decide) (by decide) (by decide) (by decide) ?_
    intro v20 T20 h20 X20 q20
    obtain ⟨rfl, rfl⟩ := q20
    show OFin _ _ _ _ _ _ T20 (mkF m 97 #[.val (.int p0), .val (.int p1), .val (.int p2), .val (.ref b1), .val (.ref b7), .val (.ref b11), .val (.ref aa), .val (.ref oo), .val (.ref oE), .val (.ref oE), .unset, .unset, .unset, .unset] [(.int (1 : Int32))])
    refine X20.step (fun hA hx hq t_ k_ => XS.ifNo hA hx rfl (hb hq at_97) rfl ((if0 _ _).trans (feq ((by decide))).1) k_) ?_
    show OFin _ _ _ _ _ _ T20 (mkF m 100 #[.val (.int p0), .val (.int p1), .val (.int p2), .val (.ref b1), .val (.ref b7), .val (.ref b11), .val (.ref aa), .val (.ref oo), .val (.ref oE), .val (.ref oE), .unset, .unset, .unset, .unset] [])
    refine X20.step (fun hA hx hq t_ k_ => XS.aload hA hx rfl (hb hq at_100) rfl rfl k_) ?_
    show OFin _ _ _ _ _ _ T20 (mkF m 102 #[.val (.int p0), .val (.int p1), .val (.int p2), .val (.ref b1), .val (.ref b7), .val (.ref b11), .val (.ref aa), .val (.ref oo), .val (.ref oE), .val (.ref oE), .unset, .unset, .unset, .unset] [(.ref oo)])
    refine X20.callV (y' := (⟨"java/util/Optional", "get", "()Ljava/lang/Object;"⟩ : MethodName)) (z' := (⟨"java/util/Optional", "get", "()Ljava/lang/Object;"⟩ : MethodName)) (hw _ (List.mem_of_getElem? (i := 150) rfl)) (hw _ (List.mem_of_getElem? (i := 151) rfl)) (X20.notFace (hw _ (List.mem_of_getElem? (i := 153) rfl)) rfl) (hw _ (List.mem_of_getElem? (i := 153) rfl)) (hw _ (List.mem_of_getElem? (i := 152) rfl)) (hw _ (List.mem_of_getElem? (i := 123) rfl)) (hw _ (List.mem_of_getElem? (i := 154) rfl)) (by decide) EO (argsL := []) (rest := []) (rm12 l Z a0 hw oo b11 h16 n0 FO) (g := (mkF m 102 #[.val (.int p0), .val (.int p1), .val (.int p2), .val (.ref b1), .val (.ref b7), .val (.ref b11), .val (.ref aa), .val (.ref oo), .val (.ref oE), .val (.ref oE), .unset, .unset, .unset, .unset] [(.ref oo)])) rfl rfl pd_pr_Ljava_lang_Object_ rfl rfl (W := 0) (by show 2 * 0 + _ ≤ _; exact Nat.le_of_eq rfl) at_102 (by decide) (by decide) (by decide) (by decide) ?_
    intro v21 T21 h21 X21 q21
    obtain ⟨rfl, rfl⟩ := q21
    show OFin _ _ _ _ _ _ T21 (mkF m 105 #[.val (.int p0), .val (.int p1), .val (.int p2), .val (.ref b1), .val (.ref b7), .val (.ref b11), .val (.ref aa), .val (.ref oo), .val (.ref oE), .val (.ref oE), .unset, .unset, .unset, .unset] [(.ref b11)])
    refine X21.step (fun hA hx hq t_ k_ => XS.aload hA hx rfl (hb hq at_105) rfl rfl k_) ?_
    show OFin _ _ _ _ _ _ T21 (mkF m 107 #[.val (.int p0), .val (.int p1), .val (.int p2), .val (.ref b1), .val (.ref b7), .val (.ref b11), .val (.ref aa), .val (.ref oo), .val (.ref oE), .val (.ref oE), .unset, .unset, .unset, .unset] [(.ref b11), (.ref b11)])
    refine X21.acmp (g := (mkF m 107 #[.val (.int p0), .val (.int p1), .val (.int p2), .val (.ref b1), .val (.ref b7), .val (.ref b11), .val (.ref aa), .val (.ref oo), .val (.ref oE), .val (.ref oE), .unset, .unset, .unset, .unset] [(.ref b11), (.ref b11)])) rfl rfl rfl (pc0 := 107) (pc' := 110) (same := true) rfl at_107 rfl (decide_eq_true rfl) (by decide) (by decide) ?_
    show OFin _ _ _ _ _ _ T21 (mkF m 110 #[.val (.int p0), .val (.int p1), .val (.int p2), .val (.ref b1), .val (.ref b7), .val (.ref b11), .val (.ref aa), .val (.ref oo), .val (.ref oE), .val (.ref oE), .unset, .unset, .unset, .unset] [])
    refine X21.step (fun hA hx hq t_ k_ => XS.iconst hA hx rfl (hb hq at_110) k_) ?_
    show OFin _ _ _ _ _ _ T21 (mkF m 111 #[.val (.int p0), .val (.int p1), .val (.int p2), .val (.ref b1), .val (.ref b7), .val (.ref b11), .val (.ref aa), .val (.ref oo), .val (.ref oE), .val (.ref oE), .unset, .unset, .unset, .unset] [(.int (1 : Int32))])
    refine X21.step (fun hA hx hq t_ k_ => XS.goto hA hx rfl (pc0 := 111) (pc' := 115) rfl (hb hq at_111) (by decide) (by decide) k_) ?_
    show OFin _ _ _ _ _ _ T21 (mkF m 115 #[.val (.int p0), .val (.int p1), .val (.int p2), .val (.ref b1), .val (.ref b7), .val (.ref b11), .val (.ref aa), .val (.ref oo), .val (.ref oE), .val (.ref oE), .unset, .unset, .unset, .unset] [(.int (1 : Int32))])
    refine X21.step (fun hA hx hq t_ k_ => XS.istore hA hx rfl (hb hq at_115) rfl (l' := #[.val (.int p0), .val (.int p1), .val (.int p2), .val (.ref b1), .val (.ref b7), .val (.ref b11), .val (.ref aa), .val (.ref oo), .val (.ref oE), .val (.ref oE), .val (.int (1 : Int32)), .unset, .unset, .unset]) rfl k_) ?_
    show OFin _ _ _ _ _ _ T21 (mkF m 117 #[.val (.int p0), .val (.int p1), .val (.int p2), .val (.ref b1), .val (.ref b7), .val (.ref b11), .val (.ref aa), .val (.ref oo), .val (.ref oE), .val (.ref oE), .val (.int (1 : Int32)), .unset, .unset, .unset] [])
    refine X21.step (fun hA hx hq t_ k_ => XS.aload hA hx rfl (hb hq at_117) rfl rfl k_) ?_
    show OFin _ _ _ _ _ _ T21 (mkF m 119 #[.val (.int p0), .val (.int p1), .val (.int p2), .val (.ref b1), .val (.ref b7), .val (.ref b11), .val (.ref aa), .val (.ref oo), .val (.ref oE), .val (.ref oE), .val (.int (1 : Int32)), .unset, .unset, .unset] [(.ref oE)])
    refine X21.callV (y' := (⟨"java/util/Optional", "isPresent", "()Z"⟩ : MethodName)) (z' := (⟨"java/util/Optional", "isPresent", "()Z"⟩ : MethodName)) (hw _ (List.mem_of_getElem? (i := 145) rfl)) (hw _ (List.mem_of_getElem? (i := 146) rfl)) (X21.notFace (hw _ (List.mem_of_getElem? (i := 148) rfl)) rfl) (hw _ (List.mem_of_getElem? (i := 148) rfl)) (hw _ (List.mem_of_getElem? (i := 147) rfl)) (hw _ (List.mem_of_getElem? (i := 123) rfl)) (hw _ (List.mem_of_getElem? (i := 149) rfl)) (by decide) EE6 (argsL := []) (rest := []) (rm11 l Z a0 hw oE h16 n0 FE6) (g := (mkF m 119 #[.val (.int p0), .val (.int p1), .val (.int p2), .val (.ref b1), .val (.ref b7), .val (.ref b11), .val (.ref aa), .val (.ref oo), .val (.ref oE), .val (.ref oE), .val (.int (1 : Int32)), .unset, .unset, .unset] [(.ref oE)])) rfl rfl pd_pr_Z rfl rfl (W := 0) (by show 2 * 0 + _ ≤ _; exact Nat.le_of_eq rfl) at_119 (by decide) (by decide) (by decide) (by decide) ?_
    intro v22 T22 h22 X22 q22
    obtain ⟨rfl, rfl⟩ := q22
    show OFin _ _ _ _ _ _ T22 (mkF m 122 #[.val (.int p0), .val (.int p1), .val (.int p2), .val (.ref b1), .val (.ref b7), .val (.ref b11), .val (.ref aa), .val (.ref oo), .val (.ref oE), .val (.ref oE), .val (.int (1 : Int32)), .unset, .unset, .unset] [(.int (0 : Int32))])
    refine X22.step (fun hA hx hq t_ k_ => XS.ifNo hA hx rfl (hb hq at_122) rfl ((if0 _ _).trans (teq ((rfl : (0 : Int32) = (0 : Int32)))).2) k_) ?_
    show OFin _ _ _ _ _ _ T22 (mkF m 125 #[.val (.int p0), .val (.int p1), .val (.int p2), .val (.ref b1), .val (.ref b7), .val (.ref b11), .val (.ref aa), .val (.ref oo), .val (.ref oE), .val (.ref oE), .val (.int (1 : Int32)), .unset, .unset, .unset] [])
    refine X22.step (fun hA hx hq t_ k_ => XS.iconst hA hx rfl (hb hq at_125) k_) ?_
    show OFin _ _ _ _ _ _ T22 (mkF m 126 #[.val (.int p0), .val (.int p1), .val (.int p2), .val (.ref b1), .val (.ref b7), .val (.ref b11), .val (.ref aa), .val (.ref oo), .val (.ref oE), .val (.ref oE), .val (.int (1 : Int32)), .unset, .unset, .unset] [(.int (1 : Int32))])
    refine X22.step (fun hA hx hq t_ k_ => XS.goto hA hx rfl (pc0 := 126) (pc' := 130) rfl (hb hq at_126) (by decide) (by decide) k_) ?_
    show OFin _ _ _ _ _ _ T22 (mkF m 130 #[.val (.int p0), .val (.int p1), .val (.int p2), .val (.ref b1), .val (.ref b7), .val (.ref b11), .val (.ref aa), .val (.ref oo), .val (.ref oE), .val (.ref oE), .val (.int (1 : Int32)), .unset, .unset, .unset] [(.int (1 : Int32))])
    refine X22.step (fun hA hx hq t_ k_ => XS.istore hA hx rfl (hb hq at_130) rfl (l' := #[.val (.int p0), .val (.int p1), .val (.int p2), .val (.ref b1), .val (.ref b7), .val (.ref b11), .val (.ref aa), .val (.ref oo), .val (.ref oE), .val (.ref oE), .val (.int (1 : Int32)), .val (.int (1 : Int32)), .unset, .unset]) rfl k_) ?_
    show OFin _ _ _ _ _ _ T22 (mkF m 132 #[.val (.int p0), .val (.int p1), .val (.int p2), .val (.ref b1), .val (.ref b7), .val (.ref b11), .val (.ref aa), .val (.ref oo), .val (.ref oE), .val (.ref oE), .val (.int (1 : Int32)), .val (.int (1 : Int32)), .unset, .unset] [])
    refine X22.step (fun hA hx hq t_ k_ => XS.aload hA hx rfl (hb hq at_132) rfl rfl k_) ?_
    show OFin _ _ _ _ _ _ T22 (mkF m 134 #[.val (.int p0), .val (.int p1), .val (.int p2), .val (.ref b1), .val (.ref b7), .val (.ref b11), .val (.ref aa), .val (.ref oo), .val (.ref oE), .val (.ref oE), .val (.int (1 : Int32)), .val (.int (1 : Int32)), .unset, .unset] [(.ref oE)])
    refine X22.callV (y' := (⟨"java/util/Optional", "isPresent", "()Z"⟩ : MethodName)) (z' := (⟨"java/util/Optional", "isPresent", "()Z"⟩ : MethodName)) (hw _ (List.mem_of_getElem? (i := 145) rfl)) (hw _ (List.mem_of_getElem? (i := 146) rfl)) (X22.notFace (hw _ (List.mem_of_getElem? (i := 148) rfl)) rfl) (hw _ (List.mem_of_getElem? (i := 148) rfl)) (hw _ (List.mem_of_getElem? (i := 147) rfl)) (hw _ (List.mem_of_getElem? (i := 123) rfl)) (hw _ (List.mem_of_getElem? (i := 149) rfl)) (by decide) EE6 (argsL := []) (rest := []) (rm11 l Z a0 hw oE h16 n0 FE6) (g := (mkF m 134 #[.val (.int p0), .val (.int p1), .val (.int p2), .val (.ref b1), .val (.ref b7), .val (.ref b11), .val (.ref aa), .val (.ref oo), .val (.ref oE), .val (.ref oE), .val (.int (1 : Int32)), .val (.int (1 : Int32)), .unset, .unset] [(.ref oE)])) rfl rfl pd_pr_Z rfl rfl (W := 0) (by show 2 * 0 + _ ≤ _; exact Nat.le_of_eq rfl) at_134 (by decide) (by decide) (by decide) (by decide) ?_
    intro v23 T23 h23 X23 q23
    obtain ⟨rfl, rfl⟩ := q23
    show OFin _ _ _ _ _ _ T23 (mkF m 137 #[.val (.int p0), .val (.int p1), .val (.int p2), .val (.ref b1), .val (.ref b7), .val (.ref b11), .val (.ref aa), .val (.ref oo), .val (.ref oE), .val (.ref oE), .val (.int (1 : Int32)), .val (.int (1 : Int32)), .unset, .unset] [(.int (0 : Int32))])
    refine X23.step (fun hA hx hq t_ k_ => XS.ifNo hA hx rfl (hb hq at_137) rfl ((if0 _ _).trans (teq ((rfl : (0 : Int32) = (0 : Int32)))).2) k_) ?_
    show OFin _ _ _ _ _ _ T23 (mkF m 140 #[.val (.int p0), .val (.int p1), .val (.int p2), .val (.ref b1), .val (.ref b7), .val (.ref b11), .val (.ref aa), .val (.ref oo), .val (.ref oE), .val (.ref oE), .val (.int (1 : Int32)), .val (.int (1 : Int32)), .unset, .unset] [])
    refine X23.step (fun hA hx hq t_ k_ => XS.iconst hA hx rfl (hb hq at_140) k_) ?_
    show OFin _ _ _ _ _ _ T23 (mkF m 141 #[.val (.int p0), .val (.int p1), .val (.int p2), .val (.ref b1), .val (.ref b7), .val (.ref b11), .val (.ref aa), .val (.ref oo), .val (.ref oE), .val (.ref oE), .val (.int (1 : Int32)), .val (.int (1 : Int32)), .unset, .unset] [(.int (1 : Int32))])
    refine X23.step (fun hA hx hq t_ k_ => XS.goto hA hx rfl (pc0 := 141) (pc' := 145) rfl (hb hq at_141) (by decide) (by decide) k_) ?_
    show OFin _ _ _ _ _ _ T23 (mkF m 145 #[.val (.int p0), .val (.int p1), .val (.int p2), .val (.ref b1), .val (.ref b7), .val (.ref b11), .val (.ref aa), .val (.ref oo), .val (.ref oE), .val (.ref oE), .val (.int (1 : Int32)), .val (.int (1 : Int32)), .unset, .unset] [(.int (1 : Int32))])
    refine X23.step (fun hA hx hq t_ k_ => XS.istore hA hx rfl (hb hq at_145) rfl (l' := #[.val (.int p0), .val (.int p1), .val (.int p2), .val (.ref b1), .val (.ref b7), .val (.ref b11), .val (.ref aa), .val (.ref oo), .val (.ref oE), .val (.ref oE), .val (.int (1 : Int32)), .val (.int (1 : Int32)), .val (.int (1 : Int32)), .unset]) rfl k_) ?_
    show OFin _ _ _ _ _ _ T23 (mkF m 147 #[.val (.int p0), .val (.int p1), .val (.int p2), .val (.ref b1), .val (.ref b7), .val (.ref b11), .val (.ref aa), .val (.ref oo), .val (.ref oE), .val (.ref oE), .val (.int (1 : Int32)), .val (.int (1 : Int32)), .val (.int (1 : Int32)), .unset] [])
    refine X23.step (fun hA hx hq t_ k_ => XS.aload hA hx rfl (hb hq at_147) rfl rfl k_) ?_
    show OFin _ _ _ _ _ _ T23 (mkF m 149 #[.val (.int p0), .val (.int p1), .val (.int p2), .val (.ref b1), .val (.ref b7), .val (.ref b11), .val (.ref aa), .val (.ref oo), .val (.ref oE), .val (.ref oE), .val (.int (1 : Int32)), .val (.int (1 : Int32)), .val (.int (1 : Int32)), .unset] [(.ref aa)])
    refine X23.callV (y' := (⟨"com/example/lean_lock/leanlock/Attempt", "isSplit", "()Z"⟩ : MethodName)) (z' := (⟨"com/example/lean_lock/leanlock/Attempt", "isSplit", "()Z"⟩ : MethodName)) (hw _ (List.mem_of_getElem? (i := 155) rfl)) (hw _ (List.mem_of_getElem? (i := 156) rfl)) (X23.notFace (hw _ (List.mem_of_getElem? (i := 158) rfl)) rfl) (hw _ (List.mem_of_getElem? (i := 158) rfl)) (hw _ (List.mem_of_getElem? (i := 157) rfl)) (hw _ (List.mem_of_getElem? (i := 92) rfl)) (hw _ (List.mem_of_getElem? (i := 159) rfl)) (by decide) EA (argsL := []) (rest := []) (rm13 l Z a0 hw aa h16 n0 F2) (g := (mkF m 149 #[.val (.int p0), .val (.int p1), .val (.int p2), .val (.ref b1), .val (.ref b7), .val (.ref b11), .val (.ref aa), .val (.ref oo), .val (.ref oE), .val (.ref oE), .val (.int (1 : Int32)), .val (.int (1 : Int32)), .val (.int (1 : Int32)), .unset] [(.ref aa)])) rfl rfl pd_pr_Z rfl rfl (W := 0) (by show 2 * 0 + _ ≤ _; exact Nat.le_of_eq rfl) at_149 (by decide) (by decide) (by decide) (by decide) ?_
    intro v24 T24 h24 X24 q24
    obtain ⟨rfl, rfl⟩ := q24
    show OFin _ _ _ _ _ _ T24 (mkF m 152 #[.val (.int p0), .val (.int p1), .val (.int p2), .val (.ref b1), .val (.ref b7), .val (.ref b11), .val (.ref aa), .val (.ref oo), .val (.ref oE), .val (.ref oE), .val (.int (1 : Int32)), .val (.int (1 : Int32)), .val (.int (1 : Int32)), .unset] [(.int (0 : Int32))])
    refine X24.step (fun hA hx hq t_ k_ => XS.ifNo hA hx rfl (hb hq at_152) rfl ((if0 _ _).trans (teq ((rfl : (0 : Int32) = (0 : Int32)))).2) k_) ?_
    show OFin _ _ _ _ _ _ T24 (mkF m 155 #[.val (.int p0), .val (.int p1), .val (.int p2), .val (.ref b1), .val (.ref b7), .val (.ref b11), .val (.ref aa), .val (.ref oo), .val (.ref oE), .val (.ref oE), .val (.int (1 : Int32)), .val (.int (1 : Int32)), .val (.int (1 : Int32)), .unset] [])
    refine X24.step (fun hA hx hq t_ k_ => XS.iconst hA hx rfl (hb hq at_155) k_) ?_
    show OFin _ _ _ _ _ _ T24 (mkF m 156 #[.val (.int p0), .val (.int p1), .val (.int p2), .val (.ref b1), .val (.ref b7), .val (.ref b11), .val (.ref aa), .val (.ref oo), .val (.ref oE), .val (.ref oE), .val (.int (1 : Int32)), .val (.int (1 : Int32)), .val (.int (1 : Int32)), .unset] [(.int (1 : Int32))])
    refine X24.step (fun hA hx hq t_ k_ => XS.goto hA hx rfl (pc0 := 156) (pc' := 160) rfl (hb hq at_156) (by decide) (by decide) k_) ?_
    show OFin _ _ _ _ _ _ T24 (mkF m 160 #[.val (.int p0), .val (.int p1), .val (.int p2), .val (.ref b1), .val (.ref b7), .val (.ref b11), .val (.ref aa), .val (.ref oo), .val (.ref oE), .val (.ref oE), .val (.int (1 : Int32)), .val (.int (1 : Int32)), .val (.int (1 : Int32)), .unset] [(.int (1 : Int32))])
    refine X24.step (fun hA hx hq t_ k_ => XS.istore hA hx rfl (hb hq at_160) rfl (l' := #[.val (.int p0), .val (.int p1), .val (.int p2), .val (.ref b1), .val (.ref b7), .val (.ref b11), .val (.ref aa), .val (.ref oo), .val (.ref oE), .val (.ref oE), .val (.int (1 : Int32)), .val (.int (1 : Int32)), .val (.int (1 : Int32)), .val (.int (1 : Int32))]) rfl k_) ?_
    show OFin _ _ _ _ _ _ T24 (mkF m 162 #[.val (.int p0), .val (.int p1), .val (.int p2), .val (.ref b1), .val (.ref b7), .val (.ref b11), .val (.ref aa), .val (.ref oo), .val (.ref oE), .val (.ref oE), .val (.int (1 : Int32)), .val (.int (1 : Int32)), .val (.int (1 : Int32)), .val (.int (1 : Int32))] [])
    refine X24.step (fun hA hx hq t_ k_ => XS.iload hA hx rfl (hb hq at_162) rfl k_) ?_
    show OFin _ _ _ _ _ _ T24 (mkF m 164 #[.val (.int p0), .val (.int p1), .val (.int p2), .val (.ref b1), .val (.ref b7), .val (.ref b11), .val (.ref aa), .val (.ref oo), .val (.ref oE), .val (.ref oE), .val (.int (1 : Int32)), .val (.int (1 : Int32)), .val (.int (1 : Int32)), .val (.int (1 : Int32))] [(.int (1 : Int32))])
    refine X24.step (fun hA hx hq t_ k_ => XS.ifNo hA hx rfl (hb hq at_164) rfl ((if0 _ _).trans (feq ((by decide))).1) k_) ?_
    show OFin _ _ _ _ _ _ T24 (mkF m 167 #[.val (.int p0), .val (.int p1), .val (.int p2), .val (.ref b1), .val (.ref b7), .val (.ref b11), .val (.ref aa), .val (.ref oo), .val (.ref oE), .val (.ref oE), .val (.int (1 : Int32)), .val (.int (1 : Int32)), .val (.int (1 : Int32)), .val (.int (1 : Int32))] [])
    refine X24.step (fun hA hx hq t_ k_ => XS.iload hA hx rfl (hb hq at_167) rfl k_) ?_
    show OFin _ _ _ _ _ _ T24 (mkF m 169 #[.val (.int p0), .val (.int p1), .val (.int p2), .val (.ref b1), .val (.ref b7), .val (.ref b11), .val (.ref aa), .val (.ref oo), .val (.ref oE), .val (.ref oE), .val (.int (1 : Int32)), .val (.int (1 : Int32)), .val (.int (1 : Int32)), .val (.int (1 : Int32))] [(.int (1 : Int32))])
    refine X24.step (fun hA hx hq t_ k_ => XS.ifNo hA hx rfl (hb hq at_169) rfl ((if0 _ _).trans (feq ((by decide))).1) k_) ?_
    show OFin _ _ _ _ _ _ T24 (mkF m 172 #[.val (.int p0), .val (.int p1), .val (.int p2), .val (.ref b1), .val (.ref b7), .val (.ref b11), .val (.ref aa), .val (.ref oo), .val (.ref oE), .val (.ref oE), .val (.int (1 : Int32)), .val (.int (1 : Int32)), .val (.int (1 : Int32)), .val (.int (1 : Int32))] [])
    refine X24.step (fun hA hx hq t_ k_ => XS.iload hA hx rfl (hb hq at_172) rfl k_) ?_
    show OFin _ _ _ _ _ _ T24 (mkF m 174 #[.val (.int p0), .val (.int p1), .val (.int p2), .val (.ref b1), .val (.ref b7), .val (.ref b11), .val (.ref aa), .val (.ref oo), .val (.ref oE), .val (.ref oE), .val (.int (1 : Int32)), .val (.int (1 : Int32)), .val (.int (1 : Int32)), .val (.int (1 : Int32))] [(.int (1 : Int32))])
    refine X24.step (fun hA hx hq t_ k_ => XS.ifNo hA hx rfl (hb hq at_174) rfl ((if0 _ _).trans (feq ((by decide))).1) k_) ?_
    show OFin _ _ _ _ _ _ T24 (mkF m 177 #[.val (.int p0), .val (.int p1), .val (.int p2), .val (.ref b1), .val (.ref b7), .val (.ref b11), .val (.ref aa), .val (.ref oo), .val (.ref oE), .val (.ref oE), .val (.int (1 : Int32)), .val (.int (1 : Int32)), .val (.int (1 : Int32)), .val (.int (1 : Int32))] [])
    refine X24.step (fun hA hx hq t_ k_ => XS.iload hA hx rfl (hb hq at_177) rfl k_) ?_
    show OFin _ _ _ _ _ _ T24 (mkF m 179 #[.val (.int p0), .val (.int p1), .val (.int p2), .val (.ref b1), .val (.ref b7), .val (.ref b11), .val (.ref aa), .val (.ref oo), .val (.ref oE), .val (.ref oE), .val (.int (1 : Int32)), .val (.int (1 : Int32)), .val (.int (1 : Int32)), .val (.int (1 : Int32))] [(.int (1 : Int32))])
    refine X24.step (fun hA hx hq t_ k_ => XS.ifNo hA hx rfl (hb hq at_179) rfl ((if0 _ _).trans (feq ((by decide))).1) k_) ?_
    show OFin _ _ _ _ _ _ T24 (mkF m 182 #[.val (.int p0), .val (.int p1), .val (.int p2), .val (.ref b1), .val (.ref b7), .val (.ref b11), .val (.ref aa), .val (.ref oo), .val (.ref oE), .val (.ref oE), .val (.int (1 : Int32)), .val (.int (1 : Int32)), .val (.int (1 : Int32)), .val (.int (1 : Int32))] [])
    refine X24.step (fun hA hx hq t_ k_ => XS.iconst hA hx rfl (hb hq at_182) k_) ?_
    show OFin _ _ _ _ _ _ T24 (mkF m 183 #[.val (.int p0), .val (.int p1), .val (.int p2), .val (.ref b1), .val (.ref b7), .val (.ref b11), .val (.ref aa), .val (.ref oo), .val (.ref oE), .val (.ref oE), .val (.int (1 : Int32)), .val (.int (1 : Int32)), .val (.int (1 : Int32)), .val (.int (1 : Int32))] [(.int (1 : Int32))])
    refine X24.step (fun hA hx hq t_ k_ => XS.goto hA hx rfl (pc0 := 183) (pc' := 187) rfl (hb hq at_183) (by decide) (by decide) k_) ?_
    show OFin _ _ _ _ _ _ T24 (mkF m 187 #[.val (.int p0), .val (.int p1), .val (.int p2), .val (.ref b1), .val (.ref b7), .val (.ref b11), .val (.ref aa), .val (.ref oo), .val (.ref oE), .val (.ref oE), .val (.int (1 : Int32)), .val (.int (1 : Int32)), .val (.int (1 : Int32)), .val (.int (1 : Int32))] [(.int (1 : Int32))])
    exact X24.retN (by simp) at_187 (oW X24 B17 (by decide) (by decide)) (rfl)
  · refine X9.step (fun hA hx hq t_ k_ => XS.ifNo hA hx rfl (hb hq at_35) rfl ((if0 _ _).trans (feq (c)).1) k_) ?_
    show OFin _ _ _ _ _ _ T9 (mkF m 38 #[.val (.int p0), .val (.int p1), .val (.int p2), .val (.ref b1), .val (.ref b7), .unset, .unset, .unset, .unset, .unset, .unset, .unset, .unset, .unset] [])
    refine X9.newOU (hw _ (List.mem_of_getElem? (i := 30) rfl)) (hw _ (List.mem_of_getElem? (i := 31) rfl)) (hw _ (List.mem_of_getElem? (i := 32) rfl)) (g := (mkF m 38 #[.val (.int p0), .val (.int p1), .val (.int p2), .val (.ref b1), .val (.ref b7), .unset, .unset, .unset, .unset, .unset, .unset, .unset, .unset, .unset] [])) rfl at_38 (by decide) (by decide) ?_
    intro T25 h25 b25 gb25 X25 E25 A25 D25 N25
    have B26 := B10.ext E25
    show OFin _ _ _ _ _ _ T25 (mkF m 41 #[.val (.int p0), .val (.int p1), .val (.int p2), .val (.ref b1), .val (.ref b7), .unset, .unset, .unset, .unset, .unset, .unset, .unset, .unset, .unset] [(.ref b25)])
    have O3 := O2.ext E25
    have T3 := T2.ext E25
    have hn : n0 ≤ b25 := by rw [gb25]; exact Nat.le_trans (Nat.le_of_eq O2.1.symm) O2.2.1
    have Gb : Fld Z h25 b25 tN "backtrace" Jvm.Free.Exc.obD .null := D25 (Or.inl (hw _ (List.mem_of_getElem? (i := 86) rfl))) (ty := (.object "java/lang/Object")) (by decide)
    have Gm : Fld Z h25 b25 tN "detailMessage" Jvm.Free.Exc.msgD .null := D25 (Or.inl (hw _ (List.mem_of_getElem? (i := 85) rfl))) (ty := (.object "java/lang/String")) (by decide)
    refine X25.step (fun hA hx hq t_ k_ => XS.dup hA hx rfl (hb hq at_41) rfl rfl k_) ?_
    show OFin _ _ _ _ _ _ T25 (mkF m 42 #[.val (.int p0), .val (.int p1), .val (.int p2), .val (.ref b1), .val (.ref b7), .unset, .unset, .unset, .unset, .unset, .unset, .unset, .unset, .unset] [(.ref b25), (.ref b25)])
    refine X25.step (fun hA hx hq t_ k_ => XS.aload hA hx rfl (hb hq at_42) rfl rfl k_) ?_
    show OFin _ _ _ _ _ _ T25 (mkF m 44 #[.val (.int p0), .val (.int p1), .val (.int p2), .val (.ref b1), .val (.ref b7), .unset, .unset, .unset, .unset, .unset, .unset, .unset, .unset, .unset] [(.ref b7), (.ref b25), (.ref b25)])
    refine X25.callIK hTK hBl (y' := (⟨"com/example/lean_lock/leanlock/LockUnavailableException", "<init>", "(Ljava/lang/String;)V"⟩ : MethodName)) rfl (hw _ (List.mem_of_getElem? (i := 160) rfl)) (hw _ (List.mem_of_getElem? (i := 161) rfl)) (hw _ (List.mem_of_getElem? (i := 32) rfl)) (hw _ (List.mem_of_getElem? (i := 162) rfl)) (by decide) (a := b25) (argsL := [(.ref b7)]) (rest := [(.ref b25)]) ((tu1 l Z a0 hw b25 b7 u sn h25 b25 A25 N25 Gb rfl (SU.ext O3.2) hu (SN.ext O3.2) hsn hl T3).le hn) (g := (mkF m 44 #[.val (.int p0), .val (.int p1), .val (.int p2), .val (.ref b1), .val (.ref b7), .unset, .unset, .unset, .unset, .unset, .unset, .unset, .unset, .unset] [(.ref b7), (.ref b25), (.ref b25)])) rfl rfl pd_pLjava_lang_String_r_V rfl rfl (W := 1) (by show 2 * 0 + _ ≤ _; exact Nat.le_of_eq rfl) at_44 (by decide) (by decide) (by decide) (by decide) ?_
    intro v27 T27 h27 X27 q27
    obtain ⟨rfl, K27, E27⟩ := q27
    have B28 := B26.keep K27 (fun _ _ => safe_nil)
    show OFin _ _ _ _ _ _ T27 (mkF m 47 #[.val (.int p0), .val (.int p1), .val (.int p2), .val (.ref b1), .val (.ref b7), .unset, .unset, .unset, .unset, .unset, .unset, .unset, .unset, .unset] [(.ref b25)])
    have O4 := O3.keep K27 (fun x hx => Nat.le_trans hn (own_ws.le hx))
    refine X27.step (fun hA hx hq t_ k_ => XS.astore hA hx rfl (hb hq at_47) rfl rfl (l' := #[.val (.int p0), .val (.int p1), .val (.int p2), .val (.ref b1), .val (.ref b7), .val (.ref b25), .unset, .unset, .unset, .unset, .unset, .unset, .unset, .unset]) rfl k_) ?_
    show OFin _ _ _ _ _ _ T27 (mkF m 49 #[.val (.int p0), .val (.int p1), .val (.int p2), .val (.ref b1), .val (.ref b7), .val (.ref b25), .unset, .unset, .unset, .unset, .unset, .unset, .unset, .unset] [])
    refine X27.step (fun hA hx hq t_ k_ => XS.goto hA hx rfl (pc0 := 49) (pc' := 64) rfl (hb hq at_49) (by decide) (by decide) k_) ?_
    show OFin _ _ _ _ _ _ T27 (mkF m 64 #[.val (.int p0), .val (.int p1), .val (.int p2), .val (.ref b1), .val (.ref b7), .val (.ref b25), .unset, .unset, .unset, .unset, .unset, .unset, .unset, .unset] [])
    refine X27.step (fun hA hx hq t_ k_ => XS.aload hA hx rfl (hb hq at_64) rfl rfl k_) ?_
    show OFin _ _ _ _ _ _ T27 (mkF m 66 #[.val (.int p0), .val (.int p1), .val (.int p2), .val (.ref b1), .val (.ref b7), .val (.ref b25), .unset, .unset, .unset, .unset, .unset, .unset, .unset, .unset] [(.ref b25)])
    refine X27.callSW B28 (y' := (⟨"com/example/lean_lock/leanlock/Attempt", "unanswered", "(Lcom/example/lean_lock/leanlock/LockUnavailableException;)Lcom/example/lean_lock/leanlock/Attempt;"⟩ : MethodName)) (hw _ (List.mem_of_getElem? (i := 90) rfl)) (hw _ (List.mem_of_getElem? (i := 91) rfl)) (hw _ (List.mem_of_getElem? (i := 92) rfl)) (hw _ (List.mem_of_getElem? (i := 93) rfl)) (by decide) (argsL := [(.ref b25)]) (rest := []) (rm3 l Z a0 hw b25 h27 n0 E27 (Nat.le_trans (Nat.le_of_eq O4.1.symm) O4.2.1)) (g := (mkF m 66 #[.val (.int p0), .val (.int p1), .val (.int p2), .val (.ref b1), .val (.ref b7), .val (.ref b25), .unset, .unset, .unset, .unset, .unset, .unset, .unset, .unset] [(.ref b25)])) rfl rfl pd_pLcom_example_lean_lock_leanlock_LockUnavailableException_r_Lcom_example_lean_lock_leanlock_Attempt_ rfl rfl (W := 0) (by show 2 * 0 + _ ≤ _; exact Nat.le_of_eq rfl) at_66 (by decide) (by decide) (by decide) (by decide) ?_
    intro v29 T29 h29 vm29 X29 B29 G29 Sf29 q29
    obtain ⟨aa, rfl, K29, EA, F0, F1, F2, F3⟩ := q29
    show OFin _ _ _ _ _ _ T29 (mkF m 69 #[.val (.int p0), .val (.int p1), .val (.int p2), .val (.ref b1), .val (.ref b7), .val (.ref b25), .unset, .unset, .unset, .unset, .unset, .unset, .unset, .unset] [(.ref aa)])
    have O5 := O4.keep K29 all0
    refine X29.step (fun hA hx hq t_ k_ => XS.astore hA hx rfl (hb hq at_69) rfl rfl (l' := #[.val (.int p0), .val (.int p1), .val (.int p2), .val (.ref b1), .val (.ref b7), .val (.ref b25), .val (.ref aa), .unset, .unset, .unset, .unset, .unset, .unset, .unset]) rfl k_) ?_
    show OFin _ _ _ _ _ _ T29 (mkF m 71 #[.val (.int p0), .val (.int p1), .val (.int p2), .val (.ref b1), .val (.ref b7), .val (.ref b25), .val (.ref aa), .unset, .unset, .unset, .unset, .unset, .unset, .unset] [])
    refine X29.step (fun hA hx hq t_ k_ => XS.aload hA hx rfl (hb hq at_71) rfl rfl k_) ?_
    show OFin _ _ _ _ _ _ T29 (mkF m 73 #[.val (.int p0), .val (.int p1), .val (.int p2), .val (.ref b1), .val (.ref b7), .val (.ref b25), .val (.ref aa), .unset, .unset, .unset, .unset, .unset, .unset, .unset] [(.ref aa)])
    refine X29.callV (y' := (⟨"com/example/lean_lock/leanlock/Attempt", "unanswered", "()Ljava/util/Optional;"⟩ : MethodName)) (z' := (⟨"com/example/lean_lock/leanlock/Attempt", "unanswered", "()Ljava/util/Optional;"⟩ : MethodName)) (hw _ (List.mem_of_getElem? (i := 116) rfl)) (hw _ (List.mem_of_getElem? (i := 117) rfl)) (X29.notFace (hw _ (List.mem_of_getElem? (i := 119) rfl)) rfl) (hw _ (List.mem_of_getElem? (i := 119) rfl)) (hw _ (List.mem_of_getElem? (i := 118) rfl)) (hw _ (List.mem_of_getElem? (i := 92) rfl)) (hw _ (List.mem_of_getElem? (i := 120) rfl)) (by decide) EA (argsL := []) (rest := []) (rm7 l Z a0 hw aa b25 h29 n0 F3 (Nat.le_trans (Nat.le_of_eq O5.1.symm) O5.2.1)) (g := (mkF m 73 #[.val (.int p0), .val (.int p1), .val (.int p2), .val (.ref b1), .val (.ref b7), .val (.ref b25), .val (.ref aa), .unset, .unset, .unset, .unset, .unset, .unset, .unset] [(.ref aa)])) rfl rfl pd_pr_Ljava_util_Optional_ rfl rfl (W := 0) (by show 2 * 0 + _ ≤ _; exact Nat.le_of_eq rfl) at_73 (by decide) (by decide) (by decide) (by decide) ?_
    intro v30 T30 h30 X30 q30
    obtain ⟨oo, rfl, K30, EO, FO⟩ := q30
    have B31 := B29.keep K30 sf0
    show OFin _ _ _ _ _ _ T30 (mkF m 76 #[.val (.int p0), .val (.int p1), .val (.int p2), .val (.ref b1), .val (.ref b7), .val (.ref b25), .val (.ref aa), .unset, .unset, .unset, .unset, .unset, .unset, .unset] [(.ref oo)])
    have O6 := O5.keep K30 all0
    have EA := EA.keep K30
    have F0 := F0.keep K30 nin0
    have F1 := F1.keep K30 nin0
    have F2 := F2.keep K30 nin0
    have SE6 := SE.ext O6.2
    have EE6 := EE.ext O6.2
    have FE6 := FE_.ext O6.2
    refine X30.step (fun hA hx hq t_ k_ => XS.astore hA hx rfl (hb hq at_76) rfl rfl (l' := #[.val (.int p0), .val (.int p1), .val (.int p2), .val (.ref b1), .val (.ref b7), .val (.ref b25), .val (.ref aa), .val (.ref oo), .unset, .unset, .unset, .unset, .unset, .unset]) rfl k_) ?_
    show OFin _ _ _ _ _ _ T30 (mkF m 78 #[.val (.int p0), .val (.int p1), .val (.int p2), .val (.ref b1), .val (.ref b7), .val (.ref b25), .val (.ref aa), .val (.ref oo), .unset, .unset, .unset, .unset, .unset, .unset] [])
    refine X30.step (fun hA hx hq t_ k_ => XS.aload hA hx rfl (hb hq at_78) rfl rfl k_) ?_
    show OFin _ _ _ _ _ _ T30 (mkF m 80 #[.val (.int p0), .val (.int p1), .val (.int p2), .val (.ref b1), .val (.ref b7), .val (.ref b25), .val (.ref aa), .val (.ref oo), .unset, .unset, .unset, .unset, .unset, .unset] [(.ref aa)])
    refine X30.callV (y' := (⟨"com/example/lean_lock/leanlock/Attempt", "handle", "()Ljava/util/Optional;"⟩ : MethodName)) (z' := (⟨"com/example/lean_lock/leanlock/Attempt", "handle", "()Ljava/util/Optional;"⟩ : MethodName)) (hw _ (List.mem_of_getElem? (i := 134) rfl)) (hw _ (List.mem_of_getElem? (i := 135) rfl)) (X30.notFace (hw _ (List.mem_of_getElem? (i := 137) rfl)) rfl) (hw _ (List.mem_of_getElem? (i := 137) rfl)) (hw _ (List.mem_of_getElem? (i := 136) rfl)) (hw _ (List.mem_of_getElem? (i := 92) rfl)) (hw _ (List.mem_of_getElem? (i := 138) rfl)) (by decide) EA (argsL := []) (rest := []) (rm8 l Z a0 hw aa oE h30 n0 F0 SE6) (g := (mkF m 80 #[.val (.int p0), .val (.int p1), .val (.int p2), .val (.ref b1), .val (.ref b7), .val (.ref b25), .val (.ref aa), .val (.ref oo), .unset, .unset, .unset, .unset, .unset, .unset] [(.ref aa)])) rfl rfl pd_pr_Ljava_util_Optional_ rfl rfl (W := 0) (by show 2 * 0 + _ ≤ _; exact Nat.le_of_eq rfl) at_80 (by decide) (by decide) (by decide) (by decide) ?_
    intro v32 T32 h32 X32 q32
    obtain ⟨rfl, rfl⟩ := q32
    show OFin _ _ _ _ _ _ T32 (mkF m 83 #[.val (.int p0), .val (.int p1), .val (.int p2), .val (.ref b1), .val (.ref b7), .val (.ref b25), .val (.ref aa), .val (.ref oo), .unset, .unset, .unset, .unset, .unset, .unset] [(.ref oE)])
    refine X32.step (fun hA hx hq t_ k_ => XS.astore hA hx rfl (hb hq at_83) rfl rfl (l' := #[.val (.int p0), .val (.int p1), .val (.int p2), .val (.ref b1), .val (.ref b7), .val (.ref b25), .val (.ref aa), .val (.ref oo), .val (.ref oE), .unset, .unset, .unset, .unset, .unset]) rfl k_) ?_
    show OFin _ _ _ _ _ _ T32 (mkF m 85 #[.val (.int p0), .val (.int p1), .val (.int p2), .val (.ref b1), .val (.ref b7), .val (.ref b25), .val (.ref aa), .val (.ref oo), .val (.ref oE), .unset, .unset, .unset, .unset, .unset] [])
    refine X32.step (fun hA hx hq t_ k_ => XS.aload hA hx rfl (hb hq at_85) rfl rfl k_) ?_
    show OFin _ _ _ _ _ _ T32 (mkF m 87 #[.val (.int p0), .val (.int p1), .val (.int p2), .val (.ref b1), .val (.ref b7), .val (.ref b25), .val (.ref aa), .val (.ref oo), .val (.ref oE), .unset, .unset, .unset, .unset, .unset] [(.ref aa)])
    refine X32.callV (y' := (⟨"com/example/lean_lock/leanlock/Attempt", "expiresIn", "()Ljava/util/Optional;"⟩ : MethodName)) (z' := (⟨"com/example/lean_lock/leanlock/Attempt", "expiresIn", "()Ljava/util/Optional;"⟩ : MethodName)) (hw _ (List.mem_of_getElem? (i := 140) rfl)) (hw _ (List.mem_of_getElem? (i := 141) rfl)) (X32.notFace (hw _ (List.mem_of_getElem? (i := 143) rfl)) rfl) (hw _ (List.mem_of_getElem? (i := 143) rfl)) (hw _ (List.mem_of_getElem? (i := 142) rfl)) (hw _ (List.mem_of_getElem? (i := 92) rfl)) (hw _ (List.mem_of_getElem? (i := 144) rfl)) (by decide) EA (argsL := []) (rest := []) (rm9 l Z a0 hw aa oE h30 n0 F1 SE6) (g := (mkF m 87 #[.val (.int p0), .val (.int p1), .val (.int p2), .val (.ref b1), .val (.ref b7), .val (.ref b25), .val (.ref aa), .val (.ref oo), .val (.ref oE), .unset, .unset, .unset, .unset, .unset] [(.ref aa)])) rfl rfl pd_pr_Ljava_util_Optional_ rfl rfl (W := 0) (by show 2 * 0 + _ ≤ _; exact Nat.le_of_eq rfl) at_87 (by decide) (by decide) (by decide) (by decide) ?_
    intro v33 T33 h33 X33 q33
    obtain ⟨rfl, rfl⟩ := q33
    show OFin _ _ _ _ _ _ T33 (mkF m 90 #[.val (.int p0), .val (.int p1), .val (.int p2), .val (.ref b1), .val (.ref b7), .val (.ref b25), .val (.ref aa), .val (.ref oo), .val (.ref oE), .unset, .unset, .unset, .unset, .unset] [(.ref oE)])
    refine X33.step (fun hA hx hq t_ k_ => XS.astore hA hx rfl (hb hq at_90) rfl rfl (l' := #[.val (.int p0), .val (.int p1), .val (.int p2), .val (.ref b1), .val (.ref b7), .val (.ref b25), .val (.ref aa), .val (.ref oo), .val (.ref oE), .val (.ref oE), .unset, .unset, .unset, .unset]) rfl k_) ?_
    show OFin _ _ _ _ _ _ T33 (mkF m 92 #[.val (.int p0), .val (.int p1), .val (.int p2), .val (.ref b1), .val (.ref b7), .val (.ref b25), .val (.ref aa), .val (.ref oo), .val (.ref oE), .val (.ref oE), .unset, .unset, .unset, .unset] [])
    refine X33.step (fun hA hx hq t_ k_ => XS.aload hA hx rfl (hb hq at_92) rfl rfl k_) ?_
    show OFin _ _ _ _ _ _ T33 (mkF m 94 #[.val (.int p0), .val (.int p1), .val (.int p2), .val (.ref b1), .val (.ref b7), .val (.ref b25), .val (.ref aa), .val (.ref oo), .val (.ref oE), .val (.ref oE), .unset, .unset, .unset, .unset] [(.ref oo)])
    refine X33.callV (y' := (⟨"java/util/Optional", "isPresent", "()Z"⟩ : MethodName)) (z' := (⟨"java/util/Optional", "isPresent", "()Z"⟩ : MethodName)) (hw _ (List.mem_of_getElem? (i := 145) rfl)) (hw _ (List.mem_of_getElem? (i := 146) rfl)) (X33.notFace (hw _ (List.mem_of_getElem? (i := 148) rfl)) rfl) (hw _ (List.mem_of_getElem? (i := 148) rfl)) (hw _ (List.mem_of_getElem? (i := 147) rfl)) (hw _ (List.mem_of_getElem? (i := 123) rfl)) (hw _ (List.mem_of_getElem? (i := 149) rfl)) (by decide) EO (argsL := []) (rest := []) (rm10 l Z a0 hw oo b25 h30 n0 FO) (g := (mkF m 94 #[.val (.int p0), .val (.int p1), .val (.int p2), .val (.ref b1), .val (.ref b7), .val (.ref b25), .val (.ref aa), .val (.ref oo), .val (.ref oE), .val (.ref oE), .unset, .unset, .unset, .unset] [(.ref oo)])) rfl rfl pd_pr_Z rfl rfl (W := 0) (by show 2 * 0 + _ ≤ _; exact Nat.le_of_eq rfl) at_94 (by decide) (by decide) (by decide) (by decide) ?_
    intro v34 T34 h34 X34 q34
    obtain ⟨rfl, rfl⟩ := q34
    show OFin _ _ _ _ _ _ T34 (mkF m 97 #[.val (.int p0), .val (.int p1), .val (.int p2), .val (.ref b1), .val (.ref b7), .val (.ref b25), .val (.ref aa), .val (.ref oo), .val (.ref oE), .val (.ref oE), .unset, .unset, .unset, .unset] [(.int (1 : Int32))])
    refine X34.step (fun hA hx hq t_ k_ => XS.ifNo hA hx rfl (hb hq at_97) rfl ((if0 _ _).trans (feq ((by decide))).1) k_) ?_
    show OFin _ _ _ _ _ _ T34 (mkF m 100 #[.val (.int p0), .val (.int p1), .val (.int p2), .val (.ref b1), .val (.ref b7), .val (.ref b25), .val (.ref aa), .val (.ref oo), .val (.ref oE), .val (.ref oE), .unset, .unset, .unset, .unset] [])
    refine X34.step (fun hA hx hq t_ k_ => XS.aload hA hx rfl (hb hq at_100) rfl rfl k_) ?_
    show OFin _ _ _ _ _ _ T34 (mkF m 102 #[.val (.int p0), .val (.int p1), .val (.int p2), .val (.ref b1), .val (.ref b7), .val (.ref b25), .val (.ref aa), .val (.ref oo), .val (.ref oE), .val (.ref oE), .unset, .unset, .unset, .unset] [(.ref oo)])
    refine X34.callV (y' := (⟨"java/util/Optional", "get", "()Ljava/lang/Object;"⟩ : MethodName)) (z' := (⟨"java/util/Optional", "get", "()Ljava/lang/Object;"⟩ : MethodName)) (hw _ (List.mem_of_getElem? (i := 150) rfl)) (hw _ (List.mem_of_getElem? (i := 151) rfl)) (X34.notFace (hw _ (List.mem_of_getElem? (i := 153) rfl)) rfl) (hw _ (List.mem_of_getElem? (i := 153) rfl)) (hw _ (List.mem_of_getElem? (i := 152) rfl)) (hw _ (List.mem_of_getElem? (i := 123) rfl)) (hw _ (List.mem_of_getElem? (i := 154) rfl)) (by decide) EO (argsL := []) (rest := []) (rm12 l Z a0 hw oo b25 h30 n0 FO) (g := (mkF m 102 #[.val (.int p0), .val (.int p1), .val (.int p2), .val (.ref b1), .val (.ref b7), .val (.ref b25), .val (.ref aa), .val (.ref oo), .val (.ref oE), .val (.ref oE), .unset, .unset, .unset, .unset] [(.ref oo)])) rfl rfl pd_pr_Ljava_lang_Object_ rfl rfl (W := 0) (by show 2 * 0 + _ ≤ _; exact Nat.le_of_eq rfl) at_102 (by decide) (by decide) (by decide) (by decide) ?_
    intro v35 T35 h35 X35 q35
    obtain ⟨rfl, rfl⟩ := q35
    show OFin _ _ _ _ _ _ T35 (mkF m 105 #[.val (.int p0), .val (.int p1), .val (.int p2), .val (.ref b1), .val (.ref b7), .val (.ref b25), .val (.ref aa), .val (.ref oo), .val (.ref oE), .val (.ref oE), .unset, .unset, .unset, .unset] [(.ref b25)])
    refine X35.step (fun hA hx hq t_ k_ => XS.aload hA hx rfl (hb hq at_105) rfl rfl k_) ?_
    show OFin _ _ _ _ _ _ T35 (mkF m 107 #[.val (.int p0), .val (.int p1), .val (.int p2), .val (.ref b1), .val (.ref b7), .val (.ref b25), .val (.ref aa), .val (.ref oo), .val (.ref oE), .val (.ref oE), .unset, .unset, .unset, .unset] [(.ref b25), (.ref b25)])
    refine X35.acmp (g := (mkF m 107 #[.val (.int p0), .val (.int p1), .val (.int p2), .val (.ref b1), .val (.ref b7), .val (.ref b25), .val (.ref aa), .val (.ref oo), .val (.ref oE), .val (.ref oE), .unset, .unset, .unset, .unset] [(.ref b25), (.ref b25)])) rfl rfl rfl (pc0 := 107) (pc' := 110) (same := true) rfl at_107 rfl (decide_eq_true rfl) (by decide) (by decide) ?_
    show OFin _ _ _ _ _ _ T35 (mkF m 110 #[.val (.int p0), .val (.int p1), .val (.int p2), .val (.ref b1), .val (.ref b7), .val (.ref b25), .val (.ref aa), .val (.ref oo), .val (.ref oE), .val (.ref oE), .unset, .unset, .unset, .unset] [])
    refine X35.step (fun hA hx hq t_ k_ => XS.iconst hA hx rfl (hb hq at_110) k_) ?_
    show OFin _ _ _ _ _ _ T35 (mkF m 111 #[.val (.int p0), .val (.int p1), .val (.int p2), .val (.ref b1), .val (.ref b7), .val (.ref b25), .val (.ref aa), .val (.ref oo), .val (.ref oE), .val (.ref oE), .unset, .unset, .unset, .unset] [(.int (1 : Int32))])
    refine X35.step (fun hA hx hq t_ k_ => XS.goto hA hx rfl (pc0 := 111) (pc' := 115) rfl (hb hq at_111) (by decide) (by decide) k_) ?_
    show OFin _ _ _ _ _ _ T35 (mkF m 115 #[.val (.int p0), .val (.int p1), .val (.int p2), .val (.ref b1), .val (.ref b7), .val (.ref b25), .val (.ref aa), .val (.ref oo), .val (.ref oE), .val (.ref oE), .unset, .unset, .unset, .unset] [(.int (1 : Int32))])
    refine X35.step (fun hA hx hq t_ k_ => XS.istore hA hx rfl (hb hq at_115) rfl (l' := #[.val (.int p0), .val (.int p1), .val (.int p2), .val (.ref b1), .val (.ref b7), .val (.ref b25), .val (.ref aa), .val (.ref oo), .val (.ref oE), .val (.ref oE), .val (.int (1 : Int32)), .unset, .unset, .unset]) rfl k_) ?_
    show OFin _ _ _ _ _ _ T35 (mkF m 117 #[.val (.int p0), .val (.int p1), .val (.int p2), .val (.ref b1), .val (.ref b7), .val (.ref b25), .val (.ref aa), .val (.ref oo), .val (.ref oE), .val (.ref oE), .val (.int (1 : Int32)), .unset, .unset, .unset] [])
    refine X35.step (fun hA hx hq t_ k_ => XS.aload hA hx rfl (hb hq at_117) rfl rfl k_) ?_
    show OFin _ _ _ _ _ _ T35 (mkF m 119 #[.val (.int p0), .val (.int p1), .val (.int p2), .val (.ref b1), .val (.ref b7), .val (.ref b25), .val (.ref aa), .val (.ref oo), .val (.ref oE), .val (.ref oE), .val (.int (1 : Int32)), .unset, .unset, .unset] [(.ref oE)])
    refine X35.callV (y' := (⟨"java/util/Optional", "isPresent", "()Z"⟩ : MethodName)) (z' := (⟨"java/util/Optional", "isPresent", "()Z"⟩ : MethodName)) (hw _ (List.mem_of_getElem? (i := 145) rfl)) (hw _ (List.mem_of_getElem? (i := 146) rfl)) (X35.notFace (hw _ (List.mem_of_getElem? (i := 148) rfl)) rfl) (hw _ (List.mem_of_getElem? (i := 148) rfl)) (hw _ (List.mem_of_getElem? (i := 147) rfl)) (hw _ (List.mem_of_getElem? (i := 123) rfl)) (hw _ (List.mem_of_getElem? (i := 149) rfl)) (by decide) EE6 (argsL := []) (rest := []) (rm11 l Z a0 hw oE h30 n0 FE6) (g := (mkF m 119 #[.val (.int p0), .val (.int p1), .val (.int p2), .val (.ref b1), .val (.ref b7), .val (.ref b25), .val (.ref aa), .val (.ref oo), .val (.ref oE), .val (.ref oE), .val (.int (1 : Int32)), .unset, .unset, .unset] [(.ref oE)])) rfl rfl pd_pr_Z rfl rfl (W := 0) (by show 2 * 0 + _ ≤ _; exact Nat.le_of_eq rfl) at_119 (by decide) (by decide) (by decide) (by decide) ?_
    intro v36 T36 h36 X36 q36
    obtain ⟨rfl, rfl⟩ := q36
    show OFin _ _ _ _ _ _ T36 (mkF m 122 #[.val (.int p0), .val (.int p1), .val (.int p2), .val (.ref b1), .val (.ref b7), .val (.ref b25), .val (.ref aa), .val (.ref oo), .val (.ref oE), .val (.ref oE), .val (.int (1 : Int32)), .unset, .unset, .unset] [(.int (0 : Int32))])
    refine X36.step (fun hA hx hq t_ k_ => XS.ifNo hA hx rfl (hb hq at_122) rfl ((if0 _ _).trans (teq ((rfl : (0 : Int32) = (0 : Int32)))).2) k_) ?_
    show OFin _ _ _ _ _ _ T36 (mkF m 125 #[.val (.int p0), .val (.int p1), .val (.int p2), .val (.ref b1), .val (.ref b7), .val (.ref b25), .val (.ref aa), .val (.ref oo), .val (.ref oE), .val (.ref oE), .val (.int (1 : Int32)), .unset, .unset, .unset] [])
    refine X36.step (fun hA hx hq t_ k_ => XS.iconst hA hx rfl (hb hq at_125) k_) ?_
    show OFin _ _ _ _ _ _ T36 (mkF m 126 #[.val (.int p0), .val (.int p1), .val (.int p2), .val (.ref b1), .val (.ref b7), .val (.ref b25), .val (.ref aa), .val (.ref oo), .val (.ref oE), .val (.ref oE), .val (.int (1 : Int32)), .unset, .unset, .unset] [(.int (1 : Int32))])
    refine X36.step (fun hA hx hq t_ k_ => XS.goto hA hx rfl (pc0 := 126) (pc' := 130) rfl (hb hq at_126) (by decide) (by decide) k_) ?_
    show OFin _ _ _ _ _ _ T36 (mkF m 130 #[.val (.int p0), .val (.int p1), .val (.int p2), .val (.ref b1), .val (.ref b7), .val (.ref b25), .val (.ref aa), .val (.ref oo), .val (.ref oE), .val (.ref oE), .val (.int (1 : Int32)), .unset, .unset, .unset] [(.int (1 : Int32))])
    refine X36.step (fun hA hx hq t_ k_ => XS.istore hA hx rfl (hb hq at_130) rfl (l' := #[.val (.int p0), .val (.int p1), .val (.int p2), .val (.ref b1), .val (.ref b7), .val (.ref b25), .val (.ref aa), .val (.ref oo), .val (.ref oE), .val (.ref oE), .val (.int (1 : Int32)), .val (.int (1 : Int32)), .unset, .unset]) rfl k_) ?_
    show OFin _ _ _ _ _ _ T36 (mkF m 132 #[.val (.int p0), .val (.int p1), .val (.int p2), .val (.ref b1), .val (.ref b7), .val (.ref b25), .val (.ref aa), .val (.ref oo), .val (.ref oE), .val (.ref oE), .val (.int (1 : Int32)), .val (.int (1 : Int32)), .unset, .unset] [])
    refine X36.step (fun hA hx hq t_ k_ => XS.aload hA hx rfl (hb hq at_132) rfl rfl k_) ?_
    show OFin _ _ _ _ _ _ T36 (mkF m 134 #[.val (.int p0), .val (.int p1), .val (.int p2), .val (.ref b1), .val (.ref b7), .val (.ref b25), .val (.ref aa), .val (.ref oo), .val (.ref oE), .val (.ref oE), .val (.int (1 : Int32)), .val (.int (1 : Int32)), .unset, .unset] [(.ref oE)])
    refine X36.callV (y' := (⟨"java/util/Optional", "isPresent", "()Z"⟩ : MethodName)) (z' := (⟨"java/util/Optional", "isPresent", "()Z"⟩ : MethodName)) (hw _ (List.mem_of_getElem? (i := 145) rfl)) (hw _ (List.mem_of_getElem? (i := 146) rfl)) (X36.notFace (hw _ (List.mem_of_getElem? (i := 148) rfl)) rfl) (hw _ (List.mem_of_getElem? (i := 148) rfl)) (hw _ (List.mem_of_getElem? (i := 147) rfl)) (hw _ (List.mem_of_getElem? (i := 123) rfl)) (hw _ (List.mem_of_getElem? (i := 149) rfl)) (by decide) EE6 (argsL := []) (rest := []) (rm11 l Z a0 hw oE h30 n0 FE6) (g := (mkF m 134 #[.val (.int p0), .val (.int p1), .val (.int p2), .val (.ref b1), .val (.ref b7), .val (.ref b25), .val (.ref aa), .val (.ref oo), .val (.ref oE), .val (.ref oE), .val (.int (1 : Int32)), .val (.int (1 : Int32)), .unset, .unset] [(.ref oE)])) rfl rfl pd_pr_Z rfl rfl (W := 0) (by show 2 * 0 + _ ≤ _; exact Nat.le_of_eq rfl) at_134 (by decide) (by decide) (by decide) (by decide) ?_
    intro v37 T37 h37 X37 q37
    obtain ⟨rfl, rfl⟩ := q37
    show OFin _ _ _ _ _ _ T37 (mkF m 137 #[.val (.int p0), .val (.int p1), .val (.int p2), .val (.ref b1), .val (.ref b7), .val (.ref b25), .val (.ref aa), .val (.ref oo), .val (.ref oE), .val (.ref oE), .val (.int (1 : Int32)), .val (.int (1 : Int32)), .unset, .unset] [(.int (0 : Int32))])
    refine X37.step (fun hA hx hq t_ k_ => XS.ifNo hA hx rfl (hb hq at_137) rfl ((if0 _ _).trans (teq ((rfl : (0 : Int32) = (0 : Int32)))).2) k_) ?_
    show OFin _ _ _ _ _ _ T37 (mkF m 140 #[.val (.int p0), .val (.int p1), .val (.int p2), .val (.ref b1), .val (.ref b7), .val (.ref b25), .val (.ref aa), .val (.ref oo), .val (.ref oE), .val (.ref oE), .val (.int (1 : Int32)), .val (.int (1 : Int32)), .unset, .unset] [])
    refine X37.step (fun hA hx hq t_ k_ => XS.iconst hA hx rfl (hb hq at_140) k_) ?_
    show OFin _ _ _ _ _ _ T37 (mkF m 141 #[.val (.int p0), .val (.int p1), .val (.int p2), .val (.ref b1), .val (.ref b7), .val (.ref b25), .val (.ref aa), .val (.ref oo), .val (.ref oE), .val (.ref oE), .val (.int (1 : Int32)), .val (.int (1 : Int32)), .unset, .unset] [(.int (1 : Int32))])
    refine X37.step (fun hA hx hq t_ k_ => XS.goto hA hx rfl (pc0 := 141) (pc' := 145) rfl (hb hq at_141) (by decide) (by decide) k_) ?_
    show OFin _ _ _ _ _ _ T37 (mkF m 145 #[.val (.int p0), .val (.int p1), .val (.int p2), .val (.ref b1), .val (.ref b7), .val (.ref b25), .val (.ref aa), .val (.ref oo), .val (.ref oE), .val (.ref oE), .val (.int (1 : Int32)), .val (.int (1 : Int32)), .unset, .unset] [(.int (1 : Int32))])
    refine X37.step (fun hA hx hq t_ k_ => XS.istore hA hx rfl (hb hq at_145) rfl (l' := #[.val (.int p0), .val (.int p1), .val (.int p2), .val (.ref b1), .val (.ref b7), .val (.ref b25), .val (.ref aa), .val (.ref oo), .val (.ref oE), .val (.ref oE), .val (.int (1 : Int32)), .val (.int (1 : Int32)), .val (.int (1 : Int32)), .unset]) rfl k_) ?_
    show OFin _ _ _ _ _ _ T37 (mkF m 147 #[.val (.int p0), .val (.int p1), .val (.int p2), .val (.ref b1), .val (.ref b7), .val (.ref b25), .val (.ref aa), .val (.ref oo), .val (.ref oE), .val (.ref oE), .val (.int (1 : Int32)), .val (.int (1 : Int32)), .val (.int (1 : Int32)), .unset] [])
    refine X37.step (fun hA hx hq t_ k_ => XS.aload hA hx rfl (hb hq at_147) rfl rfl k_) ?_
    show OFin _ _ _ _ _ _ T37 (mkF m 149 #[.val (.int p0), .val (.int p1), .val (.int p2), .val (.ref b1), .val (.ref b7), .val (.ref b25), .val (.ref aa), .val (.ref oo), .val (.ref oE), .val (.ref oE), .val (.int (1 : Int32)), .val (.int (1 : Int32)), .val (.int (1 : Int32)), .unset] [(.ref aa)])
    refine X37.callV (y' := (⟨"com/example/lean_lock/leanlock/Attempt", "isSplit", "()Z"⟩ : MethodName)) (z' := (⟨"com/example/lean_lock/leanlock/Attempt", "isSplit", "()Z"⟩ : MethodName)) (hw _ (List.mem_of_getElem? (i := 155) rfl)) (hw _ (List.mem_of_getElem? (i := 156) rfl)) (X37.notFace (hw _ (List.mem_of_getElem? (i := 158) rfl)) rfl) (hw _ (List.mem_of_getElem? (i := 158) rfl)) (hw _ (List.mem_of_getElem? (i := 157) rfl)) (hw _ (List.mem_of_getElem? (i := 92) rfl)) (hw _ (List.mem_of_getElem? (i := 159) rfl)) (by decide) EA (argsL := []) (rest := []) (rm13 l Z a0 hw aa h30 n0 F2) (g := (mkF m 149 #[.val (.int p0), .val (.int p1), .val (.int p2), .val (.ref b1), .val (.ref b7), .val (.ref b25), .val (.ref aa), .val (.ref oo), .val (.ref oE), .val (.ref oE), .val (.int (1 : Int32)), .val (.int (1 : Int32)), .val (.int (1 : Int32)), .unset] [(.ref aa)])) rfl rfl pd_pr_Z rfl rfl (W := 0) (by show 2 * 0 + _ ≤ _; exact Nat.le_of_eq rfl) at_149 (by decide) (by decide) (by decide) (by decide) ?_
    intro v38 T38 h38 X38 q38
    obtain ⟨rfl, rfl⟩ := q38
    show OFin _ _ _ _ _ _ T38 (mkF m 152 #[.val (.int p0), .val (.int p1), .val (.int p2), .val (.ref b1), .val (.ref b7), .val (.ref b25), .val (.ref aa), .val (.ref oo), .val (.ref oE), .val (.ref oE), .val (.int (1 : Int32)), .val (.int (1 : Int32)), .val (.int (1 : Int32)), .unset] [(.int (0 : Int32))])
    refine X38.step (fun hA hx hq t_ k_ => XS.ifNo hA hx rfl (hb hq at_152) rfl ((if0 _ _).trans (teq ((rfl : (0 : Int32) = (0 : Int32)))).2) k_) ?_
    show OFin _ _ _ _ _ _ T38 (mkF m 155 #[.val (.int p0), .val (.int p1), .val (.int p2), .val (.ref b1), .val (.ref b7), .val (.ref b25), .val (.ref aa), .val (.ref oo), .val (.ref oE), .val (.ref oE), .val (.int (1 : Int32)), .val (.int (1 : Int32)), .val (.int (1 : Int32)), .unset] [])
    refine X38.step (fun hA hx hq t_ k_ => XS.iconst hA hx rfl (hb hq at_155) k_) ?_
    show OFin _ _ _ _ _ _ T38 (mkF m 156 #[.val (.int p0), .val (.int p1), .val (.int p2), .val (.ref b1), .val (.ref b7), .val (.ref b25), .val (.ref aa), .val (.ref oo), .val (.ref oE), .val (.ref oE), .val (.int (1 : Int32)), .val (.int (1 : Int32)), .val (.int (1 : Int32)), .unset] [(.int (1 : Int32))])
    refine X38.step (fun hA hx hq t_ k_ => XS.goto hA hx rfl (pc0 := 156) (pc' := 160) rfl (hb hq at_156) (by decide) (by decide) k_) ?_
    show OFin _ _ _ _ _ _ T38 (mkF m 160 #[.val (.int p0), .val (.int p1), .val (.int p2), .val (.ref b1), .val (.ref b7), .val (.ref b25), .val (.ref aa), .val (.ref oo), .val (.ref oE), .val (.ref oE), .val (.int (1 : Int32)), .val (.int (1 : Int32)), .val (.int (1 : Int32)), .unset] [(.int (1 : Int32))])
    refine X38.step (fun hA hx hq t_ k_ => XS.istore hA hx rfl (hb hq at_160) rfl (l' := #[.val (.int p0), .val (.int p1), .val (.int p2), .val (.ref b1), .val (.ref b7), .val (.ref b25), .val (.ref aa), .val (.ref oo), .val (.ref oE), .val (.ref oE), .val (.int (1 : Int32)), .val (.int (1 : Int32)), .val (.int (1 : Int32)), .val (.int (1 : Int32))]) rfl k_) ?_
    show OFin _ _ _ _ _ _ T38 (mkF m 162 #[.val (.int p0), .val (.int p1), .val (.int p2), .val (.ref b1), .val (.ref b7), .val (.ref b25), .val (.ref aa), .val (.ref oo), .val (.ref oE), .val (.ref oE), .val (.int (1 : Int32)), .val (.int (1 : Int32)), .val (.int (1 : Int32)), .val (.int (1 : Int32))] [])
    refine X38.step (fun hA hx hq t_ k_ => XS.iload hA hx rfl (hb hq at_162) rfl k_) ?_
    show OFin _ _ _ _ _ _ T38 (mkF m 164 #[.val (.int p0), .val (.int p1), .val (.int p2), .val (.ref b1), .val (.ref b7), .val (.ref b25), .val (.ref aa), .val (.ref oo), .val (.ref oE), .val (.ref oE), .val (.int (1 : Int32)), .val (.int (1 : Int32)), .val (.int (1 : Int32)), .val (.int (1 : Int32))] [(.int (1 : Int32))])
    refine X38.step (fun hA hx hq t_ k_ => XS.ifNo hA hx rfl (hb hq at_164) rfl ((if0 _ _).trans (feq ((by decide))).1) k_) ?_
    show OFin _ _ _ _ _ _ T38 (mkF m 167 #[.val (.int p0), .val (.int p1), .val (.int p2), .val (.ref b1), .val (.ref b7), .val (.ref b25), .val (.ref aa), .val (.ref oo), .val (.ref oE), .val (.ref oE), .val (.int (1 : Int32)), .val (.int (1 : Int32)), .val (.int (1 : Int32)), .val (.int (1 : Int32))] [])
    refine X38.step (fun hA hx hq t_ k_ => XS.iload hA hx rfl (hb hq at_167) rfl k_) ?_
    show OFin _ _ _ _ _ _ T38 (mkF m 169 #[.val (.int p0), .val (.int p1), .val (.int p2), .val (.ref b1), .val (.ref b7), .val (.ref b25), .val (.ref aa), .val (.ref oo), .val (.ref oE), .val (.ref oE), .val (.int (1 : Int32)), .val (.int (1 : Int32)), .val (.int (1 : Int32)), .val (.int (1 : Int32))] [(.int (1 : Int32))])
    refine X38.step (fun hA hx hq t_ k_ => XS.ifNo hA hx rfl (hb hq at_169) rfl ((if0 _ _).trans (feq ((by decide))).1) k_) ?_
    show OFin _ _ _ _ _ _ T38 (mkF m 172 #[.val (.int p0), .val (.int p1), .val (.int p2), .val (.ref b1), .val (.ref b7), .val (.ref b25), .val (.ref aa), .val (.ref oo), .val (.ref oE), .val (.ref oE), .val (.int (1 : Int32)), .val (.int (1 : Int32)), .val (.int (1 : Int32)), .val (.int (1 : Int32))] [])
    refine X38.step (fun hA hx hq t_ k_ => XS.iload hA hx rfl (hb hq at_172) rfl k_) ?_
    show OFin _ _ _ _ _ _ T38 (mkF m 174 #[.val (.int p0), .val (.int p1), .val (.int p2), .val (.ref b1), .val (.ref b7), .val (.ref b25), .val (.ref aa), .val (.ref oo), .val (.ref oE), .val (.ref oE), .val (.int (1 : Int32)), .val (.int (1 : Int32)), .val (.int (1 : Int32)), .val (.int (1 : Int32))] [(.int (1 : Int32))])
    refine X38.step (fun hA hx hq t_ k_ => XS.ifNo hA hx rfl (hb hq at_174) rfl ((if0 _ _).trans (feq ((by decide))).1) k_) ?_
    show OFin _ _ _ _ _ _ T38 (mkF m 177 #[.val (.int p0), .val (.int p1), .val (.int p2), .val (.ref b1), .val (.ref b7), .val (.ref b25), .val (.ref aa), .val (.ref oo), .val (.ref oE), .val (.ref oE), .val (.int (1 : Int32)), .val (.int (1 : Int32)), .val (.int (1 : Int32)), .val (.int (1 : Int32))] [])
    refine X38.step (fun hA hx hq t_ k_ => XS.iload hA hx rfl (hb hq at_177) rfl k_) ?_
    show OFin _ _ _ _ _ _ T38 (mkF m 179 #[.val (.int p0), .val (.int p1), .val (.int p2), .val (.ref b1), .val (.ref b7), .val (.ref b25), .val (.ref aa), .val (.ref oo), .val (.ref oE), .val (.ref oE), .val (.int (1 : Int32)), .val (.int (1 : Int32)), .val (.int (1 : Int32)), .val (.int (1 : Int32))] [(.int (1 : Int32))])
    refine X38.step (fun hA hx hq t_ k_ => XS.ifNo hA hx rfl (hb hq at_179) rfl ((if0 _ _).trans (feq ((by decide))).1) k_) ?_
    show OFin _ _ _ _ _ _ T38 (mkF m 182 #[.val (.int p0), .val (.int p1), .val (.int p2), .val (.ref b1), .val (.ref b7), .val (.ref b25), .val (.ref aa), .val (.ref oo), .val (.ref oE), .val (.ref oE), .val (.int (1 : Int32)), .val (.int (1 : Int32)), .val (.int (1 : Int32)), .val (.int (1 : Int32))] [])
    refine X38.step (fun hA hx hq t_ k_ => XS.iconst hA hx rfl (hb hq at_182) k_) ?_
    show OFin _ _ _ _ _ _ T38 (mkF m 183 #[.val (.int p0), .val (.int p1), .val (.int p2), .val (.ref b1), .val (.ref b7), .val (.ref b25), .val (.ref aa), .val (.ref oo), .val (.ref oE), .val (.ref oE), .val (.int (1 : Int32)), .val (.int (1 : Int32)), .val (.int (1 : Int32)), .val (.int (1 : Int32))] [(.int (1 : Int32))])
    refine X38.step (fun hA hx hq t_ k_ => XS.goto hA hx rfl (pc0 := 183) (pc' := 187) rfl (hb hq at_183) (by decide) (by decide) k_) ?_
    show OFin _ _ _ _ _ _ T38 (mkF m 187 #[.val (.int p0), .val (.int p1), .val (.int p2), .val (.ref b1), .val (.ref b7), .val (.ref b25), .val (.ref aa), .val (.ref oo), .val (.ref oE), .val (.ref oE), .val (.int (1 : Int32)), .val (.int (1 : Int32)), .val (.int (1 : Int32)), .val (.int (1 : Int32))] [(.int (1 : Int32))])
    exact X38.retN (by simp) at_187 (oW X38 B31 (by decide) (by decide)) (rfl)
set_option maxRecDepth 65536 in
set_option maxHeartbeats 40000000 in
theorem comes_1 {Post : Tables → Env → Array Value → State → Outcome → State → Prop} (hpost : ∀ tb e args s v u, (limb_1_1.after args s (.returned v) u = true ∧ limb_1_2.after args s (.returned v) u = true ∧ True) → ReturnedEndW s (.returned v) u (Jvm.fieldLocs frame_1_writes args s ++ Jvm.arrayLocs frame_1_arrays args s ++ Jvm.staticLocs frame_1_statics s) 24 6656 → Post tb e args s (.returned v) u) :
    ArmFor flags0 classFile x code maxLocals ret World_1 tables_1 room_1 Calls_1 rest_1 Pre_1 Post := by
  intro l hfl _ _ p e ha hc hk s m args below hf hA hF happ hP
  obtain ⟨hcalls, hrest, hpre⟩ := hP
  obtain ⟨-, -, -, hnamed, -, -, -, hat⟩ := (Spec.applies_iff hf).mp happ
  obtain ⟨hg, hn⟩ := and_e (Cond.before_iff.mp (show (Jvm.Cond.and given_1 narrow_1).before args s = true from hpre))
  obtain ⟨hcount, hg0⟩ := and_e hg
  obtain ⟨w0, w1, w2, rfl⟩ : ∃ w0 w1 w2 : Value, args = #[w0, w1, w2] := by
    have hs : args.size = 3 := by simpa [Cond.value, given_1] using hcount
    obtain ⟨L⟩ := args
    match L, hs with
    | [w0, w1, w2], _ => exact ⟨w0, w1, w2, rfl⟩
  have hw := fun d (hd : d ∈ tables_1) => atoms_spec (ws := Jvm.Cond.code x code maxLocals ret :: tables_1) hat d (List.mem_cons_of_mem _ hd)
  have hfit : Fit s := fun {y c} hc i hi => by
    obtain ⟨ha, rfl⟩ := Array.getElem?_eq_some_iff.mp hc
    have q := List.all_eq_true.mp ((Array.all_eq_true_iff_forall_mem.mp hF) _ (Array.getElem_mem ha)) i (List.mem_range.mpr hi)
    simpa [Array.getElem?_eq_getElem hi] using q
  obtain ⟨ha0, hg1⟩ := and_e hg0
  obtain ⟨i0, ei0⟩ := is_v ha0
  obtain rfl : w0 = (.int i0) := Option.some.inj ei0
  obtain ⟨ha1, hg2⟩ := and_e hg1
  obtain ⟨i1, ei1⟩ := is_v ha1
  obtain rfl : w1 = (.int i1) := Option.some.inj ei1
  obtain ⟨i2, ei2⟩ := is_v hg2
  obtain rfl : w2 = (.int i2) := Option.some.inj ei2
  obtain ⟨hsets, hown0⟩ := atoms_of _ (rest_1_c_eq ▸ (show rest_1_c.before _ s = true from hrest))
  have n5 := not_v (Cond.before_iff.mp (hsets _ (List.mem_of_getElem? (i := 2) rfl)))
  obtain ⟨cs, ecs⟩ := is_v (Cond.before_iff.mp (hsets _ (List.mem_of_getElem? (i := 1) rfl)))
  have SS : Sta s s.heap "java/lang/String" "COMPACT_STRINGS" "Z" (.int cs) := Sta.start ecs (Or.inl (hsets _ (List.mem_of_getElem? (i := 0) rfl)))
  have hcs : ¬ (cs = (0 : Int32)) := gotF (Cond.eq_ints ecs (Term.int_eval (0))) n5
  obtain ⟨u, eu, hu⟩ := isR_v (Cond.before_iff.mp (hsets _ (List.mem_of_getElem? (i := 16) rfl)))
  have SU : Sta s s.heap "java/lang/Throwable" "UNASSIGNED_STACK" "[Ljava/lang/StackTraceElement;" u := Sta.start eu (Or.inl (hsets _ (List.mem_of_getElem? (i := 15) rfl)))
  obtain ⟨sn, esn, hsn⟩ := isR_v (Cond.before_iff.mp (hsets _ (List.mem_of_getElem? (i := 21) rfl)))
  have SN : Sta s s.heap "java/lang/Throwable" "SUPPRESSED_SENTINEL" "Ljava/util/List;" sn := Sta.start esn (Or.inl (hsets _ (List.mem_of_getElem? (i := 20) rfl)))
  have hxE := Cond.before_iff.mp (hsets _ (List.mem_of_getElem? (i := 31) rfl))
  obtain ⟨oE, evE⟩ := exa_v hxE
  have EE := Exa.start evE hxE
  have SE : Sta s s.heap "java/util/Optional" "EMPTY" "Ljava/util/Optional;" (.ref oE) := Sta.start evE (Or.inl (hsets _ (List.mem_of_getElem? (i := 30) rfl)))
  have FE_ : Fld s s.heap oE "java/util/Optional" "value" "Ljava/lang/Object;" .null := Fld.start (by rw [← fld_at (C := "java/util/Optional") (n := "value") (dd := "Ljava/lang/Object;") evE]; exact null_v (Cond.before_iff.mp (hsets _ (List.mem_of_getElem? (i := 32) rfl))))
  have hlT : l.stackTraces = true := by
      show (!l.flags.contains noTraceFlag) = true
      rw [hfl]
      decide +kernel
  obtain ⟨n, o, h1, h2, h3, _, L, rfl, ⟨rfl, N⟩, -, hq⟩ := rm0 l s _ hw tables_1 i0 i1 i2 cs oE u sn s.heap s.heap.size hlT SU hu SN hsn (Old.start s) SS hcs SE EE FE_ p e ha hc hk s m _ below hf ((Spec.applies_iff_loose hf).mp happ).1 ⟨rfl, State.Warmed39.refl s, rfl, fun p hp => by cases hp⟩ ⟨MethodsKnown_of_tablesKnown hcalls.2.1, FramesKnown_of_framesKnown hcalls.1 hf⟩
  refine ⟨n, _, h1, h2, h3, hpost _ _ _ _ _ _ ⟨Cond.after_iff.mpr rfl, Cond.after_iff.mpr (eq_i res_at (Term.int_eval (1)) rfl), trivial⟩ ⟨hq.1, hq.2.1, hq.2.2.1, (hq.2.2.2.sift fun y hy => Or.inr (N y hy)).mono (by decide) (by decide)⟩⟩
theorem main_1_1 : Claimed_1_1 := comes_1 fun _ _ _ _ _ _ h hF => ⟨h.1, hF⟩
theorem main_1_2 : Claimed_1_2 := comes_1 fun _ _ _ _ _ _ h hF => ⟨h.2.1, hF⟩
end Jvm.Pilot.@@N@@
namespace Jvm.Pilot.@@N@@
open Jvm Jvm.ClassFile Sem Op Lib Jvm.Free Jvm.Stand Jvm.Pilot.@@N@@.Jvm.D
/-! MADE BY PROGRAM (witnessworld.py) out of the Statement's table words and the real class files: 39 classes; the members and pool entries that the words name. The judged class is class 1, her method 1. -/
namespace start1
open Jvm.ClassFile
def u (s : String) : CpInfo := .utf8 (stringToUtf16 s)
/-- a pool by its gaps: so many unusable entries, then the entry; so many at the end -/
def gap : Nat → List CpInfo → List CpInfo
  | 0, r => r
  | n + 1, r => .unusable :: gap n r
def poolList (es : List (Nat × CpInfo)) (last : Nat) : List CpInfo := es.foldr (fun e r => gap e.1 (e.2 :: r)) (gap last [])
def pool (es : List (Nat × CpInfo)) (last : Nat) : Array CpInfo := ⟨poolList es last⟩
def fileOf (pool : Array CpInfo) (this : Nat) (attrs : Array Attribute := #[]) (ms : Array MethodInfo := #[]) (fl : Nat := 33) (sup : Nat := 0) (ifs : Array Nat := #[]) (fds : Array FieldInfo := #[]) : ClassFile where
  minorVersion := 0
  majorVersion := 65
  constantPool := pool
  accessFlags := fl
  thisClass := this
  superClass := sup
  interfaces := ifs
  fields := fds
  methods := ms
  attributes := attrs
def plain (name : String) (sup : Option ClassId) : Class where
  name := name
  kind := .ordinary
  loader := none
  accessFlags := 33
  super := sup
  interfaces := #[]
  cf := none
  fields := #[]
  methods := #[]
  instanceTypes := #[]
  staticTypes := #[]
  resolved := #[]
  callSites := []
  init := .initialized
  statics := none
  mirror := none

def pool0 : Array CpInfo := pool [(5, u "<init>"), (0, u "()V"), (1, .class_ 10), (1, u "java/lang/Object")] 113

def k0c0 : Code := { maxStack := 0, maxLocals := 1, code := object_method_1_code, exceptionTable := #[], attributes := #[] }
def k0m0 : Method := { name := "<init>", desc := "()V", sig := { parameters := [], returnType := none }, accessFlags := 1, code := some k0c0 }
/-- java/lang/Object -/
def k0 : Class := { plain "java/lang/Object" none with
  accessFlags := 33
  interfaces := #[]
  cf := some (fileOf pool0 8 #[] #[{ accessFlags := 1, nameIndex := 5, descriptorIndex := 6, attributes := #[] }] 33 0 #[] #[])
  fields := #[]
  methods := #[k0m0]
  instanceTypes := #[]
  staticTypes := #[]
  resolved := Array.replicate 124 none
  statics := none }

def pool1 : Array CpInfo := pool [(2, .class_ 4), (1, u "java/lang/Object"), (0, u "<init>"), (0, u "()V"), (0, .class_ 8), (0, u "java/lang/String"), (0, .methodref 7 10), (0, .nameAndType 5 11), (0, u "([C)V"), (0, .class_ 13), (0, u "com/example/lean_lock/leanlock/LockUnavailableException"), (0, .methodref 12 15), (0, .nameAndType 5 16), (0, u "(Ljava/lang/String;)V"), (0, .methodref 12 18), (0, .nameAndType 5 19), (0, u "(Ljava/lang/String;Ljava/lang/Throwable;)V"), (0, .methodref 21 22), (0, .class_ 23), (0, .nameAndType 24 25), (0, u "com/example/lean_lock/leanlock/Attempt"), (0, u "unanswered"), (0, u "(Lcom/example/lean_lock/leanlock/LockUnavailableException;)Lcom/example/lean_lock/leanlock/Attempt;"), (0, .methodref 21 27), (0, .nameAndType 24 28), (0, u "()Ljava/util/Optional;"), (0, .methodref 21 30), (0, .nameAndType 31 28), (0, u "handle"), (0, .methodref 21 33), (0, .nameAndType 34 28), (0, u "expiresIn"), (0, .methodref 36 37), (0, .class_ 38), (0, .nameAndType 39 40), (0, u "java/util/Optional"), (0, u "isPresent"), (0, u "()Z"), (0, .methodref 36 42), (0, .nameAndType 43 44), (0, u "get"), (0, u "()Ljava/lang/Object;"), (0, .methodref 21 46), (0, .nameAndType 47 40), (0, u "isSplit"), (0, .class_ 49), (0, u "com/example/lean_lock/leanlock/AttemptUnansweredPinLaw"), (2, u "law"), (0, u "(III)Z")] 5

def k1m0 : Method := { name := "<init>", desc := "()V", sig := { parameters := [], returnType := none }, accessFlags := 1, code := none }
def k1c1 : Code := { maxStack := 4, maxLocals := 14, code := code, exceptionTable := #[], attributes := #[] }
def k1m1 : Method := { name := "law", desc := "(III)Z", sig := { parameters := [.int, .int, .int], returnType := some .boolean }, accessFlags := 9, code := some k1c1 }
/-- com/example/lean_lock/leanlock/AttemptUnansweredPinLaw -/
def k1 : Class := { plain "com/example/lean_lock/leanlock/AttemptUnansweredPinLaw" (some 0) with
  accessFlags := 49
  interfaces := #[]
  cf := some (fileOf pool1 48 #[] #[{ accessFlags := 1, nameIndex := 5, descriptorIndex := 6, attributes := #[] }, { accessFlags := 9, nameIndex := 52, descriptorIndex := 53, attributes := #[] }] 49 2 #[] #[])
  fields := #[]
  methods := #[k1m0, k1m1]
  instanceTypes := #[]
  staticTypes := #[]
  resolved := Array.replicate 59 none
  statics := none }

def pool2 : Array CpInfo := pool [(1, .class_ 2), (0, u "java/io/Serializable"), (0, .class_ 4), (0, u "java/lang/Object")] 2

/-- java/io/Serializable -/
def k2 : Class := { plain "java/io/Serializable" (some 0) with
  accessFlags := 1537
  interfaces := #[]
  cf := some (fileOf pool2 1 #[] #[] 1537 3 #[] #[])
  fields := #[]
  methods := #[]
  instanceTypes := #[]
  staticTypes := #[]
  resolved := Array.replicate 7 none
  statics := none }

def pool3 : Array CpInfo := pool [(1, .class_ 2), (0, u "java/lang/Comparable"), (0, .class_ 4), (0, u "java/lang/Object")] 7

/-- java/lang/Comparable -/
def k3 : Class := { plain "java/lang/Comparable" (some 0) with
  accessFlags := 1537
  interfaces := #[]
  cf := some (fileOf pool3 1 #[] #[] 1537 3 #[] #[])
  fields := #[]
  methods := #[]
  instanceTypes := #[]
  staticTypes := #[]
  resolved := Array.replicate 12 none
  statics := none }

def pool4 : Array CpInfo := pool [(2, .class_ 4), (1, u "java/lang/CharSequence"), (42, .class_ 48), (0, u "java/lang/CharSequence$1CodePointIterator"), (10, .class_ 60), (0, u "java/lang/CharSequence$1CharIterator"), (5, .class_ 67), (0, u "java/lang/Object")] 63

/-- java/lang/CharSequence -/
def k4 : Class := { plain "java/lang/CharSequence" (some 0) with
  accessFlags := 1537
  interfaces := #[]
  cf := some (fileOf pool4 2 #[.nestMembers #[47, 59]] #[] 1537 66 #[] #[])
  fields := #[]
  methods := #[]
  instanceTypes := #[]
  staticTypes := #[]
  resolved := Array.replicate 131 none
  statics := none }

def pool5 : Array CpInfo := pool [(1, .class_ 2), (0, u "java/lang/constant/Constable"), (0, .class_ 4), (0, u "java/lang/Object")] 6

/-- java/lang/constant/Constable -/
def k5 : Class := { plain "java/lang/constant/Constable" (some 0) with
  accessFlags := 1537
  interfaces := #[]
  cf := some (fileOf pool5 1 #[] #[] 1537 3 #[] #[])
  fields := #[]
  methods := #[]
  instanceTypes := #[]
  staticTypes := #[]
  resolved := Array.replicate 11 none
  statics := none }

def pool6 : Array CpInfo := pool [(1, .class_ 2), (0, u "java/lang/constant/ConstantDesc"), (0, .class_ 4), (0, u "java/lang/Object")] 32

/-- java/lang/constant/ConstantDesc -/
def k6 : Class := { plain "java/lang/constant/ConstantDesc" (some 0) with
  accessFlags := 1537
  interfaces := #[]
  cf := some (fileOf pool6 1 #[] #[] 1537 3 #[] #[])
  fields := #[]
  methods := #[]
  instanceTypes := #[]
  staticTypes := #[]
  resolved := Array.replicate 37 none
  statics := none }

def pool7 : Array CpInfo := pool [(1, .methodref 2 3), (0, .class_ 4), (0, .nameAndType 5 6), (0, u "java/lang/Object"), (0, u "<init>"), (0, u "()V"), (2, .fieldref 10 11), (0, .class_ 12), (0, .nameAndType 13 14), (0, u "java/lang/String"), (0, u "value"), (0, u "[B"), (0, .fieldref 10 16), (0, .nameAndType 17 18), (0, u "coder"), (0, u "B"), (2, u "hash"), (0, u "I"), (2, u "hashIsZero"), (0, u "Z"), (0, .methodref 10 28), (0, .nameAndType 5 29), (0, u "([CIILjava/lang/Void;)V"), (8, .fieldref 10 39), (0, .nameAndType 40 26), (0, u "COMPACT_STRINGS"), (1, .class_ 44), (1, u "java/lang/StringUTF16"), (0, u "compress"), (1, .methodref 42 48), (0, .nameAndType 49 50), (0, u "coderFromArrayLen"), (0, u "([BI)B"), (126, .methodref 42 178), (0, .nameAndType 45 179), (0, u "([CII)[B"), (395, .class_ 576), (0, u "java/lang/CharSequence"), (22, u "CASE_INSENSITIVE_ORDER"), (0, u "Ljava/util/Comparator;"), (409, u "([C)V"), (90, u "serialPersistentFields"), (0, u "[Ljava/io/ObjectStreamField;"), (0, .class_ 1104), (0, u "java/lang/String$CaseInsensitiveComparator"), (1, .class_ 1107), (0, u "java/io/Serializable"), (0, .class_ 1109), (0, u "java/lang/Comparable"), (0, .class_ 1111), (0, u "java/lang/constant/Constable"), (0, .class_ 1113), (0, u "java/lang/constant/ConstantDesc"), (2, u "serialVersionUID"), (0, u "J"), (3, u "REPL"), (0, u "C"), (2, u "LATIN1"), (1, u "UTF16")] 323

def k7m0 : Method := { name := "<init>", desc := "()V", sig := { parameters := [], returnType := none }, accessFlags := 1, code := none }
def k7c1 : Code := { maxStack := 5, maxLocals := 2, code := jdk_42_method_3_code, exceptionTable := #[], attributes := #[] }
def k7m1 : Method := { name := "<init>", desc := "([C)V", sig := { parameters := [(.array .char)], returnType := none }, accessFlags := 1, code := some k7c1 }
def k7c2 : Code := { maxStack := 4, maxLocals := 6, code := jdk_42_method_149_code, exceptionTable := #[], attributes := #[] }
def k7m2 : Method := { name := "<init>", desc := "([CIILjava/lang/Void;)V", sig := { parameters := [(.array .char), .int, .int, (.object "java/lang/Void")], returnType := none }, accessFlags := 2, code := some k7c2 }
/-- java/lang/String -/
def k7 : Class := { plain "java/lang/String" (some 0) with
  accessFlags := 49
  interfaces := #[2, 3, 4, 5, 6]
  cf := some (fileOf pool7 10 #[.nestMembers #[1103]] #[{ accessFlags := 1, nameIndex := 5, descriptorIndex := 6, attributes := #[] }, { accessFlags := 1, nameIndex := 5, descriptorIndex := 1010, attributes := #[] }, { accessFlags := 2, nameIndex := 5, descriptorIndex := 29, attributes := #[] }] 49 2 #[1106, 1108, 575, 1110, 1112] #[{ accessFlags := 18, nameIndex := 13, descriptorIndex := 14, attributes := #[] }, { accessFlags := 18, nameIndex := 17, descriptorIndex := 18, attributes := #[] }, { accessFlags := 2, nameIndex := 21, descriptorIndex := 22, attributes := #[] }, { accessFlags := 2, nameIndex := 25, descriptorIndex := 26, attributes := #[] }, { accessFlags := 26, nameIndex := 1116, descriptorIndex := 1117, attributes := #[] }, { accessFlags := 24, nameIndex := 40, descriptorIndex := 26, attributes := #[] }, { accessFlags := 26, nameIndex := 1101, descriptorIndex := 1102, attributes := #[] }, { accessFlags := 26, nameIndex := 1121, descriptorIndex := 1122, attributes := #[] }, { accessFlags := 25, nameIndex := 599, descriptorIndex := 600, attributes := #[] }, { accessFlags := 24, nameIndex := 1125, descriptorIndex := 18, attributes := #[] }, { accessFlags := 24, nameIndex := 1127, descriptorIndex := 18, attributes := #[] }])
  fields := #[{ name := "value", type := (.array .byte), accessFlags := 18, slot := 0, constantValue := 0 }, { name := "coder", type := .byte, accessFlags := 18, slot := 1, constantValue := 0 }, { name := "hash", type := .int, accessFlags := 2, slot := 2, constantValue := 0 }, { name := "hashIsZero", type := .boolean, accessFlags := 2, slot := 3, constantValue := 0 }, { name := "serialVersionUID", type := .long, accessFlags := 26, slot := 0, constantValue := 0 }, { name := "COMPACT_STRINGS", type := .boolean, accessFlags := 24, slot := 1, constantValue := 0 }, { name := "serialPersistentFields", type := (.array (.object "java/io/ObjectStreamField")), accessFlags := 26, slot := 2, constantValue := 0 }, { name := "REPL", type := .char, accessFlags := 26, slot := 3, constantValue := 0 }, { name := "CASE_INSENSITIVE_ORDER", type := (.object "java/util/Comparator"), accessFlags := 25, slot := 4, constantValue := 0 }, { name := "LATIN1", type := .byte, accessFlags := 24, slot := 5, constantValue := 0 }, { name := "UTF16", type := .byte, accessFlags := 24, slot := 6, constantValue := 0 }]
  methods := #[k7m0, k7m1, k7m2]
  instanceTypes := #[(.array .byte), .byte, .int, .boolean]
  staticTypes := #[.long, .boolean, (.array (.object "java/io/ObjectStreamField")), .char, (.object "java/util/Comparator"), .byte, .byte]
  resolved := Array.replicate 1451 none
  statics := some 0 }

def pool8 : Array CpInfo := pool [(6, .class_ 8), (1, u "java/lang/Object"), (0, u "<init>"), (0, u "()V"), (1, .class_ 14), (1, u "java/lang/StringUTF16"), (31, u "$assertionsDisabled"), (0, u "Z"), (13, u "HI_BYTE_SHIFT"), (0, u "I"), (2, u "LO_BYTE_SHIFT"), (49, .methodref 12 116), (0, .nameAndType 117 118), (0, u "compress"), (0, u "([CI[BII)I"), (3, u "([CII)[B"), (138, u "coderFromArrayLen"), (0, u "([BI)B"), (106, .class_ 371), (1, u "java/lang/StringUTF16$LinesSpliterator"), (58, u "MAX_LENGTH"), (196, .class_ 628), (0, u "java/lang/StringUTF16$CodePointsSpliterator"), (0, .class_ 630), (0, u "java/lang/StringUTF16$CharsSpliterator")] 4

def k8m0 : Method := { name := "<init>", desc := "()V", sig := { parameters := [], returnType := none }, accessFlags := 0, code := none }
def k8c1 : Code := { maxStack := 2, maxLocals := 2, code := jdk_52_method_15_code, exceptionTable := #[], attributes := #[] }
def k8m1 : Method := { name := "coderFromArrayLen", desc := "([BI)B", sig := { parameters := [(.array .byte), .int], returnType := some .byte }, accessFlags := 8, code := some k8c1 }
def k8c2 : Code := { maxStack := 5, maxLocals := 6, code := jdk_52_method_16_code, exceptionTable := #[], attributes := #[] }
def k8m2 : Method := { name := "compress", desc := "([CII)[B", sig := { parameters := [(.array .char), .int, .int], returnType := some (.array .byte) }, accessFlags := 9, code := some k8c2 }
def k8c3 : Code := { maxStack := 3, maxLocals := 7, code := jdk_52_method_21_code, exceptionTable := #[], attributes := #[] }
def k8m3 : Method := { name := "compress", desc := "([CI[BII)I", sig := { parameters := [(.array .char), .int, (.array .byte), .int, .int], returnType := some .int }, accessFlags := 9, code := some k8c3 }
/-- java/lang/StringUTF16 -/
def k8 : Class := { plain "java/lang/StringUTF16" (some 0) with
  accessFlags := 48
  interfaces := #[]
  cf := some (fileOf pool8 12 #[.nestMembers #[627, 629, 369]] #[{ accessFlags := 0, nameIndex := 9, descriptorIndex := 10, attributes := #[] }, { accessFlags := 8, nameIndex := 261, descriptorIndex := 262, attributes := #[] }, { accessFlags := 9, nameIndex := 117, descriptorIndex := 122, attributes := #[] }, { accessFlags := 9, nameIndex := 117, descriptorIndex := 118, attributes := #[] }] 48 6 #[] #[{ accessFlags := 26, nameIndex := 61, descriptorIndex := 62, attributes := #[] }, { accessFlags := 26, nameIndex := 65, descriptorIndex := 62, attributes := #[] }, { accessFlags := 24, nameIndex := 430, descriptorIndex := 62, attributes := #[] }, { accessFlags := 4120, nameIndex := 46, descriptorIndex := 47, attributes := #[] }])
  fields := #[{ name := "HI_BYTE_SHIFT", type := .int, accessFlags := 26, slot := 0, constantValue := 0 }, { name := "LO_BYTE_SHIFT", type := .int, accessFlags := 26, slot := 1, constantValue := 0 }, { name := "MAX_LENGTH", type := .int, accessFlags := 24, slot := 2, constantValue := 0 }, { name := "$assertionsDisabled", type := .boolean, accessFlags := 4120, slot := 3, constantValue := 0 }]
  methods := #[k8m0, k8m1, k8m2, k8m3]
  instanceTypes := #[]
  staticTypes := #[.int, .int, .int, .boolean]
  resolved := Array.replicate 635 none
  statics := none }

def pool9 : Array CpInfo := pool [(1, .methodref 2 3), (0, .class_ 4), (0, .nameAndType 5 6), (0, u "java/lang/Object"), (0, u "<init>"), (0, u "()V"), (0, .fieldref 8 9), (0, .class_ 10), (0, .nameAndType 11 12), (0, u "java/lang/Throwable"), (0, u "cause"), (0, u "Ljava/lang/Throwable;"), (0, .fieldref 8 14), (0, .nameAndType 15 16), (0, u "UNASSIGNED_STACK"), (0, u "[Ljava/lang/StackTraceElement;"), (0, .fieldref 8 18), (0, .nameAndType 19 16), (0, u "stackTrace"), (0, .fieldref 8 21), (0, .nameAndType 22 23), (0, u "SUPPRESSED_SENTINEL"), (0, u "Ljava/util/List;"), (0, .fieldref 8 25), (0, .nameAndType 26 23), (0, u "suppressedExceptions"), (0, .methodref 8 28), (0, .nameAndType 29 30), (0, u "fillInStackTrace"), (0, u "()Ljava/lang/Throwable;"), (0, .fieldref 8 32), (0, .nameAndType 33 34), (0, u "detailMessage"), (0, u "Ljava/lang/String;"), (28, u "(Ljava/lang/String;Ljava/lang/Throwable;)V"), (29, .class_ 94), (0, u "java/lang/Throwable$WrappedPrintStream"), (6, .class_ 103), (1, u "java/lang/Throwable$PrintStreamOrWriter"), (61, u "$assertionsDisabled"), (0, u "Z"), (26, .class_ 194), (0, u "java/lang/Throwable$WrappedPrintWriter"), (3, .fieldref 8 199), (0, .nameAndType 200 201), (0, u "backtrace"), (0, u "Ljava/lang/Object;"), (0, .methodref 8 203), (0, .nameAndType 29 204), (0, u "(I)Ljava/lang/Throwable;"), (6, u "depth"), (0, u "I"), (10, u "(Ljava/lang/String;)V"), (45, .class_ 271), (1, u "java/lang/Throwable$SentinelHolder"), (32, u "EMPTY_THROWABLE_ARRAY"), (0, u "[Ljava/lang/Throwable;"), (12, .class_ 319), (0, u "java/io/Serializable"), (0, u "serialVersionUID"), (0, u "J"), (5, u "NULL_CAUSE_MESSAGE"), (0, u "SELF_SUPPRESSION_MESSAGE"), (0, u "CAUSE_CAPTION"), (0, u "SUPPRESSED_CAPTION")] 73

def k9c0 : Code := { maxStack := 2, maxLocals := 1, code := jdk_78_method_1_code, exceptionTable := #[], attributes := #[] }
def k9m0 : Method := { name := "<init>", desc := "()V", sig := { parameters := [], returnType := none }, accessFlags := 1, code := some k9c0 }
def k9c1 : Code := { maxStack := 2, maxLocals := 2, code := jdk_78_method_2_code, exceptionTable := #[], attributes := #[] }
def k9m1 : Method := { name := "<init>", desc := "(Ljava/lang/String;)V", sig := { parameters := [(.object "java/lang/String")], returnType := none }, accessFlags := 1, code := some k9c1 }
def k9c2 : Code := { maxStack := 2, maxLocals := 3, code := jdk_78_method_3_code, exceptionTable := #[], attributes := #[] }
def k9m2 : Method := { name := "<init>", desc := "(Ljava/lang/String;Ljava/lang/Throwable;)V", sig := { parameters := [(.object "java/lang/String"), (.object "java/lang/Throwable")], returnType := none }, accessFlags := 1, code := some k9c2 }
def k9c3 : Code := { maxStack := 2, maxLocals := 1, code := jdk_78_method_18_code, exceptionTable := #[], attributes := #[] }
def k9m3 : Method := { name := "fillInStackTrace", desc := "()Ljava/lang/Throwable;", sig := { parameters := [], returnType := some (.object "java/lang/Throwable") }, accessFlags := 33, code := some k9c3 }
def k9m4 : Method := { name := "fillInStackTrace", desc := "(I)Ljava/lang/Throwable;", sig := { parameters := [.int], returnType := some (.object "java/lang/Throwable") }, accessFlags := 258, code := none }
/-- java/lang/Throwable -/
def k9 : Class := { plain "java/lang/Throwable" (some 0) with
  accessFlags := 33
  interfaces := #[2]
  cf := some (fileOf pool9 8 #[.nestMembers #[193, 93, 101, 269]] #[{ accessFlags := 1, nameIndex := 5, descriptorIndex := 6, attributes := #[] }, { accessFlags := 1, nameIndex := 5, descriptorIndex := 223, attributes := #[] }, { accessFlags := 1, nameIndex := 5, descriptorIndex := 63, attributes := #[] }, { accessFlags := 33, nameIndex := 29, descriptorIndex := 30, attributes := #[] }, { accessFlags := 258, nameIndex := 29, descriptorIndex := 204, attributes := #[] }] 33 2 #[318] #[{ accessFlags := 26, nameIndex := 320, descriptorIndex := 321, attributes := #[] }, { accessFlags := 130, nameIndex := 200, descriptorIndex := 201, attributes := #[] }, { accessFlags := 2, nameIndex := 33, descriptorIndex := 34, attributes := #[] }, { accessFlags := 26, nameIndex := 15, descriptorIndex := 16, attributes := #[] }, { accessFlags := 2, nameIndex := 11, descriptorIndex := 12, attributes := #[] }, { accessFlags := 2, nameIndex := 19, descriptorIndex := 16, attributes := #[] }, { accessFlags := 130, nameIndex := 211, descriptorIndex := 212, attributes := #[] }, { accessFlags := 26, nameIndex := 22, descriptorIndex := 23, attributes := #[] }, { accessFlags := 2, nameIndex := 26, descriptorIndex := 23, attributes := #[] }, { accessFlags := 26, nameIndex := 327, descriptorIndex := 34, attributes := #[] }, { accessFlags := 26, nameIndex := 328, descriptorIndex := 34, attributes := #[] }, { accessFlags := 26, nameIndex := 329, descriptorIndex := 34, attributes := #[] }, { accessFlags := 26, nameIndex := 330, descriptorIndex := 34, attributes := #[] }, { accessFlags := 26, nameIndex := 304, descriptorIndex := 305, attributes := #[] }, { accessFlags := 4120, nameIndex := 165, descriptorIndex := 166, attributes := #[] }])
  fields := #[{ name := "serialVersionUID", type := .long, accessFlags := 26, slot := 0, constantValue := 0 }, { name := "backtrace", type := (.object "java/lang/Object"), accessFlags := 130, slot := 0, constantValue := 0 }, { name := "detailMessage", type := (.object "java/lang/String"), accessFlags := 2, slot := 1, constantValue := 0 }, { name := "UNASSIGNED_STACK", type := (.array (.object "java/lang/StackTraceElement")), accessFlags := 26, slot := 1, constantValue := 0 }, { name := "cause", type := (.object "java/lang/Throwable"), accessFlags := 2, slot := 2, constantValue := 0 }, { name := "stackTrace", type := (.array (.object "java/lang/StackTraceElement")), accessFlags := 2, slot := 3, constantValue := 0 }, { name := "depth", type := .int, accessFlags := 130, slot := 4, constantValue := 0 }, { name := "SUPPRESSED_SENTINEL", type := (.object "java/util/List"), accessFlags := 26, slot := 2, constantValue := 0 }, { name := "suppressedExceptions", type := (.object "java/util/List"), accessFlags := 2, slot := 5, constantValue := 0 }, { name := "NULL_CAUSE_MESSAGE", type := (.object "java/lang/String"), accessFlags := 26, slot := 3, constantValue := 0 }, { name := "SELF_SUPPRESSION_MESSAGE", type := (.object "java/lang/String"), accessFlags := 26, slot := 4, constantValue := 0 }, { name := "CAUSE_CAPTION", type := (.object "java/lang/String"), accessFlags := 26, slot := 5, constantValue := 0 }, { name := "SUPPRESSED_CAPTION", type := (.object "java/lang/String"), accessFlags := 26, slot := 6, constantValue := 0 }, { name := "EMPTY_THROWABLE_ARRAY", type := (.array (.object "java/lang/Throwable")), accessFlags := 26, slot := 7, constantValue := 0 }, { name := "$assertionsDisabled", type := .boolean, accessFlags := 4120, slot := 8, constantValue := 0 }]
  methods := #[k9m0, k9m1, k9m2, k9m3, k9m4]
  instanceTypes := #[(.object "java/lang/Object"), (.object "java/lang/String"), (.object "java/lang/Throwable"), (.array (.object "java/lang/StackTraceElement")), .int, (.object "java/util/List")]
  staticTypes := #[.long, (.array (.object "java/lang/StackTraceElement")), (.object "java/util/List"), (.object "java/lang/String"), (.object "java/lang/String"), (.object "java/lang/String"), (.object "java/lang/String"), (.array (.object "java/lang/Throwable")), .boolean]
  resolved := Array.replicate 404 none
  statics := some 1 }

def pool10 : Array CpInfo := pool [(2, .class_ 4), (1, u "java/lang/Throwable"), (0, u "<init>"), (0, u "()V"), (0, .methodref 2 8), (0, .nameAndType 5 9), (0, u "(Ljava/lang/String;)V"), (0, .methodref 2 11), (0, .nameAndType 5 12), (0, u "(Ljava/lang/String;Ljava/lang/Throwable;)V"), (6, .class_ 20), (0, u "java/lang/Exception"), (0, u "serialVersionUID"), (0, u "J")] 17

def k10m0 : Method := { name := "<init>", desc := "()V", sig := { parameters := [], returnType := none }, accessFlags := 1, code := none }
def k10c1 : Code := { maxStack := 2, maxLocals := 2, code := jdk_59_method_2_code, exceptionTable := #[], attributes := #[] }
def k10m1 : Method := { name := "<init>", desc := "(Ljava/lang/String;)V", sig := { parameters := [(.object "java/lang/String")], returnType := none }, accessFlags := 1, code := some k10c1 }
def k10c2 : Code := { maxStack := 3, maxLocals := 3, code := jdk_59_method_3_code, exceptionTable := #[], attributes := #[] }
def k10m2 : Method := { name := "<init>", desc := "(Ljava/lang/String;Ljava/lang/Throwable;)V", sig := { parameters := [(.object "java/lang/String"), (.object "java/lang/Throwable")], returnType := none }, accessFlags := 1, code := some k10c2 }
/-- java/lang/Exception -/
def k10 : Class := { plain "java/lang/Exception" (some 9) with
  accessFlags := 33
  interfaces := #[]
  cf := some (fileOf pool10 19 #[] #[{ accessFlags := 1, nameIndex := 5, descriptorIndex := 6, attributes := #[] }, { accessFlags := 1, nameIndex := 5, descriptorIndex := 9, attributes := #[] }, { accessFlags := 1, nameIndex := 5, descriptorIndex := 12, attributes := #[] }] 33 2 #[] #[{ accessFlags := 24, nameIndex := 21, descriptorIndex := 22, attributes := #[] }])
  fields := #[{ name := "serialVersionUID", type := .long, accessFlags := 24, slot := 0, constantValue := 0 }]
  methods := #[k10m0, k10m1, k10m2]
  instanceTypes := #[(.object "java/lang/Object"), (.object "java/lang/String"), (.object "java/lang/Throwable"), (.array (.object "java/lang/StackTraceElement")), .int, (.object "java/util/List")]
  staticTypes := #[.long]
  resolved := Array.replicate 40 none
  statics := none }

def pool11 : Array CpInfo := pool [(2, .class_ 4), (1, u "java/lang/Exception"), (0, u "<init>"), (0, u "()V"), (0, .methodref 2 8), (0, .nameAndType 5 9), (0, u "(Ljava/lang/String;)V"), (0, .methodref 2 11), (0, .nameAndType 5 12), (0, u "(Ljava/lang/String;Ljava/lang/Throwable;)V"), (6, .class_ 20), (0, u "java/lang/RuntimeException"), (0, u "serialVersionUID"), (0, u "J")] 17

def k11m0 : Method := { name := "<init>", desc := "()V", sig := { parameters := [], returnType := none }, accessFlags := 1, code := none }
def k11c1 : Code := { maxStack := 2, maxLocals := 2, code := jdk_58_method_2_code, exceptionTable := #[], attributes := #[] }
def k11m1 : Method := { name := "<init>", desc := "(Ljava/lang/String;)V", sig := { parameters := [(.object "java/lang/String")], returnType := none }, accessFlags := 1, code := some k11c1 }
def k11c2 : Code := { maxStack := 3, maxLocals := 3, code := jdk_58_method_3_code, exceptionTable := #[], attributes := #[] }
def k11m2 : Method := { name := "<init>", desc := "(Ljava/lang/String;Ljava/lang/Throwable;)V", sig := { parameters := [(.object "java/lang/String"), (.object "java/lang/Throwable")], returnType := none }, accessFlags := 1, code := some k11c2 }
/-- java/lang/RuntimeException -/
def k11 : Class := { plain "java/lang/RuntimeException" (some 10) with
  accessFlags := 33
  interfaces := #[]
  cf := some (fileOf pool11 19 #[] #[{ accessFlags := 1, nameIndex := 5, descriptorIndex := 6, attributes := #[] }, { accessFlags := 1, nameIndex := 5, descriptorIndex := 9, attributes := #[] }, { accessFlags := 1, nameIndex := 5, descriptorIndex := 12, attributes := #[] }] 33 2 #[] #[{ accessFlags := 24, nameIndex := 21, descriptorIndex := 22, attributes := #[] }])
  fields := #[{ name := "serialVersionUID", type := .long, accessFlags := 24, slot := 0, constantValue := 0 }]
  methods := #[k11m0, k11m1, k11m2]
  instanceTypes := #[(.object "java/lang/Object"), (.object "java/lang/String"), (.object "java/lang/Throwable"), (.array (.object "java/lang/StackTraceElement")), .int, (.object "java/util/List")]
  staticTypes := #[.long]
  resolved := Array.replicate 40 none
  statics := none }

def pool12 : Array CpInfo := pool [(1, .methodref 2 3), (0, .class_ 4), (0, .nameAndType 5 6), (0, u "java/lang/RuntimeException"), (0, u "<init>"), (0, u "(Ljava/lang/String;)V"), (0, .methodref 2 8), (0, .nameAndType 5 9), (0, u "(Ljava/lang/String;Ljava/lang/Throwable;)V"), (0, .class_ 11), (0, u "com/example/lean_lock/leanlock/LockUnavailableException"), (0, u "serialVersionUID"), (0, u "J")] 7

def k12c0 : Code := { maxStack := 2, maxLocals := 2, code := prog_18_method_1_code, exceptionTable := #[], attributes := #[] }
def k12m0 : Method := { name := "<init>", desc := "(Ljava/lang/String;)V", sig := { parameters := [(.object "java/lang/String")], returnType := none }, accessFlags := 1, code := some k12c0 }
def k12c1 : Code := { maxStack := 3, maxLocals := 3, code := prog_18_method_2_code, exceptionTable := #[], attributes := #[] }
def k12m1 : Method := { name := "<init>", desc := "(Ljava/lang/String;Ljava/lang/Throwable;)V", sig := { parameters := [(.object "java/lang/String"), (.object "java/lang/Throwable")], returnType := none }, accessFlags := 1, code := some k12c1 }
/-- com/example/lean_lock/leanlock/LockUnavailableException -/
def k12 : Class := { plain "com/example/lean_lock/leanlock/LockUnavailableException" (some 11) with
  accessFlags := 33
  interfaces := #[]
  cf := some (fileOf pool12 10 #[] #[{ accessFlags := 1, nameIndex := 5, descriptorIndex := 6, attributes := #[] }, { accessFlags := 1, nameIndex := 5, descriptorIndex := 9, attributes := #[] }] 33 2 #[] #[{ accessFlags := 26, nameIndex := 12, descriptorIndex := 13, attributes := #[] }])
  fields := #[{ name := "serialVersionUID", type := .long, accessFlags := 26, slot := 0, constantValue := 0 }]
  methods := #[k12m0, k12m1]
  instanceTypes := #[(.object "java/lang/Object"), (.object "java/lang/String"), (.object "java/lang/Throwable"), (.array (.object "java/lang/StackTraceElement")), .int, (.object "java/util/List")]
  staticTypes := #[.long]
  resolved := Array.replicate 21 none
  statics := none }

def pool13 : Array CpInfo := pool [(1, .methodref 2 3), (0, .class_ 4), (0, .nameAndType 5 6), (0, u "java/lang/Object"), (0, u "<init>"), (0, u "()V"), (0, .fieldref 8 9), (0, .class_ 10), (0, .nameAndType 11 12), (0, u "com/example/lean_lock/leanlock/Attempt"), (0, u "handle"), (0, u "Lcom/example/lean_lock/leanlock/LockHandle;"), (0, .fieldref 8 14), (0, .nameAndType 15 16), (0, u "expiresIn"), (0, u "Ljava/time/Duration;"), (0, .fieldref 8 18), (0, .nameAndType 19 20), (0, u "split"), (0, u "Z"), (0, .fieldref 8 22), (0, .nameAndType 23 24), (0, u "unanswered"), (0, u "Lcom/example/lean_lock/leanlock/LockUnavailableException;"), (1, .methodref 27 28), (0, .class_ 29), (0, .nameAndType 30 31), (0, u "java/util/Objects"), (0, u "requireNonNull"), (0, u "(Ljava/lang/Object;Ljava/lang/String;)Ljava/lang/Object;"), (2, .methodref 8 35), (0, .nameAndType 5 36), (0, u "(Lcom/example/lean_lock/leanlock/LockHandle;Ljava/time/Duration;ZLcom/example/lean_lock/leanlock/LockUnavailableException;)V"), (6, u "()Z"), (17, u "HELD"), (0, u "Lcom/example/lean_lock/leanlock/Attempt;"), (2, u "SPLIT"), (0, .string 23), (0, .class_ 68), (0, u "com/example/lean_lock/leanlock/LockUnavailableException"), (0, .methodref 70 71), (0, .class_ 72), (0, .nameAndType 73 74), (0, u "java/util/Optional"), (0, u "ofNullable"), (0, u "(Ljava/lang/Object;)Ljava/util/Optional;"), (8, u "(Lcom/example/lean_lock/leanlock/LockUnavailableException;)Lcom/example/lean_lock/leanlock/Attempt;"), (0, u "()Ljava/util/Optional;"), (3, u "isSplit")] 19

def k13c0 : Code := { maxStack := 2, maxLocals := 5, code := prog_1_method_1_code, exceptionTable := #[], attributes := #[] }
def k13m0 : Method := { name := "<init>", desc := "(Lcom/example/lean_lock/leanlock/LockHandle;Ljava/time/Duration;ZLcom/example/lean_lock/leanlock/LockUnavailableException;)V", sig := { parameters := [(.object "com/example/lean_lock/leanlock/LockHandle"), (.object "java/time/Duration"), .boolean, (.object "com/example/lean_lock/leanlock/LockUnavailableException")], returnType := none }, accessFlags := 2, code := some k13c0 }
def k13c1 : Code := { maxStack := 7, maxLocals := 1, code := prog_1_method_6_code, exceptionTable := #[], attributes := #[] }
def k13m1 : Method := { name := "unanswered", desc := "(Lcom/example/lean_lock/leanlock/LockUnavailableException;)Lcom/example/lean_lock/leanlock/Attempt;", sig := { parameters := [(.object "com/example/lean_lock/leanlock/LockUnavailableException")], returnType := some (.object "com/example/lean_lock/leanlock/Attempt") }, accessFlags := 8, code := some k13c1 }
def k13c2 : Code := { maxStack := 1, maxLocals := 1, code := prog_1_method_7_code, exceptionTable := #[], attributes := #[] }
def k13m2 : Method := { name := "handle", desc := "()Ljava/util/Optional;", sig := { parameters := [], returnType := some (.object "java/util/Optional") }, accessFlags := 1, code := some k13c2 }
def k13c3 : Code := { maxStack := 1, maxLocals := 1, code := prog_1_method_8_code, exceptionTable := #[], attributes := #[] }
def k13m3 : Method := { name := "expiresIn", desc := "()Ljava/util/Optional;", sig := { parameters := [], returnType := some (.object "java/util/Optional") }, accessFlags := 0, code := some k13c3 }
def k13c4 : Code := { maxStack := 1, maxLocals := 1, code := prog_1_method_9_code, exceptionTable := #[], attributes := #[] }
def k13m4 : Method := { name := "isSplit", desc := "()Z", sig := { parameters := [], returnType := some .boolean }, accessFlags := 0, code := some k13c4 }
def k13c5 : Code := { maxStack := 1, maxLocals := 1, code := prog_1_method_10_code, exceptionTable := #[], attributes := #[] }
def k13m5 : Method := { name := "unanswered", desc := "()Ljava/util/Optional;", sig := { parameters := [], returnType := some (.object "java/util/Optional") }, accessFlags := 0, code := some k13c5 }
/-- com/example/lean_lock/leanlock/Attempt -/
def k13 : Class := { plain "com/example/lean_lock/leanlock/Attempt" (some 0) with
  accessFlags := 49
  interfaces := #[]
  cf := some (fileOf pool13 8 #[] #[{ accessFlags := 2, nameIndex := 5, descriptorIndex := 36, attributes := #[] }, { accessFlags := 8, nameIndex := 23, descriptorIndex := 83, attributes := #[] }, { accessFlags := 1, nameIndex := 11, descriptorIndex := 84, attributes := #[] }, { accessFlags := 0, nameIndex := 15, descriptorIndex := 84, attributes := #[] }, { accessFlags := 0, nameIndex := 88, descriptorIndex := 43, attributes := #[] }, { accessFlags := 0, nameIndex := 23, descriptorIndex := 84, attributes := #[] }] 49 2 #[] #[{ accessFlags := 26, nameIndex := 65, descriptorIndex := 62, attributes := #[] }, { accessFlags := 26, nameIndex := 61, descriptorIndex := 62, attributes := #[] }, { accessFlags := 18, nameIndex := 11, descriptorIndex := 12, attributes := #[] }, { accessFlags := 18, nameIndex := 15, descriptorIndex := 16, attributes := #[] }, { accessFlags := 18, nameIndex := 19, descriptorIndex := 20, attributes := #[] }, { accessFlags := 18, nameIndex := 23, descriptorIndex := 24, attributes := #[] }])
  fields := #[{ name := "SPLIT", type := (.object "com/example/lean_lock/leanlock/Attempt"), accessFlags := 26, slot := 0, constantValue := 0 }, { name := "HELD", type := (.object "com/example/lean_lock/leanlock/Attempt"), accessFlags := 26, slot := 1, constantValue := 0 }, { name := "handle", type := (.object "com/example/lean_lock/leanlock/LockHandle"), accessFlags := 18, slot := 0, constantValue := 0 }, { name := "expiresIn", type := (.object "java/time/Duration"), accessFlags := 18, slot := 1, constantValue := 0 }, { name := "split", type := .boolean, accessFlags := 18, slot := 2, constantValue := 0 }, { name := "unanswered", type := (.object "com/example/lean_lock/leanlock/LockUnavailableException"), accessFlags := 18, slot := 3, constantValue := 0 }]
  methods := #[k13m0, k13m1, k13m2, k13m3, k13m4, k13m5]
  instanceTypes := #[(.object "com/example/lean_lock/leanlock/LockHandle"), (.object "java/time/Duration"), .boolean, (.object "com/example/lean_lock/leanlock/LockUnavailableException")]
  staticTypes := #[(.object "com/example/lean_lock/leanlock/Attempt"), (.object "com/example/lean_lock/leanlock/Attempt")]
  resolved := Array.replicate 108 none
  statics := none }

def pool14 : Array CpInfo := pool [(2, .class_ 4), (1, u "java/lang/Object"), (0, u "<init>"), (0, u "()V"), (35, .class_ 44), (1, u "java/util/Objects"), (0, u "requireNonNull"), (48, u "(Ljava/lang/Object;Ljava/lang/String;)Ljava/lang/Object;")] 89

def k14m0 : Method := { name := "<init>", desc := "()V", sig := { parameters := [], returnType := none }, accessFlags := 2, code := none }
def k14c1 : Code := { maxStack := 3, maxLocals := 2, code := jdk_31_method_11_code, exceptionTable := #[], attributes := #[] }
def k14m1 : Method := { name := "requireNonNull", desc := "(Ljava/lang/Object;Ljava/lang/String;)Ljava/lang/Object;", sig := { parameters := [(.object "java/lang/Object"), (.object "java/lang/String")], returnType := some (.object "java/lang/Object") }, accessFlags := 9, code := some k14c1 }
/-- java/util/Objects -/
def k14 : Class := { plain "java/util/Objects" (some 0) with
  accessFlags := 49
  interfaces := #[]
  cf := some (fileOf pool14 42 #[] #[{ accessFlags := 2, nameIndex := 5, descriptorIndex := 6, attributes := #[] }, { accessFlags := 9, nameIndex := 45, descriptorIndex := 94, attributes := #[] }] 49 2 #[] #[])
  fields := #[]
  methods := #[k14m0, k14m1]
  instanceTypes := #[]
  staticTypes := #[]
  resolved := Array.replicate 184 none
  statics := none }

def pool15 : Array CpInfo := pool [(1, .fieldref 2 3), (0, .class_ 4), (0, .nameAndType 5 6), (0, u "java/util/Optional"), (0, u "EMPTY"), (0, u "Ljava/util/Optional;"), (0, .methodref 8 9), (0, .class_ 10), (0, .nameAndType 11 12), (0, u "java/lang/Object"), (0, u "<init>"), (0, u "()V"), (0, .fieldref 2 14), (0, .nameAndType 15 16), (0, u "value"), (0, u "Ljava/lang/Object;"), (6, .methodref 2 24), (0, .nameAndType 11 25), (0, u "(Ljava/lang/Object;)V"), (20, u "()Z"), (17, u "ofNullable"), (0, u "(Ljava/lang/Object;)Ljava/util/Optional;"), (2, u "isPresent"), (4, u "get"), (0, u "()Ljava/lang/Object;")] 112

def k15c0 : Code := { maxStack := 2, maxLocals := 2, code := jdk_32_method_2_code, exceptionTable := #[], attributes := #[] }
def k15m0 : Method := { name := "<init>", desc := "(Ljava/lang/Object;)V", sig := { parameters := [(.object "java/lang/Object")], returnType := none }, accessFlags := 2, code := some k15c0 }
def k15c1 : Code := { maxStack := 3, maxLocals := 1, code := jdk_32_method_4_code, exceptionTable := #[], attributes := #[] }
def k15m1 : Method := { name := "ofNullable", desc := "(Ljava/lang/Object;)Ljava/util/Optional;", sig := { parameters := [(.object "java/lang/Object")], returnType := some (.object "java/util/Optional") }, accessFlags := 9, code := some k15c1 }
def k15c2 : Code := { maxStack := 3, maxLocals := 1, code := jdk_32_method_5_code, exceptionTable := #[], attributes := #[] }
def k15m2 : Method := { name := "get", desc := "()Ljava/lang/Object;", sig := { parameters := [], returnType := some (.object "java/lang/Object") }, accessFlags := 1, code := some k15c2 }
def k15c3 : Code := { maxStack := 1, maxLocals := 1, code := jdk_32_method_6_code, exceptionTable := #[], attributes := #[] }
def k15m3 : Method := { name := "isPresent", desc := "()Z", sig := { parameters := [], returnType := some .boolean }, accessFlags := 1, code := some k15c3 }
/-- java/util/Optional -/
def k15 : Class := { plain "java/util/Optional" (some 0) with
  accessFlags := 49
  interfaces := #[]
  cf := some (fileOf pool15 2 #[] #[{ accessFlags := 2, nameIndex := 11, descriptorIndex := 25, attributes := #[] }, { accessFlags := 9, nameIndex := 64, descriptorIndex := 65, attributes := #[] }, { accessFlags := 1, nameIndex := 73, descriptorIndex := 74, attributes := #[] }, { accessFlags := 1, nameIndex := 68, descriptorIndex := 46, attributes := #[] }] 49 8 #[] #[{ accessFlags := 26, nameIndex := 5, descriptorIndex := 6, attributes := #[] }, { accessFlags := 18, nameIndex := 15, descriptorIndex := 16, attributes := #[] }])
  fields := #[{ name := "EMPTY", type := (.object "java/util/Optional"), accessFlags := 26, slot := 0, constantValue := 0 }, { name := "value", type := (.object "java/lang/Object"), accessFlags := 18, slot := 0, constantValue := 0 }]
  methods := #[k15m0, k15m1, k15m2, k15m3]
  instanceTypes := #[(.object "java/lang/Object")]
  staticTypes := #[(.object "java/util/Optional")]
  resolved := Array.replicate 187 none
  statics := some 2 }

def pool16 : Array CpInfo := pool [(4, .class_ 6), (1, u "java/lang/Object"), (0, u "<init>"), (0, u "()V"), (5, .class_ 16), (1, u "java/lang/StringLatin1"), (104, u "$assertionsDisabled"), (0, u "Z"), (98, .class_ 223), (1, u "java/lang/StringLatin1$LinesSpliterator"), (166, .class_ 391), (0, u "java/lang/StringLatin1$CharsSpliterator")] 3

def k16m0 : Method := { name := "<init>", desc := "()V", sig := { parameters := [], returnType := none }, accessFlags := 0, code := none }
/-- java/lang/StringLatin1 -/
def k16 : Class := { plain "java/lang/StringLatin1" (some 0) with
  accessFlags := 48
  interfaces := #[]
  cf := some (fileOf pool16 14 #[.nestMembers #[390, 221]] #[{ accessFlags := 0, nameIndex := 7, descriptorIndex := 8, attributes := #[] }] 48 4 #[] #[{ accessFlags := 4120, nameIndex := 121, descriptorIndex := 122, attributes := #[] }])
  fields := #[{ name := "$assertionsDisabled", type := .boolean, accessFlags := 4120, slot := 0, constantValue := 0 }]
  methods := #[k16m0]
  instanceTypes := #[]
  staticTypes := #[.boolean]
  resolved := Array.replicate 395 none
  statics := none }

def pool17 : Array CpInfo := pool [(2, .class_ 4), (1, u "java/lang/Object"), (0, u "<init>"), (0, u "()V"), (17, .class_ 26), (1, u "jdk/internal/util/Preconditions"), (28, .class_ 56), (0, u "jdk/internal/util/Preconditions$4"), (57, .class_ 115), (0, u "jdk/internal/util/Preconditions$1"), (7, u "SIOOBE_FORMATTER"), (0, u "Ljava/util/function/BiFunction;"), (0, .class_ 126), (0, u "jdk/internal/util/Preconditions$2"), (3, u "AIOOBE_FORMATTER"), (0, .class_ 132), (0, u "jdk/internal/util/Preconditions$3"), (3, u "IOOBE_FORMATTER")] 57

def k17m0 : Method := { name := "<init>", desc := "()V", sig := { parameters := [], returnType := none }, accessFlags := 1, code := none }
/-- jdk/internal/util/Preconditions -/
def k17 : Class := { plain "jdk/internal/util/Preconditions" (some 0) with
  accessFlags := 33
  interfaces := #[]
  cf := some (fileOf pool17 24 #[.nestMembers #[55, 131, 125, 114]] #[{ accessFlags := 1, nameIndex := 5, descriptorIndex := 6, attributes := #[] }] 33 2 #[] #[{ accessFlags := 25, nameIndex := 123, descriptorIndex := 124, attributes := #[] }, { accessFlags := 25, nameIndex := 130, descriptorIndex := 124, attributes := #[] }, { accessFlags := 25, nameIndex := 136, descriptorIndex := 124, attributes := #[] }])
  fields := #[{ name := "SIOOBE_FORMATTER", type := (.object "java/util/function/BiFunction"), accessFlags := 25, slot := 0, constantValue := 0 }, { name := "AIOOBE_FORMATTER", type := (.object "java/util/function/BiFunction"), accessFlags := 25, slot := 1, constantValue := 0 }, { name := "IOOBE_FORMATTER", type := (.object "java/util/function/BiFunction"), accessFlags := 25, slot := 2, constantValue := 0 }]
  methods := #[k17m0]
  instanceTypes := #[]
  staticTypes := #[(.object "java/util/function/BiFunction"), (.object "java/util/function/BiFunction"), (.object "java/util/function/BiFunction")]
  resolved := Array.replicate 194 none
  statics := some 3 }

def pool18 : Array CpInfo := pool [(9, u "<init>"), (6, .class_ 18), (1, u "java/lang/Object"), (0, u "()V"), (1, .class_ 23), (1, u "jdk/internal/util/ArraysSupport"), (0, u "LOG2_ARRAY_LONG_INDEX_SCALE"), (0, u "I"), (2, u "U"), (0, u "Ljdk/internal/misc/Unsafe;"), (8, u "BIG_ENDIAN"), (0, u "Z"), (8, u "LOG2_BYTE_BIT_SIZE"), (4, u "LOG2_ARRAY_INT_INDEX_SCALE"), (54, u "JLA"), (0, u "Ljdk/internal/access/JavaLangAccess;"), (11, u "LOG2_ARRAY_BOOLEAN_INDEX_SCALE"), (9, u "LOG2_ARRAY_BYTE_INDEX_SCALE"), (5, u "LOG2_ARRAY_CHAR_INDEX_SCALE"), (5, u "LOG2_ARRAY_SHORT_INDEX_SCALE"), (18, u "LOG2_ARRAY_FLOAT_INDEX_SCALE"), (24, u "LOG2_ARRAY_DOUBLE_INDEX_SCALE"), (89, u "T_BOOLEAN"), (2, u "T_CHAR"), (1, u "T_FLOAT"), (1, u "T_DOUBLE"), (1, u "T_BYTE"), (1, u "T_SHORT"), (1, u "T_INT"), (1, u "T_LONG"), (1, u "SOFT_MAX_ARRAY_LENGTH")] 83

def k18m0 : Method := { name := "<init>", desc := "()V", sig := { parameters := [], returnType := none }, accessFlags := 2, code := none }
/-- jdk/internal/util/ArraysSupport -/
def k18 : Class := { plain "jdk/internal/util/ArraysSupport" (some 0) with
  accessFlags := 33
  interfaces := #[]
  cf := some (fileOf pool18 21 #[] #[{ accessFlags := 2, nameIndex := 9, descriptorIndex := 19, attributes := #[] }] 33 16 #[] #[{ accessFlags := 24, nameIndex := 28, descriptorIndex := 29, attributes := #[] }, { accessFlags := 26, nameIndex := 38, descriptorIndex := 39, attributes := #[] }, { accessFlags := 25, nameIndex := 121, descriptorIndex := 25, attributes := #[] }, { accessFlags := 25, nameIndex := 131, descriptorIndex := 25, attributes := #[] }, { accessFlags := 25, nameIndex := 137, descriptorIndex := 25, attributes := #[] }, { accessFlags := 25, nameIndex := 143, descriptorIndex := 25, attributes := #[] }, { accessFlags := 25, nameIndex := 53, descriptorIndex := 25, attributes := #[] }, { accessFlags := 25, nameIndex := 24, descriptorIndex := 25, attributes := #[] }, { accessFlags := 25, nameIndex := 162, descriptorIndex := 25, attributes := #[] }, { accessFlags := 25, nameIndex := 187, descriptorIndex := 25, attributes := #[] }, { accessFlags := 26, nameIndex := 48, descriptorIndex := 25, attributes := #[] }, { accessFlags := 25, nameIndex := 277, descriptorIndex := 25, attributes := #[] }, { accessFlags := 25, nameIndex := 280, descriptorIndex := 25, attributes := #[] }, { accessFlags := 25, nameIndex := 282, descriptorIndex := 25, attributes := #[] }, { accessFlags := 25, nameIndex := 284, descriptorIndex := 25, attributes := #[] }, { accessFlags := 25, nameIndex := 286, descriptorIndex := 25, attributes := #[] }, { accessFlags := 25, nameIndex := 288, descriptorIndex := 25, attributes := #[] }, { accessFlags := 25, nameIndex := 290, descriptorIndex := 25, attributes := #[] }, { accessFlags := 25, nameIndex := 292, descriptorIndex := 25, attributes := #[] }, { accessFlags := 26, nameIndex := 108, descriptorIndex := 109, attributes := #[] }, { accessFlags := 25, nameIndex := 294, descriptorIndex := 25, attributes := #[] }])
  fields := #[{ name := "U", type := (.object "jdk/internal/misc/Unsafe"), accessFlags := 24, slot := 0, constantValue := 0 }, { name := "BIG_ENDIAN", type := .boolean, accessFlags := 26, slot := 1, constantValue := 0 }, { name := "LOG2_ARRAY_BOOLEAN_INDEX_SCALE", type := .int, accessFlags := 25, slot := 2, constantValue := 0 }, { name := "LOG2_ARRAY_BYTE_INDEX_SCALE", type := .int, accessFlags := 25, slot := 3, constantValue := 0 }, { name := "LOG2_ARRAY_CHAR_INDEX_SCALE", type := .int, accessFlags := 25, slot := 4, constantValue := 0 }, { name := "LOG2_ARRAY_SHORT_INDEX_SCALE", type := .int, accessFlags := 25, slot := 5, constantValue := 0 }, { name := "LOG2_ARRAY_INT_INDEX_SCALE", type := .int, accessFlags := 25, slot := 6, constantValue := 0 }, { name := "LOG2_ARRAY_LONG_INDEX_SCALE", type := .int, accessFlags := 25, slot := 7, constantValue := 0 }, { name := "LOG2_ARRAY_FLOAT_INDEX_SCALE", type := .int, accessFlags := 25, slot := 8, constantValue := 0 }, { name := "LOG2_ARRAY_DOUBLE_INDEX_SCALE", type := .int, accessFlags := 25, slot := 9, constantValue := 0 }, { name := "LOG2_BYTE_BIT_SIZE", type := .int, accessFlags := 26, slot := 10, constantValue := 0 }, { name := "T_BOOLEAN", type := .int, accessFlags := 25, slot := 11, constantValue := 0 }, { name := "T_CHAR", type := .int, accessFlags := 25, slot := 12, constantValue := 0 }, { name := "T_FLOAT", type := .int, accessFlags := 25, slot := 13, constantValue := 0 }, { name := "T_DOUBLE", type := .int, accessFlags := 25, slot := 14, constantValue := 0 }, { name := "T_BYTE", type := .int, accessFlags := 25, slot := 15, constantValue := 0 }, { name := "T_SHORT", type := .int, accessFlags := 25, slot := 16, constantValue := 0 }, { name := "T_INT", type := .int, accessFlags := 25, slot := 17, constantValue := 0 }, { name := "T_LONG", type := .int, accessFlags := 25, slot := 18, constantValue := 0 }, { name := "JLA", type := (.object "jdk/internal/access/JavaLangAccess"), accessFlags := 26, slot := 19, constantValue := 0 }, { name := "SOFT_MAX_ARRAY_LENGTH", type := .int, accessFlags := 25, slot := 20, constantValue := 0 }]
  methods := #[k18m0]
  instanceTypes := #[]
  staticTypes := #[(.object "jdk/internal/misc/Unsafe"), .boolean, .int, .int, .int, .int, .int, .int, .int, .int, .int, .int, .int, .int, .int, .int, .int, .int, .int, (.object "jdk/internal/access/JavaLangAccess"), .int]
  resolved := Array.replicate 378 none
  statics := none }

def pool19 : Array CpInfo := pool [(2, .class_ 4), (1, u "java/lang/Object"), (0, u "<init>"), (0, u "()V"), (12, .class_ 20), (0, u "java/util/Collections"), (63, u "r"), (0, u "Ljava/util/Random;"), (80, .class_ 167), (0, u "java/util/Collections$UnmodifiableCollection"), (6, .class_ 175), (0, u "java/util/Collections$UnmodifiableSequencedCollection"), (6, .class_ 183), (0, u "java/util/Collections$UnmodifiableSet"), (6, .class_ 191), (0, u "java/util/Collections$UnmodifiableSequencedSet"), (6, .class_ 199), (0, u "java/util/Collections$UnmodifiableSortedSet"), (6, .class_ 207), (0, u "java/util/Collections$UnmodifiableNavigableSet"), (4, .class_ 213), (0, u "java/util/Collections$UnmodifiableList"), (1, .class_ 216), (0, u "java/util/Collections$UnmodifiableRandomAccessList"), (6, .class_ 224), (0, u "java/util/Collections$UnmodifiableMap"), (6, .class_ 232), (0, u "java/util/Collections$UnmodifiableSequencedMap"), (4, .class_ 238), (0, u "java/util/Collections$UnmodifiableSortedMap"), (6, .class_ 246), (0, u "java/util/Collections$UnmodifiableNavigableMap"), (3, .class_ 251), (0, u "java/util/Collections$SynchronizedCollection"), (4, .class_ 257), (0, u "java/util/Collections$SynchronizedSet"), (4, .class_ 263), (0, u "java/util/Collections$SynchronizedSortedSet"), (1, .class_ 266), (0, u "java/util/Collections$SynchronizedNavigableSet"), (1, .class_ 269), (0, u "java/util/Collections$SynchronizedRandomAccessList"), (1, .class_ 272), (0, u "java/util/Collections$SynchronizedList"), (5, .class_ 279), (0, u "java/util/Collections$SynchronizedMap"), (1, .class_ 282), (0, u "java/util/Collections$SynchronizedSortedMap"), (1, .class_ 285), (0, u "java/util/Collections$SynchronizedNavigableMap"), (1, .class_ 288), (0, u "java/util/Collections$CheckedCollection"), (11, .class_ 301), (0, u "java/util/Collections$CheckedQueue"), (3, .class_ 306), (0, u "java/util/Collections$CheckedSet"), (3, .class_ 311), (0, u "java/util/Collections$CheckedSortedSet"), (3, .class_ 316), (0, u "java/util/Collections$CheckedNavigableSet"), (3, .class_ 321), (0, u "java/util/Collections$CheckedRandomAccessList"), (3, .class_ 326), (0, u "java/util/Collections$CheckedList"), (1, .class_ 329), (0, u "java/util/Collections$CheckedMap"), (3, .class_ 334), (0, u "java/util/Collections$CheckedSortedMap"), (3, .class_ 339), (0, u "java/util/Collections$CheckedNavigableMap"), (4, .class_ 346), (1, u "java/util/Collections$EmptyIterator"), (3, .class_ 352), (1, u "java/util/Collections$EmptyListIterator"), (2, .class_ 357), (1, u "java/util/Collections$EmptyEnumeration"), (4, u "EMPTY_SET"), (0, u "Ljava/util/Set;"), (6, u "EMPTY_LIST"), (0, u "Ljava/util/List;"), (2, u "EMPTY_MAP"), (0, u "Ljava/util/Map;"), (4, .class_ 381), (0, u "java/util/Collections$SingletonSet"), (2, .class_ 385), (0, u "java/util/Collections$1"), (1, .class_ 388), (0, u "java/util/Collections$2"), (1, .class_ 391), (0, u "java/util/Collections$SingletonList"), (1, .class_ 394), (0, u "java/util/Collections$SingletonMap"), (22, .class_ 418), (0, u "java/util/Collections$CopiesList"), (4, .class_ 425), (1, u "java/util/Collections$ReverseComparator"), (8, .class_ 435), (0, u "java/util/Collections$ReverseComparator2"), (6, .class_ 443), (0, u "java/util/Collections$3"), (25, .class_ 470), (0, u "java/util/Collections$SetFromMap"), (2, .class_ 474), (0, u "java/util/Collections$SequencedSetFromMap"), (3, .class_ 479), (0, u "java/util/Collections$AsLIFOQueue"), (11, .class_ 492), (0, u "java/util/Collections$EmptySet"), (1, .class_ 495), (0, u "java/util/Collections$EmptyList"), (1, .class_ 498), (0, u "java/util/Collections$EmptyMap"), (1, u "BINARYSEARCH_THRESHOLD"), (0, u "I"), (2, u "REVERSE_THRESHOLD"), (1, u "SHUFFLE_THRESHOLD"), (1, u "FILL_THRESHOLD"), (1, u "ROTATE_THRESHOLD"), (1, u "COPY_THRESHOLD"), (1, u "REPLACEALL_THRESHOLD"), (1, u "INDEXOFSUBLIST_THRESHOLD"), (333, .class_ 851), (0, u "java/util/Collections$CheckedMap$CheckedEntrySet"), (0, .class_ 853), (0, u "java/util/Collections$CheckedMap$CheckedEntrySet$CheckedEntry"), (0, .class_ 855), (0, u "java/util/Collections$CheckedMap$CheckedEntrySet$1"), (0, .class_ 857), (0, u "java/util/Collections$CheckedList$1"), (0, .class_ 859), (0, u "java/util/Collections$CheckedCollection$1"), (0, .class_ 861), (0, u "java/util/Collections$UnmodifiableNavigableMap$EmptyNavigableMap"), (0, .class_ 863), (0, u "java/util/Collections$UnmodifiableMap$UnmodifiableEntrySet"), (0, .class_ 865), (0, u "java/util/Collections$UnmodifiableMap$UnmodifiableEntrySet$UnmodifiableEntry"), (0, .class_ 867), (0, u "java/util/Collections$UnmodifiableMap$UnmodifiableEntrySet$UnmodifiableEntrySetSpliterator"), (0, .class_ 869), (0, u "java/util/Collections$UnmodifiableMap$UnmodifiableEntrySet$1"), (0, .class_ 871), (0, u "java/util/Collections$UnmodifiableList$1"), (0, .class_ 873), (0, u "java/util/Collections$UnmodifiableNavigableSet$EmptyNavigableSet"), (0, .class_ 875), (0, u "java/util/Collections$UnmodifiableCollection$1")] 57

def k19m0 : Method := { name := "<init>", desc := "()V", sig := { parameters := [], returnType := none }, accessFlags := 2, code := none }
/-- java/util/Collections -/
def k19 : Class := { plain "java/util/Collections" (some 0) with
  accessFlags := 33
  interfaces := #[]
  cf := some (fileOf pool19 19 #[.nestMembers #[478, 473, 469, 434, 423, 417, 393, 390, 380, 497, 494, 491, 355, 350, 344, 338, 333, 328, 850, 852, 854, 320, 325, 856, 315, 310, 305, 300, 287, 858, 284, 281, 278, 268, 271, 265, 262, 256, 250, 245, 860, 237, 231, 223, 862, 864, 866, 868, 215, 212, 870, 206, 872, 198, 190, 182, 174, 166, 874, 442, 387, 384]] #[{ accessFlags := 2, nameIndex := 5, descriptorIndex := 6, attributes := #[] }] 33 2 #[] #[{ accessFlags := 26, nameIndex := 500, descriptorIndex := 501, attributes := #[] }, { accessFlags := 26, nameIndex := 504, descriptorIndex := 501, attributes := #[] }, { accessFlags := 26, nameIndex := 506, descriptorIndex := 501, attributes := #[] }, { accessFlags := 26, nameIndex := 508, descriptorIndex := 501, attributes := #[] }, { accessFlags := 26, nameIndex := 510, descriptorIndex := 501, attributes := #[] }, { accessFlags := 26, nameIndex := 512, descriptorIndex := 501, attributes := #[] }, { accessFlags := 26, nameIndex := 514, descriptorIndex := 501, attributes := #[] }, { accessFlags := 26, nameIndex := 516, descriptorIndex := 501, attributes := #[] }, { accessFlags := 10, nameIndex := 84, descriptorIndex := 85, attributes := #[] }, { accessFlags := 25, nameIndex := 362, descriptorIndex := 363, attributes := #[] }, { accessFlags := 25, nameIndex := 370, descriptorIndex := 371, attributes := #[] }, { accessFlags := 25, nameIndex := 374, descriptorIndex := 375, attributes := #[] }])
  fields := #[{ name := "BINARYSEARCH_THRESHOLD", type := .int, accessFlags := 26, slot := 0, constantValue := 0 }, { name := "REVERSE_THRESHOLD", type := .int, accessFlags := 26, slot := 1, constantValue := 0 }, { name := "SHUFFLE_THRESHOLD", type := .int, accessFlags := 26, slot := 2, constantValue := 0 }, { name := "FILL_THRESHOLD", type := .int, accessFlags := 26, slot := 3, constantValue := 0 }, { name := "ROTATE_THRESHOLD", type := .int, accessFlags := 26, slot := 4, constantValue := 0 }, { name := "COPY_THRESHOLD", type := .int, accessFlags := 26, slot := 5, constantValue := 0 }, { name := "REPLACEALL_THRESHOLD", type := .int, accessFlags := 26, slot := 6, constantValue := 0 }, { name := "INDEXOFSUBLIST_THRESHOLD", type := .int, accessFlags := 26, slot := 7, constantValue := 0 }, { name := "r", type := (.object "java/util/Random"), accessFlags := 10, slot := 8, constantValue := 0 }, { name := "EMPTY_SET", type := (.object "java/util/Set"), accessFlags := 25, slot := 9, constantValue := 0 }, { name := "EMPTY_LIST", type := (.object "java/util/List"), accessFlags := 25, slot := 10, constantValue := 0 }, { name := "EMPTY_MAP", type := (.object "java/util/Map"), accessFlags := 25, slot := 11, constantValue := 0 }]
  methods := #[k19m0]
  instanceTypes := #[]
  staticTypes := #[.int, .int, .int, .int, .int, .int, .int, .int, (.object "java/util/Random"), (.object "java/util/Set"), (.object "java/util/List"), (.object "java/util/Map")]
  resolved := Array.replicate 933 none
  statics := some 4 }

def pool20 : Array CpInfo := pool [(8, .class_ 10), (1, u "java/lang/Iterable"), (24, .class_ 36), (0, u "java/lang/Object")] 25

/-- java/lang/Iterable -/
def k20 : Class := { plain "java/lang/Iterable" (some 0) with
  accessFlags := 1537
  interfaces := #[]
  cf := some (fileOf pool20 8 #[] #[] 1537 35 #[] #[])
  fields := #[]
  methods := #[]
  instanceTypes := #[]
  staticTypes := #[]
  resolved := Array.replicate 62 none
  statics := none }

def pool21 : Array CpInfo := pool [(10, .class_ 12), (1, u "java/util/Collection"), (47, .class_ 61), (0, u "java/lang/Object"), (0, .class_ 63), (0, u "java/lang/Iterable")] 51

/-- java/util/Collection -/
def k21 : Class := { plain "java/util/Collection" (some 0) with
  accessFlags := 1537
  interfaces := #[20]
  cf := some (fileOf pool21 10 #[] #[] 1537 60 #[62] #[])
  fields := #[]
  methods := #[]
  instanceTypes := #[]
  staticTypes := #[]
  resolved := Array.replicate 115 none
  statics := none }

def pool22 : Array CpInfo := pool [(2, .class_ 4), (1, u "java/lang/Object"), (0, u "<init>"), (0, u "()V"), (1, .class_ 10), (1, u "java/util/AbstractCollection"), (66, .class_ 78), (0, u "java/util/Collection")] 81

def k22m0 : Method := { name := "<init>", desc := "()V", sig := { parameters := [], returnType := none }, accessFlags := 4, code := none }
/-- java/util/AbstractCollection -/
def k22 : Class := { plain "java/util/AbstractCollection" (some 0) with
  accessFlags := 1057
  interfaces := #[21]
  cf := some (fileOf pool22 8 #[] #[{ accessFlags := 4, nameIndex := 5, descriptorIndex := 6, attributes := #[] }] 1057 2 #[77] #[])
  fields := #[]
  methods := #[k22m0]
  instanceTypes := #[]
  staticTypes := #[]
  resolved := Array.replicate 160 none
  statics := none }

def pool23 : Array CpInfo := pool [(8, .class_ 10), (1, u "java/util/SequencedCollection"), (15, .class_ 27), (0, u "java/lang/Object"), (0, .class_ 29), (0, u "java/util/Collection")] 27

/-- java/util/SequencedCollection -/
def k23 : Class := { plain "java/util/SequencedCollection" (some 0) with
  accessFlags := 1537
  interfaces := #[21]
  cf := some (fileOf pool23 8 #[] #[] 1537 26 #[28] #[])
  fields := #[]
  methods := #[]
  instanceTypes := #[]
  staticTypes := #[]
  resolved := Array.replicate 57 none
  statics := none }

def pool24 : Array CpInfo := pool [(8, .class_ 10), (1, u "java/util/List"), (92, .class_ 104), (0, u "java/lang/Object"), (15, .class_ 121), (0, u "java/util/SequencedCollection")] 129

/-- java/util/List -/
def k24 : Class := { plain "java/util/List" (some 0) with
  accessFlags := 1537
  interfaces := #[23]
  cf := some (fileOf pool24 8 #[] #[] 1537 103 #[120] #[])
  fields := #[]
  methods := #[]
  instanceTypes := #[]
  staticTypes := #[]
  resolved := Array.replicate 251 none
  statics := none }

def pool25 : Array CpInfo := pool [(2, .class_ 4), (1, u "java/util/AbstractCollection"), (0, u "<init>"), (0, u "()V"), (1, .class_ 10), (1, u "java/util/AbstractList"), (0, u "modCount"), (0, u "I"), (64, .class_ 78), (0, u "java/util/AbstractList$Itr"), (3, .class_ 83), (0, u "java/util/AbstractList$ListItr"), (9, .class_ 94), (0, u "java/util/AbstractList$RandomAccessSubList"), (3, .class_ 99), (0, u "java/util/AbstractList$SubList"), (33, .class_ 134), (0, u "java/util/List"), (73, .class_ 209), (0, u "java/util/AbstractList$SubList$1"), (0, .class_ 211), (0, u "java/util/AbstractList$RandomAccessSpliterator")] 6

def k25m0 : Method := { name := "<init>", desc := "()V", sig := { parameters := [], returnType := none }, accessFlags := 4, code := none }
/-- java/util/AbstractList -/
def k25 : Class := { plain "java/util/AbstractList" (some 22) with
  accessFlags := 1057
  interfaces := #[24]
  cf := some (fileOf pool25 8 #[.nestMembers #[93, 98, 208, 210, 82, 77]] #[{ accessFlags := 4, nameIndex := 5, descriptorIndex := 6, attributes := #[] }] 1057 2 #[133] #[{ accessFlags := 132, nameIndex := 11, descriptorIndex := 12, attributes := #[] }])
  fields := #[{ name := "modCount", type := .int, accessFlags := 132, slot := 0, constantValue := 0 }]
  methods := #[k25m0]
  instanceTypes := #[.int]
  staticTypes := #[]
  resolved := Array.replicate 218 none
  statics := none }

def pool26 : Array CpInfo := pool [(1, .class_ 2), (0, u "java/util/RandomAccess"), (0, .class_ 4), (0, u "java/lang/Object")] 2

/-- java/util/RandomAccess -/
def k26 : Class := { plain "java/util/RandomAccess" (some 0) with
  accessFlags := 1537
  interfaces := #[]
  cf := some (fileOf pool26 1 #[] #[] 1537 3 #[] #[])
  fields := #[]
  methods := #[]
  instanceTypes := #[]
  staticTypes := #[]
  resolved := Array.replicate 7 none
  statics := none }

def pool27 : Array CpInfo := pool [(2, .class_ 4), (1, u "java/util/AbstractList"), (0, u "<init>"), (0, u "()V"), (1, .class_ 10), (1, u "java/util/Collections"), (54, .class_ 66), (0, u "java/util/Collections$EmptyList"), (0, .class_ 68), (0, u "java/util/RandomAccess"), (0, .class_ 70), (0, u "java/io/Serializable"), (0, u "serialVersionUID"), (0, u "J")] 77

def k27m0 : Method := { name := "<init>", desc := "()V", sig := { parameters := [], returnType := none }, accessFlags := 2, code := none }
/-- java/util/Collections$EmptyList -/
def k27 : Class := { plain "java/util/Collections$EmptyList" (some 25) with
  accessFlags := 32
  interfaces := #[26, 2]
  cf := some (fileOf pool27 65 #[.nestHost 8] #[{ accessFlags := 2, nameIndex := 5, descriptorIndex := 6, attributes := #[] }] 32 2 #[67, 69] #[{ accessFlags := 26, nameIndex := 71, descriptorIndex := 72, attributes := #[] }])
  fields := #[{ name := "serialVersionUID", type := .long, accessFlags := 26, slot := 0, constantValue := 0 }]
  methods := #[k27m0]
  instanceTypes := #[.int]
  staticTypes := #[.long]
  resolved := Array.replicate 150 none
  statics := none }

def pool28 : Array CpInfo := pool [(2, .class_ 4), (1, u "java/lang/StackTraceElement"), (0, u "<init>"), (2, .class_ 10), (1, u "java/lang/Object"), (0, u "()V"), (2, u "format"), (0, u "B"), (2, u "classLoaderName"), (0, u "Ljava/lang/String;"), (2, u "moduleName"), (2, u "moduleVersion"), (12, u "declaringClass"), (4, u "methodName"), (2, u "fileName"), (2, u "lineNumber"), (0, u "I"), (65, u "declaringClassObject"), (0, u "Ljava/lang/Class;"), (33, .class_ 153), (1, u "java/lang/StackTraceElement$HashedModules"), (17, .class_ 172), (0, u "java/io/Serializable"), (0, u "NATIVE_METHOD"), (1, u "UNKNOWN_SOURCE"), (2, u "BUILTIN_CLASS_LOADER"), (1, u "JDK_NON_UPGRADEABLE_MODULE"), (1, u "serialVersionUID"), (0, u "J")] 51

def k28m0 : Method := { name := "<init>", desc := "()V", sig := { parameters := [], returnType := none }, accessFlags := 2, code := none }
/-- java/lang/StackTraceElement -/
def k28 : Class := { plain "java/lang/StackTraceElement" (some 0) with
  accessFlags := 49
  interfaces := #[2]
  cf := some (fileOf pool28 2 #[.nestMembers #[151]] #[{ accessFlags := 2, nameIndex := 5, descriptorIndex := 11, attributes := #[] }] 49 8 #[171] #[{ accessFlags := 26, nameIndex := 173, descriptorIndex := 19, attributes := #[] }, { accessFlags := 26, nameIndex := 175, descriptorIndex := 19, attributes := #[] }, { accessFlags := 130, nameIndex := 116, descriptorIndex := 117, attributes := #[] }, { accessFlags := 2, nameIndex := 18, descriptorIndex := 19, attributes := #[] }, { accessFlags := 2, nameIndex := 22, descriptorIndex := 19, attributes := #[] }, { accessFlags := 2, nameIndex := 25, descriptorIndex := 19, attributes := #[] }, { accessFlags := 2, nameIndex := 38, descriptorIndex := 19, attributes := #[] }, { accessFlags := 2, nameIndex := 43, descriptorIndex := 19, attributes := #[] }, { accessFlags := 2, nameIndex := 46, descriptorIndex := 19, attributes := #[] }, { accessFlags := 2, nameIndex := 49, descriptorIndex := 50, attributes := #[] }, { accessFlags := 2, nameIndex := 14, descriptorIndex := 15, attributes := #[] }, { accessFlags := 26, nameIndex := 178, descriptorIndex := 15, attributes := #[] }, { accessFlags := 26, nameIndex := 180, descriptorIndex := 15, attributes := #[] }, { accessFlags := 26, nameIndex := 182, descriptorIndex := 183, attributes := #[] }])
  fields := #[{ name := "NATIVE_METHOD", type := (.object "java/lang/String"), accessFlags := 26, slot := 0, constantValue := 0 }, { name := "UNKNOWN_SOURCE", type := (.object "java/lang/String"), accessFlags := 26, slot := 1, constantValue := 0 }, { name := "declaringClassObject", type := (.object "java/lang/Class"), accessFlags := 130, slot := 0, constantValue := 0 }, { name := "classLoaderName", type := (.object "java/lang/String"), accessFlags := 2, slot := 1, constantValue := 0 }, { name := "moduleName", type := (.object "java/lang/String"), accessFlags := 2, slot := 2, constantValue := 0 }, { name := "moduleVersion", type := (.object "java/lang/String"), accessFlags := 2, slot := 3, constantValue := 0 }, { name := "declaringClass", type := (.object "java/lang/String"), accessFlags := 2, slot := 4, constantValue := 0 }, { name := "methodName", type := (.object "java/lang/String"), accessFlags := 2, slot := 5, constantValue := 0 }, { name := "fileName", type := (.object "java/lang/String"), accessFlags := 2, slot := 6, constantValue := 0 }, { name := "lineNumber", type := .int, accessFlags := 2, slot := 7, constantValue := 0 }, { name := "format", type := .byte, accessFlags := 2, slot := 8, constantValue := 0 }, { name := "BUILTIN_CLASS_LOADER", type := .byte, accessFlags := 26, slot := 2, constantValue := 0 }, { name := "JDK_NON_UPGRADEABLE_MODULE", type := .byte, accessFlags := 26, slot := 3, constantValue := 0 }, { name := "serialVersionUID", type := .long, accessFlags := 26, slot := 4, constantValue := 0 }]
  methods := #[k28m0]
  instanceTypes := #[(.object "java/lang/Class"), (.object "java/lang/String"), (.object "java/lang/String"), (.object "java/lang/String"), (.object "java/lang/String"), (.object "java/lang/String"), (.object "java/lang/String"), .int, .byte]
  staticTypes := #[(.object "java/lang/String"), (.object "java/lang/String"), .byte, .byte, .long]
  resolved := Array.replicate 235 none
  statics := none }

def pool29 : Array CpInfo := pool [(1, u "java/lang/Cloneable"), (0, .class_ 1), (0, u "java/lang/Object"), (0, .class_ 3)] 3

/-- java/lang/Cloneable -/
def k29 : Class := { plain "java/lang/Cloneable" (some 0) with
  accessFlags := 1537
  interfaces := #[]
  cf := some (fileOf pool29 2 #[] #[] 1537 4 #[] #[])
  fields := #[]
  methods := #[]
  instanceTypes := #[]
  staticTypes := #[]
  resolved := Array.replicate 8 none
  statics := none }

/-- the primitive byte -/
def k30 : Class := { plain "byte" none with kind := .primitive 'B', accessFlags := 0x411 }
/-- [B -/
def k31 : Class := { plain "[B" (some 0) with kind := .array 30 .byte, interfaces := #[29, 2], accessFlags := 1041 }

/-- the primitive char -/
def k32 : Class := { plain "char" none with kind := .primitive 'C', accessFlags := 0x411 }
/-- [C -/
def k33 : Class := { plain "[C" (some 0) with kind := .array 32 .char, interfaces := #[29, 2], accessFlags := 1041 }

/-- the primitive int -/
def k34 : Class := { plain "int" none with kind := .primitive 'I', accessFlags := 0x411 }
/-- [I -/
def k35 : Class := { plain "[I" (some 0) with kind := .array 34 .int, interfaces := #[29, 2], accessFlags := 1041 }

/-- [Ljava/lang/Object; -/
def k36 : Class := { plain "[Ljava/lang/Object;" (some 0) with kind := .array 0 (.object "java/lang/Object"), interfaces := #[29, 2], accessFlags := 1041 }

/-- [Ljava/lang/StackTraceElement; -/
def k37 : Class := { plain "[Ljava/lang/StackTraceElement;" (some 0) with kind := .array 28 (.object "java/lang/StackTraceElement"), interfaces := #[29, 2], accessFlags := 1041 }

/-- [Ljava/lang/Throwable; -/
def k38 : Class := { plain "[Ljava/lang/Throwable;" (some 0) with kind := .array 9 (.object "java/lang/Throwable"), interfaces := #[29, 2], accessFlags := 1041 }

def heap : Heap := #[{ cls := 7, slots := #[.long 0, .int 1, .null, .int 0, .null, .int 0, .int 0], vm := .statics 7 },
  { cls := 9, slots := #[.long 0, .ref 5, .ref 6, .null, .null, .null, .null, .ref 7, .int 1], vm := .statics 9 },
  { cls := 15, slots := #[.ref 8], vm := .statics 15 },
  { cls := 17, slots := #[.null, .null, .null], vm := .statics 17 },
  { cls := 19, slots := #[.int 0, .int 0, .int 0, .int 0, .int 0, .int 0, .int 0, .int 0, .null, .null, .ref 6, .null], vm := .statics 19 },
  { cls := 37, slots := #[], vm := .none },
  { cls := 27, slots := #[.int 0], vm := .none },
  { cls := 38, slots := #[], vm := .none },
  { cls := 15, slots := #[.null], vm := .none }]
def classes : Array Class := #[k0, k1, k2, k3, k4, k5, k6, k7, k8, k9, k10, k11, k12, k13, k14, k15, k16, k17, k18, k19, k20, k21, k22, k23, k24, k25, k26, k27, k28, k29, k30, k31, k32, k33, k34, k35, k36, k37, k38]
def interned : List (Array UInt16 × Addr) := []
def slotsUsed : Nat := 34
def theMethod : MethodId := ⟨1, 1⟩
def args0 : Array Value := #[.int 0, .int 1, .int 2]
def aboutOver (below : List Frame) : State where
  vm := { classes := classes, interned := interned.toArray }
  heap := heap
  slotsUsed := slotsUsed
  threads := #[{ frames := .invoking theMethod args0 :: below }]
def below0 : List Frame := [.native { method := ⟨0, 0⟩, args := #[] }]
def about1 : State := aboutOver below0
def p0 : Program := .bare "" "" ""
def e0 : Env := launch0.env 0 0 0
theorem w_frames : about1.frames = Frame.invoking theMethod args0 :: below0 := rfl
set_option maxRecDepth 65536 in
theorem w_args : argsFit about1.vm theMethod args0 = true := by decide +kernel
set_option maxRecDepth 65536 in
theorem w_heap : heapFits about1 = true := by decide +kernel
set_option maxRecDepth 65536 in
theorem w_runnable : about1.curStatus? = some .runnable := by decide +kernel
set_option maxRecDepth 65536 in
theorem w_alone : about1.alone = true := by decide +kernel
set_option maxRecDepth 65536 in
theorem w_named : about1.methodNamed? x = some theMethod := by decide +kernel
set_option maxRecDepth 65536 in
theorem w_hears : about1.hears theMethod below0 = true := by decide +kernel
set_option maxRecDepth 65536 in
theorem w_ripe : about1.ripe theMethod args0 below0 = true := by decide +kernel
theorem w_running : about1.status = .running := rfl
set_option maxRecDepth 65536 in
theorem w_room : about1.hasRoom e0.platform room_1 = true :=
  launch0.hasRoom_least _ room_1 (by decide +kernel) (by decide +kernel) (by decide +kernel) (by decide +kernel) (by decide +kernel) (by decide +kernel)
theorem allAtoms_all (ts : List Jvm.Cond) (a : Array Jvm.Value) (st : Jvm.State) : (allAtoms ts).before a st = ts.all (fun c => c.before a st) := by
  induction ts with
  | nil => rfl
  | cons c t ih =>
    show (Jvm.Cond.and c (allAtoms t)).before a st = _
    rw [Jvm.Cond.before_and, ih, List.all_cons]
def words1 : List Jvm.Cond := Jvm.Cond.code x code maxLocals ret :: tables_1
/-- a 'code' word, met by the world's own term for the bytes: nothing is compared byte by byte -/
theorem code_word {y : MethodName} {bytes : ByteArray} {mx : Nat} {rt : Option FieldType} {a : Array Value} {s : State} {m : MethodId} {meth : Method} {c : Code} (h1 : s.methodNamed? y = some m) (h2 : s.vm.method? m = some meth) (h3 : meth.code = some c) (h4 : c.code = bytes)
    (h5 : (c.maxLocals == mx && c.exceptionTable.isEmpty && decide (c.maxStack ≤ mostOperands) && decide (meth.sig.returnType = rt) && !meth.locks && decide (parseMethodDescriptor y.desc = some meth.sig)) = true) : (Jvm.Cond.code y bytes mx rt).before a s = true := by
  simp only [Bool.and_eq_true, beq_iff_eq, Bool.not_eq_true', decide_eq_true_eq] at h5
  obtain ⟨⟨⟨⟨⟨g1, g2⟩, g3⟩, g4⟩, g5⟩, g6⟩ := h5
  simp [Cond.before, Cond.holds, Cond.value, h1, h2, h3, h4, g1, g2, g3, g4, g5, g6]
def isCode : Jvm.Cond → Bool
  | .code _ _ _ _ => true
  | _ => false
theorem all_split {L : List Jvm.Cond} {P : Jvm.Cond → Bool} (h1 : L.all (fun c => isCode c || P c) = true) (h2 : ∀ c ∈ L.filter isCode, P c = true) : L.all P = true := by
  refine List.all_eq_true.mpr fun c hc => ?_
  have h := List.all_eq_true.mp h1 c hc
  rcases Bool.eq_false_or_eq_true (isCode c) with hi | hi
  · exact h2 c (List.mem_filter.mpr ⟨hc, hi⟩)
  · simpa [hi] using h
set_option maxRecDepth 65536 in
theorem w_c0 : (Jvm.Cond.code x code maxLocals ret).before args0 about1 = true := code_word (m := ⟨1, 1⟩) (meth := k1m1) (c := k1c1) (by decide +kernel) rfl rfl rfl (by decide +kernel)
set_option maxRecDepth 65536 in
theorem w_c1 : (Jvm.Cond.code ({ cls := "java/lang/String", name := "<init>", desc := "([C)V" } : Jvm.MethodName) jdk_42_method_3_code (2 : Nat) (Option.none : Option Jvm.ClassFile.FieldType)).before args0 about1 = true := code_word (m := ⟨7, 1⟩) (meth := k7m1) (c := k7c1) (by decide +kernel) rfl rfl rfl (by decide +kernel)
set_option maxRecDepth 65536 in
theorem w_c2 : (Jvm.Cond.code ({ cls := "java/lang/String", name := "<init>", desc := "([CIILjava/lang/Void;)V" } : Jvm.MethodName) jdk_42_method_149_code (6 : Nat) (Option.none : Option Jvm.ClassFile.FieldType)).before args0 about1 = true := code_word (m := ⟨7, 2⟩) (meth := k7m2) (c := k7c2) (by decide +kernel) rfl rfl rfl (by decide +kernel)
set_option maxRecDepth 65536 in
theorem w_c3 : (Jvm.Cond.code ({ cls := "java/lang/Object", name := "<init>", desc := "()V" } : Jvm.MethodName) object_method_1_code (1 : Nat) (Option.none : Option Jvm.ClassFile.FieldType)).before args0 about1 = true := code_word (m := ⟨0, 0⟩) (meth := k0m0) (c := k0c0) (by decide +kernel) rfl rfl rfl (by decide +kernel)
set_option maxRecDepth 65536 in
theorem w_c4 : (Jvm.Cond.code ({ cls := "java/lang/StringUTF16", name := "compress", desc := "([CII)[B" } : Jvm.MethodName) jdk_52_method_16_code (6 : Nat) (Option.some (Jvm.ClassFile.FieldType.array Jvm.ClassFile.FieldType.byte))).before args0 about1 = true := code_word (m := ⟨8, 2⟩) (meth := k8m2) (c := k8c2) (by decide +kernel) rfl rfl rfl (by decide +kernel)
set_option maxRecDepth 65536 in
theorem w_c5 : (Jvm.Cond.code ({ cls := "java/lang/StringUTF16", name := "compress", desc := "([CI[BII)I" } : Jvm.MethodName) jdk_52_method_21_code (7 : Nat) (Option.some Jvm.ClassFile.FieldType.int)).before args0 about1 = true := code_word (m := ⟨8, 3⟩) (meth := k8m3) (c := k8c3) (by decide +kernel) rfl rfl rfl (by decide +kernel)
set_option maxRecDepth 65536 in
theorem w_c6 : (Jvm.Cond.code ({ cls := "java/lang/StringUTF16", name := "coderFromArrayLen", desc := "([BI)B" } : Jvm.MethodName) jdk_52_method_15_code (2 : Nat) (Option.some Jvm.ClassFile.FieldType.byte)).before args0 about1 = true := code_word (m := ⟨8, 1⟩) (meth := k8m1) (c := k8c1) (by decide +kernel) rfl rfl rfl (by decide +kernel)
set_option maxRecDepth 65536 in
theorem w_c7 : (Jvm.Cond.code ({ cls := "com/example/lean_lock/leanlock/LockUnavailableException", name := "<init>", desc := "(Ljava/lang/String;Ljava/lang/Throwable;)V" } : Jvm.MethodName) prog_18_method_2_code (3 : Nat) (Option.none : Option Jvm.ClassFile.FieldType)).before args0 about1 = true := code_word (m := ⟨12, 1⟩) (meth := k12m1) (c := k12c1) (by decide +kernel) rfl rfl rfl (by decide +kernel)
set_option maxRecDepth 65536 in
theorem w_c8 : (Jvm.Cond.code ({ cls := "java/lang/RuntimeException", name := "<init>", desc := "(Ljava/lang/String;Ljava/lang/Throwable;)V" } : Jvm.MethodName) jdk_58_method_3_code (3 : Nat) (Option.none : Option Jvm.ClassFile.FieldType)).before args0 about1 = true := code_word (m := ⟨11, 2⟩) (meth := k11m2) (c := k11c2) (by decide +kernel) rfl rfl rfl (by decide +kernel)
set_option maxRecDepth 65536 in
theorem w_c9 : (Jvm.Cond.code ({ cls := "java/lang/Exception", name := "<init>", desc := "(Ljava/lang/String;Ljava/lang/Throwable;)V" } : Jvm.MethodName) jdk_59_method_3_code (3 : Nat) (Option.none : Option Jvm.ClassFile.FieldType)).before args0 about1 = true := code_word (m := ⟨10, 2⟩) (meth := k10m2) (c := k10c2) (by decide +kernel) rfl rfl rfl (by decide +kernel)
set_option maxRecDepth 65536 in
theorem w_c10 : (Jvm.Cond.code ({ cls := "java/lang/Throwable", name := "<init>", desc := "(Ljava/lang/String;Ljava/lang/Throwable;)V" } : Jvm.MethodName) jdk_78_method_3_code (3 : Nat) (Option.none : Option Jvm.ClassFile.FieldType)).before args0 about1 = true := code_word (m := ⟨9, 2⟩) (meth := k9m2) (c := k9c2) (by decide +kernel) rfl rfl rfl (by decide +kernel)
set_option maxRecDepth 65536 in
theorem w_c11 : (Jvm.Cond.code ({ cls := "java/lang/Throwable", name := "<init>", desc := "()V" } : Jvm.MethodName) jdk_78_method_1_code (1 : Nat) (Option.none : Option Jvm.ClassFile.FieldType)).before args0 about1 = true := code_word (m := ⟨9, 0⟩) (meth := k9m0) (c := k9c0) (by decide +kernel) rfl rfl rfl (by decide +kernel)
set_option maxRecDepth 65536 in
theorem w_c12 : (Jvm.Cond.code ({ cls := "com/example/lean_lock/leanlock/Attempt", name := "unanswered", desc := "(Lcom/example/lean_lock/leanlock/LockUnavailableException;)Lcom/example/lean_lock/leanlock/Attempt;" } : Jvm.MethodName) prog_1_method_6_code (1 : Nat) (Option.some (Jvm.ClassFile.FieldType.object "com/example/lean_lock/leanlock/Attempt"))).before args0 about1 = true := code_word (m := ⟨13, 1⟩) (meth := k13m1) (c := k13c1) (by decide +kernel) rfl rfl rfl (by decide +kernel)
set_option maxRecDepth 65536 in
theorem w_c13 : (Jvm.Cond.code ({ cls := "java/util/Objects", name := "requireNonNull", desc := "(Ljava/lang/Object;Ljava/lang/String;)Ljava/lang/Object;" } : Jvm.MethodName) jdk_31_method_11_code (2 : Nat) (Option.some (Jvm.ClassFile.FieldType.object "java/lang/Object"))).before args0 about1 = true := code_word (m := ⟨14, 1⟩) (meth := k14m1) (c := k14c1) (by decide +kernel) rfl rfl rfl (by decide +kernel)
set_option maxRecDepth 65536 in
theorem w_c14 : (Jvm.Cond.code ({ cls := "com/example/lean_lock/leanlock/Attempt", name := "<init>", desc := "(Lcom/example/lean_lock/leanlock/LockHandle;Ljava/time/Duration;ZLcom/example/lean_lock/leanlock/LockUnavailableException;)V" } : Jvm.MethodName) prog_1_method_1_code (5 : Nat) (Option.none : Option Jvm.ClassFile.FieldType)).before args0 about1 = true := code_word (m := ⟨13, 0⟩) (meth := k13m0) (c := k13c0) (by decide +kernel) rfl rfl rfl (by decide +kernel)
set_option maxRecDepth 65536 in
theorem w_c15 : (Jvm.Cond.code ({ cls := "com/example/lean_lock/leanlock/Attempt", name := "unanswered", desc := "()Ljava/util/Optional;" } : Jvm.MethodName) prog_1_method_10_code (1 : Nat) (Option.some (Jvm.ClassFile.FieldType.object "java/util/Optional"))).before args0 about1 = true := code_word (m := ⟨13, 5⟩) (meth := k13m5) (c := k13c5) (by decide +kernel) rfl rfl rfl (by decide +kernel)
set_option maxRecDepth 65536 in
theorem w_c16 : (Jvm.Cond.code ({ cls := "java/util/Optional", name := "ofNullable", desc := "(Ljava/lang/Object;)Ljava/util/Optional;" } : Jvm.MethodName) jdk_32_method_4_code (1 : Nat) (Option.some (Jvm.ClassFile.FieldType.object "java/util/Optional"))).before args0 about1 = true := code_word (m := ⟨15, 1⟩) (meth := k15m1) (c := k15c1) (by decide +kernel) rfl rfl rfl (by decide +kernel)
set_option maxRecDepth 65536 in
theorem w_c17 : (Jvm.Cond.code ({ cls := "java/util/Optional", name := "<init>", desc := "(Ljava/lang/Object;)V" } : Jvm.MethodName) jdk_32_method_2_code (2 : Nat) (Option.none : Option Jvm.ClassFile.FieldType)).before args0 about1 = true := code_word (m := ⟨15, 0⟩) (meth := k15m0) (c := k15c0) (by decide +kernel) rfl rfl rfl (by decide +kernel)
set_option maxRecDepth 65536 in
theorem w_c18 : (Jvm.Cond.code ({ cls := "com/example/lean_lock/leanlock/Attempt", name := "handle", desc := "()Ljava/util/Optional;" } : Jvm.MethodName) prog_1_method_7_code (1 : Nat) (Option.some (Jvm.ClassFile.FieldType.object "java/util/Optional"))).before args0 about1 = true := code_word (m := ⟨13, 2⟩) (meth := k13m2) (c := k13c2) (by decide +kernel) rfl rfl rfl (by decide +kernel)
set_option maxRecDepth 65536 in
theorem w_c19 : (Jvm.Cond.code ({ cls := "com/example/lean_lock/leanlock/Attempt", name := "expiresIn", desc := "()Ljava/util/Optional;" } : Jvm.MethodName) prog_1_method_8_code (1 : Nat) (Option.some (Jvm.ClassFile.FieldType.object "java/util/Optional"))).before args0 about1 = true := code_word (m := ⟨13, 3⟩) (meth := k13m3) (c := k13c3) (by decide +kernel) rfl rfl rfl (by decide +kernel)
set_option maxRecDepth 65536 in
theorem w_c20 : (Jvm.Cond.code ({ cls := "java/util/Optional", name := "isPresent", desc := "()Z" } : Jvm.MethodName) jdk_32_method_6_code (1 : Nat) (Option.some Jvm.ClassFile.FieldType.boolean)).before args0 about1 = true := code_word (m := ⟨15, 3⟩) (meth := k15m3) (c := k15c3) (by decide +kernel) rfl rfl rfl (by decide +kernel)
set_option maxRecDepth 65536 in
theorem w_c21 : (Jvm.Cond.code ({ cls := "java/util/Optional", name := "get", desc := "()Ljava/lang/Object;" } : Jvm.MethodName) jdk_32_method_5_code (1 : Nat) (Option.some (Jvm.ClassFile.FieldType.object "java/lang/Object"))).before args0 about1 = true := code_word (m := ⟨15, 2⟩) (meth := k15m2) (c := k15c2) (by decide +kernel) rfl rfl rfl (by decide +kernel)
set_option maxRecDepth 65536 in
theorem w_c22 : (Jvm.Cond.code ({ cls := "com/example/lean_lock/leanlock/Attempt", name := "isSplit", desc := "()Z" } : Jvm.MethodName) prog_1_method_9_code (1 : Nat) (Option.some Jvm.ClassFile.FieldType.boolean)).before args0 about1 = true := code_word (m := ⟨13, 4⟩) (meth := k13m4) (c := k13c4) (by decide +kernel) rfl rfl rfl (by decide +kernel)
set_option maxRecDepth 65536 in
theorem w_c23 : (Jvm.Cond.code ({ cls := "com/example/lean_lock/leanlock/LockUnavailableException", name := "<init>", desc := "(Ljava/lang/String;)V" } : Jvm.MethodName) prog_18_method_1_code (2 : Nat) (Option.none : Option Jvm.ClassFile.FieldType)).before args0 about1 = true := code_word (m := ⟨12, 0⟩) (meth := k12m0) (c := k12c0) (by decide +kernel) rfl rfl rfl (by decide +kernel)
set_option maxRecDepth 65536 in
theorem w_c24 : (Jvm.Cond.code ({ cls := "java/lang/RuntimeException", name := "<init>", desc := "(Ljava/lang/String;)V" } : Jvm.MethodName) jdk_58_method_2_code (2 : Nat) (Option.none : Option Jvm.ClassFile.FieldType)).before args0 about1 = true := code_word (m := ⟨11, 1⟩) (meth := k11m1) (c := k11c1) (by decide +kernel) rfl rfl rfl (by decide +kernel)
set_option maxRecDepth 65536 in
theorem w_c25 : (Jvm.Cond.code ({ cls := "java/lang/Exception", name := "<init>", desc := "(Ljava/lang/String;)V" } : Jvm.MethodName) jdk_59_method_2_code (2 : Nat) (Option.none : Option Jvm.ClassFile.FieldType)).before args0 about1 = true := code_word (m := ⟨10, 1⟩) (meth := k10m1) (c := k10c1) (by decide +kernel) rfl rfl rfl (by decide +kernel)
set_option maxRecDepth 65536 in
theorem w_c26 : (Jvm.Cond.code ({ cls := "java/lang/Throwable", name := "<init>", desc := "(Ljava/lang/String;)V" } : Jvm.MethodName) jdk_78_method_2_code (2 : Nat) (Option.none : Option Jvm.ClassFile.FieldType)).before args0 about1 = true := code_word (m := ⟨9, 1⟩) (meth := k9m1) (c := k9c1) (by decide +kernel) rfl rfl rfl (by decide +kernel)
def codes1 : List Jvm.Cond := [Jvm.Cond.code x code maxLocals ret, Jvm.Cond.code ({ cls := "java/lang/String", name := "<init>", desc := "([C)V" } : Jvm.MethodName) jdk_42_method_3_code (2 : Nat) (Option.none : Option Jvm.ClassFile.FieldType), Jvm.Cond.code ({ cls := "java/lang/String", name := "<init>", desc := "([CIILjava/lang/Void;)V" } : Jvm.MethodName) jdk_42_method_149_code (6 : Nat) (Option.none : Option Jvm.ClassFile.FieldType), Jvm.Cond.code ({ cls := "java/lang/Object", name := "<init>", desc := "()V" } : Jvm.MethodName) object_method_1_code (1 : Nat) (Option.none : Option Jvm.ClassFile.FieldType), Jvm.Cond.code ({ cls := "java/lang/StringUTF16", name := "compress", desc := "([CII)[B" } : Jvm.MethodName) jdk_52_method_16_code (6 : Nat) (Option.some (Jvm.ClassFile.FieldType.array Jvm.ClassFile.FieldType.byte)), Jvm.Cond.code ({ cls := "java/lang/StringUTF16", name := "compress", desc := "([CI[BII)I" } : Jvm.MethodName) jdk_52_method_21_code (7 : Nat) (Option.some Jvm.ClassFile.FieldType.int), Jvm.Cond.code ({ cls := "java/lang/StringUTF16", name := "coderFromArrayLen", desc := "([BI)B" } : Jvm.MethodName) jdk_52_method_15_code (2 : Nat) (Option.some Jvm.ClassFile.FieldType.byte), Jvm.Cond.code ({ cls := "com/example/lean_lock/leanlock/LockUnavailableException", name := "<init>", desc := "(Ljava/lang/String;Ljava/lang/Throwable;)V" } : Jvm.MethodName) prog_18_method_2_code (3 : Nat) (Option.none : Option Jvm.ClassFile.FieldType), Jvm.Cond.code ({ cls := "java/lang/RuntimeException", name := "<init>", desc := "(Ljava/lang/String;Ljava/lang/Throwable;)V" } : Jvm.MethodName) jdk_58_method_3_code (3 : Nat) (Option.none : Option Jvm.ClassFile.FieldType), Jvm.Cond.code ({ cls := "java/lang/Exception", name := "<init>", desc := "(Ljava/lang/String;Ljava/lang/Throwable;)V" } : Jvm.MethodName) jdk_59_method_3_code (3 : Nat) (Option.none : Option Jvm.ClassFile.FieldType), Jvm.Cond.code ({ cls := "java/lang/Throwable", name := "<init>", desc := "(Ljava/lang/String;Ljava/lang/Throwable;)V" } : Jvm.MethodName) jdk_78_method_3_code (3 : Nat) (Option.none : Option Jvm.ClassFile.FieldType), Jvm.Cond.code ({ cls := "java/lang/Throwable", name := "<init>", desc := "()V" } : Jvm.MethodName) jdk_78_method_1_code (1 : Nat) (Option.none : Option Jvm.ClassFile.FieldType), Jvm.Cond.code ({ cls := "com/example/lean_lock/leanlock/Attempt", name := "unanswered", desc := "(Lcom/example/lean_lock/leanlock/LockUnavailableException;)Lcom/example/lean_lock/leanlock/Attempt;" } : Jvm.MethodName) prog_1_method_6_code (1 : Nat) (Option.some (Jvm.ClassFile.FieldType.object "com/example/lean_lock/leanlock/Attempt")), Jvm.Cond.code ({ cls := "java/util/Objects", name := "requireNonNull", desc := "(Ljava/lang/Object;Ljava/lang/String;)Ljava/lang/Object;" } : Jvm.MethodName) jdk_31_method_11_code (2 : Nat) (Option.some (Jvm.ClassFile.FieldType.object "java/lang/Object")), Jvm.Cond.code ({ cls := "com/example/lean_lock/leanlock/Attempt", name := "<init>", desc := "(Lcom/example/lean_lock/leanlock/LockHandle;Ljava/time/Duration;ZLcom/example/lean_lock/leanlock/LockUnavailableException;)V" } : Jvm.MethodName) prog_1_method_1_code (5 : Nat) (Option.none : Option Jvm.ClassFile.FieldType), Jvm.Cond.code ({ cls := "com/example/lean_lock/leanlock/Attempt", name := "unanswered", desc := "()Ljava/util/Optional;" } : Jvm.MethodName) prog_1_method_10_code (1 : Nat) (Option.some (Jvm.ClassFile.FieldType.object "java/util/Optional")), Jvm.Cond.code ({ cls := "java/util/Optional", name := "ofNullable", desc := "(Ljava/lang/Object;)Ljava/util/Optional;" } : Jvm.MethodName) jdk_32_method_4_code (1 : Nat) (Option.some (Jvm.ClassFile.FieldType.object "java/util/Optional")), Jvm.Cond.code ({ cls := "java/util/Optional", name := "<init>", desc := "(Ljava/lang/Object;)V" } : Jvm.MethodName) jdk_32_method_2_code (2 : Nat) (Option.none : Option Jvm.ClassFile.FieldType), Jvm.Cond.code ({ cls := "com/example/lean_lock/leanlock/Attempt", name := "handle", desc := "()Ljava/util/Optional;" } : Jvm.MethodName) prog_1_method_7_code (1 : Nat) (Option.some (Jvm.ClassFile.FieldType.object "java/util/Optional")), Jvm.Cond.code ({ cls := "com/example/lean_lock/leanlock/Attempt", name := "expiresIn", desc := "()Ljava/util/Optional;" } : Jvm.MethodName) prog_1_method_8_code (1 : Nat) (Option.some (Jvm.ClassFile.FieldType.object "java/util/Optional")), Jvm.Cond.code ({ cls := "java/util/Optional", name := "isPresent", desc := "()Z" } : Jvm.MethodName) jdk_32_method_6_code (1 : Nat) (Option.some Jvm.ClassFile.FieldType.boolean), Jvm.Cond.code ({ cls := "java/util/Optional", name := "get", desc := "()Ljava/lang/Object;" } : Jvm.MethodName) jdk_32_method_5_code (1 : Nat) (Option.some (Jvm.ClassFile.FieldType.object "java/lang/Object")), Jvm.Cond.code ({ cls := "com/example/lean_lock/leanlock/Attempt", name := "isSplit", desc := "()Z" } : Jvm.MethodName) prog_1_method_9_code (1 : Nat) (Option.some Jvm.ClassFile.FieldType.boolean), Jvm.Cond.code ({ cls := "com/example/lean_lock/leanlock/LockUnavailableException", name := "<init>", desc := "(Ljava/lang/String;)V" } : Jvm.MethodName) prog_18_method_1_code (2 : Nat) (Option.none : Option Jvm.ClassFile.FieldType), Jvm.Cond.code ({ cls := "java/lang/RuntimeException", name := "<init>", desc := "(Ljava/lang/String;)V" } : Jvm.MethodName) jdk_58_method_2_code (2 : Nat) (Option.none : Option Jvm.ClassFile.FieldType), Jvm.Cond.code ({ cls := "java/lang/Exception", name := "<init>", desc := "(Ljava/lang/String;)V" } : Jvm.MethodName) jdk_59_method_2_code (2 : Nat) (Option.none : Option Jvm.ClassFile.FieldType), Jvm.Cond.code ({ cls := "java/lang/Throwable", name := "<init>", desc := "(Ljava/lang/String;)V" } : Jvm.MethodName) jdk_78_method_2_code (2 : Nat) (Option.none : Option Jvm.ClassFile.FieldType)]
set_option maxRecDepth 65536 in
theorem codes_eq : words1.filter isCode = codes1 := rfl
theorem w_codes : ∀ c ∈ words1.filter isCode, c.before args0 about1 = true := by
  rw [codes_eq]
  intro c hc
  simp only [codes1, List.mem_cons, List.not_mem_nil, or_false] at hc
  rcases hc with rfl | rfl | rfl | rfl | rfl | rfl | rfl | rfl | rfl | rfl | rfl | rfl | rfl | rfl | rfl | rfl | rfl | rfl | rfl | rfl | rfl | rfl | rfl | rfl | rfl | rfl | rfl
  · exact w_c0
  · exact w_c1
  · exact w_c2
  · exact w_c3
  · exact w_c4
  · exact w_c5
  · exact w_c6
  · exact w_c7
  · exact w_c8
  · exact w_c9
  · exact w_c10
  · exact w_c11
  · exact w_c12
  · exact w_c13
  · exact w_c14
  · exact w_c15
  · exact w_c16
  · exact w_c17
  · exact w_c18
  · exact w_c19
  · exact w_c20
  · exact w_c21
  · exact w_c22
  · exact w_c23
  · exact w_c24
  · exact w_c25
  · exact w_c26
set_option maxRecDepth 65536 in
theorem w_t1 : (words1.take 24).all (fun c => isCode c || c.before args0 about1) = true := by decide +kernel
set_option maxRecDepth 65536 in
theorem w_t2 : ((words1.drop 24).take 24).all (fun c => isCode c || c.before args0 about1) = true := by decide +kernel
set_option maxRecDepth 65536 in
theorem w_t3 : (((words1.drop 24).drop 24).take 24).all (fun c => isCode c || c.before args0 about1) = true := by decide +kernel
set_option maxRecDepth 65536 in
theorem w_t4 : ((((words1.drop 24).drop 24).drop 24).take 24).all (fun c => isCode c || c.before args0 about1) = true := by decide +kernel
set_option maxRecDepth 65536 in
theorem w_t5 : (((((words1.drop 24).drop 24).drop 24).drop 24).take 24).all (fun c => isCode c || c.before args0 about1) = true := by decide +kernel
set_option maxRecDepth 65536 in
theorem w_t6 : ((((((words1.drop 24).drop 24).drop 24).drop 24).drop 24).take 24).all (fun c => isCode c || c.before args0 about1) = true := by decide +kernel
set_option maxRecDepth 65536 in
theorem w_t7 : (((((((words1.drop 24).drop 24).drop 24).drop 24).drop 24).drop 24).take 24).all (fun c => isCode c || c.before args0 about1) = true := by decide +kernel
set_option maxRecDepth 65536 in
theorem w_t8 : (((((((words1.drop 24).drop 24).drop 24).drop 24).drop 24).drop 24).drop 24).all (fun c => isCode c || c.before args0 about1) = true := by decide +kernel
theorem w_tables : (allAtoms (Jvm.Cond.code x code maxLocals ret :: tables_1)).before args0 about1 = true := by
  rw [allAtoms_all]
  show words1.all (fun c => c.before args0 about1) = true
  refine all_split ?_ w_codes
  rw [← List.take_append_drop 24 words1, List.all_append, w_t1, ← List.take_append_drop 24 (words1.drop 24), List.all_append, w_t2, ← List.take_append_drop 24 ((words1.drop 24).drop 24), List.all_append, w_t3, ← List.take_append_drop 24 (((words1.drop 24).drop 24).drop 24), List.all_append, w_t4, ← List.take_append_drop 24 ((((words1.drop 24).drop 24).drop 24).drop 24), List.all_append, w_t5, ← List.take_append_drop 24 (((((words1.drop 24).drop 24).drop 24).drop 24).drop 24), List.all_append, w_t6, ← List.take_append_drop 24 ((((((words1.drop 24).drop 24).drop 24).drop 24).drop 24).drop 24), List.all_append, w_t7, w_t8]
  rfl
set_option maxRecDepth 65536 in
theorem w_rest : rest_1_c.before args0 about1 = true := by decide +kernel
set_option maxRecDepth 65536 in
theorem w_case : (Jvm.Cond.and given_1 narrow_1).before args0 about1 = true := by decide +kernel
theorem w_applies : (headSpec (Jvm.Cond.code x code maxLocals ret :: tables_1) room_1).applies x e0.platform about1 = true :=
  (Spec.applies_iff w_frames).mpr ⟨w_running, w_runnable, w_alone, w_named, w_hears, w_ripe, w_room, w_tables⟩
theorem atStart : AtStart classFile x code maxLocals ret World_1 tables_1 room_1 Calls_1 rest_1 Pre_1 launch0 p0 e0 about1 theMethod args0 below0 :=
  ⟨lists_1, trivial, launch0.admits_env _ _ _, launch0.least_env, fairChoices_fair.cas, fairChoices_fair.clock, w_frames, w_args, w_heap, w_applies, ⟨(by decide +kernel : framesKnown about1 = true), ⟨(by decide +kernel : tablesKnown about1 = true), trivial⟩⟩, w_rest, w_case⟩
end start1
theorem witness_1 : WitnessClaimed_1 := ⟨start1.p0, start1.e0, start1.about1, start1.theMethod, start1.args0, start1.below0, start1.atStart⟩
end Jvm.Pilot.@@N@@
