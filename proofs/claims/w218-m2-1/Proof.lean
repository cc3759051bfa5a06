import JvmDerived
import JvmDerived.Pilot.@@N@@Statement
import JvmDerived.Pilot.@@N@@Code
set_option linter.unusedVariables false
set_option linter.unusedSimpArgs false

namespace Jvm.Pilot.@@N@@
open Jvm Jvm.ClassFile Sem Op Lib Jvm.Free Jvm.Stand Jvm.LawKit Jvm.RoadKit Bundle Jvm.Pilot.@@N@@.Jvm.D
section Own
variable {p : Program} {l : Launch} {e : Env} {R : Room} {s : State} {m : MethodId} {args : Array Value} {below : List Frame} {meth : Method} {c : Code} {T T' : State} {cells slots n0 kk nn : Nat} {Z : State} {a0 : Array Value} {h h' : Heap} {Q : Option Value → Heap → Prop} {FE : Outcome → State → List Loc → Prop} {g g' : JFrame} {y : MethodName} {bytes : ByteArray} {maxL : Nat} {ret : Option FieldType}
/-- where a walk stands: its fixed facts, and the library's Stand with its written places hidden (all of them new) -/
def OAt (n0 : Nat) (Z : State) (y : MethodName) (bytes : ByteArray) (maxL : Nat) (ret : Option FieldType) (p : Program) (l : Launch) (e : Env) (R : Room) (s : State) (m : MethodId) (args : Array Value) (below : List Frame) (meth : Method) (c : Code) (T : State) (h : Heap) (cells slots : Nat) : Prop :=
  (p.tables.exec = Jvm.exec ∧ Z.Warmed39 s.vm ∧ s.vm.findClass y.cls = some m.cls ∧ meth.name = y.name ∧ c.code = bytes ∧ c.maxLocals = maxL ∧ meth.sig.returnType = ret ∧ meth.locks = false) ∧
    ∃ locs, Stand p l e R s m args below meth c T locs cells slots ∧ Fr n0 locs ∧ T.heap = h
/-- the run from here ends, returns, Q holds of what it returns and of the heap, and E of the end -/
def OFin (n0 : Nat) (p : Program) (e : Env) (FE : Outcome → State → List Loc → Prop) (below : List Frame) (Q : Option Value → Heap → Prop) (T : State) (g : JFrame) : Prop :=
  ∃ s₂ o, Steps p.tables e below (T.setTop g) s₂ ∧ s₂.status = .running ∧ Ended s₂ below o ∧ ∃ v L, o = .returned v ∧ (Q v s₂.heap ∧ Fr n0 L) ∧ FE o s₂ L
abbrev OMeets (l : Launch) (Z : State) (y : MethodName) (ws : List Jvm.Cond) (bytes : ByteArray) (maxL : Nat) (ret : Option FieldType) (rm : Room) (as' : Array Value) (h0 : Heap) (n0 : Nat) (Q : Option Value → Heap → Prop) : Prop :=
  MetFree l y (head1 (Jvm.Cond.code y bytes maxL ret :: ws) rm) (fun a U => a = as' ∧ Z.Warmed39 U.vm ∧ U.heap = h0) (fun _ _ _ _ _ => True) (fun _ U o U' => ∃ v L, o = .returned v ∧ (Q v U'.heap ∧ Fr n0 L) ∧ FrameEnd U o U' L rm.cells rm.slots)
theorem o_enter {ws : List Jvm.Cond} {rm : Room} {as' : Array Value} {h0 : Heap} (pn : plainFor y = true)
    (body : ∀ (p : Program) (e : Env) (s : State) (m : MethodId) (below : List Frame) (meth : Method) (c : Code) (s₁ : State), OAt n0 Z y bytes maxL ret p l e rm s m as' below meth c s₁ h0 0 0 → OFin n0 p e (fun o t L => FrameEnd s o t L rm.cells rm.slots) below Q s₁ (entryFrame m as' maxL)) :
    OMeets l Z y ws bytes maxL ret rm as' h0 n0 Q := by
  refine MetFree.of_bodySF pn hisR ?_
  intro p e s m args below meth c s₁ Bd hml0 hP hK
  obtain ⟨rfl, hZ, hh⟩ := hP
  have e0 : s₁.heap = h0 := by rw [← hh, Bd.state]; rfl
  exact body p e s m below meth c s₁ ⟨⟨Bd.exec, hZ, findClass_of_methodNamed Bd.named, (name_of_methodNamed Bd.named Bd.method).1, Bd.bytes, hml0, Bd.returns, Bd.notSynchronized⟩, [], Stand.of_body Bd, Fr.nil n0, e0⟩
theorem OFin.cast (q : g = g') (k : OFin n0 p e FE below Q T g') : OFin n0 p e FE below Q T g := q ▸ k
theorem OFin.run (f : ∀ t, Steps p.tables e below (T'.setTop g') t → Steps p.tables e below (T.setTop g) t) (k : OFin n0 p e FE below Q T' g') : OFin n0 p e FE below Q T g := by
  obtain ⟨s₂, o, h1, h2⟩ := k; exact ⟨s₂, o, f _ h1, h2⟩
theorem OFin.imp {Q' : Option Value → Heap → Prop} (k : OFin n0 p e FE below Q' T g) (f : ∀ v h, Q' v h → Q v h) : OFin n0 p e FE below Q T g := by
  obtain ⟨s₂, o, h1, h2, h3, v, L, h4, h5, h6⟩ := k; exact ⟨s₂, o, h1, h2, h3, v, L, h4, ⟨f _ _ h5.1, h5.2⟩, h6⟩
/-- a step of the single-step laws -/
theorem OAt.step (X : OAt n0 Z y bytes maxL ret p l e R s m args below meth c T h cells slots) (f : At T m c below → p.tables.exec = Jvm.exec → c.code = bytes → ∀ t, Steps p.tables e below (T.setTop g') t → Steps p.tables e below (T.setTop g) t) (k : OFin n0 p e FE below Q T g') : OFin n0 p e FE below Q T g := by
  obtain ⟨⟨hx, -, -, -, hby, -⟩, locs, X, -⟩ := X
  exact OFin.run (f X.here hx hby) k
theorem OAt.retN (X : OAt n0 Z y bytes maxL (some t) p l e R s m args below meth c T h cells slots) (ht : t = .boolean ∨ t = .byte ∨ t = .char ∨ t = .short) {pc : Nat} {Ls : Array Slot} {z : Int32} {rest : List Value} (hd : decode bytes pc = .ok (.ireturn, 1)) (hE : ∀ (t : State) (v : Option Value) (L : List Loc), t.heap = h → t.vm = T.vm → FrameEnd s (.returned v) t L cells slots → FE (.returned v) t L) (hQ : Q (some (.int (nar t z))) h) : OFin n0 p e FE below Q T (mkF m pc Ls (.int z :: rest)) := by
  obtain ⟨⟨hx, -, -, -, hby, -, hret, hlk⟩, locs, X, N, eh⟩ := X
  obtain ⟨fs, hr, hrun, hended, hW, hsame⟩ := X.leave (v := some (.int (nar t z))) (fun h => by rw [hret] at h; cases h) hlk
  exact ⟨_, _, Jvm.RoadKit.retN X hx hret ht (hb hby hd) hr, hrun, hended, _, _, rfl, ⟨by show Q _ T.heap; rw [eh]; exact hQ, N⟩, hE _ _ _ eh rfl ⟨⟨_, rfl⟩, hW, hsame⟩⟩
theorem OAt.retI (X : OAt n0 Z y bytes maxL (some .int) p l e R s m args below meth c T h cells slots) {pc : Nat} {Ls : Array Slot} {z : Int32} {rest : List Value} (hd : decode bytes pc = .ok (.ireturn, 1)) (hE : ∀ (t : State) (v : Option Value) (L : List Loc), t.heap = h → t.vm = T.vm → FrameEnd s (.returned v) t L cells slots → FE (.returned v) t L) (hQ : Q (some (.int z)) h) : OFin n0 p e FE below Q T (mkF m pc Ls (.int z :: rest)) := by
  obtain ⟨⟨hx, -, -, -, hby, -, hret, hlk⟩, locs, X, N, eh⟩ := X
  obtain ⟨fs, hr, hrun, hended, hW, hsame⟩ := X.leave (v := some (.int z)) (fun h => by rw [hret] at h; cases h) hlk
  exact ⟨_, _, retOut X hx hret rfl (Or.inl ⟨rfl, Or.inl rfl, _, rfl⟩) (hb hby hd) hr, hrun, hended, _, _, rfl, ⟨by show Q _ T.heap; rw [eh]; exact hQ, N⟩, hE _ _ _ eh rfl ⟨⟨_, rfl⟩, hW, hsame⟩⟩
theorem OAt.retL (X : OAt n0 Z y bytes maxL (some .long) p l e R s m args below meth c T h cells slots) {pc : Nat} {Ls : Array Slot} {z : Int64} {rest : List Value} (hd : decode bytes pc = .ok (.lreturn, 1)) (hE : ∀ (t : State) (v : Option Value) (L : List Loc), t.heap = h → t.vm = T.vm → FrameEnd s (.returned v) t L cells slots → FE (.returned v) t L) (hQ : Q (some (.long z)) h) : OFin n0 p e FE below Q T (mkF m pc Ls (.long z :: rest)) := by
  obtain ⟨⟨hx, -, -, -, hby, -, hret, hlk⟩, locs, X, N, eh⟩ := X
  obtain ⟨fs, hr, hrun, hended, hW, hsame⟩ := X.leave (v := some (.long z)) (fun h => by rw [hret] at h; cases h) hlk
  exact ⟨_, _, retOut X hx hret rfl (Or.inr (Or.inl ⟨rfl, rfl, _, rfl⟩)) (hb hby hd) hr, hrun, hended, _, _, rfl, ⟨by show Q _ T.heap; rw [eh]; exact hQ, N⟩, hE _ _ _ eh rfl ⟨⟨_, rfl⟩, hW, hsame⟩⟩
theorem OAt.retR (X : OAt n0 Z y bytes maxL (some t) p l e R s m args below meth c T h cells slots) (ht : t.isReference = true) {pc : Nat} {Ls : Array Slot} {w : Value} {rest : List Value} (hw : w.isRef = true) (hd : decode bytes pc = .ok (.areturn, 1)) (hE : ∀ (t : State) (v : Option Value) (L : List Loc), t.heap = h → t.vm = T.vm → FrameEnd s (.returned v) t L cells slots → FE (.returned v) t L) (hQ : Q (some w) h) : OFin n0 p e FE below Q T (mkF m pc Ls (w :: rest)) := by
  obtain ⟨⟨hx, -, -, -, hby, -, hret, hlk⟩, locs, X, N, eh⟩ := X
  have hna : narrow t w = w := by rcases ref_cases hw with rfl | ⟨a, rfl⟩ <;> cases t <;> first | rfl | cases ht
  obtain ⟨fs, hr, hrun, hended, hW, hsame⟩ := X.leave (v := some w) (fun h => by rw [hret] at h; cases h) hlk
  exact ⟨_, _, retOut X hx hret hna (Or.inr (Or.inr (Or.inr (Or.inr ⟨rfl, ht, hw⟩)))) (hb hby hd) hr, hrun, hended, _, _, rfl, ⟨by show Q _ T.heap; rw [eh]; exact hQ, N⟩, hE _ _ _ eh rfl ⟨⟨_, rfl⟩, hW, hsame⟩⟩
theorem OAt.retV (X : OAt n0 Z y bytes maxL none p l e R s m args below meth c T h cells slots) {pc : Nat} {Ls : Array Slot} (hd : decode bytes pc = .ok (.return_, 1)) (hE : ∀ (t : State) (v : Option Value) (L : List Loc), t.heap = h → t.vm = T.vm → FrameEnd s (.returned v) t L cells slots → FE (.returned v) t L) (hQ : Q none h) : OFin n0 p e FE below Q T (mkF m pc Ls []) := by
  obtain ⟨⟨hx, -, -, -, hby, -, hret, hlk⟩, locs, X, N, eh⟩ := X
  obtain ⟨fs, hr, hrun, hended, hW, hsame⟩ := X.leave (v := none) (fun _ => rfl) hlk
  exact ⟨_, _, X.returnOut hx hret (hb hby hd) hr, hrun, hended, _, _, rfl, ⟨by show Q _ T.heap; rw [eh]; exact hQ, N⟩, hE _ _ _ eh rfl ⟨⟨_, rfl⟩, hW, hsame⟩⟩
theorem OAt.ldcI (X : OAt n0 Z y bytes maxL ret p l e R s m args below meth c T h cells slots) {index : Nat} {v : Int32} (w : (Jvm.Cond.constant y.cls index v).before a0 Z = true) (hg : g.method = m) (hd : decode bytes g.pc = .ok (.ldc index, 2))
    (k : OFin n0 p e FE below Q T { g with pc := g.pc + 2, stack := .int v :: g.stack }) : OFin n0 p e FE below Q T g := by
  obtain ⟨⟨hx, hZ, hown, -, hby, -⟩, locs, X, -⟩ := X
  exact OFin.run (X.ldcInt hx hown (mvT hZ w) hg (hb hby hd)) k
theorem OAt.ldcwI (X : OAt n0 Z y bytes maxL ret p l e R s m args below meth c T h cells slots) {index : Nat} {v : Int32} (w : (Jvm.Cond.constant y.cls index v).before a0 Z = true) (hg : g.method = m) (hd : decode bytes g.pc = .ok (.ldc_w index, 3))
    (k : OFin n0 p e FE below Q T { g with pc := g.pc + 3, stack := .int v :: g.stack }) : OFin n0 p e FE below Q T g := by
  obtain ⟨⟨hx, hZ, hown, -, hby, -⟩, locs, X, -⟩ := X
  exact OFin.run (X.ldcwInt hx hown (mvT hZ w) hg (hb hby hd)) k
theorem OAt.ldcL (X : OAt n0 Z y bytes maxL ret p l e R s m args below meth c T h cells slots) {index : Nat} {v : Int64} (w : (Jvm.Cond.constantLong y.cls index v).before a0 Z = true) (hg : g.method = m) (hd : decode bytes g.pc = .ok (.ldc2_w index, 3))
    (k : OFin n0 p e FE below Q T { g with pc := g.pc + 3, stack := .long v :: g.stack }) : OFin n0 p e FE below Q T g := by
  obtain ⟨⟨hx, hZ, hown, -, hby, -⟩, locs, X, -⟩ := X
  exact OFin.run (X.ldc2Long hx hown (mvT hZ w) hg (hb hby hd)) k
theorem OAt.getF (X : OAt n0 Z y bytes maxL ret p l e R s m args below meth c T h cells slots) {O n d : String} {index : Nat} (w : (Jvm.Cond.fieldLink y.cls index O n d).before a0 Z = true) {a : Addr} {v : Value} (F : Fld Z h a O n d v) (hg : g.method = m) {rest : List Value} (hs : g.stack = .ref a :: rest) (hd : decode bytes g.pc = .ok (.getfield index, 3))
    (k : ∀ T', OAt n0 Z y bytes maxL ret p l e R s m args below meth c T' h cells slots → OFin n0 p e FE below Q T' { g with pc := g.pc + 3, stack := v :: rest }) : OFin n0 p e FE below Q T g := by
  obtain ⟨C, locs, X, N, eh⟩ := X
  obtain ⟨hx, hZ, hown, -, hby, -⟩ := id C
  obtain ⟨T', X', e', st⟩ := Jvm.RoadKit.getF X hx hZ hown (host := "") (Or.inl w) Via.refl eh F hg hs (hb hby hd)
  exact OFin.run st (k T' ⟨C, locs, X', N, e'⟩)
theorem OAt.getS (X : OAt n0 Z y bytes maxL ret p l e R s m args below meth c T h cells slots) {O n d : String} {index : Nat} (w : (Jvm.Cond.fieldLink y.cls index O n d).before a0 Z = true) {v : Value} (F : Sta Z h O n d v) (hg : g.method = m) (hd : decode bytes g.pc = .ok (.getstatic index, 3))
    (k : ∀ T', OAt n0 Z y bytes maxL ret p l e R s m args below meth c T' h cells slots → OFin n0 p e FE below Q T' { g with pc := g.pc + 3, stack := v :: g.stack }) : OFin n0 p e FE below Q T g := by
  obtain ⟨C, locs, X, N, eh⟩ := X
  obtain ⟨hx, hZ, hown, -, hby, -⟩ := id C
  obtain ⟨T', X', e', st⟩ := Jvm.RoadKit.getS X hx hZ hown w Via.refl eh F hg (hb hby hd) (host := "")
  exact OFin.run st (k T' ⟨C, locs, X', N, e'⟩)
theorem OAt.putF (X : OAt n0 Z y bytes maxL ret p l e R s m args below meth c T h cells slots) {O n d C : String} {index ki : Nat} {ty : FieldType} (w : (Jvm.Cond.fieldLink y.cls index O n d).before a0 Z = true) {a : Addr} {v old : Value} (F : Fld Z h a O n d old) (E : Exa Z h a C) (L : (Jvm.Cond.lays C O n d).before a0 Z = true ∨ ((Jvm.Cond.laysFinal C O n d).before a0 Z = true ∧ y.cls = O ∧ y.name = "<init>"))
    (wi : (Jvm.Cond.instantiable C ki).before a0 Z = true) (hty : parseFieldDescriptor d = some ty) (hn : narrow ty v = v) (hf : fits ty v = true) (hnew : n0 ≤ a) (hg : g.method = m) {rest : List Value} (hs : g.stack = v :: .ref a :: rest) (hd : decode bytes g.pc = .ok (.putfield index, 3))
    (k : ∀ T' h', OAt n0 Z y bytes maxL ret p l e R s m args below meth c T' h' cells slots → Wr h h' a (Jvm.RoadKit.slotOf Z O n d) v → OFin n0 p e FE below Q T' { g with pc := g.pc + 3, stack := rest }) : OFin n0 p e FE below Q T g := by
  obtain ⟨C, locs, X, N, eh⟩ := X
  obtain ⟨hx, hZ, hown, hnm, hby, -⟩ := id C
  obtain ⟨T', h', X', e', W, st⟩ := Jvm.RoadKit.putF X hx hZ hown (host := "") (Or.inl w) Via.refl eh F E (L.imp id fun q => ⟨q.1, q.2.1, hnm.trans q.2.2⟩) wi hty hn hf hg hs (hb hby hd)
  exact OFin.run st (k T' h' ⟨C, _, X', Fr.snoc X' N hnew, e'⟩ W)
theorem OAt.initO (X : OAt n0 Z y bytes maxL ret p l e R s m args below meth c T h cells slots) {idx : Nat} (w1 : (Jvm.Cond.methodLink y.cls idx Lib.objectInit).before a0 Z = true) (w2 : (Jvm.Cond.instanceMethod Lib.objectInit).before a0 Z = true) (w3 : (Jvm.Cond.code Lib.objectInit ⟨#[0xb1]⟩ 1 none).before a0 Z = true) (hg : g.method = m) (hsize : g.locals.size = maxL) {a : Addr} {rest : List Value} (hs : g.stack = .ref a :: rest) (hd : decode bytes g.pc = .ok (.invokespecial idx, 3))
    (hf : 1 ≤ R.frames) {W : Nat} (hW : 2 * g.monitorRoom + (rest.map fun v => v.category).sum ≤ W) (hl : W + 12 ≤ R.locals)
    (k : ∀ T', OAt n0 Z y bytes maxL ret p l e R s m args below meth c T' h cells slots → OFin n0 p e FE below Q T' { g with pc := g.pc + 3, stack := rest }) : OFin n0 p e FE below Q T g := by
  obtain ⟨C, locs, X, N, eh⟩ := X
  obtain ⟨hx, hZ, hown, -, hby, hml, -⟩ := id C
  obtain ⟨T', X', e', st⟩ := Jvm.RoadKit.initO X hx hZ hown w1 w2 w3 eh hg (hsize.trans hml.symm) hs (hb hby hd) hf hW hl
  exact OFin.run st (k T' ⟨C, locs, X', N, e'⟩)
theorem OAt.newO (X : OAt n0 Z y bytes maxL ret p l e R s m args below meth c T h cells slots) {C : String} {index n : Nat} (w : (Jvm.Cond.classLink y.cls index C).before a0 Z = true) (wi : (Jvm.Cond.instantiable C n).before a0 Z = true) (wz : (Jvm.Cond.initialized C).before a0 Z = true) (hg : g.method = m) (hd : decode bytes g.pc = .ok (.new index, 3)) (hc : cells + 1 ≤ R.cells) (hl : slots + n ≤ R.slots)
    (k : ∀ T' h' a, a = h.size → OAt n0 Z y bytes maxL ret p l e R s m args below meth c T' h' (cells + 1) (slots + n) → Ext h h' → Exa Z h' a C → (∀ {O nm d : String} {ty : FieldType}, Laid Z a0 C O nm d → parseFieldDescriptor d = some ty → Fld Z h' a O nm d (defaultValue ty)) → OFin n0 p e FE below Q T' { g with pc := g.pc + 3, stack := .ref a :: g.stack }) : OFin n0 p e FE below Q T g := by
  obtain ⟨C', locs, X, N, eh⟩ := X
  obtain ⟨hx, hZ, hown, -, hby, -⟩ := id C'
  obtain ⟨T', h', X', e', E, A, D, -, st⟩ := Jvm.RoadKit.newO X hx hZ hown w wi wz eh hg (hb hby hd) hc hl
  exact OFin.run st (k T' h' _ rfl ⟨C', locs, X', N, e'⟩ E A D)
theorem OAt.newP (X : OAt n0 Z y bytes maxL ret p l e R s m args below meth c T h cells slots) {aty : ArrayType} (w : (Jvm.Cond.arrayClass (newarray.typeOf aty)).before a0 Z = true) (hg : g.method = m) (hd : decode bytes g.pc = .ok (.newarray aty, 2)) {n : Int32} {rest : List Value} (hs : g.stack = .int n :: rest) (hn : ¬ n < 0) {cap : Nat} (hcap : n.toNatClampNeg ≤ cap) (hb8 : cap * 8 ≤ 536870912) (hc : cells + 1 ≤ R.cells) (hl : slots + cap ≤ R.slots) {ad : String} (had : "[" ++ (newarray.typeOf aty).toString = ad)
    (k : ∀ T' h' cA a, a = h.size → OAt n0 Z y bytes maxL ret p l e R s m args below meth c T' h' (cells + 1) (slots + cap) → Ext h h' → Arr Z h' a (newA cA (newarray.typeOf aty) n) (newarray.typeOf aty) → Exa Z h' a ad → OFin n0 p e FE below Q T' { g with pc := g.pc + 2, stack := .ref a :: rest }) : OFin n0 p e FE below Q T g := by
  obtain ⟨C', locs, X, N, eh⟩ := X
  obtain ⟨hx, hZ, hown, -, hby, -⟩ := id C'
  obtain ⟨T', h', cA, X', e', E, A, A', st⟩ := newPE X hx hZ w eh hg (hb hby hd) hs hn hcap hb8 hc hl had
  exact OFin.run st (k T' h' cA _ rfl ⟨C', locs, X', N, e'⟩ E A A')
theorem OAt.newRA (X : OAt n0 Z y bytes maxL ret p l e R s m args below meth c T h cells slots) {C : String} {ty : FieldType} {index : Nat} (hC : (FieldType.array ty).toString = C) (w1 : (Jvm.Cond.classLink y.cls index C).before a0 Z = true) (w2 : (Jvm.Cond.arrayOver (.array ty)).before a0 Z = true) (hg : g.method = m) (hd : decode bytes g.pc = .ok (.anewarray index, 3)) {n : Int32} {rest : List Value} (hs : g.stack = .int n :: rest) (hn : ¬ n < 0) {cap : Nat} (hcap : n.toNatClampNeg ≤ cap) (hb8 : cap * 8 ≤ 536870912) (hc : cells + 1 ≤ R.cells) (hl : slots + cap ≤ R.slots) {ad : String} (had : "[" ++ C = ad)
    (k : ∀ T' h' cA a, a = h.size → OAt n0 Z y bytes maxL ret p l e R s m args below meth c T' h' (cells + 1) (slots + cap) → Ext h h' → Arr Z h' a (newA cA (.array ty) n) (.array ty) → Exa Z h' a ad → OvrA Z cA ty C → OFin n0 p e FE below Q T' { g with pc := g.pc + 3, stack := .ref a :: rest }) : OFin n0 p e FE below Q T g := by
  obtain ⟨C', locs, X, N, eh⟩ := X
  obtain ⟨hx, hZ, hown, -, hby, -⟩ := id C'
  obtain ⟨T', h', cA, X', e', E, A, A', O, st⟩ := Jvm.RoadKit.newRA X hx hZ hown hC w1 w2 eh hg (hb hby hd) hs hn hcap hb8 hc hl had
  exact OFin.run st (k T' h' cA _ rfl ⟨C', locs, X', N, e'⟩ E A A' O)
theorem OAt.clone (X : OAt n0 Z y bytes maxL ret p l e R s m args below meth c T h cells slots) {ad : String} {index : Nat} (w1 : (Jvm.Cond.methodLink y.cls index ⟨ad, "clone", "()Ljava/lang/Object;"⟩).before a0 Z = true) (w2 : (Jvm.Cond.sameMethod ad "java/lang/Object" "clone" "()Ljava/lang/Object;").before a0 Z = true) (w3 : (Jvm.Cond.native ⟨"java/lang/Object", "clone", "()Ljava/lang/Object;"⟩).before a0 Z = true)
    (w4 : (Jvm.Cond.instanceMethod ⟨"java/lang/Object", "clone", "()Ljava/lang/Object;"⟩).before a0 Z = true) (w5 : (Jvm.Cond.selects ad ⟨ad, "clone", "()Ljava/lang/Object;"⟩ ⟨"java/lang/Object", "clone", "()Ljava/lang/Object;"⟩).before a0 Z = true) (w6 : (Jvm.Cond.castable ad "java/lang/Cloneable").before a0 Z = true)
    {a : Addr} {cl : Cell} {ty : FieldType} (A : Arr Z h a cl ty) (E : Exa Z h a ad) (F : FitC Z cl) (hg : g.method = m) (hsize : g.locals.size = maxL) {rest : List Value} (hs : g.stack = .ref a :: rest) (hd : decode bytes g.pc = .ok (.invokevirtual index, 3))
    (hf : 1 ≤ R.frames) {W cap : Nat} (hW : 2 * g.monitorRoom + (rest.map fun v => v.category).sum ≤ W) (hl : W + 14 ≤ R.locals) (hcap : cl.slots.size ≤ cap) (hc : cells + 1 ≤ R.cells) (hsl : slots + cap ≤ R.slots)
    (k : ∀ T' h' b, b = h.size → OAt n0 Z y bytes maxL ret p l e R s m args below meth c T' h' (cells + 1) (slots + cap) → Ext h h' → Arr Z h' b (Jvm.RoadKit.cloneOf cl) ty → Exa Z h' b ad → OFin n0 p e FE below Q T' { g with pc := g.pc + 3, stack := .ref b :: rest }) : OFin n0 p e FE below Q T g := by
  obtain ⟨C', locs, X, N, eh⟩ := X
  obtain ⟨hx, hZ, hown, -, hby, hml, -⟩ := id C'
  obtain ⟨T', h', X', e', E', A', A'', st⟩ := Jvm.RoadKit.cloneA X hx hZ hown w1 w2 w3 w4 w5 w6 eh A E F hg (hsize.trans hml.symm) hs (hb hby hd) hf hW hl hcap hc hsl
  exact OFin.run st (k T' h' _ rfl ⟨C', locs, X', N, e'⟩ E' A' A'')
theorem OAt.stR (X : OAt n0 Z y bytes maxL ret p l e R s m args below meth c T h cells slots) {a : Addr} {cl : Cell} {ty : FieldType} (A : Arr Z h a cl ty) {j : Int32} {v : Value} (hin : ¬ (j < 0 ∨ cl.slots.size ≤ j.toNatClampNeg)) (hty : ty.isReference = true) (F : Sto Z h a v) (hnew : n0 ≤ a) (hg : g.method = m) {rest : List Value} (hs : g.stack = v :: .int j :: .ref a :: rest) (hd : decode bytes g.pc = .ok (.aastore, 1))
    (k : ∀ T' h', OAt n0 Z y bytes maxL ret p l e R s m args below meth c T' h' cells slots → Wr h h' a j.toNatClampNeg v → OFin n0 p e FE below Q T' { g with pc := g.pc + 1, stack := rest }) : OFin n0 p e FE below Q T g := by
  obtain ⟨C, locs, X, N, eh⟩ := X
  obtain ⟨hx, hZ, hown, -, hby, -⟩ := id C
  obtain ⟨T', h', X', e', W, st⟩ := Jvm.RoadKit.stR X hx hZ eh A hin hty F hg hs (hb hby hd)
  exact OFin.run st (k T' h' ⟨C, _, X', Fr.snoc X' N hnew, e'⟩ W)
theorem OAt.acmp (X : OAt n0 Z y bytes maxL ret p l e R s m args below meth c T h cells slots) (hg : g.method = m) {cd : ACond} {u v : Value} (h1 : u.isRef = true) (h2 : v.isRef = true) {rest : List Value} {o : Int} {pc0 pc' : Nat} {same : Bool} (hpc : g.pc = pc0) (hd : decode bytes g.pc = .ok (.if_acmp cd o, 3)) (hs : g.stack = v :: u :: rest) (hq : decide (u = v) = same) (ho : 0 ≤ (pc0 : Int) + o) (hp : pc' = if acV cd same = true then ((pc0 : Int) + o).toNat else pc0 + 3)
    (k : OFin n0 p e FE below Q T { g with pc := pc', stack := rest }) : OFin n0 p e FE below Q T g := by
  obtain ⟨⟨hx, hZ, hown, -, hby, -⟩, locs, X, -⟩ := X
  exact OFin.run (fun t kk => Jvm.RoadKit.acmp X hx hg h1 h2 hpc (hb hby hd) hs hq ho hp kk) k
theorem OAt.irem (X : OAt n0 Z y bytes maxL ret p l e R s m args below meth c T h cells slots) (hg : g.method = m) {u v : Int32} {rest : List Value} (hd : decode bytes g.pc = .ok (.irem, 1)) (hs : g.stack = .int v :: .int u :: rest) (hv : v ≠ 0)
    (k : OFin n0 p e FE below Q T { g with pc := g.pc + 1, stack := .int (u % v) :: rest }) : OFin n0 p e FE below Q T g := by
  obtain ⟨⟨hx, hZ, hown, -, hby, -⟩, locs, X, -⟩ := X
  exact OFin.run (fun t kk => iremM X hx hg (hb hby hd) hs hv kk) k
theorem OAt.callS (X : OAt n0 Z y bytes maxL ret p l e R s m args below meth c T h cells slots) {index : Nat} {y' : MethodName} {bytes' : ByteArray} {maxL' : Nat} {ret' : Option FieldType} (w1 : (Jvm.Cond.methodLink y.cls index y').before a0 Z = true) (w2 : (Jvm.Cond.static y').before a0 Z = true) (w3 : (Jvm.Cond.initialized y'.cls).before a0 Z = true) (w4 : (Jvm.Cond.code y' bytes' maxL' ret').before a0 Z = true)
    (hy : y'.cls ≠ "java/lang/invoke/MethodHandle" ∧ y'.cls ≠ "java/lang/invoke/VarHandle") {rm : Room} {Qc : Option Value → Heap → Prop} {argsL rest : List Value} (hM : OMeets l Z y' [] bytes' maxL' ret' rm argsL.toArray h n0 Qc)
    (hg : g.method = m) (hsize : g.locals.size = maxL) {ps : List FieldType} {r : Option FieldType} (hpd : parseMethodDescriptor y'.desc = some ⟨ps, r⟩) (hlen : argsL.length = ps.length) (hs : g.stack = argsL.reverse ++ rest) {W : Nat} (hW : 2 * g.monitorRoom + (rest.map fun v => v.category).sum ≤ W) (hd : decode bytes g.pc = .ok (.invokestatic index, 3))
    (hf : rm.frames + 1 ≤ R.frames) (hl : W + (maxL' + 11) + rm.locals ≤ R.locals) (hc : cells + rm.cells ≤ R.cells) (hn : slots + rm.slots ≤ R.slots)
    (k : ∀ v T' h', OAt n0 Z y bytes maxL ret p l e R s m args below meth c T' h' (cells + rm.cells) (slots + rm.slots) → Qc v h' → OFin n0 p e FE below Q T' { g with pc := g.pc + 3, stack := v.toList ++ rest }) : OFin n0 p e FE below Q T g := by
  obtain ⟨C, locs, X, N, eh⟩ := X
  obtain ⟨hx, hZ, hown, -, hby, hml, -⟩ := id C
  obtain ⟨v, _, ⟨T1, L1, k1, n1⟩, -, X1, ⟨Lc, hQ, l1, y1, z1⟩, st⟩ := Jvm.LawKit.callS X hx hown (mvT hZ w1) (mvT hZ w2) (mvT hZ w3) (mvT hZ w4) hy
    (backOf (W := W) (Q := fun v h L => Qc v h ∧ Fr n0 L) hM hZ w4 w3 hf hl) hg (hsize.trans hml.symm) (lenOf hpd hlen) hs hW (hb hby hd) (fun _ _ => ⟨rfl, eh, hc, hn⟩)
  dsimp only [Pt.U, Pt.locs, Pt.cells, Pt.slots] at X1 l1 y1 z1 st hQ
  subst l1 y1 z1
  exact OFin.run st (k v T1 _ ⟨C, _, X1, N.app hQ.2, rfl⟩ hQ.1)
theorem OAt.callI (X : OAt n0 Z y bytes maxL ret p l e R s m args below meth c T h cells slots) {index : Nat} {y' : MethodName} {bytes' : ByteArray} {maxL' : Nat} (hy1 : y'.name = "<init>") (w1 : (Jvm.Cond.methodLink y.cls index y').before a0 Z = true) (w2 : (Jvm.Cond.instanceMethod y').before a0 Z = true) (w3 : (Jvm.Cond.initialized y'.cls).before a0 Z = true) (w4 : (Jvm.Cond.code y' bytes' maxL' none).before a0 Z = true)
    (hy : y'.cls ≠ "java/lang/invoke/MethodHandle" ∧ y'.cls ≠ "java/lang/invoke/VarHandle") {rm : Room} {Qc : Option Value → Heap → Prop} {a : Addr} {argsL rest : List Value} (hM : OMeets l Z y' [] bytes' maxL' none rm (Value.ref a :: argsL).toArray h n0 Qc)
    (hg : g.method = m) (hsize : g.locals.size = maxL) {ps : List FieldType} {r : Option FieldType} (hpd : parseMethodDescriptor y'.desc = some ⟨ps, r⟩) (hlen : argsL.length = ps.length) (hs : g.stack = argsL.reverse ++ .ref a :: rest) {W : Nat} (hW : 2 * g.monitorRoom + (rest.map fun v => v.category).sum ≤ W) (hd : decode bytes g.pc = .ok (.invokespecial index, 3))
    (hf : rm.frames + 1 ≤ R.frames) (hl : W + (maxL' + 11) + rm.locals ≤ R.locals) (hc : cells + rm.cells ≤ R.cells) (hn : slots + rm.slots ≤ R.slots)
    (k : ∀ v T' h', OAt n0 Z y bytes maxL ret p l e R s m args below meth c T' h' (cells + rm.cells) (slots + rm.slots) → Qc v h' → OFin n0 p e FE below Q T' { g with pc := g.pc + 3, stack := v.toList ++ rest }) : OFin n0 p e FE below Q T g := by
  obtain ⟨C, locs, X, N, eh⟩ := X
  obtain ⟨hx, hZ, hown, -, hby, hml, -⟩ := id C
  obtain ⟨v, _, ⟨T1, L1, k1, n1⟩, -, X1, ⟨Lc, hQ, l1, y1, z1⟩, st⟩ := X.specialBack hx hy1 hown (mvT hZ w1) (mvT hZ w2) (mvT hZ w4) hy
    (backOf (W := W) (Q := fun v h L => Qc v h ∧ Fr n0 L) hM hZ w4 w3 hf hl) hg (hsize.trans hml.symm) (Steps.refl _) (lenOf hpd hlen) hs hW (hb hby hd) (fun _ _ => ⟨rfl, eh, hc, hn⟩)
  dsimp only [Pt.U, Pt.locs, Pt.cells, Pt.slots] at X1 l1 y1 z1 st hQ
  subst l1 y1 z1
  exact OFin.run (fun t k => st.trans k) (k v T1 _ ⟨C, _, X1, N.app hQ.2, rfl⟩ hQ.1)
theorem OAt.callV (X : OAt n0 Z y bytes maxL ret p l e R s m args below meth c T h cells slots) {index : Nat} {y' z' : MethodName} {C0 : String} {bytes' : ByteArray} {maxL' : Nat} {ret' : Option FieldType} (w1 : (Jvm.Cond.methodLink y.cls index y').before a0 Z = true) (w2 : (Jvm.Cond.declares y').before a0 Z = true) (nf : NotFace s y') (w5 : (Jvm.Cond.selects C0 y' z').before a0 Z = true) (w6 : (Jvm.Cond.instanceMethod z').before a0 Z = true) (w3 : (Jvm.Cond.initialized z'.cls).before a0 Z = true) (w4 : (Jvm.Cond.code z' bytes' maxL' ret').before a0 Z = true)
    (hy : y'.cls ≠ "java/lang/invoke/MethodHandle" ∧ y'.cls ≠ "java/lang/invoke/VarHandle") {rm : Room} {Qc : Option Value → Heap → Prop} {a : Addr} (E : Exa Z h a C0) {argsL rest : List Value} (hM : OMeets l Z z' [] bytes' maxL' ret' rm (Value.ref a :: argsL).toArray h n0 Qc)
    (hg : g.method = m) (hsize : g.locals.size = maxL) {ps : List FieldType} {r : Option FieldType} (hpd : parseMethodDescriptor y'.desc = some ⟨ps, r⟩) (hlen : argsL.length = ps.length) (hs : g.stack = argsL.reverse ++ .ref a :: rest) {W : Nat} (hW : 2 * g.monitorRoom + (rest.map fun v => v.category).sum ≤ W) (hd : decode bytes g.pc = .ok (.invokevirtual index, 3))
    (hf : rm.frames + 1 ≤ R.frames) (hl : W + (maxL' + 11) + rm.locals ≤ R.locals) (hc : cells + rm.cells ≤ R.cells) (hn : slots + rm.slots ≤ R.slots)
    (k : ∀ v T' h', OAt n0 Z y bytes maxL ret p l e R s m args below meth c T' h' (cells + rm.cells) (slots + rm.slots) → Qc v h' → OFin n0 p e FE below Q T' { g with pc := g.pc + 3, stack := v.toList ++ rest }) : OFin n0 p e FE below Q T g := by
  obtain ⟨C, locs, X, N, eh⟩ := X
  obtain ⟨hx, hZ, hown, -, hby, hml, -⟩ := id C
  obtain ⟨cq, kq, qa, qb, qc⟩ := isOf hZ eh E
  obtain ⟨v, _, ⟨T1, L1, k1, n1⟩, -, X1, ⟨Lc, hQ, l1, y1, z1⟩, st⟩ := X.virtualBack hx hown (mvT hZ w1) (mvT hZ w2) nf (mvT hZ w5) (mvT hZ w6) hy
    (backOf (W := W) (Q := fun v h L => Qc v h ∧ Fr n0 L) hM hZ w4 w3 hf hl) qa qc hg (hsize.trans hml.symm) (Steps.refl _) (lenOf hpd hlen) hs hW (hb hby hd) (fun _ _ => ⟨rfl, eh, hc, hn⟩)
  dsimp only [Pt.U, Pt.locs, Pt.cells, Pt.slots] at X1 l1 y1 z1 st hQ
  subst l1 y1 z1
  exact OFin.run (fun t k => st.trans k) (k v T1 _ ⟨C, _, X1, N.app hQ.2, rfl⟩ hQ.1)
theorem OAt.notFace (X : OAt n0 Z y bytes maxL ret p l e R s m args below meth c T h cells slots) {C0 : String} {y' z' : MethodName} (w : (Jvm.Cond.selects C0 y' z').before a0 Z = true) (hq : y' = z') : NotFace s y' := by
  obtain ⟨⟨hx, hZ, -⟩, -⟩ := X
  subst hq
  exact notFace_of_selects (args := #[]) (mvT hZ w)
theorem OAt.aload0 (X : OAt n0 Z y bytes maxL ret p l e R s m args below meth c T h cells slots) {a : Addr} {cl : Cell} {ty : FieldType} (A : Arr Z h a cl ty) {j : Int32} {v : Value} (hin : ¬ (j < 0 ∨ cl.slots.size ≤ j.toNatClampNeg)) (hv : cl.slots[j.toNatClampNeg]? = some v) (hg : g.method = m) {rest : List Value} (hs : g.stack = .int j :: .ref a :: rest)
    {i : Instr} (hi : (i = .iaload ∧ ty = .int) ∨ (i = .laload ∧ ty = .long) ∨ (i = .caload ∧ ty = .char) ∨ (i = .baload ∧ ty = .byte) ∨ (i = .aaload ∧ ty.isReference = true)) (hd : decode bytes g.pc = .ok (i, 1))
    (k : OFin n0 p e FE below Q T { g with pc := g.pc + 1, stack := v :: rest }) : OFin n0 p e FE below Q T g := by
  obtain ⟨⟨hx, hZ, hown, -, hby, -⟩, locs, X, N, eh⟩ := X
  have hA := State.isArrayOf_alike hZ.alike A.2.1
  have hc : T.heap[a]? = some cl := by rw [eh]; exact A.1
  rcases hi with ⟨rfl, rfl⟩ | ⟨rfl, rfl⟩ | ⟨rfl, rfl⟩ | ⟨rfl, rfl⟩ | ⟨rfl, ht⟩
  · exact OFin.run (X.iaload hx hc hA A.2.2 hin hv hg hs (hb hby hd)) k
  · exact OFin.run (X.laload hx hc hA A.2.2 hin hv hg hs (hb hby hd)) k
  · exact OFin.run (X.caload hx hc hA A.2.2 hin hv hg hs (hb hby hd)) k
  · exact OFin.run (X.baloadBytes hx hc hA A.2.2 hin hv hg hs (hb hby hd)) k
  · exact OFin.run (X.aaload hx hc hA ht A.2.2 hin hv hg hs (hb hby hd)) k
theorem OAt.alen (X : OAt n0 Z y bytes maxL ret p l e R s m args below meth c T h cells slots) {a : Addr} {cl : Cell} {ty : FieldType} (A : Arr Z h a cl ty) {n : Int32} (hn : cl.slots.size.toInt32 = n) (hg : g.method = m) {rest : List Value} (hs : g.stack = .ref a :: rest) (hd : decode bytes g.pc = .ok (.arraylength, 1))
    (k : OFin n0 p e FE below Q T { g with pc := g.pc + 1, stack := .int n :: rest }) : OFin n0 p e FE below Q T g := by
  obtain ⟨⟨hx, hZ, hown, -, hby, -⟩, locs, X, N, eh⟩ := X
  subst hn
  exact OFin.run (X.arraylength hx (by rw [eh]; exact A.1) (State.isArrayOf_alike hZ.alike A.2.1) hg hs (hb hby hd)) k
theorem OAt.stJ (X : OAt n0 Z y bytes maxL ret p l e R s m args below meth c T h cells slots) {a : Addr} {cl : Cell} (A : Arr Z h a cl .long) {j : Int32} {v : Int64} (hin : ¬ (j < 0 ∨ cl.slots.size ≤ j.toNatClampNeg)) (hnew : n0 ≤ a) (hg : g.method = m) {rest : List Value} (hs : g.stack = .long v :: .int j :: .ref a :: rest) (hd : decode bytes g.pc = .ok (.lastore, 1))
    (k : ∀ T' h', OAt n0 Z y bytes maxL ret p l e R s m args below meth c T' h' cells slots → Wr h h' a j.toNatClampNeg (.long v) → OFin n0 p e FE below Q T' { g with pc := g.pc + 1, stack := rest }) : OFin n0 p e FE below Q T g := by
  obtain ⟨C, locs, X, N, eh⟩ := X
  obtain ⟨hx, hZ, hown, -, hby, -⟩ := id C
  obtain ⟨T', h', X', e', W, st⟩ := Jvm.RoadKit.stJ X hx hZ eh A hin hg hs (hb hby hd)
  exact OFin.run st (k T' h' ⟨C, _, X', Fr.snoc X' N hnew, e'⟩ W)
theorem OAt.stB (X : OAt n0 Z y bytes maxL ret p l e R s m args below meth c T h cells slots) {a : Addr} {cl : Cell} (A : Arr Z h a cl .byte) {j v : Int32} (hin : ¬ (j < 0 ∨ cl.slots.size ≤ j.toNatClampNeg)) (hnew : n0 ≤ a) (hg : g.method = m) {rest : List Value} (hs : g.stack = .int v :: .int j :: .ref a :: rest) (hd : decode bytes g.pc = .ok (.bastore, 1))
    (k : ∀ T' h', OAt n0 Z y bytes maxL ret p l e R s m args below meth c T' h' cells slots → Wr h h' a j.toNatClampNeg (.int (nar .byte v)) → OFin n0 p e FE below Q T' { g with pc := g.pc + 1, stack := rest }) : OFin n0 p e FE below Q T g := by
  obtain ⟨C, locs, X, N, eh⟩ := X
  obtain ⟨hx, hZ, hown, -, hby, -⟩ := id C
  obtain ⟨T', h', X', e', W, st⟩ := Jvm.RoadKit.stB X hx hZ eh A hin hg hs (hb hby hd)
  exact OFin.run st (k T' h' ⟨C, _, X', Fr.snoc X' N hnew, e'⟩ W)
theorem OAt.stC (X : OAt n0 Z y bytes maxL ret p l e R s m args below meth c T h cells slots) {a : Addr} {cl : Cell} (A : Arr Z h a cl .char) {j v : Int32} (hin : ¬ (j < 0 ∨ cl.slots.size ≤ j.toNatClampNeg)) (hnew : n0 ≤ a) (hg : g.method = m) {rest : List Value} (hs : g.stack = .int v :: .int j :: .ref a :: rest) (hd : decode bytes g.pc = .ok (.castore, 1))
    (k : ∀ T' h', OAt n0 Z y bytes maxL ret p l e R s m args below meth c T' h' cells slots → Wr h h' a j.toNatClampNeg (.int (nar .char v)) → OFin n0 p e FE below Q T' { g with pc := g.pc + 1, stack := rest }) : OFin n0 p e FE below Q T g := by
  obtain ⟨C, locs, X, N, eh⟩ := X
  obtain ⟨hx, hZ, hown, -, hby, -⟩ := id C
  obtain ⟨T', h', X', e', W, st⟩ := Jvm.RoadKit.stC X hx hZ eh A hin hg hs (hb hby hd)
  exact OFin.run st (k T' h' ⟨C, _, X', Fr.snoc X' N hnew, e'⟩ W)
theorem OAt.instY (X : OAt n0 Z y bytes maxL ret p l e R s m args below meth c T h cells slots) {K : String} {index : Nat} (w : (Jvm.Cond.classLink y.cls index K).before a0 Z = true) {a : Addr} (F : Ins Z h a K true) (hg : g.method = m) {rest : List Value} (hs : g.stack = .ref a :: rest) (hd : decode bytes g.pc = .ok (.instanceof index, 3))
    (k : ∀ T', OAt n0 Z y bytes maxL ret p l e R s m args below meth c T' h cells slots → OFin n0 p e FE below Q T' { g with pc := g.pc + 3, stack := .int 1 :: rest }) : OFin n0 p e FE below Q T g := by
  obtain ⟨C, locs, X, N, eh⟩ := X
  obtain ⟨hx, hZ, hown, -, hby, -⟩ := id C
  obtain ⟨T', X', e', st⟩ := Jvm.RoadKit.instY X hx hZ hown w eh F hg hs (hb hby hd)
  exact OFin.run st (k T' ⟨C, locs, X', N, e'⟩)
theorem OAt.castY (X : OAt n0 Z y bytes maxL ret p l e R s m args below meth c T h cells slots) {K : String} {index : Nat} (w : (Jvm.Cond.classLink y.cls index K).before a0 Z = true) {a : Addr} (F : Ins Z h a K true) (hg : g.method = m) {rest : List Value} (hs : g.stack = .ref a :: rest) (hd : decode bytes g.pc = .ok (.checkcast index, 3))
    (k : ∀ T', OAt n0 Z y bytes maxL ret p l e R s m args below meth c T' h cells slots → OFin n0 p e FE below Q T' { g with pc := g.pc + 3 }) : OFin n0 p e FE below Q T g := by
  obtain ⟨C, locs, X, N, eh⟩ := X
  obtain ⟨hx, hZ, hown, -, hby, -⟩ := id C
  obtain ⟨T', X', e', st⟩ := Jvm.RoadKit.castY X hx hZ hown w eh F hg hs (hb hby hd)
  exact OFin.run st (k T' ⟨C, locs, X', N, e'⟩)
theorem OAt.instNo (X : OAt n0 Z y bytes maxL ret p l e R s m args below meth c T h cells slots) {K C : String} {index : Nat} (w : (Jvm.Cond.classLink y.cls index K).before a0 Z = true) {a : Addr} (E : Exa Z h a C) (F : ∃ c t, Z.vm.findClass C = some c ∧ Z.vm.findClass K = some t ∧ Z.vm.assignable c t = false) (hg : g.method = m) {rest : List Value} (hs : g.stack = .ref a :: rest) (hd : decode bytes g.pc = .ok (.instanceof index, 3))
    (k : ∀ T', OAt n0 Z y bytes maxL ret p l e R s m args below meth c T' h cells slots → OFin n0 p e FE below Q T' { g with pc := g.pc + 3, stack := .int 0 :: rest }) : OFin n0 p e FE below Q T g := by
  obtain ⟨C, locs, X, N, eh⟩ := X
  obtain ⟨hx, hZ, hown, -, hby, -⟩ := id C
  obtain ⟨T', X', e', st⟩ := Jvm.RoadKit.instNo X hx hZ hown w eh E F hg hs (hb hby hd)
  exact OFin.run st (k T' ⟨C, locs, X', N, e'⟩)
theorem OAt.instNull (X : OAt n0 Z y bytes maxL ret p l e R s m args below meth c T h cells slots) {index : Nat} (hg : g.method = m) {rest : List Value} (hs : g.stack = .null :: rest) (hd : decode bytes g.pc = .ok (.instanceof index, 3))
    (k : OFin n0 p e FE below Q T { g with pc := g.pc + 3, stack := .int 0 :: rest }) : OFin n0 p e FE below Q T g := by
  obtain ⟨⟨hx, hZ, hown, -, hby, -⟩, locs, X, N, eh⟩ := X
  exact OFin.run (X.instanceofNull hx hg hs (hb hby hd)) k
theorem o_nsRoot {O K : String} {n : Nat} (w : (Jvm.Cond.noSuperclass O).before a0 Z = true) (wk : (Jvm.Cond.instantiable K n).before a0 Z = true) (hn : O ≠ K) : NS Z O K := by
  obtain ⟨c, k, h1, h2, h3, -, -⟩ := Cond.noSuperclass_spec w
  obtain ⟨t, kt, g1, -⟩ := Cond.instantiable_spec wk
  have ne := ids_ne h1 g1 hn
  refine ⟨c, t, h1, g1, fun fuel => ?_⟩
  cases fuel with
  | zero => rfl
  | succ f => simp [Vm.isSubclassAux, ne, h2, h3]
theorem o_nsNo {C S K : String} {n : Nat} (w : (Jvm.Cond.superclass C S).before a0 Z = true) (wk : (Jvm.Cond.instantiable K n).before a0 Z = true) (q : NS Z C K) (hn : C ≠ K) : ∃ c t, Z.vm.findClass C = some c ∧ Z.vm.findClass K = some t ∧ Z.vm.assignable c t = false := by
  obtain ⟨c, t, h0, g0, n3⟩ := q
  obtain ⟨p, k, kp, h1, h2, h3, h4, h5, -, h7⟩ := Cond.superclass_spec h0 w
  obtain ⟨t2, k', g1, g2, g3, g4, -⟩ := Cond.instantiable_spec wk
  cases g0.symm.trans g1
  have ne := ids_ne h0 g0 hn
  have g5 : k'.isInterface = false := by simp only [Bool.or_eq_false_iff] at g4; exact g4.1
  refine ⟨c, t, h0, g0, ?_⟩
  show Z.vm.assignableAux (255 + 1) c t = false
  simp [Vm.assignableAux, ne, h2, g2, h5, g3, g5, Vm.isSubclass, n3]
/-- an array of N places; place j holds f j -/
def OArr (Z : State) (h : Heap) (a : Addr) (ty : FieldType) (N : Nat) (f : Nat → Value) : Prop := ∃ c : Cell, Arr Z h a c ty ∧ c.slots.size = N ∧ ∀ j, j < N → c.slots[j]? = some (f j)
theorem OArr.lt {a : Addr} {ty : FieldType} {N : Nat} {f : Nat → Value} (F : OArr Z h a ty N f) : a < h.size := by obtain ⟨c, A, -⟩ := F; exact A.lt
theorem OArr.ext {a : Addr} {ty : FieldType} {N : Nat} {f : Nat → Value} (F : OArr Z h a ty N f) (E : Ext h h') : OArr Z h' a ty N f := by obtain ⟨c, A, r⟩ := F; exact ⟨c, A.ext E, r⟩
theorem OArr.other {a b : Addr} {ty : FieldType} {N sl : Nat} {f : Nat → Value} {v : Value} (F : OArr Z h b ty N f) (W : Wr h h' a sl v) (q : b ≠ a) : OArr Z h' b ty N f := by obtain ⟨c, A, r⟩ := F; exact ⟨c, A.other W q, r⟩
theorem OArr.keep {a : Addr} {ws : List Addr} {ty : FieldType} {N : Nat} {f : Nat → Value} (F : OArr Z h a ty N f) (K : Keep h h' ws) (q : a ∉ ws) : OArr Z h' a ty N f := by obtain ⟨c, A, r⟩ := F; exact ⟨c, ⟨K.2.1 a c A.1 q, A.2⟩, r⟩
theorem OArr.new {a : Addr} {k : ClassId} {ty : FieldType} {z : Int32} (A : Arr Z h a (newA k ty z) ty) : OArr Z h a ty z.toNatClampNeg (fun _ => defaultValue ty) := ⟨_, A, sz_new _ _ _, fun j hj => by simp [newA, hj]⟩
theorem OArr.congr {a : Addr} {ty : FieldType} {N : Nat} {f f' : Nat → Value} (F : OArr Z h a ty N f) (q : ∀ j, j < N → f j = f' j) : OArr Z h a ty N f' := by obtain ⟨c, A, r1, r2⟩ := F; exact ⟨c, A, r1, fun j hj => by rw [r2 j hj, q j hj]⟩
theorem OArr.set {a : Addr} {ty : FieldType} {N i : Nat} {f : Nat → Value} {v : Value} (F : OArr Z h a ty N f) (W : Wr h h' a i v) : OArr Z h' a ty N (fun j => if j = i then v else f j) := by
  obtain ⟨c, A, r1, r2⟩ := F
  refine ⟨c.setSlot i v, A.same W, by rw [sz_set]; exact r1, fun j hj => ?_⟩
  by_cases q : j = i
  · subst q; simp [Cell.setSlot, r1, hj]
  · simp only [q, if_false]
    rw [← r2 j hj]
    exact Array.getElem?_setIfInBounds_ne (Ne.symm q)
theorem o_fitC {a : Addr} {cl : Cell} {ty : FieldType} (A : Arr Z h a cl ty) (q : ∀ (i : Nat) (v : Value), cl.slots[i]? = some v → fits ty v = true) : FitC Z cl := fun i v hv => by
  obtain ⟨hs, k, hk, comp, hkind⟩ := A.2.1
  simp [State.fitsSlot, State.slotType?, hk, hkind, q i v hv]
theorem o_in {N : Nat} {j : Int32} {cl : Cell} (S : cl.slots.size = N) (h0 : 0 ≤ j.toInt) (h1 : j.toInt < N) : ¬ (j < 0 ∨ cl.slots.size ≤ j.toNatClampNeg) := by
  have e : (0 : Int32).toInt = 0 := by decide
  have q : (j.toNatClampNeg : Int) = j.toInt := by show (j.toInt.toNat : Int) = _; omega
  rw [Int32.lt_iff_toInt_lt, S, e]; omega
theorem o_nat {j : Int32} (h0 : 0 ≤ j.toInt) : (j.toNatClampNeg : Int) = j.toInt := by show (j.toInt.toNat : Int) = _; omega
theorem oN {kk nn : Nat} (h1 : cells ≤ kk) (h2 : slots ≤ nn) : ∀ (t : State) (v : Option Value) (L : List Loc), t.heap = h → t.vm = T.vm → FrameEnd s (.returned v) t L cells slots → (fun o t L => FrameEnd s o t L kk nn) (.returned v) t L := fun t v L _ _ q => ⟨q.1, q.2.1, q.2.2.mono h1 h2⟩
/-! the wide contracts: a body that may intern the program's string constants -/
abbrev OMeetsW (l : Launch) (Z : State) (EL : List (String × Nat)) (y : MethodName) (ws : List Jvm.Cond) (bytes : ByteArray) (maxL : Nat) (ret : Option FieldType) (rm : Room) (as' : Array Value) (h0 : Heap) (n0 : Nat) (Q : Option Value → Heap → Prop) : Prop :=
  MetFree l y (head1 (Jvm.Cond.code y bytes maxL ret :: ws) rm) (fun a U => a = as' ∧ Z.Warmed39 U.vm ∧ U.heap = h0 ∧ CHv Z EL U.vm h0) (fun _ _ _ _ _ => True) (fun _ U o U' => ∃ v L, o = .returned v ∧ (Q v U'.heap ∧ Fr n0 L) ∧ CHr Z EL U.vm U.heap U'.vm U'.heap ∧ ReturnedEndW U o U' L rm.cells rm.slots)
/-- what a wide walk bears beside its Stand over the re-based start -/
def OB (Z : State) (a0 : Array Value) (EL : List (String × Nat)) (s : State) (h0 : Heap) (vm0 : Vm) (h : Heap) : Prop := s.heap = h0 ∧ EW Z a0 EL ∧ (∃ k0, s.Since vm0 k0 ∧ k0 ≤ h.size) ∧ CHr Z EL s.vm h0 vm0 h
theorem OB.ext {EL : List (String × Nat)} {vm0 : Vm} {h0 : Heap} (B : OB Z a0 EL s h0 vm0 h) (E : Ext h h') : OB Z a0 EL s h0 vm0 h' := by
  obtain ⟨b1, b2, ⟨k0, b3, b4⟩, b5⟩ := B
  exact ⟨b1, b2, ⟨k0, b3, Nat.le_trans b4 E.1⟩, b5.trans (CHr.ext E b5.1)⟩
theorem OB.keep {EL : List (String × Nat)} {vm0 : Vm} {h0 : Heap} {ws : List Addr} (B : OB Z a0 EL s h0 vm0 h) (K : Keep h h' ws) (S : ∀ x ∈ ws, Safe Z EL vm0 h x) : OB Z a0 EL s h0 vm0 h' := by
  obtain ⟨b1, b2, ⟨k0, b3, b4⟩, b5⟩ := B
  exact ⟨b1, b2, ⟨k0, b3, Nat.le_trans b4 K.1⟩, b5.trans (CHr.keep K S b5.1)⟩
theorem OB.wr {EL : List (String × Nat)} {vm0 : Vm} {h0 : Heap} {a : Addr} {sl : Nat} {v : Value} (B : OB Z a0 EL s h0 vm0 h) (W : Wr h h' a sl v) (S : Safe Z EL vm0 h a) : OB Z a0 EL s h0 vm0 h' := B.keep (Keep.of_wr W) (fun x hx => by cases List.mem_singleton.mp hx; exact S)
theorem OB.hv {EL : List (String × Nat)} {vm0 : Vm} {h0 : Heap} (B : OB Z a0 EL s h0 vm0 h) : CHv Z EL vm0 h := B.2.2.2.1
theorem OB.size {EL : List (String × Nat)} {vm0 : Vm} {h0 : Heap} (B : OB Z a0 EL s h0 vm0 h) : h0.size ≤ h.size := B.2.2.2.2.1
theorem safe_nil {vm0 : Vm} {x : Addr} : Safe Z [] vm0 h x := fun B => by obtain ⟨p, hp, -⟩ := B; cases hp
theorem o_enterW {EL : List (String × Nat)} {ws : List Jvm.Cond} {rm : Room} {as' : Array Value} {h0 : Heap} (hEL : EW Z a0 EL) (pn : plainFor y = true)
    (body : ∀ (p : Program) (e : Env) (s : State) (m : MethodId) (below : List Frame) (meth : Method) (c : Code) (s₁ : State), OAt n0 Z y bytes maxL ret p l e rm (s.setVm s.vm) m as' below meth c s₁ h0 0 0 → OB Z a0 EL s h0 s.vm h0 → OFin n0 p e (fun o t L => CHr Z EL s.vm s.heap t.vm t.heap ∧ ReturnedEndW s o t L rm.cells rm.slots) below Q s₁ (entryFrame m as' maxL)) :
    OMeetsW l Z EL y ws bytes maxL ret rm as' h0 n0 Q := by
  refine MetFree.of_bodySF pn hisR ?_
  intro p e s m args below meth c s₁ Bd hml0 hP hK
  obtain ⟨rfl, hZ, hh, hC⟩ := hP
  have e0 : s₁.heap = h0 := by rw [← hh, Bd.state]; rfl
  exact body p e s m below meth c s₁ ⟨⟨Bd.exec, hZ, findClass_of_methodNamed Bd.named, (name_of_methodNamed Bd.named Bd.method).1, Bd.bytes, hml0, Bd.returns, Bd.notSynchronized⟩, [], Stand.of_body Bd, Fr.nil n0, e0⟩ ⟨hh, hEL, ⟨0, (State.WarmedH.refl s).since 0, Nat.zero_le _⟩, CHr.refl hC⟩
theorem oW {EL : List (String × Nat)} {vm0 : Vm} {h0 : Heap} {kk nn : Nat} (X : OAt n0 Z y bytes maxL ret p l e R (s.setVm vm0) m args below meth c T h cells slots) (B : OB Z a0 EL s h0 vm0 h) (h1 : cells ≤ kk) (h2 : slots ≤ nn) :
    ∀ (t : State) (v : Option Value) (L : List Loc), t.heap = h → t.vm = T.vm → FrameEnd (s.setVm vm0) (.returned v) t L cells slots → (fun o t L => CHr Z EL s.vm s.heap t.vm t.heap ∧ ReturnedEndW s o t L kk nn) (.returned v) t L := by
  obtain ⟨⟨-, hZ, -⟩, locs, X, -⟩ := X
  obtain ⟨b1, b2, ⟨k0, b3, b4⟩, b5⟩ := B
  intro t v L e1 e2 q
  obtain ⟨q1, q2, q3⟩ := b3.ended q.2.1 (by rw [e1]; exact b4) q.2.2
  refine ⟨?_, q.1, q1, q2, q3.mono h1 h2⟩
  rw [e1, e2, b1]
  exact b5.trans (CHv.at X hZ b2 b5.1)
theorem OAt.ldcO {EL : List (String × Nat)} {vm0 : Vm} {h0 : Heap} (X : OAt n0 Z y bytes maxL ret p l e R (s.setVm vm0) m args below meth c T h cells slots) (B : OB Z a0 EL s h0 vm0 h) {index : Nat} {text : String} (w : (Jvm.Cond.stringLink y.cls index text).before a0 Z = true) (wS : ∀ a ∈ Bundle.stringAtoms, a.before a0 Z = true) (hg : g.method = m) (hd : decode bytes g.pc = .ok (.ldc index, 2)) {n : Nat} (hn : 4 * text.toList.length ≤ n) (hbig : n ≤ 536870912) (hc : cells + 2 ≤ R.cells) (hl : slots + (n + 4) ≤ R.slots)
    (k : ∀ a T' h' vm1, OAt n0 Z y bytes maxL ret p l e R (s.setVm vm1) m args below meth c T' h' (cells + 2) (slots + (n + 4)) → OB Z a0 EL s h0 vm1 h' → Ext h h' → (∀ x, x < h.size → Safe Z EL vm0 h x → Safe Z EL vm1 h' x) → OFin n0 p e FE below Q T' { g with pc := g.pc + 2, stack := .ref a :: g.stack }) : OFin n0 p e FE below Q T g := by
  obtain ⟨C, locs, X, N, eh⟩ := X
  obtain ⟨hx, hZ, hown, r⟩ := id C
  obtain ⟨b1, b2, ⟨k0, b3, b4⟩, b5⟩ := B
  obtain ⟨a, T', h', k1, X', e', E', hS', hk', hZ', hown', hC', hL', st⟩ := ldcOH X hx hZ hown w wS eh b3 b4 b2 b5.1 hg (hb r.2.1 hd) hn hbig hc hl
  exact OFin.run st (k a T' h' T'.vm ⟨⟨hx, hZ', hown', r⟩, locs, X', N, e'⟩ ⟨b1, b2, ⟨k1, hS', hk'⟩, b5.trans hC'⟩ E' (fun x q q' => hC'.safe q q'))
theorem OAt.ldcC {EL : List (String × Nat)} {vm0 : Vm} {h0 : Heap} (X : OAt n0 Z y bytes maxL ret p l e R (s.setVm vm0) m args below meth c T h cells slots) (B : OB Z a0 EL s h0 vm0 h) {index : Nat} {text : String} (w : (Jvm.Cond.stringLink y.cls index text).before a0 Z = true) (wS : ∀ a ∈ Bundle.stringAtoms, a.before a0 Z = true) (hmem : (y.cls, index) ∈ EL) {vs : List Value} {z : Int32} (ht : (∀ c ∈ text.toList, c.toNat < 256) ∧ text.toList.map (fun c => Value.int (Jvm.Lit.byteI c.toNat.toUInt16)) = vs) (hz : ¬ z < 0) (hzl : z.toNatClampNeg = vs.length)
    (hg : g.method = m) (hd : decode bytes g.pc = .ok (.ldc index, 2)) {n : Nat} (hn : 4 * text.toList.length ≤ n) (hbig : n ≤ 536870912) (hc : cells + 2 ≤ R.cells) (hl : slots + (n + 4) ≤ R.slots)
    (k : ∀ a b cA T' h' vm1, OAt n0 Z y bytes maxL ret p l e R (s.setVm vm1) m args below meth c T' h' (cells + 2) (slots + (n + 4)) → OB Z a0 EL s h0 vm1 h' → Ext h h' → (∀ x, x < h.size → Safe Z EL vm0 h x → Safe Z EL vm1 h' x) → Exa Z h' a "java/lang/String" → Fld Z h' a "java/lang/String" "coder" "B" (.int 0) → Fld Z h' a "java/lang/String" "value" "[B" (.ref b) → Arv Z h' b cA .byte z vs (.int 0) → (∀ x, Safe Z EL vm1 h' x → x ≠ a ∧ x ≠ b) → OFin n0 p e FE below Q T' { g with pc := g.pc + 2, stack := .ref a :: g.stack }) : OFin n0 p e FE below Q T g := by
  obtain ⟨C, locs, X, N, eh⟩ := X
  obtain ⟨hx, hZ, hown, r⟩ := id C
  obtain ⟨b1, b2, ⟨k0, b3, b4⟩, b5⟩ := B
  obtain ⟨a, T', h', k1, b, cA, X', e', E', hS', hk', hZ', hown', f1, f2, f3, f4, f5, f6, hC', hL', hN', st⟩ := ldcCH X hx hZ hown w wS eh b3 b4 b2 hmem b5.1 ht hz hzl hg (hb r.2.1 hd) hn hbig hc hl
  exact OFin.run st (k a b cA T' h' T'.vm ⟨⟨hx, hZ', hown', r⟩, locs, X', N, e'⟩ ⟨b1, b2, ⟨k1, hS', hk'⟩, b5.trans hC'⟩ E' (fun x q q' => hC'.safe q q') f1 f2 f3 f4 hN')
theorem OAt.callSW {EL : List (String × Nat)} {vm0 : Vm} {h0 : Heap} (X : OAt n0 Z y bytes maxL ret p l e R (s.setVm vm0) m args below meth c T h cells slots) (B : OB Z a0 EL s h0 vm0 h) {index : Nat} {y' : MethodName} {bytes' : ByteArray} {maxL' : Nat} {ret' : Option FieldType} (w1 : (Jvm.Cond.methodLink y.cls index y').before a0 Z = true) (w2 : (Jvm.Cond.static y').before a0 Z = true) (w3 : (Jvm.Cond.initialized y'.cls).before a0 Z = true) (w4 : (Jvm.Cond.code y' bytes' maxL' ret').before a0 Z = true)
    (hy : y'.cls ≠ "java/lang/invoke/MethodHandle" ∧ y'.cls ≠ "java/lang/invoke/VarHandle") {rm : Room} {Qc : Option Value → Heap → Prop} {argsL rest : List Value} (hM : OMeetsW l Z EL y' [] bytes' maxL' ret' rm argsL.toArray h n0 Qc)
    (hg : g.method = m) (hsize : g.locals.size = maxL) {ps : List FieldType} {r : Option FieldType} (hpd : parseMethodDescriptor y'.desc = some ⟨ps, r⟩) (hlen : argsL.length = ps.length) (hs : g.stack = argsL.reverse ++ rest) {W : Nat} (hW : 2 * g.monitorRoom + (rest.map fun v => v.category).sum ≤ W) (hd : decode bytes g.pc = .ok (.invokestatic index, 3))
    (hf : rm.frames + 1 ≤ R.frames) (hl : W + (maxL' + 11) + rm.locals ≤ R.locals) (hc : cells + rm.cells ≤ R.cells) (hn : slots + rm.slots ≤ R.slots)
    (k : ∀ v T' h' vm1, OAt n0 Z y bytes maxL ret p l e R (s.setVm vm1) m args below meth c T' h' (cells + rm.cells) (slots + rm.slots) → OB Z a0 EL s h0 vm1 h' → h.size ≤ h'.size → (∀ x, x < h.size → Safe Z EL vm0 h x → Safe Z EL vm1 h' x) → Qc v h' → OFin n0 p e FE below Q T' { g with pc := g.pc + 3, stack := v.toList ++ rest }) : OFin n0 p e FE below Q T g := by
  obtain ⟨C, locs, X, N, eh⟩ := X
  obtain ⟨hx, hZ, hown, hnm, hby, hml, r'⟩ := id C
  obtain ⟨b1, b2, ⟨k0, b3, b4⟩, b5⟩ := B
  obtain ⟨v, _, ⟨T1, L1, c1, n1⟩, -, X1, hS1, hg1, ⟨Lc, hQ, l1, y1, z1, hC⟩, st⟩ := callSS X hx hown (mvT hZ w1) (mvT hZ w2) (mvT hZ w3) (mvT hZ w4) hy
    (backOfSH (W := W) (Q := fun v h L => Qc v h ∧ Fr n0 L) hM hZ w4 w3 hf hl b2 b5.1) hg (hsize.trans hml.symm) (lenOf hpd hlen) hs hW (hb hby hd) (fun _ _ => ⟨rfl, eh, hc, hn⟩)
  dsimp only [Pt.U, Pt.locs, Pt.cells, Pt.slots] at X1 l1 y1 z1 st hQ hS1 hg1 hC
  subst l1 y1 z1
  rw [eh] at hg1
  have hS2 := b3.trans hS1 (Nat.le_trans b4 hg1)
  exact OFin.run (fun t k => st.trans k) (k v T1 _ T1.vm ⟨⟨hx, State.Warmed39.trans (t := s.setVm vm0) hZ hS1.1, (hS1.1.alike.findClass _ _).trans hown, hnm, hby, hml, r'⟩, _, X1, N.app hQ.2, rfl⟩ ⟨b1, b2, ⟨_, hS2, Nat.le_refl _⟩, b5.trans hC⟩ hg1 (fun x q q' => hC.safe q q') hQ.1)
theorem OAt.callIW {EL : List (String × Nat)} {vm0 : Vm} {h0 : Heap} (X : OAt n0 Z y bytes maxL ret p l e R (s.setVm vm0) m args below meth c T h cells slots) (B : OB Z a0 EL s h0 vm0 h) {index : Nat} {y' : MethodName} {bytes' : ByteArray} {maxL' : Nat} (hy1 : y'.name = "<init>") (w1 : (Jvm.Cond.methodLink y.cls index y').before a0 Z = true) (w2 : (Jvm.Cond.instanceMethod y').before a0 Z = true) (w3 : (Jvm.Cond.initialized y'.cls).before a0 Z = true) (w4 : (Jvm.Cond.code y' bytes' maxL' none).before a0 Z = true)
    (hy : y'.cls ≠ "java/lang/invoke/MethodHandle" ∧ y'.cls ≠ "java/lang/invoke/VarHandle") {rm : Room} {Qc : Option Value → Heap → Prop} {a : Addr} {argsL rest : List Value} (hM : OMeetsW l Z EL y' [] bytes' maxL' none rm (Value.ref a :: argsL).toArray h n0 Qc)
    (hg : g.method = m) (hsize : g.locals.size = maxL) {ps : List FieldType} {r : Option FieldType} (hpd : parseMethodDescriptor y'.desc = some ⟨ps, r⟩) (hlen : argsL.length = ps.length) (hs : g.stack = argsL.reverse ++ .ref a :: rest) {W : Nat} (hW : 2 * g.monitorRoom + (rest.map fun v => v.category).sum ≤ W) (hd : decode bytes g.pc = .ok (.invokespecial index, 3))
    (hf : rm.frames + 1 ≤ R.frames) (hl : W + (maxL' + 11) + rm.locals ≤ R.locals) (hc : cells + rm.cells ≤ R.cells) (hn : slots + rm.slots ≤ R.slots)
    (k : ∀ v T' h' vm1, OAt n0 Z y bytes maxL ret p l e R (s.setVm vm1) m args below meth c T' h' (cells + rm.cells) (slots + rm.slots) → OB Z a0 EL s h0 vm1 h' → h.size ≤ h'.size → (∀ x, x < h.size → Safe Z EL vm0 h x → Safe Z EL vm1 h' x) → Qc v h' → OFin n0 p e FE below Q T' { g with pc := g.pc + 3, stack := v.toList ++ rest }) : OFin n0 p e FE below Q T g := by
  obtain ⟨C, locs, X, N, eh⟩ := X
  obtain ⟨hx, hZ, hown, hnm, hby, hml, r'⟩ := id C
  obtain ⟨b1, b2, ⟨k0, b3, b4⟩, b5⟩ := B
  obtain ⟨v, _, ⟨T1, L1, c1, n1⟩, -, X1, hS1, hg1, ⟨Lc, hQ, l1, y1, z1, hC⟩, st⟩ := X.specialBackS hx hy1 hown (mvT hZ w1) (mvT hZ w2) (mvT hZ w4) hy
    (backOfSH (W := W) (Q := fun v h L => Qc v h ∧ Fr n0 L) hM hZ w4 w3 hf hl b2 b5.1) hg (hsize.trans hml.symm) (Steps.refl _) (lenOf hpd hlen) hs hW (hb hby hd) (fun _ _ => ⟨rfl, eh, hc, hn⟩)
  dsimp only [Pt.U, Pt.locs, Pt.cells, Pt.slots] at X1 l1 y1 z1 st hQ hS1 hg1 hC
  subst l1 y1 z1
  rw [eh] at hg1
  have hS2 := b3.trans hS1 (Nat.le_trans b4 hg1)
  exact OFin.run (fun t k => st.trans k) (k v T1 _ T1.vm ⟨⟨hx, State.Warmed39.trans (t := s.setVm vm0) hZ hS1.1, (hS1.1.alike.findClass _ _).trans hown, hnm, hby, hml, r'⟩, _, X1, N.app hQ.2, rfl⟩ ⟨b1, b2, ⟨_, hS2, Nat.le_refl _⟩, b5.trans hC⟩ hg1 (fun x q q' => hC.safe q q') hQ.1)
theorem OAt.callVW {EL : List (String × Nat)} {vm0 : Vm} {h0 : Heap} (X : OAt n0 Z y bytes maxL ret p l e R (s.setVm vm0) m args below meth c T h cells slots) (B : OB Z a0 EL s h0 vm0 h) {index : Nat} {y' z' : MethodName} {C0 : String} {bytes' : ByteArray} {maxL' : Nat} {ret' : Option FieldType} (w1 : (Jvm.Cond.methodLink y.cls index y').before a0 Z = true) (w2 : (Jvm.Cond.declares y').before a0 Z = true) (nf : NotFace (s.setVm vm0) y') (w5 : (Jvm.Cond.selects C0 y' z').before a0 Z = true) (w6 : (Jvm.Cond.instanceMethod z').before a0 Z = true) (w3 : (Jvm.Cond.initialized z'.cls).before a0 Z = true) (w4 : (Jvm.Cond.code z' bytes' maxL' ret').before a0 Z = true)
    (hy : y'.cls ≠ "java/lang/invoke/MethodHandle" ∧ y'.cls ≠ "java/lang/invoke/VarHandle") {rm : Room} {Qc : Option Value → Heap → Prop} {a : Addr} (E' : Exa Z h a C0) {argsL rest : List Value} (hM : OMeetsW l Z EL z' [] bytes' maxL' ret' rm (Value.ref a :: argsL).toArray h n0 Qc)
    (hg : g.method = m) (hsize : g.locals.size = maxL) {ps : List FieldType} {r : Option FieldType} (hpd : parseMethodDescriptor y'.desc = some ⟨ps, r⟩) (hlen : argsL.length = ps.length) (hs : g.stack = argsL.reverse ++ .ref a :: rest) {W : Nat} (hW : 2 * g.monitorRoom + (rest.map fun v => v.category).sum ≤ W) (hd : decode bytes g.pc = .ok (.invokevirtual index, 3))
    (hf : rm.frames + 1 ≤ R.frames) (hl : W + (maxL' + 11) + rm.locals ≤ R.locals) (hc : cells + rm.cells ≤ R.cells) (hn : slots + rm.slots ≤ R.slots)
    (k : ∀ v T' h' vm1, OAt n0 Z y bytes maxL ret p l e R (s.setVm vm1) m args below meth c T' h' (cells + rm.cells) (slots + rm.slots) → OB Z a0 EL s h0 vm1 h' → h.size ≤ h'.size → (∀ x, x < h.size → Safe Z EL vm0 h x → Safe Z EL vm1 h' x) → Qc v h' → OFin n0 p e FE below Q T' { g with pc := g.pc + 3, stack := v.toList ++ rest }) : OFin n0 p e FE below Q T g := by
  obtain ⟨C, locs, X, N, eh⟩ := X
  obtain ⟨hx, hZ, hown, hnm, hby, hml, r'⟩ := id C
  obtain ⟨b1, b2, ⟨k0, b3, b4⟩, b5⟩ := B
  obtain ⟨cq, kq, qa, qb, qc⟩ := isOf hZ eh E'
  obtain ⟨v, _, ⟨T1, L1, c1, n1⟩, -, X1, hS1, hg1, ⟨Lc, hQ, l1, y1, z1, hC⟩, st⟩ := X.virtualBackS hx hown (mvT hZ w1) (mvT hZ w2) nf (mvT hZ w5) (mvT hZ w6) hy
    (backOfSH (W := W) (Q := fun v h L => Qc v h ∧ Fr n0 L) hM hZ w4 w3 hf hl b2 b5.1) qa qc hg (hsize.trans hml.symm) (Steps.refl _) (lenOf hpd hlen) hs hW (hb hby hd) (fun _ _ => ⟨rfl, eh, hc, hn⟩)
  dsimp only [Pt.U, Pt.locs, Pt.cells, Pt.slots] at X1 l1 y1 z1 st hQ hS1 hg1 hC
  subst l1 y1 z1
  rw [eh] at hg1
  have hS2 := b3.trans hS1 (Nat.le_trans b4 hg1)
  exact OFin.run (fun t k => st.trans k) (k v T1 _ T1.vm ⟨⟨hx, State.Warmed39.trans (t := s.setVm vm0) hZ hS1.1, (hS1.1.alike.findClass _ _).trans hown, hnm, hby, hml, r'⟩, _, X1, N.app hQ.2, rfl⟩ ⟨b1, b2, ⟨_, hS2, Nat.le_refl _⟩, b5.trans hC⟩ hg1 (fun x q q' => hC.safe q q') hQ.1)
theorem OAt.more {k2 n2 : Nat} (X : OAt n0 Z y bytes maxL ret p l e R s m args below meth c T h cells slots) (h1 : cells ≤ k2) (h2 : slots ≤ n2) : OAt n0 Z y bytes maxL ret p l e R s m args below meth c T h k2 n2 := by
  obtain ⟨C, locs, X, r⟩ := X
  exact ⟨C, locs, X.more h1 h2, r⟩
theorem o_static {C n d K : String} (hx : (Jvm.Cond.exactly (.static C n d) K).value args Z none Z [] = some true) (wi : (Jvm.Cond.initialized C).before args Z = true) (wl : (Jvm.Cond.laysStatic C n d).before args Z = true) :
    ∃ a, (Term.static C n d).eval args Z none [] Z = some (.ref a) ∧ Exa Z Z.heap a K ∧ Sta Z Z.heap C n d (.ref a) := by
  obtain ⟨a, ev⟩ := exa_v hx
  exact ⟨a, ev, Exa.start ev hx, Sta.start ev (Or.inr ⟨wi, wl⟩)⟩
theorem o_fieldI {t : Term} {O f dd : String} {k : Int32} {a : Addr} (ev : t.eval args Z none [] Z = some (.ref a)) (hq : (Jvm.Cond.eq (.field t O f dd) (.int k)).value args Z none Z [] = some true) : Fld Z Z.heap a O f dd (.int k) := by
  refine Fld.start ?_
  rw [← fld_at (C := O) (n := f) (dd := dd) ev]
  obtain ⟨u, v, h1, h2, h3, h4⟩ := cmp_v (Or.inl hq)
  have h5 : v = .int k := (Option.some.inj h2).symm
  subst h5
  obtain ⟨z, rfl⟩ := h4
  have := gotT (Cond.eq_ints h1 h2) hq
  rw [h1, this]
end Own
def own_EL : List (String × Nat) := [("java/lang/String", 7), ("java/lang/StringLatin1", 151)]
theorem own_wS {Z : State} {a0 : Array Value} (hw : ∀ d ∈ tables_1, d.before a0 Z = true) : ∀ a ∈ Bundle.stringAtoms, a.before a0 Z = true := fun a ha => hw a ((show ∀ a ∈ Bundle.stringAtoms, a ∈ tables_1 by decide +kernel) a ha)
theorem own_EW {Z : State} {a0 : Array Value} (hw : ∀ d ∈ tables_1, d.before a0 Z = true) : EW Z a0 own_EL := EW.cons (hw _ (List.mem_of_getElem? (i := 22) rfl)) (by decide) (EW.cons (hw _ (List.mem_of_getElem? (i := 133) rfl)) (by decide) (EW.nil))
theorem own_i (k : Nat) (hk : k < 2 ^ 31) : (Int32.ofNat k).toInt = k := Int32.toInt_ofNat_of_lt (by omega)
theorem own_iN (k : Nat) (hk : k < 2 ^ 31) : (Int32.ofNat k).toNatClampNeg = k := by show (Int32.ofNat k).toInt.toNat = k; rw [own_i k hk]; rfl
theorem own_add32 (k t : Nat) (h : k + t < 2 ^ 31) : Int32.ofNat k + Int32.ofNat t = Int32.ofNat (k + t) := by
  apply Int32.toInt_inj.mp
  have h1 := c_iadd (Int32.ofNat k) (Int32.ofNat t)
  have r := rng32 (Int32.ofNat k + Int32.ofNat t)
  rw [own_i k (by omega), own_i t (by omega)] at h1
  rw [own_i _ h]
  omega
theorem own_lt32 (a b : Nat) (ha : a < 2 ^ 31) (hb : b < 2 ^ 31) : Int32.ofNat a < Int32.ofNat b ↔ a < b := by
  rw [Int32.lt_iff_toInt_lt, own_i a ha, own_i b hb]; omega
theorem own_eq32 (a b : Nat) (ha : a < 2 ^ 31) (hb : b < 2 ^ 31) : Int32.ofNat a = Int32.ofNat b ↔ a = b := by
  constructor
  · intro h; have := congrArg Int32.toInt h; rw [own_i a ha, own_i b hb] at this; omega
  · rintro rfl; rfl
theorem own_succ (i : Nat) (h : i + 1 < 2 ^ 31) : Int32.ofNat i + (1 : Int32) = Int32.ofNat (i + 1) := own_add32 i 1 h
theorem own_inN {N k : Nat} {cl : Cell} (S : cl.slots.size = N) (hk : k < N) (hN : N ≤ 8192) : ¬ (Int32.ofNat k < 0 ∨ cl.slots.size ≤ (Int32.ofNat k).toNatClampNeg) := o_in S (by rw [own_i k (by omega)]; omega) (by rw [own_i k (by omega)]; omega)
theorem own_bb (x : Int32) : nar .byte x.toInt8.toInt32 = x.toInt8.toInt32 := by
  show x.toInt8.toInt32.toInt8.toInt32 = x.toInt8.toInt32
  rw [Int8.toInt8_toInt32]
theorem own_cc (x : Int32) (h0 : 0 ≤ x.toInt) (h1 : x.toInt ≤ 65535) : x.toUInt32.toUInt16.toUInt32.toInt32 = x := by
  have q := c_i2c x
  apply Int32.toInt_inj.mp
  omega
theorem own_narC (x : Int32) (h0 : 0 ≤ x.toInt) (h1 : x.toInt ≤ 65535) : nar .char x = x := own_cc x h0 h1
theorem own_chr (x : Int32) (h0 : 0 ≤ x.toInt) (h1 : x.toInt ≤ 255) : nar .char ((x.toInt8.toInt32 &&& (255 : Int32)).toUInt32.toUInt16.toUInt32.toInt32) = x := by
  have e : x.toInt8.toInt32 &&& (255 : Int32) = x := by
    apply Int32.toInt_inj.mp
    rw [c_mask _ _ 8 (by decide) (by decide)]
    have q := (c_i2b x).1
    have : ((2 ^ 8 : Nat) : Int) = 256 := by decide
    omega
  rw [e, own_cc x h0 (by omega)]
  exact own_narC x h0 (by omega)
theorem own_sh0 (x : Int32) : x >>> ((0 : Int32) &&& 31) = x := by
  apply Int32.toInt_inj.mp
  rw [c_ishr x 0 0 (by decide)]
  simp
theorem own_sub0 (x : Int32) : (((x - x).toUInt32 >>> ((31 : Int32) &&& 31).toUInt32).toInt32).toInt8.toInt32 = 0 := by
  rw [Int32.sub_self]
  decide
theorem own_s6i {v0 v1 v2 v3 v4 v5 : Value} {s6 : Slot} {x : Int32} (h : One s6) : storeLocals #[.val v0, .val v1, .val v2, .val v3, .val v4, .val v5, s6] 6 (.int x) = some #[.val v0, .val v1, .val v2, .val v3, .val v4, .val v5, .val (.int x)] := by
  rcases h with rfl | ⟨w, rfl, hw⟩
  · rfl
  · cases w <;> first | rfl | (simp [Value.category] at hw)
theorem own_s2i {v0 v1 : Value} {s2 : Slot} {x : Int32} (h : One s2) : storeLocals #[.val v0, .val v1, s2] 2 (.int x) = some #[.val v0, .val v1, .val (.int x)] := by
  rcases h with rfl | ⟨w, rfl, hw⟩
  · rfl
  · cases w <;> first | rfl | (simp [Value.category] at hw)
/-- a String of N chars f 0, f 1, .., each at most 255 -/
def OStr (Z : State) (h : Heap) (a t : Addr) (N : Nat) (f : Nat → Int32) : Prop := Exa Z h a "java/lang/String" ∧ Fld Z h a "java/lang/String" "coder" "B" (.int 0) ∧ Fld Z h a "java/lang/String" "value" "[B" (.ref t) ∧ OArr Z h t .byte N (fun j => .int (f j).toInt8.toInt32)
theorem OStr.ext {Z : State} {h h' : Heap} {a t : Addr} {N : Nat} {f : Nat → Int32} (S : OStr Z h a t N f) (E : Ext h h') : OStr Z h' a t N f := ⟨S.1.ext E, S.2.1.ext E, S.2.2.1.ext E, S.2.2.2.ext E⟩
theorem OStr.keep {Z : State} {h h' : Heap} {a t : Addr} {N : Nat} {f : Nat → Int32} {ws : List Addr} (S : OStr Z h a t N f) (K : Keep h h' ws) (q1 : a ∉ ws) (q2 : t ∉ ws) : OStr Z h' a t N f := ⟨S.1.keep K, S.2.1.keep K q1, S.2.2.1.keep K q1, S.2.2.2.keep K q2⟩
theorem OStr.wr {Z : State} {h h' : Heap} {a t b : Addr} {N sl : Nat} {v : Value} {f : Nat → Int32} (S : OStr Z h a t N f) (W : Wr h h' b sl v) (q1 : a ≠ b) (q2 : t ≠ b) : OStr Z h' a t N f := ⟨S.1.wr W, S.2.1.other W (Or.inl q1), S.2.2.1.other W (Or.inl q1), S.2.2.2.other W q2⟩
theorem own_safeNull {Z : State} {EL : List (String × Nat)} {vm : Vm} {h : Heap} {x : Addr} (hal : Z.vm.Alike vm) (E : Exa Z h x "java/lang/String") (F : Fld Z h x "java/lang/String" "value" "[B" .null) : Safe Z EL vm h x := fun B => by
  obtain ⟨cell, k, e1, e2, e3, -, -⟩ := E
  obtain ⟨cell', cf, kf, i, f, g1, g2, -, -, -, -, g3⟩ := F
  cases e1.symm.trans g1
  obtain ⟨p, -, u, a, -, q, -, F, rfl | rfl⟩ := B
  · cases (show h[q.sa]? = some q.sC from F.ha).symm.trans e1
    obtain ⟨cS, ⟨⟨-, -, -, ⟨c1, k1, i1, f1, -⟩, -, -, -, v1, -⟩, -⟩, -⟩ := F
    obtain ⟨k3, e3, -⟩ := State.fieldFound?_setVm (s := ({ Z with heap := h } : State)) hal (show ({ Z with heap := h } : State).fieldFound? _ _ _ = _ from g2)
    have e4 := (show (Wst Z vm h).fieldFound? _ _ _ = _ from e3).symm.trans f1
    simp only [Option.some.injEq, Prod.mk.injEq] at e4
    rw [e4.2.2.2, v1] at g3
    simp at g3
  · cases (show h[q.sd]? = some q.SA from F.hd).symm.trans e1
    obtain ⟨cS, -, -, f9, -⟩ := F
    have f8 : vm.findClass "[B" = some q.SA.cls := f9
    rw [hal.findClass] at f8
    obtain ⟨k1, q1, q2⟩ := Vm.findClass_spec f8
    obtain ⟨k2, q3, q4⟩ := Vm.findClass_spec e2
    cases q1.symm.trans q3
    have := q2.symm.trans q4
    revert this; decide
theorem own_neA {Z : State} {a0 : Array Value} {h : Heap} {b t : Addr} {C : String} {n N : Nat} {ty : FieldType} {f : Nat → Value} (wi : (Jvm.Cond.instantiable C n).before a0 Z = true) (E : Exa Z h b C) (F : OArr Z h t ty N f) : t ≠ b := fun e => by
  subst e
  obtain ⟨cl, ⟨A1, ⟨-, kA, hkA, compA, hkindA⟩, -⟩, -⟩ := F
  obtain ⟨cell, k, e1, e2, e3, -, -⟩ := E
  obtain ⟨t2, k', g1, g2, g3, -⟩ := Cond.instantiable_spec wi
  cases A1.symm.trans e1
  cases g1.symm.trans e2
  cases g2.symm.trans hkA
  have := g3.symm.trans hkindA
  cases this
theorem OArr.nil {Z : State} {h : Heap} {t : Addr} {cA : ClassId} {f : Nat → Value} (A : Arv Z h t cA .byte 0 [] (.int 0)) : OArr Z h t .byte 0 f := by
  obtain ⟨c, A1, -, A2, -⟩ := A
  exact ⟨c, A1, A2, fun j hj => absurd hj (Nat.not_lt_zero j)⟩
/-- g says whether P -/
def own_tv (g : Int32) (P : Prop) : Prop := (g = 1 ∧ P) ∨ (g = 0 ∧ ¬ P)
theorem own_tv.imp {g : Int32} {P P' : Prop} (h : own_tv g P) (q : P ↔ P') : own_tv g P' := Or.imp (fun r => ⟨r.1, q.mp r.2⟩) (fun r => ⟨r.1, fun z => r.2 (q.mpr z)⟩) h
theorem own_tv.uniq {g g' : Int32} {P : Prop} (h : own_tv g P) (h' : own_tv g' P) : g = g' := by
  rcases h with ⟨rfl, h⟩ | ⟨rfl, h⟩ <;> rcases h' with ⟨rfl, h'⟩ | ⟨rfl, h'⟩ <;> first | rfl | contradiction
theorem own_b8 {x y : Int32} (hx : 0 ≤ x.toInt ∧ x.toInt ≤ 255) (hy : 0 ≤ y.toInt ∧ y.toInt ≤ 255) (q : x.toInt8.toInt32 = y.toInt8.toInt32) : x = y := by
  rw [← own_chr x hx.1 hx.2, ← own_chr y hy.1 hy.2, q]
theorem pn_java_lang_StringUTF16 : plainName "java/lang/StringUTF16" = true := by first | (simp [plainName, overriddenIn]; done) | decide +kernel
theorem d19_3 : decode jdk_52_method_21_code 3 = .ok (.iload 5, 2) := by decide +kernel
theorem d19_5 : decode jdk_52_method_21_code 5 = .ok (.iload 4, 2) := by decide +kernel
theorem d19_7 : decode jdk_52_method_21_code 7 = .ok (.if_icmp .ge 37, 3) := by decide +kernel
theorem d19_44 : decode jdk_52_method_21_code 44 = .ok (.iload 4, 2) := by decide +kernel
theorem d19_46 : decode jdk_52_method_21_code 46 = .ok (.ireturn, 1) := by decide +kernel
theorem d19_10 : decode jdk_52_method_21_code 10 = .ok (.aload_n 0, 1) := by decide +kernel
theorem d19_11 : decode jdk_52_method_21_code 11 = .ok (.iload_n 1, 1) := by decide +kernel
theorem d19_12 : decode jdk_52_method_21_code 12 = .ok (.caload, 1) := by decide +kernel
theorem d19_13 : decode jdk_52_method_21_code 13 = .ok (.istore 6, 2) := by decide +kernel
theorem d19_15 : decode jdk_52_method_21_code 15 = .ok (.iload 6, 2) := by decide +kernel
theorem d19_17 : decode jdk_52_method_21_code 17 = .ok (.sipush 255, 3) := by decide +kernel
theorem d19_20 : decode jdk_52_method_21_code 20 = .ok (.if_icmp .le 6, 3) := by decide +kernel
theorem d19_26 : decode jdk_52_method_21_code 26 = .ok (.aload_n 2, 1) := by decide +kernel
theorem d19_27 : decode jdk_52_method_21_code 27 = .ok (.iload_n 3, 1) := by decide +kernel
theorem d19_28 : decode jdk_52_method_21_code 28 = .ok (.iload 6, 2) := by decide +kernel
theorem d19_30 : decode jdk_52_method_21_code 30 = .ok (.i2b, 1) := by decide +kernel
theorem d19_31 : decode jdk_52_method_21_code 31 = .ok (.bastore, 1) := by decide +kernel
theorem d19_32 : decode jdk_52_method_21_code 32 = .ok (.iinc 1 1, 3) := by decide +kernel
theorem d19_35 : decode jdk_52_method_21_code 35 = .ok (.iinc 3 1, 3) := by decide +kernel
theorem d19_38 : decode jdk_52_method_21_code 38 = .ok (.iinc 5 1, 3) := by decide +kernel
theorem d19_41 : decode jdk_52_method_21_code 41 = .ok (.goto (-38), 3) := by decide +kernel
theorem d19_0 : decode jdk_52_method_21_code 0 = .ok (.iconst 0, 1) := by decide +kernel
theorem d19_1 : decode jdk_52_method_21_code 1 = .ok (.istore 5, 2) := by decide +kernel
set_option maxRecDepth 65536 in
set_option maxHeartbeats 40000000 in
theorem sm1 (l : Launch) (Z : State) (a0 : Array Value) (hw : ∀ d ∈ tables_1, d.before a0 Z = true) (ca ba : Addr) (N : Nat) (f : Nat → Int32) (h0 : Heap) (n0 : Nat) (FC : OArr Z h0 ca .char N (fun j => .int (f j))) (FB : OArr Z h0 ba .byte N (fun _ => .int 0)) (hN : N ≤ 4000) (hch : ∀ j, j < N → 0 ≤ (f j).toInt ∧ (f j).toInt ≤ 255) (hnew : n0 ≤ ba) (ne : ca ≠ ba) :
    OMeets l Z (⟨"java/lang/StringUTF16", "compress", "([CI[BII)I"⟩ : MethodName) [] jdk_52_method_21_code 7 (some .int) ({ frames := 0, cells := 0, slots := 0, locals := 0 } : Room) #[(.ref ca), (.int (0 : Int32)), (.ref ba), (.int (0 : Int32)), (.int (Int32.ofNat N))] h0 n0 (fun v h => v = some (.int (Int32.ofNat N)) ∧ Keep h0 h [ba] ∧ OArr Z h ba .byte N (fun j => .int (f j).toInt8.toInt32)) := by
  refine o_enter (Z := Z) (plainFor_of_name pn_java_lang_StringUTF16) ?_
  intro p e s m below meth c T0 X0
  refine OFin.cast (g' := (mkF m 0 #[.val (.ref ca), .val (.int (0 : Int32)), .val (.ref ba), .val (.int (0 : Int32)), .val (.int (Int32.ofNat N)), .unset, .unset] [])) (by first | (simp [entryFrame, mkF, argsToLocals, Value.category]; done) | rfl) ?_
  have loop : ∀ (k i : Nat) (T : State) (h : Heap) (s6 : Slot), i + k = N → One s6 → OAt n0 Z (⟨"java/lang/StringUTF16", "compress", "([CI[BII)I"⟩ : MethodName) jdk_52_method_21_code 7 (some .int) p l e ({ frames := 0, cells := 0, slots := 0, locals := 0 } : Room) s m #[(.ref ca), (.int (0 : Int32)), (.ref ba), (.int (0 : Int32)), (.int (Int32.ofNat N))] below meth c T h 0 0 → OArr Z h ca .char N (fun j => .int (f j)) → OArr Z h ba .byte N (fun j => if j < i then .int (f j).toInt8.toInt32 else .int 0) → Keep h0 h [ba] → OFin n0 p e (fun o t L => FrameEnd s o t L ({ frames := 0, cells := 0, slots := 0, locals := 0 } : Room).cells ({ frames := 0, cells := 0, slots := 0, locals := 0 } : Room).slots) below (fun v h => v = some (.int (Int32.ofNat N)) ∧ Keep h0 h [ba] ∧ OArr Z h ba .byte N (fun j => .int (f j).toInt8.toInt32)) T (mkF m 3 #[.val (.ref ca), .val (.int (Int32.ofNat i)), .val (.ref ba), .val (.int (Int32.ofNat i)), .val (.int (Int32.ofNat N)), .val (.int (Int32.ofNat i)), s6] []) := by
    intro k
    induction k with
    | zero =>
      intro i T h s6 hik h6 X FC FB K
      have hiN : i = N := by omega
      refine X.step (fun hA hx hq t_ k_ => XS.iload hA hx rfl (hb hq d19_3) rfl k_) ?_
      show OFin _ _ _ _ _ _ T (mkF m 5 #[.val (.ref ca), .val (.int (Int32.ofNat i)), .val (.ref ba), .val (.int (Int32.ofNat i)), .val (.int (Int32.ofNat N)), .val (.int (Int32.ofNat i)), s6] [(.int (Int32.ofNat i))])
      refine X.step (fun hA hx hq t_ k_ => XS.iload hA hx rfl (hb hq d19_5) rfl k_) ?_
      show OFin _ _ _ _ _ _ T (mkF m 7 #[.val (.ref ca), .val (.int (Int32.ofNat i)), .val (.ref ba), .val (.int (Int32.ofNat i)), .val (.int (Int32.ofNat N)), .val (.int (Int32.ofNat i)), s6] [(.int (Int32.ofNat N)), (.int (Int32.ofNat i))])
      refine X.step (fun hA hx hq t_ k_ => XS.icmpYes hA hx rfl (pc0 := 7) (pc' := 44) rfl (hb hq d19_7) rfl (flt (fun c => by rw [own_lt32 i N (by omega) (by omega)] at c; omega)).2.1 (by decide) (by decide) k_) ?_
      show OFin _ _ _ _ _ _ T (mkF m 44 #[.val (.ref ca), .val (.int (Int32.ofNat i)), .val (.ref ba), .val (.int (Int32.ofNat i)), .val (.int (Int32.ofNat N)), .val (.int (Int32.ofNat i)), s6] [])
      refine X.step (fun hA hx hq t_ k_ => XS.iload hA hx rfl (hb hq d19_44) rfl k_) ?_
      show OFin _ _ _ _ _ _ T (mkF m 46 #[.val (.ref ca), .val (.int (Int32.ofNat i)), .val (.ref ba), .val (.int (Int32.ofNat i)), .val (.int (Int32.ofNat N)), .val (.int (Int32.ofNat i)), s6] [(.int (Int32.ofNat N))])
      exact X.retI d19_46 (oN (by decide) (by decide)) (⟨rfl, K, FB.congr fun j hj => if_pos (by omega)⟩)
    | succ k ih =>
      intro i T h s6 hik h6 X FC FB K
      have hlt : i < N := by omega
      obtain ⟨cc, Ac, Sc, Hc⟩ := id FC
      obtain ⟨cb, Ab, Sb, Hb⟩ := id FB
      have hi := hch i hlt
      refine X.step (fun hA hx hq t_ k_ => XS.iload hA hx rfl (hb hq d19_3) rfl k_) ?_
      show OFin _ _ _ _ _ _ T (mkF m 5 #[.val (.ref ca), .val (.int (Int32.ofNat i)), .val (.ref ba), .val (.int (Int32.ofNat i)), .val (.int (Int32.ofNat N)), .val (.int (Int32.ofNat i)), s6] [(.int (Int32.ofNat i))])
      refine X.step (fun hA hx hq t_ k_ => XS.iload hA hx rfl (hb hq d19_5) rfl k_) ?_
      show OFin _ _ _ _ _ _ T (mkF m 7 #[.val (.ref ca), .val (.int (Int32.ofNat i)), .val (.ref ba), .val (.int (Int32.ofNat i)), .val (.int (Int32.ofNat N)), .val (.int (Int32.ofNat i)), s6] [(.int (Int32.ofNat N)), (.int (Int32.ofNat i))])
      refine X.step (fun hA hx hq t_ k_ => XS.icmpNo hA hx rfl (hb hq d19_7) rfl (tlt ((own_lt32 i N (by omega) (by omega)).mpr hlt)).2.1 k_) ?_
      show OFin _ _ _ _ _ _ T (mkF m 10 #[.val (.ref ca), .val (.int (Int32.ofNat i)), .val (.ref ba), .val (.int (Int32.ofNat i)), .val (.int (Int32.ofNat N)), .val (.int (Int32.ofNat i)), s6] [])
      refine X.step (fun hA hx hq t_ k_ => XS.aloadN hA hx rfl (hb hq d19_10) rfl rfl k_) ?_
      show OFin _ _ _ _ _ _ T (mkF m 11 #[.val (.ref ca), .val (.int (Int32.ofNat i)), .val (.ref ba), .val (.int (Int32.ofNat i)), .val (.int (Int32.ofNat N)), .val (.int (Int32.ofNat i)), s6] [(.ref ca)])
      refine X.step (fun hA hx hq t_ k_ => XS.iloadN hA hx rfl (hb hq d19_11) rfl k_) ?_
      show OFin _ _ _ _ _ _ T (mkF m 12 #[.val (.ref ca), .val (.int (Int32.ofNat i)), .val (.ref ba), .val (.int (Int32.ofNat i)), .val (.int (Int32.ofNat N)), .val (.int (Int32.ofNat i)), s6] [(.int (Int32.ofNat i)), (.ref ca)])
      refine X.aload0 Ac (v := (.int (f i))) (own_inN Sc hlt (by omega)) (by rw [own_iN i (by omega)]; exact Hc i hlt) (g := (mkF m 12 #[.val (.ref ca), .val (.int (Int32.ofNat i)), .val (.ref ba), .val (.int (Int32.ofNat i)), .val (.int (Int32.ofNat N)), .val (.int (Int32.ofNat i)), s6] [(.int (Int32.ofNat i)), (.ref ca)])) rfl rfl (Or.inr (Or.inr (Or.inl ⟨rfl, rfl⟩))) d19_12 ?_
      show OFin _ _ _ _ _ _ T (mkF m 13 #[.val (.ref ca), .val (.int (Int32.ofNat i)), .val (.ref ba), .val (.int (Int32.ofNat i)), .val (.int (Int32.ofNat N)), .val (.int (Int32.ofNat i)), s6] [(.int (f i))])
      refine X.step (fun hA hx hq t_ k_ => XS.istore hA hx rfl (hb hq d19_13) rfl (l' := #[.val (.ref ca), .val (.int (Int32.ofNat i)), .val (.ref ba), .val (.int (Int32.ofNat i)), .val (.int (Int32.ofNat N)), .val (.int (Int32.ofNat i)), .val (.int (f i))]) (own_s6i h6) k_) ?_
      show OFin _ _ _ _ _ _ T (mkF m 15 #[.val (.ref ca), .val (.int (Int32.ofNat i)), .val (.ref ba), .val (.int (Int32.ofNat i)), .val (.int (Int32.ofNat N)), .val (.int (Int32.ofNat i)), .val (.int (f i))] [])
      refine X.step (fun hA hx hq t_ k_ => XS.iload hA hx rfl (hb hq d19_15) rfl k_) ?_
      show OFin _ _ _ _ _ _ T (mkF m 17 #[.val (.ref ca), .val (.int (Int32.ofNat i)), .val (.ref ba), .val (.int (Int32.ofNat i)), .val (.int (Int32.ofNat N)), .val (.int (Int32.ofNat i)), .val (.int (f i))] [(.int (f i))])
      refine X.step (fun hA hx hq t_ k_ => XS.sipush hA hx rfl (hb hq d19_17) k_) ?_
      show OFin _ _ _ _ _ _ T (mkF m 20 #[.val (.ref ca), .val (.int (Int32.ofNat i)), .val (.ref ba), .val (.int (Int32.ofNat i)), .val (.int (Int32.ofNat N)), .val (.int (Int32.ofNat i)), .val (.int (f i))] [(.int (255 : Int32)), (.int (f i))])
      refine X.step (fun hA hx hq t_ k_ => XS.icmpYes hA hx rfl (pc0 := 20) (pc' := 26) rfl (hb hq d19_20) rfl (flt ((by rw [Int32.lt_iff_toInt_lt]; have : (255 : Int32).toInt = 255 := (by decide); omega))).2.2.2 (by decide) (by decide) k_) ?_
      show OFin _ _ _ _ _ _ T (mkF m 26 #[.val (.ref ca), .val (.int (Int32.ofNat i)), .val (.ref ba), .val (.int (Int32.ofNat i)), .val (.int (Int32.ofNat N)), .val (.int (Int32.ofNat i)), .val (.int (f i))] [])
      refine X.step (fun hA hx hq t_ k_ => XS.aloadN hA hx rfl (hb hq d19_26) rfl rfl k_) ?_
      show OFin _ _ _ _ _ _ T (mkF m 27 #[.val (.ref ca), .val (.int (Int32.ofNat i)), .val (.ref ba), .val (.int (Int32.ofNat i)), .val (.int (Int32.ofNat N)), .val (.int (Int32.ofNat i)), .val (.int (f i))] [(.ref ba)])
      refine X.step (fun hA hx hq t_ k_ => XS.iloadN hA hx rfl (hb hq d19_27) rfl k_) ?_
      show OFin _ _ _ _ _ _ T (mkF m 28 #[.val (.ref ca), .val (.int (Int32.ofNat i)), .val (.ref ba), .val (.int (Int32.ofNat i)), .val (.int (Int32.ofNat N)), .val (.int (Int32.ofNat i)), .val (.int (f i))] [(.int (Int32.ofNat i)), (.ref ba)])
      refine X.step (fun hA hx hq t_ k_ => XS.iload hA hx rfl (hb hq d19_28) rfl k_) ?_
      show OFin _ _ _ _ _ _ T (mkF m 30 #[.val (.ref ca), .val (.int (Int32.ofNat i)), .val (.ref ba), .val (.int (Int32.ofNat i)), .val (.int (Int32.ofNat N)), .val (.int (Int32.ofNat i)), .val (.int (f i))] [(.int (f i)), (.int (Int32.ofNat i)), (.ref ba)])
      refine X.step (fun hA hx hq t_ k_ => XS.i2b hA hx rfl (hb hq d19_30) rfl k_) ?_
      show OFin _ _ _ _ _ _ T (mkF m 31 #[.val (.ref ca), .val (.int (Int32.ofNat i)), .val (.ref ba), .val (.int (Int32.ofNat i)), .val (.int (Int32.ofNat N)), .val (.int (Int32.ofNat i)), .val (.int (f i))] [(.int ((f i).toInt8.toInt32)), (.int (Int32.ofNat i)), (.ref ba)])
      refine X.stB Ab (own_inN Sb hlt (by omega)) (hnew) (g := (mkF m 31 #[.val (.ref ca), .val (.int (Int32.ofNat i)), .val (.ref ba), .val (.int (Int32.ofNat i)), .val (.int (Int32.ofNat N)), .val (.int (Int32.ofNat i)), .val (.int (f i))] [(.int ((f i).toInt8.toInt32)), (.int (Int32.ofNat i)), (.ref ba)])) rfl rfl d19_31 ?_
      intro T1 h1 X1 W1
      show OFin _ _ _ _ _ _ T1 (mkF m 32 #[.val (.ref ca), .val (.int (Int32.ofNat i)), .val (.ref ba), .val (.int (Int32.ofNat i)), .val (.int (Int32.ofNat N)), .val (.int (Int32.ofNat i)), .val (.int (f i))] [])
      rw [own_iN i (by omega), own_bb] at W1
      refine X1.step (fun hA hx hq t_ k_ => XS.iinc hA hx rfl (hb hq d19_32) rfl (l' := #[.val (.ref ca), .val (.int ((Int32.ofNat i) + (1 : Int32))), .val (.ref ba), .val (.int (Int32.ofNat i)), .val (.int (Int32.ofNat N)), .val (.int (Int32.ofNat i)), .val (.int (f i))]) rfl k_) ?_
      show OFin _ _ _ _ _ _ T1 (mkF m 35 #[.val (.ref ca), .val (.int ((Int32.ofNat i) + (1 : Int32))), .val (.ref ba), .val (.int (Int32.ofNat i)), .val (.int (Int32.ofNat N)), .val (.int (Int32.ofNat i)), .val (.int (f i))] [])
      refine X1.step (fun hA hx hq t_ k_ => XS.iinc hA hx rfl (hb hq d19_35) rfl (l' := #[.val (.ref ca), .val (.int ((Int32.ofNat i) + (1 : Int32))), .val (.ref ba), .val (.int ((Int32.ofNat i) + (1 : Int32))), .val (.int (Int32.ofNat N)), .val (.int (Int32.ofNat i)), .val (.int (f i))]) rfl k_) ?_
      show OFin _ _ _ _ _ _ T1 (mkF m 38 #[.val (.ref ca), .val (.int ((Int32.ofNat i) + (1 : Int32))), .val (.ref ba), .val (.int ((Int32.ofNat i) + (1 : Int32))), .val (.int (Int32.ofNat N)), .val (.int (Int32.ofNat i)), .val (.int (f i))] [])
      refine X1.step (fun hA hx hq t_ k_ => XS.iinc hA hx rfl (hb hq d19_38) rfl (l' := #[.val (.ref ca), .val (.int ((Int32.ofNat i) + (1 : Int32))), .val (.ref ba), .val (.int ((Int32.ofNat i) + (1 : Int32))), .val (.int (Int32.ofNat N)), .val (.int ((Int32.ofNat i) + (1 : Int32))), .val (.int (f i))]) rfl k_) ?_
      show OFin _ _ _ _ _ _ T1 (mkF m 41 #[.val (.ref ca), .val (.int ((Int32.ofNat i) + (1 : Int32))), .val (.ref ba), .val (.int ((Int32.ofNat i) + (1 : Int32))), .val (.int (Int32.ofNat N)), .val (.int ((Int32.ofNat i) + (1 : Int32))), .val (.int (f i))] [])
      rw [own_succ i (by omega)]
      show OFin _ _ _ _ _ _ T1 (mkF m 41 #[.val (.ref ca), .val (.int (Int32.ofNat (i + 1))), .val (.ref ba), .val (.int (Int32.ofNat (i + 1))), .val (.int (Int32.ofNat N)), .val (.int (Int32.ofNat (i + 1))), .val (.int (f i))] [])
      refine X1.step (fun hA hx hq t_ k_ => XS.goto hA hx rfl (pc0 := 41) (pc' := 3) rfl (hb hq d19_41) (by decide) (by decide) k_) ?_
      show OFin _ _ _ _ _ _ T1 (mkF m 3 #[.val (.ref ca), .val (.int (Int32.ofNat (i + 1))), .val (.ref ba), .val (.int (Int32.ofNat (i + 1))), .val (.int (Int32.ofNat N)), .val (.int (Int32.ofNat (i + 1))), .val (.int (f i))] [])
      refine ih (i + 1) T1 h1 _ (by omega) (One.val rfl) X1 (FC.other W1 ne) ((FB.set W1).congr fun j hj => ?_) (K.wr W1 (Or.inl (List.mem_of_getElem? (i := 0) rfl)))
      by_cases c : j = i
      · have c2 : j < i + 1 := by omega
        simp only [c, if_true]
        rw [if_pos (by omega)]
      · by_cases d : j < i
        · have d2 : j < i + 1 := by omega
          simp only [c, d, d2, if_true, if_false]
        · have d2 : ¬ j < i + 1 := by omega
          simp only [c, d, d2, if_false]
  refine X0.step (fun hA hx hq t_ k_ => XS.iconst hA hx rfl (hb hq d19_0) k_) ?_
  show OFin _ _ _ _ _ _ T0 (mkF m 1 #[.val (.ref ca), .val (.int (0 : Int32)), .val (.ref ba), .val (.int (0 : Int32)), .val (.int (Int32.ofNat N)), .unset, .unset] [(.int (0 : Int32))])
  refine X0.step (fun hA hx hq t_ k_ => XS.istore hA hx rfl (hb hq d19_1) rfl (l' := #[.val (.ref ca), .val (.int (0 : Int32)), .val (.ref ba), .val (.int (0 : Int32)), .val (.int (Int32.ofNat N)), .val (.int (0 : Int32)), .unset]) rfl k_) ?_
  show OFin _ _ _ _ _ _ T0 (mkF m 3 #[.val (.ref ca), .val (.int (0 : Int32)), .val (.ref ba), .val (.int (0 : Int32)), .val (.int (Int32.ofNat N)), .val (.int (0 : Int32)), .unset] [])
  exact loop N 0 T0 h0 .unset (by omega) One.u X0 FC (FB.congr fun j hj => by simp) (Keep.refl _ _)
theorem d18_0 : decode jdk_52_method_16_code 0 = .ok (.iload_n 2, 1) := by decide +kernel
theorem d18_1 : decode jdk_52_method_16_code 1 = .ok (.newarray .byte, 2) := by decide +kernel
theorem d18_3 : decode jdk_52_method_16_code 3 = .ok (.astore_n 3, 1) := by decide +kernel
theorem d18_4 : decode jdk_52_method_16_code 4 = .ok (.aload_n 0, 1) := by decide +kernel
theorem d18_5 : decode jdk_52_method_16_code 5 = .ok (.iload_n 1, 1) := by decide +kernel
theorem d18_6 : decode jdk_52_method_16_code 6 = .ok (.aload_n 3, 1) := by decide +kernel
theorem d18_7 : decode jdk_52_method_16_code 7 = .ok (.iconst 0, 1) := by decide +kernel
theorem d18_8 : decode jdk_52_method_16_code 8 = .ok (.iload_n 2, 1) := by decide +kernel
theorem d18_9 : decode jdk_52_method_16_code 9 = .ok (.invokestatic 115, 3) := by decide +kernel
theorem pd_pA_CIA_BIIr_I : parseMethodDescriptor "([CI[BII)I" = some ⟨[(.array .char), .int, (.array .byte), .int, .int], some .int⟩ := by decide +kernel
theorem d18_12 : decode jdk_52_method_16_code 12 = .ok (.istore 4, 2) := by decide +kernel
theorem d18_14 : decode jdk_52_method_16_code 14 = .ok (.iload 4, 2) := by decide +kernel
theorem d18_16 : decode jdk_52_method_16_code 16 = .ok (.iload_n 2, 1) := by decide +kernel
theorem d18_17 : decode jdk_52_method_16_code 17 = .ok (.if_icmp .eq 40, 3) := by decide +kernel
theorem d18_57 : decode jdk_52_method_16_code 57 = .ok (.aload_n 3, 1) := by decide +kernel
theorem d18_58 : decode jdk_52_method_16_code 58 = .ok (.areturn, 1) := by decide +kernel
set_option maxRecDepth 65536 in
set_option maxHeartbeats 40000000 in
theorem sm2 (l : Launch) (Z : State) (a0 : Array Value) (hw : ∀ d ∈ tables_1, d.before a0 Z = true) (ca : Addr) (N : Nat) (f : Nat → Int32) (h0 : Heap) (n0 : Nat) (FC : OArr Z h0 ca .char N (fun j => .int (f j))) (hN : N ≤ 4) (hch : ∀ j, j < N → 0 ≤ (f j).toInt ∧ (f j).toInt ≤ 255) (Z0 : n0 ≤ h0.size) :
    OMeets l Z (⟨"java/lang/StringUTF16", "compress", "([CII)[B"⟩ : MethodName) [] jdk_52_method_16_code 6 (some (.array .byte)) ({ frames := 1, cells := 1, slots := 4, locals := 18 } : Room) #[(.ref ca), (.int (0 : Int32)), (.int (Int32.ofNat N))] h0 n0 (fun v h => ∃ t, v = some (.ref t) ∧ Keep h0 h [] ∧ OArr Z h t .byte N (fun j => .int (f j).toInt8.toInt32) ∧ h0.size ≤ t) := by
  refine o_enter (Z := Z) (plainFor_of_name pn_java_lang_StringUTF16) ?_
  intro p e s m below meth c T0 X0
  refine OFin.cast (g' := (mkF m 0 #[.val (.ref ca), .val (.int (0 : Int32)), .val (.int (Int32.ofNat N)), .unset, .unset, .unset] [])) (by first | (simp [entryFrame, mkF, argsToLocals, Value.category]; done) | rfl) ?_
  refine X0.step (fun hA hx hq t_ k_ => XS.iloadN hA hx rfl (hb hq d18_0) rfl k_) ?_
  show OFin _ _ _ _ _ _ T0 (mkF m 1 #[.val (.ref ca), .val (.int (0 : Int32)), .val (.int (Int32.ofNat N)), .unset, .unset, .unset] [(.int (Int32.ofNat N))])
  refine X0.newP (hw _ (List.mem_of_getElem? (i := 23) rfl)) (g := (mkF m 1 #[.val (.ref ca), .val (.int (0 : Int32)), .val (.int (Int32.ofNat N)), .unset, .unset, .unset] [(.int (Int32.ofNat N))])) rfl d18_1 rfl (by rw [Int32.lt_iff_toInt_lt, own_i N (by omega)]; have : (0 : Int32).toInt = 0 := (by decide); omega) (cap := 4) (by rw [own_iN N (by omega)]; exact hN) (by decide) (by decide) (by decide) (ad := "[B") (by first | rfl | decide) ?_
  intro T1 h1 k1 b1 gb1 X1 E1 A1 G1
  show OFin _ _ _ _ _ _ T1 (mkF m 3 #[.val (.ref ca), .val (.int (0 : Int32)), .val (.int (Int32.ofNat N)), .unset, .unset, .unset] [(.ref b1)])
  refine X1.step (fun hA hx hq t_ k_ => XS.astoreN hA hx rfl (hb hq d18_3) rfl rfl (l' := #[.val (.ref ca), .val (.int (0 : Int32)), .val (.int (Int32.ofNat N)), .val (.ref b1), .unset, .unset]) rfl k_) ?_
  show OFin _ _ _ _ _ _ T1 (mkF m 4 #[.val (.ref ca), .val (.int (0 : Int32)), .val (.int (Int32.ofNat N)), .val (.ref b1), .unset, .unset] [])
  refine X1.step (fun hA hx hq t_ k_ => XS.aloadN hA hx rfl (hb hq d18_4) rfl rfl k_) ?_
  show OFin _ _ _ _ _ _ T1 (mkF m 5 #[.val (.ref ca), .val (.int (0 : Int32)), .val (.int (Int32.ofNat N)), .val (.ref b1), .unset, .unset] [(.ref ca)])
  refine X1.step (fun hA hx hq t_ k_ => XS.iloadN hA hx rfl (hb hq d18_5) rfl k_) ?_
  show OFin _ _ _ _ _ _ T1 (mkF m 6 #[.val (.ref ca), .val (.int (0 : Int32)), .val (.int (Int32.ofNat N)), .val (.ref b1), .unset, .unset] [(.int (0 : Int32)), (.ref ca)])
  refine X1.step (fun hA hx hq t_ k_ => XS.aloadN hA hx rfl (hb hq d18_6) rfl rfl k_) ?_
  show OFin _ _ _ _ _ _ T1 (mkF m 7 #[.val (.ref ca), .val (.int (0 : Int32)), .val (.int (Int32.ofNat N)), .val (.ref b1), .unset, .unset] [(.ref b1), (.int (0 : Int32)), (.ref ca)])
  refine X1.step (fun hA hx hq t_ k_ => XS.iconst hA hx rfl (hb hq d18_7) k_) ?_
  show OFin _ _ _ _ _ _ T1 (mkF m 8 #[.val (.ref ca), .val (.int (0 : Int32)), .val (.int (Int32.ofNat N)), .val (.ref b1), .unset, .unset] [(.int (0 : Int32)), (.ref b1), (.int (0 : Int32)), (.ref ca)])
  refine X1.step (fun hA hx hq t_ k_ => XS.iloadN hA hx rfl (hb hq d18_8) rfl k_) ?_
  show OFin _ _ _ _ _ _ T1 (mkF m 9 #[.val (.ref ca), .val (.int (0 : Int32)), .val (.int (Int32.ofNat N)), .val (.ref b1), .unset, .unset] [(.int (Int32.ofNat N)), (.int (0 : Int32)), (.ref b1), (.int (0 : Int32)), (.ref ca)])
  have FB : OArr Z h1 b1 .byte N (fun _ => .int 0) := by
    have q := OArr.new A1
    rw [own_iN N (by omega)] at q
    exact q
  refine X1.callS (y' := (⟨"java/lang/StringUTF16", "compress", "([CI[BII)I"⟩ : MethodName)) (hw _ (List.mem_of_getElem? (i := 94) rfl)) (hw _ (List.mem_of_getElem? (i := 95) rfl)) (hw _ (List.mem_of_getElem? (i := 92) rfl)) (hw _ (List.mem_of_getElem? (i := 96) rfl)) (by decide) (argsL := [(.ref ca), (.int (0 : Int32)), (.ref b1), (.int (0 : Int32)), (.int (Int32.ofNat N))]) (rest := []) (sm1 l Z a0 hw ca b1 N f h1 n0 (FC.ext E1) FB (by omega) hch (by rw [gb1]; exact Z0) (by rw [gb1]; exact Nat.ne_of_lt FC.lt)) (g := (mkF m 9 #[.val (.ref ca), .val (.int (0 : Int32)), .val (.int (Int32.ofNat N)), .val (.ref b1), .unset, .unset] [(.int (Int32.ofNat N)), (.int (0 : Int32)), (.ref b1), (.int (0 : Int32)), (.ref ca)])) rfl rfl pd_pA_CIA_BIIr_I rfl rfl (W := 0) (by show 2 * 0 + _ ≤ _; exact Nat.le_of_eq rfl) d18_9 (by decide) (by decide) (by decide) (by decide) ?_
  intro v2 T2 h2 X2 q2
  obtain ⟨rfl, K2, F2⟩ := q2
  show OFin _ _ _ _ _ _ T2 (mkF m 12 #[.val (.ref ca), .val (.int (0 : Int32)), .val (.int (Int32.ofNat N)), .val (.ref b1), .unset, .unset] [(.int (Int32.ofNat N))])
  refine X2.step (fun hA hx hq t_ k_ => XS.istore hA hx rfl (hb hq d18_12) rfl (l' := #[.val (.ref ca), .val (.int (0 : Int32)), .val (.int (Int32.ofNat N)), .val (.ref b1), .val (.int (Int32.ofNat N)), .unset]) rfl k_) ?_
  show OFin _ _ _ _ _ _ T2 (mkF m 14 #[.val (.ref ca), .val (.int (0 : Int32)), .val (.int (Int32.ofNat N)), .val (.ref b1), .val (.int (Int32.ofNat N)), .unset] [])
  refine X2.step (fun hA hx hq t_ k_ => XS.iload hA hx rfl (hb hq d18_14) rfl k_) ?_
  show OFin _ _ _ _ _ _ T2 (mkF m 16 #[.val (.ref ca), .val (.int (0 : Int32)), .val (.int (Int32.ofNat N)), .val (.ref b1), .val (.int (Int32.ofNat N)), .unset] [(.int (Int32.ofNat N))])
  refine X2.step (fun hA hx hq t_ k_ => XS.iloadN hA hx rfl (hb hq d18_16) rfl k_) ?_
  show OFin _ _ _ _ _ _ T2 (mkF m 17 #[.val (.ref ca), .val (.int (0 : Int32)), .val (.int (Int32.ofNat N)), .val (.ref b1), .val (.int (Int32.ofNat N)), .unset] [(.int (Int32.ofNat N)), (.int (Int32.ofNat N))])
  refine X2.step (fun hA hx hq t_ k_ => XS.icmpYes hA hx rfl (pc0 := 17) (pc' := 57) rfl (hb hq d18_17) rfl (teq ((rfl : (Int32.ofNat N) = (Int32.ofNat N)))).1 (by decide) (by decide) k_) ?_
  show OFin _ _ _ _ _ _ T2 (mkF m 57 #[.val (.ref ca), .val (.int (0 : Int32)), .val (.int (Int32.ofNat N)), .val (.ref b1), .val (.int (Int32.ofNat N)), .unset] [])
  refine X2.step (fun hA hx hq t_ k_ => XS.aloadN hA hx rfl (hb hq d18_57) rfl rfl k_) ?_
  show OFin _ _ _ _ _ _ T2 (mkF m 58 #[.val (.ref ca), .val (.int (0 : Int32)), .val (.int (Int32.ofNat N)), .val (.ref b1), .val (.int (Int32.ofNat N)), .unset] [(.ref b1)])
  exact X2.retR rfl rfl d18_58 (oN (by decide) (by decide)) (⟨b1, rfl, ((Keep.refl h0 []).ext E1).trans K2 (allS (Or.inr (Nat.le_of_eq gb1.symm)) all0), F2, Nat.le_of_eq gb1.symm⟩)
theorem d20_0 : decode jdk_52_method_15_code 0 = .ok (.iload_n 1, 1) := by decide +kernel
theorem d20_1 : decode jdk_52_method_15_code 1 = .ok (.aload_n 0, 1) := by decide +kernel
theorem d20_2 : decode jdk_52_method_15_code 2 = .ok (.arraylength, 1) := by decide +kernel
theorem d20_3 : decode jdk_52_method_15_code 3 = .ok (.isub, 1) := by decide +kernel
theorem d20_4 : decode jdk_52_method_15_code 4 = .ok (.bipush 31, 2) := by decide +kernel
theorem d20_6 : decode jdk_52_method_15_code 6 = .ok (.iushr, 1) := by decide +kernel
theorem d20_7 : decode jdk_52_method_15_code 7 = .ok (.i2b, 1) := by decide +kernel
theorem d20_8 : decode jdk_52_method_15_code 8 = .ok (.ireturn, 1) := by decide +kernel
set_option maxRecDepth 65536 in
set_option maxHeartbeats 40000000 in
theorem sm3 (l : Launch) (Z : State) (a0 : Array Value) (hw : ∀ d ∈ tables_1, d.before a0 Z = true) (t : Addr) (N : Nat) (g_ : Nat → Value) (h0 : Heap) (n0 : Nat) (F : OArr Z h0 t .byte N g_) :
    OMeets l Z (⟨"java/lang/StringUTF16", "coderFromArrayLen", "([BI)B"⟩ : MethodName) [] jdk_52_method_15_code 2 (some .byte) ({ frames := 0, cells := 0, slots := 0, locals := 0 } : Room) #[(.ref t), (.int (Int32.ofNat N))] h0 n0 (fun v h => v = some (.int 0) ∧ h0 = h) := by
  refine o_enter (Z := Z) (plainFor_of_name pn_java_lang_StringUTF16) ?_
  intro p e s m below meth c T0 X0
  refine OFin.cast (g' := (mkF m 0 #[.val (.ref t), .val (.int (Int32.ofNat N))] [])) (by first | (simp [entryFrame, mkF, argsToLocals, Value.category]; done) | rfl) ?_
  obtain ⟨c1, A1, S1, H1⟩ := id F
  refine X0.step (fun hA hx hq t_ k_ => XS.iloadN hA hx rfl (hb hq d20_0) rfl k_) ?_
  show OFin _ _ _ _ _ _ T0 (mkF m 1 #[.val (.ref t), .val (.int (Int32.ofNat N))] [(.int (Int32.ofNat N))])
  refine X0.step (fun hA hx hq t_ k_ => XS.aloadN hA hx rfl (hb hq d20_1) rfl rfl k_) ?_
  show OFin _ _ _ _ _ _ T0 (mkF m 2 #[.val (.ref t), .val (.int (Int32.ofNat N))] [(.ref t), (.int (Int32.ofNat N))])
  refine X0.alen A1 (n := (Int32.ofNat N)) (by rw [S1]) (g := (mkF m 2 #[.val (.ref t), .val (.int (Int32.ofNat N))] [(.ref t), (.int (Int32.ofNat N))])) rfl rfl d20_2 ?_
  show OFin _ _ _ _ _ _ T0 (mkF m 3 #[.val (.ref t), .val (.int (Int32.ofNat N))] [(.int (Int32.ofNat N)), (.int (Int32.ofNat N))])
  refine X0.step (fun hA hx hq t_ k_ => XS.isub hA hx rfl (hb hq d20_3) rfl k_) ?_
  show OFin _ _ _ _ _ _ T0 (mkF m 4 #[.val (.ref t), .val (.int (Int32.ofNat N))] [(.int ((Int32.ofNat N) - (Int32.ofNat N)))])
  refine X0.step (fun hA hx hq t_ k_ => XS.bipush hA hx rfl (hb hq d20_4) k_) ?_
  show OFin _ _ _ _ _ _ T0 (mkF m 6 #[.val (.ref t), .val (.int (Int32.ofNat N))] [(.int (31 : Int32)), (.int ((Int32.ofNat N) - (Int32.ofNat N)))])
  refine X0.step (fun hA hx hq t_ k_ => XS.iushr hA hx rfl (hb hq d20_6) rfl k_) ?_
  show OFin _ _ _ _ _ _ T0 (mkF m 7 #[.val (.ref t), .val (.int (Int32.ofNat N))] [(.int ((((Int32.ofNat N) - (Int32.ofNat N)).toUInt32 >>> ((31 : Int32) &&& 31).toUInt32).toInt32))])
  refine X0.step (fun hA hx hq t_ k_ => XS.i2b hA hx rfl (hb hq d20_7) rfl k_) ?_
  show OFin _ _ _ _ _ _ T0 (mkF m 8 #[.val (.ref t), .val (.int (Int32.ofNat N))] [(.int (((((Int32.ofNat N) - (Int32.ofNat N)).toUInt32 >>> ((31 : Int32) &&& 31).toUInt32).toInt32).toInt8.toInt32))])
  exact X0.retN (by simp) d20_8 (oN (by decide) (by decide)) (⟨by rw [own_sub0]; rfl, rfl⟩)
theorem pn_java_lang_String : plainName "java/lang/String" = true := by first | (simp [plainName, overriddenIn]; done) | decide +kernel
theorem d4_0 : decode jdk_42_method_149_code 0 = .ok (.aload_n 0, 1) := by decide +kernel
theorem d4_1 : decode jdk_42_method_149_code 1 = .ok (.invokespecial 1, 3) := by decide +kernel
theorem d4_4 : decode jdk_42_method_149_code 4 = .ok (.iload_n 3, 1) := by decide +kernel
theorem d4_5 : decode jdk_42_method_149_code 5 = .ok (.ifCond .ne 22, 3) := by decide +kernel
theorem d4_27 : decode jdk_42_method_149_code 27 = .ok (.getstatic 38, 3) := by decide +kernel
theorem d4_30 : decode jdk_42_method_149_code 30 = .ok (.ifCond .eq 28, 3) := by decide +kernel
theorem d4_33 : decode jdk_42_method_149_code 33 = .ok (.aload_n 1, 1) := by decide +kernel
theorem d4_34 : decode jdk_42_method_149_code 34 = .ok (.iload_n 2, 1) := by decide +kernel
theorem d4_35 : decode jdk_42_method_149_code 35 = .ok (.iload_n 3, 1) := by decide +kernel
theorem d4_36 : decode jdk_42_method_149_code 36 = .ok (.invokestatic 177, 3) := by decide +kernel
theorem pd_pA_CIIr_A_B : parseMethodDescriptor "([CII)[B" = some ⟨[(.array .char), .int, .int], some (.array .byte)⟩ := by decide +kernel
theorem d4_39 : decode jdk_42_method_149_code 39 = .ok (.astore 5, 2) := by decide +kernel
theorem d4_41 : decode jdk_42_method_149_code 41 = .ok (.aload_n 0, 1) := by decide +kernel
theorem d4_42 : decode jdk_42_method_149_code 42 = .ok (.aload 5, 2) := by decide +kernel
theorem d4_44 : decode jdk_42_method_149_code 44 = .ok (.iload_n 3, 1) := by decide +kernel
theorem d4_45 : decode jdk_42_method_149_code 45 = .ok (.invokestatic 47, 3) := by decide +kernel
theorem pd_pA_BIr_B : parseMethodDescriptor "([BI)B" = some ⟨[(.array .byte), .int], some .byte⟩ := by decide +kernel
theorem d4_48 : decode jdk_42_method_149_code 48 = .ok (.putfield 15, 3) := by decide +kernel
theorem d4_51 : decode jdk_42_method_149_code 51 = .ok (.aload_n 0, 1) := by decide +kernel
theorem d4_52 : decode jdk_42_method_149_code 52 = .ok (.aload 5, 2) := by decide +kernel
theorem d4_54 : decode jdk_42_method_149_code 54 = .ok (.putfield 9, 3) := by decide +kernel
theorem d4_57 : decode jdk_42_method_149_code 57 = .ok (.return_, 1) := by decide +kernel
set_option maxRecDepth 65536 in
set_option maxHeartbeats 40000000 in
theorem sm4 (l : Launch) (Z : State) (a0 : Array Value) (hw : ∀ d ∈ tables_1, d.before a0 Z = true) (a1 ca : Addr) (N : Nat) (f : Nat → Int32) (cs : Int32) (h0 : Heap) (n0 : Nat) (F1 : Fld Z h0 a1 "java/lang/String" "value" "[B" .null) (F2 : Fld Z h0 a1 "java/lang/String" "coder" "B" (.int 0)) (E : Exa Z h0 a1 "java/lang/String") (hn : n0 ≤ a1) (FC : OArr Z h0 ca .char N (fun j => .int (f j))) (hN0 : 0 < N) (hN : N ≤ 4) (hch : ∀ j, j < N → 0 ≤ (f j).toInt ∧ (f j).toInt ≤ 255) (Z0 : n0 ≤ h0.size) (SS : Sta Z h0 "java/lang/String" "COMPACT_STRINGS" "Z" (.int cs)) (hcs : ¬ cs = 0) :
    OMeets l Z (⟨"java/lang/String", "<init>", "([CIILjava/lang/Void;)V"⟩ : MethodName) [] jdk_42_method_149_code 6 none ({ frames := 2, cells := 1, slots := 4, locals := 35 } : Room) #[(.ref a1), (.ref ca), (.int (0 : Int32)), (.int (Int32.ofNat N)), .null] h0 n0 (fun v h => v = none ∧ Keep h0 h [a1] ∧ ∃ t, OStr Z h a1 t N f ∧ h0.size ≤ t) := by
  refine o_enter (Z := Z) (plainFor_of_name pn_java_lang_String) ?_
  intro p e s m below meth c T0 X0
  refine OFin.cast (g' := (mkF m 0 #[.val (.ref a1), .val (.ref ca), .val (.int (0 : Int32)), .val (.int (Int32.ofNat N)), .val .null, .unset] [])) (by first | (simp [entryFrame, mkF, argsToLocals, Value.category]; done) | rfl) ?_
  have sne := (slot_ne (Or.inr (hw _ (List.mem_of_getElem? (i := 24) rfl))) (Or.inr (hw _ (List.mem_of_getElem? (i := 25) rfl))) (by decide) (t := (.array .byte)) (t' := .byte) (by decide) (by decide))
  refine X0.step (fun hA hx hq t_ k_ => XS.aloadN hA hx rfl (hb hq d4_0) rfl rfl k_) ?_
  show OFin _ _ _ _ _ _ T0 (mkF m 1 #[.val (.ref a1), .val (.ref ca), .val (.int (0 : Int32)), .val (.int (Int32.ofNat N)), .val .null, .unset] [(.ref a1)])
  refine X0.initO (hw _ (List.mem_of_getElem? (i := 19) rfl)) (hw _ (List.mem_of_getElem? (i := 20) rfl)) (hw _ (List.mem_of_getElem? (i := 21) rfl)) (g := (mkF m 1 #[.val (.ref a1), .val (.ref ca), .val (.int (0 : Int32)), .val (.int (Int32.ofNat N)), .val .null, .unset] [(.ref a1)])) rfl rfl rfl d4_1 (by decide) (W := 0) (by show 2 * 0 + _ ≤ _; exact Nat.le_of_eq rfl) (by decide) ?_
  intro T1 X1
  show OFin _ _ _ _ _ _ T1 (mkF m 4 #[.val (.ref a1), .val (.ref ca), .val (.int (0 : Int32)), .val (.int (Int32.ofNat N)), .val .null, .unset] [])
  refine X1.step (fun hA hx hq t_ k_ => XS.iloadN hA hx rfl (hb hq d4_4) rfl k_) ?_
  show OFin _ _ _ _ _ _ T1 (mkF m 5 #[.val (.ref a1), .val (.ref ca), .val (.int (0 : Int32)), .val (.int (Int32.ofNat N)), .val .null, .unset] [(.int (Int32.ofNat N))])
  refine X1.step (fun hA hx hq t_ k_ => XS.ifYes hA hx rfl (pc0 := 5) (pc' := 27) rfl (hb hq d4_5) rfl ((if0 _ _).trans (feq (fun q => by have := (own_eq32 N 0 (by omega) (by decide)).mp q; omega)).2) (by decide) (by decide) k_) ?_
  show OFin _ _ _ _ _ _ T1 (mkF m 27 #[.val (.ref a1), .val (.ref ca), .val (.int (0 : Int32)), .val (.int (Int32.ofNat N)), .val .null, .unset] [])
  refine X1.getS (hw _ (List.mem_of_getElem? (i := 64) rfl)) SS (g := (mkF m 27 #[.val (.ref a1), .val (.ref ca), .val (.int (0 : Int32)), .val (.int (Int32.ofNat N)), .val .null, .unset] [])) rfl d4_27 ?_
  intro T2 X2
  show OFin _ _ _ _ _ _ T2 (mkF m 30 #[.val (.ref a1), .val (.ref ca), .val (.int (0 : Int32)), .val (.int (Int32.ofNat N)), .val .null, .unset] [(.int cs)])
  refine X2.step (fun hA hx hq t_ k_ => XS.ifNo hA hx rfl (hb hq d4_30) rfl ((if0 _ _).trans (feq (hcs)).1) k_) ?_
  show OFin _ _ _ _ _ _ T2 (mkF m 33 #[.val (.ref a1), .val (.ref ca), .val (.int (0 : Int32)), .val (.int (Int32.ofNat N)), .val .null, .unset] [])
  refine X2.step (fun hA hx hq t_ k_ => XS.aloadN hA hx rfl (hb hq d4_33) rfl rfl k_) ?_
  show OFin _ _ _ _ _ _ T2 (mkF m 34 #[.val (.ref a1), .val (.ref ca), .val (.int (0 : Int32)), .val (.int (Int32.ofNat N)), .val .null, .unset] [(.ref ca)])
  refine X2.step (fun hA hx hq t_ k_ => XS.iloadN hA hx rfl (hb hq d4_34) rfl k_) ?_
  show OFin _ _ _ _ _ _ T2 (mkF m 35 #[.val (.ref a1), .val (.ref ca), .val (.int (0 : Int32)), .val (.int (Int32.ofNat N)), .val .null, .unset] [(.int (0 : Int32)), (.ref ca)])
  refine X2.step (fun hA hx hq t_ k_ => XS.iloadN hA hx rfl (hb hq d4_35) rfl k_) ?_
  show OFin _ _ _ _ _ _ T2 (mkF m 36 #[.val (.ref a1), .val (.ref ca), .val (.int (0 : Int32)), .val (.int (Int32.ofNat N)), .val .null, .unset] [(.int (Int32.ofNat N)), (.int (0 : Int32)), (.ref ca)])
  refine X2.callS (y' := (⟨"java/lang/StringUTF16", "compress", "([CII)[B"⟩ : MethodName)) (hw _ (List.mem_of_getElem? (i := 90) rfl)) (hw _ (List.mem_of_getElem? (i := 91) rfl)) (hw _ (List.mem_of_getElem? (i := 92) rfl)) (hw _ (List.mem_of_getElem? (i := 93) rfl)) (by decide) (argsL := [(.ref ca), (.int (0 : Int32)), (.int (Int32.ofNat N))]) (rest := []) (sm2 l Z a0 hw ca N f h0 n0 FC hN hch Z0) (g := (mkF m 36 #[.val (.ref a1), .val (.ref ca), .val (.int (0 : Int32)), .val (.int (Int32.ofNat N)), .val .null, .unset] [(.int (Int32.ofNat N)), (.int (0 : Int32)), (.ref ca)])) rfl rfl pd_pA_CIIr_A_B rfl rfl (W := 0) (by show 2 * 0 + _ ≤ _; exact Nat.le_of_eq rfl) d4_36 (by decide) (by decide) (by decide) (by decide) ?_
  intro v3 T3 h3 X3 q3
  obtain ⟨t, rfl, K3, B3, lt3⟩ := q3
  show OFin _ _ _ _ _ _ T3 (mkF m 39 #[.val (.ref a1), .val (.ref ca), .val (.int (0 : Int32)), .val (.int (Int32.ofNat N)), .val .null, .unset] [(.ref t)])
  refine X3.step (fun hA hx hq t_ k_ => XS.astore hA hx rfl (hb hq d4_39) rfl rfl (l' := #[.val (.ref a1), .val (.ref ca), .val (.int (0 : Int32)), .val (.int (Int32.ofNat N)), .val .null, .val (.ref t)]) rfl k_) ?_
  show OFin _ _ _ _ _ _ T3 (mkF m 41 #[.val (.ref a1), .val (.ref ca), .val (.int (0 : Int32)), .val (.int (Int32.ofNat N)), .val .null, .val (.ref t)] [])
  refine X3.step (fun hA hx hq t_ k_ => XS.aloadN hA hx rfl (hb hq d4_41) rfl rfl k_) ?_
  show OFin _ _ _ _ _ _ T3 (mkF m 42 #[.val (.ref a1), .val (.ref ca), .val (.int (0 : Int32)), .val (.int (Int32.ofNat N)), .val .null, .val (.ref t)] [(.ref a1)])
  refine X3.step (fun hA hx hq t_ k_ => XS.aload hA hx rfl (hb hq d4_42) rfl rfl k_) ?_
  show OFin _ _ _ _ _ _ T3 (mkF m 44 #[.val (.ref a1), .val (.ref ca), .val (.int (0 : Int32)), .val (.int (Int32.ofNat N)), .val .null, .val (.ref t)] [(.ref t), (.ref a1)])
  refine X3.step (fun hA hx hq t_ k_ => XS.iloadN hA hx rfl (hb hq d4_44) rfl k_) ?_
  show OFin _ _ _ _ _ _ T3 (mkF m 45 #[.val (.ref a1), .val (.ref ca), .val (.int (0 : Int32)), .val (.int (Int32.ofNat N)), .val .null, .val (.ref t)] [(.int (Int32.ofNat N)), (.ref t), (.ref a1)])
  refine X3.callS (y' := (⟨"java/lang/StringUTF16", "coderFromArrayLen", "([BI)B"⟩ : MethodName)) (hw _ (List.mem_of_getElem? (i := 97) rfl)) (hw _ (List.mem_of_getElem? (i := 98) rfl)) (hw _ (List.mem_of_getElem? (i := 92) rfl)) (hw _ (List.mem_of_getElem? (i := 99) rfl)) (by decide) (argsL := [(.ref t), (.int (Int32.ofNat N))]) (rest := [(.ref a1)]) (sm3 l Z a0 hw t N _ h3 n0 B3) (g := (mkF m 45 #[.val (.ref a1), .val (.ref ca), .val (.int (0 : Int32)), .val (.int (Int32.ofNat N)), .val .null, .val (.ref t)] [(.int (Int32.ofNat N)), (.ref t), (.ref a1)])) rfl rfl pd_pA_BIr_B rfl rfl (W := 1) (by show 2 * 0 + _ ≤ _; exact Nat.le_of_eq rfl) d4_45 (by decide) (by decide) (by decide) (by decide) ?_
  intro v4 T4 h4 X4 q4
  obtain ⟨rfl, rfl⟩ := q4
  show OFin _ _ _ _ _ _ T4 (mkF m 48 #[.val (.ref a1), .val (.ref ca), .val (.int (0 : Int32)), .val (.int (Int32.ofNat N)), .val .null, .val (.ref t)] [(.int (0 : Int32)), (.ref a1)])
  have ta : t ≠ a1 := Nat.ne_of_gt (Nat.lt_of_lt_of_le E.lt lt3)
  refine X4.putF (hw _ (List.mem_of_getElem? (i := 29) rfl)) (F2.keep K3 nin0) (E.keep K3) (Or.inr ⟨(hw _ (List.mem_of_getElem? (i := 25) rfl)), rfl, rfl⟩) (hw _ (List.mem_of_getElem? (i := 6) rfl)) (ty := .byte) (by decide) rfl rfl hn (g := (mkF m 48 #[.val (.ref a1), .val (.ref ca), .val (.int (0 : Int32)), .val (.int (Int32.ofNat N)), .val .null, .val (.ref t)] [(.int (0 : Int32)), (.ref a1)])) rfl rfl d4_48 ?_
  intro T5 h5 X5 W5
  show OFin _ _ _ _ _ _ T5 (mkF m 51 #[.val (.ref a1), .val (.ref ca), .val (.int (0 : Int32)), .val (.int (Int32.ofNat N)), .val .null, .val (.ref t)] [])
  refine X5.step (fun hA hx hq t_ k_ => XS.aloadN hA hx rfl (hb hq d4_51) rfl rfl k_) ?_
  show OFin _ _ _ _ _ _ T5 (mkF m 52 #[.val (.ref a1), .val (.ref ca), .val (.int (0 : Int32)), .val (.int (Int32.ofNat N)), .val .null, .val (.ref t)] [(.ref a1)])
  refine X5.step (fun hA hx hq t_ k_ => XS.aload hA hx rfl (hb hq d4_52) rfl rfl k_) ?_
  show OFin _ _ _ _ _ _ T5 (mkF m 54 #[.val (.ref a1), .val (.ref ca), .val (.int (0 : Int32)), .val (.int (Int32.ofNat N)), .val .null, .val (.ref t)] [(.ref t), (.ref a1)])
  refine X5.putF (hw _ (List.mem_of_getElem? (i := 28) rfl)) ((F1.keep K3 nin0).other W5 (Or.inr sne)) ((E.keep K3).wr W5) (Or.inr ⟨(hw _ (List.mem_of_getElem? (i := 24) rfl)), rfl, rfl⟩) (hw _ (List.mem_of_getElem? (i := 6) rfl)) (ty := (.array .byte)) (by decide) rfl rfl hn (g := (mkF m 54 #[.val (.ref a1), .val (.ref ca), .val (.int (0 : Int32)), .val (.int (Int32.ofNat N)), .val .null, .val (.ref t)] [(.ref t), (.ref a1)])) rfl rfl d4_54 ?_
  intro T6 h6 X6 W6
  show OFin _ _ _ _ _ _ T6 (mkF m 57 #[.val (.ref a1), .val (.ref ca), .val (.int (0 : Int32)), .val (.int (Int32.ofNat N)), .val .null, .val (.ref t)] [])
  exact X6.retV d4_57 (oN (by decide) (by decide)) (⟨rfl, (((Keep.refl h0 [a1]).trans K3 all0).wr W5 (Or.inl (List.mem_of_getElem? (i := 0) rfl))).wr W6 (Or.inl (List.mem_of_getElem? (i := 0) rfl)), t, ⟨((E.keep K3).wr W5).wr W6, ((F2.keep K3 nin0).same W5).other W6 (Or.inr (Ne.symm sne)), ((F1.keep K3 nin0).other W5 (Or.inr sne)).same W6, (B3.other W5 ta).other W6 ta⟩, lt3⟩)
theorem d3_0 : decode jdk_42_method_3_code 0 = .ok (.aload_n 0, 1) := by decide +kernel
theorem d3_1 : decode jdk_42_method_3_code 1 = .ok (.aload_n 1, 1) := by decide +kernel
theorem d3_2 : decode jdk_42_method_3_code 2 = .ok (.iconst 0, 1) := by decide +kernel
theorem d3_3 : decode jdk_42_method_3_code 3 = .ok (.aload_n 1, 1) := by decide +kernel
theorem d3_4 : decode jdk_42_method_3_code 4 = .ok (.arraylength, 1) := by decide +kernel
theorem d3_5 : decode jdk_42_method_3_code 5 = .ok (.aconst_null, 1) := by decide +kernel
theorem d3_6 : decode jdk_42_method_3_code 6 = .ok (.invokespecial 27, 3) := by decide +kernel
theorem pd_pA_CIILjava_lang_Void_r_V : parseMethodDescriptor "([CIILjava/lang/Void;)V" = some ⟨[(.array .char), .int, .int, (.object "java/lang/Void")], none⟩ := by decide +kernel
theorem d3_9 : decode jdk_42_method_3_code 9 = .ok (.return_, 1) := by decide +kernel
set_option maxRecDepth 65536 in
set_option maxHeartbeats 40000000 in
theorem sm5 (l : Launch) (Z : State) (a0 : Array Value) (hw : ∀ d ∈ tables_1, d.before a0 Z = true) (a1 ca : Addr) (N : Nat) (f : Nat → Int32) (cs : Int32) (h0 : Heap) (n0 : Nat) (F1 : Fld Z h0 a1 "java/lang/String" "value" "[B" .null) (F2 : Fld Z h0 a1 "java/lang/String" "coder" "B" (.int 0)) (E : Exa Z h0 a1 "java/lang/String") (hn : n0 ≤ a1) (FC : OArr Z h0 ca .char N (fun j => .int (f j))) (hN0 : 0 < N) (hN : N ≤ 4) (hch : ∀ j, j < N → 0 ≤ (f j).toInt ∧ (f j).toInt ≤ 255) (Z0 : n0 ≤ h0.size) (SS : Sta Z h0 "java/lang/String" "COMPACT_STRINGS" "Z" (.int cs)) (hcs : ¬ cs = 0) :
    OMeets l Z (⟨"java/lang/String", "<init>", "([C)V"⟩ : MethodName) [] jdk_42_method_3_code 2 none ({ frames := 3, cells := 1, slots := 4, locals := 52 } : Room) #[(.ref a1), (.ref ca)] h0 n0 (fun v h => v = none ∧ Keep h0 h [a1] ∧ ∃ t, OStr Z h a1 t N f ∧ h0.size ≤ t) := by
  refine o_enter (Z := Z) (plainFor_of_name pn_java_lang_String) ?_
  intro p e s m below meth c T0 X0
  refine OFin.cast (g' := (mkF m 0 #[.val (.ref a1), .val (.ref ca)] [])) (by first | (simp [entryFrame, mkF, argsToLocals, Value.category]; done) | rfl) ?_
  obtain ⟨c1, A1, S1, H1⟩ := id FC
  refine X0.step (fun hA hx hq t_ k_ => XS.aloadN hA hx rfl (hb hq d3_0) rfl rfl k_) ?_
  show OFin _ _ _ _ _ _ T0 (mkF m 1 #[.val (.ref a1), .val (.ref ca)] [(.ref a1)])
  refine X0.step (fun hA hx hq t_ k_ => XS.aloadN hA hx rfl (hb hq d3_1) rfl rfl k_) ?_
  show OFin _ _ _ _ _ _ T0 (mkF m 2 #[.val (.ref a1), .val (.ref ca)] [(.ref ca), (.ref a1)])
  refine X0.step (fun hA hx hq t_ k_ => XS.iconst hA hx rfl (hb hq d3_2) k_) ?_
  show OFin _ _ _ _ _ _ T0 (mkF m 3 #[.val (.ref a1), .val (.ref ca)] [(.int (0 : Int32)), (.ref ca), (.ref a1)])
  refine X0.step (fun hA hx hq t_ k_ => XS.aloadN hA hx rfl (hb hq d3_3) rfl rfl k_) ?_
  show OFin _ _ _ _ _ _ T0 (mkF m 4 #[.val (.ref a1), .val (.ref ca)] [(.ref ca), (.int (0 : Int32)), (.ref ca), (.ref a1)])
  refine X0.alen A1 (n := (Int32.ofNat N)) (by rw [S1]) (g := (mkF m 4 #[.val (.ref a1), .val (.ref ca)] [(.ref ca), (.int (0 : Int32)), (.ref ca), (.ref a1)])) rfl rfl d3_4 ?_
  show OFin _ _ _ _ _ _ T0 (mkF m 5 #[.val (.ref a1), .val (.ref ca)] [(.int (Int32.ofNat N)), (.int (0 : Int32)), (.ref ca), (.ref a1)])
  refine X0.step (fun hA hx hq t_ k_ => XS.aconstNull hA hx rfl (hb hq d3_5) k_) ?_
  show OFin _ _ _ _ _ _ T0 (mkF m 6 #[.val (.ref a1), .val (.ref ca)] [.null, (.int (Int32.ofNat N)), (.int (0 : Int32)), (.ref ca), (.ref a1)])
  refine X0.callI (y' := (⟨"java/lang/String", "<init>", "([CIILjava/lang/Void;)V"⟩ : MethodName)) rfl (hw _ (List.mem_of_getElem? (i := 15) rfl)) (hw _ (List.mem_of_getElem? (i := 16) rfl)) (hw _ (List.mem_of_getElem? (i := 7) rfl)) (hw _ (List.mem_of_getElem? (i := 18) rfl)) (by decide) (a := a1) (argsL := [(.ref ca), (.int (0 : Int32)), (.int (Int32.ofNat N)), .null]) (rest := []) (sm4 l Z a0 hw a1 ca N f cs h0 n0 F1 F2 E hn FC hN0 hN hch Z0 SS hcs) (g := (mkF m 6 #[.val (.ref a1), .val (.ref ca)] [.null, (.int (Int32.ofNat N)), (.int (0 : Int32)), (.ref ca), (.ref a1)])) rfl rfl pd_pA_CIILjava_lang_Void_r_V rfl rfl (W := 0) (by show 2 * 0 + _ ≤ _; exact Nat.le_of_eq rfl) d3_6 (by decide) (by decide) (by decide) (by decide) ?_
  intro v1 T1 h1 X1 q1
  obtain ⟨rfl, K1, t, S1, lt1⟩ := q1
  show OFin _ _ _ _ _ _ T1 (mkF m 9 #[.val (.ref a1), .val (.ref ca)] [])
  exact X1.retV d3_9 (oN (by decide) (by decide)) (⟨rfl, K1, t, S1, lt1⟩)
theorem d4_8 : decode jdk_42_method_149_code 8 = .ok (.aload_n 0, 1) := by decide +kernel
theorem d4_9 : decode jdk_42_method_149_code 9 = .ok (.ldc 7, 2) := by decide +kernel
theorem d4_11 : decode jdk_42_method_149_code 11 = .ok (.getfield 9, 3) := by decide +kernel
theorem d4_14 : decode jdk_42_method_149_code 14 = .ok (.putfield 9, 3) := by decide +kernel
theorem d4_17 : decode jdk_42_method_149_code 17 = .ok (.aload_n 0, 1) := by decide +kernel
theorem d4_18 : decode jdk_42_method_149_code 18 = .ok (.ldc 7, 2) := by decide +kernel
theorem d4_20 : decode jdk_42_method_149_code 20 = .ok (.getfield 15, 3) := by decide +kernel
theorem d4_23 : decode jdk_42_method_149_code 23 = .ok (.putfield 15, 3) := by decide +kernel
theorem d4_26 : decode jdk_42_method_149_code 26 = .ok (.return_, 1) := by decide +kernel
set_option maxRecDepth 65536 in
set_option maxHeartbeats 40000000 in
theorem sm4e (l : Launch) (Z : State) (a0 : Array Value) (hw : ∀ d ∈ tables_1, d.before a0 Z = true) (a1 ca : Addr) (f : Nat → Int32) (h0 : Heap) (n0 : Nat) (F1 : Fld Z h0 a1 "java/lang/String" "value" "[B" .null) (F2 : Fld Z h0 a1 "java/lang/String" "coder" "B" (.int 0)) (E : Exa Z h0 a1 "java/lang/String") (hn : n0 ≤ a1) :
    OMeetsW l Z own_EL (⟨"java/lang/String", "<init>", "([CIILjava/lang/Void;)V"⟩ : MethodName) [] jdk_42_method_149_code 6 none ({ frames := 1, cells := 4, slots := 8, locals := 12 } : Room) #[(.ref a1), (.ref ca), (.int (0 : Int32)), (.int (0 : Int32)), .null] h0 n0 (fun v h => v = none ∧ Keep h0 h [a1] ∧ ∃ t, OStr Z h a1 t 0 f) := by
  refine o_enterW (Z := Z) (own_EW hw) (plainFor_of_name pn_java_lang_String) ?_
  intro p e s m below meth c T0 X0 B0
  refine OFin.cast (g' := (mkF m 0 #[.val (.ref a1), .val (.ref ca), .val (.int (0 : Int32)), .val (.int (0 : Int32)), .val .null, .unset] [])) (by first | (simp [entryFrame, mkF, argsToLocals, Value.category]; done) | rfl) ?_
  have sne := (slot_ne (Or.inr (hw _ (List.mem_of_getElem? (i := 24) rfl))) (Or.inr (hw _ (List.mem_of_getElem? (i := 25) rfl))) (by decide) (t := (.array .byte)) (t' := .byte) (by decide) (by decide))
  refine X0.step (fun hA hx hq t_ k_ => XS.aloadN hA hx rfl (hb hq d4_0) rfl rfl k_) ?_
  show OFin _ _ _ _ _ _ T0 (mkF m 1 #[.val (.ref a1), .val (.ref ca), .val (.int (0 : Int32)), .val (.int (0 : Int32)), .val .null, .unset] [(.ref a1)])
  refine X0.initO (hw _ (List.mem_of_getElem? (i := 19) rfl)) (hw _ (List.mem_of_getElem? (i := 20) rfl)) (hw _ (List.mem_of_getElem? (i := 21) rfl)) (g := (mkF m 1 #[.val (.ref a1), .val (.ref ca), .val (.int (0 : Int32)), .val (.int (0 : Int32)), .val .null, .unset] [(.ref a1)])) rfl rfl rfl d4_1 (by decide) (W := 0) (by show 2 * 0 + _ ≤ _; exact Nat.le_of_eq rfl) (by decide) ?_
  intro T1 X1
  show OFin _ _ _ _ _ _ T1 (mkF m 4 #[.val (.ref a1), .val (.ref ca), .val (.int (0 : Int32)), .val (.int (0 : Int32)), .val .null, .unset] [])
  refine X1.step (fun hA hx hq t_ k_ => XS.iloadN hA hx rfl (hb hq d4_4) rfl k_) ?_
  show OFin _ _ _ _ _ _ T1 (mkF m 5 #[.val (.ref a1), .val (.ref ca), .val (.int (0 : Int32)), .val (.int (0 : Int32)), .val .null, .unset] [(.int (0 : Int32))])
  refine X1.step (fun hA hx hq t_ k_ => XS.ifNo hA hx rfl (hb hq d4_5) rfl ((if0 _ _).trans (teq ((rfl : (0 : Int32) = (0 : Int32)))).2) k_) ?_
  show OFin _ _ _ _ _ _ T1 (mkF m 8 #[.val (.ref a1), .val (.ref ca), .val (.int (0 : Int32)), .val (.int (0 : Int32)), .val .null, .unset] [])
  refine X1.step (fun hA hx hq t_ k_ => XS.aloadN hA hx rfl (hb hq d4_8) rfl rfl k_) ?_
  show OFin _ _ _ _ _ _ T1 (mkF m 9 #[.val (.ref a1), .val (.ref ca), .val (.int (0 : Int32)), .val (.int (0 : Int32)), .val .null, .unset] [(.ref a1)])
  refine X1.ldcC B0 (hw _ (List.mem_of_getElem? (i := 22) rfl)) (own_wS hw) (by decide) (vs := []) (z := 0) ⟨by decide, rfl⟩ (by decide) (by decide) (g := (mkF m 9 #[.val (.ref a1), .val (.ref ca), .val (.int (0 : Int32)), .val (.int (0 : Int32)), .val .null, .unset] [(.ref a1)])) rfl d4_9 (n := 0) (by decide) (by decide) (by decide) (by decide) ?_
  intro b2 t2 cA2 T2 h2 vm2 X2 B2 E2 Sf2 A2 Fc2 Fv2 V2 Ne2
  show OFin _ _ _ _ _ _ T2 (mkF m 11 #[.val (.ref a1), .val (.ref ca), .val (.int (0 : Int32)), .val (.int (0 : Int32)), .val .null, .unset] [(.ref b2), (.ref a1)])
  have S1 := own_safeNull (EL := own_EL) X2.1.2.1.alike (E.ext E2) (F1.ext E2)
  have na := Ne2 a1 S1
  refine X2.getF (hw _ (List.mem_of_getElem? (i := 28) rfl)) Fv2 (g := (mkF m 11 #[.val (.ref a1), .val (.ref ca), .val (.int (0 : Int32)), .val (.int (0 : Int32)), .val .null, .unset] [(.ref b2), (.ref a1)])) rfl rfl d4_11 ?_
  intro T3 X3
  show OFin _ _ _ _ _ _ T3 (mkF m 14 #[.val (.ref a1), .val (.ref ca), .val (.int (0 : Int32)), .val (.int (0 : Int32)), .val .null, .unset] [(.ref t2), (.ref a1)])
  refine X3.putF (hw _ (List.mem_of_getElem? (i := 28) rfl)) (F1.ext E2) (E.ext E2) (Or.inr ⟨(hw _ (List.mem_of_getElem? (i := 24) rfl)), rfl, rfl⟩) (hw _ (List.mem_of_getElem? (i := 6) rfl)) (ty := (.array .byte)) (by decide) rfl rfl hn (g := (mkF m 14 #[.val (.ref a1), .val (.ref ca), .val (.int (0 : Int32)), .val (.int (0 : Int32)), .val .null, .unset] [(.ref t2), (.ref a1)])) rfl rfl d4_14 ?_
  intro T4 h4 X4 W4
  have B5 := B2.wr W4 S1
  show OFin _ _ _ _ _ _ T4 (mkF m 17 #[.val (.ref a1), .val (.ref ca), .val (.int (0 : Int32)), .val (.int (0 : Int32)), .val .null, .unset] [])
  have S2 := Safe.wr W4 S1 B2.hv S1
  refine X4.step (fun hA hx hq t_ k_ => XS.aloadN hA hx rfl (hb hq d4_17) rfl rfl k_) ?_
  show OFin _ _ _ _ _ _ T4 (mkF m 18 #[.val (.ref a1), .val (.ref ca), .val (.int (0 : Int32)), .val (.int (0 : Int32)), .val .null, .unset] [(.ref a1)])
  refine X4.ldcC B5 (hw _ (List.mem_of_getElem? (i := 22) rfl)) (own_wS hw) (by decide) (vs := []) (z := 0) ⟨by decide, rfl⟩ (by decide) (by decide) (g := (mkF m 18 #[.val (.ref a1), .val (.ref ca), .val (.int (0 : Int32)), .val (.int (0 : Int32)), .val .null, .unset] [(.ref a1)])) rfl d4_18 (n := 0) (by decide) (by decide) (by decide) (by decide) ?_
  intro b6 t6 cA6 T6 h6 vm6 X6 B6 E6 Sf6 A6 Fc6 Fv6 V6 Ne6
  show OFin _ _ _ _ _ _ T6 (mkF m 20 #[.val (.ref a1), .val (.ref ca), .val (.int (0 : Int32)), .val (.int (0 : Int32)), .val .null, .unset] [(.ref b6), (.ref a1)])
  have S3 := Sf6 a1 ((E.ext E2).wr W4).lt S2
  refine X6.getF (hw _ (List.mem_of_getElem? (i := 29) rfl)) Fc6 (g := (mkF m 20 #[.val (.ref a1), .val (.ref ca), .val (.int (0 : Int32)), .val (.int (0 : Int32)), .val .null, .unset] [(.ref b6), (.ref a1)])) rfl rfl d4_20 ?_
  intro T7 X7
  show OFin _ _ _ _ _ _ T7 (mkF m 23 #[.val (.ref a1), .val (.ref ca), .val (.int (0 : Int32)), .val (.int (0 : Int32)), .val .null, .unset] [(.int (0 : Int32)), (.ref a1)])
  refine X7.putF (hw _ (List.mem_of_getElem? (i := 29) rfl)) (((F2.ext E2).other W4 (Or.inr (Ne.symm sne))).ext E6) (((E.ext E2).wr W4).ext E6) (Or.inr ⟨(hw _ (List.mem_of_getElem? (i := 25) rfl)), rfl, rfl⟩) (hw _ (List.mem_of_getElem? (i := 6) rfl)) (ty := .byte) (by decide) rfl rfl hn (g := (mkF m 23 #[.val (.ref a1), .val (.ref ca), .val (.int (0 : Int32)), .val (.int (0 : Int32)), .val .null, .unset] [(.int (0 : Int32)), (.ref a1)])) rfl rfl d4_23 ?_
  intro T8 h8 X8 W8
  have B9 := B6.wr W8 S3
  show OFin _ _ _ _ _ _ T8 (mkF m 26 #[.val (.ref a1), .val (.ref ca), .val (.int (0 : Int32)), .val (.int (0 : Int32)), .val .null, .unset] [])
  exact X8.retV d4_26 (oW X8 B9 (by decide) (by decide)) (⟨rfl, ((((Keep.refl h0 [a1]).ext E2).wr W4 (Or.inl (List.mem_of_getElem? (i := 0) rfl))).ext E6).wr W8 (Or.inl (List.mem_of_getElem? (i := 0) rfl)), t2, (((E.ext E2).wr W4).ext E6).wr W8, (((F2.ext E2).other W4 (Or.inr (Ne.symm sne))).ext E6).same W8, (((F1.ext E2).same W4).ext E6).other W8 (Or.inr sne), (((OArr.nil V2).other W4 (Ne.symm na.2)).ext E6).other W8 (Ne.symm na.2)⟩)
set_option maxRecDepth 65536 in
set_option maxHeartbeats 40000000 in
theorem sm5e (l : Launch) (Z : State) (a0 : Array Value) (hw : ∀ d ∈ tables_1, d.before a0 Z = true) (a1 ca : Addr) (f : Nat → Int32) (g_ : Nat → Value) (h0 : Heap) (n0 : Nat) (F1 : Fld Z h0 a1 "java/lang/String" "value" "[B" .null) (F2 : Fld Z h0 a1 "java/lang/String" "coder" "B" (.int 0)) (E : Exa Z h0 a1 "java/lang/String") (hn : n0 ≤ a1) (FC : OArr Z h0 ca .char 0 g_) :
    OMeetsW l Z own_EL (⟨"java/lang/String", "<init>", "([C)V"⟩ : MethodName) [] jdk_42_method_3_code 2 none ({ frames := 2, cells := 4, slots := 8, locals := 29 } : Room) #[(.ref a1), (.ref ca)] h0 n0 (fun v h => v = none ∧ Keep h0 h [a1] ∧ ∃ t, OStr Z h a1 t 0 f) := by
  refine o_enterW (Z := Z) (own_EW hw) (plainFor_of_name pn_java_lang_String) ?_
  intro p e s m below meth c T0 X0 B0
  refine OFin.cast (g' := (mkF m 0 #[.val (.ref a1), .val (.ref ca)] [])) (by first | (simp [entryFrame, mkF, argsToLocals, Value.category]; done) | rfl) ?_
  obtain ⟨c1, A1, S1, H1⟩ := id FC
  refine X0.step (fun hA hx hq t_ k_ => XS.aloadN hA hx rfl (hb hq d3_0) rfl rfl k_) ?_
  show OFin _ _ _ _ _ _ T0 (mkF m 1 #[.val (.ref a1), .val (.ref ca)] [(.ref a1)])
  refine X0.step (fun hA hx hq t_ k_ => XS.aloadN hA hx rfl (hb hq d3_1) rfl rfl k_) ?_
  show OFin _ _ _ _ _ _ T0 (mkF m 2 #[.val (.ref a1), .val (.ref ca)] [(.ref ca), (.ref a1)])
  refine X0.step (fun hA hx hq t_ k_ => XS.iconst hA hx rfl (hb hq d3_2) k_) ?_
  show OFin _ _ _ _ _ _ T0 (mkF m 3 #[.val (.ref a1), .val (.ref ca)] [(.int (0 : Int32)), (.ref ca), (.ref a1)])
  refine X0.step (fun hA hx hq t_ k_ => XS.aloadN hA hx rfl (hb hq d3_3) rfl rfl k_) ?_
  show OFin _ _ _ _ _ _ T0 (mkF m 4 #[.val (.ref a1), .val (.ref ca)] [(.ref ca), (.int (0 : Int32)), (.ref ca), (.ref a1)])
  refine X0.alen A1 (n := (0 : Int32)) (by rw [S1]; rfl) (g := (mkF m 4 #[.val (.ref a1), .val (.ref ca)] [(.ref ca), (.int (0 : Int32)), (.ref ca), (.ref a1)])) rfl rfl d3_4 ?_
  show OFin _ _ _ _ _ _ T0 (mkF m 5 #[.val (.ref a1), .val (.ref ca)] [(.int (0 : Int32)), (.int (0 : Int32)), (.ref ca), (.ref a1)])
  refine X0.step (fun hA hx hq t_ k_ => XS.aconstNull hA hx rfl (hb hq d3_5) k_) ?_
  show OFin _ _ _ _ _ _ T0 (mkF m 6 #[.val (.ref a1), .val (.ref ca)] [.null, (.int (0 : Int32)), (.int (0 : Int32)), (.ref ca), (.ref a1)])
  refine X0.callIW B0 (y' := (⟨"java/lang/String", "<init>", "([CIILjava/lang/Void;)V"⟩ : MethodName)) rfl (hw _ (List.mem_of_getElem? (i := 15) rfl)) (hw _ (List.mem_of_getElem? (i := 16) rfl)) (hw _ (List.mem_of_getElem? (i := 7) rfl)) (hw _ (List.mem_of_getElem? (i := 18) rfl)) (by decide) (a := a1) (argsL := [(.ref ca), (.int (0 : Int32)), (.int (0 : Int32)), .null]) (rest := []) (sm4e l Z a0 hw a1 ca f h0 n0 F1 F2 E hn) (g := (mkF m 6 #[.val (.ref a1), .val (.ref ca)] [.null, (.int (0 : Int32)), (.int (0 : Int32)), (.ref ca), (.ref a1)])) rfl rfl pd_pA_CIILjava_lang_Void_r_V rfl rfl (W := 0) (by show 2 * 0 + _ ≤ _; exact Nat.le_of_eq rfl) d3_6 (by decide) (by decide) (by decide) (by decide) ?_
  intro v1 T1 h1 vm1 X1 B1 G1 Sf1 q1
  obtain ⟨rfl, K1, t, S1⟩ := q1
  show OFin _ _ _ _ _ _ T1 (mkF m 9 #[.val (.ref a1), .val (.ref ca)] [])
  exact X1.retV d3_9 (oW X1 B1 (by decide) (by decide)) (⟨rfl, K1, t, S1⟩)
set_option maxRecDepth 65536 in
set_option maxHeartbeats 40000000 in
theorem sm5w (l : Launch) (Z : State) (a0 : Array Value) (hw : ∀ d ∈ tables_1, d.before a0 Z = true) (a1 ca : Addr) (N : Nat) (f : Nat → Int32) (cs : Int32) (h0 : Heap) (n0 : Nat) (F1 : Fld Z h0 a1 "java/lang/String" "value" "[B" .null) (F2 : Fld Z h0 a1 "java/lang/String" "coder" "B" (.int 0)) (E : Exa Z h0 a1 "java/lang/String") (hn : n0 ≤ a1) (FC : OArr Z h0 ca .char N (fun j => .int (f j))) (hN : N ≤ 4) (hch : ∀ j, j < N → 0 ≤ (f j).toInt ∧ (f j).toInt ≤ 255) (Z0 : n0 ≤ h0.size) (SS : Sta Z h0 "java/lang/String" "COMPACT_STRINGS" "Z" (.int cs)) (hcs : ¬ cs = 0) :
    OMeetsW l Z own_EL (⟨"java/lang/String", "<init>", "([C)V"⟩ : MethodName) [] jdk_42_method_3_code 2 none ({ frames := 3, cells := 4, slots := 8, locals := 52 } : Room) #[(.ref a1), (.ref ca)] h0 n0 (fun v h => v = none ∧ Keep h0 h [a1] ∧ ∃ t, OStr Z h a1 t N f) := by
  refine o_enterW (Z := Z) (own_EW hw) (plainFor_of_name pn_java_lang_String) ?_
  intro p e s m below meth c T0 X0 B0
  refine OFin.cast (g' := (mkF m 0 #[.val (.ref a1), .val (.ref ca)] [])) (by first | (simp [entryFrame, mkF, argsToLocals, Value.category]; done) | rfl) ?_
  obtain ⟨c1, A1, S1, H1⟩ := id FC
  refine X0.step (fun hA hx hq t_ k_ => XS.aloadN hA hx rfl (hb hq d3_0) rfl rfl k_) ?_
  show OFin _ _ _ _ _ _ T0 (mkF m 1 #[.val (.ref a1), .val (.ref ca)] [(.ref a1)])
  refine X0.step (fun hA hx hq t_ k_ => XS.aloadN hA hx rfl (hb hq d3_1) rfl rfl k_) ?_
  show OFin _ _ _ _ _ _ T0 (mkF m 2 #[.val (.ref a1), .val (.ref ca)] [(.ref ca), (.ref a1)])
  refine X0.step (fun hA hx hq t_ k_ => XS.iconst hA hx rfl (hb hq d3_2) k_) ?_
  show OFin _ _ _ _ _ _ T0 (mkF m 3 #[.val (.ref a1), .val (.ref ca)] [(.int (0 : Int32)), (.ref ca), (.ref a1)])
  refine X0.step (fun hA hx hq t_ k_ => XS.aloadN hA hx rfl (hb hq d3_3) rfl rfl k_) ?_
  show OFin _ _ _ _ _ _ T0 (mkF m 4 #[.val (.ref a1), .val (.ref ca)] [(.ref ca), (.int (0 : Int32)), (.ref ca), (.ref a1)])
  refine X0.alen A1 (n := (Int32.ofNat N)) (by rw [S1]) (g := (mkF m 4 #[.val (.ref a1), .val (.ref ca)] [(.ref ca), (.int (0 : Int32)), (.ref ca), (.ref a1)])) rfl rfl d3_4 ?_
  show OFin _ _ _ _ _ _ T0 (mkF m 5 #[.val (.ref a1), .val (.ref ca)] [(.int (Int32.ofNat N)), (.int (0 : Int32)), (.ref ca), (.ref a1)])
  refine X0.step (fun hA hx hq t_ k_ => XS.aconstNull hA hx rfl (hb hq d3_5) k_) ?_
  show OFin _ _ _ _ _ _ T0 (mkF m 6 #[.val (.ref a1), .val (.ref ca)] [.null, (.int (Int32.ofNat N)), (.int (0 : Int32)), (.ref ca), (.ref a1)])
  rcases Nat.eq_zero_or_pos N with rfl | hN0
  · show OFin _ _ _ _ _ _ T0 (mkF m 6 #[.val (.ref a1), .val (.ref ca)] [.null, (.int (0 : Int32)), (.int (0 : Int32)), (.ref ca), (.ref a1)])
    refine X0.callIW B0 (y' := (⟨"java/lang/String", "<init>", "([CIILjava/lang/Void;)V"⟩ : MethodName)) rfl (hw _ (List.mem_of_getElem? (i := 15) rfl)) (hw _ (List.mem_of_getElem? (i := 16) rfl)) (hw _ (List.mem_of_getElem? (i := 7) rfl)) (hw _ (List.mem_of_getElem? (i := 18) rfl)) (by decide) (a := a1) (argsL := [(.ref ca), (.int (0 : Int32)), (.int (0 : Int32)), .null]) (rest := []) (sm4e l Z a0 hw a1 ca f h0 n0 F1 F2 E hn) (g := (mkF m 6 #[.val (.ref a1), .val (.ref ca)] [.null, (.int (0 : Int32)), (.int (0 : Int32)), (.ref ca), (.ref a1)])) rfl rfl pd_pA_CIILjava_lang_Void_r_V rfl rfl (W := 0) (by show 2 * 0 + _ ≤ _; exact Nat.le_of_eq rfl) d3_6 (by decide) (by decide) (by decide) (by decide) ?_
    intro v1 T1 h1 vm1 X1 B1 G1 Sf1 q1
    obtain ⟨rfl, K1, t, S1⟩ := q1
    show OFin _ _ _ _ _ _ T1 (mkF m 9 #[.val (.ref a1), .val (.ref ca)] [])
    exact X1.retV d3_9 (oW X1 B1 (by decide) (by decide)) (⟨rfl, K1, t, S1⟩)
  · refine X0.callI (y' := (⟨"java/lang/String", "<init>", "([CIILjava/lang/Void;)V"⟩ : MethodName)) rfl (hw _ (List.mem_of_getElem? (i := 15) rfl)) (hw _ (List.mem_of_getElem? (i := 16) rfl)) (hw _ (List.mem_of_getElem? (i := 7) rfl)) (hw _ (List.mem_of_getElem? (i := 18) rfl)) (by decide) (a := a1) (argsL := [(.ref ca), (.int (0 : Int32)), (.int (Int32.ofNat N)), .null]) (rest := []) (sm4 l Z a0 hw a1 ca N f cs h0 n0 F1 F2 E hn FC hN0 hN hch Z0 SS hcs) (g := (mkF m 6 #[.val (.ref a1), .val (.ref ca)] [.null, (.int (Int32.ofNat N)), (.int (0 : Int32)), (.ref ca), (.ref a1)])) rfl rfl pd_pA_CIILjava_lang_Void_r_V rfl rfl (W := 0) (by show 2 * 0 + _ ≤ _; exact Nat.le_of_eq rfl) d3_6 (by decide) (by decide) (by decide) (by decide) ?_
    intro v2 T2 h2 X2 q2
    obtain ⟨rfl, K2, t, S2, lt2⟩ := q2
    have B3 := B0.keep K2 (sfS (own_safeNull X0.1.2.1.alike E F1) sf0)
    show OFin _ _ _ _ _ _ T2 (mkF m 9 #[.val (.ref a1), .val (.ref ca)] [])
    exact X2.retV d3_9 (oW X2 B3 (by decide) (by decide)) (⟨rfl, K2, t, S2⟩)
theorem d13_0 : decode jdk_42_method_152_code 0 = .ok (.getstatic 38, 3) := by decide +kernel
theorem d13_3 : decode jdk_42_method_152_code 3 = .ok (.ifCond .eq 10, 3) := by decide +kernel
theorem d13_6 : decode jdk_42_method_152_code 6 = .ok (.aload_n 0, 1) := by decide +kernel
theorem d13_7 : decode jdk_42_method_152_code 7 = .ok (.getfield 15, 3) := by decide +kernel
theorem d13_10 : decode jdk_42_method_152_code 10 = .ok (.goto 4, 3) := by decide +kernel
theorem d13_14 : decode jdk_42_method_152_code 14 = .ok (.ireturn, 1) := by decide +kernel
set_option maxRecDepth 65536 in
set_option maxHeartbeats 40000000 in
theorem sl1 (l : Launch) (Z : State) (a0 : Array Value) (hw : ∀ d ∈ tables_1, d.before a0 Z = true) (a1 t : Addr) (N : Nat) (f : Nat → Int32) (cs : Int32) (h0 : Heap) (n0 : Nat) (S : OStr Z h0 a1 t N f) (hN : N ≤ 4000) (SS : Sta Z h0 "java/lang/String" "COMPACT_STRINGS" "Z" (.int cs)) (hcs : ¬ cs = 0) :
    OMeets l Z (⟨"java/lang/String", "coder", "()B"⟩ : MethodName) [] jdk_42_method_152_code 1 (some .byte) ({ frames := 0, cells := 0, slots := 0, locals := 0 } : Room) #[(.ref a1)] h0 n0 (fun v h => v = some (.int 0) ∧ h0 = h) := by
  refine o_enter (Z := Z) (plainFor_of_name pn_java_lang_String) ?_
  intro p e s m below meth c T0 X0
  refine OFin.cast (g' := (mkF m 0 #[.val (.ref a1)] [])) (by first | (simp [entryFrame, mkF, argsToLocals, Value.category]; done) | rfl) ?_
  refine X0.getS (hw _ (List.mem_of_getElem? (i := 64) rfl)) SS (g := (mkF m 0 #[.val (.ref a1)] [])) rfl d13_0 ?_
  intro T1 X1
  show OFin _ _ _ _ _ _ T1 (mkF m 3 #[.val (.ref a1)] [(.int cs)])
  refine X1.step (fun hA hx hq t_ k_ => XS.ifNo hA hx rfl (hb hq d13_3) rfl ((if0 _ _).trans (feq (hcs)).1) k_) ?_
  show OFin _ _ _ _ _ _ T1 (mkF m 6 #[.val (.ref a1)] [])
  refine X1.step (fun hA hx hq t_ k_ => XS.aloadN hA hx rfl (hb hq d13_6) rfl rfl k_) ?_
  show OFin _ _ _ _ _ _ T1 (mkF m 7 #[.val (.ref a1)] [(.ref a1)])
  refine X1.getF (hw _ (List.mem_of_getElem? (i := 29) rfl)) S.2.1 (g := (mkF m 7 #[.val (.ref a1)] [(.ref a1)])) rfl rfl d13_7 ?_
  intro T2 X2
  show OFin _ _ _ _ _ _ T2 (mkF m 10 #[.val (.ref a1)] [(.int (0 : Int32))])
  refine X2.step (fun hA hx hq t_ k_ => XS.goto hA hx rfl (pc0 := 10) (pc' := 14) rfl (hb hq d13_10) (by decide) (by decide) k_) ?_
  show OFin _ _ _ _ _ _ T2 (mkF m 14 #[.val (.ref a1)] [(.int (0 : Int32))])
  exact X2.retN (by simp) d13_14 (oN (by decide) (by decide)) (⟨rfl, rfl⟩)
theorem d12_0 : decode jdk_42_method_54_code 0 = .ok (.aload_n 0, 1) := by decide +kernel
theorem d12_1 : decode jdk_42_method_54_code 1 = .ok (.getfield 9, 3) := by decide +kernel
theorem d12_4 : decode jdk_42_method_54_code 4 = .ok (.arraylength, 1) := by decide +kernel
theorem d12_5 : decode jdk_42_method_54_code 5 = .ok (.aload_n 0, 1) := by decide +kernel
theorem d12_6 : decode jdk_42_method_54_code 6 = .ok (.invokevirtual 335, 3) := by decide +kernel
theorem pd_pr_B : parseMethodDescriptor "()B" = some ⟨[], some .byte⟩ := by decide +kernel
theorem d12_9 : decode jdk_42_method_54_code 9 = .ok (.ishr, 1) := by decide +kernel
theorem d12_10 : decode jdk_42_method_54_code 10 = .ok (.ireturn, 1) := by decide +kernel
set_option maxRecDepth 65536 in
set_option maxHeartbeats 40000000 in
theorem sl2 (l : Launch) (Z : State) (a0 : Array Value) (hw : ∀ d ∈ tables_1, d.before a0 Z = true) (a1 t : Addr) (N : Nat) (f : Nat → Int32) (cs : Int32) (h0 : Heap) (n0 : Nat) (S : OStr Z h0 a1 t N f) (hN : N ≤ 4000) (SS : Sta Z h0 "java/lang/String" "COMPACT_STRINGS" "Z" (.int cs)) (hcs : ¬ cs = 0) :
    OMeets l Z (⟨"java/lang/String", "length", "()I"⟩ : MethodName) [] jdk_42_method_54_code 1 (some .int) ({ frames := 1, cells := 0, slots := 0, locals := 13 } : Room) #[(.ref a1)] h0 n0 (fun v h => v = some (.int (Int32.ofNat N)) ∧ h0 = h) := by
  refine o_enter (Z := Z) (plainFor_of_name pn_java_lang_String) ?_
  intro p e s m below meth c T0 X0
  refine OFin.cast (g' := (mkF m 0 #[.val (.ref a1)] [])) (by first | (simp [entryFrame, mkF, argsToLocals, Value.category]; done) | rfl) ?_
  obtain ⟨c1, A1, S1, H1⟩ := id S.2.2.2
  refine X0.step (fun hA hx hq t_ k_ => XS.aloadN hA hx rfl (hb hq d12_0) rfl rfl k_) ?_
  show OFin _ _ _ _ _ _ T0 (mkF m 1 #[.val (.ref a1)] [(.ref a1)])
  refine X0.getF (hw _ (List.mem_of_getElem? (i := 28) rfl)) S.2.2.1 (g := (mkF m 1 #[.val (.ref a1)] [(.ref a1)])) rfl rfl d12_1 ?_
  intro T1 X1
  show OFin _ _ _ _ _ _ T1 (mkF m 4 #[.val (.ref a1)] [(.ref t)])
  refine X1.alen A1 (n := (Int32.ofNat N)) (by rw [S1]) (g := (mkF m 4 #[.val (.ref a1)] [(.ref t)])) rfl rfl d12_4 ?_
  show OFin _ _ _ _ _ _ T1 (mkF m 5 #[.val (.ref a1)] [(.int (Int32.ofNat N))])
  refine X1.step (fun hA hx hq t_ k_ => XS.aloadN hA hx rfl (hb hq d12_5) rfl rfl k_) ?_
  show OFin _ _ _ _ _ _ T1 (mkF m 6 #[.val (.ref a1)] [(.ref a1), (.int (Int32.ofNat N))])
  refine X1.callV (y' := (⟨"java/lang/String", "coder", "()B"⟩ : MethodName)) (z' := (⟨"java/lang/String", "coder", "()B"⟩ : MethodName)) (hw _ (List.mem_of_getElem? (i := 70) rfl)) (hw _ (List.mem_of_getElem? (i := 71) rfl)) (X1.notFace (hw _ (List.mem_of_getElem? (i := 73) rfl)) rfl) (hw _ (List.mem_of_getElem? (i := 73) rfl)) (hw _ (List.mem_of_getElem? (i := 72) rfl)) (hw _ (List.mem_of_getElem? (i := 7) rfl)) (hw _ (List.mem_of_getElem? (i := 74) rfl)) (by decide) S.1 (argsL := []) (rest := [(.int (Int32.ofNat N))]) (sl1 l Z a0 hw a1 t N f cs h0 n0 S hN SS hcs) (g := (mkF m 6 #[.val (.ref a1)] [(.ref a1), (.int (Int32.ofNat N))])) rfl rfl pd_pr_B rfl rfl (W := 1) (by show 2 * 0 + _ ≤ _; exact Nat.le_of_eq rfl) d12_6 (by decide) (by decide) (by decide) (by decide) ?_
  intro v2 T2 h2 X2 q2
  obtain ⟨rfl, rfl⟩ := q2
  show OFin _ _ _ _ _ _ T2 (mkF m 9 #[.val (.ref a1)] [(.int (0 : Int32)), (.int (Int32.ofNat N))])
  refine X2.step (fun hA hx hq t_ k_ => XS.ishr hA hx rfl (hb hq d12_9) rfl k_) ?_
  show OFin _ _ _ _ _ _ T2 (mkF m 10 #[.val (.ref a1)] [(.int ((Int32.ofNat N) >>> ((0 : Int32) &&& 31)))])
  exact X2.retI d12_10 (oN (by decide) (by decide)) (⟨by rw [own_sh0], rfl⟩)
theorem d11_0 : decode jdk_42_method_154_code 0 = .ok (.getstatic 38, 3) := by decide +kernel
theorem d11_3 : decode jdk_42_method_154_code 3 = .ok (.ifCond .eq 14, 3) := by decide +kernel
theorem d11_6 : decode jdk_42_method_154_code 6 = .ok (.aload_n 0, 1) := by decide +kernel
theorem d11_7 : decode jdk_42_method_154_code 7 = .ok (.getfield 15, 3) := by decide +kernel
theorem d11_10 : decode jdk_42_method_154_code 10 = .ok (.ifCond .ne 7, 3) := by decide +kernel
theorem d11_13 : decode jdk_42_method_154_code 13 = .ok (.iconst 1, 1) := by decide +kernel
theorem d11_14 : decode jdk_42_method_154_code 14 = .ok (.goto 4, 3) := by decide +kernel
theorem d11_18 : decode jdk_42_method_154_code 18 = .ok (.ireturn, 1) := by decide +kernel
set_option maxRecDepth 65536 in
set_option maxHeartbeats 40000000 in
theorem sc1 (l : Launch) (Z : State) (a0 : Array Value) (hw : ∀ d ∈ tables_1, d.before a0 Z = true) (a1 t : Addr) (N : Nat) (f : Nat → Int32) (cs : Int32) (h0 : Heap) (n0 : Nat) (S : OStr Z h0 a1 t N f) (hN : N ≤ 4000) (SS : Sta Z h0 "java/lang/String" "COMPACT_STRINGS" "Z" (.int cs)) (hcs : ¬ cs = 0) :
    OMeets l Z (⟨"java/lang/String", "isLatin1", "()Z"⟩ : MethodName) [] jdk_42_method_154_code 1 (some .boolean) ({ frames := 0, cells := 0, slots := 0, locals := 0 } : Room) #[(.ref a1)] h0 n0 (fun v h => v = some (.int 1) ∧ h0 = h) := by
  refine o_enter (Z := Z) (plainFor_of_name pn_java_lang_String) ?_
  intro p e s m below meth c T0 X0
  refine OFin.cast (g' := (mkF m 0 #[.val (.ref a1)] [])) (by first | (simp [entryFrame, mkF, argsToLocals, Value.category]; done) | rfl) ?_
  refine X0.getS (hw _ (List.mem_of_getElem? (i := 64) rfl)) SS (g := (mkF m 0 #[.val (.ref a1)] [])) rfl d11_0 ?_
  intro T1 X1
  show OFin _ _ _ _ _ _ T1 (mkF m 3 #[.val (.ref a1)] [(.int cs)])
  refine X1.step (fun hA hx hq t_ k_ => XS.ifNo hA hx rfl (hb hq d11_3) rfl ((if0 _ _).trans (feq (hcs)).1) k_) ?_
  show OFin _ _ _ _ _ _ T1 (mkF m 6 #[.val (.ref a1)] [])
  refine X1.step (fun hA hx hq t_ k_ => XS.aloadN hA hx rfl (hb hq d11_6) rfl rfl k_) ?_
  show OFin _ _ _ _ _ _ T1 (mkF m 7 #[.val (.ref a1)] [(.ref a1)])
  refine X1.getF (hw _ (List.mem_of_getElem? (i := 29) rfl)) S.2.1 (g := (mkF m 7 #[.val (.ref a1)] [(.ref a1)])) rfl rfl d11_7 ?_
  intro T2 X2
  show OFin _ _ _ _ _ _ T2 (mkF m 10 #[.val (.ref a1)] [(.int (0 : Int32))])
  refine X2.step (fun hA hx hq t_ k_ => XS.ifNo hA hx rfl (hb hq d11_10) rfl ((if0 _ _).trans (teq ((rfl : (0 : Int32) = (0 : Int32)))).2) k_) ?_
  show OFin _ _ _ _ _ _ T2 (mkF m 13 #[.val (.ref a1)] [])
  refine X2.step (fun hA hx hq t_ k_ => XS.iconst hA hx rfl (hb hq d11_13) k_) ?_
  show OFin _ _ _ _ _ _ T2 (mkF m 14 #[.val (.ref a1)] [(.int (1 : Int32))])
  refine X2.step (fun hA hx hq t_ k_ => XS.goto hA hx rfl (pc0 := 14) (pc' := 18) rfl (hb hq d11_14) (by decide) (by decide) k_) ?_
  show OFin _ _ _ _ _ _ T2 (mkF m 18 #[.val (.ref a1)] [(.int (1 : Int32))])
  exact X2.retN (by simp) d11_18 (oN (by decide) (by decide)) (⟨rfl, rfl⟩)
theorem pn_jdk_internal_util_Preconditions : plainName "jdk/internal/util/Preconditions" = true := by first | (simp [plainName, overriddenIn]; done) | decide +kernel
theorem d25_0 : decode jdk_41_method_11_code 0 = .ok (.iload_n 0, 1) := by decide +kernel
theorem d25_1 : decode jdk_41_method_11_code 1 = .ok (.ifCond .lt 8, 3) := by decide +kernel
theorem d25_4 : decode jdk_41_method_11_code 4 = .ok (.iload_n 0, 1) := by decide +kernel
theorem d25_5 : decode jdk_41_method_11_code 5 = .ok (.iload_n 1, 1) := by decide +kernel
theorem d25_6 : decode jdk_41_method_11_code 6 = .ok (.if_icmp .lt 10, 3) := by decide +kernel
theorem d25_16 : decode jdk_41_method_11_code 16 = .ok (.iload_n 0, 1) := by decide +kernel
theorem d25_17 : decode jdk_41_method_11_code 17 = .ok (.ireturn, 1) := by decide +kernel
set_option maxRecDepth 65536 in
set_option maxHeartbeats 40000000 in
theorem sc2n (l : Launch) (Z : State) (a0 : Array Value) (hw : ∀ d ∈ tables_1, d.before a0 Z = true) (i N : Nat) (h0 : Heap) (n0 : Nat) (hi : i < N) (hN : N ≤ 4000) :
    OMeets l Z (⟨"jdk/internal/util/Preconditions", "checkIndex", "(IILjava/util/function/BiFunction;)I"⟩ : MethodName) [] jdk_41_method_11_code 3 (some .int) ({ frames := 0, cells := 0, slots := 0, locals := 0 } : Room) #[(.int (Int32.ofNat i)), (.int (Int32.ofNat N)), .null] h0 n0 (fun v h => v = some (.int (Int32.ofNat i)) ∧ h0 = h) := by
  refine o_enter (Z := Z) (plainFor_of_name pn_jdk_internal_util_Preconditions) ?_
  intro p e s m below meth c T0 X0
  refine OFin.cast (g' := (mkF m 0 #[.val (.int (Int32.ofNat i)), .val (.int (Int32.ofNat N)), .val .null] [])) (by first | (simp [entryFrame, mkF, argsToLocals, Value.category]; done) | rfl) ?_
  refine X0.step (fun hA hx hq t_ k_ => XS.iloadN hA hx rfl (hb hq d25_0) rfl k_) ?_
  show OFin _ _ _ _ _ _ T0 (mkF m 1 #[.val (.int (Int32.ofNat i)), .val (.int (Int32.ofNat N)), .val .null] [(.int (Int32.ofNat i))])
  refine X0.step (fun hA hx hq t_ k_ => XS.ifNo hA hx rfl (hb hq d25_1) rfl ((if0 _ _).trans (flt ((by rw [Int32.lt_iff_toInt_lt, own_i i (by omega)]; have : (0 : Int32).toInt = 0 := (by decide); omega))).1) k_) ?_
  show OFin _ _ _ _ _ _ T0 (mkF m 4 #[.val (.int (Int32.ofNat i)), .val (.int (Int32.ofNat N)), .val .null] [])
  refine X0.step (fun hA hx hq t_ k_ => XS.iloadN hA hx rfl (hb hq d25_4) rfl k_) ?_
  show OFin _ _ _ _ _ _ T0 (mkF m 5 #[.val (.int (Int32.ofNat i)), .val (.int (Int32.ofNat N)), .val .null] [(.int (Int32.ofNat i))])
  refine X0.step (fun hA hx hq t_ k_ => XS.iloadN hA hx rfl (hb hq d25_5) rfl k_) ?_
  show OFin _ _ _ _ _ _ T0 (mkF m 6 #[.val (.int (Int32.ofNat i)), .val (.int (Int32.ofNat N)), .val .null] [(.int (Int32.ofNat N)), (.int (Int32.ofNat i))])
  refine X0.step (fun hA hx hq t_ k_ => XS.icmpYes hA hx rfl (pc0 := 6) (pc' := 16) rfl (hb hq d25_6) rfl (tlt ((own_lt32 i N (by omega) (by omega)).mpr hi)).1 (by decide) (by decide) k_) ?_
  show OFin _ _ _ _ _ _ T0 (mkF m 16 #[.val (.int (Int32.ofNat i)), .val (.int (Int32.ofNat N)), .val .null] [])
  refine X0.step (fun hA hx hq t_ k_ => XS.iloadN hA hx rfl (hb hq d25_16) rfl k_) ?_
  show OFin _ _ _ _ _ _ T0 (mkF m 17 #[.val (.int (Int32.ofNat i)), .val (.int (Int32.ofNat N)), .val .null] [(.int (Int32.ofNat i))])
  exact X0.retI d25_17 (oN (by decide) (by decide)) (⟨rfl, rfl⟩)
set_option maxRecDepth 65536 in
set_option maxHeartbeats 40000000 in
theorem sc2r (l : Launch) (Z : State) (a0 : Array Value) (hw : ∀ d ∈ tables_1, d.before a0 Z = true) (i N : Nat) (vr : Addr) (h0 : Heap) (n0 : Nat) (hi : i < N) (hN : N ≤ 4000) :
    OMeets l Z (⟨"jdk/internal/util/Preconditions", "checkIndex", "(IILjava/util/function/BiFunction;)I"⟩ : MethodName) [] jdk_41_method_11_code 3 (some .int) ({ frames := 0, cells := 0, slots := 0, locals := 0 } : Room) #[(.int (Int32.ofNat i)), (.int (Int32.ofNat N)), (.ref vr)] h0 n0 (fun v h => v = some (.int (Int32.ofNat i)) ∧ h0 = h) := by
  refine o_enter (Z := Z) (plainFor_of_name pn_jdk_internal_util_Preconditions) ?_
  intro p e s m below meth c T0 X0
  refine OFin.cast (g' := (mkF m 0 #[.val (.int (Int32.ofNat i)), .val (.int (Int32.ofNat N)), .val (.ref vr)] [])) (by first | (simp [entryFrame, mkF, argsToLocals, Value.category]; done) | rfl) ?_
  refine X0.step (fun hA hx hq t_ k_ => XS.iloadN hA hx rfl (hb hq d25_0) rfl k_) ?_
  show OFin _ _ _ _ _ _ T0 (mkF m 1 #[.val (.int (Int32.ofNat i)), .val (.int (Int32.ofNat N)), .val (.ref vr)] [(.int (Int32.ofNat i))])
  refine X0.step (fun hA hx hq t_ k_ => XS.ifNo hA hx rfl (hb hq d25_1) rfl ((if0 _ _).trans (flt ((by rw [Int32.lt_iff_toInt_lt, own_i i (by omega)]; have : (0 : Int32).toInt = 0 := (by decide); omega))).1) k_) ?_
  show OFin _ _ _ _ _ _ T0 (mkF m 4 #[.val (.int (Int32.ofNat i)), .val (.int (Int32.ofNat N)), .val (.ref vr)] [])
  refine X0.step (fun hA hx hq t_ k_ => XS.iloadN hA hx rfl (hb hq d25_4) rfl k_) ?_
  show OFin _ _ _ _ _ _ T0 (mkF m 5 #[.val (.int (Int32.ofNat i)), .val (.int (Int32.ofNat N)), .val (.ref vr)] [(.int (Int32.ofNat i))])
  refine X0.step (fun hA hx hq t_ k_ => XS.iloadN hA hx rfl (hb hq d25_5) rfl k_) ?_
  show OFin _ _ _ _ _ _ T0 (mkF m 6 #[.val (.int (Int32.ofNat i)), .val (.int (Int32.ofNat N)), .val (.ref vr)] [(.int (Int32.ofNat N)), (.int (Int32.ofNat i))])
  refine X0.step (fun hA hx hq t_ k_ => XS.icmpYes hA hx rfl (pc0 := 6) (pc' := 16) rfl (hb hq d25_6) rfl (tlt ((own_lt32 i N (by omega) (by omega)).mpr hi)).1 (by decide) (by decide) k_) ?_
  show OFin _ _ _ _ _ _ T0 (mkF m 16 #[.val (.int (Int32.ofNat i)), .val (.int (Int32.ofNat N)), .val (.ref vr)] [])
  refine X0.step (fun hA hx hq t_ k_ => XS.iloadN hA hx rfl (hb hq d25_16) rfl k_) ?_
  show OFin _ _ _ _ _ _ T0 (mkF m 17 #[.val (.int (Int32.ofNat i)), .val (.int (Int32.ofNat N)), .val (.ref vr)] [(.int (Int32.ofNat i))])
  exact X0.retI d25_17 (oN (by decide) (by decide)) (⟨rfl, rfl⟩)
theorem sc2 (l : Launch) (Z : State) (a0 : Array Value) (hw : ∀ d ∈ tables_1, d.before a0 Z = true) (i N : Nat) (vf : Value) (h0 : Heap) (n0 : Nat) (hi : i < N) (hN : N ≤ 4000) (rf : vf.isRef = true) :
    OMeets l Z (⟨"jdk/internal/util/Preconditions", "checkIndex", "(IILjava/util/function/BiFunction;)I"⟩ : MethodName) [] jdk_41_method_11_code 3 (some .int) ({ frames := 0, cells := 0, slots := 0, locals := 0 } : Room) #[(.int (Int32.ofNat i)), (.int (Int32.ofNat N)), vf] h0 n0 (fun v h => v = some (.int (Int32.ofNat i)) ∧ h0 = h) := by
  rcases ref_cases rf with rfl | ⟨vr, rfl⟩
  · exact sc2n l Z a0 hw i N h0 n0 hi hN
  · exact sc2r l Z a0 hw i N vr h0 n0 hi hN
theorem d24_0 : decode jdk_42_method_155_code 0 = .ok (.iload_n 0, 1) := by decide +kernel
theorem d24_1 : decode jdk_42_method_155_code 1 = .ok (.iload_n 1, 1) := by decide +kernel
theorem d24_2 : decode jdk_42_method_155_code 2 = .ok (.getstatic 1053, 3) := by decide +kernel
theorem pd_pIILjava_util_function_BiFunction_r_I : parseMethodDescriptor "(IILjava/util/function/BiFunction;)I" = some ⟨[.int, .int, (.object "java/util/function/BiFunction")], some .int⟩ := by decide +kernel
theorem d24_5 : decode jdk_42_method_155_code 5 = .ok (.invokestatic 1059, 3) := by decide +kernel
theorem d24_8 : decode jdk_42_method_155_code 8 = .ok (.pop, 1) := by decide +kernel
theorem d24_9 : decode jdk_42_method_155_code 9 = .ok (.return_, 1) := by decide +kernel
set_option maxRecDepth 65536 in
set_option maxHeartbeats 40000000 in
theorem sc3 (l : Launch) (Z : State) (a0 : Array Value) (hw : ∀ d ∈ tables_1, d.before a0 Z = true) (i N : Nat) (vf : Value) (h0 : Heap) (n0 : Nat) (SP : Sta Z h0 "jdk/internal/util/Preconditions" "SIOOBE_FORMATTER" "Ljava/util/function/BiFunction;" vf) (rf : vf.isRef = true) (hi : i < N) (hN : N ≤ 4000) :
    OMeets l Z (⟨"java/lang/String", "checkIndex", "(II)V"⟩ : MethodName) [] jdk_42_method_155_code 2 none ({ frames := 1, cells := 0, slots := 0, locals := 14 } : Room) #[(.int (Int32.ofNat i)), (.int (Int32.ofNat N))] h0 n0 (fun v h => v = none ∧ h0 = h) := by
  refine o_enter (Z := Z) (plainFor_of_name pn_java_lang_String) ?_
  intro p e s m below meth c T0 X0
  refine OFin.cast (g' := (mkF m 0 #[.val (.int (Int32.ofNat i)), .val (.int (Int32.ofNat N))] [])) (by first | (simp [entryFrame, mkF, argsToLocals, Value.category]; done) | rfl) ?_
  refine X0.step (fun hA hx hq t_ k_ => XS.iloadN hA hx rfl (hb hq d24_0) rfl k_) ?_
  show OFin _ _ _ _ _ _ T0 (mkF m 1 #[.val (.int (Int32.ofNat i)), .val (.int (Int32.ofNat N))] [(.int (Int32.ofNat i))])
  refine X0.step (fun hA hx hq t_ k_ => XS.iloadN hA hx rfl (hb hq d24_1) rfl k_) ?_
  show OFin _ _ _ _ _ _ T0 (mkF m 2 #[.val (.int (Int32.ofNat i)), .val (.int (Int32.ofNat N))] [(.int (Int32.ofNat N)), (.int (Int32.ofNat i))])
  refine X0.getS (hw _ (List.mem_of_getElem? (i := 114) rfl)) SP (g := (mkF m 2 #[.val (.int (Int32.ofNat i)), .val (.int (Int32.ofNat N))] [(.int (Int32.ofNat N)), (.int (Int32.ofNat i))])) rfl d24_2 ?_
  intro T1 X1
  show OFin _ _ _ _ _ _ T1 (mkF m 5 #[.val (.int (Int32.ofNat i)), .val (.int (Int32.ofNat N))] [vf, (.int (Int32.ofNat N)), (.int (Int32.ofNat i))])
  refine X1.callS (y' := (⟨"jdk/internal/util/Preconditions", "checkIndex", "(IILjava/util/function/BiFunction;)I"⟩ : MethodName)) (hw _ (List.mem_of_getElem? (i := 116) rfl)) (hw _ (List.mem_of_getElem? (i := 117) rfl)) (hw _ (List.mem_of_getElem? (i := 115) rfl)) (hw _ (List.mem_of_getElem? (i := 118) rfl)) (by decide) (argsL := [(.int (Int32.ofNat i)), (.int (Int32.ofNat N)), vf]) (rest := []) (sc2 l Z a0 hw i N vf h0 n0 hi hN rf) (g := (mkF m 5 #[.val (.int (Int32.ofNat i)), .val (.int (Int32.ofNat N))] [vf, (.int (Int32.ofNat N)), (.int (Int32.ofNat i))])) rfl rfl pd_pIILjava_util_function_BiFunction_r_I rfl rfl (W := 0) (by show 2 * 0 + _ ≤ _; exact Nat.le_of_eq rfl) d24_5 (by decide) (by decide) (by decide) (by decide) ?_
  intro v2 T2 h2 X2 q2
  obtain ⟨rfl, rfl⟩ := q2
  show OFin _ _ _ _ _ _ T2 (mkF m 8 #[.val (.int (Int32.ofNat i)), .val (.int (Int32.ofNat N))] [(.int (Int32.ofNat i))])
  refine X2.step (fun hA hx hq t_ k_ => XS.pop hA hx rfl (hb hq d24_8) rfl rfl k_) ?_
  show OFin _ _ _ _ _ _ T2 (mkF m 9 #[.val (.int (Int32.ofNat i)), .val (.int (Int32.ofNat N))] [])
  exact X2.retV d24_9 (oN (by decide) (by decide)) (⟨rfl, rfl⟩)
theorem pn_java_lang_StringLatin1 : plainName "java/lang/StringLatin1" = true := by first | (simp [plainName, overriddenIn]; done) | decide +kernel
theorem d23_0 : decode jdk_43_method_2_code 0 = .ok (.iload_n 1, 1) := by decide +kernel
theorem d23_1 : decode jdk_43_method_2_code 1 = .ok (.aload_n 0, 1) := by decide +kernel
theorem d23_2 : decode jdk_43_method_2_code 2 = .ok (.arraylength, 1) := by decide +kernel
theorem pd_pIIr_V : parseMethodDescriptor "(II)V" = some ⟨[.int, .int], none⟩ := by decide +kernel
theorem d23_3 : decode jdk_43_method_2_code 3 = .ok (.invokestatic 9, 3) := by decide +kernel
theorem d23_6 : decode jdk_43_method_2_code 6 = .ok (.aload_n 0, 1) := by decide +kernel
theorem d23_7 : decode jdk_43_method_2_code 7 = .ok (.iload_n 1, 1) := by decide +kernel
theorem d23_8 : decode jdk_43_method_2_code 8 = .ok (.baload, 1) := by decide +kernel
theorem d23_9 : decode jdk_43_method_2_code 9 = .ok (.sipush 255, 3) := by decide +kernel
theorem d23_12 : decode jdk_43_method_2_code 12 = .ok (.iand, 1) := by decide +kernel
theorem d23_13 : decode jdk_43_method_2_code 13 = .ok (.i2c, 1) := by decide +kernel
theorem d23_14 : decode jdk_43_method_2_code 14 = .ok (.ireturn, 1) := by decide +kernel
set_option maxRecDepth 65536 in
set_option maxHeartbeats 40000000 in
theorem sc4 (l : Launch) (Z : State) (a0 : Array Value) (hw : ∀ d ∈ tables_1, d.before a0 Z = true) (t : Addr) (i N : Nat) (f : Nat → Int32) (vf : Value) (h0 : Heap) (n0 : Nat) (F : OArr Z h0 t .byte N (fun j => .int (f j).toInt8.toInt32)) (hfi : 0 ≤ (f i).toInt ∧ (f i).toInt ≤ 255) (SP : Sta Z h0 "jdk/internal/util/Preconditions" "SIOOBE_FORMATTER" "Ljava/util/function/BiFunction;" vf) (rf : vf.isRef = true) (hi : i < N) (hN : N ≤ 4000) :
    OMeets l Z (⟨"java/lang/StringLatin1", "charAt", "([BI)C"⟩ : MethodName) [] jdk_43_method_2_code 2 (some .char) ({ frames := 2, cells := 0, slots := 0, locals := 27 } : Room) #[(.ref t), (.int (Int32.ofNat i))] h0 n0 (fun v h => v = some (.int (f i)) ∧ h0 = h) := by
  refine o_enter (Z := Z) (plainFor_of_name pn_java_lang_StringLatin1) ?_
  intro p e s m below meth c T0 X0
  refine OFin.cast (g' := (mkF m 0 #[.val (.ref t), .val (.int (Int32.ofNat i))] [])) (by first | (simp [entryFrame, mkF, argsToLocals, Value.category]; done) | rfl) ?_
  obtain ⟨c1, A1, S1, H1⟩ := id F
  refine X0.step (fun hA hx hq t_ k_ => XS.iloadN hA hx rfl (hb hq d23_0) rfl k_) ?_
  show OFin _ _ _ _ _ _ T0 (mkF m 1 #[.val (.ref t), .val (.int (Int32.ofNat i))] [(.int (Int32.ofNat i))])
  refine X0.step (fun hA hx hq t_ k_ => XS.aloadN hA hx rfl (hb hq d23_1) rfl rfl k_) ?_
  show OFin _ _ _ _ _ _ T0 (mkF m 2 #[.val (.ref t), .val (.int (Int32.ofNat i))] [(.ref t), (.int (Int32.ofNat i))])
  refine X0.alen A1 (n := (Int32.ofNat N)) (by rw [S1]) (g := (mkF m 2 #[.val (.ref t), .val (.int (Int32.ofNat i))] [(.ref t), (.int (Int32.ofNat i))])) rfl rfl d23_2 ?_
  show OFin _ _ _ _ _ _ T0 (mkF m 3 #[.val (.ref t), .val (.int (Int32.ofNat i))] [(.int (Int32.ofNat N)), (.int (Int32.ofNat i))])
  refine X0.callS (y' := (⟨"java/lang/String", "checkIndex", "(II)V"⟩ : MethodName)) (hw _ (List.mem_of_getElem? (i := 111) rfl)) (hw _ (List.mem_of_getElem? (i := 112) rfl)) (hw _ (List.mem_of_getElem? (i := 7) rfl)) (hw _ (List.mem_of_getElem? (i := 113) rfl)) (by decide) (argsL := [(.int (Int32.ofNat i)), (.int (Int32.ofNat N))]) (rest := []) (sc3 l Z a0 hw i N vf h0 n0 SP rf hi hN) (g := (mkF m 3 #[.val (.ref t), .val (.int (Int32.ofNat i))] [(.int (Int32.ofNat N)), (.int (Int32.ofNat i))])) rfl rfl pd_pIIr_V rfl rfl (W := 0) (by show 2 * 0 + _ ≤ _; exact Nat.le_of_eq rfl) d23_3 (by decide) (by decide) (by decide) (by decide) ?_
  intro v1 T1 h1 X1 q1
  obtain ⟨rfl, rfl⟩ := q1
  show OFin _ _ _ _ _ _ T1 (mkF m 6 #[.val (.ref t), .val (.int (Int32.ofNat i))] [])
  refine X1.step (fun hA hx hq t_ k_ => XS.aloadN hA hx rfl (hb hq d23_6) rfl rfl k_) ?_
  show OFin _ _ _ _ _ _ T1 (mkF m 7 #[.val (.ref t), .val (.int (Int32.ofNat i))] [(.ref t)])
  refine X1.step (fun hA hx hq t_ k_ => XS.iloadN hA hx rfl (hb hq d23_7) rfl k_) ?_
  show OFin _ _ _ _ _ _ T1 (mkF m 8 #[.val (.ref t), .val (.int (Int32.ofNat i))] [(.int (Int32.ofNat i)), (.ref t)])
  refine X1.aload0 A1 (v := (.int (f i).toInt8.toInt32)) (own_inN S1 hi (by omega)) (by rw [own_iN i (by omega)]; exact H1 i hi) (g := (mkF m 8 #[.val (.ref t), .val (.int (Int32.ofNat i))] [(.int (Int32.ofNat i)), (.ref t)])) rfl rfl (Or.inr (Or.inr (Or.inr (Or.inl ⟨rfl, rfl⟩)))) d23_8 ?_
  show OFin _ _ _ _ _ _ T1 (mkF m 9 #[.val (.ref t), .val (.int (Int32.ofNat i))] [(.int (f i).toInt8.toInt32)])
  refine X1.step (fun hA hx hq t_ k_ => XS.sipush hA hx rfl (hb hq d23_9) k_) ?_
  show OFin _ _ _ _ _ _ T1 (mkF m 12 #[.val (.ref t), .val (.int (Int32.ofNat i))] [(.int (255 : Int32)), (.int (f i).toInt8.toInt32)])
  refine X1.step (fun hA hx hq t_ k_ => XS.iand hA hx rfl (hb hq d23_12) rfl k_) ?_
  show OFin _ _ _ _ _ _ T1 (mkF m 13 #[.val (.ref t), .val (.int (Int32.ofNat i))] [(.int ((f i).toInt8.toInt32 &&& (255 : Int32)))])
  refine X1.step (fun hA hx hq t_ k_ => XS.i2c hA hx rfl (hb hq d23_13) rfl k_) ?_
  show OFin _ _ _ _ _ _ T1 (mkF m 14 #[.val (.ref t), .val (.int (Int32.ofNat i))] [(.int (((f i).toInt8.toInt32 &&& (255 : Int32)).toUInt32.toUInt16.toUInt32.toInt32))])
  exact X1.retN (by simp) d23_14 (oN (by decide) (by decide)) (⟨by rw [own_chr _ hfi.1 hfi.2], rfl⟩)
theorem d22_0 : decode jdk_42_method_56_code 0 = .ok (.aload_n 0, 1) := by decide +kernel
theorem d22_1 : decode jdk_42_method_56_code 1 = .ok (.invokevirtual 492, 3) := by decide +kernel
theorem pd_pr_Z : parseMethodDescriptor "()Z" = some ⟨[], some .boolean⟩ := by decide +kernel
theorem d22_4 : decode jdk_42_method_56_code 4 = .ok (.ifCond .eq 12, 3) := by decide +kernel
theorem d22_7 : decode jdk_42_method_56_code 7 = .ok (.aload_n 0, 1) := by decide +kernel
theorem d22_8 : decode jdk_42_method_56_code 8 = .ok (.getfield 9, 3) := by decide +kernel
theorem d22_11 : decode jdk_42_method_56_code 11 = .ok (.iload_n 1, 1) := by decide +kernel
theorem d22_12 : decode jdk_42_method_56_code 12 = .ok (.invokestatic 495, 3) := by decide +kernel
theorem pd_pA_BIr_C : parseMethodDescriptor "([BI)C" = some ⟨[(.array .byte), .int], some .char⟩ := by decide +kernel
theorem d22_15 : decode jdk_42_method_56_code 15 = .ok (.ireturn, 1) := by decide +kernel
set_option maxRecDepth 65536 in
set_option maxHeartbeats 40000000 in
theorem sc5 (l : Launch) (Z : State) (a0 : Array Value) (hw : ∀ d ∈ tables_1, d.before a0 Z = true) (a1 t : Addr) (N : Nat) (f : Nat → Int32) (i : Nat) (cs : Int32) (vf : Value) (h0 : Heap) (n0 : Nat) (S : OStr Z h0 a1 t N f) (hN : N ≤ 4000) (hi : i < N) (hfi : 0 ≤ (f i).toInt ∧ (f i).toInt ≤ 255) (SS : Sta Z h0 "java/lang/String" "COMPACT_STRINGS" "Z" (.int cs)) (hcs : ¬ cs = 0) (SP : Sta Z h0 "jdk/internal/util/Preconditions" "SIOOBE_FORMATTER" "Ljava/util/function/BiFunction;" vf) (rf : vf.isRef = true) :
    OMeets l Z (⟨"java/lang/String", "charAt", "(I)C"⟩ : MethodName) [] jdk_42_method_56_code 2 (some .char) ({ frames := 3, cells := 0, slots := 0, locals := 40 } : Room) #[(.ref a1), (.int (Int32.ofNat i))] h0 n0 (fun v h => v = some (.int (f i)) ∧ h0 = h) := by
  refine o_enter (Z := Z) (plainFor_of_name pn_java_lang_String) ?_
  intro p e s m below meth c T0 X0
  refine OFin.cast (g' := (mkF m 0 #[.val (.ref a1), .val (.int (Int32.ofNat i))] [])) (by first | (simp [entryFrame, mkF, argsToLocals, Value.category]; done) | rfl) ?_
  refine X0.step (fun hA hx hq t_ k_ => XS.aloadN hA hx rfl (hb hq d22_0) rfl rfl k_) ?_
  show OFin _ _ _ _ _ _ T0 (mkF m 1 #[.val (.ref a1), .val (.int (Int32.ofNat i))] [(.ref a1)])
  refine X0.callV (y' := (⟨"java/lang/String", "isLatin1", "()Z"⟩ : MethodName)) (z' := (⟨"java/lang/String", "isLatin1", "()Z"⟩ : MethodName)) (hw _ (List.mem_of_getElem? (i := 59) rfl)) (hw _ (List.mem_of_getElem? (i := 60) rfl)) (X0.notFace (hw _ (List.mem_of_getElem? (i := 62) rfl)) rfl) (hw _ (List.mem_of_getElem? (i := 62) rfl)) (hw _ (List.mem_of_getElem? (i := 61) rfl)) (hw _ (List.mem_of_getElem? (i := 7) rfl)) (hw _ (List.mem_of_getElem? (i := 63) rfl)) (by decide) S.1 (argsL := []) (rest := []) (sc1 l Z a0 hw a1 t N f cs h0 n0 S hN SS hcs) (g := (mkF m 1 #[.val (.ref a1), .val (.int (Int32.ofNat i))] [(.ref a1)])) rfl rfl pd_pr_Z rfl rfl (W := 0) (by show 2 * 0 + _ ≤ _; exact Nat.le_of_eq rfl) d22_1 (by decide) (by decide) (by decide) (by decide) ?_
  intro v1 T1 h1 X1 q1
  obtain ⟨rfl, rfl⟩ := q1
  show OFin _ _ _ _ _ _ T1 (mkF m 4 #[.val (.ref a1), .val (.int (Int32.ofNat i))] [(.int (1 : Int32))])
  refine X1.step (fun hA hx hq t_ k_ => XS.ifNo hA hx rfl (hb hq d22_4) rfl ((if0 _ _).trans (feq ((by decide))).1) k_) ?_
  show OFin _ _ _ _ _ _ T1 (mkF m 7 #[.val (.ref a1), .val (.int (Int32.ofNat i))] [])
  refine X1.step (fun hA hx hq t_ k_ => XS.aloadN hA hx rfl (hb hq d22_7) rfl rfl k_) ?_
  show OFin _ _ _ _ _ _ T1 (mkF m 8 #[.val (.ref a1), .val (.int (Int32.ofNat i))] [(.ref a1)])
  refine X1.getF (hw _ (List.mem_of_getElem? (i := 28) rfl)) S.2.2.1 (g := (mkF m 8 #[.val (.ref a1), .val (.int (Int32.ofNat i))] [(.ref a1)])) rfl rfl d22_8 ?_
  intro T2 X2
  show OFin _ _ _ _ _ _ T2 (mkF m 11 #[.val (.ref a1), .val (.int (Int32.ofNat i))] [(.ref t)])
  refine X2.step (fun hA hx hq t_ k_ => XS.iloadN hA hx rfl (hb hq d22_11) rfl k_) ?_
  show OFin _ _ _ _ _ _ T2 (mkF m 12 #[.val (.ref a1), .val (.int (Int32.ofNat i))] [(.int (Int32.ofNat i)), (.ref t)])
  refine X2.callS (y' := (⟨"java/lang/StringLatin1", "charAt", "([BI)C"⟩ : MethodName)) (hw _ (List.mem_of_getElem? (i := 108) rfl)) (hw _ (List.mem_of_getElem? (i := 109) rfl)) (hw _ (List.mem_of_getElem? (i := 77) rfl)) (hw _ (List.mem_of_getElem? (i := 110) rfl)) (by decide) (argsL := [(.ref t), (.int (Int32.ofNat i))]) (rest := []) (sc4 l Z a0 hw t i N f vf h0 n0 S.2.2.2 hfi SP rf hi hN) (g := (mkF m 12 #[.val (.ref a1), .val (.int (Int32.ofNat i))] [(.int (Int32.ofNat i)), (.ref t)])) rfl rfl pd_pA_BIr_C rfl rfl (W := 0) (by show 2 * 0 + _ ≤ _; exact Nat.le_of_eq rfl) d22_12 (by decide) (by decide) (by decide) (by decide) ?_
  intro v3 T3 h3 X3 q3
  obtain ⟨rfl, rfl⟩ := q3
  show OFin _ _ _ _ _ _ T3 (mkF m 15 #[.val (.ref a1), .val (.int (Int32.ofNat i))] [(.int (f i))])
  exact X3.retN (by simp) d22_15 (oN (by decide) (by decide)) (⟨by rw [own_narC _ hfi.1 (by omega)], rfl⟩)
/-- g: where f first is 32 below N, or -1 -/
def own_ixr (g : Int32) (N : Nat) (f : Nat → Int32) : Prop := (∃ d, d < N ∧ g = Int32.ofNat d ∧ f d = 32 ∧ ∀ j, j < d → f j ≠ 32) ∨ (g = -1 ∧ ∀ j, j < N → f j ≠ 32)
theorem d15_0 : decode jdk_43_method_4_code 0 = .ok (.iload_n 0, 1) := by decide +kernel
theorem d15_1 : decode jdk_43_method_4_code 1 = .ok (.ifCond .lt 14, 3) := by decide +kernel
theorem d15_4 : decode jdk_43_method_4_code 4 = .ok (.iload_n 0, 1) := by decide +kernel
theorem d15_5 : decode jdk_43_method_4_code 5 = .ok (.sipush 255, 3) := by decide +kernel
theorem d15_8 : decode jdk_43_method_4_code 8 = .ok (.if_icmp .gt 7, 3) := by decide +kernel
theorem d15_11 : decode jdk_43_method_4_code 11 = .ok (.iconst 1, 1) := by decide +kernel
theorem d15_12 : decode jdk_43_method_4_code 12 = .ok (.goto 4, 3) := by decide +kernel
theorem d15_16 : decode jdk_43_method_4_code 16 = .ok (.ireturn, 1) := by decide +kernel
set_option maxRecDepth 65536 in
set_option maxHeartbeats 40000000 in
theorem sx1 (l : Launch) (Z : State) (a0 : Array Value) (hw : ∀ d ∈ tables_1, d.before a0 Z = true)  (h0 : Heap) (n0 : Nat)  :
    OMeets l Z (⟨"java/lang/StringLatin1", "canEncode", "(I)Z"⟩ : MethodName) [] jdk_43_method_4_code 1 (some .boolean) ({ frames := 0, cells := 0, slots := 0, locals := 0 } : Room) #[(.int (32 : Int32))] h0 n0 (fun v h => v = some (.int 1) ∧ h0 = h) := by
  refine o_enter (Z := Z) (plainFor_of_name pn_java_lang_StringLatin1) ?_
  intro p e s m below meth c T0 X0
  refine OFin.cast (g' := (mkF m 0 #[.val (.int (32 : Int32))] [])) (by first | (simp [entryFrame, mkF, argsToLocals, Value.category]; done) | rfl) ?_
  refine X0.step (fun hA hx hq t_ k_ => XS.iloadN hA hx rfl (hb hq d15_0) rfl k_) ?_
  show OFin _ _ _ _ _ _ T0 (mkF m 1 #[.val (.int (32 : Int32))] [(.int (32 : Int32))])
  refine X0.step (fun hA hx hq t_ k_ => XS.ifNo hA hx rfl (hb hq d15_1) rfl ((if0 _ _).trans (flt ((by decide))).1) k_) ?_
  show OFin _ _ _ _ _ _ T0 (mkF m 4 #[.val (.int (32 : Int32))] [])
  refine X0.step (fun hA hx hq t_ k_ => XS.iloadN hA hx rfl (hb hq d15_4) rfl k_) ?_
  show OFin _ _ _ _ _ _ T0 (mkF m 5 #[.val (.int (32 : Int32))] [(.int (32 : Int32))])
  refine X0.step (fun hA hx hq t_ k_ => XS.sipush hA hx rfl (hb hq d15_5) k_) ?_
  show OFin _ _ _ _ _ _ T0 (mkF m 8 #[.val (.int (32 : Int32))] [(.int (255 : Int32)), (.int (32 : Int32))])
  refine X0.step (fun hA hx hq t_ k_ => XS.icmpNo hA hx rfl (hb hq d15_8) rfl (flt ((by decide))).2.2.1 k_) ?_
  show OFin _ _ _ _ _ _ T0 (mkF m 11 #[.val (.int (32 : Int32))] [])
  refine X0.step (fun hA hx hq t_ k_ => XS.iconst hA hx rfl (hb hq d15_11) k_) ?_
  show OFin _ _ _ _ _ _ T0 (mkF m 12 #[.val (.int (32 : Int32))] [(.int (1 : Int32))])
  refine X0.step (fun hA hx hq t_ k_ => XS.goto hA hx rfl (pc0 := 12) (pc' := 16) rfl (hb hq d15_12) (by decide) (by decide) k_) ?_
  show OFin _ _ _ _ _ _ T0 (mkF m 16 #[.val (.int (32 : Int32))] [(.int (1 : Int32))])
  exact X0.retN (by simp) d15_16 (oN (by decide) (by decide)) (⟨rfl, rfl⟩)
theorem d16_0 : decode jdk_29_method_65_code 0 = .ok (.iload_n 0, 1) := by decide +kernel
theorem d16_1 : decode jdk_29_method_65_code 1 = .ok (.iload_n 1, 1) := by decide +kernel
theorem d16_2 : decode jdk_29_method_65_code 2 = .ok (.if_icmp .lt 7, 3) := by decide +kernel
theorem d16_5 : decode jdk_29_method_65_code 5 = .ok (.iload_n 0, 1) := by decide +kernel
theorem d16_6 : decode jdk_29_method_65_code 6 = .ok (.goto 4, 3) := by decide +kernel
theorem d16_10 : decode jdk_29_method_65_code 10 = .ok (.ireturn, 1) := by decide +kernel
set_option maxRecDepth 65536 in
set_option maxHeartbeats 40000000 in
theorem sx2 (l : Launch) (Z : State) (a0 : Array Value) (hw : ∀ d ∈ tables_1, d.before a0 Z = true)  (h0 : Heap) (n0 : Nat)  :
    OMeets l Z (⟨"java/lang/Math", "max", "(II)I"⟩ : MethodName) [] jdk_29_method_65_code 2 (some .int) ({ frames := 0, cells := 0, slots := 0, locals := 0 } : Room) #[(.int (0 : Int32)), (.int (0 : Int32))] h0 n0 (fun v h => v = some (.int 0) ∧ h0 = h) := by
  refine o_enter (Z := Z) (Jvm.Free.JP.mathPlain rfl (by decide +kernel)) ?_
  intro p e s m below meth c T0 X0
  refine OFin.cast (g' := (mkF m 0 #[.val (.int (0 : Int32)), .val (.int (0 : Int32))] [])) (by first | (simp [entryFrame, mkF, argsToLocals, Value.category]; done) | rfl) ?_
  refine X0.step (fun hA hx hq t_ k_ => XS.iloadN hA hx rfl (hb hq d16_0) rfl k_) ?_
  show OFin _ _ _ _ _ _ T0 (mkF m 1 #[.val (.int (0 : Int32)), .val (.int (0 : Int32))] [(.int (0 : Int32))])
  refine X0.step (fun hA hx hq t_ k_ => XS.iloadN hA hx rfl (hb hq d16_1) rfl k_) ?_
  show OFin _ _ _ _ _ _ T0 (mkF m 2 #[.val (.int (0 : Int32)), .val (.int (0 : Int32))] [(.int (0 : Int32)), (.int (0 : Int32))])
  refine X0.step (fun hA hx hq t_ k_ => XS.icmpNo hA hx rfl (hb hq d16_2) rfl (flt ((by decide))).1 k_) ?_
  show OFin _ _ _ _ _ _ T0 (mkF m 5 #[.val (.int (0 : Int32)), .val (.int (0 : Int32))] [])
  refine X0.step (fun hA hx hq t_ k_ => XS.iloadN hA hx rfl (hb hq d16_5) rfl k_) ?_
  show OFin _ _ _ _ _ _ T0 (mkF m 6 #[.val (.int (0 : Int32)), .val (.int (0 : Int32))] [(.int (0 : Int32))])
  refine X0.step (fun hA hx hq t_ k_ => XS.goto hA hx rfl (pc0 := 6) (pc' := 10) rfl (hb hq d16_6) (by decide) (by decide) k_) ?_
  show OFin _ _ _ _ _ _ T0 (mkF m 10 #[.val (.int (0 : Int32)), .val (.int (0 : Int32))] [(.int (0 : Int32))])
  exact X0.retI d16_10 (oN (by decide) (by decide)) (⟨rfl, rfl⟩)
theorem d17_0 : decode jdk_29_method_69_code 0 = .ok (.iload_n 0, 1) := by decide +kernel
theorem d17_1 : decode jdk_29_method_69_code 1 = .ok (.iload_n 1, 1) := by decide +kernel
theorem d17_2 : decode jdk_29_method_69_code 2 = .ok (.if_icmp .gt 7, 3) := by decide +kernel
theorem d17_9 : decode jdk_29_method_69_code 9 = .ok (.iload_n 1, 1) := by decide +kernel
theorem d17_10 : decode jdk_29_method_69_code 10 = .ok (.ireturn, 1) := by decide +kernel
theorem d17_5 : decode jdk_29_method_69_code 5 = .ok (.iload_n 0, 1) := by decide +kernel
theorem d17_6 : decode jdk_29_method_69_code 6 = .ok (.goto 4, 3) := by decide +kernel
set_option maxRecDepth 65536 in
set_option maxHeartbeats 40000000 in
theorem sx3 (l : Launch) (Z : State) (a0 : Array Value) (hw : ∀ d ∈ tables_1, d.before a0 Z = true) (i j : Nat) (h0 : Heap) (n0 : Nat) (hi : i ≤ 4000) (hj : j ≤ 4000) :
    OMeets l Z (⟨"java/lang/Math", "min", "(II)I"⟩ : MethodName) [] jdk_29_method_69_code 2 (some .int) ({ frames := 0, cells := 0, slots := 0, locals := 0 } : Room) #[(.int (Int32.ofNat i)), (.int (Int32.ofNat j))] h0 n0 (fun v h => v = some (.int (Int32.ofNat (min i j))) ∧ h0 = h) := by
  refine o_enter (Z := Z) (Jvm.Free.JP.mathPlain rfl (by decide +kernel)) ?_
  intro p e s m below meth c T0 X0
  refine OFin.cast (g' := (mkF m 0 #[.val (.int (Int32.ofNat i)), .val (.int (Int32.ofNat j))] [])) (by first | (simp [entryFrame, mkF, argsToLocals, Value.category]; done) | rfl) ?_
  refine X0.step (fun hA hx hq t_ k_ => XS.iloadN hA hx rfl (hb hq d17_0) rfl k_) ?_
  show OFin _ _ _ _ _ _ T0 (mkF m 1 #[.val (.int (Int32.ofNat i)), .val (.int (Int32.ofNat j))] [(.int (Int32.ofNat i))])
  refine X0.step (fun hA hx hq t_ k_ => XS.iloadN hA hx rfl (hb hq d17_1) rfl k_) ?_
  show OFin _ _ _ _ _ _ T0 (mkF m 2 #[.val (.int (Int32.ofNat i)), .val (.int (Int32.ofNat j))] [(.int (Int32.ofNat j)), (.int (Int32.ofNat i))])
  by_cases c : (Int32.ofNat j) < (Int32.ofNat i)
  · refine X0.step (fun hA hx hq t_ k_ => XS.icmpYes hA hx rfl (pc0 := 2) (pc' := 9) rfl (hb hq d17_2) rfl (tlt (c)).2.2.1 (by decide) (by decide) k_) ?_
    show OFin _ _ _ _ _ _ T0 (mkF m 9 #[.val (.int (Int32.ofNat i)), .val (.int (Int32.ofNat j))] [])
    have q := (own_lt32 j i (by omega) (by omega)).mp c
    refine X0.step (fun hA hx hq t_ k_ => XS.iloadN hA hx rfl (hb hq d17_9) rfl k_) ?_
    show OFin _ _ _ _ _ _ T0 (mkF m 10 #[.val (.int (Int32.ofNat i)), .val (.int (Int32.ofNat j))] [(.int (Int32.ofNat j))])
    exact X0.retI d17_10 (oN (by decide) (by decide)) (⟨by rw [Nat.min_eq_right (by omega)], rfl⟩)
  · refine X0.step (fun hA hx hq t_ k_ => XS.icmpNo hA hx rfl (hb hq d17_2) rfl (flt (c)).2.2.1 k_) ?_
    show OFin _ _ _ _ _ _ T0 (mkF m 5 #[.val (.int (Int32.ofNat i)), .val (.int (Int32.ofNat j))] [])
    have q : ¬ j < i := fun z => c ((own_lt32 j i (by omega) (by omega)).mpr z)
    refine X0.step (fun hA hx hq t_ k_ => XS.iloadN hA hx rfl (hb hq d17_5) rfl k_) ?_
    show OFin _ _ _ _ _ _ T0 (mkF m 6 #[.val (.int (Int32.ofNat i)), .val (.int (Int32.ofNat j))] [(.int (Int32.ofNat i))])
    refine X0.step (fun hA hx hq t_ k_ => XS.goto hA hx rfl (pc0 := 6) (pc' := 10) rfl (hb hq d17_6) (by decide) (by decide) k_) ?_
    show OFin _ _ _ _ _ _ T0 (mkF m 10 #[.val (.int (Int32.ofNat i)), .val (.int (Int32.ofNat j))] [(.int (Int32.ofNat i))])
    exact X0.retI d17_10 (oN (by decide) (by decide)) (⟨by rw [Nat.min_eq_left (by omega)], rfl⟩)
theorem d21_0 : decode jdk_43_method_23_code 0 = .ok (.iload_n 1, 1) := by decide +kernel
theorem d21_1 : decode jdk_43_method_23_code 1 = .ok (.i2b, 1) := by decide +kernel
theorem d21_2 : decode jdk_43_method_23_code 2 = .ok (.istore 4, 2) := by decide +kernel
theorem d21_4 : decode jdk_43_method_23_code 4 = .ok (.iload_n 2, 1) := by decide +kernel
theorem d21_5 : decode jdk_43_method_23_code 5 = .ok (.istore 5, 2) := by decide +kernel
theorem d21_7 : decode jdk_43_method_23_code 7 = .ok (.iload 5, 2) := by decide +kernel
theorem d21_9 : decode jdk_43_method_23_code 9 = .ok (.iload_n 3, 1) := by decide +kernel
theorem d21_10 : decode jdk_43_method_23_code 10 = .ok (.if_icmp .ge 21, 3) := by decide +kernel
theorem d21_31 : decode jdk_43_method_23_code 31 = .ok (.iconst (-1), 1) := by decide +kernel
theorem d21_32 : decode jdk_43_method_23_code 32 = .ok (.ireturn, 1) := by decide +kernel
theorem d21_13 : decode jdk_43_method_23_code 13 = .ok (.aload_n 0, 1) := by decide +kernel
theorem d21_14 : decode jdk_43_method_23_code 14 = .ok (.iload 5, 2) := by decide +kernel
theorem d21_16 : decode jdk_43_method_23_code 16 = .ok (.baload, 1) := by decide +kernel
theorem d21_17 : decode jdk_43_method_23_code 17 = .ok (.iload 4, 2) := by decide +kernel
theorem d21_19 : decode jdk_43_method_23_code 19 = .ok (.if_icmp .ne 6, 3) := by decide +kernel
theorem d21_25 : decode jdk_43_method_23_code 25 = .ok (.iinc 5 1, 3) := by decide +kernel
theorem d21_28 : decode jdk_43_method_23_code 28 = .ok (.goto (-21), 3) := by decide +kernel
theorem d21_22 : decode jdk_43_method_23_code 22 = .ok (.iload 5, 2) := by decide +kernel
theorem d21_24 : decode jdk_43_method_23_code 24 = .ok (.ireturn, 1) := by decide +kernel
set_option maxRecDepth 65536 in
set_option maxHeartbeats 40000000 in
theorem sx4 (l : Launch) (Z : State) (a0 : Array Value) (hw : ∀ d ∈ tables_1, d.before a0 Z = true) (t : Addr) (N : Nat) (f : Nat → Int32) (h0 : Heap) (n0 : Nat) (F : OArr Z h0 t .byte N (fun j => .int (f j).toInt8.toInt32)) (hN : N ≤ 4000) (hch : ∀ j, j < N → 0 ≤ (f j).toInt ∧ (f j).toInt ≤ 255) :
    OMeets l Z (⟨"java/lang/StringLatin1", "indexOfChar", "([BIII)I"⟩ : MethodName) [] jdk_43_method_23_code 6 (some .int) ({ frames := 0, cells := 0, slots := 0, locals := 0 } : Room) #[(.ref t), (.int (32 : Int32)), (.int (0 : Int32)), (.int (Int32.ofNat N))] h0 n0 (fun v h => h0 = h ∧ ∃ g, v = some (.int g) ∧ own_ixr g N f) := by
  refine o_enter (Z := Z) (plainFor_of_name pn_java_lang_StringLatin1) ?_
  intro p e s m below meth c T0 X0
  refine OFin.cast (g' := (mkF m 0 #[.val (.ref t), .val (.int (32 : Int32)), .val (.int (0 : Int32)), .val (.int (Int32.ofNat N)), .unset, .unset] [])) (by first | (simp [entryFrame, mkF, argsToLocals, Value.category]; done) | rfl) ?_
  obtain ⟨c1, A1, S1, H1⟩ := id F
  refine X0.step (fun hA hx hq t_ k_ => XS.iloadN hA hx rfl (hb hq d21_0) rfl k_) ?_
  show OFin _ _ _ _ _ _ T0 (mkF m 1 #[.val (.ref t), .val (.int (32 : Int32)), .val (.int (0 : Int32)), .val (.int (Int32.ofNat N)), .unset, .unset] [(.int (32 : Int32))])
  refine X0.step (fun hA hx hq t_ k_ => XS.i2b hA hx rfl (hb hq d21_1) rfl k_) ?_
  show OFin _ _ _ _ _ _ T0 (mkF m 2 #[.val (.ref t), .val (.int (32 : Int32)), .val (.int (0 : Int32)), .val (.int (Int32.ofNat N)), .unset, .unset] [(.int ((32 : Int32).toInt8.toInt32))])
  refine X0.step (fun hA hx hq t_ k_ => XS.istore hA hx rfl (hb hq d21_2) rfl (l' := #[.val (.ref t), .val (.int (32 : Int32)), .val (.int (0 : Int32)), .val (.int (Int32.ofNat N)), .val (.int ((32 : Int32).toInt8.toInt32)), .unset]) rfl k_) ?_
  show OFin _ _ _ _ _ _ T0 (mkF m 4 #[.val (.ref t), .val (.int (32 : Int32)), .val (.int (0 : Int32)), .val (.int (Int32.ofNat N)), .val (.int ((32 : Int32).toInt8.toInt32)), .unset] [])
  refine X0.step (fun hA hx hq t_ k_ => XS.iloadN hA hx rfl (hb hq d21_4) rfl k_) ?_
  show OFin _ _ _ _ _ _ T0 (mkF m 5 #[.val (.ref t), .val (.int (32 : Int32)), .val (.int (0 : Int32)), .val (.int (Int32.ofNat N)), .val (.int ((32 : Int32).toInt8.toInt32)), .unset] [(.int (0 : Int32))])
  refine X0.step (fun hA hx hq t_ k_ => XS.istore hA hx rfl (hb hq d21_5) rfl (l' := #[.val (.ref t), .val (.int (32 : Int32)), .val (.int (0 : Int32)), .val (.int (Int32.ofNat N)), .val (.int ((32 : Int32).toInt8.toInt32)), .val (.int (0 : Int32))]) rfl k_) ?_
  show OFin _ _ _ _ _ _ T0 (mkF m 7 #[.val (.ref t), .val (.int (32 : Int32)), .val (.int (0 : Int32)), .val (.int (Int32.ofNat N)), .val (.int ((32 : Int32).toInt8.toInt32)), .val (.int (0 : Int32))] [])
  have loop : ∀ (k i : Nat), i + k = N → (∀ j, j < i → f j ≠ 32) → OFin n0 p e (fun o t L => FrameEnd s o t L ({ frames := 0, cells := 0, slots := 0, locals := 0 } : Room).cells ({ frames := 0, cells := 0, slots := 0, locals := 0 } : Room).slots) below (fun v h => h0 = h ∧ ∃ g, v = some (.int g) ∧ own_ixr g N f) T0 (mkF m 7 #[.val (.ref t), .val (.int (32 : Int32)), .val (.int (0 : Int32)), .val (.int (Int32.ofNat N)), .val (.int ((32 : Int32).toInt8.toInt32)), .val (.int (Int32.ofNat i))] []) := by
    intro k
    induction k with
    | zero =>
      intro i hik hj
      have hiN : i = N := by omega
      refine X0.step (fun hA hx hq t_ k_ => XS.iload hA hx rfl (hb hq d21_7) rfl k_) ?_
      show OFin _ _ _ _ _ _ T0 (mkF m 9 #[.val (.ref t), .val (.int (32 : Int32)), .val (.int (0 : Int32)), .val (.int (Int32.ofNat N)), .val (.int ((32 : Int32).toInt8.toInt32)), .val (.int (Int32.ofNat i))] [(.int (Int32.ofNat i))])
      refine X0.step (fun hA hx hq t_ k_ => XS.iloadN hA hx rfl (hb hq d21_9) rfl k_) ?_
      show OFin _ _ _ _ _ _ T0 (mkF m 10 #[.val (.ref t), .val (.int (32 : Int32)), .val (.int (0 : Int32)), .val (.int (Int32.ofNat N)), .val (.int ((32 : Int32).toInt8.toInt32)), .val (.int (Int32.ofNat i))] [(.int (Int32.ofNat N)), (.int (Int32.ofNat i))])
      refine X0.step (fun hA hx hq t_ k_ => XS.icmpYes hA hx rfl (pc0 := 10) (pc' := 31) rfl (hb hq d21_10) rfl (flt (fun c => by rw [own_lt32 i N (by omega) (by omega)] at c; omega)).2.1 (by decide) (by decide) k_) ?_
      show OFin _ _ _ _ _ _ T0 (mkF m 31 #[.val (.ref t), .val (.int (32 : Int32)), .val (.int (0 : Int32)), .val (.int (Int32.ofNat N)), .val (.int ((32 : Int32).toInt8.toInt32)), .val (.int (Int32.ofNat i))] [])
      refine X0.step (fun hA hx hq t_ k_ => XS.iconst hA hx rfl (hb hq d21_31) k_) ?_
      show OFin _ _ _ _ _ _ T0 (mkF m 32 #[.val (.ref t), .val (.int (32 : Int32)), .val (.int (0 : Int32)), .val (.int (Int32.ofNat N)), .val (.int ((32 : Int32).toInt8.toInt32)), .val (.int (Int32.ofNat i))] [(.int (-1 : Int32))])
      exact X0.retI d21_32 (oN (by decide) (by decide)) (⟨rfl, -1, rfl, Or.inr ⟨rfl, fun j h => hj j (by omega)⟩⟩)
    | succ k ih =>
      intro i hik hj
      have hlt : i < N := by omega
      refine X0.step (fun hA hx hq t_ k_ => XS.iload hA hx rfl (hb hq d21_7) rfl k_) ?_
      show OFin _ _ _ _ _ _ T0 (mkF m 9 #[.val (.ref t), .val (.int (32 : Int32)), .val (.int (0 : Int32)), .val (.int (Int32.ofNat N)), .val (.int ((32 : Int32).toInt8.toInt32)), .val (.int (Int32.ofNat i))] [(.int (Int32.ofNat i))])
      refine X0.step (fun hA hx hq t_ k_ => XS.iloadN hA hx rfl (hb hq d21_9) rfl k_) ?_
      show OFin _ _ _ _ _ _ T0 (mkF m 10 #[.val (.ref t), .val (.int (32 : Int32)), .val (.int (0 : Int32)), .val (.int (Int32.ofNat N)), .val (.int ((32 : Int32).toInt8.toInt32)), .val (.int (Int32.ofNat i))] [(.int (Int32.ofNat N)), (.int (Int32.ofNat i))])
      refine X0.step (fun hA hx hq t_ k_ => XS.icmpNo hA hx rfl (hb hq d21_10) rfl (tlt ((own_lt32 i N (by omega) (by omega)).mpr hlt)).2.1 k_) ?_
      show OFin _ _ _ _ _ _ T0 (mkF m 13 #[.val (.ref t), .val (.int (32 : Int32)), .val (.int (0 : Int32)), .val (.int (Int32.ofNat N)), .val (.int ((32 : Int32).toInt8.toInt32)), .val (.int (Int32.ofNat i))] [])
      refine X0.step (fun hA hx hq t_ k_ => XS.aloadN hA hx rfl (hb hq d21_13) rfl rfl k_) ?_
      show OFin _ _ _ _ _ _ T0 (mkF m 14 #[.val (.ref t), .val (.int (32 : Int32)), .val (.int (0 : Int32)), .val (.int (Int32.ofNat N)), .val (.int ((32 : Int32).toInt8.toInt32)), .val (.int (Int32.ofNat i))] [(.ref t)])
      refine X0.step (fun hA hx hq t_ k_ => XS.iload hA hx rfl (hb hq d21_14) rfl k_) ?_
      show OFin _ _ _ _ _ _ T0 (mkF m 16 #[.val (.ref t), .val (.int (32 : Int32)), .val (.int (0 : Int32)), .val (.int (Int32.ofNat N)), .val (.int ((32 : Int32).toInt8.toInt32)), .val (.int (Int32.ofNat i))] [(.int (Int32.ofNat i)), (.ref t)])
      refine X0.aload0 A1 (v := (.int (f i).toInt8.toInt32)) (own_inN S1 hlt (by omega)) (by rw [own_iN i (by omega)]; exact H1 i hlt) (g := (mkF m 16 #[.val (.ref t), .val (.int (32 : Int32)), .val (.int (0 : Int32)), .val (.int (Int32.ofNat N)), .val (.int ((32 : Int32).toInt8.toInt32)), .val (.int (Int32.ofNat i))] [(.int (Int32.ofNat i)), (.ref t)])) rfl rfl (Or.inr (Or.inr (Or.inr (Or.inl ⟨rfl, rfl⟩)))) d21_16 ?_
      show OFin _ _ _ _ _ _ T0 (mkF m 17 #[.val (.ref t), .val (.int (32 : Int32)), .val (.int (0 : Int32)), .val (.int (Int32.ofNat N)), .val (.int ((32 : Int32).toInt8.toInt32)), .val (.int (Int32.ofNat i))] [(.int (f i).toInt8.toInt32)])
      refine X0.step (fun hA hx hq t_ k_ => XS.iload hA hx rfl (hb hq d21_17) rfl k_) ?_
      show OFin _ _ _ _ _ _ T0 (mkF m 19 #[.val (.ref t), .val (.int (32 : Int32)), .val (.int (0 : Int32)), .val (.int (Int32.ofNat N)), .val (.int ((32 : Int32).toInt8.toInt32)), .val (.int (Int32.ofNat i))] [(.int ((32 : Int32).toInt8.toInt32)), (.int (f i).toInt8.toInt32)])
      by_cases c2 : (f i).toInt8.toInt32 = ((32 : Int32).toInt8.toInt32)
      · refine X0.step (fun hA hx hq t_ k_ => XS.icmpNo hA hx rfl (hb hq d21_19) rfl (teq (c2)).2 k_) ?_
        show OFin _ _ _ _ _ _ T0 (mkF m 22 #[.val (.ref t), .val (.int (32 : Int32)), .val (.int (0 : Int32)), .val (.int (Int32.ofNat N)), .val (.int ((32 : Int32).toInt8.toInt32)), .val (.int (Int32.ofNat i))] [])
        refine X0.step (fun hA hx hq t_ k_ => XS.iload hA hx rfl (hb hq d21_22) rfl k_) ?_
        show OFin _ _ _ _ _ _ T0 (mkF m 24 #[.val (.ref t), .val (.int (32 : Int32)), .val (.int (0 : Int32)), .val (.int (Int32.ofNat N)), .val (.int ((32 : Int32).toInt8.toInt32)), .val (.int (Int32.ofNat i))] [(.int (Int32.ofNat i))])
        exact X0.retI d21_24 (oN (by decide) (by decide)) (⟨rfl, _, rfl, Or.inl ⟨i, hlt, rfl, own_b8 (hch i hlt) (by decide) c2, hj⟩⟩)
      · refine X0.step (fun hA hx hq t_ k_ => XS.icmpYes hA hx rfl (pc0 := 19) (pc' := 25) rfl (hb hq d21_19) rfl (feq (c2)).2 (by decide) (by decide) k_) ?_
        show OFin _ _ _ _ _ _ T0 (mkF m 25 #[.val (.ref t), .val (.int (32 : Int32)), .val (.int (0 : Int32)), .val (.int (Int32.ofNat N)), .val (.int ((32 : Int32).toInt8.toInt32)), .val (.int (Int32.ofNat i))] [])
        refine X0.step (fun hA hx hq t_ k_ => XS.iinc hA hx rfl (hb hq d21_25) rfl (l' := #[.val (.ref t), .val (.int (32 : Int32)), .val (.int (0 : Int32)), .val (.int (Int32.ofNat N)), .val (.int ((32 : Int32).toInt8.toInt32)), .val (.int ((Int32.ofNat i) + (1 : Int32)))]) rfl k_) ?_
        show OFin _ _ _ _ _ _ T0 (mkF m 28 #[.val (.ref t), .val (.int (32 : Int32)), .val (.int (0 : Int32)), .val (.int (Int32.ofNat N)), .val (.int ((32 : Int32).toInt8.toInt32)), .val (.int ((Int32.ofNat i) + (1 : Int32)))] [])
        rw [own_succ i (by omega)]
        show OFin _ _ _ _ _ _ T0 (mkF m 28 #[.val (.ref t), .val (.int (32 : Int32)), .val (.int (0 : Int32)), .val (.int (Int32.ofNat N)), .val (.int ((32 : Int32).toInt8.toInt32)), .val (.int (Int32.ofNat (i + 1)))] [])
        refine X0.step (fun hA hx hq t_ k_ => XS.goto hA hx rfl (pc0 := 28) (pc' := 7) rfl (hb hq d21_28) (by decide) (by decide) k_) ?_
        show OFin _ _ _ _ _ _ T0 (mkF m 7 #[.val (.ref t), .val (.int (32 : Int32)), .val (.int (0 : Int32)), .val (.int (Int32.ofNat N)), .val (.int ((32 : Int32).toInt8.toInt32)), .val (.int (Int32.ofNat (i + 1)))] [])
        exact ih (i + 1) (by omega) fun j h => by
          rcases (by omega : j < i ∨ j = i) with z | z
          · exact hj j z
          · rw [z]; exact fun q => c2 (by rw [q])
  exact loop N 0 (by omega) (fun j h => absurd h (Nat.not_lt_zero j))
theorem d14_0 : decode jdk_43_method_22_code 0 = .ok (.iload_n 1, 1) := by decide +kernel
theorem d14_1 : decode jdk_43_method_22_code 1 = .ok (.invokestatic 88, 3) := by decide +kernel
theorem pd_pIr_Z : parseMethodDescriptor "(I)Z" = some ⟨[.int], some .boolean⟩ := by decide +kernel
theorem d14_4 : decode jdk_43_method_22_code 4 = .ok (.ifCond .ne 5, 3) := by decide +kernel
theorem d14_9 : decode jdk_43_method_22_code 9 = .ok (.iload_n 2, 1) := by decide +kernel
theorem d14_10 : decode jdk_43_method_22_code 10 = .ok (.iconst 0, 1) := by decide +kernel
theorem d14_11 : decode jdk_43_method_22_code 11 = .ok (.invokestatic 92, 3) := by decide +kernel
theorem pd_pIIr_I : parseMethodDescriptor "(II)I" = some ⟨[.int, .int], some .int⟩ := by decide +kernel
theorem d14_14 : decode jdk_43_method_22_code 14 = .ok (.istore_n 2, 1) := by decide +kernel
theorem d14_15 : decode jdk_43_method_22_code 15 = .ok (.iload_n 3, 1) := by decide +kernel
theorem d14_16 : decode jdk_43_method_22_code 16 = .ok (.aload_n 0, 1) := by decide +kernel
theorem d14_17 : decode jdk_43_method_22_code 17 = .ok (.arraylength, 1) := by decide +kernel
theorem d14_18 : decode jdk_43_method_22_code 18 = .ok (.invokestatic 38, 3) := by decide +kernel
theorem d14_21 : decode jdk_43_method_22_code 21 = .ok (.istore_n 3, 1) := by decide +kernel
theorem d14_22 : decode jdk_43_method_22_code 22 = .ok (.iload_n 2, 1) := by decide +kernel
theorem d14_23 : decode jdk_43_method_22_code 23 = .ok (.iload_n 3, 1) := by decide +kernel
theorem d14_24 : decode jdk_43_method_22_code 24 = .ok (.if_icmp .lt 5, 3) := by decide +kernel
theorem d14_27 : decode jdk_43_method_22_code 27 = .ok (.iconst (-1), 1) := by decide +kernel
theorem d14_28 : decode jdk_43_method_22_code 28 = .ok (.ireturn, 1) := by decide +kernel
theorem d14_29 : decode jdk_43_method_22_code 29 = .ok (.aload_n 0, 1) := by decide +kernel
theorem d14_30 : decode jdk_43_method_22_code 30 = .ok (.iload_n 1, 1) := by decide +kernel
theorem d14_31 : decode jdk_43_method_22_code 31 = .ok (.iload_n 2, 1) := by decide +kernel
theorem d14_32 : decode jdk_43_method_22_code 32 = .ok (.iload_n 3, 1) := by decide +kernel
theorem d14_33 : decode jdk_43_method_22_code 33 = .ok (.invokestatic 95, 3) := by decide +kernel
theorem pd_pA_BIIIr_I : parseMethodDescriptor "([BIII)I" = some ⟨[(.array .byte), .int, .int, .int], some .int⟩ := by decide +kernel
theorem d14_36 : decode jdk_43_method_22_code 36 = .ok (.ireturn, 1) := by decide +kernel
set_option maxRecDepth 65536 in
set_option maxHeartbeats 40000000 in
theorem sx5 (l : Launch) (Z : State) (a0 : Array Value) (hw : ∀ d ∈ tables_1, d.before a0 Z = true) (t : Addr) (N : Nat) (f : Nat → Int32) (h0 : Heap) (n0 : Nat) (F : OArr Z h0 t .byte N (fun j => .int (f j).toInt8.toInt32)) (hN : N ≤ 4000) (hch : ∀ j, j < N → 0 ≤ (f j).toInt ∧ (f j).toInt ≤ 255) :
    OMeets l Z (⟨"java/lang/StringLatin1", "indexOf", "([BIII)I"⟩ : MethodName) [] jdk_43_method_22_code 4 (some .int) ({ frames := 1, cells := 0, slots := 0, locals := 17 } : Room) #[(.ref t), (.int (32 : Int32)), (.int (0 : Int32)), (.int (Int32.ofNat N))] h0 n0 (fun v h => h0 = h ∧ ∃ g, v = some (.int g) ∧ own_ixr g N f) := by
  refine o_enter (Z := Z) (plainFor_of_name pn_java_lang_StringLatin1) ?_
  intro p e s m below meth c T0 X0
  refine OFin.cast (g' := (mkF m 0 #[.val (.ref t), .val (.int (32 : Int32)), .val (.int (0 : Int32)), .val (.int (Int32.ofNat N))] [])) (by first | (simp [entryFrame, mkF, argsToLocals, Value.category]; done) | rfl) ?_
  obtain ⟨c1, A1, S1, H1⟩ := id F
  refine X0.step (fun hA hx hq t_ k_ => XS.iloadN hA hx rfl (hb hq d14_0) rfl k_) ?_
  show OFin _ _ _ _ _ _ T0 (mkF m 1 #[.val (.ref t), .val (.int (32 : Int32)), .val (.int (0 : Int32)), .val (.int (Int32.ofNat N))] [(.int (32 : Int32))])
  refine X0.callS (y' := (⟨"java/lang/StringLatin1", "canEncode", "(I)Z"⟩ : MethodName)) (hw _ (List.mem_of_getElem? (i := 79) rfl)) (hw _ (List.mem_of_getElem? (i := 80) rfl)) (hw _ (List.mem_of_getElem? (i := 77) rfl)) (hw _ (List.mem_of_getElem? (i := 81) rfl)) (by decide) (argsL := [(.int (32 : Int32))]) (rest := []) (sx1 l Z a0 hw h0 n0) (g := (mkF m 1 #[.val (.ref t), .val (.int (32 : Int32)), .val (.int (0 : Int32)), .val (.int (Int32.ofNat N))] [(.int (32 : Int32))])) rfl rfl pd_pIr_Z rfl rfl (W := 0) (by show 2 * 0 + _ ≤ _; exact Nat.le_of_eq rfl) d14_1 (by decide) (by decide) (by decide) (by decide) ?_
  intro v1 T1 h1 X1 q1
  obtain ⟨rfl, rfl⟩ := q1
  show OFin _ _ _ _ _ _ T1 (mkF m 4 #[.val (.ref t), .val (.int (32 : Int32)), .val (.int (0 : Int32)), .val (.int (Int32.ofNat N))] [(.int (1 : Int32))])
  refine X1.step (fun hA hx hq t_ k_ => XS.ifYes hA hx rfl (pc0 := 4) (pc' := 9) rfl (hb hq d14_4) rfl ((if0 _ _).trans (feq ((by decide))).2) (by decide) (by decide) k_) ?_
  show OFin _ _ _ _ _ _ T1 (mkF m 9 #[.val (.ref t), .val (.int (32 : Int32)), .val (.int (0 : Int32)), .val (.int (Int32.ofNat N))] [])
  refine X1.step (fun hA hx hq t_ k_ => XS.iloadN hA hx rfl (hb hq d14_9) rfl k_) ?_
  show OFin _ _ _ _ _ _ T1 (mkF m 10 #[.val (.ref t), .val (.int (32 : Int32)), .val (.int (0 : Int32)), .val (.int (Int32.ofNat N))] [(.int (0 : Int32))])
  refine X1.step (fun hA hx hq t_ k_ => XS.iconst hA hx rfl (hb hq d14_10) k_) ?_
  show OFin _ _ _ _ _ _ T1 (mkF m 11 #[.val (.ref t), .val (.int (32 : Int32)), .val (.int (0 : Int32)), .val (.int (Int32.ofNat N))] [(.int (0 : Int32)), (.int (0 : Int32))])
  refine X1.callS (y' := (⟨"java/lang/Math", "max", "(II)I"⟩ : MethodName)) (hw _ (List.mem_of_getElem? (i := 82) rfl)) (hw _ (List.mem_of_getElem? (i := 83) rfl)) (hw _ (List.mem_of_getElem? (i := 84) rfl)) (hw _ (List.mem_of_getElem? (i := 85) rfl)) (by decide) (argsL := [(.int (0 : Int32)), (.int (0 : Int32))]) (rest := []) (sx2 l Z a0 hw h0 n0) (g := (mkF m 11 #[.val (.ref t), .val (.int (32 : Int32)), .val (.int (0 : Int32)), .val (.int (Int32.ofNat N))] [(.int (0 : Int32)), (.int (0 : Int32))])) rfl rfl pd_pIIr_I rfl rfl (W := 0) (by show 2 * 0 + _ ≤ _; exact Nat.le_of_eq rfl) d14_11 (by decide) (by decide) (by decide) (by decide) ?_
  intro v2 T2 h2 X2 q2
  obtain ⟨rfl, rfl⟩ := q2
  show OFin _ _ _ _ _ _ T2 (mkF m 14 #[.val (.ref t), .val (.int (32 : Int32)), .val (.int (0 : Int32)), .val (.int (Int32.ofNat N))] [(.int (0 : Int32))])
  refine X2.step (fun hA hx hq t_ k_ => XS.istoreN hA hx rfl (hb hq d14_14) rfl (l' := #[.val (.ref t), .val (.int (32 : Int32)), .val (.int (0 : Int32)), .val (.int (Int32.ofNat N))]) rfl k_) ?_
  show OFin _ _ _ _ _ _ T2 (mkF m 15 #[.val (.ref t), .val (.int (32 : Int32)), .val (.int (0 : Int32)), .val (.int (Int32.ofNat N))] [])
  refine X2.step (fun hA hx hq t_ k_ => XS.iloadN hA hx rfl (hb hq d14_15) rfl k_) ?_
  show OFin _ _ _ _ _ _ T2 (mkF m 16 #[.val (.ref t), .val (.int (32 : Int32)), .val (.int (0 : Int32)), .val (.int (Int32.ofNat N))] [(.int (Int32.ofNat N))])
  refine X2.step (fun hA hx hq t_ k_ => XS.aloadN hA hx rfl (hb hq d14_16) rfl rfl k_) ?_
  show OFin _ _ _ _ _ _ T2 (mkF m 17 #[.val (.ref t), .val (.int (32 : Int32)), .val (.int (0 : Int32)), .val (.int (Int32.ofNat N))] [(.ref t), (.int (Int32.ofNat N))])
  refine X2.alen A1 (n := (Int32.ofNat N)) (by rw [S1]) (g := (mkF m 17 #[.val (.ref t), .val (.int (32 : Int32)), .val (.int (0 : Int32)), .val (.int (Int32.ofNat N))] [(.ref t), (.int (Int32.ofNat N))])) rfl rfl d14_17 ?_
  show OFin _ _ _ _ _ _ T2 (mkF m 18 #[.val (.ref t), .val (.int (32 : Int32)), .val (.int (0 : Int32)), .val (.int (Int32.ofNat N))] [(.int (Int32.ofNat N)), (.int (Int32.ofNat N))])
  refine X2.callS (y' := (⟨"java/lang/Math", "min", "(II)I"⟩ : MethodName)) (hw _ (List.mem_of_getElem? (i := 86) rfl)) (hw _ (List.mem_of_getElem? (i := 87) rfl)) (hw _ (List.mem_of_getElem? (i := 84) rfl)) (hw _ (List.mem_of_getElem? (i := 88) rfl)) (by decide) (argsL := [(.int (Int32.ofNat N)), (.int (Int32.ofNat N))]) (rest := []) (sx3 l Z a0 hw N N h0 n0 hN hN) (g := (mkF m 18 #[.val (.ref t), .val (.int (32 : Int32)), .val (.int (0 : Int32)), .val (.int (Int32.ofNat N))] [(.int (Int32.ofNat N)), (.int (Int32.ofNat N))])) rfl rfl pd_pIIr_I rfl rfl (W := 0) (by show 2 * 0 + _ ≤ _; exact Nat.le_of_eq rfl) d14_18 (by decide) (by decide) (by decide) (by decide) ?_
  intro v3 T3 h3 X3 q3
  obtain ⟨rfl, rfl⟩ := q3
  show OFin _ _ _ _ _ _ T3 (mkF m 21 #[.val (.ref t), .val (.int (32 : Int32)), .val (.int (0 : Int32)), .val (.int (Int32.ofNat N))] [(.int (Int32.ofNat (min N N)))])
  rw [Nat.min_self]
  show OFin _ _ _ _ _ _ T3 (mkF m 21 #[.val (.ref t), .val (.int (32 : Int32)), .val (.int (0 : Int32)), .val (.int (Int32.ofNat N))] [(.int (Int32.ofNat N))])
  refine X3.step (fun hA hx hq t_ k_ => XS.istoreN hA hx rfl (hb hq d14_21) rfl (l' := #[.val (.ref t), .val (.int (32 : Int32)), .val (.int (0 : Int32)), .val (.int (Int32.ofNat N))]) rfl k_) ?_
  show OFin _ _ _ _ _ _ T3 (mkF m 22 #[.val (.ref t), .val (.int (32 : Int32)), .val (.int (0 : Int32)), .val (.int (Int32.ofNat N))] [])
  refine X3.step (fun hA hx hq t_ k_ => XS.iloadN hA hx rfl (hb hq d14_22) rfl k_) ?_
  show OFin _ _ _ _ _ _ T3 (mkF m 23 #[.val (.ref t), .val (.int (32 : Int32)), .val (.int (0 : Int32)), .val (.int (Int32.ofNat N))] [(.int (0 : Int32))])
  refine X3.step (fun hA hx hq t_ k_ => XS.iloadN hA hx rfl (hb hq d14_23) rfl k_) ?_
  show OFin _ _ _ _ _ _ T3 (mkF m 24 #[.val (.ref t), .val (.int (32 : Int32)), .val (.int (0 : Int32)), .val (.int (Int32.ofNat N))] [(.int (Int32.ofNat N)), (.int (0 : Int32))])
  by_cases c : (0 : Int32) < (Int32.ofNat N)
  · refine X3.step (fun hA hx hq t_ k_ => XS.icmpYes hA hx rfl (pc0 := 24) (pc' := 29) rfl (hb hq d14_24) rfl (tlt (c)).1 (by decide) (by decide) k_) ?_
    show OFin _ _ _ _ _ _ T3 (mkF m 29 #[.val (.ref t), .val (.int (32 : Int32)), .val (.int (0 : Int32)), .val (.int (Int32.ofNat N))] [])
    refine X3.step (fun hA hx hq t_ k_ => XS.aloadN hA hx rfl (hb hq d14_29) rfl rfl k_) ?_
    show OFin _ _ _ _ _ _ T3 (mkF m 30 #[.val (.ref t), .val (.int (32 : Int32)), .val (.int (0 : Int32)), .val (.int (Int32.ofNat N))] [(.ref t)])
    refine X3.step (fun hA hx hq t_ k_ => XS.iloadN hA hx rfl (hb hq d14_30) rfl k_) ?_
    show OFin _ _ _ _ _ _ T3 (mkF m 31 #[.val (.ref t), .val (.int (32 : Int32)), .val (.int (0 : Int32)), .val (.int (Int32.ofNat N))] [(.int (32 : Int32)), (.ref t)])
    refine X3.step (fun hA hx hq t_ k_ => XS.iloadN hA hx rfl (hb hq d14_31) rfl k_) ?_
    show OFin _ _ _ _ _ _ T3 (mkF m 32 #[.val (.ref t), .val (.int (32 : Int32)), .val (.int (0 : Int32)), .val (.int (Int32.ofNat N))] [(.int (0 : Int32)), (.int (32 : Int32)), (.ref t)])
    refine X3.step (fun hA hx hq t_ k_ => XS.iloadN hA hx rfl (hb hq d14_32) rfl k_) ?_
    show OFin _ _ _ _ _ _ T3 (mkF m 33 #[.val (.ref t), .val (.int (32 : Int32)), .val (.int (0 : Int32)), .val (.int (Int32.ofNat N))] [(.int (Int32.ofNat N)), (.int (0 : Int32)), (.int (32 : Int32)), (.ref t)])
    refine X3.callS (y' := (⟨"java/lang/StringLatin1", "indexOfChar", "([BIII)I"⟩ : MethodName)) (hw _ (List.mem_of_getElem? (i := 100) rfl)) (hw _ (List.mem_of_getElem? (i := 101) rfl)) (hw _ (List.mem_of_getElem? (i := 77) rfl)) (hw _ (List.mem_of_getElem? (i := 102) rfl)) (by decide) (argsL := [(.ref t), (.int (32 : Int32)), (.int (0 : Int32)), (.int (Int32.ofNat N))]) (rest := []) (sx4 l Z a0 hw t N f h0 n0 F hN hch) (g := (mkF m 33 #[.val (.ref t), .val (.int (32 : Int32)), .val (.int (0 : Int32)), .val (.int (Int32.ofNat N))] [(.int (Int32.ofNat N)), (.int (0 : Int32)), (.int (32 : Int32)), (.ref t)])) rfl rfl pd_pA_BIIIr_I rfl rfl (W := 0) (by show 2 * 0 + _ ≤ _; exact Nat.le_of_eq rfl) d14_33 (by decide) (by decide) (by decide) (by decide) ?_
    intro v4 T4 h4 X4 q4
    obtain ⟨rfl, g, rfl, hg⟩ := q4
    show OFin _ _ _ _ _ _ T4 (mkF m 36 #[.val (.ref t), .val (.int (32 : Int32)), .val (.int (0 : Int32)), .val (.int (Int32.ofNat N))] [(.int g)])
    exact X4.retI d14_36 (oN (by decide) (by decide)) (⟨rfl, g, rfl, hg⟩)
  · refine X3.step (fun hA hx hq t_ k_ => XS.icmpNo hA hx rfl (hb hq d14_24) rfl (flt (c)).1 k_) ?_
    show OFin _ _ _ _ _ _ T3 (mkF m 27 #[.val (.ref t), .val (.int (32 : Int32)), .val (.int (0 : Int32)), .val (.int (Int32.ofNat N))] [])
    refine X3.step (fun hA hx hq t_ k_ => XS.iconst hA hx rfl (hb hq d14_27) k_) ?_
    show OFin _ _ _ _ _ _ T3 (mkF m 28 #[.val (.ref t), .val (.int (32 : Int32)), .val (.int (0 : Int32)), .val (.int (Int32.ofNat N))] [(.int (-1 : Int32))])
    exact X3.retI d14_28 (oN (by decide) (by decide)) (⟨rfl, -1, rfl, Or.inr ⟨rfl, fun j h => absurd ((own_lt32 0 N (by decide) (by omega)).mpr (by omega)) c⟩⟩)
theorem d10_0 : decode jdk_42_method_80_code 0 = .ok (.aload_n 0, 1) := by decide +kernel
theorem d10_1 : decode jdk_42_method_80_code 1 = .ok (.invokevirtual 492, 3) := by decide +kernel
theorem d10_4 : decode jdk_42_method_80_code 4 = .ok (.ifCond .eq 19, 3) := by decide +kernel
theorem d10_7 : decode jdk_42_method_80_code 7 = .ok (.aload_n 0, 1) := by decide +kernel
theorem d10_8 : decode jdk_42_method_80_code 8 = .ok (.getfield 9, 3) := by decide +kernel
theorem d10_11 : decode jdk_42_method_80_code 11 = .ok (.iload_n 1, 1) := by decide +kernel
theorem d10_12 : decode jdk_42_method_80_code 12 = .ok (.iload_n 2, 1) := by decide +kernel
theorem d10_13 : decode jdk_42_method_80_code 13 = .ok (.aload_n 0, 1) := by decide +kernel
theorem d10_14 : decode jdk_42_method_80_code 14 = .ok (.invokevirtual 505, 3) := by decide +kernel
theorem pd_pr_I : parseMethodDescriptor "()I" = some ⟨[], some .int⟩ := by decide +kernel
theorem d10_17 : decode jdk_42_method_80_code 17 = .ok (.invokestatic 637, 3) := by decide +kernel
theorem d10_20 : decode jdk_42_method_80_code 20 = .ok (.goto 16, 3) := by decide +kernel
theorem d10_36 : decode jdk_42_method_80_code 36 = .ok (.ireturn, 1) := by decide +kernel
set_option maxRecDepth 65536 in
set_option maxHeartbeats 40000000 in
theorem sx6 (l : Launch) (Z : State) (a0 : Array Value) (hw : ∀ d ∈ tables_1, d.before a0 Z = true) (a1 t : Addr) (N : Nat) (f : Nat → Int32) (cs : Int32) (h0 : Heap) (n0 : Nat) (S : OStr Z h0 a1 t N f) (hN : N ≤ 4000) (hch : ∀ j, j < N → 0 ≤ (f j).toInt ∧ (f j).toInt ≤ 255) (SS : Sta Z h0 "java/lang/String" "COMPACT_STRINGS" "Z" (.int cs)) (hcs : ¬ cs = 0) :
    OMeets l Z (⟨"java/lang/String", "indexOf", "(II)I"⟩ : MethodName) [] jdk_42_method_80_code 3 (some .int) ({ frames := 2, cells := 0, slots := 0, locals := 32 } : Room) #[(.ref a1), (.int (32 : Int32)), (.int (0 : Int32))] h0 n0 (fun v h => h0 = h ∧ ∃ g, v = some (.int g) ∧ own_ixr g N f) := by
  refine o_enter (Z := Z) (plainFor_of_name pn_java_lang_String) ?_
  intro p e s m below meth c T0 X0
  refine OFin.cast (g' := (mkF m 0 #[.val (.ref a1), .val (.int (32 : Int32)), .val (.int (0 : Int32))] [])) (by first | (simp [entryFrame, mkF, argsToLocals, Value.category]; done) | rfl) ?_
  refine X0.step (fun hA hx hq t_ k_ => XS.aloadN hA hx rfl (hb hq d10_0) rfl rfl k_) ?_
  show OFin _ _ _ _ _ _ T0 (mkF m 1 #[.val (.ref a1), .val (.int (32 : Int32)), .val (.int (0 : Int32))] [(.ref a1)])
  refine X0.callV (y' := (⟨"java/lang/String", "isLatin1", "()Z"⟩ : MethodName)) (z' := (⟨"java/lang/String", "isLatin1", "()Z"⟩ : MethodName)) (hw _ (List.mem_of_getElem? (i := 59) rfl)) (hw _ (List.mem_of_getElem? (i := 60) rfl)) (X0.notFace (hw _ (List.mem_of_getElem? (i := 62) rfl)) rfl) (hw _ (List.mem_of_getElem? (i := 62) rfl)) (hw _ (List.mem_of_getElem? (i := 61) rfl)) (hw _ (List.mem_of_getElem? (i := 7) rfl)) (hw _ (List.mem_of_getElem? (i := 63) rfl)) (by decide) S.1 (argsL := []) (rest := []) (sc1 l Z a0 hw a1 t N f cs h0 n0 S hN SS hcs) (g := (mkF m 1 #[.val (.ref a1), .val (.int (32 : Int32)), .val (.int (0 : Int32))] [(.ref a1)])) rfl rfl pd_pr_Z rfl rfl (W := 0) (by show 2 * 0 + _ ≤ _; exact Nat.le_of_eq rfl) d10_1 (by decide) (by decide) (by decide) (by decide) ?_
  intro v1 T1 h1 X1 q1
  obtain ⟨rfl, rfl⟩ := q1
  show OFin _ _ _ _ _ _ T1 (mkF m 4 #[.val (.ref a1), .val (.int (32 : Int32)), .val (.int (0 : Int32))] [(.int (1 : Int32))])
  refine X1.step (fun hA hx hq t_ k_ => XS.ifNo hA hx rfl (hb hq d10_4) rfl ((if0 _ _).trans (feq ((by decide))).1) k_) ?_
  show OFin _ _ _ _ _ _ T1 (mkF m 7 #[.val (.ref a1), .val (.int (32 : Int32)), .val (.int (0 : Int32))] [])
  refine X1.step (fun hA hx hq t_ k_ => XS.aloadN hA hx rfl (hb hq d10_7) rfl rfl k_) ?_
  show OFin _ _ _ _ _ _ T1 (mkF m 8 #[.val (.ref a1), .val (.int (32 : Int32)), .val (.int (0 : Int32))] [(.ref a1)])
  refine X1.getF (hw _ (List.mem_of_getElem? (i := 28) rfl)) S.2.2.1 (g := (mkF m 8 #[.val (.ref a1), .val (.int (32 : Int32)), .val (.int (0 : Int32))] [(.ref a1)])) rfl rfl d10_8 ?_
  intro T2 X2
  show OFin _ _ _ _ _ _ T2 (mkF m 11 #[.val (.ref a1), .val (.int (32 : Int32)), .val (.int (0 : Int32))] [(.ref t)])
  refine X2.step (fun hA hx hq t_ k_ => XS.iloadN hA hx rfl (hb hq d10_11) rfl k_) ?_
  show OFin _ _ _ _ _ _ T2 (mkF m 12 #[.val (.ref a1), .val (.int (32 : Int32)), .val (.int (0 : Int32))] [(.int (32 : Int32)), (.ref t)])
  refine X2.step (fun hA hx hq t_ k_ => XS.iloadN hA hx rfl (hb hq d10_12) rfl k_) ?_
  show OFin _ _ _ _ _ _ T2 (mkF m 13 #[.val (.ref a1), .val (.int (32 : Int32)), .val (.int (0 : Int32))] [(.int (0 : Int32)), (.int (32 : Int32)), (.ref t)])
  refine X2.step (fun hA hx hq t_ k_ => XS.aloadN hA hx rfl (hb hq d10_13) rfl rfl k_) ?_
  show OFin _ _ _ _ _ _ T2 (mkF m 14 #[.val (.ref a1), .val (.int (32 : Int32)), .val (.int (0 : Int32))] [(.ref a1), (.int (0 : Int32)), (.int (32 : Int32)), (.ref t)])
  refine X2.callV (y' := (⟨"java/lang/String", "length", "()I"⟩ : MethodName)) (z' := (⟨"java/lang/String", "length", "()I"⟩ : MethodName)) (hw _ (List.mem_of_getElem? (i := 65) rfl)) (hw _ (List.mem_of_getElem? (i := 66) rfl)) (X2.notFace (hw _ (List.mem_of_getElem? (i := 68) rfl)) rfl) (hw _ (List.mem_of_getElem? (i := 68) rfl)) (hw _ (List.mem_of_getElem? (i := 67) rfl)) (hw _ (List.mem_of_getElem? (i := 7) rfl)) (hw _ (List.mem_of_getElem? (i := 69) rfl)) (by decide) S.1 (argsL := []) (rest := [(.int (0 : Int32)), (.int (32 : Int32)), (.ref t)]) (sl2 l Z a0 hw a1 t N f cs h0 n0 S hN SS hcs) (g := (mkF m 14 #[.val (.ref a1), .val (.int (32 : Int32)), .val (.int (0 : Int32))] [(.ref a1), (.int (0 : Int32)), (.int (32 : Int32)), (.ref t)])) rfl rfl pd_pr_I rfl rfl (W := 3) (by show 2 * 0 + _ ≤ _; exact Nat.le_of_eq rfl) d10_14 (by decide) (by decide) (by decide) (by decide) ?_
  intro v3 T3 h3 X3 q3
  obtain ⟨rfl, rfl⟩ := q3
  show OFin _ _ _ _ _ _ T3 (mkF m 17 #[.val (.ref a1), .val (.int (32 : Int32)), .val (.int (0 : Int32))] [(.int (Int32.ofNat N)), (.int (0 : Int32)), (.int (32 : Int32)), (.ref t)])
  refine X3.callS (y' := (⟨"java/lang/StringLatin1", "indexOf", "([BIII)I"⟩ : MethodName)) (hw _ (List.mem_of_getElem? (i := 75) rfl)) (hw _ (List.mem_of_getElem? (i := 76) rfl)) (hw _ (List.mem_of_getElem? (i := 77) rfl)) (hw _ (List.mem_of_getElem? (i := 78) rfl)) (by decide) (argsL := [(.ref t), (.int (32 : Int32)), (.int (0 : Int32)), (.int (Int32.ofNat N))]) (rest := []) (sx5 l Z a0 hw t N f h0 n0 S.2.2.2 hN hch) (g := (mkF m 17 #[.val (.ref a1), .val (.int (32 : Int32)), .val (.int (0 : Int32))] [(.int (Int32.ofNat N)), (.int (0 : Int32)), (.int (32 : Int32)), (.ref t)])) rfl rfl pd_pA_BIIIr_I rfl rfl (W := 0) (by show 2 * 0 + _ ≤ _; exact Nat.le_of_eq rfl) d10_17 (by decide) (by decide) (by decide) (by decide) ?_
  intro v4 T4 h4 X4 q4
  obtain ⟨rfl, g, rfl, hg⟩ := q4
  show OFin _ _ _ _ _ _ T4 (mkF m 20 #[.val (.ref a1), .val (.int (32 : Int32)), .val (.int (0 : Int32))] [(.int g)])
  refine X4.step (fun hA hx hq t_ k_ => XS.goto hA hx rfl (pc0 := 20) (pc' := 36) rfl (hb hq d10_20) (by decide) (by decide) k_) ?_
  show OFin _ _ _ _ _ _ T4 (mkF m 36 #[.val (.ref a1), .val (.int (32 : Int32)), .val (.int (0 : Int32))] [(.int g)])
  exact X4.retI d10_36 (oN (by decide) (by decide)) (⟨rfl, g, rfl, hg⟩)
theorem d9_0 : decode jdk_42_method_79_code 0 = .ok (.aload_n 0, 1) := by decide +kernel
theorem d9_1 : decode jdk_42_method_79_code 1 = .ok (.iload_n 1, 1) := by decide +kernel
theorem d9_2 : decode jdk_42_method_79_code 2 = .ok (.iconst 0, 1) := by decide +kernel
theorem d9_3 : decode jdk_42_method_79_code 3 = .ok (.invokevirtual 633, 3) := by decide +kernel
theorem d9_6 : decode jdk_42_method_79_code 6 = .ok (.ireturn, 1) := by decide +kernel
set_option maxRecDepth 65536 in
set_option maxHeartbeats 40000000 in
theorem sx7 (l : Launch) (Z : State) (a0 : Array Value) (hw : ∀ d ∈ tables_1, d.before a0 Z = true) (a1 t : Addr) (N : Nat) (f : Nat → Int32) (cs : Int32) (h0 : Heap) (n0 : Nat) (S : OStr Z h0 a1 t N f) (hN : N ≤ 4000) (hch : ∀ j, j < N → 0 ≤ (f j).toInt ∧ (f j).toInt ≤ 255) (SS : Sta Z h0 "java/lang/String" "COMPACT_STRINGS" "Z" (.int cs)) (hcs : ¬ cs = 0) :
    OMeets l Z (⟨"java/lang/String", "indexOf", "(I)I"⟩ : MethodName) [] jdk_42_method_79_code 2 (some .int) ({ frames := 3, cells := 0, slots := 0, locals := 46 } : Room) #[(.ref a1), (.int (32 : Int32))] h0 n0 (fun v h => h0 = h ∧ ∃ g, v = some (.int g) ∧ own_ixr g N f) := by
  refine o_enter (Z := Z) (plainFor_of_name pn_java_lang_String) ?_
  intro p e s m below meth c T0 X0
  refine OFin.cast (g' := (mkF m 0 #[.val (.ref a1), .val (.int (32 : Int32))] [])) (by first | (simp [entryFrame, mkF, argsToLocals, Value.category]; done) | rfl) ?_
  refine X0.step (fun hA hx hq t_ k_ => XS.aloadN hA hx rfl (hb hq d9_0) rfl rfl k_) ?_
  show OFin _ _ _ _ _ _ T0 (mkF m 1 #[.val (.ref a1), .val (.int (32 : Int32))] [(.ref a1)])
  refine X0.step (fun hA hx hq t_ k_ => XS.iloadN hA hx rfl (hb hq d9_1) rfl k_) ?_
  show OFin _ _ _ _ _ _ T0 (mkF m 2 #[.val (.ref a1), .val (.int (32 : Int32))] [(.int (32 : Int32)), (.ref a1)])
  refine X0.step (fun hA hx hq t_ k_ => XS.iconst hA hx rfl (hb hq d9_2) k_) ?_
  show OFin _ _ _ _ _ _ T0 (mkF m 3 #[.val (.ref a1), .val (.int (32 : Int32))] [(.int (0 : Int32)), (.int (32 : Int32)), (.ref a1)])
  refine X0.callV (y' := (⟨"java/lang/String", "indexOf", "(II)I"⟩ : MethodName)) (z' := (⟨"java/lang/String", "indexOf", "(II)I"⟩ : MethodName)) (hw _ (List.mem_of_getElem? (i := 54) rfl)) (hw _ (List.mem_of_getElem? (i := 55) rfl)) (X0.notFace (hw _ (List.mem_of_getElem? (i := 57) rfl)) rfl) (hw _ (List.mem_of_getElem? (i := 57) rfl)) (hw _ (List.mem_of_getElem? (i := 56) rfl)) (hw _ (List.mem_of_getElem? (i := 7) rfl)) (hw _ (List.mem_of_getElem? (i := 58) rfl)) (by decide) S.1 (argsL := [(.int (32 : Int32)), (.int (0 : Int32))]) (rest := []) (sx6 l Z a0 hw a1 t N f cs h0 n0 S hN hch SS hcs) (g := (mkF m 3 #[.val (.ref a1), .val (.int (32 : Int32))] [(.int (0 : Int32)), (.int (32 : Int32)), (.ref a1)])) rfl rfl pd_pIIr_I rfl rfl (W := 0) (by show 2 * 0 + _ ≤ _; exact Nat.le_of_eq rfl) d9_3 (by decide) (by decide) (by decide) (by decide) ?_
  intro v1 T1 h1 X1 q1
  obtain ⟨rfl, g, rfl, hg⟩ := q1
  show OFin _ _ _ _ _ _ T1 (mkF m 6 #[.val (.ref a1), .val (.int (32 : Int32))] [(.int g)])
  exact X1.retI d9_6 (oN (by decide) (by decide)) (⟨rfl, g, rfl, hg⟩)
section Own2
variable {p : Program} {l : Launch} {e : Env} {R : Room} {s : State} {m : MethodId} {args : Array Value} {below : List Frame} {meth : Method} {c : Code} {T T' : State} {cells slots n0 : Nat} {Z : State} {a0 : Array Value} {h h' : Heap} {Q : Option Value → Heap → Prop} {FE : Outcome → State → List Loc → Prop} {g : JFrame} {y : MethodName} {bytes : ByteArray} {maxL : Nat} {ret : Option FieldType}
theorem own_fitB (x : Int32) : fits .byte (.int x.toInt8.toInt32) = true := by
  have q := c_i2b x
  have e1 : (-128 : Int32).toInt = -128 := by decide
  have e2 : (127 : Int32).toInt = 127 := by decide
  simp only [fits, Bool.and_eq_true, decide_eq_true_eq, Int32.le_iff_toInt_le, e1, e2]
  omega
theorem OArr.arv {a : Addr} {ty : FieldType} {N : Nat} {f : Nat → Value} (A : OArr Z h a ty N f) (hN : N ≤ 4000) (hf : ∀ j, j < N → fits ty (f j) = true) : ∃ k, Arv Z h a k ty (Int32.ofNat N) ((List.range N).map f) .null := by
  obtain ⟨c, A, S, H⟩ := A
  have e0 : (0 : Int32).toInt = 0 := by decide
  refine ⟨c.cls, c, A, rfl, by rw [S, own_iN N (by omega)], by rw [Int32.lt_iff_toInt_lt, own_i N (by omega), e0]; omega, fun k hk => ?_, fun k hk => ?_⟩
  · rw [S] at hk
    rw [H k hk]
    simp [List.getD, hk]
  · rw [S] at hk
    have := hf k hk
    simpa [List.getD, hk] using this
theorem OAt.cpB (X : OAt n0 Z y bytes maxL ret p l e R s m args below meth c T h cells slots) {index : Nat} (w1 : (Jvm.Cond.methodLink y.cls index Jvm.Stand.acN).before a0 Z = true) (w2 : (Jvm.Cond.native Jvm.Stand.acN).before a0 Z = true) (w3 : (Jvm.Cond.static Jvm.Stand.acN).before a0 Z = true) (w4 : (Jvm.Cond.initialized "java/lang/System").before a0 Z = true)
    {a b : Addr} {N K : Nat} {f f' : Nat → Value} (A : OArr Z h a .byte N f) (B : OArr Z h b .byte K f') (hN : N ≤ 4000) (hK : K ≤ N) (hf : ∀ j, j < N → fits .byte (f j) = true) (hf' : ∀ j, j < K → fits .byte (f' j) = true) (hnew : n0 ≤ b)
    (hg : g.method = m) (hsize : g.locals.size = maxL) {rest : List Value} (hs : g.stack = .int (Int32.ofNat K) :: .int 0 :: .ref b :: .int 0 :: .ref a :: rest) (hd : decode bytes g.pc = .ok (.invokestatic index, 3)) (hfr : 1 ≤ R.frames) {W : Nat} (hW : 2 * g.monitorRoom + (rest.map fun v => v.category).sum ≤ W) (hlo : W + 18 ≤ R.locals)
    (k : ∀ T' h', OAt n0 Z y bytes maxL ret p l e R s m args below meth c T' h' cells slots → Keep h h' [b] → OArr Z h' b .byte K f → OFin n0 p e FE below Q T' { g with pc := g.pc + 3, stack := rest }) : OFin n0 p e FE below Q T g := by
  obtain ⟨C, locs, X, NN, eh⟩ := X
  obtain ⟨hx, hZ, hown, -, hby, hml, -⟩ := id C
  obtain ⟨ka, A'⟩ := A.arv hN hf
  obtain ⟨kb, B'⟩ := B.arv (by omega) hf'
  have e0 : (0 : Int32).toInt = 0 := by decide
  have z0 : (0 : Int32).toNatClampNeg = 0 := by decide
  have eK := own_iN K (by omega)
  have eN := own_iN N (by omega)
  obtain ⟨T', h', L, X', e', N2, K', V, st⟩ := Jvm.RoadKit.cpA X hx hZ hown w1 w2 w3 w4 eh A' B' (Or.inl ⟨rfl, rfl⟩) (sp := 0) (dp := 0) (nn := Int32.ofNat K) (by decide) (by decide) (by rw [Int32.lt_iff_toInt_lt, own_i K (by omega), e0]; omega) (by rw [z0, eK, eN]; omega) (by rw [z0, eK]; omega) rfl (by rw [z0, eK]; simp) NN hnew hg (hsize.trans hml.symm) hs (hb hby hd) hfr hW (by exact hlo)
  refine OFin.run st (k T' h' ⟨C, L, X', N2, e'⟩ K' ?_)
  obtain ⟨c2, V1, -, V2, -, V3, -⟩ := V
  rw [eK] at V2
  refine ⟨c2, V1, V2, fun j hj => ?_⟩
  rw [V3 j (by rw [V2]; exact hj), z0, eK]
  have hjN : j < N := by omega
  simp [List.getD, hj, hjN]
end Own2
theorem d28_0 : decode jdk_41_method_12_code 0 = .ok (.iload_n 0, 1) := by decide +kernel
theorem d28_1 : decode jdk_41_method_12_code 1 = .ok (.ifCond .lt 13, 3) := by decide +kernel
theorem d28_4 : decode jdk_41_method_12_code 4 = .ok (.iload_n 0, 1) := by decide +kernel
theorem d28_5 : decode jdk_41_method_12_code 5 = .ok (.iload_n 1, 1) := by decide +kernel
theorem d28_6 : decode jdk_41_method_12_code 6 = .ok (.if_icmp .gt 8, 3) := by decide +kernel
theorem d28_9 : decode jdk_41_method_12_code 9 = .ok (.iload_n 1, 1) := by decide +kernel
theorem d28_10 : decode jdk_41_method_12_code 10 = .ok (.iload_n 2, 1) := by decide +kernel
theorem d28_11 : decode jdk_41_method_12_code 11 = .ok (.if_icmp .le 11, 3) := by decide +kernel
theorem d28_22 : decode jdk_41_method_12_code 22 = .ok (.iload_n 0, 1) := by decide +kernel
theorem d28_23 : decode jdk_41_method_12_code 23 = .ok (.ireturn, 1) := by decide +kernel
set_option maxRecDepth 65536 in
set_option maxHeartbeats 40000000 in
theorem sb1n (l : Launch) (Z : State) (a0 : Array Value) (hw : ∀ d ∈ tables_1, d.before a0 Z = true) (d N : Nat) (h0 : Heap) (n0 : Nat) (hd : d < N) (hdc : d ≤ 4) (hN : N ≤ 4000) :
    OMeets l Z (⟨"jdk/internal/util/Preconditions", "checkFromToIndex", "(IIILjava/util/function/BiFunction;)I"⟩ : MethodName) [] jdk_41_method_12_code 4 (some .int) ({ frames := 0, cells := 0, slots := 0, locals := 0 } : Room) #[(.int (0 : Int32)), (.int (Int32.ofNat d)), (.int (Int32.ofNat N)), .null] h0 n0 (fun v h => v = some (.int 0) ∧ h0 = h) := by
  refine o_enter (Z := Z) (plainFor_of_name pn_jdk_internal_util_Preconditions) ?_
  intro p e s m below meth c T0 X0
  refine OFin.cast (g' := (mkF m 0 #[.val (.int (0 : Int32)), .val (.int (Int32.ofNat d)), .val (.int (Int32.ofNat N)), .val .null] [])) (by first | (simp [entryFrame, mkF, argsToLocals, Value.category]; done) | rfl) ?_
  refine X0.step (fun hA hx hq t_ k_ => XS.iloadN hA hx rfl (hb hq d28_0) rfl k_) ?_
  show OFin _ _ _ _ _ _ T0 (mkF m 1 #[.val (.int (0 : Int32)), .val (.int (Int32.ofNat d)), .val (.int (Int32.ofNat N)), .val .null] [(.int (0 : Int32))])
  refine X0.step (fun hA hx hq t_ k_ => XS.ifNo hA hx rfl (hb hq d28_1) rfl ((if0 _ _).trans (flt ((by decide))).1) k_) ?_
  show OFin _ _ _ _ _ _ T0 (mkF m 4 #[.val (.int (0 : Int32)), .val (.int (Int32.ofNat d)), .val (.int (Int32.ofNat N)), .val .null] [])
  refine X0.step (fun hA hx hq t_ k_ => XS.iloadN hA hx rfl (hb hq d28_4) rfl k_) ?_
  show OFin _ _ _ _ _ _ T0 (mkF m 5 #[.val (.int (0 : Int32)), .val (.int (Int32.ofNat d)), .val (.int (Int32.ofNat N)), .val .null] [(.int (0 : Int32))])
  refine X0.step (fun hA hx hq t_ k_ => XS.iloadN hA hx rfl (hb hq d28_5) rfl k_) ?_
  show OFin _ _ _ _ _ _ T0 (mkF m 6 #[.val (.int (0 : Int32)), .val (.int (Int32.ofNat d)), .val (.int (Int32.ofNat N)), .val .null] [(.int (Int32.ofNat d)), (.int (0 : Int32))])
  refine X0.step (fun hA hx hq t_ k_ => XS.icmpNo hA hx rfl (hb hq d28_6) rfl (flt ((by rw [Int32.lt_iff_toInt_lt, own_i d (by omega)]; have : (0 : Int32).toInt = 0 := (by decide); omega))).2.2.1 k_) ?_
  show OFin _ _ _ _ _ _ T0 (mkF m 9 #[.val (.int (0 : Int32)), .val (.int (Int32.ofNat d)), .val (.int (Int32.ofNat N)), .val .null] [])
  refine X0.step (fun hA hx hq t_ k_ => XS.iloadN hA hx rfl (hb hq d28_9) rfl k_) ?_
  show OFin _ _ _ _ _ _ T0 (mkF m 10 #[.val (.int (0 : Int32)), .val (.int (Int32.ofNat d)), .val (.int (Int32.ofNat N)), .val .null] [(.int (Int32.ofNat d))])
  refine X0.step (fun hA hx hq t_ k_ => XS.iloadN hA hx rfl (hb hq d28_10) rfl k_) ?_
  show OFin _ _ _ _ _ _ T0 (mkF m 11 #[.val (.int (0 : Int32)), .val (.int (Int32.ofNat d)), .val (.int (Int32.ofNat N)), .val .null] [(.int (Int32.ofNat N)), (.int (Int32.ofNat d))])
  refine X0.step (fun hA hx hq t_ k_ => XS.icmpYes hA hx rfl (pc0 := 11) (pc' := 22) rfl (hb hq d28_11) rfl (flt (fun q => by have := (own_lt32 N d (by omega) (by omega)).mp q; omega)).2.2.2 (by decide) (by decide) k_) ?_
  show OFin _ _ _ _ _ _ T0 (mkF m 22 #[.val (.int (0 : Int32)), .val (.int (Int32.ofNat d)), .val (.int (Int32.ofNat N)), .val .null] [])
  refine X0.step (fun hA hx hq t_ k_ => XS.iloadN hA hx rfl (hb hq d28_22) rfl k_) ?_
  show OFin _ _ _ _ _ _ T0 (mkF m 23 #[.val (.int (0 : Int32)), .val (.int (Int32.ofNat d)), .val (.int (Int32.ofNat N)), .val .null] [(.int (0 : Int32))])
  exact X0.retI d28_23 (oN (by decide) (by decide)) (⟨rfl, rfl⟩)
set_option maxRecDepth 65536 in
set_option maxHeartbeats 40000000 in
theorem sb1r (l : Launch) (Z : State) (a0 : Array Value) (hw : ∀ d ∈ tables_1, d.before a0 Z = true) (d N : Nat) (vr : Addr) (h0 : Heap) (n0 : Nat) (hd : d < N) (hdc : d ≤ 4) (hN : N ≤ 4000) :
    OMeets l Z (⟨"jdk/internal/util/Preconditions", "checkFromToIndex", "(IIILjava/util/function/BiFunction;)I"⟩ : MethodName) [] jdk_41_method_12_code 4 (some .int) ({ frames := 0, cells := 0, slots := 0, locals := 0 } : Room) #[(.int (0 : Int32)), (.int (Int32.ofNat d)), (.int (Int32.ofNat N)), (.ref vr)] h0 n0 (fun v h => v = some (.int 0) ∧ h0 = h) := by
  refine o_enter (Z := Z) (plainFor_of_name pn_jdk_internal_util_Preconditions) ?_
  intro p e s m below meth c T0 X0
  refine OFin.cast (g' := (mkF m 0 #[.val (.int (0 : Int32)), .val (.int (Int32.ofNat d)), .val (.int (Int32.ofNat N)), .val (.ref vr)] [])) (by first | (simp [entryFrame, mkF, argsToLocals, Value.category]; done) | rfl) ?_
  refine X0.step (fun hA hx hq t_ k_ => XS.iloadN hA hx rfl (hb hq d28_0) rfl k_) ?_
  show OFin _ _ _ _ _ _ T0 (mkF m 1 #[.val (.int (0 : Int32)), .val (.int (Int32.ofNat d)), .val (.int (Int32.ofNat N)), .val (.ref vr)] [(.int (0 : Int32))])
  refine X0.step (fun hA hx hq t_ k_ => XS.ifNo hA hx rfl (hb hq d28_1) rfl ((if0 _ _).trans (flt ((by decide))).1) k_) ?_
  show OFin _ _ _ _ _ _ T0 (mkF m 4 #[.val (.int (0 : Int32)), .val (.int (Int32.ofNat d)), .val (.int (Int32.ofNat N)), .val (.ref vr)] [])
  refine X0.step (fun hA hx hq t_ k_ => XS.iloadN hA hx rfl (hb hq d28_4) rfl k_) ?_
  show OFin _ _ _ _ _ _ T0 (mkF m 5 #[.val (.int (0 : Int32)), .val (.int (Int32.ofNat d)), .val (.int (Int32.ofNat N)), .val (.ref vr)] [(.int (0 : Int32))])
  refine X0.step (fun hA hx hq t_ k_ => XS.iloadN hA hx rfl (hb hq d28_5) rfl k_) ?_
  show OFin _ _ _ _ _ _ T0 (mkF m 6 #[.val (.int (0 : Int32)), .val (.int (Int32.ofNat d)), .val (.int (Int32.ofNat N)), .val (.ref vr)] [(.int (Int32.ofNat d)), (.int (0 : Int32))])
  refine X0.step (fun hA hx hq t_ k_ => XS.icmpNo hA hx rfl (hb hq d28_6) rfl (flt ((by rw [Int32.lt_iff_toInt_lt, own_i d (by omega)]; have : (0 : Int32).toInt = 0 := (by decide); omega))).2.2.1 k_) ?_
  show OFin _ _ _ _ _ _ T0 (mkF m 9 #[.val (.int (0 : Int32)), .val (.int (Int32.ofNat d)), .val (.int (Int32.ofNat N)), .val (.ref vr)] [])
  refine X0.step (fun hA hx hq t_ k_ => XS.iloadN hA hx rfl (hb hq d28_9) rfl k_) ?_
  show OFin _ _ _ _ _ _ T0 (mkF m 10 #[.val (.int (0 : Int32)), .val (.int (Int32.ofNat d)), .val (.int (Int32.ofNat N)), .val (.ref vr)] [(.int (Int32.ofNat d))])
  refine X0.step (fun hA hx hq t_ k_ => XS.iloadN hA hx rfl (hb hq d28_10) rfl k_) ?_
  show OFin _ _ _ _ _ _ T0 (mkF m 11 #[.val (.int (0 : Int32)), .val (.int (Int32.ofNat d)), .val (.int (Int32.ofNat N)), .val (.ref vr)] [(.int (Int32.ofNat N)), (.int (Int32.ofNat d))])
  refine X0.step (fun hA hx hq t_ k_ => XS.icmpYes hA hx rfl (pc0 := 11) (pc' := 22) rfl (hb hq d28_11) rfl (flt (fun q => by have := (own_lt32 N d (by omega) (by omega)).mp q; omega)).2.2.2 (by decide) (by decide) k_) ?_
  show OFin _ _ _ _ _ _ T0 (mkF m 22 #[.val (.int (0 : Int32)), .val (.int (Int32.ofNat d)), .val (.int (Int32.ofNat N)), .val (.ref vr)] [])
  refine X0.step (fun hA hx hq t_ k_ => XS.iloadN hA hx rfl (hb hq d28_22) rfl k_) ?_
  show OFin _ _ _ _ _ _ T0 (mkF m 23 #[.val (.int (0 : Int32)), .val (.int (Int32.ofNat d)), .val (.int (Int32.ofNat N)), .val (.ref vr)] [(.int (0 : Int32))])
  exact X0.retI d28_23 (oN (by decide) (by decide)) (⟨rfl, rfl⟩)
theorem sb1 (l : Launch) (Z : State) (a0 : Array Value) (hw : ∀ d ∈ tables_1, d.before a0 Z = true) (d N : Nat) (vf : Value) (h0 : Heap) (n0 : Nat) (hd : d < N) (hdc : d ≤ 4) (hN : N ≤ 4000) (rf : vf.isRef = true) :
    OMeets l Z (⟨"jdk/internal/util/Preconditions", "checkFromToIndex", "(IIILjava/util/function/BiFunction;)I"⟩ : MethodName) [] jdk_41_method_12_code 4 (some .int) ({ frames := 0, cells := 0, slots := 0, locals := 0 } : Room) #[(.int (0 : Int32)), (.int (Int32.ofNat d)), (.int (Int32.ofNat N)), vf] h0 n0 (fun v h => v = some (.int 0) ∧ h0 = h) := by
  rcases ref_cases rf with rfl | ⟨vr, rfl⟩
  · exact sb1n l Z a0 hw d N h0 n0 hd hdc hN
  · exact sb1r l Z a0 hw d N vr h0 n0 hd hdc hN
theorem d27_0 : decode jdk_42_method_158_code 0 = .ok (.iload_n 0, 1) := by decide +kernel
theorem d27_1 : decode jdk_42_method_158_code 1 = .ok (.iload_n 1, 1) := by decide +kernel
theorem d27_2 : decode jdk_42_method_158_code 2 = .ok (.iload_n 2, 1) := by decide +kernel
theorem d27_3 : decode jdk_42_method_158_code 3 = .ok (.getstatic 1053, 3) := by decide +kernel
theorem pd_pIIILjava_util_function_BiFunction_r_I : parseMethodDescriptor "(IIILjava/util/function/BiFunction;)I" = some ⟨[.int, .int, .int, (.object "java/util/function/BiFunction")], some .int⟩ := by decide +kernel
theorem d27_6 : decode jdk_42_method_158_code 6 = .ok (.invokestatic 1062, 3) := by decide +kernel
theorem d27_9 : decode jdk_42_method_158_code 9 = .ok (.pop, 1) := by decide +kernel
theorem d27_10 : decode jdk_42_method_158_code 10 = .ok (.return_, 1) := by decide +kernel
set_option maxRecDepth 65536 in
set_option maxHeartbeats 40000000 in
theorem sb2 (l : Launch) (Z : State) (a0 : Array Value) (hw : ∀ d ∈ tables_1, d.before a0 Z = true) (d N : Nat) (vf : Value) (h0 : Heap) (n0 : Nat) (SP : Sta Z h0 "jdk/internal/util/Preconditions" "SIOOBE_FORMATTER" "Ljava/util/function/BiFunction;" vf) (rf : vf.isRef = true) (hd : d < N) (hdc : d ≤ 4) (hN : N ≤ 4000) :
    OMeets l Z (⟨"java/lang/String", "checkBoundsBeginEnd", "(III)V"⟩ : MethodName) [] jdk_42_method_158_code 3 none ({ frames := 1, cells := 0, slots := 0, locals := 15 } : Room) #[(.int (0 : Int32)), (.int (Int32.ofNat d)), (.int (Int32.ofNat N))] h0 n0 (fun v h => v = none ∧ h0 = h) := by
  refine o_enter (Z := Z) (plainFor_of_name pn_java_lang_String) ?_
  intro p e s m below meth c T0 X0
  refine OFin.cast (g' := (mkF m 0 #[.val (.int (0 : Int32)), .val (.int (Int32.ofNat d)), .val (.int (Int32.ofNat N))] [])) (by first | (simp [entryFrame, mkF, argsToLocals, Value.category]; done) | rfl) ?_
  refine X0.step (fun hA hx hq t_ k_ => XS.iloadN hA hx rfl (hb hq d27_0) rfl k_) ?_
  show OFin _ _ _ _ _ _ T0 (mkF m 1 #[.val (.int (0 : Int32)), .val (.int (Int32.ofNat d)), .val (.int (Int32.ofNat N))] [(.int (0 : Int32))])
  refine X0.step (fun hA hx hq t_ k_ => XS.iloadN hA hx rfl (hb hq d27_1) rfl k_) ?_
  show OFin _ _ _ _ _ _ T0 (mkF m 2 #[.val (.int (0 : Int32)), .val (.int (Int32.ofNat d)), .val (.int (Int32.ofNat N))] [(.int (Int32.ofNat d)), (.int (0 : Int32))])
  refine X0.step (fun hA hx hq t_ k_ => XS.iloadN hA hx rfl (hb hq d27_2) rfl k_) ?_
  show OFin _ _ _ _ _ _ T0 (mkF m 3 #[.val (.int (0 : Int32)), .val (.int (Int32.ofNat d)), .val (.int (Int32.ofNat N))] [(.int (Int32.ofNat N)), (.int (Int32.ofNat d)), (.int (0 : Int32))])
  refine X0.getS (hw _ (List.mem_of_getElem? (i := 114) rfl)) SP (g := (mkF m 3 #[.val (.int (0 : Int32)), .val (.int (Int32.ofNat d)), .val (.int (Int32.ofNat N))] [(.int (Int32.ofNat N)), (.int (Int32.ofNat d)), (.int (0 : Int32))])) rfl d27_3 ?_
  intro T1 X1
  show OFin _ _ _ _ _ _ T1 (mkF m 6 #[.val (.int (0 : Int32)), .val (.int (Int32.ofNat d)), .val (.int (Int32.ofNat N))] [vf, (.int (Int32.ofNat N)), (.int (Int32.ofNat d)), (.int (0 : Int32))])
  refine X1.callS (y' := (⟨"jdk/internal/util/Preconditions", "checkFromToIndex", "(IIILjava/util/function/BiFunction;)I"⟩ : MethodName)) (hw _ (List.mem_of_getElem? (i := 127) rfl)) (hw _ (List.mem_of_getElem? (i := 128) rfl)) (hw _ (List.mem_of_getElem? (i := 115) rfl)) (hw _ (List.mem_of_getElem? (i := 129) rfl)) (by decide) (argsL := [(.int (0 : Int32)), (.int (Int32.ofNat d)), (.int (Int32.ofNat N)), vf]) (rest := []) (sb1 l Z a0 hw d N vf h0 n0 hd hdc hN rf) (g := (mkF m 6 #[.val (.int (0 : Int32)), .val (.int (Int32.ofNat d)), .val (.int (Int32.ofNat N))] [vf, (.int (Int32.ofNat N)), (.int (Int32.ofNat d)), (.int (0 : Int32))])) rfl rfl pd_pIIILjava_util_function_BiFunction_r_I rfl rfl (W := 0) (by show 2 * 0 + _ ≤ _; exact Nat.le_of_eq rfl) d27_6 (by decide) (by decide) (by decide) (by decide) ?_
  intro v2 T2 h2 X2 q2
  obtain ⟨rfl, rfl⟩ := q2
  show OFin _ _ _ _ _ _ T2 (mkF m 9 #[.val (.int (0 : Int32)), .val (.int (Int32.ofNat d)), .val (.int (Int32.ofNat N))] [(.int (0 : Int32))])
  refine X2.step (fun hA hx hq t_ k_ => XS.pop hA hx rfl (hb hq d27_9) rfl rfl k_) ?_
  show OFin _ _ _ _ _ _ T2 (mkF m 10 #[.val (.int (0 : Int32)), .val (.int (Int32.ofNat d)), .val (.int (Int32.ofNat N))] [])
  exact X2.retV d27_10 (oN (by decide) (by decide)) (⟨rfl, rfl⟩)
theorem pn_java_util_Arrays : plainName "java/util/Arrays" = true := by first | (simp [plainName, overriddenIn]; done) | decide +kernel
theorem d32_0 : decode jdk_65_method_131_code 0 = .ok (.iload_n 1, 1) := by decide +kernel
theorem d32_1 : decode jdk_65_method_131_code 1 = .ok (.iload_n 0, 1) := by decide +kernel
theorem d32_2 : decode jdk_65_method_131_code 2 = .ok (.if_icmp .ge 35, 3) := by decide +kernel
theorem d32_37 : decode jdk_65_method_131_code 37 = .ok (.return_, 1) := by decide +kernel
set_option maxRecDepth 65536 in
set_option maxHeartbeats 40000000 in
theorem sb3 (l : Launch) (Z : State) (a0 : Array Value) (hw : ∀ d ∈ tables_1, d.before a0 Z = true) (d : Nat) (h0 : Heap) (n0 : Nat) (hd : d ≤ 4000) :
    OMeets l Z (⟨"java/util/Arrays", "checkLength", "(II)V"⟩ : MethodName) [] jdk_65_method_131_code 2 none ({ frames := 0, cells := 0, slots := 0, locals := 0 } : Room) #[(.int (0 : Int32)), (.int (Int32.ofNat d))] h0 n0 (fun v h => v = none ∧ h0 = h) := by
  refine o_enter (Z := Z) (plainFor_of_name pn_java_util_Arrays) ?_
  intro p e s m below meth c T0 X0
  refine OFin.cast (g' := (mkF m 0 #[.val (.int (0 : Int32)), .val (.int (Int32.ofNat d))] [])) (by first | (simp [entryFrame, mkF, argsToLocals, Value.category]; done) | rfl) ?_
  refine X0.step (fun hA hx hq t_ k_ => XS.iloadN hA hx rfl (hb hq d32_0) rfl k_) ?_
  show OFin _ _ _ _ _ _ T0 (mkF m 1 #[.val (.int (0 : Int32)), .val (.int (Int32.ofNat d))] [(.int (Int32.ofNat d))])
  refine X0.step (fun hA hx hq t_ k_ => XS.iloadN hA hx rfl (hb hq d32_1) rfl k_) ?_
  show OFin _ _ _ _ _ _ T0 (mkF m 2 #[.val (.int (0 : Int32)), .val (.int (Int32.ofNat d))] [(.int (0 : Int32)), (.int (Int32.ofNat d))])
  refine X0.step (fun hA hx hq t_ k_ => XS.icmpYes hA hx rfl (pc0 := 2) (pc' := 37) rfl (hb hq d32_2) rfl (flt ((by rw [Int32.lt_iff_toInt_lt, own_i d (by omega)]; have : (0 : Int32).toInt = 0 := (by decide); omega))).2.1 (by decide) (by decide) k_) ?_
  show OFin _ _ _ _ _ _ T0 (mkF m 37 #[.val (.int (0 : Int32)), .val (.int (Int32.ofNat d))] [])
  exact X0.retV d32_37 (oN (by decide) (by decide)) (⟨rfl, rfl⟩)
theorem own_subz (x : Int32) : x - (0 : Int32) = x := Int32.sub_zero x
theorem own_addz (x : Int32) : (0 : Int32) + x = x := Int32.zero_add x
theorem d31_0 : decode jdk_65_method_133_code 0 = .ok (.iload_n 1, 1) := by decide +kernel
theorem d31_1 : decode jdk_65_method_133_code 1 = .ok (.iload_n 2, 1) := by decide +kernel
theorem d31_2 : decode jdk_65_method_133_code 2 = .ok (.invokestatic 343, 3) := by decide +kernel
theorem d31_5 : decode jdk_65_method_133_code 5 = .ok (.iload_n 2, 1) := by decide +kernel
theorem d31_6 : decode jdk_65_method_133_code 6 = .ok (.iload_n 1, 1) := by decide +kernel
theorem d31_7 : decode jdk_65_method_133_code 7 = .ok (.isub, 1) := by decide +kernel
theorem d31_8 : decode jdk_65_method_133_code 8 = .ok (.istore_n 3, 1) := by decide +kernel
theorem d31_9 : decode jdk_65_method_133_code 9 = .ok (.iload_n 3, 1) := by decide +kernel
theorem d31_10 : decode jdk_65_method_133_code 10 = .ok (.newarray .byte, 2) := by decide +kernel
theorem d31_12 : decode jdk_65_method_133_code 12 = .ok (.astore 4, 2) := by decide +kernel
theorem d31_14 : decode jdk_65_method_133_code 14 = .ok (.aload_n 0, 1) := by decide +kernel
theorem d31_15 : decode jdk_65_method_133_code 15 = .ok (.iload_n 1, 1) := by decide +kernel
theorem d31_16 : decode jdk_65_method_133_code 16 = .ok (.aload 4, 2) := by decide +kernel
theorem d31_18 : decode jdk_65_method_133_code 18 = .ok (.iconst 0, 1) := by decide +kernel
theorem d31_19 : decode jdk_65_method_133_code 19 = .ok (.aload_n 0, 1) := by decide +kernel
theorem d31_20 : decode jdk_65_method_133_code 20 = .ok (.arraylength, 1) := by decide +kernel
theorem d31_21 : decode jdk_65_method_133_code 21 = .ok (.iload_n 1, 1) := by decide +kernel
theorem d31_22 : decode jdk_65_method_133_code 22 = .ok (.isub, 1) := by decide +kernel
theorem d31_23 : decode jdk_65_method_133_code 23 = .ok (.iload_n 3, 1) := by decide +kernel
theorem d31_24 : decode jdk_65_method_133_code 24 = .ok (.invokestatic 304, 3) := by decide +kernel
theorem d31_27 : decode jdk_65_method_133_code 27 = .ok (.invokestatic 150, 3) := by decide +kernel
theorem d31_30 : decode jdk_65_method_133_code 30 = .ok (.aload 4, 2) := by decide +kernel
theorem d31_32 : decode jdk_65_method_133_code 32 = .ok (.areturn, 1) := by decide +kernel
set_option maxRecDepth 65536 in
set_option maxHeartbeats 40000000 in
theorem sb4 (l : Launch) (Z : State) (a0 : Array Value) (hw : ∀ d ∈ tables_1, d.before a0 Z = true) (t : Addr) (d N : Nat) (f : Nat → Int32) (h0 : Heap) (n0 : Nat) (F : OArr Z h0 t .byte N (fun j => .int (f j).toInt8.toInt32)) (Z0 : n0 ≤ h0.size) (hd : d < N) (hdc : d ≤ 4) (hN : N ≤ 4000) :
    OMeets l Z (⟨"java/util/Arrays", "copyOfRangeByte", "([BII)[B"⟩ : MethodName) [] jdk_65_method_133_code 5 (some (.array .byte)) ({ frames := 1, cells := 1, slots := 4, locals := 18 } : Room) #[(.ref t), (.int (0 : Int32)), (.int (Int32.ofNat d))] h0 n0 (fun v h => ∃ b, v = some (.ref b) ∧ Keep h0 h [] ∧ OArr Z h b .byte d (fun j => .int (f j).toInt8.toInt32) ∧ h0.size ≤ b) := by
  refine o_enter (Z := Z) (plainFor_of_name pn_java_util_Arrays) ?_
  intro p e s m below meth c T0 X0
  refine OFin.cast (g' := (mkF m 0 #[.val (.ref t), .val (.int (0 : Int32)), .val (.int (Int32.ofNat d)), .unset, .unset] [])) (by first | (simp [entryFrame, mkF, argsToLocals, Value.category]; done) | rfl) ?_
  obtain ⟨c1, A1, S1, H1⟩ := id F
  refine X0.step (fun hA hx hq t_ k_ => XS.iloadN hA hx rfl (hb hq d31_0) rfl k_) ?_
  show OFin _ _ _ _ _ _ T0 (mkF m 1 #[.val (.ref t), .val (.int (0 : Int32)), .val (.int (Int32.ofNat d)), .unset, .unset] [(.int (0 : Int32))])
  refine X0.step (fun hA hx hq t_ k_ => XS.iloadN hA hx rfl (hb hq d31_1) rfl k_) ?_
  show OFin _ _ _ _ _ _ T0 (mkF m 2 #[.val (.ref t), .val (.int (0 : Int32)), .val (.int (Int32.ofNat d)), .unset, .unset] [(.int (Int32.ofNat d)), (.int (0 : Int32))])
  refine X0.callS (y' := (⟨"java/util/Arrays", "checkLength", "(II)V"⟩ : MethodName)) (hw _ (List.mem_of_getElem? (i := 142) rfl)) (hw _ (List.mem_of_getElem? (i := 143) rfl)) (hw _ (List.mem_of_getElem? (i := 137) rfl)) (hw _ (List.mem_of_getElem? (i := 144) rfl)) (by decide) (argsL := [(.int (0 : Int32)), (.int (Int32.ofNat d))]) (rest := []) (sb3 l Z a0 hw d h0 n0 (by omega)) (g := (mkF m 2 #[.val (.ref t), .val (.int (0 : Int32)), .val (.int (Int32.ofNat d)), .unset, .unset] [(.int (Int32.ofNat d)), (.int (0 : Int32))])) rfl rfl pd_pIIr_V rfl rfl (W := 0) (by show 2 * 0 + _ ≤ _; exact Nat.le_of_eq rfl) d31_2 (by decide) (by decide) (by decide) (by decide) ?_
  intro v1 T1 h1 X1 q1
  obtain ⟨rfl, rfl⟩ := q1
  show OFin _ _ _ _ _ _ T1 (mkF m 5 #[.val (.ref t), .val (.int (0 : Int32)), .val (.int (Int32.ofNat d)), .unset, .unset] [])
  refine X1.step (fun hA hx hq t_ k_ => XS.iloadN hA hx rfl (hb hq d31_5) rfl k_) ?_
  show OFin _ _ _ _ _ _ T1 (mkF m 6 #[.val (.ref t), .val (.int (0 : Int32)), .val (.int (Int32.ofNat d)), .unset, .unset] [(.int (Int32.ofNat d))])
  refine X1.step (fun hA hx hq t_ k_ => XS.iloadN hA hx rfl (hb hq d31_6) rfl k_) ?_
  show OFin _ _ _ _ _ _ T1 (mkF m 7 #[.val (.ref t), .val (.int (0 : Int32)), .val (.int (Int32.ofNat d)), .unset, .unset] [(.int (0 : Int32)), (.int (Int32.ofNat d))])
  refine X1.step (fun hA hx hq t_ k_ => XS.isub hA hx rfl (hb hq d31_7) rfl k_) ?_
  show OFin _ _ _ _ _ _ T1 (mkF m 8 #[.val (.ref t), .val (.int (0 : Int32)), .val (.int (Int32.ofNat d)), .unset, .unset] [(.int ((Int32.ofNat d) - (0 : Int32)))])
  rw [own_subz]
  show OFin _ _ _ _ _ _ T1 (mkF m 8 #[.val (.ref t), .val (.int (0 : Int32)), .val (.int (Int32.ofNat d)), .unset, .unset] [(.int (Int32.ofNat d))])
  refine X1.step (fun hA hx hq t_ k_ => XS.istoreN hA hx rfl (hb hq d31_8) rfl (l' := #[.val (.ref t), .val (.int (0 : Int32)), .val (.int (Int32.ofNat d)), .val (.int (Int32.ofNat d)), .unset]) rfl k_) ?_
  show OFin _ _ _ _ _ _ T1 (mkF m 9 #[.val (.ref t), .val (.int (0 : Int32)), .val (.int (Int32.ofNat d)), .val (.int (Int32.ofNat d)), .unset] [])
  refine X1.step (fun hA hx hq t_ k_ => XS.iloadN hA hx rfl (hb hq d31_9) rfl k_) ?_
  show OFin _ _ _ _ _ _ T1 (mkF m 10 #[.val (.ref t), .val (.int (0 : Int32)), .val (.int (Int32.ofNat d)), .val (.int (Int32.ofNat d)), .unset] [(.int (Int32.ofNat d))])
  refine X1.newP (hw _ (List.mem_of_getElem? (i := 23) rfl)) (g := (mkF m 10 #[.val (.ref t), .val (.int (0 : Int32)), .val (.int (Int32.ofNat d)), .val (.int (Int32.ofNat d)), .unset] [(.int (Int32.ofNat d))])) rfl d31_10 rfl (by rw [Int32.lt_iff_toInt_lt, own_i d (by omega)]; have : (0 : Int32).toInt = 0 := (by decide); omega) (cap := 4) (by rw [own_iN d (by omega)]; exact hdc) (by decide) (by decide) (by decide) (ad := "[B") (by first | rfl | decide) ?_
  intro T2 h2 k2 b2 gb2 X2 E2 A2 G2
  show OFin _ _ _ _ _ _ T2 (mkF m 12 #[.val (.ref t), .val (.int (0 : Int32)), .val (.int (Int32.ofNat d)), .val (.int (Int32.ofNat d)), .unset] [(.ref b2)])
  have FB : OArr Z h2 b2 .byte d (fun _ => .int 0) := by
    have q := OArr.new A2
    rw [own_iN d (by omega)] at q
    exact q
  refine X2.step (fun hA hx hq t_ k_ => XS.astore hA hx rfl (hb hq d31_12) rfl rfl (l' := #[.val (.ref t), .val (.int (0 : Int32)), .val (.int (Int32.ofNat d)), .val (.int (Int32.ofNat d)), .val (.ref b2)]) rfl k_) ?_
  show OFin _ _ _ _ _ _ T2 (mkF m 14 #[.val (.ref t), .val (.int (0 : Int32)), .val (.int (Int32.ofNat d)), .val (.int (Int32.ofNat d)), .val (.ref b2)] [])
  refine X2.step (fun hA hx hq t_ k_ => XS.aloadN hA hx rfl (hb hq d31_14) rfl rfl k_) ?_
  show OFin _ _ _ _ _ _ T2 (mkF m 15 #[.val (.ref t), .val (.int (0 : Int32)), .val (.int (Int32.ofNat d)), .val (.int (Int32.ofNat d)), .val (.ref b2)] [(.ref t)])
  refine X2.step (fun hA hx hq t_ k_ => XS.iloadN hA hx rfl (hb hq d31_15) rfl k_) ?_
  show OFin _ _ _ _ _ _ T2 (mkF m 16 #[.val (.ref t), .val (.int (0 : Int32)), .val (.int (Int32.ofNat d)), .val (.int (Int32.ofNat d)), .val (.ref b2)] [(.int (0 : Int32)), (.ref t)])
  refine X2.step (fun hA hx hq t_ k_ => XS.aload hA hx rfl (hb hq d31_16) rfl rfl k_) ?_
  show OFin _ _ _ _ _ _ T2 (mkF m 18 #[.val (.ref t), .val (.int (0 : Int32)), .val (.int (Int32.ofNat d)), .val (.int (Int32.ofNat d)), .val (.ref b2)] [(.ref b2), (.int (0 : Int32)), (.ref t)])
  refine X2.step (fun hA hx hq t_ k_ => XS.iconst hA hx rfl (hb hq d31_18) k_) ?_
  show OFin _ _ _ _ _ _ T2 (mkF m 19 #[.val (.ref t), .val (.int (0 : Int32)), .val (.int (Int32.ofNat d)), .val (.int (Int32.ofNat d)), .val (.ref b2)] [(.int (0 : Int32)), (.ref b2), (.int (0 : Int32)), (.ref t)])
  refine X2.step (fun hA hx hq t_ k_ => XS.aloadN hA hx rfl (hb hq d31_19) rfl rfl k_) ?_
  show OFin _ _ _ _ _ _ T2 (mkF m 20 #[.val (.ref t), .val (.int (0 : Int32)), .val (.int (Int32.ofNat d)), .val (.int (Int32.ofNat d)), .val (.ref b2)] [(.ref t), (.int (0 : Int32)), (.ref b2), (.int (0 : Int32)), (.ref t)])
  refine X2.alen (A1.ext E2) (n := (Int32.ofNat N)) (by rw [S1]) (g := (mkF m 20 #[.val (.ref t), .val (.int (0 : Int32)), .val (.int (Int32.ofNat d)), .val (.int (Int32.ofNat d)), .val (.ref b2)] [(.ref t), (.int (0 : Int32)), (.ref b2), (.int (0 : Int32)), (.ref t)])) rfl rfl d31_20 ?_
  show OFin _ _ _ _ _ _ T2 (mkF m 21 #[.val (.ref t), .val (.int (0 : Int32)), .val (.int (Int32.ofNat d)), .val (.int (Int32.ofNat d)), .val (.ref b2)] [(.int (Int32.ofNat N)), (.int (0 : Int32)), (.ref b2), (.int (0 : Int32)), (.ref t)])
  refine X2.step (fun hA hx hq t_ k_ => XS.iloadN hA hx rfl (hb hq d31_21) rfl k_) ?_
  show OFin _ _ _ _ _ _ T2 (mkF m 22 #[.val (.ref t), .val (.int (0 : Int32)), .val (.int (Int32.ofNat d)), .val (.int (Int32.ofNat d)), .val (.ref b2)] [(.int (0 : Int32)), (.int (Int32.ofNat N)), (.int (0 : Int32)), (.ref b2), (.int (0 : Int32)), (.ref t)])
  refine X2.step (fun hA hx hq t_ k_ => XS.isub hA hx rfl (hb hq d31_22) rfl k_) ?_
  show OFin _ _ _ _ _ _ T2 (mkF m 23 #[.val (.ref t), .val (.int (0 : Int32)), .val (.int (Int32.ofNat d)), .val (.int (Int32.ofNat d)), .val (.ref b2)] [(.int ((Int32.ofNat N) - (0 : Int32))), (.int (0 : Int32)), (.ref b2), (.int (0 : Int32)), (.ref t)])
  rw [own_subz]
  show OFin _ _ _ _ _ _ T2 (mkF m 23 #[.val (.ref t), .val (.int (0 : Int32)), .val (.int (Int32.ofNat d)), .val (.int (Int32.ofNat d)), .val (.ref b2)] [(.int (Int32.ofNat N)), (.int (0 : Int32)), (.ref b2), (.int (0 : Int32)), (.ref t)])
  refine X2.step (fun hA hx hq t_ k_ => XS.iloadN hA hx rfl (hb hq d31_23) rfl k_) ?_
  show OFin _ _ _ _ _ _ T2 (mkF m 24 #[.val (.ref t), .val (.int (0 : Int32)), .val (.int (Int32.ofNat d)), .val (.int (Int32.ofNat d)), .val (.ref b2)] [(.int (Int32.ofNat d)), (.int (Int32.ofNat N)), (.int (0 : Int32)), (.ref b2), (.int (0 : Int32)), (.ref t)])
  refine X2.callS (y' := (⟨"java/lang/Math", "min", "(II)I"⟩ : MethodName)) (hw _ (List.mem_of_getElem? (i := 145) rfl)) (hw _ (List.mem_of_getElem? (i := 87) rfl)) (hw _ (List.mem_of_getElem? (i := 84) rfl)) (hw _ (List.mem_of_getElem? (i := 88) rfl)) (by decide) (argsL := [(.int (Int32.ofNat N)), (.int (Int32.ofNat d))]) (rest := [(.int (0 : Int32)), (.ref b2), (.int (0 : Int32)), (.ref t)]) (sx3 l Z a0 hw N d h2 n0 hN (by omega)) (g := (mkF m 24 #[.val (.ref t), .val (.int (0 : Int32)), .val (.int (Int32.ofNat d)), .val (.int (Int32.ofNat d)), .val (.ref b2)] [(.int (Int32.ofNat d)), (.int (Int32.ofNat N)), (.int (0 : Int32)), (.ref b2), (.int (0 : Int32)), (.ref t)])) rfl rfl pd_pIIr_I rfl rfl (W := 4) (by show 2 * 0 + _ ≤ _; exact Nat.le_of_eq rfl) d31_24 (by decide) (by decide) (by decide) (by decide) ?_
  intro v3 T3 h3 X3 q3
  obtain ⟨rfl, rfl⟩ := q3
  show OFin _ _ _ _ _ _ T3 (mkF m 27 #[.val (.ref t), .val (.int (0 : Int32)), .val (.int (Int32.ofNat d)), .val (.int (Int32.ofNat d)), .val (.ref b2)] [(.int (Int32.ofNat (min N d))), (.int (0 : Int32)), (.ref b2), (.int (0 : Int32)), (.ref t)])
  rw [Nat.min_eq_right (Nat.le_of_lt hd)]
  show OFin _ _ _ _ _ _ T3 (mkF m 27 #[.val (.ref t), .val (.int (0 : Int32)), .val (.int (Int32.ofNat d)), .val (.int (Int32.ofNat d)), .val (.ref b2)] [(.int (Int32.ofNat d)), (.int (0 : Int32)), (.ref b2), (.int (0 : Int32)), (.ref t)])
  refine X3.cpB (hw _ (List.mem_of_getElem? (i := 146) rfl)) (hw _ (List.mem_of_getElem? (i := 149) rfl)) (hw _ (List.mem_of_getElem? (i := 147) rfl)) (hw _ (List.mem_of_getElem? (i := 148) rfl)) (F.ext E2) FB hN (Nat.le_of_lt hd) (fun j _ => own_fitB _) (fun j _ => (by decide)) (by rw [gb2]; exact Z0) (g := (mkF m 27 #[.val (.ref t), .val (.int (0 : Int32)), .val (.int (Int32.ofNat d)), .val (.int (Int32.ofNat d)), .val (.ref b2)] [(.int (Int32.ofNat d)), (.int (0 : Int32)), (.ref b2), (.int (0 : Int32)), (.ref t)])) rfl rfl rfl d31_27 (by decide) (W := 0) (by show 2 * 0 + _ ≤ _; exact Nat.le_of_eq rfl) (by decide) ?_
  intro T4 h4 X4 K4 V4
  show OFin _ _ _ _ _ _ T4 (mkF m 30 #[.val (.ref t), .val (.int (0 : Int32)), .val (.int (Int32.ofNat d)), .val (.int (Int32.ofNat d)), .val (.ref b2)] [])
  refine X4.step (fun hA hx hq t_ k_ => XS.aload hA hx rfl (hb hq d31_30) rfl rfl k_) ?_
  show OFin _ _ _ _ _ _ T4 (mkF m 32 #[.val (.ref t), .val (.int (0 : Int32)), .val (.int (Int32.ofNat d)), .val (.int (Int32.ofNat d)), .val (.ref b2)] [(.ref b2)])
  exact X4.retR rfl rfl d31_32 (oN (by decide) (by decide)) (⟨b2, rfl, ((Keep.refl h0 []).ext E2).trans K4 (allS (Or.inr (Nat.le_of_eq gb2.symm)) all0), V4, Nat.le_of_eq gb2.symm⟩)
theorem d30_0 : decode jdk_65_method_132_code 0 = .ok (.iload_n 1, 1) := by decide +kernel
theorem d30_1 : decode jdk_65_method_132_code 1 = .ok (.ifCond .ne 9, 3) := by decide +kernel
theorem d30_4 : decode jdk_65_method_132_code 4 = .ok (.iload_n 2, 1) := by decide +kernel
theorem d30_5 : decode jdk_65_method_132_code 5 = .ok (.aload_n 0, 1) := by decide +kernel
theorem d30_6 : decode jdk_65_method_132_code 6 = .ok (.arraylength, 1) := by decide +kernel
theorem d30_7 : decode jdk_65_method_132_code 7 = .ok (.if_icmp .eq 10, 3) := by decide +kernel
theorem d30_10 : decode jdk_65_method_132_code 10 = .ok (.aload_n 0, 1) := by decide +kernel
theorem d30_11 : decode jdk_65_method_132_code 11 = .ok (.iload_n 1, 1) := by decide +kernel
theorem d30_12 : decode jdk_65_method_132_code 12 = .ok (.iload_n 2, 1) := by decide +kernel
theorem d30_13 : decode jdk_65_method_132_code 13 = .ok (.invokestatic 339, 3) := by decide +kernel
theorem pd_pA_BIIr_A_B : parseMethodDescriptor "([BII)[B" = some ⟨[(.array .byte), .int, .int], some (.array .byte)⟩ := by decide +kernel
theorem d30_16 : decode jdk_65_method_132_code 16 = .ok (.areturn, 1) := by decide +kernel
set_option maxRecDepth 65536 in
set_option maxHeartbeats 40000000 in
theorem sb5 (l : Launch) (Z : State) (a0 : Array Value) (hw : ∀ d ∈ tables_1, d.before a0 Z = true) (t : Addr) (d N : Nat) (f : Nat → Int32) (h0 : Heap) (n0 : Nat) (F : OArr Z h0 t .byte N (fun j => .int (f j).toInt8.toInt32)) (Z0 : n0 ≤ h0.size) (hd : d < N) (hdc : d ≤ 4) (hN : N ≤ 4000) :
    OMeets l Z (⟨"java/util/Arrays", "copyOfRange", "([BII)[B"⟩ : MethodName) [] jdk_65_method_132_code 3 (some (.array .byte)) ({ frames := 2, cells := 1, slots := 4, locals := 34 } : Room) #[(.ref t), (.int (0 : Int32)), (.int (Int32.ofNat d))] h0 n0 (fun v h => ∃ b, v = some (.ref b) ∧ Keep h0 h [] ∧ OArr Z h b .byte d (fun j => .int (f j).toInt8.toInt32) ∧ h0.size ≤ b) := by
  refine o_enter (Z := Z) (plainFor_of_name pn_java_util_Arrays) ?_
  intro p e s m below meth c T0 X0
  refine OFin.cast (g' := (mkF m 0 #[.val (.ref t), .val (.int (0 : Int32)), .val (.int (Int32.ofNat d))] [])) (by first | (simp [entryFrame, mkF, argsToLocals, Value.category]; done) | rfl) ?_
  obtain ⟨c1, A1, S1, H1⟩ := id F
  refine X0.step (fun hA hx hq t_ k_ => XS.iloadN hA hx rfl (hb hq d30_0) rfl k_) ?_
  show OFin _ _ _ _ _ _ T0 (mkF m 1 #[.val (.ref t), .val (.int (0 : Int32)), .val (.int (Int32.ofNat d))] [(.int (0 : Int32))])
  refine X0.step (fun hA hx hq t_ k_ => XS.ifNo hA hx rfl (hb hq d30_1) rfl ((if0 _ _).trans (teq ((rfl : (0 : Int32) = (0 : Int32)))).2) k_) ?_
  show OFin _ _ _ _ _ _ T0 (mkF m 4 #[.val (.ref t), .val (.int (0 : Int32)), .val (.int (Int32.ofNat d))] [])
  refine X0.step (fun hA hx hq t_ k_ => XS.iloadN hA hx rfl (hb hq d30_4) rfl k_) ?_
  show OFin _ _ _ _ _ _ T0 (mkF m 5 #[.val (.ref t), .val (.int (0 : Int32)), .val (.int (Int32.ofNat d))] [(.int (Int32.ofNat d))])
  refine X0.step (fun hA hx hq t_ k_ => XS.aloadN hA hx rfl (hb hq d30_5) rfl rfl k_) ?_
  show OFin _ _ _ _ _ _ T0 (mkF m 6 #[.val (.ref t), .val (.int (0 : Int32)), .val (.int (Int32.ofNat d))] [(.ref t), (.int (Int32.ofNat d))])
  refine X0.alen A1 (n := (Int32.ofNat N)) (by rw [S1]) (g := (mkF m 6 #[.val (.ref t), .val (.int (0 : Int32)), .val (.int (Int32.ofNat d))] [(.ref t), (.int (Int32.ofNat d))])) rfl rfl d30_6 ?_
  show OFin _ _ _ _ _ _ T0 (mkF m 7 #[.val (.ref t), .val (.int (0 : Int32)), .val (.int (Int32.ofNat d))] [(.int (Int32.ofNat N)), (.int (Int32.ofNat d))])
  refine X0.step (fun hA hx hq t_ k_ => XS.icmpNo hA hx rfl (hb hq d30_7) rfl (feq (fun q => by have := (own_eq32 d N (by omega) (by omega)).mp q; omega)).1 k_) ?_
  show OFin _ _ _ _ _ _ T0 (mkF m 10 #[.val (.ref t), .val (.int (0 : Int32)), .val (.int (Int32.ofNat d))] [])
  refine X0.step (fun hA hx hq t_ k_ => XS.aloadN hA hx rfl (hb hq d30_10) rfl rfl k_) ?_
  show OFin _ _ _ _ _ _ T0 (mkF m 11 #[.val (.ref t), .val (.int (0 : Int32)), .val (.int (Int32.ofNat d))] [(.ref t)])
  refine X0.step (fun hA hx hq t_ k_ => XS.iloadN hA hx rfl (hb hq d30_11) rfl k_) ?_
  show OFin _ _ _ _ _ _ T0 (mkF m 12 #[.val (.ref t), .val (.int (0 : Int32)), .val (.int (Int32.ofNat d))] [(.int (0 : Int32)), (.ref t)])
  refine X0.step (fun hA hx hq t_ k_ => XS.iloadN hA hx rfl (hb hq d30_12) rfl k_) ?_
  show OFin _ _ _ _ _ _ T0 (mkF m 13 #[.val (.ref t), .val (.int (0 : Int32)), .val (.int (Int32.ofNat d))] [(.int (Int32.ofNat d)), (.int (0 : Int32)), (.ref t)])
  refine X0.callS (y' := (⟨"java/util/Arrays", "copyOfRangeByte", "([BII)[B"⟩ : MethodName)) (hw _ (List.mem_of_getElem? (i := 139) rfl)) (hw _ (List.mem_of_getElem? (i := 140) rfl)) (hw _ (List.mem_of_getElem? (i := 137) rfl)) (hw _ (List.mem_of_getElem? (i := 141) rfl)) (by decide) (argsL := [(.ref t), (.int (0 : Int32)), (.int (Int32.ofNat d))]) (rest := []) (sb4 l Z a0 hw t d N f h0 n0 F Z0 hd hdc hN) (g := (mkF m 13 #[.val (.ref t), .val (.int (0 : Int32)), .val (.int (Int32.ofNat d))] [(.int (Int32.ofNat d)), (.int (0 : Int32)), (.ref t)])) rfl rfl pd_pA_BIIr_A_B rfl rfl (W := 0) (by show 2 * 0 + _ ≤ _; exact Nat.le_of_eq rfl) d30_13 (by decide) (by decide) (by decide) (by decide) ?_
  intro v1 T1 h1 X1 q1
  obtain ⟨b, rfl, K1, V1, lt1⟩ := q1
  show OFin _ _ _ _ _ _ T1 (mkF m 16 #[.val (.ref t), .val (.int (0 : Int32)), .val (.int (Int32.ofNat d))] [(.ref b)])
  exact X1.retR rfl rfl d30_16 (oN (by decide) (by decide)) (⟨b, rfl, K1, V1, lt1⟩)
theorem d33_0 : decode jdk_42_method_151_code 0 = .ok (.aload_n 0, 1) := by decide +kernel
theorem d33_1 : decode jdk_42_method_151_code 1 = .ok (.invokespecial 1, 3) := by decide +kernel
theorem d33_4 : decode jdk_42_method_151_code 4 = .ok (.aload_n 0, 1) := by decide +kernel
theorem d33_5 : decode jdk_42_method_151_code 5 = .ok (.aload_n 1, 1) := by decide +kernel
theorem d33_6 : decode jdk_42_method_151_code 6 = .ok (.putfield 9, 3) := by decide +kernel
theorem d33_9 : decode jdk_42_method_151_code 9 = .ok (.aload_n 0, 1) := by decide +kernel
theorem d33_10 : decode jdk_42_method_151_code 10 = .ok (.iload_n 2, 1) := by decide +kernel
theorem d33_11 : decode jdk_42_method_151_code 11 = .ok (.putfield 15, 3) := by decide +kernel
theorem d33_14 : decode jdk_42_method_151_code 14 = .ok (.return_, 1) := by decide +kernel
set_option maxRecDepth 65536 in
set_option maxHeartbeats 40000000 in
theorem sb6 (l : Launch) (Z : State) (a0 : Array Value) (hw : ∀ d ∈ tables_1, d.before a0 Z = true) (a1 t : Addr) (h0 : Heap) (n0 : Nat) (F1 : Fld Z h0 a1 "java/lang/String" "value" "[B" .null) (F2 : Fld Z h0 a1 "java/lang/String" "coder" "B" (.int 0)) (E : Exa Z h0 a1 "java/lang/String") (hn : n0 ≤ a1) :
    OMeets l Z (⟨"java/lang/String", "<init>", "([BB)V"⟩ : MethodName) [] jdk_42_method_151_code 3 none ({ frames := 1, cells := 0, slots := 0, locals := 12 } : Room) #[(.ref a1), (.ref t), (.int (0 : Int32))] h0 n0 (fun v h => v = none ∧ Keep h0 h [a1] ∧ Exa Z h a1 "java/lang/String" ∧ Fld Z h a1 "java/lang/String" "coder" "B" (.int 0) ∧ Fld Z h a1 "java/lang/String" "value" "[B" (.ref t)) := by
  refine o_enter (Z := Z) (plainFor_of_name pn_java_lang_String) ?_
  intro p e s m below meth c T0 X0
  refine OFin.cast (g' := (mkF m 0 #[.val (.ref a1), .val (.ref t), .val (.int (0 : Int32))] [])) (by first | (simp [entryFrame, mkF, argsToLocals, Value.category]; done) | rfl) ?_
  have sne := slot_ne (Or.inr (hw _ (List.mem_of_getElem? (i := 25) rfl))) (Or.inr (hw _ (List.mem_of_getElem? (i := 24) rfl))) (by decide) (t := .byte) (t' := (.array .byte)) (by decide) (by decide)
  refine X0.step (fun hA hx hq t_ k_ => XS.aloadN hA hx rfl (hb hq d33_0) rfl rfl k_) ?_
  show OFin _ _ _ _ _ _ T0 (mkF m 1 #[.val (.ref a1), .val (.ref t), .val (.int (0 : Int32))] [(.ref a1)])
  refine X0.initO (hw _ (List.mem_of_getElem? (i := 19) rfl)) (hw _ (List.mem_of_getElem? (i := 20) rfl)) (hw _ (List.mem_of_getElem? (i := 21) rfl)) (g := (mkF m 1 #[.val (.ref a1), .val (.ref t), .val (.int (0 : Int32))] [(.ref a1)])) rfl rfl rfl d33_1 (by decide) (W := 0) (by show 2 * 0 + _ ≤ _; exact Nat.le_of_eq rfl) (by decide) ?_
  intro T1 X1
  show OFin _ _ _ _ _ _ T1 (mkF m 4 #[.val (.ref a1), .val (.ref t), .val (.int (0 : Int32))] [])
  refine X1.step (fun hA hx hq t_ k_ => XS.aloadN hA hx rfl (hb hq d33_4) rfl rfl k_) ?_
  show OFin _ _ _ _ _ _ T1 (mkF m 5 #[.val (.ref a1), .val (.ref t), .val (.int (0 : Int32))] [(.ref a1)])
  refine X1.step (fun hA hx hq t_ k_ => XS.aloadN hA hx rfl (hb hq d33_5) rfl rfl k_) ?_
  show OFin _ _ _ _ _ _ T1 (mkF m 6 #[.val (.ref a1), .val (.ref t), .val (.int (0 : Int32))] [(.ref t), (.ref a1)])
  refine X1.putF (hw _ (List.mem_of_getElem? (i := 28) rfl)) F1 E (Or.inr ⟨(hw _ (List.mem_of_getElem? (i := 24) rfl)), rfl, rfl⟩) (hw _ (List.mem_of_getElem? (i := 6) rfl)) (ty := (.array .byte)) (by decide) rfl rfl hn (g := (mkF m 6 #[.val (.ref a1), .val (.ref t), .val (.int (0 : Int32))] [(.ref t), (.ref a1)])) rfl rfl d33_6 ?_
  intro T2 h2 X2 W2
  show OFin _ _ _ _ _ _ T2 (mkF m 9 #[.val (.ref a1), .val (.ref t), .val (.int (0 : Int32))] [])
  refine X2.step (fun hA hx hq t_ k_ => XS.aloadN hA hx rfl (hb hq d33_9) rfl rfl k_) ?_
  show OFin _ _ _ _ _ _ T2 (mkF m 10 #[.val (.ref a1), .val (.ref t), .val (.int (0 : Int32))] [(.ref a1)])
  refine X2.step (fun hA hx hq t_ k_ => XS.iloadN hA hx rfl (hb hq d33_10) rfl k_) ?_
  show OFin _ _ _ _ _ _ T2 (mkF m 11 #[.val (.ref a1), .val (.ref t), .val (.int (0 : Int32))] [(.int (0 : Int32)), (.ref a1)])
  refine X2.putF (hw _ (List.mem_of_getElem? (i := 29) rfl)) (F2.other W2 (Or.inr sne)) (E.wr W2) (Or.inr ⟨(hw _ (List.mem_of_getElem? (i := 25) rfl)), rfl, rfl⟩) (hw _ (List.mem_of_getElem? (i := 6) rfl)) (ty := .byte) (by decide) rfl rfl hn (g := (mkF m 11 #[.val (.ref a1), .val (.ref t), .val (.int (0 : Int32))] [(.int (0 : Int32)), (.ref a1)])) rfl rfl d33_11 ?_
  intro T3 h3 X3 W3
  show OFin _ _ _ _ _ _ T3 (mkF m 14 #[.val (.ref a1), .val (.ref t), .val (.int (0 : Int32))] [])
  exact X3.retV d33_14 (oN (by decide) (by decide)) (⟨rfl, (Keep.of_wr W2).wr W3 (Or.inl (List.mem_of_getElem? (i := 0) rfl)), (E.wr W2).wr W3, (F2.other W2 (Or.inr sne)).same W3, (F1.same W2).other W3 (Or.inr (Ne.symm sne))⟩)
theorem d29_0 : decode jdk_43_method_47_code 0 = .ok (.iload_n 2, 1) := by decide +kernel
theorem d29_1 : decode jdk_43_method_47_code 1 = .ok (.ifCond .ne 6, 3) := by decide +kernel
theorem d29_4 : decode jdk_43_method_47_code 4 = .ok (.ldc 151, 2) := by decide +kernel
theorem d29_6 : decode jdk_43_method_47_code 6 = .ok (.areturn, 1) := by decide +kernel
theorem d29_7 : decode jdk_43_method_47_code 7 = .ok (.new 1, 3) := by decide +kernel
theorem d29_10 : decode jdk_43_method_47_code 10 = .ok (.dup, 1) := by decide +kernel
theorem d29_11 : decode jdk_43_method_47_code 11 = .ok (.aload_n 0, 1) := by decide +kernel
theorem d29_12 : decode jdk_43_method_47_code 12 = .ok (.iload_n 1, 1) := by decide +kernel
theorem d29_13 : decode jdk_43_method_47_code 13 = .ok (.iload_n 1, 1) := by decide +kernel
theorem d29_14 : decode jdk_43_method_47_code 14 = .ok (.iload_n 2, 1) := by decide +kernel
theorem d29_15 : decode jdk_43_method_47_code 15 = .ok (.iadd, 1) := by decide +kernel
theorem d29_16 : decode jdk_43_method_47_code 16 = .ok (.invokestatic 232, 3) := by decide +kernel
theorem d29_19 : decode jdk_43_method_47_code 19 = .ok (.iconst 0, 1) := by decide +kernel
theorem d29_20 : decode jdk_43_method_47_code 20 = .ok (.invokespecial 112, 3) := by decide +kernel
theorem pd_pA_BBr_V : parseMethodDescriptor "([BB)V" = some ⟨[(.array .byte), .byte], none⟩ := by decide +kernel
theorem d29_23 : decode jdk_43_method_47_code 23 = .ok (.areturn, 1) := by decide +kernel
set_option maxRecDepth 65536 in
set_option maxHeartbeats 40000000 in
theorem sb7 (l : Launch) (Z : State) (a0 : Array Value) (hw : ∀ d ∈ tables_1, d.before a0 Z = true) (t : Addr) (d N : Nat) (f : Nat → Int32) (h0 : Heap) (n0 : Nat) (F : OArr Z h0 t .byte N (fun j => .int (f j).toInt8.toInt32)) (Z0 : n0 ≤ h0.size) (hd : d < N) (hdc : d ≤ 4) (hN : N ≤ 4000) :
    OMeetsW l Z own_EL (⟨"java/lang/StringLatin1", "newString", "([BII)Ljava/lang/String;"⟩ : MethodName) [] jdk_43_method_47_code 3 (some (.object "java/lang/String")) ({ frames := 3, cells := 2, slots := 8, locals := 50 } : Room) #[(.ref t), (.int (0 : Int32)), (.int (Int32.ofNat d))] h0 n0 (fun v h => ∃ a t2, v = some (.ref a) ∧ OStr Z h a t2 d f ∧ Keep h0 h []) := by
  refine o_enterW (Z := Z) (own_EW hw) (plainFor_of_name pn_java_lang_StringLatin1) ?_
  intro p e s m below meth c T0 X0 B0
  refine OFin.cast (g' := (mkF m 0 #[.val (.ref t), .val (.int (0 : Int32)), .val (.int (Int32.ofNat d))] [])) (by first | (simp [entryFrame, mkF, argsToLocals, Value.category]; done) | rfl) ?_
  rcases Nat.eq_zero_or_pos d with rfl | hd0
  · show OFin _ _ _ _ _ _ T0 (mkF m 0 #[.val (.ref t), .val (.int (0 : Int32)), .val (.int (0 : Int32))] [])
    refine X0.step (fun hA hx hq t_ k_ => XS.iloadN hA hx rfl (hb hq d29_0) rfl k_) ?_
    show OFin _ _ _ _ _ _ T0 (mkF m 1 #[.val (.ref t), .val (.int (0 : Int32)), .val (.int (0 : Int32))] [(.int (0 : Int32))])
    refine X0.step (fun hA hx hq t_ k_ => XS.ifNo hA hx rfl (hb hq d29_1) rfl ((if0 _ _).trans (teq ((rfl : (0 : Int32) = (0 : Int32)))).2) k_) ?_
    show OFin _ _ _ _ _ _ T0 (mkF m 4 #[.val (.ref t), .val (.int (0 : Int32)), .val (.int (0 : Int32))] [])
    refine X0.ldcC B0 (hw _ (List.mem_of_getElem? (i := 133) rfl)) (own_wS hw) (by decide) (vs := []) (z := 0) ⟨by decide, rfl⟩ (by decide) (by decide) (g := (mkF m 4 #[.val (.ref t), .val (.int (0 : Int32)), .val (.int (0 : Int32))] [])) rfl d29_4 (n := 0) (by decide) (by decide) (by decide) (by decide) ?_
    intro b1 t1 cA1 T1 h1 vm1 X1 B1 E1 Sf1 A1 Fc1 Fv1 V1 Ne1
    show OFin _ _ _ _ _ _ T1 (mkF m 6 #[.val (.ref t), .val (.int (0 : Int32)), .val (.int (0 : Int32))] [(.ref b1)])
    exact X1.retR rfl rfl d29_6 (oW X1 B1 (by decide) (by decide)) (⟨b1, t1, rfl, ⟨A1, Fc1, Fv1, OArr.nil V1⟩, (Keep.refl h0 []).ext E1⟩)
  · refine X0.step (fun hA hx hq t_ k_ => XS.iloadN hA hx rfl (hb hq d29_0) rfl k_) ?_
    show OFin _ _ _ _ _ _ T0 (mkF m 1 #[.val (.ref t), .val (.int (0 : Int32)), .val (.int (Int32.ofNat d))] [(.int (Int32.ofNat d))])
    refine X0.step (fun hA hx hq t_ k_ => XS.ifYes hA hx rfl (pc0 := 1) (pc' := 7) rfl (hb hq d29_1) rfl ((if0 _ _).trans (feq (fun q => by have := (own_eq32 d 0 (by omega) (by decide)).mp q; omega)).2) (by decide) (by decide) k_) ?_
    show OFin _ _ _ _ _ _ T0 (mkF m 7 #[.val (.ref t), .val (.int (0 : Int32)), .val (.int (Int32.ofNat d))] [])
    refine X0.newO (hw _ (List.mem_of_getElem? (i := 134) rfl)) (hw _ (List.mem_of_getElem? (i := 6) rfl)) (hw _ (List.mem_of_getElem? (i := 7) rfl)) (g := (mkF m 7 #[.val (.ref t), .val (.int (0 : Int32)), .val (.int (Int32.ofNat d))] [])) rfl d29_7 (by decide) (by decide) ?_
    intro T2 h2 b2 gb2 X2 E2 A2 D2
    have B3 := B0.ext E2
    show OFin _ _ _ _ _ _ T2 (mkF m 10 #[.val (.ref t), .val (.int (0 : Int32)), .val (.int (Int32.ofNat d))] [(.ref b2)])
    have Fv : Fld Z h2 b2 "java/lang/String" "value" "[B" .null := D2 (Or.inr (hw _ (List.mem_of_getElem? (i := 24) rfl))) (ty := (.array .byte)) (by decide)
    have Fc : Fld Z h2 b2 "java/lang/String" "coder" "B" (.int (0 : Int32)) := D2 (Or.inr (hw _ (List.mem_of_getElem? (i := 25) rfl))) (ty := .byte) (by decide)
    have hm : n0 ≤ b2 := by rw [gb2]; exact Z0
    refine X2.step (fun hA hx hq t_ k_ => XS.dup hA hx rfl (hb hq d29_10) rfl rfl k_) ?_
    show OFin _ _ _ _ _ _ T2 (mkF m 11 #[.val (.ref t), .val (.int (0 : Int32)), .val (.int (Int32.ofNat d))] [(.ref b2), (.ref b2)])
    refine X2.step (fun hA hx hq t_ k_ => XS.aloadN hA hx rfl (hb hq d29_11) rfl rfl k_) ?_
    show OFin _ _ _ _ _ _ T2 (mkF m 12 #[.val (.ref t), .val (.int (0 : Int32)), .val (.int (Int32.ofNat d))] [(.ref t), (.ref b2), (.ref b2)])
    refine X2.step (fun hA hx hq t_ k_ => XS.iloadN hA hx rfl (hb hq d29_12) rfl k_) ?_
    show OFin _ _ _ _ _ _ T2 (mkF m 13 #[.val (.ref t), .val (.int (0 : Int32)), .val (.int (Int32.ofNat d))] [(.int (0 : Int32)), (.ref t), (.ref b2), (.ref b2)])
    refine X2.step (fun hA hx hq t_ k_ => XS.iloadN hA hx rfl (hb hq d29_13) rfl k_) ?_
    show OFin _ _ _ _ _ _ T2 (mkF m 14 #[.val (.ref t), .val (.int (0 : Int32)), .val (.int (Int32.ofNat d))] [(.int (0 : Int32)), (.int (0 : Int32)), (.ref t), (.ref b2), (.ref b2)])
    refine X2.step (fun hA hx hq t_ k_ => XS.iloadN hA hx rfl (hb hq d29_14) rfl k_) ?_
    show OFin _ _ _ _ _ _ T2 (mkF m 15 #[.val (.ref t), .val (.int (0 : Int32)), .val (.int (Int32.ofNat d))] [(.int (Int32.ofNat d)), (.int (0 : Int32)), (.int (0 : Int32)), (.ref t), (.ref b2), (.ref b2)])
    refine X2.step (fun hA hx hq t_ k_ => XS.iadd hA hx rfl (hb hq d29_15) rfl k_) ?_
    show OFin _ _ _ _ _ _ T2 (mkF m 16 #[.val (.ref t), .val (.int (0 : Int32)), .val (.int (Int32.ofNat d))] [(.int ((0 : Int32) + (Int32.ofNat d))), (.int (0 : Int32)), (.ref t), (.ref b2), (.ref b2)])
    rw [own_addz]
    show OFin _ _ _ _ _ _ T2 (mkF m 16 #[.val (.ref t), .val (.int (0 : Int32)), .val (.int (Int32.ofNat d))] [(.int (Int32.ofNat d)), (.int (0 : Int32)), (.ref t), (.ref b2), (.ref b2)])
    refine X2.callS (y' := (⟨"java/util/Arrays", "copyOfRange", "([BII)[B"⟩ : MethodName)) (hw _ (List.mem_of_getElem? (i := 135) rfl)) (hw _ (List.mem_of_getElem? (i := 136) rfl)) (hw _ (List.mem_of_getElem? (i := 137) rfl)) (hw _ (List.mem_of_getElem? (i := 138) rfl)) (by decide) (argsL := [(.ref t), (.int (0 : Int32)), (.int (Int32.ofNat d))]) (rest := [(.ref b2), (.ref b2)]) (sb5 l Z a0 hw t d N f h2 n0 (F.ext E2) (Nat.le_trans Z0 E2.1) hd hdc hN) (g := (mkF m 16 #[.val (.ref t), .val (.int (0 : Int32)), .val (.int (Int32.ofNat d))] [(.int (Int32.ofNat d)), (.int (0 : Int32)), (.ref t), (.ref b2), (.ref b2)])) rfl rfl pd_pA_BIIr_A_B rfl rfl (W := 2) (by show 2 * 0 + _ ≤ _; exact Nat.le_of_eq rfl) d29_16 (by decide) (by decide) (by decide) (by decide) ?_
    intro v4 T4 h4 X4 q4
    obtain ⟨b, rfl, K4, V4, lt4⟩ := q4
    have B5 := B3.keep K4 sf0
    show OFin _ _ _ _ _ _ T4 (mkF m 19 #[.val (.ref t), .val (.int (0 : Int32)), .val (.int (Int32.ofNat d))] [(.ref b), (.ref b2), (.ref b2)])
    refine X4.step (fun hA hx hq t_ k_ => XS.iconst hA hx rfl (hb hq d29_19) k_) ?_
    show OFin _ _ _ _ _ _ T4 (mkF m 20 #[.val (.ref t), .val (.int (0 : Int32)), .val (.int (Int32.ofNat d))] [(.int (0 : Int32)), (.ref b), (.ref b2), (.ref b2)])
    refine X4.callI (y' := (⟨"java/lang/String", "<init>", "([BB)V"⟩ : MethodName)) rfl (hw _ (List.mem_of_getElem? (i := 150) rfl)) (hw _ (List.mem_of_getElem? (i := 151) rfl)) (hw _ (List.mem_of_getElem? (i := 7) rfl)) (hw _ (List.mem_of_getElem? (i := 152) rfl)) (by decide) (a := b2) (argsL := [(.ref b), (.int (0 : Int32))]) (rest := [(.ref b2)]) (sb6 l Z a0 hw b2 b h4 n0 (Fv.keep K4 nin0) (Fc.keep K4 nin0) (A2.keep K4) hm) (g := (mkF m 20 #[.val (.ref t), .val (.int (0 : Int32)), .val (.int (Int32.ofNat d))] [(.int (0 : Int32)), (.ref b), (.ref b2), (.ref b2)])) rfl rfl pd_pA_BBr_V rfl rfl (W := 1) (by show 2 * 0 + _ ≤ _; exact Nat.le_of_eq rfl) d29_20 (by decide) (by decide) (by decide) (by decide) ?_
    intro v6 T6 h6 X6 q6
    obtain ⟨rfl, K6, E6, Fc6, Fv6⟩ := q6
    have B7 := B5.keep K6 (sfS (own_safeNull X4.1.2.1.alike (A2.keep K4) (Fv.keep K4 nin0)) sf0)
    show OFin _ _ _ _ _ _ T6 (mkF m 23 #[.val (.ref t), .val (.int (0 : Int32)), .val (.int (Int32.ofNat d))] [(.ref b2)])
    have nb : b ≠ b2 := fun e => by have q1 := A2.lt; rw [← e] at q1; exact absurd lt4 (Nat.not_le.mpr q1)
    exact X6.retR rfl rfl d29_23 (oW X6 B7 (by decide) (by decide)) (⟨b2, b, rfl, ⟨E6, Fc6, Fv6, V4.keep K6 (ninS nb nin0)⟩, (((Keep.refl h0 []).ext E2).trans K4 all0).trans K6 (allS (Or.inr (Nat.le_of_eq gb2.symm)) all0)⟩)
theorem d26_0 : decode jdk_42_method_92_code 0 = .ok (.aload_n 0, 1) := by decide +kernel
theorem d26_1 : decode jdk_42_method_92_code 1 = .ok (.invokevirtual 505, 3) := by decide +kernel
theorem d26_4 : decode jdk_42_method_92_code 4 = .ok (.istore_n 3, 1) := by decide +kernel
theorem d26_5 : decode jdk_42_method_92_code 5 = .ok (.iload_n 1, 1) := by decide +kernel
theorem d26_6 : decode jdk_42_method_92_code 6 = .ok (.iload_n 2, 1) := by decide +kernel
theorem d26_7 : decode jdk_42_method_92_code 7 = .ok (.iload_n 3, 1) := by decide +kernel
theorem d26_8 : decode jdk_42_method_92_code 8 = .ok (.invokestatic 521, 3) := by decide +kernel
theorem pd_pIIIr_V : parseMethodDescriptor "(III)V" = some ⟨[.int, .int, .int], none⟩ := by decide +kernel
theorem d26_11 : decode jdk_42_method_92_code 11 = .ok (.iload_n 1, 1) := by decide +kernel
theorem d26_12 : decode jdk_42_method_92_code 12 = .ok (.ifCond .ne 10, 3) := by decide +kernel
theorem d26_15 : decode jdk_42_method_92_code 15 = .ok (.iload_n 2, 1) := by decide +kernel
theorem d26_16 : decode jdk_42_method_92_code 16 = .ok (.iload_n 3, 1) := by decide +kernel
theorem d26_17 : decode jdk_42_method_92_code 17 = .ok (.if_icmp .ne 5, 3) := by decide +kernel
theorem d26_22 : decode jdk_42_method_92_code 22 = .ok (.iload_n 2, 1) := by decide +kernel
theorem d26_23 : decode jdk_42_method_92_code 23 = .ok (.iload_n 1, 1) := by decide +kernel
theorem d26_24 : decode jdk_42_method_92_code 24 = .ok (.isub, 1) := by decide +kernel
theorem d26_25 : decode jdk_42_method_92_code 25 = .ok (.istore 4, 2) := by decide +kernel
theorem d26_27 : decode jdk_42_method_92_code 27 = .ok (.aload_n 0, 1) := by decide +kernel
theorem d26_28 : decode jdk_42_method_92_code 28 = .ok (.invokevirtual 492, 3) := by decide +kernel
theorem d26_31 : decode jdk_42_method_92_code 31 = .ok (.ifCond .eq 16, 3) := by decide +kernel
theorem d26_34 : decode jdk_42_method_92_code 34 = .ok (.aload_n 0, 1) := by decide +kernel
theorem d26_35 : decode jdk_42_method_92_code 35 = .ok (.getfield 9, 3) := by decide +kernel
theorem d26_38 : decode jdk_42_method_92_code 38 = .ok (.iload_n 1, 1) := by decide +kernel
theorem d26_39 : decode jdk_42_method_92_code 39 = .ok (.iload 4, 2) := by decide +kernel
theorem d26_41 : decode jdk_42_method_92_code 41 = .ok (.invokestatic 685, 3) := by decide +kernel
theorem pd_pA_BIIr_Ljava_lang_String_ : parseMethodDescriptor "([BII)Ljava/lang/String;" = some ⟨[(.array .byte), .int, .int], some (.object "java/lang/String")⟩ := by decide +kernel
theorem d26_44 : decode jdk_42_method_92_code 44 = .ok (.goto 13, 3) := by decide +kernel
theorem d26_57 : decode jdk_42_method_92_code 57 = .ok (.areturn, 1) := by decide +kernel
set_option maxRecDepth 65536 in
set_option maxHeartbeats 40000000 in
theorem sb8 (l : Launch) (Z : State) (a0 : Array Value) (hw : ∀ d ∈ tables_1, d.before a0 Z = true) (a1 t : Addr) (N : Nat) (f : Nat → Int32) (d : Nat) (cs : Int32) (vf : Value) (h0 : Heap) (n0 : Nat) (S : OStr Z h0 a1 t N f) (hd : d < N) (hdc : d ≤ 4) (hN : N ≤ 4000) (Z0 : n0 ≤ h0.size) (SS : Sta Z h0 "java/lang/String" "COMPACT_STRINGS" "Z" (.int cs)) (hcs : ¬ cs = 0) (SP : Sta Z h0 "jdk/internal/util/Preconditions" "SIOOBE_FORMATTER" "Ljava/util/function/BiFunction;" vf) (rf : vf.isRef = true) :
    OMeetsW l Z own_EL (⟨"java/lang/String", "substring", "(II)Ljava/lang/String;"⟩ : MethodName) [] jdk_42_method_92_code 5 (some (.object "java/lang/String")) ({ frames := 4, cells := 2, slots := 8, locals := 64 } : Room) #[(.ref a1), (.int (0 : Int32)), (.int (Int32.ofNat d))] h0 n0 (fun v h => ∃ a t2, v = some (.ref a) ∧ OStr Z h a t2 d f ∧ Keep h0 h []) := by
  refine o_enterW (Z := Z) (own_EW hw) (plainFor_of_name pn_java_lang_String) ?_
  intro p e s m below meth c T0 X0 B0
  refine OFin.cast (g' := (mkF m 0 #[.val (.ref a1), .val (.int (0 : Int32)), .val (.int (Int32.ofNat d)), .unset, .unset] [])) (by first | (simp [entryFrame, mkF, argsToLocals, Value.category]; done) | rfl) ?_
  refine X0.step (fun hA hx hq t_ k_ => XS.aloadN hA hx rfl (hb hq d26_0) rfl rfl k_) ?_
  show OFin _ _ _ _ _ _ T0 (mkF m 1 #[.val (.ref a1), .val (.int (0 : Int32)), .val (.int (Int32.ofNat d)), .unset, .unset] [(.ref a1)])
  refine X0.callV (y' := (⟨"java/lang/String", "length", "()I"⟩ : MethodName)) (z' := (⟨"java/lang/String", "length", "()I"⟩ : MethodName)) (hw _ (List.mem_of_getElem? (i := 65) rfl)) (hw _ (List.mem_of_getElem? (i := 66) rfl)) (X0.notFace (hw _ (List.mem_of_getElem? (i := 68) rfl)) rfl) (hw _ (List.mem_of_getElem? (i := 68) rfl)) (hw _ (List.mem_of_getElem? (i := 67) rfl)) (hw _ (List.mem_of_getElem? (i := 7) rfl)) (hw _ (List.mem_of_getElem? (i := 69) rfl)) (by decide) S.1 (argsL := []) (rest := []) (sl2 l Z a0 hw a1 t N f cs h0 n0 S hN SS hcs) (g := (mkF m 1 #[.val (.ref a1), .val (.int (0 : Int32)), .val (.int (Int32.ofNat d)), .unset, .unset] [(.ref a1)])) rfl rfl pd_pr_I rfl rfl (W := 0) (by show 2 * 0 + _ ≤ _; exact Nat.le_of_eq rfl) d26_1 (by decide) (by decide) (by decide) (by decide) ?_
  intro v1 T1 h1 X1 q1
  obtain ⟨rfl, rfl⟩ := q1
  show OFin _ _ _ _ _ _ T1 (mkF m 4 #[.val (.ref a1), .val (.int (0 : Int32)), .val (.int (Int32.ofNat d)), .unset, .unset] [(.int (Int32.ofNat N))])
  refine X1.step (fun hA hx hq t_ k_ => XS.istoreN hA hx rfl (hb hq d26_4) rfl (l' := #[.val (.ref a1), .val (.int (0 : Int32)), .val (.int (Int32.ofNat d)), .val (.int (Int32.ofNat N)), .unset]) rfl k_) ?_
  show OFin _ _ _ _ _ _ T1 (mkF m 5 #[.val (.ref a1), .val (.int (0 : Int32)), .val (.int (Int32.ofNat d)), .val (.int (Int32.ofNat N)), .unset] [])
  refine X1.step (fun hA hx hq t_ k_ => XS.iloadN hA hx rfl (hb hq d26_5) rfl k_) ?_
  show OFin _ _ _ _ _ _ T1 (mkF m 6 #[.val (.ref a1), .val (.int (0 : Int32)), .val (.int (Int32.ofNat d)), .val (.int (Int32.ofNat N)), .unset] [(.int (0 : Int32))])
  refine X1.step (fun hA hx hq t_ k_ => XS.iloadN hA hx rfl (hb hq d26_6) rfl k_) ?_
  show OFin _ _ _ _ _ _ T1 (mkF m 7 #[.val (.ref a1), .val (.int (0 : Int32)), .val (.int (Int32.ofNat d)), .val (.int (Int32.ofNat N)), .unset] [(.int (Int32.ofNat d)), (.int (0 : Int32))])
  refine X1.step (fun hA hx hq t_ k_ => XS.iloadN hA hx rfl (hb hq d26_7) rfl k_) ?_
  show OFin _ _ _ _ _ _ T1 (mkF m 8 #[.val (.ref a1), .val (.int (0 : Int32)), .val (.int (Int32.ofNat d)), .val (.int (Int32.ofNat N)), .unset] [(.int (Int32.ofNat N)), (.int (Int32.ofNat d)), (.int (0 : Int32))])
  refine X1.callS (y' := (⟨"java/lang/String", "checkBoundsBeginEnd", "(III)V"⟩ : MethodName)) (hw _ (List.mem_of_getElem? (i := 124) rfl)) (hw _ (List.mem_of_getElem? (i := 125) rfl)) (hw _ (List.mem_of_getElem? (i := 7) rfl)) (hw _ (List.mem_of_getElem? (i := 126) rfl)) (by decide) (argsL := [(.int (0 : Int32)), (.int (Int32.ofNat d)), (.int (Int32.ofNat N))]) (rest := []) (sb2 l Z a0 hw d N vf h0 n0 SP rf hd hdc hN) (g := (mkF m 8 #[.val (.ref a1), .val (.int (0 : Int32)), .val (.int (Int32.ofNat d)), .val (.int (Int32.ofNat N)), .unset] [(.int (Int32.ofNat N)), (.int (Int32.ofNat d)), (.int (0 : Int32))])) rfl rfl pd_pIIIr_V rfl rfl (W := 0) (by show 2 * 0 + _ ≤ _; exact Nat.le_of_eq rfl) d26_8 (by decide) (by decide) (by decide) (by decide) ?_
  intro v2 T2 h2 X2 q2
  obtain ⟨rfl, rfl⟩ := q2
  show OFin _ _ _ _ _ _ T2 (mkF m 11 #[.val (.ref a1), .val (.int (0 : Int32)), .val (.int (Int32.ofNat d)), .val (.int (Int32.ofNat N)), .unset] [])
  refine X2.step (fun hA hx hq t_ k_ => XS.iloadN hA hx rfl (hb hq d26_11) rfl k_) ?_
  show OFin _ _ _ _ _ _ T2 (mkF m 12 #[.val (.ref a1), .val (.int (0 : Int32)), .val (.int (Int32.ofNat d)), .val (.int (Int32.ofNat N)), .unset] [(.int (0 : Int32))])
  refine X2.step (fun hA hx hq t_ k_ => XS.ifNo hA hx rfl (hb hq d26_12) rfl ((if0 _ _).trans (teq ((rfl : (0 : Int32) = (0 : Int32)))).2) k_) ?_
  show OFin _ _ _ _ _ _ T2 (mkF m 15 #[.val (.ref a1), .val (.int (0 : Int32)), .val (.int (Int32.ofNat d)), .val (.int (Int32.ofNat N)), .unset] [])
  refine X2.step (fun hA hx hq t_ k_ => XS.iloadN hA hx rfl (hb hq d26_15) rfl k_) ?_
  show OFin _ _ _ _ _ _ T2 (mkF m 16 #[.val (.ref a1), .val (.int (0 : Int32)), .val (.int (Int32.ofNat d)), .val (.int (Int32.ofNat N)), .unset] [(.int (Int32.ofNat d))])
  refine X2.step (fun hA hx hq t_ k_ => XS.iloadN hA hx rfl (hb hq d26_16) rfl k_) ?_
  show OFin _ _ _ _ _ _ T2 (mkF m 17 #[.val (.ref a1), .val (.int (0 : Int32)), .val (.int (Int32.ofNat d)), .val (.int (Int32.ofNat N)), .unset] [(.int (Int32.ofNat N)), (.int (Int32.ofNat d))])
  refine X2.step (fun hA hx hq t_ k_ => XS.icmpYes hA hx rfl (pc0 := 17) (pc' := 22) rfl (hb hq d26_17) rfl (feq (fun q => by have := (own_eq32 d N (by omega) (by omega)).mp q; omega)).2 (by decide) (by decide) k_) ?_
  show OFin _ _ _ _ _ _ T2 (mkF m 22 #[.val (.ref a1), .val (.int (0 : Int32)), .val (.int (Int32.ofNat d)), .val (.int (Int32.ofNat N)), .unset] [])
  refine X2.step (fun hA hx hq t_ k_ => XS.iloadN hA hx rfl (hb hq d26_22) rfl k_) ?_
  show OFin _ _ _ _ _ _ T2 (mkF m 23 #[.val (.ref a1), .val (.int (0 : Int32)), .val (.int (Int32.ofNat d)), .val (.int (Int32.ofNat N)), .unset] [(.int (Int32.ofNat d))])
  refine X2.step (fun hA hx hq t_ k_ => XS.iloadN hA hx rfl (hb hq d26_23) rfl k_) ?_
  show OFin _ _ _ _ _ _ T2 (mkF m 24 #[.val (.ref a1), .val (.int (0 : Int32)), .val (.int (Int32.ofNat d)), .val (.int (Int32.ofNat N)), .unset] [(.int (0 : Int32)), (.int (Int32.ofNat d))])
  refine X2.step (fun hA hx hq t_ k_ => XS.isub hA hx rfl (hb hq d26_24) rfl k_) ?_
  show OFin _ _ _ _ _ _ T2 (mkF m 25 #[.val (.ref a1), .val (.int (0 : Int32)), .val (.int (Int32.ofNat d)), .val (.int (Int32.ofNat N)), .unset] [(.int ((Int32.ofNat d) - (0 : Int32)))])
  rw [own_subz]
  show OFin _ _ _ _ _ _ T2 (mkF m 25 #[.val (.ref a1), .val (.int (0 : Int32)), .val (.int (Int32.ofNat d)), .val (.int (Int32.ofNat N)), .unset] [(.int (Int32.ofNat d))])
  refine X2.step (fun hA hx hq t_ k_ => XS.istore hA hx rfl (hb hq d26_25) rfl (l' := #[.val (.ref a1), .val (.int (0 : Int32)), .val (.int (Int32.ofNat d)), .val (.int (Int32.ofNat N)), .val (.int (Int32.ofNat d))]) rfl k_) ?_
  show OFin _ _ _ _ _ _ T2 (mkF m 27 #[.val (.ref a1), .val (.int (0 : Int32)), .val (.int (Int32.ofNat d)), .val (.int (Int32.ofNat N)), .val (.int (Int32.ofNat d))] [])
  refine X2.step (fun hA hx hq t_ k_ => XS.aloadN hA hx rfl (hb hq d26_27) rfl rfl k_) ?_
  show OFin _ _ _ _ _ _ T2 (mkF m 28 #[.val (.ref a1), .val (.int (0 : Int32)), .val (.int (Int32.ofNat d)), .val (.int (Int32.ofNat N)), .val (.int (Int32.ofNat d))] [(.ref a1)])
  refine X2.callV (y' := (⟨"java/lang/String", "isLatin1", "()Z"⟩ : MethodName)) (z' := (⟨"java/lang/String", "isLatin1", "()Z"⟩ : MethodName)) (hw _ (List.mem_of_getElem? (i := 59) rfl)) (hw _ (List.mem_of_getElem? (i := 60) rfl)) (X2.notFace (hw _ (List.mem_of_getElem? (i := 62) rfl)) rfl) (hw _ (List.mem_of_getElem? (i := 62) rfl)) (hw _ (List.mem_of_getElem? (i := 61) rfl)) (hw _ (List.mem_of_getElem? (i := 7) rfl)) (hw _ (List.mem_of_getElem? (i := 63) rfl)) (by decide) S.1 (argsL := []) (rest := []) (sc1 l Z a0 hw a1 t N f cs h0 n0 S hN SS hcs) (g := (mkF m 28 #[.val (.ref a1), .val (.int (0 : Int32)), .val (.int (Int32.ofNat d)), .val (.int (Int32.ofNat N)), .val (.int (Int32.ofNat d))] [(.ref a1)])) rfl rfl pd_pr_Z rfl rfl (W := 0) (by show 2 * 0 + _ ≤ _; exact Nat.le_of_eq rfl) d26_28 (by decide) (by decide) (by decide) (by decide) ?_
  intro v3 T3 h3 X3 q3
  obtain ⟨rfl, rfl⟩ := q3
  show OFin _ _ _ _ _ _ T3 (mkF m 31 #[.val (.ref a1), .val (.int (0 : Int32)), .val (.int (Int32.ofNat d)), .val (.int (Int32.ofNat N)), .val (.int (Int32.ofNat d))] [(.int (1 : Int32))])
  refine X3.step (fun hA hx hq t_ k_ => XS.ifNo hA hx rfl (hb hq d26_31) rfl ((if0 _ _).trans (feq ((by decide))).1) k_) ?_
  show OFin _ _ _ _ _ _ T3 (mkF m 34 #[.val (.ref a1), .val (.int (0 : Int32)), .val (.int (Int32.ofNat d)), .val (.int (Int32.ofNat N)), .val (.int (Int32.ofNat d))] [])
  refine X3.step (fun hA hx hq t_ k_ => XS.aloadN hA hx rfl (hb hq d26_34) rfl rfl k_) ?_
  show OFin _ _ _ _ _ _ T3 (mkF m 35 #[.val (.ref a1), .val (.int (0 : Int32)), .val (.int (Int32.ofNat d)), .val (.int (Int32.ofNat N)), .val (.int (Int32.ofNat d))] [(.ref a1)])
  refine X3.getF (hw _ (List.mem_of_getElem? (i := 28) rfl)) S.2.2.1 (g := (mkF m 35 #[.val (.ref a1), .val (.int (0 : Int32)), .val (.int (Int32.ofNat d)), .val (.int (Int32.ofNat N)), .val (.int (Int32.ofNat d))] [(.ref a1)])) rfl rfl d26_35 ?_
  intro T4 X4
  show OFin _ _ _ _ _ _ T4 (mkF m 38 #[.val (.ref a1), .val (.int (0 : Int32)), .val (.int (Int32.ofNat d)), .val (.int (Int32.ofNat N)), .val (.int (Int32.ofNat d))] [(.ref t)])
  refine X4.step (fun hA hx hq t_ k_ => XS.iloadN hA hx rfl (hb hq d26_38) rfl k_) ?_
  show OFin _ _ _ _ _ _ T4 (mkF m 39 #[.val (.ref a1), .val (.int (0 : Int32)), .val (.int (Int32.ofNat d)), .val (.int (Int32.ofNat N)), .val (.int (Int32.ofNat d))] [(.int (0 : Int32)), (.ref t)])
  refine X4.step (fun hA hx hq t_ k_ => XS.iload hA hx rfl (hb hq d26_39) rfl k_) ?_
  show OFin _ _ _ _ _ _ T4 (mkF m 41 #[.val (.ref a1), .val (.int (0 : Int32)), .val (.int (Int32.ofNat d)), .val (.int (Int32.ofNat N)), .val (.int (Int32.ofNat d))] [(.int (Int32.ofNat d)), (.int (0 : Int32)), (.ref t)])
  refine X4.callSW B0 (y' := (⟨"java/lang/StringLatin1", "newString", "([BII)Ljava/lang/String;"⟩ : MethodName)) (hw _ (List.mem_of_getElem? (i := 130) rfl)) (hw _ (List.mem_of_getElem? (i := 131) rfl)) (hw _ (List.mem_of_getElem? (i := 77) rfl)) (hw _ (List.mem_of_getElem? (i := 132) rfl)) (by decide) (argsL := [(.ref t), (.int (0 : Int32)), (.int (Int32.ofNat d))]) (rest := []) (sb7 l Z a0 hw t d N f h0 n0 S.2.2.2 Z0 hd hdc hN) (g := (mkF m 41 #[.val (.ref a1), .val (.int (0 : Int32)), .val (.int (Int32.ofNat d)), .val (.int (Int32.ofNat N)), .val (.int (Int32.ofNat d))] [(.int (Int32.ofNat d)), (.int (0 : Int32)), (.ref t)])) rfl rfl pd_pA_BIIr_Ljava_lang_String_ rfl rfl (W := 0) (by show 2 * 0 + _ ≤ _; exact Nat.le_of_eq rfl) d26_41 (by decide) (by decide) (by decide) (by decide) ?_
  intro v5 T5 h5 vm5 X5 B5 G5 Sf5 q5
  obtain ⟨r, t2, rfl, U5, K5⟩ := q5
  show OFin _ _ _ _ _ _ T5 (mkF m 44 #[.val (.ref a1), .val (.int (0 : Int32)), .val (.int (Int32.ofNat d)), .val (.int (Int32.ofNat N)), .val (.int (Int32.ofNat d))] [(.ref r)])
  refine X5.step (fun hA hx hq t_ k_ => XS.goto hA hx rfl (pc0 := 44) (pc' := 57) rfl (hb hq d26_44) (by decide) (by decide) k_) ?_
  show OFin _ _ _ _ _ _ T5 (mkF m 57 #[.val (.ref a1), .val (.int (0 : Int32)), .val (.int (Int32.ofNat d)), .val (.int (Int32.ofNat N)), .val (.int (Int32.ofNat d))] [(.ref r)])
  exact X5.retR rfl rfl d26_57 (oW X5 B5 (by decide) (by decide)) (⟨r, t2, rfl, U5, K5⟩)
def own_ok (x : Int32) : Prop := 0 ≤ x.toInt ∧ x.toInt ≤ 255
theorem own_c8 (x : Int32) : own_ok ((x &&& (255 : Int32)).toUInt32.toUInt16.toUInt32.toInt32) := by
  have e1 := c_and x (255 : Int32) (by decide)
  have e3 : (255 : Int32).toInt = 255 := by decide
  rw [i2c_mask]
  exact ⟨e1.1, by omega⟩
def own_f (c0 c1 c2 c3 : Int32) (j : Nat) : Int32 := if j = 0 then c0 else if j = 1 then c1 else if j = 2 then c2 else c3
theorem own_fok {c0 c1 c2 c3 : Int32} (h0 : own_ok c0) (h1 : own_ok c1) (h2 : own_ok c2) (h3 : own_ok c3) (j : Nat) : own_ok (own_f c0 c1 c2 c3 j) := by
  unfold own_f
  split
  · exact h0
  · split
    · exact h1
    · split
      · exact h2
      · exact h3
theorem own_n5 (x : Int32) : ∃ N : Nat, N ≤ 4 ∧ (x &&& (2147483647 : Int32)) % (5 : Int32) = Int32.ofNat N := by
  have e1 := (c_and x (2147483647 : Int32) (by decide)).1
  have e2 := (c_iremV (x &&& (2147483647 : Int32)) (5 : Int32)).1 e1 (by decide)
  have e3 : (5 : Int32).toInt = 5 := by decide
  generalize (x &&& (2147483647 : Int32)) % (5 : Int32) = z at e2
  refine ⟨z.toInt.toNat, by omega, Int32.toInt_inj.mp ?_⟩
  rw [own_i _ (by omega)]
  omega
/-- d is the first place from k on at which f is 32, or N -/
def own_inv (N : Nat) (f : Nat → Int32) (k d : Nat) : Prop := d ≤ N ∧ (∀ j, k ≤ j → j < d → f j ≠ 32) ∧ (d < N → f d = 32)
theorem own_inv.start {N : Nat} {f : Nat → Int32} (h : N ≤ 4) : own_inv N f 4 N := ⟨Nat.le_refl _, fun j a b => by omega, fun q => absurd q (Nat.lt_irrefl _)⟩
theorem own_inv.set {N k : Nat} {f : Nat → Int32} (h : k < N) (q : f k = 32) : own_inv N f k k := ⟨Nat.le_of_lt h, fun j a b => by omega, fun _ => q⟩
theorem own_inv.skip {N k d : Nat} {f : Nat → Int32} (I : own_inv N f (k + 1) d) (h : k < N → f k ≠ 32) : own_inv N f k d := ⟨I.1, fun j a b => by
  rcases (by omega : j = k ∨ k + 1 ≤ j) with rfl | z
  · exact h (by have := I.1; omega)
  · exact I.2.1 j z b, I.2.2⟩
theorem own_inv.uniq {N d d' : Nat} {f : Nat → Int32} (I : own_inv N f 0 d) (J : own_inv N f 0 d') : d = d' := by
  rcases Nat.lt_trichotomy d d' with q | q | q
  · exact absurd (I.2.2 (by have := J.1; omega)) (J.2.1 d (Nat.zero_le _) q)
  · exact q
  · exact absurd (J.2.2 (by have := I.1; omega)) (I.2.1 d' (Nat.zero_le _) q)
theorem own_inv.of {N : Nat} {f : Nat → Int32} (h : ∀ j, j < N → f j ≠ 32) : own_inv N f 0 N := ⟨Nat.le_refl _, fun j _ b => h j b, fun q => absurd q (Nat.lt_irrefl _)⟩
theorem pn_com_example_lean_lock_leanlock_redis_ErrorReplyCodePinLaw : plainName "com/example/lean_lock/leanlock/redis/ErrorReplyCodePinLaw" = true := by first | (simp [plainName, overriddenIn]; done) | decide +kernel
theorem d1_0 : decode method_2_code 0 = .ok (.iload_n 0, 1) := by decide +kernel
theorem d1_1 : decode method_2_code 1 = .ok (.sipush 256, 3) := by decide +kernel
theorem d1_4 : decode method_2_code 4 = .ok (.iand, 1) := by decide +kernel
theorem d1_5 : decode method_2_code 5 = .ok (.ifCond .eq 6, 3) := by decide +kernel
theorem d1_8 : decode method_2_code 8 = .ok (.bipush 32, 2) := by decide +kernel
theorem d1_10 : decode method_2_code 10 = .ok (.ireturn, 1) := by decide +kernel
theorem d1_11 : decode method_2_code 11 = .ok (.iload_n 0, 1) := by decide +kernel
theorem d1_12 : decode method_2_code 12 = .ok (.sipush 255, 3) := by decide +kernel
theorem d1_15 : decode method_2_code 15 = .ok (.iand, 1) := by decide +kernel
theorem d1_16 : decode method_2_code 16 = .ok (.i2c, 1) := by decide +kernel
theorem d1_17 : decode method_2_code 17 = .ok (.ireturn, 1) := by decide +kernel
set_option maxRecDepth 65536 in
set_option maxHeartbeats 40000000 in
theorem rm1 (l : Launch) (Z : State) (a0 : Array Value) (hw : ∀ d ∈ tables_1, d.before a0 Z = true) (x : Int32) (h0 : Heap) (n0 : Nat)  :
    OMeets l Z (⟨"com/example/lean_lock/leanlock/redis/ErrorReplyCodePinLaw", "draw", "(I)C"⟩ : MethodName) [] method_2_code 1 (some .char) ({ frames := 0, cells := 0, slots := 0, locals := 0 } : Room) #[(.int x)] h0 n0 (fun v h => h0 = h ∧ ∃ g, v = some (.int g) ∧ own_ok g) := by
  refine o_enter (Z := Z) (plainFor_of_name pn_com_example_lean_lock_leanlock_redis_ErrorReplyCodePinLaw) ?_
  intro p e s m below meth c T0 X0
  refine OFin.cast (g' := (mkF m 0 #[.val (.int x)] [])) (by first | (simp [entryFrame, mkF, argsToLocals, Value.category]; done) | rfl) ?_
  refine X0.step (fun hA hx hq t_ k_ => XS.iloadN hA hx rfl (hb hq d1_0) rfl k_) ?_
  show OFin _ _ _ _ _ _ T0 (mkF m 1 #[.val (.int x)] [(.int x)])
  refine X0.step (fun hA hx hq t_ k_ => XS.sipush hA hx rfl (hb hq d1_1) k_) ?_
  show OFin _ _ _ _ _ _ T0 (mkF m 4 #[.val (.int x)] [(.int (256 : Int32)), (.int x)])
  refine X0.step (fun hA hx hq t_ k_ => XS.iand hA hx rfl (hb hq d1_4) rfl k_) ?_
  show OFin _ _ _ _ _ _ T0 (mkF m 5 #[.val (.int x)] [(.int (x &&& (256 : Int32)))])
  by_cases c : (x &&& (256 : Int32)) = (0 : Int32)
  · refine X0.step (fun hA hx hq t_ k_ => XS.ifYes hA hx rfl (pc0 := 5) (pc' := 11) rfl (hb hq d1_5) rfl ((if0 _ _).trans (teq (c)).1) (by decide) (by decide) k_) ?_
    show OFin _ _ _ _ _ _ T0 (mkF m 11 #[.val (.int x)] [])
    have hv := own_c8 x
    refine X0.step (fun hA hx hq t_ k_ => XS.iloadN hA hx rfl (hb hq d1_11) rfl k_) ?_
    show OFin _ _ _ _ _ _ T0 (mkF m 12 #[.val (.int x)] [(.int x)])
    refine X0.step (fun hA hx hq t_ k_ => XS.sipush hA hx rfl (hb hq d1_12) k_) ?_
    show OFin _ _ _ _ _ _ T0 (mkF m 15 #[.val (.int x)] [(.int (255 : Int32)), (.int x)])
    refine X0.step (fun hA hx hq t_ k_ => XS.iand hA hx rfl (hb hq d1_15) rfl k_) ?_
    show OFin _ _ _ _ _ _ T0 (mkF m 16 #[.val (.int x)] [(.int (x &&& (255 : Int32)))])
    refine X0.step (fun hA hx hq t_ k_ => XS.i2c hA hx rfl (hb hq d1_16) rfl k_) ?_
    show OFin _ _ _ _ _ _ T0 (mkF m 17 #[.val (.int x)] [(.int ((x &&& (255 : Int32)).toUInt32.toUInt16.toUInt32.toInt32))])
    exact X0.retN (by simp) d1_17 (oN (by decide) (by decide)) (⟨rfl, _, by rw [own_narC _ hv.1 (by have := hv.2; omega)], hv⟩)
  · refine X0.step (fun hA hx hq t_ k_ => XS.ifNo hA hx rfl (hb hq d1_5) rfl ((if0 _ _).trans (feq (c)).1) k_) ?_
    show OFin _ _ _ _ _ _ T0 (mkF m 8 #[.val (.int x)] [])
    refine X0.step (fun hA hx hq t_ k_ => XS.bipush hA hx rfl (hb hq d1_8) k_) ?_
    show OFin _ _ _ _ _ _ T0 (mkF m 10 #[.val (.int x)] [(.int (32 : Int32))])
    exact X0.retN (by simp) d1_10 (oN (by decide) (by decide)) (⟨rfl, 32, rfl, by unfold own_ok; decide⟩)
theorem d2_0 : decode method_3_code 0 = .ok (.iload_n 0, 1) := by decide +kernel
theorem d2_1 : decode method_3_code 1 = .ok (.ifCond .ne 7, 3) := by decide +kernel
theorem d2_4 : decode method_3_code 4 = .ok (.iconst 0, 1) := by decide +kernel
theorem d2_5 : decode method_3_code 5 = .ok (.newarray .char, 2) := by decide +kernel
theorem d2_7 : decode method_3_code 7 = .ok (.areturn, 1) := by decide +kernel
theorem d2_8 : decode method_3_code 8 = .ok (.iload_n 0, 1) := by decide +kernel
theorem d2_9 : decode method_3_code 9 = .ok (.iconst 1, 1) := by decide +kernel
theorem d2_10 : decode method_3_code 10 = .ok (.if_icmp .ne 11, 3) := by decide +kernel
theorem d2_13 : decode method_3_code 13 = .ok (.iconst 1, 1) := by decide +kernel
theorem d2_14 : decode method_3_code 14 = .ok (.newarray .char, 2) := by decide +kernel
theorem d2_16 : decode method_3_code 16 = .ok (.dup, 1) := by decide +kernel
theorem d2_17 : decode method_3_code 17 = .ok (.iconst 0, 1) := by decide +kernel
theorem d2_18 : decode method_3_code 18 = .ok (.iload_n 1, 1) := by decide +kernel
theorem d2_19 : decode method_3_code 19 = .ok (.castore, 1) := by decide +kernel
theorem d2_20 : decode method_3_code 20 = .ok (.areturn, 1) := by decide +kernel
theorem d2_21 : decode method_3_code 21 = .ok (.iload_n 0, 1) := by decide +kernel
theorem d2_22 : decode method_3_code 22 = .ok (.iconst 2, 1) := by decide +kernel
theorem d2_23 : decode method_3_code 23 = .ok (.if_icmp .ne 15, 3) := by decide +kernel
theorem d2_26 : decode method_3_code 26 = .ok (.iconst 2, 1) := by decide +kernel
theorem d2_27 : decode method_3_code 27 = .ok (.newarray .char, 2) := by decide +kernel
theorem d2_29 : decode method_3_code 29 = .ok (.dup, 1) := by decide +kernel
theorem d2_30 : decode method_3_code 30 = .ok (.iconst 0, 1) := by decide +kernel
theorem d2_31 : decode method_3_code 31 = .ok (.iload_n 1, 1) := by decide +kernel
theorem d2_32 : decode method_3_code 32 = .ok (.castore, 1) := by decide +kernel
theorem d2_33 : decode method_3_code 33 = .ok (.dup, 1) := by decide +kernel
theorem d2_34 : decode method_3_code 34 = .ok (.iconst 1, 1) := by decide +kernel
theorem d2_35 : decode method_3_code 35 = .ok (.iload_n 2, 1) := by decide +kernel
theorem d2_36 : decode method_3_code 36 = .ok (.castore, 1) := by decide +kernel
theorem d2_37 : decode method_3_code 37 = .ok (.areturn, 1) := by decide +kernel
theorem d2_38 : decode method_3_code 38 = .ok (.iload_n 0, 1) := by decide +kernel
theorem d2_39 : decode method_3_code 39 = .ok (.iconst 3, 1) := by decide +kernel
theorem d2_40 : decode method_3_code 40 = .ok (.if_icmp .ne 19, 3) := by decide +kernel
theorem d2_43 : decode method_3_code 43 = .ok (.iconst 3, 1) := by decide +kernel
theorem d2_44 : decode method_3_code 44 = .ok (.newarray .char, 2) := by decide +kernel
theorem d2_46 : decode method_3_code 46 = .ok (.dup, 1) := by decide +kernel
theorem d2_47 : decode method_3_code 47 = .ok (.iconst 0, 1) := by decide +kernel
theorem d2_48 : decode method_3_code 48 = .ok (.iload_n 1, 1) := by decide +kernel
theorem d2_49 : decode method_3_code 49 = .ok (.castore, 1) := by decide +kernel
theorem d2_50 : decode method_3_code 50 = .ok (.dup, 1) := by decide +kernel
theorem d2_51 : decode method_3_code 51 = .ok (.iconst 1, 1) := by decide +kernel
theorem d2_52 : decode method_3_code 52 = .ok (.iload_n 2, 1) := by decide +kernel
theorem d2_53 : decode method_3_code 53 = .ok (.castore, 1) := by decide +kernel
theorem d2_54 : decode method_3_code 54 = .ok (.dup, 1) := by decide +kernel
theorem d2_55 : decode method_3_code 55 = .ok (.iconst 2, 1) := by decide +kernel
theorem d2_56 : decode method_3_code 56 = .ok (.iload_n 3, 1) := by decide +kernel
theorem d2_57 : decode method_3_code 57 = .ok (.castore, 1) := by decide +kernel
theorem d2_58 : decode method_3_code 58 = .ok (.areturn, 1) := by decide +kernel
theorem d2_59 : decode method_3_code 59 = .ok (.iconst 4, 1) := by decide +kernel
theorem d2_60 : decode method_3_code 60 = .ok (.newarray .char, 2) := by decide +kernel
theorem d2_62 : decode method_3_code 62 = .ok (.dup, 1) := by decide +kernel
theorem d2_63 : decode method_3_code 63 = .ok (.iconst 0, 1) := by decide +kernel
theorem d2_64 : decode method_3_code 64 = .ok (.iload_n 1, 1) := by decide +kernel
theorem d2_65 : decode method_3_code 65 = .ok (.castore, 1) := by decide +kernel
theorem d2_66 : decode method_3_code 66 = .ok (.dup, 1) := by decide +kernel
theorem d2_67 : decode method_3_code 67 = .ok (.iconst 1, 1) := by decide +kernel
theorem d2_68 : decode method_3_code 68 = .ok (.iload_n 2, 1) := by decide +kernel
theorem d2_69 : decode method_3_code 69 = .ok (.castore, 1) := by decide +kernel
theorem d2_70 : decode method_3_code 70 = .ok (.dup, 1) := by decide +kernel
theorem d2_71 : decode method_3_code 71 = .ok (.iconst 2, 1) := by decide +kernel
theorem d2_72 : decode method_3_code 72 = .ok (.iload_n 3, 1) := by decide +kernel
theorem d2_73 : decode method_3_code 73 = .ok (.castore, 1) := by decide +kernel
theorem d2_74 : decode method_3_code 74 = .ok (.dup, 1) := by decide +kernel
theorem d2_75 : decode method_3_code 75 = .ok (.iconst 3, 1) := by decide +kernel
theorem d2_76 : decode method_3_code 76 = .ok (.iload 4, 2) := by decide +kernel
theorem d2_78 : decode method_3_code 78 = .ok (.castore, 1) := by decide +kernel
theorem d2_79 : decode method_3_code 79 = .ok (.areturn, 1) := by decide +kernel
set_option maxRecDepth 65536 in
set_option maxHeartbeats 40000000 in
theorem rm2 (l : Launch) (Z : State) (a0 : Array Value) (hw : ∀ d ∈ tables_1, d.before a0 Z = true) (N : Nat) (c0 c1 c2 c3 : Int32) (h0 : Heap) (n0 : Nat) (hN : N ≤ 4) (k0 : own_ok c0) (k1 : own_ok c1) (k2 : own_ok c2) (k3 : own_ok c3) (Z0 : n0 ≤ h0.size) :
    OMeets l Z (⟨"com/example/lean_lock/leanlock/redis/ErrorReplyCodePinLaw", "make", "(ICCCC)[C"⟩ : MethodName) [] method_3_code 5 (some (.array .char)) ({ frames := 0, cells := 1, slots := 4, locals := 0 } : Room) #[(.int (Int32.ofNat N)), (.int c0), (.int c1), (.int c2), (.int c3)] h0 n0 (fun v h => ∃ b, v = some (.ref b) ∧ OArr Z h b .char N (fun j => .int ((own_f c0 c1 c2 c3) j)) ∧ Keep h0 h []) := by
  refine o_enter (Z := Z) (plainFor_of_name pn_com_example_lean_lock_leanlock_redis_ErrorReplyCodePinLaw) ?_
  intro p e s m below meth c T0 X0
  refine OFin.cast (g' := (mkF m 0 #[.val (.int (Int32.ofNat N)), .val (.int c0), .val (.int c1), .val (.int c2), .val (.int c3)] [])) (by first | (simp [entryFrame, mkF, argsToLocals, Value.category]; done) | rfl) ?_
  rcases (by omega : N = 0 ∨ N = 1 ∨ N = 2 ∨ N = 3 ∨ N = 4) with rfl | rfl | rfl | rfl | rfl
  · show OFin _ _ _ _ _ _ T0 (mkF m 0 #[.val (.int (0 : Int32)), .val (.int c0), .val (.int c1), .val (.int c2), .val (.int c3)] [])
    refine X0.step (fun hA hx hq t_ k_ => XS.iloadN hA hx rfl (hb hq d2_0) rfl k_) ?_
    show OFin _ _ _ _ _ _ T0 (mkF m 1 #[.val (.int (0 : Int32)), .val (.int c0), .val (.int c1), .val (.int c2), .val (.int c3)] [(.int (0 : Int32))])
    refine X0.step (fun hA hx hq t_ k_ => XS.ifNo hA hx rfl (hb hq d2_1) rfl ((if0 _ _).trans (teq ((rfl : (0 : Int32) = (0 : Int32)))).2) k_) ?_
    show OFin _ _ _ _ _ _ T0 (mkF m 4 #[.val (.int (0 : Int32)), .val (.int c0), .val (.int c1), .val (.int c2), .val (.int c3)] [])
    refine X0.step (fun hA hx hq t_ k_ => XS.iconst hA hx rfl (hb hq d2_4) k_) ?_
    show OFin _ _ _ _ _ _ T0 (mkF m 5 #[.val (.int (0 : Int32)), .val (.int c0), .val (.int c1), .val (.int c2), .val (.int c3)] [(.int (0 : Int32))])
    refine X0.newP (hw _ (List.mem_of_getElem? (i := 11) rfl)) (g := (mkF m 5 #[.val (.int (0 : Int32)), .val (.int c0), .val (.int c1), .val (.int c2), .val (.int c3)] [(.int (0 : Int32))])) rfl d2_5 rfl (by decide) (cap := 0) (by decide) (by decide) (by decide) (by decide) (ad := "[C") (by first | rfl | decide) ?_
    intro T1 h1 k1 b1 gb1 X1 E1 A1 G1
    show OFin _ _ _ _ _ _ T1 (mkF m 7 #[.val (.int (0 : Int32)), .val (.int c0), .val (.int c1), .val (.int c2), .val (.int c3)] [(.ref b1)])
    have V0 := OArr.new A1
    have hB : n0 ≤ b1 := by rw [gb1]; exact Z0
    have VC : OArr Z h1 b1 .char 0 (fun j => .int ((own_f c0 c1 c2 c3) j)) := V0.congr fun j hj => by
      have hj' : j < 0 := hj
      exact absurd hj' (Nat.not_lt_zero j)
    exact X1.retR rfl rfl d2_7 (oN (by decide) (by decide)) (⟨b1, rfl, VC, ((Keep.refl h0 []).ext E1)⟩)
  · show OFin _ _ _ _ _ _ T0 (mkF m 0 #[.val (.int (1 : Int32)), .val (.int c0), .val (.int c1), .val (.int c2), .val (.int c3)] [])
    refine X0.step (fun hA hx hq t_ k_ => XS.iloadN hA hx rfl (hb hq d2_0) rfl k_) ?_
    show OFin _ _ _ _ _ _ T0 (mkF m 1 #[.val (.int (1 : Int32)), .val (.int c0), .val (.int c1), .val (.int c2), .val (.int c3)] [(.int (1 : Int32))])
    refine X0.step (fun hA hx hq t_ k_ => XS.ifYes hA hx rfl (pc0 := 1) (pc' := 8) rfl (hb hq d2_1) rfl ((if0 _ _).trans (feq ((by decide))).2) (by decide) (by decide) k_) ?_
    show OFin _ _ _ _ _ _ T0 (mkF m 8 #[.val (.int (1 : Int32)), .val (.int c0), .val (.int c1), .val (.int c2), .val (.int c3)] [])
    refine X0.step (fun hA hx hq t_ k_ => XS.iloadN hA hx rfl (hb hq d2_8) rfl k_) ?_
    show OFin _ _ _ _ _ _ T0 (mkF m 9 #[.val (.int (1 : Int32)), .val (.int c0), .val (.int c1), .val (.int c2), .val (.int c3)] [(.int (1 : Int32))])
    refine X0.step (fun hA hx hq t_ k_ => XS.iconst hA hx rfl (hb hq d2_9) k_) ?_
    show OFin _ _ _ _ _ _ T0 (mkF m 10 #[.val (.int (1 : Int32)), .val (.int c0), .val (.int c1), .val (.int c2), .val (.int c3)] [(.int (1 : Int32)), (.int (1 : Int32))])
    refine X0.step (fun hA hx hq t_ k_ => XS.icmpNo hA hx rfl (hb hq d2_10) rfl (teq ((rfl : (1 : Int32) = (1 : Int32)))).2 k_) ?_
    show OFin _ _ _ _ _ _ T0 (mkF m 13 #[.val (.int (1 : Int32)), .val (.int c0), .val (.int c1), .val (.int c2), .val (.int c3)] [])
    refine X0.step (fun hA hx hq t_ k_ => XS.iconst hA hx rfl (hb hq d2_13) k_) ?_
    show OFin _ _ _ _ _ _ T0 (mkF m 14 #[.val (.int (1 : Int32)), .val (.int c0), .val (.int c1), .val (.int c2), .val (.int c3)] [(.int (1 : Int32))])
    refine X0.newP (hw _ (List.mem_of_getElem? (i := 11) rfl)) (g := (mkF m 14 #[.val (.int (1 : Int32)), .val (.int c0), .val (.int c1), .val (.int c2), .val (.int c3)] [(.int (1 : Int32))])) rfl d2_14 rfl (by decide) (cap := 1) (by decide) (by decide) (by decide) (by decide) (ad := "[C") (by first | rfl | decide) ?_
    intro T2 h2 k2 b2 gb2 X2 E2 A2 G2
    show OFin _ _ _ _ _ _ T2 (mkF m 16 #[.val (.int (1 : Int32)), .val (.int c0), .val (.int c1), .val (.int c2), .val (.int c3)] [(.ref b2)])
    have V0 := OArr.new A2
    have hB : n0 ≤ b2 := by rw [gb2]; exact Z0
    refine X2.step (fun hA hx hq t_ k_ => XS.dup hA hx rfl (hb hq d2_16) rfl rfl k_) ?_
    show OFin _ _ _ _ _ _ T2 (mkF m 17 #[.val (.int (1 : Int32)), .val (.int c0), .val (.int c1), .val (.int c2), .val (.int c3)] [(.ref b2), (.ref b2)])
    refine X2.step (fun hA hx hq t_ k_ => XS.iconst hA hx rfl (hb hq d2_17) k_) ?_
    show OFin _ _ _ _ _ _ T2 (mkF m 18 #[.val (.int (1 : Int32)), .val (.int c0), .val (.int c1), .val (.int c2), .val (.int c3)] [(.int (0 : Int32)), (.ref b2), (.ref b2)])
    refine X2.step (fun hA hx hq t_ k_ => XS.iloadN hA hx rfl (hb hq d2_18) rfl k_) ?_
    show OFin _ _ _ _ _ _ T2 (mkF m 19 #[.val (.int (1 : Int32)), .val (.int c0), .val (.int c1), .val (.int c2), .val (.int c3)] [(.int c0), (.int (0 : Int32)), (.ref b2), (.ref b2)])
    obtain ⟨q0, Ar0, Sr0, Hr0⟩ := id V0
    refine X2.stC Ar0 (by rw [Sr0]; decide) (hB) (g := (mkF m 19 #[.val (.int (1 : Int32)), .val (.int c0), .val (.int c1), .val (.int c2), .val (.int c3)] [(.int c0), (.int (0 : Int32)), (.ref b2), (.ref b2)])) rfl rfl d2_19 ?_
    intro T3 h3 X3 W3
    show OFin _ _ _ _ _ _ T3 (mkF m 20 #[.val (.int (1 : Int32)), .val (.int c0), .val (.int c1), .val (.int c2), .val (.int c3)] [(.ref b2)])
    rw [own_narC _ (by have := k0.1; omega) (by have := k0.2; omega)] at W3
    have V1 := V0.set W3
    have VC : OArr Z h3 b2 .char 1 (fun j => .int ((own_f c0 c1 c2 c3) j)) := V1.congr fun j hj => by
      have hj' : j < 1 := hj
      match j, hj' with
      | 0, _ => rfl
    exact X3.retR rfl rfl d2_20 (oN (by decide) (by decide)) (⟨b2, rfl, VC, (((Keep.refl h0 []).ext E2).wr W3 (Or.inr (Nat.le_of_eq gb2.symm)))⟩)
  · show OFin _ _ _ _ _ _ T0 (mkF m 0 #[.val (.int (2 : Int32)), .val (.int c0), .val (.int c1), .val (.int c2), .val (.int c3)] [])
    refine X0.step (fun hA hx hq t_ k_ => XS.iloadN hA hx rfl (hb hq d2_0) rfl k_) ?_
    show OFin _ _ _ _ _ _ T0 (mkF m 1 #[.val (.int (2 : Int32)), .val (.int c0), .val (.int c1), .val (.int c2), .val (.int c3)] [(.int (2 : Int32))])
    refine X0.step (fun hA hx hq t_ k_ => XS.ifYes hA hx rfl (pc0 := 1) (pc' := 8) rfl (hb hq d2_1) rfl ((if0 _ _).trans (feq ((by decide))).2) (by decide) (by decide) k_) ?_
    show OFin _ _ _ _ _ _ T0 (mkF m 8 #[.val (.int (2 : Int32)), .val (.int c0), .val (.int c1), .val (.int c2), .val (.int c3)] [])
    refine X0.step (fun hA hx hq t_ k_ => XS.iloadN hA hx rfl (hb hq d2_8) rfl k_) ?_
    show OFin _ _ _ _ _ _ T0 (mkF m 9 #[.val (.int (2 : Int32)), .val (.int c0), .val (.int c1), .val (.int c2), .val (.int c3)] [(.int (2 : Int32))])
    refine X0.step (fun hA hx hq t_ k_ => XS.iconst hA hx rfl (hb hq d2_9) k_) ?_
    show OFin _ _ _ _ _ _ T0 (mkF m 10 #[.val (.int (2 : Int32)), .val (.int c0), .val (.int c1), .val (.int c2), .val (.int c3)] [(.int (1 : Int32)), (.int (2 : Int32))])
    refine X0.step (fun hA hx hq t_ k_ => XS.icmpYes hA hx rfl (pc0 := 10) (pc' := 21) rfl (hb hq d2_10) rfl (feq ((by decide))).2 (by decide) (by decide) k_) ?_
    show OFin _ _ _ _ _ _ T0 (mkF m 21 #[.val (.int (2 : Int32)), .val (.int c0), .val (.int c1), .val (.int c2), .val (.int c3)] [])
    refine X0.step (fun hA hx hq t_ k_ => XS.iloadN hA hx rfl (hb hq d2_21) rfl k_) ?_
    show OFin _ _ _ _ _ _ T0 (mkF m 22 #[.val (.int (2 : Int32)), .val (.int c0), .val (.int c1), .val (.int c2), .val (.int c3)] [(.int (2 : Int32))])
    refine X0.step (fun hA hx hq t_ k_ => XS.iconst hA hx rfl (hb hq d2_22) k_) ?_
    show OFin _ _ _ _ _ _ T0 (mkF m 23 #[.val (.int (2 : Int32)), .val (.int c0), .val (.int c1), .val (.int c2), .val (.int c3)] [(.int (2 : Int32)), (.int (2 : Int32))])
    refine X0.step (fun hA hx hq t_ k_ => XS.icmpNo hA hx rfl (hb hq d2_23) rfl (teq ((rfl : (2 : Int32) = (2 : Int32)))).2 k_) ?_
    show OFin _ _ _ _ _ _ T0 (mkF m 26 #[.val (.int (2 : Int32)), .val (.int c0), .val (.int c1), .val (.int c2), .val (.int c3)] [])
    refine X0.step (fun hA hx hq t_ k_ => XS.iconst hA hx rfl (hb hq d2_26) k_) ?_
    show OFin _ _ _ _ _ _ T0 (mkF m 27 #[.val (.int (2 : Int32)), .val (.int c0), .val (.int c1), .val (.int c2), .val (.int c3)] [(.int (2 : Int32))])
    refine X0.newP (hw _ (List.mem_of_getElem? (i := 11) rfl)) (g := (mkF m 27 #[.val (.int (2 : Int32)), .val (.int c0), .val (.int c1), .val (.int c2), .val (.int c3)] [(.int (2 : Int32))])) rfl d2_27 rfl (by decide) (cap := 2) (by decide) (by decide) (by decide) (by decide) (ad := "[C") (by first | rfl | decide) ?_
    intro T4 h4 k4 b4 gb4 X4 E4 A4 G4
    show OFin _ _ _ _ _ _ T4 (mkF m 29 #[.val (.int (2 : Int32)), .val (.int c0), .val (.int c1), .val (.int c2), .val (.int c3)] [(.ref b4)])
    have V0 := OArr.new A4
    have hB : n0 ≤ b4 := by rw [gb4]; exact Z0
    refine X4.step (fun hA hx hq t_ k_ => XS.dup hA hx rfl (hb hq d2_29) rfl rfl k_) ?_
    show OFin _ _ _ _ _ _ T4 (mkF m 30 #[.val (.int (2 : Int32)), .val (.int c0), .val (.int c1), .val (.int c2), .val (.int c3)] [(.ref b4), (.ref b4)])
    refine X4.step (fun hA hx hq t_ k_ => XS.iconst hA hx rfl (hb hq d2_30) k_) ?_
    show OFin _ _ _ _ _ _ T4 (mkF m 31 #[.val (.int (2 : Int32)), .val (.int c0), .val (.int c1), .val (.int c2), .val (.int c3)] [(.int (0 : Int32)), (.ref b4), (.ref b4)])
    refine X4.step (fun hA hx hq t_ k_ => XS.iloadN hA hx rfl (hb hq d2_31) rfl k_) ?_
    show OFin _ _ _ _ _ _ T4 (mkF m 32 #[.val (.int (2 : Int32)), .val (.int c0), .val (.int c1), .val (.int c2), .val (.int c3)] [(.int c0), (.int (0 : Int32)), (.ref b4), (.ref b4)])
    obtain ⟨q0, Ar0, Sr0, Hr0⟩ := id V0
    refine X4.stC Ar0 (by rw [Sr0]; decide) (hB) (g := (mkF m 32 #[.val (.int (2 : Int32)), .val (.int c0), .val (.int c1), .val (.int c2), .val (.int c3)] [(.int c0), (.int (0 : Int32)), (.ref b4), (.ref b4)])) rfl rfl d2_32 ?_
    intro T5 h5 X5 W5
    show OFin _ _ _ _ _ _ T5 (mkF m 33 #[.val (.int (2 : Int32)), .val (.int c0), .val (.int c1), .val (.int c2), .val (.int c3)] [(.ref b4)])
    rw [own_narC _ (by have := k0.1; omega) (by have := k0.2; omega)] at W5
    have V1 := V0.set W5
    refine X5.step (fun hA hx hq t_ k_ => XS.dup hA hx rfl (hb hq d2_33) rfl rfl k_) ?_
    show OFin _ _ _ _ _ _ T5 (mkF m 34 #[.val (.int (2 : Int32)), .val (.int c0), .val (.int c1), .val (.int c2), .val (.int c3)] [(.ref b4), (.ref b4)])
    refine X5.step (fun hA hx hq t_ k_ => XS.iconst hA hx rfl (hb hq d2_34) k_) ?_
    show OFin _ _ _ _ _ _ T5 (mkF m 35 #[.val (.int (2 : Int32)), .val (.int c0), .val (.int c1), .val (.int c2), .val (.int c3)] [(.int (1 : Int32)), (.ref b4), (.ref b4)])
    refine X5.step (fun hA hx hq t_ k_ => XS.iloadN hA hx rfl (hb hq d2_35) rfl k_) ?_
    show OFin _ _ _ _ _ _ T5 (mkF m 36 #[.val (.int (2 : Int32)), .val (.int c0), .val (.int c1), .val (.int c2), .val (.int c3)] [(.int c1), (.int (1 : Int32)), (.ref b4), (.ref b4)])
    obtain ⟨q1, Ar1, Sr1, Hr1⟩ := id V1
    refine X5.stC Ar1 (by rw [Sr1]; decide) (hB) (g := (mkF m 36 #[.val (.int (2 : Int32)), .val (.int c0), .val (.int c1), .val (.int c2), .val (.int c3)] [(.int c1), (.int (1 : Int32)), (.ref b4), (.ref b4)])) rfl rfl d2_36 ?_
    intro T6 h6 X6 W6
    show OFin _ _ _ _ _ _ T6 (mkF m 37 #[.val (.int (2 : Int32)), .val (.int c0), .val (.int c1), .val (.int c2), .val (.int c3)] [(.ref b4)])
    rw [own_narC _ (by have := k1.1; omega) (by have := k1.2; omega)] at W6
    have V2 := V1.set W6
    have VC : OArr Z h6 b4 .char 2 (fun j => .int ((own_f c0 c1 c2 c3) j)) := V2.congr fun j hj => by
      have hj' : j < 2 := hj
      match j, hj' with
      | 0, _ => rfl
      | 1, _ => rfl
    exact X6.retR rfl rfl d2_37 (oN (by decide) (by decide)) (⟨b4, rfl, VC, ((((Keep.refl h0 []).ext E4).wr W5 (Or.inr (Nat.le_of_eq gb4.symm))).wr W6 (Or.inr (Nat.le_of_eq gb4.symm)))⟩)
  · show OFin _ _ _ _ _ _ T0 (mkF m 0 #[.val (.int (3 : Int32)), .val (.int c0), .val (.int c1), .val (.int c2), .val (.int c3)] [])
    refine X0.step (fun hA hx hq t_ k_ => XS.iloadN hA hx rfl (hb hq d2_0) rfl k_) ?_
    show OFin _ _ _ _ _ _ T0 (mkF m 1 #[.val (.int (3 : Int32)), .val (.int c0), .val (.int c1), .val (.int c2), .val (.int c3)] [(.int (3 : Int32))])
    refine X0.step (fun hA hx hq t_ k_ => XS.ifYes hA hx rfl (pc0 := 1) (pc' := 8) rfl (hb hq d2_1) rfl ((if0 _ _).trans (feq ((by decide))).2) (by decide) (by decide) k_) ?_
    show OFin _ _ _ _ _ _ T0 (mkF m 8 #[.val (.int (3 : Int32)), .val (.int c0), .val (.int c1), .val (.int c2), .val (.int c3)] [])
    refine X0.step (fun hA hx hq t_ k_ => XS.iloadN hA hx rfl (hb hq d2_8) rfl k_) ?_
    show OFin _ _ _ _ _ _ T0 (mkF m 9 #[.val (.int (3 : Int32)), .val (.int c0), .val (.int c1), .val (.int c2), .val (.int c3)] [(.int (3 : Int32))])
    refine X0.step (fun hA hx hq t_ k_ => XS.iconst hA hx rfl (hb hq d2_9) k_) ?_
    show OFin _ _ _ _ _ _ T0 (mkF m 10 #[.val (.int (3 : Int32)), .val (.int c0), .val (.int c1), .val (.int c2), .val (.int c3)] [(.int (1 : Int32)), (.int (3 : Int32))])
    refine X0.step (fun hA hx hq t_ k_ => XS.icmpYes hA hx rfl (pc0 := 10) (pc' := 21) rfl (hb hq d2_10) rfl (feq ((by decide))).2 (by decide) (by decide) k_) ?_
    show OFin _ _ _ _ _ _ T0 (mkF m 21 #[.val (.int (3 : Int32)), .val (.int c0), .val (.int c1), .val (.int c2), .val (.int c3)] [])
    refine X0.step (fun hA hx hq t_ k_ => XS.iloadN hA hx rfl (hb hq d2_21) rfl k_) ?_
    show OFin _ _ _ _ _ _ T0 (mkF m 22 #[.val (.int (3 : Int32)), .val (.int c0), .val (.int c1), .val (.int c2), .val (.int c3)] [(.int (3 : Int32))])
    refine X0.step (fun hA hx hq t_ k_ => XS.iconst hA hx rfl (hb hq d2_22) k_) ?_
    show OFin _ _ _ _ _ _ T0 (mkF m 23 #[.val (.int (3 : Int32)), .val (.int c0), .val (.int c1), .val (.int c2), .val (.int c3)] [(.int (2 : Int32)), (.int (3 : Int32))])
    refine X0.step (fun hA hx hq t_ k_ => XS.icmpYes hA hx rfl (pc0 := 23) (pc' := 38) rfl (hb hq d2_23) rfl (feq ((by decide))).2 (by decide) (by decide) k_) ?_
    show OFin _ _ _ _ _ _ T0 (mkF m 38 #[.val (.int (3 : Int32)), .val (.int c0), .val (.int c1), .val (.int c2), .val (.int c3)] [])
    refine X0.step (fun hA hx hq t_ k_ => XS.iloadN hA hx rfl (hb hq d2_38) rfl k_) ?_
    show OFin _ _ _ _ _ _ T0 (mkF m 39 #[.val (.int (3 : Int32)), .val (.int c0), .val (.int c1), .val (.int c2), .val (.int c3)] [(.int (3 : Int32))])
    refine X0.step (fun hA hx hq t_ k_ => XS.iconst hA hx rfl (hb hq d2_39) k_) ?_
    show OFin _ _ _ _ _ _ T0 (mkF m 40 #[.val (.int (3 : Int32)), .val (.int c0), .val (.int c1), .val (.int c2), .val (.int c3)] [(.int (3 : Int32)), (.int (3 : Int32))])
    refine X0.step (fun hA hx hq t_ k_ => XS.icmpNo hA hx rfl (hb hq d2_40) rfl (teq ((rfl : (3 : Int32) = (3 : Int32)))).2 k_) ?_
    show OFin _ _ _ _ _ _ T0 (mkF m 43 #[.val (.int (3 : Int32)), .val (.int c0), .val (.int c1), .val (.int c2), .val (.int c3)] [])
    refine X0.step (fun hA hx hq t_ k_ => XS.iconst hA hx rfl (hb hq d2_43) k_) ?_
    show OFin _ _ _ _ _ _ T0 (mkF m 44 #[.val (.int (3 : Int32)), .val (.int c0), .val (.int c1), .val (.int c2), .val (.int c3)] [(.int (3 : Int32))])
    refine X0.newP (hw _ (List.mem_of_getElem? (i := 11) rfl)) (g := (mkF m 44 #[.val (.int (3 : Int32)), .val (.int c0), .val (.int c1), .val (.int c2), .val (.int c3)] [(.int (3 : Int32))])) rfl d2_44 rfl (by decide) (cap := 3) (by decide) (by decide) (by decide) (by decide) (ad := "[C") (by first | rfl | decide) ?_
    intro T7 h7 k7 b7 gb7 X7 E7 A7 G7
    show OFin _ _ _ _ _ _ T7 (mkF m 46 #[.val (.int (3 : Int32)), .val (.int c0), .val (.int c1), .val (.int c2), .val (.int c3)] [(.ref b7)])
    have V0 := OArr.new A7
    have hB : n0 ≤ b7 := by rw [gb7]; exact Z0
    refine X7.step (fun hA hx hq t_ k_ => XS.dup hA hx rfl (hb hq d2_46) rfl rfl k_) ?_
    show OFin _ _ _ _ _ _ T7 (mkF m 47 #[.val (.int (3 : Int32)), .val (.int c0), .val (.int c1), .val (.int c2), .val (.int c3)] [(.ref b7), (.ref b7)])
    refine X7.step (fun hA hx hq t_ k_ => XS.iconst hA hx rfl (hb hq d2_47) k_) ?_
    show OFin _ _ _ _ _ _ T7 (mkF m 48 #[.val (.int (3 : Int32)), .val (.int c0), .val (.int c1), .val (.int c2), .val (.int c3)] [(.int (0 : Int32)), (.ref b7), (.ref b7)])
    refine X7.step (fun hA hx hq t_ k_ => XS.iloadN hA hx rfl (hb hq d2_48) rfl k_) ?_
    show OFin _ _ _ _ _ _ T7 (mkF m 49 #[.val (.int (3 : Int32)), .val (.int c0), .val (.int c1), .val (.int c2), .val (.int c3)] [(.int c0), (.int (0 : Int32)), (.ref b7), (.ref b7)])
    obtain ⟨q0, Ar0, Sr0, Hr0⟩ := id V0
    refine X7.stC Ar0 (by rw [Sr0]; decide) (hB) (g := (mkF m 49 #[.val (.int (3 : Int32)), .val (.int c0), .val (.int c1), .val (.int c2), .val (.int c3)] [(.int c0), (.int (0 : Int32)), (.ref b7), (.ref b7)])) rfl rfl d2_49 ?_
    intro T8 h8 X8 W8
    show OFin _ _ _ _ _ _ T8 (mkF m 50 #[.val (.int (3 : Int32)), .val (.int c0), .val (.int c1), .val (.int c2), .val (.int c3)] [(.ref b7)])
    rw [own_narC _ (by have := k0.1; omega) (by have := k0.2; omega)] at W8
    have V1 := V0.set W8
    refine X8.step (fun hA hx hq t_ k_ => XS.dup hA hx rfl (hb hq d2_50) rfl rfl k_) ?_
    show OFin _ _ _ _ _ _ T8 (mkF m 51 #[.val (.int (3 : Int32)), .val (.int c0), .val (.int c1), .val (.int c2), .val (.int c3)] [(.ref b7), (.ref b7)])
    refine X8.step (fun hA hx hq t_ k_ => XS.iconst hA hx rfl (hb hq d2_51) k_) ?_
    show OFin _ _ _ _ _ _ T8 (mkF m 52 #[.val (.int (3 : Int32)), .val (.int c0), .val (.int c1), .val (.int c2), .val (.int c3)] [(.int (1 : Int32)), (.ref b7), (.ref b7)])
    refine X8.step (fun hA hx hq t_ k_ => XS.iloadN hA hx rfl (hb hq d2_52) rfl k_) ?_
    show OFin _ _ _ _ _ _ T8 (mkF m 53 #[.val (.int (3 : Int32)), .val (.int c0), .val (.int c1), .val (.int c2), .val (.int c3)] [(.int c1), (.int (1 : Int32)), (.ref b7), (.ref b7)])
    obtain ⟨q1, Ar1, Sr1, Hr1⟩ := id V1
    refine X8.stC Ar1 (by rw [Sr1]; decide) (hB) (g := (mkF m 53 #[.val (.int (3 : Int32)), .val (.int c0), .val (.int c1), .val (.int c2), .val (.int c3)] [(.int c1), (.int (1 : Int32)), (.ref b7), (.ref b7)])) rfl rfl d2_53 ?_
    intro T9 h9 X9 W9
    show OFin _ _ _ _ _ _ T9 (mkF m 54 #[.val (.int (3 : Int32)), .val (.int c0), .val (.int c1), .val (.int c2), .val (.int c3)] [(.ref b7)])
    rw [own_narC _ (by have := k1.1; omega) (by have := k1.2; omega)] at W9
    have V2 := V1.set W9
    refine X9.step (fun hA hx hq t_ k_ => XS.dup hA hx rfl (hb hq d2_54) rfl rfl k_) ?_
    show OFin _ _ _ _ _ _ T9 (mkF m 55 #[.val (.int (3 : Int32)), .val (.int c0), .val (.int c1), .val (.int c2), .val (.int c3)] [(.ref b7), (.ref b7)])
    refine X9.step (fun hA hx hq t_ k_ => XS.iconst hA hx rfl (hb hq d2_55) k_) ?_
    show OFin _ _ _ _ _ _ T9 (mkF m 56 #[.val (.int (3 : Int32)), .val (.int c0), .val (.int c1), .val (.int c2), .val (.int c3)] [(.int (2 : Int32)), (.ref b7), (.ref b7)])
    refine X9.step (fun hA hx hq t_ k_ => XS.iloadN hA hx rfl (hb hq d2_56) rfl k_) ?_
    show OFin _ _ _ _ _ _ T9 (mkF m 57 #[.val (.int (3 : Int32)), .val (.int c0), .val (.int c1), .val (.int c2), .val (.int c3)] [(.int c2), (.int (2 : Int32)), (.ref b7), (.ref b7)])
    obtain ⟨q2, Ar2, Sr2, Hr2⟩ := id V2
    refine X9.stC Ar2 (by rw [Sr2]; decide) (hB) (g := (mkF m 57 #[.val (.int (3 : Int32)), .val (.int c0), .val (.int c1), .val (.int c2), .val (.int c3)] [(.int c2), (.int (2 : Int32)), (.ref b7), (.ref b7)])) rfl rfl d2_57 ?_
    intro T10 h10 X10 W10
    show OFin _ _ _ _ _ _ T10 (mkF m 58 #[.val (.int (3 : Int32)), .val (.int c0), .val (.int c1), .val (.int c2), .val (.int c3)] [(.ref b7)])
    rw [own_narC _ (by have := k2.1; omega) (by have := k2.2; omega)] at W10
    have V3 := V2.set W10
    have VC : OArr Z h10 b7 .char 3 (fun j => .int ((own_f c0 c1 c2 c3) j)) := V3.congr fun j hj => by
      have hj' : j < 3 := hj
      match j, hj' with
      | 0, _ => rfl
      | 1, _ => rfl
      | 2, _ => rfl
    exact X10.retR rfl rfl d2_58 (oN (by decide) (by decide)) (⟨b7, rfl, VC, (((((Keep.refl h0 []).ext E7).wr W8 (Or.inr (Nat.le_of_eq gb7.symm))).wr W9 (Or.inr (Nat.le_of_eq gb7.symm))).wr W10 (Or.inr (Nat.le_of_eq gb7.symm)))⟩)
  · show OFin _ _ _ _ _ _ T0 (mkF m 0 #[.val (.int (4 : Int32)), .val (.int c0), .val (.int c1), .val (.int c2), .val (.int c3)] [])
    refine X0.step (fun hA hx hq t_ k_ => XS.iloadN hA hx rfl (hb hq d2_0) rfl k_) ?_
    show OFin _ _ _ _ _ _ T0 (mkF m 1 #[.val (.int (4 : Int32)), .val (.int c0), .val (.int c1), .val (.int c2), .val (.int c3)] [(.int (4 : Int32))])
    refine X0.step (fun hA hx hq t_ k_ => XS.ifYes hA hx rfl (pc0 := 1) (pc' := 8) rfl (hb hq d2_1) rfl ((if0 _ _).trans (feq ((by decide))).2) (by decide) (by decide) k_) ?_
    show OFin _ _ _ _ _ _ T0 (mkF m 8 #[.val (.int (4 : Int32)), .val (.int c0), .val (.int c1), .val (.int c2), .val (.int c3)] [])
    refine X0.step (fun hA hx hq t_ k_ => XS.iloadN hA hx rfl (hb hq d2_8) rfl k_) ?_
    show OFin _ _ _ _ _ _ T0 (mkF m 9 #[.val (.int (4 : Int32)), .val (.int c0), .val (.int c1), .val (.int c2), .val (.int c3)] [(.int (4 : Int32))])
    refine X0.step (fun hA hx hq t_ k_ => XS.iconst hA hx rfl (hb hq d2_9) k_) ?_
    show OFin _ _ _ _ _ _ T0 (mkF m 10 #[.val (.int (4 : Int32)), .val (.int c0), .val (.int c1), .val (.int c2), .val (.int c3)] [(.int (1 : Int32)), (.int (4 : Int32))])
    refine X0.step (fun hA hx hq t_ k_ => XS.icmpYes hA hx rfl (pc0 := 10) (pc' := 21) rfl (hb hq d2_10) rfl (feq ((by decide))).2 (by decide) (by decide) k_) ?_
    show OFin _ _ _ _ _ _ T0 (mkF m 21 #[.val (.int (4 : Int32)), .val (.int c0), .val (.int c1), .val (.int c2), .val (.int c3)] [])
    refine X0.step (fun hA hx hq t_ k_ => XS.iloadN hA hx rfl (hb hq d2_21) rfl k_) ?_
    show OFin _ _ _ _ _ _ T0 (mkF m 22 #[.val (.int (4 : Int32)), .val (.int c0), .val (.int c1), .val (.int c2), .val (.int c3)] [(.int (4 : Int32))])
    refine X0.step (fun hA hx hq t_ k_ => XS.iconst hA hx rfl (hb hq d2_22) k_) ?_
    show OFin _ _ _ _ _ _ T0 (mkF m 23 #[.val (.int (4 : Int32)), .val (.int c0), .val (.int c1), .val (.int c2), .val (.int c3)] [(.int (2 : Int32)), (.int (4 : Int32))])
    refine X0.step (fun hA hx hq t_ k_ => XS.icmpYes hA hx rfl (pc0 := 23) (pc' := 38) rfl (hb hq d2_23) rfl (feq ((by decide))).2 (by decide) (by decide) k_) ?_
    show OFin _ _ _ _ _ _ T0 (mkF m 38 #[.val (.int (4 : Int32)), .val (.int c0), .val (.int c1), .val (.int c2), .val (.int c3)] [])
    refine X0.step (fun hA hx hq t_ k_ => XS.iloadN hA hx rfl (hb hq d2_38) rfl k_) ?_
    show OFin _ _ _ _ _ _ T0 (mkF m 39 #[.val (.int (4 : Int32)), .val (.int c0), .val (.int c1), .val (.int c2), .val (.int c3)] [(.int (4 : Int32))])
    refine X0.step (fun hA hx hq t_ k_ => XS.iconst hA hx rfl (hb hq d2_39) k_) ?_
    show OFin _ _ _ _ _ _ T0 (mkF m 40 #[.val (.int (4 : Int32)), .val (.int c0), .val (.int c1), .val (.int c2), .val (.int c3)] [(.int (3 : Int32)), (.int (4 : Int32))])
    refine X0.step (fun hA hx hq t_ k_ => XS.icmpYes hA hx rfl (pc0 := 40) (pc' := 59) rfl (hb hq d2_40) rfl (feq ((by decide))).2 (by decide) (by decide) k_) ?_
    show OFin _ _ _ _ _ _ T0 (mkF m 59 #[.val (.int (4 : Int32)), .val (.int c0), .val (.int c1), .val (.int c2), .val (.int c3)] [])
    refine X0.step (fun hA hx hq t_ k_ => XS.iconst hA hx rfl (hb hq d2_59) k_) ?_
    show OFin _ _ _ _ _ _ T0 (mkF m 60 #[.val (.int (4 : Int32)), .val (.int c0), .val (.int c1), .val (.int c2), .val (.int c3)] [(.int (4 : Int32))])
    refine X0.newP (hw _ (List.mem_of_getElem? (i := 11) rfl)) (g := (mkF m 60 #[.val (.int (4 : Int32)), .val (.int c0), .val (.int c1), .val (.int c2), .val (.int c3)] [(.int (4 : Int32))])) rfl d2_60 rfl (by decide) (cap := 4) (by decide) (by decide) (by decide) (by decide) (ad := "[C") (by first | rfl | decide) ?_
    intro T11 h11 k11 b11 gb11 X11 E11 A11 G11
    show OFin _ _ _ _ _ _ T11 (mkF m 62 #[.val (.int (4 : Int32)), .val (.int c0), .val (.int c1), .val (.int c2), .val (.int c3)] [(.ref b11)])
    have V0 := OArr.new A11
    have hB : n0 ≤ b11 := by rw [gb11]; exact Z0
    refine X11.step (fun hA hx hq t_ k_ => XS.dup hA hx rfl (hb hq d2_62) rfl rfl k_) ?_
    show OFin _ _ _ _ _ _ T11 (mkF m 63 #[.val (.int (4 : Int32)), .val (.int c0), .val (.int c1), .val (.int c2), .val (.int c3)] [(.ref b11), (.ref b11)])
    refine X11.step (fun hA hx hq t_ k_ => XS.iconst hA hx rfl (hb hq d2_63) k_) ?_
    show OFin _ _ _ _ _ _ T11 (mkF m 64 #[.val (.int (4 : Int32)), .val (.int c0), .val (.int c1), .val (.int c2), .val (.int c3)] [(.int (0 : Int32)), (.ref b11), (.ref b11)])
    refine X11.step (fun hA hx hq t_ k_ => XS.iloadN hA hx rfl (hb hq d2_64) rfl k_) ?_
    show OFin _ _ _ _ _ _ T11 (mkF m 65 #[.val (.int (4 : Int32)), .val (.int c0), .val (.int c1), .val (.int c2), .val (.int c3)] [(.int c0), (.int (0 : Int32)), (.ref b11), (.ref b11)])
    obtain ⟨q0, Ar0, Sr0, Hr0⟩ := id V0
    refine X11.stC Ar0 (by rw [Sr0]; decide) (hB) (g := (mkF m 65 #[.val (.int (4 : Int32)), .val (.int c0), .val (.int c1), .val (.int c2), .val (.int c3)] [(.int c0), (.int (0 : Int32)), (.ref b11), (.ref b11)])) rfl rfl d2_65 ?_
    intro T12 h12 X12 W12
    show OFin _ _ _ _ _ _ T12 (mkF m 66 #[.val (.int (4 : Int32)), .val (.int c0), .val (.int c1), .val (.int c2), .val (.int c3)] [(.ref b11)])
    rw [own_narC _ (by have := k0.1; omega) (by have := k0.2; omega)] at W12
    have V1 := V0.set W12
    refine X12.step (fun hA hx hq t_ k_ => XS.dup hA hx rfl (hb hq d2_66) rfl rfl k_) ?_
    show OFin _ _ _ _ _ _ T12 (mkF m 67 #[.val (.int (4 : Int32)), .val (.int c0), .val (.int c1), .val (.int c2), .val (.int c3)] [(.ref b11), (.ref b11)])
    refine X12.step (fun hA hx hq t_ k_ => XS.iconst hA hx rfl (hb hq d2_67) k_) ?_
    show OFin _ _ _ _ _ _ T12 (mkF m 68 #[.val (.int (4 : Int32)), .val (.int c0), .val (.int c1), .val (.int c2), .val (.int c3)] [(.int (1 : Int32)), (.ref b11), (.ref b11)])
    refine X12.step (fun hA hx hq t_ k_ => XS.iloadN hA hx rfl (hb hq d2_68) rfl k_) ?_
    show OFin _ _ _ _ _ _ T12 (mkF m 69 #[.val (.int (4 : Int32)), .val (.int c0), .val (.int c1), .val (.int c2), .val (.int c3)] [(.int c1), (.int (1 : Int32)), (.ref b11), (.ref b11)])
    obtain ⟨q1, Ar1, Sr1, Hr1⟩ := id V1
    refine X12.stC Ar1 (by rw [Sr1]; decide) (hB) (g := (mkF m 69 #[.val (.int (4 : Int32)), .val (.int c0), .val (.int c1), .val (.int c2), .val (.int c3)] [(.int c1), (.int (1 : Int32)), (.ref b11), (.ref b11)])) rfl rfl d2_69 ?_
    intro T13 h13 X13 W13
    show OFin _ _ _ _ _ _ T13 (mkF m 70 #[.val (.int (4 : Int32)), .val (.int c0), .val (.int c1), .val (.int c2), .val (.int c3)] [(.ref b11)])
    rw [own_narC _ (by have := k1.1; omega) (by have := k1.2; omega)] at W13
    have V2 := V1.set W13
    refine X13.step (fun hA hx hq t_ k_ => XS.dup hA hx rfl (hb hq d2_70) rfl rfl k_) ?_
    show OFin _ _ _ _ _ _ T13 (mkF m 71 #[.val (.int (4 : Int32)), .val (.int c0), .val (.int c1), .val (.int c2), .val (.int c3)] [(.ref b11), (.ref b11)])
    refine X13.step (fun hA hx hq t_ k_ => XS.iconst hA hx rfl (hb hq d2_71) k_) ?_
    show OFin _ _ _ _ _ _ T13 (mkF m 72 #[.val (.int (4 : Int32)), .val (.int c0), .val (.int c1), .val (.int c2), .val (.int c3)] [(.int (2 : Int32)), (.ref b11), (.ref b11)])
    refine X13.step (fun hA hx hq t_ k_ => XS.iloadN hA hx rfl (hb hq d2_72) rfl k_) ?_
    show OFin _ _ _ _ _ _ T13 (mkF m 73 #[.val (.int (4 : Int32)), .val (.int c0), .val (.int c1), .val (.int c2), .val (.int c3)] [(.int c2), (.int (2 : Int32)), (.ref b11), (.ref b11)])
    obtain ⟨q2, Ar2, Sr2, Hr2⟩ := id V2
    refine X13.stC Ar2 (by rw [Sr2]; decide) (hB) (g := (mkF m 73 #[.val (.int (4 : Int32)), .val (.int c0), .val (.int c1), .val (.int c2), .val (.int c3)] [(.int c2), (.int (2 : Int32)), (.ref b11), (.ref b11)])) rfl rfl d2_73 ?_
    intro T14 h14 X14 W14
    show OFin _ _ _ _ _ _ T14 (mkF m 74 #[.val (.int (4 : Int32)), .val (.int c0), .val (.int c1), .val (.int c2), .val (.int c3)] [(.ref b11)])
    rw [own_narC _ (by have := k2.1; omega) (by have := k2.2; omega)] at W14
    have V3 := V2.set W14
    refine X14.step (fun hA hx hq t_ k_ => XS.dup hA hx rfl (hb hq d2_74) rfl rfl k_) ?_
    show OFin _ _ _ _ _ _ T14 (mkF m 75 #[.val (.int (4 : Int32)), .val (.int c0), .val (.int c1), .val (.int c2), .val (.int c3)] [(.ref b11), (.ref b11)])
    refine X14.step (fun hA hx hq t_ k_ => XS.iconst hA hx rfl (hb hq d2_75) k_) ?_
    show OFin _ _ _ _ _ _ T14 (mkF m 76 #[.val (.int (4 : Int32)), .val (.int c0), .val (.int c1), .val (.int c2), .val (.int c3)] [(.int (3 : Int32)), (.ref b11), (.ref b11)])
    refine X14.step (fun hA hx hq t_ k_ => XS.iload hA hx rfl (hb hq d2_76) rfl k_) ?_
    show OFin _ _ _ _ _ _ T14 (mkF m 78 #[.val (.int (4 : Int32)), .val (.int c0), .val (.int c1), .val (.int c2), .val (.int c3)] [(.int c3), (.int (3 : Int32)), (.ref b11), (.ref b11)])
    obtain ⟨q3, Ar3, Sr3, Hr3⟩ := id V3
    refine X14.stC Ar3 (by rw [Sr3]; decide) (hB) (g := (mkF m 78 #[.val (.int (4 : Int32)), .val (.int c0), .val (.int c1), .val (.int c2), .val (.int c3)] [(.int c3), (.int (3 : Int32)), (.ref b11), (.ref b11)])) rfl rfl d2_78 ?_
    intro T15 h15 X15 W15
    show OFin _ _ _ _ _ _ T15 (mkF m 79 #[.val (.int (4 : Int32)), .val (.int c0), .val (.int c1), .val (.int c2), .val (.int c3)] [(.ref b11)])
    rw [own_narC _ (by have := k3.1; omega) (by have := k3.2; omega)] at W15
    have V4 := V3.set W15
    have VC : OArr Z h15 b11 .char 4 (fun j => .int ((own_f c0 c1 c2 c3) j)) := V4.congr fun j hj => by
      have hj' : j < 4 := hj
      match j, hj' with
      | 0, _ => rfl
      | 1, _ => rfl
      | 2, _ => rfl
      | 3, _ => rfl
    exact X15.retR rfl rfl d2_79 (oN (by decide) (by decide)) (⟨b11, rfl, VC, ((((((Keep.refl h0 []).ext E11).wr W12 (Or.inr (Nat.le_of_eq gb11.symm))).wr W13 (Or.inr (Nat.le_of_eq gb11.symm))).wr W14 (Or.inr (Nat.le_of_eq gb11.symm))).wr W15 (Or.inr (Nat.le_of_eq gb11.symm)))⟩)
theorem pn_java_lang_Record : plainName "java/lang/Record" = true := by first | (simp [plainName, overriddenIn]; done) | decide +kernel
theorem d7_0 : decode jdk_30_method_1_code 0 = .ok (.aload_n 0, 1) := by decide +kernel
theorem d7_1 : decode jdk_30_method_1_code 1 = .ok (.invokespecial 1, 3) := by decide +kernel
theorem d7_4 : decode jdk_30_method_1_code 4 = .ok (.return_, 1) := by decide +kernel
set_option maxRecDepth 65536 in
set_option maxHeartbeats 40000000 in
theorem rm3 (l : Launch) (Z : State) (a0 : Array Value) (hw : ∀ d ∈ tables_1, d.before a0 Z = true) (a1 : Addr) (h0 : Heap) (n0 : Nat)  :
    OMeets l Z (⟨"java/lang/Record", "<init>", "()V"⟩ : MethodName) [] jdk_30_method_1_code 1 none ({ frames := 1, cells := 0, slots := 0, locals := 12 } : Room) #[(.ref a1)] h0 n0 (fun v h => v = none ∧ h0 = h) := by
  refine o_enter (Z := Z) (plainFor_of_name pn_java_lang_Record) ?_
  intro p e s m below meth c T0 X0
  refine OFin.cast (g' := (mkF m 0 #[.val (.ref a1)] [])) (by first | (simp [entryFrame, mkF, argsToLocals, Value.category]; done) | rfl) ?_
  refine X0.step (fun hA hx hq t_ k_ => XS.aloadN hA hx rfl (hb hq d7_0) rfl rfl k_) ?_
  show OFin _ _ _ _ _ _ T0 (mkF m 1 #[.val (.ref a1)] [(.ref a1)])
  refine X0.initO (hw _ (List.mem_of_getElem? (i := 41) rfl)) (hw _ (List.mem_of_getElem? (i := 20) rfl)) (hw _ (List.mem_of_getElem? (i := 21) rfl)) (g := (mkF m 1 #[.val (.ref a1)] [(.ref a1)])) rfl rfl rfl d7_1 (by decide) (W := 0) (by show 2 * 0 + _ ≤ _; exact Nat.le_of_eq rfl) (by decide) ?_
  intro T1 X1
  show OFin _ _ _ _ _ _ T1 (mkF m 4 #[.val (.ref a1)] [])
  exact X1.retV d7_4 (oN (by decide) (by decide)) (⟨rfl, rfl⟩)
theorem pn_com_example_lean_lock_leanlock_redis_ErrorReply : plainName "com/example/lean_lock/leanlock/redis/ErrorReply" = true := by first | (simp [plainName, overriddenIn]; done) | decide +kernel
theorem d6_0 : decode prog_23_method_1_code 0 = .ok (.aload_n 0, 1) := by decide +kernel
theorem d6_1 : decode prog_23_method_1_code 1 = .ok (.invokespecial 1, 3) := by decide +kernel
theorem pd_pr_V : parseMethodDescriptor "()V" = some ⟨[], none⟩ := by decide +kernel
theorem d6_4 : decode prog_23_method_1_code 4 = .ok (.aload_n 0, 1) := by decide +kernel
theorem d6_5 : decode prog_23_method_1_code 5 = .ok (.aload_n 1, 1) := by decide +kernel
theorem d6_6 : decode prog_23_method_1_code 6 = .ok (.putfield 7, 3) := by decide +kernel
theorem d6_9 : decode prog_23_method_1_code 9 = .ok (.return_, 1) := by decide +kernel
set_option maxRecDepth 65536 in
set_option maxHeartbeats 40000000 in
theorem rm4 (l : Launch) (Z : State) (a0 : Array Value) (hw : ∀ d ∈ tables_1, d.before a0 Z = true) (a1 sa : Addr) (h0 : Heap) (n0 : Nat) (F : Fld Z h0 a1 "com/example/lean_lock/leanlock/redis/ErrorReply" "message" "Ljava/lang/String;" .null) (E : Exa Z h0 a1 "com/example/lean_lock/leanlock/redis/ErrorReply") (hn : n0 ≤ a1) :
    OMeets l Z (⟨"com/example/lean_lock/leanlock/redis/ErrorReply", "<init>", "(Ljava/lang/String;)V"⟩ : MethodName) [] prog_23_method_1_code 2 none ({ frames := 2, cells := 0, slots := 0, locals := 24 } : Room) #[(.ref a1), (.ref sa)] h0 n0 (fun v h => v = none ∧ Keep h0 h [a1] ∧ Exa Z h a1 "com/example/lean_lock/leanlock/redis/ErrorReply" ∧ Fld Z h a1 "com/example/lean_lock/leanlock/redis/ErrorReply" "message" "Ljava/lang/String;" (.ref sa)) := by
  refine o_enter (Z := Z) (plainFor_of_name pn_com_example_lean_lock_leanlock_redis_ErrorReply) ?_
  intro p e s m below meth c T0 X0
  refine OFin.cast (g' := (mkF m 0 #[.val (.ref a1), .val (.ref sa)] [])) (by first | (simp [entryFrame, mkF, argsToLocals, Value.category]; done) | rfl) ?_
  refine X0.step (fun hA hx hq t_ k_ => XS.aloadN hA hx rfl (hb hq d6_0) rfl rfl k_) ?_
  show OFin _ _ _ _ _ _ T0 (mkF m 1 #[.val (.ref a1), .val (.ref sa)] [(.ref a1)])
  refine X0.callI (y' := (⟨"java/lang/Record", "<init>", "()V"⟩ : MethodName)) rfl (hw _ (List.mem_of_getElem? (i := 36) rfl)) (hw _ (List.mem_of_getElem? (i := 37) rfl)) (hw _ (List.mem_of_getElem? (i := 39) rfl)) (hw _ (List.mem_of_getElem? (i := 40) rfl)) (by decide) (a := a1) (argsL := []) (rest := []) (rm3 l Z a0 hw a1 h0 n0) (g := (mkF m 1 #[.val (.ref a1), .val (.ref sa)] [(.ref a1)])) rfl rfl pd_pr_V rfl rfl (W := 0) (by show 2 * 0 + _ ≤ _; exact Nat.le_of_eq rfl) d6_1 (by decide) (by decide) (by decide) (by decide) ?_
  intro v1 T1 h1 X1 q1
  obtain ⟨rfl, rfl⟩ := q1
  show OFin _ _ _ _ _ _ T1 (mkF m 4 #[.val (.ref a1), .val (.ref sa)] [])
  refine X1.step (fun hA hx hq t_ k_ => XS.aloadN hA hx rfl (hb hq d6_4) rfl rfl k_) ?_
  show OFin _ _ _ _ _ _ T1 (mkF m 5 #[.val (.ref a1), .val (.ref sa)] [(.ref a1)])
  refine X1.step (fun hA hx hq t_ k_ => XS.aloadN hA hx rfl (hb hq d6_5) rfl rfl k_) ?_
  show OFin _ _ _ _ _ _ T1 (mkF m 6 #[.val (.ref a1), .val (.ref sa)] [(.ref sa), (.ref a1)])
  refine X1.putF (hw _ (List.mem_of_getElem? (i := 42) rfl)) F E (Or.inr ⟨(hw _ (List.mem_of_getElem? (i := 43) rfl)), rfl, rfl⟩) (hw _ (List.mem_of_getElem? (i := 31) rfl)) (ty := (.object "java/lang/String")) (by decide) rfl rfl hn (g := (mkF m 6 #[.val (.ref a1), .val (.ref sa)] [(.ref sa), (.ref a1)])) rfl rfl d6_6 ?_
  intro T2 h2 X2 W2
  show OFin _ _ _ _ _ _ T2 (mkF m 9 #[.val (.ref a1), .val (.ref sa)] [])
  exact X2.retV d6_9 (oN (by decide) (by decide)) (⟨rfl, Keep.of_wr W2, E.wr W2, F.same W2⟩)
theorem d8_0 : decode prog_23_method_2_code 0 = .ok (.aload_n 0, 1) := by decide +kernel
theorem d8_1 : decode prog_23_method_2_code 1 = .ok (.getfield 7, 3) := by decide +kernel
theorem d8_4 : decode prog_23_method_2_code 4 = .ok (.bipush 32, 2) := by decide +kernel
theorem d8_6 : decode prog_23_method_2_code 6 = .ok (.invokevirtual 13, 3) := by decide +kernel
theorem pd_pIr_I : parseMethodDescriptor "(I)I" = some ⟨[.int], some .int⟩ := by decide +kernel
theorem d8_9 : decode prog_23_method_2_code 9 = .ok (.istore_n 1, 1) := by decide +kernel
theorem d8_10 : decode prog_23_method_2_code 10 = .ok (.iload_n 1, 1) := by decide +kernel
theorem d8_11 : decode prog_23_method_2_code 11 = .ok (.iconst (-1), 1) := by decide +kernel
theorem d8_12 : decode prog_23_method_2_code 12 = .ok (.if_icmp .ne 10, 3) := by decide +kernel
theorem d8_15 : decode prog_23_method_2_code 15 = .ok (.aload_n 0, 1) := by decide +kernel
theorem d8_16 : decode prog_23_method_2_code 16 = .ok (.getfield 7, 3) := by decide +kernel
theorem d8_19 : decode prog_23_method_2_code 19 = .ok (.goto 12, 3) := by decide +kernel
theorem d8_31 : decode prog_23_method_2_code 31 = .ok (.areturn, 1) := by decide +kernel
theorem d8_22 : decode prog_23_method_2_code 22 = .ok (.aload_n 0, 1) := by decide +kernel
theorem d8_23 : decode prog_23_method_2_code 23 = .ok (.getfield 7, 3) := by decide +kernel
theorem d8_26 : decode prog_23_method_2_code 26 = .ok (.iconst 0, 1) := by decide +kernel
theorem d8_27 : decode prog_23_method_2_code 27 = .ok (.iload_n 1, 1) := by decide +kernel
theorem d8_28 : decode prog_23_method_2_code 28 = .ok (.invokevirtual 19, 3) := by decide +kernel
theorem pd_pIIr_Ljava_lang_String_ : parseMethodDescriptor "(II)Ljava/lang/String;" = some ⟨[.int, .int], some (.object "java/lang/String")⟩ := by decide +kernel
set_option maxRecDepth 65536 in
set_option maxHeartbeats 40000000 in
theorem rm5 (l : Launch) (Z : State) (a0 : Array Value) (hw : ∀ d ∈ tables_1, d.before a0 Z = true) (a1 sa t : Addr) (N : Nat) (f : Nat → Int32) (cs : Int32) (vf : Value) (h0 : Heap) (n0 : Nat) (F : Fld Z h0 a1 "com/example/lean_lock/leanlock/redis/ErrorReply" "message" "Ljava/lang/String;" (.ref sa)) (S : OStr Z h0 sa t N f) (hN : N ≤ 4) (hok : ∀ j, own_ok (f j)) (Z0 : n0 ≤ h0.size) (SS : Sta Z h0 "java/lang/String" "COMPACT_STRINGS" "Z" (.int cs)) (hcs : ¬ cs = 0) (SP : Sta Z h0 "jdk/internal/util/Preconditions" "SIOOBE_FORMATTER" "Ljava/util/function/BiFunction;" vf) (rf : vf.isRef = true) :
    OMeetsW l Z own_EL (⟨"com/example/lean_lock/leanlock/redis/ErrorReply", "code", "()Ljava/lang/String;"⟩ : MethodName) [] prog_23_method_2_code 2 (some (.object "java/lang/String")) ({ frames := 5, cells := 2, slots := 8, locals := 80 } : Room) #[(.ref a1)] h0 n0 (fun v h => ∃ a t2 d, v = some (.ref a) ∧ OStr Z h a t2 d f ∧ own_inv N f 0 d ∧ Keep h0 h []) := by
  refine o_enterW (Z := Z) (own_EW hw) (plainFor_of_name pn_com_example_lean_lock_leanlock_redis_ErrorReply) ?_
  intro p e s m below meth c T0 X0 B0
  refine OFin.cast (g' := (mkF m 0 #[.val (.ref a1), .unset] [])) (by first | (simp [entryFrame, mkF, argsToLocals, Value.category]; done) | rfl) ?_
  refine X0.step (fun hA hx hq t_ k_ => XS.aloadN hA hx rfl (hb hq d8_0) rfl rfl k_) ?_
  show OFin _ _ _ _ _ _ T0 (mkF m 1 #[.val (.ref a1), .unset] [(.ref a1)])
  refine X0.getF (hw _ (List.mem_of_getElem? (i := 42) rfl)) F (g := (mkF m 1 #[.val (.ref a1), .unset] [(.ref a1)])) rfl rfl d8_1 ?_
  intro T1 X1
  show OFin _ _ _ _ _ _ T1 (mkF m 4 #[.val (.ref a1), .unset] [(.ref sa)])
  refine X1.step (fun hA hx hq t_ k_ => XS.bipush hA hx rfl (hb hq d8_4) k_) ?_
  show OFin _ _ _ _ _ _ T1 (mkF m 6 #[.val (.ref a1), .unset] [(.int (32 : Int32)), (.ref sa)])
  refine X1.callV (y' := (⟨"java/lang/String", "indexOf", "(I)I"⟩ : MethodName)) (z' := (⟨"java/lang/String", "indexOf", "(I)I"⟩ : MethodName)) (hw _ (List.mem_of_getElem? (i := 49) rfl)) (hw _ (List.mem_of_getElem? (i := 50) rfl)) (X1.notFace (hw _ (List.mem_of_getElem? (i := 52) rfl)) rfl) (hw _ (List.mem_of_getElem? (i := 52) rfl)) (hw _ (List.mem_of_getElem? (i := 51) rfl)) (hw _ (List.mem_of_getElem? (i := 7) rfl)) (hw _ (List.mem_of_getElem? (i := 53) rfl)) (by decide) S.1 (argsL := [(.int (32 : Int32))]) (rest := []) (sx7 l Z a0 hw sa t N f cs h0 n0 S (by omega) (fun j _ => hok j) SS hcs) (g := (mkF m 6 #[.val (.ref a1), .unset] [(.int (32 : Int32)), (.ref sa)])) rfl rfl pd_pIr_I rfl rfl (W := 0) (by show 2 * 0 + _ ≤ _; exact Nat.le_of_eq rfl) d8_6 (by decide) (by decide) (by decide) (by decide) ?_
  intro v2 T2 h2 X2 q2
  obtain ⟨rfl, g, rfl, hg⟩ := q2
  show OFin _ _ _ _ _ _ T2 (mkF m 9 #[.val (.ref a1), .unset] [(.int g)])
  rcases hg with ⟨d, hd, rfl, hd2, hd3⟩ | ⟨rfl, hg⟩
  · show OFin _ _ _ _ _ _ T2 (mkF m 9 #[.val (.ref a1), .unset] [(.int (Int32.ofNat d))])
    refine X2.step (fun hA hx hq t_ k_ => XS.istoreN hA hx rfl (hb hq d8_9) rfl (l' := #[.val (.ref a1), .val (.int (Int32.ofNat d))]) rfl k_) ?_
    show OFin _ _ _ _ _ _ T2 (mkF m 10 #[.val (.ref a1), .val (.int (Int32.ofNat d))] [])
    refine X2.step (fun hA hx hq t_ k_ => XS.iloadN hA hx rfl (hb hq d8_10) rfl k_) ?_
    show OFin _ _ _ _ _ _ T2 (mkF m 11 #[.val (.ref a1), .val (.int (Int32.ofNat d))] [(.int (Int32.ofNat d))])
    refine X2.step (fun hA hx hq t_ k_ => XS.iconst hA hx rfl (hb hq d8_11) k_) ?_
    show OFin _ _ _ _ _ _ T2 (mkF m 12 #[.val (.ref a1), .val (.int (Int32.ofNat d))] [(.int (-1 : Int32)), (.int (Int32.ofNat d))])
    refine X2.step (fun hA hx hq t_ k_ => XS.icmpYes hA hx rfl (pc0 := 12) (pc' := 22) rfl (hb hq d8_12) rfl (feq (fun q => by
        have q2 := congrArg Int32.toInt q
        rw [own_i d (by omega)] at q2
        have : (-1 : Int32).toInt = -1 := (by decide)
        omega)).2 (by decide) (by decide) k_) ?_
    show OFin _ _ _ _ _ _ T2 (mkF m 22 #[.val (.ref a1), .val (.int (Int32.ofNat d))] [])
    refine X2.step (fun hA hx hq t_ k_ => XS.aloadN hA hx rfl (hb hq d8_22) rfl rfl k_) ?_
    show OFin _ _ _ _ _ _ T2 (mkF m 23 #[.val (.ref a1), .val (.int (Int32.ofNat d))] [(.ref a1)])
    refine X2.getF (hw _ (List.mem_of_getElem? (i := 42) rfl)) F (g := (mkF m 23 #[.val (.ref a1), .val (.int (Int32.ofNat d))] [(.ref a1)])) rfl rfl d8_23 ?_
    intro T4 X4
    show OFin _ _ _ _ _ _ T4 (mkF m 26 #[.val (.ref a1), .val (.int (Int32.ofNat d))] [(.ref sa)])
    refine X4.step (fun hA hx hq t_ k_ => XS.iconst hA hx rfl (hb hq d8_26) k_) ?_
    show OFin _ _ _ _ _ _ T4 (mkF m 27 #[.val (.ref a1), .val (.int (Int32.ofNat d))] [(.int (0 : Int32)), (.ref sa)])
    refine X4.step (fun hA hx hq t_ k_ => XS.iloadN hA hx rfl (hb hq d8_27) rfl k_) ?_
    show OFin _ _ _ _ _ _ T4 (mkF m 28 #[.val (.ref a1), .val (.int (Int32.ofNat d))] [(.int (Int32.ofNat d)), (.int (0 : Int32)), (.ref sa)])
    refine X4.callVW B0 (y' := (⟨"java/lang/String", "substring", "(II)Ljava/lang/String;"⟩ : MethodName)) (z' := (⟨"java/lang/String", "substring", "(II)Ljava/lang/String;"⟩ : MethodName)) (hw _ (List.mem_of_getElem? (i := 119) rfl)) (hw _ (List.mem_of_getElem? (i := 120) rfl)) (X4.notFace (hw _ (List.mem_of_getElem? (i := 122) rfl)) rfl) (hw _ (List.mem_of_getElem? (i := 122) rfl)) (hw _ (List.mem_of_getElem? (i := 121) rfl)) (hw _ (List.mem_of_getElem? (i := 7) rfl)) (hw _ (List.mem_of_getElem? (i := 123) rfl)) (by decide) S.1 (argsL := [(.int (0 : Int32)), (.int (Int32.ofNat d))]) (rest := []) (sb8 l Z a0 hw sa t N f d cs vf h0 n0 S hd (by omega) (by omega) Z0 SS hcs SP rf) (g := (mkF m 28 #[.val (.ref a1), .val (.int (Int32.ofNat d))] [(.int (Int32.ofNat d)), (.int (0 : Int32)), (.ref sa)])) rfl rfl pd_pIIr_Ljava_lang_String_ rfl rfl (W := 0) (by show 2 * 0 + _ ≤ _; exact Nat.le_of_eq rfl) d8_28 (by decide) (by decide) (by decide) (by decide) ?_
    intro v5 T5 h5 vm5 X5 B5 G5 Sf5 q5
    obtain ⟨r, t2, rfl, U5, K5⟩ := q5
    show OFin _ _ _ _ _ _ T5 (mkF m 31 #[.val (.ref a1), .val (.int (Int32.ofNat d))] [(.ref r)])
    exact X5.retR rfl rfl d8_31 (oW X5 B5 (by decide) (by decide)) (⟨r, t2, d, rfl, U5, ⟨Nat.le_of_lt hd, fun j _ q => hd3 j q, fun _ => hd2⟩, K5⟩)
  · show OFin _ _ _ _ _ _ T2 (mkF m 9 #[.val (.ref a1), .unset] [(.int (-1 : Int32))])
    refine X2.step (fun hA hx hq t_ k_ => XS.istoreN hA hx rfl (hb hq d8_9) rfl (l' := #[.val (.ref a1), .val (.int (-1 : Int32))]) rfl k_) ?_
    show OFin _ _ _ _ _ _ T2 (mkF m 10 #[.val (.ref a1), .val (.int (-1 : Int32))] [])
    refine X2.step (fun hA hx hq t_ k_ => XS.iloadN hA hx rfl (hb hq d8_10) rfl k_) ?_
    show OFin _ _ _ _ _ _ T2 (mkF m 11 #[.val (.ref a1), .val (.int (-1 : Int32))] [(.int (-1 : Int32))])
    refine X2.step (fun hA hx hq t_ k_ => XS.iconst hA hx rfl (hb hq d8_11) k_) ?_
    show OFin _ _ _ _ _ _ T2 (mkF m 12 #[.val (.ref a1), .val (.int (-1 : Int32))] [(.int (-1 : Int32)), (.int (-1 : Int32))])
    refine X2.step (fun hA hx hq t_ k_ => XS.icmpNo hA hx rfl (hb hq d8_12) rfl (teq ((rfl : (-1 : Int32) = (-1 : Int32)))).2 k_) ?_
    show OFin _ _ _ _ _ _ T2 (mkF m 15 #[.val (.ref a1), .val (.int (-1 : Int32))] [])
    refine X2.step (fun hA hx hq t_ k_ => XS.aloadN hA hx rfl (hb hq d8_15) rfl rfl k_) ?_
    show OFin _ _ _ _ _ _ T2 (mkF m 16 #[.val (.ref a1), .val (.int (-1 : Int32))] [(.ref a1)])
    refine X2.getF (hw _ (List.mem_of_getElem? (i := 42) rfl)) F (g := (mkF m 16 #[.val (.ref a1), .val (.int (-1 : Int32))] [(.ref a1)])) rfl rfl d8_16 ?_
    intro T3 X3
    show OFin _ _ _ _ _ _ T3 (mkF m 19 #[.val (.ref a1), .val (.int (-1 : Int32))] [(.ref sa)])
    refine X3.step (fun hA hx hq t_ k_ => XS.goto hA hx rfl (pc0 := 19) (pc' := 31) rfl (hb hq d8_19) (by decide) (by decide) k_) ?_
    show OFin _ _ _ _ _ _ T3 (mkF m 31 #[.val (.ref a1), .val (.int (-1 : Int32))] [(.ref sa)])
    exact X3.retR rfl rfl d8_31 (oW X3 B0 (by decide) (by decide)) (⟨sa, t, N, rfl, S, own_inv.of hg, Keep.refl _ _⟩)
theorem pd_pIr_C : parseMethodDescriptor "(I)C" = some ⟨[.int], some .char⟩ := by decide +kernel
theorem pd_pICCCCr_A_C : parseMethodDescriptor "(ICCCC)[C" = some ⟨[.int, .char, .char, .char, .char], some (.array .char)⟩ := by decide +kernel
theorem pd_pA_Cr_V : parseMethodDescriptor "([C)V" = some ⟨[(.array .char)], none⟩ := by decide +kernel
theorem pd_pLjava_lang_String_r_V : parseMethodDescriptor "(Ljava/lang/String;)V" = some ⟨[(.object "java/lang/String")], none⟩ := by decide +kernel
theorem pd_pr_Ljava_lang_String_ : parseMethodDescriptor "()Ljava/lang/String;" = some ⟨[], some (.object "java/lang/String")⟩ := by decide +kernel
set_option maxRecDepth 65536 in
set_option maxHeartbeats 40000000 in
theorem rm0 (l : Launch) (Z : State) (a0 : Array Value) (hw : ∀ d ∈ tables_1, d.before a0 Z = true) (ws : List Jvm.Cond) (p0 p1 p2 p3 p4 cs : Int32) (vf : Value) (h0 : Heap) (n0 : Nat) (O0 : Old Z n0 h0) (SS : Sta Z Z.heap "java/lang/String" "COMPACT_STRINGS" "Z" (.int cs)) (hcs : ¬ cs = 0) (SP : Sta Z Z.heap "jdk/internal/util/Preconditions" "SIOOBE_FORMATTER" "Ljava/util/function/BiFunction;" vf) (rf : vf.isRef = true) :
    OMeetsW l Z own_EL x ws code maxLocals ret room_1 #[(.int p0), (.int p1), (.int p2), (.int p3), (.int p4)] h0 n0 (fun v h => v = some (.int 1)) := by
  refine o_enterW (Z := Z) (own_EW hw) (plainFor_of_name pn_com_example_lean_lock_leanlock_redis_ErrorReplyCodePinLaw) ?_
  intro p e s m below meth c T0 X0 B0
  refine OFin.cast (g' := (mkF m 0 #[.val (.int p0), .val (.int p1), .val (.int p2), .val (.int p3), .val (.int p4), .unset, .unset, .unset, .unset, .unset, .unset, .unset, .unset] [])) (by first | (simp [entryFrame, mkF, argsToLocals, Value.category, maxLocals]; done) | rfl) ?_
  have Z0 : n0 ≤ h0.size := by rw [← O0.1]; exact O0.2.1
  refine X0.step (fun hA hx hq t_ k_ => XS.iloadN hA hx rfl (hb hq at_0) rfl k_) ?_
  show OFin _ _ _ _ _ _ T0 (mkF m 1 #[.val (.int p0), .val (.int p1), .val (.int p2), .val (.int p3), .val (.int p4), .unset, .unset, .unset, .unset, .unset, .unset, .unset, .unset] [(.int p0)])
  refine X0.ldcI (hw _ (List.mem_of_getElem? (i := 0) rfl)) (g := (mkF m 1 #[.val (.int p0), .val (.int p1), .val (.int p2), .val (.int p3), .val (.int p4), .unset, .unset, .unset, .unset, .unset, .unset, .unset, .unset] [(.int p0)])) rfl at_1 ?_
  show OFin _ _ _ _ _ _ T0 (mkF m 3 #[.val (.int p0), .val (.int p1), .val (.int p2), .val (.int p3), .val (.int p4), .unset, .unset, .unset, .unset, .unset, .unset, .unset, .unset] [(.int (2147483647 : Int32)), (.int p0)])
  refine X0.step (fun hA hx hq t_ k_ => XS.iand hA hx rfl (hb hq at_3) rfl k_) ?_
  show OFin _ _ _ _ _ _ T0 (mkF m 4 #[.val (.int p0), .val (.int p1), .val (.int p2), .val (.int p3), .val (.int p4), .unset, .unset, .unset, .unset, .unset, .unset, .unset, .unset] [(.int (p0 &&& (2147483647 : Int32)))])
  refine X0.step (fun hA hx hq t_ k_ => XS.iconst hA hx rfl (hb hq at_4) k_) ?_
  show OFin _ _ _ _ _ _ T0 (mkF m 5 #[.val (.int p0), .val (.int p1), .val (.int p2), .val (.int p3), .val (.int p4), .unset, .unset, .unset, .unset, .unset, .unset, .unset, .unset] [(.int (5 : Int32)), (.int (p0 &&& (2147483647 : Int32)))])
  refine X0.irem (g := (mkF m 5 #[.val (.int p0), .val (.int p1), .val (.int p2), .val (.int p3), .val (.int p4), .unset, .unset, .unset, .unset, .unset, .unset, .unset, .unset] [(.int (5 : Int32)), (.int (p0 &&& (2147483647 : Int32)))])) rfl at_5 rfl (by decide) ?_
  show OFin _ _ _ _ _ _ T0 (mkF m 6 #[.val (.int p0), .val (.int p1), .val (.int p2), .val (.int p3), .val (.int p4), .unset, .unset, .unset, .unset, .unset, .unset, .unset, .unset] [(.int ((p0 &&& (2147483647 : Int32)) % (5 : Int32)))])
  obtain ⟨N, hN, eN⟩ : ∃ N : Nat, N ≤ 4 ∧ ((p0 &&& (2147483647 : Int32)) % (5 : Int32)) = Int32.ofNat N := own_n5 _
  generalize ((p0 &&& (2147483647 : Int32)) % (5 : Int32)) = z_ at eN ⊢
  subst eN
  show OFin _ _ _ _ _ _ T0 (mkF m 6 #[.val (.int p0), .val (.int p1), .val (.int p2), .val (.int p3), .val (.int p4), .unset, .unset, .unset, .unset, .unset, .unset, .unset, .unset] [(.int (Int32.ofNat N))])
  refine X0.step (fun hA hx hq t_ k_ => XS.istore hA hx rfl (hb hq at_6) rfl (l' := #[.val (.int p0), .val (.int p1), .val (.int p2), .val (.int p3), .val (.int p4), .val (.int (Int32.ofNat N)), .unset, .unset, .unset, .unset, .unset, .unset, .unset]) rfl k_) ?_
  show OFin _ _ _ _ _ _ T0 (mkF m 8 #[.val (.int p0), .val (.int p1), .val (.int p2), .val (.int p3), .val (.int p4), .val (.int (Int32.ofNat N)), .unset, .unset, .unset, .unset, .unset, .unset, .unset] [])
  refine X0.step (fun hA hx hq t_ k_ => XS.iloadN hA hx rfl (hb hq at_8) rfl k_) ?_
  show OFin _ _ _ _ _ _ T0 (mkF m 9 #[.val (.int p0), .val (.int p1), .val (.int p2), .val (.int p3), .val (.int p4), .val (.int (Int32.ofNat N)), .unset, .unset, .unset, .unset, .unset, .unset, .unset] [(.int p1)])
  refine X0.callS (y' := (⟨"com/example/lean_lock/leanlock/redis/ErrorReplyCodePinLaw", "draw", "(I)C"⟩ : MethodName)) (hw _ (List.mem_of_getElem? (i := 1) rfl)) (hw _ (List.mem_of_getElem? (i := 2) rfl)) (hw _ (List.mem_of_getElem? (i := 3) rfl)) (hw _ (List.mem_of_getElem? (i := 4) rfl)) (by decide) (argsL := [(.int p1)]) (rest := []) (rm1 l Z a0 hw p1 h0 n0) (g := (mkF m 9 #[.val (.int p0), .val (.int p1), .val (.int p2), .val (.int p3), .val (.int p4), .val (.int (Int32.ofNat N)), .unset, .unset, .unset, .unset, .unset, .unset, .unset] [(.int p1)])) rfl rfl pd_pIr_C rfl rfl (W := 0) (by show 2 * 0 + _ ≤ _; exact Nat.le_of_eq rfl) at_9 (by decide) (by decide) (by decide) (by decide) ?_
  intro v1 T1 h1 X1 q1
  obtain ⟨rfl, c0, rfl, k0⟩ := q1
  show OFin _ _ _ _ _ _ T1 (mkF m 12 #[.val (.int p0), .val (.int p1), .val (.int p2), .val (.int p3), .val (.int p4), .val (.int (Int32.ofNat N)), .unset, .unset, .unset, .unset, .unset, .unset, .unset] [(.int c0)])
  refine X1.step (fun hA hx hq t_ k_ => XS.istore hA hx rfl (hb hq at_12) rfl (l' := #[.val (.int p0), .val (.int p1), .val (.int p2), .val (.int p3), .val (.int p4), .val (.int (Int32.ofNat N)), .val (.int c0), .unset, .unset, .unset, .unset, .unset, .unset]) rfl k_) ?_
  show OFin _ _ _ _ _ _ T1 (mkF m 14 #[.val (.int p0), .val (.int p1), .val (.int p2), .val (.int p3), .val (.int p4), .val (.int (Int32.ofNat N)), .val (.int c0), .unset, .unset, .unset, .unset, .unset, .unset] [])
  refine X1.step (fun hA hx hq t_ k_ => XS.iloadN hA hx rfl (hb hq at_14) rfl k_) ?_
  show OFin _ _ _ _ _ _ T1 (mkF m 15 #[.val (.int p0), .val (.int p1), .val (.int p2), .val (.int p3), .val (.int p4), .val (.int (Int32.ofNat N)), .val (.int c0), .unset, .unset, .unset, .unset, .unset, .unset] [(.int p2)])
  refine X1.callS (y' := (⟨"com/example/lean_lock/leanlock/redis/ErrorReplyCodePinLaw", "draw", "(I)C"⟩ : MethodName)) (hw _ (List.mem_of_getElem? (i := 1) rfl)) (hw _ (List.mem_of_getElem? (i := 2) rfl)) (hw _ (List.mem_of_getElem? (i := 3) rfl)) (hw _ (List.mem_of_getElem? (i := 4) rfl)) (by decide) (argsL := [(.int p2)]) (rest := []) (rm1 l Z a0 hw p2 h0 n0) (g := (mkF m 15 #[.val (.int p0), .val (.int p1), .val (.int p2), .val (.int p3), .val (.int p4), .val (.int (Int32.ofNat N)), .val (.int c0), .unset, .unset, .unset, .unset, .unset, .unset] [(.int p2)])) rfl rfl pd_pIr_C rfl rfl (W := 0) (by show 2 * 0 + _ ≤ _; exact Nat.le_of_eq rfl) at_15 (by decide) (by decide) (by decide) (by decide) ?_
  intro v2 T2 h2 X2 q2
  obtain ⟨rfl, c1, rfl, k1⟩ := q2
  show OFin _ _ _ _ _ _ T2 (mkF m 18 #[.val (.int p0), .val (.int p1), .val (.int p2), .val (.int p3), .val (.int p4), .val (.int (Int32.ofNat N)), .val (.int c0), .unset, .unset, .unset, .unset, .unset, .unset] [(.int c1)])
  refine X2.step (fun hA hx hq t_ k_ => XS.istore hA hx rfl (hb hq at_18) rfl (l' := #[.val (.int p0), .val (.int p1), .val (.int p2), .val (.int p3), .val (.int p4), .val (.int (Int32.ofNat N)), .val (.int c0), .val (.int c1), .unset, .unset, .unset, .unset, .unset]) rfl k_) ?_
  show OFin _ _ _ _ _ _ T2 (mkF m 20 #[.val (.int p0), .val (.int p1), .val (.int p2), .val (.int p3), .val (.int p4), .val (.int (Int32.ofNat N)), .val (.int c0), .val (.int c1), .unset, .unset, .unset, .unset, .unset] [])
  refine X2.step (fun hA hx hq t_ k_ => XS.iloadN hA hx rfl (hb hq at_20) rfl k_) ?_
  show OFin _ _ _ _ _ _ T2 (mkF m 21 #[.val (.int p0), .val (.int p1), .val (.int p2), .val (.int p3), .val (.int p4), .val (.int (Int32.ofNat N)), .val (.int c0), .val (.int c1), .unset, .unset, .unset, .unset, .unset] [(.int p3)])
  refine X2.callS (y' := (⟨"com/example/lean_lock/leanlock/redis/ErrorReplyCodePinLaw", "draw", "(I)C"⟩ : MethodName)) (hw _ (List.mem_of_getElem? (i := 1) rfl)) (hw _ (List.mem_of_getElem? (i := 2) rfl)) (hw _ (List.mem_of_getElem? (i := 3) rfl)) (hw _ (List.mem_of_getElem? (i := 4) rfl)) (by decide) (argsL := [(.int p3)]) (rest := []) (rm1 l Z a0 hw p3 h0 n0) (g := (mkF m 21 #[.val (.int p0), .val (.int p1), .val (.int p2), .val (.int p3), .val (.int p4), .val (.int (Int32.ofNat N)), .val (.int c0), .val (.int c1), .unset, .unset, .unset, .unset, .unset] [(.int p3)])) rfl rfl pd_pIr_C rfl rfl (W := 0) (by show 2 * 0 + _ ≤ _; exact Nat.le_of_eq rfl) at_21 (by decide) (by decide) (by decide) (by decide) ?_
  intro v3 T3 h3 X3 q3
  obtain ⟨rfl, c2, rfl, k2⟩ := q3
  show OFin _ _ _ _ _ _ T3 (mkF m 24 #[.val (.int p0), .val (.int p1), .val (.int p2), .val (.int p3), .val (.int p4), .val (.int (Int32.ofNat N)), .val (.int c0), .val (.int c1), .unset, .unset, .unset, .unset, .unset] [(.int c2)])
  refine X3.step (fun hA hx hq t_ k_ => XS.istore hA hx rfl (hb hq at_24) rfl (l' := #[.val (.int p0), .val (.int p1), .val (.int p2), .val (.int p3), .val (.int p4), .val (.int (Int32.ofNat N)), .val (.int c0), .val (.int c1), .val (.int c2), .unset, .unset, .unset, .unset]) rfl k_) ?_
  show OFin _ _ _ _ _ _ T3 (mkF m 26 #[.val (.int p0), .val (.int p1), .val (.int p2), .val (.int p3), .val (.int p4), .val (.int (Int32.ofNat N)), .val (.int c0), .val (.int c1), .val (.int c2), .unset, .unset, .unset, .unset] [])
  refine X3.step (fun hA hx hq t_ k_ => XS.iload hA hx rfl (hb hq at_26) rfl k_) ?_
  show OFin _ _ _ _ _ _ T3 (mkF m 28 #[.val (.int p0), .val (.int p1), .val (.int p2), .val (.int p3), .val (.int p4), .val (.int (Int32.ofNat N)), .val (.int c0), .val (.int c1), .val (.int c2), .unset, .unset, .unset, .unset] [(.int p4)])
  refine X3.callS (y' := (⟨"com/example/lean_lock/leanlock/redis/ErrorReplyCodePinLaw", "draw", "(I)C"⟩ : MethodName)) (hw _ (List.mem_of_getElem? (i := 1) rfl)) (hw _ (List.mem_of_getElem? (i := 2) rfl)) (hw _ (List.mem_of_getElem? (i := 3) rfl)) (hw _ (List.mem_of_getElem? (i := 4) rfl)) (by decide) (argsL := [(.int p4)]) (rest := []) (rm1 l Z a0 hw p4 h0 n0) (g := (mkF m 28 #[.val (.int p0), .val (.int p1), .val (.int p2), .val (.int p3), .val (.int p4), .val (.int (Int32.ofNat N)), .val (.int c0), .val (.int c1), .val (.int c2), .unset, .unset, .unset, .unset] [(.int p4)])) rfl rfl pd_pIr_C rfl rfl (W := 0) (by show 2 * 0 + _ ≤ _; exact Nat.le_of_eq rfl) at_28 (by decide) (by decide) (by decide) (by decide) ?_
  intro v4 T4 h4 X4 q4
  obtain ⟨rfl, c3, rfl, k3⟩ := q4
  show OFin _ _ _ _ _ _ T4 (mkF m 31 #[.val (.int p0), .val (.int p1), .val (.int p2), .val (.int p3), .val (.int p4), .val (.int (Int32.ofNat N)), .val (.int c0), .val (.int c1), .val (.int c2), .unset, .unset, .unset, .unset] [(.int c3)])
  refine X4.step (fun hA hx hq t_ k_ => XS.istore hA hx rfl (hb hq at_31) rfl (l' := #[.val (.int p0), .val (.int p1), .val (.int p2), .val (.int p3), .val (.int p4), .val (.int (Int32.ofNat N)), .val (.int c0), .val (.int c1), .val (.int c2), .val (.int c3), .unset, .unset, .unset]) rfl k_) ?_
  show OFin _ _ _ _ _ _ T4 (mkF m 33 #[.val (.int p0), .val (.int p1), .val (.int p2), .val (.int p3), .val (.int p4), .val (.int (Int32.ofNat N)), .val (.int c0), .val (.int c1), .val (.int c2), .val (.int c3), .unset, .unset, .unset] [])
  refine X4.newO (hw _ (List.mem_of_getElem? (i := 5) rfl)) (hw _ (List.mem_of_getElem? (i := 6) rfl)) (hw _ (List.mem_of_getElem? (i := 7) rfl)) (g := (mkF m 33 #[.val (.int p0), .val (.int p1), .val (.int p2), .val (.int p3), .val (.int p4), .val (.int (Int32.ofNat N)), .val (.int c0), .val (.int c1), .val (.int c2), .val (.int c3), .unset, .unset, .unset] [])) rfl at_33 (by decide) (by decide) ?_
  intro T5 h5 b5 gb5 X5 E5 A5 D5
  have B6 := B0.ext E5
  show OFin _ _ _ _ _ _ T5 (mkF m 36 #[.val (.int p0), .val (.int p1), .val (.int p2), .val (.int p3), .val (.int p4), .val (.int (Int32.ofNat N)), .val (.int c0), .val (.int c1), .val (.int c2), .val (.int c3), .unset, .unset, .unset] [(.ref b5)])
  have O1 := O0.ext E5
  have Fv : Fld Z h5 b5 "java/lang/String" "value" "[B" .null := D5 (Or.inr (hw _ (List.mem_of_getElem? (i := 24) rfl))) (ty := (.array .byte)) (by decide)
  have Fc : Fld Z h5 b5 "java/lang/String" "coder" "B" (.int (0 : Int32)) := D5 (Or.inr (hw _ (List.mem_of_getElem? (i := 25) rfl))) (ty := .byte) (by decide)
  have hm : n0 ≤ b5 := by rw [gb5]; exact Z0
  refine X5.step (fun hA hx hq t_ k_ => XS.dup hA hx rfl (hb hq at_36) rfl rfl k_) ?_
  show OFin _ _ _ _ _ _ T5 (mkF m 37 #[.val (.int p0), .val (.int p1), .val (.int p2), .val (.int p3), .val (.int p4), .val (.int (Int32.ofNat N)), .val (.int c0), .val (.int c1), .val (.int c2), .val (.int c3), .unset, .unset, .unset] [(.ref b5), (.ref b5)])
  refine X5.step (fun hA hx hq t_ k_ => XS.iload hA hx rfl (hb hq at_37) rfl k_) ?_
  show OFin _ _ _ _ _ _ T5 (mkF m 39 #[.val (.int p0), .val (.int p1), .val (.int p2), .val (.int p3), .val (.int p4), .val (.int (Int32.ofNat N)), .val (.int c0), .val (.int c1), .val (.int c2), .val (.int c3), .unset, .unset, .unset] [(.int (Int32.ofNat N)), (.ref b5), (.ref b5)])
  refine X5.step (fun hA hx hq t_ k_ => XS.iload hA hx rfl (hb hq at_39) rfl k_) ?_
  show OFin _ _ _ _ _ _ T5 (mkF m 41 #[.val (.int p0), .val (.int p1), .val (.int p2), .val (.int p3), .val (.int p4), .val (.int (Int32.ofNat N)), .val (.int c0), .val (.int c1), .val (.int c2), .val (.int c3), .unset, .unset, .unset] [(.int c0), (.int (Int32.ofNat N)), (.ref b5), (.ref b5)])
  refine X5.step (fun hA hx hq t_ k_ => XS.iload hA hx rfl (hb hq at_41) rfl k_) ?_
  show OFin _ _ _ _ _ _ T5 (mkF m 43 #[.val (.int p0), .val (.int p1), .val (.int p2), .val (.int p3), .val (.int p4), .val (.int (Int32.ofNat N)), .val (.int c0), .val (.int c1), .val (.int c2), .val (.int c3), .unset, .unset, .unset] [(.int c1), (.int c0), (.int (Int32.ofNat N)), (.ref b5), (.ref b5)])
  refine X5.step (fun hA hx hq t_ k_ => XS.iload hA hx rfl (hb hq at_43) rfl k_) ?_
  show OFin _ _ _ _ _ _ T5 (mkF m 45 #[.val (.int p0), .val (.int p1), .val (.int p2), .val (.int p3), .val (.int p4), .val (.int (Int32.ofNat N)), .val (.int c0), .val (.int c1), .val (.int c2), .val (.int c3), .unset, .unset, .unset] [(.int c2), (.int c1), (.int c0), (.int (Int32.ofNat N)), (.ref b5), (.ref b5)])
  refine X5.step (fun hA hx hq t_ k_ => XS.iload hA hx rfl (hb hq at_45) rfl k_) ?_
  show OFin _ _ _ _ _ _ T5 (mkF m 47 #[.val (.int p0), .val (.int p1), .val (.int p2), .val (.int p3), .val (.int p4), .val (.int (Int32.ofNat N)), .val (.int c0), .val (.int c1), .val (.int c2), .val (.int c3), .unset, .unset, .unset] [(.int c3), (.int c2), (.int c1), (.int c0), (.int (Int32.ofNat N)), (.ref b5), (.ref b5)])
  refine X5.callS (y' := (⟨"com/example/lean_lock/leanlock/redis/ErrorReplyCodePinLaw", "make", "(ICCCC)[C"⟩ : MethodName)) (hw _ (List.mem_of_getElem? (i := 8) rfl)) (hw _ (List.mem_of_getElem? (i := 9) rfl)) (hw _ (List.mem_of_getElem? (i := 3) rfl)) (hw _ (List.mem_of_getElem? (i := 10) rfl)) (by decide) (argsL := [(.int (Int32.ofNat N)), (.int c0), (.int c1), (.int c2), (.int c3)]) (rest := [(.ref b5), (.ref b5)]) (rm2 l Z a0 hw N c0 c1 c2 c3 h5 n0 hN k0 k1 k2 k3 (Nat.le_trans Z0 E5.1)) (g := (mkF m 47 #[.val (.int p0), .val (.int p1), .val (.int p2), .val (.int p3), .val (.int p4), .val (.int (Int32.ofNat N)), .val (.int c0), .val (.int c1), .val (.int c2), .val (.int c3), .unset, .unset, .unset] [(.int c3), (.int c2), (.int c1), (.int c0), (.int (Int32.ofNat N)), (.ref b5), (.ref b5)])) rfl rfl pd_pICCCCr_A_C rfl rfl (W := 2) (by show 2 * 0 + _ ≤ _; exact Nat.le_of_eq rfl) at_47 (by decide) (by decide) (by decide) (by decide) ?_
  intro v7 T7 h7 X7 q7
  obtain ⟨ca, rfl, V7, K7⟩ := q7
  have B8 := B6.keep K7 sf0
  show OFin _ _ _ _ _ _ T7 (mkF m 50 #[.val (.int p0), .val (.int p1), .val (.int p2), .val (.int p3), .val (.int p4), .val (.int (Int32.ofNat N)), .val (.int c0), .val (.int c1), .val (.int c2), .val (.int c3), .unset, .unset, .unset] [(.ref ca), (.ref b5), (.ref b5)])
  have O2 := O1.keep K7 all0
  refine X7.callIW B8 (y' := (⟨"java/lang/String", "<init>", "([C)V"⟩ : MethodName)) rfl (hw _ (List.mem_of_getElem? (i := 12) rfl)) (hw _ (List.mem_of_getElem? (i := 13) rfl)) (hw _ (List.mem_of_getElem? (i := 7) rfl)) (hw _ (List.mem_of_getElem? (i := 14) rfl)) (by decide) (a := b5) (argsL := [(.ref ca)]) (rest := [(.ref b5)]) (sm5w l Z a0 hw b5 ca N (own_f c0 c1 c2 c3) cs h7 n0 (Fv.keep K7 nin0) (Fc.keep K7 nin0) (A5.keep K7) hm V7 hN (fun j _ => (own_fok k0 k1 k2 k3) j) (Nat.le_trans (Nat.le_of_eq O2.1.symm) O2.2.1) (SS.ext O2.2) hcs) (g := (mkF m 50 #[.val (.int p0), .val (.int p1), .val (.int p2), .val (.int p3), .val (.int p4), .val (.int (Int32.ofNat N)), .val (.int c0), .val (.int c1), .val (.int c2), .val (.int c3), .unset, .unset, .unset] [(.ref ca), (.ref b5), (.ref b5)])) rfl rfl pd_pA_Cr_V rfl rfl (W := 1) (by show 2 * 0 + _ ≤ _; exact Nat.le_of_eq rfl) at_50 (by decide) (by decide) (by decide) (by decide) ?_
  intro v9 T9 h9 vm9 X9 B9 G9 Sf9 q9
  obtain ⟨rfl, K9, t, U9⟩ := q9
  show OFin _ _ _ _ _ _ T9 (mkF m 53 #[.val (.int p0), .val (.int p1), .val (.int p2), .val (.int p3), .val (.int p4), .val (.int (Int32.ofNat N)), .val (.int c0), .val (.int c1), .val (.int c2), .val (.int c3), .unset, .unset, .unset] [(.ref b5)])
  have O3 := O2.keep K9 (allS hm all0)
  refine X9.step (fun hA hx hq t_ k_ => XS.astore hA hx rfl (hb hq at_53) rfl rfl (l' := #[.val (.int p0), .val (.int p1), .val (.int p2), .val (.int p3), .val (.int p4), .val (.int (Int32.ofNat N)), .val (.int c0), .val (.int c1), .val (.int c2), .val (.int c3), .val (.ref b5), .unset, .unset]) rfl k_) ?_
  show OFin _ _ _ _ _ _ T9 (mkF m 55 #[.val (.int p0), .val (.int p1), .val (.int p2), .val (.int p3), .val (.int p4), .val (.int (Int32.ofNat N)), .val (.int c0), .val (.int c1), .val (.int c2), .val (.int c3), .val (.ref b5), .unset, .unset] [])
  refine X9.step (fun hA hx hq t_ k_ => XS.iload hA hx rfl (hb hq at_55) rfl k_) ?_
  show OFin _ _ _ _ _ _ T9 (mkF m 57 #[.val (.int p0), .val (.int p1), .val (.int p2), .val (.int p3), .val (.int p4), .val (.int (Int32.ofNat N)), .val (.int c0), .val (.int c1), .val (.int c2), .val (.int c3), .val (.ref b5), .unset, .unset] [(.int (Int32.ofNat N))])
  refine X9.step (fun hA hx hq t_ k_ => XS.istore hA hx rfl (hb hq at_57) rfl (l' := #[.val (.int p0), .val (.int p1), .val (.int p2), .val (.int p3), .val (.int p4), .val (.int (Int32.ofNat N)), .val (.int c0), .val (.int c1), .val (.int c2), .val (.int c3), .val (.ref b5), .val (.int (Int32.ofNat N)), .unset]) rfl k_) ?_
  show OFin _ _ _ _ _ _ T9 (mkF m 59 #[.val (.int p0), .val (.int p1), .val (.int p2), .val (.int p3), .val (.int p4), .val (.int (Int32.ofNat N)), .val (.int c0), .val (.int c1), .val (.int c2), .val (.int c3), .val (.ref b5), .val (.int (Int32.ofNat N)), .unset] [])
  have j122 : ∀ d : Nat, own_inv N (own_f c0 c1 c2 c3) 0 d → OFin n0 p e (fun o t L => CHr Z own_EL s.vm s.heap t.vm t.heap ∧ ReturnedEndW s o t L room_1.cells room_1.slots) below (fun v h => v = some (.int 1)) T9 (mkF m 122 #[.val (.int p0), .val (.int p1), .val (.int p2), .val (.int p3), .val (.int p4), .val (.int (Int32.ofNat N)), .val (.int c0), .val (.int c1), .val (.int c2), .val (.int c3), .val (.ref b5), .val (.int (Int32.ofNat d)), .unset] []) := by
    intro d hd
    refine X9.newO (hw _ (List.mem_of_getElem? (i := 30) rfl)) (hw _ (List.mem_of_getElem? (i := 31) rfl)) (hw _ (List.mem_of_getElem? (i := 32) rfl)) (g := (mkF m 122 #[.val (.int p0), .val (.int p1), .val (.int p2), .val (.int p3), .val (.int p4), .val (.int (Int32.ofNat N)), .val (.int c0), .val (.int c1), .val (.int c2), .val (.int c3), .val (.ref b5), .val (.int (Int32.ofNat d)), .unset] [])) rfl at_122 (by decide) (by decide) ?_
    intro T10 h10 b10 gb10 X10 E10 A10 D10
    have B11 := B9.ext E10
    show OFin _ _ _ _ _ _ T10 (mkF m 125 #[.val (.int p0), .val (.int p1), .val (.int p2), .val (.int p3), .val (.int p4), .val (.int (Int32.ofNat N)), .val (.int c0), .val (.int c1), .val (.int c2), .val (.int c3), .val (.ref b5), .val (.int (Int32.ofNat d)), .unset] [(.ref b10)])
    have O4 := O3.ext E10
    have Fm : Fld Z h10 b10 "com/example/lean_lock/leanlock/redis/ErrorReply" "message" "Ljava/lang/String;" .null := D10 (Or.inr (hw _ (List.mem_of_getElem? (i := 43) rfl))) (ty := (.object "java/lang/String")) (by decide)
    have hn : n0 ≤ b10 := by rw [gb10]; exact Nat.le_trans (Nat.le_of_eq O3.1.symm) O3.2.1
    refine X10.step (fun hA hx hq t_ k_ => XS.dup hA hx rfl (hb hq at_125) rfl rfl k_) ?_
    show OFin _ _ _ _ _ _ T10 (mkF m 126 #[.val (.int p0), .val (.int p1), .val (.int p2), .val (.int p3), .val (.int p4), .val (.int (Int32.ofNat N)), .val (.int c0), .val (.int c1), .val (.int c2), .val (.int c3), .val (.ref b5), .val (.int (Int32.ofNat d)), .unset] [(.ref b10), (.ref b10)])
    refine X10.step (fun hA hx hq t_ k_ => XS.aload hA hx rfl (hb hq at_126) rfl rfl k_) ?_
    show OFin _ _ _ _ _ _ T10 (mkF m 128 #[.val (.int p0), .val (.int p1), .val (.int p2), .val (.int p3), .val (.int p4), .val (.int (Int32.ofNat N)), .val (.int c0), .val (.int c1), .val (.int c2), .val (.int c3), .val (.ref b5), .val (.int (Int32.ofNat d)), .unset] [(.ref b5), (.ref b10), (.ref b10)])
    refine X10.callI (y' := (⟨"com/example/lean_lock/leanlock/redis/ErrorReply", "<init>", "(Ljava/lang/String;)V"⟩ : MethodName)) rfl (hw _ (List.mem_of_getElem? (i := 33) rfl)) (hw _ (List.mem_of_getElem? (i := 34) rfl)) (hw _ (List.mem_of_getElem? (i := 32) rfl)) (hw _ (List.mem_of_getElem? (i := 35) rfl)) (by decide) (a := b10) (argsL := [(.ref b5)]) (rest := [(.ref b10)]) (rm4 l Z a0 hw b10 b5 h10 n0 Fm A10 hn) (g := (mkF m 128 #[.val (.int p0), .val (.int p1), .val (.int p2), .val (.int p3), .val (.int p4), .val (.int (Int32.ofNat N)), .val (.int c0), .val (.int c1), .val (.int c2), .val (.int c3), .val (.ref b5), .val (.int (Int32.ofNat d)), .unset] [(.ref b5), (.ref b10), (.ref b10)])) rfl rfl pd_pLjava_lang_String_r_V rfl rfl (W := 1) (by show 2 * 0 + _ ≤ _; exact Nat.le_of_eq rfl) at_128 (by decide) (by decide) (by decide) (by decide) ?_
    intro v12 T12 h12 X12 q12
    obtain ⟨rfl, K12, Ee, Fe⟩ := q12
    have B13 := B11.keep K12 (sfS (Safe.exa X10.1.2.1.alike A10 (by decide) (by decide)) sf0)
    show OFin _ _ _ _ _ _ T12 (mkF m 131 #[.val (.int p0), .val (.int p1), .val (.int p2), .val (.int p3), .val (.int p4), .val (.int (Int32.ofNat N)), .val (.int c0), .val (.int c1), .val (.int c2), .val (.int c3), .val (.ref b5), .val (.int (Int32.ofNat d)), .unset] [(.ref b10)])
    have O5 := O4.keep K12 (allS hn all0)
    have m1 : b5 ≠ b10 := by rw [gb10]; exact Nat.ne_of_lt U9.1.lt
    have m2 : t ≠ b10 := by rw [gb10]; exact Nat.ne_of_lt U9.2.2.2.lt
    have S5 := (U9.ext E10).keep K12 (ninS m1 nin0) (ninS m2 nin0)
    refine X12.callVW B13 (y' := (⟨"com/example/lean_lock/leanlock/redis/ErrorReply", "code", "()Ljava/lang/String;"⟩ : MethodName)) (z' := (⟨"com/example/lean_lock/leanlock/redis/ErrorReply", "code", "()Ljava/lang/String;"⟩ : MethodName)) (hw _ (List.mem_of_getElem? (i := 44) rfl)) (hw _ (List.mem_of_getElem? (i := 45) rfl)) (X12.notFace (hw _ (List.mem_of_getElem? (i := 47) rfl)) rfl) (hw _ (List.mem_of_getElem? (i := 47) rfl)) (hw _ (List.mem_of_getElem? (i := 46) rfl)) (hw _ (List.mem_of_getElem? (i := 32) rfl)) (hw _ (List.mem_of_getElem? (i := 48) rfl)) (by decide) Ee (argsL := []) (rest := []) (rm5 l Z a0 hw b10 b5 t N (own_f c0 c1 c2 c3) cs vf h12 n0 Fe S5 hN (own_fok k0 k1 k2 k3) (Nat.le_trans (Nat.le_of_eq O5.1.symm) O5.2.1) (SS.ext O5.2) hcs (SP.ext O5.2) rf) (g := (mkF m 131 #[.val (.int p0), .val (.int p1), .val (.int p2), .val (.int p3), .val (.int p4), .val (.int (Int32.ofNat N)), .val (.int c0), .val (.int c1), .val (.int c2), .val (.int c3), .val (.ref b5), .val (.int (Int32.ofNat d)), .unset] [(.ref b10)])) rfl rfl pd_pr_Ljava_lang_String_ rfl rfl (W := 0) (by show 2 * 0 + _ ≤ _; exact Nat.le_of_eq rfl) at_131 (by decide) (by decide) (by decide) (by decide) ?_
    intro v14 T14 h14 vm14 X14 B14 G14 Sf14 q14
    obtain ⟨r, t2, d2, rfl, V14, I2, K14⟩ := q14
    show OFin _ _ _ _ _ _ T14 (mkF m 134 #[.val (.int p0), .val (.int p1), .val (.int p2), .val (.int p3), .val (.int p4), .val (.int (Int32.ofNat N)), .val (.int c0), .val (.int c1), .val (.int c2), .val (.int c3), .val (.ref b5), .val (.int (Int32.ofNat d)), .unset] [(.ref r)])
    have O6 := O5.keep K14 all0
    have ed : d2 = d := I2.uniq hd
    subst ed
    have hdN : d2 ≤ 4 := Nat.le_trans hd.1 hN
    show OFin _ _ _ _ _ _ T14 (mkF m 134 #[.val (.int p0), .val (.int p1), .val (.int p2), .val (.int p3), .val (.int p4), .val (.int (Int32.ofNat N)), .val (.int c0), .val (.int c1), .val (.int c2), .val (.int c3), .val (.ref b5), .val (.int (Int32.ofNat d2)), .unset] [(.ref r)])
    refine X14.step (fun hA hx hq t_ k_ => XS.astore hA hx rfl (hb hq at_134) rfl rfl (l' := #[.val (.int p0), .val (.int p1), .val (.int p2), .val (.int p3), .val (.int p4), .val (.int (Int32.ofNat N)), .val (.int c0), .val (.int c1), .val (.int c2), .val (.int c3), .val (.ref b5), .val (.int (Int32.ofNat d2)), .val (.ref r)]) rfl k_) ?_
    show OFin _ _ _ _ _ _ T14 (mkF m 136 #[.val (.int p0), .val (.int p1), .val (.int p2), .val (.int p3), .val (.int p4), .val (.int (Int32.ofNat N)), .val (.int c0), .val (.int c1), .val (.int c2), .val (.int c3), .val (.ref b5), .val (.int (Int32.ofNat d2)), .val (.ref r)] [])
    refine X14.step (fun hA hx hq t_ k_ => XS.aload hA hx rfl (hb hq at_136) rfl rfl k_) ?_
    show OFin _ _ _ _ _ _ T14 (mkF m 138 #[.val (.int p0), .val (.int p1), .val (.int p2), .val (.int p3), .val (.int p4), .val (.int (Int32.ofNat N)), .val (.int c0), .val (.int c1), .val (.int c2), .val (.int c3), .val (.ref b5), .val (.int (Int32.ofNat d2)), .val (.ref r)] [(.ref r)])
    refine X14.callV (y' := (⟨"java/lang/String", "length", "()I"⟩ : MethodName)) (z' := (⟨"java/lang/String", "length", "()I"⟩ : MethodName)) (hw _ (List.mem_of_getElem? (i := 89) rfl)) (hw _ (List.mem_of_getElem? (i := 66) rfl)) (X14.notFace (hw _ (List.mem_of_getElem? (i := 68) rfl)) rfl) (hw _ (List.mem_of_getElem? (i := 68) rfl)) (hw _ (List.mem_of_getElem? (i := 67) rfl)) (hw _ (List.mem_of_getElem? (i := 7) rfl)) (hw _ (List.mem_of_getElem? (i := 69) rfl)) (by decide) V14.1 (argsL := []) (rest := []) (sl2 l Z a0 hw r t2 d2 (own_f c0 c1 c2 c3) cs h14 n0 V14 (by omega) (SS.ext O6.2) hcs) (g := (mkF m 138 #[.val (.int p0), .val (.int p1), .val (.int p2), .val (.int p3), .val (.int p4), .val (.int (Int32.ofNat N)), .val (.int c0), .val (.int c1), .val (.int c2), .val (.int c3), .val (.ref b5), .val (.int (Int32.ofNat d2)), .val (.ref r)] [(.ref r)])) rfl rfl pd_pr_I rfl rfl (W := 0) (by show 2 * 0 + _ ≤ _; exact Nat.le_of_eq rfl) at_138 (by decide) (by decide) (by decide) (by decide) ?_
    intro v15 T15 h15 X15 q15
    obtain ⟨rfl, rfl⟩ := q15
    show OFin _ _ _ _ _ _ T15 (mkF m 141 #[.val (.int p0), .val (.int p1), .val (.int p2), .val (.int p3), .val (.int p4), .val (.int (Int32.ofNat N)), .val (.int c0), .val (.int c1), .val (.int c2), .val (.int c3), .val (.ref b5), .val (.int (Int32.ofNat d2)), .val (.ref r)] [(.int (Int32.ofNat d2))])
    refine X15.step (fun hA hx hq t_ k_ => XS.iload hA hx rfl (hb hq at_141) rfl k_) ?_
    show OFin _ _ _ _ _ _ T15 (mkF m 143 #[.val (.int p0), .val (.int p1), .val (.int p2), .val (.int p3), .val (.int p4), .val (.int (Int32.ofNat N)), .val (.int c0), .val (.int c1), .val (.int c2), .val (.int c3), .val (.ref b5), .val (.int (Int32.ofNat d2)), .val (.ref r)] [(.int (Int32.ofNat d2)), (.int (Int32.ofNat d2))])
    refine X15.step (fun hA hx hq t_ k_ => XS.icmpYes hA hx rfl (pc0 := 143) (pc' := 148) rfl (hb hq at_143) rfl (teq ((rfl : (Int32.ofNat d2) = (Int32.ofNat d2)))).1 (by decide) (by decide) k_) ?_
    show OFin _ _ _ _ _ _ T15 (mkF m 148 #[.val (.int p0), .val (.int p1), .val (.int p2), .val (.int p3), .val (.int p4), .val (.int (Int32.ofNat N)), .val (.int c0), .val (.int c1), .val (.int c2), .val (.int c3), .val (.ref b5), .val (.int (Int32.ofNat d2)), .val (.ref r)] [])
    rcases (by omega : d2 = 0 ∨ d2 = 1 ∨ d2 = 2 ∨ d2 = 3 ∨ d2 = 4) with rfl | rfl | rfl | rfl | rfl
    · show OFin _ _ _ _ _ _ T15 (mkF m 148 #[.val (.int p0), .val (.int p1), .val (.int p2), .val (.int p3), .val (.int p4), .val (.int (Int32.ofNat N)), .val (.int c0), .val (.int c1), .val (.int c2), .val (.int c3), .val (.ref b5), .val (.int (0 : Int32)), .val (.ref r)] [])
      refine X15.step (fun hA hx hq t_ k_ => XS.iload hA hx rfl (hb hq at_148) rfl k_) ?_
      show OFin _ _ _ _ _ _ T15 (mkF m 150 #[.val (.int p0), .val (.int p1), .val (.int p2), .val (.int p3), .val (.int p4), .val (.int (Int32.ofNat N)), .val (.int c0), .val (.int c1), .val (.int c2), .val (.int c3), .val (.ref b5), .val (.int (0 : Int32)), .val (.ref r)] [(.int (0 : Int32))])
      refine X15.step (fun hA hx hq t_ k_ => XS.ifYes hA hx rfl (pc0 := 150) (pc' := 166) rfl (hb hq at_150) rfl ((if0 _ _).trans (flt ((by decide))).2.2.2) (by decide) (by decide) k_) ?_
      show OFin _ _ _ _ _ _ T15 (mkF m 166 #[.val (.int p0), .val (.int p1), .val (.int p2), .val (.int p3), .val (.int p4), .val (.int (Int32.ofNat N)), .val (.int c0), .val (.int c1), .val (.int c2), .val (.int c3), .val (.ref b5), .val (.int (0 : Int32)), .val (.ref r)] [])
      refine X15.step (fun hA hx hq t_ k_ => XS.iload hA hx rfl (hb hq at_166) rfl k_) ?_
      show OFin _ _ _ _ _ _ T15 (mkF m 168 #[.val (.int p0), .val (.int p1), .val (.int p2), .val (.int p3), .val (.int p4), .val (.int (Int32.ofNat N)), .val (.int c0), .val (.int c1), .val (.int c2), .val (.int c3), .val (.ref b5), .val (.int (0 : Int32)), .val (.ref r)] [(.int (0 : Int32))])
      refine X15.step (fun hA hx hq t_ k_ => XS.iconst hA hx rfl (hb hq at_168) k_) ?_
      show OFin _ _ _ _ _ _ T15 (mkF m 169 #[.val (.int p0), .val (.int p1), .val (.int p2), .val (.int p3), .val (.int p4), .val (.int (Int32.ofNat N)), .val (.int c0), .val (.int c1), .val (.int c2), .val (.int c3), .val (.ref b5), .val (.int (0 : Int32)), .val (.ref r)] [(.int (1 : Int32)), (.int (0 : Int32))])
      refine X15.step (fun hA hx hq t_ k_ => XS.icmpYes hA hx rfl (pc0 := 169) (pc' := 185) rfl (hb hq at_169) rfl (flt ((by decide))).2.2.2 (by decide) (by decide) k_) ?_
      show OFin _ _ _ _ _ _ T15 (mkF m 185 #[.val (.int p0), .val (.int p1), .val (.int p2), .val (.int p3), .val (.int p4), .val (.int (Int32.ofNat N)), .val (.int c0), .val (.int c1), .val (.int c2), .val (.int c3), .val (.ref b5), .val (.int (0 : Int32)), .val (.ref r)] [])
      refine X15.step (fun hA hx hq t_ k_ => XS.iload hA hx rfl (hb hq at_185) rfl k_) ?_
      show OFin _ _ _ _ _ _ T15 (mkF m 187 #[.val (.int p0), .val (.int p1), .val (.int p2), .val (.int p3), .val (.int p4), .val (.int (Int32.ofNat N)), .val (.int c0), .val (.int c1), .val (.int c2), .val (.int c3), .val (.ref b5), .val (.int (0 : Int32)), .val (.ref r)] [(.int (0 : Int32))])
      refine X15.step (fun hA hx hq t_ k_ => XS.iconst hA hx rfl (hb hq at_187) k_) ?_
      show OFin _ _ _ _ _ _ T15 (mkF m 188 #[.val (.int p0), .val (.int p1), .val (.int p2), .val (.int p3), .val (.int p4), .val (.int (Int32.ofNat N)), .val (.int c0), .val (.int c1), .val (.int c2), .val (.int c3), .val (.ref b5), .val (.int (0 : Int32)), .val (.ref r)] [(.int (2 : Int32)), (.int (0 : Int32))])
      refine X15.step (fun hA hx hq t_ k_ => XS.icmpYes hA hx rfl (pc0 := 188) (pc' := 204) rfl (hb hq at_188) rfl (flt ((by decide))).2.2.2 (by decide) (by decide) k_) ?_
      show OFin _ _ _ _ _ _ T15 (mkF m 204 #[.val (.int p0), .val (.int p1), .val (.int p2), .val (.int p3), .val (.int p4), .val (.int (Int32.ofNat N)), .val (.int c0), .val (.int c1), .val (.int c2), .val (.int c3), .val (.ref b5), .val (.int (0 : Int32)), .val (.ref r)] [])
      refine X15.step (fun hA hx hq t_ k_ => XS.iload hA hx rfl (hb hq at_204) rfl k_) ?_
      show OFin _ _ _ _ _ _ T15 (mkF m 206 #[.val (.int p0), .val (.int p1), .val (.int p2), .val (.int p3), .val (.int p4), .val (.int (Int32.ofNat N)), .val (.int c0), .val (.int c1), .val (.int c2), .val (.int c3), .val (.ref b5), .val (.int (0 : Int32)), .val (.ref r)] [(.int (0 : Int32))])
      refine X15.step (fun hA hx hq t_ k_ => XS.iconst hA hx rfl (hb hq at_206) k_) ?_
      show OFin _ _ _ _ _ _ T15 (mkF m 207 #[.val (.int p0), .val (.int p1), .val (.int p2), .val (.int p3), .val (.int p4), .val (.int (Int32.ofNat N)), .val (.int c0), .val (.int c1), .val (.int c2), .val (.int c3), .val (.ref b5), .val (.int (0 : Int32)), .val (.ref r)] [(.int (3 : Int32)), (.int (0 : Int32))])
      refine X15.step (fun hA hx hq t_ k_ => XS.icmpYes hA hx rfl (pc0 := 207) (pc' := 223) rfl (hb hq at_207) rfl (flt ((by decide))).2.2.2 (by decide) (by decide) k_) ?_
      show OFin _ _ _ _ _ _ T15 (mkF m 223 #[.val (.int p0), .val (.int p1), .val (.int p2), .val (.int p3), .val (.int p4), .val (.int (Int32.ofNat N)), .val (.int c0), .val (.int c1), .val (.int c2), .val (.int c3), .val (.ref b5), .val (.int (0 : Int32)), .val (.ref r)] [])
      refine X15.step (fun hA hx hq t_ k_ => XS.iconst hA hx rfl (hb hq at_223) k_) ?_
      show OFin _ _ _ _ _ _ T15 (mkF m 224 #[.val (.int p0), .val (.int p1), .val (.int p2), .val (.int p3), .val (.int p4), .val (.int (Int32.ofNat N)), .val (.int c0), .val (.int c1), .val (.int c2), .val (.int c3), .val (.ref b5), .val (.int (0 : Int32)), .val (.ref r)] [(.int (1 : Int32))])
      exact X15.retN (by simp) at_224 (oW X15 B14 (by decide) (by decide)) (rfl)
    · show OFin _ _ _ _ _ _ T15 (mkF m 148 #[.val (.int p0), .val (.int p1), .val (.int p2), .val (.int p3), .val (.int p4), .val (.int (Int32.ofNat N)), .val (.int c0), .val (.int c1), .val (.int c2), .val (.int c3), .val (.ref b5), .val (.int (1 : Int32)), .val (.ref r)] [])
      refine X15.step (fun hA hx hq t_ k_ => XS.iload hA hx rfl (hb hq at_148) rfl k_) ?_
      show OFin _ _ _ _ _ _ T15 (mkF m 150 #[.val (.int p0), .val (.int p1), .val (.int p2), .val (.int p3), .val (.int p4), .val (.int (Int32.ofNat N)), .val (.int c0), .val (.int c1), .val (.int c2), .val (.int c3), .val (.ref b5), .val (.int (1 : Int32)), .val (.ref r)] [(.int (1 : Int32))])
      refine X15.step (fun hA hx hq t_ k_ => XS.ifNo hA hx rfl (hb hq at_150) rfl ((if0 _ _).trans (tlt ((by decide))).2.2.2) k_) ?_
      show OFin _ _ _ _ _ _ T15 (mkF m 153 #[.val (.int p0), .val (.int p1), .val (.int p2), .val (.int p3), .val (.int p4), .val (.int (Int32.ofNat N)), .val (.int c0), .val (.int c1), .val (.int c2), .val (.int c3), .val (.ref b5), .val (.int (1 : Int32)), .val (.ref r)] [])
      refine X15.step (fun hA hx hq t_ k_ => XS.aload hA hx rfl (hb hq at_153) rfl rfl k_) ?_
      show OFin _ _ _ _ _ _ T15 (mkF m 155 #[.val (.int p0), .val (.int p1), .val (.int p2), .val (.int p3), .val (.int p4), .val (.int (Int32.ofNat N)), .val (.int c0), .val (.int c1), .val (.int c2), .val (.int c3), .val (.ref b5), .val (.int (1 : Int32)), .val (.ref r)] [(.ref r)])
      refine X15.step (fun hA hx hq t_ k_ => XS.iconst hA hx rfl (hb hq at_155) k_) ?_
      show OFin _ _ _ _ _ _ T15 (mkF m 156 #[.val (.int p0), .val (.int p1), .val (.int p2), .val (.int p3), .val (.int p4), .val (.int (Int32.ofNat N)), .val (.int c0), .val (.int c1), .val (.int c2), .val (.int c3), .val (.ref b5), .val (.int (1 : Int32)), .val (.ref r)] [(.int (0 : Int32)), (.ref r)])
      refine X15.callV (y' := (⟨"java/lang/String", "charAt", "(I)C"⟩ : MethodName)) (z' := (⟨"java/lang/String", "charAt", "(I)C"⟩ : MethodName)) (hw _ (List.mem_of_getElem? (i := 103) rfl)) (hw _ (List.mem_of_getElem? (i := 104) rfl)) (X15.notFace (hw _ (List.mem_of_getElem? (i := 106) rfl)) rfl) (hw _ (List.mem_of_getElem? (i := 106) rfl)) (hw _ (List.mem_of_getElem? (i := 105) rfl)) (hw _ (List.mem_of_getElem? (i := 7) rfl)) (hw _ (List.mem_of_getElem? (i := 107) rfl)) (by decide) V14.1 (argsL := [(.int (0 : Int32))]) (rest := []) (sc5 l Z a0 hw r t2 1 (own_f c0 c1 c2 c3) 0 cs vf h14 n0 V14 (by decide) (by decide) ((own_fok k0 k1 k2 k3) 0) (SS.ext O6.2) hcs (SP.ext O6.2) rf) (g := (mkF m 156 #[.val (.int p0), .val (.int p1), .val (.int p2), .val (.int p3), .val (.int p4), .val (.int (Int32.ofNat N)), .val (.int c0), .val (.int c1), .val (.int c2), .val (.int c3), .val (.ref b5), .val (.int (1 : Int32)), .val (.ref r)] [(.int (0 : Int32)), (.ref r)])) rfl rfl pd_pIr_C rfl rfl (W := 0) (by show 2 * 0 + _ ≤ _; exact Nat.le_of_eq rfl) at_156 (by decide) (by decide) (by decide) (by decide) ?_
      intro v16 T16 h16 X16 q16
      obtain ⟨rfl, rfl⟩ := q16
      show OFin _ _ _ _ _ _ T16 (mkF m 159 #[.val (.int p0), .val (.int p1), .val (.int p2), .val (.int p3), .val (.int p4), .val (.int (Int32.ofNat N)), .val (.int c0), .val (.int c1), .val (.int c2), .val (.int c3), .val (.ref b5), .val (.int (1 : Int32)), .val (.ref r)] [(.int ((own_f c0 c1 c2 c3) 0))])
      refine X16.step (fun hA hx hq t_ k_ => XS.iload hA hx rfl (hb hq at_159) rfl k_) ?_
      show OFin _ _ _ _ _ _ T16 (mkF m 161 #[.val (.int p0), .val (.int p1), .val (.int p2), .val (.int p3), .val (.int p4), .val (.int (Int32.ofNat N)), .val (.int c0), .val (.int c1), .val (.int c2), .val (.int c3), .val (.ref b5), .val (.int (1 : Int32)), .val (.ref r)] [(.int c0), (.int ((own_f c0 c1 c2 c3) 0))])
      refine X16.step (fun hA hx hq t_ k_ => XS.icmpYes hA hx rfl (pc0 := 161) (pc' := 166) rfl (hb hq at_161) rfl (teq ((rfl : (own_f c0 c1 c2 c3) 0 = c0))).1 (by decide) (by decide) k_) ?_
      show OFin _ _ _ _ _ _ T16 (mkF m 166 #[.val (.int p0), .val (.int p1), .val (.int p2), .val (.int p3), .val (.int p4), .val (.int (Int32.ofNat N)), .val (.int c0), .val (.int c1), .val (.int c2), .val (.int c3), .val (.ref b5), .val (.int (1 : Int32)), .val (.ref r)] [])
      refine X16.step (fun hA hx hq t_ k_ => XS.iload hA hx rfl (hb hq at_166) rfl k_) ?_
      show OFin _ _ _ _ _ _ T16 (mkF m 168 #[.val (.int p0), .val (.int p1), .val (.int p2), .val (.int p3), .val (.int p4), .val (.int (Int32.ofNat N)), .val (.int c0), .val (.int c1), .val (.int c2), .val (.int c3), .val (.ref b5), .val (.int (1 : Int32)), .val (.ref r)] [(.int (1 : Int32))])
      refine X16.step (fun hA hx hq t_ k_ => XS.iconst hA hx rfl (hb hq at_168) k_) ?_
      show OFin _ _ _ _ _ _ T16 (mkF m 169 #[.val (.int p0), .val (.int p1), .val (.int p2), .val (.int p3), .val (.int p4), .val (.int (Int32.ofNat N)), .val (.int c0), .val (.int c1), .val (.int c2), .val (.int c3), .val (.ref b5), .val (.int (1 : Int32)), .val (.ref r)] [(.int (1 : Int32)), (.int (1 : Int32))])
      refine X16.step (fun hA hx hq t_ k_ => XS.icmpYes hA hx rfl (pc0 := 169) (pc' := 185) rfl (hb hq at_169) rfl (flt ((by decide))).2.2.2 (by decide) (by decide) k_) ?_
      show OFin _ _ _ _ _ _ T16 (mkF m 185 #[.val (.int p0), .val (.int p1), .val (.int p2), .val (.int p3), .val (.int p4), .val (.int (Int32.ofNat N)), .val (.int c0), .val (.int c1), .val (.int c2), .val (.int c3), .val (.ref b5), .val (.int (1 : Int32)), .val (.ref r)] [])
      refine X16.step (fun hA hx hq t_ k_ => XS.iload hA hx rfl (hb hq at_185) rfl k_) ?_
      show OFin _ _ _ _ _ _ T16 (mkF m 187 #[.val (.int p0), .val (.int p1), .val (.int p2), .val (.int p3), .val (.int p4), .val (.int (Int32.ofNat N)), .val (.int c0), .val (.int c1), .val (.int c2), .val (.int c3), .val (.ref b5), .val (.int (1 : Int32)), .val (.ref r)] [(.int (1 : Int32))])
      refine X16.step (fun hA hx hq t_ k_ => XS.iconst hA hx rfl (hb hq at_187) k_) ?_
      show OFin _ _ _ _ _ _ T16 (mkF m 188 #[.val (.int p0), .val (.int p1), .val (.int p2), .val (.int p3), .val (.int p4), .val (.int (Int32.ofNat N)), .val (.int c0), .val (.int c1), .val (.int c2), .val (.int c3), .val (.ref b5), .val (.int (1 : Int32)), .val (.ref r)] [(.int (2 : Int32)), (.int (1 : Int32))])
      refine X16.step (fun hA hx hq t_ k_ => XS.icmpYes hA hx rfl (pc0 := 188) (pc' := 204) rfl (hb hq at_188) rfl (flt ((by decide))).2.2.2 (by decide) (by decide) k_) ?_
      show OFin _ _ _ _ _ _ T16 (mkF m 204 #[.val (.int p0), .val (.int p1), .val (.int p2), .val (.int p3), .val (.int p4), .val (.int (Int32.ofNat N)), .val (.int c0), .val (.int c1), .val (.int c2), .val (.int c3), .val (.ref b5), .val (.int (1 : Int32)), .val (.ref r)] [])
      refine X16.step (fun hA hx hq t_ k_ => XS.iload hA hx rfl (hb hq at_204) rfl k_) ?_
      show OFin _ _ _ _ _ _ T16 (mkF m 206 #[.val (.int p0), .val (.int p1), .val (.int p2), .val (.int p3), .val (.int p4), .val (.int (Int32.ofNat N)), .val (.int c0), .val (.int c1), .val (.int c2), .val (.int c3), .val (.ref b5), .val (.int (1 : Int32)), .val (.ref r)] [(.int (1 : Int32))])
      refine X16.step (fun hA hx hq t_ k_ => XS.iconst hA hx rfl (hb hq at_206) k_) ?_
      show OFin _ _ _ _ _ _ T16 (mkF m 207 #[.val (.int p0), .val (.int p1), .val (.int p2), .val (.int p3), .val (.int p4), .val (.int (Int32.ofNat N)), .val (.int c0), .val (.int c1), .val (.int c2), .val (.int c3), .val (.ref b5), .val (.int (1 : Int32)), .val (.ref r)] [(.int (3 : Int32)), (.int (1 : Int32))])
      refine X16.step (fun hA hx hq t_ k_ => XS.icmpYes hA hx rfl (pc0 := 207) (pc' := 223) rfl (hb hq at_207) rfl (flt ((by decide))).2.2.2 (by decide) (by decide) k_) ?_
      show OFin _ _ _ _ _ _ T16 (mkF m 223 #[.val (.int p0), .val (.int p1), .val (.int p2), .val (.int p3), .val (.int p4), .val (.int (Int32.ofNat N)), .val (.int c0), .val (.int c1), .val (.int c2), .val (.int c3), .val (.ref b5), .val (.int (1 : Int32)), .val (.ref r)] [])
      refine X16.step (fun hA hx hq t_ k_ => XS.iconst hA hx rfl (hb hq at_223) k_) ?_
      show OFin _ _ _ _ _ _ T16 (mkF m 224 #[.val (.int p0), .val (.int p1), .val (.int p2), .val (.int p3), .val (.int p4), .val (.int (Int32.ofNat N)), .val (.int c0), .val (.int c1), .val (.int c2), .val (.int c3), .val (.ref b5), .val (.int (1 : Int32)), .val (.ref r)] [(.int (1 : Int32))])
      exact X16.retN (by simp) at_224 (oW X16 B14 (by decide) (by decide)) (rfl)
    · show OFin _ _ _ _ _ _ T15 (mkF m 148 #[.val (.int p0), .val (.int p1), .val (.int p2), .val (.int p3), .val (.int p4), .val (.int (Int32.ofNat N)), .val (.int c0), .val (.int c1), .val (.int c2), .val (.int c3), .val (.ref b5), .val (.int (2 : Int32)), .val (.ref r)] [])
      refine X15.step (fun hA hx hq t_ k_ => XS.iload hA hx rfl (hb hq at_148) rfl k_) ?_
      show OFin _ _ _ _ _ _ T15 (mkF m 150 #[.val (.int p0), .val (.int p1), .val (.int p2), .val (.int p3), .val (.int p4), .val (.int (Int32.ofNat N)), .val (.int c0), .val (.int c1), .val (.int c2), .val (.int c3), .val (.ref b5), .val (.int (2 : Int32)), .val (.ref r)] [(.int (2 : Int32))])
      refine X15.step (fun hA hx hq t_ k_ => XS.ifNo hA hx rfl (hb hq at_150) rfl ((if0 _ _).trans (tlt ((by decide))).2.2.2) k_) ?_
      show OFin _ _ _ _ _ _ T15 (mkF m 153 #[.val (.int p0), .val (.int p1), .val (.int p2), .val (.int p3), .val (.int p4), .val (.int (Int32.ofNat N)), .val (.int c0), .val (.int c1), .val (.int c2), .val (.int c3), .val (.ref b5), .val (.int (2 : Int32)), .val (.ref r)] [])
      refine X15.step (fun hA hx hq t_ k_ => XS.aload hA hx rfl (hb hq at_153) rfl rfl k_) ?_
      show OFin _ _ _ _ _ _ T15 (mkF m 155 #[.val (.int p0), .val (.int p1), .val (.int p2), .val (.int p3), .val (.int p4), .val (.int (Int32.ofNat N)), .val (.int c0), .val (.int c1), .val (.int c2), .val (.int c3), .val (.ref b5), .val (.int (2 : Int32)), .val (.ref r)] [(.ref r)])
      refine X15.step (fun hA hx hq t_ k_ => XS.iconst hA hx rfl (hb hq at_155) k_) ?_
      show OFin _ _ _ _ _ _ T15 (mkF m 156 #[.val (.int p0), .val (.int p1), .val (.int p2), .val (.int p3), .val (.int p4), .val (.int (Int32.ofNat N)), .val (.int c0), .val (.int c1), .val (.int c2), .val (.int c3), .val (.ref b5), .val (.int (2 : Int32)), .val (.ref r)] [(.int (0 : Int32)), (.ref r)])
      refine X15.callV (y' := (⟨"java/lang/String", "charAt", "(I)C"⟩ : MethodName)) (z' := (⟨"java/lang/String", "charAt", "(I)C"⟩ : MethodName)) (hw _ (List.mem_of_getElem? (i := 103) rfl)) (hw _ (List.mem_of_getElem? (i := 104) rfl)) (X15.notFace (hw _ (List.mem_of_getElem? (i := 106) rfl)) rfl) (hw _ (List.mem_of_getElem? (i := 106) rfl)) (hw _ (List.mem_of_getElem? (i := 105) rfl)) (hw _ (List.mem_of_getElem? (i := 7) rfl)) (hw _ (List.mem_of_getElem? (i := 107) rfl)) (by decide) V14.1 (argsL := [(.int (0 : Int32))]) (rest := []) (sc5 l Z a0 hw r t2 2 (own_f c0 c1 c2 c3) 0 cs vf h14 n0 V14 (by decide) (by decide) ((own_fok k0 k1 k2 k3) 0) (SS.ext O6.2) hcs (SP.ext O6.2) rf) (g := (mkF m 156 #[.val (.int p0), .val (.int p1), .val (.int p2), .val (.int p3), .val (.int p4), .val (.int (Int32.ofNat N)), .val (.int c0), .val (.int c1), .val (.int c2), .val (.int c3), .val (.ref b5), .val (.int (2 : Int32)), .val (.ref r)] [(.int (0 : Int32)), (.ref r)])) rfl rfl pd_pIr_C rfl rfl (W := 0) (by show 2 * 0 + _ ≤ _; exact Nat.le_of_eq rfl) at_156 (by decide) (by decide) (by decide) (by decide) ?_
      intro v17 T17 h17 X17 q17
      obtain ⟨rfl, rfl⟩ := q17
      show OFin _ _ _ _ _ _ T17 (mkF m 159 #[.val (.int p0), .val (.int p1), .val (.int p2), .val (.int p3), .val (.int p4), .val (.int (Int32.ofNat N)), .val (.int c0), .val (.int c1), .val (.int c2), .val (.int c3), .val (.ref b5), .val (.int (2 : Int32)), .val (.ref r)] [(.int ((own_f c0 c1 c2 c3) 0))])
      refine X17.step (fun hA hx hq t_ k_ => XS.iload hA hx rfl (hb hq at_159) rfl k_) ?_
      show OFin _ _ _ _ _ _ T17 (mkF m 161 #[.val (.int p0), .val (.int p1), .val (.int p2), .val (.int p3), .val (.int p4), .val (.int (Int32.ofNat N)), .val (.int c0), .val (.int c1), .val (.int c2), .val (.int c3), .val (.ref b5), .val (.int (2 : Int32)), .val (.ref r)] [(.int c0), (.int ((own_f c0 c1 c2 c3) 0))])
      refine X17.step (fun hA hx hq t_ k_ => XS.icmpYes hA hx rfl (pc0 := 161) (pc' := 166) rfl (hb hq at_161) rfl (teq ((rfl : (own_f c0 c1 c2 c3) 0 = c0))).1 (by decide) (by decide) k_) ?_
      show OFin _ _ _ _ _ _ T17 (mkF m 166 #[.val (.int p0), .val (.int p1), .val (.int p2), .val (.int p3), .val (.int p4), .val (.int (Int32.ofNat N)), .val (.int c0), .val (.int c1), .val (.int c2), .val (.int c3), .val (.ref b5), .val (.int (2 : Int32)), .val (.ref r)] [])
      refine X17.step (fun hA hx hq t_ k_ => XS.iload hA hx rfl (hb hq at_166) rfl k_) ?_
      show OFin _ _ _ _ _ _ T17 (mkF m 168 #[.val (.int p0), .val (.int p1), .val (.int p2), .val (.int p3), .val (.int p4), .val (.int (Int32.ofNat N)), .val (.int c0), .val (.int c1), .val (.int c2), .val (.int c3), .val (.ref b5), .val (.int (2 : Int32)), .val (.ref r)] [(.int (2 : Int32))])
      refine X17.step (fun hA hx hq t_ k_ => XS.iconst hA hx rfl (hb hq at_168) k_) ?_
      show OFin _ _ _ _ _ _ T17 (mkF m 169 #[.val (.int p0), .val (.int p1), .val (.int p2), .val (.int p3), .val (.int p4), .val (.int (Int32.ofNat N)), .val (.int c0), .val (.int c1), .val (.int c2), .val (.int c3), .val (.ref b5), .val (.int (2 : Int32)), .val (.ref r)] [(.int (1 : Int32)), (.int (2 : Int32))])
      refine X17.step (fun hA hx hq t_ k_ => XS.icmpNo hA hx rfl (hb hq at_169) rfl (tlt ((by decide))).2.2.2 k_) ?_
      show OFin _ _ _ _ _ _ T17 (mkF m 172 #[.val (.int p0), .val (.int p1), .val (.int p2), .val (.int p3), .val (.int p4), .val (.int (Int32.ofNat N)), .val (.int c0), .val (.int c1), .val (.int c2), .val (.int c3), .val (.ref b5), .val (.int (2 : Int32)), .val (.ref r)] [])
      refine X17.step (fun hA hx hq t_ k_ => XS.aload hA hx rfl (hb hq at_172) rfl rfl k_) ?_
      show OFin _ _ _ _ _ _ T17 (mkF m 174 #[.val (.int p0), .val (.int p1), .val (.int p2), .val (.int p3), .val (.int p4), .val (.int (Int32.ofNat N)), .val (.int c0), .val (.int c1), .val (.int c2), .val (.int c3), .val (.ref b5), .val (.int (2 : Int32)), .val (.ref r)] [(.ref r)])
      refine X17.step (fun hA hx hq t_ k_ => XS.iconst hA hx rfl (hb hq at_174) k_) ?_
      show OFin _ _ _ _ _ _ T17 (mkF m 175 #[.val (.int p0), .val (.int p1), .val (.int p2), .val (.int p3), .val (.int p4), .val (.int (Int32.ofNat N)), .val (.int c0), .val (.int c1), .val (.int c2), .val (.int c3), .val (.ref b5), .val (.int (2 : Int32)), .val (.ref r)] [(.int (1 : Int32)), (.ref r)])
      refine X17.callV (y' := (⟨"java/lang/String", "charAt", "(I)C"⟩ : MethodName)) (z' := (⟨"java/lang/String", "charAt", "(I)C"⟩ : MethodName)) (hw _ (List.mem_of_getElem? (i := 103) rfl)) (hw _ (List.mem_of_getElem? (i := 104) rfl)) (X17.notFace (hw _ (List.mem_of_getElem? (i := 106) rfl)) rfl) (hw _ (List.mem_of_getElem? (i := 106) rfl)) (hw _ (List.mem_of_getElem? (i := 105) rfl)) (hw _ (List.mem_of_getElem? (i := 7) rfl)) (hw _ (List.mem_of_getElem? (i := 107) rfl)) (by decide) V14.1 (argsL := [(.int (1 : Int32))]) (rest := []) (sc5 l Z a0 hw r t2 2 (own_f c0 c1 c2 c3) 1 cs vf h14 n0 V14 (by decide) (by decide) ((own_fok k0 k1 k2 k3) 1) (SS.ext O6.2) hcs (SP.ext O6.2) rf) (g := (mkF m 175 #[.val (.int p0), .val (.int p1), .val (.int p2), .val (.int p3), .val (.int p4), .val (.int (Int32.ofNat N)), .val (.int c0), .val (.int c1), .val (.int c2), .val (.int c3), .val (.ref b5), .val (.int (2 : Int32)), .val (.ref r)] [(.int (1 : Int32)), (.ref r)])) rfl rfl pd_pIr_C rfl rfl (W := 0) (by show 2 * 0 + _ ≤ _; exact Nat.le_of_eq rfl) at_175 (by decide) (by decide) (by decide) (by decide) ?_
      intro v18 T18 h18 X18 q18
      obtain ⟨rfl, rfl⟩ := q18
      show OFin _ _ _ _ _ _ T18 (mkF m 178 #[.val (.int p0), .val (.int p1), .val (.int p2), .val (.int p3), .val (.int p4), .val (.int (Int32.ofNat N)), .val (.int c0), .val (.int c1), .val (.int c2), .val (.int c3), .val (.ref b5), .val (.int (2 : Int32)), .val (.ref r)] [(.int ((own_f c0 c1 c2 c3) 1))])
      refine X18.step (fun hA hx hq t_ k_ => XS.iload hA hx rfl (hb hq at_178) rfl k_) ?_
      show OFin _ _ _ _ _ _ T18 (mkF m 180 #[.val (.int p0), .val (.int p1), .val (.int p2), .val (.int p3), .val (.int p4), .val (.int (Int32.ofNat N)), .val (.int c0), .val (.int c1), .val (.int c2), .val (.int c3), .val (.ref b5), .val (.int (2 : Int32)), .val (.ref r)] [(.int c1), (.int ((own_f c0 c1 c2 c3) 1))])
      refine X18.step (fun hA hx hq t_ k_ => XS.icmpYes hA hx rfl (pc0 := 180) (pc' := 185) rfl (hb hq at_180) rfl (teq ((rfl : (own_f c0 c1 c2 c3) 1 = c1))).1 (by decide) (by decide) k_) ?_
      show OFin _ _ _ _ _ _ T18 (mkF m 185 #[.val (.int p0), .val (.int p1), .val (.int p2), .val (.int p3), .val (.int p4), .val (.int (Int32.ofNat N)), .val (.int c0), .val (.int c1), .val (.int c2), .val (.int c3), .val (.ref b5), .val (.int (2 : Int32)), .val (.ref r)] [])
      refine X18.step (fun hA hx hq t_ k_ => XS.iload hA hx rfl (hb hq at_185) rfl k_) ?_
      show OFin _ _ _ _ _ _ T18 (mkF m 187 #[.val (.int p0), .val (.int p1), .val (.int p2), .val (.int p3), .val (.int p4), .val (.int (Int32.ofNat N)), .val (.int c0), .val (.int c1), .val (.int c2), .val (.int c3), .val (.ref b5), .val (.int (2 : Int32)), .val (.ref r)] [(.int (2 : Int32))])
      refine X18.step (fun hA hx hq t_ k_ => XS.iconst hA hx rfl (hb hq at_187) k_) ?_
      show OFin _ _ _ _ _ _ T18 (mkF m 188 #[.val (.int p0), .val (.int p1), .val (.int p2), .val (.int p3), .val (.int p4), .val (.int (Int32.ofNat N)), .val (.int c0), .val (.int c1), .val (.int c2), .val (.int c3), .val (.ref b5), .val (.int (2 : Int32)), .val (.ref r)] [(.int (2 : Int32)), (.int (2 : Int32))])
      refine X18.step (fun hA hx hq t_ k_ => XS.icmpYes hA hx rfl (pc0 := 188) (pc' := 204) rfl (hb hq at_188) rfl (flt ((by decide))).2.2.2 (by decide) (by decide) k_) ?_
      show OFin _ _ _ _ _ _ T18 (mkF m 204 #[.val (.int p0), .val (.int p1), .val (.int p2), .val (.int p3), .val (.int p4), .val (.int (Int32.ofNat N)), .val (.int c0), .val (.int c1), .val (.int c2), .val (.int c3), .val (.ref b5), .val (.int (2 : Int32)), .val (.ref r)] [])
      refine X18.step (fun hA hx hq t_ k_ => XS.iload hA hx rfl (hb hq at_204) rfl k_) ?_
      show OFin _ _ _ _ _ _ T18 (mkF m 206 #[.val (.int p0), .val (.int p1), .val (.int p2), .val (.int p3), .val (.int p4), .val (.int (Int32.ofNat N)), .val (.int c0), .val (.int c1), .val (.int c2), .val (.int c3), .val (.ref b5), .val (.int (2 : Int32)), .val (.ref r)] [(.int (2 : Int32))])
      refine X18.step (fun hA hx hq t_ k_ => XS.iconst hA hx rfl (hb hq at_206) k_) ?_
      show OFin _ _ _ _ _ _ T18 (mkF m 207 #[.val (.int p0), .val (.int p1), .val (.int p2), .val (.int p3), .val (.int p4), .val (.int (Int32.ofNat N)), .val (.int c0), .val (.int c1), .val (.int c2), .val (.int c3), .val (.ref b5), .val (.int (2 : Int32)), .val (.ref r)] [(.int (3 : Int32)), (.int (2 : Int32))])
      refine X18.step (fun hA hx hq t_ k_ => XS.icmpYes hA hx rfl (pc0 := 207) (pc' := 223) rfl (hb hq at_207) rfl (flt ((by decide))).2.2.2 (by decide) (by decide) k_) ?_
      show OFin _ _ _ _ _ _ T18 (mkF m 223 #[.val (.int p0), .val (.int p1), .val (.int p2), .val (.int p3), .val (.int p4), .val (.int (Int32.ofNat N)), .val (.int c0), .val (.int c1), .val (.int c2), .val (.int c3), .val (.ref b5), .val (.int (2 : Int32)), .val (.ref r)] [])
      refine X18.step (fun hA hx hq t_ k_ => XS.iconst hA hx rfl (hb hq at_223) k_) ?_
      show OFin _ _ _ _ _ _ T18 (mkF m 224 #[.val (.int p0), .val (.int p1), .val (.int p2), .val (.int p3), .val (.int p4), .val (.int (Int32.ofNat N)), .val (.int c0), .val (.int c1), .val (.int c2), .val (.int c3), .val (.ref b5), .val (.int (2 : Int32)), .val (.ref r)] [(.int (1 : Int32))])
      exact X18.retN (by simp) at_224 (oW X18 B14 (by decide) (by decide)) (rfl)
    · show OFin _ _ _ _ _ _ T15 (mkF m 148 #[.val (.int p0), .val (.int p1), .val (.int p2), .val (.int p3), .val (.int p4), .val (.int (Int32.ofNat N)), .val (.int c0), .val (.int c1), .val (.int c2), .val (.int c3), .val (.ref b5), .val (.int (3 : Int32)), .val (.ref r)] [])
      refine X15.step (fun hA hx hq t_ k_ => XS.iload hA hx rfl (hb hq at_148) rfl k_) ?_
      show OFin _ _ _ _ _ _ T15 (mkF m 150 #[.val (.int p0), .val (.int p1), .val (.int p2), .val (.int p3), .val (.int p4), .val (.int (Int32.ofNat N)), .val (.int c0), .val (.int c1), .val (.int c2), .val (.int c3), .val (.ref b5), .val (.int (3 : Int32)), .val (.ref r)] [(.int (3 : Int32))])
      refine X15.step (fun hA hx hq t_ k_ => XS.ifNo hA hx rfl (hb hq at_150) rfl ((if0 _ _).trans (tlt ((by decide))).2.2.2) k_) ?_
      show OFin _ _ _ _ _ _ T15 (mkF m 153 #[.val (.int p0), .val (.int p1), .val (.int p2), .val (.int p3), .val (.int p4), .val (.int (Int32.ofNat N)), .val (.int c0), .val (.int c1), .val (.int c2), .val (.int c3), .val (.ref b5), .val (.int (3 : Int32)), .val (.ref r)] [])
      refine X15.step (fun hA hx hq t_ k_ => XS.aload hA hx rfl (hb hq at_153) rfl rfl k_) ?_
      show OFin _ _ _ _ _ _ T15 (mkF m 155 #[.val (.int p0), .val (.int p1), .val (.int p2), .val (.int p3), .val (.int p4), .val (.int (Int32.ofNat N)), .val (.int c0), .val (.int c1), .val (.int c2), .val (.int c3), .val (.ref b5), .val (.int (3 : Int32)), .val (.ref r)] [(.ref r)])
      refine X15.step (fun hA hx hq t_ k_ => XS.iconst hA hx rfl (hb hq at_155) k_) ?_
      show OFin _ _ _ _ _ _ T15 (mkF m 156 #[.val (.int p0), .val (.int p1), .val (.int p2), .val (.int p3), .val (.int p4), .val (.int (Int32.ofNat N)), .val (.int c0), .val (.int c1), .val (.int c2), .val (.int c3), .val (.ref b5), .val (.int (3 : Int32)), .val (.ref r)] [(.int (0 : Int32)), (.ref r)])
      refine X15.callV (y' := (⟨"java/lang/String", "charAt", "(I)C"⟩ : MethodName)) (z' := (⟨"java/lang/String", "charAt", "(I)C"⟩ : MethodName)) (hw _ (List.mem_of_getElem? (i := 103) rfl)) (hw _ (List.mem_of_getElem? (i := 104) rfl)) (X15.notFace (hw _ (List.mem_of_getElem? (i := 106) rfl)) rfl) (hw _ (List.mem_of_getElem? (i := 106) rfl)) (hw _ (List.mem_of_getElem? (i := 105) rfl)) (hw _ (List.mem_of_getElem? (i := 7) rfl)) (hw _ (List.mem_of_getElem? (i := 107) rfl)) (by decide) V14.1 (argsL := [(.int (0 : Int32))]) (rest := []) (sc5 l Z a0 hw r t2 3 (own_f c0 c1 c2 c3) 0 cs vf h14 n0 V14 (by decide) (by decide) ((own_fok k0 k1 k2 k3) 0) (SS.ext O6.2) hcs (SP.ext O6.2) rf) (g := (mkF m 156 #[.val (.int p0), .val (.int p1), .val (.int p2), .val (.int p3), .val (.int p4), .val (.int (Int32.ofNat N)), .val (.int c0), .val (.int c1), .val (.int c2), .val (.int c3), .val (.ref b5), .val (.int (3 : Int32)), .val (.ref r)] [(.int (0 : Int32)), (.ref r)])) rfl rfl pd_pIr_C rfl rfl (W := 0) (by show 2 * 0 + _ ≤ _; exact Nat.le_of_eq rfl) at_156 (by decide) (by decide) (by decide) (by decide) ?_
      intro v19 T19 h19 X19 q19
      obtain ⟨rfl, rfl⟩ := q19
      show OFin _ _ _ _ _ _ T19 (mkF m 159 #[.val (.int p0), .val (.int p1), .val (.int p2), .val (.int p3), .val (.int p4), .val (.int (Int32.ofNat N)), .val (.int c0), .val (.int c1), .val (.int c2), .val (.int c3), .val (.ref b5), .val (.int (3 : Int32)), .val (.ref r)] [(.int ((own_f c0 c1 c2 c3) 0))])
      refine X19.step (fun hA hx hq t_ k_ => XS.iload hA hx rfl (hb hq at_159) rfl k_) ?_
      show OFin _ _ _ _ _ _ T19 (mkF m 161 #[.val (.int p0), .val (.int p1), .val (.int p2), .val (.int p3), .val (.int p4), .val (.int (Int32.ofNat N)), .val (.int c0), .val (.int c1), .val (.int c2), .val (.int c3), .val (.ref b5), .val (.int (3 : Int32)), .val (.ref r)] [(.int c0), (.int ((own_f c0 c1 c2 c3) 0))])
      refine X19.step (fun hA hx hq t_ k_ => XS.icmpYes hA hx rfl (pc0 := 161) (pc' := 166) rfl (hb hq at_161) rfl (teq ((rfl : (own_f c0 c1 c2 c3) 0 = c0))).1 (by decide) (by decide) k_) ?_
      show OFin _ _ _ _ _ _ T19 (mkF m 166 #[.val (.int p0), .val (.int p1), .val (.int p2), .val (.int p3), .val (.int p4), .val (.int (Int32.ofNat N)), .val (.int c0), .val (.int c1), .val (.int c2), .val (.int c3), .val (.ref b5), .val (.int (3 : Int32)), .val (.ref r)] [])
      refine X19.step (fun hA hx hq t_ k_ => XS.iload hA hx rfl (hb hq at_166) rfl k_) ?_
      show OFin _ _ _ _ _ _ T19 (mkF m 168 #[.val (.int p0), .val (.int p1), .val (.int p2), .val (.int p3), .val (.int p4), .val (.int (Int32.ofNat N)), .val (.int c0), .val (.int c1), .val (.int c2), .val (.int c3), .val (.ref b5), .val (.int (3 : Int32)), .val (.ref r)] [(.int (3 : Int32))])
      refine X19.step (fun hA hx hq t_ k_ => XS.iconst hA hx rfl (hb hq at_168) k_) ?_
      show OFin _ _ _ _ _ _ T19 (mkF m 169 #[.val (.int p0), .val (.int p1), .val (.int p2), .val (.int p3), .val (.int p4), .val (.int (Int32.ofNat N)), .val (.int c0), .val (.int c1), .val (.int c2), .val (.int c3), .val (.ref b5), .val (.int (3 : Int32)), .val (.ref r)] [(.int (1 : Int32)), (.int (3 : Int32))])
      refine X19.step (fun hA hx hq t_ k_ => XS.icmpNo hA hx rfl (hb hq at_169) rfl (tlt ((by decide))).2.2.2 k_) ?_
      show OFin _ _ _ _ _ _ T19 (mkF m 172 #[.val (.int p0), .val (.int p1), .val (.int p2), .val (.int p3), .val (.int p4), .val (.int (Int32.ofNat N)), .val (.int c0), .val (.int c1), .val (.int c2), .val (.int c3), .val (.ref b5), .val (.int (3 : Int32)), .val (.ref r)] [])
      refine X19.step (fun hA hx hq t_ k_ => XS.aload hA hx rfl (hb hq at_172) rfl rfl k_) ?_
      show OFin _ _ _ _ _ _ T19 (mkF m 174 #[.val (.int p0), .val (.int p1), .val (.int p2), .val (.int p3), .val (.int p4), .val (.int (Int32.ofNat N)), .val (.int c0), .val (.int c1), .val (.int c2), .val (.int c3), .val (.ref b5), .val (.int (3 : Int32)), .val (.ref r)] [(.ref r)])
      refine X19.step (fun hA hx hq t_ k_ => XS.iconst hA hx rfl (hb hq at_174) k_) ?_
      show OFin _ _ _ _ _ _ T19 (mkF m 175 #[.val (.int p0), .val (.int p1), .val (.int p2), .val (.int p3), .val (.int p4), .val (.int (Int32.ofNat N)), .val (.int c0), .val (.int c1), .val (.int c2), .val (.int c3), .val (.ref b5), .val (.int (3 : Int32)), .val (.ref r)] [(.int (1 : Int32)), (.ref r)])
      refine X19.callV (y' := (⟨"java/lang/String", "charAt", "(I)C"⟩ : MethodName)) (z' := (⟨"java/lang/String", "charAt", "(I)C"⟩ : MethodName)) (hw _ (List.mem_of_getElem? (i := 103) rfl)) (hw _ (List.mem_of_getElem? (i := 104) rfl)) (X19.notFace (hw _ (List.mem_of_getElem? (i := 106) rfl)) rfl) (hw _ (List.mem_of_getElem? (i := 106) rfl)) (hw _ (List.mem_of_getElem? (i := 105) rfl)) (hw _ (List.mem_of_getElem? (i := 7) rfl)) (hw _ (List.mem_of_getElem? (i := 107) rfl)) (by decide) V14.1 (argsL := [(.int (1 : Int32))]) (rest := []) (sc5 l Z a0 hw r t2 3 (own_f c0 c1 c2 c3) 1 cs vf h14 n0 V14 (by decide) (by decide) ((own_fok k0 k1 k2 k3) 1) (SS.ext O6.2) hcs (SP.ext O6.2) rf) (g := (mkF m 175 #[.val (.int p0), .val (.int p1), .val (.int p2), .val (.int p3), .val (.int p4), .val (.int (Int32.ofNat N)), .val (.int c0), .val (.int c1), .val (.int c2), .val (.int c3), .val (.ref b5), .val (.int (3 : Int32)), .val (.ref r)] [(.int (1 : Int32)), (.ref r)])) rfl rfl pd_pIr_C rfl rfl (W := 0) (by show 2 * 0 + _ ≤ _; exact Nat.le_of_eq rfl) at_175 (by decide) (by decide) (by decide) (by decide) ?_
      intro v20 T20 h20 X20 q20
      obtain ⟨rfl, rfl⟩ := q20
      show OFin _ _ _ _ _ _ T20 (mkF m 178 #[.val (.int p0), .val (.int p1), .val (.int p2), .val (.int p3), .val (.int p4), .val (.int (Int32.ofNat N)), .val (.int c0), .val (.int c1), .val (.int c2), .val (.int c3), .val (.ref b5), .val (.int (3 : Int32)), .val (.ref r)] [(.int ((own_f c0 c1 c2 c3) 1))])
      refine X20.step (fun hA hx hq t_ k_ => XS.iload hA hx rfl (hb hq at_178) rfl k_) ?_
      show OFin _ _ _ _ _ _ T20 (mkF m 180 #[.val (.int p0), .val (.int p1), .val (.int p2), .val (.int p3), .val (.int p4), .val (.int (Int32.ofNat N)), .val (.int c0), .val (.int c1), .val (.int c2), .val (.int c3), .val (.ref b5), .val (.int (3 : Int32)), .val (.ref r)] [(.int c1), (.int ((own_f c0 c1 c2 c3) 1))])
      refine X20.step (fun hA hx hq t_ k_ => XS.icmpYes hA hx rfl (pc0 := 180) (pc' := 185) rfl (hb hq at_180) rfl (teq ((rfl : (own_f c0 c1 c2 c3) 1 = c1))).1 (by decide) (by decide) k_) ?_
      show OFin _ _ _ _ _ _ T20 (mkF m 185 #[.val (.int p0), .val (.int p1), .val (.int p2), .val (.int p3), .val (.int p4), .val (.int (Int32.ofNat N)), .val (.int c0), .val (.int c1), .val (.int c2), .val (.int c3), .val (.ref b5), .val (.int (3 : Int32)), .val (.ref r)] [])
      refine X20.step (fun hA hx hq t_ k_ => XS.iload hA hx rfl (hb hq at_185) rfl k_) ?_
      show OFin _ _ _ _ _ _ T20 (mkF m 187 #[.val (.int p0), .val (.int p1), .val (.int p2), .val (.int p3), .val (.int p4), .val (.int (Int32.ofNat N)), .val (.int c0), .val (.int c1), .val (.int c2), .val (.int c3), .val (.ref b5), .val (.int (3 : Int32)), .val (.ref r)] [(.int (3 : Int32))])
      refine X20.step (fun hA hx hq t_ k_ => XS.iconst hA hx rfl (hb hq at_187) k_) ?_
      show OFin _ _ _ _ _ _ T20 (mkF m 188 #[.val (.int p0), .val (.int p1), .val (.int p2), .val (.int p3), .val (.int p4), .val (.int (Int32.ofNat N)), .val (.int c0), .val (.int c1), .val (.int c2), .val (.int c3), .val (.ref b5), .val (.int (3 : Int32)), .val (.ref r)] [(.int (2 : Int32)), (.int (3 : Int32))])
      refine X20.step (fun hA hx hq t_ k_ => XS.icmpNo hA hx rfl (hb hq at_188) rfl (tlt ((by decide))).2.2.2 k_) ?_
      show OFin _ _ _ _ _ _ T20 (mkF m 191 #[.val (.int p0), .val (.int p1), .val (.int p2), .val (.int p3), .val (.int p4), .val (.int (Int32.ofNat N)), .val (.int c0), .val (.int c1), .val (.int c2), .val (.int c3), .val (.ref b5), .val (.int (3 : Int32)), .val (.ref r)] [])
      refine X20.step (fun hA hx hq t_ k_ => XS.aload hA hx rfl (hb hq at_191) rfl rfl k_) ?_
      show OFin _ _ _ _ _ _ T20 (mkF m 193 #[.val (.int p0), .val (.int p1), .val (.int p2), .val (.int p3), .val (.int p4), .val (.int (Int32.ofNat N)), .val (.int c0), .val (.int c1), .val (.int c2), .val (.int c3), .val (.ref b5), .val (.int (3 : Int32)), .val (.ref r)] [(.ref r)])
      refine X20.step (fun hA hx hq t_ k_ => XS.iconst hA hx rfl (hb hq at_193) k_) ?_
      show OFin _ _ _ _ _ _ T20 (mkF m 194 #[.val (.int p0), .val (.int p1), .val (.int p2), .val (.int p3), .val (.int p4), .val (.int (Int32.ofNat N)), .val (.int c0), .val (.int c1), .val (.int c2), .val (.int c3), .val (.ref b5), .val (.int (3 : Int32)), .val (.ref r)] [(.int (2 : Int32)), (.ref r)])
      refine X20.callV (y' := (⟨"java/lang/String", "charAt", "(I)C"⟩ : MethodName)) (z' := (⟨"java/lang/String", "charAt", "(I)C"⟩ : MethodName)) (hw _ (List.mem_of_getElem? (i := 103) rfl)) (hw _ (List.mem_of_getElem? (i := 104) rfl)) (X20.notFace (hw _ (List.mem_of_getElem? (i := 106) rfl)) rfl) (hw _ (List.mem_of_getElem? (i := 106) rfl)) (hw _ (List.mem_of_getElem? (i := 105) rfl)) (hw _ (List.mem_of_getElem? (i := 7) rfl)) (hw _ (List.mem_of_getElem? (i := 107) rfl)) (by decide) V14.1 (argsL := [(.int (2 : Int32))]) (rest := []) (sc5 l Z a0 hw r t2 3 (own_f c0 c1 c2 c3) 2 cs vf h14 n0 V14 (by decide) (by decide) ((own_fok k0 k1 k2 k3) 2) (SS.ext O6.2) hcs (SP.ext O6.2) rf) (g := (mkF m 194 #[.val (.int p0), .val (.int p1), .val (.int p2), .val (.int p3), .val (.int p4), .val (.int (Int32.ofNat N)), .val (.int c0), .val (.int c1), .val (.int c2), .val (.int c3), .val (.ref b5), .val (.int (3 : Int32)), .val (.ref r)] [(.int (2 : Int32)), (.ref r)])) rfl rfl pd_pIr_C rfl rfl (W := 0) (by show 2 * 0 + _ ≤ _; exact Nat.le_of_eq rfl) at_194 (by decide) (by decide) (by decide) (by decide) ?_
      intro v21 T21 h21 X21 q21
      obtain ⟨rfl, rfl⟩ := q21
      show OFin _ _ _ _ _ _ T21 (mkF m 197 #[.val (.int p0), .val (.int p1), .val (.int p2), .val (.int p3), .val (.int p4), .val (.int (Int32.ofNat N)), .val (.int c0), .val (.int c1), .val (.int c2), .val (.int c3), .val (.ref b5), .val (.int (3 : Int32)), .val (.ref r)] [(.int ((own_f c0 c1 c2 c3) 2))])
      refine X21.step (fun hA hx hq t_ k_ => XS.iload hA hx rfl (hb hq at_197) rfl k_) ?_
      show OFin _ _ _ _ _ _ T21 (mkF m 199 #[.val (.int p0), .val (.int p1), .val (.int p2), .val (.int p3), .val (.int p4), .val (.int (Int32.ofNat N)), .val (.int c0), .val (.int c1), .val (.int c2), .val (.int c3), .val (.ref b5), .val (.int (3 : Int32)), .val (.ref r)] [(.int c2), (.int ((own_f c0 c1 c2 c3) 2))])
      refine X21.step (fun hA hx hq t_ k_ => XS.icmpYes hA hx rfl (pc0 := 199) (pc' := 204) rfl (hb hq at_199) rfl (teq ((rfl : (own_f c0 c1 c2 c3) 2 = c2))).1 (by decide) (by decide) k_) ?_
      show OFin _ _ _ _ _ _ T21 (mkF m 204 #[.val (.int p0), .val (.int p1), .val (.int p2), .val (.int p3), .val (.int p4), .val (.int (Int32.ofNat N)), .val (.int c0), .val (.int c1), .val (.int c2), .val (.int c3), .val (.ref b5), .val (.int (3 : Int32)), .val (.ref r)] [])
      refine X21.step (fun hA hx hq t_ k_ => XS.iload hA hx rfl (hb hq at_204) rfl k_) ?_
      show OFin _ _ _ _ _ _ T21 (mkF m 206 #[.val (.int p0), .val (.int p1), .val (.int p2), .val (.int p3), .val (.int p4), .val (.int (Int32.ofNat N)), .val (.int c0), .val (.int c1), .val (.int c2), .val (.int c3), .val (.ref b5), .val (.int (3 : Int32)), .val (.ref r)] [(.int (3 : Int32))])
      refine X21.step (fun hA hx hq t_ k_ => XS.iconst hA hx rfl (hb hq at_206) k_) ?_
      show OFin _ _ _ _ _ _ T21 (mkF m 207 #[.val (.int p0), .val (.int p1), .val (.int p2), .val (.int p3), .val (.int p4), .val (.int (Int32.ofNat N)), .val (.int c0), .val (.int c1), .val (.int c2), .val (.int c3), .val (.ref b5), .val (.int (3 : Int32)), .val (.ref r)] [(.int (3 : Int32)), (.int (3 : Int32))])
      refine X21.step (fun hA hx hq t_ k_ => XS.icmpYes hA hx rfl (pc0 := 207) (pc' := 223) rfl (hb hq at_207) rfl (flt ((by decide))).2.2.2 (by decide) (by decide) k_) ?_
      show OFin _ _ _ _ _ _ T21 (mkF m 223 #[.val (.int p0), .val (.int p1), .val (.int p2), .val (.int p3), .val (.int p4), .val (.int (Int32.ofNat N)), .val (.int c0), .val (.int c1), .val (.int c2), .val (.int c3), .val (.ref b5), .val (.int (3 : Int32)), .val (.ref r)] [])
      refine X21.step (fun hA hx hq t_ k_ => XS.iconst hA hx rfl (hb hq at_223) k_) ?_
      show OFin _ _ _ _ _ _ T21 (mkF m 224 #[.val (.int p0), .val (.int p1), .val (.int p2), .val (.int p3), .val (.int p4), .val (.int (Int32.ofNat N)), .val (.int c0), .val (.int c1), .val (.int c2), .val (.int c3), .val (.ref b5), .val (.int (3 : Int32)), .val (.ref r)] [(.int (1 : Int32))])
      exact X21.retN (by simp) at_224 (oW X21 B14 (by decide) (by decide)) (rfl)
    · show OFin _ _ _ _ _ _ T15 (mkF m 148 #[.val (.int p0), .val (.int p1), .val (.int p2), .val (.int p3), .val (.int p4), .val (.int (Int32.ofNat N)), .val (.int c0), .val (.int c1), .val (.int c2), .val (.int c3), .val (.ref b5), .val (.int (4 : Int32)), .val (.ref r)] [])
      refine X15.step (fun hA hx hq t_ k_ => XS.iload hA hx rfl (hb hq at_148) rfl k_) ?_
      show OFin _ _ _ _ _ _ T15 (mkF m 150 #[.val (.int p0), .val (.int p1), .val (.int p2), .val (.int p3), .val (.int p4), .val (.int (Int32.ofNat N)), .val (.int c0), .val (.int c1), .val (.int c2), .val (.int c3), .val (.ref b5), .val (.int (4 : Int32)), .val (.ref r)] [(.int (4 : Int32))])
      refine X15.step (fun hA hx hq t_ k_ => XS.ifNo hA hx rfl (hb hq at_150) rfl ((if0 _ _).trans (tlt ((by decide))).2.2.2) k_) ?_
      show OFin _ _ _ _ _ _ T15 (mkF m 153 #[.val (.int p0), .val (.int p1), .val (.int p2), .val (.int p3), .val (.int p4), .val (.int (Int32.ofNat N)), .val (.int c0), .val (.int c1), .val (.int c2), .val (.int c3), .val (.ref b5), .val (.int (4 : Int32)), .val (.ref r)] [])
      refine X15.step (fun hA hx hq t_ k_ => XS.aload hA hx rfl (hb hq at_153) rfl rfl k_) ?_
      show OFin _ _ _ _ _ _ T15 (mkF m 155 #[.val (.int p0), .val (.int p1), .val (.int p2), .val (.int p3), .val (.int p4), .val (.int (Int32.ofNat N)), .val (.int c0), .val (.int c1), .val (.int c2), .val (.int c3), .val (.ref b5), .val (.int (4 : Int32)), .val (.ref r)] [(.ref r)])
      refine X15.step (fun hA hx hq t_ k_ => XS.iconst hA hx rfl (hb hq at_155) k_) ?_
      show OFin _ _ _ _ _ _ T15 (mkF m 156 #[.val (.int p0), .val (.int p1), .val (.int p2), .val (.int p3), .val (.int p4), .val (.int (Int32.ofNat N)), .val (.int c0), .val (.int c1), .val (.int c2), .val (.int c3), .val (.ref b5), .val (.int (4 : Int32)), .val (.ref r)] [(.int (0 : Int32)), (.ref r)])
      refine X15.callV (y' := (⟨"java/lang/String", "charAt", "(I)C"⟩ : MethodName)) (z' := (⟨"java/lang/String", "charAt", "(I)C"⟩ : MethodName)) (hw _ (List.mem_of_getElem? (i := 103) rfl)) (hw _ (List.mem_of_getElem? (i := 104) rfl)) (X15.notFace (hw _ (List.mem_of_getElem? (i := 106) rfl)) rfl) (hw _ (List.mem_of_getElem? (i := 106) rfl)) (hw _ (List.mem_of_getElem? (i := 105) rfl)) (hw _ (List.mem_of_getElem? (i := 7) rfl)) (hw _ (List.mem_of_getElem? (i := 107) rfl)) (by decide) V14.1 (argsL := [(.int (0 : Int32))]) (rest := []) (sc5 l Z a0 hw r t2 4 (own_f c0 c1 c2 c3) 0 cs vf h14 n0 V14 (by decide) (by decide) ((own_fok k0 k1 k2 k3) 0) (SS.ext O6.2) hcs (SP.ext O6.2) rf) (g := (mkF m 156 #[.val (.int p0), .val (.int p1), .val (.int p2), .val (.int p3), .val (.int p4), .val (.int (Int32.ofNat N)), .val (.int c0), .val (.int c1), .val (.int c2), .val (.int c3), .val (.ref b5), .val (.int (4 : Int32)), .val (.ref r)] [(.int (0 : Int32)), (.ref r)])) rfl rfl pd_pIr_C rfl rfl (W := 0) (by show 2 * 0 + _ ≤ _; exact Nat.le_of_eq rfl) at_156 (by decide) (by decide) (by decide) (by decide) ?_
      intro v22 T22 h22 X22 q22
      obtain ⟨rfl, rfl⟩ := q22
      show OFin _ _ _ _ _ _ T22 (mkF m 159 #[.val (.int p0), .val (.int p1), .val (.int p2), .val (.int p3), .val (.int p4), .val (.int (Int32.ofNat N)), .val (.int c0), .val (.int c1), .val (.int c2), .val (.int c3), .val (.ref b5), .val (.int (4 : Int32)), .val (.ref r)] [(.int ((own_f c0 c1 c2 c3) 0))])
      refine X22.step (fun hA hx hq t_ k_ => XS.iload hA hx rfl (hb hq at_159) rfl k_) ?_
      show OFin _ _ _ _ _ _ T22 (mkF m 161 #[.val (.int p0), .val (.int p1), .val (.int p2), .val (.int p3), .val (.int p4), .val (.int (Int32.ofNat N)), .val (.int c0), .val (.int c1), .val (.int c2), .val (.int c3), .val (.ref b5), .val (.int (4 : Int32)), .val (.ref r)] [(.int c0), (.int ((own_f c0 c1 c2 c3) 0))])
      refine X22.step (fun hA hx hq t_ k_ => XS.icmpYes hA hx rfl (pc0 := 161) (pc' := 166) rfl (hb hq at_161) rfl (teq ((rfl : (own_f c0 c1 c2 c3) 0 = c0))).1 (by decide) (by decide) k_) ?_
      show OFin _ _ _ _ _ _ T22 (mkF m 166 #[.val (.int p0), .val (.int p1), .val (.int p2), .val (.int p3), .val (.int p4), .val (.int (Int32.ofNat N)), .val (.int c0), .val (.int c1), .val (.int c2), .val (.int c3), .val (.ref b5), .val (.int (4 : Int32)), .val (.ref r)] [])
      refine X22.step (fun hA hx hq t_ k_ => XS.iload hA hx rfl (hb hq at_166) rfl k_) ?_
      show OFin _ _ _ _ _ _ T22 (mkF m 168 #[.val (.int p0), .val (.int p1), .val (.int p2), .val (.int p3), .val (.int p4), .val (.int (Int32.ofNat N)), .val (.int c0), .val (.int c1), .val (.int c2), .val (.int c3), .val (.ref b5), .val (.int (4 : Int32)), .val (.ref r)] [(.int (4 : Int32))])
      refine X22.step (fun hA hx hq t_ k_ => XS.iconst hA hx rfl (hb hq at_168) k_) ?_
      show OFin _ _ _ _ _ _ T22 (mkF m 169 #[.val (.int p0), .val (.int p1), .val (.int p2), .val (.int p3), .val (.int p4), .val (.int (Int32.ofNat N)), .val (.int c0), .val (.int c1), .val (.int c2), .val (.int c3), .val (.ref b5), .val (.int (4 : Int32)), .val (.ref r)] [(.int (1 : Int32)), (.int (4 : Int32))])
      refine X22.step (fun hA hx hq t_ k_ => XS.icmpNo hA hx rfl (hb hq at_169) rfl (tlt ((by decide))).2.2.2 k_) ?_
      show OFin _ _ _ _ _ _ T22 (mkF m 172 #[.val (.int p0), .val (.int p1), .val (.int p2), .val (.int p3), .val (.int p4), .val (.int (Int32.ofNat N)), .val (.int c0), .val (.int c1), .val (.int c2), .val (.int c3), .val (.ref b5), .val (.int (4 : Int32)), .val (.ref r)] [])
      refine X22.step (fun hA hx hq t_ k_ => XS.aload hA hx rfl (hb hq at_172) rfl rfl k_) ?_
      show OFin _ _ _ _ _ _ T22 (mkF m 174 #[.val (.int p0), .val (.int p1), .val (.int p2), .val (.int p3), .val (.int p4), .val (.int (Int32.ofNat N)), .val (.int c0), .val (.int c1), .val (.int c2), .val (.int c3), .val (.ref b5), .val (.int (4 : Int32)), .val (.ref r)] [(.ref r)])
      refine X22.step (fun hA hx hq t_ k_ => XS.iconst hA hx rfl (hb hq at_174) k_) ?_
      show OFin _ _ _ _ _ _ T22 (mkF m 175 #[.val (.int p0), .val (.int p1), .val (.int p2), .val (.int p3), .val (.int p4), .val (.int (Int32.ofNat N)), .val (.int c0), .val (.int c1), .val (.int c2), .val (.int c3), .val (.ref b5), .val (.int (4 : Int32)), .val (.ref r)] [(.int (1 : Int32)), (.ref r)])
      refine X22.callV (y' := (⟨"java/lang/String", "charAt", "(I)C"⟩ : MethodName)) (z' := (⟨"java/lang/String", "charAt", "(I)C"⟩ : MethodName)) (hw _ (List.mem_of_getElem? (i := 103) rfl)) (hw _ (List.mem_of_getElem? (i := 104) rfl)) (X22.notFace (hw _ (List.mem_of_getElem? (i := 106) rfl)) rfl) (hw _ (List.mem_of_getElem? (i := 106) rfl)) (hw _ (List.mem_of_getElem? (i := 105) rfl)) (hw _ (List.mem_of_getElem? (i := 7) rfl)) (hw _ (List.mem_of_getElem? (i := 107) rfl)) (by decide) V14.1 (argsL := [(.int (1 : Int32))]) (rest := []) (sc5 l Z a0 hw r t2 4 (own_f c0 c1 c2 c3) 1 cs vf h14 n0 V14 (by decide) (by decide) ((own_fok k0 k1 k2 k3) 1) (SS.ext O6.2) hcs (SP.ext O6.2) rf) (g := (mkF m 175 #[.val (.int p0), .val (.int p1), .val (.int p2), .val (.int p3), .val (.int p4), .val (.int (Int32.ofNat N)), .val (.int c0), .val (.int c1), .val (.int c2), .val (.int c3), .val (.ref b5), .val (.int (4 : Int32)), .val (.ref r)] [(.int (1 : Int32)), (.ref r)])) rfl rfl pd_pIr_C rfl rfl (W := 0) (by show 2 * 0 + _ ≤ _; exact Nat.le_of_eq rfl) at_175 (by decide) (by decide) (by decide) (by decide) ?_
      intro v23 T23 h23 X23 q23
      obtain ⟨rfl, rfl⟩ := q23
      show OFin _ _ _ _ _ _ T23 (mkF m 178 #[.val (.int p0), .val (.int p1), .val (.int p2), .val (.int p3), .val (.int p4), .val (.int (Int32.ofNat N)), .val (.int c0), .val (.int c1), .val (.int c2), .val (.int c3), .val (.ref b5), .val (.int (4 : Int32)), .val (.ref r)] [(.int ((own_f c0 c1 c2 c3) 1))])
      refine X23.step (fun hA hx hq t_ k_ => XS.iload hA hx rfl (hb hq at_178) rfl k_) ?_
      show OFin _ _ _ _ _ _ T23 (mkF m 180 #[.val (.int p0), .val (.int p1), .val (.int p2), .val (.int p3), .val (.int p4), .val (.int (Int32.ofNat N)), .val (.int c0), .val (.int c1), .val (.int c2), .val (.int c3), .val (.ref b5), .val (.int (4 : Int32)), .val (.ref r)] [(.int c1), (.int ((own_f c0 c1 c2 c3) 1))])
      refine X23.step (fun hA hx hq t_ k_ => XS.icmpYes hA hx rfl (pc0 := 180) (pc' := 185) rfl (hb hq at_180) rfl (teq ((rfl : (own_f c0 c1 c2 c3) 1 = c1))).1 (by decide) (by decide) k_) ?_
      show OFin _ _ _ _ _ _ T23 (mkF m 185 #[.val (.int p0), .val (.int p1), .val (.int p2), .val (.int p3), .val (.int p4), .val (.int (Int32.ofNat N)), .val (.int c0), .val (.int c1), .val (.int c2), .val (.int c3), .val (.ref b5), .val (.int (4 : Int32)), .val (.ref r)] [])
      refine X23.step (fun hA hx hq t_ k_ => XS.iload hA hx rfl (hb hq at_185) rfl k_) ?_
      show OFin _ _ _ _ _ _ T23 (mkF m 187 #[.val (.int p0), .val (.int p1), .val (.int p2), .val (.int p3), .val (.int p4), .val (.int (Int32.ofNat N)), .val (.int c0), .val (.int c1), .val (.int c2), .val (.int c3), .val (.ref b5), .val (.int (4 : Int32)), .val (.ref r)] [(.int (4 : Int32))])
      refine X23.step (fun hA hx hq t_ k_ => XS.iconst hA hx rfl (hb hq at_187) k_) ?_
      show OFin _ _ _ _ _ _ T23 (mkF m 188 #[.val (.int p0), .val (.int p1), .val (.int p2), .val (.int p3), .val (.int p4), .val (.int (Int32.ofNat N)), .val (.int c0), .val (.int c1), .val (.int c2), .val (.int c3), .val (.ref b5), .val (.int (4 : Int32)), .val (.ref r)] [(.int (2 : Int32)), (.int (4 : Int32))])
      refine X23.step (fun hA hx hq t_ k_ => XS.icmpNo hA hx rfl (hb hq at_188) rfl (tlt ((by decide))).2.2.2 k_) ?_
      show OFin _ _ _ _ _ _ T23 (mkF m 191 #[.val (.int p0), .val (.int p1), .val (.int p2), .val (.int p3), .val (.int p4), .val (.int (Int32.ofNat N)), .val (.int c0), .val (.int c1), .val (.int c2), .val (.int c3), .val (.ref b5), .val (.int (4 : Int32)), .val (.ref r)] [])
      refine X23.step (fun hA hx hq t_ k_ => XS.aload hA hx rfl (hb hq at_191) rfl rfl k_) ?_
      show OFin _ _ _ _ _ _ T23 (mkF m 193 #[.val (.int p0), .val (.int p1), .val (.int p2), .val (.int p3), .val (.int p4), .val (.int (Int32.ofNat N)), .val (.int c0), .val (.int c1), .val (.int c2), .val (.int c3), .val (.ref b5), .val (.int (4 : Int32)), .val (.ref r)] [(.ref r)])
      refine X23.step (fun hA hx hq t_ k_ => XS.iconst hA hx rfl (hb hq at_193) k_) ?_
      show OFin _ _ _ _ _ _ T23 (mkF m 194 #[.val (.int p0), .val (.int p1), .val (.int p2), .val (.int p3), .val (.int p4), .val (.int (Int32.ofNat N)), .val (.int c0), .val (.int c1), .val (.int c2), .val (.int c3), .val (.ref b5), .val (.int (4 : Int32)), .val (.ref r)] [(.int (2 : Int32)), (.ref r)])
      refine X23.callV (y' := (⟨"java/lang/String", "charAt", "(I)C"⟩ : MethodName)) (z' := (⟨"java/lang/String", "charAt", "(I)C"⟩ : MethodName)) (hw _ (List.mem_of_getElem? (i := 103) rfl)) (hw _ (List.mem_of_getElem? (i := 104) rfl)) (X23.notFace (hw _ (List.mem_of_getElem? (i := 106) rfl)) rfl) (hw _ (List.mem_of_getElem? (i := 106) rfl)) (hw _ (List.mem_of_getElem? (i := 105) rfl)) (hw _ (List.mem_of_getElem? (i := 7) rfl)) (hw _ (List.mem_of_getElem? (i := 107) rfl)) (by decide) V14.1 (argsL := [(.int (2 : Int32))]) (rest := []) (sc5 l Z a0 hw r t2 4 (own_f c0 c1 c2 c3) 2 cs vf h14 n0 V14 (by decide) (by decide) ((own_fok k0 k1 k2 k3) 2) (SS.ext O6.2) hcs (SP.ext O6.2) rf) (g := (mkF m 194 #[.val (.int p0), .val (.int p1), .val (.int p2), .val (.int p3), .val (.int p4), .val (.int (Int32.ofNat N)), .val (.int c0), .val (.int c1), .val (.int c2), .val (.int c3), .val (.ref b5), .val (.int (4 : Int32)), .val (.ref r)] [(.int (2 : Int32)), (.ref r)])) rfl rfl pd_pIr_C rfl rfl (W := 0) (by show 2 * 0 + _ ≤ _; exact Nat.le_of_eq rfl) at_194 (by decide) (by decide) (by decide) (by decide) ?_
      intro v24 T24 h24 X24 q24
      obtain ⟨rfl, rfl⟩ := q24
      show OFin _ _ _ _ _ _ T24 (mkF m 197 #[.val (.int p0), .val (.int p1), .val (.int p2), .val (.int p3), .val (.int p4), .val (.int (Int32.ofNat N)), .val (.int c0), .val (.int c1), .val (.int c2), .val (.int c3), .val (.ref b5), .val (.int (4 : Int32)), .val (.ref r)] [(.int ((own_f c0 c1 c2 c3) 2))])
      refine X24.step (fun hA hx hq t_ k_ => XS.iload hA hx rfl (hb hq at_197) rfl k_) ?_
      show OFin _ _ _ _ _ _ T24 (mkF m 199 #[.val (.int p0), .val (.int p1), .val (.int p2), .val (.int p3), .val (.int p4), .val (.int (Int32.ofNat N)), .val (.int c0), .val (.int c1), .val (.int c2), .val (.int c3), .val (.ref b5), .val (.int (4 : Int32)), .val (.ref r)] [(.int c2), (.int ((own_f c0 c1 c2 c3) 2))])
      refine X24.step (fun hA hx hq t_ k_ => XS.icmpYes hA hx rfl (pc0 := 199) (pc' := 204) rfl (hb hq at_199) rfl (teq ((rfl : (own_f c0 c1 c2 c3) 2 = c2))).1 (by decide) (by decide) k_) ?_
      show OFin _ _ _ _ _ _ T24 (mkF m 204 #[.val (.int p0), .val (.int p1), .val (.int p2), .val (.int p3), .val (.int p4), .val (.int (Int32.ofNat N)), .val (.int c0), .val (.int c1), .val (.int c2), .val (.int c3), .val (.ref b5), .val (.int (4 : Int32)), .val (.ref r)] [])
      refine X24.step (fun hA hx hq t_ k_ => XS.iload hA hx rfl (hb hq at_204) rfl k_) ?_
      show OFin _ _ _ _ _ _ T24 (mkF m 206 #[.val (.int p0), .val (.int p1), .val (.int p2), .val (.int p3), .val (.int p4), .val (.int (Int32.ofNat N)), .val (.int c0), .val (.int c1), .val (.int c2), .val (.int c3), .val (.ref b5), .val (.int (4 : Int32)), .val (.ref r)] [(.int (4 : Int32))])
      refine X24.step (fun hA hx hq t_ k_ => XS.iconst hA hx rfl (hb hq at_206) k_) ?_
      show OFin _ _ _ _ _ _ T24 (mkF m 207 #[.val (.int p0), .val (.int p1), .val (.int p2), .val (.int p3), .val (.int p4), .val (.int (Int32.ofNat N)), .val (.int c0), .val (.int c1), .val (.int c2), .val (.int c3), .val (.ref b5), .val (.int (4 : Int32)), .val (.ref r)] [(.int (3 : Int32)), (.int (4 : Int32))])
      refine X24.step (fun hA hx hq t_ k_ => XS.icmpNo hA hx rfl (hb hq at_207) rfl (tlt ((by decide))).2.2.2 k_) ?_
      show OFin _ _ _ _ _ _ T24 (mkF m 210 #[.val (.int p0), .val (.int p1), .val (.int p2), .val (.int p3), .val (.int p4), .val (.int (Int32.ofNat N)), .val (.int c0), .val (.int c1), .val (.int c2), .val (.int c3), .val (.ref b5), .val (.int (4 : Int32)), .val (.ref r)] [])
      refine X24.step (fun hA hx hq t_ k_ => XS.aload hA hx rfl (hb hq at_210) rfl rfl k_) ?_
      show OFin _ _ _ _ _ _ T24 (mkF m 212 #[.val (.int p0), .val (.int p1), .val (.int p2), .val (.int p3), .val (.int p4), .val (.int (Int32.ofNat N)), .val (.int c0), .val (.int c1), .val (.int c2), .val (.int c3), .val (.ref b5), .val (.int (4 : Int32)), .val (.ref r)] [(.ref r)])
      refine X24.step (fun hA hx hq t_ k_ => XS.iconst hA hx rfl (hb hq at_212) k_) ?_
      show OFin _ _ _ _ _ _ T24 (mkF m 213 #[.val (.int p0), .val (.int p1), .val (.int p2), .val (.int p3), .val (.int p4), .val (.int (Int32.ofNat N)), .val (.int c0), .val (.int c1), .val (.int c2), .val (.int c3), .val (.ref b5), .val (.int (4 : Int32)), .val (.ref r)] [(.int (3 : Int32)), (.ref r)])
      refine X24.callV (y' := (⟨"java/lang/String", "charAt", "(I)C"⟩ : MethodName)) (z' := (⟨"java/lang/String", "charAt", "(I)C"⟩ : MethodName)) (hw _ (List.mem_of_getElem? (i := 103) rfl)) (hw _ (List.mem_of_getElem? (i := 104) rfl)) (X24.notFace (hw _ (List.mem_of_getElem? (i := 106) rfl)) rfl) (hw _ (List.mem_of_getElem? (i := 106) rfl)) (hw _ (List.mem_of_getElem? (i := 105) rfl)) (hw _ (List.mem_of_getElem? (i := 7) rfl)) (hw _ (List.mem_of_getElem? (i := 107) rfl)) (by decide) V14.1 (argsL := [(.int (3 : Int32))]) (rest := []) (sc5 l Z a0 hw r t2 4 (own_f c0 c1 c2 c3) 3 cs vf h14 n0 V14 (by decide) (by decide) ((own_fok k0 k1 k2 k3) 3) (SS.ext O6.2) hcs (SP.ext O6.2) rf) (g := (mkF m 213 #[.val (.int p0), .val (.int p1), .val (.int p2), .val (.int p3), .val (.int p4), .val (.int (Int32.ofNat N)), .val (.int c0), .val (.int c1), .val (.int c2), .val (.int c3), .val (.ref b5), .val (.int (4 : Int32)), .val (.ref r)] [(.int (3 : Int32)), (.ref r)])) rfl rfl pd_pIr_C rfl rfl (W := 0) (by show 2 * 0 + _ ≤ _; exact Nat.le_of_eq rfl) at_213 (by decide) (by decide) (by decide) (by decide) ?_
      intro v25 T25 h25 X25 q25
      obtain ⟨rfl, rfl⟩ := q25
      show OFin _ _ _ _ _ _ T25 (mkF m 216 #[.val (.int p0), .val (.int p1), .val (.int p2), .val (.int p3), .val (.int p4), .val (.int (Int32.ofNat N)), .val (.int c0), .val (.int c1), .val (.int c2), .val (.int c3), .val (.ref b5), .val (.int (4 : Int32)), .val (.ref r)] [(.int ((own_f c0 c1 c2 c3) 3))])
      refine X25.step (fun hA hx hq t_ k_ => XS.iload hA hx rfl (hb hq at_216) rfl k_) ?_
      show OFin _ _ _ _ _ _ T25 (mkF m 218 #[.val (.int p0), .val (.int p1), .val (.int p2), .val (.int p3), .val (.int p4), .val (.int (Int32.ofNat N)), .val (.int c0), .val (.int c1), .val (.int c2), .val (.int c3), .val (.ref b5), .val (.int (4 : Int32)), .val (.ref r)] [(.int c3), (.int ((own_f c0 c1 c2 c3) 3))])
      refine X25.step (fun hA hx hq t_ k_ => XS.icmpYes hA hx rfl (pc0 := 218) (pc' := 223) rfl (hb hq at_218) rfl (teq ((rfl : (own_f c0 c1 c2 c3) 3 = c3))).1 (by decide) (by decide) k_) ?_
      show OFin _ _ _ _ _ _ T25 (mkF m 223 #[.val (.int p0), .val (.int p1), .val (.int p2), .val (.int p3), .val (.int p4), .val (.int (Int32.ofNat N)), .val (.int c0), .val (.int c1), .val (.int c2), .val (.int c3), .val (.ref b5), .val (.int (4 : Int32)), .val (.ref r)] [])
      refine X25.step (fun hA hx hq t_ k_ => XS.iconst hA hx rfl (hb hq at_223) k_) ?_
      show OFin _ _ _ _ _ _ T25 (mkF m 224 #[.val (.int p0), .val (.int p1), .val (.int p2), .val (.int p3), .val (.int p4), .val (.int (Int32.ofNat N)), .val (.int c0), .val (.int c1), .val (.int c2), .val (.int c3), .val (.ref b5), .val (.int (4 : Int32)), .val (.ref r)] [(.int (1 : Int32))])
      exact X25.retN (by simp) at_224 (oW X25 B14 (by decide) (by decide)) (rfl)
  have j107 : ∀ d : Nat, own_inv N (own_f c0 c1 c2 c3) 1 d → OFin n0 p e (fun o t L => CHr Z own_EL s.vm s.heap t.vm t.heap ∧ ReturnedEndW s o t L room_1.cells room_1.slots) below (fun v h => v = some (.int 1)) T9 (mkF m 107 #[.val (.int p0), .val (.int p1), .val (.int p2), .val (.int p3), .val (.int p4), .val (.int (Int32.ofNat N)), .val (.int c0), .val (.int c1), .val (.int c2), .val (.int c3), .val (.ref b5), .val (.int (Int32.ofNat d)), .unset] []) := by
    intro d hd
    refine X9.step (fun hA hx hq t_ k_ => XS.iload hA hx rfl (hb hq at_107) rfl k_) ?_
    show OFin _ _ _ _ _ _ T9 (mkF m 109 #[.val (.int p0), .val (.int p1), .val (.int p2), .val (.int p3), .val (.int p4), .val (.int (Int32.ofNat N)), .val (.int c0), .val (.int c1), .val (.int c2), .val (.int c3), .val (.ref b5), .val (.int (Int32.ofNat d)), .unset] [(.int (Int32.ofNat N))])
    by_cases c : (0 : Int32) < (Int32.ofNat N)
    · refine X9.step (fun hA hx hq t_ k_ => XS.ifNo hA hx rfl (hb hq at_109) rfl ((if0 _ _).trans (tlt (c)).2.2.2) k_) ?_
      show OFin _ _ _ _ _ _ T9 (mkF m 112 #[.val (.int p0), .val (.int p1), .val (.int p2), .val (.int p3), .val (.int p4), .val (.int (Int32.ofNat N)), .val (.int c0), .val (.int c1), .val (.int c2), .val (.int c3), .val (.ref b5), .val (.int (Int32.ofNat d)), .unset] [])
      have q1 := (own_lt32 0 N (by decide) (by omega)).mp c
      refine X9.step (fun hA hx hq t_ k_ => XS.iload hA hx rfl (hb hq at_112) rfl k_) ?_
      show OFin _ _ _ _ _ _ T9 (mkF m 114 #[.val (.int p0), .val (.int p1), .val (.int p2), .val (.int p3), .val (.int p4), .val (.int (Int32.ofNat N)), .val (.int c0), .val (.int c1), .val (.int c2), .val (.int c3), .val (.ref b5), .val (.int (Int32.ofNat d)), .unset] [(.int c0)])
      refine X9.step (fun hA hx hq t_ k_ => XS.bipush hA hx rfl (hb hq at_114) k_) ?_
      show OFin _ _ _ _ _ _ T9 (mkF m 116 #[.val (.int p0), .val (.int p1), .val (.int p2), .val (.int p3), .val (.int p4), .val (.int (Int32.ofNat N)), .val (.int c0), .val (.int c1), .val (.int c2), .val (.int c3), .val (.ref b5), .val (.int (Int32.ofNat d)), .unset] [(.int (32 : Int32)), (.int c0)])
      by_cases cc : c0 = (32 : Int32)
      · refine X9.step (fun hA hx hq t_ k_ => XS.icmpNo hA hx rfl (hb hq at_116) rfl (teq (cc)).2 k_) ?_
        show OFin _ _ _ _ _ _ T9 (mkF m 119 #[.val (.int p0), .val (.int p1), .val (.int p2), .val (.int p3), .val (.int p4), .val (.int (Int32.ofNat N)), .val (.int c0), .val (.int c1), .val (.int c2), .val (.int c3), .val (.ref b5), .val (.int (Int32.ofNat d)), .unset] [])
        refine X9.step (fun hA hx hq t_ k_ => XS.iconst hA hx rfl (hb hq at_119) k_) ?_
        show OFin _ _ _ _ _ _ T9 (mkF m 120 #[.val (.int p0), .val (.int p1), .val (.int p2), .val (.int p3), .val (.int p4), .val (.int (Int32.ofNat N)), .val (.int c0), .val (.int c1), .val (.int c2), .val (.int c3), .val (.ref b5), .val (.int (Int32.ofNat d)), .unset] [(.int (0 : Int32))])
        refine X9.step (fun hA hx hq t_ k_ => XS.istore hA hx rfl (hb hq at_120) rfl (l' := #[.val (.int p0), .val (.int p1), .val (.int p2), .val (.int p3), .val (.int p4), .val (.int (Int32.ofNat N)), .val (.int c0), .val (.int c1), .val (.int c2), .val (.int c3), .val (.ref b5), .val (.int (0 : Int32)), .unset]) rfl k_) ?_
        show OFin _ _ _ _ _ _ T9 (mkF m 122 #[.val (.int p0), .val (.int p1), .val (.int p2), .val (.int p3), .val (.int p4), .val (.int (Int32.ofNat N)), .val (.int c0), .val (.int c1), .val (.int c2), .val (.int c3), .val (.ref b5), .val (.int (0 : Int32)), .unset] [])
        exact j122 0 (own_inv.set q1 cc)
      · refine X9.step (fun hA hx hq t_ k_ => XS.icmpYes hA hx rfl (pc0 := 116) (pc' := 122) rfl (hb hq at_116) rfl (feq (cc)).2 (by decide) (by decide) k_) ?_
        show OFin _ _ _ _ _ _ T9 (mkF m 122 #[.val (.int p0), .val (.int p1), .val (.int p2), .val (.int p3), .val (.int p4), .val (.int (Int32.ofNat N)), .val (.int c0), .val (.int c1), .val (.int c2), .val (.int c3), .val (.ref b5), .val (.int (Int32.ofNat d)), .unset] [])
        exact j122 d (hd.skip fun _ q => cc q)
    · refine X9.step (fun hA hx hq t_ k_ => XS.ifYes hA hx rfl (pc0 := 109) (pc' := 122) rfl (hb hq at_109) rfl ((if0 _ _).trans (flt (c)).2.2.2) (by decide) (by decide) k_) ?_
      show OFin _ _ _ _ _ _ T9 (mkF m 122 #[.val (.int p0), .val (.int p1), .val (.int p2), .val (.int p3), .val (.int p4), .val (.int (Int32.ofNat N)), .val (.int c0), .val (.int c1), .val (.int c2), .val (.int c3), .val (.ref b5), .val (.int (Int32.ofNat d)), .unset] [])
      exact j122 d (hd.skip fun q => absurd ((own_lt32 0 N (by decide) (by omega)).mpr q) c)
  have j91 : ∀ d : Nat, own_inv N (own_f c0 c1 c2 c3) 2 d → OFin n0 p e (fun o t L => CHr Z own_EL s.vm s.heap t.vm t.heap ∧ ReturnedEndW s o t L room_1.cells room_1.slots) below (fun v h => v = some (.int 1)) T9 (mkF m 91 #[.val (.int p0), .val (.int p1), .val (.int p2), .val (.int p3), .val (.int p4), .val (.int (Int32.ofNat N)), .val (.int c0), .val (.int c1), .val (.int c2), .val (.int c3), .val (.ref b5), .val (.int (Int32.ofNat d)), .unset] []) := by
    intro d hd
    refine X9.step (fun hA hx hq t_ k_ => XS.iload hA hx rfl (hb hq at_91) rfl k_) ?_
    show OFin _ _ _ _ _ _ T9 (mkF m 93 #[.val (.int p0), .val (.int p1), .val (.int p2), .val (.int p3), .val (.int p4), .val (.int (Int32.ofNat N)), .val (.int c0), .val (.int c1), .val (.int c2), .val (.int c3), .val (.ref b5), .val (.int (Int32.ofNat d)), .unset] [(.int (Int32.ofNat N))])
    refine X9.step (fun hA hx hq t_ k_ => XS.iconst hA hx rfl (hb hq at_93) k_) ?_
    show OFin _ _ _ _ _ _ T9 (mkF m 94 #[.val (.int p0), .val (.int p1), .val (.int p2), .val (.int p3), .val (.int p4), .val (.int (Int32.ofNat N)), .val (.int c0), .val (.int c1), .val (.int c2), .val (.int c3), .val (.ref b5), .val (.int (Int32.ofNat d)), .unset] [(.int (1 : Int32)), (.int (Int32.ofNat N))])
    by_cases c : (1 : Int32) < (Int32.ofNat N)
    · refine X9.step (fun hA hx hq t_ k_ => XS.icmpNo hA hx rfl (hb hq at_94) rfl (tlt (c)).2.2.2 k_) ?_
      show OFin _ _ _ _ _ _ T9 (mkF m 97 #[.val (.int p0), .val (.int p1), .val (.int p2), .val (.int p3), .val (.int p4), .val (.int (Int32.ofNat N)), .val (.int c0), .val (.int c1), .val (.int c2), .val (.int c3), .val (.ref b5), .val (.int (Int32.ofNat d)), .unset] [])
      have q1 := (own_lt32 1 N (by decide) (by omega)).mp c
      refine X9.step (fun hA hx hq t_ k_ => XS.iload hA hx rfl (hb hq at_97) rfl k_) ?_
      show OFin _ _ _ _ _ _ T9 (mkF m 99 #[.val (.int p0), .val (.int p1), .val (.int p2), .val (.int p3), .val (.int p4), .val (.int (Int32.ofNat N)), .val (.int c0), .val (.int c1), .val (.int c2), .val (.int c3), .val (.ref b5), .val (.int (Int32.ofNat d)), .unset] [(.int c1)])
      refine X9.step (fun hA hx hq t_ k_ => XS.bipush hA hx rfl (hb hq at_99) k_) ?_
      show OFin _ _ _ _ _ _ T9 (mkF m 101 #[.val (.int p0), .val (.int p1), .val (.int p2), .val (.int p3), .val (.int p4), .val (.int (Int32.ofNat N)), .val (.int c0), .val (.int c1), .val (.int c2), .val (.int c3), .val (.ref b5), .val (.int (Int32.ofNat d)), .unset] [(.int (32 : Int32)), (.int c1)])
      by_cases cc : c1 = (32 : Int32)
      · refine X9.step (fun hA hx hq t_ k_ => XS.icmpNo hA hx rfl (hb hq at_101) rfl (teq (cc)).2 k_) ?_
        show OFin _ _ _ _ _ _ T9 (mkF m 104 #[.val (.int p0), .val (.int p1), .val (.int p2), .val (.int p3), .val (.int p4), .val (.int (Int32.ofNat N)), .val (.int c0), .val (.int c1), .val (.int c2), .val (.int c3), .val (.ref b5), .val (.int (Int32.ofNat d)), .unset] [])
        refine X9.step (fun hA hx hq t_ k_ => XS.iconst hA hx rfl (hb hq at_104) k_) ?_
        show OFin _ _ _ _ _ _ T9 (mkF m 105 #[.val (.int p0), .val (.int p1), .val (.int p2), .val (.int p3), .val (.int p4), .val (.int (Int32.ofNat N)), .val (.int c0), .val (.int c1), .val (.int c2), .val (.int c3), .val (.ref b5), .val (.int (Int32.ofNat d)), .unset] [(.int (1 : Int32))])
        refine X9.step (fun hA hx hq t_ k_ => XS.istore hA hx rfl (hb hq at_105) rfl (l' := #[.val (.int p0), .val (.int p1), .val (.int p2), .val (.int p3), .val (.int p4), .val (.int (Int32.ofNat N)), .val (.int c0), .val (.int c1), .val (.int c2), .val (.int c3), .val (.ref b5), .val (.int (1 : Int32)), .unset]) rfl k_) ?_
        show OFin _ _ _ _ _ _ T9 (mkF m 107 #[.val (.int p0), .val (.int p1), .val (.int p2), .val (.int p3), .val (.int p4), .val (.int (Int32.ofNat N)), .val (.int c0), .val (.int c1), .val (.int c2), .val (.int c3), .val (.ref b5), .val (.int (1 : Int32)), .unset] [])
        exact j107 1 (own_inv.set q1 cc)
      · refine X9.step (fun hA hx hq t_ k_ => XS.icmpYes hA hx rfl (pc0 := 101) (pc' := 107) rfl (hb hq at_101) rfl (feq (cc)).2 (by decide) (by decide) k_) ?_
        show OFin _ _ _ _ _ _ T9 (mkF m 107 #[.val (.int p0), .val (.int p1), .val (.int p2), .val (.int p3), .val (.int p4), .val (.int (Int32.ofNat N)), .val (.int c0), .val (.int c1), .val (.int c2), .val (.int c3), .val (.ref b5), .val (.int (Int32.ofNat d)), .unset] [])
        exact j107 d (hd.skip fun _ q => cc q)
    · refine X9.step (fun hA hx hq t_ k_ => XS.icmpYes hA hx rfl (pc0 := 94) (pc' := 107) rfl (hb hq at_94) rfl (flt (c)).2.2.2 (by decide) (by decide) k_) ?_
      show OFin _ _ _ _ _ _ T9 (mkF m 107 #[.val (.int p0), .val (.int p1), .val (.int p2), .val (.int p3), .val (.int p4), .val (.int (Int32.ofNat N)), .val (.int c0), .val (.int c1), .val (.int c2), .val (.int c3), .val (.ref b5), .val (.int (Int32.ofNat d)), .unset] [])
      exact j107 d (hd.skip fun q => absurd ((own_lt32 1 N (by decide) (by omega)).mpr q) c)
  have j75 : ∀ d : Nat, own_inv N (own_f c0 c1 c2 c3) 3 d → OFin n0 p e (fun o t L => CHr Z own_EL s.vm s.heap t.vm t.heap ∧ ReturnedEndW s o t L room_1.cells room_1.slots) below (fun v h => v = some (.int 1)) T9 (mkF m 75 #[.val (.int p0), .val (.int p1), .val (.int p2), .val (.int p3), .val (.int p4), .val (.int (Int32.ofNat N)), .val (.int c0), .val (.int c1), .val (.int c2), .val (.int c3), .val (.ref b5), .val (.int (Int32.ofNat d)), .unset] []) := by
    intro d hd
    refine X9.step (fun hA hx hq t_ k_ => XS.iload hA hx rfl (hb hq at_75) rfl k_) ?_
    show OFin _ _ _ _ _ _ T9 (mkF m 77 #[.val (.int p0), .val (.int p1), .val (.int p2), .val (.int p3), .val (.int p4), .val (.int (Int32.ofNat N)), .val (.int c0), .val (.int c1), .val (.int c2), .val (.int c3), .val (.ref b5), .val (.int (Int32.ofNat d)), .unset] [(.int (Int32.ofNat N))])
    refine X9.step (fun hA hx hq t_ k_ => XS.iconst hA hx rfl (hb hq at_77) k_) ?_
    show OFin _ _ _ _ _ _ T9 (mkF m 78 #[.val (.int p0), .val (.int p1), .val (.int p2), .val (.int p3), .val (.int p4), .val (.int (Int32.ofNat N)), .val (.int c0), .val (.int c1), .val (.int c2), .val (.int c3), .val (.ref b5), .val (.int (Int32.ofNat d)), .unset] [(.int (2 : Int32)), (.int (Int32.ofNat N))])
    by_cases c : (2 : Int32) < (Int32.ofNat N)
    · refine X9.step (fun hA hx hq t_ k_ => XS.icmpNo hA hx rfl (hb hq at_78) rfl (tlt (c)).2.2.2 k_) ?_
      show OFin _ _ _ _ _ _ T9 (mkF m 81 #[.val (.int p0), .val (.int p1), .val (.int p2), .val (.int p3), .val (.int p4), .val (.int (Int32.ofNat N)), .val (.int c0), .val (.int c1), .val (.int c2), .val (.int c3), .val (.ref b5), .val (.int (Int32.ofNat d)), .unset] [])
      have q1 := (own_lt32 2 N (by decide) (by omega)).mp c
      refine X9.step (fun hA hx hq t_ k_ => XS.iload hA hx rfl (hb hq at_81) rfl k_) ?_
      show OFin _ _ _ _ _ _ T9 (mkF m 83 #[.val (.int p0), .val (.int p1), .val (.int p2), .val (.int p3), .val (.int p4), .val (.int (Int32.ofNat N)), .val (.int c0), .val (.int c1), .val (.int c2), .val (.int c3), .val (.ref b5), .val (.int (Int32.ofNat d)), .unset] [(.int c2)])
      refine X9.step (fun hA hx hq t_ k_ => XS.bipush hA hx rfl (hb hq at_83) k_) ?_
      show OFin _ _ _ _ _ _ T9 (mkF m 85 #[.val (.int p0), .val (.int p1), .val (.int p2), .val (.int p3), .val (.int p4), .val (.int (Int32.ofNat N)), .val (.int c0), .val (.int c1), .val (.int c2), .val (.int c3), .val (.ref b5), .val (.int (Int32.ofNat d)), .unset] [(.int (32 : Int32)), (.int c2)])
      by_cases cc : c2 = (32 : Int32)
      · refine X9.step (fun hA hx hq t_ k_ => XS.icmpNo hA hx rfl (hb hq at_85) rfl (teq (cc)).2 k_) ?_
        show OFin _ _ _ _ _ _ T9 (mkF m 88 #[.val (.int p0), .val (.int p1), .val (.int p2), .val (.int p3), .val (.int p4), .val (.int (Int32.ofNat N)), .val (.int c0), .val (.int c1), .val (.int c2), .val (.int c3), .val (.ref b5), .val (.int (Int32.ofNat d)), .unset] [])
        refine X9.step (fun hA hx hq t_ k_ => XS.iconst hA hx rfl (hb hq at_88) k_) ?_
        show OFin _ _ _ _ _ _ T9 (mkF m 89 #[.val (.int p0), .val (.int p1), .val (.int p2), .val (.int p3), .val (.int p4), .val (.int (Int32.ofNat N)), .val (.int c0), .val (.int c1), .val (.int c2), .val (.int c3), .val (.ref b5), .val (.int (Int32.ofNat d)), .unset] [(.int (2 : Int32))])
        refine X9.step (fun hA hx hq t_ k_ => XS.istore hA hx rfl (hb hq at_89) rfl (l' := #[.val (.int p0), .val (.int p1), .val (.int p2), .val (.int p3), .val (.int p4), .val (.int (Int32.ofNat N)), .val (.int c0), .val (.int c1), .val (.int c2), .val (.int c3), .val (.ref b5), .val (.int (2 : Int32)), .unset]) rfl k_) ?_
        show OFin _ _ _ _ _ _ T9 (mkF m 91 #[.val (.int p0), .val (.int p1), .val (.int p2), .val (.int p3), .val (.int p4), .val (.int (Int32.ofNat N)), .val (.int c0), .val (.int c1), .val (.int c2), .val (.int c3), .val (.ref b5), .val (.int (2 : Int32)), .unset] [])
        exact j91 2 (own_inv.set q1 cc)
      · refine X9.step (fun hA hx hq t_ k_ => XS.icmpYes hA hx rfl (pc0 := 85) (pc' := 91) rfl (hb hq at_85) rfl (feq (cc)).2 (by decide) (by decide) k_) ?_
        show OFin _ _ _ _ _ _ T9 (mkF m 91 #[.val (.int p0), .val (.int p1), .val (.int p2), .val (.int p3), .val (.int p4), .val (.int (Int32.ofNat N)), .val (.int c0), .val (.int c1), .val (.int c2), .val (.int c3), .val (.ref b5), .val (.int (Int32.ofNat d)), .unset] [])
        exact j91 d (hd.skip fun _ q => cc q)
    · refine X9.step (fun hA hx hq t_ k_ => XS.icmpYes hA hx rfl (pc0 := 78) (pc' := 91) rfl (hb hq at_78) rfl (flt (c)).2.2.2 (by decide) (by decide) k_) ?_
      show OFin _ _ _ _ _ _ T9 (mkF m 91 #[.val (.int p0), .val (.int p1), .val (.int p2), .val (.int p3), .val (.int p4), .val (.int (Int32.ofNat N)), .val (.int c0), .val (.int c1), .val (.int c2), .val (.int c3), .val (.ref b5), .val (.int (Int32.ofNat d)), .unset] [])
      exact j91 d (hd.skip fun q => absurd ((own_lt32 2 N (by decide) (by omega)).mpr q) c)
  have j59 : ∀ d : Nat, own_inv N (own_f c0 c1 c2 c3) 4 d → OFin n0 p e (fun o t L => CHr Z own_EL s.vm s.heap t.vm t.heap ∧ ReturnedEndW s o t L room_1.cells room_1.slots) below (fun v h => v = some (.int 1)) T9 (mkF m 59 #[.val (.int p0), .val (.int p1), .val (.int p2), .val (.int p3), .val (.int p4), .val (.int (Int32.ofNat N)), .val (.int c0), .val (.int c1), .val (.int c2), .val (.int c3), .val (.ref b5), .val (.int (Int32.ofNat d)), .unset] []) := by
    intro d hd
    refine X9.step (fun hA hx hq t_ k_ => XS.iload hA hx rfl (hb hq at_59) rfl k_) ?_
    show OFin _ _ _ _ _ _ T9 (mkF m 61 #[.val (.int p0), .val (.int p1), .val (.int p2), .val (.int p3), .val (.int p4), .val (.int (Int32.ofNat N)), .val (.int c0), .val (.int c1), .val (.int c2), .val (.int c3), .val (.ref b5), .val (.int (Int32.ofNat d)), .unset] [(.int (Int32.ofNat N))])
    refine X9.step (fun hA hx hq t_ k_ => XS.iconst hA hx rfl (hb hq at_61) k_) ?_
    show OFin _ _ _ _ _ _ T9 (mkF m 62 #[.val (.int p0), .val (.int p1), .val (.int p2), .val (.int p3), .val (.int p4), .val (.int (Int32.ofNat N)), .val (.int c0), .val (.int c1), .val (.int c2), .val (.int c3), .val (.ref b5), .val (.int (Int32.ofNat d)), .unset] [(.int (3 : Int32)), (.int (Int32.ofNat N))])
    by_cases c : (3 : Int32) < (Int32.ofNat N)
    · refine X9.step (fun hA hx hq t_ k_ => XS.icmpNo hA hx rfl (hb hq at_62) rfl (tlt (c)).2.2.2 k_) ?_
      show OFin _ _ _ _ _ _ T9 (mkF m 65 #[.val (.int p0), .val (.int p1), .val (.int p2), .val (.int p3), .val (.int p4), .val (.int (Int32.ofNat N)), .val (.int c0), .val (.int c1), .val (.int c2), .val (.int c3), .val (.ref b5), .val (.int (Int32.ofNat d)), .unset] [])
      have q1 := (own_lt32 3 N (by decide) (by omega)).mp c
      refine X9.step (fun hA hx hq t_ k_ => XS.iload hA hx rfl (hb hq at_65) rfl k_) ?_
      show OFin _ _ _ _ _ _ T9 (mkF m 67 #[.val (.int p0), .val (.int p1), .val (.int p2), .val (.int p3), .val (.int p4), .val (.int (Int32.ofNat N)), .val (.int c0), .val (.int c1), .val (.int c2), .val (.int c3), .val (.ref b5), .val (.int (Int32.ofNat d)), .unset] [(.int c3)])
      refine X9.step (fun hA hx hq t_ k_ => XS.bipush hA hx rfl (hb hq at_67) k_) ?_
      show OFin _ _ _ _ _ _ T9 (mkF m 69 #[.val (.int p0), .val (.int p1), .val (.int p2), .val (.int p3), .val (.int p4), .val (.int (Int32.ofNat N)), .val (.int c0), .val (.int c1), .val (.int c2), .val (.int c3), .val (.ref b5), .val (.int (Int32.ofNat d)), .unset] [(.int (32 : Int32)), (.int c3)])
      by_cases cc : c3 = (32 : Int32)
      · refine X9.step (fun hA hx hq t_ k_ => XS.icmpNo hA hx rfl (hb hq at_69) rfl (teq (cc)).2 k_) ?_
        show OFin _ _ _ _ _ _ T9 (mkF m 72 #[.val (.int p0), .val (.int p1), .val (.int p2), .val (.int p3), .val (.int p4), .val (.int (Int32.ofNat N)), .val (.int c0), .val (.int c1), .val (.int c2), .val (.int c3), .val (.ref b5), .val (.int (Int32.ofNat d)), .unset] [])
        refine X9.step (fun hA hx hq t_ k_ => XS.iconst hA hx rfl (hb hq at_72) k_) ?_
        show OFin _ _ _ _ _ _ T9 (mkF m 73 #[.val (.int p0), .val (.int p1), .val (.int p2), .val (.int p3), .val (.int p4), .val (.int (Int32.ofNat N)), .val (.int c0), .val (.int c1), .val (.int c2), .val (.int c3), .val (.ref b5), .val (.int (Int32.ofNat d)), .unset] [(.int (3 : Int32))])
        refine X9.step (fun hA hx hq t_ k_ => XS.istore hA hx rfl (hb hq at_73) rfl (l' := #[.val (.int p0), .val (.int p1), .val (.int p2), .val (.int p3), .val (.int p4), .val (.int (Int32.ofNat N)), .val (.int c0), .val (.int c1), .val (.int c2), .val (.int c3), .val (.ref b5), .val (.int (3 : Int32)), .unset]) rfl k_) ?_
        show OFin _ _ _ _ _ _ T9 (mkF m 75 #[.val (.int p0), .val (.int p1), .val (.int p2), .val (.int p3), .val (.int p4), .val (.int (Int32.ofNat N)), .val (.int c0), .val (.int c1), .val (.int c2), .val (.int c3), .val (.ref b5), .val (.int (3 : Int32)), .unset] [])
        exact j75 3 (own_inv.set q1 cc)
      · refine X9.step (fun hA hx hq t_ k_ => XS.icmpYes hA hx rfl (pc0 := 69) (pc' := 75) rfl (hb hq at_69) rfl (feq (cc)).2 (by decide) (by decide) k_) ?_
        show OFin _ _ _ _ _ _ T9 (mkF m 75 #[.val (.int p0), .val (.int p1), .val (.int p2), .val (.int p3), .val (.int p4), .val (.int (Int32.ofNat N)), .val (.int c0), .val (.int c1), .val (.int c2), .val (.int c3), .val (.ref b5), .val (.int (Int32.ofNat d)), .unset] [])
        exact j75 d (hd.skip fun _ q => cc q)
    · refine X9.step (fun hA hx hq t_ k_ => XS.icmpYes hA hx rfl (pc0 := 62) (pc' := 75) rfl (hb hq at_62) rfl (flt (c)).2.2.2 (by decide) (by decide) k_) ?_
      show OFin _ _ _ _ _ _ T9 (mkF m 75 #[.val (.int p0), .val (.int p1), .val (.int p2), .val (.int p3), .val (.int p4), .val (.int (Int32.ofNat N)), .val (.int c0), .val (.int c1), .val (.int c2), .val (.int c3), .val (.ref b5), .val (.int (Int32.ofNat d)), .unset] [])
      exact j75 d (hd.skip fun q => absurd ((own_lt32 3 N (by decide) (by omega)).mpr q) c)
  exact j59 N (own_inv.start hN)
set_option maxRecDepth 65536 in
set_option maxHeartbeats 40000000 in
theorem comes_1 {Post : Tables → Env → Array Value → State → Outcome → State → Prop} (hpost : ∀ tb e args s v u, (limb_1_1.after args s (.returned v) u = true ∧ limb_1_2.after args s (.returned v) u = true ∧ True) → ReturnedEndW s (.returned v) u (Jvm.fieldLocs frame_1_writes args s ++ Jvm.arrayLocs frame_1_arrays args s ++ Jvm.staticLocs frame_1_statics s) 24 2176 → Post tb e args s (.returned v) u) :
    ArmFor flags0 classFile x code maxLocals ret World_1 tables_1 room_1 Calls_1 rest_1 Pre_1 Post := by
  intro l hfl _ _ p e ha hc hk s m args below hf hA hF happ hP
  obtain ⟨hcalls, hrest, hpre⟩ := hP
  obtain ⟨-, -, -, hnamed, -, -, -, hat⟩ := (Spec.applies_iff hf).mp happ
  obtain ⟨hg, hn⟩ := and_e (Cond.before_iff.mp (show (Jvm.Cond.and given_1 narrow_1).before args s = true from hpre))
  obtain ⟨hcount, hg0⟩ := and_e hg
  obtain ⟨w0, w1, w2, w3, w4, rfl⟩ : ∃ w0 w1 w2 w3 w4 : Value, args = #[w0, w1, w2, w3, w4] := by
    have hs : args.size = 5 := by simpa [Cond.value, given_1] using hcount
    obtain ⟨L⟩ := args
    match L, hs with
    | [w0, w1, w2, w3, w4], _ => exact ⟨w0, w1, w2, w3, w4, rfl⟩
  have hw := fun d (hd : d ∈ tables_1) => atoms_spec (ws := Jvm.Cond.code x code maxLocals ret :: tables_1) hat d (List.mem_cons_of_mem _ hd)
  have hfit : Fit s := fun {y c} hc i hi => by
    obtain ⟨ha, rfl⟩ := Array.getElem?_eq_some_iff.mp hc
    have q := List.all_eq_true.mp ((Array.all_eq_true_iff_forall_mem.mp hF) _ (Array.getElem_mem ha)) i (List.mem_range.mpr hi)
    simpa [Array.getElem?_eq_getElem hi] using q
  obtain ⟨ha0, hg1⟩ := and_e hg0
  obtain ⟨i0, ei0⟩ := is_v ha0
  obtain rfl : w0 = (.int i0) := Option.some.inj ei0
  obtain ⟨ha1, hg2⟩ := and_e hg1
  obtain ⟨i1, ei1⟩ := is_v ha1
  obtain rfl : w1 = (.int i1) := Option.some.inj ei1
  obtain ⟨ha2, hg3⟩ := and_e hg2
  obtain ⟨i2, ei2⟩ := is_v ha2
  obtain rfl : w2 = (.int i2) := Option.some.inj ei2
  obtain ⟨ha3, hg4⟩ := and_e hg3
  obtain ⟨i3, ei3⟩ := is_v ha3
  obtain rfl : w3 = (.int i3) := Option.some.inj ei3
  obtain ⟨i4, ei4⟩ := is_v hg4
  obtain rfl : w4 = (.int i4) := Option.some.inj ei4
  obtain ⟨hsets, hown0⟩ := atoms_of _ (rest_1_c_eq ▸ (show rest_1_c.before _ s = true from hrest))
  have n5 := not_v (Cond.before_iff.mp (hsets _ (List.mem_of_getElem? (i := 2) rfl)))
  obtain ⟨cs, ecs⟩ := is_v (Cond.before_iff.mp (hsets _ (List.mem_of_getElem? (i := 1) rfl)))
  have SS : Sta s s.heap "java/lang/String" "COMPACT_STRINGS" "Z" (.int cs) := Sta.start ecs (Or.inl (hsets _ (List.mem_of_getElem? (i := 0) rfl)))
  have hcs : ¬ (cs = (0 : Int32)) := gotF (Cond.eq_ints ecs (Term.int_eval (0))) n5
  obtain ⟨vf, evf, rf⟩ := isR_v (Cond.before_iff.mp (hsets _ (List.mem_of_getElem? (i := 8) rfl)))
  have SP : Sta s s.heap "jdk/internal/util/Preconditions" "SIOOBE_FORMATTER" "Ljava/util/function/BiFunction;" vf := Sta.start evf (Or.inl (hsets _ (List.mem_of_getElem? (i := 7) rfl)))
  obtain ⟨n, o, h1, h2, h3, _, L, rfl, ⟨rfl, N⟩, -, hq⟩ := rm0 l s _ hw tables_1 i0 i1 i2 i3 i4 cs vf s.heap s.heap.size (Old.start s) SS hcs SP rf p e ha hc hk s m _ below hf ((Spec.applies_iff_loose hf).mp happ).1 ⟨rfl, State.Warmed39.refl s, rfl, CHv.start (own_EW hw) (fun p hp => hcalls.1 p hp) (hsets _ (List.mem_of_getElem? (i := 2) rfl)) (hw _ (List.mem_of_getElem? (i := 23) rfl)) (hw _ (List.mem_of_getElem? (i := 6) rfl))⟩ trivial
  refine ⟨n, _, h1, h2, h3, hpost _ _ _ _ _ _ ⟨Cond.after_iff.mpr rfl, Cond.after_iff.mpr (eq_i res_at (Term.int_eval (1)) rfl), trivial⟩ ⟨hq.1, hq.2.1, hq.2.2.1, (hq.2.2.2.sift fun y hy => Or.inr (N y hy)).mono (by decide) (by decide)⟩⟩
theorem main_1_1 : Claimed_1_1 := comes_1 fun _ _ _ _ _ _ h hF => ⟨h.1, hF⟩
theorem main_1_2 : Claimed_1_2 := comes_1 fun _ _ _ _ _ _ h hF => ⟨h.2.1, hF⟩
end Jvm.Pilot.@@N@@
namespace Jvm.Pilot.@@N@@
open Jvm Jvm.ClassFile Sem Op Lib Jvm.Free Jvm.Stand Jvm.Pilot.@@N@@.Jvm.D
/-! MADE BY PROGRAM (witnessworld.py) out of the Statement's table words and the real class files: 24 classes; the members and pool entries that the words name. The judged class is class 1, her method 3. -/
namespace start1
open Jvm.ClassFile
def u (s : String) : CpInfo := .utf8 (stringToUtf16 s)
/-- a pool by its gaps: so many unusable entries, then the entry; so many at the end -/
def gap : Nat → List CpInfo → List CpInfo
  | 0, r => r
  | n + 1, r => .unusable :: gap n r
def poolList (es : List (Nat × CpInfo)) (last : Nat) : List CpInfo := es.foldr (fun e r => gap e.1 (e.2 :: r)) (gap last [])
def pool (es : List (Nat × CpInfo)) (last : Nat) : Array CpInfo := ⟨poolList es last⟩
def fileOf (pool : Array CpInfo) (this : Nat) (attrs : Array Attribute := #[]) (ms : Array MethodInfo := #[]) (fl : Nat := 33) (sup : Nat := 0) (ifs : Array Nat := #[]) (fds : Array FieldInfo := #[]) : ClassFile where
  minorVersion := 0
  majorVersion := 65
  constantPool := pool
  accessFlags := fl
  thisClass := this
  superClass := sup
  interfaces := ifs
  fields := fds
  methods := ms
  attributes := attrs
def plain (name : String) (sup : Option ClassId) : Class where
  name := name
  kind := .ordinary
  loader := none
  accessFlags := 33
  super := sup
  interfaces := #[]
  cf := none
  fields := #[]
  methods := #[]
  instanceTypes := #[]
  staticTypes := #[]
  resolved := #[]
  callSites := []
  init := .initialized
  statics := none
  mirror := none

def pool0 : Array CpInfo := pool [(5, u "<init>"), (0, u "()V"), (1, .class_ 10), (1, u "java/lang/Object")] 113

def k0c0 : Code := { maxStack := 0, maxLocals := 1, code := object_method_1_code, exceptionTable := #[], attributes := #[] }
def k0m0 : Method := { name := "<init>", desc := "()V", sig := { parameters := [], returnType := none }, accessFlags := 1, code := some k0c0 }
/-- java/lang/Object -/
def k0 : Class := { plain "java/lang/Object" none with
  accessFlags := 33
  interfaces := #[]
  cf := some (fileOf pool0 8 #[] #[{ accessFlags := 1, nameIndex := 5, descriptorIndex := 6, attributes := #[] }] 33 0 #[] #[])
  fields := #[]
  methods := #[k0m0]
  instanceTypes := #[]
  staticTypes := #[]
  resolved := Array.replicate 124 none
  statics := none }

def pool1 : Array CpInfo := pool [(2, .class_ 4), (1, u "java/lang/Object"), (0, u "<init>"), (0, u "()V"), (0, .integer 2147483647), (0, .methodref 9 10), (0, .class_ 11), (0, .nameAndType 12 13), (0, u "com/example/lean_lock/leanlock/redis/ErrorReplyCodePinLaw"), (0, u "draw"), (0, u "(I)C"), (0, .class_ 15), (0, u "java/lang/String"), (0, .methodref 9 17), (0, .nameAndType 18 19), (0, u "make"), (0, u "(ICCCC)[C"), (0, .methodref 14 21), (0, .nameAndType 5 22), (0, u "([C)V"), (0, .class_ 24), (0, u "com/example/lean_lock/leanlock/redis/ErrorReply"), (0, .methodref 23 26), (0, .nameAndType 5 27), (0, u "(Ljava/lang/String;)V"), (0, .methodref 23 29), (0, .nameAndType 30 31), (0, u "code"), (0, u "()Ljava/lang/String;"), (0, .methodref 14 33), (0, .nameAndType 34 35), (0, u "length"), (0, u "()I"), (0, .methodref 14 37), (0, .nameAndType 38 13), (0, u "charAt"), (3, u "law"), (0, u "(IIIII)Z")] 2

def k1m0 : Method := { name := "<init>", desc := "()V", sig := { parameters := [], returnType := none }, accessFlags := 1, code := none }
def k1c1 : Code := { maxStack := 2, maxLocals := 1, code := method_2_code, exceptionTable := #[], attributes := #[] }
def k1m1 : Method := { name := "draw", desc := "(I)C", sig := { parameters := [.int], returnType := some .char }, accessFlags := 10, code := some k1c1 }
def k1c2 : Code := { maxStack := 4, maxLocals := 5, code := method_3_code, exceptionTable := #[], attributes := #[] }
def k1m2 : Method := { name := "make", desc := "(ICCCC)[C", sig := { parameters := [.int, .char, .char, .char, .char], returnType := some (.array .char) }, accessFlags := 10, code := some k1c2 }
def k1c3 : Code := { maxStack := 7, maxLocals := 13, code := code, exceptionTable := #[], attributes := #[] }
def k1m3 : Method := { name := "law", desc := "(IIIII)Z", sig := { parameters := [.int, .int, .int, .int, .int], returnType := some .boolean }, accessFlags := 9, code := some k1c3 }
/-- com/example/lean_lock/leanlock/redis/ErrorReplyCodePinLaw -/
def k1 : Class := { plain "com/example/lean_lock/leanlock/redis/ErrorReplyCodePinLaw" (some 0) with
  accessFlags := 49
  interfaces := #[]
  cf := some (fileOf pool1 9 #[] #[{ accessFlags := 1, nameIndex := 5, descriptorIndex := 6, attributes := #[] }, { accessFlags := 10, nameIndex := 12, descriptorIndex := 13, attributes := #[] }, { accessFlags := 10, nameIndex := 18, descriptorIndex := 19, attributes := #[] }, { accessFlags := 9, nameIndex := 42, descriptorIndex := 43, attributes := #[] }] 49 2 #[] #[])
  fields := #[]
  methods := #[k1m0, k1m1, k1m2, k1m3]
  instanceTypes := #[]
  staticTypes := #[]
  resolved := Array.replicate 46 none
  statics := none }

def pool2 : Array CpInfo := pool [(1, .class_ 2), (0, u "java/io/Serializable"), (0, .class_ 4), (0, u "java/lang/Object")] 2

/-- java/io/Serializable -/
def k2 : Class := { plain "java/io/Serializable" (some 0) with
  accessFlags := 1537
  interfaces := #[]
  cf := some (fileOf pool2 1 #[] #[] 1537 3 #[] #[])
  fields := #[]
  methods := #[]
  instanceTypes := #[]
  staticTypes := #[]
  resolved := Array.replicate 7 none
  statics := none }

def pool3 : Array CpInfo := pool [(1, .class_ 2), (0, u "java/lang/Comparable"), (0, .class_ 4), (0, u "java/lang/Object")] 7

/-- java/lang/Comparable -/
def k3 : Class := { plain "java/lang/Comparable" (some 0) with
  accessFlags := 1537
  interfaces := #[]
  cf := some (fileOf pool3 1 #[] #[] 1537 3 #[] #[])
  fields := #[]
  methods := #[]
  instanceTypes := #[]
  staticTypes := #[]
  resolved := Array.replicate 12 none
  statics := none }

def pool4 : Array CpInfo := pool [(2, .class_ 4), (1, u "java/lang/CharSequence"), (42, .class_ 48), (0, u "java/lang/CharSequence$1CodePointIterator"), (10, .class_ 60), (0, u "java/lang/CharSequence$1CharIterator"), (5, .class_ 67), (0, u "java/lang/Object")] 63

/-- java/lang/CharSequence -/
def k4 : Class := { plain "java/lang/CharSequence" (some 0) with
  accessFlags := 1537
  interfaces := #[]
  cf := some (fileOf pool4 2 #[.nestMembers #[47, 59]] #[] 1537 66 #[] #[])
  fields := #[]
  methods := #[]
  instanceTypes := #[]
  staticTypes := #[]
  resolved := Array.replicate 131 none
  statics := none }

def pool5 : Array CpInfo := pool [(1, .class_ 2), (0, u "java/lang/constant/Constable"), (0, .class_ 4), (0, u "java/lang/Object")] 6

/-- java/lang/constant/Constable -/
def k5 : Class := { plain "java/lang/constant/Constable" (some 0) with
  accessFlags := 1537
  interfaces := #[]
  cf := some (fileOf pool5 1 #[] #[] 1537 3 #[] #[])
  fields := #[]
  methods := #[]
  instanceTypes := #[]
  staticTypes := #[]
  resolved := Array.replicate 11 none
  statics := none }

def pool6 : Array CpInfo := pool [(1, .class_ 2), (0, u "java/lang/constant/ConstantDesc"), (0, .class_ 4), (0, u "java/lang/Object")] 32

/-- java/lang/constant/ConstantDesc -/
def k6 : Class := { plain "java/lang/constant/ConstantDesc" (some 0) with
  accessFlags := 1537
  interfaces := #[]
  cf := some (fileOf pool6 1 #[] #[] 1537 3 #[] #[])
  fields := #[]
  methods := #[]
  instanceTypes := #[]
  staticTypes := #[]
  resolved := Array.replicate 37 none
  statics := none }

def pool7 : Array CpInfo := pool [(1, .methodref 2 3), (0, .class_ 4), (0, .nameAndType 5 6), (0, u "java/lang/Object"), (0, u "<init>"), (0, u "()V"), (0, .string 8), (0, u ""), (0, .fieldref 10 11), (0, .class_ 12), (0, .nameAndType 13 14), (0, u "java/lang/String"), (0, u "value"), (0, u "[B"), (0, .fieldref 10 16), (0, .nameAndType 17 18), (0, u "coder"), (0, u "B"), (2, u "hash"), (0, u "I"), (2, u "hashIsZero"), (0, u "Z"), (0, .methodref 10 28), (0, .nameAndType 5 29), (0, u "([CIILjava/lang/Void;)V"), (8, .fieldref 10 39), (0, .nameAndType 40 26), (0, u "COMPACT_STRINGS"), (1, .class_ 44), (1, u "java/lang/StringUTF16"), (0, u "compress"), (1, .methodref 42 48), (0, .nameAndType 49 50), (0, u "coderFromArrayLen"), (0, u "([BI)B"), (56, .class_ 109), (1, u "java/lang/StringLatin1"), (32, u "()Z"), (34, .methodref 42 178), (0, .nameAndType 45 179), (0, u "([CII)[B"), (31, u "([BB)V"), (122, u "()I"), (0, .methodref 10 336), (0, .nameAndType 17 337), (0, u "()B"), (25, u "([BI)C"), (27, u "(II)V"), (35, u "(I)C"), (64, .methodref 10 493), (0, .nameAndType 494 142), (0, u "isLatin1"), (0, .methodref 107 496), (0, .nameAndType 497 363), (0, u "charAt"), (3, u "checkIndex"), (3, .methodref 10 506), (0, .nameAndType 507 334), (0, u "length"), (5, u "checkFromToIndex"), (7, .methodref 10 522), (0, .nameAndType 523 524), (0, u "checkBoundsBeginEnd"), (0, u "(III)V"), (50, .class_ 576), (0, u "java/lang/CharSequence"), (22, u "CASE_INSENSITIVE_ORDER"), (0, u "Ljava/util/Comparator;"), (32, .methodref 10 634), (0, .nameAndType 635 636), (0, u "indexOf"), (0, u "(II)I"), (0, .methodref 107 638), (0, .nameAndType 635 639), (0, u "([BIII)I"), (43, u "substring"), (0, u "(II)Ljava/lang/String;"), (0, .methodref 107 686), (0, .nameAndType 687 688), (0, u "newString"), (0, u "([BII)Ljava/lang/String;"), (76, u "(I)I"), (244, u "([C)V"), (42, .fieldref 1054 1055), (0, .class_ 1056), (0, .nameAndType 1057 1058), (0, u "jdk/internal/util/Preconditions"), (0, u "SIOOBE_FORMATTER"), (0, u "Ljava/util/function/BiFunction;"), (0, .methodref 1054 1060), (0, .nameAndType 501 1061), (0, u "(IILjava/util/function/BiFunction;)I"), (0, .methodref 1054 1063), (0, .nameAndType 513 1064), (0, u "(IIILjava/util/function/BiFunction;)I"), (36, u "serialPersistentFields"), (0, u "[Ljava/io/ObjectStreamField;"), (0, .class_ 1104), (0, u "java/lang/String$CaseInsensitiveComparator"), (1, .class_ 1107), (0, u "java/io/Serializable"), (0, .class_ 1109), (0, u "java/lang/Comparable"), (0, .class_ 1111), (0, u "java/lang/constant/Constable"), (0, .class_ 1113), (0, u "java/lang/constant/ConstantDesc"), (2, u "serialVersionUID"), (0, u "J"), (3, u "REPL"), (0, u "C"), (2, u "LATIN1"), (1, u "UTF16")] 323

def k7m0 : Method := { name := "<init>", desc := "()V", sig := { parameters := [], returnType := none }, accessFlags := 1, code := none }
def k7c1 : Code := { maxStack := 5, maxLocals := 2, code := jdk_42_method_3_code, exceptionTable := #[], attributes := #[] }
def k7m1 : Method := { name := "<init>", desc := "([C)V", sig := { parameters := [(.array .char)], returnType := none }, accessFlags := 1, code := some k7c1 }
def k7c2 : Code := { maxStack := 2, maxLocals := 1, code := jdk_42_method_54_code, exceptionTable := #[], attributes := #[] }
def k7m2 : Method := { name := "length", desc := "()I", sig := { parameters := [], returnType := some .int }, accessFlags := 1, code := some k7c2 }
def k7c3 : Code := { maxStack := 2, maxLocals := 2, code := jdk_42_method_56_code, exceptionTable := #[], attributes := #[] }
def k7m3 : Method := { name := "charAt", desc := "(I)C", sig := { parameters := [.int], returnType := some .char }, accessFlags := 1, code := some k7c3 }
def k7c4 : Code := { maxStack := 3, maxLocals := 2, code := jdk_42_method_79_code, exceptionTable := #[], attributes := #[] }
def k7m4 : Method := { name := "indexOf", desc := "(I)I", sig := { parameters := [.int], returnType := some .int }, accessFlags := 1, code := some k7c4 }
def k7c5 : Code := { maxStack := 4, maxLocals := 3, code := jdk_42_method_80_code, exceptionTable := #[], attributes := #[] }
def k7m5 : Method := { name := "indexOf", desc := "(II)I", sig := { parameters := [.int, .int], returnType := some .int }, accessFlags := 1, code := some k7c5 }
def k7c6 : Code := { maxStack := 3, maxLocals := 5, code := jdk_42_method_92_code, exceptionTable := #[], attributes := #[] }
def k7m6 : Method := { name := "substring", desc := "(II)Ljava/lang/String;", sig := { parameters := [.int, .int], returnType := some (.object "java/lang/String") }, accessFlags := 1, code := some k7c6 }
def k7c7 : Code := { maxStack := 4, maxLocals := 6, code := jdk_42_method_149_code, exceptionTable := #[], attributes := #[] }
def k7m7 : Method := { name := "<init>", desc := "([CIILjava/lang/Void;)V", sig := { parameters := [(.array .char), .int, .int, (.object "java/lang/Void")], returnType := none }, accessFlags := 2, code := some k7c7 }
def k7c8 : Code := { maxStack := 2, maxLocals := 3, code := jdk_42_method_151_code, exceptionTable := #[], attributes := #[] }
def k7m8 : Method := { name := "<init>", desc := "([BB)V", sig := { parameters := [(.array .byte), .byte], returnType := none }, accessFlags := 0, code := some k7c8 }
def k7c9 : Code := { maxStack := 1, maxLocals := 1, code := jdk_42_method_152_code, exceptionTable := #[], attributes := #[] }
def k7m9 : Method := { name := "coder", desc := "()B", sig := { parameters := [], returnType := some .byte }, accessFlags := 0, code := some k7c9 }
def k7c10 : Code := { maxStack := 1, maxLocals := 1, code := jdk_42_method_154_code, exceptionTable := #[], attributes := #[] }
def k7m10 : Method := { name := "isLatin1", desc := "()Z", sig := { parameters := [], returnType := some .boolean }, accessFlags := 0, code := some k7c10 }
def k7c11 : Code := { maxStack := 3, maxLocals := 2, code := jdk_42_method_155_code, exceptionTable := #[], attributes := #[] }
def k7m11 : Method := { name := "checkIndex", desc := "(II)V", sig := { parameters := [.int, .int], returnType := none }, accessFlags := 8, code := some k7c11 }
def k7c12 : Code := { maxStack := 4, maxLocals := 3, code := jdk_42_method_158_code, exceptionTable := #[], attributes := #[] }
def k7m12 : Method := { name := "checkBoundsBeginEnd", desc := "(III)V", sig := { parameters := [.int, .int, .int], returnType := none }, accessFlags := 8, code := some k7c12 }
/-- java/lang/String -/
def k7 : Class := { plain "java/lang/String" (some 0) with
  accessFlags := 49
  interfaces := #[2, 3, 4, 5, 6]
  cf := some (fileOf pool7 10 #[.nestMembers #[1103]] #[{ accessFlags := 1, nameIndex := 5, descriptorIndex := 6, attributes := #[] }, { accessFlags := 1, nameIndex := 5, descriptorIndex := 1010, attributes := #[] }, { accessFlags := 1, nameIndex := 507, descriptorIndex := 334, attributes := #[] }, { accessFlags := 1, nameIndex := 497, descriptorIndex := 427, attributes := #[] }, { accessFlags := 1, nameIndex := 635, descriptorIndex := 765, attributes := #[] }, { accessFlags := 1, nameIndex := 635, descriptorIndex := 636, attributes := #[] }, { accessFlags := 1, nameIndex := 683, descriptorIndex := 684, attributes := #[] }, { accessFlags := 2, nameIndex := 5, descriptorIndex := 29, attributes := #[] }, { accessFlags := 0, nameIndex := 5, descriptorIndex := 211, attributes := #[] }, { accessFlags := 0, nameIndex := 17, descriptorIndex := 337, attributes := #[] }, { accessFlags := 0, nameIndex := 494, descriptorIndex := 142, attributes := #[] }, { accessFlags := 8, nameIndex := 501, descriptorIndex := 391, attributes := #[] }, { accessFlags := 8, nameIndex := 523, descriptorIndex := 524, attributes := #[] }] 49 2 #[1106, 1108, 575, 1110, 1112] #[{ accessFlags := 18, nameIndex := 13, descriptorIndex := 14, attributes := #[] }, { accessFlags := 18, nameIndex := 17, descriptorIndex := 18, attributes := #[] }, { accessFlags := 2, nameIndex := 21, descriptorIndex := 22, attributes := #[] }, { accessFlags := 2, nameIndex := 25, descriptorIndex := 26, attributes := #[] }, { accessFlags := 26, nameIndex := 1116, descriptorIndex := 1117, attributes := #[] }, { accessFlags := 24, nameIndex := 40, descriptorIndex := 26, attributes := #[] }, { accessFlags := 26, nameIndex := 1101, descriptorIndex := 1102, attributes := #[] }, { accessFlags := 26, nameIndex := 1121, descriptorIndex := 1122, attributes := #[] }, { accessFlags := 25, nameIndex := 599, descriptorIndex := 600, attributes := #[] }, { accessFlags := 24, nameIndex := 1125, descriptorIndex := 18, attributes := #[] }, { accessFlags := 24, nameIndex := 1127, descriptorIndex := 18, attributes := #[] }])
  fields := #[{ name := "value", type := (.array .byte), accessFlags := 18, slot := 0, constantValue := 0 }, { name := "coder", type := .byte, accessFlags := 18, slot := 1, constantValue := 0 }, { name := "hash", type := .int, accessFlags := 2, slot := 2, constantValue := 0 }, { name := "hashIsZero", type := .boolean, accessFlags := 2, slot := 3, constantValue := 0 }, { name := "serialVersionUID", type := .long, accessFlags := 26, slot := 0, constantValue := 0 }, { name := "COMPACT_STRINGS", type := .boolean, accessFlags := 24, slot := 1, constantValue := 0 }, { name := "serialPersistentFields", type := (.array (.object "java/io/ObjectStreamField")), accessFlags := 26, slot := 2, constantValue := 0 }, { name := "REPL", type := .char, accessFlags := 26, slot := 3, constantValue := 0 }, { name := "CASE_INSENSITIVE_ORDER", type := (.object "java/util/Comparator"), accessFlags := 25, slot := 4, constantValue := 0 }, { name := "LATIN1", type := .byte, accessFlags := 24, slot := 5, constantValue := 0 }, { name := "UTF16", type := .byte, accessFlags := 24, slot := 6, constantValue := 0 }]
  methods := #[k7m0, k7m1, k7m2, k7m3, k7m4, k7m5, k7m6, k7m7, k7m8, k7m9, k7m10, k7m11, k7m12]
  instanceTypes := #[(.array .byte), .byte, .int, .boolean]
  staticTypes := #[.long, .boolean, (.array (.object "java/io/ObjectStreamField")), .char, (.object "java/util/Comparator"), .byte, .byte]
  resolved := Array.replicate 1451 none
  statics := some 0 }

def pool8 : Array CpInfo := pool [(1, .methodref 2 3), (0, .class_ 4), (0, .nameAndType 5 6), (0, u "java/lang/Object"), (0, u "<init>"), (0, u "()V"), (0, .class_ 8), (0, u "java/lang/Record")] 13

def k8c0 : Code := { maxStack := 1, maxLocals := 1, code := jdk_30_method_1_code, exceptionTable := #[], attributes := #[] }
def k8m0 : Method := { name := "<init>", desc := "()V", sig := { parameters := [], returnType := none }, accessFlags := 4, code := some k8c0 }
/-- java/lang/Record -/
def k8 : Class := { plain "java/lang/Record" (some 0) with
  accessFlags := 1057
  interfaces := #[]
  cf := some (fileOf pool8 7 #[] #[{ accessFlags := 4, nameIndex := 5, descriptorIndex := 6, attributes := #[] }] 1057 2 #[] #[])
  fields := #[]
  methods := #[k8m0]
  instanceTypes := #[]
  staticTypes := #[]
  resolved := Array.replicate 22 none
  statics := none }

def pool9 : Array CpInfo := pool [(1, .methodref 2 3), (0, .class_ 4), (0, .nameAndType 5 6), (0, u "java/lang/Record"), (0, u "<init>"), (0, u "()V"), (0, .fieldref 8 9), (0, .class_ 10), (0, .nameAndType 11 12), (0, u "com/example/lean_lock/leanlock/redis/ErrorReply"), (0, u "message"), (0, u "Ljava/lang/String;"), (0, .methodref 14 15), (0, .class_ 16), (0, .nameAndType 17 18), (0, u "java/lang/String"), (0, u "indexOf"), (0, u "(I)I"), (0, .methodref 14 20), (0, .nameAndType 21 22), (0, u "substring"), (0, u "(II)Ljava/lang/String;"), (8, u "(Ljava/lang/String;)V"), (3, u "code"), (0, u "()Ljava/lang/String;")] 23

def k9c0 : Code := { maxStack := 2, maxLocals := 2, code := prog_23_method_1_code, exceptionTable := #[], attributes := #[] }
def k9m0 : Method := { name := "<init>", desc := "(Ljava/lang/String;)V", sig := { parameters := [(.object "java/lang/String")], returnType := none }, accessFlags := 0, code := some k9c0 }
def k9c1 : Code := { maxStack := 3, maxLocals := 2, code := prog_23_method_2_code, exceptionTable := #[], attributes := #[] }
def k9m1 : Method := { name := "code", desc := "()Ljava/lang/String;", sig := { parameters := [], returnType := some (.object "java/lang/String") }, accessFlags := 0, code := some k9c1 }
/-- com/example/lean_lock/leanlock/redis/ErrorReply -/
def k9 : Class := { plain "com/example/lean_lock/leanlock/redis/ErrorReply" (some 8) with
  accessFlags := 48
  interfaces := #[]
  cf := some (fileOf pool9 8 #[] #[{ accessFlags := 0, nameIndex := 5, descriptorIndex := 31, attributes := #[] }, { accessFlags := 0, nameIndex := 35, descriptorIndex := 36, attributes := #[] }] 48 2 #[] #[{ accessFlags := 18, nameIndex := 11, descriptorIndex := 12, attributes := #[] }])
  fields := #[{ name := "message", type := (.object "java/lang/String"), accessFlags := 18, slot := 0, constantValue := 0 }]
  methods := #[k9m0, k9m1]
  instanceTypes := #[(.object "java/lang/String")]
  staticTypes := #[]
  resolved := Array.replicate 60 none
  statics := none }

def pool10 : Array CpInfo := pool [(1, .class_ 2), (0, u "java/lang/String"), (1, .class_ 6), (1, u "java/lang/Object"), (0, u "<init>"), (0, u "()V"), (0, .methodref 1 10), (0, .nameAndType 11 12), (0, u "checkIndex"), (0, u "(II)V"), (1, .class_ 16), (1, u "java/lang/StringLatin1"), (21, .methodref 39 40), (0, .class_ 41), (0, .nameAndType 42 43), (0, u "java/lang/Math"), (0, u "min"), (0, u "(II)I"), (9, u "([BI)C"), (34, .methodref 14 89), (0, .nameAndType 90 91), (0, u "canEncode"), (0, u "(I)Z"), (0, .methodref 39 93), (0, .nameAndType 94 43), (0, u "max"), (0, .methodref 14 96), (0, .nameAndType 97 98), (0, u "indexOfChar"), (0, u "([BIII)I"), (2, u "indexOf"), (10, .methodref 1 113), (0, .nameAndType 7 114), (0, u "([BB)V"), (6, u "$assertionsDisabled"), (0, u "Z"), (8, .class_ 133), (1, u "java/util/Arrays"), (17, .string 152), (0, u ""), (43, u "newString"), (0, u "([BII)Ljava/lang/String;"), (23, .class_ 223), (1, u "java/lang/StringLatin1$LinesSpliterator"), (8, .methodref 131 233), (0, .nameAndType 234 235), (0, u "copyOfRange"), (0, u "([BII)[B"), (16, u "charAt"), (137, .class_ 391), (0, u "java/lang/StringLatin1$CharsSpliterator")] 3

def k10m0 : Method := { name := "<init>", desc := "()V", sig := { parameters := [], returnType := none }, accessFlags := 0, code := none }
def k10c1 : Code := { maxStack := 2, maxLocals := 2, code := jdk_43_method_2_code, exceptionTable := #[], attributes := #[] }
def k10m1 : Method := { name := "charAt", desc := "([BI)C", sig := { parameters := [(.array .byte), .int], returnType := some .char }, accessFlags := 9, code := some k10c1 }
def k10c2 : Code := { maxStack := 2, maxLocals := 1, code := jdk_43_method_4_code, exceptionTable := #[], attributes := #[] }
def k10m2 : Method := { name := "canEncode", desc := "(I)Z", sig := { parameters := [.int], returnType := some .boolean }, accessFlags := 9, code := some k10c2 }
def k10c3 : Code := { maxStack := 4, maxLocals := 4, code := jdk_43_method_22_code, exceptionTable := #[], attributes := #[] }
def k10m3 : Method := { name := "indexOf", desc := "([BIII)I", sig := { parameters := [(.array .byte), .int, .int, .int], returnType := some .int }, accessFlags := 9, code := some k10c3 }
def k10c4 : Code := { maxStack := 2, maxLocals := 6, code := jdk_43_method_23_code, exceptionTable := #[], attributes := #[] }
def k10m4 : Method := { name := "indexOfChar", desc := "([BIII)I", sig := { parameters := [(.array .byte), .int, .int, .int], returnType := some .int }, accessFlags := 10, code := some k10c4 }
def k10c5 : Code := { maxStack := 6, maxLocals := 3, code := jdk_43_method_47_code, exceptionTable := #[], attributes := #[] }
def k10m5 : Method := { name := "newString", desc := "([BII)Ljava/lang/String;", sig := { parameters := [(.array .byte), .int, .int], returnType := some (.object "java/lang/String") }, accessFlags := 9, code := some k10c5 }
/-- java/lang/StringLatin1 -/
def k10 : Class := { plain "java/lang/StringLatin1" (some 0) with
  accessFlags := 48
  interfaces := #[]
  cf := some (fileOf pool10 14 #[.nestMembers #[390, 221]] #[{ accessFlags := 0, nameIndex := 7, descriptorIndex := 8, attributes := #[] }, { accessFlags := 9, nameIndex := 252, descriptorIndex := 53, attributes := #[] }, { accessFlags := 9, nameIndex := 90, descriptorIndex := 91, attributes := #[] }, { accessFlags := 9, nameIndex := 101, descriptorIndex := 98, attributes := #[] }, { accessFlags := 10, nameIndex := 97, descriptorIndex := 98, attributes := #[] }, { accessFlags := 9, nameIndex := 196, descriptorIndex := 197, attributes := #[] }] 48 4 #[] #[{ accessFlags := 4120, nameIndex := 121, descriptorIndex := 122, attributes := #[] }])
  fields := #[{ name := "$assertionsDisabled", type := .boolean, accessFlags := 4120, slot := 0, constantValue := 0 }]
  methods := #[k10m0, k10m1, k10m2, k10m3, k10m4, k10m5]
  instanceTypes := #[]
  staticTypes := #[.boolean]
  resolved := Array.replicate 395 none
  statics := none }

def pool11 : Array CpInfo := pool [(1, .class_ 2), (0, u "java/lang/Math"), (1, .class_ 6), (1, u "java/lang/Object"), (0, u "<init>"), (0, u "()V"), (89, .class_ 100), (1, u "java/lang/Math$RandomNumberGeneratorHolder"), (71, u "negativeZeroFloatBits"), (0, u "J"), (2, u "negativeZeroDoubleBits"), (21, u "max"), (2, u "min"), (43, u "$assertionsDisabled"), (0, u "Z"), (88, u "(II)I"), (2, u "twoToTheDoubleScaleDown"), (0, u "D"), (4, u "twoToTheDoubleScaleUp"), (9, u "E"), (3, u "PI"), (2, u "TAU"), (2, u "DEGREES_TO_RADIANS"), (0, u "RADIANS_TO_DEGREES")] 94

def k11m0 : Method := { name := "<init>", desc := "()V", sig := { parameters := [], returnType := none }, accessFlags := 2, code := none }
def k11c1 : Code := { maxStack := 2, maxLocals := 2, code := jdk_29_method_65_code, exceptionTable := #[], attributes := #[] }
def k11m1 : Method := { name := "max", desc := "(II)I", sig := { parameters := [.int, .int], returnType := some .int }, accessFlags := 9, code := some k11c1 }
def k11c2 : Code := { maxStack := 2, maxLocals := 2, code := jdk_29_method_69_code, exceptionTable := #[], attributes := #[] }
def k11m2 : Method := { name := "min", desc := "(II)I", sig := { parameters := [.int, .int], returnType := some .int }, accessFlags := 9, code := some k11c2 }
/-- java/lang/Math -/
def k11 : Class := { plain "java/lang/Math" (some 0) with
  accessFlags := 49
  interfaces := #[]
  cf := some (fileOf pool11 1 #[.nestMembers #[98]] #[{ accessFlags := 2, nameIndex := 7, descriptorIndex := 8, attributes := #[] }, { accessFlags := 9, nameIndex := 198, descriptorIndex := 335, attributes := #[] }, { accessFlags := 9, nameIndex := 201, descriptorIndex := 335, attributes := #[] }] 49 4 #[] #[{ accessFlags := 25, nameIndex := 354, descriptorIndex := 339, attributes := #[] }, { accessFlags := 25, nameIndex := 358, descriptorIndex := 339, attributes := #[] }, { accessFlags := 25, nameIndex := 361, descriptorIndex := 339, attributes := #[] }, { accessFlags := 26, nameIndex := 364, descriptorIndex := 339, attributes := #[] }, { accessFlags := 26, nameIndex := 365, descriptorIndex := 339, attributes := #[] }, { accessFlags := 26, nameIndex := 172, descriptorIndex := 173, attributes := #[] }, { accessFlags := 26, nameIndex := 176, descriptorIndex := 173, attributes := #[] }, { accessFlags := 8, nameIndex := 344, descriptorIndex := 339, attributes := #[] }, { accessFlags := 8, nameIndex := 338, descriptorIndex := 339, attributes := #[] }, { accessFlags := 4120, nameIndex := 245, descriptorIndex := 246, attributes := #[] }])
  fields := #[{ name := "E", type := .double, accessFlags := 25, slot := 0, constantValue := 0 }, { name := "PI", type := .double, accessFlags := 25, slot := 1, constantValue := 0 }, { name := "TAU", type := .double, accessFlags := 25, slot := 2, constantValue := 0 }, { name := "DEGREES_TO_RADIANS", type := .double, accessFlags := 26, slot := 3, constantValue := 0 }, { name := "RADIANS_TO_DEGREES", type := .double, accessFlags := 26, slot := 4, constantValue := 0 }, { name := "negativeZeroFloatBits", type := .long, accessFlags := 26, slot := 5, constantValue := 0 }, { name := "negativeZeroDoubleBits", type := .long, accessFlags := 26, slot := 6, constantValue := 0 }, { name := "twoToTheDoubleScaleUp", type := .double, accessFlags := 8, slot := 7, constantValue := 0 }, { name := "twoToTheDoubleScaleDown", type := .double, accessFlags := 8, slot := 8, constantValue := 0 }, { name := "$assertionsDisabled", type := .boolean, accessFlags := 4120, slot := 9, constantValue := 0 }]
  methods := #[k11m0, k11m1, k11m2]
  instanceTypes := #[]
  staticTypes := #[.double, .double, .double, .double, .double, .long, .long, .double, .double, .boolean]
  resolved := Array.replicate 460 none
  statics := none }

def pool12 : Array CpInfo := pool [(6, .class_ 8), (1, u "java/lang/Object"), (0, u "<init>"), (0, u "()V"), (1, .class_ 14), (1, u "java/lang/StringUTF16"), (31, u "$assertionsDisabled"), (0, u "Z"), (13, u "HI_BYTE_SHIFT"), (0, u "I"), (2, u "LO_BYTE_SHIFT"), (49, .methodref 12 116), (0, .nameAndType 117 118), (0, u "compress"), (0, u "([CI[BII)I"), (3, u "([CII)[B"), (138, u "coderFromArrayLen"), (0, u "([BI)B"), (106, .class_ 371), (1, u "java/lang/StringUTF16$LinesSpliterator"), (58, u "MAX_LENGTH"), (196, .class_ 628), (0, u "java/lang/StringUTF16$CodePointsSpliterator"), (0, .class_ 630), (0, u "java/lang/StringUTF16$CharsSpliterator")] 4

def k12m0 : Method := { name := "<init>", desc := "()V", sig := { parameters := [], returnType := none }, accessFlags := 0, code := none }
def k12c1 : Code := { maxStack := 2, maxLocals := 2, code := jdk_52_method_15_code, exceptionTable := #[], attributes := #[] }
def k12m1 : Method := { name := "coderFromArrayLen", desc := "([BI)B", sig := { parameters := [(.array .byte), .int], returnType := some .byte }, accessFlags := 8, code := some k12c1 }
def k12c2 : Code := { maxStack := 5, maxLocals := 6, code := jdk_52_method_16_code, exceptionTable := #[], attributes := #[] }
def k12m2 : Method := { name := "compress", desc := "([CII)[B", sig := { parameters := [(.array .char), .int, .int], returnType := some (.array .byte) }, accessFlags := 9, code := some k12c2 }
def k12c3 : Code := { maxStack := 3, maxLocals := 7, code := jdk_52_method_21_code, exceptionTable := #[], attributes := #[] }
def k12m3 : Method := { name := "compress", desc := "([CI[BII)I", sig := { parameters := [(.array .char), .int, (.array .byte), .int, .int], returnType := some .int }, accessFlags := 9, code := some k12c3 }
/-- java/lang/StringUTF16 -/
def k12 : Class := { plain "java/lang/StringUTF16" (some 0) with
  accessFlags := 48
  interfaces := #[]
  cf := some (fileOf pool12 12 #[.nestMembers #[627, 629, 369]] #[{ accessFlags := 0, nameIndex := 9, descriptorIndex := 10, attributes := #[] }, { accessFlags := 8, nameIndex := 261, descriptorIndex := 262, attributes := #[] }, { accessFlags := 9, nameIndex := 117, descriptorIndex := 122, attributes := #[] }, { accessFlags := 9, nameIndex := 117, descriptorIndex := 118, attributes := #[] }] 48 6 #[] #[{ accessFlags := 26, nameIndex := 61, descriptorIndex := 62, attributes := #[] }, { accessFlags := 26, nameIndex := 65, descriptorIndex := 62, attributes := #[] }, { accessFlags := 24, nameIndex := 430, descriptorIndex := 62, attributes := #[] }, { accessFlags := 4120, nameIndex := 46, descriptorIndex := 47, attributes := #[] }])
  fields := #[{ name := "HI_BYTE_SHIFT", type := .int, accessFlags := 26, slot := 0, constantValue := 0 }, { name := "LO_BYTE_SHIFT", type := .int, accessFlags := 26, slot := 1, constantValue := 0 }, { name := "MAX_LENGTH", type := .int, accessFlags := 24, slot := 2, constantValue := 0 }, { name := "$assertionsDisabled", type := .boolean, accessFlags := 4120, slot := 3, constantValue := 0 }]
  methods := #[k12m0, k12m1, k12m2, k12m3]
  instanceTypes := #[]
  staticTypes := #[.int, .int, .int, .boolean]
  resolved := Array.replicate 635 none
  statics := none }

def pool13 : Array CpInfo := pool [(2, .class_ 4), (1, u "java/lang/Object"), (0, u "<init>"), (0, u "()V"), (17, .class_ 26), (1, u "jdk/internal/util/Preconditions"), (6, u "checkIndex"), (13, u "checkFromToIndex"), (7, .class_ 56), (0, u "jdk/internal/util/Preconditions$4"), (57, .class_ 115), (0, u "jdk/internal/util/Preconditions$1"), (7, u "SIOOBE_FORMATTER"), (0, u "Ljava/util/function/BiFunction;"), (0, .class_ 126), (0, u "jdk/internal/util/Preconditions$2"), (3, u "AIOOBE_FORMATTER"), (0, .class_ 132), (0, u "jdk/internal/util/Preconditions$3"), (3, u "IOOBE_FORMATTER"), (41, u "(IILjava/util/function/BiFunction;)I"), (4, u "(IIILjava/util/function/BiFunction;)I")] 10

def k13m0 : Method := { name := "<init>", desc := "()V", sig := { parameters := [], returnType := none }, accessFlags := 1, code := none }
def k13c1 : Code := { maxStack := 3, maxLocals := 3, code := jdk_41_method_11_code, exceptionTable := #[], attributes := #[] }
def k13m1 : Method := { name := "checkIndex", desc := "(IILjava/util/function/BiFunction;)I", sig := { parameters := [.int, .int, (.object "java/util/function/BiFunction")], returnType := some .int }, accessFlags := 9, code := some k13c1 }
def k13c2 : Code := { maxStack := 4, maxLocals := 4, code := jdk_41_method_12_code, exceptionTable := #[], attributes := #[] }
def k13m2 : Method := { name := "checkFromToIndex", desc := "(IIILjava/util/function/BiFunction;)I", sig := { parameters := [.int, .int, .int, (.object "java/util/function/BiFunction")], returnType := some .int }, accessFlags := 9, code := some k13c2 }
/-- jdk/internal/util/Preconditions -/
def k13 : Class := { plain "jdk/internal/util/Preconditions" (some 0) with
  accessFlags := 33
  interfaces := #[]
  cf := some (fileOf pool13 24 #[.nestMembers #[55, 131, 125, 114]] #[{ accessFlags := 1, nameIndex := 5, descriptorIndex := 6, attributes := #[] }, { accessFlags := 9, nameIndex := 33, descriptorIndex := 178, attributes := #[] }, { accessFlags := 9, nameIndex := 47, descriptorIndex := 183, attributes := #[] }] 33 2 #[] #[{ accessFlags := 25, nameIndex := 123, descriptorIndex := 124, attributes := #[] }, { accessFlags := 25, nameIndex := 130, descriptorIndex := 124, attributes := #[] }, { accessFlags := 25, nameIndex := 136, descriptorIndex := 124, attributes := #[] }])
  fields := #[{ name := "SIOOBE_FORMATTER", type := (.object "java/util/function/BiFunction"), accessFlags := 25, slot := 0, constantValue := 0 }, { name := "AIOOBE_FORMATTER", type := (.object "java/util/function/BiFunction"), accessFlags := 25, slot := 1, constantValue := 0 }, { name := "IOOBE_FORMATTER", type := (.object "java/util/function/BiFunction"), accessFlags := 25, slot := 2, constantValue := 0 }]
  methods := #[k13m0, k13m1, k13m2]
  instanceTypes := #[]
  staticTypes := #[(.object "java/util/function/BiFunction"), (.object "java/util/function/BiFunction"), (.object "java/util/function/BiFunction")]
  resolved := Array.replicate 194 none
  statics := some 1 }

def pool14 : Array CpInfo := pool [(2, .class_ 4), (1, u "java/lang/Object"), (0, u "<init>"), (0, u "()V"), (7, .class_ 16), (1, u "java/util/Arrays"), (57, .class_ 76), (1, u "java/util/Arrays$NaturalOrder"), (36, .class_ 115), (1, u "java/util/Arrays$LegacyMergeSort"), (1, u "Z"), (21, u "copyOfRange"), (10, .methodref 151 152), (0, .class_ 153), (0, .nameAndType 154 155), (0, u "java/lang/System"), (0, u "arraycopy"), (0, u "(Ljava/lang/Object;ILjava/lang/Object;II)V"), (148, .methodref 305 306), (0, .class_ 307), (0, .nameAndType 308 309), (0, u "java/lang/Math"), (0, u "min"), (0, u "(II)I"), (29, .methodref 14 340), (0, .nameAndType 341 342), (0, u "copyOfRangeByte"), (0, u "([BII)[B"), (0, .methodref 14 344), (0, .nameAndType 345 346), (0, u "checkLength"), (0, u "(II)V"), (28, .class_ 376), (0, u "java/util/Arrays$ArrayList"), (68, u "$assertionsDisabled"), (269, u "MIN_ARRAY_SORT_GRAN"), (0, u "I"), (2, u "INSERTIONSORT_THRESHOLD"), (255, .class_ 976), (0, u "java/util/Arrays$ArrayItr")] 52

def k14m0 : Method := { name := "<init>", desc := "()V", sig := { parameters := [], returnType := none }, accessFlags := 2, code := none }
def k14c1 : Code := { maxStack := 4, maxLocals := 2, code := jdk_65_method_131_code, exceptionTable := #[], attributes := #[] }
def k14m1 : Method := { name := "checkLength", desc := "(II)V", sig := { parameters := [.int, .int], returnType := none }, accessFlags := 10, code := some k14c1 }
def k14c2 : Code := { maxStack := 3, maxLocals := 3, code := jdk_65_method_132_code, exceptionTable := #[], attributes := #[] }
def k14m2 : Method := { name := "copyOfRange", desc := "([BII)[B", sig := { parameters := [(.array .byte), .int, .int], returnType := some (.array .byte) }, accessFlags := 9, code := some k14c2 }
def k14c3 : Code := { maxStack := 6, maxLocals := 5, code := jdk_65_method_133_code, exceptionTable := #[], attributes := #[] }
def k14m3 : Method := { name := "copyOfRangeByte", desc := "([BII)[B", sig := { parameters := [(.array .byte), .int, .int], returnType := some (.array .byte) }, accessFlags := 10, code := some k14c3 }
/-- java/util/Arrays -/
def k14 : Class := { plain "java/util/Arrays" (some 0) with
  accessFlags := 49
  interfaces := #[]
  cf := some (fileOf pool14 14 #[.nestMembers #[975, 375, 113, 74]] #[{ accessFlags := 2, nameIndex := 5, descriptorIndex := 6, attributes := #[] }, { accessFlags := 10, nameIndex := 345, descriptorIndex := 346, attributes := #[] }, { accessFlags := 9, nameIndex := 139, descriptorIndex := 342, attributes := #[] }, { accessFlags := 10, nameIndex := 341, descriptorIndex := 342, attributes := #[] }] 49 2 #[] #[{ accessFlags := 26, nameIndex := 715, descriptorIndex := 716, attributes := #[] }, { accessFlags := 26, nameIndex := 719, descriptorIndex := 716, attributes := #[] }, { accessFlags := 4120, nameIndex := 445, descriptorIndex := 117, attributes := #[] }])
  fields := #[{ name := "MIN_ARRAY_SORT_GRAN", type := .int, accessFlags := 26, slot := 0, constantValue := 0 }, { name := "INSERTIONSORT_THRESHOLD", type := .int, accessFlags := 26, slot := 1, constantValue := 0 }, { name := "$assertionsDisabled", type := .boolean, accessFlags := 4120, slot := 2, constantValue := 0 }]
  methods := #[k14m0, k14m1, k14m2, k14m3]
  instanceTypes := #[]
  staticTypes := #[.int, .int, .boolean]
  resolved := Array.replicate 1029 none
  statics := none }

def pool15 : Array CpInfo := pool [(2, .class_ 4), (1, u "java/lang/Object"), (0, u "<init>"), (0, u "()V"), (1, .class_ 10), (1, u "java/lang/System"), (0, u "allowSecurityManager"), (0, u "I"), (16, u "cons"), (0, u "Ljava/io/Console;"), (77, .class_ 110), (1, u "java/lang/System$CallersHolder"), (43, u "initialErrStream"), (0, u "Ljava/io/PrintStream;"), (19, u "security"), (0, u "Ljava/lang/SecurityManager;"), (31, .class_ 209), (0, u "java/lang/System$1"), (7, u "props"), (0, u "Ljava/util/Properties;"), (2, u "lineSeparator"), (0, u "Ljava/lang/String;"), (96, .class_ 321), (1, u "java/lang/System$LoggerFinder"), (5, .class_ 328), (0, u "java/lang/System$Logger"), (67, u "err"), (2, u "out"), (91, u "notSupportedJnuEncoding"), (15, u "in"), (17, u "initialIn"), (0, u "Ljava/io/InputStream;"), (35, u "bootLayer"), (0, u "Ljava/lang/ModuleLayer;"), (99, .class_ 664), (0, u "java/lang/System$2"), (9, u "NEVER"), (2, u "MAYBE"), (49, u "arraycopy"), (0, u "(Ljava/lang/Object;ILjava/lang/Object;II)V"), (72, .class_ 802), (0, u "java/lang/System$Logger$Level")] 31

def k15m0 : Method := { name := "<init>", desc := "()V", sig := { parameters := [], returnType := none }, accessFlags := 2, code := none }
def k15m1 : Method := { name := "arraycopy", desc := "(Ljava/lang/Object;ILjava/lang/Object;II)V", sig := { parameters := [(.object "java/lang/Object"), .int, (.object "java/lang/Object"), .int, .int], returnType := none }, accessFlags := 265, code := none }
/-- java/lang/System -/
def k15 : Class := { plain "java/lang/System" (some 0) with
  accessFlags := 49
  interfaces := #[]
  cf := some (fileOf pool15 8 #[.nestMembers #[319, 327, 801, 108, 663, 208]] #[{ accessFlags := 2, nameIndex := 5, descriptorIndex := 6, attributes := #[] }, { accessFlags := 265, nameIndex := 727, descriptorIndex := 728, attributes := #[] }] 49 2 #[] #[{ accessFlags := 25, nameIndex := 507, descriptorIndex := 526, attributes := #[] }, { accessFlags := 25, nameIndex := 399, descriptorIndex := 155, attributes := #[] }, { accessFlags := 25, nameIndex := 396, descriptorIndex := 155, attributes := #[] }, { accessFlags := 10, nameIndex := 525, descriptorIndex := 526, attributes := #[] }, { accessFlags := 26, nameIndex := 674, descriptorIndex := 12, attributes := #[] }, { accessFlags := 26, nameIndex := 677, descriptorIndex := 12, attributes := #[] }, { accessFlags := 10, nameIndex := 11, descriptorIndex := 12, attributes := #[] }, { accessFlags := 74, nameIndex := 175, descriptorIndex := 176, attributes := #[] }, { accessFlags := 10, nameIndex := 491, descriptorIndex := 222, attributes := #[] }, { accessFlags := 74, nameIndex := 29, descriptorIndex := 30, attributes := #[] }, { accessFlags := 74, nameIndex := 154, descriptorIndex := 155, attributes := #[] }, { accessFlags := 10, nameIndex := 217, descriptorIndex := 218, attributes := #[] }, { accessFlags := 10, nameIndex := 221, descriptorIndex := 222, attributes := #[] }, { accessFlags := 8, nameIndex := 562, descriptorIndex := 563, attributes := #[] }])
  fields := #[{ name := "in", type := (.object "java/io/InputStream"), accessFlags := 25, slot := 0, constantValue := 0 }, { name := "out", type := (.object "java/io/PrintStream"), accessFlags := 25, slot := 1, constantValue := 0 }, { name := "err", type := (.object "java/io/PrintStream"), accessFlags := 25, slot := 2, constantValue := 0 }, { name := "initialIn", type := (.object "java/io/InputStream"), accessFlags := 10, slot := 3, constantValue := 0 }, { name := "NEVER", type := .int, accessFlags := 26, slot := 4, constantValue := 0 }, { name := "MAYBE", type := .int, accessFlags := 26, slot := 5, constantValue := 0 }, { name := "allowSecurityManager", type := .int, accessFlags := 10, slot := 6, constantValue := 0 }, { name := "security", type := (.object "java/lang/SecurityManager"), accessFlags := 74, slot := 7, constantValue := 0 }, { name := "notSupportedJnuEncoding", type := (.object "java/lang/String"), accessFlags := 10, slot := 8, constantValue := 0 }, { name := "cons", type := (.object "java/io/Console"), accessFlags := 74, slot := 9, constantValue := 0 }, { name := "initialErrStream", type := (.object "java/io/PrintStream"), accessFlags := 74, slot := 10, constantValue := 0 }, { name := "props", type := (.object "java/util/Properties"), accessFlags := 10, slot := 11, constantValue := 0 }, { name := "lineSeparator", type := (.object "java/lang/String"), accessFlags := 10, slot := 12, constantValue := 0 }, { name := "bootLayer", type := (.object "java/lang/ModuleLayer"), accessFlags := 8, slot := 13, constantValue := 0 }]
  methods := #[k15m0, k15m1]
  instanceTypes := #[]
  staticTypes := #[(.object "java/io/InputStream"), (.object "java/io/PrintStream"), (.object "java/io/PrintStream"), (.object "java/io/InputStream"), .int, .int, .int, (.object "java/lang/SecurityManager"), (.object "java/lang/String"), (.object "java/io/Console"), (.object "java/io/PrintStream"), (.object "java/util/Properties"), (.object "java/lang/String"), (.object "java/lang/ModuleLayer")]
  resolved := Array.replicate 834 none
  statics := none }

def pool16 : Array CpInfo := pool [(9, u "<init>"), (6, .class_ 18), (1, u "java/lang/Object"), (0, u "()V"), (1, .class_ 23), (1, u "jdk/internal/util/ArraysSupport"), (0, u "LOG2_ARRAY_LONG_INDEX_SCALE"), (0, u "I"), (2, u "U"), (0, u "Ljdk/internal/misc/Unsafe;"), (8, u "BIG_ENDIAN"), (0, u "Z"), (8, u "LOG2_BYTE_BIT_SIZE"), (4, u "LOG2_ARRAY_INT_INDEX_SCALE"), (54, u "JLA"), (0, u "Ljdk/internal/access/JavaLangAccess;"), (11, u "LOG2_ARRAY_BOOLEAN_INDEX_SCALE"), (9, u "LOG2_ARRAY_BYTE_INDEX_SCALE"), (5, u "LOG2_ARRAY_CHAR_INDEX_SCALE"), (5, u "LOG2_ARRAY_SHORT_INDEX_SCALE"), (18, u "LOG2_ARRAY_FLOAT_INDEX_SCALE"), (24, u "LOG2_ARRAY_DOUBLE_INDEX_SCALE"), (89, u "T_BOOLEAN"), (2, u "T_CHAR"), (1, u "T_FLOAT"), (1, u "T_DOUBLE"), (1, u "T_BYTE"), (1, u "T_SHORT"), (1, u "T_INT"), (1, u "T_LONG"), (1, u "SOFT_MAX_ARRAY_LENGTH")] 83

def k16m0 : Method := { name := "<init>", desc := "()V", sig := { parameters := [], returnType := none }, accessFlags := 2, code := none }
/-- jdk/internal/util/ArraysSupport -/
def k16 : Class := { plain "jdk/internal/util/ArraysSupport" (some 0) with
  accessFlags := 33
  interfaces := #[]
  cf := some (fileOf pool16 21 #[] #[{ accessFlags := 2, nameIndex := 9, descriptorIndex := 19, attributes := #[] }] 33 16 #[] #[{ accessFlags := 24, nameIndex := 28, descriptorIndex := 29, attributes := #[] }, { accessFlags := 26, nameIndex := 38, descriptorIndex := 39, attributes := #[] }, { accessFlags := 25, nameIndex := 121, descriptorIndex := 25, attributes := #[] }, { accessFlags := 25, nameIndex := 131, descriptorIndex := 25, attributes := #[] }, { accessFlags := 25, nameIndex := 137, descriptorIndex := 25, attributes := #[] }, { accessFlags := 25, nameIndex := 143, descriptorIndex := 25, attributes := #[] }, { accessFlags := 25, nameIndex := 53, descriptorIndex := 25, attributes := #[] }, { accessFlags := 25, nameIndex := 24, descriptorIndex := 25, attributes := #[] }, { accessFlags := 25, nameIndex := 162, descriptorIndex := 25, attributes := #[] }, { accessFlags := 25, nameIndex := 187, descriptorIndex := 25, attributes := #[] }, { accessFlags := 26, nameIndex := 48, descriptorIndex := 25, attributes := #[] }, { accessFlags := 25, nameIndex := 277, descriptorIndex := 25, attributes := #[] }, { accessFlags := 25, nameIndex := 280, descriptorIndex := 25, attributes := #[] }, { accessFlags := 25, nameIndex := 282, descriptorIndex := 25, attributes := #[] }, { accessFlags := 25, nameIndex := 284, descriptorIndex := 25, attributes := #[] }, { accessFlags := 25, nameIndex := 286, descriptorIndex := 25, attributes := #[] }, { accessFlags := 25, nameIndex := 288, descriptorIndex := 25, attributes := #[] }, { accessFlags := 25, nameIndex := 290, descriptorIndex := 25, attributes := #[] }, { accessFlags := 25, nameIndex := 292, descriptorIndex := 25, attributes := #[] }, { accessFlags := 26, nameIndex := 108, descriptorIndex := 109, attributes := #[] }, { accessFlags := 25, nameIndex := 294, descriptorIndex := 25, attributes := #[] }])
  fields := #[{ name := "U", type := (.object "jdk/internal/misc/Unsafe"), accessFlags := 24, slot := 0, constantValue := 0 }, { name := "BIG_ENDIAN", type := .boolean, accessFlags := 26, slot := 1, constantValue := 0 }, { name := "LOG2_ARRAY_BOOLEAN_INDEX_SCALE", type := .int, accessFlags := 25, slot := 2, constantValue := 0 }, { name := "LOG2_ARRAY_BYTE_INDEX_SCALE", type := .int, accessFlags := 25, slot := 3, constantValue := 0 }, { name := "LOG2_ARRAY_CHAR_INDEX_SCALE", type := .int, accessFlags := 25, slot := 4, constantValue := 0 }, { name := "LOG2_ARRAY_SHORT_INDEX_SCALE", type := .int, accessFlags := 25, slot := 5, constantValue := 0 }, { name := "LOG2_ARRAY_INT_INDEX_SCALE", type := .int, accessFlags := 25, slot := 6, constantValue := 0 }, { name := "LOG2_ARRAY_LONG_INDEX_SCALE", type := .int, accessFlags := 25, slot := 7, constantValue := 0 }, { name := "LOG2_ARRAY_FLOAT_INDEX_SCALE", type := .int, accessFlags := 25, slot := 8, constantValue := 0 }, { name := "LOG2_ARRAY_DOUBLE_INDEX_SCALE", type := .int, accessFlags := 25, slot := 9, constantValue := 0 }, { name := "LOG2_BYTE_BIT_SIZE", type := .int, accessFlags := 26, slot := 10, constantValue := 0 }, { name := "T_BOOLEAN", type := .int, accessFlags := 25, slot := 11, constantValue := 0 }, { name := "T_CHAR", type := .int, accessFlags := 25, slot := 12, constantValue := 0 }, { name := "T_FLOAT", type := .int, accessFlags := 25, slot := 13, constantValue := 0 }, { name := "T_DOUBLE", type := .int, accessFlags := 25, slot := 14, constantValue := 0 }, { name := "T_BYTE", type := .int, accessFlags := 25, slot := 15, constantValue := 0 }, { name := "T_SHORT", type := .int, accessFlags := 25, slot := 16, constantValue := 0 }, { name := "T_INT", type := .int, accessFlags := 25, slot := 17, constantValue := 0 }, { name := "T_LONG", type := .int, accessFlags := 25, slot := 18, constantValue := 0 }, { name := "JLA", type := (.object "jdk/internal/access/JavaLangAccess"), accessFlags := 26, slot := 19, constantValue := 0 }, { name := "SOFT_MAX_ARRAY_LENGTH", type := .int, accessFlags := 25, slot := 20, constantValue := 0 }]
  methods := #[k16m0]
  instanceTypes := #[]
  staticTypes := #[(.object "jdk/internal/misc/Unsafe"), .boolean, .int, .int, .int, .int, .int, .int, .int, .int, .int, .int, .int, .int, .int, .int, .int, .int, .int, (.object "jdk/internal/access/JavaLangAccess"), .int]
  resolved := Array.replicate 378 none
  statics := none }

def pool17 : Array CpInfo := pool [(1, u "java/lang/Cloneable"), (0, .class_ 1), (0, u "java/lang/Object"), (0, .class_ 3)] 3

/-- java/lang/Cloneable -/
def k17 : Class := { plain "java/lang/Cloneable" (some 0) with
  accessFlags := 1537
  interfaces := #[]
  cf := some (fileOf pool17 2 #[] #[] 1537 4 #[] #[])
  fields := #[]
  methods := #[]
  instanceTypes := #[]
  staticTypes := #[]
  resolved := Array.replicate 8 none
  statics := none }

/-- the primitive byte -/
def k18 : Class := { plain "byte" none with kind := .primitive 'B', accessFlags := 0x411 }
/-- [B -/
def k19 : Class := { plain "[B" (some 0) with kind := .array 18 .byte, interfaces := #[17, 2], accessFlags := 1041 }

/-- the primitive char -/
def k20 : Class := { plain "char" none with kind := .primitive 'C', accessFlags := 0x411 }
/-- [C -/
def k21 : Class := { plain "[C" (some 0) with kind := .array 20 .char, interfaces := #[17, 2], accessFlags := 1041 }

/-- the primitive int -/
def k22 : Class := { plain "int" none with kind := .primitive 'I', accessFlags := 0x411 }
/-- [I -/
def k23 : Class := { plain "[I" (some 0) with kind := .array 22 .int, interfaces := #[17, 2], accessFlags := 1041 }

def heap : Heap := #[{ cls := 7, slots := #[.long 0, .int 1, .null, .int 0, .null, .int 0, .int 0], vm := .statics 7 },
  { cls := 13, slots := #[.null, .null, .null], vm := .statics 13 }]
def classes : Array Class := #[k0, k1, k2, k3, k4, k5, k6, k7, k8, k9, k10, k11, k12, k13, k14, k15, k16, k17, k18, k19, k20, k21, k22, k23]
def interned : List (Array UInt16 × Addr) := []
def slotsUsed : Nat := 10
def theMethod : MethodId := ⟨1, 3⟩
def args0 : Array Value := #[.int 0, .int 1, .int 2, .int 3, .int 4]
def aboutOver (below : List Frame) : State where
  vm := { classes := classes, interned := interned.toArray }
  heap := heap
  slotsUsed := slotsUsed
  threads := #[{ frames := .invoking theMethod args0 :: below }]
def below0 : List Frame := [.native { method := ⟨0, 0⟩, args := #[] }]
def about1 : State := aboutOver below0
def p0 : Program := .bare "" "" ""
def e0 : Env := launch0.env 0 0 0
theorem w_frames : about1.frames = Frame.invoking theMethod args0 :: below0 := rfl
set_option maxRecDepth 65536 in
theorem w_args : argsFit about1.vm theMethod args0 = true := by decide +kernel
set_option maxRecDepth 65536 in
theorem w_heap : heapFits about1 = true := by decide +kernel
set_option maxRecDepth 65536 in
theorem w_runnable : about1.curStatus? = some .runnable := by decide +kernel
set_option maxRecDepth 65536 in
theorem w_alone : about1.alone = true := by decide +kernel
set_option maxRecDepth 65536 in
theorem w_named : about1.methodNamed? x = some theMethod := by decide +kernel
set_option maxRecDepth 65536 in
theorem w_hears : about1.hears theMethod below0 = true := by decide +kernel
set_option maxRecDepth 65536 in
theorem w_ripe : about1.ripe theMethod args0 below0 = true := by decide +kernel
theorem w_running : about1.status = .running := rfl
set_option maxRecDepth 65536 in
theorem w_room : about1.hasRoom e0.platform room_1 = true :=
  launch0.hasRoom_least _ room_1 (by decide +kernel) (by decide +kernel) (by decide +kernel) (by decide +kernel) (by decide +kernel) (by decide +kernel)
theorem allAtoms_all (ts : List Jvm.Cond) (a : Array Jvm.Value) (st : Jvm.State) : (allAtoms ts).before a st = ts.all (fun c => c.before a st) := by
  induction ts with
  | nil => rfl
  | cons c t ih =>
    show (Jvm.Cond.and c (allAtoms t)).before a st = _
    rw [Jvm.Cond.before_and, ih, List.all_cons]
def words1 : List Jvm.Cond := Jvm.Cond.code x code maxLocals ret :: tables_1
/-- a 'code' word, met by the world's own term for the bytes: nothing is compared byte by byte -/
theorem code_word {y : MethodName} {bytes : ByteArray} {mx : Nat} {rt : Option FieldType} {a : Array Value} {s : State} {m : MethodId} {meth : Method} {c : Code} (h1 : s.methodNamed? y = some m) (h2 : s.vm.method? m = some meth) (h3 : meth.code = some c) (h4 : c.code = bytes)
    (h5 : (c.maxLocals == mx && c.exceptionTable.isEmpty && decide (c.maxStack ≤ mostOperands) && decide (meth.sig.returnType = rt) && !meth.locks && decide (parseMethodDescriptor y.desc = some meth.sig)) = true) : (Jvm.Cond.code y bytes mx rt).before a s = true := by
  simp only [Bool.and_eq_true, beq_iff_eq, Bool.not_eq_true', decide_eq_true_eq] at h5
  obtain ⟨⟨⟨⟨⟨g1, g2⟩, g3⟩, g4⟩, g5⟩, g6⟩ := h5
  simp [Cond.before, Cond.holds, Cond.value, h1, h2, h3, h4, g1, g2, g3, g4, g5, g6]
def isCode : Jvm.Cond → Bool
  | .code _ _ _ _ => true
  | _ => false
theorem all_split {L : List Jvm.Cond} {P : Jvm.Cond → Bool} (h1 : L.all (fun c => isCode c || P c) = true) (h2 : ∀ c ∈ L.filter isCode, P c = true) : L.all P = true := by
  refine List.all_eq_true.mpr fun c hc => ?_
  have h := List.all_eq_true.mp h1 c hc
  rcases Bool.eq_false_or_eq_true (isCode c) with hi | hi
  · exact h2 c (List.mem_filter.mpr ⟨hc, hi⟩)
  · simpa [hi] using h
set_option maxRecDepth 65536 in
theorem w_c0 : (Jvm.Cond.code x code maxLocals ret).before args0 about1 = true := code_word (m := ⟨1, 3⟩) (meth := k1m3) (c := k1c3) (by decide +kernel) rfl rfl rfl (by decide +kernel)
set_option maxRecDepth 65536 in
theorem w_c1 : (Jvm.Cond.code ({ cls := "com/example/lean_lock/leanlock/redis/ErrorReplyCodePinLaw", name := "draw", desc := "(I)C" } : Jvm.MethodName) method_2_code (1 : Nat) (Option.some Jvm.ClassFile.FieldType.char)).before args0 about1 = true := code_word (m := ⟨1, 1⟩) (meth := k1m1) (c := k1c1) (by decide +kernel) rfl rfl rfl (by decide +kernel)
set_option maxRecDepth 65536 in
theorem w_c2 : (Jvm.Cond.code ({ cls := "com/example/lean_lock/leanlock/redis/ErrorReplyCodePinLaw", name := "make", desc := "(ICCCC)[C" } : Jvm.MethodName) method_3_code (5 : Nat) (Option.some (Jvm.ClassFile.FieldType.array Jvm.ClassFile.FieldType.char))).before args0 about1 = true := code_word (m := ⟨1, 2⟩) (meth := k1m2) (c := k1c2) (by decide +kernel) rfl rfl rfl (by decide +kernel)
set_option maxRecDepth 65536 in
theorem w_c3 : (Jvm.Cond.code ({ cls := "java/lang/String", name := "<init>", desc := "([C)V" } : Jvm.MethodName) jdk_42_method_3_code (2 : Nat) (Option.none : Option Jvm.ClassFile.FieldType)).before args0 about1 = true := code_word (m := ⟨7, 1⟩) (meth := k7m1) (c := k7c1) (by decide +kernel) rfl rfl rfl (by decide +kernel)
set_option maxRecDepth 65536 in
theorem w_c4 : (Jvm.Cond.code ({ cls := "java/lang/String", name := "<init>", desc := "([CIILjava/lang/Void;)V" } : Jvm.MethodName) jdk_42_method_149_code (6 : Nat) (Option.none : Option Jvm.ClassFile.FieldType)).before args0 about1 = true := code_word (m := ⟨7, 7⟩) (meth := k7m7) (c := k7c7) (by decide +kernel) rfl rfl rfl (by decide +kernel)
set_option maxRecDepth 65536 in
theorem w_c5 : (Jvm.Cond.code ({ cls := "java/lang/Object", name := "<init>", desc := "()V" } : Jvm.MethodName) object_method_1_code (1 : Nat) (Option.none : Option Jvm.ClassFile.FieldType)).before args0 about1 = true := code_word (m := ⟨0, 0⟩) (meth := k0m0) (c := k0c0) (by decide +kernel) rfl rfl rfl (by decide +kernel)
set_option maxRecDepth 65536 in
theorem w_c6 : (Jvm.Cond.code ({ cls := "com/example/lean_lock/leanlock/redis/ErrorReply", name := "<init>", desc := "(Ljava/lang/String;)V" } : Jvm.MethodName) prog_23_method_1_code (2 : Nat) (Option.none : Option Jvm.ClassFile.FieldType)).before args0 about1 = true := code_word (m := ⟨9, 0⟩) (meth := k9m0) (c := k9c0) (by decide +kernel) rfl rfl rfl (by decide +kernel)
set_option maxRecDepth 65536 in
theorem w_c7 : (Jvm.Cond.code ({ cls := "java/lang/Record", name := "<init>", desc := "()V" } : Jvm.MethodName) jdk_30_method_1_code (1 : Nat) (Option.none : Option Jvm.ClassFile.FieldType)).before args0 about1 = true := code_word (m := ⟨8, 0⟩) (meth := k8m0) (c := k8c0) (by decide +kernel) rfl rfl rfl (by decide +kernel)
set_option maxRecDepth 65536 in
theorem w_c8 : (Jvm.Cond.code ({ cls := "com/example/lean_lock/leanlock/redis/ErrorReply", name := "code", desc := "()Ljava/lang/String;" } : Jvm.MethodName) prog_23_method_2_code (2 : Nat) (Option.some (Jvm.ClassFile.FieldType.object "java/lang/String"))).before args0 about1 = true := code_word (m := ⟨9, 1⟩) (meth := k9m1) (c := k9c1) (by decide +kernel) rfl rfl rfl (by decide +kernel)
set_option maxRecDepth 65536 in
theorem w_c9 : (Jvm.Cond.code ({ cls := "java/lang/String", name := "indexOf", desc := "(I)I" } : Jvm.MethodName) jdk_42_method_79_code (2 : Nat) (Option.some Jvm.ClassFile.FieldType.int)).before args0 about1 = true := code_word (m := ⟨7, 4⟩) (meth := k7m4) (c := k7c4) (by decide +kernel) rfl rfl rfl (by decide +kernel)
set_option maxRecDepth 65536 in
theorem w_c10 : (Jvm.Cond.code ({ cls := "java/lang/String", name := "indexOf", desc := "(II)I" } : Jvm.MethodName) jdk_42_method_80_code (3 : Nat) (Option.some Jvm.ClassFile.FieldType.int)).before args0 about1 = true := code_word (m := ⟨7, 5⟩) (meth := k7m5) (c := k7c5) (by decide +kernel) rfl rfl rfl (by decide +kernel)
set_option maxRecDepth 65536 in
theorem w_c11 : (Jvm.Cond.code ({ cls := "java/lang/String", name := "isLatin1", desc := "()Z" } : Jvm.MethodName) jdk_42_method_154_code (1 : Nat) (Option.some Jvm.ClassFile.FieldType.boolean)).before args0 about1 = true := code_word (m := ⟨7, 10⟩) (meth := k7m10) (c := k7c10) (by decide +kernel) rfl rfl rfl (by decide +kernel)
set_option maxRecDepth 65536 in
theorem w_c12 : (Jvm.Cond.code ({ cls := "java/lang/String", name := "length", desc := "()I" } : Jvm.MethodName) jdk_42_method_54_code (1 : Nat) (Option.some Jvm.ClassFile.FieldType.int)).before args0 about1 = true := code_word (m := ⟨7, 2⟩) (meth := k7m2) (c := k7c2) (by decide +kernel) rfl rfl rfl (by decide +kernel)
set_option maxRecDepth 65536 in
theorem w_c13 : (Jvm.Cond.code ({ cls := "java/lang/String", name := "coder", desc := "()B" } : Jvm.MethodName) jdk_42_method_152_code (1 : Nat) (Option.some Jvm.ClassFile.FieldType.byte)).before args0 about1 = true := code_word (m := ⟨7, 9⟩) (meth := k7m9) (c := k7c9) (by decide +kernel) rfl rfl rfl (by decide +kernel)
set_option maxRecDepth 65536 in
theorem w_c14 : (Jvm.Cond.code ({ cls := "java/lang/StringLatin1", name := "indexOf", desc := "([BIII)I" } : Jvm.MethodName) jdk_43_method_22_code (4 : Nat) (Option.some Jvm.ClassFile.FieldType.int)).before args0 about1 = true := code_word (m := ⟨10, 3⟩) (meth := k10m3) (c := k10c3) (by decide +kernel) rfl rfl rfl (by decide +kernel)
set_option maxRecDepth 65536 in
theorem w_c15 : (Jvm.Cond.code ({ cls := "java/lang/StringLatin1", name := "canEncode", desc := "(I)Z" } : Jvm.MethodName) jdk_43_method_4_code (1 : Nat) (Option.some Jvm.ClassFile.FieldType.boolean)).before args0 about1 = true := code_word (m := ⟨10, 2⟩) (meth := k10m2) (c := k10c2) (by decide +kernel) rfl rfl rfl (by decide +kernel)
set_option maxRecDepth 65536 in
theorem w_c16 : (Jvm.Cond.code ({ cls := "java/lang/Math", name := "max", desc := "(II)I" } : Jvm.MethodName) jdk_29_method_65_code (2 : Nat) (Option.some Jvm.ClassFile.FieldType.int)).before args0 about1 = true := code_word (m := ⟨11, 1⟩) (meth := k11m1) (c := k11c1) (by decide +kernel) rfl rfl rfl (by decide +kernel)
set_option maxRecDepth 65536 in
theorem w_c17 : (Jvm.Cond.code ({ cls := "java/lang/Math", name := "min", desc := "(II)I" } : Jvm.MethodName) jdk_29_method_69_code (2 : Nat) (Option.some Jvm.ClassFile.FieldType.int)).before args0 about1 = true := code_word (m := ⟨11, 2⟩) (meth := k11m2) (c := k11c2) (by decide +kernel) rfl rfl rfl (by decide +kernel)
set_option maxRecDepth 65536 in
theorem w_c18 : (Jvm.Cond.code ({ cls := "java/lang/StringUTF16", name := "compress", desc := "([CII)[B" } : Jvm.MethodName) jdk_52_method_16_code (6 : Nat) (Option.some (Jvm.ClassFile.FieldType.array Jvm.ClassFile.FieldType.byte))).before args0 about1 = true := code_word (m := ⟨12, 2⟩) (meth := k12m2) (c := k12c2) (by decide +kernel) rfl rfl rfl (by decide +kernel)
set_option maxRecDepth 65536 in
theorem w_c19 : (Jvm.Cond.code ({ cls := "java/lang/StringUTF16", name := "compress", desc := "([CI[BII)I" } : Jvm.MethodName) jdk_52_method_21_code (7 : Nat) (Option.some Jvm.ClassFile.FieldType.int)).before args0 about1 = true := code_word (m := ⟨12, 3⟩) (meth := k12m3) (c := k12c3) (by decide +kernel) rfl rfl rfl (by decide +kernel)
set_option maxRecDepth 65536 in
theorem w_c20 : (Jvm.Cond.code ({ cls := "java/lang/StringUTF16", name := "coderFromArrayLen", desc := "([BI)B" } : Jvm.MethodName) jdk_52_method_15_code (2 : Nat) (Option.some Jvm.ClassFile.FieldType.byte)).before args0 about1 = true := code_word (m := ⟨12, 1⟩) (meth := k12m1) (c := k12c1) (by decide +kernel) rfl rfl rfl (by decide +kernel)
set_option maxRecDepth 65536 in
theorem w_c21 : (Jvm.Cond.code ({ cls := "java/lang/StringLatin1", name := "indexOfChar", desc := "([BIII)I" } : Jvm.MethodName) jdk_43_method_23_code (6 : Nat) (Option.some Jvm.ClassFile.FieldType.int)).before args0 about1 = true := code_word (m := ⟨10, 4⟩) (meth := k10m4) (c := k10c4) (by decide +kernel) rfl rfl rfl (by decide +kernel)
set_option maxRecDepth 65536 in
theorem w_c22 : (Jvm.Cond.code ({ cls := "java/lang/String", name := "charAt", desc := "(I)C" } : Jvm.MethodName) jdk_42_method_56_code (2 : Nat) (Option.some Jvm.ClassFile.FieldType.char)).before args0 about1 = true := code_word (m := ⟨7, 3⟩) (meth := k7m3) (c := k7c3) (by decide +kernel) rfl rfl rfl (by decide +kernel)
set_option maxRecDepth 65536 in
theorem w_c23 : (Jvm.Cond.code ({ cls := "java/lang/StringLatin1", name := "charAt", desc := "([BI)C" } : Jvm.MethodName) jdk_43_method_2_code (2 : Nat) (Option.some Jvm.ClassFile.FieldType.char)).before args0 about1 = true := code_word (m := ⟨10, 1⟩) (meth := k10m1) (c := k10c1) (by decide +kernel) rfl rfl rfl (by decide +kernel)
set_option maxRecDepth 65536 in
theorem w_c24 : (Jvm.Cond.code ({ cls := "java/lang/String", name := "checkIndex", desc := "(II)V" } : Jvm.MethodName) jdk_42_method_155_code (2 : Nat) (Option.none : Option Jvm.ClassFile.FieldType)).before args0 about1 = true := code_word (m := ⟨7, 11⟩) (meth := k7m11) (c := k7c11) (by decide +kernel) rfl rfl rfl (by decide +kernel)
set_option maxRecDepth 65536 in
theorem w_c25 : (Jvm.Cond.code ({ cls := "jdk/internal/util/Preconditions", name := "checkIndex", desc := "(IILjava/util/function/BiFunction;)I" } : Jvm.MethodName) jdk_41_method_11_code (3 : Nat) (Option.some Jvm.ClassFile.FieldType.int)).before args0 about1 = true := code_word (m := ⟨13, 1⟩) (meth := k13m1) (c := k13c1) (by decide +kernel) rfl rfl rfl (by decide +kernel)
set_option maxRecDepth 65536 in
theorem w_c26 : (Jvm.Cond.code ({ cls := "java/lang/String", name := "substring", desc := "(II)Ljava/lang/String;" } : Jvm.MethodName) jdk_42_method_92_code (5 : Nat) (Option.some (Jvm.ClassFile.FieldType.object "java/lang/String"))).before args0 about1 = true := code_word (m := ⟨7, 6⟩) (meth := k7m6) (c := k7c6) (by decide +kernel) rfl rfl rfl (by decide +kernel)
set_option maxRecDepth 65536 in
theorem w_c27 : (Jvm.Cond.code ({ cls := "java/lang/String", name := "checkBoundsBeginEnd", desc := "(III)V" } : Jvm.MethodName) jdk_42_method_158_code (3 : Nat) (Option.none : Option Jvm.ClassFile.FieldType)).before args0 about1 = true := code_word (m := ⟨7, 12⟩) (meth := k7m12) (c := k7c12) (by decide +kernel) rfl rfl rfl (by decide +kernel)
set_option maxRecDepth 65536 in
theorem w_c28 : (Jvm.Cond.code ({ cls := "jdk/internal/util/Preconditions", name := "checkFromToIndex", desc := "(IIILjava/util/function/BiFunction;)I" } : Jvm.MethodName) jdk_41_method_12_code (4 : Nat) (Option.some Jvm.ClassFile.FieldType.int)).before args0 about1 = true := code_word (m := ⟨13, 2⟩) (meth := k13m2) (c := k13c2) (by decide +kernel) rfl rfl rfl (by decide +kernel)
set_option maxRecDepth 65536 in
theorem w_c29 : (Jvm.Cond.code ({ cls := "java/lang/StringLatin1", name := "newString", desc := "([BII)Ljava/lang/String;" } : Jvm.MethodName) jdk_43_method_47_code (3 : Nat) (Option.some (Jvm.ClassFile.FieldType.object "java/lang/String"))).before args0 about1 = true := code_word (m := ⟨10, 5⟩) (meth := k10m5) (c := k10c5) (by decide +kernel) rfl rfl rfl (by decide +kernel)
set_option maxRecDepth 65536 in
theorem w_c30 : (Jvm.Cond.code ({ cls := "java/util/Arrays", name := "copyOfRange", desc := "([BII)[B" } : Jvm.MethodName) jdk_65_method_132_code (3 : Nat) (Option.some (Jvm.ClassFile.FieldType.array Jvm.ClassFile.FieldType.byte))).before args0 about1 = true := code_word (m := ⟨14, 2⟩) (meth := k14m2) (c := k14c2) (by decide +kernel) rfl rfl rfl (by decide +kernel)
set_option maxRecDepth 65536 in
theorem w_c31 : (Jvm.Cond.code ({ cls := "java/util/Arrays", name := "copyOfRangeByte", desc := "([BII)[B" } : Jvm.MethodName) jdk_65_method_133_code (5 : Nat) (Option.some (Jvm.ClassFile.FieldType.array Jvm.ClassFile.FieldType.byte))).before args0 about1 = true := code_word (m := ⟨14, 3⟩) (meth := k14m3) (c := k14c3) (by decide +kernel) rfl rfl rfl (by decide +kernel)
set_option maxRecDepth 65536 in
theorem w_c32 : (Jvm.Cond.code ({ cls := "java/util/Arrays", name := "checkLength", desc := "(II)V" } : Jvm.MethodName) jdk_65_method_131_code (2 : Nat) (Option.none : Option Jvm.ClassFile.FieldType)).before args0 about1 = true := code_word (m := ⟨14, 1⟩) (meth := k14m1) (c := k14c1) (by decide +kernel) rfl rfl rfl (by decide +kernel)
set_option maxRecDepth 65536 in
theorem w_c33 : (Jvm.Cond.code ({ cls := "java/lang/String", name := "<init>", desc := "([BB)V" } : Jvm.MethodName) jdk_42_method_151_code (3 : Nat) (Option.none : Option Jvm.ClassFile.FieldType)).before args0 about1 = true := code_word (m := ⟨7, 8⟩) (meth := k7m8) (c := k7c8) (by decide +kernel) rfl rfl rfl (by decide +kernel)
def codes1 : List Jvm.Cond := [Jvm.Cond.code x code maxLocals ret, Jvm.Cond.code ({ cls := "com/example/lean_lock/leanlock/redis/ErrorReplyCodePinLaw", name := "draw", desc := "(I)C" } : Jvm.MethodName) method_2_code (1 : Nat) (Option.some Jvm.ClassFile.FieldType.char), Jvm.Cond.code ({ cls := "com/example/lean_lock/leanlock/redis/ErrorReplyCodePinLaw", name := "make", desc := "(ICCCC)[C" } : Jvm.MethodName) method_3_code (5 : Nat) (Option.some (Jvm.ClassFile.FieldType.array Jvm.ClassFile.FieldType.char)), Jvm.Cond.code ({ cls := "java/lang/String", name := "<init>", desc := "([C)V" } : Jvm.MethodName) jdk_42_method_3_code (2 : Nat) (Option.none : Option Jvm.ClassFile.FieldType), Jvm.Cond.code ({ cls := "java/lang/String", name := "<init>", desc := "([CIILjava/lang/Void;)V" } : Jvm.MethodName) jdk_42_method_149_code (6 : Nat) (Option.none : Option Jvm.ClassFile.FieldType), Jvm.Cond.code ({ cls := "java/lang/Object", name := "<init>", desc := "()V" } : Jvm.MethodName) object_method_1_code (1 : Nat) (Option.none : Option Jvm.ClassFile.FieldType), Jvm.Cond.code ({ cls := "com/example/lean_lock/leanlock/redis/ErrorReply", name := "<init>", desc := "(Ljava/lang/String;)V" } : Jvm.MethodName) prog_23_method_1_code (2 : Nat) (Option.none : Option Jvm.ClassFile.FieldType), Jvm.Cond.code ({ cls := "java/lang/Record", name := "<init>", desc := "()V" } : Jvm.MethodName) jdk_30_method_1_code (1 : Nat) (Option.none : Option Jvm.ClassFile.FieldType), Jvm.Cond.code ({ cls := "com/example/lean_lock/leanlock/redis/ErrorReply", name := "code", desc := "()Ljava/lang/String;" } : Jvm.MethodName) prog_23_method_2_code (2 : Nat) (Option.some (Jvm.ClassFile.FieldType.object "java/lang/String")), Jvm.Cond.code ({ cls := "java/lang/String", name := "indexOf", desc := "(I)I" } : Jvm.MethodName) jdk_42_method_79_code (2 : Nat) (Option.some Jvm.ClassFile.FieldType.int), Jvm.Cond.code ({ cls := "java/lang/String", name := "indexOf", desc := "(II)I" } : Jvm.MethodName) jdk_42_method_80_code (3 : Nat) (Option.some Jvm.ClassFile.FieldType.int), Jvm.Cond.code ({ cls := "java/lang/String", name := "isLatin1", desc := "()Z" } : Jvm.MethodName) jdk_42_method_154_code (1 : Nat) (Option.some Jvm.ClassFile.FieldType.boolean), Jvm.Cond.code ({ cls := "java/lang/String", name := "length", desc := "()I" } : Jvm.MethodName) jdk_42_method_54_code (1 : Nat) (Option.some Jvm.ClassFile.FieldType.int), Jvm.Cond.code ({ cls := "java/lang/String", name := "coder", desc := "()B" } : Jvm.MethodName) jdk_42_method_152_code (1 : Nat) (Option.some Jvm.ClassFile.FieldType.byte), Jvm.Cond.code ({ cls := "java/lang/StringLatin1", name := "indexOf", desc := "([BIII)I" } : Jvm.MethodName) jdk_43_method_22_code (4 : Nat) (Option.some Jvm.ClassFile.FieldType.int), Jvm.Cond.code ({ cls := "java/lang/StringLatin1", name := "canEncode", desc := "(I)Z" } : Jvm.MethodName) jdk_43_method_4_code (1 : Nat) (Option.some Jvm.ClassFile.FieldType.boolean), Jvm.Cond.code ({ cls := "java/lang/Math", name := "max", desc := "(II)I" } : Jvm.MethodName) jdk_29_method_65_code (2 : Nat) (Option.some Jvm.ClassFile.FieldType.int), Jvm.Cond.code ({ cls := "java/lang/Math", name := "min", desc := "(II)I" } : Jvm.MethodName) jdk_29_method_69_code (2 : Nat) (Option.some Jvm.ClassFile.FieldType.int), Jvm.Cond.code ({ cls := "java/lang/StringUTF16", name := "compress", desc := "([CII)[B" } : Jvm.MethodName) jdk_52_method_16_code (6 : Nat) (Option.some (Jvm.ClassFile.FieldType.array Jvm.ClassFile.FieldType.byte)), Jvm.Cond.code ({ cls := "java/lang/StringUTF16", name := "compress", desc := "([CI[BII)I" } : Jvm.MethodName) jdk_52_method_21_code (7 : Nat) (Option.some Jvm.ClassFile.FieldType.int), Jvm.Cond.code ({ cls := "java/lang/StringUTF16", name := "coderFromArrayLen", desc := "([BI)B" } : Jvm.MethodName) jdk_52_method_15_code (2 : Nat) (Option.some Jvm.ClassFile.FieldType.byte), Jvm.Cond.code ({ cls := "java/lang/StringLatin1", name := "indexOfChar", desc := "([BIII)I" } : Jvm.MethodName) jdk_43_method_23_code (6 : Nat) (Option.some Jvm.ClassFile.FieldType.int), Jvm.Cond.code ({ cls := "java/lang/String", name := "charAt", desc := "(I)C" } : Jvm.MethodName) jdk_42_method_56_code (2 : Nat) (Option.some Jvm.ClassFile.FieldType.char), Jvm.Cond.code ({ cls := "java/lang/StringLatin1", name := "charAt", desc := "([BI)C" } : Jvm.MethodName) jdk_43_method_2_code (2 : Nat) (Option.some Jvm.ClassFile.FieldType.char), Jvm.Cond.code ({ cls := "java/lang/String", name := "checkIndex", desc := "(II)V" } : Jvm.MethodName) jdk_42_method_155_code (2 : Nat) (Option.none : Option Jvm.ClassFile.FieldType), Jvm.Cond.code ({ cls := "jdk/internal/util/Preconditions", name := "checkIndex", desc := "(IILjava/util/function/BiFunction;)I" } : Jvm.MethodName) jdk_41_method_11_code (3 : Nat) (Option.some Jvm.ClassFile.FieldType.int), Jvm.Cond.code ({ cls := "java/lang/String", name := "substring", desc := "(II)Ljava/lang/String;" } : Jvm.MethodName) jdk_42_method_92_code (5 : Nat) (Option.some (Jvm.ClassFile.FieldType.object "java/lang/String")), Jvm.Cond.code ({ cls := "java/lang/String", name := "checkBoundsBeginEnd", desc := "(III)V" } : Jvm.MethodName) jdk_42_method_158_code (3 : Nat) (Option.none : Option Jvm.ClassFile.FieldType), Jvm.Cond.code ({ cls := "jdk/internal/util/Preconditions", name := "checkFromToIndex", desc := "(IIILjava/util/function/BiFunction;)I" } : Jvm.MethodName) jdk_41_method_12_code (4 : Nat) (Option.some Jvm.ClassFile.FieldType.int), Jvm.Cond.code ({ cls := "java/lang/StringLatin1", name := "newString", desc := "([BII)Ljava/lang/String;" } : Jvm.MethodName) jdk_43_method_47_code (3 : Nat) (Option.some (Jvm.ClassFile.FieldType.object "java/lang/String")), Jvm.Cond.code ({ cls := "java/util/Arrays", name := "copyOfRange", desc := "([BII)[B" } : Jvm.MethodName) jdk_65_method_132_code (3 : Nat) (Option.some (Jvm.ClassFile.FieldType.array Jvm.ClassFile.FieldType.byte)), Jvm.Cond.code ({ cls := "java/util/Arrays", name := "copyOfRangeByte", desc := "([BII)[B" } : Jvm.MethodName) jdk_65_method_133_code (5 : Nat) (Option.some (Jvm.ClassFile.FieldType.array Jvm.ClassFile.FieldType.byte)), Jvm.Cond.code ({ cls := "java/util/Arrays", name := "checkLength", desc := "(II)V" } : Jvm.MethodName) jdk_65_method_131_code (2 : Nat) (Option.none : Option Jvm.ClassFile.FieldType), Jvm.Cond.code ({ cls := "java/lang/String", name := "<init>", desc := "([BB)V" } : Jvm.MethodName) jdk_42_method_151_code (3 : Nat) (Option.none : Option Jvm.ClassFile.FieldType)]
set_option maxRecDepth 65536 in
theorem codes_eq : words1.filter isCode = codes1 := rfl
theorem w_codes : ∀ c ∈ words1.filter isCode, c.before args0 about1 = true := by
  rw [codes_eq]
  intro c hc
  simp only [codes1, List.mem_cons, List.not_mem_nil, or_false] at hc
  rcases hc with rfl | rfl | rfl | rfl | rfl | rfl | rfl | rfl | rfl | rfl | rfl | rfl | rfl | rfl | rfl | rfl | rfl | rfl | rfl | rfl | rfl | rfl | rfl | rfl | rfl | rfl | rfl | rfl | rfl | rfl | rfl | rfl | rfl | rfl
  · exact w_c0
  · exact w_c1
  · exact w_c2
  · exact w_c3
  · exact w_c4
  · exact w_c5
  · exact w_c6
  · exact w_c7
  · exact w_c8
  · exact w_c9
  · exact w_c10
  · exact w_c11
  · exact w_c12
  · exact w_c13
  · exact w_c14
  · exact w_c15
  · exact w_c16
  · exact w_c17
  · exact w_c18
  · exact w_c19
  · exact w_c20
  · exact w_c21
  · exact w_c22
  · exact w_c23
  · exact w_c24
  · exact w_c25
  · exact w_c26
  · exact w_c27
  · exact w_c28
  · exact w_c29
  · exact w_c30
  · exact w_c31
  · exact w_c32
  · exact w_c33
set_option maxRecDepth 65536 in
theorem w_t1 : (words1.take 24).all (fun c => isCode c || c.before args0 about1) = true := by decide +kernel
set_option maxRecDepth 65536 in
theorem w_t2 : ((words1.drop 24).take 24).all (fun c => isCode c || c.before args0 about1) = true := by decide +kernel
set_option maxRecDepth 65536 in
theorem w_t3 : (((words1.drop 24).drop 24).take 24).all (fun c => isCode c || c.before args0 about1) = true := by decide +kernel
set_option maxRecDepth 65536 in
theorem w_t4 : ((((words1.drop 24).drop 24).drop 24).take 24).all (fun c => isCode c || c.before args0 about1) = true := by decide +kernel
set_option maxRecDepth 65536 in
theorem w_t5 : (((((words1.drop 24).drop 24).drop 24).drop 24).take 24).all (fun c => isCode c || c.before args0 about1) = true := by decide +kernel
set_option maxRecDepth 65536 in
theorem w_t6 : ((((((words1.drop 24).drop 24).drop 24).drop 24).drop 24).take 24).all (fun c => isCode c || c.before args0 about1) = true := by decide +kernel
set_option maxRecDepth 65536 in
theorem w_t7 : ((((((words1.drop 24).drop 24).drop 24).drop 24).drop 24).drop 24).all (fun c => isCode c || c.before args0 about1) = true := by decide +kernel
theorem w_tables : (allAtoms (Jvm.Cond.code x code maxLocals ret :: tables_1)).before args0 about1 = true := by
  rw [allAtoms_all]
  show words1.all (fun c => c.before args0 about1) = true
  refine all_split ?_ w_codes
  rw [← List.take_append_drop 24 words1, List.all_append, w_t1, ← List.take_append_drop 24 (words1.drop 24), List.all_append, w_t2, ← List.take_append_drop 24 ((words1.drop 24).drop 24), List.all_append, w_t3, ← List.take_append_drop 24 (((words1.drop 24).drop 24).drop 24), List.all_append, w_t4, ← List.take_append_drop 24 ((((words1.drop 24).drop 24).drop 24).drop 24), List.all_append, w_t5, ← List.take_append_drop 24 (((((words1.drop 24).drop 24).drop 24).drop 24).drop 24), List.all_append, w_t6, w_t7]
  rfl
set_option maxRecDepth 65536 in
theorem w_rest : rest_1_c.before args0 about1 = true := by decide +kernel
set_option maxRecDepth 65536 in
theorem w_case : (Jvm.Cond.and given_1 narrow_1).before args0 about1 = true := by decide +kernel
set_option maxRecDepth 65536 in
theorem w_consts : constsHeld consts_1 about1 := Jvm.Lit.constsHeldB_iff.mp (by decide +kernel)
theorem w_applies : (headSpec (Jvm.Cond.code x code maxLocals ret :: tables_1) room_1).applies x e0.platform about1 = true :=
  (Spec.applies_iff w_frames).mpr ⟨w_running, w_runnable, w_alone, w_named, w_hears, w_ripe, w_room, w_tables⟩
theorem atStart : AtStart classFile x code maxLocals ret World_1 tables_1 room_1 Calls_1 rest_1 Pre_1 launch0 p0 e0 about1 theMethod args0 below0 :=
  ⟨lists_1, trivial, launch0.admits_env _ _ _, launch0.least_env, fairChoices_fair.cas, fairChoices_fair.clock, w_frames, w_args, w_heap, w_applies, ⟨w_consts, trivial⟩, w_rest, w_case⟩
end start1
theorem witness_1 : WitnessClaimed_1 := ⟨start1.p0, start1.e0, start1.about1, start1.theMethod, start1.args0, start1.below0, start1.atStart⟩
end Jvm.Pilot.@@N@@
