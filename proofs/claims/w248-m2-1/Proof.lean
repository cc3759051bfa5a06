import JvmDerived
import JvmDerived.Pilot.@@N@@Statement
import JvmDerived.Pilot.@@N@@Code
set_option linter.unusedVariables false
set_option linter.unusedSimpArgs false

namespace Jvm.Pilot.@@N@@
open Jvm Jvm.ClassFile Sem Op Lib Jvm.Free Jvm.Stand Jvm.LawKit Jvm.RoadKit Bundle Jvm.Pilot.@@N@@.Jvm.D
section Own
variable {p : Program} {l : Launch} {e : Env} {R : Room} {s : State} {m : MethodId} {args : Array Value} {below : List Frame} {meth : Method} {c : Code} {T T' : State} {cells slots n0 kk nn : Nat} {Z : State} {a0 : Array Value} {h h' : Heap} {Q : Option Value → Heap → Prop} {FE : Outcome → State → List Loc → Prop} {g g' : JFrame} {y : MethodName} {bytes : ByteArray} {maxL : Nat} {ret : Option FieldType}
/-- where a walk stands: its fixed facts, and the library's Stand with its written places hidden (all of them new) -/
def OAt (n0 : Nat) (Z : State) (y : MethodName) (bytes : ByteArray) (maxL : Nat) (ret : Option FieldType) (p : Program) (l : Launch) (e : Env) (R : Room) (s : State) (m : MethodId) (args : Array Value) (below : List Frame) (meth : Method) (c : Code) (T : State) (h : Heap) (cells slots : Nat) : Prop :=
  (p.tables.exec = Jvm.exec ∧ Z.Warmed39 s.vm ∧ s.vm.findClass y.cls = some m.cls ∧ meth.name = y.name ∧ c.code = bytes ∧ c.maxLocals = maxL ∧ meth.sig.returnType = ret ∧ meth.locks = false) ∧
    ∃ locs, Stand p l e R s m args below meth c T locs cells slots ∧ Fr n0 locs ∧ T.heap = h
/-- the run from here ends, returns, Q holds of what it returns and of the heap, and E of the end -/
def OFin (n0 : Nat) (p : Program) (e : Env) (FE : Outcome → State → List Loc → Prop) (below : List Frame) (Q : Option Value → Heap → Prop) (T : State) (g : JFrame) : Prop :=
  ∃ s₂ o, Steps p.tables e below (T.setTop g) s₂ ∧ s₂.status = .running ∧ Ended s₂ below o ∧ ∃ v L, o = .returned v ∧ (Q v s₂.heap ∧ Fr n0 L) ∧ FE o s₂ L
abbrev OMeets (l : Launch) (Z : State) (y : MethodName) (ws : List Jvm.Cond) (bytes : ByteArray) (maxL : Nat) (ret : Option FieldType) (rm : Room) (as' : Array Value) (h0 : Heap) (n0 : Nat) (Q : Option Value → Heap → Prop) : Prop :=
  MetFree l y (head1 (Jvm.Cond.code y bytes maxL ret :: ws) rm) (fun a U => a = as' ∧ Z.Warmed39 U.vm ∧ U.heap = h0) (fun _ _ _ _ _ => True) (fun _ U o U' => ∃ v L, o = .returned v ∧ (Q v U'.heap ∧ Fr n0 L) ∧ FrameEnd U o U' L rm.cells rm.slots)
theorem o_enter {ws : List Jvm.Cond} {rm : Room} {as' : Array Value} {h0 : Heap} (pn : plainFor y = true)
    (body : ∀ (p : Program) (e : Env) (s : State) (m : MethodId) (below : List Frame) (meth : Method) (c : Code) (s₁ : State), OAt n0 Z y bytes maxL ret p l e rm s m as' below meth c s₁ h0 0 0 → OFin n0 p e (fun o t L => FrameEnd s o t L rm.cells rm.slots) below Q s₁ (entryFrame m as' maxL)) :
    OMeets l Z y ws bytes maxL ret rm as' h0 n0 Q := by
  refine MetFree.of_bodySF pn hisR ?_
  intro p e s m args below meth c s₁ Bd hml0 hP hK
  obtain ⟨rfl, hZ, hh⟩ := hP
  have e0 : s₁.heap = h0 := by rw [← hh, Bd.state]; rfl
  exact body p e s m below meth c s₁ ⟨⟨Bd.exec, hZ, findClass_of_methodNamed Bd.named, (name_of_methodNamed Bd.named Bd.method).1, Bd.bytes, hml0, Bd.returns, Bd.notSynchronized⟩, [], Stand.of_body Bd, Fr.nil n0, e0⟩
theorem OFin.cast (q : g = g') (k : OFin n0 p e FE below Q T g') : OFin n0 p e FE below Q T g := q ▸ k
theorem OFin.run (f : ∀ t, Steps p.tables e below (T'.setTop g') t → Steps p.tables e below (T.setTop g) t) (k : OFin n0 p e FE below Q T' g') : OFin n0 p e FE below Q T g := by
  obtain ⟨s₂, o, h1, h2⟩ := k; exact ⟨s₂, o, f _ h1, h2⟩
theorem OFin.imp {Q' : Option Value → Heap → Prop} (k : OFin n0 p e FE below Q' T g) (f : ∀ v h, Q' v h → Q v h) : OFin n0 p e FE below Q T g := by
  obtain ⟨s₂, o, h1, h2, h3, v, L, h4, h5, h6⟩ := k; exact ⟨s₂, o, h1, h2, h3, v, L, h4, ⟨f _ _ h5.1, h5.2⟩, h6⟩
/-- a step of the single-step laws -/
theorem OAt.step (X : OAt n0 Z y bytes maxL ret p l e R s m args below meth c T h cells slots) (f : At T m c below → p.tables.exec = Jvm.exec → c.code = bytes → ∀ t, Steps p.tables e below (T.setTop g') t → Steps p.tables e below (T.setTop g) t) (k : OFin n0 p e FE below Q T g') : OFin n0 p e FE below Q T g := by
  obtain ⟨⟨hx, -, -, -, hby, -⟩, locs, X, -⟩ := X
  exact OFin.run (f X.here hx hby) k
theorem OAt.retN (X : OAt n0 Z y bytes maxL (some t) p l e R s m args below meth c T h cells slots) (ht : t = .boolean ∨ t = .byte ∨ t = .char ∨ t = .short) {pc : Nat} {Ls : Array Slot} {z : Int32} {rest : List Value} (hd : decode bytes pc = .ok (.ireturn, 1)) (hE : ∀ (t : State) (v : Option Value) (L : List Loc), t.heap = h → t.vm = T.vm → FrameEnd s (.returned v) t L cells slots → FE (.returned v) t L) (hQ : Q (some (.int (nar t z))) h) : OFin n0 p e FE below Q T (mkF m pc Ls (.int z :: rest)) := by
  obtain ⟨⟨hx, -, -, -, hby, -, hret, hlk⟩, locs, X, N, eh⟩ := X
  obtain ⟨fs, hr, hrun, hended, hW, hsame⟩ := X.leave (v := some (.int (nar t z))) (fun h => by rw [hret] at h; cases h) hlk
  exact ⟨_, _, Jvm.RoadKit.retN X hx hret ht (hb hby hd) hr, hrun, hended, _, _, rfl, ⟨by show Q _ T.heap; rw [eh]; exact hQ, N⟩, hE _ _ _ eh rfl ⟨⟨_, rfl⟩, hW, hsame⟩⟩
theorem OAt.retI (X : OAt n0 Z y bytes maxL (some .int) p l e R s m args below meth c T h cells slots) {pc : Nat} {Ls : Array Slot} {z : Int32} {rest : List Value} (hd : decode bytes pc = .ok (.ireturn, 1)) (hE : ∀ (t : State) (v : Option Value) (L : List Loc), t.heap = h → t.vm = T.vm → FrameEnd s (.returned v) t L cells slots → FE (.returned v) t L) (hQ : Q (some (.int z)) h) : OFin n0 p e FE below Q T (mkF m pc Ls (.int z :: rest)) := by
  obtain ⟨⟨hx, -, -, -, hby, -, hret, hlk⟩, locs, X, N, eh⟩ := X
  obtain ⟨fs, hr, hrun, hended, hW, hsame⟩ := X.leave (v := some (.int z)) (fun h => by rw [hret] at h; cases h) hlk
  exact ⟨_, _, retOut X hx hret rfl (Or.inl ⟨rfl, Or.inl rfl, _, rfl⟩) (hb hby hd) hr, hrun, hended, _, _, rfl, ⟨by show Q _ T.heap; rw [eh]; exact hQ, N⟩, hE _ _ _ eh rfl ⟨⟨_, rfl⟩, hW, hsame⟩⟩
theorem OAt.retL (X : OAt n0 Z y bytes maxL (some .long) p l e R s m args below meth c T h cells slots) {pc : Nat} {Ls : Array Slot} {z : Int64} {rest : List Value} (hd : decode bytes pc = .ok (.lreturn, 1)) (hE : ∀ (t : State) (v : Option Value) (L : List Loc), t.heap = h → t.vm = T.vm → FrameEnd s (.returned v) t L cells slots → FE (.returned v) t L) (hQ : Q (some (.long z)) h) : OFin n0 p e FE below Q T (mkF m pc Ls (.long z :: rest)) := by
  obtain ⟨⟨hx, -, -, -, hby, -, hret, hlk⟩, locs, X, N, eh⟩ := X
  obtain ⟨fs, hr, hrun, hended, hW, hsame⟩ := X.leave (v := some (.long z)) (fun h => by rw [hret] at h; cases h) hlk
  exact ⟨_, _, retOut X hx hret rfl (Or.inr (Or.inl ⟨rfl, rfl, _, rfl⟩)) (hb hby hd) hr, hrun, hended, _, _, rfl, ⟨by show Q _ T.heap; rw [eh]; exact hQ, N⟩, hE _ _ _ eh rfl ⟨⟨_, rfl⟩, hW, hsame⟩⟩
theorem OAt.retR (X : OAt n0 Z y bytes maxL (some t) p l e R s m args below meth c T h cells slots) (ht : t.isReference = true) {pc : Nat} {Ls : Array Slot} {w : Value} {rest : List Value} (hw : w.isRef = true) (hd : decode bytes pc = .ok (.areturn, 1)) (hE : ∀ (t : State) (v : Option Value) (L : List Loc), t.heap = h → t.vm = T.vm → FrameEnd s (.returned v) t L cells slots → FE (.returned v) t L) (hQ : Q (some w) h) : OFin n0 p e FE below Q T (mkF m pc Ls (w :: rest)) := by
  obtain ⟨⟨hx, -, -, -, hby, -, hret, hlk⟩, locs, X, N, eh⟩ := X
  have hna : narrow t w = w := by rcases ref_cases hw with rfl | ⟨a, rfl⟩ <;> cases t <;> first | rfl | cases ht
  obtain ⟨fs, hr, hrun, hended, hW, hsame⟩ := X.leave (v := some w) (fun h => by rw [hret] at h; cases h) hlk
  exact ⟨_, _, retOut X hx hret hna (Or.inr (Or.inr (Or.inr (Or.inr ⟨rfl, ht, hw⟩)))) (hb hby hd) hr, hrun, hended, _, _, rfl, ⟨by show Q _ T.heap; rw [eh]; exact hQ, N⟩, hE _ _ _ eh rfl ⟨⟨_, rfl⟩, hW, hsame⟩⟩
theorem OAt.retV (X : OAt n0 Z y bytes maxL none p l e R s m args below meth c T h cells slots) {pc : Nat} {Ls : Array Slot} (hd : decode bytes pc = .ok (.return_, 1)) (hE : ∀ (t : State) (v : Option Value) (L : List Loc), t.heap = h → t.vm = T.vm → FrameEnd s (.returned v) t L cells slots → FE (.returned v) t L) (hQ : Q none h) : OFin n0 p e FE below Q T (mkF m pc Ls []) := by
  obtain ⟨⟨hx, -, -, -, hby, -, hret, hlk⟩, locs, X, N, eh⟩ := X
  obtain ⟨fs, hr, hrun, hended, hW, hsame⟩ := X.leave (v := none) (fun _ => rfl) hlk
  exact ⟨_, _, X.returnOut hx hret (hb hby hd) hr, hrun, hended, _, _, rfl, ⟨by show Q _ T.heap; rw [eh]; exact hQ, N⟩, hE _ _ _ eh rfl ⟨⟨_, rfl⟩, hW, hsame⟩⟩
theorem OAt.ldcI (X : OAt n0 Z y bytes maxL ret p l e R s m args below meth c T h cells slots) {index : Nat} {v : Int32} (w : (Jvm.Cond.constant y.cls index v).before a0 Z = true) (hg : g.method = m) (hd : decode bytes g.pc = .ok (.ldc index, 2))
    (k : OFin n0 p e FE below Q T { g with pc := g.pc + 2, stack := .int v :: g.stack }) : OFin n0 p e FE below Q T g := by
  obtain ⟨⟨hx, hZ, hown, -, hby, -⟩, locs, X, -⟩ := X
  exact OFin.run (X.ldcInt hx hown (mvT hZ w) hg (hb hby hd)) k
theorem OAt.ldcwI (X : OAt n0 Z y bytes maxL ret p l e R s m args below meth c T h cells slots) {index : Nat} {v : Int32} (w : (Jvm.Cond.constant y.cls index v).before a0 Z = true) (hg : g.method = m) (hd : decode bytes g.pc = .ok (.ldc_w index, 3))
    (k : OFin n0 p e FE below Q T { g with pc := g.pc + 3, stack := .int v :: g.stack }) : OFin n0 p e FE below Q T g := by
  obtain ⟨⟨hx, hZ, hown, -, hby, -⟩, locs, X, -⟩ := X
  exact OFin.run (X.ldcwInt hx hown (mvT hZ w) hg (hb hby hd)) k
theorem OAt.ldcL (X : OAt n0 Z y bytes maxL ret p l e R s m args below meth c T h cells slots) {index : Nat} {v : Int64} (w : (Jvm.Cond.constantLong y.cls index v).before a0 Z = true) (hg : g.method = m) (hd : decode bytes g.pc = .ok (.ldc2_w index, 3))
    (k : OFin n0 p e FE below Q T { g with pc := g.pc + 3, stack := .long v :: g.stack }) : OFin n0 p e FE below Q T g := by
  obtain ⟨⟨hx, hZ, hown, -, hby, -⟩, locs, X, -⟩ := X
  exact OFin.run (X.ldc2Long hx hown (mvT hZ w) hg (hb hby hd)) k
theorem OAt.getF (X : OAt n0 Z y bytes maxL ret p l e R s m args below meth c T h cells slots) {O n d : String} {index : Nat} (w : (Jvm.Cond.fieldLink y.cls index O n d).before a0 Z = true) {a : Addr} {v : Value} (F : Fld Z h a O n d v) (hg : g.method = m) {rest : List Value} (hs : g.stack = .ref a :: rest) (hd : decode bytes g.pc = .ok (.getfield index, 3))
    (k : ∀ T', OAt n0 Z y bytes maxL ret p l e R s m args below meth c T' h cells slots → OFin n0 p e FE below Q T' { g with pc := g.pc + 3, stack := v :: rest }) : OFin n0 p e FE below Q T g := by
  obtain ⟨C, locs, X, N, eh⟩ := X
  obtain ⟨hx, hZ, hown, -, hby, -⟩ := id C
  obtain ⟨T', X', e', st⟩ := Jvm.RoadKit.getF X hx hZ hown (host := "") (Or.inl w) Via.refl eh F hg hs (hb hby hd)
  exact OFin.run st (k T' ⟨C, locs, X', N, e'⟩)
theorem OAt.getS (X : OAt n0 Z y bytes maxL ret p l e R s m args below meth c T h cells slots) {O n d : String} {index : Nat} (w : (Jvm.Cond.fieldLink y.cls index O n d).before a0 Z = true) {v : Value} (F : Sta Z h O n d v) (hg : g.method = m) (hd : decode bytes g.pc = .ok (.getstatic index, 3))
    (k : ∀ T', OAt n0 Z y bytes maxL ret p l e R s m args below meth c T' h cells slots → OFin n0 p e FE below Q T' { g with pc := g.pc + 3, stack := v :: g.stack }) : OFin n0 p e FE below Q T g := by
  obtain ⟨C, locs, X, N, eh⟩ := X
  obtain ⟨hx, hZ, hown, -, hby, -⟩ := id C
  obtain ⟨T', X', e', st⟩ := Jvm.RoadKit.getS X hx hZ hown w Via.refl eh F hg (hb hby hd) (host := "")
  exact OFin.run st (k T' ⟨C, locs, X', N, e'⟩)
theorem OAt.putF (X : OAt n0 Z y bytes maxL ret p l e R s m args below meth c T h cells slots) {O n d C : String} {index ki : Nat} {ty : FieldType} (w : (Jvm.Cond.fieldLink y.cls index O n d).before a0 Z = true) {a : Addr} {v old : Value} (F : Fld Z h a O n d old) (E : Exa Z h a C) (L : (Jvm.Cond.lays C O n d).before a0 Z = true ∨ ((Jvm.Cond.laysFinal C O n d).before a0 Z = true ∧ y.cls = O ∧ y.name = "<init>"))
    (wi : (Jvm.Cond.instantiable C ki).before a0 Z = true) (hty : parseFieldDescriptor d = some ty) (hn : narrow ty v = v) (hf : fits ty v = true) (hnew : n0 ≤ a) (hg : g.method = m) {rest : List Value} (hs : g.stack = v :: .ref a :: rest) (hd : decode bytes g.pc = .ok (.putfield index, 3))
    (k : ∀ T' h', OAt n0 Z y bytes maxL ret p l e R s m args below meth c T' h' cells slots → Wr h h' a (Jvm.RoadKit.slotOf Z O n d) v → OFin n0 p e FE below Q T' { g with pc := g.pc + 3, stack := rest }) : OFin n0 p e FE below Q T g := by
  obtain ⟨C, locs, X, N, eh⟩ := X
  obtain ⟨hx, hZ, hown, hnm, hby, -⟩ := id C
  obtain ⟨T', h', X', e', W, st⟩ := Jvm.RoadKit.putF X hx hZ hown (host := "") (Or.inl w) Via.refl eh F E (L.imp id fun q => ⟨q.1, q.2.1, hnm.trans q.2.2⟩) wi hty hn hf hg hs (hb hby hd)
  exact OFin.run st (k T' h' ⟨C, _, X', Fr.snoc X' N hnew, e'⟩ W)
theorem OAt.initO (X : OAt n0 Z y bytes maxL ret p l e R s m args below meth c T h cells slots) {idx : Nat} (w1 : (Jvm.Cond.methodLink y.cls idx Lib.objectInit).before a0 Z = true) (w2 : (Jvm.Cond.instanceMethod Lib.objectInit).before a0 Z = true) (w3 : (Jvm.Cond.code Lib.objectInit ⟨#[0xb1]⟩ 1 none).before a0 Z = true) (hg : g.method = m) (hsize : g.locals.size = maxL) {a : Addr} {rest : List Value} (hs : g.stack = .ref a :: rest) (hd : decode bytes g.pc = .ok (.invokespecial idx, 3))
    (hf : 1 ≤ R.frames) {W : Nat} (hW : 2 * g.monitorRoom + (rest.map fun v => v.category).sum ≤ W) (hl : W + 12 ≤ R.locals)
    (k : ∀ T', OAt n0 Z y bytes maxL ret p l e R s m args below meth c T' h cells slots → OFin n0 p e FE below Q T' { g with pc := g.pc + 3, stack := rest }) : OFin n0 p e FE below Q T g := by
  obtain ⟨C, locs, X, N, eh⟩ := X
  obtain ⟨hx, hZ, hown, -, hby, hml, -⟩ := id C
  obtain ⟨T', X', e', st⟩ := Jvm.RoadKit.initO X hx hZ hown w1 w2 w3 eh hg (hsize.trans hml.symm) hs (hb hby hd) hf hW hl
  exact OFin.run st (k T' ⟨C, locs, X', N, e'⟩)
theorem OAt.newO (X : OAt n0 Z y bytes maxL ret p l e R s m args below meth c T h cells slots) {C : String} {index n : Nat} (w : (Jvm.Cond.classLink y.cls index C).before a0 Z = true) (wi : (Jvm.Cond.instantiable C n).before a0 Z = true) (wz : (Jvm.Cond.initialized C).before a0 Z = true) (hg : g.method = m) (hd : decode bytes g.pc = .ok (.new index, 3)) (hc : cells + 1 ≤ R.cells) (hl : slots + n ≤ R.slots)
    (k : ∀ T' h' a, a = h.size → OAt n0 Z y bytes maxL ret p l e R s m args below meth c T' h' (cells + 1) (slots + n) → Ext h h' → Exa Z h' a C → (∀ {O nm d : String} {ty : FieldType}, Laid Z a0 C O nm d → parseFieldDescriptor d = some ty → Fld Z h' a O nm d (defaultValue ty)) → OFin n0 p e FE below Q T' { g with pc := g.pc + 3, stack := .ref a :: g.stack }) : OFin n0 p e FE below Q T g := by
  obtain ⟨C', locs, X, N, eh⟩ := X
  obtain ⟨hx, hZ, hown, -, hby, -⟩ := id C'
  obtain ⟨T', h', X', e', E, A, D, -, st⟩ := Jvm.RoadKit.newO X hx hZ hown w wi wz eh hg (hb hby hd) hc hl
  exact OFin.run st (k T' h' _ rfl ⟨C', locs, X', N, e'⟩ E A D)
theorem OAt.newP (X : OAt n0 Z y bytes maxL ret p l e R s m args below meth c T h cells slots) {aty : ArrayType} (w : (Jvm.Cond.arrayClass (newarray.typeOf aty)).before a0 Z = true) (hg : g.method = m) (hd : decode bytes g.pc = .ok (.newarray aty, 2)) {n : Int32} {rest : List Value} (hs : g.stack = .int n :: rest) (hn : ¬ n < 0) {cap : Nat} (hcap : n.toNatClampNeg ≤ cap) (hb8 : cap * 8 ≤ 536870912) (hc : cells + 1 ≤ R.cells) (hl : slots + cap ≤ R.slots) {ad : String} (had : "[" ++ (newarray.typeOf aty).toString = ad)
    (k : ∀ T' h' cA a, a = h.size → OAt n0 Z y bytes maxL ret p l e R s m args below meth c T' h' (cells + 1) (slots + cap) → Ext h h' → Arr Z h' a (newA cA (newarray.typeOf aty) n) (newarray.typeOf aty) → Exa Z h' a ad → OFin n0 p e FE below Q T' { g with pc := g.pc + 2, stack := .ref a :: rest }) : OFin n0 p e FE below Q T g := by
  obtain ⟨C', locs, X, N, eh⟩ := X
  obtain ⟨hx, hZ, hown, -, hby, -⟩ := id C'
  obtain ⟨T', h', cA, X', e', E, A, A', st⟩ := newPE X hx hZ w eh hg (hb hby hd) hs hn hcap hb8 hc hl had
  exact OFin.run st (k T' h' cA _ rfl ⟨C', locs, X', N, e'⟩ E A A')
theorem OAt.newRA (X : OAt n0 Z y bytes maxL ret p l e R s m args below meth c T h cells slots) {C : String} {ty : FieldType} {index : Nat} (hC : (FieldType.array ty).toString = C) (w1 : (Jvm.Cond.classLink y.cls index C).before a0 Z = true) (w2 : (Jvm.Cond.arrayOver (.array ty)).before a0 Z = true) (hg : g.method = m) (hd : decode bytes g.pc = .ok (.anewarray index, 3)) {n : Int32} {rest : List Value} (hs : g.stack = .int n :: rest) (hn : ¬ n < 0) {cap : Nat} (hcap : n.toNatClampNeg ≤ cap) (hb8 : cap * 8 ≤ 536870912) (hc : cells + 1 ≤ R.cells) (hl : slots + cap ≤ R.slots) {ad : String} (had : "[" ++ C = ad)
    (k : ∀ T' h' cA a, a = h.size → OAt n0 Z y bytes maxL ret p l e R s m args below meth c T' h' (cells + 1) (slots + cap) → Ext h h' → Arr Z h' a (newA cA (.array ty) n) (.array ty) → Exa Z h' a ad → OvrA Z cA ty C → OFin n0 p e FE below Q T' { g with pc := g.pc + 3, stack := .ref a :: rest }) : OFin n0 p e FE below Q T g := by
  obtain ⟨C', locs, X, N, eh⟩ := X
  obtain ⟨hx, hZ, hown, -, hby, -⟩ := id C'
  obtain ⟨T', h', cA, X', e', E, A, A', O, st⟩ := Jvm.RoadKit.newRA X hx hZ hown hC w1 w2 eh hg (hb hby hd) hs hn hcap hb8 hc hl had
  exact OFin.run st (k T' h' cA _ rfl ⟨C', locs, X', N, e'⟩ E A A' O)
theorem OAt.clone (X : OAt n0 Z y bytes maxL ret p l e R s m args below meth c T h cells slots) {ad : String} {index : Nat} (w1 : (Jvm.Cond.methodLink y.cls index ⟨ad, "clone", "()Ljava/lang/Object;"⟩).before a0 Z = true) (w2 : (Jvm.Cond.sameMethod ad "java/lang/Object" "clone" "()Ljava/lang/Object;").before a0 Z = true) (w3 : (Jvm.Cond.native ⟨"java/lang/Object", "clone", "()Ljava/lang/Object;"⟩).before a0 Z = true)
    (w4 : (Jvm.Cond.instanceMethod ⟨"java/lang/Object", "clone", "()Ljava/lang/Object;"⟩).before a0 Z = true) (w5 : (Jvm.Cond.selects ad ⟨ad, "clone", "()Ljava/lang/Object;"⟩ ⟨"java/lang/Object", "clone", "()Ljava/lang/Object;"⟩).before a0 Z = true) (w6 : (Jvm.Cond.castable ad "java/lang/Cloneable").before a0 Z = true)
    {a : Addr} {cl : Cell} {ty : FieldType} (A : Arr Z h a cl ty) (E : Exa Z h a ad) (F : FitC Z cl) (hg : g.method = m) (hsize : g.locals.size = maxL) {rest : List Value} (hs : g.stack = .ref a :: rest) (hd : decode bytes g.pc = .ok (.invokevirtual index, 3))
    (hf : 1 ≤ R.frames) {W cap : Nat} (hW : 2 * g.monitorRoom + (rest.map fun v => v.category).sum ≤ W) (hl : W + 14 ≤ R.locals) (hcap : cl.slots.size ≤ cap) (hc : cells + 1 ≤ R.cells) (hsl : slots + cap ≤ R.slots)
    (k : ∀ T' h' b, b = h.size → OAt n0 Z y bytes maxL ret p l e R s m args below meth c T' h' (cells + 1) (slots + cap) → Ext h h' → Arr Z h' b (Jvm.RoadKit.cloneOf cl) ty → Exa Z h' b ad → OFin n0 p e FE below Q T' { g with pc := g.pc + 3, stack := .ref b :: rest }) : OFin n0 p e FE below Q T g := by
  obtain ⟨C', locs, X, N, eh⟩ := X
  obtain ⟨hx, hZ, hown, -, hby, hml, -⟩ := id C'
  obtain ⟨T', h', X', e', E', A', A'', st⟩ := Jvm.RoadKit.cloneA X hx hZ hown w1 w2 w3 w4 w5 w6 eh A E F hg (hsize.trans hml.symm) hs (hb hby hd) hf hW hl hcap hc hsl
  exact OFin.run st (k T' h' _ rfl ⟨C', locs, X', N, e'⟩ E' A' A'')
theorem OAt.stR (X : OAt n0 Z y bytes maxL ret p l e R s m args below meth c T h cells slots) {a : Addr} {cl : Cell} {ty : FieldType} (A : Arr Z h a cl ty) {j : Int32} {v : Value} (hin : ¬ (j < 0 ∨ cl.slots.size ≤ j.toNatClampNeg)) (hty : ty.isReference = true) (F : Sto Z h a v) (hnew : n0 ≤ a) (hg : g.method = m) {rest : List Value} (hs : g.stack = v :: .int j :: .ref a :: rest) (hd : decode bytes g.pc = .ok (.aastore, 1))
    (k : ∀ T' h', OAt n0 Z y bytes maxL ret p l e R s m args below meth c T' h' cells slots → Wr h h' a j.toNatClampNeg v → OFin n0 p e FE below Q T' { g with pc := g.pc + 1, stack := rest }) : OFin n0 p e FE below Q T g := by
  obtain ⟨C, locs, X, N, eh⟩ := X
  obtain ⟨hx, hZ, hown, -, hby, -⟩ := id C
  obtain ⟨T', h', X', e', W, st⟩ := Jvm.RoadKit.stR X hx hZ eh A hin hty F hg hs (hb hby hd)
  exact OFin.run st (k T' h' ⟨C, _, X', Fr.snoc X' N hnew, e'⟩ W)
theorem OAt.acmp (X : OAt n0 Z y bytes maxL ret p l e R s m args below meth c T h cells slots) (hg : g.method = m) {cd : ACond} {u v : Value} (h1 : u.isRef = true) (h2 : v.isRef = true) {rest : List Value} {o : Int} {pc0 pc' : Nat} {same : Bool} (hpc : g.pc = pc0) (hd : decode bytes g.pc = .ok (.if_acmp cd o, 3)) (hs : g.stack = v :: u :: rest) (hq : decide (u = v) = same) (ho : 0 ≤ (pc0 : Int) + o) (hp : pc' = if acV cd same = true then ((pc0 : Int) + o).toNat else pc0 + 3)
    (k : OFin n0 p e FE below Q T { g with pc := pc', stack := rest }) : OFin n0 p e FE below Q T g := by
  obtain ⟨⟨hx, hZ, hown, -, hby, -⟩, locs, X, -⟩ := X
  exact OFin.run (fun t kk => Jvm.RoadKit.acmp X hx hg h1 h2 hpc (hb hby hd) hs hq ho hp kk) k
theorem OAt.irem (X : OAt n0 Z y bytes maxL ret p l e R s m args below meth c T h cells slots) (hg : g.method = m) {u v : Int32} {rest : List Value} (hd : decode bytes g.pc = .ok (.irem, 1)) (hs : g.stack = .int v :: .int u :: rest) (hv : v ≠ 0)
    (k : OFin n0 p e FE below Q T { g with pc := g.pc + 1, stack := .int (u % v) :: rest }) : OFin n0 p e FE below Q T g := by
  obtain ⟨⟨hx, hZ, hown, -, hby, -⟩, locs, X, -⟩ := X
  exact OFin.run (fun t kk => iremM X hx hg (hb hby hd) hs hv kk) k
theorem OAt.callS (X : OAt n0 Z y bytes maxL ret p l e R s m args below meth c T h cells slots) {index : Nat} {y' : MethodName} {bytes' : ByteArray} {maxL' : Nat} {ret' : Option FieldType} (w1 : (Jvm.Cond.methodLink y.cls index y').before a0 Z = true) (w2 : (Jvm.Cond.static y').before a0 Z = true) (w3 : (Jvm.Cond.initialized y'.cls).before a0 Z = true) (w4 : (Jvm.Cond.code y' bytes' maxL' ret').before a0 Z = true)
    (hy : y'.cls ≠ "java/lang/invoke/MethodHandle" ∧ y'.cls ≠ "java/lang/invoke/VarHandle") {rm : Room} {Qc : Option Value → Heap → Prop} {argsL rest : List Value} (hM : OMeets l Z y' [] bytes' maxL' ret' rm argsL.toArray h n0 Qc)
    (hg : g.method = m) (hsize : g.locals.size = maxL) {ps : List FieldType} {r : Option FieldType} (hpd : parseMethodDescriptor y'.desc = some ⟨ps, r⟩) (hlen : argsL.length = ps.length) (hs : g.stack = argsL.reverse ++ rest) {W : Nat} (hW : 2 * g.monitorRoom + (rest.map fun v => v.category).sum ≤ W) (hd : decode bytes g.pc = .ok (.invokestatic index, 3))
    (hf : rm.frames + 1 ≤ R.frames) (hl : W + (maxL' + 11) + rm.locals ≤ R.locals) (hc : cells + rm.cells ≤ R.cells) (hn : slots + rm.slots ≤ R.slots)
    (k : ∀ v T' h', OAt n0 Z y bytes maxL ret p l e R s m args below meth c T' h' (cells + rm.cells) (slots + rm.slots) → Qc v h' → OFin n0 p e FE below Q T' { g with pc := g.pc + 3, stack := v.toList ++ rest }) : OFin n0 p e FE below Q T g := by
  obtain ⟨C, locs, X, N, eh⟩ := X
  obtain ⟨hx, hZ, hown, -, hby, hml, -⟩ := id C
  obtain ⟨v, _, ⟨T1, L1, k1, n1⟩, -, X1, ⟨Lc, hQ, l1, y1, z1⟩, st⟩ := Jvm.LawKit.callS X hx hown (mvT hZ w1) (mvT hZ w2) (mvT hZ w3) (mvT hZ w4) hy
    (backOf (W := W) (Q := fun v h L => Qc v h ∧ Fr n0 L) hM hZ w4 w3 hf hl) hg (hsize.trans hml.symm) (lenOf hpd hlen) hs hW (hb hby hd) (fun _ _ => ⟨rfl, eh, hc, hn⟩)
  dsimp only [Pt.U, Pt.locs, Pt.cells, Pt.slots] at X1 l1 y1 z1 st hQ
  subst l1 y1 z1
  exact OFin.run st (k v T1 _ ⟨C, _, X1, N.app hQ.2, rfl⟩ hQ.1)
theorem OAt.callI (X : OAt n0 Z y bytes maxL ret p l e R s m args below meth c T h cells slots) {index : Nat} {y' : MethodName} {bytes' : ByteArray} {maxL' : Nat} (hy1 : y'.name = "<init>") (w1 : (Jvm.Cond.methodLink y.cls index y').before a0 Z = true) (w2 : (Jvm.Cond.instanceMethod y').before a0 Z = true) (w3 : (Jvm.Cond.initialized y'.cls).before a0 Z = true) (w4 : (Jvm.Cond.code y' bytes' maxL' none).before a0 Z = true)
    (hy : y'.cls ≠ "java/lang/invoke/MethodHandle" ∧ y'.cls ≠ "java/lang/invoke/VarHandle") {rm : Room} {Qc : Option Value → Heap → Prop} {a : Addr} {argsL rest : List Value} (hM : OMeets l Z y' [] bytes' maxL' none rm (Value.ref a :: argsL).toArray h n0 Qc)
    (hg : g.method = m) (hsize : g.locals.size = maxL) {ps : List FieldType} {r : Option FieldType} (hpd : parseMethodDescriptor y'.desc = some ⟨ps, r⟩) (hlen : argsL.length = ps.length) (hs : g.stack = argsL.reverse ++ .ref a :: rest) {W : Nat} (hW : 2 * g.monitorRoom + (rest.map fun v => v.category).sum ≤ W) (hd : decode bytes g.pc = .ok (.invokespecial index, 3))
    (hf : rm.frames + 1 ≤ R.frames) (hl : W + (maxL' + 11) + rm.locals ≤ R.locals) (hc : cells + rm.cells ≤ R.cells) (hn : slots + rm.slots ≤ R.slots)
    (k : ∀ v T' h', OAt n0 Z y bytes maxL ret p l e R s m args below meth c T' h' (cells + rm.cells) (slots + rm.slots) → Qc v h' → OFin n0 p e FE below Q T' { g with pc := g.pc + 3, stack := v.toList ++ rest }) : OFin n0 p e FE below Q T g := by
  obtain ⟨C, locs, X, N, eh⟩ := X
  obtain ⟨hx, hZ, hown, -, hby, hml, -⟩ := id C
  obtain ⟨v, _, ⟨T1, L1, k1, n1⟩, -, X1, ⟨Lc, hQ, l1, y1, z1⟩, st⟩ := X.specialBack hx hy1 hown (mvT hZ w1) (mvT hZ w2) (mvT hZ w4) hy
    (backOf (W := W) (Q := fun v h L => Qc v h ∧ Fr n0 L) hM hZ w4 w3 hf hl) hg (hsize.trans hml.symm) (Steps.refl _) (lenOf hpd hlen) hs hW (hb hby hd) (fun _ _ => ⟨rfl, eh, hc, hn⟩)
  dsimp only [Pt.U, Pt.locs, Pt.cells, Pt.slots] at X1 l1 y1 z1 st hQ
  subst l1 y1 z1
  exact OFin.run (fun t k => st.trans k) (k v T1 _ ⟨C, _, X1, N.app hQ.2, rfl⟩ hQ.1)
theorem OAt.callV (X : OAt n0 Z y bytes maxL ret p l e R s m args below meth c T h cells slots) {index : Nat} {y' z' : MethodName} {C0 : String} {bytes' : ByteArray} {maxL' : Nat} {ret' : Option FieldType} (w1 : (Jvm.Cond.methodLink y.cls index y').before a0 Z = true) (w2 : (Jvm.Cond.declares y').before a0 Z = true) (nf : NotFace s y') (w5 : (Jvm.Cond.selects C0 y' z').before a0 Z = true) (w6 : (Jvm.Cond.instanceMethod z').before a0 Z = true) (w3 : (Jvm.Cond.initialized z'.cls).before a0 Z = true) (w4 : (Jvm.Cond.code z' bytes' maxL' ret').before a0 Z = true)
    (hy : y'.cls ≠ "java/lang/invoke/MethodHandle" ∧ y'.cls ≠ "java/lang/invoke/VarHandle") {rm : Room} {Qc : Option Value → Heap → Prop} {a : Addr} (E : Exa Z h a C0) {argsL rest : List Value} (hM : OMeets l Z z' [] bytes' maxL' ret' rm (Value.ref a :: argsL).toArray h n0 Qc)
    (hg : g.method = m) (hsize : g.locals.size = maxL) {ps : List FieldType} {r : Option FieldType} (hpd : parseMethodDescriptor y'.desc = some ⟨ps, r⟩) (hlen : argsL.length = ps.length) (hs : g.stack = argsL.reverse ++ .ref a :: rest) {W : Nat} (hW : 2 * g.monitorRoom + (rest.map fun v => v.category).sum ≤ W) (hd : decode bytes g.pc = .ok (.invokevirtual index, 3))
    (hf : rm.frames + 1 ≤ R.frames) (hl : W + (maxL' + 11) + rm.locals ≤ R.locals) (hc : cells + rm.cells ≤ R.cells) (hn : slots + rm.slots ≤ R.slots)
    (k : ∀ v T' h', OAt n0 Z y bytes maxL ret p l e R s m args below meth c T' h' (cells + rm.cells) (slots + rm.slots) → Qc v h' → OFin n0 p e FE below Q T' { g with pc := g.pc + 3, stack := v.toList ++ rest }) : OFin n0 p e FE below Q T g := by
  obtain ⟨C, locs, X, N, eh⟩ := X
  obtain ⟨hx, hZ, hown, -, hby, hml, -⟩ := id C
  obtain ⟨cq, kq, qa, qb, qc⟩ := isOf hZ eh E
  obtain ⟨v, _, ⟨T1, L1, k1, n1⟩, -, X1, ⟨Lc, hQ, l1, y1, z1⟩, st⟩ := X.virtualBack hx hown (mvT hZ w1) (mvT hZ w2) nf (mvT hZ w5) (mvT hZ w6) hy
    (backOf (W := W) (Q := fun v h L => Qc v h ∧ Fr n0 L) hM hZ w4 w3 hf hl) qa qc hg (hsize.trans hml.symm) (Steps.refl _) (lenOf hpd hlen) hs hW (hb hby hd) (fun _ _ => ⟨rfl, eh, hc, hn⟩)
  dsimp only [Pt.U, Pt.locs, Pt.cells, Pt.slots] at X1 l1 y1 z1 st hQ
  subst l1 y1 z1
  exact OFin.run (fun t k => st.trans k) (k v T1 _ ⟨C, _, X1, N.app hQ.2, rfl⟩ hQ.1)
theorem OAt.notFace (X : OAt n0 Z y bytes maxL ret p l e R s m args below meth c T h cells slots) {C0 : String} {y' z' : MethodName} (w : (Jvm.Cond.selects C0 y' z').before a0 Z = true) (hq : y' = z') : NotFace s y' := by
  obtain ⟨⟨hx, hZ, -⟩, -⟩ := X
  subst hq
  exact notFace_of_selects (args := #[]) (mvT hZ w)
theorem OAt.aload0 (X : OAt n0 Z y bytes maxL ret p l e R s m args below meth c T h cells slots) {a : Addr} {cl : Cell} {ty : FieldType} (A : Arr Z h a cl ty) {j : Int32} {v : Value} (hin : ¬ (j < 0 ∨ cl.slots.size ≤ j.toNatClampNeg)) (hv : cl.slots[j.toNatClampNeg]? = some v) (hg : g.method = m) {rest : List Value} (hs : g.stack = .int j :: .ref a :: rest)
    {i : Instr} (hi : (i = .iaload ∧ ty = .int) ∨ (i = .laload ∧ ty = .long) ∨ (i = .caload ∧ ty = .char) ∨ (i = .baload ∧ ty = .byte) ∨ (i = .aaload ∧ ty.isReference = true)) (hd : decode bytes g.pc = .ok (i, 1))
    (k : OFin n0 p e FE below Q T { g with pc := g.pc + 1, stack := v :: rest }) : OFin n0 p e FE below Q T g := by
  obtain ⟨⟨hx, hZ, hown, -, hby, -⟩, locs, X, N, eh⟩ := X
  have hA := State.isArrayOf_alike hZ.alike A.2.1
  have hc : T.heap[a]? = some cl := by rw [eh]; exact A.1
  rcases hi with ⟨rfl, rfl⟩ | ⟨rfl, rfl⟩ | ⟨rfl, rfl⟩ | ⟨rfl, rfl⟩ | ⟨rfl, ht⟩
  · exact OFin.run (X.iaload hx hc hA A.2.2 hin hv hg hs (hb hby hd)) k
  · exact OFin.run (X.laload hx hc hA A.2.2 hin hv hg hs (hb hby hd)) k
  · exact OFin.run (X.caload hx hc hA A.2.2 hin hv hg hs (hb hby hd)) k
  · exact OFin.run (X.baloadBytes hx hc hA A.2.2 hin hv hg hs (hb hby hd)) k
  · exact OFin.run (X.aaload hx hc hA ht A.2.2 hin hv hg hs (hb hby hd)) k
theorem OAt.alen (X : OAt n0 Z y bytes maxL ret p l e R s m args below meth c T h cells slots) {a : Addr} {cl : Cell} {ty : FieldType} (A : Arr Z h a cl ty) {n : Int32} (hn : cl.slots.size.toInt32 = n) (hg : g.method = m) {rest : List Value} (hs : g.stack = .ref a :: rest) (hd : decode bytes g.pc = .ok (.arraylength, 1))
    (k : OFin n0 p e FE below Q T { g with pc := g.pc + 1, stack := .int n :: rest }) : OFin n0 p e FE below Q T g := by
  obtain ⟨⟨hx, hZ, hown, -, hby, -⟩, locs, X, N, eh⟩ := X
  subst hn
  exact OFin.run (X.arraylength hx (by rw [eh]; exact A.1) (State.isArrayOf_alike hZ.alike A.2.1) hg hs (hb hby hd)) k
theorem OAt.stJ (X : OAt n0 Z y bytes maxL ret p l e R s m args below meth c T h cells slots) {a : Addr} {cl : Cell} (A : Arr Z h a cl .long) {j : Int32} {v : Int64} (hin : ¬ (j < 0 ∨ cl.slots.size ≤ j.toNatClampNeg)) (hnew : n0 ≤ a) (hg : g.method = m) {rest : List Value} (hs : g.stack = .long v :: .int j :: .ref a :: rest) (hd : decode bytes g.pc = .ok (.lastore, 1))
    (k : ∀ T' h', OAt n0 Z y bytes maxL ret p l e R s m args below meth c T' h' cells slots → Wr h h' a j.toNatClampNeg (.long v) → OFin n0 p e FE below Q T' { g with pc := g.pc + 1, stack := rest }) : OFin n0 p e FE below Q T g := by
  obtain ⟨C, locs, X, N, eh⟩ := X
  obtain ⟨hx, hZ, hown, -, hby, -⟩ := id C
  obtain ⟨T', h', X', e', W, st⟩ := Jvm.RoadKit.stJ X hx hZ eh A hin hg hs (hb hby hd)
  exact OFin.run st (k T' h' ⟨C, _, X', Fr.snoc X' N hnew, e'⟩ W)
theorem OAt.stB (X : OAt n0 Z y bytes maxL ret p l e R s m args below meth c T h cells slots) {a : Addr} {cl : Cell} (A : Arr Z h a cl .byte) {j v : Int32} (hin : ¬ (j < 0 ∨ cl.slots.size ≤ j.toNatClampNeg)) (hnew : n0 ≤ a) (hg : g.method = m) {rest : List Value} (hs : g.stack = .int v :: .int j :: .ref a :: rest) (hd : decode bytes g.pc = .ok (.bastore, 1))
    (k : ∀ T' h', OAt n0 Z y bytes maxL ret p l e R s m args below meth c T' h' cells slots → Wr h h' a j.toNatClampNeg (.int (nar .byte v)) → OFin n0 p e FE below Q T' { g with pc := g.pc + 1, stack := rest }) : OFin n0 p e FE below Q T g := by
  obtain ⟨C, locs, X, N, eh⟩ := X
  obtain ⟨hx, hZ, hown, -, hby, -⟩ := id C
  obtain ⟨T', h', X', e', W, st⟩ := Jvm.RoadKit.stB X hx hZ eh A hin hg hs (hb hby hd)
  exact OFin.run st (k T' h' ⟨C, _, X', Fr.snoc X' N hnew, e'⟩ W)
theorem OAt.stC (X : OAt n0 Z y bytes maxL ret p l e R s m args below meth c T h cells slots) {a : Addr} {cl : Cell} (A : Arr Z h a cl .char) {j v : Int32} (hin : ¬ (j < 0 ∨ cl.slots.size ≤ j.toNatClampNeg)) (hnew : n0 ≤ a) (hg : g.method = m) {rest : List Value} (hs : g.stack = .int v :: .int j :: .ref a :: rest) (hd : decode bytes g.pc = .ok (.castore, 1))
    (k : ∀ T' h', OAt n0 Z y bytes maxL ret p l e R s m args below meth c T' h' cells slots → Wr h h' a j.toNatClampNeg (.int (nar .char v)) → OFin n0 p e FE below Q T' { g with pc := g.pc + 1, stack := rest }) : OFin n0 p e FE below Q T g := by
  obtain ⟨C, locs, X, N, eh⟩ := X
  obtain ⟨hx, hZ, hown, -, hby, -⟩ := id C
  obtain ⟨T', h', X', e', W, st⟩ := Jvm.RoadKit.stC X hx hZ eh A hin hg hs (hb hby hd)
  exact OFin.run st (k T' h' ⟨C, _, X', Fr.snoc X' N hnew, e'⟩ W)
theorem OAt.instY (X : OAt n0 Z y bytes maxL ret p l e R s m args below meth c T h cells slots) {K : String} {index : Nat} (w : (Jvm.Cond.classLink y.cls index K).before a0 Z = true) {a : Addr} (F : Ins Z h a K true) (hg : g.method = m) {rest : List Value} (hs : g.stack = .ref a :: rest) (hd : decode bytes g.pc = .ok (.instanceof index, 3))
    (k : ∀ T', OAt n0 Z y bytes maxL ret p l e R s m args below meth c T' h cells slots → OFin n0 p e FE below Q T' { g with pc := g.pc + 3, stack := .int 1 :: rest }) : OFin n0 p e FE below Q T g := by
  obtain ⟨C, locs, X, N, eh⟩ := X
  obtain ⟨hx, hZ, hown, -, hby, -⟩ := id C
  obtain ⟨T', X', e', st⟩ := Jvm.RoadKit.instY X hx hZ hown w eh F hg hs (hb hby hd)
  exact OFin.run st (k T' ⟨C, locs, X', N, e'⟩)
theorem OAt.castY (X : OAt n0 Z y bytes maxL ret p l e R s m args below meth c T h cells slots) {K : String} {index : Nat} (w : (Jvm.Cond.classLink y.cls index K).before a0 Z = true) {a : Addr} (F : Ins Z h a K true) (hg : g.method = m) {rest : List Value} (hs : g.stack = .ref a :: rest) (hd : decode bytes g.pc = .ok (.checkcast index, 3))
    (k : ∀ T', OAt n0 Z y bytes maxL ret p l e R s m args below meth c T' h cells slots → OFin n0 p e FE below Q T' { g with pc := g.pc + 3 }) : OFin n0 p e FE below Q T g := by
  obtain ⟨C, locs, X, N, eh⟩ := X
  obtain ⟨hx, hZ, hown, -, hby, -⟩ := id C
  obtain ⟨T', X', e', st⟩ := Jvm.RoadKit.castY X hx hZ hown w eh F hg hs (hb hby hd)
  exact OFin.run st (k T' ⟨C, locs, X', N, e'⟩)
theorem OAt.instNo (X : OAt n0 Z y bytes maxL ret p l e R s m args below meth c T h cells slots) {K C : String} {index : Nat} (w : (Jvm.Cond.classLink y.cls index K).before a0 Z = true) {a : Addr} (E : Exa Z h a C) (F : ∃ c t, Z.vm.findClass C = some c ∧ Z.vm.findClass K = some t ∧ Z.vm.assignable c t = false) (hg : g.method = m) {rest : List Value} (hs : g.stack = .ref a :: rest) (hd : decode bytes g.pc = .ok (.instanceof index, 3))
    (k : ∀ T', OAt n0 Z y bytes maxL ret p l e R s m args below meth c T' h cells slots → OFin n0 p e FE below Q T' { g with pc := g.pc + 3, stack := .int 0 :: rest }) : OFin n0 p e FE below Q T g := by
  obtain ⟨C, locs, X, N, eh⟩ := X
  obtain ⟨hx, hZ, hown, -, hby, -⟩ := id C
  obtain ⟨T', X', e', st⟩ := Jvm.RoadKit.instNo X hx hZ hown w eh E F hg hs (hb hby hd)
  exact OFin.run st (k T' ⟨C, locs, X', N, e'⟩)
theorem OAt.instNull (X : OAt n0 Z y bytes maxL ret p l e R s m args below meth c T h cells slots) {index : Nat} (hg : g.method = m) {rest : List Value} (hs : g.stack = .null :: rest) (hd : decode bytes g.pc = .ok (.instanceof index, 3))
    (k : OFin n0 p e FE below Q T { g with pc := g.pc + 3, stack := .int 0 :: rest }) : OFin n0 p e FE below Q T g := by
  obtain ⟨⟨hx, hZ, hown, -, hby, -⟩, locs, X, N, eh⟩ := X
  exact OFin.run (X.instanceofNull hx hg hs (hb hby hd)) k
theorem o_nsRoot {O K : String} {n : Nat} (w : (Jvm.Cond.noSuperclass O).before a0 Z = true) (wk : (Jvm.Cond.instantiable K n).before a0 Z = true) (hn : O ≠ K) : NS Z O K := by
  obtain ⟨c, k, h1, h2, h3, -, -⟩ := Cond.noSuperclass_spec w
  obtain ⟨t, kt, g1, -⟩ := Cond.instantiable_spec wk
  have ne := ids_ne h1 g1 hn
  refine ⟨c, t, h1, g1, fun fuel => ?_⟩
  cases fuel with
  | zero => rfl
  | succ f => simp [Vm.isSubclassAux, ne, h2, h3]
theorem o_nsNo {C S K : String} {n : Nat} (w : (Jvm.Cond.superclass C S).before a0 Z = true) (wk : (Jvm.Cond.instantiable K n).before a0 Z = true) (q : NS Z C K) (hn : C ≠ K) : ∃ c t, Z.vm.findClass C = some c ∧ Z.vm.findClass K = some t ∧ Z.vm.assignable c t = false := by
  obtain ⟨c, t, h0, g0, n3⟩ := q
  obtain ⟨p, k, kp, h1, h2, h3, h4, h5, -, h7⟩ := Cond.superclass_spec h0 w
  obtain ⟨t2, k', g1, g2, g3, g4, -⟩ := Cond.instantiable_spec wk
  cases g0.symm.trans g1
  have ne := ids_ne h0 g0 hn
  have g5 : k'.isInterface = false := by simp only [Bool.or_eq_false_iff] at g4; exact g4.1
  refine ⟨c, t, h0, g0, ?_⟩
  show Z.vm.assignableAux (255 + 1) c t = false
  simp [Vm.assignableAux, ne, h2, g2, h5, g3, g5, Vm.isSubclass, n3]
/-- an array of N places; place j holds f j -/
def OArr (Z : State) (h : Heap) (a : Addr) (ty : FieldType) (N : Nat) (f : Nat → Value) : Prop := ∃ c : Cell, Arr Z h a c ty ∧ c.slots.size = N ∧ ∀ j, j < N → c.slots[j]? = some (f j)
theorem OArr.lt {a : Addr} {ty : FieldType} {N : Nat} {f : Nat → Value} (F : OArr Z h a ty N f) : a < h.size := by obtain ⟨c, A, -⟩ := F; exact A.lt
theorem OArr.ext {a : Addr} {ty : FieldType} {N : Nat} {f : Nat → Value} (F : OArr Z h a ty N f) (E : Ext h h') : OArr Z h' a ty N f := by obtain ⟨c, A, r⟩ := F; exact ⟨c, A.ext E, r⟩
theorem OArr.other {a b : Addr} {ty : FieldType} {N sl : Nat} {f : Nat → Value} {v : Value} (F : OArr Z h b ty N f) (W : Wr h h' a sl v) (q : b ≠ a) : OArr Z h' b ty N f := by obtain ⟨c, A, r⟩ := F; exact ⟨c, A.other W q, r⟩
theorem OArr.keep {a : Addr} {ws : List Addr} {ty : FieldType} {N : Nat} {f : Nat → Value} (F : OArr Z h a ty N f) (K : Keep h h' ws) (q : a ∉ ws) : OArr Z h' a ty N f := by obtain ⟨c, A, r⟩ := F; exact ⟨c, ⟨K.2.1 a c A.1 q, A.2⟩, r⟩
theorem OArr.new {a : Addr} {k : ClassId} {ty : FieldType} {z : Int32} (A : Arr Z h a (newA k ty z) ty) : OArr Z h a ty z.toNatClampNeg (fun _ => defaultValue ty) := ⟨_, A, sz_new _ _ _, fun j hj => by simp [newA, hj]⟩
theorem OArr.congr {a : Addr} {ty : FieldType} {N : Nat} {f f' : Nat → Value} (F : OArr Z h a ty N f) (q : ∀ j, j < N → f j = f' j) : OArr Z h a ty N f' := by obtain ⟨c, A, r1, r2⟩ := F; exact ⟨c, A, r1, fun j hj => by rw [r2 j hj, q j hj]⟩
theorem OArr.set {a : Addr} {ty : FieldType} {N i : Nat} {f : Nat → Value} {v : Value} (F : OArr Z h a ty N f) (W : Wr h h' a i v) : OArr Z h' a ty N (fun j => if j = i then v else f j) := by
  obtain ⟨c, A, r1, r2⟩ := F
  refine ⟨c.setSlot i v, A.same W, by rw [sz_set]; exact r1, fun j hj => ?_⟩
  by_cases q : j = i
  · subst q; simp [Cell.setSlot, r1, hj]
  · simp only [q, if_false]
    rw [← r2 j hj]
    exact Array.getElem?_setIfInBounds_ne (Ne.symm q)
theorem o_fitC {a : Addr} {cl : Cell} {ty : FieldType} (A : Arr Z h a cl ty) (q : ∀ (i : Nat) (v : Value), cl.slots[i]? = some v → fits ty v = true) : FitC Z cl := fun i v hv => by
  obtain ⟨hs, k, hk, comp, hkind⟩ := A.2.1
  simp [State.fitsSlot, State.slotType?, hk, hkind, q i v hv]
theorem o_in {N : Nat} {j : Int32} {cl : Cell} (S : cl.slots.size = N) (h0 : 0 ≤ j.toInt) (h1 : j.toInt < N) : ¬ (j < 0 ∨ cl.slots.size ≤ j.toNatClampNeg) := by
  have e : (0 : Int32).toInt = 0 := by decide
  have q : (j.toNatClampNeg : Int) = j.toInt := by show (j.toInt.toNat : Int) = _; omega
  rw [Int32.lt_iff_toInt_lt, S, e]; omega
theorem o_nat {j : Int32} (h0 : 0 ≤ j.toInt) : (j.toNatClampNeg : Int) = j.toInt := by show (j.toInt.toNat : Int) = _; omega
theorem oN {kk nn : Nat} (h1 : cells ≤ kk) (h2 : slots ≤ nn) : ∀ (t : State) (v : Option Value) (L : List Loc), t.heap = h → t.vm = T.vm → FrameEnd s (.returned v) t L cells slots → (fun o t L => FrameEnd s o t L kk nn) (.returned v) t L := fun t v L _ _ q => ⟨q.1, q.2.1, q.2.2.mono h1 h2⟩
/-! the wide contracts: a body that may intern the program's string constants -/
abbrev OMeetsW (l : Launch) (Z : State) (EL : List (String × Nat)) (y : MethodName) (ws : List Jvm.Cond) (bytes : ByteArray) (maxL : Nat) (ret : Option FieldType) (rm : Room) (as' : Array Value) (h0 : Heap) (n0 : Nat) (Q : Option Value → Heap → Prop) : Prop :=
  MetFree l y (head1 (Jvm.Cond.code y bytes maxL ret :: ws) rm) (fun a U => a = as' ∧ Z.Warmed39 U.vm ∧ U.heap = h0 ∧ CHv Z EL U.vm h0) (fun _ _ _ _ _ => True) (fun _ U o U' => ∃ v L, o = .returned v ∧ (Q v U'.heap ∧ Fr n0 L) ∧ CHr Z EL U.vm U.heap U'.vm U'.heap ∧ ReturnedEndW U o U' L rm.cells rm.slots)
/-- what a wide walk bears beside its Stand over the re-based start -/
def OB (Z : State) (a0 : Array Value) (EL : List (String × Nat)) (s : State) (h0 : Heap) (vm0 : Vm) (h : Heap) : Prop := s.heap = h0 ∧ EW Z a0 EL ∧ (∃ k0, s.Since vm0 k0 ∧ k0 ≤ h.size) ∧ CHr Z EL s.vm h0 vm0 h
theorem OB.ext {EL : List (String × Nat)} {vm0 : Vm} {h0 : Heap} (B : OB Z a0 EL s h0 vm0 h) (E : Ext h h') : OB Z a0 EL s h0 vm0 h' := by
  obtain ⟨b1, b2, ⟨k0, b3, b4⟩, b5⟩ := B
  exact ⟨b1, b2, ⟨k0, b3, Nat.le_trans b4 E.1⟩, b5.trans (CHr.ext E b5.1)⟩
theorem OB.keep {EL : List (String × Nat)} {vm0 : Vm} {h0 : Heap} {ws : List Addr} (B : OB Z a0 EL s h0 vm0 h) (K : Keep h h' ws) (S : ∀ x ∈ ws, Safe Z EL vm0 h x) : OB Z a0 EL s h0 vm0 h' := by
  obtain ⟨b1, b2, ⟨k0, b3, b4⟩, b5⟩ := B
  exact ⟨b1, b2, ⟨k0, b3, Nat.le_trans b4 K.1⟩, b5.trans (CHr.keep K S b5.1)⟩
theorem OB.wr {EL : List (String × Nat)} {vm0 : Vm} {h0 : Heap} {a : Addr} {sl : Nat} {v : Value} (B : OB Z a0 EL s h0 vm0 h) (W : Wr h h' a sl v) (S : Safe Z EL vm0 h a) : OB Z a0 EL s h0 vm0 h' := B.keep (Keep.of_wr W) (fun x hx => by cases List.mem_singleton.mp hx; exact S)
theorem OB.hv {EL : List (String × Nat)} {vm0 : Vm} {h0 : Heap} (B : OB Z a0 EL s h0 vm0 h) : CHv Z EL vm0 h := B.2.2.2.1
theorem OB.size {EL : List (String × Nat)} {vm0 : Vm} {h0 : Heap} (B : OB Z a0 EL s h0 vm0 h) : h0.size ≤ h.size := B.2.2.2.2.1
theorem safe_nil {vm0 : Vm} {x : Addr} : Safe Z [] vm0 h x := fun B => by obtain ⟨p, hp, -⟩ := B; cases hp
theorem o_enterW {EL : List (String × Nat)} {ws : List Jvm.Cond} {rm : Room} {as' : Array Value} {h0 : Heap} (hEL : EW Z a0 EL) (pn : plainFor y = true)
    (body : ∀ (p : Program) (e : Env) (s : State) (m : MethodId) (below : List Frame) (meth : Method) (c : Code) (s₁ : State), OAt n0 Z y bytes maxL ret p l e rm (s.setVm s.vm) m as' below meth c s₁ h0 0 0 → OB Z a0 EL s h0 s.vm h0 → OFin n0 p e (fun o t L => CHr Z EL s.vm s.heap t.vm t.heap ∧ ReturnedEndW s o t L rm.cells rm.slots) below Q s₁ (entryFrame m as' maxL)) :
    OMeetsW l Z EL y ws bytes maxL ret rm as' h0 n0 Q := by
  refine MetFree.of_bodySF pn hisR ?_
  intro p e s m args below meth c s₁ Bd hml0 hP hK
  obtain ⟨rfl, hZ, hh, hC⟩ := hP
  have e0 : s₁.heap = h0 := by rw [← hh, Bd.state]; rfl
  exact body p e s m below meth c s₁ ⟨⟨Bd.exec, hZ, findClass_of_methodNamed Bd.named, (name_of_methodNamed Bd.named Bd.method).1, Bd.bytes, hml0, Bd.returns, Bd.notSynchronized⟩, [], Stand.of_body Bd, Fr.nil n0, e0⟩ ⟨hh, hEL, ⟨0, (State.WarmedH.refl s).since 0, Nat.zero_le _⟩, CHr.refl hC⟩
theorem oW {EL : List (String × Nat)} {vm0 : Vm} {h0 : Heap} {kk nn : Nat} (X : OAt n0 Z y bytes maxL ret p l e R (s.setVm vm0) m args below meth c T h cells slots) (B : OB Z a0 EL s h0 vm0 h) (h1 : cells ≤ kk) (h2 : slots ≤ nn) :
    ∀ (t : State) (v : Option Value) (L : List Loc), t.heap = h → t.vm = T.vm → FrameEnd (s.setVm vm0) (.returned v) t L cells slots → (fun o t L => CHr Z EL s.vm s.heap t.vm t.heap ∧ ReturnedEndW s o t L kk nn) (.returned v) t L := by
  obtain ⟨⟨-, hZ, -⟩, locs, X, -⟩ := X
  obtain ⟨b1, b2, ⟨k0, b3, b4⟩, b5⟩ := B
  intro t v L e1 e2 q
  obtain ⟨q1, q2, q3⟩ := b3.ended q.2.1 (by rw [e1]; exact b4) q.2.2
  refine ⟨?_, q.1, q1, q2, q3.mono h1 h2⟩
  rw [e1, e2, b1]
  exact b5.trans (CHv.at X hZ b2 b5.1)
theorem OAt.ldcO {EL : List (String × Nat)} {vm0 : Vm} {h0 : Heap} (X : OAt n0 Z y bytes maxL ret p l e R (s.setVm vm0) m args below meth c T h cells slots) (B : OB Z a0 EL s h0 vm0 h) {index : Nat} {text : String} (w : (Jvm.Cond.stringLink y.cls index text).before a0 Z = true) (wS : ∀ a ∈ Bundle.stringAtoms, a.before a0 Z = true) (hg : g.method = m) (hd : decode bytes g.pc = .ok (.ldc index, 2)) {n : Nat} (hn : 4 * text.toList.length ≤ n) (hbig : n ≤ 536870912) (hc : cells + 2 ≤ R.cells) (hl : slots + (n + 4) ≤ R.slots)
    (k : ∀ a T' h' vm1, OAt n0 Z y bytes maxL ret p l e R (s.setVm vm1) m args below meth c T' h' (cells + 2) (slots + (n + 4)) → OB Z a0 EL s h0 vm1 h' → Ext h h' → (∀ x, x < h.size → Safe Z EL vm0 h x → Safe Z EL vm1 h' x) → OFin n0 p e FE below Q T' { g with pc := g.pc + 2, stack := .ref a :: g.stack }) : OFin n0 p e FE below Q T g := by
  obtain ⟨C, locs, X, N, eh⟩ := X
  obtain ⟨hx, hZ, hown, r⟩ := id C
  obtain ⟨b1, b2, ⟨k0, b3, b4⟩, b5⟩ := B
  obtain ⟨a, T', h', k1, X', e', E', hS', hk', hZ', hown', hC', hL', st⟩ := ldcOH X hx hZ hown w wS eh b3 b4 b2 b5.1 hg (hb r.2.1 hd) hn hbig hc hl
  exact OFin.run st (k a T' h' T'.vm ⟨⟨hx, hZ', hown', r⟩, locs, X', N, e'⟩ ⟨b1, b2, ⟨k1, hS', hk'⟩, b5.trans hC'⟩ E' (fun x q q' => hC'.safe q q'))
theorem OAt.ldcC {EL : List (String × Nat)} {vm0 : Vm} {h0 : Heap} (X : OAt n0 Z y bytes maxL ret p l e R (s.setVm vm0) m args below meth c T h cells slots) (B : OB Z a0 EL s h0 vm0 h) {index : Nat} {text : String} (w : (Jvm.Cond.stringLink y.cls index text).before a0 Z = true) (wS : ∀ a ∈ Bundle.stringAtoms, a.before a0 Z = true) (hmem : (y.cls, index) ∈ EL) {vs : List Value} {z : Int32} (ht : (∀ c ∈ text.toList, c.toNat < 256) ∧ text.toList.map (fun c => Value.int (Jvm.Lit.byteI c.toNat.toUInt16)) = vs) (hz : ¬ z < 0) (hzl : z.toNatClampNeg = vs.length)
    (hg : g.method = m) (hd : decode bytes g.pc = .ok (.ldc index, 2)) {n : Nat} (hn : 4 * text.toList.length ≤ n) (hbig : n ≤ 536870912) (hc : cells + 2 ≤ R.cells) (hl : slots + (n + 4) ≤ R.slots)
    (k : ∀ a b cA T' h' vm1, OAt n0 Z y bytes maxL ret p l e R (s.setVm vm1) m args below meth c T' h' (cells + 2) (slots + (n + 4)) → OB Z a0 EL s h0 vm1 h' → Ext h h' → (∀ x, x < h.size → Safe Z EL vm0 h x → Safe Z EL vm1 h' x) → Exa Z h' a "java/lang/String" → Fld Z h' a "java/lang/String" "coder" "B" (.int 0) → Fld Z h' a "java/lang/String" "value" "[B" (.ref b) → Arv Z h' b cA .byte z vs (.int 0) → (∀ x, Safe Z EL vm1 h' x → x ≠ a ∧ x ≠ b) → OFin n0 p e FE below Q T' { g with pc := g.pc + 2, stack := .ref a :: g.stack }) : OFin n0 p e FE below Q T g := by
  obtain ⟨C, locs, X, N, eh⟩ := X
  obtain ⟨hx, hZ, hown, r⟩ := id C
  obtain ⟨b1, b2, ⟨k0, b3, b4⟩, b5⟩ := B
  obtain ⟨a, T', h', k1, b, cA, X', e', E', hS', hk', hZ', hown', f1, f2, f3, f4, f5, f6, hC', hL', hN', st⟩ := ldcCH X hx hZ hown w wS eh b3 b4 b2 hmem b5.1 ht hz hzl hg (hb r.2.1 hd) hn hbig hc hl
  exact OFin.run st (k a b cA T' h' T'.vm ⟨⟨hx, hZ', hown', r⟩, locs, X', N, e'⟩ ⟨b1, b2, ⟨k1, hS', hk'⟩, b5.trans hC'⟩ E' (fun x q q' => hC'.safe q q') f1 f2 f3 f4 hN')
theorem OAt.callSW {EL : List (String × Nat)} {vm0 : Vm} {h0 : Heap} (X : OAt n0 Z y bytes maxL ret p l e R (s.setVm vm0) m args below meth c T h cells slots) (B : OB Z a0 EL s h0 vm0 h) {index : Nat} {y' : MethodName} {bytes' : ByteArray} {maxL' : Nat} {ret' : Option FieldType} (w1 : (Jvm.Cond.methodLink y.cls index y').before a0 Z = true) (w2 : (Jvm.Cond.static y').before a0 Z = true) (w3 : (Jvm.Cond.initialized y'.cls).before a0 Z = true) (w4 : (Jvm.Cond.code y' bytes' maxL' ret').before a0 Z = true)
    (hy : y'.cls ≠ "java/lang/invoke/MethodHandle" ∧ y'.cls ≠ "java/lang/invoke/VarHandle") {rm : Room} {Qc : Option Value → Heap → Prop} {argsL rest : List Value} (hM : OMeetsW l Z EL y' [] bytes' maxL' ret' rm argsL.toArray h n0 Qc)
    (hg : g.method = m) (hsize : g.locals.size = maxL) {ps : List FieldType} {r : Option FieldType} (hpd : parseMethodDescriptor y'.desc = some ⟨ps, r⟩) (hlen : argsL.length = ps.length) (hs : g.stack = argsL.reverse ++ rest) {W : Nat} (hW : 2 * g.monitorRoom + (rest.map fun v => v.category).sum ≤ W) (hd : decode bytes g.pc = .ok (.invokestatic index, 3))
    (hf : rm.frames + 1 ≤ R.frames) (hl : W + (maxL' + 11) + rm.locals ≤ R.locals) (hc : cells + rm.cells ≤ R.cells) (hn : slots + rm.slots ≤ R.slots)
    (k : ∀ v T' h' vm1, OAt n0 Z y bytes maxL ret p l e R (s.setVm vm1) m args below meth c T' h' (cells + rm.cells) (slots + rm.slots) → OB Z a0 EL s h0 vm1 h' → h.size ≤ h'.size → (∀ x, x < h.size → Safe Z EL vm0 h x → Safe Z EL vm1 h' x) → Qc v h' → OFin n0 p e FE below Q T' { g with pc := g.pc + 3, stack := v.toList ++ rest }) : OFin n0 p e FE below Q T g := by
  obtain ⟨C, locs, X, N, eh⟩ := X
  obtain ⟨hx, hZ, hown, hnm, hby, hml, r'⟩ := id C
  obtain ⟨b1, b2, ⟨k0, b3, b4⟩, b5⟩ := B
  obtain ⟨v, _, ⟨T1, L1, c1, n1⟩, -, X1, hS1, hg1, ⟨Lc, hQ, l1, y1, z1, hC⟩, st⟩ := callSS X hx hown (mvT hZ w1) (mvT hZ w2) (mvT hZ w3) (mvT hZ w4) hy
    (backOfSH (W := W) (Q := fun v h L => Qc v h ∧ Fr n0 L) hM hZ w4 w3 hf hl b2 b5.1) hg (hsize.trans hml.symm) (lenOf hpd hlen) hs hW (hb hby hd) (fun _ _ => ⟨rfl, eh, hc, hn⟩)
  dsimp only [Pt.U, Pt.locs, Pt.cells, Pt.slots] at X1 l1 y1 z1 st hQ hS1 hg1 hC
  subst l1 y1 z1
  rw [eh] at hg1
  have hS2 := b3.trans hS1 (Nat.le_trans b4 hg1)
  exact OFin.run (fun t k => st.trans k) (k v T1 _ T1.vm ⟨⟨hx, State.Warmed39.trans (t := s.setVm vm0) hZ hS1.1, (hS1.1.alike.findClass _ _).trans hown, hnm, hby, hml, r'⟩, _, X1, N.app hQ.2, rfl⟩ ⟨b1, b2, ⟨_, hS2, Nat.le_refl _⟩, b5.trans hC⟩ hg1 (fun x q q' => hC.safe q q') hQ.1)
theorem OAt.callIW {EL : List (String × Nat)} {vm0 : Vm} {h0 : Heap} (X : OAt n0 Z y bytes maxL ret p l e R (s.setVm vm0) m args below meth c T h cells slots) (B : OB Z a0 EL s h0 vm0 h) {index : Nat} {y' : MethodName} {bytes' : ByteArray} {maxL' : Nat} (hy1 : y'.name = "<init>") (w1 : (Jvm.Cond.methodLink y.cls index y').before a0 Z = true) (w2 : (Jvm.Cond.instanceMethod y').before a0 Z = true) (w3 : (Jvm.Cond.initialized y'.cls).before a0 Z = true) (w4 : (Jvm.Cond.code y' bytes' maxL' none).before a0 Z = true)
    (hy : y'.cls ≠ "java/lang/invoke/MethodHandle" ∧ y'.cls ≠ "java/lang/invoke/VarHandle") {rm : Room} {Qc : Option Value → Heap → Prop} {a : Addr} {argsL rest : List Value} (hM : OMeetsW l Z EL y' [] bytes' maxL' none rm (Value.ref a :: argsL).toArray h n0 Qc)
    (hg : g.method = m) (hsize : g.locals.size = maxL) {ps : List FieldType} {r : Option FieldType} (hpd : parseMethodDescriptor y'.desc = some ⟨ps, r⟩) (hlen : argsL.length = ps.length) (hs : g.stack = argsL.reverse ++ .ref a :: rest) {W : Nat} (hW : 2 * g.monitorRoom + (rest.map fun v => v.category).sum ≤ W) (hd : decode bytes g.pc = .ok (.invokespecial index, 3))
    (hf : rm.frames + 1 ≤ R.frames) (hl : W + (maxL' + 11) + rm.locals ≤ R.locals) (hc : cells + rm.cells ≤ R.cells) (hn : slots + rm.slots ≤ R.slots)
    (k : ∀ v T' h' vm1, OAt n0 Z y bytes maxL ret p l e R (s.setVm vm1) m args below meth c T' h' (cells + rm.cells) (slots + rm.slots) → OB Z a0 EL s h0 vm1 h' → h.size ≤ h'.size → (∀ x, x < h.size → Safe Z EL vm0 h x → Safe Z EL vm1 h' x) → Qc v h' → OFin n0 p e FE below Q T' { g with pc := g.pc + 3, stack := v.toList ++ rest }) : OFin n0 p e FE below Q T g := by
  obtain ⟨C, locs, X, N, eh⟩ := X
  obtain ⟨hx, hZ, hown, hnm, hby, hml, r'⟩ := id C
  obtain ⟨b1, b2, ⟨k0, b3, b4⟩, b5⟩ := B
  obtain ⟨v, _, ⟨T1, L1, c1, n1⟩, -, X1, hS1, hg1, ⟨Lc, hQ, l1, y1, z1, hC⟩, st⟩ := X.specialBackS hx hy1 hown (mvT hZ w1) (mvT hZ w2) (mvT hZ w4) hy
    (backOfSH (W := W) (Q := fun v h L => Qc v h ∧ Fr n0 L) hM hZ w4 w3 hf hl b2 b5.1) hg (hsize.trans hml.symm) (Steps.refl _) (lenOf hpd hlen) hs hW (hb hby hd) (fun _ _ => ⟨rfl, eh, hc, hn⟩)
  dsimp only [Pt.U, Pt.locs, Pt.cells, Pt.slots] at X1 l1 y1 z1 st hQ hS1 hg1 hC
  subst l1 y1 z1
  rw [eh] at hg1
  have hS2 := b3.trans hS1 (Nat.le_trans b4 hg1)
  exact OFin.run (fun t k => st.trans k) (k v T1 _ T1.vm ⟨⟨hx, State.Warmed39.trans (t := s.setVm vm0) hZ hS1.1, (hS1.1.alike.findClass _ _).trans hown, hnm, hby, hml, r'⟩, _, X1, N.app hQ.2, rfl⟩ ⟨b1, b2, ⟨_, hS2, Nat.le_refl _⟩, b5.trans hC⟩ hg1 (fun x q q' => hC.safe q q') hQ.1)
theorem OAt.callVW {EL : List (String × Nat)} {vm0 : Vm} {h0 : Heap} (X : OAt n0 Z y bytes maxL ret p l e R (s.setVm vm0) m args below meth c T h cells slots) (B : OB Z a0 EL s h0 vm0 h) {index : Nat} {y' z' : MethodName} {C0 : String} {bytes' : ByteArray} {maxL' : Nat} {ret' : Option FieldType} (w1 : (Jvm.Cond.methodLink y.cls index y').before a0 Z = true) (w2 : (Jvm.Cond.declares y').before a0 Z = true) (nf : NotFace (s.setVm vm0) y') (w5 : (Jvm.Cond.selects C0 y' z').before a0 Z = true) (w6 : (Jvm.Cond.instanceMethod z').before a0 Z = true) (w3 : (Jvm.Cond.initialized z'.cls).before a0 Z = true) (w4 : (Jvm.Cond.code z' bytes' maxL' ret').before a0 Z = true)
    (hy : y'.cls ≠ "java/lang/invoke/MethodHandle" ∧ y'.cls ≠ "java/lang/invoke/VarHandle") {rm : Room} {Qc : Option Value → Heap → Prop} {a : Addr} (E' : Exa Z h a C0) {argsL rest : List Value} (hM : OMeetsW l Z EL z' [] bytes' maxL' ret' rm (Value.ref a :: argsL).toArray h n0 Qc)
    (hg : g.method = m) (hsize : g.locals.size = maxL) {ps : List FieldType} {r : Option FieldType} (hpd : parseMethodDescriptor y'.desc = some ⟨ps, r⟩) (hlen : argsL.length = ps.length) (hs : g.stack = argsL.reverse ++ .ref a :: rest) {W : Nat} (hW : 2 * g.monitorRoom + (rest.map fun v => v.category).sum ≤ W) (hd : decode bytes g.pc = .ok (.invokevirtual index, 3))
    (hf : rm.frames + 1 ≤ R.frames) (hl : W + (maxL' + 11) + rm.locals ≤ R.locals) (hc : cells + rm.cells ≤ R.cells) (hn : slots + rm.slots ≤ R.slots)
    (k : ∀ v T' h' vm1, OAt n0 Z y bytes maxL ret p l e R (s.setVm vm1) m args below meth c T' h' (cells + rm.cells) (slots + rm.slots) → OB Z a0 EL s h0 vm1 h' → h.size ≤ h'.size → (∀ x, x < h.size → Safe Z EL vm0 h x → Safe Z EL vm1 h' x) → Qc v h' → OFin n0 p e FE below Q T' { g with pc := g.pc + 3, stack := v.toList ++ rest }) : OFin n0 p e FE below Q T g := by
  obtain ⟨C, locs, X, N, eh⟩ := X
  obtain ⟨hx, hZ, hown, hnm, hby, hml, r'⟩ := id C
  obtain ⟨b1, b2, ⟨k0, b3, b4⟩, b5⟩ := B
  obtain ⟨cq, kq, qa, qb, qc⟩ := isOf hZ eh E'
  obtain ⟨v, _, ⟨T1, L1, c1, n1⟩, -, X1, hS1, hg1, ⟨Lc, hQ, l1, y1, z1, hC⟩, st⟩ := X.virtualBackS hx hown (mvT hZ w1) (mvT hZ w2) nf (mvT hZ w5) (mvT hZ w6) hy
    (backOfSH (W := W) (Q := fun v h L => Qc v h ∧ Fr n0 L) hM hZ w4 w3 hf hl b2 b5.1) qa qc hg (hsize.trans hml.symm) (Steps.refl _) (lenOf hpd hlen) hs hW (hb hby hd) (fun _ _ => ⟨rfl, eh, hc, hn⟩)
  dsimp only [Pt.U, Pt.locs, Pt.cells, Pt.slots] at X1 l1 y1 z1 st hQ hS1 hg1 hC
  subst l1 y1 z1
  rw [eh] at hg1
  have hS2 := b3.trans hS1 (Nat.le_trans b4 hg1)
  exact OFin.run (fun t k => st.trans k) (k v T1 _ T1.vm ⟨⟨hx, State.Warmed39.trans (t := s.setVm vm0) hZ hS1.1, (hS1.1.alike.findClass _ _).trans hown, hnm, hby, hml, r'⟩, _, X1, N.app hQ.2, rfl⟩ ⟨b1, b2, ⟨_, hS2, Nat.le_refl _⟩, b5.trans hC⟩ hg1 (fun x q q' => hC.safe q q') hQ.1)
theorem OAt.more {k2 n2 : Nat} (X : OAt n0 Z y bytes maxL ret p l e R s m args below meth c T h cells slots) (h1 : cells ≤ k2) (h2 : slots ≤ n2) : OAt n0 Z y bytes maxL ret p l e R s m args below meth c T h k2 n2 := by
  obtain ⟨C, locs, X, r⟩ := X
  exact ⟨C, locs, X.more h1 h2, r⟩
theorem o_static {C n d K : String} (hx : (Jvm.Cond.exactly (.static C n d) K).value args Z none Z [] = some true) (wi : (Jvm.Cond.initialized C).before args Z = true) (wl : (Jvm.Cond.laysStatic C n d).before args Z = true) :
    ∃ a, (Term.static C n d).eval args Z none [] Z = some (.ref a) ∧ Exa Z Z.heap a K ∧ Sta Z Z.heap C n d (.ref a) := by
  obtain ⟨a, ev⟩ := exa_v hx
  exact ⟨a, ev, Exa.start ev hx, Sta.start ev (Or.inr ⟨wi, wl⟩)⟩
theorem o_fieldI {t : Term} {O f dd : String} {k : Int32} {a : Addr} (ev : t.eval args Z none [] Z = some (.ref a)) (hq : (Jvm.Cond.eq (.field t O f dd) (.int k)).value args Z none Z [] = some true) : Fld Z Z.heap a O f dd (.int k) := by
  refine Fld.start ?_
  rw [← fld_at (C := O) (n := f) (dd := dd) ev]
  obtain ⟨u, v, h1, h2, h3, h4⟩ := cmp_v (Or.inl hq)
  have h5 : v = .int k := (Option.some.inj h2).symm
  subst h5
  obtain ⟨z, rfl⟩ := h4
  have := gotT (Cond.eq_ints h1 h2) hq
  rw [h1, this]
end Own
def own_EL : List (String × Nat) := [("com/example/libidem/libidem/TextsRequireStorablePinLaw", 17), ("java/lang/String", 7)]
theorem own_wS {Z : State} {a0 : Array Value} (hw : ∀ d ∈ tables_1, d.before a0 Z = true) : ∀ a ∈ Bundle.stringAtoms, a.before a0 Z = true := fun a ha => hw a ((show ∀ a ∈ Bundle.stringAtoms, a ∈ tables_1 by decide +kernel) a ha)
theorem own_EW {Z : State} {a0 : Array Value} (hw : ∀ d ∈ tables_1, d.before a0 Z = true) : EW Z a0 own_EL := EW.cons (hw _ (List.mem_of_getElem? (i := 40) rfl)) (by decide) (EW.cons (hw _ (List.mem_of_getElem? (i := 126) rfl)) (by decide) (EW.nil))
theorem own_i (k : Nat) (hk : k < 2 ^ 31) : (Int32.ofNat k).toInt = k := Int32.toInt_ofNat_of_lt (by omega)
theorem own_iN (k : Nat) (hk : k < 2 ^ 31) : (Int32.ofNat k).toNatClampNeg = k := by show (Int32.ofNat k).toInt.toNat = k; rw [own_i k hk]; rfl
theorem own_add32 (k t : Nat) (h : k + t < 2 ^ 31) : Int32.ofNat k + Int32.ofNat t = Int32.ofNat (k + t) := by
  apply Int32.toInt_inj.mp
  have h1 := c_iadd (Int32.ofNat k) (Int32.ofNat t)
  have r := rng32 (Int32.ofNat k + Int32.ofNat t)
  rw [own_i k (by omega), own_i t (by omega)] at h1
  rw [own_i _ h]
  omega
theorem own_lt32 (a b : Nat) (ha : a < 2 ^ 31) (hb : b < 2 ^ 31) : Int32.ofNat a < Int32.ofNat b ↔ a < b := by
  rw [Int32.lt_iff_toInt_lt, own_i a ha, own_i b hb]; omega
theorem own_eq32 (a b : Nat) (ha : a < 2 ^ 31) (hb : b < 2 ^ 31) : Int32.ofNat a = Int32.ofNat b ↔ a = b := by
  constructor
  · intro h; have := congrArg Int32.toInt h; rw [own_i a ha, own_i b hb] at this; omega
  · rintro rfl; rfl
theorem own_succ (i : Nat) (h : i + 1 < 2 ^ 31) : Int32.ofNat i + (1 : Int32) = Int32.ofNat (i + 1) := own_add32 i 1 h
theorem own_inN {N k : Nat} {cl : Cell} (S : cl.slots.size = N) (hk : k < N) (hN : N ≤ 8192) : ¬ (Int32.ofNat k < 0 ∨ cl.slots.size ≤ (Int32.ofNat k).toNatClampNeg) := o_in S (by rw [own_i k (by omega)]; omega) (by rw [own_i k (by omega)]; omega)
theorem own_bb (x : Int32) : nar .byte x.toInt8.toInt32 = x.toInt8.toInt32 := by
  show x.toInt8.toInt32.toInt8.toInt32 = x.toInt8.toInt32
  rw [Int8.toInt8_toInt32]
theorem own_cc (x : Int32) (h0 : 0 ≤ x.toInt) (h1 : x.toInt ≤ 65535) : x.toUInt32.toUInt16.toUInt32.toInt32 = x := by
  have q := c_i2c x
  apply Int32.toInt_inj.mp
  omega
theorem own_narC (x : Int32) (h0 : 0 ≤ x.toInt) (h1 : x.toInt ≤ 65535) : nar .char x = x := own_cc x h0 h1
theorem own_chr (x : Int32) (h0 : 0 ≤ x.toInt) (h1 : x.toInt ≤ 255) : nar .char ((x.toInt8.toInt32 &&& (255 : Int32)).toUInt32.toUInt16.toUInt32.toInt32) = x := by
  have e : x.toInt8.toInt32 &&& (255 : Int32) = x := by
    apply Int32.toInt_inj.mp
    rw [c_mask _ _ 8 (by decide) (by decide)]
    have q := (c_i2b x).1
    have : ((2 ^ 8 : Nat) : Int) = 256 := by decide
    omega
  rw [e, own_cc x h0 (by omega)]
  exact own_narC x h0 (by omega)
theorem own_sh0 (x : Int32) : x >>> ((0 : Int32) &&& 31) = x := by
  apply Int32.toInt_inj.mp
  rw [c_ishr x 0 0 (by decide)]
  simp
theorem own_sub0 (x : Int32) : (((x - x).toUInt32 >>> ((31 : Int32) &&& 31).toUInt32).toInt32).toInt8.toInt32 = 0 := by
  rw [Int32.sub_self]
  decide
theorem own_s6i {v0 v1 v2 v3 v4 v5 : Value} {s6 : Slot} {x : Int32} (h : One s6) : storeLocals #[.val v0, .val v1, .val v2, .val v3, .val v4, .val v5, s6] 6 (.int x) = some #[.val v0, .val v1, .val v2, .val v3, .val v4, .val v5, .val (.int x)] := by
  rcases h with rfl | ⟨w, rfl, hw⟩
  · rfl
  · cases w <;> first | rfl | (simp [Value.category] at hw)
theorem own_s2i {v0 v1 : Value} {s2 : Slot} {x : Int32} (h : One s2) : storeLocals #[.val v0, .val v1, s2] 2 (.int x) = some #[.val v0, .val v1, .val (.int x)] := by
  rcases h with rfl | ⟨w, rfl, hw⟩
  · rfl
  · cases w <;> first | rfl | (simp [Value.category] at hw)
/-- a String of N chars f 0, f 1, .., each at most 255 -/
def OStr (Z : State) (h : Heap) (a t : Addr) (N : Nat) (f : Nat → Int32) : Prop := Exa Z h a "java/lang/String" ∧ Fld Z h a "java/lang/String" "coder" "B" (.int 0) ∧ Fld Z h a "java/lang/String" "value" "[B" (.ref t) ∧ OArr Z h t .byte N (fun j => .int (f j).toInt8.toInt32)
theorem OStr.ext {Z : State} {h h' : Heap} {a t : Addr} {N : Nat} {f : Nat → Int32} (S : OStr Z h a t N f) (E : Ext h h') : OStr Z h' a t N f := ⟨S.1.ext E, S.2.1.ext E, S.2.2.1.ext E, S.2.2.2.ext E⟩
theorem OStr.keep {Z : State} {h h' : Heap} {a t : Addr} {N : Nat} {f : Nat → Int32} {ws : List Addr} (S : OStr Z h a t N f) (K : Keep h h' ws) (q1 : a ∉ ws) (q2 : t ∉ ws) : OStr Z h' a t N f := ⟨S.1.keep K, S.2.1.keep K q1, S.2.2.1.keep K q1, S.2.2.2.keep K q2⟩
theorem OStr.wr {Z : State} {h h' : Heap} {a t b : Addr} {N sl : Nat} {v : Value} {f : Nat → Int32} (S : OStr Z h a t N f) (W : Wr h h' b sl v) (q1 : a ≠ b) (q2 : t ≠ b) : OStr Z h' a t N f := ⟨S.1.wr W, S.2.1.other W (Or.inl q1), S.2.2.1.other W (Or.inl q1), S.2.2.2.other W q2⟩
theorem own_safeNull {Z : State} {EL : List (String × Nat)} {vm : Vm} {h : Heap} {x : Addr} (hal : Z.vm.Alike vm) (E : Exa Z h x "java/lang/String") (F : Fld Z h x "java/lang/String" "value" "[B" .null) : Safe Z EL vm h x := fun B => by
  obtain ⟨cell, k, e1, e2, e3, -, -⟩ := E
  obtain ⟨cell', cf, kf, i, f, g1, g2, -, -, -, -, g3⟩ := F
  cases e1.symm.trans g1
  obtain ⟨p, -, u, a, -, q, -, F, rfl | rfl⟩ := B
  · cases (show h[q.sa]? = some q.sC from F.ha).symm.trans e1
    obtain ⟨cS, ⟨⟨-, -, -, ⟨c1, k1, i1, f1, -⟩, -, -, -, v1, -⟩, -⟩, -⟩ := F
    obtain ⟨k3, e3, -⟩ := State.fieldFound?_setVm (s := ({ Z with heap := h } : State)) hal (show ({ Z with heap := h } : State).fieldFound? _ _ _ = _ from g2)
    have e4 := (show (Wst Z vm h).fieldFound? _ _ _ = _ from e3).symm.trans f1
    simp only [Option.some.injEq, Prod.mk.injEq] at e4
    rw [e4.2.2.2, v1] at g3
    simp at g3
  · cases (show h[q.sd]? = some q.SA from F.hd).symm.trans e1
    obtain ⟨cS, -, -, f9, -⟩ := F
    have f8 : vm.findClass "[B" = some q.SA.cls := f9
    rw [hal.findClass] at f8
    obtain ⟨k1, q1, q2⟩ := Vm.findClass_spec f8
    obtain ⟨k2, q3, q4⟩ := Vm.findClass_spec e2
    cases q1.symm.trans q3
    have := q2.symm.trans q4
    revert this; decide
theorem own_neA {Z : State} {a0 : Array Value} {h : Heap} {b t : Addr} {C : String} {n N : Nat} {ty : FieldType} {f : Nat → Value} (wi : (Jvm.Cond.instantiable C n).before a0 Z = true) (E : Exa Z h b C) (F : OArr Z h t ty N f) : t ≠ b := fun e => by
  subst e
  obtain ⟨cl, ⟨A1, ⟨-, kA, hkA, compA, hkindA⟩, -⟩, -⟩ := F
  obtain ⟨cell, k, e1, e2, e3, -, -⟩ := E
  obtain ⟨t2, k', g1, g2, g3, -⟩ := Cond.instantiable_spec wi
  cases A1.symm.trans e1
  cases g1.symm.trans e2
  cases g2.symm.trans hkA
  have := g3.symm.trans hkindA
  cases this
theorem OArr.nil {Z : State} {h : Heap} {t : Addr} {cA : ClassId} {f : Nat → Value} (A : Arv Z h t cA .byte 0 [] (.int 0)) : OArr Z h t .byte 0 f := by
  obtain ⟨c, A1, -, A2, -⟩ := A
  exact ⟨c, A1, A2, fun j hj => absurd hj (Nat.not_lt_zero j)⟩
/-- g says whether P -/
def own_tv (g : Int32) (P : Prop) : Prop := (g = 1 ∧ P) ∨ (g = 0 ∧ ¬ P)
theorem own_tv.imp {g : Int32} {P P' : Prop} (h : own_tv g P) (q : P ↔ P') : own_tv g P' := Or.imp (fun r => ⟨r.1, q.mp r.2⟩) (fun r => ⟨r.1, fun z => r.2 (q.mpr z)⟩) h
theorem own_tv.uniq {g g' : Int32} {P : Prop} (h : own_tv g P) (h' : own_tv g' P) : g = g' := by
  rcases h with ⟨rfl, h⟩ | ⟨rfl, h⟩ <;> rcases h' with ⟨rfl, h'⟩ | ⟨rfl, h'⟩ <;> first | rfl | contradiction
theorem own_b8 {x y : Int32} (hx : 0 ≤ x.toInt ∧ x.toInt ≤ 255) (hy : 0 ≤ y.toInt ∧ y.toInt ≤ 255) (q : x.toInt8.toInt32 = y.toInt8.toInt32) : x = y := by
  rw [← own_chr x hx.1 hx.2, ← own_chr y hy.1 hy.2, q]
theorem pn_java_lang_StringUTF16 : plainName "java/lang/StringUTF16" = true := by first | (simp [plainName, overriddenIn]; done) | decide +kernel
theorem d7_3 : decode jdk_52_method_21_code 3 = .ok (.iload 5, 2) := by decide +kernel
theorem d7_5 : decode jdk_52_method_21_code 5 = .ok (.iload 4, 2) := by decide +kernel
theorem d7_7 : decode jdk_52_method_21_code 7 = .ok (.if_icmp .ge 37, 3) := by decide +kernel
theorem d7_44 : decode jdk_52_method_21_code 44 = .ok (.iload 4, 2) := by decide +kernel
theorem d7_46 : decode jdk_52_method_21_code 46 = .ok (.ireturn, 1) := by decide +kernel
theorem d7_10 : decode jdk_52_method_21_code 10 = .ok (.aload_n 0, 1) := by decide +kernel
theorem d7_11 : decode jdk_52_method_21_code 11 = .ok (.iload_n 1, 1) := by decide +kernel
theorem d7_12 : decode jdk_52_method_21_code 12 = .ok (.caload, 1) := by decide +kernel
theorem d7_13 : decode jdk_52_method_21_code 13 = .ok (.istore 6, 2) := by decide +kernel
theorem d7_15 : decode jdk_52_method_21_code 15 = .ok (.iload 6, 2) := by decide +kernel
theorem d7_17 : decode jdk_52_method_21_code 17 = .ok (.sipush 255, 3) := by decide +kernel
theorem d7_20 : decode jdk_52_method_21_code 20 = .ok (.if_icmp .le 6, 3) := by decide +kernel
theorem d7_26 : decode jdk_52_method_21_code 26 = .ok (.aload_n 2, 1) := by decide +kernel
theorem d7_27 : decode jdk_52_method_21_code 27 = .ok (.iload_n 3, 1) := by decide +kernel
theorem d7_28 : decode jdk_52_method_21_code 28 = .ok (.iload 6, 2) := by decide +kernel
theorem d7_30 : decode jdk_52_method_21_code 30 = .ok (.i2b, 1) := by decide +kernel
theorem d7_31 : decode jdk_52_method_21_code 31 = .ok (.bastore, 1) := by decide +kernel
theorem d7_32 : decode jdk_52_method_21_code 32 = .ok (.iinc 1 1, 3) := by decide +kernel
theorem d7_35 : decode jdk_52_method_21_code 35 = .ok (.iinc 3 1, 3) := by decide +kernel
theorem d7_38 : decode jdk_52_method_21_code 38 = .ok (.iinc 5 1, 3) := by decide +kernel
theorem d7_41 : decode jdk_52_method_21_code 41 = .ok (.goto (-38), 3) := by decide +kernel
theorem d7_0 : decode jdk_52_method_21_code 0 = .ok (.iconst 0, 1) := by decide +kernel
theorem d7_1 : decode jdk_52_method_21_code 1 = .ok (.istore 5, 2) := by decide +kernel
set_option maxRecDepth 65536 in
set_option maxHeartbeats 40000000 in
theorem sm1 (l : Launch) (Z : State) (a0 : Array Value) (hw : ∀ d ∈ tables_1, d.before a0 Z = true) (ca ba : Addr) (N : Nat) (f : Nat → Int32) (h0 : Heap) (n0 : Nat) (FC : OArr Z h0 ca .char N (fun j => .int (f j))) (FB : OArr Z h0 ba .byte N (fun _ => .int 0)) (hN : N ≤ 4000) (hch : ∀ j, j < N → 0 ≤ (f j).toInt ∧ (f j).toInt ≤ 255) (hnew : n0 ≤ ba) (ne : ca ≠ ba) :
    OMeets l Z (⟨"java/lang/StringUTF16", "compress", "([CI[BII)I"⟩ : MethodName) [] jdk_52_method_21_code 7 (some .int) ({ frames := 0, cells := 0, slots := 0, locals := 0 } : Room) #[(.ref ca), (.int (0 : Int32)), (.ref ba), (.int (0 : Int32)), (.int (Int32.ofNat N))] h0 n0 (fun v h => v = some (.int (Int32.ofNat N)) ∧ Keep h0 h [ba] ∧ OArr Z h ba .byte N (fun j => .int (f j).toInt8.toInt32)) := by
  refine o_enter (Z := Z) (plainFor_of_name pn_java_lang_StringUTF16) ?_
  intro p e s m below meth c T0 X0
  refine OFin.cast (g' := (mkF m 0 #[.val (.ref ca), .val (.int (0 : Int32)), .val (.ref ba), .val (.int (0 : Int32)), .val (.int (Int32.ofNat N)), .unset, .unset] [])) (by first | (simp [entryFrame, mkF, argsToLocals, Value.category]; done) | rfl) ?_
  have loop : ∀ (k i : Nat) (T : State) (h : Heap) (s6 : Slot), i + k = N → One s6 → OAt n0 Z (⟨"java/lang/StringUTF16", "compress", "([CI[BII)I"⟩ : MethodName) jdk_52_method_21_code 7 (some .int) p l e ({ frames := 0, cells := 0, slots := 0, locals := 0 } : Room) s m #[(.ref ca), (.int (0 : Int32)), (.ref ba), (.int (0 : Int32)), (.int (Int32.ofNat N))] below meth c T h 0 0 → OArr Z h ca .char N (fun j => .int (f j)) → OArr Z h ba .byte N (fun j => if j < i then .int (f j).toInt8.toInt32 else .int 0) → Keep h0 h [ba] → OFin n0 p e (fun o t L => FrameEnd s o t L ({ frames := 0, cells := 0, slots := 0, locals := 0 } : Room).cells ({ frames := 0, cells := 0, slots := 0, locals := 0 } : Room).slots) below (fun v h => v = some (.int (Int32.ofNat N)) ∧ Keep h0 h [ba] ∧ OArr Z h ba .byte N (fun j => .int (f j).toInt8.toInt32)) T (mkF m 3 #[.val (.ref ca), .val (.int (Int32.ofNat i)), .val (.ref ba), .val (.int (Int32.ofNat i)), .val (.int (Int32.ofNat N)), .val (.int (Int32.ofNat i)), s6] []) := by
    intro k
    induction k with
    | zero =>
      intro i T h s6 hik h6 X FC FB K
      have hiN : i = N := by omega
      refine X.step (fun hA hx hq t_ k_ => XS.iload hA hx rfl (hb hq d7_3) rfl k_) ?_
      show OFin _ _ _ _ _ _ T (mkF m 5 #[.val (.ref ca), .val (.int (Int32.ofNat i)), .val (.ref ba), .val (.int (Int32.ofNat i)), .val (.int (Int32.ofNat N)), .val (.int (Int32.ofNat i)), s6] [(.int (Int32.ofNat i))])
      refine X.step (fun hA hx hq t_ k_ => XS.iload hA hx rfl (hb hq d7_5) rfl k_) ?_
      show OFin _ _ _ _ _ _ T (mkF m 7 #[.val (.ref ca), .val (.int (Int32.ofNat i)), .val (.ref ba), .val (.int (Int32.ofNat i)), .val (.int (Int32.ofNat N)), .val (.int (Int32.ofNat i)), s6] [(.int (Int32.ofNat N)), (.int (Int32.ofNat i))])
      refine X.step (fun hA hx hq t_ k_ => XS.icmpYes hA hx rfl (pc0 := 7) (pc' := 44) rfl (hb hq d7_7) rfl (flt (fun c => by rw [own_lt32 i N (by omega) (by omega)] at c; omega)).2.1 (by decide) (by decide) k_) ?_
      show OFin _ _ _ _ _ _ T (mkF m 44 #[.val (.ref ca), .val (.int (Int32.ofNat i)), .val (.ref ba), .val (.int (Int32.ofNat i)), .val (.int (Int32.ofNat N)), .val (.int (Int32.ofNat i)), s6] [])
      refine X.step (fun hA hx hq t_ k_ => XS.iload hA hx rfl (hb hq d7_44) rfl k_) ?_
      show OFin _ _ _ _ _ _ T (mkF m 46 #[.val (.ref ca), .val (.int (Int32.ofNat i)), .val (.ref ba), .val (.int (Int32.ofNat i)), .val (.int (Int32.ofNat N)), .val (.int (Int32.ofNat i)), s6] [(.int (Int32.ofNat N))])
      exact X.retI d7_46 (oN (by decide) (by decide)) (⟨rfl, K, FB.congr fun j hj => if_pos (by omega)⟩)
    | succ k ih =>
      intro i T h s6 hik h6 X FC FB K
      have hlt : i < N := by omega
      obtain ⟨cc, Ac, Sc, Hc⟩ := id FC
      obtain ⟨cb, Ab, Sb, Hb⟩ := id FB
      have hi := hch i hlt
      refine X.step (fun hA hx hq t_ k_ => XS.iload hA hx rfl (hb hq d7_3) rfl k_) ?_
      show OFin _ _ _ _ _ _ T (mkF m 5 #[.val (.ref ca), .val (.int (Int32.ofNat i)), .val (.ref ba), .val (.int (Int32.ofNat i)), .val (.int (Int32.ofNat N)), .val (.int (Int32.ofNat i)), s6] [(.int (Int32.ofNat i))])
      refine X.step (fun hA hx hq t_ k_ => XS.iload hA hx rfl (hb hq d7_5) rfl k_) ?_
      show OFin _ _ _ _ _ _ T (mkF m 7 #[.val (.ref ca), .val (.int (Int32.ofNat i)), .val (.ref ba), .val (.int (Int32.ofNat i)), .val (.int (Int32.ofNat N)), .val (.int (Int32.ofNat i)), s6] [(.int (Int32.ofNat N)), (.int (Int32.ofNat i))])
      refine X.step (fun hA hx hq t_ k_ => XS.icmpNo hA hx rfl (hb hq d7_7) rfl (tlt ((own_lt32 i N (by omega) (by omega)).mpr hlt)).2.1 k_) ?_
      show OFin _ _ _ _ _ _ T (mkF m 10 #[.val (.ref ca), .val (.int (Int32.ofNat i)), .val (.ref ba), .val (.int (Int32.ofNat i)), .val (.int (Int32.ofNat N)), .val (.int (Int32.ofNat i)), s6] [])
      refine X.step (fun hA hx hq t_ k_ => XS.aloadN hA hx rfl (hb hq d7_10) rfl rfl k_) ?_
      show OFin _ _ _ _ _ _ T (mkF m 11 #[.val (.ref ca), .val (.int (Int32.ofNat i)), .val (.ref ba), .val (.int (Int32.ofNat i)), .val (.int (Int32.ofNat N)), .val (.int (Int32.ofNat i)), s6] [(.ref ca)])
      refine X.step (fun hA hx hq t_ k_ => XS.iloadN hA hx rfl (hb hq d7_11) rfl k_) ?_
      show OFin _ _ _ _ _ _ T (mkF m 12 #[.val (.ref ca), .val (.int (Int32.ofNat i)), .val (.ref ba), .val (.int (Int32.ofNat i)), .val (.int (Int32.ofNat N)), .val (.int (Int32.ofNat i)), s6] [(.int (Int32.ofNat i)), (.ref ca)])
      refine X.aload0 Ac (v := (.int (f i))) (own_inN Sc hlt (by omega)) (by rw [own_iN i (by omega)]; exact Hc i hlt) (g := (mkF m 12 #[.val (.ref ca), .val (.int (Int32.ofNat i)), .val (.ref ba), .val (.int (Int32.ofNat i)), .val (.int (Int32.ofNat N)), .val (.int (Int32.ofNat i)), s6] [(.int (Int32.ofNat i)), (.ref ca)])) rfl rfl (Or.inr (Or.inr (Or.inl ⟨rfl, rfl⟩))) d7_12 ?_
      show OFin _ _ _ _ _ _ T (mkF m 13 #[.val (.ref ca), .val (.int (Int32.ofNat i)), .val (.ref ba), .val (.int (Int32.ofNat i)), .val (.int (Int32.ofNat N)), .val (.int (Int32.ofNat i)), s6] [(.int (f i))])
      refine X.step (fun hA hx hq t_ k_ => XS.istore hA hx rfl (hb hq d7_13) rfl (l' := #[.val (.ref ca), .val (.int (Int32.ofNat i)), .val (.ref ba), .val (.int (Int32.ofNat i)), .val (.int (Int32.ofNat N)), .val (.int (Int32.ofNat i)), .val (.int (f i))]) (own_s6i h6) k_) ?_
      show OFin _ _ _ _ _ _ T (mkF m 15 #[.val (.ref ca), .val (.int (Int32.ofNat i)), .val (.ref ba), .val (.int (Int32.ofNat i)), .val (.int (Int32.ofNat N)), .val (.int (Int32.ofNat i)), .val (.int (f i))] [])
      refine X.step (fun hA hx hq t_ k_ => XS.iload hA hx rfl (hb hq d7_15) rfl k_) ?_
      show OFin _ _ _ _ _ _ T (mkF m 17 #[.val (.ref ca), .val (.int (Int32.ofNat i)), .val (.ref ba), .val (.int (Int32.ofNat i)), .val (.int (Int32.ofNat N)), .val (.int (Int32.ofNat i)), .val (.int (f i))] [(.int (f i))])
      refine X.step (fun hA hx hq t_ k_ => XS.sipush hA hx rfl (hb hq d7_17) k_) ?_
      show OFin _ _ _ _ _ _ T (mkF m 20 #[.val (.ref ca), .val (.int (Int32.ofNat i)), .val (.ref ba), .val (.int (Int32.ofNat i)), .val (.int (Int32.ofNat N)), .val (.int (Int32.ofNat i)), .val (.int (f i))] [(.int (255 : Int32)), (.int (f i))])
      refine X.step (fun hA hx hq t_ k_ => XS.icmpYes hA hx rfl (pc0 := 20) (pc' := 26) rfl (hb hq d7_20) rfl (flt ((by rw [Int32.lt_iff_toInt_lt]; have : (255 : Int32).toInt = 255 := (by decide); omega))).2.2.2 (by decide) (by decide) k_) ?_
      show OFin _ _ _ _ _ _ T (mkF m 26 #[.val (.ref ca), .val (.int (Int32.ofNat i)), .val (.ref ba), .val (.int (Int32.ofNat i)), .val (.int (Int32.ofNat N)), .val (.int (Int32.ofNat i)), .val (.int (f i))] [])
      refine X.step (fun hA hx hq t_ k_ => XS.aloadN hA hx rfl (hb hq d7_26) rfl rfl k_) ?_
      show OFin _ _ _ _ _ _ T (mkF m 27 #[.val (.ref ca), .val (.int (Int32.ofNat i)), .val (.ref ba), .val (.int (Int32.ofNat i)), .val (.int (Int32.ofNat N)), .val (.int (Int32.ofNat i)), .val (.int (f i))] [(.ref ba)])
      refine X.step (fun hA hx hq t_ k_ => XS.iloadN hA hx rfl (hb hq d7_27) rfl k_) ?_
      show OFin _ _ _ _ _ _ T (mkF m 28 #[.val (.ref ca), .val (.int (Int32.ofNat i)), .val (.ref ba), .val (.int (Int32.ofNat i)), .val (.int (Int32.ofNat N)), .val (.int (Int32.ofNat i)), .val (.int (f i))] [(.int (Int32.ofNat i)), (.ref ba)])
      refine X.step (fun hA hx hq t_ k_ => XS.iload hA hx rfl (hb hq d7_28) rfl k_) ?_
      show OFin _ _ _ _ _ _ T (mkF m 30 #[.val (.ref ca), .val (.int (Int32.ofNat i)), .val (.ref ba), .val (.int (Int32.ofNat i)), .val (.int (Int32.ofNat N)), .val (.int (Int32.ofNat i)), .val (.int (f i))] [(.int (f i)), (.int (Int32.ofNat i)), (.ref ba)])
      refine X.step (fun hA hx hq t_ k_ => XS.i2b hA hx rfl (hb hq d7_30) rfl k_) ?_
      show OFin _ _ _ _ _ _ T (mkF m 31 #[.val (.ref ca), .val (.int (Int32.ofNat i)), .val (.ref ba), .val (.int (Int32.ofNat i)), .val (.int (Int32.ofNat N)), .val (.int (Int32.ofNat i)), .val (.int (f i))] [(.int ((f i).toInt8.toInt32)), (.int (Int32.ofNat i)), (.ref ba)])
      refine X.stB Ab (own_inN Sb hlt (by omega)) (hnew) (g := (mkF m 31 #[.val (.ref ca), .val (.int (Int32.ofNat i)), .val (.ref ba), .val (.int (Int32.ofNat i)), .val (.int (Int32.ofNat N)), .val (.int (Int32.ofNat i)), .val (.int (f i))] [(.int ((f i).toInt8.toInt32)), (.int (Int32.ofNat i)), (.ref ba)])) rfl rfl d7_31 ?_
      intro T1 h1 X1 W1
      show OFin _ _ _ _ _ _ T1 (mkF m 32 #[.val (.ref ca), .val (.int (Int32.ofNat i)), .val (.ref ba), .val (.int (Int32.ofNat i)), .val (.int (Int32.ofNat N)), .val (.int (Int32.ofNat i)), .val (.int (f i))] [])
      rw [own_iN i (by omega), own_bb] at W1
      refine X1.step (fun hA hx hq t_ k_ => XS.iinc hA hx rfl (hb hq d7_32) rfl (l' := #[.val (.ref ca), .val (.int ((Int32.ofNat i) + (1 : Int32))), .val (.ref ba), .val (.int (Int32.ofNat i)), .val (.int (Int32.ofNat N)), .val (.int (Int32.ofNat i)), .val (.int (f i))]) rfl k_) ?_
      show OFin _ _ _ _ _ _ T1 (mkF m 35 #[.val (.ref ca), .val (.int ((Int32.ofNat i) + (1 : Int32))), .val (.ref ba), .val (.int (Int32.ofNat i)), .val (.int (Int32.ofNat N)), .val (.int (Int32.ofNat i)), .val (.int (f i))] [])
      refine X1.step (fun hA hx hq t_ k_ => XS.iinc hA hx rfl (hb hq d7_35) rfl (l' := #[.val (.ref ca), .val (.int ((Int32.ofNat i) + (1 : Int32))), .val (.ref ba), .val (.int ((Int32.ofNat i) + (1 : Int32))), .val (.int (Int32.ofNat N)), .val (.int (Int32.ofNat i)), .val (.int (f i))]) rfl k_) ?_
      show OFin _ _ _ _ _ _ T1 (mkF m 38 #[.val (.ref ca), .val (.int ((Int32.ofNat i) + (1 : Int32))), .val (.ref ba), .val (.int ((Int32.ofNat i) + (1 : Int32))), .val (.int (Int32.ofNat N)), .val (.int (Int32.ofNat i)), .val (.int (f i))] [])
      refine X1.step (fun hA hx hq t_ k_ => XS.iinc hA hx rfl (hb hq d7_38) rfl (l' := #[.val (.ref ca), .val (.int ((Int32.ofNat i) + (1 : Int32))), .val (.ref ba), .val (.int ((Int32.ofNat i) + (1 : Int32))), .val (.int (Int32.ofNat N)), .val (.int ((Int32.ofNat i) + (1 : Int32))), .val (.int (f i))]) rfl k_) ?_
      show OFin _ _ _ _ _ _ T1 (mkF m 41 #[.val (.ref ca), .val (.int ((Int32.ofNat i) + (1 : Int32))), .val (.ref ba), .val (.int ((Int32.ofNat i) + (1 : Int32))), .val (.int (Int32.ofNat N)), .val (.int ((Int32.ofNat i) + (1 : Int32))), .val (.int (f i))] [])
      rw [own_succ i (by omega)]
      show OFin _ _ _ _ _ _ T1 (mkF m 41 #[.val (.ref ca), .val (.int (Int32.ofNat (i + 1))), .val (.ref ba), .val (.int (Int32.ofNat (i + 1))), .val (.int (Int32.ofNat N)), .val (.int (Int32.ofNat (i + 1))), .val (.int (f i))] [])
      refine X1.step (fun hA hx hq t_ k_ => XS.goto hA hx rfl (pc0 := 41) (pc' := 3) rfl (hb hq d7_41) (by decide) (by decide) k_) ?_
      show OFin _ _ _ _ _ _ T1 (mkF m 3 #[.val (.ref ca), .val (.int (Int32.ofNat (i + 1))), .val (.ref ba), .val (.int (Int32.ofNat (i + 1))), .val (.int (Int32.ofNat N)), .val (.int (Int32.ofNat (i + 1))), .val (.int (f i))] [])
      refine ih (i + 1) T1 h1 _ (by omega) (One.val rfl) X1 (FC.other W1 ne) ((FB.set W1).congr fun j hj => ?_) (K.wr W1 (Or.inl (List.mem_of_getElem? (i := 0) rfl)))
      by_cases c : j = i
      · have c2 : j < i + 1 := by omega
        simp only [c, if_true]
        rw [if_pos (by omega)]
      · by_cases d : j < i
        · have d2 : j < i + 1 := by omega
          simp only [c, d, d2, if_true, if_false]
        · have d2 : ¬ j < i + 1 := by omega
          simp only [c, d, d2, if_false]
  refine X0.step (fun hA hx hq t_ k_ => XS.iconst hA hx rfl (hb hq d7_0) k_) ?_
  show OFin _ _ _ _ _ _ T0 (mkF m 1 #[.val (.ref ca), .val (.int (0 : Int32)), .val (.ref ba), .val (.int (0 : Int32)), .val (.int (Int32.ofNat N)), .unset, .unset] [(.int (0 : Int32))])
  refine X0.step (fun hA hx hq t_ k_ => XS.istore hA hx rfl (hb hq d7_1) rfl (l' := #[.val (.ref ca), .val (.int (0 : Int32)), .val (.ref ba), .val (.int (0 : Int32)), .val (.int (Int32.ofNat N)), .val (.int (0 : Int32)), .unset]) rfl k_) ?_
  show OFin _ _ _ _ _ _ T0 (mkF m 3 #[.val (.ref ca), .val (.int (0 : Int32)), .val (.ref ba), .val (.int (0 : Int32)), .val (.int (Int32.ofNat N)), .val (.int (0 : Int32)), .unset] [])
  exact loop N 0 T0 h0 .unset (by omega) One.u X0 FC (FB.congr fun j hj => by simp) (Keep.refl _ _)
theorem d6_0 : decode jdk_52_method_16_code 0 = .ok (.iload_n 2, 1) := by decide +kernel
theorem d6_1 : decode jdk_52_method_16_code 1 = .ok (.newarray .byte, 2) := by decide +kernel
theorem d6_3 : decode jdk_52_method_16_code 3 = .ok (.astore_n 3, 1) := by decide +kernel
theorem d6_4 : decode jdk_52_method_16_code 4 = .ok (.aload_n 0, 1) := by decide +kernel
theorem d6_5 : decode jdk_52_method_16_code 5 = .ok (.iload_n 1, 1) := by decide +kernel
theorem d6_6 : decode jdk_52_method_16_code 6 = .ok (.aload_n 3, 1) := by decide +kernel
theorem d6_7 : decode jdk_52_method_16_code 7 = .ok (.iconst 0, 1) := by decide +kernel
theorem d6_8 : decode jdk_52_method_16_code 8 = .ok (.iload_n 2, 1) := by decide +kernel
theorem d6_9 : decode jdk_52_method_16_code 9 = .ok (.invokestatic 115, 3) := by decide +kernel
theorem pd_pA_CIA_BIIr_I : parseMethodDescriptor "([CI[BII)I" = some ⟨[(.array .char), .int, (.array .byte), .int, .int], some .int⟩ := by decide +kernel
theorem d6_12 : decode jdk_52_method_16_code 12 = .ok (.istore 4, 2) := by decide +kernel
theorem d6_14 : decode jdk_52_method_16_code 14 = .ok (.iload 4, 2) := by decide +kernel
theorem d6_16 : decode jdk_52_method_16_code 16 = .ok (.iload_n 2, 1) := by decide +kernel
theorem d6_17 : decode jdk_52_method_16_code 17 = .ok (.if_icmp .eq 40, 3) := by decide +kernel
theorem d6_57 : decode jdk_52_method_16_code 57 = .ok (.aload_n 3, 1) := by decide +kernel
theorem d6_58 : decode jdk_52_method_16_code 58 = .ok (.areturn, 1) := by decide +kernel
set_option maxRecDepth 65536 in
set_option maxHeartbeats 40000000 in
theorem sm2 (l : Launch) (Z : State) (a0 : Array Value) (hw : ∀ d ∈ tables_1, d.before a0 Z = true) (ca : Addr) (N : Nat) (f : Nat → Int32) (h0 : Heap) (n0 : Nat) (FC : OArr Z h0 ca .char N (fun j => .int (f j))) (hN : N ≤ 6) (hch : ∀ j, j < N → 0 ≤ (f j).toInt ∧ (f j).toInt ≤ 255) (Z0 : n0 ≤ h0.size) :
    OMeets l Z (⟨"java/lang/StringUTF16", "compress", "([CII)[B"⟩ : MethodName) [] jdk_52_method_16_code 6 (some (.array .byte)) ({ frames := 1, cells := 1, slots := 6, locals := 18 } : Room) #[(.ref ca), (.int (0 : Int32)), (.int (Int32.ofNat N))] h0 n0 (fun v h => ∃ t, v = some (.ref t) ∧ Keep h0 h [] ∧ OArr Z h t .byte N (fun j => .int (f j).toInt8.toInt32) ∧ h0.size ≤ t) := by
  refine o_enter (Z := Z) (plainFor_of_name pn_java_lang_StringUTF16) ?_
  intro p e s m below meth c T0 X0
  refine OFin.cast (g' := (mkF m 0 #[.val (.ref ca), .val (.int (0 : Int32)), .val (.int (Int32.ofNat N)), .unset, .unset, .unset] [])) (by first | (simp [entryFrame, mkF, argsToLocals, Value.category]; done) | rfl) ?_
  refine X0.step (fun hA hx hq t_ k_ => XS.iloadN hA hx rfl (hb hq d6_0) rfl k_) ?_
  show OFin _ _ _ _ _ _ T0 (mkF m 1 #[.val (.ref ca), .val (.int (0 : Int32)), .val (.int (Int32.ofNat N)), .unset, .unset, .unset] [(.int (Int32.ofNat N))])
  refine X0.newP (hw _ (List.mem_of_getElem? (i := 29) rfl)) (g := (mkF m 1 #[.val (.ref ca), .val (.int (0 : Int32)), .val (.int (Int32.ofNat N)), .unset, .unset, .unset] [(.int (Int32.ofNat N))])) rfl d6_1 rfl (by rw [Int32.lt_iff_toInt_lt, own_i N (by omega)]; have : (0 : Int32).toInt = 0 := (by decide); omega) (cap := 6) (by rw [own_iN N (by omega)]; exact hN) (by decide) (by decide) (by decide) (ad := "[B") (by first | rfl | decide) ?_
  intro T1 h1 k1 b1 gb1 X1 E1 A1 G1
  show OFin _ _ _ _ _ _ T1 (mkF m 3 #[.val (.ref ca), .val (.int (0 : Int32)), .val (.int (Int32.ofNat N)), .unset, .unset, .unset] [(.ref b1)])
  refine X1.step (fun hA hx hq t_ k_ => XS.astoreN hA hx rfl (hb hq d6_3) rfl rfl (l' := #[.val (.ref ca), .val (.int (0 : Int32)), .val (.int (Int32.ofNat N)), .val (.ref b1), .unset, .unset]) rfl k_) ?_
  show OFin _ _ _ _ _ _ T1 (mkF m 4 #[.val (.ref ca), .val (.int (0 : Int32)), .val (.int (Int32.ofNat N)), .val (.ref b1), .unset, .unset] [])
  refine X1.step (fun hA hx hq t_ k_ => XS.aloadN hA hx rfl (hb hq d6_4) rfl rfl k_) ?_
  show OFin _ _ _ _ _ _ T1 (mkF m 5 #[.val (.ref ca), .val (.int (0 : Int32)), .val (.int (Int32.ofNat N)), .val (.ref b1), .unset, .unset] [(.ref ca)])
  refine X1.step (fun hA hx hq t_ k_ => XS.iloadN hA hx rfl (hb hq d6_5) rfl k_) ?_
  show OFin _ _ _ _ _ _ T1 (mkF m 6 #[.val (.ref ca), .val (.int (0 : Int32)), .val (.int (Int32.ofNat N)), .val (.ref b1), .unset, .unset] [(.int (0 : Int32)), (.ref ca)])
  refine X1.step (fun hA hx hq t_ k_ => XS.aloadN hA hx rfl (hb hq d6_6) rfl rfl k_) ?_
  show OFin _ _ _ _ _ _ T1 (mkF m 7 #[.val (.ref ca), .val (.int (0 : Int32)), .val (.int (Int32.ofNat N)), .val (.ref b1), .unset, .unset] [(.ref b1), (.int (0 : Int32)), (.ref ca)])
  refine X1.step (fun hA hx hq t_ k_ => XS.iconst hA hx rfl (hb hq d6_7) k_) ?_
  show OFin _ _ _ _ _ _ T1 (mkF m 8 #[.val (.ref ca), .val (.int (0 : Int32)), .val (.int (Int32.ofNat N)), .val (.ref b1), .unset, .unset] [(.int (0 : Int32)), (.ref b1), (.int (0 : Int32)), (.ref ca)])
  refine X1.step (fun hA hx hq t_ k_ => XS.iloadN hA hx rfl (hb hq d6_8) rfl k_) ?_
  show OFin _ _ _ _ _ _ T1 (mkF m 9 #[.val (.ref ca), .val (.int (0 : Int32)), .val (.int (Int32.ofNat N)), .val (.ref b1), .unset, .unset] [(.int (Int32.ofNat N)), (.int (0 : Int32)), (.ref b1), (.int (0 : Int32)), (.ref ca)])
  have FB : OArr Z h1 b1 .byte N (fun _ => .int 0) := by
    have q := OArr.new A1
    rw [own_iN N (by omega)] at q
    exact q
  refine X1.callS (y' := (⟨"java/lang/StringUTF16", "compress", "([CI[BII)I"⟩ : MethodName)) (hw _ (List.mem_of_getElem? (i := 30) rfl)) (hw _ (List.mem_of_getElem? (i := 31) rfl)) (hw _ (List.mem_of_getElem? (i := 27) rfl)) (hw _ (List.mem_of_getElem? (i := 32) rfl)) (by decide) (argsL := [(.ref ca), (.int (0 : Int32)), (.ref b1), (.int (0 : Int32)), (.int (Int32.ofNat N))]) (rest := []) (sm1 l Z a0 hw ca b1 N f h1 n0 (FC.ext E1) FB (by omega) hch (by rw [gb1]; exact Z0) (by rw [gb1]; exact Nat.ne_of_lt FC.lt)) (g := (mkF m 9 #[.val (.ref ca), .val (.int (0 : Int32)), .val (.int (Int32.ofNat N)), .val (.ref b1), .unset, .unset] [(.int (Int32.ofNat N)), (.int (0 : Int32)), (.ref b1), (.int (0 : Int32)), (.ref ca)])) rfl rfl pd_pA_CIA_BIIr_I rfl rfl (W := 0) (by show 2 * 0 + _ ≤ _; exact Nat.le_of_eq rfl) d6_9 (by decide) (by decide) (by decide) (by decide) ?_
  intro v2 T2 h2 X2 q2
  obtain ⟨rfl, K2, F2⟩ := q2
  show OFin _ _ _ _ _ _ T2 (mkF m 12 #[.val (.ref ca), .val (.int (0 : Int32)), .val (.int (Int32.ofNat N)), .val (.ref b1), .unset, .unset] [(.int (Int32.ofNat N))])
  refine X2.step (fun hA hx hq t_ k_ => XS.istore hA hx rfl (hb hq d6_12) rfl (l' := #[.val (.ref ca), .val (.int (0 : Int32)), .val (.int (Int32.ofNat N)), .val (.ref b1), .val (.int (Int32.ofNat N)), .unset]) rfl k_) ?_
  show OFin _ _ _ _ _ _ T2 (mkF m 14 #[.val (.ref ca), .val (.int (0 : Int32)), .val (.int (Int32.ofNat N)), .val (.ref b1), .val (.int (Int32.ofNat N)), .unset] [])
  refine X2.step (fun hA hx hq t_ k_ => XS.iload hA hx rfl (hb hq d6_14) rfl k_) ?_
  show OFin _ _ _ _ _ _ T2 (mkF m 16 #[.val (.ref ca), .val (.int (0 : Int32)), .val (.int (Int32.ofNat N)), .val (.ref b1), .val (.int (Int32.ofNat N)), .unset] [(.int (Int32.ofNat N))])
  refine X2.step (fun hA hx hq t_ k_ => XS.iloadN hA hx rfl (hb hq d6_16) rfl k_) ?_
  show OFin _ _ _ _ _ _ T2 (mkF m 17 #[.val (.ref ca), .val (.int (0 : Int32)), .val (.int (Int32.ofNat N)), .val (.ref b1), .val (.int (Int32.ofNat N)), .unset] [(.int (Int32.ofNat N)), (.int (Int32.ofNat N))])
  refine X2.step (fun hA hx hq t_ k_ => XS.icmpYes hA hx rfl (pc0 := 17) (pc' := 57) rfl (hb hq d6_17) rfl (teq ((rfl : (Int32.ofNat N) = (Int32.ofNat N)))).1 (by decide) (by decide) k_) ?_
  show OFin _ _ _ _ _ _ T2 (mkF m 57 #[.val (.ref ca), .val (.int (0 : Int32)), .val (.int (Int32.ofNat N)), .val (.ref b1), .val (.int (Int32.ofNat N)), .unset] [])
  refine X2.step (fun hA hx hq t_ k_ => XS.aloadN hA hx rfl (hb hq d6_57) rfl rfl k_) ?_
  show OFin _ _ _ _ _ _ T2 (mkF m 58 #[.val (.ref ca), .val (.int (0 : Int32)), .val (.int (Int32.ofNat N)), .val (.ref b1), .val (.int (Int32.ofNat N)), .unset] [(.ref b1)])
  exact X2.retR rfl rfl d6_58 (oN (by decide) (by decide)) (⟨b1, rfl, ((Keep.refl h0 []).ext E1).trans K2 (allS (Or.inr (Nat.le_of_eq gb1.symm)) all0), F2, Nat.le_of_eq gb1.symm⟩)
theorem d8_0 : decode jdk_52_method_15_code 0 = .ok (.iload_n 1, 1) := by decide +kernel
theorem d8_1 : decode jdk_52_method_15_code 1 = .ok (.aload_n 0, 1) := by decide +kernel
theorem d8_2 : decode jdk_52_method_15_code 2 = .ok (.arraylength, 1) := by decide +kernel
theorem d8_3 : decode jdk_52_method_15_code 3 = .ok (.isub, 1) := by decide +kernel
theorem d8_4 : decode jdk_52_method_15_code 4 = .ok (.bipush 31, 2) := by decide +kernel
theorem d8_6 : decode jdk_52_method_15_code 6 = .ok (.iushr, 1) := by decide +kernel
theorem d8_7 : decode jdk_52_method_15_code 7 = .ok (.i2b, 1) := by decide +kernel
theorem d8_8 : decode jdk_52_method_15_code 8 = .ok (.ireturn, 1) := by decide +kernel
set_option maxRecDepth 65536 in
set_option maxHeartbeats 40000000 in
theorem sm3 (l : Launch) (Z : State) (a0 : Array Value) (hw : ∀ d ∈ tables_1, d.before a0 Z = true) (t : Addr) (N : Nat) (g_ : Nat → Value) (h0 : Heap) (n0 : Nat) (F : OArr Z h0 t .byte N g_) :
    OMeets l Z (⟨"java/lang/StringUTF16", "coderFromArrayLen", "([BI)B"⟩ : MethodName) [] jdk_52_method_15_code 2 (some .byte) ({ frames := 0, cells := 0, slots := 0, locals := 0 } : Room) #[(.ref t), (.int (Int32.ofNat N))] h0 n0 (fun v h => v = some (.int 0) ∧ h0 = h) := by
  refine o_enter (Z := Z) (plainFor_of_name pn_java_lang_StringUTF16) ?_
  intro p e s m below meth c T0 X0
  refine OFin.cast (g' := (mkF m 0 #[.val (.ref t), .val (.int (Int32.ofNat N))] [])) (by first | (simp [entryFrame, mkF, argsToLocals, Value.category]; done) | rfl) ?_
  obtain ⟨c1, A1, S1, H1⟩ := id F
  refine X0.step (fun hA hx hq t_ k_ => XS.iloadN hA hx rfl (hb hq d8_0) rfl k_) ?_
  show OFin _ _ _ _ _ _ T0 (mkF m 1 #[.val (.ref t), .val (.int (Int32.ofNat N))] [(.int (Int32.ofNat N))])
  refine X0.step (fun hA hx hq t_ k_ => XS.aloadN hA hx rfl (hb hq d8_1) rfl rfl k_) ?_
  show OFin _ _ _ _ _ _ T0 (mkF m 2 #[.val (.ref t), .val (.int (Int32.ofNat N))] [(.ref t), (.int (Int32.ofNat N))])
  refine X0.alen A1 (n := (Int32.ofNat N)) (by rw [S1]) (g := (mkF m 2 #[.val (.ref t), .val (.int (Int32.ofNat N))] [(.ref t), (.int (Int32.ofNat N))])) rfl rfl d8_2 ?_
  show OFin _ _ _ _ _ _ T0 (mkF m 3 #[.val (.ref t), .val (.int (Int32.ofNat N))] [(.int (Int32.ofNat N)), (.int (Int32.ofNat N))])
  refine X0.step (fun hA hx hq t_ k_ => XS.isub hA hx rfl (hb hq d8_3) rfl k_) ?_
  show OFin _ _ _ _ _ _ T0 (mkF m 4 #[.val (.ref t), .val (.int (Int32.ofNat N))] [(.int ((Int32.ofNat N) - (Int32.ofNat N)))])
  refine X0.step (fun hA hx hq t_ k_ => XS.bipush hA hx rfl (hb hq d8_4) k_) ?_
  show OFin _ _ _ _ _ _ T0 (mkF m 6 #[.val (.ref t), .val (.int (Int32.ofNat N))] [(.int (31 : Int32)), (.int ((Int32.ofNat N) - (Int32.ofNat N)))])
  refine X0.step (fun hA hx hq t_ k_ => XS.iushr hA hx rfl (hb hq d8_6) rfl k_) ?_
  show OFin _ _ _ _ _ _ T0 (mkF m 7 #[.val (.ref t), .val (.int (Int32.ofNat N))] [(.int ((((Int32.ofNat N) - (Int32.ofNat N)).toUInt32 >>> ((31 : Int32) &&& 31).toUInt32).toInt32))])
  refine X0.step (fun hA hx hq t_ k_ => XS.i2b hA hx rfl (hb hq d8_7) rfl k_) ?_
  show OFin _ _ _ _ _ _ T0 (mkF m 8 #[.val (.ref t), .val (.int (Int32.ofNat N))] [(.int (((((Int32.ofNat N) - (Int32.ofNat N)).toUInt32 >>> ((31 : Int32) &&& 31).toUInt32).toInt32).toInt8.toInt32))])
  exact X0.retN (by simp) d8_8 (oN (by decide) (by decide)) (⟨by rw [own_sub0]; rfl, rfl⟩)
theorem pn_java_lang_String : plainName "java/lang/String" = true := by first | (simp [plainName, overriddenIn]; done) | decide +kernel
theorem d4_0 : decode jdk_42_method_149_code 0 = .ok (.aload_n 0, 1) := by decide +kernel
theorem d4_1 : decode jdk_42_method_149_code 1 = .ok (.invokespecial 1, 3) := by decide +kernel
theorem d4_4 : decode jdk_42_method_149_code 4 = .ok (.iload_n 3, 1) := by decide +kernel
theorem d4_5 : decode jdk_42_method_149_code 5 = .ok (.ifCond .ne 22, 3) := by decide +kernel
theorem d4_27 : decode jdk_42_method_149_code 27 = .ok (.getstatic 38, 3) := by decide +kernel
theorem d4_30 : decode jdk_42_method_149_code 30 = .ok (.ifCond .eq 28, 3) := by decide +kernel
theorem d4_33 : decode jdk_42_method_149_code 33 = .ok (.aload_n 1, 1) := by decide +kernel
theorem d4_34 : decode jdk_42_method_149_code 34 = .ok (.iload_n 2, 1) := by decide +kernel
theorem d4_35 : decode jdk_42_method_149_code 35 = .ok (.iload_n 3, 1) := by decide +kernel
theorem d4_36 : decode jdk_42_method_149_code 36 = .ok (.invokestatic 177, 3) := by decide +kernel
theorem pd_pA_CIIr_A_B : parseMethodDescriptor "([CII)[B" = some ⟨[(.array .char), .int, .int], some (.array .byte)⟩ := by decide +kernel
theorem d4_39 : decode jdk_42_method_149_code 39 = .ok (.astore 5, 2) := by decide +kernel
theorem d4_41 : decode jdk_42_method_149_code 41 = .ok (.aload_n 0, 1) := by decide +kernel
theorem d4_42 : decode jdk_42_method_149_code 42 = .ok (.aload 5, 2) := by decide +kernel
theorem d4_44 : decode jdk_42_method_149_code 44 = .ok (.iload_n 3, 1) := by decide +kernel
theorem d4_45 : decode jdk_42_method_149_code 45 = .ok (.invokestatic 47, 3) := by decide +kernel
theorem pd_pA_BIr_B : parseMethodDescriptor "([BI)B" = some ⟨[(.array .byte), .int], some .byte⟩ := by decide +kernel
theorem d4_48 : decode jdk_42_method_149_code 48 = .ok (.putfield 15, 3) := by decide +kernel
theorem d4_51 : decode jdk_42_method_149_code 51 = .ok (.aload_n 0, 1) := by decide +kernel
theorem d4_52 : decode jdk_42_method_149_code 52 = .ok (.aload 5, 2) := by decide +kernel
theorem d4_54 : decode jdk_42_method_149_code 54 = .ok (.putfield 9, 3) := by decide +kernel
theorem d4_57 : decode jdk_42_method_149_code 57 = .ok (.return_, 1) := by decide +kernel
set_option maxRecDepth 65536 in
set_option maxHeartbeats 40000000 in
theorem sm4 (l : Launch) (Z : State) (a0 : Array Value) (hw : ∀ d ∈ tables_1, d.before a0 Z = true) (a1 ca : Addr) (N : Nat) (f : Nat → Int32) (cs : Int32) (h0 : Heap) (n0 : Nat) (F1 : Fld Z h0 a1 "java/lang/String" "value" "[B" .null) (F2 : Fld Z h0 a1 "java/lang/String" "coder" "B" (.int 0)) (E : Exa Z h0 a1 "java/lang/String") (hn : n0 ≤ a1) (FC : OArr Z h0 ca .char N (fun j => .int (f j))) (hN0 : 0 < N) (hN : N ≤ 6) (hch : ∀ j, j < N → 0 ≤ (f j).toInt ∧ (f j).toInt ≤ 255) (Z0 : n0 ≤ h0.size) (SS : Sta Z h0 "java/lang/String" "COMPACT_STRINGS" "Z" (.int cs)) (hcs : ¬ cs = 0) :
    OMeets l Z (⟨"java/lang/String", "<init>", "([CIILjava/lang/Void;)V"⟩ : MethodName) [] jdk_42_method_149_code 6 none ({ frames := 2, cells := 1, slots := 6, locals := 35 } : Room) #[(.ref a1), (.ref ca), (.int (0 : Int32)), (.int (Int32.ofNat N)), .null] h0 n0 (fun v h => v = none ∧ Keep h0 h [a1] ∧ ∃ t, OStr Z h a1 t N f ∧ h0.size ≤ t) := by
  refine o_enter (Z := Z) (plainFor_of_name pn_java_lang_String) ?_
  intro p e s m below meth c T0 X0
  refine OFin.cast (g' := (mkF m 0 #[.val (.ref a1), .val (.ref ca), .val (.int (0 : Int32)), .val (.int (Int32.ofNat N)), .val .null, .unset] [])) (by first | (simp [entryFrame, mkF, argsToLocals, Value.category]; done) | rfl) ?_
  have sne := (slot_ne (Or.inr (hw _ (List.mem_of_getElem? (i := 39) rfl))) (Or.inr (hw _ (List.mem_of_getElem? (i := 37) rfl))) (by decide) (t := (.array .byte)) (t' := .byte) (by decide) (by decide))
  refine X0.step (fun hA hx hq t_ k_ => XS.aloadN hA hx rfl (hb hq d4_0) rfl rfl k_) ?_
  show OFin _ _ _ _ _ _ T0 (mkF m 1 #[.val (.ref a1), .val (.ref ca), .val (.int (0 : Int32)), .val (.int (Int32.ofNat N)), .val .null, .unset] [(.ref a1)])
  refine X0.initO (hw _ (List.mem_of_getElem? (i := 21) rfl)) (hw _ (List.mem_of_getElem? (i := 22) rfl)) (hw _ (List.mem_of_getElem? (i := 23) rfl)) (g := (mkF m 1 #[.val (.ref a1), .val (.ref ca), .val (.int (0 : Int32)), .val (.int (Int32.ofNat N)), .val .null, .unset] [(.ref a1)])) rfl rfl rfl d4_1 (by decide) (W := 0) (by show 2 * 0 + _ ≤ _; exact Nat.le_of_eq rfl) (by decide) ?_
  intro T1 X1
  show OFin _ _ _ _ _ _ T1 (mkF m 4 #[.val (.ref a1), .val (.ref ca), .val (.int (0 : Int32)), .val (.int (Int32.ofNat N)), .val .null, .unset] [])
  refine X1.step (fun hA hx hq t_ k_ => XS.iloadN hA hx rfl (hb hq d4_4) rfl k_) ?_
  show OFin _ _ _ _ _ _ T1 (mkF m 5 #[.val (.ref a1), .val (.ref ca), .val (.int (0 : Int32)), .val (.int (Int32.ofNat N)), .val .null, .unset] [(.int (Int32.ofNat N))])
  refine X1.step (fun hA hx hq t_ k_ => XS.ifYes hA hx rfl (pc0 := 5) (pc' := 27) rfl (hb hq d4_5) rfl ((if0 _ _).trans (feq (fun q => by have := (own_eq32 N 0 (by omega) (by decide)).mp q; omega)).2) (by decide) (by decide) k_) ?_
  show OFin _ _ _ _ _ _ T1 (mkF m 27 #[.val (.ref a1), .val (.ref ca), .val (.int (0 : Int32)), .val (.int (Int32.ofNat N)), .val .null, .unset] [])
  refine X1.getS (hw _ (List.mem_of_getElem? (i := 24) rfl)) SS (g := (mkF m 27 #[.val (.ref a1), .val (.ref ca), .val (.int (0 : Int32)), .val (.int (Int32.ofNat N)), .val .null, .unset] [])) rfl d4_27 ?_
  intro T2 X2
  show OFin _ _ _ _ _ _ T2 (mkF m 30 #[.val (.ref a1), .val (.ref ca), .val (.int (0 : Int32)), .val (.int (Int32.ofNat N)), .val .null, .unset] [(.int cs)])
  refine X2.step (fun hA hx hq t_ k_ => XS.ifNo hA hx rfl (hb hq d4_30) rfl ((if0 _ _).trans (feq (hcs)).1) k_) ?_
  show OFin _ _ _ _ _ _ T2 (mkF m 33 #[.val (.ref a1), .val (.ref ca), .val (.int (0 : Int32)), .val (.int (Int32.ofNat N)), .val .null, .unset] [])
  refine X2.step (fun hA hx hq t_ k_ => XS.aloadN hA hx rfl (hb hq d4_33) rfl rfl k_) ?_
  show OFin _ _ _ _ _ _ T2 (mkF m 34 #[.val (.ref a1), .val (.ref ca), .val (.int (0 : Int32)), .val (.int (Int32.ofNat N)), .val .null, .unset] [(.ref ca)])
  refine X2.step (fun hA hx hq t_ k_ => XS.iloadN hA hx rfl (hb hq d4_34) rfl k_) ?_
  show OFin _ _ _ _ _ _ T2 (mkF m 35 #[.val (.ref a1), .val (.ref ca), .val (.int (0 : Int32)), .val (.int (Int32.ofNat N)), .val .null, .unset] [(.int (0 : Int32)), (.ref ca)])
  refine X2.step (fun hA hx hq t_ k_ => XS.iloadN hA hx rfl (hb hq d4_35) rfl k_) ?_
  show OFin _ _ _ _ _ _ T2 (mkF m 36 #[.val (.ref a1), .val (.ref ca), .val (.int (0 : Int32)), .val (.int (Int32.ofNat N)), .val .null, .unset] [(.int (Int32.ofNat N)), (.int (0 : Int32)), (.ref ca)])
  refine X2.callS (y' := (⟨"java/lang/StringUTF16", "compress", "([CII)[B"⟩ : MethodName)) (hw _ (List.mem_of_getElem? (i := 25) rfl)) (hw _ (List.mem_of_getElem? (i := 26) rfl)) (hw _ (List.mem_of_getElem? (i := 27) rfl)) (hw _ (List.mem_of_getElem? (i := 28) rfl)) (by decide) (argsL := [(.ref ca), (.int (0 : Int32)), (.int (Int32.ofNat N))]) (rest := []) (sm2 l Z a0 hw ca N f h0 n0 FC hN hch Z0) (g := (mkF m 36 #[.val (.ref a1), .val (.ref ca), .val (.int (0 : Int32)), .val (.int (Int32.ofNat N)), .val .null, .unset] [(.int (Int32.ofNat N)), (.int (0 : Int32)), (.ref ca)])) rfl rfl pd_pA_CIIr_A_B rfl rfl (W := 0) (by show 2 * 0 + _ ≤ _; exact Nat.le_of_eq rfl) d4_36 (by decide) (by decide) (by decide) (by decide) ?_
  intro v3 T3 h3 X3 q3
  obtain ⟨t, rfl, K3, B3, lt3⟩ := q3
  show OFin _ _ _ _ _ _ T3 (mkF m 39 #[.val (.ref a1), .val (.ref ca), .val (.int (0 : Int32)), .val (.int (Int32.ofNat N)), .val .null, .unset] [(.ref t)])
  refine X3.step (fun hA hx hq t_ k_ => XS.astore hA hx rfl (hb hq d4_39) rfl rfl (l' := #[.val (.ref a1), .val (.ref ca), .val (.int (0 : Int32)), .val (.int (Int32.ofNat N)), .val .null, .val (.ref t)]) rfl k_) ?_
  show OFin _ _ _ _ _ _ T3 (mkF m 41 #[.val (.ref a1), .val (.ref ca), .val (.int (0 : Int32)), .val (.int (Int32.ofNat N)), .val .null, .val (.ref t)] [])
  refine X3.step (fun hA hx hq t_ k_ => XS.aloadN hA hx rfl (hb hq d4_41) rfl rfl k_) ?_
  show OFin _ _ _ _ _ _ T3 (mkF m 42 #[.val (.ref a1), .val (.ref ca), .val (.int (0 : Int32)), .val (.int (Int32.ofNat N)), .val .null, .val (.ref t)] [(.ref a1)])
  refine X3.step (fun hA hx hq t_ k_ => XS.aload hA hx rfl (hb hq d4_42) rfl rfl k_) ?_
  show OFin _ _ _ _ _ _ T3 (mkF m 44 #[.val (.ref a1), .val (.ref ca), .val (.int (0 : Int32)), .val (.int (Int32.ofNat N)), .val .null, .val (.ref t)] [(.ref t), (.ref a1)])
  refine X3.step (fun hA hx hq t_ k_ => XS.iloadN hA hx rfl (hb hq d4_44) rfl k_) ?_
  show OFin _ _ _ _ _ _ T3 (mkF m 45 #[.val (.ref a1), .val (.ref ca), .val (.int (0 : Int32)), .val (.int (Int32.ofNat N)), .val .null, .val (.ref t)] [(.int (Int32.ofNat N)), (.ref t), (.ref a1)])
  refine X3.callS (y' := (⟨"java/lang/StringUTF16", "coderFromArrayLen", "([BI)B"⟩ : MethodName)) (hw _ (List.mem_of_getElem? (i := 33) rfl)) (hw _ (List.mem_of_getElem? (i := 34) rfl)) (hw _ (List.mem_of_getElem? (i := 27) rfl)) (hw _ (List.mem_of_getElem? (i := 35) rfl)) (by decide) (argsL := [(.ref t), (.int (Int32.ofNat N))]) (rest := [(.ref a1)]) (sm3 l Z a0 hw t N _ h3 n0 B3) (g := (mkF m 45 #[.val (.ref a1), .val (.ref ca), .val (.int (0 : Int32)), .val (.int (Int32.ofNat N)), .val .null, .val (.ref t)] [(.int (Int32.ofNat N)), (.ref t), (.ref a1)])) rfl rfl pd_pA_BIr_B rfl rfl (W := 1) (by show 2 * 0 + _ ≤ _; exact Nat.le_of_eq rfl) d4_45 (by decide) (by decide) (by decide) (by decide) ?_
  intro v4 T4 h4 X4 q4
  obtain ⟨rfl, rfl⟩ := q4
  show OFin _ _ _ _ _ _ T4 (mkF m 48 #[.val (.ref a1), .val (.ref ca), .val (.int (0 : Int32)), .val (.int (Int32.ofNat N)), .val .null, .val (.ref t)] [(.int (0 : Int32)), (.ref a1)])
  have ta : t ≠ a1 := Nat.ne_of_gt (Nat.lt_of_lt_of_le E.lt lt3)
  refine X4.putF (hw _ (List.mem_of_getElem? (i := 36) rfl)) (F2.keep K3 nin0) (E.keep K3) (Or.inr ⟨(hw _ (List.mem_of_getElem? (i := 37) rfl)), rfl, rfl⟩) (hw _ (List.mem_of_getElem? (i := 12) rfl)) (ty := .byte) (by decide) rfl rfl hn (g := (mkF m 48 #[.val (.ref a1), .val (.ref ca), .val (.int (0 : Int32)), .val (.int (Int32.ofNat N)), .val .null, .val (.ref t)] [(.int (0 : Int32)), (.ref a1)])) rfl rfl d4_48 ?_
  intro T5 h5 X5 W5
  show OFin _ _ _ _ _ _ T5 (mkF m 51 #[.val (.ref a1), .val (.ref ca), .val (.int (0 : Int32)), .val (.int (Int32.ofNat N)), .val .null, .val (.ref t)] [])
  refine X5.step (fun hA hx hq t_ k_ => XS.aloadN hA hx rfl (hb hq d4_51) rfl rfl k_) ?_
  show OFin _ _ _ _ _ _ T5 (mkF m 52 #[.val (.ref a1), .val (.ref ca), .val (.int (0 : Int32)), .val (.int (Int32.ofNat N)), .val .null, .val (.ref t)] [(.ref a1)])
  refine X5.step (fun hA hx hq t_ k_ => XS.aload hA hx rfl (hb hq d4_52) rfl rfl k_) ?_
  show OFin _ _ _ _ _ _ T5 (mkF m 54 #[.val (.ref a1), .val (.ref ca), .val (.int (0 : Int32)), .val (.int (Int32.ofNat N)), .val .null, .val (.ref t)] [(.ref t), (.ref a1)])
  refine X5.putF (hw _ (List.mem_of_getElem? (i := 38) rfl)) ((F1.keep K3 nin0).other W5 (Or.inr sne)) ((E.keep K3).wr W5) (Or.inr ⟨(hw _ (List.mem_of_getElem? (i := 39) rfl)), rfl, rfl⟩) (hw _ (List.mem_of_getElem? (i := 12) rfl)) (ty := (.array .byte)) (by decide) rfl rfl hn (g := (mkF m 54 #[.val (.ref a1), .val (.ref ca), .val (.int (0 : Int32)), .val (.int (Int32.ofNat N)), .val .null, .val (.ref t)] [(.ref t), (.ref a1)])) rfl rfl d4_54 ?_
  intro T6 h6 X6 W6
  show OFin _ _ _ _ _ _ T6 (mkF m 57 #[.val (.ref a1), .val (.ref ca), .val (.int (0 : Int32)), .val (.int (Int32.ofNat N)), .val .null, .val (.ref t)] [])
  exact X6.retV d4_57 (oN (by decide) (by decide)) (⟨rfl, (((Keep.refl h0 [a1]).trans K3 all0).wr W5 (Or.inl (List.mem_of_getElem? (i := 0) rfl))).wr W6 (Or.inl (List.mem_of_getElem? (i := 0) rfl)), t, ⟨((E.keep K3).wr W5).wr W6, ((F2.keep K3 nin0).same W5).other W6 (Or.inr (Ne.symm sne)), ((F1.keep K3 nin0).other W5 (Or.inr sne)).same W6, (B3.other W5 ta).other W6 ta⟩, lt3⟩)
theorem d3_0 : decode jdk_42_method_3_code 0 = .ok (.aload_n 0, 1) := by decide +kernel
theorem d3_1 : decode jdk_42_method_3_code 1 = .ok (.aload_n 1, 1) := by decide +kernel
theorem d3_2 : decode jdk_42_method_3_code 2 = .ok (.iconst 0, 1) := by decide +kernel
theorem d3_3 : decode jdk_42_method_3_code 3 = .ok (.aload_n 1, 1) := by decide +kernel
theorem d3_4 : decode jdk_42_method_3_code 4 = .ok (.arraylength, 1) := by decide +kernel
theorem d3_5 : decode jdk_42_method_3_code 5 = .ok (.aconst_null, 1) := by decide +kernel
theorem d3_6 : decode jdk_42_method_3_code 6 = .ok (.invokespecial 27, 3) := by decide +kernel
theorem pd_pA_CIILjava_lang_Void_r_V : parseMethodDescriptor "([CIILjava/lang/Void;)V" = some ⟨[(.array .char), .int, .int, (.object "java/lang/Void")], none⟩ := by decide +kernel
theorem d3_9 : decode jdk_42_method_3_code 9 = .ok (.return_, 1) := by decide +kernel
set_option maxRecDepth 65536 in
set_option maxHeartbeats 40000000 in
theorem sm5 (l : Launch) (Z : State) (a0 : Array Value) (hw : ∀ d ∈ tables_1, d.before a0 Z = true) (a1 ca : Addr) (N : Nat) (f : Nat → Int32) (cs : Int32) (h0 : Heap) (n0 : Nat) (F1 : Fld Z h0 a1 "java/lang/String" "value" "[B" .null) (F2 : Fld Z h0 a1 "java/lang/String" "coder" "B" (.int 0)) (E : Exa Z h0 a1 "java/lang/String") (hn : n0 ≤ a1) (FC : OArr Z h0 ca .char N (fun j => .int (f j))) (hN0 : 0 < N) (hN : N ≤ 6) (hch : ∀ j, j < N → 0 ≤ (f j).toInt ∧ (f j).toInt ≤ 255) (Z0 : n0 ≤ h0.size) (SS : Sta Z h0 "java/lang/String" "COMPACT_STRINGS" "Z" (.int cs)) (hcs : ¬ cs = 0) :
    OMeets l Z (⟨"java/lang/String", "<init>", "([C)V"⟩ : MethodName) [] jdk_42_method_3_code 2 none ({ frames := 3, cells := 1, slots := 6, locals := 52 } : Room) #[(.ref a1), (.ref ca)] h0 n0 (fun v h => v = none ∧ Keep h0 h [a1] ∧ ∃ t, OStr Z h a1 t N f ∧ h0.size ≤ t) := by
  refine o_enter (Z := Z) (plainFor_of_name pn_java_lang_String) ?_
  intro p e s m below meth c T0 X0
  refine OFin.cast (g' := (mkF m 0 #[.val (.ref a1), .val (.ref ca)] [])) (by first | (simp [entryFrame, mkF, argsToLocals, Value.category]; done) | rfl) ?_
  obtain ⟨c1, A1, S1, H1⟩ := id FC
  refine X0.step (fun hA hx hq t_ k_ => XS.aloadN hA hx rfl (hb hq d3_0) rfl rfl k_) ?_
  show OFin _ _ _ _ _ _ T0 (mkF m 1 #[.val (.ref a1), .val (.ref ca)] [(.ref a1)])
  refine X0.step (fun hA hx hq t_ k_ => XS.aloadN hA hx rfl (hb hq d3_1) rfl rfl k_) ?_
  show OFin _ _ _ _ _ _ T0 (mkF m 2 #[.val (.ref a1), .val (.ref ca)] [(.ref ca), (.ref a1)])
  refine X0.step (fun hA hx hq t_ k_ => XS.iconst hA hx rfl (hb hq d3_2) k_) ?_
  show OFin _ _ _ _ _ _ T0 (mkF m 3 #[.val (.ref a1), .val (.ref ca)] [(.int (0 : Int32)), (.ref ca), (.ref a1)])
  refine X0.step (fun hA hx hq t_ k_ => XS.aloadN hA hx rfl (hb hq d3_3) rfl rfl k_) ?_
  show OFin _ _ _ _ _ _ T0 (mkF m 4 #[.val (.ref a1), .val (.ref ca)] [(.ref ca), (.int (0 : Int32)), (.ref ca), (.ref a1)])
  refine X0.alen A1 (n := (Int32.ofNat N)) (by rw [S1]) (g := (mkF m 4 #[.val (.ref a1), .val (.ref ca)] [(.ref ca), (.int (0 : Int32)), (.ref ca), (.ref a1)])) rfl rfl d3_4 ?_
  show OFin _ _ _ _ _ _ T0 (mkF m 5 #[.val (.ref a1), .val (.ref ca)] [(.int (Int32.ofNat N)), (.int (0 : Int32)), (.ref ca), (.ref a1)])
  refine X0.step (fun hA hx hq t_ k_ => XS.aconstNull hA hx rfl (hb hq d3_5) k_) ?_
  show OFin _ _ _ _ _ _ T0 (mkF m 6 #[.val (.ref a1), .val (.ref ca)] [.null, (.int (Int32.ofNat N)), (.int (0 : Int32)), (.ref ca), (.ref a1)])
  refine X0.callI (y' := (⟨"java/lang/String", "<init>", "([CIILjava/lang/Void;)V"⟩ : MethodName)) rfl (hw _ (List.mem_of_getElem? (i := 17) rfl)) (hw _ (List.mem_of_getElem? (i := 18) rfl)) (hw _ (List.mem_of_getElem? (i := 13) rfl)) (hw _ (List.mem_of_getElem? (i := 20) rfl)) (by decide) (a := a1) (argsL := [(.ref ca), (.int (0 : Int32)), (.int (Int32.ofNat N)), .null]) (rest := []) (sm4 l Z a0 hw a1 ca N f cs h0 n0 F1 F2 E hn FC hN0 hN hch Z0 SS hcs) (g := (mkF m 6 #[.val (.ref a1), .val (.ref ca)] [.null, (.int (Int32.ofNat N)), (.int (0 : Int32)), (.ref ca), (.ref a1)])) rfl rfl pd_pA_CIILjava_lang_Void_r_V rfl rfl (W := 0) (by show 2 * 0 + _ ≤ _; exact Nat.le_of_eq rfl) d3_6 (by decide) (by decide) (by decide) (by decide) ?_
  intro v1 T1 h1 X1 q1
  obtain ⟨rfl, K1, t, S1, lt1⟩ := q1
  show OFin _ _ _ _ _ _ T1 (mkF m 9 #[.val (.ref a1), .val (.ref ca)] [])
  exact X1.retV d3_9 (oN (by decide) (by decide)) (⟨rfl, K1, t, S1, lt1⟩)
theorem d4_8 : decode jdk_42_method_149_code 8 = .ok (.aload_n 0, 1) := by decide +kernel
theorem d4_9 : decode jdk_42_method_149_code 9 = .ok (.ldc 7, 2) := by decide +kernel
theorem d4_11 : decode jdk_42_method_149_code 11 = .ok (.getfield 9, 3) := by decide +kernel
theorem d4_14 : decode jdk_42_method_149_code 14 = .ok (.putfield 9, 3) := by decide +kernel
theorem d4_17 : decode jdk_42_method_149_code 17 = .ok (.aload_n 0, 1) := by decide +kernel
theorem d4_18 : decode jdk_42_method_149_code 18 = .ok (.ldc 7, 2) := by decide +kernel
theorem d4_20 : decode jdk_42_method_149_code 20 = .ok (.getfield 15, 3) := by decide +kernel
theorem d4_23 : decode jdk_42_method_149_code 23 = .ok (.putfield 15, 3) := by decide +kernel
theorem d4_26 : decode jdk_42_method_149_code 26 = .ok (.return_, 1) := by decide +kernel
set_option maxRecDepth 65536 in
set_option maxHeartbeats 40000000 in
theorem sm4e (l : Launch) (Z : State) (a0 : Array Value) (hw : ∀ d ∈ tables_1, d.before a0 Z = true) (a1 ca : Addr) (f : Nat → Int32) (h0 : Heap) (n0 : Nat) (F1 : Fld Z h0 a1 "java/lang/String" "value" "[B" .null) (F2 : Fld Z h0 a1 "java/lang/String" "coder" "B" (.int 0)) (E : Exa Z h0 a1 "java/lang/String") (hn : n0 ≤ a1) :
    OMeetsW l Z own_EL (⟨"java/lang/String", "<init>", "([CIILjava/lang/Void;)V"⟩ : MethodName) [] jdk_42_method_149_code 6 none ({ frames := 1, cells := 4, slots := 8, locals := 12 } : Room) #[(.ref a1), (.ref ca), (.int (0 : Int32)), (.int (0 : Int32)), .null] h0 n0 (fun v h => v = none ∧ Keep h0 h [a1] ∧ ∃ t, OStr Z h a1 t 0 f) := by
  refine o_enterW (Z := Z) (own_EW hw) (plainFor_of_name pn_java_lang_String) ?_
  intro p e s m below meth c T0 X0 B0
  refine OFin.cast (g' := (mkF m 0 #[.val (.ref a1), .val (.ref ca), .val (.int (0 : Int32)), .val (.int (0 : Int32)), .val .null, .unset] [])) (by first | (simp [entryFrame, mkF, argsToLocals, Value.category]; done) | rfl) ?_
  have sne := (slot_ne (Or.inr (hw _ (List.mem_of_getElem? (i := 39) rfl))) (Or.inr (hw _ (List.mem_of_getElem? (i := 37) rfl))) (by decide) (t := (.array .byte)) (t' := .byte) (by decide) (by decide))
  refine X0.step (fun hA hx hq t_ k_ => XS.aloadN hA hx rfl (hb hq d4_0) rfl rfl k_) ?_
  show OFin _ _ _ _ _ _ T0 (mkF m 1 #[.val (.ref a1), .val (.ref ca), .val (.int (0 : Int32)), .val (.int (0 : Int32)), .val .null, .unset] [(.ref a1)])
  refine X0.initO (hw _ (List.mem_of_getElem? (i := 21) rfl)) (hw _ (List.mem_of_getElem? (i := 22) rfl)) (hw _ (List.mem_of_getElem? (i := 23) rfl)) (g := (mkF m 1 #[.val (.ref a1), .val (.ref ca), .val (.int (0 : Int32)), .val (.int (0 : Int32)), .val .null, .unset] [(.ref a1)])) rfl rfl rfl d4_1 (by decide) (W := 0) (by show 2 * 0 + _ ≤ _; exact Nat.le_of_eq rfl) (by decide) ?_
  intro T1 X1
  show OFin _ _ _ _ _ _ T1 (mkF m 4 #[.val (.ref a1), .val (.ref ca), .val (.int (0 : Int32)), .val (.int (0 : Int32)), .val .null, .unset] [])
  refine X1.step (fun hA hx hq t_ k_ => XS.iloadN hA hx rfl (hb hq d4_4) rfl k_) ?_
  show OFin _ _ _ _ _ _ T1 (mkF m 5 #[.val (.ref a1), .val (.ref ca), .val (.int (0 : Int32)), .val (.int (0 : Int32)), .val .null, .unset] [(.int (0 : Int32))])
  refine X1.step (fun hA hx hq t_ k_ => XS.ifNo hA hx rfl (hb hq d4_5) rfl ((if0 _ _).trans (teq ((rfl : (0 : Int32) = (0 : Int32)))).2) k_) ?_
  show OFin _ _ _ _ _ _ T1 (mkF m 8 #[.val (.ref a1), .val (.ref ca), .val (.int (0 : Int32)), .val (.int (0 : Int32)), .val .null, .unset] [])
  refine X1.step (fun hA hx hq t_ k_ => XS.aloadN hA hx rfl (hb hq d4_8) rfl rfl k_) ?_
  show OFin _ _ _ _ _ _ T1 (mkF m 9 #[.val (.ref a1), .val (.ref ca), .val (.int (0 : Int32)), .val (.int (0 : Int32)), .val .null, .unset] [(.ref a1)])
  refine X1.ldcC B0 (hw _ (List.mem_of_getElem? (i := 126) rfl)) (own_wS hw) (by decide) (vs := []) (z := 0) ⟨by decide, rfl⟩ (by decide) (by decide) (g := (mkF m 9 #[.val (.ref a1), .val (.ref ca), .val (.int (0 : Int32)), .val (.int (0 : Int32)), .val .null, .unset] [(.ref a1)])) rfl d4_9 (n := 0) (by decide) (by decide) (by decide) (by decide) ?_
  intro b2 t2 cA2 T2 h2 vm2 X2 B2 E2 Sf2 A2 Fc2 Fv2 V2 Ne2
  show OFin _ _ _ _ _ _ T2 (mkF m 11 #[.val (.ref a1), .val (.ref ca), .val (.int (0 : Int32)), .val (.int (0 : Int32)), .val .null, .unset] [(.ref b2), (.ref a1)])
  have S1 := own_safeNull (EL := own_EL) X2.1.2.1.alike (E.ext E2) (F1.ext E2)
  have na := Ne2 a1 S1
  refine X2.getF (hw _ (List.mem_of_getElem? (i := 38) rfl)) Fv2 (g := (mkF m 11 #[.val (.ref a1), .val (.ref ca), .val (.int (0 : Int32)), .val (.int (0 : Int32)), .val .null, .unset] [(.ref b2), (.ref a1)])) rfl rfl d4_11 ?_
  intro T3 X3
  show OFin _ _ _ _ _ _ T3 (mkF m 14 #[.val (.ref a1), .val (.ref ca), .val (.int (0 : Int32)), .val (.int (0 : Int32)), .val .null, .unset] [(.ref t2), (.ref a1)])
  refine X3.putF (hw _ (List.mem_of_getElem? (i := 38) rfl)) (F1.ext E2) (E.ext E2) (Or.inr ⟨(hw _ (List.mem_of_getElem? (i := 39) rfl)), rfl, rfl⟩) (hw _ (List.mem_of_getElem? (i := 12) rfl)) (ty := (.array .byte)) (by decide) rfl rfl hn (g := (mkF m 14 #[.val (.ref a1), .val (.ref ca), .val (.int (0 : Int32)), .val (.int (0 : Int32)), .val .null, .unset] [(.ref t2), (.ref a1)])) rfl rfl d4_14 ?_
  intro T4 h4 X4 W4
  have B5 := B2.wr W4 S1
  show OFin _ _ _ _ _ _ T4 (mkF m 17 #[.val (.ref a1), .val (.ref ca), .val (.int (0 : Int32)), .val (.int (0 : Int32)), .val .null, .unset] [])
  have S2 := Safe.wr W4 S1 B2.hv S1
  refine X4.step (fun hA hx hq t_ k_ => XS.aloadN hA hx rfl (hb hq d4_17) rfl rfl k_) ?_
  show OFin _ _ _ _ _ _ T4 (mkF m 18 #[.val (.ref a1), .val (.ref ca), .val (.int (0 : Int32)), .val (.int (0 : Int32)), .val .null, .unset] [(.ref a1)])
  refine X4.ldcC B5 (hw _ (List.mem_of_getElem? (i := 126) rfl)) (own_wS hw) (by decide) (vs := []) (z := 0) ⟨by decide, rfl⟩ (by decide) (by decide) (g := (mkF m 18 #[.val (.ref a1), .val (.ref ca), .val (.int (0 : Int32)), .val (.int (0 : Int32)), .val .null, .unset] [(.ref a1)])) rfl d4_18 (n := 0) (by decide) (by decide) (by decide) (by decide) ?_
  intro b6 t6 cA6 T6 h6 vm6 X6 B6 E6 Sf6 A6 Fc6 Fv6 V6 Ne6
  show OFin _ _ _ _ _ _ T6 (mkF m 20 #[.val (.ref a1), .val (.ref ca), .val (.int (0 : Int32)), .val (.int (0 : Int32)), .val .null, .unset] [(.ref b6), (.ref a1)])
  have S3 := Sf6 a1 ((E.ext E2).wr W4).lt S2
  refine X6.getF (hw _ (List.mem_of_getElem? (i := 36) rfl)) Fc6 (g := (mkF m 20 #[.val (.ref a1), .val (.ref ca), .val (.int (0 : Int32)), .val (.int (0 : Int32)), .val .null, .unset] [(.ref b6), (.ref a1)])) rfl rfl d4_20 ?_
  intro T7 X7
  show OFin _ _ _ _ _ _ T7 (mkF m 23 #[.val (.ref a1), .val (.ref ca), .val (.int (0 : Int32)), .val (.int (0 : Int32)), .val .null, .unset] [(.int (0 : Int32)), (.ref a1)])
  refine X7.putF (hw _ (List.mem_of_getElem? (i := 36) rfl)) (((F2.ext E2).other W4 (Or.inr (Ne.symm sne))).ext E6) (((E.ext E2).wr W4).ext E6) (Or.inr ⟨(hw _ (List.mem_of_getElem? (i := 37) rfl)), rfl, rfl⟩) (hw _ (List.mem_of_getElem? (i := 12) rfl)) (ty := .byte) (by decide) rfl rfl hn (g := (mkF m 23 #[.val (.ref a1), .val (.ref ca), .val (.int (0 : Int32)), .val (.int (0 : Int32)), .val .null, .unset] [(.int (0 : Int32)), (.ref a1)])) rfl rfl d4_23 ?_
  intro T8 h8 X8 W8
  have B9 := B6.wr W8 S3
  show OFin _ _ _ _ _ _ T8 (mkF m 26 #[.val (.ref a1), .val (.ref ca), .val (.int (0 : Int32)), .val (.int (0 : Int32)), .val .null, .unset] [])
  exact X8.retV d4_26 (oW X8 B9 (by decide) (by decide)) (⟨rfl, ((((Keep.refl h0 [a1]).ext E2).wr W4 (Or.inl (List.mem_of_getElem? (i := 0) rfl))).ext E6).wr W8 (Or.inl (List.mem_of_getElem? (i := 0) rfl)), t2, (((E.ext E2).wr W4).ext E6).wr W8, (((F2.ext E2).other W4 (Or.inr (Ne.symm sne))).ext E6).same W8, (((F1.ext E2).same W4).ext E6).other W8 (Or.inr sne), (((OArr.nil V2).other W4 (Ne.symm na.2)).ext E6).other W8 (Ne.symm na.2)⟩)
set_option maxRecDepth 65536 in
set_option maxHeartbeats 40000000 in
theorem sm5e (l : Launch) (Z : State) (a0 : Array Value) (hw : ∀ d ∈ tables_1, d.before a0 Z = true) (a1 ca : Addr) (f : Nat → Int32) (g_ : Nat → Value) (h0 : Heap) (n0 : Nat) (F1 : Fld Z h0 a1 "java/lang/String" "value" "[B" .null) (F2 : Fld Z h0 a1 "java/lang/String" "coder" "B" (.int 0)) (E : Exa Z h0 a1 "java/lang/String") (hn : n0 ≤ a1) (FC : OArr Z h0 ca .char 0 g_) :
    OMeetsW l Z own_EL (⟨"java/lang/String", "<init>", "([C)V"⟩ : MethodName) [] jdk_42_method_3_code 2 none ({ frames := 2, cells := 4, slots := 8, locals := 29 } : Room) #[(.ref a1), (.ref ca)] h0 n0 (fun v h => v = none ∧ Keep h0 h [a1] ∧ ∃ t, OStr Z h a1 t 0 f) := by
  refine o_enterW (Z := Z) (own_EW hw) (plainFor_of_name pn_java_lang_String) ?_
  intro p e s m below meth c T0 X0 B0
  refine OFin.cast (g' := (mkF m 0 #[.val (.ref a1), .val (.ref ca)] [])) (by first | (simp [entryFrame, mkF, argsToLocals, Value.category]; done) | rfl) ?_
  obtain ⟨c1, A1, S1, H1⟩ := id FC
  refine X0.step (fun hA hx hq t_ k_ => XS.aloadN hA hx rfl (hb hq d3_0) rfl rfl k_) ?_
  show OFin _ _ _ _ _ _ T0 (mkF m 1 #[.val (.ref a1), .val (.ref ca)] [(.ref a1)])
  refine X0.step (fun hA hx hq t_ k_ => XS.aloadN hA hx rfl (hb hq d3_1) rfl rfl k_) ?_
  show OFin _ _ _ _ _ _ T0 (mkF m 2 #[.val (.ref a1), .val (.ref ca)] [(.ref ca), (.ref a1)])
  refine X0.step (fun hA hx hq t_ k_ => XS.iconst hA hx rfl (hb hq d3_2) k_) ?_
  show OFin _ _ _ _ _ _ T0 (mkF m 3 #[.val (.ref a1), .val (.ref ca)] [(.int (0 : Int32)), (.ref ca), (.ref a1)])
  refine X0.step (fun hA hx hq t_ k_ => XS.aloadN hA hx rfl (hb hq d3_3) rfl rfl k_) ?_
  show OFin _ _ _ _ _ _ T0 (mkF m 4 #[.val (.ref a1), .val (.ref ca)] [(.ref ca), (.int (0 : Int32)), (.ref ca), (.ref a1)])
  refine X0.alen A1 (n := (0 : Int32)) (by rw [S1]; rfl) (g := (mkF m 4 #[.val (.ref a1), .val (.ref ca)] [(.ref ca), (.int (0 : Int32)), (.ref ca), (.ref a1)])) rfl rfl d3_4 ?_
  show OFin _ _ _ _ _ _ T0 (mkF m 5 #[.val (.ref a1), .val (.ref ca)] [(.int (0 : Int32)), (.int (0 : Int32)), (.ref ca), (.ref a1)])
  refine X0.step (fun hA hx hq t_ k_ => XS.aconstNull hA hx rfl (hb hq d3_5) k_) ?_
  show OFin _ _ _ _ _ _ T0 (mkF m 6 #[.val (.ref a1), .val (.ref ca)] [.null, (.int (0 : Int32)), (.int (0 : Int32)), (.ref ca), (.ref a1)])
  refine X0.callIW B0 (y' := (⟨"java/lang/String", "<init>", "([CIILjava/lang/Void;)V"⟩ : MethodName)) rfl (hw _ (List.mem_of_getElem? (i := 17) rfl)) (hw _ (List.mem_of_getElem? (i := 18) rfl)) (hw _ (List.mem_of_getElem? (i := 13) rfl)) (hw _ (List.mem_of_getElem? (i := 20) rfl)) (by decide) (a := a1) (argsL := [(.ref ca), (.int (0 : Int32)), (.int (0 : Int32)), .null]) (rest := []) (sm4e l Z a0 hw a1 ca f h0 n0 F1 F2 E hn) (g := (mkF m 6 #[.val (.ref a1), .val (.ref ca)] [.null, (.int (0 : Int32)), (.int (0 : Int32)), (.ref ca), (.ref a1)])) rfl rfl pd_pA_CIILjava_lang_Void_r_V rfl rfl (W := 0) (by show 2 * 0 + _ ≤ _; exact Nat.le_of_eq rfl) d3_6 (by decide) (by decide) (by decide) (by decide) ?_
  intro v1 T1 h1 vm1 X1 B1 G1 Sf1 q1
  obtain ⟨rfl, K1, t, S1⟩ := q1
  show OFin _ _ _ _ _ _ T1 (mkF m 9 #[.val (.ref a1), .val (.ref ca)] [])
  exact X1.retV d3_9 (oW X1 B1 (by decide) (by decide)) (⟨rfl, K1, t, S1⟩)
/-! chars of sixteen bits, as two bytes -/
def own_b0 (x : Int32) : Int32 := (x >>> ((0 : Int32) &&& 31)).toInt8.toInt32
def own_b1 (x : Int32) : Int32 := (x >>> ((8 : Int32) &&& 31)).toInt8.toInt32
def own_ub (f : Nat → Int32) (k : Nat) : Int32 := if k % 2 = 0 then own_b0 (f (k / 2)) else own_b1 (f (k / 2))
def own_chr16 (x : Int32) : Prop := 0 ≤ x.toInt ∧ x.toInt ≤ 65535
theorem own_gc (x : Int32) (h : own_chr16 x) : nar .char ((((own_b0 x &&& (255 : Int32)) <<< ((0 : Int32) &&& 31)) ||| ((own_b1 x &&& (255 : Int32)) <<< ((8 : Int32) &&& 31))).toUInt32.toUInt16.toUInt32.toInt32) = x := by
  obtain ⟨h0, h1⟩ := h
  have m0 := c_mask (own_b0 x) (255 : Int32) 8 (by decide) (by decide)
  have m1 := c_mask (own_b1 x) (255 : Int32) 8 (by decide) (by decide)
  have s0 := c_ishl (own_b0 x &&& (255 : Int32)) (0 : Int32) 0 (by decide)
  have s1 := c_ishl (own_b1 x &&& (255 : Int32)) (8 : Int32) 8 (by decide)
  have b0 := c_i2b (x >>> ((0 : Int32) &&& 31))
  have b1 := c_i2b (x >>> ((8 : Int32) &&& 31))
  have r0 := c_ishr x (0 : Int32) 0 (by decide)
  have r1 := c_ishr x (8 : Int32) 8 (by decide)
  have e8 : ((2 ^ 8 : Nat) : Int) = 256 := by decide
  have e0 : ((2 ^ 0 : Nat) : Int) = 1 := by decide
  rw [e8] at m0 m1 s1 r1
  rw [e0] at s0 r0
  rw [r0] at b0
  rw [r1] at b1
  have m0' : (own_b0 x &&& (255 : Int32)).toInt = x.toInt % 256 := by
    rw [m0]
    show (x >>> ((0 : Int32) &&& 31)).toInt8.toInt32.toInt % 256 = _
    omega
  have m1' : (own_b1 x &&& (255 : Int32)).toInt = x.toInt / 256 := by
    rw [m1]
    show (x >>> ((8 : Int32) &&& 31)).toInt8.toInt32.toInt % 256 = _
    omega
  rw [m0'] at s0
  rw [m1'] at s1
  have t0 := rng32 ((own_b0 x &&& (255 : Int32)) <<< ((0 : Int32) &&& 31))
  have t1 := rng32 ((own_b1 x &&& (255 : Int32)) <<< ((8 : Int32) &&& 31))
  generalize (own_b0 x &&& (255 : Int32)) <<< ((0 : Int32) &&& 31) = u at *
  generalize (own_b1 x &&& (255 : Int32)) <<< ((8 : Int32) &&& 31) = v at *
  have eu : u.toInt = x.toInt % 256 := by omega
  have ev : v.toInt = x.toInt / 256 * 256 := by omega
  have o := c_or' u v 8 (by decide) 256 (by decide) (by omega) (by omega) (by omega)
  have t2 := rng32 (u ||| v)
  have ew : u ||| v = x := by
    apply Int32.toInt_inj.mp
    omega
  rw [ew, own_cc x h0 h1]
  exact own_narC x h0 h1
theorem own_shl1 (N : Nat) (h : N ≤ 4000) : Int32.ofNat N <<< ((1 : Int32) &&& 31) = Int32.ofNat (2 * N) := by
  apply Int32.toInt_inj.mp
  have q := c_ishl (Int32.ofNat N) (1 : Int32) 1 (by decide)
  have e1 : ((2 ^ 1 : Nat) : Int) = 2 := by decide
  have t1 := rng32 (Int32.ofNat N <<< ((1 : Int32) &&& 31))
  rw [own_i N (by omega), e1] at q
  rw [own_i (2 * N) (by omega)]
  omega
theorem own_shr1 (N : Nat) (h : N ≤ 4000) : Int32.ofNat (2 * N) >>> ((1 : Int32) &&& 31) = Int32.ofNat N := by
  apply Int32.toInt_inj.mp
  have q := c_ishr (Int32.ofNat (2 * N)) (1 : Int32) 1 (by decide)
  have e1 : ((2 ^ 1 : Nat) : Int) = 2 := by decide
  rw [own_i (2 * N) (by omega), e1] at q
  rw [own_i N (by omega)]
  omega
theorem own_cf (N : Nat) (h0 : 0 < N) (h : N ≤ 4000) : nar .byte (((Int32.ofNat N - Int32.ofNat (2 * N)).toUInt32 >>> ((31 : Int32) &&& 31).toUInt32).toInt32).toInt8.toInt32 = 1 := by
  rw [own_bb]
  apply Int32.toInt_inj.mp
  have q := c_isub (Int32.ofNat N) (Int32.ofNat (2 * N))
  have q2 := c_iushr (Int32.ofNat N - Int32.ofNat (2 * N)) (31 : Int32) 31 (by decide) (by decide)
  have e1 : ((2 ^ 31 : Nat) : Int) = 2147483648 := by decide
  have t1 := rng32 (Int32.ofNat N - Int32.ofNat (2 * N))
  rw [own_i N (by omega), own_i (2 * N) (by omega)] at q
  rw [e1] at q2
  generalize Int32.ofNat N - Int32.ofNat (2 * N) = w at *
  have q3 := c_i2b ((w.toUInt32 >>> ((31 : Int32) &&& 31).toUInt32).toInt32)
  generalize (w.toUInt32 >>> ((31 : Int32) &&& 31).toUInt32).toInt32 = z at *
  have : (1 : Int32).toInt = 1 := by decide
  omega
theorem own_l8 (x : Int32) (h0 : 0 ≤ x.toInt) (h1 : x.toInt ≤ 255) : x.toInt8.toInt32 &&& (255 : Int32) = x := by
  apply Int32.toInt_inj.mp
  rw [c_mask _ _ 8 (by decide) (by decide)]
  have q := (c_i2b x).1
  have : ((2 ^ 8 : Nat) : Int) = 256 := by decide
  omega
def own_o1 (x : Int32) : Prop := (1 ≤ x.toInt ∧ x.toInt ≤ 55295) ∨ (57344 ≤ x.toInt ∧ x.toInt ≤ 65535)
def own_hi (x : Int32) : Prop := 55296 ≤ x.toInt ∧ x.toInt ≤ 56319
def own_lo (x : Int32) : Prop := 56320 ≤ x.toInt ∧ x.toInt ≤ 57343
/-- between i and j stand no char, one that is whole, or a pair -/
def own_seg (f : Nat → Int32) (i j : Nat) : Prop := j = i ∨ (j = i + 1 ∧ own_o1 (f i)) ∨ (j = i + 2 ∧ own_hi (f i) ∧ own_lo (f (i + 1)))
def own_wf (f : Nat → Int32) (N : Nat) : Nat → Nat → Prop
  | 0, i => i = N
  | k + 1, i => ∃ j, own_seg f i j ∧ own_wf f N k j
theorem own_seg.le {f : Nat → Int32} {i j : Nat} (h : own_seg f i j) : i ≤ j ∧ j ≤ i + 2 := by
  rcases h with h | h | h
  · omega
  · have := h.1; omega
  · have := h.1; omega
theorem own_wf.le {f : Nat → Int32} {N : Nat} : ∀ {k i : Nat}, own_wf f N k i → i ≤ N
  | 0, _, h => Nat.le_of_eq h
  | _ + 1, _, ⟨_, h1, h2⟩ => Nat.le_trans h1.le.1 h2.le
theorem own_seg.congr {f f' : Nat → Int32} {i j : Nat} (h : own_seg f i j) (q : ∀ k, k < j → f' k = f k) : own_seg f' i j := by
  rcases h with h | ⟨rfl, h⟩ | ⟨rfl, h1, h2⟩
  · exact Or.inl h
  · exact Or.inr (Or.inl ⟨rfl, by rw [q i (by omega)]; exact h⟩)
  · exact Or.inr (Or.inr ⟨rfl, by rw [q i (by omega)]; exact h1, by rw [q (i + 1) (by omega)]; exact h2⟩)
def own_up (f : Nat → Int32) (i : Nat) (v : Int32) (k : Nat) : Int32 := if k = i then v else f k
theorem own_up.at (f : Nat → Int32) (i : Nat) (v : Int32) : own_up f i v i = v := if_pos rfl
theorem own_up.ne {f : Nat → Int32} {i k : Nat} {v : Int32} (h : k ≠ i) : own_up f i v k = f k := if_neg h
theorem own_up.ch {f : Nat → Int32} {i : Nat} {v : Int32} (h : ∀ k, own_chr16 (f k)) (q : own_chr16 v) (k : Nat) : own_chr16 (own_up f i v k) := by
  unfold own_up
  split
  · exact q
  · exact h k
theorem own_fst (f : Nat → Int32) : ∀ N : Nat, (∀ j, j < N → (f j).toInt ≤ 255) ∨ ∃ d, d < N ∧ 255 < (f d).toInt ∧ ∀ j, j < d → (f j).toInt ≤ 255
  | 0 => Or.inl fun j h => absurd h (Nat.not_lt_zero j)
  | N + 1 => by
    rcases own_fst f N with h | ⟨d, h1, h2, h3⟩
    · by_cases q : (f N).toInt ≤ 255
      · exact Or.inl fun j hj => by
          rcases (by omega : j < N ∨ j = N) with z | rfl
          · exact h j z
          · exact q
      · exact Or.inr ⟨N, by omega, by omega, h⟩
    · exact Or.inr ⟨d, by omega, h2, h3⟩
theorem own_v16 (x : Int32) : own_chr16 (x &&& (65535 : Int32)) := by
  have q := c_and x (65535 : Int32) (by decide)
  have e : (65535 : Int32).toInt = 65535 := by decide
  exact ⟨q.1, by omega⟩
theorem own_orl (b x : Int32) (B : Int) (hb : b.toInt = B) (h0 : 0 ≤ B) (h1 : B ≤ 60000) (hm : B % 1024 = 0) : B ≤ (b ||| (x &&& (1023 : Int32))).toInt ∧ (b ||| (x &&& (1023 : Int32))).toInt ≤ B + 1023 := by
  have q := c_and x (1023 : Int32) (by decide)
  have e : (1023 : Int32).toInt = 1023 := by decide
  generalize x &&& (1023 : Int32) = y at *
  have o := c_or b y 10 (by decide) 1024 (by decide) (by omega) q.1 (by omega)
  have r := rng32 (b ||| y)
  omega
theorem own_cp {u v : Int32} (hu : own_hi u) (hv : own_lo v) : 65536 ≤ ((u <<< ((10 : Int32) &&& 31)) + v + (-56613888 : Int32)).toInt := by
  obtain ⟨u0, u1⟩ := hu
  obtain ⟨v0, v1⟩ := hv
  have q := c_ishl u (10 : Int32) 10 (by decide)
  have e1 : ((2 ^ 10 : Nat) : Int) = 1024 := by decide
  have e2 : (-56613888 : Int32).toInt = -56613888 := by decide
  have t1 := rng32 (u <<< ((10 : Int32) &&& 31))
  rw [e1] at q
  have q2 := c_iadd (u <<< ((10 : Int32) &&& 31)) v
  have t2 := rng32 ((u <<< ((10 : Int32) &&& 31)) + v)
  have q3 := c_iadd ((u <<< ((10 : Int32) &&& 31)) + v) (-56613888 : Int32)
  have t3 := rng32 ((u <<< ((10 : Int32) &&& 31)) + v + (-56613888 : Int32))
  omega
/-- a String of N chars f, on either road -/
def OStr16 (Z : State) (h : Heap) (a t : Addr) (N : Nat) (f : Nat → Int32) : Prop := Exa Z h a "java/lang/String" ∧ Fld Z h a "java/lang/String" "coder" "B" (.int 1) ∧ Fld Z h a "java/lang/String" "value" "[B" (.ref t) ∧ OArr Z h t .byte (2 * N) (fun k => .int (own_ub f k))
def OStrX (Z : State) (h : Heap) (a : Addr) (N : Nat) (f : Nat → Int32) : Prop := ∃ t, (OStr Z h a t N f ∧ ∀ j, j < N → (f j).toInt ≤ 255) ∨ OStr16 Z h a t N f
theorem OStrX.exa {Z : State} {h : Heap} {a : Addr} {N : Nat} {f : Nat → Int32} (S : OStrX Z h a N f) : Exa Z h a "java/lang/String" := by
  obtain ⟨t, S | S⟩ := S
  · exact S.1.1
  · exact S.1
theorem OStrX.ext {Z : State} {h h' : Heap} {a : Addr} {N : Nat} {f : Nat → Int32} (S : OStrX Z h a N f) (E : Ext h h') : OStrX Z h' a N f := by
  obtain ⟨t, S | S⟩ := S
  · exact ⟨t, Or.inl ⟨S.1.ext E, S.2⟩⟩
  · exact ⟨t, Or.inr ⟨S.1.ext E, S.2.1.ext E, S.2.2.1.ext E, S.2.2.2.ext E⟩⟩
theorem own_safeC {Z : State} {EL : List (String × Nat)} {vm : Vm} {h : Heap} {x : Addr} {N : Nat} {f : Nat → Value} (hal : Z.vm.Alike vm) (F : OArr Z h x .char N f) : Safe Z EL vm h x := by
  obtain ⟨c, A, -⟩ := F
  exact Safe.arr hal A (by decide)
theorem own_kx {h h' : Heap} (K : Keep h h' []) : Ext h h' := ⟨K.1, fun x c q => K.2.1 x c q List.not_mem_nil⟩
theorem d20_0 : decode jdk_52_method_3_code 0 = .ok (.iload_n 0, 1) := by decide +kernel
theorem d20_1 : decode jdk_52_method_3_code 1 = .ok (.ifCond .ge 11, 3) := by decide +kernel
theorem d20_12 : decode jdk_52_method_3_code 12 = .ok (.iload_n 0, 1) := by decide +kernel
theorem d20_13 : decode jdk_52_method_3_code 13 = .ok (.ldc 20, 2) := by decide +kernel
theorem d20_15 : decode jdk_52_method_3_code 15 = .ok (.if_icmp .lt 40, 3) := by decide +kernel
theorem d20_55 : decode jdk_52_method_3_code 55 = .ok (.iload_n 0, 1) := by decide +kernel
theorem d20_56 : decode jdk_52_method_3_code 56 = .ok (.iconst 1, 1) := by decide +kernel
theorem d20_57 : decode jdk_52_method_3_code 57 = .ok (.ishl, 1) := by decide +kernel
theorem d20_58 : decode jdk_52_method_3_code 58 = .ok (.ireturn, 1) := by decide +kernel
set_option maxRecDepth 65536 in
set_option maxHeartbeats 40000000 in
theorem su1 (l : Launch) (Z : State) (a0 : Array Value) (hw : ∀ d ∈ tables_1, d.before a0 Z = true) (N : Nat) (h0 : Heap) (n0 : Nat) (hN : N ≤ 4000) :
    OMeets l Z (⟨"java/lang/StringUTF16", "newBytesLength", "(I)I"⟩ : MethodName) [] jdk_52_method_3_code 1 (some .int) ({ frames := 0, cells := 0, slots := 0, locals := 0 } : Room) #[(.int (Int32.ofNat N))] h0 n0 (fun v h => v = some (.int (Int32.ofNat (2 * N))) ∧ h0 = h) := by
  refine o_enter (Z := Z) (plainFor_of_name pn_java_lang_StringUTF16) ?_
  intro p e s m below meth c T0 X0
  refine OFin.cast (g' := (mkF m 0 #[.val (.int (Int32.ofNat N))] [])) (by first | (simp [entryFrame, mkF, argsToLocals, Value.category]; done) | rfl) ?_
  refine X0.step (fun hA hx hq t_ k_ => XS.iloadN hA hx rfl (hb hq d20_0) rfl k_) ?_
  show OFin _ _ _ _ _ _ T0 (mkF m 1 #[.val (.int (Int32.ofNat N))] [(.int (Int32.ofNat N))])
  refine X0.step (fun hA hx hq t_ k_ => XS.ifYes hA hx rfl (pc0 := 1) (pc' := 12) rfl (hb hq d20_1) rfl ((if0 _ _).trans (flt ((by rw [Int32.lt_iff_toInt_lt, own_i N (by omega)]; have : (0 : Int32).toInt = 0 := (by decide); omega))).2.1) (by decide) (by decide) k_) ?_
  show OFin _ _ _ _ _ _ T0 (mkF m 12 #[.val (.int (Int32.ofNat N))] [])
  refine X0.step (fun hA hx hq t_ k_ => XS.iloadN hA hx rfl (hb hq d20_12) rfl k_) ?_
  show OFin _ _ _ _ _ _ T0 (mkF m 13 #[.val (.int (Int32.ofNat N))] [(.int (Int32.ofNat N))])
  refine X0.ldcI (hw _ (List.mem_of_getElem? (i := 94) rfl)) (g := (mkF m 13 #[.val (.int (Int32.ofNat N))] [(.int (Int32.ofNat N))])) rfl d20_13 ?_
  show OFin _ _ _ _ _ _ T0 (mkF m 15 #[.val (.int (Int32.ofNat N))] [(.int (1073741823 : Int32)), (.int (Int32.ofNat N))])
  refine X0.step (fun hA hx hq t_ k_ => XS.icmpYes hA hx rfl (pc0 := 15) (pc' := 55) rfl (hb hq d20_15) rfl (tlt ((by rw [Int32.lt_iff_toInt_lt, own_i N (by omega)]; have : (1073741823 : Int32).toInt = 1073741823 := (by decide); omega))).1 (by decide) (by decide) k_) ?_
  show OFin _ _ _ _ _ _ T0 (mkF m 55 #[.val (.int (Int32.ofNat N))] [])
  refine X0.step (fun hA hx hq t_ k_ => XS.iloadN hA hx rfl (hb hq d20_55) rfl k_) ?_
  show OFin _ _ _ _ _ _ T0 (mkF m 56 #[.val (.int (Int32.ofNat N))] [(.int (Int32.ofNat N))])
  refine X0.step (fun hA hx hq t_ k_ => XS.iconst hA hx rfl (hb hq d20_56) k_) ?_
  show OFin _ _ _ _ _ _ T0 (mkF m 57 #[.val (.int (Int32.ofNat N))] [(.int (1 : Int32)), (.int (Int32.ofNat N))])
  refine X0.step (fun hA hx hq t_ k_ => XS.ishl hA hx rfl (hb hq d20_57) rfl k_) ?_
  show OFin _ _ _ _ _ _ T0 (mkF m 58 #[.val (.int (Int32.ofNat N))] [(.int ((Int32.ofNat N) <<< ((1 : Int32) &&& 31)))])
  exact X0.retI d20_58 (oN (by decide) (by decide)) (⟨by rw [own_shl1 N hN], rfl⟩)
theorem d19_0 : decode jdk_52_method_2_code 0 = .ok (.iload_n 0, 1) := by decide +kernel
theorem d19_1 : decode jdk_52_method_2_code 1 = .ok (.invokestatic 11, 3) := by decide +kernel
theorem pd_pIr_I : parseMethodDescriptor "(I)I" = some ⟨[.int], some .int⟩ := by decide +kernel
theorem d19_4 : decode jdk_52_method_2_code 4 = .ok (.newarray .byte, 2) := by decide +kernel
theorem d19_6 : decode jdk_52_method_2_code 6 = .ok (.areturn, 1) := by decide +kernel
set_option maxRecDepth 65536 in
set_option maxHeartbeats 40000000 in
theorem su2 (l : Launch) (Z : State) (a0 : Array Value) (hw : ∀ d ∈ tables_1, d.before a0 Z = true) (N : Nat) (h0 : Heap) (n0 : Nat) (hN : N ≤ 6) :
    OMeets l Z (⟨"java/lang/StringUTF16", "newBytesFor", "(I)[B"⟩ : MethodName) [] jdk_52_method_2_code 1 (some (.array .byte)) ({ frames := 1, cells := 1, slots := 12, locals := 12 } : Room) #[(.int (Int32.ofNat N))] h0 n0 (fun v h => ∃ t, v = some (.ref t) ∧ Ext h0 h ∧ OArr Z h t .byte (2 * N) (fun _ => .int 0) ∧ h0.size = t) := by
  refine o_enter (Z := Z) (plainFor_of_name pn_java_lang_StringUTF16) ?_
  intro p e s m below meth c T0 X0
  refine OFin.cast (g' := (mkF m 0 #[.val (.int (Int32.ofNat N))] [])) (by first | (simp [entryFrame, mkF, argsToLocals, Value.category]; done) | rfl) ?_
  refine X0.step (fun hA hx hq t_ k_ => XS.iloadN hA hx rfl (hb hq d19_0) rfl k_) ?_
  show OFin _ _ _ _ _ _ T0 (mkF m 1 #[.val (.int (Int32.ofNat N))] [(.int (Int32.ofNat N))])
  refine X0.callS (y' := (⟨"java/lang/StringUTF16", "newBytesLength", "(I)I"⟩ : MethodName)) (hw _ (List.mem_of_getElem? (i := 91) rfl)) (hw _ (List.mem_of_getElem? (i := 92) rfl)) (hw _ (List.mem_of_getElem? (i := 27) rfl)) (hw _ (List.mem_of_getElem? (i := 93) rfl)) (by decide) (argsL := [(.int (Int32.ofNat N))]) (rest := []) (su1 l Z a0 hw N h0 n0 (by omega)) (g := (mkF m 1 #[.val (.int (Int32.ofNat N))] [(.int (Int32.ofNat N))])) rfl rfl pd_pIr_I rfl rfl (W := 0) (by show 2 * 0 + _ ≤ _; exact Nat.le_of_eq rfl) d19_1 (by decide) (by decide) (by decide) (by decide) ?_
  intro v1 T1 h1 X1 q1
  obtain ⟨rfl, rfl⟩ := q1
  show OFin _ _ _ _ _ _ T1 (mkF m 4 #[.val (.int (Int32.ofNat N))] [(.int (Int32.ofNat (2 * N)))])
  refine X1.newP (hw _ (List.mem_of_getElem? (i := 29) rfl)) (g := (mkF m 4 #[.val (.int (Int32.ofNat N))] [(.int (Int32.ofNat (2 * N)))])) rfl d19_4 rfl (by rw [Int32.lt_iff_toInt_lt, own_i (2 * N) (by omega)]; have : (0 : Int32).toInt = 0 := (by decide); omega) (cap := 12) (by rw [own_iN (2 * N) (by omega)]; omega) (by decide) (by decide) (by decide) (ad := "[B") (by first | rfl | decide) ?_
  intro T2 h2 k2 b2 gb2 X2 E2 A2 G2
  show OFin _ _ _ _ _ _ T2 (mkF m 6 #[.val (.int (Int32.ofNat N))] [(.ref b2)])
  have FB : OArr Z h2 b2 .byte (2 * N) (fun _ => .int 0) := by
    have q := OArr.new A2
    rw [own_iN (2 * N) (by omega)] at q
    exact q
  exact X2.retR rfl rfl d19_6 (oN (by decide) (by decide)) (⟨b2, rfl, E2, FB, gb2.symm⟩)
theorem d21_0 : decode jdk_52_method_4_code 0 = .ok (.getstatic 44, 3) := by decide +kernel
theorem d21_3 : decode jdk_52_method_4_code 3 = .ok (.ifCond .ne 25, 3) := by decide +kernel
theorem d21_28 : decode jdk_52_method_4_code 28 = .ok (.iload_n 1, 1) := by decide +kernel
theorem d21_29 : decode jdk_52_method_4_code 29 = .ok (.iconst 1, 1) := by decide +kernel
theorem d21_30 : decode jdk_52_method_4_code 30 = .ok (.ishl, 1) := by decide +kernel
theorem d21_31 : decode jdk_52_method_4_code 31 = .ok (.istore_n 1, 1) := by decide +kernel
theorem d21_32 : decode jdk_52_method_4_code 32 = .ok (.aload_n 0, 1) := by decide +kernel
theorem d21_33 : decode jdk_52_method_4_code 33 = .ok (.iload_n 1, 1) := by decide +kernel
theorem d21_34 : decode jdk_52_method_4_code 34 = .ok (.iinc 1 1, 3) := by decide +kernel
theorem d21_37 : decode jdk_52_method_4_code 37 = .ok (.iload_n 2, 1) := by decide +kernel
theorem d21_38 : decode jdk_52_method_4_code 38 = .ok (.getstatic 59, 3) := by decide +kernel
theorem d21_41 : decode jdk_52_method_4_code 41 = .ok (.ishr, 1) := by decide +kernel
theorem d21_42 : decode jdk_52_method_4_code 42 = .ok (.i2b, 1) := by decide +kernel
theorem d21_43 : decode jdk_52_method_4_code 43 = .ok (.bastore, 1) := by decide +kernel
theorem d21_44 : decode jdk_52_method_4_code 44 = .ok (.aload_n 0, 1) := by decide +kernel
theorem d21_45 : decode jdk_52_method_4_code 45 = .ok (.iload_n 1, 1) := by decide +kernel
theorem d21_46 : decode jdk_52_method_4_code 46 = .ok (.iload_n 2, 1) := by decide +kernel
theorem d21_47 : decode jdk_52_method_4_code 47 = .ok (.getstatic 63, 3) := by decide +kernel
theorem d21_50 : decode jdk_52_method_4_code 50 = .ok (.ishr, 1) := by decide +kernel
theorem d21_51 : decode jdk_52_method_4_code 51 = .ok (.i2b, 1) := by decide +kernel
theorem d21_52 : decode jdk_52_method_4_code 52 = .ok (.bastore, 1) := by decide +kernel
theorem d21_53 : decode jdk_52_method_4_code 53 = .ok (.return_, 1) := by decide +kernel
set_option maxRecDepth 65536 in
set_option maxHeartbeats 40000000 in
theorem su3 (l : Launch) (Z : State) (a0 : Array Value) (hw : ∀ d ∈ tables_1, d.before a0 Z = true) (t : Addr) (i M : Nat) (x : Int32) (g_ : Nat → Value) (h0 : Heap) (n0 : Nat) (F : OArr Z h0 t .byte M g_) (hi : 2 * i + 1 < M) (hM : M ≤ 4000) (hn : n0 ≤ t) (SA : Sta Z h0 "java/lang/StringUTF16" "$assertionsDisabled" "Z" (.int 1)) (SH : Sta Z h0 "java/lang/StringUTF16" "HI_BYTE_SHIFT" "I" (.int 0)) (SL : Sta Z h0 "java/lang/StringUTF16" "LO_BYTE_SHIFT" "I" (.int 8)) :
    OMeets l Z (⟨"java/lang/StringUTF16", "putChar", "([BII)V"⟩ : MethodName) [] jdk_52_method_4_code 3 none ({ frames := 0, cells := 0, slots := 0, locals := 0 } : Room) #[(.ref t), (.int (Int32.ofNat i)), (.int x)] h0 n0 (fun v h => v = none ∧ Keep h0 h [t] ∧ OArr Z h t .byte M (fun k => if k = 2 * i + 1 then .int (own_b1 x) else if k = 2 * i then .int (own_b0 x) else g_ k)) := by
  refine o_enter (Z := Z) (plainFor_of_name pn_java_lang_StringUTF16) ?_
  intro p e s m below meth c T0 X0
  refine OFin.cast (g' := (mkF m 0 #[.val (.ref t), .val (.int (Int32.ofNat i)), .val (.int x)] [])) (by first | (simp [entryFrame, mkF, argsToLocals, Value.category]; done) | rfl) ?_
  obtain ⟨c1, A1, S1, H1⟩ := id F
  refine X0.getS (hw _ (List.mem_of_getElem? (i := 98) rfl)) SA (g := (mkF m 0 #[.val (.ref t), .val (.int (Int32.ofNat i)), .val (.int x)] [])) rfl d21_0 ?_
  intro T1 X1
  show OFin _ _ _ _ _ _ T1 (mkF m 3 #[.val (.ref t), .val (.int (Int32.ofNat i)), .val (.int x)] [(.int (1 : Int32))])
  refine X1.step (fun hA hx hq t_ k_ => XS.ifYes hA hx rfl (pc0 := 3) (pc' := 28) rfl (hb hq d21_3) rfl ((if0 _ _).trans (feq ((by decide))).2) (by decide) (by decide) k_) ?_
  show OFin _ _ _ _ _ _ T1 (mkF m 28 #[.val (.ref t), .val (.int (Int32.ofNat i)), .val (.int x)] [])
  refine X1.step (fun hA hx hq t_ k_ => XS.iloadN hA hx rfl (hb hq d21_28) rfl k_) ?_
  show OFin _ _ _ _ _ _ T1 (mkF m 29 #[.val (.ref t), .val (.int (Int32.ofNat i)), .val (.int x)] [(.int (Int32.ofNat i))])
  refine X1.step (fun hA hx hq t_ k_ => XS.iconst hA hx rfl (hb hq d21_29) k_) ?_
  show OFin _ _ _ _ _ _ T1 (mkF m 30 #[.val (.ref t), .val (.int (Int32.ofNat i)), .val (.int x)] [(.int (1 : Int32)), (.int (Int32.ofNat i))])
  refine X1.step (fun hA hx hq t_ k_ => XS.ishl hA hx rfl (hb hq d21_30) rfl k_) ?_
  show OFin _ _ _ _ _ _ T1 (mkF m 31 #[.val (.ref t), .val (.int (Int32.ofNat i)), .val (.int x)] [(.int ((Int32.ofNat i) <<< ((1 : Int32) &&& 31)))])
  rw [own_shl1 i (by omega)]
  show OFin _ _ _ _ _ _ T1 (mkF m 31 #[.val (.ref t), .val (.int (Int32.ofNat i)), .val (.int x)] [(.int (Int32.ofNat (2 * i)))])
  refine X1.step (fun hA hx hq t_ k_ => XS.istoreN hA hx rfl (hb hq d21_31) rfl (l' := #[.val (.ref t), .val (.int (Int32.ofNat (2 * i))), .val (.int x)]) rfl k_) ?_
  show OFin _ _ _ _ _ _ T1 (mkF m 32 #[.val (.ref t), .val (.int (Int32.ofNat (2 * i))), .val (.int x)] [])
  refine X1.step (fun hA hx hq t_ k_ => XS.aloadN hA hx rfl (hb hq d21_32) rfl rfl k_) ?_
  show OFin _ _ _ _ _ _ T1 (mkF m 33 #[.val (.ref t), .val (.int (Int32.ofNat (2 * i))), .val (.int x)] [(.ref t)])
  refine X1.step (fun hA hx hq t_ k_ => XS.iloadN hA hx rfl (hb hq d21_33) rfl k_) ?_
  show OFin _ _ _ _ _ _ T1 (mkF m 34 #[.val (.ref t), .val (.int (Int32.ofNat (2 * i))), .val (.int x)] [(.int (Int32.ofNat (2 * i))), (.ref t)])
  refine X1.step (fun hA hx hq t_ k_ => XS.iinc hA hx rfl (hb hq d21_34) rfl (l' := #[.val (.ref t), .val (.int ((Int32.ofNat (2 * i)) + (1 : Int32))), .val (.int x)]) rfl k_) ?_
  show OFin _ _ _ _ _ _ T1 (mkF m 37 #[.val (.ref t), .val (.int ((Int32.ofNat (2 * i)) + (1 : Int32))), .val (.int x)] [(.int (Int32.ofNat (2 * i))), (.ref t)])
  rw [own_succ (2 * i) (by omega)]
  show OFin _ _ _ _ _ _ T1 (mkF m 37 #[.val (.ref t), .val (.int (Int32.ofNat (2 * i + 1))), .val (.int x)] [(.int (Int32.ofNat (2 * i))), (.ref t)])
  refine X1.step (fun hA hx hq t_ k_ => XS.iloadN hA hx rfl (hb hq d21_37) rfl k_) ?_
  show OFin _ _ _ _ _ _ T1 (mkF m 38 #[.val (.ref t), .val (.int (Int32.ofNat (2 * i + 1))), .val (.int x)] [(.int x), (.int (Int32.ofNat (2 * i))), (.ref t)])
  refine X1.getS (hw _ (List.mem_of_getElem? (i := 99) rfl)) SH (g := (mkF m 38 #[.val (.ref t), .val (.int (Int32.ofNat (2 * i + 1))), .val (.int x)] [(.int x), (.int (Int32.ofNat (2 * i))), (.ref t)])) rfl d21_38 ?_
  intro T2 X2
  show OFin _ _ _ _ _ _ T2 (mkF m 41 #[.val (.ref t), .val (.int (Int32.ofNat (2 * i + 1))), .val (.int x)] [(.int (0 : Int32)), (.int x), (.int (Int32.ofNat (2 * i))), (.ref t)])
  refine X2.step (fun hA hx hq t_ k_ => XS.ishr hA hx rfl (hb hq d21_41) rfl k_) ?_
  show OFin _ _ _ _ _ _ T2 (mkF m 42 #[.val (.ref t), .val (.int (Int32.ofNat (2 * i + 1))), .val (.int x)] [(.int (x >>> ((0 : Int32) &&& 31))), (.int (Int32.ofNat (2 * i))), (.ref t)])
  refine X2.step (fun hA hx hq t_ k_ => XS.i2b hA hx rfl (hb hq d21_42) rfl k_) ?_
  show OFin _ _ _ _ _ _ T2 (mkF m 43 #[.val (.ref t), .val (.int (Int32.ofNat (2 * i + 1))), .val (.int x)] [(.int ((x >>> ((0 : Int32) &&& 31)).toInt8.toInt32)), (.int (Int32.ofNat (2 * i))), (.ref t)])
  refine X2.stB A1 (own_inN S1 (by omega) (by omega)) (hn) (g := (mkF m 43 #[.val (.ref t), .val (.int (Int32.ofNat (2 * i + 1))), .val (.int x)] [(.int ((x >>> ((0 : Int32) &&& 31)).toInt8.toInt32)), (.int (Int32.ofNat (2 * i))), (.ref t)])) rfl rfl d21_43 ?_
  intro T3 h3 X3 W3
  show OFin _ _ _ _ _ _ T3 (mkF m 44 #[.val (.ref t), .val (.int (Int32.ofNat (2 * i + 1))), .val (.int x)] [])
  rw [own_iN (2 * i) (by omega), own_bb] at W3
  have F2 := F.set W3
  obtain ⟨c2, A2, S2, H2⟩ := id F2
  refine X3.step (fun hA hx hq t_ k_ => XS.aloadN hA hx rfl (hb hq d21_44) rfl rfl k_) ?_
  show OFin _ _ _ _ _ _ T3 (mkF m 45 #[.val (.ref t), .val (.int (Int32.ofNat (2 * i + 1))), .val (.int x)] [(.ref t)])
  refine X3.step (fun hA hx hq t_ k_ => XS.iloadN hA hx rfl (hb hq d21_45) rfl k_) ?_
  show OFin _ _ _ _ _ _ T3 (mkF m 46 #[.val (.ref t), .val (.int (Int32.ofNat (2 * i + 1))), .val (.int x)] [(.int (Int32.ofNat (2 * i + 1))), (.ref t)])
  refine X3.step (fun hA hx hq t_ k_ => XS.iloadN hA hx rfl (hb hq d21_46) rfl k_) ?_
  show OFin _ _ _ _ _ _ T3 (mkF m 47 #[.val (.ref t), .val (.int (Int32.ofNat (2 * i + 1))), .val (.int x)] [(.int x), (.int (Int32.ofNat (2 * i + 1))), (.ref t)])
  refine X3.getS (hw _ (List.mem_of_getElem? (i := 100) rfl)) (SL.wr W3) (g := (mkF m 47 #[.val (.ref t), .val (.int (Int32.ofNat (2 * i + 1))), .val (.int x)] [(.int x), (.int (Int32.ofNat (2 * i + 1))), (.ref t)])) rfl d21_47 ?_
  intro T4 X4
  show OFin _ _ _ _ _ _ T4 (mkF m 50 #[.val (.ref t), .val (.int (Int32.ofNat (2 * i + 1))), .val (.int x)] [(.int (8 : Int32)), (.int x), (.int (Int32.ofNat (2 * i + 1))), (.ref t)])
  refine X4.step (fun hA hx hq t_ k_ => XS.ishr hA hx rfl (hb hq d21_50) rfl k_) ?_
  show OFin _ _ _ _ _ _ T4 (mkF m 51 #[.val (.ref t), .val (.int (Int32.ofNat (2 * i + 1))), .val (.int x)] [(.int (x >>> ((8 : Int32) &&& 31))), (.int (Int32.ofNat (2 * i + 1))), (.ref t)])
  refine X4.step (fun hA hx hq t_ k_ => XS.i2b hA hx rfl (hb hq d21_51) rfl k_) ?_
  show OFin _ _ _ _ _ _ T4 (mkF m 52 #[.val (.ref t), .val (.int (Int32.ofNat (2 * i + 1))), .val (.int x)] [(.int ((x >>> ((8 : Int32) &&& 31)).toInt8.toInt32)), (.int (Int32.ofNat (2 * i + 1))), (.ref t)])
  refine X4.stB A2 (own_inN S2 (by omega) (by omega)) (hn) (g := (mkF m 52 #[.val (.ref t), .val (.int (Int32.ofNat (2 * i + 1))), .val (.int x)] [(.int ((x >>> ((8 : Int32) &&& 31)).toInt8.toInt32)), (.int (Int32.ofNat (2 * i + 1))), (.ref t)])) rfl rfl d21_52 ?_
  intro T5 h5 X5 W5
  show OFin _ _ _ _ _ _ T5 (mkF m 53 #[.val (.ref t), .val (.int (Int32.ofNat (2 * i + 1))), .val (.int x)] [])
  rw [own_iN (2 * i + 1) (by omega), own_bb] at W5
  exact X5.retV d21_53 (oN (by decide) (by decide)) (⟨rfl, ((Keep.refl h0 [t]).wr W3 (Or.inl (List.mem_of_getElem? (i := 0) rfl))).wr W5 (Or.inl (List.mem_of_getElem? (i := 0) rfl)), F2.set W5⟩)
theorem d18_0 : decode jdk_52_method_14_code 0 = .ok (.iload_n 2, 1) := by decide +kernel
theorem d18_1 : decode jdk_52_method_14_code 1 = .ok (.invokestatic 107, 3) := by decide +kernel
theorem pd_pIr_A_B : parseMethodDescriptor "(I)[B" = some ⟨[.int], some (.array .byte)⟩ := by decide +kernel
theorem d18_4 : decode jdk_52_method_14_code 4 = .ok (.astore_n 3, 1) := by decide +kernel
theorem d18_5 : decode jdk_52_method_14_code 5 = .ok (.iconst 0, 1) := by decide +kernel
theorem d18_6 : decode jdk_52_method_14_code 6 = .ok (.istore 4, 2) := by decide +kernel
theorem d18_8 : decode jdk_52_method_14_code 8 = .ok (.iload 4, 2) := by decide +kernel
theorem d18_10 : decode jdk_52_method_14_code 10 = .ok (.iload_n 2, 1) := by decide +kernel
theorem d18_11 : decode jdk_52_method_14_code 11 = .ok (.if_icmp .ge 21, 3) := by decide +kernel
theorem d18_32 : decode jdk_52_method_14_code 32 = .ok (.aload_n 3, 1) := by decide +kernel
theorem d18_33 : decode jdk_52_method_14_code 33 = .ok (.areturn, 1) := by decide +kernel
theorem d18_14 : decode jdk_52_method_14_code 14 = .ok (.aload_n 3, 1) := by decide +kernel
theorem d18_15 : decode jdk_52_method_14_code 15 = .ok (.iload 4, 2) := by decide +kernel
theorem d18_17 : decode jdk_52_method_14_code 17 = .ok (.aload_n 0, 1) := by decide +kernel
theorem d18_18 : decode jdk_52_method_14_code 18 = .ok (.iload_n 1, 1) := by decide +kernel
theorem d18_19 : decode jdk_52_method_14_code 19 = .ok (.caload, 1) := by decide +kernel
theorem pd_pA_BIIr_V : parseMethodDescriptor "([BII)V" = some ⟨[(.array .byte), .int, .int], none⟩ := by decide +kernel
theorem d18_20 : decode jdk_52_method_14_code 20 = .ok (.invokestatic 111, 3) := by decide +kernel
theorem d18_23 : decode jdk_52_method_14_code 23 = .ok (.iinc 1 1, 3) := by decide +kernel
theorem d18_26 : decode jdk_52_method_14_code 26 = .ok (.iinc 4 1, 3) := by decide +kernel
theorem d18_29 : decode jdk_52_method_14_code 29 = .ok (.goto (-21), 3) := by decide +kernel
set_option maxRecDepth 65536 in
set_option maxHeartbeats 40000000 in
theorem su4 (l : Launch) (Z : State) (a0 : Array Value) (hw : ∀ d ∈ tables_1, d.before a0 Z = true) (ca : Addr) (N : Nat) (f : Nat → Int32) (h0 : Heap) (n0 : Nat) (FC : OArr Z h0 ca .char N (fun j => .int (f j))) (hN : N ≤ 6) (Z0 : n0 ≤ h0.size) (SA : Sta Z h0 "java/lang/StringUTF16" "$assertionsDisabled" "Z" (.int 1)) (SH : Sta Z h0 "java/lang/StringUTF16" "HI_BYTE_SHIFT" "I" (.int 0)) (SL : Sta Z h0 "java/lang/StringUTF16" "LO_BYTE_SHIFT" "I" (.int 8)) :
    OMeets l Z (⟨"java/lang/StringUTF16", "toBytes", "([CII)[B"⟩ : MethodName) [] jdk_52_method_14_code 5 (some (.array .byte)) ({ frames := 2, cells := 1, slots := 12, locals := 24 } : Room) #[(.ref ca), (.int (0 : Int32)), (.int (Int32.ofNat N))] h0 n0 (fun v h => ∃ t, v = some (.ref t) ∧ Keep h0 h [] ∧ OArr Z h t .byte (2 * N) (fun k => .int (own_ub f k)) ∧ h0.size ≤ t) := by
  refine o_enter (Z := Z) (plainFor_of_name pn_java_lang_StringUTF16) ?_
  intro p e s m below meth c T0 X0
  refine OFin.cast (g' := (mkF m 0 #[.val (.ref ca), .val (.int (0 : Int32)), .val (.int (Int32.ofNat N)), .unset, .unset] [])) (by first | (simp [entryFrame, mkF, argsToLocals, Value.category]; done) | rfl) ?_
  refine X0.step (fun hA hx hq t_ k_ => XS.iloadN hA hx rfl (hb hq d18_0) rfl k_) ?_
  show OFin _ _ _ _ _ _ T0 (mkF m 1 #[.val (.ref ca), .val (.int (0 : Int32)), .val (.int (Int32.ofNat N)), .unset, .unset] [(.int (Int32.ofNat N))])
  refine X0.callS (y' := (⟨"java/lang/StringUTF16", "newBytesFor", "(I)[B"⟩ : MethodName)) (hw _ (List.mem_of_getElem? (i := 88) rfl)) (hw _ (List.mem_of_getElem? (i := 89) rfl)) (hw _ (List.mem_of_getElem? (i := 27) rfl)) (hw _ (List.mem_of_getElem? (i := 90) rfl)) (by decide) (argsL := [(.int (Int32.ofNat N))]) (rest := []) (su2 l Z a0 hw N h0 n0 hN) (g := (mkF m 1 #[.val (.ref ca), .val (.int (0 : Int32)), .val (.int (Int32.ofNat N)), .unset, .unset] [(.int (Int32.ofNat N))])) rfl rfl pd_pIr_A_B rfl rfl (W := 0) (by show 2 * 0 + _ ≤ _; exact Nat.le_of_eq rfl) d18_1 (by decide) (by decide) (by decide) (by decide) ?_
  intro v1 T1 h1 X1 q1
  obtain ⟨t, rfl, E1, F1, gt⟩ := q1
  show OFin _ _ _ _ _ _ T1 (mkF m 4 #[.val (.ref ca), .val (.int (0 : Int32)), .val (.int (Int32.ofNat N)), .unset, .unset] [(.ref t)])
  refine X1.step (fun hA hx hq t_ k_ => XS.astoreN hA hx rfl (hb hq d18_4) rfl rfl (l' := #[.val (.ref ca), .val (.int (0 : Int32)), .val (.int (Int32.ofNat N)), .val (.ref t), .unset]) rfl k_) ?_
  show OFin _ _ _ _ _ _ T1 (mkF m 5 #[.val (.ref ca), .val (.int (0 : Int32)), .val (.int (Int32.ofNat N)), .val (.ref t), .unset] [])
  refine X1.step (fun hA hx hq t_ k_ => XS.iconst hA hx rfl (hb hq d18_5) k_) ?_
  show OFin _ _ _ _ _ _ T1 (mkF m 6 #[.val (.ref ca), .val (.int (0 : Int32)), .val (.int (Int32.ofNat N)), .val (.ref t), .unset] [(.int (0 : Int32))])
  refine X1.step (fun hA hx hq t_ k_ => XS.istore hA hx rfl (hb hq d18_6) rfl (l' := #[.val (.ref ca), .val (.int (0 : Int32)), .val (.int (Int32.ofNat N)), .val (.ref t), .val (.int (0 : Int32))]) rfl k_) ?_
  show OFin _ _ _ _ _ _ T1 (mkF m 8 #[.val (.ref ca), .val (.int (0 : Int32)), .val (.int (Int32.ofNat N)), .val (.ref t), .val (.int (0 : Int32))] [])
  have hn : n0 ≤ t := by rw [← gt]; exact Z0
  have ne : ca ≠ t := by rw [← gt]; exact Nat.ne_of_lt FC.lt
  have loop : ∀ (k i : Nat) (T : State) (h : Heap), i + k = N → OAt n0 Z (⟨"java/lang/StringUTF16", "toBytes", "([CII)[B"⟩ : MethodName) jdk_52_method_14_code 5 (some (.array .byte)) p l e ({ frames := 2, cells := 1, slots := 12, locals := 24 } : Room) s m #[(.ref ca), (.int (0 : Int32)), (.int (Int32.ofNat N))] below meth c T h (0 + 1) (0 + 12) → OArr Z h ca .char N (fun j => .int (f j)) → OArr Z h t .byte (2 * N) (fun k => if k < 2 * i then .int (own_ub f k) else .int 0) → Keep h1 h [t] → OFin n0 p e (fun o t L => FrameEnd s o t L ({ frames := 2, cells := 1, slots := 12, locals := 24 } : Room).cells ({ frames := 2, cells := 1, slots := 12, locals := 24 } : Room).slots) below (fun v h => ∃ t, v = some (.ref t) ∧ Keep h0 h [] ∧ OArr Z h t .byte (2 * N) (fun k => .int (own_ub f k)) ∧ h0.size ≤ t) T (mkF m 8 #[.val (.ref ca), .val (.int (Int32.ofNat i)), .val (.int (Int32.ofNat N)), .val (.ref t), .val (.int (Int32.ofNat i))] []) := by
    intro k
    induction k with
    | zero =>
      intro i T h hik X FC FB K
      have hiN : i = N := by omega
      refine X.step (fun hA hx hq t_ k_ => XS.iload hA hx rfl (hb hq d18_8) rfl k_) ?_
      show OFin _ _ _ _ _ _ T (mkF m 10 #[.val (.ref ca), .val (.int (Int32.ofNat i)), .val (.int (Int32.ofNat N)), .val (.ref t), .val (.int (Int32.ofNat i))] [(.int (Int32.ofNat i))])
      refine X.step (fun hA hx hq t_ k_ => XS.iloadN hA hx rfl (hb hq d18_10) rfl k_) ?_
      show OFin _ _ _ _ _ _ T (mkF m 11 #[.val (.ref ca), .val (.int (Int32.ofNat i)), .val (.int (Int32.ofNat N)), .val (.ref t), .val (.int (Int32.ofNat i))] [(.int (Int32.ofNat N)), (.int (Int32.ofNat i))])
      refine X.step (fun hA hx hq t_ k_ => XS.icmpYes hA hx rfl (pc0 := 11) (pc' := 32) rfl (hb hq d18_11) rfl (flt (fun c => by rw [own_lt32 i N (by omega) (by omega)] at c; omega)).2.1 (by decide) (by decide) k_) ?_
      show OFin _ _ _ _ _ _ T (mkF m 32 #[.val (.ref ca), .val (.int (Int32.ofNat i)), .val (.int (Int32.ofNat N)), .val (.ref t), .val (.int (Int32.ofNat i))] [])
      refine X.step (fun hA hx hq t_ k_ => XS.aloadN hA hx rfl (hb hq d18_32) rfl rfl k_) ?_
      show OFin _ _ _ _ _ _ T (mkF m 33 #[.val (.ref ca), .val (.int (Int32.ofNat i)), .val (.int (Int32.ofNat N)), .val (.ref t), .val (.int (Int32.ofNat i))] [(.ref t)])
      exact X.retR rfl rfl d18_33 (oN (by decide) (by decide)) (⟨t, rfl, ((Keep.refl h0 []).ext E1).trans K (allS (Or.inr (Nat.le_of_eq gt)) all0), FB.congr fun j hj => if_pos (by omega), Nat.le_of_eq gt⟩)
    | succ k ih =>
      intro i T h hik X FC FB K
      have hlt : i < N := by omega
      obtain ⟨cc, Ac, Sc, Hc⟩ := id FC
      have KK : Keep h0 h [] := ((Keep.refl h0 []).ext E1).trans K (allS (Or.inr (Nat.le_of_eq gt)) all0)
      refine X.step (fun hA hx hq t_ k_ => XS.iload hA hx rfl (hb hq d18_8) rfl k_) ?_
      show OFin _ _ _ _ _ _ T (mkF m 10 #[.val (.ref ca), .val (.int (Int32.ofNat i)), .val (.int (Int32.ofNat N)), .val (.ref t), .val (.int (Int32.ofNat i))] [(.int (Int32.ofNat i))])
      refine X.step (fun hA hx hq t_ k_ => XS.iloadN hA hx rfl (hb hq d18_10) rfl k_) ?_
      show OFin _ _ _ _ _ _ T (mkF m 11 #[.val (.ref ca), .val (.int (Int32.ofNat i)), .val (.int (Int32.ofNat N)), .val (.ref t), .val (.int (Int32.ofNat i))] [(.int (Int32.ofNat N)), (.int (Int32.ofNat i))])
      refine X.step (fun hA hx hq t_ k_ => XS.icmpNo hA hx rfl (hb hq d18_11) rfl (tlt ((own_lt32 i N (by omega) (by omega)).mpr hlt)).2.1 k_) ?_
      show OFin _ _ _ _ _ _ T (mkF m 14 #[.val (.ref ca), .val (.int (Int32.ofNat i)), .val (.int (Int32.ofNat N)), .val (.ref t), .val (.int (Int32.ofNat i))] [])
      refine X.step (fun hA hx hq t_ k_ => XS.aloadN hA hx rfl (hb hq d18_14) rfl rfl k_) ?_
      show OFin _ _ _ _ _ _ T (mkF m 15 #[.val (.ref ca), .val (.int (Int32.ofNat i)), .val (.int (Int32.ofNat N)), .val (.ref t), .val (.int (Int32.ofNat i))] [(.ref t)])
      refine X.step (fun hA hx hq t_ k_ => XS.iload hA hx rfl (hb hq d18_15) rfl k_) ?_
      show OFin _ _ _ _ _ _ T (mkF m 17 #[.val (.ref ca), .val (.int (Int32.ofNat i)), .val (.int (Int32.ofNat N)), .val (.ref t), .val (.int (Int32.ofNat i))] [(.int (Int32.ofNat i)), (.ref t)])
      refine X.step (fun hA hx hq t_ k_ => XS.aloadN hA hx rfl (hb hq d18_17) rfl rfl k_) ?_
      show OFin _ _ _ _ _ _ T (mkF m 18 #[.val (.ref ca), .val (.int (Int32.ofNat i)), .val (.int (Int32.ofNat N)), .val (.ref t), .val (.int (Int32.ofNat i))] [(.ref ca), (.int (Int32.ofNat i)), (.ref t)])
      refine X.step (fun hA hx hq t_ k_ => XS.iloadN hA hx rfl (hb hq d18_18) rfl k_) ?_
      show OFin _ _ _ _ _ _ T (mkF m 19 #[.val (.ref ca), .val (.int (Int32.ofNat i)), .val (.int (Int32.ofNat N)), .val (.ref t), .val (.int (Int32.ofNat i))] [(.int (Int32.ofNat i)), (.ref ca), (.int (Int32.ofNat i)), (.ref t)])
      refine X.aload0 Ac (v := (.int (f i))) (own_inN Sc hlt (by omega)) (by rw [own_iN i (by omega)]; exact Hc i hlt) (g := (mkF m 19 #[.val (.ref ca), .val (.int (Int32.ofNat i)), .val (.int (Int32.ofNat N)), .val (.ref t), .val (.int (Int32.ofNat i))] [(.int (Int32.ofNat i)), (.ref ca), (.int (Int32.ofNat i)), (.ref t)])) rfl rfl (Or.inr (Or.inr (Or.inl ⟨rfl, rfl⟩))) d18_19 ?_
      show OFin _ _ _ _ _ _ T (mkF m 20 #[.val (.ref ca), .val (.int (Int32.ofNat i)), .val (.int (Int32.ofNat N)), .val (.ref t), .val (.int (Int32.ofNat i))] [(.int (f i)), (.int (Int32.ofNat i)), (.ref t)])
      refine X.callS (y' := (⟨"java/lang/StringUTF16", "putChar", "([BII)V"⟩ : MethodName)) (hw _ (List.mem_of_getElem? (i := 95) rfl)) (hw _ (List.mem_of_getElem? (i := 96) rfl)) (hw _ (List.mem_of_getElem? (i := 27) rfl)) (hw _ (List.mem_of_getElem? (i := 97) rfl)) (by decide) (argsL := [(.ref t), (.int (Int32.ofNat i)), (.int (f i))]) (rest := []) (su3 l Z a0 hw t i (2 * N) (f i) _ h n0 FB (by omega) (by omega) hn (SA.ext (own_kx KK)) (SH.ext (own_kx KK)) (SL.ext (own_kx KK))) (g := (mkF m 20 #[.val (.ref ca), .val (.int (Int32.ofNat i)), .val (.int (Int32.ofNat N)), .val (.ref t), .val (.int (Int32.ofNat i))] [(.int (f i)), (.int (Int32.ofNat i)), (.ref t)])) rfl rfl pd_pA_BIIr_V rfl rfl (W := 0) (by show 2 * 0 + _ ≤ _; exact Nat.le_of_eq rfl) d18_20 (by decide) (by decide) (by decide) (by decide) ?_
      intro v2 T2 h2 X2 q2
      obtain ⟨rfl, K2, F2⟩ := q2
      show OFin _ _ _ _ _ _ T2 (mkF m 23 #[.val (.ref ca), .val (.int (Int32.ofNat i)), .val (.int (Int32.ofNat N)), .val (.ref t), .val (.int (Int32.ofNat i))] [])
      refine X2.step (fun hA hx hq t_ k_ => XS.iinc hA hx rfl (hb hq d18_23) rfl (l' := #[.val (.ref ca), .val (.int ((Int32.ofNat i) + (1 : Int32))), .val (.int (Int32.ofNat N)), .val (.ref t), .val (.int (Int32.ofNat i))]) rfl k_) ?_
      show OFin _ _ _ _ _ _ T2 (mkF m 26 #[.val (.ref ca), .val (.int ((Int32.ofNat i) + (1 : Int32))), .val (.int (Int32.ofNat N)), .val (.ref t), .val (.int (Int32.ofNat i))] [])
      refine X2.step (fun hA hx hq t_ k_ => XS.iinc hA hx rfl (hb hq d18_26) rfl (l' := #[.val (.ref ca), .val (.int ((Int32.ofNat i) + (1 : Int32))), .val (.int (Int32.ofNat N)), .val (.ref t), .val (.int ((Int32.ofNat i) + (1 : Int32)))]) rfl k_) ?_
      show OFin _ _ _ _ _ _ T2 (mkF m 29 #[.val (.ref ca), .val (.int ((Int32.ofNat i) + (1 : Int32))), .val (.int (Int32.ofNat N)), .val (.ref t), .val (.int ((Int32.ofNat i) + (1 : Int32)))] [])
      rw [own_succ i (by omega)]
      show OFin _ _ _ _ _ _ T2 (mkF m 29 #[.val (.ref ca), .val (.int (Int32.ofNat (i + 1))), .val (.int (Int32.ofNat N)), .val (.ref t), .val (.int (Int32.ofNat (i + 1)))] [])
      refine X2.step (fun hA hx hq t_ k_ => XS.goto hA hx rfl (pc0 := 29) (pc' := 8) rfl (hb hq d18_29) (by decide) (by decide) k_) ?_
      show OFin _ _ _ _ _ _ T2 (mkF m 8 #[.val (.ref ca), .val (.int (Int32.ofNat (i + 1))), .val (.int (Int32.ofNat N)), .val (.ref t), .val (.int (Int32.ofNat (i + 1)))] [])
      refine ih (i + 1) T2 h2 (by omega) X2 (FC.keep K2 (ninS ne nin0)) (F2.congr fun j hj => ?_) (K.trans K2 (allS (Or.inl (List.mem_of_getElem? (i := 0) rfl)) all0))
      rcases (by omega : j = 2 * i + 1 ∨ j = 2 * i ∨ j < 2 * i ∨ 2 * i + 1 < j) with rfl | rfl | c | c
      · rw [if_pos rfl, if_pos (by omega)]
        unfold own_ub
        rw [if_neg (by omega), (by omega : (2 * i + 1) / 2 = i)]
      · rw [if_neg (by omega), if_pos rfl, if_pos (by omega)]
        unfold own_ub
        rw [if_pos (by omega), (by omega : 2 * i / 2 = i)]
      · rw [if_neg (by omega), if_neg (by omega), if_pos c, if_pos (by omega)]
      · rw [if_neg (by omega), if_neg (by omega), if_neg (by omega), if_neg (by omega)]
  exact loop N 0 T1 h1 (by omega) X1 (FC.ext E1) (F1.congr fun j hj => by simp) (Keep.refl _ _)
theorem d22_0 : decode jdk_52_method_5_code 0 = .ok (.getstatic 44, 3) := by decide +kernel
theorem d22_3 : decode jdk_52_method_5_code 3 = .ok (.ifCond .ne 25, 3) := by decide +kernel
theorem d22_28 : decode jdk_52_method_5_code 28 = .ok (.iload_n 1, 1) := by decide +kernel
theorem d22_29 : decode jdk_52_method_5_code 29 = .ok (.iconst 1, 1) := by decide +kernel
theorem d22_30 : decode jdk_52_method_5_code 30 = .ok (.ishl, 1) := by decide +kernel
theorem d22_31 : decode jdk_52_method_5_code 31 = .ok (.istore_n 1, 1) := by decide +kernel
theorem d22_32 : decode jdk_52_method_5_code 32 = .ok (.aload_n 0, 1) := by decide +kernel
theorem d22_33 : decode jdk_52_method_5_code 33 = .ok (.iload_n 1, 1) := by decide +kernel
theorem d22_34 : decode jdk_52_method_5_code 34 = .ok (.iinc 1 1, 3) := by decide +kernel
theorem d22_37 : decode jdk_52_method_5_code 37 = .ok (.baload, 1) := by decide +kernel
theorem d22_38 : decode jdk_52_method_5_code 38 = .ok (.sipush 255, 3) := by decide +kernel
theorem d22_41 : decode jdk_52_method_5_code 41 = .ok (.iand, 1) := by decide +kernel
theorem d22_42 : decode jdk_52_method_5_code 42 = .ok (.getstatic 59, 3) := by decide +kernel
theorem d22_45 : decode jdk_52_method_5_code 45 = .ok (.ishl, 1) := by decide +kernel
theorem d22_46 : decode jdk_52_method_5_code 46 = .ok (.aload_n 0, 1) := by decide +kernel
theorem d22_47 : decode jdk_52_method_5_code 47 = .ok (.iload_n 1, 1) := by decide +kernel
theorem d22_48 : decode jdk_52_method_5_code 48 = .ok (.baload, 1) := by decide +kernel
theorem d22_49 : decode jdk_52_method_5_code 49 = .ok (.sipush 255, 3) := by decide +kernel
theorem d22_52 : decode jdk_52_method_5_code 52 = .ok (.iand, 1) := by decide +kernel
theorem d22_53 : decode jdk_52_method_5_code 53 = .ok (.getstatic 63, 3) := by decide +kernel
theorem d22_56 : decode jdk_52_method_5_code 56 = .ok (.ishl, 1) := by decide +kernel
theorem d22_57 : decode jdk_52_method_5_code 57 = .ok (.ior, 1) := by decide +kernel
theorem d22_58 : decode jdk_52_method_5_code 58 = .ok (.i2c, 1) := by decide +kernel
theorem d22_59 : decode jdk_52_method_5_code 59 = .ok (.ireturn, 1) := by decide +kernel
set_option maxRecDepth 65536 in
set_option maxHeartbeats 40000000 in
theorem su5 (l : Launch) (Z : State) (a0 : Array Value) (hw : ∀ d ∈ tables_1, d.before a0 Z = true) (t : Addr) (i N : Nat) (f : Nat → Int32) (h0 : Heap) (n0 : Nat) (F : OArr Z h0 t .byte (2 * N) (fun k => .int (own_ub f k))) (hi : i < N) (hN : N ≤ 2000) (hfi : own_chr16 (f i)) (SA : Sta Z h0 "java/lang/StringUTF16" "$assertionsDisabled" "Z" (.int 1)) (SH : Sta Z h0 "java/lang/StringUTF16" "HI_BYTE_SHIFT" "I" (.int 0)) (SL : Sta Z h0 "java/lang/StringUTF16" "LO_BYTE_SHIFT" "I" (.int 8)) :
    OMeets l Z (⟨"java/lang/StringUTF16", "getChar", "([BI)C"⟩ : MethodName) [] jdk_52_method_5_code 2 (some .char) ({ frames := 0, cells := 0, slots := 0, locals := 0 } : Room) #[(.ref t), (.int (Int32.ofNat i))] h0 n0 (fun v h => v = some (.int (f i)) ∧ h0 = h) := by
  refine o_enter (Z := Z) (plainFor_of_name pn_java_lang_StringUTF16) ?_
  intro p e s m below meth c T0 X0
  refine OFin.cast (g' := (mkF m 0 #[.val (.ref t), .val (.int (Int32.ofNat i))] [])) (by first | (simp [entryFrame, mkF, argsToLocals, Value.category]; done) | rfl) ?_
  obtain ⟨c1, A1, S1, H1⟩ := id F
  have u0 : own_ub f (2 * i) = own_b0 (f i) := by
    unfold own_ub
    rw [if_pos (by omega), (by omega : 2 * i / 2 = i)]
  have u1 : own_ub f (2 * i + 1) = own_b1 (f i) := by
    unfold own_ub
    rw [if_neg (by omega), (by omega : (2 * i + 1) / 2 = i)]
  refine X0.getS (hw _ (List.mem_of_getElem? (i := 98) rfl)) SA (g := (mkF m 0 #[.val (.ref t), .val (.int (Int32.ofNat i))] [])) rfl d22_0 ?_
  intro T1 X1
  show OFin _ _ _ _ _ _ T1 (mkF m 3 #[.val (.ref t), .val (.int (Int32.ofNat i))] [(.int (1 : Int32))])
  refine X1.step (fun hA hx hq t_ k_ => XS.ifYes hA hx rfl (pc0 := 3) (pc' := 28) rfl (hb hq d22_3) rfl ((if0 _ _).trans (feq ((by decide))).2) (by decide) (by decide) k_) ?_
  show OFin _ _ _ _ _ _ T1 (mkF m 28 #[.val (.ref t), .val (.int (Int32.ofNat i))] [])
  refine X1.step (fun hA hx hq t_ k_ => XS.iloadN hA hx rfl (hb hq d22_28) rfl k_) ?_
  show OFin _ _ _ _ _ _ T1 (mkF m 29 #[.val (.ref t), .val (.int (Int32.ofNat i))] [(.int (Int32.ofNat i))])
  refine X1.step (fun hA hx hq t_ k_ => XS.iconst hA hx rfl (hb hq d22_29) k_) ?_
  show OFin _ _ _ _ _ _ T1 (mkF m 30 #[.val (.ref t), .val (.int (Int32.ofNat i))] [(.int (1 : Int32)), (.int (Int32.ofNat i))])
  refine X1.step (fun hA hx hq t_ k_ => XS.ishl hA hx rfl (hb hq d22_30) rfl k_) ?_
  show OFin _ _ _ _ _ _ T1 (mkF m 31 #[.val (.ref t), .val (.int (Int32.ofNat i))] [(.int ((Int32.ofNat i) <<< ((1 : Int32) &&& 31)))])
  rw [own_shl1 i (by omega)]
  show OFin _ _ _ _ _ _ T1 (mkF m 31 #[.val (.ref t), .val (.int (Int32.ofNat i))] [(.int (Int32.ofNat (2 * i)))])
  refine X1.step (fun hA hx hq t_ k_ => XS.istoreN hA hx rfl (hb hq d22_31) rfl (l' := #[.val (.ref t), .val (.int (Int32.ofNat (2 * i)))]) rfl k_) ?_
  show OFin _ _ _ _ _ _ T1 (mkF m 32 #[.val (.ref t), .val (.int (Int32.ofNat (2 * i)))] [])
  refine X1.step (fun hA hx hq t_ k_ => XS.aloadN hA hx rfl (hb hq d22_32) rfl rfl k_) ?_
  show OFin _ _ _ _ _ _ T1 (mkF m 33 #[.val (.ref t), .val (.int (Int32.ofNat (2 * i)))] [(.ref t)])
  refine X1.step (fun hA hx hq t_ k_ => XS.iloadN hA hx rfl (hb hq d22_33) rfl k_) ?_
  show OFin _ _ _ _ _ _ T1 (mkF m 34 #[.val (.ref t), .val (.int (Int32.ofNat (2 * i)))] [(.int (Int32.ofNat (2 * i))), (.ref t)])
  refine X1.step (fun hA hx hq t_ k_ => XS.iinc hA hx rfl (hb hq d22_34) rfl (l' := #[.val (.ref t), .val (.int ((Int32.ofNat (2 * i)) + (1 : Int32)))]) rfl k_) ?_
  show OFin _ _ _ _ _ _ T1 (mkF m 37 #[.val (.ref t), .val (.int ((Int32.ofNat (2 * i)) + (1 : Int32)))] [(.int (Int32.ofNat (2 * i))), (.ref t)])
  rw [own_succ (2 * i) (by omega)]
  show OFin _ _ _ _ _ _ T1 (mkF m 37 #[.val (.ref t), .val (.int (Int32.ofNat (2 * i + 1)))] [(.int (Int32.ofNat (2 * i))), (.ref t)])
  refine X1.aload0 A1 (v := (.int (own_b0 (f i)))) (own_inN S1 (by omega) (by omega)) (by rw [own_iN (2 * i) (by omega), H1 (2 * i) (by omega)]; show some (Value.int (own_ub f (2 * i))) = _; rw [u0]) (g := (mkF m 37 #[.val (.ref t), .val (.int (Int32.ofNat (2 * i + 1)))] [(.int (Int32.ofNat (2 * i))), (.ref t)])) rfl rfl (Or.inr (Or.inr (Or.inr (Or.inl ⟨rfl, rfl⟩)))) d22_37 ?_
  show OFin _ _ _ _ _ _ T1 (mkF m 38 #[.val (.ref t), .val (.int (Int32.ofNat (2 * i + 1)))] [(.int (own_b0 (f i)))])
  refine X1.step (fun hA hx hq t_ k_ => XS.sipush hA hx rfl (hb hq d22_38) k_) ?_
  show OFin _ _ _ _ _ _ T1 (mkF m 41 #[.val (.ref t), .val (.int (Int32.ofNat (2 * i + 1)))] [(.int (255 : Int32)), (.int (own_b0 (f i)))])
  refine X1.step (fun hA hx hq t_ k_ => XS.iand hA hx rfl (hb hq d22_41) rfl k_) ?_
  show OFin _ _ _ _ _ _ T1 (mkF m 42 #[.val (.ref t), .val (.int (Int32.ofNat (2 * i + 1)))] [(.int ((own_b0 (f i)) &&& (255 : Int32)))])
  refine X1.getS (hw _ (List.mem_of_getElem? (i := 99) rfl)) SH (g := (mkF m 42 #[.val (.ref t), .val (.int (Int32.ofNat (2 * i + 1)))] [(.int ((own_b0 (f i)) &&& (255 : Int32)))])) rfl d22_42 ?_
  intro T2 X2
  show OFin _ _ _ _ _ _ T2 (mkF m 45 #[.val (.ref t), .val (.int (Int32.ofNat (2 * i + 1)))] [(.int (0 : Int32)), (.int ((own_b0 (f i)) &&& (255 : Int32)))])
  refine X2.step (fun hA hx hq t_ k_ => XS.ishl hA hx rfl (hb hq d22_45) rfl k_) ?_
  show OFin _ _ _ _ _ _ T2 (mkF m 46 #[.val (.ref t), .val (.int (Int32.ofNat (2 * i + 1)))] [(.int (((own_b0 (f i)) &&& (255 : Int32)) <<< ((0 : Int32) &&& 31)))])
  refine X2.step (fun hA hx hq t_ k_ => XS.aloadN hA hx rfl (hb hq d22_46) rfl rfl k_) ?_
  show OFin _ _ _ _ _ _ T2 (mkF m 47 #[.val (.ref t), .val (.int (Int32.ofNat (2 * i + 1)))] [(.ref t), (.int (((own_b0 (f i)) &&& (255 : Int32)) <<< ((0 : Int32) &&& 31)))])
  refine X2.step (fun hA hx hq t_ k_ => XS.iloadN hA hx rfl (hb hq d22_47) rfl k_) ?_
  show OFin _ _ _ _ _ _ T2 (mkF m 48 #[.val (.ref t), .val (.int (Int32.ofNat (2 * i + 1)))] [(.int (Int32.ofNat (2 * i + 1))), (.ref t), (.int (((own_b0 (f i)) &&& (255 : Int32)) <<< ((0 : Int32) &&& 31)))])
  refine X2.aload0 A1 (v := (.int (own_b1 (f i)))) (own_inN S1 (by omega) (by omega)) (by rw [own_iN (2 * i + 1) (by omega), H1 (2 * i + 1) (by omega)]; show some (Value.int (own_ub f (2 * i + 1))) = _; rw [u1]) (g := (mkF m 48 #[.val (.ref t), .val (.int (Int32.ofNat (2 * i + 1)))] [(.int (Int32.ofNat (2 * i + 1))), (.ref t), (.int (((own_b0 (f i)) &&& (255 : Int32)) <<< ((0 : Int32) &&& 31)))])) rfl rfl (Or.inr (Or.inr (Or.inr (Or.inl ⟨rfl, rfl⟩)))) d22_48 ?_
  show OFin _ _ _ _ _ _ T2 (mkF m 49 #[.val (.ref t), .val (.int (Int32.ofNat (2 * i + 1)))] [(.int (own_b1 (f i))), (.int (((own_b0 (f i)) &&& (255 : Int32)) <<< ((0 : Int32) &&& 31)))])
  refine X2.step (fun hA hx hq t_ k_ => XS.sipush hA hx rfl (hb hq d22_49) k_) ?_
  show OFin _ _ _ _ _ _ T2 (mkF m 52 #[.val (.ref t), .val (.int (Int32.ofNat (2 * i + 1)))] [(.int (255 : Int32)), (.int (own_b1 (f i))), (.int (((own_b0 (f i)) &&& (255 : Int32)) <<< ((0 : Int32) &&& 31)))])
  refine X2.step (fun hA hx hq t_ k_ => XS.iand hA hx rfl (hb hq d22_52) rfl k_) ?_
  show OFin _ _ _ _ _ _ T2 (mkF m 53 #[.val (.ref t), .val (.int (Int32.ofNat (2 * i + 1)))] [(.int ((own_b1 (f i)) &&& (255 : Int32))), (.int (((own_b0 (f i)) &&& (255 : Int32)) <<< ((0 : Int32) &&& 31)))])
  refine X2.getS (hw _ (List.mem_of_getElem? (i := 100) rfl)) SL (g := (mkF m 53 #[.val (.ref t), .val (.int (Int32.ofNat (2 * i + 1)))] [(.int ((own_b1 (f i)) &&& (255 : Int32))), (.int (((own_b0 (f i)) &&& (255 : Int32)) <<< ((0 : Int32) &&& 31)))])) rfl d22_53 ?_
  intro T3 X3
  show OFin _ _ _ _ _ _ T3 (mkF m 56 #[.val (.ref t), .val (.int (Int32.ofNat (2 * i + 1)))] [(.int (8 : Int32)), (.int ((own_b1 (f i)) &&& (255 : Int32))), (.int (((own_b0 (f i)) &&& (255 : Int32)) <<< ((0 : Int32) &&& 31)))])
  refine X3.step (fun hA hx hq t_ k_ => XS.ishl hA hx rfl (hb hq d22_56) rfl k_) ?_
  show OFin _ _ _ _ _ _ T3 (mkF m 57 #[.val (.ref t), .val (.int (Int32.ofNat (2 * i + 1)))] [(.int (((own_b1 (f i)) &&& (255 : Int32)) <<< ((8 : Int32) &&& 31))), (.int (((own_b0 (f i)) &&& (255 : Int32)) <<< ((0 : Int32) &&& 31)))])
  refine X3.step (fun hA hx hq t_ k_ => XS.ior hA hx rfl (hb hq d22_57) rfl k_) ?_
  show OFin _ _ _ _ _ _ T3 (mkF m 58 #[.val (.ref t), .val (.int (Int32.ofNat (2 * i + 1)))] [(.int ((((own_b0 (f i)) &&& (255 : Int32)) <<< ((0 : Int32) &&& 31)) ||| (((own_b1 (f i)) &&& (255 : Int32)) <<< ((8 : Int32) &&& 31))))])
  refine X3.step (fun hA hx hq t_ k_ => XS.i2c hA hx rfl (hb hq d22_58) rfl k_) ?_
  show OFin _ _ _ _ _ _ T3 (mkF m 59 #[.val (.ref t), .val (.int (Int32.ofNat (2 * i + 1)))] [(.int (((((own_b0 (f i)) &&& (255 : Int32)) <<< ((0 : Int32) &&& 31)) ||| (((own_b1 (f i)) &&& (255 : Int32)) <<< ((8 : Int32) &&& 31))).toUInt32.toUInt16.toUInt32.toInt32))])
  exact X3.retN (by simp) d22_59 (oN (by decide) (by decide)) (⟨by rw [own_gc _ hfi], rfl⟩)
theorem d7_23 : decode jdk_52_method_21_code 23 = .ok (.iload 5, 2) := by decide +kernel
theorem d7_25 : decode jdk_52_method_21_code 25 = .ok (.ireturn, 1) := by decide +kernel
set_option maxRecDepth 65536 in
set_option maxHeartbeats 40000000 in
theorem su6 (l : Launch) (Z : State) (a0 : Array Value) (hw : ∀ d ∈ tables_1, d.before a0 Z = true) (ca ba : Addr) (N d : Nat) (f : Nat → Int32) (g_ : Nat → Value) (h0 : Heap) (n0 : Nat) (FC : OArr Z h0 ca .char N (fun j => .int (f j))) (FB : OArr Z h0 ba .byte N g_) (hN : N ≤ 4000) (hd : d < N) (hd1 : 255 < (f d).toInt) (hd2 : ∀ j, j < d → (f j).toInt ≤ 255) (hnew : n0 ≤ ba) (ne : ca ≠ ba) :
    OMeets l Z (⟨"java/lang/StringUTF16", "compress", "([CI[BII)I"⟩ : MethodName) [] jdk_52_method_21_code 7 (some .int) ({ frames := 0, cells := 0, slots := 0, locals := 0 } : Room) #[(.ref ca), (.int (0 : Int32)), (.ref ba), (.int (0 : Int32)), (.int (Int32.ofNat N))] h0 n0 (fun v h => v = some (.int (Int32.ofNat d)) ∧ Keep h0 h [ba]) := by
  refine o_enter (Z := Z) (plainFor_of_name pn_java_lang_StringUTF16) ?_
  intro p e s m below meth c T0 X0
  refine OFin.cast (g' := (mkF m 0 #[.val (.ref ca), .val (.int (0 : Int32)), .val (.ref ba), .val (.int (0 : Int32)), .val (.int (Int32.ofNat N)), .unset, .unset] [])) (by first | (simp [entryFrame, mkF, argsToLocals, Value.category]; done) | rfl) ?_
  have loop : ∀ (k i : Nat) (T : State) (h : Heap) (s6 : Slot) (g_ : Nat → Value), i + k = d → One s6 → OAt n0 Z (⟨"java/lang/StringUTF16", "compress", "([CI[BII)I"⟩ : MethodName) jdk_52_method_21_code 7 (some .int) p l e ({ frames := 0, cells := 0, slots := 0, locals := 0 } : Room) s m #[(.ref ca), (.int (0 : Int32)), (.ref ba), (.int (0 : Int32)), (.int (Int32.ofNat N))] below meth c T h 0 0 → OArr Z h ca .char N (fun j => .int (f j)) → OArr Z h ba .byte N g_ → Keep h0 h [ba] → OFin n0 p e (fun o t L => FrameEnd s o t L ({ frames := 0, cells := 0, slots := 0, locals := 0 } : Room).cells ({ frames := 0, cells := 0, slots := 0, locals := 0 } : Room).slots) below (fun v h => v = some (.int (Int32.ofNat d)) ∧ Keep h0 h [ba]) T (mkF m 3 #[.val (.ref ca), .val (.int (Int32.ofNat i)), .val (.ref ba), .val (.int (Int32.ofNat i)), .val (.int (Int32.ofNat N)), .val (.int (Int32.ofNat i)), s6] []) := by
    intro k
    induction k with
    | zero =>
      intro i T h s6 g_ hik h6 X FC FB K
      have hid : i = d := by omega
      subst hid
      have hlt : i < N := hd
      obtain ⟨cc, Ac, Sc, Hc⟩ := id FC
      refine X.step (fun hA hx hq t_ k_ => XS.iload hA hx rfl (hb hq d7_3) rfl k_) ?_
      show OFin _ _ _ _ _ _ T (mkF m 5 #[.val (.ref ca), .val (.int (Int32.ofNat i)), .val (.ref ba), .val (.int (Int32.ofNat i)), .val (.int (Int32.ofNat N)), .val (.int (Int32.ofNat i)), s6] [(.int (Int32.ofNat i))])
      refine X.step (fun hA hx hq t_ k_ => XS.iload hA hx rfl (hb hq d7_5) rfl k_) ?_
      show OFin _ _ _ _ _ _ T (mkF m 7 #[.val (.ref ca), .val (.int (Int32.ofNat i)), .val (.ref ba), .val (.int (Int32.ofNat i)), .val (.int (Int32.ofNat N)), .val (.int (Int32.ofNat i)), s6] [(.int (Int32.ofNat N)), (.int (Int32.ofNat i))])
      refine X.step (fun hA hx hq t_ k_ => XS.icmpNo hA hx rfl (hb hq d7_7) rfl (tlt ((own_lt32 i N (by omega) (by omega)).mpr hlt)).2.1 k_) ?_
      show OFin _ _ _ _ _ _ T (mkF m 10 #[.val (.ref ca), .val (.int (Int32.ofNat i)), .val (.ref ba), .val (.int (Int32.ofNat i)), .val (.int (Int32.ofNat N)), .val (.int (Int32.ofNat i)), s6] [])
      refine X.step (fun hA hx hq t_ k_ => XS.aloadN hA hx rfl (hb hq d7_10) rfl rfl k_) ?_
      show OFin _ _ _ _ _ _ T (mkF m 11 #[.val (.ref ca), .val (.int (Int32.ofNat i)), .val (.ref ba), .val (.int (Int32.ofNat i)), .val (.int (Int32.ofNat N)), .val (.int (Int32.ofNat i)), s6] [(.ref ca)])
      refine X.step (fun hA hx hq t_ k_ => XS.iloadN hA hx rfl (hb hq d7_11) rfl k_) ?_
      show OFin _ _ _ _ _ _ T (mkF m 12 #[.val (.ref ca), .val (.int (Int32.ofNat i)), .val (.ref ba), .val (.int (Int32.ofNat i)), .val (.int (Int32.ofNat N)), .val (.int (Int32.ofNat i)), s6] [(.int (Int32.ofNat i)), (.ref ca)])
      refine X.aload0 Ac (v := (.int (f i))) (own_inN Sc hlt (by omega)) (by rw [own_iN i (by omega)]; exact Hc i hlt) (g := (mkF m 12 #[.val (.ref ca), .val (.int (Int32.ofNat i)), .val (.ref ba), .val (.int (Int32.ofNat i)), .val (.int (Int32.ofNat N)), .val (.int (Int32.ofNat i)), s6] [(.int (Int32.ofNat i)), (.ref ca)])) rfl rfl (Or.inr (Or.inr (Or.inl ⟨rfl, rfl⟩))) d7_12 ?_
      show OFin _ _ _ _ _ _ T (mkF m 13 #[.val (.ref ca), .val (.int (Int32.ofNat i)), .val (.ref ba), .val (.int (Int32.ofNat i)), .val (.int (Int32.ofNat N)), .val (.int (Int32.ofNat i)), s6] [(.int (f i))])
      refine X.step (fun hA hx hq t_ k_ => XS.istore hA hx rfl (hb hq d7_13) rfl (l' := #[.val (.ref ca), .val (.int (Int32.ofNat i)), .val (.ref ba), .val (.int (Int32.ofNat i)), .val (.int (Int32.ofNat N)), .val (.int (Int32.ofNat i)), .val (.int (f i))]) (own_s6i h6) k_) ?_
      show OFin _ _ _ _ _ _ T (mkF m 15 #[.val (.ref ca), .val (.int (Int32.ofNat i)), .val (.ref ba), .val (.int (Int32.ofNat i)), .val (.int (Int32.ofNat N)), .val (.int (Int32.ofNat i)), .val (.int (f i))] [])
      refine X.step (fun hA hx hq t_ k_ => XS.iload hA hx rfl (hb hq d7_15) rfl k_) ?_
      show OFin _ _ _ _ _ _ T (mkF m 17 #[.val (.ref ca), .val (.int (Int32.ofNat i)), .val (.ref ba), .val (.int (Int32.ofNat i)), .val (.int (Int32.ofNat N)), .val (.int (Int32.ofNat i)), .val (.int (f i))] [(.int (f i))])
      refine X.step (fun hA hx hq t_ k_ => XS.sipush hA hx rfl (hb hq d7_17) k_) ?_
      show OFin _ _ _ _ _ _ T (mkF m 20 #[.val (.ref ca), .val (.int (Int32.ofNat i)), .val (.ref ba), .val (.int (Int32.ofNat i)), .val (.int (Int32.ofNat N)), .val (.int (Int32.ofNat i)), .val (.int (f i))] [(.int (255 : Int32)), (.int (f i))])
      refine X.step (fun hA hx hq t_ k_ => XS.icmpNo hA hx rfl (hb hq d7_20) rfl (tlt ((by rw [Int32.lt_iff_toInt_lt]; have : (255 : Int32).toInt = 255 := (by decide); omega))).2.2.2 k_) ?_
      show OFin _ _ _ _ _ _ T (mkF m 23 #[.val (.ref ca), .val (.int (Int32.ofNat i)), .val (.ref ba), .val (.int (Int32.ofNat i)), .val (.int (Int32.ofNat N)), .val (.int (Int32.ofNat i)), .val (.int (f i))] [])
      refine X.step (fun hA hx hq t_ k_ => XS.iload hA hx rfl (hb hq d7_23) rfl k_) ?_
      show OFin _ _ _ _ _ _ T (mkF m 25 #[.val (.ref ca), .val (.int (Int32.ofNat i)), .val (.ref ba), .val (.int (Int32.ofNat i)), .val (.int (Int32.ofNat N)), .val (.int (Int32.ofNat i)), .val (.int (f i))] [(.int (Int32.ofNat i))])
      exact X.retI d7_25 (oN (by decide) (by decide)) (⟨rfl, K⟩)
    | succ k ih =>
      intro i T h s6 g_ hik h6 X FC FB K
      have hlt : i < N := by omega
      obtain ⟨cc, Ac, Sc, Hc⟩ := id FC
      obtain ⟨cb, Ab, Sb, Hb⟩ := id FB
      have hi := hd2 i (by omega)
      refine X.step (fun hA hx hq t_ k_ => XS.iload hA hx rfl (hb hq d7_3) rfl k_) ?_
      show OFin _ _ _ _ _ _ T (mkF m 5 #[.val (.ref ca), .val (.int (Int32.ofNat i)), .val (.ref ba), .val (.int (Int32.ofNat i)), .val (.int (Int32.ofNat N)), .val (.int (Int32.ofNat i)), s6] [(.int (Int32.ofNat i))])
      refine X.step (fun hA hx hq t_ k_ => XS.iload hA hx rfl (hb hq d7_5) rfl k_) ?_
      show OFin _ _ _ _ _ _ T (mkF m 7 #[.val (.ref ca), .val (.int (Int32.ofNat i)), .val (.ref ba), .val (.int (Int32.ofNat i)), .val (.int (Int32.ofNat N)), .val (.int (Int32.ofNat i)), s6] [(.int (Int32.ofNat N)), (.int (Int32.ofNat i))])
      refine X.step (fun hA hx hq t_ k_ => XS.icmpNo hA hx rfl (hb hq d7_7) rfl (tlt ((own_lt32 i N (by omega) (by omega)).mpr hlt)).2.1 k_) ?_
      show OFin _ _ _ _ _ _ T (mkF m 10 #[.val (.ref ca), .val (.int (Int32.ofNat i)), .val (.ref ba), .val (.int (Int32.ofNat i)), .val (.int (Int32.ofNat N)), .val (.int (Int32.ofNat i)), s6] [])
      refine X.step (fun hA hx hq t_ k_ => XS.aloadN hA hx rfl (hb hq d7_10) rfl rfl k_) ?_
      show OFin _ _ _ _ _ _ T (mkF m 11 #[.val (.ref ca), .val (.int (Int32.ofNat i)), .val (.ref ba), .val (.int (Int32.ofNat i)), .val (.int (Int32.ofNat N)), .val (.int (Int32.ofNat i)), s6] [(.ref ca)])
      refine X.step (fun hA hx hq t_ k_ => XS.iloadN hA hx rfl (hb hq d7_11) rfl k_) ?_
      show OFin _ _ _ _ _ _ T (mkF m 12 #[.val (.ref ca), .val (.int (Int32.ofNat i)), .val (.ref ba), .val (.int (Int32.ofNat i)), .val (.int (Int32.ofNat N)), .val (.int (Int32.ofNat i)), s6] [(.int (Int32.ofNat i)), (.ref ca)])
      refine X.aload0 Ac (v := (.int (f i))) (own_inN Sc hlt (by omega)) (by rw [own_iN i (by omega)]; exact Hc i hlt) (g := (mkF m 12 #[.val (.ref ca), .val (.int (Int32.ofNat i)), .val (.ref ba), .val (.int (Int32.ofNat i)), .val (.int (Int32.ofNat N)), .val (.int (Int32.ofNat i)), s6] [(.int (Int32.ofNat i)), (.ref ca)])) rfl rfl (Or.inr (Or.inr (Or.inl ⟨rfl, rfl⟩))) d7_12 ?_
      show OFin _ _ _ _ _ _ T (mkF m 13 #[.val (.ref ca), .val (.int (Int32.ofNat i)), .val (.ref ba), .val (.int (Int32.ofNat i)), .val (.int (Int32.ofNat N)), .val (.int (Int32.ofNat i)), s6] [(.int (f i))])
      refine X.step (fun hA hx hq t_ k_ => XS.istore hA hx rfl (hb hq d7_13) rfl (l' := #[.val (.ref ca), .val (.int (Int32.ofNat i)), .val (.ref ba), .val (.int (Int32.ofNat i)), .val (.int (Int32.ofNat N)), .val (.int (Int32.ofNat i)), .val (.int (f i))]) (own_s6i h6) k_) ?_
      show OFin _ _ _ _ _ _ T (mkF m 15 #[.val (.ref ca), .val (.int (Int32.ofNat i)), .val (.ref ba), .val (.int (Int32.ofNat i)), .val (.int (Int32.ofNat N)), .val (.int (Int32.ofNat i)), .val (.int (f i))] [])
      refine X.step (fun hA hx hq t_ k_ => XS.iload hA hx rfl (hb hq d7_15) rfl k_) ?_
      show OFin _ _ _ _ _ _ T (mkF m 17 #[.val (.ref ca), .val (.int (Int32.ofNat i)), .val (.ref ba), .val (.int (Int32.ofNat i)), .val (.int (Int32.ofNat N)), .val (.int (Int32.ofNat i)), .val (.int (f i))] [(.int (f i))])
      refine X.step (fun hA hx hq t_ k_ => XS.sipush hA hx rfl (hb hq d7_17) k_) ?_
      show OFin _ _ _ _ _ _ T (mkF m 20 #[.val (.ref ca), .val (.int (Int32.ofNat i)), .val (.ref ba), .val (.int (Int32.ofNat i)), .val (.int (Int32.ofNat N)), .val (.int (Int32.ofNat i)), .val (.int (f i))] [(.int (255 : Int32)), (.int (f i))])
      refine X.step (fun hA hx hq t_ k_ => XS.icmpYes hA hx rfl (pc0 := 20) (pc' := 26) rfl (hb hq d7_20) rfl (flt ((by rw [Int32.lt_iff_toInt_lt]; have : (255 : Int32).toInt = 255 := (by decide); omega))).2.2.2 (by decide) (by decide) k_) ?_
      show OFin _ _ _ _ _ _ T (mkF m 26 #[.val (.ref ca), .val (.int (Int32.ofNat i)), .val (.ref ba), .val (.int (Int32.ofNat i)), .val (.int (Int32.ofNat N)), .val (.int (Int32.ofNat i)), .val (.int (f i))] [])
      refine X.step (fun hA hx hq t_ k_ => XS.aloadN hA hx rfl (hb hq d7_26) rfl rfl k_) ?_
      show OFin _ _ _ _ _ _ T (mkF m 27 #[.val (.ref ca), .val (.int (Int32.ofNat i)), .val (.ref ba), .val (.int (Int32.ofNat i)), .val (.int (Int32.ofNat N)), .val (.int (Int32.ofNat i)), .val (.int (f i))] [(.ref ba)])
      refine X.step (fun hA hx hq t_ k_ => XS.iloadN hA hx rfl (hb hq d7_27) rfl k_) ?_
      show OFin _ _ _ _ _ _ T (mkF m 28 #[.val (.ref ca), .val (.int (Int32.ofNat i)), .val (.ref ba), .val (.int (Int32.ofNat i)), .val (.int (Int32.ofNat N)), .val (.int (Int32.ofNat i)), .val (.int (f i))] [(.int (Int32.ofNat i)), (.ref ba)])
      refine X.step (fun hA hx hq t_ k_ => XS.iload hA hx rfl (hb hq d7_28) rfl k_) ?_
      show OFin _ _ _ _ _ _ T (mkF m 30 #[.val (.ref ca), .val (.int (Int32.ofNat i)), .val (.ref ba), .val (.int (Int32.ofNat i)), .val (.int (Int32.ofNat N)), .val (.int (Int32.ofNat i)), .val (.int (f i))] [(.int (f i)), (.int (Int32.ofNat i)), (.ref ba)])
      refine X.step (fun hA hx hq t_ k_ => XS.i2b hA hx rfl (hb hq d7_30) rfl k_) ?_
      show OFin _ _ _ _ _ _ T (mkF m 31 #[.val (.ref ca), .val (.int (Int32.ofNat i)), .val (.ref ba), .val (.int (Int32.ofNat i)), .val (.int (Int32.ofNat N)), .val (.int (Int32.ofNat i)), .val (.int (f i))] [(.int ((f i).toInt8.toInt32)), (.int (Int32.ofNat i)), (.ref ba)])
      refine X.stB Ab (own_inN Sb hlt (by omega)) (hnew) (g := (mkF m 31 #[.val (.ref ca), .val (.int (Int32.ofNat i)), .val (.ref ba), .val (.int (Int32.ofNat i)), .val (.int (Int32.ofNat N)), .val (.int (Int32.ofNat i)), .val (.int (f i))] [(.int ((f i).toInt8.toInt32)), (.int (Int32.ofNat i)), (.ref ba)])) rfl rfl d7_31 ?_
      intro T1 h1 X1 W1
      show OFin _ _ _ _ _ _ T1 (mkF m 32 #[.val (.ref ca), .val (.int (Int32.ofNat i)), .val (.ref ba), .val (.int (Int32.ofNat i)), .val (.int (Int32.ofNat N)), .val (.int (Int32.ofNat i)), .val (.int (f i))] [])
      rw [own_iN i (by omega), own_bb] at W1
      refine X1.step (fun hA hx hq t_ k_ => XS.iinc hA hx rfl (hb hq d7_32) rfl (l' := #[.val (.ref ca), .val (.int ((Int32.ofNat i) + (1 : Int32))), .val (.ref ba), .val (.int (Int32.ofNat i)), .val (.int (Int32.ofNat N)), .val (.int (Int32.ofNat i)), .val (.int (f i))]) rfl k_) ?_
      show OFin _ _ _ _ _ _ T1 (mkF m 35 #[.val (.ref ca), .val (.int ((Int32.ofNat i) + (1 : Int32))), .val (.ref ba), .val (.int (Int32.ofNat i)), .val (.int (Int32.ofNat N)), .val (.int (Int32.ofNat i)), .val (.int (f i))] [])
      refine X1.step (fun hA hx hq t_ k_ => XS.iinc hA hx rfl (hb hq d7_35) rfl (l' := #[.val (.ref ca), .val (.int ((Int32.ofNat i) + (1 : Int32))), .val (.ref ba), .val (.int ((Int32.ofNat i) + (1 : Int32))), .val (.int (Int32.ofNat N)), .val (.int (Int32.ofNat i)), .val (.int (f i))]) rfl k_) ?_
      show OFin _ _ _ _ _ _ T1 (mkF m 38 #[.val (.ref ca), .val (.int ((Int32.ofNat i) + (1 : Int32))), .val (.ref ba), .val (.int ((Int32.ofNat i) + (1 : Int32))), .val (.int (Int32.ofNat N)), .val (.int (Int32.ofNat i)), .val (.int (f i))] [])
      refine X1.step (fun hA hx hq t_ k_ => XS.iinc hA hx rfl (hb hq d7_38) rfl (l' := #[.val (.ref ca), .val (.int ((Int32.ofNat i) + (1 : Int32))), .val (.ref ba), .val (.int ((Int32.ofNat i) + (1 : Int32))), .val (.int (Int32.ofNat N)), .val (.int ((Int32.ofNat i) + (1 : Int32))), .val (.int (f i))]) rfl k_) ?_
      show OFin _ _ _ _ _ _ T1 (mkF m 41 #[.val (.ref ca), .val (.int ((Int32.ofNat i) + (1 : Int32))), .val (.ref ba), .val (.int ((Int32.ofNat i) + (1 : Int32))), .val (.int (Int32.ofNat N)), .val (.int ((Int32.ofNat i) + (1 : Int32))), .val (.int (f i))] [])
      rw [own_succ i (by omega)]
      show OFin _ _ _ _ _ _ T1 (mkF m 41 #[.val (.ref ca), .val (.int (Int32.ofNat (i + 1))), .val (.ref ba), .val (.int (Int32.ofNat (i + 1))), .val (.int (Int32.ofNat N)), .val (.int (Int32.ofNat (i + 1))), .val (.int (f i))] [])
      refine X1.step (fun hA hx hq t_ k_ => XS.goto hA hx rfl (pc0 := 41) (pc' := 3) rfl (hb hq d7_41) (by decide) (by decide) k_) ?_
      show OFin _ _ _ _ _ _ T1 (mkF m 3 #[.val (.ref ca), .val (.int (Int32.ofNat (i + 1))), .val (.ref ba), .val (.int (Int32.ofNat (i + 1))), .val (.int (Int32.ofNat N)), .val (.int (Int32.ofNat (i + 1))), .val (.int (f i))] [])
      exact ih (i + 1) T1 h1 _ _ (by omega) (One.val rfl) X1 (FC.other W1 ne) (FB.set W1) (K.wr W1 (Or.inl (List.mem_of_getElem? (i := 0) rfl)))
  refine X0.step (fun hA hx hq t_ k_ => XS.iconst hA hx rfl (hb hq d7_0) k_) ?_
  show OFin _ _ _ _ _ _ T0 (mkF m 1 #[.val (.ref ca), .val (.int (0 : Int32)), .val (.ref ba), .val (.int (0 : Int32)), .val (.int (Int32.ofNat N)), .unset, .unset] [(.int (0 : Int32))])
  refine X0.step (fun hA hx hq t_ k_ => XS.istore hA hx rfl (hb hq d7_1) rfl (l' := #[.val (.ref ca), .val (.int (0 : Int32)), .val (.ref ba), .val (.int (0 : Int32)), .val (.int (Int32.ofNat N)), .val (.int (0 : Int32)), .unset]) rfl k_) ?_
  show OFin _ _ _ _ _ _ T0 (mkF m 3 #[.val (.ref ca), .val (.int (0 : Int32)), .val (.ref ba), .val (.int (0 : Int32)), .val (.int (Int32.ofNat N)), .val (.int (0 : Int32)), .unset] [])
  exact loop d 0 T0 h0 .unset _ (by omega) One.u X0 FC FB (Keep.refl _ _)
theorem d6_20 : decode jdk_52_method_16_code 20 = .ok (.aload_n 0, 1) := by decide +kernel
theorem d6_21 : decode jdk_52_method_16_code 21 = .ok (.iload_n 1, 1) := by decide +kernel
theorem d6_22 : decode jdk_52_method_16_code 22 = .ok (.iload_n 2, 1) := by decide +kernel
theorem d6_23 : decode jdk_52_method_16_code 23 = .ok (.invokestatic 119, 3) := by decide +kernel
theorem d6_26 : decode jdk_52_method_16_code 26 = .ok (.astore 5, 2) := by decide +kernel
theorem d6_28 : decode jdk_52_method_16_code 28 = .ok (.aload 5, 2) := by decide +kernel
theorem d6_30 : decode jdk_52_method_16_code 30 = .ok (.iload 4, 2) := by decide +kernel
theorem d6_32 : decode jdk_52_method_16_code 32 = .ok (.invokestatic 71, 3) := by decide +kernel
theorem pd_pA_BIr_C : parseMethodDescriptor "([BI)C" = some ⟨[(.array .byte), .int], some .char⟩ := by decide +kernel
theorem d6_35 : decode jdk_52_method_16_code 35 = .ok (.sipush 255, 3) := by decide +kernel
theorem d6_38 : decode jdk_52_method_16_code 38 = .ok (.if_icmp .gt 16, 3) := by decide +kernel
theorem d6_54 : decode jdk_52_method_16_code 54 = .ok (.aload 5, 2) := by decide +kernel
theorem d6_56 : decode jdk_52_method_16_code 56 = .ok (.areturn, 1) := by decide +kernel
set_option maxRecDepth 65536 in
set_option maxHeartbeats 40000000 in
theorem su7 (l : Launch) (Z : State) (a0 : Array Value) (hw : ∀ d ∈ tables_1, d.before a0 Z = true) (ca : Addr) (N d : Nat) (f : Nat → Int32) (h0 : Heap) (n0 : Nat) (FC : OArr Z h0 ca .char N (fun j => .int (f j))) (hN : N ≤ 6) (hd : d < N) (hd1 : 255 < (f d).toInt) (hd2 : ∀ j, j < d → (f j).toInt ≤ 255) (hch : ∀ j, own_chr16 (f j)) (Z0 : n0 ≤ h0.size) (SA : Sta Z h0 "java/lang/StringUTF16" "$assertionsDisabled" "Z" (.int 1)) (SH : Sta Z h0 "java/lang/StringUTF16" "HI_BYTE_SHIFT" "I" (.int 0)) (SL : Sta Z h0 "java/lang/StringUTF16" "LO_BYTE_SHIFT" "I" (.int 8)) :
    OMeets l Z (⟨"java/lang/StringUTF16", "compress", "([CII)[B"⟩ : MethodName) [] jdk_52_method_16_code 6 (some (.array .byte)) ({ frames := 3, cells := 2, slots := 18, locals := 40 } : Room) #[(.ref ca), (.int (0 : Int32)), (.int (Int32.ofNat N))] h0 n0 (fun v h => ∃ t, v = some (.ref t) ∧ Keep h0 h [] ∧ OArr Z h t .byte (2 * N) (fun k => .int (own_ub f k)) ∧ h0.size ≤ t) := by
  refine o_enter (Z := Z) (plainFor_of_name pn_java_lang_StringUTF16) ?_
  intro p e s m below meth c T0 X0
  refine OFin.cast (g' := (mkF m 0 #[.val (.ref ca), .val (.int (0 : Int32)), .val (.int (Int32.ofNat N)), .unset, .unset, .unset] [])) (by first | (simp [entryFrame, mkF, argsToLocals, Value.category]; done) | rfl) ?_
  refine X0.step (fun hA hx hq t_ k_ => XS.iloadN hA hx rfl (hb hq d6_0) rfl k_) ?_
  show OFin _ _ _ _ _ _ T0 (mkF m 1 #[.val (.ref ca), .val (.int (0 : Int32)), .val (.int (Int32.ofNat N)), .unset, .unset, .unset] [(.int (Int32.ofNat N))])
  refine X0.newP (hw _ (List.mem_of_getElem? (i := 29) rfl)) (g := (mkF m 1 #[.val (.ref ca), .val (.int (0 : Int32)), .val (.int (Int32.ofNat N)), .unset, .unset, .unset] [(.int (Int32.ofNat N))])) rfl d6_1 rfl (by rw [Int32.lt_iff_toInt_lt, own_i N (by omega)]; have : (0 : Int32).toInt = 0 := (by decide); omega) (cap := 6) (by rw [own_iN N (by omega)]; exact hN) (by decide) (by decide) (by decide) (ad := "[B") (by first | rfl | decide) ?_
  intro T1 h1 k1 b1 gb1 X1 E1 A1 G1
  show OFin _ _ _ _ _ _ T1 (mkF m 3 #[.val (.ref ca), .val (.int (0 : Int32)), .val (.int (Int32.ofNat N)), .unset, .unset, .unset] [(.ref b1)])
  refine X1.step (fun hA hx hq t_ k_ => XS.astoreN hA hx rfl (hb hq d6_3) rfl rfl (l' := #[.val (.ref ca), .val (.int (0 : Int32)), .val (.int (Int32.ofNat N)), .val (.ref b1), .unset, .unset]) rfl k_) ?_
  show OFin _ _ _ _ _ _ T1 (mkF m 4 #[.val (.ref ca), .val (.int (0 : Int32)), .val (.int (Int32.ofNat N)), .val (.ref b1), .unset, .unset] [])
  refine X1.step (fun hA hx hq t_ k_ => XS.aloadN hA hx rfl (hb hq d6_4) rfl rfl k_) ?_
  show OFin _ _ _ _ _ _ T1 (mkF m 5 #[.val (.ref ca), .val (.int (0 : Int32)), .val (.int (Int32.ofNat N)), .val (.ref b1), .unset, .unset] [(.ref ca)])
  refine X1.step (fun hA hx hq t_ k_ => XS.iloadN hA hx rfl (hb hq d6_5) rfl k_) ?_
  show OFin _ _ _ _ _ _ T1 (mkF m 6 #[.val (.ref ca), .val (.int (0 : Int32)), .val (.int (Int32.ofNat N)), .val (.ref b1), .unset, .unset] [(.int (0 : Int32)), (.ref ca)])
  refine X1.step (fun hA hx hq t_ k_ => XS.aloadN hA hx rfl (hb hq d6_6) rfl rfl k_) ?_
  show OFin _ _ _ _ _ _ T1 (mkF m 7 #[.val (.ref ca), .val (.int (0 : Int32)), .val (.int (Int32.ofNat N)), .val (.ref b1), .unset, .unset] [(.ref b1), (.int (0 : Int32)), (.ref ca)])
  refine X1.step (fun hA hx hq t_ k_ => XS.iconst hA hx rfl (hb hq d6_7) k_) ?_
  show OFin _ _ _ _ _ _ T1 (mkF m 8 #[.val (.ref ca), .val (.int (0 : Int32)), .val (.int (Int32.ofNat N)), .val (.ref b1), .unset, .unset] [(.int (0 : Int32)), (.ref b1), (.int (0 : Int32)), (.ref ca)])
  refine X1.step (fun hA hx hq t_ k_ => XS.iloadN hA hx rfl (hb hq d6_8) rfl k_) ?_
  show OFin _ _ _ _ _ _ T1 (mkF m 9 #[.val (.ref ca), .val (.int (0 : Int32)), .val (.int (Int32.ofNat N)), .val (.ref b1), .unset, .unset] [(.int (Int32.ofNat N)), (.int (0 : Int32)), (.ref b1), (.int (0 : Int32)), (.ref ca)])
  have FB : OArr Z h1 b1 .byte N (fun _ => .int 0) := by
    have q := OArr.new A1
    rw [own_iN N (by omega)] at q
    exact q
  refine X1.callS (y' := (⟨"java/lang/StringUTF16", "compress", "([CI[BII)I"⟩ : MethodName)) (hw _ (List.mem_of_getElem? (i := 30) rfl)) (hw _ (List.mem_of_getElem? (i := 31) rfl)) (hw _ (List.mem_of_getElem? (i := 27) rfl)) (hw _ (List.mem_of_getElem? (i := 32) rfl)) (by decide) (argsL := [(.ref ca), (.int (0 : Int32)), (.ref b1), (.int (0 : Int32)), (.int (Int32.ofNat N))]) (rest := []) (su6 l Z a0 hw ca b1 N d f _ h1 n0 (FC.ext E1) FB (by omega) hd hd1 hd2 (by rw [gb1]; exact Z0) (by rw [gb1]; exact Nat.ne_of_lt FC.lt)) (g := (mkF m 9 #[.val (.ref ca), .val (.int (0 : Int32)), .val (.int (Int32.ofNat N)), .val (.ref b1), .unset, .unset] [(.int (Int32.ofNat N)), (.int (0 : Int32)), (.ref b1), (.int (0 : Int32)), (.ref ca)])) rfl rfl pd_pA_CIA_BIIr_I rfl rfl (W := 0) (by show 2 * 0 + _ ≤ _; exact Nat.le_of_eq rfl) d6_9 (by decide) (by decide) (by decide) (by decide) ?_
  intro v2 T2 h2 X2 q2
  obtain ⟨rfl, K2⟩ := q2
  show OFin _ _ _ _ _ _ T2 (mkF m 12 #[.val (.ref ca), .val (.int (0 : Int32)), .val (.int (Int32.ofNat N)), .val (.ref b1), .unset, .unset] [(.int (Int32.ofNat d))])
  refine X2.step (fun hA hx hq t_ k_ => XS.istore hA hx rfl (hb hq d6_12) rfl (l' := #[.val (.ref ca), .val (.int (0 : Int32)), .val (.int (Int32.ofNat N)), .val (.ref b1), .val (.int (Int32.ofNat d)), .unset]) rfl k_) ?_
  show OFin _ _ _ _ _ _ T2 (mkF m 14 #[.val (.ref ca), .val (.int (0 : Int32)), .val (.int (Int32.ofNat N)), .val (.ref b1), .val (.int (Int32.ofNat d)), .unset] [])
  refine X2.step (fun hA hx hq t_ k_ => XS.iload hA hx rfl (hb hq d6_14) rfl k_) ?_
  show OFin _ _ _ _ _ _ T2 (mkF m 16 #[.val (.ref ca), .val (.int (0 : Int32)), .val (.int (Int32.ofNat N)), .val (.ref b1), .val (.int (Int32.ofNat d)), .unset] [(.int (Int32.ofNat d))])
  refine X2.step (fun hA hx hq t_ k_ => XS.iloadN hA hx rfl (hb hq d6_16) rfl k_) ?_
  show OFin _ _ _ _ _ _ T2 (mkF m 17 #[.val (.ref ca), .val (.int (0 : Int32)), .val (.int (Int32.ofNat N)), .val (.ref b1), .val (.int (Int32.ofNat d)), .unset] [(.int (Int32.ofNat N)), (.int (Int32.ofNat d))])
  refine X2.step (fun hA hx hq t_ k_ => XS.icmpNo hA hx rfl (hb hq d6_17) rfl (feq (fun q => by have := (own_eq32 d N (by omega) (by omega)).mp q; omega)).1 k_) ?_
  show OFin _ _ _ _ _ _ T2 (mkF m 20 #[.val (.ref ca), .val (.int (0 : Int32)), .val (.int (Int32.ofNat N)), .val (.ref b1), .val (.int (Int32.ofNat d)), .unset] [])
  refine X2.step (fun hA hx hq t_ k_ => XS.aloadN hA hx rfl (hb hq d6_20) rfl rfl k_) ?_
  show OFin _ _ _ _ _ _ T2 (mkF m 21 #[.val (.ref ca), .val (.int (0 : Int32)), .val (.int (Int32.ofNat N)), .val (.ref b1), .val (.int (Int32.ofNat d)), .unset] [(.ref ca)])
  refine X2.step (fun hA hx hq t_ k_ => XS.iloadN hA hx rfl (hb hq d6_21) rfl k_) ?_
  show OFin _ _ _ _ _ _ T2 (mkF m 22 #[.val (.ref ca), .val (.int (0 : Int32)), .val (.int (Int32.ofNat N)), .val (.ref b1), .val (.int (Int32.ofNat d)), .unset] [(.int (0 : Int32)), (.ref ca)])
  refine X2.step (fun hA hx hq t_ k_ => XS.iloadN hA hx rfl (hb hq d6_22) rfl k_) ?_
  show OFin _ _ _ _ _ _ T2 (mkF m 23 #[.val (.ref ca), .val (.int (0 : Int32)), .val (.int (Int32.ofNat N)), .val (.ref b1), .val (.int (Int32.ofNat d)), .unset] [(.int (Int32.ofNat N)), (.int (0 : Int32)), (.ref ca)])
  have nc : ca ≠ b1 := by rw [gb1]; exact Nat.ne_of_lt FC.lt
  have FC2 := (FC.ext E1).keep K2 (ninS nc nin0)
  have KK : Keep h0 h2 [] := ((Keep.refl h0 []).ext E1).trans K2 (allS (Or.inr (Nat.le_of_eq gb1.symm)) all0)
  have SA2 := SA.ext (own_kx KK)
  have SH2 := SH.ext (own_kx KK)
  have SL2 := SL.ext (own_kx KK)
  refine X2.callS (y' := (⟨"java/lang/StringUTF16", "toBytes", "([CII)[B"⟩ : MethodName)) (hw _ (List.mem_of_getElem? (i := 85) rfl)) (hw _ (List.mem_of_getElem? (i := 86) rfl)) (hw _ (List.mem_of_getElem? (i := 27) rfl)) (hw _ (List.mem_of_getElem? (i := 87) rfl)) (by decide) (argsL := [(.ref ca), (.int (0 : Int32)), (.int (Int32.ofNat N))]) (rest := []) (su4 l Z a0 hw ca N f h2 n0 FC2 hN (Nat.le_trans Z0 (Nat.le_trans E1.1 K2.1)) SA2 SH2 SL2) (g := (mkF m 23 #[.val (.ref ca), .val (.int (0 : Int32)), .val (.int (Int32.ofNat N)), .val (.ref b1), .val (.int (Int32.ofNat d)), .unset] [(.int (Int32.ofNat N)), (.int (0 : Int32)), (.ref ca)])) rfl rfl pd_pA_CIIr_A_B rfl rfl (W := 0) (by show 2 * 0 + _ ≤ _; exact Nat.le_of_eq rfl) d6_23 (by decide) (by decide) (by decide) (by decide) ?_
  intro v3 T3 h3 X3 q3
  obtain ⟨t, rfl, K3, F3, lt3⟩ := q3
  show OFin _ _ _ _ _ _ T3 (mkF m 26 #[.val (.ref ca), .val (.int (0 : Int32)), .val (.int (Int32.ofNat N)), .val (.ref b1), .val (.int (Int32.ofNat d)), .unset] [(.ref t)])
  refine X3.step (fun hA hx hq t_ k_ => XS.astore hA hx rfl (hb hq d6_26) rfl rfl (l' := #[.val (.ref ca), .val (.int (0 : Int32)), .val (.int (Int32.ofNat N)), .val (.ref b1), .val (.int (Int32.ofNat d)), .val (.ref t)]) rfl k_) ?_
  show OFin _ _ _ _ _ _ T3 (mkF m 28 #[.val (.ref ca), .val (.int (0 : Int32)), .val (.int (Int32.ofNat N)), .val (.ref b1), .val (.int (Int32.ofNat d)), .val (.ref t)] [])
  refine X3.step (fun hA hx hq t_ k_ => XS.aload hA hx rfl (hb hq d6_28) rfl rfl k_) ?_
  show OFin _ _ _ _ _ _ T3 (mkF m 30 #[.val (.ref ca), .val (.int (0 : Int32)), .val (.int (Int32.ofNat N)), .val (.ref b1), .val (.int (Int32.ofNat d)), .val (.ref t)] [(.ref t)])
  refine X3.step (fun hA hx hq t_ k_ => XS.iload hA hx rfl (hb hq d6_30) rfl k_) ?_
  show OFin _ _ _ _ _ _ T3 (mkF m 32 #[.val (.ref ca), .val (.int (0 : Int32)), .val (.int (Int32.ofNat N)), .val (.ref b1), .val (.int (Int32.ofNat d)), .val (.ref t)] [(.int (Int32.ofNat d)), (.ref t)])
  refine X3.callS (y' := (⟨"java/lang/StringUTF16", "getChar", "([BI)C"⟩ : MethodName)) (hw _ (List.mem_of_getElem? (i := 101) rfl)) (hw _ (List.mem_of_getElem? (i := 102) rfl)) (hw _ (List.mem_of_getElem? (i := 27) rfl)) (hw _ (List.mem_of_getElem? (i := 103) rfl)) (by decide) (argsL := [(.ref t), (.int (Int32.ofNat d))]) (rest := []) (su5 l Z a0 hw t d N f h3 n0 F3 hd (by omega) (hch d) (SA2.ext (own_kx K3)) (SH2.ext (own_kx K3)) (SL2.ext (own_kx K3))) (g := (mkF m 32 #[.val (.ref ca), .val (.int (0 : Int32)), .val (.int (Int32.ofNat N)), .val (.ref b1), .val (.int (Int32.ofNat d)), .val (.ref t)] [(.int (Int32.ofNat d)), (.ref t)])) rfl rfl pd_pA_BIr_C rfl rfl (W := 0) (by show 2 * 0 + _ ≤ _; exact Nat.le_of_eq rfl) d6_32 (by decide) (by decide) (by decide) (by decide) ?_
  intro v4 T4 h4 X4 q4
  obtain ⟨rfl, rfl⟩ := q4
  show OFin _ _ _ _ _ _ T4 (mkF m 35 #[.val (.ref ca), .val (.int (0 : Int32)), .val (.int (Int32.ofNat N)), .val (.ref b1), .val (.int (Int32.ofNat d)), .val (.ref t)] [(.int (f d))])
  refine X4.step (fun hA hx hq t_ k_ => XS.sipush hA hx rfl (hb hq d6_35) k_) ?_
  show OFin _ _ _ _ _ _ T4 (mkF m 38 #[.val (.ref ca), .val (.int (0 : Int32)), .val (.int (Int32.ofNat N)), .val (.ref b1), .val (.int (Int32.ofNat d)), .val (.ref t)] [(.int (255 : Int32)), (.int (f d))])
  refine X4.step (fun hA hx hq t_ k_ => XS.icmpYes hA hx rfl (pc0 := 38) (pc' := 54) rfl (hb hq d6_38) rfl (tlt ((by rw [Int32.lt_iff_toInt_lt]; have : (255 : Int32).toInt = 255 := (by decide); omega))).2.2.1 (by decide) (by decide) k_) ?_
  show OFin _ _ _ _ _ _ T4 (mkF m 54 #[.val (.ref ca), .val (.int (0 : Int32)), .val (.int (Int32.ofNat N)), .val (.ref b1), .val (.int (Int32.ofNat d)), .val (.ref t)] [])
  refine X4.step (fun hA hx hq t_ k_ => XS.aload hA hx rfl (hb hq d6_54) rfl rfl k_) ?_
  show OFin _ _ _ _ _ _ T4 (mkF m 56 #[.val (.ref ca), .val (.int (0 : Int32)), .val (.int (Int32.ofNat N)), .val (.ref b1), .val (.int (Int32.ofNat d)), .val (.ref t)] [(.ref t)])
  exact X4.retR rfl rfl d6_56 (oN (by decide) (by decide)) (⟨t, rfl, (((Keep.refl h0 []).ext E1).trans K2 (allS (Or.inr (Nat.le_of_eq gb1.symm)) all0)).trans K3 all0, F3, Nat.le_trans (Nat.le_trans E1.1 K2.1) lt3⟩)
set_option maxRecDepth 65536 in
set_option maxHeartbeats 40000000 in
theorem su8 (l : Launch) (Z : State) (a0 : Array Value) (hw : ∀ d ∈ tables_1, d.before a0 Z = true) (t : Addr) (N : Nat) (g_ : Nat → Value) (h0 : Heap) (n0 : Nat) (F : OArr Z h0 t .byte (2 * N) g_) (hN0 : 0 < N) (hN : N ≤ 4000) :
    OMeets l Z (⟨"java/lang/StringUTF16", "coderFromArrayLen", "([BI)B"⟩ : MethodName) [] jdk_52_method_15_code 2 (some .byte) ({ frames := 0, cells := 0, slots := 0, locals := 0 } : Room) #[(.ref t), (.int (Int32.ofNat N))] h0 n0 (fun v h => v = some (.int 1) ∧ h0 = h) := by
  refine o_enter (Z := Z) (plainFor_of_name pn_java_lang_StringUTF16) ?_
  intro p e s m below meth c T0 X0
  refine OFin.cast (g' := (mkF m 0 #[.val (.ref t), .val (.int (Int32.ofNat N))] [])) (by first | (simp [entryFrame, mkF, argsToLocals, Value.category]; done) | rfl) ?_
  obtain ⟨c1, A1, S1, H1⟩ := id F
  refine X0.step (fun hA hx hq t_ k_ => XS.iloadN hA hx rfl (hb hq d8_0) rfl k_) ?_
  show OFin _ _ _ _ _ _ T0 (mkF m 1 #[.val (.ref t), .val (.int (Int32.ofNat N))] [(.int (Int32.ofNat N))])
  refine X0.step (fun hA hx hq t_ k_ => XS.aloadN hA hx rfl (hb hq d8_1) rfl rfl k_) ?_
  show OFin _ _ _ _ _ _ T0 (mkF m 2 #[.val (.ref t), .val (.int (Int32.ofNat N))] [(.ref t), (.int (Int32.ofNat N))])
  refine X0.alen A1 (n := (Int32.ofNat (2 * N))) (by rw [S1]) (g := (mkF m 2 #[.val (.ref t), .val (.int (Int32.ofNat N))] [(.ref t), (.int (Int32.ofNat N))])) rfl rfl d8_2 ?_
  show OFin _ _ _ _ _ _ T0 (mkF m 3 #[.val (.ref t), .val (.int (Int32.ofNat N))] [(.int (Int32.ofNat (2 * N))), (.int (Int32.ofNat N))])
  refine X0.step (fun hA hx hq t_ k_ => XS.isub hA hx rfl (hb hq d8_3) rfl k_) ?_
  show OFin _ _ _ _ _ _ T0 (mkF m 4 #[.val (.ref t), .val (.int (Int32.ofNat N))] [(.int ((Int32.ofNat N) - (Int32.ofNat (2 * N))))])
  refine X0.step (fun hA hx hq t_ k_ => XS.bipush hA hx rfl (hb hq d8_4) k_) ?_
  show OFin _ _ _ _ _ _ T0 (mkF m 6 #[.val (.ref t), .val (.int (Int32.ofNat N))] [(.int (31 : Int32)), (.int ((Int32.ofNat N) - (Int32.ofNat (2 * N))))])
  refine X0.step (fun hA hx hq t_ k_ => XS.iushr hA hx rfl (hb hq d8_6) rfl k_) ?_
  show OFin _ _ _ _ _ _ T0 (mkF m 7 #[.val (.ref t), .val (.int (Int32.ofNat N))] [(.int ((((Int32.ofNat N) - (Int32.ofNat (2 * N))).toUInt32 >>> ((31 : Int32) &&& 31).toUInt32).toInt32))])
  refine X0.step (fun hA hx hq t_ k_ => XS.i2b hA hx rfl (hb hq d8_7) rfl k_) ?_
  show OFin _ _ _ _ _ _ T0 (mkF m 8 #[.val (.ref t), .val (.int (Int32.ofNat N))] [(.int (((((Int32.ofNat N) - (Int32.ofNat (2 * N))).toUInt32 >>> ((31 : Int32) &&& 31).toUInt32).toInt32).toInt8.toInt32))])
  exact X0.retN (by simp) d8_8 (oN (by decide) (by decide)) (⟨by rw [own_cf N hN0 hN], rfl⟩)
set_option maxRecDepth 65536 in
set_option maxHeartbeats 40000000 in
theorem su9 (l : Launch) (Z : State) (a0 : Array Value) (hw : ∀ d ∈ tables_1, d.before a0 Z = true) (a1 ca : Addr) (N d : Nat) (f : Nat → Int32) (cs : Int32) (h0 : Heap) (n0 : Nat) (F1 : Fld Z h0 a1 "java/lang/String" "value" "[B" .null) (F2 : Fld Z h0 a1 "java/lang/String" "coder" "B" (.int 0)) (E : Exa Z h0 a1 "java/lang/String") (hn : n0 ≤ a1) (FC : OArr Z h0 ca .char N (fun j => .int (f j))) (hN : N ≤ 6) (hd : d < N) (hd1 : 255 < (f d).toInt) (hd2 : ∀ j, j < d → (f j).toInt ≤ 255) (hch : ∀ j, own_chr16 (f j)) (Z0 : n0 ≤ h0.size) (SA : Sta Z h0 "java/lang/StringUTF16" "$assertionsDisabled" "Z" (.int 1)) (SH : Sta Z h0 "java/lang/StringUTF16" "HI_BYTE_SHIFT" "I" (.int 0)) (SL : Sta Z h0 "java/lang/StringUTF16" "LO_BYTE_SHIFT" "I" (.int 8)) (SS : Sta Z h0 "java/lang/String" "COMPACT_STRINGS" "Z" (.int cs)) (hcs : ¬ cs = 0) :
    OMeets l Z (⟨"java/lang/String", "<init>", "([CIILjava/lang/Void;)V"⟩ : MethodName) [] jdk_42_method_149_code 6 none ({ frames := 4, cells := 2, slots := 18, locals := 57 } : Room) #[(.ref a1), (.ref ca), (.int (0 : Int32)), (.int (Int32.ofNat N)), .null] h0 n0 (fun v h => v = none ∧ Keep h0 h [a1] ∧ ∃ t, OStr16 Z h a1 t N f) := by
  refine o_enter (Z := Z) (plainFor_of_name pn_java_lang_String) ?_
  intro p e s m below meth c T0 X0
  refine OFin.cast (g' := (mkF m 0 #[.val (.ref a1), .val (.ref ca), .val (.int (0 : Int32)), .val (.int (Int32.ofNat N)), .val .null, .unset] [])) (by first | (simp [entryFrame, mkF, argsToLocals, Value.category]; done) | rfl) ?_
  have sne := (slot_ne (Or.inr (hw _ (List.mem_of_getElem? (i := 39) rfl))) (Or.inr (hw _ (List.mem_of_getElem? (i := 37) rfl))) (by decide) (t := (.array .byte)) (t' := .byte) (by decide) (by decide))
  refine X0.step (fun hA hx hq t_ k_ => XS.aloadN hA hx rfl (hb hq d4_0) rfl rfl k_) ?_
  show OFin _ _ _ _ _ _ T0 (mkF m 1 #[.val (.ref a1), .val (.ref ca), .val (.int (0 : Int32)), .val (.int (Int32.ofNat N)), .val .null, .unset] [(.ref a1)])
  refine X0.initO (hw _ (List.mem_of_getElem? (i := 21) rfl)) (hw _ (List.mem_of_getElem? (i := 22) rfl)) (hw _ (List.mem_of_getElem? (i := 23) rfl)) (g := (mkF m 1 #[.val (.ref a1), .val (.ref ca), .val (.int (0 : Int32)), .val (.int (Int32.ofNat N)), .val .null, .unset] [(.ref a1)])) rfl rfl rfl d4_1 (by decide) (W := 0) (by show 2 * 0 + _ ≤ _; exact Nat.le_of_eq rfl) (by decide) ?_
  intro T1 X1
  show OFin _ _ _ _ _ _ T1 (mkF m 4 #[.val (.ref a1), .val (.ref ca), .val (.int (0 : Int32)), .val (.int (Int32.ofNat N)), .val .null, .unset] [])
  refine X1.step (fun hA hx hq t_ k_ => XS.iloadN hA hx rfl (hb hq d4_4) rfl k_) ?_
  show OFin _ _ _ _ _ _ T1 (mkF m 5 #[.val (.ref a1), .val (.ref ca), .val (.int (0 : Int32)), .val (.int (Int32.ofNat N)), .val .null, .unset] [(.int (Int32.ofNat N))])
  refine X1.step (fun hA hx hq t_ k_ => XS.ifYes hA hx rfl (pc0 := 5) (pc' := 27) rfl (hb hq d4_5) rfl ((if0 _ _).trans (feq (fun q => by have := (own_eq32 N 0 (by omega) (by decide)).mp q; omega)).2) (by decide) (by decide) k_) ?_
  show OFin _ _ _ _ _ _ T1 (mkF m 27 #[.val (.ref a1), .val (.ref ca), .val (.int (0 : Int32)), .val (.int (Int32.ofNat N)), .val .null, .unset] [])
  refine X1.getS (hw _ (List.mem_of_getElem? (i := 24) rfl)) SS (g := (mkF m 27 #[.val (.ref a1), .val (.ref ca), .val (.int (0 : Int32)), .val (.int (Int32.ofNat N)), .val .null, .unset] [])) rfl d4_27 ?_
  intro T2 X2
  show OFin _ _ _ _ _ _ T2 (mkF m 30 #[.val (.ref a1), .val (.ref ca), .val (.int (0 : Int32)), .val (.int (Int32.ofNat N)), .val .null, .unset] [(.int cs)])
  refine X2.step (fun hA hx hq t_ k_ => XS.ifNo hA hx rfl (hb hq d4_30) rfl ((if0 _ _).trans (feq (hcs)).1) k_) ?_
  show OFin _ _ _ _ _ _ T2 (mkF m 33 #[.val (.ref a1), .val (.ref ca), .val (.int (0 : Int32)), .val (.int (Int32.ofNat N)), .val .null, .unset] [])
  refine X2.step (fun hA hx hq t_ k_ => XS.aloadN hA hx rfl (hb hq d4_33) rfl rfl k_) ?_
  show OFin _ _ _ _ _ _ T2 (mkF m 34 #[.val (.ref a1), .val (.ref ca), .val (.int (0 : Int32)), .val (.int (Int32.ofNat N)), .val .null, .unset] [(.ref ca)])
  refine X2.step (fun hA hx hq t_ k_ => XS.iloadN hA hx rfl (hb hq d4_34) rfl k_) ?_
  show OFin _ _ _ _ _ _ T2 (mkF m 35 #[.val (.ref a1), .val (.ref ca), .val (.int (0 : Int32)), .val (.int (Int32.ofNat N)), .val .null, .unset] [(.int (0 : Int32)), (.ref ca)])
  refine X2.step (fun hA hx hq t_ k_ => XS.iloadN hA hx rfl (hb hq d4_35) rfl k_) ?_
  show OFin _ _ _ _ _ _ T2 (mkF m 36 #[.val (.ref a1), .val (.ref ca), .val (.int (0 : Int32)), .val (.int (Int32.ofNat N)), .val .null, .unset] [(.int (Int32.ofNat N)), (.int (0 : Int32)), (.ref ca)])
  refine X2.callS (y' := (⟨"java/lang/StringUTF16", "compress", "([CII)[B"⟩ : MethodName)) (hw _ (List.mem_of_getElem? (i := 25) rfl)) (hw _ (List.mem_of_getElem? (i := 26) rfl)) (hw _ (List.mem_of_getElem? (i := 27) rfl)) (hw _ (List.mem_of_getElem? (i := 28) rfl)) (by decide) (argsL := [(.ref ca), (.int (0 : Int32)), (.int (Int32.ofNat N))]) (rest := []) (su7 l Z a0 hw ca N d f h0 n0 FC hN hd hd1 hd2 hch Z0 SA SH SL) (g := (mkF m 36 #[.val (.ref a1), .val (.ref ca), .val (.int (0 : Int32)), .val (.int (Int32.ofNat N)), .val .null, .unset] [(.int (Int32.ofNat N)), (.int (0 : Int32)), (.ref ca)])) rfl rfl pd_pA_CIIr_A_B rfl rfl (W := 0) (by show 2 * 0 + _ ≤ _; exact Nat.le_of_eq rfl) d4_36 (by decide) (by decide) (by decide) (by decide) ?_
  intro v3 T3 h3 X3 q3
  obtain ⟨t, rfl, K3, B3, lt3⟩ := q3
  show OFin _ _ _ _ _ _ T3 (mkF m 39 #[.val (.ref a1), .val (.ref ca), .val (.int (0 : Int32)), .val (.int (Int32.ofNat N)), .val .null, .unset] [(.ref t)])
  refine X3.step (fun hA hx hq t_ k_ => XS.astore hA hx rfl (hb hq d4_39) rfl rfl (l' := #[.val (.ref a1), .val (.ref ca), .val (.int (0 : Int32)), .val (.int (Int32.ofNat N)), .val .null, .val (.ref t)]) rfl k_) ?_
  show OFin _ _ _ _ _ _ T3 (mkF m 41 #[.val (.ref a1), .val (.ref ca), .val (.int (0 : Int32)), .val (.int (Int32.ofNat N)), .val .null, .val (.ref t)] [])
  refine X3.step (fun hA hx hq t_ k_ => XS.aloadN hA hx rfl (hb hq d4_41) rfl rfl k_) ?_
  show OFin _ _ _ _ _ _ T3 (mkF m 42 #[.val (.ref a1), .val (.ref ca), .val (.int (0 : Int32)), .val (.int (Int32.ofNat N)), .val .null, .val (.ref t)] [(.ref a1)])
  refine X3.step (fun hA hx hq t_ k_ => XS.aload hA hx rfl (hb hq d4_42) rfl rfl k_) ?_
  show OFin _ _ _ _ _ _ T3 (mkF m 44 #[.val (.ref a1), .val (.ref ca), .val (.int (0 : Int32)), .val (.int (Int32.ofNat N)), .val .null, .val (.ref t)] [(.ref t), (.ref a1)])
  refine X3.step (fun hA hx hq t_ k_ => XS.iloadN hA hx rfl (hb hq d4_44) rfl k_) ?_
  show OFin _ _ _ _ _ _ T3 (mkF m 45 #[.val (.ref a1), .val (.ref ca), .val (.int (0 : Int32)), .val (.int (Int32.ofNat N)), .val .null, .val (.ref t)] [(.int (Int32.ofNat N)), (.ref t), (.ref a1)])
  refine X3.callS (y' := (⟨"java/lang/StringUTF16", "coderFromArrayLen", "([BI)B"⟩ : MethodName)) (hw _ (List.mem_of_getElem? (i := 33) rfl)) (hw _ (List.mem_of_getElem? (i := 34) rfl)) (hw _ (List.mem_of_getElem? (i := 27) rfl)) (hw _ (List.mem_of_getElem? (i := 35) rfl)) (by decide) (argsL := [(.ref t), (.int (Int32.ofNat N))]) (rest := [(.ref a1)]) (su8 l Z a0 hw t N _ h3 n0 B3 (by omega) (by omega)) (g := (mkF m 45 #[.val (.ref a1), .val (.ref ca), .val (.int (0 : Int32)), .val (.int (Int32.ofNat N)), .val .null, .val (.ref t)] [(.int (Int32.ofNat N)), (.ref t), (.ref a1)])) rfl rfl pd_pA_BIr_B rfl rfl (W := 1) (by show 2 * 0 + _ ≤ _; exact Nat.le_of_eq rfl) d4_45 (by decide) (by decide) (by decide) (by decide) ?_
  intro v4 T4 h4 X4 q4
  obtain ⟨rfl, rfl⟩ := q4
  show OFin _ _ _ _ _ _ T4 (mkF m 48 #[.val (.ref a1), .val (.ref ca), .val (.int (0 : Int32)), .val (.int (Int32.ofNat N)), .val .null, .val (.ref t)] [(.int (1 : Int32)), (.ref a1)])
  have ta : t ≠ a1 := Nat.ne_of_gt (Nat.lt_of_lt_of_le E.lt lt3)
  refine X4.putF (hw _ (List.mem_of_getElem? (i := 36) rfl)) (F2.keep K3 nin0) (E.keep K3) (Or.inr ⟨(hw _ (List.mem_of_getElem? (i := 37) rfl)), rfl, rfl⟩) (hw _ (List.mem_of_getElem? (i := 12) rfl)) (ty := .byte) (by decide) rfl rfl hn (g := (mkF m 48 #[.val (.ref a1), .val (.ref ca), .val (.int (0 : Int32)), .val (.int (Int32.ofNat N)), .val .null, .val (.ref t)] [(.int (1 : Int32)), (.ref a1)])) rfl rfl d4_48 ?_
  intro T5 h5 X5 W5
  show OFin _ _ _ _ _ _ T5 (mkF m 51 #[.val (.ref a1), .val (.ref ca), .val (.int (0 : Int32)), .val (.int (Int32.ofNat N)), .val .null, .val (.ref t)] [])
  refine X5.step (fun hA hx hq t_ k_ => XS.aloadN hA hx rfl (hb hq d4_51) rfl rfl k_) ?_
  show OFin _ _ _ _ _ _ T5 (mkF m 52 #[.val (.ref a1), .val (.ref ca), .val (.int (0 : Int32)), .val (.int (Int32.ofNat N)), .val .null, .val (.ref t)] [(.ref a1)])
  refine X5.step (fun hA hx hq t_ k_ => XS.aload hA hx rfl (hb hq d4_52) rfl rfl k_) ?_
  show OFin _ _ _ _ _ _ T5 (mkF m 54 #[.val (.ref a1), .val (.ref ca), .val (.int (0 : Int32)), .val (.int (Int32.ofNat N)), .val .null, .val (.ref t)] [(.ref t), (.ref a1)])
  refine X5.putF (hw _ (List.mem_of_getElem? (i := 38) rfl)) ((F1.keep K3 nin0).other W5 (Or.inr sne)) ((E.keep K3).wr W5) (Or.inr ⟨(hw _ (List.mem_of_getElem? (i := 39) rfl)), rfl, rfl⟩) (hw _ (List.mem_of_getElem? (i := 12) rfl)) (ty := (.array .byte)) (by decide) rfl rfl hn (g := (mkF m 54 #[.val (.ref a1), .val (.ref ca), .val (.int (0 : Int32)), .val (.int (Int32.ofNat N)), .val .null, .val (.ref t)] [(.ref t), (.ref a1)])) rfl rfl d4_54 ?_
  intro T6 h6 X6 W6
  show OFin _ _ _ _ _ _ T6 (mkF m 57 #[.val (.ref a1), .val (.ref ca), .val (.int (0 : Int32)), .val (.int (Int32.ofNat N)), .val .null, .val (.ref t)] [])
  exact X6.retV d4_57 (oN (by decide) (by decide)) (⟨rfl, (((Keep.refl h0 [a1]).trans K3 all0).wr W5 (Or.inl (List.mem_of_getElem? (i := 0) rfl))).wr W6 (Or.inl (List.mem_of_getElem? (i := 0) rfl)), t, ((E.keep K3).wr W5).wr W6, ((F2.keep K3 nin0).same W5).other W6 (Or.inr (Ne.symm sne)), ((F1.keep K3 nin0).other W5 (Or.inr sne)).same W6, (B3.other W5 ta).other W6 ta⟩)
set_option maxRecDepth 65536 in
set_option maxHeartbeats 40000000 in
theorem sm5x (l : Launch) (Z : State) (a0 : Array Value) (hw : ∀ d ∈ tables_1, d.before a0 Z = true) (a1 ca : Addr) (N : Nat) (f : Nat → Int32) (cs : Int32) (h0 : Heap) (n0 : Nat) (F1 : Fld Z h0 a1 "java/lang/String" "value" "[B" .null) (F2 : Fld Z h0 a1 "java/lang/String" "coder" "B" (.int 0)) (E : Exa Z h0 a1 "java/lang/String") (hn : n0 ≤ a1) (FC : OArr Z h0 ca .char N (fun j => .int (f j))) (hN : N ≤ 6) (hch : ∀ j, own_chr16 (f j)) (Z0 : n0 ≤ h0.size) (SA : Sta Z h0 "java/lang/StringUTF16" "$assertionsDisabled" "Z" (.int 1)) (SH : Sta Z h0 "java/lang/StringUTF16" "HI_BYTE_SHIFT" "I" (.int 0)) (SL : Sta Z h0 "java/lang/StringUTF16" "LO_BYTE_SHIFT" "I" (.int 8)) (SS : Sta Z h0 "java/lang/String" "COMPACT_STRINGS" "Z" (.int cs)) (hcs : ¬ cs = 0) :
    OMeetsW l Z own_EL (⟨"java/lang/String", "<init>", "([C)V"⟩ : MethodName) [] jdk_42_method_3_code 2 none ({ frames := 5, cells := 4, slots := 18, locals := 74 } : Room) #[(.ref a1), (.ref ca)] h0 n0 (fun v h => v = none ∧ Keep h0 h [a1] ∧ OStrX Z h a1 N f) := by
  refine o_enterW (Z := Z) (own_EW hw) (plainFor_of_name pn_java_lang_String) ?_
  intro p e s m below meth c T0 X0 B0
  refine OFin.cast (g' := (mkF m 0 #[.val (.ref a1), .val (.ref ca)] [])) (by first | (simp [entryFrame, mkF, argsToLocals, Value.category]; done) | rfl) ?_
  obtain ⟨c1, A1, S1, H1⟩ := id FC
  refine X0.step (fun hA hx hq t_ k_ => XS.aloadN hA hx rfl (hb hq d3_0) rfl rfl k_) ?_
  show OFin _ _ _ _ _ _ T0 (mkF m 1 #[.val (.ref a1), .val (.ref ca)] [(.ref a1)])
  refine X0.step (fun hA hx hq t_ k_ => XS.aloadN hA hx rfl (hb hq d3_1) rfl rfl k_) ?_
  show OFin _ _ _ _ _ _ T0 (mkF m 2 #[.val (.ref a1), .val (.ref ca)] [(.ref ca), (.ref a1)])
  refine X0.step (fun hA hx hq t_ k_ => XS.iconst hA hx rfl (hb hq d3_2) k_) ?_
  show OFin _ _ _ _ _ _ T0 (mkF m 3 #[.val (.ref a1), .val (.ref ca)] [(.int (0 : Int32)), (.ref ca), (.ref a1)])
  refine X0.step (fun hA hx hq t_ k_ => XS.aloadN hA hx rfl (hb hq d3_3) rfl rfl k_) ?_
  show OFin _ _ _ _ _ _ T0 (mkF m 4 #[.val (.ref a1), .val (.ref ca)] [(.ref ca), (.int (0 : Int32)), (.ref ca), (.ref a1)])
  refine X0.alen A1 (n := (Int32.ofNat N)) (by rw [S1]) (g := (mkF m 4 #[.val (.ref a1), .val (.ref ca)] [(.ref ca), (.int (0 : Int32)), (.ref ca), (.ref a1)])) rfl rfl d3_4 ?_
  show OFin _ _ _ _ _ _ T0 (mkF m 5 #[.val (.ref a1), .val (.ref ca)] [(.int (Int32.ofNat N)), (.int (0 : Int32)), (.ref ca), (.ref a1)])
  refine X0.step (fun hA hx hq t_ k_ => XS.aconstNull hA hx rfl (hb hq d3_5) k_) ?_
  show OFin _ _ _ _ _ _ T0 (mkF m 6 #[.val (.ref a1), .val (.ref ca)] [.null, (.int (Int32.ofNat N)), (.int (0 : Int32)), (.ref ca), (.ref a1)])
  rcases Nat.eq_zero_or_pos N with rfl | hN0
  · show OFin _ _ _ _ _ _ T0 (mkF m 6 #[.val (.ref a1), .val (.ref ca)] [.null, (.int (0 : Int32)), (.int (0 : Int32)), (.ref ca), (.ref a1)])
    refine X0.callIW B0 (y' := (⟨"java/lang/String", "<init>", "([CIILjava/lang/Void;)V"⟩ : MethodName)) rfl (hw _ (List.mem_of_getElem? (i := 17) rfl)) (hw _ (List.mem_of_getElem? (i := 18) rfl)) (hw _ (List.mem_of_getElem? (i := 13) rfl)) (hw _ (List.mem_of_getElem? (i := 20) rfl)) (by decide) (a := a1) (argsL := [(.ref ca), (.int (0 : Int32)), (.int (0 : Int32)), .null]) (rest := []) (sm4e l Z a0 hw a1 ca f h0 n0 F1 F2 E hn) (g := (mkF m 6 #[.val (.ref a1), .val (.ref ca)] [.null, (.int (0 : Int32)), (.int (0 : Int32)), (.ref ca), (.ref a1)])) rfl rfl pd_pA_CIILjava_lang_Void_r_V rfl rfl (W := 0) (by show 2 * 0 + _ ≤ _; exact Nat.le_of_eq rfl) d3_6 (by decide) (by decide) (by decide) (by decide) ?_
    intro v1 T1 h1 vm1 X1 B1 G1 Sf1 q1
    obtain ⟨rfl, K1, t, S1⟩ := q1
    show OFin _ _ _ _ _ _ T1 (mkF m 9 #[.val (.ref a1), .val (.ref ca)] [])
    exact X1.retV d3_9 (oW X1 B1 (by decide) (by decide)) (⟨rfl, K1, t, Or.inl ⟨S1, fun j h => absurd h (Nat.not_lt_zero j)⟩⟩)
  · rcases own_fst f N with hl | ⟨d, hd, hd1, hd2⟩
    · refine X0.callI (y' := (⟨"java/lang/String", "<init>", "([CIILjava/lang/Void;)V"⟩ : MethodName)) rfl (hw _ (List.mem_of_getElem? (i := 17) rfl)) (hw _ (List.mem_of_getElem? (i := 18) rfl)) (hw _ (List.mem_of_getElem? (i := 13) rfl)) (hw _ (List.mem_of_getElem? (i := 20) rfl)) (by decide) (a := a1) (argsL := [(.ref ca), (.int (0 : Int32)), (.int (Int32.ofNat N)), .null]) (rest := []) (sm4 l Z a0 hw a1 ca N f cs h0 n0 F1 F2 E hn FC hN0 hN (fun j hj => ⟨(hch j).1, hl j hj⟩) Z0 SS hcs) (g := (mkF m 6 #[.val (.ref a1), .val (.ref ca)] [.null, (.int (Int32.ofNat N)), (.int (0 : Int32)), (.ref ca), (.ref a1)])) rfl rfl pd_pA_CIILjava_lang_Void_r_V rfl rfl (W := 0) (by show 2 * 0 + _ ≤ _; exact Nat.le_of_eq rfl) d3_6 (by decide) (by decide) (by decide) (by decide) ?_
      intro v2 T2 h2 X2 q2
      obtain ⟨rfl, K2, t, S2, lt2⟩ := q2
      have B3 := B0.keep K2 (sfS (own_safeNull X0.1.2.1.alike E F1) sf0)
      show OFin _ _ _ _ _ _ T2 (mkF m 9 #[.val (.ref a1), .val (.ref ca)] [])
      exact X2.retV d3_9 (oW X2 B3 (by decide) (by decide)) (⟨rfl, K2, t, Or.inl ⟨S2, hl⟩⟩)
    · refine X0.callI (y' := (⟨"java/lang/String", "<init>", "([CIILjava/lang/Void;)V"⟩ : MethodName)) rfl (hw _ (List.mem_of_getElem? (i := 17) rfl)) (hw _ (List.mem_of_getElem? (i := 18) rfl)) (hw _ (List.mem_of_getElem? (i := 13) rfl)) (hw _ (List.mem_of_getElem? (i := 20) rfl)) (by decide) (a := a1) (argsL := [(.ref ca), (.int (0 : Int32)), (.int (Int32.ofNat N)), .null]) (rest := []) (su9 l Z a0 hw a1 ca N d f cs h0 n0 F1 F2 E hn FC hN hd hd1 hd2 hch Z0 SA SH SL SS hcs) (g := (mkF m 6 #[.val (.ref a1), .val (.ref ca)] [.null, (.int (Int32.ofNat N)), (.int (0 : Int32)), (.ref ca), (.ref a1)])) rfl rfl pd_pA_CIILjava_lang_Void_r_V rfl rfl (W := 0) (by show 2 * 0 + _ ≤ _; exact Nat.le_of_eq rfl) d3_6 (by decide) (by decide) (by decide) (by decide) ?_
      intro v4 T4 h4 X4 q4
      obtain ⟨rfl, K4, t, S4⟩ := q4
      have B5 := B0.keep K4 (sfS (own_safeNull X0.1.2.1.alike E F1) sf0)
      show OFin _ _ _ _ _ _ T4 (mkF m 9 #[.val (.ref a1), .val (.ref ca)] [])
      exact X4.retV d3_9 (oW X4 B5 (by decide) (by decide)) (⟨rfl, K4, t, Or.inr S4⟩)
theorem d12_0 : decode jdk_42_method_152_code 0 = .ok (.getstatic 38, 3) := by decide +kernel
theorem d12_3 : decode jdk_42_method_152_code 3 = .ok (.ifCond .eq 10, 3) := by decide +kernel
theorem d12_6 : decode jdk_42_method_152_code 6 = .ok (.aload_n 0, 1) := by decide +kernel
theorem d12_7 : decode jdk_42_method_152_code 7 = .ok (.getfield 15, 3) := by decide +kernel
theorem d12_10 : decode jdk_42_method_152_code 10 = .ok (.goto 4, 3) := by decide +kernel
theorem d12_14 : decode jdk_42_method_152_code 14 = .ok (.ireturn, 1) := by decide +kernel
set_option maxRecDepth 65536 in
set_option maxHeartbeats 40000000 in
theorem sl1 (l : Launch) (Z : State) (a0 : Array Value) (hw : ∀ d ∈ tables_1, d.before a0 Z = true) (a1 t : Addr) (N : Nat) (f : Nat → Int32) (cs : Int32) (h0 : Heap) (n0 : Nat) (S : OStr Z h0 a1 t N f) (hN : N ≤ 4000) (SS : Sta Z h0 "java/lang/String" "COMPACT_STRINGS" "Z" (.int cs)) (hcs : ¬ cs = 0) :
    OMeets l Z (⟨"java/lang/String", "coder", "()B"⟩ : MethodName) [] jdk_42_method_152_code 1 (some .byte) ({ frames := 0, cells := 0, slots := 0, locals := 0 } : Room) #[(.ref a1)] h0 n0 (fun v h => v = some (.int 0) ∧ h0 = h) := by
  refine o_enter (Z := Z) (plainFor_of_name pn_java_lang_String) ?_
  intro p e s m below meth c T0 X0
  refine OFin.cast (g' := (mkF m 0 #[.val (.ref a1)] [])) (by first | (simp [entryFrame, mkF, argsToLocals, Value.category]; done) | rfl) ?_
  refine X0.getS (hw _ (List.mem_of_getElem? (i := 24) rfl)) SS (g := (mkF m 0 #[.val (.ref a1)] [])) rfl d12_0 ?_
  intro T1 X1
  show OFin _ _ _ _ _ _ T1 (mkF m 3 #[.val (.ref a1)] [(.int cs)])
  refine X1.step (fun hA hx hq t_ k_ => XS.ifNo hA hx rfl (hb hq d12_3) rfl ((if0 _ _).trans (feq (hcs)).1) k_) ?_
  show OFin _ _ _ _ _ _ T1 (mkF m 6 #[.val (.ref a1)] [])
  refine X1.step (fun hA hx hq t_ k_ => XS.aloadN hA hx rfl (hb hq d12_6) rfl rfl k_) ?_
  show OFin _ _ _ _ _ _ T1 (mkF m 7 #[.val (.ref a1)] [(.ref a1)])
  refine X1.getF (hw _ (List.mem_of_getElem? (i := 36) rfl)) S.2.1 (g := (mkF m 7 #[.val (.ref a1)] [(.ref a1)])) rfl rfl d12_7 ?_
  intro T2 X2
  show OFin _ _ _ _ _ _ T2 (mkF m 10 #[.val (.ref a1)] [(.int (0 : Int32))])
  refine X2.step (fun hA hx hq t_ k_ => XS.goto hA hx rfl (pc0 := 10) (pc' := 14) rfl (hb hq d12_10) (by decide) (by decide) k_) ?_
  show OFin _ _ _ _ _ _ T2 (mkF m 14 #[.val (.ref a1)] [(.int (0 : Int32))])
  exact X2.retN (by simp) d12_14 (oN (by decide) (by decide)) (⟨rfl, rfl⟩)
theorem d11_0 : decode jdk_42_method_54_code 0 = .ok (.aload_n 0, 1) := by decide +kernel
theorem d11_1 : decode jdk_42_method_54_code 1 = .ok (.getfield 9, 3) := by decide +kernel
theorem d11_4 : decode jdk_42_method_54_code 4 = .ok (.arraylength, 1) := by decide +kernel
theorem d11_5 : decode jdk_42_method_54_code 5 = .ok (.aload_n 0, 1) := by decide +kernel
theorem d11_6 : decode jdk_42_method_54_code 6 = .ok (.invokevirtual 335, 3) := by decide +kernel
theorem pd_pr_B : parseMethodDescriptor "()B" = some ⟨[], some .byte⟩ := by decide +kernel
theorem d11_9 : decode jdk_42_method_54_code 9 = .ok (.ishr, 1) := by decide +kernel
theorem d11_10 : decode jdk_42_method_54_code 10 = .ok (.ireturn, 1) := by decide +kernel
set_option maxRecDepth 65536 in
set_option maxHeartbeats 40000000 in
theorem sl2 (l : Launch) (Z : State) (a0 : Array Value) (hw : ∀ d ∈ tables_1, d.before a0 Z = true) (a1 t : Addr) (N : Nat) (f : Nat → Int32) (cs : Int32) (h0 : Heap) (n0 : Nat) (S : OStr Z h0 a1 t N f) (hN : N ≤ 4000) (SS : Sta Z h0 "java/lang/String" "COMPACT_STRINGS" "Z" (.int cs)) (hcs : ¬ cs = 0) :
    OMeets l Z (⟨"java/lang/String", "length", "()I"⟩ : MethodName) [] jdk_42_method_54_code 1 (some .int) ({ frames := 1, cells := 0, slots := 0, locals := 13 } : Room) #[(.ref a1)] h0 n0 (fun v h => v = some (.int (Int32.ofNat N)) ∧ h0 = h) := by
  refine o_enter (Z := Z) (plainFor_of_name pn_java_lang_String) ?_
  intro p e s m below meth c T0 X0
  refine OFin.cast (g' := (mkF m 0 #[.val (.ref a1)] [])) (by first | (simp [entryFrame, mkF, argsToLocals, Value.category]; done) | rfl) ?_
  obtain ⟨c1, A1, S1, H1⟩ := id S.2.2.2
  refine X0.step (fun hA hx hq t_ k_ => XS.aloadN hA hx rfl (hb hq d11_0) rfl rfl k_) ?_
  show OFin _ _ _ _ _ _ T0 (mkF m 1 #[.val (.ref a1)] [(.ref a1)])
  refine X0.getF (hw _ (List.mem_of_getElem? (i := 38) rfl)) S.2.2.1 (g := (mkF m 1 #[.val (.ref a1)] [(.ref a1)])) rfl rfl d11_1 ?_
  intro T1 X1
  show OFin _ _ _ _ _ _ T1 (mkF m 4 #[.val (.ref a1)] [(.ref t)])
  refine X1.alen A1 (n := (Int32.ofNat N)) (by rw [S1]) (g := (mkF m 4 #[.val (.ref a1)] [(.ref t)])) rfl rfl d11_4 ?_
  show OFin _ _ _ _ _ _ T1 (mkF m 5 #[.val (.ref a1)] [(.int (Int32.ofNat N))])
  refine X1.step (fun hA hx hq t_ k_ => XS.aloadN hA hx rfl (hb hq d11_5) rfl rfl k_) ?_
  show OFin _ _ _ _ _ _ T1 (mkF m 6 #[.val (.ref a1)] [(.ref a1), (.int (Int32.ofNat N))])
  refine X1.callV (y' := (⟨"java/lang/String", "coder", "()B"⟩ : MethodName)) (z' := (⟨"java/lang/String", "coder", "()B"⟩ : MethodName)) (hw _ (List.mem_of_getElem? (i := 56) rfl)) (hw _ (List.mem_of_getElem? (i := 57) rfl)) (X1.notFace (hw _ (List.mem_of_getElem? (i := 59) rfl)) rfl) (hw _ (List.mem_of_getElem? (i := 59) rfl)) (hw _ (List.mem_of_getElem? (i := 58) rfl)) (hw _ (List.mem_of_getElem? (i := 13) rfl)) (hw _ (List.mem_of_getElem? (i := 60) rfl)) (by decide) S.1 (argsL := []) (rest := [(.int (Int32.ofNat N))]) (sl1 l Z a0 hw a1 t N f cs h0 n0 S hN SS hcs) (g := (mkF m 6 #[.val (.ref a1)] [(.ref a1), (.int (Int32.ofNat N))])) rfl rfl pd_pr_B rfl rfl (W := 1) (by show 2 * 0 + _ ≤ _; exact Nat.le_of_eq rfl) d11_6 (by decide) (by decide) (by decide) (by decide) ?_
  intro v2 T2 h2 X2 q2
  obtain ⟨rfl, rfl⟩ := q2
  show OFin _ _ _ _ _ _ T2 (mkF m 9 #[.val (.ref a1)] [(.int (0 : Int32)), (.int (Int32.ofNat N))])
  refine X2.step (fun hA hx hq t_ k_ => XS.ishr hA hx rfl (hb hq d11_9) rfl k_) ?_
  show OFin _ _ _ _ _ _ T2 (mkF m 10 #[.val (.ref a1)] [(.int ((Int32.ofNat N) >>> ((0 : Int32) &&& 31)))])
  exact X2.retI d11_10 (oN (by decide) (by decide)) (⟨by rw [own_sh0], rfl⟩)
theorem d14_0 : decode jdk_42_method_154_code 0 = .ok (.getstatic 38, 3) := by decide +kernel
theorem d14_3 : decode jdk_42_method_154_code 3 = .ok (.ifCond .eq 14, 3) := by decide +kernel
theorem d14_6 : decode jdk_42_method_154_code 6 = .ok (.aload_n 0, 1) := by decide +kernel
theorem d14_7 : decode jdk_42_method_154_code 7 = .ok (.getfield 15, 3) := by decide +kernel
theorem d14_10 : decode jdk_42_method_154_code 10 = .ok (.ifCond .ne 7, 3) := by decide +kernel
theorem d14_13 : decode jdk_42_method_154_code 13 = .ok (.iconst 1, 1) := by decide +kernel
theorem d14_14 : decode jdk_42_method_154_code 14 = .ok (.goto 4, 3) := by decide +kernel
theorem d14_18 : decode jdk_42_method_154_code 18 = .ok (.ireturn, 1) := by decide +kernel
set_option maxRecDepth 65536 in
set_option maxHeartbeats 40000000 in
theorem sc1 (l : Launch) (Z : State) (a0 : Array Value) (hw : ∀ d ∈ tables_1, d.before a0 Z = true) (a1 t : Addr) (N : Nat) (f : Nat → Int32) (cs : Int32) (h0 : Heap) (n0 : Nat) (S : OStr Z h0 a1 t N f) (hN : N ≤ 4000) (SS : Sta Z h0 "java/lang/String" "COMPACT_STRINGS" "Z" (.int cs)) (hcs : ¬ cs = 0) :
    OMeets l Z (⟨"java/lang/String", "isLatin1", "()Z"⟩ : MethodName) [] jdk_42_method_154_code 1 (some .boolean) ({ frames := 0, cells := 0, slots := 0, locals := 0 } : Room) #[(.ref a1)] h0 n0 (fun v h => v = some (.int 1) ∧ h0 = h) := by
  refine o_enter (Z := Z) (plainFor_of_name pn_java_lang_String) ?_
  intro p e s m below meth c T0 X0
  refine OFin.cast (g' := (mkF m 0 #[.val (.ref a1)] [])) (by first | (simp [entryFrame, mkF, argsToLocals, Value.category]; done) | rfl) ?_
  refine X0.getS (hw _ (List.mem_of_getElem? (i := 24) rfl)) SS (g := (mkF m 0 #[.val (.ref a1)] [])) rfl d14_0 ?_
  intro T1 X1
  show OFin _ _ _ _ _ _ T1 (mkF m 3 #[.val (.ref a1)] [(.int cs)])
  refine X1.step (fun hA hx hq t_ k_ => XS.ifNo hA hx rfl (hb hq d14_3) rfl ((if0 _ _).trans (feq (hcs)).1) k_) ?_
  show OFin _ _ _ _ _ _ T1 (mkF m 6 #[.val (.ref a1)] [])
  refine X1.step (fun hA hx hq t_ k_ => XS.aloadN hA hx rfl (hb hq d14_6) rfl rfl k_) ?_
  show OFin _ _ _ _ _ _ T1 (mkF m 7 #[.val (.ref a1)] [(.ref a1)])
  refine X1.getF (hw _ (List.mem_of_getElem? (i := 36) rfl)) S.2.1 (g := (mkF m 7 #[.val (.ref a1)] [(.ref a1)])) rfl rfl d14_7 ?_
  intro T2 X2
  show OFin _ _ _ _ _ _ T2 (mkF m 10 #[.val (.ref a1)] [(.int (0 : Int32))])
  refine X2.step (fun hA hx hq t_ k_ => XS.ifNo hA hx rfl (hb hq d14_10) rfl ((if0 _ _).trans (teq ((rfl : (0 : Int32) = (0 : Int32)))).2) k_) ?_
  show OFin _ _ _ _ _ _ T2 (mkF m 13 #[.val (.ref a1)] [])
  refine X2.step (fun hA hx hq t_ k_ => XS.iconst hA hx rfl (hb hq d14_13) k_) ?_
  show OFin _ _ _ _ _ _ T2 (mkF m 14 #[.val (.ref a1)] [(.int (1 : Int32))])
  refine X2.step (fun hA hx hq t_ k_ => XS.goto hA hx rfl (pc0 := 14) (pc' := 18) rfl (hb hq d14_14) (by decide) (by decide) k_) ?_
  show OFin _ _ _ _ _ _ T2 (mkF m 18 #[.val (.ref a1)] [(.int (1 : Int32))])
  exact X2.retN (by simp) d14_18 (oN (by decide) (by decide)) (⟨rfl, rfl⟩)
theorem pn_jdk_internal_util_Preconditions : plainName "jdk/internal/util/Preconditions" = true := by first | (simp [plainName, overriddenIn]; done) | decide +kernel
theorem d16_0 : decode jdk_41_method_11_code 0 = .ok (.iload_n 0, 1) := by decide +kernel
theorem d16_1 : decode jdk_41_method_11_code 1 = .ok (.ifCond .lt 8, 3) := by decide +kernel
theorem d16_4 : decode jdk_41_method_11_code 4 = .ok (.iload_n 0, 1) := by decide +kernel
theorem d16_5 : decode jdk_41_method_11_code 5 = .ok (.iload_n 1, 1) := by decide +kernel
theorem d16_6 : decode jdk_41_method_11_code 6 = .ok (.if_icmp .lt 10, 3) := by decide +kernel
theorem d16_16 : decode jdk_41_method_11_code 16 = .ok (.iload_n 0, 1) := by decide +kernel
theorem d16_17 : decode jdk_41_method_11_code 17 = .ok (.ireturn, 1) := by decide +kernel
set_option maxRecDepth 65536 in
set_option maxHeartbeats 40000000 in
theorem sc2n (l : Launch) (Z : State) (a0 : Array Value) (hw : ∀ d ∈ tables_1, d.before a0 Z = true) (i N : Nat) (h0 : Heap) (n0 : Nat) (hi : i < N) (hN : N ≤ 4000) :
    OMeets l Z (⟨"jdk/internal/util/Preconditions", "checkIndex", "(IILjava/util/function/BiFunction;)I"⟩ : MethodName) [] jdk_41_method_11_code 3 (some .int) ({ frames := 0, cells := 0, slots := 0, locals := 0 } : Room) #[(.int (Int32.ofNat i)), (.int (Int32.ofNat N)), .null] h0 n0 (fun v h => v = some (.int (Int32.ofNat i)) ∧ h0 = h) := by
  refine o_enter (Z := Z) (plainFor_of_name pn_jdk_internal_util_Preconditions) ?_
  intro p e s m below meth c T0 X0
  refine OFin.cast (g' := (mkF m 0 #[.val (.int (Int32.ofNat i)), .val (.int (Int32.ofNat N)), .val .null] [])) (by first | (simp [entryFrame, mkF, argsToLocals, Value.category]; done) | rfl) ?_
  refine X0.step (fun hA hx hq t_ k_ => XS.iloadN hA hx rfl (hb hq d16_0) rfl k_) ?_
  show OFin _ _ _ _ _ _ T0 (mkF m 1 #[.val (.int (Int32.ofNat i)), .val (.int (Int32.ofNat N)), .val .null] [(.int (Int32.ofNat i))])
  refine X0.step (fun hA hx hq t_ k_ => XS.ifNo hA hx rfl (hb hq d16_1) rfl ((if0 _ _).trans (flt ((by rw [Int32.lt_iff_toInt_lt, own_i i (by omega)]; have : (0 : Int32).toInt = 0 := (by decide); omega))).1) k_) ?_
  show OFin _ _ _ _ _ _ T0 (mkF m 4 #[.val (.int (Int32.ofNat i)), .val (.int (Int32.ofNat N)), .val .null] [])
  refine X0.step (fun hA hx hq t_ k_ => XS.iloadN hA hx rfl (hb hq d16_4) rfl k_) ?_
  show OFin _ _ _ _ _ _ T0 (mkF m 5 #[.val (.int (Int32.ofNat i)), .val (.int (Int32.ofNat N)), .val .null] [(.int (Int32.ofNat i))])
  refine X0.step (fun hA hx hq t_ k_ => XS.iloadN hA hx rfl (hb hq d16_5) rfl k_) ?_
  show OFin _ _ _ _ _ _ T0 (mkF m 6 #[.val (.int (Int32.ofNat i)), .val (.int (Int32.ofNat N)), .val .null] [(.int (Int32.ofNat N)), (.int (Int32.ofNat i))])
  refine X0.step (fun hA hx hq t_ k_ => XS.icmpYes hA hx rfl (pc0 := 6) (pc' := 16) rfl (hb hq d16_6) rfl (tlt ((own_lt32 i N (by omega) (by omega)).mpr hi)).1 (by decide) (by decide) k_) ?_
  show OFin _ _ _ _ _ _ T0 (mkF m 16 #[.val (.int (Int32.ofNat i)), .val (.int (Int32.ofNat N)), .val .null] [])
  refine X0.step (fun hA hx hq t_ k_ => XS.iloadN hA hx rfl (hb hq d16_16) rfl k_) ?_
  show OFin _ _ _ _ _ _ T0 (mkF m 17 #[.val (.int (Int32.ofNat i)), .val (.int (Int32.ofNat N)), .val .null] [(.int (Int32.ofNat i))])
  exact X0.retI d16_17 (oN (by decide) (by decide)) (⟨rfl, rfl⟩)
set_option maxRecDepth 65536 in
set_option maxHeartbeats 40000000 in
theorem sc2r (l : Launch) (Z : State) (a0 : Array Value) (hw : ∀ d ∈ tables_1, d.before a0 Z = true) (i N : Nat) (vr : Addr) (h0 : Heap) (n0 : Nat) (hi : i < N) (hN : N ≤ 4000) :
    OMeets l Z (⟨"jdk/internal/util/Preconditions", "checkIndex", "(IILjava/util/function/BiFunction;)I"⟩ : MethodName) [] jdk_41_method_11_code 3 (some .int) ({ frames := 0, cells := 0, slots := 0, locals := 0 } : Room) #[(.int (Int32.ofNat i)), (.int (Int32.ofNat N)), (.ref vr)] h0 n0 (fun v h => v = some (.int (Int32.ofNat i)) ∧ h0 = h) := by
  refine o_enter (Z := Z) (plainFor_of_name pn_jdk_internal_util_Preconditions) ?_
  intro p e s m below meth c T0 X0
  refine OFin.cast (g' := (mkF m 0 #[.val (.int (Int32.ofNat i)), .val (.int (Int32.ofNat N)), .val (.ref vr)] [])) (by first | (simp [entryFrame, mkF, argsToLocals, Value.category]; done) | rfl) ?_
  refine X0.step (fun hA hx hq t_ k_ => XS.iloadN hA hx rfl (hb hq d16_0) rfl k_) ?_
  show OFin _ _ _ _ _ _ T0 (mkF m 1 #[.val (.int (Int32.ofNat i)), .val (.int (Int32.ofNat N)), .val (.ref vr)] [(.int (Int32.ofNat i))])
  refine X0.step (fun hA hx hq t_ k_ => XS.ifNo hA hx rfl (hb hq d16_1) rfl ((if0 _ _).trans (flt ((by rw [Int32.lt_iff_toInt_lt, own_i i (by omega)]; have : (0 : Int32).toInt = 0 := (by decide); omega))).1) k_) ?_
  show OFin _ _ _ _ _ _ T0 (mkF m 4 #[.val (.int (Int32.ofNat i)), .val (.int (Int32.ofNat N)), .val (.ref vr)] [])
  refine X0.step (fun hA hx hq t_ k_ => XS.iloadN hA hx rfl (hb hq d16_4) rfl k_) ?_
  show OFin _ _ _ _ _ _ T0 (mkF m 5 #[.val (.int (Int32.ofNat i)), .val (.int (Int32.ofNat N)), .val (.ref vr)] [(.int (Int32.ofNat i))])
  refine X0.step (fun hA hx hq t_ k_ => XS.iloadN hA hx rfl (hb hq d16_5) rfl k_) ?_
  show OFin _ _ _ _ _ _ T0 (mkF m 6 #[.val (.int (Int32.ofNat i)), .val (.int (Int32.ofNat N)), .val (.ref vr)] [(.int (Int32.ofNat N)), (.int (Int32.ofNat i))])
  refine X0.step (fun hA hx hq t_ k_ => XS.icmpYes hA hx rfl (pc0 := 6) (pc' := 16) rfl (hb hq d16_6) rfl (tlt ((own_lt32 i N (by omega) (by omega)).mpr hi)).1 (by decide) (by decide) k_) ?_
  show OFin _ _ _ _ _ _ T0 (mkF m 16 #[.val (.int (Int32.ofNat i)), .val (.int (Int32.ofNat N)), .val (.ref vr)] [])
  refine X0.step (fun hA hx hq t_ k_ => XS.iloadN hA hx rfl (hb hq d16_16) rfl k_) ?_
  show OFin _ _ _ _ _ _ T0 (mkF m 17 #[.val (.int (Int32.ofNat i)), .val (.int (Int32.ofNat N)), .val (.ref vr)] [(.int (Int32.ofNat i))])
  exact X0.retI d16_17 (oN (by decide) (by decide)) (⟨rfl, rfl⟩)
theorem sc2 (l : Launch) (Z : State) (a0 : Array Value) (hw : ∀ d ∈ tables_1, d.before a0 Z = true) (i N : Nat) (vf : Value) (h0 : Heap) (n0 : Nat) (hi : i < N) (hN : N ≤ 4000) (rf : vf.isRef = true) :
    OMeets l Z (⟨"jdk/internal/util/Preconditions", "checkIndex", "(IILjava/util/function/BiFunction;)I"⟩ : MethodName) [] jdk_41_method_11_code 3 (some .int) ({ frames := 0, cells := 0, slots := 0, locals := 0 } : Room) #[(.int (Int32.ofNat i)), (.int (Int32.ofNat N)), vf] h0 n0 (fun v h => v = some (.int (Int32.ofNat i)) ∧ h0 = h) := by
  rcases ref_cases rf with rfl | ⟨vr, rfl⟩
  · exact sc2n l Z a0 hw i N h0 n0 hi hN
  · exact sc2r l Z a0 hw i N vr h0 n0 hi hN
theorem d15_0 : decode jdk_42_method_155_code 0 = .ok (.iload_n 0, 1) := by decide +kernel
theorem d15_1 : decode jdk_42_method_155_code 1 = .ok (.iload_n 1, 1) := by decide +kernel
theorem d15_2 : decode jdk_42_method_155_code 2 = .ok (.getstatic 1053, 3) := by decide +kernel
theorem pd_pIILjava_util_function_BiFunction_r_I : parseMethodDescriptor "(IILjava/util/function/BiFunction;)I" = some ⟨[.int, .int, (.object "java/util/function/BiFunction")], some .int⟩ := by decide +kernel
theorem d15_5 : decode jdk_42_method_155_code 5 = .ok (.invokestatic 1059, 3) := by decide +kernel
theorem d15_8 : decode jdk_42_method_155_code 8 = .ok (.pop, 1) := by decide +kernel
theorem d15_9 : decode jdk_42_method_155_code 9 = .ok (.return_, 1) := by decide +kernel
set_option maxRecDepth 65536 in
set_option maxHeartbeats 40000000 in
theorem sc3 (l : Launch) (Z : State) (a0 : Array Value) (hw : ∀ d ∈ tables_1, d.before a0 Z = true) (i N : Nat) (vf : Value) (h0 : Heap) (n0 : Nat) (SP : Sta Z h0 "jdk/internal/util/Preconditions" "SIOOBE_FORMATTER" "Ljava/util/function/BiFunction;" vf) (rf : vf.isRef = true) (hi : i < N) (hN : N ≤ 4000) :
    OMeets l Z (⟨"java/lang/String", "checkIndex", "(II)V"⟩ : MethodName) [] jdk_42_method_155_code 2 none ({ frames := 1, cells := 0, slots := 0, locals := 14 } : Room) #[(.int (Int32.ofNat i)), (.int (Int32.ofNat N))] h0 n0 (fun v h => v = none ∧ h0 = h) := by
  refine o_enter (Z := Z) (plainFor_of_name pn_java_lang_String) ?_
  intro p e s m below meth c T0 X0
  refine OFin.cast (g' := (mkF m 0 #[.val (.int (Int32.ofNat i)), .val (.int (Int32.ofNat N))] [])) (by first | (simp [entryFrame, mkF, argsToLocals, Value.category]; done) | rfl) ?_
  refine X0.step (fun hA hx hq t_ k_ => XS.iloadN hA hx rfl (hb hq d15_0) rfl k_) ?_
  show OFin _ _ _ _ _ _ T0 (mkF m 1 #[.val (.int (Int32.ofNat i)), .val (.int (Int32.ofNat N))] [(.int (Int32.ofNat i))])
  refine X0.step (fun hA hx hq t_ k_ => XS.iloadN hA hx rfl (hb hq d15_1) rfl k_) ?_
  show OFin _ _ _ _ _ _ T0 (mkF m 2 #[.val (.int (Int32.ofNat i)), .val (.int (Int32.ofNat N))] [(.int (Int32.ofNat N)), (.int (Int32.ofNat i))])
  refine X0.getS (hw _ (List.mem_of_getElem? (i := 74) rfl)) SP (g := (mkF m 2 #[.val (.int (Int32.ofNat i)), .val (.int (Int32.ofNat N))] [(.int (Int32.ofNat N)), (.int (Int32.ofNat i))])) rfl d15_2 ?_
  intro T1 X1
  show OFin _ _ _ _ _ _ T1 (mkF m 5 #[.val (.int (Int32.ofNat i)), .val (.int (Int32.ofNat N))] [vf, (.int (Int32.ofNat N)), (.int (Int32.ofNat i))])
  refine X1.callS (y' := (⟨"jdk/internal/util/Preconditions", "checkIndex", "(IILjava/util/function/BiFunction;)I"⟩ : MethodName)) (hw _ (List.mem_of_getElem? (i := 76) rfl)) (hw _ (List.mem_of_getElem? (i := 77) rfl)) (hw _ (List.mem_of_getElem? (i := 75) rfl)) (hw _ (List.mem_of_getElem? (i := 78) rfl)) (by decide) (argsL := [(.int (Int32.ofNat i)), (.int (Int32.ofNat N)), vf]) (rest := []) (sc2 l Z a0 hw i N vf h0 n0 hi hN rf) (g := (mkF m 5 #[.val (.int (Int32.ofNat i)), .val (.int (Int32.ofNat N))] [vf, (.int (Int32.ofNat N)), (.int (Int32.ofNat i))])) rfl rfl pd_pIILjava_util_function_BiFunction_r_I rfl rfl (W := 0) (by show 2 * 0 + _ ≤ _; exact Nat.le_of_eq rfl) d15_5 (by decide) (by decide) (by decide) (by decide) ?_
  intro v2 T2 h2 X2 q2
  obtain ⟨rfl, rfl⟩ := q2
  show OFin _ _ _ _ _ _ T2 (mkF m 8 #[.val (.int (Int32.ofNat i)), .val (.int (Int32.ofNat N))] [(.int (Int32.ofNat i))])
  refine X2.step (fun hA hx hq t_ k_ => XS.pop hA hx rfl (hb hq d15_8) rfl rfl k_) ?_
  show OFin _ _ _ _ _ _ T2 (mkF m 9 #[.val (.int (Int32.ofNat i)), .val (.int (Int32.ofNat N))] [])
  exact X2.retV d15_9 (oN (by decide) (by decide)) (⟨rfl, rfl⟩)
set_option maxRecDepth 65536 in
set_option maxHeartbeats 40000000 in
theorem sl1u (l : Launch) (Z : State) (a0 : Array Value) (hw : ∀ d ∈ tables_1, d.before a0 Z = true) (a1 t : Addr) (N : Nat) (f : Nat → Int32) (cs : Int32) (h0 : Heap) (n0 : Nat) (S : OStr16 Z h0 a1 t N f) (hN : N ≤ 2000) (SS : Sta Z h0 "java/lang/String" "COMPACT_STRINGS" "Z" (.int cs)) (hcs : ¬ cs = 0) :
    OMeets l Z (⟨"java/lang/String", "coder", "()B"⟩ : MethodName) [] jdk_42_method_152_code 1 (some .byte) ({ frames := 0, cells := 0, slots := 0, locals := 0 } : Room) #[(.ref a1)] h0 n0 (fun v h => v = some (.int 1) ∧ h0 = h) := by
  refine o_enter (Z := Z) (plainFor_of_name pn_java_lang_String) ?_
  intro p e s m below meth c T0 X0
  refine OFin.cast (g' := (mkF m 0 #[.val (.ref a1)] [])) (by first | (simp [entryFrame, mkF, argsToLocals, Value.category]; done) | rfl) ?_
  refine X0.getS (hw _ (List.mem_of_getElem? (i := 24) rfl)) SS (g := (mkF m 0 #[.val (.ref a1)] [])) rfl d12_0 ?_
  intro T1 X1
  show OFin _ _ _ _ _ _ T1 (mkF m 3 #[.val (.ref a1)] [(.int cs)])
  refine X1.step (fun hA hx hq t_ k_ => XS.ifNo hA hx rfl (hb hq d12_3) rfl ((if0 _ _).trans (feq (hcs)).1) k_) ?_
  show OFin _ _ _ _ _ _ T1 (mkF m 6 #[.val (.ref a1)] [])
  refine X1.step (fun hA hx hq t_ k_ => XS.aloadN hA hx rfl (hb hq d12_6) rfl rfl k_) ?_
  show OFin _ _ _ _ _ _ T1 (mkF m 7 #[.val (.ref a1)] [(.ref a1)])
  refine X1.getF (hw _ (List.mem_of_getElem? (i := 36) rfl)) S.2.1 (g := (mkF m 7 #[.val (.ref a1)] [(.ref a1)])) rfl rfl d12_7 ?_
  intro T2 X2
  show OFin _ _ _ _ _ _ T2 (mkF m 10 #[.val (.ref a1)] [(.int (1 : Int32))])
  refine X2.step (fun hA hx hq t_ k_ => XS.goto hA hx rfl (pc0 := 10) (pc' := 14) rfl (hb hq d12_10) (by decide) (by decide) k_) ?_
  show OFin _ _ _ _ _ _ T2 (mkF m 14 #[.val (.ref a1)] [(.int (1 : Int32))])
  exact X2.retN (by simp) d12_14 (oN (by decide) (by decide)) (⟨rfl, rfl⟩)
set_option maxRecDepth 65536 in
set_option maxHeartbeats 40000000 in
theorem sl2u (l : Launch) (Z : State) (a0 : Array Value) (hw : ∀ d ∈ tables_1, d.before a0 Z = true) (a1 t : Addr) (N : Nat) (f : Nat → Int32) (cs : Int32) (h0 : Heap) (n0 : Nat) (S : OStr16 Z h0 a1 t N f) (hN : N ≤ 2000) (SS : Sta Z h0 "java/lang/String" "COMPACT_STRINGS" "Z" (.int cs)) (hcs : ¬ cs = 0) :
    OMeets l Z (⟨"java/lang/String", "length", "()I"⟩ : MethodName) [] jdk_42_method_54_code 1 (some .int) ({ frames := 1, cells := 0, slots := 0, locals := 13 } : Room) #[(.ref a1)] h0 n0 (fun v h => v = some (.int (Int32.ofNat N)) ∧ h0 = h) := by
  refine o_enter (Z := Z) (plainFor_of_name pn_java_lang_String) ?_
  intro p e s m below meth c T0 X0
  refine OFin.cast (g' := (mkF m 0 #[.val (.ref a1)] [])) (by first | (simp [entryFrame, mkF, argsToLocals, Value.category]; done) | rfl) ?_
  obtain ⟨c1, A1, S1, H1⟩ := id S.2.2.2
  refine X0.step (fun hA hx hq t_ k_ => XS.aloadN hA hx rfl (hb hq d11_0) rfl rfl k_) ?_
  show OFin _ _ _ _ _ _ T0 (mkF m 1 #[.val (.ref a1)] [(.ref a1)])
  refine X0.getF (hw _ (List.mem_of_getElem? (i := 38) rfl)) S.2.2.1 (g := (mkF m 1 #[.val (.ref a1)] [(.ref a1)])) rfl rfl d11_1 ?_
  intro T1 X1
  show OFin _ _ _ _ _ _ T1 (mkF m 4 #[.val (.ref a1)] [(.ref t)])
  refine X1.alen A1 (n := (Int32.ofNat (2 * N))) (by rw [S1]) (g := (mkF m 4 #[.val (.ref a1)] [(.ref t)])) rfl rfl d11_4 ?_
  show OFin _ _ _ _ _ _ T1 (mkF m 5 #[.val (.ref a1)] [(.int (Int32.ofNat (2 * N)))])
  refine X1.step (fun hA hx hq t_ k_ => XS.aloadN hA hx rfl (hb hq d11_5) rfl rfl k_) ?_
  show OFin _ _ _ _ _ _ T1 (mkF m 6 #[.val (.ref a1)] [(.ref a1), (.int (Int32.ofNat (2 * N)))])
  refine X1.callV (y' := (⟨"java/lang/String", "coder", "()B"⟩ : MethodName)) (z' := (⟨"java/lang/String", "coder", "()B"⟩ : MethodName)) (hw _ (List.mem_of_getElem? (i := 56) rfl)) (hw _ (List.mem_of_getElem? (i := 57) rfl)) (X1.notFace (hw _ (List.mem_of_getElem? (i := 59) rfl)) rfl) (hw _ (List.mem_of_getElem? (i := 59) rfl)) (hw _ (List.mem_of_getElem? (i := 58) rfl)) (hw _ (List.mem_of_getElem? (i := 13) rfl)) (hw _ (List.mem_of_getElem? (i := 60) rfl)) (by decide) S.1 (argsL := []) (rest := [(.int (Int32.ofNat (2 * N)))]) (sl1u l Z a0 hw a1 t N f cs h0 n0 S hN SS hcs) (g := (mkF m 6 #[.val (.ref a1)] [(.ref a1), (.int (Int32.ofNat (2 * N)))])) rfl rfl pd_pr_B rfl rfl (W := 1) (by show 2 * 0 + _ ≤ _; exact Nat.le_of_eq rfl) d11_6 (by decide) (by decide) (by decide) (by decide) ?_
  intro v2 T2 h2 X2 q2
  obtain ⟨rfl, rfl⟩ := q2
  show OFin _ _ _ _ _ _ T2 (mkF m 9 #[.val (.ref a1)] [(.int (1 : Int32)), (.int (Int32.ofNat (2 * N)))])
  refine X2.step (fun hA hx hq t_ k_ => XS.ishr hA hx rfl (hb hq d11_9) rfl k_) ?_
  show OFin _ _ _ _ _ _ T2 (mkF m 10 #[.val (.ref a1)] [(.int ((Int32.ofNat (2 * N)) >>> ((1 : Int32) &&& 31)))])
  exact X2.retI d11_10 (oN (by decide) (by decide)) (⟨by rw [own_shr1 N (by omega)], rfl⟩)
theorem slx (l : Launch) (Z : State) (a0 : Array Value) (hw : ∀ d ∈ tables_1, d.before a0 Z = true) (a1 : Addr) (N : Nat) (f : Nat → Int32) (cs : Int32) (h0 : Heap) (n0 : Nat) (S : OStrX Z h0 a1 N f) (hN : N ≤ 2000) (SS : Sta Z h0 "java/lang/String" "COMPACT_STRINGS" "Z" (.int cs)) (hcs : ¬ cs = 0) :
    OMeets l Z (⟨"java/lang/String", "length", "()I"⟩ : MethodName) [] jdk_42_method_54_code 1 (some .int) ({ frames := 1, cells := 0, slots := 0, locals := 13 } : Room) #[(.ref a1)] h0 n0 (fun v h => v = some (.int (Int32.ofNat N)) ∧ h0 = h) := by
  obtain ⟨t, ⟨S, hl⟩ | S⟩ := S
  · exact sl2 l Z a0 hw a1 t N f cs h0 n0 S (by omega) SS hcs
  · exact sl2u l Z a0 hw a1 t N f cs h0 n0 S hN SS hcs
theorem d14_17 : decode jdk_42_method_154_code 17 = .ok (.iconst 0, 1) := by decide +kernel
set_option maxRecDepth 65536 in
set_option maxHeartbeats 40000000 in
theorem sc1u (l : Launch) (Z : State) (a0 : Array Value) (hw : ∀ d ∈ tables_1, d.before a0 Z = true) (a1 t : Addr) (N : Nat) (f : Nat → Int32) (cs : Int32) (h0 : Heap) (n0 : Nat) (S : OStr16 Z h0 a1 t N f) (hN : N ≤ 2000) (SS : Sta Z h0 "java/lang/String" "COMPACT_STRINGS" "Z" (.int cs)) (hcs : ¬ cs = 0) :
    OMeets l Z (⟨"java/lang/String", "isLatin1", "()Z"⟩ : MethodName) [] jdk_42_method_154_code 1 (some .boolean) ({ frames := 0, cells := 0, slots := 0, locals := 0 } : Room) #[(.ref a1)] h0 n0 (fun v h => v = some (.int 0) ∧ h0 = h) := by
  refine o_enter (Z := Z) (plainFor_of_name pn_java_lang_String) ?_
  intro p e s m below meth c T0 X0
  refine OFin.cast (g' := (mkF m 0 #[.val (.ref a1)] [])) (by first | (simp [entryFrame, mkF, argsToLocals, Value.category]; done) | rfl) ?_
  refine X0.getS (hw _ (List.mem_of_getElem? (i := 24) rfl)) SS (g := (mkF m 0 #[.val (.ref a1)] [])) rfl d14_0 ?_
  intro T1 X1
  show OFin _ _ _ _ _ _ T1 (mkF m 3 #[.val (.ref a1)] [(.int cs)])
  refine X1.step (fun hA hx hq t_ k_ => XS.ifNo hA hx rfl (hb hq d14_3) rfl ((if0 _ _).trans (feq (hcs)).1) k_) ?_
  show OFin _ _ _ _ _ _ T1 (mkF m 6 #[.val (.ref a1)] [])
  refine X1.step (fun hA hx hq t_ k_ => XS.aloadN hA hx rfl (hb hq d14_6) rfl rfl k_) ?_
  show OFin _ _ _ _ _ _ T1 (mkF m 7 #[.val (.ref a1)] [(.ref a1)])
  refine X1.getF (hw _ (List.mem_of_getElem? (i := 36) rfl)) S.2.1 (g := (mkF m 7 #[.val (.ref a1)] [(.ref a1)])) rfl rfl d14_7 ?_
  intro T2 X2
  show OFin _ _ _ _ _ _ T2 (mkF m 10 #[.val (.ref a1)] [(.int (1 : Int32))])
  refine X2.step (fun hA hx hq t_ k_ => XS.ifYes hA hx rfl (pc0 := 10) (pc' := 17) rfl (hb hq d14_10) rfl ((if0 _ _).trans (feq ((by decide))).2) (by decide) (by decide) k_) ?_
  show OFin _ _ _ _ _ _ T2 (mkF m 17 #[.val (.ref a1)] [])
  refine X2.step (fun hA hx hq t_ k_ => XS.iconst hA hx rfl (hb hq d14_17) k_) ?_
  show OFin _ _ _ _ _ _ T2 (mkF m 18 #[.val (.ref a1)] [(.int (0 : Int32))])
  exact X2.retN (by simp) d14_18 (oN (by decide) (by decide)) (⟨rfl, rfl⟩)
theorem pn_java_lang_Character : plainName "java/lang/Character" = true := by first | (simp [plainName, overriddenIn]; done) | decide +kernel
theorem d25_0 : decode jdk_89_method_14_code 0 = .ok (.iload_n 0, 1) := by decide +kernel
theorem d25_1 : decode jdk_89_method_14_code 1 = .ok (.ldc 75, 2) := by decide +kernel
theorem d25_3 : decode jdk_89_method_14_code 3 = .ok (.if_icmp .lt 13, 3) := by decide +kernel
theorem d25_6 : decode jdk_89_method_14_code 6 = .ok (.iload_n 0, 1) := by decide +kernel
theorem d25_7 : decode jdk_89_method_14_code 7 = .ok (.ldc 76, 2) := by decide +kernel
theorem d25_9 : decode jdk_89_method_14_code 9 = .ok (.if_icmp .ge 7, 3) := by decide +kernel
theorem d25_12 : decode jdk_89_method_14_code 12 = .ok (.iconst 1, 1) := by decide +kernel
theorem d25_13 : decode jdk_89_method_14_code 13 = .ok (.goto 4, 3) := by decide +kernel
theorem d25_17 : decode jdk_89_method_14_code 17 = .ok (.ireturn, 1) := by decide +kernel
set_option maxRecDepth 65536 in
set_option maxHeartbeats 40000000 in
theorem sk1 (l : Launch) (Z : State) (a0 : Array Value) (hw : ∀ d ∈ tables_1, d.before a0 Z = true) (x : Int32) (h0 : Heap) (n0 : Nat) (hx : own_hi x) :
    OMeets l Z (⟨"java/lang/Character", "isHighSurrogate", "(C)Z"⟩ : MethodName) [] jdk_89_method_14_code 1 (some .boolean) ({ frames := 0, cells := 0, slots := 0, locals := 0 } : Room) #[(.int x)] h0 n0 (fun v h => v = some (.int 1) ∧ h0 = h) := by
  refine o_enter (Z := Z) (plainFor_of_name pn_java_lang_Character) ?_
  intro p e s m below meth c T0 X0
  refine OFin.cast (g' := (mkF m 0 #[.val (.int x)] [])) (by first | (simp [entryFrame, mkF, argsToLocals, Value.category]; done) | rfl) ?_
  obtain ⟨x0, x1⟩ := hx
  refine X0.step (fun hA hx hq t_ k_ => XS.iloadN hA hx rfl (hb hq d25_0) rfl k_) ?_
  show OFin _ _ _ _ _ _ T0 (mkF m 1 #[.val (.int x)] [(.int x)])
  refine X0.ldcI (hw _ (List.mem_of_getElem? (i := 113) rfl)) (g := (mkF m 1 #[.val (.int x)] [(.int x)])) rfl d25_1 ?_
  show OFin _ _ _ _ _ _ T0 (mkF m 3 #[.val (.int x)] [(.int (55296 : Int32)), (.int x)])
  refine X0.step (fun hA hx hq t_ k_ => XS.icmpNo hA hx rfl (hb hq d25_3) rfl (flt ((by rw [Int32.lt_iff_toInt_lt]; have : (55296 : Int32).toInt = 55296 := (by decide); omega))).1 k_) ?_
  show OFin _ _ _ _ _ _ T0 (mkF m 6 #[.val (.int x)] [])
  refine X0.step (fun hA hx hq t_ k_ => XS.iloadN hA hx rfl (hb hq d25_6) rfl k_) ?_
  show OFin _ _ _ _ _ _ T0 (mkF m 7 #[.val (.int x)] [(.int x)])
  refine X0.ldcI (hw _ (List.mem_of_getElem? (i := 116) rfl)) (g := (mkF m 7 #[.val (.int x)] [(.int x)])) rfl d25_7 ?_
  show OFin _ _ _ _ _ _ T0 (mkF m 9 #[.val (.int x)] [(.int (56320 : Int32)), (.int x)])
  refine X0.step (fun hA hx hq t_ k_ => XS.icmpNo hA hx rfl (hb hq d25_9) rfl (tlt ((by rw [Int32.lt_iff_toInt_lt]; have : (56320 : Int32).toInt = 56320 := (by decide); omega))).2.1 k_) ?_
  show OFin _ _ _ _ _ _ T0 (mkF m 12 #[.val (.int x)] [])
  refine X0.step (fun hA hx hq t_ k_ => XS.iconst hA hx rfl (hb hq d25_12) k_) ?_
  show OFin _ _ _ _ _ _ T0 (mkF m 13 #[.val (.int x)] [(.int (1 : Int32))])
  refine X0.step (fun hA hx hq t_ k_ => XS.goto hA hx rfl (pc0 := 13) (pc' := 17) rfl (hb hq d25_13) (by decide) (by decide) k_) ?_
  show OFin _ _ _ _ _ _ T0 (mkF m 17 #[.val (.int x)] [(.int (1 : Int32))])
  exact X0.retN (by simp) d25_17 (oN (by decide) (by decide)) (⟨rfl, rfl⟩)
theorem d25_16 : decode jdk_89_method_14_code 16 = .ok (.iconst 0, 1) := by decide +kernel
set_option maxRecDepth 65536 in
set_option maxHeartbeats 40000000 in
theorem sk2 (l : Launch) (Z : State) (a0 : Array Value) (hw : ∀ d ∈ tables_1, d.before a0 Z = true) (x : Int32) (h0 : Heap) (n0 : Nat) (hx : own_o1 x) :
    OMeets l Z (⟨"java/lang/Character", "isHighSurrogate", "(C)Z"⟩ : MethodName) [] jdk_89_method_14_code 1 (some .boolean) ({ frames := 0, cells := 0, slots := 0, locals := 0 } : Room) #[(.int x)] h0 n0 (fun v h => v = some (.int 0) ∧ h0 = h) := by
  refine o_enter (Z := Z) (plainFor_of_name pn_java_lang_Character) ?_
  intro p e s m below meth c T0 X0
  refine OFin.cast (g' := (mkF m 0 #[.val (.int x)] [])) (by first | (simp [entryFrame, mkF, argsToLocals, Value.category]; done) | rfl) ?_
  unfold own_o1 at hx
  refine X0.step (fun hA hx hq t_ k_ => XS.iloadN hA hx rfl (hb hq d25_0) rfl k_) ?_
  show OFin _ _ _ _ _ _ T0 (mkF m 1 #[.val (.int x)] [(.int x)])
  refine X0.ldcI (hw _ (List.mem_of_getElem? (i := 113) rfl)) (g := (mkF m 1 #[.val (.int x)] [(.int x)])) rfl d25_1 ?_
  show OFin _ _ _ _ _ _ T0 (mkF m 3 #[.val (.int x)] [(.int (55296 : Int32)), (.int x)])
  by_cases c : x < (55296 : Int32)
  · refine X0.step (fun hA hx hq t_ k_ => XS.icmpYes hA hx rfl (pc0 := 3) (pc' := 16) rfl (hb hq d25_3) rfl (tlt (c)).1 (by decide) (by decide) k_) ?_
    show OFin _ _ _ _ _ _ T0 (mkF m 16 #[.val (.int x)] [])
    refine X0.step (fun hA hx hq t_ k_ => XS.iconst hA hx rfl (hb hq d25_16) k_) ?_
    show OFin _ _ _ _ _ _ T0 (mkF m 17 #[.val (.int x)] [(.int (0 : Int32))])
    exact X0.retN (by simp) d25_17 (oN (by decide) (by decide)) (⟨rfl, rfl⟩)
  · refine X0.step (fun hA hx hq t_ k_ => XS.icmpNo hA hx rfl (hb hq d25_3) rfl (flt (c)).1 k_) ?_
    show OFin _ _ _ _ _ _ T0 (mkF m 6 #[.val (.int x)] [])
    refine X0.step (fun hA hx hq t_ k_ => XS.iloadN hA hx rfl (hb hq d25_6) rfl k_) ?_
    show OFin _ _ _ _ _ _ T0 (mkF m 7 #[.val (.int x)] [(.int x)])
    refine X0.ldcI (hw _ (List.mem_of_getElem? (i := 116) rfl)) (g := (mkF m 7 #[.val (.int x)] [(.int x)])) rfl d25_7 ?_
    show OFin _ _ _ _ _ _ T0 (mkF m 9 #[.val (.int x)] [(.int (56320 : Int32)), (.int x)])
    refine X0.step (fun hA hx hq t_ k_ => XS.icmpYes hA hx rfl (pc0 := 9) (pc' := 16) rfl (hb hq d25_9) rfl (flt ((by rw [Int32.lt_iff_toInt_lt] at c ⊢; have : (55296 : Int32).toInt = 55296 := (by decide); have : (56320 : Int32).toInt = 56320 := (by decide); omega))).2.1 (by decide) (by decide) k_) ?_
    show OFin _ _ _ _ _ _ T0 (mkF m 16 #[.val (.int x)] [])
    refine X0.step (fun hA hx hq t_ k_ => XS.iconst hA hx rfl (hb hq d25_16) k_) ?_
    show OFin _ _ _ _ _ _ T0 (mkF m 17 #[.val (.int x)] [(.int (0 : Int32))])
    exact X0.retN (by simp) d25_17 (oN (by decide) (by decide)) (⟨rfl, rfl⟩)
theorem d26_0 : decode jdk_89_method_15_code 0 = .ok (.iload_n 0, 1) := by decide +kernel
theorem d26_1 : decode jdk_89_method_15_code 1 = .ok (.ldc 76, 2) := by decide +kernel
theorem d26_3 : decode jdk_89_method_15_code 3 = .ok (.if_icmp .lt 13, 3) := by decide +kernel
theorem d26_6 : decode jdk_89_method_15_code 6 = .ok (.iload_n 0, 1) := by decide +kernel
theorem d26_7 : decode jdk_89_method_15_code 7 = .ok (.ldc 77, 2) := by decide +kernel
theorem d26_9 : decode jdk_89_method_15_code 9 = .ok (.if_icmp .ge 7, 3) := by decide +kernel
theorem d26_12 : decode jdk_89_method_15_code 12 = .ok (.iconst 1, 1) := by decide +kernel
theorem d26_13 : decode jdk_89_method_15_code 13 = .ok (.goto 4, 3) := by decide +kernel
theorem d26_17 : decode jdk_89_method_15_code 17 = .ok (.ireturn, 1) := by decide +kernel
set_option maxRecDepth 65536 in
set_option maxHeartbeats 40000000 in
theorem sk3 (l : Launch) (Z : State) (a0 : Array Value) (hw : ∀ d ∈ tables_1, d.before a0 Z = true) (x : Int32) (h0 : Heap) (n0 : Nat) (hx : own_lo x) :
    OMeets l Z (⟨"java/lang/Character", "isLowSurrogate", "(C)Z"⟩ : MethodName) [] jdk_89_method_15_code 1 (some .boolean) ({ frames := 0, cells := 0, slots := 0, locals := 0 } : Room) #[(.int x)] h0 n0 (fun v h => v = some (.int 1) ∧ h0 = h) := by
  refine o_enter (Z := Z) (plainFor_of_name pn_java_lang_Character) ?_
  intro p e s m below meth c T0 X0
  refine OFin.cast (g' := (mkF m 0 #[.val (.int x)] [])) (by first | (simp [entryFrame, mkF, argsToLocals, Value.category]; done) | rfl) ?_
  obtain ⟨x0, x1⟩ := hx
  refine X0.step (fun hA hx hq t_ k_ => XS.iloadN hA hx rfl (hb hq d26_0) rfl k_) ?_
  show OFin _ _ _ _ _ _ T0 (mkF m 1 #[.val (.int x)] [(.int x)])
  refine X0.ldcI (hw _ (List.mem_of_getElem? (i := 116) rfl)) (g := (mkF m 1 #[.val (.int x)] [(.int x)])) rfl d26_1 ?_
  show OFin _ _ _ _ _ _ T0 (mkF m 3 #[.val (.int x)] [(.int (56320 : Int32)), (.int x)])
  refine X0.step (fun hA hx hq t_ k_ => XS.icmpNo hA hx rfl (hb hq d26_3) rfl (flt ((by rw [Int32.lt_iff_toInt_lt]; have : (56320 : Int32).toInt = 56320 := (by decide); omega))).1 k_) ?_
  show OFin _ _ _ _ _ _ T0 (mkF m 6 #[.val (.int x)] [])
  refine X0.step (fun hA hx hq t_ k_ => XS.iloadN hA hx rfl (hb hq d26_6) rfl k_) ?_
  show OFin _ _ _ _ _ _ T0 (mkF m 7 #[.val (.int x)] [(.int x)])
  refine X0.ldcI (hw _ (List.mem_of_getElem? (i := 121) rfl)) (g := (mkF m 7 #[.val (.int x)] [(.int x)])) rfl d26_7 ?_
  show OFin _ _ _ _ _ _ T0 (mkF m 9 #[.val (.int x)] [(.int (57344 : Int32)), (.int x)])
  refine X0.step (fun hA hx hq t_ k_ => XS.icmpNo hA hx rfl (hb hq d26_9) rfl (tlt ((by rw [Int32.lt_iff_toInt_lt]; have : (57344 : Int32).toInt = 57344 := (by decide); omega))).2.1 k_) ?_
  show OFin _ _ _ _ _ _ T0 (mkF m 12 #[.val (.int x)] [])
  refine X0.step (fun hA hx hq t_ k_ => XS.iconst hA hx rfl (hb hq d26_12) k_) ?_
  show OFin _ _ _ _ _ _ T0 (mkF m 13 #[.val (.int x)] [(.int (1 : Int32))])
  refine X0.step (fun hA hx hq t_ k_ => XS.goto hA hx rfl (pc0 := 13) (pc' := 17) rfl (hb hq d26_13) (by decide) (by decide) k_) ?_
  show OFin _ _ _ _ _ _ T0 (mkF m 17 #[.val (.int x)] [(.int (1 : Int32))])
  exact X0.retN (by simp) d26_17 (oN (by decide) (by decide)) (⟨rfl, rfl⟩)
theorem d27_0 : decode jdk_89_method_19_code 0 = .ok (.iload_n 0, 1) := by decide +kernel
theorem d27_1 : decode jdk_89_method_19_code 1 = .ok (.bipush 10, 2) := by decide +kernel
theorem d27_3 : decode jdk_89_method_19_code 3 = .ok (.ishl, 1) := by decide +kernel
theorem d27_4 : decode jdk_89_method_19_code 4 = .ok (.iload_n 1, 1) := by decide +kernel
theorem d27_5 : decode jdk_89_method_19_code 5 = .ok (.iadd, 1) := by decide +kernel
theorem d27_6 : decode jdk_89_method_19_code 6 = .ok (.ldc 85, 2) := by decide +kernel
theorem d27_8 : decode jdk_89_method_19_code 8 = .ok (.iadd, 1) := by decide +kernel
theorem d27_9 : decode jdk_89_method_19_code 9 = .ok (.ireturn, 1) := by decide +kernel
set_option maxRecDepth 65536 in
set_option maxHeartbeats 40000000 in
theorem sk4 (l : Launch) (Z : State) (a0 : Array Value) (hw : ∀ d ∈ tables_1, d.before a0 Z = true) (x x2 : Int32) (h0 : Heap) (n0 : Nat) (hx : own_hi x) (hx2 : own_lo x2) :
    OMeets l Z (⟨"java/lang/Character", "toCodePoint", "(CC)I"⟩ : MethodName) [] jdk_89_method_19_code 2 (some .int) ({ frames := 0, cells := 0, slots := 0, locals := 0 } : Room) #[(.int x), (.int x2)] h0 n0 (fun v h => h0 = h ∧ ∃ g, v = some (.int g) ∧ 65536 ≤ g.toInt) := by
  refine o_enter (Z := Z) (plainFor_of_name pn_java_lang_Character) ?_
  intro p e s m below meth c T0 X0
  refine OFin.cast (g' := (mkF m 0 #[.val (.int x), .val (.int x2)] [])) (by first | (simp [entryFrame, mkF, argsToLocals, Value.category]; done) | rfl) ?_
  refine X0.step (fun hA hx hq t_ k_ => XS.iloadN hA hx rfl (hb hq d27_0) rfl k_) ?_
  show OFin _ _ _ _ _ _ T0 (mkF m 1 #[.val (.int x), .val (.int x2)] [(.int x)])
  refine X0.step (fun hA hx hq t_ k_ => XS.bipush hA hx rfl (hb hq d27_1) k_) ?_
  show OFin _ _ _ _ _ _ T0 (mkF m 3 #[.val (.int x), .val (.int x2)] [(.int (10 : Int32)), (.int x)])
  refine X0.step (fun hA hx hq t_ k_ => XS.ishl hA hx rfl (hb hq d27_3) rfl k_) ?_
  show OFin _ _ _ _ _ _ T0 (mkF m 4 #[.val (.int x), .val (.int x2)] [(.int (x <<< ((10 : Int32) &&& 31)))])
  refine X0.step (fun hA hx hq t_ k_ => XS.iloadN hA hx rfl (hb hq d27_4) rfl k_) ?_
  show OFin _ _ _ _ _ _ T0 (mkF m 5 #[.val (.int x), .val (.int x2)] [(.int x2), (.int (x <<< ((10 : Int32) &&& 31)))])
  refine X0.step (fun hA hx hq t_ k_ => XS.iadd hA hx rfl (hb hq d27_5) rfl k_) ?_
  show OFin _ _ _ _ _ _ T0 (mkF m 6 #[.val (.int x), .val (.int x2)] [(.int ((x <<< ((10 : Int32) &&& 31)) + x2))])
  refine X0.ldcI (hw _ (List.mem_of_getElem? (i := 125) rfl)) (g := (mkF m 6 #[.val (.int x), .val (.int x2)] [(.int ((x <<< ((10 : Int32) &&& 31)) + x2))])) rfl d27_6 ?_
  show OFin _ _ _ _ _ _ T0 (mkF m 8 #[.val (.int x), .val (.int x2)] [(.int (-56613888 : Int32)), (.int ((x <<< ((10 : Int32) &&& 31)) + x2))])
  refine X0.step (fun hA hx hq t_ k_ => XS.iadd hA hx rfl (hb hq d27_8) rfl k_) ?_
  show OFin _ _ _ _ _ _ T0 (mkF m 9 #[.val (.int x), .val (.int x2)] [(.int (((x <<< ((10 : Int32) &&& 31)) + x2) + (-56613888 : Int32)))])
  exact X0.retI d27_9 (oN (by decide) (by decide)) (⟨rfl, _, rfl, own_cp hx hx2⟩)
theorem d17_0 : decode jdk_89_method_18_code 0 = .ok (.iload_n 0, 1) := by decide +kernel
theorem d17_1 : decode jdk_89_method_18_code 1 = .ok (.ldc 73, 2) := by decide +kernel
theorem d17_3 : decode jdk_89_method_18_code 3 = .ok (.if_icmp .lt 7, 3) := by decide +kernel
theorem d17_10 : decode jdk_89_method_18_code 10 = .ok (.iconst 1, 1) := by decide +kernel
theorem d17_11 : decode jdk_89_method_18_code 11 = .ok (.ireturn, 1) := by decide +kernel
set_option maxRecDepth 65536 in
set_option maxHeartbeats 40000000 in
theorem sk5 (l : Launch) (Z : State) (a0 : Array Value) (hw : ∀ d ∈ tables_1, d.before a0 Z = true) (x : Int32) (h0 : Heap) (n0 : Nat) (hx : x.toInt ≤ 65535) :
    OMeets l Z (⟨"java/lang/Character", "charCount", "(I)I"⟩ : MethodName) [] jdk_89_method_18_code 1 (some .int) ({ frames := 0, cells := 0, slots := 0, locals := 0 } : Room) #[(.int x)] h0 n0 (fun v h => v = some (.int 1) ∧ h0 = h) := by
  refine o_enter (Z := Z) (plainFor_of_name pn_java_lang_Character) ?_
  intro p e s m below meth c T0 X0
  refine OFin.cast (g' := (mkF m 0 #[.val (.int x)] [])) (by first | (simp [entryFrame, mkF, argsToLocals, Value.category]; done) | rfl) ?_
  refine X0.step (fun hA hx hq t_ k_ => XS.iloadN hA hx rfl (hb hq d17_0) rfl k_) ?_
  show OFin _ _ _ _ _ _ T0 (mkF m 1 #[.val (.int x)] [(.int x)])
  refine X0.ldcI (hw _ (List.mem_of_getElem? (i := 84) rfl)) (g := (mkF m 1 #[.val (.int x)] [(.int x)])) rfl d17_1 ?_
  show OFin _ _ _ _ _ _ T0 (mkF m 3 #[.val (.int x)] [(.int (65536 : Int32)), (.int x)])
  refine X0.step (fun hA hx hq t_ k_ => XS.icmpYes hA hx rfl (pc0 := 3) (pc' := 10) rfl (hb hq d17_3) rfl (tlt ((by rw [Int32.lt_iff_toInt_lt]; have : (65536 : Int32).toInt = 65536 := (by decide); omega))).1 (by decide) (by decide) k_) ?_
  show OFin _ _ _ _ _ _ T0 (mkF m 10 #[.val (.int x)] [])
  refine X0.step (fun hA hx hq t_ k_ => XS.iconst hA hx rfl (hb hq d17_10) k_) ?_
  show OFin _ _ _ _ _ _ T0 (mkF m 11 #[.val (.int x)] [(.int (1 : Int32))])
  exact X0.retI d17_11 (oN (by decide) (by decide)) (⟨rfl, rfl⟩)
theorem d17_6 : decode jdk_89_method_18_code 6 = .ok (.iconst 2, 1) := by decide +kernel
theorem d17_7 : decode jdk_89_method_18_code 7 = .ok (.goto 4, 3) := by decide +kernel
set_option maxRecDepth 65536 in
set_option maxHeartbeats 40000000 in
theorem sk6 (l : Launch) (Z : State) (a0 : Array Value) (hw : ∀ d ∈ tables_1, d.before a0 Z = true) (x : Int32) (h0 : Heap) (n0 : Nat) (hx : 65536 ≤ x.toInt) :
    OMeets l Z (⟨"java/lang/Character", "charCount", "(I)I"⟩ : MethodName) [] jdk_89_method_18_code 1 (some .int) ({ frames := 0, cells := 0, slots := 0, locals := 0 } : Room) #[(.int x)] h0 n0 (fun v h => v = some (.int 2) ∧ h0 = h) := by
  refine o_enter (Z := Z) (plainFor_of_name pn_java_lang_Character) ?_
  intro p e s m below meth c T0 X0
  refine OFin.cast (g' := (mkF m 0 #[.val (.int x)] [])) (by first | (simp [entryFrame, mkF, argsToLocals, Value.category]; done) | rfl) ?_
  refine X0.step (fun hA hx hq t_ k_ => XS.iloadN hA hx rfl (hb hq d17_0) rfl k_) ?_
  show OFin _ _ _ _ _ _ T0 (mkF m 1 #[.val (.int x)] [(.int x)])
  refine X0.ldcI (hw _ (List.mem_of_getElem? (i := 84) rfl)) (g := (mkF m 1 #[.val (.int x)] [(.int x)])) rfl d17_1 ?_
  show OFin _ _ _ _ _ _ T0 (mkF m 3 #[.val (.int x)] [(.int (65536 : Int32)), (.int x)])
  refine X0.step (fun hA hx hq t_ k_ => XS.icmpNo hA hx rfl (hb hq d17_3) rfl (flt ((by rw [Int32.lt_iff_toInt_lt]; have : (65536 : Int32).toInt = 65536 := (by decide); omega))).1 k_) ?_
  show OFin _ _ _ _ _ _ T0 (mkF m 6 #[.val (.int x)] [])
  refine X0.step (fun hA hx hq t_ k_ => XS.iconst hA hx rfl (hb hq d17_6) k_) ?_
  show OFin _ _ _ _ _ _ T0 (mkF m 7 #[.val (.int x)] [(.int (2 : Int32))])
  refine X0.step (fun hA hx hq t_ k_ => XS.goto hA hx rfl (pc0 := 7) (pc' := 11) rfl (hb hq d17_7) (by decide) (by decide) k_) ?_
  show OFin _ _ _ _ _ _ T0 (mkF m 11 #[.val (.int x)] [(.int (2 : Int32))])
  exact X0.retI d17_11 (oN (by decide) (by decide)) (⟨rfl, rfl⟩)
theorem d24_0 : decode jdk_52_method_7_code 0 = .ok (.getstatic 44, 3) := by decide +kernel
theorem d24_3 : decode jdk_52_method_7_code 3 = .ok (.ifCond .ne 16, 3) := by decide +kernel
theorem d24_19 : decode jdk_52_method_7_code 19 = .ok (.iload_n 3, 1) := by decide +kernel
theorem d24_20 : decode jdk_52_method_7_code 20 = .ok (.ifCond .eq 8, 3) := by decide +kernel
theorem d24_28 : decode jdk_52_method_7_code 28 = .ok (.aload_n 0, 1) := by decide +kernel
theorem d24_29 : decode jdk_52_method_7_code 29 = .ok (.iload_n 1, 1) := by decide +kernel
theorem d24_30 : decode jdk_52_method_7_code 30 = .ok (.invokestatic 71, 3) := by decide +kernel
theorem d24_33 : decode jdk_52_method_7_code 33 = .ok (.istore 4, 2) := by decide +kernel
theorem d24_35 : decode jdk_52_method_7_code 35 = .ok (.iload 4, 2) := by decide +kernel
theorem d24_37 : decode jdk_52_method_7_code 37 = .ok (.invokestatic 75, 3) := by decide +kernel
theorem pd_pCr_Z : parseMethodDescriptor "(C)Z" = some ⟨[.char], some .boolean⟩ := by decide +kernel
theorem d24_40 : decode jdk_52_method_7_code 40 = .ok (.ifCond .eq 43, 3) := by decide +kernel
theorem d24_83 : decode jdk_52_method_7_code 83 = .ok (.iload 4, 2) := by decide +kernel
theorem d24_85 : decode jdk_52_method_7_code 85 = .ok (.ireturn, 1) := by decide +kernel
set_option maxRecDepth 65536 in
set_option maxHeartbeats 40000000 in
theorem sp1a (l : Launch) (Z : State) (a0 : Array Value) (hw : ∀ d ∈ tables_1, d.before a0 Z = true) (t : Addr) (i N : Nat) (f : Nat → Int32) (h0 : Heap) (n0 : Nat) (F : OArr Z h0 t .byte (2 * N) (fun k => .int (own_ub f k))) (hN : N ≤ 2000) (hi : i < N) (ho : own_o1 (f i)) (hch : ∀ j, own_chr16 (f j)) (SA : Sta Z h0 "java/lang/StringUTF16" "$assertionsDisabled" "Z" (.int 1)) (SH : Sta Z h0 "java/lang/StringUTF16" "HI_BYTE_SHIFT" "I" (.int 0)) (SL : Sta Z h0 "java/lang/StringUTF16" "LO_BYTE_SHIFT" "I" (.int 8)) :
    OMeets l Z (⟨"java/lang/StringUTF16", "codePointAt", "([BIIZ)I"⟩ : MethodName) [] jdk_52_method_7_code 6 (some .int) ({ frames := 1, cells := 0, slots := 0, locals := 13 } : Room) #[(.ref t), (.int (Int32.ofNat i)), (.int (Int32.ofNat N)), (.int (0 : Int32))] h0 n0 (fun v h => v = some (.int (f i)) ∧ h0 = h) := by
  refine o_enter (Z := Z) (plainFor_of_name pn_java_lang_StringUTF16) ?_
  intro p e s m below meth c T0 X0
  refine OFin.cast (g' := (mkF m 0 #[.val (.ref t), .val (.int (Int32.ofNat i)), .val (.int (Int32.ofNat N)), .val (.int (0 : Int32)), .unset, .unset] [])) (by first | (simp [entryFrame, mkF, argsToLocals, Value.category]; done) | rfl) ?_
  refine X0.getS (hw _ (List.mem_of_getElem? (i := 98) rfl)) SA (g := (mkF m 0 #[.val (.ref t), .val (.int (Int32.ofNat i)), .val (.int (Int32.ofNat N)), .val (.int (0 : Int32)), .unset, .unset] [])) rfl d24_0 ?_
  intro T1 X1
  show OFin _ _ _ _ _ _ T1 (mkF m 3 #[.val (.ref t), .val (.int (Int32.ofNat i)), .val (.int (Int32.ofNat N)), .val (.int (0 : Int32)), .unset, .unset] [(.int (1 : Int32))])
  refine X1.step (fun hA hx hq t_ k_ => XS.ifYes hA hx rfl (pc0 := 3) (pc' := 19) rfl (hb hq d24_3) rfl ((if0 _ _).trans (feq ((by decide))).2) (by decide) (by decide) k_) ?_
  show OFin _ _ _ _ _ _ T1 (mkF m 19 #[.val (.ref t), .val (.int (Int32.ofNat i)), .val (.int (Int32.ofNat N)), .val (.int (0 : Int32)), .unset, .unset] [])
  refine X1.step (fun hA hx hq t_ k_ => XS.iloadN hA hx rfl (hb hq d24_19) rfl k_) ?_
  show OFin _ _ _ _ _ _ T1 (mkF m 20 #[.val (.ref t), .val (.int (Int32.ofNat i)), .val (.int (Int32.ofNat N)), .val (.int (0 : Int32)), .unset, .unset] [(.int (0 : Int32))])
  refine X1.step (fun hA hx hq t_ k_ => XS.ifYes hA hx rfl (pc0 := 20) (pc' := 28) rfl (hb hq d24_20) rfl ((if0 _ _).trans (teq ((rfl : (0 : Int32) = (0 : Int32)))).1) (by decide) (by decide) k_) ?_
  show OFin _ _ _ _ _ _ T1 (mkF m 28 #[.val (.ref t), .val (.int (Int32.ofNat i)), .val (.int (Int32.ofNat N)), .val (.int (0 : Int32)), .unset, .unset] [])
  refine X1.step (fun hA hx hq t_ k_ => XS.aloadN hA hx rfl (hb hq d24_28) rfl rfl k_) ?_
  show OFin _ _ _ _ _ _ T1 (mkF m 29 #[.val (.ref t), .val (.int (Int32.ofNat i)), .val (.int (Int32.ofNat N)), .val (.int (0 : Int32)), .unset, .unset] [(.ref t)])
  refine X1.step (fun hA hx hq t_ k_ => XS.iloadN hA hx rfl (hb hq d24_29) rfl k_) ?_
  show OFin _ _ _ _ _ _ T1 (mkF m 30 #[.val (.ref t), .val (.int (Int32.ofNat i)), .val (.int (Int32.ofNat N)), .val (.int (0 : Int32)), .unset, .unset] [(.int (Int32.ofNat i)), (.ref t)])
  refine X1.callS (y' := (⟨"java/lang/StringUTF16", "getChar", "([BI)C"⟩ : MethodName)) (hw _ (List.mem_of_getElem? (i := 101) rfl)) (hw _ (List.mem_of_getElem? (i := 102) rfl)) (hw _ (List.mem_of_getElem? (i := 27) rfl)) (hw _ (List.mem_of_getElem? (i := 103) rfl)) (by decide) (argsL := [(.ref t), (.int (Int32.ofNat i))]) (rest := []) (su5 l Z a0 hw t i N f h0 n0 F (by omega) hN (hch i) SA SH SL) (g := (mkF m 30 #[.val (.ref t), .val (.int (Int32.ofNat i)), .val (.int (Int32.ofNat N)), .val (.int (0 : Int32)), .unset, .unset] [(.int (Int32.ofNat i)), (.ref t)])) rfl rfl pd_pA_BIr_C rfl rfl (W := 0) (by show 2 * 0 + _ ≤ _; exact Nat.le_of_eq rfl) d24_30 (by decide) (by decide) (by decide) (by decide) ?_
  intro v2 T2 h2 X2 q2
  obtain ⟨rfl, rfl⟩ := q2
  show OFin _ _ _ _ _ _ T2 (mkF m 33 #[.val (.ref t), .val (.int (Int32.ofNat i)), .val (.int (Int32.ofNat N)), .val (.int (0 : Int32)), .unset, .unset] [(.int (f i))])
  refine X2.step (fun hA hx hq t_ k_ => XS.istore hA hx rfl (hb hq d24_33) rfl (l' := #[.val (.ref t), .val (.int (Int32.ofNat i)), .val (.int (Int32.ofNat N)), .val (.int (0 : Int32)), .val (.int (f i)), .unset]) rfl k_) ?_
  show OFin _ _ _ _ _ _ T2 (mkF m 35 #[.val (.ref t), .val (.int (Int32.ofNat i)), .val (.int (Int32.ofNat N)), .val (.int (0 : Int32)), .val (.int (f i)), .unset] [])
  refine X2.step (fun hA hx hq t_ k_ => XS.iload hA hx rfl (hb hq d24_35) rfl k_) ?_
  show OFin _ _ _ _ _ _ T2 (mkF m 37 #[.val (.ref t), .val (.int (Int32.ofNat i)), .val (.int (Int32.ofNat N)), .val (.int (0 : Int32)), .val (.int (f i)), .unset] [(.int (f i))])
  refine X2.callS (y' := (⟨"java/lang/Character", "isHighSurrogate", "(C)Z"⟩ : MethodName)) (hw _ (List.mem_of_getElem? (i := 110) rfl)) (hw _ (List.mem_of_getElem? (i := 111) rfl)) (hw _ (List.mem_of_getElem? (i := 82) rfl)) (hw _ (List.mem_of_getElem? (i := 112) rfl)) (by decide) (argsL := [(.int (f i))]) (rest := []) (sk2 l Z a0 hw (f i) h0 n0 ho) (g := (mkF m 37 #[.val (.ref t), .val (.int (Int32.ofNat i)), .val (.int (Int32.ofNat N)), .val (.int (0 : Int32)), .val (.int (f i)), .unset] [(.int (f i))])) rfl rfl pd_pCr_Z rfl rfl (W := 0) (by show 2 * 0 + _ ≤ _; exact Nat.le_of_eq rfl) d24_37 (by decide) (by decide) (by decide) (by decide) ?_
  intro v3 T3 h3 X3 q3
  obtain ⟨rfl, rfl⟩ := q3
  show OFin _ _ _ _ _ _ T3 (mkF m 40 #[.val (.ref t), .val (.int (Int32.ofNat i)), .val (.int (Int32.ofNat N)), .val (.int (0 : Int32)), .val (.int (f i)), .unset] [(.int (0 : Int32))])
  refine X3.step (fun hA hx hq t_ k_ => XS.ifYes hA hx rfl (pc0 := 40) (pc' := 83) rfl (hb hq d24_40) rfl ((if0 _ _).trans (teq ((rfl : (0 : Int32) = (0 : Int32)))).1) (by decide) (by decide) k_) ?_
  show OFin _ _ _ _ _ _ T3 (mkF m 83 #[.val (.ref t), .val (.int (Int32.ofNat i)), .val (.int (Int32.ofNat N)), .val (.int (0 : Int32)), .val (.int (f i)), .unset] [])
  refine X3.step (fun hA hx hq t_ k_ => XS.iload hA hx rfl (hb hq d24_83) rfl k_) ?_
  show OFin _ _ _ _ _ _ T3 (mkF m 85 #[.val (.ref t), .val (.int (Int32.ofNat i)), .val (.int (Int32.ofNat N)), .val (.int (0 : Int32)), .val (.int (f i)), .unset] [(.int (f i))])
  exact X3.retI d24_85 (oN (by decide) (by decide)) (⟨rfl, rfl⟩)
theorem d23_0 : decode jdk_52_method_8_code 0 = .ok (.aload_n 0, 1) := by decide +kernel
theorem d23_1 : decode jdk_52_method_8_code 1 = .ok (.iload_n 1, 1) := by decide +kernel
theorem d23_2 : decode jdk_52_method_8_code 2 = .ok (.iload_n 2, 1) := by decide +kernel
theorem d23_3 : decode jdk_52_method_8_code 3 = .ok (.iconst 0, 1) := by decide +kernel
theorem d23_4 : decode jdk_52_method_8_code 4 = .ok (.invokestatic 88, 3) := by decide +kernel
theorem pd_pA_BIIZr_I : parseMethodDescriptor "([BIIZ)I" = some ⟨[(.array .byte), .int, .int, .boolean], some .int⟩ := by decide +kernel
theorem d23_7 : decode jdk_52_method_8_code 7 = .ok (.ireturn, 1) := by decide +kernel
set_option maxRecDepth 65536 in
set_option maxHeartbeats 40000000 in
theorem sp1b (l : Launch) (Z : State) (a0 : Array Value) (hw : ∀ d ∈ tables_1, d.before a0 Z = true) (t : Addr) (i N : Nat) (f : Nat → Int32) (h0 : Heap) (n0 : Nat) (F : OArr Z h0 t .byte (2 * N) (fun k => .int (own_ub f k))) (hN : N ≤ 2000) (hi : i < N) (ho : own_o1 (f i)) (hch : ∀ j, own_chr16 (f j)) (SA : Sta Z h0 "java/lang/StringUTF16" "$assertionsDisabled" "Z" (.int 1)) (SH : Sta Z h0 "java/lang/StringUTF16" "HI_BYTE_SHIFT" "I" (.int 0)) (SL : Sta Z h0 "java/lang/StringUTF16" "LO_BYTE_SHIFT" "I" (.int 8)) :
    OMeets l Z (⟨"java/lang/StringUTF16", "codePointAt", "([BII)I"⟩ : MethodName) [] jdk_52_method_8_code 3 (some .int) ({ frames := 2, cells := 0, slots := 0, locals := 30 } : Room) #[(.ref t), (.int (Int32.ofNat i)), (.int (Int32.ofNat N))] h0 n0 (fun v h => v = some (.int (f i)) ∧ h0 = h) := by
  refine o_enter (Z := Z) (plainFor_of_name pn_java_lang_StringUTF16) ?_
  intro p e s m below meth c T0 X0
  refine OFin.cast (g' := (mkF m 0 #[.val (.ref t), .val (.int (Int32.ofNat i)), .val (.int (Int32.ofNat N))] [])) (by first | (simp [entryFrame, mkF, argsToLocals, Value.category]; done) | rfl) ?_
  refine X0.step (fun hA hx hq t_ k_ => XS.aloadN hA hx rfl (hb hq d23_0) rfl rfl k_) ?_
  show OFin _ _ _ _ _ _ T0 (mkF m 1 #[.val (.ref t), .val (.int (Int32.ofNat i)), .val (.int (Int32.ofNat N))] [(.ref t)])
  refine X0.step (fun hA hx hq t_ k_ => XS.iloadN hA hx rfl (hb hq d23_1) rfl k_) ?_
  show OFin _ _ _ _ _ _ T0 (mkF m 2 #[.val (.ref t), .val (.int (Int32.ofNat i)), .val (.int (Int32.ofNat N))] [(.int (Int32.ofNat i)), (.ref t)])
  refine X0.step (fun hA hx hq t_ k_ => XS.iloadN hA hx rfl (hb hq d23_2) rfl k_) ?_
  show OFin _ _ _ _ _ _ T0 (mkF m 3 #[.val (.ref t), .val (.int (Int32.ofNat i)), .val (.int (Int32.ofNat N))] [(.int (Int32.ofNat N)), (.int (Int32.ofNat i)), (.ref t)])
  refine X0.step (fun hA hx hq t_ k_ => XS.iconst hA hx rfl (hb hq d23_3) k_) ?_
  show OFin _ _ _ _ _ _ T0 (mkF m 4 #[.val (.ref t), .val (.int (Int32.ofNat i)), .val (.int (Int32.ofNat N))] [(.int (0 : Int32)), (.int (Int32.ofNat N)), (.int (Int32.ofNat i)), (.ref t)])
  refine X0.callS (y' := (⟨"java/lang/StringUTF16", "codePointAt", "([BIIZ)I"⟩ : MethodName)) (hw _ (List.mem_of_getElem? (i := 107) rfl)) (hw _ (List.mem_of_getElem? (i := 108) rfl)) (hw _ (List.mem_of_getElem? (i := 27) rfl)) (hw _ (List.mem_of_getElem? (i := 109) rfl)) (by decide) (argsL := [(.ref t), (.int (Int32.ofNat i)), (.int (Int32.ofNat N)), (.int (0 : Int32))]) (rest := []) (sp1a l Z a0 hw t i N f h0 n0 F hN hi ho hch SA SH SL) (g := (mkF m 4 #[.val (.ref t), .val (.int (Int32.ofNat i)), .val (.int (Int32.ofNat N))] [(.int (0 : Int32)), (.int (Int32.ofNat N)), (.int (Int32.ofNat i)), (.ref t)])) rfl rfl pd_pA_BIIZr_I rfl rfl (W := 0) (by show 2 * 0 + _ ≤ _; exact Nat.le_of_eq rfl) d23_4 (by decide) (by decide) (by decide) (by decide) ?_
  intro v1 T1 h1 X1 q1
  obtain ⟨rfl, rfl⟩ := q1
  show OFin _ _ _ _ _ _ T1 (mkF m 7 #[.val (.ref t), .val (.int (Int32.ofNat i)), .val (.int (Int32.ofNat N))] [(.int (f i))])
  exact X1.retI d23_7 (oN (by decide) (by decide)) (⟨rfl, rfl⟩)
theorem d13_0 : decode jdk_42_method_57_code 0 = .ok (.aload_n 0, 1) := by decide +kernel
theorem d13_1 : decode jdk_42_method_57_code 1 = .ok (.invokevirtual 492, 3) := by decide +kernel
theorem pd_pr_Z : parseMethodDescriptor "()Z" = some ⟨[], some .boolean⟩ := by decide +kernel
theorem d13_4 : decode jdk_42_method_57_code 4 = .ok (.ifCond .eq 23, 3) := by decide +kernel
theorem d13_27 : decode jdk_42_method_57_code 27 = .ok (.aload_n 0, 1) := by decide +kernel
theorem d13_28 : decode jdk_42_method_57_code 28 = .ok (.getfield 9, 3) := by decide +kernel
theorem d13_31 : decode jdk_42_method_57_code 31 = .ok (.arraylength, 1) := by decide +kernel
theorem d13_32 : decode jdk_42_method_57_code 32 = .ok (.iconst 1, 1) := by decide +kernel
theorem d13_33 : decode jdk_42_method_57_code 33 = .ok (.ishr, 1) := by decide +kernel
theorem d13_34 : decode jdk_42_method_57_code 34 = .ok (.istore_n 2, 1) := by decide +kernel
theorem d13_35 : decode jdk_42_method_57_code 35 = .ok (.iload_n 1, 1) := by decide +kernel
theorem d13_36 : decode jdk_42_method_57_code 36 = .ok (.iload_n 2, 1) := by decide +kernel
theorem d13_37 : decode jdk_42_method_57_code 37 = .ok (.invokestatic 499, 3) := by decide +kernel
theorem pd_pIIr_V : parseMethodDescriptor "(II)V" = some ⟨[.int, .int], none⟩ := by decide +kernel
theorem d13_40 : decode jdk_42_method_57_code 40 = .ok (.aload_n 0, 1) := by decide +kernel
theorem d13_41 : decode jdk_42_method_57_code 41 = .ok (.getfield 9, 3) := by decide +kernel
theorem d13_44 : decode jdk_42_method_57_code 44 = .ok (.iload_n 1, 1) := by decide +kernel
theorem d13_45 : decode jdk_42_method_57_code 45 = .ok (.iload_n 2, 1) := by decide +kernel
theorem d13_46 : decode jdk_42_method_57_code 46 = .ok (.invokestatic 502, 3) := by decide +kernel
theorem pd_pA_BIIr_I : parseMethodDescriptor "([BII)I" = some ⟨[(.array .byte), .int, .int], some .int⟩ := by decide +kernel
theorem d13_49 : decode jdk_42_method_57_code 49 = .ok (.ireturn, 1) := by decide +kernel
set_option maxRecDepth 65536 in
set_option maxHeartbeats 40000000 in
theorem sp1c (l : Launch) (Z : State) (a0 : Array Value) (hw : ∀ d ∈ tables_1, d.before a0 Z = true) (a1 t : Addr) (N : Nat) (f : Nat → Int32) (i : Nat) (cs : Int32) (vf : Value) (h0 : Heap) (n0 : Nat) (S : OStr16 Z h0 a1 t N f) (hN : N ≤ 2000) (hi : i < N) (ho : own_o1 (f i)) (hch : ∀ j, own_chr16 (f j)) (SA : Sta Z h0 "java/lang/StringUTF16" "$assertionsDisabled" "Z" (.int 1)) (SH : Sta Z h0 "java/lang/StringUTF16" "HI_BYTE_SHIFT" "I" (.int 0)) (SL : Sta Z h0 "java/lang/StringUTF16" "LO_BYTE_SHIFT" "I" (.int 8)) (SS : Sta Z h0 "java/lang/String" "COMPACT_STRINGS" "Z" (.int cs)) (hcs : ¬ cs = 0) (SP : Sta Z h0 "jdk/internal/util/Preconditions" "SIOOBE_FORMATTER" "Ljava/util/function/BiFunction;" vf) (rf : vf.isRef = true) :
    OMeets l Z (⟨"java/lang/String", "codePointAt", "(I)I"⟩ : MethodName) [] jdk_42_method_57_code 3 (some .int) ({ frames := 3, cells := 0, slots := 0, locals := 44 } : Room) #[(.ref a1), (.int (Int32.ofNat i))] h0 n0 (fun v h => v = some (.int (f i)) ∧ h0 = h) := by
  refine o_enter (Z := Z) (plainFor_of_name pn_java_lang_String) ?_
  intro p e s m below meth c T0 X0
  refine OFin.cast (g' := (mkF m 0 #[.val (.ref a1), .val (.int (Int32.ofNat i)), .unset] [])) (by first | (simp [entryFrame, mkF, argsToLocals, Value.category]; done) | rfl) ?_
  obtain ⟨c1, A1, S1, H1⟩ := id S.2.2.2
  refine X0.step (fun hA hx hq t_ k_ => XS.aloadN hA hx rfl (hb hq d13_0) rfl rfl k_) ?_
  show OFin _ _ _ _ _ _ T0 (mkF m 1 #[.val (.ref a1), .val (.int (Int32.ofNat i)), .unset] [(.ref a1)])
  refine X0.callV (y' := (⟨"java/lang/String", "isLatin1", "()Z"⟩ : MethodName)) (z' := (⟨"java/lang/String", "isLatin1", "()Z"⟩ : MethodName)) (hw _ (List.mem_of_getElem? (i := 66) rfl)) (hw _ (List.mem_of_getElem? (i := 67) rfl)) (X0.notFace (hw _ (List.mem_of_getElem? (i := 69) rfl)) rfl) (hw _ (List.mem_of_getElem? (i := 69) rfl)) (hw _ (List.mem_of_getElem? (i := 68) rfl)) (hw _ (List.mem_of_getElem? (i := 13) rfl)) (hw _ (List.mem_of_getElem? (i := 70) rfl)) (by decide) S.1 (argsL := []) (rest := []) (sc1u l Z a0 hw a1 t N f cs h0 n0 S hN SS hcs) (g := (mkF m 1 #[.val (.ref a1), .val (.int (Int32.ofNat i)), .unset] [(.ref a1)])) rfl rfl pd_pr_Z rfl rfl (W := 0) (by show 2 * 0 + _ ≤ _; exact Nat.le_of_eq rfl) d13_1 (by decide) (by decide) (by decide) (by decide) ?_
  intro v1 T1 h1 X1 q1
  obtain ⟨rfl, rfl⟩ := q1
  show OFin _ _ _ _ _ _ T1 (mkF m 4 #[.val (.ref a1), .val (.int (Int32.ofNat i)), .unset] [(.int (0 : Int32))])
  refine X1.step (fun hA hx hq t_ k_ => XS.ifYes hA hx rfl (pc0 := 4) (pc' := 27) rfl (hb hq d13_4) rfl ((if0 _ _).trans (teq ((rfl : (0 : Int32) = (0 : Int32)))).1) (by decide) (by decide) k_) ?_
  show OFin _ _ _ _ _ _ T1 (mkF m 27 #[.val (.ref a1), .val (.int (Int32.ofNat i)), .unset] [])
  refine X1.step (fun hA hx hq t_ k_ => XS.aloadN hA hx rfl (hb hq d13_27) rfl rfl k_) ?_
  show OFin _ _ _ _ _ _ T1 (mkF m 28 #[.val (.ref a1), .val (.int (Int32.ofNat i)), .unset] [(.ref a1)])
  refine X1.getF (hw _ (List.mem_of_getElem? (i := 38) rfl)) S.2.2.1 (g := (mkF m 28 #[.val (.ref a1), .val (.int (Int32.ofNat i)), .unset] [(.ref a1)])) rfl rfl d13_28 ?_
  intro T2 X2
  show OFin _ _ _ _ _ _ T2 (mkF m 31 #[.val (.ref a1), .val (.int (Int32.ofNat i)), .unset] [(.ref t)])
  refine X2.alen A1 (n := (Int32.ofNat (2 * N))) (by rw [S1]) (g := (mkF m 31 #[.val (.ref a1), .val (.int (Int32.ofNat i)), .unset] [(.ref t)])) rfl rfl d13_31 ?_
  show OFin _ _ _ _ _ _ T2 (mkF m 32 #[.val (.ref a1), .val (.int (Int32.ofNat i)), .unset] [(.int (Int32.ofNat (2 * N)))])
  refine X2.step (fun hA hx hq t_ k_ => XS.iconst hA hx rfl (hb hq d13_32) k_) ?_
  show OFin _ _ _ _ _ _ T2 (mkF m 33 #[.val (.ref a1), .val (.int (Int32.ofNat i)), .unset] [(.int (1 : Int32)), (.int (Int32.ofNat (2 * N)))])
  refine X2.step (fun hA hx hq t_ k_ => XS.ishr hA hx rfl (hb hq d13_33) rfl k_) ?_
  show OFin _ _ _ _ _ _ T2 (mkF m 34 #[.val (.ref a1), .val (.int (Int32.ofNat i)), .unset] [(.int ((Int32.ofNat (2 * N)) >>> ((1 : Int32) &&& 31)))])
  rw [own_shr1 N (by omega)]
  show OFin _ _ _ _ _ _ T2 (mkF m 34 #[.val (.ref a1), .val (.int (Int32.ofNat i)), .unset] [(.int (Int32.ofNat N))])
  refine X2.step (fun hA hx hq t_ k_ => XS.istoreN hA hx rfl (hb hq d13_34) rfl (l' := #[.val (.ref a1), .val (.int (Int32.ofNat i)), .val (.int (Int32.ofNat N))]) rfl k_) ?_
  show OFin _ _ _ _ _ _ T2 (mkF m 35 #[.val (.ref a1), .val (.int (Int32.ofNat i)), .val (.int (Int32.ofNat N))] [])
  refine X2.step (fun hA hx hq t_ k_ => XS.iloadN hA hx rfl (hb hq d13_35) rfl k_) ?_
  show OFin _ _ _ _ _ _ T2 (mkF m 36 #[.val (.ref a1), .val (.int (Int32.ofNat i)), .val (.int (Int32.ofNat N))] [(.int (Int32.ofNat i))])
  refine X2.step (fun hA hx hq t_ k_ => XS.iloadN hA hx rfl (hb hq d13_36) rfl k_) ?_
  show OFin _ _ _ _ _ _ T2 (mkF m 37 #[.val (.ref a1), .val (.int (Int32.ofNat i)), .val (.int (Int32.ofNat N))] [(.int (Int32.ofNat N)), (.int (Int32.ofNat i))])
  refine X2.callS (y' := (⟨"java/lang/String", "checkIndex", "(II)V"⟩ : MethodName)) (hw _ (List.mem_of_getElem? (i := 71) rfl)) (hw _ (List.mem_of_getElem? (i := 72) rfl)) (hw _ (List.mem_of_getElem? (i := 13) rfl)) (hw _ (List.mem_of_getElem? (i := 73) rfl)) (by decide) (argsL := [(.int (Int32.ofNat i)), (.int (Int32.ofNat N))]) (rest := []) (sc3 l Z a0 hw i N vf h0 n0 SP rf (by omega) (by omega)) (g := (mkF m 37 #[.val (.ref a1), .val (.int (Int32.ofNat i)), .val (.int (Int32.ofNat N))] [(.int (Int32.ofNat N)), (.int (Int32.ofNat i))])) rfl rfl pd_pIIr_V rfl rfl (W := 0) (by show 2 * 0 + _ ≤ _; exact Nat.le_of_eq rfl) d13_37 (by decide) (by decide) (by decide) (by decide) ?_
  intro v3 T3 h3 X3 q3
  obtain ⟨rfl, rfl⟩ := q3
  show OFin _ _ _ _ _ _ T3 (mkF m 40 #[.val (.ref a1), .val (.int (Int32.ofNat i)), .val (.int (Int32.ofNat N))] [])
  refine X3.step (fun hA hx hq t_ k_ => XS.aloadN hA hx rfl (hb hq d13_40) rfl rfl k_) ?_
  show OFin _ _ _ _ _ _ T3 (mkF m 41 #[.val (.ref a1), .val (.int (Int32.ofNat i)), .val (.int (Int32.ofNat N))] [(.ref a1)])
  refine X3.getF (hw _ (List.mem_of_getElem? (i := 38) rfl)) S.2.2.1 (g := (mkF m 41 #[.val (.ref a1), .val (.int (Int32.ofNat i)), .val (.int (Int32.ofNat N))] [(.ref a1)])) rfl rfl d13_41 ?_
  intro T4 X4
  show OFin _ _ _ _ _ _ T4 (mkF m 44 #[.val (.ref a1), .val (.int (Int32.ofNat i)), .val (.int (Int32.ofNat N))] [(.ref t)])
  refine X4.step (fun hA hx hq t_ k_ => XS.iloadN hA hx rfl (hb hq d13_44) rfl k_) ?_
  show OFin _ _ _ _ _ _ T4 (mkF m 45 #[.val (.ref a1), .val (.int (Int32.ofNat i)), .val (.int (Int32.ofNat N))] [(.int (Int32.ofNat i)), (.ref t)])
  refine X4.step (fun hA hx hq t_ k_ => XS.iloadN hA hx rfl (hb hq d13_45) rfl k_) ?_
  show OFin _ _ _ _ _ _ T4 (mkF m 46 #[.val (.ref a1), .val (.int (Int32.ofNat i)), .val (.int (Int32.ofNat N))] [(.int (Int32.ofNat N)), (.int (Int32.ofNat i)), (.ref t)])
  refine X4.callS (y' := (⟨"java/lang/StringUTF16", "codePointAt", "([BII)I"⟩ : MethodName)) (hw _ (List.mem_of_getElem? (i := 104) rfl)) (hw _ (List.mem_of_getElem? (i := 105) rfl)) (hw _ (List.mem_of_getElem? (i := 27) rfl)) (hw _ (List.mem_of_getElem? (i := 106) rfl)) (by decide) (argsL := [(.ref t), (.int (Int32.ofNat i)), (.int (Int32.ofNat N))]) (rest := []) (sp1b l Z a0 hw t i N f h0 n0 S.2.2.2 hN hi ho hch SA SH SL) (g := (mkF m 46 #[.val (.ref a1), .val (.int (Int32.ofNat i)), .val (.int (Int32.ofNat N))] [(.int (Int32.ofNat N)), (.int (Int32.ofNat i)), (.ref t)])) rfl rfl pd_pA_BIIr_I rfl rfl (W := 0) (by show 2 * 0 + _ ≤ _; exact Nat.le_of_eq rfl) d13_46 (by decide) (by decide) (by decide) (by decide) ?_
  intro v5 T5 h5 X5 q5
  obtain ⟨rfl, rfl⟩ := q5
  show OFin _ _ _ _ _ _ T5 (mkF m 49 #[.val (.ref a1), .val (.int (Int32.ofNat i)), .val (.int (Int32.ofNat N))] [(.int (f i))])
  exact X5.retI d13_49 (oN (by decide) (by decide)) (⟨rfl, rfl⟩)
theorem d13_7 : decode jdk_42_method_57_code 7 = .ok (.iload_n 1, 1) := by decide +kernel
theorem d13_8 : decode jdk_42_method_57_code 8 = .ok (.aload_n 0, 1) := by decide +kernel
theorem d13_9 : decode jdk_42_method_57_code 9 = .ok (.getfield 9, 3) := by decide +kernel
theorem d13_12 : decode jdk_42_method_57_code 12 = .ok (.arraylength, 1) := by decide +kernel
theorem d13_13 : decode jdk_42_method_57_code 13 = .ok (.invokestatic 499, 3) := by decide +kernel
theorem d13_16 : decode jdk_42_method_57_code 16 = .ok (.aload_n 0, 1) := by decide +kernel
theorem d13_17 : decode jdk_42_method_57_code 17 = .ok (.getfield 9, 3) := by decide +kernel
theorem d13_20 : decode jdk_42_method_57_code 20 = .ok (.iload_n 1, 1) := by decide +kernel
theorem d13_21 : decode jdk_42_method_57_code 21 = .ok (.baload, 1) := by decide +kernel
theorem d13_22 : decode jdk_42_method_57_code 22 = .ok (.sipush 255, 3) := by decide +kernel
theorem d13_25 : decode jdk_42_method_57_code 25 = .ok (.iand, 1) := by decide +kernel
theorem d13_26 : decode jdk_42_method_57_code 26 = .ok (.ireturn, 1) := by decide +kernel
set_option maxRecDepth 65536 in
set_option maxHeartbeats 40000000 in
theorem sp1l (l : Launch) (Z : State) (a0 : Array Value) (hw : ∀ d ∈ tables_1, d.before a0 Z = true) (a1 t : Addr) (N : Nat) (f : Nat → Int32) (i : Nat) (cs : Int32) (vf : Value) (h0 : Heap) (n0 : Nat) (S : OStr Z h0 a1 t N f) (hN : N ≤ 2000) (hl : ∀ j, j < N → (f j).toInt ≤ 255) (hi : i < N) (ho : own_o1 (f i)) (hch : ∀ j, own_chr16 (f j)) (SA : Sta Z h0 "java/lang/StringUTF16" "$assertionsDisabled" "Z" (.int 1)) (SH : Sta Z h0 "java/lang/StringUTF16" "HI_BYTE_SHIFT" "I" (.int 0)) (SL : Sta Z h0 "java/lang/StringUTF16" "LO_BYTE_SHIFT" "I" (.int 8)) (SS : Sta Z h0 "java/lang/String" "COMPACT_STRINGS" "Z" (.int cs)) (hcs : ¬ cs = 0) (SP : Sta Z h0 "jdk/internal/util/Preconditions" "SIOOBE_FORMATTER" "Ljava/util/function/BiFunction;" vf) (rf : vf.isRef = true) :
    OMeets l Z (⟨"java/lang/String", "codePointAt", "(I)I"⟩ : MethodName) [] jdk_42_method_57_code 3 (some .int) ({ frames := 3, cells := 0, slots := 0, locals := 44 } : Room) #[(.ref a1), (.int (Int32.ofNat i))] h0 n0 (fun v h => v = some (.int (f i)) ∧ h0 = h) := by
  refine o_enter (Z := Z) (plainFor_of_name pn_java_lang_String) ?_
  intro p e s m below meth c T0 X0
  refine OFin.cast (g' := (mkF m 0 #[.val (.ref a1), .val (.int (Int32.ofNat i)), .unset] [])) (by first | (simp [entryFrame, mkF, argsToLocals, Value.category]; done) | rfl) ?_
  obtain ⟨c1, A1, S1, H1⟩ := id S.2.2.2
  refine X0.step (fun hA hx hq t_ k_ => XS.aloadN hA hx rfl (hb hq d13_0) rfl rfl k_) ?_
  show OFin _ _ _ _ _ _ T0 (mkF m 1 #[.val (.ref a1), .val (.int (Int32.ofNat i)), .unset] [(.ref a1)])
  refine X0.callV (y' := (⟨"java/lang/String", "isLatin1", "()Z"⟩ : MethodName)) (z' := (⟨"java/lang/String", "isLatin1", "()Z"⟩ : MethodName)) (hw _ (List.mem_of_getElem? (i := 66) rfl)) (hw _ (List.mem_of_getElem? (i := 67) rfl)) (X0.notFace (hw _ (List.mem_of_getElem? (i := 69) rfl)) rfl) (hw _ (List.mem_of_getElem? (i := 69) rfl)) (hw _ (List.mem_of_getElem? (i := 68) rfl)) (hw _ (List.mem_of_getElem? (i := 13) rfl)) (hw _ (List.mem_of_getElem? (i := 70) rfl)) (by decide) S.1 (argsL := []) (rest := []) (sc1 l Z a0 hw a1 t N f cs h0 n0 S (by omega) SS hcs) (g := (mkF m 1 #[.val (.ref a1), .val (.int (Int32.ofNat i)), .unset] [(.ref a1)])) rfl rfl pd_pr_Z rfl rfl (W := 0) (by show 2 * 0 + _ ≤ _; exact Nat.le_of_eq rfl) d13_1 (by decide) (by decide) (by decide) (by decide) ?_
  intro v1 T1 h1 X1 q1
  obtain ⟨rfl, rfl⟩ := q1
  show OFin _ _ _ _ _ _ T1 (mkF m 4 #[.val (.ref a1), .val (.int (Int32.ofNat i)), .unset] [(.int (1 : Int32))])
  refine X1.step (fun hA hx hq t_ k_ => XS.ifNo hA hx rfl (hb hq d13_4) rfl ((if0 _ _).trans (feq ((by decide))).1) k_) ?_
  show OFin _ _ _ _ _ _ T1 (mkF m 7 #[.val (.ref a1), .val (.int (Int32.ofNat i)), .unset] [])
  refine X1.step (fun hA hx hq t_ k_ => XS.iloadN hA hx rfl (hb hq d13_7) rfl k_) ?_
  show OFin _ _ _ _ _ _ T1 (mkF m 8 #[.val (.ref a1), .val (.int (Int32.ofNat i)), .unset] [(.int (Int32.ofNat i))])
  refine X1.step (fun hA hx hq t_ k_ => XS.aloadN hA hx rfl (hb hq d13_8) rfl rfl k_) ?_
  show OFin _ _ _ _ _ _ T1 (mkF m 9 #[.val (.ref a1), .val (.int (Int32.ofNat i)), .unset] [(.ref a1), (.int (Int32.ofNat i))])
  refine X1.getF (hw _ (List.mem_of_getElem? (i := 38) rfl)) S.2.2.1 (g := (mkF m 9 #[.val (.ref a1), .val (.int (Int32.ofNat i)), .unset] [(.ref a1), (.int (Int32.ofNat i))])) rfl rfl d13_9 ?_
  intro T2 X2
  show OFin _ _ _ _ _ _ T2 (mkF m 12 #[.val (.ref a1), .val (.int (Int32.ofNat i)), .unset] [(.ref t), (.int (Int32.ofNat i))])
  refine X2.alen A1 (n := (Int32.ofNat N)) (by rw [S1]) (g := (mkF m 12 #[.val (.ref a1), .val (.int (Int32.ofNat i)), .unset] [(.ref t), (.int (Int32.ofNat i))])) rfl rfl d13_12 ?_
  show OFin _ _ _ _ _ _ T2 (mkF m 13 #[.val (.ref a1), .val (.int (Int32.ofNat i)), .unset] [(.int (Int32.ofNat N)), (.int (Int32.ofNat i))])
  refine X2.callS (y' := (⟨"java/lang/String", "checkIndex", "(II)V"⟩ : MethodName)) (hw _ (List.mem_of_getElem? (i := 71) rfl)) (hw _ (List.mem_of_getElem? (i := 72) rfl)) (hw _ (List.mem_of_getElem? (i := 13) rfl)) (hw _ (List.mem_of_getElem? (i := 73) rfl)) (by decide) (argsL := [(.int (Int32.ofNat i)), (.int (Int32.ofNat N))]) (rest := []) (sc3 l Z a0 hw i N vf h0 n0 SP rf (by omega) (by omega)) (g := (mkF m 13 #[.val (.ref a1), .val (.int (Int32.ofNat i)), .unset] [(.int (Int32.ofNat N)), (.int (Int32.ofNat i))])) rfl rfl pd_pIIr_V rfl rfl (W := 0) (by show 2 * 0 + _ ≤ _; exact Nat.le_of_eq rfl) d13_13 (by decide) (by decide) (by decide) (by decide) ?_
  intro v3 T3 h3 X3 q3
  obtain ⟨rfl, rfl⟩ := q3
  show OFin _ _ _ _ _ _ T3 (mkF m 16 #[.val (.ref a1), .val (.int (Int32.ofNat i)), .unset] [])
  refine X3.step (fun hA hx hq t_ k_ => XS.aloadN hA hx rfl (hb hq d13_16) rfl rfl k_) ?_
  show OFin _ _ _ _ _ _ T3 (mkF m 17 #[.val (.ref a1), .val (.int (Int32.ofNat i)), .unset] [(.ref a1)])
  refine X3.getF (hw _ (List.mem_of_getElem? (i := 38) rfl)) S.2.2.1 (g := (mkF m 17 #[.val (.ref a1), .val (.int (Int32.ofNat i)), .unset] [(.ref a1)])) rfl rfl d13_17 ?_
  intro T4 X4
  show OFin _ _ _ _ _ _ T4 (mkF m 20 #[.val (.ref a1), .val (.int (Int32.ofNat i)), .unset] [(.ref t)])
  refine X4.step (fun hA hx hq t_ k_ => XS.iloadN hA hx rfl (hb hq d13_20) rfl k_) ?_
  show OFin _ _ _ _ _ _ T4 (mkF m 21 #[.val (.ref a1), .val (.int (Int32.ofNat i)), .unset] [(.int (Int32.ofNat i)), (.ref t)])
  refine X4.aload0 A1 (v := (.int (f i).toInt8.toInt32)) (own_inN S1 hi (by omega)) (by rw [own_iN i (by omega)]; exact H1 i hi) (g := (mkF m 21 #[.val (.ref a1), .val (.int (Int32.ofNat i)), .unset] [(.int (Int32.ofNat i)), (.ref t)])) rfl rfl (Or.inr (Or.inr (Or.inr (Or.inl ⟨rfl, rfl⟩)))) d13_21 ?_
  show OFin _ _ _ _ _ _ T4 (mkF m 22 #[.val (.ref a1), .val (.int (Int32.ofNat i)), .unset] [(.int (f i).toInt8.toInt32)])
  refine X4.step (fun hA hx hq t_ k_ => XS.sipush hA hx rfl (hb hq d13_22) k_) ?_
  show OFin _ _ _ _ _ _ T4 (mkF m 25 #[.val (.ref a1), .val (.int (Int32.ofNat i)), .unset] [(.int (255 : Int32)), (.int (f i).toInt8.toInt32)])
  refine X4.step (fun hA hx hq t_ k_ => XS.iand hA hx rfl (hb hq d13_25) rfl k_) ?_
  show OFin _ _ _ _ _ _ T4 (mkF m 26 #[.val (.ref a1), .val (.int (Int32.ofNat i)), .unset] [(.int ((f i).toInt8.toInt32 &&& (255 : Int32)))])
  exact X4.retI d13_26 (oN (by decide) (by decide)) (⟨by rw [own_l8 _ (hch i).1 (hl i hi)], rfl⟩)
theorem sp1x (l : Launch) (Z : State) (a0 : Array Value) (hw : ∀ d ∈ tables_1, d.before a0 Z = true) (a1 : Addr) (N : Nat) (f : Nat → Int32) (i : Nat) (cs : Int32) (vf : Value) (h0 : Heap) (n0 : Nat) (S : OStrX Z h0 a1 N f) (hN : N ≤ 2000) (hi : i < N) (ho : own_o1 (f i)) (hch : ∀ j, own_chr16 (f j)) (SA : Sta Z h0 "java/lang/StringUTF16" "$assertionsDisabled" "Z" (.int 1)) (SH : Sta Z h0 "java/lang/StringUTF16" "HI_BYTE_SHIFT" "I" (.int 0)) (SL : Sta Z h0 "java/lang/StringUTF16" "LO_BYTE_SHIFT" "I" (.int 8)) (SS : Sta Z h0 "java/lang/String" "COMPACT_STRINGS" "Z" (.int cs)) (hcs : ¬ cs = 0) (SP : Sta Z h0 "jdk/internal/util/Preconditions" "SIOOBE_FORMATTER" "Ljava/util/function/BiFunction;" vf) (rf : vf.isRef = true) :
    OMeets l Z (⟨"java/lang/String", "codePointAt", "(I)I"⟩ : MethodName) [] jdk_42_method_57_code 3 (some .int) ({ frames := 3, cells := 0, slots := 0, locals := 44 } : Room) #[(.ref a1), (.int (Int32.ofNat i))] h0 n0 (fun v h => v = some (.int (f i)) ∧ h0 = h) := by
  obtain ⟨t, ⟨S, hl⟩ | S⟩ := S
  · exact sp1l l Z a0 hw a1 t N f i cs vf h0 n0 S hN hl hi ho hch SA SH SL SS hcs SP rf
  · exact sp1c l Z a0 hw a1 t N f i cs vf h0 n0 S hN hi ho hch SA SH SL SS hcs SP rf
theorem d24_43 : decode jdk_52_method_7_code 43 = .ok (.iinc 1 1, 3) := by decide +kernel
theorem d24_46 : decode jdk_52_method_7_code 46 = .ok (.iload_n 1, 1) := by decide +kernel
theorem d24_47 : decode jdk_52_method_7_code 47 = .ok (.iload_n 2, 1) := by decide +kernel
theorem d24_48 : decode jdk_52_method_7_code 48 = .ok (.if_icmp .ge 35, 3) := by decide +kernel
theorem d24_51 : decode jdk_52_method_7_code 51 = .ok (.iload_n 3, 1) := by decide +kernel
theorem d24_52 : decode jdk_52_method_7_code 52 = .ok (.ifCond .eq 8, 3) := by decide +kernel
theorem d24_60 : decode jdk_52_method_7_code 60 = .ok (.aload_n 0, 1) := by decide +kernel
theorem d24_61 : decode jdk_52_method_7_code 61 = .ok (.iload_n 1, 1) := by decide +kernel
theorem d24_62 : decode jdk_52_method_7_code 62 = .ok (.invokestatic 71, 3) := by decide +kernel
theorem d24_65 : decode jdk_52_method_7_code 65 = .ok (.istore 5, 2) := by decide +kernel
theorem d24_67 : decode jdk_52_method_7_code 67 = .ok (.iload 5, 2) := by decide +kernel
theorem d24_69 : decode jdk_52_method_7_code 69 = .ok (.invokestatic 81, 3) := by decide +kernel
theorem d24_72 : decode jdk_52_method_7_code 72 = .ok (.ifCond .eq 11, 3) := by decide +kernel
theorem d24_75 : decode jdk_52_method_7_code 75 = .ok (.iload 4, 2) := by decide +kernel
theorem d24_77 : decode jdk_52_method_7_code 77 = .ok (.iload 5, 2) := by decide +kernel
theorem d24_79 : decode jdk_52_method_7_code 79 = .ok (.invokestatic 84, 3) := by decide +kernel
theorem pd_pCCr_I : parseMethodDescriptor "(CC)I" = some ⟨[.char, .char], some .int⟩ := by decide +kernel
theorem d24_82 : decode jdk_52_method_7_code 82 = .ok (.ireturn, 1) := by decide +kernel
set_option maxRecDepth 65536 in
set_option maxHeartbeats 40000000 in
theorem sp2a (l : Launch) (Z : State) (a0 : Array Value) (hw : ∀ d ∈ tables_1, d.before a0 Z = true) (t : Addr) (i N : Nat) (f : Nat → Int32) (h0 : Heap) (n0 : Nat) (F : OArr Z h0 t .byte (2 * N) (fun k => .int (own_ub f k))) (hN : N ≤ 2000) (hi : i + 1 < N) (ho : own_hi (f i)) (ho2 : own_lo (f (i + 1))) (hch : ∀ j, own_chr16 (f j)) (SA : Sta Z h0 "java/lang/StringUTF16" "$assertionsDisabled" "Z" (.int 1)) (SH : Sta Z h0 "java/lang/StringUTF16" "HI_BYTE_SHIFT" "I" (.int 0)) (SL : Sta Z h0 "java/lang/StringUTF16" "LO_BYTE_SHIFT" "I" (.int 8)) :
    OMeets l Z (⟨"java/lang/StringUTF16", "codePointAt", "([BIIZ)I"⟩ : MethodName) [] jdk_52_method_7_code 6 (some .int) ({ frames := 1, cells := 0, slots := 0, locals := 13 } : Room) #[(.ref t), (.int (Int32.ofNat i)), (.int (Int32.ofNat N)), (.int (0 : Int32))] h0 n0 (fun v h => h0 = h ∧ ∃ g, v = some (.int g) ∧ 65536 ≤ g.toInt) := by
  refine o_enter (Z := Z) (plainFor_of_name pn_java_lang_StringUTF16) ?_
  intro p e s m below meth c T0 X0
  refine OFin.cast (g' := (mkF m 0 #[.val (.ref t), .val (.int (Int32.ofNat i)), .val (.int (Int32.ofNat N)), .val (.int (0 : Int32)), .unset, .unset] [])) (by first | (simp [entryFrame, mkF, argsToLocals, Value.category]; done) | rfl) ?_
  refine X0.getS (hw _ (List.mem_of_getElem? (i := 98) rfl)) SA (g := (mkF m 0 #[.val (.ref t), .val (.int (Int32.ofNat i)), .val (.int (Int32.ofNat N)), .val (.int (0 : Int32)), .unset, .unset] [])) rfl d24_0 ?_
  intro T1 X1
  show OFin _ _ _ _ _ _ T1 (mkF m 3 #[.val (.ref t), .val (.int (Int32.ofNat i)), .val (.int (Int32.ofNat N)), .val (.int (0 : Int32)), .unset, .unset] [(.int (1 : Int32))])
  refine X1.step (fun hA hx hq t_ k_ => XS.ifYes hA hx rfl (pc0 := 3) (pc' := 19) rfl (hb hq d24_3) rfl ((if0 _ _).trans (feq ((by decide))).2) (by decide) (by decide) k_) ?_
  show OFin _ _ _ _ _ _ T1 (mkF m 19 #[.val (.ref t), .val (.int (Int32.ofNat i)), .val (.int (Int32.ofNat N)), .val (.int (0 : Int32)), .unset, .unset] [])
  refine X1.step (fun hA hx hq t_ k_ => XS.iloadN hA hx rfl (hb hq d24_19) rfl k_) ?_
  show OFin _ _ _ _ _ _ T1 (mkF m 20 #[.val (.ref t), .val (.int (Int32.ofNat i)), .val (.int (Int32.ofNat N)), .val (.int (0 : Int32)), .unset, .unset] [(.int (0 : Int32))])
  refine X1.step (fun hA hx hq t_ k_ => XS.ifYes hA hx rfl (pc0 := 20) (pc' := 28) rfl (hb hq d24_20) rfl ((if0 _ _).trans (teq ((rfl : (0 : Int32) = (0 : Int32)))).1) (by decide) (by decide) k_) ?_
  show OFin _ _ _ _ _ _ T1 (mkF m 28 #[.val (.ref t), .val (.int (Int32.ofNat i)), .val (.int (Int32.ofNat N)), .val (.int (0 : Int32)), .unset, .unset] [])
  refine X1.step (fun hA hx hq t_ k_ => XS.aloadN hA hx rfl (hb hq d24_28) rfl rfl k_) ?_
  show OFin _ _ _ _ _ _ T1 (mkF m 29 #[.val (.ref t), .val (.int (Int32.ofNat i)), .val (.int (Int32.ofNat N)), .val (.int (0 : Int32)), .unset, .unset] [(.ref t)])
  refine X1.step (fun hA hx hq t_ k_ => XS.iloadN hA hx rfl (hb hq d24_29) rfl k_) ?_
  show OFin _ _ _ _ _ _ T1 (mkF m 30 #[.val (.ref t), .val (.int (Int32.ofNat i)), .val (.int (Int32.ofNat N)), .val (.int (0 : Int32)), .unset, .unset] [(.int (Int32.ofNat i)), (.ref t)])
  refine X1.callS (y' := (⟨"java/lang/StringUTF16", "getChar", "([BI)C"⟩ : MethodName)) (hw _ (List.mem_of_getElem? (i := 101) rfl)) (hw _ (List.mem_of_getElem? (i := 102) rfl)) (hw _ (List.mem_of_getElem? (i := 27) rfl)) (hw _ (List.mem_of_getElem? (i := 103) rfl)) (by decide) (argsL := [(.ref t), (.int (Int32.ofNat i))]) (rest := []) (su5 l Z a0 hw t i N f h0 n0 F (by omega) hN (hch i) SA SH SL) (g := (mkF m 30 #[.val (.ref t), .val (.int (Int32.ofNat i)), .val (.int (Int32.ofNat N)), .val (.int (0 : Int32)), .unset, .unset] [(.int (Int32.ofNat i)), (.ref t)])) rfl rfl pd_pA_BIr_C rfl rfl (W := 0) (by show 2 * 0 + _ ≤ _; exact Nat.le_of_eq rfl) d24_30 (by decide) (by decide) (by decide) (by decide) ?_
  intro v2 T2 h2 X2 q2
  obtain ⟨rfl, rfl⟩ := q2
  show OFin _ _ _ _ _ _ T2 (mkF m 33 #[.val (.ref t), .val (.int (Int32.ofNat i)), .val (.int (Int32.ofNat N)), .val (.int (0 : Int32)), .unset, .unset] [(.int (f i))])
  refine X2.step (fun hA hx hq t_ k_ => XS.istore hA hx rfl (hb hq d24_33) rfl (l' := #[.val (.ref t), .val (.int (Int32.ofNat i)), .val (.int (Int32.ofNat N)), .val (.int (0 : Int32)), .val (.int (f i)), .unset]) rfl k_) ?_
  show OFin _ _ _ _ _ _ T2 (mkF m 35 #[.val (.ref t), .val (.int (Int32.ofNat i)), .val (.int (Int32.ofNat N)), .val (.int (0 : Int32)), .val (.int (f i)), .unset] [])
  refine X2.step (fun hA hx hq t_ k_ => XS.iload hA hx rfl (hb hq d24_35) rfl k_) ?_
  show OFin _ _ _ _ _ _ T2 (mkF m 37 #[.val (.ref t), .val (.int (Int32.ofNat i)), .val (.int (Int32.ofNat N)), .val (.int (0 : Int32)), .val (.int (f i)), .unset] [(.int (f i))])
  refine X2.callS (y' := (⟨"java/lang/Character", "isHighSurrogate", "(C)Z"⟩ : MethodName)) (hw _ (List.mem_of_getElem? (i := 110) rfl)) (hw _ (List.mem_of_getElem? (i := 111) rfl)) (hw _ (List.mem_of_getElem? (i := 82) rfl)) (hw _ (List.mem_of_getElem? (i := 112) rfl)) (by decide) (argsL := [(.int (f i))]) (rest := []) (sk1 l Z a0 hw (f i) h0 n0 ho) (g := (mkF m 37 #[.val (.ref t), .val (.int (Int32.ofNat i)), .val (.int (Int32.ofNat N)), .val (.int (0 : Int32)), .val (.int (f i)), .unset] [(.int (f i))])) rfl rfl pd_pCr_Z rfl rfl (W := 0) (by show 2 * 0 + _ ≤ _; exact Nat.le_of_eq rfl) d24_37 (by decide) (by decide) (by decide) (by decide) ?_
  intro v3 T3 h3 X3 q3
  obtain ⟨rfl, rfl⟩ := q3
  show OFin _ _ _ _ _ _ T3 (mkF m 40 #[.val (.ref t), .val (.int (Int32.ofNat i)), .val (.int (Int32.ofNat N)), .val (.int (0 : Int32)), .val (.int (f i)), .unset] [(.int (1 : Int32))])
  refine X3.step (fun hA hx hq t_ k_ => XS.ifNo hA hx rfl (hb hq d24_40) rfl ((if0 _ _).trans (feq ((by decide))).1) k_) ?_
  show OFin _ _ _ _ _ _ T3 (mkF m 43 #[.val (.ref t), .val (.int (Int32.ofNat i)), .val (.int (Int32.ofNat N)), .val (.int (0 : Int32)), .val (.int (f i)), .unset] [])
  refine X3.step (fun hA hx hq t_ k_ => XS.iinc hA hx rfl (hb hq d24_43) rfl (l' := #[.val (.ref t), .val (.int ((Int32.ofNat i) + (1 : Int32))), .val (.int (Int32.ofNat N)), .val (.int (0 : Int32)), .val (.int (f i)), .unset]) rfl k_) ?_
  show OFin _ _ _ _ _ _ T3 (mkF m 46 #[.val (.ref t), .val (.int ((Int32.ofNat i) + (1 : Int32))), .val (.int (Int32.ofNat N)), .val (.int (0 : Int32)), .val (.int (f i)), .unset] [])
  rw [own_succ i (by omega)]
  show OFin _ _ _ _ _ _ T3 (mkF m 46 #[.val (.ref t), .val (.int (Int32.ofNat (i + 1))), .val (.int (Int32.ofNat N)), .val (.int (0 : Int32)), .val (.int (f i)), .unset] [])
  refine X3.step (fun hA hx hq t_ k_ => XS.iloadN hA hx rfl (hb hq d24_46) rfl k_) ?_
  show OFin _ _ _ _ _ _ T3 (mkF m 47 #[.val (.ref t), .val (.int (Int32.ofNat (i + 1))), .val (.int (Int32.ofNat N)), .val (.int (0 : Int32)), .val (.int (f i)), .unset] [(.int (Int32.ofNat (i + 1)))])
  refine X3.step (fun hA hx hq t_ k_ => XS.iloadN hA hx rfl (hb hq d24_47) rfl k_) ?_
  show OFin _ _ _ _ _ _ T3 (mkF m 48 #[.val (.ref t), .val (.int (Int32.ofNat (i + 1))), .val (.int (Int32.ofNat N)), .val (.int (0 : Int32)), .val (.int (f i)), .unset] [(.int (Int32.ofNat N)), (.int (Int32.ofNat (i + 1)))])
  refine X3.step (fun hA hx hq t_ k_ => XS.icmpNo hA hx rfl (hb hq d24_48) rfl (tlt ((own_lt32 (i + 1) N (by omega) (by omega)).mpr hi)).2.1 k_) ?_
  show OFin _ _ _ _ _ _ T3 (mkF m 51 #[.val (.ref t), .val (.int (Int32.ofNat (i + 1))), .val (.int (Int32.ofNat N)), .val (.int (0 : Int32)), .val (.int (f i)), .unset] [])
  refine X3.step (fun hA hx hq t_ k_ => XS.iloadN hA hx rfl (hb hq d24_51) rfl k_) ?_
  show OFin _ _ _ _ _ _ T3 (mkF m 52 #[.val (.ref t), .val (.int (Int32.ofNat (i + 1))), .val (.int (Int32.ofNat N)), .val (.int (0 : Int32)), .val (.int (f i)), .unset] [(.int (0 : Int32))])
  refine X3.step (fun hA hx hq t_ k_ => XS.ifYes hA hx rfl (pc0 := 52) (pc' := 60) rfl (hb hq d24_52) rfl ((if0 _ _).trans (teq ((rfl : (0 : Int32) = (0 : Int32)))).1) (by decide) (by decide) k_) ?_
  show OFin _ _ _ _ _ _ T3 (mkF m 60 #[.val (.ref t), .val (.int (Int32.ofNat (i + 1))), .val (.int (Int32.ofNat N)), .val (.int (0 : Int32)), .val (.int (f i)), .unset] [])
  refine X3.step (fun hA hx hq t_ k_ => XS.aloadN hA hx rfl (hb hq d24_60) rfl rfl k_) ?_
  show OFin _ _ _ _ _ _ T3 (mkF m 61 #[.val (.ref t), .val (.int (Int32.ofNat (i + 1))), .val (.int (Int32.ofNat N)), .val (.int (0 : Int32)), .val (.int (f i)), .unset] [(.ref t)])
  refine X3.step (fun hA hx hq t_ k_ => XS.iloadN hA hx rfl (hb hq d24_61) rfl k_) ?_
  show OFin _ _ _ _ _ _ T3 (mkF m 62 #[.val (.ref t), .val (.int (Int32.ofNat (i + 1))), .val (.int (Int32.ofNat N)), .val (.int (0 : Int32)), .val (.int (f i)), .unset] [(.int (Int32.ofNat (i + 1))), (.ref t)])
  refine X3.callS (y' := (⟨"java/lang/StringUTF16", "getChar", "([BI)C"⟩ : MethodName)) (hw _ (List.mem_of_getElem? (i := 101) rfl)) (hw _ (List.mem_of_getElem? (i := 102) rfl)) (hw _ (List.mem_of_getElem? (i := 27) rfl)) (hw _ (List.mem_of_getElem? (i := 103) rfl)) (by decide) (argsL := [(.ref t), (.int (Int32.ofNat (i + 1)))]) (rest := []) (su5 l Z a0 hw t (i + 1) N f h0 n0 F hi hN (hch (i + 1)) SA SH SL) (g := (mkF m 62 #[.val (.ref t), .val (.int (Int32.ofNat (i + 1))), .val (.int (Int32.ofNat N)), .val (.int (0 : Int32)), .val (.int (f i)), .unset] [(.int (Int32.ofNat (i + 1))), (.ref t)])) rfl rfl pd_pA_BIr_C rfl rfl (W := 0) (by show 2 * 0 + _ ≤ _; exact Nat.le_of_eq rfl) d24_62 (by decide) (by decide) (by decide) (by decide) ?_
  intro v4 T4 h4 X4 q4
  obtain ⟨rfl, rfl⟩ := q4
  show OFin _ _ _ _ _ _ T4 (mkF m 65 #[.val (.ref t), .val (.int (Int32.ofNat (i + 1))), .val (.int (Int32.ofNat N)), .val (.int (0 : Int32)), .val (.int (f i)), .unset] [(.int (f (i + 1)))])
  refine X4.step (fun hA hx hq t_ k_ => XS.istore hA hx rfl (hb hq d24_65) rfl (l' := #[.val (.ref t), .val (.int (Int32.ofNat (i + 1))), .val (.int (Int32.ofNat N)), .val (.int (0 : Int32)), .val (.int (f i)), .val (.int (f (i + 1)))]) rfl k_) ?_
  show OFin _ _ _ _ _ _ T4 (mkF m 67 #[.val (.ref t), .val (.int (Int32.ofNat (i + 1))), .val (.int (Int32.ofNat N)), .val (.int (0 : Int32)), .val (.int (f i)), .val (.int (f (i + 1)))] [])
  refine X4.step (fun hA hx hq t_ k_ => XS.iload hA hx rfl (hb hq d24_67) rfl k_) ?_
  show OFin _ _ _ _ _ _ T4 (mkF m 69 #[.val (.ref t), .val (.int (Int32.ofNat (i + 1))), .val (.int (Int32.ofNat N)), .val (.int (0 : Int32)), .val (.int (f i)), .val (.int (f (i + 1)))] [(.int (f (i + 1)))])
  refine X4.callS (y' := (⟨"java/lang/Character", "isLowSurrogate", "(C)Z"⟩ : MethodName)) (hw _ (List.mem_of_getElem? (i := 118) rfl)) (hw _ (List.mem_of_getElem? (i := 119) rfl)) (hw _ (List.mem_of_getElem? (i := 82) rfl)) (hw _ (List.mem_of_getElem? (i := 120) rfl)) (by decide) (argsL := [(.int (f (i + 1)))]) (rest := []) (sk3 l Z a0 hw (f (i + 1)) h0 n0 ho2) (g := (mkF m 69 #[.val (.ref t), .val (.int (Int32.ofNat (i + 1))), .val (.int (Int32.ofNat N)), .val (.int (0 : Int32)), .val (.int (f i)), .val (.int (f (i + 1)))] [(.int (f (i + 1)))])) rfl rfl pd_pCr_Z rfl rfl (W := 0) (by show 2 * 0 + _ ≤ _; exact Nat.le_of_eq rfl) d24_69 (by decide) (by decide) (by decide) (by decide) ?_
  intro v5 T5 h5 X5 q5
  obtain ⟨rfl, rfl⟩ := q5
  show OFin _ _ _ _ _ _ T5 (mkF m 72 #[.val (.ref t), .val (.int (Int32.ofNat (i + 1))), .val (.int (Int32.ofNat N)), .val (.int (0 : Int32)), .val (.int (f i)), .val (.int (f (i + 1)))] [(.int (1 : Int32))])
  refine X5.step (fun hA hx hq t_ k_ => XS.ifNo hA hx rfl (hb hq d24_72) rfl ((if0 _ _).trans (feq ((by decide))).1) k_) ?_
  show OFin _ _ _ _ _ _ T5 (mkF m 75 #[.val (.ref t), .val (.int (Int32.ofNat (i + 1))), .val (.int (Int32.ofNat N)), .val (.int (0 : Int32)), .val (.int (f i)), .val (.int (f (i + 1)))] [])
  refine X5.step (fun hA hx hq t_ k_ => XS.iload hA hx rfl (hb hq d24_75) rfl k_) ?_
  show OFin _ _ _ _ _ _ T5 (mkF m 77 #[.val (.ref t), .val (.int (Int32.ofNat (i + 1))), .val (.int (Int32.ofNat N)), .val (.int (0 : Int32)), .val (.int (f i)), .val (.int (f (i + 1)))] [(.int (f i))])
  refine X5.step (fun hA hx hq t_ k_ => XS.iload hA hx rfl (hb hq d24_77) rfl k_) ?_
  show OFin _ _ _ _ _ _ T5 (mkF m 79 #[.val (.ref t), .val (.int (Int32.ofNat (i + 1))), .val (.int (Int32.ofNat N)), .val (.int (0 : Int32)), .val (.int (f i)), .val (.int (f (i + 1)))] [(.int (f (i + 1))), (.int (f i))])
  refine X5.callS (y' := (⟨"java/lang/Character", "toCodePoint", "(CC)I"⟩ : MethodName)) (hw _ (List.mem_of_getElem? (i := 122) rfl)) (hw _ (List.mem_of_getElem? (i := 123) rfl)) (hw _ (List.mem_of_getElem? (i := 82) rfl)) (hw _ (List.mem_of_getElem? (i := 124) rfl)) (by decide) (argsL := [(.int (f i)), (.int (f (i + 1)))]) (rest := []) (sk4 l Z a0 hw (f i) (f (i + 1)) h0 n0 ho ho2) (g := (mkF m 79 #[.val (.ref t), .val (.int (Int32.ofNat (i + 1))), .val (.int (Int32.ofNat N)), .val (.int (0 : Int32)), .val (.int (f i)), .val (.int (f (i + 1)))] [(.int (f (i + 1))), (.int (f i))])) rfl rfl pd_pCCr_I rfl rfl (W := 0) (by show 2 * 0 + _ ≤ _; exact Nat.le_of_eq rfl) d24_79 (by decide) (by decide) (by decide) (by decide) ?_
  intro v6 T6 h6 X6 q6
  obtain ⟨rfl, g, rfl, hg⟩ := q6
  show OFin _ _ _ _ _ _ T6 (mkF m 82 #[.val (.ref t), .val (.int (Int32.ofNat (i + 1))), .val (.int (Int32.ofNat N)), .val (.int (0 : Int32)), .val (.int (f i)), .val (.int (f (i + 1)))] [(.int g)])
  exact X6.retI d24_82 (oN (by decide) (by decide)) (⟨rfl, g, rfl, hg⟩)
set_option maxRecDepth 65536 in
set_option maxHeartbeats 40000000 in
theorem sp2b (l : Launch) (Z : State) (a0 : Array Value) (hw : ∀ d ∈ tables_1, d.before a0 Z = true) (t : Addr) (i N : Nat) (f : Nat → Int32) (h0 : Heap) (n0 : Nat) (F : OArr Z h0 t .byte (2 * N) (fun k => .int (own_ub f k))) (hN : N ≤ 2000) (hi : i + 1 < N) (ho : own_hi (f i)) (ho2 : own_lo (f (i + 1))) (hch : ∀ j, own_chr16 (f j)) (SA : Sta Z h0 "java/lang/StringUTF16" "$assertionsDisabled" "Z" (.int 1)) (SH : Sta Z h0 "java/lang/StringUTF16" "HI_BYTE_SHIFT" "I" (.int 0)) (SL : Sta Z h0 "java/lang/StringUTF16" "LO_BYTE_SHIFT" "I" (.int 8)) :
    OMeets l Z (⟨"java/lang/StringUTF16", "codePointAt", "([BII)I"⟩ : MethodName) [] jdk_52_method_8_code 3 (some .int) ({ frames := 2, cells := 0, slots := 0, locals := 30 } : Room) #[(.ref t), (.int (Int32.ofNat i)), (.int (Int32.ofNat N))] h0 n0 (fun v h => h0 = h ∧ ∃ g, v = some (.int g) ∧ 65536 ≤ g.toInt) := by
  refine o_enter (Z := Z) (plainFor_of_name pn_java_lang_StringUTF16) ?_
  intro p e s m below meth c T0 X0
  refine OFin.cast (g' := (mkF m 0 #[.val (.ref t), .val (.int (Int32.ofNat i)), .val (.int (Int32.ofNat N))] [])) (by first | (simp [entryFrame, mkF, argsToLocals, Value.category]; done) | rfl) ?_
  refine X0.step (fun hA hx hq t_ k_ => XS.aloadN hA hx rfl (hb hq d23_0) rfl rfl k_) ?_
  show OFin _ _ _ _ _ _ T0 (mkF m 1 #[.val (.ref t), .val (.int (Int32.ofNat i)), .val (.int (Int32.ofNat N))] [(.ref t)])
  refine X0.step (fun hA hx hq t_ k_ => XS.iloadN hA hx rfl (hb hq d23_1) rfl k_) ?_
  show OFin _ _ _ _ _ _ T0 (mkF m 2 #[.val (.ref t), .val (.int (Int32.ofNat i)), .val (.int (Int32.ofNat N))] [(.int (Int32.ofNat i)), (.ref t)])
  refine X0.step (fun hA hx hq t_ k_ => XS.iloadN hA hx rfl (hb hq d23_2) rfl k_) ?_
  show OFin _ _ _ _ _ _ T0 (mkF m 3 #[.val (.ref t), .val (.int (Int32.ofNat i)), .val (.int (Int32.ofNat N))] [(.int (Int32.ofNat N)), (.int (Int32.ofNat i)), (.ref t)])
  refine X0.step (fun hA hx hq t_ k_ => XS.iconst hA hx rfl (hb hq d23_3) k_) ?_
  show OFin _ _ _ _ _ _ T0 (mkF m 4 #[.val (.ref t), .val (.int (Int32.ofNat i)), .val (.int (Int32.ofNat N))] [(.int (0 : Int32)), (.int (Int32.ofNat N)), (.int (Int32.ofNat i)), (.ref t)])
  refine X0.callS (y' := (⟨"java/lang/StringUTF16", "codePointAt", "([BIIZ)I"⟩ : MethodName)) (hw _ (List.mem_of_getElem? (i := 107) rfl)) (hw _ (List.mem_of_getElem? (i := 108) rfl)) (hw _ (List.mem_of_getElem? (i := 27) rfl)) (hw _ (List.mem_of_getElem? (i := 109) rfl)) (by decide) (argsL := [(.ref t), (.int (Int32.ofNat i)), (.int (Int32.ofNat N)), (.int (0 : Int32))]) (rest := []) (sp2a l Z a0 hw t i N f h0 n0 F hN hi ho ho2 hch SA SH SL) (g := (mkF m 4 #[.val (.ref t), .val (.int (Int32.ofNat i)), .val (.int (Int32.ofNat N))] [(.int (0 : Int32)), (.int (Int32.ofNat N)), (.int (Int32.ofNat i)), (.ref t)])) rfl rfl pd_pA_BIIZr_I rfl rfl (W := 0) (by show 2 * 0 + _ ≤ _; exact Nat.le_of_eq rfl) d23_4 (by decide) (by decide) (by decide) (by decide) ?_
  intro v1 T1 h1 X1 q1
  obtain ⟨rfl, g, rfl, hg⟩ := q1
  show OFin _ _ _ _ _ _ T1 (mkF m 7 #[.val (.ref t), .val (.int (Int32.ofNat i)), .val (.int (Int32.ofNat N))] [(.int g)])
  exact X1.retI d23_7 (oN (by decide) (by decide)) (⟨rfl, g, rfl, hg⟩)
set_option maxRecDepth 65536 in
set_option maxHeartbeats 40000000 in
theorem sp2c (l : Launch) (Z : State) (a0 : Array Value) (hw : ∀ d ∈ tables_1, d.before a0 Z = true) (a1 t : Addr) (N : Nat) (f : Nat → Int32) (i : Nat) (cs : Int32) (vf : Value) (h0 : Heap) (n0 : Nat) (S : OStr16 Z h0 a1 t N f) (hN : N ≤ 2000) (hi : i + 1 < N) (ho : own_hi (f i)) (ho2 : own_lo (f (i + 1))) (hch : ∀ j, own_chr16 (f j)) (SA : Sta Z h0 "java/lang/StringUTF16" "$assertionsDisabled" "Z" (.int 1)) (SH : Sta Z h0 "java/lang/StringUTF16" "HI_BYTE_SHIFT" "I" (.int 0)) (SL : Sta Z h0 "java/lang/StringUTF16" "LO_BYTE_SHIFT" "I" (.int 8)) (SS : Sta Z h0 "java/lang/String" "COMPACT_STRINGS" "Z" (.int cs)) (hcs : ¬ cs = 0) (SP : Sta Z h0 "jdk/internal/util/Preconditions" "SIOOBE_FORMATTER" "Ljava/util/function/BiFunction;" vf) (rf : vf.isRef = true) :
    OMeets l Z (⟨"java/lang/String", "codePointAt", "(I)I"⟩ : MethodName) [] jdk_42_method_57_code 3 (some .int) ({ frames := 3, cells := 0, slots := 0, locals := 44 } : Room) #[(.ref a1), (.int (Int32.ofNat i))] h0 n0 (fun v h => h0 = h ∧ ∃ g, v = some (.int g) ∧ 65536 ≤ g.toInt) := by
  refine o_enter (Z := Z) (plainFor_of_name pn_java_lang_String) ?_
  intro p e s m below meth c T0 X0
  refine OFin.cast (g' := (mkF m 0 #[.val (.ref a1), .val (.int (Int32.ofNat i)), .unset] [])) (by first | (simp [entryFrame, mkF, argsToLocals, Value.category]; done) | rfl) ?_
  obtain ⟨c1, A1, S1, H1⟩ := id S.2.2.2
  refine X0.step (fun hA hx hq t_ k_ => XS.aloadN hA hx rfl (hb hq d13_0) rfl rfl k_) ?_
  show OFin _ _ _ _ _ _ T0 (mkF m 1 #[.val (.ref a1), .val (.int (Int32.ofNat i)), .unset] [(.ref a1)])
  refine X0.callV (y' := (⟨"java/lang/String", "isLatin1", "()Z"⟩ : MethodName)) (z' := (⟨"java/lang/String", "isLatin1", "()Z"⟩ : MethodName)) (hw _ (List.mem_of_getElem? (i := 66) rfl)) (hw _ (List.mem_of_getElem? (i := 67) rfl)) (X0.notFace (hw _ (List.mem_of_getElem? (i := 69) rfl)) rfl) (hw _ (List.mem_of_getElem? (i := 69) rfl)) (hw _ (List.mem_of_getElem? (i := 68) rfl)) (hw _ (List.mem_of_getElem? (i := 13) rfl)) (hw _ (List.mem_of_getElem? (i := 70) rfl)) (by decide) S.1 (argsL := []) (rest := []) (sc1u l Z a0 hw a1 t N f cs h0 n0 S hN SS hcs) (g := (mkF m 1 #[.val (.ref a1), .val (.int (Int32.ofNat i)), .unset] [(.ref a1)])) rfl rfl pd_pr_Z rfl rfl (W := 0) (by show 2 * 0 + _ ≤ _; exact Nat.le_of_eq rfl) d13_1 (by decide) (by decide) (by decide) (by decide) ?_
  intro v1 T1 h1 X1 q1
  obtain ⟨rfl, rfl⟩ := q1
  show OFin _ _ _ _ _ _ T1 (mkF m 4 #[.val (.ref a1), .val (.int (Int32.ofNat i)), .unset] [(.int (0 : Int32))])
  refine X1.step (fun hA hx hq t_ k_ => XS.ifYes hA hx rfl (pc0 := 4) (pc' := 27) rfl (hb hq d13_4) rfl ((if0 _ _).trans (teq ((rfl : (0 : Int32) = (0 : Int32)))).1) (by decide) (by decide) k_) ?_
  show OFin _ _ _ _ _ _ T1 (mkF m 27 #[.val (.ref a1), .val (.int (Int32.ofNat i)), .unset] [])
  refine X1.step (fun hA hx hq t_ k_ => XS.aloadN hA hx rfl (hb hq d13_27) rfl rfl k_) ?_
  show OFin _ _ _ _ _ _ T1 (mkF m 28 #[.val (.ref a1), .val (.int (Int32.ofNat i)), .unset] [(.ref a1)])
  refine X1.getF (hw _ (List.mem_of_getElem? (i := 38) rfl)) S.2.2.1 (g := (mkF m 28 #[.val (.ref a1), .val (.int (Int32.ofNat i)), .unset] [(.ref a1)])) rfl rfl d13_28 ?_
  intro T2 X2
  show OFin _ _ _ _ _ _ T2 (mkF m 31 #[.val (.ref a1), .val (.int (Int32.ofNat i)), .unset] [(.ref t)])
  refine X2.alen A1 (n := (Int32.ofNat (2 * N))) (by rw [S1]) (g := (mkF m 31 #[.val (.ref a1), .val (.int (Int32.ofNat i)), .unset] [(.ref t)])) rfl rfl d13_31 ?_
  show OFin _ _ _ _ _ _ T2 (mkF m 32 #[.val (.ref a1), .val (.int (Int32.ofNat i)), .unset] [(.int (Int32.ofNat (2 * N)))])
  refine X2.step (fun hA hx hq t_ k_ => XS.iconst hA hx rfl (hb hq d13_32) k_) ?_
  show OFin _ _ _ _ _ _ T2 (mkF m 33 #[.val (.ref a1), .val (.int (Int32.ofNat i)), .unset] [(.int (1 : Int32)), (.int (Int32.ofNat (2 * N)))])
  refine X2.step (fun hA hx hq t_ k_ => XS.ishr hA hx rfl (hb hq d13_33) rfl k_) ?_
  show OFin _ _ _ _ _ _ T2 (mkF m 34 #[.val (.ref a1), .val (.int (Int32.ofNat i)), .unset] [(.int ((Int32.ofNat (2 * N)) >>> ((1 : Int32) &&& 31)))])
  rw [own_shr1 N (by omega)]
  show OFin _ _ _ _ _ _ T2 (mkF m 34 #[.val (.ref a1), .val (.int (Int32.ofNat i)), .unset] [(.int (Int32.ofNat N))])
  refine X2.step (fun hA hx hq t_ k_ => XS.istoreN hA hx rfl (hb hq d13_34) rfl (l' := #[.val (.ref a1), .val (.int (Int32.ofNat i)), .val (.int (Int32.ofNat N))]) rfl k_) ?_
  show OFin _ _ _ _ _ _ T2 (mkF m 35 #[.val (.ref a1), .val (.int (Int32.ofNat i)), .val (.int (Int32.ofNat N))] [])
  refine X2.step (fun hA hx hq t_ k_ => XS.iloadN hA hx rfl (hb hq d13_35) rfl k_) ?_
  show OFin _ _ _ _ _ _ T2 (mkF m 36 #[.val (.ref a1), .val (.int (Int32.ofNat i)), .val (.int (Int32.ofNat N))] [(.int (Int32.ofNat i))])
  refine X2.step (fun hA hx hq t_ k_ => XS.iloadN hA hx rfl (hb hq d13_36) rfl k_) ?_
  show OFin _ _ _ _ _ _ T2 (mkF m 37 #[.val (.ref a1), .val (.int (Int32.ofNat i)), .val (.int (Int32.ofNat N))] [(.int (Int32.ofNat N)), (.int (Int32.ofNat i))])
  refine X2.callS (y' := (⟨"java/lang/String", "checkIndex", "(II)V"⟩ : MethodName)) (hw _ (List.mem_of_getElem? (i := 71) rfl)) (hw _ (List.mem_of_getElem? (i := 72) rfl)) (hw _ (List.mem_of_getElem? (i := 13) rfl)) (hw _ (List.mem_of_getElem? (i := 73) rfl)) (by decide) (argsL := [(.int (Int32.ofNat i)), (.int (Int32.ofNat N))]) (rest := []) (sc3 l Z a0 hw i N vf h0 n0 SP rf (by omega) (by omega)) (g := (mkF m 37 #[.val (.ref a1), .val (.int (Int32.ofNat i)), .val (.int (Int32.ofNat N))] [(.int (Int32.ofNat N)), (.int (Int32.ofNat i))])) rfl rfl pd_pIIr_V rfl rfl (W := 0) (by show 2 * 0 + _ ≤ _; exact Nat.le_of_eq rfl) d13_37 (by decide) (by decide) (by decide) (by decide) ?_
  intro v3 T3 h3 X3 q3
  obtain ⟨rfl, rfl⟩ := q3
  show OFin _ _ _ _ _ _ T3 (mkF m 40 #[.val (.ref a1), .val (.int (Int32.ofNat i)), .val (.int (Int32.ofNat N))] [])
  refine X3.step (fun hA hx hq t_ k_ => XS.aloadN hA hx rfl (hb hq d13_40) rfl rfl k_) ?_
  show OFin _ _ _ _ _ _ T3 (mkF m 41 #[.val (.ref a1), .val (.int (Int32.ofNat i)), .val (.int (Int32.ofNat N))] [(.ref a1)])
  refine X3.getF (hw _ (List.mem_of_getElem? (i := 38) rfl)) S.2.2.1 (g := (mkF m 41 #[.val (.ref a1), .val (.int (Int32.ofNat i)), .val (.int (Int32.ofNat N))] [(.ref a1)])) rfl rfl d13_41 ?_
  intro T4 X4
  show OFin _ _ _ _ _ _ T4 (mkF m 44 #[.val (.ref a1), .val (.int (Int32.ofNat i)), .val (.int (Int32.ofNat N))] [(.ref t)])
  refine X4.step (fun hA hx hq t_ k_ => XS.iloadN hA hx rfl (hb hq d13_44) rfl k_) ?_
  show OFin _ _ _ _ _ _ T4 (mkF m 45 #[.val (.ref a1), .val (.int (Int32.ofNat i)), .val (.int (Int32.ofNat N))] [(.int (Int32.ofNat i)), (.ref t)])
  refine X4.step (fun hA hx hq t_ k_ => XS.iloadN hA hx rfl (hb hq d13_45) rfl k_) ?_
  show OFin _ _ _ _ _ _ T4 (mkF m 46 #[.val (.ref a1), .val (.int (Int32.ofNat i)), .val (.int (Int32.ofNat N))] [(.int (Int32.ofNat N)), (.int (Int32.ofNat i)), (.ref t)])
  refine X4.callS (y' := (⟨"java/lang/StringUTF16", "codePointAt", "([BII)I"⟩ : MethodName)) (hw _ (List.mem_of_getElem? (i := 104) rfl)) (hw _ (List.mem_of_getElem? (i := 105) rfl)) (hw _ (List.mem_of_getElem? (i := 27) rfl)) (hw _ (List.mem_of_getElem? (i := 106) rfl)) (by decide) (argsL := [(.ref t), (.int (Int32.ofNat i)), (.int (Int32.ofNat N))]) (rest := []) (sp2b l Z a0 hw t i N f h0 n0 S.2.2.2 hN hi ho ho2 hch SA SH SL) (g := (mkF m 46 #[.val (.ref a1), .val (.int (Int32.ofNat i)), .val (.int (Int32.ofNat N))] [(.int (Int32.ofNat N)), (.int (Int32.ofNat i)), (.ref t)])) rfl rfl pd_pA_BIIr_I rfl rfl (W := 0) (by show 2 * 0 + _ ≤ _; exact Nat.le_of_eq rfl) d13_46 (by decide) (by decide) (by decide) (by decide) ?_
  intro v5 T5 h5 X5 q5
  obtain ⟨rfl, g, rfl, hg⟩ := q5
  show OFin _ _ _ _ _ _ T5 (mkF m 49 #[.val (.ref a1), .val (.int (Int32.ofNat i)), .val (.int (Int32.ofNat N))] [(.int g)])
  exact X5.retI d13_49 (oN (by decide) (by decide)) (⟨rfl, g, rfl, hg⟩)
theorem sp2x (l : Launch) (Z : State) (a0 : Array Value) (hw : ∀ d ∈ tables_1, d.before a0 Z = true) (a1 : Addr) (N : Nat) (f : Nat → Int32) (i : Nat) (cs : Int32) (vf : Value) (h0 : Heap) (n0 : Nat) (S : OStrX Z h0 a1 N f) (hN : N ≤ 2000) (hi : i + 1 < N) (ho : own_hi (f i)) (ho2 : own_lo (f (i + 1))) (hch : ∀ j, own_chr16 (f j)) (SA : Sta Z h0 "java/lang/StringUTF16" "$assertionsDisabled" "Z" (.int 1)) (SH : Sta Z h0 "java/lang/StringUTF16" "HI_BYTE_SHIFT" "I" (.int 0)) (SL : Sta Z h0 "java/lang/StringUTF16" "LO_BYTE_SHIFT" "I" (.int 8)) (SS : Sta Z h0 "java/lang/String" "COMPACT_STRINGS" "Z" (.int cs)) (hcs : ¬ cs = 0) (SP : Sta Z h0 "jdk/internal/util/Preconditions" "SIOOBE_FORMATTER" "Ljava/util/function/BiFunction;" vf) (rf : vf.isRef = true) :
    OMeets l Z (⟨"java/lang/String", "codePointAt", "(I)I"⟩ : MethodName) [] jdk_42_method_57_code 3 (some .int) ({ frames := 3, cells := 0, slots := 0, locals := 44 } : Room) #[(.ref a1), (.int (Int32.ofNat i))] h0 n0 (fun v h => h0 = h ∧ ∃ g, v = some (.int g) ∧ 65536 ≤ g.toInt) := by
  obtain ⟨t, ⟨S, hl⟩ | S⟩ := S
  · exact absurd (hl i (by omega)) (by have := ho.1; omega)
  · exact sp2c l Z a0 hw a1 t N f i cs vf h0 n0 S hN hi ho ho2 hch SA SH SL SS hcs SP rf
theorem pn_com_example_libidem_libidem_TextsRequireStorablePinLaw : plainName "com/example/libidem/libidem/TextsRequireStorablePinLaw" = true := by first | (simp [plainName, overriddenIn]; done) | decide +kernel
theorem d1_0 : decode method_3_code 0 = .ok (.iload_n 2, 1) := by decide +kernel
theorem d1_1 : decode method_3_code 1 = .ok (.ldc 25, 2) := by decide +kernel
theorem d1_3 : decode method_3_code 3 = .ok (.iand, 1) := by decide +kernel
theorem d1_4 : decode method_3_code 4 = .ok (.istore_n 3, 1) := by decide +kernel
theorem d1_5 : decode method_3_code 5 = .ok (.iload_n 2, 1) := by decide +kernel
theorem d1_6 : decode method_3_code 6 = .ok (.bipush 16, 2) := by decide +kernel
theorem d1_8 : decode method_3_code 8 = .ok (.iushr, 1) := by decide +kernel
theorem d1_9 : decode method_3_code 9 = .ok (.sipush 1023, 3) := by decide +kernel
theorem d1_12 : decode method_3_code 12 = .ok (.iand, 1) := by decide +kernel
theorem d1_13 : decode method_3_code 13 = .ok (.istore 4, 2) := by decide +kernel
theorem d1_15 : decode method_3_code 15 = .ok (.iload_n 3, 1) := by decide +kernel
theorem d1_16 : decode method_3_code 16 = .ok (.ifCond .ne 5, 3) := by decide +kernel
theorem d1_19 : decode method_3_code 19 = .ok (.iload_n 1, 1) := by decide +kernel
theorem d1_20 : decode method_3_code 20 = .ok (.ireturn, 1) := by decide +kernel
theorem d1_21 : decode method_3_code 21 = .ok (.iload_n 3, 1) := by decide +kernel
theorem d1_22 : decode method_3_code 22 = .ok (.ldc 26, 2) := by decide +kernel
theorem d1_24 : decode method_3_code 24 = .ok (.if_icmp .lt 29, 3) := by decide +kernel
theorem d1_53 : decode method_3_code 53 = .ok (.iload_n 3, 1) := by decide +kernel
theorem d1_54 : decode method_3_code 54 = .ok (.ldc 28, 2) := by decide +kernel
theorem d1_56 : decode method_3_code 56 = .ok (.if_icmp .lt 29, 3) := by decide +kernel
theorem d1_85 : decode method_3_code 85 = .ok (.aload_n 0, 1) := by decide +kernel
theorem d1_86 : decode method_3_code 86 = .ok (.iload_n 1, 1) := by decide +kernel
theorem d1_87 : decode method_3_code 87 = .ok (.iload_n 3, 1) := by decide +kernel
theorem d1_88 : decode method_3_code 88 = .ok (.i2c, 1) := by decide +kernel
theorem d1_89 : decode method_3_code 89 = .ok (.castore, 1) := by decide +kernel
theorem d1_90 : decode method_3_code 90 = .ok (.iload_n 1, 1) := by decide +kernel
theorem d1_91 : decode method_3_code 91 = .ok (.iconst 1, 1) := by decide +kernel
theorem d1_92 : decode method_3_code 92 = .ok (.iadd, 1) := by decide +kernel
theorem d1_93 : decode method_3_code 93 = .ok (.ireturn, 1) := by decide +kernel
theorem d1_27 : decode method_3_code 27 = .ok (.iload_n 3, 1) := by decide +kernel
theorem d1_28 : decode method_3_code 28 = .ok (.ldc 27, 2) := by decide +kernel
theorem d1_30 : decode method_3_code 30 = .ok (.if_icmp .gt 23, 3) := by decide +kernel
theorem d1_33 : decode method_3_code 33 = .ok (.aload_n 0, 1) := by decide +kernel
theorem d1_34 : decode method_3_code 34 = .ok (.iload_n 1, 1) := by decide +kernel
theorem d1_35 : decode method_3_code 35 = .ok (.iload_n 3, 1) := by decide +kernel
theorem d1_36 : decode method_3_code 36 = .ok (.i2c, 1) := by decide +kernel
theorem d1_37 : decode method_3_code 37 = .ok (.castore, 1) := by decide +kernel
theorem d1_38 : decode method_3_code 38 = .ok (.aload_n 0, 1) := by decide +kernel
theorem d1_39 : decode method_3_code 39 = .ok (.iload_n 1, 1) := by decide +kernel
theorem d1_40 : decode method_3_code 40 = .ok (.iconst 1, 1) := by decide +kernel
theorem d1_41 : decode method_3_code 41 = .ok (.iadd, 1) := by decide +kernel
theorem d1_42 : decode method_3_code 42 = .ok (.ldc 28, 2) := by decide +kernel
theorem d1_44 : decode method_3_code 44 = .ok (.iload 4, 2) := by decide +kernel
theorem d1_46 : decode method_3_code 46 = .ok (.ior, 1) := by decide +kernel
theorem d1_47 : decode method_3_code 47 = .ok (.i2c, 1) := by decide +kernel
theorem d1_48 : decode method_3_code 48 = .ok (.castore, 1) := by decide +kernel
theorem d1_49 : decode method_3_code 49 = .ok (.iload_n 1, 1) := by decide +kernel
theorem d1_50 : decode method_3_code 50 = .ok (.iconst 2, 1) := by decide +kernel
theorem d1_51 : decode method_3_code 51 = .ok (.iadd, 1) := by decide +kernel
theorem d1_52 : decode method_3_code 52 = .ok (.ireturn, 1) := by decide +kernel
theorem d1_59 : decode method_3_code 59 = .ok (.iload_n 3, 1) := by decide +kernel
theorem d1_60 : decode method_3_code 60 = .ok (.ldc 29, 2) := by decide +kernel
theorem d1_62 : decode method_3_code 62 = .ok (.if_icmp .gt 23, 3) := by decide +kernel
theorem d1_65 : decode method_3_code 65 = .ok (.aload_n 0, 1) := by decide +kernel
theorem d1_66 : decode method_3_code 66 = .ok (.iload_n 1, 1) := by decide +kernel
theorem d1_67 : decode method_3_code 67 = .ok (.ldc 26, 2) := by decide +kernel
theorem d1_69 : decode method_3_code 69 = .ok (.iload 4, 2) := by decide +kernel
theorem d1_71 : decode method_3_code 71 = .ok (.ior, 1) := by decide +kernel
theorem d1_72 : decode method_3_code 72 = .ok (.i2c, 1) := by decide +kernel
theorem d1_73 : decode method_3_code 73 = .ok (.castore, 1) := by decide +kernel
theorem d1_74 : decode method_3_code 74 = .ok (.aload_n 0, 1) := by decide +kernel
theorem d1_75 : decode method_3_code 75 = .ok (.iload_n 1, 1) := by decide +kernel
theorem d1_76 : decode method_3_code 76 = .ok (.iconst 1, 1) := by decide +kernel
theorem d1_77 : decode method_3_code 77 = .ok (.iadd, 1) := by decide +kernel
theorem d1_78 : decode method_3_code 78 = .ok (.iload_n 3, 1) := by decide +kernel
theorem d1_79 : decode method_3_code 79 = .ok (.i2c, 1) := by decide +kernel
theorem d1_80 : decode method_3_code 80 = .ok (.castore, 1) := by decide +kernel
theorem d1_81 : decode method_3_code 81 = .ok (.iload_n 1, 1) := by decide +kernel
theorem d1_82 : decode method_3_code 82 = .ok (.iconst 2, 1) := by decide +kernel
theorem d1_83 : decode method_3_code 83 = .ok (.iadd, 1) := by decide +kernel
theorem d1_84 : decode method_3_code 84 = .ok (.ireturn, 1) := by decide +kernel
set_option maxRecDepth 65536 in
set_option maxHeartbeats 40000000 in
theorem rm1 (l : Launch) (Z : State) (a0 : Array Value) (hw : ∀ d ∈ tables_1, d.before a0 Z = true) (ca : Addr) (i : Nat) (x : Int32) (f : Nat → Int32) (h0 : Heap) (n0 : Nat) (FA : OArr Z h0 ca .char 6 (fun k => .int (f k))) (hi : i ≤ 4) (hch : ∀ k, own_chr16 (f k)) (hn : n0 ≤ ca) :
    OMeets l Z (⟨"com/example/libidem/libidem/TextsRequireStorablePinLaw", "put", "([CII)I"⟩ : MethodName) [] method_3_code 5 (some .int) ({ frames := 0, cells := 0, slots := 0, locals := 0 } : Room) #[(.ref ca), (.int (Int32.ofNat i)), (.int x)] h0 n0 (fun v h => ∃ j g, v = some (.int (Int32.ofNat j)) ∧ Keep h0 h [ca] ∧ OArr Z h ca .char 6 (fun k => .int (g k)) ∧ own_seg g i j ∧ (∀ k, k < i → g k = f k) ∧ (∀ k, own_chr16 (g k))) := by
  refine o_enter (Z := Z) (plainFor_of_name pn_com_example_libidem_libidem_TextsRequireStorablePinLaw) ?_
  intro p e s m below meth c T0 X0
  refine OFin.cast (g' := (mkF m 0 #[.val (.ref ca), .val (.int (Int32.ofNat i)), .val (.int x), .unset, .unset] [])) (by first | (simp [entryFrame, mkF, argsToLocals, Value.category]; done) | rfl) ?_
  obtain ⟨c1, A1, S1, H1⟩ := id FA
  have e55296 : (55296 : Int32).toInt = 55296 := (by decide)
  have e56319 : (56319 : Int32).toInt = 56319 := (by decide)
  have e56320 : (56320 : Int32).toInt = 56320 := (by decide)
  have e57343 : (57343 : Int32).toInt = 57343 := (by decide)
  have e0 : (0 : Int32).toInt = 0 := by decide
  refine X0.step (fun hA hx hq t_ k_ => XS.iloadN hA hx rfl (hb hq d1_0) rfl k_) ?_
  show OFin _ _ _ _ _ _ T0 (mkF m 1 #[.val (.ref ca), .val (.int (Int32.ofNat i)), .val (.int x), .unset, .unset] [(.int x)])
  refine X0.ldcI (hw _ (List.mem_of_getElem? (i := 5) rfl)) (g := (mkF m 1 #[.val (.ref ca), .val (.int (Int32.ofNat i)), .val (.int x), .unset, .unset] [(.int x)])) rfl d1_1 ?_
  show OFin _ _ _ _ _ _ T0 (mkF m 3 #[.val (.ref ca), .val (.int (Int32.ofNat i)), .val (.int x), .unset, .unset] [(.int (65535 : Int32)), (.int x)])
  refine X0.step (fun hA hx hq t_ k_ => XS.iand hA hx rfl (hb hq d1_3) rfl k_) ?_
  show OFin _ _ _ _ _ _ T0 (mkF m 4 #[.val (.ref ca), .val (.int (Int32.ofNat i)), .val (.int x), .unset, .unset] [(.int (x &&& (65535 : Int32)))])
  have hv := own_v16 x
  generalize (x &&& (65535 : Int32)) = vv at hv ⊢
  show OFin _ _ _ _ _ _ T0 (mkF m 4 #[.val (.ref ca), .val (.int (Int32.ofNat i)), .val (.int x), .unset, .unset] [(.int vv)])
  refine X0.step (fun hA hx hq t_ k_ => XS.istoreN hA hx rfl (hb hq d1_4) rfl (l' := #[.val (.ref ca), .val (.int (Int32.ofNat i)), .val (.int x), .val (.int vv), .unset]) rfl k_) ?_
  show OFin _ _ _ _ _ _ T0 (mkF m 5 #[.val (.ref ca), .val (.int (Int32.ofNat i)), .val (.int x), .val (.int vv), .unset] [])
  refine X0.step (fun hA hx hq t_ k_ => XS.iloadN hA hx rfl (hb hq d1_5) rfl k_) ?_
  show OFin _ _ _ _ _ _ T0 (mkF m 6 #[.val (.ref ca), .val (.int (Int32.ofNat i)), .val (.int x), .val (.int vv), .unset] [(.int x)])
  refine X0.step (fun hA hx hq t_ k_ => XS.bipush hA hx rfl (hb hq d1_6) k_) ?_
  show OFin _ _ _ _ _ _ T0 (mkF m 8 #[.val (.ref ca), .val (.int (Int32.ofNat i)), .val (.int x), .val (.int vv), .unset] [(.int (16 : Int32)), (.int x)])
  refine X0.step (fun hA hx hq t_ k_ => XS.iushr hA hx rfl (hb hq d1_8) rfl k_) ?_
  show OFin _ _ _ _ _ _ T0 (mkF m 9 #[.val (.ref ca), .val (.int (Int32.ofNat i)), .val (.int x), .val (.int vv), .unset] [(.int ((x.toUInt32 >>> ((16 : Int32) &&& 31).toUInt32).toInt32))])
  refine X0.step (fun hA hx hq t_ k_ => XS.sipush hA hx rfl (hb hq d1_9) k_) ?_
  show OFin _ _ _ _ _ _ T0 (mkF m 12 #[.val (.ref ca), .val (.int (Int32.ofNat i)), .val (.int x), .val (.int vv), .unset] [(.int (1023 : Int32)), (.int ((x.toUInt32 >>> ((16 : Int32) &&& 31).toUInt32).toInt32))])
  refine X0.step (fun hA hx hq t_ k_ => XS.iand hA hx rfl (hb hq d1_12) rfl k_) ?_
  show OFin _ _ _ _ _ _ T0 (mkF m 13 #[.val (.ref ca), .val (.int (Int32.ofNat i)), .val (.int x), .val (.int vv), .unset] [(.int (((x.toUInt32 >>> ((16 : Int32) &&& 31).toUInt32).toInt32) &&& (1023 : Int32)))])
  have hL := own_orl (56320 : Int32) ((x.toUInt32 >>> ((16 : Int32) &&& 31).toUInt32).toInt32) 56320 (by decide) (by decide) (by decide) (by decide)
  have hH := own_orl (55296 : Int32) ((x.toUInt32 >>> ((16 : Int32) &&& 31).toUInt32).toInt32) 55296 (by decide) (by decide) (by decide) (by decide)
  generalize (((x.toUInt32 >>> ((16 : Int32) &&& 31).toUInt32).toInt32) &&& (1023 : Int32)) = lw at hL hH ⊢
  show OFin _ _ _ _ _ _ T0 (mkF m 13 #[.val (.ref ca), .val (.int (Int32.ofNat i)), .val (.int x), .val (.int vv), .unset] [(.int lw)])
  refine X0.step (fun hA hx hq t_ k_ => XS.istore hA hx rfl (hb hq d1_13) rfl (l' := #[.val (.ref ca), .val (.int (Int32.ofNat i)), .val (.int x), .val (.int vv), .val (.int lw)]) rfl k_) ?_
  show OFin _ _ _ _ _ _ T0 (mkF m 15 #[.val (.ref ca), .val (.int (Int32.ofNat i)), .val (.int x), .val (.int vv), .val (.int lw)] [])
  refine X0.step (fun hA hx hq t_ k_ => XS.iloadN hA hx rfl (hb hq d1_15) rfl k_) ?_
  show OFin _ _ _ _ _ _ T0 (mkF m 16 #[.val (.ref ca), .val (.int (Int32.ofNat i)), .val (.int x), .val (.int vv), .val (.int lw)] [(.int vv)])
  by_cases c0 : vv = (0 : Int32)
  · refine X0.step (fun hA hx hq t_ k_ => XS.ifNo hA hx rfl (hb hq d1_16) rfl ((if0 _ _).trans (teq (c0)).2) k_) ?_
    show OFin _ _ _ _ _ _ T0 (mkF m 19 #[.val (.ref ca), .val (.int (Int32.ofNat i)), .val (.int x), .val (.int vv), .val (.int lw)] [])
    refine X0.step (fun hA hx hq t_ k_ => XS.iloadN hA hx rfl (hb hq d1_19) rfl k_) ?_
    show OFin _ _ _ _ _ _ T0 (mkF m 20 #[.val (.ref ca), .val (.int (Int32.ofNat i)), .val (.int x), .val (.int vv), .val (.int lw)] [(.int (Int32.ofNat i))])
    exact X0.retI d1_20 (oN (by decide) (by decide)) (⟨i, f, rfl, Keep.refl _ _, FA, Or.inl rfl, fun _ _ => rfl, hch⟩)
  · refine X0.step (fun hA hx hq t_ k_ => XS.ifYes hA hx rfl (pc0 := 16) (pc' := 21) rfl (hb hq d1_16) rfl ((if0 _ _).trans (feq (c0)).2) (by decide) (by decide) k_) ?_
    show OFin _ _ _ _ _ _ T0 (mkF m 21 #[.val (.ref ca), .val (.int (Int32.ofNat i)), .val (.int x), .val (.int vv), .val (.int lw)] [])
    have v0 : vv.toInt ≠ 0 := fun q => c0 (Int32.toInt_inj.mp (q.trans e0.symm))
    have hv' := hv
    obtain ⟨w0, w1⟩ := hv'
    refine X0.step (fun hA hx hq t_ k_ => XS.iloadN hA hx rfl (hb hq d1_21) rfl k_) ?_
    show OFin _ _ _ _ _ _ T0 (mkF m 22 #[.val (.ref ca), .val (.int (Int32.ofNat i)), .val (.int x), .val (.int vv), .val (.int lw)] [(.int vv)])
    refine X0.ldcI (hw _ (List.mem_of_getElem? (i := 6) rfl)) (g := (mkF m 22 #[.val (.ref ca), .val (.int (Int32.ofNat i)), .val (.int x), .val (.int vv), .val (.int lw)] [(.int vv)])) rfl d1_22 ?_
    show OFin _ _ _ _ _ _ T0 (mkF m 24 #[.val (.ref ca), .val (.int (Int32.ofNat i)), .val (.int x), .val (.int vv), .val (.int lw)] [(.int (55296 : Int32)), (.int vv)])
    by_cases c1 : vv < (55296 : Int32)
    · refine X0.step (fun hA hx hq t_ k_ => XS.icmpYes hA hx rfl (pc0 := 24) (pc' := 53) rfl (hb hq d1_24) rfl (tlt (c1)).1 (by decide) (by decide) k_) ?_
      show OFin _ _ _ _ _ _ T0 (mkF m 53 #[.val (.ref ca), .val (.int (Int32.ofNat i)), .val (.int x), .val (.int vv), .val (.int lw)] [])
      rw [Int32.lt_iff_toInt_lt] at c1
      refine X0.step (fun hA hx hq t_ k_ => XS.iloadN hA hx rfl (hb hq d1_53) rfl k_) ?_
      show OFin _ _ _ _ _ _ T0 (mkF m 54 #[.val (.ref ca), .val (.int (Int32.ofNat i)), .val (.int x), .val (.int vv), .val (.int lw)] [(.int vv)])
      refine X0.ldcI (hw _ (List.mem_of_getElem? (i := 7) rfl)) (g := (mkF m 54 #[.val (.ref ca), .val (.int (Int32.ofNat i)), .val (.int x), .val (.int vv), .val (.int lw)] [(.int vv)])) rfl d1_54 ?_
      show OFin _ _ _ _ _ _ T0 (mkF m 56 #[.val (.ref ca), .val (.int (Int32.ofNat i)), .val (.int x), .val (.int vv), .val (.int lw)] [(.int (56320 : Int32)), (.int vv)])
      refine X0.step (fun hA hx hq t_ k_ => XS.icmpYes hA hx rfl (pc0 := 56) (pc' := 85) rfl (hb hq d1_56) rfl (tlt ((by rw [Int32.lt_iff_toInt_lt]; omega))).1 (by decide) (by decide) k_) ?_
      show OFin _ _ _ _ _ _ T0 (mkF m 85 #[.val (.ref ca), .val (.int (Int32.ofNat i)), .val (.int x), .val (.int vv), .val (.int lw)] [])
      have ho : own_o1 vv := by
        unfold own_o1
        omega
      refine X0.step (fun hA hx hq t_ k_ => XS.aloadN hA hx rfl (hb hq d1_85) rfl rfl k_) ?_
      show OFin _ _ _ _ _ _ T0 (mkF m 86 #[.val (.ref ca), .val (.int (Int32.ofNat i)), .val (.int x), .val (.int vv), .val (.int lw)] [(.ref ca)])
      refine X0.step (fun hA hx hq t_ k_ => XS.iloadN hA hx rfl (hb hq d1_86) rfl k_) ?_
      show OFin _ _ _ _ _ _ T0 (mkF m 87 #[.val (.ref ca), .val (.int (Int32.ofNat i)), .val (.int x), .val (.int vv), .val (.int lw)] [(.int (Int32.ofNat i)), (.ref ca)])
      refine X0.step (fun hA hx hq t_ k_ => XS.iloadN hA hx rfl (hb hq d1_87) rfl k_) ?_
      show OFin _ _ _ _ _ _ T0 (mkF m 88 #[.val (.ref ca), .val (.int (Int32.ofNat i)), .val (.int x), .val (.int vv), .val (.int lw)] [(.int vv), (.int (Int32.ofNat i)), (.ref ca)])
      refine X0.step (fun hA hx hq t_ k_ => XS.i2c hA hx rfl (hb hq d1_88) rfl k_) ?_
      show OFin _ _ _ _ _ _ T0 (mkF m 89 #[.val (.ref ca), .val (.int (Int32.ofNat i)), .val (.int x), .val (.int vv), .val (.int lw)] [(.int (vv.toUInt32.toUInt16.toUInt32.toInt32)), (.int (Int32.ofNat i)), (.ref ca)])
      refine X0.stC A1 (own_inN S1 (by omega) (by omega)) (hn) (g := (mkF m 89 #[.val (.ref ca), .val (.int (Int32.ofNat i)), .val (.int x), .val (.int vv), .val (.int lw)] [(.int (vv.toUInt32.toUInt16.toUInt32.toInt32)), (.int (Int32.ofNat i)), (.ref ca)])) rfl rfl d1_89 ?_
      intro T1 h1 X1 W1
      show OFin _ _ _ _ _ _ T1 (mkF m 90 #[.val (.ref ca), .val (.int (Int32.ofNat i)), .val (.int x), .val (.int vv), .val (.int lw)] [])
      rw [own_iN i (by omega), own_cc _ hv.1 hv.2, own_narC _ hv.1 hv.2] at W1
      have FA2 : OArr Z h1 ca .char 6 (fun k => .int ((own_up f i vv) k)) := (FA.set W1).congr fun j hj => by
        show (if j = i then _ else _) = Value.int (if j = i then _ else _)
        split <;> rfl
      refine X1.step (fun hA hx hq t_ k_ => XS.iloadN hA hx rfl (hb hq d1_90) rfl k_) ?_
      show OFin _ _ _ _ _ _ T1 (mkF m 91 #[.val (.ref ca), .val (.int (Int32.ofNat i)), .val (.int x), .val (.int vv), .val (.int lw)] [(.int (Int32.ofNat i))])
      refine X1.step (fun hA hx hq t_ k_ => XS.iconst hA hx rfl (hb hq d1_91) k_) ?_
      show OFin _ _ _ _ _ _ T1 (mkF m 92 #[.val (.ref ca), .val (.int (Int32.ofNat i)), .val (.int x), .val (.int vv), .val (.int lw)] [(.int (1 : Int32)), (.int (Int32.ofNat i))])
      refine X1.step (fun hA hx hq t_ k_ => XS.iadd hA hx rfl (hb hq d1_92) rfl k_) ?_
      show OFin _ _ _ _ _ _ T1 (mkF m 93 #[.val (.ref ca), .val (.int (Int32.ofNat i)), .val (.int x), .val (.int vv), .val (.int lw)] [(.int ((Int32.ofNat i) + (1 : Int32)))])
      exact X1.retI d1_93 (oN (by decide) (by decide)) (⟨i + 1, own_up f i vv, by rw [own_succ i (by omega)], Keep.of_wr W1, FA2, Or.inr (Or.inl ⟨rfl, by rw [own_up.at]; exact ho⟩), fun k hk => own_up.ne (by omega), own_up.ch hch hv⟩)
    · refine X0.step (fun hA hx hq t_ k_ => XS.icmpNo hA hx rfl (hb hq d1_24) rfl (flt (c1)).1 k_) ?_
      show OFin _ _ _ _ _ _ T0 (mkF m 27 #[.val (.ref ca), .val (.int (Int32.ofNat i)), .val (.int x), .val (.int vv), .val (.int lw)] [])
      rw [Int32.lt_iff_toInt_lt] at c1
      refine X0.step (fun hA hx hq t_ k_ => XS.iloadN hA hx rfl (hb hq d1_27) rfl k_) ?_
      show OFin _ _ _ _ _ _ T0 (mkF m 28 #[.val (.ref ca), .val (.int (Int32.ofNat i)), .val (.int x), .val (.int vv), .val (.int lw)] [(.int vv)])
      refine X0.ldcI (hw _ (List.mem_of_getElem? (i := 114) rfl)) (g := (mkF m 28 #[.val (.ref ca), .val (.int (Int32.ofNat i)), .val (.int x), .val (.int vv), .val (.int lw)] [(.int vv)])) rfl d1_28 ?_
      show OFin _ _ _ _ _ _ T0 (mkF m 30 #[.val (.ref ca), .val (.int (Int32.ofNat i)), .val (.int x), .val (.int vv), .val (.int lw)] [(.int (56319 : Int32)), (.int vv)])
      by_cases c2 : (56319 : Int32) < vv
      · refine X0.step (fun hA hx hq t_ k_ => XS.icmpYes hA hx rfl (pc0 := 30) (pc' := 53) rfl (hb hq d1_30) rfl (tlt (c2)).2.2.1 (by decide) (by decide) k_) ?_
        show OFin _ _ _ _ _ _ T0 (mkF m 53 #[.val (.ref ca), .val (.int (Int32.ofNat i)), .val (.int x), .val (.int vv), .val (.int lw)] [])
        rw [Int32.lt_iff_toInt_lt] at c2
        refine X0.step (fun hA hx hq t_ k_ => XS.iloadN hA hx rfl (hb hq d1_53) rfl k_) ?_
        show OFin _ _ _ _ _ _ T0 (mkF m 54 #[.val (.ref ca), .val (.int (Int32.ofNat i)), .val (.int x), .val (.int vv), .val (.int lw)] [(.int vv)])
        refine X0.ldcI (hw _ (List.mem_of_getElem? (i := 7) rfl)) (g := (mkF m 54 #[.val (.ref ca), .val (.int (Int32.ofNat i)), .val (.int x), .val (.int vv), .val (.int lw)] [(.int vv)])) rfl d1_54 ?_
        show OFin _ _ _ _ _ _ T0 (mkF m 56 #[.val (.ref ca), .val (.int (Int32.ofNat i)), .val (.int x), .val (.int vv), .val (.int lw)] [(.int (56320 : Int32)), (.int vv)])
        refine X0.step (fun hA hx hq t_ k_ => XS.icmpNo hA hx rfl (hb hq d1_56) rfl (flt ((by rw [Int32.lt_iff_toInt_lt]; omega))).1 k_) ?_
        show OFin _ _ _ _ _ _ T0 (mkF m 59 #[.val (.ref ca), .val (.int (Int32.ofNat i)), .val (.int x), .val (.int vv), .val (.int lw)] [])
        refine X0.step (fun hA hx hq t_ k_ => XS.iloadN hA hx rfl (hb hq d1_59) rfl k_) ?_
        show OFin _ _ _ _ _ _ T0 (mkF m 60 #[.val (.ref ca), .val (.int (Int32.ofNat i)), .val (.int x), .val (.int vv), .val (.int lw)] [(.int vv)])
        refine X0.ldcI (hw _ (List.mem_of_getElem? (i := 115) rfl)) (g := (mkF m 60 #[.val (.ref ca), .val (.int (Int32.ofNat i)), .val (.int x), .val (.int vv), .val (.int lw)] [(.int vv)])) rfl d1_60 ?_
        show OFin _ _ _ _ _ _ T0 (mkF m 62 #[.val (.ref ca), .val (.int (Int32.ofNat i)), .val (.int x), .val (.int vv), .val (.int lw)] [(.int (57343 : Int32)), (.int vv)])
        by_cases c3 : (57343 : Int32) < vv
        · refine X0.step (fun hA hx hq t_ k_ => XS.icmpYes hA hx rfl (pc0 := 62) (pc' := 85) rfl (hb hq d1_62) rfl (tlt (c3)).2.2.1 (by decide) (by decide) k_) ?_
          show OFin _ _ _ _ _ _ T0 (mkF m 85 #[.val (.ref ca), .val (.int (Int32.ofNat i)), .val (.int x), .val (.int vv), .val (.int lw)] [])
          rw [Int32.lt_iff_toInt_lt] at c3
          have ho : own_o1 vv := by
            unfold own_o1
            omega
          refine X0.step (fun hA hx hq t_ k_ => XS.aloadN hA hx rfl (hb hq d1_85) rfl rfl k_) ?_
          show OFin _ _ _ _ _ _ T0 (mkF m 86 #[.val (.ref ca), .val (.int (Int32.ofNat i)), .val (.int x), .val (.int vv), .val (.int lw)] [(.ref ca)])
          refine X0.step (fun hA hx hq t_ k_ => XS.iloadN hA hx rfl (hb hq d1_86) rfl k_) ?_
          show OFin _ _ _ _ _ _ T0 (mkF m 87 #[.val (.ref ca), .val (.int (Int32.ofNat i)), .val (.int x), .val (.int vv), .val (.int lw)] [(.int (Int32.ofNat i)), (.ref ca)])
          refine X0.step (fun hA hx hq t_ k_ => XS.iloadN hA hx rfl (hb hq d1_87) rfl k_) ?_
          show OFin _ _ _ _ _ _ T0 (mkF m 88 #[.val (.ref ca), .val (.int (Int32.ofNat i)), .val (.int x), .val (.int vv), .val (.int lw)] [(.int vv), (.int (Int32.ofNat i)), (.ref ca)])
          refine X0.step (fun hA hx hq t_ k_ => XS.i2c hA hx rfl (hb hq d1_88) rfl k_) ?_
          show OFin _ _ _ _ _ _ T0 (mkF m 89 #[.val (.ref ca), .val (.int (Int32.ofNat i)), .val (.int x), .val (.int vv), .val (.int lw)] [(.int (vv.toUInt32.toUInt16.toUInt32.toInt32)), (.int (Int32.ofNat i)), (.ref ca)])
          refine X0.stC A1 (own_inN S1 (by omega) (by omega)) (hn) (g := (mkF m 89 #[.val (.ref ca), .val (.int (Int32.ofNat i)), .val (.int x), .val (.int vv), .val (.int lw)] [(.int (vv.toUInt32.toUInt16.toUInt32.toInt32)), (.int (Int32.ofNat i)), (.ref ca)])) rfl rfl d1_89 ?_
          intro T4 h4 X4 W4
          show OFin _ _ _ _ _ _ T4 (mkF m 90 #[.val (.ref ca), .val (.int (Int32.ofNat i)), .val (.int x), .val (.int vv), .val (.int lw)] [])
          rw [own_iN i (by omega), own_cc _ hv.1 hv.2, own_narC _ hv.1 hv.2] at W4
          have FA2 : OArr Z h4 ca .char 6 (fun k => .int ((own_up f i vv) k)) := (FA.set W4).congr fun j hj => by
            show (if j = i then _ else _) = Value.int (if j = i then _ else _)
            split <;> rfl
          refine X4.step (fun hA hx hq t_ k_ => XS.iloadN hA hx rfl (hb hq d1_90) rfl k_) ?_
          show OFin _ _ _ _ _ _ T4 (mkF m 91 #[.val (.ref ca), .val (.int (Int32.ofNat i)), .val (.int x), .val (.int vv), .val (.int lw)] [(.int (Int32.ofNat i))])
          refine X4.step (fun hA hx hq t_ k_ => XS.iconst hA hx rfl (hb hq d1_91) k_) ?_
          show OFin _ _ _ _ _ _ T4 (mkF m 92 #[.val (.ref ca), .val (.int (Int32.ofNat i)), .val (.int x), .val (.int vv), .val (.int lw)] [(.int (1 : Int32)), (.int (Int32.ofNat i))])
          refine X4.step (fun hA hx hq t_ k_ => XS.iadd hA hx rfl (hb hq d1_92) rfl k_) ?_
          show OFin _ _ _ _ _ _ T4 (mkF m 93 #[.val (.ref ca), .val (.int (Int32.ofNat i)), .val (.int x), .val (.int vv), .val (.int lw)] [(.int ((Int32.ofNat i) + (1 : Int32)))])
          exact X4.retI d1_93 (oN (by decide) (by decide)) (⟨i + 1, own_up f i vv, by rw [own_succ i (by omega)], Keep.of_wr W4, FA2, Or.inr (Or.inl ⟨rfl, by rw [own_up.at]; exact ho⟩), fun k hk => own_up.ne (by omega), own_up.ch hch hv⟩)
        · refine X0.step (fun hA hx hq t_ k_ => XS.icmpNo hA hx rfl (hb hq d1_62) rfl (flt (c3)).2.2.1 k_) ?_
          show OFin _ _ _ _ _ _ T0 (mkF m 65 #[.val (.ref ca), .val (.int (Int32.ofNat i)), .val (.int x), .val (.int vv), .val (.int lw)] [])
          rw [Int32.lt_iff_toInt_lt] at c3
          have hlo : own_lo vv := ⟨by omega, by omega⟩
          have hhi : own_hi ((55296 : Int32) ||| lw) := ⟨by omega, by omega⟩
          have hl : own_chr16 ((55296 : Int32) ||| lw) := ⟨by omega, by omega⟩
          refine X0.step (fun hA hx hq t_ k_ => XS.aloadN hA hx rfl (hb hq d1_65) rfl rfl k_) ?_
          show OFin _ _ _ _ _ _ T0 (mkF m 66 #[.val (.ref ca), .val (.int (Int32.ofNat i)), .val (.int x), .val (.int vv), .val (.int lw)] [(.ref ca)])
          refine X0.step (fun hA hx hq t_ k_ => XS.iloadN hA hx rfl (hb hq d1_66) rfl k_) ?_
          show OFin _ _ _ _ _ _ T0 (mkF m 67 #[.val (.ref ca), .val (.int (Int32.ofNat i)), .val (.int x), .val (.int vv), .val (.int lw)] [(.int (Int32.ofNat i)), (.ref ca)])
          refine X0.ldcI (hw _ (List.mem_of_getElem? (i := 6) rfl)) (g := (mkF m 67 #[.val (.ref ca), .val (.int (Int32.ofNat i)), .val (.int x), .val (.int vv), .val (.int lw)] [(.int (Int32.ofNat i)), (.ref ca)])) rfl d1_67 ?_
          show OFin _ _ _ _ _ _ T0 (mkF m 69 #[.val (.ref ca), .val (.int (Int32.ofNat i)), .val (.int x), .val (.int vv), .val (.int lw)] [(.int (55296 : Int32)), (.int (Int32.ofNat i)), (.ref ca)])
          refine X0.step (fun hA hx hq t_ k_ => XS.iload hA hx rfl (hb hq d1_69) rfl k_) ?_
          show OFin _ _ _ _ _ _ T0 (mkF m 71 #[.val (.ref ca), .val (.int (Int32.ofNat i)), .val (.int x), .val (.int vv), .val (.int lw)] [(.int lw), (.int (55296 : Int32)), (.int (Int32.ofNat i)), (.ref ca)])
          refine X0.step (fun hA hx hq t_ k_ => XS.ior hA hx rfl (hb hq d1_71) rfl k_) ?_
          show OFin _ _ _ _ _ _ T0 (mkF m 72 #[.val (.ref ca), .val (.int (Int32.ofNat i)), .val (.int x), .val (.int vv), .val (.int lw)] [(.int ((55296 : Int32) ||| lw)), (.int (Int32.ofNat i)), (.ref ca)])
          refine X0.step (fun hA hx hq t_ k_ => XS.i2c hA hx rfl (hb hq d1_72) rfl k_) ?_
          show OFin _ _ _ _ _ _ T0 (mkF m 73 #[.val (.ref ca), .val (.int (Int32.ofNat i)), .val (.int x), .val (.int vv), .val (.int lw)] [(.int (((55296 : Int32) ||| lw).toUInt32.toUInt16.toUInt32.toInt32)), (.int (Int32.ofNat i)), (.ref ca)])
          refine X0.stC A1 (own_inN S1 (by omega) (by omega)) (hn) (g := (mkF m 73 #[.val (.ref ca), .val (.int (Int32.ofNat i)), .val (.int x), .val (.int vv), .val (.int lw)] [(.int (((55296 : Int32) ||| lw).toUInt32.toUInt16.toUInt32.toInt32)), (.int (Int32.ofNat i)), (.ref ca)])) rfl rfl d1_73 ?_
          intro T5 h5 X5 W5
          show OFin _ _ _ _ _ _ T5 (mkF m 74 #[.val (.ref ca), .val (.int (Int32.ofNat i)), .val (.int x), .val (.int vv), .val (.int lw)] [])
          rw [own_iN i (by omega), own_cc _ hl.1 hl.2, own_narC _ hl.1 hl.2] at W5
          have FA2 : OArr Z h5 ca .char 6 (fun k => .int ((own_up f i ((55296 : Int32) ||| lw)) k)) := (FA.set W5).congr fun j hj => by
            show (if j = i then _ else _) = Value.int (if j = i then _ else _)
            split <;> rfl
          obtain ⟨c2, A2, S2, H2⟩ := id FA2
          refine X5.step (fun hA hx hq t_ k_ => XS.aloadN hA hx rfl (hb hq d1_74) rfl rfl k_) ?_
          show OFin _ _ _ _ _ _ T5 (mkF m 75 #[.val (.ref ca), .val (.int (Int32.ofNat i)), .val (.int x), .val (.int vv), .val (.int lw)] [(.ref ca)])
          refine X5.step (fun hA hx hq t_ k_ => XS.iloadN hA hx rfl (hb hq d1_75) rfl k_) ?_
          show OFin _ _ _ _ _ _ T5 (mkF m 76 #[.val (.ref ca), .val (.int (Int32.ofNat i)), .val (.int x), .val (.int vv), .val (.int lw)] [(.int (Int32.ofNat i)), (.ref ca)])
          refine X5.step (fun hA hx hq t_ k_ => XS.iconst hA hx rfl (hb hq d1_76) k_) ?_
          show OFin _ _ _ _ _ _ T5 (mkF m 77 #[.val (.ref ca), .val (.int (Int32.ofNat i)), .val (.int x), .val (.int vv), .val (.int lw)] [(.int (1 : Int32)), (.int (Int32.ofNat i)), (.ref ca)])
          refine X5.step (fun hA hx hq t_ k_ => XS.iadd hA hx rfl (hb hq d1_77) rfl k_) ?_
          show OFin _ _ _ _ _ _ T5 (mkF m 78 #[.val (.ref ca), .val (.int (Int32.ofNat i)), .val (.int x), .val (.int vv), .val (.int lw)] [(.int ((Int32.ofNat i) + (1 : Int32))), (.ref ca)])
          rw [own_succ i (by omega)]
          show OFin _ _ _ _ _ _ T5 (mkF m 78 #[.val (.ref ca), .val (.int (Int32.ofNat i)), .val (.int x), .val (.int vv), .val (.int lw)] [(.int (Int32.ofNat (i + 1))), (.ref ca)])
          refine X5.step (fun hA hx hq t_ k_ => XS.iloadN hA hx rfl (hb hq d1_78) rfl k_) ?_
          show OFin _ _ _ _ _ _ T5 (mkF m 79 #[.val (.ref ca), .val (.int (Int32.ofNat i)), .val (.int x), .val (.int vv), .val (.int lw)] [(.int vv), (.int (Int32.ofNat (i + 1))), (.ref ca)])
          refine X5.step (fun hA hx hq t_ k_ => XS.i2c hA hx rfl (hb hq d1_79) rfl k_) ?_
          show OFin _ _ _ _ _ _ T5 (mkF m 80 #[.val (.ref ca), .val (.int (Int32.ofNat i)), .val (.int x), .val (.int vv), .val (.int lw)] [(.int (vv.toUInt32.toUInt16.toUInt32.toInt32)), (.int (Int32.ofNat (i + 1))), (.ref ca)])
          refine X5.stC A2 (own_inN S2 (by omega) (by omega)) (hn) (g := (mkF m 80 #[.val (.ref ca), .val (.int (Int32.ofNat i)), .val (.int x), .val (.int vv), .val (.int lw)] [(.int (vv.toUInt32.toUInt16.toUInt32.toInt32)), (.int (Int32.ofNat (i + 1))), (.ref ca)])) rfl rfl d1_80 ?_
          intro T6 h6 X6 W6
          show OFin _ _ _ _ _ _ T6 (mkF m 81 #[.val (.ref ca), .val (.int (Int32.ofNat i)), .val (.int x), .val (.int vv), .val (.int lw)] [])
          rw [own_iN (i + 1) (by omega), own_cc _ hv.1 hv.2, own_narC _ hv.1 hv.2] at W6
          have FA3 : OArr Z h6 ca .char 6 (fun k => .int ((own_up (own_up f i ((55296 : Int32) ||| lw)) (i + 1) vv) k)) := (FA2.set W6).congr fun j hj => by
            show (if j = i + 1 then _ else _) = Value.int (if j = i + 1 then _ else _)
            split <;> rfl
          refine X6.step (fun hA hx hq t_ k_ => XS.iloadN hA hx rfl (hb hq d1_81) rfl k_) ?_
          show OFin _ _ _ _ _ _ T6 (mkF m 82 #[.val (.ref ca), .val (.int (Int32.ofNat i)), .val (.int x), .val (.int vv), .val (.int lw)] [(.int (Int32.ofNat i))])
          refine X6.step (fun hA hx hq t_ k_ => XS.iconst hA hx rfl (hb hq d1_82) k_) ?_
          show OFin _ _ _ _ _ _ T6 (mkF m 83 #[.val (.ref ca), .val (.int (Int32.ofNat i)), .val (.int x), .val (.int vv), .val (.int lw)] [(.int (2 : Int32)), (.int (Int32.ofNat i))])
          refine X6.step (fun hA hx hq t_ k_ => XS.iadd hA hx rfl (hb hq d1_83) rfl k_) ?_
          show OFin _ _ _ _ _ _ T6 (mkF m 84 #[.val (.ref ca), .val (.int (Int32.ofNat i)), .val (.int x), .val (.int vv), .val (.int lw)] [(.int ((Int32.ofNat i) + (2 : Int32)))])
          have s1 : own_up (own_up f i ((55296 : Int32) ||| lw)) (i + 1) vv i = ((55296 : Int32) ||| lw) := by rw [own_up.ne (by omega), own_up.at]
          have s2 : own_up (own_up f i ((55296 : Int32) ||| lw)) (i + 1) vv (i + 1) = vv := own_up.at _ _ _
          exact X6.retI d1_84 (oN (by decide) (by decide)) (⟨i + 2, own_up (own_up f i ((55296 : Int32) ||| lw)) (i + 1) vv, by rw [show Int32.ofNat i + (2 : Int32) = Int32.ofNat (i + 2) from own_add32 i 2 (by omega)], (Keep.of_wr W5).wr W6 (Or.inl (List.mem_of_getElem? (i := 0) rfl)), FA3, Or.inr (Or.inr ⟨rfl, by rw [s1]; exact hhi, by rw [s2]; exact hlo⟩), fun k hk => by rw [own_up.ne (by omega), own_up.ne (by omega)], own_up.ch (own_up.ch hch hl) hv⟩)
      · refine X0.step (fun hA hx hq t_ k_ => XS.icmpNo hA hx rfl (hb hq d1_30) rfl (flt (c2)).2.2.1 k_) ?_
        show OFin _ _ _ _ _ _ T0 (mkF m 33 #[.val (.ref ca), .val (.int (Int32.ofNat i)), .val (.int x), .val (.int vv), .val (.int lw)] [])
        rw [Int32.lt_iff_toInt_lt] at c2
        have hhi : own_hi vv := ⟨by omega, by omega⟩
        have hlo : own_lo ((56320 : Int32) ||| lw) := ⟨by omega, by omega⟩
        have hl : own_chr16 ((56320 : Int32) ||| lw) := ⟨by omega, by omega⟩
        refine X0.step (fun hA hx hq t_ k_ => XS.aloadN hA hx rfl (hb hq d1_33) rfl rfl k_) ?_
        show OFin _ _ _ _ _ _ T0 (mkF m 34 #[.val (.ref ca), .val (.int (Int32.ofNat i)), .val (.int x), .val (.int vv), .val (.int lw)] [(.ref ca)])
        refine X0.step (fun hA hx hq t_ k_ => XS.iloadN hA hx rfl (hb hq d1_34) rfl k_) ?_
        show OFin _ _ _ _ _ _ T0 (mkF m 35 #[.val (.ref ca), .val (.int (Int32.ofNat i)), .val (.int x), .val (.int vv), .val (.int lw)] [(.int (Int32.ofNat i)), (.ref ca)])
        refine X0.step (fun hA hx hq t_ k_ => XS.iloadN hA hx rfl (hb hq d1_35) rfl k_) ?_
        show OFin _ _ _ _ _ _ T0 (mkF m 36 #[.val (.ref ca), .val (.int (Int32.ofNat i)), .val (.int x), .val (.int vv), .val (.int lw)] [(.int vv), (.int (Int32.ofNat i)), (.ref ca)])
        refine X0.step (fun hA hx hq t_ k_ => XS.i2c hA hx rfl (hb hq d1_36) rfl k_) ?_
        show OFin _ _ _ _ _ _ T0 (mkF m 37 #[.val (.ref ca), .val (.int (Int32.ofNat i)), .val (.int x), .val (.int vv), .val (.int lw)] [(.int (vv.toUInt32.toUInt16.toUInt32.toInt32)), (.int (Int32.ofNat i)), (.ref ca)])
        refine X0.stC A1 (own_inN S1 (by omega) (by omega)) (hn) (g := (mkF m 37 #[.val (.ref ca), .val (.int (Int32.ofNat i)), .val (.int x), .val (.int vv), .val (.int lw)] [(.int (vv.toUInt32.toUInt16.toUInt32.toInt32)), (.int (Int32.ofNat i)), (.ref ca)])) rfl rfl d1_37 ?_
        intro T2 h2 X2 W2
        show OFin _ _ _ _ _ _ T2 (mkF m 38 #[.val (.ref ca), .val (.int (Int32.ofNat i)), .val (.int x), .val (.int vv), .val (.int lw)] [])
        rw [own_iN i (by omega), own_cc _ hv.1 hv.2, own_narC _ hv.1 hv.2] at W2
        have FA2 : OArr Z h2 ca .char 6 (fun k => .int ((own_up f i vv) k)) := (FA.set W2).congr fun j hj => by
          show (if j = i then _ else _) = Value.int (if j = i then _ else _)
          split <;> rfl
        obtain ⟨c2, A2, S2, H2⟩ := id FA2
        refine X2.step (fun hA hx hq t_ k_ => XS.aloadN hA hx rfl (hb hq d1_38) rfl rfl k_) ?_
        show OFin _ _ _ _ _ _ T2 (mkF m 39 #[.val (.ref ca), .val (.int (Int32.ofNat i)), .val (.int x), .val (.int vv), .val (.int lw)] [(.ref ca)])
        refine X2.step (fun hA hx hq t_ k_ => XS.iloadN hA hx rfl (hb hq d1_39) rfl k_) ?_
        show OFin _ _ _ _ _ _ T2 (mkF m 40 #[.val (.ref ca), .val (.int (Int32.ofNat i)), .val (.int x), .val (.int vv), .val (.int lw)] [(.int (Int32.ofNat i)), (.ref ca)])
        refine X2.step (fun hA hx hq t_ k_ => XS.iconst hA hx rfl (hb hq d1_40) k_) ?_
        show OFin _ _ _ _ _ _ T2 (mkF m 41 #[.val (.ref ca), .val (.int (Int32.ofNat i)), .val (.int x), .val (.int vv), .val (.int lw)] [(.int (1 : Int32)), (.int (Int32.ofNat i)), (.ref ca)])
        refine X2.step (fun hA hx hq t_ k_ => XS.iadd hA hx rfl (hb hq d1_41) rfl k_) ?_
        show OFin _ _ _ _ _ _ T2 (mkF m 42 #[.val (.ref ca), .val (.int (Int32.ofNat i)), .val (.int x), .val (.int vv), .val (.int lw)] [(.int ((Int32.ofNat i) + (1 : Int32))), (.ref ca)])
        rw [own_succ i (by omega)]
        show OFin _ _ _ _ _ _ T2 (mkF m 42 #[.val (.ref ca), .val (.int (Int32.ofNat i)), .val (.int x), .val (.int vv), .val (.int lw)] [(.int (Int32.ofNat (i + 1))), (.ref ca)])
        refine X2.ldcI (hw _ (List.mem_of_getElem? (i := 7) rfl)) (g := (mkF m 42 #[.val (.ref ca), .val (.int (Int32.ofNat i)), .val (.int x), .val (.int vv), .val (.int lw)] [(.int (Int32.ofNat (i + 1))), (.ref ca)])) rfl d1_42 ?_
        show OFin _ _ _ _ _ _ T2 (mkF m 44 #[.val (.ref ca), .val (.int (Int32.ofNat i)), .val (.int x), .val (.int vv), .val (.int lw)] [(.int (56320 : Int32)), (.int (Int32.ofNat (i + 1))), (.ref ca)])
        refine X2.step (fun hA hx hq t_ k_ => XS.iload hA hx rfl (hb hq d1_44) rfl k_) ?_
        show OFin _ _ _ _ _ _ T2 (mkF m 46 #[.val (.ref ca), .val (.int (Int32.ofNat i)), .val (.int x), .val (.int vv), .val (.int lw)] [(.int lw), (.int (56320 : Int32)), (.int (Int32.ofNat (i + 1))), (.ref ca)])
        refine X2.step (fun hA hx hq t_ k_ => XS.ior hA hx rfl (hb hq d1_46) rfl k_) ?_
        show OFin _ _ _ _ _ _ T2 (mkF m 47 #[.val (.ref ca), .val (.int (Int32.ofNat i)), .val (.int x), .val (.int vv), .val (.int lw)] [(.int ((56320 : Int32) ||| lw)), (.int (Int32.ofNat (i + 1))), (.ref ca)])
        refine X2.step (fun hA hx hq t_ k_ => XS.i2c hA hx rfl (hb hq d1_47) rfl k_) ?_
        show OFin _ _ _ _ _ _ T2 (mkF m 48 #[.val (.ref ca), .val (.int (Int32.ofNat i)), .val (.int x), .val (.int vv), .val (.int lw)] [(.int (((56320 : Int32) ||| lw).toUInt32.toUInt16.toUInt32.toInt32)), (.int (Int32.ofNat (i + 1))), (.ref ca)])
        refine X2.stC A2 (own_inN S2 (by omega) (by omega)) (hn) (g := (mkF m 48 #[.val (.ref ca), .val (.int (Int32.ofNat i)), .val (.int x), .val (.int vv), .val (.int lw)] [(.int (((56320 : Int32) ||| lw).toUInt32.toUInt16.toUInt32.toInt32)), (.int (Int32.ofNat (i + 1))), (.ref ca)])) rfl rfl d1_48 ?_
        intro T3 h3 X3 W3
        show OFin _ _ _ _ _ _ T3 (mkF m 49 #[.val (.ref ca), .val (.int (Int32.ofNat i)), .val (.int x), .val (.int vv), .val (.int lw)] [])
        rw [own_iN (i + 1) (by omega), own_cc _ hl.1 hl.2, own_narC _ hl.1 hl.2] at W3
        have FA3 : OArr Z h3 ca .char 6 (fun k => .int ((own_up (own_up f i vv) (i + 1) ((56320 : Int32) ||| lw)) k)) := (FA2.set W3).congr fun j hj => by
          show (if j = i + 1 then _ else _) = Value.int (if j = i + 1 then _ else _)
          split <;> rfl
        refine X3.step (fun hA hx hq t_ k_ => XS.iloadN hA hx rfl (hb hq d1_49) rfl k_) ?_
        show OFin _ _ _ _ _ _ T3 (mkF m 50 #[.val (.ref ca), .val (.int (Int32.ofNat i)), .val (.int x), .val (.int vv), .val (.int lw)] [(.int (Int32.ofNat i))])
        refine X3.step (fun hA hx hq t_ k_ => XS.iconst hA hx rfl (hb hq d1_50) k_) ?_
        show OFin _ _ _ _ _ _ T3 (mkF m 51 #[.val (.ref ca), .val (.int (Int32.ofNat i)), .val (.int x), .val (.int vv), .val (.int lw)] [(.int (2 : Int32)), (.int (Int32.ofNat i))])
        refine X3.step (fun hA hx hq t_ k_ => XS.iadd hA hx rfl (hb hq d1_51) rfl k_) ?_
        show OFin _ _ _ _ _ _ T3 (mkF m 52 #[.val (.ref ca), .val (.int (Int32.ofNat i)), .val (.int x), .val (.int vv), .val (.int lw)] [(.int ((Int32.ofNat i) + (2 : Int32)))])
        have s1 : own_up (own_up f i vv) (i + 1) ((56320 : Int32) ||| lw) i = vv := by rw [own_up.ne (by omega), own_up.at]
        have s2 : own_up (own_up f i vv) (i + 1) ((56320 : Int32) ||| lw) (i + 1) = ((56320 : Int32) ||| lw) := own_up.at _ _ _
        exact X3.retI d1_52 (oN (by decide) (by decide)) (⟨i + 2, own_up (own_up f i vv) (i + 1) ((56320 : Int32) ||| lw), by rw [show Int32.ofNat i + (2 : Int32) = Int32.ofNat (i + 2) from own_add32 i 2 (by omega)], (Keep.of_wr W2).wr W3 (Or.inl (List.mem_of_getElem? (i := 0) rfl)), FA3, Or.inr (Or.inr ⟨rfl, by rw [s1]; exact hhi, by rw [s2]; exact hlo⟩), fun k hk => by rw [own_up.ne (by omega), own_up.ne (by omega)], own_up.ch (own_up.ch hch hv) hl⟩)
theorem d2_0 : decode method_4_code 0 = .ok (.iload_n 1, 1) := by decide +kernel
theorem d2_1 : decode method_4_code 1 = .ok (.ifCond .ne 14, 3) := by decide +kernel
theorem d2_4 : decode method_4_code 4 = .ok (.new 30, 3) := by decide +kernel
theorem d2_7 : decode method_4_code 7 = .ok (.dup, 1) := by decide +kernel
theorem d2_8 : decode method_4_code 8 = .ok (.iconst 0, 1) := by decide +kernel
theorem d2_9 : decode method_4_code 9 = .ok (.newarray .char, 2) := by decide +kernel
theorem d2_11 : decode method_4_code 11 = .ok (.invokespecial 32, 3) := by decide +kernel
theorem pd_pA_Cr_V : parseMethodDescriptor "([C)V" = some ⟨[(.array .char)], none⟩ := by decide +kernel
theorem d2_14 : decode method_4_code 14 = .ok (.areturn, 1) := by decide +kernel
theorem d2_15 : decode method_4_code 15 = .ok (.iload_n 1, 1) := by decide +kernel
theorem d2_16 : decode method_4_code 16 = .ok (.iconst 1, 1) := by decide +kernel
theorem d2_17 : decode method_4_code 17 = .ok (.if_icmp .ne 20, 3) := by decide +kernel
theorem d2_20 : decode method_4_code 20 = .ok (.new 30, 3) := by decide +kernel
theorem d2_23 : decode method_4_code 23 = .ok (.dup, 1) := by decide +kernel
theorem d2_24 : decode method_4_code 24 = .ok (.iconst 1, 1) := by decide +kernel
theorem d2_25 : decode method_4_code 25 = .ok (.newarray .char, 2) := by decide +kernel
theorem d2_27 : decode method_4_code 27 = .ok (.dup, 1) := by decide +kernel
theorem d2_28 : decode method_4_code 28 = .ok (.iconst 0, 1) := by decide +kernel
theorem d2_29 : decode method_4_code 29 = .ok (.aload_n 0, 1) := by decide +kernel
theorem d2_30 : decode method_4_code 30 = .ok (.iconst 0, 1) := by decide +kernel
theorem d2_31 : decode method_4_code 31 = .ok (.caload, 1) := by decide +kernel
theorem d2_32 : decode method_4_code 32 = .ok (.castore, 1) := by decide +kernel
theorem d2_33 : decode method_4_code 33 = .ok (.invokespecial 32, 3) := by decide +kernel
theorem d2_36 : decode method_4_code 36 = .ok (.areturn, 1) := by decide +kernel
theorem d2_37 : decode method_4_code 37 = .ok (.iload_n 1, 1) := by decide +kernel
theorem d2_38 : decode method_4_code 38 = .ok (.iconst 2, 1) := by decide +kernel
theorem d2_39 : decode method_4_code 39 = .ok (.if_icmp .ne 26, 3) := by decide +kernel
theorem d2_42 : decode method_4_code 42 = .ok (.new 30, 3) := by decide +kernel
theorem d2_45 : decode method_4_code 45 = .ok (.dup, 1) := by decide +kernel
theorem d2_46 : decode method_4_code 46 = .ok (.iconst 2, 1) := by decide +kernel
theorem d2_47 : decode method_4_code 47 = .ok (.newarray .char, 2) := by decide +kernel
theorem d2_49 : decode method_4_code 49 = .ok (.dup, 1) := by decide +kernel
theorem d2_50 : decode method_4_code 50 = .ok (.iconst 0, 1) := by decide +kernel
theorem d2_51 : decode method_4_code 51 = .ok (.aload_n 0, 1) := by decide +kernel
theorem d2_52 : decode method_4_code 52 = .ok (.iconst 0, 1) := by decide +kernel
theorem d2_53 : decode method_4_code 53 = .ok (.caload, 1) := by decide +kernel
theorem d2_54 : decode method_4_code 54 = .ok (.castore, 1) := by decide +kernel
theorem d2_55 : decode method_4_code 55 = .ok (.dup, 1) := by decide +kernel
theorem d2_56 : decode method_4_code 56 = .ok (.iconst 1, 1) := by decide +kernel
theorem d2_57 : decode method_4_code 57 = .ok (.aload_n 0, 1) := by decide +kernel
theorem d2_58 : decode method_4_code 58 = .ok (.iconst 1, 1) := by decide +kernel
theorem d2_59 : decode method_4_code 59 = .ok (.caload, 1) := by decide +kernel
theorem d2_60 : decode method_4_code 60 = .ok (.castore, 1) := by decide +kernel
theorem d2_61 : decode method_4_code 61 = .ok (.invokespecial 32, 3) := by decide +kernel
theorem d2_64 : decode method_4_code 64 = .ok (.areturn, 1) := by decide +kernel
theorem d2_65 : decode method_4_code 65 = .ok (.iload_n 1, 1) := by decide +kernel
theorem d2_66 : decode method_4_code 66 = .ok (.iconst 3, 1) := by decide +kernel
theorem d2_67 : decode method_4_code 67 = .ok (.if_icmp .ne 32, 3) := by decide +kernel
theorem d2_70 : decode method_4_code 70 = .ok (.new 30, 3) := by decide +kernel
theorem d2_73 : decode method_4_code 73 = .ok (.dup, 1) := by decide +kernel
theorem d2_74 : decode method_4_code 74 = .ok (.iconst 3, 1) := by decide +kernel
theorem d2_75 : decode method_4_code 75 = .ok (.newarray .char, 2) := by decide +kernel
theorem d2_77 : decode method_4_code 77 = .ok (.dup, 1) := by decide +kernel
theorem d2_78 : decode method_4_code 78 = .ok (.iconst 0, 1) := by decide +kernel
theorem d2_79 : decode method_4_code 79 = .ok (.aload_n 0, 1) := by decide +kernel
theorem d2_80 : decode method_4_code 80 = .ok (.iconst 0, 1) := by decide +kernel
theorem d2_81 : decode method_4_code 81 = .ok (.caload, 1) := by decide +kernel
theorem d2_82 : decode method_4_code 82 = .ok (.castore, 1) := by decide +kernel
theorem d2_83 : decode method_4_code 83 = .ok (.dup, 1) := by decide +kernel
theorem d2_84 : decode method_4_code 84 = .ok (.iconst 1, 1) := by decide +kernel
theorem d2_85 : decode method_4_code 85 = .ok (.aload_n 0, 1) := by decide +kernel
theorem d2_86 : decode method_4_code 86 = .ok (.iconst 1, 1) := by decide +kernel
theorem d2_87 : decode method_4_code 87 = .ok (.caload, 1) := by decide +kernel
theorem d2_88 : decode method_4_code 88 = .ok (.castore, 1) := by decide +kernel
theorem d2_89 : decode method_4_code 89 = .ok (.dup, 1) := by decide +kernel
theorem d2_90 : decode method_4_code 90 = .ok (.iconst 2, 1) := by decide +kernel
theorem d2_91 : decode method_4_code 91 = .ok (.aload_n 0, 1) := by decide +kernel
theorem d2_92 : decode method_4_code 92 = .ok (.iconst 2, 1) := by decide +kernel
theorem d2_93 : decode method_4_code 93 = .ok (.caload, 1) := by decide +kernel
theorem d2_94 : decode method_4_code 94 = .ok (.castore, 1) := by decide +kernel
theorem d2_95 : decode method_4_code 95 = .ok (.invokespecial 32, 3) := by decide +kernel
theorem d2_98 : decode method_4_code 98 = .ok (.areturn, 1) := by decide +kernel
theorem d2_99 : decode method_4_code 99 = .ok (.iload_n 1, 1) := by decide +kernel
theorem d2_100 : decode method_4_code 100 = .ok (.iconst 4, 1) := by decide +kernel
theorem d2_101 : decode method_4_code 101 = .ok (.if_icmp .ne 38, 3) := by decide +kernel
theorem d2_104 : decode method_4_code 104 = .ok (.new 30, 3) := by decide +kernel
theorem d2_107 : decode method_4_code 107 = .ok (.dup, 1) := by decide +kernel
theorem d2_108 : decode method_4_code 108 = .ok (.iconst 4, 1) := by decide +kernel
theorem d2_109 : decode method_4_code 109 = .ok (.newarray .char, 2) := by decide +kernel
theorem d2_111 : decode method_4_code 111 = .ok (.dup, 1) := by decide +kernel
theorem d2_112 : decode method_4_code 112 = .ok (.iconst 0, 1) := by decide +kernel
theorem d2_113 : decode method_4_code 113 = .ok (.aload_n 0, 1) := by decide +kernel
theorem d2_114 : decode method_4_code 114 = .ok (.iconst 0, 1) := by decide +kernel
theorem d2_115 : decode method_4_code 115 = .ok (.caload, 1) := by decide +kernel
theorem d2_116 : decode method_4_code 116 = .ok (.castore, 1) := by decide +kernel
theorem d2_117 : decode method_4_code 117 = .ok (.dup, 1) := by decide +kernel
theorem d2_118 : decode method_4_code 118 = .ok (.iconst 1, 1) := by decide +kernel
theorem d2_119 : decode method_4_code 119 = .ok (.aload_n 0, 1) := by decide +kernel
theorem d2_120 : decode method_4_code 120 = .ok (.iconst 1, 1) := by decide +kernel
theorem d2_121 : decode method_4_code 121 = .ok (.caload, 1) := by decide +kernel
theorem d2_122 : decode method_4_code 122 = .ok (.castore, 1) := by decide +kernel
theorem d2_123 : decode method_4_code 123 = .ok (.dup, 1) := by decide +kernel
theorem d2_124 : decode method_4_code 124 = .ok (.iconst 2, 1) := by decide +kernel
theorem d2_125 : decode method_4_code 125 = .ok (.aload_n 0, 1) := by decide +kernel
theorem d2_126 : decode method_4_code 126 = .ok (.iconst 2, 1) := by decide +kernel
theorem d2_127 : decode method_4_code 127 = .ok (.caload, 1) := by decide +kernel
theorem d2_128 : decode method_4_code 128 = .ok (.castore, 1) := by decide +kernel
theorem d2_129 : decode method_4_code 129 = .ok (.dup, 1) := by decide +kernel
theorem d2_130 : decode method_4_code 130 = .ok (.iconst 3, 1) := by decide +kernel
theorem d2_131 : decode method_4_code 131 = .ok (.aload_n 0, 1) := by decide +kernel
theorem d2_132 : decode method_4_code 132 = .ok (.iconst 3, 1) := by decide +kernel
theorem d2_133 : decode method_4_code 133 = .ok (.caload, 1) := by decide +kernel
theorem d2_134 : decode method_4_code 134 = .ok (.castore, 1) := by decide +kernel
theorem d2_135 : decode method_4_code 135 = .ok (.invokespecial 32, 3) := by decide +kernel
theorem d2_138 : decode method_4_code 138 = .ok (.areturn, 1) := by decide +kernel
theorem d2_139 : decode method_4_code 139 = .ok (.iload_n 1, 1) := by decide +kernel
theorem d2_140 : decode method_4_code 140 = .ok (.iconst 5, 1) := by decide +kernel
theorem d2_141 : decode method_4_code 141 = .ok (.if_icmp .ne 44, 3) := by decide +kernel
theorem d2_144 : decode method_4_code 144 = .ok (.new 30, 3) := by decide +kernel
theorem d2_147 : decode method_4_code 147 = .ok (.dup, 1) := by decide +kernel
theorem d2_148 : decode method_4_code 148 = .ok (.iconst 5, 1) := by decide +kernel
theorem d2_149 : decode method_4_code 149 = .ok (.newarray .char, 2) := by decide +kernel
theorem d2_151 : decode method_4_code 151 = .ok (.dup, 1) := by decide +kernel
theorem d2_152 : decode method_4_code 152 = .ok (.iconst 0, 1) := by decide +kernel
theorem d2_153 : decode method_4_code 153 = .ok (.aload_n 0, 1) := by decide +kernel
theorem d2_154 : decode method_4_code 154 = .ok (.iconst 0, 1) := by decide +kernel
theorem d2_155 : decode method_4_code 155 = .ok (.caload, 1) := by decide +kernel
theorem d2_156 : decode method_4_code 156 = .ok (.castore, 1) := by decide +kernel
theorem d2_157 : decode method_4_code 157 = .ok (.dup, 1) := by decide +kernel
theorem d2_158 : decode method_4_code 158 = .ok (.iconst 1, 1) := by decide +kernel
theorem d2_159 : decode method_4_code 159 = .ok (.aload_n 0, 1) := by decide +kernel
theorem d2_160 : decode method_4_code 160 = .ok (.iconst 1, 1) := by decide +kernel
theorem d2_161 : decode method_4_code 161 = .ok (.caload, 1) := by decide +kernel
theorem d2_162 : decode method_4_code 162 = .ok (.castore, 1) := by decide +kernel
theorem d2_163 : decode method_4_code 163 = .ok (.dup, 1) := by decide +kernel
theorem d2_164 : decode method_4_code 164 = .ok (.iconst 2, 1) := by decide +kernel
theorem d2_165 : decode method_4_code 165 = .ok (.aload_n 0, 1) := by decide +kernel
theorem d2_166 : decode method_4_code 166 = .ok (.iconst 2, 1) := by decide +kernel
theorem d2_167 : decode method_4_code 167 = .ok (.caload, 1) := by decide +kernel
theorem d2_168 : decode method_4_code 168 = .ok (.castore, 1) := by decide +kernel
theorem d2_169 : decode method_4_code 169 = .ok (.dup, 1) := by decide +kernel
theorem d2_170 : decode method_4_code 170 = .ok (.iconst 3, 1) := by decide +kernel
theorem d2_171 : decode method_4_code 171 = .ok (.aload_n 0, 1) := by decide +kernel
theorem d2_172 : decode method_4_code 172 = .ok (.iconst 3, 1) := by decide +kernel
theorem d2_173 : decode method_4_code 173 = .ok (.caload, 1) := by decide +kernel
theorem d2_174 : decode method_4_code 174 = .ok (.castore, 1) := by decide +kernel
theorem d2_175 : decode method_4_code 175 = .ok (.dup, 1) := by decide +kernel
theorem d2_176 : decode method_4_code 176 = .ok (.iconst 4, 1) := by decide +kernel
theorem d2_177 : decode method_4_code 177 = .ok (.aload_n 0, 1) := by decide +kernel
theorem d2_178 : decode method_4_code 178 = .ok (.iconst 4, 1) := by decide +kernel
theorem d2_179 : decode method_4_code 179 = .ok (.caload, 1) := by decide +kernel
theorem d2_180 : decode method_4_code 180 = .ok (.castore, 1) := by decide +kernel
theorem d2_181 : decode method_4_code 181 = .ok (.invokespecial 32, 3) := by decide +kernel
theorem d2_184 : decode method_4_code 184 = .ok (.areturn, 1) := by decide +kernel
theorem d2_185 : decode method_4_code 185 = .ok (.new 30, 3) := by decide +kernel
theorem d2_188 : decode method_4_code 188 = .ok (.dup, 1) := by decide +kernel
theorem d2_189 : decode method_4_code 189 = .ok (.bipush 6, 2) := by decide +kernel
theorem d2_191 : decode method_4_code 191 = .ok (.newarray .char, 2) := by decide +kernel
theorem d2_193 : decode method_4_code 193 = .ok (.dup, 1) := by decide +kernel
theorem d2_194 : decode method_4_code 194 = .ok (.iconst 0, 1) := by decide +kernel
theorem d2_195 : decode method_4_code 195 = .ok (.aload_n 0, 1) := by decide +kernel
theorem d2_196 : decode method_4_code 196 = .ok (.iconst 0, 1) := by decide +kernel
theorem d2_197 : decode method_4_code 197 = .ok (.caload, 1) := by decide +kernel
theorem d2_198 : decode method_4_code 198 = .ok (.castore, 1) := by decide +kernel
theorem d2_199 : decode method_4_code 199 = .ok (.dup, 1) := by decide +kernel
theorem d2_200 : decode method_4_code 200 = .ok (.iconst 1, 1) := by decide +kernel
theorem d2_201 : decode method_4_code 201 = .ok (.aload_n 0, 1) := by decide +kernel
theorem d2_202 : decode method_4_code 202 = .ok (.iconst 1, 1) := by decide +kernel
theorem d2_203 : decode method_4_code 203 = .ok (.caload, 1) := by decide +kernel
theorem d2_204 : decode method_4_code 204 = .ok (.castore, 1) := by decide +kernel
theorem d2_205 : decode method_4_code 205 = .ok (.dup, 1) := by decide +kernel
theorem d2_206 : decode method_4_code 206 = .ok (.iconst 2, 1) := by decide +kernel
theorem d2_207 : decode method_4_code 207 = .ok (.aload_n 0, 1) := by decide +kernel
theorem d2_208 : decode method_4_code 208 = .ok (.iconst 2, 1) := by decide +kernel
theorem d2_209 : decode method_4_code 209 = .ok (.caload, 1) := by decide +kernel
theorem d2_210 : decode method_4_code 210 = .ok (.castore, 1) := by decide +kernel
theorem d2_211 : decode method_4_code 211 = .ok (.dup, 1) := by decide +kernel
theorem d2_212 : decode method_4_code 212 = .ok (.iconst 3, 1) := by decide +kernel
theorem d2_213 : decode method_4_code 213 = .ok (.aload_n 0, 1) := by decide +kernel
theorem d2_214 : decode method_4_code 214 = .ok (.iconst 3, 1) := by decide +kernel
theorem d2_215 : decode method_4_code 215 = .ok (.caload, 1) := by decide +kernel
theorem d2_216 : decode method_4_code 216 = .ok (.castore, 1) := by decide +kernel
theorem d2_217 : decode method_4_code 217 = .ok (.dup, 1) := by decide +kernel
theorem d2_218 : decode method_4_code 218 = .ok (.iconst 4, 1) := by decide +kernel
theorem d2_219 : decode method_4_code 219 = .ok (.aload_n 0, 1) := by decide +kernel
theorem d2_220 : decode method_4_code 220 = .ok (.iconst 4, 1) := by decide +kernel
theorem d2_221 : decode method_4_code 221 = .ok (.caload, 1) := by decide +kernel
theorem d2_222 : decode method_4_code 222 = .ok (.castore, 1) := by decide +kernel
theorem d2_223 : decode method_4_code 223 = .ok (.dup, 1) := by decide +kernel
theorem d2_224 : decode method_4_code 224 = .ok (.iconst 5, 1) := by decide +kernel
theorem d2_225 : decode method_4_code 225 = .ok (.aload_n 0, 1) := by decide +kernel
theorem d2_226 : decode method_4_code 226 = .ok (.iconst 5, 1) := by decide +kernel
theorem d2_227 : decode method_4_code 227 = .ok (.caload, 1) := by decide +kernel
theorem d2_228 : decode method_4_code 228 = .ok (.castore, 1) := by decide +kernel
theorem d2_229 : decode method_4_code 229 = .ok (.invokespecial 32, 3) := by decide +kernel
theorem d2_232 : decode method_4_code 232 = .ok (.areturn, 1) := by decide +kernel
set_option maxRecDepth 65536 in
set_option maxHeartbeats 40000000 in
theorem rm2 (l : Launch) (Z : State) (a0 : Array Value) (hw : ∀ d ∈ tables_1, d.before a0 Z = true) (ca : Addr) (N : Nat) (f : Nat → Int32) (cs : Int32) (h0 : Heap) (n0 : Nat) (FA : OArr Z h0 ca .char 6 (fun k => .int (f k))) (hN : N ≤ 6) (hch : ∀ j, own_chr16 (f j)) (Z0 : n0 ≤ h0.size) (SA : Sta Z h0 "java/lang/StringUTF16" "$assertionsDisabled" "Z" (.int 1)) (SH : Sta Z h0 "java/lang/StringUTF16" "HI_BYTE_SHIFT" "I" (.int 0)) (SL : Sta Z h0 "java/lang/StringUTF16" "LO_BYTE_SHIFT" "I" (.int 8)) (SS : Sta Z h0 "java/lang/String" "COMPACT_STRINGS" "Z" (.int cs)) (hcs : ¬ cs = 0) :
    OMeetsW l Z own_EL (⟨"com/example/libidem/libidem/TextsRequireStorablePinLaw", "make", "([CI)Ljava/lang/String;"⟩ : MethodName) [] method_4_code 2 (some (.object "java/lang/String")) ({ frames := 6, cells := 6, slots := 28, locals := 88 } : Room) #[(.ref ca), (.int (Int32.ofNat N))] h0 n0 (fun v h => ∃ a, v = some (.ref a) ∧ OStrX Z h a N f ∧ Keep h0 h []) := by
  refine o_enterW (Z := Z) (own_EW hw) (plainFor_of_name pn_com_example_libidem_libidem_TextsRequireStorablePinLaw) ?_
  intro p e s m below meth c T0 X0 B0
  refine OFin.cast (g' := (mkF m 0 #[.val (.ref ca), .val (.int (Int32.ofNat N))] [])) (by first | (simp [entryFrame, mkF, argsToLocals, Value.category]; done) | rfl) ?_
  rcases (by omega : N = 0 ∨ N = 1 ∨ N = 2 ∨ N = 3 ∨ N = 4 ∨ N = 5 ∨ N = 6) with rfl | rfl | rfl | rfl | rfl | rfl | rfl
  · show OFin _ _ _ _ _ _ T0 (mkF m 0 #[.val (.ref ca), .val (.int (0 : Int32))] [])
    refine X0.step (fun hA hx hq t_ k_ => XS.iloadN hA hx rfl (hb hq d2_0) rfl k_) ?_
    show OFin _ _ _ _ _ _ T0 (mkF m 1 #[.val (.ref ca), .val (.int (0 : Int32))] [(.int (0 : Int32))])
    refine X0.step (fun hA hx hq t_ k_ => XS.ifNo hA hx rfl (hb hq d2_1) rfl ((if0 _ _).trans (teq ((rfl : (0 : Int32) = (0 : Int32)))).2) k_) ?_
    show OFin _ _ _ _ _ _ T0 (mkF m 4 #[.val (.ref ca), .val (.int (0 : Int32))] [])
    refine X0.newO (hw _ (List.mem_of_getElem? (i := 11) rfl)) (hw _ (List.mem_of_getElem? (i := 12) rfl)) (hw _ (List.mem_of_getElem? (i := 13) rfl)) (g := (mkF m 4 #[.val (.ref ca), .val (.int (0 : Int32))] [])) rfl d2_4 (by decide) (by decide) ?_
    intro T1 h1 b1 gb1 X1 E1 A1 D1
    have B2 := B0.ext E1
    show OFin _ _ _ _ _ _ T1 (mkF m 7 #[.val (.ref ca), .val (.int (0 : Int32))] [(.ref b1)])
    have Fv : Fld Z h1 b1 "java/lang/String" "value" "[B" .null := D1 (Or.inr (hw _ (List.mem_of_getElem? (i := 39) rfl))) (ty := (.array .byte)) (by decide)
    have Fc : Fld Z h1 b1 "java/lang/String" "coder" "B" (.int (0 : Int32)) := D1 (Or.inr (hw _ (List.mem_of_getElem? (i := 37) rfl))) (ty := .byte) (by decide)
    have hs : h0.size ≤ b1 := Nat.le_of_eq gb1.symm
    have hm : n0 ≤ b1 := Nat.le_trans Z0 hs
    refine X1.step (fun hA hx hq t_ k_ => XS.dup hA hx rfl (hb hq d2_7) rfl rfl k_) ?_
    show OFin _ _ _ _ _ _ T1 (mkF m 8 #[.val (.ref ca), .val (.int (0 : Int32))] [(.ref b1), (.ref b1)])
    refine X1.step (fun hA hx hq t_ k_ => XS.iconst hA hx rfl (hb hq d2_8) k_) ?_
    show OFin _ _ _ _ _ _ T1 (mkF m 9 #[.val (.ref ca), .val (.int (0 : Int32))] [(.int (0 : Int32)), (.ref b1), (.ref b1)])
    refine X1.newP (hw _ (List.mem_of_getElem? (i := 0) rfl)) (g := (mkF m 9 #[.val (.ref ca), .val (.int (0 : Int32))] [(.int (0 : Int32)), (.ref b1), (.ref b1)])) rfl d2_9 rfl (by decide) (cap := 0) (by decide) (by decide) (by decide) (by decide) (ad := "[C") (by first | rfl | decide) ?_
    intro T3 h3 k3 b3 gb3 X3 E3 A3 G3
    have B4 := B2.ext E3
    show OFin _ _ _ _ _ _ T3 (mkF m 11 #[.val (.ref ca), .val (.int (0 : Int32))] [(.ref b3), (.ref b1), (.ref b1)])
    have V0 := OArr.new A3
    have hB : n0 ≤ b3 := by rw [gb3]; exact Nat.le_trans Z0 E1.1
    have hs2 : h0.size ≤ b3 := by rw [gb3]; exact E1.1
    have nm : b1 ≠ b3 := by rw [gb3]; exact Nat.ne_of_lt A1.lt
    have nc : ca ≠ b3 := by rw [gb3]; exact Nat.ne_of_lt (FA.ext E1).lt
    have G0 := (FA.ext E1).ext E3
    have VC : OArr Z h3 b3 .char 0 (fun j => .int (f j)) := V0.congr fun j hj => by
      have hj' : j < 0 := hj
      exact absurd hj' (Nat.not_lt_zero j)
    have Kc : Keep h0 h3 [] := (((Keep.refl h0 []).ext E1).ext E3)
    refine X3.callIW B4 (y' := (⟨"java/lang/String", "<init>", "([C)V"⟩ : MethodName)) rfl (hw _ (List.mem_of_getElem? (i := 14) rfl)) (hw _ (List.mem_of_getElem? (i := 15) rfl)) (hw _ (List.mem_of_getElem? (i := 13) rfl)) (hw _ (List.mem_of_getElem? (i := 16) rfl)) (by decide) (a := b1) (argsL := [(.ref b3)]) (rest := [(.ref b1)]) (sm5x l Z a0 hw b1 b3 0 f cs h3 n0 (Fv.ext E3) (Fc.ext E3) (A1.ext E3) hm VC (by decide) hch (Nat.le_trans Z0 Kc.1) (SA.ext (own_kx Kc)) (SH.ext (own_kx Kc)) (SL.ext (own_kx Kc)) (SS.ext (own_kx Kc)) hcs) (g := (mkF m 11 #[.val (.ref ca), .val (.int (0 : Int32))] [(.ref b3), (.ref b1), (.ref b1)])) rfl rfl pd_pA_Cr_V rfl rfl (W := 1) (by show 2 * 0 + _ ≤ _; exact Nat.le_of_eq rfl) d2_11 (by decide) (by decide) (by decide) (by decide) ?_
    intro v5 T5 h5 vm5 X5 B5 G5 Sf5 q5
    obtain ⟨rfl, K5, S5⟩ := q5
    show OFin _ _ _ _ _ _ T5 (mkF m 14 #[.val (.ref ca), .val (.int (0 : Int32))] [(.ref b1)])
    exact X5.retR rfl rfl d2_14 (oW X5 B5 (by decide) (by decide)) (⟨b1, rfl, S5, Kc.trans K5 (allS (Or.inr hs) all0)⟩)
  · show OFin _ _ _ _ _ _ T0 (mkF m 0 #[.val (.ref ca), .val (.int (1 : Int32))] [])
    refine X0.step (fun hA hx hq t_ k_ => XS.iloadN hA hx rfl (hb hq d2_0) rfl k_) ?_
    show OFin _ _ _ _ _ _ T0 (mkF m 1 #[.val (.ref ca), .val (.int (1 : Int32))] [(.int (1 : Int32))])
    refine X0.step (fun hA hx hq t_ k_ => XS.ifYes hA hx rfl (pc0 := 1) (pc' := 15) rfl (hb hq d2_1) rfl ((if0 _ _).trans (feq ((by decide))).2) (by decide) (by decide) k_) ?_
    show OFin _ _ _ _ _ _ T0 (mkF m 15 #[.val (.ref ca), .val (.int (1 : Int32))] [])
    refine X0.step (fun hA hx hq t_ k_ => XS.iloadN hA hx rfl (hb hq d2_15) rfl k_) ?_
    show OFin _ _ _ _ _ _ T0 (mkF m 16 #[.val (.ref ca), .val (.int (1 : Int32))] [(.int (1 : Int32))])
    refine X0.step (fun hA hx hq t_ k_ => XS.iconst hA hx rfl (hb hq d2_16) k_) ?_
    show OFin _ _ _ _ _ _ T0 (mkF m 17 #[.val (.ref ca), .val (.int (1 : Int32))] [(.int (1 : Int32)), (.int (1 : Int32))])
    refine X0.step (fun hA hx hq t_ k_ => XS.icmpNo hA hx rfl (hb hq d2_17) rfl (teq ((rfl : (1 : Int32) = (1 : Int32)))).2 k_) ?_
    show OFin _ _ _ _ _ _ T0 (mkF m 20 #[.val (.ref ca), .val (.int (1 : Int32))] [])
    refine X0.newO (hw _ (List.mem_of_getElem? (i := 11) rfl)) (hw _ (List.mem_of_getElem? (i := 12) rfl)) (hw _ (List.mem_of_getElem? (i := 13) rfl)) (g := (mkF m 20 #[.val (.ref ca), .val (.int (1 : Int32))] [])) rfl d2_20 (by decide) (by decide) ?_
    intro T6 h6 b6 gb6 X6 E6 A6 D6
    have B7 := B0.ext E6
    show OFin _ _ _ _ _ _ T6 (mkF m 23 #[.val (.ref ca), .val (.int (1 : Int32))] [(.ref b6)])
    have Fv : Fld Z h6 b6 "java/lang/String" "value" "[B" .null := D6 (Or.inr (hw _ (List.mem_of_getElem? (i := 39) rfl))) (ty := (.array .byte)) (by decide)
    have Fc : Fld Z h6 b6 "java/lang/String" "coder" "B" (.int (0 : Int32)) := D6 (Or.inr (hw _ (List.mem_of_getElem? (i := 37) rfl))) (ty := .byte) (by decide)
    have hs : h0.size ≤ b6 := Nat.le_of_eq gb6.symm
    have hm : n0 ≤ b6 := Nat.le_trans Z0 hs
    refine X6.step (fun hA hx hq t_ k_ => XS.dup hA hx rfl (hb hq d2_23) rfl rfl k_) ?_
    show OFin _ _ _ _ _ _ T6 (mkF m 24 #[.val (.ref ca), .val (.int (1 : Int32))] [(.ref b6), (.ref b6)])
    refine X6.step (fun hA hx hq t_ k_ => XS.iconst hA hx rfl (hb hq d2_24) k_) ?_
    show OFin _ _ _ _ _ _ T6 (mkF m 25 #[.val (.ref ca), .val (.int (1 : Int32))] [(.int (1 : Int32)), (.ref b6), (.ref b6)])
    refine X6.newP (hw _ (List.mem_of_getElem? (i := 0) rfl)) (g := (mkF m 25 #[.val (.ref ca), .val (.int (1 : Int32))] [(.int (1 : Int32)), (.ref b6), (.ref b6)])) rfl d2_25 rfl (by decide) (cap := 1) (by decide) (by decide) (by decide) (by decide) (ad := "[C") (by first | rfl | decide) ?_
    intro T8 h8 k8 b8 gb8 X8 E8 A8 G8
    have B9 := B7.ext E8
    show OFin _ _ _ _ _ _ T8 (mkF m 27 #[.val (.ref ca), .val (.int (1 : Int32))] [(.ref b8), (.ref b6), (.ref b6)])
    have V0 := OArr.new A8
    have hB : n0 ≤ b8 := by rw [gb8]; exact Nat.le_trans Z0 E6.1
    have hs2 : h0.size ≤ b8 := by rw [gb8]; exact E6.1
    have nm : b6 ≠ b8 := by rw [gb8]; exact Nat.ne_of_lt A6.lt
    have nc : ca ≠ b8 := by rw [gb8]; exact Nat.ne_of_lt (FA.ext E6).lt
    have G0 := (FA.ext E6).ext E8
    refine X8.step (fun hA hx hq t_ k_ => XS.dup hA hx rfl (hb hq d2_27) rfl rfl k_) ?_
    show OFin _ _ _ _ _ _ T8 (mkF m 28 #[.val (.ref ca), .val (.int (1 : Int32))] [(.ref b8), (.ref b8), (.ref b6), (.ref b6)])
    refine X8.step (fun hA hx hq t_ k_ => XS.iconst hA hx rfl (hb hq d2_28) k_) ?_
    show OFin _ _ _ _ _ _ T8 (mkF m 29 #[.val (.ref ca), .val (.int (1 : Int32))] [(.int (0 : Int32)), (.ref b8), (.ref b8), (.ref b6), (.ref b6)])
    refine X8.step (fun hA hx hq t_ k_ => XS.aloadN hA hx rfl (hb hq d2_29) rfl rfl k_) ?_
    show OFin _ _ _ _ _ _ T8 (mkF m 30 #[.val (.ref ca), .val (.int (1 : Int32))] [(.ref ca), (.int (0 : Int32)), (.ref b8), (.ref b8), (.ref b6), (.ref b6)])
    refine X8.step (fun hA hx hq t_ k_ => XS.iconst hA hx rfl (hb hq d2_30) k_) ?_
    show OFin _ _ _ _ _ _ T8 (mkF m 31 #[.val (.ref ca), .val (.int (1 : Int32))] [(.int (0 : Int32)), (.ref ca), (.int (0 : Int32)), (.ref b8), (.ref b8), (.ref b6), (.ref b6)])
    obtain ⟨r0, Rr0, Rs0, Rh0⟩ := id G0
    obtain ⟨q0, Ar0, Sr0, Hr0⟩ := id V0
    refine X8.aload0 Rr0 (v := (.int (f 0))) (by rw [Rs0]; decide) (by exact Rh0 0 (by decide)) (g := (mkF m 31 #[.val (.ref ca), .val (.int (1 : Int32))] [(.int (0 : Int32)), (.ref ca), (.int (0 : Int32)), (.ref b8), (.ref b8), (.ref b6), (.ref b6)])) rfl rfl (Or.inr (Or.inr (Or.inl ⟨rfl, rfl⟩))) d2_31 ?_
    show OFin _ _ _ _ _ _ T8 (mkF m 32 #[.val (.ref ca), .val (.int (1 : Int32))] [(.int (f 0)), (.int (0 : Int32)), (.ref b8), (.ref b8), (.ref b6), (.ref b6)])
    refine X8.stC Ar0 (by rw [Sr0]; decide) (hB) (g := (mkF m 32 #[.val (.ref ca), .val (.int (1 : Int32))] [(.int (f 0)), (.int (0 : Int32)), (.ref b8), (.ref b8), (.ref b6), (.ref b6)])) rfl rfl d2_32 ?_
    intro T10 h10 X10 W10
    have B11 := B9.wr W10 (Safe.arr X8.1.2.1.alike Ar0 (by decide))
    show OFin _ _ _ _ _ _ T10 (mkF m 33 #[.val (.ref ca), .val (.int (1 : Int32))] [(.ref b8), (.ref b6), (.ref b6)])
    rw [own_narC _ (hch 0).1 (hch 0).2] at W10
    have V1 := V0.set W10
    have G1 := G0.other W10 nc
    have VC : OArr Z h10 b8 .char 1 (fun j => .int (f j)) := V1.congr fun j hj => by
      have hj' : j < 1 := hj
      match j, hj' with
      | 0, _ => rfl
    have Kc : Keep h0 h10 [] := ((((Keep.refl h0 []).ext E6).ext E8).wr W10 (Or.inr hs2))
    refine X10.callIW B11 (y' := (⟨"java/lang/String", "<init>", "([C)V"⟩ : MethodName)) rfl (hw _ (List.mem_of_getElem? (i := 14) rfl)) (hw _ (List.mem_of_getElem? (i := 15) rfl)) (hw _ (List.mem_of_getElem? (i := 13) rfl)) (hw _ (List.mem_of_getElem? (i := 16) rfl)) (by decide) (a := b6) (argsL := [(.ref b8)]) (rest := [(.ref b6)]) (sm5x l Z a0 hw b6 b8 1 f cs h10 n0 ((Fv.ext E8).other W10 (Or.inl nm)) ((Fc.ext E8).other W10 (Or.inl nm)) ((A6.ext E8).wr W10) hm VC (by decide) hch (Nat.le_trans Z0 Kc.1) (SA.ext (own_kx Kc)) (SH.ext (own_kx Kc)) (SL.ext (own_kx Kc)) (SS.ext (own_kx Kc)) hcs) (g := (mkF m 33 #[.val (.ref ca), .val (.int (1 : Int32))] [(.ref b8), (.ref b6), (.ref b6)])) rfl rfl pd_pA_Cr_V rfl rfl (W := 1) (by show 2 * 0 + _ ≤ _; exact Nat.le_of_eq rfl) d2_33 (by decide) (by decide) (by decide) (by decide) ?_
    intro v12 T12 h12 vm12 X12 B12 G12 Sf12 q12
    obtain ⟨rfl, K12, S12⟩ := q12
    show OFin _ _ _ _ _ _ T12 (mkF m 36 #[.val (.ref ca), .val (.int (1 : Int32))] [(.ref b6)])
    exact X12.retR rfl rfl d2_36 (oW X12 B12 (by decide) (by decide)) (⟨b6, rfl, S12, Kc.trans K12 (allS (Or.inr hs) all0)⟩)
  · show OFin _ _ _ _ _ _ T0 (mkF m 0 #[.val (.ref ca), .val (.int (2 : Int32))] [])
    refine X0.step (fun hA hx hq t_ k_ => XS.iloadN hA hx rfl (hb hq d2_0) rfl k_) ?_
    show OFin _ _ _ _ _ _ T0 (mkF m 1 #[.val (.ref ca), .val (.int (2 : Int32))] [(.int (2 : Int32))])
    refine X0.step (fun hA hx hq t_ k_ => XS.ifYes hA hx rfl (pc0 := 1) (pc' := 15) rfl (hb hq d2_1) rfl ((if0 _ _).trans (feq ((by decide))).2) (by decide) (by decide) k_) ?_
    show OFin _ _ _ _ _ _ T0 (mkF m 15 #[.val (.ref ca), .val (.int (2 : Int32))] [])
    refine X0.step (fun hA hx hq t_ k_ => XS.iloadN hA hx rfl (hb hq d2_15) rfl k_) ?_
    show OFin _ _ _ _ _ _ T0 (mkF m 16 #[.val (.ref ca), .val (.int (2 : Int32))] [(.int (2 : Int32))])
    refine X0.step (fun hA hx hq t_ k_ => XS.iconst hA hx rfl (hb hq d2_16) k_) ?_
    show OFin _ _ _ _ _ _ T0 (mkF m 17 #[.val (.ref ca), .val (.int (2 : Int32))] [(.int (1 : Int32)), (.int (2 : Int32))])
    refine X0.step (fun hA hx hq t_ k_ => XS.icmpYes hA hx rfl (pc0 := 17) (pc' := 37) rfl (hb hq d2_17) rfl (feq ((by decide))).2 (by decide) (by decide) k_) ?_
    show OFin _ _ _ _ _ _ T0 (mkF m 37 #[.val (.ref ca), .val (.int (2 : Int32))] [])
    refine X0.step (fun hA hx hq t_ k_ => XS.iloadN hA hx rfl (hb hq d2_37) rfl k_) ?_
    show OFin _ _ _ _ _ _ T0 (mkF m 38 #[.val (.ref ca), .val (.int (2 : Int32))] [(.int (2 : Int32))])
    refine X0.step (fun hA hx hq t_ k_ => XS.iconst hA hx rfl (hb hq d2_38) k_) ?_
    show OFin _ _ _ _ _ _ T0 (mkF m 39 #[.val (.ref ca), .val (.int (2 : Int32))] [(.int (2 : Int32)), (.int (2 : Int32))])
    refine X0.step (fun hA hx hq t_ k_ => XS.icmpNo hA hx rfl (hb hq d2_39) rfl (teq ((rfl : (2 : Int32) = (2 : Int32)))).2 k_) ?_
    show OFin _ _ _ _ _ _ T0 (mkF m 42 #[.val (.ref ca), .val (.int (2 : Int32))] [])
    refine X0.newO (hw _ (List.mem_of_getElem? (i := 11) rfl)) (hw _ (List.mem_of_getElem? (i := 12) rfl)) (hw _ (List.mem_of_getElem? (i := 13) rfl)) (g := (mkF m 42 #[.val (.ref ca), .val (.int (2 : Int32))] [])) rfl d2_42 (by decide) (by decide) ?_
    intro T13 h13 b13 gb13 X13 E13 A13 D13
    have B14 := B0.ext E13
    show OFin _ _ _ _ _ _ T13 (mkF m 45 #[.val (.ref ca), .val (.int (2 : Int32))] [(.ref b13)])
    have Fv : Fld Z h13 b13 "java/lang/String" "value" "[B" .null := D13 (Or.inr (hw _ (List.mem_of_getElem? (i := 39) rfl))) (ty := (.array .byte)) (by decide)
    have Fc : Fld Z h13 b13 "java/lang/String" "coder" "B" (.int (0 : Int32)) := D13 (Or.inr (hw _ (List.mem_of_getElem? (i := 37) rfl))) (ty := .byte) (by decide)
    have hs : h0.size ≤ b13 := Nat.le_of_eq gb13.symm
    have hm : n0 ≤ b13 := Nat.le_trans Z0 hs
    refine X13.step (fun hA hx hq t_ k_ => XS.dup hA hx rfl (hb hq d2_45) rfl rfl k_) ?_
    show OFin _ _ _ _ _ _ T13 (mkF m 46 #[.val (.ref ca), .val (.int (2 : Int32))] [(.ref b13), (.ref b13)])
    refine X13.step (fun hA hx hq t_ k_ => XS.iconst hA hx rfl (hb hq d2_46) k_) ?_
    show OFin _ _ _ _ _ _ T13 (mkF m 47 #[.val (.ref ca), .val (.int (2 : Int32))] [(.int (2 : Int32)), (.ref b13), (.ref b13)])
    refine X13.newP (hw _ (List.mem_of_getElem? (i := 0) rfl)) (g := (mkF m 47 #[.val (.ref ca), .val (.int (2 : Int32))] [(.int (2 : Int32)), (.ref b13), (.ref b13)])) rfl d2_47 rfl (by decide) (cap := 2) (by decide) (by decide) (by decide) (by decide) (ad := "[C") (by first | rfl | decide) ?_
    intro T15 h15 k15 b15 gb15 X15 E15 A15 G15
    have B16 := B14.ext E15
    show OFin _ _ _ _ _ _ T15 (mkF m 49 #[.val (.ref ca), .val (.int (2 : Int32))] [(.ref b15), (.ref b13), (.ref b13)])
    have V0 := OArr.new A15
    have hB : n0 ≤ b15 := by rw [gb15]; exact Nat.le_trans Z0 E13.1
    have hs2 : h0.size ≤ b15 := by rw [gb15]; exact E13.1
    have nm : b13 ≠ b15 := by rw [gb15]; exact Nat.ne_of_lt A13.lt
    have nc : ca ≠ b15 := by rw [gb15]; exact Nat.ne_of_lt (FA.ext E13).lt
    have G0 := (FA.ext E13).ext E15
    refine X15.step (fun hA hx hq t_ k_ => XS.dup hA hx rfl (hb hq d2_49) rfl rfl k_) ?_
    show OFin _ _ _ _ _ _ T15 (mkF m 50 #[.val (.ref ca), .val (.int (2 : Int32))] [(.ref b15), (.ref b15), (.ref b13), (.ref b13)])
    refine X15.step (fun hA hx hq t_ k_ => XS.iconst hA hx rfl (hb hq d2_50) k_) ?_
    show OFin _ _ _ _ _ _ T15 (mkF m 51 #[.val (.ref ca), .val (.int (2 : Int32))] [(.int (0 : Int32)), (.ref b15), (.ref b15), (.ref b13), (.ref b13)])
    refine X15.step (fun hA hx hq t_ k_ => XS.aloadN hA hx rfl (hb hq d2_51) rfl rfl k_) ?_
    show OFin _ _ _ _ _ _ T15 (mkF m 52 #[.val (.ref ca), .val (.int (2 : Int32))] [(.ref ca), (.int (0 : Int32)), (.ref b15), (.ref b15), (.ref b13), (.ref b13)])
    refine X15.step (fun hA hx hq t_ k_ => XS.iconst hA hx rfl (hb hq d2_52) k_) ?_
    show OFin _ _ _ _ _ _ T15 (mkF m 53 #[.val (.ref ca), .val (.int (2 : Int32))] [(.int (0 : Int32)), (.ref ca), (.int (0 : Int32)), (.ref b15), (.ref b15), (.ref b13), (.ref b13)])
    obtain ⟨r0, Rr0, Rs0, Rh0⟩ := id G0
    obtain ⟨q0, Ar0, Sr0, Hr0⟩ := id V0
    refine X15.aload0 Rr0 (v := (.int (f 0))) (by rw [Rs0]; decide) (by exact Rh0 0 (by decide)) (g := (mkF m 53 #[.val (.ref ca), .val (.int (2 : Int32))] [(.int (0 : Int32)), (.ref ca), (.int (0 : Int32)), (.ref b15), (.ref b15), (.ref b13), (.ref b13)])) rfl rfl (Or.inr (Or.inr (Or.inl ⟨rfl, rfl⟩))) d2_53 ?_
    show OFin _ _ _ _ _ _ T15 (mkF m 54 #[.val (.ref ca), .val (.int (2 : Int32))] [(.int (f 0)), (.int (0 : Int32)), (.ref b15), (.ref b15), (.ref b13), (.ref b13)])
    refine X15.stC Ar0 (by rw [Sr0]; decide) (hB) (g := (mkF m 54 #[.val (.ref ca), .val (.int (2 : Int32))] [(.int (f 0)), (.int (0 : Int32)), (.ref b15), (.ref b15), (.ref b13), (.ref b13)])) rfl rfl d2_54 ?_
    intro T17 h17 X17 W17
    have B18 := B16.wr W17 (Safe.arr X15.1.2.1.alike Ar0 (by decide))
    show OFin _ _ _ _ _ _ T17 (mkF m 55 #[.val (.ref ca), .val (.int (2 : Int32))] [(.ref b15), (.ref b13), (.ref b13)])
    rw [own_narC _ (hch 0).1 (hch 0).2] at W17
    have V1 := V0.set W17
    have G1 := G0.other W17 nc
    refine X17.step (fun hA hx hq t_ k_ => XS.dup hA hx rfl (hb hq d2_55) rfl rfl k_) ?_
    show OFin _ _ _ _ _ _ T17 (mkF m 56 #[.val (.ref ca), .val (.int (2 : Int32))] [(.ref b15), (.ref b15), (.ref b13), (.ref b13)])
    refine X17.step (fun hA hx hq t_ k_ => XS.iconst hA hx rfl (hb hq d2_56) k_) ?_
    show OFin _ _ _ _ _ _ T17 (mkF m 57 #[.val (.ref ca), .val (.int (2 : Int32))] [(.int (1 : Int32)), (.ref b15), (.ref b15), (.ref b13), (.ref b13)])
    refine X17.step (fun hA hx hq t_ k_ => XS.aloadN hA hx rfl (hb hq d2_57) rfl rfl k_) ?_
    show OFin _ _ _ _ _ _ T17 (mkF m 58 #[.val (.ref ca), .val (.int (2 : Int32))] [(.ref ca), (.int (1 : Int32)), (.ref b15), (.ref b15), (.ref b13), (.ref b13)])
    refine X17.step (fun hA hx hq t_ k_ => XS.iconst hA hx rfl (hb hq d2_58) k_) ?_
    show OFin _ _ _ _ _ _ T17 (mkF m 59 #[.val (.ref ca), .val (.int (2 : Int32))] [(.int (1 : Int32)), (.ref ca), (.int (1 : Int32)), (.ref b15), (.ref b15), (.ref b13), (.ref b13)])
    obtain ⟨r1, Rr1, Rs1, Rh1⟩ := id G1
    obtain ⟨q1, Ar1, Sr1, Hr1⟩ := id V1
    refine X17.aload0 Rr1 (v := (.int (f 1))) (by rw [Rs1]; decide) (by exact Rh1 1 (by decide)) (g := (mkF m 59 #[.val (.ref ca), .val (.int (2 : Int32))] [(.int (1 : Int32)), (.ref ca), (.int (1 : Int32)), (.ref b15), (.ref b15), (.ref b13), (.ref b13)])) rfl rfl (Or.inr (Or.inr (Or.inl ⟨rfl, rfl⟩))) d2_59 ?_
    show OFin _ _ _ _ _ _ T17 (mkF m 60 #[.val (.ref ca), .val (.int (2 : Int32))] [(.int (f 1)), (.int (1 : Int32)), (.ref b15), (.ref b15), (.ref b13), (.ref b13)])
    refine X17.stC Ar1 (by rw [Sr1]; decide) (hB) (g := (mkF m 60 #[.val (.ref ca), .val (.int (2 : Int32))] [(.int (f 1)), (.int (1 : Int32)), (.ref b15), (.ref b15), (.ref b13), (.ref b13)])) rfl rfl d2_60 ?_
    intro T19 h19 X19 W19
    have B20 := B18.wr W19 (Safe.arr X17.1.2.1.alike Ar1 (by decide))
    show OFin _ _ _ _ _ _ T19 (mkF m 61 #[.val (.ref ca), .val (.int (2 : Int32))] [(.ref b15), (.ref b13), (.ref b13)])
    rw [own_narC _ (hch 1).1 (hch 1).2] at W19
    have V2 := V1.set W19
    have G2 := G1.other W19 nc
    have VC : OArr Z h19 b15 .char 2 (fun j => .int (f j)) := V2.congr fun j hj => by
      have hj' : j < 2 := hj
      match j, hj' with
      | 0, _ => rfl
      | 1, _ => rfl
    have Kc : Keep h0 h19 [] := (((((Keep.refl h0 []).ext E13).ext E15).wr W17 (Or.inr hs2)).wr W19 (Or.inr hs2))
    refine X19.callIW B20 (y' := (⟨"java/lang/String", "<init>", "([C)V"⟩ : MethodName)) rfl (hw _ (List.mem_of_getElem? (i := 14) rfl)) (hw _ (List.mem_of_getElem? (i := 15) rfl)) (hw _ (List.mem_of_getElem? (i := 13) rfl)) (hw _ (List.mem_of_getElem? (i := 16) rfl)) (by decide) (a := b13) (argsL := [(.ref b15)]) (rest := [(.ref b13)]) (sm5x l Z a0 hw b13 b15 2 f cs h19 n0 (((Fv.ext E15).other W17 (Or.inl nm)).other W19 (Or.inl nm)) (((Fc.ext E15).other W17 (Or.inl nm)).other W19 (Or.inl nm)) (((A13.ext E15).wr W17).wr W19) hm VC (by decide) hch (Nat.le_trans Z0 Kc.1) (SA.ext (own_kx Kc)) (SH.ext (own_kx Kc)) (SL.ext (own_kx Kc)) (SS.ext (own_kx Kc)) hcs) (g := (mkF m 61 #[.val (.ref ca), .val (.int (2 : Int32))] [(.ref b15), (.ref b13), (.ref b13)])) rfl rfl pd_pA_Cr_V rfl rfl (W := 1) (by show 2 * 0 + _ ≤ _; exact Nat.le_of_eq rfl) d2_61 (by decide) (by decide) (by decide) (by decide) ?_
    intro v21 T21 h21 vm21 X21 B21 G21 Sf21 q21
    obtain ⟨rfl, K21, S21⟩ := q21
    show OFin _ _ _ _ _ _ T21 (mkF m 64 #[.val (.ref ca), .val (.int (2 : Int32))] [(.ref b13)])
    exact X21.retR rfl rfl d2_64 (oW X21 B21 (by decide) (by decide)) (⟨b13, rfl, S21, Kc.trans K21 (allS (Or.inr hs) all0)⟩)
  · show OFin _ _ _ _ _ _ T0 (mkF m 0 #[.val (.ref ca), .val (.int (3 : Int32))] [])
    refine X0.step (fun hA hx hq t_ k_ => XS.iloadN hA hx rfl (hb hq d2_0) rfl k_) ?_
    show OFin _ _ _ _ _ _ T0 (mkF m 1 #[.val (.ref ca), .val (.int (3 : Int32))] [(.int (3 : Int32))])
    refine X0.step (fun hA hx hq t_ k_ => XS.ifYes hA hx rfl (pc0 := 1) (pc' := 15) rfl (hb hq d2_1) rfl ((if0 _ _).trans (feq ((by decide))).2) (by decide) (by decide) k_) ?_
    show OFin _ _ _ _ _ _ T0 (mkF m 15 #[.val (.ref ca), .val (.int (3 : Int32))] [])
    refine X0.step (fun hA hx hq t_ k_ => XS.iloadN hA hx rfl (hb hq d2_15) rfl k_) ?_
    show OFin _ _ _ _ _ _ T0 (mkF m 16 #[.val (.ref ca), .val (.int (3 : Int32))] [(.int (3 : Int32))])
    refine X0.step (fun hA hx hq t_ k_ => XS.iconst hA hx rfl (hb hq d2_16) k_) ?_
    show OFin _ _ _ _ _ _ T0 (mkF m 17 #[.val (.ref ca), .val (.int (3 : Int32))] [(.int (1 : Int32)), (.int (3 : Int32))])
    refine X0.step (fun hA hx hq t_ k_ => XS.icmpYes hA hx rfl (pc0 := 17) (pc' := 37) rfl (hb hq d2_17) rfl (feq ((by decide))).2 (by decide) (by decide) k_) ?_
    show OFin _ _ _ _ _ _ T0 (mkF m 37 #[.val (.ref ca), .val (.int (3 : Int32))] [])
    refine X0.step (fun hA hx hq t_ k_ => XS.iloadN hA hx rfl (hb hq d2_37) rfl k_) ?_
    show OFin _ _ _ _ _ _ T0 (mkF m 38 #[.val (.ref ca), .val (.int (3 : Int32))] [(.int (3 : Int32))])
    refine X0.step (fun hA hx hq t_ k_ => XS.iconst hA hx rfl (hb hq d2_38) k_) ?_
    show OFin _ _ _ _ _ _ T0 (mkF m 39 #[.val (.ref ca), .val (.int (3 : Int32))] [(.int (2 : Int32)), (.int (3 : Int32))])
    refine X0.step (fun hA hx hq t_ k_ => XS.icmpYes hA hx rfl (pc0 := 39) (pc' := 65) rfl (hb hq d2_39) rfl (feq ((by decide))).2 (by decide) (by decide) k_) ?_
    show OFin _ _ _ _ _ _ T0 (mkF m 65 #[.val (.ref ca), .val (.int (3 : Int32))] [])
    refine X0.step (fun hA hx hq t_ k_ => XS.iloadN hA hx rfl (hb hq d2_65) rfl k_) ?_
    show OFin _ _ _ _ _ _ T0 (mkF m 66 #[.val (.ref ca), .val (.int (3 : Int32))] [(.int (3 : Int32))])
    refine X0.step (fun hA hx hq t_ k_ => XS.iconst hA hx rfl (hb hq d2_66) k_) ?_
    show OFin _ _ _ _ _ _ T0 (mkF m 67 #[.val (.ref ca), .val (.int (3 : Int32))] [(.int (3 : Int32)), (.int (3 : Int32))])
    refine X0.step (fun hA hx hq t_ k_ => XS.icmpNo hA hx rfl (hb hq d2_67) rfl (teq ((rfl : (3 : Int32) = (3 : Int32)))).2 k_) ?_
    show OFin _ _ _ _ _ _ T0 (mkF m 70 #[.val (.ref ca), .val (.int (3 : Int32))] [])
    refine X0.newO (hw _ (List.mem_of_getElem? (i := 11) rfl)) (hw _ (List.mem_of_getElem? (i := 12) rfl)) (hw _ (List.mem_of_getElem? (i := 13) rfl)) (g := (mkF m 70 #[.val (.ref ca), .val (.int (3 : Int32))] [])) rfl d2_70 (by decide) (by decide) ?_
    intro T22 h22 b22 gb22 X22 E22 A22 D22
    have B23 := B0.ext E22
    show OFin _ _ _ _ _ _ T22 (mkF m 73 #[.val (.ref ca), .val (.int (3 : Int32))] [(.ref b22)])
    have Fv : Fld Z h22 b22 "java/lang/String" "value" "[B" .null := D22 (Or.inr (hw _ (List.mem_of_getElem? (i := 39) rfl))) (ty := (.array .byte)) (by decide)
    have Fc : Fld Z h22 b22 "java/lang/String" "coder" "B" (.int (0 : Int32)) := D22 (Or.inr (hw _ (List.mem_of_getElem? (i := 37) rfl))) (ty := .byte) (by decide)
    have hs : h0.size ≤ b22 := Nat.le_of_eq gb22.symm
    have hm : n0 ≤ b22 := Nat.le_trans Z0 hs
    refine X22.step (fun hA hx hq t_ k_ => XS.dup hA hx rfl (hb hq d2_73) rfl rfl k_) ?_
    show OFin _ _ _ _ _ _ T22 (mkF m 74 #[.val (.ref ca), .val (.int (3 : Int32))] [(.ref b22), (.ref b22)])
    refine X22.step (fun hA hx hq t_ k_ => XS.iconst hA hx rfl (hb hq d2_74) k_) ?_
    show OFin _ _ _ _ _ _ T22 (mkF m 75 #[.val (.ref ca), .val (.int (3 : Int32))] [(.int (3 : Int32)), (.ref b22), (.ref b22)])
    refine X22.newP (hw _ (List.mem_of_getElem? (i := 0) rfl)) (g := (mkF m 75 #[.val (.ref ca), .val (.int (3 : Int32))] [(.int (3 : Int32)), (.ref b22), (.ref b22)])) rfl d2_75 rfl (by decide) (cap := 3) (by decide) (by decide) (by decide) (by decide) (ad := "[C") (by first | rfl | decide) ?_
    intro T24 h24 k24 b24 gb24 X24 E24 A24 G24
    have B25 := B23.ext E24
    show OFin _ _ _ _ _ _ T24 (mkF m 77 #[.val (.ref ca), .val (.int (3 : Int32))] [(.ref b24), (.ref b22), (.ref b22)])
    have V0 := OArr.new A24
    have hB : n0 ≤ b24 := by rw [gb24]; exact Nat.le_trans Z0 E22.1
    have hs2 : h0.size ≤ b24 := by rw [gb24]; exact E22.1
    have nm : b22 ≠ b24 := by rw [gb24]; exact Nat.ne_of_lt A22.lt
    have nc : ca ≠ b24 := by rw [gb24]; exact Nat.ne_of_lt (FA.ext E22).lt
    have G0 := (FA.ext E22).ext E24
    refine X24.step (fun hA hx hq t_ k_ => XS.dup hA hx rfl (hb hq d2_77) rfl rfl k_) ?_
    show OFin _ _ _ _ _ _ T24 (mkF m 78 #[.val (.ref ca), .val (.int (3 : Int32))] [(.ref b24), (.ref b24), (.ref b22), (.ref b22)])
    refine X24.step (fun hA hx hq t_ k_ => XS.iconst hA hx rfl (hb hq d2_78) k_) ?_
    show OFin _ _ _ _ _ _ T24 (mkF m 79 #[.val (.ref ca), .val (.int (3 : Int32))] [(.int (0 : Int32)), (.ref b24), (.ref b24), (.ref b22), (.ref b22)])
    refine X24.step (fun hA hx hq t_ k_ => XS.aloadN hA hx rfl (hb hq d2_79) rfl rfl k_) ?_
    show OFin _ _ _ _ _ _ T24 (mkF m 80 #[.val (.ref ca), .val (.int (3 : Int32))] [(.ref ca), (.int (0 : Int32)), (.ref b24), (.ref b24), (.ref b22), (.ref b22)])
    refine X24.step (fun hA hx hq t_ k_ => XS.iconst hA hx rfl (hb hq d2_80) k_) ?_
    show OFin _ _ _ _ _ _ T24 (mkF m 81 #[.val (.ref ca), .val (.int (3 : Int32))] [(.int (0 : Int32)), (.ref ca), (.int (0 : Int32)), (.ref b24), (.ref b24), (.ref b22), (.ref b22)])
    obtain ⟨r0, Rr0, Rs0, Rh0⟩ := id G0
    obtain ⟨q0, Ar0, Sr0, Hr0⟩ := id V0
    refine X24.aload0 Rr0 (v := (.int (f 0))) (by rw [Rs0]; decide) (by exact Rh0 0 (by decide)) (g := (mkF m 81 #[.val (.ref ca), .val (.int (3 : Int32))] [(.int (0 : Int32)), (.ref ca), (.int (0 : Int32)), (.ref b24), (.ref b24), (.ref b22), (.ref b22)])) rfl rfl (Or.inr (Or.inr (Or.inl ⟨rfl, rfl⟩))) d2_81 ?_
    show OFin _ _ _ _ _ _ T24 (mkF m 82 #[.val (.ref ca), .val (.int (3 : Int32))] [(.int (f 0)), (.int (0 : Int32)), (.ref b24), (.ref b24), (.ref b22), (.ref b22)])
    refine X24.stC Ar0 (by rw [Sr0]; decide) (hB) (g := (mkF m 82 #[.val (.ref ca), .val (.int (3 : Int32))] [(.int (f 0)), (.int (0 : Int32)), (.ref b24), (.ref b24), (.ref b22), (.ref b22)])) rfl rfl d2_82 ?_
    intro T26 h26 X26 W26
    have B27 := B25.wr W26 (Safe.arr X24.1.2.1.alike Ar0 (by decide))
    show OFin _ _ _ _ _ _ T26 (mkF m 83 #[.val (.ref ca), .val (.int (3 : Int32))] [(.ref b24), (.ref b22), (.ref b22)])
    rw [own_narC _ (hch 0).1 (hch 0).2] at W26
    have V1 := V0.set W26
    have G1 := G0.other W26 nc
    refine X26.step (fun hA hx hq t_ k_ => XS.dup hA hx rfl (hb hq d2_83) rfl rfl k_) ?_
    show OFin _ _ _ _ _ _ T26 (mkF m 84 #[.val (.ref ca), .val (.int (3 : Int32))] [(.ref b24), (.ref b24), (.ref b22), (.ref b22)])
    refine X26.step (fun hA hx hq t_ k_ => XS.iconst hA hx rfl (hb hq d2_84) k_) ?_
    show OFin _ _ _ _ _ _ T26 (mkF m 85 #[.val (.ref ca), .val (.int (3 : Int32))] [(.int (1 : Int32)), (.ref b24), (.ref b24), (.ref b22), (.ref b22)])
    refine X26.step (fun hA hx hq t_ k_ => XS.aloadN hA hx rfl (hb hq d2_85) rfl rfl k_) ?_
    show OFin _ _ _ _ _ _ T26 (mkF m 86 #[.val (.ref ca), .val (.int (3 : Int32))] [(.ref ca), (.int (1 : Int32)), (.ref b24), (.ref b24), (.ref b22), (.ref b22)])
    refine X26.step (fun hA hx hq t_ k_ => XS.iconst hA hx rfl (hb hq d2_86) k_) ?_
    show OFin _ _ _ _ _ _ T26 (mkF m 87 #[.val (.ref ca), .val (.int (3 : Int32))] [(.int (1 : Int32)), (.ref ca), (.int (1 : Int32)), (.ref b24), (.ref b24), (.ref b22), (.ref b22)])
    obtain ⟨r1, Rr1, Rs1, Rh1⟩ := id G1
    obtain ⟨q1, Ar1, Sr1, Hr1⟩ := id V1
    refine X26.aload0 Rr1 (v := (.int (f 1))) (by rw [Rs1]; decide) (by exact Rh1 1 (by decide)) (g := (mkF m 87 #[.val (.ref ca), .val (.int (3 : Int32))] [(.int (1 : Int32)), (.ref ca), (.int (1 : Int32)), (.ref b24), (.ref b24), (.ref b22), (.ref b22)])) rfl rfl (Or.inr (Or.inr (Or.inl ⟨rfl, rfl⟩))) d2_87 ?_
    show OFin _ _ _ _ _ _ T26 (mkF m 88 #[.val (.ref ca), .val (.int (3 : Int32))] [(.int (f 1)), (.int (1 : Int32)), (.ref b24), (.ref b24), (.ref b22), (.ref b22)])
    refine X26.stC Ar1 (by rw [Sr1]; decide) (hB) (g := (mkF m 88 #[.val (.ref ca), .val (.int (3 : Int32))] [(.int (f 1)), (.int (1 : Int32)), (.ref b24), (.ref b24), (.ref b22), (.ref b22)])) rfl rfl d2_88 ?_
    intro T28 h28 X28 W28
    have B29 := B27.wr W28 (Safe.arr X26.1.2.1.alike Ar1 (by decide))
    show OFin _ _ _ _ _ _ T28 (mkF m 89 #[.val (.ref ca), .val (.int (3 : Int32))] [(.ref b24), (.ref b22), (.ref b22)])
    rw [own_narC _ (hch 1).1 (hch 1).2] at W28
    have V2 := V1.set W28
    have G2 := G1.other W28 nc
    refine X28.step (fun hA hx hq t_ k_ => XS.dup hA hx rfl (hb hq d2_89) rfl rfl k_) ?_
    show OFin _ _ _ _ _ _ T28 (mkF m 90 #[.val (.ref ca), .val (.int (3 : Int32))] [(.ref b24), (.ref b24), (.ref b22), (.ref b22)])
    refine X28.step (fun hA hx hq t_ k_ => XS.iconst hA hx rfl (hb hq d2_90) k_) ?_
    show OFin _ _ _ _ _ _ T28 (mkF m 91 #[.val (.ref ca), .val (.int (3 : Int32))] [(.int (2 : Int32)), (.ref b24), (.ref b24), (.ref b22), (.ref b22)])
    refine X28.step (fun hA hx hq t_ k_ => XS.aloadN hA hx rfl (hb hq d2_91) rfl rfl k_) ?_
    show OFin _ _ _ _ _ _ T28 (mkF m 92 #[.val (.ref ca), .val (.int (3 : Int32))] [(.ref ca), (.int (2 : Int32)), (.ref b24), (.ref b24), (.ref b22), (.ref b22)])
    refine X28.step (fun hA hx hq t_ k_ => XS.iconst hA hx rfl (hb hq d2_92) k_) ?_
    show OFin _ _ _ _ _ _ T28 (mkF m 93 #[.val (.ref ca), .val (.int (3 : Int32))] [(.int (2 : Int32)), (.ref ca), (.int (2 : Int32)), (.ref b24), (.ref b24), (.ref b22), (.ref b22)])
    obtain ⟨r2, Rr2, Rs2, Rh2⟩ := id G2
    obtain ⟨q2, Ar2, Sr2, Hr2⟩ := id V2
    refine X28.aload0 Rr2 (v := (.int (f 2))) (by rw [Rs2]; decide) (by exact Rh2 2 (by decide)) (g := (mkF m 93 #[.val (.ref ca), .val (.int (3 : Int32))] [(.int (2 : Int32)), (.ref ca), (.int (2 : Int32)), (.ref b24), (.ref b24), (.ref b22), (.ref b22)])) rfl rfl (Or.inr (Or.inr (Or.inl ⟨rfl, rfl⟩))) d2_93 ?_
    show OFin _ _ _ _ _ _ T28 (mkF m 94 #[.val (.ref ca), .val (.int (3 : Int32))] [(.int (f 2)), (.int (2 : Int32)), (.ref b24), (.ref b24), (.ref b22), (.ref b22)])
    refine X28.stC Ar2 (by rw [Sr2]; decide) (hB) (g := (mkF m 94 #[.val (.ref ca), .val (.int (3 : Int32))] [(.int (f 2)), (.int (2 : Int32)), (.ref b24), (.ref b24), (.ref b22), (.ref b22)])) rfl rfl d2_94 ?_
    intro T30 h30 X30 W30
    have B31 := B29.wr W30 (Safe.arr X28.1.2.1.alike Ar2 (by decide))
    show OFin _ _ _ _ _ _ T30 (mkF m 95 #[.val (.ref ca), .val (.int (3 : Int32))] [(.ref b24), (.ref b22), (.ref b22)])
    rw [own_narC _ (hch 2).1 (hch 2).2] at W30
    have V3 := V2.set W30
    have G3 := G2.other W30 nc
    have VC : OArr Z h30 b24 .char 3 (fun j => .int (f j)) := V3.congr fun j hj => by
      have hj' : j < 3 := hj
      match j, hj' with
      | 0, _ => rfl
      | 1, _ => rfl
      | 2, _ => rfl
    have Kc : Keep h0 h30 [] := ((((((Keep.refl h0 []).ext E22).ext E24).wr W26 (Or.inr hs2)).wr W28 (Or.inr hs2)).wr W30 (Or.inr hs2))
    refine X30.callIW B31 (y' := (⟨"java/lang/String", "<init>", "([C)V"⟩ : MethodName)) rfl (hw _ (List.mem_of_getElem? (i := 14) rfl)) (hw _ (List.mem_of_getElem? (i := 15) rfl)) (hw _ (List.mem_of_getElem? (i := 13) rfl)) (hw _ (List.mem_of_getElem? (i := 16) rfl)) (by decide) (a := b22) (argsL := [(.ref b24)]) (rest := [(.ref b22)]) (sm5x l Z a0 hw b22 b24 3 f cs h30 n0 ((((Fv.ext E24).other W26 (Or.inl nm)).other W28 (Or.inl nm)).other W30 (Or.inl nm)) ((((Fc.ext E24).other W26 (Or.inl nm)).other W28 (Or.inl nm)).other W30 (Or.inl nm)) ((((A22.ext E24).wr W26).wr W28).wr W30) hm VC (by decide) hch (Nat.le_trans Z0 Kc.1) (SA.ext (own_kx Kc)) (SH.ext (own_kx Kc)) (SL.ext (own_kx Kc)) (SS.ext (own_kx Kc)) hcs) (g := (mkF m 95 #[.val (.ref ca), .val (.int (3 : Int32))] [(.ref b24), (.ref b22), (.ref b22)])) rfl rfl pd_pA_Cr_V rfl rfl (W := 1) (by show 2 * 0 + _ ≤ _; exact Nat.le_of_eq rfl) d2_95 (by decide) (by decide) (by decide) (by decide) ?_
    intro v32 T32 h32 vm32 X32 B32 G32 Sf32 q32
    obtain ⟨rfl, K32, S32⟩ := q32
    show OFin _ _ _ _ _ _ T32 (mkF m 98 #[.val (.ref ca), .val (.int (3 : Int32))] [(.ref b22)])
    exact X32.retR rfl rfl d2_98 (oW X32 B32 (by decide) (by decide)) (⟨b22, rfl, S32, Kc.trans K32 (allS (Or.inr hs) all0)⟩)
  · show OFin _ _ _ _ _ _ T0 (mkF m 0 #[.val (.ref ca), .val (.int (4 : Int32))] [])
    refine X0.step (fun hA hx hq t_ k_ => XS.iloadN hA hx rfl (hb hq d2_0) rfl k_) ?_
    show OFin _ _ _ _ _ _ T0 (mkF m 1 #[.val (.ref ca), .val (.int (4 : Int32))] [(.int (4 : Int32))])
    refine X0.step (fun hA hx hq t_ k_ => XS.ifYes hA hx rfl (pc0 := 1) (pc' := 15) rfl (hb hq d2_1) rfl ((if0 _ _).trans (feq ((by decide))).2) (by decide) (by decide) k_) ?_
    show OFin _ _ _ _ _ _ T0 (mkF m 15 #[.val (.ref ca), .val (.int (4 : Int32))] [])
    refine X0.step (fun hA hx hq t_ k_ => XS.iloadN hA hx rfl (hb hq d2_15) rfl k_) ?_
    show OFin _ _ _ _ _ _ T0 (mkF m 16 #[.val (.ref ca), .val (.int (4 : Int32))] [(.int (4 : Int32))])
    refine X0.step (fun hA hx hq t_ k_ => XS.iconst hA hx rfl (hb hq d2_16) k_) ?_
    show OFin _ _ _ _ _ _ T0 (mkF m 17 #[.val (.ref ca), .val (.int (4 : Int32))] [(.int (1 : Int32)), (.int (4 : Int32))])
    refine X0.step (fun hA hx hq t_ k_ => XS.icmpYes hA hx rfl (pc0 := 17) (pc' := 37) rfl (hb hq d2_17) rfl (feq ((by decide))).2 (by decide) (by decide) k_) ?_
    show OFin _ _ _ _ _ _ T0 (mkF m 37 #[.val (.ref ca), .val (.int (4 : Int32))] [])
    refine X0.step (fun hA hx hq t_ k_ => XS.iloadN hA hx rfl (hb hq d2_37) rfl k_) ?_
    show OFin _ _ _ _ _ _ T0 (mkF m 38 #[.val (.ref ca), .val (.int (4 : Int32))] [(.int (4 : Int32))])
    refine X0.step (fun hA hx hq t_ k_ => XS.iconst hA hx rfl (hb hq d2_38) k_) ?_
    show OFin _ _ _ _ _ _ T0 (mkF m 39 #[.val (.ref ca), .val (.int (4 : Int32))] [(.int (2 : Int32)), (.int (4 : Int32))])
    refine X0.step (fun hA hx hq t_ k_ => XS.icmpYes hA hx rfl (pc0 := 39) (pc' := 65) rfl (hb hq d2_39) rfl (feq ((by decide))).2 (by decide) (by decide) k_) ?_
    show OFin _ _ _ _ _ _ T0 (mkF m 65 #[.val (.ref ca), .val (.int (4 : Int32))] [])
    refine X0.step (fun hA hx hq t_ k_ => XS.iloadN hA hx rfl (hb hq d2_65) rfl k_) ?_
    show OFin _ _ _ _ _ _ T0 (mkF m 66 #[.val (.ref ca), .val (.int (4 : Int32))] [(.int (4 : Int32))])
    refine X0.step (fun hA hx hq t_ k_ => XS.iconst hA hx rfl (hb hq d2_66) k_) ?_
    show OFin _ _ _ _ _ _ T0 (mkF m 67 #[.val (.ref ca), .val (.int (4 : Int32))] [(.int (3 : Int32)), (.int (4 : Int32))])
    refine X0.step (fun hA hx hq t_ k_ => XS.icmpYes hA hx rfl (pc0 := 67) (pc' := 99) rfl (hb hq d2_67) rfl (feq ((by decide))).2 (by decide) (by decide) k_) ?_
    show OFin _ _ _ _ _ _ T0 (mkF m 99 #[.val (.ref ca), .val (.int (4 : Int32))] [])
    refine X0.step (fun hA hx hq t_ k_ => XS.iloadN hA hx rfl (hb hq d2_99) rfl k_) ?_
    show OFin _ _ _ _ _ _ T0 (mkF m 100 #[.val (.ref ca), .val (.int (4 : Int32))] [(.int (4 : Int32))])
    refine X0.step (fun hA hx hq t_ k_ => XS.iconst hA hx rfl (hb hq d2_100) k_) ?_
    show OFin _ _ _ _ _ _ T0 (mkF m 101 #[.val (.ref ca), .val (.int (4 : Int32))] [(.int (4 : Int32)), (.int (4 : Int32))])
    refine X0.step (fun hA hx hq t_ k_ => XS.icmpNo hA hx rfl (hb hq d2_101) rfl (teq ((rfl : (4 : Int32) = (4 : Int32)))).2 k_) ?_
    show OFin _ _ _ _ _ _ T0 (mkF m 104 #[.val (.ref ca), .val (.int (4 : Int32))] [])
    refine X0.newO (hw _ (List.mem_of_getElem? (i := 11) rfl)) (hw _ (List.mem_of_getElem? (i := 12) rfl)) (hw _ (List.mem_of_getElem? (i := 13) rfl)) (g := (mkF m 104 #[.val (.ref ca), .val (.int (4 : Int32))] [])) rfl d2_104 (by decide) (by decide) ?_
    intro T33 h33 b33 gb33 X33 E33 A33 D33
    have B34 := B0.ext E33
    show OFin _ _ _ _ _ _ T33 (mkF m 107 #[.val (.ref ca), .val (.int (4 : Int32))] [(.ref b33)])
    have Fv : Fld Z h33 b33 "java/lang/String" "value" "[B" .null := D33 (Or.inr (hw _ (List.mem_of_getElem? (i := 39) rfl))) (ty := (.array .byte)) (by decide)
    have Fc : Fld Z h33 b33 "java/lang/String" "coder" "B" (.int (0 : Int32)) := D33 (Or.inr (hw _ (List.mem_of_getElem? (i := 37) rfl))) (ty := .byte) (by decide)
    have hs : h0.size ≤ b33 := Nat.le_of_eq gb33.symm
    have hm : n0 ≤ b33 := Nat.le_trans Z0 hs
    refine X33.step (fun hA hx hq t_ k_ => XS.dup hA hx rfl (hb hq d2_107) rfl rfl k_) ?_
    show OFin _ _ _ _ _ _ T33 (mkF m 108 #[.val (.ref ca), .val (.int (4 : Int32))] [(.ref b33), (.ref b33)])
    refine X33.step (fun hA hx hq t_ k_ => XS.iconst hA hx rfl (hb hq d2_108) k_) ?_
    show OFin _ _ _ _ _ _ T33 (mkF m 109 #[.val (.ref ca), .val (.int (4 : Int32))] [(.int (4 : Int32)), (.ref b33), (.ref b33)])
    refine X33.newP (hw _ (List.mem_of_getElem? (i := 0) rfl)) (g := (mkF m 109 #[.val (.ref ca), .val (.int (4 : Int32))] [(.int (4 : Int32)), (.ref b33), (.ref b33)])) rfl d2_109 rfl (by decide) (cap := 4) (by decide) (by decide) (by decide) (by decide) (ad := "[C") (by first | rfl | decide) ?_
    intro T35 h35 k35 b35 gb35 X35 E35 A35 G35
    have B36 := B34.ext E35
    show OFin _ _ _ _ _ _ T35 (mkF m 111 #[.val (.ref ca), .val (.int (4 : Int32))] [(.ref b35), (.ref b33), (.ref b33)])
    have V0 := OArr.new A35
    have hB : n0 ≤ b35 := by rw [gb35]; exact Nat.le_trans Z0 E33.1
    have hs2 : h0.size ≤ b35 := by rw [gb35]; exact E33.1
    have nm : b33 ≠ b35 := by rw [gb35]; exact Nat.ne_of_lt A33.lt
    have nc : ca ≠ b35 := by rw [gb35]; exact Nat.ne_of_lt (FA.ext E33).lt
    have G0 := (FA.ext E33).ext E35
    refine X35.step (fun hA hx hq t_ k_ => XS.dup hA hx rfl (hb hq d2_111) rfl rfl k_) ?_
    show OFin _ _ _ _ _ _ T35 (mkF m 112 #[.val (.ref ca), .val (.int (4 : Int32))] [(.ref b35), (.ref b35), (.ref b33), (.ref b33)])
    refine X35.step (fun hA hx hq t_ k_ => XS.iconst hA hx rfl (hb hq d2_112) k_) ?_
    show OFin _ _ _ _ _ _ T35 (mkF m 113 #[.val (.ref ca), .val (.int (4 : Int32))] [(.int (0 : Int32)), (.ref b35), (.ref b35), (.ref b33), (.ref b33)])
    refine X35.step (fun hA hx hq t_ k_ => XS.aloadN hA hx rfl (hb hq d2_113) rfl rfl k_) ?_
    show OFin _ _ _ _ _ _ T35 (mkF m 114 #[.val (.ref ca), .val (.int (4 : Int32))] [(.ref ca), (.int (0 : Int32)), (.ref b35), (.ref b35), (.ref b33), (.ref b33)])
    refine X35.step (fun hA hx hq t_ k_ => XS.iconst hA hx rfl (hb hq d2_114) k_) ?_
    show OFin _ _ _ _ _ _ T35 (mkF m 115 #[.val (.ref ca), .val (.int (4 : Int32))] [(.int (0 : Int32)), (.ref ca), (.int (0 : Int32)), (.ref b35), (.ref b35), (.ref b33), (.ref b33)])
    obtain ⟨r0, Rr0, Rs0, Rh0⟩ := id G0
    obtain ⟨q0, Ar0, Sr0, Hr0⟩ := id V0
    refine X35.aload0 Rr0 (v := (.int (f 0))) (by rw [Rs0]; decide) (by exact Rh0 0 (by decide)) (g := (mkF m 115 #[.val (.ref ca), .val (.int (4 : Int32))] [(.int (0 : Int32)), (.ref ca), (.int (0 : Int32)), (.ref b35), (.ref b35), (.ref b33), (.ref b33)])) rfl rfl (Or.inr (Or.inr (Or.inl ⟨rfl, rfl⟩))) d2_115 ?_
    show OFin _ _ _ _ _ _ T35 (mkF m 116 #[.val (.ref ca), .val (.int (4 : Int32))] [(.int (f 0)), (.int (0 : Int32)), (.ref b35), (.ref b35), (.ref b33), (.ref b33)])
    refine X35.stC Ar0 (by rw [Sr0]; decide) (hB) (g := (mkF m 116 #[.val (.ref ca), .val (.int (4 : Int32))] [(.int (f 0)), (.int (0 : Int32)), (.ref b35), (.ref b35), (.ref b33), (.ref b33)])) rfl rfl d2_116 ?_
    intro T37 h37 X37 W37
    have B38 := B36.wr W37 (Safe.arr X35.1.2.1.alike Ar0 (by decide))
    show OFin _ _ _ _ _ _ T37 (mkF m 117 #[.val (.ref ca), .val (.int (4 : Int32))] [(.ref b35), (.ref b33), (.ref b33)])
    rw [own_narC _ (hch 0).1 (hch 0).2] at W37
    have V1 := V0.set W37
    have G1 := G0.other W37 nc
    refine X37.step (fun hA hx hq t_ k_ => XS.dup hA hx rfl (hb hq d2_117) rfl rfl k_) ?_
    show OFin _ _ _ _ _ _ T37 (mkF m 118 #[.val (.ref ca), .val (.int (4 : Int32))] [(.ref b35), (.ref b35), (.ref b33), (.ref b33)])
    refine X37.step (fun hA hx hq t_ k_ => XS.iconst hA hx rfl (hb hq d2_118) k_) ?_
    show OFin _ _ _ _ _ _ T37 (mkF m 119 #[.val (.ref ca), .val (.int (4 : Int32))] [(.int (1 : Int32)), (.ref b35), (.ref b35), (.ref b33), (.ref b33)])
    refine X37.step (fun hA hx hq t_ k_ => XS.aloadN hA hx rfl (hb hq d2_119) rfl rfl k_) ?_
    show OFin _ _ _ _ _ _ T37 (mkF m 120 #[.val (.ref ca), .val (.int (4 : Int32))] [(.ref ca), (.int (1 : Int32)), (.ref b35), (.ref b35), (.ref b33), (.ref b33)])
    refine X37.step (fun hA hx hq t_ k_ => XS.iconst hA hx rfl (hb hq d2_120) k_) ?_
    show OFin _ _ _ _ _ _ T37 (mkF m 121 #[.val (.ref ca), .val (.int (4 : Int32))] [(.int (1 : Int32)), (.ref ca), (.int (1 : Int32)), (.ref b35), (.ref b35), (.ref b33), (.ref b33)])
    obtain ⟨r1, Rr1, Rs1, Rh1⟩ := id G1
    obtain ⟨q1, Ar1, Sr1, Hr1⟩ := id V1
    refine X37.aload0 Rr1 (v := (.int (f 1))) (by rw [Rs1]; decide) (by exact Rh1 1 (by decide)) (g := (mkF m 121 #[.val (.ref ca), .val (.int (4 : Int32))] [(.int (1 : Int32)), (.ref ca), (.int (1 : Int32)), (.ref b35), (.ref b35), (.ref b33), (.ref b33)])) rfl rfl (Or.inr (Or.inr (Or.inl ⟨rfl, rfl⟩))) d2_121 ?_
    show OFin _ _ _ _ _ _ T37 (mkF m 122 #[.val (.ref ca), .val (.int (4 : Int32))] [(.int (f 1)), (.int (1 : Int32)), (.ref b35), (.ref b35), (.ref b33), (.ref b33)])
    refine X37.stC Ar1 (by rw [Sr1]; decide) (hB) (g := (mkF m 122 #[.val (.ref ca), .val (.int (4 : Int32))] [(.int (f 1)), (.int (1 : Int32)), (.ref b35), (.ref b35), (.ref b33), (.ref b33)])) rfl rfl d2_122 ?_
    intro T39 h39 X39 W39
    have B40 := B38.wr W39 (Safe.arr X37.1.2.1.alike Ar1 (by decide))
    show OFin _ _ _ _ _ _ T39 (mkF m 123 #[.val (.ref ca), .val (.int (4 : Int32))] [(.ref b35), (.ref b33), (.ref b33)])
    rw [own_narC _ (hch 1).1 (hch 1).2] at W39
    have V2 := V1.set W39
    have G2 := G1.other W39 nc
    refine X39.step (fun hA hx hq t_ k_ => XS.dup hA hx rfl (hb hq d2_123) rfl rfl k_) ?_
    show OFin _ _ _ _ _ _ T39 (mkF m 124 #[.val (.ref ca), .val (.int (4 : Int32))] [(.ref b35), (.ref b35), (.ref b33), (.ref b33)])
    refine X39.step (fun hA hx hq t_ k_ => XS.iconst hA hx rfl (hb hq d2_124) k_) ?_
    show OFin _ _ _ _ _ _ T39 (mkF m 125 #[.val (.ref ca), .val (.int (4 : Int32))] [(.int (2 : Int32)), (.ref b35), (.ref b35), (.ref b33), (.ref b33)])
    refine X39.step (fun hA hx hq t_ k_ => XS.aloadN hA hx rfl (hb hq d2_125) rfl rfl k_) ?_
    show OFin _ _ _ _ _ _ T39 (mkF m 126 #[.val (.ref ca), .val (.int (4 : Int32))] [(.ref ca), (.int (2 : Int32)), (.ref b35), (.ref b35), (.ref b33), (.ref b33)])
    refine X39.step (fun hA hx hq t_ k_ => XS.iconst hA hx rfl (hb hq d2_126) k_) ?_
    show OFin _ _ _ _ _ _ T39 (mkF m 127 #[.val (.ref ca), .val (.int (4 : Int32))] [(.int (2 : Int32)), (.ref ca), (.int (2 : Int32)), (.ref b35), (.ref b35), (.ref b33), (.ref b33)])
    obtain ⟨r2, Rr2, Rs2, Rh2⟩ := id G2
    obtain ⟨q2, Ar2, Sr2, Hr2⟩ := id V2
    refine X39.aload0 Rr2 (v := (.int (f 2))) (by rw [Rs2]; decide) (by exact Rh2 2 (by decide)) (g := (mkF m 127 #[.val (.ref ca), .val (.int (4 : Int32))] [(.int (2 : Int32)), (.ref ca), (.int (2 : Int32)), (.ref b35), (.ref b35), (.ref b33), (.ref b33)])) rfl rfl (Or.inr (Or.inr (Or.inl ⟨rfl, rfl⟩))) d2_127 ?_
    show OFin _ _ _ _ _ _ T39 (mkF m 128 #[.val (.ref ca), .val (.int (4 : Int32))] [(.int (f 2)), (.int (2 : Int32)), (.ref b35), (.ref b35), (.ref b33), (.ref b33)])
    refine X39.stC Ar2 (by rw [Sr2]; decide) (hB) (g := (mkF m 128 #[.val (.ref ca), .val (.int (4 : Int32))] [(.int (f 2)), (.int (2 : Int32)), (.ref b35), (.ref b35), (.ref b33), (.ref b33)])) rfl rfl d2_128 ?_
    intro T41 h41 X41 W41
    have B42 := B40.wr W41 (Safe.arr X39.1.2.1.alike Ar2 (by decide))
    show OFin _ _ _ _ _ _ T41 (mkF m 129 #[.val (.ref ca), .val (.int (4 : Int32))] [(.ref b35), (.ref b33), (.ref b33)])
    rw [own_narC _ (hch 2).1 (hch 2).2] at W41
    have V3 := V2.set W41
    have G3 := G2.other W41 nc
    refine X41.step (fun hA hx hq t_ k_ => XS.dup hA hx rfl (hb hq d2_129) rfl rfl k_) ?_
    show OFin _ _ _ _ _ _ T41 (mkF m 130 #[.val (.ref ca), .val (.int (4 : Int32))] [(.ref b35), (.ref b35), (.ref b33), (.ref b33)])
    refine X41.step (fun hA hx hq t_ k_ => XS.iconst hA hx rfl (hb hq d2_130) k_) ?_
    show OFin _ _ _ _ _ _ T41 (mkF m 131 #[.val (.ref ca), .val (.int (4 : Int32))] [(.int (3 : Int32)), (.ref b35), (.ref b35), (.ref b33), (.ref b33)])
    refine X41.step (fun hA hx hq t_ k_ => XS.aloadN hA hx rfl (hb hq d2_131) rfl rfl k_) ?_
    show OFin _ _ _ _ _ _ T41 (mkF m 132 #[.val (.ref ca), .val (.int (4 : Int32))] [(.ref ca), (.int (3 : Int32)), (.ref b35), (.ref b35), (.ref b33), (.ref b33)])
    refine X41.step (fun hA hx hq t_ k_ => XS.iconst hA hx rfl (hb hq d2_132) k_) ?_
    show OFin _ _ _ _ _ _ T41 (mkF m 133 #[.val (.ref ca), .val (.int (4 : Int32))] [(.int (3 : Int32)), (.ref ca), (.int (3 : Int32)), (.ref b35), (.ref b35), (.ref b33), (.ref b33)])
    obtain ⟨r3, Rr3, Rs3, Rh3⟩ := id G3
    obtain ⟨q3, Ar3, Sr3, Hr3⟩ := id V3
    refine X41.aload0 Rr3 (v := (.int (f 3))) (by rw [Rs3]; decide) (by exact Rh3 3 (by decide)) (g := (mkF m 133 #[.val (.ref ca), .val (.int (4 : Int32))] [(.int (3 : Int32)), (.ref ca), (.int (3 : Int32)), (.ref b35), (.ref b35), (.ref b33), (.ref b33)])) rfl rfl (Or.inr (Or.inr (Or.inl ⟨rfl, rfl⟩))) d2_133 ?_
    show OFin _ _ _ _ _ _ T41 (mkF m 134 #[.val (.ref ca), .val (.int (4 : Int32))] [(.int (f 3)), (.int (3 : Int32)), (.ref b35), (.ref b35), (.ref b33), (.ref b33)])
    refine X41.stC Ar3 (by rw [Sr3]; decide) (hB) (g := (mkF m 134 #[.val (.ref ca), .val (.int (4 : Int32))] [(.int (f 3)), (.int (3 : Int32)), (.ref b35), (.ref b35), (.ref b33), (.ref b33)])) rfl rfl d2_134 ?_
    intro T43 h43 X43 W43
    have B44 := B42.wr W43 (Safe.arr X41.1.2.1.alike Ar3 (by decide))
    show OFin _ _ _ _ _ _ T43 (mkF m 135 #[.val (.ref ca), .val (.int (4 : Int32))] [(.ref b35), (.ref b33), (.ref b33)])
    rw [own_narC _ (hch 3).1 (hch 3).2] at W43
    have V4 := V3.set W43
    have G4 := G3.other W43 nc
    have VC : OArr Z h43 b35 .char 4 (fun j => .int (f j)) := V4.congr fun j hj => by
      have hj' : j < 4 := hj
      match j, hj' with
      | 0, _ => rfl
      | 1, _ => rfl
      | 2, _ => rfl
      | 3, _ => rfl
    have Kc : Keep h0 h43 [] := (((((((Keep.refl h0 []).ext E33).ext E35).wr W37 (Or.inr hs2)).wr W39 (Or.inr hs2)).wr W41 (Or.inr hs2)).wr W43 (Or.inr hs2))
    refine X43.callIW B44 (y' := (⟨"java/lang/String", "<init>", "([C)V"⟩ : MethodName)) rfl (hw _ (List.mem_of_getElem? (i := 14) rfl)) (hw _ (List.mem_of_getElem? (i := 15) rfl)) (hw _ (List.mem_of_getElem? (i := 13) rfl)) (hw _ (List.mem_of_getElem? (i := 16) rfl)) (by decide) (a := b33) (argsL := [(.ref b35)]) (rest := [(.ref b33)]) (sm5x l Z a0 hw b33 b35 4 f cs h43 n0 (((((Fv.ext E35).other W37 (Or.inl nm)).other W39 (Or.inl nm)).other W41 (Or.inl nm)).other W43 (Or.inl nm)) (((((Fc.ext E35).other W37 (Or.inl nm)).other W39 (Or.inl nm)).other W41 (Or.inl nm)).other W43 (Or.inl nm)) (((((A33.ext E35).wr W37).wr W39).wr W41).wr W43) hm VC (by decide) hch (Nat.le_trans Z0 Kc.1) (SA.ext (own_kx Kc)) (SH.ext (own_kx Kc)) (SL.ext (own_kx Kc)) (SS.ext (own_kx Kc)) hcs) (g := (mkF m 135 #[.val (.ref ca), .val (.int (4 : Int32))] [(.ref b35), (.ref b33), (.ref b33)])) rfl rfl pd_pA_Cr_V rfl rfl (W := 1) (by show 2 * 0 + _ ≤ _; exact Nat.le_of_eq rfl) d2_135 (by decide) (by decide) (by decide) (by decide) ?_
    intro v45 T45 h45 vm45 X45 B45 G45 Sf45 q45
    obtain ⟨rfl, K45, S45⟩ := q45
    show OFin _ _ _ _ _ _ T45 (mkF m 138 #[.val (.ref ca), .val (.int (4 : Int32))] [(.ref b33)])
    exact X45.retR rfl rfl d2_138 (oW X45 B45 (by decide) (by decide)) (⟨b33, rfl, S45, Kc.trans K45 (allS (Or.inr hs) all0)⟩)
  · show OFin _ _ _ _ _ _ T0 (mkF m 0 #[.val (.ref ca), .val (.int (5 : Int32))] [])
    refine X0.step (fun hA hx hq t_ k_ => XS.iloadN hA hx rfl (hb hq d2_0) rfl k_) ?_
    show OFin _ _ _ _ _ _ T0 (mkF m 1 #[.val (.ref ca), .val (.int (5 : Int32))] [(.int (5 : Int32))])
    refine X0.step (fun hA hx hq t_ k_ => XS.ifYes hA hx rfl (pc0 := 1) (pc' := 15) rfl (hb hq d2_1) rfl ((if0 _ _).trans (feq ((by decide))).2) (by decide) (by decide) k_) ?_
    show OFin _ _ _ _ _ _ T0 (mkF m 15 #[.val (.ref ca), .val (.int (5 : Int32))] [])
    refine X0.step (fun hA hx hq t_ k_ => XS.iloadN hA hx rfl (hb hq d2_15) rfl k_) ?_
    show OFin _ _ _ _ _ _ T0 (mkF m 16 #[.val (.ref ca), .val (.int (5 : Int32))] [(.int (5 : Int32))])
    refine X0.step (fun hA hx hq t_ k_ => XS.iconst hA hx rfl (hb hq d2_16) k_) ?_
    show OFin _ _ _ _ _ _ T0 (mkF m 17 #[.val (.ref ca), .val (.int (5 : Int32))] [(.int (1 : Int32)), (.int (5 : Int32))])
    refine X0.step (fun hA hx hq t_ k_ => XS.icmpYes hA hx rfl (pc0 := 17) (pc' := 37) rfl (hb hq d2_17) rfl (feq ((by decide))).2 (by decide) (by decide) k_) ?_
    show OFin _ _ _ _ _ _ T0 (mkF m 37 #[.val (.ref ca), .val (.int (5 : Int32))] [])
    refine X0.step (fun hA hx hq t_ k_ => XS.iloadN hA hx rfl (hb hq d2_37) rfl k_) ?_
    show OFin _ _ _ _ _ _ T0 (mkF m 38 #[.val (.ref ca), .val (.int (5 : Int32))] [(.int (5 : Int32))])
    refine X0.step (fun hA hx hq t_ k_ => XS.iconst hA hx rfl (hb hq d2_38) k_) ?_
    show OFin _ _ _ _ _ _ T0 (mkF m 39 #[.val (.ref ca), .val (.int (5 : Int32))] [(.int (2 : Int32)), (.int (5 : Int32))])
    refine X0.step (fun hA hx hq t_ k_ => XS.icmpYes hA hx rfl (pc0 := 39) (pc' := 65) rfl (hb hq d2_39) rfl (feq ((by decide))).2 (by decide) (by decide) k_) ?_
    show OFin _ _ _ _ _ _ T0 (mkF m 65 #[.val (.ref ca), .val (.int (5 : Int32))] [])
    refine X0.step (fun hA hx hq t_ k_ => XS.iloadN hA hx rfl (hb hq d2_65) rfl k_) ?_
    show OFin _ _ _ _ _ _ T0 (mkF m 66 #[.val (.ref ca), .val (.int (5 : Int32))] [(.int (5 : Int32))])
    refine X0.step (fun hA hx hq t_ k_ => XS.iconst hA hx rfl (hb hq d2_66) k_) ?_
    show OFin _ _ _ _ _ _ T0 (mkF m 67 #[.val (.ref ca), .val (.int (5 : Int32))] [(.int (3 : Int32)), (.int (5 : Int32))])
    refine X0.step (fun hA hx hq t_ k_ => XS.icmpYes hA hx rfl (pc0 := 67) (pc' := 99) rfl (hb hq d2_67) rfl (feq ((by decide))).2 (by decide) (by decide) k_) ?_
    show OFin _ _ _ _ _ _ T0 (mkF m 99 #[.val (.ref ca), .val (.int (5 : Int32))] [])
    refine X0.step (fun hA hx hq t_ k_ => XS.iloadN hA hx rfl (hb hq d2_99) rfl k_) ?_
    show OFin _ _ _ _ _ _ T0 (mkF m 100 #[.val (.ref ca), .val (.int (5 : Int32))] [(.int (5 : Int32))])
    refine X0.step (fun hA hx hq t_ k_ => XS.iconst hA hx rfl (hb hq d2_100) k_) ?_
    show OFin _ _ _ _ _ _ T0 (mkF m 101 #[.val (.ref ca), .val (.int (5 : Int32))] [(.int (4 : Int32)), (.int (5 : Int32))])
    refine X0.step (fun hA hx hq t_ k_ => XS.icmpYes hA hx rfl (pc0 := 101) (pc' := 139) rfl (hb hq d2_101) rfl (feq ((by decide))).2 (by decide) (by decide) k_) ?_
    show OFin _ _ _ _ _ _ T0 (mkF m 139 #[.val (.ref ca), .val (.int (5 : Int32))] [])
    refine X0.step (fun hA hx hq t_ k_ => XS.iloadN hA hx rfl (hb hq d2_139) rfl k_) ?_
    show OFin _ _ _ _ _ _ T0 (mkF m 140 #[.val (.ref ca), .val (.int (5 : Int32))] [(.int (5 : Int32))])
    refine X0.step (fun hA hx hq t_ k_ => XS.iconst hA hx rfl (hb hq d2_140) k_) ?_
    show OFin _ _ _ _ _ _ T0 (mkF m 141 #[.val (.ref ca), .val (.int (5 : Int32))] [(.int (5 : Int32)), (.int (5 : Int32))])
    refine X0.step (fun hA hx hq t_ k_ => XS.icmpNo hA hx rfl (hb hq d2_141) rfl (teq ((rfl : (5 : Int32) = (5 : Int32)))).2 k_) ?_
    show OFin _ _ _ _ _ _ T0 (mkF m 144 #[.val (.ref ca), .val (.int (5 : Int32))] [])
    refine X0.newO (hw _ (List.mem_of_getElem? (i := 11) rfl)) (hw _ (List.mem_of_getElem? (i := 12) rfl)) (hw _ (List.mem_of_getElem? (i := 13) rfl)) (g := (mkF m 144 #[.val (.ref ca), .val (.int (5 : Int32))] [])) rfl d2_144 (by decide) (by decide) ?_
    intro T46 h46 b46 gb46 X46 E46 A46 D46
    have B47 := B0.ext E46
    show OFin _ _ _ _ _ _ T46 (mkF m 147 #[.val (.ref ca), .val (.int (5 : Int32))] [(.ref b46)])
    have Fv : Fld Z h46 b46 "java/lang/String" "value" "[B" .null := D46 (Or.inr (hw _ (List.mem_of_getElem? (i := 39) rfl))) (ty := (.array .byte)) (by decide)
    have Fc : Fld Z h46 b46 "java/lang/String" "coder" "B" (.int (0 : Int32)) := D46 (Or.inr (hw _ (List.mem_of_getElem? (i := 37) rfl))) (ty := .byte) (by decide)
    have hs : h0.size ≤ b46 := Nat.le_of_eq gb46.symm
    have hm : n0 ≤ b46 := Nat.le_trans Z0 hs
    refine X46.step (fun hA hx hq t_ k_ => XS.dup hA hx rfl (hb hq d2_147) rfl rfl k_) ?_
    show OFin _ _ _ _ _ _ T46 (mkF m 148 #[.val (.ref ca), .val (.int (5 : Int32))] [(.ref b46), (.ref b46)])
    refine X46.step (fun hA hx hq t_ k_ => XS.iconst hA hx rfl (hb hq d2_148) k_) ?_
    show OFin _ _ _ _ _ _ T46 (mkF m 149 #[.val (.ref ca), .val (.int (5 : Int32))] [(.int (5 : Int32)), (.ref b46), (.ref b46)])
    refine X46.newP (hw _ (List.mem_of_getElem? (i := 0) rfl)) (g := (mkF m 149 #[.val (.ref ca), .val (.int (5 : Int32))] [(.int (5 : Int32)), (.ref b46), (.ref b46)])) rfl d2_149 rfl (by decide) (cap := 5) (by decide) (by decide) (by decide) (by decide) (ad := "[C") (by first | rfl | decide) ?_
    intro T48 h48 k48 b48 gb48 X48 E48 A48 G48
    have B49 := B47.ext E48
    show OFin _ _ _ _ _ _ T48 (mkF m 151 #[.val (.ref ca), .val (.int (5 : Int32))] [(.ref b48), (.ref b46), (.ref b46)])
    have V0 := OArr.new A48
    have hB : n0 ≤ b48 := by rw [gb48]; exact Nat.le_trans Z0 E46.1
    have hs2 : h0.size ≤ b48 := by rw [gb48]; exact E46.1
    have nm : b46 ≠ b48 := by rw [gb48]; exact Nat.ne_of_lt A46.lt
    have nc : ca ≠ b48 := by rw [gb48]; exact Nat.ne_of_lt (FA.ext E46).lt
    have G0 := (FA.ext E46).ext E48
    refine X48.step (fun hA hx hq t_ k_ => XS.dup hA hx rfl (hb hq d2_151) rfl rfl k_) ?_
    show OFin _ _ _ _ _ _ T48 (mkF m 152 #[.val (.ref ca), .val (.int (5 : Int32))] [(.ref b48), (.ref b48), (.ref b46), (.ref b46)])
    refine X48.step (fun hA hx hq t_ k_ => XS.iconst hA hx rfl (hb hq d2_152) k_) ?_
    show OFin _ _ _ _ _ _ T48 (mkF m 153 #[.val (.ref ca), .val (.int (5 : Int32))] [(.int (0 : Int32)), (.ref b48), (.ref b48), (.ref b46), (.ref b46)])
    refine X48.step (fun hA hx hq t_ k_ => XS.aloadN hA hx rfl (hb hq d2_153) rfl rfl k_) ?_
    show OFin _ _ _ _ _ _ T48 (mkF m 154 #[.val (.ref ca), .val (.int (5 : Int32))] [(.ref ca), (.int (0 : Int32)), (.ref b48), (.ref b48), (.ref b46), (.ref b46)])
    refine X48.step (fun hA hx hq t_ k_ => XS.iconst hA hx rfl (hb hq d2_154) k_) ?_
    show OFin _ _ _ _ _ _ T48 (mkF m 155 #[.val (.ref ca), .val (.int (5 : Int32))] [(.int (0 : Int32)), (.ref ca), (.int (0 : Int32)), (.ref b48), (.ref b48), (.ref b46), (.ref b46)])
    obtain ⟨r0, Rr0, Rs0, Rh0⟩ := id G0
    obtain ⟨q0, Ar0, Sr0, Hr0⟩ := id V0
    refine X48.aload0 Rr0 (v := (.int (f 0))) (by rw [Rs0]; decide) (by exact Rh0 0 (by decide)) (g := (mkF m 155 #[.val (.ref ca), .val (.int (5 : Int32))] [(.int (0 : Int32)), (.ref ca), (.int (0 : Int32)), (.ref b48), (.ref b48), (.ref b46), (.ref b46)])) rfl rfl (Or.inr (Or.inr (Or.inl ⟨rfl, rfl⟩))) d2_155 ?_
    show OFin _ _ _ _ _ _ T48 (mkF m 156 #[.val (.ref ca), .val (.int (5 : Int32))] [(.int (f 0)), (.int (0 : Int32)), (.ref b48), (.ref b48), (.ref b46), (.ref b46)])
    refine X48.stC Ar0 (by rw [Sr0]; decide) (hB) (g := (mkF m 156 #[.val (.ref ca), .val (.int (5 : Int32))] [(.int (f 0)), (.int (0 : Int32)), (.ref b48), (.ref b48), (.ref b46), (.ref b46)])) rfl rfl d2_156 ?_
    intro T50 h50 X50 W50
    have B51 := B49.wr W50 (Safe.arr X48.1.2.1.alike Ar0 (by decide))
    show OFin _ _ _ _ _ _ T50 (mkF m 157 #[.val (.ref ca), .val (.int (5 : Int32))] [(.ref b48), (.ref b46), (.ref b46)])
    rw [own_narC _ (hch 0).1 (hch 0).2] at W50
    have V1 := V0.set W50
    have G1 := G0.other W50 nc
    refine X50.step (fun hA hx hq t_ k_ => XS.dup hA hx rfl (hb hq d2_157) rfl rfl k_) ?_
    show OFin _ _ _ _ _ _ T50 (mkF m 158 #[.val (.ref ca), .val (.int (5 : Int32))] [(.ref b48), (.ref b48), (.ref b46), (.ref b46)])
    refine X50.step (fun hA hx hq t_ k_ => XS.iconst hA hx rfl (hb hq d2_158) k_) ?_
    show OFin _ _ _ _ _ _ T50 (mkF m 159 #[.val (.ref ca), .val (.int (5 : Int32))] [(.int (1 : Int32)), (.ref b48), (.ref b48), (.ref b46), (.ref b46)])
    refine X50.step (fun hA hx hq t_ k_ => XS.aloadN hA hx rfl (hb hq d2_159) rfl rfl k_) ?_
    show OFin _ _ _ _ _ _ T50 (mkF m 160 #[.val (.ref ca), .val (.int (5 : Int32))] [(.ref ca), (.int (1 : Int32)), (.ref b48), (.ref b48), (.ref b46), (.ref b46)])
    refine X50.step (fun hA hx hq t_ k_ => XS.iconst hA hx rfl (hb hq d2_160) k_) ?_
    show OFin _ _ _ _ _ _ T50 (mkF m 161 #[.val (.ref ca), .val (.int (5 : Int32))] [(.int (1 : Int32)), (.ref ca), (.int (1 : Int32)), (.ref b48), (.ref b48), (.ref b46), (.ref b46)])
    obtain ⟨r1, Rr1, Rs1, Rh1⟩ := id G1
    obtain ⟨q1, Ar1, Sr1, Hr1⟩ := id V1
    refine X50.aload0 Rr1 (v := (.int (f 1))) (by rw [Rs1]; decide) (by exact Rh1 1 (by decide)) (g := (mkF m 161 #[.val (.ref ca), .val (.int (5 : Int32))] [(.int (1 : Int32)), (.ref ca), (.int (1 : Int32)), (.ref b48), (.ref b48), (.ref b46), (.ref b46)])) rfl rfl (Or.inr (Or.inr (Or.inl ⟨rfl, rfl⟩))) d2_161 ?_
    show OFin _ _ _ _ _ _ T50 (mkF m 162 #[.val (.ref ca), .val (.int (5 : Int32))] [(.int (f 1)), (.int (1 : Int32)), (.ref b48), (.ref b48), (.ref b46), (.ref b46)])
    refine X50.stC Ar1 (by rw [Sr1]; decide) (hB) (g := (mkF m 162 #[.val (.ref ca), .val (.int (5 : Int32))] [(.int (f 1)), (.int (1 : Int32)), (.ref b48), (.ref b48), (.ref b46), (.ref b46)])) rfl rfl d2_162 ?_
    intro T52 h52 X52 W52
    have B53 := B51.wr W52 (Safe.arr X50.1.2.1.alike Ar1 (by decide))
    show OFin _ _ _ _ _ _ T52 (mkF m 163 #[.val (.ref ca), .val (.int (5 : Int32))] [(.ref b48), (.ref b46), (.ref b46)])
    rw [own_narC _ (hch 1).1 (hch 1).2] at W52
    have V2 := V1.set W52
    have G2 := G1.other W52 nc
    refine X52.step (fun hA hx hq t_ k_ => XS.dup hA hx rfl (hb hq d2_163) rfl rfl k_) ?_
    show OFin _ _ _ _ _ _ T52 (mkF m 164 #[.val (.ref ca), .val (.int (5 : Int32))] [(.ref b48), (.ref b48), (.ref b46), (.ref b46)])
    refine X52.step (fun hA hx hq t_ k_ => XS.iconst hA hx rfl (hb hq d2_164) k_) ?_
    show OFin _ _ _ _ _ _ T52 (mkF m 165 #[.val (.ref ca), .val (.int (5 : Int32))] [(.int (2 : Int32)), (.ref b48), (.ref b48), (.ref b46), (.ref b46)])
    refine X52.step (fun hA hx hq t_ k_ => XS.aloadN hA hx rfl (hb hq d2_165) rfl rfl k_) ?_
    show OFin _ _ _ _ _ _ T52 (mkF m 166 #[.val (.ref ca), .val (.int (5 : Int32))] [(.ref ca), (.int (2 : Int32)), (.ref b48), (.ref b48), (.ref b46), (.ref b46)])
    refine X52.step (fun hA hx hq t_ k_ => XS.iconst hA hx rfl (hb hq d2_166) k_) ?_
    show OFin _ _ _ _ _ _ T52 (mkF m 167 #[.val (.ref ca), .val (.int (5 : Int32))] [(.int (2 : Int32)), (.ref ca), (.int (2 : Int32)), (.ref b48), (.ref b48), (.ref b46), (.ref b46)])
    obtain ⟨r2, Rr2, Rs2, Rh2⟩ := id G2
    obtain ⟨q2, Ar2, Sr2, Hr2⟩ := id V2
    refine X52.aload0 Rr2 (v := (.int (f 2))) (by rw [Rs2]; decide) (by exact Rh2 2 (by decide)) (g := (mkF m 167 #[.val (.ref ca), .val (.int (5 : Int32))] [(.int (2 : Int32)), (.ref ca), (.int (2 : Int32)), (.ref b48), (.ref b48), (.ref b46), (.ref b46)])) rfl rfl (Or.inr (Or.inr (Or.inl ⟨rfl, rfl⟩))) d2_167 ?_
    show OFin _ _ _ _ _ _ T52 (mkF m 168 #[.val (.ref ca), .val (.int (5 : Int32))] [(.int (f 2)), (.int (2 : Int32)), (.ref b48), (.ref b48), (.ref b46), (.ref b46)])
    refine X52.stC Ar2 (by rw [Sr2]; decide) (hB) (g := (mkF m 168 #[.val (.ref ca), .val (.int (5 : Int32))] [(.int (f 2)), (.int (2 : Int32)), (.ref b48), (.ref b48), (.ref b46), (.ref b46)])) rfl rfl d2_168 ?_
    intro T54 h54 X54 W54
    have B55 := B53.wr W54 (Safe.arr X52.1.2.1.alike Ar2 (by decide))
    show OFin _ _ _ _ _ _ T54 (mkF m 169 #[.val (.ref ca), .val (.int (5 : Int32))] [(.ref b48), (.ref b46), (.ref b46)])
    rw [own_narC _ (hch 2).1 (hch 2).2] at W54
    have V3 := V2.set W54
    have G3 := G2.other W54 nc
    refine X54.step (fun hA hx hq t_ k_ => XS.dup hA hx rfl (hb hq d2_169) rfl rfl k_) ?_
    show OFin _ _ _ _ _ _ T54 (mkF m 170 #[.val (.ref ca), .val (.int (5 : Int32))] [(.ref b48), (.ref b48), (.ref b46), (.ref b46)])
    refine X54.step (fun hA hx hq t_ k_ => XS.iconst hA hx rfl (hb hq d2_170) k_) ?_
    show OFin _ _ _ _ _ _ T54 (mkF m 171 #[.val (.ref ca), .val (.int (5 : Int32))] [(.int (3 : Int32)), (.ref b48), (.ref b48), (.ref b46), (.ref b46)])
    refine X54.step (fun hA hx hq t_ k_ => XS.aloadN hA hx rfl (hb hq d2_171) rfl rfl k_) ?_
    show OFin _ _ _ _ _ _ T54 (mkF m 172 #[.val (.ref ca), .val (.int (5 : Int32))] [(.ref ca), (.int (3 : Int32)), (.ref b48), (.ref b48), (.ref b46), (.ref b46)])
    refine X54.step (fun hA hx hq t_ k_ => XS.iconst hA hx rfl (hb hq d2_172) k_) ?_
    show OFin _ _ _ _ _ _ T54 (mkF m 173 #[.val (.ref ca), .val (.int (5 : Int32))] [(.int (3 : Int32)), (.ref ca), (.int (3 : Int32)), (.ref b48), (.ref b48), (.ref b46), (.ref b46)])
    obtain ⟨r3, Rr3, Rs3, Rh3⟩ := id G3
    obtain ⟨q3, Ar3, Sr3, Hr3⟩ := id V3
    refine X54.aload0 Rr3 (v := (.int (f 3))) (by rw [Rs3]; decide) (by exact Rh3 3 (by decide)) (g := (mkF m 173 #[.val (.ref ca), .val (.int (5 : Int32))] [(.int (3 : Int32)), (.ref ca), (.int (3 : Int32)), (.ref b48), (.ref b48), (.ref b46), (.ref b46)])) rfl rfl (Or.inr (Or.inr (Or.inl ⟨rfl, rfl⟩))) d2_173 ?_
    show OFin _ _ _ _ _ _ T54 (mkF m 174 #[.val (.ref ca), .val (.int (5 : Int32))] [(.int (f 3)), (.int (3 : Int32)), (.ref b48), (.ref b48), (.ref b46), (.ref b46)])
    refine X54.stC Ar3 (by rw [Sr3]; decide) (hB) (g := (mkF m 174 #[.val (.ref ca), .val (.int (5 : Int32))] [(.int (f 3)), (.int (3 : Int32)), (.ref b48), (.ref b48), (.ref b46), (.ref b46)])) rfl rfl d2_174 ?_
    intro T56 h56 X56 W56
    have B57 := B55.wr W56 (Safe.arr X54.1.2.1.alike Ar3 (by decide))
    show OFin _ _ _ _ _ _ T56 (mkF m 175 #[.val (.ref ca), .val (.int (5 : Int32))] [(.ref b48), (.ref b46), (.ref b46)])
    rw [own_narC _ (hch 3).1 (hch 3).2] at W56
    have V4 := V3.set W56
    have G4 := G3.other W56 nc
    refine X56.step (fun hA hx hq t_ k_ => XS.dup hA hx rfl (hb hq d2_175) rfl rfl k_) ?_
    show OFin _ _ _ _ _ _ T56 (mkF m 176 #[.val (.ref ca), .val (.int (5 : Int32))] [(.ref b48), (.ref b48), (.ref b46), (.ref b46)])
    refine X56.step (fun hA hx hq t_ k_ => XS.iconst hA hx rfl (hb hq d2_176) k_) ?_
    show OFin _ _ _ _ _ _ T56 (mkF m 177 #[.val (.ref ca), .val (.int (5 : Int32))] [(.int (4 : Int32)), (.ref b48), (.ref b48), (.ref b46), (.ref b46)])
    refine X56.step (fun hA hx hq t_ k_ => XS.aloadN hA hx rfl (hb hq d2_177) rfl rfl k_) ?_
    show OFin _ _ _ _ _ _ T56 (mkF m 178 #[.val (.ref ca), .val (.int (5 : Int32))] [(.ref ca), (.int (4 : Int32)), (.ref b48), (.ref b48), (.ref b46), (.ref b46)])
    refine X56.step (fun hA hx hq t_ k_ => XS.iconst hA hx rfl (hb hq d2_178) k_) ?_
    show OFin _ _ _ _ _ _ T56 (mkF m 179 #[.val (.ref ca), .val (.int (5 : Int32))] [(.int (4 : Int32)), (.ref ca), (.int (4 : Int32)), (.ref b48), (.ref b48), (.ref b46), (.ref b46)])
    obtain ⟨r4, Rr4, Rs4, Rh4⟩ := id G4
    obtain ⟨q4, Ar4, Sr4, Hr4⟩ := id V4
    refine X56.aload0 Rr4 (v := (.int (f 4))) (by rw [Rs4]; decide) (by exact Rh4 4 (by decide)) (g := (mkF m 179 #[.val (.ref ca), .val (.int (5 : Int32))] [(.int (4 : Int32)), (.ref ca), (.int (4 : Int32)), (.ref b48), (.ref b48), (.ref b46), (.ref b46)])) rfl rfl (Or.inr (Or.inr (Or.inl ⟨rfl, rfl⟩))) d2_179 ?_
    show OFin _ _ _ _ _ _ T56 (mkF m 180 #[.val (.ref ca), .val (.int (5 : Int32))] [(.int (f 4)), (.int (4 : Int32)), (.ref b48), (.ref b48), (.ref b46), (.ref b46)])
    refine X56.stC Ar4 (by rw [Sr4]; decide) (hB) (g := (mkF m 180 #[.val (.ref ca), .val (.int (5 : Int32))] [(.int (f 4)), (.int (4 : Int32)), (.ref b48), (.ref b48), (.ref b46), (.ref b46)])) rfl rfl d2_180 ?_
    intro T58 h58 X58 W58
    have B59 := B57.wr W58 (Safe.arr X56.1.2.1.alike Ar4 (by decide))
    show OFin _ _ _ _ _ _ T58 (mkF m 181 #[.val (.ref ca), .val (.int (5 : Int32))] [(.ref b48), (.ref b46), (.ref b46)])
    rw [own_narC _ (hch 4).1 (hch 4).2] at W58
    have V5 := V4.set W58
    have G5 := G4.other W58 nc
    have VC : OArr Z h58 b48 .char 5 (fun j => .int (f j)) := V5.congr fun j hj => by
      have hj' : j < 5 := hj
      match j, hj' with
      | 0, _ => rfl
      | 1, _ => rfl
      | 2, _ => rfl
      | 3, _ => rfl
      | 4, _ => rfl
    have Kc : Keep h0 h58 [] := ((((((((Keep.refl h0 []).ext E46).ext E48).wr W50 (Or.inr hs2)).wr W52 (Or.inr hs2)).wr W54 (Or.inr hs2)).wr W56 (Or.inr hs2)).wr W58 (Or.inr hs2))
    refine X58.callIW B59 (y' := (⟨"java/lang/String", "<init>", "([C)V"⟩ : MethodName)) rfl (hw _ (List.mem_of_getElem? (i := 14) rfl)) (hw _ (List.mem_of_getElem? (i := 15) rfl)) (hw _ (List.mem_of_getElem? (i := 13) rfl)) (hw _ (List.mem_of_getElem? (i := 16) rfl)) (by decide) (a := b46) (argsL := [(.ref b48)]) (rest := [(.ref b46)]) (sm5x l Z a0 hw b46 b48 5 f cs h58 n0 ((((((Fv.ext E48).other W50 (Or.inl nm)).other W52 (Or.inl nm)).other W54 (Or.inl nm)).other W56 (Or.inl nm)).other W58 (Or.inl nm)) ((((((Fc.ext E48).other W50 (Or.inl nm)).other W52 (Or.inl nm)).other W54 (Or.inl nm)).other W56 (Or.inl nm)).other W58 (Or.inl nm)) ((((((A46.ext E48).wr W50).wr W52).wr W54).wr W56).wr W58) hm VC (by decide) hch (Nat.le_trans Z0 Kc.1) (SA.ext (own_kx Kc)) (SH.ext (own_kx Kc)) (SL.ext (own_kx Kc)) (SS.ext (own_kx Kc)) hcs) (g := (mkF m 181 #[.val (.ref ca), .val (.int (5 : Int32))] [(.ref b48), (.ref b46), (.ref b46)])) rfl rfl pd_pA_Cr_V rfl rfl (W := 1) (by show 2 * 0 + _ ≤ _; exact Nat.le_of_eq rfl) d2_181 (by decide) (by decide) (by decide) (by decide) ?_
    intro v60 T60 h60 vm60 X60 B60 G60 Sf60 q60
    obtain ⟨rfl, K60, S60⟩ := q60
    show OFin _ _ _ _ _ _ T60 (mkF m 184 #[.val (.ref ca), .val (.int (5 : Int32))] [(.ref b46)])
    exact X60.retR rfl rfl d2_184 (oW X60 B60 (by decide) (by decide)) (⟨b46, rfl, S60, Kc.trans K60 (allS (Or.inr hs) all0)⟩)
  · show OFin _ _ _ _ _ _ T0 (mkF m 0 #[.val (.ref ca), .val (.int (6 : Int32))] [])
    refine X0.step (fun hA hx hq t_ k_ => XS.iloadN hA hx rfl (hb hq d2_0) rfl k_) ?_
    show OFin _ _ _ _ _ _ T0 (mkF m 1 #[.val (.ref ca), .val (.int (6 : Int32))] [(.int (6 : Int32))])
    refine X0.step (fun hA hx hq t_ k_ => XS.ifYes hA hx rfl (pc0 := 1) (pc' := 15) rfl (hb hq d2_1) rfl ((if0 _ _).trans (feq ((by decide))).2) (by decide) (by decide) k_) ?_
    show OFin _ _ _ _ _ _ T0 (mkF m 15 #[.val (.ref ca), .val (.int (6 : Int32))] [])
    refine X0.step (fun hA hx hq t_ k_ => XS.iloadN hA hx rfl (hb hq d2_15) rfl k_) ?_
    show OFin _ _ _ _ _ _ T0 (mkF m 16 #[.val (.ref ca), .val (.int (6 : Int32))] [(.int (6 : Int32))])
    refine X0.step (fun hA hx hq t_ k_ => XS.iconst hA hx rfl (hb hq d2_16) k_) ?_
    show OFin _ _ _ _ _ _ T0 (mkF m 17 #[.val (.ref ca), .val (.int (6 : Int32))] [(.int (1 : Int32)), (.int (6 : Int32))])
    refine X0.step (fun hA hx hq t_ k_ => XS.icmpYes hA hx rfl (pc0 := 17) (pc' := 37) rfl (hb hq d2_17) rfl (feq ((by decide))).2 (by decide) (by decide) k_) ?_
    show OFin _ _ _ _ _ _ T0 (mkF m 37 #[.val (.ref ca), .val (.int (6 : Int32))] [])
    refine X0.step (fun hA hx hq t_ k_ => XS.iloadN hA hx rfl (hb hq d2_37) rfl k_) ?_
    show OFin _ _ _ _ _ _ T0 (mkF m 38 #[.val (.ref ca), .val (.int (6 : Int32))] [(.int (6 : Int32))])
    refine X0.step (fun hA hx hq t_ k_ => XS.iconst hA hx rfl (hb hq d2_38) k_) ?_
    show OFin _ _ _ _ _ _ T0 (mkF m 39 #[.val (.ref ca), .val (.int (6 : Int32))] [(.int (2 : Int32)), (.int (6 : Int32))])
    refine X0.step (fun hA hx hq t_ k_ => XS.icmpYes hA hx rfl (pc0 := 39) (pc' := 65) rfl (hb hq d2_39) rfl (feq ((by decide))).2 (by decide) (by decide) k_) ?_
    show OFin _ _ _ _ _ _ T0 (mkF m 65 #[.val (.ref ca), .val (.int (6 : Int32))] [])
    refine X0.step (fun hA hx hq t_ k_ => XS.iloadN hA hx rfl (hb hq d2_65) rfl k_) ?_
    show OFin _ _ _ _ _ _ T0 (mkF m 66 #[.val (.ref ca), .val (.int (6 : Int32))] [(.int (6 : Int32))])
    refine X0.step (fun hA hx hq t_ k_ => XS.iconst hA hx rfl (hb hq d2_66) k_) ?_
    show OFin _ _ _ _ _ _ T0 (mkF m 67 #[.val (.ref ca), .val (.int (6 : Int32))] [(.int (3 : Int32)), (.int (6 : Int32))])
    refine X0.step (fun hA hx hq t_ k_ => XS.icmpYes hA hx rfl (pc0 := 67) (pc' := 99) rfl (hb hq d2_67) rfl (feq ((by decide))).2 (by decide) (by decide) k_) ?_
    show OFin _ _ _ _ _ _ T0 (mkF m 99 #[.val (.ref ca), .val (.int (6 : Int32))] [])
    refine X0.step (fun hA hx hq t_ k_ => XS.iloadN hA hx rfl (hb hq d2_99) rfl k_) ?_
    show OFin _ _ _ _ _ _ T0 (mkF m 100 #[.val (.ref ca), .val (.int (6 : Int32))] [(.int (6 : Int32))])
    refine X0.step (fun hA hx hq t_ k_ => XS.iconst hA hx rfl (hb hq d2_100) k_) ?_
    show OFin _ _ _ _ _ _ T0 (mkF m 101 #[.val (.ref ca), .val (.int (6 : Int32))] [(.int (4 : Int32)), (.int (6 : Int32))])
    refine X0.step (fun hA hx hq t_ k_ => XS.icmpYes hA hx rfl (pc0 := 101) (pc' := 139) rfl (hb hq d2_101) rfl (feq ((by decide))).2 (by decide) (by decide) k_) ?_
    show OFin _ _ _ _ _ _ T0 (mkF m 139 #[.val (.ref ca), .val (.int (6 : Int32))] [])
    refine X0.step (fun hA hx hq t_ k_ => XS.iloadN hA hx rfl (hb hq d2_139) rfl k_) ?_
    show OFin _ _ _ _ _ _ T0 (mkF m 140 #[.val (.ref ca), .val (.int (6 : Int32))] [(.int (6 : Int32))])
    refine X0.step (fun hA hx hq t_ k_ => XS.iconst hA hx rfl (hb hq d2_140) k_) ?_
    show OFin _ _ _ _ _ _ T0 (mkF m 141 #[.val (.ref ca), .val (.int (6 : Int32))] [(.int (5 : Int32)), (.int (6 : Int32))])
    refine X0.step (fun hA hx hq t_ k_ => XS.icmpYes hA hx rfl (pc0 := 141) (pc' := 185) rfl (hb hq d2_141) rfl (feq ((by decide))).2 (by decide) (by decide) k_) ?_
    show OFin _ _ _ _ _ _ T0 (mkF m 185 #[.val (.ref ca), .val (.int (6 : Int32))] [])
    refine X0.newO (hw _ (List.mem_of_getElem? (i := 11) rfl)) (hw _ (List.mem_of_getElem? (i := 12) rfl)) (hw _ (List.mem_of_getElem? (i := 13) rfl)) (g := (mkF m 185 #[.val (.ref ca), .val (.int (6 : Int32))] [])) rfl d2_185 (by decide) (by decide) ?_
    intro T61 h61 b61 gb61 X61 E61 A61 D61
    have B62 := B0.ext E61
    show OFin _ _ _ _ _ _ T61 (mkF m 188 #[.val (.ref ca), .val (.int (6 : Int32))] [(.ref b61)])
    have Fv : Fld Z h61 b61 "java/lang/String" "value" "[B" .null := D61 (Or.inr (hw _ (List.mem_of_getElem? (i := 39) rfl))) (ty := (.array .byte)) (by decide)
    have Fc : Fld Z h61 b61 "java/lang/String" "coder" "B" (.int (0 : Int32)) := D61 (Or.inr (hw _ (List.mem_of_getElem? (i := 37) rfl))) (ty := .byte) (by decide)
    have hs : h0.size ≤ b61 := Nat.le_of_eq gb61.symm
    have hm : n0 ≤ b61 := Nat.le_trans Z0 hs
    refine X61.step (fun hA hx hq t_ k_ => XS.dup hA hx rfl (hb hq d2_188) rfl rfl k_) ?_
    show OFin _ _ _ _ _ _ T61 (mkF m 189 #[.val (.ref ca), .val (.int (6 : Int32))] [(.ref b61), (.ref b61)])
    refine X61.step (fun hA hx hq t_ k_ => XS.bipush hA hx rfl (hb hq d2_189) k_) ?_
    show OFin _ _ _ _ _ _ T61 (mkF m 191 #[.val (.ref ca), .val (.int (6 : Int32))] [(.int (6 : Int32)), (.ref b61), (.ref b61)])
    refine X61.newP (hw _ (List.mem_of_getElem? (i := 0) rfl)) (g := (mkF m 191 #[.val (.ref ca), .val (.int (6 : Int32))] [(.int (6 : Int32)), (.ref b61), (.ref b61)])) rfl d2_191 rfl (by decide) (cap := 6) (by decide) (by decide) (by decide) (by decide) (ad := "[C") (by first | rfl | decide) ?_
    intro T63 h63 k63 b63 gb63 X63 E63 A63 G63
    have B64 := B62.ext E63
    show OFin _ _ _ _ _ _ T63 (mkF m 193 #[.val (.ref ca), .val (.int (6 : Int32))] [(.ref b63), (.ref b61), (.ref b61)])
    have V0 := OArr.new A63
    have hB : n0 ≤ b63 := by rw [gb63]; exact Nat.le_trans Z0 E61.1
    have hs2 : h0.size ≤ b63 := by rw [gb63]; exact E61.1
    have nm : b61 ≠ b63 := by rw [gb63]; exact Nat.ne_of_lt A61.lt
    have nc : ca ≠ b63 := by rw [gb63]; exact Nat.ne_of_lt (FA.ext E61).lt
    have G0 := (FA.ext E61).ext E63
    refine X63.step (fun hA hx hq t_ k_ => XS.dup hA hx rfl (hb hq d2_193) rfl rfl k_) ?_
    show OFin _ _ _ _ _ _ T63 (mkF m 194 #[.val (.ref ca), .val (.int (6 : Int32))] [(.ref b63), (.ref b63), (.ref b61), (.ref b61)])
    refine X63.step (fun hA hx hq t_ k_ => XS.iconst hA hx rfl (hb hq d2_194) k_) ?_
    show OFin _ _ _ _ _ _ T63 (mkF m 195 #[.val (.ref ca), .val (.int (6 : Int32))] [(.int (0 : Int32)), (.ref b63), (.ref b63), (.ref b61), (.ref b61)])
    refine X63.step (fun hA hx hq t_ k_ => XS.aloadN hA hx rfl (hb hq d2_195) rfl rfl k_) ?_
    show OFin _ _ _ _ _ _ T63 (mkF m 196 #[.val (.ref ca), .val (.int (6 : Int32))] [(.ref ca), (.int (0 : Int32)), (.ref b63), (.ref b63), (.ref b61), (.ref b61)])
    refine X63.step (fun hA hx hq t_ k_ => XS.iconst hA hx rfl (hb hq d2_196) k_) ?_
    show OFin _ _ _ _ _ _ T63 (mkF m 197 #[.val (.ref ca), .val (.int (6 : Int32))] [(.int (0 : Int32)), (.ref ca), (.int (0 : Int32)), (.ref b63), (.ref b63), (.ref b61), (.ref b61)])
    obtain ⟨r0, Rr0, Rs0, Rh0⟩ := id G0
    obtain ⟨q0, Ar0, Sr0, Hr0⟩ := id V0
    refine X63.aload0 Rr0 (v := (.int (f 0))) (by rw [Rs0]; decide) (by exact Rh0 0 (by decide)) (g := (mkF m 197 #[.val (.ref ca), .val (.int (6 : Int32))] [(.int (0 : Int32)), (.ref ca), (.int (0 : Int32)), (.ref b63), (.ref b63), (.ref b61), (.ref b61)])) rfl rfl (Or.inr (Or.inr (Or.inl ⟨rfl, rfl⟩))) d2_197 ?_
    show OFin _ _ _ _ _ _ T63 (mkF m 198 #[.val (.ref ca), .val (.int (6 : Int32))] [(.int (f 0)), (.int (0 : Int32)), (.ref b63), (.ref b63), (.ref b61), (.ref b61)])
    refine X63.stC Ar0 (by rw [Sr0]; decide) (hB) (g := (mkF m 198 #[.val (.ref ca), .val (.int (6 : Int32))] [(.int (f 0)), (.int (0 : Int32)), (.ref b63), (.ref b63), (.ref b61), (.ref b61)])) rfl rfl d2_198 ?_
    intro T65 h65 X65 W65
    have B66 := B64.wr W65 (Safe.arr X63.1.2.1.alike Ar0 (by decide))
    show OFin _ _ _ _ _ _ T65 (mkF m 199 #[.val (.ref ca), .val (.int (6 : Int32))] [(.ref b63), (.ref b61), (.ref b61)])
    rw [own_narC _ (hch 0).1 (hch 0).2] at W65
    have V1 := V0.set W65
    have G1 := G0.other W65 nc
    refine X65.step (fun hA hx hq t_ k_ => XS.dup hA hx rfl (hb hq d2_199) rfl rfl k_) ?_
    show OFin _ _ _ _ _ _ T65 (mkF m 200 #[.val (.ref ca), .val (.int (6 : Int32))] [(.ref b63), (.ref b63), (.ref b61), (.ref b61)])
    refine X65.step (fun hA hx hq t_ k_ => XS.iconst hA hx rfl (hb hq d2_200) k_) ?_
    show OFin _ _ _ _ _ _ T65 (mkF m 201 #[.val (.ref ca), .val (.int (6 : Int32))] [(.int (1 : Int32)), (.ref b63), (.ref b63), (.ref b61), (.ref b61)])
    refine X65.step (fun hA hx hq t_ k_ => XS.aloadN hA hx rfl (hb hq d2_201) rfl rfl k_) ?_
    show OFin _ _ _ _ _ _ T65 (mkF m 202 #[.val (.ref ca), .val (.int (6 : Int32))] [(.ref ca), (.int (1 : Int32)), (.ref b63), (.ref b63), (.ref b61), (.ref b61)])
    refine X65.step (fun hA hx hq t_ k_ => XS.iconst hA hx rfl (hb hq d2_202) k_) ?_
    show OFin _ _ _ _ _ _ T65 (mkF m 203 #[.val (.ref ca), .val (.int (6 : Int32))] [(.int (1 : Int32)), (.ref ca), (.int (1 : Int32)), (.ref b63), (.ref b63), (.ref b61), (.ref b61)])
    obtain ⟨r1, Rr1, Rs1, Rh1⟩ := id G1
    obtain ⟨q1, Ar1, Sr1, Hr1⟩ := id V1
    refine X65.aload0 Rr1 (v := (.int (f 1))) (by rw [Rs1]; decide) (by exact Rh1 1 (by decide)) (g := (mkF m 203 #[.val (.ref ca), .val (.int (6 : Int32))] [(.int (1 : Int32)), (.ref ca), (.int (1 : Int32)), (.ref b63), (.ref b63), (.ref b61), (.ref b61)])) rfl rfl (Or.inr (Or.inr (Or.inl ⟨rfl, rfl⟩))) d2_203 ?_
    show OFin _ _ _ _ _ _ T65 (mkF m 204 #[.val (.ref ca), .val (.int (6 : Int32))] [(.int (f 1)), (.int (1 : Int32)), (.ref b63), (.ref b63), (.ref b61), (.ref b61)])
    refine X65.stC Ar1 (by rw [Sr1]; decide) (hB) (g := (mkF m 204 #[.val (.ref ca), .val (.int (6 : Int32))] [(.int (f 1)), (.int (1 : Int32)), (.ref b63), (.ref b63), (.ref b61), (.ref b61)])) rfl rfl d2_204 ?_
    intro T67 h67 X67 W67
    have B68 := B66.wr W67 (Safe.arr X65.1.2.1.alike Ar1 (by decide))
    show OFin _ _ _ _ _ _ T67 (mkF m 205 #[.val (.ref ca), .val (.int (6 : Int32))] [(.ref b63), (.ref b61), (.ref b61)])
    rw [own_narC _ (hch 1).1 (hch 1).2] at W67
    have V2 := V1.set W67
    have G2 := G1.other W67 nc
    refine X67.step (fun hA hx hq t_ k_ => XS.dup hA hx rfl (hb hq d2_205) rfl rfl k_) ?_
    show OFin _ _ _ _ _ _ T67 (mkF m 206 #[.val (.ref ca), .val (.int (6 : Int32))] [(.ref b63), (.ref b63), (.ref b61), (.ref b61)])
    refine X67.step (fun hA hx hq t_ k_ => XS.iconst hA hx rfl (hb hq d2_206) k_) ?_
    show OFin _ _ _ _ _ _ T67 (mkF m 207 #[.val (.ref ca), .val (.int (6 : Int32))] [(.int (2 : Int32)), (.ref b63), (.ref b63), (.ref b61), (.ref b61)])
    refine X67.step (fun hA hx hq t_ k_ => XS.aloadN hA hx rfl (hb hq d2_207) rfl rfl k_) ?_
    show OFin _ _ _ _ _ _ T67 (mkF m 208 #[.val (.ref ca), .val (.int (6 : Int32))] [(.ref ca), (.int (2 : Int32)), (.ref b63), (.ref b63), (.ref b61), (.ref b61)])
    refine X67.step (fun hA hx hq t_ k_ => XS.iconst hA hx rfl (hb hq d2_208) k_) ?_
    show OFin _ _ _ _ _ _ T67 (mkF m 209 #[.val (.ref ca), .val (.int (6 : Int32))] [(.int (2 : Int32)), (.ref ca), (.int (2 : Int32)), (.ref b63), (.ref b63), (.ref b61), (.ref b61)])
    obtain ⟨r2, Rr2, Rs2, Rh2⟩ := id G2
    obtain ⟨q2, Ar2, Sr2, Hr2⟩ := id V2
    refine X67.aload0 Rr2 (v := (.int (f 2))) (by rw [Rs2]; decide) (by exact Rh2 2 (by decide)) (g := (mkF m 209 #[.val (.ref ca), .val (.int (6 : Int32))] [(.int (2 : Int32)), (.ref ca), (.int (2 : Int32)), (.ref b63), (.ref b63), (.ref b61), (.ref b61)])) rfl rfl (Or.inr (Or.inr (Or.inl ⟨rfl, rfl⟩))) d2_209 ?_
    show OFin _ _ _ _ _ _ T67 (mkF m 210 #[.val (.ref ca), .val (.int (6 : Int32))] [(.int (f 2)), (.int (2 : Int32)), (.ref b63), (.ref b63), (.ref b61), (.ref b61)])
    refine X67.stC Ar2 (by rw [Sr2]; decide) (hB) (g := (mkF m 210 #[.val (.ref ca), .val (.int (6 : Int32))] [(.int (f 2)), (.int (2 : Int32)), (.ref b63), (.ref b63), (.ref b61), (.ref b61)])) rfl rfl d2_210 ?_
    intro T69 h69 X69 W69
    have B70 := B68.wr W69 (Safe.arr X67.1.2.1.alike Ar2 (by decide))
    show OFin _ _ _ _ _ _ T69 (mkF m 211 #[.val (.ref ca), .val (.int (6 : Int32))] [(.ref b63), (.ref b61), (.ref b61)])
    rw [own_narC _ (hch 2).1 (hch 2).2] at W69
    have V3 := V2.set W69
    have G3 := G2.other W69 nc
    refine X69.step (fun hA hx hq t_ k_ => XS.dup hA hx rfl (hb hq d2_211) rfl rfl k_) ?_
    show OFin _ _ _ _ _ _ T69 (mkF m 212 #[.val (.ref ca), .val (.int (6 : Int32))] [(.ref b63), (.ref b63), (.ref b61), (.ref b61)])
    refine X69.step (fun hA hx hq t_ k_ => XS.iconst hA hx rfl (hb hq d2_212) k_) ?_
    show OFin _ _ _ _ _ _ T69 (mkF m 213 #[.val (.ref ca), .val (.int (6 : Int32))] [(.int (3 : Int32)), (.ref b63), (.ref b63), (.ref b61), (.ref b61)])
    refine X69.step (fun hA hx hq t_ k_ => XS.aloadN hA hx rfl (hb hq d2_213) rfl rfl k_) ?_
    show OFin _ _ _ _ _ _ T69 (mkF m 214 #[.val (.ref ca), .val (.int (6 : Int32))] [(.ref ca), (.int (3 : Int32)), (.ref b63), (.ref b63), (.ref b61), (.ref b61)])
    refine X69.step (fun hA hx hq t_ k_ => XS.iconst hA hx rfl (hb hq d2_214) k_) ?_
    show OFin _ _ _ _ _ _ T69 (mkF m 215 #[.val (.ref ca), .val (.int (6 : Int32))] [(.int (3 : Int32)), (.ref ca), (.int (3 : Int32)), (.ref b63), (.ref b63), (.ref b61), (.ref b61)])
    obtain ⟨r3, Rr3, Rs3, Rh3⟩ := id G3
    obtain ⟨q3, Ar3, Sr3, Hr3⟩ := id V3
    refine X69.aload0 Rr3 (v := (.int (f 3))) (by rw [Rs3]; decide) (by exact Rh3 3 (by decide)) (g := (mkF m 215 #[.val (.ref ca), .val (.int (6 : Int32))] [(.int (3 : Int32)), (.ref ca), (.int (3 : Int32)), (.ref b63), (.ref b63), (.ref b61), (.ref b61)])) rfl rfl (Or.inr (Or.inr (Or.inl ⟨rfl, rfl⟩))) d2_215 ?_
    show OFin _ _ _ _ _ _ T69 (mkF m 216 #[.val (.ref ca), .val (.int (6 : Int32))] [(.int (f 3)), (.int (3 : Int32)), (.ref b63), (.ref b63), (.ref b61), (.ref b61)])
    refine X69.stC Ar3 (by rw [Sr3]; decide) (hB) (g := (mkF m 216 #[.val (.ref ca), .val (.int (6 : Int32))] [(.int (f 3)), (.int (3 : Int32)), (.ref b63), (.ref b63), (.ref b61), (.ref b61)])) rfl rfl d2_216 ?_
    intro T71 h71 X71 W71
    have B72 := B70.wr W71 (Safe.arr X69.1.2.1.alike Ar3 (by decide))
    show OFin _ _ _ _ _ _ T71 (mkF m 217 #[.val (.ref ca), .val (.int (6 : Int32))] [(.ref b63), (.ref b61), (.ref b61)])
    rw [own_narC _ (hch 3).1 (hch 3).2] at W71
    have V4 := V3.set W71
    have G4 := G3.other W71 nc
    refine X71.step (fun hA hx hq t_ k_ => XS.dup hA hx rfl (hb hq d2_217) rfl rfl k_) ?_
    show OFin _ _ _ _ _ _ T71 (mkF m 218 #[.val (.ref ca), .val (.int (6 : Int32))] [(.ref b63), (.ref b63), (.ref b61), (.ref b61)])
    refine X71.step (fun hA hx hq t_ k_ => XS.iconst hA hx rfl (hb hq d2_218) k_) ?_
    show OFin _ _ _ _ _ _ T71 (mkF m 219 #[.val (.ref ca), .val (.int (6 : Int32))] [(.int (4 : Int32)), (.ref b63), (.ref b63), (.ref b61), (.ref b61)])
    refine X71.step (fun hA hx hq t_ k_ => XS.aloadN hA hx rfl (hb hq d2_219) rfl rfl k_) ?_
    show OFin _ _ _ _ _ _ T71 (mkF m 220 #[.val (.ref ca), .val (.int (6 : Int32))] [(.ref ca), (.int (4 : Int32)), (.ref b63), (.ref b63), (.ref b61), (.ref b61)])
    refine X71.step (fun hA hx hq t_ k_ => XS.iconst hA hx rfl (hb hq d2_220) k_) ?_
    show OFin _ _ _ _ _ _ T71 (mkF m 221 #[.val (.ref ca), .val (.int (6 : Int32))] [(.int (4 : Int32)), (.ref ca), (.int (4 : Int32)), (.ref b63), (.ref b63), (.ref b61), (.ref b61)])
    obtain ⟨r4, Rr4, Rs4, Rh4⟩ := id G4
    obtain ⟨q4, Ar4, Sr4, Hr4⟩ := id V4
    refine X71.aload0 Rr4 (v := (.int (f 4))) (by rw [Rs4]; decide) (by exact Rh4 4 (by decide)) (g := (mkF m 221 #[.val (.ref ca), .val (.int (6 : Int32))] [(.int (4 : Int32)), (.ref ca), (.int (4 : Int32)), (.ref b63), (.ref b63), (.ref b61), (.ref b61)])) rfl rfl (Or.inr (Or.inr (Or.inl ⟨rfl, rfl⟩))) d2_221 ?_
    show OFin _ _ _ _ _ _ T71 (mkF m 222 #[.val (.ref ca), .val (.int (6 : Int32))] [(.int (f 4)), (.int (4 : Int32)), (.ref b63), (.ref b63), (.ref b61), (.ref b61)])
    refine X71.stC Ar4 (by rw [Sr4]; decide) (hB) (g := (mkF m 222 #[.val (.ref ca), .val (.int (6 : Int32))] [(.int (f 4)), (.int (4 : Int32)), (.ref b63), (.ref b63), (.ref b61), (.ref b61)])) rfl rfl d2_222 ?_
    intro T73 h73 X73 W73
    have B74 := B72.wr W73 (Safe.arr X71.1.2.1.alike Ar4 (by decide))
    show OFin _ _ _ _ _ _ T73 (mkF m 223 #[.val (.ref ca), .val (.int (6 : Int32))] [(.ref b63), (.ref b61), (.ref b61)])
    rw [own_narC _ (hch 4).1 (hch 4).2] at W73
    have V5 := V4.set W73
    have G5 := G4.other W73 nc
    refine X73.step (fun hA hx hq t_ k_ => XS.dup hA hx rfl (hb hq d2_223) rfl rfl k_) ?_
    show OFin _ _ _ _ _ _ T73 (mkF m 224 #[.val (.ref ca), .val (.int (6 : Int32))] [(.ref b63), (.ref b63), (.ref b61), (.ref b61)])
    refine X73.step (fun hA hx hq t_ k_ => XS.iconst hA hx rfl (hb hq d2_224) k_) ?_
    show OFin _ _ _ _ _ _ T73 (mkF m 225 #[.val (.ref ca), .val (.int (6 : Int32))] [(.int (5 : Int32)), (.ref b63), (.ref b63), (.ref b61), (.ref b61)])
    refine X73.step (fun hA hx hq t_ k_ => XS.aloadN hA hx rfl (hb hq d2_225) rfl rfl k_) ?_
    show OFin _ _ _ _ _ _ T73 (mkF m 226 #[.val (.ref ca), .val (.int (6 : Int32))] [(.ref ca), (.int (5 : Int32)), (.ref b63), (.ref b63), (.ref b61), (.ref b61)])
    refine X73.step (fun hA hx hq t_ k_ => XS.iconst hA hx rfl (hb hq d2_226) k_) ?_
    show OFin _ _ _ _ _ _ T73 (mkF m 227 #[.val (.ref ca), .val (.int (6 : Int32))] [(.int (5 : Int32)), (.ref ca), (.int (5 : Int32)), (.ref b63), (.ref b63), (.ref b61), (.ref b61)])
    obtain ⟨r5, Rr5, Rs5, Rh5⟩ := id G5
    obtain ⟨q5, Ar5, Sr5, Hr5⟩ := id V5
    refine X73.aload0 Rr5 (v := (.int (f 5))) (by rw [Rs5]; decide) (by exact Rh5 5 (by decide)) (g := (mkF m 227 #[.val (.ref ca), .val (.int (6 : Int32))] [(.int (5 : Int32)), (.ref ca), (.int (5 : Int32)), (.ref b63), (.ref b63), (.ref b61), (.ref b61)])) rfl rfl (Or.inr (Or.inr (Or.inl ⟨rfl, rfl⟩))) d2_227 ?_
    show OFin _ _ _ _ _ _ T73 (mkF m 228 #[.val (.ref ca), .val (.int (6 : Int32))] [(.int (f 5)), (.int (5 : Int32)), (.ref b63), (.ref b63), (.ref b61), (.ref b61)])
    refine X73.stC Ar5 (by rw [Sr5]; decide) (hB) (g := (mkF m 228 #[.val (.ref ca), .val (.int (6 : Int32))] [(.int (f 5)), (.int (5 : Int32)), (.ref b63), (.ref b63), (.ref b61), (.ref b61)])) rfl rfl d2_228 ?_
    intro T75 h75 X75 W75
    have B76 := B74.wr W75 (Safe.arr X73.1.2.1.alike Ar5 (by decide))
    show OFin _ _ _ _ _ _ T75 (mkF m 229 #[.val (.ref ca), .val (.int (6 : Int32))] [(.ref b63), (.ref b61), (.ref b61)])
    rw [own_narC _ (hch 5).1 (hch 5).2] at W75
    have V6 := V5.set W75
    have G6 := G5.other W75 nc
    have VC : OArr Z h75 b63 .char 6 (fun j => .int (f j)) := V6.congr fun j hj => by
      have hj' : j < 6 := hj
      match j, hj' with
      | 0, _ => rfl
      | 1, _ => rfl
      | 2, _ => rfl
      | 3, _ => rfl
      | 4, _ => rfl
      | 5, _ => rfl
    have Kc : Keep h0 h75 [] := (((((((((Keep.refl h0 []).ext E61).ext E63).wr W65 (Or.inr hs2)).wr W67 (Or.inr hs2)).wr W69 (Or.inr hs2)).wr W71 (Or.inr hs2)).wr W73 (Or.inr hs2)).wr W75 (Or.inr hs2))
    refine X75.callIW B76 (y' := (⟨"java/lang/String", "<init>", "([C)V"⟩ : MethodName)) rfl (hw _ (List.mem_of_getElem? (i := 14) rfl)) (hw _ (List.mem_of_getElem? (i := 15) rfl)) (hw _ (List.mem_of_getElem? (i := 13) rfl)) (hw _ (List.mem_of_getElem? (i := 16) rfl)) (by decide) (a := b61) (argsL := [(.ref b63)]) (rest := [(.ref b61)]) (sm5x l Z a0 hw b61 b63 6 f cs h75 n0 (((((((Fv.ext E63).other W65 (Or.inl nm)).other W67 (Or.inl nm)).other W69 (Or.inl nm)).other W71 (Or.inl nm)).other W73 (Or.inl nm)).other W75 (Or.inl nm)) (((((((Fc.ext E63).other W65 (Or.inl nm)).other W67 (Or.inl nm)).other W69 (Or.inl nm)).other W71 (Or.inl nm)).other W73 (Or.inl nm)).other W75 (Or.inl nm)) (((((((A61.ext E63).wr W65).wr W67).wr W69).wr W71).wr W73).wr W75) hm VC (by decide) hch (Nat.le_trans Z0 Kc.1) (SA.ext (own_kx Kc)) (SH.ext (own_kx Kc)) (SL.ext (own_kx Kc)) (SS.ext (own_kx Kc)) hcs) (g := (mkF m 229 #[.val (.ref ca), .val (.int (6 : Int32))] [(.ref b63), (.ref b61), (.ref b61)])) rfl rfl pd_pA_Cr_V rfl rfl (W := 1) (by show 2 * 0 + _ ≤ _; exact Nat.le_of_eq rfl) d2_229 (by decide) (by decide) (by decide) (by decide) ?_
    intro v77 T77 h77 vm77 X77 B77 G77 Sf77 q77
    obtain ⟨rfl, K77, S77⟩ := q77
    show OFin _ _ _ _ _ _ T77 (mkF m 232 #[.val (.ref ca), .val (.int (6 : Int32))] [(.ref b61)])
    exact X77.retR rfl rfl d2_232 (oW X77 B77 (by decide) (by decide)) (⟨b61, rfl, S77, Kc.trans K77 (allS (Or.inr hs) all0)⟩)
theorem pn_java_util_Objects : plainName "java/util/Objects" = true := by first | (simp [plainName, overriddenIn]; done) | decide +kernel
theorem d10_0 : decode jdk_31_method_11_code 0 = .ok (.aload_n 0, 1) := by decide +kernel
theorem d10_1 : decode jdk_31_method_11_code 1 = .ok (.ifnonnull 12, 3) := by decide +kernel
theorem d10_13 : decode jdk_31_method_11_code 13 = .ok (.aload_n 0, 1) := by decide +kernel
theorem d10_14 : decode jdk_31_method_11_code 14 = .ok (.areturn, 1) := by decide +kernel
set_option maxRecDepth 65536 in
set_option maxHeartbeats 40000000 in
theorem rm3 (l : Launch) (Z : State) (a0 : Array Value) (hw : ∀ d ∈ tables_1, d.before a0 Z = true) (a1 a2 : Addr) (h0 : Heap) (n0 : Nat)  :
    OMeets l Z (⟨"java/util/Objects", "requireNonNull", "(Ljava/lang/Object;Ljava/lang/String;)Ljava/lang/Object;"⟩ : MethodName) [] jdk_31_method_11_code 2 (some (.object "java/lang/Object")) ({ frames := 0, cells := 0, slots := 0, locals := 0 } : Room) #[(.ref a1), (.ref a2)] h0 n0 (fun v h => v = some (.ref a1) ∧ h0 = h) := by
  refine o_enter (Z := Z) (plainFor_of_name pn_java_util_Objects) ?_
  intro p e s m below meth c T0 X0
  refine OFin.cast (g' := (mkF m 0 #[.val (.ref a1), .val (.ref a2)] [])) (by first | (simp [entryFrame, mkF, argsToLocals, Value.category]; done) | rfl) ?_
  refine X0.step (fun hA hx hq t_ k_ => XS.aloadN hA hx rfl (hb hq d10_0) rfl rfl k_) ?_
  show OFin _ _ _ _ _ _ T0 (mkF m 1 #[.val (.ref a1), .val (.ref a2)] [(.ref a1)])
  refine X0.step (fun hA hx hq t_ k_ => XS.ifnonnullYes hA hx rfl (pc0 := 1) (pc' := 13) rfl (hb hq d10_1) rfl (by decide) (by decide) k_) ?_
  show OFin _ _ _ _ _ _ T0 (mkF m 13 #[.val (.ref a1), .val (.ref a2)] [])
  refine X0.step (fun hA hx hq t_ k_ => XS.aloadN hA hx rfl (hb hq d10_13) rfl rfl k_) ?_
  show OFin _ _ _ _ _ _ T0 (mkF m 14 #[.val (.ref a1), .val (.ref a2)] [(.ref a1)])
  exact X0.retR rfl rfl d10_14 (oN (by decide) (by decide)) (⟨rfl, rfl⟩)
theorem own_st3 {v0 v1 v2 : Value} {s3 s4 : Slot} {x : Int32} (h2 : v2.category = 1) (h3 : One s3) (h4 : One s4) : storeLocals #[.val v0, .val v1, .val v2, s3, s4] 3 (.int x) = some #[.val v0, .val v1, .val v2, .val (.int x), s4] := by
  rcases h3 with rfl | ⟨w, rfl, hw⟩ <;> rcases h4 with rfl | ⟨w4, rfl, hw4⟩ <;> cases v2 <;> simp_all [storeLocals, Value.category] <;> rfl
theorem own_st4 {v0 v1 v2 v3 : Value} {s4 : Slot} (h4 : One s4) (h3 : v3.category = 1) : storeLocals #[.val v0, .val v1, .val v2, .val v3, s4] 4 .null = some #[.val v0, .val v1, .val v2, .val v3, .val .null] := by
  rcases h4 with rfl | ⟨w4, rfl, hw4⟩ <;> cases v3 <;> simp_all [storeLocals, Value.category] <;> rfl
theorem pn_com_example_libidem_libidem_Texts : plainName "com/example/libidem/libidem/Texts" = true := by first | (simp [plainName, overriddenIn]; done) | decide +kernel
theorem d9_0 : decode prog_48_method_2_code 0 = .ok (.aload_n 0, 1) := by decide +kernel
theorem d9_1 : decode prog_48_method_2_code 1 = .ok (.aload_n 1, 1) := by decide +kernel
theorem d9_2 : decode prog_48_method_2_code 2 = .ok (.invokestatic 7, 3) := by decide +kernel
theorem pd_pLjava_lang_Object_Ljava_lang_String_r_Ljava_lang_Object_ : parseMethodDescriptor "(Ljava/lang/Object;Ljava/lang/String;)Ljava/lang/Object;" = some ⟨[(.object "java/lang/Object"), (.object "java/lang/String")], some (.object "java/lang/Object")⟩ := by decide +kernel
theorem d9_5 : decode prog_48_method_2_code 5 = .ok (.pop, 1) := by decide +kernel
theorem d9_6 : decode prog_48_method_2_code 6 = .ok (.iconst 0, 1) := by decide +kernel
theorem d9_7 : decode prog_48_method_2_code 7 = .ok (.istore_n 2, 1) := by decide +kernel
theorem d9_8 : decode prog_48_method_2_code 8 = .ok (.iload_n 2, 1) := by decide +kernel
theorem d9_9 : decode prog_48_method_2_code 9 = .ok (.aload_n 0, 1) := by decide +kernel
theorem d9_10 : decode prog_48_method_2_code 10 = .ok (.invokevirtual 13, 3) := by decide +kernel
theorem pd_pr_I : parseMethodDescriptor "()I" = some ⟨[], some .int⟩ := by decide +kernel
theorem d9_13 : decode prog_48_method_2_code 13 = .ok (.if_icmp .ge 94, 3) := by decide +kernel
theorem d9_107 : decode prog_48_method_2_code 107 = .ok (.aload_n 0, 1) := by decide +kernel
theorem d9_108 : decode prog_48_method_2_code 108 = .ok (.areturn, 1) := by decide +kernel
theorem d9_16 : decode prog_48_method_2_code 16 = .ok (.aload_n 0, 1) := by decide +kernel
theorem d9_17 : decode prog_48_method_2_code 17 = .ok (.iload_n 2, 1) := by decide +kernel
theorem d9_18 : decode prog_48_method_2_code 18 = .ok (.invokevirtual 19, 3) := by decide +kernel
theorem d9_21 : decode prog_48_method_2_code 21 = .ok (.istore_n 3, 1) := by decide +kernel
theorem d9_22 : decode prog_48_method_2_code 22 = .ok (.aconst_null, 1) := by decide +kernel
theorem d9_23 : decode prog_48_method_2_code 23 = .ok (.astore 4, 2) := by decide +kernel
theorem d9_25 : decode prog_48_method_2_code 25 = .ok (.iload_n 3, 1) := by decide +kernel
theorem d9_26 : decode prog_48_method_2_code 26 = .ok (.ifCond .ne 10, 3) := by decide +kernel
theorem d9_36 : decode prog_48_method_2_code 36 = .ok (.iload_n 3, 1) := by decide +kernel
theorem d9_37 : decode prog_48_method_2_code 37 = .ok (.ldc 27, 2) := by decide +kernel
theorem d9_39 : decode prog_48_method_2_code 39 = .ok (.if_icmp .lt 13, 3) := by decide +kernel
theorem d9_42 : decode prog_48_method_2_code 42 = .ok (.iload_n 3, 1) := by decide +kernel
theorem d9_43 : decode prog_48_method_2_code 43 = .ok (.ldc 28, 2) := by decide +kernel
theorem d9_45 : decode prog_48_method_2_code 45 = .ok (.if_icmp .gt 7, 3) := by decide +kernel
theorem d9_52 : decode prog_48_method_2_code 52 = .ok (.aload 4, 2) := by decide +kernel
theorem d9_54 : decode prog_48_method_2_code 54 = .ok (.ifnull 43, 3) := by decide +kernel
theorem d9_97 : decode prog_48_method_2_code 97 = .ok (.iload_n 2, 1) := by decide +kernel
theorem d9_98 : decode prog_48_method_2_code 98 = .ok (.iload_n 3, 1) := by decide +kernel
theorem d9_99 : decode prog_48_method_2_code 99 = .ok (.invokestatic 48, 3) := by decide +kernel
theorem d9_102 : decode prog_48_method_2_code 102 = .ok (.iadd, 1) := by decide +kernel
theorem d9_103 : decode prog_48_method_2_code 103 = .ok (.istore_n 2, 1) := by decide +kernel
theorem d9_104 : decode prog_48_method_2_code 104 = .ok (.goto (-96), 3) := by decide +kernel
set_option maxRecDepth 65536 in
set_option maxHeartbeats 40000000 in
theorem rm4 (l : Launch) (Z : State) (a0 : Array Value) (hw : ∀ d ∈ tables_1, d.before a0 Z = true) (a1 a2 : Addr) (N : Nat) (f : Nat → Int32) (cs : Int32) (vf : Value) (h0 : Heap) (n0 : Nat) (S : OStrX Z h0 a1 N f) (hN : N ≤ 6) (hwf : own_wf f N 3 0) (hch : ∀ j, own_chr16 (f j)) (SA : Sta Z h0 "java/lang/StringUTF16" "$assertionsDisabled" "Z" (.int 1)) (SH : Sta Z h0 "java/lang/StringUTF16" "HI_BYTE_SHIFT" "I" (.int 0)) (SL : Sta Z h0 "java/lang/StringUTF16" "LO_BYTE_SHIFT" "I" (.int 8)) (SS : Sta Z h0 "java/lang/String" "COMPACT_STRINGS" "Z" (.int cs)) (hcs : ¬ cs = 0) (SP : Sta Z h0 "jdk/internal/util/Preconditions" "SIOOBE_FORMATTER" "Ljava/util/function/BiFunction;" vf) (rf : vf.isRef = true) :
    OMeets l Z (⟨"com/example/libidem/libidem/Texts", "requireStorable", "(Ljava/lang/String;Ljava/lang/String;)Ljava/lang/String;"⟩ : MethodName) [] prog_48_method_2_code 5 (some (.object "java/lang/String")) ({ frames := 4, cells := 0, slots := 0, locals := 60 } : Room) #[(.ref a1), (.ref a2)] h0 n0 (fun v h => v = some (.ref a1) ∧ h0 = h) := by
  refine o_enter (Z := Z) (plainFor_of_name pn_com_example_libidem_libidem_Texts) ?_
  intro p e s m below meth c T0 X0
  refine OFin.cast (g' := (mkF m 0 #[.val (.ref a1), .val (.ref a2), .unset, .unset, .unset] [])) (by first | (simp [entryFrame, mkF, argsToLocals, Value.category]; done) | rfl) ?_
  have e55296 : (55296 : Int32).toInt = 55296 := (by decide)
  have e57343 : (57343 : Int32).toInt = 57343 := (by decide)
  have e0 : (0 : Int32).toInt = 0 := by decide
  refine X0.step (fun hA hx hq t_ k_ => XS.aloadN hA hx rfl (hb hq d9_0) rfl rfl k_) ?_
  show OFin _ _ _ _ _ _ T0 (mkF m 1 #[.val (.ref a1), .val (.ref a2), .unset, .unset, .unset] [(.ref a1)])
  refine X0.step (fun hA hx hq t_ k_ => XS.aloadN hA hx rfl (hb hq d9_1) rfl rfl k_) ?_
  show OFin _ _ _ _ _ _ T0 (mkF m 2 #[.val (.ref a1), .val (.ref a2), .unset, .unset, .unset] [(.ref a2), (.ref a1)])
  refine X0.callS (y' := (⟨"java/util/Objects", "requireNonNull", "(Ljava/lang/Object;Ljava/lang/String;)Ljava/lang/Object;"⟩ : MethodName)) (hw _ (List.mem_of_getElem? (i := 47) rfl)) (hw _ (List.mem_of_getElem? (i := 48) rfl)) (hw _ (List.mem_of_getElem? (i := 49) rfl)) (hw _ (List.mem_of_getElem? (i := 50) rfl)) (by decide) (argsL := [(.ref a1), (.ref a2)]) (rest := []) (rm3 l Z a0 hw a1 a2 h0 n0) (g := (mkF m 2 #[.val (.ref a1), .val (.ref a2), .unset, .unset, .unset] [(.ref a2), (.ref a1)])) rfl rfl pd_pLjava_lang_Object_Ljava_lang_String_r_Ljava_lang_Object_ rfl rfl (W := 0) (by show 2 * 0 + _ ≤ _; exact Nat.le_of_eq rfl) d9_2 (by decide) (by decide) (by decide) (by decide) ?_
  intro v1 T1 h1 X1 q1
  obtain ⟨rfl, rfl⟩ := q1
  show OFin _ _ _ _ _ _ T1 (mkF m 5 #[.val (.ref a1), .val (.ref a2), .unset, .unset, .unset] [(.ref a1)])
  refine X1.step (fun hA hx hq t_ k_ => XS.pop hA hx rfl (hb hq d9_5) rfl rfl k_) ?_
  show OFin _ _ _ _ _ _ T1 (mkF m 6 #[.val (.ref a1), .val (.ref a2), .unset, .unset, .unset] [])
  refine X1.step (fun hA hx hq t_ k_ => XS.iconst hA hx rfl (hb hq d9_6) k_) ?_
  show OFin _ _ _ _ _ _ T1 (mkF m 7 #[.val (.ref a1), .val (.ref a2), .unset, .unset, .unset] [(.int (0 : Int32))])
  refine X1.step (fun hA hx hq t_ k_ => XS.istoreN hA hx rfl (hb hq d9_7) rfl (l' := #[.val (.ref a1), .val (.ref a2), .val (.int (0 : Int32)), .unset, .unset]) rfl k_) ?_
  show OFin _ _ _ _ _ _ T1 (mkF m 8 #[.val (.ref a1), .val (.ref a2), .val (.int (0 : Int32)), .unset, .unset] [])
  have loop : ∀ (k i : Nat) (T : State) (s3 s4 : Slot), own_wf f N k i → One s3 → One s4 → OAt n0 Z (⟨"com/example/libidem/libidem/Texts", "requireStorable", "(Ljava/lang/String;Ljava/lang/String;)Ljava/lang/String;"⟩ : MethodName) prog_48_method_2_code 5 (some (.object "java/lang/String")) p l e ({ frames := 4, cells := 0, slots := 0, locals := 60 } : Room) s m #[(.ref a1), (.ref a2)] below meth c T h0 0 0 → OFin n0 p e (fun o t L => FrameEnd s o t L ({ frames := 4, cells := 0, slots := 0, locals := 60 } : Room).cells ({ frames := 4, cells := 0, slots := 0, locals := 60 } : Room).slots) below (fun v h => v = some (.ref a1) ∧ h0 = h) T (mkF m 8 #[.val (.ref a1), .val (.ref a2), .val (.int (Int32.ofNat i)), s3, s4] []) := by
    intro k
    induction k with
    | zero =>
      intro i T s3 s4 hk h3 h4 X
      have hiN : i = N := hk
      refine X.step (fun hA hx hq t_ k_ => XS.iloadN hA hx rfl (hb hq d9_8) rfl k_) ?_
      show OFin _ _ _ _ _ _ T (mkF m 9 #[.val (.ref a1), .val (.ref a2), .val (.int (Int32.ofNat i)), s3, s4] [(.int (Int32.ofNat i))])
      refine X.step (fun hA hx hq t_ k_ => XS.aloadN hA hx rfl (hb hq d9_9) rfl rfl k_) ?_
      show OFin _ _ _ _ _ _ T (mkF m 10 #[.val (.ref a1), .val (.ref a2), .val (.int (Int32.ofNat i)), s3, s4] [(.ref a1), (.int (Int32.ofNat i))])
      refine X.callV (y' := (⟨"java/lang/String", "length", "()I"⟩ : MethodName)) (z' := (⟨"java/lang/String", "length", "()I"⟩ : MethodName)) (hw _ (List.mem_of_getElem? (i := 51) rfl)) (hw _ (List.mem_of_getElem? (i := 52) rfl)) (X.notFace (hw _ (List.mem_of_getElem? (i := 54) rfl)) rfl) (hw _ (List.mem_of_getElem? (i := 54) rfl)) (hw _ (List.mem_of_getElem? (i := 53) rfl)) (hw _ (List.mem_of_getElem? (i := 13) rfl)) (hw _ (List.mem_of_getElem? (i := 55) rfl)) (by decide) S.exa (argsL := []) (rest := [(.int (Int32.ofNat i))]) (slx l Z a0 hw a1 N f cs h0 n0 S (by omega) SS hcs) (g := (mkF m 10 #[.val (.ref a1), .val (.ref a2), .val (.int (Int32.ofNat i)), s3, s4] [(.ref a1), (.int (Int32.ofNat i))])) rfl rfl pd_pr_I rfl rfl (W := 1) (by show 2 * 0 + _ ≤ _; exact Nat.le_of_eq rfl) d9_10 (by decide) (by decide) (by decide) (by decide) ?_
      intro v2 T2 h2 X2 q2
      obtain ⟨rfl, rfl⟩ := q2
      show OFin _ _ _ _ _ _ T2 (mkF m 13 #[.val (.ref a1), .val (.ref a2), .val (.int (Int32.ofNat i)), s3, s4] [(.int (Int32.ofNat N)), (.int (Int32.ofNat i))])
      refine X2.step (fun hA hx hq t_ k_ => XS.icmpYes hA hx rfl (pc0 := 13) (pc' := 107) rfl (hb hq d9_13) rfl (flt (fun c => by rw [own_lt32 i N (by omega) (by omega)] at c; omega)).2.1 (by decide) (by decide) k_) ?_
      show OFin _ _ _ _ _ _ T2 (mkF m 107 #[.val (.ref a1), .val (.ref a2), .val (.int (Int32.ofNat i)), s3, s4] [])
      refine X2.step (fun hA hx hq t_ k_ => XS.aloadN hA hx rfl (hb hq d9_107) rfl rfl k_) ?_
      show OFin _ _ _ _ _ _ T2 (mkF m 108 #[.val (.ref a1), .val (.ref a2), .val (.int (Int32.ofNat i)), s3, s4] [(.ref a1)])
      exact X2.retR rfl rfl d9_108 (oN (by decide) (by decide)) (⟨rfl, rfl⟩)
    | succ k ih =>
      intro i T s3 s4 hk h3 h4 X
      obtain ⟨j, hs, hk⟩ := hk
      have hjN := hk.le
      rcases hs with rfl | ⟨rfl, ho⟩ | ⟨rfl, ho, ho2⟩
      · exact ih j T s3 s4 hk h3 h4 X
      · refine X.step (fun hA hx hq t_ k_ => XS.iloadN hA hx rfl (hb hq d9_8) rfl k_) ?_
        show OFin _ _ _ _ _ _ T (mkF m 9 #[.val (.ref a1), .val (.ref a2), .val (.int (Int32.ofNat i)), s3, s4] [(.int (Int32.ofNat i))])
        refine X.step (fun hA hx hq t_ k_ => XS.aloadN hA hx rfl (hb hq d9_9) rfl rfl k_) ?_
        show OFin _ _ _ _ _ _ T (mkF m 10 #[.val (.ref a1), .val (.ref a2), .val (.int (Int32.ofNat i)), s3, s4] [(.ref a1), (.int (Int32.ofNat i))])
        refine X.callV (y' := (⟨"java/lang/String", "length", "()I"⟩ : MethodName)) (z' := (⟨"java/lang/String", "length", "()I"⟩ : MethodName)) (hw _ (List.mem_of_getElem? (i := 51) rfl)) (hw _ (List.mem_of_getElem? (i := 52) rfl)) (X.notFace (hw _ (List.mem_of_getElem? (i := 54) rfl)) rfl) (hw _ (List.mem_of_getElem? (i := 54) rfl)) (hw _ (List.mem_of_getElem? (i := 53) rfl)) (hw _ (List.mem_of_getElem? (i := 13) rfl)) (hw _ (List.mem_of_getElem? (i := 55) rfl)) (by decide) S.exa (argsL := []) (rest := [(.int (Int32.ofNat i))]) (slx l Z a0 hw a1 N f cs h0 n0 S (by omega) SS hcs) (g := (mkF m 10 #[.val (.ref a1), .val (.ref a2), .val (.int (Int32.ofNat i)), s3, s4] [(.ref a1), (.int (Int32.ofNat i))])) rfl rfl pd_pr_I rfl rfl (W := 1) (by show 2 * 0 + _ ≤ _; exact Nat.le_of_eq rfl) d9_10 (by decide) (by decide) (by decide) (by decide) ?_
        intro v3 T3 h3 X3 q3
        obtain ⟨rfl, rfl⟩ := q3
        show OFin _ _ _ _ _ _ T3 (mkF m 13 #[.val (.ref a1), .val (.ref a2), .val (.int (Int32.ofNat i)), s3, s4] [(.int (Int32.ofNat N)), (.int (Int32.ofNat i))])
        refine X3.step (fun hA hx hq t_ k_ => XS.icmpNo hA hx rfl (hb hq d9_13) rfl (tlt ((own_lt32 i N (by omega) (by omega)).mpr (by omega))).2.1 k_) ?_
        show OFin _ _ _ _ _ _ T3 (mkF m 16 #[.val (.ref a1), .val (.ref a2), .val (.int (Int32.ofNat i)), s3, s4] [])
        refine X3.step (fun hA hx hq t_ k_ => XS.aloadN hA hx rfl (hb hq d9_16) rfl rfl k_) ?_
        show OFin _ _ _ _ _ _ T3 (mkF m 17 #[.val (.ref a1), .val (.ref a2), .val (.int (Int32.ofNat i)), s3, s4] [(.ref a1)])
        refine X3.step (fun hA hx hq t_ k_ => XS.iloadN hA hx rfl (hb hq d9_17) rfl k_) ?_
        show OFin _ _ _ _ _ _ T3 (mkF m 18 #[.val (.ref a1), .val (.ref a2), .val (.int (Int32.ofNat i)), s3, s4] [(.int (Int32.ofNat i)), (.ref a1)])
        refine X3.callV (y' := (⟨"java/lang/String", "codePointAt", "(I)I"⟩ : MethodName)) (z' := (⟨"java/lang/String", "codePointAt", "(I)I"⟩ : MethodName)) (hw _ (List.mem_of_getElem? (i := 61) rfl)) (hw _ (List.mem_of_getElem? (i := 62) rfl)) (X3.notFace (hw _ (List.mem_of_getElem? (i := 64) rfl)) rfl) (hw _ (List.mem_of_getElem? (i := 64) rfl)) (hw _ (List.mem_of_getElem? (i := 63) rfl)) (hw _ (List.mem_of_getElem? (i := 13) rfl)) (hw _ (List.mem_of_getElem? (i := 65) rfl)) (by decide) S.exa (argsL := [(.int (Int32.ofNat i))]) (rest := []) (sp1x l Z a0 hw a1 N f i cs vf h0 n0 S (by omega) (by omega) ho hch SA SH SL SS hcs SP rf) (g := (mkF m 18 #[.val (.ref a1), .val (.ref a2), .val (.int (Int32.ofNat i)), s3, s4] [(.int (Int32.ofNat i)), (.ref a1)])) rfl rfl pd_pIr_I rfl rfl (W := 0) (by show 2 * 0 + _ ≤ _; exact Nat.le_of_eq rfl) d9_18 (by decide) (by decide) (by decide) (by decide) ?_
        intro v4 T4 h4 X4 q4
        obtain ⟨rfl, rfl⟩ := q4
        show OFin _ _ _ _ _ _ T4 (mkF m 21 #[.val (.ref a1), .val (.ref a2), .val (.int (Int32.ofNat i)), s3, s4] [(.int (f i))])
        unfold own_o1 at ho
        refine X4.step (fun hA hx hq t_ k_ => XS.istoreN hA hx rfl (hb hq d9_21) rfl (l' := #[.val (.ref a1), .val (.ref a2), .val (.int (Int32.ofNat i)), .val (.int (f i)), s4]) (own_st3 rfl h3 h4) k_) ?_
        show OFin _ _ _ _ _ _ T4 (mkF m 22 #[.val (.ref a1), .val (.ref a2), .val (.int (Int32.ofNat i)), .val (.int (f i)), s4] [])
        refine X4.step (fun hA hx hq t_ k_ => XS.aconstNull hA hx rfl (hb hq d9_22) k_) ?_
        show OFin _ _ _ _ _ _ T4 (mkF m 23 #[.val (.ref a1), .val (.ref a2), .val (.int (Int32.ofNat i)), .val (.int (f i)), s4] [.null])
        refine X4.step (fun hA hx hq t_ k_ => XS.astore hA hx rfl (hb hq d9_23) rfl rfl (l' := #[.val (.ref a1), .val (.ref a2), .val (.int (Int32.ofNat i)), .val (.int (f i)), .val .null]) (own_st4 h4 rfl) k_) ?_
        show OFin _ _ _ _ _ _ T4 (mkF m 25 #[.val (.ref a1), .val (.ref a2), .val (.int (Int32.ofNat i)), .val (.int (f i)), .val .null] [])
        refine X4.step (fun hA hx hq t_ k_ => XS.iloadN hA hx rfl (hb hq d9_25) rfl k_) ?_
        show OFin _ _ _ _ _ _ T4 (mkF m 26 #[.val (.ref a1), .val (.ref a2), .val (.int (Int32.ofNat i)), .val (.int (f i)), .val .null] [(.int (f i))])
        refine X4.step (fun hA hx hq t_ k_ => XS.ifYes hA hx rfl (pc0 := 26) (pc' := 36) rfl (hb hq d9_26) rfl ((if0 _ _).trans (feq (fun z => by have z2 := congrArg Int32.toInt z; omega)).2) (by decide) (by decide) k_) ?_
        show OFin _ _ _ _ _ _ T4 (mkF m 36 #[.val (.ref a1), .val (.ref a2), .val (.int (Int32.ofNat i)), .val (.int (f i)), .val .null] [])
        refine X4.step (fun hA hx hq t_ k_ => XS.iloadN hA hx rfl (hb hq d9_36) rfl k_) ?_
        show OFin _ _ _ _ _ _ T4 (mkF m 37 #[.val (.ref a1), .val (.ref a2), .val (.int (Int32.ofNat i)), .val (.int (f i)), .val .null] [(.int (f i))])
        refine X4.ldcI (hw _ (List.mem_of_getElem? (i := 79) rfl)) (g := (mkF m 37 #[.val (.ref a1), .val (.ref a2), .val (.int (Int32.ofNat i)), .val (.int (f i)), .val .null] [(.int (f i))])) rfl d9_37 ?_
        show OFin _ _ _ _ _ _ T4 (mkF m 39 #[.val (.ref a1), .val (.ref a2), .val (.int (Int32.ofNat i)), .val (.int (f i)), .val .null] [(.int (55296 : Int32)), (.int (f i))])
        by_cases c : (f i) < (55296 : Int32)
        · refine X4.step (fun hA hx hq t_ k_ => XS.icmpYes hA hx rfl (pc0 := 39) (pc' := 52) rfl (hb hq d9_39) rfl (tlt (c)).1 (by decide) (by decide) k_) ?_
          show OFin _ _ _ _ _ _ T4 (mkF m 52 #[.val (.ref a1), .val (.ref a2), .val (.int (Int32.ofNat i)), .val (.int (f i)), .val .null] [])
          refine X4.step (fun hA hx hq t_ k_ => XS.aload hA hx rfl (hb hq d9_52) rfl rfl k_) ?_
          show OFin _ _ _ _ _ _ T4 (mkF m 54 #[.val (.ref a1), .val (.ref a2), .val (.int (Int32.ofNat i)), .val (.int (f i)), .val .null] [.null])
          refine X4.step (fun hA hx hq t_ k_ => XS.ifnullYes hA hx rfl (pc0 := 54) (pc' := 97) rfl (hb hq d9_54) rfl (by decide) (by decide) k_) ?_
          show OFin _ _ _ _ _ _ T4 (mkF m 97 #[.val (.ref a1), .val (.ref a2), .val (.int (Int32.ofNat i)), .val (.int (f i)), .val .null] [])
          refine X4.step (fun hA hx hq t_ k_ => XS.iloadN hA hx rfl (hb hq d9_97) rfl k_) ?_
          show OFin _ _ _ _ _ _ T4 (mkF m 98 #[.val (.ref a1), .val (.ref a2), .val (.int (Int32.ofNat i)), .val (.int (f i)), .val .null] [(.int (Int32.ofNat i))])
          refine X4.step (fun hA hx hq t_ k_ => XS.iloadN hA hx rfl (hb hq d9_98) rfl k_) ?_
          show OFin _ _ _ _ _ _ T4 (mkF m 99 #[.val (.ref a1), .val (.ref a2), .val (.int (Int32.ofNat i)), .val (.int (f i)), .val .null] [(.int (f i)), (.int (Int32.ofNat i))])
          refine X4.callS (y' := (⟨"java/lang/Character", "charCount", "(I)I"⟩ : MethodName)) (hw _ (List.mem_of_getElem? (i := 80) rfl)) (hw _ (List.mem_of_getElem? (i := 81) rfl)) (hw _ (List.mem_of_getElem? (i := 82) rfl)) (hw _ (List.mem_of_getElem? (i := 83) rfl)) (by decide) (argsL := [(.int (f i))]) (rest := [(.int (Int32.ofNat i))]) (sk5 l Z a0 hw (f i) h0 n0 (by omega)) (g := (mkF m 99 #[.val (.ref a1), .val (.ref a2), .val (.int (Int32.ofNat i)), .val (.int (f i)), .val .null] [(.int (f i)), (.int (Int32.ofNat i))])) rfl rfl pd_pIr_I rfl rfl (W := 1) (by show 2 * 0 + _ ≤ _; exact Nat.le_of_eq rfl) d9_99 (by decide) (by decide) (by decide) (by decide) ?_
          intro v5 T5 h5 X5 q5
          obtain ⟨rfl, rfl⟩ := q5
          show OFin _ _ _ _ _ _ T5 (mkF m 102 #[.val (.ref a1), .val (.ref a2), .val (.int (Int32.ofNat i)), .val (.int (f i)), .val .null] [(.int (1 : Int32)), (.int (Int32.ofNat i))])
          refine X5.step (fun hA hx hq t_ k_ => XS.iadd hA hx rfl (hb hq d9_102) rfl k_) ?_
          show OFin _ _ _ _ _ _ T5 (mkF m 103 #[.val (.ref a1), .val (.ref a2), .val (.int (Int32.ofNat i)), .val (.int (f i)), .val .null] [(.int ((Int32.ofNat i) + (1 : Int32)))])
          rw [show Int32.ofNat i + (1 : Int32) = Int32.ofNat (i + 1) from own_add32 i 1 (by omega)]
          show OFin _ _ _ _ _ _ T5 (mkF m 103 #[.val (.ref a1), .val (.ref a2), .val (.int (Int32.ofNat i)), .val (.int (f i)), .val .null] [(.int (Int32.ofNat (i + 1)))])
          refine X5.step (fun hA hx hq t_ k_ => XS.istoreN hA hx rfl (hb hq d9_103) rfl (l' := #[.val (.ref a1), .val (.ref a2), .val (.int (Int32.ofNat (i + 1))), .val (.int (f i)), .val .null]) rfl k_) ?_
          show OFin _ _ _ _ _ _ T5 (mkF m 104 #[.val (.ref a1), .val (.ref a2), .val (.int (Int32.ofNat (i + 1))), .val (.int (f i)), .val .null] [])
          refine X5.step (fun hA hx hq t_ k_ => XS.goto hA hx rfl (pc0 := 104) (pc' := 8) rfl (hb hq d9_104) (by decide) (by decide) k_) ?_
          show OFin _ _ _ _ _ _ T5 (mkF m 8 #[.val (.ref a1), .val (.ref a2), .val (.int (Int32.ofNat (i + 1))), .val (.int (f i)), .val .null] [])
          exact ih (i + 1) T5 _ _ hk (One.val rfl) (One.val rfl) X5
        · refine X4.step (fun hA hx hq t_ k_ => XS.icmpNo hA hx rfl (hb hq d9_39) rfl (flt (c)).1 k_) ?_
          show OFin _ _ _ _ _ _ T4 (mkF m 42 #[.val (.ref a1), .val (.ref a2), .val (.int (Int32.ofNat i)), .val (.int (f i)), .val .null] [])
          rw [Int32.lt_iff_toInt_lt] at c
          refine X4.step (fun hA hx hq t_ k_ => XS.iloadN hA hx rfl (hb hq d9_42) rfl k_) ?_
          show OFin _ _ _ _ _ _ T4 (mkF m 43 #[.val (.ref a1), .val (.ref a2), .val (.int (Int32.ofNat i)), .val (.int (f i)), .val .null] [(.int (f i))])
          refine X4.ldcI (hw _ (List.mem_of_getElem? (i := 117) rfl)) (g := (mkF m 43 #[.val (.ref a1), .val (.ref a2), .val (.int (Int32.ofNat i)), .val (.int (f i)), .val .null] [(.int (f i))])) rfl d9_43 ?_
          show OFin _ _ _ _ _ _ T4 (mkF m 45 #[.val (.ref a1), .val (.ref a2), .val (.int (Int32.ofNat i)), .val (.int (f i)), .val .null] [(.int (57343 : Int32)), (.int (f i))])
          refine X4.step (fun hA hx hq t_ k_ => XS.icmpYes hA hx rfl (pc0 := 45) (pc' := 52) rfl (hb hq d9_45) rfl (tlt ((by rw [Int32.lt_iff_toInt_lt]; omega))).2.2.1 (by decide) (by decide) k_) ?_
          show OFin _ _ _ _ _ _ T4 (mkF m 52 #[.val (.ref a1), .val (.ref a2), .val (.int (Int32.ofNat i)), .val (.int (f i)), .val .null] [])
          refine X4.step (fun hA hx hq t_ k_ => XS.aload hA hx rfl (hb hq d9_52) rfl rfl k_) ?_
          show OFin _ _ _ _ _ _ T4 (mkF m 54 #[.val (.ref a1), .val (.ref a2), .val (.int (Int32.ofNat i)), .val (.int (f i)), .val .null] [.null])
          refine X4.step (fun hA hx hq t_ k_ => XS.ifnullYes hA hx rfl (pc0 := 54) (pc' := 97) rfl (hb hq d9_54) rfl (by decide) (by decide) k_) ?_
          show OFin _ _ _ _ _ _ T4 (mkF m 97 #[.val (.ref a1), .val (.ref a2), .val (.int (Int32.ofNat i)), .val (.int (f i)), .val .null] [])
          refine X4.step (fun hA hx hq t_ k_ => XS.iloadN hA hx rfl (hb hq d9_97) rfl k_) ?_
          show OFin _ _ _ _ _ _ T4 (mkF m 98 #[.val (.ref a1), .val (.ref a2), .val (.int (Int32.ofNat i)), .val (.int (f i)), .val .null] [(.int (Int32.ofNat i))])
          refine X4.step (fun hA hx hq t_ k_ => XS.iloadN hA hx rfl (hb hq d9_98) rfl k_) ?_
          show OFin _ _ _ _ _ _ T4 (mkF m 99 #[.val (.ref a1), .val (.ref a2), .val (.int (Int32.ofNat i)), .val (.int (f i)), .val .null] [(.int (f i)), (.int (Int32.ofNat i))])
          refine X4.callS (y' := (⟨"java/lang/Character", "charCount", "(I)I"⟩ : MethodName)) (hw _ (List.mem_of_getElem? (i := 80) rfl)) (hw _ (List.mem_of_getElem? (i := 81) rfl)) (hw _ (List.mem_of_getElem? (i := 82) rfl)) (hw _ (List.mem_of_getElem? (i := 83) rfl)) (by decide) (argsL := [(.int (f i))]) (rest := [(.int (Int32.ofNat i))]) (sk5 l Z a0 hw (f i) h0 n0 (by omega)) (g := (mkF m 99 #[.val (.ref a1), .val (.ref a2), .val (.int (Int32.ofNat i)), .val (.int (f i)), .val .null] [(.int (f i)), (.int (Int32.ofNat i))])) rfl rfl pd_pIr_I rfl rfl (W := 1) (by show 2 * 0 + _ ≤ _; exact Nat.le_of_eq rfl) d9_99 (by decide) (by decide) (by decide) (by decide) ?_
          intro v6 T6 h6 X6 q6
          obtain ⟨rfl, rfl⟩ := q6
          show OFin _ _ _ _ _ _ T6 (mkF m 102 #[.val (.ref a1), .val (.ref a2), .val (.int (Int32.ofNat i)), .val (.int (f i)), .val .null] [(.int (1 : Int32)), (.int (Int32.ofNat i))])
          refine X6.step (fun hA hx hq t_ k_ => XS.iadd hA hx rfl (hb hq d9_102) rfl k_) ?_
          show OFin _ _ _ _ _ _ T6 (mkF m 103 #[.val (.ref a1), .val (.ref a2), .val (.int (Int32.ofNat i)), .val (.int (f i)), .val .null] [(.int ((Int32.ofNat i) + (1 : Int32)))])
          rw [show Int32.ofNat i + (1 : Int32) = Int32.ofNat (i + 1) from own_add32 i 1 (by omega)]
          show OFin _ _ _ _ _ _ T6 (mkF m 103 #[.val (.ref a1), .val (.ref a2), .val (.int (Int32.ofNat i)), .val (.int (f i)), .val .null] [(.int (Int32.ofNat (i + 1)))])
          refine X6.step (fun hA hx hq t_ k_ => XS.istoreN hA hx rfl (hb hq d9_103) rfl (l' := #[.val (.ref a1), .val (.ref a2), .val (.int (Int32.ofNat (i + 1))), .val (.int (f i)), .val .null]) rfl k_) ?_
          show OFin _ _ _ _ _ _ T6 (mkF m 104 #[.val (.ref a1), .val (.ref a2), .val (.int (Int32.ofNat (i + 1))), .val (.int (f i)), .val .null] [])
          refine X6.step (fun hA hx hq t_ k_ => XS.goto hA hx rfl (pc0 := 104) (pc' := 8) rfl (hb hq d9_104) (by decide) (by decide) k_) ?_
          show OFin _ _ _ _ _ _ T6 (mkF m 8 #[.val (.ref a1), .val (.ref a2), .val (.int (Int32.ofNat (i + 1))), .val (.int (f i)), .val .null] [])
          exact ih (i + 1) T6 _ _ hk (One.val rfl) (One.val rfl) X6
      · refine X.step (fun hA hx hq t_ k_ => XS.iloadN hA hx rfl (hb hq d9_8) rfl k_) ?_
        show OFin _ _ _ _ _ _ T (mkF m 9 #[.val (.ref a1), .val (.ref a2), .val (.int (Int32.ofNat i)), s3, s4] [(.int (Int32.ofNat i))])
        refine X.step (fun hA hx hq t_ k_ => XS.aloadN hA hx rfl (hb hq d9_9) rfl rfl k_) ?_
        show OFin _ _ _ _ _ _ T (mkF m 10 #[.val (.ref a1), .val (.ref a2), .val (.int (Int32.ofNat i)), s3, s4] [(.ref a1), (.int (Int32.ofNat i))])
        refine X.callV (y' := (⟨"java/lang/String", "length", "()I"⟩ : MethodName)) (z' := (⟨"java/lang/String", "length", "()I"⟩ : MethodName)) (hw _ (List.mem_of_getElem? (i := 51) rfl)) (hw _ (List.mem_of_getElem? (i := 52) rfl)) (X.notFace (hw _ (List.mem_of_getElem? (i := 54) rfl)) rfl) (hw _ (List.mem_of_getElem? (i := 54) rfl)) (hw _ (List.mem_of_getElem? (i := 53) rfl)) (hw _ (List.mem_of_getElem? (i := 13) rfl)) (hw _ (List.mem_of_getElem? (i := 55) rfl)) (by decide) S.exa (argsL := []) (rest := [(.int (Int32.ofNat i))]) (slx l Z a0 hw a1 N f cs h0 n0 S (by omega) SS hcs) (g := (mkF m 10 #[.val (.ref a1), .val (.ref a2), .val (.int (Int32.ofNat i)), s3, s4] [(.ref a1), (.int (Int32.ofNat i))])) rfl rfl pd_pr_I rfl rfl (W := 1) (by show 2 * 0 + _ ≤ _; exact Nat.le_of_eq rfl) d9_10 (by decide) (by decide) (by decide) (by decide) ?_
        intro v7 T7 h7 X7 q7
        obtain ⟨rfl, rfl⟩ := q7
        show OFin _ _ _ _ _ _ T7 (mkF m 13 #[.val (.ref a1), .val (.ref a2), .val (.int (Int32.ofNat i)), s3, s4] [(.int (Int32.ofNat N)), (.int (Int32.ofNat i))])
        refine X7.step (fun hA hx hq t_ k_ => XS.icmpNo hA hx rfl (hb hq d9_13) rfl (tlt ((own_lt32 i N (by omega) (by omega)).mpr (by omega))).2.1 k_) ?_
        show OFin _ _ _ _ _ _ T7 (mkF m 16 #[.val (.ref a1), .val (.ref a2), .val (.int (Int32.ofNat i)), s3, s4] [])
        refine X7.step (fun hA hx hq t_ k_ => XS.aloadN hA hx rfl (hb hq d9_16) rfl rfl k_) ?_
        show OFin _ _ _ _ _ _ T7 (mkF m 17 #[.val (.ref a1), .val (.ref a2), .val (.int (Int32.ofNat i)), s3, s4] [(.ref a1)])
        refine X7.step (fun hA hx hq t_ k_ => XS.iloadN hA hx rfl (hb hq d9_17) rfl k_) ?_
        show OFin _ _ _ _ _ _ T7 (mkF m 18 #[.val (.ref a1), .val (.ref a2), .val (.int (Int32.ofNat i)), s3, s4] [(.int (Int32.ofNat i)), (.ref a1)])
        refine X7.callV (y' := (⟨"java/lang/String", "codePointAt", "(I)I"⟩ : MethodName)) (z' := (⟨"java/lang/String", "codePointAt", "(I)I"⟩ : MethodName)) (hw _ (List.mem_of_getElem? (i := 61) rfl)) (hw _ (List.mem_of_getElem? (i := 62) rfl)) (X7.notFace (hw _ (List.mem_of_getElem? (i := 64) rfl)) rfl) (hw _ (List.mem_of_getElem? (i := 64) rfl)) (hw _ (List.mem_of_getElem? (i := 63) rfl)) (hw _ (List.mem_of_getElem? (i := 13) rfl)) (hw _ (List.mem_of_getElem? (i := 65) rfl)) (by decide) S.exa (argsL := [(.int (Int32.ofNat i))]) (rest := []) (sp2x l Z a0 hw a1 N f i cs vf h0 n0 S (by omega) (by omega) ho ho2 hch SA SH SL SS hcs SP rf) (g := (mkF m 18 #[.val (.ref a1), .val (.ref a2), .val (.int (Int32.ofNat i)), s3, s4] [(.int (Int32.ofNat i)), (.ref a1)])) rfl rfl pd_pIr_I rfl rfl (W := 0) (by show 2 * 0 + _ ≤ _; exact Nat.le_of_eq rfl) d9_18 (by decide) (by decide) (by decide) (by decide) ?_
        intro v8 T8 h8 X8 q8
        obtain ⟨rfl, g, rfl, hg⟩ := q8
        show OFin _ _ _ _ _ _ T8 (mkF m 21 #[.val (.ref a1), .val (.ref a2), .val (.int (Int32.ofNat i)), s3, s4] [(.int g)])
        refine X8.step (fun hA hx hq t_ k_ => XS.istoreN hA hx rfl (hb hq d9_21) rfl (l' := #[.val (.ref a1), .val (.ref a2), .val (.int (Int32.ofNat i)), .val (.int g), s4]) (own_st3 rfl h3 h4) k_) ?_
        show OFin _ _ _ _ _ _ T8 (mkF m 22 #[.val (.ref a1), .val (.ref a2), .val (.int (Int32.ofNat i)), .val (.int g), s4] [])
        refine X8.step (fun hA hx hq t_ k_ => XS.aconstNull hA hx rfl (hb hq d9_22) k_) ?_
        show OFin _ _ _ _ _ _ T8 (mkF m 23 #[.val (.ref a1), .val (.ref a2), .val (.int (Int32.ofNat i)), .val (.int g), s4] [.null])
        refine X8.step (fun hA hx hq t_ k_ => XS.astore hA hx rfl (hb hq d9_23) rfl rfl (l' := #[.val (.ref a1), .val (.ref a2), .val (.int (Int32.ofNat i)), .val (.int g), .val .null]) (own_st4 h4 rfl) k_) ?_
        show OFin _ _ _ _ _ _ T8 (mkF m 25 #[.val (.ref a1), .val (.ref a2), .val (.int (Int32.ofNat i)), .val (.int g), .val .null] [])
        refine X8.step (fun hA hx hq t_ k_ => XS.iloadN hA hx rfl (hb hq d9_25) rfl k_) ?_
        show OFin _ _ _ _ _ _ T8 (mkF m 26 #[.val (.ref a1), .val (.ref a2), .val (.int (Int32.ofNat i)), .val (.int g), .val .null] [(.int g)])
        refine X8.step (fun hA hx hq t_ k_ => XS.ifYes hA hx rfl (pc0 := 26) (pc' := 36) rfl (hb hq d9_26) rfl ((if0 _ _).trans (feq (fun z => by have z2 := congrArg Int32.toInt z; omega)).2) (by decide) (by decide) k_) ?_
        show OFin _ _ _ _ _ _ T8 (mkF m 36 #[.val (.ref a1), .val (.ref a2), .val (.int (Int32.ofNat i)), .val (.int g), .val .null] [])
        refine X8.step (fun hA hx hq t_ k_ => XS.iloadN hA hx rfl (hb hq d9_36) rfl k_) ?_
        show OFin _ _ _ _ _ _ T8 (mkF m 37 #[.val (.ref a1), .val (.ref a2), .val (.int (Int32.ofNat i)), .val (.int g), .val .null] [(.int g)])
        refine X8.ldcI (hw _ (List.mem_of_getElem? (i := 79) rfl)) (g := (mkF m 37 #[.val (.ref a1), .val (.ref a2), .val (.int (Int32.ofNat i)), .val (.int g), .val .null] [(.int g)])) rfl d9_37 ?_
        show OFin _ _ _ _ _ _ T8 (mkF m 39 #[.val (.ref a1), .val (.ref a2), .val (.int (Int32.ofNat i)), .val (.int g), .val .null] [(.int (55296 : Int32)), (.int g)])
        refine X8.step (fun hA hx hq t_ k_ => XS.icmpNo hA hx rfl (hb hq d9_39) rfl (flt ((by rw [Int32.lt_iff_toInt_lt]; omega))).1 k_) ?_
        show OFin _ _ _ _ _ _ T8 (mkF m 42 #[.val (.ref a1), .val (.ref a2), .val (.int (Int32.ofNat i)), .val (.int g), .val .null] [])
        refine X8.step (fun hA hx hq t_ k_ => XS.iloadN hA hx rfl (hb hq d9_42) rfl k_) ?_
        show OFin _ _ _ _ _ _ T8 (mkF m 43 #[.val (.ref a1), .val (.ref a2), .val (.int (Int32.ofNat i)), .val (.int g), .val .null] [(.int g)])
        refine X8.ldcI (hw _ (List.mem_of_getElem? (i := 117) rfl)) (g := (mkF m 43 #[.val (.ref a1), .val (.ref a2), .val (.int (Int32.ofNat i)), .val (.int g), .val .null] [(.int g)])) rfl d9_43 ?_
        show OFin _ _ _ _ _ _ T8 (mkF m 45 #[.val (.ref a1), .val (.ref a2), .val (.int (Int32.ofNat i)), .val (.int g), .val .null] [(.int (57343 : Int32)), (.int g)])
        refine X8.step (fun hA hx hq t_ k_ => XS.icmpYes hA hx rfl (pc0 := 45) (pc' := 52) rfl (hb hq d9_45) rfl (tlt ((by rw [Int32.lt_iff_toInt_lt]; omega))).2.2.1 (by decide) (by decide) k_) ?_
        show OFin _ _ _ _ _ _ T8 (mkF m 52 #[.val (.ref a1), .val (.ref a2), .val (.int (Int32.ofNat i)), .val (.int g), .val .null] [])
        refine X8.step (fun hA hx hq t_ k_ => XS.aload hA hx rfl (hb hq d9_52) rfl rfl k_) ?_
        show OFin _ _ _ _ _ _ T8 (mkF m 54 #[.val (.ref a1), .val (.ref a2), .val (.int (Int32.ofNat i)), .val (.int g), .val .null] [.null])
        refine X8.step (fun hA hx hq t_ k_ => XS.ifnullYes hA hx rfl (pc0 := 54) (pc' := 97) rfl (hb hq d9_54) rfl (by decide) (by decide) k_) ?_
        show OFin _ _ _ _ _ _ T8 (mkF m 97 #[.val (.ref a1), .val (.ref a2), .val (.int (Int32.ofNat i)), .val (.int g), .val .null] [])
        refine X8.step (fun hA hx hq t_ k_ => XS.iloadN hA hx rfl (hb hq d9_97) rfl k_) ?_
        show OFin _ _ _ _ _ _ T8 (mkF m 98 #[.val (.ref a1), .val (.ref a2), .val (.int (Int32.ofNat i)), .val (.int g), .val .null] [(.int (Int32.ofNat i))])
        refine X8.step (fun hA hx hq t_ k_ => XS.iloadN hA hx rfl (hb hq d9_98) rfl k_) ?_
        show OFin _ _ _ _ _ _ T8 (mkF m 99 #[.val (.ref a1), .val (.ref a2), .val (.int (Int32.ofNat i)), .val (.int g), .val .null] [(.int g), (.int (Int32.ofNat i))])
        refine X8.callS (y' := (⟨"java/lang/Character", "charCount", "(I)I"⟩ : MethodName)) (hw _ (List.mem_of_getElem? (i := 80) rfl)) (hw _ (List.mem_of_getElem? (i := 81) rfl)) (hw _ (List.mem_of_getElem? (i := 82) rfl)) (hw _ (List.mem_of_getElem? (i := 83) rfl)) (by decide) (argsL := [(.int g)]) (rest := [(.int (Int32.ofNat i))]) (sk6 l Z a0 hw g h0 n0 (by omega)) (g := (mkF m 99 #[.val (.ref a1), .val (.ref a2), .val (.int (Int32.ofNat i)), .val (.int g), .val .null] [(.int g), (.int (Int32.ofNat i))])) rfl rfl pd_pIr_I rfl rfl (W := 1) (by show 2 * 0 + _ ≤ _; exact Nat.le_of_eq rfl) d9_99 (by decide) (by decide) (by decide) (by decide) ?_
        intro v9 T9 h9 X9 q9
        obtain ⟨rfl, rfl⟩ := q9
        show OFin _ _ _ _ _ _ T9 (mkF m 102 #[.val (.ref a1), .val (.ref a2), .val (.int (Int32.ofNat i)), .val (.int g), .val .null] [(.int (2 : Int32)), (.int (Int32.ofNat i))])
        refine X9.step (fun hA hx hq t_ k_ => XS.iadd hA hx rfl (hb hq d9_102) rfl k_) ?_
        show OFin _ _ _ _ _ _ T9 (mkF m 103 #[.val (.ref a1), .val (.ref a2), .val (.int (Int32.ofNat i)), .val (.int g), .val .null] [(.int ((Int32.ofNat i) + (2 : Int32)))])
        rw [show Int32.ofNat i + (2 : Int32) = Int32.ofNat (i + 2) from own_add32 i 2 (by omega)]
        show OFin _ _ _ _ _ _ T9 (mkF m 103 #[.val (.ref a1), .val (.ref a2), .val (.int (Int32.ofNat i)), .val (.int g), .val .null] [(.int (Int32.ofNat (i + 2)))])
        refine X9.step (fun hA hx hq t_ k_ => XS.istoreN hA hx rfl (hb hq d9_103) rfl (l' := #[.val (.ref a1), .val (.ref a2), .val (.int (Int32.ofNat (i + 2))), .val (.int g), .val .null]) rfl k_) ?_
        show OFin _ _ _ _ _ _ T9 (mkF m 104 #[.val (.ref a1), .val (.ref a2), .val (.int (Int32.ofNat (i + 2))), .val (.int g), .val .null] [])
        refine X9.step (fun hA hx hq t_ k_ => XS.goto hA hx rfl (pc0 := 104) (pc' := 8) rfl (hb hq d9_104) (by decide) (by decide) k_) ?_
        show OFin _ _ _ _ _ _ T9 (mkF m 8 #[.val (.ref a1), .val (.ref a2), .val (.int (Int32.ofNat (i + 2))), .val (.int g), .val .null] [])
        exact ih (i + 2) T9 _ _ hk (One.val rfl) (One.val rfl) X9
  exact loop 3 0 T1 .unset .unset hwf One.u One.u X1
theorem pd_pA_CIIr_I : parseMethodDescriptor "([CII)I" = some ⟨[(.array .char), .int, .int], some .int⟩ := by decide +kernel
theorem pd_pA_CIr_Ljava_lang_String_ : parseMethodDescriptor "([CI)Ljava/lang/String;" = some ⟨[(.array .char), .int], some (.object "java/lang/String")⟩ := by decide +kernel
theorem pd_pLjava_lang_String_Ljava_lang_String_r_Ljava_lang_String_ : parseMethodDescriptor "(Ljava/lang/String;Ljava/lang/String;)Ljava/lang/String;" = some ⟨[(.object "java/lang/String"), (.object "java/lang/String")], some (.object "java/lang/String")⟩ := by decide +kernel
set_option maxRecDepth 65536 in
set_option maxHeartbeats 40000000 in
theorem rm0 (l : Launch) (Z : State) (a0 : Array Value) (hw : ∀ d ∈ tables_1, d.before a0 Z = true) (ws : List Jvm.Cond) (p0 p1 p2 cs : Int32) (vf : Value) (h0 : Heap) (n0 : Nat) (O0 : Old Z n0 h0) (SA : Sta Z Z.heap "java/lang/StringUTF16" "$assertionsDisabled" "Z" (.int 1)) (SH : Sta Z Z.heap "java/lang/StringUTF16" "HI_BYTE_SHIFT" "I" (.int 0)) (SL : Sta Z Z.heap "java/lang/StringUTF16" "LO_BYTE_SHIFT" "I" (.int 8)) (SS : Sta Z Z.heap "java/lang/String" "COMPACT_STRINGS" "Z" (.int cs)) (hcs : ¬ cs = 0) (SP : Sta Z Z.heap "jdk/internal/util/Preconditions" "SIOOBE_FORMATTER" "Ljava/util/function/BiFunction;" vf) (rf : vf.isRef = true) :
    OMeetsW l Z own_EL x ws code maxLocals ret room_1 #[(.int p0), (.int p1), (.int p2)] h0 n0 (fun v h => v = some (.int 1)) := by
  refine o_enterW (Z := Z) (own_EW hw) (plainFor_of_name pn_com_example_libidem_libidem_TextsRequireStorablePinLaw) ?_
  intro p e s m below meth c T0 X0 B0
  refine OFin.cast (g' := (mkF m 0 #[.val (.int p0), .val (.int p1), .val (.int p2), .unset, .unset, .unset] [])) (by first | (simp [entryFrame, mkF, argsToLocals, Value.category, maxLocals]; done) | rfl) ?_
  have Z0 : n0 ≤ h0.size := by rw [← O0.1]; exact O0.2.1
  refine X0.step (fun hA hx hq t_ k_ => XS.bipush hA hx rfl (hb hq at_0) k_) ?_
  show OFin _ _ _ _ _ _ T0 (mkF m 2 #[.val (.int p0), .val (.int p1), .val (.int p2), .unset, .unset, .unset] [(.int (6 : Int32))])
  refine X0.newP (hw _ (List.mem_of_getElem? (i := 0) rfl)) (g := (mkF m 2 #[.val (.int p0), .val (.int p1), .val (.int p2), .unset, .unset, .unset] [(.int (6 : Int32))])) rfl at_2 rfl (by decide) (cap := 6) (by decide) (by decide) (by decide) (by decide) (ad := "[C") (by first | rfl | decide) ?_
  intro T1 h1 k1 b1 gb1 X1 E1 A1 G1
  have B2 := B0.ext E1
  show OFin _ _ _ _ _ _ T1 (mkF m 4 #[.val (.int p0), .val (.int p1), .val (.int p2), .unset, .unset, .unset] [(.ref b1)])
  have O1 := O0.ext E1
  have hn : n0 ≤ b1 := by rw [gb1]; exact Z0
  have G0 : OArr Z h1 b1 .char 6 (fun k => .int ((fun _ => (0 : Int32)) k)) := OArr.new A1
  refine X1.step (fun hA hx hq t_ k_ => XS.astoreN hA hx rfl (hb hq at_4) rfl rfl (l' := #[.val (.int p0), .val (.int p1), .val (.int p2), .val (.ref b1), .unset, .unset]) rfl k_) ?_
  show OFin _ _ _ _ _ _ T1 (mkF m 5 #[.val (.int p0), .val (.int p1), .val (.int p2), .val (.ref b1), .unset, .unset] [])
  refine X1.step (fun hA hx hq t_ k_ => XS.aloadN hA hx rfl (hb hq at_5) rfl rfl k_) ?_
  show OFin _ _ _ _ _ _ T1 (mkF m 6 #[.val (.int p0), .val (.int p1), .val (.int p2), .val (.ref b1), .unset, .unset] [(.ref b1)])
  refine X1.step (fun hA hx hq t_ k_ => XS.iconst hA hx rfl (hb hq at_6) k_) ?_
  show OFin _ _ _ _ _ _ T1 (mkF m 7 #[.val (.int p0), .val (.int p1), .val (.int p2), .val (.ref b1), .unset, .unset] [(.int (0 : Int32)), (.ref b1)])
  refine X1.step (fun hA hx hq t_ k_ => XS.iloadN hA hx rfl (hb hq at_7) rfl k_) ?_
  show OFin _ _ _ _ _ _ T1 (mkF m 8 #[.val (.int p0), .val (.int p1), .val (.int p2), .val (.ref b1), .unset, .unset] [(.int p0), (.int (0 : Int32)), (.ref b1)])
  refine X1.callS (y' := (⟨"com/example/libidem/libidem/TextsRequireStorablePinLaw", "put", "([CII)I"⟩ : MethodName)) (hw _ (List.mem_of_getElem? (i := 1) rfl)) (hw _ (List.mem_of_getElem? (i := 2) rfl)) (hw _ (List.mem_of_getElem? (i := 3) rfl)) (hw _ (List.mem_of_getElem? (i := 4) rfl)) (by decide) (argsL := [(.ref b1), (.int (0 : Int32)), (.int p0)]) (rest := []) (rm1 l Z a0 hw b1 0 p0 (fun _ => (0 : Int32)) h1 n0 G0 (by decide) (fun k => (by unfold own_chr16; decide)) hn) (g := (mkF m 8 #[.val (.int p0), .val (.int p1), .val (.int p2), .val (.ref b1), .unset, .unset] [(.int p0), (.int (0 : Int32)), (.ref b1)])) rfl rfl pd_pA_CIIr_I rfl rfl (W := 0) (by show 2 * 0 + _ ≤ _; exact Nat.le_of_eq rfl) at_8 (by decide) (by decide) (by decide) (by decide) ?_
  intro v3 T3 h3 X3 q3
  obtain ⟨j0, f0, rfl, K3, G1, s0, q0, hc0⟩ := q3
  have B4 := B2.keep K3 (sfS (own_safeC X1.1.2.1.alike G0) sf0)
  show OFin _ _ _ _ _ _ T3 (mkF m 11 #[.val (.int p0), .val (.int p1), .val (.int p2), .val (.ref b1), .unset, .unset] [(.int (Int32.ofNat j0))])
  have l0 := s0.le
  have P0 := O1.keep K3 (allS hn all0)
  refine X3.step (fun hA hx hq t_ k_ => XS.istore hA hx rfl (hb hq at_11) rfl (l' := #[.val (.int p0), .val (.int p1), .val (.int p2), .val (.ref b1), .val (.int (Int32.ofNat j0)), .unset]) rfl k_) ?_
  show OFin _ _ _ _ _ _ T3 (mkF m 13 #[.val (.int p0), .val (.int p1), .val (.int p2), .val (.ref b1), .val (.int (Int32.ofNat j0)), .unset] [])
  refine X3.step (fun hA hx hq t_ k_ => XS.aloadN hA hx rfl (hb hq at_13) rfl rfl k_) ?_
  show OFin _ _ _ _ _ _ T3 (mkF m 14 #[.val (.int p0), .val (.int p1), .val (.int p2), .val (.ref b1), .val (.int (Int32.ofNat j0)), .unset] [(.ref b1)])
  refine X3.step (fun hA hx hq t_ k_ => XS.iload hA hx rfl (hb hq at_14) rfl k_) ?_
  show OFin _ _ _ _ _ _ T3 (mkF m 16 #[.val (.int p0), .val (.int p1), .val (.int p2), .val (.ref b1), .val (.int (Int32.ofNat j0)), .unset] [(.int (Int32.ofNat j0)), (.ref b1)])
  refine X3.step (fun hA hx hq t_ k_ => XS.iloadN hA hx rfl (hb hq at_16) rfl k_) ?_
  show OFin _ _ _ _ _ _ T3 (mkF m 17 #[.val (.int p0), .val (.int p1), .val (.int p2), .val (.ref b1), .val (.int (Int32.ofNat j0)), .unset] [(.int p1), (.int (Int32.ofNat j0)), (.ref b1)])
  refine X3.callS (y' := (⟨"com/example/libidem/libidem/TextsRequireStorablePinLaw", "put", "([CII)I"⟩ : MethodName)) (hw _ (List.mem_of_getElem? (i := 1) rfl)) (hw _ (List.mem_of_getElem? (i := 2) rfl)) (hw _ (List.mem_of_getElem? (i := 3) rfl)) (hw _ (List.mem_of_getElem? (i := 4) rfl)) (by decide) (argsL := [(.ref b1), (.int (Int32.ofNat j0)), (.int p1)]) (rest := []) (rm1 l Z a0 hw b1 j0 p1 f0 h3 n0 G1 (by omega) hc0 hn) (g := (mkF m 17 #[.val (.int p0), .val (.int p1), .val (.int p2), .val (.ref b1), .val (.int (Int32.ofNat j0)), .unset] [(.int p1), (.int (Int32.ofNat j0)), (.ref b1)])) rfl rfl pd_pA_CIIr_I rfl rfl (W := 0) (by show 2 * 0 + _ ≤ _; exact Nat.le_of_eq rfl) at_17 (by decide) (by decide) (by decide) (by decide) ?_
  intro v5 T5 h5 X5 q5
  obtain ⟨j1, f1, rfl, K5, G2, s1, q1, hc1⟩ := q5
  have B6 := B4.keep K5 (sfS (own_safeC X3.1.2.1.alike G1) sf0)
  show OFin _ _ _ _ _ _ T5 (mkF m 20 #[.val (.int p0), .val (.int p1), .val (.int p2), .val (.ref b1), .val (.int (Int32.ofNat j0)), .unset] [(.int (Int32.ofNat j1))])
  have l1 := s1.le
  have P1 := P0.keep K5 (allS hn all0)
  refine X5.step (fun hA hx hq t_ k_ => XS.istore hA hx rfl (hb hq at_20) rfl (l' := #[.val (.int p0), .val (.int p1), .val (.int p2), .val (.ref b1), .val (.int (Int32.ofNat j1)), .unset]) rfl k_) ?_
  show OFin _ _ _ _ _ _ T5 (mkF m 22 #[.val (.int p0), .val (.int p1), .val (.int p2), .val (.ref b1), .val (.int (Int32.ofNat j1)), .unset] [])
  refine X5.step (fun hA hx hq t_ k_ => XS.aloadN hA hx rfl (hb hq at_22) rfl rfl k_) ?_
  show OFin _ _ _ _ _ _ T5 (mkF m 23 #[.val (.int p0), .val (.int p1), .val (.int p2), .val (.ref b1), .val (.int (Int32.ofNat j1)), .unset] [(.ref b1)])
  refine X5.step (fun hA hx hq t_ k_ => XS.iload hA hx rfl (hb hq at_23) rfl k_) ?_
  show OFin _ _ _ _ _ _ T5 (mkF m 25 #[.val (.int p0), .val (.int p1), .val (.int p2), .val (.ref b1), .val (.int (Int32.ofNat j1)), .unset] [(.int (Int32.ofNat j1)), (.ref b1)])
  refine X5.step (fun hA hx hq t_ k_ => XS.iloadN hA hx rfl (hb hq at_25) rfl k_) ?_
  show OFin _ _ _ _ _ _ T5 (mkF m 26 #[.val (.int p0), .val (.int p1), .val (.int p2), .val (.ref b1), .val (.int (Int32.ofNat j1)), .unset] [(.int p2), (.int (Int32.ofNat j1)), (.ref b1)])
  refine X5.callS (y' := (⟨"com/example/libidem/libidem/TextsRequireStorablePinLaw", "put", "([CII)I"⟩ : MethodName)) (hw _ (List.mem_of_getElem? (i := 1) rfl)) (hw _ (List.mem_of_getElem? (i := 2) rfl)) (hw _ (List.mem_of_getElem? (i := 3) rfl)) (hw _ (List.mem_of_getElem? (i := 4) rfl)) (by decide) (argsL := [(.ref b1), (.int (Int32.ofNat j1)), (.int p2)]) (rest := []) (rm1 l Z a0 hw b1 j1 p2 f1 h5 n0 G2 (by omega) hc1 hn) (g := (mkF m 26 #[.val (.int p0), .val (.int p1), .val (.int p2), .val (.ref b1), .val (.int (Int32.ofNat j1)), .unset] [(.int p2), (.int (Int32.ofNat j1)), (.ref b1)])) rfl rfl pd_pA_CIIr_I rfl rfl (W := 0) (by show 2 * 0 + _ ≤ _; exact Nat.le_of_eq rfl) at_26 (by decide) (by decide) (by decide) (by decide) ?_
  intro v7 T7 h7 X7 q7
  obtain ⟨j2, f2, rfl, K7, G3, s2, q2, hc2⟩ := q7
  have B8 := B6.keep K7 (sfS (own_safeC X5.1.2.1.alike G2) sf0)
  show OFin _ _ _ _ _ _ T7 (mkF m 29 #[.val (.int p0), .val (.int p1), .val (.int p2), .val (.ref b1), .val (.int (Int32.ofNat j1)), .unset] [(.int (Int32.ofNat j2))])
  have l2 := s2.le
  have P2 := P1.keep K7 (allS hn all0)
  refine X7.step (fun hA hx hq t_ k_ => XS.istore hA hx rfl (hb hq at_29) rfl (l' := #[.val (.int p0), .val (.int p1), .val (.int p2), .val (.ref b1), .val (.int (Int32.ofNat j2)), .unset]) rfl k_) ?_
  show OFin _ _ _ _ _ _ T7 (mkF m 31 #[.val (.int p0), .val (.int p1), .val (.int p2), .val (.ref b1), .val (.int (Int32.ofNat j2)), .unset] [])
  refine X7.step (fun hA hx hq t_ k_ => XS.aloadN hA hx rfl (hb hq at_31) rfl rfl k_) ?_
  show OFin _ _ _ _ _ _ T7 (mkF m 32 #[.val (.int p0), .val (.int p1), .val (.int p2), .val (.ref b1), .val (.int (Int32.ofNat j2)), .unset] [(.ref b1)])
  refine X7.step (fun hA hx hq t_ k_ => XS.iload hA hx rfl (hb hq at_32) rfl k_) ?_
  show OFin _ _ _ _ _ _ T7 (mkF m 34 #[.val (.int p0), .val (.int p1), .val (.int p2), .val (.ref b1), .val (.int (Int32.ofNat j2)), .unset] [(.int (Int32.ofNat j2)), (.ref b1)])
  refine X7.callSW B8 (y' := (⟨"com/example/libidem/libidem/TextsRequireStorablePinLaw", "make", "([CI)Ljava/lang/String;"⟩ : MethodName)) (hw _ (List.mem_of_getElem? (i := 8) rfl)) (hw _ (List.mem_of_getElem? (i := 9) rfl)) (hw _ (List.mem_of_getElem? (i := 3) rfl)) (hw _ (List.mem_of_getElem? (i := 10) rfl)) (by decide) (argsL := [(.ref b1), (.int (Int32.ofNat j2))]) (rest := []) (rm2 l Z a0 hw b1 j2 f2 cs h7 n0 G3 (by omega) hc2 (Nat.le_trans (Nat.le_of_eq P2.1.symm) P2.2.1) (SA.ext P2.2) (SH.ext P2.2) (SL.ext P2.2) (SS.ext P2.2) hcs) (g := (mkF m 34 #[.val (.int p0), .val (.int p1), .val (.int p2), .val (.ref b1), .val (.int (Int32.ofNat j2)), .unset] [(.int (Int32.ofNat j2)), (.ref b1)])) rfl rfl pd_pA_CIr_Ljava_lang_String_ rfl rfl (W := 0) (by show 2 * 0 + _ ≤ _; exact Nat.le_of_eq rfl) at_34 (by decide) (by decide) (by decide) (by decide) ?_
  intro v9 T9 h9 vm9 X9 B9 G9 Sf9 q9
  obtain ⟨sa, rfl, S9, K9⟩ := q9
  show OFin _ _ _ _ _ _ T9 (mkF m 37 #[.val (.int p0), .val (.int p1), .val (.int p2), .val (.ref b1), .val (.int (Int32.ofNat j2)), .unset] [(.ref sa)])
  have P3 := P2.keep K9 all0
  refine X9.step (fun hA hx hq t_ k_ => XS.astore hA hx rfl (hb hq at_37) rfl rfl (l' := #[.val (.int p0), .val (.int p1), .val (.int p2), .val (.ref b1), .val (.int (Int32.ofNat j2)), .val (.ref sa)]) rfl k_) ?_
  show OFin _ _ _ _ _ _ T9 (mkF m 39 #[.val (.int p0), .val (.int p1), .val (.int p2), .val (.ref b1), .val (.int (Int32.ofNat j2)), .val (.ref sa)] [])
  refine X9.step (fun hA hx hq t_ k_ => XS.aload hA hx rfl (hb hq at_39) rfl rfl k_) ?_
  show OFin _ _ _ _ _ _ T9 (mkF m 41 #[.val (.int p0), .val (.int p1), .val (.int p2), .val (.ref b1), .val (.int (Int32.ofNat j2)), .val (.ref sa)] [(.ref sa)])
  refine X9.ldcO B9 (hw _ (List.mem_of_getElem? (i := 40) rfl)) (own_wS hw) (g := (mkF m 41 #[.val (.int p0), .val (.int p1), .val (.int p2), .val (.ref b1), .val (.int (Int32.ofNat j2)), .val (.ref sa)] [(.ref sa)])) rfl at_41 (n := 8) (by decide) (by decide) (by decide) (by decide) ?_
  intro b10 T10 h10 vm10 X10 B10 E10 Sf10
  show OFin _ _ _ _ _ _ T10 (mkF m 43 #[.val (.int p0), .val (.int p1), .val (.int p2), .val (.ref b1), .val (.int (Int32.ofNat j2)), .val (.ref sa)] [(.ref b10), (.ref sa)])
  have P4 := P3.ext E10
  have S4 := S9.ext E10
  have wf : own_wf f2 j2 3 0 := ⟨j0, (s0.congr (f' := f2) fun k hk => by rw [q2 k (by omega), q1 k (by omega)]), j1, (s1.congr (f' := f2) fun k hk => q2 k (by omega)), j2, s2, rfl⟩
  refine X10.callS (y' := (⟨"com/example/libidem/libidem/Texts", "requireStorable", "(Ljava/lang/String;Ljava/lang/String;)Ljava/lang/String;"⟩ : MethodName)) (hw _ (List.mem_of_getElem? (i := 43) rfl)) (hw _ (List.mem_of_getElem? (i := 44) rfl)) (hw _ (List.mem_of_getElem? (i := 45) rfl)) (hw _ (List.mem_of_getElem? (i := 46) rfl)) (by decide) (argsL := [(.ref sa), (.ref b10)]) (rest := []) (rm4 l Z a0 hw sa b10 j2 f2 cs vf h10 n0 S4 (by omega) wf hc2 (SA.ext P4.2) (SH.ext P4.2) (SL.ext P4.2) (SS.ext P4.2) hcs (SP.ext P4.2) rf) (g := (mkF m 43 #[.val (.int p0), .val (.int p1), .val (.int p2), .val (.ref b1), .val (.int (Int32.ofNat j2)), .val (.ref sa)] [(.ref b10), (.ref sa)])) rfl rfl pd_pLjava_lang_String_Ljava_lang_String_r_Ljava_lang_String_ rfl rfl (W := 0) (by show 2 * 0 + _ ≤ _; exact Nat.le_of_eq rfl) at_43 (by decide) (by decide) (by decide) (by decide) ?_
  intro v11 T11 h11 X11 q11
  obtain ⟨rfl, rfl⟩ := q11
  show OFin _ _ _ _ _ _ T11 (mkF m 46 #[.val (.int p0), .val (.int p1), .val (.int p2), .val (.ref b1), .val (.int (Int32.ofNat j2)), .val (.ref sa)] [(.ref sa)])
  refine X11.step (fun hA hx hq t_ k_ => XS.aload hA hx rfl (hb hq at_46) rfl rfl k_) ?_
  show OFin _ _ _ _ _ _ T11 (mkF m 48 #[.val (.int p0), .val (.int p1), .val (.int p2), .val (.ref b1), .val (.int (Int32.ofNat j2)), .val (.ref sa)] [(.ref sa), (.ref sa)])
  refine X11.acmp (g := (mkF m 48 #[.val (.int p0), .val (.int p1), .val (.int p2), .val (.ref b1), .val (.int (Int32.ofNat j2)), .val (.ref sa)] [(.ref sa), (.ref sa)])) rfl rfl rfl (pc0 := 48) (pc' := 51) (same := true) rfl at_48 rfl (decide_eq_true rfl) (by decide) (by decide) ?_
  show OFin _ _ _ _ _ _ T11 (mkF m 51 #[.val (.int p0), .val (.int p1), .val (.int p2), .val (.ref b1), .val (.int (Int32.ofNat j2)), .val (.ref sa)] [])
  refine X11.step (fun hA hx hq t_ k_ => XS.iconst hA hx rfl (hb hq at_51) k_) ?_
  show OFin _ _ _ _ _ _ T11 (mkF m 52 #[.val (.int p0), .val (.int p1), .val (.int p2), .val (.ref b1), .val (.int (Int32.ofNat j2)), .val (.ref sa)] [(.int (1 : Int32))])
  refine X11.step (fun hA hx hq t_ k_ => XS.goto hA hx rfl (pc0 := 52) (pc' := 56) rfl (hb hq at_52) (by decide) (by decide) k_) ?_
  show OFin _ _ _ _ _ _ T11 (mkF m 56 #[.val (.int p0), .val (.int p1), .val (.int p2), .val (.ref b1), .val (.int (Int32.ofNat j2)), .val (.ref sa)] [(.int (1 : Int32))])
  exact X11.retN (by simp) at_56 (oW X11 B10 (by decide) (by decide)) (rfl)
theorem own_staE {args : Array Value} {Z : State} {C n d : String} {k : Int32} (hi : (Jvm.Cond.initializedFor C n d).before args Z = true) (hq : (Jvm.Cond.eq (.static C n d) (.int k)).before args Z = true) : Sta Z Z.heap C n d (.int k) := by
  have hq := Cond.before_iff.mp hq
  obtain ⟨u, v, h1, h2, h3, h4⟩ := cmp_v (Or.inl hq)
  have h5 : v = .int k := (Option.some.inj h2).symm
  subst h5
  obtain ⟨z, rfl⟩ := h4
  have := gotT (Cond.eq_ints h1 h2) hq
  rw [this] at h1
  exact Sta.start h1 (Or.inl hi)
set_option maxRecDepth 65536 in
set_option maxHeartbeats 40000000 in
theorem comes_1 {Post : Tables → Env → Array Value → State → Outcome → State → Prop} (hpost : ∀ tb e args s v u, (limb_1_1.after args s (.returned v) u = true ∧ limb_1_2.after args s (.returned v) u = true ∧ True) → ReturnedEndW s (.returned v) u (Jvm.fieldLocs frame_1_writes args s ++ Jvm.arrayLocs frame_1_arrays args s ++ Jvm.staticLocs frame_1_statics s) 24 2240 → Post tb e args s (.returned v) u) :
    ArmFor flags0 classFile x code maxLocals ret World_1 tables_1 room_1 Calls_1 rest_1 Pre_1 Post := by
  intro l hfl _ _ p e ha hc hk s m args below hf hA hF happ hP
  obtain ⟨hcalls, hrest, hpre⟩ := hP
  obtain ⟨-, -, -, hnamed, -, -, -, hat⟩ := (Spec.applies_iff hf).mp happ
  obtain ⟨hg, hn⟩ := and_e (Cond.before_iff.mp (show (Jvm.Cond.and given_1 narrow_1).before args s = true from hpre))
  obtain ⟨hcount, hg0⟩ := and_e hg
  obtain ⟨w0, w1, w2, rfl⟩ : ∃ w0 w1 w2 : Value, args = #[w0, w1, w2] := by
    have hs : args.size = 3 := by simpa [Cond.value, given_1] using hcount
    obtain ⟨L⟩ := args
    match L, hs with
    | [w0, w1, w2], _ => exact ⟨w0, w1, w2, rfl⟩
  have hw := fun d (hd : d ∈ tables_1) => atoms_spec (ws := Jvm.Cond.code x code maxLocals ret :: tables_1) hat d (List.mem_cons_of_mem _ hd)
  have hfit : Fit s := fun {y c} hc i hi => by
    obtain ⟨ha, rfl⟩ := Array.getElem?_eq_some_iff.mp hc
    have q := List.all_eq_true.mp ((Array.all_eq_true_iff_forall_mem.mp hF) _ (Array.getElem_mem ha)) i (List.mem_range.mpr hi)
    simpa [Array.getElem?_eq_getElem hi] using q
  obtain ⟨ha0, hg1⟩ := and_e hg0
  obtain ⟨i0, ei0⟩ := is_v ha0
  obtain rfl : w0 = (.int i0) := Option.some.inj ei0
  obtain ⟨ha1, hg2⟩ := and_e hg1
  obtain ⟨i1, ei1⟩ := is_v ha1
  obtain rfl : w1 = (.int i1) := Option.some.inj ei1
  obtain ⟨i2, ei2⟩ := is_v hg2
  obtain rfl : w2 = (.int i2) := Option.some.inj ei2
  obtain ⟨hsets, hown0⟩ := atoms_of _ (rest_1_c_eq ▸ (show rest_1_c.before _ s = true from hrest))
  have n5 := not_v (Cond.before_iff.mp (hsets _ (List.mem_of_getElem? (i := 2) rfl)))
  obtain ⟨cs, ecs⟩ := is_v (Cond.before_iff.mp (hsets _ (List.mem_of_getElem? (i := 1) rfl)))
  have SS : Sta s s.heap "java/lang/String" "COMPACT_STRINGS" "Z" (.int cs) := Sta.start ecs (Or.inl (hsets _ (List.mem_of_getElem? (i := 0) rfl)))
  have hcs : ¬ (cs = (0 : Int32)) := gotF (Cond.eq_ints ecs (Term.int_eval (0))) n5
  obtain ⟨vf, evf, rf⟩ := isR_v (Cond.before_iff.mp (hsets _ (List.mem_of_getElem? (i := 8) rfl)))
  have SP : Sta s s.heap "jdk/internal/util/Preconditions" "SIOOBE_FORMATTER" "Ljava/util/function/BiFunction;" vf := Sta.start evf (Or.inl (hsets _ (List.mem_of_getElem? (i := 7) rfl)))
  have SA : Sta s s.heap "java/lang/StringUTF16" "$assertionsDisabled" "Z" (.int 1) := own_staE (hsets _ (List.mem_of_getElem? (i := 11) rfl)) (hsets _ (List.mem_of_getElem? (i := 12) rfl))
  have SH : Sta s s.heap "java/lang/StringUTF16" "HI_BYTE_SHIFT" "I" (.int 0) := own_staE (hsets _ (List.mem_of_getElem? (i := 14) rfl)) (hsets _ (List.mem_of_getElem? (i := 15) rfl))
  have SL : Sta s s.heap "java/lang/StringUTF16" "LO_BYTE_SHIFT" "I" (.int 8) := own_staE (hsets _ (List.mem_of_getElem? (i := 17) rfl)) (hsets _ (List.mem_of_getElem? (i := 18) rfl))
  obtain ⟨n, o, h1, h2, h3, _, L, rfl, ⟨rfl, N⟩, -, hq⟩ := rm0 l s _ hw tables_1 i0 i1 i2 cs vf s.heap s.heap.size (Old.start s) SA SH SL SS hcs SP rf p e ha hc hk s m _ below hf ((Spec.applies_iff_loose hf).mp happ).1 ⟨rfl, State.Warmed39.refl s, rfl, CHv.start (own_EW hw) (fun p hp => hcalls.1 p hp) (hsets _ (List.mem_of_getElem? (i := 2) rfl)) (hw _ (List.mem_of_getElem? (i := 29) rfl)) (hw _ (List.mem_of_getElem? (i := 12) rfl))⟩ trivial
  refine ⟨n, _, h1, h2, h3, hpost _ _ _ _ _ _ ⟨Cond.after_iff.mpr rfl, Cond.after_iff.mpr (eq_i res_at (Term.int_eval (1)) rfl), trivial⟩ ⟨hq.1, hq.2.1, hq.2.2.1, (hq.2.2.2.sift fun y hy => Or.inr (N y hy)).mono (by decide) (by decide)⟩⟩
theorem main_1_1 : Claimed_1_1 := comes_1 fun _ _ _ _ _ _ h hF => ⟨h.1, hF⟩
theorem main_1_2 : Claimed_1_2 := comes_1 fun _ _ _ _ _ _ h hF => ⟨h.2.1, hF⟩
end Jvm.Pilot.@@N@@
namespace Jvm.Pilot.@@N@@
open Jvm Jvm.ClassFile Sem Op Lib Jvm.Free Jvm.Stand Jvm.Pilot.@@N@@.Jvm.D
/-! MADE BY PROGRAM (witnessworld.py) out of the Statement's table words and the real class files: 22 classes; the members and pool entries that the words name. The judged class is class 1, her method 1. -/
namespace start1
open Jvm.ClassFile
def u (s : String) : CpInfo := .utf8 (stringToUtf16 s)
/-- a pool by its gaps: so many unusable entries, then the entry; so many at the end -/
def gap : Nat → List CpInfo → List CpInfo
  | 0, r => r
  | n + 1, r => .unusable :: gap n r
def poolList (es : List (Nat × CpInfo)) (last : Nat) : List CpInfo := es.foldr (fun e r => gap e.1 (e.2 :: r)) (gap last [])
def pool (es : List (Nat × CpInfo)) (last : Nat) : Array CpInfo := ⟨poolList es last⟩
def fileOf (pool : Array CpInfo) (this : Nat) (attrs : Array Attribute := #[]) (ms : Array MethodInfo := #[]) (fl : Nat := 33) (sup : Nat := 0) (ifs : Array Nat := #[]) (fds : Array FieldInfo := #[]) : ClassFile where
  minorVersion := 0
  majorVersion := 65
  constantPool := pool
  accessFlags := fl
  thisClass := this
  superClass := sup
  interfaces := ifs
  fields := fds
  methods := ms
  attributes := attrs
def plain (name : String) (sup : Option ClassId) : Class where
  name := name
  kind := .ordinary
  loader := none
  accessFlags := 33
  super := sup
  interfaces := #[]
  cf := none
  fields := #[]
  methods := #[]
  instanceTypes := #[]
  staticTypes := #[]
  resolved := #[]
  callSites := []
  init := .initialized
  statics := none
  mirror := none

def pool0 : Array CpInfo := pool [(5, u "<init>"), (0, u "()V"), (1, .class_ 10), (1, u "java/lang/Object")] 113

def k0c0 : Code := { maxStack := 0, maxLocals := 1, code := object_method_1_code, exceptionTable := #[], attributes := #[] }
def k0m0 : Method := { name := "<init>", desc := "()V", sig := { parameters := [], returnType := none }, accessFlags := 1, code := some k0c0 }
/-- java/lang/Object -/
def k0 : Class := { plain "java/lang/Object" none with
  accessFlags := 33
  interfaces := #[]
  cf := some (fileOf pool0 8 #[] #[{ accessFlags := 1, nameIndex := 5, descriptorIndex := 6, attributes := #[] }] 33 0 #[] #[])
  fields := #[]
  methods := #[k0m0]
  instanceTypes := #[]
  staticTypes := #[]
  resolved := Array.replicate 124 none
  statics := none }

def pool1 : Array CpInfo := pool [(2, .class_ 4), (1, u "java/lang/Object"), (0, u "<init>"), (0, u "()V"), (0, .methodref 8 9), (0, .class_ 10), (0, .nameAndType 11 12), (0, u "com/example/libidem/libidem/TextsRequireStorablePinLaw"), (0, u "put"), (0, u "([CII)I"), (0, .methodref 8 14), (0, .nameAndType 15 16), (0, u "make"), (0, u "([CI)Ljava/lang/String;"), (0, .string 18), (0, u "id"), (0, .methodref 20 21), (0, .class_ 22), (0, .nameAndType 23 24), (0, u "com/example/libidem/libidem/Texts"), (0, u "requireStorable"), (0, u "(Ljava/lang/String;Ljava/lang/String;)Ljava/lang/String;"), (0, .integer 65535), (0, .integer 55296), (0, .integer 56319), (0, .integer 56320), (0, .integer 57343), (0, .class_ 31), (0, u "java/lang/String"), (0, .methodref 30 33), (0, .nameAndType 5 34), (0, u "([C)V"), (2, u "law"), (0, u "(III)Z")] 5

def k1m0 : Method := { name := "<init>", desc := "()V", sig := { parameters := [], returnType := none }, accessFlags := 2, code := none }
def k1c1 : Code := { maxStack := 3, maxLocals := 6, code := code, exceptionTable := #[], attributes := #[] }
def k1m1 : Method := { name := "law", desc := "(III)Z", sig := { parameters := [.int, .int, .int], returnType := some .boolean }, accessFlags := 9, code := some k1c1 }
def k1c2 : Code := { maxStack := 4, maxLocals := 5, code := method_3_code, exceptionTable := #[], attributes := #[] }
def k1m2 : Method := { name := "put", desc := "([CII)I", sig := { parameters := [(.array .char), .int, .int], returnType := some .int }, accessFlags := 10, code := some k1c2 }
def k1c3 : Code := { maxStack := 7, maxLocals := 2, code := method_4_code, exceptionTable := #[], attributes := #[] }
def k1m3 : Method := { name := "make", desc := "([CI)Ljava/lang/String;", sig := { parameters := [(.array .char), .int], returnType := some (.object "java/lang/String") }, accessFlags := 10, code := some k1c3 }
/-- com/example/libidem/libidem/TextsRequireStorablePinLaw -/
def k1 : Class := { plain "com/example/libidem/libidem/TextsRequireStorablePinLaw" (some 0) with
  accessFlags := 49
  interfaces := #[]
  cf := some (fileOf pool1 8 #[] #[{ accessFlags := 2, nameIndex := 5, descriptorIndex := 6, attributes := #[] }, { accessFlags := 9, nameIndex := 37, descriptorIndex := 38, attributes := #[] }, { accessFlags := 10, nameIndex := 11, descriptorIndex := 12, attributes := #[] }, { accessFlags := 10, nameIndex := 15, descriptorIndex := 16, attributes := #[] }] 49 2 #[] #[])
  fields := #[]
  methods := #[k1m0, k1m1, k1m2, k1m3]
  instanceTypes := #[]
  staticTypes := #[]
  resolved := Array.replicate 44 none
  statics := none }

def pool2 : Array CpInfo := pool [(1, .class_ 2), (0, u "java/io/Serializable"), (0, .class_ 4), (0, u "java/lang/Object")] 2

/-- java/io/Serializable -/
def k2 : Class := { plain "java/io/Serializable" (some 0) with
  accessFlags := 1537
  interfaces := #[]
  cf := some (fileOf pool2 1 #[] #[] 1537 3 #[] #[])
  fields := #[]
  methods := #[]
  instanceTypes := #[]
  staticTypes := #[]
  resolved := Array.replicate 7 none
  statics := none }

def pool3 : Array CpInfo := pool [(1, .class_ 2), (0, u "java/lang/Comparable"), (0, .class_ 4), (0, u "java/lang/Object")] 7

/-- java/lang/Comparable -/
def k3 : Class := { plain "java/lang/Comparable" (some 0) with
  accessFlags := 1537
  interfaces := #[]
  cf := some (fileOf pool3 1 #[] #[] 1537 3 #[] #[])
  fields := #[]
  methods := #[]
  instanceTypes := #[]
  staticTypes := #[]
  resolved := Array.replicate 12 none
  statics := none }

def pool4 : Array CpInfo := pool [(2, .class_ 4), (1, u "java/lang/CharSequence"), (42, .class_ 48), (0, u "java/lang/CharSequence$1CodePointIterator"), (10, .class_ 60), (0, u "java/lang/CharSequence$1CharIterator"), (5, .class_ 67), (0, u "java/lang/Object")] 63

/-- java/lang/CharSequence -/
def k4 : Class := { plain "java/lang/CharSequence" (some 0) with
  accessFlags := 1537
  interfaces := #[]
  cf := some (fileOf pool4 2 #[.nestMembers #[47, 59]] #[] 1537 66 #[] #[])
  fields := #[]
  methods := #[]
  instanceTypes := #[]
  staticTypes := #[]
  resolved := Array.replicate 131 none
  statics := none }

def pool5 : Array CpInfo := pool [(1, .class_ 2), (0, u "java/lang/constant/Constable"), (0, .class_ 4), (0, u "java/lang/Object")] 6

/-- java/lang/constant/Constable -/
def k5 : Class := { plain "java/lang/constant/Constable" (some 0) with
  accessFlags := 1537
  interfaces := #[]
  cf := some (fileOf pool5 1 #[] #[] 1537 3 #[] #[])
  fields := #[]
  methods := #[]
  instanceTypes := #[]
  staticTypes := #[]
  resolved := Array.replicate 11 none
  statics := none }

def pool6 : Array CpInfo := pool [(1, .class_ 2), (0, u "java/lang/constant/ConstantDesc"), (0, .class_ 4), (0, u "java/lang/Object")] 32

/-- java/lang/constant/ConstantDesc -/
def k6 : Class := { plain "java/lang/constant/ConstantDesc" (some 0) with
  accessFlags := 1537
  interfaces := #[]
  cf := some (fileOf pool6 1 #[] #[] 1537 3 #[] #[])
  fields := #[]
  methods := #[]
  instanceTypes := #[]
  staticTypes := #[]
  resolved := Array.replicate 37 none
  statics := none }

def pool7 : Array CpInfo := pool [(1, .methodref 2 3), (0, .class_ 4), (0, .nameAndType 5 6), (0, u "java/lang/Object"), (0, u "<init>"), (0, u "()V"), (0, .string 8), (0, u ""), (0, .fieldref 10 11), (0, .class_ 12), (0, .nameAndType 13 14), (0, u "java/lang/String"), (0, u "value"), (0, u "[B"), (0, .fieldref 10 16), (0, .nameAndType 17 18), (0, u "coder"), (0, u "B"), (2, u "hash"), (0, u "I"), (2, u "hashIsZero"), (0, u "Z"), (0, .methodref 10 28), (0, .nameAndType 5 29), (0, u "([CIILjava/lang/Void;)V"), (8, .fieldref 10 39), (0, .nameAndType 40 26), (0, u "COMPACT_STRINGS"), (1, .class_ 44), (1, u "java/lang/StringUTF16"), (0, u "compress"), (1, .methodref 42 48), (0, .nameAndType 49 50), (0, u "coderFromArrayLen"), (0, u "([BI)B"), (46, u "([BII)I"), (44, u "()Z"), (34, .methodref 42 178), (0, .nameAndType 45 179), (0, u "([CII)[B"), (154, u "()I"), (0, .methodref 10 336), (0, .nameAndType 17 337), (0, u "()B"), (53, u "(II)V"), (100, .methodref 10 493), (0, .nameAndType 494 142), (0, u "isLatin1"), (4, .methodref 10 500), (0, .nameAndType 501 391), (0, u "checkIndex"), (0, .methodref 42 503), (0, .nameAndType 504 97), (0, u "codePointAt"), (2, u "length"), (67, .class_ 576), (0, u "java/lang/CharSequence"), (22, u "CASE_INSENSITIVE_ORDER"), (0, u "Ljava/util/Comparator;"), (164, u "(I)I"), (244, u "([C)V"), (42, .fieldref 1054 1055), (0, .class_ 1056), (0, .nameAndType 1057 1058), (0, u "jdk/internal/util/Preconditions"), (0, u "SIOOBE_FORMATTER"), (0, u "Ljava/util/function/BiFunction;"), (0, .methodref 1054 1060), (0, .nameAndType 501 1061), (0, u "(IILjava/util/function/BiFunction;)I"), (39, u "serialPersistentFields"), (0, u "[Ljava/io/ObjectStreamField;"), (0, .class_ 1104), (0, u "java/lang/String$CaseInsensitiveComparator"), (1, .class_ 1107), (0, u "java/io/Serializable"), (0, .class_ 1109), (0, u "java/lang/Comparable"), (0, .class_ 1111), (0, u "java/lang/constant/Constable"), (0, .class_ 1113), (0, u "java/lang/constant/ConstantDesc"), (2, u "serialVersionUID"), (0, u "J"), (3, u "REPL"), (0, u "C"), (2, u "LATIN1"), (1, u "UTF16")] 323

def k7m0 : Method := { name := "<init>", desc := "()V", sig := { parameters := [], returnType := none }, accessFlags := 1, code := none }
def k7c1 : Code := { maxStack := 5, maxLocals := 2, code := jdk_42_method_3_code, exceptionTable := #[], attributes := #[] }
def k7m1 : Method := { name := "<init>", desc := "([C)V", sig := { parameters := [(.array .char)], returnType := none }, accessFlags := 1, code := some k7c1 }
def k7c2 : Code := { maxStack := 2, maxLocals := 1, code := jdk_42_method_54_code, exceptionTable := #[], attributes := #[] }
def k7m2 : Method := { name := "length", desc := "()I", sig := { parameters := [], returnType := some .int }, accessFlags := 1, code := some k7c2 }
def k7c3 : Code := { maxStack := 3, maxLocals := 3, code := jdk_42_method_57_code, exceptionTable := #[], attributes := #[] }
def k7m3 : Method := { name := "codePointAt", desc := "(I)I", sig := { parameters := [.int], returnType := some .int }, accessFlags := 1, code := some k7c3 }
def k7c4 : Code := { maxStack := 4, maxLocals := 6, code := jdk_42_method_149_code, exceptionTable := #[], attributes := #[] }
def k7m4 : Method := { name := "<init>", desc := "([CIILjava/lang/Void;)V", sig := { parameters := [(.array .char), .int, .int, (.object "java/lang/Void")], returnType := none }, accessFlags := 2, code := some k7c4 }
def k7c5 : Code := { maxStack := 1, maxLocals := 1, code := jdk_42_method_152_code, exceptionTable := #[], attributes := #[] }
def k7m5 : Method := { name := "coder", desc := "()B", sig := { parameters := [], returnType := some .byte }, accessFlags := 0, code := some k7c5 }
def k7c6 : Code := { maxStack := 1, maxLocals := 1, code := jdk_42_method_154_code, exceptionTable := #[], attributes := #[] }
def k7m6 : Method := { name := "isLatin1", desc := "()Z", sig := { parameters := [], returnType := some .boolean }, accessFlags := 0, code := some k7c6 }
def k7c7 : Code := { maxStack := 3, maxLocals := 2, code := jdk_42_method_155_code, exceptionTable := #[], attributes := #[] }
def k7m7 : Method := { name := "checkIndex", desc := "(II)V", sig := { parameters := [.int, .int], returnType := none }, accessFlags := 8, code := some k7c7 }
/-- java/lang/String -/
def k7 : Class := { plain "java/lang/String" (some 0) with
  accessFlags := 49
  interfaces := #[2, 3, 4, 5, 6]
  cf := some (fileOf pool7 10 #[.nestMembers #[1103]] #[{ accessFlags := 1, nameIndex := 5, descriptorIndex := 6, attributes := #[] }, { accessFlags := 1, nameIndex := 5, descriptorIndex := 1010, attributes := #[] }, { accessFlags := 1, nameIndex := 507, descriptorIndex := 334, attributes := #[] }, { accessFlags := 1, nameIndex := 504, descriptorIndex := 765, attributes := #[] }, { accessFlags := 2, nameIndex := 5, descriptorIndex := 29, attributes := #[] }, { accessFlags := 0, nameIndex := 17, descriptorIndex := 337, attributes := #[] }, { accessFlags := 0, nameIndex := 494, descriptorIndex := 142, attributes := #[] }, { accessFlags := 8, nameIndex := 501, descriptorIndex := 391, attributes := #[] }] 49 2 #[1106, 1108, 575, 1110, 1112] #[{ accessFlags := 18, nameIndex := 13, descriptorIndex := 14, attributes := #[] }, { accessFlags := 18, nameIndex := 17, descriptorIndex := 18, attributes := #[] }, { accessFlags := 2, nameIndex := 21, descriptorIndex := 22, attributes := #[] }, { accessFlags := 2, nameIndex := 25, descriptorIndex := 26, attributes := #[] }, { accessFlags := 26, nameIndex := 1116, descriptorIndex := 1117, attributes := #[] }, { accessFlags := 24, nameIndex := 40, descriptorIndex := 26, attributes := #[] }, { accessFlags := 26, nameIndex := 1101, descriptorIndex := 1102, attributes := #[] }, { accessFlags := 26, nameIndex := 1121, descriptorIndex := 1122, attributes := #[] }, { accessFlags := 25, nameIndex := 599, descriptorIndex := 600, attributes := #[] }, { accessFlags := 24, nameIndex := 1125, descriptorIndex := 18, attributes := #[] }, { accessFlags := 24, nameIndex := 1127, descriptorIndex := 18, attributes := #[] }])
  fields := #[{ name := "value", type := (.array .byte), accessFlags := 18, slot := 0, constantValue := 0 }, { name := "coder", type := .byte, accessFlags := 18, slot := 1, constantValue := 0 }, { name := "hash", type := .int, accessFlags := 2, slot := 2, constantValue := 0 }, { name := "hashIsZero", type := .boolean, accessFlags := 2, slot := 3, constantValue := 0 }, { name := "serialVersionUID", type := .long, accessFlags := 26, slot := 0, constantValue := 0 }, { name := "COMPACT_STRINGS", type := .boolean, accessFlags := 24, slot := 1, constantValue := 0 }, { name := "serialPersistentFields", type := (.array (.object "java/io/ObjectStreamField")), accessFlags := 26, slot := 2, constantValue := 0 }, { name := "REPL", type := .char, accessFlags := 26, slot := 3, constantValue := 0 }, { name := "CASE_INSENSITIVE_ORDER", type := (.object "java/util/Comparator"), accessFlags := 25, slot := 4, constantValue := 0 }, { name := "LATIN1", type := .byte, accessFlags := 24, slot := 5, constantValue := 0 }, { name := "UTF16", type := .byte, accessFlags := 24, slot := 6, constantValue := 0 }]
  methods := #[k7m0, k7m1, k7m2, k7m3, k7m4, k7m5, k7m6, k7m7]
  instanceTypes := #[(.array .byte), .byte, .int, .boolean]
  staticTypes := #[.long, .boolean, (.array (.object "java/io/ObjectStreamField")), .char, (.object "java/util/Comparator"), .byte, .byte]
  resolved := Array.replicate 1451 none
  statics := some 0 }

def pool8 : Array CpInfo := pool [(6, .class_ 8), (1, u "java/lang/Object"), (0, u "<init>"), (0, u "()V"), (0, .methodref 12 13), (0, .class_ 14), (0, .nameAndType 15 16), (0, u "java/lang/StringUTF16"), (0, u "newBytesLength"), (0, u "(I)I"), (3, .integer 1073741823), (23, .fieldref 12 45), (0, .nameAndType 46 47), (0, u "$assertionsDisabled"), (0, u "Z"), (11, .fieldref 12 60), (0, .nameAndType 61 62), (0, u "HI_BYTE_SHIFT"), (0, u "I"), (0, .fieldref 12 64), (0, .nameAndType 65 62), (0, u "LO_BYTE_SHIFT"), (5, .methodref 12 72), (0, .nameAndType 73 74), (0, u "getChar"), (0, u "([BI)C"), (0, .methodref 76 77), (0, .class_ 78), (0, .nameAndType 79 80), (0, u "java/lang/Character"), (0, u "isHighSurrogate"), (0, u "(C)Z"), (0, .methodref 76 82), (0, .nameAndType 83 80), (0, u "isLowSurrogate"), (0, .methodref 76 85), (0, .nameAndType 86 87), (0, u "toCodePoint"), (0, u "(CC)I"), (0, .methodref 12 89), (0, .nameAndType 90 91), (0, u "codePointAt"), (0, u "([BIIZ)I"), (15, .methodref 12 108), (0, .nameAndType 109 110), (0, u "newBytesFor"), (0, u "(I)[B"), (0, .methodref 12 112), (0, .nameAndType 113 114), (0, u "putChar"), (0, u "([BII)V"), (0, .methodref 12 116), (0, .nameAndType 117 118), (0, u "compress"), (0, u "([CI[BII)I"), (0, .methodref 12 120), (0, .nameAndType 121 122), (0, u "toBytes"), (0, u "([CII)[B"), (127, u "([BII)I"), (10, u "coderFromArrayLen"), (0, u "([BI)B"), (106, .class_ 371), (1, u "java/lang/StringUTF16$LinesSpliterator"), (58, u "MAX_LENGTH"), (196, .class_ 628), (0, u "java/lang/StringUTF16$CodePointsSpliterator"), (0, .class_ 630), (0, u "java/lang/StringUTF16$CharsSpliterator")] 4

def k8m0 : Method := { name := "<init>", desc := "()V", sig := { parameters := [], returnType := none }, accessFlags := 0, code := none }
def k8c1 : Code := { maxStack := 1, maxLocals := 1, code := jdk_52_method_2_code, exceptionTable := #[], attributes := #[] }
def k8m1 : Method := { name := "newBytesFor", desc := "(I)[B", sig := { parameters := [.int], returnType := some (.array .byte) }, accessFlags := 9, code := some k8c1 }
def k8c2 : Code := { maxStack := 4, maxLocals := 1, code := jdk_52_method_3_code, exceptionTable := #[], attributes := #[] }
def k8m2 : Method := { name := "newBytesLength", desc := "(I)I", sig := { parameters := [.int], returnType := some .int }, accessFlags := 9, code := some k8c2 }
def k8c3 : Code := { maxStack := 4, maxLocals := 3, code := jdk_52_method_4_code, exceptionTable := #[], attributes := #[] }
def k8m3 : Method := { name := "putChar", desc := "([BII)V", sig := { parameters := [(.array .byte), .int, .int], returnType := none }, accessFlags := 8, code := some k8c3 }
def k8c4 : Code := { maxStack := 3, maxLocals := 2, code := jdk_52_method_5_code, exceptionTable := #[], attributes := #[] }
def k8m4 : Method := { name := "getChar", desc := "([BI)C", sig := { parameters := [(.array .byte), .int], returnType := some .char }, accessFlags := 8, code := some k8c4 }
def k8c5 : Code := { maxStack := 2, maxLocals := 6, code := jdk_52_method_7_code, exceptionTable := #[], attributes := #[] }
def k8m5 : Method := { name := "codePointAt", desc := "([BIIZ)I", sig := { parameters := [(.array .byte), .int, .int, .boolean], returnType := some .int }, accessFlags := 10, code := some k8c5 }
def k8c6 : Code := { maxStack := 4, maxLocals := 3, code := jdk_52_method_8_code, exceptionTable := #[], attributes := #[] }
def k8m6 : Method := { name := "codePointAt", desc := "([BII)I", sig := { parameters := [(.array .byte), .int, .int], returnType := some .int }, accessFlags := 9, code := some k8c6 }
def k8c7 : Code := { maxStack := 4, maxLocals := 5, code := jdk_52_method_14_code, exceptionTable := #[], attributes := #[] }
def k8m7 : Method := { name := "toBytes", desc := "([CII)[B", sig := { parameters := [(.array .char), .int, .int], returnType := some (.array .byte) }, accessFlags := 9, code := some k8c7 }
def k8c8 : Code := { maxStack := 2, maxLocals := 2, code := jdk_52_method_15_code, exceptionTable := #[], attributes := #[] }
def k8m8 : Method := { name := "coderFromArrayLen", desc := "([BI)B", sig := { parameters := [(.array .byte), .int], returnType := some .byte }, accessFlags := 8, code := some k8c8 }
def k8c9 : Code := { maxStack := 5, maxLocals := 6, code := jdk_52_method_16_code, exceptionTable := #[], attributes := #[] }
def k8m9 : Method := { name := "compress", desc := "([CII)[B", sig := { parameters := [(.array .char), .int, .int], returnType := some (.array .byte) }, accessFlags := 9, code := some k8c9 }
def k8c10 : Code := { maxStack := 3, maxLocals := 7, code := jdk_52_method_21_code, exceptionTable := #[], attributes := #[] }
def k8m10 : Method := { name := "compress", desc := "([CI[BII)I", sig := { parameters := [(.array .char), .int, (.array .byte), .int, .int], returnType := some .int }, accessFlags := 9, code := some k8c10 }
/-- java/lang/StringUTF16 -/
def k8 : Class := { plain "java/lang/StringUTF16" (some 0) with
  accessFlags := 48
  interfaces := #[]
  cf := some (fileOf pool8 12 #[.nestMembers #[627, 629, 369]] #[{ accessFlags := 0, nameIndex := 9, descriptorIndex := 10, attributes := #[] }, { accessFlags := 9, nameIndex := 109, descriptorIndex := 110, attributes := #[] }, { accessFlags := 9, nameIndex := 15, descriptorIndex := 16, attributes := #[] }, { accessFlags := 8, nameIndex := 113, descriptorIndex := 114, attributes := #[] }, { accessFlags := 8, nameIndex := 73, descriptorIndex := 74, attributes := #[] }, { accessFlags := 10, nameIndex := 90, descriptorIndex := 91, attributes := #[] }, { accessFlags := 9, nameIndex := 90, descriptorIndex := 250, attributes := #[] }, { accessFlags := 9, nameIndex := 121, descriptorIndex := 122, attributes := #[] }, { accessFlags := 8, nameIndex := 261, descriptorIndex := 262, attributes := #[] }, { accessFlags := 9, nameIndex := 117, descriptorIndex := 122, attributes := #[] }, { accessFlags := 9, nameIndex := 117, descriptorIndex := 118, attributes := #[] }] 48 6 #[] #[{ accessFlags := 26, nameIndex := 61, descriptorIndex := 62, attributes := #[] }, { accessFlags := 26, nameIndex := 65, descriptorIndex := 62, attributes := #[] }, { accessFlags := 24, nameIndex := 430, descriptorIndex := 62, attributes := #[] }, { accessFlags := 4120, nameIndex := 46, descriptorIndex := 47, attributes := #[] }])
  fields := #[{ name := "HI_BYTE_SHIFT", type := .int, accessFlags := 26, slot := 0, constantValue := 0 }, { name := "LO_BYTE_SHIFT", type := .int, accessFlags := 26, slot := 1, constantValue := 0 }, { name := "MAX_LENGTH", type := .int, accessFlags := 24, slot := 2, constantValue := 0 }, { name := "$assertionsDisabled", type := .boolean, accessFlags := 4120, slot := 3, constantValue := 0 }]
  methods := #[k8m0, k8m1, k8m2, k8m3, k8m4, k8m5, k8m6, k8m7, k8m8, k8m9, k8m10]
  instanceTypes := #[]
  staticTypes := #[.int, .int, .int, .boolean]
  resolved := Array.replicate 635 none
  statics := some 1 }

def pool9 : Array CpInfo := pool [(2, .class_ 4), (1, u "java/lang/Object"), (0, u "<init>"), (0, u "()V"), (0, .methodref 8 9), (0, .class_ 10), (0, .nameAndType 11 12), (0, u "java/util/Objects"), (0, u "requireNonNull"), (0, u "(Ljava/lang/Object;Ljava/lang/String;)Ljava/lang/Object;"), (0, .methodref 14 15), (0, .class_ 16), (0, .nameAndType 17 18), (0, u "java/lang/String"), (0, u "length"), (0, u "()I"), (0, .methodref 14 20), (0, .nameAndType 21 22), (0, u "codePointAt"), (0, u "(I)I"), (2, .class_ 26), (0, u "java/lang/Character"), (0, .integer 55296), (0, .integer 57343), (19, .methodref 25 49), (0, .nameAndType 50 22), (0, u "charCount"), (0, .class_ 52), (0, u "com/example/libidem/libidem/Texts"), (2, u "requireStorable"), (0, u "(Ljava/lang/String;Ljava/lang/String;)Ljava/lang/String;")] 3

def k9m0 : Method := { name := "<init>", desc := "()V", sig := { parameters := [], returnType := none }, accessFlags := 2, code := none }
def k9c1 : Code := { maxStack := 7, maxLocals := 5, code := prog_48_method_2_code, exceptionTable := #[], attributes := #[] }
def k9m1 : Method := { name := "requireStorable", desc := "(Ljava/lang/String;Ljava/lang/String;)Ljava/lang/String;", sig := { parameters := [(.object "java/lang/String"), (.object "java/lang/String")], returnType := some (.object "java/lang/String") }, accessFlags := 8, code := some k9c1 }
/-- com/example/libidem/libidem/Texts -/
def k9 : Class := { plain "com/example/libidem/libidem/Texts" (some 0) with
  accessFlags := 32
  interfaces := #[]
  cf := some (fileOf pool9 51 #[] #[{ accessFlags := 2, nameIndex := 5, descriptorIndex := 6, attributes := #[] }, { accessFlags := 8, nameIndex := 55, descriptorIndex := 56, attributes := #[] }] 32 2 #[] #[])
  fields := #[]
  methods := #[k9m0, k9m1]
  instanceTypes := #[]
  staticTypes := #[]
  resolved := Array.replicate 60 none
  statics := none }

def pool10 : Array CpInfo := pool [(2, .class_ 4), (1, u "java/lang/Object"), (0, u "<init>"), (0, u "()V"), (35, .class_ 44), (1, u "java/util/Objects"), (0, u "requireNonNull"), (48, u "(Ljava/lang/Object;Ljava/lang/String;)Ljava/lang/Object;")] 89

def k10m0 : Method := { name := "<init>", desc := "()V", sig := { parameters := [], returnType := none }, accessFlags := 2, code := none }
def k10c1 : Code := { maxStack := 3, maxLocals := 2, code := jdk_31_method_11_code, exceptionTable := #[], attributes := #[] }
def k10m1 : Method := { name := "requireNonNull", desc := "(Ljava/lang/Object;Ljava/lang/String;)Ljava/lang/Object;", sig := { parameters := [(.object "java/lang/Object"), (.object "java/lang/String")], returnType := some (.object "java/lang/Object") }, accessFlags := 9, code := some k10c1 }
/-- java/util/Objects -/
def k10 : Class := { plain "java/util/Objects" (some 0) with
  accessFlags := 49
  interfaces := #[]
  cf := some (fileOf pool10 42 #[] #[{ accessFlags := 2, nameIndex := 5, descriptorIndex := 6, attributes := #[] }, { accessFlags := 9, nameIndex := 45, descriptorIndex := 94, attributes := #[] }] 49 2 #[] #[])
  fields := #[]
  methods := #[k10m0, k10m1]
  instanceTypes := #[]
  staticTypes := #[]
  resolved := Array.replicate 184 none
  statics := none }

def pool11 : Array CpInfo := pool [(2, .class_ 4), (1, u "java/lang/Object"), (0, u "<init>"), (0, u "()V"), (17, .class_ 26), (1, u "jdk/internal/util/Preconditions"), (6, u "checkIndex"), (21, .class_ 56), (0, u "jdk/internal/util/Preconditions$4"), (57, .class_ 115), (0, u "jdk/internal/util/Preconditions$1"), (7, u "SIOOBE_FORMATTER"), (0, u "Ljava/util/function/BiFunction;"), (0, .class_ 126), (0, u "jdk/internal/util/Preconditions$2"), (3, u "AIOOBE_FORMATTER"), (0, .class_ 132), (0, u "jdk/internal/util/Preconditions$3"), (3, u "IOOBE_FORMATTER"), (41, u "(IILjava/util/function/BiFunction;)I")] 15

def k11m0 : Method := { name := "<init>", desc := "()V", sig := { parameters := [], returnType := none }, accessFlags := 1, code := none }
def k11c1 : Code := { maxStack := 3, maxLocals := 3, code := jdk_41_method_11_code, exceptionTable := #[], attributes := #[] }
def k11m1 : Method := { name := "checkIndex", desc := "(IILjava/util/function/BiFunction;)I", sig := { parameters := [.int, .int, (.object "java/util/function/BiFunction")], returnType := some .int }, accessFlags := 9, code := some k11c1 }
/-- jdk/internal/util/Preconditions -/
def k11 : Class := { plain "jdk/internal/util/Preconditions" (some 0) with
  accessFlags := 33
  interfaces := #[]
  cf := some (fileOf pool11 24 #[.nestMembers #[55, 131, 125, 114]] #[{ accessFlags := 1, nameIndex := 5, descriptorIndex := 6, attributes := #[] }, { accessFlags := 9, nameIndex := 33, descriptorIndex := 178, attributes := #[] }] 33 2 #[] #[{ accessFlags := 25, nameIndex := 123, descriptorIndex := 124, attributes := #[] }, { accessFlags := 25, nameIndex := 130, descriptorIndex := 124, attributes := #[] }, { accessFlags := 25, nameIndex := 136, descriptorIndex := 124, attributes := #[] }])
  fields := #[{ name := "SIOOBE_FORMATTER", type := (.object "java/util/function/BiFunction"), accessFlags := 25, slot := 0, constantValue := 0 }, { name := "AIOOBE_FORMATTER", type := (.object "java/util/function/BiFunction"), accessFlags := 25, slot := 1, constantValue := 0 }, { name := "IOOBE_FORMATTER", type := (.object "java/util/function/BiFunction"), accessFlags := 25, slot := 2, constantValue := 0 }]
  methods := #[k11m0, k11m1]
  instanceTypes := #[]
  staticTypes := #[(.object "java/util/function/BiFunction"), (.object "java/util/function/BiFunction"), (.object "java/util/function/BiFunction")]
  resolved := Array.replicate 194 none
  statics := some 2 }

def pool12 : Array CpInfo := pool [(1, .class_ 2), (0, u "java/lang/Character"), (18, u "value"), (0, u "C"), (19, .class_ 44), (1, u "java/lang/Object"), (3, .class_ 50), (1, u "java/lang/Character$CharacterCache"), (22, .integer 65536), (1, .integer 55296), (0, .integer 56320), (0, .integer 57344), (2, u "isHighSurrogate"), (0, u "(C)Z"), (2, u "isLowSurrogate"), (0, .integer 4238353408), (12, u "toCodePoint"), (0, u "(CC)I"), (74, u "(I)I"), (109, u "$assertionsDisabled"), (0, u "Z"), (21, .class_ 309), (1, u "java/lang/Character$UnicodeBlock"), (73, u "TYPE"), (0, u "Ljava/lang/Class;"), (0, .class_ 386), (0, u "java/io/Serializable"), (0, .class_ 388), (0, u "java/lang/Comparable"), (0, .class_ 390), (0, u "java/lang/constant/Constable"), (0, u "MIN_RADIX"), (0, u "I"), (2, u "MAX_RADIX"), (1, u "MIN_VALUE"), (1, u "MAX_VALUE"), (3, u "UNASSIGNED"), (0, u "B"), (0, u "UPPERCASE_LETTER"), (1, u "LOWERCASE_LETTER"), (0, u "TITLECASE_LETTER"), (1, u "MODIFIER_LETTER"), (1, u "OTHER_LETTER"), (1, u "NON_SPACING_MARK"), (1, u "ENCLOSING_MARK"), (1, u "COMBINING_SPACING_MARK"), (1, u "DECIMAL_DIGIT_NUMBER"), (1, u "LETTER_NUMBER"), (1, u "OTHER_NUMBER"), (1, u "SPACE_SEPARATOR"), (1, u "LINE_SEPARATOR"), (1, u "PARAGRAPH_SEPARATOR"), (1, u "CONTROL"), (1, u "FORMAT"), (1, u "PRIVATE_USE"), (1, u "SURROGATE"), (1, u "DASH_PUNCTUATION"), (1, u "START_PUNCTUATION"), (1, u "END_PUNCTUATION"), (1, u "CONNECTOR_PUNCTUATION"), (1, u "OTHER_PUNCTUATION"), (1, u "MATH_SYMBOL"), (1, u "CURRENCY_SYMBOL"), (1, u "MODIFIER_SYMBOL"), (1, u "OTHER_SYMBOL"), (1, u "INITIAL_QUOTE_PUNCTUATION"), (1, u "FINAL_QUOTE_PUNCTUATION"), (1, u "ERROR"), (1, u "DIRECTIONALITY_UNDEFINED"), (0, u "DIRECTIONALITY_LEFT_TO_RIGHT"), (0, u "DIRECTIONALITY_RIGHT_TO_LEFT"), (0, u "DIRECTIONALITY_RIGHT_TO_LEFT_ARABIC"), (0, u "DIRECTIONALITY_EUROPEAN_NUMBER"), (0, u "DIRECTIONALITY_EUROPEAN_NUMBER_SEPARATOR"), (0, u "DIRECTIONALITY_EUROPEAN_NUMBER_TERMINATOR"), (0, u "DIRECTIONALITY_ARABIC_NUMBER"), (0, u "DIRECTIONALITY_COMMON_NUMBER_SEPARATOR"), (0, u "DIRECTIONALITY_NONSPACING_MARK"), (0, u "DIRECTIONALITY_BOUNDARY_NEUTRAL"), (0, u "DIRECTIONALITY_PARAGRAPH_SEPARATOR"), (0, u "DIRECTIONALITY_SEGMENT_SEPARATOR"), (0, u "DIRECTIONALITY_WHITESPACE"), (0, u "DIRECTIONALITY_OTHER_NEUTRALS"), (0, u "DIRECTIONALITY_LEFT_TO_RIGHT_EMBEDDING"), (0, u "DIRECTIONALITY_LEFT_TO_RIGHT_OVERRIDE"), (0, u "DIRECTIONALITY_RIGHT_TO_LEFT_EMBEDDING"), (0, u "DIRECTIONALITY_RIGHT_TO_LEFT_OVERRIDE"), (1, u "DIRECTIONALITY_POP_DIRECTIONAL_FORMAT"), (0, u "DIRECTIONALITY_LEFT_TO_RIGHT_ISOLATE"), (0, u "DIRECTIONALITY_RIGHT_TO_LEFT_ISOLATE"), (0, u "DIRECTIONALITY_FIRST_STRONG_ISOLATE"), (0, u "DIRECTIONALITY_POP_DIRECTIONAL_ISOLATE"), (0, u "MIN_HIGH_SURROGATE"), (0, u "MAX_HIGH_SURROGATE"), (1, u "MIN_LOW_SURROGATE"), (0, u "MAX_LOW_SURROGATE"), (1, u "MIN_SURROGATE"), (0, u "MAX_SURROGATE"), (0, u "MIN_SUPPLEMENTARY_CODE_POINT"), (0, u "MIN_CODE_POINT"), (0, u "MAX_CODE_POINT"), (1, u "serialVersionUID"), (0, u "J"), (2, u "SIZE"), (0, u "BYTES"), (29, u "charCount"), (58, .class_ 596), (0, u "java/lang/Character$UnicodeScript"), (0, .class_ 598), (0, u "java/lang/Character$Subset")] 5

def k12c0 : Code := { maxStack := 2, maxLocals := 1, code := jdk_89_method_14_code, exceptionTable := #[], attributes := #[] }
def k12m0 : Method := { name := "isHighSurrogate", desc := "(C)Z", sig := { parameters := [.char], returnType := some .boolean }, accessFlags := 9, code := some k12c0 }
def k12c1 : Code := { maxStack := 2, maxLocals := 1, code := jdk_89_method_15_code, exceptionTable := #[], attributes := #[] }
def k12m1 : Method := { name := "isLowSurrogate", desc := "(C)Z", sig := { parameters := [.char], returnType := some .boolean }, accessFlags := 9, code := some k12c1 }
def k12c2 : Code := { maxStack := 2, maxLocals := 1, code := jdk_89_method_18_code, exceptionTable := #[], attributes := #[] }
def k12m2 : Method := { name := "charCount", desc := "(I)I", sig := { parameters := [.int], returnType := some .int }, accessFlags := 9, code := some k12c2 }
def k12c3 : Code := { maxStack := 2, maxLocals := 2, code := jdk_89_method_19_code, exceptionTable := #[], attributes := #[] }
def k12m3 : Method := { name := "toCodePoint", desc := "(CC)I", sig := { parameters := [.char, .char], returnType := some .int }, accessFlags := 9, code := some k12c3 }
/-- java/lang/Character -/
def k12 : Class := { plain "java/lang/Character" (some 0) with
  accessFlags := 49
  interfaces := #[2, 3, 5]
  cf := some (fileOf pool12 1 #[.nestMembers #[48, 595, 307, 597]] #[{ accessFlags := 9, nameIndex := 80, descriptorIndex := 81, attributes := #[] }, { accessFlags := 9, nameIndex := 84, descriptorIndex := 81, attributes := #[] }, { accessFlags := 9, nameIndex := 536, descriptorIndex := 174, attributes := #[] }, { accessFlags := 9, nameIndex := 98, descriptorIndex := 99, attributes := #[] }] 49 42 #[385, 387, 389] #[{ accessFlags := 25, nameIndex := 391, descriptorIndex := 392, attributes := #[] }, { accessFlags := 25, nameIndex := 395, descriptorIndex := 392, attributes := #[] }, { accessFlags := 25, nameIndex := 397, descriptorIndex := 22, attributes := #[] }, { accessFlags := 25, nameIndex := 399, descriptorIndex := 22, attributes := #[] }, { accessFlags := 25, nameIndex := 383, descriptorIndex := 384, attributes := #[] }, { accessFlags := 25, nameIndex := 403, descriptorIndex := 404, attributes := #[] }, { accessFlags := 25, nameIndex := 405, descriptorIndex := 404, attributes := #[] }, { accessFlags := 25, nameIndex := 407, descriptorIndex := 404, attributes := #[] }, { accessFlags := 25, nameIndex := 408, descriptorIndex := 404, attributes := #[] }, { accessFlags := 25, nameIndex := 410, descriptorIndex := 404, attributes := #[] }, { accessFlags := 25, nameIndex := 412, descriptorIndex := 404, attributes := #[] }, { accessFlags := 25, nameIndex := 414, descriptorIndex := 404, attributes := #[] }, { accessFlags := 25, nameIndex := 416, descriptorIndex := 404, attributes := #[] }, { accessFlags := 25, nameIndex := 418, descriptorIndex := 404, attributes := #[] }, { accessFlags := 25, nameIndex := 420, descriptorIndex := 404, attributes := #[] }, { accessFlags := 25, nameIndex := 422, descriptorIndex := 404, attributes := #[] }, { accessFlags := 25, nameIndex := 424, descriptorIndex := 404, attributes := #[] }, { accessFlags := 25, nameIndex := 426, descriptorIndex := 404, attributes := #[] }, { accessFlags := 25, nameIndex := 428, descriptorIndex := 404, attributes := #[] }, { accessFlags := 25, nameIndex := 430, descriptorIndex := 404, attributes := #[] }, { accessFlags := 25, nameIndex := 432, descriptorIndex := 404, attributes := #[] }, { accessFlags := 25, nameIndex := 434, descriptorIndex := 404, attributes := #[] }, { accessFlags := 25, nameIndex := 436, descriptorIndex := 404, attributes := #[] }, { accessFlags := 25, nameIndex := 438, descriptorIndex := 404, attributes := #[] }, { accessFlags := 25, nameIndex := 440, descriptorIndex := 404, attributes := #[] }, { accessFlags := 25, nameIndex := 442, descriptorIndex := 404, attributes := #[] }, { accessFlags := 25, nameIndex := 444, descriptorIndex := 404, attributes := #[] }, { accessFlags := 25, nameIndex := 446, descriptorIndex := 404, attributes := #[] }, { accessFlags := 25, nameIndex := 448, descriptorIndex := 404, attributes := #[] }, { accessFlags := 25, nameIndex := 450, descriptorIndex := 404, attributes := #[] }, { accessFlags := 25, nameIndex := 452, descriptorIndex := 404, attributes := #[] }, { accessFlags := 25, nameIndex := 454, descriptorIndex := 404, attributes := #[] }, { accessFlags := 25, nameIndex := 456, descriptorIndex := 404, attributes := #[] }, { accessFlags := 25, nameIndex := 458, descriptorIndex := 404, attributes := #[] }, { accessFlags := 25, nameIndex := 460, descriptorIndex := 404, attributes := #[] }, { accessFlags := 24, nameIndex := 462, descriptorIndex := 392, attributes := #[] }, { accessFlags := 25, nameIndex := 464, descriptorIndex := 404, attributes := #[] }, { accessFlags := 25, nameIndex := 465, descriptorIndex := 404, attributes := #[] }, { accessFlags := 25, nameIndex := 466, descriptorIndex := 404, attributes := #[] }, { accessFlags := 25, nameIndex := 467, descriptorIndex := 404, attributes := #[] }, { accessFlags := 25, nameIndex := 468, descriptorIndex := 404, attributes := #[] }, { accessFlags := 25, nameIndex := 469, descriptorIndex := 404, attributes := #[] }, { accessFlags := 25, nameIndex := 470, descriptorIndex := 404, attributes := #[] }, { accessFlags := 25, nameIndex := 471, descriptorIndex := 404, attributes := #[] }, { accessFlags := 25, nameIndex := 472, descriptorIndex := 404, attributes := #[] }, { accessFlags := 25, nameIndex := 473, descriptorIndex := 404, attributes := #[] }, { accessFlags := 25, nameIndex := 474, descriptorIndex := 404, attributes := #[] }, { accessFlags := 25, nameIndex := 475, descriptorIndex := 404, attributes := #[] }, { accessFlags := 25, nameIndex := 476, descriptorIndex := 404, attributes := #[] }, { accessFlags := 25, nameIndex := 477, descriptorIndex := 404, attributes := #[] }, { accessFlags := 25, nameIndex := 478, descriptorIndex := 404, attributes := #[] }, { accessFlags := 25, nameIndex := 479, descriptorIndex := 404, attributes := #[] }, { accessFlags := 25, nameIndex := 480, descriptorIndex := 404, attributes := #[] }, { accessFlags := 25, nameIndex := 481, descriptorIndex := 404, attributes := #[] }, { accessFlags := 25, nameIndex := 482, descriptorIndex := 404, attributes := #[] }, { accessFlags := 25, nameIndex := 484, descriptorIndex := 404, attributes := #[] }, { accessFlags := 25, nameIndex := 485, descriptorIndex := 404, attributes := #[] }, { accessFlags := 25, nameIndex := 486, descriptorIndex := 404, attributes := #[] }, { accessFlags := 25, nameIndex := 487, descriptorIndex := 404, attributes := #[] }, { accessFlags := 25, nameIndex := 488, descriptorIndex := 404, attributes := #[] }, { accessFlags := 25, nameIndex := 489, descriptorIndex := 22, attributes := #[] }, { accessFlags := 25, nameIndex := 490, descriptorIndex := 22, attributes := #[] }, { accessFlags := 25, nameIndex := 492, descriptorIndex := 22, attributes := #[] }, { accessFlags := 25, nameIndex := 493, descriptorIndex := 22, attributes := #[] }, { accessFlags := 25, nameIndex := 495, descriptorIndex := 22, attributes := #[] }, { accessFlags := 25, nameIndex := 496, descriptorIndex := 22, attributes := #[] }, { accessFlags := 25, nameIndex := 497, descriptorIndex := 392, attributes := #[] }, { accessFlags := 25, nameIndex := 498, descriptorIndex := 392, attributes := #[] }, { accessFlags := 25, nameIndex := 499, descriptorIndex := 392, attributes := #[] }, { accessFlags := 18, nameIndex := 21, descriptorIndex := 22, attributes := #[] }, { accessFlags := 26, nameIndex := 501, descriptorIndex := 502, attributes := #[] }, { accessFlags := 25, nameIndex := 505, descriptorIndex := 392, attributes := #[] }, { accessFlags := 25, nameIndex := 506, descriptorIndex := 392, attributes := #[] }, { accessFlags := 4120, nameIndex := 284, descriptorIndex := 285, attributes := #[] }])
  fields := #[{ name := "MIN_RADIX", type := .int, accessFlags := 25, slot := 0, constantValue := 0 }, { name := "MAX_RADIX", type := .int, accessFlags := 25, slot := 1, constantValue := 0 }, { name := "MIN_VALUE", type := .char, accessFlags := 25, slot := 2, constantValue := 0 }, { name := "MAX_VALUE", type := .char, accessFlags := 25, slot := 3, constantValue := 0 }, { name := "TYPE", type := (.object "java/lang/Class"), accessFlags := 25, slot := 4, constantValue := 0 }, { name := "UNASSIGNED", type := .byte, accessFlags := 25, slot := 5, constantValue := 0 }, { name := "UPPERCASE_LETTER", type := .byte, accessFlags := 25, slot := 6, constantValue := 0 }, { name := "LOWERCASE_LETTER", type := .byte, accessFlags := 25, slot := 7, constantValue := 0 }, { name := "TITLECASE_LETTER", type := .byte, accessFlags := 25, slot := 8, constantValue := 0 }, { name := "MODIFIER_LETTER", type := .byte, accessFlags := 25, slot := 9, constantValue := 0 }, { name := "OTHER_LETTER", type := .byte, accessFlags := 25, slot := 10, constantValue := 0 }, { name := "NON_SPACING_MARK", type := .byte, accessFlags := 25, slot := 11, constantValue := 0 }, { name := "ENCLOSING_MARK", type := .byte, accessFlags := 25, slot := 12, constantValue := 0 }, { name := "COMBINING_SPACING_MARK", type := .byte, accessFlags := 25, slot := 13, constantValue := 0 }, { name := "DECIMAL_DIGIT_NUMBER", type := .byte, accessFlags := 25, slot := 14, constantValue := 0 }, { name := "LETTER_NUMBER", type := .byte, accessFlags := 25, slot := 15, constantValue := 0 }, { name := "OTHER_NUMBER", type := .byte, accessFlags := 25, slot := 16, constantValue := 0 }, { name := "SPACE_SEPARATOR", type := .byte, accessFlags := 25, slot := 17, constantValue := 0 }, { name := "LINE_SEPARATOR", type := .byte, accessFlags := 25, slot := 18, constantValue := 0 }, { name := "PARAGRAPH_SEPARATOR", type := .byte, accessFlags := 25, slot := 19, constantValue := 0 }, { name := "CONTROL", type := .byte, accessFlags := 25, slot := 20, constantValue := 0 }, { name := "FORMAT", type := .byte, accessFlags := 25, slot := 21, constantValue := 0 }, { name := "PRIVATE_USE", type := .byte, accessFlags := 25, slot := 22, constantValue := 0 }, { name := "SURROGATE", type := .byte, accessFlags := 25, slot := 23, constantValue := 0 }, { name := "DASH_PUNCTUATION", type := .byte, accessFlags := 25, slot := 24, constantValue := 0 }, { name := "START_PUNCTUATION", type := .byte, accessFlags := 25, slot := 25, constantValue := 0 }, { name := "END_PUNCTUATION", type := .byte, accessFlags := 25, slot := 26, constantValue := 0 }, { name := "CONNECTOR_PUNCTUATION", type := .byte, accessFlags := 25, slot := 27, constantValue := 0 }, { name := "OTHER_PUNCTUATION", type := .byte, accessFlags := 25, slot := 28, constantValue := 0 }, { name := "MATH_SYMBOL", type := .byte, accessFlags := 25, slot := 29, constantValue := 0 }, { name := "CURRENCY_SYMBOL", type := .byte, accessFlags := 25, slot := 30, constantValue := 0 }, { name := "MODIFIER_SYMBOL", type := .byte, accessFlags := 25, slot := 31, constantValue := 0 }, { name := "OTHER_SYMBOL", type := .byte, accessFlags := 25, slot := 32, constantValue := 0 }, { name := "INITIAL_QUOTE_PUNCTUATION", type := .byte, accessFlags := 25, slot := 33, constantValue := 0 }, { name := "FINAL_QUOTE_PUNCTUATION", type := .byte, accessFlags := 25, slot := 34, constantValue := 0 }, { name := "ERROR", type := .int, accessFlags := 24, slot := 35, constantValue := 0 }, { name := "DIRECTIONALITY_UNDEFINED", type := .byte, accessFlags := 25, slot := 36, constantValue := 0 }, { name := "DIRECTIONALITY_LEFT_TO_RIGHT", type := .byte, accessFlags := 25, slot := 37, constantValue := 0 }, { name := "DIRECTIONALITY_RIGHT_TO_LEFT", type := .byte, accessFlags := 25, slot := 38, constantValue := 0 }, { name := "DIRECTIONALITY_RIGHT_TO_LEFT_ARABIC", type := .byte, accessFlags := 25, slot := 39, constantValue := 0 }, { name := "DIRECTIONALITY_EUROPEAN_NUMBER", type := .byte, accessFlags := 25, slot := 40, constantValue := 0 }, { name := "DIRECTIONALITY_EUROPEAN_NUMBER_SEPARATOR", type := .byte, accessFlags := 25, slot := 41, constantValue := 0 }, { name := "DIRECTIONALITY_EUROPEAN_NUMBER_TERMINATOR", type := .byte, accessFlags := 25, slot := 42, constantValue := 0 }, { name := "DIRECTIONALITY_ARABIC_NUMBER", type := .byte, accessFlags := 25, slot := 43, constantValue := 0 }, { name := "DIRECTIONALITY_COMMON_NUMBER_SEPARATOR", type := .byte, accessFlags := 25, slot := 44, constantValue := 0 }, { name := "DIRECTIONALITY_NONSPACING_MARK", type := .byte, accessFlags := 25, slot := 45, constantValue := 0 }, { name := "DIRECTIONALITY_BOUNDARY_NEUTRAL", type := .byte, accessFlags := 25, slot := 46, constantValue := 0 }, { name := "DIRECTIONALITY_PARAGRAPH_SEPARATOR", type := .byte, accessFlags := 25, slot := 47, constantValue := 0 }, { name := "DIRECTIONALITY_SEGMENT_SEPARATOR", type := .byte, accessFlags := 25, slot := 48, constantValue := 0 }, { name := "DIRECTIONALITY_WHITESPACE", type := .byte, accessFlags := 25, slot := 49, constantValue := 0 }, { name := "DIRECTIONALITY_OTHER_NEUTRALS", type := .byte, accessFlags := 25, slot := 50, constantValue := 0 }, { name := "DIRECTIONALITY_LEFT_TO_RIGHT_EMBEDDING", type := .byte, accessFlags := 25, slot := 51, constantValue := 0 }, { name := "DIRECTIONALITY_LEFT_TO_RIGHT_OVERRIDE", type := .byte, accessFlags := 25, slot := 52, constantValue := 0 }, { name := "DIRECTIONALITY_RIGHT_TO_LEFT_EMBEDDING", type := .byte, accessFlags := 25, slot := 53, constantValue := 0 }, { name := "DIRECTIONALITY_RIGHT_TO_LEFT_OVERRIDE", type := .byte, accessFlags := 25, slot := 54, constantValue := 0 }, { name := "DIRECTIONALITY_POP_DIRECTIONAL_FORMAT", type := .byte, accessFlags := 25, slot := 55, constantValue := 0 }, { name := "DIRECTIONALITY_LEFT_TO_RIGHT_ISOLATE", type := .byte, accessFlags := 25, slot := 56, constantValue := 0 }, { name := "DIRECTIONALITY_RIGHT_TO_LEFT_ISOLATE", type := .byte, accessFlags := 25, slot := 57, constantValue := 0 }, { name := "DIRECTIONALITY_FIRST_STRONG_ISOLATE", type := .byte, accessFlags := 25, slot := 58, constantValue := 0 }, { name := "DIRECTIONALITY_POP_DIRECTIONAL_ISOLATE", type := .byte, accessFlags := 25, slot := 59, constantValue := 0 }, { name := "MIN_HIGH_SURROGATE", type := .char, accessFlags := 25, slot := 60, constantValue := 0 }, { name := "MAX_HIGH_SURROGATE", type := .char, accessFlags := 25, slot := 61, constantValue := 0 }, { name := "MIN_LOW_SURROGATE", type := .char, accessFlags := 25, slot := 62, constantValue := 0 }, { name := "MAX_LOW_SURROGATE", type := .char, accessFlags := 25, slot := 63, constantValue := 0 }, { name := "MIN_SURROGATE", type := .char, accessFlags := 25, slot := 64, constantValue := 0 }, { name := "MAX_SURROGATE", type := .char, accessFlags := 25, slot := 65, constantValue := 0 }, { name := "MIN_SUPPLEMENTARY_CODE_POINT", type := .int, accessFlags := 25, slot := 66, constantValue := 0 }, { name := "MIN_CODE_POINT", type := .int, accessFlags := 25, slot := 67, constantValue := 0 }, { name := "MAX_CODE_POINT", type := .int, accessFlags := 25, slot := 68, constantValue := 0 }, { name := "value", type := .char, accessFlags := 18, slot := 0, constantValue := 0 }, { name := "serialVersionUID", type := .long, accessFlags := 26, slot := 69, constantValue := 0 }, { name := "SIZE", type := .int, accessFlags := 25, slot := 70, constantValue := 0 }, { name := "BYTES", type := .int, accessFlags := 25, slot := 71, constantValue := 0 }, { name := "$assertionsDisabled", type := .boolean, accessFlags := 4120, slot := 72, constantValue := 0 }]
  methods := #[k12m0, k12m1, k12m2, k12m3]
  instanceTypes := #[.char]
  staticTypes := #[.int, .int, .char, .char, (.object "java/lang/Class"), .byte, .byte, .byte, .byte, .byte, .byte, .byte, .byte, .byte, .byte, .byte, .byte, .byte, .byte, .byte, .byte, .byte, .byte, .byte, .byte, .byte, .byte, .byte, .byte, .byte, .byte, .byte, .byte, .byte, .byte, .int, .byte, .byte, .byte, .byte, .byte, .byte, .byte, .byte, .byte, .byte, .byte, .byte, .byte, .byte, .byte, .byte, .byte, .byte, .byte, .byte, .byte, .byte, .byte, .byte, .char, .char, .char, .char, .char, .char, .int, .int, .int, .long, .int, .int, .boolean]
  resolved := Array.replicate 604 none
  statics := none }

def pool13 : Array CpInfo := pool [(4, .class_ 6), (1, u "java/lang/Object"), (0, u "<init>"), (0, u "()V"), (5, .class_ 16), (1, u "java/lang/StringLatin1"), (104, u "$assertionsDisabled"), (0, u "Z"), (98, .class_ 223), (1, u "java/lang/StringLatin1$LinesSpliterator"), (166, .class_ 391), (0, u "java/lang/StringLatin1$CharsSpliterator")] 3

def k13m0 : Method := { name := "<init>", desc := "()V", sig := { parameters := [], returnType := none }, accessFlags := 0, code := none }
/-- java/lang/StringLatin1 -/
def k13 : Class := { plain "java/lang/StringLatin1" (some 0) with
  accessFlags := 48
  interfaces := #[]
  cf := some (fileOf pool13 14 #[.nestMembers #[390, 221]] #[{ accessFlags := 0, nameIndex := 7, descriptorIndex := 8, attributes := #[] }] 48 4 #[] #[{ accessFlags := 4120, nameIndex := 121, descriptorIndex := 122, attributes := #[] }])
  fields := #[{ name := "$assertionsDisabled", type := .boolean, accessFlags := 4120, slot := 0, constantValue := 0 }]
  methods := #[k13m0]
  instanceTypes := #[]
  staticTypes := #[.boolean]
  resolved := Array.replicate 395 none
  statics := none }

def pool14 : Array CpInfo := pool [(9, u "<init>"), (6, .class_ 18), (1, u "java/lang/Object"), (0, u "()V"), (1, .class_ 23), (1, u "jdk/internal/util/ArraysSupport"), (0, u "LOG2_ARRAY_LONG_INDEX_SCALE"), (0, u "I"), (2, u "U"), (0, u "Ljdk/internal/misc/Unsafe;"), (8, u "BIG_ENDIAN"), (0, u "Z"), (8, u "LOG2_BYTE_BIT_SIZE"), (4, u "LOG2_ARRAY_INT_INDEX_SCALE"), (54, u "JLA"), (0, u "Ljdk/internal/access/JavaLangAccess;"), (11, u "LOG2_ARRAY_BOOLEAN_INDEX_SCALE"), (9, u "LOG2_ARRAY_BYTE_INDEX_SCALE"), (5, u "LOG2_ARRAY_CHAR_INDEX_SCALE"), (5, u "LOG2_ARRAY_SHORT_INDEX_SCALE"), (18, u "LOG2_ARRAY_FLOAT_INDEX_SCALE"), (24, u "LOG2_ARRAY_DOUBLE_INDEX_SCALE"), (89, u "T_BOOLEAN"), (2, u "T_CHAR"), (1, u "T_FLOAT"), (1, u "T_DOUBLE"), (1, u "T_BYTE"), (1, u "T_SHORT"), (1, u "T_INT"), (1, u "T_LONG"), (1, u "SOFT_MAX_ARRAY_LENGTH")] 83

def k14m0 : Method := { name := "<init>", desc := "()V", sig := { parameters := [], returnType := none }, accessFlags := 2, code := none }
/-- jdk/internal/util/ArraysSupport -/
def k14 : Class := { plain "jdk/internal/util/ArraysSupport" (some 0) with
  accessFlags := 33
  interfaces := #[]
  cf := some (fileOf pool14 21 #[] #[{ accessFlags := 2, nameIndex := 9, descriptorIndex := 19, attributes := #[] }] 33 16 #[] #[{ accessFlags := 24, nameIndex := 28, descriptorIndex := 29, attributes := #[] }, { accessFlags := 26, nameIndex := 38, descriptorIndex := 39, attributes := #[] }, { accessFlags := 25, nameIndex := 121, descriptorIndex := 25, attributes := #[] }, { accessFlags := 25, nameIndex := 131, descriptorIndex := 25, attributes := #[] }, { accessFlags := 25, nameIndex := 137, descriptorIndex := 25, attributes := #[] }, { accessFlags := 25, nameIndex := 143, descriptorIndex := 25, attributes := #[] }, { accessFlags := 25, nameIndex := 53, descriptorIndex := 25, attributes := #[] }, { accessFlags := 25, nameIndex := 24, descriptorIndex := 25, attributes := #[] }, { accessFlags := 25, nameIndex := 162, descriptorIndex := 25, attributes := #[] }, { accessFlags := 25, nameIndex := 187, descriptorIndex := 25, attributes := #[] }, { accessFlags := 26, nameIndex := 48, descriptorIndex := 25, attributes := #[] }, { accessFlags := 25, nameIndex := 277, descriptorIndex := 25, attributes := #[] }, { accessFlags := 25, nameIndex := 280, descriptorIndex := 25, attributes := #[] }, { accessFlags := 25, nameIndex := 282, descriptorIndex := 25, attributes := #[] }, { accessFlags := 25, nameIndex := 284, descriptorIndex := 25, attributes := #[] }, { accessFlags := 25, nameIndex := 286, descriptorIndex := 25, attributes := #[] }, { accessFlags := 25, nameIndex := 288, descriptorIndex := 25, attributes := #[] }, { accessFlags := 25, nameIndex := 290, descriptorIndex := 25, attributes := #[] }, { accessFlags := 25, nameIndex := 292, descriptorIndex := 25, attributes := #[] }, { accessFlags := 26, nameIndex := 108, descriptorIndex := 109, attributes := #[] }, { accessFlags := 25, nameIndex := 294, descriptorIndex := 25, attributes := #[] }])
  fields := #[{ name := "U", type := (.object "jdk/internal/misc/Unsafe"), accessFlags := 24, slot := 0, constantValue := 0 }, { name := "BIG_ENDIAN", type := .boolean, accessFlags := 26, slot := 1, constantValue := 0 }, { name := "LOG2_ARRAY_BOOLEAN_INDEX_SCALE", type := .int, accessFlags := 25, slot := 2, constantValue := 0 }, { name := "LOG2_ARRAY_BYTE_INDEX_SCALE", type := .int, accessFlags := 25, slot := 3, constantValue := 0 }, { name := "LOG2_ARRAY_CHAR_INDEX_SCALE", type := .int, accessFlags := 25, slot := 4, constantValue := 0 }, { name := "LOG2_ARRAY_SHORT_INDEX_SCALE", type := .int, accessFlags := 25, slot := 5, constantValue := 0 }, { name := "LOG2_ARRAY_INT_INDEX_SCALE", type := .int, accessFlags := 25, slot := 6, constantValue := 0 }, { name := "LOG2_ARRAY_LONG_INDEX_SCALE", type := .int, accessFlags := 25, slot := 7, constantValue := 0 }, { name := "LOG2_ARRAY_FLOAT_INDEX_SCALE", type := .int, accessFlags := 25, slot := 8, constantValue := 0 }, { name := "LOG2_ARRAY_DOUBLE_INDEX_SCALE", type := .int, accessFlags := 25, slot := 9, constantValue := 0 }, { name := "LOG2_BYTE_BIT_SIZE", type := .int, accessFlags := 26, slot := 10, constantValue := 0 }, { name := "T_BOOLEAN", type := .int, accessFlags := 25, slot := 11, constantValue := 0 }, { name := "T_CHAR", type := .int, accessFlags := 25, slot := 12, constantValue := 0 }, { name := "T_FLOAT", type := .int, accessFlags := 25, slot := 13, constantValue := 0 }, { name := "T_DOUBLE", type := .int, accessFlags := 25, slot := 14, constantValue := 0 }, { name := "T_BYTE", type := .int, accessFlags := 25, slot := 15, constantValue := 0 }, { name := "T_SHORT", type := .int, accessFlags := 25, slot := 16, constantValue := 0 }, { name := "T_INT", type := .int, accessFlags := 25, slot := 17, constantValue := 0 }, { name := "T_LONG", type := .int, accessFlags := 25, slot := 18, constantValue := 0 }, { name := "JLA", type := (.object "jdk/internal/access/JavaLangAccess"), accessFlags := 26, slot := 19, constantValue := 0 }, { name := "SOFT_MAX_ARRAY_LENGTH", type := .int, accessFlags := 25, slot := 20, constantValue := 0 }]
  methods := #[k14m0]
  instanceTypes := #[]
  staticTypes := #[(.object "jdk/internal/misc/Unsafe"), .boolean, .int, .int, .int, .int, .int, .int, .int, .int, .int, .int, .int, .int, .int, .int, .int, .int, .int, (.object "jdk/internal/access/JavaLangAccess"), .int]
  resolved := Array.replicate 378 none
  statics := none }

def pool15 : Array CpInfo := pool [(1, u "java/lang/Cloneable"), (0, .class_ 1), (0, u "java/lang/Object"), (0, .class_ 3)] 3

/-- java/lang/Cloneable -/
def k15 : Class := { plain "java/lang/Cloneable" (some 0) with
  accessFlags := 1537
  interfaces := #[]
  cf := some (fileOf pool15 2 #[] #[] 1537 4 #[] #[])
  fields := #[]
  methods := #[]
  instanceTypes := #[]
  staticTypes := #[]
  resolved := Array.replicate 8 none
  statics := none }

/-- the primitive byte -/
def k16 : Class := { plain "byte" none with kind := .primitive 'B', accessFlags := 0x411 }
/-- [B -/
def k17 : Class := { plain "[B" (some 0) with kind := .array 16 .byte, interfaces := #[15, 2], accessFlags := 1041 }

/-- the primitive char -/
def k18 : Class := { plain "char" none with kind := .primitive 'C', accessFlags := 0x411 }
/-- [C -/
def k19 : Class := { plain "[C" (some 0) with kind := .array 18 .char, interfaces := #[15, 2], accessFlags := 1041 }

/-- the primitive int -/
def k20 : Class := { plain "int" none with kind := .primitive 'I', accessFlags := 0x411 }
/-- [I -/
def k21 : Class := { plain "[I" (some 0) with kind := .array 20 .int, interfaces := #[15, 2], accessFlags := 1041 }

def heap : Heap := #[{ cls := 7, slots := #[.long 0, .int 1, .null, .int 0, .null, .int 0, .int 0], vm := .statics 7 },
  { cls := 8, slots := #[.int 0, .int 8, .int 0, .int 1], vm := .statics 8 },
  { cls := 11, slots := #[.null, .null, .null], vm := .statics 11 }]
def classes : Array Class := #[k0, k1, k2, k3, k4, k5, k6, k7, k8, k9, k10, k11, k12, k13, k14, k15, k16, k17, k18, k19, k20, k21]
def interned : List (Array UInt16 × Addr) := []
def slotsUsed : Nat := 14
def theMethod : MethodId := ⟨1, 1⟩
def args0 : Array Value := #[.int 70000, .int 55300, .int 200]
def aboutOver (below : List Frame) : State where
  vm := { classes := classes, interned := interned.toArray }
  heap := heap
  slotsUsed := slotsUsed
  threads := #[{ frames := .invoking theMethod args0 :: below }]
def below0 : List Frame := [.native { method := ⟨0, 0⟩, args := #[] }]
def about1 : State := aboutOver below0
def p0 : Program := .bare "" "" ""
def e0 : Env := launch0.env 0 0 0
theorem w_frames : about1.frames = Frame.invoking theMethod args0 :: below0 := rfl
set_option maxRecDepth 65536 in
theorem w_args : argsFit about1.vm theMethod args0 = true := by decide +kernel
set_option maxRecDepth 65536 in
theorem w_heap : heapFits about1 = true := by decide +kernel
set_option maxRecDepth 65536 in
theorem w_runnable : about1.curStatus? = some .runnable := by decide +kernel
set_option maxRecDepth 65536 in
theorem w_alone : about1.alone = true := by decide +kernel
set_option maxRecDepth 65536 in
theorem w_named : about1.methodNamed? x = some theMethod := by decide +kernel
set_option maxRecDepth 65536 in
theorem w_hears : about1.hears theMethod below0 = true := by decide +kernel
set_option maxRecDepth 65536 in
theorem w_ripe : about1.ripe theMethod args0 below0 = true := by decide +kernel
theorem w_running : about1.status = .running := rfl
set_option maxRecDepth 65536 in
theorem w_room : about1.hasRoom e0.platform room_1 = true :=
  launch0.hasRoom_least _ room_1 (by decide +kernel) (by decide +kernel) (by decide +kernel) (by decide +kernel) (by decide +kernel) (by decide +kernel)
theorem allAtoms_all (ts : List Jvm.Cond) (a : Array Jvm.Value) (st : Jvm.State) : (allAtoms ts).before a st = ts.all (fun c => c.before a st) := by
  induction ts with
  | nil => rfl
  | cons c t ih =>
    show (Jvm.Cond.and c (allAtoms t)).before a st = _
    rw [Jvm.Cond.before_and, ih, List.all_cons]
def words1 : List Jvm.Cond := Jvm.Cond.code x code maxLocals ret :: tables_1
/-- a 'code' word, met by the world's own term for the bytes: nothing is compared byte by byte -/
theorem code_word {y : MethodName} {bytes : ByteArray} {mx : Nat} {rt : Option FieldType} {a : Array Value} {s : State} {m : MethodId} {meth : Method} {c : Code} (h1 : s.methodNamed? y = some m) (h2 : s.vm.method? m = some meth) (h3 : meth.code = some c) (h4 : c.code = bytes)
    (h5 : (c.maxLocals == mx && c.exceptionTable.isEmpty && decide (c.maxStack ≤ mostOperands) && decide (meth.sig.returnType = rt) && !meth.locks && decide (parseMethodDescriptor y.desc = some meth.sig)) = true) : (Jvm.Cond.code y bytes mx rt).before a s = true := by
  simp only [Bool.and_eq_true, beq_iff_eq, Bool.not_eq_true', decide_eq_true_eq] at h5
  obtain ⟨⟨⟨⟨⟨g1, g2⟩, g3⟩, g4⟩, g5⟩, g6⟩ := h5
  simp [Cond.before, Cond.holds, Cond.value, h1, h2, h3, h4, g1, g2, g3, g4, g5, g6]
def isCode : Jvm.Cond → Bool
  | .code _ _ _ _ => true
  | _ => false
theorem all_split {L : List Jvm.Cond} {P : Jvm.Cond → Bool} (h1 : L.all (fun c => isCode c || P c) = true) (h2 : ∀ c ∈ L.filter isCode, P c = true) : L.all P = true := by
  refine List.all_eq_true.mpr fun c hc => ?_
  have h := List.all_eq_true.mp h1 c hc
  rcases Bool.eq_false_or_eq_true (isCode c) with hi | hi
  · exact h2 c (List.mem_filter.mpr ⟨hc, hi⟩)
  · simpa [hi] using h
set_option maxRecDepth 65536 in
theorem w_c0 : (Jvm.Cond.code x code maxLocals ret).before args0 about1 = true := code_word (m := ⟨1, 1⟩) (meth := k1m1) (c := k1c1) (by decide +kernel) rfl rfl rfl (by decide +kernel)
set_option maxRecDepth 65536 in
theorem w_c1 : (Jvm.Cond.code ({ cls := "com/example/libidem/libidem/TextsRequireStorablePinLaw", name := "put", desc := "([CII)I" } : Jvm.MethodName) method_3_code (5 : Nat) (Option.some Jvm.ClassFile.FieldType.int)).before args0 about1 = true := code_word (m := ⟨1, 2⟩) (meth := k1m2) (c := k1c2) (by decide +kernel) rfl rfl rfl (by decide +kernel)
set_option maxRecDepth 65536 in
theorem w_c2 : (Jvm.Cond.code ({ cls := "com/example/libidem/libidem/TextsRequireStorablePinLaw", name := "make", desc := "([CI)Ljava/lang/String;" } : Jvm.MethodName) method_4_code (2 : Nat) (Option.some (Jvm.ClassFile.FieldType.object "java/lang/String"))).before args0 about1 = true := code_word (m := ⟨1, 3⟩) (meth := k1m3) (c := k1c3) (by decide +kernel) rfl rfl rfl (by decide +kernel)
set_option maxRecDepth 65536 in
theorem w_c3 : (Jvm.Cond.code ({ cls := "java/lang/String", name := "<init>", desc := "([C)V" } : Jvm.MethodName) jdk_42_method_3_code (2 : Nat) (Option.none : Option Jvm.ClassFile.FieldType)).before args0 about1 = true := code_word (m := ⟨7, 1⟩) (meth := k7m1) (c := k7c1) (by decide +kernel) rfl rfl rfl (by decide +kernel)
set_option maxRecDepth 65536 in
theorem w_c4 : (Jvm.Cond.code ({ cls := "java/lang/String", name := "<init>", desc := "([CIILjava/lang/Void;)V" } : Jvm.MethodName) jdk_42_method_149_code (6 : Nat) (Option.none : Option Jvm.ClassFile.FieldType)).before args0 about1 = true := code_word (m := ⟨7, 4⟩) (meth := k7m4) (c := k7c4) (by decide +kernel) rfl rfl rfl (by decide +kernel)
set_option maxRecDepth 65536 in
theorem w_c5 : (Jvm.Cond.code ({ cls := "java/lang/Object", name := "<init>", desc := "()V" } : Jvm.MethodName) object_method_1_code (1 : Nat) (Option.none : Option Jvm.ClassFile.FieldType)).before args0 about1 = true := code_word (m := ⟨0, 0⟩) (meth := k0m0) (c := k0c0) (by decide +kernel) rfl rfl rfl (by decide +kernel)
set_option maxRecDepth 65536 in
theorem w_c6 : (Jvm.Cond.code ({ cls := "java/lang/StringUTF16", name := "compress", desc := "([CII)[B" } : Jvm.MethodName) jdk_52_method_16_code (6 : Nat) (Option.some (Jvm.ClassFile.FieldType.array Jvm.ClassFile.FieldType.byte))).before args0 about1 = true := code_word (m := ⟨8, 9⟩) (meth := k8m9) (c := k8c9) (by decide +kernel) rfl rfl rfl (by decide +kernel)
set_option maxRecDepth 65536 in
theorem w_c7 : (Jvm.Cond.code ({ cls := "java/lang/StringUTF16", name := "compress", desc := "([CI[BII)I" } : Jvm.MethodName) jdk_52_method_21_code (7 : Nat) (Option.some Jvm.ClassFile.FieldType.int)).before args0 about1 = true := code_word (m := ⟨8, 10⟩) (meth := k8m10) (c := k8c10) (by decide +kernel) rfl rfl rfl (by decide +kernel)
set_option maxRecDepth 65536 in
theorem w_c8 : (Jvm.Cond.code ({ cls := "java/lang/StringUTF16", name := "coderFromArrayLen", desc := "([BI)B" } : Jvm.MethodName) jdk_52_method_15_code (2 : Nat) (Option.some Jvm.ClassFile.FieldType.byte)).before args0 about1 = true := code_word (m := ⟨8, 8⟩) (meth := k8m8) (c := k8c8) (by decide +kernel) rfl rfl rfl (by decide +kernel)
set_option maxRecDepth 65536 in
theorem w_c9 : (Jvm.Cond.code ({ cls := "com/example/libidem/libidem/Texts", name := "requireStorable", desc := "(Ljava/lang/String;Ljava/lang/String;)Ljava/lang/String;" } : Jvm.MethodName) prog_48_method_2_code (5 : Nat) (Option.some (Jvm.ClassFile.FieldType.object "java/lang/String"))).before args0 about1 = true := code_word (m := ⟨9, 1⟩) (meth := k9m1) (c := k9c1) (by decide +kernel) rfl rfl rfl (by decide +kernel)
set_option maxRecDepth 65536 in
theorem w_c10 : (Jvm.Cond.code ({ cls := "java/util/Objects", name := "requireNonNull", desc := "(Ljava/lang/Object;Ljava/lang/String;)Ljava/lang/Object;" } : Jvm.MethodName) jdk_31_method_11_code (2 : Nat) (Option.some (Jvm.ClassFile.FieldType.object "java/lang/Object"))).before args0 about1 = true := code_word (m := ⟨10, 1⟩) (meth := k10m1) (c := k10c1) (by decide +kernel) rfl rfl rfl (by decide +kernel)
set_option maxRecDepth 65536 in
theorem w_c11 : (Jvm.Cond.code ({ cls := "java/lang/String", name := "length", desc := "()I" } : Jvm.MethodName) jdk_42_method_54_code (1 : Nat) (Option.some Jvm.ClassFile.FieldType.int)).before args0 about1 = true := code_word (m := ⟨7, 2⟩) (meth := k7m2) (c := k7c2) (by decide +kernel) rfl rfl rfl (by decide +kernel)
set_option maxRecDepth 65536 in
theorem w_c12 : (Jvm.Cond.code ({ cls := "java/lang/String", name := "coder", desc := "()B" } : Jvm.MethodName) jdk_42_method_152_code (1 : Nat) (Option.some Jvm.ClassFile.FieldType.byte)).before args0 about1 = true := code_word (m := ⟨7, 5⟩) (meth := k7m5) (c := k7c5) (by decide +kernel) rfl rfl rfl (by decide +kernel)
set_option maxRecDepth 65536 in
theorem w_c13 : (Jvm.Cond.code ({ cls := "java/lang/String", name := "codePointAt", desc := "(I)I" } : Jvm.MethodName) jdk_42_method_57_code (3 : Nat) (Option.some Jvm.ClassFile.FieldType.int)).before args0 about1 = true := code_word (m := ⟨7, 3⟩) (meth := k7m3) (c := k7c3) (by decide +kernel) rfl rfl rfl (by decide +kernel)
set_option maxRecDepth 65536 in
theorem w_c14 : (Jvm.Cond.code ({ cls := "java/lang/String", name := "isLatin1", desc := "()Z" } : Jvm.MethodName) jdk_42_method_154_code (1 : Nat) (Option.some Jvm.ClassFile.FieldType.boolean)).before args0 about1 = true := code_word (m := ⟨7, 6⟩) (meth := k7m6) (c := k7c6) (by decide +kernel) rfl rfl rfl (by decide +kernel)
set_option maxRecDepth 65536 in
theorem w_c15 : (Jvm.Cond.code ({ cls := "java/lang/String", name := "checkIndex", desc := "(II)V" } : Jvm.MethodName) jdk_42_method_155_code (2 : Nat) (Option.none : Option Jvm.ClassFile.FieldType)).before args0 about1 = true := code_word (m := ⟨7, 7⟩) (meth := k7m7) (c := k7c7) (by decide +kernel) rfl rfl rfl (by decide +kernel)
set_option maxRecDepth 65536 in
theorem w_c16 : (Jvm.Cond.code ({ cls := "jdk/internal/util/Preconditions", name := "checkIndex", desc := "(IILjava/util/function/BiFunction;)I" } : Jvm.MethodName) jdk_41_method_11_code (3 : Nat) (Option.some Jvm.ClassFile.FieldType.int)).before args0 about1 = true := code_word (m := ⟨11, 1⟩) (meth := k11m1) (c := k11c1) (by decide +kernel) rfl rfl rfl (by decide +kernel)
set_option maxRecDepth 65536 in
theorem w_c17 : (Jvm.Cond.code ({ cls := "java/lang/Character", name := "charCount", desc := "(I)I" } : Jvm.MethodName) jdk_89_method_18_code (1 : Nat) (Option.some Jvm.ClassFile.FieldType.int)).before args0 about1 = true := code_word (m := ⟨12, 2⟩) (meth := k12m2) (c := k12c2) (by decide +kernel) rfl rfl rfl (by decide +kernel)
set_option maxRecDepth 65536 in
theorem w_c18 : (Jvm.Cond.code ({ cls := "java/lang/StringUTF16", name := "toBytes", desc := "([CII)[B" } : Jvm.MethodName) jdk_52_method_14_code (5 : Nat) (Option.some (Jvm.ClassFile.FieldType.array Jvm.ClassFile.FieldType.byte))).before args0 about1 = true := code_word (m := ⟨8, 7⟩) (meth := k8m7) (c := k8c7) (by decide +kernel) rfl rfl rfl (by decide +kernel)
set_option maxRecDepth 65536 in
theorem w_c19 : (Jvm.Cond.code ({ cls := "java/lang/StringUTF16", name := "newBytesFor", desc := "(I)[B" } : Jvm.MethodName) jdk_52_method_2_code (1 : Nat) (Option.some (Jvm.ClassFile.FieldType.array Jvm.ClassFile.FieldType.byte))).before args0 about1 = true := code_word (m := ⟨8, 1⟩) (meth := k8m1) (c := k8c1) (by decide +kernel) rfl rfl rfl (by decide +kernel)
set_option maxRecDepth 65536 in
theorem w_c20 : (Jvm.Cond.code ({ cls := "java/lang/StringUTF16", name := "newBytesLength", desc := "(I)I" } : Jvm.MethodName) jdk_52_method_3_code (1 : Nat) (Option.some Jvm.ClassFile.FieldType.int)).before args0 about1 = true := code_word (m := ⟨8, 2⟩) (meth := k8m2) (c := k8c2) (by decide +kernel) rfl rfl rfl (by decide +kernel)
set_option maxRecDepth 65536 in
theorem w_c21 : (Jvm.Cond.code ({ cls := "java/lang/StringUTF16", name := "putChar", desc := "([BII)V" } : Jvm.MethodName) jdk_52_method_4_code (3 : Nat) (Option.none : Option Jvm.ClassFile.FieldType)).before args0 about1 = true := code_word (m := ⟨8, 3⟩) (meth := k8m3) (c := k8c3) (by decide +kernel) rfl rfl rfl (by decide +kernel)
set_option maxRecDepth 65536 in
theorem w_c22 : (Jvm.Cond.code ({ cls := "java/lang/StringUTF16", name := "getChar", desc := "([BI)C" } : Jvm.MethodName) jdk_52_method_5_code (2 : Nat) (Option.some Jvm.ClassFile.FieldType.char)).before args0 about1 = true := code_word (m := ⟨8, 4⟩) (meth := k8m4) (c := k8c4) (by decide +kernel) rfl rfl rfl (by decide +kernel)
set_option maxRecDepth 65536 in
theorem w_c23 : (Jvm.Cond.code ({ cls := "java/lang/StringUTF16", name := "codePointAt", desc := "([BII)I" } : Jvm.MethodName) jdk_52_method_8_code (3 : Nat) (Option.some Jvm.ClassFile.FieldType.int)).before args0 about1 = true := code_word (m := ⟨8, 6⟩) (meth := k8m6) (c := k8c6) (by decide +kernel) rfl rfl rfl (by decide +kernel)
set_option maxRecDepth 65536 in
theorem w_c24 : (Jvm.Cond.code ({ cls := "java/lang/StringUTF16", name := "codePointAt", desc := "([BIIZ)I" } : Jvm.MethodName) jdk_52_method_7_code (6 : Nat) (Option.some Jvm.ClassFile.FieldType.int)).before args0 about1 = true := code_word (m := ⟨8, 5⟩) (meth := k8m5) (c := k8c5) (by decide +kernel) rfl rfl rfl (by decide +kernel)
set_option maxRecDepth 65536 in
theorem w_c25 : (Jvm.Cond.code ({ cls := "java/lang/Character", name := "isHighSurrogate", desc := "(C)Z" } : Jvm.MethodName) jdk_89_method_14_code (1 : Nat) (Option.some Jvm.ClassFile.FieldType.boolean)).before args0 about1 = true := code_word (m := ⟨12, 0⟩) (meth := k12m0) (c := k12c0) (by decide +kernel) rfl rfl rfl (by decide +kernel)
set_option maxRecDepth 65536 in
theorem w_c26 : (Jvm.Cond.code ({ cls := "java/lang/Character", name := "isLowSurrogate", desc := "(C)Z" } : Jvm.MethodName) jdk_89_method_15_code (1 : Nat) (Option.some Jvm.ClassFile.FieldType.boolean)).before args0 about1 = true := code_word (m := ⟨12, 1⟩) (meth := k12m1) (c := k12c1) (by decide +kernel) rfl rfl rfl (by decide +kernel)
set_option maxRecDepth 65536 in
theorem w_c27 : (Jvm.Cond.code ({ cls := "java/lang/Character", name := "toCodePoint", desc := "(CC)I" } : Jvm.MethodName) jdk_89_method_19_code (2 : Nat) (Option.some Jvm.ClassFile.FieldType.int)).before args0 about1 = true := code_word (m := ⟨12, 3⟩) (meth := k12m3) (c := k12c3) (by decide +kernel) rfl rfl rfl (by decide +kernel)
def codes1 : List Jvm.Cond := [Jvm.Cond.code x code maxLocals ret, Jvm.Cond.code ({ cls := "com/example/libidem/libidem/TextsRequireStorablePinLaw", name := "put", desc := "([CII)I" } : Jvm.MethodName) method_3_code (5 : Nat) (Option.some Jvm.ClassFile.FieldType.int), Jvm.Cond.code ({ cls := "com/example/libidem/libidem/TextsRequireStorablePinLaw", name := "make", desc := "([CI)Ljava/lang/String;" } : Jvm.MethodName) method_4_code (2 : Nat) (Option.some (Jvm.ClassFile.FieldType.object "java/lang/String")), Jvm.Cond.code ({ cls := "java/lang/String", name := "<init>", desc := "([C)V" } : Jvm.MethodName) jdk_42_method_3_code (2 : Nat) (Option.none : Option Jvm.ClassFile.FieldType), Jvm.Cond.code ({ cls := "java/lang/String", name := "<init>", desc := "([CIILjava/lang/Void;)V" } : Jvm.MethodName) jdk_42_method_149_code (6 : Nat) (Option.none : Option Jvm.ClassFile.FieldType), Jvm.Cond.code ({ cls := "java/lang/Object", name := "<init>", desc := "()V" } : Jvm.MethodName) object_method_1_code (1 : Nat) (Option.none : Option Jvm.ClassFile.FieldType), Jvm.Cond.code ({ cls := "java/lang/StringUTF16", name := "compress", desc := "([CII)[B" } : Jvm.MethodName) jdk_52_method_16_code (6 : Nat) (Option.some (Jvm.ClassFile.FieldType.array Jvm.ClassFile.FieldType.byte)), Jvm.Cond.code ({ cls := "java/lang/StringUTF16", name := "compress", desc := "([CI[BII)I" } : Jvm.MethodName) jdk_52_method_21_code (7 : Nat) (Option.some Jvm.ClassFile.FieldType.int), Jvm.Cond.code ({ cls := "java/lang/StringUTF16", name := "coderFromArrayLen", desc := "([BI)B" } : Jvm.MethodName) jdk_52_method_15_code (2 : Nat) (Option.some Jvm.ClassFile.FieldType.byte), Jvm.Cond.code ({ cls := "com/example/libidem/libidem/Texts", name := "requireStorable", desc := "(Ljava/lang/String;Ljava/lang/String;)Ljava/lang/String;" } : Jvm.MethodName) prog_48_method_2_code (5 : Nat) (Option.some (Jvm.ClassFile.FieldType.object "java/lang/String")), Jvm.Cond.code ({ cls := "java/util/Objects", name := "requireNonNull", desc := "(Ljava/lang/Object;Ljava/lang/String;)Ljava/lang/Object;" } : Jvm.MethodName) jdk_31_method_11_code (2 : Nat) (Option.some (Jvm.ClassFile.FieldType.object "java/lang/Object")), Jvm.Cond.code ({ cls := "java/lang/String", name := "length", desc := "()I" } : Jvm.MethodName) jdk_42_method_54_code (1 : Nat) (Option.some Jvm.ClassFile.FieldType.int), Jvm.Cond.code ({ cls := "java/lang/String", name := "coder", desc := "()B" } : Jvm.MethodName) jdk_42_method_152_code (1 : Nat) (Option.some Jvm.ClassFile.FieldType.byte), Jvm.Cond.code ({ cls := "java/lang/String", name := "codePointAt", desc := "(I)I" } : Jvm.MethodName) jdk_42_method_57_code (3 : Nat) (Option.some Jvm.ClassFile.FieldType.int), Jvm.Cond.code ({ cls := "java/lang/String", name := "isLatin1", desc := "()Z" } : Jvm.MethodName) jdk_42_method_154_code (1 : Nat) (Option.some Jvm.ClassFile.FieldType.boolean), Jvm.Cond.code ({ cls := "java/lang/String", name := "checkIndex", desc := "(II)V" } : Jvm.MethodName) jdk_42_method_155_code (2 : Nat) (Option.none : Option Jvm.ClassFile.FieldType), Jvm.Cond.code ({ cls := "jdk/internal/util/Preconditions", name := "checkIndex", desc := "(IILjava/util/function/BiFunction;)I" } : Jvm.MethodName) jdk_41_method_11_code (3 : Nat) (Option.some Jvm.ClassFile.FieldType.int), Jvm.Cond.code ({ cls := "java/lang/Character", name := "charCount", desc := "(I)I" } : Jvm.MethodName) jdk_89_method_18_code (1 : Nat) (Option.some Jvm.ClassFile.FieldType.int), Jvm.Cond.code ({ cls := "java/lang/StringUTF16", name := "toBytes", desc := "([CII)[B" } : Jvm.MethodName) jdk_52_method_14_code (5 : Nat) (Option.some (Jvm.ClassFile.FieldType.array Jvm.ClassFile.FieldType.byte)), Jvm.Cond.code ({ cls := "java/lang/StringUTF16", name := "newBytesFor", desc := "(I)[B" } : Jvm.MethodName) jdk_52_method_2_code (1 : Nat) (Option.some (Jvm.ClassFile.FieldType.array Jvm.ClassFile.FieldType.byte)), Jvm.Cond.code ({ cls := "java/lang/StringUTF16", name := "newBytesLength", desc := "(I)I" } : Jvm.MethodName) jdk_52_method_3_code (1 : Nat) (Option.some Jvm.ClassFile.FieldType.int), Jvm.Cond.code ({ cls := "java/lang/StringUTF16", name := "putChar", desc := "([BII)V" } : Jvm.MethodName) jdk_52_method_4_code (3 : Nat) (Option.none : Option Jvm.ClassFile.FieldType), Jvm.Cond.code ({ cls := "java/lang/StringUTF16", name := "getChar", desc := "([BI)C" } : Jvm.MethodName) jdk_52_method_5_code (2 : Nat) (Option.some Jvm.ClassFile.FieldType.char), Jvm.Cond.code ({ cls := "java/lang/StringUTF16", name := "codePointAt", desc := "([BII)I" } : Jvm.MethodName) jdk_52_method_8_code (3 : Nat) (Option.some Jvm.ClassFile.FieldType.int), Jvm.Cond.code ({ cls := "java/lang/StringUTF16", name := "codePointAt", desc := "([BIIZ)I" } : Jvm.MethodName) jdk_52_method_7_code (6 : Nat) (Option.some Jvm.ClassFile.FieldType.int), Jvm.Cond.code ({ cls := "java/lang/Character", name := "isHighSurrogate", desc := "(C)Z" } : Jvm.MethodName) jdk_89_method_14_code (1 : Nat) (Option.some Jvm.ClassFile.FieldType.boolean), Jvm.Cond.code ({ cls := "java/lang/Character", name := "isLowSurrogate", desc := "(C)Z" } : Jvm.MethodName) jdk_89_method_15_code (1 : Nat) (Option.some Jvm.ClassFile.FieldType.boolean), Jvm.Cond.code ({ cls := "java/lang/Character", name := "toCodePoint", desc := "(CC)I" } : Jvm.MethodName) jdk_89_method_19_code (2 : Nat) (Option.some Jvm.ClassFile.FieldType.int)]
set_option maxRecDepth 65536 in
theorem codes_eq : words1.filter isCode = codes1 := rfl
theorem w_codes : ∀ c ∈ words1.filter isCode, c.before args0 about1 = true := by
  rw [codes_eq]
  intro c hc
  simp only [codes1, List.mem_cons, List.not_mem_nil, or_false] at hc
  rcases hc with rfl | rfl | rfl | rfl | rfl | rfl | rfl | rfl | rfl | rfl | rfl | rfl | rfl | rfl | rfl | rfl | rfl | rfl | rfl | rfl | rfl | rfl | rfl | rfl | rfl | rfl | rfl | rfl
  · exact w_c0
  · exact w_c1
  · exact w_c2
  · exact w_c3
  · exact w_c4
  · exact w_c5
  · exact w_c6
  · exact w_c7
  · exact w_c8
  · exact w_c9
  · exact w_c10
  · exact w_c11
  · exact w_c12
  · exact w_c13
  · exact w_c14
  · exact w_c15
  · exact w_c16
  · exact w_c17
  · exact w_c18
  · exact w_c19
  · exact w_c20
  · exact w_c21
  · exact w_c22
  · exact w_c23
  · exact w_c24
  · exact w_c25
  · exact w_c26
  · exact w_c27
set_option maxRecDepth 65536 in
theorem w_t1 : (words1.take 24).all (fun c => isCode c || c.before args0 about1) = true := by decide +kernel
set_option maxRecDepth 65536 in
theorem w_t2 : ((words1.drop 24).take 24).all (fun c => isCode c || c.before args0 about1) = true := by decide +kernel
set_option maxRecDepth 65536 in
theorem w_t3 : (((words1.drop 24).drop 24).take 24).all (fun c => isCode c || c.before args0 about1) = true := by decide +kernel
set_option maxRecDepth 65536 in
theorem w_t4 : ((((words1.drop 24).drop 24).drop 24).take 24).all (fun c => isCode c || c.before args0 about1) = true := by decide +kernel
set_option maxRecDepth 65536 in
theorem w_t5 : (((((words1.drop 24).drop 24).drop 24).drop 24).take 24).all (fun c => isCode c || c.before args0 about1) = true := by decide +kernel
set_option maxRecDepth 65536 in
theorem w_t6 : (((((words1.drop 24).drop 24).drop 24).drop 24).drop 24).all (fun c => isCode c || c.before args0 about1) = true := by decide +kernel
theorem w_tables : (allAtoms (Jvm.Cond.code x code maxLocals ret :: tables_1)).before args0 about1 = true := by
  rw [allAtoms_all]
  show words1.all (fun c => c.before args0 about1) = true
  refine all_split ?_ w_codes
  rw [← List.take_append_drop 24 words1, List.all_append, w_t1, ← List.take_append_drop 24 (words1.drop 24), List.all_append, w_t2, ← List.take_append_drop 24 ((words1.drop 24).drop 24), List.all_append, w_t3, ← List.take_append_drop 24 (((words1.drop 24).drop 24).drop 24), List.all_append, w_t4, ← List.take_append_drop 24 ((((words1.drop 24).drop 24).drop 24).drop 24), List.all_append, w_t5, w_t6]
  rfl
set_option maxRecDepth 65536 in
theorem w_rest : rest_1_c.before args0 about1 = true := by decide +kernel
set_option maxRecDepth 65536 in
theorem w_case : (Jvm.Cond.and given_1 narrow_1).before args0 about1 = true := by decide +kernel
set_option maxRecDepth 65536 in
theorem w_consts : constsHeld consts_1 about1 := Jvm.Lit.constsHeldB_iff.mp (by decide +kernel)
theorem w_applies : (headSpec (Jvm.Cond.code x code maxLocals ret :: tables_1) room_1).applies x e0.platform about1 = true :=
  (Spec.applies_iff w_frames).mpr ⟨w_running, w_runnable, w_alone, w_named, w_hears, w_ripe, w_room, w_tables⟩
theorem atStart : AtStart classFile x code maxLocals ret World_1 tables_1 room_1 Calls_1 rest_1 Pre_1 launch0 p0 e0 about1 theMethod args0 below0 :=
  ⟨lists_1, trivial, launch0.admits_env _ _ _, launch0.least_env, fairChoices_fair.cas, fairChoices_fair.clock, w_frames, w_args, w_heap, w_applies, ⟨w_consts, trivial⟩, w_rest, w_case⟩
end start1
theorem witness_1 : WitnessClaimed_1 := ⟨start1.p0, start1.e0, start1.about1, start1.theMethod, start1.args0, start1.below0, start1.atStart⟩
end Jvm.Pilot.@@N@@
